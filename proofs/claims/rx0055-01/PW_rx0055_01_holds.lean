import PyProof.Rows.All
import Wide.All
import OpenK.AllK
import PyProof.StrLawsReplace
import KE.KLam
import KE.KEqSeq
import KE.KRevSl
import Wide.FinOn
import PySem.Challenge.RW_rx0055_01
set_option Elab.async false
set_option linter.unusedVariables false
set_option autoImplicit false
set_option bootstrap.genMatcherCode false
set_option genSizeOf false
section
open PySem PySem.W PyProof.Rows
namespace Mine
theorem hide (A : Prop) (f : ∀ G : Prop, (A → G) → G) : A := f A id
theorem tA : ∀ {a b c : Nat}, a ≤ b → b ≤ c → a ≤ c := @Nat.le_trans
theorem tB : ∀ {a b c : Nat}, a ≤ b → b < c → a < c := @Nat.lt_of_le_of_lt
theorem tC : ∀ {a b c : Nat}, a < b → b ≤ c → a < c := @Nat.lt_of_lt_of_le
theorem tD : ∀ {a b : Nat}, a + 1 < b + 1 → a < b := @Nat.lt_of_succ_lt_succ
theorem tE : ∀ (a b : Nat), a ≤ a + b := @Nat.le_add_right
theorem tF : ∀ (a b : Nat), a - b ≤ a := @Nat.sub_le
theorem tG : ∀ (a : Nat), 0 ≤ (a : Int) := @Int.natCast_nonneg
theorem tH : ∀ {a b : Nat}, ¬a < b → b ≤ a := fun h => Nat.not_lt.mp h
theorem tI : ∀ {a b : Nat}, a + 1 ≤ b + 1 → a ≤ b := @Nat.le_of_succ_le_succ
theorem tJ : ∀ {a b : Nat}, a < b → a ≤ b := @Nat.le_of_lt
inductive V where
 | none
 | bool (b : Bool)
 | int (i : Int)
 | str (x : List Nat)
 | byt (x : List Nat)
 | tup (vs : List V)
 | lst (vs : List V)
 | own (k : Nat)
 | app (k : Nat)
 | rng (a b : Int)
 | raw (v : Value)
noncomputable def V.onI {α : Type} (v : V) (f : Int → Option α) : Option α := match v with
 | .int i => f i
 | _ => Option.none
noncomputable def V.onS {α : Type} (v : V) (f : List Nat → Option α) : Option α := match v with
 | .str x => f x
 | _ => Option.none
noncomputable def V.onB {α : Type} (v : V) (f : List Nat → Option α) : Option α := match v with
 | .byt x => f x
 | _ => Option.none
noncomputable def V.onO {α : Type} (v : V) (f : Nat → Option α) : Option α := match v with
 | .own k => f k
 | _ => Option.none
theorem V.onI_some {α : Type} {v : V} {f : Int → Option α} {r : α} (e : v.onI f = some r) : ∃ i, v = .int i ∧ f i = some r := by cases v <;> first | cases e | exact ⟨_, rfl, e⟩
theorem V.onS_some {α : Type} {v : V} {f : List Nat → Option α} {r : α} (e : v.onS f = some r) : ∃ i, v = .str i ∧ f i = some r := by cases v <;> first | cases e | exact ⟨_, rfl, e⟩
theorem V.onB_some {α : Type} {v : V} {f : List Nat → Option α} {r : α} (e : v.onB f = some r) : ∃ i, v = .byt i ∧ f i = some r := by cases v <;> first | cases e | exact ⟨_, rfl, e⟩
theorem V.onO_some {α : Type} {v : V} {f : Nat → Option α} {r : α} (e : v.onO f = some r) : ∃ i, v = .own i ∧ f i = some r := by cases v <;> first | cases e | exact ⟨_, rfl, e⟩
inductive O where
 | lst (vs : List V)
 | obj
noncomputable abbrev sOf (x : List Nat) : Str := ⟨x.toArray⟩
noncomputable abbrev bOf (x : List Nat) : Array UInt8 := (x.map UInt8.ofNat).toArray
mutual
inductive VR (as : List Addr) (h : Heap) : V → Value → Prop
 | none : VR as h .none .none
 | bool (b : Bool) : VR as h (.bool b) (.bool b)
 | int (i : Int) (t : Tok) : VR as h (.int i) (.int i t)
 | str (x : List Nat) (t : Tok) : VR as h (.str x) (.str (sOf x) t)
 | byt (x : List Nat) (t : Tok) : (∀ n ∈ x, n < 256) → VR as h (.byt x) (.bytes (bOf x) t)
 | tup (vs : List V) (a : Addr) (vals : List Value) : IsTup h a vals.toArray → a ∉ as → VRs as h vs vals → VR as h (.tup vs) (.ref a)
 | lst (vs : List V) (a : Addr) (vals : List Value) : h.IsList a vals.toArray → a ∉ as → VRs as h vs vals → VR as h (.lst vs) (.ref a)
 | own (k : Nat) (a : Addr) : as[k]? = some a → VR as h (.own k) (.ref a)
 | app (k : Nat) (a b : Addr) (o : Obj) : as[k]? = some a → h.get? b = some o → o.cls = .type "builtin_function_or_method" → o.data = .fields #[.builtin "list.append", .ref a] → b ∉ as → VR as h (.app k) (.ref b)
 | rng (a b : Int) (r : Addr) (t u v : Tok) : IsRange h r a b 1 t u v → r ∉ as → VR as h (.rng a b) (.ref r)
 | raw (v : Value) : VR as h (.raw v) v
inductive VRs (as : List Addr) (h : Heap) : List V → List Value → Prop
 | nil : VRs as h [] []
 | cons (v : V) (x : Value) (vs : List V) (xs : List Value) : VR as h v x → VRs as h vs xs → VRs as h (v :: vs) (x :: xs)
end
noncomputable def Imm (o : Obj) : Prop := (∃ xs n, o.data = .seq xs n) ∨ ((o.cls = .type "builtin_function_or_method" ∨ o.cls = .type "range") ∧ ∃ vs, o.data = .fields vs)
noncomputable def Tabby (o : Obj) : Prop := (o.cls = .none ∨ o.cls = .type "code") ∧ ∃ vs, o.data = .fields vs
section
variable {as ex : List Addr} {h h' : Heap}
theorem nin_app (fr : ∀ a ∈ ex, h.get? a = none) {b : Addr} {o : Obj} (ho : h.get? b = some o) (n : b ∉ as) : b ∉ as ++ ex := fun m => (List.mem_append.mp m).elim n fun m => by rw [fr b m] at ho; cases ho
theorem get_app {k : Nat} {a : Addr} (e : as[k]? = some a) : (as ++ ex)[k]? = some a := by rw [List.getElem?_append_left (List.getElem?_eq_some_iff.mp e).1]; exact e
theorem step_both (keep : ∀ b o, h.get? b = some o → b ∉ as → Imm o → h'.get? b = some o) (fr : ∀ a ∈ ex, h.get? a = none) : (∀ v x, VR as h v x → VR (as ++ ex) h' v x) ∧ ∀ vs xs, VRs as h vs xs → VRs (as ++ ex) h' vs xs := by
 refine ⟨fun v x q => VR.rec (motive_1 := fun v x _ => VR (as ++ ex) h' v x) (motive_2 := fun v x _ => VRs (as ++ ex) h' v x) .none .bool .int .str .byt ?_ ?_ ?_ ?_ ?_ .raw .nil (fun v x vs xs _ _ => .cons v x vs xs) q, fun v x q => VRs.rec (motive_1 := fun v x _ => VR (as ++ ex) h' v x) (motive_2 := fun v x _ => VRs (as ++ ex) h' v x) .none .bool .int .str .byt ?_ ?_ ?_ ?_ ?_ .raw .nil (fun v x vs xs _ _ => .cons v x vs xs) q⟩
 all_goals first
  | exact fun vs a vals ⟨o, ho, c, k, d⟩ n _ r => .tup vs a vals ⟨o, keep a o ho n (.inl ⟨_, _, d⟩), c, k, d⟩ (nin_app fr ho n) r
  | exact fun vs a vals ⟨o, ho, c, k, d⟩ n _ r => .lst vs a vals ⟨o, keep a o ho n (.inl ⟨_, _, d⟩), c, k, d⟩ (nin_app fr ho n) r
  | exact fun k a e => .own k a (get_app e)
  | exact fun k a b o e ho c d n => .app k a b o (get_app e) (keep b o ho n (.inr ⟨.inl c, _, d⟩)) c d (nin_app fr ho n)
  | exact fun a b r t u v q n => .rng a b r t u v (keep r _ q n (.inr ⟨.inr rfl, _, rfl⟩)) (nin_app fr q n)
theorem VR.step (keep : ∀ b o, h.get? b = some o → b ∉ as → Imm o → h'.get? b = some o) (fr : ∀ a ∈ ex, h.get? a = Option.none) {v : V} {x : Value} : VR as h v x → VR (as ++ ex) h' v x := (step_both keep fr).1 v x
theorem VRs.step (keep : ∀ b o, h.get? b = some o → b ∉ as → Imm o → h'.get? b = some o) (fr : ∀ a ∈ ex, h.get? a = none) {vs : List V} {xs : List Value} : VRs as h vs xs → VRs (as ++ ex) h' vs xs := (step_both keep fr).2 vs xs
theorem VRs.length {vs : List V} {xs : List Value} (r : VRs as h vs xs) : xs.length = vs.length := by
 induction vs generalizing xs with
 | nil => cases r; rfl
 | cons v vs ih => cases r with | cons _ _ _ _ a r => simp [ih r]
theorem VRs.get {vs : List V} {xs : List Value} (r : VRs as h vs xs) {i : Nat} {v : V} (e : vs[i]? = some v) : ∃ x, xs[i]? = some x ∧ VR as h v x := by
 induction vs generalizing xs i with
 | nil => cases e
 | cons w vs ih =>
  cases r with
  | cons _ x _ xs a r =>
   cases i with
   | zero => cases e; exact ⟨x, rfl, a⟩
   | succ i => exact ih r (by simpa using e)
theorem VRs.append {vs ws : List V} {xs ys : List Value} (r : VRs as h vs xs) (q : VRs as h ws ys) : VRs as h (vs ++ ws) (xs ++ ys) := by
 induction vs generalizing xs with
 | nil => cases r; exact q
 | cons w vs ih => cases r with | cons _ x _ xs a r => exact .cons _ _ _ _ a (ih r)
theorem VRs.drop {vs : List V} {xs : List Value} (r : VRs as h vs xs) (n : Nat) : VRs as h (vs.drop n) (xs.drop n) := by
 induction n generalizing vs xs with
 | zero => exact r
 | succ n ih => cases r with
  | nil => exact .nil
  | cons _ _ _ _ a r => exact ih r
theorem VRs.take {vs : List V} {xs : List Value} (r : VRs as h vs xs) (n : Nat) : VRs as h (vs.take n) (xs.take n) := by
 induction n generalizing vs xs with
 | zero => exact .nil
 | succ n ih => cases r with
  | nil => exact .nil
  | cons _ _ _ _ a r => exact .cons _ _ _ _ a (ih r)
end
structure Cx where
 prog : Program
 w : World
 base : Addr → Obj → Prop
 T : List Addr
 tabs : Heap → Prop
 pin : List (Nat × Addr)
 lim : ∀ h : Heap, (∀ a o, base a o → h.get? a = some o) → h.NoLimit
 mg : Str → Option Value
 mb : Str → Option Value
 hg : ∀ h : Heap, (∀ a o, base a o → h.get? a = some o) → h.Ns mainGlobals mg
 hb : ∀ h : Heap, (∀ a o, base a o → h.get? a = some o) → h.Ns builtinsNs mb
 up : ∀ h h' : Heap, (∀ b o, h.get? b = some o → Tabby o → h'.get? b = some o) → tabs h → tabs h'
noncomputable def Cx.Old (C : Cx) (a : Addr) : Prop := (∃ o, C.base a o) ∨ a ∈ C.T
structure Cx.Wd (C : Cx) (h : Heap) : Prop where
 base : ∀ a o, C.base a o → h.get? a = some o
 T : ∀ a ∈ C.T, ∃ vs, h.get? a = some { cls := .none, data := .fields vs }
 tabs : C.tabs h
theorem Cx.Wd.lim {C : Cx} {h : Heap} (r : C.Wd h) : h.NoLimit := C.lim h r.base
theorem Cx.Wd.live {C : Cx} {h : Heap} (r : C.Wd h) {a : Addr} (o : C.Old a) : ∃ o, h.get? a = some o :=
 o.elim (fun ⟨o, b⟩ => ⟨o, r.base a o b⟩) fun m => let ⟨vs, e⟩ := r.T a m; ⟨_, e⟩
theorem Cx.Wd.fresh {C : Cx} {h : Heap} (r : C.Wd h) {a : Addr} (l : h.objs.size ≤ a) : ¬ C.Old a := fun o => let ⟨_, e⟩ := r.live o; Nat.not_le.mpr (Heap.lt_size e) l
noncomputable def VR.Inv (as : List Addr) (h : Heap) : V → Value → Prop
 | .none, x => x = .none
 | .bool b, x => x = .bool b
 | .int i, x => ∃ t, x = .int i t
 | .str y, x => ∃ t, x = .str (sOf y) t
 | .byt y, x => ∃ t, x = .bytes (bOf y) t ∧ ∀ n ∈ y, n < 256
 | .tup vs, x => ∃ a vals, x = .ref a ∧ IsTup h a vals.toArray ∧ a ∉ as ∧ VRs as h vs vals
 | .lst vs, x => ∃ a vals, x = .ref a ∧ h.IsList a vals.toArray ∧ a ∉ as ∧ VRs as h vs vals
 | .own k, x => ∃ a, x = .ref a ∧ as[k]? = some a
 | .app k, x => ∃ a b o, x = .ref b ∧ as[k]? = some a ∧ h.get? b = some o ∧ o.cls = .type "builtin_function_or_method" ∧ o.data = .fields #[.builtin "list.append", .ref a] ∧ b ∉ as
 | .rng a b, x => ∃ r t u v, x = .ref r ∧ IsRange h r a b 1 t u v ∧ r ∉ as
 | .raw v, x => x = v
theorem VR.inv {as : List Addr} {h : Heap} {v : V} {x : Value} (q : VR as h v x) : VR.Inv as h v x :=
 VR.rec (motive_1 := fun v x _ => VR.Inv as h v x) (motive_2 := fun _ _ _ => True) rfl (fun _ => rfl) (fun _ t => ⟨t, rfl⟩) (fun _ t => ⟨t, rfl⟩) (fun _ t p => ⟨t, rfl, p⟩) (fun _ a vals p n r _ => ⟨a, vals, rfl, p, n, r⟩) (fun _ a vals p n r _ => ⟨a, vals, rfl, p, n, r⟩) (fun _ a p => ⟨a, rfl, p⟩) (fun _ a b o p1 p2 p3 p4 p5 => ⟨a, b, o, rfl, p1, p2, p3, p4, p5⟩) (fun _ _ r t u v p n => ⟨r, t, u, v, rfl, p, n⟩) (fun _ => rfl) trivial (fun _ _ _ _ _ _ _ _ => trivial) q
noncomputable def VRs.Inv (as : List Addr) (h : Heap) : List V → List Value → Prop
 | [], xs => xs = []
 | v :: vs, xs => ∃ x r, xs = x :: r ∧ VR as h v x ∧ VRs as h vs r
theorem VRs.inv {as : List Addr} {h : Heap} {vs : List V} {xs : List Value} (q : VRs as h vs xs) : VRs.Inv as h vs xs :=
 VRs.rec (motive_1 := fun _ _ _ => True) (motive_2 := fun vs xs _ => VRs.Inv as h vs xs) trivial (fun _ => trivial) (fun _ _ => trivial) (fun _ _ => trivial) (fun _ _ _ => trivial) (fun _ _ _ _ _ _ _ => trivial) (fun _ _ _ _ _ _ _ => trivial) (fun _ _ _ => trivial) (fun _ _ _ _ _ _ _ _ _ => trivial) (fun _ _ _ _ _ _ _ _ => trivial) (fun _ => trivial) rfl (fun _ x _ r p q _ _ => ⟨x, r, rfl, p, q⟩) q
theorem some2 {α β : Type} {a c : α} {b d : β} (e : some (a, b) = some (c, d)) : a = c ∧ b = d := Prod.mk.inj (Option.some.inj e)
noncomputable def OR (as : List Addr) (h : Heap) (a : Addr) : O → Prop
 | .lst vs => ∃ vals : List Value, PlainL h a vals.toArray ∧ VRs as h vs vals
 | .obj => ∃ o, h.get? a = some o ∧ o.cls = .type "object" ∧ o.data = .plain
structure HR (C : Cx) (as : List Addr) (hp : List O) (h : Heap) : Prop where
 len : as.length = hp.length
 nodup : as.Nodup
 above : ∀ a ∈ as, ¬ C.Old a
 pin : ∀ p ∈ C.pin, as[p.1]? = some p.2
 has : ∀ (k : Nat) (o : O), hp[k]? = some o → ∃ a, as[k]? = some a ∧ OR as h a o
structure Sg where
 loc : List (Option V)
 hp : List O
noncomputable def Held (env : Env) (m : Str → Option Value) (as : List Addr) (h : Heap) (x : Str) (v : V) : Prop :=
 (env.kindOf x = some .local ∧ ∃ val, m x = some val ∧ VR as h v val) ∨
 ((env.kindOf x = some .cell ∨ env.kindOf x = some .free) ∧ ∃ c val, env.cells.lookup x = some c ∧ h.IsCell c (some val) ∧ VR as h v val)
structure Rel (C : Cx) (env : Env) (ns : List Str) (as : List Addr) (σ : Sg) (h : Heap) : Prop where
 wd : C.Wd h
 hr : HR C as σ.hp h
 fr : ∃ m, h.Ns env.locals m ∧ ∀ (i : Nat) (v : V), σ.loc[i]? = some (some v) → ∃ x, ns[i]? = some x ∧ Held env m as h x v
 cells : ∀ c ∈ env.cells, ¬ C.Old c.2 ∧ ∃ v, h.IsCell c.2 v
 lo : ¬ C.Old env.locals
structure EnvOk (env : Env) (ns : List Str) : Prop where
 kind : env.scope.kind = .function
 glob : env.globals = mainGlobals
 blt : env.builtins = builtinsNs
 nodup : ns.Nodup
 cells : (env.cells.map (·.2)).Nodup
noncomputable def mcells (env : Env) : List Addr := if env.func.isSome then (env.cells.filter fun c => env.kindOf c.1 == some .cell).map (·.2) else []
theorem mem_mc {env : Env} {a : Addr} (h : a ∈ mcells env) : a ∈ env.cells.map (·.2) := by
 unfold mcells at h
 split at h
 ·obtain ⟨c, hc, e⟩ := List.mem_map.mp h
  exact e ▸ List.mem_map_of_mem (f := (·.2)) (List.mem_filter.mp hc).1
 ·cases h
structure Step (C : Cx) (env : Env) (as : List Addr) (h : Heap) (as' : List Addr) (h' : Heap) : Prop where
 keep : ∀ b o, h.get? b = some o → b ≠ env.locals → b ∉ mcells env → b ∉ as → b ∉ C.T → h'.get? b = some o
 ext : ∃ ex, as' = as ++ ex ∧ ∀ a ∈ ex, h.get? a = none
 live : ∀ b o, h.get? b = some o → ∃ o', h'.get? b = some o'
section
variable {C : Cx} {env : Env} {ns : List Str} {as as' as'' : List Addr} {h h' h'' : Heap} {σ σ' σ'' : Sg}
theorem Step.refl : Step C env as h as h := ⟨fun _ _ e _ _ _ _ => e, ⟨[], by simp, by simp⟩, fun _ o e => ⟨o, e⟩⟩
theorem fresh_none {h : Heap} {a : Addr} (l : h.objs.size ≤ a) : h.get? a = none := by
 cases q : h.get? a with
 | none => rfl
 | some o => exact absurd (Heap.lt_size q) (Nat.not_lt.mpr l)
theorem Step.trans (x : Step C env as h as' h') (y : Step C env as' h' as'' h'') : Step C env as h as'' h'' := by
 obtain ⟨ex, rfl, f⟩ := x.ext
 obtain ⟨ey, rfl, g⟩ := y.ext
 refine ⟨fun b o e l c a t => y.keep b o (x.keep b o e l c a t) l c (fun m => ?_) t, ⟨ex ++ ey, by simp, fun a m => ?_⟩, fun b o e => let ⟨o', e'⟩ := x.live b o e; y.live b o' e'⟩
 ·rcases List.mem_append.mp m with m | m
  ·exact a m
  ·rw [f b m] at e; cases e
 ·rcases List.mem_append.mp m with m | m
  ·exact f a m
  ·cases q : h.get? a with
   | none => rfl
   | some o =>
    obtain ⟨o', e'⟩ := x.live a o q
    rw [g a m] at e'; cases e'
theorem Rel.apart (r : Rel C env ns as σ h) {b : Addr} {o : Obj} (e : h.get? b = some o) (i : Imm o) : b ≠ env.locals ∧ b ∉ env.cells.map (·.2) ∧ b ∉ C.T := by
 obtain ⟨m, ⟨oL, es, ep, hL, dL, _⟩, _⟩ := r.fr
 refine ⟨fun q => ?_, fun q => ?_, fun q => ?_⟩
 ·subst q
  rw [e] at hL; cases hL
  rcases i with ⟨_, _, i⟩ | ⟨_, _, i⟩ <;> rw [i] at dL <;> cases dL
 ·obtain ⟨c, hc, rfl⟩ := List.mem_map.mp q
  obtain ⟨_, v, oc, h1, h2⟩ := r.cells c hc
  rw [e] at h1; cases h1
  rcases i with ⟨_, _, i⟩ | ⟨_, _, i⟩ <;> rw [i] at h2 <;> cases h2
 ·obtain ⟨vs, h1⟩ := r.wd.T b q
  rw [e] at h1; cases h1
  rcases i with ⟨_, _, i⟩ | ⟨i | i, _⟩ <;> cases i
theorem Rel.move (r : Rel C env ns as σ h) (st : Step C env as h as' h') {v : V} {x : Value} (q : VR as h v x) : VR as' h' v x := by
 obtain ⟨ex, rfl, f⟩ := st.ext
 exact VR.step (fun b o e n i => let ⟨a1, a2, a3⟩ := r.apart e i; st.keep b o e a1 (fun z => a2 (mem_mc z)) n a3) (fun a m => f a m) q
theorem Rel.moves (r : Rel C env ns as σ h) (st : Step C env as h as' h') {v : List V} {x : List Value} (q : VRs as h v x) : VRs as' h' v x := by
 obtain ⟨ex, rfl, f⟩ := st.ext
 exact VRs.step (fun b o e n i => let ⟨a1, a2, a3⟩ := r.apart e i; st.keep b o e a1 (fun z => a2 (mem_mc z)) n a3) (fun a m => f a m) q
theorem VR.keep (k : ∀ b o, h.get? b = some o → b ∉ as → Imm o → h'.get? b = some o) {v : V} {x : Value} (q : VR as h v x) : VR as h' v x := by
 have := VR.step (ex := []) k (by simp) q
 simpa using this
theorem VRs.keep (k : ∀ b o, h.get? b = some o → b ∉ as → Imm o → h'.get? b = some o) {v : List V} {x : List Value} (q : VRs as h v x) : VRs as h' v x := by
 have := VRs.step (ex := []) k (by simp) q
 simpa using this
theorem OR.keep (k : ∀ b o, h.get? b = some o → b ∉ as → Imm o → h'.get? b = some o) {a : Addr} (ka : ∀ o, h.get? a = some o → h'.get? a = some o) {o : O} (q : OR as h a o) : OR as h' a o := by
 cases o with
 | lst vs =>
  obtain ⟨vals, p, w⟩ := q
  exact ⟨vals, p.at ka, VRs.keep k w⟩
 | obj =>
  obtain ⟨o, ho, r⟩ := q
  exact ⟨o, ka _ ho, r⟩
theorem Held.keep {m : Str → Option Value} {x : Str} {v : V} (k : ∀ b o, h.get? b = some o → b ∉ as → Imm o → h'.get? b = some o) (kc : ∀ c ∈ env.cells.map (·.2), ∀ o, h.get? c = some o → h'.get? c = some o)
  (q : Held env m as h x v) : Held env m as h' x v := by
 rcases q with ⟨a, val, b, c⟩ | ⟨a, c, val, b, ⟨oc, d1, d2⟩, e⟩
 ·exact .inl ⟨a, val, b, VR.keep k c⟩
 ·refine .inr ⟨a, c, val, b, ⟨oc, kc c ?_ _ d1, d2⟩, VR.keep k e⟩
  have : (x, c) ∈ env.cells := by
   have := List.lookup_eq_some_iff.mp b
   obtain ⟨l1, l2, e, _⟩ := this
   rw [e]; simp
  exact List.mem_map_of_mem (f := (·.2)) this
theorem Rel.other (r : Rel C env ns as σ h) {M : Addr → Prop} (hk : ∀ b o, ¬ M b → h.get? b = some o → h'.get? b = some o)
  (hM : ∀ b, M b → ¬ C.Old b ∧ b ≠ env.locals ∧ b ∉ env.cells.map (·.2) ∧ b ∉ as ∧ ∀ o, h.get? b = some o → ¬ Imm o ∧ ¬ Tabby o) : Rel C env ns as σ h' := by
 have k : ∀ b o, h.get? b = some o → b ∉ as → Imm o → h'.get? b = some o := fun b o e _ i => hk b o (fun m => ((hM b m).2.2.2.2 o e).1 i) e
 have kb : ∀ b o, C.Old b → h.get? b = some o → h'.get? b = some o := fun b o l e => hk b o (fun m => (hM b m).1 l) e
 have kc : ∀ c ∈ env.cells.map (·.2), ∀ o, h.get? c = some o → h'.get? c = some o := fun c hc o e => hk c o (fun m => (hM c m).2.2.1 hc) e
 refine ⟨⟨fun a o e => kb a o (.inl ⟨o, e⟩) (r.wd.base a o e), fun a ha => let ⟨vs, e⟩ := r.wd.T a ha; ⟨vs, kb _ _ (.inr ha) e⟩, C.up h h' (fun b o e t => hk b o (fun m => ((hM b m).2.2.2.2 o e).2 t) e) r.wd.tabs⟩,
  ⟨r.hr.len, r.hr.nodup, r.hr.above, r.hr.pin, fun i o e => ?_⟩, ?_, fun c hc => ?_, r.lo⟩
 ·obtain ⟨a, ha, q⟩ := r.hr.has i o e
  exact ⟨a, ha, OR.keep k (fun o e => hk a o (fun m => (hM a m).2.2.2.1 (List.mem_of_getElem? ha)) e) q⟩
 ·obtain ⟨m, ⟨oL, es, ep, hL, rL⟩, q⟩ := r.fr
  refine ⟨m, ⟨oL, es, ep, hk _ _ (fun m => (hM _ m).2.1 rfl) hL, rL⟩, fun i v e => ?_⟩
  obtain ⟨x, hx, q⟩ := q i v e
  exact ⟨x, hx, q.keep k kc⟩
 ·obtain ⟨l, v, oc, d1, d2⟩ := r.cells c hc
  exact ⟨l, v, oc, kc _ (List.mem_map_of_mem (f := (·.2)) hc) _ d1, d2⟩
theorem Step.growing (hk : ∀ b o, h.get? b = some o → h'.get? b = some o) : Step C env as h as h' :=
 ⟨fun b o e _ _ _ _ => hk b o e, ⟨[], by simp, by simp⟩, fun b o e => ⟨o, hk b o e⟩⟩
theorem Rel.grow (r : Rel C env ns as σ h) (hk : ∀ b o, h.get? b = some o → h'.get? b = some o) : Rel C env ns as σ h' :=
 r.other (M := fun _ => False) (fun b o _ e => hk b o e) (fun b m => m.elim)
theorem Rel.push (r : Rel C env ns as σ h) (o : Obj) : Rel C env ns as σ (h.push o) := r.grow (fun b o' e => Heap.get?_push_of_some _ e)
theorem Step.push (o : Obj) : Step C env as h as (h.push o) := Step.growing (fun b o' e => Heap.get?_push_of_some _ e)
theorem Rel.alive (r : Rel C env ns as σ h) {a : Addr} (m : a ∈ as) : a < h.objs.size := by
 obtain ⟨k, e⟩ := List.mem_iff_getElem?.mp m
 have l : k < σ.hp.length := r.hr.len ▸ (List.getElem?_eq_some_iff.mp e).1
 obtain ⟨a', e', q⟩ := r.hr.has k _ (List.getElem?_eq_getElem l)
 rw [e] at e'; cases e'
 cases ho : σ.hp[k] with
 | lst vs => rw [ho] at q; obtain ⟨_, p, _⟩ := q; exact p.lt
 | obj => rw [ho] at q; obtain ⟨o, g, _⟩ := q; exact Heap.lt_size g
theorem Rel.newAny (r : Rel C env ns as σ h) {ob : Obj} {o : O} (q : OR (as ++ [h.objs.size]) (h.push ob) h.objs.size o) : Rel C env ns (as ++ [h.objs.size]) { σ with hp := σ.hp ++ [o] } (h.push ob) := by
 have ap : h.objs.size ∉ as := fun m => Nat.lt_irrefl _ (r.alive m)
 have k : ∀ b o, h.get? b = some o → b ∉ as → Imm o → (h.push ob).get? b = some o := fun b o e _ _ => Heap.get?_push_of_some _ e
 have fr : ∀ a ∈ [h.objs.size], h.get? a = none := fun a m => by rw [List.mem_singleton.mp m]; exact fresh_none (Nat.le_refl _)
 have kk : ∀ {v : V} {x : Value}, VR as h v x → VR (as ++ [h.objs.size]) (h.push ob) v x := fun q => VR.step k fr q
 have kks : ∀ {v : List V} {x : List Value}, VRs as h v x → VRs (as ++ [h.objs.size]) (h.push ob) v x := fun q => VRs.step k fr q
 have r' := r.push ob
 refine ⟨r'.wd, ⟨by simp [r.hr.len], List.nodup_append.mpr ⟨r.hr.nodup, by simp, fun a m b mb => by rw [List.mem_singleton.mp mb]; exact fun e => ap (e ▸ m)⟩, fun a m => ?_, fun p hp => by have e := r.hr.pin p hp; rw [List.getElem?_append_left (List.getElem?_eq_some_iff.mp e).1]; exact e, fun i o' e => ?_⟩, ?_, r'.cells, r.lo⟩
 ·rcases List.mem_append.mp m with m | m
  ·exact r.hr.above a m
  ·rw [List.mem_singleton.mp m]; exact r.wd.fresh (Nat.le_refl _)
 ·by_cases l : i < σ.hp.length
  ·rw [List.getElem?_append_left l] at e
   obtain ⟨a, ha, q⟩ := r.hr.has i o' e
   refine ⟨a, by rw [List.getElem?_append_left (by rw [r.hr.len]; exact l)]; exact ha, ?_⟩
   cases o' with
   | lst ws =>
    obtain ⟨vals', p, w⟩ := q
    exact ⟨vals', p.keeps (fun b o e => Heap.get?_push_of_some _ e), kks w⟩
   | obj =>
    obtain ⟨o, ho, q⟩ := q
    exact ⟨o, Heap.get?_push_of_some _ ho, q⟩
  ·rw [List.getElem?_append_right (by exact tH ‹_›)] at e
   have : i - σ.hp.length = 0 := by
    have := (List.getElem?_eq_some_iff.mp e).1
    simp at this; omega
   rw [this] at e
   cases e
   exact ⟨h.objs.size, by rw [List.getElem?_append_right (by rw [r.hr.len]; exact tH ‹_›), r.hr.len, this]; rfl, q⟩
 ·obtain ⟨m, hm, q⟩ := r.fr
  refine ⟨m, hm.push _, fun i v e => ?_⟩
  obtain ⟨x, hx, q⟩ := q i v e
  refine ⟨x, hx, ?_⟩
  rcases q with ⟨a, val, b, c⟩ | ⟨a, c, val, b, ⟨oc, d1, d2⟩, e⟩
  ·exact .inl ⟨a, val, b, kk c⟩
  ·exact .inr ⟨a, c, val, b, ⟨oc, Heap.get?_push_of_some _ d1, d2⟩, kk e⟩
theorem Rel.new (r : Rel C env ns as σ h) {vs : List V} {vals : List Value} (q : VRs as h vs vals) {c : Nat} :
  Rel C env ns (as ++ [h.objs.size]) { σ with hp := σ.hp ++ [.lst vs] } (h.push { cls := .type "list", data := .seq vals.toArray c }) :=
 r.newAny ⟨vals, ⟨_, c, Heap.get?_push_size _ rfl, rfl, rfl, rfl⟩, VRs.step (fun b o e _ _ => Heap.get?_push_of_some _ e) (fun a m => by rw [List.mem_singleton.mp m]; exact fresh_none (Nat.le_refl _)) q⟩
theorem Step.new (o : Obj) : Step C env as h (as ++ [h.objs.size]) (h.push o) :=
 ⟨fun b o' e _ _ _ _ => Heap.get?_push_of_some _ e, ⟨[h.objs.size], rfl, fun a m => by rw [List.mem_singleton.mp m]; exact fresh_none (Nat.le_refl _)⟩, fun b o' e => ⟨o', Heap.get?_push_of_some _ e⟩⟩
end
noncomputable def Room (n : Nat) (A : Around) : Prop := A.handled = none ∧ A.depth + n < recursionLimit ∧ A.units + 20 * n < cLine
noncomputable def Tr {α : Type} (C : Cx) (n : Nat) (env : Env) (ns : List Str) (t : Sem α) (σ σ' : Sg) (R : List Addr → Heap → α → Prop) : Prop :=
 ∀ (A : Around) (s : Shared) (as : List Addr) (Q : α → Shared → Prop) (E : Value → Shared → Prop), Room n A → Rel C env ns as σ s.heap →
  (∀ as' h' tk a, Rel C env ns as' σ' h' → Step C env as s.heap as' h' → R as' h' a → Q a { s with heap := h', toks := tk }) → wpAny (model C.prog C.w) A t Q E s
noncomputable abbrev TE (C : Cx) (n : Nat) (env : Env) (ns : List Str) (e : Expr) (σ : Sg) (v : V) (σ' : Sg) : Prop := Tr C n env ns (eval e env) σ σ' (fun as h x => VR as h v x)
section
variable {C : Cx} {n : Nat} {env : Env} {ns : List Str} {as as' : List Addr} {h h' : Heap} {σ σ' σ₁ σ₂ σ₃ : Sg}
noncomputable def Sg.put (σ : Sg) (i : Nat) (v : V) : Sg := { σ with loc := σ.loc.set i (some v) }
noncomputable def Sg.setO (σ : Sg) (k : Nat) (o : O) : Sg := { σ with hp := σ.hp.set k o }
theorem nodup_get {α : Type} {l : List α} (hn : l.Nodup) {i j : Nat} {x : α} (a : l[i]? = some x) (b : l[j]? = some x) : i = j := by
 obtain ⟨ha, ea⟩ := List.getElem?_eq_some_iff.mp a
 obtain ⟨hb, eb⟩ := List.getElem?_eq_some_iff.mp b
 have p := List.pairwise_iff_getElem.mp hn
 rcases Nat.lt_trichotomy i j with l | l | l
 ·exact absurd (ea.trans eb.symm) (p i j ha hb l)
 ·exact l
 ·exact absurd (eb.trans ea.symm) (p j i hb ha l)
theorem Rel.locals_alive (r : Rel C env ns as σ h) : env.locals < h.objs.size := by
 obtain ⟨m, ⟨o, _, _, e, _⟩, _⟩ := r.fr; exact Heap.lt_size e
theorem Rel.own_ne (r : Rel C env ns as σ h) {a : Addr} (m : a ∈ as) : a ≠ env.locals ∧ a ∉ env.cells.map (·.2) ∧ a ∉ C.T := by
 obtain ⟨k, e⟩ := List.mem_iff_getElem?.mp m
 have l : k < σ.hp.length := r.hr.len ▸ (List.getElem?_eq_some_iff.mp e).1
 obtain ⟨a', e', q⟩ := r.hr.has k _ (List.getElem?_eq_getElem l)
 rw [e] at e'; cases e'
 obtain ⟨mm, ⟨oL, es, ep, hL, dL, _⟩, _⟩ := r.fr
 have key : ∃ o, h.get? a = some o ∧ ((∃ xs c, o.data = .seq xs c) ∨ o.data = .plain) := by
  cases ho : σ.hp[k] with
  | lst vs => rw [ho] at q; obtain ⟨_, ⟨o, c, g, _, _, d⟩, _⟩ := q; exact ⟨o, g, .inl ⟨_, c, d⟩⟩
  | obj => rw [ho] at q; obtain ⟨o, g, _, d⟩ := q; exact ⟨o, g, .inr d⟩
 obtain ⟨o, g, d⟩ := key
 refine ⟨fun z => ?_, fun z => ?_, fun z => ?_⟩
 ·subst z
  rw [hL] at g; cases g
  rcases d with ⟨_, _, d⟩ | d <;> rw [dL] at d <;> cases d
 ·obtain ⟨c, hc, rfl⟩ := List.mem_map.mp z
  obtain ⟨_, v, oc, h1, h2⟩ := r.cells c hc
  rw [h1] at g; cases g
  rcases d with ⟨_, _, d⟩ | d <;> rw [h2] at d <;> cases d
 ·exact r.hr.above a m (.inr z)
theorem Rel.set (r : Rel C env ns as σ h) (hn : ns.Nodup) {i : Nat} {x : Str} (hx : ns[i]? = some x) (hk : env.kindOf x = some .local) {m : Str → Option Value} (hm : h.Ns env.locals m)
  (hs : Heap.SameBut env.locals h h') {v : V} {val : Value} (hv : VR as h v val) (hm' : h'.Ns env.locals (fun y => if y = x then some val else m y)) : Rel C env ns as (σ.put i v) h' := by
 obtain ⟨m0, ⟨oL, es, ep, hL, dL, rL⟩, q⟩ := r.fr
 have em : m0 = m := by
  obtain ⟨o2, es2, ep2, h2, d2, r2⟩ := hm
  rw [hL] at h2; cases h2
  rw [dL] at d2; cases d2
  funext y
  rw [← rL.2 y, r2.2 y]
 subst em
 have hk' : ∀ b o, b ≠ env.locals → h.get? b = some o → h'.get? b = some o := fun b o l e => (hs.2 b l).trans e
 have nL : ∀ b o, h.get? b = some o → Imm o → b ≠ env.locals := fun b o e im => (r.apart e im).1
 have k : ∀ b o, h.get? b = some o → b ∉ as → Imm o → h'.get? b = some o := fun b o e _ im => hk' b o (nL b o e im) e
 have kb : ∀ b o, C.Old b → h.get? b = some o → h'.get? b = some o := fun b o l e => hk' b o (fun z => r.lo (z ▸ l)) e
 refine ⟨⟨fun a o e => kb a o (.inl ⟨o, e⟩) (r.wd.base a o e), fun a ha => let ⟨vs, e⟩ := r.wd.T a ha; ⟨vs, kb _ _ (.inr ha) e⟩, C.up h h' (fun b o e t => hk' b o (fun z => ?_) e) r.wd.tabs⟩,
  ⟨r.hr.len, r.hr.nodup, r.hr.above, r.hr.pin, fun i o e => ?_⟩, ⟨_, hm', fun j w e => ?_⟩, fun c hc => ?_, r.lo⟩
 ·subst z
  rw [hL] at e; cases e
  obtain ⟨_, vs, d⟩ := t
  rw [dL] at d; cases d
 ·obtain ⟨a, ha, q⟩ := r.hr.has i o e
  exact ⟨a, ha, OR.keep k (fun o e => hk' a o (r.own_ne (List.mem_of_getElem? ha)).1 e) q⟩
 ·have e' : (σ.loc.set i (some v))[j]? = some (some w) := e
  rw [List.getElem?_set] at e'
  by_cases ij : i = j
  ·subst ij
   rw [if_pos rfl] at e'
   split at e'
   ·cases e'
    exact ⟨x, hx, .inl ⟨hk, val, if_pos rfl, VR.keep k hv⟩⟩
   ·cases e'
  ·rw [if_neg ij] at e'
   obtain ⟨y, hy, q⟩ := q j w e'
   refine ⟨y, hy, ?_⟩
   have ne : y ≠ x := fun z => ij (nodup_get hn hx (z ▸ hy))
   rcases q with ⟨a, val', b, c⟩ | ⟨a, c, val', b, ⟨oc, d1, d2⟩, e⟩
   ·exact .inl ⟨a, val', (if_neg ne).trans b, VR.keep k c⟩
   ·refine .inr ⟨a, c, val', b, ⟨oc, hk' _ _ (fun z => ?_) d1, d2⟩, VR.keep k e⟩
    subst z
    rw [hL] at d1; cases d1
    rw [dL] at d2; cases d2
 ·obtain ⟨l, v, oc, d1, d2⟩ := r.cells c hc
  refine ⟨l, v, oc, hk' _ _ (fun z => ?_) d1, d2⟩
  rw [z, hL] at d1; cases d1
  rw [dL] at d2; cases d2
theorem Step.set (hs : Heap.SameBut env.locals h h') (hl : ∃ o, h'.get? env.locals = some o) : Step C env as h as h' :=
 ⟨fun b o e l _ _ _ => (hs.2 b l).trans e, ⟨[], by simp, by simp⟩, fun b o e => by
  by_cases z : b = env.locals
  ·rw [z]; exact hl
  ·exact ⟨o, (hs.2 b z).trans e⟩⟩
theorem Rel.setOwn (r : Rel C env ns as σ h) {k : Nat} {a : Addr} (ha : as[k]? = some a) (hs : Heap.SameBut a h h') {vs : List V} {vals : List Value} (hv : VRs as h vs vals) (hl : PlainL h' a vals.toArray) : Rel C env ns as (σ.setO k (.lst vs)) h' := by
 have hm := List.mem_of_getElem? ha
 obtain ⟨n1, n2, n3⟩ := r.own_ne hm
 have hk' : ∀ b o, b ≠ a → h.get? b = some o → h'.get? b = some o := fun b o l e => (hs.2 b l).trans e
 have kk : ∀ b o, h.get? b = some o → b ∉ as → Imm o → h'.get? b = some o := fun b o e q _ => hk' b o (fun z => q (z ▸ hm)) e
 have kb : ∀ b o, C.Old b → h.get? b = some o → h'.get? b = some o := fun b o l e => hk' b o (fun z => r.hr.above a hm (z ▸ l)) e
 obtain ⟨m0, ⟨oL, es, ep, hL, rL⟩, q⟩ := r.fr
 have lk : k < σ.hp.length := r.hr.len ▸ (List.getElem?_eq_some_iff.mp ha).1
 refine ⟨⟨fun a o e => kb a o (.inl ⟨o, e⟩) (r.wd.base a o e), fun a ha => let ⟨vs, e⟩ := r.wd.T a ha; ⟨vs, kb _ _ (.inr ha) e⟩, C.up h h' (fun b o e t => hk' b o (fun z => ?_) e) r.wd.tabs⟩,
  ⟨by simp [Sg.setO, r.hr.len], r.hr.nodup, r.hr.above, r.hr.pin, fun i o e => ?_⟩, ⟨m0, ⟨oL, es, ep, hk' _ _ (Ne.symm n1) hL, rL⟩, fun j w e => ?_⟩, fun c hc => ?_, r.lo⟩
 ·subst z
  obtain ⟨a', ha', q'⟩ := r.hr.has k _ (List.getElem?_eq_getElem lk)
  rw [ha] at ha'; cases ha'
  obtain ⟨_, vs', d⟩ := t
  cases ho : σ.hp[k] with
  | lst vs => rw [ho] at q'; obtain ⟨_, ⟨o2, c, g, _, _, d2⟩, _⟩ := q'; rw [g] at e; cases e; rw [d2] at d; cases d
  | obj => rw [ho] at q'; obtain ⟨o2, g, _, d2⟩ := q'; rw [g] at e; cases e; rw [d2] at d; cases d
 ·have e' : (σ.hp.set k (.lst vs))[i]? = some o := e
  rw [List.getElem?_set] at e'
  by_cases ik : k = i
  ·subst ik
   rw [if_pos rfl, if_pos lk] at e'
   cases e'
   exact ⟨a, ha, vals, hl, VRs.keep kk hv⟩
  ·rw [if_neg ik] at e'
   obtain ⟨b, hb, q⟩ := r.hr.has i o e'
   have ne : b ≠ a := by
    rintro rfl
    exact ik (nodup_get r.hr.nodup ha hb)
   exact ⟨b, hb, OR.keep kk (fun o e => hk' b o ne e) q⟩
 ·obtain ⟨y, hy, q⟩ := q j w e
  exact ⟨y, hy, q.keep kk (fun c hc o e => hk' c o (fun z => n2 (z ▸ hc)) e)⟩
 ·obtain ⟨l, v, oc, d1, d2⟩ := r.cells c hc
  exact ⟨l, v, oc, hk' _ _ (fun z => n2 (z ▸ List.mem_map_of_mem (f := (·.2)) hc)) d1, d2⟩
theorem Step.setOwn {k : Nat} {a : Addr} (ha : as[k]? = some a) (hs : Heap.SameBut a h h') (hl : ∃ o, h'.get? a = some o) : Step C env as h as h' :=
 ⟨fun b o e _ _ n _ => (hs.2 b (fun z => n (z ▸ List.mem_of_getElem? ha))).trans e, ⟨[], by simp, by simp⟩, fun b o e => by
  by_cases z : b = a
  ·rw [z]; exact hl
  ·exact ⟨o, (hs.2 b z).trans e⟩⟩
noncomputable def stores (env : Env) (x : Str) : Bool :=
 match env.kindOf x with
 | some .local => true
 | some .cell => (env.cells.lookup x).isSome && env.func.isSome
 | _ => false
theorem mem_lookup {l : List (Str × Addr)} {x : Str} {c : Addr} (e : l.lookup x = some c) : (x, c) ∈ l := by
 obtain ⟨l1, l2, e, _⟩ := List.lookup_eq_some_iff.mp e
 rw [e]; simp
theorem cell_inj {l : List (Str × Addr)} (hn : (l.map (·.2)).Nodup) {x y : Str} {c : Addr} (e : l.lookup x = some c) (f : l.lookup y = some c) : x = y := by
 have e := mem_lookup e
 have f := mem_lookup f
 obtain ⟨i, hi⟩ := List.mem_iff_getElem?.mp e
 obtain ⟨j, hj⟩ := List.mem_iff_getElem?.mp f
 have := nodup_get hn (i := i) (j := j) (x := c) (by rw [List.getElem?_map, hi]; rfl) (by rw [List.getElem?_map, hj]; rfl)
 subst this
 rw [hi] at hj; cases hj; rfl
theorem Rel.setC (r : Rel C env ns as σ h) (hn : ns.Nodup) (hcn : (env.cells.map (·.2)).Nodup) {i : Nat} {x : Str} {c : Addr} (hx : ns[i]? = some x) (hk : env.kindOf x = some .cell) (hc : env.cells.lookup x = some c)
  (hs : Heap.SameBut c h h') {v : V} {val : Value} (hv : VR as h v val) (hm' : h'.IsCell c (some val)) : Rel C env ns as (σ.put i v) h' := by
 obtain ⟨m, ⟨oL, es, ep, hL, dL, rL⟩, q⟩ := r.fr
 have mc : (x, c) ∈ env.cells := mem_lookup hc
 obtain ⟨lc, vc, occ, ec, dc⟩ := r.cells _ mc
 have ec : h.get? c = some occ := ec
 have hk' : ∀ b o, b ≠ c → h.get? b = some o → h'.get? b = some o := fun b o l e => (hs.2 b l).trans e
 have nC : ∀ b o, h.get? b = some o → Imm o → b ≠ c := fun b o e im z => (r.apart e im).2.1 (z ▸ List.mem_map_of_mem (f := (·.2)) mc)
 have k : ∀ b o, h.get? b = some o → b ∉ as → Imm o → h'.get? b = some o := fun b o e _ im => hk' b o (nC b o e im) e
 have kb : ∀ b o, C.Old b → h.get? b = some o → h'.get? b = some o := fun b o l e => hk' b o (fun z => lc (z ▸ l)) e
 have nL : env.locals ≠ c := fun z => by
  rw [← z, hL] at ec; cases ec
  rw [dL] at dc; cases dc
 refine ⟨⟨fun a o e => kb a o (.inl ⟨o, e⟩) (r.wd.base a o e), fun a ha => let ⟨vs, e⟩ := r.wd.T a ha; ⟨vs, kb _ _ (.inr ha) e⟩, C.up h h' (fun b o e t => hk' b o (fun z => ?_) e) r.wd.tabs⟩,
  ⟨r.hr.len, r.hr.nodup, r.hr.above, r.hr.pin, fun i o e => ?_⟩, ⟨m, ⟨oL, es, ep, hk' _ _ nL hL, dL, rL⟩, fun j w e => ?_⟩, fun d hd => ?_, r.lo⟩
 ·subst z
  rw [ec] at e; cases e
  obtain ⟨_, vs, d⟩ := t
  rw [dc] at d; cases d
 ·obtain ⟨a, ha, q⟩ := r.hr.has i o e
  exact ⟨a, ha, OR.keep k (fun o e => hk' a o (fun z => (r.own_ne (List.mem_of_getElem? ha)).2.1 (z ▸ List.mem_map_of_mem (f := (·.2)) mc)) e) q⟩
 ·have e' : (σ.loc.set i (some v))[j]? = some (some w) := e
  rw [List.getElem?_set] at e'
  by_cases ij : i = j
  ·subst ij
   rw [if_pos rfl] at e'
   split at e'
   ·cases e'
    exact ⟨x, hx, .inr ⟨.inl hk, c, val, hc, hm', VR.keep k hv⟩⟩
   ·cases e'
  ·rw [if_neg ij] at e'
   obtain ⟨y, hy, q⟩ := q j w e'
   refine ⟨y, hy, ?_⟩
   have ne : y ≠ x := fun z => ij (nodup_get hn hx (z ▸ hy))
   rcases q with ⟨a, val', b, cc⟩ | ⟨a, cc, val', b, ⟨oc, d1, d2⟩, e⟩
   ·exact .inl ⟨a, val', b, VR.keep k cc⟩
   ·exact .inr ⟨a, cc, val', b, ⟨oc, hk' _ _ (fun z => ne (cell_inj hcn b (z ▸ hc))) d1, d2⟩, VR.keep k e⟩
 ·obtain ⟨l, v, oc, d1, d2⟩ := r.cells d hd
  by_cases z : d.2 = c
  ·obtain ⟨o', e1, e2⟩ := hm'
   exact ⟨l, _, o', z ▸ e1, e2⟩
  ·exact ⟨l, v, oc, hk' _ _ z d1, d2⟩
theorem Step.setC {c : Addr} (hc : c ∈ mcells env) (hs : Heap.SameBut c h h') (hl : ∃ o, h'.get? c = some o) : Step C env as h as h' :=
 ⟨fun b o e _ l _ _ => (hs.2 b (fun z => l (z ▸ hc))).trans e, ⟨[], by simp, by simp⟩, fun b o e => by
  by_cases z : b = c
  ·rw [z]; exact hl
  ·exact ⟨o, (hs.2 b z).trans e⟩⟩
theorem mem_mcells {x : Str} {c : Addr} (hf : env.func.isSome = true) (hk : env.kindOf x = some .cell) (hc : env.cells.lookup x = some c) : c ∈ mcells env := by
 unfold mcells
 rw [if_pos hf]
 refine List.mem_map.mpr ⟨(x, c), List.mem_filter.mpr ⟨mem_lookup hc, ?_⟩, rfl⟩
 show (env.kindOf x == some NameKind.cell) = true
 rw [hk]; rfl
end
end Mine
end
section
open PySem PySem.W PySem.Spec PySem.Calls PyProof.Rows
namespace Mine
noncomputable abbrev OB {α : Type} (C : Cx) (n : Nat) (env : Env) (ns : List Str) (f : Value → Value → Sem α) (a b : V) (σ σ' : Sg) (R : List Addr → Heap → α → Prop) : Prop :=
 ∀ (A : Around) (s : Shared) (as : List Addr) (x y : Value) (Q : α → Shared → Prop) (E : Value → Shared → Prop), Room n A → Rel C env ns as σ s.heap → VR as s.heap a x → VR as s.heap b y →
  (∀ as' h' tk v, Rel C env ns as' σ' h' → Step C env as s.heap as' h' → R as' h' v → Q v { s with heap := h', toks := tk }) → wpAny (model C.prog C.w) A (f x y) Q E s
noncomputable abbrev IsV (c : V) : List Addr → Heap → Value → Prop := fun as h x => VR as h c x
noncomputable abbrev IsB (b : Bool) : List Addr → Heap → Bool → Prop := fun _ _ x => x = b
section
variable {C : Cx} {n : Nat} {env : Env} {ns : List Str} {σ σ' σ₁ σ₂ σ₃ : Sg} {as : List Addr} {h : Heap}
theorem te_int {i : Int} {k pos} : TE C n env ns (.Constant (.int i) k pos) σ (.int i) σ := fun A s as Q E _ r h => wpAny_Constant_int (h as s.heap _ _ r .refl (.int i _))
theorem te_str {x : Str} {y : List Nat} {k pos} (e : x = sOf y) : TE C n env ns (.Constant (.str x) k pos) σ (.str y) σ := fun A s as Q E _ r h => by
 subst e
 exact wpAny_Constant_str (h as s.heap _ _ r .refl (.str y _))
theorem te_bool {b : Bool} {k pos} : TE C n env ns (.Constant (.bool b) k pos) σ (.bool b) σ := fun A s as Q E _ r h => wpAny_Constant_bool (h as s.heap s.toks _ r .refl (.bool b))
theorem te_loc {x : Str} {pos : Pos} {i : Nat} {v : V} (ok : EnvOk env ns) (hx : ns[i]? = some x) (hv : σ.loc[i]? = some (some v)) (hd : (x == ("__debug__" : Str)) = false) (hz : (x == ("__classdict__" : Str)) = false) : TE C n env ns (.Name x pos) σ v σ := fun A s as Q E _ r h => by
 obtain ⟨m, hm, q⟩ := r.fr
 obtain ⟨y, hy, q⟩ := q i v hv
 rw [hx] at hy; cases hy
 rcases q with ⟨k, val, e, c⟩ | ⟨k, c, val, e1, e2, e3⟩
 ·exact wpAny_Name (wpAny_loadName_local ok.kind k hm e (h as s.heap s.toks _ r .refl c)) hd
 ·rcases k with k | k
  ·exact wpAny_Name (wpAny_loadName_cell ok.kind k e1 e2 (h as s.heap s.toks _ r .refl e3)) hd
  ·exact wpAny_Name (wpAny_loadName_free ok.kind k e1 e2 (h as s.heap s.toks _ r .refl e3) hz) hd
theorem te_glob {x : Str} {pos : Pos} {v : V} {val : Value} (ok : EnvOk env ns) (hx : env.kindOf x = some .globalImplicit) (hv : C.mg x = some val) (hr : ∀ as h, C.Wd h → (∀ a ∈ as, ¬ C.Old a) → VR as h v val)
  (hd : (x == ("__debug__" : Str)) = false) : TE C n env ns (.Name x pos) σ v σ := fun A s as Q E _ r h =>
 Name_function_global ok.kind hx (loadGlobal_global (ok.glob ▸ C.hg _ r.wd.base) hv (h as s.heap s.toks _ r .refl (hr as _ r.wd r.hr.above))) hd
theorem te_blt {x : Str} {pos : Pos} {val : Value} (ok : EnvOk env ns) (hx : env.kindOf x = some .globalImplicit) (hn : C.mg x = none) (hv : C.mb x = some val)
  (hd : (x == ("__debug__" : Str)) = false) : TE C n env ns (.Name x pos) σ (.raw val) σ := fun A s as Q E _ r h =>
 Name_function_global ok.kind hx (loadGlobal_builtin (ok.glob ▸ C.hg _ r.wd.base) hn (ok.blt ▸ C.hb _ r.wd.base) hv (h as s.heap s.toks _ r .refl (.raw val))) hd
theorem te_bin {l op e pos} {a b c : V} (h1 : TE C n env ns l σ a σ₁) (h2 : TE C n env ns e σ₁ b σ₂) (h3 : OB C n env ns (binaryOp op) a b σ₂ σ₃ (IsV c)) : TE C n env ns (.BinOp l op e pos) σ c σ₃ := fun A s as Q E R r h =>
 wpAny_BinOp (h1 A s as _ E R r fun as1 g1 t1 x r1 s1 v1 => h2 A _ as1 _ E R r1 fun as2 g2 t2 y r2 s2 v2 =>
  h3 A _ as2 x y Q E R r2 (r1.move s2 v1) v2 fun as3 g3 t3 v r3 s3 v3 => h as3 g3 t3 v r3 (s1.trans (s2.trans s3)) v3)
theorem te_cmp {l op e pos} {a b c : V} (h1 : TE C n env ns l σ a σ₁) (h2 : TE C n env ns e σ₁ b σ₂) (h3 : OB C n env ns (compareOp op) a b σ₂ σ₃ (IsV c)) (hm : behindInMarks op e = false) : TE C n env ns (.Compare l [op] [e] pos) σ c σ₃ := fun A s as Q E R r h =>
 wpAny_Compare1 (h1 A s as _ E R r fun as1 g1 t1 x r1 s1 v1 => h2 A _ as1 _ E R r1 fun as2 g2 t2 y r2 s2 v2 =>
  h3 A _ as2 x y Q E R r2 (r1.move s2 v1) v2 fun as3 g3 t3 v r3 s3 v3 => h as3 g3 t3 v r3 (s1.trans (s2.trans s3)) v3) hm
noncomputable abbrev TT (C : Cx) (n : Nat) (env : Env) (ns : List Str) (e : Expr) (σ : Sg) (b : Bool) (σ' : Sg) : Prop := Tr C n env ns (isTrue e env (eval e env)) σ σ' (IsB b)
theorem tt_cmp {l op e pos} {a b : V} {c : Bool} (h1 : TE C n env ns l σ a σ₁) (h2 : TE C n env ns e σ₁ b σ₂) (h3 : OB C n env ns (compareOp op) a b σ₂ σ₃ (IsV (.bool c))) (hm : behindInMarks op e = false) : TT C n env ns (.Compare l [op] [e] pos) σ c σ₃ := fun A s as Q E R r h =>
 wpAny_isTrue_Compare1 (h1 A s as _ E R r fun as1 g1 t1 x r1 s1 v1 => h2 A _ as1 _ E R r1 fun as2 g2 t2 y r2 s2 v2 =>
  h3 A _ as2 x y _ E R r2 (r1.move s2 v1) v2 fun as3 g3 t3 v r3 s3 v3 => by
   obtain rfl := v3.inv
   exact wpAny_truthy_bool (h as3 g3 t3 c r3 (s1.trans (s2.trans s3)) rfl)) hm
theorem tt_not {x pos} {b : Bool} (h1 : TT C n env ns x σ b σ₁) : TT C n env ns (.UnaryOp .Not x pos) σ (!b) σ₁ := fun A s as Q E R r h =>
 isTrue_not (h1 A s as _ E R r fun as1 g1 t1 c r1 s1 e => h as1 g1 t1 _ r1 s1 (by show (!c) = !b; rw [show c = b from e]))
end
end Mine
end
section
open PySem PySem.W PySem.Spec PySem.Calls PySem.SeqAt PyProof.Rows
namespace Mine
noncomputable def asList (σ : Sg) : V → Option (List V)
 | .lst vs => some vs
 | .own k => match σ.hp[k]? with
  | some (.lst vs) => some vs
  | _ => none
 | _ => none
noncomputable def Sg.new (σ : Sg) (vs : List V) : V × Sg := (.own σ.hp.length, { σ with hp := σ.hp ++ [.lst vs] })
noncomputable def smallN : Nat := 100000
noncomputable def num2 (g : Int → Int → Option (V × Sg)) (a b : V) : Option (V × Sg) := a.onI fun i => b.onI fun j => g i j
noncomputable def addV (a b : V) (σ : Sg) : Option (V × Sg) := match a with
 | .int a => b.onI fun b => some (.int (a + b), σ)
 | .str x => b.onS fun y => if x.length + y.length ≤ smallN then some (.str (x ++ y), σ) else none
 | .byt x => b.onB fun y => if x.length + y.length ≤ smallN then some (.byt (x ++ y), σ) else none
 | a => (asList σ a).bind fun xs => (asList σ b).bind fun ys => if xs.length + ys.length ≤ smallN then some (σ.new (xs ++ ys)) else none
noncomputable def binop (op : Operator) (a b : V) (σ : Sg) : Option (V × Sg) :=
 match op with
 | .Add => addV a b σ
 | .Sub => num2 (fun a b => some (.int (a - b), σ)) a b
 | .Mult => num2 (fun a b => if a.natAbs < 2 ^ 64 then some (.int (a * b), σ) else none) a b
 | .FloorDiv => num2 (fun a b => if b ≠ 0 ∧ b.natAbs < 1073741824 then some (.int (a.fdiv b), σ) else none) a b
 | .Mod => num2 (fun a b => if b ≠ 0 then some (.int (a.fmod b), σ) else none) a b
 | .Pow => num2 (fun a b => if 0 ≤ b ∧ b ≤ 1000 ∧ a.natAbs < 2 ^ 64 then some (.int (a ^ b.toNat), σ) else none) a b
 | .BitAnd => num2 (fun a b => some (.int (Builtin.bitAnd a b), σ)) a b
 | .BitXor => num2 (fun a b => some (.int (Builtin.bitXor a b), σ)) a b
 | _ => none
section
variable {C : Cx} {n : Nat} {env : Env} {ns : List Str} {σ σ' σ₁ σ₂ σ₃ : Sg} {as : List Addr} {h : Heap} {a b c : V}
theorem lst_of {o : Option O} {vs : List V} (e : (match o with
  | some (.lst vs) => some vs
  | _ => none) = some vs) : o = some (.lst vs) := by
 cases o with
 | none => cases e
 | some o => cases o with
  | lst ws => cases e; rfl
  | obj => cases e
theorem asList_spec {v : V} {x : Value} {vs : List V} (r : Rel C env ns as σ h) (e : asList σ v = some vs) (q : VR as h v x) : ∃ l vals, x = .ref l ∧ h.IsList l vals.toArray ∧ VRs as h vs vals := by
 cases v with
 | lst ws => obtain ⟨l, vals, rfl, q1, q2, q3⟩ := q.inv; cases e; exact ⟨l, vals, rfl, q1, q3⟩
 | own k =>
  replace q := q.inv; obtain ⟨l, rfl, q⟩ := q
  obtain ⟨a', ha, vals, q1, q2⟩ := r.hr.has k _ (lst_of e)
  cases Option.some.inj (q.symm.trans ha)
  exact ⟨l, vals, rfl, q1.isList, q2⟩
 | _ => cases e
theorem sizeLine_val : sizeLine = 16777216 := sizeLine_eq
theorem sOf_append (x y : List Nat) : (sOf x ++ sOf y : Str) = sOf (x ++ y) := by
 apply Str.ext'
 show ((sOf x).cps ++ (sOf y).cps) = _
 simp
theorem sOf_length (x : List Nat) : (sOf x).length = x.length := by simp [Str.length]
theorem bOf_append (x y : List Nat) : bOf x ++ bOf y = bOf (x ++ y) := by simp
theorem bOf_size (x : List Nat) : (bOf x).size = x.length := by simp
theorem newO (r : Rel C env ns as σ h) {vs : List V} {vals : List Value} (q : VRs as h vs vals) {c : Nat} :
  Rel C env ns (as ++ [h.objs.size]) (σ.new vs).2 (h.push { cls := .type "list", data := .seq vals.toArray c }) ∧ VR (as ++ [h.objs.size]) (h.push { cls := .type "list", data := .seq vals.toArray c }) (σ.new vs).1 (.ref h.objs.size) :=
 ⟨r.new q, .own _ _ (by rw [List.getElem?_append_right (by rw [r.hr.len]; exact Nat.le_refl _), r.hr.len, Nat.sub_self]; rfl)⟩
theorem num2_some {g : Int → Int → Option (V × Sg)} {r : V × Sg} (e : num2 g a b = some r) : ∃ i j, a = .int i ∧ b = .int j ∧ g i j = some r := by
 obtain ⟨i, rfl, e1⟩ := V.onI_some e
 obtain ⟨j, rfl, e2⟩ := V.onI_some e1
 exact ⟨_, _, rfl, rfl, e2⟩
theorem if_some {P : Prop} [Decidable P] {α : Type} {x : Option α} {r : α} (e : (if P then x else none) = some r) : P ∧ x = some r := by
 by_cases h : P
 ·exact ⟨h, (if_pos h).symm.trans e⟩
 ·rw [if_neg h] at e; cases e
theorem bnd {α β : Type} {o : Option α} {f : α → Option β} {r : β} (e : o.bind f = some r) : ∃ x, o = some x ∧ f x = some r := by
 cases o with
 | none => cases e
 | some x => exact ⟨x, rfl, e⟩
theorem list_ok (e : ((asList σ a).bind fun xs => (asList σ b).bind fun ys => if xs.length + ys.length ≤ smallN then some (σ.new (xs ++ ys)) else none) = some (c, σ')) : OB C n env ns (binaryOp .Add) a b σ σ' (IsV c) := by
 obtain ⟨xs, h1, e⟩ := bnd e
 obtain ⟨ys, h2, e⟩ := bnd e
 obtain ⟨hb, e⟩ := if_some e
 cases e
 intro A s as x y Q E R r qa qb h
 obtain ⟨l, vals, rfl, hl, q1⟩ := asList_spec r h1 qa
 obtain ⟨m, wals, rfl, hm, q2⟩ := asList_spec r h2 qb
 obtain ⟨⟨cls, dd, data, sl⟩, ho, hc, k, hd⟩ := id hl
 obtain ⟨⟨cls2, dd2, data2, sl2⟩, ho2, hc2, k2, hd2⟩ := id hm
 cases (hc : cls = _); cases (hd : data = _); cases (hc2 : cls2 = _); cases (hd2 : data2 = _)
 have sz : vals.toArray.size + wals.toArray.size ≤ sizeLine := by
  rw [List.size_toArray, List.size_toArray, q1.length, q2.length, sizeLine_val]; unfold smallN at hb; exact tA ‹_› (by decide)
 refine concat_meets ⟨_, ho, rfl⟩ ⟨_, ho2, rfl⟩ noFill_list_add seq_list_add PySem.F.slot_list_add PySem.F.entry_list_add (PySem.F.args_list_add_2 _ _) (list_addW l m vals.toArray wals.toArray k k2 dd dd2 sl sl2 sz) ⟨ho, ho2, ?_⟩
 rw [show vals.toArray ++ wals.toArray = (vals ++ wals).toArray by simp]
 obtain ⟨r', v'⟩ := newO r (q1.append q2) (c := 0)
 exact h _ _ _ _ r' (Step.new _) v'
theorem add_ok (e : addV a b σ = some (c, σ')) : OB C n env ns (binaryOp .Add) a b σ σ' (IsV c) := by
 cases a with
 | int i =>
  obtain ⟨j, rfl, e⟩ := V.onI_some e
  cases e
  exact fun A s as x y Q E R r qa qb h => by obtain ⟨_, rfl⟩ := qa.inv; obtain ⟨_, rfl⟩ := qb.inv; exact add_int (h as s.heap _ _ r .refl (.int _ _))
 | str x =>
  obtain ⟨y, rfl, e⟩ := V.onS_some e
  obtain ⟨hb, e⟩ := if_some e
  cases e
  intro A s as x y Q E R r qa qb h
  obtain ⟨_, rfl⟩ := qa.inv; obtain ⟨_, rfl⟩ := qb.inv
  refine add_str (fun t' tk => ?_) (by rw [sOf_length, sOf_length, sizeLine_val]; unfold smallN at hb; exact tA ‹_› (by decide))
  rw [sOf_append]
  exact h as s.heap _ _ r .refl (.str _ _)
 | byt x =>
  obtain ⟨y, rfl, e⟩ := V.onB_some e
  obtain ⟨hb, e⟩ := if_some e
  cases e
  intro A s as x y Q E R r qa qb h
  obtain ⟨_, rfl, z1⟩ := qa.inv; obtain ⟨_, rfl, z2⟩ := qb.inv
  refine KBy.add_bytes (by rw [bOf_size, bOf_size]; unfold smallN at hb; exact tA ‹_› (by decide)) (fun t' k => ?_)
  rw [bOf_append]
  exact h as s.heap _ _ r .refl (.byt _ _ fun m hm => (List.mem_append.mp hm).elim (z1 m) (z2 m))
 | _ => exact list_ok e
theorem binop_ok {op : Operator} (e : binop op a b σ = some (c, σ')) : OB C n env ns (binaryOp op) a b σ σ' (IsV c) := by
 cases op with
 | Add => exact add_ok e
 | Sub => obtain ⟨i, j, rfl, rfl, e2⟩ := num2_some e; cases e2; exact fun A s as x y Q E R r qa qb h => by obtain ⟨_, rfl⟩ := qa.inv; obtain ⟨_, rfl⟩ := qb.inv; exact sub_int (h as s.heap _ _ r .refl (.int _ _))
 | Mult =>
  obtain ⟨i, j, rfl, rfl, e2⟩ := num2_some e
  obtain ⟨hb, e2⟩ := if_some e2
  cases e2
  exact fun A s as x y Q E R r qa qb h => by obtain ⟨_, rfl⟩ := qa.inv; obtain ⟨_, rfl⟩ := qb.inv; exact mul_int (h as s.heap _ _ r .refl (.int _ _)) (IntMulOk.of_left (PyProof.Rows.intBits_le hb))
 | FloorDiv =>
  obtain ⟨i, j, rfl, rfl, e2⟩ := num2_some e
  obtain ⟨hb, e2⟩ := if_some e2
  cases e2
  exact fun A s as x y Q E R r qa qb h => by obtain ⟨_, rfl⟩ := qa.inv; obtain ⟨_, rfl⟩ := qb.inv; exact floordiv_int hb.1 (h as s.heap _ _ r .refl (.int _ _)) (.inl (PyProof.noPylong_small hb.2))
 | Mod =>
  obtain ⟨i, j, rfl, rfl, e2⟩ := num2_some e
  obtain ⟨hb, e2⟩ := if_some e2
  cases e2
  exact fun A s as x y Q E R r qa qb h => by obtain ⟨_, rfl⟩ := qa.inv; obtain ⟨_, rfl⟩ := qb.inv; exact mod_int' hb (h as s.heap _ _ r .refl (.int _ _))
 | Pow =>
  obtain ⟨i, j, rfl, rfl, e2⟩ := num2_some e
  obtain ⟨hb, e2⟩ := if_some e2
  cases e2
  exact fun A s as x y Q E R r qa qb h => by obtain ⟨_, rfl⟩ := qa.inv; obtain ⟨_, rfl⟩ := qb.inv; exact pow_int_small hb.1 (by omega) hb.2.2 (h as s.heap _ _ r .refl (.int _ _))
 | BitAnd => obtain ⟨i, j, rfl, rfl, e2⟩ := num2_some e; cases e2; exact fun A s as x y Q E R r qa qb h => by obtain ⟨_, rfl⟩ := qa.inv; obtain ⟨_, rfl⟩ := qb.inv; exact and_int (h as s.heap _ _ r .refl (.int _ _))
 | BitXor => obtain ⟨i, j, rfl, rfl, e2⟩ := num2_some e; cases e2; exact fun A s as x y Q E R r qa qb h => by obtain ⟨_, rfl⟩ := qa.inv; obtain ⟨_, rfl⟩ := qb.inv; exact xor_int (h as s.heap _ _ r .refl (.int _ _))
 | _ => cases e
end
noncomputable def idxV (σ : Sg) (a i : V) : Option V := i.onI fun k => match a with
 | .tup vs => if 0 ≤ k ∧ k < 1000000 then vs[k.toNat]? else none
 | .str x => if 0 ≤ k ∧ k < 1000000 then (x[k.toNat]?).map fun c => .str [c] else none
 | .byt x => if 0 ≤ k ∧ k < 1000000 ∧ x.length ≤ smallN then (x[k.toNat]?).map fun c : Nat => .int c else none
 | a => (asList σ a).bind fun vs => if 0 ≤ k then (if k < 1000000 then vs[k.toNat]? else none) else if -(vs.length : Int) ≤ k ∧ vs.length < 1000000 then vs[(k + vs.length).toNat]? else none
noncomputable def cut {α : Type} (x : List α) (lo hi : Option Int) : List α := (x.drop (lo.elim 0 (clipAt x.length))).take (hi.elim x.length (clipAt x.length) - lo.elim 0 (clipAt x.length))
noncomputable def partV : V → Option (Option Int)
 | .none => some none
 | .int k => some (some k)
 | _ => none
noncomputable def slcV (σ : Sg) (a lo hi : V) : Option (V × Sg) :=
 (partV lo).bind fun l => (partV hi).bind fun h => match a with
  | .str x => if x.length ≤ smallN then some (.str (cut x l h), σ) else none
  | .byt x => if x.length ≤ smallN then some (.byt (cut x l h), σ) else none
  | a => (asList σ a).bind fun vs => if vs.length ≤ smallN then some (σ.new (cut vs l h)) else none
section
variable {C : Cx} {n : Nat} {env : Env} {ns : List Str} {σ σ' σ₁ σ₂ σ₃ : Sg} {as : List Addr} {h : Heap} {a b c : V}
theorem seqIndex_pos {k : Int} {n : Nat} (h0 : 0 ≤ k) (h1 : k.toNat < n) : seqIndex? k n = some k.toNat := by
 unfold seqIndex?
 simp only
 split <;> split <;> simp_all <;> lia
theorem uint8_of (m : Nat) (h : m < 256) : (UInt8.ofNat m).toNat = m := by
 simp [UInt8.toNat_ofNat', Nat.mod_eq_of_lt h]
theorem bOf_toList (x : List Nat) : (bOf x).toList = x.map UInt8.ofNat := by simp
theorem asList_own {k : Nat} {vs : List V} (hk : σ.hp[k]? = some (.lst vs)) : asList σ (.own k) = some vs := by unfold asList; dsimp only; rw [hk]
theorem idxV_str {x : List Nat} {k : Int} : idxV σ (.str x) (.int k) = if 0 ≤ k ∧ k < 1000000 then (x[k.toNat]?).map fun c => .str [c] else none := rfl
theorem idxV_own {k : Nat} {i : Int} {vs : List V} (hk : σ.hp[k]? = some (.lst vs)) : idxV σ (.own k) (.int i) = if 0 ≤ i then (if i < 1000000 then vs[i.toNat]? else none) else if -(vs.length : Int) ≤ i ∧ vs.length < 1000000 then vs[(i + vs.length).toNat]? else none := by
 show (asList σ (.own k)).bind _ = _
 rw [asList_own hk]; rfl
theorem idx_end {k : Nat} {vs : List V} {v : V} (hk : σ.hp[k]? = some (.lst vs)) (hi : vs.getLast? = some v) (hz : vs.length < 1000000) : idxV σ (.own k) (.int (-1)) = some v := by
 have l1 : 1 ≤ vs.length := by
  cases vs with
  | nil => cases hi
  | cons a b => simp
 rw [idxV_own hk, if_neg (by decide), if_pos (by lia), show ((-1 : Int) + (vs.length : Int)).toNat = vs.length - 1 by lia, ← List.getLast?_eq_getElem?, hi]
theorem idxV_lst {i : Int} {vs : List V} : idxV σ (.lst vs) (.int i) = if 0 ≤ i then (if i < 1000000 then vs[i.toNat]? else none) else if -(vs.length : Int) ≤ i ∧ vs.length < 1000000 then vs[(i + vs.length).toNat]? else none := rfl
theorem slcV_str {x : List Nat} {lo hi : V} {l h : Option Int} (pl : partV lo = some l) (ph : partV hi = some h) (hz : x.length ≤ smallN) : slcV σ (.str x) lo hi = some (.str (cut x l h), σ) := by
 unfold slcV; rw [pl, ph]; exact if_pos hz
theorem slcV_byt {x : List Nat} {lo hi : V} {l h : Option Int} (pl : partV lo = some l) (ph : partV hi = some h) (hz : x.length ≤ smallN) : slcV σ (.byt x) lo hi = some (.byt (cut x l h), σ) := by
 unfold slcV; rw [pl, ph]; exact if_pos hz
theorem mp_some {α β : Type} {o : Option α} {f : α → β} {r : β} (e : o.map f = some r) : ∃ x, o = some x ∧ f x = r := by
 cases o with
 | none => cases e
 | some x => exact ⟨x, rfl, Option.some.inj e⟩
theorem idx_list {k : Int} (e : ((asList σ a).bind fun vs => if 0 ≤ k then (if k < 1000000 then vs[k.toNat]? else none) else if -(vs.length : Int) ≤ k ∧ vs.length < 1000000 then vs[(k + vs.length).toNat]? else none) = some c) : OB C n env ns (fun o i => getItem o i) a (.int k) σ σ (IsV c) := by
 intro A s as x y Q E R r qa qb h
 obtain ⟨vs, hl, e⟩ := bnd e
 obtain ⟨_, rfl⟩ := qb.inv
 obtain ⟨l, vals, rfl, q1, q3⟩ := asList_spec r hl qa
 by_cases h0 : 0 ≤ k
 ·obtain ⟨h1, e⟩ := if_some ((if_pos h0).symm.trans e)
  obtain ⟨w, hw, qw⟩ := q3.get e
  exact wpAny_getItem_list q1 h0 (by lia) (by simpa using hw) (h as s.heap s.toks _ r .refl qw)
 ·obtain ⟨h1, e⟩ := if_some ((if_neg h0).symm.trans e)
  obtain ⟨w, hw, qw⟩ := q3.get e
  refine wpAny_getItem_list_neg q1 (by lia) (by rw [List.size_toArray, q3.length]; exact h1.1) (by lia) ?_ (h as s.heap s.toks _ r .refl qw)
  rw [List.size_toArray, q3.length]
  simpa using hw
theorem getItem_ok {σ : Sg} (e : idxV σ a b = some c) : OB C n env ns (fun o i => getItem o i) a b σ σ (IsV c) := by
 replace e := V.onI_some e; obtain ⟨k, rfl, e⟩ := e
 cases a with
 | tup vs =>
  obtain ⟨h0, e⟩ := if_some e
  intro A s as x y Q E R r qa qb h
  obtain ⟨_, rfl⟩ := qb.inv
  obtain ⟨t, vals, rfl, q1, _, q3⟩ := qa.inv
  obtain ⟨w, hw, qw⟩ := q3.get e
  have lt : k.toNat < vals.length := (List.getElem?_eq_some_iff.mp hw).1
  exact getItem_tuple (j := k.toNat) q1 (by lia) (by lia) (seqIndex_pos h0.1 (by simpa using lt)) (by simpa using hw) (h as s.heap s.toks _ r .refl qw)
 | str x =>
  obtain ⟨h0, e⟩ := if_some e
  obtain ⟨d, hc, rfl⟩ := mp_some e
  intro A s as x' y Q E R r qa qb h
  obtain ⟨_, rfl⟩ := qb.inv; obtain ⟨_, rfl⟩ := qa.inv
  have lt : k.toNat < x.length := (List.getElem?_eq_some_iff.mp hc).1
  refine getItem_gives (typeIs_str s _ _) (by decide) PySem.F.slot_str_getitem PySem.F.entry_str_getitem (PySem.F.args_str_getitem_2 _ _) (PySem.gives_str_getitem _ k _ _ d ?_ ?_) ?_
  ·simp only [Bool.or_eq_false_iff, decide_eq_false_iff_not]; lia
  ·rw [seqIndex_pos h0.1 (by rw [sOf_length]; exact lt)]
   simpa using hc
  ·exact ⟨by rw [sizeLine_val]; show 1 ≤ _; exact Nat.succ_pos _, h as s.heap _ _ r .refl (.str [d] _)⟩
 | byt x =>
  obtain ⟨h0, e⟩ := if_some e
  obtain ⟨d, hc, rfl⟩ := mp_some e
  intro A s as x' y Q E R r qa qb h
  obtain ⟨_, rfl⟩ := qb.inv
  obtain ⟨_, rfl, z⟩ := qa.inv
  have lt : k.toNat < x.length := (List.getElem?_eq_some_iff.mp hc).1
  refine getItem_bytes (l := x.map UInt8.ofNat) (by rw [List.length_map]; have := h0.2.2; unfold smallN at this; exact tA ‹_› (by decide)) h0.1 (by rw [List.length_map]; lia) ?_
  have : ((x.map UInt8.ofNat).getD k.toNat 0).toNat = d := by
   simp only [List.getD, List.getElem?_map, hc, Option.map_some, Option.getD_some]
   exact uint8_of d (z d (List.mem_of_getElem? hc))
  rw [this]
  exact h as s.heap _ _ r .refl (.int _ _)
 | _ => exact idx_list e
theorem idx_typeL {σ : Sg} {x : Value} {s : Shared} {k : Int} (r : Rel C env ns as σ s.heap) (e : ((asList σ a).bind fun vs => if 0 ≤ k then (if k < 1000000 then vs[k.toNat]? else none) else if -(vs.length : Int) ≤ k ∧ vs.length < 1000000 then vs[(k + vs.length).toNat]? else none) = some c) (qa : VR as s.heap a x) : ∃ T id, s.TypeIs x T ∧ typeLookup (.type T) "__getitem__" = pure (some (.builtin id)) := by
 obtain ⟨vs, hl, _⟩ := bnd e
 obtain ⟨l, vals, rfl, q1, q3⟩ := asList_spec r hl qa
 exact ⟨_, _, q1.typeIs, slot_list_getitem.lookup⟩
theorem idx_type {σ : Sg} {x y : Value} {s : Shared} (r : Rel C env ns as σ s.heap) (e : idxV σ a b = some c) (qa : VR as s.heap a x) : ∃ T id, s.TypeIs x T ∧ typeLookup (.type T) "__getitem__" = pure (some (.builtin id)) := by
 replace e := V.onI_some e; obtain ⟨k, rfl, e⟩ := e
 cases a with
 | tup vs => obtain ⟨t, vals, rfl, q1, _, q3⟩ := qa.inv; exact ⟨_, _, q1.typeIs, PySem.F.slot_tuple_getitem.lookup⟩
 | str x => obtain ⟨_, rfl⟩ := qa.inv; exact ⟨_, _, typeIs_str _ _ _, PySem.F.slot_str_getitem.lookup⟩
 | byt x => obtain ⟨_, rfl, _⟩ := qa.inv; exact ⟨_, _, typeIs_bytes _ _ _, FB.slot_bytes_getitem.lookup⟩
 | _ => exact idx_typeL r e qa
theorem te_idx {value slice : Expr} {pos : Pos} (h1 : TE C n env ns value σ a σ₁) (h2 : TE C n env ns slice σ₁ b σ₂) (e : idxV σ₂ a b = some c) (hs : ∀ o i, subscripted slice false o i = operate [o, i] (getItem o i)) : TE C n env ns (.Subscript value slice pos) σ c σ₂ := fun A s as Q E R r h =>
 Subscript_ (h1 A s as _ E R r fun as1 g1 t1 x r1 s1 v1 => h2 A _ as1 _ E R r1 fun as2 g2 t2 y r2 s2 v2 => by
  obtain ⟨T, id, ty, lk⟩ := idx_type (s := { s with heap := g2, toks := t2 }) (y := y) r2 e (r1.move s2 v1)
  exact tail_any ty lk (getItem_ok (n := n) e A _ as2 x y _ E R r2 (r1.move s2 v1) v2 fun as3 g3 t3 v r3 s3 v3 => h as3 g3 t3 v r3 (s1.trans (s2.trans s3)) v3) (hs _ _))
theorem partV_spec {v : V} {x : Value} {p : Option Int} {as : List Addr} {h : Heap} (e : partV v = some p) (q : VR as h v x) : IsPart x p := by
 cases v with
 | none => obtain rfl := q.inv; cases e; exact .none
 | int k => obtain ⟨_, rfl⟩ := q.inv; cases e; exact .int _ _
 | _ => cases e
noncomputable abbrev TP (C : Cx) (n : Nat) (env : Env) (ns : List Str) (e : Option Expr) (σ : Sg) (v : V) (σ' : Sg) : Prop := Tr C n env ns (evalPart e env) σ σ' (fun as h x => VR as h v x)
theorem tp_none : TP C n env ns none σ .none σ := fun A s as Q E _ r h => wpAny_evalPart_none (h as s.heap s.toks _ r .refl .none)
theorem tp_some {e : Expr} (x : TE C n env ns e σ a σ') : TP C n env ns (some e) σ a σ' := fun A s as Q E R r h => x A s as Q E R r h
theorem array_pick {α : Type} (x : Array α) (lo hi : Option Int) : (sliceRange (lo.elim 0 (clipAt x.size) : Nat) (hi.elim x.size (clipAt x.size) : Nat) 1).filterMap (x[·]?) = cut x.toList lo hi := by
 rw [sliceRange_one]
 simpa [cut] using pick_run x _ _
open PySem.Builtin.Str in
theorem strIdx_cut (x : List Nat) (lo hi : Option Int) : (strSliceIndices lo hi 1 x.length).filterMap (x.toArray[·]?) = cut x lo hi := by
 have e : strSliceIndices lo hi 1 x.length = sliceRange (lo.elim 0 (clipAt x.length) : Nat) (hi.elim x.length (clipAt x.length) : Nat) 1 := by
  unfold strSliceIndices
  have c := clipAt_cast x.length
  cases lo <;> cases hi <;> simp [c]
 rw [e]
 exact array_pick x.toArray lo hi
open PySem.Builtin.Str in
theorem strIdx_whole (x : List Nat) (lo hi : Option Int) (e : (strSliceIndices lo hi 1 x.length).length = x.length) : cut x lo hi = x := by
 have c := clipAt_cast x.length
 have ee : strSliceIndices lo hi 1 x.length = sliceRange (lo.elim 0 (clipAt x.length) : Nat) (hi.elim x.length (clipAt x.length) : Nat) 1 := by
  unfold strSliceIndices
  cases lo <;> cases hi <;> simp [c]
 rw [ee, sliceRange_one, List.length_map, List.length_range] at e
 have l2 : hi.elim x.length (clipAt x.length) ≤ x.length := by
  cases hi with
  | none => exact Nat.le_refl _
  | some k => have := c k; simp only [Option.elim]; omega
 unfold cut
 rw [e, List.take_of_length_le (by rw [List.length_drop]; exact tF _ _)]
 by_cases z : x.length = 0
 ·rw [List.length_eq_zero_iff.mp z]; simp
 ·have : lo.elim 0 (clipAt x.length) = 0 := by lia
  rw [this]; rfl
theorem cut_len {α : Type} (x : List α) (lo hi : Option Int) : (cut x lo hi).length ≤ x.length := ((List.take_sublist _ _).trans (List.drop_sublist _ _)).length_le
theorem VRs.cut {as : List Addr} {h : Heap} {vs : List V} {xs : List Value} (q : VRs as h vs xs) (lo hi : Option Int) : VRs as h (Mine.cut vs lo hi) (Mine.cut xs lo hi) := by
 unfold Mine.cut
 rw [← q.length]
 exact (q.drop _).take _
end
section
variable {C : Cx} {n : Nat} {env : Env} {ns : List Str} {σ σ' σ₁ σ₂ σ₃ σ₄ : Sg} {as : List Addr} {h : Heap} {a b c d : V}
theorem slc_list {value : Expr} {lo hi : Option Expr} {p : Pos} {A : Around} {s : Shared} {x vl vu : Value} {Q : Value → Shared → Prop} {E : Value → Shared → Prop} {l u : Option Int} (e : ((asList σ a).bind fun vs => if vs.length ≤ smallN then some (σ.new (cut vs l u)) else none) = some (d, σ')) (r : Rel C env ns as σ s.heap)
  (qa : VR as s.heap a x) (pl : IsPart vl l) (pu : IsPart vu u) {sl : Addr} (hsl : s.heap.IsSliceOf sl vl vu .none)
  (h : ∀ as' h' tk v, Rel C env ns as' σ' h' → Step C env as s.heap as' h' → VR as' h' d v → Q v { s with heap := h', toks := tk }) :
  wpAny (model C.prog C.w) A (subscriptTail value (.Slice lo hi none p) x (.ref sl)) Q E s := by
 obtain ⟨vs, hl, e⟩ := bnd e
 obtain ⟨hz, e⟩ := if_some e
 cases e
 obtain ⟨ad, vals, rfl, q1, q3⟩ := asList_spec r hl qa
 refine tail_any q1.typeIs slot_list_getitem.lookup ?_ rfl
 refine wpAny_getItem_list_slice q1 hsl pl pu .none (by simp) ?_ (by rw [List.size_toArray, q3.length, sizeLine_val]; unfold smallN at hz; exact tA ‹_› (by decide))
 rw [show slicePick vals.toArray l u none = (cut vals l u).toArray by rw [slicePick_plain]; unfold cut; simp]
 obtain ⟨r', v'⟩ := newO r (q3.cut l u) (c := 0)
 exact h _ _ s.toks _ r' (Step.new _) v'
theorem part_of {v : Value} {l : Option Int} (q : IsPart v l) : ∃ L : Option (Int × Tok), v = partValue L ∧ L.map (·.1) = l := by
 cases q with
 | none => exact ⟨none, rfl, rfl⟩
 | int k t => exact ⟨some (k, t), rfl, rfl⟩
theorem slc_ok {value : Expr} {lo hi : Option Expr} {p : Pos} {A : Around} {s : Shared} {x vl vu : Value} {Q : Value → Shared → Prop} {E : Value → Shared → Prop} (e : slcV σ a b c = some (d, σ')) (r : Rel C env ns as σ s.heap)
  (qa : VR as s.heap a x) (qb : VR as s.heap b vl) (qc : VR as s.heap c vu) {sl : Addr} (hsl : s.heap.IsSliceOf sl vl vu .none)
  (h : ∀ as' h' tk v, Rel C env ns as' σ' h' → Step C env as s.heap as' h' → VR as' h' d v → Q v { s with heap := h', toks := tk }) :
  wpAny (model C.prog C.w) A (subscriptTail value (.Slice lo hi none p) x (.ref sl)) Q E s := by
 replace e := bnd e; obtain ⟨l, hl, e⟩ := e
 replace e := bnd e; obtain ⟨u, hu, e⟩ := e
 have pl := partV_spec hl qb
 have pu := partV_spec hu qc
 cases a with
 | str x =>
  obtain ⟨hz, e⟩ := if_some e
  cases e
  obtain ⟨t, rfl⟩ := qa.inv
  obtain ⟨L, rfl, rfl⟩ := part_of pl
  obtain ⟨U, rfl, rfl⟩ := part_of pu
  refine tail_any (typeIs_str _ _ _) PySem.F.slot_str_getitem.lookup ?_ rfl
  obtain ⟨o, ho, hc, hd⟩ := hsl
  refine wpAny_getItem_str_slice (l := L) (u := U) (st := none) ⟨o, ho, hc, hd⟩ rfl ?_
  unfold sliceMade slicePicked
  have ek : (Builtin.Str.strSliceIndices (L.map (·.1)) (U.map (·.1)) 1 (sOf x).length).filterMap ((sOf x).cps[·]?) = cut x (L.map (·.1)) (U.map (·.1)) := by rw [sOf_length]; exact strIdx_cut x _ _
  simp only [Option.map_none, Option.getD_none, ek]
  split
  ·rename_i hw
   simp only [Bool.and_eq_true, beq_iff_eq, sOf_length] at hw
   have := h as s.heap s.toks (.str (sOf (cut x (L.map (·.1)) (U.map (·.1)))) t) r .refl (.str _ _)
   rwa [strIdx_whole x _ _ hw.2] at this
  ·exact ⟨by rw [sOf_length]; have := cut_len x (L.map (·.1)) (U.map (·.1)); rw [sizeLine_val]; unfold smallN at hz; exact tA ‹_› (tA ‹_› (by decide)), h as s.heap _ _ r .refl (.str _ _)⟩
 | byt x =>
  obtain ⟨hz, e⟩ := if_some e
  cases e
  obtain ⟨t, rfl, z⟩ := qa.inv
  refine tail_any (typeIs_bytes _ _ _) FB.slot_bytes_getitem.lookup ?_ rfl
  have pe : KBy.picked (bOf x) l u = bOf (cut x l u) := by
   rw [KBc.picked_eq, bOf_size, bOf_toList]
   unfold cut
   simp
  refine getItem_meets (typeIs_bytes _ _ _) (by decide) FB.slot_bytes_getitem FB.entry_bytes_getitem (FB.args_bytes_getitem_2 _ _) (KBc.meets_slice2 (bOf x) t _ pl pu) ⟨hsl, ?_, fun t' k => ?_⟩
  ·rw [pe, bOf_size]; have := cut_len x l u; rw [sizeLine_val]; unfold smallN at hz; exact tA ‹_› (tA ‹_› (by decide))
  ·rw [pe]
   exact h as s.heap k _ r .refl (.byt _ _ fun m hm => z m (List.mem_of_mem_drop (List.mem_of_mem_take hm)))
 | _ => exact slc_list e r qa pl pu hsl h
theorem te_slc {value : Expr} {lo hi : Option Expr} {p pos : Pos} (h1 : TE C n env ns value σ a σ₁) (h2 : TP C n env ns lo σ₁ b σ₂) (h3 : TP C n env ns hi σ₂ c σ₃) (e : slcV σ₃ a b c = some (d, σ₄)) :
  TE C n env ns (.Subscript value (.Slice lo hi none p) pos) σ d σ₄ := fun A s as Q E R r h =>
 Subscript_ (h1 A s as _ E R r fun as1 g1 t1 x r1 s1 v1 => wpAny_Slice (h2 A _ as1 _ E R r1 fun as2 g2 t2 y r2 s2 v2 => h3 A _ as2 _ E R r2 fun as3 g3 t3 z r3 s3 v3 => wpAny_evalPart_none (by
  refine slc_ok (as := as3) (s := { s with heap := g3.push { cls := .type "slice", data := .fields #[y, z, .none] }, toks := t3 }) e (r3.push _) ?_ ?_ ?_ (Heap.IsSliceOf.new _ _ _ _) fun as4 g4 t4 v r4 s4 v4 => h as4 g4 t4 v r4 (s1.trans (s2.trans (s3.trans ((Step.push _).trans s4)))) v4
  ·exact r3.move (Step.push _) (r2.move s3 (r1.move s2 v1))
  ·exact r3.move (Step.push _) (r2.move s3 v2)
  ·exact r3.move (Step.push _) v3)))
end
section
variable {C : Cx} {n m : Nat} {env : Env} {ns : List Str} {σ σ' σ₁ σ₂ σ₃ σ₄ : Sg} {as as' : List Addr} {h h' : Heap} {a b c d : V}
theorem Room.le {A : Around} (h : Room n A) (l : m ≤ n) : Room m A := ⟨h.1, by have := h.2.1; lia, by have := h.2.2; lia⟩
noncomputable abbrev TS (C : Cx) (n : Nat) (env : Env) (ns : List Str) (es : List Expr) (pos : Pos) (σ : Sg) (vs : List V) (σ' : Sg) : Prop :=
 Tr C n env ns (spliced (backTo pos (starEach es env))) σ σ' (fun as h xs => VRs as h vs xs)
noncomputable def notStar : Expr → Bool
 | .Starred .. => false
 | _ => true
theorem starEach_cons {e : Expr} {rest : List Expr} (hn : notStar e = true) : starEach (e :: rest) env = (false, eval e env) :: starEach rest env := by
 cases e <;> first | rfl | cases hn
theorem ts_nil {pos : Pos} : TS C n env ns [] pos σ [] σ := fun A s as Q E _ r h => args_nil (h as s.heap s.toks _ r .refl .nil)
theorem ts_cons {e : Expr} {rest : List Expr} {pos : Pos} {vs : List V} (hn : notStar e = true) (h1 : TE C n env ns e σ a σ₁) (h2 : TS C n env ns rest pos σ₁ vs σ₂) : TS C n env ns (e :: rest) pos σ (a :: vs) σ₂ := fun A s as Q E R r h =>
 args_cons (h1 A s as _ E R r fun as1 g1 t1 x r1 s1 v1 => h2 A _ as1 _ E R r1 fun as2 g2 t2 xs r2 s2 v2 => h as2 g2 t2 _ r2 (s1.trans s2) (.cons _ _ _ _ (r1.move s2 v1) v2)) (starEach_cons hn)
theorem te_list {es : List Expr} {pos : Pos} {vs : List V} (h1 : TS C n env ns es pos σ vs σ₁) (hz : vs.length ≤ smallN) : TE C n env ns (.List es pos) σ (σ₁.new vs).1 (σ₁.new vs).2 := fun A s as Q E R r h =>
 List_ (h1 A s as _ E R r fun as1 g1 t1 xs r1 s1 v1 => by
  obtain ⟨r', v'⟩ := newO r1 v1 (c := 0)
  refine wpAny_newObj_type (h _ _ t1 _ r' (s1.trans (Step.new _)) v') ?_
  show xs.toArray.size ≤ sizeLine
  rw [List.size_toArray, v1.length, sizeLine_val]; unfold smallN at hz; exact tA ‹_› (by decide))
theorem te_tup {es : List Expr} {k : Nat} {pos : Pos} {vs : List V} (h1 : TS C n env ns es pos σ vs σ₁) (hz : vs.length ≤ smallN) : TE C n env ns (.Tuple es k pos) σ (.tup vs) σ₁ := fun A s as Q E R r h =>
 Tuple_ (h1 A s as _ E R r fun as1 g1 t1 xs r1 s1 v1 => by
  refine wpAny_newObj_type (h as1 _ t1 _ (r1.push _) (s1.trans (Step.push _)) (.tup _ _ xs ⟨_, Heap.get?_push_size _ rfl, rfl, 0, rfl⟩ (fun m => Nat.lt_irrefl _ (r1.alive m)) (r1.moves (Step.push _) v1))) ?_
  show xs.toArray.size ≤ sizeLine
  rw [List.size_toArray, v1.length, sizeLine_val]; unfold smallN at hz; exact tA ‹_› (by decide))
structure KeepA (C : Cx) (as : List Addr) (h : Heap) (as' : List Addr) (h' : Heap) : Prop where
 keep : ∀ b o, h.get? b = some o → b ∉ as → b ∉ C.T → h'.get? b = some o
 ext : ∃ ex, as' = as ++ ex ∧ ∀ a ∈ ex, h.get? a = none
 live : ∀ b o, h.get? b = some o → ∃ o', h'.get? b = some o'
noncomputable def Spc (C : Cx) (n : Nat) (f : Value) (args : List V) (hp : List O) (v : V) (hp' : List O) : Prop :=
 ∀ (A : Around) (s : Shared) (as : List Addr) (xs : List Value) (Q : Value → Shared → Prop) (E : Value → Shared → Prop), Room n A → C.Wd s.heap → HR C as hp s.heap → VRs as s.heap args xs →
  (∀ as' h' tk x, C.Wd h' → HR C as' hp' h' → KeepA C as s.heap as' h' → VR as' h' v x → Q x { s with heap := h', toks := tk }) → wpAny (model C.prog C.w) A (call f xs) Q E s
theorem Spc.le {f : Value} {args : List V} {hp hp' : List O} {v : V} (h : Spc C m f args hp v hp') (l : m ≤ n) : Spc C n f args hp v hp' := fun A s as xs Q E R => h A s as xs Q E (R.le l)
theorem Step.of (k : KeepA C as h as' h') : Step C env as h as' h' := ⟨fun b o e _ _ n t => k.keep b o e n t, k.ext, k.live⟩
theorem Rel.called (r : Rel C env ns as σ h) (k : KeepA C as h as' h') {hp' : List O} (wd : C.Wd h') (hr : HR C as' hp' h') : Rel C env ns as' { σ with hp := hp' } h' := by
 obtain ⟨m0, ⟨oL, es, ep, hL, dL, rL⟩, q⟩ := r.fr
 have mv : ∀ {v : V} {x : Value}, VR as h v x → VR as' h' v x := fun q => r.move (Step.of k) q
 have nL : env.locals ∉ as := fun m => (r.own_ne m).1 rfl
 have nT : ∀ a, ¬ C.Old a → a ∉ C.T := fun a l m => l (.inr m)
 have kc : ∀ c ∈ env.cells, ∀ o, h.get? c.2 = some o → h'.get? c.2 = some o := fun c hc o e => k.keep _ o e (fun m => (r.own_ne m).2.1 (List.mem_map_of_mem (f := (·.2)) hc)) (nT _ (r.cells c hc).1)
 refine ⟨wd, hr, ⟨m0, ⟨oL, es, ep, k.keep _ _ hL nL (nT _ r.lo), dL, rL⟩, fun i v e => ?_⟩, fun c hc => ?_, r.lo⟩
 ·obtain ⟨x, hx, q⟩ := q i v e
  refine ⟨x, hx, ?_⟩
  rcases q with ⟨a, val, b, c⟩ | ⟨a, c, val, b, ⟨oc, d1, d2⟩, e⟩
  ·exact .inl ⟨a, val, b, mv c⟩
  ·have : (x, c) ∈ env.cells := by
    obtain ⟨l1, l2, e, _⟩ := List.lookup_eq_some_iff.mp b
    rw [e]; simp
   exact .inr ⟨a, c, val, b, ⟨oc, kc _ this _ d1, d2⟩, mv e⟩
 ·obtain ⟨l, v, oc, d1, d2⟩ := r.cells c hc
  exact ⟨l, v, oc, kc c hc _ d1, d2⟩
theorem te_call {fe : Expr} {es : List Expr} {pos : Pos} {f : Addr} {vs : List V} {v : V} {hp' : List O} {o : Obj} {fd : FuncData} (h1 : TE C n env ns fe σ (.raw (.ref f)) σ₁) (hb : C.base f o) (hd : o.data = .func fd) (hn : es ≠ [] ∧ es.head?.all notStar = true)
  (h2 : TS C n env ns es pos σ₁ vs σ₂) (h3 : Spc C n (.ref f) vs σ₂.hp v hp') (he : eval (.Call fe es [] pos) env = (do callWith pos (← eval fe env) [] (backTo pos (starEach es env)) (backToKw pos (keywordEach [] env)))) :
  TE C n env ns (.Call fe es [] pos) σ v { σ₂ with hp := hp' } := fun A s as Q E R r h => by
 cases es with
 | nil => exact absurd rfl hn.1
 | cons e rest =>
  refine Call_ (h1 A s as _ E R r fun as1 g1 t1 x r1 s1 v1 => ?_) he
  obtain rfl := v1.inv
  refine callWith_def (o := o) hd (h2 A _ as1 _ E R r1 fun as2 g2 t2 xs r2 s2 v2 => ⟨r2.wd.base f o hb, ?_⟩) (starEach_cons hn.2)
  exact h3 A _ as2 xs Q E R r2.wd r2.hr v2 fun as3 g3 t3 y w3 hr3 k3 q3 => h as3 g3 t3 y (r2.called k3 w3 hr3) (s1.trans (s2.trans (Step.of k3))) q3
end
inductive F where
 | next
 | brk
 | ret (v : V)
inductive FR (as : List Addr) (h : Heap) : F → Flow → Prop
 | next : FR as h .next .next
 | brk : FR as h .brk .brk
 | ret (v : V) (x : Value) : VR as h v x → FR as h (.ret v) (.ret x)
noncomputable def FR.Inv (as : List Addr) (h : Heap) : F → Flow → Prop
 | .next, y => y = .next
 | .brk, y => y = .brk
 | .ret v, y => ∃ x, y = .ret x ∧ VR as h v x
theorem FR.inv {as : List Addr} {h : Heap} {f : F} {y : Flow} (q : FR as h f y) : FR.Inv as h f y :=
 FR.rec (motive := fun f y _ => FR.Inv as h f y) rfl rfl (fun _ x p => ⟨x, rfl, p⟩) q
section
variable {C : Cx} {n m : Nat} {env : Env} {ns : List Str} {σ σ' σ₁ σ₂ σ₃ σ₄ : Sg} {as as' : List Addr} {h h' : Heap} {a b c d v : V} {f : F}
noncomputable abbrev TX (C : Cx) (n : Nat) (env : Env) (ns : List Str) (st : Stmt) (σ : Sg) (f : F) (σ' : Sg) : Prop := Tr C n env ns (exec st env) σ σ' (fun as h x => FR as h f x)
noncomputable abbrev TB (C : Cx) (n : Nat) (env : Env) (ns : List Str) (b : List Stmt) (σ : Sg) (f : F) (σ' : Sg) : Prop := Tr C n env ns (execs b env) σ σ' (fun as h x => FR as h f x)
theorem tb_nil : TB C n env ns [] σ .next σ := fun A s as Q E _ r h => wpAny_execs_nil (h as s.heap s.toks _ r .refl .next)
theorem tb_cons {st : Stmt} {rest : List Stmt} (h1 : TX C n env ns st σ .next σ₁) (h2 : TB C n env ns rest σ₁ f σ₂) : TB C n env ns (st :: rest) σ f σ₂ := fun A s as Q E R r h =>
 wpAny_execs_cons (h1 A s as _ E R r fun as1 g1 t1 x r1 s1 v1 => by
  obtain rfl := v1.inv
  exact h2 A _ as1 Q E R r1 fun as2 g2 t2 x r2 s2 v2 => h as2 g2 t2 x r2 (s1.trans s2) v2)
theorem tb_stop {st : Stmt} {rest : List Stmt} (h1 : TX C n env ns st σ f σ₁) (hf : f ≠ .next) : TB C n env ns (st :: rest) σ f σ₁ := fun A s as Q E R r h =>
 wpAny_execs_cons (h1 A s as _ E R r fun as1 g1 t1 x r1 s1 v1 => by
  cases v1 with
  | next => exact absurd rfl hf
  | brk => exact h as1 g1 t1 _ r1 s1 .brk
  | ret v x q => exact h as1 g1 t1 _ r1 s1 (.ret v x q))
theorem store_loc (ok : EnvOk env ns) {i : Nat} {x : Str} (hx : ns[i]? = some x) (hk : stores env x = true) {A : Around} {s : Shared} {val : Value} {Q : Unit → Shared → Prop} {E : Value → Shared → Prop} (r : Rel C env ns as σ s.heap) (hv : VR as s.heap v val)
  (h : ∀ h' tk, Rel C env ns as (σ.put i v) h' → Step C env as s.heap as h' → Q () { s with heap := h', toks := tk }) : wpAny (model C.prog C.w) A (storeName env x val) Q E s := by
 unfold stores at hk
 split at hk
 ·rename_i hk1
  clear hk
  have hk := hk1
  obtain ⟨m, hm, _⟩ := id r.fr
  exact wpAny_storeName_local hk hm (fun h' hn hs => h h' _ (r.set ok.nodup hx hk hm hs hv hn) (Step.set hs (let ⟨o, _, _, e, _⟩ := hn; ⟨o, e⟩))) (by rw [ok.kind]; rfl)
 ·rename_i hk2
  rw [Bool.and_eq_true] at hk
  obtain ⟨c, hc⟩ := Option.isSome_iff_exists.mp hk.1
  obtain ⟨_, v0, hv0⟩ := r.cells _ (mem_lookup hc)
  exact wpAny_storeName_cell ok.kind hk2 hc hv0 fun h' hn hs => h h' s.toks (r.setC ok.nodup ok.cells hx hk2 hc hs hv hn) (Step.setC (mem_mcells hk.2 hk2 hc) hs (let ⟨o, e, _⟩ := hn; ⟨o, e⟩))
 ·cases hk
theorem tx_asg (ok : EnvOk env ns) {i : Nat} {x : Str} {p : Pos} {value : Expr} {pos : Pos} (hx : ns[i]? = some x) (hk : stores env x = true) (h1 : TE C n env ns value σ v σ₁) (hs : swapsWith value (some (.Name x p)) pos.line env = pure false) :
  TX C n env ns (.Assign [.Name x p] value pos) σ .next (σ₁.put i v) := fun A s as Q E R r h =>
 wpAny_Assign_Name (h1 A s as _ E R r fun as1 g1 t1 y r1 s1 v1 => store_loc ok hx hk r1 v1 fun g2 t2 r2 s2 => h as1 g2 t2 _ r2 (s1.trans s2) .next) hs
theorem tx_expr {value : Expr} {pos : Pos} (hv : v = .none) (h1 : TE C n env ns value σ v σ₁) (hi : interactive env = false) (hs : swapsWith value none pos.line env = pure false) : TX C n env ns (.Expr value pos) σ .next σ₁ := fun A s as Q E R r h => by
 subst hv
 exact wpAny_Expr (h1 A s as _ E R r fun as1 g1 t1 y r1 s1 v1 => by
  obtain rfl := v1.inv
  exact h as1 g1 t1 _ r1 s1 .next) hi hs
theorem tx_if {test : Expr} {body orelse : List Stmt} {pos : Pos} {b : Bool} (h1 : TT C n env ns test σ b σ₁) (h2 : TB C n env ns (if b then body else orelse) σ₁ f σ₂) : TX C n env ns (.If test body orelse pos) σ f σ₂ := fun A s as Q E R r h =>
 wpAny_If (h1 A s as _ E R r fun as1 g1 t1 y r1 s1 v1 => by
  have e : y = b := v1
  subst e
  have := h2 A { s with heap := g1, toks := t1 } as1 Q E R r1 fun as2 g2 t2 x r2 s2 v2 => h as2 g2 t2 x r2 (s1.trans s2) v2
  cases y
  ·simpa using this
  ·simpa using this)
theorem tx_ret {value : Expr} {pos : Pos} (h1 : TE C n env ns value σ v σ₁) : TX C n env ns (.Return (some value) pos) σ (.ret v) σ₁ := fun A s as Q E R r h =>
 wpAny_Return_some (h1 A s as _ E R r fun as1 g1 t1 y r1 s1 v1 => h as1 g1 t1 _ r1 s1 (.ret _ _ v1))
theorem tx_brk {pos : Pos} : TX C n env ns (.Break pos) σ .brk σ := fun A s as Q E R r h => wpAny_Break (h as s.heap s.toks _ r .refl .brk)
theorem tx_assert {test : Expr} {msg : Option Expr} {pos : Pos} (h1 : TT C n env ns test σ true σ₁) : TX C n env ns (.Assert test msg pos) σ .next σ₁ := fun A s as Q E R r h =>
 wpAny_Assert_holds (h1 A s as _ E R r fun as1 g1 t1 y r1 s1 v1 => by
  have e : y = true := v1
  subst e
  first | exact ⟨rfl, h as1 g1 t1 _ r1 s1 .next⟩ | exact h as1 g1 t1 _ r1 s1 .next)
inductive WhI (C : Cx) (env : Env) (ns : List Str) (as : List Addr) (s : Shared) (I : Nat → Sg → Prop) (k : Nat) : Shared → Prop
 | mk (as' : List Addr) (h' : Heap) (tk : Nat) (σ' : Sg) : I k σ' → Rel C env ns as' σ' h' → Step C env as s.heap as' h' → WhI C env ns as s I k { s with heap := h', toks := tk }
theorem tx_while {test : Expr} {body : List Stmt} {pos : Pos} (I : Nat → Sg → Prop) {σf : Sg}
  (turn : ∀ k σ, I k σ → (TT C n env ns test σ false σf ∧ f = .next) ∨ ∃ σ1, TT C n env ns test σ true σ1 ∧ ((∃ σ2 m, TB C n env ns body σ1 .next σ2 ∧ m < k ∧ I m σ2) ∨ (TB C n env ns body σ1 .brk σf ∧ f = .next) ∨ ∃ v, TB C n env ns body σ1 (.ret v) σf ∧ f = .ret v))
  (k : Nat) (σ : Sg) (h0 : I k σ) : TX C n env ns (.While test body [] pos) σ f σf := fun A s as Q E R r h => by
 refine wpAny_While (codeAny_whileLoop (WhI C env ns as s I) ?_ k (.mk as s.heap s.toks σ h0 r .refl))
 rintro k _ ⟨as1, g1, t1, σ1, hI, r1, s1⟩
 refine hide _ fun G hG => ?_
 rcases turn k σ1 hI with ⟨ht, hf⟩ | ⟨σ2, ht, hb⟩
 ·refine hG (ht A _ as1 _ _ R r1 fun as2 g2 t2 y r2 s2 v2 => ?_)
  have e : y = false := v2
  subst e
  rw [if_neg (by simp)]
  subst hf
  exact wpAny_execs_nil (h as2 g2 t2 _ r2 (s1.trans s2) .next)
 ·refine hG (ht A _ as1 _ _ R r1 fun as2 g2 t2 y r2 s2 v2 => ?_)
  have e : y = true := v2
  subst e
  rw [if_pos rfl]
  rcases hb with ⟨σ3, m, hb, lt, hm⟩ | ⟨hb, hf⟩ | ⟨v, hb, hf⟩
  ·refine hb A _ as2 _ _ R r2 fun as3 g3 t3 y r3 s3 v3 => ?_
   obtain rfl := v3.inv
   exact ⟨m, lt, .mk as3 g3 t3 σ3 hm r3 (s1.trans (s2.trans s3))⟩
  ·refine hb A _ as2 _ _ R r2 fun as3 g3 t3 y r3 s3 v3 => ?_
   obtain rfl := v3.inv
   subst hf
   exact h as3 g3 t3 _ r3 (s1.trans (s2.trans s3)) .next
  ·refine hb A _ as2 _ _ R r2 fun as3 g3 t3 y r3 s3 v3 => ?_
   obtain ⟨x, rfl, q⟩ := v3.inv
   subst hf
   exact h as3 g3 t3 _ r3 (s1.trans (s2.trans s3)) (.ret _ _ q)
end
inductive Src where
 | fix (vs : List V)
 | own (k i : Nat)
noncomputable def Src.next (σ : Sg) : Src → Option (Option (V × Src))
 | .fix [] => some none
 | .fix (v :: vs) => some (some (v, .fix vs))
 | .own k i => match σ.hp[k]? with
  | some (.lst vs) => match vs[i]? with
   | some v => some (some (v, .own k (i + 1)))
   | none => some none
  | _ => none
noncomputable def rangeVs (x : Int) : Nat → List V
 | 0 => []
 | n + 1 => .int x :: rangeVs (x + 1) n
structure ItAt (C : Cx) (as : List Addr) (h : Heap) (B : Addr) (it : Addr) : Prop where
 lo : B ≤ it
 n0 : ∀ b, B ≤ b → ¬ C.Old b
 na : it ∉ as
 obj : ∃ o vs, h.get? it = some o ∧ o.data = .fields vs ∧ o.cls ≠ .none ∧ o.cls ≠ .type "code" ∧ o.cls ≠ .type "builtin_function_or_method" ∧ o.cls ≠ .type "range"
inductive SrcR (C : Cx) (as : List Addr) (h : Heap) (B : Addr) (it : Addr) : Src → Prop
 | lst (l : Addr) (i : Nat) (ws : List V) (vals : List Value) : ItAt C as h B it → h.IsListIter it l i → h.IsList l vals.toArray → l ∉ as → VRs as h ws vals → SrcR C as h B it (.fix (ws.drop i))
 | tup (l : Addr) (i : Nat) (ws : List V) (vals : List Value) : ItAt C as h B it → h.IsTupleIter it l i → h.IsTuple l vals.toArray → VRs as h ws vals → SrcR C as h B it (.fix (ws.drop i))
 | rng (x : Int) (n : Nat) : ItAt C as h B it → IsRangeIter h it x n 1 → SrcR C as h B it (.fix (rangeVs x n))
 | str (x : List Nat) (t : Tok) (i : Nat) : ItAt C as h B it → h.IsStrIter it "str_ascii_iterator" (sOf x) t i → SrcR C as h B it (.fix ((x.drop i).map fun c => .str [c]))
 | own (l : Addr) (k i : Nat) : ItAt C as h B it → h.IsListIter it l i → as[k]? = some l → SrcR C as h B it (.own k i)
section
variable {C : Cx} {n m : Nat} {env : Env} {ns : List Str} {σ σ' σ₁ σ₂ σ₃ σ₄ : Sg} {as as' : List Addr} {h h' : Heap} {a b c d v : V} {f : F} {B it : Addr} {src src' : Src}
theorem Step.tail {as0 : List Addr} {h0 h1 h2 : Heap} (x : Step C env as0 h0 as h1) (k : ∀ b o, b < h0.objs.size → h1.get? b = some o → h2.get? b = some o) : Step C env as0 h0 as h2 :=
 ⟨fun b o e l c a t => k b o (Heap.lt_size e) (x.keep b o e l c a t), x.ext, fun b o e => let ⟨o', e'⟩ := x.live b o e; ⟨o', k b o' (Heap.lt_size e) e'⟩⟩
theorem ItAt.step (r : Rel C env ns as σ h) (st : Step C env as h as' h') (q : ItAt C as h B it) : ItAt C as' h' B it ∧ ∀ o, h.get? it = some o → h'.get? it = some o := by
 obtain ⟨o, vs, e, d, c1, c2, c3⟩ := q.obj
 have kp : ∀ o, h.get? it = some o → h'.get? it = some o := fun o' e' => by
  rw [e] at e'; cases e'
  refine st.keep it o e (fun z => ?_) (fun z => ?_) q.na (fun z => ?_)
  ·obtain ⟨m, ⟨oL, es, ep, hL, dL, _⟩, _⟩ := r.fr
   rw [← z, e] at hL; cases hL
   rw [d] at dL; cases dL
  ·obtain ⟨cc, hc, z⟩ := List.mem_map.mp (mem_mc z)
   obtain ⟨_, v, oc, h1, h2⟩ := r.cells cc hc
   rw [z, e] at h1; cases h1
   rw [d] at h2; cases h2
  ·exact q.n0 it q.lo (.inr z)
 refine ⟨⟨q.lo, q.n0, fun m => ?_, o, vs, kp o e, d, c1, c2, c3⟩, kp⟩
 obtain ⟨ex, rfl, fx⟩ := st.ext
 rcases List.mem_append.mp m with m | m
 ·exact q.na m
 ·rw [fx it m] at e; cases e
theorem SrcR.step (r : Rel C env ns as σ h) (st : Step C env as h as' h') (q : SrcR C as h B it src) : SrcR C as' h' B it src := by
 have ext := st.ext
 cases q with
 | lst l i ws vals q1 q2 q3 q4 q5 =>
  obtain ⟨p, kp⟩ := q1.step r st
  obtain ⟨o, ho, hc, nn, hd⟩ := q3
  have im : Imm o := .inl ⟨_, _, hd⟩
  obtain ⟨a1, a2, a3⟩ := r.apart ho im
  refine .lst l i ws vals p (q2.at kp) ⟨o, st.keep l o ho a1 (fun z => a2 (mem_mc z)) q4 a3, hc, nn, hd⟩ (fun m => ?_) (r.moves st q5)
  obtain ⟨ex, rfl, fx⟩ := ext
  rcases List.mem_append.mp m with m | m
  ·exact q4 m
  ·rw [fx l m] at ho; cases ho
 | tup l i ws vals q1 q2 q3 q5 =>
  obtain ⟨p, kp⟩ := q1.step r st
  obtain ⟨o, ho, hc, nn, hd⟩ := q3
  have im : Imm o := .inl ⟨_, _, hd⟩
  obtain ⟨a1, a2, a3⟩ := r.apart ho im
  have na : l ∉ as := fun m => by
   obtain ⟨k, e⟩ := List.mem_iff_getElem?.mp m
   have lk : k < σ.hp.length := r.hr.len ▸ (List.getElem?_eq_some_iff.mp e).1
   obtain ⟨a', e', q⟩ := r.hr.has k _ (List.getElem?_eq_getElem lk)
   rw [e] at e'; cases e'
   cases hq : σ.hp[k] with
   | lst vs => rw [hq] at q; obtain ⟨_, ⟨o2, _, g, c2, _⟩, _⟩ := q; rw [g] at ho; cases ho; rw [hc] at c2; exact absurd c2 (by decide)
   | obj => rw [hq] at q; obtain ⟨o2, g, c2, _⟩ := q; rw [g] at ho; cases ho; rw [hc] at c2; exact absurd c2 (by decide)
  obtain ⟨oi, hi, ri⟩ := q2
  exact .tup l i ws vals p ⟨oi, kp _ hi, ri⟩ ⟨o, st.keep l o ho a1 (fun z => a2 (mem_mc z)) na a3, hc, nn, hd⟩ (r.moves st q5)
 | rng x n q1 q2 => obtain ⟨p, kp⟩ := q1.step r st; exact .rng x n p (kp _ q2)
 | str x t i q1 q2 =>
  obtain ⟨p, kp⟩ := q1.step r st
  obtain ⟨oi, hi, ri⟩ := q2
  exact .str x t i p ⟨oi, kp _ hi, ri⟩
 | own l k i q1 q2 q3 =>
  obtain ⟨p, kp⟩ := q1.step r st
  refine .own l k i p (q2.at kp) ?_
  obtain ⟨ex, rfl, fx⟩ := ext
  rw [List.getElem?_append_left (List.getElem?_eq_some_iff.mp q3).1]; exact q3
end
section
variable {C : Cx} {n m : Nat} {env : Env} {ns : List Str} {σ σ' σ₁ σ₂ σ₃ σ₄ : Sg} {as as' : List Addr} {h h' : Heap} {a b c d v : V} {f : F} {B it : Addr} {src src' : Src}
theorem ItAt.priv (r : Rel C env ns as σ h) (q : ItAt C as h B it) (b : Addr) (e : b = it) : ¬ C.Old b ∧ b ≠ env.locals ∧ b ∉ env.cells.map (·.2) ∧ b ∉ as ∧ ∀ o, h.get? b = some o → ¬ Imm o ∧ ¬ Tabby o := by
 subst e
 obtain ⟨o, vs, e, d, c1, c2, c3⟩ := q.obj
 refine ⟨q.n0 _ q.lo, fun z => ?_, fun z => ?_, q.na, fun o' e' => ?_⟩
 ·obtain ⟨m, ⟨oL, es, ep, hL, dL, _⟩, _⟩ := r.fr
  rw [← z, e] at hL; cases hL
  rw [d] at dL; cases dL
 ·obtain ⟨cc, hc, z⟩ := List.mem_map.mp z
  obtain ⟨_, v, oc, h1, h2⟩ := r.cells cc hc
  rw [z, e] at h1; cases h1
  rw [d] at h2; cases h2
 ·rw [e] at e'; cases e'
  refine ⟨fun i => ?_, fun t => ?_⟩
  ·rcases i with ⟨xs, k, i⟩ | ⟨i | i, _⟩
   ·rw [d] at i; cases i
   ·exact c3.1 i
   ·exact c3.2 i
  ·rcases t.1 with t | t
   ·exact c1 t
   ·exact c2 t
theorem ItAt.rel (r : Rel C env ns as σ h) (q : ItAt C as h B it) (hs : Heap.ExtBut it h h') : Rel C env ns as σ h' :=
 r.other (M := fun b => b = it) (fun b o n e => hs b o n e) (q.priv r)
theorem ItAt.again (q : ItAt C as h B it) {o : Obj} {vs : Array Value} (e : h'.get? it = some o) (d : o.data = .fields vs) (c1 : o.cls ≠ .none) (c2 : o.cls ≠ .type "code") (c3 : o.cls ≠ .type "builtin_function_or_method" ∧ o.cls ≠ .type "range") : ItAt C as h' B it := ⟨q.lo, q.n0, q.na, o, vs, e, d, c1, c2, c3⟩
theorem VRs.other (r : Rel C env ns as σ h) (q : ItAt C as h B it) (hs : Heap.ExtBut it h h') {vs : List V} {xs : List Value} (w : VRs as h vs xs) : VRs as h' vs xs :=
 VRs.keep (fun b o e _ i => hs b o (fun z => ((q.priv r b z).2.2.2.2 o e).1 i) e) w
theorem VR.other (r : Rel C env ns as σ h) (q : ItAt C as h B it) (hs : Heap.ExtBut it h h') {vs : V} {xs : Value} (w : VR as h vs xs) : VR as h' vs xs :=
 VR.keep (fun b o e _ i => hs b o (fun z => ((q.priv r b z).2.2.2.2 o e).1 i) e) w
theorem below (q : ItAt C as h B it) (hs : Heap.ExtBut it h h') : ∀ b o, b < B → h.get? b = some o → h'.get? b = some o := fun b o l e => hs b o (fun z => Nat.not_le.mpr l (z ▸ q.lo)) e
theorem drop_get {α : Type} {l : List α} {i : Nat} {v : α} {vs : List α} (e : l.drop i = v :: vs) : l[i]? = some v ∧ vs = l.drop (i + 1) := by
 have h1 : (l.drop i)[0]? = some v := by rw [e]; rfl
 rw [List.getElem?_drop] at h1
 refine ⟨by simpa using h1, ?_⟩
 have h2 : (l.drop i).drop 1 = vs := by rw [e]; rfl
 rw [List.drop_drop] at h2
 exact h2.symm
theorem drop_none {α : Type} {l : List α} {i : Nat} (e : l.drop i = []) : l[i]? = none := by
 rw [List.getElem?_eq_none_iff]
 exact List.drop_eq_nil_iff.mp e
theorem own_next {k i : Nat} {r : Option (V × Src)} (e : Src.next σ (.own k i) = some r) : ∃ vs, σ.hp[k]? = some (.lst vs) ∧ r = vs[i]?.map fun v => (v, .own k (i + 1)) := by
 unfold Src.next at e
 dsimp only at e
 cases hk : σ.hp[k]? with
 | none => rw [hk] at e; cases e
 | some o =>
  rw [hk] at e
  cases o with
  | obj => cases e
  | lst vs =>
   dsimp only at e
   refine ⟨vs, rfl, ?_⟩
   cases hv : vs[i]? with
   | none => rw [hv] at e; cases e; rfl
   | some w => rw [hv] at e; cases e; rfl
theorem own_item {k i : Nat} (e : Src.next σ (.own k i) = some (some (v, src'))) : ∃ vs, σ.hp[k]? = some (.lst vs) ∧ vs[i]? = some v ∧ src' = .own k (i + 1) := by
 obtain ⟨vs, hk, e⟩ := own_next e
 obtain ⟨w, hw, e⟩ := mp_some e.symm
 cases e
 exact ⟨vs, hk, hw, rfl⟩
theorem own_end {k i : Nat} (e : Src.next σ (.own k i) = some none) : ∃ vs, σ.hp[k]? = some (.lst vs) ∧ vs[i]? = none := by
 obtain ⟨vs, hk, e⟩ := own_next e
 exact ⟨vs, hk, Option.map_eq_none_iff.mp e.symm⟩
theorem fix_item {l : List V} (e : Src.next σ (.fix l) = some (some (v, src'))) : ∃ r, l = v :: r ∧ src' = .fix r := by
 cases l <;> cases e
 exact ⟨_, rfl, rfl⟩
theorem fix_end {l : List V} (e : Src.next σ (.fix l) = some none) : l = [] := by
 cases l <;> cases e
 rfl
theorem drop_item {l : List V} {i : Nat} (e : Src.next σ (.fix (l.drop i)) = some (some (v, src'))) : l[i]? = some v ∧ src' = .fix (l.drop (i + 1)) := by
 obtain ⟨r, hd, rfl⟩ := fix_item e
 obtain ⟨h, rfl⟩ := drop_get hd
 exact ⟨h, rfl⟩
theorem not_same {o : Obj} {s t : String} {l : Addr} (e : h.get? l = some o) (c : o.cls = .type s) {o2 : Obj} (e2 : h.get? it = some o2) (c2 : o2.cls = .type t) (n : (s == t) = false) : l ≠ it := by
 rintro rfl
 cases Option.some.inj (e.symm.trans e2)
 cases Value.type.inj (c.symm.trans c2)
 rw [beq_self_eq_true] at n; cases n
theorem ItAt.anew (q : ItAt C as h B it) {o : Obj} {s : String} {vs : Array Value} (e : h'.get? it = some o) (c : o.cls = .type s) (d : o.data = .fields vs) (n : (s == "code" || s == "builtin_function_or_method" || s == "range") = false) : ItAt C as h' B it := by
 have ne : ∀ t, (t = "code" ∨ t = "builtin_function_or_method" ∨ t = "range") → o.cls ≠ .type t := by
  rintro t m z
  cases Value.type.inj (c.symm.trans z)
  rcases m with rfl | rfl | rfl <;> cases n
 exact q.again e d (fun z => by rw [c] at z; cases z) (ne _ (.inl rfl)) ⟨ne _ (.inr (.inl rfl)), ne _ (.inr (.inr rfl))⟩
theorem next_ok {A : Around} {s : Shared} {Q : Option Value → Shared → Prop} {E : Value → Shared → Prop} (R : Room n A) (r : Rel C env ns as σ s.heap) (q : SrcR C as s.heap B it src) (e : src.next σ = some (some (v, src')))
  (h : ∀ h' tk x, Rel C env ns as σ h' → (∀ b o, b < B → s.heap.get? b = some o → h'.get? b = some o) → SrcR C as h' B it src' → VR as h' v x → Q (some x) { s with heap := h', toks := tk }) :
  wpAny (model C.prog C.w) A (pyNext (.ref it)) Q E s := by
 cases q with
 | lst l i ws vals q1 q2 q3 q4 q5 =>
  obtain ⟨e1, rfl⟩ := drop_item e
  obtain ⟨x, hx, qx⟩ := q5.get e1
  refine wpAny_pyNext_list_item q2 q3 (by simpa using hx) fun h' hit' hs' => ?_
  obtain ⟨o, ho, hc, hdd⟩ := id hit'
  obtain ⟨o1, g1, c1, _⟩ := q2
  obtain ⟨o2, g2, c2, _⟩ := id q3
  exact h h' s.toks x (q1.rel r hs'.extBut) (below q1 hs'.extBut) (.lst l _ ws vals (q1.anew ho hc hdd rfl) hit' (q3.extBut hs'.extBut (not_same g2 c2 g1 c1 rfl)) q4 (VRs.other r q1 hs'.extBut q5)) (VR.other r q1 hs'.extBut qx)
 | tup l i ws vals q1 q2 q3 q5 =>
  obtain ⟨e1, rfl⟩ := drop_item e
  obtain ⟨x, hx, qx⟩ := q5.get e1
  refine wpAny_pyNext_tuple_item q2 q3 (by simpa using hx) fun h' hit' hs' => ?_
  obtain ⟨o, ho, hc, hdd⟩ := id hit'
  obtain ⟨o1, g1, c1, _⟩ := q2
  obtain ⟨o2, g2, c2, _⟩ := id q3
  exact h h' s.toks x (q1.rel r hs'.extBut) (below q1 hs'.extBut) (.tup l _ ws vals (q1.anew ho hc hdd rfl) hit' (q3.extBut hs'.extBut (not_same g2 c2 g1 c1 rfl)) (VRs.other r q1 hs'.extBut q5)) (VR.other r q1 hs'.extBut qx)
 | rng x k q1 q2 =>
  cases k with
  | zero => cases e
  | succ k =>
   cases e
   refine wpAny_pyNext_range_item q2 (by simp) fun h' hit' hs' => ?_
   have ee : ((k + 1 : Nat) : Int) - 1 = (k : Int) := by simp
   rw [ee] at hit'
   exact h h' (s.toks + 1) _ (q1.rel r hs'.extBut) (below q1 hs'.extBut) (.rng _ k (q1.anew hit' rfl rfl rfl) hit') (.int _ _)
 | str x t i q1 q2 =>
  obtain ⟨r2, hd, rfl⟩ := fix_item e
  cases hx : x.drop i with
  | nil => rw [hx] at hd; cases hd
  | cons w rest =>
   rw [hx] at hd; cases hd
   obtain ⟨e1, rfl⟩ := drop_get hx
   refine wpAny_pyNext_ascii_item q2 (by simpa using e1) fun h' hit' hs' => ?_
   obtain ⟨o, ho, hc, hdd⟩ := id hit'
   exact h h' (s.toks + 1) _ (q1.rel r hs'.extBut) (below q1 hs'.extBut) (.str x t _ (q1.anew ho hc hdd rfl) hit') (.str [w] _)
 | own l k i q1 q2 q3 =>
  obtain ⟨vs, hk, hv, rfl⟩ := own_item e
  obtain ⟨l', hl', vals, p1, p2⟩ := r.hr.has k _ hk
  cases Option.some.inj (q3.symm.trans hl')
  obtain ⟨x, hx, qx⟩ := p2.get hv
  refine wpAny_pyNext_list_item q2 p1.isList (by simpa using hx) fun h' hit' hs' => ?_
  obtain ⟨o, ho, hc, hdd⟩ := id hit'
  exact h h' s.toks x (q1.rel r hs'.extBut) (below q1 hs'.extBut) (.own l k _ (q1.anew ho hc hdd rfl) hit' q3) (VR.other r q1 hs'.extBut qx)
theorem stop_ok {A : Around} {s : Shared} {Q : Option Value → Shared → Prop} {E : Value → Shared → Prop} (R : Room n A) (r : Rel C env ns as σ s.heap) (q : SrcR C as s.heap B it src) (e : src.next σ = some none)
  (h : ∀ h' tk, Rel C env ns as σ h' → (∀ b o, b < B → s.heap.get? b = some o → h'.get? b = some o) → Q none { s with heap := h', toks := tk }) :
  wpAny (model C.prog C.w) A (pyNext (.ref it)) Q E s := by
 cases q with
 | lst l i ws vals q1 q2 q3 q4 q5 => exact wpAny_pyNext_list_end R.1 q2 q3 (by have := drop_none (fix_end e); rw [List.getElem?_eq_none_iff] at this; simpa [q5.length] using this) fun h' hs' => h h' s.toks (q1.rel r hs') (below q1 hs')
 | tup l i ws vals q1 q2 q3 q5 => exact wpAny_pyNext_tuple_end R.1 q2 q3 (by have := drop_none (fix_end e); rw [List.getElem?_eq_none_iff] at this; simpa [q5.length] using this) fun h' hs' => h h' s.toks (q1.rel r hs') (below q1 hs')
 | rng x k q1 q2 =>
  cases k with
  | succ k => cases e
  | zero => exact wpAny_pyNext_range_end R.1 q2 (by exact tG _) fun h' hs' => h h' s.toks (q1.rel r hs') (below q1 hs')
 | str x t i q1 q2 => exact wpAny_pyNext_ascii_end R.1 q2 (by have := drop_none (List.map_eq_nil_iff.mp (fix_end e)); simpa using this) fun h' hs' => h h' s.toks (q1.rel r hs') (below q1 hs')
 | own l k i q1 q2 q3 =>
  obtain ⟨vs, hk, hv⟩ := own_end e
  obtain ⟨l', hl', vals, p1, p2⟩ := r.hr.has k _ hk
  cases Option.some.inj (q3.symm.trans hl')
  exact wpAny_pyNext_list_end R.1 q2 p1.isList (by rw [List.getElem?_eq_none_iff] at hv; simpa [p2.length] using hv) fun h' hs' => h h' s.toks (q1.rel r hs') (below q1 hs')
end
noncomputable def srcOf (σ : Sg) (v : V) : Option Src :=
 match v with
 | .lst vs => some (.fix vs)
 | .tup vs => some (.fix vs)
 | .str x => if x.all (· < 128) then some (.fix (x.map fun c => .str [c])) else none
 | .rng a b => if -1000000 ≤ a ∧ a ≤ 1000000 ∧ -1000000 ≤ b ∧ b ≤ 1000000 then some (.fix (rangeVs a (b - a).toNat)) else none
 | .own k => match σ.hp[k]? with
  | some (.lst _) => some (.own k 0)
  | _ => none
 | _ => none
section
variable {C : Cx} {n m : Nat} {env : Env} {ns : List Str} {σ σ' σ₁ σ₂ σ₃ σ₄ : Sg} {as as' : List Addr} {h h' : Heap} {a b c d v : V} {f : F} {B it : Addr} {src src' : Src}
theorem itNew (r : Rel C env ns as σ h) {T : String} {vs : Array Value} (hT : Value.type T ≠ .type "code" ∧ Value.type T ≠ .type "builtin_function_or_method" ∧ Value.type T ≠ .type "range") :
  ItAt C as (h.push { cls := .type T, data := .fields vs }) h.objs.size h.objs.size :=
 ⟨Nat.le_refl _, fun b l => r.wd.fresh l, fun m => Nat.lt_irrefl _ (r.alive m), _, vs, Heap.get?_push_size _ rfl, rfl, by simp, hT.1, hT.2⟩
theorem rng_small {lo hi : Int} (hb : -1000000 ≤ lo ∧ lo ≤ 1000000 ∧ -1000000 ≤ hi ∧ hi ≤ 1000000) (sz : Builtin.Range.rangeSize lo hi 1 = ((hi - lo).toNat : Int)) : Builtin.Range.small lo hi 1 = true := by
 unfold Builtin.Range.small Builtin.Range.rangeFitsLong
 rw [sz]
 simp only [Bool.and_eq_true, Bool.or_eq_true, decide_eq_true_eq, beq_iff_eq]
 refine ⟨⟨⟨⟨?_, ?_⟩, ?_⟩, ?_⟩, .inr ?_⟩ <;> (try rw [if_pos (by decide)]) <;> (try simp only [Bool.and_eq_true, decide_eq_true_eq]) <;> lia
theorem src_own {k : Nat} (e : srcOf σ (.own k) = some src) : (∃ vs, σ.hp[k]? = some (.lst vs)) ∧ src = .own k 0 := by
 unfold srcOf at e
 dsimp only at e
 cases hk : σ.hp[k]? with
 | none => rw [hk] at e; cases e
 | some o => cases o with
  | obj => rw [hk] at e; cases e
  | lst vs => rw [hk] at e; cases e; exact ⟨⟨vs, rfl⟩, rfl⟩
theorem iter_ok {A : Around} {s : Shared} {x : Value} {Q : Value → Shared → Prop} {E : Value → Shared → Prop} (r : Rel C env ns as σ s.heap) (q : VR as s.heap v x) (e : srcOf σ v = some src)
  (h : ∀ h' it, Rel C env ns as σ h' → (∀ b o, s.heap.get? b = some o → h'.get? b = some o) → SrcR C as h' s.heap.objs.size it src → Q (.ref it) { s with heap := h' }) : wpAny (model C.prog C.w) A (pyIter x) Q E s := by
 have hh := fun o it => h _ it (r.push o) (fun b o e => Heap.get?_push_of_some _ e)
 have new := fun {T : String} {vs : Array Value} hT => itNew (T := T) (vs := vs) r hT
 cases v with
 | lst vs =>
  cases e
  obtain ⟨l, vals, rfl, q1, q2, q3⟩ := q.inv
  exact wpAny_pyIter_list q1 (hh _ _ (.lst l 0 _ vals (new (by decide)) ⟨_, Heap.get?_push_size _ rfl, rfl, rfl⟩ (q1.push _) q2 (r.moves (Step.push _) q3)))
 | tup vs =>
  cases e
  obtain ⟨l, vals, rfl, q1, q2, q3⟩ := q.inv
  have q1' : s.heap.IsTuple l vals.toArray := q1
  exact wpAny_pyIter_tuple q1' (hh _ _ (.tup l 0 _ vals (new (by decide)) ⟨_, Heap.get?_push_size _ rfl, rfl, rfl⟩ (q1'.push _) (r.moves (Step.push _) q3)))
 | str x =>
  obtain ⟨hx, e⟩ := if_some e
  cases e
  obtain ⟨t, rfl⟩ := q.inv
  exact wpAny_pyIter_ascii (x := sOf x) (by simpa using hx) (hh _ _ (.str x t 0 (new (by decide)) ⟨_, Heap.get?_push_size _ rfl, rfl, rfl⟩))
 | rng lo hi =>
  obtain ⟨hb, e⟩ := if_some e
  cases e
  obtain ⟨rr, t, u, vv, rfl, q1, q2⟩ := q.inv
  have sz : Builtin.Range.rangeSize lo hi 1 = ((hi - lo).toNat : Int) := by
   unfold Builtin.Range.rangeSize
   rw [if_pos (by decide)]
   split <;> lia
  refine wpAny_pyIter_range q1 (rng_small hb sz) (hh _ _ (.rng _ _ (new (by decide)) ?_))
  rw [← sz]
  exact Heap.get?_push_size _ rfl
 | own k =>
  replace e := src_own e; obtain ⟨⟨vs, hk⟩, rfl⟩ := e
  obtain ⟨l, hl, vals, p1, p2⟩ := r.hr.has _ _ hk
  obtain ⟨l', rfl, e'⟩ := q.inv
  cases Option.some.inj (hl.symm.trans e')
  exact wpAny_pyIter_list p1.isList (hh _ _ (.own l _ 0 (new (by decide)) ⟨_, Heap.get?_push_size _ rfl, rfl, rfl⟩ hl))
 | _ => cases e
theorem letOwned_ok {A : Around} {s : Shared} {target : Expr} {x : Value} {Q : Unit → Shared → Prop} {E : Value → Shared → Prop} (q : SrcR C as s.heap B it src) (h : Q () s) : wpAny (model C.prog C.w) A (letOwnedTupleGo target (.ref it) x) Q E s := by
 have key : ∃ o T vs, s.heap.get? it = some o ∧ o.cls = .type T ∧ o.data = .fields vs ∧ (["enumerate", "zip", "dict_itemiterator", "dict_reverseitemiterator", "odict_iterator", "itertools.zip_longest", "itertools.pairwise"] : List String).contains T = false := by
  cases q with
  | lst l i ws vals q1 q2 q3 q4 q5 => obtain ⟨o, ho, hc, hd⟩ := q2; exact ⟨o, _, _, ho, hc, hd, by decide⟩
  | tup l i ws vals q1 q2 q3 q5 => obtain ⟨o, ho, hc, hd⟩ := q2; exact ⟨o, _, _, ho, hc, hd, by decide⟩
  | rng x k q1 q2 => exact ⟨_, _, _, q2, rfl, rfl, by decide⟩
  | str x t i q1 q2 => obtain ⟨o, ho, hc, hd⟩ := q2; exact ⟨o, _, _, ho, hc, hd, by decide⟩
  | own l k i q1 q2 q3 => obtain ⟨o, ho, hc, hd⟩ := q2; exact ⟨o, _, _, ho, hc, hd, by decide⟩
 obtain ⟨⟨cls, dd, data, sl⟩, T, vs, ho, hc, hd, hT⟩ := key
 simp only at hc hd
 subst hc hd
 have go : ∀ ad : Addr, wpAny (model C.prog C.w) A (do
   let o ← load it
   match o.cls, o.data with
   | .type n, .fields vs =>
    if ["enumerate", "zip", "dict_itemiterator", "dict_reverseitemiterator", "odict_iterator", "itertools.zip_longest", "itertools.pairwise"].contains n && vs[0]? == some (rawInt ad) then
     rule "for.unpacks-the-owned-tuple"
     updateField it 0 .none
   | _, _ => pure ()) Q E s := fun ad => by
  refine wpAny_bind (wpAny_load ho ?_)
  dsimp only
  rw [hT]
  exact wpAny_pure h
 unfold letOwnedTupleGo
 cases target <;> first | exact wpAny_pure h | (cases x <;> first | exact go _ | exact wpAny_pure h)
noncomputable abbrev TA (C : Cx) (n : Nat) (env : Env) (ns : List Str) (target : Expr) (w : V) (σ σ' : Sg) : Prop :=
 ∀ (A : Around) (s : Shared) (as : List Addr) (x : Value) (Q : Unit → Shared → Prop) (E : Value → Shared → Prop), Room n A → Rel C env ns as σ s.heap → VR as s.heap w x →
  (∀ as' h' tk, Rel C env ns as' σ' h' → Step C env as s.heap as' h' → Q () { s with heap := h', toks := tk }) → wpAny (model C.prog C.w) A (assign target env x) Q E s
theorem ta_name (ok : EnvOk env ns) {i : Nat} {x : Str} {p : Pos} (hx : ns[i]? = some x) (hk : stores env x = true) : TA C n env ns (.Name x p) v σ (σ.put i v) := fun A s as val Q E R r q h =>
 wpAny_assign_Name (store_loc ok hx hk r q fun g t r' s' => h as g t r' s')
inductive LpI (C : Cx) (env : Env) (ns : List Str) (as1 : List Addr) (g1 : Heap) (it : Addr) (s : Shared) (I : Nat → Src → Sg → Prop) (k : Nat) : Shared → Prop
 | mk (as' : List Addr) (h' : Heap) (tk : Nat) (σ' : Sg) (src' : Src) : I k src' σ' → Rel C env ns as' σ' h' → Step C env as1 g1 as' h' → SrcR C as' h' g1.objs.size it src' → LpI C env ns as1 g1 it s I k { s with heap := h', toks := tk }
theorem tx_for {target iter : Expr} {body orelse : List Stmt} {pos : Pos} (I : Nat → Src → Sg → Prop) {σf : Sg} (h1 : TE C n env ns iter σ v σ₁) (hsrc : srcOf σ₁ v = some src) (hs : ∀ x, foldedSetIterable iter env x = pure x)
  (turn : ∀ k src σ, I k src σ → (src.next σ = some none ∧ TB C n env ns orelse σ f σf) ∨ ∃ w src' σ1, src.next σ = some (some (w, src')) ∧ TA C n env ns target w σ σ1 ∧
   ((∃ σ2 m, TB C n env ns body σ1 .next σ2 ∧ m < k ∧ I m src' σ2) ∨ (TB C n env ns body σ1 .brk σf ∧ f = .next) ∨ ∃ v, TB C n env ns body σ1 (.ret v) σf ∧ f = .ret v))
  (k : Nat) (h0 : I k src σ₁) : TX C n env ns (.For target iter body orelse pos) σ f σf := fun A s as Q E R r h => by
 refine wpAny_For (h1 A s as _ E R r fun as1 g1 t1 x r1 s1 v1 => iter_ok r1 v1 hsrc fun g2 it r2 k2 q2 => ?_) hs
 have s2 : Step C env as1 g1 as1 g2 := Step.growing k2
 refine codeAny_forLoop_any (LpI C env ns as1 g1 it s I) ?_ k (.mk as1 g2 t1 σ₁ src h0 r2 s2 q2)
 rintro k _ ⟨as3, g3, t3, σ3, src3, hI, r3, s3, q3⟩
 refine hide _ fun G hG => ?_
 rcases turn k src3 σ3 hI with ⟨hn, ho⟩ | ⟨w, src', σ4, hn, ha, hb⟩
 ·refine hG (stop_ok R r3 q3 hn fun g4 t4 r4 k4 => ?_)
  exact ho A _ as3 _ _ R r4 fun as5 g5 t5 y r5 s5 v5 => h as5 g5 t5 y r5 (s1.trans ((s3.tail k4).trans s5)) v5
 ·refine hG (next_ok R r3 q3 hn fun g4 t4 x4 r4 k4 q4 v4 => ?_)
  refine letOwned_ok q4 (ha A _ as3 x4 _ _ R r4 v4 fun as5 g5 t5 r5 s5 => ?_)
  have q5 := q4.step r4 s5
  have st5 := (s3.tail k4).trans s5
  rcases hb with ⟨σ6, m, hb, lt, hm⟩ | ⟨hb, hf⟩ | ⟨v, hb, hf⟩
  ·refine hb A _ as5 _ _ R r5 fun as6 g6 t6 y r6 s6 v6 => ?_
   obtain rfl := v6.inv
   exact ⟨m, lt, .mk as6 g6 t6 σ6 src' hm r6 (st5.trans s6) (q5.step r5 s6)⟩
  ·refine hb A _ as5 _ _ R r5 fun as6 g6 t6 y r6 s6 v6 => ?_
   obtain rfl := v6.inv
   subst hf
   exact h as6 g6 t6 _ r6 (s1.trans (st5.trans s6)) .next
  ·refine hb A _ as5 _ _ R r5 fun as6 g6 t6 y r6 s6 v6 => ?_
   obtain ⟨x, rfl, q⟩ := v6.inv
   subst hf
   exact h as6 g6 t6 _ r6 (s1.trans (st5.trans s6)) (.ret _ _ q)
end
end Mine
end
set_option genInjectivity false
section
open PySem PySem.W PySem.Spec PySem.Calls PySem.SeqAt PyProof.Rows
namespace Mine
mutual
noncomputable def V.low (m : Nat) : V → Bool
 | .tup vs => V.lows m vs
 | .lst vs => V.lows m vs
 | .own k => decide (k < m)
 | .app k => decide (k < m)
 | _ => true
noncomputable def V.lows (m : Nat) : List V → Bool
 | [] => true
 | v :: vs => v.low m && V.lows m vs
end
noncomputable def O.low (m : Nat) : O → Bool
 | .lst vs => V.lows m vs
 | .obj => true
noncomputable def retV : F → Option V
 | .ret v => some v
 | .next => some .none
 | .brk => none
noncomputable def frz (m : Nat) (v : V) : Option V := if v.low m then some v else none
noncomputable def freeze (m : Nat) (σ : Sg) (v : V) : Option V :=
 match v with
 | .own k => if k < m then some (.own k) else match σ.hp[k]? with
  | some (.lst vs) => if V.lows m vs then some (.lst vs) else none
  | _ => none
 | v => frz m v
noncomputable def leave (m : Nat) (f : F) (σ : Sg) : Option (V × List O) :=
 match retV f with
 | some v => match freeze m σ v with
  | some v' => if (σ.hp.take m).all (O.low m) then some (v', σ.hp.take m) else none
  | none => none
 | none => none
section
variable {as ex : List Addr} {h : Heap}
theorem get_unapp {k : Nat} {a : Addr} (q : (as ++ ex)[k]? = some a) (e : k < as.length) : as[k]? = some a := by rw [List.getElem?_append_left e] at q; exact q
theorem shrink_both : (∀ v x, VR (as ++ ex) h v x → v.low as.length = true → VR as h v x) ∧ ∀ vs xs, VRs (as ++ ex) h vs xs → V.lows as.length vs = true → VRs as h vs xs := by
 refine ⟨fun v x q => VR.rec (motive_1 := fun v x _ => v.low as.length = true → VR as h v x) (motive_2 := fun vs xs _ => V.lows as.length vs = true → VRs as h vs xs) (fun _ => .none) (fun b _ => .bool b) (fun i t _ => .int i t) (fun x t _ => .str x t) (fun x t q _ => .byt x t q) ?_ ?_ ?_ ?_ ?_ (fun v _ => .raw v) (fun _ => .nil) ?_ q, fun v x q => VRs.rec (motive_1 := fun v x _ => v.low as.length = true → VR as h v x) (motive_2 := fun vs xs _ => V.lows as.length vs = true → VRs as h vs xs) (fun _ => .none) (fun b _ => .bool b) (fun i t _ => .int i t) (fun x t _ => .str x t) (fun x t q _ => .byt x t q) ?_ ?_ ?_ ?_ ?_ (fun v _ => .raw v) (fun _ => .nil) ?_ q⟩
 all_goals first
  | exact fun vs a vals q n _ r e => .tup vs a vals q (fun m => n (List.mem_append_left _ m)) (r e)
  | exact fun vs a vals q n _ r e => .lst vs a vals q (fun m => n (List.mem_append_left _ m)) (r e)
  | exact fun k a q e => .own k a (get_unapp q (of_decide_eq_true e))
  | exact fun k a b o q h1 h2 h3 h4 e => .app k a b o (get_unapp q (of_decide_eq_true e)) h1 h2 h3 (fun m => h4 (List.mem_append_left _ m))
  | exact fun a b r t u v q n _ => .rng a b r t u v q (fun m => n (List.mem_append_left _ m))
  | exact fun v x vs xs _ _ p q e => .cons v x vs xs (p (Bool.and_eq_true_iff.mp e).1) (q (Bool.and_eq_true_iff.mp e).2)
theorem VR.shrink {v : V} {x : Value} : VR (as ++ ex) h v x → v.low as.length = true → VR as h v x := shrink_both.1 v x
theorem VRs.shrink {vs : List V} {xs : List Value} : VRs (as ++ ex) h vs xs → V.lows as.length vs = true → VRs as h vs xs := shrink_both.2 vs xs
theorem HR.shrink {C : Cx} {hp : List O} (r : HR C (as ++ ex) hp h) (pn : ∀ p ∈ C.pin, as[p.1]? = some p.2) (e : (hp.take as.length).all (O.low as.length) = true) : HR C as (hp.take as.length) h := by
 refine ⟨?_, (List.nodup_append.mp r.nodup).1, fun a m => r.above a (List.mem_append_left _ m), pn, fun k o e' => ?_⟩
 ·rw [List.length_take, ← r.len, List.length_append]; simp
 ·have lk : k < as.length := by
   have := (List.getElem?_eq_some_iff.mp e').1
   rw [List.length_take] at this; lia
  have ob := List.all_eq_true.mp e o (List.mem_of_getElem? e')
  rw [List.getElem?_take_of_lt lk] at e'
  obtain ⟨a, ha, q⟩ := r.has k o e'
  rw [List.getElem?_append_left lk] at ha
  refine ⟨a, ha, ?_⟩
  cases o with
  | lst vs => obtain ⟨vals, q1, q2⟩ := q; exact ⟨vals, q1, VRs.shrink q2 ob⟩
  | obj => exact q
end
noncomputable def σ0 (args : List V) (k : Nat) (hp : List O) : Sg := ⟨args.map some ++ List.replicate k none, hp⟩
noncomputable def isInf (y x : List Nat) : Bool := !(Builtin.Str.occurrences (sOf x) (sOf y) 0 x.length 1).isEmpty
noncomputable def strsOf : List V → Option (List (List Nat))
 | [] => some []
 | .str x :: r => (strsOf r).map (x :: ·)
 | _ => none
noncomputable def eqV (a b : V) : Option Bool := match a with
 | .int a => b.onI fun b => some (a == b)
 | .str a => b.onS fun b => some (a == b)
 | .byt a => b.onB fun b => some (a == b)
 | _ => none
noncomputable def neV (a b : V) : Option Bool := match a with
 | .int a => b.onI fun b => some (a != b)
 | .str a => b.onS fun b => some (a != b)
 | .byt a => b.onB fun b => some (a != b)
 | _ => none
noncomputable def ordV (f : Int → Int → Bool) (a b : V) : Option Bool := a.onI fun a => b.onI fun b => some (f a b)
noncomputable def inV (σ : Sg) (a b : V) : Option Bool := a.onS fun y => match b with
 | .str x => some (isInf y x)
 | .tup vs => (strsOf vs).map fun xs => xs.any (· == y)
 | l => (asList σ l).bind fun vs => (strsOf vs).map fun xs => xs.any (· == y)
noncomputable def ninV (σ : Sg) (a b : V) : Option Bool := a.onS fun y => match b with
 | .str x => some (!isInf y x)
 | l => (asList σ l).bind fun vs => (strsOf vs).map fun xs => !xs.any (· == y)
noncomputable def isV (a b : V) : Option Bool := a.onO fun j => b.onO fun k => if j = k then some true else none
noncomputable def isnV (a b : V) : Option Bool := match a with
 | .str _ => b.onO fun _ => some true
 | .own j => b.onO fun k => if j = k then some false else none
 | _ => none
noncomputable def cmpV (op : CmpOp) (a b : V) (σ : Sg) : Option Bool := match op with
 | .Eq => eqV a b
 | .NotEq => neV a b
 | .Lt => ordV (fun a b => decide (a < b)) a b
 | .LtE => ordV (fun a b => decide (a ≤ b)) a b
 | .Gt => ordV (fun a b => decide (a > b)) a b
 | .GtE => ordV (fun a b => decide (a ≥ b)) a b
 | .Is => isV a b
 | .IsNot => isnV a b
 | .In => inV σ a b
 | .NotIn => ninV σ a b
section
variable {C : Cx} {n m : Nat} {env : Env} {ns : List Str} {σ σ' σ₁ σ₂ σ₃ σ₄ : Sg} {as as' : List Addr} {h h' : Heap} {a b c d v : V} {f : F}
theorem sOf_beq (a b : List Nat) : (sOf a == sOf b) = (a == b) := by
 rw [Bool.eq_iff_iff, beq_iff_eq, beq_iff_eq]
 constructor
 ·intro e
  have := congrArg (fun x : Str => x.cps.toList) e
  simpa using this
 ·rintro rfl; rfl
theorem sOf_bne (a b : List Nat) : (sOf a != sOf b) = (a != b) := by unfold bne; rw [sOf_beq]
theorem u8_inj {a b : List Nat} (ha : ∀ n ∈ a, n < 256) (hb : ∀ n ∈ b, n < 256) (e : a.map UInt8.ofNat = b.map UInt8.ofNat) : a = b := by
 have h1 : ∀ {l : List Nat}, (∀ n ∈ l, n < 256) → (l.map UInt8.ofNat).map UInt8.toNat = l := by
  intro l hl
  rw [List.map_map]
  conv => rhs; rw [← List.map_id l]
  exact List.map_congr_left fun n hn => uint8_of n (hl n hn)
 rw [← h1 ha, ← h1 hb, e]
theorem byt_beq {a b : List Nat} (ha : ∀ n ∈ a, n < 256) (hb : ∀ n ∈ b, n < 256) : ((bOf a).toList == (bOf b).toList) = (a == b) := by
 rw [Bool.eq_iff_iff, beq_iff_eq, beq_iff_eq, bOf_toList, bOf_toList]
 exact ⟨u8_inj ha hb, fun e => by rw [e]⟩
theorem strsOf_spec {vs : List V} : ∀ {xs : List (List Nat)} {vals : List Value}, strsOf vs = some xs → VRs as h vs vals → StrsAre vals (xs.map sOf) := by
 induction vs with
 | nil => intro _ _ e q; cases e; obtain rfl := q.inv; exact .nil
 | cons w r ih =>
  intro _ _ e q
  cases w with
  | str x =>
   obtain ⟨ys, hr, rfl⟩ := mp_some e
   obtain ⟨val, vals, rfl, q1, q2⟩ := q.inv
   obtain ⟨t, rfl⟩ := q1.inv
   exact .cons _ _ (ih hr q2)
  | _ => cases e
theorem any_sOf (xs : List (List Nat)) (y : List Nat) : (xs.map sOf).any (· == sOf y) = xs.any (· == y) := by
 rw [List.any_map]
 congr 1
 funext x
 exact sOf_beq x y
theorem ordV_some {f : Int → Int → Bool} {r : Bool} (e : ordV f a b = some r) : ∃ i j, a = .int i ∧ b = .int j ∧ r = f i j := by
 obtain ⟨i, rfl, e1⟩ := V.onI_some e
 obtain ⟨j, rfl, e2⟩ := V.onI_some e1
 exact ⟨_, _, rfl, rfl, (Option.some.inj e2).symm⟩
theorem eq_ok {r : Bool} (e : eqV a b = some r) : OB C n env ns (compareOp .Eq) a b σ σ (IsV (.bool r)) := by
 cases a with
 | int i =>
  obtain ⟨j, rfl, e1⟩ := V.onI_some e
  obtain rfl := Option.some.inj e1
  intro A s as x y Q E R rr qa qb h
  obtain ⟨_, rfl⟩ := qa.inv; obtain ⟨_, rfl⟩ := qb.inv; exact eq_int (h as s.heap s.toks _ rr .refl (.bool _))
 | str i =>
  obtain ⟨j, rfl, e1⟩ := V.onS_some e
  obtain rfl := Option.some.inj e1
  intro A s as x y Q E R rr qa qb h
  obtain ⟨_, rfl⟩ := qa.inv; obtain ⟨_, rfl⟩ := qb.inv; exact eq_str (by rw [sOf_beq]; exact h as s.heap s.toks _ rr .refl (.bool _))
 | byt i =>
  obtain ⟨j, rfl, e1⟩ := V.onB_some e
  obtain rfl := Option.some.inj e1
  intro A s as x y Q E R rr qa qb h
  obtain ⟨_, rfl, z1⟩ := qa.inv; obtain ⟨_, rfl, z2⟩ := qb.inv
  exact eq_bytes (by rw [byt_beq z1 z2]; exact h as s.heap s.toks _ rr .refl (.bool _))
 | _ => cases e
theorem ne_ok {r : Bool} (e : neV a b = some r) : OB C n env ns (compareOp .NotEq) a b σ σ (IsV (.bool r)) := by
 cases a with
 | int i =>
  obtain ⟨j, rfl, e1⟩ := V.onI_some e
  obtain rfl := Option.some.inj e1
  intro A s as x y Q E R rr qa qb h
  obtain ⟨_, rfl⟩ := qa.inv; obtain ⟨_, rfl⟩ := qb.inv; exact ne_int (h as s.heap s.toks _ rr .refl (.bool _))
 | str i =>
  obtain ⟨j, rfl, e1⟩ := V.onS_some e
  obtain rfl := Option.some.inj e1
  intro A s as x y Q E R rr qa qb h
  obtain ⟨_, rfl⟩ := qa.inv; obtain ⟨_, rfl⟩ := qb.inv; exact ne_str (by rw [sOf_bne]; exact h as s.heap s.toks _ rr .refl (.bool _))
 | byt i =>
  obtain ⟨j, rfl, e1⟩ := V.onB_some e
  obtain rfl := Option.some.inj e1
  intro A s as x y Q E R rr qa qb h
  obtain ⟨_, rfl, z1⟩ := qa.inv; obtain ⟨_, rfl, z2⟩ := qb.inv
  exact ne_bytes (by unfold bne; rw [byt_beq z1 z2]; exact h as s.heap s.toks _ rr .refl (.bool _))
 | _ => cases e
theorem own_if {j k : Nat} {c r : Bool} (e : (if j = k then some c else none) = some r) : j = k ∧ c = r := by
 by_cases h : j = k
 ·rw [if_pos h] at e; exact ⟨h, Option.some.inj e⟩
 ·rw [if_neg h] at e; cases e
theorem is_ok {r : Bool} (e : isV a b = some r) : OB C n env ns (compareOp .Is) a b σ σ (IsV (.bool r)) := by
 obtain ⟨j, rfl, e1⟩ := V.onO_some e
 obtain ⟨k, rfl, e2⟩ := V.onO_some e1
 obtain ⟨rfl, rfl⟩ := own_if e2
 intro A s as x y Q E R rr qa qb h
 obtain ⟨l, rfl, e1⟩ := qa.inv; obtain ⟨l', rfl, e2⟩ := qb.inv
 rw [e1] at e2; cases e2
 exact wpAny_is_ref_self (h as s.heap s.toks _ rr .refl (.bool _))
theorem isn_ok {r : Bool} (e : isnV a b = some r) : OB C n env ns (compareOp .IsNot) a b σ σ (IsV (.bool r)) := by
 cases a <;> try cases e
 ·obtain ⟨j, rfl, e1⟩ := V.onO_some e
  obtain rfl := Option.some.inj e1
  intro A s as x y Q E R rr qa qb h
  obtain ⟨_, rfl⟩ := qa.inv; obtain ⟨_, rfl, _⟩ := qb.inv
  show wpAny _ _ (do return .bool (!(← isSame (.str _ _) (.ref _)))) Q E s
  exact wpAny_bind (wpAny_pure (a := false) (wpAny_pure (h as s.heap s.toks _ rr .refl (.bool _))))
 ·obtain ⟨j, rfl, e1⟩ := V.onO_some e
  obtain ⟨rfl, rfl⟩ := own_if e1
  intro A s as x y Q E R rr qa qb h
  obtain ⟨l, rfl, e1⟩ := qa.inv; obtain ⟨l', rfl, e2⟩ := qb.inv
  rw [e1] at e2; cases e2
  exact wpAny_isNot_ref_self (h as s.heap s.toks _ rr .refl (.bool _))
theorem in_list {r : Bool} {y : List Nat} (e : ((asList σ b).bind fun vs => (strsOf vs).map fun xs => xs.any (· == y)) = some r) : OB C n env ns (compareOp .In) (.str y) b σ σ (IsV (.bool r)) := by
 replace e := bnd e; obtain ⟨vs, hl, e⟩ := e
 replace e := mp_some e; obtain ⟨xs, hx, rfl⟩ := e
 intro A s as x y Q E R rr qa qb h
 obtain ⟨_, rfl⟩ := qa.inv
 obtain ⟨ad, vals, rfl, q1, q3⟩ := asList_spec rr hl qb
 exact in_list_strs q1 (strsOf_spec hx q3) (by rw [any_sOf]; exact h as s.heap s.toks _ rr .refl (.bool _))
theorem in_ok {r : Bool} (e : inV σ a b = some r) : OB C n env ns (compareOp .In) a b σ σ (IsV (.bool r)) := by
 replace e := V.onS_some e; obtain ⟨y, rfl, e⟩ := e
 cases b with
 | str x =>
  cases e
  intro A s as x y Q E R rr qa qb h
  obtain ⟨_, rfl⟩ := qa.inv; obtain ⟨_, rfl⟩ := qb.inv
  exact in_str (by rw [sOf_length]; exact h as s.heap s.toks _ rr .refl (.bool _))
 | tup vs =>
  replace e := mp_some e; obtain ⟨xs, hx, rfl⟩ := e
  intro A s as x y Q E R rr qa qb h
  obtain ⟨_, rfl⟩ := qa.inv
  obtain ⟨t, vals, rfl, q1, _, q3⟩ := qb.inv
  exact in_tuple_strs q1 (strsOf_spec hx q3) (by rw [any_sOf]; exact h as s.heap s.toks _ rr .refl (.bool _))
 | _ => exact in_list e
theorem nin_list {r : Bool} {y : List Nat} (e : ((asList σ b).bind fun vs => (strsOf vs).map fun xs => !xs.any (· == y)) = some r) : OB C n env ns (compareOp .NotIn) (.str y) b σ σ (IsV (.bool r)) := by
 replace e := bnd e; obtain ⟨vs, hl, e⟩ := e
 replace e := mp_some e; obtain ⟨xs, hx, rfl⟩ := e
 intro A s as x y Q E R rr qa qb h
 obtain ⟨_, rfl⟩ := qa.inv
 obtain ⟨ad, vals, rfl, q1, q3⟩ := asList_spec rr hl qb
 exact notin_list_strs q1 (strsOf_spec hx q3) (by rw [any_sOf]; exact h as s.heap s.toks _ rr .refl (.bool _))
theorem nin_ok {r : Bool} (e : ninV σ a b = some r) : OB C n env ns (compareOp .NotIn) a b σ σ (IsV (.bool r)) := by
 replace e := V.onS_some e; obtain ⟨y, rfl, e⟩ := e
 cases b with
 | str x =>
  cases e
  intro A s as x y Q E R rr qa qb h
  obtain ⟨_, rfl⟩ := qa.inv; obtain ⟨_, rfl⟩ := qb.inv
  exact notIn_str (by rw [sOf_length]; exact h as s.heap s.toks _ rr .refl (.bool _))
 | _ => exact nin_list e
theorem cmp_ok {op : CmpOp} {r : Bool} (e : cmpV op a b σ = some r) : OB C n env ns (compareOp op) a b σ σ (IsV (.bool r)) := by
 cases op with
 | Eq => exact eq_ok e
 | NotEq => exact ne_ok e
 | Lt => obtain ⟨i, j, rfl, rfl, rfl⟩ := ordV_some e; exact fun A s as x y Q E R rr qa qb h => by obtain ⟨_, rfl⟩ := qa.inv; obtain ⟨_, rfl⟩ := qb.inv; exact lt_int (h as s.heap s.toks _ rr .refl (.bool _))
 | LtE => obtain ⟨i, j, rfl, rfl, rfl⟩ := ordV_some e; exact fun A s as x y Q E R rr qa qb h => by obtain ⟨_, rfl⟩ := qa.inv; obtain ⟨_, rfl⟩ := qb.inv; exact le_int (h as s.heap s.toks _ rr .refl (.bool _))
 | Gt => obtain ⟨i, j, rfl, rfl, rfl⟩ := ordV_some e; exact fun A s as x y Q E R rr qa qb h => by obtain ⟨_, rfl⟩ := qa.inv; obtain ⟨_, rfl⟩ := qb.inv; exact gt_int (h as s.heap s.toks _ rr .refl (.bool _))
 | GtE => obtain ⟨i, j, rfl, rfl, rfl⟩ := ordV_some e; exact fun A s as x y Q E R rr qa qb h => by obtain ⟨_, rfl⟩ := qa.inv; obtain ⟨_, rfl⟩ := qb.inv; exact ge_int (h as s.heap s.toks _ rr .refl (.bool _))
 | Is => exact is_ok e
 | IsNot => exact isn_ok e
 | In => exact in_ok e
 | NotIn => exact nin_ok e
end
noncomputable def truthV (σ : Sg) (v : V) : Option Bool :=
 match v with
 | .bool b => some b
 | .none => some false
 | .int i => some (i != 0)
 | .str x => if x.length ≤ smallN then some ((x.length : Int) != 0) else none
 | .byt x => if x.length ≤ smallN then some ((x.length : Int) != 0) else none
 | v => (asList σ v).bind fun vs => if vs.length ≤ smallN then some (!vs.isEmpty) else none
noncomputable def plainTest : Expr → Bool
 | .UnaryOp .Not .. | .BoolOp .. | .IfExp .. | .Compare .. => false
 | _ => true
section
variable {C : Cx} {n m : Nat} {env : Env} {ns : List Str} {σ σ' σ₁ σ₂ σ₃ σ₄ : Sg} {as as' : List Addr} {h h' : Heap} {a b c d v : V} {f : F}
theorem truth_list {bb : Bool} {A : Around} {s : Shared} {x : Value} {Q : Bool → Shared → Prop} {E : Value → Shared → Prop} (r : Rel C env ns as σ s.heap) (q : VR as s.heap v x) (e : ((asList σ v).bind fun vs => if vs.length ≤ smallN then some (!vs.isEmpty) else none) = some bb) (h : ∀ tk, Q bb { s with toks := tk }) : wpAny (model C.prog C.w) A (truthy x) Q E s := by
 obtain ⟨vs, hl, e⟩ := bnd e
 obtain ⟨hz, e⟩ := if_some e
 cases e
 obtain ⟨l, vals, rfl, q1, q3⟩ := asList_spec r hl q
 refine wpAny_truthy_list q1 (by rw [List.size_toArray, q3.length]; unfold smallN at hz; lia) ?_
 have : vals.toArray.isEmpty = vs.isEmpty := by
  have := q3.length
  cases vs <;> cases vals <;> first | rfl | cases this
 rw [this]
 exact h _
theorem truth_ok {bb : Bool} {A : Around} {s : Shared} {x : Value} {Q : Bool → Shared → Prop} {E : Value → Shared → Prop} (e : truthV σ v = some bb) (r : Rel C env ns as σ s.heap) (q : VR as s.heap v x) (h : ∀ tk, Q bb { s with toks := tk }) : wpAny (model C.prog C.w) A (truthy x) Q E s := by
 cases v with
 | bool b => cases e; obtain rfl := q.inv; exact wpAny_truthy_bool (h s.toks)
 | none => cases e; obtain rfl := q.inv; exact truthy_none (h s.toks)
 | int i => cases e; obtain ⟨_, rfl⟩ := q.inv; exact PySem.P.truthy_int (h s.toks)
 | str y =>
  obtain ⟨hz, e⟩ := if_some e
  cases e; obtain ⟨_, rfl⟩ := q.inv
  refine PySem.P.truthy_str ?_ ?_
  ·rw [sOf_length]; unfold smallN at hz; lia
  ·rw [sOf_length]; exact h _
 | byt y =>
  obtain ⟨hz, e⟩ := if_some e
  cases e; obtain ⟨_, rfl, _⟩ := q.inv
  refine truthy_bytes ?_ ?_
  ·rw [bOf_size]; unfold smallN at hz; exact tA ‹_› (by decide)
  ·rw [bOf_size]; exact h _
 | _ => exact truth_list r q e h
theorem tt_plain {e : Expr} {bb : Bool} (h1 : TE C n env ns e σ v σ₁) (ht : truthV σ₁ v = some bb) (hp : plainTest e = true) : TT C n env ns e σ bb σ₁ := fun A s as Q E R r h =>
 isTrue_plain (h1 A s as _ E R r fun as1 g1 t1 x r1 s1 v1 => truth_ok ht r1 v1 fun tk => h as1 g1 tk bb r1 s1 rfl) (by
  cases e <;> first | rfl | cases hp | (rename_i op _ _; cases op <;> first | rfl | cases hp))
theorem tt_and_nil {pos : Pos} : TT C n env ns (.BoolOp .And [] pos) σ true σ := fun A s as Q E R r h => isTrue_and_nil (h as s.heap s.toks true r .refl rfl)
theorem tt_or_nil {pos : Pos} : TT C n env ns (.BoolOp .Or [] pos) σ false σ := fun A s as Q E R r h => isTrue_or_nil (h as s.heap s.toks false r .refl rfl)
theorem tt_and_t {x : Expr} {rest : List Expr} {pos : Pos} {bb : Bool} (h1 : TT C n env ns x σ true σ₁) (h2 : TT C n env ns (.BoolOp .And rest pos) σ₁ bb σ₂) : TT C n env ns (.BoolOp .And (x :: rest) pos) σ bb σ₂ := fun A s as Q E R r h =>
 isTrue_and (h1 A s as _ E R r fun as1 g1 t1 c r1 s1 e => by
  have e' : c = true := e
  subst e'
  rw [if_pos rfl]
  exact h2 A _ as1 Q E R r1 fun as2 g2 t2 d r2 s2 e2 => h as2 g2 t2 d r2 (s1.trans s2) e2)
theorem tt_and_f {x : Expr} {rest : List Expr} {pos : Pos} (h1 : TT C n env ns x σ false σ₁) : TT C n env ns (.BoolOp .And (x :: rest) pos) σ false σ₁ := fun A s as Q E R r h =>
 isTrue_and (h1 A s as _ E R r fun as1 g1 t1 c r1 s1 e => by
  have e' : c = false := e
  subst e'
  exact h as1 g1 t1 false r1 s1 rfl)
theorem tt_or_f {x : Expr} {rest : List Expr} {pos : Pos} {bb : Bool} (h1 : TT C n env ns x σ false σ₁) (h2 : TT C n env ns (.BoolOp .Or rest pos) σ₁ bb σ₂) : TT C n env ns (.BoolOp .Or (x :: rest) pos) σ bb σ₂ := fun A s as Q E R r h =>
 isTrue_or (h1 A s as _ E R r fun as1 g1 t1 c r1 s1 e => by
  have e' : c = false := e
  subst e'
  exact h2 A _ as1 Q E R r1 fun as2 g2 t2 d r2 s2 e2 => h as2 g2 t2 d r2 (s1.trans s2) e2)
theorem tt_or_t {x : Expr} {rest : List Expr} {pos : Pos} (h1 : TT C n env ns x σ true σ₁) : TT C n env ns (.BoolOp .Or (x :: rest) pos) σ true σ₁ := fun A s as Q E R r h =>
 isTrue_or (h1 A s as _ E R r fun as1 g1 t1 c r1 s1 e => by
  have e' : c = true := e
  subst e'
  rw [if_pos rfl]
  exact h as1 g1 t1 true r1 s1 rfl)
theorem te_ite {test body orelse : Expr} {pos : Pos} {bb : Bool} (h1 : TT C n env ns test σ bb σ₁) (h2 : TE C n env ns (if bb then body else orelse) σ₁ v σ₂) : TE C n env ns (.IfExp test body orelse pos) σ v σ₂ := fun A s as Q E R r h =>
 wpAny_IfExp (h1 A s as _ E R r fun as1 g1 t1 c r1 s1 e => by
  have e' : c = bb := e
  subst e'
  have := h2 A { s with heap := g1, toks := t1 } as1 Q E R r1 fun as2 g2 t2 x r2 s2 v2 => h as2 g2 t2 x r2 (s1.trans s2) v2
  cases c
  ·simpa using this
  ·simpa using this)
theorem tx_aug (ok : EnvOk env ns) {i : Nat} {x : Str} {p : Pos} {value : Expr} {pos : Pos} {k j : Int} (hx : ns[i]? = some x) (hk : stores env x = true) (hv : σ.loc[i]? = some (some (.int k))) (h1 : TE C n env ns value σ (.int j) σ₁) (hz : (x == ("__classdict__" : Str)) = false) :
  TX C n env ns (.AugAssign (.Name x p) .Add value pos) σ .next (σ₁.put i (.int (k + j))) := fun A s as Q E R r h => by
 obtain ⟨m, hm, q⟩ := id r.fr
 obtain ⟨y, hy, q⟩ := q i _ hv
 rw [hx] at hy; cases hy
 have rest : ∀ t, wpAny (model C.prog C.w) A (eval value env) (fun y s' => wpAny (model C.prog C.w) A (inplaceOp .Add (.int k t) y) (fun z s'' => wpAny (model C.prog C.w) A (storeName env x z) (fun _ s''' => Q .next s''') E s'') E s') E s := fun t =>
  h1 A s as _ E R r fun as1 g1 t1 y r1 s1 v1 => by
   obtain ⟨_, rfl⟩ := v1.inv
   exact PySem.P.iadd_int (store_loc ok hx hk r1 (.int _ _) fun g2 t2 r2 s2 => h as1 g2 t2 _ r2 (s1.trans s2) .next)
 rcases q with ⟨k', val, e, c⟩ | ⟨k', c, val, e1, e2, e3⟩
 ·obtain ⟨_, rfl⟩ := c.inv
  exact wpAny_AugAssign_Name (wpAny_loadName_local ok.kind k' hm e (rest _))
 ·obtain ⟨_, rfl⟩ := e3.inv
  rcases k' with k' | k'
  ·exact wpAny_AugAssign_Name (wpAny_loadName_cell ok.kind k' e1 e2 (rest _))
  ·exact wpAny_AugAssign_Name (wpAny_loadName_free ok.kind k' e1 e2 (rest _) hz)
theorem ta_pair (ok : EnvOk env ns) {i j : Nat} {x y : Str} {p q tp : Pos} {k : Nat} (hx : ns[i]? = some x) (hk : stores env x = true) (hy : ns[j]? = some y) (hl : stores env y = true) :
  TA C n env ns (.Tuple [.Name x p, .Name y q] k tp) (.tup [a, b]) σ ((σ.put i a).put j b) := fun A s as val Q E R r qv h => by
 obtain ⟨t, vals, rfl, q1, q2, q3⟩ := qv.inv
 obtain ⟨v1, r1, rfl, w1, q3⟩ := q3.inv
 obtain ⟨v2, r2, rfl, w2, q3⟩ := q3.inv
 obtain rfl := q3.inv
 refine assign_Tuple_tuple R.1 q1 rfl rfl fun h' he => ?_
 have gr : ∀ b o, s.heap.get? b = some o → h'.get? b = some o := fun b o e => he b o (fun z => Nat.lt_irrefl _ (by have := Heap.lt_size e; rw [z] at this; exact this)) e
 have rr := r.grow gr
 have w1' := r.move (Step.growing gr) w1
 have w2' := r.move (Step.growing gr) w2
 show wpAny _ A (do holding [v2] (assign (.Name x p) env v1); assignInOrder [assign (.Name y q) env] [v2]) Q E _
 refine wpAny_bind (wpAny_holding (wpAny_assign_Name (store_loc ok hx hk rr w1' fun g2 t2 r2 s2 => ?_)))
 show wpAny _ A (do holding [] (assign (.Name y q) env v2); assignInOrder [] []) Q E _
 refine wpAny_bind (wpAny_holding (wpAny_assign_Name (store_loc ok hy hl r2 (rr.move s2 w2') fun g3 t3 r3 s3 => ?_)))
 exact wpAny_pure (h as g3 t3 r3 ((Step.growing gr).trans (s2.trans s3)))
theorem tx_pairS (ok : EnvOk env ns) {i j : Nat} {x y : Str} {p q tp pos : Pos} {k : Nat} {value : Expr} (hx : ns[i]? = some x) (hk : stores env x = true) (hy : ns[j]? = some y) (hl : stores env y = true)
  (h1 : TE C n env ns value σ (.tup [a, b]) σ₁) (hs : swapsWithSole [.Tuple [.Name x p, .Name y q] k tp] value pos.line env = pure false) (hw : swappedStores [.Tuple [.Name x p, .Name y q] k tp] value env = pure (some [x, y])) :
  TX C n env ns (.Assign [.Tuple [.Name x p, .Name y q] k tp] value pos) σ .next ((σ₁.put j b).put i a) := fun A s as Q E R r h => by
 refine Assign_Tuple_swapped (h1 A s as _ E R r fun as1 g1 t1 xx r1 s1 qv => ?_) hs hw
 obtain ⟨t, vals, rfl, q1, q2, q3⟩ := qv.inv
 obtain ⟨v1, l1, rfl, w1, q3⟩ := q3.inv
 obtain ⟨v2, l2, rfl, w2, q3⟩ := q3.inv
 obtain rfl := q3.inv
 have sz : ([x, y] : List Str).length = ([v1, v2] : List Value).toArray.size := rfl
 rw [sz]
 refine unpackItems_tuple (s := { s with heap := g1, toks := t1 }) (items := [v1, v2].toArray) R.1 q1 fun h' he => ?_
 clear sz
 have he' : Heap.ExtBut g1.objs.size g1 h' := he
 have gr : ∀ b o, g1.get? b = some o → h'.get? b = some o := fun b o e => he' b o (fun z => Nat.lt_irrefl _ (by have := Heap.lt_size e; rw [z] at this; exact this)) e
 have rr := r1.grow gr
 have w1' := r1.move (Step.growing gr) w1
 have w2' := r1.move (Step.growing gr) w2
 show wpAny _ A (do holding [v1] (bindName env y v2); assignInOrder [fun v => bindName env x v] [v1]) _ E _
 refine wpAny_bind (wpAny_holding (wpAny_bindName (store_loc ok hy hl rr w2' fun g2 t2 r2 s2 => ?_)))
 show wpAny _ A (do holding [] (bindName env x v1); assignInOrder [] []) _ E _
 refine wpAny_bind (wpAny_holding (wpAny_bindName (store_loc ok hx hk r2 (rr.move s2 w1') fun g3 t3 r3 s3 => ?_)))
 exact wpAny_pure (h as1 g3 t3 _ r3 (s1.trans ((Step.growing gr).trans (s2.trans s3))) .next)
end
inductive Blt where
 | len | ord | bytes | sum | min | range | isStr
noncomputable def Blt.val : Blt → Value
 | .len => .builtin "len"
 | .ord => .builtin "ord"
 | .bytes => .type "bytes"
 | .sum => .builtin "sum"
 | .min => .builtin "min"
 | .range => .type "range"
 | .isStr => .builtin "isinstance"
noncomputable def intsOf : List V → Option (List Int)
 | [] => some []
 | .int x :: r => (intsOf r).map (x :: ·)
 | _ => none
noncomputable def lenV (σ : Sg) (v : V) : Option V := match v with
 | .str x => if x.length ≤ smallN then some (.int x.length) else none
 | .byt x => if x.length ≤ smallN then some (.int x.length) else none
 | v => (asList σ v).bind fun vs => if vs.length ≤ smallN then some (.int vs.length) else none
noncomputable def ordC (v : V) : Option V := v.onS fun x => match x with
 | [c] => some (.int c)
 | _ => none
noncomputable def bytesV (σ : Sg) (v : V) : Option V := (asList σ v).bind fun vs => (intsOf vs).bind fun ns => if vs.length ≤ smallN ∧ ns.all (fun n => decide (0 ≤ n) && decide (n < 256)) then some (.byt (ns.map Int.toNat)) else none
noncomputable def sumV (σ : Sg) (v : V) : Option V := (asList σ v).bind fun vs => (intsOf vs).map fun ns => .int ns.sum
noncomputable def int2 (g : Int → Int → V) (a b : V) : Option V := a.onI fun a => b.onI fun b => some (g a b)
noncomputable def rng1 (a : V) : Option V := a.onI fun b => some (.rng 0 b)
noncomputable def isStrT (v : Value) : Bool := match v with
 | .type t => t == "str"
 | _ => false
noncomputable def isStrV (a b : V) : Option V := a.onS fun _ => match b with
 | .raw v => if isStrT v then some (.bool true) else none
 | _ => none
noncomputable def arg1 (g : V → Option V) (args : List V) : Option V := match args with
 | [v] => g v
 | _ => none
noncomputable def arg2 (g : V → V → Option V) (args : List V) : Option V := match args with
 | [v, w] => g v w
 | _ => none
noncomputable def rngV (args : List V) : Option V := match args with
 | [] => none
 | a :: l => match l with
  | [] => rng1 a
  | b :: l => match l with
   | [] => int2 .rng a b
   | _ :: _ => none
noncomputable def bltV (σ : Sg) (f : Blt) (args : List V) : Option V :=
 match f with
 | .len => arg1 (lenV σ) args
 | .ord => arg1 ordC args
 | .bytes => arg1 (bytesV σ) args
 | .sum => arg1 (sumV σ) args
 | .min => arg2 (int2 fun a b => .int (if b < a then b else a)) args
 | .range => rngV args
 | .isStr => arg2 isStrV args
section
variable {C : Cx} {n m : Nat} {env : Env} {ns : List Str} {σ σ' σ₁ σ₂ σ₃ σ₄ : Sg} {as as' : List Addr} {h h' : Heap} {a b c d v : V} {f : F}
noncomputable abbrev CA (C : Cx) (n : Nat) (env : Env) (ns : List Str) (f : Value) (args : List V) (σ : Sg) (v : V) (σ' : Sg) : Prop :=
 ∀ (A : Around) (s : Shared) (as : List Addr) (xs : List Value) (Q : Value → Shared → Prop) (E : Value → Shared → Prop), Room n A → Rel C env ns as σ s.heap → VRs as s.heap args xs →
  (∀ as' h' tk x, Rel C env ns as' σ' h' → Step C env as s.heap as' h' → VR as' h' v x → Q x { s with heap := h', toks := tk }) → wpAny (model C.prog C.w) A (call f xs) Q E s
theorem intsOf_spec {vs : List V} : ∀ {xs : List Int} {vals : List Value}, intsOf vs = some xs → VRs as h vs vals → IntsAre vals xs := by
 induction vs with
 | nil => intro _ _ e q; cases e; obtain rfl := q.inv; exact .nil
 | cons w r ih =>
  intro _ _ e q
  cases w with
  | int x =>
   obtain ⟨ys, hr, rfl⟩ := mp_some e
   obtain ⟨val, vals, rfl, q1, q2⟩ := q.inv
   obtain ⟨t, rfl⟩ := q1.inv
   exact .cons _ _ (ih hr q2)
  | _ => cases e
theorem byteArr_eq (ns : List Int) : byteArr ns = bOf (ns.map Int.toNat) := by
 unfold byteArr bOf
 rw [List.map_map]
 rfl
theorem arg1_some {g : V → Option V} {args : List V} (e : arg1 g args = some v) : ∃ w, args = [w] ∧ g w = some v := by
 cases args with
 | nil => cases e
 | cons w l => cases l with
  | nil => exact ⟨_, rfl, e⟩
  | cons => cases e
theorem arg2_some {g : V → V → Option V} {args : List V} (e : arg2 g args = some v) : ∃ w u, args = [w, u] ∧ g w u = some v := by
 cases args with
 | nil => cases e
 | cons w l => cases l with
  | nil => cases e
  | cons u l => cases l with
   | nil => exact ⟨_, _, rfl, e⟩
   | cons => cases e
theorem isStrT_spec {v : Value} (e : isStrT v = true) : v = .type "str" := by
 cases v with
 | type t => rw [eq_of_beq (show (t == "str") = true from e)]
 | _ => cases e
theorem ca1 {f : Value} {w : V} (H : ∀ (A : Around) (s : Shared) (as : List Addr) (x : Value) (Q : Value → Shared → Prop) (E : Value → Shared → Prop), Room n A → Rel C env ns as σ s.heap → VR as s.heap w x →
  (∀ as' h' tk x, Rel C env ns as' σ' h' → Step C env as s.heap as' h' → VR as' h' v x → Q x { s with heap := h', toks := tk }) → wpAny (model C.prog C.w) A (call f [x]) Q E s) : CA C n env ns f [w] σ v σ' := by
 intro A s as xs Q E R r q h
 obtain ⟨x, _, rfl, q1, q2⟩ := q.inv
 obtain rfl := q2.inv
 exact H A s as x Q E R r q1 h
theorem ca2 {f : Value} {w u : V} (H : ∀ (A : Around) (s : Shared) (as : List Addr) (x y : Value) (Q : Value → Shared → Prop) (E : Value → Shared → Prop), Room n A → Rel C env ns as σ s.heap → VR as s.heap w x → VR as s.heap u y →
  (∀ as' h' tk x, Rel C env ns as' σ' h' → Step C env as s.heap as' h' → VR as' h' v x → Q x { s with heap := h', toks := tk }) → wpAny (model C.prog C.w) A (call f [x, y]) Q E s) : CA C n env ns f [w, u] σ v σ' := by
 intro A s as xs Q E R r q h
 obtain ⟨x, _, rfl, q1, q2⟩ := q.inv
 replace q2 := q2.inv; obtain ⟨y, _, rfl, q2, q3⟩ := q2
 obtain rfl := q3.inv
 exact H A s as x y Q E R r q1 q2 h
theorem int2_some {g : Int → Int → V} (e : int2 g a b = some v) : ∃ i j, a = .int i ∧ b = .int j ∧ v = g i j := by
 obtain ⟨i, rfl, e1⟩ := V.onI_some e
 obtain ⟨j, rfl, e2⟩ := V.onI_some e1
 exact ⟨_, _, rfl, rfl, (Option.some.inj e2).symm⟩
theorem len_lst {w : V} (e : ((asList σ w).bind fun vs => if vs.length ≤ smallN then some (.int vs.length) else none) = some v) : CA C n env ns (Blt.val .len) [w] σ v σ := by
 obtain ⟨vs, hl, e⟩ := bnd e
 obtain ⟨hz, e⟩ := if_some e
 cases e
 refine ca1 fun A s as x Q E R r q1 h => ?_
 obtain ⟨l, vals, rfl, p1, p3⟩ := asList_spec r hl q1
 refine len_list p1 ?_ ?_
 ·rw [List.size_toArray, p3.length]; unfold smallN at hz; omega
 ·rw [List.size_toArray, p3.length]; exact h as s.heap _ _ r .refl (.int _ _)
theorem len_ok {w : V} (e : lenV σ w = some v) : CA C n env ns (Blt.val .len) [w] σ v σ := by
 cases w with
 | str x =>
  obtain ⟨hz, e⟩ := if_some e
  cases e
  refine ca1 fun A s as x Q E R r q1 h => ?_
  obtain ⟨_, rfl⟩ := q1.inv
  refine PySem.P.len_str ?_ ?_
  ·rw [sOf_length]; unfold smallN at hz; lia
  ·rw [sOf_length]; exact h as s.heap _ _ r .refl (.int _ _)
 | byt x =>
  obtain ⟨hz, e⟩ := if_some e
  cases e
  refine ca1 fun A s as x Q E R r q1 h => ?_
  obtain ⟨_, rfl, _⟩ := q1.inv
  refine len_bytes ?_ ?_
  ·rw [bOf_size]; unfold smallN at hz; exact tA ‹_› (by decide)
  ·rw [bOf_size]; exact h as s.heap _ _ r .refl (.int _ _)
 | _ => exact len_lst e
theorem ord_ok {w : V} (e : ordC w = some v) : CA C n env ns (Blt.val .ord) [w] σ v σ := by
 obtain ⟨x, rfl, e1⟩ := V.onS_some e
 split at e1
 ·cases e1
  intro A s as xs Q E R r q h
  obtain ⟨_, _, rfl, q1, q2⟩ := q.inv
  obtain rfl := q2.inv; obtain ⟨_, rfl⟩ := q1.inv
  exact PySem.P.ord_of_char (h as s.heap _ _ r .refl (.int _ _))
 ·cases e1
theorem bytes_ok {w : V} (e : bytesV σ w = some v) : CA C n env ns (Blt.val .bytes) [w] σ v σ := by
 replace e := bnd e; obtain ⟨vs, hl, e⟩ := e
 replace e := bnd e; obtain ⟨is, hi, e⟩ := e
 replace e := if_some e; obtain ⟨hz, e⟩ := e
 cases e
 have rng : ∀ n ∈ is, 0 ≤ n ∧ n < 256 := fun n hn => by
  have := List.all_eq_true.mp hz.2 n hn
  simpa using this
 refine ca1 fun A s as x Q E R r q1 h => ?_
 obtain ⟨l, vals, rfl, p1, p3⟩ := asList_spec r hl q1
 refine call_bytes_ints p1 (intsOf_spec hi p3) rng (by rw [p3.length, sizeLine_val]; have := hz.1; unfold smallN at this; exact tA ‹_› (by decide)) R.1 fun h' t k hk => ?_
 rw [byteArr_eq]
 refine h as h' k _ (r.grow hk) (Step.growing hk) (.byt _ _ fun m hm => ?_)
 obtain ⟨i, hi2, rfl⟩ := List.mem_map.mp hm
 have := rng i hi2
 omega
theorem sum_ok {w : V} (e : sumV σ w = some v) : CA C n env ns (Blt.val .sum) [w] σ v σ := by
 replace e := bnd e; obtain ⟨vs, hl, e⟩ := e
 replace e := mp_some e; obtain ⟨is, hi, rfl⟩ := e
 refine ca1 fun A s as x Q E R r q1 h => ?_
 obtain ⟨l, vals, rfl, p1, p3⟩ := asList_spec r hl q1
 have hI := intsOf_spec hi p3
 obtain ⟨ys, hx⟩ := hI.allInts.items
 have hn : numsOf vals.toArray.toList = is := by rw [show vals.toArray.toList = vals from rfl, hI.numsOf]
 rw [hx] at p1 hn
 rw [nums_intItems] at hn
 refine sum_intListG R.1 p1 fun h' tk t' hk => ?_
 have := h as h' tk (.int is.sum t') (r.grow hk) (Step.growing hk) (.int _ _)
 rw [preSum_eq, List.take_of_length_le (by simp), hn]
 exact this
theorem min_ok {i j : Int} : CA C n env ns (Blt.val .min) [.int i, .int j] σ (.int (if j < i then j else i)) σ := ca2 fun A s as x y Q E R r q1 q2 h => by
 obtain ⟨_, rfl⟩ := q1.inv; obtain ⟨_, rfl⟩ := q2.inv
 refine min_two_ints R.1 fun h' tk hk => ?_
 by_cases z : j < i
 ·rw [if_pos z]; exact h as h' tk _ (r.grow hk) (Step.growing hk) (by rw [if_pos z]; exact .int _ _)
 ·rw [if_neg z]; exact h as h' tk _ (r.grow hk) (Step.growing hk) (by rw [if_neg z]; exact .int _ _)
theorem rng1_ok {i : Int} : CA C n env ns (Blt.val .range) [.int i] σ (.rng 0 i) σ := ca1 fun A s as x Q E R r q1 h => by
 obtain ⟨_, rfl⟩ := q1.inv
 exact call_range_1 (h as _ _ _ (r.push _) (Step.push _) (.rng _ _ _ _ _ _ (Heap.get?_push_size _ rfl) (fun m => Nat.lt_irrefl _ (r.alive m))))
theorem rng2_ok {i j : Int} : CA C n env ns (Blt.val .range) [.int i, .int j] σ (.rng i j) σ := ca2 fun A s as x y Q E R r q1 q2 h => by
 obtain ⟨_, rfl⟩ := q1.inv; obtain ⟨_, rfl⟩ := q2.inv
 exact call_range_2 (h as _ _ _ (r.push _) (Step.push _) (.rng _ _ _ _ _ _ (Heap.get?_push_size _ rfl) (fun m => Nat.lt_irrefl _ (r.alive m))))
theorem isStr_ok {x : List Nat} : CA C n env ns (Blt.val .isStr) [.str x, .raw (.type "str")] σ (.bool true) σ := ca2 fun A s as x y Q E R r q1 q2 h => by
 obtain ⟨_, rfl⟩ := q1.inv; obtain rfl := q2.inv
 exact PySem.IsiPair.str_str (h as s.heap s.toks _ r .refl (.bool _))
theorem rng_ok {args : List V} (e : rngV args = some v) : CA C n env ns (Blt.val .range) args σ v σ := by
 cases args with
 | nil => cases e
 | cons a l => cases l with
  | nil => obtain ⟨i, rfl, e⟩ := V.onI_some e; cases e; exact rng1_ok
  | cons b l => cases l with
   | nil => obtain ⟨i, j, rfl, rfl, rfl⟩ := int2_some e; exact rng2_ok
   | cons => cases e
theorem blt_ok {f : Blt} {args : List V} (e : bltV σ f args = some v) : CA C n env ns f.val args σ v σ := by
 cases f with
 | len => obtain ⟨w, rfl, e⟩ := arg1_some e; exact len_ok e
 | ord => obtain ⟨w, rfl, e⟩ := arg1_some e; exact ord_ok e
 | bytes => obtain ⟨w, rfl, e⟩ := arg1_some e; exact bytes_ok e
 | sum => obtain ⟨w, rfl, e⟩ := arg1_some e; exact sum_ok e
 | min =>
  obtain ⟨w, u, rfl, e⟩ := arg2_some e
  obtain ⟨a, b, rfl, rfl, rfl⟩ := int2_some e
  exact min_ok
 | range => exact rng_ok e
 | isStr =>
  obtain ⟨w, u, rfl, e⟩ := arg2_some e
  replace e := V.onS_some e; obtain ⟨x, rfl, e⟩ := e
  cases u with
  | raw v0 =>
   obtain ⟨hv, e⟩ := if_some e
   cases isStrT_spec hv; cases e
   exact isStr_ok
  | _ => cases e
theorem te_callb {fe : Expr} {es : List Expr} {pos : Pos} {fv : Value} {vs : List V} (hf : (∃ id, fv = .builtin id) ∨ ∃ T, fv = .type T) (h1 : TE C n env ns fe σ (.raw fv) σ₁) (hn : es ≠ [] ∧ es.all notStar = true)
  (h2 : TS C n env ns es pos σ₁ vs σ₂) (h3 : CA C n env ns fv vs σ₂ v σ₃) (he : eval (.Call fe es [] pos) env = (do callWith pos (← eval fe env) [] (backTo pos (starEach es env)) (backToKw pos (keywordEach [] env)))) :
  TE C n env ns (.Call fe es [] pos) σ v σ₃ := fun A s as Q E R r h => by
 cases es with
 | nil => exact absurd rfl hn.1
 | cons e rest =>
  have hs := hn.2
  simp only [List.all_cons, Bool.and_eq_true] at hs
  have hp : (backTo pos (starEach rest env)).any (·.1) = false := by
   have := hs.2
   clear hn h2 he hs
   induction rest with
   | nil => rfl
   | cons e' rest ih =>
    simp only [List.all_cons, Bool.and_eq_true] at this
    rw [starEach_cons this.1]
    show (false || _) = false
    rw [Bool.false_or]
    exact ih this.2
  refine Call_ (h1 A s as _ E R r fun as1 g1 t1 x r1 s1 v1 => ?_) he
  obtain rfl := v1.inv
  rcases hf with ⟨id, rfl⟩ | ⟨T, rfl⟩
  ·exact PyProof.Rows.callWith_builtin1 (h2 A _ as1 _ E R r1 fun as2 g2 t2 xs r2 s2 v2 => h3 A _ as2 xs Q E R r2 v2 fun as3 g3 t3 y r3 s3 v3 => h as3 g3 t3 y r3 (s1.trans (s2.trans s3)) v3) (starEach_cons hs.1) hp
  ·exact PyProof.Rows.callWith_type1 (h2 A _ as1 _ E R r1 fun as2 g2 t2 xs r2 s2 v2 => h3 A _ as2 xs Q E R r2 v2 fun as3 g3 t3 y r3 s3 v3 => h as3 g3 t3 y r3 (s1.trans (s2.trans s3)) v3) (starEach_cons hs.1) hp
end
inductive Mth where
 | append | replace | join
noncomputable def Mth.id : Mth → String
 | .append => "list.append"
 | .replace => "str.replace"
 | .join => "str.join"
noncomputable def occ (x y : List Nat) (lo : Nat) (most : Nat) : List Nat := Builtin.Str.occurrences (sOf x) (sOf y) lo x.length most
noncomputable def O.onL {α : Type} (o : O) (f : List V → Option α) : Option α := match o with
 | .lst vs => f vs
 | .obj => none
theorem O.onL_some {α : Type} {o : O} {f : List V → Option α} {r : α} (e : o.onL f = some r) : ∃ vs, o = .lst vs ∧ f vs = some r := by
 cases o with
 | lst vs => exact ⟨vs, rfl, e⟩
 | obj => cases e
noncomputable def appV (σ : Sg) (o v : V) : Option (V × Sg) := o.onO fun k => (σ.hp[k]?).bind fun u => u.onL fun vs => if vs.length ≤ smallN then some (.none, σ.setO k (.lst (vs ++ [v]))) else none
noncomputable def replV (σ : Sg) (o y z : V) : Option (V × Sg) := o.onS fun x => y.onS fun y => z.onS fun z => if (occ x y 0 (x.length + 1)).isEmpty then some (.str x, σ) else none
noncomputable def joinV (σ : Sg) (o l : V) : Option (V × Sg) := o.onS fun x => match x with
 | [] => (asList σ l).bind fun vs => (strsOf vs).bind fun xs => if (xs.map List.length).sum ≤ smallN then some (.str xs.flatten, σ) else none
 | _ :: _ => none
noncomputable def marg1 (g : V → Option (V × Sg)) (args : List V) : Option (V × Sg) := match args with
 | [v] => g v
 | _ => none
noncomputable def marg2 (g : V → V → Option (V × Sg)) (args : List V) : Option (V × Sg) := match args with
 | [v, w] => g v w
 | _ => none
noncomputable def mthV (σ : Sg) (m : Mth) (o : V) (args : List V) : Option (V × Sg) :=
 match m with
 | .append => marg1 (appV σ o) args
 | .replace => marg2 (replV σ o) args
 | .join => marg1 (joinV σ o) args
section
variable {C : Cx} {n m : Nat} {env : Env} {ns : List Str} {σ σ' σ₁ σ₂ σ₃ σ₄ : Sg} {as as' : List Addr} {h h' : Heap} {a b c d v : V} {f : F}
theorem join_fold : ∀ (xs : List (List Nat)) (acc : Array Nat), (xs.map sOf).foldl (fun acc p => acc ++ (sOf []).cps ++ p.cps) acc = acc ++ xs.flatten.toArray
 | [], acc => by simp
 | x :: xs, acc => by
  rw [List.map_cons, List.foldl_cons, join_fold xs]
  simp
theorem join_flat (xs : List (List Nat)) : Txt.join (sOf []) (xs.map sOf) = sOf xs.flatten := by
 unfold Txt.join Builtin.Str.glued
 cases xs with
 | nil => rfl
 | cons x xs =>
  rw [List.map_cons, List.drop_succ_cons, List.drop_zero, join_fold]
  simp
theorem marg1_some {g : V → Option (V × Sg)} {args : List V} {r : V × Sg} (e : marg1 g args = some r) : ∃ w, args = [w] ∧ g w = some r := by
 cases args with
 | nil => cases e
 | cons w l => cases l with
  | nil => exact ⟨_, rfl, e⟩
  | cons => cases e
theorem marg2_some {g : V → V → Option (V × Sg)} {args : List V} {r : V × Sg} (e : marg2 g args = some r) : ∃ w u, args = [w, u] ∧ g w u = some r := by
 cases args with
 | nil => cases e
 | cons w l => cases l with
  | nil => cases e
  | cons u l => cases l with
   | nil => exact ⟨_, _, rfl, e⟩
   | cons => cases e
theorem appV_some {o w : V} {r : V × Sg} (e : appV σ o w = some r) : ∃ k vs, o = .own k ∧ σ.hp[k]? = some (.lst vs) ∧ vs.length ≤ smallN ∧ r = (V.none, σ.setO k (.lst (vs ++ [w]))) := by
 replace e := V.onO_some e; obtain ⟨k, rfl, e⟩ := e
 replace e := bnd e; obtain ⟨u, hk, e⟩ := e
 replace e := O.onL_some e; obtain ⟨vs, rfl, e⟩ := e
 replace e := if_some e
 exact ⟨k, vs, rfl, hk, e.1, (Option.some.inj e.2).symm⟩
theorem replV_some {o w u : V} {r : V × Sg} (e : replV σ o w u = some r) : ∃ x y z, o = .str x ∧ w = .str y ∧ u = .str z ∧ (if (occ x y 0 (x.length + 1)).isEmpty then some (V.str x, σ) else none) = some r := by
 obtain ⟨x, rfl, e1⟩ := V.onS_some e
 obtain ⟨y, rfl, e2⟩ := V.onS_some e1
 obtain ⟨z, rfl, e3⟩ := V.onS_some e2
 exact ⟨_, _, _, rfl, rfl, rfl, e3⟩
theorem app_of {k : Nat} {vs : List V} {w : V} (hk : σ.hp[k]? = some (.lst vs)) (hz : vs.length ≤ smallN) : mthV σ .append (.own k) [w] = some (.none, σ.setO k (.lst (vs ++ [w]))) := by
 show (σ.hp[k]?).bind _ = _
 rw [hk]; exact if_pos hz
theorem joinV_some {o l : V} {r : V × Sg} (e : joinV σ o l = some r) : o = .str [] ∧ ((asList σ l).bind fun vs => (strsOf vs).bind fun xs => if (xs.map List.length).sum ≤ smallN then some (V.str xs.flatten, σ) else none) = some r := by
 replace e := V.onS_some e; obtain ⟨x, rfl, e⟩ := e
 cases x with
 | nil => exact ⟨rfl, e⟩
 | cons => cases e
theorem join_of {l : V} {vs : List V} {xs : List (List Nat)} (hl : asList σ l = some vs) (hx : strsOf vs = some xs) (hz : (xs.map List.length).sum ≤ smallN) : mthV σ .join (.str []) [l] = some (.str xs.flatten, σ) := by
 show (asList σ l).bind _ = _
 rw [hl]; show (strsOf vs).bind _ = _
 rw [hx]; exact if_pos hz
theorem app_ok {o w : V} (e : appV σ o w = some (v, σ')) : CA C n env ns (.builtin (Mth.id .append)) [o, w] σ v σ' := by
 replace e := appV_some e; obtain ⟨k, vs, rfl, hk, hz, e⟩ := e
 cases e
 refine ca2 fun A s as x y Q E R r q1 q2 h => ?_
 obtain ⟨l, rfl, e1⟩ := q1.inv
 obtain ⟨l', e2, vals, p1, p2⟩ := r.hr.has _ _ hk
 cases Option.some.inj (e1.symm.trans e2)
 refine list_append_plainL p1 (fun h' hl hs => ?_) (by rw [List.size_toArray, p2.length, sizeLine_val]; unfold smallN at hz; exact tA ‹_› (by decide))
 have e3 : vals.toArray.push y = (vals ++ [y]).toArray := by simp
 rw [e3] at hl
 exact h as h' s.toks _ (r.setOwn e1 hs (p2.append (.cons _ _ _ _ q2 .nil)) hl) (Step.setOwn e1 hs (let ⟨o, _, g, _⟩ := hl; ⟨o, g⟩)) .none
theorem repl_ok {o w u : V} (e : replV σ o w u = some (v, σ')) : CA C n env ns (.builtin (Mth.id .replace)) [o, w, u] σ v σ' := by
 replace e := replV_some e; obtain ⟨x, y, z, rfl, rfl, rfl, e⟩ := e
 replace e := if_some e; obtain ⟨ho, e⟩ := e
 cases e
 intro A s as xs Q E R r q h
 replace q := q.inv; obtain ⟨_, _, rfl, q1, q2⟩ := q
 replace q2 := q2.inv; obtain ⟨_, _, rfl, q2, q3⟩ := q2
 replace q3 := q3.inv; obtain ⟨_, _, rfl, q3, q4⟩ := q3
 replace q4 := q4.inv; obtain rfl := q4; replace q1 := q1.inv; obtain ⟨_, rfl⟩ := q1; replace q2 := q2.inv; obtain ⟨_, rfl⟩ := q2; replace q3 := q3.inv; obtain ⟨_, rfl⟩ := q3
 unfold occ at ho
 have ho' : ((Builtin.Str.occurrences (sOf x) (sOf y) 0 (sOf x).length ((sOf x).length + 1)).isEmpty || ((sOf y).length == 0 && (sOf z).length == 0)) = true := by rw [sOf_length, ho]; rfl
 refine call_gives PySem.F.slot_str_replace (typeIs_str _ _ _) PySem.F.entry_str_replace (PySem.F.args_str_replace_3 _ _ _) (gives_str_replace _ _ _ _ _ _ fun hc => by rw [ho'] at hc; cases hc) ?_
 rw [if_pos ho']
 exact h as s.heap s.toks _ r .refl (.str _ _)
theorem joinM_ok {o l : V} (e : joinV σ o l = some (v, σ')) : CA C n env ns (.builtin (Mth.id .join)) [o, l] σ v σ' := by
 replace e := joinV_some e; obtain ⟨rfl, e⟩ := e
 replace e := bnd e; obtain ⟨vs, hl, e⟩ := e
 replace e := bnd e; obtain ⟨ys, hx, e⟩ := e
 replace e := if_some e; obtain ⟨hz, e⟩ := e
 cases e
 refine ca2 fun A s as x y Q E R r q1 q2 h => ?_
 obtain ⟨_, rfl⟩ := q1.inv
 obtain ⟨ad, vals, rfl, p1, p3⟩ := asList_spec r hl q2
 refine join_list p1 (strsOf_spec hx p3) ?_ fun t' k => ?_
 ·have : (ys.map sOf).map (·.length) = ys.map List.length := by rw [List.map_map]; exact List.map_congr_left fun x _ => sOf_length x
  rw [this, sOf_length]; unfold smallN at hz; simp; exact tA ‹_› (by decide)
 ·rw [join_flat]
  exact h as s.heap k _ r .refl (.str _ _)
theorem mth_ok {m : Mth} {o : V} {args : List V} (e : mthV σ m o args = some (v, σ')) : CA C n env ns (.builtin m.id) (o :: args) σ v σ' := by
 cases m with
 | append => obtain ⟨w, rfl, e⟩ := marg1_some e; exact app_ok e
 | replace => obtain ⟨w, u, rfl, e⟩ := marg2_some e; exact repl_ok e
 | join => obtain ⟨w, rfl, e⟩ := marg1_some e; exact joinM_ok e
theorem str_meth {M : Model} {A : Around} {E : Value → Shared → Prop} {s : Shared} {x : Str} {t : Tok} {name : Str} {id : String} {pl : Sem Bool} {Q : Value × List Value → Shared → Prop} (slot : Slot "str" name id) (ty : typeOf (.builtin id) = pure (.type "method_descriptor"))
  (h : Q (.builtin id, [.str x t]) s) : wpAny M A (getMethod (.str x t) name pl) Q E s := by
 have hT : s.TypeIs (.str x t) "str" := typeIs_str s x t
 have pa : PlainAttrs "str" := PySem.F.plainAttrs_str
 have hd : ∀ a, Value.str x t = .ref a → ∃ o, s.heap.get? a = some o ∧ o.dict = none := fun a e => by cases e
 exact @getMethod_builtin M A E s (.str x t) "str" name id pl Q hT pa slot ty hd h
noncomputable def Mth.name : Mth → Str
 | .append => Str.ofString "append"
 | .replace => Str.ofString "replace"
 | .join => Str.ofString "join"
theorem getm_ok {m : Mth} {o : V} {args : List V} {x : Value} {r0 : V × Sg} {pl : Sem Bool} {A : Around} {s : Shared} {Q : Value × List Value → Shared → Prop} {E : Value → Shared → Prop} (r : Rel C env ns as σ s.heap) (q : VR as s.heap o x)
  (hk : ∀ k, o = .own k → ∃ vs, σ.hp[k]? = some (.lst vs)) (h : Q (.builtin m.id, [x]) s) (e : mthV σ₂ m o args = some r0) : wpAny (model C.prog C.w) A (getMethod x m.name pl) Q E s := by
 cases m with
 | append =>
  replace e := marg1_some e; obtain ⟨w, rfl, e⟩ := e
  replace e := appV_some e; obtain ⟨k, _, rfl, _⟩ := e
  obtain ⟨vs, hk⟩ := hk k rfl
  obtain ⟨l, rfl, e1⟩ := q.inv
  obtain ⟨l', e2, vals, ⟨o, n, g, c, dn, d⟩, p2⟩ := r.hr.has _ _ hk
  cases Option.some.inj (e1.symm.trans e2)
  exact getMethod_builtin ⟨_, g, c⟩ PySem.F.plainAttrs_list PySem.F.slot_list_append PySem.F.type_list_append (fun a e => by cases e; exact ⟨_, g, dn⟩) h
 | replace =>
  replace e := marg2_some e; obtain ⟨w, u, rfl, e⟩ := e
  replace e := replV_some e; obtain ⟨x, y, z, rfl, rfl, rfl, e⟩ := e
  obtain ⟨_, rfl⟩ := q.inv
  exact @str_meth _ A E s _ _ (Str.ofString "replace") "str.replace" pl Q PySem.F.slot_str_replace PySem.F.type_str_replace h
 | join =>
  replace e := marg1_some e; obtain ⟨w, rfl, e⟩ := e
  replace e := joinV_some e; obtain ⟨rfl, e⟩ := e
  obtain ⟨_, rfl⟩ := q.inv
  exact @str_meth _ A E s _ _ (Str.ofString "join") "str.join" pl Q PySem.F.slot_str_join PySem.F.type_str_join h
theorem plain_any {rest : List Expr} {pos : Pos} (h : rest.all notStar = true) : (backTo pos (starEach rest env)).any (·.1) = false := by
 induction rest with
 | nil => rfl
 | cons e' rest ih =>
  simp only [List.all_cons, Bool.and_eq_true] at h
  rw [starEach_cons h.1]
  show (false || _) = false
  rw [Bool.false_or]
  exact ih h.2
theorem te_meth {o : Expr} {name : Str} {apos pos : Pos} {es : List Expr} {pl : Sem Bool} {m : Mth} {vs : List V} (h1 : TE C n env ns o σ a σ₁) (hn : es ≠ [] ∧ es.all notStar = true) (h2 : TS C n env ns es pos σ₁ vs σ₂) (h3 : mthV σ₂ m a vs = some (v, σ₃)) (hk : ∀ k, a = .own k → ∃ vs, σ₁.hp[k]? = some (.lst vs)) (hm : name = m.name)
  (he : eval (.Call (.Attribute o name apos) es [] pos) env = (do
   let ov ← eval o env
   standAt apos.atName
   let (f, first) ← holding [ov] (getMethod ov name pl)
   callWith pos f first (backTo pos (starEach es env)) [])) : TE C n env ns (.Call (.Attribute o name apos) es [] pos) σ v σ₃ := by
 cases hm
 intro A s as Q E R r h
 cases es with
 | nil => exact absurd rfl hn.1
 | cons e rest =>
  have hs := hn.2
  simp only [List.all_cons, Bool.and_eq_true] at hs
  refine MethodCall_ (h1 A s as _ E R r fun as1 g1 t1 x r1 s1 v1 => ?_) he
  refine getm_ok (m := m) (s := { s with heap := g1, toks := t1 }) r1 v1 hk ?_ h3
  refine callWith_method1 (h2 A _ as1 _ E R r1 fun as2 g2 t2 xs r2 s2 v2 => ?_) (starEach_cons hs.1) (plain_any hs.2)
  exact mth_ok (n := n) h3 A _ as2 (x :: xs) Q E R r2 (.cons _ _ _ _ (r1.move s2 v1) v2) fun as3 g3 t3 y r3 s3 v3 => h as3 g3 t3 y r3 (s1.trans (s2.trans s3)) v3
end
section
variable {C : Cx} {n m : Nat} {env : Env} {ns : List Str} {σ σ' σ₁ σ₂ σ₃ σ₄ : Sg} {as as' : List Addr} {h h' : Heap} {a b c d v : V} {f : F}
inductive TJ (C : Cx) (n : Nat) (env : Env) (ns : List Str) : List Expr → Sg → List Nat → Sg → Prop
 | nil (σ : Sg) : TJ C n env ns [] σ [] σ
 | cons (e : Expr) (rest : List Expr) (σ σ₁ σ₂ : Sg) (x y : List Nat) : TE C n env ns e σ (.str x) σ₁ → TJ C n env ns rest σ₁ y σ₂ → TJ C n env ns (e :: rest) σ (x ++ y) σ₂
theorem tj_ok {es : List Expr} {y : List Nat} (t : TJ C n env ns es σ y σ') : ∀ (acc : List Nat), acc.length + y.length ≤ smallN → ∀ (A : Around) (s : Shared) (as : List Addr) (Q : Str → Shared → Prop) (E : Value → Shared → Prop), Room n A → Rel C env ns as σ s.heap →
  (∀ as' h' tk, Rel C env ns as' σ' h' → Step C env as s.heap as' h' → Q (sOf (acc ++ y)) { s with heap := h', toks := tk }) → Joins (model C.prog C.w) A E (evalEach es env) (sOf acc) Q s := by
 induction t with
 | nil σ => intro acc _ A s as Q E _ r h; have := h as s.heap s.toks r .refl; rw [List.append_nil] at this; exact Joins_nil this
 | cons e rest σ σ₁ σ₂ x y h1 _ ih =>
  intro acc hz A s as Q E R r h
  rw [List.length_append] at hz
  refine Joins_cons (h1 A s as _ E R r fun as1 g1 t1 z r1 s1 v1 => ?_)
  obtain ⟨t, rfl⟩ := v1.inv
  refine ⟨_, t, rfl, ?_, ?_⟩
  ·rw [sOf_append, sOf_length, List.length_append, sizeLine_val]; unfold smallN at hz; lia
  ·rw [sOf_append]
   refine ih (acc ++ x) (by rw [List.length_append]; lia) A _ as1 Q E R r1 fun as2 g2 t2 r2 s2 => ?_
   rw [List.append_assoc]
   exact h as2 g2 t2 r2 (s1.trans s2)
theorem te_join {e1 e2 : Expr} {rest : List Expr} {pos : Pos} {y : List Nat} (t : TJ C n env ns (e1 :: e2 :: rest) σ y σ') (hz : y.length ≤ smallN) : TE C n env ns (.JoinedStr (e1 :: e2 :: rest) pos) σ (.str y) σ' := fun A s as Q E R r h =>
 wpAny_JoinedStr (by
  have : Str.empty = sOf [] := rfl
  rw [this]
  refine tj_ok t [] (by simpa using hz) A s as _ E R r fun as1 g1 t1 r1 s1 => ⟨?_, ?_⟩
  ·rw [List.nil_append, sOf_length, sizeLine_val]; unfold smallN at hz; exact tA ‹_› (by decide)
  ·exact h as1 g1 _ _ r1 s1 (.str _ _))
theorem te_fmt {e : Expr} {pos : Pos} {x : List Nat} (h1 : TE C n env ns e σ (.str x) σ₁) (hz : x.length ≤ smallN) : TE C n env ns (.FormattedValue e (-1) none pos) σ (.str x) σ₁ := fun A s as Q E R r h =>
 wpAny_FormattedValue_plain (h1 A s as _ E R r fun as1 g1 t1 z r1 s1 v1 => by
  obtain ⟨t, rfl⟩ := v1.inv
  exact formatField_str (fun t' tk => h as1 g1 tk _ r1 s1 (.str _ _)) (by rw [sOf_length, sizeLine_val]; unfold smallN at hz; exact tA ‹_› (by decide)))
end
section
variable {C : Cx} {n m : Nat} {env : Env} {ns : List Str} {σ σ' σ₁ σ₂ σ₃ σ₄ : Sg} {as as' : List Addr} {h h' : Heap} {a b c d v : V} {f : F} {B it : Addr} {src src' : Src}
noncomputable abbrev testsOf (ifs : List Expr) (env : Env) : Sem Bool := forIn ifs true fun c r => if r = true then do let ok ← isTrue c env (eval c env); pure (ForInStep.yield ok) else pure (ForInStep.yield r)
noncomputable abbrev TI (C : Cx) (n : Nat) (env : Env) (ns : List Str) (ifs : List Expr) (σ : Sg) (b : Bool) (σ' : Sg) : Prop := Tr C n env ns (testsOf ifs env) σ σ' (IsB b)
theorem ti_nil : TI C n env ns [] σ true σ := fun A s as Q E R r h => wpAny_tests_nil (h as s.heap s.toks true r .refl rfl)
theorem ti_one {c : Expr} {b : Bool} (h1 : TT C n env ns c σ b σ₁) : TI C n env ns [c] σ b σ₁ := fun A s as Q E R r h => wpAny_tests_one (h1 A s as Q E R r h)
theorem compLoop_any {A : Around} {s : Shared} {R : Result → Shared → Prop} {elt target iter : Expr} {ifs : List Expr} {scope : Scope} {pos : Pos} {it acc : Value} {env : Env} (I : Nat → Shared → Prop)
  (turn : ∀ n s, I n s → ∀ E, wpAny (model C.prog C.w) A (pyNext it) (fun r s₁ => match r with
   | none => R (.ok .next) s₁
   | some v => wpAny (model C.prog C.w) A (letOwnedTupleGo target it v) (fun _ s₁ => wpAny (model C.prog C.w) A (assign target env v) (fun _ s₂ =>
     wpAny (model C.prog C.w) A (testsOf ifs env) (fun ok s₃ =>
      if ok = true then wpAny (model C.prog C.w) A (eval elt env) (fun x s₄ =>
       wpAny (model C.prog C.w) A (call (.builtin "list.append") [acc, x]) (fun _ s₅ => ∃ m, m < n ∧ I m s₅) E s₄) E s₃
      else ∃ m, m < n ∧ I m s₃) E s₂) E s₁) E s₁) E s)
  (n : Nat) (h : I n s) :
  codeAny (model C.prog C.w) A (.compLoop (.ListComp elt [⟨target, iter, ifs, 0⟩] scope pos) 0 it acc env) R s := by
 refine codeAny_loop rfl I (fun n s hI => ?_) n h
 show wpAny _ A ((compTurn (.ListComp elt [⟨target, iter, ifs, 0⟩] scope pos) 0 it acc env).onRaise (fun x => do noteFrame x env; theTreesLotGoes x)) _ _ s
 refine wpAny_noted ?_
 rw [compTurn_list]
 refine wpAny_bind (wpAny_standAt (wpAny_bind (wpAny_mono (turn n s hI _) (fun r s₁ h₁ => ?_) fun _ _ h' => h')))
 cases r with
 | none => exact wpAny_pure h₁
 | some v =>
  refine wpAny_bind (wpAny_mono h₁ (fun _ s₁' h₁' => ?_) fun _ _ h' => h')
  refine wpAny_bind (wpAny_mono h₁' (fun _ s₂ h₂ => wpAny_bind (wpAny_mono h₂ (fun ok s₃ h₃ => ?_) fun _ _ h' => h')) fun _ _ h' => h')
  cases ok with
  | false => exact wpAny_pure ⟨rfl, h₃⟩
  | true =>
   exact wpAny_bind (wpAny_bind (wpAny_mono h₃ (fun x s₄ h₄ => wpAny_bind (wpAny_mono h₄ (fun _ s₅ h₅ => wpAny_pure (wpAny_pure ⟨rfl, h₅⟩)) fun _ _ h' => h')) fun _ _ h' => h'))
theorem again_ok {A : Around} {s : Shared} {Q : Value → Shared → Prop} {E : Value → Shared → Prop} (q : SrcR C as s.heap B it src) (h : Q (.ref it) s) : wpAny (model C.prog C.w) A (pyIter (.ref it)) Q E s := by
 cases q with
 | lst l i ws vals q1 q2 => exact wpAny_pyIter_listiter q2 h
 | tup l i ws vals q1 q2 => exact wpAny_pyIter_tupleiter q2 h
 | rng x k q1 q2 => exact wpAny_pyIter_rangeiter q2 h
 | str x t i q1 q2 => exact wpAny_pyIter_striter_ascii q2 h
 | own l k i q1 q2 => exact wpAny_pyIter_listiter q2 h
structure Caps (env : Env) (ns : List Str) (σ₁ : Sg) (scope : Scope) (cl : List (Str × Addr)) (nsC : List Str) (locC : List (Option V)) : Prop where
 clos : closureFor scope env = pure cl
 cell : ∀ y ∈ scope.names, y.2 ≠ .cell
 kind : scope.kind = .function
 names : ∀ x ∈ scope.names, x.2 = .local → scope.names.lookup x.1 = some .local
 sub : ∀ c ∈ cl, c ∈ env.cells
 clnd : (cl.map (·.2)).Nodup
 nd : nsC.Nodup
 cap : ∀ (i : Nat) (v : V), locC[i]? = some (some v) → ∃ (x : Str) (j : Nat), nsC[i]? = some x ∧ ns[j]? = some x ∧ σ₁.loc[j]? = some (some v) ∧ env.kindOf x ≠ some .local ∧ (∀ L, (compEnvC scope cl L env).kindOf x = some .cell ∨ (compEnvC scope cl L env).kindOf x = some .free) ∧ cl.lookup x = env.cells.lookup x
theorem Caps.ok {scope : Scope} {cl : List (Str × Addr)} {nsC : List Str} {locC : List (Option V)} (K : Caps env ns σ₁ scope cl nsC locC) (ok : EnvOk env ns) (L : Addr) : EnvOk (compEnvC scope cl L env) nsC :=
 ⟨K.kind, ok.glob, ok.blt, K.nd, K.clnd⟩
inductive CoI (C : Cx) (env' : Env) (nsC : List Str) (as1 : List Addr) (g1 : Heap) (D it : Addr) (s : Shared) (I : Nat → Src → Sg → Prop) (k : Nat) : Shared → Prop
 | mk (ex : List Addr) (h' : Heap) (tk : Nat) (σ' : Sg) (src' : Src) : I k src' σ' → Rel C env' nsC (as1 ++ ([D] ++ ex)) σ' h' → SrcR C (as1 ++ ([D] ++ ex)) h' g1.objs.size it src' → (∀ a ∈ ex, g1.get? a = none) → (∀ b o, g1.get? b = some o → b ∉ as1 → b ∉ C.T → h'.get? b = some o) → (∀ b o, g1.get? b = some o → ∃ o', h'.get? b = some o') → CoI C env' nsC as1 g1 D it s I k { s with heap := h', toks := tk }
theorem comp_core {elt target iter : Expr} {ifs : List Expr} {scope : Scope} {pos p0 : Pos} {cl : List (Str × Addr)} {nsC : List Str} {locC : List (Option V)} {use : Option (Value → Sem Unit)} {hpf : List O} (I : Nat → Src → Sg → Prop)
  (ok : EnvOk env ns) (h1 : TE C n env ns iter σ v σ₁) (hsrc : srcOf σ₁ v = some src) (hs : ∀ x, foldedSetIterable iter env x = pure x) (K : Caps env ns σ₁ scope cl nsC locC)
  (turn : ∀ L k src σ', I k src σ' → (src.next σ' = some none ∧ σ'.hp = hpf) ∨ ∃ w src' σ1 b σ2, src.next σ' = some (some (w, src')) ∧ TA C n (compEnvC scope cl L env) nsC target w σ' σ1 ∧ TI C n (compEnvC scope cl L env) nsC ifs σ1 b σ2 ∧
   (if b = true then ∃ v σ3 vs m, TE C n (compEnvC scope cl L env) nsC elt σ2 v σ3 ∧ σ3.hp[σ₁.hp.length]? = some (.lst vs) ∧ vs.length ≤ smallN ∧ m < k ∧ I m src' (σ3.setO σ₁.hp.length (.lst (vs ++ [v]))) else ∃ m, m < k ∧ I m src' σ2))
  (k : Nat) (h0 : I k src ⟨locC, σ₁.hp ++ [.lst []]⟩)
  {A : Around} {s : Shared} {Q : Value → Shared → Prop} {E : Value → Shared → Prop} (R : Room n A) (r : Rel C env ns as σ s.heap)
  (fin : ∀ as' h' tk D L m, Rel C env ns as' ⟨σ₁.loc, hpf⟩ h' → Step C env as s.heap as' h' → as'[σ₁.hp.length]? = some D → h'.Ns L m → (¬ C.Old L ∧ L ≠ env.locals ∧ L ∉ env.cells.map (·.2) ∧ L ∉ as' ∧ s.heap.get? L = none) → compPost (model C.prog C.w) A E use Q (.ref D) L (.ok .next) { s with heap := h', toks := tk }) :
  wpAny (model C.prog C.w) A (comprehension (.ListComp elt [⟨target, iter, ifs, 0⟩] scope pos) scope env p0 (newList []) false (eval iter env) use) Q E s := by
 refine wpAny_comprehension_free (g := ⟨target, iter, ifs, 0⟩) (gs := []) rfl hs K.clos K.kind K.names ?_
 refine h1 A s as _ E R r fun as1 g1 t1 xv r1 s1 v1 => iter_ok r1 v1 hsrc fun g2 it r2 k2 q2 => ?_
 have s2 : Step C env as1 g1 as1 g2 := Step.growing k2
 dsimp only at k2
 refine wpAny_newObj_type (wpAny_newFunctionEnv K.cell (by intro y hy; simp at hy) (fun h3 hns3 hsb3 => ?_) K.kind)
 dsimp only at hns3 hsb3
 have r3 := r2.new (vs := []) (vals := []) .nil (c := 0)
 have q3 := q2.step r2 (Step.new (C := C) (env := env) (as := as1) (h := g2) { cls := .type "list", data := .seq ([] : List Value).toArray })
 have zH : (g2.push { cls := .type "list", data := .seq ([] : List Value).toArray }).objs.size = g2.objs.size + 1 := Heap.size_push ..
 have kH : ∀ b o, g2.get? b = some o → (g2.push { cls := .type "list", data := .seq ([] : List Value).toArray }).get? b = some o := fun b o e => Heap.get?_push_of_some _ e
 generalize hH : g2.push { cls := .type "list", data := .seq ([] : List Value).toArray } = H at *
 have zg1 : g1.objs.size ≤ g2.objs.size := by
  have ⟨l, o, vs, e, _⟩ : g1.objs.size ≤ it ∧ ∃ o vs, g2.get? it = some o ∧ o.data = .fields vs := by
   have key : ItAt C as1 g2 g1.objs.size it := by cases q2 <;> assumption
   obtain ⟨o, vs, e, d, _⟩ := key.obj
   exact ⟨key.lo, o, vs, e, d⟩
  exact Nat.le_trans l (Nat.le_of_lt (Heap.lt_size e))
 have grow3 : ∀ b o, H.get? b = some o → h3.get? b = some o := fun b o e => hsb3.extBut b o (Nat.ne_of_lt (Heap.lt_size e)) (Heap.get?_push_of_some _ e)
 have r4 : Rel C env ns (as1 ++ [g2.objs.size]) { σ₁ with hp := σ₁.hp ++ [.lst []] } h3 := r3.grow grow3
 have q4 : SrcR C (as1 ++ [g2.objs.size]) h3 g1.objs.size it src := q3.step r3 (Step.growing (C := C) (env := env) grow3)
 have hL : ¬ C.Old H.objs.size ∧ H.objs.size ≠ env.locals ∧ H.objs.size ∉ env.cells.map (·.2) ∧ H.objs.size ∉ as1 ++ [g2.objs.size] := by
  refine ⟨r3.wd.fresh (Nat.le_refl _), fun z => Nat.lt_irrefl _ (z ▸ r3.locals_alive), fun z => ?_, fun z => Nat.lt_irrefl _ (r3.alive z)⟩
  obtain ⟨c, hc, z⟩ := List.mem_map.mp z
  obtain ⟨_, v, oc, e1, _⟩ := r3.cells c hc
  exact absurd z (Nat.ne_of_lt (Heap.lt_size e1))
 have hLs : H.objs.size = g2.objs.size + 1 := zH
 generalize hLe : H.objs.size = L at *
 -- the frame of the comprehension
 have rc : Rel C (compEnvC scope cl L env) nsC (as1 ++ [g2.objs.size]) ⟨locC, σ₁.hp ++ [.lst []]⟩ h3 := by
  refine ⟨r4.wd, r4.hr, ⟨_, hns3, fun i w e => ?_⟩, fun c hc => r4.cells c (K.sub c hc), hL.1⟩
  obtain ⟨x, j, e1, e2, e3, e4, e5, e6⟩ := K.cap i w e
  obtain ⟨m, hm, q⟩ := r4.fr
  obtain ⟨y, hy, q⟩ := q j w e3
  rw [e2] at hy; cases hy
  refine ⟨x, e1, ?_⟩
  rcases q with ⟨k, _⟩ | ⟨k, c, val, e7, e8, e9⟩
  ·exact absurd k e4
  ·exact .inr ⟨e5 L, c, val, e6.trans e7, e8, e9⟩
 have sz : s.heap.get? L = none := by
  cases z : s.heap.get? L with
  | none => rfl
  | some o =>
   obtain ⟨o', e'⟩ := s1.live L o z
   have h5 := Heap.lt_size (k2 L o' e')
   rw [hLs] at h5
   exact absurd h5 (Nat.not_lt.mpr (Nat.le_succ _))
 -- from the list of items on
 have start : SrcR C (as1 ++ [g2.objs.size]) h3 g1.objs.size it src → ∀ tk, codeAny (model C.prog C.w) A (.compLoop (.ListComp elt [⟨target, iter, ifs, 0⟩] scope pos) 0 (.ref it) (.ref g2.objs.size) (compEnvC scope cl L env))
   (compPost (model C.prog C.w) A E use Q (.ref g2.objs.size) L) { s with heap := h3, toks := tk } := fun q4 tk => by
  refine compLoop_any (CoI C (compEnvC scope cl L env) nsC as1 g1 g2.objs.size it s I) ?_ k
   (.mk [] h3 tk _ src h0 rc q4 (fun _ m => by cases m) (fun b o e _ _ => grow3 b o (kH b o (k2 b o e))) fun b o e => ⟨o, grow3 b o (kH b o (k2 b o e))⟩)
  rintro k _ ⟨ex, h4, t4, σ3, src3, hI, r5, q5, fx, kp, lv⟩ E'
  refine hide _ fun G hG => ?_
  have bL : ∀ b, b < g1.objs.size → b ≠ L := fun b l z => by lia
  have okC := K.ok ok L
  rcases turn L k src3 σ3 hI with ⟨hn, hf⟩ | ⟨w, src', σ4, bb, σ5, hn, ha, ht, hb⟩
  ·refine hG (stop_ok R r5 q5 hn fun g5 t5 r6 k6 => ?_)
   dsimp only
   obtain ⟨m, hm, _⟩ := r6.fr
   have nL := (fun z => (r6.own_ne z).1 rfl : L ∉ _)
   subst hf
   have KA : KeepA C as1 g1 (as1 ++ ([g2.objs.size] ++ ex)) g5 := by
    refine ⟨fun b o e na nt => k6 b o (Heap.lt_size e) (kp b o e na nt), ⟨_, rfl, fun a ha => ?_⟩, fun b o e => ?_⟩
    ·rcases List.mem_append.mp ha with ha | ha
     ·rw [List.mem_singleton.mp ha]; exact fresh_none zg1
     ·exact fx a ha
    ·obtain ⟨o', e'⟩ := lv b o e
     exact ⟨o', k6 b o' (Heap.lt_size e) e'⟩
   refine fin _ g5 t5 g2.objs.size L m (r1.called KA r6.wd r6.hr) (s1.trans (Step.of KA)) ?_ hm ⟨hL.1, hL.2.1, hL.2.2.1, nL, sz⟩
   rw [List.getElem?_append_right (by rw [r1.hr.len]; exact Nat.le_refl _), r1.hr.len, Nat.sub_self]
   rfl
  ·refine hG (next_ok R r5 q5 hn fun g5 t5 x5 r6 k6 q6 v6 => ?_)
   refine letOwned_ok q6 (ha A { s with heap := g5, toks := t5 } _ x5 _ _ R r6 v6 fun as7 g7 t7 r7 s7 => ht A _ as7 _ _ R r7 fun as8 g8 t8 ok8 r8 s8 e8 => ?_)
   have e8' : ok8 = bb := e8
   subst e8'
   have nL6 := (fun z => (r6.own_ne z).1 rfl : L ∉ _)
   -- from the draw on
   have after : ∀ {as9 : List Addr} {g9 : Heap} {σ9 : Sg}, Rel C (compEnvC scope cl L env) nsC as9 σ9 g9 → Step C (compEnvC scope cl L env) (as1 ++ ([g2.objs.size] ++ ex)) g5 as9 g9 → SrcR C as9 g9 g1.objs.size it src' → ∀ m t9, m < k → I m src' σ9 →
     ∃ m, m < k ∧ CoI C (compEnvC scope cl L env) nsC as1 g1 g2.objs.size it s I m { s with heap := g9, toks := t9 } := by
    intro as9 g9 σ9 r9 s9 q9 m t9 lt hm
    obtain ⟨ey, rfl, fy⟩ := s9.ext
    rw [List.append_assoc, List.append_assoc] at r9 q9
    refine ⟨m, lt, .mk (ex ++ ey) g9 t9 σ9 src' hm r9 q9 (fun a ha => ?_) (fun b o e na nt => ?_) fun b o e => ?_⟩
    ·rcases List.mem_append.mp ha with ha | ha
     ·exact fx a ha
     ·cases z : g1.get? a with
      | none => rfl
      | some o =>
       obtain ⟨o', e'⟩ := lv a o z
       have := k6 a o' (Heap.lt_size z) e'
       rw [fy a ha] at this
       cases this
    ·refine s9.keep b o (k6 b o (Heap.lt_size e) (kp b o e na nt)) (bL b (Heap.lt_size e)) (fun z => ?_) (fun z => ?_) nt
     ·unfold mcells compEnvC at z
      simp at z
     ·rcases List.mem_append.mp z with z | z
      ·exact na z
      ·rcases List.mem_append.mp z with z | z
       ·rw [List.mem_singleton.mp z] at e
        exact absurd (Heap.lt_size e) (Nat.not_lt.mpr zg1)
       ·rw [fx b z] at e; cases e
    ·obtain ⟨o', e'⟩ := lv b o e
     exact s9.live b o' (k6 b o' (Heap.lt_size e) e')
   have q8 := (q6.step r6 s7).step r7 s8
   cases ok8 with
   | false =>
    rw [if_neg (by simp)] at hb ⊢
    obtain ⟨m, lt, hm⟩ := hb
    exact after r8 (s7.trans s8) q8 m t8 lt hm
   | true =>
    rw [if_pos rfl] at hb ⊢
    obtain ⟨v, σ9, vs, m, he, hvs, hz, lt, hm⟩ := hb
    refine he A _ as8 _ _ R r8 fun as9 g9 t9 y r9 s9 v9 => ?_
    have eD : as9[σ₁.hp.length]? = some g2.objs.size := by
     obtain ⟨ey, e9, fy⟩ := (s7.trans (s8.trans s9)).ext
     rw [e9, List.append_assoc, List.getElem?_append_right (by rw [r1.hr.len]; exact Nat.le_refl _), r1.hr.len, Nat.sub_self]
     rfl
    refine mth_ok (n := n) (m := .append) (o := .own σ₁.hp.length) (args := [v]) (v := .none) (σ := σ9) (σ' := σ9.setO σ₁.hp.length (.lst (vs ++ [v]))) (app_of hvs hz) A { s with heap := g9, toks := t9 } as9 [.ref g2.objs.size, y] _ _ R r9 (.cons _ _ _ _ (.own _ _ eD) (.cons _ _ _ _ v9 .nil)) fun as10 g10 t10 z10 r10 s10 v10 => ?_
    exact after r10 (s7.trans (s8.trans (s9.trans s10))) ((q8.step r8 s9).step r9 s10) m t10 lt hm
 exact codeAny_compStart_list (start q4 _) (again_ok q4 (start q4 _))
theorem Rel.letGo (r : Rel C env ns as σ h) {L : Addr} {m : Str → Option Value} (hm : h.Ns L m) (hL : ¬ C.Old L ∧ L ≠ env.locals ∧ L ∉ env.cells.map (·.2) ∧ L ∉ as) (hs : Heap.SameBut L h h') : Rel C env ns as σ h' := by
 refine r.other (M := fun b => b = L) (fun b o n e => (hs.2 b n).trans e) fun b e => ?_
 subst e
 refine ⟨hL.1, hL.2.1, hL.2.2.1, hL.2.2.2, fun o e => ?_⟩
 obtain ⟨oL, es, ep, g, d, _⟩ := hm
 rw [g] at e; cases e
 refine ⟨fun i => ?_, fun t => ?_⟩
 ·rcases i with ⟨_, _, i⟩ | ⟨_, _, i⟩ <;> rw [i] at d <;> cases d
 ·obtain ⟨_, _, i⟩ := t
  rw [i] at d; cases d
theorem Step.letGo {as0 : List Addr} {h0 : Heap} (st : Step C env as0 h0 as h) {L : Addr} (hn : h0.get? L = none) (hs : Heap.SameBut L h h') : Step C env as0 h0 as h' := by
 have ne : ∀ b o, h0.get? b = some o → b ≠ L := fun b o e z => by rw [z, hn] at e; cases e
 exact ⟨fun b o e l c a t => (hs.2 b (ne b o e)).trans (st.keep b o e l c a t), st.ext, fun b o e => let ⟨o', e'⟩ := st.live b o e; ⟨o', (hs.2 b (ne b o e)).trans e'⟩⟩
noncomputable abbrev Turn (C : Cx) (n : Nat) (env : Env) (scope : Scope) (cl : List (Str × Addr)) (nsC : List Str) (K : Nat) (target elt : Expr) (ifs : List Expr) (hpf : List O) (I : Nat → Src → Sg → Prop) : Prop :=
 ∀ L k src σ', I k src σ' → (src.next σ' = some none ∧ σ'.hp = hpf) ∨ ∃ w src' σ1 b σ2, src.next σ' = some (some (w, src')) ∧ TA C n (compEnvC scope cl L env) nsC target w σ' σ1 ∧ TI C n (compEnvC scope cl L env) nsC ifs σ1 b σ2 ∧
   (if b = true then ∃ v σ3 vs m, TE C n (compEnvC scope cl L env) nsC elt σ2 v σ3 ∧ σ3.hp[K]? = some (.lst vs) ∧ vs.length ≤ smallN ∧ m < k ∧ I m src' (σ3.setO K (.lst (vs ++ [v]))) else ∃ m, m < k ∧ I m src' σ2)
theorem te_lc {elt target iter : Expr} {ifs : List Expr} {scope : Scope} {pos : Pos} {cl : List (Str × Addr)} {nsC : List Str} {locC : List (Option V)} {hpf : List O} (I : Nat → Src → Sg → Prop)
  (ok : EnvOk env ns) (h1 : TE C n env ns iter σ v σ₁) (hsrc : srcOf σ₁ v = some src) (hs : ∀ x, foldedSetIterable iter env x = pure x) (K : Caps env ns σ₁ scope cl nsC locC)
  (turn : Turn C n env scope cl nsC σ₁.hp.length target elt ifs hpf I) (k : Nat) (h0 : I k src ⟨locC, σ₁.hp ++ [.lst []]⟩) :
  TE C n env ns (.ListComp elt [⟨target, iter, ifs, 0⟩] scope pos) σ (.own σ₁.hp.length) ⟨σ₁.loc, hpf⟩ := fun A s as Q E R r h => by
 rw [eval_ListComp]
 exact comp_core (use := none) I ok h1 hsrc hs K turn k h0 R r fun as' h' tk D L m r' s' hD hm hL =>
  ⟨m, hm, fun h'' hs'' => h as' h'' tk _ (r'.letGo hm ⟨hL.1, hL.2.1, hL.2.2.1, hL.2.2.2.1⟩ hs'') (s'.letGo hL.2.2.2.2 hs'') (.own _ _ hD)⟩
end
noncomputable abbrev SE := Sg → Option (V × Sg)
noncomputable abbrev SL := Sg → Option (List V × Sg)
noncomputable abbrev ST := Sg → Option (Bool × Sg)
noncomputable def s_c (v : V) : SE := fun σ => some (v, σ)
noncomputable def s_loc (i : Nat) : SE := fun σ => match σ.loc[i]? with
 | some (some v) => some (v, σ)
 | _ => none
noncomputable def s_bin (op : Operator) (x y : SE) : SE := fun σ => match x σ with
 | some (a, σ₁) => match y σ₁ with
  | some (b, σ₂) => binop op a b σ₂
  | none => none
 | none => none
noncomputable def s_cmp (op : CmpOp) (x y : SE) : ST := fun σ => match x σ with
 | some (a, σ₁) => match y σ₁ with
  | some (b, σ₂) => match cmpV op a b σ₂ with
   | some r => some (r, σ₂)
   | none => none
  | none => none
 | none => none
noncomputable def s_ofT (t : ST) : SE := fun σ => match t σ with
 | some (b, σ₁) => some (.bool b, σ₁)
 | none => none
noncomputable def s_truth (x : SE) : ST := fun σ => match x σ with
 | some (a, σ₁) => match truthV σ₁ a with
  | some b => some (b, σ₁)
  | none => none
 | none => none
noncomputable def s_t (b : Bool) : ST := fun σ => some (b, σ)
noncomputable def s_not (t : ST) : ST := fun σ => match t σ with
 | some (b, σ₁) => some (!b, σ₁)
 | none => none
noncomputable def s_and (t u : ST) : ST := fun σ => match t σ with
 | some (true, σ₁) => u σ₁
 | some (false, σ₁) => some (false, σ₁)
 | none => none
noncomputable def s_or (t u : ST) : ST := fun σ => match t σ with
 | some (false, σ₁) => u σ₁
 | some (true, σ₁) => some (true, σ₁)
 | none => none
noncomputable def s_ite (t : ST) (x y : SE) : SE := fun σ => match t σ with
 | some (true, σ₁) => x σ₁
 | some (false, σ₁) => y σ₁
 | none => none
noncomputable def s_idx (x y : SE) : SE := fun σ => match x σ with
 | some (a, σ₁) => match y σ₁ with
  | some (b, σ₂) => match idxV σ₂ a b with
   | some c => some (c, σ₂)
   | none => none
  | none => none
 | none => none
noncomputable def s_slc (x l u : SE) : SE := fun σ => match x σ with
 | some (a, σ₁) => match l σ₁ with
  | some (b, σ₂) => match u σ₂ with
   | some (c, σ₃) => slcV σ₃ a b c
   | none => none
  | none => none
 | none => none
theorem EvT_pv {α : Type} {o : Option (V × Sg)} {f : V → Sg → Option α} {r : α} (e : (match o with
  | some (a, b) => f a b
  | none => none) = some r) : ∃ a b, o = some (a, b) ∧ f a b = some r := by
 cases o with
 | none => cases e
 | some x => exact ⟨x.1, x.2, rfl, e⟩
theorem EvT_ob {α : Type} {o : Option (Bool)} {f : Bool → Option α} {r : α} (e : (match o with
  | some a => f a
  | none => none) = some r) : ∃ a, o = some a ∧ f a = some r := by
 cases o with
 | none => cases e
 | some x => exact ⟨x, rfl, e⟩
theorem EvT_pb {α : Type} {o : Option (Bool × Sg)} {f : Bool → Sg → Option α} {r : α} (e : (match o with
  | some (a, b) => f a b
  | none => none) = some r) : ∃ a b, o = some (a, b) ∧ f a b = some r := by
 cases o with
 | none => cases e
 | some x => exact ⟨x.1, x.2, rfl, e⟩
theorem EvT_ov {α : Type} {o : Option (V)} {f : V → Option α} {r : α} (e : (match o with
  | some a => f a
  | none => none) = some r) : ∃ a, o = some a ∧ f a = some r := by
 cases o with
 | none => cases e
 | some x => exact ⟨x, rfl, e⟩
theorem EvT_pl {α : Type} {o : Option (List V × Sg)} {f : List V → Sg → Option α} {r : α} (e : (match o with
  | some (a, b) => f a b
  | none => none) = some r) : ∃ a b, o = some (a, b) ∧ f a b = some r := by
 cases o with
 | none => cases e
 | some x => exact ⟨x.1, x.2, rfl, e⟩
theorem EvT_ph {α : Type} {o : Option (V × List O)} {f : V → List O → Option α} {r : α} (e : (match o with
  | some (a, b) => f a b
  | none => none) = some r) : ∃ a b, o = some (a, b) ∧ f a b = some r := by
 cases o with
 | none => cases e
 | some x => exact ⟨x.1, x.2, rfl, e⟩
theorem EvT_ox {α : Type} {o : Option (List (List Nat))} {f : List (List Nat) → Option α} {r : α} (e : (match o with
  | some a => f a
  | none => none) = some r) : ∃ a, o = some a ∧ f a = some r := by
 cases o with
 | none => cases e
 | some x => exact ⟨x, rfl, e⟩
theorem s_idx_of {x y : SE} {σ : Sg} {u v w : V} (hx : x σ = some (u, σ)) (hy : y σ = some (v, σ)) (e : idxV σ u v = some w) : s_idx x y σ = some (w, σ) := by
 unfold s_idx
 rw [hx]; dsimp only; rw [hy]; dsimp only; rw [e]
theorem sl_of {X L U : SE} {σ : Sg} {u v w : V} {r : V × Sg} (hx : X σ = some (u, σ)) (hy : L σ = some (v, σ)) (hz : U σ = some (w, σ)) (e : slcV σ u v w = some r) : s_slc X L U σ = some r := by
 unfold s_slc
 rw [hx]; dsimp only; rw [hy]; dsimp only; rw [hz]; exact e
noncomputable def s_nil : SL := fun σ => some ([], σ)
noncomputable def s_cons (x : SE) (r : SL) : SL := fun σ => match x σ with
 | some (a, σ₁) => match r σ₁ with
  | some (vs, σ₂) => some (a :: vs, σ₂)
  | none => none
 | none => none
noncomputable def s_list (r : SL) : SE := fun σ => match r σ with
 | some (vs, σ₁) => if vs.length ≤ smallN then some (σ₁.new vs) else none
 | none => none
noncomputable def s_tup (r : SL) : SE := fun σ => match r σ with
 | some (vs, σ₁) => if vs.length ≤ smallN then some (.tup vs, σ₁) else none
 | none => none
noncomputable abbrev SD := List V → List O → Option (V × List O)
noncomputable def s_call (g : SD) (r : SL) : SE := fun σ => match r σ with
 | some (vs, σ₁) => match g vs σ₁.hp with
  | some (v, hp) => some (v, { σ₁ with hp := hp })
  | none => none
 | none => none
noncomputable def s_blt (f : Blt) (r : SL) : SE := fun σ => match r σ with
 | some (vs, σ₁) => match bltV σ₁ f vs with
  | some v => some (v, σ₁)
  | none => none
 | none => none
noncomputable def s_meth (m : Mth) (o : SE) (r : SL) : SE := fun σ => (o σ).bind fun p => (r p.2).bind fun q => match p.1 with
 | .own k => (p.2.hp[k]?).bind fun u => u.onL fun _ => mthV q.2 m (.own k) q.1
 | a => mthV q.2 m a q.1
theorem meth_own {m : Mth} {o : SE} {r : SL} {σ σ₁ σ₂ : Sg} {k : Nat} {vs ws : List V} {q : V × Sg} (hx : o σ = some (.own k, σ₁)) (hr : r σ₁ = some (vs, σ₂)) (hk : σ₁.hp[k]? = some (.lst ws)) (e : mthV σ₂ m (.own k) vs = some q) : s_meth m o r σ = some q := by
 unfold s_meth
 rw [hx]; show (r σ₁).bind _ = _
 rw [hr]; show (σ₁.hp[k]?).bind _ = _
 rw [hk]; exact e
theorem meth_str {m : Mth} {o : SE} {r : SL} {σ σ₁ σ₂ : Sg} {z : List Nat} {vs : List V} {q : V × Sg} (hx : o σ = some (.str z, σ₁)) (hr : r σ₁ = some (vs, σ₂)) (e : mthV σ₂ m (.str z) vs = some q) : s_meth m o r σ = some q := by
 unfold s_meth
 rw [hx]; show (r σ₁).bind _ = _
 rw [hr]; exact e
noncomputable def s_fmt (x : SE) : SE := fun σ => (x σ).bind fun p => p.1.onS fun y => if y.length ≤ smallN then some (.str y, p.2) else none
noncomputable def s_joinL (r : SL) : SE := fun σ => match r σ with
 | some (vs, σ₁) => match strsOf vs with
  | some xs => if xs.flatten.length ≤ smallN then some (.str xs.flatten, σ₁) else none
  | none => none
 | none => none
section
variable {C : Cx} {n m : Nat} {env : Env} {ns : List Str} {σ σ' σ₁ σ₂ σ₃ σ₄ : Sg} {as as' : List Addr} {h h' : Heap} {a b c d v : V} {f : F}
variable {x y z e l r : Expr} {p pos : Pos}
structure CE (C : Cx) (n : Nat) (env : Env) (ns : List Str) (e : Expr) (s : SE) : Prop where
 ok : ∀ σ v σ', s σ = some (v, σ') → TE C n env ns e σ v σ'
structure CL (C : Cx) (n : Nat) (env : Env) (ns : List Str) (es : List Expr) (s : SL) : Prop where
 plain : es.all notStar = true
 ok : ∀ pos σ vs σ', s σ = some (vs, σ') → TS C n env ns es pos σ vs σ'
structure CT (C : Cx) (n : Nat) (env : Env) (ns : List Str) (e : Expr) (s : ST) : Prop where
 ok : ∀ σ b σ', s σ = some (b, σ') → TT C n env ns e σ b σ'
structure CP (C : Cx) (n : Nat) (env : Env) (ns : List Str) (e : Option Expr) (s : SE) : Prop where
 ok : ∀ σ v σ', s σ = some (v, σ') → TP C n env ns e σ v σ'
theorem ce_int {i : Int} {k : Nat} : CE C n env ns (.Constant (.int i) k pos) (s_c (.int i)) := .mk fun σ v σ' h => by cases h; exact te_int
theorem ce_str {x : Str} (y : List Nat) {k : Nat} (e : x = sOf y) : CE C n env ns (.Constant (.str x) k pos) (s_c (.str y)) := .mk fun σ v σ' h => by cases h; exact te_str e
theorem ce_bool {b : Bool} {k : Nat} : CE C n env ns (.Constant (.bool b) k pos) (s_c (.bool b)) := .mk fun σ v σ' h => by cases h; exact te_bool
theorem ce_loc {x : Str} (ok : EnvOk env ns) (i : Nat) (hx : ns[i]? = some x) (hd : (x == ("__debug__" : Str)) = false) (hz : (x == ("__classdict__" : Str)) = false) : CE C n env ns (.Name x pos) (s_loc i) := .mk fun σ v σ' h => by
 unfold s_loc at h
 split at h
 ·rename_i w hw
  cases h
  exact te_loc ok hx hw hd hz
 ·cases h
theorem ce_glob {x : Str} {v : V} {val : Value} (ok : EnvOk env ns) (hx : env.kindOf x = some .globalImplicit) (hv : C.mg x = some val) (hr : ∀ as h, C.Wd h → (∀ a ∈ as, ¬ C.Old a) → VR as h v val) (hd : (x == ("__debug__" : Str)) = false) :
  CE C n env ns (.Name x pos) (s_c v) := .mk fun σ v σ' h => by cases h; exact te_glob ok hx hv hr hd
theorem ce_blt {x : Str} {val : Value} (ok : EnvOk env ns) (hx : env.kindOf x = some .globalImplicit) (hn : C.mg x = none) (hv : C.mb x = some val) (hd : (x == ("__debug__" : Str)) = false) : CE C n env ns (.Name x pos) (s_c (.raw val)) := .mk fun σ v σ' h => by
 cases h; exact te_blt ok hx hn hv hd
theorem ce_bin {op : Operator} {s t : SE} (h1 : CE C n env ns l s) (h2 : CE C n env ns r t) : CE C n env ns (.BinOp l op r pos) (s_bin op s t) := .mk fun σ v σ' h => by
 replace h := EvT_pv h; obtain ⟨a, σ₁, e1, h⟩ := h
 replace h := EvT_pv h; obtain ⟨b, σ₂, e2, h⟩ := h
 exact te_bin (h1.ok _ _ _ e1) (h2.ok _ _ _ e2) (binop_ok h)
theorem s_cmp_spec {op : CmpOp} {s t : SE} {bb : Bool} (h : s_cmp op s t σ = some (bb, σ')) : ∃ a σ₁ b, s σ = some (a, σ₁) ∧ t σ₁ = some (b, σ') ∧ cmpV op a b σ' = some bb := by
 replace h := EvT_pv h; obtain ⟨a, σ₁, e1, h⟩ := h
 replace h := EvT_pv h; obtain ⟨b, σ₂, e2, h⟩ := h
 replace h := EvT_ob h; obtain ⟨r, e3, h⟩ := h
 cases h
 exact ⟨a, σ₁, b, e1, e2, e3⟩
theorem ct_cmp {op : CmpOp} {s t : SE} (h1 : CE C n env ns l s) (h2 : CE C n env ns r t) (hm : behindInMarks op r = false) : CT C n env ns (.Compare l [op] [r] pos) (s_cmp op s t) := .mk fun σ b σ' h => by
 obtain ⟨a, σ₁, b, e1, e2, e3⟩ := s_cmp_spec h
 exact tt_cmp (h1.ok _ _ _ e1) (h2.ok _ _ _ e2) (cmp_ok e3) hm
theorem ce_cmp {op : CmpOp} {s t : SE} (h1 : CE C n env ns l s) (h2 : CE C n env ns r t) (hm : behindInMarks op r = false) : CE C n env ns (.Compare l [op] [r] pos) (s_ofT (s_cmp op s t)) := .mk fun σ v σ' h => by
 replace h := EvT_pb h; obtain ⟨bb, σ₁, h', h⟩ := h
 cases h
 obtain ⟨a, σ₁, b, e1, e2, e3⟩ := s_cmp_spec h'
 exact te_cmp (h1.ok _ _ _ e1) (h2.ok _ _ _ e2) (cmp_ok e3) hm
theorem ct_truth {s : SE} (hp : plainTest e = true) (h1 : CE C n env ns e s) : CT C n env ns e (s_truth s) := .mk fun σ b σ' h => by
 replace h := EvT_pv h; obtain ⟨a, σ₁, e1, h⟩ := h
 replace h := EvT_ob h; obtain ⟨bb, e2, h⟩ := h
 cases h
 exact tt_plain (h1.ok _ _ _ e1) e2 hp
theorem ct_not {t : ST} (h1 : CT C n env ns x t) : CT C n env ns (.UnaryOp .Not x pos) (s_not t) := .mk fun σ b σ' h => by
 replace h := EvT_pb h; obtain ⟨a, σ₁, e1, h⟩ := h
 cases h
 exact tt_not (h1.ok _ _ _ e1)
theorem ct_and0 : CT C n env ns (.BoolOp .And [] pos) (s_t true) := .mk fun σ b σ' h => by cases h; exact tt_and_nil
theorem ct_or0 : CT C n env ns (.BoolOp .Or [] pos) (s_t false) := .mk fun σ b σ' h => by cases h; exact tt_or_nil
theorem ct_and {rest : List Expr} {t u : ST} (h1 : CT C n env ns x t) (h2 : CT C n env ns (.BoolOp .And rest pos) u) : CT C n env ns (.BoolOp .And (x :: rest) pos) (s_and t u) := .mk fun σ b σ' h => by
 unfold s_and at h
 split at h
 ·rename_i σ₁ e1
  exact tt_and_t (h1.ok _ _ _ e1) (h2.ok _ _ _ h)
 ·rename_i σ₁ e1
  cases h
  exact tt_and_f (h1.ok _ _ _ e1)
 ·cases h
theorem ct_or {rest : List Expr} {t u : ST} (h1 : CT C n env ns x t) (h2 : CT C n env ns (.BoolOp .Or rest pos) u) : CT C n env ns (.BoolOp .Or (x :: rest) pos) (s_or t u) := .mk fun σ b σ' h => by
 unfold s_or at h
 split at h
 ·rename_i σ₁ e1
  exact tt_or_f (h1.ok _ _ _ e1) (h2.ok _ _ _ h)
 ·rename_i σ₁ e1
  cases h
  exact tt_or_t (h1.ok _ _ _ e1)
 ·cases h
theorem ce_ite {t : ST} {s u : SE} (h1 : CT C n env ns x t) (h2 : CE C n env ns y s) (h3 : CE C n env ns z u) : CE C n env ns (.IfExp x y z pos) (s_ite t s u) := .mk fun σ v σ' h => by
 unfold s_ite at h
 split at h
 ·rename_i σ₁ e1
  exact te_ite (h1.ok _ _ _ e1) (by simpa using h2.ok _ _ _ h)
 ·rename_i σ₁ e1
  exact te_ite (h1.ok _ _ _ e1) (by simpa using h3.ok _ _ _ h)
 ·cases h
noncomputable def plainSlice : Expr → Bool
 | .Slice .. => false
 | _ => true
theorem plainSlice_spec {s : Expr} (h : plainSlice s = true) (o i : Value) : subscripted s false o i = operate [o, i] (getItem o i) := by
 cases s <;> first | rfl | cases h
theorem ce_idx {s t : SE} (h1 : CE C n env ns x s) (h2 : CE C n env ns y t) (hs : plainSlice y = true) : CE C n env ns (.Subscript x y pos) (s_idx s t) := .mk fun σ v σ' h => by
 replace h := EvT_pv h; obtain ⟨a, σ₁, e1, h⟩ := h
 replace h := EvT_pv h; obtain ⟨b, σ₂, e2, h⟩ := h
 replace h := EvT_ov h; obtain ⟨c, e3, h⟩ := h
 cases h
 exact te_idx (h1.ok _ _ _ e1) (h2.ok _ _ _ e2) e3 (plainSlice_spec hs)
theorem cp_none : CP C n env ns none (s_c .none) := .mk fun σ v σ' h => by cases h; exact tp_none
theorem cp_some {s : SE} (h1 : CE C n env ns x s) : CP C n env ns (some x) s := .mk fun σ v σ' h => tp_some (h1.ok _ _ _ h)
theorem ce_slc {lo hi : Option Expr} {s t u : SE} (h1 : CE C n env ns x s) (h2 : CP C n env ns lo t) (h3 : CP C n env ns hi u) : CE C n env ns (.Subscript x (.Slice lo hi none p) pos) (s_slc s t u) := .mk fun σ v σ' h => by
 replace h := EvT_pv h; obtain ⟨a, σ₁, e1, h⟩ := h
 replace h := EvT_pv h; obtain ⟨b, σ₂, e2, h⟩ := h
 replace h := EvT_pv h; obtain ⟨c, σ₃, e3, h⟩ := h
 exact te_slc (h1.ok _ _ _ e1) (h2.ok _ _ _ e2) (h3.ok _ _ _ e3) h
theorem cl_nil : CL C n env ns [] s_nil := ⟨rfl, fun pos σ vs σ' h => by cases h; exact ts_nil⟩
theorem cl_cons {rest : List Expr} {s : SE} {t : SL} (hn : notStar x = true) (h1 : CE C n env ns x s) (h2 : CL C n env ns rest t) : CL C n env ns (x :: rest) (s_cons s t) :=
 ⟨by rw [List.all_cons, hn, h2.plain]; rfl, fun pos σ vs σ' h => by
  replace h := EvT_pv h; obtain ⟨a, σ₁, e1, h⟩ := h
  replace h := EvT_pl h; obtain ⟨ws, σ₂, e2, h⟩ := h
  cases h
  exact ts_cons hn (h1.ok _ _ _ e1) (h2.ok _ _ _ _ e2)⟩
theorem ce_list {es : List Expr} {t : SL} (h1 : CL C n env ns es t) : CE C n env ns (.List es pos) (s_list t) := .mk fun σ v σ' h => by
 replace h := EvT_pl h; obtain ⟨vs, σ₁, e1, h⟩ := h
 replace h := if_some h; obtain ⟨hz, h⟩ := h
 cases h
 exact te_list (h1.ok _ _ _ _ e1) hz
theorem ce_tup {es : List Expr} {k : Nat} {t : SL} (h1 : CL C n env ns es t) : CE C n env ns (.Tuple es k pos) (s_tup t) := .mk fun σ v σ' h => by
 replace h := EvT_pl h; obtain ⟨vs, σ₁, e1, h⟩ := h
 replace h := if_some h; obtain ⟨hz, h⟩ := h
 cases h
 exact te_tup (h1.ok _ _ _ _ e1) hz
noncomputable def FS (C : Cx) (n : Nat) (fa : Addr) (g : SD) : Prop := (∃ o fd, C.base fa o ∧ o.data = .func fd) ∧ ∀ args hp v hp', g args hp = some (v, hp') → Spc C n (.ref fa) args hp v hp'
theorem FS.le {fa : Addr} {g : SD} (h : FS C m fa g) (l : m ≤ n) : FS C n fa g := ⟨h.1, fun args hp v hp' e => (h.2 args hp v hp' e).le l⟩
theorem ce_call {x : Str} {es : List Expr} {t : SL} {fa : Addr} {g : SD} (hf : CE C n env ns (.Name x p) (s_c (.raw (.ref fa)))) (hg : FS C n fa g) (hne : es.isEmpty = false) (h1 : CL C n env ns es t) : CE C n env ns (.Call (.Name x p) es [] pos) (s_call g t) := .mk fun σ v σ' h => by
 replace h := EvT_pl h; obtain ⟨vs, σ₁, e1, h⟩ := h
 replace h := EvT_ph h; obtain ⟨w, hp, e2, h⟩ := h
 cases h
 obtain ⟨⟨o, fd, hb, hd⟩, hg⟩ := hg
 exact te_call (hf.ok _ _ _ rfl) hb hd ⟨(by intro z; rw [z] at hne; cases hne), by
  cases es with
  | nil => cases hne
  | cons e rest => have := h1.plain; rw [List.all_cons, Bool.and_eq_true] at this; exact this.1⟩ (h1.ok _ _ _ _ e1) (hg _ _ _ _ e2) rfl
theorem ce_bltc {x : Str} {es : List Expr} {t : SL} {f : Blt} (hf : CE C n env ns (.Name x p) (s_c (.raw f.val))) (hne : es.isEmpty = false) (h1 : CL C n env ns es t) : CE C n env ns (.Call (.Name x p) es [] pos) (s_blt f t) := .mk fun σ v σ' h => by
 replace h := EvT_pl h; obtain ⟨vs, σ₁, e1, h⟩ := h
 replace h := EvT_ov h; obtain ⟨w, e2, h⟩ := h
 cases h
 exact te_callb (by cases f <;> first | exact .inl ⟨_, rfl⟩ | exact .inr ⟨_, rfl⟩) (hf.ok _ _ _ rfl) ⟨(by intro z; rw [z] at hne; cases hne), h1.plain⟩ (h1.ok _ _ _ _ e1) (blt_ok e2) rfl
noncomputable def methBase : Expr → Bool
 | .Name .. => true
 | .Constant .. => true
 | _ => false
theorem meth_eq {o : Expr} {name : Str} {apos : Pos} {es : List Expr} (hb : methBase o = true) (hn : es.all notStar = true) (hl : es.length < 30) (hp : (apos.endLine == pos.line) = true) :
  eval (.Call (.Attribute o name apos) es [] pos) env = (do
   let ov ← eval o env
   standAt apos.atName
   let (f, first) ← holding [ov] (getMethod ov name (do return (← importBound o env).getD true))
   callWith pos f first (backTo pos (starEach es env)) []) := by
 have hf : methodCallForm (es.length + ([] : List Keyword).length) (backTo pos (starEach es env)) (backToKw pos (keywordEach [] env)) = true := by
  unfold methodCallForm
  have h2 : (backTo pos (starEach es env)).all (fun x => !x.1) = true := by
   clear hl
   induction es with
   | nil => rfl
   | cons e rest ih =>
    rw [List.all_cons, Bool.and_eq_true] at hn
    rw [starEach_cons hn.1]
    show (!false && _) = true
    exact ih hn.2
  rw [h2]
  show (true && true && decide (es.length + 0 + 0 < 30)) = true
  simpa using hl
 have ha : attributeBase o name env (eval o env) = eval o env := by cases o <;> first | rfl | cases hb
 show (do
  let ov ← attributeBase o name env (eval o env)
  standAt apos.atName
  methodCall o name apos pos env ov (es.length + ([] : List Keyword).length) (backTo pos (starEach es env)) (backToKw pos (keywordEach [] env))) = _
 rw [ha]
 unfold methodCall calleeOf methodCallPos
 rw [hf]
 simp only [Bool.not_true, Bool.false_or, hp, if_true]
 rfl
theorem ce_meth {o : Expr} {name : Str} {apos : Pos} {es : List Expr} {s : SE} {t : SL} (m : Mth) (hm : name = m.name) (hb : methBase o = true) (hp : (apos.endLine == pos.line) = true) (hne : es.isEmpty = false) (hl : es.length < 30) (h1 : CE C n env ns o s) (h2 : CL C n env ns es t) :
  CE C n env ns (.Call (.Attribute o name apos) es [] pos) (s_meth m s t) := .mk fun σ v σ' h => by
 replace h := bnd h; obtain ⟨⟨a, σ₁⟩, e1, h⟩ := h
 replace h := bnd h; obtain ⟨⟨vs, σ₂⟩, e2, h⟩ := h
 have ne : es ≠ [] := by intro z; rw [z] at hne; cases hne
 have go : mthV σ₂ m a vs = some (v, σ') → (∀ k, a = .own k → ∃ vs, σ₁.hp[k]? = some (.lst vs)) → TE C n env ns (.Call (.Attribute o name apos) es [] pos) σ v σ' := fun h hk =>
  te_meth (h1.ok _ _ _ e1) ⟨ne, h2.plain⟩ (h2.ok _ _ _ _ e2) h hk hm (meth_eq hb h2.plain hl hp)
 cases a with
 | own k =>
  replace h := bnd h; obtain ⟨u, hk, h⟩ := h
  replace h := O.onL_some h; obtain ⟨ws, rfl, h⟩ := h
  exact go h fun j e => by cases e; exact ⟨_, hk⟩
 | _ => exact go h fun j e => by cases e
theorem ce_fmt {s : SE} (h1 : CE C n env ns x s) : CE C n env ns (.FormattedValue x (-1) none pos) (s_fmt s) := .mk fun σ v σ' h => by
 replace h := bnd h; obtain ⟨⟨w, σ₁⟩, e1, h⟩ := h
 replace h := V.onS_some h; obtain ⟨y, ew, h⟩ := h
 replace h := if_some h; obtain ⟨hz, h⟩ := h
 cases (ew : w = _); cases h
 exact te_fmt (h1.ok _ _ _ e1) hz
structure CJ (C : Cx) (n : Nat) (env : Env) (ns : List Str) (es : List Expr) (s : SL) : Prop where
 ok : ∀ σ vs σ' xs, s σ = some (vs, σ') → strsOf vs = some xs → TJ C n env ns es σ xs.flatten σ'
theorem cj_nil : CJ C n env ns [] s_nil := .mk fun σ vs σ' xs h e => by cases h; cases e; exact .nil σ
theorem cj_cons {rest : List Expr} {s : SE} {t : SL} (h1 : CE C n env ns x s) (h2 : CJ C n env ns rest t) : CJ C n env ns (x :: rest) (s_cons s t) := .mk fun σ vs σ' xs h e => by
 replace h := EvT_pv h; obtain ⟨a, σ₁, e1, h⟩ := h
 replace h := EvT_pl h; obtain ⟨ws, σ₂, e2, h⟩ := h
 cases h
 cases a with
 | str x0 =>
  replace e := mp_some e; obtain ⟨ys, hw, rfl⟩ := e
  exact .cons _ _ _ _ _ _ _ (h1.ok _ _ _ e1) (h2.ok _ _ _ _ e2 hw)
 | _ => cases e
theorem ce_join {rest : List Expr} {t : SL} (h1 : CJ C n env ns (x :: y :: rest) t) : CE C n env ns (.JoinedStr (x :: y :: rest) pos) (s_joinL t) := .mk fun σ v σ' h => by
 replace h := EvT_pl h; obtain ⟨vs, σ₁, e1, h⟩ := h
 replace h := EvT_ox h; obtain ⟨xs, e2, h⟩ := h
 replace h := if_some h; obtain ⟨hz, h⟩ := h
 cases h
 exact te_join (h1.ok _ _ _ _ e1 e2) hz
end
noncomputable abbrev SY := Sg → Option (F × Sg)
noncomputable abbrev SA := V → Sg → Option Sg
noncomputable def y_nil : SY := fun σ => some (.next, σ)
noncomputable def y_seq (s t : SY) : SY := fun σ => match s σ with
 | some (.next, σ₁) => t σ₁
 | r => r
noncomputable def y_asg (i : Nat) (x : SE) : SY := fun σ => match x σ with
 | some (v, σ₁) => some (.next, σ₁.put i v)
 | none => none
noncomputable def y_expr (x : SE) : SY := fun σ => match x σ with
 | some (.none, σ₁) => some (.next, σ₁)
 | _ => none
noncomputable def y_if (t : ST) (s u : SY) : SY := fun σ => match t σ with
 | some (true, σ₁) => s σ₁
 | some (false, σ₁) => u σ₁
 | none => none
noncomputable def y_ret (x : SE) : SY := fun σ => match x σ with
 | some (v, σ₁) => some (.ret v, σ₁)
 | none => none
noncomputable def y_brk : SY := fun σ => some (.brk, σ)
noncomputable def y_assert (t : ST) : SY := fun σ => match t σ with
 | some (true, σ₁) => some (.next, σ₁)
 | _ => none
noncomputable def y_aug (i : Nat) (x : SE) : SY := fun σ => σ.loc[i]?.bind fun w => w.bind fun w => w.onI fun k => (x σ).bind fun p => p.1.onI fun j => some (.next, p.2.put i (.int (k + j)))
noncomputable def V.on2 {α : Type} (v : V) (f : V → V → Option α) : Option α := match v with
 | .tup l => match l with
  | [] => Option.none
  | a :: l => match l with
   | [] => Option.none
   | b :: l => match l with
    | [] => f a b
    | _ :: _ => Option.none
 | _ => Option.none
theorem V.on2_some {α : Type} {v : V} {f : V → V → Option α} {r : α} (e : v.on2 f = some r) : ∃ a b, v = .tup [a, b] ∧ f a b = some r := by
 cases v with
 | tup l => cases l with
  | nil => cases e
  | cons a l => cases l with
   | nil => cases e
   | cons b l => cases l with
    | nil => exact ⟨a, b, rfl, e⟩
    | cons => cases e
 | _ => cases e
noncomputable def y_pair (i j : Nat) (x : SE) : SY := fun σ => (x σ).bind fun p => p.1.on2 fun a b => some (.next, (p.2.put j b).put i a)
noncomputable def a_name (i : Nat) : SA := fun v σ => some (σ.put i v)
noncomputable def a_pair (i j : Nat) : SA := fun v σ => v.on2 fun a b => some ((σ.put i a).put j b)
noncomputable def y_body (b k : SY) : SY := fun σ => (b σ).bind fun p => match p.1 with
 | .next => k p.2
 | .brk => some (.next, p.2)
 | .ret _ => some p
noncomputable def whT (t : ST) (b rec : SY) : SY := fun σ => (t σ).bind fun p => match p.1 with
 | false => some (.next, p.2)
 | true => y_body b rec p.2
noncomputable def whL (t : ST) (b : SY) : Nat → SY
 | 0 => fun _ => none
 | k + 1 => whT t b (whL t b k)
noncomputable def lots : Nat := 1000000
noncomputable def y_while (t : ST) (b : SY) : SY := whL t b lots
noncomputable def frT (g : SA) (b o : SY) (rec : Src → SY) (src : Src) : SY := fun σ => (src.next σ).bind fun q => match q with
 | none => o σ
 | some p => (g p.1 σ).bind (y_body b (rec p.2))
noncomputable def frL (g : SA) (b o : SY) : Nat → Src → SY
 | 0, _ => fun _ => none
 | k + 1, src => frT g b o (frL g b o k) src
noncomputable def y_for (g : SA) (x : SE) (b o : SY) : SY := fun σ => (x σ).bind fun p => (srcOf p.2 p.1).bind fun src => frL g b o lots src p.2
noncomputable def capLoc (tn : Nat) (cs : List Nat) (σ : Sg) : List (Option V) := List.replicate tn none ++ cs.map fun j => (σ.loc[j]?).join
noncomputable def lcT (K : Nat) (g : SA) (t : ST) (x : SE) (rec : Src → Sg → Option (List O)) (src : Src) (σ : Sg) : Option (List O) := (src.next σ).bind fun q => match q with
 | none => some σ.hp
 | some p => (g p.1 σ).bind fun σ₁ => (t σ₁).bind fun c => match c.1 with
  | false => rec p.2 c.2
  | true => (x c.2).bind fun v => (v.2.hp[K]?).bind fun o => match o with
   | .lst vs => if vs.length ≤ smallN then rec p.2 (v.2.setO K (.lst (vs ++ [v.1]))) else none
   | .obj => none
noncomputable def lcL (K : Nat) (g : SA) (t : ST) (x : SE) : Nat → Src → Sg → Option (List O)
 | 0, _ => fun _ => none
 | k + 1, src => lcT K g t x (lcL K g t x k) src
noncomputable def s_lc (it : SE) (tn : Nat) (cs : List Nat) (g : SA) (t : ST) (x : SE) : SE := fun σ => (it σ).bind fun p => (srcOf p.2 p.1).bind fun src => (lcL p.2.hp.length g t x lots src ⟨capLoc tn cs p.2, p.2.hp ++ [.lst []]⟩).map fun hp => (.own p.2.hp.length, ⟨p.2.loc, hp⟩)
section
variable {C : Cx} {n m : Nat} {env : Env} {ns : List Str} {σ σ' σ₁ σ₂ σ₃ σ₄ : Sg} {as as' : List Addr} {h h' : Heap} {a b c d v : V} {f : F}
variable {x y z e l r : Expr} {p pos : Pos}
structure CY (C : Cx) (n : Nat) (env : Env) (ns : List Str) (st : Stmt) (s : SY) : Prop where
 ok : ∀ σ f σ', s σ = some (f, σ') → TX C n env ns st σ f σ'
structure CB (C : Cx) (n : Nat) (env : Env) (ns : List Str) (b : List Stmt) (s : SY) : Prop where
 ok : ∀ σ f σ', s σ = some (f, σ') → TB C n env ns b σ f σ'
structure CG (C : Cx) (n : Nat) (env : Env) (ns : List Str) (target : Expr) (g : SA) : Prop where
 ok : ∀ w σ σ', g w σ = some σ' → TA C n env ns target w σ σ'
structure CI (C : Cx) (n : Nat) (env : Env) (ns : List Str) (ifs : List Expr) (s : ST) : Prop where
 ok : ∀ σ b σ', s σ = some (b, σ') → TI C n env ns ifs σ b σ'
theorem cb_nil : CB C n env ns [] y_nil := .mk fun σ f σ' h => by cases h; exact tb_nil
theorem cb_cons {st : Stmt} {rest : List Stmt} {s t : SY} (h1 : CY C n env ns st s) (h2 : CB C n env ns rest t) : CB C n env ns (st :: rest) (y_seq s t) := .mk fun σ f σ' h => by
 unfold y_seq at h
 split at h
 ·rename_i σ₁ e1
  exact tb_cons (h1.ok _ _ _ e1) (h2.ok _ _ _ h)
 ·rename_i hn
  refine tb_stop (h1.ok _ _ _ h) fun z => ?_
  subst z
  exact hn _ h
theorem cy_asg (ok : EnvOk env ns) {x : Str} {value : Expr} {s : SE} (i : Nat) (hx : ns[i]? = some x) (hk : stores env x = true) (hs : swapsWith value (some (.Name x p)) pos.line env = pure false) (h1 : CE C n env ns value s) : CY C n env ns (.Assign [.Name x p] value pos) (y_asg i s) := .mk fun σ f σ' h => by
 unfold y_asg at h
 split at h
 ·rename_i w σ₁ e1
  cases h
  exact tx_asg ok hx hk (h1.ok _ _ _ e1) hs
 ·cases h
theorem cy_expr {s : SE} (hi : interactive env = false) (hs : swapsWith x none pos.line env = pure false) (h1 : CE C n env ns x s) : CY C n env ns (.Expr x pos) (y_expr s) := .mk fun σ f σ' h => by
 unfold y_expr at h
 split at h
 ·rename_i σ₁ e1
  cases h
  exact tx_expr rfl (h1.ok _ _ _ e1) hi hs
 ·cases h
theorem cy_if {body orelse : List Stmt} {t : ST} {s u : SY} (h1 : CT C n env ns x t) (h2 : CB C n env ns body s) (h3 : CB C n env ns orelse u) : CY C n env ns (.If x body orelse pos) (y_if t s u) := .mk fun σ f σ' h => by
 unfold y_if at h
 split at h
 ·rename_i σ₁ e1
  exact tx_if (h1.ok _ _ _ e1) (by simpa using h2.ok _ _ _ h)
 ·rename_i σ₁ e1
  exact tx_if (h1.ok _ _ _ e1) (by simpa using h3.ok _ _ _ h)
 ·cases h
theorem cy_ret {s : SE} (h1 : CE C n env ns x s) : CY C n env ns (.Return (some x) pos) (y_ret s) := .mk fun σ f σ' h => by
 unfold y_ret at h
 split at h
 ·rename_i w σ₁ e1
  cases h
  exact tx_ret (h1.ok _ _ _ e1)
 ·cases h
theorem cy_brk : CY C n env ns (.Break pos) y_brk := .mk fun σ f σ' h => by cases h; exact tx_brk
theorem cy_assert {msg : Option Expr} {t : ST} (h1 : CT C n env ns x t) : CY C n env ns (.Assert x msg pos) (y_assert t) := .mk fun σ f σ' h => by
 unfold y_assert at h
 split at h
 ·rename_i σ₁ e1
  cases h
  exact tx_assert (h1.ok _ _ _ e1)
 ·cases h
theorem cy_aug (ok : EnvOk env ns) {x : Str} {value : Expr} {s : SE} (i : Nat) (hx : ns[i]? = some x) (hk : stores env x = true) (hz : (x == ("__classdict__" : Str)) = false) (h1 : CE C n env ns value s) : CY C n env ns (.AugAssign (.Name x p) .Add value pos) (y_aug i s) := .mk fun σ f σ' h => by
 replace h := bnd h; obtain ⟨w, hv, h⟩ := h
 replace h := bnd h; obtain ⟨w, rfl, h⟩ := h
 replace h := V.onI_some h; obtain ⟨k, rfl, h⟩ := h
 replace h := bnd h; obtain ⟨⟨w, σ₁⟩, e1, h⟩ := h
 replace h := V.onI_some h; obtain ⟨j, ew, h⟩ := h
 cases (ew : w = _); cases h
 exact tx_aug ok hx hk hv (h1.ok _ _ _ e1) hz
theorem cy_pair (ok : EnvOk env ns) {x y : Str} {q tp : Pos} {k : Nat} {value : Expr} {s : SE} (i j : Nat) (hx : ns[i]? = some x) (hk : stores env x = true) (hy : ns[j]? = some y) (hl : stores env y = true)
  (hs : swapsWithSole [.Tuple [.Name x p, .Name y q] k tp] value pos.line env = pure false) (hw : swappedStores [.Tuple [.Name x p, .Name y q] k tp] value env = pure (some [x, y])) (h1 : CE C n env ns value s) :
  CY C n env ns (.Assign [.Tuple [.Name x p, .Name y q] k tp] value pos) (y_pair i j s) := .mk fun σ f σ' h => by
 replace h := bnd h; obtain ⟨⟨w, σ₁⟩, e1, h⟩ := h
 replace h := V.on2_some h; obtain ⟨a, b, ew, h⟩ := h
 cases (ew : w = _); cases h
 exact tx_pairS ok hx hk hy hl (h1.ok _ _ _ e1) hs hw
theorem cg_name (ok : EnvOk env ns) {x : Str} (i : Nat) (hx : ns[i]? = some x) (hk : stores env x = true) : CG C n env ns (.Name x p) (a_name i) := .mk fun w σ σ' h => by
 cases h; exact ta_name ok hx hk
theorem cg_pair (ok : EnvOk env ns) {x y : Str} {q tp : Pos} {k : Nat} (i j : Nat) (hx : ns[i]? = some x) (hk : stores env x = true) (hy : ns[j]? = some y) (hl : stores env y = true) : CG C n env ns (.Tuple [.Name x p, .Name y q] k tp) (a_pair i j) := .mk fun w σ σ' h => by
 replace h := V.on2_some h; obtain ⟨a, b, rfl, h⟩ := h
 cases h; exact ta_pair ok hx hk hy hl
inductive BoI (b k : SY) (σ : Sg) (f : F) (σ' : Sg) : Prop
 | next (σ₂ : Sg) : b σ = some (.next, σ₂) → k σ₂ = some (f, σ') → BoI b k σ f σ'
 | brk : b σ = some (.brk, σ') → f = .next → BoI b k σ f σ'
 | ret (v : V) : b σ = some (.ret v, σ') → f = .ret v → BoI b k σ f σ'
theorem bo_inv {b k : SY} (h : y_body b k σ = some (f, σ')) : BoI b k σ f σ' := by
 obtain ⟨⟨w, σ₂⟩, e, h⟩ := bnd h
 cases w with
 | next => exact .next σ₂ e h
 | brk => cases h; exact .brk e rfl
 | ret v => cases h; exact .ret v e rfl
theorem bo_ok {b K : SY} {body : List Stmt} {k : Nat} {I : Nat → Sg → Prop} (h3 : CB C n env ns body b) (q : BoI b K σ f σ') (hI : ∀ σ₂, K σ₂ = some (f, σ') → I k σ₂) : (∃ σ2 m, TB C n env ns body σ .next σ2 ∧ m < k + 1 ∧ I m σ2) ∨ (TB C n env ns body σ .brk σ' ∧ f = .next) ∨ ∃ v, TB C n env ns body σ (.ret v) σ' ∧ f = .ret v := by
 cases q with
 | next σ₂ e h => exact .inl ⟨σ₂, k, h3.ok _ _ _ e, Nat.lt_succ_self k, hI _ h⟩
 | brk e z => exact .inr (.inl ⟨h3.ok _ _ _ e, z⟩)
 | ret v e z => exact .inr (.inr ⟨v, h3.ok _ _ _ e, z⟩)
theorem bo_n {b k : SY} (h : b σ = some (.next, σ')) : y_body b k σ = k σ' := by unfold y_body; rw [h]; rfl
theorem bo_b {b k : SY} (h : b σ = some (.brk, σ')) : y_body b k σ = some (.next, σ') := by unfold y_body; rw [h]; rfl
theorem cy_while {body : List Stmt} {t : ST} {s : SY} (h1 : CT C n env ns x t) (h2 : CB C n env ns body s) : CY C n env ns (.While x body [] pos) (y_while t s) := .mk fun σ f σ' h => by
 refine tx_while (fun k σ => whL t s k σ = some (f, σ')) (fun k σ hk => ?_) lots σ h
 cases k with
 | zero => cases hk
 | succ k =>
  obtain ⟨⟨c, σ₁⟩, e, h⟩ := bnd (show whT t s (whL t s k) σ = _ from hk)
  cases c with
  | false => cases h; exact .inl ⟨h1.ok _ _ _ e, rfl⟩
  | true => exact .inr ⟨σ₁, h1.ok _ _ _ e, bo_ok (I := fun k σ => whL t s k σ = some (f, σ')) h2 (bo_inv h) fun _ h => h⟩
theorem fr_step {g : SA} {b o : SY} {k : Nat} {src src' : Src} {w : V} (e : src.next σ = some (some (w, src'))) (e1 : g w σ = some σ₁) (e2 : b σ₁ = some (.next, σ₂)) : frL g b o (k + 1) src σ = frL g b o k src' σ₂ := by
 show (src.next σ).bind _ = _
 rw [e]; show (g w σ).bind _ = _
 rw [e1]; exact bo_n e2
theorem fr_brk {g : SA} {b o : SY} {k : Nat} {src src' : Src} {w : V} (e : src.next σ = some (some (w, src'))) (e1 : g w σ = some σ₁) (e2 : b σ₁ = some (.brk, σ₂)) : frL g b o (k + 1) src σ = some (.next, σ₂) := by
 show (src.next σ).bind _ = _
 rw [e]; show (g w σ).bind _ = _
 rw [e1]; exact bo_b e2
theorem fr_end {g : SA} {b o : SY} {k : Nat} {src : Src} (e : src.next σ = some none) : frL g b o (k + 1) src σ = o σ := by
 show (src.next σ).bind _ = _
 rw [e]; rfl
theorem cy_for {target iter : Expr} {body orelse : List Stmt} {g : SA} {s : SE} {b o : SY} (hs : ∀ x, foldedSetIterable iter env x = pure x) (h1 : CE C n env ns iter s) (h2 : CG C n env ns target g) (h3 : CB C n env ns body b) (h4 : CB C n env ns orelse o) :
  CY C n env ns (.For target iter body orelse pos) (y_for g s b o) := .mk fun σ f σ' h => by
 replace h := bnd h; obtain ⟨p, e1, h⟩ := h
 replace h := bnd h; obtain ⟨src, e2, h⟩ := h
 refine tx_for (fun k src σ => frL g b o k src σ = some (f, σ')) (h1.ok _ p.1 p.2 e1) e2 hs (fun k src σ hk => ?_) lots h
 cases k with
 | zero => cases hk
 | succ k =>
  obtain ⟨q, e, hk⟩ := bnd (show frT g b o (frL g b o k) src σ = _ from hk)
  cases q with
  | none => exact .inl ⟨e, h4.ok _ _ _ hk⟩
  | some p =>
   obtain ⟨σ₁, e1, hk⟩ := bnd hk
   exact .inr ⟨p.1, p.2, σ₁, e, h2.ok _ _ _ e1, bo_ok (I := fun k σ => frL g b o k p.2 σ = some (f, σ')) h3 (bo_inv hk) fun _ h => h⟩
theorem for_of {x : SE} {g : SA} {b o : SY} {src : Src} {r : F × Sg} (h : x σ = some (v, σ₁)) (e : srcOf σ₁ v = some src) (l : frL g b o lots src σ₁ = some r) : y_for g x b o σ = some r := by
 show (x σ).bind _ = _
 rw [h]; show (srcOf σ₁ v).bind _ = _
 rw [e]; exact l
theorem ci_nil : CI C n env ns [] (s_t true) := .mk fun σ b σ' h => by cases h; exact ti_nil
theorem ci_one {t : ST} (h1 : CT C n env ns x t) : CI C n env ns [x] t := .mk fun σ b σ' h => ti_one (h1.ok _ _ _ h)
noncomputable def CapAll (env : Env) (ns : List Str) (scope : Scope) (cl : List (Str × Addr)) (nsC : List Str) : Nat → List Nat → Prop
 | _, [] => True
 | t, j :: r => (∃ x : Str, nsC[t]? = some x ∧ ns[j]? = some x ∧ env.kindOf x ≠ some .local ∧ (∀ L, (compEnvC scope cl L env).kindOf x = some .cell ∨ (compEnvC scope cl L env).kindOf x = some .free) ∧ cl.lookup x = env.cells.lookup x) ∧ CapAll env ns scope cl nsC (t + 1) r
structure CapS (env : Env) (ns : List Str) (scope : Scope) (cl : List (Str × Addr)) (nsC : List Str) (tn : Nat) (cs : List Nat) : Prop where
 clos : closureFor scope env = pure cl
 cell : ∀ y ∈ scope.names, y.2 ≠ .cell
 kind : scope.kind = .function
 names : ∀ x ∈ scope.names, x.2 = .local → scope.names.lookup x.1 = some .local
 sub : ∀ c ∈ cl, c ∈ env.cells
 clnd : (cl.map (·.2)).Nodup
 nd : nsC.Nodup
 cap : CapAll env ns scope cl nsC tn cs
theorem CapAll.get {scope : Scope} {cl : List (Str × Addr)} {nsC : List Str} : ∀ {cs : List Nat} {tn : Nat}, CapAll env ns scope cl nsC tn cs → ∀ (i j : Nat), cs[i]? = some j → ∃ x : Str, nsC[tn + i]? = some x ∧ ns[j]? = some x ∧ env.kindOf x ≠ some .local ∧ (∀ L, (compEnvC scope cl L env).kindOf x = some .cell ∨ (compEnvC scope cl L env).kindOf x = some .free) ∧ cl.lookup x = env.cells.lookup x
 | [], _, _, _, _, e => by cases e
 | k :: r, tn, h, 0, j, e => by cases e; exact h.1
 | k :: r, tn, h, i + 1, j, e => by
  have := CapAll.get h.2 i j (by simpa using e)
  rw [show tn + 1 + i = tn + (i + 1) by simp +arith] at this
  exact this
theorem CapS.ok {scope : Scope} {cl : List (Str × Addr)} {nsC : List Str} {tn : Nat} {cs : List Nat} (K : CapS env ns scope cl nsC tn cs) (ok : EnvOk env ns) (L : Addr) : EnvOk (compEnvC scope cl L env) nsC :=
 ⟨K.kind, ok.glob, ok.blt, K.nd, K.clnd⟩
theorem CapS.caps {scope : Scope} {cl : List (Str × Addr)} {nsC : List Str} {tn : Nat} {cs : List Nat} (K : CapS env ns scope cl nsC tn cs) (σ : Sg) : Caps env ns σ scope cl nsC (capLoc tn cs σ) :=
 ⟨K.clos, K.cell, K.kind, K.names, K.sub, K.clnd, K.nd, fun i v e => by
  unfold capLoc at e
  by_cases li : i < tn
  ·rw [List.getElem?_append_left (by simpa using li), List.getElem?_replicate, if_pos li] at e; cases e
  ·rw [List.getElem?_append_right (by simpa using Nat.le_of_not_lt li), List.length_replicate, List.getElem?_map] at e
   cases hj : cs[i - tn]? with
   | none => rw [hj] at e; cases e
   | some j =>
    rw [hj] at e
    obtain ⟨x, e1, e2, e3, e4, e5⟩ := K.cap.get _ _ hj
    rw [Nat.add_sub_cancel' (Nat.le_of_not_lt li)] at e1
    have ev : (σ.loc[j]?).join = some v := by simpa using e
    refine ⟨x, j, e1, e2, ?_, e3, e4, e5⟩
    cases hl : σ.loc[j]? with
    | none => rw [hl] at ev; cases ev
    | some o => rw [hl] at ev; exact congrArg some ev⟩
theorem lc_end {K : Nat} {g : SA} {t : ST} {x : SE} {k : Nat} {src : Src} (e : src.next σ = some none) : lcL K g t x (k + 1) src σ = some σ.hp := by
 show (src.next σ).bind _ = _
 rw [e]; rfl
theorem lc_no {K : Nat} {g : SA} {t : ST} {x : SE} {k : Nat} {src src' : Src} {w : V} (e : src.next σ = some (some (w, src'))) (e1 : g w σ = some σ₁) (e2 : t σ₁ = some (false, σ₂)) : lcL K g t x (k + 1) src σ = lcL K g t x k src' σ₂ := by
 show (src.next σ).bind _ = _
 rw [e]; show (g w σ).bind _ = _
 rw [e1]; show (t σ₁).bind _ = _
 rw [e2]; rfl
theorem lc_yes {K : Nat} {g : SA} {t : ST} {x : SE} {k : Nat} {src src' : Src} {w : V} {vs : List V} (e : src.next σ = some (some (w, src'))) (e1 : g w σ = some σ₁) (e2 : t σ₁ = some (true, σ₂)) (e3 : x σ₂ = some (v, σ₃)) (e4 : σ₃.hp[K]? = some (.lst vs)) (hz : vs.length ≤ smallN) : lcL K g t x (k + 1) src σ = lcL K g t x k src' (σ₃.setO K (.lst (vs ++ [v]))) := by
 show (src.next σ).bind _ = _
 rw [e]; show (g w σ).bind _ = _
 rw [e1]; show (t σ₁).bind _ = _
 rw [e2]; show (x σ₂).bind _ = _
 rw [e3]; show (σ₃.hp[K]?).bind _ = _
 rw [e4]; exact if_pos hz
theorem lc_of {it : SE} {tn : Nat} {cs : List Nat} {g : SA} {t : ST} {x : SE} {src : Src} {hpf : List O} (e1 : it σ = some (v, σ₁)) (e2 : srcOf σ₁ v = some src) (L : lcL σ₁.hp.length g t x lots src ⟨capLoc tn cs σ₁, σ₁.hp ++ [.lst []]⟩ = some hpf) : s_lc it tn cs g t x σ = some (.own σ₁.hp.length, ⟨σ₁.loc, hpf⟩) := by
 show (it σ).bind _ = _
 rw [e1]; show (srcOf σ₁ v).bind _ = _
 rw [e2]; show Option.map _ (lcL _ _ _ _ _ _ _) = _
 rw [L]; rfl
theorem lc_turn {elt target : Expr} {ifs : List Expr} {scope : Scope} {cl : List (Str × Addr)} {nsC : List Str} {g : SA} {t : ST} {s : SE} {K : Nat} {hpf : List O}
  (h2 : ∀ L, CG C n (compEnvC scope cl L env) nsC target g) (h3 : ∀ L, CI C n (compEnvC scope cl L env) nsC ifs t) (h4 : ∀ L, CE C n (compEnvC scope cl L env) nsC elt s) :
  Turn C n env scope cl nsC K target elt ifs hpf (fun k src σ => lcL K g t s k src σ = some hpf) := by
 intro L k src σ hk
 cases k with
 | zero => cases hk
 | succ k =>
  obtain ⟨q, e, hk⟩ := bnd (show lcT K g t s (lcL K g t s k) src σ = _ from hk)
  cases q with
  | none => exact .inl ⟨e, Option.some.inj hk⟩
  | some p =>
   replace hk := bnd hk; obtain ⟨σ₁, e1, hk⟩ := hk
   replace hk := bnd hk; obtain ⟨⟨c, σ₂⟩, e2, hk⟩ := hk
   refine .inr ⟨p.1, p.2, σ₁, c, σ₂, e, (h2 L).ok _ _ _ e1, (h3 L).ok _ _ _ e2, ?_⟩
   cases c with
   | false => exact ⟨k, Nat.lt_succ_self k, hk⟩
   | true =>
    replace hk := bnd hk; obtain ⟨v, e3, hk⟩ := hk
    replace hk := bnd hk; obtain ⟨o, e4, hk⟩ := hk
    cases o with
    | obj => cases hk
    | lst vs =>
     obtain ⟨hz, hk⟩ := if_some hk
     exact ⟨v.1, v.2, vs, k, (h4 L).ok _ _ _ e3, e4, hz, Nat.lt_succ_self k, hk⟩
theorem ce_lc {elt target iter : Expr} {ifs : List Expr} {scope : Scope} {cl : List (Str × Addr)} {nsC : List Str} {tn : Nat} {cs : List Nat} {it : SE} {g : SA} {t : ST} {s : SE} (ok : EnvOk env ns) (hs : ∀ x, foldedSetIterable iter env x = pure x) (K : CapS env ns scope cl nsC tn cs)
  (h1 : CE C n env ns iter it) (h2 : ∀ L, EnvOk (compEnvC scope cl L env) nsC → CG C n (compEnvC scope cl L env) nsC target g) (h3 : ∀ L, EnvOk (compEnvC scope cl L env) nsC → CI C n (compEnvC scope cl L env) nsC ifs t) (h4 : ∀ L, EnvOk (compEnvC scope cl L env) nsC → CE C n (compEnvC scope cl L env) nsC elt s) :
  CE C n env ns (.ListComp elt [⟨target, iter, ifs, 0⟩] scope pos) (s_lc it tn cs g t s) := .mk fun σ v σ' h => by
 replace h := bnd h; obtain ⟨⟨v, σ₁⟩, e1, h⟩ := h
 replace h := bnd h; obtain ⟨src, e2, h⟩ := h
 replace h := mp_some h; obtain ⟨hp, e3, h⟩ := h
 cases h
 exact te_lc _ ok (h1.ok _ _ _ e1) e2 hs (K.caps σ₁) (lc_turn (fun L => h2 L (K.ok ok L)) (fun L => h3 L (K.ok ok L)) (fun L => h4 L (K.ok ok L))) lots e3
end
section
variable {t : ST} {s u b : SY} {x y : SE} {l : SL} {σ σ1 σ2 σ3 : Sg} {r : F × Sg} {v w : V} {vs : List V} {i k : Nat} {c : Bool}
theorem seq_n {σ' : Sg} (h1 : s σ = some (.next, σ')) (h2 : u σ' = some r) : y_seq s u σ = some r := by unfold y_seq; rw [h1]; exact h2
theorem seq_b (h1 : s σ = some (.brk, σ1)) : y_seq s u σ = some (.brk, σ1) := by unfold y_seq; rw [h1]
theorem seq_ret (h1 : s σ = some (.ret v, σ1)) : y_seq s u σ = some (.ret v, σ1) := by unfold y_seq; rw [h1]
theorem seq_0 (h : s σ = some r) : y_seq s y_nil σ = some r := by
 obtain ⟨f, σ1⟩ := r
 cases f with
 | next => exact seq_n h rfl
 | brk => exact seq_b h
 | ret v => exact seq_ret h
theorem if_t (h : t σ = some (true, σ1)) (h2 : s σ1 = some r) : y_if t s u σ = some r := by unfold y_if; rw [h]; exact h2
theorem if_f (h : t σ = some (false, σ1)) (h2 : u σ1 = some r) : y_if t s u σ = some r := by unfold y_if; rw [h]; exact h2
theorem asg_of (h : x σ = some (v, σ1)) : y_asg i x σ = some (.next, σ1.put i v) := by unfold y_asg; rw [h]
theorem ret_of (h : x σ = some (v, σ1)) : y_ret x σ = some (.ret v, σ1) := by unfold y_ret; rw [h]
theorem expr_of (h : x σ = some (.none, σ1)) : y_expr x σ = some (.next, σ1) := by unfold y_expr; rw [h]
theorem assert_of (h : t σ = some (true, σ1)) : y_assert t σ = some (.next, σ1) := by unfold y_assert; rw [h]
theorem wh_n (h : t σ = some (true, σ1)) (hb : b σ1 = some (.next, σ2)) (h2 : whL t b k σ2 = some r) : whL t b (k + 1) σ = some r := by
 show (t σ).bind _ = _
 rw [h]; exact (bo_n hb).trans h2
theorem wh_b (h : t σ = some (true, σ1)) (hb : b σ1 = some (.brk, σ2)) : whL t b (k + 1) σ = some (.next, σ2) := by
 show (t σ).bind _ = _
 rw [h]; exact bo_b hb
theorem wh_0 (h : t σ = some (false, σ1)) : whL t b (k + 1) σ = some (.next, σ1) := by
 show (t σ).bind _ = _
 rw [h]; rfl
theorem cmp_of {op : CmpOp} (hx : x σ = some (v, σ1)) (hy : y σ1 = some (w, σ2)) (e : cmpV op v w σ2 = some c) : s_cmp op x y σ = some (c, σ2) := by unfold s_cmp; rw [hx]; dsimp only; rw [hy]; dsimp only; rw [e]
theorem and_t {u : ST} (h : t σ = some (true, σ1)) (h2 : u σ1 = some (c, σ2)) : s_and t u σ = some (c, σ2) := by unfold s_and; rw [h]; exact h2
theorem and_f {u : ST} (h : t σ = some (false, σ1)) : s_and t u σ = some (false, σ1) := by unfold s_and; rw [h]
theorem not_of (h : t σ = some (c, σ1)) : s_not t σ = some (!c, σ1) := by unfold s_not; rw [h]
theorem truth_of (h : x σ = some (v, σ1)) (e : truthV σ1 v = some c) : s_truth x σ = some (c, σ1) := by unfold s_truth; rw [h]; dsimp only; rw [e]
theorem cons_of (hx : x σ = some (v, σ1)) (hr : l σ1 = some (vs, σ2)) : s_cons x l σ = some (v :: vs, σ2) := by unfold s_cons; rw [hx]; dsimp only; rw [hr]
theorem call_of {g : SD} (hr : l σ = some (vs, σ1)) (hg : g vs σ1.hp = some (v, σ1.hp)) : s_call g l σ = some (v, σ1) := by unfold s_call; rw [hr]; dsimp only; rw [hg]
theorem call_to {g : SD} {hp : List O} (hr : l σ = some (vs, σ1)) (hg : g vs σ1.hp = some (v, hp)) : s_call g l σ = some (v, { σ1 with hp := hp }) := by unfold s_call; rw [hr]; dsimp only; rw [hg]
theorem bin_of {op : Operator} {q : V × Sg} (hx : x σ = some (v, σ1)) (hy : y σ1 = some (w, σ2)) (e : binop op v w σ2 = some q) : s_bin op x y σ = some q := by unfold s_bin; rw [hx]; dsimp only; rw [hy]; exact e
theorem blt_of {f : Blt} (hr : l σ = some (vs, σ1)) (e : bltV σ1 f vs = some v) : s_blt f l σ = some (v, σ1) := by unfold s_blt; rw [hr]; dsimp only; rw [e]
end
theorem EvV_pf {α : Type} {o : Option (F × Sg)} {f : F → Sg → Option α} {r : α} (e : (match o with
  | some (a, b) => f a b
  | none => none) = some r) : ∃ a b, o = some (a, b) ∧ f a b = some r := by
 cases o with
 | none => cases e
 | some x => exact ⟨x.1, x.2, rfl, e⟩
theorem EvV_ov {α : Type} {o : Option (V)} {f : V → Option α} {r : α} (e : (match o with
  | some a => f a
  | none => none) = some r) : ∃ a, o = some a ∧ f a = some r := by
 cases o with
 | none => cases e
 | some x => exact ⟨x, rfl, e⟩
theorem bindL_skip {k : Str → Option NameKind} {x : Str} : ∀ {bs : List (Str × Value)} {m : Str → Option Value}, (∀ p ∈ bs, p.1 ≠ x) → bindL k bs m x = m x
 | [], _, _ => rfl
 | (y, v) :: r, m, h => by
  unfold bindL
  rw [bindL_skip fun p hp => h p (List.mem_cons_of_mem _ hp)]
  split
  ·exact if_neg (Ne.symm (h (y, v) List.mem_cons_self))
  ·rfl
theorem bindC_skip {k : Str → Option NameKind} {x : Str} : ∀ {bs : List (Str × Value)} {m : Str → Option Value}, (∀ p ∈ bs, p.1 ≠ x) → bindC k bs m x = m x
 | [], _, _ => rfl
 | (y, v) :: r, m, h => by
  unfold bindC
  rw [bindC_skip fun p hp => h p (List.mem_cons_of_mem _ hp)]
  split
  ·rfl
  ·exact if_neg (Ne.symm (h (y, v) List.mem_cons_self))
theorem bindL_get {k : Str → Option NameKind} {x : Str} {v : Value} : ∀ {ps : List Str} {xs : List Value} {m : Str → Option Value} {i : Nat}, ps.Nodup → ps[i]? = some x → xs[i]? = some v → k x = some .local → bindL k (ps.zip xs) m x = some v
 | [], _, _, _, _, e, _, _ => by cases e
 | _ :: _, [], _, _, _, _, e, _ => by cases e
 | p :: ps, y :: xs, m, i, hn, e1, e2, hk => by
  rw [List.zip_cons_cons]
  unfold bindL
  cases i with
  | zero =>
   cases e1; cases e2
   rw [bindL_skip, if_pos hk]
   ·exact if_pos rfl
   ·rintro q hq rfl
    exact (List.nodup_cons.mp hn).1 (List.of_mem_zip (a := q.1) (b := q.2) hq).1
  | succ i => exact bindL_get (List.nodup_cons.mp hn).2 (by simpa using e1) (by simpa using e2) hk
theorem bindC_get {k : Str → Option NameKind} {x : Str} {v : Value} : ∀ {ps : List Str} {xs : List Value} {m : Str → Option Value} {i : Nat}, ps.Nodup → ps[i]? = some x → xs[i]? = some v → k x ≠ some .local → bindC k (ps.zip xs) m x = some v
 | [], _, _, _, _, e, _, _ => by cases e
 | _ :: _, [], _, _, _, _, e, _ => by cases e
 | p :: ps, y :: xs, m, i, hn, e1, e2, hk => by
  rw [List.zip_cons_cons]
  unfold bindC
  cases i with
  | zero =>
   cases e1; cases e2
   rw [bindC_skip, if_neg hk]
   ·exact if_pos rfl
   ·rintro q hq rfl
    exact (List.nodup_cons.mp hn).1 (List.of_mem_zip (a := q.1) (b := q.2) hq).1
  | succ i => exact bindC_get (List.nodup_cons.mp hn).2 (by simpa using e1) (by simpa using e2) hk
theorem cellsFrom_lookup : ∀ (names : List (Str × NameKind)) (L : Nat) (acc : List (Str × Addr)), (names.map (·.1)).Nodup → (∀ c ∈ acc, c.1 ∉ names.map (·.1)) → (∀ c ∈ acc, acc.lookup c.1 = some c.2) →
  ∀ c ∈ cellsFrom L names acc, (cellsFrom L names acc).lookup c.1 = some c.2
 | [], _, acc, _, _, h => h
 | (x, k) :: r, L, acc, hn, hd, h => by
  unfold cellsFrom
  have hn' := (List.nodup_cons.mp hn)
  split
  ·refine cellsFrom_lookup r _ _ hn'.2 ?_ ?_
   ·intro c hc
    rcases List.mem_cons.mp hc with rfl | hc
    ·exact hn'.1
    ·exact fun m => hd c hc (List.mem_cons_of_mem _ m)
   ·intro c hc
    rcases List.mem_cons.mp hc with rfl | hc'
    ·simp [List.lookup]
    ·have ne : (c.1 == x) = false := by
      rw [beq_eq_false_iff_ne]
      intro z
      exact hd c hc' (z ▸ List.mem_cons_self ..)
     rw [List.lookup_cons, ne]
     exact h c hc'
  ·exact cellsFrom_lookup r _ _ hn'.2 (fun c hc m => hd c hc (List.mem_cons_of_mem _ m)) h
theorem cellsFrom_nd : ∀ (names : List (Str × NameKind)) (L : Nat) (acc : List (Str × Addr)), (∀ c ∈ acc, c.2 < L) → (acc.map (·.2)).Nodup → ((cellsFrom L names acc).map (·.2)).Nodup
 | [], _, acc, _, h => h
 | (x, k) :: r, L, acc, hl, h => by
  unfold cellsFrom
  split
  ·refine cellsFrom_nd r _ _ ?_ ?_
   ·intro c hc
    rcases List.mem_cons.mp hc with rfl | hc
    ·exact Nat.lt_succ_self _
    ·exact Nat.lt_succ_of_lt (hl c hc)
   ·rw [List.map_cons, List.nodup_cons]
    refine ⟨fun m => ?_, h⟩
    obtain ⟨c, hc, e⟩ := List.mem_map.mp m
    exact Nat.lt_irrefl _ (e ▸ hl c hc)
  ·exact cellsFrom_nd r _ _ hl h
theorem okC {name : Str} {scope : Scope} {L fa : Addr} {cd : Value} {ns : List Str} (hk : scope.kind = .function) (hn : ns.Nodup) : EnvOk (envOfC name scope L fa cd) ns :=
 ⟨hk, rfl, rfl, hn, cellsFrom_nd _ _ _ (by simp) (by simp)⟩
noncomputable def outV : Flow → Value
 | .ret v => v
 | _ => .none
structure DefAt (C : Cx) (name : Str) (params : Arguments) (body : List Stmt) (scope : Scope) (fa : Addr) (cd : Value) (ps : List Str) : Prop where
 fn : ∃ o nm pm doc, C.base fa o ∧ o.data = .func { docDef name params body scope pm cd doc with name := nm }
 code : ∃ cc oc vs tq, cd = .ref cc ∧ C.base cc oc ∧ oc.data = .fields vs ∧ vs[1]? = some (.str name tq)
 bind : ∀ nm pm doc, ∀ xs : List Value, xs.length = ps.length → bindArgs { docDef name params body scope pm cd doc with name := nm } ⟨xs, []⟩ = pure (ps.zip xs)
 kinds : ∀ x ∈ ps, scope.names.lookup x = some .local ∨ (scope.names.lookup x = some .cell ∧ ∀ L, ((cellsFrom L scope.names []).lookup x).isSome = true)
 names : (scope.names.map (·.1)).Nodup
 co : scope.isCoroutine = false
 gen : scope.isGenerator = false
 kind : scope.kind = .function
section
variable {C : Cx} {n m : Nat} {as as' : List Addr} {h h' : Heap} {a b c d v : V} {f : F}
theorem def_codeF {name : Str} {params : Arguments} {body : List Stmt} {scope : Scope} {fa : Addr} {cd : Value} {ps more : List Str} {args : List V} {hp : List O} (D : DefAt C name params body scope fa cd ps) (hlen : args.length = ps.length) (hnd : (ps ++ more).Nodup)
  {A : Around} {s : Shared} {xs : List Value} {P : Result → Shared → Prop} (R : Room (n + 1) A) (wd : C.Wd s.heap) (hr : HR C as hp s.heap) (hv : VRs as s.heap args xs)
  (go : ∀ A' h₁ tk₁, A' = A.deeper (envOfC name scope s.heap.objs.size fa cd) → Room n A' → Rel C (envOfC name scope s.heap.objs.size fa cd) (ps ++ more) as (σ0 args more.length hp) h₁ → (∀ b o, s.heap.get? b = some o → h₁.get? b = some o) → (∀ c ∈ (envOfC name scope s.heap.objs.size fa cd).cells, s.heap.objs.size < c.2) →
   wpAny (model C.prog C.w) A' (execs body (envOfC name scope s.heap.objs.size fa cd)) (fun fl s' => P (.ok (.ret (outV fl))) s') (fun e s' => wpAny (model C.prog C.w) A' (leaving (envOfC name scope s.heap.objs.size fa cd) e) (fun _ s'' => P (.error e) s'') (fun e' s'' => P (.error e') s'') s') { s with heap := h₁, toks := tk₁ }) :
  codeAny (model C.prog C.w) A (.call (.ref fa) ⟨xs, []⟩) P s := by
 have hxs : xs.length = ps.length := hv.length.trans hlen
 obtain ⟨o, nm, pm, doc, hb, hd⟩ := D.fn
 obtain ⟨cc, oc, vs, tq, hcd, hbc, hdc, hqc⟩ := D.code
 refine codeAny_call_cells (by have := R.2.1; exact tB (tE _ _) ‹_›) (wd.base fa o hb) hd wd.lim ⟨cc, oc, vs, tq, hcd, wd.base cc oc hbc, hdc, hqc⟩ rfl (D.bind nm pm doc xs hxs) rfl (fun x hx => ?_) (fun s₁ F => ?_) D.co D.gen D.kind
 ·rcases D.kinds x.1 (List.of_mem_zip (a := x.1) (b := x.2) hx).1 with k | ⟨k, l⟩
  ·exact .inl k
  ·exact .inr ⟨k, l _⟩
 ·have F' : InCallC s s.heap.objs.size (bindL (envOfC name scope s.heap.objs.size fa cd).kindOf (ps.zip xs) fun _ => none) (cellsFrom (s.heap.objs.size + 1) scope.names []) (bindC (envOfC name scope s.heap.objs.size fa cd).kindOf (ps.zip xs) fun _ => none) s₁ := F
  clear F
  obtain ⟨h₁, tk₁, rfl⟩ := F'.toInCall.same
  have keep := F'.toInCall.keep
  have nsL := F'.toInCall.ns
  dsimp only at keep nsL
  have r0 : Rel C (envOfC name scope s.heap.objs.size fa cd) (ps ++ more) as (σ0 args more.length hp) h₁ := by
   have mv : ∀ {v : V} {x : Value}, VR as s.heap v x → VR as h₁ v x := fun q => VR.keep (fun b o e _ _ => keep b o e) q
   refine ⟨⟨fun a o e => keep _ _ (wd.base a o e), fun a m => let ⟨vs, e⟩ := wd.T a m; ⟨vs, keep _ _ e⟩, C.up s.heap h₁ (fun b o e _ => keep b o e) wd.tabs⟩, ⟨hr.len, hr.nodup, hr.above, hr.pin, fun k o e => ?_⟩, ⟨_, nsL, fun i w e => ?_⟩, fun c hc => ?_, wd.fresh (Nat.le_refl _)⟩
   ·obtain ⟨a, ha, q⟩ := hr.has k o e
    exact ⟨a, ha, OR.keep (fun b o e _ _ => keep b o e) (fun o e => keep a o e) q⟩
   ·have e' : (args.map some ++ List.replicate more.length none)[i]? = some (some w) := e
    by_cases li : i < args.length
    ·rw [List.getElem?_append_left (by rw [List.length_map]; exact li), List.getElem?_map] at e'
     cases ha : args[i]? with
     | none => rw [ha] at e'; cases e'
     | some w' =>
      rw [ha] at e'; cases e'
      obtain ⟨x, hx, qx⟩ := hv.get ha
      have lp : i < ps.length := hlen ▸ li
      have hpi : ps[i]? = some ps[i] := List.getElem?_eq_getElem lp
      refine ⟨ps[i], by rw [List.getElem?_append_left lp]; exact hpi, ?_⟩
      have nd := (List.nodup_append.mp hnd).1
      rcases D.kinds ps[i] (List.getElem_mem lp) with k | ⟨k, l⟩
      ·exact .inl ⟨k, x, bindL_get nd hpi hx k, mv qx⟩
      ·obtain ⟨c, hc⟩ := Option.isSome_iff_exists.mp (l (s.heap.objs.size + 1))
       have kk : (envOfC name scope s.heap.objs.size fa cd).kindOf ps[i] = some .cell := k
       have ic := F'.cell _ _ hc
       rw [bindC_get nd hpi hx (by rw [kk]; decide)] at ic
       exact .inr ⟨.inl k, c, x, hc, ic, mv qx⟩
    ·rw [List.getElem?_append_right (by rw [List.length_map]; exact tH ‹_›)] at e'
     have := List.mem_of_getElem? e'
     have := (List.mem_replicate.mp this).2
     cases this
   ·have hl := cellsFrom_lookup scope.names (s.heap.objs.size + 1) [] D.names (by simp) (by simp) c hc
    refine ⟨wd.fresh (Nat.le_of_lt (F'.above c.1 c.2 hc)), _, F'.cell _ _ hl⟩
  refine wpAny_mono (go (A.deeper _) h₁ tk₁ rfl ⟨R.1, ?_, ?_⟩ r0 keep fun c hc => F'.above c.1 c.2 hc) (fun fl s' h' => ?_) fun _ _ h' => h'
  ·show A.depth + 1 + n < recursionLimit
   have := R.2.1; lia
  ·show A.units + 3 + 20 * n < cLine
   have := R.2.2; lia
  ·cases fl <;> exact h'
theorem def_code {name : Str} {params : Arguments} {body : List Stmt} {scope : Scope} {fa : Addr} {cd : Value} {ps more : List Str} {args : List V} {hp : List O} (D : DefAt C name params body scope fa cd ps) (hlen : args.length = ps.length) (hnd : (ps ++ more).Nodup)
  {A : Around} {s : Shared} {xs : List Value} {P : Result → Shared → Prop} (R : Room (n + 1) A) (wd : C.Wd s.heap) (hr : HR C as hp s.heap) (hv : VRs as s.heap args xs)
  (go : ∀ A' h₁ tk₁, Room n A' → Rel C (envOfC name scope s.heap.objs.size fa cd) (ps ++ more) as (σ0 args more.length hp) h₁ → (∀ b o, s.heap.get? b = some o → h₁.get? b = some o) → (∀ c ∈ (envOfC name scope s.heap.objs.size fa cd).cells, s.heap.objs.size < c.2) →
   wpAny (model C.prog C.w) A' (execs body (envOfC name scope s.heap.objs.size fa cd)) (fun fl s' => P (.ok (.ret (outV fl))) s') (fun e s' => wpAny (model C.prog C.w) A' (leaving (envOfC name scope s.heap.objs.size fa cd) e) (fun _ s'' => P (.error e) s'') (fun e' s'' => P (.error e') s'') s') { s with heap := h₁, toks := tk₁ }) :
  codeAny (model C.prog C.w) A (.call (.ref fa) ⟨xs, []⟩) P s :=
 def_codeF D hlen hnd R wd hr hv fun A' h₁ tk₁ _ => go A' h₁ tk₁
theorem def_enter {name : Str} {params : Arguments} {body : List Stmt} {scope : Scope} {fa : Addr} {cd : Value} {ps more : List Str} {args : List V} {hp : List O} (D : DefAt C name params body scope fa cd ps) (hlen : args.length = ps.length) (hnd : (ps ++ more).Nodup)
  {A : Around} {s : Shared} {xs : List Value} {Q : Value → Shared → Prop} {E : Value → Shared → Prop} (R : Room (n + 1) A) (wd : C.Wd s.heap) (hr : HR C as hp s.heap) (hv : VRs as s.heap args xs)
  (go : ∀ A' h₁ tk₁, Room n A' → Rel C (envOfC name scope s.heap.objs.size fa cd) (ps ++ more) as (σ0 args more.length hp) h₁ → (∀ b o, s.heap.get? b = some o → h₁.get? b = some o) → (∀ c ∈ (envOfC name scope s.heap.objs.size fa cd).cells, s.heap.objs.size < c.2) →
   wpAny (model C.prog C.w) A' (execs body (envOfC name scope s.heap.objs.size fa cd)) (fun fl s' => Q (outV fl) s') (fun e s' => wpAny (model C.prog C.w) A' (leaving (envOfC name scope s.heap.objs.size fa cd) e) (fun _ s'' => E e s'') (fun e' s'' => E e' s'') s') { s with heap := h₁, toks := tk₁ }) :
  wpAny (model C.prog C.w) A (call (.ref fa) xs) Q E s := wpAny_call (def_code D hlen hnd R wd hr hv go)
theorem def_enterF {name : Str} {params : Arguments} {body : List Stmt} {scope : Scope} {fa : Addr} {cd : Value} {ps more : List Str} {args : List V} {hp : List O} (D : DefAt C name params body scope fa cd ps) (hlen : args.length = ps.length) (hnd : (ps ++ more).Nodup)
  {A : Around} {s : Shared} {xs : List Value} {Q : Value → Shared → Prop} {E : Value → Shared → Prop} (R : Room (n + 1) A) (wd : C.Wd s.heap) (hr : HR C as hp s.heap) (hv : VRs as s.heap args xs)
  (go : ∀ A' h₁ tk₁, A' = A.deeper (envOfC name scope s.heap.objs.size fa cd) → Room n A' → Rel C (envOfC name scope s.heap.objs.size fa cd) (ps ++ more) as (σ0 args more.length hp) h₁ → (∀ b o, s.heap.get? b = some o → h₁.get? b = some o) → (∀ c ∈ (envOfC name scope s.heap.objs.size fa cd).cells, s.heap.objs.size < c.2) →
   wpAny (model C.prog C.w) A' (execs body (envOfC name scope s.heap.objs.size fa cd)) (fun fl s' => Q (outV fl) s') (fun e s' => wpAny (model C.prog C.w) A' (leaving (envOfC name scope s.heap.objs.size fa cd) e) (fun _ s'' => E e s'') (fun e' s'' => E e' s'') s') { s with heap := h₁, toks := tk₁ }) :
  wpAny (model C.prog C.w) A (call (.ref fa) xs) Q E s := wpAny_call (def_codeF D hlen hnd R wd hr hv go)
theorem def_core {name : Str} {params : Arguments} {body : List Stmt} {scope : Scope} {fa : Addr} {cd : Value} {ps more : List Str} {args : List V} {hp : List O} {σf : Sg} (D : DefAt C name params body scope fa cd ps) (hlen : args.length = ps.length) (hnd : (ps ++ more).Nodup)
  (ht : ∀ L, TB C n (envOfC name scope L fa cd) (ps ++ more) body (σ0 args more.length hp) f σf) {A : Around} {s : Shared} {xs : List Value} {Q : Value → Shared → Prop} {E : Value → Shared → Prop} (R : Room (n + 1) A) (wd : C.Wd s.heap) (hr : HR C as hp s.heap) (hv : VRs as s.heap args xs)
  (fin : ∀ ex g2 tk y x, HR C (as ++ ex) σf.hp g2 → C.Wd g2 → FR (as ++ ex) g2 f y → outV y = x → (∀ a ∈ ex, s.heap.get? a = none) → (∀ b o, s.heap.get? b = some o → b ∉ as → b ∉ C.T → g2.get? b = some o) → (∀ b o, s.heap.get? b = some o → ∃ o', g2.get? b = some o') → Q x { s with heap := g2, toks := tk }) :
  wpAny (model C.prog C.w) A (call (.ref fa) xs) Q E s :=
 def_enter D hlen hnd R wd hr hv fun A' h₁ tk₁ R' r0 keep ab => by
  refine ht _ A' { s with heap := h₁, toks := tk₁ } as _ _ R' r0 fun as2 g2 t2 y r2 s2 v2 => ?_
  obtain ⟨ex, rfl, fx⟩ := s2.ext
  refine fin ex g2 t2 y _ r2.hr r2.wd v2 rfl (fun a ha => ?_) (fun b o e na nt => ?_) (fun b o e => s2.live b o (keep b o e))
  ·cases z : s.heap.get? a with
   | none => rfl
   | some o => have h1 := keep a o z; have h2 := fx a ha; dsimp only at h2; rw [h1] at h2; cases h2
  ·refine s2.keep b o (keep b o e) (Nat.ne_of_lt (Heap.lt_size e)) (fun z => ?_) na nt
   obtain ⟨c, hc, rfl⟩ := List.mem_map.mp (mem_mc z)
   exact absurd (Heap.lt_size e) (Nat.not_lt.mpr (Nat.le_of_lt (ab c hc)))
noncomputable def s_def (np nm : Nat) (s : SY) : SD := fun args hp => if args.length = np then match s (σ0 args nm hp) with
 | some (f, σf) => leave hp.length f σf
 | none => none
 else none
noncomputable def imm : V → Bool
 | .none | .bool _ | .int _ | .str _ | .byt _ => true
 | _ => false
noncomputable def imz (v : V) : Option V := if imm v then some v else none
noncomputable def lv0 (σ : Sg) (v : V) : Option V := match v with
 | .own k => match σ.hp[k]? with
  | some (.lst vs) => if vs.all imm then some (.lst vs) else none
  | _ => none
 | v => imz v
noncomputable def leave0 (f : F) (σ : Sg) : Option V := (retV f).bind (lv0 σ)
noncomputable def s_pure (np nm : Nat) (s : SY) : SD := fun args hp => if args.length = np then if V.lows 0 args then match s (σ0 args nm []) with
 | some (f, σf) => match leave0 f σf with
  | some v => some (v, hp)
  | none => none
 | none => none
 else none else none
variable {name : Str} {params : Arguments} {body : List Stmt} {scope : Scope} {fa : Addr} {cd : Value} {ps more : List Str}
theorem FR.out {y : Flow} {x : Value} {w : V} (r : FR as h f y) (hx : outV y = x) (hf : retV f = some w) : VR as h w x := by
 cases r with
 | next => cases hf; cases hx; exact .none
 | brk => cases hf
 | ret v x q => cases hf; cases hx; exact q
theorem DefAt.func (D : DefAt C name params body scope fa cd ps) : ∃ o fd, C.base fa o ∧ o.data = .func fd := let ⟨o, nm, pm, doc, hb, hd⟩ := D.fn; ⟨o, _, hb, hd⟩
theorem OR.live {a : Addr} {o : O} (q : OR as h a o) : ∃ o, h.get? a = some o := by
 cases o with
 | lst vs => obtain ⟨_, ⟨o, c, g, _⟩, _⟩ := q; exact ⟨o, g⟩
 | obj => obtain ⟨o, g, _⟩ := q; exact ⟨o, g⟩
theorem frz_ok {w w' : V} {x : Value} {ex : List Addr} (q : VR (as ++ ex) h w x) (hz : frz as.length w = some w') : VR as h w' x := by
 replace hz := if_some hz; obtain ⟨hbl, hz⟩ := hz
 cases hz
 exact VR.shrink q hbl
theorem freeze_ok {σf : Sg} {w w' : V} {x : Value} {ex : List Addr} (hr2 : HR C (as ++ ex) σf.hp h) (q : VR (as ++ ex) h w x) (hz : freeze as.length σf w = some w') : VR as h w' x := by
 cases w with
 | own k =>
  by_cases lk : k < as.length
  ·cases (if_pos lk).symm.trans hz
   exact VR.shrink q (decide_eq_true lk)
  ·replace hz := (if_neg lk).symm.trans hz
   cases hk2 : σf.hp[k]? with
   | none => rw [hk2] at hz; cases hz
   | some o =>
    rw [hk2] at hz
    cases o with
    | obj => cases hz
    | lst vs =>
     replace hz := if_some hz; obtain ⟨hbl, hz⟩ := hz
     cases hz
     obtain ⟨ad, rfl, e1⟩ := q.inv
     obtain ⟨ad', e2, vals, p1, p2⟩ := hr2.has _ _ hk2
     cases Option.some.inj (e1.symm.trans e2)
     refine .lst _ ad vals p1.isList (fun m => ?_) (VRs.shrink p2 hbl)
     have nd := hr2.nodup
     rw [List.getElem?_append_right (by exact tH ‹_›)] at e1
     exact (List.nodup_append.mp nd).2.2 ad m ad (List.mem_of_getElem? e1) rfl
 | _ => exact frz_ok q hz
theorem fs_def {s : SY} (D : DefAt C name params body scope fa cd ps) (hnd : (ps ++ more).Nodup) (ht : ∀ L, CB C n (envOfC name scope L fa cd) (ps ++ more) body s) : FS C (n + 1) fa (s_def ps.length more.length s) := by
 refine ⟨D.func, fun args hp v hp' e => ?_⟩
 replace e := if_some e; obtain ⟨hlen, e⟩ := e
 replace e := EvV_pf e; obtain ⟨f, σf, e1, e⟩ := e
 intro A s as xs Q E R wd hr hv h
 refine def_core D hlen hnd (fun L => (ht L).ok _ _ _ e1) R wd hr hv fun ex g2 tk y x hr2 wd2 fr hx fx kp lv => ?_
 replace e : leave hp.length f σf = some (v, hp') := e
 unfold leave at e
 replace e := EvV_ov e; obtain ⟨w, hf, e⟩ := e
 replace e := EvV_ov e; obtain ⟨w', hz, e⟩ := e
 replace e := if_some e; obtain ⟨ha, e⟩ := e
 cases e
 have el : hp.length = as.length := hr.len.symm
 rw [el] at ha hz
 have hr' := HR.shrink hr2 hr.pin ha
 rw [← el] at hr'
 exact h as g2 tk x wd2 hr' ⟨kp, ⟨[], by simp, by simp⟩, lv⟩ (freeze_ok hr2 (fr.out hx hf) hz)
theorem VR.ofImm {as' : List Addr} {h' : Heap} {x : Value} (r : VR as h v x) (hi : imm v = true) : VR as' h' v x := by
 cases v with
 | none => obtain rfl := r.inv; exact .none
 | bool b => obtain rfl := r.inv; exact .bool _
 | int i => obtain ⟨_, rfl⟩ := r.inv; exact .int _ _
 | str y => obtain ⟨_, rfl⟩ := r.inv; exact .str _ _
 | byt y => obtain ⟨_, rfl, q⟩ := r.inv; exact .byt _ _ q
 | _ => cases hi
theorem VRs.ofImm {as' : List Addr} {h' : Heap} {vs : List V} : ∀ {xs : List Value}, VRs as h vs xs → vs.all imm = true → VRs as' h' vs xs := by
 induction vs with
 | nil => intro _ q _; obtain rfl := q.inv; exact .nil
 | cons v vs ih =>
  intro _ q e
  obtain ⟨x, r, rfl, a, q⟩ := q.inv
  rw [List.all_cons, Bool.and_eq_true] at e
  exact .cons _ _ _ _ (a.ofImm e.1) (ih q e.2)
theorem imz_ok {as' : List Addr} {h' : Heap} {w w' : V} {x : Value} (q : VR as h w x) (hz : imz w = some w') : VR as' h' w' x := by
 replace hz := if_some hz; obtain ⟨hbl, hz⟩ := hz
 cases hz
 exact q.ofImm hbl
theorem leave0_ok {σf : Sg} {w w' : V} {x : Value} {ex : List Addr} {hp : List O} (hr : HR C as hp h) (fx : ∀ a ∈ ex, h.get? a = none) (hr2 : HR C ex σf.hp h') (q : VR ex h' w x) (e2 : lv0 σf w = some w') : VR as h' w' x := by
 cases w with
 | own k =>
  replace e2 : (match σf.hp[k]? with
   | some (.lst vs) => if vs.all imm then some (V.lst vs) else none
   | _ => none) = some w' := e2
  cases hk : σf.hp[k]? with
  | none => rw [hk] at e2; cases e2
  | some o =>
   rw [hk] at e2
   cases o with
   | obj => cases e2
   | lst vs =>
    replace e2 := if_some e2; obtain ⟨hi, e2⟩ := e2
    cases e2
    obtain ⟨ad, rfl, e1⟩ := q.inv
    obtain ⟨ad', e2, vals, p1, p2⟩ := hr2.has _ _ hk
    cases Option.some.inj (e1.symm.trans e2)
    refine .lst _ ad vals p1.isList (fun m => ?_) (p2.ofImm hi)
    have dead := fx ad (List.mem_of_getElem? e1)
    obtain ⟨j, hj⟩ := List.mem_iff_getElem?.mp m
    have lj : j < hp.length := hr.len ▸ (List.getElem?_eq_some_iff.mp hj).1
    obtain ⟨ad2, e3, q3⟩ := hr.has j _ (List.getElem?_eq_getElem lj)
    cases Option.some.inj (hj.symm.trans e3)
    obtain ⟨o, g⟩ := q3.live
    rw [g] at dead; cases dead
 | _ => exact imz_ok q e2
theorem fs_pure {s : SY} (pn : C.pin = []) (D : DefAt C name params body scope fa cd ps) (hnd : (ps ++ more).Nodup) (ht : ∀ L, CB C n (envOfC name scope L fa cd) (ps ++ more) body s) : FS C (n + 1) fa (s_pure ps.length more.length s) := by
 refine ⟨D.func, fun args hp v hp' e => ?_⟩
 replace e := if_some e; obtain ⟨hlen, e⟩ := e
 replace e := if_some e; obtain ⟨hlow, e⟩ := e
 replace e := EvV_pf e; obtain ⟨f, σf, e1, e⟩ := e
 replace e := EvV_ov e; obtain ⟨w, e2, e⟩ := e
 cases e
 intro A s as xs Q E R wd hr hv h
 have hv0 : VRs [] s.heap args xs := VRs.shrink (as := []) (ex := as) (by simpa using hv) (by simpa using hlow)
 have hr0 : HR C [] [] s.heap := ⟨rfl, List.nodup_nil, by simp, by simp [pn], by simp⟩
 refine def_core (hp := []) (as := []) D hlen hnd (fun L => (ht L).ok _ _ _ e1) R wd hr0 hv0 fun ex g2 tk y x hr2 wd2 fr hx fx kp lv => ?_
 have kp' : ∀ b o, s.heap.get? b = some o → b ∉ C.T → g2.get? b = some o := fun b o e t => kp b o e (by simp) t
 have nT : ∀ a ∈ as, a ∉ C.T := fun a m t => hr.above a m (.inr t)
 have nTI : ∀ b o, s.heap.get? b = some o → Imm o → b ∉ C.T := fun b o e i t => by
  obtain ⟨vs, h1⟩ := wd.T b t
  rw [e] at h1; cases h1
  rcases i with ⟨_, _, i⟩ | ⟨i | i, _⟩ <;> cases i
 have hrF : HR C as hp g2 := ⟨hr.len, hr.nodup, hr.above, hr.pin, fun k o e => by
  obtain ⟨a, ha, q⟩ := hr.has k o e
  exact ⟨a, ha, OR.keep (fun b o e _ i => kp' b o e (nTI b o e i)) (fun o e => kp' a o e (nT a (List.mem_of_getElem? ha))) q⟩⟩
 refine h as g2 tk x wd2 hrF ⟨fun b o e _ t => kp' b o e t, ⟨[], by simp, by simp⟩, lv⟩ ?_
 obtain ⟨w', hf, e2⟩ := bnd e2
 exact leave0_ok hr (fun a m => fx a m) hr2 (fr.out hx hf) e2
end
section
variable {prog : Program} {w : World} {A : Around} {E : Value → Shared → Prop} {s : Shared}
open AutoSeq1 (wpAny_loadPart')
open Builtin
theorem wp_arg {α β : Type} {M : Model} {f : β → Sem α} {b : β} {Q : α → Shared → Prop} (h : ∀ b, wpAny M A (f b) Q E s) : wpAny M A (f b) Q E s := h b
set_option maxRecDepth 100000 in
theorem meets_enumerate_newT (l : Addr) (items : Array Value) (n : Nat) (dct : Option Addr) (sl : Array (Option Value)) :
  Meets (Builtin.«enumerate.__new__» ⟨[.type "enumerate", .ref l], []⟩) (fun _ R s => s.heap.get? l = some { cls := .type "tuple", dict := dct, data := .seq items n, slots := sl } ∧
   R (.ok (.ret (.ref (s.heap.push { cls := .type "tuple_iterator", data := .fields #[.ref l, .int 0 0] }).objs.size)))
    { s with heap := (s.heap.push { cls := .type "tuple_iterator", data := .fields #[.ref l, .int 0 0] }).push { cls := .type "enumerate", data := .fields #[.none, .bool false, .ref s.heap.objs.size, rawInt 0, .none, .none] } }) :=
 .of_wp fun prog w A R s h => by
  obtain ⟨hp, g, d, tk, os⟩ := s; obtain ⟨hl, h⟩ := h
  have hsub := sub_enumerate
  have hL : Heap.IsTuple (Shared.heap ⟨hp, g, d, tk, os⟩) l items := ⟨_, hl, rfl, n, rfl⟩
  wp_walk using wpAny_loadPart' hl
  refine wpAny_stack_any fun st => wpAny_pure ?_
  refine wp_arg fun b => ?_
  cases b
  ·wp_walk using wpAny_loadPart' hl, wpAny_pyIter_tuple hL
   exact ⟨_, rfl, h⟩
  ·wp_walk using wpAny_loadPart' hl, wpAny_pyIter_tuple hL
   exact ⟨_, rfl, h⟩
theorem call_enumerate_tuple {l : Addr} {items : Array Value} {Q : Value → Shared → Prop} (hL : s.heap.IsTuple l items)
  (h : ∀ h', IsEnum h' (s.heap.objs.size + 1) s.heap.objs.size 0 .none → h'.IsTupleIter s.heap.objs.size l 0 → h'.objs.size = s.heap.objs.size + 2 →
   (∀ b o, s.heap.get? b = some o → h'.get? b = some o) → Q (.ref (s.heap.objs.size + 1)) { s with heap := h' }) :
  wpAny (model prog w) A (call (.type "enumerate") [.ref l]) Q E s := by
 obtain ⟨⟨c, dct, dt, sl⟩, hl, hc, n, hd⟩ := hL
 replace hc : c = .type "tuple" := hc
 replace hd : dt = .seq items n := hd
 subst hc hd
 refine callType_new F.called_enumerate (by decide) (F.typeCall_enumerate_1 _) (F.newCall_enumerate_1 _) (fun obj => F.args_object_init_2 obj _) F.entry_enumerate_new
  (meets_enumerate_newT l items n dct sl) ⟨hl, ?_⟩
 have hz : (s.heap.push { cls := .type "tuple_iterator", data := .fields #[.ref l, .int 0 0] }).objs.size = s.heap.objs.size + 1 := Heap.size_push ..
 show _ ∧ _
 rw [hz]
 have he : IsEnum ((s.heap.push { cls := .type "tuple_iterator", data := .fields #[.ref l, .int 0 0] }).push
   { cls := .type "enumerate", data := .fields #[.none, .bool false, .ref s.heap.objs.size, rawInt 0, .none, .none] }) (s.heap.objs.size + 1) s.heap.objs.size 0 .none := by
  have := Heap.get?_push_size (s.heap.push { cls := .type "tuple_iterator", data := .fields #[.ref l, .int 0 0] })
   (o := { cls := .type "enumerate", data := .fields #[.none, .bool false, .ref s.heap.objs.size, rawInt 0, .none, .none] }) rfl
  rw [hz] at this; exact this
 refine ⟨⟨_, he, rfl⟩, h _ he ⟨_, Heap.get?_push_of_some _ (Heap.get?_push_size _ rfl), rfl, rfl⟩ (by rw [Heap.size_push, hz]) fun b o x => Heap.get?_push_of_some _ (Heap.get?_push_of_some _ x)⟩
theorem wpAny_nextOf_tuple_item {it l : Addr} {i : Nat} {items : Array Value} {x : Value} {Q : Value → Shared → Prop} (hit : s.heap.IsTupleIter it l i)
  (hl : s.heap.IsTuple l items) (hx : items[i]? = some x)
  (hQ : ∀ h', h'.IsTupleIter it l (i + 1) → Heap.SameBut it s.heap h' → Q x { s with heap := h' }) :
  wpAny (model prog w) A (Builtin.SmallTypes.nextOf (.ref it)) Q E s := by
 obtain ⟨o, ho, hc, hd⟩ := id hit
 obtain ⟨ol, hol, _, nl, hdl⟩ := hl
 unfold Builtin.SmallTypes.nextOf
 refine wpAny_bind (wpAny_callSpecial?_slot (name := Str.ofString "__next__") hit.typeIs PySem.F.slot_tuple_iterator_next
  (wpAny_call_entry PySem.F.slot_tuple_iterator_next hit.typeIs PySem.F.entry_tuple_iterator_next ?_ (PySem.F.args_tuple_iterator_next_1 _)))
 show wpAny _ _ (field (.ref it) 0 >>= _) _ _ s
 refine wpAny_bind (wpAny_field ho hd (x := .ref l) rfl ?_)
 show wpAny _ _ (if (Value.ref l == Value.none) = true then _ else _) _ _ s
 rw [if_neg (show ¬ ((Value.ref l == Value.none) = true) from Bool.false_ne_true)]
 show wpAny _ _ (field (.ref it) 1 >>= _) _ _ s
 refine wpAny_bind (wpAny_field ho hd (x := .int i 0) rfl ?_)
 show wpAny _ _ (seqItems? (.ref l) >>= _) _ _ s
 refine wpAny_bind (wpAny_seqItems hol hdl ?_)
 simp only [Int.toNat_natCast, hx]
 refine wpAny_bind (wpAny_setField ho hd (by simp) (wpAny_pure ⟨x, rfl, wpAny_pure (hQ _ ?_ (Heap.SameBut.update ..))⟩))
 exact ⟨_, Heap.get?_update_self _ ho (Obj.isFreed_of_fields (Obj.data_mapFields hd _)), (Obj.cls_mapFields ..).trans hc, by
  rw [Obj.data_mapFields hd]; simp [rawInt]⟩
theorem wpAny_nextOf_tuple_end {it l : Addr} {i : Nat} {items : Array Value} {Q : Value → Shared → Prop} (hh : A.handled = none)
  (hit : s.heap.IsTupleIter it l i) (hl : s.heap.IsTuple l items) (hx : items[i]? = none)
  (hE : ∀ h' e, Heap.ExtBut it s.heap h' → (∃ o, h'.get? e = some o ∧ o.cls = .type "StopIteration") → E (.ref e) { s with heap := h' }) :
  wpAny (model prog w) A (Builtin.SmallTypes.nextOf (.ref it)) Q E s := by
 obtain ⟨o, ho, hc, hd⟩ := id hit
 obtain ⟨ol, hol, _, nl, hdl⟩ := hl
 unfold Builtin.SmallTypes.nextOf
 refine wpAny_bind (wpAny_callSpecial?_slot (name := Str.ofString "__next__") hit.typeIs PySem.F.slot_tuple_iterator_next
  (wpAny_call_entry PySem.F.slot_tuple_iterator_next hit.typeIs PySem.F.entry_tuple_iterator_next ?_ (PySem.F.args_tuple_iterator_next_1 _)))
 show wpAny _ _ (field (.ref it) 0 >>= _) _ _ s
 refine wpAny_bind (wpAny_field ho hd (x := .ref l) rfl ?_)
 show wpAny _ _ (if (Value.ref l == Value.none) = true then _ else _) _ _ s
 rw [if_neg (show ¬ ((Value.ref l == Value.none) = true) from Bool.false_ne_true)]
 show wpAny _ _ (field (.ref it) 1 >>= _) _ _ s
 refine wpAny_bind (wpAny_field ho hd (x := .int i 0) rfl ?_)
 show wpAny _ _ (seqItems? (.ref l) >>= _) _ _ s
 refine wpAny_bind (wpAny_seqItems hol hdl ?_)
 simp only [Int.toNat_natCast, hx]
 refine wpAny_bind (wpAny_rule (wpAny_bind (wpAny_setField ho hd (by simp) ?_)))
 show wpAny _ _ (newExc (.type "StopIteration") [] >>= _) _ _ _
 refine wpAny_bind ?_
 simp only [newExc, newTuple]
 refine wpAny_bind (wpAny_newObj_type ?_ (by size_fits))
 refine wpAny_bind (m := firstArgMember _ _) (wpAny_of_eq (a := Value.none) (by first | rfl | (simp only [firstArgMember]; rfl)) ?_)
 refine wpAny_newObj_type ?_ (by size_fits)
 unfold raiseNew
 refine wpAny_bind (wpAny_handled ?_)
 first | rw [show A.in1.handled = none from hh] | rw [hh]
 refine wpAny_bind (wpAny_pure (wpAny_throw ?_))
 exact hE _ _ (((Heap.SameBut.update ..).extBut.push _).push _) ⟨_, Heap.get?_push_size _ rfl, rfl⟩
theorem Draws_tuple {prog : Program} {w : World} {A : Around} (hh : A.handled = none) (it l : Addr) (hne : l ≠ it) (items : Array Value) :
  Draws prog w A it [it, l] items.size (fun i v => items[i]? = some v) (fun i h => h.IsTupleIter it l i ∧ h.IsTuple l items) where
 live := fun _ _ st => let ⟨o, ho, _⟩ := st.1; ⟨o, ho⟩
 frame := fun _ _ _ st hk => ⟨let ⟨o, ho, r⟩ := st.1; ⟨o, hk it (by simp) o ho, r⟩, let ⟨o, ho, r⟩ := st.2; ⟨o, hk l (by simp) o ho, r⟩⟩
 item := fun i s Q E hi st hQ => by
  refine wpAny_nextOf_tuple_item st.1 st.2 (x := items[i]) (by simp [hi]) fun h' hit' hs' => ?_
  exact hQ _ h' s.toks (by simp [hi]) ⟨hit', st.2.extBut hs'.extBut hne⟩ hs'
 done := fun s Q E st hE => wpAny_nextOf_tuple_end hh st.1 st.2 (by simp) hE
end
section
variable {C : Cx} {n m : Nat} {env : Env} {ns : List Str} {σ σ' σ₁ σ₂ σ₃ σ₄ : Sg} {as as' : List Addr} {h h' : Heap} {a b c d v : V} {f : F}
inductive EnI (C : Cx) (env : Env) (ns : List Str) (as1 : List Addr) (g1 : Heap) (B l : Addr) (vs : List V) (vals : List Value) (s : Shared) (I : Nat → Sg → Prop) (j : Nat) : Shared → Prop
 | mk (as' : List Addr) (h' : Heap) (tk : Nat) (σ' : Sg) (i : Nat) (old : Value) : j + i = vs.length + 1 → i ≤ vs.length → I i σ' → Rel C env ns as' σ' h' → Step C env as1 g1 as' h' → ItAt C as' h' B (B + 1) → ItAt C as' h' B B → IsEnum h' (B + 1) B (i : Nat) old → h'.IsTupleIter B l i → h'.IsTuple l vals.toArray → VRs as' h' vs vals → l ∉ as' → EnI C env ns as1 g1 B l vs vals s I j { s with heap := h', toks := tk }
theorem tx_enum {fe arg : Expr} {elts : List Expr} {k : Nat} {tp cp pos : Pos} {body orelse : List Stmt} {vs : List V} {σf : Sg} (I : Nat → Sg → Prop) (hn : notStar arg = true) (h0 : TE C n env ns fe σ (.raw (.type "enumerate")) σ) (h1 : TE C n env ns arg σ (.tup vs) σ₁)
  (he : eval (.Call fe [arg] [] cp) env = (do callWith cp (← eval fe env) [] (backTo cp (starEach [arg] env)) (backToKw cp (keywordEach [] env))))
  (turn : ∀ i v σ, vs[i]? = some v → I i σ → ∃ σ1, TA C n env ns (.Tuple elts k tp) (.tup [.int i, v]) σ σ1 ∧
   ((∃ σ2, TB C n env ns body σ1 .next σ2 ∧ I (i + 1) σ2) ∨ (TB C n env ns body σ1 .brk σf ∧ f = .next) ∨ ∃ v, TB C n env ns body σ1 (.ret v) σf ∧ f = .ret v))
  (last : ∀ σ, I vs.length σ → TB C n env ns orelse σ f σf) (hI : I 0 σ₁) :
  TX C n env ns (.For (.Tuple elts k tp) (.Call fe [arg] [] cp) body orelse pos) σ f σf := fun A s as Q E R r hq => by
 refine wpAny_For (Call_ (h0 A s as _ E R r fun as0 g0 t0 x0 r0 s0 v0 => ?_) he) (fun x => rfl)
 obtain rfl := v0.inv
 refine PyProof.Rows.callWith_type1 (args_cons (h1 A _ as0 _ _ R r0 fun as1 g1 t1 x r1 s1 v1 => args_nil ?_) (starEach_cons hn)) (starEach_cons hn) rfl
 obtain ⟨l, vals, rfl, q1, q2, q3⟩ := v1.inv
 have q1' : g1.IsTuple l vals.toArray := q1
 refine call_enumerate_tuple (s := { s with heap := g1, toks := t1 }) q1' fun g2 e2 it2 z2 k2 => ?_
 dsimp only at e2 it2 z2 k2
 refine wpAny_pyIter_enum e2 ?_
 have r2 := r1.grow k2
 have lt1 : l < g1.objs.size := by obtain ⟨o, ho, _⟩ := q1; exact Heap.lt_size ho
 have E2 : ItAt C as1 g2 g1.objs.size (g1.objs.size + 1) := ⟨Nat.le_succ _, fun b l => r1.wd.fresh l, fun m => absurd (r1.alive m) (Nat.not_lt.mpr (Nat.le_succ _)), _, _, e2, rfl, by simp, by simp, by simp⟩
 have T2 : ItAt C as1 g2 g1.objs.size g1.objs.size := by
  obtain ⟨o, ho, hc, hd⟩ := it2
  exact ⟨Nat.le_refl _, fun b l => r1.wd.fresh l, fun m => Nat.lt_irrefl _ (r1.alive m), o, _, ho, hd, by rw [hc]; simp, by rw [hc]; decide, by rw [hc]; decide, by rw [hc]; decide⟩
 have tab : l ∉ C.T ∧ l ≠ env.locals ∧ l ∉ mcells env := by
  obtain ⟨o, ho, hc, nn, hd⟩ := q1
  obtain ⟨a1, a2, a3⟩ := r1.apart ho (.inl ⟨_, _, hd⟩)
  exact ⟨a3, a1, fun z => a2 (mem_mc z)⟩
 have fr : ∀ a ∈ as1, a < g1.objs.size := fun a m => r1.alive m
 obtain ⟨B, hBe⟩ : ∃ B, B = g1.objs.size := ⟨_, rfl⟩
 show codeAny _ _ (.forLoop _ (.ref (g1.objs.size + 1)) _ _ _) _ _
 rw [← hBe] at E2 T2 e2 it2 lt1 ⊢
 refine codeAny_forLoop_any (EnI C env ns as1 g1 B l vs vals s I) ?_ (vs.length + 1)
  (.mk as1 g2 t1 σ₁ 0 _ rfl (Nat.zero_le _) hI r2 (Step.growing k2) E2 T2 e2 it2 (let ⟨o, ho, r⟩ := q1'; ⟨o, k2 _ _ ho, r⟩) (r1.moves (Step.growing k2) q3) q2)
 rintro j _ ⟨as3, h3, t3, σ3, i, old, hj, hi, hI3, r3, s3, E3, T3, e3, it3, l3, w3, nl⟩
 refine hide _ fun G hG => ?_
 have D := Draws_tuple (prog := C.prog) (w := C.w) (A := A.in1) (show A.in1.handled = none from R.1) B l (Nat.ne_of_lt lt1) vals.toArray
 have priv : ∀ b, b = B + 1 ∨ b = B → ¬ C.Old b ∧ b ≠ env.locals ∧ b ∉ env.cells.map (·.2) ∧ b ∉ as3 ∧ ∀ o, h3.get? b = some o → ¬ Imm o ∧ ¬ Tabby o := fun b z => z.elim (E3.priv r3 b) (T3.priv r3 b)
 have len := w3.length
 cases hv : vs[i]? with
 | none =>
  have ei : i = vs.length := Nat.le_antisymm hi (List.getElem?_eq_none_iff.mp hv)
  subst ei
  refine hG (wpAny_pyNext_enum_endD D e3 (by rw [List.size_toArray, len]; exact ⟨it3, l3⟩) fun g4 x4 => ?_)
  replace x4 : Heap.ExtBut B h3 g4 := x4
  have r4 : Rel C env ns as3 σ3 g4 := T3.rel r3 x4
  have k4 : ∀ b o, b < g1.objs.size → h3.get? b = some o → g4.get? b = some o := fun b o l e => x4 b o (fun z => Nat.lt_irrefl _ (hBe ▸ z ▸ l)) e
  exact last σ3 hI3 A _ as3 _ _ R r4 fun as5 g5 t5 y r5 s5 v5 => hq as5 g5 t5 y r5 (s0.trans (s1.trans ((s3.tail k4).trans s5))) v5
 | some v =>
  have lt : i < vs.length := (List.getElem?_eq_some_iff.mp hv).1
  obtain ⟨x, hx, qx⟩ := w3.get hv
  refine hG (wpAny_pyNext_enum_itemD D e3 ⟨it3, l3⟩ (by rw [List.size_toArray, len]; exact lt) (Nat.succ_ne_self B) (fun m => (List.mem_cons.mp m).elim (Nat.succ_ne_self _) fun m => absurd (List.mem_singleton.mp m) (Nat.ne_of_gt (Nat.lt_succ_of_lt lt1))) fun y g4 t4 hy e4 st4 tup4 z4 k4 => ?_)
  dsimp only at tup4 z4 k4 e4
  have exy : y = x := by
   have : vals.toArray[i]? = some y := hy
   rw [List.getElem?_toArray, hx] at this
   cases this; rfl
  subst exy
  refine wpAny_letOwnedTupleGo_enum e4 fun g5 e5 s5 => ?_
  replace s5 : Heap.SameBut (B + 1) g4 g5 := s5
  have gr : ∀ b o, ¬ (b = B + 1 ∨ b = B) → h3.get? b = some o → g5.get? b = some o := fun b o n e => s5.extBut b o (fun z => n (.inl z)) (k4 b o (fun z => n (.inl z)) (fun z => n (.inr z)) e)
  have r5 : Rel C env ns as3 σ3 g5 := r3.other gr priv
  have kI : ∀ b o, h3.get? b = some o → b ∉ as3 → Imm o → g5.get? b = some o := fun b o e _ im => gr b o (fun z => ((priv b z).2.2.2.2 o e).1 im) e
  have szT : B + 1 < h3.objs.size := Heap.lt_size e3
  have nT : h3.objs.size ≠ B + 1 := Nat.ne_of_gt szT
  have T5 : IsTup g5 h3.objs.size #[.int i t4, y] := ⟨_, s5.extBut _ _ nT tup4, rfl, 0, rfl⟩
  have vT : VR as3 g5 (.tup [.int i, v]) (.ref h3.objs.size) := .tup _ _ [.int i t4, y] T5 (fun m => Nat.lt_irrefl _ (r3.alive m)) (.cons _ _ _ _ (.int _ _) (.cons _ _ _ _ (VR.keep kI qx) .nil))
  have k5 : ∀ b o, b < g1.objs.size → h3.get? b = some o → g5.get? b = some o := fun b o l e => gr b o (fun z => by
   rcases z with z | z
   ·rw [z, ← hBe] at l; exact absurd l (Nat.not_lt.mpr (Nat.le_succ _))
   ·rw [z, ← hBe] at l; exact Nat.lt_irrefl _ l) e
  have E5 : ItAt C as3 g5 B (B + 1) := E3.again e5 rfl (by simp) (by simp) (by simp)
  have neT : B ≠ B + 1 := Nat.ne_of_lt (Nat.lt_succ_self _)
  have it5 : g5.IsTupleIter B l (i + 1) := st4.1.extBut s5.extBut neT
  have T5' : ItAt C as3 g5 B B := by
   obtain ⟨o, ho, hc, hd⟩ := id it5
   exact T3.again ho hd (by rw [hc]; simp) (by rw [hc]; simp) (by rw [hc]; simp)
  have l5 : g5.IsTuple l vals.toArray := st4.2.extBut s5.extBut (Nat.ne_of_lt (Nat.lt_succ_of_lt lt1))
  have w5 : VRs as3 g5 vs vals := VRs.keep kI w3
  obtain ⟨σ6, ha, hb⟩ := turn i v σ3 hv hI3
  refine ha A { s with heap := g5, toks := t4 + 1 } as3 _ _ _ R r5 vT fun as6 g6 t6 r6 s6 => ?_
  have after : ∀ {as9 : List Addr} {g9 : Heap} {σ9 : Sg}, Rel C env ns as9 σ9 g9 → Step C env as3 g5 as9 g9 → I (i + 1) σ9 → ∀ t9,
    ∃ m, m < j ∧ EnI C env ns as1 g1 B l vs vals s I m { s with heap := g9, toks := t9 } := by
   intro as9 g9 σ9 r9 s9 hI9 t9
   obtain ⟨E9, kE⟩ := E5.step r5 s9
   obtain ⟨T9, kT⟩ := T5'.step r5 s9
   have e9 := kE _ e5
   obtain ⟨oi, hoi, ri⟩ := it5
   obtain ⟨ol, hol, hcl, nn, hdl⟩ := l5
   refine ⟨j - 1, by lia, .mk as9 g9 t9 σ9 (i + 1) y (by lia) lt hI9 r9 ((s3.tail k5).trans s9) E9 T9 ?_ ⟨oi, kT _ hoi, ri⟩ ⟨ol, s9.keep l ol hol tab.2.1 tab.2.2 nl tab.1, hcl, nn, hdl⟩ (r5.moves s9 w5) fun m => ?_⟩
   ·have : ((i + 1 : Nat) : Int) = (i : Int) + 1 := by push_cast; rfl
    rw [this]; exact e9
   ·obtain ⟨ex, rfl, fx⟩ := s9.ext
    rcases List.mem_append.mp m with m | m
    ·exact nl m
    ·have := fx l m; rw [hol] at this; cases this
  rcases hb with ⟨σ7, hb, hm⟩ | ⟨hb, hf⟩ | ⟨v, hb, hf⟩
  ·refine hb A _ as6 _ _ R r6 fun as7 g7 t7 z r7 s7 v7 => ?_
   obtain rfl := v7.inv
   exact after r7 (s6.trans s7) hm t7
  ·refine hb A _ as6 _ _ R r6 fun as7 g7 t7 z r7 s7 v7 => ?_
   obtain rfl := v7.inv
   subst hf
   exact hq as7 g7 t7 _ r7 (s0.trans (s1.trans ((s3.tail k5).trans (s6.trans s7)))) .next
  ·refine hb A _ as6 _ _ R r6 fun as7 g7 t7 z r7 s7 v7 => ?_
   obtain ⟨x, rfl, q⟩ := v7.inv
   subst hf
   exact hq as7 g7 t7 _ r7 (s0.trans (s1.trans ((s3.tail k5).trans (s6.trans s7)))) (.ret _ _ q)
end
noncomputable def enL (g : SA) (b o : SY) : List V → Nat → SY
 | [], _ => o
 | v :: vs, i => fun σ => match g (.tup [.int i, v]) σ with
  | some σ₁ => match b σ₁ with
   | some (.next, σ₂) => enL g b o vs (i + 1) σ₂
   | some (.brk, σ₂) => some (.next, σ₂)
   | r => r
  | none => none
noncomputable def y_enum (g : SA) (x : SE) (b o : SY) : SY := fun σ => match x σ with
 | some (.tup vs, σ₁) => enL g b o vs 0 σ₁
 | _ => none
theorem cy_enum {C : Cx} {n : Nat} {env : Env} {ns : List Str} {x : Str} {arg : Expr} {elts : List Expr} {k : Nat} {p tp cp pos : Pos} {body orelse : List Stmt} {g : SA} {s : SE} {b o : SY} (hn : notStar arg = true) (h0 : CE C n env ns (.Name x p) (s_c (.raw (.type "enumerate")))) (h1 : CE C n env ns arg s) (h2 : CG C n env ns (.Tuple elts k tp) g) (h3 : CB C n env ns body b) (h4 : CB C n env ns orelse o) :
  CY C n env ns (.For (.Tuple elts k tp) (.Call (.Name x p) [arg] [] cp) body orelse pos) (y_enum g s b o) := .mk fun σ f σ' h => by
 unfold y_enum at h
 split at h
 ·rename_i vs σ₁ e1
  refine tx_enum (fun i σ => enL g b o (vs.drop i) i σ = some (f, σ')) hn (h0.ok _ _ _ rfl) (h1.ok _ _ _ e1) rfl (fun i v σ hv hk => ?_) (fun σ hk => ?_) h
  ·have hd : vs.drop i = v :: vs.drop (i + 1) := by
    obtain ⟨lt, e⟩ := List.getElem?_eq_some_iff.mp hv
    rw [List.drop_eq_getElem_cons lt, e]
   rw [hd] at hk
   unfold enL at hk
   split at hk
   ·rename_i σ₃ e4
    refine ⟨σ₃, h2.ok _ _ _ e4, ?_⟩
    split at hk
    ·rename_i σ₂ e2
     exact .inl ⟨σ₂, h3.ok _ _ _ e2, hk⟩
    ·rename_i σ₂ e2
     cases hk
     exact .inr (.inl ⟨h3.ok _ _ _ e2, rfl⟩)
    ·rename_i e2 e3
     cases f with
     | next => exact absurd hk (e2 _)
     | brk => exact absurd hk (e3 _)
     | ret v => exact .inr (.inr ⟨v, h3.ok _ _ _ hk, rfl⟩)
   ·cases hk
  ·rw [List.drop_length] at hk
   exact h4.ok _ _ _ hk
 ·cases h
open Builtin Builtin.ObjectAttr
set_option maxRecDepth 100000
theorem md_get : typeLookup (.type "method_descriptor") (Str.ofString "__get__") = pure (some (.builtin "method_descriptor.__get__")) := by rw [typeLookup_type, builtinLookup_eq_fast]; kernel_rfl
theorem md_set : typeLookup (.type "method_descriptor") (Str.ofString "__set__") = pure none := by rw [typeLookup_type, builtinLookup_eq_fast]; kernel_rfl
theorem md_del : typeLookup (.type "method_descriptor") (Str.ofString "__delete__") = pure none := by rw [typeLookup_type, builtinLookup_eq_fast]; kernel_rfl
theorem md_kind : builtinKind "list.append" = some .method := by decide +kernel
theorem md_slot : Slot "method_descriptor" "__get__" "method_descriptor.__get__" :=
 .of (owner := "method_descriptor") (n := "__get__") md_get (by decide +kernel) (by decide +kernel) (by decide +kernel)
  (by first | exact .inl (by decide +kernel) | exact .inr (by decide +kernel)) (by rw [isSubtype_type]; kernel_rfl)
theorem md_entry : entryFor table "method_descriptor.__get__" = some Builtin.«method_descriptor.__get__» := entryFor_of_tree (by kernel_rfl)
theorem md_args (a b c : Value) : argsOk "method_descriptor.__get__" ⟨[a, b, c], []⟩ := by unfold argsOk; kernel_rfl
section
variable {prog : Program} {w : World} {A : Around} {E : Value → Shared → Prop} {s : Shared}
theorem call_md_get {a : Addr} {Q : Value → Shared → Prop} (hT : s.TypeIs (.ref a) "list") (h : Q (.ref s.heap.objs.size) { s with heap := s.heap.push { cls := .type "builtin_function_or_method", data := .fields #[.builtin "list.append", .ref a] } }) :
  wpAny (model prog w) A (call (.builtin "method_descriptor.__get__") [.builtin "list.append", .ref a, .type "list"]) Q E s := by
 refine wpAny_call_entry md_slot (T := "method_descriptor") ?_ md_entry ?_ (md_args _ _ _)
 ·exact PySem.F.type_list_append
 ·unfold Builtin.«method_descriptor.__get__»
  refine wpAny_bind (wpAny_of_eq (a := (.builtin "list.append", some (.ref a), some (.type "list"))) rfl ?_)
  dsimp only
  rw [if_neg (by decide +kernel)]
  show wpAny _ _ (_ >>= _) _ _ _
  refine wpAny_bind ?_
  show wpAny _ _ (_ >>= _) _ _ _
  refine wpAny_bind (wpAny_of_eq (a := (Str.ofString "append", .type "list")) (by first | rfl | kernel_rfl) ?_)
  dsimp only
  refine wpAny_bind (wpAny_isInstance (T := "list") (b := true) hT (by rw [isSubtype_type]; kernel_rfl) ?_)
  refine wpAny_pure ?_
  show wpAny _ _ (_ >>= _) _ _ _
  refine wpAny_bind (wpAny_newObj_type ?_ (by size_fits))
  exact wpAny_pure ⟨_, rfl, h⟩
end
theorem find_append {prog : Program} {w : World} {A : Around} {E : Value → Shared → Prop} {s : Shared} {a : Addr} {xs : Array Value} {k : Nat} {sl : Array (Option Value)} {Q : Found → Shared → Prop} (hx : s.heap.get? a = some { cls := .type "list", dict := none, data := .seq xs k, slots := sl })
  (h : Q (.bind (.builtin "method_descriptor.__get__") (.builtin "list.append")) s) : wpAny (model prog w) A (find (.ref a) (.type "list") (Str.ofString "append")) Q E s := by
 obtain ⟨hp, g, d, tk, os⟩ := s
 unfold Builtin.ObjectAttr.find
 refine wpAny_bind (wpAny_of_eq PySem.F.slot_list_append.lookup (wpAny_bind ?_))
 show wpAny _ _ (specialOf (.builtin "list.append") (Str.ofString "__get__")) _ _ _
 refine wpAny_specialOf (T := "method_descriptor") PySem.F.type_list_append md_get (wpAny_bind ?_)
 show wpAny _ _ (takesStores (.builtin "list.append") >>= _) _ _ _
 refine wpAny_bind ?_
 unfold Builtin.ObjectAttr.takesStores
 refine wpAny_bind (wpAny_specialOf (T := "method_descriptor") PySem.F.type_list_append md_set ?_)
 refine wpAny_bind (wpAny_specialOf (T := "method_descriptor") PySem.F.type_list_append md_del ?_)
 refine wpAny_pure ?_
 refine wpAny_pure ?_
 show wpAny _ _ (ownThenClass _ _ _ _) _ _ _
 unfold Builtin.ObjectAttr.ownThenClass
 have l1 := PySem.F.slot_list_append.lookup
 refine wpAny_bind ?_
 ·unfold Builtin.ObjectAttr.inOwnDict Builtin.ObjectAttr.ownDict
  refine wpAny_bind (wpAny_bind (wpAny_loadPart hx ?_))
  show wpAny _ _ (instanceDict a false) _ _ _
  unfold instanceDict
  refine wpAny_bind (wpAny_loadPart hx ?_)
  refine wpAny_pure ?_
  refine wpAny_pure ?_
  show wpAny _ _ (copiedAttributeGuard (Str.ofString "append") (Value.ref a) >>= _) _ _ _
  refine wpAny_bind ?_
  unfold Builtin.ObjectAttr.copiedAttributeGuard
  dsimp only
  rw [if_neg (show ¬ ((["__module__", "__name__", "__qualname__", "__doc__", "__annotations__"] : List Str).contains (Str.ofString "append") = true) from by decide +kernel)]
  refine wpAny_pure ?_
  unfold Builtin.ObjectAttr.byTheClass
  exact wpAny_bind (wpAny_rule (wpAny_pure h))
theorem meets_append (a : Addr) (xs : Array Value) (k : Nat) (sl : Array (Option Value)) (u : Tok) :
  Meets (Builtin.«object.__getattribute__» ⟨[.ref a, .str (Str.ofString "append") u], []⟩) (fun A R s => s.heap.get? a = some { cls := .type "list", dict := none, data := .seq xs k, slots := sl } ∧
   R (.ok (.ret (.ref s.heap.objs.size))) { s with heap := s.heap.push { cls := .type "builtin_function_or_method", data := .fields #[.builtin "list.append", .ref a] } }) :=
 Meets.of_wp fun prog w A R s hs => by
  obtain ⟨hp, g, d, tk, os⟩ := s
  obtain ⟨hx, hs⟩ := hs
  have hT : (⟨hp, g, d, tk, os⟩ : Shared).TypeIs (.ref a) "list" := ⟨_, hx, rfl⟩
  unfold Builtin.«object.__getattribute__»
  refine wpAny_bind (wpAny_of_eq (a := (.ref a, [.str (Str.ofString "append") u])) (by first | rfl | kernel_rfl) ?_)
  dsimp only
  refine wpAny_bind (wpAny_of_eq (a := Str.ofString "append") (by first | rfl | kernel_rfl) ?_)
  refine wpAny_bind (wpAny_typeOf hT ?_)
  refine wpAny_bind (find_append hx ?_)
  dsimp only
  unfold Builtin.ObjectAttr.bindTo
  dsimp only
  refine wpAny_bind (wpAny_holding (call_md_get hT ?_))
  exact wpAny_pure ⟨_, rfl, hs⟩
theorem getAttr_append {prog : Program} {w : World} {A : Around} {E : Value → Shared → Prop} {s : Shared} {a : Addr} {o : Obj} {xs : Array Value} {k : Nat} {Q : Value → Shared → Prop}
  (hx : s.heap.get? a = some o) (hc : o.cls = .type "list") (hdat : o.data = .seq xs k) (hd : o.dict = none)
  (h : ∀ tk, Q (.ref s.heap.objs.size) { s with heap := s.heap.push { cls := .type "builtin_function_or_method", data := .fields #[.builtin "list.append", .ref a] }, toks := tk }) :
  wpAny (model prog w) A (getAttr (.ref a) (Str.ofString "append") true) Q E s := by
 obtain ⟨c, dct, dat, sl⟩ := o
 simp only at hc hdat hd
 subst hc hdat hd
 obtain ⟨hp, g, d, tk, os⟩ := s
 have hT : ∀ tk', (⟨hp, g, d, tk', os⟩ : Shared).TypeIs (.ref a) "list" := fun _ => ⟨_, hx, rfl⟩
 have f3 := PySem.F.slot_list_getattribute.lookup
 have f4 := PySem.F.slot_list_getattribute.bind (.ref a)
 have f5 := am_list_getattr_none
 unfold getAttr getAttrBy
 repeat (any_goals (first | assumption | exact hT _ | ((with_reducible show wpAny _ _ (call (Value.builtin "list.__getattribute__") _ _) _ _ _); refine call_meets PySem.F.slot_list_getattribute (hT _) am_entry_list_getattribute (PySem.F.args_list_getattribute_2 _ _) (meets_append a xs k sl _) ⟨hx, ?_⟩) | wp_step))
 show wpAny _ _ (handedOut (.ref hp.objs.size)) _ _ _
 exact wpAny_pure (h (tk + 1))
section
variable {prog : Program} {w : World} {A : Around} {E : Value → Shared → Prop} {s : Shared}
theorem sig_some : (Manifest.signature? "list.append").isSome = true := by decide +kernel
noncomputable def sigA : Manifest.Signature := (Manifest.signature? "list.append").get sig_some
theorem sig_append : Manifest.signature? "list.append" = some sigA := (Option.some_get sig_some).symm
theorem check_append {l : Addr} {x : Value} : Bind.checkArgs "list.append" { sigA with full := s!"{Bind.lastOf "list"}.{Bind.lastOf "list.append"}" } ⟨[.ref l, x], []⟩ = pure () := by kernel_rfl
theorem bound_check {l : Addr} {its : Array Value} {x : Value} {Q : Unit → Shared → Prop} (hl : PlainL s.heap l its) (h : Q () s) : wpAny (model prog w) A (checkBoundCall "list.append" ⟨[.ref l, x], []⟩) Q E s := by
 have hT : s.TypeIs (.ref l) "list" := hl.isList.typeIs
 obtain ⟨o, n, ho, hc, hdn, hd⟩ := id hl
 unfold checkBoundCall
 rw [sig_append, md_kind]
 dsimp only
 rw [if_neg (by decide)]
 refine wpAny_bind (wpAny_isInstance (T := "list") (b := false) hT (by rw [isSubtype_type]; kernel_rfl) ?_)
 rw [if_neg (by decide +kernel)]
 refine wpAny_bind (wpAny_bind ?_)
 refine wpAny_loadPart ho ?_
 rw [hd]
 refine wpAny_pure ?_
 rw [if_neg (by simp)]
 refine wpAny_bind (wpAny_typeOf hT ?_)
 dsimp only
 exact wpAny_of_eq check_append h
theorem append_quiet {as : Args} : (Code.builtin "list.append" as).quiet = true := Code.quiet_builtin _ (by decide +kernel)
theorem call_bound {b l : Addr} {ob : Obj} {its : Array Value} {x : Value} {Q : Value → Shared → Prop} (hb : s.heap.get? b = some ob) (hbc : ob.cls = .type "builtin_function_or_method") (hbd : ob.data = .fields #[.builtin "list.append", .ref l])
  (hl : PlainL s.heap l its) (hQ : ∀ h', PlainL h' l (its.push x) → Heap.SameBut l s.heap h' → Q .none { s with heap := h' }) (hsz : its.size ≤ sizeLine) : wpAny (model prog w) A (call (.ref b) [x]) Q E s := by
 refine wpAny_call (codeAny_of_tree ?_)
 show wpAny _ A.in1 (callAny (.ref b) ⟨[x], []⟩) _ _ s
 unfold callAny
 refine wpAny_bind (wpAny_load hb ?_)
 rw [hbd]
 dsimp only
 rw [hbc, if_pos (by decide)]
 show wpAny _ _ (if (Value.type "builtin_function_or_method" != Value.type "method") = true then _ else _) _ _ _
 rw [if_pos (by decide)]
 refine wpAny_bind (bound_check hl ?_)
 refine wpAny_bind (wpAny_pure (wpAny_pure ?_))
 refine ⟨append_quiet, codeAny_builtin entry_list_append ?_⟩
 obtain ⟨o, n, ho, hc, hdn, hd⟩ := id hl
 obtain ⟨n', hd'⟩ := Obj.data_mapSeq hd (·.push x)
 show wpAny _ _ (updateSeq l (·.push x) >>= fun _ => ret .none) _ _ s
 refine wpAny_bind ?_
 refine wpAny_updateSeq ho hd (wpAny_pure ?_)
 refine hQ _ ?_ (Heap.SameBut.update ..)
 refine ⟨_, n', Heap.get?_update_self _ ho (Obj.isFreed_of_seq hd'), (Obj.cls_mapSeq ..).trans hc, ?_, hd'⟩
 obtain ⟨c, d, dt, sl⟩ := o
 subst hd
 exact hdn
theorem callWith_bm {pos : Pos} {u : Addr} {ou : Obj} {vs : Array Value} {args : List (Bool × Sem Value)} {Q : Value → Shared → Prop} (hplain : args.any (·.1) = false) (hc : ou.cls = .type "builtin_function_or_method") (hd : ou.data = .fields vs)
  (h : wpAny (model prog w) A (evalArgs (.ref u) true args []) (fun x s₁ => s₁.heap.get? u = some ou ∧ wpAny (model prog w) A (call (.ref u) x.pos x.kw) Q E s₁) E s) : wpAny (model prog w) A (callWith pos (.ref u) [] args []) Q E s := by
 unfold callWith
 refine wpAny_bind (wpAny_holding (wpAny_mono h (fun x s₁ h₁ => wpAny_bind (wpAny_standAt ?_)) fun _ _ x => x))
 obtain ⟨ho, hcall⟩ := h₁
 rw [hplain]
 refine (show ∀ {P : Prop}, P → P from id) ?_
 refine wpAny_bind (m := keeperOf (.ref u)) ?_
 unfold keeperOf
 refine wpAny_bind (wpAny_load ho ?_)
 rw [hd]
 dsimp only
 rw [hc, if_pos (by decide), if_pos (by decide)]
 refine wpAny_pure ?_
 exact wpAny_bind (wpAny_mono hcall (fun r s₂ hr => wpAny_bind (wpAny_holding (wpAny_point (wpAny_pure hr)))) fun _ _ x => x)
end
noncomputable def V.onA {α : Type} (v : V) (f : Nat → Option α) : Option α := match v with
 | .app k => f k
 | _ => Option.none
theorem V.onA_some {α : Type} {v : V} {f : Nat → Option α} {r : α} (e : v.onA f = some r) : ∃ i, v = .app i ∧ f i = some r := by cases v <;> first | cases e | exact ⟨_, rfl, e⟩
noncomputable def s_attr (x : SE) : SE := fun σ => (x σ).bind fun p => p.1.onO fun k => (p.2.hp[k]?).bind fun u => u.onL fun _ => some (.app k, p.2)
noncomputable def s_app (f x : SE) : SE := fun σ => (f σ).bind fun p => p.1.onA fun k => (x p.2).bind fun q => (q.2.hp[k]?).bind fun u => u.onL fun vs => if vs.length ≤ smallN then some (.none, q.2.setO k (.lst (vs ++ [q.1]))) else none
theorem app_a {f x : SE} {σ σ₁ σ₂ : Sg} {v : V} {k : Nat} {vs : List V} (hf : f σ = some (.app k, σ₁)) (hx : x σ₁ = some (v, σ₂)) (hk : σ₂.hp[k]? = some (.lst vs)) (hz : vs.length ≤ smallN) : s_app f x σ = some (.none, σ₂.setO k (.lst (vs ++ [v]))) := by
 unfold s_app
 rw [hf]; show (x σ₁).bind _ = _
 rw [hx]; show (σ₂.hp[k]?).bind _ = _
 rw [hk]; exact if_pos hz
noncomputable def s_neg (x : SE) : SE := fun σ => (x σ).bind fun p => p.1.onI fun k => some (.int (-k), p.2)
section
variable {C : Cx} {n m : Nat} {env : Env} {ns : List Str} {σ σ' σ₁ σ₂ σ₃ σ₄ : Sg} {as as' : List Addr} {h h' : Heap} {a b c d v : V} {f : F}
variable {e : Expr} {p pos : Pos} {x : Str}
theorem ce_attr {s : SE} (h1 : CE C n env ns (.Name x p) s) : CE C n env ns (.Attribute (.Name x p) (Str.ofString "append") pos) (s_attr s) := .mk fun σ v σ' hh => by
 replace hh := bnd hh; obtain ⟨⟨w, σ₁⟩, e1, hh⟩ := hh
 replace hh := V.onO_some hh; obtain ⟨k, ew, hh⟩ := hh
 replace hh := bnd hh; obtain ⟨u, hk, hh⟩ := hh
 replace hh := O.onL_some hh; obtain ⟨vs, rfl, hh⟩ := hh
 cases (ew : w = _); cases hh
 intro A s as Q E R r h
 refine Attribute_name (h1.ok _ _ _ e1 A s as _ E R r fun as1 g1 t1 y r1 s1 v1 => ?_)
 obtain ⟨l, rfl, e2⟩ := v1.inv
 obtain ⟨l', e3, vals, ⟨o, c, g, hc, hd, hdat⟩, p2⟩ := r1.hr.has _ _ hk
 cases Option.some.inj (e2.symm.trans e3)
 refine getAttr_append (s := { s with heap := g1, toks := t1 }) g hc hdat hd fun tk => ?_
 exact h as1 _ tk _ (r1.push _) (s1.trans (Step.push _)) (.app k l _ _ e2 (Heap.get?_push_size _ rfl) rfl rfl (fun m => Nat.lt_irrefl _ (r1.alive m)))
theorem ce_app {s t : SE} (hn : notStar e = true) (h1 : CE C n env ns (.Name x p) s) (h2 : CE C n env ns e t) : CE C n env ns (.Call (.Name x p) [e] [] pos) (s_app s t) := .mk fun σ v σ' hh => by
 replace hh := bnd hh; obtain ⟨⟨w0, σ₁⟩, e1, hh⟩ := hh
 replace hh := V.onA_some hh; obtain ⟨k, ew, hh⟩ := hh
 replace hh := bnd hh; obtain ⟨⟨w, σ₂⟩, e2, hh⟩ := hh
 replace hh := bnd hh; obtain ⟨u, hk, hh⟩ := hh
 replace hh := O.onL_some hh; obtain ⟨vs, rfl, hh⟩ := hh
 replace hh := if_some hh; obtain ⟨hz, hh⟩ := hh
 cases (ew : w0 = _)
 cases hh
 intro A s as Q E R r h
 refine Call_ (h1.ok _ _ _ e1 A s as _ E R r fun as1 g1 t1 y r1 s1 v1 => ?_) rfl
 obtain ⟨l, bb, o, rfl, q1, q2, q3, q4, q5⟩ := v1.inv
 have hs : starEach [e] env = (false, eval e env) :: starEach [] env := starEach_cons hn
 have im : Imm o := .inr ⟨.inl q3, _, q4⟩
 have key : wpAny (model C.prog C.w) A (spliced (backTo pos (starEach [e] env))) (fun vs s₁ => s₁.heap.get? bb = some o ∧ wpAny (model C.prog C.w) A (call (.ref bb) vs) Q E s₁) E { s with heap := g1, toks := t1 } := ?key
 ·rw [hs] at key ⊢
  exact callWith_bm (ou := o) rfl q3 q4 (evalArgs_plain key)
 refine args_cons (h2.ok _ _ _ e2 A _ as1 _ E R r1 fun as2 g2 t2 z r2 s2 v2 => args_nil ?_) hs
 obtain ⟨a1, a2, a3⟩ := r1.apart q2 im
 have ho := s2.keep bb o q2 a1 (fun z => a2 (mem_mc z)) q5 a3
 refine ⟨ho, ?_⟩
 have q1' : as2[k]? = some l := by
  obtain ⟨ex, rfl, _⟩ := s2.ext
  rw [List.getElem?_append_left (List.getElem?_eq_some_iff.mp q1).1]; exact q1
 obtain ⟨l', e3, vals, p1, p2⟩ := r2.hr.has _ _ hk
 rw [q1'] at e3; cases e3
 refine call_bound (s := { s with heap := g2, toks := t2 }) ho q3 q4 p1 (fun h' hl hs' => ?_) (by rw [List.size_toArray, p2.length, sizeLine_val]; unfold smallN at hz; exact tA ‹_› (by decide))
 have e5 : vals.toArray.push z = (vals ++ [z]).toArray := by simp
 rw [e5] at hl
 exact h as2 h' t2 _ (r2.setOwn q1' hs' (p2.append (.cons _ _ _ _ v2 .nil)) hl) (s1.trans (s2.trans (Step.setOwn q1' hs' (let ⟨o, _, g, _⟩ := hl; ⟨o, g⟩)))) .none
theorem ce_neg {s : SE} (h1 : CE C n env ns e s) : CE C n env ns (.UnaryOp .USub e pos) (s_neg s) := .mk fun σ v σ' hh => by
 replace hh := bnd hh; obtain ⟨⟨w, σ₁⟩, e1, hh⟩ := hh
 replace hh := V.onI_some hh; obtain ⟨k, ew, hh⟩ := hh
 cases (ew : w = _); cases hh
 intro A s as Q E R r h
 refine wpAny_UnaryOp (h1.ok _ _ _ e1 A s as _ E R r fun as1 g1 t1 y r1 s1 v1 => ?_)
 obtain ⟨_, rfl⟩ := v1.inv
 exact PySem.P.neg_int (h as1 g1 _ _ r1 s1 (.int _ _))
end
noncomputable def notComp : Expr → Bool
 | .ListComp .. => false
 | .SetComp .. => false
 | .DictComp .. => false
 | _ => true
theorem swaps_plain {v : Expr} {t : Option Expr} {l : Nat} {env : Env} (h : notComp v = true) : swapsWith v t l env = pure false := by cases v <;> first | rfl | cases h
theorem swaps_sole {v t : Expr} {l : Nat} {env : Env} (h : notComp v = true) : swapsWithSole [t] v l env = pure false := swaps_plain (t := some t) h
noncomputable def notSet : Expr → Bool
 | .Set .. => false
 | _ => true
theorem folded_plain {e : Expr} {env : Env} (h : notSet e = true) (x : Value) : foldedSetIterable e env x = pure x := by cases e <;> first | rfl | cases h
theorem ne_local {o : Option NameKind} (h : o = some .cell) : o ≠ some .local := by rw [h]; decide
theorem not_inter {env : Env} (h : env.scope.kind = .function) : interactive env = false := by unfold interactive; rw [h]; rfl
structure GL (C : Cx) (x : Str) (v : V) : Prop where
 ok : ∃ val, C.mg x = some val ∧ ∀ as h, C.Wd h → (∀ a ∈ as, ¬ C.Old a) → VR as h v val
structure BL (C : Cx) (x : Str) (val : Value) : Prop where
 no : C.mg x = none
 yes : C.mb x = some val
section
variable {C : Cx} {n m : Nat} {env : Env} {ns : List Str} {x : Str} {v : V} {val : Value} {p pos : Pos}
theorem ce_gl (ok : EnvOk env ns) (hx : env.kindOf x = some .globalImplicit) (hd : (x == ("__debug__" : Str)) = false) (g : GL C x v) : CE C n env ns (.Name x pos) (s_c v) := by
 obtain ⟨val, h1, h2⟩ := g.ok
 exact ce_glob ok hx h1 h2 hd
theorem ce_bl (ok : EnvOk env ns) (hx : env.kindOf x = some .globalImplicit) (hd : (x == ("__debug__" : Str)) = false) (g : BL C x val) : CE C n env ns (.Name x pos) (s_c (.raw val)) := ce_blt ok hx g.no g.yes hd
theorem ce_callg {es : List Expr} {t : SL} {fa : Addr} {g : SD} (hg : FS C n fa g) (hf : CE C n env ns (.Name x p) (s_c (.raw (.ref fa)))) (hne : es.isEmpty = false) (h1 : CL C n env ns es t) : CE C n env ns (.Call (.Name x p) es [] pos) (s_call g t) := ce_call hf hg hne h1
end
section
variable {C : Cx} {n m : Nat} {env : Env} {ns : List Str} {σ σ' σ₁ σ₂ σ₃ σ₄ : Sg} {as as' : List Addr} {h h' : Heap} {a b c d v : V} {f : F}
theorem Rel.tab (r : Rel C env ns as σ h) {P : Addr} (hP : P ∈ C.T) (hb : ∀ o, ¬ C.base P o) (hx : Heap.ExtBut P h h') (hv : ∃ vs, h'.get? P = some { cls := .none, data := .fields vs }) (ht : C.tabs h') : Rel C env ns as σ h' ∧ Step C env as h as h' := by
 obtain ⟨vs0, eP⟩ := r.wd.T P hP
 have ne : ∀ b, ¬ C.Old b → b ≠ P := fun b l z => l (.inr (z ▸ hP))
 have k : ∀ b o, h.get? b = some o → b ∉ as → Imm o → h'.get? b = some o := fun b o e _ i => hx b o (fun z => by
  subst z
  rw [eP] at e; cases e
  rcases i with ⟨_, _, i⟩ | ⟨i | i, _⟩ <;> cases i) e
 obtain ⟨m, ⟨oL, es, ep, hL, rL⟩, q⟩ := r.fr
 have hL' := hx _ _ (ne _ r.lo) hL
 have kc : ∀ c ∈ env.cells.map (·.2), ∀ o, h.get? c = some o → h'.get? c = some o := fun c hc o e => by
  obtain ⟨cc, hcc, rfl⟩ := List.mem_map.mp hc
  exact hx _ o (ne _ (r.cells cc hcc).1) e
 refine ⟨⟨⟨fun a o e => hx a o (fun z => hb o (z ▸ e)) (r.wd.base a o e), fun a ha => ?_, ht⟩,
  ⟨r.hr.len, r.hr.nodup, r.hr.above, r.hr.pin, fun i o e => ?_⟩, ⟨m, ⟨oL, es, ep, hL', rL⟩, fun i v e => ?_⟩, fun c hc => ?_, r.lo⟩, ⟨fun b o e _ _ _ t => hx b o (fun z => t (z ▸ hP)) e, ⟨[], by simp, by simp⟩, fun b o e => ?_⟩⟩
 ·by_cases z : a = P
  ·subst z; exact hv
  ·obtain ⟨vs, e⟩ := r.wd.T a ha
   exact ⟨vs, hx a _ z e⟩
 ·obtain ⟨a, ha, q⟩ := r.hr.has i o e
  exact ⟨a, ha, OR.keep k (fun o e => hx a o (ne _ (r.hr.above a (List.mem_of_getElem? ha))) e) q⟩
 ·obtain ⟨x, hx', q⟩ := q i v e
  exact ⟨x, hx', q.keep k kc⟩
 ·obtain ⟨l, v, oc, d1, d2⟩ := r.cells c hc
  exact ⟨l, v, oc, kc _ (List.mem_map_of_mem (f := (·.2)) hc) _ d1, d2⟩
 ·by_cases z : b = P
  ·subst z; obtain ⟨vs, e'⟩ := hv; exact ⟨_, e'⟩
  ·exact ⟨o, hx b o z e⟩
end
noncomputable def CodeOf (h : Heap) (cv : Value) (qual : Str) : Prop := ∃ c oc vs t, cv = .ref c ∧ h.get? c = some oc ∧ oc.cls = .type "code" ∧ oc.data = .fields vs ∧ vs[1]? = some (.str qual t)
theorem CodeOf.keeps {h h' : Heap} {cv : Value} {qual : Str} (x : CodeOf h cv qual) (k : ∀ b o, h.get? b = some o → Tabby o → h'.get? b = some o) : CodeOf h' cv qual :=
 let ⟨c, oc, vs, t, a, b, d, e, f⟩ := x; ⟨c, oc, vs, t, a, k _ _ b ⟨.inr d, vs, e⟩, d, e, f⟩
noncomputable abbrev fnAny (mg : Str → Option Value) (name qual : Str) (params : Arguments) (body : FuncBody) (scope : Scope) (clos : List (Str × Addr)) (doc cv ctv : Value) : Obj :=
 { cls := .type "function", data := .func { name, qualname := qual, params, body, scope, globals := mainGlobals, closure := clos, defaults := .none, kwdefaults := .none, doc, pyModule := (mg "__name__").getD .none, annotations := none, code := cv, closureTuple := ctv, builtins := builtinsNs } }
section
variable {M : Model} {A : Around} {E : Value → Shared → Prop} {s : Shared} {name qual : Str} {params : Arguments} {body : FuncBody} {scope : Scope} {env : Env} {c P : Addr} {ps : Array Value} {pos : Pos} {firstLine : Nat} {mg : Str → Option Value} {clos : List (Str × Addr)}
noncomputable def Grown (h h' : Heap) (P : Addr) (ps : Array Value) (pos : Pos) (cv : Value) : Prop :=
 (∀ b o, h.get? b = some o → h'.get? b = some o) ∨ (codeAmong pos ps.toList = none ∧ Heap.ExtBut P h h' ∧ ∃ c', cv = .ref c' ∧ h.objs.size ≤ c' ∧ h'.get? P = some (tabObj (ps ++ #[rawInt pos.line, rawInt pos.col, .ref c'])))
theorem code_fn {Q : Value → Shared → Prop} (hcode : env.code = .ref c) (C : CodeHd s.heap c P) (hP : s.heap.get? P = some (tabObj ps)) (ht : TriplesOk ps.toList) (hold : ∀ cv, codeAmong pos ps.toList = some cv → CodeOf s.heap cv qual)
  (h : ∀ cv h' tk, s.heap.objs.size ≤ h'.objs.size → CodeOf h' cv qual → Grown s.heap h' P ps pos cv → Q cv { s with heap := h', toks := tk }) :
  wpAny M A (functionCode env pos firstLine name qual params scope body) Q E s := by
 cases hf : codeAmong pos ps.toList with
 | some cv => exact wpAny_functionCode_hit hcode (C.code hP ht) hf (h cv s.heap s.toks (Nat.le_refl _) (hold cv hf) (.inl fun _ _ e => e))
 | none =>
  refine wpAny_functionCodeX hcode (C.code hP ht) (C.tab hP) hf fun c' h' tk hx hge hlt _ hrec htb h2 => ?_
  obtain ⟨P', _, _, ⟨o, vs, e1, e2, e3, _⟩, _⟩ := h2
  obtain ⟨c2, o2, vs2, t, f1, f2, f3, f4⟩ := hrec
  cases f1
  rw [e1] at f2; cases f2
  rw [e3] at f3; cases f3
  exact h _ h' tk (Nat.le_trans hge (Nat.le_of_lt hlt)) ⟨c', o, vs, t, rfl, e1, e2, e3, f4⟩ (.inr ⟨hf, hx, c', rfl, hge, htb.2⟩)
theorem Grown.but {h h' : Heap} {cv : Value} (g : Grown h h' P ps pos cv) : Heap.ExtBut P h h' := g.elim (fun k b o _ e => k b o e) fun x => x.2.1
theorem mk_fn {Q : Value → Shared → Prop} (hcl : closureFor scope env = pure clos) (hge0 : env.globals = mainGlobals) (hg : s.heap.Ns mainGlobals mg) (hcode : env.code = .ref c) (C : CodeHd s.heap c P) (hP : s.heap.get? P = some (tabObj ps)) (ht : TriplesOk ps.toList)
  (hgP : mainGlobals ≠ P) (hb : s.heap.BuiltinsAt mg P) (hold : ∀ cv, codeAmong pos ps.toList = some cv → CodeOf s.heap cv qual)
  (h : ∀ cv ctv doc h' tk, s.heap.objs.size ≤ h'.objs.size → CodeOf h' cv qual → Grown s.heap h' P ps pos cv → Q (.ref h'.objs.size) { s with heap := h'.push (fnAny mg name qual params body scope clos doc cv ctv), toks := tk }) :
  wpAny M A (makeFunction name qual params body scope env [] [] [] pos firstLine) Q E s := by
 rw [makeFunction_eq]
 simp only [List.zip_nil_right, List.filterMap_nil, List.isEmpty_nil, if_true, pure_bind]
 obtain ⟨bm, ob, hbm, hne0, _, hneP, hbo, hcls, hdict, hdata⟩ := hb
 have tail : ∀ (g : Heap) (tk : Tok) (ctv : Value), (∀ b o, s.heap.get? b = some o → g.get? b = some o) → s.heap.objs.size ≤ g.objs.size →
   wpAny M A (do
    let code ← functionCode env pos firstLine name qual params scope body
    let builtins ← builtinsFor mainGlobals env.builtins
    let m ← nsGet mainGlobals "__name__"
    match body with
     | .stmts b => do
      let doc ← (match docOf b with | some s => mkText s | none => pure .none)
      newObj (.type "function") (.func { name, qualname := qual, params, body, scope, globals := mainGlobals, closure := clos, defaults := .none, kwdefaults := .none, doc, pyModule := m.getD .none, annotations := none, code, closureTuple := ctv, builtins })
     | .expr _ => do
      let doc ← pure .none
      newObj (.type "function") (.func { name, qualname := qual, params, body, scope, globals := mainGlobals, closure := clos, defaults := .none, kwdefaults := .none, doc, pyModule := m.getD .none, annotations := none, code, closureTuple := ctv, builtins })) Q E { s with heap := g, toks := tk } := by
  intro g tk ctv k sz
  have gP := k _ _ hP
  refine wpAny_bind (code_fn (s := { s with heap := g, toks := tk }) hcode (C.keeps k) gP ht (fun cv e => (hold cv e).keeps fun b o e _ => k b o e) fun cv h' tk' sz' co gr => ?_)
  have hx := gr.but
  have hg' := (hg.keeps k).extBut hx hgP
  have up : Grown s.heap h' P ps pos cv := gr.imp (fun q b o e => q b o (k b o e)) fun ⟨a, b, c', e1, e2, e3⟩ => ⟨a, fun b' o n e => b b' o n (k b' o e), c', e1, Nat.le_trans sz e2, e3⟩
  refine wpAny_bind (wpAny_builtinsFor hg' hbm hne0 (hx _ _ hneP (k _ _ hbo)) hcls hdict hdata ?_)
  refine wpAny_bind (wpAny_nsGet hg' ?_)
  have last : ∀ doc tk'', wpAny M A (newObj (.type "function") (.func { name, qualname := qual, params, body, scope, globals := mainGlobals, closure := clos, defaults := .none, kwdefaults := .none, doc, pyModule := (mg "__name__").getD .none, annotations := none, code := cv, closureTuple := ctv, builtins := builtinsNs })) Q E { s with heap := h', toks := tk'' } :=
   fun doc tk'' => wpAny_newObj_type (h cv ctv doc h' tk'' (Nat.le_trans sz sz') co up) (by size_fits)
  cases body with
  | expr e => exact wpAny_bind (wpAny_pure (last .none _))
  | stmts b =>
   dsimp only
   cases docOf b with
   | none => exact wpAny_bind (wpAny_pure (last .none _))
   | some t => exact wpAny_bind (wpAny_mkText (last _ _))
 unfold makeTail
 rw [hcl, hge0]
 refine wpAny_bind (wpAny_pure ?_)
 cases clos with
 | nil =>
  simp only [List.isEmpty_nil, if_true]
  exact wpAny_bind (wpAny_pure (tail s.heap s.toks .none (fun _ _ e => e) (Nat.le_refl _)))
 | cons q r =>
  simp only [List.isEmpty_cons, Bool.false_eq_true, if_false]
  exact wpAny_bind (wpAny_newTextTuple (tail _ s.toks _ (fun _ _ e => Heap.get?_push_of_some _ e) (by rw [Heap.size_push]; exact Nat.le_succ _)))
end
structure TabAt (C : Cx) (c P : Addr) (pos : Pos) (qual : Str) : Prop where
 hd : ∀ h, C.Wd h → CodeHd h c P
 blt : ∀ h, C.Wd h → h.BuiltinsAt C.mg P
 ne : mainGlobals ≠ P
 mem : P ∈ C.T
 nb : ∀ o, ¬ C.base P o
 ps : ∀ h, C.tabs h → ∃ ps : Array Value, h.get? P = some (tabObj ps) ∧ TriplesOk ps.toList ∧ ∀ cv, codeAmong pos ps.toList = some cv → CodeOf h cv qual
 ins : ∀ (h h' : Heap) (ps : Array Value) (c' : Addr), C.tabs h → Heap.ExtBut P h h' → h.get? P = some (tabObj ps) → codeAmong pos ps.toList = none → h'.get? P = some (tabObj (ps ++ #[rawInt pos.line, rawInt pos.col, .ref c'])) → CodeOf h' (.ref c') qual → C.tabs h'
section
variable {C : Cx} {n m : Nat} {env : Env} {ns : List Str} {σ σ' σ₁ σ₂ σ₃ σ₄ : Sg} {as as' : List Addr} {h h' : Heap} {a b c d v : V} {f : F}
theorem fn_ok {cc P : Addr} {name qual : Str} {params : Arguments} {body : FuncBody} {scope : Scope} {pos : Pos} {firstLine : Nat} {clos : List (Str × Addr)} (T : TabAt C cc P pos qual) (ok : EnvOk env ns) (hcode : env.code = .ref cc) (hcl : closureFor scope env = pure clos)
  {A : Around} {s : Shared} {Q : Value → Shared → Prop} {E : Value → Shared → Prop} (r : Rel C env ns as σ s.heap)
  (hq : ∀ g tk doc cv ctv, Rel C env ns as σ g → Step C env as s.heap as g → s.heap.objs.size ≤ g.objs.size → CodeOf g cv qual → Q (.ref g.objs.size) { s with heap := g.push (fnAny C.mg name qual params body scope clos doc cv ctv), toks := tk }) :
  wpAny (model C.prog C.w) A (makeFunction name qual params body scope env [] [] [] pos firstLine) Q E s := by
 obtain ⟨ps, hP, ht, hc⟩ := T.ps _ r.wd.tabs
 refine mk_fn (mg := C.mg) hcl ok.glob (C.hg _ r.wd.base) hcode (T.hd _ r.wd) hP ht T.ne (T.blt _ r.wd) hc fun cv ctv doc h' tk sz co gr => ?_
 rcases gr with k | ⟨hf, hx, c', rfl, hge, htb⟩
 ·exact hq h' tk doc cv ctv (r.grow k) (Step.growing k) sz co
 ·obtain ⟨r', s'⟩ := r.tab T.mem T.nb hx ⟨_, htb⟩ (T.ins _ _ ps c' r.wd.tabs hx hP hf htb co)
  exact hq h' tk doc _ ctv r' s' sz co
theorem lam_ok {cc P : Addr} {params : Arguments} {body : PySem.Expr} {scope : Scope} {pos : Pos} {clos : List (Str × Addr)} (T : TabAt C cc P pos (env.qual ++ "<lambda>")) (ok : EnvOk env ns) (hcode : env.code = .ref cc) (hdef : defaultsOf params env = ([], [])) (hcl : closureFor scope env = pure clos)
  {A : Around} {s : Shared} {Q : Value → Shared → Prop} {E : Value → Shared → Prop} (r : Rel C env ns as σ s.heap)
  (hq : ∀ h' tk f o fd, Rel C env ns as σ h' → Step C env as s.heap as h' → h'.get? f = some o → o.cls = .type "function" → o.data = .func fd → s.heap.objs.size ≤ f → Q (.ref f) { s with heap := h', toks := tk }) :
  wpAny (model C.prog C.w) A (eval (.Lambda params body scope pos) env) Q E s :=
 kla_eval hdef (fn_ok T ok hcode hcl r fun g tk doc cv ctv r' s' sz _ => hq _ tk _ _ _ (r'.push _) (s'.trans (Step.push _)) (Heap.get?_push_size _ rfl) rfl rfl sz)
end
section
variable {prog : Program} {w : World} {A : Around} {E : Value → Shared → Prop} {s : Shared} {K : Frag} {x X dx : Addr}
theorem set_field {C0 : Addr} {ox od od' : Obj} {name : Str} {v : Value} {es : List DictEntry} {n : Nat} {Q : Unit → Shared → Prop} (X : K.In s.heap) (I : InstAt s.heap x ox C0 (some od)) (hs : findIn K (.ref C0) "__setattr__" = some (some (.builtin "object.__setattr__")))
  (hd : ox.dict = some dx) (hp : plainOver K C0 = true) (ht : takerIn K C0 name = some none) (hh : (clsIn K C0).any (·.hasDict) = true) (hl : (lookIn name od).isSome = true)
  (e : Obj.putName name (PyData.keyHash w.params name) (.str name (s.toks + 1)) v od = od') (e' : od'.data = .dict es.toArray n) (hz : es.length ≤ 1000)
  (h : ∀ h', h'.get? dx = some od' → Heap.SameBut dx s.heap h' → Q () { s with heap := h', toks := s.toks + 2 }) : wpAny (model prog w) A (setAttr (.ref x) name v) Q E s := by
 refine set_plain X I hs (osa_open (s := { s with toks := s.toks + 1 }) X I hp ht fun b => ?_)
 obtain ⟨cd, hc, hd'⟩ := any_some hh
 obtain ⟨hx, hcl, hn, hdi⟩ := I
 obtain ⟨oc, odi, oda, osl⟩ := ox
 dsimp only at hcl hd hdi
 subst hcl hd
 have D : s.heap.get? dx = some od := hdi
 have L : Looks (model prog w) s.heap (classData C0) cd := looks_clsIn X hc
 refine wpAny_bind (wpAny_pure (wpAny_bind (wpAny_bind (wpAny_loadPart hx (wpAny_bind (L _ _ _ _ (fun _ _ e => e) ?_))))))
 rw [hd']
 refine wpAny_pure (a := some dx) (wpAny_bind (wpAny_pure (wpAny_bind ?_)))
 unfold nsSet
 refine wpAny_bind (wpAny_bind (wpAny_askSetting (wpAny_pure (wpAny_bind (wpAny_mkText (wpAny_bind (wpAny_loadPart D ?_)))))))
 unfold lookIn at hl
 split at hl
 ·rename_i es₀ n₀ q
  rw [q]
  dsimp only
  have c : (!es₀.any (·.key.isStr name) && es₀.any (·.refKey)) = false := by
   rw [← Array.any_toList, ← Array.any_toList]
   split at hl
   ·rename_i en he
    rw [List.any_eq_true.mpr ⟨en, List.mem_of_find?_eq_some he, List.find?_some he⟩]; rfl
   ·split at hl
    ·cases hl
    ·rename_i z; rw [Bool.not_eq_true] at z; rw [z, Bool.and_false]
  rw [aRefKeyMayBeTheName_at, c]
  refine wpAny_updatePart D ?_
  have D' : (s.heap.update dx (Obj.putName name (PyData.keyHash w.params name) (.str name (s.toks + 1)) v)).get? dx = some od' := by
   rw [← e]
   exact Heap.get?_update_self _ D (by rw [e]; obtain ⟨_, _, dd, _⟩ := od'; cases e'; rfl)
  refine wpAny_bind (wpAny_lookBehind D' (by rw [e']; exact pastItsLine_dict (by rw [List.size_toArray, sizeLine_eq]; exact tA ‹_› (by decide))) ?_)
  exact wpAny_pure (h _ D' (Heap.SameBut.update ..))
 ·cases hl
end
section
variable {C : Cx} {n m : Nat} {env : Env} {ns : List Str} {σ σ' σ₁ σ₂ σ₃ σ₄ : Sg} {as as' : List Addr} {h h' : Heap} {a b c d v : V} {f : F} {hp : List O}
theorem Cx.Wd.grow (r : C.Wd h) (k : ∀ b o, h.get? b = some o → h'.get? b = some o) : C.Wd h' :=
 ⟨fun a o e => k a o (r.base a o e), fun a m => let ⟨vs, e⟩ := r.T a m; ⟨vs, k _ _ e⟩, C.up h h' (fun b o e _ => k b o e) r.tabs⟩
noncomputable def FragIn (C : Cx) (K : Frag) : Prop := ∀ a o, K.lookup a = some o → C.base a o
theorem FragIn.at {K : Frag} (x : FragIn C K) (r : C.Wd h) : K.In h := fun a o e => r.base a o (x a o e)
noncomputable abbrev valObj (P : Params) (v : Value) (t : Tok) : Obj := { cls := .type "dict", data := .dict #[⟨PyData.keyHash P (Str.ofString "value"), .str (Str.ofString "value") t, v⟩] 1 }
structure ExCls (C : Cx) (K : Frag) (C0 fI : Addr) (cd : Value) (params : Arguments) (body : List Stmt) (scope : Scope) (p1 p2 p3 p4 : Pos) : Prop where
 fr : FragIn C K
 mks : makesIn K C0 = true
 ini : findIn K (.ref C0) "__init__" = some (some (.ref fI))
 typ : typeIn K (.ref fI) = some (.type "function")
 set : findIn K (.ref C0) "__setattr__" = some (some (.builtin "object.__setattr__"))
 po : plainOver K C0 = true
 tv : takerIn K C0 (Str.ofString "value") = some none
 tr : takerIn K C0 (Str.ofString "read") = some none
 hd : (clsIn K C0).any (·.hasDict) = true
 D : DefAt C "_Example.__init__" params body scope fI cd [Str.ofString "self", Str.ofString "value"]
 body : body = [.Assign [.Attribute (.Name (Str.ofString "self") p1) (Str.ofString "value") p2] (.Name (Str.ofString "value") p3) p4]
theorem put_value (P : Params) (v : Value) (t : Tok) : Obj.putName (Str.ofString "value") (PyData.keyHash P (Str.ofString "value")) (.str (Str.ofString "value") t) v emptyDict = valObj P v t := by
 rw [putName_eq]; rfl
theorem call_ex {K : Frag} {C0 fI : Addr} {cd : Value} {params : Arguments} {body : List Stmt} {scope : Scope} {p1 p2 p3 p4 : Pos} (X : ExCls C K C0 fI cd params body scope p1 p2 p3 p4) {A : Around} {s : Shared} {val : Value} {Q : Value → Shared → Prop} {E : Value → Shared → Prop}
  (pn : C.pin = []) (R : Room (n + 3) A) (wd : C.Wd s.heap)
  (h : ∀ h' tk x dx t, C.Wd h' → (∀ b o, b ∉ C.T → s.heap.get? b = some o → h'.get? b = some o) → (∀ b o, s.heap.get? b = some o → ∃ o', h'.get? b = some o') → h'.get? x = some (instObj C0 dx) → h'.get? dx = some (valObj C.w.params val t) → s.heap.get? x = none → s.heap.get? dx = none → x ≠ dx → Q (.ref x) { s with heap := h', toks := tk }) :
  wpAny (model C.prog C.w) A (call (.ref C0) [val]) Q E s := by
 obtain ⟨hh, g, dr, t, os⟩ := s
 have KI := X.fr.at wd
 refine wpAny_call (make_core (makes_of KI X.mks) (looks_findIn KI X.ini) (fun self => bind_fn KI self X.typ) (.inl rfl) ?_)
 dsimp only at wd h
 have z1 : (hh.push emptyDict).objs.size = hh.objs.size + 1 := Heap.size_push ..
 have k2 : ∀ b o, hh.get? b = some o → ((hh.push emptyDict).push (instObj C0 hh.objs.size)).get? b = some o := fun b o e => Heap.get?_push_of_some _ (Heap.get?_push_of_some _ e)
 have gx : ((hh.push emptyDict).push (instObj C0 hh.objs.size)).get? (hh.objs.size + 1) = some (instObj C0 hh.objs.size) := by rw [← z1]; exact Heap.get?_push_size _ rfl
 have gd : ((hh.push emptyDict).push (instObj C0 hh.objs.size)).get? hh.objs.size = some emptyDict := Heap.get?_push_of_some _ (Heap.get?_push_size _ rfl)
 refine def_code (n := n + 1) (more := []) (hp := []) (as := []) (args := [.raw (.ref (hh.objs.size + 1)), .raw val]) (s := ⟨(hh.push emptyDict).push (instObj C0 hh.objs.size), g, dr, t, os⟩) X.D rfl (by decide +kernel) ?_ (wd.grow k2) ⟨rfl, List.nodup_nil, by simp, by simp [pn], by simp⟩ (.cons _ _ _ _ (.raw _) (.cons _ _ _ _ (.raw _) .nil)) fun A' h₁ tk₁ R' r0 keep ab => ?_
 ·refine ⟨R.1, ?_, ?_⟩
  ·show A.depth + 1 + (n + 1 + 1) < recursionLimit
   have := R.2.1; lia
  ·show A.units + (Code.builtin "type.__call__" ⟨[.ref C0, val], []⟩).cUnits + 20 * (n + 1 + 1) < cLine
   have : (Code.builtin "type.__call__" ⟨[.ref C0, val], []⟩).cUnits = 1 := by kernel_rfl
   have := R.2.2; lia
 ·dsimp only at keep
  rw [X.body]
  have ok := okC (name := "_Example.__init__") (L := ((hh.push emptyDict).push (instObj C0 hh.objs.size)).objs.size) (fa := fI) (cd := cd) (ns := [Str.ofString "self", Str.ofString "value"] ++ []) X.D.kind (by decide +kernel)
  refine wpAny_execs_cons (plainObj_wpAny_Assign_Attribute (te_loc (n := n) ok (i := 1) (v := .raw val) rfl rfl (by decide +kernel) (by decide +kernel) A' { heap := h₁, gens := g, drawn := dr, toks := tk₁, os := os } [] _ _ (R'.le (Nat.le_succ _)) r0 fun as2 g2 t2 y r2 s2 v2 =>
   te_loc (n := n) ok (i := 0) (v := .raw (.ref (hh.objs.size + 1))) rfl rfl (by decide +kernel) (by decide +kernel) A' _ as2 _ _ (R'.le (Nat.le_succ _)) r2 fun as3 g3 t3 z r3 s3 v3 => ?_) rfl)
  cases v2
  cases v3
  have KI3 := X.fr.at r3.wd
  have st := s2.trans s3
  have kp : ∀ b o, h₁.get? b = some o → b ∉ C.T → b < ((hh.push emptyDict).push (instObj C0 hh.objs.size)).objs.size → g3.get? b = some o := fun b o e nt l => st.keep b o e (Nat.ne_of_lt l) (fun z => by
   obtain ⟨c, hc, rfl⟩ := List.mem_map.mp (mem_mc z)
   exact absurd l (Nat.not_lt.mpr (Nat.le_of_lt (ab c hc)))) (by simp) nt
  have lvk : ∀ b o, hh.get? b = some o → ∃ o', g3.get? b = some o' := fun b o e => st.live b o (keep b o (k2 b o e))
  have z2 : ((hh.push emptyDict).push (instObj C0 hh.objs.size)).objs.size = hh.objs.size + 2 := by rw [Heap.size_push, z1]
  have oldT : ∀ b, hh.objs.size ≤ b → b ∉ C.T := fun b l z => wd.fresh l (.inr z)
  have gx3 := kp _ _ (keep _ _ gx) (oldT _ (Nat.le_succ _)) (by rw [z2]; exact Nat.lt_succ_self _)
  have gd3 := kp _ _ (keep _ _ gd) (oldT _ (Nat.le_refl _)) (by rw [z2]; exact Nat.lt_add_of_pos_right (by decide))
  refine set_field (prog := C.prog) (w := C.w) (s := { heap := g3, gens := g, drawn := dr, toks := t3, os := os }) KI3 (C0 := C0) (x := hh.objs.size + 1) (dx := hh.objs.size) (ox := instObj C0 hh.objs.size) (od := emptyDict) (v := val) ⟨gx3, rfl, rfl, gd3⟩ X.set rfl X.po X.tv X.hd rfl (put_value _ _ _) rfl (Nat.le_of_ble_eq_true rfl) fun h' hd' hs' => ?_
  refine wpAny_execs_nil ⟨rfl, ?_⟩
  have k' : ∀ b o, b ≠ hh.objs.size → g3.get? b = some o → h'.get? b = some o := fun b o l e => (hs'.2 b l).trans e
  refine h h' _ _ _ _ ?_ (fun b o nt e => k' b o (Nat.ne_of_lt (Heap.lt_size e)) (kp b o (keep b o (k2 b o e)) nt (Nat.lt_of_lt_of_le (Heap.lt_size e) (by rw [z2]; exact Nat.le_add_right _ _)))) (fun b o e => ?_) (k' _ _ (Nat.succ_ne_self _) gx3) hd' (fresh_none (Nat.le_succ _)) (fresh_none (Nat.le_refl _)) (Nat.succ_ne_self _)
  ·refine ⟨fun a o e => k' a o (fun z => wd.fresh (a := a) (by rw [z]; exact Nat.le_refl _) (.inl ⟨o, e⟩)) (r3.wd.base a o e), fun a m => ?_, C.up g3 h' (fun b o e t => k' b o (fun z => ?_) e) r3.wd.tabs⟩
   ·obtain ⟨vs, e⟩ := r3.wd.T a m
    exact ⟨vs, k' a _ (fun z => wd.fresh (a := a) (by rw [z]; exact Nat.le_refl _) (.inr m)) e⟩
   ·subst z
    rw [gd3] at e; cases e
    obtain ⟨_, vs, d⟩ := t
    cases d
  ·obtain ⟨o', e'⟩ := lvk b o e
   exact ⟨o', k' b o' (Nat.ne_of_lt (Heap.lt_size e)) e'⟩
end
section
variable {C : Cx} {n m : Nat} {env : Env} {ns : List Str} {σ σ' σ₁ σ₂ σ₃ σ₄ : Sg} {as as' : List Addr} {h h' : Heap} {a b c d v : V} {f : F} {hp : List O}
theorem Rel.deadAddr (r : Rel C env ns as σ h) {b : Addr} (l : h.get? b = none) : b ≠ env.locals ∧ b ∉ mcells env ∧ b ∉ as ∧ b ∉ C.T := by
 refine ⟨fun z => ?_, fun z => ?_, fun m => ?_, fun z => ?_⟩
 ·obtain ⟨m, ⟨o, _, _, e, _⟩, _⟩ := r.fr
  rw [← z, l] at e; cases e
 ·obtain ⟨c, hc, z⟩ := List.mem_map.mp (mem_mc z)
  obtain ⟨_, v, oc, e, _⟩ := r.cells c hc
  rw [z, l] at e; cases e
 ·obtain ⟨k, e⟩ := List.mem_iff_getElem?.mp m
  have lt : k < σ.hp.length := r.hr.len ▸ (List.getElem?_eq_some_iff.mp e).1
  obtain ⟨a', e', q⟩ := r.hr.has k _ (List.getElem?_eq_getElem lt)
  rw [e] at e'; cases e'
  cases ho : σ.hp[k] with
  | lst vs => rw [ho] at q; obtain ⟨_, ⟨o, c, g, _⟩, _⟩ := q; rw [l] at g; cases g
  | obj => rw [ho] at q; obtain ⟨o, g, _⟩ := q; rw [l] at g; cases g
 ·obtain ⟨vs, e⟩ := r.wd.T b z
  rw [l] at e; cases e
theorem Rel.newAddr (r : Rel C env ns as σ h) {b : Addr} (l : h.objs.size ≤ b) : b ≠ env.locals ∧ b ∉ mcells env ∧ b ∉ as ∧ b ∉ C.T := r.deadAddr (fresh_none l)
theorem Rel.keepAt (r : Rel C env ns as σ h) (st : Step C env as h as' h') {b : Addr} {o : Obj} (e : h.get? b = some o) (n : b ≠ env.locals ∧ b ∉ mcells env ∧ b ∉ as ∧ b ∉ C.T) : h'.get? b = some o := st.keep b o e n.1 n.2.1 n.2.2.1 n.2.2.2
theorem CodeOf.step {cv : Value} {qual : Str} (r : Rel C env ns as σ h) (st : Step C env as h as' h') (x : CodeOf h cv qual) : CodeOf h' cv qual := by
 obtain ⟨c, oc, vs, t, e1, e2, ec, e3, e4⟩ := x
 refine ⟨c, oc, vs, t, e1, st.keep c oc e2 (fun z => ?_) (fun z => ?_) (fun z => ?_) (fun z => ?_), ec, e3, e4⟩
 ·obtain ⟨m, ⟨oL, es, ep, hL, dL, _⟩, _⟩ := r.fr
  rw [← z, e2] at hL; cases hL
  rw [e3] at dL; cases dL
 ·obtain ⟨cc, hcc, z⟩ := List.mem_map.mp (mem_mc z)
  obtain ⟨_, v, oc2, h1, h2⟩ := r.cells cc hcc
  rw [z, e2] at h1; cases h1
  rw [e3] at h2; cases h2
 ·obtain ⟨k, e⟩ := List.mem_iff_getElem?.mp z
  have l : k < σ.hp.length := r.hr.len ▸ (List.getElem?_eq_some_iff.mp e).1
  obtain ⟨a', e', q⟩ := r.hr.has k _ (List.getElem?_eq_getElem l)
  rw [e] at e'; cases e'
  cases ho : σ.hp[k] with
  | lst vs => rw [ho] at q; obtain ⟨_, ⟨o, c, g', _, _, d⟩, _⟩ := q; rw [e2] at g'; cases g'; rw [e3] at d; cases d
  | obj => rw [ho] at q; obtain ⟨o, g', _, d⟩ := q; rw [e2] at g'; cases g'; rw [e3] at d; cases d
 ·obtain ⟨vs', e⟩ := r.wd.T c z
  rw [e2] at e; cases e; cases ec
theorem nest_ok {cc P : Addr} {name : Str} {params : Arguments} {body : List Stmt} {scope : Scope} {pos : Pos} {clos : List (Str × Addr)} {i : Nat} (T : TabAt C cc P pos (qualnameIn env name name)) (ok : EnvOk env ns) (hcode : env.code = .ref cc) (hd0 : params.defaults = []) (hk0 : params.kw_defaults = []) (ha : annTrees params none env = [])
  (hcl : closureFor scope env = pure clos) (hx : ns[i]? = some name) (hk : stores env name = true)
  {A : Around} {s : Shared} {Q : Flow → Shared → Prop} {E : Value → Shared → Prop} (r : Rel C env ns as σ s.heap)
  (hq : ∀ h' tk f doc cv ctv, Rel C env ns as (σ.put i (.raw (.ref f))) h' → Step C env as s.heap as h' → h'.get? f = some (fnAny C.mg name (qualnameIn env name name) params (.stmts body) scope clos doc cv ctv) → CodeOf h' cv (qualnameIn env name name) → s.heap.objs.size ≤ f → Q .next { s with heap := h', toks := tk }) :
  wpAny (model C.prog C.w) A (exec (.FunctionDef name params body [] none [] scope none name pos) env) Q E s := by
 refine nestDef_K hd0 hk0 ha (fn_ok T ok hcode hcl r fun g tk doc cv ctv rg sg lz co => ?_)
 have r1 := rg.push (fnAny C.mg name (qualnameIn env name name) params (.stmts body) scope clos doc cv ctv)
 have s1 : Step C env as g as _ := Step.push (fnAny C.mg name (qualnameIn env name name) params (.stmts body) scope clos doc cv ctv)
 refine store_loc (s := { s with heap := g.push (fnAny C.mg name (qualnameIn env name name) params (.stmts body) scope clos doc cv ctv), toks := tk }) (v := .raw (.ref g.objs.size)) ok hx hk r1 (.raw _) fun g2 t2 r2 s2 => ?_
 have nf := rg.newAddr (b := g.objs.size) (Nat.le_refl _)
 exact hq g2 t2 g.objs.size doc cv ctv r2 (sg.trans (s1.trans s2)) (s2.keep _ _ (Heap.get?_push_size _ rfl) nf.1 nf.2.1 nf.2.2.1 nf.2.2.2) ((co.step rg s1).step r1 s2) lz
end
set_option genInjectivity false in
structure StrD (C : Cx) (K : Frag) where
 C0 : Addr
 fI : Addr
 cdI : Value
 pI : Arguments
 bI : List Stmt
 sI : Scope
 i1 : Pos
 i2 : Pos
 i3 : Pos
 i4 : Pos
 ex : ExCls C K C0 fI cdI pI bI sI i1 i2 i3 i4
 kp : keepIn K (.ref C0) = true
 fa : Addr
 cc : Addr
 P : Addr
 params : Arguments
 body : List Stmt
 scope : Scope
 D : DefAt C "_law_stream" params body scope fa (.ref cc) [Str.ofString "octets"]
 rp : Arguments
 rb : List Stmt
 rs : Scope
 q : Nat → Pos
 hb : body = [.Assign [.Name (Str.ofString "place") (q 1)] (.List [.Constant (.int 0) 0 (q 2)] (q 3)) (q 4), .FunctionDef (Str.ofString "_law_read") rp rb [] none [] rs none (Str.ofString "_law_read") (q 5),
  .Assign [.Name (Str.ofString "stream") (q 6)] (.Call (.Name (Str.ofString "_Example") (q 7)) [.Name (Str.ofString "place") (q 8)] [] (q 9)) (q 10),
  .Assign [.Attribute (.Name (Str.ofString "stream") (q 11)) (Str.ofString "read") (q 12)] (.Name (Str.ofString "_law_read") (q 13)) (q 14), .Return (some (.Name (Str.ofString "stream") (q 15))) (q 16)]
 names : scope.names = [(Str.ofString "octets", .cell), (Str.ofString "_law_read", .local), (Str.ofString "stream", .local), (Str.ofString "place", .cell), (Str.ofString "_Example", .globalImplicit)]
 T : TabAt C cc P (q 5) (Str.ofString "_law_stream.<locals>._law_read")
 d0 : rp.defaults = []
 k0 : rp.kw_defaults = []
 a0 : ∀ env, annTrees rp none env = []
 rnames : rs.names = [(Str.ofString "size", .local), (Str.ofString "start", .local), (Str.ofString "octets", .free), (Str.ofString "place", .free), (Str.ofString "min", .globalImplicit), (Str.ofString "len", .globalImplicit)]
 gl : GL C "_Example" (.raw (.ref C0))
noncomputable abbrev strDict (P : Params) (l f : Addr) (t u : Tok) : Obj := { cls := .type "dict", data := .dict #[⟨PyData.keyHash P (Str.ofString "value"), .str (Str.ofString "value") t, .ref l⟩, ⟨PyData.keyHash P (Str.ofString "read"), .str (Str.ofString "read") u, .ref f⟩] 2 }
structure Strm where
 a : Addr
 l : Addr
 dx : Addr
 f : Addr
 c1 : Addr
 c2 : Addr
 cv : Addr
 oc : Obj
 o1 : Obj
 o2 : Obj
 t : Tok
 u : Tok
 v : Value
 doc : Value
 ctv : Value
 x : List Nat
noncomputable def Strm.fn {C : Cx} {K : Frag} (S : Strm) (D : StrD C K) : Obj := fnAny C.mg (Str.ofString "_law_read") (Str.ofString "_law_stream.<locals>._law_read") D.rp (.stmts D.rb) D.rs [(Str.ofString "place", S.c2), (Str.ofString "octets", S.c1)] S.doc (.ref S.cv) S.ctv
noncomputable def Strm.objs {C : Cx} {K : Frag} (S : Strm) (D : StrD C K) : List (Addr × Obj) := [(S.a, instObj D.C0 S.dx), (S.dx, strDict C.w.params S.l S.f S.t S.u), (S.f, S.fn D), (S.c1, S.o1), (S.c2, S.o2)]
structure Strm.Ok (S : Strm) : Prop where
 oc : S.oc.cls = .type "code"
 ov : ∃ vs t, S.oc.data = .fields vs ∧ vs[1]? = some (.str (Str.ofString "_law_stream.<locals>._law_read") t)
 o1 : S.o1.data = .cell (some S.v)
 o2 : S.o2.data = .cell (some (.ref S.l))
 v : ∀ as h, VR as h (.byt S.x) S.v
 c : S.c1 ≠ S.c2
section
variable {C : Cx} {K : Frag} {n m : Nat} {env : Env} {ns : List Str} {σ σ' σ₁ σ₂ σ₃ σ₄ : Sg} {as as' : List Addr} {h h' : Heap} {a b c d v : V} {f : F} {hp : List O}
theorem put_read (P : Params) (l f : Addr) (t u : Tok) : Obj.putName (Str.ofString "read") (PyData.keyHash P (Str.ofString "read")) (.str (Str.ofString "read") u) (.ref f) (valObj P (.ref l) t) = strDict P l f t u := by
 have h1 : (Value.isStr (.str (Str.ofString "value") t) (Str.ofString "read")) = false := by
  show (Str.ofString "value" == Str.ofString "read") = false
  decide +kernel
 show Obj.putName _ _ _ _ ⟨_, _, .dict ([⟨PyData.keyHash P (Str.ofString "value"), .str (Str.ofString "value") t, .ref l⟩] : List DictEntry).toArray 1, _⟩ = _
 rw [putName_eq]
 unfold PySem.putIn
 simp [h1]
theorem HR.keepT (wd : C.Wd h) (r : HR C as hp h) (k : ∀ b o, b ∉ C.T → h.get? b = some o → h'.get? b = some o) : HR C as hp h' := by
 refine ⟨r.len, r.nodup, r.above, r.pin, fun i o e => ?_⟩
 obtain ⟨a, ha, q⟩ := r.has i o e
 refine ⟨a, ha, OR.keep (fun b o e _ im => k b o (fun z => ?_) e) (fun o e => k a o (fun z => r.above a (List.mem_of_getElem? ha) (.inr z)) e) q⟩
 obtain ⟨vs, h1⟩ := wd.T b z
 rw [e] at h1; cases h1
 rcases im with ⟨_, _, i⟩ | ⟨i | i, _⟩ <;> cases i
theorem law_stream (D : StrD C K) (pn : C.pin = []) {A : Around} {s : Shared} {xv : Value} {x : List Nat} {Q : Value → Shared → Prop} {E : Value → Shared → Prop} (R : Room (n + 8) A) (wd : C.Wd s.heap) (hx : ∀ as h, VR as h (.byt x) xv)
  (fin : ∀ (h' : Heap) (tk : Nat) (S : Strm), S.Ok → S.x = x → C.Wd h' → HR C [S.l] [.lst [.int 0]] h' → (∀ b o, b ∉ C.T → s.heap.get? b = some o → h'.get? b = some o) → (∀ b o, s.heap.get? b = some o → ∃ o', h'.get? b = some o') →
   (∀ p ∈ S.objs D, h'.get? p.1 = some p.2 ∧ s.heap.get? p.1 = none ∧ p.1 ≠ S.l) → h'.get? S.cv = some S.oc → s.heap.get? S.l = none → Q (.ref S.a) { s with heap := h', toks := tk }) :
  wpAny (model C.prog C.w) A (call (.ref D.fa) [xv]) Q E s := by
 refine def_enter (n := n + 7) (args := [.raw xv]) (hp := []) (as := []) (more := [Str.ofString "place", Str.ofString "_law_read", Str.ofString "stream"]) D.D rfl (by decide +kernel) R wd ⟨rfl, List.nodup_nil, by simp, by simp [pn], by simp⟩ (.cons _ _ _ _ (.raw _) .nil) fun A' h₁ tk₁ R' r0 keep ab => ?_
 rw [D.hb]
 have ok := okC (name := "_law_stream") (L := s.heap.objs.size) (fa := D.fa) (cd := .ref D.cc) (ns := [Str.ofString "octets"] ++ [Str.ofString "place", Str.ofString "_law_read", Str.ofString "stream"]) D.D.kind (by decide +kernel)
 have hk : ∀ y, (envOfC "_law_stream" D.scope s.heap.objs.size D.fa (.ref D.cc)).kindOf y = List.lookup y [(Str.ofString "octets", .cell), (Str.ofString "_law_read", .local), (Str.ofString "stream", .local), (Str.ofString "place", .cell), (Str.ofString "_Example", .globalImplicit)] := fun y => by
  show D.scope.names.lookup y = _
  rw [D.names]
 have hc : (envOfC "_law_stream" D.scope s.heap.objs.size D.fa (.ref D.cc)).cells = [(Str.ofString "place", s.heap.objs.size + 1 + 1), (Str.ofString "octets", s.heap.objs.size + 1)] := by
  show cellsFrom (s.heap.objs.size + 1) D.scope.names [] = _
  rw [D.names]; rfl
 have hfn : (envOfC "_law_stream" D.scope s.heap.objs.size D.fa (.ref D.cc)).func = some D.fa := rfl
 have hloc : (envOfC "_law_stream" D.scope s.heap.objs.size D.fa (.ref D.cc)).locals = s.heap.objs.size := rfl
 have hcode : (envOfC "_law_stream" D.scope s.heap.objs.size D.fa (.ref D.cc)).code = .ref D.cc := rfl
 have hqual : qualnameIn (envOfC "_law_stream" D.scope s.heap.objs.size D.fa (.ref D.cc)) (Str.ofString "_law_read") (Str.ofString "_law_read") = Str.ofString "_law_stream.<locals>._law_read" := by
  unfold qualnameIn
  rw [hk]
  kernel_rfl
 have hclo : closureFor D.rs (envOfC "_law_stream" D.scope s.heap.objs.size D.fa (.ref D.cc)) = pure [(Str.ofString "place", s.heap.objs.size + 1 + 1), (Str.ofString "octets", s.heap.objs.size + 1)] := by
  unfold closureFor cellOf
  rw [D.rnames, hc]
  kernel_rfl
 generalize hE : envOfC "_law_stream" D.scope s.heap.objs.size D.fa (.ref D.cc) = env at *
 have st1 : stores env (Str.ofString "place") = true := by unfold stores; rw [hk, hc, hfn]; kernel_rfl
 have st2 : stores env (Str.ofString "_law_read") = true := by unfold stores; rw [hk]; kernel_rfl
 have st3 : stores env (Str.ofString "stream") = true := by unfold stores; rw [hk]; kernel_rfl
 -- place = [0]
 refine wpAny_execs_cons (tx_asg (n := n) ok (i := 1) rfl st1 (te_list (ts_cons rfl te_int ts_nil) (by decide)) (swaps_plain rfl) A' { s with heap := h₁, toks := tk₁ } [] _ _ (R'.le (by exact tE _ _)) r0 fun as1 g1 t1 fl r1 s1 v1 => ?_)
 obtain rfl := v1.inv
 dsimp only
 obtain ⟨l, rfl⟩ : ∃ l, as1 = [l] := by
  have e := r1.hr.len
  match as1, e with
  | [l], _ => exact ⟨l, rfl⟩
 have el : (s.heap.get? l = none) := by
  obtain ⟨ex, e, fx⟩ := s1.ext
  simp at e
  subst e
  cases z : s.heap.get? l with
  | none => rfl
  | some o => have := fx l (by simp); rw [keep _ _ z] at this; cases this
 have r1' : Rel C env ([Str.ofString "octets"] ++ [Str.ofString "place", Str.ofString "_law_read", Str.ofString "stream"]) [l] ⟨[some (.raw xv), some (.own 0), none, none], [.lst [.int 0]]⟩ g1 := r1
 -- def _law_read
 refine wpAny_execs_cons (nest_ok (s := { s with heap := g1, toks := t1 }) (cc := D.cc) (P := D.P) (i := 2) (hqual.symm ▸ D.T) ok hcode D.d0 D.k0 (D.a0 _) hclo rfl st2 r1' fun g2 t2 f doc cv ctv r2 s2 hf hco lf => ?_)
 dsimp only at s2 lf ⊢
 have r2' : Rel C env ([Str.ofString "octets"] ++ [Str.ofString "place", Str.ofString "_law_read", Str.ofString "stream"]) [l] ⟨[some (.raw xv), some (.own 0), some (.raw (.ref f)), none], [.lst [.int 0]]⟩ g2 := r2
 -- stream = _Example(place)
 refine wpAny_execs_cons (wpAny_Assign_Name (Call_ ((ce_gl (n := n) ok (by rw [hk]; kernel_rfl) (by decide +kernel) D.gl).ok _ _ _ rfl A' { s with heap := g2, toks := t2 } [l] _ _ (R'.le (by exact tE _ _)) r2' fun as3 g3 t3 y r3 s3 v3 => ?_) rfl) (swaps_plain rfl))
 obtain rfl := v3.inv
 have ea : as3 = [l] := by
  obtain ⟨ex, e, _⟩ := s3.ext
  have := r3.hr.len
  rw [e] at this
  cases ex with
  | nil => exact e
  | cons _ _ => simp at this
 subst ea
 refine callWith_K (D.ex.fr.at r3.wd) D.kp (args_cons (te_loc (n := n) ok (i := 1) (v := .own 0) rfl rfl (by decide +kernel) (by decide +kernel) A' _ [l] _ _ (R'.le (by exact tE _ _)) r3 fun as4 g4 t4 y r4 s4 v4 => args_nil ?_) rfl)
 have ea : as4 = [l] := by
  obtain ⟨ex, e, _⟩ := s4.ext
  have := r4.hr.len
  rw [e] at this
  cases ex with
  | nil => exact e
  | cons _ _ => simp at this
 subst ea
 obtain ⟨l', rfl, e4⟩ := v4.inv
 cases e4
 dsimp only
 refine ⟨D.ex.fr.at r4.wd, ?_⟩
 refine call_ex (n := n) D.ex pn (R'.le (by simp)) r4.wd fun g5 t5 a dx tv wd5 k5 lv5 ga gd fa_ fd_ ne => ?_
 have r5 := r4.called (hp' := [.lst [.int 0]]) ⟨fun b o e _ t => k5 b o t e, ⟨[], by simp, by simp⟩, lv5⟩ wd5 (HR.keepT r4.wd r4.hr k5)
 have s5 : Step C env [l] g4 [l] g5 := ⟨fun b o e _ _ _ t => k5 b o t e, ⟨[], by simp, by simp⟩, lv5⟩
 replace fa_ : g4.get? a = none := fa_
 replace fd_ : g4.get? dx = none := fd_
 have dead : ∀ {b : Addr}, g4.get? b = none → g2.get? b = none := fun {b} e => by
  cases z : g2.get? b with
  | none => rfl
  | some o => obtain ⟨o', z'⟩ := (s3.trans s4).live b o z; rw [e] at z'; cases z'
 have old : ∀ {b : Addr}, g2.get? b = none → s.heap.get? b = none := fun {b} e => by
  cases z : s.heap.get? b with
  | none => rfl
  | some o => obtain ⟨o', z'⟩ := (s1.trans s2).live b o (keep b o z); rw [e] at z'; cases z'
 have na := r4.deadAddr fa_
 have nd := r4.deadAddr fd_
 refine store_loc (s := { s with heap := g5, toks := t5 }) (v := .raw (.ref a)) (i := 3) ok rfl st3 r5 (.raw _) fun g6 t6 r6 s6 => ?_
 have r6' : Rel C env ([Str.ofString "octets"] ++ [Str.ofString "place", Str.ofString "_law_read", Str.ofString "stream"]) [l] ⟨[some (.raw xv), some (.own 0), some (.raw (.ref f)), some (.raw (.ref a))], [.lst [.int 0]]⟩ g6 := r6
 have ga6 := r5.keepAt s6 ga na
 have gd6 := r5.keepAt s6 gd nd
 -- stream.read = _law_read
 refine wpAny_execs_cons (plainObj_wpAny_Assign_Attribute (te_loc (n := n) ok (i := 2) (v := .raw (.ref f)) rfl rfl (by decide +kernel) (by decide +kernel) A' { s with heap := g6, toks := t6 } [l] _ _ (R'.le (by exact tE _ _)) r6' fun as7 g7 t7 y r7 s7 v7 =>
   te_loc (n := n) ok (i := 3) (v := .raw (.ref a)) rfl rfl (by decide +kernel) (by decide +kernel) A' _ as7 _ _ (R'.le (by exact tE _ _)) r7 fun as8 g8 t8 z r8 s8 v8 => ?_) rfl)
 obtain rfl := v7.inv
 obtain rfl := v8.inv
 have st8 := s7.trans s8
 have ga8 := r6'.keepAt st8 ga6 na
 have gd8 := r6'.keepAt st8 gd6 nd
 refine set_field (prog := C.prog) (w := C.w) (s := { s with heap := g8, toks := t8 }) (D.ex.fr.at r8.wd) (C0 := D.C0) (x := a) (dx := dx) (ox := instObj D.C0 dx) (od := valObj C.w.params (.ref l) tv) ⟨ga8, rfl, rfl, gd8⟩ D.ex.set rfl D.ex.po D.ex.tr D.ex.hd (by kernel_rfl) (put_read _ _ _ _ _) rfl (Nat.le_of_ble_eq_true rfl) fun g9 hd9 sb9 => ?_
 have ea8 : as8 = [l] := by
  obtain ⟨ex, e, _⟩ := st8.ext
  have := r8.hr.len
  rw [e] at this
  cases ex with
  | nil => exact e
  | cons _ _ => simp at this
 subst ea8
 have cdx : dx ∉ env.cells.map (·.2) := fun z => by
  obtain ⟨c, hcc, z⟩ := List.mem_map.mp z
  obtain ⟨_, v, oc, e, _⟩ := r4.cells c hcc
  rw [z, fd_] at e; cases e
 have odx : ¬ C.Old dx := fun z => by
  obtain ⟨o, e⟩ := r4.wd.live z
  rw [fd_] at e; cases e
 have k9 : ∀ b o, b ≠ dx → g8.get? b = some o → g9.get? b = some o := fun b o n e => (sb9.2 b n).trans e
 have r9 := r8.other (M := fun b => b = dx) k9 fun b e => by
  subst e
  refine ⟨odx, nd.1, cdx, nd.2.2.1, fun o e => ?_⟩
  rw [gd8] at e; cases e
  refine ⟨fun i => ?_, fun t => ?_⟩
  ·rcases i with ⟨_, _, i⟩ | ⟨_, _, i⟩ <;> cases i
  ·obtain ⟨_, _, i⟩ := t
   cases i
 refine wpAny_execs_cons (wpAny_Return_some (te_loc (n := n) ok (i := 3) (v := .raw (.ref a)) rfl rfl (by decide +kernel) (by decide +kernel) A' { s with heap := g9, toks := t8 + 2 } [l] _ _ (R'.le (by exact tE _ _)) r9 fun as10 g10 t10 y r10 s10 v10 => ?_))
 obtain rfl := v10.inv
 have ea10 : as10 = [l] := by
  obtain ⟨ex, e, _⟩ := s10.ext
  have := r10.hr.len
  rw [e] at this
  cases ex with
  | nil => exact e
  | cons _ _ => simp at this
 subst ea10
 dsimp only at s10 r10 ⊢
 -- the cells
 obtain ⟨mm, hmm, held⟩ := r10.fr
 obtain ⟨y1, hy1, q1⟩ := held 0 _ rfl
 obtain ⟨y2, hy2, q2⟩ := held 1 _ rfl
 cases hy1; cases hy2
 rcases q1 with ⟨k1, _⟩ | ⟨_, c1, w1, e1, ⟨o1, g1o, d1⟩, v1⟩
 ·rw [hk] at k1; exact absurd k1 (by decide +kernel)
 rcases q2 with ⟨k2, _⟩ | ⟨_, c2, w2, e2, ⟨o2, g2o, d2⟩, v2⟩
 ·rw [hk] at k2; exact absurd k2 (by decide +kernel)
 cases v1
 cases v2 with | own _ l2 el2 =>
 cases el2
 have ec1 : c1 = s.heap.objs.size + 1 := by
  rw [hc] at e1
  have : List.lookup (Str.ofString "octets") [(Str.ofString "place", s.heap.objs.size + 1 + 1), (Str.ofString "octets", s.heap.objs.size + 1)] = some (s.heap.objs.size + 1) := by kernel_rfl
  rw [this] at e1; cases e1; rfl
 have ec2 : c2 = s.heap.objs.size + 1 + 1 := by
  rw [hc] at e2
  have : List.lookup (Str.ofString "place") [(Str.ofString "place", s.heap.objs.size + 1 + 1), (Str.ofString "octets", s.heap.objs.size + 1)] = some (s.heap.objs.size + 1 + 1) := by kernel_rfl
  rw [this] at e2; cases e2; rfl
 -- what is kept
 have sA := s1.trans (s2.trans (s3.trans (s4.trans (s5.trans (s6.trans st8)))))
 have ltL : ∀ {b : Addr} {o : Obj}, s.heap.get? b = some o → b < s.heap.objs.size := fun e => Heap.lt_size e
 have neC : ∀ {b : Addr} {o : Obj}, s.heap.get? b = some o → b ∉ mcells env := fun {b o} e z => by
  obtain ⟨c, hcc, z⟩ := List.mem_map.mp (mem_mc z)
  exact absurd (ltL e) (Nat.not_lt.mpr (Nat.le_of_lt (z ▸ ab c hcc)))
 have odead : s.heap.get? dx = none := old (dead fd_)
 have neL : ∀ {b : Addr} {o : Obj}, s.heap.get? b = some o → b ≠ env.locals := fun {b o} e z => by
  rw [hloc] at z
  exact Nat.lt_irrefl _ (z ▸ ltL e)
 have kAll : ∀ b o, b ∉ C.T → s.heap.get? b = some o → g10.get? b = some o := fun b o nt e => by
  refine s10.keep b o (k9 b o (fun z => by rw [z, odead] at e; cases e) (sA.keep b o (keep b o e) (neL e) (neC e) (by simp) nt)) (neL e) (neC e) (fun m => ?_) nt
  rw [List.mem_singleton.mp m, el] at e; cases e
 have lAll : ∀ b o, s.heap.get? b = some o → ∃ o', g10.get? b = some o' := fun b o e => by
  obtain ⟨o1', e1'⟩ := sA.live b o (keep b o e)
  exact s10.live b o1' (k9 b o1' (fun z => by rw [z, odead] at e; cases e) e1')
 have nf := r1'.newAddr lf
 have of : s.heap.get? f = none := by
  cases z : s.heap.get? f with
  | none => rfl
  | some o =>
   obtain ⟨o', z'⟩ := s1.live f o (keep f o z)
   exact absurd (Heap.lt_size z') (Nat.not_lt.mpr lf)
 have hf4 : g4.get? f = some (fnAny C.mg (Str.ofString "_law_read") (qualnameIn env (Str.ofString "_law_read") (Str.ofString "_law_read")) D.rp (.stmts D.rb) D.rs [(Str.ofString "place", s.heap.objs.size + 1 + 1), (Str.ofString "octets", s.heap.objs.size + 1)] doc cv ctv) := r2'.keepAt (s3.trans s4) hf nf
 have hf8 := r6'.keepAt st8 (r5.keepAt s6 (k5 f _ nf.2.2.2 hf4) nf) nf
 have fdx : f ≠ dx := fun z => by rw [z, fd_] at hf4; cases hf4
 have hf10 := r9.keepAt s10 (k9 f _ fdx hf8) nf
 have hco8 : CodeOf g8 cv _ := (((((hco.step r2' (s3.trans s4)).step r4 s5).step r5 s6).step r6' s7).step r7 s8)
 have hco9 : CodeOf g9 cv (qualnameIn env (Str.ofString "_law_read") (Str.ofString "_law_read")) := hco8.keeps fun b o e t => k9 b o (fun z => by
  rw [z, gd8] at e; cases e
  obtain ⟨_, _, i⟩ := t
  cases i) e
 obtain ⟨c', oc, vsc, tc, rfl, oc1, oc2, oc3, oc4⟩ := hco9.step r9 s10
 have adx : a ≠ dx := fun z => by
  rw [z] at ga8
  rw [gd8] at ga8; cases ga8
 have lc : ∀ {c : Addr}, c ∈ env.cells.map (·.2) → c ≠ l := fun m z => (r10.own_ne (a := l) (by simp)).2.1 (z ▸ m)
 have mc1 : s.heap.objs.size + 1 ∈ env.cells.map (·.2) := by rw [hc]; simp
 have mc2 : s.heap.objs.size + 1 + 1 ∈ env.cells.map (·.2) := by rw [hc]; simp
 refine fin g10 t10 ⟨a, l, dx, f, c1, c2, c', oc, o1, o2, tv, t8 + 1, xv, doc, ctv, x⟩ ⟨oc2, ⟨vsc, tc, oc3, by rw [hqual] at oc4; exact oc4⟩, d1, d2, hx, by show c1 ≠ c2; rw [ec1, ec2]; exact Nat.ne_of_lt (Nat.lt_succ_self _)⟩ rfl r10.wd r10.hr kAll lAll ?_ oc1 el
 rintro p hp
 simp only [Strm.objs, List.mem_cons, List.not_mem_nil, or_false] at hp
 rcases hp with rfl | rfl | rfl | rfl | rfl
 ·exact ⟨r9.keepAt s10 (k9 a _ adx ga8) na, old (dead fa_), fun z => na.2.2.1 (by rw [show a = l from z]; simp)⟩
 ·exact ⟨r9.keepAt s10 hd9 nd, odead, fun z => nd.2.2.1 (by rw [show dx = l from z]; simp)⟩
 ·refine ⟨?_, of, fun z => nf.2.2.1 (by rw [show f = l from z]; simp)⟩
  rw [hqual] at hf10
  subst ec1 ec2
  exact hf10
 ·subst ec1
  exact ⟨g1o, fresh_none (Nat.le_succ _), lc mc1⟩
 ·subst ec2
  exact ⟨g2o, fresh_none (Nat.le_succ_of_le (Nat.le_succ _)), lc mc2⟩
end
noncomputable def Cx.more (C : Cx) (N : List (Addr × Obj)) (pin : List (Nat × Addr)) : Cx :=
 { C with base := fun a o => C.base a o ∨ (a, o) ∈ N, pin := pin, lim := fun h k => C.lim h fun a o b => k a o (.inl b), hg := fun h k => C.hg h fun a o b => k a o (.inl b), hb := fun h k => C.hb h fun a o b => k a o (.inl b) }
section
variable {C : Cx} {K : Frag} {n m : Nat} {env : Env} {ns : List Str} {σ σ' σ₁ σ₂ σ₃ σ₄ : Sg} {as as' : List Addr} {h h' : Heap} {a b c d v : V} {f : F} {hp : List O} {N : List (Addr × Obj)} {pin : List (Nat × Addr)}
theorem more_old {a : Addr} (x : (C.more N pin).Old a) : C.Old a ∨ ∃ o, (a, o) ∈ N := by
 rcases x with ⟨o, b | b⟩ | m
 ·exact .inl (.inl ⟨o, b⟩)
 ·exact .inr ⟨o, b⟩
 ·exact .inl (.inr m)
theorem old_more {a : Addr} (x : C.Old a) : (C.more N pin).Old a := x.imp (fun ⟨o, b⟩ => ⟨o, .inl b⟩) id
theorem more_wd : (C.more N pin).Wd h ↔ C.Wd h ∧ ∀ p ∈ N, h.get? p.1 = some p.2 :=
 ⟨fun r => ⟨⟨fun a o b => r.base a o (.inl b), r.T, r.tabs⟩, fun p hp => r.base p.1 p.2 (.inr hp)⟩, fun ⟨r, k⟩ => ⟨fun a o b => b.elim (r.base a o) fun m => k (a, o) m, r.T, r.tabs⟩⟩
theorem HR.less (pn : C.pin = []) (r : HR (C.more N pin) as hp h) : HR C as hp h := ⟨r.len, r.nodup, fun a m z => r.above a m (old_more z), by simp [pn], r.has⟩
theorem HR.setAt {C : Cx} {k : Nat} {l : Addr} (wd : C.Wd h) (r : HR C as hp h) (hl : as[k]? = some l) (kp : ∀ b o, b ≠ l → b ∉ C.T → h.get? b = some o → h'.get? b = some o) {vs : List V} {vals : List Value} (pl : PlainL h' l vals.toArray) (q : VRs as h' vs vals) : HR C as (hp.set k (.lst vs)) h' := by
 have ml := List.mem_of_getElem? hl
 have kI : ∀ b o, h.get? b = some o → b ∉ as → Imm o → h'.get? b = some o := fun b o e nm im => kp b o (fun z => nm (z ▸ ml)) (fun z => by
  obtain ⟨vs, h1⟩ := wd.T b z
  rw [e] at h1; cases h1
  rcases im with ⟨_, _, i⟩ | ⟨i | i, _⟩ <;> cases i) e
 refine ⟨by simp [r.len], r.nodup, r.above, r.pin, fun i o e => ?_⟩
 rw [List.getElem?_set] at e
 by_cases ki : k = i
 ·subst ki
  rw [if_pos rfl] at e
  split at e
  ·cases e
   exact ⟨l, hl, vals, pl, q⟩
  ·cases e
 ·rw [if_neg ki] at e
  obtain ⟨a, ha, qo⟩ := r.has i o e
  have ne : a ≠ l := by
   rintro rfl
   exact ki (nodup_get r.nodup hl ha)
  exact ⟨a, ha, OR.keep kI (fun o e => kp a o ne (fun z => r.above a (List.mem_of_getElem? ha) (.inr z)) e) qo⟩
end
section
variable {prog : Program} {w : World} {A : Around} {E : Value → Shared → Prop} {s : Shared} {K : Frag}
theorem get_field {x C0 : Addr} {ox : Obj} {es : List DictEntry} {nn : Nat} {name : Str} {v : Value} {expr : Bool} {Q : Value → Shared → Prop} (X : K.In s.heap) (I : InstAt s.heap x ox C0 (some (dictOf es nn))) (hg : plainGet K C0 name = true) (hh : hasDictIn K C0 = true) (ha : findIn K (.ref C0) name = some none) (hl : getL name es = some (some v)) (hv : handedIn v = true)
  (h : Q v { s with toks := s.toks + 1 }) : wpAny (model prog w) A (getAttr (.ref x) name expr) Q E s :=
 get_value X I (plainGet_of hg).1 (findObj_own hh ha rfl hl) hv h
theorem get_meth {x C0 : Addr} {ox : Obj} {es : List DictEntry} {nn : Nat} {name : Str} {v : Value} {pl : Sem Bool} {Q : Value × List Value → Shared → Prop} (X : K.In s.heap) (I : InstAt s.heap x ox C0 (some (dictOf es nn))) (hg : plainGet K C0 name = true) (hh : hasDictIn K C0 = true) (ha : findIn K (.ref C0) name = some none) (hl : getL name es = some (some v)) (hv : handedIn v = true)
  (h : Q (v, []) { s with toks := s.toks + 1 }) : wpAny (model prog w) A (getMethod (.ref x) name pl) Q E s :=
 method_usual X I (plainGet_of hg).1 (plainGet_of hg).2 ha rfl (get_field X I hg hh ha hl hv h)
end
noncomputable def y_set (o i x : SE) : SY := fun σ => (x σ).bind fun p => (o p.2).bind fun q => q.1.onO fun k => (i q.2).bind fun r => r.1.onI fun j => (r.2.hp[k]?).bind fun u => u.onL fun vs => if 0 ≤ j ∧ j < vs.length ∧ vs.length ≤ smallN then some (.next, r.2.setO k (.lst (vs.set j.toNat p.1))) else none
theorem set_of {o i x : SE} {σ σ₁ σ₂ σ₃ : Sg} {v : V} {k : Nat} {j : Int} {vs : List V} (hx : x σ = some (v, σ₁)) (ho : o σ₁ = some (.own k, σ₂)) (hi : i σ₂ = some (.int j, σ₃)) (hk : σ₃.hp[k]? = some (.lst vs)) (hz : 0 ≤ j ∧ j < vs.length ∧ vs.length ≤ smallN) : y_set o i x σ = some (.next, σ₃.setO k (.lst (vs.set j.toNat v))) := by
 unfold y_set
 rw [hx]; show (o σ₁).bind _ = _
 rw [ho]; show (i σ₂).bind _ = _
 rw [hi]; show (σ₃.hp[k]?).bind _ = _
 rw [hk]; exact if_pos hz
theorem setAt_plain {prog : Program} {w : World} {A : Around} {E : Value → Shared → Prop} {s : Shared} {l : Addr} {items : Array Value} {k : Int} {t : Tok} {v : Value} {Q : Unit → Shared → Prop} (pl : PlainL s.heap l items) (h0 : 0 ≤ k) (hfit : k < 2 ^ 63) (hn : k < items.size)
  (hQ : ∀ h', PlainL h' l (items.setIfInBounds k.toNat v) → Heap.SameBut l s.heap h' → Q () { s with heap := h' }) : wpAny (model prog w) A (setItem (.ref l) (.int k t) v) Q E s := by
 have hl := pl.isList
 obtain ⟨o, nn, ho, hc, hdn, hd⟩ := pl
 unfold setItem
 try with_reducible refine wpAny_holding ?_
 first | refine wpAny_bind (wpAny_pure ?_) | skip
 refine wpAny_bind (wpAny_sequenceKey hl.typeIs (by decide) ?_)
 refine wpAny_bind (wpAny_callSpecial?_slot (name := Str.ofString "__setitem__") hl.typeIs slot_list_setitem
  (wpAny_call_entry slot_list_setitem hl.typeIs entry_list_setitem ?_ (args_list_setitem _ _ _)))
 show wpAny _ _ (Builtin.List.listSubscript? (.int k t) >>= _) _ _ s
 refine wpAny_bind (wpAny_listSubscript_int (fitsIndex_of h0 hfit) ?_)
 clear hfit
 obtain ⟨j, rfl⟩ := Int.eq_ofNat_of_zero_le h0
 have hj : j < items.size := by lia
 have hx' : items[j]? = some items[j] := Array.getElem?_eq_getElem hj
 show wpAny _ _ ((seqItemAt l j >>= fun r => pure (r.map (j, ·))) >>= _) _ _ s
 refine wpAny_bind (wpAny_bind (wpAny_seqItemAt ho hd (wpAny_pure ?_)))
 rw [hx']
 show wpAny _ _ (setSeqItemAt l j v >>= _) _ _ s
 obtain ⟨n', hd'⟩ := Obj.data_mapSeq hd (·.setIfInBounds j v)
 have fin : PlainL (s.heap.update l (Obj.mapSeq (·.setIfInBounds j v))) l (items.setIfInBounds j v) := by
  refine ⟨_, n', Heap.get?_update_self _ ho (Obj.isFreed_of_seq hd'), (Obj.cls_mapSeq ..).trans hc, ?_, hd'⟩
  obtain ⟨c, d, dt, sl⟩ := o
  subst hd
  exact hdn
 refine wpAny_bind (wpAny_setSeqItemAt ho hd ?_)
 first
  | exact wpAny_bind (wpAny_pure (wpAny_pure ⟨.none, rfl, wpAny_pure (hQ _ fin (Heap.SameBut.update ..))⟩))
  | exact wpAny_pure ⟨.none, rfl, wpAny_pure (hQ _ fin (Heap.SameBut.update ..))⟩
section
variable {C : Cx} {n m : Nat} {env : Env} {ns : List Str} {σ σ' σ₁ σ₂ σ₃ σ₄ : Sg} {as as' : List Addr} {h h' : Heap} {a b c d v : V} {f : F} {hp : List O}
theorem VRs.set {vs : List V} {xs : List Value} (r : VRs as h vs xs) {j : Nat} {w : V} {x : Value} (q : VR as h w x) : VRs as h (vs.set j w) (xs.set j x) := by
 induction vs generalizing xs j with
 | nil => obtain rfl := r.inv; exact .nil
 | cons y vs ih =>
  obtain ⟨z, zs, rfl, a, r⟩ := r.inv
  cases j with
  | zero => exact .cons _ _ _ _ q r
  | succ j => exact .cons _ _ _ _ a (ih r)
theorem cy_set {o i value : PySem.Expr} {p pos : Pos} {so si sx : SE} (hs : swapsWith value (some (.Subscript o i p)) pos.line env = pure false) (h1 : CE C n env ns value sx) (h2 : CE C n env ns o so) (h3 : CE C n env ns i si) :
  CY C n env ns (.Assign [.Subscript o i p] value pos) (y_set so si sx) := .mk fun σ f σ' hh => by
 replace hh := bnd hh; obtain ⟨⟨v, σ₁⟩, e1, hh⟩ := hh
 replace hh := bnd hh; obtain ⟨⟨w, σ₂⟩, e2, hh⟩ := hh
 replace hh := V.onO_some hh; obtain ⟨k, ew, hh⟩ := hh
 replace hh := bnd hh; obtain ⟨⟨u, σ₃⟩, e3, hh⟩ := hh
 replace hh := V.onI_some hh; obtain ⟨j, eu, hh⟩ := hh
 replace hh := bnd hh; obtain ⟨o', hk, hh⟩ := hh
 replace hh := O.onL_some hh; obtain ⟨vs, rfl, hh⟩ := hh
 replace hh := if_some hh; obtain ⟨hz, hh⟩ := hh
 cases (ew : w = _); cases (eu : u = _); cases hh
 intro A s as Q E R r fin
 refine wpAny_Assign_Subscript (h1.ok _ _ _ e1 A s as _ E R r fun as1 g1 t1 x r1 s1 v1 => h2.ok _ _ _ e2 A _ as1 _ E R r1 fun as2 g2 t2 y r2 s2 v2 => h3.ok _ _ _ e3 A _ as2 _ E R r2 fun as3 g3 t3 z r3 s3 v3 => ?_) hs
 have v1' := r2.move s3 (r1.move s2 v1)
 have v2' := r2.move s3 v2
 obtain ⟨_, rfl⟩ := v3.inv
 obtain ⟨l, rfl, el⟩ := v2'.inv
 obtain ⟨l', el', vals, pl, q⟩ := r3.hr.has _ _ hk
 cases Option.some.inj (el.symm.trans el')
 have len := q.length
 have jl : j < 2 ^ 63 := by have := hz.2; unfold smallN at this; lia
 have jn : j < (vals.toArray.size : Int) := by rw [List.size_toArray, len]; exact hz.2.1
 refine setAt_plain pl hz.1 jl jn fun h' hl hsb => ?_
 have e3 : vals.toArray.setIfInBounds j.toNat x = (vals.set j.toNat x).toArray := by simp
 rw [e3] at hl
 exact fin as3 h' t3 _ (r3.setOwn el hsb (q.set v1') hl) (s1.trans (s2.trans (s3.trans (Step.setOwn el hsb (let ⟨o, _, g, _⟩ := hl; ⟨o, g⟩))))) .next
end
noncomputable def sem_read : SY := y_seq (y_asg 1 (s_idx (s_loc 3) (s_c (.int 0)))) (y_seq (y_set (s_loc 3) (s_c (.int 0)) (s_blt .min (s_cons (s_bin .Add (s_loc 1) (s_loc 0)) (s_cons (s_blt .len (s_cons (s_loc 2) s_nil)) s_nil)))) (y_seq (y_ret (s_slc (s_loc 2) (s_loc 1) (s_idx (s_loc 3) (s_c (.int 0))))) y_nil))
noncomputable def rdTo (x : List Nat) (p z : Int) : Int := if (x.length : Int) < p + z then x.length else p + z
theorem read_sem {x : List Nat} {p z : Int} (hx : x.length ≤ smallN) :
  sem_read ⟨[some (.int z), none, some (.byt x), some (.own 0)], [.lst [.int p]]⟩ = some (.ret (.byt (cut x (some p) (some (rdTo x p z)))), ⟨[some (.int z), some (.int p), some (.byt x), some (.own 0)], [.lst [.int (rdTo x p z)]]⟩) := by
 exact seq_n (asg_of (s_idx_of (u := .own 0) (v := .int 0) (w := .int p) rfl rfl rfl)) (seq_n (set_of (k := 0) (vs := [.int p]) (v := .int (rdTo x p z)) (j := 0) (blt_of (vs := [.int (p + z), .int x.length]) (cons_of (bin_of (v := .int p) (w := .int z) rfl rfl rfl) (cons_of (blt_of (v := .int x.length) (cons_of (v := .byt x) rfl rfl) (if_pos hx)) rfl)) rfl) rfl rfl rfl ⟨by decide, by show (0 : Int) < 1; decide, by show 1 ≤ smallN; decide⟩) (seq_ret (ret_of (sl_of (u := .byt x) (v := .int p) (w := .int (rdTo x p z)) rfl rfl (s_idx_of (u := .own 0) (v := .int 0) rfl rfl rfl) (slcV_byt rfl rfl hx)))))
noncomputable abbrev rNames : List Str := [Str.ofString "size", Str.ofString "start", Str.ofString "octets", Str.ofString "place"]
noncomputable abbrev rEnv (rs : Scope) (L f : Addr) (cv : Value) (c2 c1 : Addr) : Env := envX "_law_stream.<locals>._law_read" rs L f cv [(Str.ofString "place", c2), (Str.ofString "octets", c1)]
structure RdT (C : Cx) (n : Nat) {K : Frag} (D : StrD C K) : Prop where
 run : ∀ L f cv c2 c1, EnvOk (rEnv D.rs L f cv c2 c1) rNames → CB C n (rEnv D.rs L f cv c2 c1) rNames D.rb sem_read
 bnd : ∀ (fd : FuncData) (v : Value), fd.params = D.rp → fd.defaults = .none → fd.kwdefaults = .none → bindArgs fd ⟨[v], []⟩ = pure [(Str.ofString "size", v)]
 co : D.rs.isCoroutine = false
 gen : D.rs.isGenerator = false
 kind : D.rs.kind = .function
structure Live (C : Cx) {K : Frag} (D : StrD C K) (S : Strm) : Prop where
 ok : S.Ok
 new : ∀ p ∈ S.objs D, ¬ C.Old p.1
 pn : C.pin = []
noncomputable abbrev Cx.str (C : Cx) {K : Frag} (D : StrD C K) (S : Strm) (k : Nat) : Cx := C.more ((S.cv, S.oc) :: S.objs D) [(k, S.l)]
section
variable {C : Cx} {K : Frag} {n m : Nat} {env : Env} {ns : List Str} {σ σ' σ₁ σ₂ σ₃ σ₄ : Sg} {as as' : List Addr} {h h' : Heap} {a b c d v : V} {f : F} {hp : List O}
theorem call_read {D : StrD C K} {S : Strm} {k : Nat} (T : RdT C n D) (Lv : Live C D S) {A : Around} {s : Shared} {p z : Int} {t : Tok} {Q : Value → Shared → Prop} {E : Value → Shared → Prop} (R : Room (n + 1) A) (wd : (C.str D S k).Wd s.heap) (hr : HR (C.str D S k) as hp s.heap)
  (hk : hp[k]? = some (.lst [.int p])) (hz : S.x.length ≤ smallN)
  (fin : ∀ h' tk val, (C.str D S k).Wd h' → HR (C.str D S k) as (hp.set k (.lst [.int (rdTo S.x p z)])) h' → KeepA (C.str D S k) as s.heap as h' → VR as h' (.byt (cut S.x (some p) (some (rdTo S.x p z)))) val → Q val { s with heap := h', toks := tk }) :
  wpAny (model C.prog C.w) A (call (.ref S.f) [.int z t]) Q E s := by
 obtain ⟨wd0, wn⟩ := more_wd.mp wd
 have hl : as[k]? = some S.l := hr.pin (k, S.l) (List.mem_cons_self ..)
 have gf : s.heap.get? S.f = some (S.fn D) := wn (S.f, S.fn D) (by simp [Strm.objs])
 have gcv : s.heap.get? S.cv = some S.oc := wn (S.cv, S.oc) (List.mem_cons_self ..)
 have g1 : s.heap.get? S.c1 = some S.o1 := wn (S.c1, S.o1) (by simp [Strm.objs])
 have g2 : s.heap.get? S.c2 = some S.o2 := wn (S.c2, S.o2) (by simp [Strm.objs])
 obtain ⟨vs, tq, ov, ov1⟩ := Lv.ok.ov
 have hrec : s.heap.CodeRec (.ref S.cv) (Str.ofString "_law_stream.<locals>._law_read") := ⟨S.cv, S.oc, vs, tq, rfl, gcv, ov, ov1⟩
 obtain ⟨l', hl', vals, pl, q⟩ := hr.has _ _ hk
 rw [hl] at hl'; cases hl'
 refine wpAny_call (codeAny_call_function (by have := R.2.1; exact tB (tE _ _) ‹_›) gf rfl T.co T.gen rfl hrec ?_)
 rw [T.bnd _ _ rfl rfl rfl]
 have hk' : ∀ L y, (rEnv D.rs L S.f (.ref S.cv) S.c2 S.c1).kindOf y = List.lookup y [(Str.ofString "size", .local), (Str.ofString "start", .local), (Str.ofString "octets", .free), (Str.ofString "place", .free), (Str.ofString "min", .globalImplicit), (Str.ofString "len", .globalImplicit)] := fun L y => by
  show D.rs.names.lookup y = _
  rw [D.rnames]
 have ok : EnvOk (rEnv D.rs s.heap.objs.size S.f (.ref S.cv) S.c2 S.c1) rNames := ⟨T.kind, rfl, rfl, by decide +kernel, by simp [Ne.symm Lv.ok.c]⟩
 have mc0 : mcells (rEnv D.rs s.heap.objs.size S.f (.ref S.cv) S.c2 S.c1) = [] := by
  unfold mcells
  rw [if_pos (show (rEnv D.rs s.heap.objs.size S.f (.ref S.cv) S.c2 S.c1).func.isSome = true from rfl)]
  have e1 : (rEnv D.rs s.heap.objs.size S.f (.ref S.cv) S.c2 S.c1).kindOf (Str.ofString "place") = some .free := by rw [hk']; kernel_rfl
  have e2 : (rEnv D.rs s.heap.objs.size S.f (.ref S.cv) S.c2 S.c1).kindOf (Str.ofString "octets") = some .free := by rw [hk']; kernel_rfl
  show List.map _ (List.filter _ [(Str.ofString "place", S.c2), (Str.ofString "octets", S.c1)]) = []
  rw [List.filter_cons, List.filter_cons, e1, e2]
  rfl
 refine wpAny_pure (wpAny_newFunctionEnv ?_ ?_ (fun h1 hns hsb => ?_) T.kind)
 ·show ∀ x ∈ D.rs.names, x.2 ≠ .cell
  rw [D.rnames]; decide +kernel
 ·show ∀ x ∈ [(Str.ofString "size", Value.int z t)], D.rs.names.lookup x.1 = some .local
  intro x hx
  rw [List.mem_singleton.mp hx, D.rnames]
  kernel_rfl
 ·have keep : ∀ b o, s.heap.get? b = some o → h1.get? b = some o := fun b o e => hsb.extBut b o (Nat.ne_of_lt (Heap.lt_size e)) (Heap.get?_push_of_some _ e)
  have wd1 := wd0.grow keep
  refine ⟨wd1.lim, codeAny_func ?_⟩
  have lo : ¬ C.Old S.l := fun z => hr.above _ (List.mem_of_getElem? hl) (old_more z)
  have r0 : Rel C (rEnv D.rs s.heap.objs.size S.f (.ref S.cv) S.c2 S.c1) rNames [S.l] ⟨[some (.int z), none, some (.byt S.x), some (.own 0)], [.lst [.int p]]⟩ h1 := by
   refine ⟨wd1, ⟨rfl, by simp, fun a m => by rw [List.mem_singleton.mp m]; exact lo, by simp [Lv.pn], fun i o e => ?_⟩, ⟨_, hns, fun i v e => ?_⟩, fun c hc => ?_, wd0.fresh (Nat.le_refl _)⟩
   ·match i, e with
    | 0, e =>
     cases e
     exact ⟨S.l, rfl, vals, pl.keeps keep, q.ofImm rfl⟩
   ·match i, e with
    | 0, e =>
     cases e
     exact ⟨_, rfl, .inl ⟨by rw [hk']; kernel_rfl, .int z t, by simp [List.lookup], .int _ _⟩⟩
    | 2, e =>
     cases e
     exact ⟨_, rfl, .inr ⟨.inr (by rw [hk']; kernel_rfl), S.c1, S.v, by kernel_rfl, ⟨S.o1, keep _ _ g1, Lv.ok.o1⟩, Lv.ok.v _ _⟩⟩
    | 3, e =>
     cases e
     exact ⟨_, rfl, .inr ⟨.inr (by rw [hk']; kernel_rfl), S.c2, .ref S.l, by kernel_rfl, ⟨S.o2, keep _ _ g2, Lv.ok.o2⟩, .own 0 _ rfl⟩⟩
   ·simp only [rEnv, List.mem_cons, List.not_mem_nil, or_false] at hc
    rcases hc with rfl | rfl
    ·exact ⟨Lv.new (S.c2, S.o2) (by simp [Strm.objs]), _, S.o2, keep _ _ g2, Lv.ok.o2⟩
    ·exact ⟨Lv.new (S.c1, S.o1) (by simp [Strm.objs]), _, S.o1, keep _ _ g1, Lv.ok.o1⟩
  refine (T.run _ _ _ _ _ ok).ok _ _ _ (read_sem hz) (A.deeper _) { s with heap := h1, toks := s.toks + 1 } [S.l] _ _ ⟨R.1, ?_, ?_⟩ r0 fun as2 g t2 y r2 s2 v2 => ?_
  ·show A.depth + 1 + n < recursionLimit
   have := R.2.1; lia
  ·show A.units + 3 + 20 * n < cLine
   have := R.2.2; lia
  ·have ea : as2 = [S.l] := by
    obtain ⟨ex, e, _⟩ := s2.ext
    have := r2.hr.len
    rw [e] at this
    cases ex with
    | nil => exact e
    | cons _ _ => simp at this
   subst ea
   replace v2 := v2.inv; obtain ⟨val, rfl, v2⟩ := v2
   have kB : ∀ b o, b ≠ S.l → b ∉ C.T → s.heap.get? b = some o → g.get? b = some o := fun b o n1 n2 e => s2.keep b o (keep b o e) (Nat.ne_of_lt (Heap.lt_size e)) (by rw [mc0]; simp) (fun m => n1 (List.mem_singleton.mp m)) n2
   obtain ⟨l2, e2, vals2, pl2, q2⟩ := r2.hr.has 0 _ rfl
   cases e2
   have ml := List.mem_of_getElem? hl
   refine fin g t2 val (more_wd.mpr ⟨r2.wd, fun p hp => kB _ _ (fun z => hr.above _ ml (.inl ⟨p.2, .inr (z ▸ hp)⟩)) (fun m => ?_) (wn p hp)⟩) (HR.setAt wd hr hl kB pl2 (q2.ofImm rfl)) ⟨fun b o e na nt => kB b o (fun z => na (z ▸ ml)) nt e, ⟨[], by simp, by simp⟩, fun b o e => s2.live b o (keep b o e)⟩ (v2.ofImm rfl)
   rcases List.mem_cons.mp hp with rfl | hp
   ·obtain ⟨vs, e⟩ := wd0.T _ m
    rw [gcv] at e
    have := Lv.ok.oc
    rw [Option.some.inj e] at this
    cases this
   ·exact Lv.new p hp (.inr m)
end
noncomputable def V.onRf {α : Type} (v : V) (f : Addr → Option α) : Option α := match v with
 | .raw w => match w with
  | .ref a => f a
  | _ => Option.none
 | _ => Option.none
theorem V.onRf_some {α : Type} {v : V} {f : Addr → Option α} {r : α} (e : v.onRf f = some r) : ∃ a, v = .raw (.ref a) ∧ f a = some r := by
 cases v with
 | raw w => cases w with
  | ref a => exact ⟨a, rfl, e⟩
  | _ => cases e
 | _ => cases e
noncomputable def s_rd (a : Addr) (k : Nat) (x : List Nat) (o e : SE) : SE := fun σ => (o σ).bind fun q => q.1.onRf fun a' => if a' = a then (e q.2).bind fun q => q.1.onI fun z => (q.2.hp[k]?).bind fun u => u.onL fun l => match l with
 | [] => none
 | w :: r => match r with
  | [] => w.onI fun p => if x.length ≤ smallN then some (.byt (cut x (some p) (some (rdTo x p z))), q.2.setO k (.lst [.int (rdTo x p z)])) else none
  | _ :: _ => none
 else none
theorem rd_of {a : Addr} {k : Nat} {x : List Nat} {o e : SE} {σ σ₁ σ₂ : Sg} {z p : Int} (ho : o σ = some (.raw (.ref a), σ₁)) (he : e σ₁ = some (.int z, σ₂)) (hk : σ₂.hp[k]? = some (.lst [.int p])) (hx : x.length ≤ smallN) : s_rd a k x o e σ = some (.byt (cut x (some p) (some (rdTo x p z))), σ₂.setO k (.lst [.int (rdTo x p z)])) := by
 unfold s_rd
 rw [ho]; refine (if_pos rfl).trans ?_
 rw [he]; show (σ₂.hp[k]?).bind _ = _
 rw [hk]; exact if_pos hx
structure RdK (C : Cx) {K : Frag} (D : StrD C K) : Prop where
 hd : hasDictIn K D.C0 = true
 pv : plainGet K D.C0 (Str.ofString "value") = true
 pr : plainGet K D.C0 (Str.ofString "read") = true
 fv : findIn K (.ref D.C0) (Str.ofString "value") = some none
 fr : findIn K (.ref D.C0) (Str.ofString "read") = some none
section
variable {C : Cx} {K : Frag} {n m : Nat} {env : Env} {ns : List Str} {σ σ' σ₁ σ₂ σ₃ σ₄ : Sg} {as as' : List Addr} {h h' : Heap} {a b c d v : V} {f : F} {hp : List O}
theorem str_inst {D : StrD C K} {S : Strm} {k : Nat} (wd : (C.str D S k).Wd h) : InstAt h S.a (instObj D.C0 S.dx) D.C0 (some (dictOf [⟨PyData.keyHash C.w.params (Str.ofString "value"), .str (Str.ofString "value") S.t, .ref S.l⟩, ⟨PyData.keyHash C.w.params (Str.ofString "read"), .str (Str.ofString "read") S.u, .ref S.f⟩] 2)) := by
 obtain ⟨_, wn⟩ := more_wd.mp wd
 exact ⟨wn (S.a, instObj D.C0 S.dx) (by simp [Strm.objs]), rfl, rfl, wn (S.dx, strDict C.w.params S.l S.f S.t S.u) (by simp [Strm.objs])⟩
theorem str_fn {D : StrD C K} {S : Strm} {k : Nat} (wd : (C.str D S k).Wd h) : FnAt S.f h := by
 obtain ⟨_, wn⟩ := more_wd.mp wd
 exact ⟨_, _, _, _, wn (S.f, S.fn D) (by simp [Strm.objs])⟩
theorem ce_rd {D : StrD C K} {S : Strm} {k : Nat} (X : RdK C D) (T : RdT C n D) (Lv : Live C D S) {xn : Str} {p0 p1 pos : Pos} {e : PySem.Expr} {so se : SE} (hn : notStar e = true) (hp : (p1.endLine == pos.line) = true) (h1 : CE (C.str D S k) (n + 1) env ns (.Name xn p0) so) (h2 : CE (C.str D S k) (n + 1) env ns e se) :
  CE (C.str D S k) (n + 1) env ns (.Call (.Attribute (.Name xn p0) (Str.ofString "read") p1) [e] [] pos) (s_rd S.a k S.x so se) := .mk fun σ v σ' hh => by
 replace hh := bnd hh; obtain ⟨⟨w, σ₁⟩, e1, hh⟩ := hh
 replace hh := V.onRf_some hh; obtain ⟨a', ew, hh⟩ := hh
 replace hh := if_some hh; obtain ⟨rfl, hh⟩ := hh
 replace hh := bnd hh; obtain ⟨⟨u, σ₂⟩, e2, hh⟩ := hh
 replace hh := V.onI_some hh; obtain ⟨z, eu, hh⟩ := hh
 replace hh := bnd hh; obtain ⟨o, hk, hh⟩ := hh
 replace hh := O.onL_some hh; obtain ⟨l, rfl, hh⟩ := hh
 cases (ew : w = _); cases (eu : u = _)
 cases l with
 | nil => cases hh
 | cons w l => cases l with
 | cons => cases hh
 | nil =>
 replace hh := V.onI_some hh; obtain ⟨p, rfl, hh⟩ := hh
 replace hh := if_some hh; obtain ⟨hz, hh⟩ := hh
 cases hh
 intro A s as Q E R r fin
 have hs : starEach [e] env = (false, eval e env) :: starEach [] env := starEach_cons hn
 refine MethodCall_ (h1.ok _ _ _ e1 A s as _ E R r fun as1 g1 t1 y r1 s1 v1 => ?_) (meth_eq rfl (by simp [hn]) (by simp) hp)
 obtain rfl := v1.inv
 refine get_meth (s := { s with heap := g1, toks := t1 }) (D.ex.fr.at (more_wd.mp r1.wd).1) (str_inst r1.wd) X.pr X.hd X.fr (v := .ref S.f) (by kernel_rfl) rfl ?_
 dsimp only
 refine callWith_F (str_fn r1.wd) (args_cons (h2.ok _ _ _ e2 A { s with heap := g1, toks := t1 + 1 } as1 _ E R r1 fun as2 g2 t2 z' r2 s2 v2 => args_nil ⟨str_fn r2.wd, ?_⟩) hs) hs
 obtain ⟨_, rfl⟩ := v2.inv
 exact call_read T Lv (s := { s with heap := g2, toks := t2 }) R r2.wd r2.hr hk hz fun h' tk val wd' hr' kk q => fin as2 h' tk val (r2.called kk wd' hr') (s1.trans (s2.trans (Step.of kk))) q
end
open Builtin Builtin.Re
set_option maxRecDepth 100000
theorem rs_slot : Slot "re.Pattern" "sub" "re.Pattern.sub" :=
 .of (owner := "re.Pattern") (n := "sub") (by rw [typeLookup_type, builtinLookup_eq_fast]; kernel_rfl) (by decide +kernel) (by decide +kernel) (by decide +kernel)
  (by first | exact .inl (by decide +kernel) | exact .inr (by decide +kernel)) (by rw [isSubtype_type]; kernel_rfl)
theorem rs_entry : entryFor table "re.Pattern.sub" = some Builtin.«re.Pattern.sub» := entryFor_of_tree (by kernel_rfl)
theorem rs_loop : entryFor table "re.Pattern.sub.loop" = some Builtin.«re.Pattern.sub.loop» := entryFor_of_tree (by kernel_rfl)
theorem rs_type : typeOf (.builtin "re.Pattern.sub") = pure (.type "method_descriptor") := by show builtinType _ = _; rw [builtinType_eq_fast]; kernel_rfl
theorem rs_plain : PlainAttrs "re.Pattern" := ⟨⟨"object.__getattribute__", by rw [typeLookup_type, builtinLookup_eq_fast]; kernel_rfl, by decide +kernel⟩, by rw [typeLookup_type, builtinLookup_eq_fast]; kernel_rfl⟩
theorem rs_args (a b c : Value) : argsOk "re.Pattern.sub" ⟨[a, b, c], []⟩ := by unfold argsOk; kernel_rfl
noncomputable def drv : Nat → Sre.M → Option Sre.M
 | 0, _ => none
 | k + 1, m => let m := m.runFor reTurnSteps; if m.outcome.isSome then some m else drv k m
section
variable {M : Model} {A : Around} {E : Value → Shared → Prop} {s : Shared}
theorem drive_ok : ∀ (k T : Nat) (m m' : Sre.M) {Q : Sre.M → Shared → Prop}, drv k m = some m' → k ≤ T → Q m' s → wpAny M A (reDrive T m) Q E s
 | 0, _, _, _, _, h, _, _ => by cases h
 | k + 1, 0, _, _, _, _, h, _ => by lia
 | k + 1, T + 1, m, m', Q, h, l, q => by
  unfold drv at h
  unfold reDrive
  dsimp only at h ⊢
  split at h
  ·rename_i hs
   cases h
   rw [if_pos hs]
   exact wpAny_pure q
  ·rename_i hs
   rw [if_neg hs]
   exact wpAny_bind (wpAny_rule (drive_ok k T _ m' h (by exact tI ‹_›) q))
theorem runEnd_none {m m' : Sre.M} {k : Nat} {Q : Option Sre.M → Shared → Prop} (h : drv k m = some m') (hk : k ≤ 2 ^ 64) (ho : m'.outcome = some .failed) (q : Q none s) : wpAny M A (reRunToEnd m) Q E s := by
 unfold reRunToEnd
 refine wpAny_bind (drive_ok k _ m m' h hk ?_)
 refine wpAny_bind (wpAny_forIn_list _ (fun _ _ s' => s' = s) _ ?_ ?_ _ _ rfl)
 ·rintro x rest u s' rfl
  split
  ·exact wpAny_bind (wpAny_rule (wpAny_pure rfl))
  ·exact wpAny_pure rfl
 ·rintro u s' rfl
  rw [ho]
  exact wpAny_pure q
theorem rs_quiet {as : Args} : (Code.builtin "re.Pattern.sub.loop" as).quiet = true := Code.quiet_builtin _ (by decide +kernel)
theorem fn_call : typeLookup (.type "function") (Str.ofString "__call__") = pure (some (.builtin "function.__call__")) := by rw [typeLookup_type, builtinLookup_eq_fast]; kernel_rfl
end
section
variable {prog : Program} {w : World} {A : Around} {E : Value → Shared → Prop} {s : Shared}
structure PatAt (h : Heap) (p q : Addr) (ws : List Value) (code : Array Nat) (pv : Value) (g0 : Nat) : Prop where
 obj : ∃ o gi ix t1 t2 t3, h.get? p = some o ∧ o.cls = .type "re.Pattern" ∧ o.data = .fields #[pv, .int 32 t1, .int g0 t2, gi, ix, .ref q, .int 0 t3]
 words : ∃ o n, h.get? q = some o ∧ o.data = .seq ws.toArray n
 same : ((ws.toArray.map reRawOf).map (·.toNat)) = code
theorem whole_ok {p q : Addr} {ws : List Value} {code : Array Nat} {pv : Value} {g0 : Nat} {x : Str} {t : Tok} {Q : ReTarget → Shared → Prop} (P : PatAt s.heap p q ws code pv g0)
  (h : Q { pattern := .ref p, string := .str x t, code := code, text := x.cps, kind := 0, groups := g0, pos := 0, lim := x.cps.size } s) : wpAny (model prog w) A (reWholeTarget (.ref p) (.str x t)) Q E s := by
 obtain ⟨o, gi, ix, t1, t2, t3, ho, hc, hd⟩ := P.obj
 obtain ⟨oq, n, hoq, hdq⟩ := P.words
 unfold reWholeTarget
 refine wpAny_bind ?_
 unfold fieldsOf
 refine wpAny_bind (wpAny_load ho ?_)
 rw [hd]
 refine wpAny_pure ?_
 refine wpAny_bind (wpAny_of_eq (a := (x.cps, 0)) (by first | rfl | kernel_rfl) ?_)
 dsimp only
 rw [if_neg (by simp), if_neg (by show ¬ (((0 : Nat) == 1 && (0 : Nat) == 0) = true); decide)]
 refine wpAny_bind (wpAny_of_eq (a := ()) rfl ?_)
 refine wpAny_bind ?_
 show wpAny _ _ (reRawItems (.ref q)) _ _ _
 unfold reRawItems
 refine wpAny_bind (wpAny_seqItems hoq hdq (wpAny_pure (wpAny_pure ?_)))
 rw [← P.same] at h
 exact h
end
open Builtin Builtin.Re
set_option maxRecDepth 100000
section
variable {prog : Program} {w : World} {A : Around} {E : Value → Shared → Prop} {s : Shared}
theorem sub_none {p q f : Addr} {of : Obj} {ws : List Value} {code : Array Nat} {pv : Value} {g0 k : Nat} {x : List Nat} {t : Tok} {m' : Sre.M} {Q : Value → Shared → Prop} (P : PatAt s.heap p q ws code pv g0) (hf : s.heap.get? f = some of) (hfc : of.cls = .type "function")
  (hm : drv k (Sre.forSearch code (sOf x).cps g0 0 x.length false) = some m') (hk : k ≤ 2 ^ 64) (ho : m'.outcome = some .failed) (hx : 0 < x.length ∧ x.length ≤ smallN)
  (h : ∀ h' tk t', (∀ b o, s.heap.get? b = some o → h'.get? b = some o) → Q (.str (sOf x) t') { s with heap := h', toks := tk }) :
  wpAny (model prog w) A (call (.builtin "re.Pattern.sub") [.ref p, .ref f, .str (sOf x) t]) Q E s := by
 have hT : s.TypeIs (.ref p) "re.Pattern" := by obtain ⟨o, _, _, _, _, _, e, c, _⟩ := P.obj; exact ⟨o, e, c⟩
 refine wpAny_call (codeAny_call_builtin rs_slot.plain rs_entry (rs_slot.check _ _ _ _ _ _ _ _ hT (rs_args _ _ _) ?_))
 unfold Builtin.«re.Pattern.sub» reSubstitute
 dsimp only
 refine wpAny_bind (wpAny_of_eq (a := [some (.ref f), some (.str (sOf x) t), none]) (by first | rfl | kernel_rfl) ?_)
 dsimp only
 refine wpAny_bind (wpAny_pure ?_)
 refine wpAny_bind (wpAny_specialOf (T := "function") ⟨of, hf, hfc⟩ fn_call ?_)
 have hcl : (some (Value.builtin "function.__call__")).isSome = true := rfl
 rw [if_pos hcl]
 refine wpAny_bind (wpAny_pure ?_)
 rw [if_pos hcl]
 refine wpAny_bind (wpAny_pure ?_)
 refine wpAny_bind (wpAny_holding (whole_ok P ?_))
 rw [if_pos (show ((Value.ref f, (1 : Int)).snd == 1) = true from rfl)]
 refine wpAny_bind ?_
 unfold reNotHeld
 refine wpAny_bind (wpAny_isInstance (T := "str") (b := false) (typeIs_str _ _ _) (by rw [isSubtype_type]; kernel_rfl) ?_)
 rw [if_neg (by decide)]
 refine wpAny_pure ?_
 refine wpAny_bind (wpAny_newObj_type ?_ (by size_fits))
 refine wpAny_pure ⟨rs_quiet, codeAny_builtin rs_loop ?_⟩
 have P' : PatAt (s.heap.push { cls := .type "list", data := .seq ([] : List Value).toArray }) p q ws code pv g0 := by
  obtain ⟨o, gi, ix, t1, t2, t3, e1, e2, e3⟩ := P.obj
  obtain ⟨oq, n, e4, e5⟩ := P.words
  exact ⟨⟨o, gi, ix, t1, t2, t3, Heap.get?_push_of_some _ e1, e2, e3⟩, ⟨oq, n, Heap.get?_push_of_some _ e4, e5⟩, P.same⟩
 unfold Builtin.«re.Pattern.sub.loop»
 dsimp only [rawInt]
 refine wpAny_bind (whole_ok P' ?_)
 dsimp only
 rw [if_neg (show ¬ (((1 : Int) == 0) = true) by decide)]
 refine wpAny_bind ?_
 rw [if_neg (show ¬ (((0 : Int) != 0 && decide ((0 : Int) ≥ 0)) = true) by decide)]
 unfold reNextFound
 refine runEnd_none (m' := m') (k := k) hm hk ho ?_
 dsimp only
 rw [if_pos (show Int.toNat 0 < x.toArray.size by simpa using hx.1)]
 have e1 : (⟨x.toArray.extract (Int.toNat 0) x.toArray.size⟩ : Str) = sOf x := by
  show (⟨x.toArray.extract 0 x.toArray.size⟩ : Str) = ⟨x.toArray⟩
  rw [Array.extract_size]
 have e2 : (⟨x.toArray.extract 0 0⟩ : Str) = sOf [] := by
  show (⟨x.toArray.extract 0 0⟩ : Str) = ⟨#[]⟩
  rw [Array.extract_empty_of_stop_le_start (Nat.le_refl 0)]
 refine wpAny_bind ?_
 unfold reSlice
 rw [if_pos (by rfl), e1]
 have sx : (sOf x).length ≤ sizeLine := by rw [sOf_length, sizeLine_val]; have := hx.2; unfold smallN at this; exact tA ‹_› (by decide)
 refine wpAny_mkStr ?_ sx
 have gl : (s.heap.push { cls := .type "list", data := .seq ([] : List Value).toArray }).get? s.heap.objs.size = some { cls := .type "list", data := .seq ([] : List Value).toArray } := Heap.get?_push_size _ rfl
 refine wpAny_bind (wpAny_updateSeq gl rfl ?_)
 rw [if_pos (by rfl), e2]
 refine wpAny_bind (wpAny_mkStr ?_ (by decide))
 have gl2 : ((s.heap.push { cls := .type "list", data := .seq ([] : List Value).toArray }).update s.heap.objs.size (Obj.mapSeq fun y => y.push (.str (sOf x) s.toks))).get? s.heap.objs.size = some (Obj.mapSeq (fun y => y.push (.str (sOf x) s.toks)) { cls := .type "list", data := .seq ([] : List Value).toArray }) := Heap.get?_update_self _ gl rfl
 have kp : ∀ b o, s.heap.get? b = some o → ((s.heap.push { cls := .type "list", data := .seq ([] : List Value).toArray }).update s.heap.objs.size (Obj.mapSeq fun y => y.push (.str (sOf x) s.toks))).get? b = some o := fun b o e =>
  ((Heap.SameBut.update ..).2 b (Nat.ne_of_lt (Heap.lt_size e))).trans (Heap.get?_push_of_some _ e)
 refine wpAny_bind (wpAny_seqItems gl2 rfl ?_)
 dsimp only
 rw [if_neg (show ¬ (((some ((#[] : Array Value).push (Value.str (sOf x) s.toks))).getD #[]).isEmpty = true) from Bool.false_ne_true)]
 refine wpAny_bind ?_
 rw [if_pos (by rfl)]
 have il : ((s.heap.push { cls := .type "list", data := .seq ([] : List Value).toArray }).update s.heap.objs.size (Obj.mapSeq fun y => y.push (.str (sOf x) s.toks))).IsList s.heap.objs.size [Value.str (sOf x) s.toks].toArray := ⟨_, gl2, rfl, _, rfl⟩
 refine join_list (items := #[Value.str (sOf x) s.toks]) (ys := [sOf x]) il (.cons _ _ .nil) ?_ fun t' k => ?_
 ·simp only [List.map_cons, List.map_nil, List.sum_cons, List.sum_nil, sOf_length]
  have := hx.2; unfold smallN at this; simp; assumption
 ·rw [if_neg (by decide)]
  have e3 : Txt.join (sOf []) [sOf x] = sOf x := by
   have := join_flat [x]
   simpa using this
  rw [e3]
  exact wpAny_pure (h _ _ _ kp)
end
end Mine
end
section
open PySem PySem.W PySem.Spec PySem.Calls PySem.SeqAt PyProof.Rows
set_option maxRecDepth 100000
namespace Mine
open Builtin
theorem latin_run {id : String} {b : Array UInt8} (hz : b.size ≤ sizeLine) : _codecs.runDecoder id _codecs.latin1Decoder none true b 0 [] = pure (b.map (·.toNat), b.size) := by
 unfold _codecs.runDecoder
 simp only [Std.Legacy.Range.forIn_eq_forIn_range']
 generalize hF : (fun (x : Nat) (__s : Nat × Array Nat × _codecs.Faults) => _) = F
 have step : ∀ x p (out : Array Nat), p < b.size → out.size ≤ sizeLine → F x (p, out, {}) = pure (.yield (p + 1, out.push (b.getD p 0).toNat, {})) := by
  intro x p out hp ho
  rw [← hF]
  dsimp only
  rw [if_neg (by lia), if_neg (by lia)]
  have e : _codecs.latin1Decoder.find true b p = .text [(b.getD p 0).toNat] (p + 1) := rfl
  rw [e]
  simp
 have key : ∀ (l : List Nat) p (out : Array Nat), p + l.length = b.size → out.size = p → forIn l (p, out, ({} : _codecs.Faults)) F = pure (b.size, out ++ ((b.toList.drop p).map (·.toNat)).toArray, ({} : _codecs.Faults)) := by
  intro l
  induction l with
  | nil =>
   intro p out h1 h2
   have : p = b.size := by simpa using h1
   subst this
   rw [List.forIn_nil, List.drop_eq_nil_of_le (by simp)]
   simp
  | cons x l ih =>
   intro p out h1 h2
   rw [List.length_cons] at h1
   rw [List.forIn_cons, step x p out (by lia) (by lia), pure_bind]
   show forIn l (p + 1, _, _) F = _
   rw [ih (p + 1) _ (by lia) (by simp [h2])]
   have lt : p < b.toList.length := by simp; lia
   rw [List.drop_eq_getElem_cons lt]
   have e : b.getD p 0 = b.toList[p] := by
    rw [Array.getD_eq_getD_getElem?, Array.getElem?_eq_getElem (by simpa using lt)]
    simp
   rw [e]
   simp
 have e := key (List.range' 0 b.size) 0 #[] (by simp) rfl
 have sz : Std.Legacy.Range.size [:b.size] = b.size := by simp [Std.Legacy.Range.size]
 rw [sz]
 refine (congrArg (fun m => m >>= fun s => pure (s.2.1, s.1)) e).trans ?_
 rw [pure_bind]
 have e2 : (#[] : Array Nat) ++ (List.map (fun (x : UInt8) => x.toNat) (List.drop 0 b.toList)).toArray = b.map (·.toNat) := by
  apply Array.toList_inj.mp
  simp
 rw [e2]
theorem ld_entry {c : UInt8} {cs : List UInt8} {t te : Tok} : «bytes.decode» ⟨[.bytes (c :: cs).toArray t, .str (Str.ofString "latin-1") te], []⟩ = (mkStr (Str.ofString "utf-8") >>= fun _ => mkStr (Str.ofString "latin-1") >>= fun e => mkStr (Str.ofString "bytes.decode") >>= fun d =>
  call (.builtin "_codecs.decode.text") [.bytes (c :: cs).toArray t, e, .none, d] >>= fun v => ret v) := by kernel_rfl
theorem ld_empty {t te : Tok} : «bytes.decode» ⟨[.bytes #[] t, .str (Str.ofString "latin-1") te], []⟩ = (rule "bytes.decode.empty" >>= fun _ => retStr Str.empty) := by kernel_rfl
theorem ld_road {id : String} {b : Array UInt8} : _codecs.decodeRoad id b (Str.ofString "latin-1") none [] = (_codecs.runDecoder id _codecs.latin1Decoder none true b 0 [] >>= fun r => mkStr ⟨r.1⟩) := by kernel_rfl
theorem ld_args (a b : Value) : argsOk "bytes.decode" ⟨[a, b], []⟩ := by unfold argsOk; kernel_rfl
open Builtin
theorem ob_mro : mroOf (.type "object") = pure [.type "object"] := by rw [mroOf_type]; kernel_rfl
theorem ob_new : typeLookup (.type "object") "__new__" = pure (some (.builtin "object.__new__")) := by rw [typeLookup_type, builtinLookup_eq_fast]; kernel_rfl
theorem ob_init : Slot "object" "__init__" "object.__init__" :=
 .of (owner := "object") (n := "__init__") (by rw [typeLookup_type, builtinLookup_eq_fast]; kernel_rfl) (by decide +kernel) (by decide +kernel) (by decide +kernel)
  (by first | exact .inl (by decide +kernel) | exact .inr (by decide +kernel)) (by rw [isSubtype_type]; kernel_rfl)
theorem ob_called : TypeCalled "object" "object.__new__" "object.__init__" :=
 ⟨by decide +kernel, by decide +kernel, ⟨_, _, ob_mro⟩, madeBy_type ob_mro ob_new (by decide +kernel), by decide +kernel, by rw [isSubtype_type]; kernel_rfl, ob_init⟩
theorem ob_ct : checkTypeCall "object" ⟨[], []⟩ = pure () := by kernel_rfl
theorem ob_cn : checkBuiltinCall "object.__new__" ⟨[.type "object"], []⟩ = pure () := by kernel_rfl
theorem ob_entry : entryFor table "object.__new__" = some Builtin.«object.__new__» := entryFor_of_tree (by kernel_rfl)
theorem ob_run : «object.__new__» ⟨[.type "object"], []⟩ = (newObj (.type "object") .plain none >>= fun v => ret v) := by kernel_rfl
section
variable {prog : Program} {w : World} {A : Around} {E : Value → Shared → Prop} {s : Shared}
theorem call_object {Q : Value → Shared → Prop} (h : Q (.ref s.heap.objs.size) { s with heap := s.heap.push { cls := .type "object", data := .plain } }) : wpAny (model prog w) A (call (.type "object") []) Q E s := by
 refine callType_meets (S := fun _ R s => R (.ok (.ret (.ref s.heap.objs.size))) { s with heap := s.heap.push { cls := .type "object", data := .plain } }) (Q₁ := fun obj s₁ => s₁.TypeIs obj "object" ∧ Q obj s₁) ob_called ob_ct ob_cn ob_entry F.entry_object_init (.of_wp fun prog w A R s hs => ?_) ⟨⟨_, Heap.get?_push_size _ rfl, rfl⟩, h⟩ fun obj s₁ hq => ⟨hq.1, oi_args obj, fun _ R s => R (.ok (.ret .none)) s, .of_wp fun prog w A R s hs => ?_, rfl, hq.2⟩
 ·rw [ob_run]
  exact wpAny_bind (wpAny_newObj_type (wpAny_pure ⟨_, rfl, hs⟩) (by size_fits))
 ·rw [oi_run]
  exact wpAny_pure ⟨_, rfl, hs⟩
end
open Builtin
theorem ld_text {x : List Nat} {t t1 t2 : Tok} {d : PySem.Str} (hb : ∀ n ∈ x, n < 256) (hz : x.length ≤ smallN) :
  Meets («_codecs.decode.text» ⟨[.bytes (bOf x) t, .str (Str.ofString "latin-1") t1, .none, .str d t2], []⟩) (fun _ R s => ∀ t' k, R (.ok (.ret (.str (sOf x) t'))) { s with toks := k }) := by
 refine .of_wp fun prog w A R s h => ?_
 have z : (bOf x).size ≤ sizeLine := by rw [bOf_size, sizeLine_val]; unfold smallN at hz; exact tA ‹_› (by decide)
 show wpAny _ _ (Bytes.bytesLike _ (.bytes (bOf x) t) >>= fun r => _) _ _ s
 refine wpAny_bind (wpAny_of_eq KBd.like_eq ?_)
 refine wpAny_bind (wpAny_of_eq KBd.held_eq ?_)
 show wpAny _ _ (_codecs.decodeRoad _ (bOf x) (Str.ofString "latin-1") none [] >>= fun v => _) _ _ s
 rw [ld_road, latin_run z]
 refine wpAny_bind (wpAny_bind (wpAny_pure ?_))
 have e : (⟨(bOf x).map (·.toNat)⟩ : PySem.Str) = sOf x := by
  apply Str.ext'
  apply Array.toList_inj.mp
  simp only [Array.toList_map, bOf_toList, List.map_map]
  conv => rhs; rw [← List.map_id x]
  exact List.map_congr_left fun n hn => uint8_of n (hb n hn)
 have sz : (⟨(bOf x).map (·.toNat)⟩ : PySem.Str).length ≤ sizeLine := by
  rw [e, sOf_length, sizeLine_val]; unfold smallN at hz; exact tA ‹_› (by decide)
 refine wpAny_mkStr ?_ sz
 rw [e]
 exact wpAny_pure ⟨_, rfl, h _ _⟩
theorem ld_meets {x : List Nat} {t te : Tok} (hb : ∀ n ∈ x, n < 256) (hz : x.length ≤ smallN) :
  Meets («bytes.decode» ⟨[.bytes (bOf x) t, .str (Str.ofString "latin-1") te], []⟩) (fun _ R s => ∀ t' k, R (.ok (.ret (.str (sOf x) t'))) { s with toks := k }) := by
 refine .of_wp fun prog w A R s h => ?_
 cases x with
 | nil =>
  show wpAny _ _ («bytes.decode» ⟨[.bytes #[] t, .str (Str.ofString "latin-1") te], []⟩) _ _ s
  rw [ld_empty]
  refine wpAny_bind (wpAny_rule ?_)
  exact wpAny_bind (wpAny_mkStr (wpAny_pure ⟨_, rfl, h _ _⟩) (by decide))
 | cons c cs =>
  show wpAny _ _ («bytes.decode» ⟨[.bytes (UInt8.ofNat c :: cs.map UInt8.ofNat).toArray t, .str (Str.ofString "latin-1") te], []⟩) _ _ s
  rw [ld_entry]
  refine wpAny_bind (wpAny_mkStr ?_ (by decide))
  refine wpAny_bind (wpAny_mkStr ?_ (by decide))
  refine wpAny_bind (wpAny_mkStr ?_ (by decide))
  exact wpAny_bind (call_function_meets KBd.kind_text KBd.plain_text KBd.entry_text (KBd.args_text _ _ _ _) (ld_text (x := c :: cs) hb hz) fun t' k => wpAny_pure ⟨_, rfl, h _ _⟩)
open Builtin
structure TrMap (prog : Program) (w : World) (h : Heap) (d : Addr) (f : Nat → Option (List Nat)) : Prop where
 map : ∃ g, h.MapOf (intKind prog w) d g ∧ ∀ c : Nat, (f c = none ∧ g c = none) ∨ ∃ x t, f c = some x ∧ g c = some (.str (sOf x) t) ∧ x.length = 2
 ne : (d == sysModules) = false
section
variable {prog : Program} {w : World} {A : Around} {E : Value → Shared → Prop} {s : Shared} {d : Addr} {f : Nat → Option (List Nat)}
theorem ke_sub : isSubtype (.type "KeyError") (.type "LookupError") = pure true := by rw [isSubtype_type]; kernel_rfl
theorem tl_none {c : Nat} {Q : Str.Mapped → Shared → Prop} (X : TrMap prog w s.heap d f) (hh : A.handled = none) (hf : f c = none) (h : ∀ h' tk, (∀ b o, s.heap.get? b = some o → h'.get? b = some o) → Q .keep { s with heap := h', toks := tk }) :
  wpAny (model prog w) A (Str.tableLookup (.ref d) c) Q E s := by
 obtain ⟨⟨g, hm, hg⟩, ne⟩ := X
 have gc : g c = none := by
  rcases hg c with ⟨_, e⟩ | ⟨x, t, e, _⟩
  ·exact e
  ·rw [hf] at e; cases e
 unfold Str.tableLookup
 refine wpAny_bind (wpAny_attempt (wpAny_bind (wpAny_mkInt (wpAny_getItem_missing_of (knd := intKind prog w) (k := (c : Int)) (s := { s with toks := s.toks + 1 }) (by simp [intKind, Value.isInt]) ne hh hm gc fun h' e ne => ?_))))
 dsimp only
 obtain ⟨kp, _, ob, t, ho, hc, _⟩ := ne
 refine wpAny_bind (wpAny_isInstance (T := "KeyError") (b := true) ⟨ob, ho, hc⟩ ke_sub ?_)
 rw [if_pos rfl]
 exact wpAny_bind (wpAny_rule (wpAny_pure (h _ _ kp)))
theorem tl_some {c : Nat} {x : List Nat} {Q : Str.Mapped → Shared → Prop} (X : TrMap prog w s.heap d f) (hf : f c = some x) (h : ∀ tk, Q (.text (sOf x)) { s with toks := tk }) :
  wpAny (model prog w) A (Str.tableLookup (.ref d) c) Q E s := by
 obtain ⟨⟨g, hm, hg⟩, ne⟩ := X
 obtain ⟨t, gc⟩ : ∃ t, g c = some (.str (sOf x) t) := by
  rcases hg c with ⟨e, _⟩ | ⟨y, t, e, e2, _⟩
  ·rw [hf] at e; cases e
  ·rw [hf] at e; cases e; exact ⟨t, e2⟩
 unfold Str.tableLookup
 refine wpAny_bind (wpAny_attempt (wpAny_bind (wpAny_mkInt (wpAny_getItem_of (knd := intKind prog w) (k := (c : Int)) (s := { s with toks := s.toks + 1 }) (by simp [intKind, Value.isInt]) hm gc ?_))))
 dsimp only
 refine wpAny_bind (wpAny_of_eq (a := none) rfl ?_)
 dsimp only
 refine wpAny_bind (wpAny_of_eq (a := some (sOf x)) rfl ?_)
 exact wpAny_pure (h _)
theorem ite_no {α : Type} {M : Model} {c : Prop} [Decidable c] {a b : Sem α} {Q : α → Shared → Prop} (hc : ¬ c) (h : wpAny M A b Q E s) : wpAny M A (if c then a else b) Q E s := by rw [if_neg hc]; exact h
theorem ite_yes {α : Type} {M : Model} {c : Prop} [Decidable c] {a b : Sem α} {Q : α → Shared → Prop} (hc : c) (h : wpAny M A a Q E s) : wpAny M A (if c then a else b) Q E s := by rw [if_pos hc]; exact h
theorem arr_one {β : Type} {M : Model} {c : Nat} {b : β} {f : Nat → β → Sem (ForInStep β)} {Q : β → Shared → Prop} (h : wpAny M A (f c b) (fun r s' => match r with | .done b' => Q b' s' | .yield b' => Q b' s') E s) : wpAny M A (forIn [c].toArray b f) Q E s := by
 rw [List.forIn_toArray, List.forIn_cons]
 refine wpAny_bind (wpAny_mono h (fun r s' hr => ?_) fun _ _ e => e)
 cases r with
 | done b' => exact wpAny_pure hr
 | yield b' => exact wpAny_pure hr
theorem call_translate {c : Nat} {t : Tok} {Q : Value → Shared → Prop} (X : TrMap prog w s.heap d f) (hh : A.handled = none) (hc : c < 128)
  (h : ∀ h' tk t', (∀ b o, s.heap.get? b = some o → h'.get? b = some o) → Q (.str (sOf ((f c).getD [c])) t') { s with heap := h', toks := tk }) :
  wpAny (model prog w) A (call (.builtin "str.translate") [.str (sOf [c]) t, .ref d]) Q E s := by
 refine wpAny_call (codeAny_call_builtin PySem.F.slot_str_translate.plain PySem.F.entry_str_translate (PySem.F.slot_str_translate.check _ _ _ _ _ _ _ _ (typeIs_str _ _ _) (PySem.F.args_str_translate_2 _ _) ?_))
 unfold Builtin.«str.translate»
 refine wpAny_bind (wpAny_of_eq (a := (.str (sOf [c]) t, sOf [c], .ref d)) (by first | rfl | kernel_rfl) ?_)
 refine ite_no (show ¬ (((sOf [c]).length == 0) = true) from Bool.false_ne_true) ?_
 refine wpAny_bind (arr_one ?_)
 refine ite_no (show ¬ (Str.tooLong 0 = true) by decide +kernel) ?_
 refine ite_yes (show ([c].toArray.all fun x => decide (x < 128)) = true by simp [hc]) ?_
 cases hf : f c with
 | none =>
  refine wpAny_bind (tl_none X hh hf fun h' tk kp => ?_)
  refine wpAny_bind (wpAny_pure ?_)
  refine wpAny_pure ?_
  refine ite_no (show ¬ (Str.tooLong (0 + 1) = true) by decide +kernel) ?_
  rw [hf] at h
  exact wpAny_bind (wpAny_mkStr (wpAny_pure (h _ _ _ kp)) (by rw [sizeLine_val]; show 1 ≤ _; exact Nat.succ_pos _))
 | some x =>
  obtain ⟨p, q, rfl⟩ : ∃ p q, x = [p, q] := by
   obtain ⟨⟨g, _, hg⟩, _⟩ := X
   rcases hg c with ⟨e, _⟩ | ⟨y, t, e, _, e2⟩
   ·rw [hf] at e; cases e
   ·rw [hf] at e; cases e
    cases x with
    | nil => cases e2
    | cons p x => cases x with
     | nil => cases e2
     | cons q x => cases x with
      | nil => exact ⟨p, q, rfl⟩
      | cons => cases e2
  refine wpAny_bind (tl_some X hf fun tk => ?_)
  refine wpAny_bind (wpAny_pure ?_)
  refine wpAny_bind (wpAny_rule ?_)
  refine ite_no Bool.false_ne_true ?_
  refine wpAny_bind (tl_some X hf fun tk' => ?_)
  refine wpAny_pure ?_
  refine ite_no (show ¬ (Str.tooLong (0 + 2) = true) by decide +kernel) ?_
  rw [hf] at h
  exact wpAny_bind (wpAny_mkStr (wpAny_pure (h s.heap _ _ fun _ _ e => e)) (by rw [sizeLine_val]; show 2 ≤ _; exact Nat.le_add_left _ _))
end
noncomputable def s_obj : SE := fun σ => some (.own σ.hp.length, { σ with hp := σ.hp ++ [.obj] })
noncomputable def s_dec (o t : SE) : SE := fun σ => (o σ).bind fun p => p.1.onB fun x => (t p.2).bind fun q => q.1.onS fun y => if y = [108, 97, 116, 105, 110, 45, 49] ∧ x.length ≤ smallN then some (.str x, q.2) else none
theorem dec_of {o t : SE} {σ σ₁ σ₂ : Sg} {x : List Nat} (ho : o σ = some (.byt x, σ₁)) (ht : t σ₁ = some (.str [108, 97, 116, 105, 110, 45, 49], σ₂)) (hz : x.length ≤ smallN) : s_dec o t σ = some (.str x, σ₂) := by
 unfold s_dec
 rw [ho]; show (t σ₁).bind _ = _
 rw [ht]; exact if_pos ⟨rfl, hz⟩
noncomputable def s_trl (f : Nat → Option (List Nat)) (o : SE) : SE := fun σ => (o σ).bind fun p => p.1.onS fun x => match x with
 | [] => none
 | c :: r => match r with
  | [] => if c < 128 then some (.str ((f c).getD [c]), p.2) else none
  | _ :: _ => none
theorem trl_of {f : Nat → Option (List Nat)} {o : SE} {σ σ₁ : Sg} {c : Nat} (ho : o σ = some (.str [c], σ₁)) (h : c < 128) : s_trl f o σ = some (.str ((f c).getD [c]), σ₁) := by
 unfold s_trl
 rw [ho]; exact if_pos h
noncomputable def s_sub (ok : List Nat → Bool) (o : SE) : SE := fun σ => (o σ).bind fun p => p.1.onS fun x => if ok x then if 0 < x.length ∧ x.length ≤ smallN then some (.str x, p.2) else none else none
theorem ssub_of {ok : List Nat → Bool} {o : SE} {σ σ₁ : Sg} {x : List Nat} (ho : o σ = some (.str x, σ₁)) (h : ok x = true) (h2 : 0 < x.length ∧ x.length ≤ smallN) : s_sub ok o σ = some (.str x, σ₁) := by
 unfold s_sub
 rw [ho]; exact (if_pos h).trans (if_pos h2)
section
variable {prog : Program} {w : World} {A : Around} {E : Value → Shared → Prop} {s : Shared}
theorem ld_call {x : List Nat} {t te : Tok} {Q : Value → Shared → Prop} (hb : ∀ n ∈ x, n < 256) (hz : x.length ≤ smallN) (h : ∀ t' k, Q (.str (sOf x) t') { s with toks := k }) :
  wpAny (model prog w) A (call (.builtin "bytes.decode") [.bytes (bOf x) t, .str (Str.ofString "latin-1") te]) Q E s :=
 call_meets (S := fun _ R s => ∀ t' k, R (.ok (.ret (.str (sOf x) t'))) { s with toks := k }) FB.slot_bytes_decode (typeIs_bytes _ _ _) FB.entry_bytes_decode (ld_args _ _) (ld_meets hb hz) h
end
theorem trl_meth {M : Model} {A : Around} {E : Value → Shared → Prop} {s : Shared} {x : Str} {t : Tok} {pl : Sem Bool} {Q : Value × List Value → Shared → Prop} (h : Q (.builtin "str.translate", [.str x t]) s) : wpAny M A (getMethod (.str x t) (Str.ofString "translate") pl) Q E s := by
 exact @str_meth M A E s _ _ (Str.ofString "translate") "str.translate" pl Q PySem.F.slot_str_translate PySem.F.type_str_translate h
section
variable {C : Cx} {n m : Nat} {env : Env} {ns : List Str} {σ σ' σ₁ σ₂ σ₃ σ₄ : Sg} {as as' : List Addr} {h h' : Heap} {a b c d v : V} {f : F} {hp : List O}
variable {e : PySem.Expr} {p pos : Pos} {x : Str}
theorem ce_byt {x : List UInt8} (y : List Nat) {k : Nat} (e : x = y.map UInt8.ofNat) (hb : (y.all fun n => decide (n < 256)) = true) : CE C n env ns (.Constant (.bytes x) k pos) (s_c (.byt y)) := .mk fun σ v σ' h => by
 cases h
 subst e
 intro A s as Q E R r fin
 exact Constant_bytes (fin as s.heap _ _ r .refl (.byt _ _ fun n hn => of_decide_eq_true (List.all_eq_true.mp hb n hn)))
theorem ce_obj (h1 : CE C n env ns (.Name x p) (s_c (.raw (.type "object")))) : CE C n env ns (.Call (.Name x p) [] [] pos) s_obj := .mk fun σ v σ' hh => by
 cases hh
 intro A s as Q E R r fin
 refine Call_ (h1.ok _ _ _ rfl A s as _ E R r fun as1 g1 t1 y r1 s1 v1 => ?_) rfl
 replace v1 := v1.inv; obtain rfl := v1
 refine callWith_type0 (call_object (s := { s with heap := g1, toks := t1 }) ?_)
 have q : OR (as1 ++ [g1.objs.size]) (g1.push { cls := .type "object", data := .plain }) g1.objs.size .obj := ⟨_, Heap.get?_push_size _ rfl, rfl, rfl⟩
 refine fin _ _ t1 _ (r1.newAny q) (s1.trans (Step.new _)) (.own _ _ ?_)
 rw [← r1.hr.len]
 simp
theorem ce_dec {apos pos : Pos} {so st : SE} (hb : methBase (.Name x p) = true) (hn : notStar e = true) (hp : (apos.endLine == pos.line) = true) (h1 : CE C n env ns (.Name x p) so) (h2 : CE C n env ns e st) :
  CE C n env ns (.Call (.Attribute (.Name x p) (Str.ofString "decode") apos) [e] [] pos) (s_dec so st) := .mk fun σ v σ' hh => by
 replace hh := bnd hh; obtain ⟨⟨w, σ₁⟩, e1, hh⟩ := hh
 replace hh := V.onB_some hh; obtain ⟨b, ew, hh⟩ := hh
 replace hh := bnd hh; obtain ⟨⟨u, σ₂⟩, e2, hh⟩ := hh
 replace hh := V.onS_some hh; obtain ⟨y, eu, hh⟩ := hh
 replace hh := if_some hh; obtain ⟨⟨rfl, hz⟩, hh⟩ := hh
 cases (ew : w = _); cases (eu : u = _); cases hh
 intro A s as Q E R r fin
 have hs : starEach [e] env = (false, eval e env) :: starEach [] env := starEach_cons hn
 refine MethodCall_ (h1.ok _ _ _ e1 A s as _ E R r fun as1 g1 t1 y r1 s1 v1 => ?_) (meth_eq rfl (by simp [hn]) (by simp) hp)
 replace v1 := v1.inv; obtain ⟨tb, rfl, hall⟩ := v1
 refine KBd.method (s := { s with heap := g1, toks := t1 }) ?_
 dsimp only
 refine callWith_method1 (args_cons (h2.ok _ _ _ e2 A { s with heap := g1, toks := t1 } as1 _ E R r1 fun as2 g2 t2 z' r2 s2 v2 => args_nil ?_) hs) hs (by rfl)
 replace v2 := v2.inv; obtain ⟨ts, rfl⟩ := v2
 have el : sOf [108, 97, 116, 105, 110, 45, 49] = Str.ofString "latin-1" := by kernel_rfl
 show wpAny _ _ (call (.builtin "bytes.decode") [.bytes _ tb, .str (sOf [108, 97, 116, 105, 110, 45, 49]) ts]) _ _ _
 rw [el]
 exact ld_call (s := { s with heap := g2, toks := t2 }) hall hz fun t' k => fin as2 g2 k _ r2 (s1.trans s2) (.str _ _)
theorem ce_trl {apos pos : Pos} {so : SE} {d : Addr} {f : Nat → Option (List Nat)} (hm : ∀ h, C.Wd h → TrMap C.prog C.w h d f) (hn : notStar e = true) (hp : (apos.endLine == pos.line) = true) (h1 : CE C n env ns (.Name x p) so) (h2 : CE C n env ns e (s_c (.raw (.ref d)))) :
  CE C n env ns (.Call (.Attribute (.Name x p) (Str.ofString "translate") apos) [e] [] pos) (s_trl f so) := .mk fun σ v σ' hh => by
 replace hh := bnd hh; obtain ⟨⟨w, σ₁⟩, e1, hh⟩ := hh
 replace hh := V.onS_some hh; obtain ⟨y, ew, hh⟩ := hh
 cases (ew : w = _)
 cases y with
 | nil => cases hh
 | cons c y => cases y with
 | cons => cases hh
 | nil =>
 replace hh := if_some hh; obtain ⟨hc, hh⟩ := hh
 cases hh
 intro A s as Q E R r fin
 have hs : starEach [e] env = (false, eval e env) :: starEach [] env := starEach_cons hn
 refine MethodCall_ (h1.ok _ _ _ e1 A s as _ E R r fun as1 g1 t1 y r1 s1 v1 => ?_) (meth_eq rfl (by simp [hn]) (by simp) hp)
 replace v1 := v1.inv; obtain ⟨_, rfl⟩ := v1
 refine trl_meth (s := { s with heap := g1, toks := t1 }) ?_
 dsimp only
 refine callWith_method1 (args_cons (h2.ok _ _ _ rfl A { s with heap := g1, toks := t1 } as1 _ E R r1 fun as2 g2 t2 z' r2 s2 v2 => args_nil ?_) hs) hs (by rfl)
 replace v2 := v2.inv; obtain rfl := v2
 exact call_translate (s := { s with heap := g2, toks := t2 }) (hm _ r2.wd) R.1 hc fun h' tk t' kp => fin as2 h' tk _ (r2.grow kp) (s1.trans (s2.trans (Step.growing kp))) (.str _ _)
theorem ce_sub {apos lpos : Pos} {so : SE} {pa qa cc P : Addr} {ws : List Value} {code : Array Nat} {pv : Value} {g0 kk : Nat} {params : Arguments} {lb : PySem.Expr} {scope : Scope} {clos : List (Str × Addr)} (good : List Nat → Bool) (ok : EnvOk env ns)
  (hP : ∀ h, C.Wd h → PatAt h pa qa ws code pv g0) (hD : ∀ h, C.Wd h → ∃ o, h.get? pa = some o ∧ o.dict = none) (T : TabAt C cc P lpos (env.qual ++ "<lambda>")) (hcode : env.code = .ref cc) (hdef : defaultsOf params env = ([], [])) (hcl : closureFor scope env = pure clos) (hkk : kk ≤ 2 ^ 64)
  (hg : ∀ y, good y = true → ∃ m', drv kk (Sre.forSearch code (sOf y).cps g0 0 y.length false) = some m' ∧ m'.outcome = some .failed)
  (hn : notStar e = true) (hp : (apos.endLine == pos.line) = true) (h1 : CE C n env ns (.Name x p) (s_c (.raw (.ref pa)))) (h2 : CE C n env ns e so) :
  CE C n env ns (.Call (.Attribute (.Name x p) (Str.ofString "sub") apos) [.Lambda params lb scope lpos, e] [] pos) (s_sub good so) := .mk fun σ v σ' hh => by
 replace hh := bnd hh; obtain ⟨⟨w, σ₁⟩, e1, hh⟩ := hh
 replace hh := V.onS_some hh; obtain ⟨y, ew, hh⟩ := hh
 replace hh := if_some hh; obtain ⟨hy, hh⟩ := hh
 replace hh := if_some hh; obtain ⟨hz, hh⟩ := hh
 cases (ew : w = _); cases hh
 obtain ⟨m', hm, ho⟩ := hg y hy
 intro A s as Q E R r fin
 have hs1 : starEach [e] env = (false, eval e env) :: starEach [] env := starEach_cons hn
 have hs2 : starEach [.Lambda params lb scope lpos, e] env = (false, eval (.Lambda params lb scope lpos) env) :: starEach [e] env := starEach_cons rfl
 refine MethodCall_ (h1.ok _ _ _ rfl A s as _ E R r fun as1 g1 t1 y r1 s1 v1 => ?_) (meth_eq rfl (by rw [List.all_cons, List.all_cons, hn]; rfl) (by simp) hp)
 replace v1 := v1.inv; obtain rfl := v1
 have hT : (({ s with heap := g1, toks := t1 } : Shared)).TypeIs (.ref pa) "re.Pattern" := by obtain ⟨o, _, _, _, _, _, e, c, _⟩ := (hP _ r1.wd).obj; exact ⟨o, e, c⟩
 refine getMethod_builtin (s := { s with heap := g1, toks := t1 }) hT rs_plain rs_slot rs_type (fun a e => ?_) ?_
 ·cases e
  exact hD _ r1.wd
 dsimp only
 refine callWith_method1 (args_cons (lam_ok (s := { s with heap := g1, toks := t1 }) T ok hcode hdef hcl r1 fun g2 t2 f of fd r2 s2 hf hfc hfd hge => args_cons (h2.ok _ _ _ e1 A { s with heap := g2, toks := t2 } as1 _ E R r2 fun as3 g3 t3 z' r3 s3 v3 => args_nil ?_) hs1) hs2) hs2 (plain_any (by rw [List.all_cons, hn]; rfl))
 replace v3 := v3.inv; obtain ⟨_, rfl⟩ := v3
 have hf3 : g3.get? f = some of := by
  refine s3.keep f of hf (fun z => ?_) (fun z => ?_) (fun z => ?_) (fun z => ?_)
  ·have := r1.locals_alive; subst z; exact Nat.not_lt.mpr hge this
  ·obtain ⟨c, hc, rfl⟩ := List.mem_map.mp (mem_mc z)
   obtain ⟨_, v, oc, h1, h2⟩ := r1.cells c hc
   exact Nat.not_lt.mpr hge (Heap.lt_size h1)
  ·exact Nat.not_lt.mpr hge (r1.alive z)
  ·exact r1.wd.fresh hge (.inr z)
 exact sub_none (s := { s with heap := g3, toks := t3 }) (hP _ r3.wd) hf3 hfc hm hkk ho hz fun h' tk t' kp => fin as3 h' tk _ (r3.grow kp) (s1.trans (s2.trans (s3.trans (Step.growing kp)))) (.str _ _)
end
end Mine
end
section
open PySem PySem.W PySem.Spec PySem.Calls PySem.SeqAt PyProof.Rows
namespace Mine
section
variable {C : Cx} {K : Frag} {n m : Nat} {env : Env} {ns : List Str} {σ σ' σ₁ σ₂ σ₃ σ₄ : Sg} {as as' : List Addr} {h h' : Heap} {a b c d v : V} {f : F} {hp : List O} {N : List (Addr × Obj)} {pin : List (Nat × Addr)}
theorem Step.same (s : Step C env as h as' h') (l : as'.length = as.length) : as = as' := by
 obtain ⟨ex, rfl, _⟩ := s.ext
 cases ex with
 | nil => simp
 | cons _ _ => simp at l
theorem Rel.more (r : Rel C env ns as σ h) (hN : ∀ p ∈ N, h.get? p.1 = some p.2) (ha : ∀ p ∈ N, p.1 ∉ as) (hl : ∀ p ∈ N, p.1 ≠ env.locals) (hc : ∀ p ∈ N, p.1 ∉ env.cells.map (·.2)) (hp : ∀ p ∈ pin, as[p.1]? = some p.2) : Rel (C.more N pin) env ns as σ h := by
 have na : ∀ x : Addr, ¬ C.Old x → (∀ p ∈ N, p.1 ≠ x) → ¬ (C.more N pin).Old x := fun x n1 n2 z => (more_old z).elim n1 fun ⟨o, m⟩ => n2 _ m rfl
 exact ⟨more_wd.mpr ⟨r.wd, hN⟩, ⟨r.hr.len, r.hr.nodup, fun a m => na a (r.hr.above a m) fun p hp z => ha p hp (z ▸ m), hp, r.hr.has⟩, r.fr, fun c hc' => ⟨na _ (r.cells c hc').1 fun p hp z => hc p hp (z ▸ List.mem_map_of_mem (f := (·.2)) hc'), (r.cells c hc').2⟩, na _ r.lo fun p hp => hl p hp⟩
theorem fn_at {fa : Addr} (D : ∃ o fd, C.base fa o ∧ o.data = .func fd) (wd : C.Wd h) : FnAt fa h := by
 obtain ⟨⟨c, d, dt, sl⟩, fd, hb, hd⟩ := D
 dsimp only at hd
 subst hd
 exact ⟨_, _, _, _, wd.base _ _ hb⟩
end
noncomputable abbrev VE : Value := .type "ValueError"
noncomputable abbrev fAd (l : List Env) : List Addr := l.filterMap (·.frame)
noncomputable def Frames (h : Heap) (l : List Env) : Prop := ∀ env ∈ l, env.scope.kind ≠ .module ∧ ∃ L o es n, env.frame = some L ∧ h.get? L = some o ∧ o.data = .dict es n
theorem Frames.hide {h : Heap} {as : List Addr} : ∀ {l : List Env}, Frames h l → (∀ env ∈ l, ∀ a, env.frame = some a → a ∈ as) → h.FunFrames (hideAll h as) l
 | [], _, _ => trivial
 | env :: r, x, hin => by
  obtain ⟨hk, L, o, es, n, hf, ho, hd⟩ := x env (List.mem_cons_self ..)
  exact ⟨hk, ⟨L, o, hf, hideAll_none _ (hin env (List.mem_cons_self ..) L hf), ho, fun vs z => by rw [hd] at z; cases z⟩, Frames.hide (fun e m => x e (List.mem_cons_of_mem _ m)) fun e m => hin e (List.mem_cons_of_mem _ m)⟩
theorem Frames.mem {h : Heap} {l : List Env} (x : Frames h l) {b : Addr} (m : b ∈ fAd l) : ∃ o, h.get? b = some o ∧ ∀ vs, o.data ≠ .fields vs := by
 obtain ⟨env, me, hf⟩ := List.mem_filterMap.mp m
 obtain ⟨_, L, o, es, n, hf', ho, hd⟩ := x env me
 rw [hf] at hf'; cases hf'
 exact ⟨o, ho, fun vs z => by rw [hd] at z; cases z⟩
theorem mem_fAd {env : Env} {l : List Env} (m : env ∈ l) (a : Addr) (h : env.frame = some a) : a ∈ fAd l := List.mem_filterMap.mpr ⟨env, m, h⟩
structure ThrX (C : Cx) (F : List Env) (as : List Addr) (hp : List O) (h0 h1 B : Heap) : Prop where
 wd : C.Wd h1
 hr : HR C as hp h1
 keep : KeepA C as h0 as h1
 B : ∃ X : List Addr, (∀ b o, h1.get? b = some o → b ∉ X → B.get? b = some o) ∧ (∀ b ∈ X, ∀ o, h1.get? b = some o → ∀ vs, o.data ≠ .fields vs) ∧ ∀ b ∈ X, b ∈ fAd F ∨ h0.get? b = none
noncomputable def Thrown (C : Cx) (F : List Env) (as : List Addr) (hp : List O) (h0 h' : Heap) (e : Addr) : Prop :=
 ∃ h1 B a0, ThrX C F as hp h0 h1 B ∧ Heap.FlyingW B F e VE a0 h' ∧ h1.UpToSlots h'
noncomputable def HeldX (C : Cx) (F : List Env) (as : List Addr) (hp : List O) (L : Addr) (h0 h' : Heap) (e : Addr) : Prop :=
 ∃ h1 B a0, ThrX C F as hp h0 h1 B ∧ Heap.HeldW B F e VE a0 L h' ∧ h1.UpToSlots h'
section
variable {C : Cx} {M : Model} {A : Around} {env : Env} {F : List Env} {as : List Addr} {hp : List O} {h h0 h1 hs h' : Heap} {e L : Addr} {s : Shared} {Q : Unit → Shared → Prop} {E : Value → Shared → Prop}
theorem ThrX.from (k : KeepA C as h0 as hs) (na : ∀ L, env.frame = some L → h0.get? L = none) {B : Heap} (x : ThrX C (env :: F) as hp hs h1 B) : ThrX C F as hp h0 h1 B := by
 obtain ⟨X, x1, x2, x3⟩ := x.B
 refine ⟨x.wd, x.hr, ⟨fun b o e n t => x.keep.keep b o (k.keep b o e n t) n t, ⟨[], by simp, by simp⟩, fun b o e => let ⟨o', e'⟩ := k.live b o e; x.keep.live b o' e'⟩, X, x1, x2, fun b m => ?_⟩
 rcases x3 b m with q | q
 ·cases hf : env.frame with
  | none => rw [fAd, List.filterMap_cons, hf] at q; exact .inl q
  | some L =>
   rw [fAd, List.filterMap_cons, hf] at q
   rcases List.mem_cons.mp q with rfl | q
   ·exact .inr (na _ hf)
   ·exact .inl q
 ·right
  cases z : h0.get? b with
  | none => rfl
  | some o => obtain ⟨o', e'⟩ := k.live b o z; rw [q] at e'; cases e'
theorem leave_made {args : List Value} (hfr : A.frames = some (env :: F)) (hf : env.frame = some L) (fr : Frames h1 (env :: F)) (wd : C.Wd h1) (hr : HR C as hp h1) (k : KeepA C as h0 as h1) (na : h0.get? L = none) (hx : Heap.MadeExcOf h1 s.heap e VE args)
  (hQ : ∀ h', Thrown C F as hp h0 h' e → Q () { s with heap := h' }) : wpAny M A (leaving env (.ref e)) Q E s := by
 refine wpAny_leaves_madeW (base := hideAll h1 (fAd (env :: F))) hfr hf (fun b o e => of_hideAll _ e) (fr.hide fun env m a hfa => mem_fAd m a hfa) hx fun h' t x1 x2 x3 x4 => ?_
 refine hQ h' ⟨h1, _, _, ⟨wd, hr, k, fAd (env :: F), fun b o e n => hideAll_get _ e n, fun b m o e => ?_, fun b m => ?_⟩, x1, (Heap.UpToSlots.of_keeps hx.keeps).trans x4⟩
 ·obtain ⟨o', e', d⟩ := fr.mem m
  rw [e] at e'; cases e'
  exact d
 ·rw [fAd, List.filterMap_cons, hf] at m
  rcases List.mem_cons.mp m with rfl | m
  ·exact .inr na
  ·exact .inl m
theorem leave_on (hfr : A.frames = some (env :: F)) (hf : env.frame = some L) (k : KeepA C as h0 as hs) (na : h0.get? L = none) (x : Thrown C (env :: F) as hp hs s.heap e)
  (hQ : ∀ h', Thrown C F as hp h0 h' e → Q () { s with heap := h' }) : wpAny M A (leaving env (.ref e)) Q E s := by
 obtain ⟨h1, B, a0, t, fl, up⟩ := x
 refine wpAny_leaves_onW hfr hf fl fun h' x1 x2 => hQ h' ⟨h1, B, a0, t.from k (fun L' e' => ?_), x1, up.trans x2⟩
 rw [hf] at e'; cases e'; exact na
theorem cameBack_held {B : Heap} {a0 : Value} {E : Value → Shared → Prop} (hf : env.frame = some L) (hh : Heap.HeldW B F e VE a0 L s.heap) (h : ∀ h', Heap.HeldW B F e VE a0 L h' → s.heap.UpToSlots h' → E (.ref e) { s with heap := h' }) : cameBackBy M A env E (.ref e) s := by
 obtain ⟨f1, f2, f3, oe, vs, T, oT, ts, he, hcls, hd, h1, hnT, hTe, hT, hdT, h3⟩ := hh
 have hsz3 : 3 < ts.size := (Array.getElem?_eq_some_iff.mp h3).1
 unfold cameBackBy
 refine wpAny_bind (wpAny_field he hd h1 ?_)
 rw [if_neg (show ¬ ((Value.ref T == Value.none) = true) from by simp)]
 first | refine wpAny_bind (wpAny_pure ?_) | skip
 rw [hf]
 unfold setFlight
 refine wpAny_bind (wpAny_field he hd h1 ?_)
 rw [if_pos (show (Value.ref T != Value.none) = true from by simp)]
 have other : ∀ b, b ≠ T → (s.heap.update T (Obj.mapFields (·.setIfInBounds 3 ((some L).elim Value.none fun f => rawInt f)))).get? b = s.heap.get? b := fun b hb => Heap.get?_update_other _ _ (Ne.symm hb)
 have noRec : ∀ b o, s.heap.get? b = some o → (∀ vs, o.data ≠ .fields vs) → b ≠ T := fun b o hb hnf q => by
  rw [q, hT] at hb; injection hb with hb; subst hb; exact hnf ts hdT
 refine wpAny_setField hT hdT hsz3 (h _ ⟨fun b o hbo => (other b fun q => by rw [q, hnT] at hbo; cases hbo).trans (f1 b o hbo), f2, f3.of_keeps fun b o hb hnf => ⟨o, (other b (noRec b o hb hnf)).trans hb, rfl⟩, ?_⟩ fun b o hb hnf => ⟨o.slots, (other b (noRec b o hb hnf)).trans hb⟩)
 exact ⟨oe, vs, T, _, _, (other e (Ne.symm hTe)).trans he, hcls, hd, h1, hnT, hTe, Heap.get?_update_self _ hT (Obj.isFreed_of_fields (Obj.data_mapFields hdT _)), Obj.data_mapFields hdT _, by simp [hsz3]⟩
theorem for_raised {E : Value → Shared → Prop} (hfr : A.frames = some (env :: F)) (hf : env.frame = some L) (x : Thrown C (env :: F) as hp h0 s.heap e) (h : ∀ h', HeldX C (env :: F) as hp L h0 h' e → E (.ref e) { s with heap := h' }) :
  notedBy M A env (fun e s' => cameBackBy M A env E e s') (.ref e) s := by
 obtain ⟨h1, B, a0, t, fl, up⟩ := x
 refine wpAny_looks_onW hfr hf fl fun h2 held u2 => ?_
 exact cameBack_held (s := { s with heap := h2 }) hf held fun h3 held3 u3 => h h3 ⟨h1, B, a0, t, held3, (up.trans u2).trans u3⟩
theorem try_caught {E : Value → Shared → Prop} (hf : env.frame = some L) (x : HeldX C (env :: F) as hp L h0 s.heap e) (h : ∀ h', Thrown C (env :: F) as hp h0 h' e → Q () { s with heap := h' }) :
  wpAny M A (noteFrame (.ref e) env) (fun _ s₂ => wpAny M A (setFlight (.ref e) none) Q E s₂) E s := by
 obtain ⟨h1, B, a0, t, held, up⟩ := x
 refine wpAny_noteFrame_againW hf held.2.2.2 ?_
 exact wpAny_landsW held fun h2 fl u2 => h h2 ⟨h1, B, a0, t, fl, up.trans u2⟩
end
section
variable {C : Cx} {n m : Nat} {env : Env} {ns : List Str} {σ σ' σ₁ σ₂ σ₃ σf : Sg} {as as' : List Addr} {h h' : Heap} {a b v : V} {F : List Env} {hp hp' : List O}
theorem not_own (r : HR C as hp h) {L : Addr} {o : Obj} {es : Array DictEntry} {k : Nat} (e : h.get? L = some o) (d : o.data = .dict es k) : L ∉ as := fun m => by
 obtain ⟨i, ei⟩ := List.mem_iff_getElem?.mp m
 have l : i < hp.length := r.len ▸ (List.getElem?_eq_some_iff.mp ei).1
 obtain ⟨a', e', q⟩ := r.has i _ (List.getElem?_eq_getElem l)
 rw [ei] at e'; cases e'
 cases ho : hp[i] with
 | lst vs => rw [ho] at q; obtain ⟨_, ⟨o', c, g, _, _, d'⟩, _⟩ := q; rw [e] at g; cases g; rw [d] at d'; cases d'
 | obj => rw [ho] at q; obtain ⟨o', g, _, d'⟩ := q; rw [e] at g; cases g; rw [d] at d'; cases d'
theorem not_tab (r : C.Wd h) {L : Addr} {o : Obj} {es : Array DictEntry} {k : Nat} (e : h.get? L = some o) (d : o.data = .dict es k) : L ∉ C.T := fun m => by
 obtain ⟨vs, q⟩ := r.T L m
 rw [e] at q; cases q; cases d
theorem Frames.keepA (wd : C.Wd h) (hr : HR C as hp h) (k : KeepA C as h as' h') (x : Frames h F) : Frames h' F := fun e m => by
 obtain ⟨hk, L, o, es, n, hf, ho, hd⟩ := x e m
 exact ⟨hk, L, o, es, n, hf, k.keep L o ho (not_own hr ho hd) (not_tab wd ho hd), hd⟩
theorem Frames.step (r : Rel C env ns as σ h) (r' : Rel C env ns as' σ' h') (st : Step C env as h as' h') (x : Frames h F) : Frames h' F := fun e m => by
 obtain ⟨hk, L, o, es, n, hf, ho, hd⟩ := x e m
 by_cases z : L = env.locals
 ·obtain ⟨mm, ⟨oL, es', ep, hL, dL, _⟩, _⟩ := r'.fr
  exact ⟨hk, L, oL, _, _, hf, z ▸ hL, dL⟩
 ·refine ⟨hk, L, o, es, n, hf, st.keep L o ho z (fun mc => ?_) (not_own r.hr ho hd) (not_tab r.wd ho hd), hd⟩
  obtain ⟨c, hc, e⟩ := List.mem_map.mp (mem_mc mc)
  obtain ⟨_, v, oc, h1, h2⟩ := r.cells c hc
  rw [e, ho] at h1; cases h1
  rw [hd] at h2; cases h2
theorem Frames.cons (r : Rel C env ns as σ h) (hk : env.scope.kind = .function) (hL : env.frame = some env.locals) (x : Frames h F) : Frames h (env :: F) := fun e m => by
 rcases List.mem_cons.mp m with rfl | m
 ·obtain ⟨mm, ⟨oL, es', ep, hl, dL, _⟩, _⟩ := r.fr
  exact ⟨by rw [hk]; decide, _, oL, _, _, hL, hl, dL⟩
 ·exact x e m
noncomputable def RX (C : Cx) (n : Nat) (env : Env) (ns : List Str) {α : Type} (t : Sem α) (σ σ' : Sg) : Prop :=
 ∀ (A : Around) (s : Shared) (as : List Addr) (F : List Env) (Q : α → Shared → Prop) (E : Value → Shared → Prop), Room n A → A.frames = some (env :: F) → Frames s.heap F → Rel C env ns as σ s.heap →
  (∀ as' σc hc h' tk e, Rel C env ns as' σc hc → Step C env as s.heap as' hc → Thrown C (env :: F) as' σ'.hp hc h' e → σc.loc = σ'.loc → E (.ref e) { s with heap := h', toks := tk }) → wpAny (model C.prog C.w) A t Q E s
noncomputable def SpcX (C : Cx) (n : Nat) (f : Value) (args : List V) (hp hp' : List O) : Prop :=
 ∀ (A : Around) (s : Shared) (as : List Addr) (xs : List Value) (F : List Env) (Q : Value → Shared → Prop) (E : Value → Shared → Prop), Room n A → A.frames = some F → Frames s.heap F → C.Wd s.heap → HR C as hp s.heap → VRs as s.heap args xs →
  (∀ h' tk e, Thrown C F as hp' s.heap h' e → E (.ref e) { s with heap := h', toks := tk }) → wpAny (model C.prog C.w) A (call f xs) Q E s
theorem execs_app {pre rest : List Stmt} : execs (pre ++ rest) env = (do
  match ← execs pre env with
  | .next => execs rest env
  | f => pure f) := by
 induction pre with
 | nil => rw [execs_nil, pure_bind]; rfl
 | cons st pre ih =>
  rw [List.cons_append, execs_cons, execs_cons, bind_assoc]
  congr 1
  funext f
  cases f with
  | next => exact ih
  | _ => dsimp only; rw [pure_bind]
theorem execs_app_wp {M : Model} {A : Around} {s : Shared} {pre rest : List Stmt} {Q : Flow → Shared → Prop} {E : Value → Shared → Prop} (h : wpAny M A (execs pre env) (fun f s' => match f with | .next => wpAny M A (execs rest env) Q E s' | f => Q f s') E s) : wpAny M A (execs (pre ++ rest) env) Q E s := by
 rw [execs_app]
 refine wpAny_bind (wpAny_mono h (fun f s' h' => ?_) fun _ _ x => x)
 cases f with
 | next => exact h'
 | _ => exact wpAny_pure h'
theorem tb_then {pre rest : List Stmt} (h1 : TB C n env ns pre σ .next σ₁) {A : Around} {s : Shared} {Q : Flow → Shared → Prop} {E : Value → Shared → Prop} (R : Room n A) (r : Rel C env ns as σ s.heap)
  (h : ∀ as' h' tk, Rel C env ns as' σ₁ h' → Step C env as s.heap as' h' → wpAny (model C.prog C.w) A (execs rest env) Q E { s with heap := h', toks := tk }) : wpAny (model C.prog C.w) A (execs (pre ++ rest) env) Q E s :=
 execs_app_wp (h1 A s as _ E R r fun as1 g1 t1 fl r1 s1 v1 => by
  replace v1 := v1.inv; obtain rfl := v1
  exact h as1 g1 t1 r1 s1)
section
variable {name : Str} {params : Arguments} {body pre : List Stmt} {scope : Scope} {fa : Addr} {cd : Value} {ps more : List Str} {args vs : List V} {p1 p2 p3 : Pos} {msg : PySem.Expr}
theorem keep_body {L : Addr} {as : List Addr} {h0 h₁ g : Heap} (hL : L = h0.objs.size) (keep : ∀ b o, h0.get? b = some o → h₁.get? b = some o) (ab : ∀ c ∈ (envOfC name scope L fa cd).cells, h0.objs.size < c.2) (st : Step C (envOfC name scope L fa cd) as h₁ as g) : KeepA C as h0 as g := by
 subst hL
 refine ⟨fun b o e na nt => st.keep b o (keep b o e) (Nat.ne_of_lt (Heap.lt_size e)) (fun z => ?_) na nt, ⟨[], by simp, by simp⟩, fun b o e => st.live b o (keep b o e)⟩
 obtain ⟨c, hc, rfl⟩ := List.mem_map.mp (mem_mc z)
 exact absurd (Heap.lt_size e) (Nat.not_lt.mpr (Nat.le_of_lt (ab c hc)))
theorem def_made (D : DefAt C name params body scope fa cd ps) (hlen : args.length = ps.length) (hnd : (ps ++ more).Nodup) (hb : body = pre ++ [.Raise (some (.Call (.Name "ValueError" p1) [msg] [] p2)) none p3])
  (ht : ∀ L, TB C n (envOfC name scope L fa cd) (ps ++ more) pre (σ0 args more.length hp) .next σf) (hz : σf.hp.length = hp.length) (hn : notStar msg = true) (hg : scope.names.lookup (Str.ofString "ValueError") = some .globalImplicit) (gl : BL C "ValueError" VE)
  (hm : ∀ L (A : Around) (s : Shared) (as : List Addr) (Q : Value → Shared → Prop) (E : Value → Shared → Prop), Room n A → Rel C (envOfC name scope L fa cd) (ps ++ more) as σf s.heap →
   (∀ h' tk x, Rel C (envOfC name scope L fa cd) (ps ++ more) as σf h' → Step C (envOfC name scope L fa cd) as s.heap as h' → Q x { s with heap := h', toks := tk }) → wpAny (model C.prog C.w) A (eval msg (envOfC name scope L fa cd)) Q E s) :
  SpcX C (n + 1) (.ref fa) args hp σf.hp := by
 intro A s as xs F Q E R hfr fr wd hr hv fin
 refine def_enterF (args := args) D hlen hnd R wd hr hv fun A' h₁ tk₁ eA R' r0 keep ab => ?_
 have hfr' : A'.frames = some (envOfC name scope s.heap.objs.size fa cd :: F) := by rw [eA]; exact Around.frames_deeper hfr
 clear eA
 rw [hb]
 refine tb_then (ht _) R' r0 fun as2 g2 t2 r2 s2 => ?_
 have e2 := s2.same (r2.hr.len.trans (hz.trans hr.len.symm))
 subst e2
 refine wpAny_execs_cons (Raise_madeB PySem.F.excCall_ValueError PySem.F.excRaise_ValueError R'.1 ((ce_bl (n := n) (pos := p1) (okC D.kind hnd) hg (by decide +kernel) gl).ok _ _ _ rfl A' { s with heap := g2, toks := t2 } as _ _ R' r2 fun as3 g3 t3 y r3 s3 v3 => ?_) (starEach_cons hn) rfl)
 replace v3 := v3.inv; obtain rfl := v3
 have e3 := s3.same (r3.hr.len.trans r2.hr.len.symm)
 subst e3
 refine ⟨rfl, args_cons (hm _ A' _ as _ _ R' r3 fun g4 t4 y r4 s4 => args_nil ⟨by rw [sizeLine_val]; exact Nat.le_of_ble_eq_true rfl, fun h' e hx => ?_⟩) (starEach_cons hn)⟩
 have st := s2.trans (s3.trans s4)
 have k : KeepA C as s.heap as g4 := keep_body rfl keep ab st
 have fr4 : Frames g4 (envOfC name scope s.heap.objs.size fa cd :: F) := (fr.keepA wd hr k).cons r4 D.kind rfl
 exact leave_made (s := { s with heap := h', toks := t4 }) hfr' rfl fr4 r4.wd r4.hr k (fresh_none (Nat.le_refl _)) (Heap.MadeExc.of hx) fun h2 th => fin h2 t4 e th
theorem def_thrown (D : DefAt C name params body scope fa cd ps) (hlen : args.length = ps.length) (hnd : (ps ++ more).Nodup) (hz : σf.hp.length = hp.length)
  (ht : ∀ L, RX C n (envOfC name scope L fa cd) (ps ++ more) (execs body (envOfC name scope L fa cd)) (σ0 args more.length hp) σf) : SpcX C (n + 1) (.ref fa) args hp σf.hp := by
 intro A s as xs F Q E R hfr fr wd hr hv fin
 refine def_enterF (args := args) D hlen hnd R wd hr hv fun A' h₁ tk₁ eA R' r0 keep ab => ?_
 have hfr' : A'.frames = some (envOfC name scope s.heap.objs.size fa cd :: F) := by rw [eA]; exact Around.frames_deeper hfr
 clear eA
 refine ht _ A' { s with heap := h₁, toks := tk₁ } as F _ _ R' hfr' (fun e m => ?_) r0 fun as2 σc hc h' tk e rc sc th el => ?_
 ·obtain ⟨hk, L, o, es, n, hf, ho, hd⟩ := fr e m
  exact ⟨hk, L, o, es, n, hf, keep L o ho, hd⟩
 ·obtain ⟨hh1, B, a0, tx, fl, up⟩ := th
  have e2 := sc.same (tx.hr.len.trans (hz.trans hr.len.symm))
  subst e2
  exact leave_on (s := { s with heap := h', toks := tk }) hfr' rfl (keep_body rfl keep ab sc) (fresh_none (Nat.le_refl _)) ⟨hh1, B, a0, tx, fl, up⟩ fun h2 th => fin h2 tk e th
end
section
variable {fe l e x : PySem.Expr} {es : List PySem.Expr} {pos p apos : Pos} {f : Addr} {vs : List V} {o : Obj} {fd : FuncData} {op : Operator}
theorem rx_call (hk : env.scope.kind = .function) (hL : env.frame = some env.locals) (h1 : TE C n env ns fe σ (.raw (.ref f)) σ₁) (hb : C.base f o) (hd : o.data = .func fd) (hn : es ≠ [] ∧ es.head?.all notStar = true)
  (h2 : TS C n env ns es pos σ₁ vs σ₂) (h3 : SpcX C n (.ref f) vs σ₂.hp hp') (he : eval (.Call fe es [] pos) env = (do callWith pos (← eval fe env) [] (backTo pos (starEach es env)) (backToKw pos (keywordEach [] env)))) :
  RX C n env ns (eval (.Call fe es [] pos) env) σ { σ₂ with hp := hp' } := fun A s as F Q E R hfr fr r h => by
 cases es with
 | nil => exact absurd rfl hn.1
 | cons e rest =>
  refine Call_ (h1 A s as _ E R r fun as1 g1 t1 x r1 s1 v1 => ?_) he
  replace v1 := v1.inv; obtain rfl := v1
  refine callWith_def (o := o) hd (h2 A _ as1 _ E R r1 fun as2 g2 t2 xs r2 s2 v2 => ⟨r2.wd.base f o hb, ?_⟩) (starEach_cons hn.2)
  exact h3 A _ as2 xs _ Q E R hfr ((fr.step r r2 (s1.trans s2)).cons r2 hk hL) r2.wd r2.hr v2 fun h' tk e th => h as2 σ₂ g2 h' tk e r2 (s1.trans s2) th rfl
theorem rx_bin (h1 : TE C n env ns l σ a σ₁) (h2 : RX C n env ns (eval e env) σ₁ σf) : RX C n env ns (eval (.BinOp l op e pos) env) σ σf := fun A s as F Q E R hfr fr r h =>
 wpAny_BinOp (h1 A s as _ E R r fun as1 g1 t1 x r1 s1 v1 => h2 A _ as1 F _ E R hfr (fr.step r r1 s1) r1 fun as' σc hc h' tk e rc sc th el => h as' σc hc h' tk e rc (s1.trans sc) th el)
theorem rx_app {k : Nat} {ws : List V} {name : Str} {pl : Sem Bool} {o : PySem.Expr} (h1 : TE C n env ns o σ (.own k) σ₁) (hk : σ₁.hp[k]? = some (.lst ws)) (hn : notStar e = true) (h2 : RX C n env ns (eval e env) σ₁ σf) (hm : name = Str.ofString "append")
  (he : eval (.Call (.Attribute o name apos) [e] [] pos) env = (do
   let ov ← eval o env
   standAt apos.atName
   let (f, first) ← holding [ov] (getMethod ov name pl)
   callWith pos f first (backTo pos (starEach [e] env)) [])) : RX C n env ns (eval (.Call (.Attribute o name apos) [e] [] pos) env) σ σf := fun A s as F Q E R hfr fr r h => by
 subst hm
 refine MethodCall_ (h1 A s as _ E R r fun as1 g1 t1 x r1 s1 v1 => ?_) he
 replace v1 := v1.inv; obtain ⟨l, rfl, e1⟩ := v1
 obtain ⟨l', e2, vals, ⟨o, nn, g, c, dn, d⟩, p2⟩ := r1.hr.has _ _ hk
 rw [e1] at e2; cases e2
 refine getMethod_builtin (s := { s with heap := g1, toks := t1 }) ⟨_, g, c⟩ PySem.F.plainAttrs_list PySem.F.slot_list_append PySem.F.type_list_append (fun a e => by cases e; exact ⟨_, g, dn⟩) ?_
 refine callWith_method1 (args_cons (h2 A { s with heap := g1, toks := t1 } as1 F _ E R hfr (fr.step r r1 s1) r1 fun as' σc hc h' tk e rc sc th el => h as' σc hc h' tk e rc (s1.trans sc) th el) (starEach_cons hn)) (starEach_cons hn) rfl
theorem rx_asg {x : Str} {value : PySem.Expr} (hs : swapsWith value (some (.Name x p)) pos.line env = pure false) (h1 : RX C n env ns (eval value env) σ σf) : RX C n env ns (exec (.Assign [.Name x p] value pos) env) σ σf := fun A s as F Q E R hfr fr r h =>
 wpAny_Assign_Name (h1 A s as F _ E R hfr fr r h) hs
theorem rx_expr (hi : interactive env = false) (hs : swapsWith x none pos.line env = pure false) (h1 : RX C n env ns (eval x env) σ σf) : RX C n env ns (exec (.Expr x pos) env) σ σf := fun A s as F Q E R hfr fr r h =>
 wpAny_Expr_any (h1 A s as F _ E R hfr fr r h) hi hs
theorem rx_here {st : Stmt} {rest : List Stmt} (h1 : RX C n env ns (exec st env) σ σf) : RX C n env ns (execs (st :: rest) env) σ σf := fun A s as F Q E R hfr fr r h =>
 wpAny_execs_cons (h1 A s as F _ E R hfr fr r h)
theorem rx_later {st : Stmt} {rest : List Stmt} (h1 : TX C n env ns st σ .next σ₁) (h2 : RX C n env ns (execs rest env) σ₁ σf) : RX C n env ns (execs (st :: rest) env) σ σf := fun A s as F Q E R hfr fr r h =>
 wpAny_execs_cons (h1 A s as _ E R r fun as1 g1 t1 x r1 s1 v1 => by
  replace v1 := v1.inv; obtain rfl := v1
  exact h2 A _ as1 F _ E R hfr (fr.step r r1 s1) r1 fun as' σc hc h' tk e rc sc th el => h as' σc hc h' tk e rc (s1.trans sc) th el)
end
end
noncomputable def flat : V → Bool
 | .none | .bool _ | .int _ | .str _ | .byt _ | .own _ | .raw _ => true
 | _ => false
noncomputable def flatO : O → Bool
 | .lst vs => vs.all flat
 | .obj => true
structure KeepF (C : Cx) (fs as : List Addr) (h : Heap) (as' : List Addr) (h' : Heap) : Prop where
 keep : ∀ b o, h.get? b = some o → b ∉ as → b ∉ C.T → b ∉ fs → h'.get? b = some o
 slots : ∀ b o, h.get? b = some o → b ∈ fs → ∃ sl, h'.get? b = some { o with slots := sl }
 ext : ∃ ex, as' = as ++ ex ∧ ∀ a ∈ ex, h.get? a = none
 live : ∀ b o, h.get? b = some o → ∃ o', h'.get? b = some o'
section
variable {C : Cx} {n m : Nat} {env : Env} {ns : List Str} {σ σ' σ₁ σ₂ σ₃ σf σc : Sg} {as as' : List Addr} {h h' hc h1 : Heap} {a b v : V} {F : List Env} {hp hp' : List O} {e : Addr}
theorem VR.flat {x : Value} (r : VR as h v x) (hf : flat v = true) : VR as h' v x := by
 cases v with
 | none => obtain rfl := r.inv; exact .none
 | bool b => obtain rfl := r.inv; exact .bool _
 | int i => obtain ⟨_, rfl⟩ := r.inv; exact .int _ _
 | str y => obtain ⟨_, rfl⟩ := r.inv; exact .str _ _
 | byt y => obtain ⟨_, rfl, q⟩ := r.inv; exact .byt _ _ q
 | own k => obtain ⟨_, rfl, q⟩ := r.inv; exact .own _ _ q
 | raw w => obtain rfl := r.inv; exact .raw _
 | _ => cases hf
theorem VRs.flat {vs : List V} : ∀ {xs : List Value}, VRs as h vs xs → vs.all flat = true → VRs as h' vs xs := by
 induction vs with
 | nil => intro _ q _; obtain rfl := q.inv; exact .nil
 | cons v vs ih =>
  intro _ q e
  obtain ⟨x, r, rfl, a, q⟩ := q.inv
  rw [List.all_cons, Bool.and_eq_true] at e
  exact .cons _ _ _ _ (a.flat e.1) (ih q e.2)
noncomputable def RH (C : Cx) (n : Nat) (env : Env) (ns : List Str) {α : Type} (t : Sem α) (σ σ' : Sg) : Prop :=
 ∀ (A : Around) (s : Shared) (as : List Addr) (F : List Env) (Q : α → Shared → Prop) (E : Value → Shared → Prop), Room n A → A.frames = some (env :: F) → Frames s.heap F → Rel C env ns as σ s.heap →
  (∀ as' σc hc h' tk e, Rel C env ns as' σc hc → Step C env as s.heap as' hc → Frames hc F → HeldX C (env :: F) as' σ'.hp env.locals hc h' e → σc.loc = σ'.loc → E (.ref e) { s with heap := h', toks := tk }) → wpAny (model C.prog C.w) A t Q E s
theorem rx_for {target iter : PySem.Expr} {body orelse : List Stmt} {pos : Pos} {src : Src} (I : Nat → Src → Sg → Prop) (hk : env.scope.kind = .function) (hL : env.frame = some env.locals) (h1 : TE C n env ns iter σ v σ₁) (hsrc : srcOf σ₁ v = some src) (hs : ∀ x, foldedSetIterable iter env x = pure x)
  (turn : ∀ k src σ, I k src σ → ∃ w src' σ1, src.next σ = some (some (w, src')) ∧ TA C n env ns target w σ σ1 ∧ ((∃ σ2 m, TB C n env ns body σ1 .next σ2 ∧ m < k ∧ I m src' σ2) ∨ RX C n env ns (execs body env) σ1 σf))
  (k : Nat) (h0 : I k src σ₁) : RH C n env ns (exec (.For target iter body orelse pos) env) σ σf := fun A s as F Q E R hfr fr r h => by
 refine wpAny_For (h1 A s as _ E R r fun as1 g1 t1 x r1 s1 v1 => iter_ok r1 v1 hsrc fun g2 it r2 k2 q2 => ?_) hs
 have s2 : Step C env as1 g1 as1 g2 := Step.growing k2
 refine codeAny_forLoop_any (LpI C env ns as1 g1 it s I) ?_ k (.mk as1 g2 t1 σ₁ src h0 r2 s2 q2)
 rintro k _ ⟨as3, g3, t3, σ3, src3, hI, r3, s3, q3⟩
 refine hide _ fun G hG => ?_
 obtain ⟨w, src', σ4, hn, ha, hb⟩ := turn k src3 σ3 hI
 refine hG (next_ok R r3 q3 hn fun g4 t4 x4 r4 k4 q4 v4 => ?_)
 refine letOwned_ok q4 (ha A _ as3 x4 _ _ R r4 v4 fun as5 g5 t5 r5 s5 => ?_)
 have q5 := q4.step r4 s5
 have st5 := (s3.tail k4).trans s5
 rcases hb with ⟨σ6, m, hb, lt, hm⟩ | hb
 ·refine hb A _ as5 _ _ R r5 fun as6 g6 t6 y r6 s6 v6 => ?_
  replace v6 := v6.inv; obtain rfl := v6
  exact ⟨m, lt, .mk as6 g6 t6 σ6 src' hm r6 (st5.trans s6) (q5.step r5 s6)⟩
 ·have st := s1.trans st5
  refine hb A _ as5 F _ _ R hfr (fr.step r r5 st) r5 fun as6 σc hc h' tk e rc sc th el => ?_
  have fc := fr.step r rc (st.trans sc)
  exact for_raised (s := { s with heap := h', toks := tk }) hfr hL th fun h2 held => h as6 σc hc h2 tk e rc (st.trans sc) fc held el
theorem caught_rel (r : Rel C env ns as σc hc) (hL : env.frame = some env.locals) (fr : Frames hc F) (th : Thrown C (env :: F) as hp hc h' e) (fl : ∀ (i : Nat) (v : V), σc.loc[i]? = some (some v) → flat v = true) (fo : hp.all flatO = true) (nF : ∀ b ∈ fAd F, ¬ C.Old b) :
  Rel C env ns as { σc with hp := hp } h' ∧ KeepF C (env.locals :: fAd F) as hc as h' := by
 obtain ⟨h1, B, a0, ⟨wd1, hr1, k1, X, x1, x2, x3⟩, ⟨f1, f2, f3, f4⟩, up⟩ := th
 have r1 := r.called k1 wd1 hr1
 have hX : ∀ b ∈ X, (∃ o, hc.get? b = some o) → b = env.locals ∨ b ∈ fAd F := fun b m ⟨o, eo⟩ => by
  rcases x3 b m with q | q
  ·rw [fAd, List.filterMap_cons, hL] at q
   exact List.mem_cons.mp q
  ·rw [q] at eo; cases eo
 have ex : ∀ b o, h1.get? b = some o → b ∉ X → h'.get? b = some o := fun b o e n => f1 b o (x1 b o e n)
 have old : ∀ b, C.Old b → b ∉ X := fun b ob m => by
  rcases hX b m (r.wd.live ob) with rfl | q
  ·exact r.lo ob
  ·exact nF b q ob
 have liv : ∀ b o, h1.get? b = some o → ∃ o', h'.get? b = some o' := fun b o eo => by
  by_cases m : b ∈ X
  ·obtain ⟨sl, q⟩ := up b o eo (x2 b m o eo); exact ⟨_, q⟩
  ·exact ⟨o, ex b o eo m⟩
 have cel : ∀ {c : Addr} {v : Option Value}, h1.IsCell c v → h'.IsCell c v := fun {c v} ⟨oc, d1, d2⟩ => by
  obtain ⟨sl, q⟩ := up c oc d1 fun vs z => by rw [d2] at z; cases z
  exact ⟨_, q, d2⟩
 refine ⟨⟨⟨fun a o q => ex a o (wd1.base a o q) (old a (.inl ⟨o, q⟩)), fun a m => let ⟨vs, q⟩ := wd1.T a m; ⟨vs, ex a _ q (old a (.inr m))⟩, C.up h1 h' (fun b o q t => ex b o q fun m => ?_) wd1.tabs⟩, ⟨hr1.len, hr1.nodup, hr1.above, hr1.pin, fun i o q => ?_⟩, ?_, fun c hc' => ?_, r.lo⟩, ⟨fun b o q na nt nf => ?_, fun b o q m => ?_, ⟨[], by simp, by simp⟩, fun b o q => let ⟨o', q'⟩ := k1.live b o q; liv b o' q'⟩⟩
 ·obtain ⟨_, vs, d⟩ := t
  exact x2 b m o q vs d
 ·obtain ⟨a, ha, w⟩ := hr1.has i o q
  refine ⟨a, ha, ?_⟩
  have fo' : flatO o = true := List.all_eq_true.mp fo o (List.mem_of_getElem? q)
  cases o with
  | lst vs =>
   obtain ⟨vals, ⟨oo, nn, g, c, dn, d⟩, p2⟩ := w
   obtain ⟨sl, g'⟩ := up a oo g fun vs z => by rw [d] at z; cases z
   exact ⟨vals, ⟨_, nn, g', c, dn, d⟩, p2.flat fo'⟩
  | obj =>
   obtain ⟨oo, g, c, d⟩ := w
   obtain ⟨sl, g'⟩ := up a oo g fun vs z => by rw [d] at z; cases z
   exact ⟨_, g', c, d⟩
 ·obtain ⟨mm, hn, q⟩ := r1.fr
  refine ⟨mm, up.ns hn, fun i v ev => ?_⟩
  obtain ⟨x, hx, q⟩ := q i v ev
  have fv := fl i v ev
  refine ⟨x, hx, ?_⟩
  rcases q with ⟨a, val, b, c⟩ | ⟨a, c, val, b, d, e⟩
  ·exact .inl ⟨a, val, b, c.flat fv⟩
  ·exact .inr ⟨a, c, val, b, cel d, e.flat fv⟩
 ·obtain ⟨l, v, d⟩ := r1.cells c hc'
  exact ⟨l, v, cel d⟩
 ·refine ex b o (k1.keep b o q na nt) fun m => nf ?_
  rcases hX b m ⟨o, q⟩ with rfl | z
  ·exact List.mem_cons_self ..
  ·exact List.mem_cons_of_mem _ z
 ·have key : ∃ es nn, o.data = .dict es nn := by
   rcases List.mem_cons.mp m with rfl | m
   ·obtain ⟨mm, ⟨oL, es', ep, hl, dL, _⟩, _⟩ := r.fr
    rw [q] at hl; cases hl
    exact ⟨_, _, dL⟩
   ·obtain ⟨env', me, hf⟩ := List.mem_filterMap.mp m
    obtain ⟨_, L, oo, es, nn, hf', ho, hd⟩ := fr env' me
    rw [hf] at hf'; cases hf'
    rw [q] at ho; cases ho
    exact ⟨_, _, hd⟩
  obtain ⟨es, nn, d⟩ := key
  exact up b o (k1.keep b o q (not_own r.hr q d) (not_tab r.wd q d)) fun vs z => by rw [d] at z; cases z
theorem try_ok {b₀ st : Stmt} {suite : List Stmt} {np hpos pos : Pos} (ok : EnvOk env ns) (hL : env.frame = some env.locals) (h1 : RH C n env ns (execs [st] env) σ σf) (fl : ∀ (i : Nat) (v : V), σf.loc[i]? = some (some v) → flat v = true) (fo : σf.hp.all flatO = true)
  (gl : BL C "ValueError" VE) (hx : env.kindOf (Str.ofString "ValueError") = some .globalImplicit) {A : Around} {s : Shared} {Q : Flow → Shared → Prop} {E : Value → Shared → Prop} (R : Room n A) (hfr : A.frames = some (env :: F)) (fr : Frames s.heap F) (nF : ∀ b ∈ fAd F, ¬ C.Old b) (r : Rel C env ns as σ s.heap)
  (hand : ∀ (A' : Around) as' hc h' tk, Step C env as s.heap as' hc → KeepF C (env.locals :: fAd F) as' hc as' h' → Rel C env ns as' σf h' → wpAny (model C.prog C.w) A' (execs (b₀ :: suite) env) Q (fun _ _ => False) { s with heap := h', toks := tk }) :
  wpAny (model C.prog C.w) A (exec (.Try [st] [.ExceptHandler (some (.Name (Str.ofString "ValueError") np)) none (b₀ :: suite) hpos] [] [] pos) env) Q E s := by
 refine wpAny_Try_except (h1 A s as F _ _ R hfr fr r fun as' σc hc h' tk e rc sc fc held el => ?_)
 refine try_caught (s := { s with heap := h', toks := tk }) hL held fun h2 th => ?_
 have key : ∀ {h3 : Heap}, Thrown C (env :: F) as' σf.hp hc h3 e → Rel C env ns as' σf h3 ∧ KeepF C (env.locals :: fAd F) as' hc as' h3 := fun {h3} th => by
  have := caught_rel rc hL fc th (fun i v q => fl i v (el ▸ q)) fo nF
  rw [el] at this
  exact this
 have r2 := (key th).1
 obtain ⟨h1, B, a0, tx, flw, up⟩ := th
 obtain ⟨ob, hob, hobc⟩ := flw.there
 refine wpAny_handleBy_builtin (X := "ValueError") (T := "ValueError") (b := true) PySem.F.isExc_ValueError PySem.F.notTuple_ValueError (by rw [isSubtype_type]; kernel_rfl) ?_
 refine Name_function_global ok.kind hx (loadGlobal_builtin (ok.glob ▸ C.hg _ r2.wd.base) gl.no (ok.blt ▸ C.hb _ r2.wd.base) gl.yes ⟨rfl, ⟨ob, hob, hobc⟩, ?_⟩) (by decide +kernel)
 rw [if_pos rfl]
 refine lands_againW flw fun h3 flw3 up3 => ?_
 obtain ⟨r3, k3⟩ := key ⟨h1, B, a0, tx, flw3, up.trans up3⟩
 exact wpAny_mono (hand _ as' hc h3 tk sc k3 r3) (fun _ _ x => x) fun _ _ x => x.elim
end
section
variable {C : Cx} {K : Frag} {n m : Nat} {env : Env} {ns : List Str} {σ : Sg} {as : List Addr} {h : Heap} {v : V} {A : Around} {s : Shared}
theorem loc_any {E : Value → Shared → Prop} {Q : Value → Shared → Prop} {x : Str} {pos : Pos} (ok : EnvOk env ns) (i : Nat) (hx : ns[i]? = some x) (hv : σ.loc[i]? = some (some v)) (hd : (x == ("__debug__" : Str)) = false) (hz : (x == ("__classdict__" : Str)) = false) (r : Rel C env ns as σ s.heap) (h : ∀ y, VR as s.heap v y → Q y s) : wpAny (model C.prog C.w) A (eval (.Name x pos) env) Q E s := by
 obtain ⟨m, hm, q⟩ := r.fr
 obtain ⟨y, hy, q⟩ := q i v hv
 rw [hx] at hy; cases hy
 rcases q with ⟨k, val, e, c⟩ | ⟨k, c, val, e1, e2, e3⟩
 ·exact wpAny_Name (wpAny_loadName_local ok.kind k hm e (h _ c)) hd
 ·rcases k with k | k
  ·exact wpAny_Name (wpAny_loadName_cell ok.kind k e1 e2 (h _ e3)) hd
  ·exact wpAny_Name (wpAny_loadName_free ok.kind k e1 e2 (h _ e3) hz) hd
theorem hand_ok {D : StrD C K} {S : Strm} {k j : Nat} {l : Int} {vs : List V} {p1 p2 p3 p4 p5 p6 p7 p8 p9 q1 q2 q3 q4 q5 : Pos} {k1 k2 : Nat} {Q : Flow → Shared → Prop} {E : Value → Shared → Prop} (X : RdK C D) (ok : EnvOk env ns) (h0 : ns[0]? = some (Str.ofString "octets")) (h1 : ns[1]? = some (Str.ofString "stream")) (h2 : ns[2]? = some (Str.ofString "rows"))
  (gl : BL C "len" (.builtin "len")) (hlen : env.kindOf (Str.ofString "len") = some .globalImplicit) (r : Rel (C.str D S k) env ns as σ s.heap) (v0 : σ.loc[0]? = some (some (.byt S.x))) (v1 : σ.loc[1]? = some (some (.raw (.ref S.a)))) (v2 : σ.loc[2]? = some (some (.own j)))
  (o1 : σ.hp[k]? = some (.lst [.int l])) (o2 : σ.hp[j]? = some (.lst vs)) (hz : S.x.length ≤ smallN) (hl : l = S.x.length) (hvs : vs.length ≤ smallN)
  (fin : ∀ as' h' tk x, Rel (C.str D S k) env ns as' (σ.new (cut vs (some 1) none)).2 h' → Step (C.str D S k) env as s.heap as' h' → VR as' h' (σ.new (cut vs (some 1) none)).1 x → Q (.ret x) { s with heap := h', toks := tk }) :
  wpAny (model C.prog C.w) A (execs [.If (.Compare (.Subscript (.Attribute (.Name (Str.ofString "stream") p1) (Str.ofString "value") p2) (.Constant (.int 0) k1 p3) p4) [.Eq] [.Call (.Name (Str.ofString "len") p5) [.Name (Str.ofString "octets") p6] [] p7] p8) [.Return (some (.Subscript (.Name (Str.ofString "rows") q1) (.Slice (some (.Constant (.int 1) k2 q2)) none none q3) q4)) q5] [] p9] env) Q E s := by
 refine wpAny_execs_cons (wpAny_If (wpAny_isTrue_Compare1 (Subscript_ (Attribute_name (loc_any (C := C.str D S k) ok 1 h1 v1 (by decide +kernel) (by decide +kernel) r fun y vy => ?_))) rfl))
 replace vy := vy.inv; obtain rfl := vy
 refine get_field (D.ex.fr.at (more_wd.mp r.wd).1) (str_inst r.wd) X.pv X.hd X.fv (v := .ref S.l) (by kernel_rfl) rfl ?_
 refine wpAny_Constant_int ?_
 have r' : Rel (C.str D S k) env ns as σ s.heap := r
 obtain ⟨l', el, vals, pl, q⟩ := r.hr.has _ _ o1
 have e2 : as[k]? = some S.l := r.hr.pin (k, S.l) (List.mem_cons_self ..)
 rw [e2] at el; cases el
 replace q := q.inv; obtain ⟨y, ys, rfl, qy, qn⟩ := q
 replace qn := qn.inv; obtain rfl := qn
 replace qy := qy.inv; obtain ⟨_, rfl⟩ := qy
 refine tail_any (s := { s with toks := s.toks + 1 + 1 }) pl.isList.typeIs slot_list_getitem.lookup ?_ rfl
 refine wpAny_getItem_list (s := { s with toks := s.toks + 1 + 1 }) pl.isList (by decide) (by decide) rfl ?_
 refine Call_ (Name_function_global ok.kind hlen (loadGlobal_builtin (ok.glob ▸ C.hg _ (more_wd.mp r.wd).1.base) gl.no (ok.blt ▸ C.hb _ (more_wd.mp r.wd).1.base) gl.yes ?_) (by decide +kernel)) rfl
 refine PyProof.Rows.callWith_builtin1 (args_cons (loc_any (C := C.str D S k) (s := { s with toks := s.toks + 1 + 1 }) ok 0 h0 v0 (by decide +kernel) (by decide +kernel) r fun y vy => args_nil ?_) rfl) rfl rfl
 replace vy := vy.inv; obtain ⟨_, rfl, _⟩ := vy
 refine len_bytes ?_ ?_
 ·rw [bOf_size]; unfold smallN at hz; exact tA ‹_› (by decide)
 rw [bOf_size]
 refine eq_int (wpAny_truthy_bool ?_)
 rw [if_pos (by rw [hl]; exact beq_self_eq_true _)]
 refine wpAny_execs_cons (wpAny_Return_some (Subscript_ (loc_any (C := C.str D S k) (s := { s with toks := s.toks + 1 + 1 + 1 + 1 }) ok 2 h2 v2 (by decide +kernel) (by decide +kernel) r fun y vy => ?_)))
 refine wpAny_Slice (wpAny_Constant_int (k := k2) (pos := q2) (wpAny_evalPart_none (wpAny_evalPart_none ?_)))
 refine slc_ok (C := C.str D S k) (as := as) (a := .own j) (b := .int 1) (c := .none) (d := (σ.new (cut vs (some 1) none)).1) (σ := σ) (σ' := (σ.new (cut vs (some 1) none)).2) (s := { s with heap := s.heap.push { cls := .type "slice", data := .fields #[.int 1 (s.toks + 1 + 1 + 1 + 1), .none, .none] }, toks := s.toks + 1 + 1 + 1 + 1 + 1 }) ?_ (r.push _) ?_ (.int _ _) .none (Heap.IsSliceOf.new _ _ _ _) fun as4 g4 t4 v r4 s4 v4 => ?_
 ·unfold slcV
  show (asList σ (.own j)).bind _ = _
  rw [asList_own o2]
  exact if_pos hvs
 ·exact r.move (Step.push _) vy
 ·exact fin as4 g4 t4 v r4 ((Step.push _).trans s4) v4
end
end Mine
end
section
open Lean PySem PySem.W PySem.Spec PySem.Calls PySem.SeqAt PyProof.Rows
namespace Mine
noncomputable def fmtL : List Nat := [101, 120, 112, 101, 99, 116, 101, 100, 32, 37, 100, 32, 98, 121, 116, 101, 115, 32, 105, 110, 32, 97, 32, 115, 116, 114, 105, 110, 103, 49, 44, 32, 98, 117, 116, 32, 111, 110, 108, 121, 32, 37, 100, 32, 114, 101, 109, 97, 105, 110]
set_option maxRecDepth 100000 in
theorem fmt_meets {n m : Int} {b : Addr} {t u v : Tok} (h1 : 0 ≤ n) (h2 : n < 1000000) (h3 : 0 ≤ m) (h4 : m < 1000000) : ∃ T : PySem.Str, Meets (Builtin.«str.__mod__» ⟨[.str (PySem.Str.mk #[101, 120, 112, 101, 99, 116, 101, 100, 32, 37, 100, 32, 98, 121, 116, 101, 115, 32, 105, 110, 32, 97, 32, 115, 116, 114, 105, 110, 103, 49, 44, 32, 98, 117, 116, 32, 111, 110, 108, 121, 32, 37, 100, 32, 114, 101, 109, 97, 105, 110]) t, .ref b], []⟩) (fun _ R s => IsTup s.heap b #[.int n u, .int m v] ∧ ∀ t' k, R (.ok (.ret (.str T t'))) { s with toks := k }) := by
 refine ⟨?_, ?_⟩
 case refine_2 => kpt_run
section
variable {C : Cx} {n : Nat} {env : Env} {ns : List Str} {σ : Sg}
theorem mod_any {prog : Program} {w : World} {A : Around} {E : Value → Shared → Prop} {s : Shared} {a m : Int} {b : Addr} {t u v : Tok} {Q : Value → Shared → Prop} (h1 : 0 ≤ a) (h2 : a < 1000000) (h3 : 0 ≤ m) (h4 : m < 1000000) (ht : IsTup s.heap b #[.int a u, .int m v]) (h : ∀ y k, Q y { s with toks := k }) :
  wpAny (model prog w) A (binaryOp .Mod (.str (sOf fmtL) t) (.ref b)) Q E s := by
 have hT : s.TypeIs (.ref b) "tuple" := by
  obtain ⟨o, ho, hc, _⟩ := ht
  exact ⟨o, ho, hc⟩
 obtain ⟨T, hm⟩ := fmt_meets (b := b) (t := t) (u := u) (v := v) h1 h2 h3 h4
 exact KPt.bin_left (T := "str") (U := "tuple") (op := .Mod) (by decide) (typeIs_str s _ t) hT F.fills_str_mod KPt.fills_tuple F.slot_str_mod
  (call_meets F.slot_str_mod (typeIs_str s _ t) F.entry_str_mod (F.args_str_mod_2 _ _) hm ⟨ht, fun t' k => ⟨(fun e => nomatch e), h _ k⟩⟩)
theorem msg_fmt {x : Str} {e2 : PySem.Expr} {k : Nat} {p pos : Pos} {a m : Int} (hx : x = sOf fmtL) (h1 : 0 ≤ a) (h2 : a < 1000000) (h3 : 0 ≤ m) (h4 : m < 1000000) (te : TE C n env ns e2 σ (.tup [.int a, .int m]) σ)
  (A : Around) (s : Shared) (as : List Addr) (Q : Value → Shared → Prop) (E : Value → Shared → Prop) (R : Room n A) (r : Rel C env ns as σ s.heap)
  (h : ∀ h' tk y, Rel C env ns as σ h' → Step C env as s.heap as h' → Q y { s with heap := h', toks := tk }) : wpAny (model C.prog C.w) A (eval (.BinOp (.Constant (.str x) k p) .Mod e2 pos) env) Q E s := by
 refine wpAny_BinOp (te_str (n := n) hx A s as _ E R r fun as1 g1 t1 y r1 s1 v1 => te A _ as1 _ E R r1 fun as2 g2 t2 z r2 s2 v2 => ?_)
 have e1 := s1.same (r1.hr.len.trans r.hr.len.symm)
 subst e1
 have e2 := s2.same (r2.hr.len.trans r1.hr.len.symm)
 subst e2
 replace v1 := v1.inv; obtain ⟨_, rfl⟩ := v1
 replace v2 := v2.inv; obtain ⟨b, vals, rfl, it, nt, q⟩ := v2
 replace q := q.inv; obtain ⟨x1, ys, rfl, q1, q2⟩ := q
 replace q2 := q2.inv; obtain ⟨x2, ys2, rfl, q2, q3⟩ := q2
 replace q3 := q3.inv; obtain rfl := q3
 cases q1; replace q2 := q2.inv; obtain ⟨_, rfl⟩ := q2
 exact mod_any (s := { s with heap := g2, toks := t2 }) h1 h2 h3 h4 it fun y k => h g2 k y r2 (s1.trans s2)
theorem msg_str {x : Str} {k : Nat} {p : Pos} {y : List Nat} (hx : x = sOf y) (A : Around) (s : Shared) (as : List Addr) (Q : Value → Shared → Prop) (E : Value → Shared → Prop) (R : Room n A) (r : Rel C env ns as σ s.heap)
  (h : ∀ h' tk y, Rel C env ns as σ h' → Step C env as s.heap as h' → Q y { s with heap := h', toks := tk }) : wpAny (model C.prog C.w) A (eval (.Constant (.str x) k p) env) Q E s :=
 te_str (n := n) hx A s as _ E R r fun as1 g1 t1 y r1 s1 v1 => by
  have e1 := s1.same (r1.hr.len.trans r.hr.len.symm)
  subst e1
  exact h g1 t1 y r1 s1
end
end Mine
end
section
open PySem PySem.W PySem.Spec PySem.Calls PySem.SeqAt PyProof.Rows
namespace Mine
section
variable {C : Cx} {K : Frag} {n m : Nat} {env : Env} {ns : List Str} {σ σ' σ₁ σ₂ σ₃ σ₄ : Sg} {as as' : List Addr} {h h' : Heap} {a b c d v : V} {f : F} {hp : List O} {N : List (Addr × Obj)} {pin : List (Nat × Addr)}
theorem str_enter {name : Str} {params : Arguments} {body rest : List Stmt} {scope : Scope} {fU : Addr} {cd : Value} {p1 p2 p3 p4 p5 : Pos} {x0 : List Nat} (D : StrD C K) (pn : C.pin = [])
  (D2 : DefAt C name params body scope fU cd [Str.ofString "octets"]) (hb : body = .Assign [.Name (Str.ofString "stream") p1] (.Call (.Name (Str.ofString "_law_stream") p2) [.Name (Str.ofString "octets") p3] [] p4) p5 :: rest)
  (hcel : ∀ L, (envOfC name scope L fU cd).cells = []) (gl : GL C (Str.ofString "_law_stream") (.raw (.ref D.fa))) (hk1 : scope.names.lookup (Str.ofString "_law_stream") = some .globalImplicit) (hk2 : scope.names.lookup (Str.ofString "stream") = some .local)
  {A : Around} {s : Shared} {as : List Addr} {xs : List Value} {Q : Value → Shared → Prop} {E : Value → Shared → Prop} (R : Room (n + 9) A) (wd : C.Wd s.heap) (hr : HR C as hp s.heap) (hv : VRs as s.heap [.byt x0] xs)
  (go : ∀ A' S g5 t5, A' = A.deeper (envOfC name scope s.heap.objs.size fU cd) → Room (n + 8) A' → Live C D S → S.x = x0 → s.heap.get? S.l = none → (∀ p ∈ S.objs D, s.heap.get? p.1 = none) →
   Rel (C.str D S hp.length) (envOfC name scope s.heap.objs.size fU cd) ([Str.ofString "octets"] ++ [Str.ofString "stream", Str.ofString "rows", Str.ofString "k", Str.ofString "share"]) (as ++ [S.l]) ⟨[some (.byt x0), some (.raw (.ref S.a)), none, none, none], hp ++ [.lst [.int 0]]⟩ g5 →
   (∀ b o, s.heap.get? b = some o → b ∉ as → b ∉ C.T → g5.get? b = some o) → (∀ b o, s.heap.get? b = some o → ∃ o', g5.get? b = some o') →
   wpAny (model C.prog C.w) A' (execs rest (envOfC name scope s.heap.objs.size fU cd)) (fun fl s' => Q (outV fl) s') (fun e s' => wpAny (model C.prog C.w) A' (leaving (envOfC name scope s.heap.objs.size fU cd) e) (fun _ s'' => E e s'') (fun e' s'' => E e' s'') s') { s with heap := g5, toks := t5 }) :
  wpAny (model C.prog C.w) A (call (.ref fU) xs) Q E s := by
 refine def_enterF (n := n + 8) (more := [Str.ofString "stream", Str.ofString "rows", Str.ofString "k", Str.ofString "share"]) D2 rfl (by decide +kernel) R wd hr hv fun A' h₁ tk₁ eA R' r0' keep ab => ?_
 rw [hb]
 have ok := okC (name := name) (L := s.heap.objs.size) (fa := fU) (cd := cd) (ns := [Str.ofString "octets"] ++ [Str.ofString "stream", Str.ofString "rows", Str.ofString "k", Str.ofString "share"]) D2.kind (by decide +kernel)
 have mc0 : mcells (envOfC name scope s.heap.objs.size fU cd) = [] := by unfold mcells; rw [hcel]; simp
 have hloc : (envOfC name scope s.heap.objs.size fU cd).locals = s.heap.objs.size := rfl
 have hst : stores (envOfC name scope s.heap.objs.size fU cd) (Str.ofString "stream") = true := by
  unfold stores
  rw [show (envOfC name scope s.heap.objs.size fU cd).kindOf (Str.ofString "stream") = some .local from hk2]
 refine wpAny_execs_cons (wpAny_Assign_Name (Call_ ((ce_gl (n := n + 8) (pos := p2) ok (show (envOfC name scope s.heap.objs.size fU cd).kindOf _ = _ from hk1) (by decide +kernel) gl).ok _ _ _ rfl A' { s with heap := h₁, toks := tk₁ } as _ _ R' r0' fun as1 g1 t1 y r1 s1 v1 => ?_) rfl) (swaps_plain rfl))
 replace v1 := v1.inv; obtain rfl := v1
 have e1 := s1.same (r1.hr.len.trans r0'.hr.len.symm)
 subst e1
 refine callWith_F (s := { s with heap := g1, toks := t1 }) (fn_at D.D.func r1.wd) (args_cons ((ce_loc (n := n + 8) (pos := p3) ok 0 rfl (by decide +kernel) (by decide +kernel)).ok (σ0 [.byt x0] 4 hp) (.byt x0) (σ0 [.byt x0] 4 hp) rfl A' { s with heap := g1, toks := t1 } as _ _ R' r1 fun as2 g2 t2 z r2 s2 v2 => args_nil ⟨fn_at D.D.func r2.wd, ?_⟩) rfl) rfl
 have e2 := s2.same (r2.hr.len.trans r1.hr.len.symm)
 subst e2
 refine law_stream (n := n) (s := { s with heap := g2, toks := t2 }) D pn R' r2.wd (fun as h => v2.ofImm rfl) fun h' tk S Sok Sx wdC hrC kp lv objs cvE lN => ?_
 dsimp only at kp lv objs lN
 have dl := r2.deadAddr lN
 -- the place list joins the own lists
 have hr3 : HR C (as ++ [S.l]) (hp ++ [.lst [.int 0]]) h' := by
  have q0 := r2.hr
  refine ⟨by rw [List.length_append, List.length_append, show as.length = hp.length from q0.len]; rfl, List.nodup_append.mpr ⟨q0.nodup, by simp, fun x hx y hy z => ?_⟩, fun a m => ?_, by simp [pn], fun i o e => ?_⟩
  ·rw [List.mem_singleton.mp hy] at z
   exact dl.2.2.1 (z ▸ hx)
  ·rcases List.mem_append.mp m with m | m
   ·exact q0.above a m
   ·exact hrC.above a m
  ·have hlen : as.length = hp.length := q0.len
   by_cases li : i < hp.length
   ·rw [List.getElem?_append_left li] at e
    obtain ⟨a, ha, q⟩ := q0.has i o e
    have ma := List.mem_of_getElem? ha
    refine ⟨a, by rw [List.getElem?_append_left (by lia)]; exact ha, ?_⟩
    have na : a ∉ C.T := fun z => q0.above a ma (.inr z)
    cases o with
    | obj => obtain ⟨o, g, c⟩ := q; exact ⟨o, kp _ _ na g, c⟩
    | lst vs =>
     obtain ⟨vals, p, w⟩ := q
     refine ⟨vals, p.at (fun o e => kp _ _ na e), VRs.step (fun b o e nm im => kp b o (r2.apart e im).2.2 e) (fun a m => ?_) w⟩
     rw [List.mem_singleton.mp m]; exact lN
   ·have hi : i = hp.length := by
     have := (List.getElem?_eq_some_iff.mp e).1
     rw [List.length_append, List.length_singleton] at this
     lia
    subst hi
    rw [List.getElem?_append_right (Nat.le_refl _), Nat.sub_self] at e
    cases e
    obtain ⟨a, ha, vals, p, w⟩ := hrC.has 0 _ rfl
    cases ha
    refine ⟨S.l, by rw [List.getElem?_append_right (by exact Nat.le_of_eq ‹_›), hlen, Nat.sub_self]; rfl, vals, p, w.ofImm rfl⟩
 have kA : KeepA C as g2 (as ++ [S.l]) h' := ⟨fun b o e _ nt => kp b o nt e, ⟨[S.l], rfl, fun a m => by rw [List.mem_singleton.mp m]; exact lN⟩, lv⟩
 have r3 := r2.called kA wdC hr3
 have Lv : Live C D S := ⟨Sok, fun p hp z => (by obtain ⟨o, e⟩ := r2.wd.live z; rw [(objs p hp).2.1] at e; cases e), pn⟩
 have cvA : ∀ a ∈ as ++ [S.l], a ≠ S.cv := by
  rintro a m rfl
  obtain ⟨i, e⟩ := List.mem_iff_getElem?.mp m
  have lt := (List.getElem?_eq_some_iff.mp e).1
  rw [hr3.len] at lt
  obtain ⟨a', e', q⟩ := hr3.has i _ (List.getElem?_eq_getElem lt)
  rw [e] at e'; cases e'
  cases ho : (hp ++ [O.lst [.int 0]])[i] with
  | lst vs =>
   rw [ho] at q
   obtain ⟨_, ⟨o, c, g, hc, _⟩, _⟩ := q
   rw [cvE] at g
   rw [← Option.some.inj g, Sok.oc] at hc
   exact absurd (Value.type.inj hc) (by decide +kernel)
  | obj =>
   rw [ho] at q
   obtain ⟨o, g, hc, _⟩ := q
   rw [cvE] at g
   rw [← Option.some.inj g, Sok.oc] at hc
   exact absurd (Value.type.inj hc) (by decide +kernel)
 have r4 : Rel (C.str D S hp.length) (envOfC name scope s.heap.objs.size fU cd) ([Str.ofString "octets"] ++ [Str.ofString "stream", Str.ofString "rows", Str.ofString "k", Str.ofString "share"]) (as ++ [S.l]) ⟨[some (.byt x0), none, none, none, none], hp ++ [.lst [.int 0]]⟩ h' := by
  refine r3.more (fun p hp => ?_) (fun p hp => ?_) (fun p hp => ?_) (fun p hp => by rw [hcel]; simp) (fun p hq => ?_)
  ·rcases List.mem_cons.mp hp with rfl | hp
   ·exact cvE
   ·exact (objs p hp).1
  ·rcases List.mem_cons.mp hp with rfl | hp
   ·exact fun m => cvA _ m rfl
   ·intro m
    rcases List.mem_append.mp m with m | m
    ·exact (r2.deadAddr (objs p hp).2.1).2.2.1 m
    ·exact (objs p hp).2.2 (List.mem_singleton.mp m)
  ·rcases List.mem_cons.mp hp with rfl | hp
   ·intro z
    obtain ⟨m, ⟨oL, es, ep, hL, dL, _⟩, _⟩ := r3.fr
    obtain ⟨vs, t, ov, _⟩ := Sok.ov
    rw [← z, cvE] at hL
    rw [← Option.some.inj hL, ov] at dL
    cases dL
   ·exact (r2.deadAddr (objs p hp).2.1).1
  ·rw [List.mem_singleton.mp hq]
   have hlen : as.length = hp.length := r2.hr.len
   show (as ++ [S.l])[hp.length]? = some S.l
   rw [← hlen, List.getElem?_append_right (Nat.le_refl _), Nat.sub_self]
   rfl
 refine store_loc (C := C.str D S hp.length) (i := 1) (s := { s with heap := h', toks := tk }) ok rfl hst r4 (.raw _) fun g5 t5 r5 s5 => ?_
 have nl0 : ∀ {b : Addr} {o : Obj}, s.heap.get? b = some o → b ≠ (envOfC name scope s.heap.objs.size fU cd).locals := fun e => Nat.ne_of_lt (Heap.lt_size e)
 have nm0 : ∀ b : Addr, b ∉ mcells (envOfC name scope s.heap.objs.size fU cd) := fun b => by rw [mc0]; simp
 have dead0 : ∀ b, g2.get? b = none → s.heap.get? b = none := fun b e2 => by
  cases z : s.heap.get? b with
  | none => rfl
  | some o =>
   obtain ⟨o1, e1⟩ := s1.live _ o (keep _ o z)
   obtain ⟨o2, e2'⟩ := s2.live _ o1 e1
   rw [e2] at e2'; cases e2'
 refine go A' S g5 t5 eA R' Lv Sx (dead0 _ lN) (fun p hp => dead0 _ (objs p hp).2.1) r5 (fun b o e na nt => ?_) (fun b o e => ?_)
 ·have q2 := s2.keep b o (s1.keep b o (keep b o e) (nl0 e) (nm0 b) na nt) (nl0 e) (nm0 b) na nt
  have nb : b ∉ as ++ [S.l] := fun m => by
   rcases List.mem_append.mp m with m | m
   ·exact na m
   ·rw [List.mem_singleton.mp m] at q2
    rw [lN] at q2; cases q2
  exact s5.keep b o (kp b o nt q2) (nl0 e) (nm0 b) nb nt
 ·obtain ⟨o1, e1⟩ := s1.live b o (keep b o e)
  obtain ⟨o2, e2⟩ := s2.live b o1 e1
  obtain ⟨o3, e3⟩ := lv b o2 e2
  exact s5.live b o3 e3
end
noncomputable def SpcF (C : Cx) (n : Nat) (f : Value) (args : List V) (hp : List O) (v : V) (hp' : List O) : Prop :=
 ∀ (A : Around) (s : Shared) (as : List Addr) (xs : List Value) (F : List Env) (Q : Value → Shared → Prop) (E : Value → Shared → Prop), Room n A → A.frames = some F → Frames s.heap F → (∀ b ∈ fAd F, ¬ C.Old b) → C.Wd s.heap → HR C as hp s.heap → VRs as s.heap args xs →
  (∀ h' tk x, C.Wd h' → HR C as hp' h' → KeepF C (fAd F) as s.heap as h' → VR as h' v x → Q x { s with heap := h', toks := tk }) → wpAny (model C.prog C.w) A (call f xs) Q E s
noncomputable abbrev unNs : List Str := [Str.ofString "octets"] ++ [Str.ofString "stream", Str.ofString "rows", Str.ofString "k", Str.ofString "share"]
section
variable {C : Cx} {K : Frag} {n m : Nat} {as as' : List Addr} {h h' : Heap} {hp : List O}
theorem Frames.grow {F : List Env} (x : Frames h F) (k : ∀ b o, h.get? b = some o → (∀ vs, o.data ≠ .fields vs) → b ∈ fAd F → h'.get? b = some o) : Frames h' F := fun e m => by
 obtain ⟨hk, L, o, es, n, hf, ho, hd⟩ := x e m
 exact ⟨hk, L, o, es, n, hf, k L o ho (fun vs z => by rw [hd] at z; cases z) (mem_fAd m L hf), hd⟩
theorem unpack_ok {name : Str} {params : Arguments} {body tl : List Stmt} {b1 forS h0 : Stmt} {scope : Scope} {fU : Addr} {cd : Value} {p1 p2 p3 p4 p5 np hpos tpos : Pos} {x0 : List Nat} {vs : List V} {u v : V} (D : StrD C K) (pn : C.pin = [])
  (D2 : DefAt C name params body scope fU cd [Str.ofString "octets"]) (hb : body = .Assign [.Name (Str.ofString "stream") p1] (.Call (.Name (Str.ofString "_law_stream") p2) [.Name (Str.ofString "octets") p3] [] p4) p5 :: b1 :: .Try [forS] [.ExceptHandler (some (.Name (Str.ofString "ValueError") np)) none [h0] hpos] [] [] tpos :: tl)
  (hcel : ∀ L, (envOfC name scope L fU cd).cells = []) (gl : GL C (Str.ofString "_law_stream") (.raw (.ref D.fa))) (hk1 : scope.names.lookup (Str.ofString "_law_stream") = some .globalImplicit) (hk2 : scope.names.lookup (Str.ofString "stream") = some .local) (bl : BL C (Str.ofString "ValueError") VE) (hk3 : scope.names.lookup (Str.ofString "ValueError") = some .globalImplicit)
  (hA : ∀ S, Live C D S → S.x = x0 → ∀ L, TX (C.str D S hp.length) (n + 8) (envOfC name scope L fU cd) unNs b1 ⟨[some (.byt x0), some (.raw (.ref S.a)), none, none, none], hp ++ [.lst [.int 0]]⟩ .next ⟨[some (.byt x0), some (.raw (.ref S.a)), some (.own (hp.length + 1)), none, none], hp ++ [.lst [.int 0], .lst [.str []]]⟩)
  (hF : ∀ S, Live C D S → S.x = x0 → ∀ L, ∃ v3 v4 : Option V, (∀ w, v3 = some w → flat w = true) ∧ (∀ w, v4 = some w → flat w = true) ∧ RH (C.str D S hp.length) (n + 8) (envOfC name scope L fU cd) unNs (execs [forS] (envOfC name scope L fU cd)) ⟨[some (.byt x0), some (.raw (.ref S.a)), some (.own (hp.length + 1)), none, none], hp ++ [.lst [.int 0], .lst [.str []]]⟩
   ⟨[some (.byt x0), some (.raw (.ref S.a)), some (.own (hp.length + 1)), v3, v4], hp ++ [.lst [.int x0.length], .lst (.str [] :: vs)]⟩)
  (hH : ∀ S, Live C D S → S.x = x0 → ∀ L (A : Around) (s : Shared) (as : List Addr) (σ : Sg) (Q : Flow → Shared → Prop), Rel (C.str D S hp.length) (envOfC name scope L fU cd) unNs as σ s.heap → σ.loc[0]? = some (some (.byt S.x)) → σ.loc[1]? = some (some (.raw (.ref S.a))) → σ.loc[2]? = some (some (.own (hp.length + 1))) → σ.hp[hp.length]? = some (.lst [.int x0.length]) → σ.hp[hp.length + 1]? = some (.lst (.str [] :: vs)) →
   (∀ as' h' tk x, Rel (C.str D S hp.length) (envOfC name scope L fU cd) unNs as' (σ.new vs).2 h' → Step (C.str D S hp.length) (envOfC name scope L fU cd) as s.heap as' h' → VR as' h' (σ.new vs).1 x → Q (.ret x) { s with heap := h', toks := tk }) → wpAny (model C.prog C.w) A (execs [h0] (envOfC name scope L fU cd)) Q (fun _ _ => False) s)
  (flt : hp.all flatO = true) (low : hp.all (O.low hp.length) = true) (vf : vs.all flat = true) (vi : ∀ m, V.lows m vs = true) : SpcF C (n + 9) (.ref fU) [.byt x0] hp (.lst vs) hp := by
 intro A s as xs F Q E R hfr fr nF wd hr hv fin
 refine str_enter (n := n) D pn D2 hb hcel gl hk1 hk2 R wd hr hv fun A' S g5 t5 eA R' Lv Sx dl dN r5 kp lv => ?_
 have hfr' : A'.frames = some (envOfC name scope s.heap.objs.size fU cd :: F) := by rw [eA]; exact Around.frames_deeper hfr
 clear eA
 have ok : EnvOk (envOfC name scope s.heap.objs.size fU cd) unNs := okC D2.kind (by decide +kernel)
 have mc0 : mcells (envOfC name scope s.heap.objs.size fU cd) = [] := by unfold mcells; rw [hcel]; simp
 have hlen : as.length = hp.length := hr.len
 have frA : ∀ b ∈ fAd F, ∃ o es nn, s.heap.get? b = some o ∧ o.data = .dict es nn := fun b m => by
  obtain ⟨env', me, hf⟩ := List.mem_filterMap.mp m
  obtain ⟨_, L, o, es, nn, hf', ho, hd⟩ := fr env' me
  rw [hf] at hf'; cases hf'
  exact ⟨o, es, nn, ho, hd⟩
 have frKeep : ∀ b ∈ fAd F, ∀ o, s.heap.get? b = some o → g5.get? b = some o := fun b m o e => by
  obtain ⟨o', es, nn, e', d⟩ := frA b m
  rw [e] at e'; cases e'
  exact kp b o e (not_own hr e d) (not_tab wd e d)
 have nF' : ∀ b ∈ fAd F, ¬ (C.str D S hp.length).Old b := fun b m z => by
  obtain ⟨o', es, nn, e', d⟩ := frA b m
  rcases more_old z with z | ⟨o, z⟩
  ·exact nF b m z
  ·rcases List.mem_cons.mp z with z | z
   ·cases z
    have g := (more_wd.mp r5.wd).2 (S.cv, S.oc) (List.mem_cons_self ..)
    rw [frKeep _ m _ e'] at g
    obtain ⟨vs', t, ov, _⟩ := Lv.ok.ov
    have ge : S.oc = o' := (Option.some.inj g).symm
    rw [ge, d] at ov; cases ov
   ·rw [dN _ z] at e'; cases e'
 refine wpAny_execs_cons (hA S Lv Sx s.heap.objs.size A' { s with heap := g5, toks := t5 } _ _ _ R' r5 fun as6 g6 t6 fl r6 s6 v6 => ?_)
 replace v6 := v6.inv; obtain rfl := v6
 dsimp only at s6 ⊢
 obtain ⟨v3, v4, f3, f4, hRH⟩ := hF S Lv Sx s.heap.objs.size
 have fr6 : Frames g6 F := (fr.grow (h' := g5) fun b o e _ m => frKeep b m o e).step r5 r6 s6
 refine wpAny_execs_cons (try_ok (C := C.str D S hp.length) (n := n + 8) (F := F) ok rfl hRH (fun i v e => ?_) ?_ ⟨bl.no, bl.yes⟩ hk3 (s := { s with heap := g6, toks := t6 }) R' hfr' fr6 nF' r6 fun A2 as7 hc h7 t7 s7 k7 r7 => ?_)
 ·match i, e with
  | 0, e => cases e; rfl
  | 1, e => cases e; rfl
  | 2, e => cases e; rfl
  | 3, e => exact f3 v (Option.some.inj e)
  | 4, e => exact f4 v (Option.some.inj e)
 ·rw [List.all_append, flt]
  show (vs.all flat && true) = true
  rw [vf]; rfl
 ·refine hH S Lv Sx _ A2 { s with heap := h7, toks := t7 } as7 _ _ r7 (by rw [Sx]; rfl) rfl rfl ?_ ?_ fun as8 h8 t8 x r8 s8 v8 => ?_
  ·show (hp ++ _)[hp.length]? = _
   rw [List.getElem?_append_right (Nat.le_refl _), Nat.sub_self]; rfl
  ·show (hp ++ _)[hp.length + 1]? = _
   rw [List.getElem?_append_right (Nat.le_succ _), show hp.length + 1 - hp.length = 1 by simp]; rfl
  ·dsimp only at s7 s8 ⊢
   obtain ⟨e6, hx6, fx6⟩ := s6.ext
   obtain ⟨e7, hx7, fx7⟩ := s7.ext
   obtain ⟨e8, hx8, fx8⟩ := s8.ext
   subst hx6 hx7 hx8
   have aE : as ++ [S.l] ++ e6 ++ e7 ++ e8 = as ++ ([S.l] ++ e6 ++ e7 ++ e8) := by simp
   have hr8 : HR C (as ++ ([S.l] ++ e6 ++ e7 ++ e8)) (hp ++ [.lst [.int x0.length], .lst (.str [] :: vs), .lst vs]) h8 := by
    have := r8.hr.less pn
    rw [aE] at this
    have e : (Sg.new ⟨[some (.byt x0), some (.raw (.ref S.a)), some (.own (hp.length + 1)), v3, v4], hp ++ [.lst [.int x0.length], .lst (.str [] :: vs)]⟩ vs).2.hp = hp ++ [.lst [.int x0.length], .lst (.str [] :: vs), .lst vs] := by
     show hp ++ _ ++ _ = _
     simp
    rw [e] at this
    exact this
   have tk0 : (hp ++ [O.lst [.int x0.length], .lst (.str [] :: vs), .lst vs]).take as.length = hp := by rw [hlen, List.take_left']; rfl
   have hrF := hr8.shrink (by simp [pn]) (by rw [tk0, hlen]; exact low)
   rw [tk0] at hrF
   have al : ∀ {b : Addr} {o : Obj}, s.heap.get? b = some o → b ≠ (envOfC name scope s.heap.objs.size fU cd).locals := fun e => Nat.ne_of_lt (Heap.lt_size e)
   have nm : ∀ b : Addr, b ∉ mcells (envOfC name scope s.heap.objs.size fU cd) := fun b => by rw [mc0]; simp
   have deadE : ∀ {b : Addr} {o : Obj}, s.heap.get? b = some o → b ∉ as → b ∉ [S.l] ++ e6 ++ e7 := fun {b o} e na m => by
    have l5 := lv b o e
    have g6' : ∃ o', g6.get? b = some o' := let ⟨o1, q⟩ := l5; s6.live b o1 q
    rcases List.mem_append.mp m with m | m
    ·rcases List.mem_append.mp m with m | m
     ·rw [List.mem_singleton.mp m, dl] at e; cases e
     ·obtain ⟨o1, q⟩ := l5
      rw [fx6 b m] at q; cases q
    ·obtain ⟨o1, q⟩ := g6'
     rw [fx7 b m] at q; cases q
   have n1 : ∀ {b : Addr} {o : Obj}, s.heap.get? b = some o → b ∉ as → b ∉ as ++ [S.l] := fun e na m => by
    rcases List.mem_append.mp m with m | m
    ·exact na m
    ·exact deadE e na (by simp [List.mem_singleton.mp m])
   have n2 : ∀ {b : Addr} {o : Obj}, s.heap.get? b = some o → b ∉ as → b ∉ as ++ [S.l] ++ e6 := fun e na m => by
    rcases List.mem_append.mp m with m | m
    ·exact n1 e na m
    ·exact deadE e na (by simp [m])
   have n3 : ∀ {b : Addr} {o : Obj}, s.heap.get? b = some o → b ∉ as → b ∉ as ++ [S.l] ++ e6 ++ e7 := fun e na m => by
    rcases List.mem_append.mp m with m | m
    ·exact n2 e na m
    ·exact deadE e na (by simp [m])
   have toHc : ∀ {b : Addr} {o : Obj}, s.heap.get? b = some o → b ∉ as → b ∉ C.T → hc.get? b = some o := fun {b o} e na nt =>
    s7.keep b o (s6.keep b o (kp b o e na nt) (al e) (nm b) (n1 e na) nt) (al e) (nm b) (n2 e na) nt
   refine fin h8 t8 x (more_wd.mp r8.wd).1 hrF ⟨fun b o e na nt nf => ?_, fun b o e m => ?_, ⟨[], by simp, by simp⟩, fun b o e => ?_⟩ ?_
   ·refine s8.keep b o (k7.keep b o (toHc e na nt) (n3 e na) nt fun m => ?_) (al e) (nm b) (n3 e na) nt
    rcases List.mem_cons.mp m with m | m
    ·exact al e m
    ·exact nf m
   ·obtain ⟨o', es, nn, e', d⟩ := frA b m
    rw [e] at e'; cases e'
    have na := not_own hr e d
    have nt := not_tab wd e d
    obtain ⟨sl, q⟩ := k7.slots b o (toHc e na nt) (List.mem_cons_of_mem _ m)
    exact ⟨sl, s8.keep b _ q (al e) (nm b) (n3 e na) nt⟩
   ·obtain ⟨o1, q1⟩ := lv b o e
    obtain ⟨o2, q2⟩ := s6.live b o1 q1
    obtain ⟨o3, q3⟩ := s7.live b o2 q2
    obtain ⟨o4, q4⟩ := k7.live b o3 q3
    exact s8.live b o4 q4
   ·have v8' : VR (as ++ ([S.l] ++ e6 ++ e7 ++ e8)) h8 (.own (hp ++ [O.lst [.int x0.length], .lst (.str [] :: vs)]).length) x := aE ▸ v8
    have e2 : (hp ++ [O.lst [.int x0.length], .lst (.str [] :: vs)]).length = hp.length + 2 := by simp
    rw [e2] at v8'
    replace v8' := v8'.inv; obtain ⟨l1, rfl, el⟩ := v8'
    obtain ⟨l', el', vals', pl, w⟩ := hr8.has (hp.length + 2) (.lst vs) (by rw [List.getElem?_append_right (by exact tE _ _), Nat.add_sub_cancel_left]; rfl)
    rw [el] at el'; cases el'
    have nl : l1 ∉ as := fun m => by
     have nd := hr8.nodup
     rw [List.getElem?_append_right (by lia)] at el
     exact (List.nodup_append.mp nd).2.2 l1 m l1 (List.mem_of_getElem? el) rfl
    exact .lst _ l1 vals' pl.isList nl (w.shrink (vi _))
end
end Mine
end
section
open PySem PySem.W PySem.Spec PySem.Calls PySem.SeqAt PyProof.Rows
set_option maxRecDepth 4000
namespace Mine
noncomputable def rplN (c : Nat) (z : List Nat) (x : List Nat) : List Nat := x.flatMap fun k => if k = c then z else [k]
theorem rpl_free {c : Nat} {z : List Nat} : ∀ {l : List Nat}, c ∉ l → rplN c z l = l
 | [], _ => rfl
 | k :: r, h => by
  have h1 : ¬ k = c := fun e => h (e ▸ List.mem_cons_self ..)
  have h2 := rpl_free (z := z) fun m => h (List.mem_cons_of_mem _ m)
  unfold rplN at h2 ⊢
  rw [List.flatMap_cons, if_neg h1, h2]; rfl
theorem rpl_app {c : Nat} {z a b : List Nat} : rplN c z (a ++ b) = rplN c z a ++ rplN c z b := by unfold rplN; rw [List.flatMap_append]
theorem rpl_join (c : Nat) (z : List Nat) : ∀ parts : List Str, (∀ p ∈ parts, c ∉ p.cps.toList) → rplN c z (Str.join ⟨#[c]⟩ parts).cps.toList = (Str.join (sOf z) parts).cps.toList
 | [], _ => rfl
 | [p], h => rpl_free (h p (List.mem_singleton.mpr rfl))
 | p :: q :: r, h => by
  have ih := rpl_join c z (q :: r) fun a ha => h a (List.mem_cons_of_mem _ ha)
  show rplN c z (p ++ ⟨#[c]⟩ ++ Str.join ⟨#[c]⟩ (q :: r)).cps.toList = (p ++ sOf z ++ Str.join (sOf z) (q :: r)).cps.toList
  simp only [Str.cps_append, Array.toList_append]
  rw [rpl_app, rpl_app, ih, rpl_free (h p (List.mem_cons_self ..))]
  show p.cps.toList ++ rplN c z [c] ++ _ = _
  rw [show rplN c z [c] = z by unfold rplN; simp]
theorem rpl_txt (x z : List Nat) (c : Nat) : Txt.replace (sOf x) (sOf [c]) (sOf z) = sOf (rplN c z x) := by
 have e : (Txt.replace (sOf x) (sOf [c]) (sOf z)).cps.toList = rplN c z x := by
  rw [show sOf [c] = (⟨#[c]⟩ : Str) from rfl, StrLaws.replace_one, ← rpl_join c z _ (StrLaws.split_free (sOf x) c), StrLaws.join_split]
 generalize Txt.replace (sOf x) (sOf [c]) (sOf z) = y at e
 cases y with | mk a =>
 show (⟨a⟩ : Str) = ⟨(rplN c z x).toArray⟩
 rw [← e]
section
variable {C : Cx} {n m : Nat} {env : Env} {ns : List Str} {σ σ' σ₁ σ₂ σ₃ σ₄ : Sg} {as as' : List Addr} {h h' : Heap} {a b c d v : V} {f : F}
theorem meth_eqS {value slice : Expr} {sp : Pos} {name : Str} {apos pos : Pos} {es : List Expr} (hn : es.all notStar = true) (hl : es.length < 30) (hp : (apos.endLine == pos.line) = true) :
  eval (.Call (.Attribute (.Subscript value slice sp) name apos) es [] pos) env = (do
   let ov ← eval (.Subscript value slice sp) env
   standAt apos.atName
   let (f, first) ← holding [ov] (getMethod ov name (do return (← importBound (.Subscript value slice sp) env).getD true))
   callWith pos f first (backTo pos (starEach es env)) []) := by
 have hf : methodCallForm (es.length + ([] : List Keyword).length) (backTo pos (starEach es env)) (backToKw pos (keywordEach [] env)) = true := by
  unfold methodCallForm
  have h2 : (backTo pos (starEach es env)).all (fun x => !x.1) = true := by
   clear hl
   induction es with
   | nil => rfl
   | cons e rest ih =>
    rw [List.all_cons, Bool.and_eq_true] at hn
    rw [starEach_cons hn.1]
    show (!false && _) = true
    exact ih hn.2
  rw [h2]
  show (true && true && decide (es.length + 0 + 0 < 30)) = true
  simpa using hl
 have ha : attributeBase (.Subscript value slice sp) name env (eval (.Subscript value slice sp) env) = eval (.Subscript value slice sp) env := by rfl
 show (do
  let ov ← attributeBase (.Subscript value slice sp) name env (eval (.Subscript value slice sp) env)
  standAt apos.atName
  methodCall (.Subscript value slice sp) name apos pos env ov (es.length + ([] : List Keyword).length) (backTo pos (starEach es env)) (backToKw pos (keywordEach [] env))) = _
 rw [ha]
 unfold methodCall calleeOf methodCallPos
 rw [hf]
 simp only [Bool.not_true, Bool.false_or, hp, if_true]
 rfl
theorem slc_post {x : List Nat} {t te : Tok} {e : Int} {s : Shared} {Q : Value → Shared → Prop} (hl : x.length ≤ 1000) (hq : ∀ tk t', s.toks ≤ tk → Q (.str (sOf (cut x none (some e))) t') { s with toks := tk }) :
  (sliceMade (sOf x) t none (some (e, te)) none).post Q s := by
 have ek : (Builtin.Str.strSliceIndices none (some e) 1 (sOf x).length).filterMap ((sOf x).cps[·]?) = cut x none (some e) := by rw [sOf_length]; exact strIdx_cut x none (some e)
 unfold sliceMade slicePicked
 simp only [Option.map_none, Option.map_some, Option.getD_none, ek]
 split
 ·rename_i hw2
  simp only [Bool.and_eq_true, beq_iff_eq, sOf_length] at hw2
  have := strIdx_whole x none (some e) hw2.2
  have q := hq s.toks t (Nat.le_refl _)
  rw [this] at q
  exact q
 ·exact ⟨by rw [sOf_length]; have := cut_len x none (some e); rw [sizeLine_val]; exact tA ‹_› (tA ‹_› (by decide)), hq (s.toks + 1) _ (Nat.le_succ _)⟩
theorem te_rpl {X Y : Str} {i j : Nat} {x : List Nat} {k one : Int} {old : Nat} {z : List Nat} {p1 p2 p3 p4 p5 p6 p7 p8 p9 pos : Pos} {k1 k2 k3 : Nat} (ok : EnvOk env ns) (hx : ns[i]? = some X) (hv : σ.loc[i]? = some (some (.str x))) (hy : ns[j]? = some Y) (hw : σ.loc[j]? = some (some (.int k)))
  (hdx : (X == ("__debug__" : Str)) = false) (hzx : (X == ("__classdict__" : Str)) = false) (hdy : (Y == ("__debug__" : Str)) = false) (hzy : (Y == ("__classdict__" : Str)) = false) (hl : x.length ≤ 1000) (hz : z.length ≤ 14) (ho : (sOf [old] == sOf z) = false) (hp : (p7.endLine == pos.line) = true) :
  TE C n env ns (.Call (.Attribute (.Subscript (.Name X p1) (.Slice none (some (.BinOp (.Name Y p2) .Add (.Constant (.int one) k1 p3) p4)) none p5) p6) (Str.ofString "replace") p7) [.Constant (.str (sOf [old])) k2 p8, .Constant (.str (sOf z)) k3 p9] [] pos) σ (.str (rplN old z (cut x none (some (k + one))))) σ := fun A s as Q E R r h => by
 refine MethodCall_ ?_ (meth_eqS (by rfl) (show 2 < 30 by decide) hp)
 refine wpAny_Subscript_str_slice (te_loc ok hx hv hdx hzx A s as _ E R r fun as1 g1 t1 xv r1 s1 v1 => wpAny_evalPart_none ?_)
 show wpAny _ _ (eval _ env) _ _ _
 refine wpAny_BinOp (te_loc ok hy hw hdy hzy A _ as1 _ E R r1 fun as2 g2 t2 yv r2 s2 v2 => wpAny_Constant_int ?_)
 replace v2 := v2.inv; obtain ⟨ty, rfl⟩ := v2
 replace v1 := v1.inv; obtain ⟨tx, rfl⟩ := v1
 refine add_int ⟨sOf x, tx, none, some (_, _), rfl, rfl, rfl, ?_⟩
 refine slc_post hl fun tk t hk => ?_
 refine str_meth PySem.F.slot_str_replace PySem.F.type_str_replace ?_
 refine callWith_method1 (args_cons (wpAny_Constant_str (args_cons (wpAny_Constant_str (args_nil ?_)))))
 have cl := cut_len x none (some (k + one))
 have hk' : 0 < tk := Nat.lt_of_lt_of_le (Nat.succ_pos _) hk
 refine SC.replaceW (x := sOf (cut x none (some (k + one)))) (y := sOf [old]) (z := sOf z) (by show tk ≠ 0; lia) (by show tk + 1 ≠ 0; lia) (by show tk ≠ tk + 1; simp) ho (by rw [sOf_length]; exact tA ‹_› (tA ‹_› (by decide))) (by rw [sOf_length]; exact hz) fun t' tk' => ?_
 rw [rpl_txt]
 exact h as2 (g2.push _) tk' _ (r2.push _) (s1.trans (s2.trans (Step.push _))) (.str _ _)
noncomputable def s_rpl (i j : Nat) (one : Int) (old : Nat) (z : List Nat) : SE := fun σ => match σ.loc[i]? with
 | some (some (.str x)) => match σ.loc[j]? with
  | some (some (.int k)) => if x.length ≤ 1000 then some (.str (rplN old z (cut x none (some (k + one)))), σ) else none
  | _ => none
 | _ => none
theorem ce_rpl {X Y : Str} {i j : Nat} {one : Int} {A B : Str} {old : Nat} {z : List Nat} {p1 p2 p3 p4 p5 p6 p7 p8 p9 pos : Pos} {k1 k2 k3 : Nat} {nm : Str} (ok : EnvOk env ns) (hn : nm = Str.ofString "replace") (hx : ns[i]? = some X) (hy : ns[j]? = some Y)
  (hdx : (X == ("__debug__" : Str)) = false) (hzx : (X == ("__classdict__" : Str)) = false) (hdy : (Y == ("__debug__" : Str)) = false) (hzy : (Y == ("__classdict__" : Str)) = false) (eA : A = sOf [old]) (eB : B = sOf z) (hz : z.length ≤ 14) (ho : (sOf [old] == sOf z) = false) (hp : (p7.endLine == pos.line) = true) :
  CE C n env ns (.Call (.Attribute (.Subscript (.Name X p1) (.Slice none (some (.BinOp (.Name Y p2) .Add (.Constant (.int one) k1 p3) p4)) none p5) p6) nm p7) [.Constant (.str A) k2 p8, .Constant (.str B) k3 p9] [] pos) (s_rpl i j one old z) := .mk fun σ v σ' hh => by
 subst eA eB hn
 unfold s_rpl at hh
 split at hh
 ·rename_i x e1
  split at hh
  ·rename_i k e2
   split at hh
   ·rename_i hl
    cases hh
    exact te_rpl ok hx e1 hy e2 hdx hzx hdy hzy hl hz ho hp
   ·cases hh
  ·cases hh
 ·cases hh
end
noncomputable section
noncomputable def srtN (l : List (List Nat)) : List (List Nat) := l.mergeSort fun a b => decide (a ≤ b)
theorem srt_perm (l : List (List Nat)) : (srtN l).Perm l := List.mergeSort_perm l _
theorem srt_le (l : List (List Nat)) : (srtN l).Pairwise (· ≤ ·) :=
 (List.pairwise_mergeSort (le := fun a b : List Nat => decide (a ≤ b)) (fun a b c h1 h2 => by
  rw [decide_eq_true_eq] at h1 h2 ⊢
  exact List.le_trans h1 h2) (fun a b => by
  rw [Bool.or_eq_true, decide_eq_true_eq, decide_eq_true_eq]
  exact List.le_total a b) l).imp fun h => of_decide_eq_true h
theorem srt_uniq {l m : List (List Nat)} (hp : l.Perm m) (hl : l.Pairwise (· ≤ ·)) : l = srtN m :=
 List.Perm.eq_of_pairwise (fun a b _ _ h1 h2 => List.le_antisymm h1 h2) hl (srt_le m) (hp.trans (srt_perm m).symm)
theorem rising_le : ∀ (p : Str) (l : List Str), risingS p l = true → ((p :: l).map fun x : Str => x.cps.toList).Pairwise (· ≤ ·)
 | p, [], _ => by simp
 | p, x :: r, h => by
  have h' : (!ltCps x.cps.toList p.cps.toList && risingS x r) = true := h
  rw [Bool.and_eq_true, Bool.not_eq_true', ltCps_eq, decide_eq_false_iff_not, List.not_lt] at h'
  have ih := rising_le x r h'.2
  rw [List.map_cons, List.pairwise_cons]
  refine ⟨fun y m => ?_, ih⟩
  rw [List.map_cons] at ih m
  rcases List.mem_cons.mp m with rfl | m
  ·exact h'.1
  ·exact List.le_trans h'.1 ((List.pairwise_cons.mp ih).1 y m)
theorem sorted_le : ∀ (l : List Str), sortedS l = true → (l.map fun x : Str => x.cps.toList).Pairwise (· ≤ ·)
 | [], _ => by simp
 | p :: l, h => rising_le p l h
theorem strs_back {as : List Addr} {h : Heap} : ∀ {vals : List Value} {ss : List Str}, StrsAre vals ss → VRs as h ((ss.map fun x : Str => x.cps.toList).map V.str) vals
 | _, _, .nil => .nil
 | _, _, .cons x t r => by
  cases x with | mk a =>
  have e : (⟨a⟩ : Str) = sOf a.toList := by unfold sOf; simp
  rw [List.map_cons, List.map_cons]
  refine .cons _ _ _ _ ?_ (strs_back r)
  show VR as h (.str a.toList) (.str ⟨a⟩ t)
  rw [e]
  exact .str _ _
theorem sorted_srt {ss : List Str} {xs : List (List Nat)} (hp : ss.Perm (xs.map sOf)) (hs : sortedS ss = true) : (ss.map fun x : Str => x.cps.toList) = srtN xs := by
 refine srt_uniq ?_ (sorted_le ss hs)
 have := hp.map fun x : Str => x.cps.toList
 rw [List.map_map] at this
 have e : xs.map ((fun x : Str => x.cps.toList) ∘ sOf) = xs := by
  conv => rhs; rw [← List.map_id xs]
  exact List.map_congr_left fun x _ => by simp
 rwa [e] at this
noncomputable def okL (xs : List (List Nat)) : Bool := xs.all fun x => x.all fun c => decide (c < 1114112)
theorem kes_canLay : ∀ ns : List (List Nat), okL ns = true → PyData.canLayAll0 ((ns.map sOf).map PyData.str) = true
 | [], _ => rfl
 | x :: r, h => by
  unfold okL at h
  rw [List.all_cons, Bool.and_eq_true] at h
  have ih := kes_canLay r h.2
  simp only [List.map_cons, PyData.canLayAll0, PyData.canLay0, ih, Bool.and_true]
  show ((sOf x).cps.all fun c => decide (c < 1114112)) = true
  simpa using h.1
theorem kes_depth : ∀ ns : List Str, PyData.depthAll (ns.map PyData.str) = 0
 | [] => rfl
 | _ :: r => by simp [PyData.depthAll, PyData.depth, kes_depth r]
theorem kes_shaped (ns : List (List Nat)) (h : okL ns = true) : SeqAt.shaped (.list ((ns.map sOf).map PyData.str)) = true := by
 simp only [SeqAt.shaped, PyData.canLay0, PyData.depth, kes_canLay ns h, kes_depth]
 decide
theorem kes_sameAll : ∀ ns ms : List Str, PySem.Spec.sameAll (ns.map PyData.str) (ms.map PyData.str) = decide (ns = ms)
 | [], [] => by simp [PySem.Spec.sameAll]
 | [], _ :: _ => by simp [PySem.Spec.sameAll]
 | _ :: _, [] => by simp [PySem.Spec.sameAll]
 | a :: r, b :: t => by
  simp only [List.map_cons, PySem.Spec.sameAll, PySem.Spec.same, kes_sameAll r t]
  by_cases h : a = b <;> by_cases h' : r = t <;> simp [h, h']
theorem kes_same (ns ms : List Str) : PySem.Spec.same (.list (ns.map PyData.str)) (.list (ms.map PyData.str)) = decide (ns = ms) := by
 simp only [PySem.Spec.same]; exact kes_sameAll ns ms
theorem kes_carried : ∀ {vs : List Value} {ns : List Str}, StrsAre vs ns → CarriedAll vs (ns.map PyData.str)
 | _, _, .nil => .nil
 | _, _, .cons _ t r => .cons (.str _ t) (kes_carried r)
theorem sOf_inj {a b : List (List Nat)} : a.map sOf = b.map sOf ↔ a = b := by
 constructor
 ·intro h
  have := congrArg (fun l => l.map fun x : Str => x.cps.toList) h
  simpa [List.map_map, Function.comp_def, sOf] using this
 ·rintro rfl; rfl
section
variable {C : Cx} {n m : Nat} {env : Env} {ns : List Str} {σ σ' σ₁ σ₂ σ₃ σ₄ : Sg} {as as' : List Addr} {h h' : Heap} {a b c d v : V} {f : F}
theorem eqS_ok {vs ws : List V} {is js : List (List Nat)} (o1 : okL is = true) (o2 : okL js = true) (hn : 4 ≤ n) (e3 : asList σ a = some vs) (e4 : asList σ b = some ws) (e5 : strsOf vs = some is) (e6 : strsOf ws = some js) : OB C n env ns (compareOp .Eq) a b σ σ (IsV (.bool (decide (is = js)))) := by
 intro A s as x y Q E R r qa qb fin
 obtain ⟨l1, v1, rfl, il1, q1⟩ := asList_spec r e3 qa
 obtain ⟨l2, v2, rfl, il2, q2⟩ := asList_spec r e4 qb
 refine eq_dataH_same (reads_newData il1 (kes_carried (strsOf_spec e5 q1))) (reads_newData il2 (kes_carried (strsOf_spec e6 q2))) (kes_shaped _ o1) (kes_shaped _ o2) (by have := R.2.2; lia) (SeqAt.noMix_of_shape (.list .str) rfl _ _ (list_map_has fun _ => rfl) (list_map_has fun _ => rfl)) ?_
 rw [kes_same, decide_eq_decide.mpr sOf_inj]
 exact fin as s.heap s.toks _ r .refl (.bool _)
theorem neS_ok {vs ws : List V} {is js : List (List Nat)} (o1 : okL is = true) (o2 : okL js = true) (hn : 4 ≤ n) (e3 : asList σ a = some vs) (e4 : asList σ b = some ws) (e5 : strsOf vs = some is) (e6 : strsOf ws = some js) : OB C n env ns (compareOp .NotEq) a b σ σ (IsV (.bool (!decide (is = js)))) := by
 intro A s as x y Q E R r qa qb fin
 obtain ⟨l1, v1, rfl, il1, q1⟩ := asList_spec r e3 qa
 obtain ⟨l2, v2, rfl, il2, q2⟩ := asList_spec r e4 qb
 refine ne_dataH_same (reads_newData il1 (kes_carried (strsOf_spec e5 q1))) (reads_newData il2 (kes_carried (strsOf_spec e6 q2))) (kes_shaped _ o1) (kes_shaped _ o2) (by have := R.2.2; lia) (SeqAt.noMix_of_shape (.list .str) rfl _ _ (list_map_has fun _ => rfl) (list_map_has fun _ => rfl)) ?_
 rw [kes_same, decide_eq_decide.mpr sOf_inj]
 exact fin as s.heap s.toks _ r .refl (.bool _)
theorem sort_ok {w : V} {vs : List V} {xs : List (List Nat)} (e1 : asList σ w = some vs) (e2 : strsOf vs = some xs) (hz : vs.length < 64) : CA C n env ns (.builtin "sorted") [w] σ (.lst ((srtN xs).map .str)) σ := by
 intro A s as ys Q E R r q fin
 replace q := q.inv; obtain ⟨_, _, rfl, q1, q2⟩ := q
 replace q2 := q2.inv; obtain rfl := q2
 obtain ⟨ad, vals, rfl, il, q3⟩ := asList_spec r e1 q1
 refine sorted_strs il (strsOf_spec e2 q3) (by rw [q3.length]; exact hz) fun out ss' a1 a2 a3 => ?_
 obtain ⟨ex, he⟩ := sortedAll_at s.heap vals out
 have kp : ∀ b o, s.heap.get? b = some o → (sortedAll s.heap vals out).get? b = some o := fun b o => sortedAll_old
 have v0 := strs_back (as := as) (h := sortedAll s.heap vals out) a1
 rw [sorted_srt a2 a3] at v0
 refine fin as (sortedAll s.heap vals out) s.toks _ (r.grow kp) (Step.growing kp) (.lst _ _ out.toList ⟨_, he, ?_⟩ (fun m => ?_) v0)
 ·simp
 ·exact absurd (r.alive m) (Nat.not_lt.mpr (Nat.le_succ _))
noncomputable def s_sort (x : SE) : SE := fun σ => match x σ with
 | some (a, σ₁) => match asList σ₁ a with
  | some vs => match strsOf vs with
   | some xs => if vs.length < 64 then some (.lst ((srtN xs).map .str), σ₁) else none
   | none => none
  | none => none
 | none => none
theorem ce_sort {x : Str} {p pos : Pos} {e : PySem.Expr} {s : SE} (hf : CE C n env ns (.Name x p) (s_c (.raw (.builtin "sorted")))) (hne : notStar e = true) (h1 : CE C n env ns e s) : CE C n env ns (.Call (.Name x p) [e] [] pos) (s_sort s) := .mk fun σ v σ' h => by
 unfold s_sort at h
 split at h
 ·rename_i a σ₁ e1
  split at h
  ·rename_i vs e2
   split at h
   ·rename_i xs e3
    split at h
    ·rename_i hz
     cases h
     exact te_callb (.inl ⟨_, rfl⟩) (hf.ok _ _ _ rfl) ⟨by simp, by simp [hne]⟩ (ts_cons hne (h1.ok _ _ _ e1) ts_nil) (sort_ok e2 e3 hz) rfl
    ·cases h
   ·cases h
  ·cases h
 ·cases h
end
end
noncomputable section
noncomputable def dcnt : List (List Nat) → Nat
 | [] => 0
 | x :: r => if r.contains x then dcnt r else dcnt r + 1
noncomputable def SetIs (C : Cx) (h : Heap) (D : Addr) (Ks : List (List Nat)) : Prop := h.SetOf (PySem.strKind C.prog C.w) D (fun z => (Ks.map sOf).contains z) (dcnt Ks)
theorem has_sOf (Ks : List (List Nat)) (x : List Nat) : (Ks.map sOf).contains (sOf x) = Ks.contains x := by
 rw [Bool.eq_iff_iff, List.contains_iff_mem, List.contains_iff_mem]
 constructor
 ·intro m
  obtain ⟨y, m, e⟩ := List.mem_map.mp m
  have : y = x := by
   have := congrArg (fun z : Str => z.cps.toList) e
   simpa using this
  exact this ▸ m
 ·exact fun m => List.mem_map_of_mem m
theorem dcnt_le : ∀ Ks : List (List Nat), dcnt Ks ≤ Ks.length
 | [] => Nat.le_refl _
 | x :: r => by
  have := dcnt_le r
  rw [dcnt]
  split <;> simp only [List.length_cons] <;> lia
section
variable {C : Cx} {n m : Nat} {env : Env} {ns : List Str} {σ σ' σ₁ σ₂ σ₃ σ₄ : Sg} {as as' : List Addr} {h h' : Heap} {a b c d v w : V} {f : F} {B it D : Addr} {src src' : Src}
theorem SetIs.keep {Ks : List (List Nat)} (x : SetIs C h D Ks) (k : ∀ o, h.get? D = some o → h'.get? D = some o) : SetIs C h' D Ks := by
 obtain ⟨o, es, ep, t, ho, r⟩ := x
 exact ⟨o, es, ep, t, k o ho, r⟩
theorem add_set {A : Around} {s : Shared} {Ks : List (List Nat)} {x : List Nat} {t : Tok} {Q : Value → Shared → Prop} {E : Value → Shared → Prop} (q : SetIs C s.heap D Ks) (hz : Ks.length < 4000)
  (h : ∀ h', Heap.SameBut D s.heap h' → SetIs C h' D (x :: Ks) → Q .none { s with heap := h', toks := s.toks + 1 }) : wpAny (model C.prog C.w) A (call (.builtin "set.add") [.ref D, .str (sOf x) t]) Q E s := by
 refine call_set_add (knd := PySem.strKind C.prog C.w) (k := sOf x) (strKind_is _ _ _ _) rfl q (by have := dcnt_le Ks; unfold scanBound; lia) fun h' hs hq => h h' hs ?_
 unfold SetIs
 have e1 : (fun z => (Ks.map sOf).contains z || decide (z = sOf x)) = fun z => ((x :: Ks).map sOf).contains z := by
  funext z
  rw [List.map_cons, List.contains_cons, Bool.or_comm]
  congr 1
 have e2 : (if (Ks.map sOf).contains (sOf x) = true then dcnt Ks else dcnt Ks + 1) = dcnt (x :: Ks) := by rw [has_sOf]; rfl
 rw [← e1, ← e2]
 exact hq
theorem next_own {k i : Nat} {vs : List V} {A : Around} {s : Shared} {Q : Option Value → Shared → Prop} {E : Value → Shared → Prop} (r : Rel C env ns as σ s.heap) (q : SrcR C as s.heap B it (.own k i)) (hk : σ.hp[k]? = some (.lst vs)) (hv : vs[i]? = some w)
  (h : ∀ h' x, Rel C env ns as σ h' → Heap.ExtBut it s.heap h' → SrcR C as h' B it (.own k (i + 1)) → VR as h' w x → Q (some x) { s with heap := h' }) : wpAny (model C.prog C.w) A (pyNext (.ref it)) Q E s := by
 generalize hsrc : Src.own k i = src at q
 cases q with
 | own l k i q1 q2 q3 =>
  cases hsrc
  obtain ⟨l', hl', qo⟩ := r.hr.has k _ hk
  rw [q3] at hl'; cases hl'
  obtain ⟨vals, p1, p2⟩ := qo
  obtain ⟨x, hx, qx⟩ := p2.get hv
  refine wpAny_pyNext_list_item q2 p1.isList (by simpa using hx) fun h' hit' hs' => ?_
  obtain ⟨o, ho, hc, hdd⟩ := id hit'
  exact h h' x (q1.rel r hs'.extBut) hs'.extBut (.own l k _ (q1.again ho hdd (by rw [hc]; decide) (by rw [hc]; decide) (by rw [hc]; decide)) hit' q3) (VR.other r q1 hs'.extBut qx)
 | lst => cases hsrc
 | tup => cases hsrc
 | rng => cases hsrc
 | str => cases hsrc
theorem stop_own {k i : Nat} {vs : List V} {A : Around} {s : Shared} {Q : Option Value → Shared → Prop} {E : Value → Shared → Prop} (R : Room n A) (r : Rel C env ns as σ s.heap) (q : SrcR C as s.heap B it (.own k i)) (hk : σ.hp[k]? = some (.lst vs)) (hv : vs[i]? = none)
  (h : ∀ h', Rel C env ns as σ h' → Heap.ExtBut it s.heap h' → Q none { s with heap := h' }) : wpAny (model C.prog C.w) A (pyNext (.ref it)) Q E s := by
 generalize hsrc : Src.own k i = src at q
 cases q with
 | own l k i q1 q2 q3 =>
  cases hsrc
  obtain ⟨l', hl', qo⟩ := r.hr.has k _ hk
  rw [q3] at hl'; cases hl'
  obtain ⟨vals, p1, p2⟩ := qo
  exact wpAny_pyNext_list_end R.1 q2 p1.isList (by rw [List.getElem?_eq_none_iff] at hv; simpa [p2.length] using hv) fun h' hs' => h h' (q1.rel r hs') hs'
 | lst => cases hsrc
 | tup => cases hsrc
 | rng => cases hsrc
 | str => cases hsrc
end
theorem set_turn0 (elt t0 i0 t1 i1 : PySem.Expr) (scope : Scope) (pos : Pos) (it acc : Value) (env : Env) : compTurn (.SetComp elt [⟨t0, i0, [], 0⟩, ⟨t1, i1, [], 0⟩] scope pos) 0 it acc env = (do
   standAt i0.pos
   match ← pyNext it with
   | none => pure (.done .next)
   | some v =>
    letOwnedTupleGo t0 it v
    assign t0 env v
    let mut ok := true
    for c in ([] : List PySem.Expr) do
     if ok then ok ← isTrue c env (eval c env)
    if ok then
     let x ← eval i1 env
     standAt i1.pos
     let x ← foldedSetIterable i1 env x
     let _ ← runOwn (.compStart (.SetComp elt [⟨t0, i0, [], 0⟩, ⟨t1, i1, [], 0⟩] scope pos) 1 (← holding [x] (pyIter x)) acc env) env
    again (.compLoop (.SetComp elt [⟨t0, i0, [], 0⟩, ⟨t1, i1, [], 0⟩] scope pos) 0 it acc env)) := by rfl
theorem set_turn1 (elt t0 i0 t1 i1 : PySem.Expr) (scope : Scope) (pos : Pos) (it acc : Value) (env : Env) : compTurn (.SetComp elt [⟨t0, i0, [], 0⟩, ⟨t1, i1, [], 0⟩] scope pos) 1 it acc env = (do
   standAt i1.pos
   match ← pyNext it with
   | none => pure (.done .next)
   | some v =>
    letOwnedTupleGo t1 it v
    assign t1 env v
    let mut ok := true
    for c in ([] : List PySem.Expr) do
     if ok then ok ← isTrue c env (eval c env)
    if ok then
     (do let v ← eval elt env; standAt elt.pos; let _ ← call (.builtin "set.add") [acc, v])
    again (.compLoop (.SetComp elt [⟨t0, i0, [], 0⟩, ⟨t1, i1, [], 0⟩] scope pos) 1 it acc env)) := by rfl
section
variable {prog : Program} {w : World} {A : Around} {E : Value → Shared → Prop} {s : Shared} {R : Result → Shared → Prop} {elt t0 i0 t1 i1 : PySem.Expr} {scope : Scope} {pos : Pos} {it acc : Value} {env : Env}
theorem set_start (d : Nat) (h0 : codeAny (model prog w) A (.compLoop (.SetComp elt [⟨t0, i0, [], 0⟩, ⟨t1, i1, [], 0⟩] scope pos) d it acc env) R s) (hd : d = 0 ∨ d = 1)
  (h : ∀ E, wpAny (model prog w) A (pyIter it) (fun it' s' => codeAny (model prog w) A (.compLoop (.SetComp elt [⟨t0, i0, [], 0⟩, ⟨t1, i1, [], 0⟩] scope pos) d it' acc env) R s') E s) :
  codeAny (model prog w) A (.compStart (.SetComp elt [⟨t0, i0, [], 0⟩, ⟨t1, i1, [], 0⟩] scope pos) d it acc env) R s := by
 refine codeAny_of_tree ?_
 rcases hd with rfl | rfl
 ·show wpAny _ A ((compStart (.SetComp elt [⟨t0, i0, [], 0⟩, ⟨t1, i1, [], 0⟩] scope pos) 0 it acc env).onRaise (fun x => do noteFrame x env; standAt theWindowsPlace)) _ _ s
  refine wpAny_notedAt ?_
  unfold compStart
  show wpAny _ A (ask >>= _) _ _ s
  refine wpAny_bind (wpAny_askSetting (wpAny_ite ?_))
  split
  ·exact wpAny_bind (wpAny_pure (wpAny_pure (And.intro rfl h0)))
  ·refine wpAny_bind (wpAny_rule ?_)
   show wpAny _ A (standAt i0.pos >>= _) _ _ s
   exact wpAny_bind (wpAny_standAt (wpAny_bind (wpAny_mono (h _) (fun it' s' h' => wpAny_pure (And.intro rfl h')) fun _ _ x => x)))
 ·show wpAny _ A ((compStart (.SetComp elt [⟨t0, i0, [], 0⟩, ⟨t1, i1, [], 0⟩] scope pos) 1 it acc env).onRaise (fun x => do noteFrame x env; standAt theWindowsPlace)) _ _ s
  refine wpAny_notedAt ?_
  unfold compStart
  show wpAny _ A (ask >>= _) _ _ s
  refine wpAny_bind (wpAny_askSetting (wpAny_ite ?_))
  split
  ·exact wpAny_bind (wpAny_pure (wpAny_pure (And.intro rfl h0)))
  ·refine wpAny_bind (wpAny_rule ?_)
   show wpAny _ A (standAt i1.pos >>= _) _ _ s
   exact wpAny_bind (wpAny_standAt (wpAny_bind (wpAny_mono (h _) (fun it' s' h' => wpAny_pure (And.intro rfl h')) fun _ _ x => x)))
theorem set_loop1 (I : Nat → Shared → Prop)
  (turn : ∀ n s, I n s → ∀ E, wpAny (model prog w) A (pyNext it) (fun r s₁ => match r with
   | none => R (.ok .next) s₁
   | some v => wpAny (model prog w) A (letOwnedTupleGo t1 it v) (fun _ s₁ => wpAny (model prog w) A (assign t1 env v) (fun _ s₂ =>
     wpAny (model prog w) A (eval elt env) (fun x s₄ =>
       wpAny (model prog w) A (call (.builtin "set.add") [acc, x]) (fun _ s₅ => ∃ m, m < n ∧ I m s₅) E s₄) E s₂) E s₁) E s₁) E s)
  (n : Nat) (h : I n s) : codeAny (model prog w) A (.compLoop (.SetComp elt [⟨t0, i0, [], 0⟩, ⟨t1, i1, [], 0⟩] scope pos) 1 it acc env) R s := by
 refine codeAny_loop rfl I (fun n s hI => ?_) n h
 show wpAny _ A ((compTurn (.SetComp elt [⟨t0, i0, [], 0⟩, ⟨t1, i1, [], 0⟩] scope pos) 1 it acc env).onRaise (fun x => do noteFrame x env; theTreesLotGoes x)) _ _ s
 refine wpAny_noted ?_
 rw [set_turn1]
 refine wpAny_bind (wpAny_standAt (wpAny_bind (wpAny_mono (turn n s hI _) (fun r s₁ h₁ => ?_) fun _ _ h' => h')))
 cases r with
 | none => exact wpAny_pure h₁
 | some v =>
  refine wpAny_bind (wpAny_mono h₁ (fun _ s₁' h₁' => ?_) fun _ _ h' => h')
  refine wpAny_bind (wpAny_mono h₁' (fun _ s₂ h₂ => wpAny_bind (wpAny_tests_nil ?_)) fun _ _ h' => h')
  exact wpAny_bind (wpAny_bind (wpAny_mono h₂ (fun x s₄ h₄ => wpAny_bind (wpAny_standAt (wpAny_bind (wpAny_mono h₄ (fun _ s₅ h₅ => wpAny_pure (wpAny_pure ⟨rfl, h₅⟩)) fun _ _ h' => h')))) fun _ _ h' => h'))
theorem set_loop0 (hs : ∀ x, foldedSetIterable i1 env x = pure x) (I : Nat → Shared → Prop)
  (turn : ∀ n s, I n s → ∀ E, wpAny (model prog w) A (pyNext it) (fun r s₁ => match r with
   | none => R (.ok .next) s₁
   | some v => wpAny (model prog w) A (letOwnedTupleGo t0 it v) (fun _ s₁ => wpAny (model prog w) A (assign t0 env v) (fun _ s₂ =>
     wpAny (model prog w) A (eval i1 env) (fun x s₃ => wpAny (model prog w) A (pyIter x) (fun it1 s₄ =>
      codeAny (model prog w) A (.compStart (.SetComp elt [⟨t0, i0, [], 0⟩, ⟨t1, i1, [], 0⟩] scope pos) 1 it1 acc env) (fun r s₅ => r = .ok .next ∧ ∃ m, m < n ∧ I m s₅) s₄) E s₃) E s₂) E s₁) E s₁) E s)
  (n : Nat) (h : I n s) : codeAny (model prog w) A (.compLoop (.SetComp elt [⟨t0, i0, [], 0⟩, ⟨t1, i1, [], 0⟩] scope pos) 0 it acc env) R s := by
 refine codeAny_loop rfl I (fun n s hI => ?_) n h
 show wpAny _ A ((compTurn (.SetComp elt [⟨t0, i0, [], 0⟩, ⟨t1, i1, [], 0⟩] scope pos) 0 it acc env).onRaise (fun x => do noteFrame x env; theTreesLotGoes x)) _ _ s
 refine wpAny_noted ?_
 rw [set_turn0]
 refine wpAny_bind (wpAny_standAt (wpAny_bind (wpAny_mono (turn n s hI _) (fun r s₁ h₁ => ?_) fun _ _ h' => h')))
 cases r with
 | none => exact wpAny_pure h₁
 | some v =>
  refine wpAny_bind (wpAny_mono h₁ (fun _ s₁' h₁' => ?_) fun _ _ h' => h')
  refine wpAny_bind (wpAny_mono h₁' (fun _ s₂ h₂ => wpAny_bind (wpAny_tests_nil ?_)) fun _ _ h' => h')
  refine wpAny_bind (wpAny_mono h₂ (fun x s₃ h₃ => wpAny_bind (wpAny_standAt (wpAny_bind (wpAny_of_eq (hs x) (wpAny_bind (wpAny_holding (wpAny_mono h₃ (fun it1 s₄ h₄ => ?_) fun _ _ h' => h'))))))) fun _ _ h' => h')
  refine wpAny_bind (wpAny_runOwn ?_)
  refine codeAny_mono h₄ fun r s₅ h₅ => ?_
  obtain ⟨rfl, h₅⟩ := h₅
  exact wpAny_pure ⟨rfl, h₅⟩
end
end
noncomputable section
noncomputable def accK (x : List Nat) : Nat → List (List Nat) → List (List Nat)
 | 0, K => K
 | j + 1, K => x.take (j + 1) :: accK x j K
noncomputable def keysOf (rows : List (List Nat)) : List (List Nat) := rows.foldl (fun K x => accK x 10 K) []
theorem accK_len (x : List Nat) : ∀ (j : Nat) (K : List (List Nat)), (accK x j K).length = K.length + j
 | 0, K => rfl
 | j + 1, K => by rw [accK, List.length_cons, accK_len x j K]; rfl
theorem keys_snoc (rows : List (List Nat)) (x : List Nat) : keysOf (rows ++ [x]) = accK x 10 (keysOf rows) := by
 unfold keysOf; rw [List.foldl_append]; rfl
theorem keys_take {rows : List (List Nat)} {i : Nat} {x : List Nat} (h : rows[i]? = some x) : keysOf (rows.take (i + 1)) = accK x 10 (keysOf (rows.take i)) := by
 rw [← keys_snoc, List.take_add_one, h]; rfl
theorem keys_len (rows : List (List Nat)) : (keysOf rows).length = 10 * rows.length := by
 have : ∀ (rows : List (List Nat)) (K : List (List Nat)), (rows.foldl (fun K x => accK x 10 K) K).length = K.length + 10 * rows.length := by
  intro rows
  induction rows with
  | nil => intro K; rfl
  | cons x r ih => intro K; rw [List.foldl_cons, ih, accK_len, List.length_cons]; simp +arith
 have := this rows []
 simpa [keysOf] using this
section
variable {C : Cx} {n m : Nat} {env : Env} {ns : List Str} {σ σ' σ₁ σ₂ σ₃ σ₄ : Sg} {as as' : List Addr} {h h' : Heap} {a b c d v w : V} {f : F} {B it D : Addr} {src src' : Src}
theorem Rel.setGo (r : Rel C env ns as σ h) {Ks : List (List Nat)} (q : SetIs C h D Ks) (hD : ¬ C.Old D ∧ D ≠ env.locals ∧ D ∉ env.cells.map (·.2) ∧ D ∉ as) (hs : Heap.SameBut D h h') : Rel C env ns as σ h' := by
 refine r.other (M := fun b => b = D) (fun b o n e => (hs.2 b n).trans e) fun b e => ?_
 subst e
 refine ⟨hD.1, hD.2.1, hD.2.2.1, hD.2.2.2, fun o e => ?_⟩
 obtain ⟨o', es, ep, t, ho, hx, hd, _⟩ := q
 rw [ho] at e; cases e
 refine ⟨fun i => ?_, fun t => ?_⟩
 ·rcases i with ⟨_, _, i⟩ | ⟨_, _, i⟩ <;> rw [i] at hd <;> cases hd
 ·obtain ⟨_, _, i⟩ := t
  rw [i] at hd; cases hd
theorem ItAt.keepIt (q : ItAt C as h B it) (k : ∀ o, h.get? it = some o → h'.get? it = some o) : ItAt C as h' B it := by
 obtain ⟨o, vs, e, d, c⟩ := q.obj
 exact ⟨q.lo, q.n0, q.na, o, vs, k o e, d, c⟩
theorem SrcR.own_keep {k i : Nat} (q : SrcR C as h B it (.own k i)) (kp : ∀ o, h.get? it = some o → h'.get? it = some o) : SrcR C as h' B it (.own k i) := by
 generalize hsrc : Src.own k i = src at q
 cases q with
 | own l k i q1 q2 q3 =>
  cases hsrc
  obtain ⟨o, ho, r⟩ := q2
  exact .own l k i (q1.keepIt kp) ⟨o, kp o ho, r⟩ q3
 | lst => cases hsrc
 | tup => cases hsrc
 | rng => cases hsrc
 | str => cases hsrc
theorem SrcR.own_obj {k i : Nat} (q : SrcR C as h B it (.own k i)) : ∃ o vs, h.get? it = some o ∧ o.data = .fields vs := by
 cases q with
 | own l k i q1 q2 q3 => obtain ⟨o, vs, e, d, _⟩ := q1.obj; exact ⟨o, vs, e, d⟩
theorem SrcR.setGo (r : Rel C env ns as σ h) {Ks : List (List Nat)} (qs : SetIs C h D Ks) (hs : Heap.SameBut D h h') (q : SrcR C as h B it src) : SrcR C as h' B it src := by
 obtain ⟨o', es, ep, t, ho, hx, hd, _⟩ := qs
 have nd : ∀ b o, h.get? b = some o → (∀ es ep t, o.data ≠ .set es ep t) → h'.get? b = some o := fun b o e n => (hs.2 b fun z => by
  rw [z, ho] at e; cases e
  exact n _ _ _ hd).trans e
 have kI : ∀ b o, h.get? b = some o → b ∉ as → Imm o → h'.get? b = some o := fun b o e _ i => nd b o e fun es ep t z => by
  rcases i with ⟨_, _, i⟩ | ⟨_, _, i⟩ <;> rw [i] at z <;> cases z
 have kt : ∀ {B it : Addr}, ItAt C as h B it → ∀ o, h.get? it = some o → h'.get? it = some o := fun q o e => by
  obtain ⟨o1, vs, e1, d1, _⟩ := q.obj
  rw [e] at e1; cases e1
  exact nd _ _ e fun es ep t z => by rw [d1] at z; cases z
 cases q with
 | lst l i ws vals q1 q2 q3 q4 q5 =>
  obtain ⟨o, e, r2⟩ := q2
  obtain ⟨o3, e3, c3, n3, d3⟩ := q3
  exact .lst l i ws vals (q1.keepIt (kt q1)) ⟨o, kt q1 o e, r2⟩ ⟨o3, nd _ _ e3 (fun es ep t z => by rw [d3] at z; cases z), c3, n3, d3⟩ q4 (VRs.keep kI q5)
 | tup l i ws vals q1 q2 q3 q5 =>
  obtain ⟨o, e, r2⟩ := q2
  obtain ⟨o3, e3, c3, n3, d3⟩ := q3
  exact .tup l i ws vals (q1.keepIt (kt q1)) ⟨o, kt q1 o e, r2⟩ ⟨o3, nd _ _ e3 (fun es ep t z => by rw [d3] at z; cases z), c3, n3, d3⟩ (VRs.keep kI q5)
 | rng x k q1 q2 => exact .rng x k (q1.keepIt (kt q1)) (kt q1 _ q2)
 | str x t i q1 q2 =>
  obtain ⟨o, e, r2⟩ := q2
  exact .str x t i (q1.keepIt (kt q1)) ⟨o, kt q1 o e, r2⟩
 | own l k i q1 q2 q3 =>
  obtain ⟨o, e, r2⟩ := q2
  exact .own l k i (q1.keepIt (kt q1)) ⟨o, kt q1 o e, r2⟩ q3
theorem as_same {H : List O} {loc loc' : List (Option V)} {env' : Env} {ns' : List Str} (r : Rel C env ns as ⟨loc, H⟩ h) (r' : Rel C env' ns' as' ⟨loc', H⟩ h') (x : ∃ ex, as' = as ++ ex ∧ ∀ a ∈ ex, h.get? a = none) : as' = as := by
 obtain ⟨ex, e, _⟩ := x
 have l1 := r.hr.len
 have l2 := r'.hr.len
 rw [e, List.length_append] at l2
 have : ex = [] := List.length_eq_zero_iff.mp (Nat.add_left_cancel ((l2.trans l1.symm).trans (Nat.add_zero _).symm))
 rw [e, this, List.append_nil]
theorem ar_dn {a b k : Nat} (h : k = a - b) (l : b < a) : a - (b + 1) < k := by omega
theorem ar_up (j : Nat) : ((j + 1 : Nat) : Int) + 1 = (j : Int) + 1 + 1 := rfl
theorem ar_pre {a j : Nat} (l : j < a) : ∃ m, a - j = m + 1 ∧ a - (j + 1) = m := ⟨a - (j + 1), by lia, rfl⟩
theorem ar_len {a j i r : Nat} (h : a = 10 * min i r + j) (hr : r ≤ 100) (hj : j ≤ 10) : a < 4000 := by lia
structure InvA (C : Cx) (as1 : List Addr) (g1 g : Heap) : Prop where
 a : ∀ b o, g1.get? b = some o → b ∉ as1 → b ∉ C.T → g.get? b = some o
 b : ∀ b o, g1.get? b = some o → ∃ o', g.get? b = some o'
inductive SaI (C : Cx) (env' : Env) (nsC : List Str) (as1 : List Addr) (g1 : Heap) (it Da : Addr) (kT : Nat) (hp : List O) (rows : List (List Nat)) (s : Shared) (k : Nat) : Shared → Prop
 | mk (g : Heap) (tk i : Nat) (o0 o1 : Option V) : i ≤ rows.length → k = rows.length + 1 - i → Rel C env' nsC as1 ⟨[o0, o1], hp⟩ g → SrcR C as1 g g1.objs.size it (.own kT i) → SetIs C g Da (keysOf (rows.take i)) → InvA C as1 g1 g → SaI C env' nsC as1 g1 it Da kT hp rows s k { s with heap := g, toks := tk }
inductive SaJ (C : Cx) (env' : Env) (nsC : List Str) (as1 : List Addr) (g1 g7 : Heap) (it it1 Da : Addr) (kT i : Nat) (hp : List O) (rows : List (List Nat)) (x : List Nat) (s : Shared) (k : Nat) : Shared → Prop
 | mk (g : Heap) (tk jj : Nat) (o1 : Option V) : jj ≤ 10 → k = 11 - jj → Rel C env' nsC as1 ⟨[some (.str x), o1], hp⟩ g → SrcR C as1 g g1.objs.size it (.own kT (i + 1)) → SrcR C as1 g g7.objs.size it1 (.fix (rangeVs ((jj : Int) + 1) (10 - jj))) → SetIs C g Da (accK x jj (keysOf (rows.take i))) → InvA C as1 g1 g → SaJ C env' nsC as1 g1 g7 it it1 Da kT i hp rows x s k { s with heap := g, toks := tk }
theorem set_asg {elt t0 i0 t1 i1 : PySem.Expr} {scope : Scope} {pos spos py : Pos} {y : Str} {j kT : Nat} {nsC : List Str} {rows : List (List Nat)}
  (ok : EnvOk env ns) (hy : ns[j]? = some y) (hk : stores env y = true) (hsw : swapsWith (.SetComp elt [⟨t0, i0, [], 0⟩, ⟨t1, i1, [], 0⟩] scope pos) (some (.Name y py)) spos.line env = pure true)
  (h0 : TE C n env ns i0 σ (.own kT) σ) (hT : σ.hp[kT]? = some (.lst (rows.map .str))) (hs0 : ∀ x, foldedSetIterable i0 env x = pure x) (hs1 : ∀ L x, foldedSetIterable i1 (compEnvC scope [] L env) x = pure x) (K : Caps env ns σ scope [] nsC [none, none])
  (ha0 : ∀ L v o0 o1, TA C n (compEnvC scope [] L env) nsC t0 v ⟨[o0, o1], σ.hp⟩ ⟨[some v, o1], σ.hp⟩) (ha1 : ∀ L v o0 o1, TA C n (compEnvC scope [] L env) nsC t1 v ⟨[o0, o1], σ.hp⟩ ⟨[o0, some v], σ.hp⟩)
  (h1 : ∀ L x o, TE C n (compEnvC scope [] L env) nsC i1 ⟨[some (.str x), o], σ.hp⟩ (.rng 1 11) ⟨[some (.str x), o], σ.hp⟩)
  (he : ∀ L x (k : Nat), x ∈ rows → k ≤ 10 → TE C n (compEnvC scope [] L env) nsC elt ⟨[some (.str x), some (.int k)], σ.hp⟩ (.str (x.take k)) ⟨[some (.str x), some (.int k)], σ.hp⟩)
  (hz : rows.length ≤ 100) {A : Around} {s : Shared} {Q : Flow → Shared → Prop} {E : Value → Shared → Prop} (R : Room n A) (r : Rel C env ns as σ s.heap)
  (fin : ∀ as' h' tk D, Rel C env ns as' (σ.put j (.raw (.ref D))) h' → Step C env as s.heap as' h' → SetIs C h' D (keysOf rows) → ¬ C.Old D → D ≠ env.locals → D ∉ env.cells.map (·.2) → D ∉ as' → Q .next { s with heap := h', toks := tk }) :
  wpAny (model C.prog C.w) A (exec (.Assign [.Name y py] (.SetComp elt [⟨t0, i0, [], 0⟩, ⟨t1, i1, [], 0⟩] scope pos) spos) env) Q E s := by
 rw [exec_Assign_Name_used _ _ _ _ hsw]
 refine wpAny_bind (wpAny_standAt (wpAny_bind ?_))
 show wpAny _ A (do let _ ← comprehension (.SetComp elt [⟨t0, i0, [], 0⟩, ⟨t1, i1, [], 0⟩] scope pos) scope env _ (newSet (.type "set")) false (eval i0 env) (some (assign (.Name y py) env))) _ _ s
 refine wpAny_bind (wpAny_comprehension_free (g := ⟨t0, i0, [], 0⟩) (gs := [⟨t1, i1, [], 0⟩]) rfl hs0 K.clos K.kind K.names ?_)
 have hsrc : ∀ loc, srcOf ⟨loc, σ.hp⟩ (.own kT) = some (.own kT 0) := fun loc => by
  unfold srcOf
  dsimp only
  rw [hT]
 refine h0 A s as _ E R r fun as1 g1 t1' xv r1 s1 v1 => iter_ok r1 v1 (hsrc σ.loc) fun g2 it r2 k2 q2 => ?_
 dsimp only at k2
 refine wpAny_newSet_of (knd := PySem.strKind C.prog C.w) fun led hset => ?_
 refine wpAny_newFunctionEnv K.cell (by intro y hy; simp at hy) (fun h3 hns3 hsb3 => ?_) K.kind
 dsimp only at hset hns3 hsb3 ⊢
 have r3 := r2.push { cls := .type "set", dict := none, data := .set #[] 0 (.fresh 0 0 led) }
 have q3 := q2.step r2 (Step.push (C := C) (env := env) (as := as1) (h := g2) { cls := .type "set", dict := none, data := .set #[] 0 (.fresh 0 0 led) })
 have zH : (g2.push { cls := .type "set", dict := none, data := .set #[] 0 (.fresh 0 0 led) }).objs.size = g2.objs.size + 1 := Heap.size_push ..
 have kH : ∀ b o, g2.get? b = some o → (g2.push { cls := .type "set", dict := none, data := .set #[] 0 (.fresh 0 0 led) }).get? b = some o := fun b o e => Heap.get?_push_of_some _ e
 generalize hH : g2.push { cls := .type "set", dict := none, data := .set #[] 0 (.fresh 0 0 led) } = H at *
 have zg1 : g1.objs.size ≤ g2.objs.size := by
  have ⟨l, o, vs, e, _⟩ : g1.objs.size ≤ it ∧ ∃ o vs, g2.get? it = some o ∧ o.data = .fields vs := by
   have key : ItAt C as1 g2 g1.objs.size it := by cases q2 <;> assumption
   obtain ⟨o, vs, e, d, _⟩ := key.obj
   exact ⟨key.lo, o, vs, e, d⟩
  exact Nat.le_trans l (Nat.le_of_lt (Heap.lt_size e))
 have grow3 : ∀ b o, H.get? b = some o → h3.get? b = some o := fun b o e => hsb3.extBut b o (Nat.ne_of_lt (Heap.lt_size e)) (Heap.get?_push_of_some _ e)
 have r4 : Rel C env ns as1 σ h3 := r3.grow grow3
 have q4 : SrcR C as1 h3 g1.objs.size it (.own kT 0) := q3.step r3 (Step.growing (C := C) (env := env) grow3)
 have set3 : SetIs C h3 g2.objs.size [] := SetIs.keep (h := H) hset fun o e => grow3 _ o e
 have hLs : H.objs.size = g2.objs.size + 1 := zH
 have loc_lt : env.locals < g2.objs.size := r2.locals_alive
 have cell_lt : ∀ c ∈ env.cells.map (·.2), c < g2.objs.size := fun c m => by
  obtain ⟨cc, hc, z⟩ := List.mem_map.mp m
  obtain ⟨_, v, oc, e1, _⟩ := r2.cells cc hc
  rw [← z]; exact Heap.lt_size e1
 have as_lt : ∀ c ∈ as1, c < g2.objs.size := fun c m => r2.alive m
 have itlt : it < g2.objs.size := by obtain ⟨o, vs, e, d⟩ := q2.own_obj; exact Heap.lt_size e
 have hD : ¬ C.Old g2.objs.size ∧ g2.objs.size ≠ env.locals ∧ g2.objs.size ∉ env.cells.map (·.2) ∧ g2.objs.size ∉ as1 :=
  ⟨r2.wd.fresh (Nat.le_refl _), fun z => Nat.lt_irrefl _ (z ▸ loc_lt), fun z => Nat.lt_irrefl _ (cell_lt _ z), fun z => Nat.lt_irrefl _ (as_lt _ z)⟩
 have hL : ¬ C.Old H.objs.size ∧ H.objs.size ≠ env.locals ∧ H.objs.size ∉ env.cells.map (·.2) ∧ H.objs.size ∉ as1 := by
  refine ⟨r3.wd.fresh (Nat.le_refl _), fun z => ?_, fun z => ?_, fun z => ?_⟩
  ·have := loc_lt; rw [← z, hLs] at this; exact absurd this (Nat.not_lt.mpr (Nat.le_succ _))
  ·have := cell_lt _ z; rw [hLs] at this; exact absurd this (Nat.not_lt.mpr (Nat.le_succ _))
  ·have := as_lt _ z; rw [hLs] at this; exact absurd this (Nat.not_lt.mpr (Nat.le_succ _))
 generalize hLe : H.objs.size = L at *
 generalize hDe : g2.objs.size = Da at *
 have DL : Da ≠ L := by rw [hLs]; exact Nat.ne_of_lt (Nat.lt_succ_self _)
 have itD : it ≠ Da := Nat.ne_of_lt itlt
 have rc : Rel C (compEnvC scope [] L env) nsC as1 ⟨[none, none], σ.hp⟩ h3 := by
  refine ⟨r4.wd, r4.hr, ⟨_, hns3, fun i w e => ?_⟩, fun c hc => (by cases hc), hL.1⟩
  match i, e with
  | 0, e => cases e
  | 1, e => cases e
 have sz : s.heap.get? L = none := by
  cases z : s.heap.get? L with
  | none => rfl
  | some o =>
   obtain ⟨o', e'⟩ := s1.live L o z
   have h5 := Heap.lt_size (k2 L o' e')
   rw [hDe, hLs] at h5
   exact absurd h5 (Nat.not_lt.mpr (Nat.le_succ _))
 have hDC : ¬ C.Old Da ∧ Da ≠ (compEnvC scope [] L env).locals ∧ Da ∉ (compEnvC scope [] L env).cells.map (·.2) ∧ Da ∉ as1 := ⟨hD.1, DL, by simp [compEnvC], hD.2.2.2⟩
 have okC := K.ok ok L
 -- a step within the comprehension keeps the set and the outer draw
 have stepD : ∀ {g g' : Heap} {as' : List Addr}, Step C (compEnvC scope [] L env) as1 g as' g' → ∀ o, g.get? Da = some o → g'.get? Da = some o := fun st o e =>
  st.keep Da o e DL (by unfold mcells compEnvC; simp) hD.2.2.2 (fun z => hD.1 (.inr z))
 have step1 : ∀ {g g' : Heap} {as' : List Addr}, Step C (compEnvC scope [] L env) as1 g as' g' → ∀ b o, b < g1.objs.size → g.get? b = some o → b ∉ as1 → b ∉ C.T → g'.get? b = some o := fun st b o l e na nt =>
  st.keep b o e (by
   show b ≠ L
   rw [hLs]
   exact Nat.ne_of_lt (Nat.lt_succ_of_lt (Nat.lt_of_lt_of_le l zg1))) (by unfold mcells compEnvC; simp) na nt
 have invS : ∀ {g g' : Heap} {as' : List Addr}, InvA C as1 g1 g → Step C (compEnvC scope [] L env) as1 g as' g' → InvA C as1 g1 g' := fun i st =>
  ⟨fun b o e na nt => step1 st b o (Heap.lt_size e) (i.1 b o e na nt) na nt, fun b o e => let ⟨o', e'⟩ := i.2 b o e; st.live b o' e'⟩
 have invB : ∀ {g g' : Heap}, InvA C as1 g1 g → (∀ b o, b < g1.objs.size → g.get? b = some o → g'.get? b = some o) → InvA C as1 g1 g' := fun i k =>
  ⟨fun b o e na nt => k b o (Heap.lt_size e) (i.1 b o e na nt), fun b o e => let ⟨o', e'⟩ := i.2 b o e; ⟨o', k b o' (Heap.lt_size e) e'⟩⟩
 have start : SrcR C as1 h3 g1.objs.size it (.own kT 0) → ∀ tk, codeAny (model C.prog C.w) A (.compLoop (.SetComp elt [⟨t0, i0, [], 0⟩, ⟨t1, i1, [], 0⟩] scope pos) 0 (.ref it) (.ref Da) (compEnvC scope [] L env))
   (compPost (model C.prog C.w) A E (some (assign (.Name y py) env)) (fun _ s' => wpAny (model C.prog C.w) A (pure ()) (fun _ s' => wpAny (model C.prog C.w) A (pure Flow.next) Q E s') E s') (.ref Da) L) { s with heap := h3, toks := tk } := fun q4 tk => by
  refine set_loop0 (hs1 L) (SaI C (compEnvC scope [] L env) nsC as1 g1 it Da kT σ.hp rows s) ?_ (rows.length + 1)
   (.mk h3 tk 0 none none (Nat.zero_le _) rfl rc q4 set3 ⟨fun b o e _ _ => grow3 b o (kH b o (k2 b o e)), fun b o e => ⟨o, grow3 b o (kH b o (k2 b o e))⟩⟩)
  rintro k _ ⟨g, tk, i, o0, o1, hi, hk', rg, qg, sg, ig⟩ E'
  refine hide _ fun G hG => ?_
  by_cases lt : i < rows.length
  ·-- a row
   obtain ⟨x, hx⟩ : ∃ x, rows[i]? = some x := ⟨rows[i], List.getElem?_eq_getElem lt⟩
   have xm : x ∈ rows := List.mem_of_getElem? hx
   refine hG (next_own rg qg hT (w := .str x) (by rw [List.getElem?_map, hx]; rfl) fun g5 xv r5 e5 q5 v5 => ?_)
   have s5 : SetIs C g5 Da (keysOf (rows.take i)) := sg.keep fun o e => e5 Da o (Ne.symm itD) e
   have i5 : InvA C as1 g1 g5 := invB ig fun b o l e => e5 b o (fun z => by
    have key : ItAt C as1 g5 g1.objs.size it := by cases q5; assumption
    exact absurd l (z ▸ Nat.not_lt.mpr key.lo)) e
   refine letOwned_ok q5 (ha0 L (.str x) o0 o1 A { s with heap := g5, toks := tk } as1 xv _ _ R r5 v5 fun as6 g6 t6 r6 s6 => ?_)
   cases (as_same r5 r6 s6.ext).symm
   have set6 := s5.keep (stepD s6)
   have q6 := q5.step r5 s6
   have i6 := invS i5 s6
   refine h1 L x o1 A { s with heap := g6, toks := t6 } as1 _ _ R r6 fun as7 g7 t7 rv r7 s7 v7 => ?_
   cases (as_same r6 r7 s7.ext).symm
   have set7 := set6.keep (stepD s7)
   have q7 := q6.step r6 s7
   have i7 := invS i6 s7
   refine iter_ok r7 v7 (src := .fix (rangeVs 1 10)) (by rfl) fun g8 it1 r8 k8 q8 => ?_
   dsimp only at k8
   have set8 := set7.keep fun o e => k8 Da o e
   have q8' := q7.own_keep fun o e => k8 it o e
   have i8 : InvA C as1 g1 g8 := invB i7 fun b o _ e => k8 b o e
   have Dlt : Da < g7.objs.size := by obtain ⟨o, es, ep, t, ho, _⟩ := set7; exact Heap.lt_size ho
   have itlt7 : it < g7.objs.size := by obtain ⟨o, vs, e, d⟩ := q7.own_obj; exact Heap.lt_size e
   have g17 : ∀ b, b < g1.objs.size → b < g7.objs.size := fun b l => Nat.lt_trans (Nat.lt_of_lt_of_le l zg1) Dlt
   have loop1 : ∀ tk8, codeAny (model C.prog C.w) A (.compLoop (.SetComp elt [⟨t0, i0, [], 0⟩, ⟨t1, i1, [], 0⟩] scope pos) 1 (.ref it1) (.ref Da) (compEnvC scope [] L env))
     (fun r s₅ => r = .ok .next ∧ ∃ m, m < k ∧ SaI C (compEnvC scope [] L env) nsC as1 g1 it Da kT σ.hp rows s m s₅) { s with heap := g8, toks := tk8 } := fun tk8 => by
    refine set_loop1 (SaJ C (compEnvC scope [] L env) nsC as1 g1 g7 it it1 Da kT i σ.hp rows x s) ?_ 11
     (.mk g8 tk8 0 o1 (Nat.zero_le _) rfl r8 q8' q8 set8 i8)
    rintro k1 _ ⟨g, tk, jj, o1, hj, hk1, rg, qg, qr, sg, ig⟩ E1
    refine hide _ fun G hG => ?_
    by_cases ltj : jj < 10
    ·obtain ⟨mm, hm, hm2⟩ := ar_pre ltj
     rw [hm] at qr
     refine hG (next_ok (v := .int ((jj : Int) + 1)) (src' := .fix (rangeVs ((jj : Int) + 1 + 1) mm)) R rg qr rfl fun g9 t9 yv r9 k9 q9 v9 => ?_)
     dsimp only at k9
     have s9 := sg.keep fun o e => k9 Da o Dlt e
     have qo9 := qg.own_keep fun o e => k9 it o itlt7 e
     have i9 : InvA C as1 g1 g9 := invB ig fun b o l e => k9 b o (g17 b l) e
     refine letOwned_ok q9 (ha1 L (.int ((jj : Int) + 1)) (some (.str x)) o1 A { s with heap := g9, toks := t9 } as1 yv _ _ R r9 v9 fun as10 g10 t10 r10 s10 => ?_)
     cases (as_same r9 r10 s10.ext).symm
     have ej : (jj : Int) + 1 = ((jj + 1 : Nat) : Int) := rfl
     rw [ej] at r10
     refine he L x (jj + 1) xm ltj A { s with heap := g10, toks := t10 } as1 _ _ R r10 fun as11 g11 t11 kv r11 s11 v11 => ?_
     cases (as_same r10 r11 s11.ext).symm
     replace v11 := v11.inv; obtain ⟨tt, rfl⟩ := v11
     have set11 := (s9.keep (stepD s10)).keep (stepD s11)
     have qo11 := (qo9.step r9 s10).step r10 s11
     have qr11 := (q9.step r9 s10).step r10 s11
     have i11 := invS (invS i9 s10) s11
     have kl : (accK x jj (keysOf (rows.take i))).length < 4000 := ar_len (by rw [accK_len, keys_len, List.length_take]) hz hj
     refine add_set (s := { s with heap := g11, toks := t11 }) set11 kl fun g12 hs12 set12 => ?_
     dsimp only at hs12
     have r12 := r11.setGo set11 hDC hs12
     refine ⟨11 - (jj + 1), ar_dn hk1 (Nat.lt_succ_of_lt ltj), .mk g12 _ (jj + 1) _ ltj rfl r12 (qo11.setGo r11 set11 hs12) ?_ set12 ?_⟩
     ·have := qr11.setGo r11 set11 hs12
      rw [hm2, ar_up]
      exact this
     ·exact invB i11 fun b o l e => (hs12.2 b (fun z => by
       rw [z] at l
       exact absurd l (Nat.not_lt.mpr zg1))).trans e
    ·have ej : jj = 10 := Nat.le_antisymm hj (Nat.le_of_not_lt ltj)
     subst ej
     refine hG (stop_ok R rg qr rfl fun g9 t9 r9 k9 => ?_)
     dsimp only at k9
     refine ⟨rfl, rows.length + 1 - (i + 1), ar_dn hk' (Nat.lt_succ_of_lt lt), .mk g9 t9 (i + 1) _ _ lt rfl r9 (qg.own_keep fun o e => k9 it o itlt7 e) ?_ (invB ig fun b o l e => k9 b o (g17 b l) e)⟩
     rw [keys_take hx]
     exact sg.keep fun o e => k9 Da o Dlt e
   exact set_start 1 (loop1 _) (.inr rfl) fun E2 => again_ok q8 (loop1 _)
  ·-- the end
   have ei : i = rows.length := Nat.le_antisymm hi (Nat.le_of_not_lt lt)
   subst ei
   refine hG (stop_own R rg qg hT (by rw [List.getElem?_map, List.getElem?_eq_none (Nat.le_refl _)]; rfl) fun g5 r5 e5 => ?_)
   have s5 : SetIs C g5 Da (keysOf rows) := by
    rw [List.take_length] at sg
    exact sg.keep fun o e => e5 Da o (Ne.symm itD) e
   have i5 : InvA C as1 g1 g5 := invB ig fun b o l e => e5 b o (fun z => by
    have key : ItAt C as1 g g1.objs.size it := by cases qg; assumption
    exact absurd l (z ▸ Nat.not_lt.mpr key.lo)) e
   obtain ⟨m, hm, _⟩ := r5.fr
   have KA : KeepA C as1 g1 as1 g5 := ⟨i5.1, ⟨[], (List.append_nil _).symm, fun _ m => by cases m⟩, i5.2⟩
   have rE : Rel C env ns as1 σ g5 := r1.called KA r5.wd r5.hr
   show wpAny _ A (assign (.Name y py) env (.ref Da)) _ _ _
   refine wpAny_assign_Name (store_loc (v := .raw (.ref Da)) (s := { s with heap := g5, toks := tk }) ok hy hk rE (.raw _) fun g6 t6 r6 s6 => ?_)
   obtain ⟨oL, es, ep, gL, dL, rL⟩ := id hm
   have hLD : L ∉ mcells env := fun z => hL.2.2.1 (mem_mc z)
   have hTL : L ∉ C.T := fun z => hL.1 (.inr z)
   have hm2 : g6.Ns L m := ⟨oL, es, ep, s6.keep L oL gL hL.2.1 hLD hL.2.2.2 hTL, dL, rL⟩
   refine ⟨m, hm2, fun h'' hs'' => ?_⟩
   refine wpAny_pure (wpAny_pure ?_)
   have s6' : SetIs C g6 Da (keysOf rows) := s5.keep fun o e => s6.keep Da o e hD.2.1 (fun z => hD.2.2.1 (mem_mc z)) hD.2.2.2 (fun z => hD.1 (.inr z))
   exact fin as1 h'' _ Da (r6.letGo hm2 ⟨hL.1, hL.2.1, hL.2.2.1, hL.2.2.2⟩ hs'') ((s1.trans ((Step.of KA).trans s6)).letGo sz hs'') (s6'.keep fun o e => (hs''.2 Da DL).trans e) hD.1 hD.2.1 hD.2.2.1 hD.2.2.2
 exact set_start 0 (start q4 _) (.inl rfl) fun E2 => again_ok q4 (start q4 _)
end
end
noncomputable section
section
variable {C : Cx} {n m : Nat} {env : Env} {ns : List Str} {σ σ' σ₁ σ₂ σ₃ σ₄ : Sg} {as as' : List Addr} {h h' : Heap} {a b c d v w : V} {f : F} {A : Around}
theorem rel_keepF (r : Rel C env ns as σ h) (hL : env.frame = some env.locals) (k : KeepF C (fAd [env]) as h as' h') {hp' : List O} (wd : C.Wd h') (hr : HR C as' hp' h') : Rel C env ns as' { σ with hp := hp' } h' ∧ Step C env as h as' h' := by
 have fe : fAd [env] = [env.locals] := by rw [fAd, List.filterMap_cons, hL]; rfl
 rw [fe] at k
 have st : Step C env as h as' h' := ⟨fun b o e nl _ na nt => k.keep b o e na nt (by simpa using nl), k.ext, k.live⟩
 refine ⟨?_, st⟩
 obtain ⟨m0, ⟨oL, es, ep, hl, dL, rL⟩, q⟩ := r.fr
 have mv : ∀ {v : V} {x : Value}, VR as h v x → VR as' h' v x := fun q => r.move st q
 have nT : ∀ a, ¬ C.Old a → a ∉ C.T := fun a l m => l (.inr m)
 have kc : ∀ c ∈ env.cells, ∀ o, h.get? c.2 = some o → h'.get? c.2 = some o := fun c hc o e => k.keep _ o e (fun m => (r.own_ne m).2.1 (List.mem_map_of_mem (f := (·.2)) hc)) (nT _ (r.cells c hc).1) (fun m => by
  rw [List.mem_singleton] at m
  obtain ⟨_, v, oc, d1, d2⟩ := r.cells c hc
  rw [m, hl] at d1; cases d1
  rw [dL] at d2; cases d2)
 obtain ⟨sl, hl'⟩ := k.slots env.locals oL hl (List.mem_singleton.mpr rfl)
 refine ⟨wd, hr, ⟨m0, ⟨_, es, ep, hl', dL, rL⟩, fun i v e => ?_⟩, fun c hc => ?_, r.lo⟩
 ·obtain ⟨x, hx, q⟩ := q i v e
  refine ⟨x, hx, ?_⟩
  rcases q with ⟨a, val, b, c⟩ | ⟨a, c, val, b, ⟨oc, d1, d2⟩, e⟩
  ·exact .inl ⟨a, val, b, mv c⟩
  ·have : (x, c) ∈ env.cells := by
    obtain ⟨l1, l2, e, _⟩ := List.lookup_eq_some_iff.mp b
    rw [e]; simp
   exact .inr ⟨a, c, val, b, ⟨oc, kc _ this _ d1, d2⟩, mv e⟩
 ·obtain ⟨l, v, oc, d1, d2⟩ := r.cells c hc
  exact ⟨l, v, oc, kc c hc _ d1, d2⟩
noncomputable def TrA {α : Type} (A : Around) (C : Cx) (env : Env) (ns : List Str) (t : Sem α) (σ σ' : Sg) (P : List Addr → Heap → α → Prop) : Prop :=
 ∀ (s : Shared) (as : List Addr) (Q : α → Shared → Prop) (E : Value → Shared → Prop), Rel C env ns as σ s.heap →
  (∀ as' h' tk a, Rel C env ns as' σ' h' → Step C env as s.heap as' h' → P as' h' a → Q a { s with heap := h', toks := tk }) → wpAny (model C.prog C.w) A t Q E s
theorem Tr.at {α : Type} {t : Sem α} {P : List Addr → Heap → α → Prop} (x : Tr C n env ns t σ σ' P) (R : Room n A) : TrA A C env ns t σ σ' P := fun s as Q E r h => x A s as Q E R r h
noncomputable abbrev TEA (A : Around) (C : Cx) (env : Env) (ns : List Str) (e : PySem.Expr) (σ : Sg) (v : V) (σ' : Sg) : Prop := TrA A C env ns (eval e env) σ σ' (fun as h x => VR as h v x)
noncomputable abbrev TTA (A : Around) (C : Cx) (env : Env) (ns : List Str) (e : PySem.Expr) (σ : Sg) (b : Bool) (σ' : Sg) : Prop := TrA A C env ns (isTrue e env (eval e env)) σ σ' (IsB b)
theorem tea_call {fe e : PySem.Expr} {pos : Pos} {fA : Addr} {hp' : List O} {o : Obj} {fd : FuncData} (R : Room n A) (hfr : A.frames = some [env]) (hk : env.scope.kind = .function) (hL : env.frame = some env.locals) (h1 : TE C n env ns fe σ (.raw (.ref fA)) σ) (hb : C.base fA o) (hd : o.data = .func fd) (hn : notStar e = true)
  (h2 : TE C n env ns e σ v σ₁) (h3 : SpcF C n (.ref fA) [v] σ₁.hp w hp') (he : eval (.Call fe [e] [] pos) env = (do callWith pos (← eval fe env) [] (backTo pos (starEach [e] env)) (backToKw pos (keywordEach [] env)))) :
  TEA A C env ns (.Call fe [e] [] pos) σ w { σ₁ with hp := hp' } := fun s as Q E r fin => by
 refine Call_ (h1 A s as _ E R r fun as1 g1 t1 x r1 s1 v1 => ?_) he
 replace v1 := v1.inv; obtain rfl := v1
 refine callWith_def (o := o) hd (ts_cons hn h2 ts_nil A _ as1 _ E R r1 fun as2 g2 t2 xs r2 s2 v2 => ⟨r2.wd.base fA o hb, ?_⟩) (starEach_cons hn)
 have fr : Frames g2 [env] := Frames.cons r2 hk hL (fun e m => by cases m)
 have fe : fAd [env] = [env.locals] := by rw [fAd, List.filterMap_cons, hL]; rfl
 refine h3 A _ as2 xs [env] Q E R hfr fr (fun b m => by
  rw [fe, List.mem_singleton] at m
  rw [m]; exact r2.lo) r2.wd r2.hr v2 fun h' tk x wd hr k vx => ?_
 obtain ⟨r3, s3⟩ := rel_keepF r2 hL k wd hr
 exact fin as2 h' tk x r3 (s1.trans (s2.trans s3)) vx
theorem tta_cmp {op : CmpOp} {l e : PySem.Expr} {pos : Pos} {bb : Bool} (R : Room n A) (h1 : TEA A C env ns l σ a σ₁) (h2 : TE C n env ns e σ₁ b σ₂) (h3 : OB C n env ns (compareOp op) a b σ₂ σ₃ (IsV (.bool bb))) (hm : behindInMarks op e = false) : TTA A C env ns (.Compare l [op] [e] pos) σ bb σ₃ := fun s as Q E r h =>
 wpAny_isTrue_Compare1 (h1 s as _ E r fun as1 g1 t1 x r1 s1 v1 => h2 A _ as1 _ E R r1 fun as2 g2 t2 y r2 s2 v2 =>
  h3 A _ as2 x y _ E R r2 (r1.move s2 v1) v2 fun as3 g3 t3 v r3 s3 v3 => by
   replace v3 := v3.inv; obtain rfl := v3
   exact wpAny_truthy_bool (h as3 g3 t3 bb r3 (s1.trans (s2.trans s3)) rfl)) hm
theorem tea_cmp {op : CmpOp} {l e : PySem.Expr} {pos : Pos} {bb : Bool} (R : Room n A) (h1 : TEA A C env ns l σ a σ₁) (h2 : TE C n env ns e σ₁ b σ₂) (h3 : OB C n env ns (compareOp op) a b σ₂ σ₃ (IsV (.bool bb))) (hm : behindInMarks op e = false) : TEA A C env ns (.Compare l [op] [e] pos) σ (.bool bb) σ₃ := fun s as Q E r h =>
 wpAny_Compare1 (h1 s as _ E r fun as1 g1 t1 x r1 s1 v1 => h2 A _ as1 _ E R r1 fun as2 g2 t2 y r2 s2 v2 =>
  h3 A _ as2 x y _ E R r2 (r1.move s2 v1) v2 fun as3 g3 t3 v r3 s3 v3 => h as3 g3 t3 v r3 (s1.trans (s2.trans s3)) v3) hm
theorem tta_or2 {x y : PySem.Expr} {pos : Pos} {bb : Bool} (h1 : TTA A C env ns x σ false σ₁) (h2 : TTA A C env ns y σ₁ bb σ₂) : TTA A C env ns (.BoolOp .Or [x, y] pos) σ bb σ₂ := fun s as Q E r h =>
 isTrue_or (h1 s as _ E r fun as1 g1 t1 c r1 s1 e => by
  have e' : c = false := e
  subst e'
  refine isTrue_or (h2 _ as1 _ E r1 fun as2 g2 t2 d r2 s2 e2 => ?_)
  have e2' : d = bb := e2
  subst e2'
  cases d
  ·exact isTrue_or_nil (h as2 g2 t2 false r2 (s1.trans s2) rfl)
  ·exact h as2 g2 t2 true r2 (s1.trans s2) rfl)
theorem txa_if {test : PySem.Expr} {body : List Stmt} {pos : Pos} {s : Shared} {Q : Flow → Shared → Prop} {E : Value → Shared → Prop} (h1 : TTA A C env ns test σ false σ₁) (r : Rel C env ns as σ s.heap)
  (h : ∀ as' h' tk, Rel C env ns as' σ₁ h' → Step C env as s.heap as' h' → Q .next { s with heap := h', toks := tk }) : wpAny (model C.prog C.w) A (exec (.If test body [] pos) env) Q E s :=
 wpAny_If (h1 s as _ E r fun as1 g1 t1 y r1 s1 v1 => by
  have e : y = false := v1
  subst e
  exact wpAny_execs_nil (h as1 g1 t1 r1 s1))
theorem len_set {D : Addr} {Ks : List (List Nat)} {s : Shared} {Q : Value → Shared → Prop} {E : Value → Shared → Prop} (q : SetIs C s.heap D Ks) (hz : Ks.length < 4000) (h : Q (.int (dcnt Ks : Nat) (s.toks + 1)) { s with toks := s.toks + 1 + 1 }) : wpAny (model C.prog C.w) A (call (.builtin "len") [.ref D]) Q E s := by
 obtain ⟨o, es, ep, t, ho, hx, hd, hel, hmem, hb, hf, hn⟩ := q
 rw [← hn] at h
 exact call_len_set ho hx hd hf (by unfold scanBound at hb; omega) h
structure SetOk (C : Cx) (env : Env) (as : List Addr) (h : Heap) (D : Addr) (Ks : List (List Nat)) : Prop where
 is : SetIs C h D Ks
 old : ¬ C.Old D
 loc : D ≠ env.locals
 cel : D ∉ env.cells.map (·.2)
 na : D ∉ as
theorem SetOk.step {D : Addr} {Ks : List (List Nat)} (q : SetOk C env as h D Ks) (st : Step C env as h as' h') : SetOk C env as' h' D Ks := by
 obtain ⟨ex, e, fx⟩ := st.ext
 refine ⟨q.is.keep fun o e => st.keep D o e q.loc (fun z => q.cel (mem_mc z)) q.na (fun z => q.old (.inr z)), q.old, q.loc, q.cel, fun m => ?_⟩
 rw [e] at m
 rcases List.mem_append.mp m with m | m
 ·exact q.na m
 ·obtain ⟨o, es, ep, t, ho, _⟩ := q.is
  rw [fx D m] at ho; cases ho
theorem eval_len_set {D : Addr} {Ks : List (List Nat)} {fe e : PySem.Expr} {pos : Pos} {s : Shared} {Q : Value → Shared → Prop} {E : Value → Shared → Prop} (R : Room n A) (r : Rel C env ns as σ s.heap) (q : SetOk C env as s.heap D Ks) (hz : Ks.length < 4000) (h1 : TE C n env ns fe σ (.raw (.builtin "len")) σ) (h2 : TE C n env ns e σ (.raw (.ref D)) σ) (hn : notStar e = true)
  (he : eval (.Call fe [e] [] pos) env = (do callWith pos (← eval fe env) [] (backTo pos (starEach [e] env)) (backToKw pos (keywordEach [] env))))
  (fin : ∀ as' h' tk t, Rel C env ns as' σ h' → Step C env as s.heap as' h' → Q (.int (dcnt Ks : Nat) t) { s with heap := h', toks := tk }) : wpAny (model C.prog C.w) A (eval (.Call fe [e] [] pos) env) Q E s := by
 refine Call_ (h1 A s as _ E R r fun as1 g1 t1 x r1 s1 v1 => ?_) he
 replace v1 := v1.inv; obtain rfl := v1
 refine PyProof.Rows.callWith_builtin1 (ts_cons hn h2 ts_nil A _ as1 _ E R r1 fun as2 g2 t2 xs r2 s2 v2 => ?_) (starEach_cons hn) rfl
 replace v2 := v2.inv; obtain ⟨_, _, rfl, q1, q2⟩ := v2
 replace q2 := q2.inv; obtain rfl := q2
 replace q1 := q1.inv; obtain rfl := q1
 exact len_set (s := { s with heap := g2, toks := t2 }) ((q.step s1).step s2).is hz (fin as2 g2 _ _ r2 (s1.trans s2))
end
end
end Mine
end
namespace Mine
noncomputable abbrev dE (P : PySem.Params) (x : String) (n : Nat) (v : PySem.Value) : PySem.DictEntry := ⟨PySem.PyData.keyHash P (PySem.Str.ofString x), (.str (PySem.Str.ofString x) n), v⟩
end Mine
set_option hygiene false
set_option compiler.extract_closed false
local macro_rules
  | `(tactic| trivial) => `(tactic| first
    | exact cb_nil | exact ci_nil | exact cl_nil | exact cj_nil | exact cp_none | exact cy_brk | exact ct_and0 | exact ct_or0 | exact ce_int | exact ce_none | exact ce_bool
    | exact ce_str _ (by kernel_rfl)
    | exact ce_byt _ (by kernel_rfl) (by decide)
    | exact ce_loc ‹_› _ (by rfl) (by decide) (by decide)
    | exact ce_gl ‹_› (by kernel_rfl) (by decide) ‹_›
    | exact ce_bl ‹_› (by kernel_rfl) (by decide) ‹_›
    | refine ce_bin ?_ ?_ | refine ce_idx ?_ ?_ rfl | refine ce_slc ?_ ?_ ?_ | refine cp_some ?_ | refine ce_tup ?_ | refine ce_list ?_ | refine cl_cons rfl ?_ ?_
    | refine ct_eqL ?_ ?_ (by omega) rfl | refine ct_cmp ?_ ?_ rfl | refine ce_cmp ?_ ?_ rfl | refine ct_not ?_ | refine ct_and ?_ ?_ | refine ct_or ?_ ?_ | refine ce_ite ?_ ?_ ?_ | refine ce_and2 ?_ ?_ | refine ce_or2 ?_ ?_
    | refine ce_neg ?_ | refine ce_fmt ?_ | refine cj_cons ?_ ?_ | refine ce_join ?_
    | refine ce_callg ‹_› (ce_gl ‹_› (by kernel_rfl) (by decide) ‹_›) rfl ?_
    | refine ce_bltc (ce_bl ‹_› (by kernel_rfl) (by decide) ‹_›) rfl ?_
    | refine ce_dec rfl rfl rfl ?_ ?_
    | refine ce_obj (ce_bl ‹_› (by kernel_rfl) (by decide) ‹_›)
    | refine ce_rev ?_ ?_
    | refine ce_meth _ (by kernel_rfl) rfl rfl rfl (by decide) ?_ ?_
    | refine ce_app rfl ?_ ?_
    | refine ce_attr ?_
    | refine ct_truth rfl ?_
    | refine cy_asg ‹_› _ (by rfl) (by kernel_rfl) (swaps_plain rfl) ?_
    | refine cy_expr (not_inter rfl) (swaps_plain rfl) ?_
    | refine cy_aug ‹_› _ (by rfl) (by kernel_rfl) (by decide) ?_
    | refine cy_pair ‹_› _ _ (by rfl) (by kernel_rfl) (by rfl) (by kernel_rfl) (swaps_sole rfl) (by kernel_rfl) ?_
    | refine cy_tgt (swaps_sole rfl) (by kernel_rfl) ?_ ?_
    | refine cy_enum rfl (ce_bl ‹_› (by kernel_rfl) (by decide) ‹_›) ?_ ?_ ?_ ?_
    | refine cg_name ‹_› _ (by rfl) (by kernel_rfl) | refine cg_pair ‹_› _ _ (by rfl) (by kernel_rfl) (by rfl) (by kernel_rfl)
    | refine cy_if ?_ ?_ ?_ | refine cy_while ?_ ?_ | refine cy_for (folded_plain rfl) ?_ ?_ ?_ ?_ | refine cy_assert ?_
    | refine cy_ret ?_
    | refine cb_cons ?_ ?_)
set_option hygiene true
set_option compiler.extract_closed true

section
open PySem PySem.W PyProof.Rows
set_option maxHeartbeats 0
set_option maxRecDepth 100000
namespace Mine
noncomputable def bodyOf : Stmt → List Stmt
 | .FunctionDef _ _ b .. => b
 | _ => []
noncomputable def scopeOf : Stmt → Scope
 | .FunctionDef _ _ _ _ _ _ s .. => s
 | _ => default
noncomputable def argsOf : Stmt → Arguments
 | .FunctionDef _ a .. => a
 | _ => ⟨[], [], none, [], [], none, []⟩
noncomputable def inCls : Stmt → Nat → Stmt
 | .ClassDef _ _ _ b .., i => b.getD i default
 | _, _ => default
noncomputable abbrev pw : Program := PySem.Challenge.pw_rx0055_01
noncomputable def st (i : Nat) : Stmt := pw.main.body.getD i default
noncomputable def o0 (P : Params) : Obj := ⟨(.type "dict"), none, (.dict #[dE P "__name__" 1 (.str (Str.ofString "builtins") 160), dE P "__doc__" 2 (.builtin "builtins.__doc__:str#opaque"), dE P "__package__" 3 (.builtin "builtins.__package__:str#opaque"), dE P "__loader__" 4 (.builtin "builtins.__loader__:shared#opaque"), dE P "__spec__" 5 (.builtin "builtins.__spec__#opaque"), dE P "__build_class__" 6 (.builtin "__build_class__"), dE P "__import__" 7 (.builtin "__import__"), dE P "abs" 8 (.builtin "abs"), dE P "all" 9 (.builtin "all"), dE P "any" 10 (.builtin "any"), dE P "ascii" 11 (.builtin "ascii"), dE P "bin" 12 (.builtin "bin"), dE P "breakpoint" 13 (.builtin "breakpoint"), dE P "callable" 14 (.builtin "callable"), dE P "chr" 15 (.builtin "chr"), dE P "compile" 16 (.builtin "compile"), dE P "delattr" 17 (.builtin "delattr"), dE P "dir" 18 (.builtin "dir"), dE P "divmod" 19 (.builtin "divmod"), dE P "eval" 20 (.builtin "eval"), dE P "exec" 21 (.builtin "exec"), dE P "format" 22 (.builtin "format"), dE P "getattr" 23 (.builtin "getattr"), dE P "globals" 24 (.builtin "globals"), dE P "hasattr" 25 (.builtin "hasattr"), dE P "hash" 26 (.builtin "hash"), dE P "hex" 27 (.builtin "hex"), dE P "id" 28 (.builtin "id"), dE P "input" 29 (.builtin "input"), dE P "isinstance" 30 (.builtin "isinstance"), dE P "issubclass" 31 (.builtin "issubclass"), dE P "iter" 32 (.builtin "iter"), dE P "aiter" 33 (.builtin "aiter"), dE P "len" 34 (.builtin "len"), dE P "locals" 35 (.builtin "locals"), dE P "max" 36 (.builtin "max"), dE P "min" 37 (.builtin "min"), dE P "next" 38 (.builtin "next"), dE P "anext" 39 (.builtin "anext"), dE P "oct" 40 (.builtin "oct"), dE P "ord" 41 (.builtin "ord"), dE P "pow" 42 (.builtin "pow"), dE P "print" 43 (.builtin "print"), dE P "repr" 44 (.builtin "repr"), dE P "round" 45 (.builtin "round"), dE P "setattr" 46 (.builtin "setattr"), dE P "sorted" 47 (.builtin "sorted"), dE P "sum" 48 (.builtin "sum"), dE P "vars" 49 (.builtin "vars"), dE P "None" 50 .none, dE P "Ellipsis" 51 .ellipsis, dE P "NotImplemented" 52 .notImplemented, dE P "False" 53 (.bool false), dE P "True" 54 (.bool true), dE P "bool" 55 (.type "bool"), dE P "memoryview" 56 (.type "memoryview"), dE P "bytearray" 57 (.type "bytearray"), dE P "bytes" 58 (.type "bytes"), dE P "classmethod" 59 (.type "classmethod"), dE P "complex" 60 (.type "complex"), dE P "dict" 61 (.type "dict"), dE P "enumerate" 62 (.type "enumerate"), dE P "filter" 63 (.type "filter"), dE P "float" 64 (.type "float"), dE P "frozenset" 65 (.type "frozenset"), dE P "property" 66 (.type "property"), dE P "int" 67 (.type "int"), dE P "list" 68 (.type "list"), dE P "map" 69 (.type "map"), dE P "object" 70 (.type "object"), dE P "range" 71 (.type "range"), dE P "reversed" 72 (.type "reversed"), dE P "set" 73 (.type "set"), dE P "slice" 74 (.type "slice"), dE P "staticmethod" 75 (.type "staticmethod"), dE P "str" 76 (.type "str"), dE P "super" 77 (.type "super"), dE P "tuple" 78 (.type "tuple"), dE P "type" 79 (.type "type"), dE P "zip" 80 (.type "zip"), dE P "__debug__" 81 (.bool true), dE P "BaseException" 82 (.type "BaseException"), dE P "BaseExceptionGroup" 83 (.type "BaseExceptionGroup"), dE P "Exception" 84 (.type "Exception"), dE P "GeneratorExit" 85 (.type "GeneratorExit"), dE P "KeyboardInterrupt" 86 (.type "KeyboardInterrupt"), dE P "SystemExit" 87 (.type "SystemExit"), dE P "ArithmeticError" 88 (.type "ArithmeticError"), dE P "AssertionError" 89 (.type "AssertionError"), dE P "AttributeError" 90 (.type "AttributeError"), dE P "BufferError" 91 (.type "BufferError"), dE P "EOFError" 92 (.type "EOFError"), dE P "ImportError" 93 (.type "ImportError"), dE P "LookupError" 94 (.type "LookupError"), dE P "MemoryError" 95 (.type "MemoryError"), dE P "NameError" 96 (.type "NameError"), dE P "OSError" 97 (.type "OSError"), dE P "ReferenceError" 98 (.type "ReferenceError"), dE P "RuntimeError" 99 (.type "RuntimeError"), dE P "StopAsyncIteration" 100 (.type "StopAsyncIteration"), dE P "StopIteration" 101 (.type "StopIteration"), dE P "SyntaxError" 102 (.type "SyntaxError"), dE P "SystemError" 103 (.type "SystemError"), dE P "TypeError" 104 (.type "TypeError"), dE P "ValueError" 105 (.type "ValueError"), dE P "Warning" 106 (.type "Warning"), dE P "FloatingPointError" 107 (.type "FloatingPointError"), dE P "OverflowError" 108 (.type "OverflowError"), dE P "ZeroDivisionError" 109 (.type "ZeroDivisionError"), dE P "BytesWarning" 110 (.type "BytesWarning"), dE P "DeprecationWarning" 111 (.type "DeprecationWarning"), dE P "EncodingWarning" 112 (.type "EncodingWarning"), dE P "FutureWarning" 113 (.type "FutureWarning"), dE P "ImportWarning" 114 (.type "ImportWarning"), dE P "PendingDeprecationWarning" 115 (.type "PendingDeprecationWarning"), dE P "ResourceWarning" 116 (.type "ResourceWarning"), dE P "RuntimeWarning" 117 (.type "RuntimeWarning"), dE P "SyntaxWarning" 118 (.type "SyntaxWarning"), dE P "UnicodeWarning" 119 (.type "UnicodeWarning"), dE P "UserWarning" 120 (.type "UserWarning"), dE P "BlockingIOError" 121 (.type "BlockingIOError"), dE P "ChildProcessError" 122 (.type "ChildProcessError"), dE P "ConnectionError" 123 (.type "ConnectionError"), dE P "FileExistsError" 124 (.type "FileExistsError"), dE P "FileNotFoundError" 125 (.type "FileNotFoundError"), dE P "InterruptedError" 126 (.type "InterruptedError"), dE P "IsADirectoryError" 127 (.type "IsADirectoryError"), dE P "NotADirectoryError" 128 (.type "NotADirectoryError"), dE P "PermissionError" 129 (.type "PermissionError"), dE P "ProcessLookupError" 130 (.type "ProcessLookupError"), dE P "TimeoutError" 131 (.type "TimeoutError"), dE P "IndentationError" 132 (.type "IndentationError"), dE P "_IncompleteInputError" 133 (.type "_IncompleteInputError"), dE P "IndexError" 134 (.type "IndexError"), dE P "KeyError" 135 (.type "KeyError"), dE P "ModuleNotFoundError" 136 (.type "ModuleNotFoundError"), dE P "NotImplementedError" 137 (.type "NotImplementedError"), dE P "PythonFinalizationError" 138 (.type "PythonFinalizationError"), dE P "RecursionError" 139 (.type "RecursionError"), dE P "UnboundLocalError" 140 (.type "UnboundLocalError"), dE P "UnicodeError" 141 (.type "UnicodeError"), dE P "BrokenPipeError" 142 (.type "BrokenPipeError"), dE P "ConnectionAbortedError" 143 (.type "ConnectionAbortedError"), dE P "ConnectionRefusedError" 144 (.type "ConnectionRefusedError"), dE P "ConnectionResetError" 145 (.type "ConnectionResetError"), dE P "TabError" 146 (.type "TabError"), dE P "UnicodeDecodeError" 147 (.type "UnicodeDecodeError"), dE P "UnicodeEncodeError" 148 (.type "UnicodeEncodeError"), dE P "UnicodeTranslateError" 149 (.type "UnicodeTranslateError"), dE P "ExceptionGroup" 150 (.type "ExceptionGroup"), dE P "EnvironmentError" 151 (.type "OSError"), dE P "IOError" 152 (.type "OSError"), dE P "open" 153 (.builtin "open"), dE P "quit" 154 (.builtin "builtins.quit#opaque"), dE P "exit" 155 (.builtin "builtins.exit#opaque"), dE P "copyright" 156 (.builtin "builtins.copyright#opaque"), dE P "credits" 157 (.builtin "builtins.credits#opaque"), dE P "license" 158 (.builtin "builtins.license#opaque"), dE P "help" 159 (.builtin "builtins.help#opaque")] 159), #[]⟩
noncomputable def o1 (P : Params) : Obj := ⟨(.type "dict"), none, (.dict #[dE P "builtins" 162 (.ref 4), dE P "__main__" 163 (.ref 5), dE P "_sre" 244 (.ref 12)] 3), #[]⟩
noncomputable def o2 (P : Params) : Obj := ⟨.none, none, (.dict #[⟨PyData.keyHash P (Str.mk #[105, 109, 112, 111, 114, 116, 46, 108, 111, 97, 100, 101, 100, 46, 95, 115, 114, 101]), (.str (Str.mk #[105, 109, 112, 111, 114, 116, 46, 108, 111, 97, 100, 101, 100, 46, 95, 115, 114, 101]) 183), (.bool true)⟩, dE P "class._frozen_importlib.BuiltinImporter" 185 (.ref 14), ⟨PyData.keyHash P (Str.mk #[119, 97, 116, 99, 104, 101, 100, 46, 105, 109, 112, 111, 114, 116]), (.str (Str.mk #[119, 97, 116, 99, 104, 101, 100, 46, 105, 109, 112, 111, 114, 116]) 206), (.ref 18)⟩, dE P "class._frozen_importlib.ModuleSpec" 216 (.ref 22), dE P "sys.modules.booked-epoch" 245 (.int 3 0), ⟨PyData.keyHash P (Str.mk #[105, 109, 112, 111, 114, 116, 46, 108, 97, 116, 101, 114, 45, 108, 97, 105, 100, 46, 95, 115, 114, 101]), (.str (Str.mk #[105, 109, 112, 111, 114, 116, 46, 108, 97, 116, 101, 114, 45, 108, 97, 105, 100, 46, 95, 115, 114, 101]) 270), (.bool true)⟩, dE P "watched.library" 272 (.ref 27), dE P "watched.library-objects" 0 (.str (Str.mk #[12]) 0), dE P "watched.library-deep._sre" 273 (.str (Str.mk #[4, 0, 0, 11, 4, 0, 0, 11, 4, 0, 0, 3, 4, 0, 0, 11, 8, 4, 100, 105, 99, 116, 2]) 0)] 9), #[]⟩
noncomputable def o3 (P : Params) : Obj := ⟨(.type "dict"), none, (.dict #[dE P "__name__" 165 (.str (Str.ofString "__main__") 164), dE P "__doc__" 166 .none, dE P "__package__" 167 .none, dE P "__loader__" 168 (.builtin "__main__.__loader__#opaque"), dE P "__spec__" 169 .none, dE P "__annotations__" 170 (.ref 6), dE P "__builtins__" 171 (.ref 4), dE P "__file__" 173 (.str (Str.ofString "/claim/cut.py") 172), dE P "__cached__" 174 .none, dE P "_sre" 275 (.ref 12)] 10), #[]⟩
noncomputable def o4 (P : Params) : Obj := ⟨(.type "module"), (some 0), .plain, #[]⟩
noncomputable def o5 (P : Params) : Obj := ⟨(.type "module"), (some 3), .plain, #[]⟩
noncomputable def o6 (P : Params) : Obj := ⟨(.type "dict"), none, (.dict #[] 0), #[]⟩
noncomputable def o7 (P : Params) : Obj := ⟨(.type "tuple"), none, (.seq #[] 0), #[]⟩
noncomputable def o8 (P : Params) : Obj := ⟨.none, none, (.fields #[]), #[]⟩
noncomputable def o9 (P : Params) : Obj := ⟨(.type "code"), none, (.fields #[(.str (Str.ofString "<module>") 176), (.str (Str.ofString "<module>") 177), (.str (Str.ofString "/claim/cut.py") 178), (.int 1 0), (.int 0 0), (.int 0 0), (.int 0 0), (.int 0 0), (.ref 7), (.bool false), (.int 175 0), (.ref 8), .none, .none, .none, .none, (.int 179 0), (.int 1 0), (.str (Str.ofString "/claim/cut.py") 180)]), #[]⟩
noncomputable def o10 (P : Params) : Obj := ⟨(.type "frame"), none, .plain, #[(some (.ref 9)), (some (.ref 3)), (some (.ref 3)), none, (some (.str (Str.ofString "__main__") 164)), none, (some (.ref 0))]⟩
noncomputable def o11 (P : Params) : Obj := ⟨(.type "dict"), none, (.dict #[dE P "__name__" 247 (.str (Str.ofString "_sre") 246), dE P "__doc__" 248 .none, dE P "__package__" 250 (.str (Str.ofString "") 249), dE P "__loader__" 251 (.ref 14), dE P "__spec__" 252 (.ref 26), dE P "compile" 253 (.builtin "_sre.compile"), dE P "template" 254 (.builtin "_sre.template"), dE P "getcodesize" 255 (.builtin "_sre.getcodesize"), dE P "ascii_iscased" 256 (.builtin "_sre.ascii_iscased"), dE P "unicode_iscased" 257 (.builtin "_sre.unicode_iscased"), dE P "ascii_tolower" 258 (.builtin "_sre.ascii_tolower"), dE P "unicode_tolower" 259 (.builtin "_sre.unicode_tolower"), dE P "MAGIC" 261 (.int 20230612 260), dE P "CODESIZE" 263 (.int 4 262), dE P "MAXREPEAT" 265 (.int 4294967295 264), dE P "MAXGROUPS" 267 (.int 1073741823 266), ⟨PyData.keyHash P (Str.ofString "copyright"), (.str (Str.ofString "copyright") 269), (.str (Str.ofString " SRE 2.2.2 Copyright (c) 1997-2002 by Secret Labs AB ") 268)⟩] 17), #[]⟩
noncomputable def o12 (P : Params) : Obj := ⟨(.type "module"), (some 11), .plain, #[]⟩
noncomputable def o13 (P : Params) : Obj := ⟨(.type "dict"), none, (.dict #[dE P "__module__" 189 (.str (Str.ofString "_frozen_importlib") 186), dE P "__firstlineno__" 190 (.int 971 187), dE P "__doc__" 191 (.builtin "_frozen_importlib.BuiltinImporter.__doc__:str#opaque"), dE P "_ORIGIN" 192 (.str (Str.ofString "built-in") 188), dE P "find_spec" 193 (.builtin "_frozen_importlib.BuiltinImporter.find_spec#opaque"), dE P "create_module" 194 (.builtin "_frozen_importlib.BuiltinImporter.create_module#opaque"), dE P "exec_module" 195 (.builtin "_frozen_importlib.BuiltinImporter.exec_module#opaque"), dE P "get_code" 196 (.builtin "_frozen_importlib.BuiltinImporter.get_code#opaque"), dE P "get_source" 197 (.builtin "_frozen_importlib.BuiltinImporter.get_source#opaque"), dE P "is_package" 198 (.builtin "_frozen_importlib.BuiltinImporter.is_package#opaque"), dE P "load_module" 199 (.builtin "_frozen_importlib.BuiltinImporter.load_module#opaque"), dE P "__static_attributes__" 200 (.ref 15), dE P "__dict__" 202 (.ref 16), dE P "__weakref__" 204 (.ref 17)] 14), #[]⟩
noncomputable def o14 (P : Params) : Obj := ⟨(.type "type"), none, (.cls ⟨(Str.ofString "BuiltinImporter"), [(.type "object")], [(.ref 14), (.type "object")], 13, (Str.ofString "BuiltinImporter"), true, [], [], false, none, false⟩), #[]⟩
noncomputable def o15 (P : Params) : Obj := ⟨(.type "tuple"), none, (.seq #[] 0), #[]⟩
noncomputable def o16 (P : Params) : Obj := ⟨(.type "getset_descriptor"), none, (.fields #[(.str (Str.ofString "__dict__") 201), (.ref 14), (.builtin "function.__dict__"), (.builtin "function.__dict__#set")]), #[]⟩
noncomputable def o17 (P : Params) : Obj := ⟨(.type "getset_descriptor"), none, (.fields #[(.str (Str.ofString "__weakref__") 203), (.ref 14), (.builtin "ExceptionGroup.__weakref__"), .none]), #[]⟩
noncomputable def o18 (P : Params) : Obj := ⟨.none, none, (.seq #[(.int 13 0), (.str (Str.mk #[6, 189, 10, 95, 95, 109, 111, 100, 117, 108, 101, 95, 95, 6, 186, 17, 95, 102, 114, 111, 122, 101, 110, 95, 105, 109, 112, 111, 114, 116, 108, 105, 98, 6, 190, 15, 95, 95, 102, 105, 114, 115, 116, 108, 105, 110, 101, 110, 111, 95, 95, 4, 187, 0, 971, 6, 191, 7, 95, 95, 100, 111, 99, 95, 95, 9, 52, 95, 102, 114, 111, 122, 101, 110, 95, 105, 109, 112, 111, 114, 116, 108, 105, 98, 46, 66, 117, 105, 108, 116, 105, 110, 73, 109, 112, 111, 114, 116, 101, 114, 46, 95, 95, 100, 111, 99, 95, 95, 58, 115, 116, 114, 35, 111, 112, 97, 113, 117, 101, 6, 192, 7, 95, 79, 82, 73, 71, 73, 78, 6, 188, 8, 98, 117, 105, 108, 116, 45, 105, 110, 6, 193, 9, 102, 105, 110, 100, 95, 115, 112, 101, 99, 9, 50, 95, 102, 114, 111, 122, 101, 110, 95, 105, 109, 112, 111, 114, 116, 108, 105, 98, 46, 66, 117, 105, 108, 116, 105, 110, 73, 109, 112, 111, 114, 116, 101, 114, 46, 102, 105, 110, 100, 95, 115, 112, 101, 99, 35, 111, 112, 97, 113, 117, 101, 6, 194, 13, 99, 114, 101, 97, 116, 101, 95, 109, 111, 100, 117, 108, 101, 9, 54, 95, 102, 114, 111, 122, 101, 110, 95, 105, 109, 112, 111, 114, 116, 108, 105, 98, 46, 66, 117, 105, 108, 116, 105, 110, 73, 109, 112, 111, 114, 116, 101, 114, 46, 99, 114, 101, 97, 116, 101, 95, 109, 111, 100, 117, 108, 101, 35, 111, 112, 97, 113, 117, 101, 6, 195, 11, 101, 120, 101, 99, 95, 109, 111, 100, 117, 108, 101, 9, 52, 95, 102, 114, 111, 122, 101, 110, 95, 105, 109, 112, 111, 114, 116, 108, 105, 98, 46, 66, 117, 105, 108, 116, 105, 110, 73, 109, 112, 111, 114, 116, 101, 114, 46, 101, 120, 101, 99, 95, 109, 111, 100, 117, 108, 101, 35, 111, 112, 97, 113, 117, 101, 6, 196, 8, 103, 101, 116, 95, 99, 111, 100, 101, 9, 49, 95, 102, 114, 111, 122, 101, 110, 95, 105, 109, 112, 111, 114, 116, 108, 105, 98, 46, 66, 117, 105, 108, 116, 105, 110, 73, 109, 112, 111, 114, 116, 101, 114, 46, 103, 101, 116, 95, 99, 111, 100, 101, 35, 111, 112, 97, 113, 117, 101, 6, 197, 10, 103, 101, 116, 95, 115, 111, 117, 114, 99, 101, 9, 51, 95, 102, 114, 111, 122, 101, 110, 95, 105, 109, 112, 111, 114, 116, 108, 105, 98, 46, 66, 117, 105, 108, 116, 105, 110, 73, 109, 112, 111, 114, 116, 101, 114, 46, 103, 101, 116, 95, 115, 111, 117, 114, 99, 101, 35, 111, 112, 97, 113, 117, 101, 6, 198, 10, 105, 115, 95, 112, 97, 99, 107, 97, 103, 101, 9, 51, 95, 102, 114, 111, 122, 101, 110, 95, 105, 109, 112, 111, 114, 116, 108, 105, 98, 46, 66, 117, 105, 108, 116, 105, 110, 73, 109, 112, 111, 114, 116, 101, 114, 46, 105, 115, 95, 112, 97, 99, 107, 97, 103, 101, 35, 111, 112, 97, 113, 117, 101, 6, 199, 11, 108, 111, 97, 100, 95, 109, 111, 100, 117, 108, 101, 9, 52, 95, 102, 114, 111, 122, 101, 110, 95, 105, 109, 112, 111, 114, 116, 108, 105, 98, 46, 66, 117, 105, 108, 116, 105, 110, 73, 109, 112, 111, 114, 116, 101, 114, 46, 108, 111, 97, 100, 95, 109, 111, 100, 117, 108, 101, 35, 111, 112, 97, 113, 117, 101, 6, 200, 21, 95, 95, 115, 116, 97, 116, 105, 99, 95, 97, 116, 116, 114, 105, 98, 117, 116, 101, 115, 95, 95, 4, 0, 0, 15, 6, 202, 8, 95, 95, 100, 105, 99, 116, 95, 95, 4, 0, 0, 16, 6, 204, 11, 95, 95, 119, 101, 97, 107, 114, 101, 102, 95, 95, 4, 0, 0, 17]) 0), (.bool true), (.bool true), (.str (Str.ofString "") 205), (.int 21 0), (.str (Str.mk #[6, 227, 10, 95, 95, 109, 111, 100, 117, 108, 101, 95, 95, 6, 217, 17, 95, 102, 114, 111, 122, 101, 110, 95, 105, 109, 112, 111, 114, 116, 108, 105, 98, 6, 228, 15, 95, 95, 102, 105, 114, 115, 116, 108, 105, 110, 101, 110, 111, 95, 95, 4, 218, 0, 562, 6, 229, 7, 95, 95, 100, 111, 99, 95, 95, 9, 47, 95, 102, 114, 111, 122, 101, 110, 95, 105, 109, 112, 111, 114, 116, 108, 105, 98, 46, 77, 111, 100, 117, 108, 101, 83, 112, 101, 99, 46, 95, 95, 100, 111, 99, 95, 95, 58, 115, 116, 114, 35, 111, 112, 97, 113, 117, 101, 6, 230, 8, 95, 95, 105, 110, 105, 116, 95, 95, 9, 44, 95, 102, 114, 111, 122, 101, 110, 95, 105, 109, 112, 111, 114, 116, 108, 105, 98, 46, 77, 111, 100, 117, 108, 101, 83, 112, 101, 99, 46, 95, 95, 105, 110, 105, 116, 95, 95, 35, 111, 112, 97, 113, 117, 101, 6, 231, 8, 95, 95, 114, 101, 112, 114, 95, 95, 9, 44, 95, 102, 114, 111, 122, 101, 110, 95, 105, 109, 112, 111, 114, 116, 108, 105, 98, 46, 77, 111, 100, 117, 108, 101, 83, 112, 101, 99, 46, 95, 95, 114, 101, 112, 114, 95, 95, 35, 111, 112, 97, 113, 117, 101, 6, 232, 6, 95, 95, 101, 113, 95, 95, 9, 42, 95, 102, 114, 111, 122, 101, 110, 95, 105, 109, 112, 111, 114, 116, 108, 105, 98, 46, 77, 111, 100, 117, 108, 101, 83, 112, 101, 99, 46, 95, 95, 101, 113, 95, 95, 35, 111, 112, 97, 113, 117, 101, 6, 233, 6, 99, 97, 99, 104, 101, 100, 9, 42, 95, 102, 114, 111, 122, 101, 110, 95, 105, 109, 112, 111, 114, 116, 108, 105, 98, 46, 77, 111, 100, 117, 108, 101, 83, 112, 101, 99, 46, 99, 97, 99, 104, 101, 100, 35, 111, 112, 97, 113, 117, 101, 6, 234, 6, 112, 97, 114, 101, 110, 116, 9, 42, 95, 102, 114, 111, 122, 101, 110, 95, 105, 109, 112, 111, 114, 116, 108, 105, 98, 46, 77, 111, 100, 117, 108, 101, 83, 112, 101, 99, 46, 112, 97, 114, 101, 110, 116, 35, 111, 112, 97, 113, 117, 101, 6, 235, 12, 104, 97, 115, 95, 108, 111, 99, 97, 116, 105, 111, 110, 9, 48, 95, 102, 114, 111, 122, 101, 110, 95, 105, 109, 112, 111, 114, 116, 108, 105, 98, 46, 77, 111, 100, 117, 108, 101, 83, 112, 101, 99, 46, 104, 97, 115, 95, 108, 111, 99, 97, 116, 105, 111, 110, 35, 111, 112, 97, 113, 117, 101, 6, 236, 21, 95, 95, 115, 116, 97, 116, 105, 99, 95, 97, 116, 116, 114, 105, 98, 117, 116, 101, 115, 95, 95, 4, 0, 0, 23, 6, 238, 8, 95, 95, 100, 105, 99, 116, 95, 95, 4, 0, 0, 24, 6, 240, 11, 95, 95, 119, 101, 97, 107, 114, 101, 102, 95, 95, 4, 0, 0, 25, 6, 241, 8, 95, 95, 104, 97, 115, 104, 95, 95, 0]) 0), (.bool true), (.bool true), (.str (Str.ofString "") 242)] 1), #[]⟩
noncomputable def o19 (P : Params) : Obj := ⟨(.type "list"), none, (.seq #[] 0), #[]⟩
noncomputable def o20 (P : Params) : Obj := ⟨(.type "dict"), none, (.dict #[dE P "name" 208 (.str (Str.ofString "_sre") 207), dE P "loader" 209 (.ref 14), dE P "origin" 210 (.str (Str.ofString "built-in") 184), dE P "loader_state" 211 .none, dE P "submodule_search_locations" 212 .none, dE P "_uninitialized_submodules" 213 (.ref 19), dE P "_set_fileattr" 214 (.bool false), dE P "_cached" 215 .none, dE P "_initializing" 243 (.bool false)] 9), #[]⟩
noncomputable def o21 (P : Params) : Obj := ⟨(.type "dict"), none, (.dict #[dE P "__module__" 227 (.str (Str.ofString "_frozen_importlib") 217), dE P "__firstlineno__" 228 (.int 562 218), dE P "__doc__" 229 (.builtin "_frozen_importlib.ModuleSpec.__doc__:str#opaque"), dE P "__init__" 230 (.builtin "_frozen_importlib.ModuleSpec.__init__#opaque"), dE P "__repr__" 231 (.builtin "_frozen_importlib.ModuleSpec.__repr__#opaque"), dE P "__eq__" 232 (.builtin "_frozen_importlib.ModuleSpec.__eq__#opaque"), dE P "cached" 233 (.builtin "_frozen_importlib.ModuleSpec.cached#opaque"), dE P "parent" 234 (.builtin "_frozen_importlib.ModuleSpec.parent#opaque"), dE P "has_location" 235 (.builtin "_frozen_importlib.ModuleSpec.has_location#opaque"), dE P "__static_attributes__" 236 (.ref 23), dE P "__dict__" 238 (.ref 24), dE P "__weakref__" 240 (.ref 25), dE P "__hash__" 241 .none] 13), #[]⟩
noncomputable def o22 (P : Params) : Obj := ⟨(.type "type"), none, (.cls ⟨(Str.ofString "ModuleSpec"), [(.type "object")], [(.ref 22), (.type "object")], 21, (Str.ofString "ModuleSpec"), true, [], [], false, none, false⟩), #[]⟩
noncomputable def o23 (P : Params) : Obj := ⟨(.type "tuple"), none, (.seq #[(.str (Str.ofString "_cached") 219), (.str (Str.ofString "_set_fileattr") 220), (.str (Str.ofString "_uninitialized_submodules") 221), (.str (Str.ofString "loader") 222), (.str (Str.ofString "loader_state") 223), (.str (Str.ofString "name") 224), (.str (Str.ofString "origin") 225), (.str (Str.ofString "submodule_search_locations") 226)] 0), #[]⟩
noncomputable def o24 (P : Params) : Obj := ⟨(.type "getset_descriptor"), none, (.fields #[(.str (Str.ofString "__dict__") 237), (.ref 22), (.builtin "function.__dict__"), (.builtin "function.__dict__#set")]), #[]⟩
noncomputable def o25 (P : Params) : Obj := ⟨(.type "getset_descriptor"), none, (.fields #[(.str (Str.ofString "__weakref__") 239), (.ref 22), (.builtin "ExceptionGroup.__weakref__"), .none]), #[]⟩
noncomputable def o26 (P : Params) : Obj := ⟨(.ref 22), (some 20), .plain, #[]⟩
noncomputable def o27 (P : Params) : Obj := ⟨.none, none, (.seq #[(.int 11 0), (.str (Str.mk #[6, 247, 8, 95, 95, 110, 97, 109, 101, 95, 95, 6, 246, 4, 95, 115, 114, 101, 6, 248, 7, 95, 95, 100, 111, 99, 95, 95, 0, 6, 250, 11, 95, 95, 112, 97, 99, 107, 97, 103, 101, 95, 95, 6, 249, 0, 6, 251, 10, 95, 95, 108, 111, 97, 100, 101, 114, 95, 95, 4, 0, 0, 14, 6, 252, 8, 95, 95, 115, 112, 101, 99, 95, 95, 4, 0, 0, 26, 6, 253, 7, 99, 111, 109, 112, 105, 108, 101, 9, 12, 95, 115, 114, 101, 46, 99, 111, 109, 112, 105, 108, 101, 6, 254, 8, 116, 101, 109, 112, 108, 97, 116, 101, 9, 13, 95, 115, 114, 101, 46, 116, 101, 109, 112, 108, 97, 116, 101, 6, 255, 11, 103, 101, 116, 99, 111, 100, 101, 115, 105, 122, 101, 9, 16, 95, 115, 114, 101, 46, 103, 101, 116, 99, 111, 100, 101, 115, 105, 122, 101, 6, 256, 13, 97, 115, 99, 105, 105, 95, 105, 115, 99, 97, 115, 101, 100, 9, 18, 95, 115, 114, 101, 46, 97, 115, 99, 105, 105, 95, 105, 115, 99, 97, 115, 101, 100, 6, 257, 15, 117, 110, 105, 99, 111, 100, 101, 95, 105, 115, 99, 97, 115, 101, 100, 9, 20, 95, 115, 114, 101, 46, 117, 110, 105, 99, 111, 100, 101, 95, 105, 115, 99, 97, 115, 101, 100, 6, 258, 13, 97, 115, 99, 105, 105, 95, 116, 111, 108, 111, 119, 101, 114, 9, 18, 95, 115, 114, 101, 46, 97, 115, 99, 105, 105, 95, 116, 111, 108, 111, 119, 101, 114, 6, 259, 15, 117, 110, 105, 99, 111, 100, 101, 95, 116, 111, 108, 111, 119, 101, 114, 9, 20, 95, 115, 114, 101, 46, 117, 110, 105, 99, 111, 100, 101, 95, 116, 111, 108, 111, 119, 101, 114, 6, 261, 5, 77, 65, 71, 73, 67, 4, 260, 0, 20230612, 6, 263, 8, 67, 79, 68, 69, 83, 73, 90, 69, 4, 262, 0, 4, 6, 265, 9, 77, 65, 88, 82, 69, 80, 69, 65, 84, 4, 264, 0, 4294967295, 6, 267, 9, 77, 65, 88, 71, 82, 79, 85, 80, 83, 4, 266, 0, 1073741823, 6, 269, 9, 99, 111, 112, 121, 114, 105, 103, 104, 116, 6, 268, 53, 32, 83, 82, 69, 32, 50, 46, 50, 46, 50, 32, 67, 111, 112, 121, 114, 105, 103, 104, 116, 32, 40, 99, 41, 32, 49, 57, 57, 55, 45, 50, 48, 48, 50, 32, 98, 121, 32, 83, 101, 99, 114, 101, 116, 32, 76, 97, 98, 115, 32, 65, 66, 32]) 0), (.bool true), (.bool false), (.str (Str.ofString "_sre") 271)] 0), #[]⟩
noncomputable def o11v1 (P : Params) : Obj := ⟨(.type "dict"), none, (.dict #[dE P "__name__" 247 (.str (Str.ofString "_sre") 246), dE P "__doc__" 248 .none, dE P "__package__" 250 (.str (Str.ofString "") 249), dE P "__loader__" 251 (.builtin "off-the-table:_sre.__loader__:shared#opaque"), dE P "__spec__" 252 (.builtin "off-the-table:_sre.__spec__:shared#opaque"), dE P "compile" 253 (.builtin "_sre.compile"), dE P "template" 254 (.builtin "off-the-table:_sre.template:shared#opaque"), dE P "getcodesize" 255 (.builtin "off-the-table:_sre.getcodesize:shared#opaque"), dE P "ascii_iscased" 256 (.builtin "off-the-table:_sre.ascii_iscased:shared#opaque"), dE P "unicode_iscased" 257 (.builtin "off-the-table:_sre.unicode_iscased:shared#opaque"), dE P "ascii_tolower" 258 (.builtin "off-the-table:_sre.ascii_tolower:shared#opaque"), dE P "unicode_tolower" 259 (.builtin "off-the-table:_sre.unicode_tolower:shared#opaque"), dE P "MAGIC" 261 (.int 20230612 260), dE P "CODESIZE" 263 (.int 4 262), dE P "MAXREPEAT" 265 (.int 4294967295 264), dE P "MAXGROUPS" 267 (.int 1073741823 266), ⟨PyData.keyHash P (Str.ofString "copyright"), (.str (Str.ofString "copyright") 269), (.str (Str.ofString " SRE 2.2.2 Copyright (c) 1997-2002 by Secret Labs AB ") 268)⟩] 17), #[]⟩
noncomputable def o28 (P : Params) : Obj := ⟨(.type "tuple"), none, (.seq #[] 0), #[]⟩
noncomputable def o29 (P : Params) : Obj := ⟨.none, none, (.fields #[]), #[]⟩
noncomputable def o30 (P : Params) : Obj := ⟨(.type "code"), none, (.fields #[(.str (Str.ofString "<module>") 277), (.str (Str.ofString "<module>") 278), (.str (Str.ofString "/claim/cut.py") 279), (.int 1 0), (.int 0 0), (.int 0 0), (.int 0 0), (.int 0 0), (.ref 28), (.bool false), (.int 276 0), (.ref 29), .none, .none, .none, .none, (.int 280 0), (.int 1 0), (.str (Str.ofString "/claim/cut.py") 281)]), #[]⟩
noncomputable def o31 (P : Params) : Obj := ⟨(.type "frame"), none, .plain, #[(some (.ref 30)), (some (.ref 3)), (some (.ref 3)), none, (some (.str (Str.ofString "__main__") 164)), none, (some (.ref 0))]⟩
noncomputable def o3v1 (P : Params) : Obj := ⟨(.type "dict"), none, (.dict #[dE P "__name__" 165 (.str (Str.ofString "re") 379), dE P "__doc__" 166 .none, dE P "__package__" 167 .none, dE P "__loader__" 168 (.builtin "__main__.__loader__#opaque"), dE P "__spec__" 169 .none, dE P "__annotations__" 170 (.ref 6), dE P "__builtins__" 171 (.ref 4), dE P "__file__" 173 (.str (Str.ofString "/claim/cut.py") 172), dE P "__cached__" 174 .none, dE P "_sre" 275 (.ref 12), dE P "read_uint1" 291 (.ref 38), dE P "read_string1" 300 (.ref 45), dE P "_Example" 329 (.ref 62), dE P "_twin_re_1" 369 (.ref 71), dE P "translate" 378 (.ref 78)] 15), #[]⟩
noncomputable def o29v1 (P : Params) : Obj := ⟨.none, none, (.fields #[(.int 3 0), (.int 0 0), (.ref 37), (.int 8 0), (.int 0 0), (.ref 44), (.int 15 0), (.int 0 0), (.ref 51), (.int 21 0), (.int 0 0), (.ref 77)]), #[]⟩
noncomputable def o32 (P : Params) : Obj := ⟨(.type "tuple"), none, (.seq #[] 0), #[]⟩
noncomputable def o33 (P : Params) : Obj := ⟨.none, none, (.fields #[]), #[]⟩
noncomputable def o34 (P : Params) : Obj := ⟨(.type "tuple"), none, (.seq #[(.str (Str.ofString "f") 287), (.str (Str.ofString "data") 288)] 0), #[]⟩
noncomputable def o35 (P : Params) : Obj := ⟨(.type "tuple"), none, (.seq #[] 0), #[]⟩
noncomputable def o36 (P : Params) : Obj := ⟨.none, none, (.func ⟨(Str.ofString "read_uint1"), (Str.ofString "read_uint1"), argsOf (st 2), .stmts (bodyOf (st 2)), scopeOf (st 2), 0, [], .none, .none, .none, .none, none, .none, .none, 0⟩), #[]⟩
noncomputable def o37 (P : Params) : Obj := ⟨(.type "code"), none, (.fields #[(.str (Str.ofString "read_uint1") 284), (.str (Str.ofString "read_uint1") 285), (.str (Str.ofString "/claim/cut.py") 286), (.int 3 0), (.int 1 0), (.int 0 0), (.int 0 0), (.int 3 0), (.ref 32), (.bool true), (.int 276 0), (.ref 33), .none, (.ref 34), (.ref 35), (.ref 36), (.int 289 0), (.int 3 0), (.str (Str.ofString "/claim/cut.py") 290)]), #[]⟩
noncomputable def o38 (P : Params) : Obj := ⟨(.type "function"), none, (.func ⟨(Str.ofString "read_uint1"), (Str.ofString "read_uint1"), argsOf (st 2), .stmts (bodyOf (st 2)), scopeOf (st 2), 3, [], .none, .none, .none, (.str (Str.ofString "cpy313.pickletools") 282), none, (.ref 37), .none, 0⟩), #[]⟩
noncomputable def o39 (P : Params) : Obj := ⟨(.type "tuple"), none, (.seq #[] 0), #[]⟩
noncomputable def o40 (P : Params) : Obj := ⟨.none, none, (.fields #[]), #[]⟩
noncomputable def o41 (P : Params) : Obj := ⟨(.type "tuple"), none, (.seq #[(.str (Str.ofString "f") 295), (.str (Str.ofString "n") 296), (.str (Str.ofString "data") 297)] 0), #[]⟩
noncomputable def o42 (P : Params) : Obj := ⟨(.type "tuple"), none, (.seq #[] 0), #[]⟩
noncomputable def o43 (P : Params) : Obj := ⟨.none, none, (.func ⟨(Str.ofString "read_string1"), (Str.ofString "read_string1"), argsOf (st 3), .stmts (bodyOf (st 3)), scopeOf (st 3), 0, [], .none, .none, .none, .none, none, .none, .none, 0⟩), #[]⟩
noncomputable def o44 (P : Params) : Obj := ⟨(.type "code"), none, (.fields #[(.str (Str.ofString "read_string1") 292), (.str (Str.ofString "read_string1") 293), (.str (Str.ofString "/claim/cut.py") 294), (.int 8 0), (.int 1 0), (.int 0 0), (.int 0 0), (.int 3 0), (.ref 39), (.bool true), (.int 276 0), (.ref 40), .none, (.ref 41), (.ref 42), (.ref 43), (.int 298 0), (.int 8 0), (.str (Str.ofString "/claim/cut.py") 299)]), #[]⟩
noncomputable def o45 (P : Params) : Obj := ⟨(.type "function"), none, (.func ⟨(Str.ofString "read_string1"), (Str.ofString "read_string1"), argsOf (st 3), .stmts (bodyOf (st 3)), scopeOf (st 3), 3, [], .none, .none, .none, (.str (Str.ofString "cpy313.pickletools") 282), none, (.ref 44), .none, 0⟩), #[]⟩
noncomputable def o46 (P : Params) : Obj := ⟨(.type "tuple"), none, (.seq #[] 0), #[]⟩
noncomputable def o47 (P : Params) : Obj := ⟨(.type "builtin_function_or_method"), none, (.fields #[(.builtin "type.__prepare__"), (.type "type")]), #[]⟩
noncomputable def o48 (P : Params) : Obj := ⟨(.type "dict"), none, (.dict #[dE P "__module__" 308 (.str (Str.ofString "cpy313.pickletools") 282), dE P "__qualname__" 310 (.str (Str.ofString "_Example") 309), dE P "__firstlineno__" 312 (.int 15 311), dE P "__init__" 320 (.ref 59), dE P "__static_attributes__" 322 (.ref 60)] 5), #[]⟩
noncomputable def o49 (P : Params) : Obj := ⟨(.type "tuple"), none, (.seq #[] 0), #[]⟩
noncomputable def o50 (P : Params) : Obj := ⟨.none, none, (.fields #[(.int 17 0), (.int 4 0), (.ref 58)]), #[]⟩
noncomputable def o51 (P : Params) : Obj := ⟨(.type "code"), none, (.fields #[(.str (Str.ofString "_Example") 303), (.str (Str.ofString "_Example") 304), (.str (Str.ofString "/claim/cut.py") 305), (.int 15 0), (.int 0 0), (.int 0 0), (.int 0 0), (.int 0 0), (.ref 49), (.bool false), (.int 276 0), (.ref 50), .none, .none, .none, .none, (.int 306 0), (.int 15 0), (.str (Str.ofString "/claim/cut.py") 307)]), #[]⟩
noncomputable def o52 (P : Params) : Obj := ⟨(.type "frame"), none, .plain, #[(some (.ref 51)), (some (.ref 3)), (some (.ref 48)), none, (some (.str (Str.ofString "cpy313.pickletools") 282)), none, (some (.ref 0))]⟩
noncomputable def o53 (P : Params) : Obj := ⟨(.type "tuple"), none, (.seq #[] 0), #[]⟩
noncomputable def o54 (P : Params) : Obj := ⟨.none, none, (.fields #[]), #[]⟩
noncomputable def o55 (P : Params) : Obj := ⟨(.type "tuple"), none, (.seq #[(.str (Str.ofString "self") 316), (.str (Str.ofString "value") 317)] 0), #[]⟩
noncomputable def o56 (P : Params) : Obj := ⟨(.type "tuple"), none, (.seq #[] 0), #[]⟩
noncomputable def o57 (P : Params) : Obj := ⟨.none, none, (.func ⟨(Str.ofString "__init__"), (Str.ofString "_Example.__init__"), argsOf (inCls (st 4) 0), .stmts (bodyOf (inCls (st 4) 0)), scopeOf (inCls (st 4) 0), 0, [], .none, .none, .none, .none, none, .none, .none, 0⟩), #[]⟩
noncomputable def o58 (P : Params) : Obj := ⟨(.type "code"), none, (.fields #[(.str (Str.ofString "__init__") 313), (.str (Str.ofString "_Example.__init__") 314), (.str (Str.ofString "/claim/cut.py") 315), (.int 17 0), (.int 2 0), (.int 0 0), (.int 0 0), (.int 3 0), (.ref 53), (.bool true), (.int 276 0), (.ref 54), .none, (.ref 55), (.ref 56), (.ref 57), (.int 318 0), (.int 17 0), (.str (Str.ofString "/claim/cut.py") 319)]), #[]⟩
noncomputable def o59 (P : Params) : Obj := ⟨(.type "function"), none, (.func ⟨(Str.ofString "__init__"), (Str.ofString "_Example.__init__"), argsOf (inCls (st 4) 0), .stmts (bodyOf (inCls (st 4) 0)), scopeOf (inCls (st 4) 0), 3, [], .none, .none, .none, (.str (Str.ofString "cpy313.pickletools") 282), none, (.ref 58), .none, 0⟩), #[]⟩
noncomputable def o60 (P : Params) : Obj := ⟨(.type "tuple"), none, (.seq #[(.str (Str.ofString "value") 321)] 0), #[]⟩
noncomputable def o61 (P : Params) : Obj := ⟨(.type "dict"), none, (.dict #[dE P "__module__" 308 (.str (Str.ofString "cpy313.pickletools") 282), dE P "__firstlineno__" 312 (.int 15 311), dE P "__init__" 320 (.ref 59), dE P "__static_attributes__" 322 (.ref 60), dE P "__dict__" 324 (.ref 63), dE P "__weakref__" 326 (.ref 64), dE P "__doc__" 327 .none] 4), #[]⟩
noncomputable def o62 (P : Params) : Obj := ⟨(.type "type"), none, (.cls ⟨(Str.ofString "_Example"), [(.type "object")], [(.ref 62), (.type "object")], 61, (Str.ofString "_Example"), true, [], [], false, none, false⟩), #[none, none, (some (.str (Str.ofString "_Example") 301)), (some (.str (Str.ofString "_Example") 309)), (some (.builtin "object.__new__")), (some (.bool true))]⟩
noncomputable def o63 (P : Params) : Obj := ⟨(.type "getset_descriptor"), none, (.fields #[(.str (Str.ofString "__dict__") 323), (.ref 62), (.builtin "function.__dict__"), (.builtin "function.__dict__#set")]), #[]⟩
noncomputable def o64 (P : Params) : Obj := ⟨(.type "getset_descriptor"), none, (.fields #[(.str (Str.ofString "__weakref__") 325), (.ref 62), (.builtin "ExceptionGroup.__weakref__"), .none]), #[]⟩
noncomputable def o65 (P : Params) : Obj := ⟨(.type "super"), none, (.fields #[(.ref 62), (.ref 62), (.ref 62)]), #[]⟩
noncomputable def o66 (P : Params) : Obj := ⟨(.type "builtin_function_or_method"), none, (.fields #[(.builtin "object.__init_subclass__"), (.ref 62)]), #[]⟩
noncomputable def o67 (P : Params) : Obj := ⟨(.type "list"), none, (.seq #[(.int 14 335), (.int 14 336), (.int 4 337), (.int 1 338), (.int 1 339), (.int 9 340), (.int 0 341), (.int 64 342), (.int 0 343), (.int 1342177280 344), (.int 0 345), (.int 0 346), (.int 0 347), (.int 0 348), (.int 0 349), (.int 17 350), (.int 0 351), (.int 13 352), (.int 11 353), (.int 9 354), (.int 0 355), (.int 64 356), (.int 0 357), (.int 1342177280 358), (.int 0 359), (.int 0 360), (.int 0 361), (.int 0 362), (.int 0 363), (.int 17 364), (.int 1 365), (.int 1 366)] 0), #[]⟩
noncomputable def o68 (P : Params) : Obj := ⟨(.type "dict"), none, (.dict #[] 0), #[]⟩
noncomputable def o69 (P : Params) : Obj := ⟨(.type "tuple"), none, (.seq #[.none, .none] 0), #[]⟩
noncomputable def o70 (P : Params) : Obj := ⟨(.type "tuple"), none, (.seq #[(.int 14 0), (.int 14 0), (.int 4 0), (.int 1 0), (.int 1 0), (.int 9 0), (.int 0 0), (.int 64 0), (.int 0 0), (.int 1342177280 0), (.int 0 0), (.int 0 0), (.int 0 0), (.int 0 0), (.int 0 0), (.int 17 0), (.int 0 0), (.int 13 0), (.int 11 0), (.int 9 0), (.int 0 0), (.int 64 0), (.int 0 0), (.int 1342177280 0), (.int 0 0), (.int 0 0), (.int 0 0), (.int 0 0), (.int 0 0), (.int 17 0), (.int 1 0), (.int 1 0)] 0), #[]⟩
noncomputable def o71 (P : Params) : Obj := ⟨(.type "re.Pattern"), none, (.fields #[(.str (Str.ofString "([&~|])") 333), (.int 32 368), (.int 1 0), .none, .none, (.ref 70), (.int 0 0)]), #[]⟩
noncomputable def o72 (P : Params) : Obj := ⟨(.type "tuple"), none, (.seq #[] 0), #[]⟩
noncomputable def o73 (P : Params) : Obj := ⟨.none, none, (.fields #[]), #[]⟩
noncomputable def o74 (P : Params) : Obj := ⟨(.type "tuple"), none, (.seq #[(.str (Str.ofString "pat") 373), (.str (Str.ofString "STAR") 374), (.str (Str.ofString "parts") 375)] 0), #[]⟩
noncomputable def o75 (P : Params) : Obj := ⟨(.type "tuple"), none, (.seq #[] 0), #[]⟩
noncomputable def o76 (P : Params) : Obj := ⟨.none, none, (.func ⟨(Str.ofString "translate"), (Str.ofString "translate"), argsOf (st 7), .stmts (bodyOf (st 7)), scopeOf (st 7), 0, [], .none, .none, .none, .none, none, .none, .none, 0⟩), #[]⟩
noncomputable def o77 (P : Params) : Obj := ⟨(.type "code"), none, (.fields #[(.str (Str.ofString "translate") 370), (.str (Str.ofString "translate") 371), (.str (Str.ofString "/claim/cut.py") 372), (.int 21 0), (.int 1 0), (.int 0 0), (.int 0 0), (.int 3 0), (.ref 72), (.bool true), (.int 276 0), (.ref 73), .none, (.ref 74), (.ref 75), (.ref 76), (.int 376 0), (.int 21 0), (.str (Str.ofString "/claim/cut.py") 377)]), #[]⟩
noncomputable def o78 (P : Params) : Obj := ⟨(.type "function"), none, (.func ⟨(Str.ofString "translate"), (Str.ofString "translate"), argsOf (st 7), .stmts (bodyOf (st 7)), scopeOf (st 7), 3, [], .none, .none, .none, (.str (Str.ofString "cpy313.fnmatch") 330), none, (.ref 77), .none, 0⟩), #[]⟩
noncomputable def o3v2 (P : Params) : Obj := ⟨(.type "dict"), none, (.dict #[dE P "__name__" 165 (.str (Str.ofString "re") 379), dE P "__doc__" 166 .none, dE P "__package__" 167 .none, dE P "__loader__" 168 (.builtin "__main__.__loader__#opaque"), dE P "__spec__" 169 .none, dE P "__annotations__" 170 (.ref 6), dE P "__builtins__" 171 (.ref 4), dE P "__file__" 173 (.str (Str.ofString "/claim/cut.py") 172), dE P "__cached__" 174 .none, dE P "_sre" 275 (.ref 12), dE P "read_uint1" 291 (.ref 38), dE P "read_string1" 300 (.ref 45), dE P "_Example" 329 (.ref 62), dE P "_twin_re_1" 369 (.ref 71), dE P "translate" 378 (.ref 78), dE P "_special_chars_map" 526 (.ref 80)] 16), #[]⟩
noncomputable def o79 (P : Params) : Obj := ⟨(.type "bytes_iterator"), none, (.fields #[.none, (.int 24 0)]), #[]⟩
noncomputable def o80 (P : Params) : Obj := ⟨(.type "dict"), none, (.dict #[⟨40, (.int 40 382), (.str (Str.mk #[92, 40]) 386)⟩, ⟨41, (.int 41 388), (.str (Str.mk #[92, 41]) 392)⟩, ⟨91, (.int 91 394), (.str (Str.mk #[92, 91]) 398)⟩, ⟨93, (.int 93 400), (.str (Str.mk #[92, 93]) 404)⟩, ⟨123, (.int 123 406), (.str (Str.mk #[92, 123]) 410)⟩, ⟨125, (.int 125 412), (.str (Str.mk #[92, 125]) 416)⟩, ⟨63, (.int 63 418), (.str (Str.mk #[92, 63]) 422)⟩, ⟨42, (.int 42 424), (.str (Str.mk #[92, 42]) 428)⟩, ⟨43, (.int 43 430), (.str (Str.mk #[92, 43]) 434)⟩, ⟨45, (.int 45 436), (.str (Str.mk #[92, 45]) 440)⟩, ⟨124, (.int 124 442), (.str (Str.mk #[92, 124]) 446)⟩, ⟨94, (.int 94 448), (.str (Str.mk #[92, 94]) 452)⟩, ⟨36, (.int 36 454), (.str (Str.mk #[92, 36]) 458)⟩, ⟨92, (.int 92 460), (.str (Str.mk #[92, 92]) 464)⟩, ⟨46, (.int 46 466), (.str (Str.mk #[92, 46]) 470)⟩, ⟨38, (.int 38 472), (.str (Str.mk #[92, 38]) 476)⟩, ⟨126, (.int 126 478), (.str (Str.mk #[92, 126]) 482)⟩, ⟨35, (.int 35 484), (.str (Str.mk #[92, 35]) 488)⟩, ⟨32, (.int 32 490), (.str (Str.mk #[92, 32]) 494)⟩, ⟨9, (.int 9 496), (.str (Str.mk #[92, 9]) 500)⟩, ⟨10, (.int 10 502), (.str (Str.mk #[92, 10]) 506)⟩, ⟨13, (.int 13 508), (.str (Str.mk #[92, 13]) 512)⟩, ⟨11, (.int 11 514), (.str (Str.mk #[92, 11]) 518)⟩, ⟨12, (.int 12 520), (.str (Str.mk #[92, 12]) 524)⟩] 24), #[]⟩
noncomputable def o81 (P : Params) : Obj := ⟨(.type "dict"), none, (.dict #[] 2), #[]⟩
noncomputable def o82 (P : Params) : Obj := ⟨(.type "tuple"), none, (.seq #[] 0), #[]⟩
noncomputable def o83 (P : Params) : Obj := ⟨(.type "StopIteration"), none, (.fields #[(.ref 82), .none, .none, .none, (.bool false), .none]), #[]⟩
noncomputable def o3v3 (P : Params) : Obj := ⟨(.type "dict"), none, (.dict #[dE P "__name__" 165 (.str (Str.ofString "law_rx0055_01") 653), dE P "__doc__" 166 .none, dE P "__package__" 167 .none, dE P "__loader__" 168 (.builtin "__main__.__loader__#opaque"), dE P "__spec__" 169 .none, dE P "__annotations__" 170 (.ref 6), dE P "__builtins__" 171 (.ref 4), dE P "__file__" 173 (.str (Str.ofString "/claim/cut.py") 172), dE P "__cached__" 174 .none, dE P "_sre" 275 (.ref 12), dE P "read_uint1" 291 (.ref 38), dE P "read_string1" 300 (.ref 45), dE P "_Example" 329 (.ref 62), dE P "_twin_re_1" 369 (.ref 71), dE P "translate" 378 (.ref 78), dE P "_special_chars_map" 526 (.ref 80), dE P "escape" 533 (.ref 90), dE P "_translate" 554 (.ref 97), dE P "_join_translated_parts" 567 (.ref 104), dE P "S_IFMT" 576 (.ref 111), dE P "S_IFDIR" 578 (.int 16384 577), dE P "S_IFCHR" 580 (.int 8192 579), dE P "S_IFBLK" 582 (.int 24576 581), dE P "S_IFREG" 584 (.int 32768 583), dE P "S_IFIFO" 586 (.int 4096 585), dE P "S_IFLNK" 588 (.int 40960 587), dE P "S_IFSOCK" 590 (.int 49152 589), dE P "S_ISUID" 592 (.int 2048 591), dE P "S_ISGID" 594 (.int 1024 593), dE P "S_ISVTX" 596 (.int 512 595), dE P "S_IRUSR" 598 (.int 256 597), dE P "S_IWUSR" 600 (.int 128 599), dE P "S_IXUSR" 602 (.int 64 601), dE P "S_IRGRP" 604 (.int 32 603), dE P "S_IWGRP" 606 (.int 16 605), dE P "S_IXGRP" 608 (.int 8 607), dE P "S_IROTH" 610 (.int 4 609), dE P "S_IWOTH" 612 (.int 2 611), dE P "S_IXOTH" 614 (.int 1 613), dE P "_filemode_table" 640 (.ref 144), dE P "filemode" 652 (.ref 151), dE P "_law_stream" 665 (.ref 158), dE P "_law_row" 676 (.ref 165), dE P "_law_opens" 687 (.ref 172), dE P "_law_write" 693 (.ref 177), dE P "_law_unpack" 704 (.ref 184), dE P "law" 710 (.ref 189)] 47), #[]⟩
noncomputable def o29v2 (P : Params) : Obj := ⟨.none, none, (.fields #[(.int 3 0), (.int 0 0), (.ref 37), (.int 8 0), (.int 0 0), (.ref 44), (.int 15 0), (.int 0 0), (.ref 51), (.int 21 0), (.int 0 0), (.ref 77), (.int 27 0), (.int 0 0), (.ref 89), (.int 34 0), (.int 0 0), (.ref 96), (.int 96 0), (.int 0 0), (.ref 103), (.int 124 0), (.int 0 0), (.ref 110), (.int 146 0), (.int 0 0), (.ref 150), (.int 164 0), (.int 0 0), (.ref 157), (.int 174 0), (.int 0 0), (.ref 164), (.int 181 0), (.int 0 0), (.ref 171), (.int 198 0), (.int 0 0), (.ref 176), (.int 208 0), (.int 0 0), (.ref 183), (.int 219 0), (.int 0 0), (.ref 188)]), #[]⟩
noncomputable def o84 (P : Params) : Obj := ⟨(.type "tuple"), none, (.seq #[] 0), #[]⟩
noncomputable def o85 (P : Params) : Obj := ⟨.none, none, (.fields #[]), #[]⟩
noncomputable def o86 (P : Params) : Obj := ⟨(.type "tuple"), none, (.seq #[(.str (Str.ofString "pattern") 530)] 0), #[]⟩
noncomputable def o87 (P : Params) : Obj := ⟨(.type "tuple"), none, (.seq #[] 0), #[]⟩
noncomputable def o88 (P : Params) : Obj := ⟨.none, none, (.func ⟨(Str.ofString "escape"), (Str.ofString "escape"), argsOf (st 10), .stmts (bodyOf (st 10)), scopeOf (st 10), 0, [], .none, .none, .none, .none, none, .none, .none, 0⟩), #[]⟩
noncomputable def o89 (P : Params) : Obj := ⟨(.type "code"), none, (.fields #[(.str (Str.ofString "escape") 527), (.str (Str.ofString "escape") 528), (.str (Str.ofString "/claim/cut.py") 529), (.int 27 0), (.int 1 0), (.int 0 0), (.int 0 0), (.int 3 0), (.ref 84), (.bool true), (.int 276 0), (.ref 85), .none, (.ref 86), (.ref 87), (.ref 88), (.int 531 0), (.int 27 0), (.str (Str.ofString "/claim/cut.py") 532)]), #[]⟩
noncomputable def o90 (P : Params) : Obj := ⟨(.type "function"), none, (.func ⟨(Str.ofString "escape"), (Str.ofString "escape"), argsOf (st 10), .stmts (bodyOf (st 10)), scopeOf (st 10), 3, [], .none, .none, .none, (.str (Str.ofString "re") 379), none, (.ref 89), .none, 0⟩), #[]⟩
noncomputable def o91 (P : Params) : Obj := ⟨(.type "tuple"), none, (.seq #[] 0), #[]⟩
noncomputable def o92 (P : Params) : Obj := ⟨.none, none, (.fields #[]), #[]⟩
noncomputable def o93 (P : Params) : Obj := ⟨(.type "tuple"), none, (.seq #[(.str (Str.ofString "pat") 539), (.str (Str.ofString "STAR") 540), (.str (Str.ofString "QUESTION_MARK") 541), (.str (Str.ofString "res") 542), (.str (Str.ofString "add") 543), (.str (Str.ofString "i") 544), (.str (Str.ofString "n") 545), (.str (Str.ofString "c") 546), (.str (Str.ofString "j") 547), (.str (Str.ofString "stuff") 548), (.str (Str.ofString "chunks") 549), (.str (Str.ofString "k") 550), (.str (Str.ofString "chunk") 551)] 0), #[]⟩
noncomputable def o94 (P : Params) : Obj := ⟨(.type "tuple"), none, (.seq #[] 0), #[]⟩
noncomputable def o95 (P : Params) : Obj := ⟨.none, none, (.func ⟨(Str.ofString "_translate"), (Str.ofString "_translate"), argsOf (st 12), .stmts (bodyOf (st 12)), scopeOf (st 12), 0, [], .none, .none, .none, .none, none, .none, .none, 0⟩), #[]⟩
noncomputable def o96 (P : Params) : Obj := ⟨(.type "code"), none, (.fields #[(.str (Str.ofString "_translate") 536), (.str (Str.ofString "_translate") 537), (.str (Str.ofString "/claim/cut.py") 538), (.int 34 0), (.int 3 0), (.int 0 0), (.int 0 0), (.int 3 0), (.ref 91), (.bool true), (.int 276 0), (.ref 92), .none, (.ref 93), (.ref 94), (.ref 95), (.int 552 0), (.int 34 0), (.str (Str.ofString "/claim/cut.py") 553)]), #[]⟩
noncomputable def o97 (P : Params) : Obj := ⟨(.type "function"), none, (.func ⟨(Str.ofString "_translate"), (Str.ofString "_translate"), argsOf (st 12), .stmts (bodyOf (st 12)), scopeOf (st 12), 3, [], .none, .none, .none, (.str (Str.ofString "cpy313.fnmatch") 534), none, (.ref 96), .none, 0⟩), #[]⟩
noncomputable def o98 (P : Params) : Obj := ⟨(.type "tuple"), none, (.seq #[] 0), #[]⟩
noncomputable def o99 (P : Params) : Obj := ⟨.none, none, (.fields #[]), #[]⟩
noncomputable def o100 (P : Params) : Obj := ⟨(.type "tuple"), none, (.seq #[(.str (Str.ofString "inp") 558), (.str (Str.ofString "STAR") 559), (.str (Str.ofString "res") 560), (.str (Str.ofString "add") 561), (.str (Str.ofString "i") 562), (.str (Str.ofString "n") 563), (.str (Str.ofString "fixed") 564)] 0), #[]⟩
noncomputable def o101 (P : Params) : Obj := ⟨(.type "tuple"), none, (.seq #[] 0), #[]⟩
noncomputable def o102 (P : Params) : Obj := ⟨.none, none, (.func ⟨(Str.ofString "_join_translated_parts"), (Str.ofString "_join_translated_parts"), argsOf (st 13), .stmts (bodyOf (st 13)), scopeOf (st 13), 0, [], .none, .none, .none, .none, none, .none, .none, 0⟩), #[]⟩
noncomputable def o103 (P : Params) : Obj := ⟨(.type "code"), none, (.fields #[(.str (Str.ofString "_join_translated_parts") 555), (.str (Str.ofString "_join_translated_parts") 556), (.str (Str.ofString "/claim/cut.py") 557), (.int 96 0), (.int 2 0), (.int 0 0), (.int 0 0), (.int 3 0), (.ref 98), (.bool true), (.int 276 0), (.ref 99), .none, (.ref 100), (.ref 101), (.ref 102), (.int 565 0), (.int 96 0), (.str (Str.ofString "/claim/cut.py") 566)]), #[]⟩
noncomputable def o104 (P : Params) : Obj := ⟨(.type "function"), none, (.func ⟨(Str.ofString "_join_translated_parts"), (Str.ofString "_join_translated_parts"), argsOf (st 13), .stmts (bodyOf (st 13)), scopeOf (st 13), 3, [], .none, .none, .none, (.str (Str.ofString "cpy313.fnmatch") 534), none, (.ref 103), .none, 0⟩), #[]⟩
noncomputable def o105 (P : Params) : Obj := ⟨(.type "tuple"), none, (.seq #[] 0), #[]⟩
noncomputable def o106 (P : Params) : Obj := ⟨.none, none, (.fields #[]), #[]⟩
noncomputable def o107 (P : Params) : Obj := ⟨(.type "tuple"), none, (.seq #[(.str (Str.ofString "mode") 573)] 0), #[]⟩
noncomputable def o108 (P : Params) : Obj := ⟨(.type "tuple"), none, (.seq #[] 0), #[]⟩
noncomputable def o109 (P : Params) : Obj := ⟨.none, none, (.func ⟨(Str.ofString "S_IFMT"), (Str.ofString "S_IFMT"), argsOf (st 15), .stmts (bodyOf (st 15)), scopeOf (st 15), 0, [], .none, .none, .none, .none, none, .none, .none, 0⟩), #[]⟩
noncomputable def o110 (P : Params) : Obj := ⟨(.type "code"), none, (.fields #[(.str (Str.ofString "S_IFMT") 570), (.str (Str.ofString "S_IFMT") 571), (.str (Str.ofString "/claim/cut.py") 572), (.int 124 0), (.int 1 0), (.int 0 0), (.int 0 0), (.int 3 0), (.ref 105), (.bool true), (.int 276 0), (.ref 106), .none, (.ref 107), (.ref 108), (.ref 109), (.int 574 0), (.int 124 0), (.str (Str.ofString "/claim/cut.py") 575)]), #[]⟩
noncomputable def o111 (P : Params) : Obj := ⟨(.type "function"), none, (.func ⟨(Str.ofString "S_IFMT"), (Str.ofString "S_IFMT"), argsOf (st 15), .stmts (bodyOf (st 15)), scopeOf (st 15), 3, [], .none, .none, .none, (.str (Str.ofString "cpy313.stat") 568), none, (.ref 110), .none, 0⟩), #[]⟩
noncomputable def o112 (P : Params) : Obj := ⟨(.type "tuple"), none, (.seq #[(.int 40960 587), (.str (Str.ofString "l") 615)] 0), #[]⟩
noncomputable def o113 (P : Params) : Obj := ⟨(.type "tuple"), none, (.seq #[(.int 49152 589), (.str (Str.ofString "s") 616)] 0), #[]⟩
noncomputable def o114 (P : Params) : Obj := ⟨(.type "tuple"), none, (.seq #[(.int 32768 583), (.str (Str.ofString "-") 617)] 0), #[]⟩
noncomputable def o115 (P : Params) : Obj := ⟨(.type "tuple"), none, (.seq #[(.int 24576 581), (.str (Str.ofString "b") 618)] 0), #[]⟩
noncomputable def o116 (P : Params) : Obj := ⟨(.type "tuple"), none, (.seq #[(.int 16384 577), (.str (Str.ofString "d") 619)] 0), #[]⟩
noncomputable def o117 (P : Params) : Obj := ⟨(.type "tuple"), none, (.seq #[(.int 8192 579), (.str (Str.ofString "c") 620)] 0), #[]⟩
noncomputable def o118 (P : Params) : Obj := ⟨(.type "tuple"), none, (.seq #[(.int 4096 585), (.str (Str.ofString "p") 621)] 0), #[]⟩
noncomputable def o119 (P : Params) : Obj := ⟨(.type "tuple"), none, (.seq #[(.ref 112), (.ref 113), (.ref 114), (.ref 115), (.ref 116), (.ref 117), (.ref 118)] 0), #[]⟩
noncomputable def o120 (P : Params) : Obj := ⟨(.type "tuple"), none, (.seq #[(.int 256 597), (.str (Str.ofString "r") 622)] 0), #[]⟩
noncomputable def o121 (P : Params) : Obj := ⟨(.type "tuple"), none, (.seq #[(.ref 120)] 0), #[]⟩
noncomputable def o122 (P : Params) : Obj := ⟨(.type "tuple"), none, (.seq #[(.int 128 599), (.str (Str.ofString "w") 623)] 0), #[]⟩
noncomputable def o123 (P : Params) : Obj := ⟨(.type "tuple"), none, (.seq #[(.ref 122)] 0), #[]⟩
noncomputable def o124 (P : Params) : Obj := ⟨(.type "tuple"), none, (.seq #[(.int 2112 624), (.str (Str.ofString "s") 625)] 0), #[]⟩
noncomputable def o125 (P : Params) : Obj := ⟨(.type "tuple"), none, (.seq #[(.int 2048 591), (.str (Str.ofString "S") 626)] 0), #[]⟩
noncomputable def o126 (P : Params) : Obj := ⟨(.type "tuple"), none, (.seq #[(.int 64 601), (.str (Str.ofString "x") 627)] 0), #[]⟩
noncomputable def o127 (P : Params) : Obj := ⟨(.type "tuple"), none, (.seq #[(.ref 124), (.ref 125), (.ref 126)] 0), #[]⟩
noncomputable def o128 (P : Params) : Obj := ⟨(.type "tuple"), none, (.seq #[(.int 32 603), (.str (Str.ofString "r") 628)] 0), #[]⟩
noncomputable def o129 (P : Params) : Obj := ⟨(.type "tuple"), none, (.seq #[(.ref 128)] 0), #[]⟩
noncomputable def o130 (P : Params) : Obj := ⟨(.type "tuple"), none, (.seq #[(.int 16 605), (.str (Str.ofString "w") 629)] 0), #[]⟩
noncomputable def o131 (P : Params) : Obj := ⟨(.type "tuple"), none, (.seq #[(.ref 130)] 0), #[]⟩
noncomputable def o132 (P : Params) : Obj := ⟨(.type "tuple"), none, (.seq #[(.int 1032 630), (.str (Str.ofString "s") 631)] 0), #[]⟩
noncomputable def o133 (P : Params) : Obj := ⟨(.type "tuple"), none, (.seq #[(.int 1024 593), (.str (Str.ofString "S") 632)] 0), #[]⟩
noncomputable def o134 (P : Params) : Obj := ⟨(.type "tuple"), none, (.seq #[(.int 8 607), (.str (Str.ofString "x") 633)] 0), #[]⟩
noncomputable def o135 (P : Params) : Obj := ⟨(.type "tuple"), none, (.seq #[(.ref 132), (.ref 133), (.ref 134)] 0), #[]⟩
noncomputable def o136 (P : Params) : Obj := ⟨(.type "tuple"), none, (.seq #[(.int 4 609), (.str (Str.ofString "r") 634)] 0), #[]⟩
noncomputable def o137 (P : Params) : Obj := ⟨(.type "tuple"), none, (.seq #[(.ref 136)] 0), #[]⟩
noncomputable def o138 (P : Params) : Obj := ⟨(.type "tuple"), none, (.seq #[(.int 2 611), (.str (Str.ofString "w") 635)] 0), #[]⟩
noncomputable def o139 (P : Params) : Obj := ⟨(.type "tuple"), none, (.seq #[(.ref 138)] 0), #[]⟩
noncomputable def o140 (P : Params) : Obj := ⟨(.type "tuple"), none, (.seq #[(.int 513 636), (.str (Str.ofString "t") 637)] 0), #[]⟩
noncomputable def o141 (P : Params) : Obj := ⟨(.type "tuple"), none, (.seq #[(.int 512 595), (.str (Str.ofString "T") 638)] 0), #[]⟩
noncomputable def o142 (P : Params) : Obj := ⟨(.type "tuple"), none, (.seq #[(.int 1 613), (.str (Str.ofString "x") 639)] 0), #[]⟩
noncomputable def o143 (P : Params) : Obj := ⟨(.type "tuple"), none, (.seq #[(.ref 140), (.ref 141), (.ref 142)] 0), #[]⟩
noncomputable def o144 (P : Params) : Obj := ⟨(.type "tuple"), none, (.seq #[(.ref 119), (.ref 121), (.ref 123), (.ref 127), (.ref 129), (.ref 131), (.ref 135), (.ref 137), (.ref 139), (.ref 143)] 0), #[]⟩
noncomputable def o145 (P : Params) : Obj := ⟨(.type "tuple"), none, (.seq #[] 0), #[]⟩
noncomputable def o146 (P : Params) : Obj := ⟨.none, none, (.fields #[]), #[]⟩
noncomputable def o147 (P : Params) : Obj := ⟨(.type "tuple"), none, (.seq #[(.str (Str.ofString "mode") 644), (.str (Str.ofString "perm") 645), (.str (Str.ofString "index") 646), (.str (Str.ofString "table") 647), (.str (Str.ofString "bit") 648), (.str (Str.ofString "char") 649)] 0), #[]⟩
noncomputable def o148 (P : Params) : Obj := ⟨(.type "tuple"), none, (.seq #[] 0), #[]⟩
noncomputable def o149 (P : Params) : Obj := ⟨.none, none, (.func ⟨(Str.ofString "filemode"), (Str.ofString "filemode"), argsOf (st 36), .stmts (bodyOf (st 36)), scopeOf (st 36), 0, [], .none, .none, .none, .none, none, .none, .none, 0⟩), #[]⟩
noncomputable def o150 (P : Params) : Obj := ⟨(.type "code"), none, (.fields #[(.str (Str.ofString "filemode") 641), (.str (Str.ofString "filemode") 642), (.str (Str.ofString "/claim/cut.py") 643), (.int 146 0), (.int 1 0), (.int 0 0), (.int 0 0), (.int 3 0), (.ref 145), (.bool true), (.int 276 0), (.ref 146), .none, (.ref 147), (.ref 148), (.ref 149), (.int 650 0), (.int 146 0), (.str (Str.ofString "/claim/cut.py") 651)]), #[]⟩
noncomputable def o151 (P : Params) : Obj := ⟨(.type "function"), none, (.func ⟨(Str.ofString "filemode"), (Str.ofString "filemode"), argsOf (st 36), .stmts (bodyOf (st 36)), scopeOf (st 36), 3, [], .none, .none, .none, (.str (Str.ofString "cpy313.stat") 568), none, (.ref 150), .none, 0⟩), #[]⟩
noncomputable def o152 (P : Params) : Obj := ⟨(.type "tuple"), none, (.seq #[] 0), #[]⟩
noncomputable def o153 (P : Params) : Obj := ⟨.none, none, (.fields #[]), #[]⟩
noncomputable def o154 (P : Params) : Obj := ⟨(.type "tuple"), none, (.seq #[(.str (Str.ofString "octets") 658), (.str (Str.ofString "_law_read") 659), (.str (Str.ofString "stream") 660)] 0), #[]⟩
noncomputable def o155 (P : Params) : Obj := ⟨(.type "tuple"), none, (.seq #[(.str (Str.ofString "octets") 661), (.str (Str.ofString "place") 662)] 0), #[]⟩
noncomputable def o156 (P : Params) : Obj := ⟨.none, none, (.func ⟨(Str.ofString "_law_stream"), (Str.ofString "_law_stream"), argsOf (st 38), .stmts (bodyOf (st 38)), scopeOf (st 38), 0, [], .none, .none, .none, .none, none, .none, .none, 0⟩), #[]⟩
noncomputable def o157 (P : Params) : Obj := ⟨(.type "code"), none, (.fields #[(.str (Str.ofString "_law_stream") 655), (.str (Str.ofString "_law_stream") 656), (.str (Str.ofString "/claim/cut.py") 657), (.int 164 0), (.int 1 0), (.int 0 0), (.int 0 0), (.int 3 0), (.ref 152), (.bool true), (.int 276 0), (.ref 153), .none, (.ref 154), (.ref 155), (.ref 156), (.int 663 0), (.int 164 0), (.str (Str.ofString "/claim/cut.py") 664)]), #[]⟩
noncomputable def o158 (P : Params) : Obj := ⟨(.type "function"), none, (.func ⟨(Str.ofString "_law_stream"), (Str.ofString "_law_stream"), argsOf (st 38), .stmts (bodyOf (st 38)), scopeOf (st 38), 3, [], .none, .none, .none, (.str (Str.ofString "law_rx0055_01") 653), none, (.ref 157), .none, 0⟩), #[]⟩
noncomputable def o159 (P : Params) : Obj := ⟨(.type "tuple"), none, (.seq #[] 0), #[]⟩
noncomputable def o160 (P : Params) : Obj := ⟨.none, none, (.fields #[]), #[]⟩
noncomputable def o161 (P : Params) : Obj := ⟨(.type "tuple"), none, (.seq #[(.str (Str.ofString "bits") 669), (.str (Str.ofString "row") 670), (.str (Str.ofString "k") 671), (.str (Str.ofString "figure") 672), (.str (Str.ofString "above") 673)] 0), #[]⟩
noncomputable def o162 (P : Params) : Obj := ⟨(.type "tuple"), none, (.seq #[] 0), #[]⟩
noncomputable def o163 (P : Params) : Obj := ⟨.none, none, (.func ⟨(Str.ofString "_law_row"), (Str.ofString "_law_row"), argsOf (st 39), .stmts (bodyOf (st 39)), scopeOf (st 39), 0, [], .none, .none, .none, .none, none, .none, .none, 0⟩), #[]⟩
noncomputable def o164 (P : Params) : Obj := ⟨(.type "code"), none, (.fields #[(.str (Str.ofString "_law_row") 666), (.str (Str.ofString "_law_row") 667), (.str (Str.ofString "/claim/cut.py") 668), (.int 174 0), (.int 1 0), (.int 0 0), (.int 0 0), (.int 3 0), (.ref 159), (.bool true), (.int 276 0), (.ref 160), .none, (.ref 161), (.ref 162), (.ref 163), (.int 674 0), (.int 174 0), (.str (Str.ofString "/claim/cut.py") 675)]), #[]⟩
noncomputable def o165 (P : Params) : Obj := ⟨(.type "function"), none, (.func ⟨(Str.ofString "_law_row"), (Str.ofString "_law_row"), argsOf (st 39), .stmts (bodyOf (st 39)), scopeOf (st 39), 3, [], .none, .none, .none, (.str (Str.ofString "law_rx0055_01") 653), none, (.ref 164), .none, 0⟩), #[]⟩
noncomputable def o166 (P : Params) : Obj := ⟨(.type "tuple"), none, (.seq #[] 0), #[]⟩
noncomputable def o167 (P : Params) : Obj := ⟨.none, none, (.fields #[]), #[]⟩
noncomputable def o168 (P : Params) : Obj := ⟨(.type "tuple"), none, (.seq #[(.str (Str.ofString "pattern") 680), (.str (Str.ofString "row") 681), (.str (Str.ofString "text") 682), (.str (Str.ofString "signs") 683), (.str (Str.ofString "place") 684)] 0), #[]⟩
noncomputable def o169 (P : Params) : Obj := ⟨(.type "tuple"), none, (.seq #[] 0), #[]⟩
noncomputable def o170 (P : Params) : Obj := ⟨.none, none, (.func ⟨(Str.ofString "_law_opens"), (Str.ofString "_law_opens"), argsOf (st 40), .stmts (bodyOf (st 40)), scopeOf (st 40), 0, [], .none, .none, .none, .none, none, .none, .none, 0⟩), #[]⟩
noncomputable def o171 (P : Params) : Obj := ⟨(.type "code"), none, (.fields #[(.str (Str.ofString "_law_opens") 677), (.str (Str.ofString "_law_opens") 678), (.str (Str.ofString "/claim/cut.py") 679), (.int 181 0), (.int 2 0), (.int 0 0), (.int 0 0), (.int 3 0), (.ref 166), (.bool true), (.int 276 0), (.ref 167), .none, (.ref 168), (.ref 169), (.ref 170), (.int 685 0), (.int 181 0), (.str (Str.ofString "/claim/cut.py") 686)]), #[]⟩
noncomputable def o172 (P : Params) : Obj := ⟨(.type "function"), none, (.func ⟨(Str.ofString "_law_opens"), (Str.ofString "_law_opens"), argsOf (st 40), .stmts (bodyOf (st 40)), scopeOf (st 40), 3, [], .none, .none, .none, (.str (Str.ofString "law_rx0055_01") 653), none, (.ref 171), .none, 0⟩), #[]⟩
noncomputable def o173 (P : Params) : Obj := ⟨(.type "tuple"), none, (.seq #[] 0), #[]⟩
noncomputable def o174 (P : Params) : Obj := ⟨.none, none, (.fields #[]), #[]⟩
noncomputable def o175 (P : Params) : Obj := ⟨.none, none, (.func ⟨(Str.ofString "_law_write"), (Str.ofString "_law_write"), argsOf (st 41), .stmts (bodyOf (st 41)), scopeOf (st 41), 0, [], .none, .none, .none, .none, none, .none, .none, 0⟩), #[]⟩
noncomputable def o176 (P : Params) : Obj := ⟨(.type "code"), none, (.fields #[(.str (Str.ofString "_law_write") 688), (.str (Str.ofString "_law_write") 689), (.str (Str.ofString "/claim/cut.py") 690), (.int 198 0), (.int 1 0), (.int 0 0), (.int 0 0), (.int 3 0), (.ref 173), (.bool true), (.int 276 0), (.ref 174), .none, .none, .none, (.ref 175), (.int 691 0), (.int 198 0), (.str (Str.ofString "/claim/cut.py") 692)]), #[]⟩
noncomputable def o177 (P : Params) : Obj := ⟨(.type "function"), none, (.func ⟨(Str.ofString "_law_write"), (Str.ofString "_law_write"), argsOf (st 41), .stmts (bodyOf (st 41)), scopeOf (st 41), 3, [], .none, .none, .none, (.str (Str.ofString "law_rx0055_01") 653), none, (.ref 176), .none, 0⟩), #[]⟩
noncomputable def o178 (P : Params) : Obj := ⟨(.type "tuple"), none, (.seq #[] 0), #[]⟩
noncomputable def o179 (P : Params) : Obj := ⟨.none, none, (.fields #[]), #[]⟩
noncomputable def o180 (P : Params) : Obj := ⟨(.type "tuple"), none, (.seq #[(.str (Str.ofString "octets") 697), (.str (Str.ofString "stream") 698), (.str (Str.ofString "rows") 699), (.str (Str.ofString "k") 700), (.str (Str.ofString "share") 701)] 0), #[]⟩
noncomputable def o181 (P : Params) : Obj := ⟨(.type "tuple"), none, (.seq #[] 0), #[]⟩
noncomputable def o182 (P : Params) : Obj := ⟨.none, none, (.func ⟨(Str.ofString "_law_unpack"), (Str.ofString "_law_unpack"), argsOf (st 42), .stmts (bodyOf (st 42)), scopeOf (st 42), 0, [], .none, .none, .none, .none, none, .none, .none, 0⟩), #[]⟩
noncomputable def o183 (P : Params) : Obj := ⟨(.type "code"), none, (.fields #[(.str (Str.ofString "_law_unpack") 694), (.str (Str.ofString "_law_unpack") 695), (.str (Str.ofString "/claim/cut.py") 696), (.int 208 0), (.int 1 0), (.int 0 0), (.int 0 0), (.int 3 0), (.ref 178), (.bool true), (.int 276 0), (.ref 179), .none, (.ref 180), (.ref 181), (.ref 182), (.int 702 0), (.int 208 0), (.str (Str.ofString "/claim/cut.py") 703)]), #[]⟩
noncomputable def o184 (P : Params) : Obj := ⟨(.type "function"), none, (.func ⟨(Str.ofString "_law_unpack"), (Str.ofString "_law_unpack"), argsOf (st 42), .stmts (bodyOf (st 42)), scopeOf (st 42), 3, [], .none, .none, .none, (.str (Str.ofString "law_rx0055_01") 653), none, (.ref 183), .none, 0⟩), #[]⟩
noncomputable def o185 (P : Params) : Obj := ⟨(.type "tuple"), none, (.seq #[] 0), #[]⟩
noncomputable def o186 (P : Params) : Obj := ⟨.none, none, (.fields #[]), #[]⟩
noncomputable def o187 (P : Params) : Obj := ⟨.none, none, (.func ⟨(Str.ofString "law"), (Str.ofString "law"), argsOf (st 43), .stmts (bodyOf (st 43)), scopeOf (st 43), 0, [], .none, .none, .none, .none, none, .none, .none, 0⟩), #[]⟩
noncomputable def o188 (P : Params) : Obj := ⟨(.type "code"), none, (.fields #[(.str (Str.ofString "law") 705), (.str (Str.ofString "law") 706), (.str (Str.ofString "/claim/cut.py") 707), (.int 219 0), (.int 1 0), (.int 0 0), (.int 0 0), (.int 3 0), (.ref 185), (.bool true), (.int 276 0), (.ref 186), .none, .none, .none, (.ref 187), (.int 708 0), (.int 219 0), (.str (Str.ofString "/claim/cut.py") 709)]), #[]⟩
noncomputable def o189 (P : Params) : Obj := ⟨(.type "function"), none, (.func ⟨(Str.ofString "law"), (Str.ofString "law"), argsOf (st 43), .stmts (bodyOf (st 43)), scopeOf (st 43), 3, [], .none, .none, .none, (.str (Str.ofString "law_rx0055_01") 653), none, (.ref 188), .none, 0⟩), #[]⟩
noncomputable def tree_z (P : Params) : BT := (.node (o0 P) (.node (o1 P) (.node (o3 P) (.node (o7 P) (.node (o15 P) .nil .nil) (.node (o23 P) .nil .nil)) (.node (o11 P) (.node (o19 P) .nil .nil) (.node (o27 P) .nil .nil))) (.node (o5 P) (.node (o9 P) (.node (o17 P) .nil .nil) (.node (o25 P) .nil .nil)) (.node (o13 P) (.node (o21 P) .nil .nil) .nil))) (.node (o2 P) (.node (o4 P) (.node (o8 P) (.node (o16 P) .nil .nil) (.node (o24 P) .nil .nil)) (.node (o12 P) (.node (o20 P) .nil .nil) .nil)) (.node (o6 P) (.node (o10 P) (.node (o18 P) .nil .nil) (.node (o26 P) .nil .nil)) (.node (o14 P) (.node (o22 P) .nil .nil) .nil))))
noncomputable def tree_a (P : Params) : BT := (.node (o0 P) (.node (o1 P) (.node (o3 P) (.node (o7 P) (.node (o15 P) .nil .nil) (.node (o23 P) .nil .nil)) (.node (o11v1 P) (.node (o19 P) .nil .nil) (.node (o27 P) .nil .nil))) (.node (o5 P) (.node (o9 P) (.node (o17 P) .nil .nil) (.node (o25 P) .nil .nil)) (.node (o13 P) (.node (o21 P) .nil .nil) .nil))) (.node (o2 P) (.node (o4 P) (.node (o8 P) (.node (o16 P) .nil .nil) (.node (o24 P) .nil .nil)) (.node (o12 P) (.node (o20 P) .nil .nil) .nil)) (.node (o6 P) (.node (o10 P) (.node (o18 P) .nil .nil) (.node (o26 P) .nil .nil)) (.node (o14 P) (.node (o22 P) .nil .nil) .nil))))
noncomputable def tree_b (P : Params) : BT := (.node (o0 P) (.node (o1 P) (.node (o3 P) (.node (o7 P) (.node (o15 P) (.node (o31 P) .nil .nil) .nil) (.node (o23 P) .nil .nil)) (.node (o11v1 P) (.node (o19 P) .nil .nil) (.node (o27 P) .nil .nil))) (.node (o5 P) (.node (o9 P) (.node (o17 P) .nil .nil) (.node (o25 P) .nil .nil)) (.node (o13 P) (.node (o21 P) .nil .nil) (.node (o29 P) .nil .nil)))) (.node (o2 P) (.node (o4 P) (.node (o8 P) (.node (o16 P) .nil .nil) (.node (o24 P) .nil .nil)) (.node (o12 P) (.node (o20 P) .nil .nil) (.node (o28 P) .nil .nil))) (.node (o6 P) (.node (o10 P) (.node (o18 P) .nil .nil) (.node (o26 P) .nil .nil)) (.node (o14 P) (.node (o22 P) .nil .nil) (.node (o30 P) .nil .nil)))))
noncomputable def tree_c (P : Params) : BT := (.node (o0 P) (.node (o1 P) (.node (o3 P) (.node (o7 P) (.node (o15 P) (.node (o31 P) .nil .nil) .nil) (.node (o23 P) .nil .nil)) (.node (o11v1 P) (.node (o19 P) .nil .nil) (.node (o27 P) .nil .nil))) (.node (o5 P) (.node (o9 P) (.node (o17 P) .nil .nil) (.node (o25 P) .nil .nil)) (.node (o13 P) (.node (o21 P) .nil .nil) (.node (o29 P) .nil .nil)))) (.node (o2 P) (.node (o4 P) (.node (o8 P) (.node (o16 P) .nil .nil) (.node (o24 P) .nil .nil)) (.node (o12 P) (.node (o20 P) .nil .nil) (.node (o28 P) .nil .nil))) (.node (o6 P) (.node (o10 P) (.node (o18 P) .nil .nil) (.node (o26 P) .nil .nil)) (.node (o14 P) (.node (o22 P) .nil .nil) (.node (o30 P) .nil .nil)))))
noncomputable def tree_d (P : Params) : BT := (.node (o0 P) (.node (o1 P) (.node (o3v1 P) (.node (o7 P) (.node (o15 P) (.node (o31 P) (.node (o63 P) .nil .nil) .nil) (.node (o47 P) .nil .nil)) (.node (o23 P) (.node (o39 P) (.node (o71 P) .nil .nil) .nil) (.node (o55 P) .nil .nil))) (.node (o11v1 P) (.node (o19 P) (.node (o35 P) (.node (o67 P) .nil .nil) .nil) (.node (o51 P) .nil .nil)) (.node (o27 P) (.node (o43 P) (.node (o75 P) .nil .nil) .nil) (.node (o59 P) .nil .nil)))) (.node (o5 P) (.node (o9 P) (.node (o17 P) (.node (o33 P) (.node (o65 P) .nil .nil) .nil) (.node (o49 P) .nil .nil)) (.node (o25 P) (.node (o41 P) (.node (o73 P) .nil .nil) .nil) (.node (o57 P) .nil .nil))) (.node (o13 P) (.node (o21 P) (.node (o37 P) (.node (o69 P) .nil .nil) .nil) (.node (o53 P) .nil .nil)) (.node (o29v1 P) (.node (o45 P) (.node (o77 P) .nil .nil) .nil) (.node (o61 P) .nil .nil))))) (.node (o2 P) (.node (o4 P) (.node (o8 P) (.node (o16 P) (.node (o32 P) (.node (o64 P) .nil .nil) .nil) (.node (o48 P) .nil .nil)) (.node (o24 P) (.node (o40 P) (.node (o72 P) .nil .nil) .nil) (.node (o56 P) .nil .nil))) (.node (o12 P) (.node (o20 P) (.node (o36 P) (.node (o68 P) .nil .nil) .nil) (.node (o52 P) .nil .nil)) (.node (o28 P) (.node (o44 P) (.node (o76 P) .nil .nil) .nil) (.node (o60 P) .nil .nil)))) (.node (o6 P) (.node (o10 P) (.node (o18 P) (.node (o34 P) (.node (o66 P) .nil .nil) .nil) (.node (o50 P) .nil .nil)) (.node (o26 P) (.node (o42 P) (.node (o74 P) .nil .nil) .nil) (.node (o58 P) .nil .nil))) (.node (o14 P) (.node (o22 P) (.node (o38 P) (.node (o70 P) .nil .nil) .nil) (.node (o54 P) .nil .nil)) (.node (o30 P) (.node (o46 P) (.node (o78 P) .nil .nil) .nil) (.node (o62 P) .nil .nil))))))
noncomputable def tree_e (P : Params) : BT := (.node (o0 P) (.node (o1 P) (.node (o3v2 P) (.node (o7 P) (.node (o15 P) (.node (o31 P) (.node (o63 P) .nil .nil) .nil) (.node (o47 P) (.node (o79 P) .nil .nil) .nil)) (.node (o23 P) (.node (o39 P) (.node (o71 P) .nil .nil) .nil) (.node (o55 P) .nil .nil))) (.node (o11v1 P) (.node (o19 P) (.node (o35 P) (.node (o67 P) .nil .nil) .nil) (.node (o51 P) (.node (o83 P) .nil .nil) .nil)) (.node (o27 P) (.node (o43 P) (.node (o75 P) .nil .nil) .nil) (.node (o59 P) .nil .nil)))) (.node (o5 P) (.node (o9 P) (.node (o17 P) (.node (o33 P) (.node (o65 P) .nil .nil) .nil) (.node (o49 P) (.node (o81 P) .nil .nil) .nil)) (.node (o25 P) (.node (o41 P) (.node (o73 P) .nil .nil) .nil) (.node (o57 P) .nil .nil))) (.node (o13 P) (.node (o21 P) (.node (o37 P) (.node (o69 P) .nil .nil) .nil) (.node (o53 P) .nil .nil)) (.node (o29v1 P) (.node (o45 P) (.node (o77 P) .nil .nil) .nil) (.node (o61 P) .nil .nil))))) (.node (o2 P) (.node (o4 P) (.node (o8 P) (.node (o16 P) (.node (o32 P) (.node (o64 P) .nil .nil) .nil) (.node (o48 P) (.node (o80 P) .nil .nil) .nil)) (.node (o24 P) (.node (o40 P) (.node (o72 P) .nil .nil) .nil) (.node (o56 P) .nil .nil))) (.node (o12 P) (.node (o20 P) (.node (o36 P) (.node (o68 P) .nil .nil) .nil) (.node (o52 P) .nil .nil)) (.node (o28 P) (.node (o44 P) (.node (o76 P) .nil .nil) .nil) (.node (o60 P) .nil .nil)))) (.node (o6 P) (.node (o10 P) (.node (o18 P) (.node (o34 P) (.node (o66 P) .nil .nil) .nil) (.node (o50 P) (.node (o82 P) .nil .nil) .nil)) (.node (o26 P) (.node (o42 P) (.node (o74 P) .nil .nil) .nil) (.node (o58 P) .nil .nil))) (.node (o14 P) (.node (o22 P) (.node (o38 P) (.node (o70 P) .nil .nil) .nil) (.node (o54 P) .nil .nil)) (.node (o30 P) (.node (o46 P) (.node (o78 P) .nil .nil) .nil) (.node (o62 P) .nil .nil))))))
noncomputable def tree_f (P : Params) : BT := (.node (o0 P) (.node (o1 P) (.node (o3v3 P) (.node (o7 P) (.node (o15 P) (.node (o31 P) (.node (o63 P) (.node (o127 P) .nil .nil) .nil) (.node (o95 P) (.node (o159 P) .nil .nil) .nil)) (.node (o47 P) (.node (o79 P) (.node (o143 P) .nil .nil) .nil) (.node (o111 P) (.node (o175 P) .nil .nil) .nil))) (.node (o23 P) (.node (o39 P) (.node (o71 P) (.node (o135 P) .nil .nil) .nil) (.node (o103 P) (.node (o167 P) .nil .nil) .nil)) (.node (o55 P) (.node (o87 P) (.node (o151 P) .nil .nil) .nil) (.node (o119 P) (.node (o183 P) .nil .nil) .nil)))) (.node (o11v1 P) (.node (o19 P) (.node (o35 P) (.node (o67 P) (.node (o131 P) .nil .nil) .nil) (.node (o99 P) (.node (o163 P) .nil .nil) .nil)) (.node (o51 P) (.node (o83 P) (.node (o147 P) .nil .nil) .nil) (.node (o115 P) (.node (o179 P) .nil .nil) .nil))) (.node (o27 P) (.node (o43 P) (.node (o75 P) (.node (o139 P) .nil .nil) .nil) (.node (o107 P) (.node (o171 P) .nil .nil) .nil)) (.node (o59 P) (.node (o91 P) (.node (o155 P) .nil .nil) .nil) (.node (o123 P) (.node (o187 P) .nil .nil) .nil))))) (.node (o5 P) (.node (o9 P) (.node (o17 P) (.node (o33 P) (.node (o65 P) (.node (o129 P) .nil .nil) .nil) (.node (o97 P) (.node (o161 P) .nil .nil) .nil)) (.node (o49 P) (.node (o81 P) (.node (o145 P) .nil .nil) .nil) (.node (o113 P) (.node (o177 P) .nil .nil) .nil))) (.node (o25 P) (.node (o41 P) (.node (o73 P) (.node (o137 P) .nil .nil) .nil) (.node (o105 P) (.node (o169 P) .nil .nil) .nil)) (.node (o57 P) (.node (o89 P) (.node (o153 P) .nil .nil) .nil) (.node (o121 P) (.node (o185 P) .nil .nil) .nil)))) (.node (o13 P) (.node (o21 P) (.node (o37 P) (.node (o69 P) (.node (o133 P) .nil .nil) .nil) (.node (o101 P) (.node (o165 P) .nil .nil) .nil)) (.node (o53 P) (.node (o85 P) (.node (o149 P) .nil .nil) .nil) (.node (o117 P) (.node (o181 P) .nil .nil) .nil))) (.node (o29v2 P) (.node (o45 P) (.node (o77 P) (.node (o141 P) .nil .nil) .nil) (.node (o109 P) (.node (o173 P) .nil .nil) .nil)) (.node (o61 P) (.node (o93 P) (.node (o157 P) .nil .nil) .nil) (.node (o125 P) (.node (o189 P) .nil .nil) .nil)))))) (.node (o2 P) (.node (o4 P) (.node (o8 P) (.node (o16 P) (.node (o32 P) (.node (o64 P) (.node (o128 P) .nil .nil) .nil) (.node (o96 P) (.node (o160 P) .nil .nil) .nil)) (.node (o48 P) (.node (o80 P) (.node (o144 P) .nil .nil) .nil) (.node (o112 P) (.node (o176 P) .nil .nil) .nil))) (.node (o24 P) (.node (o40 P) (.node (o72 P) (.node (o136 P) .nil .nil) .nil) (.node (o104 P) (.node (o168 P) .nil .nil) .nil)) (.node (o56 P) (.node (o88 P) (.node (o152 P) .nil .nil) .nil) (.node (o120 P) (.node (o184 P) .nil .nil) .nil)))) (.node (o12 P) (.node (o20 P) (.node (o36 P) (.node (o68 P) (.node (o132 P) .nil .nil) .nil) (.node (o100 P) (.node (o164 P) .nil .nil) .nil)) (.node (o52 P) (.node (o84 P) (.node (o148 P) .nil .nil) .nil) (.node (o116 P) (.node (o180 P) .nil .nil) .nil))) (.node (o28 P) (.node (o44 P) (.node (o76 P) (.node (o140 P) .nil .nil) .nil) (.node (o108 P) (.node (o172 P) .nil .nil) .nil)) (.node (o60 P) (.node (o92 P) (.node (o156 P) .nil .nil) .nil) (.node (o124 P) (.node (o188 P) .nil .nil) .nil))))) (.node (o6 P) (.node (o10 P) (.node (o18 P) (.node (o34 P) (.node (o66 P) (.node (o130 P) .nil .nil) .nil) (.node (o98 P) (.node (o162 P) .nil .nil) .nil)) (.node (o50 P) (.node (o82 P) (.node (o146 P) .nil .nil) .nil) (.node (o114 P) (.node (o178 P) .nil .nil) .nil))) (.node (o26 P) (.node (o42 P) (.node (o74 P) (.node (o138 P) .nil .nil) .nil) (.node (o106 P) (.node (o170 P) .nil .nil) .nil)) (.node (o58 P) (.node (o90 P) (.node (o154 P) .nil .nil) .nil) (.node (o122 P) (.node (o186 P) .nil .nil) .nil)))) (.node (o14 P) (.node (o22 P) (.node (o38 P) (.node (o70 P) (.node (o134 P) .nil .nil) .nil) (.node (o102 P) (.node (o166 P) .nil .nil) .nil)) (.node (o54 P) (.node (o86 P) (.node (o150 P) .nil .nil) .nil) (.node (o118 P) (.node (o182 P) .nil .nil) .nil))) (.node (o30 P) (.node (o46 P) (.node (o78 P) (.node (o142 P) .nil .nil) .nil) (.node (o110 P) (.node (o174 P) .nil .nil) .nil)) (.node (o62 P) (.node (o94 P) (.node (o158 P) .nil .nil) .nil) (.node (o126 P) .nil .nil)))))))
noncomputable section
noncomputable abbrev envM : Env := { scope := pw.main.scope, locals := mainNs, globals := mainNs, cells := [], code := .ref 30, frame := some 31 }
noncomputable abbrev bd : List Stmt := behindTheImports pw
noncomputable abbrev cdM : PySem.Code := .body bd envM
noncomputable abbrev p0 : Pos := ⟨0, 0, 0, 0⟩
noncomputable abbrev ann : Option Value := some (.ref 6)
noncomputable abbrev stT (t : Params → BT) (n k : Nat) (w : World) (os : OsState) : SharedT := ⟨t w.params, n, {}, #[], {}, k, os⟩
theorem run1 (w : World) (os : OsState) : segRunT treeTable pw w 28 ann 1 423 (stT tree_c 32 282 w os) (piecesOf (bd.take 8) envM cdM p0 [topFrame p0]) = some (.next, stT tree_d 79 381 w os, cdM, ⟨25, 0, 25, 8⟩) := by
 unfold piecesOf
 rw [Fast.te10110043849684766642, Fast.te14364793385576792824, Fast.te12563942051412417395]
 kernel_rfl
end
noncomputable section
noncomputable abbrev stA (t : Params → BT) (n k : Nat) (w : World) (os : OsState) : Shared := (stT t n k w os).abs
theorem run3 (w : World) (os : OsState) : segRunT treeTable pw w 28 ann 1 712 (stT tree_e 84 527 w os) (piecesOf (bd.drop 9) envM cdM ⟨26, 0, 26, 18⟩ [topFrame p0]) = some (.next, stT tree_f 190 711 w os, cdM, ⟨219, 0, 242, 89⟩) := by
 unfold piecesOf
 rw [Fast.te10110043849684766642, Fast.te14364793385576792824, Fast.te12563942051412417395]
 kernel_rfl
theorem fin (w : World) (os : OsState) : topRun treeTable pw w 28 ann 2 (stA tree_f 190 711 w os) ⟨doneF .next, cdM, ⟨219, 0, 242, 89⟩, [topFrame p0]⟩ = some (stA tree_f 190 711 w os) := by
 rw [Fast.te14082659384304107361, Fast.te14364793385576792824]
 kernel_rfl
theorem block (w : World) (os : OsState) : segRun treeTable pw w 28 ann 1 1 (stA tree_b 32 282 w os) (blockOf bd envM cdM p0 [topFrame p0]) = some (.next, stA tree_c 32 282 w os, cdM, p0) := by
 kernel_rfl
theorem pre (w : World) (os : OsState) : topGo treeTable pw w 28 ann 12 (stA tree_a 28 276 w os) (topStub pw) = some (stA tree_b 32 282 w os, ⟨denote treeTable cdM, cdM, p0, [topFrame p0]⟩) := by
 rw [Fast.te15667345088766844465, Fast.te14364793385576792824, Fast.te11892475500146522536]
 kernel_rfl
end
noncomputable section
noncomputable def endG (ex : Thread → Option (List Value)) (stp : SharedT → Thread → Option (SharedT × Thread)) : Nat → SharedT → Thread → Option SharedT
 | 0, _, _ => none
 | n + 1, s, t => match ex t with
  | some [] => some s
  | some (_ :: _) => none
  | none => match stp s t with
   | some (s', t') => endG ex stp n s' t'
   | none => none
theorem endG_ok {p : Program} {w : World} : ∀ {n : Nat} {s s' : SharedT} {t : Thread}, endG Thread.atExitBegin (stepT (denote treeTable) p w) n s t = some s' → importEnds treeTable p w n s.abs t = some s'.abs
 | 0, _, _, _, h => by cases h
 | n + 1, s, s', t, h => by
  unfold endG at h
  unfold importEnds
  cases he : t.atExitBegin with
  | some l =>
   rw [he] at h
   cases l with
   | nil => cases h; rfl
   | cons a b => cases h
  | none =>
   rw [he] at h
   cases hs : stepT (denote treeTable) p w s t with
   | none => rw [hs] at h; cases h
   | some r => obtain ⟨s₂, t₂⟩ := r; rw [hs] at h; rw [stepT_spec hs]; exact endG_ok h
theorem opn0 (w : World) (os : OsState) : endG Thread.atExitBegin (stepT (denote treeTable) (opening pw) w) 799 (stT (fun _ => .nil) 0 1 w os) ⟨boot (opening pw), .builtin "boot" {}, default, []⟩ = some (stT tree_z 28 276 w os) := by
 rw [Fast.te3805553451399329143, Fast.te10156331382660048174, Fast.te11892475500146522536, Fast.te14364793385576792824]
 kernel_rfl
end
noncomputable section
theorem opnG {p : Program} {w : World} {n m k : Nat} {t : Params → BT} (h : ∀ os, endG Thread.atExitBegin (stepT (denote treeTable) p w) n (stT (fun _ => .nil) 0 1 w os) ⟨boot p, .builtin "boot" {}, default, []⟩ = some (stT t m k w os)) :
  importEnds treeTable p w n (start p).1 (start p).2 = some ⟨absHeap (t w.params) m {}, #[], {}, k, (start p).1.os⟩ := endG_ok (h (start p).1.os)
end
noncomputable section
theorem fence (w : World) (os : OsState) : (fenceModules? pw (stA tree_z 28 276 w os)).map (fun s => (s.heap, s.gens, s.drawn, s.toks)) = some (absHeap (tree_a w.params) 28 {}, #[], {}, 276) := by
 kernel_rfl
end
noncomputable section
theorem run2a (w : World) : (fun os => segRunT treeTable pw ((w.withFollow "comprehension-iter-twice" false).withFollow "special-get-raises" false) 28 ann 1 1300 (stT tree_d 79 381 ((w.withFollow "comprehension-iter-twice" false).withFollow "special-get-raises" false) os) (piecesOf [st 9] envM cdM ⟨25, 0, 25, 8⟩ [topFrame p0])) = fun os => some (.next, stT tree_e 84 527 ((w.withFollow "comprehension-iter-twice" false).withFollow "special-get-raises" false) os, cdM, ⟨26, 0, 26, 18⟩) := by
 unfold piecesOf
 rw [Fast.te10110043849684766642, Fast.te14364793385576792824, Fast.te12563942051412417395]
 kernel_rfl
end
noncomputable section
noncomputable def qv : Program := { pw with main := { pw.main with body := [st 0, st 43] } }
noncomputable def lsv : List Str := [Str.ofString "read_uint1", Str.ofString "read_string1", Str.ofString "_Example", Str.ofString "_twin_re_1", Str.ofString "translate", Str.ofString "_special_chars_map", Str.ofString "escape", Str.ofString "_translate", Str.ofString "_join_translated_parts", Str.ofString "S_IFMT", Str.ofString "S_IFDIR", Str.ofString "S_IFCHR", Str.ofString "S_IFBLK", Str.ofString "S_IFREG", Str.ofString "S_IFIFO", Str.ofString "S_IFLNK", Str.ofString "S_IFSOCK", Str.ofString "S_ISUID", Str.ofString "S_ISGID", Str.ofString "S_ISVTX", Str.ofString "S_IRUSR", Str.ofString "S_IWUSR", Str.ofString "S_IXUSR", Str.ofString "S_IRGRP", Str.ofString "S_IWGRP", Str.ofString "S_IXGRP", Str.ofString "S_IROTH", Str.ofString "S_IWOTH", Str.ofString "S_IXOTH", Str.ofString "_filemode_table", Str.ofString "filemode", Str.ofString "_law_stream", Str.ofString "_law_row", Str.ofString "_law_opens", Str.ofString "_law_write", Str.ofString "_law_unpack"]
theorem lk1 (P : Params) : staticsOk (importedModules pw.main.body) (absHeap (tree_a P) 28 {}) (absHeap (tree_f P) 190 {}) = true := by kernel_rfl
theorem lk2 (P : Params) : namesBound pw (absHeap (tree_f P) 190 {}) = true := by kernel_rfl
theorem lk3 (P : Params) : laidKept (absHeap (tree_a P) 28 {}) (absHeap (tree_f P) 190 {}) = true := by kernel_rfl
theorem sz (w : World) : (((absHeap (tree_a w.params) 28 {}).isNs mainGlobals && (#[] : Array GenState).size == 0, (absHeap (tree_a w.params) 28 {}).objs.size, (absHeap (tree_a w.params) 28 {}).nsMap mainGlobals "__annotations__")) = (true, 28, ann) := by kernel_rfl
noncomputable def frag (P : Params) : Frag := (List.range 190).map fun a => (a, ((tree_f P).get a).getD default)
end
noncomputable section
noncomputable abbrev Sf (P : Params) (os : OsState) : Shared := ⟨absHeap (tree_f P) 190 {}, #[], {}, 711, os⟩
theorem s1 (P : Params) (os : OsState) : seen ((recsOf qv).map (·.name)) (ownsOf qv) [] { Sf P os with gens := #[] } = expectedOf qv := by kernel_rfl
theorem s2 (P : Params) (os : OsState) : (Sf P os).heap.bltView = bltViewBooted := by kernel_rfl
theorem s3 (P : Params) (os : OsState) : (Sf P os).heap.keysOk (looseW qv lsv) ((recsOf qv).map (·.name)) ((litsOf qv).map (·.1)) ((clssOf qv (looseW qv lsv)).map (·.name)) = true := by kernel_rfl
theorem s3b (P : Params) (os : OsState) : (Sf P os).heap.accountedOkI (importedModules pw.main.body) = true := by kernel_rfl
theorem s3c (P : Params) (os : OsState) : ((Sf P os).heap.isNs mainGlobals && (Sf P os).heap.isNs builtinsNs && tablesOk qv (Sf P os).heap) = true := by kernel_rfl
theorem s4 (P : Params) (os : OsState) : tabsOk qv (Sf P os) = true := by kernel_rfl
theorem s5 (P : Params) (os : OsState) : pinSeenD qv (drecsOf qv) (Sf P os) = pinGoodD (drecsOf qv) := by kernel_rfl
theorem s6 (P : Params) (os : OsState) : plainSeenE qv (looseW qv lsv) (Sf P os) = plainGoodE qv (looseW qv lsv) := by kernel_rfl
theorem s7 (P : Params) (os : OsState) : plainSeenD qv lsv (Sf P os) = plainGoodD qv lsv := by kernel_rfl
theorem s8 (P : Params) (os : OsState) : wideSeen qv (Sf P os) = wideGood qv := by kernel_rfl
theorem s9 (P : Params) (os : OsState) : clsSeenW qv lsv (Sf P os) = clsGoodW qv lsv := by kernel_rfl
end
noncomputable section
theorem said : PySem.Challenge.rw_rx0055_01.wellSaid = true := by
 rw [PySem.W.Fast.te9446332074065402090]
 kernel_rfl
end
noncomputable section
noncomputable abbrev R2 (w : World) : Prop := (fun os => segRunT treeTable pw w 28 ann 1 1300 (stT tree_d 79 381 w os) (piecesOf [st 9] envM cdM ⟨25, 0, 25, 8⟩ [topFrame p0])) = fun os => some (.next, stT tree_e 84 527 w os, cdM, ⟨26, 0, 26, 18⟩)
theorem run2b (w : World) : R2 ((w.withFollow "comprehension-iter-twice" false).withFollow "special-get-raises" true) := by
 unfold R2 piecesOf
 rw [Fast.te10110043849684766642, Fast.te14364793385576792824, Fast.te12563942051412417395]
 kernel_rfl
theorem run2c (w : World) : R2 ((w.withFollow "comprehension-iter-twice" true).withFollow "special-get-raises" false) := by
 unfold R2 piecesOf
 rw [Fast.te10110043849684766642, Fast.te14364793385576792824, Fast.te12563942051412417395]
 kernel_rfl
theorem run2d (w : World) : R2 ((w.withFollow "comprehension-iter-twice" true).withFollow "special-get-raises" true) := by
 unfold R2 piecesOf
 rw [Fast.te10110043849684766642, Fast.te14364793385576792824, Fast.te12563942051412417395]
 kernel_rfl
theorem run2 (w : World) : R2 w :=
 byRow2 "special-get-raises" (P := R2) (byRow2 "comprehension-iter-twice" (P := fun w => R2 (w.withFollow "special-get-raises" false)) run2a run2c) (byRow2 "comprehension-iter-twice" (P := fun w => R2 (w.withFollow "special-get-raises" true)) run2b run2d) w
theorem bdS : bd = bd.take 8 ++ ([st 9] ++ (bd.drop 9 ++ [])) := by kernel_rfl
theorem joinRun {p : Program} {w : World} {b l1 l2 l3 : List Stmt} {env : Env} {q p1 p2 p3 p4 : Pos} {c : PySem.Code} {n1 n2 n3 n4 n5 n6 m0 : Nat} {an : Option Value} {sa sb : Shared} {s1 s2 s3 s4 : SharedT} (hc : c = .body b env) (hb : b = l1 ++ (l2 ++ (l3 ++ [])))
  (r1 : segRunT treeTable p w m0 an 1 n1 s1 (piecesOf l1 env c p1 [topFrame q]) = some (.next, s2, c, p2)) (r2 : segRunT treeTable p w m0 an 1 n2 s2 (piecesOf l2 env c p2 [topFrame q]) = some (.next, s3, c, p3)) (r3 : segRunT treeTable p w m0 an 1 n3 s3 (piecesOf l3 env c p3 [topFrame q]) = some (.next, s4, c, p4))
  (f : topRun treeTable p w m0 an n4 s4.abs ⟨doneF .next, c, p4, [topFrame q]⟩ = some s4.abs) (bl : segRun treeTable p w m0 an 1 n5 sb (blockOf b env c p1 [topFrame q]) = some (.next, s1.abs, c, p1))
  (pr : topGo treeTable p w m0 an n6 sa (topStub p) = some (sb, ⟨denote treeTable c, c, p1, [topFrame q]⟩)) : topRun treeTable p w m0 an (n6 + (n5 + (n1 + (n2 + (n3 + n4))))) sa (topStub p) = some s4.abs := by
 subst hc
 have h := piece_app (rest := []) (segRun_of r3) (piece_nil f)
 have h2 := piece_app (rest := l3 ++ []) (segRun_of r2) h
 have h3 := piece_app (rest := l2 ++ (l3 ++ [])) (segRun_of r1) h2
 refine go_top pr (piece_block bl ?_)
 conv at h3 => lhs; arg 8; arg 1; rw [← hb]
 exact h3
end
end Mine
end
section
open PySem PySem.W PyProof.Rows
set_option maxHeartbeats 400000
set_option maxRecDepth 100000
namespace Mine
noncomputable section
theorem runAll (w : World) (os : OsState) : topRun treeTable pw w 28 ann (12 + (1 + (423 + (1300 + (712 + 2))))) (stA tree_a 28 276 w os) (topStub pw) = some (stA tree_f 190 711 w os) :=
 joinRun rfl bdS (run1 w os) (congrFun (run2 w) os) (run3 w os) (fin w os) (block w os) (pre w os)
theorem openG {p : Program} {n m k N : Nat} {t t' : Params → BT} (h : ∀ (w : World) os, endG Thread.atExitBegin (stepT (denote treeTable) (opening p) w) n (stT (fun _ => .nil) 0 1 w os) ⟨boot (opening p), .builtin "boot" {}, default, []⟩ = some (stT t m k w os))
  (le : Nat.ble n N = true) (f : ∀ (w : World) os, (fenceModules? p (stA t m k w os)).map (fun s => (s.heap, s.gens, s.drawn, s.toks)) = some (absHeap (t' w.params) m {}, #[], {}, k)) (w : World) :
  (fencedOpening treeTable p w N).map (fun s => (s.heap, s.gens, s.drawn, s.toks)) = some (absHeap (t' w.params) m {}, #[], {}, k) :=
 open_cut (He := fun P => absHeap (t P) m {}) (H₀ := fun P => absHeap (t' P) m {}) (fun w => opnG (h w)) le (fun w => funext fun os => f w os) w
theorem opening_ (w : World) : (fencedOpening treeTable pw w 5126).map (fun s => (s.heap, s.gens, s.drawn, s.toks)) = some (absHeap (tree_a w.params) 28 {}, #[], {}, 276) := openG opn0 (by decide +kernel) fence w
noncomputable abbrev H01 : Hook := kHook frag (List.range 190) (fun P => by unfold frag; rw [List.map_map]; exact (List.map_id _).symm)
theorem yf (P : Params) (os : OsState) : (List.range 190).map (Sf P os).heap.get? = (frag P).map fun p => some p.2 := by kernel_rfl
theorem and7 {a b c d e f g : Bool} (ha : a = true) (hb : b = true) (hc : (c && d && e) = true) (hf : f = true) (hg : g = true) : (a && b && c && d && e && f && g) = true := by
 subst ha hb hf hg
 simpa using hc
theorem left : LeftO pw qv lsv (fun _ => true) H01.obs H01.val 5126 := by
 refine LeftO.of_pieces (H₀ := fun P => absHeap (tree_a P) 28 {}) (H₁ := fun P => absHeap (tree_f P) 190 {}) opening_ sz (m₀ := 28) (ann := ann) runAll (by decide +kernel) fun w => funext fun os => ?_
 refine looks_pair ?_ (looks_pair ?_ (yf w.params os))
 ·rw [lk1, lk2, lk3]; rfl
 ·exact looks_pair (s1 _ os) (looks_pair (s2 _ os) (looks_pair (and7 (s3 _ os) (s3b _ os) (s3c _ os) rfl rfl) (looks_pair (s4 _ os) (looks_pair (s5 _ os) (looks_pair (s6 _ os) (looks_pair (s7 _ os) (looks_pair (s8 _ os) (s9 _ os))))))))
end
end Mine
end
section
open PySem PySem.W PyProof.Rows
set_option maxHeartbeats 1000000
set_option maxRecDepth 100000
namespace Mine
noncomputable section
noncomputable abbrev rw01 : OpenLaw := PySem.Challenge.rw_rx0055_01
theorem dSome : (defOf qv "law").isSome = true := by kernel_rfl
noncomputable def dLaw : DefRec × List (Str × PySem.Expr) := (defOf qv "law").get dSome
theorem hdef01 : defOf qv rw01.row.name = some (dLaw.1, dLaw.2) := by kernel_rfl
theorem hp01 : rw01.row.prog.theDef rw01.row.name = some (dLaw.1.params, dLaw.1.body, dLaw.1.scope) := by kernel_rfl
theorem hk01 : kwWritten? dLaw.1.params.kwonlyargs dLaw.1.params.kw_defaults = some dLaw.2 := by kernel_rfl
theorem ok01 : (chainsOk qv && opensWell rw01.row.prog && (frees rw01.row.toRowW && rw01.row.within.isEmpty)) = true := by kernel_rfl
theorem bare01 : rw01.row.prog.bare := ⟨rfl, rfl, rfl, rfl, rfl, by decide +kernel⟩
theorem hw01 : rw01.row.toRowW.promised := ⟨[.list []], by decide +kernel, by decide +kernel⟩
theorem hd01 (walk : WalkO qv lsv (fun _ _ => True) H01.says rw01.row.toRowW dLaw.1 dLaw.2 fun f vs => PySem.call f vs) : rw01.Holds :=
 holds_law said fun sd => holds_open left H01.of H01.keeps (fun _ _ => trivial) (fun _ _ _ _ _ => trivial) hdef01 hp01 hk01 (fun _ _ => recFacts_nil rfl) rfl sd ok01 bare01 hw01 walk
end
end Mine
end
section
open PySem PySem.W PySem.Spec PySem.Calls PySem.SeqAt PyProof.Rows
set_option maxHeartbeats 1000000
set_option maxRecDepth 100000
namespace Mine
noncomputable section
noncomputable def y_no : SY := fun _ => none
theorem cb_fail {C : Cx} {n : Nat} {env : Env} {ns : List Str} {b : List Stmt} : CB C n env ns b y_no := .mk fun σ f σ' h => by cases h
noncomputable def sem_ifmt : SY := (y_seq (y_ret (s_bin .BitAnd (s_loc 0) (s_c (.int 61440))))
 y_nil)
set_option maxRecDepth 20000 in
theorem cb_ifmt {C : Cx} {n : Nat} {fa : Addr} {cd : Value}  : ∀ L, CB C n (envOfC "S_IFMT" (scopeOf (st 15)) L fa cd) ["mode"] (bodyOf (st 15)) sem_ifmt := by
 intro L
 have ok : EnvOk (envOfC "S_IFMT" (scopeOf (st 15)) L fa cd) ["mode"] := okC (by kernel_rfl) (by decide)
 obtain ⟨b, hb, hc⟩ : ∃ b, bodyOf (st 15) = b ∧ CB C n (envOfC "S_IFMT" (scopeOf (st 15)) L fa cd) ["mode"] b sem_ifmt := by
  refine ⟨?b, ?h, ?c⟩
  case h => (conv => lhs; whnf)
  case c =>
   unfold sem_ifmt
   repeat' first
    | exact cb_fail | exact cy_fail
    | trivial
 rw [hb]; exact hc
noncomputable def g_ifmt : SD := s_pure 1 0 sem_ifmt
noncomputable def tabV : V := (.tup [(.tup [(.tup [(.int 40960), (.str [108])]), (.tup [(.int 49152), (.str [115])]), (.tup [(.int 32768), (.str [45])]), (.tup [(.int 24576), (.str [98])]), (.tup [(.int 16384), (.str [100])]), (.tup [(.int 8192), (.str [99])]), (.tup [(.int 4096), (.str [112])])]), (.tup [(.tup [(.int 256), (.str [114])])]), (.tup [(.tup [(.int 128), (.str [119])])]), (.tup [(.tup [(.int 2112), (.str [115])]), (.tup [(.int 2048), (.str [83])]), (.tup [(.int 64), (.str [120])])]), (.tup [(.tup [(.int 32), (.str [114])])]), (.tup [(.tup [(.int 16), (.str [119])])]), (.tup [(.tup [(.int 1032), (.str [115])]), (.tup [(.int 1024), (.str [83])]), (.tup [(.int 8), (.str [120])])]), (.tup [(.tup [(.int 4), (.str [114])])]), (.tup [(.tup [(.int 2), (.str [119])])]), (.tup [(.tup [(.int 513), (.str [116])]), (.tup [(.int 512), (.str [84])]), (.tup [(.int 1), (.str [120])])])])
noncomputable def sem_filemode : SY := (y_seq (y_asg 1 (s_list s_nil))
 (y_seq (y_enum (a_pair 2 3) (s_c tabV) (y_seq (y_for (a_pair 4 5) (s_loc 3) (y_seq (y_if (s_cmp .Eq (s_loc 2) (s_c (.int 0))) (y_seq (y_if (s_cmp .Eq (s_call g_ifmt (s_cons (s_loc 0) s_nil)) (s_loc 4)) (y_seq (y_expr (s_meth .append (s_loc 1) (s_cons (s_loc 5) s_nil)))
   (y_seq y_brk
   y_nil)) y_nil)
  y_nil) (y_seq (y_if (s_cmp .Eq (s_bin .BitAnd (s_loc 0) (s_loc 4)) (s_loc 4)) (y_seq (y_expr (s_meth .append (s_loc 1) (s_cons (s_loc 5) s_nil)))
   (y_seq y_brk
   y_nil)) y_nil)
  y_nil))
  y_nil) (y_seq (y_if (s_cmp .Eq (s_loc 2) (s_c (.int 0))) (y_seq (y_expr (s_meth .append (s_loc 1) (s_cons (s_c (.str [63])) s_nil)))
  y_nil) (y_seq (y_expr (s_meth .append (s_loc 1) (s_cons (s_c (.str [45])) s_nil)))
  y_nil))
  y_nil))
 y_nil) y_nil)
 (y_seq (y_ret (s_meth .join (s_c (.str [])) (s_cons (s_loc 1) s_nil)))
 y_nil)))
set_option maxRecDepth 20000 in
theorem cb_filemode {C : Cx} {n : Nat} {fa : Addr} {cd : Value} (g1 : GL C "S_IFMT" (.raw (.ref 111))) (f1 : FS C n 111 g_ifmt) (g2 : GL C "_filemode_table" tabV) (b_enumerate : BL C "enumerate" (.type "enumerate")) : ∀ L, CB C n (envOfC "filemode" (scopeOf (st 36)) L fa cd) ["mode", "perm", "index", "table", "bit", "char"] (bodyOf (st 36)) sem_filemode := by
 intro L
 have ok : EnvOk (envOfC "filemode" (scopeOf (st 36)) L fa cd) ["mode", "perm", "index", "table", "bit", "char"] := okC (by kernel_rfl) (by decide)
 obtain ⟨b, hb, hc⟩ : ∃ b, bodyOf (st 36) = b ∧ CB C n (envOfC "filemode" (scopeOf (st 36)) L fa cd) ["mode", "perm", "index", "table", "bit", "char"] b sem_filemode := by
  refine ⟨?b, ?h, ?c⟩
  case h => (conv => lhs; whnf)
  case c =>
   unfold sem_filemode
   repeat' first
    | exact cb_fail | exact cy_fail
    | trivial
 rw [hb]; exact hc
noncomputable def g_filemode : SD := s_pure 1 5 sem_filemode
noncomputable def sem_joinp : SY := (y_seq (y_asg 2 (s_list s_nil))
 (y_seq (y_asg 3 (s_attr (s_loc 2)))
 (y_seq (y_pair 4 5 (s_tup (s_cons (s_c (.int 0)) (s_cons (s_blt .len (s_cons (s_loc 0) s_nil)) s_nil))))
 (y_seq (y_while (s_and (s_cmp .Lt (s_loc 4) (s_loc 5)) (s_and (s_cmp .IsNot (s_idx (s_loc 0) (s_loc 4)) (s_loc 1)) (s_t true))) (y_seq (y_expr (s_app (s_loc 3) (s_idx (s_loc 0) (s_loc 4))))
 (y_seq (y_aug 4 (s_c (.int 1)))
 y_nil)))
 (y_seq (y_while (s_cmp .Lt (s_loc 4) (s_loc 5)) (y_seq (y_assert (s_cmp .Is (s_idx (s_loc 0) (s_loc 4)) (s_loc 1)))
 (y_seq (y_aug 4 (s_c (.int 1)))
 (y_seq (y_if (s_cmp .Eq (s_loc 4) (s_loc 5)) (y_seq (y_expr (s_app (s_loc 3) (s_c (.str [46, 42]))))
  (y_seq y_brk
  y_nil)) y_nil)
 (y_seq (y_assert (s_cmp .IsNot (s_idx (s_loc 0) (s_loc 4)) (s_loc 1)))
 (y_seq (y_asg 6 (s_list s_nil))
 (y_seq (y_while (s_and (s_cmp .Lt (s_loc 4) (s_loc 5)) (s_and (s_cmp .IsNot (s_idx (s_loc 0) (s_loc 4)) (s_loc 1)) (s_t true))) (y_seq (y_expr (s_meth .append (s_loc 6) (s_cons (s_idx (s_loc 0) (s_loc 4)) s_nil)))
  (y_seq (y_aug 4 (s_c (.int 1)))
  y_nil)))
 (y_seq (y_asg 6 (s_meth .join (s_c (.str [])) (s_cons (s_loc 6) s_nil)))
 (y_seq (y_if (s_cmp .Eq (s_loc 4) (s_loc 5)) (y_seq (y_expr (s_app (s_loc 3) (s_c (.str [46, 42]))))
  (y_seq (y_expr (s_app (s_loc 3) (s_loc 6)))
  y_nil)) (y_seq (y_expr (s_app (s_loc 3) (s_joinL (s_cons (s_c (.str [40, 63, 62, 46, 42, 63])) (s_cons (s_fmt (s_loc 6)) (s_cons (s_c (.str [41])) s_nil))))))
  y_nil))
 y_nil)))))))))
 (y_seq (y_assert (s_cmp .Eq (s_loc 4) (s_loc 5)))
 (y_seq (y_asg 2 (s_meth .join (s_c (.str [])) (s_cons (s_loc 2) s_nil)))
 (y_seq (y_ret (s_joinL (s_cons (s_c (.str [40, 63, 115, 58])) (s_cons (s_fmt (s_loc 2)) (s_cons (s_c (.str [41, 92, 90])) s_nil)))))
 y_nil))))))))
set_option maxRecDepth 20000 in
theorem cb_joinp {C : Cx} {n : Nat} {fa : Addr} {cd : Value} (b_len : BL C "len" (.builtin "len")) : ∀ L, CB C n (envOfC "_join_translated_parts" (scopeOf (st 13)) L fa cd) ["inp", "STAR", "res", "add", "i", "n", "fixed"] (bodyOf (st 13)) sem_joinp := by
 intro L
 have ok : EnvOk (envOfC "_join_translated_parts" (scopeOf (st 13)) L fa cd) ["inp", "STAR", "res", "add", "i", "n", "fixed"] := okC (by kernel_rfl) (by decide)
 obtain ⟨b, hb, hc⟩ : ∃ b, bodyOf (st 13) = b ∧ CB C n (envOfC "_join_translated_parts" (scopeOf (st 13)) L fa cd) ["inp", "STAR", "res", "add", "i", "n", "fixed"] b sem_joinp := by
  refine ⟨?b, ?h, ?c⟩
  case h => (conv => lhs; whnf)
  case c =>
   unfold sem_joinp
   repeat' first
    | exact cb_fail | exact cy_fail
    | trivial
 rw [hb]; exact hc
noncomputable def g_joinp : SD := s_def 2 5 sem_joinp
noncomputable def sem_row : SY := (y_seq (y_asg 1 (s_idx (s_c (.str [63, 112, 99, 63, 100, 63, 98, 63, 45, 63, 108, 63, 115, 63, 63, 63])) (s_bin .FloorDiv (s_loc 0) (s_c (.int 4096)))))
 (y_seq (y_for (a_name 2) (s_blt .range (s_cons (s_c (.int 3)) s_nil)) (y_seq (y_asg 3 (s_bin .Mod (s_bin .FloorDiv (s_loc 0) (s_bin .Pow (s_c (.int 8)) (s_bin .Sub (s_c (.int 2)) (s_loc 2)))) (s_c (.int 8))))
 (y_seq (y_asg 4 (s_bin .Mod (s_bin .FloorDiv (s_loc 0) (s_bin .Pow (s_c (.int 2)) (s_bin .Sub (s_c (.int 11)) (s_loc 2)))) (s_c (.int 2))))
 (y_seq (y_asg 1 (s_bin .Add (s_bin .Add (s_bin .Add (s_loc 1) (s_idx (s_c (.str [45, 114])) (s_bin .FloorDiv (s_loc 3) (s_c (.int 4))))) (s_idx (s_c (.str [45, 119])) (s_bin .Mod (s_bin .FloorDiv (s_loc 3) (s_c (.int 2))) (s_c (.int 2))))) (s_idx (s_c (.str [45, 120, 83, 115, 45, 120, 84, 116])) (s_bin .Add (s_bin .Add (s_bin .Mult (s_c (.int 4)) (s_bin .FloorDiv (s_loc 2) (s_c (.int 2)))) (s_bin .Mult (s_c (.int 2)) (s_loc 4))) (s_bin .Mod (s_loc 3) (s_c (.int 2)))))))
 y_nil))) y_nil)
 (y_seq (y_ret (s_loc 1))
 y_nil)))
set_option maxRecDepth 20000 in
theorem cb_row {C : Cx} {n : Nat} {fa : Addr} {cd : Value} (b_range : BL C "range" (.type "range")) : ∀ L, CB C n (envOfC "_law_row" (scopeOf (st 39)) L fa cd) ["bits", "row", "k", "figure", "above"] (bodyOf (st 39)) sem_row := by
 intro L
 have ok : EnvOk (envOfC "_law_row" (scopeOf (st 39)) L fa cd) ["bits", "row", "k", "figure", "above"] := okC (by kernel_rfl) (by decide)
 obtain ⟨b, hb, hc⟩ : ∃ b, bodyOf (st 39) = b ∧ CB C n (envOfC "_law_row" (scopeOf (st 39)) L fa cd) ["bits", "row", "k", "figure", "above"] b sem_row := by
  refine ⟨?b, ?h, ?c⟩
  case h => (conv => lhs; whnf)
  case c =>
   unfold sem_row
   repeat' first
    | exact cb_fail | exact cy_fail
    | trivial
 rw [hb]; exact hc
noncomputable def g_row : SD := s_pure 1 4 sem_row
end
noncomputable section
open Builtin Builtin.Re
set_option maxRecDepth 100000
noncomputable def specials : List Nat := [40, 41, 91, 93, 123, 125, 63, 42, 43, 45, 124, 94, 36, 92, 46, 38, 126, 35, 32, 9, 10, 13, 11, 12]
noncomputable def trMap (c : Nat) : Option (List Nat) := if specials.contains c then some [92, c] else none
noncomputable def reCode : Array Nat := #[14, 14, 4, 1, 1, 9, 0, 64, 0, 1342177280, 0, 0, 0, 0, 0, 17, 0, 13, 11, 9, 0, 64, 0, 1342177280, 0, 0, 0, 0, 0, 17, 1, 1]
noncomputable def failedB : Option Sre.M → Bool
 | some m => match m.outcome with
  | some .failed => true
  | _ => false
 | none => false
noncomputable def subGood (y : List Nat) : Bool := failedB (drv 3 (Sre.forSearch reCode (sOf y).cps 1 0 y.length false))
theorem sub_ok (y : List Nat) (h : subGood y = true) : ∃ m', drv 3 (Sre.forSearch reCode (sOf y).cps 1 0 y.length false) = some m' ∧ m'.outcome = some .failed := by
 unfold subGood failedB at h
 split at h
 ·rename_i m e
  split at h
  ·rename_i e2
   exact ⟨m, e, e2⟩
  ·cases h
 ·cases h
noncomputable def sem_escape : SY := (y_seq (y_if (s_truth (s_blt .isStr (s_cons (s_loc 0) (s_cons (s_c (.raw (.type "str"))) s_nil)))) (y_seq (y_ret (s_trl trMap (s_loc 0)))
 y_nil) y_no)
 y_nil)
set_option maxRecDepth 20000 in
theorem cb_escape {C : Cx} {n : Nat} {fa : Addr} {cd : Value} (g1 : GL C "_special_chars_map" (.raw (.ref 80))) (htr : ∀ h, C.Wd h → TrMap C.prog C.w h 80 trMap) (b_isinstance : BL C "isinstance" (.builtin "isinstance")) (b_str : BL C "str" (.type "str")) : ∀ L, CB C n (envOfC "escape" (scopeOf (st 10)) L fa cd) ["pattern"] (bodyOf (st 10)) sem_escape := by
 intro L
 have ok : EnvOk (envOfC "escape" (scopeOf (st 10)) L fa cd) ["pattern"] := okC (by kernel_rfl) (by decide)
 obtain ⟨b, hb, hc⟩ : ∃ b, bodyOf (st 10) = b ∧ CB C n (envOfC "escape" (scopeOf (st 10)) L fa cd) ["pattern"] b sem_escape := by
  refine ⟨?b, ?h, ?c⟩
  case h => (conv => lhs; whnf)
  case c =>
   unfold sem_escape
   repeat' first
    | exact cb_fail | exact cy_fail
    | refine ce_trl htr rfl rfl ?_ ?_
    | trivial
 rw [hb]; exact hc
noncomputable def g_escape : SD := s_pure 1 0 sem_escape
noncomputable def sem_translate2 : SY := (y_seq (y_asg 3 (s_list s_nil))
 (y_seq (y_asg 4 (s_attr (s_loc 3)))
 (y_seq (y_pair 5 6 (s_tup (s_cons (s_c (.int 0)) (s_cons (s_blt .len (s_cons (s_loc 0) s_nil)) s_nil))))
 (y_seq (y_while (s_cmp .Lt (s_loc 5) (s_loc 6)) (y_seq (y_asg 7 (s_idx (s_loc 0) (s_loc 5)))
 (y_seq (y_asg 5 (s_bin .Add (s_loc 5) (s_c (.int 1))))
 (y_seq (y_if (s_cmp .Eq (s_loc 7) (s_c (.str [42]))) (y_seq (y_if (s_or (s_not (s_truth (s_loc 3))) (s_or (s_cmp .IsNot (s_idx (s_loc 3) (s_neg (s_c (.int 1)))) (s_loc 1)) (s_t false))) (y_seq (y_expr (s_app (s_loc 4) (s_loc 1)))
  y_nil) y_nil)
  y_nil) (y_seq (y_if (s_cmp .Eq (s_loc 7) (s_c (.str [63]))) (y_seq (y_expr (s_app (s_loc 4) (s_loc 2)))
  y_nil) (y_seq (y_if (s_cmp .Eq (s_loc 7) (s_c (.str [91]))) (y_seq (y_asg 8 (s_loc 5))
   (y_seq (y_if (s_and (s_cmp .Lt (s_loc 8) (s_loc 6)) (s_and (s_cmp .Eq (s_idx (s_loc 0) (s_loc 8)) (s_c (.str [33]))) (s_t true))) (y_seq (y_asg 8 (s_bin .Add (s_loc 8) (s_c (.int 1))))
   y_nil) y_nil)
   (y_seq (y_if (s_and (s_cmp .Lt (s_loc 8) (s_loc 6)) (s_and (s_cmp .Eq (s_idx (s_loc 0) (s_loc 8)) (s_c (.str [93]))) (s_t true))) (y_seq (y_asg 8 (s_bin .Add (s_loc 8) (s_c (.int 1))))
   y_nil) y_nil)
   (y_seq (y_while (s_and (s_cmp .Lt (s_loc 8) (s_loc 6)) (s_and (s_cmp .NotEq (s_idx (s_loc 0) (s_loc 8)) (s_c (.str [93]))) (s_t true))) (y_seq (y_asg 8 (s_bin .Add (s_loc 8) (s_c (.int 1))))
   y_nil))
   (y_seq (y_if (s_cmp .GtE (s_loc 8) (s_loc 6)) (y_seq (y_expr (s_app (s_loc 4) (s_c (.str [92, 91]))))
   y_nil) (y_seq (y_asg 9 (s_slc (s_loc 0) (s_loc 5) (s_loc 8)))
   (y_seq (y_if (s_cmp .NotIn (s_c (.str [45])) (s_loc 9)) (y_seq (y_asg 9 (s_meth .replace (s_loc 9) (s_cons (s_c (.str [92])) (s_cons (s_c (.str [92, 92])) s_nil))))
    y_nil) y_no)
   (y_seq (y_asg 9 (s_sub subGood (s_loc 9)))
   (y_seq (y_asg 5 (s_bin .Add (s_loc 8) (s_c (.int 1))))
   (y_seq (y_if (s_not (s_truth (s_loc 9))) (y_seq (y_expr (s_app (s_loc 4) (s_c (.str [40, 63, 33, 41]))))
    y_nil) (y_seq (y_if (s_cmp .Eq (s_loc 9) (s_c (.str [33]))) (y_seq (y_expr (s_app (s_loc 4) (s_c (.str [46]))))
    y_nil) (y_seq (y_if (s_cmp .Eq (s_idx (s_loc 9) (s_c (.int 0))) (s_c (.str [33]))) (y_seq (y_asg 9 (s_bin .Add (s_c (.str [94])) (s_slc (s_loc 9) (s_c (.int 1)) (s_c .none))))
     y_nil) (y_seq (y_if (s_cmp .In (s_idx (s_loc 9) (s_c (.int 0))) (s_tup (s_cons (s_c (.str [94])) (s_cons (s_c (.str [91])) s_nil)))) (y_seq (y_asg 9 (s_bin .Add (s_c (.str [92])) (s_loc 9)))
     y_nil) y_nil)
     y_nil))
    (y_seq (y_expr (s_app (s_loc 4) (s_joinL (s_cons (s_c (.str [91])) (s_cons (s_fmt (s_loc 9)) (s_cons (s_c (.str [93])) s_nil))))))
    y_nil)))
    y_nil))
   y_nil))))))
   y_nil))))) (y_seq (y_expr (s_app (s_loc 4) (s_call g_escape (s_cons (s_loc 7) s_nil))))
   y_nil))
  y_nil))
  y_nil))
 y_nil))))
 (y_seq (y_assert (s_cmp .Eq (s_loc 5) (s_loc 6)))
 (y_seq (y_ret (s_loc 3))
 y_nil))))))
set_option maxRecDepth 20000 in
theorem cb_translate2 {C : Cx} {n : Nat} {fa : Addr} {cd : Value} {q0 : Addr} {ws0 : List Value} {pv0 : Value} (g1 : GL C "escape" (.raw (.ref 90))) (f1 : FS C n 90 g_escape) (g2 : GL C "_twin_re_1" (.raw (.ref 71))) (hcd : cd = .ref 96) (hP : ∀ h, C.Wd h → PatAt h 71 q0 ws0 reCode pv0 1) (hD : ∀ h, C.Wd h → ∃ o, h.get? 71 = some o ∧ o.dict = none) (hT : ∀ L, TabAt C 96 92 ⟨80, 39, 80, 76⟩ ((envOfC "_translate" (scopeOf (st 12)) L fa cd).qual ++ "<lambda>")) (b_len : BL C "len" (.builtin "len")) : ∀ L, CB C n (envOfC "_translate" (scopeOf (st 12)) L fa cd) ["pat", "STAR", "QUESTION_MARK", "res", "add", "i", "n", "c", "j", "stuff", "chunks", "k", "chunk"] (bodyOf (st 12)) sem_translate2 := by
 intro L
 have ok : EnvOk (envOfC "_translate" (scopeOf (st 12)) L fa cd) ["pat", "STAR", "QUESTION_MARK", "res", "add", "i", "n", "c", "j", "stuff", "chunks", "k", "chunk"] := okC (by kernel_rfl) (by decide)
 obtain ⟨b, hb, hc⟩ : ∃ b, bodyOf (st 12) = b ∧ CB C n (envOfC "_translate" (scopeOf (st 12)) L fa cd) ["pat", "STAR", "QUESTION_MARK", "res", "add", "i", "n", "c", "j", "stuff", "chunks", "k", "chunk"] b sem_translate2 := by
  refine ⟨?b, ?h, ?c⟩
  case h => (conv => lhs; whnf)
  case c =>
   unfold sem_translate2
   repeat' first
    | exact cb_fail | exact cy_fail
    | refine ce_sub subGood ‹_› hP hD (hT L) hcd rfl rfl (by decide) sub_ok rfl rfl (ce_gl ‹_› (by kernel_rfl) (by decide) ‹_›) ?_
    | trivial
 rw [hb]; exact hc
noncomputable def g_translate2 : SD := s_def 3 10 sem_translate2
noncomputable def sem_translate : SY := (y_seq (y_asg 1 s_obj)
 (y_seq (y_asg 2 (s_call g_translate2 (s_cons (s_loc 0) (s_cons (s_loc 1) (s_cons (s_c (.str [46])) s_nil)))))
 (y_seq (y_ret (s_call g_joinp (s_cons (s_loc 2) (s_cons (s_loc 1) s_nil))))
 y_nil)))
set_option maxRecDepth 20000 in
theorem cb_translate {C : Cx} {n : Nat} {fa : Addr} {cd : Value} (g1 : GL C "_translate" (.raw (.ref 97))) (f1 : FS C n 97 g_translate2) (g2 : GL C "_join_translated_parts" (.raw (.ref 104))) (f2 : FS C n 104 g_joinp) (b_object : BL C "object" (.type "object")) : ∀ L, CB C n (envOfC "translate" (scopeOf (st 7)) L fa cd) ["pat", "STAR", "parts"] (bodyOf (st 7)) sem_translate := by
 intro L
 have ok : EnvOk (envOfC "translate" (scopeOf (st 7)) L fa cd) ["pat", "STAR", "parts"] := okC (by kernel_rfl) (by decide)
 obtain ⟨b, hb, hc⟩ : ∃ b, bodyOf (st 7) = b ∧ CB C n (envOfC "translate" (scopeOf (st 7)) L fa cd) ["pat", "STAR", "parts"] b sem_translate := by
  refine ⟨?b, ?h, ?c⟩
  case h => (conv => lhs; whnf)
  case c =>
   unfold sem_translate
   repeat' first
    | exact cb_fail | exact cy_fail
    | trivial
 rw [hb]; exact hc
noncomputable def g_translate : SD := s_pure 1 2 sem_translate
end
noncomputable section
noncomputable def tstN (i m b : Nat) : Bool := if i = 0 then m &&& 61440 == b else m &&& b == b
noncomputable def pickN (i m : Nat) (ps : List (Nat × Nat)) : Nat := match ps.find? fun p => tstN i m p.1 with
 | some p => p.2
 | none => if i = 0 then 63 else 45
noncomputable def tabN : List (List (Nat × Nat)) := [[(40960, 108), (49152, 115), (32768, 45), (24576, 98), (16384, 100), (8192, 99), (4096, 112)], [(256, 114)], [(128, 119)], [(2112, 115), (2048, 83), (64, 120)], [(32, 114)], [(16, 119)], [(1032, 115), (1024, 83), (8, 120)], [(4, 114)], [(2, 119)], [(513, 116), (512, 84), (1, 120)]]
noncomputable def pairV (p : Nat × Nat) : V := .tup [.int p.1, .str [p.2]]
theorem tab_eq : tabV = .tup (tabN.map fun g => .tup (g.map pairV)) := rfl
theorem bitAnd_nat (a b : Nat) : Builtin.bitAnd (a : Int) (b : Int) = ((a &&& b : Nat) : Int) := rfl
theorem nat_eqb (a b : Nat) : ((a : Int) == (b : Int)) = (a == b) := by
 rw [Bool.eq_iff_iff, beq_iff_eq, beq_iff_eq]; lia
theorem ifmt_at (m : Nat) (hp : List O) : g_ifmt [.int m] hp = some (.int ((m &&& 61440 : Nat) : Int), hp) := by
 have e : sem_ifmt (σ0 [.int m] 0 []) = some (.ret (.int ((m &&& 61440 : Nat) : Int)), σ0 [.int m] 0 []) := by
  exact seq_ret (ret_of (bin_of (v := .int m) (w := .int 61440) rfl rfl rfl))
 unfold g_ifmt s_pure
 rw [if_pos (show [V.int (m : Int)].length = 1 from rfl), if_pos (show V.lows 0 [V.int (m : Int)] = true from rfl), e]
 rfl
noncomputable abbrev fmIn : SY := (y_seq (y_if (s_cmp .Eq (s_loc 2) (s_c (.int 0))) (y_seq (y_if (s_cmp .Eq (s_call g_ifmt (s_cons (s_loc 0) s_nil)) (s_loc 4)) (y_seq (y_expr (s_meth .append (s_loc 1) (s_cons (s_loc 5) s_nil)))
   (y_seq y_brk
   y_nil)) y_nil)
  y_nil) (y_seq (y_if (s_cmp .Eq (s_bin .BitAnd (s_loc 0) (s_loc 4)) (s_loc 4)) (y_seq (y_expr (s_meth .append (s_loc 1) (s_cons (s_loc 5) s_nil)))
   (y_seq y_brk
   y_nil)) y_nil)
  y_nil))
  y_nil)
noncomputable abbrev fmElse : SY := (y_seq (y_if (s_cmp .Eq (s_loc 2) (s_c (.int 0))) (y_seq (y_expr (s_meth .append (s_loc 1) (s_cons (s_c (.str [63])) s_nil)))
  y_nil) (y_seq (y_expr (s_meth .append (s_loc 1) (s_cons (s_c (.str [45])) s_nil)))
  y_nil))
  y_nil)
noncomputable abbrev fmS (m i : Nat) (t : V) (l4 l5 : Option V) (R : List V) : Sg := ⟨[some (.int m), some (.own 0), some (.int i), some t, l4, l5], [.lst R]⟩
theorem fm_in (m i b c : Nat) (t : V) (l4 l5 : Option V) (R : List V) (hR : R.length ≤ smallN) : fmIn (fmS m i t (some (.int b)) (some (.str [c])) R) = some (if tstN i m b then (.brk, fmS m i t (some (.int b)) (some (.str [c])) (R ++ [.str [c]])) else (.next, fmS m i t (some (.int b)) (some (.str [c])) R)) := by
 have br : y_seq (y_expr (s_meth .append (s_loc 1) (s_cons (s_loc 5) s_nil))) (y_seq y_brk y_nil) (fmS m i t (some (.int b)) (some (.str [c])) R) = some (.brk, fmS m i t (some (.int b)) (some (.str [c])) (R ++ [.str [c]])) := seq_n (expr_of (meth_own (k := 0) rfl rfl rfl (app_of (k := 0) rfl hR))) (seq_b rfl)
 have fin : ∀ {T : ST} {q : Bool}, T (fmS m i t (some (.int b)) (some (.str [c])) R) = some (q, fmS m i t (some (.int b)) (some (.str [c])) R) → y_seq (y_if T (y_seq (y_expr (s_meth .append (s_loc 1) (s_cons (s_loc 5) s_nil))) (y_seq y_brk y_nil)) y_nil) y_nil (fmS m i t (some (.int b)) (some (.str [c])) R) = some (if q then (.brk, fmS m i t (some (.int b)) (some (.str [c])) (R ++ [.str [c]])) else (.next, fmS m i t (some (.int b)) (some (.str [c])) R)) := fun {T q} h => by
  cases q with
  | false => exact seq_0 (if_f h rfl)
  | true => exact seq_0 (if_t h br)
 have t0 : s_cmp .Eq (s_loc 2) (s_c (.int 0)) (fmS m i t (some (.int b)) (some (.str [c])) R) = some (i == 0, fmS m i t (some (.int b)) (some (.str [c])) R) := cmp_of (v := .int i) (w := .int (0 : Nat)) rfl rfl (congrArg some (nat_eqb i 0))
 unfold tstN
 by_cases h : i = 0
 ·rw [if_pos h]
  rw [show (i == 0) = true by simpa using h] at t0
  exact seq_0 (if_t t0 (fin (cmp_of (v := .int (m &&& 61440 : Nat)) (w := .int b) (call_of (σ1 := fmS m i t (some (.int b)) (some (.str [c])) R) (cons_of rfl rfl) (ifmt_at m _)) rfl (congrArg some (nat_eqb _ b)))))
 ·rw [if_neg h]
  rw [show (i == 0) = false by simpa using h] at t0
  exact seq_0 (if_f t0 (fin (cmp_of (v := .int (m &&& b : Nat)) (w := .int b) (bin_of (v := .int m) (w := .int b) rfl rfl rfl) rfl (congrArg some (nat_eqb _ b)))))
theorem fm_else (m i : Nat) (t : V) (l4 l5 : Option V) (R : List V) (hR : R.length ≤ smallN) : fmElse (fmS m i t l4 l5 R) = some (.next, fmS m i t l4 l5 (R ++ [.str [if i = 0 then 63 else 45]])) := by
 have t0 : s_cmp .Eq (s_loc 2) (s_c (.int 0)) (fmS m i t l4 l5 R) = some (i == 0, fmS m i t l4 l5 R) := cmp_of (v := .int i) (w := .int (0 : Nat)) rfl rfl (congrArg some (nat_eqb i 0))
 have ap : ∀ d, y_seq (y_expr (s_meth .append (s_loc 1) (s_cons (s_c (.str [d])) s_nil))) y_nil (fmS m i t l4 l5 R) = some (.next, fmS m i t l4 l5 (R ++ [.str [d]])) := fun d => seq_0 (expr_of (meth_own (k := 0) rfl rfl rfl (app_of (k := 0) rfl hR)))
 by_cases h : i = 0
 ·rw [show (i == 0) = true by simpa using h] at t0
  rw [if_pos h]; exact seq_0 (if_t t0 (ap 63))
 ·rw [show (i == 0) = false by simpa using h] at t0
  rw [if_neg h]; exact seq_0 (if_f t0 (ap 45))
theorem fm_grp (m i : Nat) (t : V) (R : List V) (hR : R.length ≤ smallN) : ∀ (ps : List (Nat × Nat)) (fuel : Nat) (l4 l5 : Option V), ps.length < fuel → ∃ l4' l5', frL (a_pair 4 5) fmIn fmElse fuel (.fix (ps.map pairV)) (fmS m i t l4 l5 R) = some (.next, fmS m i t l4' l5' (R ++ [.str [pickN i m ps]])) := by
 intro ps
 induction ps with
 | nil =>
  intro fuel l4 l5 hf
  cases fuel with
  | zero => cases hf
  | succ fuel => exact ⟨l4, l5, (fr_end rfl).trans (fm_else m i t l4 l5 R hR)⟩
 | cons p ps ih =>
  intro fuel l4 l5 hf
  obtain ⟨b, c⟩ := p
  cases fuel with
  | zero => cases hf
  | succ fuel =>
   have e3 := fm_in m i b c t l4 l5 R hR
   have pk : pickN i m ((b, c) :: ps) = if tstN i m b then c else pickN i m ps := by
    unfold pickN
    rw [List.find?_cons]
    cases tstN i m b <;> rfl
   rw [pk]
   cases ht : tstN i m b with
   | false =>
    rw [ht] at e3
    obtain ⟨a4, a5, e⟩ := ih fuel (some (.int b)) (some (.str [c])) (Nat.lt_of_succ_lt_succ hf)
    exact ⟨a4, a5, (fr_step rfl rfl e3).trans e⟩
   | true =>
    rw [ht] at e3
    exact ⟨some (.int b), some (.str [c]), fr_brk rfl rfl e3⟩
noncomputable def picksN (m : Nat) : Nat → List (List (Nat × Nat)) → List Nat
 | _, [] => []
 | i, g :: gs => pickN i m g :: picksN m (i + 1) gs
theorem picks_len (m : Nat) : ∀ (gs : List (List (Nat × Nat))) (i : Nat), (picksN m i gs).length = gs.length
 | [], _ => rfl
 | g :: gs, i => by
  show (picksN m (i + 1) gs).length + 1 = _
  rw [picks_len m gs]; rfl
noncomputable abbrev fmBody : SY := y_seq (y_for (a_pair 4 5) (s_loc 3) fmIn fmElse) y_nil
theorem fm_all (m : Nat) : ∀ (gs : List (List (Nat × Nat))) (i : Nat) (R : List V) (l2 l3 l4 l5 : Option V), R.length + gs.length ≤ 1000 → (∀ g ∈ gs, g.length ≤ 1000) → ∃ l2' l3' l4' l5', enL (a_pair 2 3) fmBody y_nil (gs.map fun g => .tup (g.map pairV)) i ⟨[some (.int m), some (.own 0), l2, l3, l4, l5], [.lst R]⟩ = some (.next, ⟨[some (.int m), some (.own 0), l2', l3', l4', l5'], [.lst (R ++ (picksN m i gs).map fun c => .str [c])]⟩)
 | [], i, R, l2, l3, l4, l5, _, _ => ⟨l2, l3, l4, l5, by simp [enL, picksN, y_nil]⟩
 | g :: gs, i, R, l2, l3, l4, l5, hR, hg => by
  have hl := hg g (List.mem_cons_self ..)
  have hR' : R.length ≤ smallN := by unfold smallN; exact tA (tE _ _) (tA ‹_› (by decide))
  obtain ⟨a4, a5, e⟩ := fm_grp m i (.tup (g.map pairV)) R hR' g lots l4 l5 (by unfold lots; exact tB ‹_› (by decide))
  obtain ⟨b2, b3, b4, b5, e'⟩ := fm_all m gs (i + 1) (R ++ [.str [pickN i m g]]) (some (.int i)) (some (.tup (g.map pairV))) a4 a5 (by simp only [List.length_append, List.length_cons, List.length_nil] at hR ⊢; lia) fun x mx => hg x (List.mem_cons_of_mem _ mx)
  refine ⟨b2, b3, b4, b5, ?_⟩
  rw [List.map_cons]
  unfold enL
  rw [show a_pair 2 3 (.tup [.int (i : Int), .tup (g.map pairV)]) ⟨[some (.int m), some (.own 0), l2, l3, l4, l5], [.lst R]⟩ = some (fmS m i (.tup (g.map pairV)) l4 l5 R) from rfl]
  dsimp only
  have e3 : y_for (a_pair 4 5) (s_loc 3) fmIn fmElse (fmS m i (.tup (g.map pairV)) l4 l5 R) = some (.next, fmS m i (.tup (g.map pairV)) a4 a5 (R ++ [.str [pickN i m g]])) := by
   exact for_of rfl rfl e
  have e2 : fmBody (fmS m i (.tup (g.map pairV)) l4 l5 R) = some (.next, fmS m i (.tup (g.map pairV)) a4 a5 (R ++ [.str [pickN i m g]])) := by
   show (match y_for (a_pair 4 5) (s_loc 3) fmIn fmElse (fmS m i (.tup (g.map pairV)) l4 l5 R) with
    | some (.next, σ₁) => y_nil σ₁
    | r => r) = _
   rw [e3]
   rfl
  rw [e2]
  dsimp only
  rw [e']
  rw [show picksN m i (g :: gs) = pickN i m g :: picksN m (i + 1) gs from rfl, List.append_assoc]
  rfl
theorem filemode_at (m : Nat) (hp : List O) : g_filemode [.int m] hp = some (.str (picksN m 0 tabN), hp) := by
 obtain ⟨a2, a3, a4, a5, e⟩ := fm_all m tabN 0 [] none none none none (by decide) (by decide)
 rw [List.nil_append] at e
 have run : sem_filemode (σ0 [.int m] 5 []) = some (.ret (.str (picksN m 0 tabN)), ⟨[some (.int m), some (.own 0), a2, a3, a4, a5], [.lst ((picksN m 0 tabN).map fun c => .str [c])]⟩) := by
  unfold sem_filemode
  have h1 : y_asg 1 (s_list s_nil) (σ0 [.int m] 5 []) = some (.next, ⟨[some (.int m), some (.own 0), none, none, none, none], [.lst []]⟩) := by
   unfold y_asg s_list
   simp only [s_nil, List.length_nil, Nat.zero_le, if_true]
   rfl
  rw [y_seq, h1]
  dsimp only
  have h2 : y_enum (a_pair 2 3) (s_c tabV) fmBody y_nil ⟨[some (.int m), some (.own 0), none, none, none, none], [.lst []]⟩ = some (.next, ⟨[some (.int m), some (.own 0), a2, a3, a4, a5], [.lst ((picksN m 0 tabN).map fun c => .str [c])]⟩) := by
   unfold y_enum
   rw [tab_eq]
   dsimp only [s_c]
   exact e
  rw [y_seq]
  rw [show y_enum (a_pair 2 3) (s_c tabV) _ y_nil ⟨[some (.int m), some (.own 0), none, none, none, none], [.lst []]⟩ = _ from h2]
  dsimp only
  have st : ∀ l : List Nat, strsOf (l.map fun c => V.str [c]) = some (l.map fun c => [c]) := by
   intro l
   induction l with
   | nil => rfl
   | cons c l ih => simp [strsOf, ih]
  have fl : ∀ l : List Nat, (l.map fun c => [c]).flatten = l := by
   intro l
   induction l with
   | nil => rfl
   | cons c l ih => simp [ih]
  have sm : ((((picksN m 0 tabN).map fun c => [c]).map List.length).sum) ≤ smallN := by
   have : ∀ l : List Nat, ((l.map fun c => [c]).map List.length).sum = l.length := by
    intro l
    induction l with
    | nil => rfl
    | cons c l ih =>
     rw [List.map_cons, List.map_cons, List.sum_cons, ih]; simp only [List.length_cons, List.length_nil]; exact Nat.add_comm _ _
   rw [this, picks_len]; decide
  have h3 : s_meth .join (s_c (.str [])) (s_cons (s_loc 1) s_nil) ⟨[some (.int m), some (.own 0), a2, a3, a4, a5], [.lst ((picksN m 0 tabN).map fun c => .str [c])]⟩ = some (.str (picksN m 0 tabN), ⟨[some (.int m), some (.own 0), a2, a3, a4, a5], [.lst ((picksN m 0 tabN).map fun c => .str [c])]⟩) := by
   exact (meth_str (z := []) (vs := [.own 0]) rfl rfl (join_of (vs := (picksN m 0 tabN).map fun c => .str [c]) rfl (st _) sm)).trans (by rw [fl])
  rw [y_seq, y_ret]
  rw [h3]
 unfold g_filemode s_pure
 rw [if_pos (show [V.int (m : Int)].length = 1 from rfl), if_pos (show V.lows 0 [V.int (m : Int)] = true from rfl), run]
 rfl
end
noncomputable section
noncomputable def typL : List Nat := [63, 112, 99, 63, 100, 63, 98, 63, 45, 63, 108, 63, 115, 63, 63, 63]
noncomputable def rL : List Nat := [45, 114]
noncomputable def wL : List Nat := [45, 119]
noncomputable def xL : List Nat := [45, 120, 83, 115, 45, 120, 84, 116]
noncomputable def triN (m k : Nat) : List Nat := [rL.getD (m / 8 ^ (2 - k) % 8 / 4) 0, wL.getD (m / 8 ^ (2 - k) % 8 / 2 % 2) 0, xL.getD (4 * (k / 2) + 2 * (m / 2 ^ (11 - k) % 2) + m / 8 ^ (2 - k) % 8 % 2) 0]
noncomputable def rowN (m : Nat) : List Nat := typL.getD (m / 4096) 0 :: (triN m 0 ++ triN m 1 ++ triN m 2)
theorem fd_nat (a b : Nat) : (a : Int).fdiv (b : Int) = ((a / b : Nat) : Int) := by
 rw [Int.fdiv_eq_ediv_of_nonneg _ (by exact tG _)]; exact (Int.natCast_ediv a b).symm
theorem fm_nat (a b : Nat) : (a : Int).fmod (b : Int) = ((a % b : Nat) : Int) := by
 rw [Int.fmod_eq_emod_of_nonneg _ (by exact tG _)]; exact (Int.natCast_emod a b).symm
theorem idx_at {σ : Sg} {x : List Nat} {k : Nat} (h : k < x.length) (hz : x.length ≤ 1000) : idxV σ (.str x) (.int (k : Int)) = some (.str [x.getD k 0]) := by
 rw [idxV_str, if_pos (by omega), show (k : Int).toNat = k from rfl, List.getElem?_eq_getElem h]
 simp [List.getD, List.getElem?_eq_getElem h]
section
variable {σ : Sg} {x y : SE} {a b : Nat}
theorem b_fd (hx : x σ = some (.int a, σ)) {b : Nat} (hb : 0 < b) (hb2 : b < 1073741824) (hy : y σ = some (.int b, σ)) : s_bin .FloorDiv x y σ = some (.int ((a / b : Nat) : Int), σ) := by
 unfold s_bin
 rw [hx]; dsimp only; rw [hy]
 dsimp only [binop, num2, V.onI]
 rw [if_pos ⟨by lia, by assumption⟩, fd_nat]
theorem b_md (hx : x σ = some (.int a, σ)) {b : Nat} (hb : 0 < b) (hy : y σ = some (.int b, σ)) : s_bin .Mod x y σ = some (.int ((a % b : Nat) : Int), σ) := by
 unfold s_bin
 rw [hx]; dsimp only; rw [hy]
 dsimp only [binop, num2, V.onI]
 rw [if_pos (by lia), fm_nat]
theorem b_ad (hx : x σ = some (.int a, σ)) (hy : y σ = some (.int b, σ)) : s_bin .Add x y σ = some (.int ((a + b : Nat) : Int), σ) := by
 unfold s_bin
 rw [hx]; dsimp only; rw [hy]
 rfl
theorem b_ml (hx : x σ = some (.int a, σ)) (ha : a < 2 ^ 64) (hy : y σ = some (.int b, σ)) : s_bin .Mult x y σ = some (.int ((a * b : Nat) : Int), σ) := by
 unfold s_bin
 rw [hx]; dsimp only; rw [hy]
 dsimp only [binop, num2, V.onI]
 rw [if_pos (by simpa using ha)]
 rfl
theorem b_pw (hx : x σ = some (.int a, σ)) (ha : a < 2 ^ 64) (hy : y σ = some (.int b, σ)) (hb : b ≤ 1000) : s_bin .Pow x y σ = some (.int ((a ^ b : Nat) : Int), σ) := by
 unfold s_bin
 rw [hx]; dsimp only; rw [hy]
 dsimp only [binop, num2, V.onI]
 rw [if_pos ⟨by omega, by omega, by simpa using ha⟩]
 rw [show (b : Int).toNat = b from rfl]
 push_cast
 rfl
theorem b_sb (hx : x σ = some (.int a, σ)) (hy : y σ = some (.int b, σ)) (h : b ≤ a) : s_bin .Sub x y σ = some (.int ((a - b : Nat) : Int), σ) := by
 unfold s_bin
 rw [hx]; dsimp only; rw [hy]
 show some (V.int ((a : Int) - (b : Int)), σ) = _
 rw [show (a : Int) - (b : Int) = ((a - b : Nat) : Int) by omega]
theorem b_ix {z : List Nat} (hx : x σ = some (.str z, σ)) (hy : y σ = some (.int b, σ)) (h : b < z.length) (hz : z.length ≤ 1000) : s_idx x y σ = some (.str [z.getD b 0], σ) := s_idx_of hx hy (idx_at h hz)
theorem b_ss {z w : List Nat} (hx : x σ = some (.str z, σ)) (hy : y σ = some (.str w, σ)) (hz : z.length + w.length ≤ 1000) : s_bin .Add x y σ = some (.str (z ++ w), σ) := by
 unfold s_bin
 rw [hx]; dsimp only; rw [hy]
 exact if_pos (by unfold smallN; exact tA ‹_› (by decide))
end
theorem for_n {g : SA} {b o : SY} {k : Nat} {w : V} {ws : List V} {σ σ1 σ2 : Sg} {r : F × Sg} (hg : g w σ = some σ1) (hb : b σ1 = some (.next, σ2)) (h : frL g b o k (.fix ws) σ2 = some r) : frL g b o (k + 1) (.fix (w :: ws)) σ = some r := by
 exact (fr_step rfl hg hb).trans h
theorem for_0 {g : SA} {b : SY} {k : Nat} {σ : Sg} : frL g b y_nil (k + 1) (.fix []) σ = some (.next, σ) := rfl
noncomputable abbrev rowBody : SY := (y_seq (y_asg 3 (s_bin .Mod (s_bin .FloorDiv (s_loc 0) (s_bin .Pow (s_c (.int 8)) (s_bin .Sub (s_c (.int 2)) (s_loc 2)))) (s_c (.int 8))))
 (y_seq (y_asg 4 (s_bin .Mod (s_bin .FloorDiv (s_loc 0) (s_bin .Pow (s_c (.int 2)) (s_bin .Sub (s_c (.int 11)) (s_loc 2)))) (s_c (.int 2))))
 (y_seq (y_asg 1 (s_bin .Add (s_bin .Add (s_bin .Add (s_loc 1) (s_idx (s_c (.str [45, 114])) (s_bin .FloorDiv (s_loc 3) (s_c (.int 4))))) (s_idx (s_c (.str [45, 119])) (s_bin .Mod (s_bin .FloorDiv (s_loc 3) (s_c (.int 2))) (s_c (.int 2))))) (s_idx (s_c (.str [45, 120, 83, 115, 45, 120, 84, 116])) (s_bin .Add (s_bin .Add (s_bin .Mult (s_c (.int 4)) (s_bin .FloorDiv (s_loc 2) (s_c (.int 2)))) (s_bin .Mult (s_c (.int 2)) (s_loc 4))) (s_bin .Mod (s_loc 3) (s_c (.int 2)))))))
 y_nil)))
theorem row_turn (m k : Nat) (hk : k < 3) (r : List Nat) (hr : r.length ≤ 100) (l3 l4 : Option V) : ∃ l3' l4', rowBody ⟨[some (.int m), some (.str r), some (.int k), l3, l4], []⟩ = some (.next, ⟨[some (.int m), some (.str (r ++ triN m k)), some (.int k), l3', l4'], []⟩) := by
 have f8 : 0 < 8 ^ (2 - k) ∧ 8 ^ (2 - k) < 1073741824 := by
  match k, hk with
  | 0, _ => decide
  | 1, _ => decide
  | 2, _ => decide
 have f2 : 0 < 2 ^ (11 - k) ∧ 2 ^ (11 - k) < 1073741824 := by
  match k, hk with
  | 0, _ => decide
  | 1, _ => decide
  | 2, _ => decide
 have e3 : y_asg 3 (s_bin .Mod (s_bin .FloorDiv (s_loc 0) (s_bin .Pow (s_c (.int 8)) (s_bin .Sub (s_c (.int 2)) (s_loc 2)))) (s_c (.int 8))) ⟨[some (.int m), some (.str r), some (.int k), l3, l4], []⟩ = some (.next, ⟨[some (.int m), some (.str r), some (.int k), some (.int ((m / 8 ^ (2 - k) % 8 : Nat) : Int)), l4], []⟩) := by
  have := b_md (y := s_c (.int 8)) (b := 8) (b_fd (a := m) (x := s_loc 0) (σ := ⟨[some (.int m), some (.str r), some (.int k), l3, l4], []⟩) rfl f8.1 f8.2 (b_pw (a := 8) (x := s_c (.int 8)) rfl (by decide) (b_sb (a := 2) (b := k) (x := s_c (.int 2)) (y := s_loc 2) rfl rfl (by exact tI ‹_›)) (by simp +arith))) (by decide) rfl
  unfold y_asg
  rw [this]
  rfl
 have e4 : y_asg 4 (s_bin .Mod (s_bin .FloorDiv (s_loc 0) (s_bin .Pow (s_c (.int 2)) (s_bin .Sub (s_c (.int 11)) (s_loc 2)))) (s_c (.int 2))) ⟨[some (.int m), some (.str r), some (.int k), some (.int ((m / 8 ^ (2 - k) % 8 : Nat) : Int)), l4], []⟩ = some (.next, ⟨[some (.int m), some (.str r), some (.int k), some (.int ((m / 8 ^ (2 - k) % 8 : Nat) : Int)), some (.int ((m / 2 ^ (11 - k) % 2 : Nat) : Int))], []⟩) := by
  have := b_md (y := s_c (.int 2)) (b := 2) (b_fd (a := m) (x := s_loc 0) (σ := ⟨[some (.int m), some (.str r), some (.int k), some (.int ((m / 8 ^ (2 - k) % 8 : Nat) : Int)), l4], []⟩) rfl f2.1 f2.2 (b_pw (a := 2) (x := s_c (.int 2)) rfl (by decide) (b_sb (a := 11) (b := k) (x := s_c (.int 11)) (y := s_loc 2) rfl rfl (by lia)) (by simp +arith))) (by decide) rfl
  unfold y_asg
  rw [this]
  rfl
 refine ⟨some (.int ((m / 8 ^ (2 - k) % 8 : Nat) : Int)), some (.int ((m / 2 ^ (11 - k) % 2 : Nat) : Int)), ?_⟩
 refine seq_n e3 (seq_n e4 (seq_n (σ' := ⟨[some (.int m), some (.str (r ++ triN m k)), some (.int k), some (.int ((m / 8 ^ (2 - k) % 8 : Nat) : Int)), some (.int ((m / 2 ^ (11 - k) % 2 : Nat) : Int))], []⟩) ?_ rfl))
 have F8 : m / 8 ^ (2 - k) % 8 < 8 := Nat.mod_lt _ (by decide)
 have F2 : m / 2 ^ (11 - k) % 2 < 2 := Nat.mod_lt _ (by decide)
 unfold triN
 generalize m / 8 ^ (2 - k) % 8 = f at F8 ⊢
 generalize m / 2 ^ (11 - k) % 2 = u at F2 ⊢
 have i1 := b_ix (z := rL) (x := s_c (.str [45, 114])) (σ := ⟨[some (.int m), some (.str r), some (.int k), some (.int (f : Int)), some (.int (u : Int))], []⟩) rfl (b_fd (a := f) (x := s_loc 3) (y := s_c (.int 4)) (b := 4) rfl (by decide) (by decide) rfl) (by show _ < 2; lia) (by decide)
 have i2 := b_ix (z := wL) (x := s_c (.str [45, 119])) (σ := ⟨[some (.int m), some (.str r), some (.int k), some (.int (f : Int)), some (.int (u : Int))], []⟩) rfl (b_md (y := s_c (.int 2)) (b := 2) (b_fd (a := f) (x := s_loc 3) (y := s_c (.int 2)) (b := 2) rfl (by decide) (by decide) rfl) (by decide) rfl) (by show _ < 2; lia) (by decide)
 have i3 := b_ix (z := xL) (x := s_c (.str [45, 120, 83, 115, 45, 120, 84, 116])) (σ := ⟨[some (.int m), some (.str r), some (.int k), some (.int (f : Int)), some (.int (u : Int))], []⟩) rfl
  (b_ad (b_ad (b_ml (a := 4) (x := s_c (.int 4)) rfl (by decide) (b_fd (a := k) (x := s_loc 2) (y := s_c (.int 2)) (b := 2) rfl (by decide) (by decide) rfl)) (b_ml (a := 2) (x := s_c (.int 2)) rfl (by decide) (show s_loc 4 _ = some (.int (u : Int), _) from rfl))) (b_md (a := f) (x := s_loc 3) (y := s_c (.int 2)) (b := 2) rfl (by decide) rfl)) (by show _ < 8; lia) (by decide)
 have all := b_ss (b_ss (b_ss (z := r) (x := s_loc 1) rfl i1 (by simp; exact tA ‹_› (by decide))) i2 (by simp; exact tA ‹_› (by decide))) i3 (by simp; exact tA ‹_› (by decide))
 rw [y_asg, all]
 simp [Sg.put]
theorem row_at (m : Nat) (hm : m < 65536) (hp : List O) : g_row [.int m] hp = some (.str (rowN m), hp) := by
 have t16 : m / 4096 < 16 := by lia
 have run : ∃ σ, sem_row (σ0 [.int m] 4 []) = some (.ret (.str (rowN m)), σ) := by
  unfold sem_row
  have h1 : y_asg 1 (s_idx (s_c (.str typL)) (s_bin .FloorDiv (s_loc 0) (s_c (.int 4096)))) (σ0 [.int m] 4 []) = some (.next, ⟨[some (.int m), some (.str [typL.getD (m / 4096) 0]), none, none, none], []⟩) := by
   have := b_ix (z := typL) (x := s_c (.str typL)) (σ := σ0 [.int m] 4 []) rfl (b_fd (a := m) (x := s_loc 0) (y := s_c (.int 4096)) (b := 4096) rfl (by decide) (by decide) rfl) t16 (by decide)
   rw [y_asg, this]
   rfl
  rw [y_seq]
  rw [show y_asg 1 (s_idx (s_c (.str [63, 112, 99, 63, 100, 63, 98, 63, 45, 63, 108, 63, 115, 63, 63, 63])) (s_bin .FloorDiv (s_loc 0) (s_c (.int 4096)))) (σ0 [.int m] 4 []) = _ from h1]
  dsimp only
  obtain ⟨a3, a4, q1⟩ := row_turn m 0 (by decide) [typL.getD (m / 4096) 0] (by simp) none none
  obtain ⟨b3, b4, q2⟩ := row_turn m 1 (by decide) ([typL.getD (m / 4096) 0] ++ triN m 0) (by simp [triN]) a3 a4
  obtain ⟨c3, c4, q3⟩ := row_turn m 2 (by decide) ([typL.getD (m / 4096) 0] ++ triN m 0 ++ triN m 1) (by simp [triN]) b3 b4
  have h2 : y_for (a_name 2) (s_blt .range (s_cons (s_c (.int 3)) s_nil)) rowBody y_nil ⟨[some (.int m), some (.str [typL.getD (m / 4096) 0]), none, none, none], []⟩ = some (.next, ⟨[some (.int m), some (.str (rowN m)), some (.int 2), c3, c4], []⟩) := by
   rw [show rowN m = [typL.getD (m / 4096) 0] ++ triN m 0 ++ triN m 1 ++ triN m 2 by simp [rowN]]
   exact for_of (src := .fix [.int 0, .int 1, .int 2]) (v := .rng 0 3) rfl rfl (for_n (k := 999999) rfl q1 (for_n (k := 999998) rfl q2 (for_n (k := 999997) rfl q3 (for_0 (k := 999996)))))
  rw [y_seq, h2]
  exact ⟨_, rfl⟩
 obtain ⟨σ, run⟩ := run
 unfold g_row s_pure
 rw [if_pos (show [V.int (m : Int)].length = 1 from rfl), if_pos (show V.lows 0 [V.int (m : Int)] = true from rfl), run]
 rfl
end
noncomputable section
noncomputable def grp0 : List (Nat × Nat) := [(40960, 108), (49152, 115), (32768, 45), (24576, 98), (16384, 100), (8192, 99), (4096, 112)]
noncomputable def grps : List (List (Nat × Nat)) := [[(256, 114)], [(128, 119)], [(2112, 115), (2048, 83), (64, 120)], [(32, 114)], [(16, 119)], [(1032, 115), (1024, 83), (8, 120)], [(4, 114)], [(2, 119)], [(513, 116), (512, 84), (1, 120)]]
noncomputable def pk0 (v : Nat) : Nat := match grp0.find? fun p => v == p.1 with
 | some p => p.2
 | none => 63
theorem t_pk0 : ((List.range 16).all fun t => pk0 (4096 * t) == typL.getD t 0) = true := by decide +kernel
theorem and_low (m b : Nat) (h : b < 4096) : m &&& b = (m % 4096) &&& b := by
 have h1 : (m &&& b) % 2 ^ 12 = (m % 2 ^ 12) &&& (b % 2 ^ 12) := Nat.and_mod_two_pow
 have h2 : m &&& b ≤ b := Nat.and_le_right
 rw [show (2 : Nat) ^ 12 = 4096 from rfl, Nat.mod_eq_of_lt (show b < 4096 from h), Nat.mod_eq_of_lt (show m &&& b < 4096 by exact tB ‹_› ‹_›)] at h1
 exact h1
theorem and_high (m : Nat) (h : m < 65536) : m &&& 61440 = 4096 * (m / 4096) := by
 have h1 : (m &&& 61440) / 2 ^ 12 = (m / 2 ^ 12) &&& (61440 / 2 ^ 12) := Nat.and_div_two_pow
 have h2 : (m &&& 61440) % 2 ^ 12 = (m % 2 ^ 12) &&& (61440 % 2 ^ 12) := Nat.and_mod_two_pow
 rw [show (61440 : Nat) % 2 ^ 12 = 0 from rfl, Nat.and_zero] at h2
 rw [show (61440 : Nat) / 2 ^ 12 = 2 ^ 4 - 1 from rfl, Nat.and_two_pow_sub_one_eq_mod] at h1
 rw [show (2 : Nat) ^ 12 = 4096 from rfl] at h1 h2
 rw [Nat.mod_eq_of_lt (show m / 4096 < 2 ^ 4 by omega)] at h1
 lia
theorem pick_low (m i : Nat) : ∀ (g : List (Nat × Nat)), (g.all fun p => decide (p.1 < 4096)) = true → pickN (i + 1) m g = pickN (i + 1) (m % 4096) g := by
 intro g hg
 have : g.find? (fun p => tstN (i + 1) m p.1) = g.find? (fun p => tstN (i + 1) (m % 4096) p.1) := by
  induction g with
  | nil => rfl
  | cons p g ih =>
   rw [List.all_cons, Bool.and_eq_true] at hg
   rw [List.find?_cons, List.find?_cons, ih hg.2]
   have e : tstN (i + 1) m p.1 = tstN (i + 1) (m % 4096) p.1 := by
    unfold tstN
    rw [if_neg (Nat.succ_ne_zero i), if_neg (Nat.succ_ne_zero i), and_low m p.1 (of_decide_eq_true hg.1)]
   rw [e]
 unfold pickN
 rw [this]
theorem picks_low (m : Nat) : ∀ (gs : List (List (Nat × Nat))) (i : Nat), (gs.all fun g => g.all fun p => decide (p.1 < 4096)) = true → picksN m (i + 1) gs = picksN (m % 4096) (i + 1) gs
 | [], _, _ => rfl
 | g :: gs, i, h => by
  rw [List.all_cons, Bool.and_eq_true] at h
  show pickN (i + 1) m g :: picksN m (i + 1 + 1) gs = pickN (i + 1) (m % 4096) g :: picksN (m % 4096) (i + 1 + 1) gs
  rw [pick_low m i g h.1, picks_low m gs (i + 1) h.2]
theorem md_low {a b c : Nat} (m : Nat) (h : a * c = 4096) (d : b ∣ c) : m / a % b = m % 4096 / a % b := by rw [← h, Nat.mod_mul_right_div_self, Nat.mod_mod_of_dvd _ d]
theorem tri_low (m k : Nat) (hk : k < 3) : triN m k = triN (m % 4096) k := by
 match k, hk with
 | 0, _ => unfold triN; rw [md_low (a := 8 ^ (2 - 0)) (c := 64) m rfl (by decide), md_low (a := 2 ^ (11 - 0)) (c := 2) m rfl (by decide)]
 | 1, _ => unfold triN; rw [md_low (a := 8 ^ (2 - 1)) (c := 512) m rfl (by decide), md_low (a := 2 ^ (11 - 1)) (c := 4) m rfl (by decide)]
 | 2, _ => unfold triN; rw [md_low (a := 8 ^ (2 - 2)) (c := 4096) m rfl (by decide), md_low (a := 2 ^ (11 - 2)) (c := 8) m rfl (by decide)]
theorem pick_mask (m i k : Nat) : ∀ (g : List (Nat × Nat)), (g.all fun p => k &&& p.1 == p.1) = true → pickN (i + 1) m g = pickN (i + 1) (m &&& k) g := by
 intro g hg
 have : g.find? (fun p => tstN (i + 1) m p.1) = g.find? (fun p => tstN (i + 1) (m &&& k) p.1) := by
  induction g with
  | nil => rfl
  | cons p g ih =>
   rw [List.all_cons, Bool.and_eq_true] at hg
   rw [List.find?_cons, List.find?_cons, ih hg.2]
   have e : tstN (i + 1) m p.1 = tstN (i + 1) (m &&& k) p.1 := by
    unfold tstN
    rw [if_neg (Nat.succ_ne_zero i), if_neg (Nat.succ_ne_zero i), Nat.and_assoc, eq_of_beq hg.1]
   rw [e]
 unfold pickN
 rw [this]
theorem picks_mask (m k : Nat) : ∀ (gs : List (List (Nat × Nat))) (i : Nat), (gs.all fun g => g.all fun p => k &&& p.1 == p.1) = true → picksN m (i + 1) gs = picksN (m &&& k) (i + 1) gs
 | [], _, _ => rfl
 | g :: gs, i, h => by
  rw [List.all_cons, Bool.and_eq_true] at h
  show pickN (i + 1) m g :: picksN m (i + 1 + 1) gs = pickN (i + 1) (m &&& k) g :: picksN (m &&& k) (i + 1 + 1) gs
  rw [pick_mask m i k g h.1, picks_mask m k gs (i + 1) h.2]
noncomputable abbrev grp3 (k : Nat) : List (List (Nat × Nat)) := (grps.drop (3 * k)).take 3
theorem t_tri : ((List.range 3).all fun k => (List.range 8).all fun v => (List.range 2).all fun s => picksN (v * 8 ^ (2 - k) + s * 2 ^ (11 - k)) (3 * k + 1) (grp3 k) == [rL.getD (v / 4) 0, wL.getD (v / 2 % 2) 0, xL.getD (4 * (k / 2) + 2 * s + v % 2) 0]) = true := by decide +kernel
theorem t_mask : ((List.range 4096).all fun r => (r &&& 2496 == r / 64 % 8 * 64 + r / 2048 % 2 * 2048) && ((r &&& 1080 == r / 8 % 8 * 8 + r / 1024 % 2 * 1024) && (r &&& 519 == r / 1 % 8 * 1 + r / 512 % 2 * 512))) = true := by decide +kernel
theorem tri_pk {r k mask : Nat} (hk : k < 3) (g : ((grp3 k).all fun g => g.all fun p => mask &&& p.1 == p.1) = true) (e : r &&& mask = r / 8 ^ (2 - k) % 8 * 8 ^ (2 - k) + r / 2 ^ (11 - k) % 2 * 2 ^ (11 - k)) : picksN r (3 * k + 1) (grp3 k) = triN r k := by
 rw [picks_mask r mask _ (3 * k) g, e]
 exact eq_of_beq (List.all_eq_true.mp (List.all_eq_true.mp (List.all_eq_true.mp t_tri k (List.mem_range.mpr hk)) (r / 8 ^ (2 - k) % 8) (List.mem_range.mpr (Nat.mod_lt _ (by decide)))) (r / 2 ^ (11 - k) % 2) (List.mem_range.mpr (Nat.mod_lt _ (by decide))))
theorem low_ok {r : Nat} (h : r < 4096) : picksN r 1 grps = triN r 0 ++ triN r 1 ++ triN r 2 := by
 have t := List.all_eq_true.mp t_mask r (List.mem_range.mpr h)
 rw [Bool.and_eq_true, Bool.and_eq_true] at t
 rw [← tri_pk (r := r) (k := 0) (by decide) (by decide +kernel) (eq_of_beq t.1), ← tri_pk (r := r) (k := 1) (by decide) (by decide +kernel) (eq_of_beq t.2.1), ← tri_pk (r := r) (k := 2) (by decide) (by decide +kernel) (eq_of_beq t.2.2)]
 rfl
theorem fm_row (m : Nat) (h : m < 65536) : picksN m 0 tabN = rowN m := by
 show pickN 0 m grp0 :: picksN m (0 + 1) grps = rowN m
 have e0 : pickN 0 m grp0 = typL.getD (m / 4096) 0 := by
  have e : pickN 0 m grp0 = pk0 (m &&& 61440) := rfl
  rw [e, and_high m h]
  exact eq_of_beq (List.all_eq_true.mp t_pk0 (m / 4096) (List.mem_range.mpr (by lia)))
 have e1 : picksN (m % 4096) (0 + 1) grps = triN (m % 4096) 0 ++ triN (m % 4096) 1 ++ triN (m % 4096) 2 := low_ok (Nat.mod_lt _ (by decide))
 rw [e0, picks_low m grps 0 (by decide), e1]
 unfold rowN
 rw [tri_low m 0 (by decide), tri_low m 1 (by decide), tri_low m 2 (by decide)]
theorem fm_at (m : Nat) (h : m < 65536) (hp : List O) : g_filemode [.int m] hp = some (.str (rowN m), hp) := by rw [filemode_at, fm_row m h]
theorem row_len (m : Nat) : (rowN m).length = 10 := by simp [rowN, triN]
noncomputable def okHd (c : Nat) : Bool := typL.contains c
noncomputable def okSg (c : Nat) : Bool := [45, 114, 119, 120, 83, 115, 84, 116].contains c
theorem tri_ok (m k : Nat) (hk : k < 3) : (triN m k).all okSg = true := by
 have t : ((List.range 3).all fun k => (List.range 8).all fun v => (List.range 2).all fun s => [rL.getD (v / 4) 0, wL.getD (v / 2 % 2) 0, xL.getD (4 * (k / 2) + 2 * s + v % 2) 0].all okSg) = true := by decide +kernel
 exact List.all_eq_true.mp (List.all_eq_true.mp (List.all_eq_true.mp t k (List.mem_range.mpr hk)) (m / 8 ^ (2 - k) % 8) (List.mem_range.mpr (Nat.mod_lt _ (by decide)))) (m / 2 ^ (11 - k) % 2) (List.mem_range.mpr (Nat.mod_lt _ (by decide)))
theorem row_ok (m : Nat) (h : m < 65536) : ∃ c r, rowN m = c :: r ∧ okHd c = true ∧ r.all okSg = true := by
 refine ⟨_, _, rfl, ?_, ?_⟩
 ·have t : ((List.range 16).all fun t => okHd (typL.getD t 0)) = true := by decide +kernel
  exact List.all_eq_true.mp t (m / 4096) (List.mem_range.mpr (by lia))
 ·rw [List.all_append, List.all_append, tri_ok m 0 (by decide), tri_ok m 1 (by decide), tri_ok m 2 (by decide)]; rfl
end
noncomputable section
section
variable {t : ST} {s u b : SY} {x y : SE} {σ σ1 σ2 : Sg} {r : F × Sg} {v w : V} {i k : Nat}
end
noncomputable def escN (c : Nat) : List Nat := (trMap c).getD [c]
noncomputable def plainC (c : Nat) : Bool := c != 42 && c != 63 && c != 91 && decide (c < 128)
theorem escape_at (c : Nat) (h : c < 128) (hp : List O) : g_escape [.str [c]] hp = some (.str (escN c), hp) := by
 have run : sem_escape (σ0 [.str [c]] 0 []) = some (.ret (.str (escN c)), σ0 [.str [c]] 0 []) := by
  unfold sem_escape
  exact seq_ret (if_t (truth_of (v := .bool true) (blt_of (vs := [.str [c], .raw (.type "str")]) rfl rfl) rfl) (seq_ret (ret_of (trl_of rfl h))))
 unfold g_escape s_pure
 rw [if_pos (show [V.str [c]].length = 1 from rfl), if_pos (show V.lows 0 [V.str [c]] = true from rfl), run]
 rfl
noncomputable abbrev trS (P : List Nat) (i : Nat) (l7 l8 l9 : Option V) (R : List V) : Sg := ⟨[some (.str P), some (.own 0), some (.str [46]), some (.own 1), some (.app 1), some (.int i), some (.int P.length), l7, l8, l9, none, none, none], [.obj, .lst R]⟩
noncomputable abbrev trT : ST := s_cmp .Lt (s_loc 5) (s_loc 6)
noncomputable abbrev trStar : SY := (y_seq (y_if (s_or (s_not (s_truth (s_loc 3))) (s_or (s_cmp .IsNot (s_idx (s_loc 3) (s_neg (s_c (.int 1)))) (s_loc 1)) (s_t false))) (y_seq (y_expr (s_app (s_loc 4) (s_loc 1)))
  y_nil) y_nil)
  y_nil)
noncomputable abbrev trSet : SY := (y_seq (y_asg 8 (s_loc 5))
   (y_seq (y_if (s_and (s_cmp .Lt (s_loc 8) (s_loc 6)) (s_and (s_cmp .Eq (s_idx (s_loc 0) (s_loc 8)) (s_c (.str [33]))) (s_t true))) (y_seq (y_asg 8 (s_bin .Add (s_loc 8) (s_c (.int 1))))
   y_nil) y_nil)
   (y_seq (y_if (s_and (s_cmp .Lt (s_loc 8) (s_loc 6)) (s_and (s_cmp .Eq (s_idx (s_loc 0) (s_loc 8)) (s_c (.str [93]))) (s_t true))) (y_seq (y_asg 8 (s_bin .Add (s_loc 8) (s_c (.int 1))))
   y_nil) y_nil)
   (y_seq (y_while (s_and (s_cmp .Lt (s_loc 8) (s_loc 6)) (s_and (s_cmp .NotEq (s_idx (s_loc 0) (s_loc 8)) (s_c (.str [93]))) (s_t true))) (y_seq (y_asg 8 (s_bin .Add (s_loc 8) (s_c (.int 1))))
   y_nil))
   (y_seq (y_if (s_cmp .GtE (s_loc 8) (s_loc 6)) (y_seq (y_expr (s_app (s_loc 4) (s_c (.str [92, 91]))))
   y_nil) (y_seq (y_asg 9 (s_slc (s_loc 0) (s_loc 5) (s_loc 8)))
   (y_seq (y_if (s_cmp .NotIn (s_c (.str [45])) (s_loc 9)) (y_seq (y_asg 9 (s_meth .replace (s_loc 9) (s_cons (s_c (.str [92])) (s_cons (s_c (.str [92, 92])) s_nil))))
    y_nil) y_no)
   (y_seq (y_asg 9 (s_sub subGood (s_loc 9)))
   (y_seq (y_asg 5 (s_bin .Add (s_loc 8) (s_c (.int 1))))
   (y_seq (y_if (s_not (s_truth (s_loc 9))) (y_seq (y_expr (s_app (s_loc 4) (s_c (.str [40, 63, 33, 41]))))
    y_nil) (y_seq (y_if (s_cmp .Eq (s_loc 9) (s_c (.str [33]))) (y_seq (y_expr (s_app (s_loc 4) (s_c (.str [46]))))
    y_nil) (y_seq (y_if (s_cmp .Eq (s_idx (s_loc 9) (s_c (.int 0))) (s_c (.str [33]))) (y_seq (y_asg 9 (s_bin .Add (s_c (.str [94])) (s_slc (s_loc 9) (s_c (.int 1)) (s_c .none))))
     y_nil) (y_seq (y_if (s_cmp .In (s_idx (s_loc 9) (s_c (.int 0))) (s_tup (s_cons (s_c (.str [94])) (s_cons (s_c (.str [91])) s_nil)))) (y_seq (y_asg 9 (s_bin .Add (s_c (.str [92])) (s_loc 9)))
     y_nil) y_nil)
     y_nil))
    (y_seq (y_expr (s_app (s_loc 4) (s_joinL (s_cons (s_c (.str [91])) (s_cons (s_fmt (s_loc 9)) (s_cons (s_c (.str [93])) s_nil))))))
    y_nil)))
    y_nil))
   y_nil))))))
   y_nil)))))
noncomputable abbrev trBody : SY := (y_seq (y_asg 7 (s_idx (s_loc 0) (s_loc 5)))
 (y_seq (y_asg 5 (s_bin .Add (s_loc 5) (s_c (.int 1))))
 (y_seq (y_if (s_cmp .Eq (s_loc 7) (s_c (.str [42]))) trStar (y_seq (y_if (s_cmp .Eq (s_loc 7) (s_c (.str [63]))) (y_seq (y_expr (s_app (s_loc 4) (s_loc 2)))
  y_nil) (y_seq (y_if (s_cmp .Eq (s_loc 7) (s_c (.str [91]))) trSet (y_seq (y_expr (s_app (s_loc 4) (s_call g_escape (s_cons (s_loc 7) s_nil))))
   y_nil))
  y_nil))
  y_nil))
 y_nil)))
theorem tr2_eq : sem_translate2 = (y_seq (y_asg 3 (s_list s_nil))
 (y_seq (y_asg 4 (s_attr (s_loc 3)))
 (y_seq (y_pair 5 6 (s_tup (s_cons (s_c (.int 0)) (s_cons (s_blt .len (s_cons (s_loc 0) s_nil)) s_nil))))
 (y_seq (y_while trT trBody)
 (y_seq (y_assert (s_cmp .Eq (s_loc 5) (s_loc 6)))
 (y_seq (y_ret (s_loc 3))
 y_nil)))))) := rfl
section
variable {P : List Nat} {i c : Nat} {l7 l8 l9 : Option V} {R : List V}
theorem idx_str {σ : Sg} (h : P[i]? = some c) (hi : i < 1000000) : idxV σ (.str P) (.int (i : Int)) = some (.str [c]) := by
 rw [idxV_str, if_pos (by omega), show (i : Int).toNat = i from rfl, h]; rfl
theorem tr_c (h : P[i]? = some c) (hi : i < 1000) : y_asg 7 (s_idx (s_loc 0) (s_loc 5)) (trS P i l7 l8 l9 R) = some (.next, trS P i (some (.str [c])) l8 l9 R) :=
 asg_of (s_idx_of (u := .str P) (v := .int i) rfl rfl (idx_str h (by exact tC ‹_› (by decide))))
theorem tr_i : y_asg 5 (s_bin .Add (s_loc 5) (s_c (.int 1))) (trS P i l7 l8 l9 R) = some (.next, trS P (i + 1) l7 l8 l9 R) := asg_of (b_ad (a := i) (b := 1) rfl rfl)
theorem tr_eq (d : Nat) : s_cmp .Eq (s_loc 7) (s_c (.str [d])) (trS P i (some (.str [c])) l8 l9 R) = some ([c] == [d], trS P i (some (.str [c])) l8 l9 R) := cmp_of (v := .str [c]) (w := .str [d]) rfl rfl rfl
theorem ne1 {c d : Nat} (h : c ≠ d) : ([c] == [d]) = false := by simpa using h
theorem tr_app {x : SE} {v : V} (hx : x (trS P i l7 l8 l9 R) = some (v, trS P i l7 l8 l9 R)) (hR : R.length ≤ 1000) : y_expr (s_app (s_loc 4) x) (trS P i l7 l8 l9 R) = some (.next, trS P i l7 l8 l9 (R ++ [v])) := by
 exact expr_of (app_a (k := 1) (vs := R) rfl hx rfl (tA hR (by decide)))
theorem tr_plain (h : P[i]? = some c) (hi : i < 1000) (hc : plainC c = true) (hR : R.length ≤ 1000) : trBody (trS P i l7 l8 l9 R) = some (.next, trS P (i + 1) (some (.str [c])) l8 l9 (R ++ [.str (escN c)])) := by
 simp only [plainC, Bool.and_eq_true, bne_iff_ne, decide_eq_true_eq] at hc
 refine seq_n (tr_c h hi) (seq_n tr_i (seq_n (if_f (tr_eq 42 |>.trans (by rw [ne1 hc.1.1.1])) (seq_n (if_f (tr_eq 63 |>.trans (by rw [ne1 hc.1.1.2])) (seq_n (if_f (tr_eq 91 |>.trans (by rw [ne1 hc.1.2])) (seq_n (tr_app ?_ hR) rfl)) rfl)) rfl)) rfl))
 unfold s_call
 rw [show s_cons (s_loc 7) s_nil (trS P (i + 1) (some (.str [c])) l8 l9 R) = some ([.str [c]], trS P (i + 1) (some (.str [c])) l8 l9 R) from rfl]
 dsimp only
 rw [escape_at c hc.2]
theorem tr_star {rs : List (List Nat)} (h : P[i]? = some 42) (hi : i < 1000) (hR : rs.length ≤ 1000) : trBody (trS P i l7 l8 l9 (rs.map .str)) = some (.next, trS P (i + 1) (some (.str [42])) l8 l9 (rs.map .str ++ [.own 0])) := by
 have hR' : (rs.map V.str).length ≤ smallN := by rw [List.length_map]; unfold smallN; exact tA ‹_› (by decide)
 refine seq_n (tr_c h hi) (seq_n tr_i (seq_n (if_t (tr_eq 42) (seq_n (if_t (σ1 := trS P (i + 1) (some (.str [42])) l8 l9 (rs.map .str)) ?_ (seq_n (tr_app (v := .own 0) rfl (by rw [List.length_map]; omega)) rfl)) rfl)) rfl))
 have t0 : s_truth (s_loc 3) (trS P (i + 1) (some (.str [42])) l8 l9 (rs.map .str)) = some (!(rs.map V.str).isEmpty, trS P (i + 1) (some (.str [42])) l8 l9 (rs.map .str)) := by
  unfold s_truth
  rw [show s_loc 3 (trS P (i + 1) (some (.str [42])) l8 l9 (rs.map .str)) = some (.own 1, trS P (i + 1) (some (.str [42])) l8 l9 (rs.map .str)) from rfl]
  show (match (if (rs.map V.str).length ≤ smallN then some (!(rs.map V.str).isEmpty) else none) with
   | some b => some (b, _)
   | none => none) = _
  rw [if_pos hR']
 have n0 : s_not (s_truth (s_loc 3)) (trS P (i + 1) (some (.str [42])) l8 l9 (rs.map .str)) = some ((rs.map V.str).isEmpty, trS P (i + 1) (some (.str [42])) l8 l9 (rs.map .str)) := by
  unfold s_not
  rw [t0]
  simp
 unfold s_or
 rw [n0]
 cases rs with
 | nil => rfl
 | cons r0 rt =>
  show (match s_cmp .IsNot (s_idx (s_loc 3) (s_neg (s_c (.int 1)))) (s_loc 1) (trS P (i + 1) (some (.str [42])) l8 l9 ((r0 :: rt).map .str)) with
   | some (false, σ₁) => s_t false σ₁
   | some (true, σ₁) => some (true, σ₁)
   | none => none) = _
  have e1 : idxV (trS P (i + 1) (some (.str [42])) l8 l9 ((r0 :: rt).map .str)) (.own 1) (.int (-1)) = some (.str ((r0 :: rt).getLast (by simp))) := idx_end (vs := (r0 :: rt).map .str) rfl (by rw [List.getLast?_map, List.getLast?_eq_some_getLast (by simp)]; rfl) (by rw [List.length_map]; exact tB hR (by decide))
  have e2 := cmp_of (op := .IsNot) (x := s_idx (s_loc 3) (s_neg (s_c (.int 1)))) (y := s_loc 1) (w := .own 0) (c := true) (s_idx_of (x := s_loc 3) (y := s_neg (s_c (.int 1))) (u := .own 1) (v := .int (-1)) (σ := trS P (i + 1) (some (.str [42])) l8 l9 ((r0 :: rt).map .str)) rfl rfl e1) rfl rfl
  rw [e2]
theorem tr_lt (h : i < P.length) : trT (trS P i l7 l8 l9 R) = some (true, trS P i l7 l8 l9 R) := cmp_of (v := .int i) (w := .int P.length) rfl rfl (by show some (decide ((i : Int) < (P.length : Int))) = _; rw [decide_eq_true (by exact Int.ofNat_lt.mpr ‹_›)])
theorem tr_end : trT (trS P P.length l7 l8 l9 R) = some (false, trS P P.length l7 l8 l9 R) := cmp_of (v := .int P.length) (w := .int P.length) rfl rfl (by show some (decide ((P.length : Int) < (P.length : Int))) = _; rw [decide_eq_false (by simp)])
theorem tr_loop : ∀ (cs : List Nat) (i : Nat) (l7 : Option V) (rs : List (List Nat)) (k : Nat), P.drop i = cs ++ [42] → cs.all plainC = true → P.length ≤ 100 → rs.length + cs.length ≤ 500 → cs.length + 1 < k →
  whL trT trBody k (trS P i l7 l8 l9 (rs.map .str)) = some (.next, trS P P.length (some (.str [42])) l8 l9 ((rs ++ cs.map escN).map .str ++ [.own 0]))
 | [], i, l7, rs, k + 1, hd, _, hP, hr, hk => by
  have h0 : P[i]? = some 42 := by
   have := congrArg (fun l => l[0]?) hd
   simpa using this
  have lt := (List.getElem?_eq_some_iff.mp h0).1
  have le : i + 1 = P.length := by
   have := congrArg List.length hd
   simp only [List.length_drop, List.nil_append, List.length_singleton] at this
   lia
  have e := tr_star (l7 := l7) (l8 := l8) (l9 := l9) h0 (by exact tC ‹_› (tA ‹_› (by decide))) (show rs.length ≤ 1000 by exact tA ‹_› (by decide))
  rw [le] at e
  cases k with
  | zero => simp at hk
  | succ k =>
   refine wh_n (tr_lt lt) e ?_
   rw [List.map_nil, List.append_nil]
   exact wh_0 tr_end
 | c :: cs, i, l7, rs, k + 1, hd, ha, hP, hr, hk => by
  have h0 : P[i]? = some c := by
   have := congrArg (fun l => l[0]?) hd
   simpa using this
  have lt := (List.getElem?_eq_some_iff.mp h0).1
  have hd2 : P.drop (i + 1) = cs ++ [42] := by
   have := congrArg (fun l => l.drop 1) hd
   simpa [List.drop_drop] using this
  rw [List.all_cons, Bool.and_eq_true] at ha
  simp only [List.length_cons] at hr hk
  refine wh_n (tr_lt lt) (tr_plain h0 (by exact tC ‹_› (tA ‹_› (by decide))) ha.1 (by rw [List.length_map]; exact tA (tE _ _) (tA ‹_› (by decide)))) ?_
  have ih := tr_loop cs (i + 1) (some (.str [c])) (rs ++ [escN c]) k hd2 ha.2 hP (by rw [List.length_append, List.length_singleton]; lia) (by exact tD ‹_›)
  rw [List.map_append] at ih
  rw [show (rs ++ (c :: cs).map escN) = (rs ++ [escN c]) ++ cs.map escN by simp]
  exact ih
end
end
noncomputable section
noncomputable def sem_read1 (sa : Addr) (k : Nat) (sx : List Nat) : SY := (y_seq (y_asg 1 (s_rd sa k sx (s_loc 0) (s_c (.int 1))))
 (y_seq (y_if (s_truth (s_loc 1)) (y_seq (y_ret (s_idx (s_loc 1) (s_c (.int 0))))
 y_nil) y_nil)
 (y_seq y_no
 y_nil)))
set_option maxRecDepth 20000 in
theorem cb_read1 {C : Cx} {K : Frag} {D : StrD C K} {S : Strm} {k : Nat} {n : Nat} {fa : Addr} {cd : Value} (hX : RdK C D) (hT : RdT C n D) (hL : Live C D S)  : ∀ L, CB (C.str D S k) (n + 1) (envOfC "read_uint1" (scopeOf (st 2)) L fa cd) ["f", "data"] (bodyOf (st 2)) (sem_read1 S.a k S.x) := by
 intro L
 have ok : EnvOk (envOfC "read_uint1" (scopeOf (st 2)) L fa cd) ["f", "data"] := okC (by kernel_rfl) (by decide)
 obtain ⟨b, hb, hc⟩ : ∃ b, bodyOf (st 2) = b ∧ CB (C.str D S k) (n + 1) (envOfC "read_uint1" (scopeOf (st 2)) L fa cd) ["f", "data"] b (sem_read1 S.a k S.x) := by
  refine ⟨?b, ?h, ?c⟩
  case h => (conv => lhs; whnf)
  case c =>
   unfold sem_read1
   repeat' first
    | exact cb_fail | exact cy_fail
    | refine ce_rd hX hT hL rfl rfl ?_ ?_
    | trivial
 rw [hb]; exact hc
noncomputable def g_read1 (sa : Addr) (k : Nat) (sx : List Nat) : SD := s_def 1 1 (sem_read1 sa k sx)
noncomputable def sem_readS (sa : Addr) (k : Nat) (sx : List Nat) : SY := (y_seq (y_asg 1 (s_call (g_read1 sa k sx) (s_cons (s_loc 0) s_nil)))
 (y_seq (y_assert (s_cmp .GtE (s_loc 1) (s_c (.int 0))))
 (y_seq (y_asg 2 (s_rd sa k sx (s_loc 0) (s_loc 1)))
 (y_seq (y_if (s_cmp .Eq (s_blt .len (s_cons (s_loc 2) s_nil)) (s_loc 1)) (y_seq (y_ret (s_dec (s_loc 2) (s_c (.str [108, 97, 116, 105, 110, 45, 49]))))
 y_nil) y_nil)
 (y_seq y_no
 y_nil)))))
set_option maxRecDepth 20000 in
theorem cb_readS {C : Cx} {K : Frag} {D : StrD C K} {S : Strm} {k : Nat} {n : Nat} {fa : Addr} {cd : Value} (g1 : GL (C.str D S k) "read_uint1" (.raw (.ref 38))) (f1 : FS (C.str D S k) (n + 1) 38 (g_read1 S.a k S.x)) (hX : RdK C D) (hT : RdT C n D) (hL : Live C D S) (b_len : BL (C.str D S k) "len" (.builtin "len"))  : ∀ L, CB (C.str D S k) (n + 1) (envOfC "read_string1" (scopeOf (st 3)) L fa cd) ["f", "n", "data"] (bodyOf (st 3)) (sem_readS S.a k S.x) := by
 intro L
 have ok : EnvOk (envOfC "read_string1" (scopeOf (st 3)) L fa cd) ["f", "n", "data"] := okC (by kernel_rfl) (by decide)
 obtain ⟨b, hb, hc⟩ : ∃ b, bodyOf (st 3) = b ∧ CB (C.str D S k) (n + 1) (envOfC "read_string1" (scopeOf (st 3)) L fa cd) ["f", "n", "data"] b (sem_readS S.a k S.x) := by
  refine ⟨?b, ?h, ?c⟩
  case h => (conv => lhs; whnf)
  case c =>
   unfold sem_readS
   repeat' first
    | exact cb_fail | exact cy_fail
    | refine ce_rd hX hT hL rfl rfl ?_ ?_
    | trivial
 rw [hb]; exact hc
noncomputable def g_readS (sa : Addr) (k : Nat) (sx : List Nat) : SD := s_def 1 2 (sem_readS sa k sx)
end
noncomputable section
noncomputable def Tab1 (h : Heap) (P : Addr) (pos : Pos) (qual : Str) : Prop := ∃ ps : Array Value, h.get? P = some (tabObj ps) ∧ TriplesOk ps.toList ∧ ∀ cv, codeAmong pos ps.toList = some cv → CodeOf h cv qual
theorem Tab1.up {h h' : Heap} {P : Addr} {pos : Pos} {qual : Str} (k : ∀ b o, h.get? b = some o → Tabby o → h'.get? b = some o) (x : Tab1 h P pos qual) : Tab1 h' P pos qual :=
 let ⟨ps, a, b, c⟩ := x; ⟨ps, k _ _ a ⟨.inl rfl, _, rfl⟩, b, fun cv e => (c cv e).keeps k⟩
theorem Tab1.but {h h' : Heap} {P P' : Addr} {pos : Pos} {qual : Str} {ps : Array Value} (hx : Heap.ExtBut P' h h') (hP : h.get? P' = some (tabObj ps)) (ne : P ≠ P') (x : Tab1 h P pos qual) : Tab1 h' P pos qual := by
 obtain ⟨qs, a, b, c⟩ := x
 refine ⟨qs, hx _ _ ne a, b, fun cv e => ?_⟩
 obtain ⟨c', oc, vs, t, e1, e2, e3, e4, e5⟩ := c cv e
 refine ⟨c', oc, vs, t, e1, hx _ _ (fun z => ?_) e2, e3, e4, e5⟩
 subst z
 rw [hP] at e2
 rw [← Option.some.inj e2] at e3
 cases e3
theorem trip_snoc {p : Pos} {c : Value} : ∀ (l : List Value), TriplesOk l → TriplesOk (l ++ [rawInt p.line, rawInt p.col, c]) := by
 intro l
 fun_induction TriplesOk l with
 | case1 => intro _; exact trivial
 | case2 a b c d v rest ih => intro h; exact ih h
 | case3 => intro h; exact h.elim
theorem Tab1.ins {h' : Heap} {P : Addr} {pos : Pos} {qual : Str} {ps : Array Value} {c' : Addr} (ht : TriplesOk ps.toList) (hn : codeAmong pos ps.toList = none) (e : h'.get? P = some (tabObj (ps ++ #[rawInt pos.line, rawInt pos.col, .ref c']))) (co : CodeOf h' (.ref c') qual) : Tab1 h' P pos qual := by
 refine ⟨_, e, ?_, fun cv q => ?_⟩
 ·rw [Array.toList_append]; exact trip_snoc _ ht
 ·rw [Array.toList_append] at q
  have := codeAmong_snoc (pos := pos) (c := .ref c') ps.toList ht hn
  rw [show (#[rawInt pos.line, rawInt pos.col, Value.ref c'] : Array Value).toList = [rawInt pos.line, rawInt pos.col, .ref c'] from rfl, this] at q
  cases q
  exact co
theorem lookup_map {β : Type} (f : Nat → β) (x : Nat) : ∀ (l : List Nat), (l.map fun a => (a, f a)).lookup x = if x ∈ l then some (f x) else none := by
 intro l
 induction l with
 | nil => rfl
 | cons a l ih =>
  rw [List.map_cons, List.lookup_cons]
  by_cases e : x = a
  ·subst e; simp
  ·have : (x == a) = false := by simpa using e
   rw [this, ih]
   simp [e]
noncomputable def fo (P : Params) (a : Addr) : Obj := ((tree_f P).get a).getD default
noncomputable def fragT (P : Params) : Frag := ((List.range 190).filter fun a => a != 153 && a != 92).map fun a => (a, fo P a)
theorem frag_eq (P : Params) : frag P = (List.range 190).map fun a => (a, fo P a) := rfl
theorem fragT_in {P : Params} {a : Addr} {o : Obj} (h : (fragT P).lookup a = some o) : (frag P).lookup a = some o := by
 rw [frag_eq, lookup_map]
 unfold fragT at h
 rw [lookup_map] at h
 split at h
 ·rename_i m
  rw [if_pos (List.mem_filter.mp m).1]
  exact h
 ·cases h
theorem fragT_not {P : Params} {a : Addr} (h : a = 153 ∨ a = 92) : (fragT P).lookup a = none := by
 unfold fragT
 rw [lookup_map]
 rcases h with rfl | rfl
 ·rw [if_neg (by decide +kernel)]
 ·rw [if_neg (by decide +kernel)]
noncomputable abbrev posR : Pos := ⟨167, 4, 170, 37⟩
noncomputable abbrev posL : Pos := ⟨80, 39, 80, 76⟩
noncomputable abbrev qualR : Str := Str.ofString "_law_stream.<locals>._law_read"
noncomputable abbrev qualL : Str := Str.ofString "_translate.<locals>.<lambda>"
noncomputable def esOf (o : Obj) : Array DictEntry := match o.data with | .dict es _ => es | _ => #[]
noncomputable def epOf (o : Obj) : Nat := match o.data with | .dict _ n => n | _ => 0
noncomputable def fldsOf (o : Obj) : Array Value := match o.data with | .fields es => es | _ => #[]
noncomputable def fdOf (o : Obj) : FuncData := match o.data with | .func fd => fd | _ => default
theorem ns_frag {P : Params} {a : Addr} {o : Obj} (e : (fragT P).lookup a = some o) (d : o.data = .dict (esOf o) (epOf o)) (k : ((esOf o).toList.all fun e => match e.key with | .str _ _ => true | _ => false) = true) {h : Heap} (hk : ∀ a o, (fragT P).lookup a = some o → h.get? a = some o) : h.Ns a (nsFind (esOf o)) := by
 refine ⟨o, _, _, hk _ _ e, d, fun x hx => ?_, fun _ => rfl⟩
 have := List.all_eq_true.mp k x (Array.mem_toList_iff.mpr hx)
 revert this
 cases x.key with
 | str n t => exact fun _ => ⟨n, t, rfl⟩
 | _ => intro z; cases z
noncomputable abbrev mgf (P : Params) : Str → Option Value := nsFind (esOf (o3v3 P))
noncomputable abbrev mbf (P : Params) : Str → Option Value := nsFind (esOf (o0 P))
theorem g_ns (P : Params) (h : Heap) (hk : ∀ a o, (fragT P).lookup a = some o → h.get? a = some o) : h.Ns mainGlobals (mgf P) := ns_frag (a := 3) (by kernel_rfl) (by kernel_rfl) (by kernel_rfl) hk
theorem b_ns (P : Params) (h : Heap) (hk : ∀ a o, (fragT P).lookup a = some o → h.get? a = some o) : h.Ns builtinsNs (mbf P) := ns_frag (a := 0) (by kernel_rfl) (by kernel_rfl) (by kernel_rfl) hk
theorem c_lim (P : Params) (h : Heap) (hk : ∀ a o, (fragT P).lookup a = some o → h.get? a = some o) : h.NoLimit := ⟨_, ns_frag (a := 2) (o := o2 P) (by kernel_rfl) (by kernel_rfl) (by kernel_rfl) hk, by kernel_rfl⟩
noncomputable def cx (w : World) : Cx where
 prog := pw
 w := w
 base := fun a o => (fragT w.params).lookup a = some o
 T := [153, 92]
 tabs := fun h => Tab1 h 153 posR qualR ∧ Tab1 h 92 posL qualL
 pin := []
 lim := c_lim w.params
 mg := mgf w.params
 mb := mbf w.params
 hg := g_ns w.params
 hb := b_ns w.params
 up := fun h h' k x => ⟨x.1.up k, x.2.up k⟩
theorem frIn (w : World) : FragIn (cx w) (fragT w.params) := fun _ _ e => e
theorem cd_hd (w : World) {c P : Addr} (o : Obj) (e : (fragT w.params).lookup c = some o) (file : Str) (tf : Tok) (flags : Int) (tg : Tok) (inF : Bool) (text : Int) (tt : Tok) (q : o.cls = .type "code" ∧ o.data = .fields (fldsOf o) ∧ (fldsOf o)[11]? = some (.ref P) ∧ (fldsOf o).getD 11 .none = .ref P ∧ (fldsOf o).getD 18 .none = .str file tf ∧ (fldsOf o).getD 7 .none = .int flags tg ∧ (fldsOf o).getD 9 .none = .bool inF ∧ (fldsOf o).getD 10 .none = .int text tt) (ne : c ≠ P) (h : Heap) (wd : (cx w).Wd h) : CodeHd h c P :=
 ⟨o, _, file, tf, flags, tg, inF, text, tt, wd.base _ _ e, q.1, q.2.1, q.2.2.1, q.2.2.2.1, q.2.2.2.2.1, q.2.2.2.2.2.1, q.2.2.2.2.2.2.1, q.2.2.2.2.2.2.2, ne⟩
theorem bl_at (w : World) (P : Addr) (ne : (4 : Nat) ≠ P) (h : Heap) (wd : (cx w).Wd h) : h.BuiltinsAt (cx w).mg P :=
 ⟨4, o4 w.params, by kernel_rfl, by decide, by decide, ne, wd.base 4 _ (by show (fragT w.params).lookup 4 = _; kernel_rfl), by kernel_rfl, by kernel_rfl, by kernel_rfl⟩
noncomputable def strAt (o : Obj) (i : Nat) : Str × Tok := match (fldsOf o).getD i .none with | .str x t => (x, t) | _ => default
noncomputable def intAt (o : Obj) (i : Nat) : Int × Tok := match (fldsOf o).getD i .none with | .int x t => (x, t) | _ => default
noncomputable def boolAt (o : Obj) (i : Nat) : Bool := match (fldsOf o).getD i .none with | .bool x => x | _ => default
theorem tabR (w : World) : TabAt (cx w) 157 153 posR qualR where
 hd := cd_hd w (o157 w.params) (by kernel_rfl) (strAt (o157 w.params) 18).1 (strAt (o157 w.params) 18).2 (intAt (o157 w.params) 7).1 (intAt (o157 w.params) 7).2 (boolAt (o157 w.params) 9) (intAt (o157 w.params) 10).1 (intAt (o157 w.params) 10).2 ⟨by kernel_rfl, by kernel_rfl, by kernel_rfl, by kernel_rfl, by kernel_rfl, by kernel_rfl, by kernel_rfl, by kernel_rfl⟩ (by decide)
 blt := bl_at w 153 (by decide)
 ne := by decide
 mem := by show 153 ∈ [153, 92]; decide
 nb := fun o e => by have e' : (fragT w.params).lookup 153 = some o := e; rw [fragT_not (by decide)] at e'; cases e'
 ps := fun h x => x.1
 ins := fun h h' ps c' x hx hP hn e co => by
  obtain ⟨x1, x2⟩ := x
  have ht : TriplesOk ps.toList := by
   obtain ⟨qs, e1, e2, _⟩ := x1
   rw [hP] at e1; cases e1
   exact e2
  exact ⟨Tab1.ins ht hn e co, x2.but hx hP (by decide)⟩
theorem tabL (w : World) : TabAt (cx w) 96 92 posL qualL where
 hd := cd_hd w (o96 w.params) (by kernel_rfl) (strAt (o96 w.params) 18).1 (strAt (o96 w.params) 18).2 (intAt (o96 w.params) 7).1 (intAt (o96 w.params) 7).2 (boolAt (o96 w.params) 9) (intAt (o96 w.params) 10).1 (intAt (o96 w.params) 10).2 ⟨by kernel_rfl, by kernel_rfl, by kernel_rfl, by kernel_rfl, by kernel_rfl, by kernel_rfl, by kernel_rfl, by kernel_rfl⟩ (by decide)
 blt := bl_at w 92 (by decide)
 ne := by decide
 mem := by show 92 ∈ [153, 92]; decide
 nb := fun o e => by have e' : (fragT w.params).lookup 92 = some o := e; rw [fragT_not (by decide)] at e'; cases e'
 ps := fun h x => x.2
 ins := fun h h' ps c' x hx hP hn e co => by
  obtain ⟨x1, x2⟩ := x
  have ht : TriplesOk ps.toList := by
   obtain ⟨qs, e1, e2, _⟩ := x2
   rw [hP] at e1; cases e1
   exact e2
  exact ⟨x1.but hx hP (by decide), Tab1.ins ht hn e co⟩
end
noncomputable section
theorem kinds_of {ps : List Str} {scope : Scope} (k1 : (ps.all fun x => scope.names.lookup x == some .local || scope.names.lookup x == some .cell) = true) (k2 : ∀ L, (ps.all fun x => !(scope.names.lookup x == some .cell) || ((cellsFrom L scope.names []).lookup x).isSome) = true) :
  ∀ x ∈ ps, scope.names.lookup x = some .local ∨ (scope.names.lookup x = some .cell ∧ ∀ L, ((cellsFrom L scope.names []).lookup x).isSome = true) := by
 intro x hx
 rcases Bool.or_eq_true_iff.mp (List.all_eq_true.mp k1 x hx) with e | e
 ·exact .inl (by simpa using e)
 ·refine .inr ⟨by simpa using e, fun L => ?_⟩
  have := List.all_eq_true.mp (k2 L) x hx
  rw [e] at this
  simpa using this
theorem all1 {P : List Value → Prop} (h : ∀ a, P [a]) : ∀ xs, xs.length = 1 → P xs
 | [a], _ => h a
theorem all2 {P : List Value → Prop} (h : ∀ a b, P [a, b]) : ∀ xs, xs.length = 2 → P xs
 | [a, b], _ => h a b
theorem all3 {P : List Value → Prop} (h : ∀ a b c, P [a, b, c]) : ∀ xs, xs.length = 3 → P xs
 | [a, b, c], _ => h a b c
theorem def_of {w : World} {name : Str} {params : Arguments} {body : List Stmt} {scope : Scope} {fa cc : Addr} {ps : List Str} (o oc : Obj) (tq : Tok)
  (b : ∀ nm pm doc, ∀ xs : List Value, xs.length = ps.length → bindArgs { docDef name params body scope pm (.ref cc) doc with name := nm } ⟨xs, []⟩ = pure (ps.zip xs)) (e1 : (fragT w.params).lookup fa = some o) (e2 : (fragT w.params).lookup cc = some oc)
  (f : o.data = .func { docDef name params body scope (fdOf o).pyModule (.ref cc) (fdOf o).doc with name := (fdOf o).name }) (c : oc.data = .fields (fldsOf oc)) (q : (fldsOf oc)[1]? = some (.str name tq))
  (k1 : (ps.all fun x => scope.names.lookup x == some .local || scope.names.lookup x == some .cell) = true) (k2 : ∀ L, (ps.all fun x => !(scope.names.lookup x == some .cell) || ((cellsFrom L scope.names []).lookup x).isSome) = true) (nd : decide (scope.names.map (·.1)).Nodup = true) (co : scope.isCoroutine = false) (ge : scope.isGenerator = false) (ki : scope.kind = .function) :
  DefAt (cx w) name params body scope fa (.ref cc) ps :=
 ⟨⟨o, _, _, _, e1, f⟩, ⟨cc, oc, _, tq, rfl, e2, c, q⟩, b, kinds_of k1 k2, of_decide_eq_true nd, co, ge, ki⟩
theorem D_read_uint1 (w : World) : DefAt (cx w) "read_uint1" (argsOf (st 2)) (bodyOf (st 2)) (scopeOf (st 2)) 38 (.ref 37) ["f"] :=
 by refine def_of (o38 w.params) (o37 w.params) (strAt (o37 w.params) 1).2 (fun _ _ _ => all1 fun a => ?_) ?_ ?_ ?_ ?_ ?_ ?_ (fun _ => ?_) ?_ ?_ ?_ ?_ <;> kernel_rfl
theorem D_read_string1 (w : World) : DefAt (cx w) "read_string1" (argsOf (st 3)) (bodyOf (st 3)) (scopeOf (st 3)) 45 (.ref 44) ["f"] :=
 by refine def_of (o45 w.params) (o44 w.params) (strAt (o44 w.params) 1).2 (fun _ _ _ => all1 fun a => ?_) ?_ ?_ ?_ ?_ ?_ ?_ (fun _ => ?_) ?_ ?_ ?_ ?_ <;> kernel_rfl
theorem D_translate (w : World) : DefAt (cx w) "translate" (argsOf (st 7)) (bodyOf (st 7)) (scopeOf (st 7)) 78 (.ref 77) ["pat"] :=
 by refine def_of (o78 w.params) (o77 w.params) (strAt (o77 w.params) 1).2 (fun _ _ _ => all1 fun a => ?_) ?_ ?_ ?_ ?_ ?_ ?_ (fun _ => ?_) ?_ ?_ ?_ ?_ <;> kernel_rfl
theorem D_escape (w : World) : DefAt (cx w) "escape" (argsOf (st 10)) (bodyOf (st 10)) (scopeOf (st 10)) 90 (.ref 89) ["pattern"] :=
 by refine def_of (o90 w.params) (o89 w.params) (strAt (o89 w.params) 1).2 (fun _ _ _ => all1 fun a => ?_) ?_ ?_ ?_ ?_ ?_ ?_ (fun _ => ?_) ?_ ?_ ?_ ?_ <;> kernel_rfl
theorem D_translate2 (w : World) : DefAt (cx w) "_translate" (argsOf (st 12)) (bodyOf (st 12)) (scopeOf (st 12)) 97 (.ref 96) ["pat", "STAR", "QUESTION_MARK"] :=
 by refine def_of (o97 w.params) (o96 w.params) (strAt (o96 w.params) 1).2 (fun _ _ _ => all3 fun a b c => ?_) ?_ ?_ ?_ ?_ ?_ ?_ (fun _ => ?_) ?_ ?_ ?_ ?_ <;> kernel_rfl
theorem D_join_translated_parts (w : World) : DefAt (cx w) "_join_translated_parts" (argsOf (st 13)) (bodyOf (st 13)) (scopeOf (st 13)) 104 (.ref 103) ["inp", "STAR"] :=
 by refine def_of (o104 w.params) (o103 w.params) (strAt (o103 w.params) 1).2 (fun _ _ _ => all2 fun a b => ?_) ?_ ?_ ?_ ?_ ?_ ?_ (fun _ => ?_) ?_ ?_ ?_ ?_ <;> kernel_rfl
theorem D_S_IFMT (w : World) : DefAt (cx w) "S_IFMT" (argsOf (st 15)) (bodyOf (st 15)) (scopeOf (st 15)) 111 (.ref 110) ["mode"] :=
 by refine def_of (o111 w.params) (o110 w.params) (strAt (o110 w.params) 1).2 (fun _ _ _ => all1 fun a => ?_) ?_ ?_ ?_ ?_ ?_ ?_ (fun _ => ?_) ?_ ?_ ?_ ?_ <;> kernel_rfl
theorem D_filemode (w : World) : DefAt (cx w) "filemode" (argsOf (st 36)) (bodyOf (st 36)) (scopeOf (st 36)) 151 (.ref 150) ["mode"] :=
 by refine def_of (o151 w.params) (o150 w.params) (strAt (o150 w.params) 1).2 (fun _ _ _ => all1 fun a => ?_) ?_ ?_ ?_ ?_ ?_ ?_ (fun _ => ?_) ?_ ?_ ?_ ?_ <;> kernel_rfl
theorem D_law_stream (w : World) : DefAt (cx w) "_law_stream" (argsOf (st 38)) (bodyOf (st 38)) (scopeOf (st 38)) 158 (.ref 157) ["octets"] :=
 by refine def_of (o158 w.params) (o157 w.params) (strAt (o157 w.params) 1).2 (fun _ _ _ => all1 fun a => ?_) ?_ ?_ ?_ ?_ ?_ ?_ (fun _ => ?_) ?_ ?_ ?_ ?_ <;> kernel_rfl
theorem D_law_row (w : World) : DefAt (cx w) "_law_row" (argsOf (st 39)) (bodyOf (st 39)) (scopeOf (st 39)) 165 (.ref 164) ["bits"] :=
 by refine def_of (o165 w.params) (o164 w.params) (strAt (o164 w.params) 1).2 (fun _ _ _ => all1 fun a => ?_) ?_ ?_ ?_ ?_ ?_ ?_ (fun _ => ?_) ?_ ?_ ?_ ?_ <;> kernel_rfl
theorem D_law_opens (w : World) : DefAt (cx w) "_law_opens" (argsOf (st 40)) (bodyOf (st 40)) (scopeOf (st 40)) 172 (.ref 171) ["pattern", "row"] :=
 by refine def_of (o172 w.params) (o171 w.params) (strAt (o171 w.params) 1).2 (fun _ _ _ => all2 fun a b => ?_) ?_ ?_ ?_ ?_ ?_ ?_ (fun _ => ?_) ?_ ?_ ?_ ?_ <;> kernel_rfl
theorem D_law_write (w : World) : DefAt (cx w) "_law_write" (argsOf (st 41)) (bodyOf (st 41)) (scopeOf (st 41)) 177 (.ref 176) ["rows"] :=
 by refine def_of (o177 w.params) (o176 w.params) (strAt (o176 w.params) 1).2 (fun _ _ _ => all1 fun a => ?_) ?_ ?_ ?_ ?_ ?_ ?_ (fun _ => ?_) ?_ ?_ ?_ ?_ <;> kernel_rfl
theorem D_law_unpack (w : World) : DefAt (cx w) "_law_unpack" (argsOf (st 42)) (bodyOf (st 42)) (scopeOf (st 42)) 184 (.ref 183) ["octets"] :=
 by refine def_of (o184 w.params) (o183 w.params) (strAt (o183 w.params) 1).2 (fun _ _ _ => all1 fun a => ?_) ?_ ?_ ?_ ?_ ?_ ?_ (fun _ => ?_) ?_ ?_ ?_ ?_ <;> kernel_rfl
theorem D_law (w : World) : DefAt (cx w) "law" (argsOf (st 43)) (bodyOf (st 43)) (scopeOf (st 43)) 189 (.ref 188) ["script"] :=
 by refine def_of (o189 w.params) (o188 w.params) (strAt (o188 w.params) 1).2 (fun _ _ _ => all1 fun a => ?_) ?_ ?_ ?_ ?_ ?_ ?_ (fun _ => ?_) ?_ ?_ ?_ ?_ <;> kernel_rfl
theorem D_init (w : World) : DefAt (cx w) "_Example.__init__" (argsOf (inCls (st 4) 0)) (bodyOf (inCls (st 4) 0)) (scopeOf (inCls (st 4) 0)) 59 (.ref 58) ["self", "value"] :=
 by refine def_of (o59 w.params) (o58 w.params) (strAt (o58 w.params) 1).2 (fun _ _ _ => all2 fun a b => ?_) ?_ ?_ ?_ ?_ ?_ ?_ (fun _ => ?_) ?_ ?_ ?_ ?_ <;> kernel_rfl
theorem exC (w : World) : ExCls (cx w) (fragT w.params) 62 59 (.ref 58) (argsOf (inCls (st 4) 0)) (bodyOf (inCls (st 4) 0)) (scopeOf (inCls (st 4) 0)) ⟨18, 8, 18, 12⟩ ⟨18, 8, 18, 18⟩ ⟨18, 21, 18, 26⟩ ⟨18, 8, 18, 26⟩ where
 fr := frIn w
 mks := by kernel_rfl
 ini := by kernel_rfl
 typ := by kernel_rfl
 set := by kernel_rfl
 po := by kernel_rfl
 tv := by kernel_rfl
 tr := by kernel_rfl
 hd := by kernel_rfl
 D := D_init w
 body := by kernel_rfl
noncomputable def qs : List Pos := [⟨0, 0, 0, 0⟩, ⟨165, 4, 165, 9⟩, ⟨165, 13, 165, 14⟩, ⟨165, 12, 165, 15⟩, ⟨165, 4, 165, 15⟩, ⟨167, 4, 170, 37⟩, ⟨171, 4, 171, 10⟩, ⟨171, 13, 171, 21⟩, ⟨171, 22, 171, 27⟩, ⟨171, 13, 171, 28⟩, ⟨171, 4, 171, 28⟩, ⟨172, 4, 172, 10⟩, ⟨172, 4, 172, 15⟩, ⟨172, 18, 172, 27⟩, ⟨172, 4, 172, 27⟩, ⟨173, 11, 173, 17⟩, ⟨173, 4, 173, 17⟩]
noncomputable def inFn : Stmt → Nat → Stmt
 | .FunctionDef _ _ b .., i => b.getD i default
 | _, _ => default
theorem gls (w : World) {x : Str} {a : Addr} (e : mgf w.params x = some (.ref a)) : GL (cx w) x (.raw (.ref a)) := ⟨_, e, fun _ _ _ _ => .raw _⟩
theorem bls (w : World) {x : Str} {v : Value} (e : mgf w.params x = none) (f : mbf w.params x = some v) : BL (cx w) x v := ⟨e, f⟩
noncomputable def sD (w : World) : StrD (cx w) (fragT w.params) where
 C0 := 62
 fI := 59
 cdI := .ref 58
 pI := argsOf (inCls (st 4) 0)
 bI := bodyOf (inCls (st 4) 0)
 sI := scopeOf (inCls (st 4) 0)
 i1 := ⟨18, 8, 18, 12⟩
 i2 := ⟨18, 8, 18, 18⟩
 i3 := ⟨18, 21, 18, 26⟩
 i4 := ⟨18, 8, 18, 26⟩
 ex := exC w
 kp := by kernel_rfl
 fa := 158
 cc := 157
 P := 153
 params := argsOf (st 38)
 body := bodyOf (st 38)
 scope := scopeOf (st 38)
 D := D_law_stream w
 rp := argsOf (inFn (st 38) 1)
 rb := bodyOf (inFn (st 38) 1)
 rs := scopeOf (inFn (st 38) 1)
 q := fun i => qs.getD i ⟨0, 0, 0, 0⟩
 hb := by kernel_rfl
 names := by kernel_rfl
 T := tabR w
 d0 := by kernel_rfl
 k0 := by kernel_rfl
 a0 := fun env => by kernel_rfl
 rnames := by kernel_rfl
 gl := gls w (by kernel_rfl)
theorem rdK (w : World) : RdK (cx w) (sD w) := ⟨by kernel_rfl, by kernel_rfl, by kernel_rfl, by kernel_rfl, by kernel_rfl⟩
end
noncomputable section
theorem rdT (w : World) (n : Nat) : RdT (cx w) n (sD w) where
 run := fun L f cv c2 c1 ok => by
  have b1 : BL (cx w) "min" (.builtin "min") := bls w (by kernel_rfl) (by kernel_rfl)
  have b2 : BL (cx w) "len" (.builtin "len") := bls w (by kernel_rfl) (by kernel_rfl)
  obtain ⟨b, hb, hc⟩ : ∃ b, (sD w).rb = b ∧ CB (cx w) n (rEnv (sD w).rs L f cv c2 c1) rNames b sem_read := by
   refine ⟨?b, ?h, ?c⟩
   case h => (conv => lhs; whnf)
   case c =>
    unfold sem_read
    repeat' first
     | exact cb_fail | exact cy_fail
     | refine cy_set (swaps_plain rfl) ?_ ?_ ?_
     | trivial
  rw [hb]; exact hc
 bnd := fun fd v h1 h2 h3 => by
  obtain ⟨a1, a2, a3, a4, a5, a6, a7, a8, a9, a10, a11, a12, a13, a14, a15⟩ := fd
  subst h1 h2 h3
  kernel_rfl
 co := by kernel_rfl
 gen := by kernel_rfl
 kind := by kernel_rfl
end
noncomputable section
theorem clip_core {n m : Nat} (h : m ≤ n) : (max 0 (min (m : Int) (n : Int))).toNat = m := by rw [Int.min_eq_left (Int.ofNat_le.mpr h), Int.max_eq_right (Int.natCast_nonneg m)]; rfl
theorem clip_nat {n i : Nat} (h : i ≤ n) : clipAt n (i : Int) = i := by
 unfold clipAt
 rw [if_neg (Int.not_lt.mpr (Int.natCast_nonneg i)), clip_core h]
theorem cut_nat {α : Type} {x : List α} {a b : Nat} (h : a ≤ b) (hb : b ≤ x.length) : cut x (some (a : Int)) (some (b : Int)) = (x.drop a).take (b - a) := by
 unfold cut
 simp only [Option.elim_some]
 rw [clip_nat hb]
 by_cases e : a = b
 ·subst e; rw [clip_nat hb]
 ·rw [clip_nat (show a ≤ x.length by exact tA ‹_› ‹_›)]
theorem cut_from {α : Type} {x : List α} {a : Nat} (h : a ≤ x.length) : cut x (some (a : Int)) none = x.drop a := by
 unfold cut
 simp only [Option.elim_some, Option.elim_none]
 rw [clip_nat h, List.take_of_length_le]
 rw [List.length_drop]
 exact Nat.le_refl _
theorem all_set {hp : List O} {m k : Nat} {o : O} (h : hp.all (O.low m) = true) (ho : o.low m = true) : (hp.set k o).all (O.low m) = true := by
 rw [List.all_eq_true] at h ⊢
 intro x hx
 rcases List.mem_or_eq_of_mem_set hx with m | rfl
 ·exact h x m
 ·exact ho
theorem rd_to {x : List Nat} {p z : Nat} (h : p + z ≤ x.length) : rdTo x p z = ((p + z : Nat) : Int) := by
 unfold rdTo
 rw [if_neg (by lia)]
 rfl
theorem take_all {α : Type} (l : List α) {n : Nat} (h : n = l.length) : l.take n = l := by rw [h, List.take_length]
theorem read1_at {sa : Addr} {k : Nat} {x : List Nat} {hp : List O} {p c : Nat} (hk : hp[k]? = some (.lst [.int p])) (low : hp.all (O.low hp.length) = true) (hx : x.length ≤ smallN) (hc : x[p]? = some c) :
  g_read1 sa k x [.raw (.ref sa)] hp = some (.int c, hp.set k (.lst [.int (p + 1 : Nat)])) := by
 have lt := (List.getElem?_eq_some_iff.mp hc).1
 have e1 : rdTo x p 1 = ((p + 1 : Nat) : Int) := rd_to (z := 1) lt
 have e2 : cut x (some (p : Int)) (some ((p + 1 : Nat) : Int)) = [c] := by
  rw [cut_nat (by simp) lt, show p + 1 - p = 1 by simp]
  rw [List.drop_eq_getElem_cons lt, List.take_succ_cons, List.take_zero, (List.getElem?_eq_some_iff.mp hc).2]
 have low2 : (hp.set k (.lst [.int (p + 1 : Nat)])).all (O.low hp.length) = true := all_set low rfl
 have tk : (hp.set k (.lst [.int (p + 1 : Nat)])).take hp.length = hp.set k (.lst [.int (p + 1 : Nat)]) := take_all _ (by simp)
 unfold g_read1 s_def
 rw [if_pos (show [V.raw (Value.ref sa)].length = 1 from rfl)]
 have run : sem_read1 sa k x (σ0 [.raw (.ref sa)] 1 hp) = some (.ret (.int c), ⟨[some (.raw (.ref sa)), some (.byt [c])], hp.set k (.lst [.int (p + 1 : Nat)])⟩) := by
  have st1 : s_rd sa k x (s_loc 0) (s_c (.int 1)) ⟨[some (.raw (.ref sa)), none], hp⟩ = some (.byt [c], ⟨[some (.raw (.ref sa)), none], hp.set k (.lst [.int (p + 1 : Nat)])⟩) := (rd_of rfl rfl hk hx).trans (by rw [e1, e2]; rfl)
  exact seq_n (asg_of st1) rfl
 rw [run]
 unfold leave
 simp only [retV, freeze, frz, V.low, if_true, tk, low2]
theorem readS_at {sa : Addr} {k : Nat} {x : List Nat} {hp : List O} {p : Nat} {s rest : List Nat} (hk : hp[k]? = some (.lst [.int p])) (low : hp.all (O.low hp.length) = true) (hx : x.length ≤ smallN) (hc : x.drop p = s.length :: (s ++ rest)) :
  g_readS sa k x [.raw (.ref sa)] hp = some (.str s, hp.set k (.lst [.int (p + 1 + s.length : Nat)])) := by
 have len : x.length - p = s.length + rest.length + 1 := by
  have := congrArg List.length hc
  simpa [List.length_drop] using this
 have c0 : x[p]? = some s.length := by
  have := congrArg (fun l => l[0]?) hc
  simpa using this
 have c1 : x.drop (p + 1) = s ++ rest := by
  have := congrArg (fun l => l.drop 1) hc
  simpa [List.drop_drop] using this
 have e1 : rdTo x ((p + 1 : Nat) : Int) (s.length : Int) = ((p + 1 + s.length : Nat) : Int) := rd_to (by omega)
 have e2 : cut x (some ((p + 1 : Nat) : Int)) (some ((p + 1 + s.length : Nat) : Int)) = s := by
  rw [cut_nat (by exact tE _ _) (by lia), show p + 1 + s.length - (p + 1) = s.length by simp, c1]
  simp
 have kl := (List.getElem?_eq_some_iff.mp hk).1
 have hs : s.length ≤ smallN := by lia
 have low2 : (hp.set k (.lst [.int (p + 1 + s.length : Nat)])).all (O.low hp.length) = true := all_set low rfl
 have tk : (hp.set k (.lst [.int (p + 1 + s.length : Nat)])).take hp.length = hp.set k (.lst [.int (p + 1 + s.length : Nat)]) := take_all _ (by simp)
 unfold g_readS s_def
 rw [if_pos (show [V.raw (Value.ref sa)].length = 1 from rfl)]
 have run : sem_readS sa k x (σ0 [.raw (.ref sa)] 2 hp) = some (.ret (.str s), ⟨[some (.raw (.ref sa)), some (.int s.length), some (.byt s)], hp.set k (.lst [.int (p + 1 + s.length : Nat)])⟩) := by
  have st1 : s_call (g_read1 sa k x) (s_cons (s_loc 0) s_nil) ⟨[some (.raw (.ref sa)), none, none], hp⟩ = some (.int s.length, ⟨[some (.raw (.ref sa)), none, none], hp.set k (.lst [.int (p + 1 : Nat)])⟩) := call_to (σ1 := ⟨[some (.raw (.ref sa)), none, none], hp⟩) (cons_of rfl rfl) (read1_at hk low hx c0)
  have st2 : s_rd sa k x (s_loc 0) (s_loc 1) ⟨[some (.raw (.ref sa)), some (.int s.length), none], hp.set k (.lst [.int (p + 1 : Nat)])⟩ = some (.byt s, ⟨[some (.raw (.ref sa)), some (.int s.length), none], hp.set k (.lst [.int (p + 1 + s.length : Nat)])⟩) :=
   (rd_of rfl rfl (List.getElem?_set_self kl) hx).trans (by rw [e1, e2, Sg.setO, List.set_set])
  exact seq_n (asg_of st1) (seq_n (assert_of (cmp_of (v := .int s.length) (w := .int 0) rfl rfl (congrArg some (decide_eq_true (tG _))))) (seq_n (asg_of st2) (seq_ret (if_t (cmp_of (blt_of (v := .int s.length) (cons_of (v := .byt s) rfl rfl) (if_pos hs)) (w := .int s.length) rfl (congrArg some (beq_self_eq_true _))) (seq_ret (ret_of (dec_of rfl rfl hs)))))))
 rw [run]
 unfold leave
 simp only [retV, freeze, frz, V.low, if_true, tk, low2]
end
noncomputable section
section
variable {t u : ST} {s b : SY} {x y : SE} {σ σ1 σ2 : Sg} {c : Bool} {v w : V}
end
theorem sub_q : subGood [63] = true := by decide +kernel
theorem nin_q : isInf [45] [63] = false := by decide +kernel
theorem occ_q : (occ [63] [92] 0 2).isEmpty = true := by decide +kernel
section
variable {P : List Nat} {i c : Nat} {l7 l8 l9 : Option V} {R : List V}
theorem lt_at {j : Nat} (h : j < P.length) : s_cmp .Lt (s_loc 8) (s_loc 6) (trS P i l7 (some (.int j)) l9 R) = some (true, trS P i l7 (some (.int j)) l9 R) :=
 cmp_of (v := .int j) (w := .int P.length) rfl rfl (by show some (decide ((j : Int) < (P.length : Int))) = _; rw [decide_eq_true (by exact Int.ofNat_lt.mpr ‹_›)])
theorem ix_at {j d : Nat} (h : P[j]? = some c) (hj : j < 1000) : s_cmp .Eq (s_idx (s_loc 0) (s_loc 8)) (s_c (.str [d])) (trS P i l7 (some (.int j)) l9 R) = some ([c] == [d], trS P i l7 (some (.int j)) l9 R) :=
 cmp_of (v := .str [c]) (w := .str [d]) (s_idx_of (u := .str P) (v := .int j) rfl rfl (idx_str h (by exact tC ‹_› (by decide)))) rfl rfl
theorem ixn_at {j d : Nat} (h : P[j]? = some c) (hj : j < 1000) : s_cmp .NotEq (s_idx (s_loc 0) (s_loc 8)) (s_c (.str [d])) (trS P i l7 (some (.int j)) l9 R) = some ([c] != [d], trS P i l7 (some (.int j)) l9 R) :=
 cmp_of (v := .str [c]) (w := .str [d]) (s_idx_of (u := .str P) (v := .int j) rfl rfl (idx_str h (by exact tC ‹_› (by decide)))) rfl rfl
theorem tr_set (cs : List Nat) (hP : P = 91 :: 63 :: 93 :: cs) (hz : P.length ≤ 100) : trSet (trS P 1 (some (.str [91])) none none []) = some (.next, trS P 3 (some (.str [91])) (some (.int 2)) (some (.str [63])) [.str [91, 63, 93]]) := by
 have p1 : P[1]? = some 63 := by rw [hP]; rfl
 have p2 : P[2]? = some 93 := by rw [hP]; rfl
 have l3 : 3 ≤ P.length := by rw [hP]; simp only [List.length_cons]; exact Nat.le_add_left _ _
 refine seq_n (σ' := trS P 1 (some (.str [91])) (some (.int (1 : Nat))) none []) (asg_of (v := .int (1 : Nat)) (σ1 := trS P 1 (some (.str [91])) none none []) rfl) (seq_n (if_f (and_t (lt_at (by exact tJ ‹_›)) (and_f (ix_at p1 (by decide)))) rfl) (seq_n (if_f (and_t (lt_at (by exact tJ ‹_›)) (and_f (ix_at p1 (by decide)))) rfl) (seq_n (σ' := trS P 1 (some (.str [91])) (some (.int (2 : Nat))) none []) ?_ ?_)))
 ·unfold y_while
  rw [show lots = 999998 + 1 + 1 from rfl]
  refine wh_n (σ1 := trS P 1 (some (.str [91])) (some (.int (1 : Nat))) none []) (σ2 := trS P 1 (some (.str [91])) (some (.int (2 : Nat))) none []) (and_t (lt_at (by exact tJ ‹_›)) (and_t (ixn_at p1 (by decide)) rfl)) (seq_n (asg_of (b_ad (a := 1) (b := 1) rfl rfl)) rfl) (wh_0 (and_t (lt_at (by assumption)) (and_f (ixn_at p2 (by decide)))))
 ·refine seq_n (if_f (σ1 := trS P 1 (some (.str [91])) (some (.int (2 : Nat))) none []) ?_ (seq_n (σ' := trS P 1 (some (.str [91])) (some (.int (2 : Nat))) (some (.str [63])) []) ?_ ?_)) rfl
  ·refine cmp_of (v := .int (2 : Nat)) (w := .int P.length) rfl rfl ?_
   show some (decide (((2 : Nat) : Int) ≥ (P.length : Int))) = _
   rw [decide_eq_false (by lia)]
  ·have e2 : cut P (some ((1 : Nat) : Int)) (some ((2 : Nat) : Int)) = [63] := by
    rw [cut_nat (by decide) (by exact tJ ‹_›), hP]; rfl
   refine asg_of (v := .str [63]) (σ1 := trS P 1 (some (.str [91])) (some (.int (2 : Nat))) none []) ?_
   exact sl_of (u := .str P) (v := .int (1 : Nat)) (w := .int (2 : Nat)) rfl rfl rfl ((slcV_str rfl rfl (by unfold smallN; exact tA ‹_› (by decide))).trans (by rw [e2]))
  ·refine seq_n (σ' := trS P 1 (some (.str [91])) (some (.int (2 : Nat))) (some (.str [63])) []) (if_t (σ1 := trS P 1 (some (.str [91])) (some (.int (2 : Nat))) (some (.str [63])) []) ?_ (seq_n (asg_of (v := .str [63]) (σ1 := trS P 1 (some (.str [91])) (some (.int (2 : Nat))) (some (.str [63])) []) ?_) rfl)) (seq_n (asg_of (v := .str [63]) (σ1 := trS P 1 (some (.str [91])) (some (.int (2 : Nat))) (some (.str [63])) []) ?_) (seq_n (σ' := trS P 3 (some (.str [91])) (some (.int (2 : Nat))) (some (.str [63])) []) (asg_of (b_ad (a := 2) (b := 1) rfl rfl)) (seq_n (if_f (not_of (truth_of (v := .str [63]) (σ1 := trS P 3 (some (.str [91])) (some (.int (2 : Nat))) (some (.str [63])) []) (c := true) rfl rfl)) (seq_n (if_f (cmp_of (v := .str [63]) (w := .str [33]) (c := false) rfl rfl rfl) (seq_n (if_f (cmp_of (v := .str [63]) (w := .str [33]) (c := false) (s_idx_of (u := .str [63]) (v := .int 0) rfl rfl rfl) rfl rfl) (seq_n (if_f (cmp_of (v := .str [63]) (w := .tup [.str [94], .str [91]]) (c := false) (s_idx_of (u := .str [63]) (v := .int 0) rfl rfl rfl) rfl rfl) rfl) rfl)) (seq_n (tr_app (v := .str [91, 63, 93]) rfl (Nat.zero_le _)) rfl))) rfl)) rfl)))
   ·refine cmp_of (v := .str [45]) (w := .str [63]) rfl rfl ?_
    show some (!isInf [45] [63]) = _
    rw [nin_q]; rfl
   ·refine meth_str (z := [63]) rfl rfl ?_
    show (if (occ [63] [92] 0 2).isEmpty then some (V.str [63], _) else none) = _
    rw [if_pos occ_q]
   ·exact ssub_of rfl sub_q ⟨by decide, by decide⟩
theorem tr_q (cs : List Nat) (hP : P = 91 :: 63 :: 93 :: cs) (hz : P.length ≤ 100) : trBody (trS P 0 none none none []) = some (.next, trS P 3 (some (.str [91])) (some (.int 2)) (some (.str [63])) [.str [91, 63, 93]]) := by
 have p0 : P[0]? = some 91 := by rw [hP]; rfl
 exact seq_n (tr_c p0 (by decide)) (seq_n tr_i (seq_n (if_f (tr_eq 42) (seq_n (if_f (tr_eq 63) (seq_n (if_t (tr_eq 91) (tr_set cs hP hz)) rfl)) rfl)) rfl))
end
noncomputable def quoteN : List Nat → List Nat
 | [] => []
 | c :: r => (if c = 63 then [91, 63, 93] else [c]) ++ r
noncomputable def unitsN : List Nat → List (List Nat)
 | [] => []
 | c :: r => (if c = 63 then [91, 63, 93] else escN c) :: r.map escN
noncomputable def Front : List Nat → Prop
 | [] => False
 | c :: r => okHd c = true ∧ r.all okSg = true ∧ r.length ≤ 20
theorem sg_plain {c : Nat} (h : okSg c = true) : plainC c = true := by
 have t : ∀ c ∈ [45, 114, 119, 120, 83, 115, 84, 116], plainC c = true := by decide
 exact t c (by simpa [okSg] using h)
theorem sg_all {r : List Nat} (h : r.all okSg = true) : r.all plainC = true := by
 rw [List.all_eq_true] at h ⊢
 exact fun c m => sg_plain (h c m)
theorem hd_plain {c : Nat} (h : okHd c = true) (n : c ≠ 63) : plainC c = true := by
 have t : ∀ c ∈ typL, c ≠ 63 → plainC c = true := by decide
 exact t c (by simpa [okHd] using h) n
theorem tr2_at {p : List Nat} (hp : Front p) : g_translate2 [.str (quoteN p ++ [42]), .own 0, .str [46]] [.obj] = some (.lst ((unitsN p).map .str ++ [.own 0]), [.obj]) := by
 match p, hp with
 | c :: r, ⟨h1, h2, h3⟩ =>
  have hz : (quoteN (c :: r) ++ [42]).length ≤ 100 := by
   rw [show quoteN (c :: r) = (if c = 63 then [91, 63, 93] else [c]) ++ r from rfl]
   split <;> simp only [List.length_append, List.length_cons, List.length_nil] <;> lia
  have loop : ∃ l8 l9, y_while trT trBody (trS (quoteN (c :: r) ++ [42]) 0 none none none []) = some (.next, trS (quoteN (c :: r) ++ [42]) (quoteN (c :: r) ++ [42]).length (some (.str [42])) l8 l9 ((unitsN (c :: r)).map .str ++ [.own 0])) := by
   by_cases hc : c = 63
   ·subst hc
    have e : quoteN (63 :: r) ++ [42] = 91 :: 63 :: 93 :: (r ++ [42]) := rfl
    refine ⟨some (.int 2), some (.str [63]), ?_⟩
    unfold y_while
    rw [show lots = 999999 + 1 from rfl]
    refine wh_n (tr_lt (by rw [e]; exact Nat.succ_pos _)) (tr_q (r ++ [42]) e hz) ?_
    exact tr_loop (P := quoteN (63 :: r) ++ [42]) (l8 := some (.int 2)) (l9 := some (.str [63])) r 3 (some (.str [91])) [[91, 63, 93]] 999999 (by rw [e]; rfl) (sg_all h2) hz (by simp only [List.length_singleton]; lia) (by lia)
   ·have e : quoteN (c :: r) ++ [42] = (c :: r) ++ [42] := by rw [show quoteN (c :: r) = (if c = 63 then [91, 63, 93] else [c]) ++ r from rfl, if_neg hc]; rfl
    refine ⟨none, none, ?_⟩
    unfold y_while
    have := tr_loop (P := quoteN (c :: r) ++ [42]) (l8 := none) (l9 := none) (c :: r) 0 none [] lots (by rw [e]; rfl) (by rw [List.all_cons, hd_plain h1 hc, sg_all h2]; rfl) hz (by simp only [List.length_cons, List.length_nil]; lia) (by simp only [List.length_cons]; unfold lots; lia)
    rw [show unitsN (c :: r) = [] ++ (c :: r).map escN by rw [show unitsN (c :: r) = (if c = 63 then [91, 63, 93] else escN c) :: r.map escN from rfl, if_neg hc]; rfl]
    exact this
  obtain ⟨l8, l9, loop⟩ := loop
  have run : sem_translate2 (σ0 [.str (quoteN (c :: r) ++ [42]), .own 0, .str [46]] 10 [.obj]) = some (.ret (.own 1), trS (quoteN (c :: r) ++ [42]) (quoteN (c :: r) ++ [42]).length (some (.str [42])) l8 l9 ((unitsN (c :: r)).map .str ++ [.own 0])) := by
   rw [tr2_eq]
   generalize hP : quoteN (c :: r) ++ [42] = P at *
   refine seq_n (σ' := ⟨[some (.str P), some (.own 0), some (.str [46]), some (.own 1), none, none, none, none, none, none, none, none, none], [.obj, .lst []]⟩) (asg_of (v := .own 1) (σ1 := ⟨[some (.str P), some (.own 0), some (.str [46]), none, none, none, none, none, none, none, none, none, none], [.obj, .lst []]⟩) rfl) (seq_n (σ' := ⟨[some (.str P), some (.own 0), some (.str [46]), some (.own 1), some (.app 1), none, none, none, none, none, none, none, none], [.obj, .lst []]⟩) (asg_of (v := .app 1) (σ1 := ⟨[some (.str P), some (.own 0), some (.str [46]), some (.own 1), none, none, none, none, none, none, none, none, none], [.obj, .lst []]⟩) rfl) (seq_n (σ' := trS P 0 none none none []) ?_ (seq_n loop (seq_n (σ' := trS P P.length (some (.str [42])) l8 l9 ((unitsN (c :: r)).map .str ++ [.own 0])) ?_ rfl))))
   ·have hz' : P.length ≤ smallN := by unfold smallN; exact tA ‹_› (by decide)
    unfold y_pair
    have : s_tup (s_cons (s_c (.int 0)) (s_cons (s_blt .len (s_cons (s_loc 0) s_nil)) s_nil)) ⟨[some (.str P), some (.own 0), some (.str [46]), some (.own 1), some (.app 1), none, none, none, none, none, none, none, none], [.obj, .lst []]⟩ = some (.tup [.int 0, .int P.length], ⟨[some (.str P), some (.own 0), some (.str [46]), some (.own 1), some (.app 1), none, none, none, none, none, none, none, none], [.obj, .lst []]⟩) := by
     simp only [s_tup, s_cons, s_c, s_blt, s_loc, s_nil, List.getElem?_cons_zero, bltV, arg1, lenV, if_pos hz']
     rfl
    rw [this]
    rfl
   ·unfold y_assert
    rw [cmp_of (op := .Eq) (x := s_loc 5) (y := s_loc 6) (v := .int P.length) (w := .int P.length) (c := true) (σ := trS P P.length (some (.str [42])) l8 l9 ((unitsN (c :: r)).map V.str ++ [V.own 0])) rfl rfl (by show some ((P.length : Int) == (P.length : Int)) = _; rw [beq_self_eq_true])]
  unfold g_translate2 s_def
  rw [if_pos (show [V.str (quoteN (c :: r) ++ [42]), V.own 0, V.str [46]].length = 3 from rfl), run]
  have lw : V.lows 1 ((unitsN (c :: r)).map .str ++ [.own 0]) = true := by
   have : ∀ l : List (List Nat), V.lows 1 (l.map .str ++ [.own 0]) = true := by
    intro l
    induction l with
    | nil => rfl
    | cons x l ih => simp only [List.map_cons, List.cons_append, V.lows, V.low, ih, Bool.and_true]
   exact this _
  show leave 1 (.ret (.own 1)) _ = _
  unfold leave
  simp only [retV, freeze]
  rw [if_neg (by decide)]
  simp only [List.getElem?_cons_succ, List.getElem?_cons_zero]
  rw [if_pos lw]
  rfl
end
noncomputable section
noncomputable abbrev joS (I : List V) (i : Nat) (l6 : Option V) (R : List V) : Sg := ⟨[some (.lst I), some (.own 0), some (.own 1), some (.app 1), some (.int i), some (.int I.length), l6], [.obj, .lst R]⟩
noncomputable abbrev joT1 : ST := s_and (s_cmp .Lt (s_loc 4) (s_loc 5)) (s_and (s_cmp .IsNot (s_idx (s_loc 0) (s_loc 4)) (s_loc 1)) (s_t true))
noncomputable abbrev joB1 : SY := y_seq (y_expr (s_app (s_loc 3) (s_idx (s_loc 0) (s_loc 4)))) (y_seq (y_aug 4 (s_c (.int 1))) y_nil)
noncomputable abbrev joT2 : ST := s_cmp .Lt (s_loc 4) (s_loc 5)
noncomputable abbrev joB2 : SY := (y_seq (y_assert (s_cmp .Is (s_idx (s_loc 0) (s_loc 4)) (s_loc 1)))
 (y_seq (y_aug 4 (s_c (.int 1)))
 (y_seq (y_if (s_cmp .Eq (s_loc 4) (s_loc 5)) (y_seq (y_expr (s_app (s_loc 3) (s_c (.str [46, 42]))))
  (y_seq y_brk
  y_nil)) y_nil)
 (y_seq (y_assert (s_cmp .IsNot (s_idx (s_loc 0) (s_loc 4)) (s_loc 1)))
 (y_seq (y_asg 6 (s_list s_nil))
 (y_seq (y_while (s_and (s_cmp .Lt (s_loc 4) (s_loc 5)) (s_and (s_cmp .IsNot (s_idx (s_loc 0) (s_loc 4)) (s_loc 1)) (s_t true))) (y_seq (y_expr (s_meth .append (s_loc 6) (s_cons (s_idx (s_loc 0) (s_loc 4)) s_nil)))
  (y_seq (y_aug 4 (s_c (.int 1)))
  y_nil)))
 (y_seq (y_asg 6 (s_meth .join (s_c (.str [])) (s_cons (s_loc 6) s_nil)))
 (y_seq (y_if (s_cmp .Eq (s_loc 4) (s_loc 5)) (y_seq (y_expr (s_app (s_loc 3) (s_c (.str [46, 42]))))
  (y_seq (y_expr (s_app (s_loc 3) (s_loc 6)))
  y_nil)) (y_seq (y_expr (s_app (s_loc 3) (s_joinL (s_cons (s_c (.str [40, 63, 62, 46, 42, 63])) (s_cons (s_fmt (s_loc 6)) (s_cons (s_c (.str [41])) s_nil))))))
  y_nil))
 y_nil))))))))
noncomputable abbrev joE : SY := (y_seq (y_assert (s_cmp .Eq (s_loc 4) (s_loc 5)))
 (y_seq (y_asg 2 (s_meth .join (s_c (.str [])) (s_cons (s_loc 2) s_nil)))
 (y_seq (y_ret (s_joinL (s_cons (s_c (.str [40, 63, 115, 58])) (s_cons (s_fmt (s_loc 2)) (s_cons (s_c (.str [41, 92, 90])) s_nil)))))
 y_nil)))
theorem jo_eq : sem_joinp = (y_seq (y_asg 2 (s_list s_nil))
 (y_seq (y_asg 3 (s_attr (s_loc 2)))
 (y_seq (y_pair 4 5 (s_tup (s_cons (s_c (.int 0)) (s_cons (s_blt .len (s_cons (s_loc 0) s_nil)) s_nil))))
 (y_seq (y_while joT1 joB1)
 (y_seq (y_while joT2 joB2) joE))))) := rfl
section
variable {I : List V} {i : Nat} {l6 : Option V} {R : List V} {v : V}
theorem jo_idx (h : I[i]? = some v) (hi : i < 1000) : s_idx (s_loc 0) (s_loc 4) (joS I i l6 R) = some (v, joS I i l6 R) := by
 refine s_idx_of (u := .lst I) (v := .int i) rfl rfl ?_
 rw [idxV_lst, if_pos (by exact tG _), if_pos (by omega), show (i : Int).toNat = i from rfl, h]
theorem jo_lt (h : i < I.length) : joT2 (joS I i l6 R) = some (true, joS I i l6 R) := cmp_of (v := .int i) (w := .int I.length) rfl rfl (by show some (decide ((i : Int) < (I.length : Int))) = _; rw [decide_eq_true (by exact Int.ofNat_lt.mpr ‹_›)])
theorem jo_end : s_cmp .Eq (s_loc 4) (s_loc 5) (joS I I.length l6 R) = some (true, joS I I.length l6 R) := cmp_of (v := .int I.length) (w := .int I.length) rfl rfl (by show some ((I.length : Int) == (I.length : Int)) = _; rw [beq_self_eq_true])
theorem jo_app {x : SE} (hx : x (joS I i l6 R) = some (v, joS I i l6 R)) (hR : R.length ≤ 1000) : y_expr (s_app (s_loc 3) x) (joS I i l6 R) = some (.next, joS I i l6 (R ++ [v])) := by
 exact expr_of (app_a (k := 1) (vs := R) rfl hx rfl (tA hR (by decide)))
theorem jo_aug : y_aug 4 (s_c (.int 1)) (joS I i l6 R) = some (.next, joS I (i + 1) l6 R) := rfl
theorem jo_t1 {x : List Nat} (h : I[i]? = some (.str x)) (hi : i < 1000) : joT1 (joS I i l6 R) = some (true, joS I i l6 R) :=
 and_t (jo_lt (List.getElem?_eq_some_iff.mp h).1) (and_t (cmp_of (v := .str x) (w := .own 0) (jo_idx h hi) rfl rfl) rfl)
theorem jo_t0 (h : I[i]? = some (.own 0)) (hi : i < 1000) : joT1 (joS I i l6 R) = some (false, joS I i l6 R) :=
 and_t (jo_lt (List.getElem?_eq_some_iff.mp h).1) (and_f (cmp_of (v := .own 0) (w := .own 0) (jo_idx h hi) rfl rfl))
theorem jo_loop : ∀ (us : List (List Nat)) (i : Nat) (R : List V) (k : Nat), I.drop i = us.map .str ++ [.own 0] → I.length ≤ 100 → R.length + us.length ≤ 500 → us.length < k →
  whL joT1 joB1 k (joS I i none R) = some (.next, joS I (i + us.length) none (R ++ us.map .str))
 | [], i, R, k + 1, hd, hI, hR, hk => by
  have h0 : I[i]? = some (.own 0) := by
   have := congrArg (fun l => l[0]?) hd
   simpa using this
  have lt := (List.getElem?_eq_some_iff.mp h0).1
  rw [List.map_nil, List.append_nil]
  exact wh_0 (jo_t0 h0 (by exact tC ‹_› (tA ‹_› (by decide))))
 | u :: us, i, R, k + 1, hd, hI, hR, hk => by
  have h0 : I[i]? = some (.str u) := by
   have := congrArg (fun l => l[0]?) hd
   simpa using this
  have lt := (List.getElem?_eq_some_iff.mp h0).1
  have hd2 : I.drop (i + 1) = us.map .str ++ [.own 0] := by
   have := congrArg (fun l => l.drop 1) hd
   simpa [List.drop_drop] using this
  simp only [List.length_cons] at hR hk
  refine wh_n (jo_t1 h0 (by exact tC ‹_› (tA ‹_› (by decide)))) (seq_n (jo_app (jo_idx h0 (by exact tC ‹_› (tA ‹_› (by decide)))) (by exact tA (tE _ _) (tA ‹_› (by decide)))) (seq_n jo_aug rfl)) ?_
  have ih := jo_loop us (i + 1) (R ++ [.str u]) k hd2 hI (by rw [List.length_append, List.length_singleton]; lia) (by exact tD ‹_›)
  rw [show i + (u :: us).length = i + 1 + us.length by simp only [List.length_cons]; simp +arith, show R ++ (u :: us).map V.str = R ++ [.str u] ++ us.map .str by simp]
  exact ih
end
noncomputable abbrev starL : List Nat := [46, 42]
section
variable {us : List (List Nat)}
theorem strs_of : ∀ us : List (List Nat), strsOf (us.map .str) = some us
 | [] => rfl
 | u :: us => by rw [List.map_cons, strsOf, strs_of us]; rfl
theorem jo_one (hu : us.length ≤ 50) : y_while joT1 joB1 (joS (us.map .str ++ [.own 0]) 0 none []) = some (.next, joS (us.map .str ++ [.own 0]) us.length none (us.map .str)) := by
 have := jo_loop (I := us.map .str ++ [.own 0]) us 0 [] lots rfl (by rw [List.length_append, List.length_map, List.length_singleton]; exact tB ‹_› (by decide)) (by simp only [List.length_nil]; lia) (by unfold lots; exact tB ‹_› (by decide))
 rw [Nat.zero_add, List.nil_append] at this
 exact this
theorem is_of {x y : SE} {σ : Sg} (h0 : x σ = some (V.own 0, σ)) (h1 : y σ = some (V.own 0, σ)) : s_cmp .Is x y σ = some (true, σ) := by
 have e : cmpV .Is (.own 0) (.own 0) σ = some true := rfl
 simp only [s_cmp, h0, h1, e]
theorem jo_star {I R : List V} {i : Nat} : s_loc 1 (joS I i none R) = some (.own 0, joS I i none R) := rfl
theorem jo_idx0 {I R : List V} {i : Nat} (h0 : I[i]? = some (V.own 0)) (hi : i < 1000) : s_idx (s_loc 0) (s_loc 4) (joS I i none R) = some (.own 0, joS I i none R) := jo_idx h0 hi
theorem jo_is {I R : List V} {i : Nat} (h0 : I[i]? = some (V.own 0)) (hi : i < 1000) : s_cmp .Is (s_idx (s_loc 0) (s_loc 4)) (s_loc 1) (joS I i none R) = some (true, joS I i none R) := is_of (jo_idx0 h0 hi) jo_star
theorem bo1 {I : List V} {i : Nat} {R : List V} (h0 : I[i]? = some (V.own 0)) (hi : i < 1000) : y_assert (s_cmp .Is (s_idx (s_loc 0) (s_loc 4)) (s_loc 1)) (joS I i none R) = some (.next, joS I i none R) := assert_of (jo_is h0 hi)
theorem bo2 {I : List V} {R : List V} (hR : R.length ≤ 1000) : y_seq (y_expr (s_app (s_loc 3) (s_c (.str [46, 42])))) (y_seq y_brk y_nil) (joS I I.length none R) = some (.brk, joS I I.length none (R ++ [V.str starL])) := seq_n (jo_app rfl hR) rfl
theorem bo3 {I : List V} {R : List V} (hR : R.length ≤ 1000) : y_if (s_cmp .Eq (s_loc 4) (s_loc 5)) (y_seq (y_expr (s_app (s_loc 3) (s_c (.str [46, 42])))) (y_seq y_brk y_nil)) y_nil (joS I I.length none R) = some (.brk, joS I I.length none (R ++ [V.str starL])) := if_t jo_end (bo2 hR)
theorem bo4 {t : SY} {I : List V} {i : Nat} {R : List V} (le : I.length = i + 1) (hR : R.length ≤ 1000) : y_seq (y_aug 4 (s_c (.int 1)))
 (y_seq (y_if (s_cmp .Eq (s_loc 4) (s_loc 5)) (y_seq (y_expr (s_app (s_loc 3) (s_c (.str [46, 42]))))
  (y_seq y_brk
  y_nil)) y_nil) t) (joS I i none R) = some (.brk, joS I I.length none (R ++ [V.str starL])) := by
 have e := bo3 (I := I) (R := R) hR
 have a : y_aug 4 (s_c (.int 1)) (joS I i none R) = some (.next, joS I I.length none R) := by rw [jo_aug, le]
 exact seq_n a (seq_b e)
theorem jo_body {t : SY} {I : List V} {i : Nat} {R : List V} (h0 : I[i]? = some (V.own 0)) (le : I.length = i + 1) (hi : i < 1000) (hR : R.length ≤ 1000) : y_seq (y_assert (s_cmp .Is (s_idx (s_loc 0) (s_loc 4)) (s_loc 1)))
 (y_seq (y_aug 4 (s_c (.int 1)))
 (y_seq (y_if (s_cmp .Eq (s_loc 4) (s_loc 5)) (y_seq (y_expr (s_app (s_loc 3) (s_c (.str [46, 42]))))
  (y_seq y_brk
  y_nil)) y_nil) t)) (joS I i none R) = some (.brk, joS I I.length none (R ++ [V.str starL])) := seq_n (bo1 h0 hi) (bo4 le hR)
theorem jo_two (hu : us.length ≤ 50) : y_while joT2 joB2 (joS (us.map .str ++ [V.own 0]) us.length none (us.map .str)) = some (.next, joS (us.map .str ++ [V.own 0]) (us.map V.str ++ [V.own 0]).length none (us.map .str ++ [V.str starL])) := by
 have le : (us.map V.str ++ [V.own 0]).length = us.length + 1 := by rw [List.length_append, List.length_map, List.length_singleton]
 have h0 : (us.map V.str ++ [V.own 0])[us.length]? = some (V.own 0) := by
  rw [List.getElem?_append_right (by rw [List.length_map]; exact Nat.le_refl _), List.length_map, Nat.sub_self]; rfl
 have lr : (us.map V.str).length ≤ 1000 := by rw [List.length_map]; exact tA ‹_› (by decide)
 generalize us.map V.str ++ [V.own 0] = I at *
 generalize us.map V.str = R at *
 unfold y_while
 rw [show lots = 999999 + 1 from rfl]
 exact wh_b (σ1 := joS I us.length none R) (jo_lt (by lia)) (jo_body h0 le (by exact tB ‹_› (by decide)) lr)
theorem jo_res (R : List (List Nat)) (I : List V) (hR : (R.map List.length).sum ≤ smallN) : s_meth .join (s_c (.str [])) (s_cons (s_loc 2) s_nil) (joS I I.length none (R.map .str)) = some (.str R.flatten, joS I I.length none (R.map .str)) := by
 exact meth_str (z := []) (vs := [.own 1]) rfl rfl (join_of (vs := R.map .str) rfl (strs_of _) hR)
theorem sum_flat : ∀ xs : List (List Nat), (xs.map List.length).sum = xs.flatten.length
 | [] => rfl
 | x :: xs => by rw [List.map_cons, List.sum_cons, List.flatten_cons, List.length_append, sum_flat xs]
theorem jo_last (R : List (List Nat)) (I : List V) (hR : R.flatten.length ≤ 1000) : joE (joS I I.length none (R.map .str)) = some (.ret (.str ([40, 63, 115, 58] ++ (R.flatten ++ [41, 92, 90]))), ⟨[some (.lst I), some (.own 0), some (.str R.flatten), some (.app 1), some (.int I.length), some (.int I.length), none], [.obj, .lst (R.map .str)]⟩) := by
 refine seq_n (σ' := joS I I.length none (R.map .str)) ?_ (seq_n (asg_of (jo_res R I (by rw [sum_flat]; unfold smallN; exact tA ‹_› (by decide)))) ?_)
 ·exact assert_of jo_end
 ·unfold y_seq y_ret s_joinL
  rw [show s_cons (s_c (.str [40, 63, 115, 58])) (s_cons (s_fmt (s_loc 2)) (s_cons (s_c (.str [41, 92, 90])) s_nil)) ((joS I I.length none (R.map .str)).put 2 (.str R.flatten)) = some ([.str [40, 63, 115, 58], .str R.flatten, .str [41, 92, 90]], ⟨[some (.lst I), some (.own 0), some (.str R.flatten), some (.app 1), some (.int I.length), some (.int I.length), none], [.obj, .lst (R.map .str)]⟩) by
   have hf : s_fmt (s_loc 2) ((joS I I.length none (R.map .str)).put 2 (.str R.flatten)) = some (.str R.flatten, (joS I I.length none (R.map .str)).put 2 (.str R.flatten)) := by
    exact if_pos (show R.flatten.length ≤ smallN by unfold smallN; exact tA ‹_› (by decide))
   simp only [s_cons, s_c, hf, s_nil]
   rfl]
  dsimp only [strsOf, Option.map]
  rw [if_pos (by simp only [List.flatten_cons, List.flatten_nil, List.append_nil, List.length_append, List.length_cons, List.length_nil]; unfold smallN; lia)]
  simp only [List.flatten_cons, List.flatten_nil, List.append_nil]
theorem jo_pair (I : List V) (hI : I.length ≤ smallN) : y_pair 4 5 (s_tup (s_cons (s_c (.int 0)) (s_cons (s_blt .len (s_cons (s_loc 0) s_nil)) s_nil))) ⟨[some (.lst I), some (.own 0), some (.own 1), some (.app 1), none, none, none], [.obj, .lst []]⟩ = some (.next, joS I 0 none []) := by
 unfold y_pair
 have : s_tup (s_cons (s_c (.int 0)) (s_cons (s_blt .len (s_cons (s_loc 0) s_nil)) s_nil)) ⟨[some (.lst I), some (.own 0), some (.own 1), some (.app 1), none, none, none], [.obj, .lst []]⟩ = some (.tup [.int 0, .int I.length], ⟨[some (.lst I), some (.own 0), some (.own 1), some (.app 1), none, none, none], [.obj, .lst []]⟩) := by
  have b : s_blt .len (s_cons (s_loc 0) s_nil) ⟨[some (.lst I), some (.own 0), some (.own 1), some (.app 1), none, none, none], [.obj, .lst []]⟩ = some (.int I.length, ⟨[some (.lst I), some (.own 0), some (.own 1), some (.app 1), none, none, none], [.obj, .lst []]⟩) := blt_of (vs := [.lst I]) (cons_of rfl rfl) (if_pos hI)
  unfold s_tup
  rw [cons_of (x := s_c (.int 0)) rfl (cons_of b rfl)]
  exact if_pos (by show 2 ≤ smallN; decide)
 rw [this]
 rfl
theorem jo_run (hu : us.length ≤ 50) (hz : us.flatten.length ≤ 500) : ∃ σf : Sg, σf.hp = [.obj, .lst (us.map .str ++ [.str starL])] ∧ sem_joinp ⟨[some (.lst (us.map .str ++ [.own 0])), some (.own 0), none, none, none, none, none], [.obj]⟩ = some (.ret (.str ([40, 63, 115, 58] ++ ((us.flatten ++ starL) ++ [41, 92, 90]))), σf) := by
 have e : us.map V.str ++ [.str starL] = (us ++ [starL]).map .str := by simp
 have l := jo_last (us ++ [starL]) (us.map .str ++ [.own 0]) (by rw [List.flatten_append, List.length_append]; simp only [List.flatten_cons, List.flatten_nil, List.append_nil, List.length_cons, List.length_nil]; lia)
 rw [← e, List.flatten_append, show [starL].flatten = starL from rfl] at l
 refine ⟨⟨[some (.lst (us.map .str ++ [V.own 0])), some (.own 0), some (.str (us.flatten ++ starL)), some (.app 1), some (.int (us.map V.str ++ [V.own 0]).length), some (.int (us.map V.str ++ [V.own 0]).length), none], [.obj, .lst (us.map .str ++ [V.str starL])]⟩, rfl, ?_⟩
 ·rw [jo_eq]
  refine seq_n (σ' := ⟨[some (.lst (us.map .str ++ [.own 0])), some (.own 0), some (.own 1), none, none, none, none], [.obj, .lst []]⟩) (asg_of (v := .own 1) (σ1 := ⟨[some (.lst (us.map .str ++ [.own 0])), some (.own 0), none, none, none, none, none], [.obj, .lst []]⟩) rfl) (seq_n (σ' := ⟨[some (.lst (us.map .str ++ [.own 0])), some (.own 0), some (.own 1), some (.app 1), none, none, none], [.obj, .lst []]⟩) (asg_of (v := .app 1) (σ1 := ⟨[some (.lst (us.map .str ++ [.own 0])), some (.own 0), some (.own 1), none, none, none, none], [.obj, .lst []]⟩) rfl) (seq_n (jo_pair _ ?_) (seq_n (jo_one hu) (seq_n (jo_two hu) l))))
  rw [List.length_append, List.length_map, List.length_singleton]; unfold smallN; exact tB ‹_› (by decide)
theorem joinp_at (hu : us.length ≤ 50) (hz : us.flatten.length ≤ 500) : g_joinp [.lst (us.map .str ++ [.own 0]), .own 0] [.obj] = some (.str ([40, 63, 115, 58] ++ ((us.flatten ++ starL) ++ [41, 92, 90])), [.obj]) := by
 obtain ⟨σf, hh, run⟩ := jo_run hu hz
 unfold g_joinp s_def
 rw [if_pos (show [V.lst (us.map .str ++ [.own 0]), V.own 0].length = 2 from rfl), show σ0 [V.lst (us.map .str ++ [.own 0]), V.own 0] 5 [.obj] = ⟨[some (.lst (us.map .str ++ [.own 0])), some (.own 0), none, none, none, none, none], [.obj]⟩ from rfl, run]
 dsimp only
 unfold leave
 simp only [retV, freeze, frz, V.low, hh]
 rfl
end
noncomputable def textN (p : List Nat) : List Nat := [40, 63, 115, 58] ++ (((unitsN p).flatten ++ starL) ++ [41, 92, 90])
theorem esc_len (c : Nat) : (escN c).length ≤ 2 := by
 unfold escN trMap
 split <;> simp
theorem units_len : ∀ r : List Nat, ((r.map escN).flatten).length ≤ 2 * r.length
 | [] => Nat.le_refl _
 | c :: r => by
  rw [List.map_cons, List.flatten_cons, List.length_append, List.length_cons]
  have := esc_len c
  have := units_len r
  lia
theorem translate_at {p : List Nat} (hp : Front p) (H : List O) : g_translate [.str (quoteN p ++ [42])] H = some (.str (textN p), H) := by
 have b : (unitsN p).length ≤ 50 ∧ ((unitsN p).flatten).length ≤ 500 := by
  match p, hp with
  | c :: r, ⟨_, _, h3⟩ =>
   have h1 : (unitsN (c :: r)).length ≤ 50 := by
    show (_ :: r.map escN).length ≤ 50
    rw [List.length_cons, List.length_map]; exact tB ‹_› (by decide)
   refine ⟨h1, ?_⟩
   show ((_ :: r.map escN).flatten).length ≤ 500
   rw [List.flatten_cons, List.length_append]
   have := units_len r
   have := esc_len c
   split
   ·simp only [List.length_cons, List.length_nil]; lia
   ·lia
 have run : sem_translate ⟨[some (.str (quoteN p ++ [42])), none, none], []⟩ = some (.ret (.str (textN p)), ⟨[some (.str (quoteN p ++ [42])), some (.own 0), some (.lst ((unitsN p).map .str ++ [.own 0]))], [.obj]⟩) := by
  unfold sem_translate
  refine seq_n (σ' := ⟨[some (.str (quoteN p ++ [42])), some (.own 0), none], [.obj]⟩) (asg_of (v := .own 0) (σ1 := ⟨[some (.str (quoteN p ++ [42])), none, none], [.obj]⟩) rfl) (seq_n (asg_of (v := .lst ((unitsN p).map .str ++ [.own 0])) (σ1 := ⟨[some (.str (quoteN p ++ [42])), some (.own 0), none], [.obj]⟩) ?_) ?_)
  ·unfold s_call
   rw [show s_cons (s_loc 0) (s_cons (s_loc 1) (s_cons (s_c (.str [46])) s_nil)) ⟨[some (.str (quoteN p ++ [42])), some (.own 0), none], [.obj]⟩ = some ([.str (quoteN p ++ [42]), .own 0, .str [46]], ⟨[some (.str (quoteN p ++ [42])), some (.own 0), none], [.obj]⟩) from rfl]
   dsimp only
   rw [tr2_at hp]
  ·unfold y_seq y_ret s_call
   rw [show s_cons (s_loc 2) (s_cons (s_loc 1) s_nil) (Sg.put ⟨[some (.str (quoteN p ++ [42])), some (.own 0), none], [.obj]⟩ 2 (.lst ((unitsN p).map .str ++ [.own 0]))) = some ([.lst ((unitsN p).map .str ++ [.own 0]), .own 0], ⟨[some (.str (quoteN p ++ [42])), some (.own 0), some (.lst ((unitsN p).map .str ++ [.own 0]))], [.obj]⟩) from rfl]
   dsimp only
   rw [joinp_at b.1 b.2]
   rfl
 unfold g_translate s_pure
 rw [if_pos (show [V.str (quoteN p ++ [42])].length = 1 from rfl), if_pos (show V.lows 0 [V.str (quoteN p ++ [42])] = true from rfl), show σ0 [V.str (quoteN p ++ [42])] 2 [] = ⟨[some (.str (quoteN p ++ [42])), none, none], []⟩ from rfl, run]
 rfl
end
set_option maxRecDepth 100000
noncomputable section
noncomputable def isI (i : Int) (x : Value) : Bool := match x with
 | .int j _ => decide (i = j)
 | _ => false
noncomputable def isS (i : List Nat) (x : Value) : Bool := match x with
 | .str j _ => decide (j = sOf i)
 | _ => false
noncomputable def isT (K : Frag) (g : List Value → Bool) (x : Value) : Bool := match x with
 | .ref a => match K.lookup a with
  | some o => match o.data with
   | .seq xs _ => decide (o.cls = .type "tuple") && g xs.toList
   | _ => false
  | none => false
 | _ => false
mutual
noncomputable def vChk (K : Frag) : V → Value → Bool
 | .int i => isI i
 | .str x => isS x
 | .tup vs => isT K (vsChk K vs)
 | _ => fun _ => false
noncomputable def vsChk (K : Frag) : List V → List Value → Bool
 | [] => List.isEmpty
 | v :: vs => fun l => match l with
  | x :: xs => vChk K v x && vsChk K vs xs
  | [] => false
end
section
variable {C : Cx} {K : Frag} {as : List Addr} {h : Heap}
mutual
theorem vChk_ok (X : FragIn C K) (wd : C.Wd h) (na : ∀ a ∈ as, ¬ C.Old a) : ∀ (v : V) {x : Value}, vChk K v x = true → VR as h v x
 | .int i, x, e => by
  unfold vChk isI at e
  split at e
  ·rw [of_decide_eq_true e]
   exact .int _ _
  ·cases e
 | .str y, x, e => by
  unfold vChk isS at e
  split at e
  ·rw [of_decide_eq_true e]
   exact .str _ _
  ·cases e
 | .tup vs, x, e => by
  unfold vChk isT at e
  split at e
  ·rename_i a
   split at e
   ·rename_i o ho
    split at e
    ·rename_i xs n hd
     rw [Bool.and_eq_true] at e
     refine .tup vs a xs.toList ⟨o, wd.base _ _ (X _ _ ho), of_decide_eq_true e.1, n, by simpa using hd⟩ (fun m => na a m (.inl ⟨o, X _ _ ho⟩)) (vsChk_ok X wd na vs e.2)
    ·cases e
   ·cases e
  ·cases e
 | .none, _, e | .bool _, _, e | .byt _, _, e | .lst _, _, e | .own _, _, e | .app _, _, e | .rng _ _, _, e | .raw _, _, e => by unfold vChk at e; cases e
theorem vsChk_ok (X : FragIn C K) (wd : C.Wd h) (na : ∀ a ∈ as, ¬ C.Old a) : ∀ (vs : List V) {xs : List Value}, vsChk K vs xs = true → VRs as h vs xs
 | [], xs, e => by
  unfold vsChk at e
  rw [List.isEmpty_iff.mp e]
  exact .nil
 | v :: vs, xs, e => by
  unfold vsChk at e
  split at e
  ·rw [Bool.and_eq_true] at e
   exact .cons _ _ _ _ (vChk_ok X wd na v e.1) (vsChk_ok X wd na vs e.2)
  ·cases e
end
end
noncomputable def eChk : List DictEntry → List Nat → Bool
 | [], [] => true
 | e :: l, n :: ls => (match e.key, e.val with | .int k _, .str y _ => decide (k = (n : Int)) && decide (y = sOf [92, n]) && decide (e.hash = hashInt k) | _, _ => false) && eChk l ls
 | _, _ => false
theorem eChk_ok : ∀ {l : List DictEntry} {ls : List Nat}, eChk l ls = true → (∀ e ∈ l, ∃ k, Value.isInt k e.key = true ∧ e.hash = hashInt k) ∧ ∀ c : Nat, (ls.contains c = false ∧ (l.find? fun e => Value.isInt c e.key).map (·.val) = none) ∨ (ls.contains c = true ∧ ∃ t, (l.find? fun e => Value.isInt c e.key).map (·.val) = some (.str (sOf [92, c]) t))
 | [], [], _ => ⟨by simp, fun c => .inl ⟨rfl, rfl⟩⟩
 | ⟨hh, k, v⟩ :: l, n :: ls, e => by
  unfold eChk at e
  rw [Bool.and_eq_true] at e
  obtain ⟨e1, e2⟩ := e
  split at e1
  ·rename_i i t y u h1 h2
   dsimp only at h1 h2
   subst h1 h2
   simp only [Bool.and_eq_true, decide_eq_true_eq] at e1
   obtain ⟨⟨rfl, rfl⟩, e1⟩ := e1
   obtain ⟨q1, q2⟩ := eChk_ok e2
   refine ⟨fun e m => ?_, fun c => ?_⟩
   ·rcases List.mem_cons.mp m with rfl | m
    ·exact ⟨n, by simp [Value.isInt], e1⟩
    ·exact q1 e m
   ·rw [List.find?_cons, List.contains_cons]
    by_cases hc : c = n
    ·subst hc
     right
     simp [Value.isInt]
    ·have z : Value.isInt (c : Int) (.int (n : Int) t) = false := by
      simp [Value.isInt]
      lia
     dsimp only
     rw [z]
     have z2 : (c == n) = false := by simpa using hc
     rw [z2]
     simpa using q2 c
  ·cases e1
 | [], _ :: _, e => by simp [eChk] at e
 | _ :: _, [], e => by simp [eChk] at e
theorem trm {C : Cx} {a : Addr} {o : Obj} {n : Nat} {l : List DictEntry} (hb : C.base a o) (hd : o.data = .dict l.toArray n) (hx : o.ExactDict) (hc : eChk l specials = true) (ne : (a == sysModules) = false) (h : Heap) (wd : C.Wd h) : TrMap C.prog C.w h a trMap := by
 obtain ⟨q1, q2⟩ := eChk_ok hc
 refine ⟨⟨findBy (intKind C.prog C.w).is l.toArray, ⟨o, _, _, wd.base _ _ hb, hx, hd, fun e m => q1 e (by simpa using m), fun _ => rfl⟩, fun c => ?_⟩, ne⟩
 have ef : findBy (intKind C.prog C.w).is l.toArray (c : Int) = (l.find? fun e => Value.isInt c e.key).map (·.val) := by
  unfold findBy
  rw [List.find?_toArray]
  rfl
 rw [ef]
 rcases q2 c with ⟨a1, a2⟩ | ⟨a1, t, a2⟩
 ·exact .inl ⟨by unfold trMap; rw [a1]; rfl, a2⟩
 ·exact .inr ⟨[92, c], t, by unfold trMap; rw [a1]; rfl, a2, rfl⟩
theorem F_ifmt (w : World) : FS (cx w) 1 111 g_ifmt :=
 fs_pure rfl (n := 0) (ps := [Str.ofString "mode"]) (more := []) (D_S_IFMT w) (by decide +kernel) (cb_ifmt (n := 0) )
theorem g_tab (w : World) : GL (cx w) "_filemode_table" tabV := ⟨.ref 144, by kernel_rfl, fun as h wd na => vChk_ok (frIn w) wd na tabV (by kernel_rfl)⟩
theorem F_filemode (w : World) : FS (cx w) 2 151 g_filemode :=
 fs_pure rfl (n := 1) (ps := [Str.ofString "mode"]) (more := [Str.ofString "perm", Str.ofString "index", Str.ofString "table", Str.ofString "bit", Str.ofString "char"]) (D_filemode w) (by decide +kernel) (cb_filemode (n := 1) (gls w (by kernel_rfl)) (FS.le (F_ifmt w) (by decide)) (g_tab w) (bls w (by kernel_rfl) (by kernel_rfl)))
theorem F_row (w : World) : FS (cx w) 1 165 g_row :=
 fs_pure rfl (n := 0) (ps := [Str.ofString "bits"]) (more := [Str.ofString "row", Str.ofString "k", Str.ofString "figure", Str.ofString "above"]) (D_law_row w) (by decide +kernel) (cb_row (n := 0) (bls w (by kernel_rfl) (by kernel_rfl)))
theorem F_joinp (w : World) : FS (cx w) 1 104 g_joinp :=
 fs_def (n := 0) (ps := [Str.ofString "inp", Str.ofString "STAR"]) (more := [Str.ofString "res", Str.ofString "add", Str.ofString "i", Str.ofString "n", Str.ofString "fixed"]) (D_join_translated_parts w) (by decide +kernel) (cb_joinp (n := 0) (bls w (by kernel_rfl) (by kernel_rfl)))
theorem tr_at (w : World) (h : Heap) (wd : (cx w).Wd h) : TrMap (cx w).prog (cx w).w h 80 trMap := trm (o := o80 w.params) (l := (esOf (o80 w.params)).toList) (n := epOf (o80 w.params)) (show (fragT w.params).lookup 80 = _ by kernel_rfl) (by kernel_rfl) ⟨by kernel_rfl, by kernel_rfl, by kernel_rfl⟩ (by kernel_rfl) (by decide) h wd
theorem F_escape (w : World) : FS (cx w) 1 90 g_escape :=
 fs_pure rfl (n := 0) (ps := [Str.ofString "pattern"]) (more := []) (D_escape w) (by decide +kernel) (cb_escape (n := 0) (gls w (by kernel_rfl)) (tr_at w) (bls w (by kernel_rfl) (by kernel_rfl)) (bls w (by kernel_rfl) (by kernel_rfl)))
noncomputable def seqOf (o : Obj) : Array Value := match o.data with | .seq es _ => es | _ => #[]
noncomputable def seqN (o : Obj) : Nat := match o.data with | .seq _ n => n | _ => 0
theorem pat_at (w : World) (h : Heap) (wd : (cx w).Wd h) : PatAt h 71 70 (seqOf (o70 w.params)).toList reCode ((fldsOf (o71 w.params)).getD 0 .none) 1 :=
 ⟨⟨o71 w.params, (fldsOf (o71 w.params)).getD 3 .none, (fldsOf (o71 w.params)).getD 4 .none, (intAt (o71 w.params) 1).2, (intAt (o71 w.params) 2).2, (intAt (o71 w.params) 6).2, wd.base 71 _ (show (fragT w.params).lookup 71 = _ by kernel_rfl), by kernel_rfl, by kernel_rfl⟩,
  ⟨o70 w.params, seqN (o70 w.params), wd.base 70 _ (show (fragT w.params).lookup 70 = _ by kernel_rfl), by kernel_rfl⟩, by kernel_rfl⟩
theorem pat_nd (w : World) (h : Heap) (wd : (cx w).Wd h) : ∃ o, h.get? 71 = some o ∧ o.dict = none := ⟨o71 w.params, wd.base 71 _ (show (fragT w.params).lookup 71 = _ by kernel_rfl), by kernel_rfl⟩
theorem F_translate2 (w : World) : FS (cx w) 2 97 g_translate2 :=
 fs_def (n := 1) (ps := [Str.ofString "pat", Str.ofString "STAR", Str.ofString "QUESTION_MARK"]) (more := [Str.ofString "res", Str.ofString "add", Str.ofString "i", Str.ofString "n", Str.ofString "c", Str.ofString "j", Str.ofString "stuff", Str.ofString "chunks", Str.ofString "k", Str.ofString "chunk"]) (D_translate2 w) (by decide +kernel) (cb_translate2 (n := 1) (gls w (by kernel_rfl)) (FS.le (F_escape w) (by decide)) (gls w (by kernel_rfl)) rfl (pat_at w) (pat_nd w) (fun L => tabL w) (bls w (by kernel_rfl) (by kernel_rfl)))
theorem F_translate (w : World) : FS (cx w) 3 78 g_translate :=
 fs_pure rfl (n := 2) (ps := [Str.ofString "pat"]) (more := [Str.ofString "STAR", Str.ofString "parts"]) (D_translate w) (by decide +kernel) (cb_translate (n := 2) (gls w (by kernel_rfl)) (FS.le (F_translate2 w) (by decide)) (gls w (by kernel_rfl)) (FS.le (F_joinp w) (by decide)) (bls w (by kernel_rfl) (by kernel_rfl)))
end
noncomputable section
noncomputable def sem_opens : SY := (y_seq (y_asg 2 (s_call g_translate (s_cons (s_loc 0) s_nil)))
 (y_seq (y_if (s_cmp .NotEq (s_bin .Add (s_slc (s_loc 2) (s_c .none) (s_c (.int 4))) (s_slc (s_loc 2) (s_neg (s_c (.int 5))) (s_c .none))) (s_c (.str [40, 63, 115, 58, 46, 42, 41, 92, 90]))) (y_seq (y_ret (s_c (.bool false)))
 y_nil) y_nil)
 (y_seq (y_asg 3 (s_c (.str [])))
 (y_seq (y_asg 4 (s_c (.int 4)))
 (y_seq (y_while (s_cmp .Lt (s_loc 4) (s_bin .Sub (s_blt .len (s_cons (s_loc 2) s_nil)) (s_c (.int 5)))) (y_seq (y_if (s_cmp .Eq (s_idx (s_loc 2) (s_loc 4)) (s_c (.str [92]))) (y_seq (y_asg 3 (s_bin .Add (s_loc 3) (s_idx (s_loc 2) (s_bin .Add (s_loc 4) (s_c (.int 1))))))
  (y_seq (y_asg 4 (s_bin .Add (s_loc 4) (s_c (.int 2))))
  y_nil)) (y_seq (y_if (s_cmp .Eq (s_idx (s_loc 2) (s_loc 4)) (s_c (.str [91]))) (y_seq (y_asg 3 (s_bin .Add (s_loc 3) (s_idx (s_loc 2) (s_bin .Add (s_loc 4) (s_c (.int 1))))))
  (y_seq (y_asg 4 (s_bin .Add (s_loc 4) (s_c (.int 3))))
  y_nil)) (y_seq (y_asg 3 (s_bin .Add (s_loc 3) (s_idx (s_loc 2) (s_loc 4))))
  (y_seq (y_asg 4 (s_bin .Add (s_loc 4) (s_c (.int 1))))
  y_nil)))
  y_nil))
 y_nil))
 (y_seq (y_ret (s_ofT (s_cmp .Eq (s_slc (s_loc 1) (s_c .none) (s_blt .len (s_cons (s_loc 3) s_nil))) (s_loc 3))))
 y_nil))))))
set_option maxRecDepth 20000 in
theorem cb_opens {C : Cx} {n : Nat} {fa : Addr} {cd : Value} (g1 : GL C "translate" (.raw (.ref 78))) (f1 : FS C n 78 g_translate) (b_len : BL C "len" (.builtin "len")) : ∀ L, CB C n (envOfC "_law_opens" (scopeOf (st 40)) L fa cd) ["pattern", "row", "text", "signs", "place"] (bodyOf (st 40)) sem_opens := by
 intro L
 have ok : EnvOk (envOfC "_law_opens" (scopeOf (st 40)) L fa cd) ["pattern", "row", "text", "signs", "place"] := okC (by kernel_rfl) (by decide)
 obtain ⟨b, hb, hc⟩ : ∃ b, bodyOf (st 40) = b ∧ CB C n (envOfC "_law_opens" (scopeOf (st 40)) L fa cd) ["pattern", "row", "text", "signs", "place"] b sem_opens := by
  refine ⟨?b, ?h, ?c⟩
  case h => (conv => lhs; whnf)
  case c =>
   unfold sem_opens
   repeat' first
    | exact cb_fail | exact cy_fail
    | trivial
 rw [hb]; exact hc
noncomputable def g_opens : SD := s_pure 2 3 sem_opens
theorem F_opens (w : World) : FS (cx w) 4 172 g_opens :=
 fs_pure rfl (n := 3) (ps := [Str.ofString "pattern", Str.ofString "row"]) (more := [Str.ofString "text", Str.ofString "signs", Str.ofString "place"]) (D_law_opens w) (by decide +kernel) (cb_opens (n := 3) (gls w (by kernel_rfl)) (FS.le (F_translate w) (by decide)) (bls w (by kernel_rfl) (by kernel_rfl)))
end
noncomputable section
section
variable {X L U : SE} {σ : Sg} {x : List Nat} {lo hi : V} {l h : Option Int}
theorem sl_str (hX : X σ = some (.str x, σ)) (hL : L σ = some (lo, σ)) (hU : U σ = some (hi, σ)) (pl : partV lo = some l) (ph : partV hi = some h) (hx : x.length ≤ 1000) : s_slc X L U σ = some (.str (cut x l h), σ) := by
 exact sl_of hX hL hU (slcV_str pl ph (tA hx (by decide)))
theorem len_str (hX : X σ = some (.str x, σ)) (hx : x.length ≤ 1000) : s_blt .len (s_cons X s_nil) σ = some (.int x.length, σ) := by
 unfold s_blt s_cons
 rw [hX]; dsimp only [s_nil]
 dsimp only [bltV, arg1, lenV]
 rw [if_pos (by unfold smallN; exact tA ‹_› (by decide))]
end
theorem cut_to {α : Type} (x : List α) (b : Nat) : cut x none (some (b : Int)) = x.take b := by
 unfold cut
 simp only [Option.elim, List.drop_zero, Nat.sub_zero]
 by_cases h : b ≤ x.length
 ·rw [clip_nat h]
 ·have e : clipAt x.length (b : Int) = x.length := by
   unfold clipAt
   rw [if_neg (Int.not_lt.mpr (Int.natCast_nonneg b)), Int.min_eq_right (Int.ofNat_le.mpr (Nat.le_of_lt (Nat.lt_of_not_le h))), Int.max_eq_right (Int.natCast_nonneg _)]
   rfl
  rw [e, List.take_of_length_le (Nat.le_refl _), List.take_of_length_le (by lia)]
theorem cut_neg {α : Type} {x : List α} {b : Nat} (h : b ≤ x.length) (hb : 0 < b) : cut x (some (-(b : Int))) none = x.drop (x.length - b) := by
 have e : clipAt x.length (-(b : Int)) = x.length - b := by
  unfold clipAt
  rw [if_pos (Int.neg_neg_of_pos (Int.ofNat_lt.mpr hb)), show (-(b : Int)) + (x.length : Int) = ((x.length - b : Nat) : Int) by rw [Int.ofNat_sub h, Int.add_comm]; rfl, clip_core (Nat.sub_le _ _)]
 unfold cut
 simp only [Option.elim, e]
 rw [List.take_of_length_le (by rw [List.length_drop]; exact Nat.le_refl _)]
noncomputable abbrev opS (P row T sg : List Nat) (i : Nat) : Sg := ⟨[some (.str P), some (.str row), some (.str T), some (.str sg), some (.int i)], []⟩
noncomputable abbrev opT : ST := s_cmp .Lt (s_loc 4) (s_bin .Sub (s_blt .len (s_cons (s_loc 2) s_nil)) (s_c (.int 5)))
noncomputable abbrev opB : SY := (y_seq (y_if (s_cmp .Eq (s_idx (s_loc 2) (s_loc 4)) (s_c (.str [92]))) (y_seq (y_asg 3 (s_bin .Add (s_loc 3) (s_idx (s_loc 2) (s_bin .Add (s_loc 4) (s_c (.int 1))))))
  (y_seq (y_asg 4 (s_bin .Add (s_loc 4) (s_c (.int 2))))
  y_nil)) (y_seq (y_if (s_cmp .Eq (s_idx (s_loc 2) (s_loc 4)) (s_c (.str [91]))) (y_seq (y_asg 3 (s_bin .Add (s_loc 3) (s_idx (s_loc 2) (s_bin .Add (s_loc 4) (s_c (.int 1))))))
  (y_seq (y_asg 4 (s_bin .Add (s_loc 4) (s_c (.int 3))))
  y_nil)) (y_seq (y_asg 3 (s_bin .Add (s_loc 3) (s_idx (s_loc 2) (s_loc 4))))
  (y_seq (y_asg 4 (s_bin .Add (s_loc 4) (s_c (.int 1))))
  y_nil)))
  y_nil))
 y_nil)
noncomputable abbrev opTest : ST := s_cmp .NotEq (s_bin .Add (s_slc (s_loc 2) (s_c .none) (s_c (.int 4))) (s_slc (s_loc 2) (s_neg (s_c (.int 5))) (s_c .none))) (s_c (.str [40, 63, 115, 58, 46, 42, 41, 92, 90]))
noncomputable abbrev opRet : SE := s_ofT (s_cmp .Eq (s_slc (s_loc 1) (s_c .none) (s_blt .len (s_cons (s_loc 3) s_nil))) (s_loc 3))
theorem op_eq : sem_opens = (y_seq (y_asg 2 (s_call g_translate (s_cons (s_loc 0) s_nil)))
 (y_seq (y_if opTest (y_seq (y_ret (s_c (.bool false))) y_nil) y_nil)
 (y_seq (y_asg 3 (s_c (.str [])))
 (y_seq (y_asg 4 (s_c (.int 4)))
 (y_seq (y_while opT opB)
 (y_seq (y_ret opRet)
 y_nil)))))) := rfl
section
variable {P row T sg : List Nat} {i c d : Nat}
theorem op_at (h : T[i]? = some c) (hi : i < 1000) : s_idx (s_loc 2) (s_loc 4) (opS P row T sg i) = some (.str [c], opS P row T sg i) :=
 s_idx_of (u := .str T) (v := .int i) rfl rfl (idx_str h (by exact tC ‹_› (by decide)))
theorem op_is (h : T[i]? = some c) (hi : i < 1000) (d : Nat) : s_cmp .Eq (s_idx (s_loc 2) (s_loc 4)) (s_c (.str [d])) (opS P row T sg i) = some ([c] == [d], opS P row T sg i) :=
 cmp_of (v := .str [c]) (w := .str [d]) (op_at h hi) rfl rfl
theorem op_nx (h : T[i + 1]? = some c) (hi : i < 900) : s_idx (s_loc 2) (s_bin .Add (s_loc 4) (s_c (.int 1))) (opS P row T sg i) = some (.str [c], opS P row T sg i) :=
 s_idx_of (u := .str T) (v := .int ((i + 1 : Nat) : Int)) rfl (b_ad (a := i) (b := 1) rfl rfl) (idx_str h (by exact tB ‹_› (by decide)))
theorem op_sg {X : SE} (hX : X (opS P row T sg i) = some (.str [c], opS P row T sg i)) (hs : sg.length ≤ 900) : y_asg 3 (s_bin .Add (s_loc 3) X) (opS P row T sg i) = some (.next, opS P row T (sg ++ [c]) i) :=
 asg_of (b_ss (z := sg) (w := [c]) rfl hX (by simp only [List.length_singleton]; exact tB ‹_› (by decide)))
theorem op_st (b : Nat) : y_asg 4 (s_bin .Add (s_loc 4) (s_c (.int (b : Int)))) (opS P row T sg i) = some (.next, opS P row T sg (i + b)) := asg_of (b_ad (a := i) (b := b) rfl rfl)
noncomputable def UnitOf (u : List Nat) (c : Nat) : Prop := u = [92, c] ∨ (u = [c] ∧ c ≠ 92 ∧ c ≠ 91) ∨ u = [91, c, 93]
theorem op_one {u : List Nat} (hu : UnitOf u c) {r : List Nat} (hd : T.drop i = u ++ r) (hT : T.length ≤ 500) (hs : sg.length ≤ 500) : opB (opS P row T sg i) = some (.next, opS P row T (sg ++ [c]) (i + u.length)) := by
 rcases hu with rfl | ⟨rfl, h1, h2⟩ | rfl
 ·have a0 : T[i]? = some 92 := by have := congrArg (fun l => l[0]?) hd; simpa using this
  have a1 : T[i + 1]? = some c := by have := congrArg (fun l => l[1]?) hd; simpa using this
  have li := (List.getElem?_eq_some_iff.mp a0).1
  exact seq_n (if_t (op_is a0 (by exact tC ‹_› (tA ‹_› (by decide))) 92) (seq_n (op_sg (op_nx a1 (by exact tC ‹_› (tA ‹_› (by decide)))) (by exact tA ‹_› (by decide))) (seq_n (op_st 2) rfl))) rfl
 ·have a0 : T[i]? = some c := by have := congrArg (fun l => l[0]?) hd; simpa using this
  have li := (List.getElem?_eq_some_iff.mp a0).1
  exact seq_n (if_f ((op_is a0 (by exact tC ‹_› (tA ‹_› (by decide))) 92).trans (by rw [ne1 h1])) (seq_n (if_f ((op_is a0 (by exact tC ‹_› (tA ‹_› (by decide))) 91).trans (by rw [ne1 h2])) (seq_n (op_sg (op_at a0 (by exact tC ‹_› (tA ‹_› (by decide)))) (by exact tA ‹_› (by decide))) (seq_n (op_st 1) rfl))) rfl)) rfl
 ·have a0 : T[i]? = some 91 := by have := congrArg (fun l => l[0]?) hd; simpa using this
  have a1 : T[i + 1]? = some c := by have := congrArg (fun l => l[1]?) hd; simpa using this
  have li := (List.getElem?_eq_some_iff.mp a0).1
  exact seq_n (if_f ((op_is a0 (by exact tC ‹_› (tA ‹_› (by decide))) 92).trans (by rw [ne1 (by decide)])) (seq_n (if_t (op_is a0 (by exact tC ‹_› (tA ‹_› (by decide))) 91) (seq_n (op_sg (op_nx a1 (by exact tC ‹_› (tA ‹_› (by decide)))) (by exact tA ‹_› (by decide))) (seq_n (op_st 3) rfl))) rfl)) rfl
theorem op_lim (hT : T.length ≤ 500) (h5 : 5 ≤ T.length) : s_bin .Sub (s_blt .len (s_cons (s_loc 2) s_nil)) (s_c (.int 5)) (opS P row T sg i) = some (.int ((T.length - 5 : Nat) : Int), opS P row T sg i) := b_sb (b := 5) (len_str (x := T) rfl (by exact tA ‹_› (by decide))) rfl h5
theorem op_lt (hT : T.length ≤ 500) (h : i + 5 < T.length) : opT (opS P row T sg i) = some (true, opS P row T sg i) :=
 cmp_of (v := .int i) rfl (op_lim hT (by exact tA (Nat.le_add_left _ _) ‹_›)) (by show some (decide ((i : Int) < ((T.length - 5 : Nat) : Int))) = _; rw [decide_eq_true (by omega)])
theorem op_ge (hT : T.length ≤ 500) (h : i + 5 = T.length) : opT (opS P row T sg i) = some (false, opS P row T sg i) :=
 cmp_of (v := .int i) rfl (op_lim hT (by lia)) (by show some (decide ((i : Int) < ((T.length - 5 : Nat) : Int))) = _; rw [decide_eq_false (by lia)])
theorem op_loop : ∀ (ps : List (List Nat × Nat)) (i : Nat) (sg : List Nat) (k : Nat) (tl : List Nat), T.drop i = (ps.map (·.1)).flatten ++ tl → tl.length = 5 → (∀ q ∈ ps, UnitOf q.1 q.2) → T.length ≤ 500 → sg.length + ps.length ≤ 500 → ps.length < k →
  whL opT opB k (opS P row T sg i) = some (.next, opS P row T (sg ++ ps.map (·.2)) (T.length - 5))
 | [], i, sg, k + 1, tl, hd, ht, _, hT, hs, hk => by
  have le : i + 5 = T.length := by
   have := congrArg List.length hd
   simp only [List.length_drop, List.map_nil, List.flatten_nil, List.nil_append, ht] at this
   lia
  rw [List.map_nil, List.append_nil, show T.length - 5 = i by lia]
  exact wh_0 (op_ge hT le)
 | q :: ps, i, sg, k + 1, tl, hd, ht, hq, hT, hs, hk => by
  rw [List.map_cons, List.flatten_cons, List.append_assoc] at hd
  simp only [List.length_cons] at hs hk
  have hu := hq q (List.mem_cons_self ..)
  have l1 : 1 ≤ q.1.length := by rcases hu with h | ⟨h, _⟩ | h <;> rw [h] <;> simp
  have lt : i + 5 < T.length := by
   have := congrArg List.length hd
   simp only [List.length_drop, List.length_append, ht] at this
   omega
  have hd2 : T.drop (i + q.1.length) = (ps.map (·.1)).flatten ++ tl := by
   rw [← List.drop_drop, hd, List.drop_left']
   rfl
  refine wh_n (op_lt hT lt) (op_one hu hd hT (by exact Nat.le_of_add_right_le ‹_›)) ?_
  have ih := op_loop ps (i + q.1.length) (sg ++ [q.2]) k tl hd2 ht (fun q m => hq q (List.mem_cons_of_mem _ m)) hT (by rw [List.length_append, List.length_singleton]; lia) (by exact tD ‹_›)
  rw [show sg ++ (q :: ps).map (·.2) = sg ++ [q.2] ++ ps.map (·.2) by simp]
  exact ih
end
noncomputable def pairsN : List Nat → List (List Nat × Nat)
 | [] => []
 | c :: r => ((if c = 63 then [91, 63, 93] else escN c), c) :: r.map fun c => (escN c, c)
theorem pairs_1 (p : List Nat) : (pairsN p).map (·.1) = unitsN p := by
 cases p with
 | nil => rfl
 | cons c r => simp [pairsN, unitsN, Function.comp_def]
theorem pairs_2 (p : List Nat) : (pairsN p).map (·.2) = p := by
 cases p with
 | nil => rfl
 | cons c r => simp [pairsN, Function.comp_def]
theorem esc_unit {c : Nat} : UnitOf (escN c) c := by
 unfold escN trMap
 by_cases h : specials.contains c = true
 ·rw [if_pos h]; exact .inl rfl
 ·rw [if_neg h]
  refine .inr (.inl ⟨rfl, ?_, ?_⟩)
  ·rintro rfl; exact h (by decide)
  ·rintro rfl; exact h (by decide)
theorem pairs_ok (p : List Nat) : ∀ q ∈ pairsN p, UnitOf q.1 q.2 := by
 cases p with
 | nil => intro q m; cases m
 | cons c r =>
  intro q m
  rcases List.mem_cons.mp m with rfl | m
  ·dsimp only
   split
   ·rename_i h; subst h; exact .inr (.inr rfl)
   ·exact esc_unit
  ·obtain ⟨d, _, rfl⟩ := List.mem_map.mp m
   exact esc_unit
theorem opens_at {p row : List Nat} (hp : Front p) (hr : row.length ≤ 1000) (H : List O) : g_opens [.str (quoteN p ++ [42]), .str row] H = some (.bool (row.take p.length == p), H) := by
 have hu : ((unitsN p).flatten).length ≤ 60 ∧ p.length ≤ 30 := by
  match p, hp with
  | c :: r, ⟨_, _, h3⟩ =>
   refine ⟨?_, by rw [List.length_cons]; exact tB ‹_› (by decide)⟩
   show ((_ :: r.map escN).flatten).length ≤ 60
   rw [List.flatten_cons, List.length_append]
   have := units_len r
   have := esc_len c
   split
   ·simp only [List.length_cons, List.length_nil]; lia
   ·lia
 generalize hT : textN p = T
 generalize hP : quoteN p ++ [42] = P
 have hT0 : T = [40, 63, 115, 58] ++ ((unitsN p).flatten ++ [46, 42, 41, 92, 90]) := by rw [← hT]; unfold textN; simp
 have lT : T.length = (unitsN p).flatten.length + 9 := by rw [hT0]; simp only [List.length_append, List.length_cons, List.length_nil]; exact Nat.add_comm _ _
 have run : sem_opens ⟨[some (.str P), some (.str row), none, none, none], []⟩ = some (.ret (.bool (row.take p.length == p)), opS P row T p (T.length - 5)) := by
  rw [op_eq]
  refine seq_n (σ' := ⟨[some (.str P), some (.str row), some (.str T), none, none], []⟩) (asg_of (v := .str T) (σ1 := ⟨[some (.str P), some (.str row), none, none, none], []⟩) ?_) (seq_n (σ' := ⟨[some (.str P), some (.str row), some (.str T), none, none], []⟩) (if_f (σ1 := ⟨[some (.str P), some (.str row), some (.str T), none, none], []⟩) ?_ rfl) (seq_n (σ' := ⟨[some (.str P), some (.str row), some (.str T), some (.str []), none], []⟩) (asg_of (v := .str []) (σ1 := ⟨[some (.str P), some (.str row), some (.str T), none, none], []⟩) rfl) (seq_n (σ' := opS P row T [] 4) (asg_of (v := .int (4 : Nat)) (σ1 := ⟨[some (.str P), some (.str row), some (.str T), some (.str []), none], []⟩) rfl) (seq_n (σ' := opS P row T p (T.length - 5)) ?_ (seq_ret ?_)))))
  ·unfold s_call
   rw [show s_cons (s_loc 0) s_nil ⟨[some (.str P), some (.str row), none, none, none], []⟩ = some ([.str P], ⟨[some (.str P), some (.str row), none, none, none], []⟩) from rfl]
   dsimp only
   rw [← hP, translate_at hp, hT]
  ·refine cmp_of (v := .str ([40, 63, 115, 58] ++ [46, 42, 41, 92, 90])) (w := .str [40, 63, 115, 58, 46, 42, 41, 92, 90]) (c := false) (b_ss ?_ ?_ (by decide)) rfl rfl
   ·have e : cut T none (some ((4 : Nat) : Int)) = [40, 63, 115, 58] := by rw [cut_to, hT0]; rfl
    rw [← e]
    exact sl_str (x := T) (lo := .none) (hi := .int (4 : Nat)) rfl rfl rfl rfl rfl (by lia)
   ·have e : cut T (some (-((5 : Nat) : Int))) none = [46, 42, 41, 92, 90] := by
     rw [cut_neg (by lia) (by decide)]
     rw [show T.length - 5 = ([40, 63, 115, 58] ++ (unitsN p).flatten).length by rw [List.length_append]; simp only [List.length_cons, List.length_nil]; lia, hT0, ← List.append_assoc, List.drop_left']
     rfl
    rw [← e]
    exact sl_str (x := T) (lo := .int (-((5 : Nat) : Int))) (hi := .none) rfl rfl rfl rfl rfl (by lia)
  ·have := op_loop (P := P) (row := row) (T := T) (pairsN p) 4 [] lots [46, 42, 41, 92, 90] (by rw [pairs_1, hT0]; rfl) rfl (pairs_ok p) (by lia) (by have := congrArg List.length (pairs_2 p); rw [List.length_map] at this; rw [this, List.length_nil]; lia) (by have := congrArg List.length (pairs_2 p); rw [List.length_map] at this; rw [this]; unfold lots; lia)
   rw [pairs_2, List.nil_append] at this
   exact this
  ·unfold y_ret
   have e1 : s_slc (s_loc 1) (s_c .none) (s_blt .len (s_cons (s_loc 3) s_nil)) (opS P row T p (T.length - 5)) = some (.str (row.take p.length), opS P row T p (T.length - 5)) := by
    rw [← cut_to]
    exact sl_str (x := row) (lo := .none) (hi := .int p.length) rfl rfl (len_str (x := p) rfl (by lia)) rfl rfl hr
   have e2 : opRet (opS P row T p (T.length - 5)) = some (.bool (row.take p.length == p), opS P row T p (T.length - 5)) := by
    have e3 : s_cmp .Eq (s_slc (s_loc 1) (s_c .none) (s_blt .len (s_cons (s_loc 3) s_nil))) (s_loc 3) (opS P row T p (T.length - 5)) = some (row.take p.length == p, opS P row T p (T.length - 5)) := cmp_of e1 (w := .str p) rfl rfl
    show s_ofT _ _ = _
    unfold s_ofT
    rw [e3]
   rw [e2]
 unfold g_opens s_pure
 rw [if_pos (show [V.str P, V.str row].length = 2 from rfl), if_pos (show V.lows 0 [V.str P, V.str row] = true from rfl), show σ0 [V.str P, V.str row] 3 [] = ⟨[some (.str P), some (.str row), none, none, none], []⟩ from rfl, run]
 rfl
end
noncomputable section
noncomputable def sem_write : SY := (y_seq (y_asg 1 (s_c (.byt [])))
 (y_seq (y_asg 2 (s_c (.str [])))
 (y_seq (y_for (a_name 3) (s_loc 0) (y_seq (y_asg 4 (s_c (.int 0)))
 (y_seq (y_while (s_and (s_cmp .Lt (s_loc 4) (s_blt .len (s_cons (s_loc 2) s_nil))) (s_and (s_truth (s_call g_opens (s_cons (s_bin .Add (s_rpl 2 4 1 63 [91, 63, 93]) (s_c (.str [42]))) (s_cons (s_loc 3) s_nil)))) (s_t true))) (y_seq (y_asg 4 (s_bin .Add (s_loc 4) (s_c (.int 1))))
  y_nil))
 (y_seq (y_asg 1 (s_bin .Add (s_loc 1) (s_blt .bytes (s_cons (s_bin .Add (s_list (s_cons (s_loc 4) (s_cons (s_bin .Sub (s_blt .len (s_cons (s_loc 3) s_nil)) (s_loc 4)) s_nil))) (s_lc (s_slc (s_loc 3) (s_loc 4) (s_c .none)) 1 [] (a_name 0) (s_t true) (s_blt .ord (s_cons (s_loc 0) s_nil)))) s_nil))))
 (y_seq (y_asg 2 (s_loc 3))
 y_nil)))) y_nil)
 (y_seq (y_ret (s_loc 1))
 y_nil))))
set_option maxRecDepth 20000 in
theorem cb_write {C : Cx} {n : Nat} {fa : Addr} {cd : Value} (g1 : GL C "_law_opens" (.raw (.ref 172))) (f1 : FS C n 172 g_opens) (b_len : BL C "len" (.builtin "len")) (b_bytes : BL C "bytes" (.type "bytes")) (b_ord : BL C "ord" (.builtin "ord")) : ∀ L, CB C n (envOfC "_law_write" (scopeOf (st 41)) L fa cd) ["rows", "octets", "ahead", "row", "share"] (bodyOf (st 41)) sem_write := by
 intro L
 have ok : EnvOk (envOfC "_law_write" (scopeOf (st 41)) L fa cd) ["rows", "octets", "ahead", "row", "share"] := okC (by kernel_rfl) (by decide)
 obtain ⟨b, hb, hc⟩ : ∃ b, bodyOf (st 41) = b ∧ CB C n (envOfC "_law_write" (scopeOf (st 41)) L fa cd) ["rows", "octets", "ahead", "row", "share"] b sem_write := by
  refine ⟨?b, ?h, ?c⟩
  case h => (conv => lhs; whnf)
  case c =>
   unfold sem_write
   repeat' first
    | exact cb_fail | exact cy_fail
    | (refine ce_lc (cl := []) (nsC := ["sign"]) ‹_› (folded_plain rfl) ⟨?c1, ?c2, rfl, ?c4, fun c hc => (by cases hc), ?c6, ?c7, ?c8⟩ ?_ (fun L' ok' => ?_) (fun L' ok' => ?_) (fun L' ok' => ?_); (case c1 => kernel_rfl); (case c2 => decide +kernel); (case c4 => decide +kernel); (case c6 => exact List.nodup_nil); (case c7 => decide +kernel); (case c8 => exact trivial))
    | refine ci_one ?_
    | refine ce_rpl ‹_› rfl (by rfl) (by rfl) (by decide) (by decide) (by decide) (by decide) (by kernel_rfl) (by kernel_rfl) (by decide) (by decide) rfl
    | trivial
 rw [hb]; exact hc
noncomputable def g_write : SD := s_def 1 4 sem_write
theorem F_write (w : World) : FS (cx w) 5 177 g_write :=
 fs_def (n := 4) (ps := [Str.ofString "rows"]) (more := [Str.ofString "octets", Str.ofString "ahead", Str.ofString "row", Str.ofString "share"]) (D_law_write w) (by decide +kernel) (cb_write (n := 4) (gls w (by kernel_rfl)) (FS.le (F_opens w) (by decide)) (bls w (by kernel_rfl) (by kernel_rfl)) (bls w (by kernel_rfl) (by kernel_rfl)) (bls w (by kernel_rfl) (by kernel_rfl)))
end
noncomputable section
theorem app0 {hp0 : List O} {a : O} {l : List O} : (hp0 ++ a :: l)[hp0.length]? = some a := by simp
theorem app1 {hp0 : List O} {a b : O} {l : List O} : (hp0 ++ a :: b :: l)[hp0.length + 1]? = some b := by
 rw [List.getElem?_append_right (by exact tE _ _)]; simp
theorem set0 {hp0 : List O} {a b : O} {l : List O} : (hp0 ++ a :: l).set hp0.length b = hp0 ++ b :: l := by
 rw [List.set_append_right _ _ (Nat.le_refl _)]; simp
noncomputable def SrcIs (hp : List O) (src : Src) (vs : List V) : Prop := src = .fix vs ∨ ∃ k i all, src = .own k i ∧ hp[k]? = some (.lst all) ∧ all.drop i = vs
theorem src_nil {hp : List O} {src : Src} {loc : List (Option V)} (h : SrcIs hp src []) : src.next ⟨loc, hp⟩ = some none := by
 rcases h with rfl | ⟨k, i, all, rfl, e, d⟩
 ·rfl
 ·unfold Src.next
  dsimp only
  rw [e]
  have : all[i]? = none := by
   have := congrArg (fun l => l[0]?) d
   simpa using this
  dsimp only
  rw [this]
theorem SrcIs.more {hp l : List O} {src : Src} {vs : List V} (h : SrcIs hp src vs) : SrcIs (hp ++ l) src vs := by
 rcases h with e | ⟨k, i, all, e, g, d⟩
 ·exact .inl e
 ·exact .inr ⟨k, i, all, e, by rw [List.getElem?_append_left (List.getElem?_eq_some_iff.mp g).1]; exact g, d⟩
theorem src_consM {hp : List O} {src : Src} {v : V} {vs : List V} (h : SrcIs hp src (v :: vs)) : ∃ src', SrcIs hp src' vs ∧ ∀ loc l, src.next ⟨loc, hp ++ l⟩ = some (some (v, src')) := by
 rcases h with rfl | ⟨k, i, all, rfl, e, d⟩
 ·exact ⟨.fix vs, .inl rfl, fun _ _ => rfl⟩
 ·refine ⟨.own k (i + 1), .inr ⟨k, i + 1, all, rfl, e, ?_⟩, fun loc l => ?_⟩
  ·have := congrArg (fun l => l.drop 1) d
   simpa [List.drop_drop] using this
  ·unfold Src.next
   dsimp only
   rw [List.getElem?_append_left (List.getElem?_eq_some_iff.mp e).1, e]
   have : all[i]? = some v := by
    have := congrArg (fun l => l[0]?) d
    simpa using this
   dsimp only
   rw [this]
theorem lc_ok2 {hp0 : List O} {g : SA} {t : ST} {x : SE} (Lp : List (Option V) → Prop) {p : V → Bool} {f : V → V} : ∀ (items : List V) (src : Src) (acc : List V) (fuel : Nat) (loc : List (Option V)),
  (∀ v ∈ items, ∀ loc, Lp loc → ∀ acc, ∃ loc', Lp loc' ∧ g v ⟨loc, hp0 ++ [.lst acc]⟩ = some ⟨loc', hp0 ++ [.lst acc]⟩ ∧ t ⟨loc', hp0 ++ [.lst acc]⟩ = some (p v, ⟨loc', hp0 ++ [.lst acc]⟩) ∧ (p v = true → x ⟨loc', hp0 ++ [.lst acc]⟩ = some (f v, ⟨loc', hp0 ++ [.lst acc]⟩))) →
  SrcIs hp0 src items → Lp loc → items.length < fuel → acc.length + items.length ≤ smallN → lcL hp0.length g t x fuel src ⟨loc, hp0 ++ [.lst acc]⟩ = some (hp0 ++ [.lst (acc ++ (items.filter p).map f)]) := by
 intro items
 induction items with
 | nil =>
  intro src acc fuel loc hg hs hl hf hz
  cases fuel with
  | zero => cases hf
  | succ fuel => rw [lc_end (src_nil hs.more)]; simp
 | cons v items ih =>
  intro src acc fuel loc hg hs hl hf hz
  cases fuel with
  | zero => cases hf
  | succ fuel =>
   obtain ⟨loc', q1, q2, q3, q4⟩ := hg v (List.mem_cons_self ..) loc hl acc
   obtain ⟨src', hs2, e⟩ := src_consM hs
   have ih' := fun acc => ih src' acc fuel loc' (fun w m => hg w (List.mem_cons_of_mem _ m)) hs2 q1 (Nat.lt_of_succ_lt_succ hf)
   rw [List.length_cons] at hz
   cases hp : p v with
   | false =>
    rw [hp] at q3
    rw [lc_no (e _ _) q2 q3, ih' acc (Nat.le_of_succ_le hz), List.filter_cons, if_neg (by rw [hp]; simp)]
   | true =>
    rw [hp] at q3
    rw [lc_yes (e _ _) q2 q3 (q4 hp) app0 (Nat.le_of_add_right_le hz), Sg.setO]
    dsimp only
    rw [set0, ih' (acc ++ [f v]) (by rw [List.length_append, List.length_singleton, Nat.add_assoc, Nat.add_comm 1]; exact hz), List.filter_cons, if_pos hp, List.map_cons, List.append_assoc]
    rfl
theorem own_at {loc : List (Option V)} {hp : List O} {k : Nat} {vs : List V} (h : hp[k]? = some (.lst vs)) : asList ⟨loc, hp⟩ (.own k) = some vs := by
 unfold asList
 dsimp only
 rw [h]
theorem add_own {σ : Sg} {i j : Nat} {xs ys : List V} (h1 : asList σ (.own i) = some xs) (h2 : asList σ (.own j) = some ys) (hz : xs.length + ys.length ≤ smallN) : binop .Add (.own i) (.own j) σ = some (σ.new (xs ++ ys)) := by
 show ((asList σ (.own i)).bind fun xs => (asList σ (.own j)).bind fun ys => if xs.length + ys.length ≤ smallN then some (σ.new (xs ++ ys)) else none) = _
 rw [h1, h2]
 exact if_pos hz
theorem new_eq {loc : List (Option V)} {hp : List O} {vs : List V} : Sg.new ⟨loc, hp⟩ vs = (.own hp.length, ⟨loc, hp ++ [.lst vs]⟩) := rfl
noncomputable abbrev nums (l : List Nat) : List V := l.map fun (n : Nat) => V.int (n : Int)
theorem intsOf_nums : ∀ (l : List Nat), intsOf (nums l) = some (l.map fun (n : Nat) => (n : Int))
 | [] => rfl
 | n :: l => by
  show (intsOf (nums l)).map ((n : Int) :: ·) = _
  rw [intsOf_nums l]; rfl
end
noncomputable section
noncomputable def sem_read1P (sa : Addr) (k : Nat) (sx : List Nat) : SY := (y_seq (y_asg 1 (s_rd sa k sx (s_loc 0) (s_c (.int 1))))
 (y_seq (y_if (s_truth (s_loc 1)) (y_seq (y_ret (s_idx (s_loc 1) (s_c (.int 0))))
 y_nil) y_nil)
 y_nil))
set_option maxRecDepth 20000 in
theorem cb_read1P {C : Cx} {K : Frag} {D : StrD C K} {S : Strm} {k : Nat} {n : Nat} {fa : Addr} {cd : Value} (hX : RdK C D) (hT : RdT C n D) (hL : Live C D S)  : ∀ L, CB (C.str D S k) (n + 1) (envOfC "read_uint1" (scopeOf (st 2)) L fa cd) ["f", "data"] ((bodyOf (st 2)).take 2) (sem_read1P S.a k S.x) := by
 intro L
 have ok : EnvOk (envOfC "read_uint1" (scopeOf (st 2)) L fa cd) ["f", "data"] := okC (by kernel_rfl) (by decide)
 obtain ⟨b, hb, hc⟩ : ∃ b, (bodyOf (st 2)).take 2 = b ∧ CB (C.str D S k) (n + 1) (envOfC "read_uint1" (scopeOf (st 2)) L fa cd) ["f", "data"] b (sem_read1P S.a k S.x) := by
  refine ⟨?b, ?h, ?c⟩
  case h => (conv => lhs; whnf)
  case c =>
   unfold sem_read1P
   repeat' first
    | exact cb_fail | exact cy_fail
    | refine ce_rd hX hT hL rfl rfl ?_ ?_
    | trivial
 rw [hb]; exact hc
noncomputable def sem_readSP (sa : Addr) (k : Nat) (sx : List Nat) : SY := (y_seq (y_asg 1 (s_call (g_read1 sa k sx) (s_cons (s_loc 0) s_nil)))
 (y_seq (y_assert (s_cmp .GtE (s_loc 1) (s_c (.int 0))))
 (y_seq (y_asg 2 (s_rd sa k sx (s_loc 0) (s_loc 1)))
 (y_seq (y_if (s_cmp .Eq (s_blt .len (s_cons (s_loc 2) s_nil)) (s_loc 1)) (y_seq (y_ret (s_dec (s_loc 2) (s_c (.str [108, 97, 116, 105, 110, 45, 49]))))
 y_nil) y_nil)
 y_nil))))
set_option maxRecDepth 20000 in
theorem cb_readSP {C : Cx} {K : Frag} {D : StrD C K} {S : Strm} {k : Nat} {n : Nat} {fa : Addr} {cd : Value} (g1 : GL (C.str D S k) "read_uint1" (.raw (.ref 38))) (f1 : FS (C.str D S k) (n + 1) 38 (g_read1 S.a k S.x)) (hX : RdK C D) (hT : RdT C n D) (hL : Live C D S) (b_len : BL (C.str D S k) "len" (.builtin "len"))  : ∀ L, CB (C.str D S k) (n + 1) (envOfC "read_string1" (scopeOf (st 3)) L fa cd) ["f", "n", "data"] ((bodyOf (st 3)).take 4) (sem_readSP S.a k S.x) := by
 intro L
 have ok : EnvOk (envOfC "read_string1" (scopeOf (st 3)) L fa cd) ["f", "n", "data"] := okC (by kernel_rfl) (by decide)
 obtain ⟨b, hb, hc⟩ : ∃ b, (bodyOf (st 3)).take 4 = b ∧ CB (C.str D S k) (n + 1) (envOfC "read_string1" (scopeOf (st 3)) L fa cd) ["f", "n", "data"] b (sem_readSP S.a k S.x) := by
  refine ⟨?b, ?h, ?c⟩
  case h => (conv => lhs; whnf)
  case c =>
   unfold sem_readSP
   repeat' first
    | exact cb_fail | exact cy_fail
    | refine ce_rd hX hT hL rfl rfl ?_ ?_
    | trivial
 rw [hb]; exact hc
section
variable {C : Cx} {K : Frag} {n m : Nat} {N : List (Addr × Obj)} {pin : List (Nat × Addr)} {x name : Str} {v : V} {params : Arguments} {body : List Stmt} {scope : Scope} {fa : Addr} {cd : Value} {ps : List Str}
theorem DefAt.more (D : DefAt C name params body scope fa cd ps) : DefAt (C.more N pin) name params body scope fa cd ps :=
 ⟨let ⟨o, nm, pm, doc, hb, hd⟩ := D.fn; ⟨o, nm, pm, doc, .inl hb, hd⟩, let ⟨cc, oc, vs, tq, e, hb, r⟩ := D.code; ⟨cc, oc, vs, tq, e, .inl hb, r⟩, D.bind, D.kinds, D.names, D.co, D.gen, D.kind⟩
theorem GL.more (g : GL C x v) : GL (C.more N pin) x v := let ⟨val, e, k⟩ := g.ok; ⟨val, e, fun as h wd na => k as h (more_wd.mp wd).1 fun a m z => na a m (old_more z)⟩
theorem BL.more {val : Value} (g : BL C x val) : BL (C.more N pin) x val := ⟨g.no, g.yes⟩
end
theorem F_read1 (w : World) (S : Strm) (k : Nat) (Lv : Live (cx w) (sD w) S) : FS ((cx w).str (sD w) S k) 2 38 (g_read1 S.a k S.x) :=
 fs_def (n := 1) (ps := [Str.ofString "f"]) (more := [Str.ofString "data"]) (D_read_uint1 w).more (by decide +kernel) (cb_read1 (n := 0) (rdK w) (rdT w 0) Lv)
theorem F_readS (w : World) (S : Strm) (k : Nat) (Lv : Live (cx w) (sD w) S) : FS ((cx w).str (sD w) S k) 3 45 (g_readS S.a k S.x) :=
 fs_def (n := 2) (ps := [Str.ofString "f"]) (more := [Str.ofString "n", Str.ofString "data"]) (D_read_string1 w).more (by decide +kernel) (cb_readS (n := 1) (gls w (by kernel_rfl)).more (F_read1 w S k Lv) (rdK w) (rdT w 1) Lv (bls w (by kernel_rfl) (by kernel_rfl)).more)
noncomputable def msgOf : Stmt → PySem.Expr
 | .Raise (some (.Call _ (m :: _) _ _)) _ _ => m
 | _ => .Constant .none 0 ⟨0, 0, 0, 0⟩
theorem rd_end {x : List Nat} {p z : Nat} (h : p ≤ x.length) (hz : x.length ≤ p + z) : rdTo x p z = (x.length : Int) := by
 unfold rdTo
 split <;> lia
theorem X_read1 (w : World) (S : Strm) (k : Nat) (Lv : Live (cx w) (sD w) S) {hp : List O} (hk : hp[k]? = some (.lst [.int S.x.length])) (hz : S.x.length ≤ smallN) : SpcX ((cx w).str (sD w) S k) 2 (.ref 38) [.raw (.ref S.a)] hp (hp.set k (.lst [.int S.x.length])) := by
 have e1 : rdTo S.x (S.x.length : Int) 1 = (S.x.length : Int) := rd_end (z := 1) (Nat.le_refl _) (Nat.le_succ _)
 have e2 : cut S.x (some (S.x.length : Int)) (some (S.x.length : Int)) = [] := by rw [cut_nat (Nat.le_refl _) (Nat.le_refl _)]; simp
 have st1 : s_rd S.a k S.x (s_loc 0) (s_c (.int 1)) ⟨[some (.raw (.ref S.a)), none], hp⟩ = some (.byt [], ⟨[some (.raw (.ref S.a)), none], hp.set k (.lst [.int S.x.length])⟩) := by
  exact (rd_of rfl rfl hk hz).trans (by rw [e1, e2]; rfl)
 have run : sem_read1P S.a k S.x (σ0 [.raw (.ref S.a)] 1 hp) = some (.next, ⟨[some (.raw (.ref S.a)), some (.byt [])], hp.set k (.lst [.int S.x.length])⟩) := by
  exact seq_n (asg_of st1) rfl
 exact def_made (C := (cx w).str (sD w) S k) (n := 1) (args := [.raw (.ref S.a)]) (ps := [Str.ofString "f"]) (more := [Str.ofString "data"]) (pre := (bodyOf (st 2)).take 2) (msg := msgOf ((bodyOf (st 2)).getD 2 default)) (p1 := ⟨7, 10, 7, 20⟩) (p2 := ⟨7, 10, 7, 63⟩) (p3 := ⟨7, 4, 7, 63⟩) (D_read_uint1 w).more rfl (by decide +kernel) (by kernel_rfl)
  (fun L => (cb_read1P (n := 0) (rdK w) (rdT w 0) Lv L).ok _ _ _ run) (by simp) (by kernel_rfl) (by kernel_rfl) (bls w (by kernel_rfl) (by kernel_rfl)).more fun L => by
   obtain ⟨b, hb, hc⟩ : ∃ b, msgOf ((bodyOf (st 2)).getD 2 default) = b ∧ ∀ (A : Around) (s : Shared) (as : List Addr) (Q : Value → Shared → Prop) (E : Value → Shared → Prop), Room 1 A → Rel ((cx w).str (sD w) S k) (envOfC "read_uint1" (scopeOf (st 2)) L 38 (.ref 37)) ([Str.ofString "f"] ++ [Str.ofString "data"]) as ⟨[some (.raw (.ref S.a)), some (.byt [])], hp.set k (.lst [.int S.x.length])⟩ s.heap →
     (∀ h' tk x, Rel ((cx w).str (sD w) S k) (envOfC "read_uint1" (scopeOf (st 2)) L 38 (.ref 37)) ([Str.ofString "f"] ++ [Str.ofString "data"]) as ⟨[some (.raw (.ref S.a)), some (.byt [])], hp.set k (.lst [.int S.x.length])⟩ h' → Step ((cx w).str (sD w) S k) (envOfC "read_uint1" (scopeOf (st 2)) L 38 (.ref 37)) as s.heap as h' → Q x { s with heap := h', toks := tk }) → wpAny (model ((cx w).str (sD w) S k).prog ((cx w).str (sD w) S k).w) A (eval b (envOfC "read_uint1" (scopeOf (st 2)) L 38 (.ref 37))) Q E s := by
    refine ⟨?b, ?h, ?c⟩
    case h => (conv => lhs; whnf)
    case c => exact fun A s as Q E R r h => msg_str (y := [110, 111, 116, 32, 101, 110, 111, 117, 103, 104, 32, 100, 97, 116, 97, 32, 105, 110, 32, 115, 116, 114, 101, 97, 109, 32, 116, 111, 32, 114, 101, 97, 100, 32, 117, 105, 110, 116, 49]) (by kernel_rfl) A s as Q E R r h
   rw [hb]; exact hc
end
noncomputable section
theorem X_readS1 (w : World) (S : Strm) (k : Nat) (Lv : Live (cx w) (sD w) S) {hp : List O} (hk : hp[k]? = some (.lst [.int S.x.length])) (hz : S.x.length ≤ smallN) : SpcX ((cx w).str (sD w) S k) 3 (.ref 45) [.raw (.ref S.a)] hp (hp.set k (.lst [.int S.x.length])) := by
 obtain ⟨o, nm, pm, doc, hb, hd⟩ := (D_read_uint1 w).more (N := (S.cv, S.oc) :: S.objs (sD w)) (pin := [(k, S.l)]) |>.fn
 refine def_thrown (C := ((cx w).str (sD w) S k)) (n := 2) (args := [.raw (.ref S.a)]) (ps := [Str.ofString "f"]) (more := [Str.ofString "n", Str.ofString "data"]) (σf := { σ0 [.raw (.ref S.a)] 2 hp with hp := hp.set k (.lst [.int S.x.length]) }) (D_read_string1 w).more rfl (by decide +kernel) (by simp) fun L => ?_
 have ok : EnvOk (envOfC "read_string1" (scopeOf (st 3)) L 45 (.ref 44)) ([Str.ofString "f"] ++ [Str.ofString "n", Str.ofString "data"]) := okC (by kernel_rfl) (by decide +kernel)
 obtain ⟨b, hb', hc⟩ : ∃ b, bodyOf (st 3) = b ∧ RX ((cx w).str (sD w) S k) 2 (envOfC "read_string1" (scopeOf (st 3)) L 45 (.ref 44)) ([Str.ofString "f"] ++ [Str.ofString "n", Str.ofString "data"]) (execs b (envOfC "read_string1" (scopeOf (st 3)) L 45 (.ref 44))) (σ0 [.raw (.ref S.a)] 2 hp) { σ0 [.raw (.ref S.a)] 2 hp with hp := hp.set k (.lst [.int S.x.length]) } := by
  refine ⟨?b, ?h, ?c⟩
  case h => (conv => lhs; whnf)
  case c =>
   refine rx_here (rx_asg (swaps_plain rfl) (rx_call (by kernel_rfl) rfl ((ce_gl ok (by kernel_rfl) (by decide +kernel) (gls w (a := 38) (by kernel_rfl)).more).ok _ _ _ rfl) hb hd ⟨(by simp), rfl⟩ ((cl_cons rfl (ce_loc ok 0 rfl (by decide +kernel) (by decide +kernel)) cl_nil).ok _ _ [.raw (.ref S.a)] (σ0 [.raw (.ref S.a)] 2 hp) rfl) (X_read1 w S k Lv hk hz) rfl))
 rw [hb']; exact hc
theorem X_readS2 (w : World) (S : Strm) (k : Nat) (Lv : Live (cx w) (sD w) S) {hp : List O} {p c : Nat} (hk : hp[k]? = some (.lst [.int p])) (low : hp.all (O.low hp.length) = true) (hz : S.x.length ≤ smallN) (hc : S.x[p]? = some c) (hs : S.x.length < p + 1 + c) (hcb : c < 1000000) : SpcX ((cx w).str (sD w) S k) 3 (.ref 45) [.raw (.ref S.a)] hp (hp.set k (.lst [.int S.x.length])) := by
 have lt := (List.getElem?_eq_some_iff.mp hc).1
 have kl := (List.getElem?_eq_some_iff.mp hk).1
 have e1 : rdTo S.x ((p + 1 : Nat) : Int) (c : Int) = (S.x.length : Int) := rd_end lt (Nat.le_of_lt hs)
 have e2 : cut S.x (some ((p + 1 : Nat) : Int)) (some (S.x.length : Int)) = S.x.drop (p + 1) := by
  rw [cut_nat lt (Nat.le_refl _), List.take_of_length_le]
  rw [List.length_drop]; exact Nat.le_refl _
 have st1 : s_call (g_read1 S.a k S.x) (s_cons (s_loc 0) s_nil) ⟨[some (.raw (.ref S.a)), none, none], hp⟩ = some (.int c, ⟨[some (.raw (.ref S.a)), none, none], hp.set k (.lst [.int (p + 1 : Nat)])⟩) := by
  exact call_to (σ1 := ⟨[some (.raw (.ref S.a)), none, none], hp⟩) (cons_of rfl rfl) (read1_at hk low hz hc)
 have st2 : s_rd S.a k S.x (s_loc 0) (s_loc 1) ⟨[some (.raw (.ref S.a)), some (.int c), none], hp.set k (.lst [.int (p + 1 : Nat)])⟩ = some (.byt (S.x.drop (p + 1)), ⟨[some (.raw (.ref S.a)), some (.int c), none], hp.set k (.lst [.int S.x.length])⟩) := by
  exact (rd_of rfl rfl (List.getElem?_set_self kl) hz).trans (by rw [e1, e2, Sg.setO, List.set_set])
 have hd : S.x.length - (p + 1) ≤ smallN := by lia
 have ne : ¬ (((S.x.length - (p + 1) : Nat) : Int) = (c : Int)) := by lia
 have run : sem_readSP S.a k S.x (σ0 [.raw (.ref S.a)] 2 hp) = some (.next, ⟨[some (.raw (.ref S.a)), some (.int c), some (.byt (S.x.drop (p + 1)))], hp.set k (.lst [.int S.x.length])⟩) := by
  have b0 : ((S.x.drop (p + 1)).length : Int) = ((S.x.length - (p + 1) : Nat) : Int) := by rw [List.length_drop]
  have b1 : (S.x.drop (p + 1)).length ≤ smallN := by rw [List.length_drop]; exact hd
  have b3 : ((((S.x.drop (p + 1)).length : Int)) == (c : Int)) = false := by rw [b0]; exact beq_eq_false_iff_ne.mpr ne
  exact seq_n (asg_of st1) (seq_n (assert_of (cmp_of (v := .int c) (w := .int 0) rfl rfl (congrArg some (decide_eq_true (tG _))))) (seq_n (asg_of st2) (seq_0 (if_f (cmp_of (blt_of (v := .int (S.x.drop (p + 1)).length) (cons_of (v := .byt (S.x.drop (p + 1))) rfl rfl) (if_pos b1)) (w := .int c) rfl (congrArg some b3)) rfl))))
 have hb2 : S.x.length < 1000000 := by unfold smallN at hz; exact tB ‹_› (by decide)
 refine def_made (C := ((cx w).str (sD w) S k)) (n := 2) (args := [.raw (.ref S.a)]) (ps := [Str.ofString "f"]) (more := [Str.ofString "n", Str.ofString "data"]) (pre := (bodyOf (st 3)).take 4) (msg := msgOf ((bodyOf (st 3)).getD 4 default)) (p1 := ⟨14, 10, 14, 20⟩) (p2 := ⟨14, 10, 14, 91⟩) (p3 := ⟨14, 4, 14, 91⟩) (D_read_string1 w).more rfl (by decide +kernel) (by kernel_rfl)
  (fun L => (cb_readSP (n := 1) (gls w (by kernel_rfl)).more (F_read1 w S k Lv) (rdK w) (rdT w 1) Lv (bls w (by kernel_rfl) (by kernel_rfl)).more L).ok _ _ _ run) (by simp) (by kernel_rfl) (by kernel_rfl) (bls w (by kernel_rfl) (by kernel_rfl)).more fun L => ?_
 have ok : EnvOk (envOfC "read_string1" (scopeOf (st 3)) L 45 (.ref 44)) ([Str.ofString "f"] ++ [Str.ofString "n", Str.ofString "data"]) := okC (by kernel_rfl) (by decide +kernel)
 have b_len : BL ((cx w).str (sD w) S k) "len" (.builtin "len") := (bls w (by kernel_rfl) (by kernel_rfl)).more
 have hc2 : c < 1000000 := hcb
 obtain ⟨b, hb, hcc⟩ : ∃ b, msgOf ((bodyOf (st 3)).getD 4 default) = b ∧ ∀ (A : Around) (s : Shared) (as : List Addr) (Q : Value → Shared → Prop) (E : Value → Shared → Prop), Room 2 A → Rel ((cx w).str (sD w) S k) (envOfC "read_string1" (scopeOf (st 3)) L 45 (.ref 44)) ([Str.ofString "f"] ++ [Str.ofString "n", Str.ofString "data"]) as ⟨[some (.raw (.ref S.a)), some (.int c), some (.byt (S.x.drop (p + 1)))], hp.set k (.lst [.int S.x.length])⟩ s.heap →
   (∀ h' tk x, Rel ((cx w).str (sD w) S k) (envOfC "read_string1" (scopeOf (st 3)) L 45 (.ref 44)) ([Str.ofString "f"] ++ [Str.ofString "n", Str.ofString "data"]) as ⟨[some (.raw (.ref S.a)), some (.int c), some (.byt (S.x.drop (p + 1)))], hp.set k (.lst [.int S.x.length])⟩ h' → Step ((cx w).str (sD w) S k) (envOfC "read_string1" (scopeOf (st 3)) L 45 (.ref 44)) as s.heap as h' → Q x { s with heap := h', toks := tk }) → wpAny (model ((cx w).str (sD w) S k).prog ((cx w).str (sD w) S k).w) A (eval b (envOfC "read_string1" (scopeOf (st 3)) L 45 (.ref 44))) Q E s := by
  refine ⟨?b1, ?h1, ?c1⟩
  case h1 => (conv => lhs; whnf)
  case c1 =>
   refine fun A s as Q E R r h => msg_fmt (a := (c : Int)) (m := ((S.x.length - (p + 1) : Nat) : Int)) (by kernel_rfl) (by omega) (by omega) (by omega) (by omega) ((ce_tup (cl_cons rfl (ce_loc ok 1 rfl (by decide +kernel) (by decide +kernel)) (cl_cons rfl (ce_bltc (f := .len) (ce_bl ok (by kernel_rfl) (by decide +kernel) b_len) rfl (cl_cons rfl (ce_loc ok 2 rfl (by decide +kernel) (by decide +kernel)) cl_nil)) cl_nil))).ok _ _ _ ?_) A s as Q E R r h
   have b1 : (S.x.drop (p + 1)).length ≤ smallN := by rw [List.length_drop]; exact hd
   simp only [s_tup, s_cons, s_nil, s_loc, s_blt, bltV, arg1, lenV, List.getElem?_cons_zero, List.getElem?_cons_succ, if_pos b1]
   rw [List.length_drop]
   rfl
 rw [hb]; exact hcc
end
noncomputable section
noncomputable def tryOf : Stmt → List Stmt
 | .Try b _ _ _ _ => b
 | _ => []
noncomputable def handOf : Stmt → List Stmt
 | .Try _ (.ExceptHandler _ _ b _ :: _) _ _ _ => b
 | _ => []
noncomputable def forIt : Stmt → PySem.Expr
 | .For _ i _ _ _ => i
 | _ => .Constant .none 0 ⟨0, 0, 0, 0⟩
noncomputable def forBd : Stmt → List Stmt
 | .For _ _ b _ _ => b
 | _ => []
noncomputable def unFor : Stmt := (tryOf ((bodyOf (st 42)).getD 2 (.Pass ⟨0, 0, 0, 0⟩))).getD 0 (.Pass ⟨0, 0, 0, 0⟩)
noncomputable def unH : Stmt := (handOf ((bodyOf (st 42)).getD 2 (.Pass ⟨0, 0, 0, 0⟩))).getD 0 (.Pass ⟨0, 0, 0, 0⟩)
noncomputable def unR : Stmt := (bodyOf (st 42)).getD 1 (.Pass ⟨0, 0, 0, 0⟩)
noncomputable def sem_unI : SE := (s_blt .range (s_cons (s_bin .Add (s_blt .len (s_cons (s_loc 0) s_nil)) (s_c (.int 1))) s_nil))
set_option maxRecDepth 20000 in
theorem ce_unI {C : Cx} {K : Frag} {D : StrD C K} {S : Strm} {k : Nat} {n : Nat} {fa : Addr} {cd : Value} (b_len : BL (C.str D S k) "len" (.builtin "len")) (b_range : BL (C.str D S k) "range" (.type "range")) : ∀ L, CE (C.str D S k) n (envOfC "_law_unpack" (scopeOf (st 42)) L fa cd) ["octets", "stream", "rows", "k", "share"] (forIt unFor) sem_unI := by
 intro L
 have ok : EnvOk (envOfC "_law_unpack" (scopeOf (st 42)) L fa cd) ["octets", "stream", "rows", "k", "share"] := okC (by kernel_rfl) (by decide)
 obtain ⟨b, hb, hc⟩ : ∃ b, (forIt unFor) = b ∧ CE (C.str D S k) n (envOfC "_law_unpack" (scopeOf (st 42)) L fa cd) ["octets", "stream", "rows", "k", "share"] b sem_unI := by
  refine ⟨?b, ?h, ?c⟩
  case h => (conv => lhs; whnf)
  case c =>
   unfold sem_unI
   repeat' first
    | exact cb_fail | exact cy_fail
    | trivial
 rw [hb]; exact hc
noncomputable def sem_unR : SY := (y_asg 2 (s_list (s_cons (s_c (.str [])) s_nil)))
set_option maxRecDepth 20000 in
theorem cy_unR {C : Cx} {K : Frag} {D : StrD C K} {S : Strm} {k : Nat} {n : Nat} {fa : Addr} {cd : Value}  : ∀ L, CY (C.str D S k) n (envOfC "_law_unpack" (scopeOf (st 42)) L fa cd) ["octets", "stream", "rows", "k", "share"] unR sem_unR := by
 intro L
 have ok : EnvOk (envOfC "_law_unpack" (scopeOf (st 42)) L fa cd) ["octets", "stream", "rows", "k", "share"] := okC (by kernel_rfl) (by decide)
 obtain ⟨b, hb, hc⟩ : ∃ b, unR = b ∧ CY (C.str D S k) n (envOfC "_law_unpack" (scopeOf (st 42)) L fa cd) ["octets", "stream", "rows", "k", "share"] b sem_unR := by
  refine ⟨?b, ?h, ?c⟩
  case h => (conv => lhs; whnf)
  case c =>
   unfold sem_unR
   repeat' first
    | exact cb_fail | exact cy_fail
    | trivial
 rw [hb]; exact hc
noncomputable def sem_unB (sa : Addr) (k : Nat) (sx : List Nat) : SY := (y_seq (y_asg 4 (s_call (g_read1 sa k sx) (s_cons (s_loc 1) s_nil)))
 (y_seq (y_expr (s_meth .append (s_loc 2) (s_cons (s_bin .Add (s_slc (s_idx (s_loc 2) (s_neg (s_c (.int 1)))) (s_c .none) (s_loc 4)) (s_call (g_readS sa k sx) (s_cons (s_loc 1) s_nil))) s_nil)))
 y_nil))
set_option maxRecDepth 20000 in
theorem cb_unB {C : Cx} {K : Frag} {D : StrD C K} {S : Strm} {k : Nat} {n : Nat} {fa : Addr} {cd : Value} (g1 : GL (C.str D S k) "read_uint1" (.raw (.ref 38))) (f1 : FS (C.str D S k) n 38 (g_read1 S.a k S.x)) (g2 : GL (C.str D S k) "read_string1" (.raw (.ref 45))) (f2 : FS (C.str D S k) n 45 (g_readS S.a k S.x)) : ∀ L, CB (C.str D S k) n (envOfC "_law_unpack" (scopeOf (st 42)) L fa cd) ["octets", "stream", "rows", "k", "share"] (forBd unFor) (sem_unB S.a k S.x) := by
 intro L
 have ok : EnvOk (envOfC "_law_unpack" (scopeOf (st 42)) L fa cd) ["octets", "stream", "rows", "k", "share"] := okC (by kernel_rfl) (by decide)
 obtain ⟨b, hb, hc⟩ : ∃ b, (forBd unFor) = b ∧ CB (C.str D S k) n (envOfC "_law_unpack" (scopeOf (st 42)) L fa cd) ["octets", "stream", "rows", "k", "share"] b (sem_unB S.a k S.x) := by
  refine ⟨?b, ?h, ?c⟩
  case h => (conv => lhs; whnf)
  case c =>
   unfold sem_unB
   repeat' first
    | exact cb_fail | exact cy_fail
    | trivial
 rw [hb]; exact hc
theorem rx_un1 {C : Cx} {K : Frag} {D : StrD C K} {S : Strm} {k : Nat} {n : Nat} {fa : Addr} {cd : Value} {σ σ' : Sg} {hp' : List O} (o1 : σ.loc[1]? = some (some (.raw (.ref S.a)))) {o : Obj} {fd : FuncData} (hb : (C.str D S k).base 38 o) (hd : o.data = .func fd) (g1 : GL (C.str D S k) "read_uint1" (.raw (.ref 38))) (X : SpcX (C.str D S k) n (.ref 38) [.raw (.ref S.a)] σ.hp hp') (e : σ' = { σ with hp := hp' }) : ∀ L, RX (C.str D S k) n (envOfC "_law_unpack" (scopeOf (st 42)) L fa cd) ["octets", "stream", "rows", "k", "share"] (execs (forBd unFor) (envOfC "_law_unpack" (scopeOf (st 42)) L fa cd)) σ σ' := by
 intro L
 subst e
 have ok : EnvOk (envOfC "_law_unpack" (scopeOf (st 42)) L fa cd) ["octets", "stream", "rows", "k", "share"] := okC (by kernel_rfl) (by decide)
 obtain ⟨b, hb', hc⟩ : ∃ b, forBd unFor = b ∧ RX (C.str D S k) n (envOfC "_law_unpack" (scopeOf (st 42)) L fa cd) ["octets", "stream", "rows", "k", "share"] (execs b (envOfC "_law_unpack" (scopeOf (st 42)) L fa cd)) σ { σ with hp := hp' } := by
  refine ⟨?b, ?h, ?c⟩
  case h => (conv => lhs; whnf)
  case c =>
   refine rx_here (rx_asg (swaps_plain rfl) (rx_call (by kernel_rfl) rfl ((ce_gl ok (by kernel_rfl) (by decide +kernel) g1).ok _ _ _ rfl) hb hd ⟨(by simp), rfl⟩ ((cl_cons rfl (ce_loc ok 1 rfl (by decide +kernel) (by decide +kernel)) cl_nil).ok _ _ [.raw (.ref S.a)] σ ?_) X rfl))
   simp only [s_cons, s_loc, s_nil, o1]
 rw [hb']; exact hc
theorem rx_un2 {C : Cx} {K : Frag} {D : StrD C K} {S : Strm} {k : Nat} {n : Nat} {fa : Addr} {cd : Value} {σ σ₁ σ' : Sg} {hp' : List O} {rows : List V} {w j : V} {d : Nat} {sh : Int} {o : Obj} {fd : FuncData} (hb : (C.str D S k).base 45 o) (hd : o.data = .func fd) (g1 : GL (C.str D S k) "read_uint1" (.raw (.ref 38))) (f1 : FS (C.str D S k) n 38 (g_read1 S.a k S.x)) (g2 : GL (C.str D S k) "read_string1" (.raw (.ref 45)))
  (r1 : y_asg 4 (s_call (g_read1 S.a k S.x) (s_cons (s_loc 1) s_nil)) σ = some (.next, σ₁)) (o2 : σ₁.loc[2]? = some (some (.own d))) (hr : σ₁.hp[d]? = some (.lst rows)) (o1 : σ₁.loc[1]? = some (some (.raw (.ref S.a))))
  (r2 : s_slc (s_idx (s_loc 2) (s_neg (s_c (.int 1)))) (s_c .none) (s_loc 4) σ₁ = some (w, σ₁)) (X : SpcX (C.str D S k) n (.ref 45) [.raw (.ref S.a)] σ₁.hp hp') (e : σ' = { σ₁ with hp := hp' }) : ∀ L, RX (C.str D S k) n (envOfC "_law_unpack" (scopeOf (st 42)) L fa cd) ["octets", "stream", "rows", "k", "share"] (execs (forBd unFor) (envOfC "_law_unpack" (scopeOf (st 42)) L fa cd)) σ σ' := by
 intro L
 subst e
 have ok : EnvOk (envOfC "_law_unpack" (scopeOf (st 42)) L fa cd) ["octets", "stream", "rows", "k", "share"] := okC (by kernel_rfl) (by decide)
 obtain ⟨b, hb', hc⟩ : ∃ b, forBd unFor = b ∧ RX (C.str D S k) n (envOfC "_law_unpack" (scopeOf (st 42)) L fa cd) ["octets", "stream", "rows", "k", "share"] (execs b (envOfC "_law_unpack" (scopeOf (st 42)) L fa cd)) σ { σ₁ with hp := hp' } := by
  refine ⟨?b, ?h, ?c⟩
  case h => (conv => lhs; whnf)
  case c =>
   refine rx_later ((cy_asg ok 4 (by rfl) (by kernel_rfl) (swaps_plain rfl) (ce_callg f1 (ce_gl ok (by kernel_rfl) (by decide) g1) rfl (cl_cons rfl (ce_loc ok 1 rfl (by decide) (by decide)) cl_nil))).ok _ _ _ r1) ?_
   refine rx_here (rx_expr (not_inter rfl) (swaps_plain rfl) (rx_app (k := d) (ws := rows) (σ₁ := σ₁) ((ce_loc ok 2 rfl (by decide) (by decide)).ok _ _ _ ?_) hr rfl (rx_bin (a := w) (σ₁ := σ₁) ((ce_slc (ce_idx (ce_loc ok 2 rfl (by decide) (by decide)) (ce_neg ce_int) rfl) cp_none (cp_some (ce_loc ok 4 rfl (by decide) (by decide)))).ok _ _ _ r2) (rx_call (by kernel_rfl) rfl ((ce_gl ok (by kernel_rfl) (by decide +kernel) g2).ok _ _ _ rfl) hb hd ⟨(by simp), rfl⟩ ((cl_cons rfl (ce_loc ok 1 rfl (by decide +kernel) (by decide +kernel)) cl_nil).ok _ _ [.raw (.ref S.a)] σ₁ ?_) X rfl)) rfl rfl))
   ·simp only [s_loc, o2]
   ·simp only [s_cons, s_loc, s_nil, o1]
 rw [hb']; exact hc
end
noncomputable section
noncomputable abbrev Rec : Type := Nat × List Nat
noncomputable def encR (rs : List Rec) : List Nat := rs.flatMap fun r => r.1 :: r.2.length :: r.2
noncomputable def rowsR : List Nat → List Rec → List (List Nat)
 | _, [] => []
 | p, r :: rs => (p.take r.1 ++ r.2) :: rowsR (p.take r.1 ++ r.2) rs
noncomputable def lastR : List Nat → List Rec → List Nat
 | p, [] => p
 | p, r :: rs => lastR (p.take r.1 ++ r.2) rs
theorem rowsR_snoc (r : Rec) : ∀ (rs : List Rec) (p : List Nat), rowsR p (rs ++ [r]) = rowsR p rs ++ [(lastR p rs).take r.1 ++ r.2]
 | [], p => rfl
 | q :: rs, p => by
  show _ :: rowsR _ (rs ++ [r]) = _
  rw [rowsR_snoc r rs]; rfl
theorem rowsR_len : ∀ (rs : List Rec) (p : List Nat), (rowsR p rs).length = rs.length
 | [], _ => rfl
 | r :: rs, p => by
  show (rowsR _ rs).length + 1 = _
  rw [rowsR_len rs]; rfl
theorem rows_last : ∀ (rs : List Rec) (p : List Nat), (p :: rowsR p rs)[rs.length]? = some (lastR p rs)
 | [], p => rfl
 | r :: rs, p => by
  show (_ :: rowsR _ rs)[rs.length]? = _
  exact rows_last rs _
theorem encR_snoc (rs : List Rec) (r : Rec) : encR (rs ++ [r]) = encR rs ++ (r.1 :: r.2.length :: r.2) := by
 unfold encR
 rw [List.flatMap_append]
 simp
theorem encR_app (rs ts : List Rec) : encR (rs ++ ts) = encR rs ++ encR ts := List.flatMap_append
theorem encR_len2 : ∀ (rs : List Rec), 2 * rs.length ≤ (encR rs).length
 | [] => Nat.zero_le _
 | r :: rs => by
  have := encR_len2 rs
  show _ ≤ ((r.1 :: r.2.length :: r.2) ++ encR rs).length
  simp only [List.length_append, List.length_cons]
  lia
section
variable {sa : Addr} {x : List Nat} {H : List O} {p q : Nat} {R R' : List V} {v v3 v4 : Option V}
noncomputable abbrev unH2 (H : List O) (p : Nat) (R : List V) : List O := H ++ [.lst [.int p], .lst R]
theorem un_get0 : (unH2 H p R)[H.length]? = some (.lst [.int p]) := by
 rw [List.getElem?_append_right (Nat.le_refl _), Nat.sub_self]; rfl
theorem un_get1 : (unH2 H p R)[H.length + 1]? = some (.lst R) := by
 rw [List.getElem?_append_right (Nat.le_succ _), show H.length + 1 - H.length = 1 by simp]; rfl
theorem un_set0 {i : Int} (e : i = (q : Int)) : (unH2 H p R).set H.length (.lst [.int i]) = unH2 H q R := by
 subst e
 rw [List.set_append_right _ _ (Nat.le_refl _), Nat.sub_self]; rfl
theorem un_set1 : (unH2 H p R).set (H.length + 1) (.lst R') = unH2 H p R' := by
 rw [List.set_append_right _ _ (Nat.le_succ _), show H.length + 1 - H.length = 1 by simp]; rfl
theorem strs_low (m : Nat) : ∀ (l : List (List Nat)), V.lows m (l.map .str) = true
 | [] => rfl
 | x :: l => by simp only [List.map_cons, V.lows, V.low, strs_low m l, Bool.and_true]
theorem un_low (low : ∀ k, H.all (O.low k) = true) (m : Nat) (l : List (List Nat)) : (unH2 H p (l.map .str)).all (O.low m) = true := by
 rw [List.all_append, low m]
 simp only [List.all_cons, List.all_nil, O.low, V.lows, V.low, strs_low, Bool.and_true]
noncomputable abbrev unS (sa : Addr) (x : List Nat) (H : List O) (p : Nat) (R : List V) (v3 v4 : Option V) : Sg := ⟨[some (.byt x), some (.raw (.ref sa)), some (.own (H.length + 1)), v3, v4], unH2 H p R⟩
theorem un_share {c : Nat} {l : List (List Nat)} (low : ∀ k, H.all (O.low k) = true) (hx : x.length ≤ smallN) (hc : x[p]? = some c) :
  y_asg 4 (s_call (g_read1 sa H.length x) (s_cons (s_loc 1) s_nil)) (unS sa x H p (l.map .str) v3 v4) = some (.next, unS sa x H (p + 1) (l.map .str) v3 (some (.int c))) := by
 have e := read1_at (sa := sa) (k := H.length) (x := x) (hp := unH2 H p (l.map .str)) un_get0 (un_low low _ l) hx hc
 rw [un_set0 rfl] at e
 unfold y_asg s_call
 simp only [s_cons, s_loc, s_nil, List.getElem?_cons_succ, List.getElem?_cons_zero, e]
 rfl
theorem un_prev {c : Nat} {l : List (List Nat)} {pr : List Nat} (hl : l[l.length - 1]? = some pr) (hz : l.length < 1000000) (hp : pr.length ≤ smallN) :
  s_slc (s_idx (s_loc 2) (s_neg (s_c (.int 1)))) (s_c .none) (s_loc 4) (unS sa x H p (l.map .str) v3 (some (.int c))) = some (.str (pr.take c), unS sa x H p (l.map .str) v3 (some (.int c))) := by
 have lp : 0 < l.length := by
  have := (List.getElem?_eq_some_iff.mp hl).1
  exact tA (Nat.le_add_left _ _) ‹_›
 have e1 : idxV (unS sa x H p (l.map .str) v3 (some (.int c))) (.own (H.length + 1)) (.int (-1)) = some (.str pr) := by
  exact idx_end un_get1 (by rw [List.getLast?_map, List.getLast?_eq_getElem?, hl]; rfl) (by rw [List.length_map]; exact hz)
 have e2 : cut pr none (some (c : Int)) = pr.take c := by
  unfold cut
  simp only [Option.elim_none, Option.elim_some, List.drop_zero, Nat.sub_zero]
  unfold clipAt
  rw [if_neg (by simp)]
  by_cases h : c ≤ pr.length
  ·congr 1; lia
  ·rw [List.take_of_length_le (by lia), List.take_of_length_le (by lia)]
 exact sl_of (u := .str pr) (v := .none) (w := .int c) (s_idx_of (u := .own (H.length + 1)) (v := .int (-1)) rfl rfl e1) rfl rfl ((slcV_str rfl rfl hp).trans (by rw [e2]))
theorem un_turn {c : Nat} {s rest pr : List Nat} {l : List (List Nat)} (low : ∀ k, H.all (O.low k) = true) (hx : x.length ≤ smallN) (hc : x.drop p = c :: s.length :: (s ++ rest)) (hl : l[l.length - 1]? = some pr) (hz : l.length ≤ 10000) (hp : pr.length ≤ 1000) (hs : s.length ≤ 1000) :
  sem_unB sa H.length x (unS sa x H p (l.map .str) v3 v4) = some (.next, unS sa x H (p + 2 + s.length) ((l ++ [pr.take c ++ s]).map .str) v3 (some (.int c))) := by
 have c0 : x[p]? = some c := by
  have := congrArg (fun l => l[0]?) hc
  simpa using this
 have c1 : x.drop (p + 1) = s.length :: (s ++ rest) := by
  have := congrArg (fun l => l.drop 1) hc
  simpa [List.drop_drop] using this
 have e1 := un_share (sa := sa) (v3 := v3) (v4 := v4) (l := l) low hx c0
 have e2 := un_prev (sa := sa) (x := x) (H := H) (p := p + 1) (v3 := v3) (c := c) hl (by exact tB ‹_› (by decide)) (by unfold smallN; exact tA ‹_› (by decide))
 have e3 := readS_at (sa := sa) (k := H.length) (x := x) (hp := unH2 H (p + 1) (l.map .str)) un_get0 (un_low low _ l) hx c1
 rw [un_set0 (q := p + 2 + s.length) (by rfl)] at e3
 have e4 : s_call (g_readS sa H.length x) (s_cons (s_loc 1) s_nil) (unS sa x H (p + 1) (l.map .str) v3 (some (.int c))) = some (.str s, unS sa x H (p + 2 + s.length) (l.map .str) v3 (some (.int c))) := by
  unfold s_call
  simp only [s_cons, s_loc, s_nil, List.getElem?_cons_succ, List.getElem?_cons_zero, e3]
 have e5 : s_bin .Add (s_slc (s_idx (s_loc 2) (s_neg (s_c (.int 1)))) (s_c .none) (s_loc 4)) (s_call (g_readS sa H.length x) (s_cons (s_loc 1) s_nil)) (unS sa x H (p + 1) (l.map .str) v3 (some (.int c))) = some (.str (pr.take c ++ s), unS sa x H (p + 2 + s.length) (l.map .str) v3 (some (.int c))) := by
  unfold s_bin
  rw [e2]
  dsimp only
  rw [e4]
  exact if_pos (by rw [List.length_take]; unfold smallN; lia)
 unfold sem_unB
 rw [y_seq, e1]
 dsimp only
 rw [y_seq]
 have e6 : y_expr (s_meth .append (s_loc 2) (s_cons (s_bin .Add (s_slc (s_idx (s_loc 2) (s_neg (s_c (.int 1)))) (s_c .none) (s_loc 4)) (s_call (g_readS sa H.length x) (s_cons (s_loc 1) s_nil))) s_nil)) (unS sa x H (p + 1) (l.map .str) v3 (some (.int c))) = some (.next, unS sa x H (p + 2 + s.length) ((l ++ [pr.take c ++ s]).map .str) v3 (some (.int c))) := by
  unfold y_expr
  rw [meth_own (k := H.length + 1) rfl (cons_of e5 rfl) un_get1 (app_of un_get1 (by rw [List.length_map]; unfold smallN; exact tA ‹_› (by decide)))]
  simp only [Sg.setO, un_set1, List.map_append, List.map_cons, List.map_nil]
 rw [e6]
 rfl
end
end
noncomputable section
theorem SpcX.le {C : Cx} {m n : Nat} {f : Value} {args : List V} {hp hp' : List O} (h : SpcX C m f args hp hp') (l : m ≤ n) : SpcX C n f args hp hp' := fun A s as xs F Q E R => h A s as xs F Q E (R.le l)
theorem rh_one {C : Cx} {n : Nat} {env : Env} {ns : List Str} {st : Stmt} {σ σ' : Sg} (h1 : RH C n env ns (exec st env) σ σ') : RH C n env ns (execs [st] env) σ σ' := fun A s as F Q E R hfr fr r h =>
 wpAny_execs_cons (h1 A s as F _ E R hfr fr r h)
noncomputable def Bad (t : List Nat) : Prop := t = [] ∨ (∃ a, t = [a]) ∨ ∃ a c u, t = a :: c :: u ∧ u.length < c ∧ c < 1000000
noncomputable def kOf : Nat → Option V
 | 0 => none
 | m + 1 => some (.int m)
noncomputable def shOf (l : List Rec) : Option V := l.getLast?.map fun r => V.int r.1
theorem un_forS : unFor = .For (.Name (Str.ofString "k") ⟨212, 12, 212, 13⟩) (forIt unFor) (forBd unFor) [] ⟨212, 8, 214, 64⟩ := by kernel_rfl
theorem cut1 {vs : List V} {v : V} : cut (v :: vs) (some 1) none = vs := cut_from (a := 1) (by simp)
theorem sh_snoc (l : List Rec) (r : Rec) : shOf (l ++ [r]) = some (.int r.1) := by unfold shOf; simp
theorem sh_flat (l : List Rec) (w : V) (h : shOf l = some w) : flat w = true := by
 unfold shOf at h
 cases e : l.getLast? with
 | none => rw [e] at h; cases h
 | some r => rw [e] at h; cases h; rfl
theorem un_state {sa : Addr} {x : List Nat} {H : List O} {p q : Nat} {R : List V} {v3 v4 : Option V} {i : Int} (e : i = (p : Int)) : { unS sa x H q R v3 v4 with hp := (unH2 H q R).set H.length (.lst [.int i]) } = unS sa x H p R v3 v4 := by rw [un_set0 e]
theorem F_unpack (w : World) {H : List O} {recs : List Rec} {x0 rest : List Nat} (low : ∀ k, H.all (O.low k) = true) (flt : H.all flatO = true) (hx : x0 = encR recs ++ rest) (hz : x0.length ≤ 50000)
  (hB : ∀ ts us, recs = ts ++ us → (lastR [] ts).length ≤ 1000) (hs : ∀ r ∈ recs, r.2.length ≤ 1000) (hn : recs.length ≤ 1000) (bad : Bad rest) : SpcF (cx w) 9 (.ref 184) [.byt x0] H (.lst ((rowsR [] recs).map .str)) H := by
 have hz' : x0.length ≤ smallN := by unfold smallN; exact tA ‹_› (by decide)
 refine unpack_ok (n := 0) (u := .none) (v := .none) (b1 := unR) (forS := unFor) (h0 := unH) (tl := (bodyOf (st 42)).drop 3) (p1 := ⟨209, 4, 209, 10⟩) (p2 := ⟨209, 13, 209, 24⟩) (p3 := ⟨209, 25, 209, 31⟩) (p4 := ⟨209, 13, 209, 32⟩) (p5 := ⟨209, 4, 209, 32⟩) (np := ⟨215, 11, 215, 21⟩) (hpos := ⟨215, 4, 217, 27⟩) (tpos := ⟨211, 4, 217, 27⟩) (sD w) rfl (D_law_unpack w) (by kernel_rfl) (fun L => by kernel_rfl) (gls w (by kernel_rfl)) (by kernel_rfl) (by kernel_rfl) (bls w (by kernel_rfl) (by kernel_rfl)) (by kernel_rfl) ?_ ?_ ?_ flt (low _) ?_ (fun m => strs_low m _)
 ·intro S Lv Sx L
  refine (cy_unR (D := sD w) (S := S) (k := H.length) (n := 8) L).ok _ _ _ ?_
  unfold sem_unR y_asg s_list
  simp only [s_cons, s_c, s_nil]
  rw [if_pos (by decide)]
  simp only [Sg.new, Sg.put, List.length_append, List.length_cons, List.length_nil, List.append_assoc]
  rfl
 ·intro S Lv Sx L
  subst Sx
  have ok : EnvOk (envOfC "_law_unpack" (scopeOf (st 42)) L 184 (.ref 183)) unNs := okC (by kernel_rfl) (by decide +kernel)
  have f1 := FS.le (F_read1 w S H.length Lv) (show 2 ≤ 8 by decide)
  have f2 := FS.le (F_readS w S H.length Lv) (show 3 ≤ 8 by decide)
  have g1 : GL ((cx w).str (sD w) S H.length) "read_uint1" (.raw (.ref 38)) := (gls w (by kernel_rfl)).more
  have g2 : GL ((cx w).str (sD w) S H.length) "read_string1" (.raw (.ref 45)) := (gls w (by kernel_rfl)).more
  have b_len : BL ((cx w).str (sD w) S H.length) "len" (.builtin "len") := (bls w (by kernel_rfl) (by kernel_rfl)).more
  have b_range : BL ((cx w).str (sD w) S H.length) "range" (.type "range") := (bls w (by kernel_rfl) (by kernel_rfl)).more
  obtain ⟨o1, _, _, _, hb1, hd1⟩ := ((D_read_uint1 w).more (N := (S.cv, S.oc) :: S.objs (sD w)) (pin := [(H.length, S.l)])).fn
  obtain ⟨o2, _, _, _, hb2, hd2⟩ := ((D_read_string1 w).more (N := (S.cv, S.oc) :: S.objs (sD w)) (pin := [(H.length, S.l)])).fn
  have lenE : (encR recs).length + rest.length = S.x.length := by rw [hx, List.length_append]
  have nd : ∀ ts us, recs = ts ++ us → 2 * ts.length ≤ S.x.length := fun ts us e => by
   have h1 := encR_len2 ts
   have h2 : (encR recs).length = (encR ts).length + (encR us).length := by rw [e, encR_app, List.length_append]
   lia
  have strR : ∀ rs : List Rec, (V.str [] :: (rowsR [] rs).map .str) = ([] :: rowsR [] rs).map .str := fun rs => rfl
  -- the last turn
  obtain ⟨v4, fv4, hRX⟩ : ∃ v4 : Option V, (∀ w, v4 = some w → flat w = true) ∧ RX ((cx w).str (sD w) S H.length) 8 (envOfC "_law_unpack" (scopeOf (st 42)) L 184 (.ref 183)) unNs (execs (forBd unFor) (envOfC "_law_unpack" (scopeOf (st 42)) L 184 (.ref 183))) (unS S.a S.x H (encR recs).length (([] :: rowsR [] recs).map .str) (some (.int recs.length)) (shOf recs)) (unS S.a S.x H S.x.length (([] :: rowsR [] recs).map .str) (some (.int recs.length)) v4) := by
   rcases bad with rfl | ⟨a, rfl⟩ | ⟨a, c, u, rfl, hc, hc2⟩
   ·have e0 : (encR recs).length = S.x.length := by simpa using lenE
    refine ⟨shOf recs, sh_flat recs, rx_un1 rfl hb1 hd1 g1 (SpcX.le (X_read1 w S H.length Lv (hp := unH2 H (encR recs).length (([] :: rowsR [] recs).map .str)) (by rw [un_get0, e0]) hz') (by decide)) ?_ L⟩
    exact (un_state rfl).symm
   ·have e0 : (encR recs).length + 1 = S.x.length := by simpa using lenE
    have c0 : S.x[(encR recs).length]? = some a := by rw [hx, List.getElem?_append_right (Nat.le_refl _), Nat.sub_self]; rfl
    refine ⟨some (.int a), fun w e => by cases e; rfl, rx_un2 (d := H.length + 1) (rows := ([] :: rowsR [] recs).map .str) (sh := 0) (j := .none) hb2 hd2 g1 f1 g2 (un_share low hz' c0) rfl un_get1 rfl (un_prev (l := [] :: rowsR [] recs) (pr := lastR [] recs) ?_ ?_ ?_) (SpcX.le (X_readS1 w S H.length Lv (hp := unH2 H ((encR recs).length + 1) (([] :: rowsR [] recs).map .str)) (by rw [un_get0, e0]) hz') (by decide)) ?_ L⟩
    ·rw [show ([] :: rowsR [] recs).length - 1 = recs.length by simp [rowsR_len]]; exact rows_last _ _
    ·simp only [List.length_cons, rowsR_len]; lia
    ·have := hB recs [] (by simp); unfold smallN; exact tA ‹_› (by decide)
    ·exact (un_state rfl).symm
   ·have e0 : (encR recs).length + 2 + u.length = S.x.length := by
     simp only [List.length_cons] at lenE
     lia
    have c0 : S.x[(encR recs).length]? = some a := by rw [hx, List.getElem?_append_right (Nat.le_refl _), Nat.sub_self]; rfl
    have c1 : S.x[(encR recs).length + 1]? = some c := by rw [hx, List.getElem?_append_right (Nat.le_succ _), show (encR recs).length + 1 - (encR recs).length = 1 by simp]; rfl
    refine ⟨some (.int a), fun w e => by cases e; rfl, rx_un2 (d := H.length + 1) (rows := ([] :: rowsR [] recs).map .str) (sh := 0) (j := .none) hb2 hd2 g1 f1 g2 (un_share low hz' c0) rfl un_get1 rfl (un_prev (l := [] :: rowsR [] recs) (pr := lastR [] recs) ?_ ?_ ?_) (SpcX.le (X_readS2 w S H.length Lv (hp := unH2 H ((encR recs).length + 1) (([] :: rowsR [] recs).map .str)) un_get0 (un_low low _ _) hz' c1 (by lia) hc2) (by decide)) ?_ L⟩
    ·rw [show ([] :: rowsR [] recs).length - 1 = recs.length by simp [rowsR_len]]; exact rows_last _ _
    ·simp only [List.length_cons, rowsR_len]; lia
    ·have := hB recs [] (by simp); unfold smallN; exact tA ‹_› (by decide)
    ·exact (un_state rfl).symm
  refine ⟨some (.int recs.length), v4, fun w e => by cases e; rfl, fv4, ?_⟩
  rw [un_forS]
  refine rh_one (rx_for (v := .rng 0 (S.x.length + 1)) (σ₁ := unS S.a S.x H 0 (([] :: rowsR [] []).map .str) none none) (src := .fix (rangeVs 0 (S.x.length + 1))) (fun n src σ => ∃ done todo, recs = done ++ todo ∧ n = todo.length ∧ src = .fix (rangeVs (done.length : Int) (S.x.length + 1 - done.length)) ∧ σ = unS S.a S.x H (encR done).length (([] :: rowsR [] done).map .str) (kOf done.length) (shOf done))
   ok.kind rfl ((ce_unI (n := 8) b_len b_range L).ok _ _ _ ?_) ?_ (folded_plain (by kernel_rfl)) ?_ recs.length ⟨[], recs, rfl, rfl, rfl, rfl⟩)
  ·unfold sem_unI
   exact blt_of (vs := [.int (S.x.length + 1)]) (cons_of (bin_of (v := .int S.x.length) (w := .int 1) (blt_of (v := .int S.x.length) (cons_of (v := .byt S.x) rfl rfl) (if_pos hz')) rfl rfl) rfl) rfl
  ·show (if (-1000000 : Int) ≤ 0 ∧ (0 : Int) ≤ 1000000 ∧ (-1000000 : Int) ≤ (S.x.length + 1 : Int) ∧ (S.x.length + 1 : Int) ≤ 1000000 then some (Src.fix (rangeVs 0 ((S.x.length + 1 : Int) - 0).toNat)) else none) = _
   rw [if_pos ⟨by decide, by decide, Int.le_trans (show (-1000000 : Int) ≤ 0 by decide) (tG (S.x.length + 1)), by omega⟩, show ((S.x.length + 1 : Int) - 0).toNat = S.x.length + 1 by exact Nat.add_assoc _ _ _]
  ·rintro n src σ ⟨done, todo, e1, rfl, rfl, rfl⟩
   have n1 := nd done todo e1
   refine ⟨.int done.length, .fix (rangeVs ((done.length + 1 : Nat) : Int) (S.x.length + 1 - (done.length + 1))), unS S.a S.x H (encR done).length (([] :: rowsR [] done).map .str) (some (.int done.length)) (shOf done), ?_, ?_, ?_⟩
   ·rw [show S.x.length + 1 - done.length = (S.x.length + 1 - (done.length + 1)) + 1 by lia]
    rfl
   ·exact (cg_name (n := 8) (C := (cx w).str (sD w) S H.length) ok 3 rfl (by kernel_rfl)).ok _ _ _ rfl
   ·cases todo with
    | nil =>
     right
     rw [List.append_nil] at e1
     subst e1
     exact hRX
    | cons r todo =>
     left
     obtain ⟨c, s⟩ := r
     have e2 : recs = (done ++ [(c, s)]) ++ todo := by rw [e1]; simp
     refine ⟨unS S.a S.x H (encR (done ++ [(c, s)])).length (([] :: rowsR [] (done ++ [(c, s)])).map .str) (kOf (done ++ [(c, s)]).length) (shOf (done ++ [(c, s)])), todo.length, (cb_unB (n := 8) g1 f1 g2 f2 L).ok _ _ _ ?_, Nat.lt_succ_self _, done ++ [(c, s)], todo, e2, rfl, ?_, rfl⟩
     ·have tn := un_turn (sa := S.a) (x := S.x) (H := H) (p := (encR done).length) (c := c) (s := s) (rest := encR todo ++ rest) (pr := lastR [] done) (l := [] :: rowsR [] done) (v3 := some (.int done.length)) (v4 := shOf done) low hz' ?_ ?_ ?_ ?_ ?_
      ·rw [tn, encR_snoc, rowsR_snoc, sh_snoc, List.length_append, List.length_append]
       have k1 : kOf (done.length + [(c, s)].length) = some (.int done.length) := rfl
       rw [k1]
       have l1 : (encR done).length + 2 + s.length = (encR done).length + (c :: s.length :: s).length := by simp only [List.length_cons]; simp +arith
       rw [l1]
       rfl
      ·rw [hx, e1, encR_app, List.append_assoc, List.drop_left']
       ·show (((c :: s.length :: s) ++ encR todo) ++ rest) = _
        simp
       ·rfl
      ·rw [show ([] :: rowsR [] done).length - 1 = done.length by simp [rowsR_len]]; exact rows_last _ _
      ·simp only [List.length_cons, rowsR_len]
       have : done.length ≤ recs.length := by rw [e1, List.length_append]; exact tE _ _
       lia
      ·exact hB done _ e1
      ·exact hs (c, s) (by rw [e1]; simp)
     ·rw [List.length_append]; rfl
 ·intro S Lv Sx L A s as σ Q r v0 v1 v2 q1 q2 fin
  have ok : EnvOk (envOfC "_law_unpack" (scopeOf (st 42)) L 184 (.ref 183)) unNs := okC (by kernel_rfl) (by decide +kernel)
  obtain ⟨b, hb, hc⟩ : ∃ b, unH = b ∧ wpAny (model (cx w).prog (cx w).w) A (execs [b] (envOfC "_law_unpack" (scopeOf (st 42)) L 184 (.ref 183))) Q (fun _ _ => False) s := by
   refine ⟨?bb, ?hh, ?cc⟩
   case hh => (conv => lhs; whnf)
   case cc =>
    refine hand_ok (C := cx w) (D := sD w) (S := S) (k := H.length) (j := H.length + 1) (l := x0.length) (vs := .str [] :: (rowsR [] recs).map .str) (rdK w) ok rfl rfl rfl (bls w (by kernel_rfl) (by kernel_rfl)) (by kernel_rfl) r v0 v1 v2 q1 q2 (by rw [Sx]; exact hz') (by rw [Sx]) ?_ fun as' h' tk x r' s' v' => ?_
    ·simp only [List.length_cons, List.length_map, rowsR_len]; unfold smallN; exact tB ‹_› (by decide)
    ·rw [cut1] at r' v'
     exact fin as' h' tk x r' s' v'
  rw [hb]; exact hc
 ·rw [List.all_eq_true]
  intro v m
  obtain ⟨y, _, rfl⟩ := List.mem_map.mp m
  rfl
end
noncomputable section
noncomputable def comm : List Nat → List Nat → Nat
 | a :: as, b :: bs => if a = b then comm as bs + 1 else 0
 | _, _ => 0
theorem comm_l : ∀ a b : List Nat, comm a b ≤ a.length
 | [], _ => Nat.le_refl _
 | _ :: _, [] => Nat.zero_le _
 | a :: as, b :: bs => by
  rw [comm]; have := comm_l as bs
  split <;> simp only [List.length_cons] <;> lia
theorem comm_r : ∀ a b : List Nat, comm a b ≤ b.length
 | [], _ => Nat.zero_le _
 | _ :: _, [] => Nat.zero_le _
 | a :: as, b :: bs => by
  rw [comm]; have := comm_r as bs
  split <;> simp only [List.length_cons] <;> lia
theorem comm_eq : ∀ (a b : List Nat) (s : Nat), s ≤ comm a b → b.take s = a.take s
 | _, _, 0, _ => rfl
 | [], b, s + 1, h => by simp [comm] at h
 | a :: as, [], s + 1, h => by simp [comm] at h
 | a :: as, b :: bs, s + 1, h => by
  rw [comm] at h
  split at h
  ·rename_i e
   subst e
   rw [List.take_succ_cons, List.take_succ_cons, comm_eq as bs s (by exact tI ‹_›)]
  ·lia
theorem comm_ne : ∀ (a b : List Nat), comm a b < a.length → b.take (comm a b + 1) ≠ a.take (comm a b + 1)
 | [], b, h => by simp at h
 | a :: as, [], h => by simp [comm]
 | a :: as, b :: bs, h => by
  rw [comm] at h ⊢
  split at h
  ·rename_i e
   subst e
   rw [if_pos rfl, List.take_succ_cons, List.take_succ_cons]
   intro z
   exact comm_ne as bs (by simp only [List.length_cons] at h; exact tD ‹_›) (List.cons.inj z).2
  ·rename_i e
   rw [if_neg e]
   simp only [Nat.zero_add, List.take_succ_cons, List.take_zero]
   intro z
   exact e (List.cons.inj z).1.symm
noncomputable def RowOk (r : List Nat) : Prop := ∃ c t, r = c :: t ∧ okHd c = true ∧ t.all okSg = true ∧ t.length = 9
theorem RowOk.len {r : List Nat} (h : RowOk r) : r.length = 10 := by
 obtain ⟨c, t, rfl, _, _, e⟩ := h
 rw [List.length_cons, e]
theorem RowOk.front {r : List Nat} (h : RowOk r) (s : Nat) : Front (r.take (s + 1)) := by
 obtain ⟨c, t, rfl, h1, h2, e⟩ := h
 rw [List.take_succ_cons]
 refine ⟨h1, List.all_eq_true.mpr fun x m => List.all_eq_true.mp h2 x (List.mem_of_mem_take m), ?_⟩
 rw [List.length_take]; lia
theorem sg_63 {r : List Nat} (h : r.all okSg = true) : 63 ∉ r := fun m => by
 have := List.all_eq_true.mp h 63 m
 revert this; decide
theorem rpl_quote {p : List Nat} (h : Front p) : rplN 63 [91, 63, 93] p = quoteN p := by
 match p, h with
 | c :: r, ⟨_, h2, _⟩ =>
  have := rpl_free (z := [91, 63, 93]) (sg_63 h2)
  unfold rplN at this ⊢
  rw [List.flatMap_cons, this]
  rfl
theorem RowOk.ascii {r : List Nat} (h : RowOk r) : ∀ c ∈ r, c < 128 := by
 obtain ⟨c, t, rfl, h1, h2, e⟩ := h
 intro x m
 rcases List.mem_cons.mp m with rfl | m
 ·have t1 : ∀ c ∈ typL, c < 128 := by decide
  exact t1 x (by simpa [okHd] using h1)
 ·have t2 : ∀ c ∈ [45, 114, 119, 120, 83, 115, 84, 116], c < 128 := by decide
  exact t2 x (by simpa [okSg] using List.all_eq_true.mp h2 x m)
section
variable {X Y : SE} {r : SL} {g : SD} {σ : Sg} {v : V} {vs : List V}
end
noncomputable abbrev wrS (k : V) (O a : List Nat) (l3 l4 : Option V) (hp : List Mine.O) : Sg := ⟨[some k, some (.byt O), some (.str a), l3, l4], hp⟩
noncomputable abbrev wrO : SE := s_call g_opens (s_cons (s_bin .Add (s_rpl 2 4 1 63 [91, 63, 93]) (s_c (.str [42]))) (s_cons (s_loc 3) s_nil))
noncomputable abbrev wrT : ST := s_and (s_cmp .Lt (s_loc 4) (s_blt .len (s_cons (s_loc 2) s_nil))) (s_and (s_truth wrO) (s_t true))
noncomputable abbrev wrI : SY := y_seq (y_asg 4 (s_bin .Add (s_loc 4) (s_c (.int 1)))) y_nil
noncomputable abbrev wrL : SE := s_list (s_cons (s_loc 4) (s_cons (s_bin .Sub (s_blt .len (s_cons (s_loc 3) s_nil)) (s_loc 4)) s_nil))
noncomputable abbrev wrC : SE := s_lc (s_slc (s_loc 3) (s_loc 4) (s_c .none)) 1 [] (a_name 0) (s_t true) (s_blt .ord (s_cons (s_loc 0) s_nil))
noncomputable abbrev wrX : SE := s_bin .Add (s_loc 1) (s_blt .bytes (s_cons (s_bin .Add wrL wrC) s_nil))
noncomputable abbrev wrB : SY := (y_seq (y_asg 4 (s_c (.int 0)))
 (y_seq (y_while wrT wrI)
 (y_seq (y_asg 1 wrX)
 (y_seq (y_asg 2 (s_loc 3))
 y_nil))))
theorem wr_eq : sem_write = (y_seq (y_asg 1 (s_c (.byt [])))
 (y_seq (y_asg 2 (s_c (.str [])))
 (y_seq (y_for (a_name 3) (s_loc 0) wrB y_nil)
 (y_seq (y_ret (s_loc 1))
 y_nil)))) := rfl
section
variable {k : V} {s : Nat} {O a r : List Nat} {hp : List Mine.O}
theorem wr_o (ha : RowOk a) (hr : r.length ≤ 1000) (hs : s < a.length) : wrO (wrS k O a (some (.str r)) (some (.int s)) hp) = some (.bool (r.take (s + 1) == a.take (s + 1)), wrS k O a (some (.str r)) (some (.int s)) hp) := by
 have fr := ha.front s
 have e0 : s_rpl 2 4 1 63 [91, 63, 93] (wrS k O a (some (.str r)) (some (.int s)) hp) = some (.str (quoteN (a.take (s + 1))), wrS k O a (some (.str r)) (some (.int s)) hp) := by
  unfold s_rpl
  simp only [List.getElem?_cons_succ, List.getElem?_cons_zero]
  rw [if_pos (by rw [ha.len]; decide), show ((s : Int) + 1) = ((s + 1 : Nat) : Int) by rfl, cut_to, rpl_quote fr]
 have lq : (quoteN (a.take (s + 1))).length ≤ 100 := by
  have l1 : (a.take (s + 1)).length ≤ 10 := by rw [List.length_take, ha.len]; exact Nat.min_le_right _ _
  match a.take (s + 1), fr, l1 with
  | c :: t, _, l1 =>
   rw [List.length_cons] at l1
   show ((if c = 63 then [91, 63, 93] else [c]) ++ t).length ≤ 100
   rw [List.length_append]
   split
   ·simp only [List.length_cons, List.length_nil]; lia
   ·simp only [List.length_cons, List.length_nil]; lia
 have e1 := b_ss (x := s_rpl 2 4 1 63 [91, 63, 93]) (y := s_c (.str [42])) (w := [42]) e0 rfl (by rw [List.length_singleton]; exact tB ‹_› (by decide))
 refine call_of (cons_of e1 (cons_of rfl rfl)) ?_
 have := opens_at fr (row := r) hr hp
 rw [List.length_take, Nat.min_eq_left (by assumption)] at this
 exact this
theorem wr_lt (ha : a.length ≤ 1000) : s_cmp .Lt (s_loc 4) (s_blt .len (s_cons (s_loc 2) s_nil)) (wrS k O a (some (.str r)) (some (.int s)) hp) = some (decide (s < a.length), wrS k O a (some (.str r)) (some (.int s)) hp) :=
 cmp_of (v := .int s) rfl (len_str (x := a) rfl ha) (by show some (decide ((s : Int) < (a.length : Int))) = _; rw [decide_eq_decide.mpr (by simp : ((s : Int) < (a.length : Int)) ↔ s < a.length)])
theorem wr_t (ha : RowOk a) (hr : r.length ≤ 1000) (hs : s < comm a r) : wrT (wrS k O a (some (.str r)) (some (.int s)) hp) = some (true, wrS k O a (some (.str r)) (some (.int s)) hp) := by
 have h1 : s < a.length := Nat.lt_of_lt_of_le hs (comm_l a r)
 refine and_t ((wr_lt (by rw [ha.len]; decide)).trans (by rw [decide_eq_true h1])) (and_t (truth_of (wr_o ha hr h1) ?_) rfl)
 show some (r.take (s + 1) == a.take (s + 1)) = some true
 rw [comm_eq a r (s + 1) hs, beq_self_eq_true]
theorem wr_f (ha : a = [] ∨ RowOk a) (hr : r.length ≤ 1000) : wrT (wrS k O a (some (.str r)) (some (.int (comm a r : Nat))) hp) = some (false, wrS k O a (some (.str r)) (some (.int (comm a r : Nat))) hp) := by
 by_cases h1 : comm a r < a.length
 ·rcases ha with rfl | ha
  ·simp at h1
  ·refine and_t ((wr_lt (by rw [ha.len]; decide)).trans (by rw [decide_eq_true h1])) (and_f (truth_of (wr_o ha hr h1) ?_))
   show some (r.take (comm a r + 1) == a.take (comm a r + 1)) = some false
   have := comm_ne a r h1
   rw [show (r.take (comm a r + 1) == a.take (comm a r + 1)) = false by simpa using this]
 ·refine and_f ((wr_lt ?_).trans (by rw [decide_eq_false h1]))
  rcases ha with rfl | ha
  ·exact Nat.zero_le _
  ·rw [ha.len]; decide
theorem wr_wh (ha : a = [] ∨ RowOk a) (hr : r.length ≤ 1000) : ∀ (d s fuel : Nat), s + d = comm a r → d < fuel → whL wrT wrI fuel (wrS k O a (some (.str r)) (some (.int s)) hp) = some (.next, wrS k O a (some (.str r)) (some (.int (comm a r : Nat))) hp)
 | 0, s, fuel + 1, e, _ => by
  rw [Nat.add_zero] at e
  rw [e]
  exact wh_0 (wr_f ha hr)
 | d + 1, s, fuel + 1, e, hf => by
  have ha' : RowOk a := by
   rcases ha with rfl | ha
   ·exfalso
    have : comm [] r = 0 := by cases r <;> rfl
    lia
   ·exact ha
  exact wh_n (wr_t ha' hr (by lia)) (seq_n (asg_of (b_ad (a := s) (b := 1) rfl rfl)) rfl) (wr_wh ha hr d (s + 1) fuel (by lia) (by exact tD ‹_›))
theorem wr_l (hr : r.length ≤ 1000) (hs : s ≤ r.length) : wrL (wrS k O a (some (.str r)) (some (.int s)) hp) = some (.own hp.length, wrS k O a (some (.str r)) (some (.int s)) (hp ++ [.lst (nums [s, r.length - s])])) := by
 have e : s_cons (s_loc 4) (s_cons (s_bin .Sub (s_blt .len (s_cons (s_loc 3) s_nil)) (s_loc 4)) s_nil) (wrS k O a (some (.str r)) (some (.int s)) hp) = some (nums [s, r.length - s], wrS k O a (some (.str r)) (some (.int s)) hp) :=
  cons_of rfl (cons_of (b_sb (len_str (x := r) rfl hr) rfl hs) rfl)
 unfold wrL s_list
 rw [e]
 dsimp only
 rw [if_pos (by show 2 ≤ smallN; decide), new_eq]
theorem wr_c (hr : r.length ≤ 1000) (hs : s ≤ r.length) (hx : ∀ c ∈ r, c < 128) : wrC (wrS k O a (some (.str r)) (some (.int s)) hp) = some (.own hp.length, wrS k O a (some (.str r)) (some (.int s)) (hp ++ [.lst (nums (r.drop s))])) := by
 have e : s_slc (s_loc 3) (s_loc 4) (s_c .none) (wrS k O a (some (.str r)) (some (.int s)) hp) = some (.str (r.drop s), wrS k O a (some (.str r)) (some (.int s)) hp) := by
  rw [← cut_from hs]
  exact sl_str (x := r) (lo := .int s) (hi := .none) rfl rfl rfl rfl rfl hr
 have hd : (r.drop s).all (fun c => decide (c < 128)) = true := List.all_eq_true.mpr fun c m => decide_eq_true (hx c (List.mem_of_mem_drop m))
 have hl : (r.drop s).length ≤ 1000 := by rw [List.length_drop]; lia
 generalize r.drop s = x at *
 have L := lc_ok2 (hp0 := hp) (g := a_name 0) (t := s_t true) (x := s_blt .ord (s_cons (s_loc 0) s_nil)) (fun l => l.length = 1) (p := fun _ => true) (f := fun v => match v with | .str [c] => .int c | v => v) (x.map fun c => V.str [c]) (.fix (x.map fun c => V.str [c])) [] lots (capLoc 1 [] (wrS k O a (some (.str r)) (some (.int s)) hp)) (fun v m l hl hp => by
  obtain ⟨c, _, rfl⟩ := List.mem_map.mp m
  match l, hl with
  | [a], _ => exact ⟨[some (.str [c])], rfl, rfl, rfl, fun _ => rfl⟩) (.inl rfl) rfl (by rw [List.length_map]; unfold lots; exact tB ‹_› (by decide)) (by rw [List.length_map, List.length_nil]; unfold smallN; lia)
 have ft : ∀ l : List V, l.filter (fun _ => true) = l := fun l => List.filter_eq_self.mpr fun _ _ => rfl
 unfold wrC
 rw [lc_of e (show srcOf _ (.str x) = some (.fix (x.map fun c => V.str [c])) from if_pos hd) L]
 simp only [List.nil_append, ft, List.map_map]
 rfl
theorem bytes_of {σ : Sg} {v : V} {l : List Nat} (hl : asList σ v = some (nums l)) (hz : l.length ≤ smallN) (hb : ∀ c ∈ l, c < 256) : bltV σ .bytes [v] = some (.byt l) := by
 show (asList σ v).bind _ = _
 rw [hl]; show (intsOf (nums l)).bind _ = _
 rw [intsOf_nums]
 have ha : (nums l).length ≤ smallN ∧ (l.map fun (n : Nat) => (n : Int)).all (fun n => decide (0 ≤ n) && decide (n < 256)) = true := ⟨by rw [List.length_map]; exact hz, List.all_eq_true.mpr fun n m => by
  obtain ⟨c, hc, rfl⟩ := List.mem_map.mp m
  have := hb c hc
  simp only [Bool.and_eq_true, decide_eq_true_eq]
  lia⟩
 refine (if_pos ha).trans ?_
 rw [List.map_map]
 congr 2
 conv => rhs; rw [← List.map_id l]
 exact List.map_congr_left fun n _ => rfl
theorem wr_x (hr : r.length ≤ 1000) (hs : s ≤ r.length) (hx : ∀ c ∈ r, c < 128) (h1 : s < 256) (h2 : r.length - s < 256) (hO : O.length ≤ 2000) : ∃ X, wrX (wrS k O a (some (.str r)) (some (.int s)) hp) = some (.byt (O ++ (s :: (r.drop s).length :: r.drop s)), wrS k O a (some (.str r)) (some (.int s)) (hp ++ X)) := by
 have ld : (r.drop s).length = r.length - s := List.length_drop ..
 generalize hN : nums [s, r.length - s] = N1
 generalize hM : nums (r.drop s) = N2
 refine ⟨[.lst N1, .lst N2, .lst (N1 ++ N2)], ?_⟩
 have a1 : s_bin .Add wrL wrC (wrS k O a (some (.str r)) (some (.int s)) hp) = some (.own (hp.length + 2), wrS k O a (some (.str r)) (some (.int s)) (hp ++ [.lst N1, .lst N2, .lst (N1 ++ N2)])) := by
  rw [s_bin, wr_l hr hs]
  dsimp only
  rw [wr_c hr hs hx, hN, hM]
  dsimp only
  have z := add_own (σ := wrS k O a (some (.str r)) (some (.int s)) (hp ++ [.lst N1, .lst N2])) (i := hp.length) (j := hp.length + 1) (own_at app0) (own_at app1) (by rw [← hN, ← hM]; simp only [List.length_map, List.length_cons, List.length_nil, ld]; unfold smallN; lia)
  rw [show (hp ++ [Mine.O.lst N1]).length = hp.length + 1 by simp, show (hp ++ [Mine.O.lst N1]) ++ [Mine.O.lst N2] = hp ++ [.lst N1, .lst N2] by simp, z, new_eq]
  simp
 have eN : N1 ++ N2 = nums (s :: (r.drop s).length :: r.drop s) := by rw [← hN, ← hM, ld]; rfl
 have b1 : bltV (wrS k O a (some (.str r)) (some (.int s)) (hp ++ [.lst N1, .lst N2, .lst (N1 ++ N2)])) .bytes [.own (hp.length + 2)] = some (.byt (s :: (r.drop s).length :: r.drop s)) := by
  have o1 : asList (wrS k O a (some (.str r)) (some (.int s)) (hp ++ [.lst N1, .lst N2, .lst (N1 ++ N2)])) (.own (hp.length + 2)) = some (nums (s :: (r.drop s).length :: r.drop s)) := by rw [← eN]; exact own_at (by rw [List.getElem?_append_right (by exact tE _ _)]; simp)
  refine bytes_of o1 (by simp only [List.length_cons, ld]; unfold smallN; exact tB ‹_› (by decide)) fun c hc => ?_
  rcases List.mem_cons.mp hc with rfl | hc
  ·exact h1
  ·rcases List.mem_cons.mp hc with rfl | hc
   ·rw [ld]; exact h2
   ·have := hx c (List.mem_of_mem_drop hc); exact tC ‹_› (by decide)
 unfold wrX
 exact bin_of (v := .byt O) rfl (blt_of (cons_of a1 rfl) b1) (if_pos (by simp only [List.length_cons, ld]; unfold smallN; lia))
end
noncomputable def recsW : List Nat → List (List Nat) → List Rec
 | _, [] => []
 | a, r :: rs => (comm a r, r.drop (comm a r)) :: recsW r rs
theorem wr_one {k : V} {O a r : List Nat} {l4 : Option V} {hp : List Mine.O} (ha : a = [] ∨ RowOk a) (hr : RowOk r) (hO : O.length ≤ 2000) : ∃ X s, wrB (wrS k O a (some (.str r)) l4 hp) = some (.next, wrS k (O ++ encR [(comm a r, r.drop (comm a r))]) r (some (.str r)) (some s) (hp ++ X)) := by
 have lr := hr.len
 have cr := comm_r a r
 obtain ⟨X, e⟩ := wr_x (k := k) (O := O) (a := a) (r := r) (s := comm a r) (hp := hp) (by lia) cr hr.ascii (by lia) (by omega) hO
 refine ⟨X, .int (comm a r : Nat), ?_⟩
 have ee : encR [(comm a r, r.drop (comm a r))] = comm a r :: (r.drop (comm a r)).length :: r.drop (comm a r) := by unfold encR; simp
 rw [ee]
 exact seq_n (σ' := wrS k O a (some (.str r)) (some (.int (0 : Nat))) hp) (asg_of (v := .int (0 : Nat)) (σ1 := wrS k O a (some (.str r)) l4 hp) rfl) (seq_n (wr_wh ha (by lia) (comm a r) 0 lots (Nat.zero_add _) (by unfold lots; lia)) (seq_n (asg_of e) (seq_n (asg_of (v := .str r) (σ1 := wrS k (O ++ (comm a r :: (r.drop (comm a r)).length :: r.drop (comm a r))) a (some (.str r)) (some (.int (comm a r : Nat))) (hp ++ X)) rfl) rfl)))
theorem enc_len1 {a r : List Nat} (hr : RowOk r) : (encR [(comm a r, r.drop (comm a r))]).length ≤ 12 := by
 have := hr.len
 unfold encR
 simp only [List.flatMap_cons, List.flatMap_nil, List.append_nil, List.length_cons, List.length_drop]
 omega
theorem wr_loop {k : V} {H : List Mine.O} : ∀ (rs : List (List Nat)) (src : Src) (fuel : Nat) (O a : List Nat) (l3 l4 : Option V) (X : List Mine.O), SrcIs H src (rs.map .str) → (a = [] ∨ RowOk a) → (∀ r ∈ rs, RowOk r) → O.length + 12 * rs.length ≤ 2000 → rs.length < fuel →
  ∃ a' l3' l4' X', frL (a_name 3) wrB y_nil fuel src (wrS k O a l3 l4 (H ++ X)) = some (.next, wrS k (O ++ encR (recsW a rs)) a' l3' l4' (H ++ X')) := by
 intro rs
 induction rs with
 | nil =>
  intro src fuel O a l3 l4 X hs ha hr hO hf
  cases fuel with
  | zero => cases hf
  | succ fuel =>
   refine ⟨a, l3, l4, X, (fr_end (src_nil hs.more)).trans ?_⟩
   show some (F.next, _) = _
   rw [show encR (recsW a []) = [] from rfl, List.append_nil]
 | cons r rs ih =>
  intro src fuel O a l3 l4 X hs ha hr hO hf
  cases fuel with
  | zero => cases hf
  | succ fuel =>
   obtain ⟨src', hs2, e0⟩ := src_consM hs
   have rr := hr r (List.mem_cons_self ..)
   simp only [List.length_cons] at hO
   obtain ⟨Y, s, e⟩ := wr_one (k := k) (O := O) (a := a) (l4 := l4) (hp := H ++ X) ha rr (by exact Nat.le_of_add_right_le ‹_›)
   rw [List.append_assoc] at e
   obtain ⟨a', l3', l4', X', ih⟩ := ih src' fuel (O ++ encR [(comm a r, r.drop (comm a r))]) r (some (.str r)) (some s) (X ++ Y) hs2 (.inr rr) (fun q m => hr q (List.mem_cons_of_mem _ m)) (by
    rw [List.length_append]
    have := enc_len1 (a := a) rr
    lia) (Nat.lt_of_succ_lt_succ hf)
   rw [List.append_assoc O, ← encR_app] at ih
   exact ⟨a', l3', l4', X', (fr_step (σ₁ := wrS k O a (some (.str r)) l4 (H ++ X)) (e0 _ _) rfl e).trans ih⟩
theorem write_any {v : V} {src : Src} {rows : List (List Nat)} {H : List Mine.O} (hv : ∀ loc, srcOf ⟨loc, H⟩ v = some src) (hs : SrcIs H src (rows.map .str)) (hr : ∀ r ∈ rows, RowOk r) (hn : rows.length ≤ 100) (low : H.all (O.low H.length) = true) : g_write [v] H = some (.byt (encR (recsW [] rows)), H) := by
 obtain ⟨a', l3', l4', X', e⟩ := wr_loop (k := v) rows src lots [] [] none none [] hs (.inl rfl) hr (by rw [List.length_nil]; lia) (by unfold lots; exact tB ‹_› (by decide))
 rw [List.append_nil, List.nil_append] at e
 have run : sem_write ⟨[some v, none, none, none, none], H⟩ = some (.ret (.byt (encR (recsW [] rows))), wrS v (encR (recsW [] rows)) a' l3' l4' (H ++ X')) := by
  rw [wr_eq]
  exact seq_n (σ' := ⟨[some v, some (.byt []), none, none, none], H⟩) (asg_of (v := .byt []) (σ1 := ⟨[some v, none, none, none, none], H⟩) rfl) (seq_n (σ' := wrS v [] [] none none H) (asg_of (v := .str []) (σ1 := ⟨[some v, some (.byt []), none, none, none], H⟩) rfl) (seq_n (for_of (v := v) rfl (hv _) e) (seq_ret rfl)))
 unfold g_write s_def
 rw [if_pos (show [v].length = 1 from rfl), show σ0 [v] 4 H = ⟨[some v, none, none, none, none], H⟩ from rfl, run]
 dsimp only
 unfold leave
 simp only [retV, freeze, frz, V.low, if_true, List.take_left, low]
theorem write_at {k : Nat} {rows : List (List Nat)} {H : List Mine.O} (hk : H[k]? = some (.lst (rows.map .str))) (hr : ∀ r ∈ rows, RowOk r) (hn : rows.length ≤ 100) (low : H.all (O.low H.length) = true) : g_write [.own k] H = some (.byt (encR (recsW [] rows)), H) :=
 write_any (src := .own k 0) (fun _ => by unfold srcOf; dsimp only; rw [hk]) (.inr ⟨k, 0, _, rfl, hk, rfl⟩) hr hn low
theorem write_atL {rows : List (List Nat)} {H : List Mine.O} (hr : ∀ r ∈ rows, RowOk r) (hn : rows.length ≤ 100) (low : H.all (O.low H.length) = true) : g_write [.lst (rows.map .str)] H = some (.byt (encR (recsW [] rows)), H) :=
 write_any (fun _ => rfl) (.inl rfl) hr hn low
end
noncomputable section
theorem sub_of {env : Env} {l cl : List (Str × Addr)} (h : env.cells = l) (hs : cl ⊆ l) : ∀ c ∈ cl, c ∈ env.cells := fun c m => h ▸ hs m
noncomputable def sem_lawA : SY := (y_seq (y_asg 1 (s_list (s_cons (s_c (.int 33188)) (s_cons (s_c (.int 420)) (s_cons (s_c (.int 35309)) s_nil)))))
 (y_seq (y_for (a_name 2) (s_slc (s_loc 0) (s_c .none) (s_c (.int 6))) (y_seq (y_asg 3 (s_bin .Mod (s_loc 2) (s_c (.int 131072))))
 (y_seq (y_expr (s_meth .append (s_loc 1) (s_cons (s_ite (s_cmp .Eq (s_bin .Mod (s_loc 3) (s_c (.int 2))) (s_c (.int 0))) (s_bin .FloorDiv (s_loc 3) (s_c (.int 2))) (s_bin .BitXor (s_idx (s_loc 1) (s_neg (s_c (.int 1)))) (s_bin .Mod (s_bin .FloorDiv (s_loc 3) (s_c (.int 2))) (s_c (.int 512))))) s_nil)))
 y_nil)) y_nil)
 (y_seq (y_asg 4 (s_list s_nil))
 (y_seq (y_asg 5 (s_list s_nil))
 (y_seq (y_for (a_name 6) (s_loc 1) (y_seq (y_if (s_cmp .NotIn (s_call g_row (s_cons (s_loc 6) s_nil)) (s_loc 5)) (y_seq (y_expr (s_meth .append (s_loc 5) (s_cons (s_call g_row (s_cons (s_loc 6) s_nil)) s_nil)))
  (y_seq (y_expr (s_meth .append (s_loc 4) (s_cons (s_call g_filemode (s_cons (s_loc 6) s_nil)) s_nil)))
  y_nil)) y_nil)
 y_nil) y_nil)
 (y_seq (y_asg 7 (s_list (s_cons (s_c (.int 0)) s_nil)))
 (y_seq (y_for (a_name 8) (s_blt .range (s_cons (s_blt .len (s_cons (s_loc 5) s_nil)) s_nil)) (y_seq (y_asg 9 (s_ite (s_cmp .Gt (s_loc 8) (s_c (.int 0))) (s_idx (s_loc 5) (s_bin .Sub (s_loc 8) (s_c (.int 1)))) (s_c (.str []))))
 (y_seq (y_expr (s_meth .append (s_loc 7) (s_cons (s_bin .Add (s_bin .Add (s_idx (s_loc 7) (s_neg (s_c (.int 1)))) (s_c (.int 2))) (s_blt .len (s_cons (s_lc (s_blt .range (s_cons (s_c (.int 1)) (s_cons (s_c (.int 11)) s_nil))) 1 [9, 5, 8] (a_name 0) (s_cmp .NotEq (s_slc (s_idx (s_loc 2) (s_loc 3)) (s_c .none) (s_loc 0)) (s_slc (s_loc 1) (s_c .none) (s_loc 0))) (s_loc 0)) s_nil))) s_nil)))
 y_nil)) y_nil)
 (y_seq (y_asg 10 (s_call g_write (s_cons (s_loc 4) s_nil)))
 y_nil))))))))
set_option maxRecDepth 20000 in
theorem cb_lawA {C : Cx} {n : Nat} {fa : Addr} {cd : Value} (g1 : GL C "_law_row" (.raw (.ref 165))) (f1 : FS C n 165 g_row) (g2 : GL C "filemode" (.raw (.ref 151))) (f2 : FS C n 151 g_filemode) (g3 : GL C "_law_write" (.raw (.ref 177))) (f3 : FS C n 177 g_write) (b_len : BL C "len" (.builtin "len")) (b_range : BL C "range" (.type "range")) (b_sum : BL C "sum" (.builtin "sum")) : ∀ L, CB C n (envOfC "law" (scopeOf (st 43)) L fa cd) ["script", "modes", "x", "y", "rows", "told", "bits", "ends", "k", "ahead", "octets", "cut", "fronts", "laid"] ((bodyOf (st 43)).take 8) sem_lawA := by
 intro L
 have ok : EnvOk (envOfC "law" (scopeOf (st 43)) L fa cd) ["script", "modes", "x", "y", "rows", "told", "bits", "ends", "k", "ahead", "octets", "cut", "fronts", "laid"] := okC (by kernel_rfl) (by decide)
 obtain ⟨b, hb, hc⟩ : ∃ b, (bodyOf (st 43)).take 8 = b ∧ CB C n (envOfC "law" (scopeOf (st 43)) L fa cd) ["script", "modes", "x", "y", "rows", "told", "bits", "ends", "k", "ahead", "octets", "cut", "fronts", "laid"] b sem_lawA := by
  refine ⟨?b, ?h, ?c⟩
  case h => (conv => lhs; whnf)
  case c =>
   unfold sem_lawA
   repeat' first
    | exact cb_fail | exact cy_fail
    | (refine ce_lc (cl := [("told", L + 1), ("k", L + 3), ("ahead", L + 4)]) (nsC := ["size", "ahead", "told", "k"]) ‹_› (folded_plain rfl) ⟨?c1, ?c2, rfl, ?c4, ?c5, ?c6, ?c7, ?c8⟩ ?_ (fun L' ok' => ?_) (fun L' ok' => ?_) (fun L' ok' => ?_); (case c1 => kernel_rfl); (case c2 => decide +kernel); (case c4 => decide +kernel); (case c5 => exact sub_of (l := [("cut", L + 5), ("ahead", L + 4), ("k", L + 3), ("ends", L + 2), ("told", L + 1)]) (by kernel_rfl) (by simp)); (case c6 => simp); (case c7 => decide +kernel); (case c8 => exact ⟨⟨_, rfl, rfl, ne_local (by kernel_rfl), fun L => .inl (by kernel_rfl), by kernel_rfl⟩, ⟨_, rfl, rfl, ne_local (by kernel_rfl), fun L => .inl (by kernel_rfl), by kernel_rfl⟩, ⟨_, rfl, rfl, ne_local (by kernel_rfl), fun L => .inl (by kernel_rfl), by kernel_rfl⟩, trivial⟩))
    | refine ci_one ?_
    | trivial
 rw [hb]; exact hc
end
noncomputable section
noncomputable abbrev vInts (xs : List Int) : List V := xs.map V.int
noncomputable abbrev txts (l : List (List Nat)) : List V := l.map V.str
section
variable {g : SA} {b : SY} {vs : List V}
theorem own_loop {k : Nat} (I : Nat → Sg → Prop) (hk : ∀ i σ, I i σ → σ.hp[k]? = some (.lst vs)) (turn : ∀ i v σ, vs[i]? = some v → I i σ → ∃ σ1 σ2, g v σ = some σ1 ∧ b σ1 = some (.next, σ2) ∧ I (i + 1) σ2) :
  ∀ (d i fuel : Nat) (σ : Sg), i + d = vs.length → d < fuel → I i σ → ∃ σ', frL g b y_nil fuel (.own k i) σ = some (.next, σ') ∧ I vs.length σ'
 | 0, i, fuel + 1, σ, e, hf, hi => by
  rw [Nat.add_zero] at e
  refine ⟨σ, ?_, e ▸ hi⟩
  have sn : Src.next σ (.own k i) = some none := by
   unfold Src.next
   dsimp only
   rw [hk i σ hi]
   dsimp only
   rw [e, List.getElem?_eq_none (Nat.le_refl _)]
  exact fr_end sn
 | d + 1, i, fuel + 1, σ, e, hf, hi => by
  obtain ⟨v, hv⟩ : ∃ v, vs[i]? = some v := ⟨vs[i], List.getElem?_eq_getElem (by lia)⟩
  obtain ⟨σ1, σ2, e1, e2, h2⟩ := turn i v σ hv hi
  obtain ⟨σ', e3, h3⟩ := own_loop I hk turn d (i + 1) fuel σ2 (by lia) (by exact tD ‹_›) h2
  refine ⟨σ', ?_, h3⟩
  have sn : Src.next σ (.own k i) = some (some (v, .own k (i + 1))) := by
   unfold Src.next
   dsimp only
   rw [hk i σ hi]
   dsimp only
   rw [hv]
  exact (fr_step sn e1 e2).trans e3
theorem fix_loop (I : Nat → Sg → Prop) (turn : ∀ i v σ, vs[i]? = some v → I i σ → ∃ σ1 σ2, g v σ = some σ1 ∧ b σ1 = some (.next, σ2) ∧ I (i + 1) σ2) :
  ∀ (d i fuel : Nat) (σ : Sg), i + d = vs.length → d < fuel → I i σ → ∃ σ', frL g b y_nil fuel (.fix (vs.drop i)) σ = some (.next, σ') ∧ I vs.length σ'
 | 0, i, fuel + 1, σ, e, hf, hi => by
  rw [Nat.add_zero] at e
  refine ⟨σ, ?_, e ▸ hi⟩
  rw [e, List.drop_length]
  rfl
 | d + 1, i, fuel + 1, σ, e, hf, hi => by
  have hv : vs[i]? = some vs[i] := List.getElem?_eq_getElem (by lia)
  obtain ⟨σ1, σ2, e1, e2, h2⟩ := turn i _ σ hv hi
  obtain ⟨σ', e3, h3⟩ := fix_loop I turn d (i + 1) fuel σ2 (by lia) (by exact tD ‹_›) h2
  refine ⟨σ', ?_, h3⟩
  rw [List.drop_eq_getElem_cons (by lia)]
  exact for_n e1 e2 e3
end
theorem range_vs : ∀ (n : Nat) (a : Nat), rangeVs (a : Int) n = nums (List.range' a n)
 | 0, _ => rfl
 | n + 1, a => by
  rw [rangeVs, List.range'_succ, show (a : Int) + 1 = ((a + 1 : Nat) : Int) by rfl, range_vs n (a + 1)]; rfl
section
variable {X Y : SE} {T : ST} {σ σ1 : Sg} {v w : V} {vs : List V} {k i : Nat}
theorem ite_t (h : T σ = some (true, σ)) (hx : X σ = some (v, σ)) : s_ite T X Y σ = some (v, σ) := by unfold s_ite; rw [h]; exact hx
theorem ite_f (h : T σ = some (false, σ)) (hy : Y σ = some (v, σ)) : s_ite T X Y σ = some (v, σ) := by unfold s_ite; rw [h]; exact hy
theorem idx_own (hk : σ.hp[k]? = some (.lst vs)) (hi : vs[i]? = some v) (hz : vs.length ≤ 1000) : idxV σ (.own k) (.int (i : Int)) = some v := by
 have li := (List.getElem?_eq_some_iff.mp hi).1
 rw [idxV_own hk, if_pos (by exact tG _), if_pos (by omega), show (i : Int).toNat = i from rfl, hi]
theorem app_own {ex : List O} (hX : X σ = some (.own k, σ)) (hk : σ.hp[k]? = some (.lst vs)) (hY : Y σ = some (v, σ1)) (hk1 : σ1.hp[k]? = some (.lst vs)) (hz : vs.length ≤ 1000) : y_expr (s_meth .append X (s_cons Y s_nil)) σ = some (.next, σ1.setO k (.lst (vs ++ [v]))) := by
 exact expr_of (meth_own hX (by unfold s_cons; rw [hY]; rfl) hk (app_of hk1 (tA hz (by decide))))
theorem len_own (hX : X σ = some (.own k, σ1)) (hk : σ1.hp[k]? = some (.lst vs)) (hz : vs.length ≤ 1000) : s_blt .len (s_cons X s_nil) σ = some (.int vs.length, σ1) := by
 refine blt_of (cons_of hX rfl) ?_
 show (asList σ1 (.own k)).bind _ = _
 rw [asList_own hk]; exact if_pos (tA hz (by decide))
theorem bor_nat (a b : Nat) : Builtin.bitOr (a : Int) (b : Int) = ((a ||| b : Nat) : Int) := by
 have n : ∀ c : Nat, decide (0 ≤ Builtin.bitNot (c : Int)) = false := fun c => decide_eq_false (by unfold Builtin.bitNot; simp +arith)
 have m : ∀ c : Int, Builtin.bitNot (Builtin.bitNot c) = c := fun c => by unfold Builtin.bitNot; simp +arith
 unfold Builtin.bitOr Builtin.bitAnd
 rw [n, n]
 dsimp only
 rw [m, m, m]
 rfl
noncomputable def xorN (a b : Nat) : Nat := (a ||| b) - (a &&& b)
theorem bx_nat {a b : Nat} (hx : X σ = some (.int a, σ)) (hy : Y σ = some (.int b, σ)) : s_bin .BitXor X Y σ = some (.int (xorN a b : Nat), σ) := by
 unfold s_bin
 rw [hx]; dsimp only; rw [hy]
 show some (V.int (Builtin.bitOr (a : Int) (b : Int) - Builtin.bitAnd (a : Int) (b : Int)), σ) = _
 have h1 : a &&& b ≤ a ||| b := Nat.le_trans Nat.and_le_left Nat.left_le_or
 have h2 : Builtin.bitAnd (a : Int) (b : Int) = ((a &&& b : Nat) : Int) := bitAnd_nat a b
 rw [bor_nat, h2, show ((a ||| b : Nat) : Int) - ((a &&& b : Nat) : Int) = (xorN a b : Nat) by unfold xorN; lia]
theorem xor_lt {a b : Nat} (ha : a < 65536) (hb : b < 65536) : xorN a b < 65536 := by
 have := Nat.or_lt_two_pow (n := 16) ha hb
 unfold xorN; exact tB (tF _ _) ‹_›
end
end
noncomputable section
noncomputable def yOf (x : Int) : Nat := (x.fmod 131072).toNat
noncomputable def stepM (ms : List Nat) (x : Int) : List Nat := ms ++ [if yOf x % 2 = 0 then yOf x / 2 else xorN (ms.getLastD 0) (yOf x / 2 % 512)]
noncomputable def modesN (xs : List Int) : List Nat := xs.foldl stepM [33188, 420, 35309]
noncomputable def addR (T : List (List Nat)) (m : Nat) : List (List Nat) := if T.contains (rowN m) then T else T ++ [rowN m]
noncomputable def toldN (ms : List Nat) : List (List Nat) := ms.foldl addR []
theorem y_eq (x : Int) : x.fmod 131072 = (yOf x : Int) ∧ yOf x < 131072 := by
 unfold yOf
 rw [Int.fmod_eq_emod_of_nonneg _ (by decide)]
 lia
theorem modes_snoc (xs : List Int) (x : Int) : modesN (xs ++ [x]) = stepM (modesN xs) x := by unfold modesN; rw [List.foldl_append]; rfl
theorem getLastD_mem {l : List Nat} (h : 1 ≤ l.length) : l.getLastD 0 ∈ l := by
 cases l with
 | nil => simp at h
 | cons a r => rw [List.getLastD_cons]; cases r with
  | nil => simp
  | cons b r => rw [List.getLastD_cons]; exact List.mem_cons_of_mem _ (by
    have : ∀ (r : List Nat) (b : Nat), r.getLastD b ∈ b :: r := by
     intro r
     induction r with
     | nil => intro b; simp
     | cons c r ih => intro b; rw [List.getLastD_cons]; exact List.mem_cons_of_mem _ (ih c)
    exact this r b)
theorem modes_ok' : ∀ (xs ys : List Int), (∀ m ∈ modesN ys, m < 65536) ∧ (modesN ys).length = 3 + ys.length → (∀ m ∈ modesN (ys ++ xs), m < 65536) ∧ (modesN (ys ++ xs)).length = 3 + (ys ++ xs).length
 | [], ys, h => by rw [List.append_nil]; exact h
 | x :: xs, ys, h => by
  have e : ys ++ x :: xs = (ys ++ [x]) ++ xs := by simp
  rw [e]
  refine modes_ok' xs (ys ++ [x]) ?_
  rw [modes_snoc]
  refine ⟨fun m hm => ?_, by unfold stepM; simp only [List.length_append, List.length_singleton]; lia⟩
  rcases List.mem_append.mp hm with hm | hm
  ·exact h.1 m hm
  ·rw [List.mem_singleton.mp hm]
   have := (y_eq x).2
   split
   ·lia
   ·exact xor_lt (h.1 _ (getLastD_mem (by lia))) (by omega)
theorem modes_ok (xs : List Int) : (∀ m ∈ modesN xs, m < 65536) ∧ (modesN xs).length = 3 + xs.length := modes_ok' xs [] ⟨by decide, rfl⟩
theorem modes_last (xs : List Int) : (nums (modesN xs)).getLast? = some (.int ((modesN xs).getLastD 0 : Nat)) := by
 have := (modes_ok xs).2
 cases h : modesN xs with
 | nil => rw [h] at this; simp at this; lia
 | cons a r => rw [List.getLast?_map, List.getLast?_cons, List.getLastD_cons, List.getLastD_eq_getLast?]; rfl
theorem nums_snoc (l : List Nat) (a : Nat) : nums (l ++ [a]) = nums l ++ [.int (a : Nat)] := by simp
noncomputable abbrev lw0 (sc : V) (hp : List O) : Sg := ⟨[some sc, none, none, none, none, none, none, none, none, none, none, none, none, none], hp⟩
noncomputable abbrev lw1 (sc : V) (x y : Option V) (hp : List O) : Sg := ⟨[some sc, some (.own 0), x, y, none, none, none, none, none, none, none, none, none, none], hp⟩
noncomputable abbrev lwB1 : SY := (y_seq (y_asg 3 (s_bin .Mod (s_loc 2) (s_c (.int 131072))))
 (y_seq (y_expr (s_meth .append (s_loc 1) (s_cons (s_ite (s_cmp .Eq (s_bin .Mod (s_loc 3) (s_c (.int 2))) (s_c (.int 0))) (s_bin .FloorDiv (s_loc 3) (s_c (.int 2))) (s_bin .BitXor (s_idx (s_loc 1) (s_neg (s_c (.int 1)))) (s_bin .Mod (s_bin .FloorDiv (s_loc 3) (s_c (.int 2))) (s_c (.int 512))))) s_nil)))
 y_nil))
noncomputable abbrev lwE1 : SE := s_ite (s_cmp .Eq (s_bin .Mod (s_loc 3) (s_c (.int 2))) (s_c (.int 0))) (s_bin .FloorDiv (s_loc 3) (s_c (.int 2))) (s_bin .BitXor (s_idx (s_loc 1) (s_neg (s_c (.int 1)))) (s_bin .Mod (s_bin .FloorDiv (s_loc 3) (s_c (.int 2))) (s_c (.int 512))))
theorem lw_e1 {sc : V} {x : Option V} {y : Nat} {xs : List Int} {X : List O} (hz : xs.length ≤ 100) : lwE1 (lw1 sc x (some (.int (y : Nat))) (.lst (nums (modesN xs)) :: X)) = some (.int ((if y % 2 = 0 then y / 2 else xorN ((modesN xs).getLastD 0) (y / 2 % 512) : Nat) : Int), lw1 sc x (some (.int (y : Nat))) (.lst (nums (modesN xs)) :: X)) := by
 generalize hS : lw1 sc x (some (.int (y : Nat))) (.lst (nums (modesN xs)) :: X) = S
 have l3 : s_loc 3 S = some (.int (y : Nat), S) := by subst hS; rfl
 have l1 : s_loc 1 S = some (.own 0, S) := by subst hS; rfl
 have c2 : s_c (.int 2) S = some (.int (2 : Nat), S) := rfl
 have c512 : s_c (.int 512) S = some (.int (512 : Nat), S) := rfl
 have t0 : s_cmp .Eq (s_bin .Mod (s_loc 3) (s_c (.int 2))) (s_c (.int 0)) S = some (y % 2 == 0, S) :=
  cmp_of (b_md l3 (by decide) c2) (w := .int (0 : Nat)) rfl (by show some (((y % 2 : Nat) : Int) == ((0 : Nat) : Int)) = _; rw [nat_eqb])
 by_cases h : y % 2 = 0
 ·rw [if_pos h]
  exact ite_t (t0.trans (by rw [h]; rfl)) (b_fd l3 (by decide) (by decide) c2)
 ·rw [if_neg h]
  refine ite_f (t0.trans (by rw [show (y % 2 == 0) = false by simpa using h])) (bx_nat (s_idx_of (v := .int (-1)) l1 (by subst hS; rfl) ?_) (b_md (b_fd l3 (by decide) (by decide) c2) (by decide) c512))
  have := (modes_ok xs).2
  exact idx_end (vs := nums (modesN xs)) (by subst hS; rfl) (modes_last xs) (by rw [List.length_map]; lia)
theorem lw_st1 {xs : List Int} (hz : xs.length ≤ 1000) : ∃ x y, y_seq (y_asg 1 (s_list (s_cons (s_c (.int 33188)) (s_cons (s_c (.int 420)) (s_cons (s_c (.int 35309)) s_nil))))) (y_seq (y_for (a_name 2) (s_slc (s_loc 0) (s_c .none) (s_c (.int 6))) lwB1 y_nil) y_nil) (lw0 (.lst (vInts xs)) []) = some (.next, lw1 (.lst (vInts xs)) x y [.lst (nums (modesN (xs.take 6))), .lst (vInts (xs.take 6))]) := by
 have e0 : y_asg 1 (s_list (s_cons (s_c (.int 33188)) (s_cons (s_c (.int 420)) (s_cons (s_c (.int 35309)) s_nil)))) (lw0 (.lst (vInts xs)) []) = some (.next, lw1 (.lst (vInts xs)) none none [.lst (nums (modesN []))]) := rfl
 have e1 : s_slc (s_loc 0) (s_c .none) (s_c (.int 6)) (lw1 (.lst (vInts xs)) none none [.lst (nums (modesN []))]) = some (.own 1, lw1 (.lst (vInts xs)) none none [.lst (nums (modesN [])), .lst (vInts (xs.take 6))]) := by
  have : s_slc (s_loc 0) (s_c .none) (s_c (.int 6)) (lw1 (.lst (vInts xs)) none none [.lst (nums (modesN []))]) = (if (vInts xs).length ≤ smallN then some (Sg.new (lw1 (.lst (vInts xs)) none none [.lst (nums (modesN []))]) (cut (vInts xs) none (some ((6 : Nat) : Int)))) else none) := rfl
  rw [this, if_pos (by rw [List.length_map]; unfold smallN; exact tA ‹_› (by decide)), cut_to, ← List.map_take]
  rfl
 have l6 : (xs.take 6).length ≤ 6 := by rw [List.length_take]; exact Nat.min_le_left _ _
 generalize hsc : V.lst (vInts xs) = sc at *
 generalize xs.take 6 = ys at *
 obtain ⟨σ', e2, x, y, h2⟩ := own_loop (g := a_name 2) (b := lwB1) (vs := vInts ys) (k := 1) (fun i σ => ∃ x y, σ = lw1 sc x y [.lst (nums (modesN (ys.take i))), .lst (vInts ys)]) (by rintro i σ ⟨x, y, rfl⟩; rfl) (by
  rintro i v σ hv ⟨x, y, rfl⟩
  obtain ⟨z, hz', rfl⟩ : ∃ z, ys[i]? = some z ∧ v = .int z := by
   rw [List.getElem?_map] at hv
   cases h : ys[i]? with
   | none => rw [h] at hv; cases hv
   | some z => rw [h] at hv; exact ⟨z, rfl, (Option.some.inj hv).symm⟩
  have li := (List.getElem?_eq_some_iff.mp hz').1
  have tk : ys.take (i + 1) = ys.take i ++ [z] := by rw [List.take_add_one, hz']; rfl
  refine ⟨lw1 sc (some (.int z)) y [.lst (nums (modesN (ys.take i))), .lst (vInts ys)], lw1 sc (some (.int z)) (some (.int (yOf z : Nat))) [.lst (nums (modesN (ys.take (i + 1)))), .lst (vInts ys)], rfl, ?_, _, _, rfl⟩
  have ey : y_asg 3 (s_bin .Mod (s_loc 2) (s_c (.int 131072))) (lw1 sc (some (.int z)) y [.lst (nums (modesN (ys.take i))), .lst (vInts ys)]) = some (.next, lw1 sc (some (.int z)) (some (.int (yOf z : Nat))) [.lst (nums (modesN (ys.take i))), .lst (vInts ys)]) := by
   refine asg_of (v := .int (yOf z : Nat)) (σ1 := lw1 sc (some (.int z)) y [.lst (nums (modesN (ys.take i))), .lst (vInts ys)]) ?_
   rw [← (y_eq z).1]
   rfl
  have lt : (ys.take i).length ≤ 100 := by rw [List.length_take]; lia
  refine seq_n ey (seq_n (app_own (ex := []) (k := 0) (vs := nums (modesN (ys.take i))) rfl rfl (lw_e1 lt) rfl (by rw [List.length_map, (modes_ok _).2]; lia)) ?_)
  rw [tk, modes_snoc]
  unfold stepM
  rw [nums_snoc]
  rfl) ys.length 0 lots (lw1 sc none none [.lst (nums (modesN [])), .lst (vInts ys)]) (by simp) (by unfold lots; exact tB ‹_› (by decide)) ⟨none, none, rfl⟩
 refine ⟨x, y, seq_n e0 (seq_n (σ' := lw1 sc x y [.lst (nums (modesN ys)), .lst (vInts ys)]) ?_ rfl)⟩
 refine for_of (src := .own 1 0) e1 rfl ?_
 rw [e2, h2, List.length_map, List.take_length]
noncomputable abbrev lw2 (sc : V) (x y bits : Option V) (hp : List O) : Sg := ⟨[some sc, some (.own 0), x, y, some (.own 2), some (.own 3), bits, none, none, none, none, none, none, none], hp⟩
noncomputable abbrev lwB2 : SY := (y_seq (y_if (s_cmp .NotIn (s_call g_row (s_cons (s_loc 6) s_nil)) (s_loc 5)) (y_seq (y_expr (s_meth .append (s_loc 5) (s_cons (s_call g_row (s_cons (s_loc 6) s_nil)) s_nil)))
  (y_seq (y_expr (s_meth .append (s_loc 4) (s_cons (s_call g_filemode (s_cons (s_loc 6) s_nil)) s_nil)))
  y_nil)) y_nil)
 y_nil)
theorem addR_ok : ∀ (ms : List Nat) (T : List (List Nat)), (ms.foldl addR T).length ≤ T.length + ms.length
 | [], T => Nat.le_refl _
 | m :: ms, T => by
  have := addR_ok ms (addR T m)
  have l : (addR T m).length ≤ T.length + 1 := by unfold addR; split <;> simp
  rw [List.foldl_cons, List.length_cons]
  lia
theorem lw_b2 {sc : V} {x y : Option V} {m : Nat} {T : List (List Nat)} {A B : O} (hm : m < 65536) (hT : T.length ≤ 100) : lwB2 (lw2 sc x y (some (.int (m : Nat))) [A, B, .lst (txts T), .lst (txts T)]) = some (.next, lw2 sc x y (some (.int (m : Nat))) [A, B, .lst (txts (addR T m)), .lst (txts (addR T m))]) := by
 have r (hp : List O) : s_call g_row (s_cons (s_loc 6) s_nil) (lw2 sc x y (some (.int (m : Nat))) hp) = some (.str (rowN m), lw2 sc x y (some (.int (m : Nat))) hp) := call_of (cons_of rfl rfl) (row_at m hm _)
 have f (hp : List O) : s_call g_filemode (s_cons (s_loc 6) s_nil) (lw2 sc x y (some (.int (m : Nat))) hp) = some (.str (rowN m), lw2 sc x y (some (.int (m : Nat))) hp) := call_of (cons_of rfl rfl) (fm_at m hm _)
 have t : s_cmp .NotIn (s_call g_row (s_cons (s_loc 6) s_nil)) (s_loc 5) (lw2 sc x y (some (.int (m : Nat))) [A, B, .lst (txts T), .lst (txts T)]) = some (!T.contains (rowN m), lw2 sc x y (some (.int (m : Nat))) [A, B, .lst (txts T), .lst (txts T)]) := by
  refine cmp_of (r _) (w := .own 3) rfl ?_
  show (strsOf (txts T)).map (fun xs => !xs.any (· == rowN m)) = _
  rw [strs_of]
  show some (!T.any (· == rowN m)) = _
  rw [List.contains_eq_any_beq]
  congr 2
  rw [Bool.eq_iff_iff, List.any_eq_true, List.any_eq_true]
  constructor
  ·rintro ⟨a, h1, h2⟩; exact ⟨a, h1, by rw [beq_iff_eq] at h2 ⊢; exact h2.symm⟩
  ·rintro ⟨a, h1, h2⟩; exact ⟨a, h1, by rw [beq_iff_eq] at h2 ⊢; exact h2.symm⟩
 cases h : T.contains (rowN m) with
 | true =>
  have ea : addR T m = T := by unfold addR; rw [if_pos h]
  rw [ea]
  exact seq_n (if_f (t.trans (by rw [h]; rfl)) rfl) rfl
 | false =>
  have ea : addR T m = T ++ [rowN m] := by unfold addR; rw [if_neg (by rw [h]; decide)]
  rw [ea, show txts (T ++ [rowN m]) = txts T ++ [.str (rowN m)] by simp]
  have hz : (txts T).length ≤ 1000 := by rw [List.length_map]; exact tA ‹_› (by decide)
  exact seq_n (if_t (t.trans (by rw [h]; rfl)) (seq_n (app_own (ex := []) (k := 3) (vs := txts T) rfl rfl (r _) rfl hz) (seq_n (app_own (ex := []) (k := 2) (vs := txts T) rfl rfl (f _) rfl hz) rfl))) rfl
theorem lw_st2 {sc : V} {x y : Option V} {ms : List Nat} {B : O} (hm : ∀ m ∈ ms, m < 65536) (hz : ms.length ≤ 50) : ∃ bits, y_seq (y_asg 4 (s_list s_nil)) (y_seq (y_asg 5 (s_list s_nil)) (y_seq (y_for (a_name 6) (s_loc 1) lwB2 y_nil) y_nil)) (lw1 sc x y [.lst (nums ms), B]) = some (.next, lw2 sc x y bits [.lst (nums ms), B, .lst (txts (toldN ms)), .lst (txts (toldN ms))]) := by
 obtain ⟨σ', e2, bits, h2⟩ := own_loop (g := a_name 6) (b := lwB2) (vs := nums ms) (k := 0) (fun i σ => ∃ bits, σ = lw2 sc x y bits [.lst (nums ms), B, .lst (txts (toldN (ms.take i))), .lst (txts (toldN (ms.take i)))]) (by rintro i σ ⟨b, rfl⟩; rfl) (by
  rintro i v σ hv ⟨b, rfl⟩
  obtain ⟨z, hz', rfl⟩ : ∃ z, ms[i]? = some z ∧ v = .int (z : Nat) := by
   rw [List.getElem?_map] at hv
   cases h : ms[i]? with
   | none => rw [h] at hv; cases hv
   | some z => rw [h] at hv; exact ⟨z, rfl, (Option.some.inj hv).symm⟩
  have tk : ms.take (i + 1) = ms.take i ++ [z] := by rw [List.take_add_one, hz']; rfl
  have et : toldN (ms.take (i + 1)) = addR (toldN (ms.take i)) z := by rw [tk]; unfold toldN; rw [List.foldl_append]; rfl
  refine ⟨_, _, rfl, ?_, some (.int (z : Nat)), rfl⟩
  rw [et]
  refine lw_b2 (hm z (List.mem_of_getElem? hz')) ?_
  have := addR_ok (ms.take i) []
  rw [List.length_take, List.length_nil] at this
  unfold toldN
  lia) ms.length 0 lots (lw2 sc x y none [.lst (nums ms), B, .lst (txts (toldN [])), .lst (txts (toldN []))]) (by simp) (by unfold lots; exact tB ‹_› (by decide)) ⟨none, rfl⟩
 refine ⟨bits, seq_n (σ' := ⟨[some sc, some (.own 0), x, y, some (.own 2), none, none, none, none, none, none, none, none, none], [.lst (nums ms), B, .lst []]⟩) rfl (seq_n (σ' := lw2 sc x y none [.lst (nums ms), B, .lst [], .lst []]) rfl (seq_n (σ' := lw2 sc x y bits [.lst (nums ms), B, .lst (txts (toldN ms)), .lst (txts (toldN ms))]) ?_ rfl))⟩
 refine for_of (v := .own 0) (src := .own 0 0) rfl rfl ?_
 rw [show toldN [] = [] from rfl] at e2
 rw [show txts [] = [] from rfl] at e2
 rw [e2, h2, List.length_map, List.take_length]
end
noncomputable section
theorem take_ne {a r : List Nat} {s : Nat} (hr : r.length = 10) (ha : a = [] ∨ a.length = 10) (h1 : 1 ≤ s) (h2 : s ≤ 10) : (r.take s != a.take s) = decide (comm a r < s) := by
 by_cases h : comm a r < s
 ·rw [decide_eq_true h, bne_iff_ne]
  intro e
  by_cases hl : comm a r < a.length
  ·refine comm_ne a r hl ?_
   have := congrArg (fun l => l.take (comm a r + 1)) e
   simp only [List.take_take] at this
   rwa [Nat.min_eq_left (by assumption)] at this
  ·rcases ha with rfl | ha
   ·have := congrArg List.length e
    simp only [List.length_take, List.length_nil, hr] at this
    lia
   ·have := comm_l a r
    lia
 ·rw [decide_eq_false h, comm_eq a r s (by exact tH ‹_›), bne_self_eq_false]
theorem cnt_ne {a r : List Nat} (hr : r.length = 10) (ha : a = [] ∨ a.length = 10) : ((List.range' 1 10).filter fun s => r.take s != a.take s).length = 10 - comm a r := by
 have c10 : comm a r ≤ 10 := hr ▸ comm_r a r
 have e : (List.range' 1 10).filter (fun s => r.take s != a.take s) = (List.range' 1 10).filter fun s => decide (comm a r < s) := by
  refine List.filter_congr fun s m => take_ne hr ha ?_ ?_
  ·rw [List.mem_range'_1] at m; lia
  ·rw [List.mem_range'_1] at m; lia
 rw [e]
 have t : ∀ c ≤ 10, ((List.range' 1 10).filter fun s => decide (c < s)).length = 10 - c := by decide
 exact t _ c10
theorem recsW_snoc (r : List Nat) : ∀ (rs : List (List Nat)) (a : List Nat), recsW a (rs ++ [r]) = recsW a rs ++ [(comm (rs.getLastD a) r, r.drop (comm (rs.getLastD a) r))]
 | [], a => rfl
 | q :: rs, a => by
  show _ :: recsW q (rs ++ [r]) = _ :: (recsW q rs ++ _)
  rw [recsW_snoc r rs q, List.getLastD_cons]
noncomputable def endsE (T : List (List Nat)) (i : Nat) : Nat := (encR (recsW [] (T.take i))).length
noncomputable def prevN (T : List (List Nat)) (i : Nat) : List Nat := if i = 0 then [] else T.getD (i - 1) []
theorem prev_eq {T : List (List Nat)} {i : Nat} (h : i ≤ T.length) : (T.take i).getLastD [] = prevN T i := by
 unfold prevN
 cases i with
 | zero => rfl
 | succ i =>
  rw [if_neg (by lia), Nat.add_sub_cancel, List.getLastD_eq_getLast?, List.getLast?_eq_getElem?, List.length_take, Nat.min_eq_left h, Nat.add_sub_cancel, List.getElem?_take_of_lt (by simp)]
  rfl
theorem ends_step {T : List (List Nat)} {i : Nat} {r : List Nat} (h : T[i]? = some r) (hr : r.length = 10) : endsE T (i + 1) = endsE T i + 2 + (10 - comm (prevN T i) r) := by
 have li := (List.getElem?_eq_some_iff.mp h).1
 unfold endsE
 rw [List.take_add_one, h]
 show (encR (recsW [] (T.take i ++ [r]))).length = _
 rw [recsW_snoc, prev_eq (by exact tJ ‹_›), encR_app, List.length_append]
 have : (encR [(comm (prevN T i) r, r.drop (comm (prevN T i) r))]).length = 2 + (10 - comm (prevN T i) r) := by
  unfold encR
  simp only [List.flatMap_cons, List.flatMap_nil, List.append_nil, List.length_cons, List.length_drop, hr]
  simp +arith
 lia
noncomputable abbrev lw3 (sc : V) (x y bits k ahead : Option V) (hp : List O) : Sg := ⟨[some sc, some (.own 0), x, y, some (.own 2), some (.own 3), bits, some (.own 4), k, ahead, none, none, none, none], hp⟩
noncomputable abbrev hp3 (ms : List Nat) (B : O) (T : List (List Nat)) (es : List Nat) (X : List O) : List O := .lst (nums ms) :: B :: .lst (txts T) :: .lst (txts T) :: .lst (nums es) :: X
noncomputable def Jk (X : List O) : Prop := ∀ o ∈ X, ∃ l, o = .lst (nums l)
noncomputable abbrev lwA3 : SE := s_ite (s_cmp .Gt (s_loc 8) (s_c (.int 0))) (s_idx (s_loc 5) (s_bin .Sub (s_loc 8) (s_c (.int 1)))) (s_c (.str []))
noncomputable abbrev lwT3 : ST := s_cmp .NotEq (s_slc (s_idx (s_loc 2) (s_loc 3)) (s_c .none) (s_loc 0)) (s_slc (s_loc 1) (s_c .none) (s_loc 0))
noncomputable abbrev lwC3 : SE := s_lc (s_blt .range (s_cons (s_c (.int 1)) (s_cons (s_c (.int 11)) s_nil))) 1 [9, 5, 8] (a_name 0) lwT3 (s_loc 0)
noncomputable abbrev lwV3 : SE := s_bin .Add (s_bin .Add (s_idx (s_loc 7) (s_neg (s_c (.int 1)))) (s_c (.int 2))) (s_blt .len (s_cons lwC3 s_nil))
noncomputable abbrev lwB3 : SY := (y_seq (y_asg 9 lwA3) (y_seq (y_expr (s_meth .append (s_loc 7) (s_cons lwV3 s_nil))) y_nil))
theorem lawA_eq : sem_lawA = (y_seq (y_asg 1 (s_list (s_cons (s_c (.int 33188)) (s_cons (s_c (.int 420)) (s_cons (s_c (.int 35309)) s_nil)))))
 (y_seq (y_for (a_name 2) (s_slc (s_loc 0) (s_c .none) (s_c (.int 6))) lwB1 y_nil)
 (y_seq (y_asg 4 (s_list s_nil))
 (y_seq (y_asg 5 (s_list s_nil))
 (y_seq (y_for (a_name 6) (s_loc 1) lwB2 y_nil)
 (y_seq (y_asg 7 (s_list (s_cons (s_c (.int 0)) s_nil)))
 (y_seq (y_for (a_name 8) (s_blt .range (s_cons (s_blt .len (s_cons (s_loc 5) s_nil)) s_nil)) lwB3 y_nil)
 (y_seq (y_asg 10 (s_call g_write (s_cons (s_loc 4) s_nil))) y_nil)))))))) := rfl
section
variable {sc : V} {x y bits k0 ah : Option V} {ms : List Nat} {B : O} {T : List (List Nat)} {es : List Nat} {X : List O} {i : Nat}
theorem rng_of {X : SE} {σ : Sg} {n : Nat} (h : X σ = some (.int (n : Nat), σ)) : s_blt .range (s_cons X s_nil) σ = some (.rng 0 n, σ) := by
 unfold s_blt s_cons
 rw [h]
 rfl
theorem a3_at {S : Sg} (l8 : s_loc 8 S = some (.int (i : Nat), S)) (l5 : s_loc 5 S = some (.own 3, S)) (hh : S.hp[3]? = some (.lst (txts T))) (hi : i ≤ T.length) (hz : T.length ≤ 100) : lwA3 S = some (.str (prevN T i), S) := by
 have t : s_cmp .Gt (s_loc 8) (s_c (.int 0)) S = some (decide (0 < i), S) :=
  cmp_of (w := .int 0) l8 rfl (by show some (decide ((i : Int) > 0)) = _; rw [decide_eq_decide.mpr (by simp : ((i : Int) > 0) ↔ 0 < i)])
 unfold prevN
 by_cases h : i = 0
 ·subst h
  rw [if_pos rfl]
  exact ite_f t rfl
 ·rw [if_neg h]
  have sb : s_bin .Sub (s_loc 8) (s_c (.int 1)) S = some (.int ((i - 1 : Nat) : Int), S) := b_sb (b := 1) l8 rfl (by lia)
  have gt : (txts T)[i - 1]? = some (.str (T.getD (i - 1) [])) := by
   rw [List.getElem?_map, List.getD_eq_getElem?_getD, List.getElem?_eq_getElem (by lia)]
   rfl
  exact ite_t (t.trans (by rw [decide_eq_true (by lia)])) (s_idx_of l5 sb (idx_own hh gt (by rw [List.length_map]; exact tA ‹_› (by decide))))
theorem lw_a3 (hi : i ≤ T.length) (hz : T.length ≤ 100) : lwA3 (lw3 sc x y bits (some (.int (i : Nat))) ah (hp3 ms B T es X)) = some (.str (prevN T i), lw3 sc x y bits (some (.int (i : Nat))) ah (hp3 ms B T es X)) := a3_at rfl rfl rfl hi hz
theorem add_of {X Y : SE} {σ σ1 : Sg} {a b : Nat} (hx : X σ = some (.int (a : Nat), σ)) (hy : Y σ = some (.int (b : Nat), σ1)) : s_bin .Add X Y σ = some (.int ((a + b : Nat) : Int), σ1) := by
 unfold s_bin
 rw [hx]; dsimp only; rw [hy]
 rfl
theorem last2_at {S : Sg} {e : Nat} (l7 : s_loc 7 S = some (.own 4, S)) (hh : S.hp[4]? = some (.lst (nums es))) (la : (nums es).getLast? = some (.int (e : Nat))) (hz : (nums es).length ≤ 1000) : s_bin .Add (s_idx (s_loc 7) (s_neg (s_c (.int 1)))) (s_c (.int 2)) S = some (.int ((e + 2 : Nat) : Int), S) :=
 b_ad (b := 2) (s_idx_of (v := .int (-1)) l7 rfl (idx_end hh la (tB hz (by decide)))) rfl
theorem t3_at {S : Sg} {r a : List Nat} {s : Nat} (l0 : s_loc 0 S = some (.int (s : Nat), S)) (l1 : s_loc 1 S = some (.str a, S)) (l2 : s_loc 2 S = some (.own 3, S)) (l3 : s_loc 3 S = some (.int (i : Nat), S)) (hh : S.hp[3]? = some (.lst (txts T))) (hr : T[i]? = some r) (hz : T.length ≤ 100) (h1 : r.length ≤ 1000) (h2 : a.length ≤ 1000) : lwT3 S = some (r.take s != a.take s, S) := by
 have i1 : s_idx (s_loc 2) (s_loc 3) S = some (.str r, S) := s_idx_of l2 l3 (idx_own hh (by rw [List.getElem?_map, hr]; rfl) (by rw [List.length_map]; exact tA ‹_› (by decide)))
 have s1 := sl_str (X := s_idx (s_loc 2) (s_loc 3)) (L := s_c .none) (U := s_loc 0) (lo := .none) i1 rfl l0 rfl rfl h1
 have s2 := sl_str (X := s_loc 1) (L := s_c .none) (U := s_loc 0) (lo := .none) l1 rfl l0 rfl rfl h2
 rw [cut_to] at s1 s2
 exact cmp_of (op := .NotEq) s1 s2 rfl
theorem c3_at {S : Sg} {r a : List Nat} (hc : capLoc 1 [9, 5, 8] S = [none, some (.str a), some (.own 3), some (.int (i : Nat))]) (hh : S.hp[3]? = some (.lst (txts T))) (hr : T[i]? = some r) (h10 : r.length = 10) (ha : a = [] ∨ a.length = 10) (hz : T.length ≤ 100) : lwC3 S = some (.own S.hp.length, ⟨S.loc, S.hp ++ [.lst (nums ((List.range' 1 10).filter fun s => r.take s != a.take s))]⟩) := by
 have L := lc_ok2 (hp0 := S.hp) (g := a_name 0) (t := lwT3) (x := s_loc 0) (fun l => ∃ v, l = [v, some (.str a), some (.own 3), some (.int (i : Nat))]) (p := fun v => match v with | .int s => r.take s.toNat != a.take s.toNat | _ => false) (f := fun v => v) (nums (List.range' 1 10)) (.fix (nums (List.range' 1 10))) [] lots (capLoc 1 [9, 5, 8] S) (fun v m l hl acc => by
  obtain ⟨s, ms', rfl⟩ := List.mem_map.mp m
  obtain ⟨v, rfl⟩ := hl
  refine ⟨[some (.int (s : Nat)), some (.str a), some (.own 3), some (.int (i : Nat))], ⟨_, rfl⟩, rfl, ?_, fun _ => rfl⟩
  have hp : (S.hp ++ [O.lst acc])[3]? = some (.lst (txts T)) := by rw [List.getElem?_append_left (List.getElem?_eq_some_iff.mp hh).1]; exact hh
  exact t3_at rfl rfl rfl rfl hp hr hz (by lia) (by rcases ha with rfl | ha; exact Nat.zero_le _; lia)) (.inl rfl) ⟨none, hc⟩ (by decide) (by decide)
 have fe : ([] : List V) ++ ((nums (List.range' 1 10)).filter (fun v => match v with | .int s => r.take s.toNat != a.take s.toNat | _ => false)).map (fun v => v) = nums ((List.range' 1 10).filter fun s => r.take s != a.take s) := by
  rw [List.nil_append, List.map_id']
  unfold nums
  rw [List.filter_map]
  rfl
 rw [fe] at L
 exact lc_of (v := .rng 1 11) (src := .fix (nums (List.range' 1 10))) rfl rfl L
theorem lw_c3 {r a : List Nat} (hr : T[i]? = some r) (h10 : r.length = 10) (ha : a = [] ∨ a.length = 10) (hz : T.length ≤ 100) : ∃ Y, lwC3 (lw3 sc x y bits (some (.int (i : Nat))) (some (.str a)) (hp3 ms B T es X)) = some (.own (hp3 ms B T es X).length, lw3 sc x y bits (some (.int (i : Nat))) (some (.str a)) (hp3 ms B T es (X ++ [.lst (nums Y)]))) ∧ Y.length = 10 - comm a r :=
 ⟨(List.range' 1 10).filter fun s => r.take s != a.take s, c3_at rfl rfl hr h10 ha hz, cnt_ne h10 ha⟩
theorem lw_b3 {r : List Nat} (hr : T[i]? = some r) (h10 : ∀ r ∈ T, r.length = 10) (hz : T.length ≤ 100) : ∃ Y, lwB3 (lw3 sc x y bits (some (.int (i : Nat))) ah (hp3 ms B T ((List.range (i + 1)).map (endsE T)) X)) = some (.next, lw3 sc x y bits (some (.int (i : Nat))) (some (.str (prevN T i))) (hp3 ms B T ((List.range (i + 1 + 1)).map (endsE T)) (X ++ [.lst (nums Y)]))) := by
 have li := (List.getElem?_eq_some_iff.mp hr).1
 have hp : prevN T i = [] ∨ (prevN T i).length = 10 := by
  unfold prevN
  by_cases h : i = 0
  ·rw [if_pos h]; exact .inl rfl
  ·rw [if_neg h, List.getD_eq_getElem?_getD, List.getElem?_eq_getElem (by exact tB (tF _ _) ‹_›)]
   exact .inr (h10 _ (List.getElem_mem _))
 obtain ⟨Y, e, ly⟩ := lw_c3 (sc := sc) (x := x) (y := y) (bits := bits) (ms := ms) (B := B) (es := (List.range (i + 1)).map (endsE T)) (X := X) hr (h10 r (List.mem_of_getElem? hr)) hp hz
 have st := ends_step hr (h10 r (List.mem_of_getElem? hr))
 have ee : (List.range (i + 1 + 1)).map (endsE T) = (List.range (i + 1)).map (endsE T) ++ [endsE T (i + 1)] := by rw [List.range_succ (n := i + 1), List.map_append]; rfl
 have la : (nums ((List.range (i + 1)).map (endsE T))).getLast? = some (.int (endsE T i : Nat)) := by
  rw [List.range_succ, List.map_append, List.map_singleton, nums_snoc, List.getLast?_concat]
 have lz : (nums ((List.range (i + 1)).map (endsE T))).length ≤ 1000 := by rw [List.length_map, List.length_map, List.length_range]; omega
 rw [ee]
 generalize hE : (List.range (i + 1)).map (endsE T) = es at *
 refine ⟨Y, seq_n (asg_of (lw_a3 (by omega) hz)) (seq_n ?_ (?_ : y_nil (lw3 sc x y bits (some (.int (i : Nat))) (some (.str (prevN T i))) (hp3 ms B T (es ++ [endsE T (i + 1)]) (X ++ [.lst (nums Y)]))) = _))⟩
 ·have v1 : s_bin .Add (s_idx (s_loc 7) (s_neg (s_c (.int 1)))) (s_c (.int 2)) (lw3 sc x y bits (some (.int (i : Nat))) (some (.str (prevN T i))) (hp3 ms B T es X)) = some (.int ((endsE T i + 2 : Nat) : Int), lw3 sc x y bits (some (.int (i : Nat))) (some (.str (prevN T i))) (hp3 ms B T es X)) :=
   last2_at rfl rfl la lz
  have v2 := len_own (X := lwC3) (σ := lw3 sc x y bits (some (.int (i : Nat))) (some (.str (prevN T i))) (hp3 ms B T es X)) (vs := nums Y) e (by
   show (hp3 ms B T es X ++ [.lst (nums Y)])[(hp3 ms B T es X).length]? = _
   exact app0) (by rw [List.length_map, ly]; omega)
  have v3 : lwV3 (lw3 sc x y bits (some (.int (i : Nat))) (some (.str (prevN T i))) (hp3 ms B T es X)) = some (.int ((endsE T (i + 1) : Nat) : Int), lw3 sc x y bits (some (.int (i : Nat))) (some (.str (prevN T i))) (hp3 ms B T es (X ++ [.lst (nums Y)]))) := by
   have := add_of v1 v2
   rw [List.length_map, ly, ← st] at this
   exact this
  have := app_own (ex := []) (X := s_loc 7) (Y := lwV3) (k := 4) (vs := nums es) (σ := lw3 sc x y bits (some (.int (i : Nat))) (some (.str (prevN T i))) (hp3 ms B T es X)) rfl rfl v3 rfl lz
  rw [← nums_snoc] at this
  exact this
 ·rfl
theorem lw_st3 (h10 : ∀ r ∈ T, r.length = 10) (hz : T.length ≤ 100) : ∃ k ah X, Jk X ∧ y_seq (y_asg 7 (s_list (s_cons (s_c (.int 0)) s_nil))) (y_seq (y_for (a_name 8) (s_blt .range (s_cons (s_blt .len (s_cons (s_loc 5) s_nil)) s_nil)) lwB3 y_nil) y_nil) (lw2 sc x y bits [.lst (nums ms), B, .lst (txts T), .lst (txts T)]) = some (.next, lw3 sc x y bits k ah (hp3 ms B T ((List.range (T.length + 1)).map (endsE T)) X)) := by
 obtain ⟨σ', e2, k, ah, X, jX, h2⟩ := fix_loop (g := a_name 8) (b := lwB3) (vs := nums (List.range' 0 T.length)) (fun i σ => ∃ k ah X, Jk X ∧ σ = lw3 sc x y bits k ah (hp3 ms B T ((List.range (i + 1)).map (endsE T)) X)) (by
  rintro i v σ hv ⟨k, ah, X, jX, rfl⟩
  obtain ⟨lt, rfl⟩ : i < T.length ∧ v = .int (i : Nat) := by
   rw [List.getElem?_map] at hv
   cases h : (List.range' 0 T.length)[i]? with
   | none => rw [h] at hv; cases hv
   | some z =>
    rw [h] at hv
    have l1 := (List.getElem?_eq_some_iff.mp h).1
    rw [List.length_range'] at l1
    rw [List.getElem?_range' l1] at h
    have : z = i := by have := Option.some.inj h; lia
    subst this
    exact ⟨l1, (Option.some.inj hv).symm⟩
  obtain ⟨Y, e⟩ := lw_b3 (sc := sc) (x := x) (y := y) (bits := bits) (ah := ah) (ms := ms) (B := B) (X := X) (List.getElem?_eq_getElem lt) h10 hz
  refine ⟨_, _, rfl, e, _, _, _, ?_, rfl⟩
  intro o m
  rcases List.mem_append.mp m with m | m
  ·exact jX o m
  ·exact ⟨Y, List.mem_singleton.mp m⟩) T.length 0 lots (lw3 sc x y bits none none (hp3 ms B T ((List.range (0 + 1)).map (endsE T)) [])) (by rw [List.length_map, List.length_range']; exact Nat.add_comm _ _) (by unfold lots; exact tB ‹_› (by decide)) ⟨none, none, [], (by intro o m; cases m), rfl⟩
 rw [List.length_map, List.length_range'] at h2
 refine ⟨k, ah, X, jX, seq_n (σ' := lw3 sc x y bits none none (hp3 ms B T [0] [])) rfl (seq_n (σ' := lw3 sc x y bits k ah (hp3 ms B T ((List.range (T.length + 1)).map (endsE T)) X)) ?_ rfl)⟩
 have er : s_blt .range (s_cons (s_blt .len (s_cons (s_loc 5) s_nil)) s_nil) (lw3 sc x y bits none none (hp3 ms B T [0] [])) = some (.rng 0 T.length, lw3 sc x y bits none none (hp3 ms B T [0] [])) := by
  have l := len_own (X := s_loc 5) (σ := lw3 sc x y bits none none (hp3 ms B T [0] [])) (σ1 := lw3 sc x y bits none none (hp3 ms B T [0] [])) (k := 3) (vs := txts T) rfl rfl (by rw [List.length_map]; exact tA ‹_› (by decide))
  rw [List.length_map] at l
  exact rng_of l
 have es : srcOf (lw3 sc x y bits none none (hp3 ms B T [0] [])) (.rng 0 T.length) = some (.fix (nums (List.range' 0 T.length))) := by
  show (if (-1000000 : Int) ≤ 0 ∧ (0 : Int) ≤ 1000000 ∧ -1000000 ≤ (T.length : Int) ∧ (T.length : Int) ≤ 1000000 then some (Src.fix (rangeVs 0 ((T.length : Int) - 0).toNat)) else none) = _
  rw [if_pos (by lia), show ((T.length : Int) - 0).toNat = T.length by rfl]
  have := range_vs T.length 0
  rw [show ((0 : Nat) : Int) = 0 from rfl] at this
  rw [this]
 refine for_of er es ?_
 rw [List.drop_zero] at e2
 rw [show (hp3 ms B T [0] []) = hp3 ms B T ((List.range (0 + 1)).map (endsE T)) [] from rfl, e2, h2]
end
end
noncomputable section
theorem row_good {m : Nat} (h : m < 65536) : RowOk (rowN m) := by
 obtain ⟨c, r, e, h1, h2⟩ := row_ok m h
 refine ⟨c, r, e, h1, h2, ?_⟩
 have := row_len m
 rw [e, List.length_cons] at this
 lia
theorem told_mem : ∀ (ms : List Nat) (T : List (List Nat)), (∀ m ∈ ms, m < 65536) → (∀ r ∈ T, RowOk r) → T.Nodup → (∀ r ∈ ms.foldl addR T, RowOk r) ∧ (ms.foldl addR T).Nodup
 | [], T, _, h, n => ⟨h, n⟩
 | m :: ms, T, hm, h, n => by
  rw [List.foldl_cons]
  refine told_mem ms (addR T m) (fun x q => hm x (List.mem_cons_of_mem _ q)) ?_ ?_
  ·unfold addR
   split
   ·exact h
   ·intro r q
    rcases List.mem_append.mp q with q | q
    ·exact h r q
    ·rw [List.mem_singleton.mp q]; exact row_good (hm m (List.mem_cons_self ..))
  ·unfold addR
   split
   ·exact n
   ·rename_i hc
    rw [List.nodup_append]
    refine ⟨n, by simp, fun a ha b hb z => hc ?_⟩
    rw [List.mem_singleton.mp hb] at z
    rw [List.contains_iff_mem, ← z]; exact ha
theorem told_ok {ms : List Nat} (hm : ∀ m ∈ ms, m < 65536) : (∀ r ∈ toldN ms, RowOk r) ∧ (toldN ms).Nodup := told_mem ms [] hm (by simp) List.nodup_nil
theorem told_len (ms : List Nat) : (toldN ms).length ≤ ms.length := by have := addR_ok ms []; unfold toldN; simpa using this
theorem told_ne : ∀ (ms : List Nat) (T : List (List Nat)), T ≠ [] → ms.foldl addR T ≠ []
 | [], T, h => h
 | m :: ms, T, h => by
  rw [List.foldl_cons]
  refine told_ne ms _ ?_
  unfold addR
  split
  ·exact h
  ·simp
theorem modes_head : ∀ (xs : List Int) (ms : List Nat), ms ≠ [] → xs.foldl stepM ms ≠ []
 | [], ms, h => h
 | x :: xs, ms, h => by rw [List.foldl_cons]; exact modes_head xs _ (by unfold stepM; simp)
theorem told_ne' (xs : List Int) : toldN (modesN xs) ≠ [] := by
 have h : modesN xs ≠ [] := modes_head xs _ (by decide)
 unfold toldN
 cases e : modesN xs with
 | nil => exact absurd e h
 | cons m ms =>
  rw [List.foldl_cons]
  exact told_ne ms _ (by unfold addR; simp)
theorem nums_low (m : Nat) : ∀ l : List Nat, V.lows m (nums l) = true
 | [] => rfl
 | _ :: l => by
  show (true && V.lows m (nums l)) = true
  rw [nums_low m l]; rfl
theorem vints_low (m : Nat) : ∀ l : List Int, V.lows m (vInts l) = true
 | [] => rfl
 | _ :: l => by
  show (true && V.lows m (vInts l)) = true
  rw [vints_low m l]; rfl
theorem txts_low (m : Nat) : ∀ l : List (List Nat), V.lows m (txts l) = true
 | [] => rfl
 | _ :: l => by
  show (true && V.lows m (txts l)) = true
  rw [txts_low m l]; rfl
theorem jk_low {X : List O} (h : Jk X) (m : Nat) : X.all (O.low m) = true := List.all_eq_true.mpr fun o q => by
 obtain ⟨l, rfl⟩ := h o q
 exact nums_low m l
theorem hp3_low {ms : List Nat} {xs : List Int} {T : List (List Nat)} {es : List Nat} {X : List O} (h : Jk X) (m : Nat) : (hp3 ms (.lst (vInts xs)) T es X).all (O.low m) = true := by
 show (V.lows m (nums ms) && (V.lows m (vInts xs) && (V.lows m (txts T) && (V.lows m (txts T) && (V.lows m (nums es) && X.all (O.low m)))))) = true
 rw [nums_low, vints_low, txts_low, nums_low, jk_low h]; rfl
theorem flat_nums (l : List Nat) : (nums l).all flat = true := List.all_eq_true.mpr fun o q => by obtain ⟨c, _, rfl⟩ := List.mem_map.mp q; rfl
theorem flat_vints (l : List Int) : (vInts l).all flat = true := List.all_eq_true.mpr fun o q => by obtain ⟨c, _, rfl⟩ := List.mem_map.mp q; rfl
theorem flat_txts (l : List (List Nat)) : (txts l).all flat = true := List.all_eq_true.mpr fun o q => by obtain ⟨c, _, rfl⟩ := List.mem_map.mp q; rfl
theorem jk_flat {X : List O} (h : Jk X) : X.all flatO = true := List.all_eq_true.mpr fun o q => by
 obtain ⟨l, rfl⟩ := h o q
 exact flat_nums l
theorem hp3_flat {ms : List Nat} {xs : List Int} {T : List (List Nat)} {es : List Nat} {X : List O} (h : Jk X) : (hp3 ms (.lst (vInts xs)) T es X).all flatO = true := by
 show ((nums ms).all flat && ((vInts xs).all flat && ((txts T).all flat && ((txts T).all flat && ((nums es).all flat && X.all flatO))))) = true
 rw [flat_nums, flat_vints, flat_txts, flat_nums, jk_flat h]; rfl
theorem sq1 {s u : SY} {σ σ' : Sg} (h : y_seq s y_nil σ = some (.next, σ')) : y_seq s u σ = u σ' := by
 unfold y_seq at h ⊢
 cases hs : s σ with
 | none => rw [hs] at h; cases h
 | some p =>
  obtain ⟨f, σ1⟩ := p
  rw [hs] at h
  cases f with
  | next => cases h; rfl
  | brk => cases h
  | ret v => cases h
theorem sq2 {s t u : SY} {σ σ' : Sg} (h : y_seq s (y_seq t y_nil) σ = some (.next, σ')) : y_seq s (y_seq t u) σ = u σ' := by
 unfold y_seq at h
 show (match s σ with | some (.next, σ₁) => y_seq t u σ₁ | r => r) = _
 cases hs : s σ with
 | none => rw [hs] at h; cases h
 | some p =>
  obtain ⟨f, σ1⟩ := p
  rw [hs] at h
  cases f with
  | next => exact sq1 h
  | brk => cases h
  | ret v => cases h
theorem sq3 {s t p u : SY} {σ σ' : Sg} (h : y_seq s (y_seq t (y_seq p y_nil)) σ = some (.next, σ')) : y_seq s (y_seq t (y_seq p u)) σ = u σ' := by
 unfold y_seq at h
 show (match s σ with | some (.next, σ₁) => y_seq t (y_seq p u) σ₁ | r => r) = _
 cases hs : s σ with
 | none => rw [hs] at h; cases h
 | some q =>
  obtain ⟨f, σ1⟩ := q
  rw [hs] at h
  cases f with
  | next => exact sq2 h
  | brk => cases h
  | ret v => cases h
noncomputable abbrev lw4 (sc : V) (x y bits k ahead : Option V) (oct : List Nat) (cut' fr la : Option V) (hp : List O) : Sg := ⟨[some sc, some (.own 0), x, y, some (.own 2), some (.own 3), bits, some (.own 4), k, ahead, some (.byt oct), cut', fr, la], hp⟩
theorem lawA_at {xs : List Int} (hz : xs.length ≤ 1000) : ∃ x y bits k ah X, Jk X ∧ sem_lawA (lw0 (.lst (vInts xs)) []) = some (.next, lw4 (.lst (vInts xs)) x y bits k ah (encR (recsW [] (toldN (modesN (xs.take 6))))) none none none (hp3 (modesN (xs.take 6)) (.lst (vInts (xs.take 6))) (toldN (modesN (xs.take 6))) ((List.range ((toldN (modesN (xs.take 6))).length + 1)).map (endsE (toldN (modesN (xs.take 6))))) X)) := by
 obtain ⟨x, y, e1⟩ := lw_st1 hz
 have l6 : (xs.take 6).length ≤ 6 := by rw [List.length_take]; exact Nat.min_le_left _ _
 obtain ⟨m1, m2⟩ := modes_ok (xs.take 6)
 obtain ⟨bits, e2⟩ := lw_st2 (sc := .lst (vInts xs)) (x := x) (y := y) (B := .lst (vInts (xs.take 6))) m1 (by lia)
 obtain ⟨t1, t2⟩ := told_ok m1
 have tl := told_len (modesN (xs.take 6))
 obtain ⟨k, ah, X, jX, e3⟩ := lw_st3 (sc := .lst (vInts xs)) (x := x) (y := y) (bits := bits) (ms := modesN (xs.take 6)) (B := .lst (vInts (xs.take 6))) (T := toldN (modesN (xs.take 6))) (fun r m => (t1 r m).len) (by lia)
 refine ⟨x, y, bits, k, ah, X, jX, ?_⟩
 rw [lawA_eq, sq2 e1, sq3 e2, sq2 e3]
 refine seq_n (asg_of (v := .byt (encR (recsW [] (toldN (modesN (xs.take 6)))))) (call_of (cons_of rfl rfl) (write_at (k := 2) rfl t1 (by lia) (hp3_low jX _)))) rfl
end
noncomputable section
theorem recsW_len : ∀ (T : List (List Nat)) (a : List Nat), (recsW a T).length = T.length
 | [], _ => rfl
 | r :: T, a => by rw [recsW, List.length_cons, recsW_len T, List.length_cons]
theorem one_back (a r : List Nat) : a.take (comm a r) ++ r.drop (comm a r) = r := by
 rw [← comm_eq a r _ (Nat.le_refl _), List.take_append_drop]
theorem rows_back : ∀ (T : List (List Nat)) (a : List Nat), rowsR a (recsW a T) = T
 | [], _ => rfl
 | r :: T, a => by
  rw [recsW, rowsR]
  dsimp only
  rw [one_back, rows_back T r]
theorem recsW_take : ∀ (T : List (List Nat)) (a : List Nat) (j : Nat), (recsW a T).take j = recsW a (T.take j)
 | [], _, j => by simp [recsW]
 | r :: T, a, 0 => rfl
 | r :: T, a, j + 1 => by rw [recsW, List.take_succ_cons, List.take_succ_cons, recsW, recsW_take T r j]
theorem last_back : ∀ (T : List (List Nat)) (a : List Nat), lastR a (recsW a T) = T.getLastD a
 | [], _ => rfl
 | r :: T, a => by
  rw [recsW, lastR]
  dsimp only
  rw [one_back, last_back T r, List.getLastD_cons]
theorem last_len {T : List (List Nat)} (h : ∀ r ∈ T, r.length = 10) : (T.getLastD []).length ≤ 1000 := by
 rw [List.getLastD_eq_getLast?]
 cases e : T.getLast? with
 | none => exact Nat.zero_le _
 | some r =>
  show r.length ≤ 1000
  rw [h r (List.mem_of_getLast? e)]
  decide
theorem bound_last {T : List (List Nat)} (h : ∀ r ∈ T, r.length = 10) {recs : List Rec} {j : Nat} (e : recs = (recsW [] T).take j) : ∀ ts us, recs = ts ++ us → (lastR [] ts).length ≤ 1000 := by
 intro ts us z
 have : ts = recsW [] ((T.take j).take ts.length) := by
  rw [← recsW_take, ← recsW_take, ← e, z, List.take_left]
 rw [this, last_back]
 exact last_len fun r m => h r (List.mem_of_mem_take (List.mem_of_mem_take m))
theorem bound_rec {T : List (List Nat)} (h : ∀ r ∈ T, r.length = 10) : ∀ (a : List Nat), ∀ r ∈ recsW a T, r.2.length ≤ 1000 := by
 induction T with
 | nil => intro a r m; cases m
 | cons x T ih =>
  intro a r m
  rw [recsW] at m
  rcases List.mem_cons.mp m with rfl | m
  ·dsimp only
   rw [List.length_drop, h x (List.mem_cons_self ..)]; simp +arith
  ·exact ih (fun r m => h r (List.mem_cons_of_mem _ m)) x r m
theorem cut_rec : ∀ (rs : List Rec) (c : Nat), c ≤ (encR rs).length → (∀ r ∈ rs, r.2.length < 1000000) → ∃ j rest, j ≤ rs.length ∧ (encR rs).take c = encR (rs.take j) ++ rest ∧ Bad rest ∧ ∀ i < rs.length, (encR (rs.take (i + 1))).length ≤ c ↔ i < j
 | [], c, h, _ => ⟨0, [], Nat.le_refl _, by simp [encR], .inl rfl, fun i hi => by simp at hi⟩
 | r :: rs, c, h, hb => by
  have eA : encR (r :: rs) = (r.1 :: r.2.length :: r.2) ++ encR rs := rfl
  have lA : (r.1 :: r.2.length :: r.2).length = r.2.length + 2 := by simp
  have eT : ∀ i, (encR ((r :: rs).take (i + 1))).length = r.2.length + 2 + (encR (rs.take i)).length := fun i => by
   rw [List.take_succ_cons, show encR (r :: rs.take i) = (r.1 :: r.2.length :: r.2) ++ encR (rs.take i) from rfl, List.length_append, lA]
  by_cases hc : c < r.2.length + 2
  ·refine ⟨0, (encR (r :: rs)).take c, Nat.zero_le _, rfl, ?_, fun i hi => ?_⟩
   ·rw [eA, List.take_append_of_le_length (by exact tJ ‹_›)]
    match c, hc with
    | 0, _ => exact .inl rfl
    | 1, _ => exact .inr (.inl ⟨r.1, rfl⟩)
    | c + 2, hc =>
     refine .inr (.inr ⟨r.1, r.2.length, r.2.take c, rfl, ?_, hb r (List.mem_cons_self ..)⟩)
     rw [List.length_take]; lia
   ·rw [eT]
    constructor
    ·intro z; lia
    ·intro z; lia
  ·obtain ⟨j, rest, h1, h2, h3, h4⟩ := cut_rec rs (c - (r.2.length + 2)) (by rw [eA, List.length_append, lA] at h; omega) (fun x m => hb x (List.mem_cons_of_mem _ m))
   refine ⟨j + 1, rest, by rw [List.length_cons]; exact Nat.succ_le_succ ‹_›, ?_, h3, fun i hi => ?_⟩
   ·rw [eA, List.take_append, lA, h2, List.take_of_length_le (by exact tH ‹_›), List.take_succ_cons, show encR (r :: rs.take j) = (r.1 :: r.2.length :: r.2) ++ encR (rs.take j) from rfl, List.append_assoc]
   ·rw [eT]
    cases i with
    | zero =>
     constructor
     ·intro _; exact Nat.succ_pos _
     ·intro _; simp [encR]; exact tH ‹_›
    | succ i =>
     have := h4 i (by rw [List.length_cons] at hi; exact tD ‹_›)
     constructor
     ·intro z
      have := this.mp (by omega)
      exact Nat.succ_lt_succ ‹_›
     ·intro z
      have := this.mpr (by exact tD ‹_›)
      omega
theorem pick_take {T : List (List Nat)} {j : Nat} : ∀ n, n ≤ T.length → ((List.range n).filter fun i => decide (i < j)).map (fun i => T.getD i []) = T.take (min j n)
 | 0, _ => by simp
 | n + 1, h => by
  rw [List.range_succ, List.filter_append, List.map_append, pick_take n (by exact tJ ‹_›)]
  by_cases hn : n < j
  ·simp only [List.filter_cons, List.filter_nil, decide_eq_true hn, if_true]
   rw [show min j n = n by lia, show min j (n + 1) = n + 1 by lia, List.take_add_one, List.getElem?_eq_getElem (by assumption)]
   simp [List.getD_eq_getElem?_getD, List.getElem?_eq_getElem (show n < T.length by assumption)]
  ·simp only [List.filter_cons, List.filter_nil, decide_eq_false hn]
   rw [show min j n = j by lia, show min j (n + 1) = j by lia]
   simp
theorem lex_mid : ∀ (n : Nat) (a b c : List Nat), a ≤ b → b ≤ c → n ≤ a.length → n ≤ b.length → n ≤ c.length → a.take n = c.take n → b.take n = c.take n
 | 0, _, _, _, _, _, _, _, _, _ => by simp
 | n + 1, [], _, _, _, _, h, _, _, _ => by simp at h
 | n + 1, _ :: _, [], _, _, _, _, h, _, _ => by simp at h
 | n + 1, _ :: _, _ :: _, [], _, _, _, _, h, _ => by simp at h
 | n + 1, x :: a, y :: b, z :: c, h1, h2, l1, l2, l3, e => by
  rw [List.take_succ_cons, List.take_succ_cons] at e
  have e0 := List.cons.inj e
  have e2 := e0.2
  obtain rfl := e0.1
  rw [List.cons_le_cons_iff] at h1 h2
  have hy : x = y := by
   rcases h1 with h1 | ⟨h1, _⟩
   ·rcases h2 with h2 | ⟨h2, _⟩
    ·lia
    ·lia
   ·exact h1
  subst hy
  have h1' : a ≤ b := by
   rcases h1 with h1 | ⟨_, h1⟩
   ·exact absurd ‹_› (Nat.lt_irrefl _)
   ·exact h1
  have h2' : b ≤ c := by
   rcases h2 with h2 | ⟨_, h2⟩
   ·exact absurd ‹_› (Nat.lt_irrefl _)
   ·exact h2
  simp only [List.length_cons] at l1 l2 l3
  rw [List.take_succ_cons, List.take_succ_cons, lex_mid n a b c h1' h2' (by exact tI ‹_›) (by exact tI ‹_›) (by exact tI ‹_›) e2]
theorem mem_accK (x : List Nat) : ∀ (j : Nat) (K : List (List Nat)) (z : List Nat), z ∈ accK x j K ↔ z ∈ K ∨ ∃ i, 1 ≤ i ∧ i ≤ j ∧ z = x.take i
 | 0, K, z => by
  rw [accK]
  constructor
  ·exact .inl
  ·rintro (h | ⟨i, h1, h2, _⟩)
   ·exact h
   ·lia
 | j + 1, K, z => by
  rw [accK, List.mem_cons, mem_accK x j K z]
  constructor
  ·rintro (h | h | ⟨i, h1, h2, h3⟩)
   ·exact .inr ⟨j + 1, by exact Nat.succ_pos _, by simp, h⟩
   ·exact .inl h
   ·exact .inr ⟨i, h1, by exact Nat.le_succ_of_le ‹_›, h3⟩
  ·rintro (h | ⟨i, h1, h2, h3⟩)
   ·exact .inr (.inl h)
   ·by_cases e : i = j + 1
    ·subst e; exact .inl h3
    ·exact .inr (.inr ⟨i, h1, by lia, h3⟩)
theorem mem_keys' : ∀ (rows : List (List Nat)) (K : List (List Nat)) (z : List Nat), z ∈ rows.foldl (fun K x => accK x 10 K) K ↔ z ∈ K ∨ ∃ r ∈ rows, ∃ i, 1 ≤ i ∧ i ≤ 10 ∧ z = r.take i
 | [], K, z => by simp
 | x :: rows, K, z => by
  rw [List.foldl_cons, mem_keys' rows, mem_accK]
  constructor
  ·rintro ((h | ⟨i, h1, h2, h3⟩) | ⟨r, m, h⟩)
   ·exact .inl h
   ·exact .inr ⟨x, List.mem_cons_self .., i, h1, h2, h3⟩
   ·exact .inr ⟨r, List.mem_cons_of_mem _ m, h⟩
  ·rintro (h | ⟨r, m, h⟩)
   ·exact .inl (.inl h)
   ·rcases List.mem_cons.mp m with rfl | m
    ·exact .inl (.inr h)
    ·exact .inr ⟨r, m, h⟩
theorem mem_keys (rows : List (List Nat)) (z : List Nat) : z ∈ keysOf rows ↔ ∃ r ∈ rows, ∃ i, 1 ≤ i ∧ i ≤ 10 ∧ z = r.take i := by
 unfold keysOf
 rw [mem_keys']
 simp
noncomputable def ddup : List (List Nat) → List (List Nat)
 | [] => []
 | x :: r => if r.contains x then ddup r else x :: ddup r
theorem ddup_len : ∀ K, (ddup K).length = dcnt K
 | [] => rfl
 | x :: r => by
  rw [ddup, dcnt]
  split
  ·exact ddup_len r
  ·rw [List.length_cons, ddup_len r]
theorem ddup_mem : ∀ (K : List (List Nat)) (z : List Nat), z ∈ ddup K ↔ z ∈ K
 | [], z => Iff.rfl
 | x :: r, z => by
  rw [ddup]
  split
  ·rename_i h
   rw [List.contains_iff_mem] at h
   rw [ddup_mem r, List.mem_cons]
   constructor
   ·exact .inr
   ·rintro (rfl | m)
    ·exact h
    ·exact m
  ·rw [List.mem_cons, List.mem_cons, ddup_mem r]
theorem ddup_nodup : ∀ K, (ddup K).Nodup
 | [] => List.nodup_nil
 | x :: r => by
  rw [ddup]
  split
  ·exact ddup_nodup r
  ·rename_i h
   rw [List.contains_iff_mem] at h
   rw [List.nodup_cons, ddup_mem]
   exact ⟨h, ddup_nodup r⟩
theorem dcnt_ext {K K' : List (List Nat)} (h : ∀ z, z ∈ K ↔ z ∈ K') : dcnt K = dcnt K' := by
 rw [← ddup_len, ← ddup_len]
 exact ((List.perm_ext_iff_of_nodup (ddup_nodup K) (ddup_nodup K')).mpr fun z => by rw [ddup_mem, ddup_mem]; exact h z).length_eq
theorem dcnt_perm {T S : List (List Nat)} (h : S.Perm T) : dcnt (keysOf S) = dcnt (keysOf T) := dcnt_ext fun z => by
 rw [mem_keys, mem_keys]
 constructor
 ·rintro ⟨r, m, q⟩; exact ⟨r, h.mem_iff.mp m, q⟩
 ·rintro ⟨r, m, q⟩; exact ⟨r, h.mem_iff.mpr m, q⟩
theorem dcnt_acc {x : List Nat} {K : List (List Nat)} {c : Nat} (hx : x.length = 10) (hK : ∀ i, 1 ≤ i → i ≤ 10 → (x.take i ∈ K ↔ i ≤ c)) : ∀ j, j ≤ 10 → dcnt (accK x j K) = dcnt K + (j - c)
 | 0, _ => by rw [accK, Nat.zero_sub, Nat.add_zero]
 | j + 1, h => by
  have ih := dcnt_acc hx hK j (by exact tJ ‹_›)
  have mm : x.take (j + 1) ∈ accK x j K ↔ j + 1 ≤ c := by
   rw [mem_accK, hK (j + 1) (by exact Nat.succ_pos _) h]
   constructor
   ·rintro (q | ⟨i, h1, h2, h3⟩)
    ·exact q
    ·exfalso
     have := congrArg List.length h3
     rw [List.length_take, List.length_take, hx] at this
     lia
   ·exact .inl
  rw [accK, dcnt]
  by_cases q : j + 1 ≤ c
  ·rw [if_pos (by rw [List.contains_iff_mem]; exact mm.mpr q), ih]
   lia
  ·rw [if_neg (by rw [List.contains_iff_mem]; exact fun z => q (mm.mp z)), ih]
   lia
theorem front_in {S : List (List Nat)} {i : Nat} {x : List Nat} (h10 : ∀ r ∈ S, r.length = 10) (hs : S.Pairwise (· ≤ ·)) (hi : S[i]? = some x) : ∀ k, 1 ≤ k → k ≤ 10 → (x.take k ∈ keysOf (S.take i) ↔ k ≤ comm (prevN S i) x) := by
 intro k k1 k2
 have lt := (List.getElem?_eq_some_iff.mp hi).1
 have xe : S[i] = x := (List.getElem?_eq_some_iff.mp hi).2
 have x10 := h10 x (List.mem_of_getElem? hi)
 rw [mem_keys]
 by_cases h0 : i = 0
 ·subst h0
  unfold prevN
  rw [if_pos rfl]
  constructor
  ·rintro ⟨r, m, _⟩; simp at m
  ·intro h
   have := comm_l [] x
   simp at this
   lia
 ·have pe : prevN S i = S[i - 1] := by
   unfold prevN
   rw [if_neg h0, List.getD_eq_getElem?_getD, List.getElem?_eq_getElem (by exact tB (tF _ _) ‹_›)]; rfl
  have p10 : (S[i - 1]).length = 10 := h10 _ (List.getElem_mem _)
  rw [pe]
  constructor
  ·rintro ⟨r, m, j, j1, j2, e⟩
   obtain ⟨q, hq, rfl⟩ := List.getElem_of_mem m
   rw [List.length_take] at hq
   rw [List.getElem_take] at e
   have r10 : (S[q]'(by lia)).length = 10 := h10 _ (List.getElem_mem _)
   have jk : j = k := by
    have := congrArg List.length e
    rw [List.length_take, List.length_take, x10, r10] at this
    lia
   subst jk
   have le2 : S[i - 1] ≤ x := by
    rw [← xe]
    exact List.pairwise_iff_getElem.mp hs (i - 1) i (by exact tB (tF _ _) ‹_›) lt (by lia)
   have le1 : S[q]'(by lia) ≤ S[i - 1] := by
    by_cases z : q = i - 1
    ·subst z; exact List.le_refl _
    ·exact List.pairwise_iff_getElem.mp hs q (i - 1) (by lia) (by exact tB (tF _ _) ‹_›) (by lia)
   have mid := lex_mid j _ _ _ le1 le2 (by lia) (by omega) (by lia) e.symm
   apply Classical.byContradiction
   intro hc
   refine comm_ne (S[i - 1]) x (by omega) ?_
   have := congrArg (fun l => l.take (comm S[i - 1] x + 1)) mid
   simp only [List.take_take] at this
   rw [Nat.min_eq_left (by omega)] at this
   exact this.symm
  ·intro h
   refine ⟨S[i - 1], ?_, k, k1, k2, comm_eq _ _ k h⟩
   rw [List.mem_take_iff_getElem]
   exact ⟨i - 1, by lia, rfl⟩
theorem ends_cnt {S : List (List Nat)} (h10 : ∀ r ∈ S, r.length = 10) (hs : S.Pairwise (· ≤ ·)) : ∀ i, i ≤ S.length → endsE S i = 2 * i + dcnt (keysOf (S.take i))
 | 0, _ => by simp [endsE, recsW, encR, keysOf, dcnt]
 | i + 1, h => by
  have hi : S[i]? = some S[i] := List.getElem?_eq_getElem (by assumption)
  have x10 : (S[i]).length = 10 := h10 _ (List.getElem_mem _)
  rw [ends_step hi x10, ends_cnt h10 hs i (by exact tJ ‹_›), keys_take hi, dcnt_acc x10 (front_in h10 hs hi) 10 (Nat.le_refl _)]
  simp +arith
theorem laid_len {T : List (List Nat)} (h10 : ∀ r ∈ T, r.length = 10) : (encR (recsW [] (srtN T))).length = 2 * T.length + dcnt (keysOf T) := by
 have pm := srt_perm T
 have := ends_cnt (fun r m => h10 r (pm.mem_iff.mp m)) (srt_le T) (srtN T).length (Nat.le_refl _)
 unfold endsE at this
 rw [List.take_length, dcnt_perm pm, pm.length_eq] at this
 exact this
end
noncomputable section
theorem enc_le : ∀ (T : List (List Nat)) (a : List Nat), (∀ r ∈ T, RowOk r) → (encR (recsW a T)).length ≤ 12 * T.length
 | [], _, _ => Nat.zero_le _
 | r :: T, a, h => by
  have := enc_le T r fun x m => h x (List.mem_cons_of_mem _ m)
  have e : encR (recsW a (r :: T)) = encR [(comm a r, r.drop (comm a r))] ++ encR (recsW r T) := by rw [← encR_app]; rfl
  have := enc_len1 (a := a) (h r (List.mem_cons_self ..))
  rw [e, List.length_append, List.length_cons]
  lia
theorem sum_cast : ∀ l : List Nat, (l.map fun (n : Nat) => (n : Int)).sum = ((l.sum : Nat) : Int)
 | [] => rfl
 | n :: l => by
  rw [List.map_cons, List.sum_cons, List.sum_cons, sum_cast l]
  rfl
section
variable {S : Sg} {X Y : SE} {k : Nat} {T : List (List Nat)} {ms es : List Nat} {oct : List Nat} {cutn : Nat}
theorem len_byt (h : X S = some (.byt oct, S)) (hz : oct.length ≤ 1000) : s_blt .len (s_cons X s_nil) S = some (.int oct.length, S) := blt_of (cons_of h rfl) (if_pos (tA hz (by decide)))
theorem sum_own (h : X S = some (.own k, S)) (hh : S.hp[k]? = some (.lst (nums ms))) : s_blt .sum (s_cons X s_nil) S = some (.int (ms.sum : Nat), S) := by
 refine blt_of (cons_of h rfl) ?_
 show (asList S (.own k)).bind _ = _
 rw [asList_own hh]; show (intsOf (nums ms)).map _ = _
 rw [intsOf_nums]; exact congrArg some (congrArg V.int (sum_cast ms))
theorem v8_at (l10 : s_loc 10 S = some (.byt oct, S)) (l7 : s_loc 7 S = some (.own 4, S)) (hh : S.hp[4]? = some (.lst (nums es))) (la : (nums es).getLast? = some (.int (oct.length : Nat))) (hz : oct.length ≤ 1000) (hz2 : (nums es).length ≤ 1000) :
  s_cmp .NotEq (s_blt .len (s_cons (s_loc 10) s_nil)) (s_idx (s_loc 7) (s_neg (s_c (.int 1)))) S = some (false, S) := by
 refine cmp_of (len_byt l10 hz) (s_idx_of (v := .int (-1)) l7 rfl (idx_end hh la (tB hz2 (by decide)))) ?_
 show some ((oct.length : Int) != (oct.length : Int)) = _
 rw [bne_self_eq_false]
theorem v9_at (l1 : s_loc 1 S = some (.own 0, S)) (l10 : s_loc 10 S = some (.byt oct, S)) (hh : S.hp[0]? = some (.lst (nums ms))) (hz : oct.length ≤ 1000) (hp : 0 < oct.length) : s_bin .Mod (s_bin .Add (s_blt .sum (s_cons (s_loc 1) s_nil)) (s_c (.int 9))) (s_blt .len (s_cons (s_loc 10) s_nil)) S = some (.int (((ms.sum + 9) % oct.length : Nat) : Int), S) :=
 b_md (b_ad (b := 9) (sum_own l1 hh) rfl) hp (len_byt l10 hz)
theorem v10s_at (l10 : s_loc 10 S = some (.byt oct, S)) (l11 : s_loc 11 S = some (.int (cutn : Nat), S)) (hz : oct.length ≤ 1000) : s_slc (s_loc 10) (s_c .none) (s_loc 11) S = some (.byt (oct.take cutn), S) := by
 exact sl_of l10 (v := .none) rfl l11 ((slcV_byt rfl rfl (tA hz (by decide))).trans (by rw [cut_to]))
noncomputable abbrev lwT10 : ST := s_cmp .LtE (s_idx (s_loc 3) (s_bin .Add (s_loc 0) (s_c (.int 1)))) (s_loc 2)
noncomputable abbrev lwC10 : SE := s_lc (s_blt .range (s_cons (s_blt .len (s_cons (s_loc 5) s_nil)) s_nil)) 1 [5, 11, 7] (a_name 0) lwT10 (s_idx (s_loc 1) (s_loc 0))
theorem t10_at {i e : Nat} (l0 : s_loc 0 S = some (.int (i : Nat), S)) (l2 : s_loc 2 S = some (.int (cutn : Nat), S)) (l3 : s_loc 3 S = some (.own 4, S)) (hh : S.hp[4]? = some (.lst (nums es))) (he : es[i + 1]? = some e) (hz : (nums es).length ≤ 1000) : lwT10 S = some (decide (e ≤ cutn), S) :=
 cmp_of (s_idx_of l3 (b_ad (b := 1) l0 rfl) (idx_own hh (by rw [List.getElem?_map, he]; rfl) hz)) l2 (by show some (decide ((e : Int) ≤ (cutn : Int))) = _; rw [decide_eq_decide.mpr (by simp : ((e : Int) ≤ (cutn : Int)) ↔ e ≤ cutn)])
theorem x10_at {i : Nat} {r : List Nat} (l0 : s_loc 0 S = some (.int (i : Nat), S)) (l1 : s_loc 1 S = some (.own 3, S)) (hh : S.hp[3]? = some (.lst (txts T))) (hr : T[i]? = some r) (hz : T.length ≤ 100) : s_idx (s_loc 1) (s_loc 0) S = some (.str r, S) :=
 s_idx_of l1 l0 (idx_own hh (by rw [List.getElem?_map, hr]; rfl) (by rw [List.length_map]; exact tA ‹_› (by decide)))
theorem v10_at (l5 : s_loc 5 S = some (.own 3, S)) (hc : capLoc 1 [5, 11, 7] S = [none, some (.own 3), some (.int (cutn : Nat)), some (.own 4)]) (h3 : S.hp[3]? = some (.lst (txts T))) (h4 : S.hp[4]? = some (.lst (nums ((List.range (T.length + 1)).map (endsE T))))) (hz : T.length ≤ 100) :
  lwC10 S = some (.own S.hp.length, ⟨S.loc, S.hp ++ [.lst (txts (((List.range T.length).filter fun i => decide (endsE T (i + 1) ≤ cutn)).map fun i => T.getD i []))]⟩) := by
 have L := lc_ok2 (hp0 := S.hp) (g := a_name 0) (t := lwT10) (x := s_idx (s_loc 1) (s_loc 0)) (fun l => ∃ v, l = [v, some (.own 3), some (.int (cutn : Nat)), some (.own 4)]) (p := fun v => match v with | .int s => decide (endsE T (s.toNat + 1) ≤ cutn) | _ => false) (f := fun v => match v with | .int s => .str (T.getD s.toNat []) | v => v) (nums (List.range' 0 T.length)) (.fix (nums (List.range' 0 T.length))) [] lots (capLoc 1 [5, 11, 7] S) (fun v m l hl acc => by
  obtain ⟨s, ms', rfl⟩ := List.mem_map.mp m
  obtain ⟨v, rfl⟩ := hl
  have lt : s < T.length := by rw [List.mem_range'_1] at ms'; lia
  have hp3 : (S.hp ++ [O.lst acc])[3]? = some (.lst (txts T)) := by rw [List.getElem?_append_left (List.getElem?_eq_some_iff.mp h3).1]; exact h3
  have hp4 : (S.hp ++ [O.lst acc])[4]? = some (.lst (nums ((List.range (T.length + 1)).map (endsE T)))) := by rw [List.getElem?_append_left (List.getElem?_eq_some_iff.mp h4).1]; exact h4
  have ge : ((List.range (T.length + 1)).map (endsE T))[s + 1]? = some (endsE T (s + 1)) := by
   rw [List.getElem?_map, List.getElem?_range (by exact Nat.succ_lt_succ ‹_›)]; rfl
  refine ⟨[some (.int (s : Nat)), some (.own 3), some (.int (cutn : Nat)), some (.own 4)], ⟨_, rfl⟩, rfl, t10_at rfl rfl rfl hp4 ge (by rw [List.length_map, List.length_map, List.length_range]; exact tB ‹_› (by decide)), fun _ => ?_⟩
  have hr : T[s]? = some (T.getD s []) := by rw [List.getD_eq_getElem?_getD, List.getElem?_eq_getElem lt]; rfl
  exact x10_at rfl rfl hp3 hr hz) (.inl rfl) ⟨none, hc⟩ (by rw [List.length_map, List.length_range']; unfold lots; exact tB ‹_› (by decide)) (by rw [List.length_map, List.length_range', List.length_nil]; unfold smallN; lia)
 have fe : ([] : List V) ++ ((nums (List.range' 0 T.length)).filter (fun v => match v with | .int s => decide (endsE T (s.toNat + 1) ≤ cutn) | _ => false)).map (fun v => match v with | .int s => .str (T.getD s.toNat []) | v => v) = txts (((List.range T.length).filter fun i => decide (endsE T (i + 1) ≤ cutn)).map fun i => T.getD i []) := by
  rw [List.nil_append, List.range_eq_range']
  unfold nums
  rw [List.filter_map, List.map_map]
  unfold txts
  rw [List.map_map]
  rfl
 rw [fe] at L
 have l := len_own (X := s_loc 5) (σ := S) (σ1 := S) (k := 3) (vs := txts T) l5 h3 (by rw [List.length_map]; exact tA ‹_› (by decide))
 rw [List.length_map] at l
 refine lc_of (v := .rng 0 T.length) (src := .fix (nums (List.range' 0 T.length))) (rng_of l) ?_ L
 show (if (-1000000 : Int) ≤ 0 ∧ (0 : Int) ≤ 1000000 ∧ -1000000 ≤ (T.length : Int) ∧ (T.length : Int) ≤ 1000000 then some (Src.fix (rangeVs 0 ((T.length : Int) - 0).toNat)) else none) = _
 rw [if_pos (by lia), show ((T.length : Int) - 0).toNat = T.length by rfl]
 have := range_vs T.length 0
 rw [show ((0 : Nat) : Int) = 0 from rfl] at this
 rw [this]
theorem sort_at (h : X S = some (.own k, S)) (hh : S.hp[k]? = some (.lst (txts T))) (hz : T.length ≤ 60) : s_sort X S = some (.lst (txts (srtN T)), S) := by
 have al : asList S (.own k) = some (txts T) := by unfold asList; dsimp only; rw [hh]
 unfold s_sort
 rw [h]; dsimp only
 rw [al]; dsimp only
 rw [strs_of]; dsimp only
 rw [if_pos (by rw [List.length_map]; exact tB ‹_› (by decide))]
theorem v12_at (l4 : s_loc 4 S = some (.own 2, S)) (hh : S.hp[2]? = some (.lst (txts T))) (hz : T.length ≤ 60) (hr : ∀ r ∈ T, RowOk r) (low : S.hp.all (O.low S.hp.length) = true) : s_call g_write (s_cons (s_sort (s_loc 4)) s_nil) S = some (.byt (encR (recsW [] (srtN T))), S) :=
 call_of (cons_of (sort_at l4 hh hz) rfl) (write_atL (fun r m => hr r ((srt_perm T).mem_iff.mp m)) (by rw [(srt_perm T).length_eq]; exact tA ‹_› (by decide)) low)
theorem v13m_at (l5 : s_loc 5 S = some (.own 3, S)) (hh : S.hp[3]? = some (.lst (txts T))) (hz : T.length ≤ 60) : s_bin .Mult (s_c (.int 2)) (s_blt .len (s_cons (s_loc 5) s_nil)) S = some (.int ((2 * T.length : Nat) : Int), S) := by
 have l := len_own (X := s_loc 5) (σ := S) (σ1 := S) (k := 3) (vs := txts T) l5 hh (by rw [List.length_map]; exact tA ‹_› (by decide))
 rw [List.length_map] at l
 exact b_ml (a := 2) rfl (by decide) l
end
end
noncomputable section
noncomputable def lwS (i : Nat) : Stmt := ((bodyOf (st 43)).drop i).headD (.Pass ⟨0, 0, 0, 0⟩)
theorem law_body : bodyOf (st 43) = (bodyOf (st 43)).take 8 ++ [lwS 8, lwS 9, lwS 10, lwS 11, lwS 12, lwS 13] := by kernel_rfl
inductive Lw8 (C : Cx) (n : Nat) (env : Env) (ns : List Str) (z : Stmt) : Prop
 | mk (c1 fe e r : PySem.Expr) (bd : List Stmt) (p1 p2 p3 p4 : Pos) : z = .If (.BoolOp .Or [c1, .Compare (.Call fe [e] [] p1) [.NotEq] [r] p2] p3) bd [] p4 → CT C n env ns c1 (s_cmp .NotEq (s_blt .len (s_cons (s_loc 10) s_nil)) (s_idx (s_loc 7) (s_neg (s_c (.int 1))))) → CE C n env ns fe (s_c (.raw (.ref 184))) → CE C n env ns e (s_loc 10) → CE C n env ns r (s_loc 5) → notStar e = true → behindInMarks .NotEq r = false → eval (.Call fe [e] [] p1) env = (do callWith p1 (← eval fe env) [] (backTo p1 (starEach [e] env)) (backToKw p1 (keywordEach [] env))) → Lw8 C n env ns z
theorem law_s8 {C : Cx} {n : Nat} {fa : Addr} {cd : Value} (gU : GL C "_law_unpack" (.raw (.ref 184))) (b_len : BL C "len" (.builtin "len")) : ∀ L, Lw8 C n (envOfC "law" (scopeOf (st 43)) L fa cd) ["script", "modes", "x", "y", "rows", "told", "bits", "ends", "k", "ahead", "octets", "cut", "fronts", "laid"] (lwS 8) := by
 intro L
 have ok : EnvOk (envOfC "law" (scopeOf (st 43)) L fa cd) ["script", "modes", "x", "y", "rows", "told", "bits", "ends", "k", "ahead", "octets", "cut", "fronts", "laid"] := okC (by kernel_rfl) (by decide)
 refine ⟨?w0, ?w1, ?w2, ?w3, ?w4, ?w5, ?w6, ?w7, ?w8, ?h, ?f0, ?f1, ?f2, ?f3, ?f4, ?f5, ?f6⟩
 case h => (conv => lhs; whnf)
 case f4 => exact rfl
 case f5 => exact rfl
 case f6 => exact rfl
 all_goals (first | exact rfl | skip)
 all_goals
  repeat' first
    | exact cb_fail | exact cy_fail
    | trivial
theorem law_s9 {C : Cx} {n : Nat} {fa : Addr} {cd : Value} (b_len : BL C "len" (.builtin "len")) (b_sum : BL C "sum" (.builtin "sum")) : ∀ L, ∃ (s : Stmt), lwS 9 = s ∧ CY C n (envOfC "law" (scopeOf (st 43)) L fa cd) ["script", "modes", "x", "y", "rows", "told", "bits", "ends", "k", "ahead", "octets", "cut", "fronts", "laid"] s (y_asg 11 (s_bin .Mod (s_bin .Add (s_blt .sum (s_cons (s_loc 1) s_nil)) (s_c (.int 9))) (s_blt .len (s_cons (s_loc 10) s_nil)))) := by
 intro L
 have ok : EnvOk (envOfC "law" (scopeOf (st 43)) L fa cd) ["script", "modes", "x", "y", "rows", "told", "bits", "ends", "k", "ahead", "octets", "cut", "fronts", "laid"] := okC (by kernel_rfl) (by decide)
 refine ⟨?w0, ?h, ?f0⟩
 case h => (conv => lhs; whnf)
 all_goals (first | exact rfl | skip)
 all_goals
  repeat' first
    | exact cb_fail | exact cy_fail
    | trivial
inductive Lw10 (C : Cx) (n : Nat) (env : Env) (ns : List Str) (z : Stmt) : Prop
 | mk (fe e r : PySem.Expr) (bd : List Stmt) (p1 p2 p4 : Pos) : z = .If (.Compare (.Call fe [e] [] p1) [.NotEq] [r] p2) bd [] p4 → CE C n env ns fe (s_c (.raw (.ref 184))) → CE C n env ns e (s_slc (s_loc 10) (s_c .none) (s_loc 11)) → CE C n env ns r (s_lc (s_blt .range (s_cons (s_blt .len (s_cons (s_loc 5) s_nil)) s_nil)) 1 [5, 11, 7] (a_name 0) (s_cmp .LtE (s_idx (s_loc 3) (s_bin .Add (s_loc 0) (s_c (.int 1)))) (s_loc 2)) (s_idx (s_loc 1) (s_loc 0))) → notStar e = true → behindInMarks .NotEq r = false → eval (.Call fe [e] [] p1) env = (do callWith p1 (← eval fe env) [] (backTo p1 (starEach [e] env)) (backToKw p1 (keywordEach [] env))) → Lw10 C n env ns z
theorem law_s10 {C : Cx} {n : Nat} {fa : Addr} {cd : Value} (gU : GL C "_law_unpack" (.raw (.ref 184))) (b_len : BL C "len" (.builtin "len")) (b_range : BL C "range" (.type "range")) : ∀ L, Lw10 C n (envOfC "law" (scopeOf (st 43)) L fa cd) ["script", "modes", "x", "y", "rows", "told", "bits", "ends", "k", "ahead", "octets", "cut", "fronts", "laid"] (lwS 10) := by
 intro L
 have ok : EnvOk (envOfC "law" (scopeOf (st 43)) L fa cd) ["script", "modes", "x", "y", "rows", "told", "bits", "ends", "k", "ahead", "octets", "cut", "fronts", "laid"] := okC (by kernel_rfl) (by decide)
 refine ⟨?w0, ?w1, ?w2, ?w3, ?w4, ?w5, ?w6, ?h, ?f0, ?f1, ?f2, ?f3, ?f4, ?f5⟩
 case h => (conv => lhs; whnf)
 case f3 => exact rfl
 case f4 => exact rfl
 case f5 => exact rfl
 all_goals (first | exact rfl | skip)
 all_goals
  repeat' first
    | exact cb_fail | exact cy_fail
    | (refine ce_lc (cl := [("told", L + 1), ("ends", L + 2), ("cut", L + 5)]) (nsC := ["j", "told", "cut", "ends"]) ‹_› (folded_plain rfl) ⟨?c1, ?c2, rfl, ?c4, ?c5, ?c6, ?c7, ?c8⟩ ?_ (fun L' ok' => ?_) (fun L' ok' => ?_) (fun L' ok' => ?_); (case c1 => kernel_rfl); (case c2 => decide +kernel); (case c4 => decide +kernel); (case c5 => exact sub_of (l := [("cut", L + 5), ("ahead", L + 4), ("k", L + 3), ("ends", L + 2), ("told", L + 1)]) (by kernel_rfl) (by simp)); (case c6 => simp); (case c7 => decide +kernel); (case c8 => exact ⟨⟨_, rfl, rfl, ne_local (by kernel_rfl), fun L => .inl (by kernel_rfl), by kernel_rfl⟩, ⟨_, rfl, rfl, ne_local (by kernel_rfl), fun L => .inl (by kernel_rfl), by kernel_rfl⟩, ⟨_, rfl, rfl, ne_local (by kernel_rfl), fun L => .inl (by kernel_rfl), by kernel_rfl⟩, trivial⟩))
    | refine ci_one ?_
    | trivial
inductive Lw11 (C : Cx) (n : Nat) (env : Env) (ns : List Str) (z : Stmt) : Prop
 | mk (y : Str) (elt t0 i0 t1 i1 : PySem.Expr) (scope : Scope) (py pos spos : Pos) : z = .Assign [.Name y py] (.SetComp elt [⟨t0, i0, [], 0⟩, ⟨t1, i1, [], 0⟩] scope pos) spos → (ns : List Str)[12]? = some y → stores env y = true → swapsWith (.SetComp elt [⟨t0, i0, [], 0⟩, ⟨t1, i1, [], 0⟩] scope pos) (some (.Name y py)) spos.line env = pure true → CE C n env ns i0 (s_loc 5) → (∀ x, foldedSetIterable i0 env x = pure x) → (∀ L2 x, foldedSetIterable i1 (compEnvC scope [] L2 env) x = pure x) → closureFor scope env = pure [] → (∀ y ∈ scope.names, y.2 ≠ .cell) → scope.kind = .function → (∀ x ∈ scope.names, x.2 = .local → scope.names.lookup x.1 = some .local) → (∀ L2, EnvOk (compEnvC scope [] L2 env) ["one", "reach"] → CG C n (compEnvC scope [] L2 env) ["one", "reach"] t0 (a_name 0)) → (∀ L2, EnvOk (compEnvC scope [] L2 env) ["one", "reach"] → CG C n (compEnvC scope [] L2 env) ["one", "reach"] t1 (a_name 1)) → (∀ L2, EnvOk (compEnvC scope [] L2 env) ["one", "reach"] → CE C n (compEnvC scope [] L2 env) ["one", "reach"] i1 (s_blt .range (s_cons (s_c (.int 1)) (s_cons (s_c (.int 11)) s_nil)))) → (∀ L2, EnvOk (compEnvC scope [] L2 env) ["one", "reach"] → CE C n (compEnvC scope [] L2 env) ["one", "reach"] elt (s_slc (s_loc 0) (s_c .none) (s_loc 1))) → Lw11 C n env ns z
theorem law_s11 {C : Cx} {n : Nat} {fa : Addr} {cd : Value} (b_range : BL C "range" (.type "range")) : ∀ L, Lw11 C n (envOfC "law" (scopeOf (st 43)) L fa cd) ["script", "modes", "x", "y", "rows", "told", "bits", "ends", "k", "ahead", "octets", "cut", "fronts", "laid"] (lwS 11) := by
 intro L
 have ok : EnvOk (envOfC "law" (scopeOf (st 43)) L fa cd) ["script", "modes", "x", "y", "rows", "told", "bits", "ends", "k", "ahead", "octets", "cut", "fronts", "laid"] := okC (by kernel_rfl) (by decide)
 refine ⟨?w0, ?w1, ?w2, ?w3, ?w4, ?w5, ?w6, ?w7, ?w8, ?w9, ?h, ?f0, ?f1, ?f2, ?f3, ?f4, ?f5, ?f6, ?f7, ?f8, ?f9, ?f10, ?f11, ?f12, ?f13⟩
 case h => (conv => lhs; whnf)
 case f0 => exact rfl
 case f1 => kernel_rfl
 case f2 => kernel_rfl
 case f4 => exact folded_plain rfl
 case f5 => exact fun L2 => folded_plain rfl
 case f6 => kernel_rfl
 case f7 => decide +kernel
 case f8 => exact rfl
 case f9 => decide +kernel
 case f10 => exact fun L2 ok2 => cg_name ok2 _ (by rfl) (by kernel_rfl)
 case f11 => exact fun L2 ok2 => cg_name ok2 _ (by rfl) (by kernel_rfl)
 case f12 => exact fun L2 ok2 => ce_bltc (ce_bl ok2 (by kernel_rfl) (by decide) ‹_›) rfl (cl_cons rfl ce_int (cl_cons rfl ce_int cl_nil))
 case f13 => exact fun L2 ok2 => ce_slc (ce_loc ok2 _ (by rfl) (by decide) (by decide)) cp_none (cp_some (ce_loc ok2 _ (by rfl) (by decide) (by decide)))
 all_goals (first | exact rfl | skip)
 all_goals
  repeat' first
    | exact cb_fail | exact cy_fail
    | trivial
theorem law_s12 {C : Cx} {n : Nat} {fa : Addr} {cd : Value} (g3 : GL C "_law_write" (.raw (.ref 177))) (f3 : FS C n 177 g_write) (b_sorted : BL C "sorted" (.builtin "sorted")) : ∀ L, ∃ (s : Stmt), lwS 12 = s ∧ CY C n (envOfC "law" (scopeOf (st 43)) L fa cd) ["script", "modes", "x", "y", "rows", "told", "bits", "ends", "k", "ahead", "octets", "cut", "fronts", "laid"] s (y_asg 13 (s_call g_write (s_cons (s_sort (s_loc 4)) s_nil))) := by
 intro L
 have ok : EnvOk (envOfC "law" (scopeOf (st 43)) L fa cd) ["script", "modes", "x", "y", "rows", "told", "bits", "ends", "k", "ahead", "octets", "cut", "fronts", "laid"] := okC (by kernel_rfl) (by decide)
 refine ⟨?w0, ?h, ?f0⟩
 case h => (conv => lhs; whnf)
 all_goals (first | exact rfl | skip)
 all_goals
  repeat' first
    | exact cb_fail | exact cy_fail
    | refine ce_sort (ce_bl ‹_› (by kernel_rfl) (by decide) ‹_›) rfl ?_
    | trivial
inductive Lw13 (C : Cx) (n : Nat) (env : Env) (ns : List Str) (z : Stmt) : Prop
 | mk (l m fl fr fe e r : PySem.Expr) (q1 q2 q3 q4 q5 q6 q7 : Pos) : z = .Return (some (.BoolOp .And [.Compare l [.Eq] [.BinOp m .Add (.Call fl [fr] [] q1) q2] q3, .Compare (.Call fe [e] [] q4) [.Eq] [r] q5] q6)) q7 → CE C n env ns l (s_blt .len (s_cons (s_loc 13) s_nil)) → CE C n env ns m (s_bin .Mult (s_c (.int 2)) (s_blt .len (s_cons (s_loc 5) s_nil))) → CE C n env ns fl (s_c (.raw (.builtin "len"))) → CE C n env ns fr (s_loc 12) → CE C n env ns fe (s_c (.raw (.ref 184))) → CE C n env ns e (s_loc 13) → CE C n env ns r (s_sort (s_loc 5)) → notStar fr = true → notStar e = true → behindInMarks .Eq r = false → behindInMarks .Eq (.BinOp m .Add (.Call fl [fr] [] q1) q2) = false → eval (.Call fl [fr] [] q1) env = (do callWith q1 (← eval fl env) [] (backTo q1 (starEach [fr] env)) (backToKw q1 (keywordEach [] env))) → eval (.Call fe [e] [] q4) env = (do callWith q4 (← eval fe env) [] (backTo q4 (starEach [e] env)) (backToKw q4 (keywordEach [] env))) → Lw13 C n env ns z
theorem law_s13 {C : Cx} {n : Nat} {fa : Addr} {cd : Value} (gU : GL C "_law_unpack" (.raw (.ref 184))) (b_len : BL C "len" (.builtin "len")) (b_sorted : BL C "sorted" (.builtin "sorted")) : ∀ L, Lw13 C n (envOfC "law" (scopeOf (st 43)) L fa cd) ["script", "modes", "x", "y", "rows", "told", "bits", "ends", "k", "ahead", "octets", "cut", "fronts", "laid"] (lwS 13) := by
 intro L
 have ok : EnvOk (envOfC "law" (scopeOf (st 43)) L fa cd) ["script", "modes", "x", "y", "rows", "told", "bits", "ends", "k", "ahead", "octets", "cut", "fronts", "laid"] := okC (by kernel_rfl) (by decide)
 refine ⟨?w0, ?w1, ?w2, ?w3, ?w4, ?w5, ?w6, ?w7, ?w8, ?w9, ?w10, ?w11, ?w12, ?w13, ?h, ?f0, ?f1, ?f2, ?f3, ?f4, ?f5, ?f6, ?f7, ?f8, ?f9, ?f10, ?f11, ?f12⟩
 case h => (conv => lhs; whnf)
 case f7 => exact rfl
 case f8 => exact rfl
 case f9 => exact rfl
 case f10 => exact rfl
 case f11 => exact rfl
 case f12 => exact rfl
 all_goals (first | exact rfl | skip)
 all_goals
  repeat' first
    | exact cb_fail | exact cy_fail
    | refine ce_sort (ce_bl ‹_› (by kernel_rfl) (by decide) ‹_›) rfl ?_
    | trivial
end
noncomputable section
noncomputable abbrev NLw : List Str := ["script", "modes", "x", "y", "rows", "told", "bits", "ends", "k", "ahead", "octets", "cut", "fronts", "laid"]
noncomputable abbrev envW (L : Addr) : Env := envOfC "law" (scopeOf (st 43)) L 189 (.ref 188)
noncomputable abbrev octN (T : List (List Nat)) : List Nat := encR (recsW [] T)
noncomputable abbrev esN (T : List (List Nat)) : List Nat := (List.range (T.length + 1)).map (endsE T)
noncomputable abbrev hpN (ms : List Nat) (xs : List Int) (T : List (List Nat)) (X : List O) : List O := hp3 ms (.lst (vInts xs)) T (esN T) X
theorem okL_rows {T : List (List Nat)} (h : ∀ r ∈ T, RowOk r) : okL T = true := List.all_eq_true.mpr fun r m => List.all_eq_true.mpr fun c q => decide_eq_true (by have := (h r m).ascii c q; exact tC ‹_› (by decide))
theorem last_es (T : List (List Nat)) : (nums (esN T)).getLast? = some (.int ((octN T).length : Nat)) := by
 unfold esN
 rw [List.range_succ, List.map_append, List.map_singleton, nums_snoc, List.getLast?_concat]
 unfold endsE
 rw [List.take_length]
section
variable {w : World} {T : List (List Nat)} {H : List O}
theorem U_at (w : World) (low : ∀ k, H.all (O.low k) = true) (flt : H.all flatO = true) (hT : ∀ r ∈ T, RowOk r) (tl : T.length ≤ 100) {j : Nat} {x0 rest : List Nat} (hx : x0 = encR ((recsW [] T).take j) ++ rest) (hz : x0.length ≤ 50000) (bad : Bad rest) : SpcF (cx w) 9 (.ref 184) [.byt x0] H (.lst (txts (T.take j))) H := by
 have h10 : ∀ r ∈ T, r.length = 10 := fun r m => (hT r m).len
 have := F_unpack w (H := H) (recs := (recsW [] T).take j) (x0 := x0) (rest := rest) low flt hx hz (bound_last h10 rfl) (fun r m => bound_rec h10 [] r (List.mem_of_mem_take m)) (by rw [List.length_take, recsW_len]; lia) bad
 rw [recsW_take, rows_back] at this
 exact this
theorem ne_false {C : Cx} {n : Nat} {env : Env} {ns : List Str} {σ : Sg} {a b : V} (h4 : 4 ≤ n) (ok : okL T = true) (e1 : asList σ a = some (txts T)) (e2 : asList σ b = some (txts T)) : OB C n env ns (compareOp .NotEq) a b σ σ (IsV (.bool false)) := by
 have := neS_ok (C := C) (env := env) (ns := ns) ok ok h4 e1 e2 (strs_of T) (strs_of T)
 rw [show (!decide (T = T)) = false by simp] at this
 exact this
theorem eq_true {C : Cx} {n : Nat} {env : Env} {ns : List Str} {σ : Sg} {a b : V} (h4 : 4 ≤ n) (ok : okL T = true) (e1 : asList σ a = some (txts T)) (e2 : asList σ b = some (txts T)) : OB C n env ns (compareOp .Eq) a b σ σ (IsV (.bool true)) := by
 have := eqS_ok (C := C) (env := env) (ns := ns) ok ok h4 e1 e2 (strs_of T) (strs_of T)
 rw [show decide (T = T) = true by simp] at this
 exact this
end
section
variable {w : World} {ms : List Nat} {xs : List Int} {T : List (List Nat)} {X : List O} {sc : V} {x y bits k ah : Option V} {cutv fr la : Option V} {L : Addr} {A : Around} {s : Shared} {as : List Addr} {Q : Flow → Shared → Prop} {E : Value → Shared → Prop}
theorem law8 (hT : ∀ r ∈ T, RowOk r) (tl : T.length ≤ 50) (jX : Jk X) (R : Room 9 A) (hfr : A.frames = some [envW L]) (r : Rel (cx w) (envW L) NLw as (lw4 sc x y bits k ah (octN T) cutv fr la (hpN ms xs T X)) s.heap)
  (h : ∀ as' h' tk, Rel (cx w) (envW L) NLw as' (lw4 sc x y bits k ah (octN T) cutv fr la (hpN ms xs T X)) h' → Step (cx w) (envW L) as s.heap as' h' → Q .next { s with heap := h', toks := tk }) : wpAny (model (cx w).prog (cx w).w) A (exec (lwS 8) (envW L)) Q E s := by
 obtain ⟨c1, fe, e, r8, bd, p1, p2, p3, p4, e8, q1, q2, q3, q4, q5, q6, q7⟩ := law_s8 (C := cx w) (n := 9) (fa := 189) (cd := .ref 188) (gls w (by kernel_rfl)) (bls w (by kernel_rfl) (by kernel_rfl)) L
 obtain ⟨o, fd, hb, hd⟩ := (D_law_unpack w).func
 have ol : (octN T).length ≤ 1000 := by have := enc_le T [] hT; unfold octN; lia
 have el : (nums (esN T)).length ≤ 1000 := by rw [List.length_map, List.length_map, List.length_range]; exact tB ‹_› (by decide)
 have U := U_at (H := hpN ms xs T X) w (fun k => hp3_low jX k) (hp3_flat jX) hT (by exact tA ‹_› (by decide)) (j := T.length) (x0 := octN T) (rest := []) (by rw [List.append_nil, List.take_of_length_le (by rw [recsW_len]; exact Nat.le_refl _)]) (by exact tA ‹_› (by decide)) (.inl rfl)
 rw [List.take_length] at U
 rw [e8]
 exact txa_if (tta_or2 (Tr.at (q1.ok _ _ _ (v8_at rfl rfl rfl (last_es T) ol el)) R) (tta_cmp R (tea_call R hfr rfl rfl (q2.ok _ _ _ rfl) hb hd q5 (q3.ok _ _ _ rfl) U q7) (q4.ok _ _ _ rfl) (ne_false (by decide) (okL_rows hT) rfl rfl) q6)) r h
theorem law9 (hT : ∀ r ∈ T, RowOk r) (tl : T.length ≤ 50) (ol0 : 0 < (octN T).length) (R : Room 9 A) (r : Rel (cx w) (envW L) NLw as (lw4 sc x y bits k ah (octN T) cutv fr la (hpN ms xs T X)) s.heap)
  (h : ∀ as' h' tk, Rel (cx w) (envW L) NLw as' (lw4 sc x y bits k ah (octN T) (some (.int (((ms.sum + 9) % (octN T).length : Nat) : Int))) fr la (hpN ms xs T X)) h' → Step (cx w) (envW L) as s.heap as' h' → Q .next { s with heap := h', toks := tk }) : wpAny (model (cx w).prog (cx w).w) A (exec (lwS 9) (envW L)) Q E s := by
 obtain ⟨s9, e9, q1⟩ := law_s9 (C := cx w) (n := 9) (fa := 189) (cd := .ref 188) (bls w (by kernel_rfl) (by kernel_rfl)) (bls w (by kernel_rfl) (by kernel_rfl)) L
 have ol : (octN T).length ≤ 1000 := by have := enc_le T [] hT; unfold octN; lia
 rw [e9]
 refine q1.ok _ _ _ (asg_of (v9_at (ms := ms) rfl rfl rfl ol ol0)) A s as _ E R r fun as2 g2 t2 f2 r2 s2 v2 => ?_
 replace v2 := v2.inv; obtain rfl := v2
 exact h as2 g2 t2 r2 s2
theorem law10 (hT : ∀ r ∈ T, RowOk r) (tl : T.length ≤ 50) (jX : Jk X) {cutn : Nat} (hc : cutn ≤ (octN T).length) (R : Room 9 A) (hfr : A.frames = some [envW L]) (r : Rel (cx w) (envW L) NLw as (lw4 sc x y bits k ah (octN T) (some (.int (cutn : Nat))) fr la (hpN ms xs T X)) s.heap)
  (h : ∀ as' h' tk j, Rel (cx w) (envW L) NLw as' (lw4 sc x y bits k ah (octN T) (some (.int (cutn : Nat))) fr la (hpN ms xs T X ++ [.lst (txts (T.take j))])) h' → Step (cx w) (envW L) as s.heap as' h' → Q .next { s with heap := h', toks := tk }) : wpAny (model (cx w).prog (cx w).w) A (exec (lwS 10) (envW L)) Q E s := by
 obtain ⟨fe, e, r8, bd, p1, p2, p4, e8, q2, q3, q4, q5, q6, q7⟩ := law_s10 (C := cx w) (n := 9) (fa := 189) (cd := .ref 188) (gls w (by kernel_rfl)) (bls w (by kernel_rfl) (by kernel_rfl)) (bls w (by kernel_rfl) (by kernel_rfl)) L
 obtain ⟨o, fd, hb, hd⟩ := (D_law_unpack w).func
 have h10 : ∀ r ∈ T, r.length = 10 := fun r m => (hT r m).len
 have ol : (octN T).length ≤ 1000 := by have := enc_le T [] hT; unfold octN; lia
 obtain ⟨j, rest, j1, c2, c3, c4⟩ := cut_rec (recsW [] T) cutn hc (fun r m => by have := bound_rec h10 [] r m; exact tB ‹_› (by decide))
 rw [recsW_len] at j1 c4
 have U := U_at (H := hpN ms xs T X) w (fun k => hp3_low jX k) (hp3_flat jX) hT (by exact tA ‹_› (by decide)) (j := j) (x0 := (octN T).take cutn) (rest := rest) c2 (by rw [List.length_take]; lia) c3
 have V10 := v10_at (S := lw4 sc x y bits k ah (octN T) (some (.int (cutn : Nat))) fr la (hpN ms xs T X)) (T := T) (cutn := cutn) rfl rfl rfl rfl (by exact tA ‹_› (by decide))
 have ef : ((List.range T.length).filter fun i => decide (endsE T (i + 1) ≤ cutn)).map (fun i => T.getD i []) = T.take j := by
  have : (List.range T.length).filter (fun i => decide (endsE T (i + 1) ≤ cutn)) = (List.range T.length).filter fun i => decide (i < j) := List.filter_congr fun i m => by
   have lt : i < T.length := List.mem_range.mp m
   have := c4 i lt
   rw [recsW_take] at this
   exact decide_eq_decide.mpr this
  rw [this, pick_take T.length (Nat.le_refl _), Nat.min_eq_left j1]
 rw [ef] at V10
 have hTj : ∀ r ∈ T.take j, RowOk r := fun r m => hT r (List.mem_of_mem_take m)
 rw [e8]
 refine txa_if (tta_cmp R (tea_call R hfr rfl rfl (q2.ok _ _ _ rfl) hb hd q5 (q3.ok _ _ _ (v10s_at (oct := octN T) (cutn := cutn) rfl rfl ol)) U q7) (q4.ok _ _ _ V10) (ne_false (T := T.take j) (by decide) (okL_rows hTj) rfl ?_) q6) r fun as2 g2 t2 r2 s2 => h as2 g2 t2 j r2 s2
 exact own_at (by
  show (hpN ms xs T X ++ [O.lst (txts (T.take j))])[(hpN ms xs T X).length]? = _
  exact app0)
end
end
noncomputable section
theorem and_pt {M : Model} {A : Around} {env : Env} {x y : PySem.Expr} {pos : Pos} {s : Shared} {Q : Value → Shared → Prop} {E : Value → Shared → Prop} (h : wpAny M A (eval x env) (fun v s' => v = .bool true ∧ wpAny M A (eval y env) Q E s') E s) : wpAny M A (eval (.BoolOp .And [x, y] pos) env) Q E s := by
 show wpAny _ A (do
  let v ← eval x env
  standAt pos
  let t ← holding [v] (truthy v)
  match BoolOp.And, t with
  | .And, false | .Or, true => pure v
  | _, _ => eval y env) Q E s
 refine wpAny_bind (wpAny_mono h (fun v s' h' => ?_) fun _ _ x => x)
 obtain ⟨rfl, h'⟩ := h'
 exact wpAny_bind (wpAny_standAt (wpAny_bind (wpAny_holding (wpAny_truthy_bool h'))))
section
variable {w : World} {ms : List Nat} {xs : List Int} {T : List (List Nat)} {X : List O} {Y : List (List Nat)} {sc : V} {x y bits k ah : Option V} {cutv fr la : Option V} {L : Addr} {A : Around} {s : Shared} {as : List Addr} {Q : Flow → Shared → Prop} {E : Value → Shared → Prop}
noncomputable abbrev hpM (ms : List Nat) (xs : List Int) (T : List (List Nat)) (X : List O) (Y : List (List Nat)) : List O := hpN ms xs T X ++ [.lst (txts Y)]
theorem hpM_low (jX : Jk X) (m : Nat) : (hpM ms xs T X Y).all (O.low m) = true := by
 rw [List.all_append, hp3_low jX]
 show (true && (V.lows m (txts Y) && true)) = true
 rw [txts_low]; rfl
theorem hpM_flat (jX : Jk X) : (hpM ms xs T X Y).all flatO = true := by
 rw [List.all_append, hp3_flat jX]
 show (true && ((txts Y).all flat && true)) = true
 rw [flat_txts]; rfl
theorem law11 (tl : T.length ≤ 50) (hT : ∀ r ∈ T, RowOk r) (R : Room 9 A) (r : Rel (cx w) (envW L) NLw as (lw4 sc x y bits k ah (octN T) cutv fr la (hpM ms xs T X Y)) s.heap)
  (h : ∀ as' h' tk D, Rel (cx w) (envW L) NLw as' (lw4 sc x y bits k ah (octN T) cutv (some (.raw (.ref D))) la (hpM ms xs T X Y)) h' → Step (cx w) (envW L) as s.heap as' h' → SetOk (cx w) (envW L) as' h' D (keysOf T) → Q .next { s with heap := h', toks := tk }) : wpAny (model (cx w).prog (cx w).w) A (exec (lwS 11) (envW L)) Q E s := by
 obtain ⟨yn, elt, t0, i0, t1, i1, scope, py, pos, spos, e8, q1, q2, q3, q4, q5, q6, q7, q8, q9, q10, q11, q12, q13, q14⟩ := law_s11 (C := cx w) (n := 9) (fa := 189) (cd := .ref 188) (bls w (by kernel_rfl) (by kernel_rfl)) L
 have ok : EnvOk (envW L) NLw := okC (by kernel_rfl) (by decide)
 have K : Caps (envW L) NLw (lw4 sc x y bits k ah (octN T) cutv fr la (hpM ms xs T X Y)) scope [] ["one", "reach"] [none, none] := ⟨q7, q8, q9, q10, by simp, List.nodup_nil, by decide, fun i v e => by
  match i, e with
  | 0, e => cases e
  | 1, e => cases e⟩
 have okc : ∀ L2, EnvOk (compEnvC scope [] L2 (envW L)) ["one", "reach"] := fun L2 => K.ok ok L2
 rw [e8]
 refine set_asg (j := 12) (kT := 3) (rows := T) ok q1 q2 q3 (q4.ok _ _ _ rfl) rfl q5 q6 K (fun L2 v o0 o1 => (q11 L2 (okc L2)).ok _ _ _ rfl) (fun L2 v o0 o1 => (q12 L2 (okc L2)).ok _ _ _ rfl) (fun L2 z o => (q13 L2 (okc L2)).ok _ _ _ rfl) (fun L2 z kk hz hk => (q14 L2 (okc L2)).ok _ _ _ ?_) (by exact tA ‹_› (by decide)) R r fun as' h' tk D r' s' si d1 d2 d3 d4 => h as' h' tk D r' s' ⟨si, d1, d2, d3, d4⟩
 rw [← cut_to]
 exact sl_str (x := z) (lo := .none) (hi := .int (kk : Nat)) rfl rfl rfl rfl rfl (by rw [(hT z hz).len]; decide)
theorem law12 (tl : T.length ≤ 50) (hT : ∀ r ∈ T, RowOk r) (jX : Jk X) (R : Room 9 A) (r : Rel (cx w) (envW L) NLw as (lw4 sc x y bits k ah (octN T) cutv fr la (hpM ms xs T X Y)) s.heap)
  (h : ∀ as' h' tk, Rel (cx w) (envW L) NLw as' (lw4 sc x y bits k ah (octN T) cutv fr (some (.byt (octN (srtN T)))) (hpM ms xs T X Y)) h' → Step (cx w) (envW L) as s.heap as' h' → Q .next { s with heap := h', toks := tk }) : wpAny (model (cx w).prog (cx w).w) A (exec (lwS 12) (envW L)) Q E s := by
 obtain ⟨s9, e9, q1⟩ := law_s12 (C := cx w) (n := 9) (fa := 189) (cd := .ref 188) (gls w (by kernel_rfl)) (FS.le (F_write w) (by decide)) (bls w (by kernel_rfl) (by kernel_rfl)) L
 rw [e9]
 refine q1.ok _ _ _ (asg_of (v12_at (T := T) (S := lw4 sc x y bits k ah (octN T) cutv fr la (hpM ms xs T X Y)) rfl rfl (by exact tA ‹_› (by decide)) hT (hpM_low jX _))) A s as _ E R r fun as2 g2 t2 f2 r2 s2 v2 => ?_
 replace v2 := v2.inv; obtain rfl := v2
 exact h as2 g2 t2 r2 s2
theorem law13 (hT : ∀ r ∈ T, RowOk r) (tl : T.length ≤ 50) (jX : Jk X) {D : Addr} (R : Room 9 A) (hfr : A.frames = some [envW L]) (r : Rel (cx w) (envW L) NLw as (lw4 sc x y bits k ah (octN T) cutv (some (.raw (.ref D))) (some (.byt (octN (srtN T)))) (hpM ms xs T X Y)) s.heap) (sok : SetOk (cx w) (envW L) as s.heap D (keysOf T))
  (h : ∀ as' h' tk, Rel (cx w) (envW L) NLw as' (lw4 sc x y bits k ah (octN T) cutv (some (.raw (.ref D))) (some (.byt (octN (srtN T)))) (hpM ms xs T X Y)) h' → Step (cx w) (envW L) as s.heap as' h' → Q (.ret (.bool true)) { s with heap := h', toks := tk }) : wpAny (model (cx w).prog (cx w).w) A (exec (lwS 13) (envW L)) Q E s := by
 obtain ⟨l, m, fl, fr', fe, e, r13, p1, p2, p3, p4, p5, p6, p7, e8, ql, qm, qfl, qfr, qfe, qe, qr, n1, n2, b1, b2, he1, he2⟩ := law_s13 (C := cx w) (n := 9) (fa := 189) (cd := .ref 188) (gls w (by kernel_rfl)) (bls w (by kernel_rfl) (by kernel_rfl)) (bls w (by kernel_rfl) (by kernel_rfl)) L
 obtain ⟨o, fd, hb, hd⟩ := (D_law_unpack w).func
 have pm := srt_perm T
 have hS : ∀ r ∈ srtN T, RowOk r := fun r m => hT r (pm.mem_iff.mp m)
 have sl : (srtN T).length ≤ 50 := by rw [pm.length_eq]; exact tl
 have ol : (octN (srtN T)).length ≤ 1000 := by have := enc_le (srtN T) [] hS; unfold octN; lia
 have U := U_at (H := hpM ms xs T X Y) w (fun k => hpM_low jX k) (hpM_flat jX) hS (by exact tA ‹_› (by decide)) (j := (srtN T).length) (x0 := octN (srtN T)) (rest := []) (by rw [List.append_nil, List.take_of_length_le (by rw [recsW_len]; exact Nat.le_refl _)]) (by exact tA ‹_› (by decide)) (.inl rfl)
 rw [List.take_length] at U
 have hl := laid_len (T := T) fun r m => (hT r m).len
 have kz : (keysOf T).length < 4000 := by rw [keys_len]; lia
 generalize hS8 : lw4 sc x y bits k ah (octN T) cutv (some (.raw (.ref D))) (some (.byt (octN (srtN T)))) (hpM ms xs T X Y) = S8 at r h
 have l13 : s_loc 13 S8 = some (.byt (octN (srtN T)), S8) := by subst hS8; rfl
 have l12 : s_loc 12 S8 = some (.raw (.ref D), S8) := by subst hS8; rfl
 have l5 : s_loc 5 S8 = some (.own 3, S8) := by subst hS8; rfl
 have h3 : S8.hp[3]? = some (.lst (txts T)) := by subst hS8; rfl
 have hh : S8.hp = hpM ms xs T X Y := by subst hS8; rfl
 rw [e8]
 refine wpAny_Return_some (and_pt (wpAny_Compare1 ?_ b2))
 refine ql.ok _ _ _ (len_byt l13 ol) A s as _ _ R r fun as1 g1 t1 v1 r1 s1 x1 => ?_
 refine wpAny_BinOp (qm.ok _ _ _ (v13m_at l5 h3 (by exact tA ‹_› (by decide))) A _ as1 _ _ R r1 fun as2 g2 t2 v2 r2 s2 x2 => ?_)
 have so2 := (sok.step s1).step s2
 refine eval_len_set (s := { s with heap := g2, toks := t2 }) R r2 so2 kz (qfl.ok _ _ _ rfl) (qfr.ok _ _ _ l12) n1 he1 fun as3 g3 t3 tt r3 s3 => ?_
 refine add_ok (C := cx w) (n := 9) (env := envW L) (ns := NLw) (a := .int ((2 * T.length : Nat) : Int)) (b := .int ((dcnt (keysOf T) : Nat) : Int)) (σ := S8) (σ' := S8) (c := .int (((2 * T.length : Nat) : Int) + ((dcnt (keysOf T) : Nat) : Int))) rfl A { s with heap := g3, toks := t3 } as3 _ _ _ _ R r3 (r2.move s3 x2) (.int _ _) fun as4 g4 t4 v4 r4 s4 x4 => ?_
 have hc : cmpV .Eq (.int ((octN (srtN T)).length : Nat)) (.int (((2 * T.length : Nat) : Int) + ((dcnt (keysOf T) : Nat) : Int))) S8 = some true := by
  show some (((octN (srtN T)).length : Int) == (((2 * T.length : Nat) : Int) + ((dcnt (keysOf T) : Nat) : Int))) = _
  rw [show ((octN (srtN T)).length : Int) = ((2 * T.length : Nat) : Int) + ((dcnt (keysOf T) : Nat) : Int) by unfold octN; lia, beq_self_eq_true]
 refine cmp_ok (C := cx w) (n := 9) (env := envW L) (ns := NLw) hc A { s with heap := g4, toks := t4 } as4 _ _ _ _ R r4 (r3.move s4 (r2.move s3 (r1.move s2 x1))) x4 fun as5 g5 t5 v5 r5 s5 x5 => ?_
 replace x5 := x5.inv; obtain rfl := x5
 refine ⟨rfl, ?_⟩
 have U' : SpcF (cx w) 9 (.ref 184) [.byt (octN (srtN T))] S8.hp (.lst (txts (srtN T))) S8.hp := by rw [hh]; exact U
 have fin := tea_cmp (op := .Eq) R (tea_call R hfr rfl rfl (qfe.ok S8 _ _ rfl) hb hd n2 (qe.ok S8 _ _ l13) U' he2) (qr.ok S8 _ _ (sort_at l5 h3 (by exact tA ‹_› (by decide)))) (eq_true (T := srtN T) (by decide) (okL_rows hS) rfl rfl) b1 (pos := p5)
 refine fin { s with heap := g5, toks := t5 } as5 _ _ r5 fun as6 g6 t6 v6 r6 s6 x6 => ?_
 replace x6 := x6.inv; obtain rfl := x6
 exact h as6 g6 t6 r6 (s1.trans (s2.trans (s3.trans (s4.trans (s5.trans s6)))))
end
theorem law_call (w : World) {xs : List Int} (hz : xs.length ≤ 1000) {A : Around} {s : Shared} {vals : List Value} {Q : Value → Shared → Prop} {E : Value → Shared → Prop} (hfr : A.frames = some []) (R : Room 10 A) (wd : (cx w).Wd s.heap) (hr : HR (cx w) [] [] s.heap) (hv : VRs [] s.heap [.lst (vInts xs)] vals)
  (fin : ∀ h' tk, (cx w).Wd h' → KeepA (cx w) [] s.heap [] h' → Q (.bool true) { s with heap := h', toks := tk }) : wpAny (model (cx w).prog (cx w).w) A (call (.ref 189) vals) Q E s := by
 refine def_enterF (n := 9) (more := ["modes", "x", "y", "rows", "told", "bits", "ends", "k", "ahead", "octets", "cut", "fronts", "laid"]) (hp := []) (D_law w) rfl (by decide +kernel) R wd hr hv fun A' h₁ tk₁ eA R' r0 keep ab => ?_
 have hfr' : A'.frames = some [envW s.heap.objs.size] := by rw [eA]; exact Around.frames_deeper hfr
 clear eA
 obtain ⟨x, y, bits, k, ah, X, jX, eA⟩ := lawA_at hz
 have TA := (cb_lawA (C := cx w) (n := 9) (fa := 189) (cd := .ref 188) (gls w (by kernel_rfl)) (FS.le (F_row w) (by decide)) (gls w (by kernel_rfl)) (FS.le (F_filemode w) (by decide)) (gls w (by kernel_rfl)) (FS.le (F_write w) (by decide)) (bls w (by kernel_rfl) (by kernel_rfl)) (bls w (by kernel_rfl) (by kernel_rfl)) (bls w (by kernel_rfl) (by kernel_rfl)) s.heap.objs.size).ok _ _ _ eA
 obtain ⟨m1, m2⟩ := modes_ok (xs.take 6)
 have l6 : (xs.take 6).length ≤ 6 := by rw [List.length_take]; exact Nat.min_le_left _ _
 obtain ⟨hT, _⟩ := told_ok m1
 have tl := told_len (modesN (xs.take 6))
 have tn := told_ne' (xs.take 6)
 generalize modesN (xs.take 6) = ms at *
 generalize toldN ms = T at *
 have tl' : T.length ≤ 50 := by lia
 have ol0 : 0 < (octN T).length := by
  cases T with
  | nil => exact absurd rfl tn
  | cons a b =>
   have := encR_len2 (recsW [] (a :: b))
   rw [recsW_len, List.length_cons] at this
   unfold octN
   exact Nat.succ_pos _
 rw [law_body]
 refine tb_then TA R' r0 fun as1 g1 t1 r1 s1 => ?_
 refine wpAny_execs_cons (law8 hT tl' jX R' hfr' r1 fun as2 g2 t2 r2 s2 => ?_)
 refine wpAny_execs_cons (law9 hT tl' ol0 R' r2 fun as3 g3 t3 r3 s3 => ?_)
 refine wpAny_execs_cons (law10 hT tl' jX (Nat.le_of_lt (Nat.mod_lt _ ol0)) R' hfr' r3 fun as4 g4 t4 j r4 s4 => ?_)
 refine wpAny_execs_cons (law11 tl' hT R' r4 fun as5 g5 t5 D r5 s5 so => ?_)
 refine wpAny_execs_cons (law12 tl' hT jX R' r5 fun as6 g6 t6 r6 s6 => ?_)
 refine wpAny_execs_cons (law13 hT tl' jX R' hfr' r6 (so.step s6) fun as7 g7 t7 r7 s7 => ?_)
 have st := s1.trans (s2.trans (s3.trans (s4.trans (s5.trans (s6.trans s7)))))
 refine fin g7 t7 r7.wd ⟨fun b o e na nt => st.keep b o (keep b o e) (Nat.ne_of_lt (Heap.lt_size e)) (fun z => ?_) na nt, ⟨[], by simp, by simp⟩, fun b o e => st.live b o (keep b o e)⟩
 obtain ⟨c, hc, rfl⟩ := List.mem_map.mp (mem_mc z)
 exact absurd (Heap.lt_size e) (Nat.not_lt.mpr (Nat.le_of_lt (ab c hc)))
end
noncomputable section
theorem reads_ints {R : WRecords} {cl : Str → Option Addr} {h : Heap} : ∀ {ns : List Int} {vs : List Value} {as : List Addr}, ReadsAllW R cl h vs (ns.map .int) as → VRs [] h (vInts ns) vs
 | [], _, _, r => by cases r; exact .nil
 | n :: ns, _, _, r => by
  cases r with | cons a b =>
  cases a
  exact .cons _ _ _ _ (.int _ _) (reads_ints b)
theorem wd_of {w : World} {h : Heap} (Y : (frag w.params).In h) : (cx w).Wd h := by
 have g1 : h.get? 153 = some (tabObj #[]) := Y 153 _ (by kernel_rfl)
 have g2 : h.get? 92 = some (tabObj #[]) := Y 92 _ (by kernel_rfl)
 refine ⟨fun a o e => Y a o (fragT_in e), fun a m => ?_, ⟨#[], g1, trivial, fun cv e => by cases e⟩, ⟨#[], g2, trivial, fun cv e => by cases e⟩⟩
 have m' : a ∈ [153, 92] := m
 simp only [List.mem_cons, List.not_mem_nil, or_false] at m'
 rcases m' with rfl | rfl
 ·exact ⟨_, g1⟩
 ·exact ⟨_, g2⟩
theorem ns_eq {h : Heap} {a : Addr} {m m' : Str → Option Value} (x : h.Ns a m) (y : h.Ns a m') (n : Str) : m n = m' n := by
 obtain ⟨o, es, ep, e, d, _, q⟩ := x
 obtain ⟨o', es', ep', e', d', _, q'⟩ := y
 rw [e] at e'; cases e'
 rw [d] at d'; cases d'
 rw [← q, ← q']
theorem oldK {w : World} {h h' : Heap} (Y : (frag w.params).In h) (wd : (cx w).Wd h') (k : KeepA (cx w) [] h [] h') : OldK h h' := by
 refine ⟨fun b o e => ?_, k.live⟩
 by_cases m : b ∈ (cx w).T
 ·right; left
  obtain ⟨vs, g⟩ := wd.T b m
  have m' : b ∈ [153, 92] := m
  simp only [List.mem_cons, List.not_mem_nil, or_false] at m'
  rcases m' with rfl | rfl
  ·have g1 : h.get? 153 = some (tabObj #[]) := Y 153 _ (by kernel_rfl)
   rw [g1] at e; cases e
   exact ⟨⟨157, o157 w.params, fldsOf (o157 w.params), Y 157 _ (by kernel_rfl), by kernel_rfl, by kernel_rfl, by kernel_rfl⟩, rfl, #[], vs, rfl, by rw [g]; simp⟩
  ·have g1 : h.get? 92 = some (tabObj #[]) := Y 92 _ (by kernel_rfl)
   rw [g1] at e; cases e
   exact ⟨⟨96, o96 w.params, fldsOf (o96 w.params), Y 96 _ (by kernel_rfl), by kernel_rfl, by kernel_rfl, by kernel_rfl⟩, rfl, #[], vs, rfl, by rw [g]; simp⟩
 ·exact .inl (k.keep b o e (by simp) m)
theorem room : Room 10 callerA := ⟨rfl, by decide +kernel, by decide +kernel⟩
theorem holdsW {R : WRecords} {t : WTm} {e : WCtx} {b : Bool} (h : t.value R e = some (.bool b)) : t.holds R e = b := by
 unfold WTm.holds; rw [h]; cases b <;> rfl
theorem walk01 : WalkO qv lsv (fun _ _ => True) H01.says rw01.row.toRowW dLaw.1 dLaw.2 fun f vs => PySem.call f vs := by
 intro w s₀ s₁ mg mb Gr Y a o pm cd doc dV kV ho hd hrec hdf hmg hgens args vals as hpre hlay hrd hwell hne
 have Y' : (frag w.params).In s₁.heap := kIn_of Y
 have wd := wd_of Y'
 have ea : a = 189 := by
  have e1 : mgf w.params dLaw.1.name = some (.ref a) := (ns_eq ((cx w).hg _ wd.base) Gr.T.g _).trans hmg
  have e2 : mgf w.params dLaw.1.name = some (.ref 189) := by kernel_rfl
  rw [e1] at e2
  exact Value.ref.inj (Option.some.inj e2)
 subst ea
 obtain ⟨h1, h2⟩ := pre_splitW hpre
 obtain ⟨ns, rfl⟩ : ∃ ns : List Int, args = [.list (ns.map .int)] := by
  match args, h1 with
  | [d], h1 =>
   have h1' : (WShape.has rw01.row.toRowW.records d (.list .int) && true) = true := h1
   rw [Bool.and_true] at h1'
   obtain ⟨xs, rfl, h3⟩ := hasW_list h1'
   obtain ⟨ns, rfl⟩ := items_int h3
   exact ⟨ns, rfl⟩
  | [], h1 => cases h1
  | _ :: _ :: _, h1 =>
   have h1' : (_ && false) = true := h1
   rw [Bool.and_false] at h1'
   cases h1'
 have hz : ns.length ≤ 63 := by
  have e : rw01.row.toRowW.pre = .and (.not (.lt (.lit (.int 63)) (.len (.arg 0)))) (.lit (.bool true)) := rfl
  rw [e] at h2
  have l : PySem.W.less? (.int 63) (.int (ns.length : Int)) = some (decide ((63 : Int) < ns.length)) := by simp [PySem.W.less?, PySem.W.Num.less?]
  simp [WTm.holds, WTm.value] at h2
  rw [l] at h2
  by_cases q : (63 : Int) < ns.length
  ·rw [decide_eq_true q] at h2
   cases h2
  ·lia
 cases hrd with | cons r1 r2 =>
 cases r2
 cases r1 with | list g c d r3 =>
 rename_i l ol vs n as'
 have v0 : VRs [] s₁.heap [.lst (vInts ns)] [.ref l] := .cons _ _ _ _ (.lst _ l vs.toList ⟨ol, g, c, n, by simpa using d⟩ (by simp) (reads_ints r3)) .nil
 refine law_call w (xs := ns) (by exact tA ‹_› (by decide)) rfl room wd ⟨rfl, List.nodup_nil, by simp, (by intro p hp; cases hp), by simp⟩ v0 fun h' tk wd' k => ?_
 refine ⟨.inl ⟨.bool true, .bool true, [], rfl, fun _ => rfl, .bool _, ?_, fun _ => ⟨List.nodup_nil, by simp⟩⟩, oldK Y' wd' k, rfl, ?_⟩
 ·show (WShape.has rw01.row.toRowW.records (.bool true) .bool && WTm.holds rw01.row.toRowW.records (.eq .res (.lit (.bool true))) { args := [.list (ns.map .int)], res := some (.bool true), after := [.list (ns.map .int)] }) = true
  have sm : PySem.W.same (.bool true) (.bool true) = true := by simp [PySem.W.same]
  exact Bool.and_eq_true_iff.mpr ⟨rfl, holdsW (show _ = some (WData.bool (PySem.W.same (.bool true) (.bool true))) from rfl) |>.trans sm⟩
 ·exact AllBare.of_eq hgens
theorem holds01 : rw01.Holds := hd01 walk01
end
end Mine
end
set_option maxRecDepth 100000 in
set_option maxHeartbeats 1000000 in
theorem PySem.Challenge.cw_rx0055_01_holds : PySem.Challenge.rw_rx0055_01.Holds := by
  exact Mine.holds01
