import PyProof.Rows.All
import Wide.All
import OpenK.AllK
import Wide.FinOn
import PySem.Challenge.RW_gl0003_03
set_option Elab.async false
set_option genInjectivity false
set_option genSizeOf false
set_option maxRecDepth 10000
namespace Ev
open PySem PySem.W PySem.Spec PySem.Calls PyProof.Rows
noncomputable abbrev Fz := Addr → Option Obj
noncomputable def Sat (F : Fz) (h : Heap) : Prop := ∀ a o, F a = some o → h.get? a = some o
noncomputable def Sub (F F' : Fz) : Prop := ∀ a o, F a = some o → F' a = some o
theorem Sub.refl (F : Fz) : Sub F F := fun _ _ h => h
theorem Sub.trans {F G K : Fz} (x : Sub F G) (y : Sub G K) : Sub F K := fun a o h => y a o (x a o h)
mutual
noncomputable def keyOk : PyData → Bool
  | .int _ => true
  | .str x => PyData.strOk x
  | .tuple ds => keyOks ds
  | _ => false
noncomputable def keyOks : List PyData → Bool
  | [] => true
  | d :: ds => keyOk d && keyOks ds
end
noncomputable def kindK : PyData → Option Bool
  | .int _ => some true
  | .tuple _ => some false
  | _ => none
mutual
inductive R (H : PyData → Int) (F : Fz) : Value → PyData → Prop
  | none : R H F .none .none
  | bool (b) : R H F (.bool b) (.bool b)
  | int (i t) : R H F (.int i t) (.int i)
  | str (x t) : PyData.strOk x = true → R H F (.str x t) (.str x)
  | tuple {a vs n ds} : F a = some (seqObj "tuple" vs n) → RL H F vs.toList ds → R H F (.ref a) (.tuple ds)
  | list {a vs n ds} : F a = some (seqObj "list" vs n) → RL H F vs.toList ds → R H F (.ref a) (.list ds)
  | dict {a o es n kvs kd} : (a == sysModules) = false → F a = some o → o.ExactDict → o.data = .dict es n → RD H F kd es.toList kvs → (kvs.map (·.1)).Nodup → R H F (.ref a) (.dict kvs)
inductive RL (H : PyData → Int) (F : Fz) : List Value → List PyData → Prop
  | nil : RL H F [] []
  | cons {v vs d ds} : R H F v d → RL H F vs ds → RL H F (v :: vs) (d :: ds)
inductive RD (H : PyData → Int) (F : Fz) : Bool → List DictEntry → List (PyData × PyData) → Prop
  | nil {kd} : RD H F kd [] []
  | cons {kd e es k d kvs} : e.hash = H k → kindK k = some kd → keyOk k = true → k.depth ≤ 6 → R H F e.key k → R H F e.val d → RD H F kd es kvs → RD H F kd (e :: es) ((k, d) :: kvs)
end
variable {H : PyData → Int}
section
variable {α β : Type} {M : Model} {A : Around} {a b : Sem α} {k : α → Sem β} {P : β → Shared → Prop} {Q : α → Shared → Prop} {E : Value → Shared → Prop} {s : Shared}
theorem w_true (h : wpAny M A a Q E s) : wpAny M A (if true = true then a else b) Q E s := h
theorem w_false (h : wpAny M A b Q E s) : wpAny M A (if false = true then a else b) Q E s := h
theorem w_nfalse (h : wpAny M A a Q E s) : wpAny M A (if (!false) = true then a else b) Q E s := h
theorem w_ntrue (h : wpAny M A b Q E s) : wpAny M A (if (!true) = true then a else b) Q E s := h
theorem w_neg {c : Prop} [Decidable c] (hc : ¬ c) (h : wpAny M A b Q E s) : wpAny M A (if c then a else b) Q E s := by rw [if_neg hc]; exact h
theorem w_pos {c : Prop} [Decidable c] (hc : c) (h : wpAny M A a Q E s) : wpAny M A (if c then a else b) Q E s := by rw [if_pos hc]; exact h
theorem wb_neg {c : Prop} [Decidable c] (hc : ¬ c) (h : wpAny M A (b >>= k) P E s) : wpAny M A ((if c then a else b) >>= k) P E s := by rw [if_neg hc]; exact h
end
theorem ns {α : Type _} {x : α} {P : Prop} (h : none = some x) : P := nomatch h
theorem nb {P : Prop} (h : false = true) : P := nomatch h
theorem si {α : Type _} {x y : α} (h : some x = some y) : x = y := Option.some.inj h
theorem ite_some {p : Prop} [Decidable p] {α : Type} {x : Option α} {y : α} (h : (if p then x else none) = some y) : p ∧ x = some y := by
  by_cases hp : p
  · rw [if_pos hp] at h; exact ⟨hp, h⟩
  · rw [if_neg hp] at h; (first | exact ns h | exact nb h | obtain rfl := si h | cases h)
theorem RL.ind {F : Fz} {P : List Value → List PyData → Prop} (n : P [] []) (c : ∀ {v vs d ds}, R H F v d → RL H F vs ds → P vs ds → P (v :: vs) (d :: ds)) : ∀ {vs ds}, RL H F vs ds → P vs ds := by
  intro vs
  induction vs with
  | nil => intro ds h; (first | exact ns h | exact nb h | obtain rfl := si h | cases h); exact n
  | cons v vs ih => intro ds h; cases h with | cons a b => exact c a b (ih b)
theorem RD.ind {F : Fz} {kd : Bool} {P : List DictEntry → List (PyData × PyData) → Prop} (n : P [] []) (c : ∀ {e es k d kvs}, e.hash = H k → kindK k = some kd → keyOk k = true → k.depth ≤ 6 → R H F e.key k → R H F e.val d → RD H F kd es kvs → P es kvs → P (e :: es) ((k, d) :: kvs)) : ∀ {es kvs}, RD H F kd es kvs → P es kvs := by
  intro es
  induction es with
  | nil => intro kvs h; (first | exact ns h | exact nb h | obtain rfl := si h | cases h); exact n
  | cons e es ih => intro kvs h; cases h with | cons a b c' d x y r => exact c a b c' d x y r (ih r)
theorem R.mono {F G : Fz} (s : Sub F G) {v d} (h : R H F v d) : R H G v d :=
  R.rec (motive_1 := fun v d _ => R H G v d) (motive_2 := fun vs ds _ => RL H G vs ds) (motive_3 := fun kd es kvs _ => RD H G kd es kvs)
    .none .bool .int .str (fun ho _ q => .tuple (s _ _ ho) q) (fun ho _ q => .list (s _ _ ho) q) (fun hs ho hc hd _ hn q => .dict hs (s _ _ ho) hc hd q hn)
    .nil (fun _ _ a b => .cons a b) .nil (fun a b c d _ _ _ x y r => .cons a b c d x y r) h
theorem RL.mono {F G : Fz} (s : Sub F G) {v d} (h : RL H F v d) : RL H G v d := RL.ind (P := fun v d => RL H G v d) .nil (fun x _ r => .cons (x.mono s) r) h
theorem RD.mono {F G : Fz} (s : Sub F G) {kd v d} (h : RD H F kd v d) : RD H G kd v d := RD.ind (P := fun v d => RD H G kd v d) .nil (fun a b c d x y _ r => .cons a b c d (x.mono s) (y.mono s) r) h
theorem R.reads {F : Fz} {h : Heap} (s : Sat F h) {v d} (r : R H F v d) : ∃ as, Reads h v d as :=
  R.rec (motive_1 := fun v d _ => ∃ as, Reads h v d as) (motive_2 := fun vs ds _ => ∃ as, ReadsAll h vs ds as) (motive_3 := fun _ es kvs _ => ∃ as bs, ReadsAll h (es.map fun e : DictEntry => e.key) (kvs.map fun x : PyData × PyData => x.1) as ∧ ReadsAll h (es.map fun e : DictEntry => e.val) (kvs.map fun x : PyData × PyData => x.2) bs)
    ⟨_, .none⟩ (fun b => ⟨_, .bool b⟩) (fun i t => ⟨_, .int i t⟩) (fun x t _ => ⟨_, .str x t⟩) (fun ho _ q => q.elim fun _ q => ⟨_, .tuple (s _ _ ho) rfl rfl q⟩) (fun ho _ q => q.elim fun _ q => ⟨_, .list (s _ _ ho) rfl rfl q⟩)
    (fun _ ho hc hd _ _ q => q.elim fun _ q => q.elim fun _ q => ⟨_, .dict (s _ _ ho) hc.1 hd q.1 q.2⟩) ⟨_, .nil⟩ (fun _ _ a b => a.elim fun _ a => b.elim fun _ b => ⟨_, .cons a b⟩) ⟨_, _, .nil, .nil⟩
    (fun _ _ _ _ _ _ _ a b c => a.elim fun _ a => b.elim fun _ b => c.elim fun _ c => c.elim fun _ c => ⟨_, _, .cons a c.1, .cons b c.2⟩) r
theorem RL.reads {F : Fz} {h : Heap} (s : Sat F h) {v d} (r : RL H F v d) : ∃ as, ReadsAll h v d as := RL.ind (P := fun v d => ∃ as, ReadsAll h v d as) ⟨_, .nil⟩ (fun x _ b => (x.reads s).elim fun _ a => b.elim fun _ b => ⟨_, .cons a b⟩) r
theorem RD.reads {F : Fz} {h : Heap} (s : Sat F h) {kd es kvs} (r : RD H F kd es kvs) : ∃ as bs, ReadsAll h (es.map (·.key)) (kvs.map (·.1)) as ∧ ReadsAll h (es.map (·.val)) (kvs.map (·.2)) bs :=
  RD.ind (P := fun es kvs => ∃ as bs, ReadsAll h (es.map fun e : DictEntry => e.key) (kvs.map fun x : PyData × PyData => x.1) as ∧ ReadsAll h (es.map fun e : DictEntry => e.val) (kvs.map fun x : PyData × PyData => x.2) bs) ⟨_, _, .nil, .nil⟩ (fun _ _ _ _ x y _ c => (x.reads s).elim fun _ a => (y.reads s).elim fun _ b => c.elim fun _ c => c.elim fun _ c => ⟨_, _, .cons a c.1, .cons b c.2⟩) r
theorem RL.length {F : Fz} {vs ds} (r : RL H F vs ds) : vs.length = ds.length := RL.ind (P := fun vs ds => vs.length = ds.length) rfl (fun _ _ e => congrArg (· + 1) e) r
theorem RL.append {F : Fz} {vs ds ws es} (r : RL H F vs ds) (y : RL H F ws es) : RL H F (vs ++ ws) (ds ++ es) := RL.ind (P := fun vs ds => RL H F (vs ++ ws) (ds ++ es)) y (fun x _ q => .cons x q) r
theorem RL.get {F : Fz} {vs : List Value} {ds : List PyData} (r : RL H F vs ds) : ∀ {i : Nat} {d : PyData}, ds[i]? = some d → ∃ v, vs[i]? = some v ∧ R H F v d := fun {i d} e =>
  RL.ind (P := fun vs ds => ∀ (i : Nat) (d : PyData), ds[i]? = some d → ∃ v, vs[i]? = some v ∧ R H F v d) (fun _ _ e => nomatch e) (fun h _ ih i _ e => by
    cases i with
    | zero => (first | exact ns e | exact nb e | obtain rfl := si e | cases e); exact ⟨_, rfl, h⟩
    | succ i => exact ih i _ e) r i d e
theorem RL.one {F : Fz} {v d} (h : R H F v d) : RL H F [v] [d] := .cons h .nil
theorem RL.take {F : Fz} {vs ds} (r : RL H F vs ds) : ∀ n, RL H F (vs.take n) (ds.take n) := RL.ind (P := fun vs ds => ∀ n, RL H F (vs.take n) (ds.take n)) (fun n => by cases n <;> exact .nil) (fun h _ q n => by
  cases n with
  | zero => exact .nil
  | succ n => exact .cons h (q n)) r
theorem RL.drop {F : Fz} {vs ds} (r : RL H F vs ds) : ∀ n, RL H F (vs.drop n) (ds.drop n) := RL.ind (P := fun vs ds => ∀ n, RL H F (vs.drop n) (ds.drop n)) (fun n => by cases n <;> exact .nil) (fun h r q n => by
  cases n with
  | zero => exact .cons h r
  | succ n => exact q n) r
theorem RL.set {F : Fz} {vs ds} (r : RL H F vs ds) : ∀ {v d} (i), R H F v d → RL H F (vs.set i v) (ds.set i d) := fun {v d} i y => RL.ind (P := fun vs ds => ∀ i, RL H F (vs.set i v) (ds.set i d)) (fun _ => .nil) (fun h r q i => by
  cases i with
  | zero => exact .cons y r
  | succ i => exact .cons h (q i)) r i
structure Grow (F : Fz) (s : Shared) (F' : Fz) (s' : Shared) : Prop where
  keep : ∀ b o, s.heap.get? b = some o → s'.heap.get? b = some o
  sub : Sub F F'
  fresh : ∀ a o, F' a = some o → F a = some o ∨ s.heap.get? a = none
  sat : Sat F' s'.heap
  gens : s'.gens = s.gens
  drawn : s'.drawn = s.drawn
  os : s'.os = s.os
theorem Grow.refl {F : Fz} {s : Shared} (h : Sat F s.heap) : Grow F s F s := ⟨fun _ _ e => e, Sub.refl F, fun _ _ e => .inl e, h, rfl, rfl, rfl⟩
theorem Grow.tok {F : Fz} {s : Shared} (h : Sat F s.heap) (t : Nat) : Grow F s F { s with toks := t } := ⟨fun _ _ e => e, Sub.refl F, fun _ _ e => .inl e, h, rfl, rfl, rfl⟩
theorem Grow.trans {F F' F'' : Fz} {s s' s'' : Shared} (x : Grow F s F' s') (y : Grow F' s' F'' s'') : Grow F s F'' s'' where
  keep := fun b o e => y.keep b o (x.keep b o e)
  sub := x.sub.trans y.sub
  fresh := fun a o e => by
    rcases y.fresh a o e with h | h
    · exact x.fresh a o h
    · right
      cases q : s.heap.get? a with
      | none => rfl
      | some o' => rw [x.keep a o' q] at h; (first | exact ns h | exact nb h | obtain rfl := si h | cases h)
  sat := y.sat
  gens := y.gens.trans x.gens
  drawn := y.drawn.trans x.drawn
  os := y.os.trans x.os
theorem Grow.ofKeep {F : Fz} {s s' : Shared} (h : Sat F s.heap) (k : ∀ b o, s.heap.get? b = some o → s'.heap.get? b = some o) (g : s'.gens = s.gens) (d : s'.drawn = s.drawn) (o : s'.os = s.os) : Grow F s F s' :=
  ⟨k, Sub.refl F, fun _ _ e => .inl e, fun a o e => k a o (h a o e), g, d, o⟩
noncomputable def put (F : Fz) (a : Addr) (o : Obj) : Fz := fun b => if b = a then some o else F b
theorem put_self (F : Fz) (a : Addr) (o : Obj) : put F a o a = some o := by simp [put]
theorem put_sub {F : Fz} {a : Addr} {o : Obj} (h : F a = none) : Sub F (put F a o) := fun b o' e => by
  unfold put; by_cases q : b = a
  · subst q; rw [h] at e; (first | exact ns e | exact nb e | obtain rfl := si e | cases e)
  · rw [if_neg q]; exact e
theorem sat_fresh {F : Fz} {h : Heap} (x : Sat F h) {a : Addr} (e : h.get? a = none) : F a = none := by
  cases q : F a with
  | none => rfl
  | some o => rw [x a o q] at e; (first | exact ns e | exact nb e | obtain rfl := si e | cases e)
theorem get_size (h : Heap) : h.get? h.objs.size = none := by
  cases q : h.get? h.objs.size with
  | none => rfl
  | some o => exact absurd (Heap.lt_size q) (Nat.lt_irrefl _)
theorem Grow.putAt {F : Fz} {s s' : Shared} (h : Sat F s.heap) (k : ∀ b o, s.heap.get? b = some o → s'.heap.get? b = some o) {a : Addr} {o : Obj} (e : s.heap.get? a = none) (e' : s'.heap.get? a = some o) (g : s'.gens = s.gens) (d : s'.drawn = s.drawn) (os : s'.os = s.os) :
    Grow F s (put F a o) s' := ⟨k, put_sub (sat_fresh h e), fun b o' q => by
    unfold put at q; by_cases z : b = a
    · subst z; exact .inr e
    · rw [if_neg z] at q; exact .inl q, fun b o' q => by
    unfold put at q; by_cases z : b = a
    · subst z; rw [if_pos rfl] at q; (first | exact ns q | exact nb q | obtain rfl := si q | cases q); exact e'
    · rw [if_neg z] at q; exact k b o' (h b o' q), g, d, os⟩
theorem Grow.push {F : Fz} {s : Shared} (h : Sat F s.heap) (o : Obj) (hf : o.isFreed = false) (t : Nat := s.toks) : Grow F s (put F s.heap.objs.size o) { s with heap := s.heap.push o, toks := t } :=
  Grow.putAt h (fun _ _ e => Heap.get?_push_of_some _ e) (get_size _) (Heap.get?_push_size _ hf) rfl rfl rfl
noncomputable abbrev St := List (Option (Bool × PyData))
noncomputable def sget (σ : St) (i : Nat) : Option (Bool × PyData) := match σ[i]? with | some x => x | none => none
inductive Lk (env : Env) (h : Heap) (x : Str) (v : Value) : Prop
  | loc {m : Str → Option Value} : env.kindOf x = some .local → h.Ns env.locals m → m x = some v → Lk env h x v
  | cell {c : Addr} : env.kindOf x = some .cell → env.cells.lookup x = some c → h.IsCell c (some v) → Lk env h x v
  | free {c : Addr} : env.kindOf x = some .free → env.cells.lookup x = some c → h.IsCell c (some v) → Lk env h x v
theorem Lk.keeps {env : Env} {h h' : Heap} {x : Str} {v : Value} (k : ∀ b o, h.get? b = some o → h'.get? b = some o) : Lk env h x v → Lk env h' x v
  | .loc a b c => .loc a (b.keeps k) c
  | .cell a b c => .cell a b (c.keeps k)
  | .free a b c => .free a b (c.keeps k)
inductive Ow (H : PyData → Int) (F : Fz) (h : Heap) (a : Addr) : PyData → Prop
  | list {vs n ds} : h.get? a = some (seqObj "list" vs n) → RL H F vs.toList ds → Ow H F h a (.list ds)
  | dict {o es n kvs kd} : (a == sysModules) = false → h.get? a = some o → o.ExactDict → o.data = .dict es n → RD H F kd es.toList kvs → (kvs.map (·.1)).Nodup → Ow H F h a (.dict kvs)
theorem Ow.grow {F F' : Fz} {h h' : Heap} {a : Addr} {d : PyData} (s : Sub F F') (k : ∀ o, h.get? a = some o → h'.get? a = some o) : Ow H F h a d → Ow H F' h' a d
  | .list ho r => .list (k _ ho) (r.mono s)
  | .dict hs ho hc hd r hn => .dict hs (k _ ho) hc hd (r.mono s) hn
theorem Ow.there {F : Fz} {h : Heap} {a : Addr} {d : PyData} : Ow H F h a d → ∃ o, h.get? a = some o
  | .list ho .. => ⟨_, ho⟩
  | .dict _ ho .. => ⟨_, ho⟩
structure Fs (H : PyData → Int) (names : List Str) (env : Env) (base : Fz) (low : Fz) (F : Fz) (h : Heap) (σ : St) : Prop where
  kind : env.scope.kind = .function
  glob : env.globals = mainGlobals
  blt : env.builtins = builtinsNs
  nodup : names.Nodup
  keep : ∀ b o, base b = some o → h.get? b = some o
  keepL : ∀ b o, low b = some o → h.get? b = some o
  sat : Sat F h
  ns : ∃ m, h.Ns env.locals m
  LF : F env.locals = none
  Lb : base env.locals = none
  Ll : low env.locals = none
  cell : ∀ x, env.kindOf x = some .cell → ∃ c v, env.cells.lookup x = some c ∧ h.IsCell c v ∧ F c = none ∧ low c = none
  cinj : ∀ x y c, env.kindOf x = some .cell → env.kindOf y = some .cell → env.cells.lookup x = some c → env.cells.lookup y = some c → x = y
  free : ∀ x c, env.kindOf x = some .free → env.cells.lookup x = some c → ∃ o, F c = some o
  vars : ∀ i x d, names[i]? = some x → sget σ i = some (false, d) → ∃ v, Lk env h x v ∧ R H F v d
  own : ∀ i x d, names[i]? = some x → sget σ i = some (true, d) → ∃ a, Lk env h x (.ref a) ∧ Ow H F h a d ∧ F a = none ∧ low a = none ∧ a ≠ env.locals
  oinj : ∀ i j x y d e a, names[i]? = some x → names[j]? = some y → sget σ i = some (true, d) → sget σ j = some (true, e) → Lk env h x (.ref a) → Lk env h y (.ref a) → i = j
theorem Fs.grow {names : List Str} {env : Env} {base : Fz} {low : Fz} {F F' : Fz} {s s' : Shared} {σ : St} (S : Fs H names env base low F s.heap σ) (g : Grow F s F' s') : Fs H names env base low F' s'.heap σ where
  kind := S.kind
  glob := S.glob
  blt := S.blt
  nodup := S.nodup
  keep := fun b o e => g.keep b o (S.keep b o e)
  keepL := fun b o e => g.keep b o (S.keepL b o e)
  sat := g.sat
  ns := let ⟨m, h⟩ := S.ns; ⟨m, h.keeps g.keep⟩
  LF := by
    cases q : F' env.locals with
    | none => rfl
    | some o =>
      rcases g.fresh _ _ q with h | h
      · rw [S.LF] at h; (first | exact ns h | exact nb h | obtain rfl := si h | cases h)
      · obtain ⟨m, oL, es, ep, ho, _⟩ := S.ns; rw [ho] at h; (first | exact ns h | exact nb h | obtain rfl := si h | cases h)
  Lb := S.Lb
  Ll := S.Ll
  cell := fun x hx => by
    obtain ⟨c, v, h1, h2, h3, h4⟩ := S.cell x hx
    refine ⟨c, v, h1, h2.keeps g.keep, ?_, h4⟩
    cases q : F' c with
    | none => rfl
    | some o =>
      rcases g.fresh _ _ q with h | h
      · rw [h3] at h; (first | exact ns h | exact nb h | obtain rfl := si h | cases h)
      · obtain ⟨o', ho, _⟩ := h2; rw [ho] at h; (first | exact ns h | exact nb h | obtain rfl := si h | cases h)
  cinj := S.cinj
  free := fun x c hx hc => let ⟨o, e⟩ := S.free x c hx hc; ⟨o, g.sub _ _ e⟩
  vars := fun i x d hi hd => let ⟨v, h1, h2⟩ := S.vars i x d hi hd; ⟨v, h1.keeps g.keep, h2.mono g.sub⟩
  own := fun i x d hi hd => by
    obtain ⟨a, h1, h2, h3, h4, h5⟩ := S.own i x d hi hd
    refine ⟨a, h1.keeps g.keep, h2.grow g.sub (g.keep a), ?_, h4, h5⟩
    cases q : F' a with
    | none => rfl
    | some o =>
      rcases g.fresh _ _ q with h | h
      · rw [h3] at h; (first | exact ns h | exact nb h | obtain rfl := si h | cases h)
      · obtain ⟨o', ho⟩ := h2.there; rw [ho] at h; (first | exact ns h | exact nb h | obtain rfl := si h | cases h)
  oinj := fun i j x y d e a hx hy hd he lx ly => by
    obtain ⟨a1, p1, _⟩ := S.own i x d hx hd
    obtain ⟨a2, p2, _⟩ := S.own j y e hy he
    have uniq : ∀ {z : Str} {v v' : Value}, Lk env s'.heap z v → Lk env s'.heap z v' → v = v' := by
      intro z v v' l l'
      cases l with
      | loc k n e =>
        cases l' with
        | loc k' n' e' =>
          obtain ⟨o, es, ep, ho, hd, hk, hm⟩ := n
          obtain ⟨o', es', ep', ho', hd', hk', hm'⟩ := n'
          rw [ho] at ho'; cases ho'
          rw [hd] at hd'; cases hd'
          have h1 := hm z
          have h2 := hm' z
          rw [e] at h1; rw [e'] at h2
          exact Option.some.inj (h1.symm.trans h2)
        | cell k' => rw [k] at k'; cases k'
        | free k' => rw [k] at k'; cases k'
      | cell k c i =>
        cases l' with
        | loc k' => rw [k] at k'; cases k'
        | cell k' c' i' =>
          rw [c] at c'; cases c'
          obtain ⟨o, ho, hd⟩ := i
          obtain ⟨o', ho', hd'⟩ := i'
          rw [ho] at ho'; cases ho'
          rw [hd] at hd'; cases hd'; rfl
        | free k' => rw [k] at k'; cases k'
      | free k c i =>
        cases l' with
        | loc k' => rw [k] at k'; cases k'
        | cell k' => rw [k] at k'; cases k'
        | free k' c' i' =>
          rw [c] at c'; cases c'
          obtain ⟨o, ho, hd⟩ := i
          obtain ⟨o', ho', hd'⟩ := i'
          rw [ho] at ho'; cases ho'
          rw [hd] at hd'; cases hd'; rfl
    have e1 := uniq lx (p1.keeps g.keep)
    have e2 := uniq ly (p2.keeps g.keep)
    (first | exact ns e1 | exact nb e1 | obtain rfl := si e1 | cases e1)
    (first | exact ns e2 | exact nb e2 | obtain rfl := si e2 | cases e2)
    exact S.oinj i j x y d e a hx hy hd he p1 p2
end Ev
set_option maxRecDepth 10000
namespace Ev
open PySem PySem.W PySem.Spec PySem.Calls PyProof.Rows
theorem ns_uniq {h : Heap} {a : Addr} {m m' : Str → Option Value} (n : h.Ns a m) (n' : h.Ns a m') : m = m' := by
  obtain ⟨o, es, ep, ho, hd, hk, hm⟩ := n
  obtain ⟨o', es', ep', ho', hd', hk', hm'⟩ := n'
  rw [ho] at ho'; cases ho'
  rw [hd] at hd'; cases hd'
  funext z
  rw [← hm z, ← hm' z]
theorem cell_uniq {h : Heap} {c : Addr} {v v' : Option Value} (i : h.IsCell c v) (i' : h.IsCell c v') : v = v' := by
  obtain ⟨o, ho, hd⟩ := i
  obtain ⟨o', ho', hd'⟩ := i'
  rw [ho] at ho'; cases ho'
  rw [hd] at hd'; cases hd'; rfl
theorem ns_not_cell {h : Heap} {a : Addr} {m : Str → Option Value} {v : Option Value} (n : h.Ns a m) (i : h.IsCell a v) : False := by
  obtain ⟨o, es, ep, ho, hd, _⟩ := n
  obtain ⟨o', ho', hd'⟩ := i
  rw [ho] at ho'; cases ho'
  rw [hd] at hd'; cases hd'
theorem Lk.uniq {env : Env} {h : Heap} {z : Str} {v v' : Value} (l : Lk env h z v) (l' : Lk env h z v') : v = v' := by
  cases l with
  | loc k n e =>
    cases l' with
    | loc k' n' e' => rw [ns_uniq n n'] at e; exact Option.some.inj (e.symm.trans e')
    | cell k' => rw [k] at k'; cases k'
    | free k' => rw [k] at k'; cases k'
  | cell k c i =>
    cases l' with
    | loc k' => rw [k] at k'; cases k'
    | cell k' c' i' => rw [c] at c'; cases c'; exact Option.some.inj (cell_uniq i i')
    | free k' => rw [k] at k'; cases k'
  | free k c i =>
    cases l' with
    | loc k' => rw [k] at k'; cases k'
    | cell k' => rw [k] at k'; cases k'
    | free k' c' i' => rw [c] at c'; cases c'; exact Option.some.inj (cell_uniq i i')
variable {H : PyData → Int}
theorem Ow.not_cell {F : Fz} {h : Heap} {a : Addr} {d : PyData} {v : Option Value} (o : Ow H F h a d) (i : h.IsCell a v) : False := by
  obtain ⟨o', ho', hd'⟩ := i
  cases o with
  | list ho r => rw [ho] at ho'; cases ho'; cases hd'
  | dict _ ho hc hd r => rw [ho] at ho'; cases ho'; rw [hd] at hd'; cases hd'
theorem sget_set_self {σ : St} {i : Nat} {vo : Option (Bool × PyData)} (h : i < σ.length) : sget (σ.set i vo) i = vo := by
  simp only [sget, List.getElem?_set_self h]
theorem sget_set_ne {σ : St} {i j : Nat} {vo : Option (Bool × PyData)} (h : i ≠ j) : sget (σ.set i vo) j = sget σ j := by
  simp only [sget, List.getElem?_set_ne h]
theorem sget_set {σ : St} {i j : Nat} {vo : Option (Bool × PyData)} {x : Bool × PyData} (h : sget (σ.set i vo) j = some x) : (j = i ∧ vo = some x) ∨ (j ≠ i ∧ sget σ j = some x) ∨ (j = i ∧ σ.length ≤ i) := by
  by_cases e : j = i
  · subst e
    by_cases l : j < σ.length
    · rw [sget_set_self l] at h; exact .inl ⟨rfl, h⟩
    · exact .inr (.inr ⟨rfl, Nat.le_of_not_lt l⟩)
  · rw [sget_set_ne (Ne.symm e)] at h; exact .inr (.inl ⟨e, h⟩)
theorem sget_some_lt {σ : St} {i : Nat} {x : Bool × PyData} (h : sget σ i = some x) : i < σ.length := by
  by_cases l : i < σ.length
  · exact l
  · simp only [sget, List.getElem?_eq_none (Nat.le_of_not_lt l)] at h; (first | exact ns h | exact nb h | obtain rfl := si h | cases h)
theorem sget_set_some {σ : St} {i j : Nat} {vo : Option (Bool × PyData)} {x : Bool × PyData} (h : sget (σ.set i vo) j = some x) : (j = i ∧ vo = some x) ∨ (j ≠ i ∧ sget σ j = some x) := by
  rcases sget_set h with h1 | h1 | ⟨h1, h2⟩
  · exact .inl h1
  · exact .inr h1
  · have := sget_some_lt h
    rw [List.length_set] at this
    omega
inductive Vl (H : PyData → Int) (F : Fz) (base : Fz) (low : Fz) (h : Heap) (L : Addr) : Value → Bool × PyData → Prop
  | fz {v d} : R H F v d → Vl H F base low h L v (false, d)
  | ow {a d} : Ow H F h a d → F a = none → low a = none → a ≠ L → Vl H F base low h L (.ref a) (true, d)
structure Same (s s' : Shared) : Prop where
  gens : s'.gens = s.gens
  drawn : s'.drawn = s.drawn
  os : s'.os = s.os
theorem Same.refl (s : Shared) : Same s s := ⟨rfl, rfl, rfl⟩
theorem Same.trans {s s' s'' : Shared} (x : Same s s') (y : Same s' s'') : Same s s'' := ⟨y.gens.trans x.gens, y.drawn.trans x.drawn, y.os.trans x.os⟩
section
variable {names : List Str} {env : Env} {base : Fz} {low : Fz} {F : Fz} {h : Heap} {σ : St}
theorem Fs.inj (S : Fs H names env base low F h σ) {i j : Nat} {x : Str} (hi : names[i]? = some x) (hj : names[j]? = some x) : i = j :=
  (List.getElem?_inj (List.getElem?_eq_some_iff.mp hi).1 S.nodup).mp (hi.trans hj.symm)
theorem Fs.setLocal (S : Fs H names env base low F h σ) {i : Nat} {x : Str} {v : Value} {vo : Bool × PyData} {h' : Heap} {m : Str → Option Value} (hi : names[i]? = some x) (hk : env.kindOf x = some .local)
    (hv : Vl H F base low h env.locals v vo) (hd : ∀ a, v = .ref a → vo.1 = true → ∀ j y e, j ≠ i → names[j]? = some y → sget σ j = some (true, e) → ¬ Lk env h y (.ref a))
    (hm : h.Ns env.locals m) (hn : h'.Ns env.locals (fun y => if y = x then some v else m y)) (hs : Heap.SameBut env.locals h h') : Fs H names env base low F h' (σ.set i (some vo)) := by
  have old : ∀ {y : Str} {u : Value}, y ≠ x → Lk env h y u → Lk env h' y u := fun {y u} hne l => by
    cases l with
    | loc k n e => exact .loc k hn (by rw [if_neg hne, ← ns_uniq n hm]; exact e)
    | cell k c ic => exact .cell k c (ic.sameBut hs fun q => ns_not_cell hm (q ▸ ic))
    | free k c ic => exact .free k c (ic.sameBut hs fun q => ns_not_cell hm (q ▸ ic))
  have back : ∀ {y : Str} {u : Value}, y ≠ x → Lk env h' y u → Lk env h y u := fun {y u} hne l => by
    cases l with
    | loc k n e => exact .loc k hm (by rw [ns_uniq n hn] at e; dsimp only at e; rw [if_neg hne] at e; exact e)
    | cell k c ic =>
      refine .cell k c ?_
      have q : ∀ z, z = env.locals → h'.IsCell z (some u) → False := fun z e i => ns_not_cell hn (e ▸ i)
      obtain ⟨o, ho, hd'⟩ := id ic
      exact ⟨o, (hs.2 _ (fun e => q _ e ic)).symm.trans ho, hd'⟩
    | free k c ic =>
      refine .free k c ?_
      have q : ∀ z, z = env.locals → h'.IsCell z (some u) → False := fun z e i => ns_not_cell hn (e ▸ i)
      obtain ⟨o, ho, hd'⟩ := id ic
      exact ⟨o, (hs.2 _ (fun e => q _ e ic)).symm.trans ho, hd'⟩
  have new : Lk env h' x v := .loc hk hn (by simp)
  have ne : ∀ {j : Nat} {y : Str}, names[j]? = some y → j ≠ i → y ≠ x := fun hj hne e => hne (S.inj (e ▸ hj) hi)
  have owk : ∀ {a : Addr} {d : PyData}, a ≠ env.locals → Ow H F h a d → Ow H F h' a d := fun hne o => o.grow (Sub.refl F) fun o' e => (hs.2 _ hne).trans e
  exact {
    kind := S.kind, glob := S.glob, blt := S.blt, nodup := S.nodup
    keep := fun b o e => (hs.2 b (fun q => by subst q; rw [S.Lb] at e; (first | exact ns e | exact nb e | obtain rfl := si e | cases e))).trans (S.keep b o e)
    keepL := fun b o e => (hs.2 b (fun q => by subst q; rw [S.Ll] at e; (first | exact ns e | exact nb e | obtain rfl := si e | cases e))).trans (S.keepL b o e)
    sat := fun a o e => (hs.2 a (fun q => by subst q; rw [S.LF] at e; (first | exact ns e | exact nb e | obtain rfl := si e | cases e))).trans (S.sat a o e)
    ns := ⟨_, hn⟩
    LF := S.LF, Lb := S.Lb, Ll := S.Ll
    cell := fun y hy => by
      obtain ⟨c, u, h1, h2, h3, h4⟩ := S.cell y hy
      exact ⟨c, u, h1, h2.sameBut hs (fun q => ns_not_cell hm (q ▸ h2)), h3, h4⟩
    cinj := S.cinj
    free := S.free
    vars := fun j y d hj hd' => by
      rcases sget_set_some hd' with ⟨e1, e2⟩ | ⟨e1, e2⟩
      · subst e1; rw [hi] at hj; (first | exact ns hj | exact nb hj | obtain rfl := si hj | cases hj); cases e2; cases hv with | fz r => exact ⟨v, new, r⟩
      · obtain ⟨u, l, r⟩ := S.vars j y d hj e2; exact ⟨u, old (ne hj e1) l, r⟩
    own := fun j y d hj hd' => by
      rcases sget_set_some hd' with ⟨e1, e2⟩ | ⟨e1, e2⟩
      · subst e1; rw [hi] at hj; (first | exact ns hj | exact nb hj | obtain rfl := si hj | cases hj); cases e2; cases hv with | ow o f b n => exact ⟨_, new, owk n o, f, b, n⟩
      · obtain ⟨a, l, o, f, b, n⟩ := S.own j y d hj e2; exact ⟨a, old (ne hj e1) l, owk n o, f, b, n⟩
    oinj := fun j k y z d e a hj hk' hjd hke ly lz => by
      rcases sget_set_some hjd with ⟨e1, e2⟩ | ⟨e1, e2⟩ <;> rcases sget_set_some hke with ⟨f1, f2⟩ | ⟨f1, f2⟩
      · exact e1.trans f1.symm
      · exfalso
        subst e1; rw [hi] at hj; (first | exact ns hj | exact nb hj | obtain rfl := si hj | cases hj); cases e2
        have := ly.uniq new
        exact hd a this.symm rfl k z e f1 hk' f2 (back (ne hk' f1) lz)
      · exfalso
        subst f1; rw [hi] at hk'; cases hk'; cases f2
        have := lz.uniq new
        exact hd a this.symm rfl j y d e1 hj e2 (back (ne hj e1) ly)
      · exact S.oinj j k y z d e a hj hk' e2 f2 (back (ne hj e1) ly) (back (ne hk' f1) lz) }
theorem Fs.setCell (S : Fs H names env base low F h σ) {i : Nat} {x : Str} {c : Addr} {v : Value} {vo : Bool × PyData} {h' : Heap} (hi : names[i]? = some x) (hk : env.kindOf x = some .cell) (hc : env.cells.lookup x = some c) (hbc : base c = none)
    (hv : Vl H F base low h env.locals v vo) (hd : ∀ a, v = .ref a → vo.1 = true → ∀ j y e, j ≠ i → names[j]? = some y → sget σ j = some (true, e) → ¬ Lk env h y (.ref a))
    (hn : h'.IsCell c (some v)) (hs : Heap.SameBut c h h') : Fs H names env base low F h' (σ.set i (some vo)) := by
  obtain ⟨c', u0, hc', hic, hFc, hbct⟩ := S.cell x hk
  rw [hc] at hc'; cases hc'
  obtain ⟨m, hm⟩ := S.ns
  have hcL : c ≠ env.locals := fun q => ns_not_cell (q ▸ hm) hic
  have hm' : h'.Ns env.locals m := hm.sameBut hs (Ne.symm hcL)
  have cne : ∀ {y : Str} {c2 : Addr}, y ≠ x → env.kindOf y = some .cell → env.cells.lookup y = some c2 → c2 ≠ c := fun hne hky hcy q => hne (S.cinj _ _ c hky hk (q ▸ hcy) hc)
  have fne : ∀ {y : Str} {c2 : Addr}, env.kindOf y = some .free → env.cells.lookup y = some c2 → c2 ≠ c := fun hky hcy q => by
    obtain ⟨o, e⟩ := S.free _ _ hky hcy
    subst q; rw [hFc] at e; (first | exact ns e | exact nb e | obtain rfl := si e | cases e)
  have old : ∀ {y : Str} {u : Value}, y ≠ x → Lk env h y u → Lk env h' y u := fun {y u} hne l => by
    cases l with
    | loc k n e => exact .loc k (n.sameBut hs (Ne.symm hcL)) e
    | cell k c2 ic => exact .cell k c2 (ic.sameBut hs (cne hne k c2))
    | free k c2 ic => exact .free k c2 (ic.sameBut hs (fne k c2))
  have back : ∀ {y : Str} {u : Value}, y ≠ x → Lk env h' y u → Lk env h y u := fun {y u} hne l => by
    cases l with
    | loc k n e => exact .loc k hm (by rw [ns_uniq n hm'] at e; exact e)
    | cell k c2 ic => obtain ⟨o, ho, hd'⟩ := ic; exact .cell k c2 ⟨o, (hs.2 _ (cne hne k c2)).symm.trans ho, hd'⟩
    | free k c2 ic => obtain ⟨o, ho, hd'⟩ := ic; exact .free k c2 ⟨o, (hs.2 _ (fne k c2)).symm.trans ho, hd'⟩
  have new : Lk env h' x v := .cell hk hc hn
  have ne : ∀ {j : Nat} {y : Str}, names[j]? = some y → j ≠ i → y ≠ x := fun hj hne e => hne (S.inj (e ▸ hj) hi)
  have owk : ∀ {a : Addr} {d : PyData}, Ow H F h a d → Ow H F h' a d := fun {a d} o => o.grow (Sub.refl F) fun o' e => (hs.2 _ (fun q => o.not_cell (q ▸ hic))).trans e
  exact {
    kind := S.kind, glob := S.glob, blt := S.blt, nodup := S.nodup
    keep := fun b o e => (hs.2 b (fun q => by subst q; rw [hbc] at e; (first | exact ns e | exact nb e | obtain rfl := si e | cases e))).trans (S.keep b o e)
    keepL := fun b o e => (hs.2 b (fun q => by subst q; rw [hbct] at e; (first | exact ns e | exact nb e | obtain rfl := si e | cases e))).trans (S.keepL b o e)
    sat := fun a o e => (hs.2 a (fun q => by subst q; rw [hFc] at e; (first | exact ns e | exact nb e | obtain rfl := si e | cases e))).trans (S.sat a o e)
    ns := ⟨_, hm'⟩
    LF := S.LF, Lb := S.Lb, Ll := S.Ll
    cell := fun y hy => by
      obtain ⟨c2, u, h1, h2, h3, h4⟩ := S.cell y hy
      by_cases q : y = x
      · subst q; rw [hc] at h1; (first | exact ns h1 | exact nb h1 | obtain rfl := si h1 | cases h1); exact ⟨c, _, hc, hn, hFc, hbct⟩
      · exact ⟨c2, u, h1, h2.sameBut hs (cne q hy h1), h3, h4⟩
    cinj := S.cinj
    free := S.free
    vars := fun j y d hj hd' => by
      rcases sget_set_some hd' with ⟨e1, e2⟩ | ⟨e1, e2⟩
      · subst e1; rw [hi] at hj; (first | exact ns hj | exact nb hj | obtain rfl := si hj | cases hj); cases e2; cases hv with | fz r => exact ⟨v, new, r⟩
      · obtain ⟨u, l, r⟩ := S.vars j y d hj e2; exact ⟨u, old (ne hj e1) l, r⟩
    own := fun j y d hj hd' => by
      rcases sget_set_some hd' with ⟨e1, e2⟩ | ⟨e1, e2⟩
      · subst e1; rw [hi] at hj; (first | exact ns hj | exact nb hj | obtain rfl := si hj | cases hj); cases e2; cases hv with | ow o f b n => exact ⟨_, new, owk o, f, b, n⟩
      · obtain ⟨a, l, o, f, b, n⟩ := S.own j y d hj e2; exact ⟨a, old (ne hj e1) l, owk o, f, b, n⟩
    oinj := fun j k y z d e a hj hk' hjd hke ly lz => by
      rcases sget_set_some hjd with ⟨e1, e2⟩ | ⟨e1, e2⟩ <;> rcases sget_set_some hke with ⟨f1, f2⟩ | ⟨f1, f2⟩
      · exact e1.trans f1.symm
      · exfalso
        subst e1; rw [hi] at hj; (first | exact ns hj | exact nb hj | obtain rfl := si hj | cases hj); cases e2
        have := ly.uniq new
        exact hd a this.symm rfl k z e f1 hk' f2 (back (ne hk' f1) lz)
      · exfalso
        subst f1; rw [hi] at hk'; cases hk'; cases f2
        have := lz.uniq new
        exact hd a this.symm rfl j y d e1 hj e2 (back (ne hj e1) ly)
      · exact S.oinj j k y z d e a hj hk' e2 f2 (back (ne hj e1) ly) (back (ne hk' f1) lz) }
theorem Fs.freeze (S : Fs H names env base base F h σ) {i : Nat} {d : PyData} (hσ : sget σ i = some (true, d)) (hi : i < names.length) :
    ∃ F', Sub F F' ∧ (∀ a o, F' a = some o → F a = some o ∨ base a = none) ∧ Fs H names env base base F' h (σ.set i (some (false, d))) := by
  obtain ⟨x, hx⟩ : ∃ x, names[i]? = some x := ⟨_, List.getElem?_eq_getElem hi⟩
  obtain ⟨a, hl, ho, hFa, hba, hLa⟩ := S.own i x d hx hσ
  obtain ⟨o, hao⟩ := ho.there
  have sub : Sub F (put F a o) := put_sub hFa
  have putne : ∀ {b : Addr}, b ≠ a → F b = none → put F a o b = none := fun hne e => by unfold put; rw [if_neg hne]; exact e
  have hr : R H (put F a o) (.ref a) d := by
    cases ho with
    | list h1 h4 => rw [hao] at h1; (first | exact ns h1 | exact nb h1 | obtain rfl := si h1 | cases h1); exact .list (put_self ..) (h4.mono sub)
    | dict h0 h1 h2 h3 h4 h5 => rw [hao] at h1; (first | exact ns h1 | exact nb h1 | obtain rfl := si h1 | cases h1); exact .dict h0 (put_self ..) h2 h3 (h4.mono sub) h5
  refine ⟨put F a o, sub, fun b o' q => ?_, ?_⟩
  · unfold put at q; by_cases z : b = a
    · subst z; exact .inr hba
    · rw [if_neg z] at q; exact .inl q
  exact {
    kind := S.kind, glob := S.glob, blt := S.blt, nodup := S.nodup, keep := S.keep, keepL := S.keepL
    sat := fun b o' q => by
      unfold put at q; by_cases z : b = a
      · subst z; rw [if_pos rfl] at q; (first | exact ns q | exact nb q | obtain rfl := si q | cases q); exact hao
      · rw [if_neg z] at q; exact S.sat b o' q
    ns := S.ns
    LF := putne (Ne.symm hLa) S.LF
    Lb := S.Lb, Ll := S.Ll
    cell := fun y hy => by
      obtain ⟨c2, u, h1, h2, h3, h4⟩ := S.cell y hy
      exact ⟨c2, u, h1, h2, putne (fun q => ho.not_cell (q ▸ h2)) h3, h4⟩
    cinj := S.cinj
    free := fun y c hy hc => let ⟨o', e⟩ := S.free y c hy hc; ⟨o', sub _ _ e⟩
    vars := fun j y e hj he => by
      rcases sget_set_some he with ⟨e1, e2⟩ | ⟨e1, e2⟩
      · subst e1; rw [hx] at hj; (first | exact ns hj | exact nb hj | obtain rfl := si hj | cases hj); cases e2; exact ⟨_, hl, hr⟩
      · obtain ⟨u, l, r⟩ := S.vars j y e hj e2; exact ⟨u, l, r.mono sub⟩
    own := fun j y e hj he => by
      rcases sget_set_some he with ⟨e1, e2⟩ | ⟨e1, e2⟩
      · (first | exact ns e2 | exact nb e2 | obtain rfl := si e2 | cases e2)
      · obtain ⟨b, l, o', f, b', n⟩ := S.own j y e hj e2
        refine ⟨b, l, o'.grow sub fun _ q => q, putne (fun q => ?_) f, b', n⟩
        subst q
        exact e1 (S.oinj j i y x e d b hj hx e2 hσ l hl)
    oinj := fun j k y z e f b hj hk' hje hkf ly lz => by
      rcases sget_set_some hje with ⟨e1, e2⟩ | ⟨e1, e2⟩
      · (first | exact ns e2 | exact nb e2 | obtain rfl := si e2 | cases e2)
      rcases sget_set_some hkf with ⟨f1, f2⟩ | ⟨f1, f2⟩
      · cases f2
      exact S.oinj _ _ _ _ _ _ _ hj hk' e2 f2 ly lz }
end
section
variable {M : Model} {A : Around} {E : Value → Shared → Prop} {s : Shared} {names : List Str} {env : Env} {base : Fz} {low : Fz} {F : Fz} {σ : St}
theorem wp_load {x : Str} {v : Value} {Q : Value → Shared → Prop} (hk : env.scope.kind = .function) (l : Lk env s.heap x v) (h : Q v s) (hn : (x == ("__classdict__" : Str)) = false := by decide) : wpAny M A (loadName env x) Q E s := by
  cases l with
  | loc k n e => exact wpAny_loadName_local hk k n e h
  | cell k c i => exact wpAny_loadName_cell hk k c i h
  | free k c i => exact wpAny_loadName_free hk k c i h hn
end
end Ev
set_option maxRecDepth 10000
namespace Ev
open PySem PySem.W PySem.Spec PySem.Calls PyProof.Rows PySem.SeqAt
noncomputable def okD (d : PyData) : Bool := d.canLay0 && decide (d.depth ≤ 64)
noncomputable def eqD (a b : PyData) : Option Bool :=
  match a, b with
  | .list xs, .list [] => some xs.isEmpty
  | .list [], .list ys => some ys.isEmpty
  | a, b => if okD a && okD b then some (PyData.eqv a b) else none
mutual
noncomputable def ordD : PyData → PyData → Option Ordering
  | .int a, .int b => some (if a < b then .lt else if a = b then .eq else .gt)
  | .tuple xs, .tuple ys => ordL xs ys
  | _, _ => none
noncomputable def ordL : List PyData → List PyData → Option Ordering
  | [], [] => some .eq
  | [], _ :: _ => some .lt
  | _ :: _, [] => some .gt
  | x :: xs, y :: ys => if PyData.eqv x y then ordL xs ys else match ordD x y with
    | some .lt => some .lt
    | some .gt => some .gt
    | _ => none
end
noncomputable def ordIs (op : CmpOp) (o : Ordering) : Bool := match op, o with
  | .Lt, .lt => true
  | .LtE, .lt => true
  | .LtE, .eq => true
  | .Gt, .gt => true
  | .GtE, .gt => true
  | .GtE, .eq => true
  | _, _ => false
noncomputable def isOrd : CmpOp → Bool
  | .Lt => true | .LtE => true | .Gt => true | .GtE => true | _ => false
noncomputable def cmpD (op : CmpOp) (a b : PyData) : Option Bool := match op with
  | .Eq => eqD a b
  | .NotEq => (eqD a b).map (!·)
  | .In => match b with
    | .list ys => if okD b && okD a then some (ys.any fun y => PyData.eqv y a) else none
    | .tuple ys => if okD b && okD a then some (ys.any fun y => PyData.eqv y a) else none
    | _ => none
  | .NotIn => match b with
    | .list ys => if okD b && okD a then some (!ys.any fun y => PyData.eqv y a) else none
    | .tuple ys => if okD b && okD a then some (!ys.any fun y => PyData.eqv y a) else none
    | _ => none
  | .Is => none
  | .IsNot => none
  | op => if okD a && okD b then (ordD a b).map (ordIs op) else none
theorem okD_lay {d : PyData} (h : okD d = true) : d.canLay0 = true := (Bool.and_eq_true_iff.mp h).1
theorem okD_depth {d : PyData} (h : okD d = true) : d.depth ≤ 64 := of_decide_eq_true (Bool.and_eq_true_iff.mp h).2
inductive Bw (H : PyData → Int) (F : Fz) (h : Heap) : Value → PyData → Prop
  | fz {v d} : R H F v d → Bw H F h v d
  | ow {a d} : Ow H F h a d → Bw H F h (.ref a) d
variable {H : PyData → Int}
theorem Bw.reads {F : Fz} {h : Heap} (s : Sat F h) {v : Value} {d : PyData} : Bw H F h v d → ∃ as, Reads h v d as := fun b => b.rec (fun r => r.reads s) (fun o => o.rec (fun ho r => (r.reads s).elim fun _ q => ⟨_, .list ho rfl rfl q⟩) (fun _ ho hc hd r _ => (r.reads s).elim fun _ q => q.elim fun _ q => ⟨_, .dict ho hc.1 hd q.1 q.2⟩))
theorem Bw.grow {F F' : Fz} {s s' : Shared} (g : Grow F s F' s') {v : Value} {d : PyData} : Bw H F s.heap v d → Bw H F' s'.heap v d
  | .fz r => .fz (r.mono g.sub)
  | .ow o => .ow (o.grow g.sub (g.keep _))
section
variable {prog : Program} {w : World} {A : Around} {E : Value → Shared → Prop} {s : Shared} {Q : Value → Shared → Prop}
theorem eq_nil_nil {a b : Addr} {xs : Array Value} (hl : s.heap.IsList a xs) (hb : s.heap.IsList b #[]) (hu : A.units < cLine) (h : Q (.bool xs.toList.isEmpty) s) : wpAny (model prog w) A (compareOp .Eq (.ref a) (.ref b)) Q E s := by
  by_cases e : xs.size = 0
  · have : xs = #[] := Array.eq_empty_of_size_eq_zero e
    subst this
    exact eq_listAt (e := fun _ => true) hl hb rfl hu (fun j h1 => absurd h1 (Nat.not_lt_zero _)) (by simpa using h)
  · refine eq_list_lengthsAt hl hb (by simpa using e) hu ?_
    have : xs.toList.isEmpty = false := by
      cases q : xs.toList with
      | nil => exfalso; apply e; rw [← Array.length_toList, q]; rfl
      | cons => rfl
    rw [this] at h; exact h
theorem eq_nil_nil' {a b : Addr} {xs : Array Value} (hl : s.heap.IsList a xs) (hb : s.heap.IsList b #[]) (hu : A.units < cLine) (h : Q (.bool xs.toList.isEmpty) s) : wpAny (model prog w) A (compareOp .Eq (.ref b) (.ref a)) Q E s := by
  by_cases e : xs.size = 0
  · have : xs = #[] := Array.eq_empty_of_size_eq_zero e
    subst this
    exact eq_listAt (e := fun _ => true) hb hl rfl hu (fun j h1 => absurd h1 (Nat.not_lt_zero _)) (by simpa using h)
  · refine eq_list_lengthsAt hb hl (by simp; exact fun q => e q.symm) hu ?_
    have : xs.toList.isEmpty = false := by
      cases q : xs.toList with
      | nil => exfalso; apply e; rw [← Array.length_toList, q]; rfl
      | cons => rfl
    rw [this] at h; exact h
theorem reads_list {h : Heap} {v : Value} {xs : List PyData} {as : List Addr} (r : Reads h v (.list xs) as) : ∃ a vs bs, v = .ref a ∧ h.IsList a vs ∧ ReadsAll h vs.toList xs bs := by
  cases r with
  | list h1 h2 h3 h4 => exact ⟨_, _, _, rfl, ⟨_, h1, h2, _, h3⟩, h4⟩
theorem readsAll_nil_iff {h : Heap} {vs : List Value} {xs : List PyData} {as : List Addr} (r : ReadsAll h vs xs as) : vs.isEmpty = xs.isEmpty := by
  cases r <;> rfl
theorem room_eq {A : Around} {a b : PyData} (ha : okD a = true) (hu : A.units + 64 < cLine) : A.units + min a.depth b.depth < cLine := by
  have := okD_depth ha
  have : min a.depth b.depth ≤ a.depth := Nat.min_le_left _ _
  omega
theorem wp_eq {a b : Value} {da db : PyData} {c : Bool} {as bs : List Addr} (he : eqD da db = some c) (ra : Reads s.heap a da as) (rb : Reads s.heap b db bs) (hu : A.units + 64 < cLine) (h : Q (.bool c) s) :
    wpAny (model prog w) A (compareOp .Eq a b) Q E s := by
  unfold eqD at he
  split at he
  · obtain ⟨x, vs, _, rfl, hx, r1⟩ := reads_list ra
    obtain ⟨y, ws, _, rfl, hy, r2⟩ := reads_list rb
    have e : ws = #[] := by
      have := readsAll_nil_iff r2
      apply Array.toList_inj.mp
      simpa using this
    subst e
    (first | exact ns he | exact nb he | obtain rfl := si he | cases he)
    exact eq_nil_nil hx hy (by omega) (by rw [readsAll_nil_iff r1]; exact h)
  · obtain ⟨x, vs, _, rfl, hx, r1⟩ := reads_list ra
    obtain ⟨y, ws, _, rfl, hy, r2⟩ := reads_list rb
    have e : vs = #[] := by
      have := readsAll_nil_iff r1
      apply Array.toList_inj.mp
      simpa using this
    subst e
    (first | exact ns he | exact nb he | obtain rfl := si he | cases he)
    exact eq_nil_nil' hy hx (by omega) (by rw [readsAll_nil_iff r2]; exact h)
  · split at he
    · rename_i hok
      obtain ⟨h1, h2⟩ := Bool.and_eq_true_iff.mp hok
      (first | exact ns he | exact nb he | obtain rfl := si he | cases he)
      exact compareEq_reads ra rb (okD_lay h1) (okD_lay h2) (room_eq h1 hu) h
    · (first | exact ns he | exact nb he | obtain rfl := si he | cases he)
theorem ne_nil_nil {a b : Addr} {xs : Array Value} (hl : s.heap.IsList a xs) (hb : s.heap.IsList b #[]) (hu : A.units < cLine) (h : Q (.bool (!xs.toList.isEmpty)) s) : wpAny (model prog w) A (compareOp .NotEq (.ref a) (.ref b)) Q E s := by
  by_cases e : xs.size = 0
  · have : xs = #[] := Array.eq_empty_of_size_eq_zero e
    subst this
    exact RcNeAt.lists (e := fun _ => true) hl hb rfl hu (fun j h1 => absurd h1 (Nat.not_lt_zero _)) prog w E Q (by simpa using h)
  · refine RcNeAt.lists_lengths hl hb (by simpa using e) hu prog w E Q ?_
    have : xs.toList.isEmpty = false := by
      cases q : xs.toList with
      | nil => exfalso; apply e; rw [← Array.length_toList, q]; rfl
      | cons => rfl
    rw [this] at h; exact h
theorem ne_nil_nil' {a b : Addr} {xs : Array Value} (hl : s.heap.IsList a xs) (hb : s.heap.IsList b #[]) (hu : A.units < cLine) (h : Q (.bool (!xs.toList.isEmpty)) s) : wpAny (model prog w) A (compareOp .NotEq (.ref b) (.ref a)) Q E s := by
  by_cases e : xs.size = 0
  · have : xs = #[] := Array.eq_empty_of_size_eq_zero e
    subst this
    exact RcNeAt.lists (e := fun _ => true) hb hl rfl hu (fun j h1 => absurd h1 (Nat.not_lt_zero _)) prog w E Q (by simpa using h)
  · refine RcNeAt.lists_lengths hb hl (by simp; exact fun q => e q.symm) hu prog w E Q ?_
    have : xs.toList.isEmpty = false := by
      cases q : xs.toList with
      | nil => exfalso; apply e; rw [← Array.length_toList, q]; rfl
      | cons => rfl
    rw [this] at h; exact h
theorem wp_ne {a b : Value} {da db : PyData} {c : Bool} {as bs : List Addr} (he : eqD da db = some c) (ra : Reads s.heap a da as) (rb : Reads s.heap b db bs) (hu : A.units + 64 < cLine) (h : Q (.bool (!c)) s) :
    wpAny (model prog w) A (compareOp .NotEq a b) Q E s := by
  unfold eqD at he
  split at he
  · obtain ⟨x, vs, _, rfl, hx, r1⟩ := reads_list ra
    obtain ⟨y, ws, _, rfl, hy, r2⟩ := reads_list rb
    have e : ws = #[] := by
      have := readsAll_nil_iff r2
      apply Array.toList_inj.mp
      simpa using this
    subst e
    (first | exact ns he | exact nb he | obtain rfl := si he | cases he)
    exact ne_nil_nil hx hy (by omega) (by rw [readsAll_nil_iff r1]; exact h)
  · obtain ⟨x, vs, _, rfl, hx, r1⟩ := reads_list ra
    obtain ⟨y, ws, _, rfl, hy, r2⟩ := reads_list rb
    have e : vs = #[] := by
      have := readsAll_nil_iff r1
      apply Array.toList_inj.mp
      simpa using this
    subst e
    (first | exact ns he | exact nb he | obtain rfl := si he | cases he)
    exact ne_nil_nil' hy hx (by omega) (by rw [readsAll_nil_iff r2]; exact h)
  · split at he
    · rename_i hok
      obtain ⟨h1, h2⟩ := Bool.and_eq_true_iff.mp hok
      (first | exact ns he | exact nb he | obtain rfl := si he | cases he)
      exact compareNe_reads ra rb (okD_lay h1) (okD_lay h2) (room_eq h1 hu) h
    · (first | exact ns he | exact nb he | obtain rfl := si he | cases he)
noncomputable def OrdAt (prog : Program) (w : World) (A : Around) (s : Shared) (a b : Value) (o : Ordering) : Prop :=
  ∀ op, isOrd op = true → ∀ (E : Value → Shared → Prop) (Q : Value → Shared → Prop), Q (.bool (ordIs op o)) s → wpAny (model prog w) A (richCompare op a b) Q E s
theorem ord_int (x y : Int) (t u : Tok) : OrdAt prog w A s (.int x t) (.int y u) (if x < y then .lt else if x = y then .eq else .gt) := by
  intro op hop E Q h
  cases op <;> first | cases hop | skip
  · refine P.lt_int ?_
    by_cases h1 : x < y
    · rw [if_pos h1] at h; rw [decide_eq_true h1]; exact h
    · rw [if_neg h1] at h; rw [decide_eq_false h1]; by_cases h2 : x = y <;> simp only [h2, if_true, if_false] at h <;> exact h
  · refine P.le_int ?_
    by_cases h1 : x < y
    · rw [if_pos h1] at h; rw [decide_eq_true (Int.le_of_lt h1)]; exact h
    · rw [if_neg h1] at h
      by_cases h2 : x = y
      · rw [if_pos h2] at h; rw [decide_eq_true (Int.le_of_eq h2)]; exact h
      · rw [if_neg h2] at h; rw [decide_eq_false (by omega)]; exact h
  · refine P.gt_int ?_
    by_cases h1 : x < y
    · rw [if_pos h1] at h; rw [decide_eq_false (by omega)]; exact h
    · rw [if_neg h1] at h
      by_cases h2 : x = y
      · rw [if_pos h2] at h; rw [decide_eq_false (by omega)]; exact h
      · rw [if_neg h2] at h; rw [decide_eq_true (by omega)]; exact h
  · refine P.ge_int ?_
    by_cases h1 : x < y
    · rw [if_pos h1] at h; rw [decide_eq_false (by omega)]; exact h
    · rw [if_neg h1] at h
      by_cases h2 : x = y
      · rw [if_pos h2] at h; rw [decide_eq_true (by omega)]; exact h
      · rw [if_neg h2] at h; rw [decide_eq_true (by omega)]; exact h
inductive Ors (prog : Program) (w : World) (A : Around) (s : Shared) : List Value → List Value → Ordering → Prop
  | nn : Ors prog w A s [] [] .eq
  | nc {v vs} : Ors prog w A s [] (v :: vs) .lt
  | cn {v vs} : Ors prog w A s (v :: vs) [] .gt
  | same {v u vs us o} : EqAt A s v u true → Ors prog w A s vs us o → Ors prog w A s (v :: vs) (u :: us) o
  | diff {v u vs us o} : EqAt A s v u false → OrdAt prog w A s v u o → o ≠ .eq → Ors prog w A s (v :: vs) (u :: us) o
noncomputable def Rsz (m k : Nat) (o : Ordering) : Prop := (m = k ∧ o = .eq) ∨ (m < k ∧ o = .lt) ∨ (k < m ∧ o = .gt)
theorem tup_loop {β : Type} {f : Value × Value → β → Sem (ForInStep β)} {b0 bd : β} {o : Ordering} {P : β → Shared → Prop} (hs : ∀ u v Q, EqAt A s u v true → Q (ForInStep.yield b0) s → wpAny (model prog w) A (f (u, v) b0) Q E s)
    (hd : ∀ u v Q, EqAt A s u v false → OrdAt prog w A s u v o → Q (ForInStep.done bd) s → wpAny (model prog w) A (f (u, v) b0) Q E s) (h1 : P bd s) {xs ys : List Value} (hz : Ors prog w A s xs ys o) (h0 : Rsz xs.length ys.length o → P b0 s) :
    wpAny (model prog w) A (forIn (List.zip xs ys) b0 f) P E s := by
  induction hz with
  | nn => exact wpAny_pure (h0 (.inl ⟨rfl, rfl⟩))
  | nc => exact wpAny_pure (h0 (.inr (.inl ⟨Nat.zero_lt_succ _, rfl⟩)))
  | cn => exact wpAny_pure (h0 (.inr (.inr ⟨Nat.zero_lt_succ _, rfl⟩)))
  | same e _ ih =>
    rw [List.zip_cons_cons, List.forIn_cons]
    refine wpAny_bind (hs _ _ _ e (ih hd fun q => h0 ?_))
    unfold Rsz at q ⊢
    simpa using q
  | diff e oo ne =>
    rw [List.zip_cons_cons, List.forIn_cons]
    exact wpAny_bind (hd _ _ _ e oo (wpAny_pure h1))
theorem sizes_ord {op : CmpOp} (hop : isOrd op = true) {m k : Nat} {o : Ordering} (h : Rsz m k o) : Builtin.Tuple.tupleCompareSizes op m k = .bool (ordIs op o) := by
  unfold Builtin.Tuple.tupleCompareSizes
  cases op <;> first | (cases hop; done) | skip
  all_goals (rcases h with ⟨e, rfl⟩ | ⟨e, rfl⟩ | ⟨e, rfl⟩ <;> first | exact congrArg Value.bool (decide_eq_true (by omega)) | exact congrArg Value.bool (decide_eq_false (by omega)))
theorem tup_lt {a b : Addr} {oa ob : Obj} {xs ys : Array Value} {na nb : Nat} {o : Ordering} {P : PySem.Fin → Shared → Prop} (ha : s.heap.get? a = some oa) (da : oa.data = .seq xs na) (hb : s.heap.get? b = some ob) (cb : ob.cls = .type "tuple") (db : ob.data = .seq ys nb)
    (hz : Ors prog w A s xs.toList ys.toList o) (h : P (.done (.ret (.bool (ordIs .Lt o)))) s) : wpAny (model prog w) A (Builtin.«tuple.__lt__» ⟨[.ref a, .ref b], []⟩) P E s := by
  have hTb : s.TypeIs (.ref b) "tuple" := ⟨ob, hb, cb⟩
  show wpAny _ _ (isInstance (.ref b) (.type "tuple") >>= _) _ _ s
  refine wpAny_bind (wpAny_isInstance hTb isSubtype_tuple_tuple ?_)
  first | with_reducible refine w_ntrue ?_ | with_reducible refine wb_ntrue ?_ | simp only [Bool.not_true, Bool.false_eq_true, if_false]
  refine wpAny_bind (wpAny_tupleItemsOf ha da (wpAny_bind (wpAny_tupleItemsOf hb db (wpAny_bind ?_))))
  refine tup_loop (bd := by exact ⟨some (.done (.ret (.bool (ordIs .Lt o)))), ⟨⟩⟩) (fun u v Q e q => ?_) (fun u v Q e oo q => ?_) ?_ hz fun q => ?_
  · refine wpAny_bind (e prog w _ _ ?_)
    first | with_reducible refine w_ntrue ?_ | with_reducible refine wb_ntrue ?_ | simp only [Bool.not_true, Bool.false_eq_true, if_false]
    exact wpAny_pure q
  · refine wpAny_bind (e prog w _ _ ?_)
    first | with_reducible refine w_nfalse ?_ | with_reducible refine wb_nfalse ?_ | simp only [Bool.not_false, if_true]
    refine wpAny_bind (wpAny_rule (wpAny_bind (oo .Lt rfl _ _ ?_)))
    first
      | exact wpAny_bind (wpAny_pure (wpAny_pure q))
      | exact wpAny_pure (wpAny_pure q)
      | exact wpAny_bind (wpAny_pure (wpAny_pure (wpAny_pure q)))
  · exact wpAny_pure h
  · refine wpAny_pure ?_
    show P (.done (.ret (Builtin.Tuple.tupleCompareSizes .Lt xs.size ys.size))) s
    rw [sizes_ord rfl (by simpa using q)]; exact h
theorem tup_le {a b : Addr} {oa ob : Obj} {xs ys : Array Value} {na nb : Nat} {o : Ordering} {P : PySem.Fin → Shared → Prop} (ha : s.heap.get? a = some oa) (da : oa.data = .seq xs na) (hb : s.heap.get? b = some ob) (cb : ob.cls = .type "tuple") (db : ob.data = .seq ys nb)
    (hz : Ors prog w A s xs.toList ys.toList o) (h : P (.done (.ret (.bool (ordIs .LtE o)))) s) : wpAny (model prog w) A (Builtin.«tuple.__le__» ⟨[.ref a, .ref b], []⟩) P E s := by
  have hTb : s.TypeIs (.ref b) "tuple" := ⟨ob, hb, cb⟩
  show wpAny _ _ (isInstance (.ref b) (.type "tuple") >>= _) _ _ s
  refine wpAny_bind (wpAny_isInstance hTb isSubtype_tuple_tuple ?_)
  first | with_reducible refine w_ntrue ?_ | with_reducible refine wb_ntrue ?_ | simp only [Bool.not_true, Bool.false_eq_true, if_false]
  refine wpAny_bind (wpAny_tupleItemsOf ha da (wpAny_bind (wpAny_tupleItemsOf hb db (wpAny_bind ?_))))
  refine tup_loop (bd := by exact ⟨some (.done (.ret (.bool (ordIs .LtE o)))), ⟨⟩⟩) (fun u v Q e q => ?_) (fun u v Q e oo q => ?_) ?_ hz fun q => ?_
  · refine wpAny_bind (e prog w _ _ ?_)
    first | with_reducible refine w_ntrue ?_ | with_reducible refine wb_ntrue ?_ | simp only [Bool.not_true, Bool.false_eq_true, if_false]
    exact wpAny_pure q
  · refine wpAny_bind (e prog w _ _ ?_)
    first | with_reducible refine w_nfalse ?_ | with_reducible refine wb_nfalse ?_ | simp only [Bool.not_false, if_true]
    refine wpAny_bind (wpAny_rule (wpAny_bind (oo .LtE rfl _ _ ?_)))
    first
      | exact wpAny_bind (wpAny_pure (wpAny_pure q))
      | exact wpAny_pure (wpAny_pure q)
      | exact wpAny_bind (wpAny_pure (wpAny_pure (wpAny_pure q)))
  · exact wpAny_pure h
  · refine wpAny_pure ?_
    show P (.done (.ret (Builtin.Tuple.tupleCompareSizes .LtE xs.size ys.size))) s
    rw [sizes_ord rfl (by simpa using q)]; exact h
theorem tup_gt {a b : Addr} {oa ob : Obj} {xs ys : Array Value} {na nb : Nat} {o : Ordering} {P : PySem.Fin → Shared → Prop} (ha : s.heap.get? a = some oa) (da : oa.data = .seq xs na) (hb : s.heap.get? b = some ob) (cb : ob.cls = .type "tuple") (db : ob.data = .seq ys nb)
    (hz : Ors prog w A s xs.toList ys.toList o) (h : P (.done (.ret (.bool (ordIs .Gt o)))) s) : wpAny (model prog w) A (Builtin.«tuple.__gt__» ⟨[.ref a, .ref b], []⟩) P E s := by
  have hTb : s.TypeIs (.ref b) "tuple" := ⟨ob, hb, cb⟩
  show wpAny _ _ (isInstance (.ref b) (.type "tuple") >>= _) _ _ s
  refine wpAny_bind (wpAny_isInstance hTb isSubtype_tuple_tuple ?_)
  first | with_reducible refine w_ntrue ?_ | with_reducible refine wb_ntrue ?_ | simp only [Bool.not_true, Bool.false_eq_true, if_false]
  refine wpAny_bind (wpAny_tupleItemsOf ha da (wpAny_bind (wpAny_tupleItemsOf hb db (wpAny_bind ?_))))
  refine tup_loop (bd := by exact ⟨some (.done (.ret (.bool (ordIs .Gt o)))), ⟨⟩⟩) (fun u v Q e q => ?_) (fun u v Q e oo q => ?_) ?_ hz fun q => ?_
  · refine wpAny_bind (e prog w _ _ ?_)
    first | with_reducible refine w_ntrue ?_ | with_reducible refine wb_ntrue ?_ | simp only [Bool.not_true, Bool.false_eq_true, if_false]
    exact wpAny_pure q
  · refine wpAny_bind (e prog w _ _ ?_)
    first | with_reducible refine w_nfalse ?_ | with_reducible refine wb_nfalse ?_ | simp only [Bool.not_false, if_true]
    refine wpAny_bind (wpAny_rule (wpAny_bind (oo .Gt rfl _ _ ?_)))
    first
      | exact wpAny_bind (wpAny_pure (wpAny_pure q))
      | exact wpAny_pure (wpAny_pure q)
      | exact wpAny_bind (wpAny_pure (wpAny_pure (wpAny_pure q)))
  · exact wpAny_pure h
  · refine wpAny_pure ?_
    show P (.done (.ret (Builtin.Tuple.tupleCompareSizes .Gt xs.size ys.size))) s
    rw [sizes_ord rfl (by simpa using q)]; exact h
theorem tup_ge {a b : Addr} {oa ob : Obj} {xs ys : Array Value} {na nb : Nat} {o : Ordering} {P : PySem.Fin → Shared → Prop} (ha : s.heap.get? a = some oa) (da : oa.data = .seq xs na) (hb : s.heap.get? b = some ob) (cb : ob.cls = .type "tuple") (db : ob.data = .seq ys nb)
    (hz : Ors prog w A s xs.toList ys.toList o) (h : P (.done (.ret (.bool (ordIs .GtE o)))) s) : wpAny (model prog w) A (Builtin.«tuple.__ge__» ⟨[.ref a, .ref b], []⟩) P E s := by
  have hTb : s.TypeIs (.ref b) "tuple" := ⟨ob, hb, cb⟩
  show wpAny _ _ (isInstance (.ref b) (.type "tuple") >>= _) _ _ s
  refine wpAny_bind (wpAny_isInstance hTb isSubtype_tuple_tuple ?_)
  first | with_reducible refine w_ntrue ?_ | with_reducible refine wb_ntrue ?_ | simp only [Bool.not_true, Bool.false_eq_true, if_false]
  refine wpAny_bind (wpAny_tupleItemsOf ha da (wpAny_bind (wpAny_tupleItemsOf hb db (wpAny_bind ?_))))
  refine tup_loop (bd := by exact ⟨some (.done (.ret (.bool (ordIs .GtE o)))), ⟨⟩⟩) (fun u v Q e q => ?_) (fun u v Q e oo q => ?_) ?_ hz fun q => ?_
  · refine wpAny_bind (e prog w _ _ ?_)
    first | with_reducible refine w_ntrue ?_ | with_reducible refine wb_ntrue ?_ | simp only [Bool.not_true, Bool.false_eq_true, if_false]
    exact wpAny_pure q
  · refine wpAny_bind (e prog w _ _ ?_)
    first | with_reducible refine w_nfalse ?_ | with_reducible refine wb_nfalse ?_ | simp only [Bool.not_false, if_true]
    refine wpAny_bind (wpAny_rule (wpAny_bind (oo .GtE rfl _ _ ?_)))
    first
      | exact wpAny_bind (wpAny_pure (wpAny_pure q))
      | exact wpAny_pure (wpAny_pure q)
      | exact wpAny_bind (wpAny_pure (wpAny_pure (wpAny_pure q)))
  · exact wpAny_pure h
  · refine wpAny_pure ?_
    show P (.done (.ret (Builtin.Tuple.tupleCompareSizes .GtE xs.size ys.size))) s
    rw [sizes_ord rfl (by simpa using q)]; exact h
theorem readsAll_cons {h : Heap} {vs : List Value} {x : PyData} {xs : List PyData} {as : List Addr} (r : ReadsAll h vs (x :: xs) as) : ∃ v vs' a1 a2, vs = v :: vs' ∧ Reads h v x a1 ∧ ReadsAll h vs' xs a2 := by
  cases r with | cons a b => exact ⟨_, _, _, _, rfl, a, b⟩
theorem reads_tuple {h : Heap} {v : Value} {xs : List PyData} {as : List Addr} (r : Reads h v (.tuple xs) as) : ∃ a o vs n bs, v = .ref a ∧ h.get? a = some o ∧ o.cls = .type "tuple" ∧ o.data = .seq vs n ∧ ReadsAll h vs.toList xs bs := by
  cases r with
  | tuple h1 h2 h3 h4 => exact ⟨_, _, _, _, _, rfl, h1, h2, h3, h4⟩
theorem ordD_tuple {d e : PyData} {o : Ordering} (h : ordD d e = some o) : (∃ a b, d = .int a ∧ e = .int b ∧ o = if a < b then .lt else if a = b then .eq else .gt) ∨ (∃ xs ys, d = .tuple xs ∧ e = .tuple ys ∧ ordL xs ys = some o) := by
  cases d with
  | int a => cases e with
    | int b => (first | exact ns h | exact nb h | obtain rfl := si h | cases h); exact .inl ⟨_, _, rfl, rfl, rfl⟩
    | _ => (first | exact ns h | exact nb h | obtain rfl := si h | cases h)
  | tuple xs => cases e with
    | tuple ys => exact .inr ⟨_, _, rfl, rfl, h⟩
    | _ => (first | exact ns h | exact nb h | obtain rfl := si h | cases h)
  | _ => (first | exact ns h | exact nb h | obtain rfl := si h | cases h)
theorem ordAt : ∀ (n : Nat) (d e : PyData) (A : Around) (s : Shared) (a b : Value) (as bs : List Addr) (o : Ordering), d.depth ≤ n → ordD d e = some o → Reads s.heap a d as → Reads s.heap b e bs → d.canLay0 = true → e.canLay0 = true →
    A.units + n + 1 < cLine → OrdAt prog w A s a b o := by
  have list : ∀ (n : Nat), (∀ (d e : PyData) (A : Around) (s : Shared) (a b : Value) (as bs : List Addr) (o : Ordering), d.depth ≤ n → ordD d e = some o → Reads s.heap a d as → Reads s.heap b e bs → d.canLay0 = true → e.canLay0 = true →
      A.units + n + 1 < cLine → OrdAt prog w A s a b o) → ∀ (xs ys : List PyData) (A : Around) (s : Shared) (vs us : List Value) (as bs : List Addr) (o : Ordering), PyData.depthAll xs ≤ n → ordL xs ys = some o → ReadsAll s.heap vs xs as → ReadsAll s.heap us ys bs →
      PyData.canLayAll0 xs = true → PyData.canLayAll0 ys = true → A.units + n + 1 < cLine → Ors prog w A s vs us o := by
    intro n ih xs
    induction xs with
    | nil =>
      intro ys A s vs us as bs o hd ho r1 r2 c1 c2 hu
      cases r1
      cases ys with
      | nil => cases r2; (first | exact ns ho | exact nb ho | obtain rfl := si ho | cases ho); exact .nn
      | cons y ys => cases r2; (first | exact ns ho | exact nb ho | obtain rfl := si ho | cases ho); exact .nc
    | cons x xs hi =>
      intro ys A s vs us as bs o hd ho r1 r2 c1 c2 hu
      obtain ⟨v, vs', a1, a2, rfl, rv, rvs⟩ := readsAll_cons r1
      cases ys with
      | nil => cases r2; (first | exact ns ho | exact nb ho | obtain rfl := si ho | cases ho); exact .cn
      | cons y ys =>
        obtain ⟨u, us', b1, b2, rfl, ru, rus⟩ := readsAll_cons r2
        obtain ⟨cx, cxs⟩ := Bool.and_eq_true_iff.mp (show (x.canLay0 && PyData.canLayAll0 xs) = true from c1)
        obtain ⟨cy, cys⟩ := Bool.and_eq_true_iff.mp (show (y.canLay0 && PyData.canLayAll0 ys) = true from c2)
        have hd' : max x.depth (PyData.depthAll xs) ≤ n := hd
        have hx : x.depth ≤ n := Nat.le_trans (Nat.le_max_left _ _) hd'
        have hxs : PyData.depthAll xs ≤ n := Nat.le_trans (Nat.le_max_right _ _) hd'
        have he : EqAt A s v u (PyData.eqv x y) := eqAt_reads x y A s v u a1 b1 rv ru cx cy (by have : min x.depth y.depth ≤ x.depth := Nat.min_le_left _ _; omega)
        have ho : (if PyData.eqv x y = true then ordL xs ys else match ordD x y with | some .lt => some .lt | some .gt => some .gt | _ => none) = some o := ho
        cases hq : PyData.eqv x y with
        | true =>
          rw [hq] at he
          rw [if_pos hq] at ho
          exact .same he (hi ys A s vs' us' a2 b2 o hxs ho rvs rus cxs cys hu)
        | false =>
          rw [hq] at he
          rw [if_neg (by rw [hq]; exact Bool.false_ne_true)] at ho
          cases hw : ordD x y with
          | none => rw [hw] at ho; (first | exact ns ho | exact nb ho | obtain rfl := si ho | cases ho)
          | some o' =>
            rw [hw] at ho
            cases o' with
            | lt => (first | exact ns ho | exact nb ho | obtain rfl := si ho | cases ho); exact .diff he (ih x y A s v u a1 b1 .lt hx hw rv ru cx cy hu) (by decide)
            | eq => (first | exact ns ho | exact nb ho | obtain rfl := si ho | cases ho)
            | gt => (first | exact ns ho | exact nb ho | obtain rfl := si ho | cases ho); exact .diff he (ih x y A s v u a1 b1 .gt hx hw rv ru cx cy hu) (by decide)
  intro n
  induction n with
  | zero =>
    intro d e A s a b as bs o hd ho ra rb ca cb hu
    rcases ordD_tuple ho with ⟨x, y, rfl, rfl, rfl⟩ | ⟨xs, ys, rfl, rfl, hl⟩
    · cases ra; cases rb; exact ord_int _ _ _ _
    · simp [PyData.depth] at hd
  | succ n ih =>
    intro d e A s a b as bs o hd ho ra rb ca cb hu
    rcases ordD_tuple ho with ⟨x, y, rfl, rfl, rfl⟩ | ⟨xs, ys, rfl, rfl, hl⟩
    · cases ra; cases rb; exact ord_int _ _ _ _
    · obtain ⟨a', oa, vs, na, _, rfl, ga, ca', da, rvs⟩ := reads_tuple ra
      obtain ⟨b', ob, us, nb, _, rfl, gb, cb', db, rus⟩ := reads_tuple rb
      have hd' : PyData.depthAll xs + 1 ≤ n + 1 := hd
      have hz : Ors prog w A.in1 s vs.toList us.toList o := list n ih xs ys A.in1 s vs.toList us.toList _ _ o (by omega) hl rvs rus ca cb (by show A.units + 1 + n + 1 < cLine; omega)
      intro op hop E Q h
      have Ta : s.TypeIs (.ref a') "tuple" := ⟨oa, ga, ca'⟩
      have Tb : s.TypeIs (.ref b') "tuple" := ⟨ob, gb, cb'⟩
      cases op <;> first | cases hop | skip
      · exact wpAny_richCompare_same_room (op := .Lt) Ta Tb F.slot_tuple_lt (wpAny_call_entry F.slot_tuple_lt Ta F.entry_tuple_lt (tup_lt ga da gb cb' db hz ⟨_, rfl, (fun e => nomatch e), h⟩) (F.args_tuple_lt_2 _ _)) (by omega)
      · exact wpAny_richCompare_same_room (op := .LtE) Ta Tb F.slot_tuple_le (wpAny_call_entry F.slot_tuple_le Ta F.entry_tuple_le (tup_le ga da gb cb' db hz ⟨_, rfl, (fun e => nomatch e), h⟩) (F.args_tuple_le_2 _ _)) (by omega)
      · exact wpAny_richCompare_same_room (op := .Gt) Ta Tb F.slot_tuple_gt (wpAny_call_entry F.slot_tuple_gt Ta F.entry_tuple_gt (tup_gt ga da gb cb' db hz ⟨_, rfl, (fun e => nomatch e), h⟩) (F.args_tuple_gt_2 _ _)) (by omega)
      · exact wpAny_richCompare_same_room (op := .GtE) Ta Tb F.slot_tuple_ge (wpAny_call_entry F.slot_tuple_ge Ta F.entry_tuple_ge (tup_ge ga da gb cb' db hz ⟨_, rfl, (fun e => nomatch e), h⟩) (F.args_tuple_ge_2 _ _)) (by omega)
theorem wp_cmp {op : CmpOp} {a b : Value} {da db : PyData} {c : Bool} {as bs : List Addr} (he : cmpD op da db = some c) (ra : Reads s.heap a da as) (rb : Reads s.heap b db bs) (hu : A.units + 100 < cLine) (h : Q (.bool c) s) :
    wpAny (model prog w) A (compareOp op a b) Q E s := by
  have ord : ∀ op', isOrd op' = true → (if okD da && okD db then (ordD da db).map (ordIs op') else none) = some c → wpAny (model prog w) A (richCompare op' a b) Q E s := by
    intro op' hop hh
    obtain ⟨hok, hh⟩ := ite_some hh
    obtain ⟨h1, h2⟩ := Bool.and_eq_true_iff.mp hok
    cases ho : ordD da db with
    | none => rw [ho] at hh; (first | exact ns hh | exact nb hh | obtain rfl := si hh | cases hh)
    | some o =>
      rw [ho] at hh; (first | exact ns hh | exact nb hh | obtain rfl := si hh | cases hh)
      exact ordAt 64 da db A s a b as bs o (okD_depth h1) ho ra rb (okD_lay h1) (okD_lay h2) (by omega) op' hop E Q h
  cases op with
  | Eq => exact wp_eq he ra rb (by omega) h
  | NotEq =>
    have he : (eqD da db).map (!·) = some c := he
    cases hq : eqD da db with
    | none => rw [hq] at he; (first | exact ns he | exact nb he | obtain rfl := si he | cases he)
    | some b => rw [hq] at he; (first | exact ns he | exact nb he | obtain rfl := si he | cases he); exact wp_ne hq ra rb (by omega) h
  | Lt => exact ord .Lt rfl he
  | LtE => exact ord .LtE rfl he
  | Gt => exact ord .Gt rfl he
  | GtE => exact ord .GtE rfl he
  | Is => (first | exact ns he | exact nb he | obtain rfl := si he | cases he)
  | IsNot => (first | exact ns he | exact nb he | obtain rfl := si he | cases he)
  | In =>
    have mem : ∀ ys : List PyData, (if (okD db && okD da) = true then some (ys.any fun y => PyData.eqv y da) else none) = some c → okD da = true ∧ okD db = true ∧ (ys.any fun y => PyData.eqv y da) = c := fun ys he => by
      obtain ⟨hok, e⟩ := ite_some he
      obtain ⟨h1, h2⟩ := Bool.and_eq_true_iff.mp hok
      exact ⟨h2, h1, Option.some.inj e⟩
    cases db with
    | list ys =>
      obtain ⟨h2, h1, rfl⟩ := mem ys he
      have := okD_depth h2
      exact in_list_reads rb ra (okD_lay h1) (okD_lay h2) (Nat.lt_of_le_of_lt (Nat.add_le_add_left (Nat.min_le_right _ _) _) (by omega)) h
    | tuple ys =>
      obtain ⟨h2, h1, rfl⟩ := mem ys he
      have := okD_depth h2
      exact in_tuple_reads rb ra (okD_lay h1) (okD_lay h2) (Nat.lt_of_le_of_lt (Nat.add_le_add_left (Nat.min_le_right _ _) _) (by omega)) h
    | _ => (first | exact ns he | exact nb he | obtain rfl := si he | cases he)
  | NotIn =>
    have mem : ∀ ys : List PyData, (if (okD db && okD da) = true then some (!ys.any fun y => PyData.eqv y da) else none) = some c → okD da = true ∧ okD db = true ∧ (!ys.any fun y => PyData.eqv y da) = c := fun ys he => by
      obtain ⟨hok, e⟩ := ite_some he
      obtain ⟨h1, h2⟩ := Bool.and_eq_true_iff.mp hok
      exact ⟨h2, h1, Option.some.inj e⟩
    cases db with
    | list ys =>
      obtain ⟨h2, h1, rfl⟩ := mem ys he
      have := okD_depth h2
      exact notIn_list_reads rb ra (okD_lay h1) (okD_lay h2) (Nat.lt_of_le_of_lt (Nat.add_le_add_left (Nat.min_le_right _ _) _) (by omega)) h
    | tuple ys =>
      obtain ⟨h2, h1, rfl⟩ := mem ys he
      have := okD_depth h2
      exact notIn_tuple_reads rb ra (okD_lay h1) (okD_lay h2) (Nat.lt_of_le_of_lt (Nat.add_le_add_left (Nat.min_le_right _ _) _) (by omega)) h
    | _ => (first | exact ns he | exact nb he | obtain rfl := si he | cases he)
end
end Ev
set_option maxRecDepth 10000
namespace Ev
open PySem PySem.W PySem.Spec PySem.Calls PyProof.Rows PySem.SeqAt
mutual
noncomputable def hashK (w : World) : PyData → Int
  | .int i => hashInt i
  | .str x => hashStr w x
  | .tuple ds => reduceHash (Builtin.Tuple.tupleHashOf (hashKs w ds))
  | _ => 0
noncomputable def hashKs (w : World) : List PyData → List Int
  | [] => []
  | d :: ds => hashK w d :: hashKs w ds
end
structure Cx where
  prog : Program
  w : World
  h₀ : Heap
  H : PyData → Int
  names : List Str
  mg : Str → Option Value
  mb : Str → Option Value
  pin : Option (Str × Addr)
structure Cx.Ok (C : Cx) : Prop where
  g : C.h₀.Ns mainGlobals C.mg
  b : C.h₀.Ns builtinsNs C.mb
  lim : C.h₀.NoLimit
  hH : ∀ d, C.H d = hashK C.w d
structure Room (n : Nat) (A : Around) : Prop where
  dep : A.depth + n < recursionLimit
  uni : A.units + 3 * n + 400 < cLine
  hand : A.handled = none
theorem Room.in1 {n : Nat} {A : Around} (r : Room n A) : A.units + 400 < cLine := by have := r.uni; omega
structure Ct (C : Cx) (n : Nat) (sc : Scope) (A : Around) (env : Env) (base : Fz) (low : Fz) (F : Fz) (s : Shared) (σ : St) : Prop where
  ok : C.Ok
  room : Room n A
  scope : env.scope = sc
  k0 : ∀ b o, C.h₀.get? b = some o → base b = some o
  fs : Fs C.H C.names env base low F s.heap σ
  pin : ∀ x a, C.pin = some (x, a) → Lk env s.heap x (.ref a)
variable {C : Cx} {n : Nat} {sc : Scope} {A : Around} {env : Env} {base : Fz} {low : Fz} {F F' : Fz} {s s' : Shared} {σ : St}
theorem Ct.sat (X : Ct C n sc A env base low F s σ) : Sat F s.heap := X.fs.sat
theorem Ct.grow (X : Ct C n sc A env base low F s σ) (g : Grow F s F' s') : Ct C n sc A env base low F' s' σ := ⟨X.ok, X.room, X.scope, X.k0, X.fs.grow g, fun x a e => (X.pin x a e).keeps g.keep⟩
theorem Ct.keep0 (X : Ct C n sc A env base low F s σ) : ∀ b o, C.h₀.get? b = some o → s.heap.get? b = some o := fun b o e => X.fs.keep b o (X.k0 b o e)
theorem Ct.kindOf (X : Ct C n sc A env base low F s σ) (x : Str) : env.kindOf x = sc.names.lookup x := by unfold Env.kindOf; rw [X.scope]
noncomputable abbrev Wp {α : Type} (C : Cx) (A : Around) (t : Sem α) (Q : α → Shared → Prop) (s : Shared) : Prop := wpAny (model C.prog C.w) A t Q (fun _ _ => False) s
noncomputable def Post (C : Cx) (F : Fz) (s : Shared) (d : PyData) : Value → Shared → Prop := fun v s' => ∃ F', Grow F s F' s' ∧ R C.H F' v d
noncomputable def PostB (C : Cx) (F : Fz) (s : Shared) (d : PyData) : Value → Shared → Prop := fun v s' => ∃ F', Grow F s F' s' ∧ Bw C.H F' s'.heap v d
noncomputable def PostT (F : Fz) (s : Shared) (b : Bool) : Bool → Shared → Prop := fun b' s' => b' = b ∧ ∃ F', Grow F s F' s'
noncomputable def Snd (C : Cx) (n : Nat) (sc : Scope) (e : Expr) (f : St → Option PyData) : Prop :=
  ∀ {A env base low F s σ d}, Ct C n sc A env base low F s σ → f σ = some d → Wp C A (eval e env) (Post C F s d) s
noncomputable def SndB (C : Cx) (n : Nat) (sc : Scope) (e : Expr) (f : St → Option PyData) : Prop :=
  ∀ {A env base low F s σ d}, Ct C n sc A env base low F s σ → f σ = some d → Wp C A (eval e env) (PostB C F s d) s
noncomputable def SndT (C : Cx) (n : Nat) (sc : Scope) (e : Expr) (f : St → Option Bool) : Prop :=
  ∀ {A env base low F s σ b}, Ct C n sc A env base low F s σ → f σ = some b → Wp C A (isTrue e env (eval e env)) (PostT F s b) s
theorem wp_mono {α : Type} {t : Sem α} {Q Q' : α → Shared → Prop} (h : Wp C A t Q s) (k : ∀ a s, Q a s → Q' a s) : Wp C A t Q' s := wpAny_mono h k fun _ _ x => x
theorem Snd.b {e : Expr} {f : St → Option PyData} (h : Snd C n sc e f) : SndB C n sc e f := fun X hf => wp_mono (h X hf) fun _ _ ⟨F', g, r⟩ => ⟨F', g, .fz r⟩
/-! constants and names -/
noncomputable def cC (d : PyData) : St → Option PyData := fun _ => some d
theorem Snd.int {i : Int} {k : Nat} {pos : Pos} : Snd C n sc (.Constant (.int i) k pos) (cC (.int i)) := fun {A env base low F s σ d} X hf => by
  (first | exact ns hf | exact nb hf | obtain rfl := si hf | cases hf); exact wpAny_Constant_int ⟨F, .tok X.sat _, .int _ _⟩
theorem Snd.str {x : Str} {k : Nat} {pos : Pos} (hx : PyData.strOk x = true) : Snd C n sc (.Constant (.str x) k pos) (cC (.str x)) := fun {A env base low F s σ d} X hf => by
  (first | exact ns hf | exact nb hf | obtain rfl := si hf | cases hf); exact wpAny_Constant_str ⟨F, .tok X.sat _, .str _ _ hx⟩
theorem Snd.bool {b : Bool} {k : Nat} {pos : Pos} : Snd C n sc (.Constant (.bool b) k pos) (cC (.bool b)) := fun {A env base low F s σ d} X hf => by
  (first | exact ns hf | exact nb hf | obtain rfl := si hf | cases hf); exact wpAny_Constant_bool ⟨F, .refl X.sat, .bool _⟩
noncomputable def vC (i : Nat) : St → Option PyData := fun σ => match sget σ i with
  | some (false, d) => some d
  | _ => none
noncomputable def bC (i : Nat) : St → Option PyData := fun σ => match sget σ i with
  | some (_, d) => some d
  | _ => none
theorem vC_some {i : Nat} {σ : St} {d : PyData} (h : vC i σ = some d) : sget σ i = some (false, d) := by
  unfold vC at h
  rcases e : sget σ i with _ | ⟨b, d'⟩
  · rw [e] at h; (first | exact ns h | exact nb h | obtain rfl := si h | cases h)
  · rw [e] at h; cases b with | false => (first | exact ns h | exact nb h | obtain rfl := si h | cases h); rfl | true => (first | exact ns h | exact nb h | obtain rfl := si h | cases h)
theorem bC_some {i : Nat} {σ : St} {d : PyData} (h : bC i σ = some d) : ∃ b, sget σ i = some (b, d) := by
  unfold bC at h
  rcases e : sget σ i with _ | ⟨b, d'⟩
  · rw [e] at h; (first | exact ns h | exact nb h | obtain rfl := si h | cases h)
  · rw [e] at h; (first | exact ns h | exact nb h | obtain rfl := si h | cases h); exact ⟨b, rfl⟩
theorem Snd.var {i : Nat} {x : Str} {pos : Pos} (hi : C.names[i]? = some x) (hd : (x == ("__debug__" : Str)) = false := by decide) (hc : (x == ("__classdict__" : Str)) = false := by decide) : Snd C n sc (.Name x pos) (vC i) := fun {A env base low F s σ d} X hf => by
  obtain ⟨v, l, r⟩ := X.fs.vars i x _ hi (vC_some hf)
  exact wpAny_Name (wp_load X.fs.kind l ⟨F, .refl X.sat, r⟩ hc) hd
theorem SndB.var {i : Nat} {x : Str} {pos : Pos} (hi : C.names[i]? = some x) (hd : (x == ("__debug__" : Str)) = false := by decide) (hc : (x == ("__classdict__" : Str)) = false := by decide) : SndB C n sc (.Name x pos) (bC i) := fun {A env base low F s σ d} X hf => by
  obtain ⟨b, e⟩ := bC_some hf
  cases b with
  | false =>
    obtain ⟨v, l, r⟩ := X.fs.vars i x _ hi e
    exact wpAny_Name (wp_load X.fs.kind l ⟨F, .refl X.sat, .fz r⟩ hc) hd
  | true =>
    obtain ⟨a, l, o, _⟩ := X.fs.own i x _ hi e
    exact wpAny_Name (wp_load X.fs.kind l ⟨F, .refl X.sat, .ow o⟩ hc) hd
/-! arithmetic -/
theorem Bw.list {H : PyData → Int} {F : Fz} {h : Heap} (st : Sat F h) {v : Value} {ds : List PyData} (b : Bw H F h v (.list ds)) : ∃ a vs n, v = .ref a ∧ h.get? a = some (seqObj "list" vs n) ∧ RL H F vs.toList ds := by
  cases b with
  | fz r => cases r with | list ho r => exact ⟨_, _, _, rfl, st _ _ ho, r⟩
  | ow o => cases o with | list ho r => exact ⟨_, _, _, rfl, ho, r⟩
theorem Bw.tuple {H : PyData → Int} {F : Fz} {h : Heap} (st : Sat F h) {v : Value} {ds : List PyData} (b : Bw H F h v (.tuple ds)) : ∃ a vs n, v = .ref a ∧ h.get? a = some (seqObj "tuple" vs n) ∧ RL H F vs.toList ds := by
  cases b with
  | fz r => cases r with | tuple ho r => exact ⟨_, _, _, rfl, st _ _ ho, r⟩
  | ow o => cases o
theorem Bw.int {H : PyData → Int} {F : Fz} {h : Heap} {v : Value} {i : Int} (b : Bw H F h v (.int i)) : ∃ t, v = .int i t := by
  cases b with
  | fz r => cases r; exact ⟨_, rfl⟩
  | ow o => cases o
theorem Bw.bool {H : PyData → Int} {F : Fz} {h : Heap} {v : Value} {i : Bool} (b : Bw H F h v (.bool i)) : v = .bool i := by
  cases b with
  | fz r => cases r; rfl
  | ow o => cases o
theorem R.toInt {H : PyData → Int} {F : Fz} {v : Value} {i : Int} (r : R H F v (.int i)) : ∃ t, v = .int i t := by cases r; exact ⟨_, rfl⟩
theorem R.toBool {H : PyData → Int} {F : Fz} {v : Value} {b : Bool} (r : R H F v (.bool b)) : v = .bool b := by cases r; rfl
noncomputable def small (i : Int) : Bool := decide (-18446744073709551616 < i) && decide (i < 18446744073709551616)
noncomputable def intOp (op : Operator) (x y : Int) : Option PyData := match op with
  | .Add => some (.int (x + y))
  | .Sub => some (.int (x - y))
  | .Mult => if small x then some (.int (x * y)) else none
  | .FloorDiv => if decide (0 < y) && decide (y < 1000000000) then some (.int (x.fdiv y)) else none
  | .Mod => if y = 0 then none else some (.int (x.fmod y))
  | .Pow => if decide (0 ≤ y) && decide (y ≤ 1000) && small x then some (.int (x ^ y.toNat)) else none
  | _ => none
noncomputable def binD (op : Operator) (a b : PyData) : Option PyData := match a with
  | .int x => match b with
    | .int y => intOp op x y
    | _ => none
  | .list xs => match b with
    | .list ys => match op with
      | .Add => if xs.length + ys.length ≤ 1048576 then some (.list (xs ++ ys)) else none
      | _ => none
    | _ => none
  | _ => none
theorem small_nat {i : Int} (h : small i = true) : i.natAbs < 2 ^ 64 := by
  obtain ⟨h1, h2⟩ := Bool.and_eq_true_iff.mp h
  have := of_decide_eq_true h1
  have := of_decide_eq_true h2
  omega
theorem small_bits {i : Int} (h : small i = true) : Builtin.Int.intBits i ≤ 64 := by
  obtain ⟨h1, h2⟩ := Bool.and_eq_true_iff.mp h
  exact intBits_le_64 (by have := of_decide_eq_true h1; omega) (by have := of_decide_eq_true h2; omega)
theorem rl_arr {H : PyData → Int} {F : Fz} {xs : Array Value} {ds : List PyData} (r : RL H F xs.toList ds) : xs.size = ds.length := by rw [← r.length, Array.length_toList]
theorem wp_intOp {op : Operator} {x y : Int} {t u : Tok} {d : PyData} (hs : Sat F s.heap) (h : intOp op x y = some d) : Wp C A (binaryOp op (.int x t) (.int y u)) (Post C F s d) s := by
  cases op with
  | Add => (first | exact ns h | exact nb h | obtain rfl := si h | cases h); exact P.add_int ⟨F, .tok hs _, .int _ _⟩
  | Sub => (first | exact ns h | exact nb h | obtain rfl := si h | cases h); exact P.sub_int ⟨F, .tok hs _, .int _ _⟩
  | Mult =>
    obtain ⟨hx, h⟩ := ite_some h
    (first | exact ns h | exact nb h | obtain rfl := si h | cases h)
    exact P.mul_int ⟨F, .tok hs _, .int _ _⟩ (IntMulOk.of_left (small_bits hx))
  | FloorDiv =>
    obtain ⟨hx, h⟩ := ite_some h
    (first | exact ns h | exact nb h | obtain rfl := si h | cases h)
    obtain ⟨h1, h2⟩ := Bool.and_eq_true_iff.mp hx
    have h1 := of_decide_eq_true h1
    have h2 := of_decide_eq_true h2
    exact PyProof.Rows.floordiv_int (by omega) ⟨F, .tok hs _, .int _ _⟩ (.inl (PyProof.noPylong_small (by omega)))
  | Mod =>
    have h : (if y = 0 then none else some (.int (x.fmod y))) = some d := h
    by_cases hy : y = 0
    · rw [if_pos hy] at h; (first | exact ns h | exact nb h | obtain rfl := si h | cases h)
    · rw [if_neg hy] at h; (first | exact ns h | exact nb h | obtain rfl := si h | cases h)
      exact PyProof.Rows.mod_int' hy ⟨F, .tok hs _, .int _ _⟩
  | Pow =>
    obtain ⟨hx, h⟩ := ite_some h
    (first | exact ns h | exact nb h | obtain rfl := si h | cases h)
    obtain ⟨hx, h3⟩ := Bool.and_eq_true_iff.mp hx
    obtain ⟨h1, h2⟩ := Bool.and_eq_true_iff.mp hx
    exact PyProof.Rows.pow_int_small (of_decide_eq_true h1) (by have := of_decide_eq_true h2; omega) (small_nat h3) ⟨F, .tok hs _, .int _ _⟩
  | _ => (first | exact ns h | exact nb h | obtain rfl := si h | cases h)
theorem wp_bin {op : Operator} {v1 v2 : Value} {d1 d2 d : PyData} (hs : Sat F s.heap) (h : binD op d1 d2 = some d) (r1 : Bw C.H F s.heap v1 d1) (r2 : Bw C.H F s.heap v2 d2) : Wp C A (binaryOp op v1 v2) (Post C F s d) s := by
  cases d1 with
  | int x => cases d2 with
    | int y =>
      obtain ⟨t, rfl⟩ := r1.int; obtain ⟨u, rfl⟩ := r2.int
      exact wp_intOp hs h
    | _ => (first | exact ns h | exact nb h | obtain rfl := si h | cases h)
  | list xs => cases d2 with
    | list ys => cases op with
      | Add =>
        obtain ⟨hl, h⟩ := ite_some h
        (first | exact ns h | exact nb h | obtain rfl := si h | cases h)
        obtain ⟨a, xs, n1, rfl, ha, ra⟩ := r1.list hs
        obtain ⟨b, ys, n2, rfl, hb, rb⟩ := r2.list hs
        have e1 := rl_arr ra
        have e2 := rl_arr rb
        refine P.add_list ha hb ⟨_, Grow.push hs (seqObj "list" (xs ++ ys) 0) rfl, .list (put_self ..) ?_⟩ (by rw [sizeLine_eq]; omega)
        rw [Array.toList_append]
        exact (ra.append rb).mono (put_sub (sat_fresh hs (get_size _)))
      | _ => (first | exact ns h | exact nb h | obtain rfl := si h | cases h)
    | _ => (first | exact ns h | exact nb h | obtain rfl := si h | cases h)
  | _ => (first | exact ns h | exact nb h | obtain rfl := si h | cases h)
noncomputable def opC (op : Operator) (f g : St → Option PyData) : St → Option PyData := fun σ => match f σ with
  | some a => match g σ with
    | some b => binD op a b
    | none => none
  | none => none
theorem Snd.bin {op : Operator} {a b : Expr} {pos : Pos} {f g : St → Option PyData} (ha : SndB C n sc a f) (hb : SndB C n sc b g) : Snd C n sc (.BinOp a op b pos) (opC op f g) := fun {A env base low F s σ d} X hf => by
  unfold opC at hf
  rcases e1 : f σ with _ | d1
  · rw [e1] at hf; (first | exact ns hf | exact nb hf | obtain rfl := si hf | cases hf)
  rw [e1] at hf
  rcases e2 : g σ with _ | d2
  · rw [e2] at hf; (first | exact ns hf | exact nb hf | obtain rfl := si hf | cases hf)
  rw [e2] at hf
  refine wpAny_BinOp (wp_mono (ha X e1) fun v1 s1 ⟨F1, g1, r1⟩ => wp_mono (hb (X.grow g1) e2) fun v2 s2 ⟨F2, g2, r2⟩ => ?_)
  exact wp_mono (wp_bin g2.sat hf (r1.grow g2) r2) fun v s3 ⟨F3, g3, r3⟩ => ⟨F3, (g1.trans g2).trans g3, r3⟩
/-! comparisons -/
noncomputable def cmC (op : CmpOp) (f g : St → Option PyData) : St → Option Bool := fun σ => match f σ with
  | some a => match g σ with
    | some b => cmpD op a b
    | none => none
  | none => none
noncomputable def ofB (t : St → Option Bool) : St → Option PyData := fun σ => match t σ with
  | some b => some (.bool b)
  | none => none
theorem wp_cmpB {op : CmpOp} {v1 v2 : Value} {d1 d2 : PyData} {c : Bool} {Q : Value → Shared → Prop} (hs : Sat F s.heap) (hu : A.units + 400 < cLine) (h : cmpD op d1 d2 = some c) (r1 : Bw C.H F s.heap v1 d1) (r2 : Bw C.H F s.heap v2 d2)
    (hq : Q (.bool c) s) : Wp C A (compareOp op v1 v2) Q s := by
  obtain ⟨as, q1⟩ := r1.reads hs
  obtain ⟨bs, q2⟩ := r2.reads hs
  exact wp_cmp h q1 q2 (by omega) hq
theorem Snd.cmp {op : CmpOp} {a b : Expr} {pos : Pos} {f g : St → Option PyData} (ha : SndB C n sc a f) (hb : SndB C n sc b g) (hm : behindInMarks op b = false := by with_unfolding_all rfl) : Snd C n sc (.Compare a [op] [b] pos) (ofB (cmC op f g)) := fun {A env base low F s σ d} X hf => by
  unfold ofB cmC at hf
  cases e1 : f σ with
  | none => simp only [e1] at hf; (first | exact ns hf | exact nb hf | obtain rfl := si hf | cases hf)
  | some d1 =>
    cases e2 : g σ with
    | none => simp only [e1, e2] at hf; (first | exact ns hf | exact nb hf | obtain rfl := si hf | cases hf)
    | some d2 =>
      simp only [e1, e2] at hf
      cases e3 : cmpD op d1 d2 with
      | none => simp only [e3] at hf; (first | exact ns hf | exact nb hf | obtain rfl := si hf | cases hf)
      | some c =>
        simp only [e3] at hf
        (first | exact ns hf | exact nb hf | obtain rfl := si hf | cases hf)
        refine wpAny_Compare1 (wp_mono (ha X e1) fun v1 s1 ⟨F1, g1, r1⟩ => wp_mono (hb (X.grow g1) e2) fun v2 s2 ⟨F2, g2, r2⟩ => ?_) hm
        exact wp_cmpB g2.sat X.room.in1 e3 (r1.grow g2) r2 ⟨F2, g1.trans g2, .bool _⟩
theorem SndT.cmp {op : CmpOp} {a b : Expr} {pos : Pos} {f g : St → Option PyData} (ha : SndB C n sc a f) (hb : SndB C n sc b g) (hm : behindInMarks op b = false := by with_unfolding_all rfl) : SndT C n sc (.Compare a [op] [b] pos) (cmC op f g) := fun {A env base low F s σ d} X hf => by
  unfold cmC at hf
  cases e1 : f σ with
  | none => simp only [e1] at hf; (first | exact ns hf | exact nb hf | obtain rfl := si hf | cases hf)
  | some d1 =>
    cases e2 : g σ with
    | none => simp only [e1, e2] at hf; (first | exact ns hf | exact nb hf | obtain rfl := si hf | cases hf)
    | some d2 =>
      simp only [e1, e2] at hf
      refine wpAny_isTrue_Compare1 (wp_mono (ha X e1) fun v1 s1 ⟨F1, g1, r1⟩ => wp_mono (hb (X.grow g1) e2) fun v2 s2 ⟨F2, g2, r2⟩ => ?_) hm
      exact wp_cmpB g2.sat X.room.in1 hf (r1.grow g2) r2 (wpAny_truthy_bool ⟨rfl, F2, g1.trans g2⟩)
/-! chains -/
inductive SndCh (C : Cx) (n : Nat) (sc : Scope) : List CmpOp → List Expr → List (CmpOp × (St → Option PyData)) → Prop
  | nil : SndCh C n sc [] [] []
  | cons {op ops e es g l} : SndB C n sc e g → SndCh C n sc ops es l → SndCh C n sc (op :: ops) (e :: es) ((op, g) :: l)
/-! truth -/
noncomputable def truD : PyData → Option Bool
  | .bool b => some b
  | .int i => some (i != 0)
  | _ => none
noncomputable def tvC (f : St → Option PyData) : St → Option Bool := fun σ => match f σ with
  | some d => truD d
  | none => none
theorem wp_tru {v : Value} {d : PyData} {b : Bool} {Q : Bool → Shared → Prop} (h : truD d = some b) (r : Bw C.H F s.heap v d) (hq : Q b s) : Wp C A (truthy v) Q s := by
  cases d with
  | bool c => (first | exact ns h | exact nb h | obtain rfl := si h | cases h); rw [r.bool]; exact wpAny_truthy_bool hq
  | int i => (first | exact ns h | exact nb h | obtain rfl := si h | cases h); obtain ⟨t, rfl⟩ := r.int; exact P.truthy_int hq
  | _ => (first | exact ns h | exact nb h | obtain rfl := si h | cases h)
theorem SndT.val {e : Expr} {f : St → Option PyData} (h : SndB C n sc e f) (he : ∀ env whole, isTrue e env whole = (do let v ← whole; standAt e.pos; holding [v] (truthy v)) := by intro _ _; rfl) : SndT C n sc e (tvC f) := fun {A env base low F s σ b} X hf => by
  unfold tvC at hf
  split at hf
  · rename_i d e1
    refine wpAny_isTrue_value (wp_mono (h X e1) fun v s1 ⟨F1, g1, r1⟩ => ?_) (he env _)
    exact wp_tru hf r1 ⟨rfl, F1, g1⟩
  · (first | exact ns hf | exact nb hf | obtain rfl := si hf | cases hf)
noncomputable def anyC : List (St → Option Bool) → St → Option Bool
  | [], _ => some false
  | t :: ts, σ => match t σ with
    | some true => some true
    | some false => anyC ts σ
    | none => none
inductive SndTs (C : Cx) (n : Nat) (sc : Scope) : List Expr → List (St → Option Bool) → Prop
  | nil : SndTs C n sc [] []
  | cons {e es t ts} : SndT C n sc e t → SndTs C n sc es ts → SndTs C n sc (e :: es) (t :: ts)
theorem anyC_some {t : St → Option Bool} {ts : List (St → Option Bool)} {σ : St} {b : Bool} (h : anyC (t :: ts) σ = some b) : (t σ = some false ∧ anyC ts σ = some b) ∨ (t σ = some true ∧ b = true) := by
  have h : (match t σ with | some true => some true | some false => anyC ts σ | none => none) = some b := h
  rcases e : t σ with _ | _ | _
  · rw [e] at h; (first | exact ns h | exact nb h | obtain rfl := si h | cases h)
  · rw [e] at h; exact .inl ⟨rfl, h⟩
  · rw [e] at h; (first | exact ns h | exact nb h | obtain rfl := si h | cases h); exact .inr ⟨rfl, rfl⟩
theorem any_wp : ∀ {es : List Expr} {ts : List (St → Option Bool)}, SndTs C n sc es ts → ∀ {A env base low F s σ b}, Ct C n sc A env base low F s σ → anyC ts σ = some b → Wp C A (allTrue .Or es env) (PostT F s b) s := by
  intro es ts hts
  induction hts with
  | nil => intro _ _ _ _ _ _ _ _ X h; (first | exact ns h | exact nb h | obtain rfl := si h | cases h); exact wpAny_allTrue_Or_nil ⟨rfl, _, .refl X.sat⟩
  | cons ht r ih =>
    intro _ _ _ _ _ _ _ _ X h
    rcases anyC_some h with ⟨e, h⟩ | ⟨e, rfl⟩
    rotate_left
    · refine wpAny_allTrue_Or_cons (wp_mono (ht X e) fun b1 s1 ⟨e1, F1, g1⟩ => ?_)
      subst e1
      first | with_reducible refine w_true ?_ | with_reducible refine wb_true ?_ | rw [if_pos rfl]
      exact ⟨rfl, F1, g1⟩
    · refine wpAny_allTrue_Or_cons (wp_mono (ht X e) fun b1 s1 ⟨e1, F1, g1⟩ => ?_)
      subst e1
      first | with_reducible refine w_false ?_ | with_reducible refine wb_false ?_ | rw [if_neg Bool.false_ne_true]
      exact wp_mono (ih (X.grow g1) h) fun v s3 ⟨e3, F3, g3⟩ => ⟨e3, F3, g1.trans g3⟩
theorem SndT.or {es : List Expr} {ts : List (St → Option Bool)} {pos : Pos} (h : SndTs C n sc es ts) : SndT C n sc (.BoolOp .Or es pos) (anyC ts) := fun X hf => wpAny_isTrue_BoolOp (any_wp h X hf)
/-! and, or as values -/
noncomputable def orC (f g : St → Option PyData) : St → Option PyData := fun σ => match f σ with
  | some d => match truD d with
    | some true => some d
    | some false => g σ
    | none => none
  | none => none
theorem Snd.or {a b : Expr} {pos : Pos} {f g : St → Option PyData} (ha : Snd C n sc a f) (hb : Snd C n sc b g) : Snd C n sc (.BoolOp .Or [a, b] pos) (orC f g) := fun {A env base low F s σ d} X hf => by
  unfold orC at hf
  split at hf
  · rename_i d1 e1
    split at hf
    · rename_i e2
      (first | exact ns hf | exact nb hf | obtain rfl := si hf | cases hf)
      refine wpAny_Or2 (wp_mono (ha X e1) fun v s1 ⟨F1, g1, r1⟩ => wp_tru e2 (.fz r1) ?_)
      first | with_reducible refine w_true ?_ | with_reducible refine wb_true ?_ | rw [if_pos rfl]
      exact ⟨F1, g1, r1⟩
    · rename_i e2
      refine wpAny_Or2 (wp_mono (ha X e1) fun v s1 ⟨F1, g1, r1⟩ => wp_tru e2 (.fz r1) ?_)
      first | with_reducible refine w_false ?_ | with_reducible refine wb_false ?_ | rw [if_neg Bool.false_ne_true]
      exact wp_mono (hb (X.grow g1) hf) fun v s3 ⟨F3, g3, r3⟩ => ⟨F3, g1.trans g3, r3⟩
    · (first | exact ns hf | exact nb hf | obtain rfl := si hf | cases hf)
  · (first | exact ns hf | exact nb hf | obtain rfl := si hf | cases hf)
noncomputable def ifC (t : St → Option Bool) (f g : St → Option PyData) : St → Option PyData := fun σ => match t σ with
  | some true => f σ
  | some false => g σ
  | none => none
theorem Snd.ifx {t a b : Expr} {pos : Pos} {u : St → Option Bool} {f g : St → Option PyData} (ht : SndT C n sc t u) (ha : Snd C n sc a f) (hb : Snd C n sc b g) : Snd C n sc (.IfExp t a b pos) (ifC u f g) := fun {A env base low F s σ d} X hf => by
  unfold ifC at hf
  split at hf
  · rename_i e
    refine wpAny_IfExp (wp_mono (ht X e) fun b1 s1 ⟨e1, F1, g1⟩ => ?_)
    subst e1
    first | with_reducible refine w_true ?_ | with_reducible refine wb_true ?_ | rw [if_pos rfl]
    exact wp_mono (ha (X.grow g1) hf) fun v s3 ⟨F3, g3, r3⟩ => ⟨F3, g1.trans g3, r3⟩
  · rename_i e
    refine wpAny_IfExp (wp_mono (ht X e) fun b1 s1 ⟨e1, F1, g1⟩ => ?_)
    subst e1
    first | with_reducible refine w_false ?_ | with_reducible refine wb_false ?_ | rw [if_neg Bool.false_ne_true]
    exact wp_mono (hb (X.grow g1) hf) fun v s3 ⟨F3, g3, r3⟩ => ⟨F3, g1.trans g3, r3⟩
  · (first | exact ns hf | exact nb hf | obtain rfl := si hf | cases hf)
end Ev
set_option maxRecDepth 10000
namespace Ev
open PySem PySem.W PySem.Spec PySem.Calls PyProof.Rows PySem.SeqAt
variable {C : Cx} {n : Nat} {sc : Scope} {A : Around} {env : Env} {base : Fz} {low : Fz} {F F' : Fz} {s s' : Shared} {σ : St}
/-! globals and built-ins -/
noncomputable def Cx.Bi (C : Cx) (x : Str) (v : Value) : Prop := C.mg x = none ∧ C.mb x = some v
noncomputable def Cx.Gl (C : Cx) (x : Str) (v : Value) : Prop := C.mg x = some v
theorem wp_builtin {x : Str} {pos : Pos} {v : Value} {Q : Value → Shared → Prop} (X : Ct C n sc A env base low F s σ) (hb : C.Bi x v) (hk : sc.names.lookup x = some .globalImplicit) (h : Q v s)
    (hd : (x == ("__debug__" : Str)) = false := by decide) : Wp C A (eval (.Name x pos) env) Q s := by
  refine Name_function_global X.fs.kind ((X.kindOf x).trans hk) (loadGlobal_builtin (mg := C.mg) (mb := C.mb) ?_ hb.1 ?_ hb.2 h) hd
  · rw [X.fs.glob]; exact X.ok.g.keeps X.keep0
  · rw [X.fs.blt]; exact X.ok.b.keeps X.keep0
theorem wp_global {x : Str} {pos : Pos} {v : Value} {Q : Value → Shared → Prop} (X : Ct C n sc A env base low F s σ) (hb : C.Gl x v) (hk : sc.names.lookup x = some .globalImplicit) (h : Q v s)
    (hd : (x == ("__debug__" : Str)) = false := by decide) : Wp C A (eval (.Name x pos) env) Q s := by
  refine Name_function_global X.fs.kind ((X.kindOf x).trans hk) (loadGlobal_global (mg := C.mg) ?_ hb h) hd
  rw [X.fs.glob]; exact X.ok.g.keeps X.keep0
/-! lists of arguments -/
inductive BwL (H : PyData → Int) (F : Fz) (h : Heap) : List Value → List PyData → Prop
  | nil : BwL H F h [] []
  | cons {v vs d ds} : Bw H F h v d → BwL H F h vs ds → BwL H F h (v :: vs) (d :: ds)
noncomputable abbrev Sf := List (St → Option PyData)
noncomputable def asC : Sf → St → Option (List PyData)
  | [], _ => some []
  | f :: fs, σ => match f σ with
    | some d => match asC fs σ with
      | some ds => some (d :: ds)
      | none => none
    | none => none
inductive SndAs (C : Cx) (n : Nat) (sc : Scope) : List Expr → Sf → Prop
  | nil : SndAs C n sc [] []
  | cons {e es f fs} : SndB C n sc e f → SndAs C n sc es fs → (∀ r env, starEach (e :: r) env = (false, eval e env) :: starEach r env) → SndAs C n sc (e :: es) (f :: fs)
inductive SndRs (C : Cx) (n : Nat) (sc : Scope) : List Expr → Sf → Prop
  | nil : SndRs C n sc [] []
  | cons {e es f fs} : Snd C n sc e f → SndRs C n sc es fs → (∀ r env, starEach (e :: r) env = (false, eval e env) :: starEach r env) → SndRs C n sc (e :: es) (f :: fs)
theorem asC_cons {f : St → Option PyData} {fs : Sf} {ds : List PyData} (h : asC (f :: fs) σ = some ds) : ∃ d r, f σ = some d ∧ asC fs σ = some r ∧ ds = d :: r := by
  have h : (match f σ with | some d => (match asC fs σ with | some r => some (d :: r) | none => none) | none => none) = some _ := h
  cases e1 : f σ with
  | none => rw [e1] at h; (first | exact ns h | exact nb h | obtain rfl := si h | cases h)
  | some d =>
    cases e2 : asC fs σ with
    | none => rw [e1] at h; have h : (match asC fs σ with | some r => some (d :: r) | none => none) = some _ := h; rw [e2] at h; (first | exact ns h | exact nb h | obtain rfl := si h | cases h)
    | some r => rw [e1] at h; have h : (match asC fs σ with | some r => some (d :: r) | none => none) = some _ := h; rw [e2] at h; (first | exact ns h | exact nb h | obtain rfl := si h | cases h); exact ⟨d, r, rfl, rfl, rfl⟩
theorem argsB_wp {pos : Pos} : ∀ {es : List Expr} {fs : Sf}, SndAs C n sc es fs → ∀ {A env base low F s σ ds}, Ct C n sc A env base low F s σ → asC fs σ = some ds →
    Wp C A (spliced (backTo pos (starEach es env))) (fun vs s' => ∃ F', Grow F s F' s' ∧ BwL C.H F' s'.heap vs ds) s := by
  intro es fs hes
  induction hes with
  | nil => intro _ _ _ _ _ _ _ _ X h; (first | exact ns h | exact nb h | obtain rfl := si h | cases h); exact spliced_nil ⟨_, .refl X.sat, .nil⟩
  | cons he r hs ih =>
    intro _ _ _ _ _ _ _ _ X h
    obtain ⟨d, ds', h1, h2, rfl⟩ := asC_cons h
    rw [hs]
    refine spliced_cons (wp_mono (he X h1) fun v s1 ⟨F1, g1, r1⟩ => ?_)
    exact wp_mono (ih (X.grow g1) h2) fun vs s2 ⟨F2, g2, r2⟩ => ⟨F2, g1.trans g2, .cons (r1.grow g2) r2⟩
theorem argsR_wp {pos : Pos} : ∀ {es : List Expr} {fs : Sf}, SndRs C n sc es fs → ∀ {A env base low F s σ ds}, Ct C n sc A env base low F s σ → asC fs σ = some ds →
    Wp C A (spliced (backTo pos (starEach es env))) (fun vs s' => ∃ F', Grow F s F' s' ∧ RL C.H F' vs ds) s := by
  intro es fs hes
  induction hes with
  | nil => intro _ _ _ _ _ _ _ _ X h; (first | exact ns h | exact nb h | obtain rfl := si h | cases h); exact spliced_nil ⟨_, .refl X.sat, .nil⟩
  | cons he r hs ih =>
    intro _ _ _ _ _ _ _ _ X h
    obtain ⟨d, ds', h1, h2, rfl⟩ := asC_cons h
    rw [hs]
    refine spliced_cons (wp_mono (he X h1) fun v s1 ⟨F1, g1, r1⟩ => ?_)
    exact wp_mono (ih (X.grow g1) h2) fun vs s2 ⟨F2, g2, r2⟩ => ⟨F2, g1.trans g2, .cons (r1.mono g2.sub) r2⟩
/-! displays -/
noncomputable def okLen (ds : List PyData) : Bool := decide (ds.length ≤ 1048576)
theorem okLen_le {ds : List PyData} (h : okLen ds = true) : ds.length ≤ sizeLine := by
  have := of_decide_eq_true h
  rw [sizeLine_eq]; omega
noncomputable def tupC (fs : Sf) : St → Option PyData := fun σ => match asC fs σ with
  | some ds => if okLen ds then some (.tuple ds) else none
  | none => none
noncomputable def lstC (fs : Sf) : St → Option PyData := fun σ => match asC fs σ with
  | some ds => if okLen ds then some (.list ds) else none
  | none => none
theorem wp_newList {vs : List Value} {ds : List PyData} (hs : Sat F s.heap) (r : RL C.H F vs ds) (hl : okLen ds = true) : Wp C A (newList vs) (Post C F s (.list ds)) s := by
  refine PySem.wpAny_newList ⟨_, Grow.push hs (seqObj "list" vs.toArray 0) rfl, .list (put_self ..) ?_⟩ ?_
  · exact r.mono (put_sub (sat_fresh hs (get_size _)))
  · rw [r.length]; exact okLen_le hl
theorem wp_newTuple {vs : List Value} {ds : List PyData} (hs : Sat F s.heap) (r : RL C.H F vs ds) (hl : okLen ds = true) : Wp C A (newTuple vs) (Post C F s (.tuple ds)) s := by
  refine PySem.wpAny_newTuple ⟨_, Grow.push hs (seqObj "tuple" vs.toArray 0) rfl, .tuple (put_self ..) ?_⟩ ?_
  · exact r.mono (put_sub (sat_fresh hs (get_size _)))
  · rw [r.length]; exact okLen_le hl
theorem Snd.tuple {es : List Expr} {fs : Sf} {k : Nat} {pos : Pos} (h : SndRs C n sc es fs) : Snd C n sc (.Tuple es k pos) (tupC fs) := fun {A env base low F s σ d} X hf => by
  unfold tupC at hf
  cases e : asC fs σ with
  | none => rw [e] at hf; (first | exact ns hf | exact nb hf | obtain rfl := si hf | cases hf)
  | some ds =>
    rw [e] at hf
    dsimp only at hf
    split at hf
    · rename_i hl
      (first | exact ns hf | exact nb hf | obtain rfl := si hf | cases hf)
      rw [arm_eval_Tuple]
      refine wpAny_bind (wpAny_standAt (wpAny_bind (wp_mono (argsR_wp h X e) fun vs s1 ⟨F1, g1, r1⟩ => ?_)))
      exact wp_mono (wp_newTuple g1.sat r1 hl) fun v s2 ⟨F2, g2, r2⟩ => ⟨F2, g1.trans g2, r2⟩
    · (first | exact ns hf | exact nb hf | obtain rfl := si hf | cases hf)
theorem Snd.list {es : List Expr} {fs : Sf} {pos : Pos} (h : SndRs C n sc es fs) : Snd C n sc (.List es pos) (lstC fs) := fun {A env base low F s σ d} X hf => by
  unfold lstC at hf
  cases e : asC fs σ with
  | none => rw [e] at hf; (first | exact ns hf | exact nb hf | obtain rfl := si hf | cases hf)
  | some ds =>
    rw [e] at hf
    dsimp only at hf
    split at hf
    · rename_i hl
      (first | exact ns hf | exact nb hf | obtain rfl := si hf | cases hf)
      rw [arm_eval_List]
      refine wpAny_bind (wpAny_standAt (wpAny_bind (wp_mono (argsR_wp h X e) fun vs s1 ⟨F1, g1, r1⟩ => ?_)))
      exact wp_mono (wp_newList g1.sat r1 hl) fun v s2 ⟨F2, g2, r2⟩ => ⟨F2, g1.trans g2, r2⟩
    · (first | exact ns hf | exact nb hf | obtain rfl := si hf | cases hf)
/-! calls of the text's functions -/
structure FnAtX (C : Cx) (fa : Addr) : Prop where
  fn : ∃ o fd, C.h₀.get? fa = some o ∧ o.data = .func fd
noncomputable def FnOk (C : Cx) (n : Nat) (fa : Addr) (g : List PyData → Option PyData) : Prop :=
  ∀ {A F s vs ds d}, Room n A → (∀ b o, C.h₀.get? b = some o → s.heap.get? b = some o) → Sat F s.heap → RL C.H F vs ds → g ds = some d → Wp C A (call (.ref fa) vs) (Post C F s d) s
noncomputable def FnB (C : Cx) (n : Nat) (fa : Addr) (g : List PyData → Option PyData) : Prop :=
  ∀ {A F s vs ds d}, Room n A → (∀ b o, C.h₀.get? b = some o → s.heap.get? b = some o) → Sat F s.heap → BwL C.H F s.heap vs ds → g ds = some d → Wp C A (call (.ref fa) vs) (Post C F s d) s
theorem Room.le {n m : Nat} {A : Around} (h : m ≤ n) (r : Room n A) : Room m A := ⟨by have := r.dep; omega, by have := r.uni; omega, r.hand⟩
noncomputable def callC (g : List PyData → Option PyData) (fs : Sf) : St → Option PyData := fun σ => match asC fs σ with
  | some ds => g ds
  | none => none
theorem Snd.call {x : Str} {px pos : Pos} {e : Expr} {es : List Expr} {f : St → Option PyData} {fs : Sf} {fa : Addr} {g : List PyData → Option PyData} {m : Nat} (hg : C.Gl x (.ref fa)) (hk : sc.names.lookup x = some .globalImplicit)
    (hx : FnAtX C fa) (hf : FnOk C m fa g) (h : SndRs C n sc (e :: es) (f :: fs)) (hm : m ≤ n) (hd : (x == ("__debug__" : Str)) = false := by decide) :
    Snd C n sc (.Call (.Name x px) (e :: es) [] pos) (callC g (f :: fs)) := fun {A env base low F s σ d} X hc => by
  unfold callC at hc
  cases e : asC (f :: fs) σ with
  | none => rw [e] at hc; (first | exact ns hc | exact nb hc | obtain rfl := si hc | cases hc)
  | some ds =>
    rw [e] at hc
    dsimp only at hc
    obtain ⟨o, fd, ho, hdat⟩ := hx.fn
    refine Call_ (wp_global X hg hk (callWith_def hdat (wp_mono (argsR_wp h X e) fun vs s1 ⟨F1, g1, r1⟩ => ?_) ?_) hd)
    · refine ⟨g1.keep _ _ (X.keep0 _ _ ho), ?_⟩
      exact wp_mono (hf (X.room.le hm) (fun b o q => g1.keep _ _ (X.keep0 _ _ q)) g1.sat r1 hc) fun v s2 ⟨F2, g2, r2⟩ => ⟨F2, g1.trans g2, r2⟩
    · cases h with | cons _ _ hs => exact hs _ _
theorem Snd.callB {x : Str} {px pos : Pos} {e : Expr} {es : List Expr} {f : St → Option PyData} {fs : Sf} {fa : Addr} {g : List PyData → Option PyData} {m : Nat} (hg : C.Gl x (.ref fa)) (hk : sc.names.lookup x = some .globalImplicit)
    (hx : FnAtX C fa) (hf : FnB C m fa g) (h : SndAs C n sc (e :: es) (f :: fs)) (hm : m ≤ n) (hd : (x == ("__debug__" : Str)) = false := by decide) :
    Snd C n sc (.Call (.Name x px) (e :: es) [] pos) (callC g (f :: fs)) := fun {A env base low F s σ d} X hc => by
  unfold callC at hc
  cases e : asC (f :: fs) σ with
  | none => rw [e] at hc; (first | exact ns hc | exact nb hc | obtain rfl := si hc | cases hc)
  | some ds =>
    rw [e] at hc
    dsimp only at hc
    obtain ⟨o, fd, ho, hdat⟩ := hx.fn
    refine Call_ (wp_global X hg hk (callWith_def hdat (wp_mono (argsB_wp h X e) fun vs s1 ⟨F1, g1, r1⟩ => ?_) ?_) hd)
    · refine ⟨g1.keep _ _ (X.keep0 _ _ ho), ?_⟩
      exact wp_mono (hf (X.room.le hm) (fun b o q => g1.keep _ _ (X.keep0 _ _ q)) g1.sat r1 hc) fun v s2 ⟨F2, g2, r2⟩ => ⟨F2, g1.trans g2, r2⟩
    · cases h with | cons _ _ hs => exact hs _ _
/-! calls of built-ins, on data that stand -/
noncomputable def BiOk (C : Cx) (v : Value) (g : List PyData → Option PyData) : Prop :=
  ∀ {A F s vs ds d}, A.units + 400 < cLine → A.handled = none → Sat F s.heap → BwL C.H F s.heap vs ds → g ds = some d → Wp C A (call v vs) (Post C F s d) s
theorem Snd.bi {x : Str} {px pos : Pos} {e : Expr} {es : List Expr} {f : St → Option PyData} {fs : Sf} {id : String} {g : List PyData → Option PyData} (hb : C.Bi x (.builtin id)) (hk : sc.names.lookup x = some .globalImplicit)
    (hf : BiOk C (.builtin id) g) (h : SndAs C n sc (e :: es) (f :: fs)) (hp : ∀ env, (backTo pos (starEach es env)).any (·.1) = false := by intro _; rfl) (hd : (x == ("__debug__" : Str)) = false := by decide) :
    Snd C n sc (.Call (.Name x px) (e :: es) [] pos) (callC g (f :: fs)) := fun {A env base low F s σ d} X hc => by
  unfold callC at hc
  cases e : asC (f :: fs) σ with
  | none => rw [e] at hc; (first | exact ns hc | exact nb hc | obtain rfl := si hc | cases hc)
  | some ds =>
    rw [e] at hc
    dsimp only at hc
    refine Call_ (wp_builtin X hb hk (callWith_builtin1 (wp_mono (argsB_wp h X e) fun vs s1 ⟨F1, g1, r1⟩ => ?_) ?_ (hp env)) hd)
    · exact wp_mono (hf X.room.in1 X.room.hand g1.sat r1 hc) fun v s2 ⟨F2, g2, r2⟩ => ⟨F2, g1.trans g2, r2⟩
    · cases h with | cons _ _ hs => exact hs _ _
end Ev
set_option maxRecDepth 10000
namespace Ev
open PySem PySem.W PySem.Spec PySem.Calls PyProof.Rows PySem.SeqAt
variable {C : Cx} {n : Nat} {sc : Scope} {A : Around} {env : Env} {base : Fz} {low : Fz} {F F' : Fz} {s s' : Shared} {σ : St}
theorem Cx.Ok.small (h : C.Ok) (k : ∀ b o, C.h₀.get? b = some o → s.heap.get? b = some o) {a : Addr} (ha : s.heap.objs.size ≤ a) : (a == sysModules) = false := by
  obtain ⟨o, _, _, ho, _⟩ := h.g
  have h3 : mainGlobals < s.heap.objs.size := Heap.lt_size (k _ _ ho)
  rw [beq_eq_false_iff_ne]
  intro e
  rw [e] at ha
  have h4 : s.heap.objs.size ≤ 1 := ha
  have h5 : 3 < s.heap.objs.size := h3
  omega
theorem BwL.one {H : PyData → Int} {h : Heap} {vs : List Value} {d : PyData} (b : BwL H F h vs [d]) : ∃ v, vs = [v] ∧ Bw H F h v d := by
  cases b with | cons x r => cases r; exact ⟨_, rfl, x⟩
theorem BwL.two {H : PyData → Int} {h : Heap} {vs : List Value} {d e : PyData} (b : BwL H F h vs [d, e]) : ∃ v u, vs = [v, u] ∧ Bw H F h v d ∧ Bw H F h u e := by
  cases b with | cons x r => cases r with | cons y r => cases r; exact ⟨_, _, rfl, x, y⟩
theorem Bw.dict {H : PyData → Int} {h : Heap} (st : Sat F h) {v : Value} {kvs : List (PyData × PyData)} (b : Bw H F h v (.dict kvs)) : ∃ a o es m kd, v = .ref a ∧ (a == sysModules) = false ∧ h.get? a = some o ∧ o.ExactDict ∧ o.data = .dict es m ∧
    RD H F kd es.toList kvs ∧ (kvs.map (·.1)).Nodup := by
  cases b with
  | fz r => cases r with | dict hs ho hc hd r hn => exact ⟨_, _, _, _, _, rfl, hs, st _ _ ho, hc, hd, r, hn⟩
  | ow o => cases o with | dict hs ho hc hd r hn => exact ⟨_, _, _, _, _, rfl, hs, ho, hc, hd, r, hn⟩
theorem RD.length {H : PyData → Int} : ∀ {kd} {es : List DictEntry} {kvs : List (PyData × PyData)}, RD H F kd es kvs → es.length = kvs.length := fun {_ _ _} r => RD.ind (P := fun es kvs => es.length = kvs.length) rfl (fun _ _ _ _ _ _ _ e => congrArg (· + 1) e) r
/-! len -/
noncomputable def lenD (d : PyData) : Option PyData := match d with
  | .list ds => if okLen ds then some (.int ds.length) else none
  | .tuple ds => if okLen ds then some (.int ds.length) else none
  | .dict kvs => if kvs.length ≤ 1048576 then some (.int kvs.length) else none
  | _ => none
noncomputable def lenG (as : List PyData) : Option PyData := match as with
  | [] => none
  | d :: r => match r with
    | [] => lenD d
    | _ :: _ => none
theorem biLen : BiOk C (.builtin "len") lenG := fun {A F s vs ds d} hu hh hs b h => by
  rcases ds with _ | ⟨x, _ | ⟨_, _⟩⟩
  · (first | exact ns h | exact nb h | obtain rfl := si h | cases h)
  · obtain ⟨v, rfl, c⟩ := b.one
    have h : lenD x = some d := h
    cases x with
    | list ds =>
      obtain ⟨hl, h⟩ := ite_some h
      (first | exact ns h | exact nb h | obtain rfl := si h | cases h)
      obtain ⟨a, ws, k, rfl, ha, r⟩ := c.list hs
      have e := rl_arr r
      have := of_decide_eq_true hl
      refine PySem.Calls.call_len_list (items := ws) ⟨_, ha, rfl, k, rfl⟩ (by rw [e]; omega) ⟨F, .tok hs _, ?_⟩
      rw [e]; exact .int _ _
    | tuple ds =>
      obtain ⟨hl, h⟩ := ite_some h
      (first | exact ns h | exact nb h | obtain rfl := si h | cases h)
      obtain ⟨a, ws, k, rfl, ha, r⟩ := c.tuple hs
      have e := rl_arr r
      have := of_decide_eq_true hl
      refine P.len_tuple (items := ws) (n := k) ha (by rw [e]; omega) ⟨F, .tok hs _, ?_⟩
      rw [e]; exact .int _ _
    | dict kvs =>
      obtain ⟨hl, h⟩ := ite_some h
      (first | exact ns h | exact nb h | obtain rfl := si h | cases h)
      obtain ⟨a, o, es, k, kd, rfl, hsm, ha, hc, hd, r, _⟩ := c.dict hs
      have e : es.size = _ := (Array.length_toList ..).symm.trans r.length
      refine call_len_slot (T := "dict") ⟨o, ha, hc.1⟩ PySem.F.slot_dict_len (n := es.size) (fun Q' hq => ?_) (by omega) (by omega) ⟨F, .tok hs _, ?_⟩
      · refine wpAny_call_entry PySem.F.slot_dict_len ⟨o, ha, hc.1⟩ PySem.F.entry_dict_len ?_ (PySem.F.args_dict_len_1 _)
        show wpAny _ _ (dictSize a >>= _) _ _ s
        unfold dictSize
        refine wpAny_bind (wpAny_bind (wpAny_dictEntries ha hd (wpAny_pure ?_)))
        show wpAny _ _ (Builtin.Dict.pendingCount a >>= _) _ _ s
        refine wpAny_bind (wpAny_pendingCount_other hsm ?_)
        refine wpAny_ret_mkInt ?_
        rw [Nat.add_zero]; exact hq
      · rw [e]; exact .int _ _
    | _ => (first | exact ns h | exact nb h | obtain rfl := si h | cases h)
  · (first | exact ns h | exact nb h | obtain rfl := si h | cases h)
/-! ints of a list -/
noncomputable def intsD : List PyData → Option (List Int)
  | [] => some []
  | .int i :: r => match intsD r with
    | some is => some (i :: is)
    | none => none
  | _ :: _ => none
theorem intsD_map : ∀ {ds : List PyData} {is : List Int}, intsD ds = some is → ds = is.map .int
  | [], _, h => by (first | exact ns h | exact nb h | obtain rfl := si h | cases h); rfl
  | .int i :: r, is, h => by
    have h : (match intsD r with | some is => some (i :: is) | none => none) = some is := h
    cases e : intsD r with
    | none => rw [e] at h; (first | exact ns h | exact nb h | obtain rfl := si h | cases h)
    | some js => rw [e] at h; (first | exact ns h | exact nb h | obtain rfl := si h | cases h); rw [intsD_map e]; rfl
  | .none :: _, _, h => by (first | exact ns h | exact nb h | obtain rfl := si h | cases h)
  | .bool _ :: _, _, h => by (first | exact ns h | exact nb h | obtain rfl := si h | cases h)
  | .str _ :: _, _, h => by (first | exact ns h | exact nb h | obtain rfl := si h | cases h)
  | .list _ :: _, _, h => by (first | exact ns h | exact nb h | obtain rfl := si h | cases h)
  | .tuple _ :: _, _, h => by (first | exact ns h | exact nb h | obtain rfl := si h | cases h)
  | .dict _ :: _, _, h => by (first | exact ns h | exact nb h | obtain rfl := si h | cases h)
theorem RL.ints {H : PyData → Int} : ∀ {vs : List Value} {is : List Int}, RL H F vs (is.map .int) → IntsAre vs is
  | _, [], r => by cases r; exact .nil
  | _, i :: is, r => by
    cases r with | cons a b => obtain ⟨t, rfl⟩ := a.toInt; exact .cons _ _ (RL.ints b)
noncomputable def sumD (ds : List PyData) : Option PyData := match intsD ds with
  | some is => some (.int is.sum)
  | none => none
noncomputable def sumG (as : List PyData) : Option PyData := match as with
  | [] => none
  | d :: r => match r with
    | [] => match d with
      | .list ds => sumD ds
      | _ => none
    | _ :: _ => none
theorem sumD_some {ds : List PyData} {d : PyData} (h : sumD ds = some d) : ∃ is, intsD ds = some is ∧ d = .int is.sum := by
  unfold sumD at h
  cases e : intsD ds with
  | none => rw [e] at h; (first | exact ns h | exact nb h | obtain rfl := si h | cases h)
  | some is => rw [e] at h; (first | exact ns h | exact nb h | obtain rfl := si h | cases h); exact ⟨is, rfl, rfl⟩
theorem biSum : BiOk C (.builtin "sum") sumG := fun {A F s vs ds d} hu hh hs b h => by
  rcases ds with _ | ⟨x, _ | ⟨_, _⟩⟩
  · (first | exact ns h | exact nb h | obtain rfl := si h | cases h)
  · cases x with
    | list ds =>
      have h : sumD ds = some d := h
      obtain ⟨is, e, h⟩ := sumD_some h
      (first | exact ns h | exact nb h | obtain rfl := si h | cases h)
      obtain ⟨v, rfl, c⟩ := b.one
      obtain ⟨a, ws, k, rfl, ha, r⟩ := c.list hs
      rw [intsD_map e] at r
      have hi := r.ints
      obtain ⟨xs, hx⟩ := hi.allInts.items
      have hx' : ws = intItems xs := by simpa using hx
      subst hx'
      refine PySem.sum_intListG hh ⟨_, ha, rfl, k, rfl⟩ fun h' tk t' hk => ⟨F, .ofKeep hs hk rfl rfl rfl, ?_⟩
      have e2 := hi.numsOf
      rw [nums_intItems] at e2
      rw [preSum_eq, List.take_of_length_le (by simp), e2]
      exact .int _ _
    | _ => (first | exact ns h | exact nb h | obtain rfl := si h | cases h)
  · (first | exact ns h | exact nb h | obtain rfl := si h | cases h)
noncomputable def minD (is : List Int) : Option PyData := match is with
  | [] => none
  | i :: is => some (.int (is.foldl (fun a b => if b < a then b else a) i))
noncomputable def minG (as : List PyData) : Option PyData := match as with
  | [] => none
  | x :: r => match r with
    | [] => match x with
      | .list ds => match intsD ds with
        | some is => minD is
        | none => none
      | _ => none
    | y :: r => match r with
      | [] => match x with
        | .int a => match y with
          | .int b => some (.int (if b < a then b else a))
          | _ => none
        | _ => none
      | _ :: _ => none
theorem argBest_min (xs : Array (Int × Tok)) : ∀ k, k < xs.size → (((xs.toList.map (·.1)).take (k + 1)).drop 1).foldl (fun a b => if b < a then b else a) (numAt xs 0) = numAt xs (argBest (fun i j => decide (numAt xs i < numAt xs j)) k) ∧
    argBest (fun i j => decide (numAt xs i < numAt xs j)) k < xs.size := by
  intro k
  induction k with
  | zero => intro h; exact ⟨by cases hx : xs.toList <;> simp [argBest], by simpa [argBest] using h⟩
  | succ k ih =>
    intro h
    obtain ⟨h1, h2⟩ := ih (by omega)
    have e : ((xs.toList.map (·.1)).take (k + 1 + 1)).drop 1 = ((xs.toList.map (·.1)).take (k + 1)).drop 1 ++ [numAt xs (k + 1)] := by
      rw [List.take_add_one, List.drop_append_of_le_length (by simp; omega)]
      have hn : numAt xs (k + 1) = xs[k + 1].1 := by simp [numAt, h]
      simp [h, hn]
    rw [e, List.foldl_append, h1]
    simp only [List.foldl_cons, List.foldl_nil, argBest]
    by_cases hc : numAt xs (k + 1) < numAt xs (argBest (fun i j => decide (numAt xs i < numAt xs j)) k)
    · simp [hc, h]
    · simp [hc, h2]
theorem min_two {A : Around} {s : Shared} {vs : List Value} {x y : Int} (hh : A.handled = none) (hs : Sat F s.heap) (b : BwL C.H F s.heap vs [.int x, .int y]) : Wp C A (call (.builtin "min") vs) (Post C F s (.int (if y < x then y else x))) s := by
  obtain ⟨v, u, rfl, b1, b2⟩ := b.two
  obtain ⟨t1, rfl⟩ := b1.int
  obtain ⟨t2, rfl⟩ := b2.int
  refine min_two_ints hh fun h' tk hk => ⟨F, .ofKeep hs hk rfl rfl rfl, ?_⟩
  by_cases hc : y < x
  · simp only [hc, if_true]; exact .int _ _
  · simp only [hc, if_false]; exact .int _ _
theorem min_list {A : Around} {s : Shared} {vs : List Value} {ds : List PyData} {i : Int} {is : List Int} (hh : A.handled = none) (hs : Sat F s.heap) (e : intsD ds = some (i :: is)) (b : BwL C.H F s.heap vs [.list ds]) : Wp C A (call (.builtin "min") vs) (Post C F s (.int (is.foldl (fun a b => if b < a then b else a) i))) s := by
  obtain ⟨v, rfl, c⟩ := b.one
  obtain ⟨a, ws, k, rfl, ha, r⟩ := c.list hs
  rw [intsD_map e] at r
  have hi := r.ints
  obtain ⟨xs, hx⟩ := hi.allInts.items
  have hx' : ws = intItems xs := by simpa using hx
  subst hx'
  have e2 := hi.numsOf
  rw [nums_intItems] at e2
  have hsz : 0 < xs.size := by
    have := congrArg List.length e2
    simp at this
    omega
  refine min_intList hh ⟨_, ha, rfl, k, rfl⟩ hsz fun v h' tk hv hk => ⟨F, .ofKeep hs hk rfl rfl rfl, ?_⟩
  obtain ⟨h1, h2⟩ := argBest_min xs (xs.size - 1) (by omega)
  rw [List.take_of_length_le (by simp; omega), e2] at h1
  simp only [List.drop_succ_cons, List.drop_zero] at h1
  have h0 : numAt xs 0 = i := by
    have : (xs.toList.map (·.1))[0]? = some i := by rw [e2]; rfl
    simp at this
    obtain ⟨t, ht⟩ := this
    simp [numAt, ht]
  rw [h0] at h1
  rw [h1]
  simp only [intItems, Array.getElem?_map, h2, Array.getElem?_eq_getElem, Option.map_some, Option.some.injEq] at hv
  subst hv
  have hget : ∀ j (hj : j < xs.size), numAt xs j = (xs[j]).1 := fun j hj => by simp [numAt, hj]
  rw [hget _ h2]
  exact .int _ _
theorem biMin : BiOk C (.builtin "min") minG := fun {A F s vs ds d} hu hh hs b h => by
  rcases ds with _ | ⟨x, _ | ⟨y, _ | ⟨_, _⟩⟩⟩
  · (first | exact ns h | exact nb h | obtain rfl := si h | cases h)
  · cases x with
    | list ds =>
      have h : (match intsD ds with | some is => minD is | none => none) = some d := h
      cases e : intsD ds with
      | none => rw [e] at h; (first | exact ns h | exact nb h | obtain rfl := si h | cases h)
      | some is =>
        rw [e] at h
        cases is with
        | nil => (first | exact ns h | exact nb h | obtain rfl := si h | cases h)
        | cons i is => (first | exact ns h | exact nb h | obtain rfl := si h | cases h); exact min_list hh hs e b
    | _ => (first | exact ns h | exact nb h | obtain rfl := si h | cases h)
  · cases x with
    | int x => cases y with
      | int y => (first | exact ns h | exact nb h | obtain rfl := si h | cases h); exact min_two hh hs b
      | _ => (first | exact ns h | exact nb h | obtain rfl := si h | cases h)
    | _ => (first | exact ns h | exact nb h | obtain rfl := si h | cases h)
  · (first | exact ns h | exact nb h | obtain rfl := si h | cases h)
noncomputable def isTupC (f : St → Option PyData) : St → Option PyData := fun σ => match f σ with
  | some (.int _) => some (.bool false)
  | _ => none
theorem Snd.isTup {px pt pos : Pos} {e : Expr} {f : St → Option PyData} (h1 : C.Bi "isinstance" (.builtin "isinstance")) (h2 : C.Bi "tuple" (.type "tuple")) (k1 : sc.names.lookup (Str.ofString "isinstance") = some .globalImplicit) (k2 : sc.names.lookup (Str.ofString "tuple") = some .globalImplicit)
    (h : SndB C n sc e f) (hs : ∀ r env, starEach (e :: r) env = (false, eval e env) :: starEach r env := by intro _ _; rfl) : Snd C n sc (.Call (.Name "isinstance" px) [e, .Name "tuple" pt] [] pos) (isTupC f) := fun {A env base low F s σ d} X hc => by
  have : ∃ i, f σ = some (.int i) ∧ d = .bool false := by
    unfold isTupC at hc
    rcases e : f σ with _ | x
    · rw [e] at hc; (first | exact ns hc | exact nb hc | obtain rfl := si hc | cases hc)
    · rw [e] at hc
      cases x with
      | int i => (first | exact ns hc | exact nb hc | obtain rfl := si hc | cases hc); exact ⟨i, rfl, rfl⟩
      | _ => (first | exact ns hc | exact nb hc | obtain rfl := si hc | cases hc)
  obtain ⟨i, e1, rfl⟩ := this
  refine Call_ (wp_builtin X h1 k1 (callWith_builtin1 (args_cons (wp_mono (h X e1) fun v s1 ⟨F1, g1, r1⟩ => ?_) (hs _ _)) (hs _ _)))
  obtain ⟨t, rfl⟩ := r1.int
  refine args_cons (wp_builtin (X.grow g1) h2 k2 (args_nil ?_))
  exact IsiPair.int_tuple ⟨F1, g1.trans (.tok g1.sat _), .bool _⟩
end Ev
set_option maxRecDepth 10000
namespace Ev
open PySem PySem.W PySem.Spec PySem.Calls PyProof.Rows PySem.SeqAt
variable {C : Cx} {n : Nat} {sc : Scope} {A : Around} {env : Env} {base : Fz} {low : Fz} {F F' : Fz} {s s' : Shared} {σ : St}
section
variable {prog : Program} {w : World}
theorem orsAt (n : Nat) : ∀ (xs ys : List PyData) (A : Around) (s : Shared) (vs us : List Value) (as bs : List Addr) (o : Ordering), PyData.depthAll xs ≤ n → ordL xs ys = some o → ReadsAll s.heap vs xs as → ReadsAll s.heap us ys bs →
    PyData.canLayAll0 xs = true → PyData.canLayAll0 ys = true → A.units + n + 1 < cLine → Ors prog w A s vs us o := by
  intro xs
  induction xs with
  | nil =>
    intro ys A s vs us as bs o hd ho r1 r2 c1 c2 hu
    cases r1
    cases ys with
    | nil => cases r2; (first | exact ns ho | exact nb ho | obtain rfl := si ho | cases ho); exact .nn
    | cons y ys => cases r2; (first | exact ns ho | exact nb ho | obtain rfl := si ho | cases ho); exact .nc
  | cons x xs hi =>
    intro ys A s vs us as bs o hd ho r1 r2 c1 c2 hu
    obtain ⟨v, vs', a1, a2, rfl, rv, rvs⟩ := readsAll_cons r1
    cases ys with
    | nil => cases r2; (first | exact ns ho | exact nb ho | obtain rfl := si ho | cases ho); exact .cn
    | cons y ys =>
      obtain ⟨u, us', b1, b2, rfl, ru, rus⟩ := readsAll_cons r2
      obtain ⟨cx, cxs⟩ := Bool.and_eq_true_iff.mp (show (x.canLay0 && PyData.canLayAll0 xs) = true from c1)
      obtain ⟨cy, cys⟩ := Bool.and_eq_true_iff.mp (show (y.canLay0 && PyData.canLayAll0 ys) = true from c2)
      have hd' : max x.depth (PyData.depthAll xs) ≤ n := hd
      have hx : x.depth ≤ n := Nat.le_trans (Nat.le_max_left _ _) hd'
      have hxs : PyData.depthAll xs ≤ n := Nat.le_trans (Nat.le_max_right _ _) hd'
      have he : EqAt A s v u (PyData.eqv x y) := eqAt_reads x y A s v u a1 b1 rv ru cx cy (by have : min x.depth y.depth ≤ x.depth := Nat.min_le_left _ _; omega)
      have ho : (if PyData.eqv x y = true then ordL xs ys else match ordD x y with | some .lt => some .lt | some .gt => some .gt | _ => none) = some o := ho
      cases hq : PyData.eqv x y with
      | true =>
        rw [hq] at he
        rw [if_pos hq] at ho
        exact .same he (hi ys A s vs' us' a2 b2 o hxs ho rvs rus cxs cys hu)
      | false =>
        rw [hq] at he
        rw [if_neg (by rw [hq]; exact Bool.false_ne_true)] at ho
        cases hw : ordD x y with
        | none => rw [hw] at ho; (first | exact ns ho | exact nb ho | obtain rfl := si ho | cases ho)
        | some o' =>
          rw [hw] at ho
          cases o' with
          | lt => (first | exact ns ho | exact nb ho | obtain rfl := si ho | cases ho); exact .diff he (ordAt n x y A s v u a1 b1 .lt hx hw rv ru cx cy hu) (by decide)
          | eq => (first | exact ns ho | exact nb ho | obtain rfl := si ho | cases ho)
          | gt => (first | exact ns ho | exact nb ho | obtain rfl := si ho | cases ho); exact .diff he (ordAt n x y A s v u a1 b1 .gt hx hw rv ru cx cy hu) (by decide)
theorem lex_of_ors {b fin : Bool} {Q : Bool → Shared → Prop} : ∀ {vs us : List Value} {o : Ordering} {i : Nat} {k : Nat} {m l : Nat}, Ors prog w A s vs us o → (b && i == 0) = false → m = k + vs.length → l = k + us.length → fin = decide (m < l) → Q (ordIs .Lt o) s →
    KatLex prog w A b fin Q (vs.zip us) i s := by
  intro vs us o i k m l h
  induction h generalizing i k with
  | nn => intro _ e1 e2 e3 hq; refine kat_nil ?_; simp only [List.length_nil] at e1 e2; have : fin = ordIs .Lt .eq := by rw [e3]; exact decide_eq_false (by omega)
          rw [this]; exact hq
  | nc => intro _ e1 e2 e3 hq; refine kat_nil ?_; simp only [List.length_nil, List.length_cons] at e1 e2; have : fin = ordIs .Lt .lt := by rw [e3]; exact decide_eq_true (by omega)
          rw [this]; exact hq
  | cn => intro _ e1 e2 e3 hq; refine kat_nil ?_; simp only [List.length_nil, List.length_cons] at e1 e2; have : fin = ordIs .Lt .gt := by rw [e3]; exact decide_eq_false (by omega)
          rw [this]; exact hq
  | @same v u vs us o e r ih =>
    intro hb e1 e2 e3 hq
    simp only [List.length_cons] at e1 e2
    refine kat_cons (e prog w _ _ (kat_yes (ih (k := k + 1) (by simp) (by omega) (by omega) e3 hq)))
  | @diff v u vs us o e oo ne =>
    intro hb e1 e2 e3 hq
    refine kat_cons (e prog w _ _ (kat_no ?_))
    rw [hb]
    exact kat_one _ _ (oo .Lt rfl _ _ hq)
noncomputable def runO {α : Type} (lt : Nat → Nat → Option Bool) : KasT α → Option α
  | .ret a => some a
  | .ask i j k => match lt i j with
    | some true => runO lt (k true)
    | some false => runO lt (k false)
    | none => none
theorem runO_wp {α : Type} {lt : Nat → Nat → Option Bool} {cmp : Nat → Nat → (Bool → Shared → Prop) → Shared → Prop} {Q : α → Shared → Prop} (hc : ∀ i j b, lt i j = some b → ∀ K : Bool → Shared → Prop, K b s → cmp i j K s) :
    ∀ (t : KasT α) {p : α}, runO lt t = some p → Q p s → t.kasWp cmp Q s
  | .ret a, p, h, hq => by (first | exact ns h | exact nb h | obtain rfl := si h | cases h); exact hq
  | .ask i j k, p, h, hq => by
    show cmp i j _ s
    have h : (match lt i j with | some true => runO lt (k true) | some false => runO lt (k false) | none => none) = some p := h
    rcases e : lt i j with _ | _ | _
    · rw [e] at h; (first | exact ns h | exact nb h | obtain rfl := si h | cases h)
    · rw [e] at h; exact hc _ _ _ e _ (runO_wp hc (k false) h hq)
    · rw [e] at h; exact hc _ _ _ e _ (runO_wp hc (k true) h hq)
theorem sort_tree {a : Addr} {vs : List Value} {m : Nat} {P : PySem.Fin → Shared → Prop} {κ : SortKind} {lt : Nat → Nat → Option Bool} {p : Array Nat} (ho : s.heap.get? a = some (seqObj "list" vs.toArray m)) (h2 : 2 ≤ vs.length) (h64 : vs.length < 64)
    (hκ : ∀ s1 : Shared, (∀ b o, b ≠ a → s.heap.get? b = some o → s1.heap.get? b = some o) → ∀ Q' : SortKind → Shared → Prop, Q' κ s1 → wpAny (model prog w) A (keyKind' vs.toArray) Q' (fun _ _ => False) s1)
    (hlt : ∀ s1 : Shared, (∀ b o, b ≠ a → s.heap.get? b = some o → s1.heap.get? b = some o) → ∀ i j b, lt i j = some b → ∀ Q' : Bool → Shared → Prop, Q' b s1 → wpAny (model prog w) A (keyLt' κ (vs.getD i .none) (vs.getD j .none)) Q' (fun _ _ => False) s1)
    (hp : runO lt (kas_sort vs.length) = some p)
    (h : P (.done (.ret .none)) { s with heap := sortedHeap s.heap a vs (p.toList.map fun i => vs.getD i .none).toArray }) {E : Value → Shared → Prop} :
    wpAny (model prog w) A (Builtin.«list.sort» ⟨[.ref a], []⟩) P E s := by
  rw [list_sort_plain]
  have ha : a < s.heap.objs.size := Heap.lt_size ho
  refine wpAny_bind (listItems_at ho rfl ?_)
  refine wpAny_bind (listUpdate_at ho rfl ?_ (by rw [List.size_toArray, sizeLine_eq]; omega) (Nat.zero_le _))
  obtain ⟨e1, ho1⟩ : ∃ e1, (s.heap.update a (Obj.mapSeq fun _ => #[])).get? a = some (seqObj "list" #[] e1) := ⟨_, get?_update_seq ho (fun _ => #[])⟩
  refine wpAny_bind (seqEpoch_at ho1 rfl ?_)
  refine wpAny_bind (PySem.wpAny_newTuple ?_ (by show vs.length ≤ _; rw [sizeLine_eq]; omega))
  refine wpAny_bind (PySem.wpAny_newList ?_ (Nat.zero_le _))
  refine wpAny_holding ?_
  have ho6 : (((s.heap.update a (Obj.mapSeq fun _ => #[])).push (seqObj "tuple" vs.toArray 0)).push (seqObj "list" #[] 0)).get? a = some (seqObj "list" #[] e1) := by
    rw [Heap.get?_push_ne _ _ _ (by rw [size_push', Heap.size_update]; exact Nat.ne_of_lt (Nat.lt_succ_of_lt ha)), Heap.get?_push_ne _ _ _ (by rw [Heap.size_update]; exact Nat.ne_of_lt ha)]
    exact ho1
  show wpAny (model prog w) A _ P E { s with heap := ((s.heap.update a (Obj.mapSeq fun _ => #[])).push (seqObj "tuple" vs.toArray 0)).push (seqObj "list" #[] 0) }
  have keep : ∀ b o, b ≠ a → s.heap.get? b = some o → (((s.heap.update a (Obj.mapSeq fun _ => (#[] : Array Value))).push (seqObj "tuple" vs.toArray 0)).push (seqObj "list" #[] 0)).get? b = some o := fun b o hb q => by
    have hlt : b < s.heap.objs.size := Heap.lt_size q
    rw [Heap.get?_push_ne _ _ _ (by rw [size_push', Heap.size_update]; exact Nat.ne_of_lt (Nat.lt_succ_of_lt hlt)), Heap.get?_push_ne _ _ _ (by rw [Heap.size_update]; exact Nat.ne_of_lt hlt), Heap.get?_update_ne _ _ _ _ hb]
    exact q
  dsimp only
  have hn2 : ¬ vs.toArray.size < 2 := by rw [List.size_toArray]; omega
  rw [if_neg hn2, if_neg hn2]
  refine wpAny_bind (wpAny_mono (hκ { s with heap := ((s.heap.update a (Obj.mapSeq fun _ => (#[] : Array Value))).push (seqObj "tuple" vs.toArray 0)).push (seqObj "list" #[] 0) } keep (fun k s1 => k = κ ∧ s1 = { s with heap := ((s.heap.update a (Obj.mapSeq fun _ => (#[] : Array Value))).push (seqObj "tuple" vs.toArray 0)).push (seqObj "list" #[] 0) }) ⟨rfl, rfl⟩) (fun k s1 hk => ?_) fun _ _ x => x.elim)
  obtain ⟨rfl, rfl⟩ := hk
  refine wpAny_bind (wpAny_mono (kat_run (ks := vs) (Q := fun st' s1 => arrOf st' = p.map (kas_item (vs.toArray.zip vs.toArray)) ∧ failedOf st' = none ∧ p.size = vs.length ∧ s1 = { s with heap := ((s.heap.update a (Obj.mapSeq fun _ => (#[] : Array Value))).push (seqObj "tuple" vs.toArray 0)).push (seqObj "list" #[] 0) })
    (G := fun p' s1 => p' = p ∧ s1 = { s with heap := ((s.heap.update a (Obj.mapSeq fun _ => (#[] : Array Value))).push (seqObj "tuple" vs.toArray 0)).push (seqObj "list" #[] 0) })
    rfl h2 h64 (fun p' st' s1 a1 a2 a3 a4 => by obtain ⟨rfl, rfl⟩ := a4; exact ⟨a2, a3, a1, rfl⟩) ?_) ?_ fun _ _ e => e)
  · exact runO_wp (fun i j b e K hK => hlt _ keep i j b e K hK) _ hp ⟨rfl, rfl⟩
  rintro ⟨⟨⟩, st'⟩ s1 ⟨har, hf, hsz, rfl⟩
  dsimp only
  have hout := kat_snds (ks := vs) (vs := vs) rfl har
  have hsz2 : (List.toArray (p.toList.map fun i => vs.getD i Value.none)).size = vs.length := by rw [List.size_toArray, List.length_map, Array.length_toList, hsz]
  rw [hout]
  refine wpAny_bind (seqEpoch_at ho6 rfl ?_)
  refine wpAny_bind (listUpdate_at ho6 rfl ?_ (Nat.zero_le _) (Nat.le_trans (Nat.le_of_eq hsz2) (by rw [sizeLine_eq]; omega)))
  rw [hf]
  simp only [bne_self_eq_false, Bool.false_eq_true, if_false]
  exact wpAny_pure h
theorem sort_tree1 {a : Addr} {vs : List Value} {m : Nat} {P : PySem.Fin → Shared → Prop} (ho : s.heap.get? a = some (seqObj "list" vs.toArray m)) (h2 : vs.length < 2)
    (h : P (.done (.ret .none)) { s with heap := sortedHeap s.heap a vs vs.toArray }) {E : Value → Shared → Prop} :
    wpAny (model prog w) A (Builtin.«list.sort» ⟨[.ref a], []⟩) P E s := by
  rw [list_sort_plain]
  have ha : a < s.heap.objs.size := Heap.lt_size ho
  refine wpAny_bind (listItems_at ho rfl ?_)
  refine wpAny_bind (listUpdate_at ho rfl ?_ (by rw [List.size_toArray, sizeLine_eq]; omega) (Nat.zero_le _))
  obtain ⟨e1, ho1⟩ : ∃ e1, (s.heap.update a (Obj.mapSeq fun _ => #[])).get? a = some (seqObj "list" #[] e1) := ⟨_, get?_update_seq ho (fun _ => #[])⟩
  refine wpAny_bind (seqEpoch_at ho1 rfl ?_)
  refine wpAny_bind (PySem.wpAny_newTuple ?_ (by show vs.length ≤ _; rw [sizeLine_eq]; omega))
  refine wpAny_bind (PySem.wpAny_newList ?_ (Nat.zero_le _))
  refine wpAny_holding ?_
  have ho6 : (((s.heap.update a (Obj.mapSeq fun _ => #[])).push (seqObj "tuple" vs.toArray 0)).push (seqObj "list" #[] 0)).get? a = some (seqObj "list" #[] e1) := by
    rw [Heap.get?_push_ne _ _ _ (by rw [size_push', Heap.size_update]; exact Nat.ne_of_lt (Nat.lt_succ_of_lt ha)), Heap.get?_push_ne _ _ _ (by rw [Heap.size_update]; exact Nat.ne_of_lt ha)]
    exact ho1
  show wpAny (model prog w) A _ P E { s with heap := ((s.heap.update a (Obj.mapSeq fun _ => #[])).push (seqObj "tuple" vs.toArray 0)).push (seqObj "list" #[] 0) }
  dsimp only
  have hn2 : vs.toArray.size < 2 := by rw [List.size_toArray]; omega
  rw [if_pos hn2, if_pos hn2]
  refine wpAny_bind (wpAny_pure ?_)
  rw [StateT.run_pure]
  refine wpAny_bind (wpAny_pure ?_)
  dsimp only
  have hout : (arrOf (SortSt.mk' general' (vs.toArray.zip vs.toArray) #[] 7 none)).map (·.2) = vs.toArray := by
    show (vs.toArray.zip vs.toArray).map (·.2) = vs.toArray
    apply Array.toList_inj.mp
    simp only [List.zip_toArray, List.map_toArray]
    exact List.map_snd_zip (Nat.le_refl _)
  rw [hout]
  refine wpAny_bind (seqEpoch_at ho6 rfl ?_)
  refine wpAny_bind (listUpdate_at ho6 rfl ?_ (Nat.zero_le _) (by rw [List.size_toArray, sizeLine_eq]; omega))
  simp only [bne_self_eq_false, Bool.false_eq_true, if_false]
  exact wpAny_pure h
theorem sorted_tree {l : Addr} {vs : List Value} {Q : Value → Shared → Prop} {out : List Value} {E : Value → Shared → Prop} (hl : s.heap.IsList l vs.toArray) (h64 : vs.length < 64)
    (ht : ∀ (s1 : Shared) (a : Addr) (P : PySem.Fin → Shared → Prop) (E : Value → Shared → Prop), (∀ b o, s.heap.get? b = some o → s1.heap.get? b = some o) → s.heap.get? a = none → s1.heap.get? a = some (seqObj "list" vs.toArray 0) →
      P (.done (.ret .none)) { s1 with heap := sortedHeap s1.heap a vs out.toArray } → wpAny (model prog w) A.in1.in1 (Builtin.«list.sort» ⟨[.ref a], []⟩) P E s1)
    (h : Q (.ref (s.heap.objs.size + 1)) { s with heap := sortedAll s.heap vs out.toArray }) :
    wpAny (model prog w) A (call (.builtin "sorted") [.ref l]) Q E s := by
  refine Calls.call_function_entry kind_sorted plain_sorted entry_sorted (args_sorted1 _) ?_
  unfold Builtin.«sorted»
  refine wpAny_bind (m := checkCount "sorted" 1 1 _) (wpAny_pure ?_)
  refine wpAny_bind (collect_list hl ?_ (by rw [sizeLine_eq]; omega))
  refine wpAny_bind (PySem.wpAny_newList ?_ (by rw [sizeLine_eq]; omega))
  have hsz : ((s.heap.push (seqObj "list" #[] 0)).update s.heap.objs.size (Obj.mapSeq (· ++ vs.toArray))).objs.size = s.heap.objs.size + 1 := by
    rw [Heap.size_update, size_push']
  have hoL : (((s.heap.push (seqObj "list" #[] 0)).update s.heap.objs.size (Obj.mapSeq (· ++ vs.toArray))).push (seqObj "list" vs.toArray 0)).get? (s.heap.objs.size + 1) = some (seqObj "list" vs.toArray 0) := by
    rw [← hsz]; exact Heap.get?_push_size _ rfl
  have keep : ∀ b o, s.heap.get? b = some o → (((s.heap.push (seqObj "list" #[] 0)).update s.heap.objs.size (Obj.mapSeq (· ++ vs.toArray))).push (seqObj "list" vs.toArray 0)).get? b = some o := fun b o q => by
    have hlt : b < s.heap.objs.size := Heap.lt_size q
    rw [Heap.get?_push_ne _ _ _ (by rw [hsz]; exact Nat.ne_of_lt (Nat.lt_succ_of_lt hlt)), Heap.get?_update_ne _ _ _ _ (Nat.ne_of_lt hlt), Heap.get?_push_ne _ _ _ (Nat.ne_of_lt hlt)]
    exact q
  show wpAny _ _ _ _ _ { s with heap := ((s.heap.push (seqObj "list" #[] 0)).update s.heap.objs.size (Obj.mapSeq (· ++ vs.toArray))).push (seqObj "list" vs.toArray 0) }
  rw [hsz]
  refine wpAny_bind (wpAny_holding (wpAny_call_entry slot_list_sort ⟨_, hoL, rfl⟩ entry_list_sort (ht _ _ _ _ keep (Heap.get?_none_of_le (Nat.le_succ _)) hoL ⟨_, rfl, ?_⟩) (args_list_sort _)))
  exact wpAny_pure ⟨_, rfl, h⟩
end
/-! sorted, of data -/
noncomputable def tup0 : PyData → Option Bool
  | .tuple (.int _ :: _) => some true
  | .tuple (.tuple _ :: _) => some false
  | _ => none
noncomputable def isIntD : PyData → Bool
  | .int _ => true
  | _ => false
noncomputable def ltAt (ds : List PyData) (i j : Nat) : Option Bool := match ds[i]?, ds[j]? with
  | some a, some b => match ordD a b with
    | some .lt => some true
    | some _ => some false
    | none => none
  | _, _ => none
noncomputable def sortD (ds : List PyData) : Option (List PyData) := match runO (ltAt ds) (kas_sort ds.length) with
  | some p => some (p.toList.map fun i => ds.getD i .none)
  | none => none
noncomputable def sortG : List PyData → Option PyData
  | [.list ds] =>
    if ds.length < 2 then some (.list ds)
    else if decide (ds.length < 64) && ds.all okD && (ds.all isIntD || ds.all (fun d => tup0 d == some true) || ds.all (fun d => tup0 d == some false)) then
      match sortD ds with
      | some es => some (.list es)
      | none => none
    else none
  | _ => none
theorem RL.getD {H : PyData → Int} : ∀ {vs ds}, RL H F vs ds → ∀ i, R H F (vs.getD i .none) (ds.getD i .none) := fun {_ _} r => RL.ind (P := fun vs ds => ∀ i, R H F (vs.getD i .none) (ds.getD i .none)) (fun i => by cases i <;> exact .none) (fun h _ q i => by
  cases i with
  | zero => exact h
  | succ i => exact q i) r
theorem RL.map_getD {H : PyData → Int} {vs ds} (r : RL H F vs ds) : ∀ p : List Nat, RL H F (p.map fun i => vs.getD i .none) (p.map fun i => ds.getD i .none)
  | [] => .nil
  | i :: p => .cons (r.getD i) (r.map_getD p)
theorem isIntD_spec {d : PyData} (h : isIntD d = true) : ∃ i, d = .int i := by
  cases d <;> first | exact ⟨_, rfl⟩ | cases h
theorem ints_types {H : PyData → Int} {M : Model} : ∀ {vs ds}, RL H F vs ds → ds.all isIntD = true → ∀ h, ∀ v ∈ vs, Looks M h (typeOf v) (.type "int") := fun {_ _} r =>
  RL.ind (P := fun vs ds => ds.all isIntD = true → ∀ h, ∀ v ∈ vs, Looks M h (typeOf v) (.type "int")) (fun _ _ _ hv => nomatch hv) (fun x _ ih ha h v hv => by
    obtain ⟨a1, a2⟩ := Bool.and_eq_true_iff.mp (List.all_cons.symm.trans ha)
    rcases List.mem_cons.mp hv with rfl | hv
    · obtain ⟨i, rfl⟩ := isIntD_spec a1
      obtain ⟨t, rfl⟩ := x.toInt
      exact Looks.of_pure rfl
    · exact ih a2 h v hv) r
theorem RL.uncons {H : PyData → Int} {l : List Value} {y : PyData} {ys : List PyData} (r : RL H F l (y :: ys)) : ∃ f fl, l = f :: fl ∧ R H F f y ∧ RL H F fl ys := by
  cases r with | cons a b => exact ⟨_, _, rfl, a, b⟩
theorem tup0_spec {d : PyData} {b : Bool} (h : (tup0 d == some b) = true) : ∃ y ys, d = .tuple (y :: ys) ∧ ((∃ i, y = .int i ∧ b = true) ∨ (∃ zs, y = .tuple zs ∧ b = false)) := by
  have h : tup0 d = some b := eq_of_beq h
  cases d with
  | tuple l =>
    cases l with
    | nil => (first | exact ns h | exact nb h | obtain rfl := si h | cases h)
    | cons y ys =>
      cases y with
      | int i => (first | exact ns h | exact nb h | obtain rfl := si h | cases h); exact ⟨_, _, rfl, .inl ⟨_, rfl, rfl⟩⟩
      | tuple zs => (first | exact ns h | exact nb h | obtain rfl := si h | cases h); exact ⟨_, _, rfl, .inr ⟨_, rfl, rfl⟩⟩
      | _ => (first | exact ns h | exact nb h | obtain rfl := si h | cases h)
  | _ => (first | exact ns h | exact nb h | obtain rfl := si h | cases h)
theorem R.toTuple {H : PyData → Int} {v : Value} {xs : List PyData} (r : R H F v (.tuple xs)) : ∃ a vs n, v = .ref a ∧ F a = some (seqObj "tuple" vs n) ∧ RL H F vs.toList xs := by
  cases r with | tuple ho rx => exact ⟨_, _, _, rfl, ho, rx⟩
theorem tups_firsts {H : PyData → Int} {b : Bool} {h : Heap} {M : Model} (hs : Sat F h) : ∀ {vs ds}, RL H F vs ds → ds.all (fun d => tup0 d == some b) = true → ∃ fs, KatTups h vs fs ∧ fs.length = ds.length ∧ ∀ v ∈ fs, Looks M h (typeOf v) (.type (if b then "int" else "tuple")) := fun {_ _} r =>
  RL.ind (P := fun vs ds => ds.all (fun d => tup0 d == some b) = true → ∃ fs, KatTups h vs fs ∧ fs.length = ds.length ∧ ∀ v ∈ fs, Looks M h (typeOf v) (.type (if b then "int" else "tuple"))) (fun _ => ⟨[], .nil, rfl, fun _ h => nomatch h⟩) (fun x _ ih ha => by
    obtain ⟨h1, a2⟩ := Bool.and_eq_true_iff.mp (List.all_cons.symm.trans ha)
    obtain ⟨fs, k, e, t⟩ := ih a2
    obtain ⟨y, ys, rfl, hy1⟩ := tup0_spec h1
    obtain ⟨a, vs, n, rfl, ho, rx⟩ := x.toTuple
    obtain ⟨f, fl, hvs, ry, rys⟩ := rx.uncons
    have hf : vs[0]? = some f := by rw [← Array.getElem?_toList, hvs]; rfl
    refine ⟨f :: fs, .cons (hs _ _ ho) rfl rfl hf k, congrArg (· + 1) e, ?_⟩
    intro v hv
    rcases List.mem_cons.mp hv with rfl | hv
    · rcases hy1 with ⟨i, rfl, rfl⟩ | ⟨zs, rfl, rfl⟩
      · obtain ⟨t, rfl⟩ := ry.toInt; exact Looks.of_pure rfl
      · obtain ⟨a', vs', n', rfl, ho', _⟩ := ry.toTuple
        exact (Looks.ld (hs _ _ ho')).andThen .now
    · exact t v hv) r
theorem ordD_lt {p q : Int} {o : Ordering} (h : ordD (.int p) (.int q) = some o) : decide (p < q) = ordIs .Lt o := by
  have h : (if p < q then Ordering.lt else if p = q then .eq else .gt) = o := Option.some.inj h
  subst h
  by_cases hpq : p < q
  · rw [if_pos hpq]; exact decide_eq_true hpq
  · rw [if_neg hpq]
    by_cases h' : p = q
    · rw [if_pos h']; exact decide_eq_false hpq
    · rw [if_neg h']; exact decide_eq_false hpq
theorem ltAt_some {ds : List PyData} {i j : Nat} {c : Bool} (h : ltAt ds i j = some c) : ∃ x y o, ds[i]? = some x ∧ ds[j]? = some y ∧ ordD x y = some o ∧ ordIs .Lt o = c := by
  unfold ltAt at h
  cases e1 : ds[i]? with
  | none => rw [e1] at h; (first | exact ns h | exact nb h | obtain rfl := si h | cases h)
  | some x =>
    cases e2 : ds[j]? with
    | none => rw [e1, e2] at h; (first | exact ns h | exact nb h | obtain rfl := si h | cases h)
    | some y =>
      rw [e1, e2] at h
      have h : (match ordD x y with | some .lt => some true | some _ => some false | none => none) = some c := h
      cases ho : ordD x y with
      | none => rw [ho] at h; (first | exact ns h | exact nb h | obtain rfl := si h | cases h)
      | some o => rw [ho] at h; cases o <;> (cases h; exact ⟨_, _, _, rfl, rfl, ho, rfl⟩)
theorem lex_tup {b : Bool} {xs ys : List PyData} {o : Ordering} {vx vy : List Value} {as bs : List Addr} {Q : Bool → Shared → Prop} (h1 : tup0 (.tuple xs) = some b) (h2 : tup0 (.tuple ys) = some b) (ho : ordL xs ys = some o) (rx : ReadsAll s.heap vx xs as) (ry : ReadsAll s.heap vy ys bs)
    (dx : PyData.depthAll xs ≤ 64) (kx : PyData.canLayAll0 xs = true) (ky : PyData.canLayAll0 ys = true) (hu : A.units + 66 < cLine) (hq : Q (ordIs .Lt o) s) : KatLex prog w A b (decide (vx.length < vy.length)) Q (vx.zip vy) 0 s := by
  cases b with
  | false => exact lex_of_ors (k := 0) (orsAt 64 xs ys A s _ _ _ _ o dx ho rx ry kx ky (by omega)) rfl (Nat.zero_add _).symm (Nat.zero_add _).symm rfl hq
  | true =>
    cases xs with
    | nil => (first | exact ns h1 | exact nb h1 | obtain rfl := si h1 | cases h1)
    | cons x0 xs =>
      cases ys with
      | nil => (first | exact ns h2 | exact nb h2 | obtain rfl := si h2 | cases h2)
      | cons y0 ys =>
        cases x0 with
        | int p =>
          cases y0 with
          | int q =>
            obtain ⟨v, vs1, _, _, rfl, rv, rvs⟩ := readsAll_cons rx
            obtain ⟨u, us1, _, _, rfl, ru, rus⟩ := readsAll_cons ry
            have c1 : PyData.canLayAll0 xs = true := (Bool.and_eq_true_iff.mp (show ((PyData.int p).canLay0 && PyData.canLayAll0 xs) = true from kx)).2
            have c2 : PyData.canLayAll0 ys = true := (Bool.and_eq_true_iff.mp (show ((PyData.int q).canLay0 && PyData.canLayAll0 ys) = true from ky)).2
            have dxs : PyData.depthAll xs ≤ 64 := Nat.le_trans (Nat.le_max_right (PyData.int p).depth _) dx
            have he : EqAt A s v u (PyData.eqv (.int p) (.int q)) := eqAt_reads _ _ A s v u _ _ rv ru rfl rfl (by simp only [PyData.depth]; omega)
            have ho : (if PyData.eqv (.int p) (.int q) = true then ordL xs ys else match ordD (.int p) (.int q) with | some .lt => some .lt | some .gt => some .gt | _ => none) = some o := ho
            cases hq' : PyData.eqv (.int p) (.int q) with
            | true =>
              rw [hq'] at he
              rw [if_pos hq'] at ho
              refine kat_cons (he prog w _ _ (kat_yes ?_))
              exact lex_of_ors (k := 1) (orsAt 64 xs ys A s _ _ _ _ o dxs ho rvs rus c1 c2 (by omega)) rfl (Nat.add_comm _ _) (Nat.add_comm _ _) rfl hq
            | false =>
              rw [hq'] at he
              rw [if_neg (by rw [hq']; exact Bool.false_ne_true)] at ho
              refine kat_cons (he prog w _ _ (kat_no ?_))
              cases rv; cases ru
              refine oneLt_int ?_
              cases hw : ordD (.int p) (.int q) with
              | none => rw [hw] at ho; (first | exact ns ho | exact nb ho | obtain rfl := si ho | cases ho)
              | some o' =>
                rw [ordD_lt hw]
                rw [hw] at ho
                cases o' <;> first | (cases ho; done) | (cases ho; exact hq)
          | _ => (first | exact ns h2 | exact nb h2 | obtain rfl := si h2 | cases h2)
        | _ => (first | exact ns h1 | exact nb h1 | obtain rfl := si h1 | cases h1)
theorem ltAt_ints {prog : Program} {w : World} {ds : List PyData} {vs : List Value} {H : PyData → Int} {i j : Nat} {c : Bool} {Q' : Bool → Shared → Prop} (r : RL H F vs ds)
    (he : ltAt ds i j = some c) (hq : Q' c s) (ha : ds.all isIntD = true) : wpAny (model prog w) A (keyLt' oneType' (vs.getD i .none) (vs.getD j .none)) Q' (fun _ _ => False) s := by
  obtain ⟨x, y, o, e1, e2, ho, rfl⟩ := ltAt_some he
  have ri := r.getD i
  have rj := r.getD j
  rw [show ds.getD i .none = x by simp [e1]] at ri
  rw [show ds.getD j .none = y by simp [e2]] at rj
  obtain ⟨p, rfl⟩ := isIntD_spec (List.all_eq_true.mp ha x (List.mem_of_getElem? e1))
  obtain ⟨q, rfl⟩ := isIntD_spec (List.all_eq_true.mp ha y (List.mem_of_getElem? e2))
  obtain ⟨t, e3⟩ := ri.toInt
  obtain ⟨u, e4⟩ := rj.toInt
  rw [e3, e4]
  exact kat_lt_int (by rw [ordD_lt ho]; exact hq)
theorem tup0_tup {d : PyData} {b : Bool} (h : (tup0 d == some b) = true) : ∃ xs, d = .tuple xs ∧ tup0 (.tuple xs) = some b := by
  have h : tup0 d = some b := eq_of_beq h
  cases d with
  | tuple l => exact ⟨l, rfl, h⟩
  | _ => (first | exact ns h | exact nb h | obtain rfl := si h | cases h)
theorem ltAt_tups {prog : Program} {w : World} {ds : List PyData} {vs : List Value} {H : PyData → Int} {i j : Nat} {c b : Bool} {Q' : Bool → Shared → Prop} (hs : Sat F s.heap) (r : RL H F vs ds) (hk : ds.all okD = true) (hu : A.units + 100 < cLine)
    (he : ltAt ds i j = some c) (hq : Q' c s) (ha : ds.all (fun d => tup0 d == some b) = true) : wpAny (model prog w) A (keyLt' (tuples' b) (vs.getD i .none) (vs.getD j .none)) Q' (fun _ _ => False) s := by
  obtain ⟨x, y, o, e1, e2, ho, rfl⟩ := ltAt_some he
  have hx := List.mem_of_getElem? e1
  have hy := List.mem_of_getElem? e2
  have ri := r.getD i
  have rj := r.getD j
  rw [show ds.getD i .none = x by simp [e1]] at ri
  rw [show ds.getD j .none = y by simp [e2]] at rj
  have kx := List.all_eq_true.mp hk x hx
  have ky := List.all_eq_true.mp hk y hy
  obtain ⟨xs, rfl, t1⟩ := tup0_tup (List.all_eq_true.mp ha x hx)
  obtain ⟨ys, rfl, t2⟩ := tup0_tup (List.all_eq_true.mp ha y hy)
  obtain ⟨as, qi⟩ := ri.reads hs
  obtain ⟨bs, qj⟩ := rj.reads hs
  obtain ⟨a', oa, va, na, as', ea, ga, ca, da, rva⟩ := reads_tuple qi
  obtain ⟨b', ob, vb, nb, bs', eb, gb, cb, db, rvb⟩ := reads_tuple qj
  rw [ea, eb]
  refine kat_lt ga da gb db ?_
  have dx : PyData.depthAll xs + 1 ≤ 64 := okD_depth kx
  have := lex_tup (prog := prog) (w := w) (A := A) (s := s) t1 t2 ho rva rvb (by omega) (okD_lay kx) (okD_lay ky) (by omega) hq
  rwa [Array.length_toList, Array.length_toList] at this
theorem biSorted : BiOk C (.builtin "sorted") sortG := fun {A F s vs ds d} hu hh hs b h => by
  unfold sortG at h
  split at h
  · rename_i ds
    obtain ⟨v, rfl, c⟩ := b.one
    obtain ⟨l, ws, k, rfl, ha, r⟩ := c.list hs
    have hlen := r.length
    have hl : s.heap.IsList l ws.toList.toArray := ⟨_, ha, rfl, k, by simp⟩
    have fin : ∀ (out : List Value) (es : List PyData), RL C.H F out es → Post C F s (.list es) (.ref (s.heap.objs.size + 1)) { s with heap := sortedAll s.heap ws.toList out.toArray } := by
      intro out es ro
      obtain ⟨e, he⟩ := sortedAll_at s.heap ws.toList out.toArray
      have hfr : s.heap.get? (s.heap.objs.size + 1) = none := Heap.get?_none_of_le (Nat.le_succ _)
      refine ⟨_, Grow.putAt (s' := { s with heap := sortedAll s.heap ws.toList out.toArray }) hs (fun b o q => sortedAll_old q) hfr he rfl rfl rfl, .list (put_self ..) ?_⟩
      exact ro.mono (put_sub (sat_fresh hs hfr))
    split at h
    · (first | exact ns h | exact nb h | obtain rfl := si h | cases h)
      refine sorted_tree hl (by omega) (fun s1 a P E' kp hn hoL hP => sort_tree1 hoL (by omega) hP) (fin _ _ r)
    · rename_i h2
      split at h
      · rename_i hc
        unfold sortD at h
        cases hr : runO (ltAt ds) (kas_sort ds.length) with
        | none => rw [hr] at h; (first | exact ns h | exact nb h | obtain rfl := si h | cases h)
        | some p =>
          rw [hr] at h
          (first | exact ns h | exact nb h | obtain rfl := si h | cases h)
          simp only [Bool.and_eq_true, Bool.or_eq_true, decide_eq_true_eq] at hc
          obtain ⟨⟨h64, hok⟩, hkind⟩ := hc
          refine sorted_tree (out := p.toList.map fun i => ws.toList.getD i .none) hl (by omega) (fun s1 a P E' kp hn hoL hP => ?_) (fin _ _ (r.map_getD _))
          have sat1 : ∀ s2 : Shared, (∀ b o, b ≠ a → s1.heap.get? b = some o → s2.heap.get? b = some o) → Sat F s2.heap := fun s2 k2 b o q => by
            refine k2 b o ?_ (kp b o (hs b o q))
            rintro rfl
            rw [hs _ _ q] at hn; (first | exact ns hn | exact nb hn | obtain rfl := si hn | cases hn)
          have hu2 : A.in1.in1.units + 100 < cLine := by show A.units + 1 + 1 + 100 < cLine; omega
          rw [← hlen] at hr
          rcases hkind with (hk | hk) | hk
          · refine sort_tree (κ := oneType') (lt := ltAt ds) hoL (by omega) (by omega) (fun s2 k2 Q' hq => ?_) (fun s2 k2 i j c e Q' hq => ltAt_ints r e hq hk) hr hP
            exact kas_kind (T := .type "int") (by omega) (fun v hv => ints_types r hk _ v hv) (by decide) (by decide) hq
          · refine sort_tree (κ := tuples' true) (lt := ltAt ds) hoL (by omega) (by omega) (fun s2 k2 Q' hq => ?_) (fun s2 k2 i j c e Q' hq => ltAt_tups (sat1 s2 k2) r hok hu2 e hq hk) hr hP
            obtain ⟨fs, t1, t2, t3⟩ := tups_firsts (M := model C.prog C.w) (sat1 s2 k2) r hk
            exact kat_kind (T := .type "int") t1 (by omega) t3 (by decide) hq
          · refine sort_tree (κ := tuples' false) (lt := ltAt ds) hoL (by omega) (by omega) (fun s2 k2 Q' hq => ?_) (fun s2 k2 i j c e Q' hq => ltAt_tups (sat1 s2 k2) r hok hu2 e hq hk) hr hP
            obtain ⟨fs, t1, t2, t3⟩ := tups_firsts (M := model C.prog C.w) (sat1 s2 k2) r hk
            exact kat_kind (T := .type "tuple") t1 (by omega) t3 (by decide) hq
      · (first | exact ns h | exact nb h | obtain rfl := si h | cases h)
  · (first | exact ns h | exact nb h | obtain rfl := si h | cases h)
end Ev
set_option maxRecDepth 10000
namespace Ev
open PySem PySem.W PySem.Spec PySem.Calls PyProof.Rows PySem.SeqAt
variable {C : Cx} {n : Nat} {sc : Scope} {A : Around} {env : Env} {base : Fz} {low : Fz} {F F' : Fz} {s s' : Shared} {σ : St}
section
variable {prog : Program} {w : World}
mutual
noncomputable def drawsK : PyData → Nat
  | .tuple ds => drawsKs ds + 1
  | _ => 1
noncomputable def drawsKs : List PyData → Nat
  | [] => 0
  | d :: ds => drawsK d + drawsKs ds
end
theorem hash_wp : ∀ (n : Nat) (d : PyData) (v : Value) (as : List Addr) (A : Around) (s : Shared) (Q : Int → Shared → Prop) (E : Value → Shared → Prop), d.depth ≤ n → keyOk d = true → Reads s.heap v d as → A.units + n < cLine →
    Q (hashK w d) { s with toks := s.toks + drawsK d } → wpAny (model prog w) A (pyHash v) Q E s := by
  intro n
  induction n with
  | zero =>
    intro d v as A s Q E hd hk r hu h
    cases r with
    | int i t => exact wpAny_pyHash_int h
    | str x t => exact wpAny_pyHash_str h
    | tuple => simp [PyData.depth] at hd
    | _ => (first | exact ns hk | exact nb hk | obtain rfl := si hk | cases hk)
  | succ n ih =>
    intro d v as A s Q E hd hk r hu h
    cases r with
    | int i t => exact wpAny_pyHash_int h
    | str x t => exact wpAny_pyHash_str h
    | @tuple a o vs m ds as ho hc hdt rs =>
      have hT : s.TypeIs (.ref a) "tuple" := ⟨o, ho, hc⟩
      have hds : PyData.depthAll ds ≤ n := by have : PyData.depthAll ds + 1 ≤ n + 1 := hd; omega
      have hks : keyOks ds = true := hk
      unfold pyHash
      first | unfold pyHashByItsType | skip
      first | refine wpAny_bind (wpAny_cRoomFor_or (.inr (by omega)) ?_) | skip
      refine wpAny_bind (wpAny_specialOf hT F.slot_tuple_hash.lookup ?_)
      show wpAny _ _ (if (some (Value.builtin "tuple.__hash__") == some Value.none) = true then _ else _) Q E s
      first | with_reducible refine w_neg (by rw [beq_builtin_none]; exact Bool.false_ne_true) ?_ | with_reducible refine wb_neg (by rw [beq_builtin_none]; exact Bool.false_ne_true) ?_ | rw [if_neg (by rw [beq_builtin_none]; exact Bool.false_ne_true)]
      refine wpAny_bind (wpAny_specialOf hT F.slot_tuple_hash.lookup ?_)
      show wpAny _ _ (callSpecialIfBoundUnlessNone? (.ref a) "__hash__" _ >>= _) Q E s
      refine wpAny_bind (wpAny_callSpecialIfBoundUnlessNone?_slot hT F.slot_tuple_hash (wpAny_call_entry F.slot_tuple_hash hT F.entry_tuple_hash ?_ (F.args_tuple_hash_1 _)))
      show wpAny _ _ (Builtin.Tuple.tupleItemsOf (.ref a) >>= _) _ _ s
      refine wpAny_bind (wpAny_tupleItemsOf ho hdt ?_)
      refine wpAny_bind ?_
      rw [← Array.forIn_toList]
      refine wpAny_forIn_list _
        (fun rest (b : Array Int) s' => ∃ left bs, ReadsAll s.heap rest left bs ∧ keyOks left = true ∧ PyData.depthAll left ≤ n ∧ b.toList ++ hashKs w left = hashKs w ds ∧ ∃ t, s' = { s with toks := t } ∧ t + drawsKs left = s.toks + drawsKs ds)
        _ ?_ ?_ _ _ ⟨ds, _, rs, hks, hds, rfl, s.toks, rfl, rfl⟩
      · rintro x rest b s' ⟨left, bs, hl, hk', hd', hb, t, rfl, ht⟩
        cases hl with
        | @cons _ _ d' ds' as1 bs1 h1 hl' =>
          obtain ⟨k1, k2⟩ := Bool.and_eq_true_iff.mp (show (keyOk d' && keyOks ds') = true from hk')
          have hm : max d'.depth (PyData.depthAll ds') ≤ n := hd'
          refine wpAny_bind (ih d' x as1 _ _ _ _ (Nat.le_trans (Nat.le_max_left _ _) hm) k1 h1 (by show A.units + 1 + n < cLine; omega) ?_)
          have fin : ∃ left bs, ReadsAll s.heap rest left bs ∧ keyOks left = true ∧ PyData.depthAll left ≤ n ∧ (b.push (hashK w d')).toList ++ hashKs w left = hashKs w ds ∧ ∃ t', ({ s with toks := t + drawsK d' } : Shared) = { s with toks := t' } ∧ t' + drawsKs left = s.toks + drawsKs ds :=
            ⟨ds', bs1, hl', k2, Nat.le_trans (Nat.le_max_right _ _) hm, by rw [← hb]; simp [hashKs], _, rfl, by rw [← ht]; simp only [drawsKs]; omega⟩
          first
            | exact wpAny_pure fin
            | exact wpAny_bind (wpAny_pure (wpAny_pure fin))
      · rintro b s' ⟨left, bs, hl, _, _, hb, t, rfl, ht⟩
        (first | exact ns hl | exact nb hl | obtain rfl := si hl | cases hl)
        simp only [hashKs, List.append_nil, drawsKs, Nat.add_zero] at hb ht
        show wpAny _ _ (retInt (Builtin.Tuple.tupleHashOf b.toList)) _ _ _
        rw [hb]
        refine wpAny_ret_mkInt ?_
        subst ht
        show wpAny _ _ (if (decide (-(2 : Int) ^ 63 ≤ Builtin.Tuple.tupleHashOf (hashKs w ds)) && decide (Builtin.Tuple.tupleHashOf (hashKs w ds) < 2 ^ 63)) = true then _ else _) Q E _
        have h' : Q (reduceHash (Builtin.Tuple.tupleHashOf (hashKs w ds))) { s with toks := s.toks + drawsKs ds + 1 } := by simpa [hashK, drawsK, Nat.add_assoc] using h
        unfold reduceHash at h'
        by_cases hr : (decide (-(2 : Int) ^ 63 ≤ Builtin.Tuple.tupleHashOf (hashKs w ds)) && decide (Builtin.Tuple.tupleHashOf (hashKs w ds) < 2 ^ 63)) = true
        · rw [if_pos hr]
          rw [if_pos hr] at h'
          exact wpAny_pure h'
        · rw [if_neg hr]
          rw [if_neg hr] at h'
          exact wpAny_bind (wpAny_rule (wpAny_pure h'))
    | _ => (first | exact ns hk | exact nb hk | obtain rfl := si hk | cases hk)
theorem quiet_wp : ∀ (n : Nat) (d : PyData) (v : Value) (as : List Addr) (A : Around) (s : Shared) (Q : Bool → Shared → Prop) (E : Value → Shared → Prop), d.depth ≤ n → keyOk d = true → Reads s.heap v d as → Q true s →
    wpAny (model prog w) A (eqIsQuiet n v) Q E s := by
  intro n
  induction n with
  | zero =>
    intro d v as A s Q E hd hk r h
    cases r with
    | int i t => rw [eqIsQuiet_byValue _ rfl]; exact wpAny_pure h
    | str x t => rw [eqIsQuiet_byValue _ rfl]; exact wpAny_pure h
    | tuple => simp [PyData.depth] at hd
    | _ => (first | exact ns hk | exact nb hk | obtain rfl := si hk | cases hk)
  | succ n ih =>
    intro d v as A s Q E hd hk r h
    cases r with
    | int i t => rw [eqIsQuiet_byValue _ rfl]; exact wpAny_pure h
    | str x t => rw [eqIsQuiet_byValue _ rfl]; exact wpAny_pure h
    | @tuple a o vs m ds as ho hc hdt rs =>
      have hT : s.TypeIs (.ref a) "tuple" := ⟨o, ho, hc⟩
      have hds : PyData.depthAll ds ≤ n := by have : PyData.depthAll ds + 1 ≤ n + 1 := hd; omega
      have hks : keyOks ds = true := hk
      unfold eqIsQuiet
      refine wpAny_bind (wpAny_specialOf hT F.slot_tuple_eq.lookup ?_)
      show wpAny _ _ (isInstance (.ref a) (.type "tuple") >>= _) _ _ s
      refine wpAny_bind (wpAny_isInstance hT isSubtype_tuple_tuple ?_)
      first | with_reducible refine w_ntrue ?_ | with_reducible refine wb_ntrue ?_ | simp only [Bool.not_true, Bool.false_eq_true, if_false]
      refine wpAny_bind (wpAny_seqItems ho hdt ?_)
      refine wpAny_bind ?_
      show wpAny _ _ (forIn vs _ _) _ _ s
      rw [← Array.forIn_toList]
      refine wpAny_forIn_list _ (fun rest r s' => r.1 = none ∧ s' = s ∧ ∃ left bs, ReadsAll s.heap rest left bs ∧ keyOks left = true ∧ PyData.depthAll left ≤ n) _ ?_ ?_ _ _ ⟨rfl, rfl, ds, _, rs, hks, hds⟩
      · rintro x rest r s' ⟨hr, rfl, left, bs, hl, hk', hd'⟩
        cases hl with
        | @cons _ _ d' ds' as1 bs1 h1 hl' =>
          obtain ⟨k1, k2⟩ := Bool.and_eq_true_iff.mp (show (keyOk d' && keyOks ds') = true from hk')
          have hm : max d'.depth (PyData.depthAll ds') ≤ n := hd'
          refine wpAny_bind (ih d' x as1 _ _ _ _ (Nat.le_trans (Nat.le_max_left _ _) hm) k1 h1 ?_)
          first | with_reducible refine w_ntrue ?_ | with_reducible refine wb_ntrue ?_ | simp only [Bool.not_true, Bool.false_eq_true, if_false]
          exact wpAny_pure ⟨rfl, rfl, ds', bs1, hl', k2, Nat.le_trans (Nat.le_max_right _ _) hm⟩
      · rintro ⟨r1, r2⟩ s' ⟨hr, rfl, _⟩
        simp only at hr
        subst hr
        exact wpAny_pure h
    | _ => (first | exact ns hk | exact nb hk | obtain rfl := si hk | cases hk)
end
/-! keys as data -/
mutual
theorem eqv_key : ∀ (x y : PyData), keyOk x = true → keyOk y = true → PyData.eqv x y = true → x = y
  | .int a, .int b, _, _, h => by simp only [PyData.eqv, beq_iff_eq] at h; rw [h]
  | .str a, .str b, _, _, h => by simp only [PyData.eqv, beq_iff_eq] at h; rw [h]
  | .tuple xs, .tuple ys, h1, h2, h => by rw [eqv_keys xs ys h1 h2 h]
  | .int _, .str _, _, _, h => by simp [PyData.eqv] at h
  | .int _, .tuple _, _, _, h => by simp [PyData.eqv] at h
  | .str _, .int _, _, _, h => by simp [PyData.eqv] at h
  | .str _, .tuple _, _, _, h => by simp [PyData.eqv] at h
  | .tuple _, .int _, _, _, h => by simp [PyData.eqv] at h
  | .tuple _, .str _, _, _, h => by simp [PyData.eqv] at h
  | .none, _, h, _, _ => by (first | exact ns h | exact nb h | obtain rfl := si h | cases h)
  | .bool _, _, h, _, _ => by (first | exact ns h | exact nb h | obtain rfl := si h | cases h)
  | .list _, _, h, _, _ => by (first | exact ns h | exact nb h | obtain rfl := si h | cases h)
  | .dict _, _, h, _, _ => by (first | exact ns h | exact nb h | obtain rfl := si h | cases h)
  | .int _, .none, _, h, _ => by (first | exact ns h | exact nb h | obtain rfl := si h | cases h)
  | .int _, .bool _, _, h, _ => by (first | exact ns h | exact nb h | obtain rfl := si h | cases h)
  | .int _, .list _, _, h, _ => by (first | exact ns h | exact nb h | obtain rfl := si h | cases h)
  | .int _, .dict _, _, h, _ => by (first | exact ns h | exact nb h | obtain rfl := si h | cases h)
  | .str _, .none, _, h, _ => by (first | exact ns h | exact nb h | obtain rfl := si h | cases h)
  | .str _, .bool _, _, h, _ => by (first | exact ns h | exact nb h | obtain rfl := si h | cases h)
  | .str _, .list _, _, h, _ => by (first | exact ns h | exact nb h | obtain rfl := si h | cases h)
  | .str _, .dict _, _, h, _ => by (first | exact ns h | exact nb h | obtain rfl := si h | cases h)
  | .tuple _, .none, _, h, _ => by (first | exact ns h | exact nb h | obtain rfl := si h | cases h)
  | .tuple _, .bool _, _, h, _ => by (first | exact ns h | exact nb h | obtain rfl := si h | cases h)
  | .tuple _, .list _, _, h, _ => by (first | exact ns h | exact nb h | obtain rfl := si h | cases h)
  | .tuple _, .dict _, _, h, _ => by (first | exact ns h | exact nb h | obtain rfl := si h | cases h)
theorem eqv_keys : ∀ (xs ys : List PyData), keyOks xs = true → keyOks ys = true → PyData.eqvAll xs ys = true → xs = ys
  | [], [], _, _, _ => rfl
  | x :: xs, y :: ys, h1, h2, h => by
    simp only [keyOks, PyData.eqvAll, Bool.and_eq_true] at h1 h2 h
    rw [eqv_key x y h1.1 h2.1 h.1, eqv_keys xs ys h1.2 h2.2 h.2]
  | [], _ :: _, _, _, h => by simp [PyData.eqvAll] at h
  | _ :: _, [], _, _, h => by simp [PyData.eqvAll] at h
end
mutual
theorem eqv_key_refl : ∀ (x : PyData), keyOk x = true → PyData.eqv x x = true
  | .int a, _ => by simp [PyData.eqv]
  | .str a, _ => by simp [PyData.eqv]
  | .tuple xs, h => eqv_keys_refl xs h
  | .none, h => by (first | exact ns h | exact nb h | obtain rfl := si h | cases h)
  | .bool _, h => by (first | exact ns h | exact nb h | obtain rfl := si h | cases h)
  | .list _, h => by (first | exact ns h | exact nb h | obtain rfl := si h | cases h)
  | .dict _, h => by (first | exact ns h | exact nb h | obtain rfl := si h | cases h)
theorem eqv_keys_refl : ∀ (xs : List PyData), keyOks xs = true → PyData.eqvAll xs xs = true
  | [], _ => rfl
  | x :: xs, h => by
    simp only [keyOks, Bool.and_eq_true] at h
    simp only [PyData.eqvAll, eqv_key_refl x h.1, eqv_keys_refl xs h.2, Bool.and_self]
end
theorem reads_form {h : Heap} {x : PyData} {v : Value} {as : List Addr} (hk : keyOk x = true) (r : Reads h v x as) :
    (∃ i t, v = .int i t ∧ x = .int i) ∨ (∃ y t, v = .str y t ∧ x = .str y) ∨ (∃ a o vs m ds bs, v = .ref a ∧ x = .tuple ds ∧ h.get? a = some o ∧ o.cls = .type "tuple" ∧ o.data = .seq vs m ∧ ReadsAll h vs.toList ds bs) := by
  cases r with
  | int i t => exact .inl ⟨_, _, rfl, rfl⟩
  | str y t => exact .inr (.inl ⟨_, _, rfl, rfl⟩)
  | tuple ho hc hd q => exact .inr (.inr ⟨_, _, _, _, _, _, rfl, rfl, ho, hc, hd, q⟩)
  | _ => (first | exact ns hk | exact nb hk | obtain rfl := si hk | cases hk)
theorem reads_keyN {h : Heap} : ∀ (n : Nat) {x y : PyData} {v : Value} {as bs : List Addr}, x.depth ≤ n → keyOk x = true → keyOk y = true → Reads h v x as → Reads h v y bs → x = y := by
  intro n
  induction n with
  | zero =>
    intro x y v as bs hd h1 h2 r1 r2
    rcases reads_form h1 r1 with ⟨i, t, rfl, rfl⟩ | ⟨z, t, rfl, rfl⟩ | ⟨a, o, vs, m, ds, cs, rfl, rfl, _⟩
    · cases r2; rfl
    · cases r2; rfl
    · simp [PyData.depth] at hd
  | succ n ih =>
    intro x y v as bs hd h1 h2 r1 r2
    rcases reads_form h1 r1 with ⟨i, t, rfl, rfl⟩ | ⟨z, t, rfl, rfl⟩ | ⟨a, o, vs, m, ds, cs, rfl, rfl, ho, hc, hdt, q⟩
    · cases r2; rfl
    · cases r2; rfl
    · rcases reads_form h2 r2 with ⟨i, t, e, _⟩ | ⟨z, t, e, _⟩ | ⟨a', o', vs', m', ds', cs', e, rfl, ho', hc', hdt', q'⟩
      · (first | exact ns e | exact nb e | obtain rfl := si e | cases e)
      · (first | exact ns e | exact nb e | obtain rfl := si e | cases e)
      · (first | exact ns e | exact nb e | obtain rfl := si e | cases e)
        rw [ho] at ho'; cases ho'
        rw [hdt] at hdt'; cases hdt'
        have hds : PyData.depthAll ds ≤ n := by have : PyData.depthAll ds + 1 ≤ n + 1 := hd; omega
        have hks : keyOks ds = true := h1
        have hks' : keyOks ds' = true := h2
        have go : ∀ (ws : List Value) (xs ys : List PyData) (as bs : List Addr), PyData.depthAll xs ≤ n → keyOks xs = true → keyOks ys = true → ReadsAll h ws xs as → ReadsAll h ws ys bs → xs = ys := by
          intro ws
          induction ws with
          | nil => intro xs ys as bs _ _ _ a1 a2; cases a1; cases a2; rfl
          | cons w ws iw =>
            intro xs ys as bs hd' k1 k2 a1 a2
            cases a1 with
            | cons q1 q2 =>
              cases a2 with
              | cons q3 q4 =>
                simp only [keyOks, Bool.and_eq_true] at k1 k2
                have hm : max _ (PyData.depthAll _) ≤ n := hd'
                rw [ih (Nat.le_trans (Nat.le_max_left _ _) hm) k1.1 k2.1 q1 q3, iw _ _ _ _ (Nat.le_trans (Nat.le_max_right _ _) hm) k1.2 k2.2 q2 q4]
        rw [go _ _ _ _ _ hds hks hks' q q']
theorem reads_key {h : Heap} {x y : PyData} {v : Value} {as bs : List Addr} (h1 : keyOk x = true) (h2 : keyOk y = true) (r1 : Reads h v x as) (r2 : Reads h v y bs) : x = y := reads_keyN x.depth (Nat.le_refl _) h1 h2 r1 r2
theorem reads_keepsN {h h' : Heap} (k : ∀ a o, (∃ xs m, o.data = .seq xs m) → h.get? a = some o → h'.get? a = some o) : ∀ (n : Nat) {x : PyData} {v : Value} {as : List Addr}, x.depth ≤ n → keyOk x = true → Reads h v x as → Reads h' v x as := by
  intro n
  induction n with
  | zero =>
    intro x v as hd h1 r1
    cases r1 with
    | int i t => exact .int _ _
    | str y t => exact .str _ _
    | tuple ho hc hdt q => simp [PyData.depth] at hd
    | _ => (first | exact ns h1 | exact nb h1 | obtain rfl := si h1 | cases h1)
  | succ n ih =>
    intro x v as hd h1 r1
    cases r1 with
    | int i t => exact .int _ _
    | str y t => exact .str _ _
    | @tuple a o vs m ds as ho hc hdt q =>
      have hds : PyData.depthAll ds ≤ n := by have : PyData.depthAll ds + 1 ≤ n + 1 := hd; omega
      have hks : keyOks ds = true := h1
      have go : ∀ (ws : List Value) (xs : List PyData) (as : List Addr), PyData.depthAll xs ≤ n → keyOks xs = true → ReadsAll h ws xs as → ReadsAll h' ws xs as := by
        intro ws
        induction ws with
        | nil => intro xs as _ _ a1; cases a1; exact .nil
        | cons w ws iw =>
          intro xs as hd' k1 a1
          cases a1 with
          | cons q1 q2 =>
            simp only [keyOks, Bool.and_eq_true] at k1
            have hm : max _ (PyData.depthAll _) ≤ n := hd'
            exact .cons (ih (Nat.le_trans (Nat.le_max_left _ _) hm) k1.1 q1) (iw _ _ (Nat.le_trans (Nat.le_max_right _ _) hm) k1.2 q2)
      exact .tuple (k _ _ ⟨_, _, hdt⟩ ho) hc hdt (go _ _ _ hds hks q)
    | _ => (first | exact ns h1 | exact nb h1 | obtain rfl := si h1 | cases h1)
theorem reads_keeps {h h' : Heap} (k : ∀ a o, (∃ xs m, o.data = .seq xs m) → h.get? a = some o → h'.get? a = some o) {x : PyData} {v : Value} {as : List Addr} (h1 : keyOk x = true) (r : Reads h v x as) : Reads h' v x as := reads_keepsN k x.depth (Nat.le_refl _) h1 r
mutual
theorem key_lay : ∀ (x : PyData), keyOk x = true → x.canLay0 = true
  | .int _, _ => rfl
  | .str x, h => h
  | .tuple xs, h => keys_lay xs h
  | .none, h => by (first | exact ns h | exact nb h | obtain rfl := si h | cases h)
  | .bool _, h => by (first | exact ns h | exact nb h | obtain rfl := si h | cases h)
  | .list _, h => by (first | exact ns h | exact nb h | obtain rfl := si h | cases h)
  | .dict _, h => by (first | exact ns h | exact nb h | obtain rfl := si h | cases h)
theorem keys_lay : ∀ (xs : List PyData), keyOks xs = true → PyData.canLayAll0 xs = true
  | [], _ => rfl
  | x :: xs, h => by
    simp only [keyOks, Bool.and_eq_true] at h
    simp only [PyData.canLayAll0, key_lay x h.1, keys_lay xs h.2, Bool.and_self]
end
noncomputable abbrev decPy : DecidableEq PyData := fun a b => Classical.propDecidable (a = b)
noncomputable def IsKeyA (h : Heap) (k : PyData) (a : Addr) : Prop := keyOk k = true ∧ k.depth ≤ 6 ∧ ∃ as, Reads h (.ref a) k as
theorem eqBool_key {prog : Program} {w : World} {A : Around} {s : Shared} {x y : PyData} {u v : Value} {as bs : List Addr} {Q : Bool → Shared → Prop} {E : Value → Shared → Prop} (hu : A.units + 100 < cLine) (hx : keyOk x = true) (hy : keyOk y = true) (dx : x.depth ≤ 6)
    (r1 : Reads s.heap u x as) (r2 : Reads s.heap v y bs) (h : Q (PyData.eqv x y) s) : wpAny (model prog w) A (eqBool u v) Q E s :=
  eqAt_reads x y A s u v as bs r1 r2 (key_lay x hx) (key_lay y hy) (by have : min x.depth y.depth ≤ x.depth := Nat.min_le_left _ _; omega) prog w _ _ h
noncomputable def keyKind (prog : Program) (w : World) : @HeapKind prog w PyData decPy := letI := decPy; {
  is := IsKeyA,
  hash := hashK w,
  draws := drawsK,
  room := fun A => A.units + 100 < cLine,
  inj := fun ⟨h1, _, _, r1⟩ ⟨h2, _, _, r2⟩ => reads_key h1 h2 r1 r2,
  keeps := fun {h h' k a d o es ep} ⟨h1, h2, as, r⟩ ho hd hs => ⟨h1, h2, as, reads_keeps (fun b o' ⟨xs, m, e⟩ q => (hs.2 b (fun e' => by
    subst e'; rw [ho] at q; (first | exact ns q | exact nb q | obtain rfl := si q | cases q); rw [hd] at e; (first | exact ns e | exact nb e | obtain rfl := si e | cases e))).trans q) h1 r⟩
  pyHash := fun {A E s k a Q} hu ⟨h1, h2, as, r⟩ h => hash_wp 6 k (.ref a) as A s Q E h2 h1 r (by omega) h,
  eqBool := fun {A E s x y a b Q} hu ⟨h1, h2, as, r1⟩ ⟨h3, h4, bs, r2⟩ h => eqBool_key hu h1 h3 h2 r1 r2 (by
    have : PyData.eqv x y = decide (x = y) := by
      by_cases e : x = y
      · subst e; rw [decide_eq_true rfl]; exact eqv_key_refl x h1
      · rw [decide_eq_false e]
        cases q : PyData.eqv x y with
        | false => rfl
        | true => exact absurd (eqv_key x y h1 h3 q) e
    rw [this]; exact h),
  quiet := fun {A E s k a Q} ⟨h1, h2, as, r⟩ h => quiet_wp 8 k (.ref a) as A s Q E (by omega) h1 r h }
end Ev
set_option maxRecDepth 10000
namespace Ev
open PySem PySem.W PySem.Spec PySem.Calls PyProof.Rows PySem.SeqAt
variable {C : Cx} {n : Nat} {sc : Scope} {A : Around} {env : Env} {base : Fz} {low : Fz} {F F' : Fz} {s s' : Shared} {σ : St}
noncomputable def findK : List (PyData × PyData) → PyData → Option Nat
  | [], _ => none
  | kv :: r, k => if PyData.eqv kv.1 k then some 0 else (findK r k).map (· + 1)
noncomputable def lookK : List (PyData × PyData) → PyData → Option PyData
  | [], _ => none
  | kv :: r, k => if PyData.eqv kv.1 k then some kv.2 else lookK r k
noncomputable def setK : List (PyData × PyData) → PyData → PyData → List (PyData × PyData)
  | [], k, d => [(k, d)]
  | kv :: r, k, d => if PyData.eqv kv.1 k then (kv.1, d) :: r else kv :: setK r k d
noncomputable def okKey (kvs : List (PyData × PyData)) (k : PyData) : Bool := keyOk k && decide (k.depth ≤ 6) && match kvs with
  | [] => (kindK k).isSome
  | kv :: _ => kindK kv.1 == kindK k
theorem okKey_spec {kd : Bool} {es : List DictEntry} {kvs : List (PyData × PyData)} {H : PyData → Int} {k : PyData} (r : RD H F kd es kvs) (h : okKey kvs k = true) : keyOk k = true ∧ k.depth ≤ 6 ∧ ∃ kd', kindK k = some kd' ∧ RD H F kd' es kvs := by
  unfold okKey at h
  simp only [Bool.and_eq_true, decide_eq_true_eq] at h
  obtain ⟨⟨h1, h2⟩, h3⟩ := h
  refine ⟨h1, h2, ?_⟩
  cases r with
  | nil =>
    obtain ⟨x, hx⟩ := Option.isSome_iff_exists.mp h3
    exact ⟨x, hx, .nil⟩
  | cons a b c d e f g =>
    have h3' := eq_of_beq h3
    dsimp only at h3'
    exact ⟨kd, h3'.symm.trans b, .cons a b c d e f g⟩
theorem findK_some {k : PyData} : ∀ {kvs : List (PyData × PyData)} {j : Nat}, findK kvs k = some j → ∃ kv, kvs[j]? = some kv ∧ PyData.eqv kv.1 k = true ∧ lookK kvs k = some kv.2
  | [], _, h => by (first | exact ns h | exact nb h | obtain rfl := si h | cases h)
  | kv :: r, j, h => by
    have h : (if PyData.eqv _ k = true then some 0 else (findK _ k).map (· + 1)) = _ := h
    by_cases e : PyData.eqv kv.1 k = true
    · rw [if_pos e] at h; (first | exact ns h | exact nb h | obtain rfl := si h | cases h)
      exact ⟨kv, rfl, e, by simp [lookK, e]⟩
    · rw [if_neg e] at h
      cases q : findK r k with
      | none => rw [q] at h; (first | exact ns h | exact nb h | obtain rfl := si h | cases h)
      | some i =>
        rw [q] at h; (first | exact ns h | exact nb h | obtain rfl := si h | cases h)
        obtain ⟨kv', h1, h2, h3⟩ := findK_some q
        exact ⟨kv', by simpa using h1, h2, by simp [lookK, e, h3]⟩
theorem findK_none {k : PyData} : ∀ {kvs : List (PyData × PyData)}, findK kvs k = none → lookK kvs k = none ∧ (∀ kv ∈ kvs, PyData.eqv kv.1 k = false) ∧ ∀ d, setK kvs k d = kvs ++ [(k, d)]
  | [], _ => ⟨rfl, (fun _ h => by (first | exact ns h | exact nb h | obtain rfl := si h | cases h)), fun _ => rfl⟩
  | kv :: r, h => by
    have h : (if PyData.eqv _ k = true then some 0 else (findK _ k).map (· + 1)) = _ := h
    by_cases e : PyData.eqv kv.1 k = true
    · rw [if_pos e] at h; (first | exact ns h | exact nb h | obtain rfl := si h | cases h)
    · rw [if_neg e] at h
      cases q : findK r k with
      | some i => rw [q] at h; (first | exact ns h | exact nb h | obtain rfl := si h | cases h)
      | none =>
        obtain ⟨h1, h2, h3⟩ := findK_none q
        refine ⟨by simp [lookK, e, h1], fun kv' hm => ?_, fun d => by simp [setK, e, h3]⟩
        rcases List.mem_cons.mp hm with rfl | hm
        · simpa using e
        · exact h2 kv' hm
theorem RD.key {H : PyData → Int} {kd : Bool} : ∀ {es : List DictEntry} {kvs : List (PyData × PyData)}, RD H F kd es kvs → ∀ kv ∈ kvs, keyOk kv.1 = true ∧ kindK kv.1 = some kd ∧ kv.1.depth ≤ 6 := fun {_ _} r =>
  RD.ind (P := fun _ kvs => ∀ kv ∈ kvs, keyOk kv.1 = true ∧ kindK kv.1 = some kd ∧ kv.1.depth ≤ 6) (fun _ h => nomatch h) (fun _ b c d _ _ _ ih kv h => by
    rcases List.mem_cons.mp h with rfl | h
    · exact ⟨c, b, d⟩
    · exact ih kv h) r
theorem RD.getAt {H : PyData → Int} {kd : Bool} : ∀ {es : List DictEntry} {kvs : List (PyData × PyData)}, RD H F kd es kvs → ∀ {j : Nat} {kv}, kvs[j]? = some kv → ∃ e, es[j]? = some e ∧ R H F e.key kv.1 ∧ R H F e.val kv.2 ∧ e.hash = H kv.1 := fun {_ _} r {j kv} h =>
  RD.ind (P := fun es kvs => ∀ (j : Nat) (kv : PyData × PyData), kvs[j]? = some kv → ∃ e, es[j]? = some e ∧ R H F e.key kv.1 ∧ R H F e.val kv.2 ∧ e.hash = H kv.1) (fun _ _ h => nomatch h) (fun a _ _ _ x y _ ih j _ h => by
    cases j with
    | zero => (first | exact ns h | exact nb h | obtain rfl := si h | cases h); exact ⟨_, rfl, x, y, a⟩
    | succ j => exact ih j _ h) r j kv h
theorem int_find {prog : Program} {w : World} {k : Int} {H : PyData → Int} : ∀ {es : List DictEntry} {kvs : List (PyData × PyData)}, RD H F true es kvs → es.findIdx? (fun e => (intKind prog w).is k e.key) = findK kvs (.int k)
  | _, _, .nil => rfl
  | _, _, .cons (e := e) (k := k') a b c d x y r => by
    cases k' with
    | int i =>
      obtain ⟨t, ht⟩ := x.toInt
      have e1 : (intKind prog w).is k e.key = PyData.eqv (.int i) (.int k) := by rw [ht]; rfl
      rw [List.findIdx?_cons, e1, int_find r]; rfl
    | _ => cases b
theorem tup_rows {prog : Program} {w : World} {H : PyData → Int} (hH : ∀ d, H d = hashK w d) {h : Heap} (hs : Sat F h) : ∀ {es : List DictEntry} {kvs : List (PyData × PyData)}, RD H F false es kvs →
    ∃ xs : List (PyData × Addr × Value), es = xs.map (@entryOfKey prog w PyData decPy (keyKind prog w)) ∧ (∀ x ∈ xs, IsKeyA h x.1 x.2.1) ∧ xs.map (·.1) = kvs.map (·.1)
  | _, _, .nil => ⟨[], rfl, (fun _ h => by (first | exact ns h | exact nb h | obtain rfl := si h | cases h)), rfl⟩
  | _, _, .cons (e := e) (k := k) (d := d) a b c dp x y r => by
    obtain ⟨xs, h1, h2, h3⟩ := tup_rows hH hs r
    cases k with
    | tuple ks =>
      obtain ⟨as, q⟩ := x.reads hs
      obtain ⟨ka, o, vs, m, bs, he, _⟩ := reads_tuple q
      rw [he] at q
      refine ⟨(.tuple ks, ka, e.val) :: xs, ?_, ?_, by simp [h3]⟩
      · rw [List.map_cons, ← h1]
        congr 1
        obtain ⟨eh, ek, ev⟩ := e
        simp only at a he
        subst he
        rw [a, hH]
        rfl
      · intro z hz
        rcases List.mem_cons.mp hz with rfl | hz
        · exact ⟨c, dp, as, q⟩
        · exact h2 z hz
    | _ => cases b
theorem find_wp {d : Addr} {o : Obj} {es : Array DictEntry} {m : Nat} {kvs : List (PyData × PyData)} {key : Value} {k : PyData} {kd : Bool} {Q : Option Nat → Shared → Prop} {E : Value → Shared → Prop} (hH : ∀ d, C.H d = hashK C.w d) (hu : A.units + 100 < cLine) (hs : Sat F s.heap)
    (ho : s.heap.get? d = some o) (hd : o.data = .dict es m) (r : RD C.H F kd es.toList kvs) (hn : (kvs.map (·.1)).Nodup) (rk : R C.H F key k) (h1 : keyOk k = true) (h2 : k.depth ≤ 6) (h3 : kindK k = some kd) (h : Q (findK kvs k) s) :
    wpAny (model C.prog C.w) A (dictFind d key (hashK C.w k)) Q E s := by
  cases kd with
  | true =>
    cases k with
    | int i =>
      obtain ⟨t, rfl⟩ := rk.toInt
      refine wpAny_dictFind_of (knd := intKind C.prog C.w) (k := i) (by show Value.isInt i (.int i t) = true; simp [Value.isInt]) ho hd (fun e he => ?_) ?_
      · obtain ⟨j, hj⟩ := List.mem_iff_getElem?.mp (Array.mem_toList_iff.mpr he)
        have hl : j < kvs.length := by rw [← r.length]; exact (List.getElem?_eq_some_iff.mp hj).1
        have hkv : kvs[j]? = some kvs[j] := List.getElem?_eq_getElem hl
        obtain ⟨e', he', q1, q2, q3⟩ := r.getAt hkv
        rw [hj] at he'; cases he'
        obtain ⟨g1, g2, g3⟩ := r.key _ (List.mem_of_getElem? hkv)
        generalize kvs[j] = kv at q1 q3 g2
        obtain ⟨kk, vv⟩ := kv
        cases kk with
        | int x =>
          obtain ⟨t', ht'⟩ := q1.toInt
          exact ⟨x, by rw [ht']; show Value.isInt x (.int x t') = true; simp [Value.isInt], by rw [q3, hH]; rfl⟩
        | _ => cases g2
      · have : es.findIdx? (fun e => (intKind C.prog C.w).is i e.key) = findK kvs (.int i) := by
          rw [← int_find (prog := C.prog) (w := C.w) r]
          exact List.findIdx?_toArray _ es.toList
        rw [this]; exact h
    | _ => (first | exact ns h3 | exact nb h3 | obtain rfl := si h3 | cases h3)
  | false =>
    cases k with
    | tuple ks =>
      obtain ⟨as, q⟩ := rk.reads hs
      obtain ⟨ka, oa, vs, mm, bs, rfl, _⟩ := reads_tuple q
      obtain ⟨xs, e1, e2, e3⟩ := tup_rows (prog := C.prog) (w := C.w) hH hs r
      refine @wpAny_dictFind_heap C.prog C.w PyData decPy (keyKind C.prog C.w) A _ s d ka o es m xs (.tuple ks) Q hu ⟨h1, h2, as, q⟩ ho hd e1 e2 (e3 ▸ hn) (fun hno => ?_) (fun j p hj => ?_)
      · have : findK kvs (.tuple ks) = none := by
          cases qf : findK kvs (.tuple ks) with
          | none => rfl
          | some j =>
            exfalso
            obtain ⟨kv, f1, f2, _⟩ := findK_some qf
            have hk : kv.1 = .tuple ks := eqv_key _ _ (r.key _ (List.mem_of_getElem? f1)).1 h1 f2
            have : (xs.map (·.1))[j]? = some (.tuple ks) := by rw [e3, List.getElem?_map, f1]; simp [hk]
            rw [List.getElem?_map] at this
            cases hx : xs[j]? with
            | none => rw [hx] at this; cases this
            | some x => rw [hx] at this; simp at this; exact hno j x.2 (by rw [hx, ← this])
        rw [← this]; exact h
      · have hk : (kvs.map (·.1))[j]? = some (.tuple ks) := by rw [← e3, List.getElem?_map, hj]; rfl
        have : findK kvs (.tuple ks) = some j := by
          cases qf : findK kvs (.tuple ks) with
          | none =>
            obtain ⟨_, f2, _⟩ := findK_none qf
            rw [List.getElem?_map] at hk
            cases hx : kvs[j]? with
            | none => rw [hx] at hk; (first | exact ns hk | exact nb hk | obtain rfl := si hk | cases hk)
            | some x =>
              rw [hx] at hk; simp at hk
              have := f2 x (List.mem_of_getElem? hx)
              rw [hk, eqv_key_refl _ h1] at this; cases this
          | some i =>
            obtain ⟨kv, f1, f2, _⟩ := findK_some qf
            have hk' : kv.1 = .tuple ks := eqv_key _ _ (r.key _ (List.mem_of_getElem? f1)).1 h1 f2
            have h' : (kvs.map (·.1))[i]? = some (.tuple ks) := by rw [List.getElem?_map, f1]; simp [hk']
            have := (List.getElem?_inj (List.getElem?_eq_some_iff.mp h').1 hn).mp (h'.trans hk.symm)
            rw [this]
        rw [← this]; exact h
    | _ => (first | exact ns h3 | exact nb h3 | obtain rfl := si h3 | cases h3)
theorem keyHash_wp {key : Value} {k : PyData} {Q : Int → Shared → Prop} {E : Value → Shared → Prop} (hu : A.units + 100 < cLine) (hs : Sat F s.heap) (rk : R C.H F key k) (h1 : keyOk k = true) (h2 : k.depth ≤ 6) (h : ∀ t, Q (hashK C.w k) { s with toks := t }) :
    wpAny (model C.prog C.w) A (pyHash key) Q E s := by
  obtain ⟨as, q⟩ := rk.reads hs
  exact hash_wp 6 k key as A s Q E h2 h1 q (by omega) (h _)
theorem dget_wp {d : Addr} {o : Obj} {es : Array DictEntry} {m : Nat} {kvs : List (PyData × PyData)} {key : Value} {k : PyData} {kd : Bool} {Q : Option Value → Shared → Prop} {E : Value → Shared → Prop} (hH : ∀ d, C.H d = hashK C.w d) (hu : A.units + 100 < cLine) (hs : Sat F s.heap)
    (ho : s.heap.get? d = some o) (hd : o.data = .dict es m) (r : RD C.H F kd es.toList kvs) (hn : (kvs.map (·.1)).Nodup) (rk : R C.H F key k) (hk : okKey kvs k = true)
    (h : ∀ t ov, (match lookK kvs k with | none => ov = none | some x => ∃ v, ov = some v ∧ R C.H F v x) → Q ov { s with toks := t }) : wpAny (model C.prog C.w) A (dictGet d key) Q E s := by
  obtain ⟨h1, h2, kd', h3, r⟩ := okKey_spec r hk
  unfold dictGet
  refine wpAny_holding ?_
  refine wpAny_bind (keyHash_wp hu hs rk h1 h2 fun t => wpAny_bind (find_wp (s := { s with toks := t }) hH hu hs ho hd r hn rk h1 h2 h3 ?_))
  cases hf : findK kvs k with
  | none =>
    refine wpAny_pure (h t none ?_)
    rw [(findK_none hf).1]
  | some j =>
    obtain ⟨kv, f1, f2, f3⟩ := findK_some hf
    obtain ⟨e, g1, g2, g3, g4⟩ := r.getAt f1
    refine wpAny_bind (wpAny_dictEntries (s := { s with toks := t }) ho hd (wpAny_pure (h t _ ?_)))
    rw [f3]
    refine ⟨e.val, ?_, g3⟩
    rw [← Array.getElem?_toList, g1]; rfl
theorem RD.modify {H : PyData → Int} {kd : Bool} {k d : PyData} {v : Value} (rv : R H F v d) : ∀ {es : List DictEntry} {kvs : List (PyData × PyData)}, RD H F kd es kvs → ∀ {j}, findK kvs k = some j → RD H F kd (es.modify j fun e => { e with val := v }) (setK kvs k d) ∧ (setK kvs k d).map (·.1) = kvs.map (·.1) := fun {_ _} r {j} h =>
  RD.ind (P := fun es kvs => ∀ j, findK kvs k = some j → RD H F kd (es.modify j fun e => { e with val := v }) (setK kvs k d) ∧ (setK kvs k d).map (·.1) = kvs.map (·.1)) (fun _ h => nomatch h) (fun {_ _ k' d' _} a b c dp x y r ih j h => by
    have h : (if PyData.eqv _ k = true then some 0 else (findK _ k).map (· + 1)) = _ := h
    by_cases e : PyData.eqv k' k = true
    · rw [if_pos e] at h; (first | exact ns h | exact nb h | obtain rfl := si h | cases h)
      simp only [setK, if_pos e, List.modify_zero_cons]
      exact ⟨.cons a b c dp x rv r, rfl⟩
    · rw [if_neg e] at h
      obtain ⟨i, q, rfl⟩ := Option.map_eq_some_iff.mp h
      obtain ⟨h1, h2⟩ := ih i q
      simp only [setK, if_neg e, List.modify_succ_cons]
      exact ⟨.cons a b c dp x y h1, congrArg (k' :: ·) h2⟩) r j h
theorem RD.push {H : PyData → Int} {kd : Bool} {e : DictEntry} {k d : PyData} (h1 : e.hash = H k) (h2 : kindK k = some kd) (h3 : keyOk k = true) (h4 : k.depth ≤ 6) (h5 : R H F e.key k) (h6 : R H F e.val d) : ∀ {es : List DictEntry} {kvs : List (PyData × PyData)}, RD H F kd es kvs → RD H F kd (es ++ [e]) (kvs ++ [(k, d)]) := fun {_ _} r =>
  RD.ind (P := fun es kvs => RD H F kd (es ++ [e]) (kvs ++ [(k, d)])) (.cons h1 h2 h3 h4 h5 h6 .nil) (fun a b c dp x y _ q => .cons a b c dp x y q) r
theorem dset_wp {d : Addr} {kvs : List (PyData × PyData)} {key v : Value} {k x : PyData} {Q : Unit → Shared → Prop} {E : Value → Shared → Prop} (hH : ∀ d, C.H d = hashK C.w d) (hu : A.units + 100 < cLine) (hs : Sat F s.heap)
    (ho : Ow C.H F s.heap d (.dict kvs)) (rk : R C.H F key k) (rv : R C.H F v x) (hk : okKey kvs k = true) (hz : kvs.length ≤ 1048576)
    (h : ∀ h' t, Ow C.H F h' d (.dict (setK kvs k x)) → Heap.SameBut d s.heap h' → Q () { s with heap := h', toks := t }) : wpAny (model C.prog C.w) A (dictSet d key v) Q E s := by
  cases ho with
  | @dict o es m _ kd hsm ho hc hd r hn =>
    obtain ⟨h1, h2, kd', h3, r⟩ := okKey_spec r hk
    unfold dictSet
    refine wpAny_holding ?_
    refine wpAny_bind (keyHash_wp hu hs rk h1 h2 fun t => ?_)
    unfold dictSetHashed
    refine wpAny_holding ?_
    refine wpAny_bind (find_wp (s := { s with toks := t }) hH hu hs ho hd r hn rk h1 h2 h3 ?_)
    cases hf : findK kvs k with
    | none =>
      obtain ⟨f1, f2, f3⟩ := findK_none hf
      have e : es.size = kvs.length := (Array.length_toList ..).symm.trans r.length
      refine wpAny_bind (wpAny_rule (wpAny_updateDictKeys (s := { s with toks := t }) ho hd (h _ t ?_ (Heap.SameBut.update ..)) (by rw [sizeLine_eq]; omega)))
      refine .dict hsm (Heap.get?_update_self _ ho (Obj.isFreed_of_dict (Obj.data_mapDictKeys hd _))) (hc.mapDictKeys _) (Obj.data_mapDictKeys hd _) ?_ ?_ (kd := kd')
      · rw [f3, Array.toList_push]
        exact r.push (hH k).symm h3 h1 h2 rk rv
      · rw [f3, List.map_append, List.nodup_append]
        refine ⟨hn, by simp, ?_⟩
        intro a ha b hb
        simp only [List.map_cons, List.map_nil, List.mem_singleton] at hb
        subst hb
        rintro rfl
        obtain ⟨kv, hm, rfl⟩ := List.mem_map.mp ha
        have := f2 kv hm
        rw [eqv_key_refl _ h1] at this; cases this
    | some j =>
      obtain ⟨g1, g2⟩ := RD.modify rv r hf
      refine wpAny_bind (wpAny_rule (wpAny_bind (wpAny_updateDict (s := { s with toks := t }) ho hd (wpAny_point (h _ t ?_ (Heap.SameBut.update ..))))))
      refine .dict hsm (Heap.get?_update_self _ ho (Obj.isFreed_of_dict (Obj.data_mapDict hd _))) (hc.mapDict _) (Obj.data_mapDict hd _) ?_ (g2 ▸ hn) (kd := kd')
      rw [Array.toList_modify]; exact g1
end Ev
set_option maxRecDepth 10000
namespace Ev
open PySem PySem.W PySem.Spec PySem.Calls PyProof.Rows PySem.SeqAt
variable {C : Cx} {n : Nat} {sc : Scope} {A : Around} {env : Env} {base : Fz} {low : Fz} {F F' : Fz} {s s' : Shared} {σ : St}
/-! a new object, not yet frozen -/
noncomputable def PostO (C : Cx) (F : Fz) (s : Shared) (d : PyData) : Value → Shared → Prop := fun v s' => ∃ F' a, v = .ref a ∧ Grow F s F' s' ∧ F' a = none ∧ s.heap.get? a = none ∧ Ow C.H F' s'.heap a d
noncomputable def SndO (C : Cx) (n : Nat) (sc : Scope) (e : Expr) (f : St → Option PyData) : Prop :=
  ∀ {A env base low F s σ d}, Ct C n sc A env base low F s σ → f σ = some d → Wp C A (eval e env) (PostO C F s d) s
theorem Grow.freeze {a : Addr} {d : PyData} {H : PyData → Int} (g : Grow F s F' s') (ha : F' a = none) (hf : s.heap.get? a = none) (o : Ow H F' s'.heap a d) : ∃ F'', Grow F s F'' s' ∧ R H F'' (.ref a) d := by
  obtain ⟨ob, hob⟩ := o.there
  have sub : Sub F' (put F' a ob) := put_sub ha
  refine ⟨put F' a ob, ⟨g.keep, g.sub.trans sub, fun b o' q => ?_, fun b o' q => ?_, g.gens, g.drawn, g.os⟩, ?_⟩
  · unfold put at q; by_cases z : b = a
    · subst z; exact .inr hf
    · rw [if_neg z] at q; exact g.fresh b o' q
  · unfold put at q; by_cases z : b = a
    · subst z; rw [if_pos rfl] at q; (first | exact ns q | exact nb q | obtain rfl := si q | cases q); exact hob
    · rw [if_neg z] at q; exact g.sat b o' q
  · cases o with
    | list h1 h4 => rw [hob] at h1; (first | exact ns h1 | exact nb h1 | obtain rfl := si h1 | cases h1); exact .list (put_self ..) (h4.mono sub)
    | dict h0 h1 h2 h3 h4 h5 => rw [hob] at h1; (first | exact ns h1 | exact nb h1 | obtain rfl := si h1 | cases h1); exact .dict h0 (put_self ..) h2 h3 (h4.mono sub) h5
theorem PostO.post {d : PyData} {v : Value} (h : PostO C F s d v s') : Post C F s d v s' := by
  obtain ⟨F', a, rfl, g, ha, hf, o⟩ := h
  exact g.freeze ha hf o
theorem SndO.snd {e : Expr} {f : St → Option PyData} (h : SndO C n sc e f) : Snd C n sc e f := fun X hf => wp_mono (h X hf) fun _ _ q => q.post
theorem wp_newListO {vs : List Value} {ds : List PyData} (hs : Sat F s.heap) (r : RL C.H F vs ds) (hl : okLen ds = true) : Wp C A (newList vs) (PostO C F s (.list ds)) s := by
  have k : ∀ b o, s.heap.get? b = some o → (s.heap.push (seqObj "list" vs.toArray 0)).get? b = some o := fun b o e => Heap.get?_push_of_some _ e
  refine PySem.wpAny_newList ⟨F, _, rfl, .ofKeep hs k rfl rfl rfl, sat_fresh hs (get_size _), get_size _, .list (Heap.get?_push_size _ rfl) r⟩ ?_
  rw [r.length]; exact okLen_le hl
theorem SndO.list {es : List Expr} {fs : Sf} {pos : Pos} (h : SndRs C n sc es fs) : SndO C n sc (.List es pos) (lstC fs) := fun {A env base low F s σ d} X hf => by
  unfold lstC at hf
  cases e : asC fs σ with
  | none => rw [e] at hf; (first | exact ns hf | exact nb hf | obtain rfl := si hf | cases hf)
  | some ds =>
    rw [e] at hf
    dsimp only at hf
    split at hf
    · rename_i hl
      (first | exact ns hf | exact nb hf | obtain rfl := si hf | cases hf)
      rw [arm_eval_List]
      refine wpAny_bind (wpAny_standAt (wpAny_bind (wp_mono (argsR_wp h X e) fun vs s1 ⟨F1, g1, r1⟩ => ?_)))
      refine wp_mono (wp_newListO g1.sat r1 hl) fun v s2 ⟨F2, a, e2, g2, h1, h2, o⟩ => ⟨F2, a, e2, g1.trans g2, h1, ?_, o⟩
      cases q : s.heap.get? a with
      | none => rfl
      | some o' => rw [g1.keep _ _ q] at h2; (first | exact ns h2 | exact nb h2 | obtain rfl := si h2 | cases h2)
    · (first | exact ns hf | exact nb hf | obtain rfl := si hf | cases hf)
/-! dict displays -/
inductive SndDs (C : Cx) (n : Nat) (sc : Scope) : List (Option Expr) → List Expr → List ((St → Option PyData) × (St → Option PyData)) → Prop
  | nil : SndDs C n sc [] [] []
  | cons {k ks v vs f g fs} : Snd C n sc k f → Snd C n sc v g → SndDs C n sc ks vs fs → SndDs C n sc (some k :: ks) (v :: vs) ((f, g) :: fs)
noncomputable def dsC : List ((St → Option PyData) × (St → Option PyData)) → St → Option (List (PyData × PyData))
  | [], _ => some []
  | (f, g) :: fs, σ => match f σ with
    | some k => match g σ with
      | some d => match dsC fs σ with
        | some r => some ((k, d) :: r)
        | none => none
      | none => none
    | none => none
noncomputable def putAllK : List (PyData × PyData) → List (PyData × PyData) → Option (List (PyData × PyData))
  | kvs, [] => some kvs
  | kvs, (k, d) :: r => if okKey kvs k && decide (kvs.length ≤ 1048576) then putAllK (setK kvs k d) r else none
noncomputable def dictC (fs : List ((St → Option PyData) × (St → Option PyData))) : St → Option PyData := fun σ => match dsC fs σ with
  | some r => match putAllK [] r with
    | some kvs => some (.dict kvs)
    | none => none
  | none => none
theorem dsC_cons {f g : St → Option PyData} {fs r} (h : dsC ((f, g) :: fs) σ = some r) : ∃ k d r', f σ = some k ∧ g σ = some d ∧ dsC fs σ = some r' ∧ r = (k, d) :: r' := by
  have h : (match f σ with | some k => (match g σ with | some d => (match dsC fs σ with | some r => some ((k, d) :: r) | none => none) | none => none) | none => none) = some r := h
  cases e1 : f σ with
  | none => rw [e1] at h; (first | exact ns h | exact nb h | obtain rfl := si h | cases h)
  | some k =>
    cases e2 : g σ with
    | none => rw [e1] at h; have h : (match g σ with | some d => (match dsC fs σ with | some r => some ((k, d) :: r) | none => none) | none => none) = some r := h; rw [e2] at h; (first | exact ns h | exact nb h | obtain rfl := si h | cases h)
    | some d =>
      cases e3 : dsC fs σ with
      | none => rw [e1] at h; have h : (match g σ with | some d => (match dsC fs σ with | some r => some ((k, d) :: r) | none => none) | none => none) = some r := h; rw [e2] at h; have h : (match dsC fs σ with | some r => some ((k, d) :: r) | none => none) = some r := h; rw [e3] at h; (first | exact ns h | exact nb h | obtain rfl := si h | cases h)
      | some r' => rw [e1] at h; have h : (match g σ with | some d => (match dsC fs σ with | some r => some ((k, d) :: r) | none => none) | none => none) = some r := h; rw [e2] at h; have h : (match dsC fs σ with | some r => some ((k, d) :: r) | none => none) = some r := h; rw [e3] at h; (first | exact ns h | exact nb h | obtain rfl := si h | cases h); exact ⟨_, _, _, rfl, rfl, rfl, rfl⟩
theorem Grow.fresh_back {a : Addr} (g : Grow F s F' s') (h : s'.heap.get? a = none) : s.heap.get? a = none := by
  cases q : s.heap.get? a with
  | none => rfl
  | some o => rw [g.keep _ _ q] at h; (first | exact ns h | exact nb h | obtain rfl := si h | cases h)
theorem Grow.off {a : Addr} {o : Obj} (g : Grow F s F' s') (h : F a = none) (ho : s.heap.get? a = some o) : F' a = none := by
  cases q : F' a with
  | none => rfl
  | some o' =>
    rcases g.fresh a o' q with e | e
    · rw [h] at e; (first | exact ns e | exact nb e | obtain rfl := si e | cases e)
    · rw [ho] at e; (first | exact ns e | exact nb e | obtain rfl := si e | cases e)
inductive RP (H : PyData → Int) (F : Fz) : List (Value × Value) → List (PyData × PyData) → Prop
  | nil : RP H F [] []
  | cons {k v d e vs ds} : R H F k d → R H F v e → RP H F vs ds → RP H F ((k, v) :: vs) ((d, e) :: ds)
theorem pairs_wp {pos : Pos} : ∀ {ks vs fs}, SndDs C n sc ks vs fs → ∀ {A env base low F s σ r}, Ct C n sc A env base low F s σ → dsC fs σ = some r →
    Wp C A (evalPairs (pairTrees ks vs env pos)) (fun ps s' => ∃ F', Grow F s F' s' ∧ RP C.H F' ps r) s := by
  intro ks vs fs hks
  induction hks with
  | nil => intro _ _ _ _ _ _ _ _ X h; (first | exact ns h | exact nb h | obtain rfl := si h | cases h); exact wpAny_pure ⟨_, .refl X.sat, .nil⟩
  | cons hk hv hr ih =>
    intro _ _ _ _ _ _ _ _ X h
    obtain ⟨k, d, r', e1, e2, e3, rfl⟩ := dsC_cons h
    unfold pairTrees evalPairs
    refine wpAny_bind (wp_mono (hk X e1) fun kv s1 ⟨F1, g1, r1⟩ => wpAny_bind (wpAny_holding ?_))
    have X1 := X.grow g1
    refine wpAny_bind (wp_mono (hv X1 e2) fun vv s2 ⟨F2, g2, r2⟩ => wpAny_bind (wpAny_standAt (wpAny_pure ?_)))
    refine wpAny_bind (wpAny_holding (wp_mono (ih (X1.grow g2) e3) fun ps s3 ⟨F3, g3, r3⟩ => wpAny_pure ?_))
    exact ⟨F3, (g1.trans g2).trans g3, .cons (r1.mono (g2.sub.trans g3.sub)) (r2.mono g3.sub) r3⟩
theorem storeAll_wp (hH : ∀ d, C.H d = hashK C.w d) {d : Addr} (hu : A.units + 100 < cLine) : ∀ {ps : List (Value × Value)} {r kvs kvs' : List (PyData × PyData)} {s : Shared} {Q : PUnit → Shared → Prop}, Sat F s.heap → F d = none → Ow C.H F s.heap d (.dict kvs) → RP C.H F ps r → putAllK kvs r = some kvs' →
    (∀ h' t, Ow C.H F h' d (.dict kvs') → Heap.SameBut d s.heap h' → Q ⟨⟩ { s with heap := h', toks := t }) → Wp C A (storeAll d ps) Q s
  | [], _, kvs, kvs', s, Q, hs, hd, ho, .nil, hp, h => by
    (first | exact ns hp | exact nb hp | obtain rfl := si hp | cases hp)
    unfold storeAll
    rw [List.forIn_nil]
    exact wpAny_pure (h s.heap s.toks ho (.refl ..))
  | (kv, vv) :: ps, _, kvs, kvs', s, Q, hs, hd, ho, .cons (d := k) (e := x) rk rv rr, hp, h => by
    obtain ⟨hc, hp⟩ := ite_some hp
    obtain ⟨hc1, hc2⟩ := Bool.and_eq_true_iff.mp hc
    unfold storeAll
    rw [List.forIn_cons]
    refine wpAny_bind (wpAny_bind (dset_wp hH hu hs ho rk rv hc1 (of_decide_eq_true hc2) fun h' t ho' sb => wpAny_pure ?_))
    have hs' : Sat F h' := fun b o q => (sb.2 b (fun e => by subst e; rw [hd] at q; (first | exact ns q | exact nb q | obtain rfl := si q | cases q))).trans (hs b o q)
    exact storeAll_wp hH hu (s := { s with heap := h', toks := t }) hs' hd ho' rr hp fun h'' t' ho'' sb' => h h'' t' ho'' (sb.trans sb')
theorem dict_new_ow {H : PyData → Int} {a : Addr} {h : Heap} (hsm : (a == sysModules) = false) (ho : h.get? a = some { cls := .type "dict", data := .dict #[] }) : Ow H F h a (.dict []) :=
  .dict (kd := true) hsm ho ⟨rfl, rfl, rfl⟩ rfl .nil List.nodup_nil
theorem SndO.dict0 {pos : Pos} : SndO C n sc (.Dict [] [] pos) (cC (.dict [])) := fun {A env base low F s σ d} X hf => by
  (first | exact ns hf | exact nb hf | obtain rfl := si hf | cases hf)
  rw [eval_Dict_empty]
  refine wpAny_bind (wpAny_standAt ?_)
  unfold newDict
  have k : ∀ b o, s.heap.get? b = some o → (s.heap.push { cls := .type "dict", data := .dict #[] }).get? b = some o := fun b o e => Heap.get?_push_of_some _ e
  refine wpAny_newObj_type ⟨F, _, rfl, .ofKeep X.sat k rfl rfl rfl, sat_fresh X.sat (get_size _), get_size _, ?_⟩
  exact dict_new_ow (X.ok.small X.keep0 (Nat.le_refl _)) (Heap.get?_push_size _ rfl)
theorem SndO.dict {ks : List (Option Expr)} {vs : List Expr} {fs} {pos : Pos} (h : SndDs C n sc ks vs fs) (hall : ks.all (·.isSome) = true := by rfl) (hl : ks.length = vs.length := by rfl) (h0 : ks ≠ [] := by simp) (hlen : ks.length ≤ 15 := by decide) :
    SndO C n sc (.Dict ks vs pos) (dictC fs) := fun {A env base low F s σ d} X hf => by
  unfold dictC at hf
  cases e1 : dsC fs σ with
  | none => rw [e1] at hf; (first | exact ns hf | exact nb hf | obtain rfl := si hf | cases hf)
  | some r =>
    rw [e1] at hf
    dsimp only at hf
    cases e2 : putAllK [] r with
    | none => rw [e2] at hf; (first | exact ns hf | exact nb hf | obtain rfl := si hf | cases hf)
    | some kvs =>
      rw [e2] at hf
      (first | exact ns hf | exact nb hf | obtain rfl := si hf | cases hf)
      have k : ∀ b o, s.heap.get? b = some o → (s.heap.push { cls := .type "dict", data := .dict #[] }).get? b = some o := fun b o e => Heap.get?_push_of_some _ e
      have g0 : Grow F s F { s with heap := s.heap.push { cls := .type "dict", data := .dict #[] } } := .ofKeep X.sat k rfl rfl rfl
      have hd0 : F s.heap.objs.size = none := sat_fresh X.sat (get_size _)
      have hobj : (s.heap.push { cls := .type "dict", data := .dict #[] }).get? s.heap.objs.size = some { cls := .type "dict", data := .dict #[] } := Heap.get?_push_size _ rfl
      refine wpAny_Dict_any hall hl h0 hlen (wp_mono (pairs_wp h (X.grow g0) e1) fun ps s1 ⟨F1, g1, r1⟩ => ?_)
      have hd1 : F1 s.heap.objs.size = none := g1.off hd0 hobj
      have ow1 : Ow C.H F1 s1.heap s.heap.objs.size (.dict []) := dict_new_ow (X.ok.small X.keep0 (Nat.le_refl _)) (g1.keep _ _ hobj)
      refine storeAll_wp X.ok.hH (by have := X.room.in1; omega) g1.sat hd1 ow1 r1 e2 fun h' t ow' sb => ?_
      have g := g0.trans g1
      refine ⟨F1, _, rfl, ⟨fun b o q => (sb.2 b (fun e => by subst e; rw [get_size] at q; (first | exact ns q | exact nb q | obtain rfl := si q | cases q))).trans (g.keep b o q), g.sub, g.fresh, fun b o q => (sb.2 b (fun e => by subst e; rw [hd1] at q; (first | exact ns q | exact nb q | obtain rfl := si q | cases q))).trans (g.sat b o q), g.gens, g.drawn, g.os⟩, hd1, get_size _, ow'⟩
/-! subscripts -/
noncomputable def itemD (d k : PyData) : Option PyData := match d with
  | .list ds => match k with
    | .int i => if 0 ≤ i ∧ i < 1048576 then ds[i.toNat]? else none
    | _ => none
  | .tuple ds => match k with
    | .int i => if 0 ≤ i ∧ i < 1048576 then ds[i.toNat]? else none
    | _ => none
  | .dict kvs => if okKey kvs k then lookK kvs k else none
  | _ => none
noncomputable def subC (f g : St → Option PyData) : St → Option PyData := fun σ => match f σ with
  | some a => match g σ with
    | some b => itemD a b
    | none => none
  | none => none
theorem sub_tail {value slice : Expr} {o i : Value} {T id : String} {Q : Value → Shared → Prop} (hT : s.TypeIs o T)
    (hl : typeLookup (.type T) "__getitem__" = pure (some (.builtin id))) (h : Wp C A (getItem o i) Q s)
    (hs : subscripted slice false o i = operate [o, i] (getItem o i)) : Wp C A (PyProof.Rows.subscriptTail value slice o i) Q s := by
  unfold PyProof.Rows.subscriptTail
  refine wpAny_bind ?_
  rw [getitemInPython_of_ne hT.not_modules]
  refine wpAny_bind (wpAny_specialOf hT hl ?_)
  have fin : Wp C A (subscripted slice false o i) (fun r s₃ => Wp C A (letTemporaryGo value o r >>= fun _ => pure r) Q s₃) s := by
    rw [hs]
    exact wpAny_operating (wpAny_mono h (fun r s₃ h₃ => wpAny_bind (wpAny_letTemporaryGo (wpAny_pure h₃))) fun _ _ x => x)
  first
    | exact wpAny_pure (wpAny_bind fin)
    | exact wpAny_bind (wpAny_pure (wpAny_bind fin))
    | exact wpAny_bind fin
theorem getItem_wp {v i : Value} {d k x : PyData} (hH : ∀ d, C.H d = hashK C.w d) (hu : A.units + 400 < cLine) (hs : Sat F s.heap) (b : Bw C.H F s.heap v d) (r : R C.H F i k) (h : itemD d k = some x) :
    ∃ T id, s.TypeIs v T ∧ typeLookup (.type T) "__getitem__" = pure (some (.builtin id)) ∧ Wp C A (getItem v i) (fun y s' => ∃ t, s' = { s with toks := t } ∧ R C.H F y x) s := by
  cases d with
  | list ds => cases k with
    | int i =>
      obtain ⟨hi, h⟩ := ite_some h
      obtain ⟨a, ws, m, rfl, ha, rl⟩ := b.list hs
      obtain ⟨t, rfl⟩ := r.toInt
      obtain ⟨y, hy, ry⟩ := rl.get h
      refine ⟨"list", _, ⟨_, ha, rfl⟩, list_getitem_lookup, ?_⟩
      exact wpAny_getItem_list (items := ws) ⟨_, ha, rfl, m, rfl⟩ hi.1 (by omega) (by rw [← Array.getElem?_toList]; exact hy) ⟨s.toks, rfl, ry⟩
    | _ => (first | exact ns h | exact nb h | obtain rfl := si h | cases h)
  | tuple ds => cases k with
    | int i =>
      obtain ⟨hi, h⟩ := ite_some h
      obtain ⟨a, ws, m, rfl, ha, rl⟩ := b.tuple hs
      obtain ⟨t, rfl⟩ := r.toInt
      obtain ⟨y, hy, ry⟩ := rl.get h
      have hlt : i.toNat < ws.size := by
        have := (List.getElem?_eq_some_iff.mp hy).1
        simpa using this
      refine ⟨"tuple", _, ⟨_, ha, rfl⟩, slot_tuple_getitem.lookup, ?_⟩
      exact P.getItem_tuple (items := ws) (n := m) ha (by omega) (by omega) (seqIndex_of hi.1 (by omega)) (by rw [← Array.getElem?_toList]; exact hy) ⟨s.toks, rfl, ry⟩
    | _ => (first | exact ns h | exact nb h | obtain rfl := si h | cases h)
  | dict kvs =>
    obtain ⟨hk, h⟩ := ite_some h
    obtain ⟨a, o, es, m, kd, rfl, hsm, ha, hc, hd, rd, hn⟩ := b.dict hs
    have hT : s.TypeIs (.ref a) "dict" := ⟨o, ha, hc.1⟩
    refine ⟨"dict", _, hT, slot_dict_getitem.lookup, ?_⟩
    unfold getItem
    refine wpAny_holding ?_
    refine wpAny_bind (wpAny_sequenceKey hT (by decide) ?_)
    refine wpAny_bind (wpAny_callSpecial?_slot (name := Str.ofString "__getitem__") hT slot_dict_getitem
      (wpAny_call_entry slot_dict_getitem hT entry_dict_getitem ?_ (args_dict_getitem _ _)))
    show wpAny _ _ (dictGet a i >>= _) _ _ s
    refine wpAny_bind (dget_wp hH (by show A.units + 1 + 100 < cLine; omega) hs ha hd rd hn r hk fun t ov hov => ?_)
    rw [h] at hov
    obtain ⟨y, rfl, ry⟩ := hov
    exact wpAny_pure ⟨y, rfl, wpAny_pure ⟨t, rfl, ry⟩⟩
  | _ => (first | exact ns h | exact nb h | obtain rfl := si h | cases h)
theorem Snd.sub {value slice : Expr} {pos : Pos} {f g : St → Option PyData} (hv : SndB C n sc value f) (hi : Snd C n sc slice g)
    (hs : ∀ o i, subscripted slice false o i = operate [o, i] (getItem o i) := by intro _ _; with_unfolding_all rfl) : Snd C n sc (.Subscript value slice pos) (subC f g) := fun {A env base low F s σ d} X hf => by
  unfold subC at hf
  cases e1 : f σ with
  | none => rw [e1] at hf; (first | exact ns hf | exact nb hf | obtain rfl := si hf | cases hf)
  | some a =>
    rw [e1] at hf
    dsimp only at hf
    cases e2 : g σ with
    | none => rw [e2] at hf; (first | exact ns hf | exact nb hf | obtain rfl := si hf | cases hf)
    | some b =>
      rw [e2] at hf
      dsimp only at hf
      refine PyProof.Rows.Subscript_ (wp_mono (hv X e1) fun v s1 ⟨F1, g1, r1⟩ => wp_mono (hi (X.grow g1) e2) fun i s2 ⟨F2, g2, r2⟩ => ?_)
      obtain ⟨T, id, hT, hl, hw⟩ := getItem_wp (A := A) X.ok.hH X.room.in1 g2.sat (r1.grow g2) r2 hf
      refine sub_tail hT hl (wp_mono hw fun y s3 ⟨t, e3, r3⟩ => ?_) (hs _ _)
      subst e3
      exact ⟨F2, (g1.trans g2).trans (.tok g2.sat t), r3⟩
/-! slices of lists -/
noncomputable def takeC (f : St → Option PyData) (k : Nat) : St → Option PyData := fun σ => match f σ with
  | some (.list ds) => if okLen ds then some (.list (ds.take k)) else none
  | _ => none
noncomputable def dropC (f : St → Option PyData) (k : Nat) : St → Option PyData := fun σ => match f σ with
  | some (.list ds) => if okLen ds then some (.list (ds.drop k)) else none
  | _ => none
theorem slice_fin {l : Addr} {items : Array Value} {vl vu vs : Value} {lo hi st : Option Int} {es : List PyData} (hs : Sat F s.heap) (hl : s.heap.IsList l items) (pl : IsPart vl lo) (pu : IsPart vu hi) (ps : IsPart vs st) (h0 : st ≠ some 0)
    (r : RL C.H F (slicePick items lo hi st).toList es) (hz : items.size ≤ sizeLine) :
    Wp C A (getItem (.ref l) (.ref s.heap.objs.size)) (Post C F s (.list es)) { s with heap := s.heap.push { cls := .type "slice", data := .fields #[vl, vu, vs] } } := by
  have k : ∀ b o, s.heap.get? b = some o → (s.heap.push { cls := .type "slice", data := .fields #[vl, vu, vs] }).get? b = some o := fun b o e => Heap.get?_push_of_some _ e
  have g0 : Grow F s F { s with heap := s.heap.push { cls := .type "slice", data := .fields #[vl, vu, vs] } } := .ofKeep hs k rfl rfl rfl
  refine wpAny_getItem_list_slice (s := { s with heap := s.heap.push { cls := .type "slice", data := .fields #[vl, vu, vs] } }) (hl.push _) (Heap.IsSliceOf.new ..) pl pu ps h0 ?_ hz
  refine ⟨_, g0.trans (Grow.push g0.sat (seqObj "list" (slicePick items lo hi st) 0) rfl), .list (put_self ..) ?_⟩
  exact r.mono (put_sub (sat_fresh g0.sat (get_size _)))
theorem const_part {i : Int} {k : Nat} {p : Pos} {Q : Value → Shared → Prop} (h : ∀ t tk, Q (.int i t) { s with toks := tk }) : Wp C A (evalPart (some (.Constant (.int i) k p)) env) Q s := by
  rw [evalPart_some]
  exact wpAny_Constant_int (h _ _)
theorem takeC_some {f : St → Option PyData} {k : Nat} {σ : St} {d : PyData} (h : takeC f k σ = some d) : ∃ ds, f σ = some (.list ds) ∧ okLen ds = true ∧ d = .list (ds.take k) := by
  unfold takeC at h
  rcases e : f σ with _ | x
  · rw [e] at h; (first | exact ns h | exact nb h | obtain rfl := si h | cases h)
  · rw [e] at h
    cases x with
    | list ds => obtain ⟨hl, h⟩ := ite_some h; (first | exact ns h | exact nb h | obtain rfl := si h | cases h); exact ⟨ds, rfl, hl, rfl⟩
    | _ => (first | exact ns h | exact nb h | obtain rfl := si h | cases h)
theorem Snd.take {value : Expr} {i : Int} {k : Nat} {p1 p2 pos : Pos} {f : St → Option PyData} (hv : SndB C n sc value f) (hi : 0 ≤ i) (ht : ∀ o r, letTemporaryGo value o r = pure () := by intro _ _; rfl) :
    Snd C n sc (.Subscript value (.Slice Option.none (some (.Constant (.int i) k p1)) Option.none p2) pos) (takeC f i.toNat) := fun {A env base low F s σ d} X hf => by
  obtain ⟨ds, e1, hl, rfl⟩ := takeC_some hf
  refine wpAny_Subscript_Slice list_getitem_lookup (wp_mono (hv X e1) fun v s1 ⟨F1, g1, r1⟩ => ?_) ht
  obtain ⟨a, ws, m, rfl, ha, rl⟩ := r1.list g1.sat
  refine wpAny_Slice ?_
  (try rw [evalPart_none])
  refine wpAny_pure (const_part fun t tk => ?_)
  (try rw [evalPart_none])
  refine wpAny_pure ?_
  have g2 : Grow F s F1 { s1 with toks := tk } := g1.trans (.tok g1.sat tk)
  refine ⟨(Heap.IsList.push (h := s1.heap) ⟨_, ha, rfl, m, rfl⟩ _).typeIs, ?_⟩
  refine wp_mono (slice_fin (s := { s1 with toks := tk }) (es := ds.take i.toNat) g2.sat ⟨_, ha, rfl, m, rfl⟩ .none (.int i t) .none (by simp) ?_ (by rw [rl_arr rl]; exact okLen_le hl)) fun v s3 ⟨F3, g3, r3⟩ => ⟨F3, g2.trans g3, r3⟩
  have := slicePick_upto' ws i.toNat
  rw [Int.toNat_of_nonneg hi] at this
  rw [this]
  exact rl.take _
theorem Snd.drop {value : Expr} {i : Int} {k : Nat} {p1 p2 pos : Pos} {f : St → Option PyData} (hv : SndB C n sc value f) (hi : 0 ≤ i) (ht : ∀ o r, letTemporaryGo value o r = pure () := by intro _ _; rfl) :
    Snd C n sc (.Subscript value (.Slice (some (.Constant (.int i) k p1)) Option.none Option.none p2) pos) (dropC f i.toNat) := fun {A env base low F s σ d} X hf => by
  unfold dropC at hf
  split at hf
  · rename_i ds e1
    split at hf
    · rename_i hl
      (first | exact ns hf | exact nb hf | obtain rfl := si hf | cases hf)
      refine wpAny_Subscript_Slice list_getitem_lookup (wp_mono (hv X e1) fun v s1 ⟨F1, g1, r1⟩ => ?_) ht
      obtain ⟨a, ws, m, rfl, ha, rl⟩ := r1.list g1.sat
      refine wpAny_Slice (const_part fun t tk => ?_)
      (try rw [evalPart_none])
      refine wpAny_pure ?_
      (try rw [evalPart_none])
      refine wpAny_pure ?_
      have g2 : Grow F s F1 { s1 with toks := tk } := g1.trans (.tok g1.sat tk)
      refine ⟨(Heap.IsList.push (h := s1.heap) ⟨_, ha, rfl, m, rfl⟩ _).typeIs, ?_⟩
      refine wp_mono (slice_fin (s := { s1 with toks := tk }) (es := ds.drop i.toNat) g2.sat ⟨_, ha, rfl, m, rfl⟩ (.int i t) .none .none (by simp) ?_ (by rw [rl_arr rl]; exact okLen_le hl)) fun v s3 ⟨F3, g3, r3⟩ => ⟨F3, g2.trans g3, r3⟩
      have := slicePick_from' ws i.toNat
      rw [Int.toNat_of_nonneg hi] at this
      rw [this]
      exact rl.drop _
    · (first | exact ns hf | exact nb hf | obtain rfl := si hf | cases hf)
  · (first | exact ns hf | exact nb hf | obtain rfl := si hf | cases hf)
end Ev
set_option maxRecDepth 10000
namespace Ev
open PySem PySem.W PySem.Spec PySem.Calls PyProof.Rows PySem.SeqAt
/-! dicts as they lie: their views and iterators, whatever the keys -/
structure Raw (h : Heap) (d : Addr) (es : Array DictEntry) (ep : Nat) : Prop where
  ob : ∃ o, h.get? d = some o ∧ o.ExactDict ∧ o.data = .dict es ep
theorem Raw.typeIs {s : Shared} {d : Addr} {es : Array DictEntry} {ep : Nat} (x : Raw s.heap d es ep) : s.TypeIs (.ref d) "dict" := let ⟨o, a, c, _⟩ := x.ob; ⟨o, a, c.1⟩
section
variable {prog : Program} {w : World} {A : Around} {E : Value → Shared → Prop} {s : Shared} {d : Addr} {es : Array DictEntry} {ep : Nat}
theorem raw_values_call (hd : (d == sysModules) = false) (x : Raw s.heap d es ep) {Q : Value → Shared → Prop}
    (h : Q (.ref s.heap.objs.size) { s with heap := s.heap.push { cls := .type "dict_values", data := .fields #[.ref d] } }) : wpAny (model prog w) A (call (.builtin "dict.values") [.ref d]) Q E s := by
  refine wpAny_call_entry F.slot_dict_values x.typeIs F.entry_dict_values ?_ (F.args_dict_values_1 _)
  unfold Builtin.«dict.values»
  refine wpAny_bind ?_
  unfold Builtin.Dict.noArgs
  refine wpAny_bind (wpAny_notOrdered_dict x.typeIs ?_)
  show wpAny _ _ (pure d) _ _ s
  refine wpAny_pure ?_
  show wpAny _ _ (Builtin.Dict.showsAll d >>= _) _ _ s
  unfold Builtin.Dict.showsAll
  first | with_reducible refine w_neg (by rw [hd]; exact Bool.false_ne_true) ?_ | with_reducible refine wb_neg (by rw [hd]; exact Bool.false_ne_true) ?_ | rw [if_neg (by rw [hd]; exact Bool.false_ne_true)]
  refine wpAny_bind (wpAny_pure ?_)
  exact wpAny_bind (wpAny_newObj_type (wpAny_pure ⟨_, rfl, h⟩))
theorem raw_items_call (hd : (d == sysModules) = false) (x : Raw s.heap d es ep) {Q : Value → Shared → Prop}
    (h : Q (.ref s.heap.objs.size) { s with heap := s.heap.push { cls := .type "dict_items", data := .fields #[.ref d] } }) : wpAny (model prog w) A (call (.builtin "dict.items") [.ref d]) Q E s := by
  refine wpAny_call_entry F.slot_dict_items x.typeIs F.entry_dict_items ?_ (F.args_dict_items_1 _)
  unfold Builtin.«dict.items»
  refine wpAny_bind ?_
  unfold Builtin.Dict.noArgs
  refine wpAny_bind (wpAny_notOrdered_dict x.typeIs ?_)
  show wpAny _ _ (pure d) _ _ s
  refine wpAny_pure ?_
  show wpAny _ _ (Builtin.Dict.showsAll d >>= _) _ _ s
  unfold Builtin.Dict.showsAll
  first | with_reducible refine w_neg (by rw [hd]; exact Bool.false_ne_true) ?_ | with_reducible refine wb_neg (by rw [hd]; exact Bool.false_ne_true) ?_ | rw [if_neg (by rw [hd]; exact Bool.false_ne_true)]
  refine wpAny_bind (wpAny_pure ?_)
  exact wpAny_bind (wpAny_newObj_type (wpAny_pure ⟨_, rfl, h⟩))
theorem raw_values_iter {v : Addr} {Q : Value → Shared → Prop} (hv : s.heap.IsValuesView v d) (x : Raw s.heap d es ep)
    (hQ : Q (.ref s.heap.objs.size) { s with heap := s.heap.push { cls := .type "dict_valueiterator", data := .fields #[.ref d, .int 0 0, .int es.size 0, .int ep 0] } }) :
    wpAny (model prog w) A (pyIter (.ref v)) Q E s := by
  obtain ⟨ov, hov, hcv, hdv⟩ := id hv
  obtain ⟨o, ho, hc, hdat⟩ := x.ob
  refine wpAny_pyIter_slot hv.typeIs F.slot_dict_values_iter (wpAny_call_entry F.slot_dict_values_iter hv.typeIs F.entry_dict_values_iter ?_ (F.args_dict_values_iter_1 _))
  unfold Builtin.«dict_values.__iter__»
  refine wpAny_bind (wpAny_pure ?_)
  refine wpAny_bind ?_
  unfold Builtin.Dict_items.dictOf
  refine wpAny_bind (wpAny_field hov hdv (x := .ref d) rfl (wpAny_pure ?_))
  refine wpAny_bind ?_
  unfold Builtin.Dict_items.newIterator
  refine wpAny_bind (wpAny_dictEntries ho hdat ?_)
  refine wpAny_bind (wpAny_dictEpoch ho hdat ?_)
  have hown : Builtin.Dict_items.ownsTuple "dict_valueiterator" = false := by decide
  simp only [hown, Bool.false_eq_true, if_false]
  refine wpAny_newObj_type (wpAny_pure ⟨_, rfl, "dict_valueiterator", _, ⟨_, Heap.get?_push_size _ rfl, rfl⟩, F.slot_dict_valueiterator_next.lookup, ?_⟩)
    (by first | size_fits | (simp only [sizeOk, List.size_toArray, List.length_append, List.length_cons, List.length_nil, sizeLine_eq]; omega))
  simpa [rawInt] using hQ
theorem raw_items_iter {v : Addr} {Q : Value → Shared → Prop} (hv : s.heap.IsItemsView v d) (x : Raw s.heap d es ep)
    (hQ : Q (.ref s.heap.objs.size) { s with heap := s.heap.push { cls := .type "dict_itemiterator", data := .fields #[.none, .bool false, .ref d, .int 0 0, .int es.size 0, .int ep 0, .none, .none] } }) :
    wpAny (model prog w) A (pyIter (.ref v)) Q E s := by
  obtain ⟨ov, hov, hcv, hdv⟩ := id hv
  obtain ⟨o, ho, hc, hdat⟩ := x.ob
  refine wpAny_pyIter_slot hv.typeIs F.slot_dict_items_iter (wpAny_call_entry F.slot_dict_items_iter hv.typeIs F.entry_dict_items_iter ?_ (F.args_dict_items_iter_1 _))
  unfold Builtin.«dict_items.__iter__»
  refine wpAny_bind (wpAny_pure ?_)
  refine wpAny_bind ?_
  unfold Builtin.Dict_items.dictOf
  refine wpAny_bind (wpAny_field hov hdv (x := .ref d) rfl (wpAny_pure ?_))
  refine wpAny_bind ?_
  unfold Builtin.Dict_items.newIterator
  refine wpAny_bind (wpAny_dictEntries ho hdat ?_)
  refine wpAny_bind (wpAny_dictEpoch ho hdat ?_)
  have hown : Builtin.Dict_items.ownsTuple "dict_itemiterator" = true := by decide
  simp only [hown, if_true]
  refine wpAny_newObj_type (wpAny_pure ⟨_, rfl, "dict_itemiterator", _, ⟨_, Heap.get?_push_size _ rfl, rfl⟩, F.slot_dict_itemiterator_next.lookup, ?_⟩)
    (by simp only [sizeOk, Builtin.Dict_items.ownedTupleFields, List.size_toArray, List.length_append, List.length_cons, List.length_nil, sizeLine_eq]; omega)
  simpa [rawInt, Builtin.Dict_items.ownedTupleFields] using hQ
theorem raw_values_next {it : Addr} {i : Nat} {e : DictEntry} {Q : Option Value → Shared → Prop} (hit : s.heap.IsValIter it d i es.size ep) (x : Raw s.heap d es ep) (hx : es[i]? = some e)
    (hQ : ∀ h', h'.IsValIter it d (i + 1) es.size ep → Heap.SameBut it s.heap h' → Q (some e.val) { s with heap := h' }) : wpAny (model prog w) A (pyNext (.ref it)) Q E s := by
  obtain ⟨o, ho, hc, hd⟩ := id hit
  obtain ⟨od, hod, hcd, hdd⟩ := x.ob
  unfold pyNext
  refine wpAny_bind (wpAny_attempt (wpAny_callSpecial?_slot (name := Str.ofString "__next__") hit.typeIs F.slot_dict_valueiterator_next
    (wpAny_call_entry F.slot_dict_valueiterator_next hit.typeIs F.entry_dict_valueiterator_next ?_ (F.args_dict_valueiterator_next_1 _))))
  refine wpAny_bind (wpAny_pure ?_)
  refine wpAny_bind ?_
  refine wpAny_bind ?_
  first | refine wpAny_bind (wpAny_typeNameOfWhole_valiter hit.typeIs (wpAny_pure ?_)) | refine wpAny_bind (wpAny_typeNameOf_valiter hit.typeIs (wpAny_pure ?_))
  refine wpAny_bind (wpAny_fieldsOf ho hd ?_)
  have hown : Builtin.Dict_items.ownsTuple "dict_valueiterator" = false := by decide
  rw [hown, if_neg Bool.false_ne_true]
  show wpAny _ _ (if (Value.ref d == Value.none) = true then _ else _) _ _ s
  first | with_reducible refine w_neg (show ¬ ((Value.ref d == Value.none) = true) from Bool.false_ne_true) ?_ | with_reducible refine wb_neg (show ¬ ((Value.ref d == Value.none) = true) from Bool.false_ne_true) ?_ | rw [if_neg (show ¬ ((Value.ref d == Value.none) = true) from Bool.false_ne_true)]
  refine wpAny_bind (wpAny_pure ?_)
  refine wpAny_bind (wpAny_dictEntries hod hdd ?_)
  first | with_reducible refine w_neg (by simp) ?_ | with_reducible refine wb_neg (by simp) ?_ | rw [if_neg (by simp)]
  refine wpAny_bind (wpAny_pure ?_)
  refine wpAny_bind (wpAny_dictEpoch hod hdd ?_)
  first | with_reducible refine w_neg (by simp) ?_ | with_reducible refine wb_neg (by simp) ?_ | rw [if_neg (by simp)]
  refine wpAny_pure ?_
  dsimp only
  rw [if_neg (show ¬ ((i : Int) < 0) from by omega), Int.toNat_natCast, hx]
  dsimp only
  refine wpAny_bind ?_
  first | refine wpAny_bind (wpAny_typeNameOfWhole_valiter hit.typeIs (wpAny_pure ?_)) | refine wpAny_bind (wpAny_typeNameOf_valiter hit.typeIs (wpAny_pure ?_))
  refine wpAny_bind (wpAny_isOneOf_valiter hit.typeIs ?_)
  show wpAny _ _ (setField (.ref it) 1 (rawInt ((i : Int) + 1)) >>= _) _ _ s
  refine wpAny_bind (wpAny_setField ho hd (by simp) ?_)
  have hit' : (s.heap.update it (Obj.mapFields (·.setIfInBounds 1 (rawInt ((i : Int) + 1))))).IsValIter it d (i + 1) es.size ep :=
    ⟨_, Heap.get?_update_self _ ho (Obj.isFreed_of_fields (Obj.data_mapFields hd _)), (Obj.cls_mapFields ..).trans hc, by rw [Obj.data_mapFields hd]; simp [rawInt]⟩
  refine wpAny_bind (wpAny_holding ?_)
  refine wpAny_bind (wpAny_isOneOf_valiter (s := { s with heap := s.heap.update it (Obj.mapFields (·.setIfInBounds 1 (rawInt ((i : Int) + 1)))) }) hit'.typeIs ?_)
  refine wpAny_bind (wpAny_isOneOf_valiter (s := { s with heap := s.heap.update it (Obj.mapFields (·.setIfInBounds 1 (rawInt ((i : Int) + 1)))) }) hit'.typeIs ?_)
  show wpAny _ _ (pure e.val) _ _ _
  exact wpAny_pure (wpAny_pure ⟨_, rfl, wpAny_pure (hQ _ hit' (Heap.SameBut.update ..))⟩)
theorem raw_values_end {it : Addr} {i : Nat} {Q : Option Value → Shared → Prop} (hh : A.handled = none) (hit : s.heap.IsValIter it d i es.size ep) (x : Raw s.heap d es ep) (hx : es[i]? = none)
    (hQ : ∀ h', Heap.ExtBut it s.heap h' → Q none { s with heap := h' }) : wpAny (model prog w) A (pyNext (.ref it)) Q E s := by
  obtain ⟨o, ho, hc, hd⟩ := id hit
  obtain ⟨od, hod, hcd, hdd⟩ := x.ob
  unfold pyNext
  refine wpAny_bind (wpAny_attempt (wpAny_callSpecial?_slot (name := Str.ofString "__next__") hit.typeIs F.slot_dict_valueiterator_next
    (wpAny_call_entry F.slot_dict_valueiterator_next hit.typeIs F.entry_dict_valueiterator_next ?_ (F.args_dict_valueiterator_next_1 _))))
  refine wpAny_bind (wpAny_pure ?_)
  refine wpAny_bind ?_
  refine wpAny_bind ?_
  first | refine wpAny_bind (wpAny_typeNameOfWhole_valiter hit.typeIs (wpAny_pure ?_)) | refine wpAny_bind (wpAny_typeNameOf_valiter hit.typeIs (wpAny_pure ?_))
  refine wpAny_bind (wpAny_fieldsOf ho hd ?_)
  have hown : Builtin.Dict_items.ownsTuple "dict_valueiterator" = false := by decide
  rw [hown, if_neg Bool.false_ne_true]
  show wpAny _ _ (if (Value.ref d == Value.none) = true then _ else _) _ _ s
  first | with_reducible refine w_neg (show ¬ ((Value.ref d == Value.none) = true) from Bool.false_ne_true) ?_ | with_reducible refine wb_neg (show ¬ ((Value.ref d == Value.none) = true) from Bool.false_ne_true) ?_ | rw [if_neg (show ¬ ((Value.ref d == Value.none) = true) from Bool.false_ne_true)]
  refine wpAny_bind (wpAny_pure ?_)
  refine wpAny_bind (wpAny_dictEntries hod hdd ?_)
  first | with_reducible refine w_neg (by simp) ?_ | with_reducible refine wb_neg (by simp) ?_ | rw [if_neg (by simp)]
  refine wpAny_bind (wpAny_pure ?_)
  refine wpAny_bind (wpAny_dictEpoch hod hdd ?_)
  first | with_reducible refine w_neg (by simp) ?_ | with_reducible refine wb_neg (by simp) ?_ | rw [if_neg (by simp)]
  refine wpAny_pure ?_
  dsimp only
  rw [if_neg (show ¬ ((i : Int) < 0) from by omega), Int.toNat_natCast, hx]
  dsimp only
  refine wpAny_bind ?_
  first | refine wpAny_bind (wpAny_typeNameOfWhole_valiter hit.typeIs (wpAny_pure ?_)) | refine wpAny_bind (wpAny_typeNameOf_valiter hit.typeIs (wpAny_pure ?_))
  show wpAny _ _ (setField (.ref it) 0 .none >>= _) _ _ s
  refine wpAny_bind (wpAny_setField ho hd (by simp) ?_)
  show wpAny _ _ (newExc (.type "StopIteration") [] >>= _) _ _ _
  refine wpAny_bind ?_
  unfold newExc newTuple
  refine wpAny_bind (wpAny_newObj_type ?_ (by size_fits))
  refine wpAny_bind (m := firstArgMember _ _) (wpAny_of_eq (a := Value.none) (by first | rfl | (simp only [firstArgMember]; rfl)) ?_)
  refine wpAny_newObj_type ?_ (by size_fits)
  unfold raiseNew
  refine wpAny_bind (wpAny_handled ?_)
  rw [show A.in1.handled = none from hh]
  refine wpAny_bind (wpAny_pure (wpAny_throw ?_))
  refine wpAny_bind (wpAny_isInstance (T := "StopIteration") (b := true) ⟨_, Heap.get?_push_size _ rfl, rfl⟩ isSubtype_stop ?_)
  exact wpAny_pure (hQ _ (((Heap.SameBut.update ..).extBut.push _).push _))
theorem raw_items_end {it : Addr} {i : Nat} {ok ov : Value} {Q : Option Value → Shared → Prop} (hh : A.handled = none) (hit : IsItemIter s.heap it d i es.size ep ok ov) (x : Raw s.heap d es ep) (hx : es[i]? = none)
    (hQ : ∀ h', Heap.ExtBut it s.heap h' → Q none { s with heap := h' }) : wpAny (model prog w) A (pyNext (.ref it)) Q E s := by
  obtain ⟨od, hod, hcd, hdd⟩ := x.ob
  have hT : s.TypeIs (.ref it) "dict_itemiterator" := ⟨_, hit, rfl⟩
  unfold pyNext
  refine wpAny_bind (wpAny_attempt (wpAny_callSpecial?_slot (name := Str.ofString "__next__") hT F.slot_dict_itemiterator_next
    (wpAny_call_entry F.slot_dict_itemiterator_next hT F.entry_dict_itemiterator_next ?_ (F.args_dict_itemiterator_next_1 _))))
  refine wpAny_bind (wpAny_pure ?_)
  refine wpAny_bind ?_
  refine wpAny_bind ?_
  first | refine wpAny_bind (wpAny_typeNameOfWhole_itemiter hT (wpAny_pure ?_)) | refine wpAny_bind (wpAny_typeNameOf_itemiter hT (wpAny_pure ?_))
  refine wpAny_bind (wpAny_fieldsOf hit rfl ?_)
  have hown : Builtin.Dict_items.ownsTuple "dict_itemiterator" = true := by decide
  rw [hown, if_pos (rfl : true = true)]
  show wpAny _ _ (if (Value.ref d == Value.none) = true then _ else _) _ _ s
  first | with_reducible refine w_neg (show ¬ ((Value.ref d == Value.none) = true) from Bool.false_ne_true) ?_ | with_reducible refine wb_neg (show ¬ ((Value.ref d == Value.none) = true) from Bool.false_ne_true) ?_ | rw [if_neg (show ¬ ((Value.ref d == Value.none) = true) from Bool.false_ne_true)]
  refine wpAny_bind (wpAny_pure ?_)
  refine wpAny_bind (wpAny_dictEntries hod hdd ?_)
  first | with_reducible refine w_neg (by simp) ?_ | with_reducible refine wb_neg (by simp) ?_ | rw [if_neg (by simp)]
  refine wpAny_bind (wpAny_pure ?_)
  refine wpAny_bind (wpAny_dictEpoch hod hdd ?_)
  first | with_reducible refine w_neg (by simp) ?_ | with_reducible refine wb_neg (by simp) ?_ | rw [if_neg (by simp)]
  refine wpAny_pure ?_
  dsimp only
  rw [if_neg (show ¬ ((i : Int) < 0) from by omega), Int.toNat_natCast, hx]
  dsimp only
  refine wpAny_bind ?_
  first | refine wpAny_bind (wpAny_typeNameOfWhole_itemiter hT (wpAny_pure ?_)) | refine wpAny_bind (wpAny_typeNameOf_itemiter hT (wpAny_pure ?_))
  show wpAny _ _ (setField (.ref it) 2 .none >>= _) _ _ s
  refine wpAny_bind (wpAny_setField hit rfl (by simp) ?_)
  show wpAny _ _ (newExc (.type "StopIteration") [] >>= _) _ _ _
  refine wpAny_bind ?_
  unfold newExc newTuple
  refine wpAny_bind (wpAny_newObj_type ?_ (by size_fits))
  refine wpAny_bind (m := firstArgMember _ _) (wpAny_of_eq (a := Value.none) (by first | rfl | (simp only [firstArgMember]; rfl)) ?_)
  refine wpAny_newObj_type ?_ (by size_fits)
  unfold raiseNew
  refine wpAny_bind (wpAny_handled ?_)
  rw [show A.in1.handled = none from hh]
  refine wpAny_bind (wpAny_pure (wpAny_throw ?_))
  refine wpAny_bind (wpAny_isInstance (T := "StopIteration") (b := true) ⟨_, Heap.get?_push_size _ rfl, rfl⟩ isSubtype_stop ?_)
  exact wpAny_pure (hQ _ (((Heap.SameBut.update ..).extBut.push _).push _))
theorem raw_items_next {it : Addr} {i : Nat} {e : DictEntry} {ok ov : Value} {Q : Option Value → Shared → Prop} (hit : IsItemIter s.heap it d i es.size ep ok ov) (x : Raw s.heap d es ep) (hx : es[i]? = some e)
    (hQ : ∀ h', IsItemIterOut h' it d (i + 1) es.size ep e.key e.val s.heap.objs.size → h'.get? s.heap.objs.size = some { cls := .type "tuple", data := .seq #[e.key, e.val] } → h'.objs.size = s.heap.objs.size + 1 →
      (∀ b o, b ≠ it → s.heap.get? b = some o → h'.get? b = some o) → Q (some (.ref s.heap.objs.size)) { s with heap := h' }) : wpAny (model prog w) A (pyNext (.ref it)) Q E s := by
  obtain ⟨hp, g, dr, tk, os⟩ := s
  obtain ⟨od, hod, hcd, hdd⟩ := x.ob
  have hT : Shared.TypeIs ⟨hp, g, dr, tk, os⟩ (.ref it) "dict_itemiterator" := ⟨_, hit, rfl⟩
  unfold pyNext
  refine wpAny_bind (wpAny_attempt (wpAny_callSpecial?_slot (name := Str.ofString "__next__") hT F.slot_dict_itemiterator_next
    (wpAny_call_entry F.slot_dict_itemiterator_next hT F.entry_dict_itemiterator_next ?_ (F.args_dict_itemiterator_next_1 _))))
  refine wpAny_bind (wpAny_pure ?_)
  refine wpAny_bind ?_
  refine wpAny_bind ?_
  first | refine wpAny_bind (wpAny_typeNameOfWhole_itemiter hT (wpAny_pure ?_)) | refine wpAny_bind (wpAny_typeNameOf_itemiter hT (wpAny_pure ?_))
  refine wpAny_bind (wpAny_fieldsOf hit rfl ?_)
  have hown : Builtin.Dict_items.ownsTuple "dict_itemiterator" = true := by decide
  rw [hown, if_pos (rfl : true = true)]
  show wpAny _ _ (if (Value.ref d == Value.none) = true then _ else _) _ _ _
  first | with_reducible refine w_neg (show ¬ ((Value.ref d == Value.none) = true) from Bool.false_ne_true) ?_ | with_reducible refine wb_neg (show ¬ ((Value.ref d == Value.none) = true) from Bool.false_ne_true) ?_ | rw [if_neg (show ¬ ((Value.ref d == Value.none) = true) from Bool.false_ne_true)]
  refine wpAny_bind (wpAny_pure ?_)
  refine wpAny_bind (wpAny_dictEntries hod hdd ?_)
  first | with_reducible refine w_neg (by simp) ?_ | with_reducible refine wb_neg (by simp) ?_ | rw [if_neg (by simp)]
  refine wpAny_bind (wpAny_pure ?_)
  refine wpAny_bind (wpAny_dictEpoch hod hdd ?_)
  first | with_reducible refine w_neg (by simp) ?_ | with_reducible refine wb_neg (by simp) ?_ | rw [if_neg (by simp)]
  refine wpAny_pure ?_
  dsimp only
  rw [if_neg (show ¬ ((i : Int) < 0) from by omega), Int.toNat_natCast, hx]
  dsimp only
  refine wpAny_bind ?_
  first | refine wpAny_bind (wpAny_typeNameOfWhole_itemiter hT (wpAny_pure ?_)) | refine wpAny_bind (wpAny_typeNameOf_itemiter hT (wpAny_pure ?_))
  refine wpAny_bind (wpAny_isOneOf_itemiter hT ?_)
  show wpAny _ _ (setField (.ref it) 3 (rawInt ((i : Int) + 1)) >>= _) _ _ ⟨hp, g, dr, tk, os⟩
  refine wpAny_bind (wpAny_setField_rec hit (by simp) fun h₁ he₁ hs₁ => ?_)
  replace hs₁ : Heap.SameBut it hp h₁ := hs₁
  replace he₁ : IsItemIter h₁ it d (i + 1) es.size ep ok ov := by
    have e : ((i + 1 : Nat) : Int) = (i : Int) + 1 := by omega
    unfold IsItemIter; rw [e]; simpa [rawInt] using he₁
  have hT₁ : Shared.TypeIs ⟨h₁, g, dr, tk, os⟩ (.ref it) "dict_itemiterator" := ⟨_, he₁, rfl⟩
  refine wpAny_bind (wpAny_holding ?_)
  refine wpAny_bind (wpAny_isOneOf_itemiter hT₁ ?_)
  refine wpAny_bind (wpAny_isOneOf_itemiter hT₁ ?_)
  show wpAny _ _ (Builtin.Dict_items.pairFromOwner (.ref it) 6 e.key e.val) _ _ ⟨h₁, g, dr, tk, os⟩
  unfold Builtin.Dict_items.pairFromOwner
  refine wpAny_bind (PySem.wpAny_newTuple ?_)
  have he₂ : IsItemIter (h₁.push { cls := .type "tuple", data := .seq #[e.key, e.val] }) it d (i + 1) es.size ep ok ov := Heap.get?_push_of_some _ he₁
  generalize hh₂ : h₁.push { cls := .type "tuple", data := .seq #[e.key, e.val] } = h₂ at he₂
  have hz₁ : h₁.objs.size = hp.objs.size := hs₁.1
  have hil : it < hp.objs.size := Heap.lt_size hit
  have ht₂ : h₂.get? hp.objs.size = some { cls := .type "tuple", data := .seq #[e.key, e.val] } := by rw [← hh₂, ← hz₁]; exact Heap.get?_push_size _ rfl
  have hz₂ : h₂.objs.size = hp.objs.size + 1 := by rw [← hh₂, Heap.size_push, hz₁]
  have hk₂ : ∀ b o, b ≠ it → hp.get? b = some o → h₂.get? b = some o := fun b o hb q => by rw [← hh₂]; exact Heap.get?_push_of_some _ (hs₁.extBut b o hb q)
  show wpAny _ _ (Builtin.Dict_items.ownedTupleIsFree (.ref it) >>= _) _ _ ⟨h₂, g, dr, tk, os⟩
  rw [hz₁]
  clear hh₂ he₁ hs₁ hT₁ hz₁ h₁
  refine wpAny_bind ?_
  unfold Builtin.Dict_items.ownedTupleIsFree
  refine wpAny_bind (wpAny_field he₂ rfl (x := .none) rfl (wpAny_pure ?_))
  first | with_reducible refine w_pos rfl ?_ | with_reducible refine wb_pos rfl ?_ | rw [if_pos rfl]
  refine wpAny_bind (wpAny_field he₂ rfl (x := ok) rfl ?_)
  refine wpAny_bind (wpAny_field he₂ rfl (x := ov) rfl ?_)
  refine wpAny_bind (wpAny_setField_rec he₂ (by simp) fun h₃ he₃ hs₃ => ?_)
  replace hs₃ : Heap.SameBut it h₂ h₃ := hs₃
  replace he₃ : IsItemIter h₃ it d (i + 1) es.size ep e.key ov := he₃
  refine wpAny_bind (wpAny_setField_rec he₃ (by simp) fun h₄ he₄ hs₄ => ?_)
  replace hs₄ : Heap.SameBut it h₃ h₄ := hs₄
  replace he₄ : IsItemIter h₄ it d (i + 1) es.size ep e.key e.val := he₄
  refine wpAny_bind (wpAny_setField_rec he₄ (by simp) fun h₅ he₅ hs₅ => ?_)
  replace hs₅ : Heap.SameBut it h₄ h₅ := hs₅
  replace he₅ : IsItemIterOut h₅ it d (i + 1) es.size ep e.key e.val hp.objs.size := he₅
  refine wpAny_bind (wpAny_setField_rec he₅ (by simp) fun h₆ he₆ hs₆ => ?_)
  replace hs₆ : Heap.SameBut it h₅ h₆ := hs₆
  replace he₆ : IsItemIterOut h₆ it d (i + 1) es.size ep e.key e.val hp.objs.size := he₆
  refine wpAny_bind (wpAny_letGo (wpAny_pure (wpAny_pure ⟨_, rfl, wpAny_pure (hQ h₆ he₆ ?_ ?_ ?_)⟩)))
  · exact hs₆.extBut _ _ (Nat.ne_of_gt hil) (hs₅.extBut _ _ (Nat.ne_of_gt hil) (hs₄.extBut _ _ (Nat.ne_of_gt hil) (hs₃.extBut _ _ (Nat.ne_of_gt hil) ht₂)))
  · show h₆.objs.size = hp.objs.size + 1
    rw [hs₆.1, hs₅.1, hs₄.1, hs₃.1, hz₂]
  · exact fun b o hb q => hs₆.extBut b o hb (hs₅.extBut b o hb (hs₄.extBut b o hb (hs₃.extBut b o hb (hk₂ b o hb q))))
end
end Ev
set_option maxRecDepth 10000
namespace Ev
open PySem PySem.W PySem.Spec PySem.Calls PyProof.Rows PySem.SeqAt
variable {C : Cx} {n : Nat} {sc : Scope} {A : Around} {env : Env} {base : Fz} {low : Fz} {F F' : Fz} {s s' : Shared} {σ : St}
structure Adv (W : List Addr) (F : Fz) (s : Shared) (F' : Fz) (s' : Shared) : Prop where
  keep : ∀ b o, b ∉ W → s.heap.get? b = some o → s'.heap.get? b = some o
  sub : Sub F F'
  fresh : ∀ a o, F' a = some o → F a = some o ∨ s.heap.get? a = none
  sat : Sat F' s'.heap
  gens : s'.gens = s.gens
  drawn : s'.drawn = s.drawn
  os : s'.os = s.os
structure Itr (C : Cx) (A : Around) (F0 : Fz) (tg : Expr) (D : Fz) (W : List Addr) (I : Addr) (ds : List PyData) (St : Nat → Heap → Prop) : Prop where
  frame : ∀ {i h h'}, St i h → (∀ a ∈ W, ∀ o, h.get? a = some o → h'.get? a = some o) → Sat D h' → St i h'
  there : ∀ {i h}, St i h → ∀ a ∈ W, ∃ o, h.get? a = some o
  off : ∀ a ∈ W, D a = none
  item : ∀ {i s F d}, ds[i]? = some d → St i s.heap → Sat D s.heap → Sat F s.heap → Sub F0 F → (∀ a ∈ W, F a = none) →
    Wp C A (pyNext (.ref I)) (fun ov s1 => ∃ v, ov = some v ∧ Wp C A (letOwnedTupleGo tg (.ref I) v) (fun _ s2 => ∃ F', Adv W F s F' s2 ∧ R C.H F' v d ∧ St (i + 1) s2.heap) s1) s
  done : ∀ {s F}, St ds.length s.heap → Sat D s.heap → Sat F s.heap → (∀ a ∈ W, F a = none) → Wp C A (pyNext (.ref I)) (fun ov s1 => ov = none ∧ Adv W F s F s1) s
  self : ∀ {i s} {Q : Value → Shared → Prop}, St i s.heap → Q (.ref I) s → Wp C A (pyIter (.ref I)) Q s
theorem Adv.ofKeep {W : List Addr} {h' : Heap} {tk : Nat} (hs : Sat F s.heap) (hW : ∀ a ∈ W, F a = none) (k : ∀ b o, b ∉ W → s.heap.get? b = some o → h'.get? b = some o) : Adv W F s F { s with heap := h', toks := tk } :=
  ⟨k, Sub.refl F, fun _ _ e => .inl e, fun a o e => k a o (fun m => by rw [hW a m] at e; (first | exact ns e | exact nb e | obtain rfl := si e | cases e)) (hs a o e), rfl, rfl, rfl⟩
theorem Adv.put {W : List Addr} {h' : Heap} {o : Obj} (hs : Sat F s.heap) (hW : ∀ a ∈ W, F a = none) (k : ∀ b o, b ∉ W → s.heap.get? b = some o → h'.get? b = some o) (hp : h'.get? s.heap.objs.size = some o) : Adv W F s (Ev.put F s.heap.objs.size o) { s with heap := h' } :=
  by
  refine ⟨k, put_sub (sat_fresh hs (get_size _)), fun b o' q => ?_, fun b o' q => ?_, rfl, rfl, rfl⟩
  · unfold Ev.put at q; by_cases w : b = s.heap.objs.size
    · subst w; exact .inr (get_size _)
    · rw [if_neg w] at q; exact .inl q
  · unfold Ev.put at q; by_cases w : b = s.heap.objs.size
    · subst w; rw [if_pos rfl] at q; (first | exact ns q | exact nb q | obtain rfl := si q | cases q); exact hp
    · rw [if_neg w] at q; exact k b o' (fun m => by rw [hW b m] at q; (first | exact ns q | exact nb q | obtain rfl := si q | cases q)) (hs b o' q)
theorem mem5 {P : Addr → Prop} {a b c d e : Addr} (h1 : P a) (h2 : P b) (h3 : P c) (h4 : P d) (h5 : P e) : ∀ x ∈ [a, b, c, d, e], P x := fun x hx => by
  simp only [List.mem_cons, List.not_mem_nil, or_false] at hx
  rcases hx with rfl | rfl | rfl | rfl | rfl <;> assumption
theorem of5 {P : Addr → Prop} {a b c d e : Addr} {l : List Addr} (h : ∀ x ∈ a :: b :: c :: d :: e :: l, P x) : (P a ∧ P b ∧ P c ∧ P d ∧ P e) ∧ ∀ x ∈ l, P x :=
  ⟨⟨h a (by simp), h b (by simp), h c (by simp), h d (by simp), h e (by simp)⟩, fun x m => h x (by simp [m])⟩
theorem not5 {x a b c d e : Addr} (h : x ∉ [a, b, c, d, e]) : x ≠ a ∧ x ≠ c ∧ x ≠ d ∧ x ≠ e := by
  simp only [List.mem_cons, List.not_mem_nil, or_false, not_or] at h
  exact ⟨h.1, h.2.2⟩
theorem Itr.ofWalks {F0 D : Fz} {I : Addr} {fp : List Addr} {m : Nat} {P : Nat → Value → Prop} {St : Nat → Heap → Prop} {ds : List PyData} {tg : Expr} (W : Walks C.prog C.w A I fp [I] m P St) (hP : ∀ i v d, ds[i]? = some d → P i v → R C.H F0 v d) (hm : m = ds.length)
    (hfp : ∀ b ∈ fp, b ≠ I → ∃ o, D b = some o) (hD : D I = none) (hgo : ∀ {i s v} {Q : Unit → Shared → Prop}, St i s.heap → Q () s → Wp C A (letOwnedTupleGo tg (.ref I) v) Q s) (hth : ∀ {i h}, St i h → (∃ o, h.get? I = some o) ∧ Sat (fun a => if a ∈ fp ∧ a ≠ I then D a else none) h) :
    Itr C A F0 tg D [I] I ds St where
  frame := fun {i h h'} st hk hs => W.frame i h h' st fun b hb o e => by
    by_cases q : b = I
    · subst q; exact hk b (by simp) o e
    · obtain ⟨o', ho'⟩ := hfp b hb q
      have h1 := (hth st).2 b o' (by simp [hb, q, ho'])
      rw [h1] at e; (first | exact ns e | exact nb e | obtain rfl := si e | cases e)
      exact hs b _ ho'
  there := fun st a ha => by simp only [List.mem_singleton] at ha; subst ha; exact (hth st).1
  off := fun a ha => by simp only [List.mem_singleton] at ha; subst ha; exact hD
  item := fun {i s F d} hd st _ hs hsub hW => by
    have hi : i < m := by rw [hm]; exact (List.getElem?_eq_some_iff.mp hd).1
    refine W.item i s _ _ hi st fun v h' tk hp st' hk => ⟨v, rfl, ?_⟩
    exact hgo (s := { s with heap := h', toks := tk }) st' ⟨F, Adv.ofKeep hs hW hk, (hP i v d hd hp).mono hsub, st'⟩
  done := fun {s F} st _ hs hW => W.done s _ _ (hm ▸ st) fun h' tk hk => ⟨rfl, Adv.ofKeep hs hW hk⟩
  self := fun {i s Q} st hq => W.self i s _ _ st hq
theorem letGo_plain {I : Addr} {o : Obj} {T : String} {vs : Array Value} {tg : Expr} {v : Value} {Q : Unit → Shared → Prop} (ho : s.heap.get? I = some o) (hc : o.cls = .type T) (hd : o.data = .fields vs)
    (hT : (["enumerate", "zip", "dict_itemiterator", "dict_reverseitemiterator", "odict_iterator", "itertools.zip_longest", "itertools.pairwise"].contains T) = false) (h : Q () s) : Wp C A (letOwnedTupleGo tg (.ref I) v) Q s := by
  unfold letOwnedTupleGo
  cases tg <;> first
    | exact wpAny_pure h
    | (cases v <;> first
        | exact wpAny_pure h
        | (refine wpAny_bind (wpAny_load ho ?_)
           rw [hc, hd]
           dsimp only
           rw [hT, Bool.false_and, if_neg (by decide)]
           exact wpAny_pure h))
/-! sources -/
noncomputable def PostI (C : Cx) (A : Around) (str : Bool) (tg : Expr) (F : Fz) (s : Shared) (ds : List PyData) : Value → Shared → Prop := fun it s' => ∃ F' W I D St, it = .ref I ∧ Grow F s F' s' ∧ Itr C A F' tg D W I ds St ∧ St 0 s'.heap ∧ Sat D s'.heap ∧
  (∀ a ∈ W, s.heap.get? a = none ∧ F' a = none) ∧ (str = true → ∀ a o, D a = some o → F' a = some o)
noncomputable def SndI (C : Cx) (n : Nat) (sc : Scope) (str : Bool) (tg e : Expr) (f : St → Option (List PyData)) : Prop :=
  ∀ {A env base low F s σ ds}, Ct C n sc A env base low F s σ → f σ = some ds → Wp C A (eval e env) (fun x s1 => Wp C A (pyIter x) (PostI C A str tg F s ds) s1) s
theorem PostI.of {str : Bool} {tg : Expr} {ds : List PyData} {F1 : Fz} {s1 : Shared} (g : Grow F s F1 s1) {v : Value} {s2 : Shared} (h : PostI C A str tg F1 s1 ds v s2) : PostI C A str tg F s ds v s2 := by
  obtain ⟨F2, W, I, D, St, e, g2, it, st, sd, hw, hD⟩ := h
  exact ⟨F2, W, I, D, St, e, g.trans g2, it, st, sd, fun a ha => ⟨g.fresh_back (hw a ha).1, (hw a ha).2⟩, hD⟩
noncomputable def one (a : Addr) (o : Obj) : Fz := fun b => if b = a then some o else none
theorem one_sat {a : Addr} {o : Obj} {h : Heap} (e : h.get? a = some o) : Sat (one a o) h := fun b o' q => by
  unfold one at q
  by_cases z : b = a
  · subst z; rw [if_pos rfl] at q; (first | exact ns q | exact nb q | obtain rfl := si q | cases q); exact e
  · rw [if_neg z] at q; (first | exact ns q | exact nb q | obtain rfl := si q | cases q)
theorem one_ne {a b : Addr} {o : Obj} (h : b ≠ a) : one a o b = none := by unfold one; rw [if_neg h]
theorem one_self {a : Addr} {o : Obj} : one a o a = some o := by unfold one; rw [if_pos rfl]
theorem iter_list {str : Bool} {tg : Expr} {ds : List PyData} (hh : A.handled = none) (hs : Sat F s.heap) {a : Addr} {ws : Array Value} {m : Nat} (ha : s.heap.get? a = some (seqObj "list" ws m)) (hF : str = true → F a = some (seqObj "list" ws m)) (r : RL C.H F ws.toList ds) :
    Wp C A (pyIter (.ref a)) (PostI C A str tg F s ds) s := by
  have hne : a ≠ s.heap.objs.size := Nat.ne_of_lt (Heap.lt_size ha)
  have k : ∀ b o, s.heap.get? b = some o → (s.heap.push { cls := .type "list_iterator", data := .fields #[.ref a, .int 0 0] }).get? b = some o := fun b o e => Heap.get?_push_of_some _ e
  refine wpAny_pyIter_list (items := ws) ⟨_, ha, rfl, m, rfl⟩ ?_
  have g : Grow F s F { s with heap := s.heap.push { cls := .type "list_iterator", data := .fields #[.ref a, .int 0 0] } } := .ofKeep hs k rfl rfl rfl
  refine ⟨F, [s.heap.objs.size], s.heap.objs.size, one a (seqObj "list" ws m), fun i h => (h.IsListIter s.heap.objs.size a i ∧ h.IsList a ws) ∧ h.get? a = some (seqObj "list" ws m), rfl, g, ?_, ?_, ?_, ?_, ?_⟩
  · have W := Walks.list (prog := C.prog) (w := C.w) (A := A) hh s.heap.objs.size a hne ws
    have W2 : Walks C.prog C.w A s.heap.objs.size [s.heap.objs.size, a] [s.heap.objs.size] ws.size (fun i v => ws[i]? = some v) (fun i h => (h.IsListIter s.heap.objs.size a i ∧ h.IsList a ws) ∧ h.get? a = some (seqObj "list" ws m)) :=
      ⟨W.sub, fun i h h' st hk => ⟨W.frame i h h' st.1 hk, hk a (by simp) _ st.2⟩, fun i s Q E hi st hQ => W.item i s Q E hi st.1 fun v h' tk hp st' hk => hQ v h' tk hp ⟨st', hk a _ (by simp [hne]) st.2⟩ hk,
        fun s Q E st hQ => W.done s Q E st.1 hQ, fun i s Q E st hq => W.self i s Q E st.1 hq⟩
    refine Itr.ofWalks W2 (fun i v d hd hp => ?_) (rl_arr r) (fun b hb hn => ?_) (one_ne (Ne.symm hne)) (fun {i s' v Q} st hq => ?_) (fun {i h} st => ?_)
    · obtain ⟨u, hu, ru⟩ := r.get hd
      rw [Array.getElem?_toList] at hu
      rw [hp] at hu; (first | exact ns hu | exact nb hu | obtain rfl := si hu | cases hu); exact ru
    · simp at hb
      rcases hb with rfl | rfl
      · exact absurd rfl hn
      · exact ⟨_, one_self⟩
    · obtain ⟨⟨⟨o, ho, hc, hd⟩, _⟩, _⟩ := st
      exact letGo_plain ho hc hd (by decide) hq
    · obtain ⟨⟨⟨o, ho, hc, hd⟩, hl⟩, hx⟩ := st
      refine ⟨⟨o, ho⟩, fun b o' q => ?_⟩
      dsimp only at q
      split at q
      · exact one_sat hx b o' q
      · (first | exact ns q | exact nb q | obtain rfl := si q | cases q)
  · exact ⟨⟨⟨_, Heap.get?_push_size _ rfl, rfl, rfl⟩, _, k _ _ ha, rfl, m, rfl⟩, k _ _ ha⟩
  · exact one_sat (k _ _ ha)
  · intro b hb
    simp only [List.mem_singleton] at hb
    subst hb
    exact ⟨get_size _, sat_fresh hs (get_size _)⟩
  · intro hstr b o q
    unfold one at q
    by_cases z : b = a
    · subst z; rw [if_pos rfl] at q; (first | exact ns q | exact nb q | obtain rfl := si q | cases q); exact hF hstr
    · rw [if_neg z] at q; (first | exact ns q | exact nb q | obtain rfl := si q | cases q)
theorem iter_tuple {str : Bool} {tg : Expr} {ds : List PyData} (hh : A.handled = none) (hs : Sat F s.heap) {a : Addr} {ws : Array Value} {m : Nat} (ha : s.heap.get? a = some (seqObj "tuple" ws m)) (hF : str = true → F a = some (seqObj "tuple" ws m)) (r : RL C.H F ws.toList ds) :
    Wp C A (pyIter (.ref a)) (PostI C A str tg F s ds) s := by
  have hne : a ≠ s.heap.objs.size := Nat.ne_of_lt (Heap.lt_size ha)
  have k : ∀ b o, s.heap.get? b = some o → (s.heap.push { cls := .type "tuple_iterator", data := .fields #[.ref a, .int 0 0] }).get? b = some o := fun b o e => Heap.get?_push_of_some _ e
  refine wpAny_pyIter_tuple (items := ws) ⟨_, ha, rfl, m, rfl⟩ ?_
  have g : Grow F s F { s with heap := s.heap.push { cls := .type "tuple_iterator", data := .fields #[.ref a, .int 0 0] } } := .ofKeep hs k rfl rfl rfl
  refine ⟨F, [s.heap.objs.size], s.heap.objs.size, one a (seqObj "tuple" ws m), fun i h => (h.IsTupleIter s.heap.objs.size a i ∧ h.IsTuple a ws) ∧ h.get? a = some (seqObj "tuple" ws m), rfl, g, ?_, ?_, ?_, ?_, ?_⟩
  · have W := Walks.tuple (prog := C.prog) (w := C.w) (A := A) hh s.heap.objs.size a hne ws
    have W2 : Walks C.prog C.w A s.heap.objs.size [s.heap.objs.size, a] [s.heap.objs.size] ws.size (fun i v => ws[i]? = some v) (fun i h => (h.IsTupleIter s.heap.objs.size a i ∧ h.IsTuple a ws) ∧ h.get? a = some (seqObj "tuple" ws m)) :=
      ⟨W.sub, fun i h h' st hk => ⟨W.frame i h h' st.1 hk, hk a (by simp) _ st.2⟩, fun i s Q E hi st hQ => W.item i s Q E hi st.1 fun v h' tk hp st' hk => hQ v h' tk hp ⟨st', hk a _ (by simp [hne]) st.2⟩ hk,
        fun s Q E st hQ => W.done s Q E st.1 hQ, fun i s Q E st hq => W.self i s Q E st.1 hq⟩
    refine Itr.ofWalks W2 (fun i v d hd hp => ?_) (rl_arr r) (fun b hb hn => ?_) (one_ne (Ne.symm hne)) (fun {i s' v Q} st hq => ?_) (fun {i h} st => ?_)
    · obtain ⟨u, hu, ru⟩ := r.get hd
      rw [Array.getElem?_toList] at hu
      rw [hp] at hu; (first | exact ns hu | exact nb hu | obtain rfl := si hu | cases hu); exact ru
    · simp at hb
      rcases hb with rfl | rfl
      · exact absurd rfl hn
      · exact ⟨_, one_self⟩
    · obtain ⟨⟨⟨o, ho, hc, hd⟩, _⟩, _⟩ := st
      exact letGo_plain ho hc hd (by decide) hq
    · obtain ⟨⟨⟨o, ho, hc, hd⟩, hl⟩, hx⟩ := st
      refine ⟨⟨o, ho⟩, fun b o' q => ?_⟩
      dsimp only at q
      split at q
      · exact one_sat hx b o' q
      · (first | exact ns q | exact nb q | obtain rfl := si q | cases q)
  · exact ⟨⟨⟨_, Heap.get?_push_size _ rfl, rfl, rfl⟩, _, k _ _ ha, rfl, m, rfl⟩, k _ _ ha⟩
  · exact one_sat (k _ _ ha)
  · intro b hb
    simp only [List.mem_singleton] at hb
    subst hb
    exact ⟨get_size _, sat_fresh hs (get_size _)⟩
  · intro hstr b o q
    unfold one at q
    by_cases z : b = a
    · subst z; rw [if_pos rfl] at q; (first | exact ns q | exact nb q | obtain rfl := si q | cases q); exact hF hstr
    · rw [if_neg z] at q; (first | exact ns q | exact nb q | obtain rfl := si q | cases q)
noncomputable def seqD : PyData → Option (List PyData)
  | .list ds => some ds
  | .tuple ds => some ds
  | _ => none
noncomputable def seqC (f : St → Option PyData) : St → Option (List PyData) := fun σ => match f σ with
  | some d => seqD d
  | none => none
theorem SndI.seq {tg e : Expr} {f : St → Option PyData} (h : Snd C n sc e f) : SndI C n sc true tg e (seqC f) := fun {A env base low F s σ ds} X hf => by
  unfold seqC at hf
  cases e1 : f σ with
  | none => rw [e1] at hf; (first | exact ns hf | exact nb hf | obtain rfl := si hf | cases hf)
  | some d =>
    rw [e1] at hf
    refine wp_mono (h X e1) fun v s1 ⟨F1, g1, r1⟩ => ?_
    cases d <;> simp only [seqD, reduceCtorEq, Option.some.injEq] at hf
    · subst hf
      cases r1 with | list ho r => exact wp_mono (iter_list X.room.hand g1.sat (g1.sat _ _ ho) (fun _ => ho) r) fun _ _ q => .of g1 q
    · subst hf
      cases r1 with | tuple ho r => exact wp_mono (iter_tuple X.room.hand g1.sat (g1.sat _ _ ho) (fun _ => ho) r) fun _ _ q => .of g1 q
/-! range -/
noncomputable def upD (a b : Int) : List PyData := (List.range (b - a).toNat).map fun i => .int (a + (i : Nat))
noncomputable def rangeD (as : List PyData) : Option (List PyData) := match as with
  | [] => none
  | x :: r => match x with
    | .int a => match r with
      | [] => if -1048576 < a ∧ a < 1048576 then some (upD 0 a) else none
      | y :: r => match y with
        | .int b => match r with
          | [] => if -1048576 < a ∧ a < 1048576 ∧ b < 1048576 ∧ -1048576 < b then some (upD a b) else none
          | _ :: _ => none
        | _ => none
    | _ => none
noncomputable def rangeC (fs : Sf) : St → Option (List PyData) := fun σ => match asC fs σ with
  | some ds => rangeD ds
  | none => none
theorem rangeD_spec {as ds : List PyData} (h : rangeD as = some ds) : (∃ b, as = [.int b] ∧ ds = upD 0 b ∧ -1048576 < b ∧ b < 1048576) ∨ (∃ a b, as = [.int a, .int b] ∧ ds = upD a b ∧ -1048576 < a ∧ a < 1048576 ∧ b < 1048576 ∧ -1048576 < b) := by
  rcases as with _ | ⟨x, r⟩
  · (first | exact ns h | exact nb h | obtain rfl := si h | cases h)
  · cases x with
    | int a => rcases r with _ | ⟨y, r⟩
               · obtain ⟨hb, h⟩ := ite_some h; (first | exact ns h | exact nb h | obtain rfl := si h | cases h); exact .inl ⟨_, rfl, rfl, hb⟩
               · cases y with
                 | int b => cases r with
                   | nil => obtain ⟨hb, h⟩ := ite_some h; (first | exact ns h | exact nb h | obtain rfl := si h | cases h); exact .inr ⟨_, _, rfl, rfl, hb⟩
                   | cons => (first | exact ns h | exact nb h | obtain rfl := si h | cases h)
                 | _ => (first | exact ns h | exact nb h | obtain rfl := si h | cases h)
    | _ => (first | exact ns h | exact nb h | obtain rfl := si h | cases h)
theorem iter_range {str : Bool} {tg : Expr} {r : Addr} {a b : Int} {t u v : Tok} (hh : A.handled = none) (hs : Sat F s.heap) (hr : IsRange s.heap r a b 1 t u v) (ha : -4194304 < a ∧ a < 4194304) (hb : -4194304 < b ∨ b ≤ a) (hb' : b < 4194304) (hsm : Builtin.Range.small a b 1 = true) :
    Wp C A (pyIter (.ref r)) (PostI C A str tg F s (upD a b)) s := by
  have k : ∀ c o, s.heap.get? c = some o → (s.heap.push { cls := .type "range_iterator", data := .fields #[rawInt a, rawInt (Builtin.Range.rangeSize a b 1), rawInt 1] }).get? c = some o := fun c o e => Heap.get?_push_of_some _ e
  refine wpAny_pyIter_range hr hsm ?_
  have g : Grow F s F { s with heap := s.heap.push { cls := .type "range_iterator", data := .fields #[rawInt a, rawInt (Builtin.Range.rangeSize a b 1), rawInt 1] } } := .ofKeep hs k rfl rfl rfl
  have hn : Builtin.Range.rangeSize a b 1 = (((b - a).toNat : Nat) : Int) := by unfold Builtin.Range.rangeSize; simp; split <;> omega
  refine ⟨F, [s.heap.objs.size], s.heap.objs.size, fun _ => none, fun i h => IsRangeIter h s.heap.objs.size (a + (i : Nat) * 1) (((b - a).toNat : Int) - (i : Nat)) 1, rfl, g, ?_, ?_, (fun _ _ q => nomatch q), ?_, fun _ _ _ q => nomatch q⟩
  · refine Itr.ofWalks (Walks.range (prog := C.prog) (w := C.w) (A := A) hh s.heap.objs.size a 1 (b - a).toNat) (fun i v d hd hp => ?_) (by simp [upD]) (fun c hc hne => by simp at hc; exact absurd hc hne) rfl (fun {i s' v Q} st hq => ?_) (fun {i h} st => ⟨⟨_, st⟩, fun c o q => by simp at q⟩)
    · obtain ⟨t, rfl⟩ := hp
      simp only [upD, List.getElem?_map] at hd
      cases hx : (List.range (b - a).toNat)[i]? with
      | none => rw [hx] at hd; (first | exact ns hd | exact nb hd | obtain rfl := si hd | cases hd)
      | some j =>
        rw [hx] at hd
        (first | exact ns hd | exact nb hd | obtain rfl := si hd | cases hd)
        have : j = i := by
          obtain ⟨h1, h2⟩ := List.getElem?_eq_some_iff.mp hx
          simpa using h2.symm
        subst this
        rw [Int.mul_one]
        exact .int _ _
    · exact letGo_plain st rfl rfl (by decide) hq
  · rw [hn]; unfold IsRangeIter; simpa [rawInt] using Heap.get?_push_size s.heap (o := { cls := .type "range_iterator", data := .fields #[rawInt a, rawInt (((b - a).toNat : Nat) : Int), rawInt 1] }) rfl
  · intro b hb
    simp only [List.mem_singleton] at hb
    subst hb
    exact ⟨get_size _, sat_fresh hs (get_size _)⟩
theorem SndI.range {tg : Expr} {px pos : Pos} {e : Expr} {es : List Expr} {f : St → Option PyData} {fs : Sf} (hb : C.Bi "range" (.type "range")) (hk : sc.names.lookup (Str.ofString "range") = some .globalImplicit) (h : SndAs C n sc (e :: es) (f :: fs)) (hp : ∀ env, (backTo pos (starEach es env)).any (·.1) = false := by intro _; rfl) :
    SndI C n sc true tg (.Call (.Name "range" px) (e :: es) [] pos) (rangeC (f :: fs)) := fun {A env base low F s σ ds} X hf => by
  unfold rangeC at hf
  cases e1 : asC (f :: fs) σ with
  | none => rw [e1] at hf; (first | exact ns hf | exact nb hf | obtain rfl := si hf | cases hf)
  | some as =>
    rw [e1] at hf
    dsimp only at hf
    refine Call_ (wp_builtin X hb hk (PyProof.Rows.callWith_type1 (wp_mono (argsB_wp h X e1) fun vs s1 ⟨F1, g1, r1⟩ => ?_) ?_ (hp env)))
    · rcases rangeD_spec hf with ⟨b, rfl, rfl, hb⟩ | ⟨a, b, rfl, rfl, hb⟩
      · obtain ⟨v, rfl, r⟩ := r1.one
        obtain ⟨t, rfl⟩ := r.int
        refine call_range_1 ?_
        have g2 : Grow F1 s1 F1 { s1 with heap := s1.heap.push { cls := .type "range", data := .fields #[.int 0 s1.toks, .int b t, .int 1 (s1.toks + 1)] }, toks := s1.toks + 1 + 1 } := .ofKeep g1.sat (fun c o q => Heap.get?_push_of_some _ q) rfl rfl rfl
        refine wp_mono (iter_range X.room.hand g2.sat (IsRange.new ..) (by omega) (by omega) (by omega) ?_) fun _ _ q => .of (g1.trans g2) q
        exact small_one (by omega) (by omega) (by omega) (by omega)
      · obtain ⟨v, u, rfl, r, r'⟩ := r1.two
        obtain ⟨t, rfl⟩ := r.int
        obtain ⟨t', rfl⟩ := r'.int
        refine call_range_2 ?_
        have g2 : Grow F1 s1 F1 { s1 with heap := s1.heap.push { cls := .type "range", data := .fields #[.int a t, .int b t', .int 1 s1.toks] }, toks := s1.toks + 1 } := .ofKeep g1.sat (fun c o q => Heap.get?_push_of_some _ q) rfl rfl rfl
        refine wp_mono (iter_range X.room.hand g2.sat (IsRange.new ..) (by omega) (by omega) (by omega) ?_) fun _ _ q => .of (g1.trans g2) q
        exact small_one (by omega) (by omega) (by omega) (by omega)
    · cases h with | cons _ _ hs => exact hs _ _
end Ev
set_option maxRecDepth 10000
namespace Ev
open PySem PySem.W PySem.Spec PySem.Calls PyProof.Rows PySem.SeqAt
variable {C : Cx} {n : Nat} {sc : Scope} {A : Around} {env : Env} {base : Fz} {low : Fz} {F F' : Fz} {s s' : Shared} {σ : St}
theorem entry_dvi : entryFor table "dict_valueiterator.__iter__" = some Builtin.«dict_keyiterator.__iter__» :=
  entryFor_alias (id' := "dict_keyiterator.__iter__") (by kernel_rfl) (by first | rfl | decide +kernel | (unfold String.splitOn; simp +decide [String.splitOnAux])) (by decide +kernel) (by kernel_rfl)
theorem entry_dii : entryFor table "dict_itemiterator.__iter__" = some Builtin.«dict_keyiterator.__iter__» :=
  entryFor_alias (id' := "dict_keyiterator.__iter__") (by kernel_rfl) (by first | rfl | decide +kernel | (unfold String.splitOn; simp +decide [String.splitOnAux])) (by decide +kernel) (by kernel_rfl)
theorem Adv.ofSame {W : List Addr} {h' : Heap} {I : Addr} (hs : Sat F s.heap) (hW : ∀ a ∈ W, F a = none) (hI : I ∈ W) (k : Heap.ExtBut I s.heap h') : Adv W F s F { s with heap := h' } :=
  Adv.ofKeep (tk := s.toks) hs hW fun b o hb e => k b o (fun q => hb (q ▸ hI)) e
theorem iter_values {str : Bool} {tg : Expr} {kvs : List (PyData × PyData)} {kd : Bool} (hh : A.handled = none) (hs : Sat F s.heap) {d v : Addr} {o : Obj} {es : Array DictEntry} {ep : Nat} (ho : s.heap.get? d = some o) (hc : o.ExactDict) (hd : o.data = .dict es ep)
    (hF : str = true → F d = some o) (r : RD C.H F kd es.toList kvs) (hv : s.heap.IsValuesView v d) : Wp C A (pyIter (.ref v)) (PostI C A str tg F s (kvs.map (·.2))) s := by
  have hne : d ≠ s.heap.objs.size := Nat.ne_of_lt (Heap.lt_size ho)
  refine raw_values_iter hv ⟨_, ho, hc, hd⟩ ?_
  have k : ∀ c o, s.heap.get? c = some o → (s.heap.push { cls := .type "dict_valueiterator", data := .fields #[.ref d, .int 0 0, .int es.size 0, .int ep 0] }).get? c = some o := fun c o e => Heap.get?_push_of_some _ e
  have g : Grow F s F { s with heap := s.heap.push { cls := .type "dict_valueiterator", data := .fields #[.ref d, .int 0 0, .int es.size 0, .int ep 0] } } := .ofKeep hs k rfl rfl rfl
  refine ⟨F, [s.heap.objs.size], s.heap.objs.size, one d o, fun i h => h.IsValIter s.heap.objs.size d i es.size ep, rfl, g, ?_, ⟨_, Heap.get?_push_size _ rfl, rfl, rfl⟩, one_sat (k _ _ ho), ?_, ?_⟩
  · have len : es.size = kvs.length := (Array.length_toList ..).symm.trans r.length
    exact {
      frame := fun st hk _ => let ⟨ob, h1, r⟩ := st; ⟨ob, hk _ (by simp) _ h1, r⟩
      there := fun st a ha => by simp only [List.mem_singleton] at ha; subst ha; exact let ⟨ob, h1, _⟩ := st; ⟨ob, h1⟩
      off := fun a ha => by simp only [List.mem_singleton] at ha; subst ha; exact one_ne (Ne.symm hne)
      item := fun {i s1 F1 x} hx st hD hs1 hsub hW => by
        have hod := hD d o one_self
        rw [List.getElem?_map] at hx
        cases hkv : kvs[i]? with
        | none => rw [hkv] at hx; (first | exact ns hx | exact nb hx | obtain rfl := si hx | cases hx)
        | some kv =>
          rw [hkv] at hx; (first | exact ns hx | exact nb hx | obtain rfl := si hx | cases hx)
          obtain ⟨e, he, _, rv, _⟩ := r.getAt hkv
          rw [Array.getElem?_toList] at he
          refine raw_values_next st ⟨_, hod, hc, hd⟩ he fun h' st' sb => ⟨_, rfl, ?_⟩
          obtain ⟨ob, h1, h2, h3⟩ := id st'
          exact letGo_plain (s := { s1 with heap := h' }) h1 h2 h3 (by decide) ⟨F1, Adv.ofSame hs1 hW (by simp) sb.extBut, rv.mono hsub, st'⟩
      done := fun {s1 F1} st hD hs1 hW => by
        have hod := hD d o one_self
        exact raw_values_end hh st ⟨_, hod, hc, hd⟩ (by simp [len]) fun h' eb => ⟨rfl, Adv.ofSame hs1 hW (by simp) eb⟩
      self := fun {i s1 Q} st hq => by
        refine wpAny_pyIter_slot (T := "dict_valueiterator") st.typeIs PySem.F.slot_dict_valueiterator_iter (wpAny_call_entry PySem.F.slot_dict_valueiterator_iter st.typeIs entry_dvi ?_ (PySem.F.args_dict_valueiterator_iter_1 _))
        show wpAny _ _ (ret (.ref _)) _ _ s1
        exact wpAny_pure ⟨_, rfl, "dict_valueiterator", _, st.typeIs, PySem.F.slot_dict_valueiterator_next.lookup, hq⟩ }
  · intro b hb
    simp only [List.mem_singleton] at hb
    subst hb
    exact ⟨get_size _, sat_fresh hs (get_size _)⟩
  · intro hstr b o' q
    unfold one at q
    by_cases z : b = d
    · subst z; rw [if_pos rfl] at q; (first | exact ns q | exact nb q | obtain rfl := si q | cases q); exact hF hstr
    · rw [if_neg z] at q; (first | exact ns q | exact nb q | obtain rfl := si q | cases q)
noncomputable def pairD (kv : PyData × PyData) : PyData := .tuple [kv.1, kv.2]
theorem iter_items {str : Bool} {elts : List Expr} {x1 : Nat} {tpos : Pos} {kvs : List (PyData × PyData)} {kd : Bool} (hh : A.handled = none) (hs : Sat F s.heap) {d v : Addr} {o : Obj} {es : Array DictEntry} {ep : Nat} (ho : s.heap.get? d = some o) (hc : o.ExactDict) (hd : o.data = .dict es ep)
    (hF : str = true → F d = some o) (r : RD C.H F kd es.toList kvs) (hv : s.heap.IsItemsView v d) : Wp C A (pyIter (.ref v)) (PostI C A str (.Tuple elts x1 tpos) F s (kvs.map pairD)) s := by
  have hne : d ≠ s.heap.objs.size := Nat.ne_of_lt (Heap.lt_size ho)
  refine raw_items_iter hv ⟨_, ho, hc, hd⟩ ?_
  have k : ∀ c o, s.heap.get? c = some o → (s.heap.push { cls := .type "dict_itemiterator", data := .fields #[.none, .bool false, .ref d, .int 0 0, .int es.size 0, .int ep 0, .none, .none] }).get? c = some o := fun c o e => Heap.get?_push_of_some _ e
  have g : Grow F s F { s with heap := s.heap.push { cls := .type "dict_itemiterator", data := .fields #[.none, .bool false, .ref d, .int 0 0, .int es.size 0, .int ep 0, .none, .none] } } := .ofKeep hs k rfl rfl rfl
  refine ⟨F, [s.heap.objs.size], s.heap.objs.size, one d o, fun i h => ∃ ok ov, IsItemIter h s.heap.objs.size d i es.size ep ok ov, rfl, g, ?_, ⟨_, _, Heap.get?_push_size _ rfl⟩, one_sat (k _ _ ho), ?_, ?_⟩
  · have len : es.size = kvs.length := (Array.length_toList ..).symm.trans r.length
    exact {
      frame := fun ⟨ok, ov, st⟩ hk _ => ⟨ok, ov, hk _ (by simp) _ st⟩
      there := fun ⟨ok, ov, st⟩ a ha => by simp only [List.mem_singleton] at ha; subst ha; exact ⟨_, st⟩
      off := fun a ha => by simp only [List.mem_singleton] at ha; subst ha; exact one_ne (Ne.symm hne)
      item := fun {i s1 F1 x} hx ⟨ok, ov, st⟩ hD hs1 hsub hW => by
        have hod := hD d o one_self
        have hI : s.heap.objs.size < s1.heap.objs.size := Heap.lt_size st
        rw [List.getElem?_map] at hx
        cases hkv : kvs[i]? with
        | none => rw [hkv] at hx; (first | exact ns hx | exact nb hx | obtain rfl := si hx | cases hx)
        | some kv =>
          rw [hkv] at hx; (first | exact ns hx | exact nb hx | obtain rfl := si hx | cases hx)
          obtain ⟨e, he, rk, rv, _⟩ := r.getAt hkv
          rw [Array.getElem?_toList] at he
          refine raw_items_next st ⟨_, hod, hc, hd⟩ he fun h' st' ht hz kp => ⟨_, rfl, ?_⟩
          refine wpAny_letOwnedTupleGo_items (s := { s1 with heap := h' }) st' fun h'' st'' sb => ?_
          have keep : ∀ b o, b ∉ [s.heap.objs.size] → s1.heap.get? b = some o → h''.get? b = some o := fun b o hb q => by
            simp only [List.mem_singleton] at hb
            exact sb.extBut b o hb (kp b o hb q)
          have a0 : Adv [s.heap.objs.size] F1 s1 F1 { s1 with heap := h'' } := Adv.ofKeep (tk := s1.toks) hs1 hW keep
          have hT : h''.get? s1.heap.objs.size = some (seqObj "tuple" #[e.key, e.val] 0) := sb.extBut _ _ (Nat.ne_of_gt hI) ht
          have fr : F1 s1.heap.objs.size = none := sat_fresh hs1 (get_size _)
          have sub := put_sub (o := seqObj "tuple" #[e.key, e.val] 0) fr
          refine ⟨put F1 s1.heap.objs.size (seqObj "tuple" #[e.key, e.val] 0), ⟨keep, sub, fun b o' q => ?_, fun b o' q => ?_, rfl, rfl, rfl⟩, ?_, ⟨_, _, st''⟩⟩
          · unfold put at q; by_cases z : b = s1.heap.objs.size
            · subst z; exact .inr (get_size _)
            · rw [if_neg z] at q; exact .inl q
          · unfold put at q; by_cases z : b = s1.heap.objs.size
            · subst z; rw [if_pos rfl] at q; (first | exact ns q | exact nb q | obtain rfl := si q | cases q); exact hT
            · rw [if_neg z] at q; exact a0.sat b o' q
          · exact .tuple (put_self ..) (.cons ((rk.mono hsub).mono sub) (.cons ((rv.mono hsub).mono sub) .nil))
      done := fun {s1 F1} ⟨ok, ov, st⟩ hD hs1 hW => by
        have hod := hD d o one_self
        have st' : IsItemIter s1.heap s.heap.objs.size d es.size es.size ep ok ov := by
          have e : (kvs.map pairD).length = es.size := by rw [List.length_map, len]
          rw [e] at st; exact st
        exact raw_items_end hh st' ⟨_, hod, hc, hd⟩ (by simp) fun h' eb => ⟨rfl, Adv.ofSame hs1 hW (by simp) eb⟩
      self := fun {i s1 Q} ⟨ok, ov, st⟩ hq => by
        have hT : s1.TypeIs (.ref s.heap.objs.size) "dict_itemiterator" := ⟨_, st, rfl⟩
        refine wpAny_pyIter_slot (T := "dict_itemiterator") hT PySem.F.slot_dict_itemiterator_iter (wpAny_call_entry PySem.F.slot_dict_itemiterator_iter hT entry_dii ?_ (PySem.F.args_dict_itemiterator_iter_1 _))
        show wpAny _ _ (ret (.ref _)) _ _ s1
        exact wpAny_pure ⟨_, rfl, "dict_itemiterator", _, hT, PySem.F.slot_dict_itemiterator_next.lookup, hq⟩ }
  · intro b hb
    simp only [List.mem_singleton] at hb
    subst hb
    exact ⟨get_size _, sat_fresh hs (get_size _)⟩
  · intro hstr b o' q
    unfold one at q
    by_cases z : b = d
    · subst z; rw [if_pos rfl] at q; (first | exact ns q | exact nb q | obtain rfl := si q | cases q); exact hF hstr
    · rw [if_neg z] at q; (first | exact ns q | exact nb q | obtain rfl := si q | cases q)
noncomputable def valsC (f : St → Option PyData) : St → Option (List PyData) := fun σ => match f σ with
  | some (.dict kvs) => some (kvs.map (·.2))
  | _ => none
noncomputable def itemsC (f : St → Option PyData) : St → Option (List PyData) := fun σ => match f σ with
  | some (.dict kvs) => some (kvs.map pairD)
  | _ => none
theorem SndI.values {tg o : Expr} {apos pos : Pos} {f : St → Option PyData} (h : Snd C n sc o f) (hbase : ∀ env, attributeBase o "values" env (eval o env) = eval o env := by intro _; rfl) (hline : (apos.endLine == pos.line) = true := by rfl) :
    SndI C n sc true tg (.Call (.Attribute o "values" apos) [] [] pos) (valsC f) := fun {A env base low F s σ ds} X hf => by
  unfold valsC at hf
  split at hf
  · rename_i kvs e1
    (first | exact ns hf | exact nb hf | obtain rfl := si hf | cases hf)
    refine wpAny_Call_method (T := "dict") (id := "dict.values") (hbase env) rfl hline PySem.F.plainAttrs_dict PySem.F.slot_dict_values PySem.F.type_dict_values (wp_mono (h X e1) fun v s1 ⟨F1, g1, r1⟩ => ?_)
    cases r1 with
    | @dict a o es m _ kd hsm ho hc hd r hn =>
      have ho' := g1.sat _ _ ho
      refine ⟨⟨_, ho', hc.1⟩, fun a e => by (first | exact ns e | exact nb e | obtain rfl := si e | cases e); exact ⟨_, ho', hc.2.1⟩, ?_⟩
      refine PyProof.Rows.callWith_method0 (raw_values_call hsm ⟨_, ho', hc, hd⟩ ?_)
      have g2 : Grow F1 s1 F1 { s1 with heap := s1.heap.push { cls := .type "dict_values", data := .fields #[.ref a] } } := .ofKeep g1.sat (fun c o q => Heap.get?_push_of_some _ q) rfl rfl rfl
      exact wp_mono (iter_values (str := true) (s := { s1 with heap := _ }) X.room.hand g2.sat (g2.keep _ _ ho') hc hd (fun _ => ho) r ⟨_, Heap.get?_push_size _ rfl, rfl, rfl⟩) fun _ _ q => .of (g1.trans g2) q
  · (first | exact ns hf | exact nb hf | obtain rfl := si hf | cases hf)
theorem SndI.items {o : Expr} {elts : List Expr} {x1 : Nat} {tpos apos pos : Pos} {f : St → Option PyData} (h : Snd C n sc o f) (hbase : ∀ env, attributeBase o "items" env (eval o env) = eval o env := by intro _; rfl) (hline : (apos.endLine == pos.line) = true := by rfl) :
    SndI C n sc true (.Tuple elts x1 tpos) (.Call (.Attribute o "items" apos) [] [] pos) (itemsC f) := fun {A env base low F s σ ds} X hf => by
  unfold itemsC at hf
  split at hf
  · rename_i kvs e1
    (first | exact ns hf | exact nb hf | obtain rfl := si hf | cases hf)
    refine wpAny_Call_method (T := "dict") (id := "dict.items") (hbase env) rfl hline PySem.F.plainAttrs_dict PySem.F.slot_dict_items PySem.F.type_dict_items (wp_mono (h X e1) fun v s1 ⟨F1, g1, r1⟩ => ?_)
    cases r1 with
    | @dict a o es m _ kd hsm ho hc hd r hn =>
      have ho' := g1.sat _ _ ho
      refine ⟨⟨_, ho', hc.1⟩, fun a e => by (first | exact ns e | exact nb e | obtain rfl := si e | cases e); exact ⟨_, ho', hc.2.1⟩, ?_⟩
      refine PyProof.Rows.callWith_method0 (raw_items_call hsm ⟨_, ho', hc, hd⟩ ?_)
      have g2 : Grow F1 s1 F1 { s1 with heap := s1.heap.push { cls := .type "dict_items", data := .fields #[.ref a] } } := .ofKeep g1.sat (fun c o q => Heap.get?_push_of_some _ q) rfl rfl rfl
      exact wp_mono (iter_items (str := true) (s := { s1 with heap := _ }) X.room.hand g2.sat (g2.keep _ _ ho') hc hd (fun _ => ho) r ⟨_, Heap.get?_push_size _ rfl, rfl, rfl⟩) fun _ _ q => .of (g1.trans g2) q
  · (first | exact ns hf | exact nb hf | obtain rfl := si hf | cases hf)
end Ev
set_option maxRecDepth 10000
namespace Ev
open PySem PySem.W PySem.Spec PySem.Calls PyProof.Rows PySem.SeqAt
variable {C : Cx} {n : Nat} {sc : Scope} {A : Around} {env : Env} {base : Fz} {low : Fz} {F F' : Fz} {s s' : Shared} {σ : St}
/-! stores -/
structure Stored (env : Env) (x : Str) (v : Value) (h h' : Heap) : Prop where
  back : ∀ {y u}, y ≠ x → Lk env h' y u → Lk env h y u
  fwd : ∀ {y u}, y ≠ x → Lk env h y u → Lk env h' y u
  new : Lk env h' x v
  keep : ∀ b o, b ≠ env.locals → (∀ v, ¬ h.IsCell b v) → h.get? b = some o → h'.get? b = some o
theorem wp_store2 {M : Model} {E : Value → Shared → Prop} {names : List Str} {H : PyData → Int} {i : Nat} {x : Str} {v : Value} {vo : Bool × PyData} {Q : Unit → Shared → Prop} (S : Fs H names env base low F s.heap σ) (hi : names[i]? = some x) (hk : env.kindOf x = some .local ∨ (env.kindOf x = some .cell ∧ ∀ c, env.cells.lookup x = some c → base c = none))
    (hv : Vl H F base low s.heap env.locals v vo) (hd : ∀ a, v = .ref a → vo.1 = true → ∀ j y e, j ≠ i → names[j]? = some y → sget σ j = some (true, e) → ¬ Lk env s.heap y (.ref a))
    (h : ∀ s', Same s s' → Fs H names env base low F s'.heap (σ.set i (some vo)) → Stored env x v s.heap s'.heap → Q () s') : wpAny M A (storeName env x v) Q E s := by
  rcases hk with hk | ⟨hk, hcb⟩
  · obtain ⟨m, hm⟩ := S.ns
    refine wpAny_storeName_local hk hm (fun h' hn hs => h _ ⟨rfl, rfl, rfl⟩ (S.setLocal hi hk hv hd hm hn hs) ⟨fun {y u} hne l => ?_, fun {y u} hne l => ?_, .loc hk hn (by simp), fun b o hb _ e => (hs.2 b hb).trans e⟩) ?_
    · cases l with
      | loc k n e => exact .loc k hm (by rw [ns_uniq n hn] at e; dsimp only at e; rw [if_neg hne] at e; exact e)
      | cell k c ic =>
        obtain ⟨o, ho, hd'⟩ := id ic
        exact .cell k c ⟨o, (hs.2 _ (fun e => ns_not_cell hn (e ▸ ic))).symm.trans ho, hd'⟩
      | free k c ic =>
        obtain ⟨o, ho, hd'⟩ := id ic
        exact .free k c ⟨o, (hs.2 _ (fun e => ns_not_cell hn (e ▸ ic))).symm.trans ho, hd'⟩
    · cases l with
      | loc k n e => exact .loc k hn (by rw [if_neg hne, ← ns_uniq n hm]; exact e)
      | cell k c ic => exact .cell k c (ic.sameBut hs fun q => ns_not_cell hm (q ▸ ic))
      | free k c ic => exact .free k c (ic.sameBut hs fun q => ns_not_cell hm (q ▸ ic))
    · rw [S.kind]; rfl
  · obtain ⟨c, u, hc, hic, hFc, hlc⟩ := S.cell x hk
    obtain ⟨m, hm⟩ := S.ns
    have hcL : c ≠ env.locals := fun q => ns_not_cell (q ▸ hm) hic
    refine wpAny_storeName_cell S.kind hk hc hic fun h' hn hs => h _ ⟨rfl, rfl, rfl⟩ (S.setCell hi hk hc (hcb c hc) hv hd hn hs) ⟨fun {y w} hne l => ?_, fun {y w} hne l => ?_, .cell hk hc hn, fun b o _ hb e => (hs.2 b (fun q => hb _ (q ▸ hic))).trans e⟩
    · have hm' : h'.Ns env.locals m := hm.sameBut hs (Ne.symm hcL)
      have nec : env.kindOf y = some .cell → ∀ c', env.cells.lookup y = some c' → c' ≠ c := fun k c' e q => hne (S.cinj _ _ c k hk (q ▸ e) hc)
      have nef : env.kindOf y = some .free → ∀ c', env.cells.lookup y = some c' → c' ≠ c := fun k c' e q => by
        obtain ⟨o', e'⟩ := S.free _ _ k e
        rw [q, hFc] at e'; cases e'
      cases l with
      | loc k n e => exact .loc k hm (by rw [ns_uniq n hm'] at e; exact e)
      | cell k hc2 ic =>
        obtain ⟨o, ho, hd'⟩ := ic
        exact .cell k hc2 ⟨o, (hs.2 _ (nec k _ hc2)).symm.trans ho, hd'⟩
      | free k hc2 ic =>
        obtain ⟨o, ho, hd'⟩ := ic
        exact .free k hc2 ⟨o, (hs.2 _ (nef k _ hc2)).symm.trans ho, hd'⟩
    · have hm' : h'.Ns env.locals m := hm.sameBut hs (Ne.symm hcL)
      have nec : env.kindOf y = some .cell → ∀ c', env.cells.lookup y = some c' → c' ≠ c := fun k c' e q => hne (S.cinj _ _ c k hk (q ▸ e) hc)
      have nef : env.kindOf y = some .free → ∀ c', env.cells.lookup y = some c' → c' ≠ c := fun k c' e q => by
        obtain ⟨o', e'⟩ := S.free _ _ k e
        rw [q, hFc] at e'; cases e'
      cases l with
      | loc k n e => exact .loc k hm' (by rw [← ns_uniq n hm]; exact e)
      | cell k hc2 ic => exact .cell k hc2 (ic.sameBut hs (nec k _ hc2))
      | free k hc2 ic => exact .free k hc2 (ic.sameBut hs (nef k _ hc2))
theorem Ct.step {s'' : Shared} {σ' : St} {base' low' : Fz} (X : Ct C n sc A env base low F s σ) (k0 : ∀ b o, C.h₀.get? b = some o → base' b = some o) (hp : ∀ {y u}, C.pin = some (y, u) → Lk env s.heap y (.ref u) → Lk env s''.heap y (.ref u)) (S : Fs C.H C.names env base' low' F' s''.heap σ') : Ct C n sc A env base' low' F' s'' σ' := ⟨X.ok, X.room, X.scope, k0, S, fun y u e => hp e (X.pin y u e)⟩
noncomputable def NoPin (C : Cx) (x : Str) : Prop := ∀ a, C.pin ≠ some (x, a)
noncomputable def MayS (C : Cx) (sc : Scope) (x : Str) : Prop := (sc.names.lookup x = some .local ∨ sc.names.lookup x = some .cell) ∧ NoPin C x
theorem NoPin.ne {x y : Str} {u : Addr} (h : NoPin C x) (e : C.pin = some (y, u)) : y ≠ x := fun q => h u (q ▸ e)
noncomputable def MaySt (C : Cx) (env : Env) (base : Fz) (x : Str) : Prop := NoPin C x ∧ MayK env base x
where MayK (env : Env) (base : Fz) (x : Str) : Prop := env.kindOf x = some .local ∨ (env.kindOf x = some .cell ∧ ∀ c, env.cells.lookup x = some c → base c = none)
theorem MaySt.def {env : Env} {x : Str} (X : Ct C n sc A env base base F s σ) (h : MayS C sc x) : MaySt C env base x := by
  obtain ⟨h, hp⟩ := h
  refine ⟨hp, ?_⟩
  rcases h with h | h
  · exact .inl ((X.kindOf x).trans h)
  · refine .inr ⟨(X.kindOf x).trans h, fun c hc => ?_⟩
    obtain ⟨c', v, h1, h2, h3, h4⟩ := X.fs.cell x ((X.kindOf x).trans h)
    rw [hc] at h1; (first | exact ns h1 | exact nb h1 | obtain rfl := si h1 | cases h1); exact h4
inductive Pend (H : PyData → Int) (names : List Str) (env : Env) (base low F : Fz) (h : Heap) (σ : St) : List Value → List (Bool × PyData) → List Addr → Prop
  | nil : Pend H names env base low F h σ [] [] []
  | fz {v d vs vos as} : R H F v d → Pend H names env base low F h σ vs vos as → Pend H names env base low F h σ (v :: vs) ((false, d) :: vos) as
  | ow {a d vs vos as} : Ow H F h a d → F a = none → low a = none → a ≠ env.locals → (∀ j y e, names[j]? = some y → sget σ j = some (true, e) → ¬ Lk env h y (.ref a)) → a ∉ as → Pend H names env base low F h σ vs vos as →
      Pend H names env base low F h σ (.ref a :: vs) ((true, d) :: vos) (a :: as)
theorem Pend.store {h h' : Heap} {i : Nat} {x : Str} {v : Value} {vo : Bool × PyData} (S : Fs C.H C.names env base low F h σ) (hi : C.names[i]? = some x) (T : Stored env x v h h') : ∀ {vs vos as}, Pend C.H C.names env base low F h σ vs vos as → (∀ a, v = .ref a → vo.1 = true → a ∉ as) → (vo.1 = false → R C.H F v vo.2) →
    Pend C.H C.names env base low F h' (σ.set i (some vo)) vs vos as := by
  intro vs vos as hp
  induction hp with
  | nil => exact fun _ _ => .nil
  | fz r p ih => exact fun h1 h2 => .fz r (ih h1 h2)
  | @ow a d vs vos as o hF hl hL hn ha p ih =>
    intro h1 h2
    have hcell : ∀ w, ¬ h.IsCell a w := fun w ic => o.not_cell ic
    refine .ow (o.grow (Sub.refl F) fun o' e => T.keep a o' hL hcell e) hF hl hL (fun j y e hj hs l => ?_) ha (ih (fun b e t m => h1 b e t (List.mem_cons_of_mem _ m)) h2)
    rcases sget_set_some hs with ⟨e1, e2⟩ | ⟨e1, e2⟩
    · subst e1
      rw [hi] at hj; (first | exact ns hj | exact nb hj | obtain rfl := si hj | cases hj)
      (first | exact ns e2 | exact nb e2 | obtain rfl := si e2 | cases e2)
      have := l.uniq T.new
      exact h1 a this.symm rfl (List.mem_cons_self)
    · have hy : y ≠ x := fun q => e1 (S.inj (q ▸ hj) hi)
      exact hn j y e hj e2 (T.back hy l)
noncomputable def storeD : List Nat → List (Bool × PyData) → St → Option St
  | [], [], σ => some σ
  | i :: is, vo :: vos, σ => storeD is vos (σ.set i (some vo))
  | _, _, _ => none
theorem stores_wp {E : Value → Shared → Prop} : ∀ {is : List Nat} {xs : List Str} {vs : List Value} {vos : List (Bool × PyData)} {as : List Addr} {s : Shared} {σ σ' : St} {ts : List (Value → Sem Unit)} {Q : Unit → Shared → Prop}, Ct C n sc A env base low F s σ → (is.map fun i => C.names[i]?) = xs.map some → (∀ x ∈ xs, MaySt C env base x) →
    (ts = xs.map fun x v => bindName env x v) ∨ (∃ ps : List Pos, ts = List.zipWith (fun x p => assign (.Name x p) env) xs ps ∧ ps.length = xs.length) → Pend C.H C.names env base low F s.heap σ vs vos as → storeD is vos σ = some σ' →
    (∀ s', Same s s' → Ct C n sc A env base low F s' σ' → Q () s') → wpAny (model C.prog C.w) A (assignInOrder ts vs) Q E s
  | [], xs, vs, vos, as, s, σ, σ', ts, Q, X, hx, hm, ht, hp, hs, h => by
    cases xs with
    | cons => simp at hx
    | nil =>
      cases vos with
      | cons => (first | exact ns hs | exact nb hs | obtain rfl := si hs | cases hs)
      | nil =>
        (first | exact ns hs | exact nb hs | obtain rfl := si hs | cases hs)
        have : ts = [] := by rcases ht with rfl | ⟨ps, rfl, _⟩ <;> rfl
        subst this
        exact PyProof.Rows.assignInOrder_nil (h s (.refl s) X)
  | i :: is, xs, vs, vos, as, s, σ, σ', ts, Q, X, hx, hm, ht, hp, hs, h => by
    cases xs with
    | nil => simp at hx
    | cons x xs =>
      cases vos with
      | nil => (first | exact ns hs | exact nb hs | obtain rfl := si hs | cases hs)
      | cons vo vos =>
        have hs : storeD is vos (σ.set i (some vo)) = some σ' := hs
        simp only [List.map_cons, List.cons.injEq] at hx
        obtain ⟨hi, hx⟩ := hx
        obtain ⟨v, vs', as', rfl, hvl, hd, hp', h1, h2⟩ : ∃ v vs' as', vs = v :: vs' ∧ Vl C.H F base low s.heap env.locals v vo ∧ (∀ a, v = .ref a → vo.1 = true → ∀ j y e, j ≠ i → C.names[j]? = some y → sget σ j = some (true, e) → ¬ Lk env s.heap y (.ref a)) ∧
            Pend C.H C.names env base low F s.heap σ vs' vos as' ∧ (∀ a, v = .ref a → vo.1 = true → a ∉ as') ∧ (vo.1 = false → R C.H F v vo.2) := by
          cases hp with
          | fz r p => exact ⟨_, _, _, rfl, .fz r, (fun _ _ e => nomatch e), p, (fun _ _ e => nomatch e), fun _ => r⟩
          | ow o hF hl hL hn ha p =>
            exact ⟨_, _, _, rfl, .ow o hF hl hL, (fun a e _ j y d _ hj hsj => by (first | exact ns e | exact nb e | obtain rfl := si e | cases e); exact hn j y d hj hsj), p, (fun a e _ => by (first | exact ns e | exact nb e | obtain rfl := si e | cases e); exact ha), fun e => nomatch e⟩
        have go : ∀ {Q' : Unit → Shared → Prop}, (∀ s1, Same s s1 → Ct C n sc A env base low F s1 (σ.set i (some vo)) → Pend C.H C.names env base low F s1.heap (σ.set i (some vo)) vs' vos as' → Q' () s1) → wpAny (model C.prog C.w) A (storeName env x v) Q' E s := fun k =>
          wp_store2 X.fs hi (hm x List.mem_cons_self).2 hvl hd fun s1 hs1 S1 T => k s1 hs1 (X.step X.k0 (fun e => T.fwd ((hm x List.mem_cons_self).1.ne e)) S1) (Pend.store X.fs hi T hp' h1 h2)
        rcases ht with rfl | ⟨ps, rfl, hl⟩
        · refine PyProof.Rows.assignInOrder_cons (wpAny_bindName (go fun s1 hs1 X1 P1 => ?_))
          exact stores_wp X1 hx (fun y hy => hm y (List.mem_cons_of_mem _ hy)) (.inl rfl) P1 hs fun s' hs' X' => h s' (hs1.trans hs') X'
        · cases ps with
          | nil => simp at hl
          | cons p ps =>
            refine PyProof.Rows.assignInOrder_cons (wpAny_assign_Name (go fun s1 hs1 X1 P1 => ?_))
            exact stores_wp X1 hx (fun y hy => hm y (List.mem_cons_of_mem _ hy)) (.inr ⟨ps, rfl, by simpa using hl⟩) P1 hs fun s' hs' X' => h s' (hs1.trans hs') X'
theorem Pend.ofR {h : Heap} : ∀ {vs ds}, RL C.H F vs ds → Pend C.H C.names env base low F h σ vs (ds.map fun d => (false, d)) [] := fun {_ _} r => RL.ind (P := fun vs ds => Pend C.H C.names env base low F h σ vs (ds.map fun d => (false, d)) []) .nil (fun x _ q => .fz x q) r
/-! unpacking -/
theorem draw_list {it l : Addr} {items : Array Value} (hne : l ≠ it) : ∀ (n i : Nat) (s : Shared) (Q : List Value → Shared → Prop), s.heap.IsListIter it l i → s.heap.IsList l items → i + n ≤ items.size →
    (∀ h', h'.IsListIter it l (i + n) → Heap.SameBut it s.heap h' → Q ((items.toList.drop i).take n) { s with heap := h' }) → Wp C A (draw (.ref it) n) Q s
  | 0, i, s, Q, hit, _, _, hQ => by
    show Wp _ _ (pure []) Q s
    exact wpAny_pure (by simpa using hQ s.heap hit (Heap.SameBut.refl ..))
  | n + 1, i, s, Q, hit, ht, hle, hQ => by
    have hlt : i < items.size := by omega
    show Wp _ _ (pyNext (.ref it) >>= _) Q s
    refine wpAny_bind (wpAny_pyNext_list_item hit ht (x := items[i]) (by simp [hlt]) fun h₁ hit₁ hs₁ => ?_)
    refine wpAny_bind (wpAny_holding (draw_list hne n (i + 1) _ _ hit₁ (ht.extBut hs₁.extBut hne) (by omega) fun h₂ hit₂ hs₂ => wpAny_pure ?_))
    have hd : items.toList.drop i = items[i] :: items.toList.drop (i + 1) := by simp [List.drop_eq_getElem_cons, hlt]
    have := hQ h₂ (by rw [show i + (n + 1) = i + 1 + n by omega]; exact hit₂) (hs₁.trans hs₂)
    rw [hd, List.take_succ_cons] at this
    exact this
theorem unpackItems_list {t : Addr} {items : Array Value} {Q : List Value → Shared → Prop} (hh : A.handled = none) (ht : s.heap.IsList t items)
    (hQ : ∀ h', Heap.ExtBut s.heap.objs.size s.heap h' → Q items.toList { s with heap := h' }) : Wp C A (unpackItems (.ref t) items.size none) Q s := by
  have hlt : t ≠ s.heap.objs.size := by obtain ⟨o, ho, _⟩ := ht; exact Nat.ne_of_lt (Heap.lt_size ho)
  unfold unpackItems
  refine wpAny_bind ?_
  · unfold notIterableAtAll
    refine wpAny_bind (wpAny_specialOf ht.typeIs slot_list_iter.lookup ?_)
    refine wpAny_pure ?_
    first | with_reducible refine w_false ?_ | with_reducible refine wb_false ?_ | rw [if_neg Bool.false_ne_true]
    refine wpAny_bind (wpAny_holding (wpAny_pyIter_list ht ?_))
    refine wpAny_bind (wpAny_holding (draw_list hlt items.size 0 _ _ ⟨_, Heap.get?_push_size _ rfl, rfl, rfl⟩ (ht.push _) (by omega) fun h₁ hit₁ hs₁ => ?_))
    have hall : List.take items.size (List.drop 0 items.toList) = items.toList := by
      rw [List.drop_zero]; exact List.take_of_length_le (by simp)
    rw [hall]
    first | with_reducible refine w_neg (by simp) ?_ | with_reducible refine wb_neg (by simp) ?_ | rw [if_neg (by simp)]
    have ht₁ : h₁.IsList t items := (ht.push _).extBut hs₁.extBut hlt
    refine wpAny_bind (wpAny_holding (wpAny_pyNext_list_end hh hit₁ ht₁ (by simp) fun h₂ he₂ => ?_))
    simp only [Option.isSome_none, Bool.false_eq_true, if_false]
    refine wpAny_pure (hQ h₂ fun b o hb e => he₂ b o hb (hs₁.extBut b o hb (Heap.get?_push_of_some _ e)))
theorem ext_keep {h h' : Heap} (k : Heap.ExtBut h.objs.size h h') : ∀ b o, h.get? b = some o → h'.get? b = some o := fun b o e => k b o (Nat.ne_of_lt (Heap.lt_size e)) e
noncomputable def unpD (k : Nat) : PyData → Option (List PyData)
  | .tuple ds => if ds.length = k then some ds else none
  | .list ds => if ds.length = k then some ds else none
  | _ => none
theorem unpack_wp {v : Value} {d : PyData} {k : Nat} {ds : List PyData} (hh : A.handled = none) (hs : Sat F s.heap) (r : R C.H F v d) (h : unpD k d = some ds) : Wp C A (unpackItems v k none) (fun vs s' => Grow F s F s' ∧ RL C.H F vs ds) s := by
  cases r with
  | @tuple a ws m ds ho rl =>
    obtain ⟨hl, h⟩ := ite_some h
    (first | exact ns h | exact nb h | obtain rfl := si h | cases h)
    have e : k = ws.size := by rw [← hl, rl_arr rl]
    subst e
    exact wpAny_unpackItems_tuple hh ⟨_, hs _ _ ho, rfl, m, rfl⟩ fun h' eb => ⟨.ofKeep hs (ext_keep eb) rfl rfl rfl, rl⟩
  | @list a ws m ds ho rl =>
    obtain ⟨hl, h⟩ := ite_some h
    (first | exact ns h | exact nb h | obtain rfl := si h | cases h)
    have e : k = ws.size := by rw [← hl, rl_arr rl]
    subst e
    exact unpackItems_list hh ⟨_, hs _ _ ho, rfl, m, rfl⟩ fun h' eb => ⟨.ofKeep hs (ext_keep eb) rfl rfl rfl, rl⟩
  | _ => (first | exact ns h | exact nb h | obtain rfl := si h | cases h)
/-! targets: a name, or a tuple of names -/
inductive SndTg (C : Cx) : Expr → (PyData → St → Option St) → List Str → Prop
  | name {i x pos} : C.names[i]? = some x → SndTg C (.Name x pos) (fun d σ => some (σ.set i (some (false, d)))) [x]
  | tuple {elts k pos} {is : List Nat} {xs : List Str} {ps : List Pos} : (∀ env, assignEach elts env = List.zipWith (fun x p => (false, assign (.Name x p) env)) xs ps) → ps.length = xs.length → (is.map fun i => C.names[i]?) = xs.map some →
      SndTg C (.Tuple elts k pos) (fun d σ => match unpD is.length d with | some ds => storeD is (ds.map fun d => (false, d)) σ | none => none) xs
theorem zip_snd (xs : List Str) (ps : List Pos) (env : Env) : (List.zipWith (fun x p => (false, assign (.Name x p) env)) xs ps).map (·.2) = List.zipWith (fun x p => assign (.Name x p) env) xs ps := by
  rw [List.map_zipWith]
theorem zip_star : ∀ (xs : List Str) (ps : List Pos) (env : Env), (List.zipWith (fun x p => (false, assign (.Name x p) env)) xs ps).findIdx? (·.1) = none
  | [], _, _ => rfl
  | _ :: _, [], _ => rfl
  | x :: xs, p :: ps, env => by
    simp only [List.zipWith_cons_cons, List.findIdx?_cons, zip_star xs ps env]; rfl
theorem target_wp {tg : Expr} {g : PyData → St → Option St} {xs : List Str} {v : Value} {d : PyData} {σ' : St} {E : Value → Shared → Prop} {Q : Unit → Shared → Prop} (T : SndTg C tg g xs) (X : Ct C n sc A env base low F s σ) (hm : ∀ x ∈ xs, MaySt C env base x) (r : R C.H F v d) (hg : g d σ = some σ')
    (h : ∀ s', Same s s' → Ct C n sc A env base low F s' σ' → Q () s') : wpAny (model C.prog C.w) A (assign tg env v) Q E s := by
  cases T with
  | name hi =>
    (first | exact ns hg | exact nb hg | obtain rfl := si hg | cases hg)
    refine wpAny_assign_Name (wp_store2 X.fs hi (hm _ List.mem_cons_self).2 (.fz r) (fun _ _ e => nomatch e) fun s' hs' S' T => ?_)
    exact h s' hs' (X.step X.k0 (fun e => T.fwd ((hm _ List.mem_cons_self).1.ne e)) S')
  | @tuple elts k pos is xs ps he hl hx =>
    dsimp only at hg
    cases hu : unpD is.length d with
    | none => rw [hu] at hg; (first | exact ns hg | exact nb hg | obtain rfl := si hg | cases hg)
    | some ds =>
      rw [hu] at hg
      dsimp only at hg
      have len : is.length = xs.length := by have := congrArg List.length hx; simpa using this
      rw [arm_assign_Tuple]
      refine wpAny_bind (wpAny_standAt ?_)
      unfold unpack
      rw [he, zip_star, zip_snd, List.length_zipWith, hl, Nat.min_self, ← len]
      refine wpAny_bind (wpAny_holding (wpAny_mono (unpack_wp X.room.hand X.sat r hu) (fun vs s1 ⟨g1, r1⟩ => ?_) fun _ _ e => e.elim))
      exact stores_wp (X.grow g1) hx hm (.inr ⟨ps, rfl, hl⟩) (.ofR r1) hg fun s' hs' X' => h s' (Same.trans ⟨g1.gens, g1.drawn, g1.os⟩ hs') X'
end Ev
set_option maxRecDepth 10000
namespace Ev
open PySem PySem.W PySem.Spec PySem.Calls PyProof.Rows PySem.SeqAt
variable {C : Cx} {n : Nat} {sc : Scope} {A : Around} {env : Env} {base : Fz} {low : Fz} {F F' : Fz} {s s' : Shared} {σ : St}
/-! an own object changes while others are made -/
theorem Fs.setOwnX {H : PyData → Int} {names : List Str} {h h' : Heap} (S : Fs H names env base low F h σ) {i : Nat} {x : Str} {a : Addr} {d d' : PyData} (hi : names[i]? = some x) (hσ : sget σ i = some (true, d)) (hl : Lk env h x (.ref a)) (hba : base a = none)
    (hn : Ow H F h' a d') (hs : ∀ b o, b ≠ a → h.get? b = some o → h'.get? b = some o) : Fs H names env base low F h' (σ.set i (some (true, d'))) := by
  obtain ⟨a', hl', ho, hFa, hbat, hLa⟩ := S.own i x d hi hσ
  cases hl.uniq hl'
  obtain ⟨m, hm⟩ := S.ns
  have hm' : h'.Ns env.locals m := let ⟨o, es, ep, e, r⟩ := hm; ⟨o, es, ep, hs _ _ (Ne.symm hLa) e, r⟩
  have cellk : ∀ {c v}, h.IsCell c v → h'.IsCell c v := fun {c v} ic => let ⟨o, e, r⟩ := ic; ⟨o, hs c o (fun q => ho.not_cell (q ▸ ic)) e, r⟩
  have old : ∀ {y : Str} {u : Value}, Lk env h y u → Lk env h' y u := fun {y u} l => by
    cases l with
    | loc k n e => exact .loc k hm' (ns_uniq n hm ▸ e)
    | cell k c2 ic => exact .cell k c2 (cellk ic)
    | free k c2 ic => exact .free k c2 (cellk ic)
  have back : ∀ {y : Str} {u : Value}, Lk env h' y u → Lk env h y u := fun {y u} l => by
    cases l with
    | loc k n e => exact .loc k hm (by rw [ns_uniq n hm'] at e; exact e)
    | cell k c2 ic =>
      obtain ⟨c, v, h1, h2, _⟩ := S.cell y k
      rw [c2] at h1; (first | exact ns h1 | exact nb h1 | obtain rfl := si h1 | cases h1)
      cases cell_uniq ic (cellk h2)
      exact .cell k c2 h2
    | free k c2 ic =>
      obtain ⟨o, e⟩ := S.free _ _ k c2
      obtain ⟨o', ho', hd'⟩ := ic
      have h1 := S.sat _ _ e
      have h2 := hs _ _ (fun q => by rw [q, hFa] at e; (first | exact ns e | exact nb e | obtain rfl := si e | cases e)) h1
      rw [ho'] at h2; (first | exact ns h2 | exact nb h2 | obtain rfl := si h2 | cases h2)
      exact .free k c2 ⟨_, h1, hd'⟩
  exact {
    kind := S.kind, glob := S.glob, blt := S.blt, nodup := S.nodup
    keep := fun b o e => hs b o (fun q => by subst q; rw [hba] at e; (first | exact ns e | exact nb e | obtain rfl := si e | cases e)) (S.keep b o e)
    keepL := fun b o e => hs b o (fun q => by subst q; rw [hbat] at e; (first | exact ns e | exact nb e | obtain rfl := si e | cases e)) (S.keepL b o e)
    sat := fun b o e => hs b o (fun q => by subst q; rw [hFa] at e; (first | exact ns e | exact nb e | obtain rfl := si e | cases e)) (S.sat b o e)
    ns := ⟨_, hm'⟩
    LF := S.LF, Lb := S.Lb, Ll := S.Ll
    cell := fun y hy => by
      obtain ⟨c2, u, h1, h2, h3, h4⟩ := S.cell y hy
      exact ⟨c2, u, h1, cellk h2, h3, h4⟩
    cinj := S.cinj
    free := S.free
    vars := fun j y e hj he => by
      rcases sget_set_some he with ⟨e1, e2⟩ | ⟨e1, e2⟩
      · (first | exact ns e2 | exact nb e2 | obtain rfl := si e2 | cases e2)
      · obtain ⟨u, l, r⟩ := S.vars j y e hj e2; exact ⟨u, old l, r⟩
    own := fun j y e hj he => by
      rcases sget_set_some he with ⟨e1, e2⟩ | ⟨e1, e2⟩
      · subst e1; rw [hi] at hj; (first | exact ns hj | exact nb hj | obtain rfl := si hj | cases hj); cases e2; exact ⟨a, old hl, hn, hFa, hbat, hLa⟩
      · obtain ⟨b, l, o, f, b', n⟩ := S.own j y e hj e2
        refine ⟨b, old l, o.grow (Sub.refl F) fun o' q => hs b o' (fun q' => ?_) q, f, b', n⟩
        subst q'
        exact e1 (S.oinj j i y x e d b hj hi e2 hσ l hl)
    oinj := fun j k y z e f b hj hk' hje hkf ly lz => by
      rcases sget_set_some hje with ⟨e1, e2⟩ | ⟨e1, e2⟩ <;> rcases sget_set_some hkf with ⟨f1, f2⟩ | ⟨f1, f2⟩
      · exact e1.trans f1.symm
      · subst e1; exact S.oinj _ _ _ _ _ _ _ hj hk' hσ f2 (back ly) (back lz)
      · subst f1; exact S.oinj _ _ _ _ _ _ _ hj hk' e2 hσ (back ly) (back lz)
      · exact S.oinj _ _ _ _ _ _ _ hj hk' e2 f2 (back ly) (back lz) }
/-! statements -/
inductive Fl where
  | next
  | ret (d : PyData)
noncomputable def Rel (base : Fz) (F : Fz) (s : Shared) (F' : Fz) (s' : Shared) : Prop := Sub F F' ∧ (∀ a o, F' a = some o → F a = some o ∨ base a = none) ∧ Same s s'
theorem Rel.refl (F : Fz) (s : Shared) : Rel base F s F s := ⟨Sub.refl F, fun _ _ e => .inl e, .refl s⟩
theorem Rel.trans {F'' : Fz} {s'' : Shared} (x : Rel base F s F' s') (y : Rel base F' s' F'' s'') : Rel base F s F'' s'' := ⟨x.1.trans y.1, fun a o e => (y.2.1 a o e).elim (x.2.1 a o) .inr, x.2.2.trans y.2.2⟩
theorem Rel.grow (X : Ct C n sc A env base base F s σ) (g : Grow F s F' s') : Rel base F s F' s' := ⟨g.sub, (fun a o e => (g.fresh a o e).imp id fun h => by
  cases q : base a with
  | none => rfl
  | some o' => rw [X.fs.keep a o' q] at h; (first | exact ns h | exact nb h | obtain rfl := si h | cases h)), ⟨g.gens, g.drawn, g.os⟩⟩
theorem Rel.same (h : Same s s') : Rel base F s F s' := ⟨Sub.refl F, fun _ _ e => .inl e, h⟩
noncomputable def PostS (C : Cx) (n : Nat) (sc : Scope) (A : Around) (env : Env) (base F : Fz) (s : Shared) : Fl × St → Flow → Shared → Prop
  | (.next, σ'), fl, s' => fl = .next ∧ ∃ F', Rel base F s F' s' ∧ Ct C n sc A env base base F' s' σ'
  | (.ret d, _), fl, s' => ∃ v, fl = .ret v ∧ ∃ F', Rel base F s F' s' ∧ R C.H F' v d ∧ (∀ b o, base b = some o → s'.heap.get? b = some o) ∧ Sat F' s'.heap
noncomputable abbrev Sm := St → Option (Fl × St)
noncomputable def SndS (C : Cx) (n : Nat) (sc : Scope) (st : Stmt) (f : Sm) : Prop :=
  ∀ {A env base F s σ r}, Ct C n sc A env base base F s σ → f σ = some r → Wp C A (exec st env) (PostS C n sc A env base F s r) s
noncomputable def SndSs (C : Cx) (n : Nat) (sc : Scope) (sts : List Stmt) (f : Sm) : Prop :=
  ∀ {A env base F s σ r}, Ct C n sc A env base base F s σ → f σ = some r → Wp C A (execs sts env) (PostS C n sc A env base F s r) s
theorem PostS.of {r : Fl × St} {fl : Flow} {s'' : Shared} (h : Rel base F s F' s') (p : PostS C n sc A env base F' s' r fl s'') : PostS C n sc A env base F s r fl s'' := by
  obtain ⟨f, σ'⟩ := r
  cases f with
  | next => obtain ⟨e, F2, r2, X⟩ := p; exact ⟨e, F2, h.trans r2, X⟩
  | ret d => obtain ⟨v, e, F2, r2, rv, k, sa⟩ := p; exact ⟨v, e, F2, h.trans r2, rv, k, sa⟩
noncomputable def skipC : Sm := fun σ => some (.next, σ)
noncomputable def seqC2 (f g : Sm) : Sm := fun σ => match f σ with
  | some (.next, σ') => g σ'
  | r => r
theorem SndSs.nil : SndSs C n sc [] skipC := fun {A env base F s σ r} X h => by
  (first | exact ns h | exact nb h | obtain rfl := si h | cases h); exact wpAny_execs_nil ⟨rfl, F, .refl F s, X⟩
theorem SndSs.cons {st : Stmt} {sts : List Stmt} {f g : Sm} (h1 : SndS C n sc st f) (h2 : SndSs C n sc sts g) : SndSs C n sc (st :: sts) (seqC2 f g) := fun {A env base F s σ r} X h => by
  unfold seqC2 at h
  refine wpAny_execs_cons ?_
  cases e : f σ with
  | none => rw [e] at h; (first | exact ns h | exact nb h | obtain rfl := si h | cases h)
  | some r1 =>
    obtain ⟨fl1, σ1⟩ := r1
    cases fl1 with
    | next =>
      rw [e] at h
      refine wp_mono (h1 X e) fun fl s1 p => ?_
      obtain ⟨rfl, F1, r1, X1⟩ := p
      exact wp_mono (h2 X1 h) fun _ _ q => .of r1 q
    | ret d =>
      rw [e] at h
      (first | exact ns h | exact nb h | obtain rfl := si h | cases h)
      refine wp_mono (h1 X e) fun fl s1 p => ?_
      obtain ⟨v, rfl, rest⟩ := p
      exact ⟨v, rfl, rest⟩
theorem SndSs.one {st : Stmt} {f : Sm} (h1 : SndS C n sc st f) : SndSs C n sc [st] f := fun {A env base F s σ r} X h => by
  refine wpAny_execs_cons (wp_mono (h1 X h) fun fl s1 p => ?_)
  obtain ⟨fl1, σ1⟩ := r
  cases fl1 with
  | next => obtain ⟨rfl, rest⟩ := p; exact wpAny_execs_nil ⟨rfl, rest⟩
  | ret d => obtain ⟨v, rfl, rest⟩ := p; exact ⟨v, rfl, rest⟩
noncomputable def setC (i : Nat) (f : St → Option PyData) : Sm := fun σ => match f σ with
  | some d => some (.next, σ.set i (some (false, d)))
  | none => none
noncomputable def ownC (i : Nat) (f : St → Option PyData) : Sm := fun σ => match f σ with
  | some d => some (.next, σ.set i (some (true, d)))
  | none => none
theorem Ct.not_held {i : Nat} {x : Str} {e : PyData} {a : Addr} {s1 : Shared} (X : Ct C n sc A env base low F s σ) (g : Grow F s F' s1) (ha : s.heap.get? a = none) (hi : C.names[i]? = some x) (hs : sget σ i = some (true, e)) : ¬ Lk env s1.heap x (.ref a) := fun l => by
  obtain ⟨b, l', o, _⟩ := X.fs.own i x e hi hs
  cases l.uniq (l'.keeps g.keep)
  obtain ⟨o', h⟩ := o.there
  rw [h] at ha; (first | exact ns ha | exact nb ha | obtain rfl := si ha | cases ha)
theorem Ct.low_none {a : Addr} (X : Ct C n sc A env base low F s σ) (ha : s.heap.get? a = none) : base a = none ∧ low a = none ∧ a ≠ env.locals := by
  refine ⟨?_, ?_, ?_⟩
  · cases q : base a with
    | none => rfl
    | some o' => rw [X.fs.keep a o' q] at ha; (first | exact ns ha | exact nb ha | obtain rfl := si ha | cases ha)
  · cases q : low a with
    | none => rfl
    | some o' => rw [X.fs.keepL a o' q] at ha; (first | exact ns ha | exact nb ha | obtain rfl := si ha | cases ha)
  · rintro rfl
    obtain ⟨m, o, es, ep, ho, _⟩ := X.fs.ns
    rw [ho] at ha; (first | exact ns ha | exact nb ha | obtain rfl := si ha | cases ha)
theorem SndS.assign {i : Nat} {x : Str} {p pos : Pos} {e : Expr} {f : St → Option PyData} (hi : C.names[i]? = some x) (hk : MayS C sc x) (he : Snd C n sc e f)
    (hs : ∀ env, swapsWith e (some (.Name x p)) pos.line env = pure false := by intro _; rfl) : SndS C n sc (.Assign [.Name x p] e pos) (setC i f) := fun {A env base F s σ r} X h => by
  unfold setC at h
  cases e1 : f σ with
  | none => rw [e1] at h; (first | exact ns h | exact nb h | obtain rfl := si h | cases h)
  | some d =>
    rw [e1] at h; (first | exact ns h | exact nb h | obtain rfl := si h | cases h)
    refine PySem.wpAny_Assign_Name (wp_mono (he X e1) fun v s1 ⟨F1, g1, r1⟩ => ?_) (hs env)
    have X1 := X.grow g1
    refine wp_store2 X1.fs hi (MaySt.def X1 hk).2 (.fz r1) (fun _ _ e => nomatch e) fun s' hs' S' T => ?_
    exact ⟨rfl, F1, (Rel.grow X g1).trans (.same hs'), X1.step X1.k0 (fun e => T.fwd (hk.2.ne e)) S'⟩
theorem SndS.assignO {i : Nat} {x : Str} {p pos : Pos} {e : Expr} {f : St → Option PyData} (hi : C.names[i]? = some x) (hk : MayS C sc x) (he : SndO C n sc e f)
    (hs : ∀ env, swapsWith e (some (.Name x p)) pos.line env = pure false := by intro _; rfl) : SndS C n sc (.Assign [.Name x p] e pos) (ownC i f) := fun {A env base F s σ r} X h => by
  unfold ownC at h
  cases e1 : f σ with
  | none => rw [e1] at h; (first | exact ns h | exact nb h | obtain rfl := si h | cases h)
  | some d =>
    rw [e1] at h; (first | exact ns h | exact nb h | obtain rfl := si h | cases h)
    refine PySem.wpAny_Assign_Name (wp_mono (he X e1) fun v s1 ⟨F1, a, hv, g1, h1, h2, ow⟩ => ?_) (hs env)
    subst hv
    have X1 := X.grow g1
    obtain ⟨q1, q2, q3⟩ := X.low_none h2
    refine wp_store2 X1.fs hi (MaySt.def X1 hk).2 (.ow ow h1 q1 q3) (fun a' e _ j y e' _ hj hs' => by (first | exact ns e | exact nb e | obtain rfl := si e | cases e); exact X.not_held g1 h2 hj hs') fun s' hs' S' T => ?_
    exact ⟨rfl, F1, (Rel.grow X g1).trans (.same hs'), X1.step X1.k0 (fun e => T.fwd (hk.2.ne e)) S'⟩
noncomputable def freeC (i : Nat) (f : Sm) : Sm := fun σ => match sget σ i with
  | some (true, d) => f (σ.set i (some (false, d)))
  | _ => none
theorem Ct.freeze {i : Nat} {d : PyData} (X : Ct C n sc A env base base F s σ) (h : sget σ i = some (true, d)) (hi : i < C.names.length) : ∃ F', Rel base F s F' s ∧ Ct C n sc A env base base F' s (σ.set i (some (false, d))) := by
  obtain ⟨F', h1, h2, S⟩ := X.fs.freeze h hi
  exact ⟨F', ⟨h1, h2, .refl s⟩, X.step X.k0 (fun _ l => l) S⟩
theorem SndS.free {i : Nat} {st : Stmt} {f : Sm} (hi : i < C.names.length) (h : SndS C n sc st f) : SndS C n sc st (freeC i f) := fun {A env base F s σ r} X hf => by
  have : ∃ d, sget σ i = some (true, d) ∧ f (σ.set i (some (false, d))) = some r := by
    unfold freeC at hf
    rcases e : sget σ i with _ | ⟨b, d⟩
    · rw [e] at hf; (first | exact ns hf | exact nb hf | obtain rfl := si hf | cases hf)
    · rw [e] at hf
      cases b with
      | true => exact ⟨d, rfl, hf⟩
      | false => (first | exact ns hf | exact nb hf | obtain rfl := si hf | cases hf)
  obtain ⟨d, e, hf⟩ := this
  obtain ⟨F1, r1, X1⟩ := X.freeze e hi
  exact wp_mono (h X1 hf) fun _ _ q => .of r1 q
noncomputable def retC (f : St → Option PyData) : Sm := fun σ => match f σ with
  | some d => some (.ret d, σ)
  | none => none
theorem SndS.ret {e : Expr} {pos : Pos} {f : St → Option PyData} (he : Snd C n sc e f) : SndS C n sc (.Return (some e) pos) (retC f) := fun {A env base F s σ r} X h => by
  unfold retC at h
  cases e1 : f σ with
  | none => rw [e1] at h; (first | exact ns h | exact nb h | obtain rfl := si h | cases h)
  | some d =>
    rw [e1] at h; (first | exact ns h | exact nb h | obtain rfl := si h | cases h)
    refine wpAny_Return_some (wp_mono (he X e1) fun v s1 ⟨F1, g1, r1⟩ => ?_)
    exact ⟨v, rfl, F1, .grow X g1, r1, fun b o q => g1.keep b o (X.fs.keep b o q), g1.sat⟩
noncomputable def ifS (t : St → Option Bool) (f g : Sm) : Sm := fun σ => match t σ with
  | some true => f σ
  | some false => g σ
  | none => none
theorem SndS.ifs {test : Expr} {body orelse : List Stmt} {pos : Pos} {t : St → Option Bool} {f g : Sm} (ht : SndT C n sc test t) (hf : SndSs C n sc body f) (hg : SndSs C n sc orelse g) : SndS C n sc (.If test body orelse pos) (ifS t f g) := fun {A env base F s σ r} X h => by
  unfold ifS at h
  split at h
  · rename_i e
    refine wpAny_If (wp_mono (ht X e) fun b s1 ⟨eb, F1, g1⟩ => ?_)
    subst eb
    first | with_reducible refine w_true ?_ | with_reducible refine wb_true ?_ | rw [if_pos rfl]
    exact wp_mono (hf (X.grow g1) h) fun _ _ q => .of (.grow X g1) q
  · rename_i e
    refine wpAny_If (wp_mono (ht X e) fun b s1 ⟨eb, F1, g1⟩ => ?_)
    subst eb
    first | with_reducible refine w_false ?_ | with_reducible refine wb_false ?_ | rw [if_neg Bool.false_ne_true]
    exact wp_mono (hg (X.grow g1) h) fun _ _ q => .of (.grow X g1) q
  · (first | exact ns h | exact nb h | obtain rfl := si h | cases h)
/-! assignments of tuples -/
noncomputable def asgC (g : PyData → St → Option St) (f : St → Option PyData) : Sm := fun σ => match f σ with
  | some d => match g d σ with
    | some σ' => some (.next, σ')
    | none => none
  | none => none
theorem SndS.assignT {elts : List Expr} {k : Nat} {tp pos : Pos} {e : Expr} {f : St → Option PyData} {g : PyData → St → Option St} {xs : List Str} (T : SndTg C (.Tuple elts k tp) g xs) (hk : ∀ x ∈ xs, MayS C sc x) (he : Snd C n sc e f)
    (hs : ∀ env, swapsWithSole [.Tuple elts k tp] e pos.line env = pure false := by intro _; rfl) (hw : ∀ env, env.scope = sc → swappedStores [.Tuple elts k tp] e env = pure none) :
    SndS C n sc (.Assign [.Tuple elts k tp] e pos) (asgC g f) := fun {A env base F s σ r} X h => by
  unfold asgC at h
  cases e1 : f σ with
  | none => rw [e1] at h; (first | exact ns h | exact nb h | obtain rfl := si h | cases h)
  | some d =>
    rw [e1] at h
    dsimp only at h
    cases e2 : g d σ with
    | none => rw [e2] at h; (first | exact ns h | exact nb h | obtain rfl := si h | cases h)
    | some σ' =>
      rw [e2] at h; (first | exact ns h | exact nb h | obtain rfl := si h | cases h)
      refine PyProof.Rows.Assign_Tuple (wp_mono (he X e1) fun v s1 ⟨F1, g1, r1⟩ => ?_) (hs env) (hw env X.scope)
      have X1 := X.grow g1
      exact target_wp T X1 (fun x hx => MaySt.def X1 (hk x hx)) r1 e2 fun s' hs' X' => ⟨rfl, F1, (Rel.grow X g1).trans (.same hs'), X'⟩
inductive SndMs (C : Cx) (n : Nat) (sc : Scope) : List Expr → List (Bool × (St → Option PyData)) → Prop
  | nil : SndMs C n sc [] []
  | fz {e es f fs} : Snd C n sc e f → SndMs C n sc es fs → (∀ r env, starEach (e :: r) env = (false, eval e env) :: starEach r env) → SndMs C n sc (e :: es) ((false, f) :: fs)
  | ow {e es f fs} : SndO C n sc e f → SndMs C n sc es fs → (∀ r env, starEach (e :: r) env = (false, eval e env) :: starEach r env) → SndMs C n sc (e :: es) ((true, f) :: fs)
noncomputable def msC : List (Bool × (St → Option PyData)) → St → Option (List (Bool × PyData))
  | [], _ => some []
  | (b, f) :: fs, σ => match f σ with
    | some d => match msC fs σ with
      | some r => some ((b, d) :: r)
      | none => none
    | none => none
theorem msC_cons {b : Bool} {f : St → Option PyData} {fs r} (h : msC ((b, f) :: fs) σ = some r) : ∃ d r', f σ = some d ∧ msC fs σ = some r' ∧ r = (b, d) :: r' := by
  have h : (match f σ with | some d => (match msC fs σ with | some r => some ((b, d) :: r) | none => none) | none => none) = some _ := h
  cases e1 : f σ with
  | none => rw [e1] at h; (first | exact ns h | exact nb h | obtain rfl := si h | cases h)
  | some d =>
    cases e2 : msC fs σ with
    | none => rw [e1] at h; have h : (match msC fs σ with | some r => some ((b, d) :: r) | none => none) = some _ := h; rw [e2] at h; (first | exact ns h | exact nb h | obtain rfl := si h | cases h)
    | some r' => rw [e1] at h; have h : (match msC fs σ with | some r => some ((b, d) :: r) | none => none) = some _ := h; rw [e2] at h; (first | exact ns h | exact nb h | obtain rfl := si h | cases h); exact ⟨_, _, rfl, rfl, rfl⟩
theorem Pend.grow {s s1 : Shared} (X : Ct C n sc A env base low F s σ) (g : Grow F s F' s1) : ∀ {vs vos as}, Pend C.H C.names env base low F s.heap σ vs vos as → Pend C.H C.names env base low F' s1.heap σ vs vos as := by
  intro vs vos as hp
  induction hp with
  | nil => exact .nil
  | fz r p ih => exact .fz (r.mono g.sub) ih
  | ow o hF hl hL hn ha p ih =>
    obtain ⟨ob, hob⟩ := o.there
    refine .ow (o.grow g.sub (g.keep _)) (g.off hF hob) hl hL (fun j y e hj hs l => ?_) ha ih
    obtain ⟨b, l', _⟩ := X.fs.own j y e hj hs
    cases l.uniq (l'.keeps g.keep)
    exact hn j y e hj hs l'
theorem parts_wp {pos : Pos} : ∀ {es fs}, SndMs C n sc es fs → ∀ {A env base low F s σ ds}, Ct C n sc A env base low F s σ → msC fs σ = some ds →
    Wp C A (spliced (backTo pos (starEach es env))) (fun vs s' => ∃ F' as, Grow F s F' s' ∧ Pend C.H C.names env base low F' s'.heap σ vs ds as ∧ ∀ a ∈ as, s.heap.get? a = none) s := by
  intro es fs hes
  induction hes with
  | nil => intro _ _ _ _ _ _ _ _ X h; (first | exact ns h | exact nb h | obtain rfl := si h | cases h); exact spliced_nil ⟨_, [], .refl X.sat, .nil, fun _ h => by cases h⟩
  | fz he r hs ih =>
    intro _ _ _ _ _ _ _ _ X h
    obtain ⟨d, ds', h1, h2, rfl⟩ := msC_cons h
    rw [hs]
    refine spliced_cons (wp_mono (he X h1) fun v s1 ⟨F1, g1, r1⟩ => ?_)
    exact wp_mono (ih (X.grow g1) h2) fun vs s2 ⟨F2, as, g2, p2, q2⟩ => ⟨F2, as, g1.trans g2, .fz (r1.mono g2.sub) p2, fun a ha => g1.fresh_back (q2 a ha)⟩
  | ow he r hs ih =>
    intro _ _ _ _ _ _ _ _ X h
    obtain ⟨d, ds', h1, h2, rfl⟩ := msC_cons h
    rw [hs]
    refine spliced_cons (wp_mono (he X h1) fun v s1 ⟨F1, a, e1, g1, ha1, ha2, ow⟩ => ?_)
    subst e1
    refine wp_mono (ih (X.grow g1) h2) fun vs s2 ⟨F2, as, g2, p2, q2⟩ => ⟨F2, a :: as, g1.trans g2, ?_, fun b hb => ?_⟩
    · obtain ⟨ob, hob⟩ := ow.there
      obtain ⟨_, q, q'⟩ := X.low_none ha2
      exact .ow (ow.grow g2.sub (g2.keep _)) (g2.off ha1 hob) q q' (fun j y e hj hs' => X.not_held (g1.trans g2) ha2 hj hs') (fun hm => by rw [q2 a hm] at hob; (first | exact ns hob | exact nb hob | obtain rfl := si hob | cases hob)) p2
    · rcases List.mem_cons.mp hb with rfl | hb
      · exact ha2
      · exact g1.fresh_back (q2 b hb)
noncomputable def asgM (is : List Nat) (rev : Bool) (fs : List (Bool × (St → Option PyData))) : Sm := fun σ => match msC fs σ with
  | some ds => if ds.length = is.length then (match (if rev then storeD is.reverse ds.reverse σ else storeD is ds σ) with
    | some σ' => some (.next, σ')
    | none => none) else none
  | none => none
theorem Pend.length {h : Heap} {vs vos as} (p : Pend C.H C.names env base low F h σ vs vos as) : vs.length = vos.length := by
  induction p with
  | nil => rfl
  | fz _ _ ih => exact congrArg (· + 1) ih
  | ow _ _ _ _ _ _ _ ih => exact congrArg (· + 1) ih
theorem Pend.append {h : Heap} {vs vos as ws wos bs} (p : Pend C.H C.names env base low F h σ vs vos as) (q : Pend C.H C.names env base low F h σ ws wos bs) : (∀ a ∈ as, a ∉ bs) → Pend C.H C.names env base low F h σ (vs ++ ws) (vos ++ wos) (as ++ bs) := by
  induction p with
  | nil => exact fun _ => q
  | fz r _ ih => exact fun h => .fz r (ih h)
  | ow o hF hl hL hn ha _ ih => exact fun h => .ow o hF hl hL hn (fun hm => (List.mem_append.mp hm).elim ha (h _ List.mem_cons_self)) (ih fun a hm => h a (List.mem_cons_of_mem _ hm))
theorem Pend.reverse {h : Heap} {vs vos as} (p : Pend C.H C.names env base low F h σ vs vos as) : Pend C.H C.names env base low F h σ vs.reverse vos.reverse as.reverse := by
  induction p with
  | nil => exact .nil
  | fz r _ ih =>
    rw [List.reverse_cons, List.reverse_cons]
    have := ih.append (.fz r .nil) (fun _ _ h => nomatch h)
    rwa [List.append_nil] at this
  | ow o hF hl hL hn ha _ ih =>
    rw [List.reverse_cons, List.reverse_cons, List.reverse_cons]
    exact ih.append (.ow o hF hl hL hn List.not_mem_nil .nil) (fun a hm hb => ha (List.mem_reverse.mp (List.mem_singleton.mp hb ▸ hm)))
theorem SndS.assignM {elts es : List Expr} {k k' : Nat} {tp ep pos : Pos} {is : List Nat} {xs : List Str} {ps : List Pos} {fs : List (Bool × (St → Option PyData))} (he : ∀ env, assignEach elts env = List.zipWith (fun x p => (false, PySem.assign (.Name x p) env)) xs ps) (hl : ps.length = xs.length) (hx : (is.map fun i => C.names[i]?) = xs.map some)
    (hk : ∀ x ∈ xs, MayS C sc x) (h : SndMs C n sc es fs) (rev : Bool) (h64 : fs.length ≤ 16)
    (hs : ∀ env, swapsWithSole [.Tuple elts k tp] (.Tuple es k' ep) pos.line env = pure false := by intro _; rfl) (hw : ∀ env, env.scope = sc → swappedStores [.Tuple elts k tp] (.Tuple es k' ep) env = pure (if rev then some xs else none)) :
    SndS C n sc (.Assign [.Tuple elts k tp] (.Tuple es k' ep) pos) (asgM is rev fs) := fun {A env base F s σ r} X hf => by
  unfold asgM at hf
  cases e1 : msC fs σ with
  | none => rw [e1] at hf; (first | exact ns hf | exact nb hf | obtain rfl := si hf | cases hf)
  | some ds =>
    rw [e1] at hf
    dsimp only at hf
    split at hf
    · rename_i hlen
      have len : is.length = xs.length := by have := congrArg List.length hx; simpa using this
      have hds : ds.length ≤ 16 := by
        have : ∀ {fs : List (Bool × (St → Option PyData))} {ds}, msC fs σ = some ds → ds.length = fs.length := by
          intro fs
          induction fs with
          | nil => intro ds h; (first | exact ns h | exact nb h | obtain rfl := si h | cases h); rfl
          | cons x fs ih => intro ds h; obtain ⟨b, f⟩ := x; obtain ⟨d, r', _, h2, rfl⟩ := msC_cons h; simp [ih h2]
        rw [this e1]; exact h64
      -- the tuple is made, and unpacked at once
      have core : ∀ {Q : List Value → Shared → Prop}, (∀ vs s3 F3 as, Rel base F s F3 s3 → Ct C n sc A env base base F3 s3 σ → Pend C.H C.names env base base F3 s3.heap σ vs ds as → Q vs s3) →
          Wp C A (eval (.Tuple es k' ep) env) (fun v s1 => Wp C A (unpackItems v xs.length none) Q s1) s := fun {Q} kk => by
        rw [arm_eval_Tuple]
        refine wpAny_bind (wpAny_standAt (wpAny_bind (wp_mono (parts_wp h X e1) fun vs s1 ⟨F1, as, g1, p1, q1⟩ => ?_)))
        have hvs : vs.length = xs.length := by rw [p1.length, hlen, len]
        refine PySem.wpAny_newTuple ?_ (by rw [p1.length, sizeLine_eq]; omega)
        have g2 : Grow F1 s1 F1 { s1 with heap := s1.heap.push (seqObj "tuple" vs.toArray 0) } := .ofKeep g1.sat (fun b o q => Heap.get?_push_of_some _ q) rfl rfl rfl
        rw [show xs.length = vs.toArray.size by simp [hvs]]
        refine wpAny_unpackItems_tuple (s := { s1 with heap := s1.heap.push (seqObj "tuple" vs.toArray 0) }) X.room.hand ⟨_, Heap.get?_push_size _ rfl, rfl, 0, rfl⟩ fun h' eb => ?_
        have g3 : Grow F1 { s1 with heap := s1.heap.push (seqObj "tuple" vs.toArray 0) } F1 { s1 with heap := h' } := .ofKeep g2.sat (ext_keep eb) rfl rfl rfl
        have g := g2.trans g3
        exact kk vs _ F1 as (.grow X (g1.trans g)) (X.grow (g1.trans g)) (p1.grow (X.grow g1) g)
      cases rev with
      | false =>
        simp only [Bool.false_eq_true, if_false] at hf hw
        cases e2 : storeD is ds σ with
        | none => rw [e2] at hf; (first | exact ns hf | exact nb hf | obtain rfl := si hf | cases hf)
        | some σ' =>
          rw [e2] at hf; (first | exact ns hf | exact nb hf | obtain rfl := si hf | cases hf)
          refine PyProof.Rows.Assign_Tuple (wp_mono (core (Q := fun vs s3 => Wp C A (assignInOrder (List.zipWith (fun x p => PySem.assign (.Name x p) env) xs ps) vs) (fun _ s4 => PostS C n sc A env base F s (.next, σ') .next s4) s3) fun vs s3 F3 as r3 X3 P3 => ?_) fun v s1 h1 => ?_) (hs env) (hw env X.scope)
          · exact stores_wp X3 hx (fun x hx' => MaySt.def X3 (hk x hx')) (.inr ⟨ps, rfl, hl⟩) P3 e2 fun s' hs' X' => ⟨rfl, F3, r3.trans (.same hs'), X'⟩
          · rw [arm_assign_Tuple]
            refine wpAny_bind (wpAny_standAt ?_)
            unfold unpack
            rw [he, zip_star, zip_snd, List.length_zipWith, hl, Nat.min_self]
            exact wpAny_bind (wpAny_holding h1)
      | true =>
        simp only [if_true] at hf hw
        cases e2 : storeD is.reverse ds.reverse σ with
        | none => rw [e2] at hf; (first | exact ns hf | exact nb hf | obtain rfl := si hf | cases hf)
        | some σ' =>
          rw [e2] at hf; (first | exact ns hf | exact nb hf | obtain rfl := si hf | cases hf)
          refine PyProof.Rows.Assign_Tuple_swapped (core fun vs s3 F3 as r3 X3 P3 => ?_) (hs env) (hw env X.scope)
          have hx2 : (is.reverse.map fun i => C.names[i]?) = xs.reverse.map some := by rw [List.map_reverse, hx, List.map_reverse]
          exact stores_wp X3 hx2 (fun x hx' => MaySt.def X3 (hk x (List.mem_reverse.mp hx'))) (.inl rfl) P3.reverse e2 fun s' hs' X' => ⟨rfl, F3, r3.trans (.same hs'), X'⟩
    · (first | exact ns hf | exact nb hf | obtain rfl := si hf | cases hf)
end Ev
set_option maxRecDepth 10000
namespace Ev
open PySem PySem.W PySem.Spec PySem.Calls PyProof.Rows PySem.SeqAt
variable {C : Cx} {n : Nat} {sc : Scope} {A : Around} {env : Env} {base : Fz} {low : Fz} {F F' : Fz} {s s' : Shared} {σ : St}
/-! iterators set aside -/
noncomputable def bs (W : List Addr) (h : Heap) (base : Fz) : Fz := fun a => if a ∈ W then h.get? a else base a
theorem bs_in {W : List Addr} {h : Heap} {a : Addr} (m : a ∈ W) : bs W h base a = h.get? a := by unfold bs; rw [if_pos m]
theorem bs_out {W : List Addr} {h : Heap} {a : Addr} (m : a ∉ W) : bs W h base a = base a := by unfold bs; rw [if_neg m]
theorem bs_none {W : List Addr} {h : Heap} {a : Addr} (th : ∀ a ∈ W, ∃ o, h.get? a = some o) (e : bs W h base a = none) : a ∉ W ∧ base a = none := by
  by_cases m : a ∈ W
  · rw [bs_in m] at e; obtain ⟨o, ho⟩ := th a m; rw [ho] at e; (first | exact ns e | exact nb e | obtain rfl := si e | cases e)
  · exact ⟨m, by rw [bs_out m] at e; exact e⟩
theorem Ct.aside {W : List Addr} (X : Ct C n sc A env base low F s σ) (hW : ∀ a ∈ W, base a = none ∧ low a = none ∧ a ≠ env.locals ∧ (∀ x c, env.kindOf x = some .cell → env.cells.lookup x = some c → c ≠ a) ∧ (∀ i x d, C.names[i]? = some x → sget σ i = some (true, d) → ¬ Lk env s.heap x (.ref a))) :
    Ct C n sc A env (bs W s.heap base) (bs W s.heap low) F s σ := by
  have S := X.fs
  have sub : ∀ {q : Fz}, (∀ b o, q b = some o → s.heap.get? b = some o) → ∀ b o, bs W s.heap q b = some o → s.heap.get? b = some o := fun {q} k b o e => by
    by_cases m : b ∈ W
    · rw [bs_in m] at e; exact e
    · rw [bs_out m] at e; exact k b o e
  have hL : env.locals ∉ W := fun m => (hW _ m).2.2.1 rfl
  exact X.step (fun b o e => by
    by_cases m : b ∈ W
    · rw [bs_in m]; exact X.keep0 b o e
    · rw [bs_out m]; exact X.k0 b o e) (fun _ l => l) {
    kind := S.kind, glob := S.glob, blt := S.blt, nodup := S.nodup
    keep := sub S.keep, keepL := sub S.keepL, sat := S.sat, ns := S.ns, LF := S.LF
    Lb := by rw [bs_out hL]; exact S.Lb
    Ll := by rw [bs_out hL]; exact S.Ll
    cell := fun x hx => by
      obtain ⟨c, v, h1, h2, h3, h4⟩ := S.cell x hx
      exact ⟨c, v, h1, h2, h3, by rw [bs_out fun m => (hW _ m).2.2.2.1 x c hx h1 rfl]; exact h4⟩
    cinj := S.cinj, free := S.free, vars := S.vars
    own := fun i x d hi hd => by
      obtain ⟨a, h1, h2, h3, h4, h5⟩ := S.own i x d hi hd
      exact ⟨a, h1, h2, h3, by rw [bs_out fun m => (hW _ m).2.2.2.2 i x d hi hd h1]; exact h4, h5⟩
    oinj := S.oinj }
theorem Ct.asideNew {W : List Addr} (X : Ct C n sc A env base low F s σ) (g : Grow F s F' s') (hW : ∀ a ∈ W, s.heap.get? a = none) : Ct C n sc A env (bs W s'.heap base) (bs W s'.heap low) F' s' σ := by
  refine (X.grow g).aside fun a ha => ?_
  have h0 := hW a ha
  obtain ⟨q1, q2, q3⟩ := X.low_none h0
  refine ⟨q1, q2, q3, fun x c hx hc e => ?_, fun i x d hi hs l => X.not_held g h0 hi hs l⟩
  obtain ⟨c', v, h1, ⟨o, ho, _⟩, _⟩ := X.fs.cell x hx
  rw [hc] at h1; (first | exact ns h1 | exact nb h1 | obtain rfl := si h1 | cases h1)
  rw [e, h0] at ho; (first | exact ns ho | exact nb ho | obtain rfl := si ho | cases ho)
theorem Ct.lower {base' : Fz} (h : ∀ b o, base b = some o → base' b = some o) (k0 : ∀ b o, C.h₀.get? b = some o → base b = some o) (X : Ct C n sc A env base' base' F s σ) : Ct C n sc A env base base F s σ := by
  have S := X.fs
  have nn : ∀ {a}, base' a = none → base a = none := fun {a} e => by
    cases q : base a with
    | none => rfl
    | some o => rw [h a o q] at e; (first | exact ns e | exact nb e | obtain rfl := si e | cases e)
  exact X.step k0 (fun _ l => l) {
    kind := S.kind, glob := S.glob, blt := S.blt, nodup := S.nodup
    keep := fun b o e => S.keep b o (h b o e), keepL := fun b o e => S.keep b o (h b o e), sat := S.sat, ns := S.ns, LF := S.LF
    Lb := nn S.Lb, Ll := nn S.Ll
    cell := fun x hx => let ⟨c, v, h1, h2, h3, h4⟩ := S.cell x hx; ⟨c, v, h1, h2, h3, nn h4⟩
    cinj := S.cinj, free := S.free, vars := S.vars
    own := fun i x d hi hd => let ⟨a, h1, h2, h3, h4, h5⟩ := S.own i x d hi hd; ⟨a, h1, h2, h3, nn h4, h5⟩
    oinj := S.oinj }
theorem Ct.adv {W : List Addr} (th : ∀ a ∈ W, ∃ o, s.heap.get? a = some o) (hW0 : ∀ a ∈ W, C.h₀.get? a = none) (X : Ct C n sc A env (bs W s.heap base) (bs W s.heap low) F s σ) (v : Adv W F s F' s') : Ct C n sc A env (bs W s'.heap base) (bs W s'.heap low) F' s' σ := by
  have S := X.fs
  have kp : ∀ {a o}, a ∉ W → s.heap.get? a = some o → s'.heap.get? a = some o := fun {a o} m e => v.keep a o m e
  have hL := bs_none th S.Lb
  have hLl := bs_none th S.Ll
  have off : ∀ {a o}, F a = none → s.heap.get? a = some o → F' a = none := fun {a o} e ho => by
    cases q : F' a with
    | none => rfl
    | some o' =>
      rcases v.fresh a o' q with h | h
      · rw [e] at h; (first | exact ns h | exact nb h | obtain rfl := si h | cases h)
      · rw [ho] at h; (first | exact ns h | exact nb h | obtain rfl := si h | cases h)
  obtain ⟨m, hm⟩ := S.ns
  have hm' : s'.heap.Ns env.locals m := let ⟨o, es, ep, e, r⟩ := hm; ⟨o, es, ep, kp hL.1 e, r⟩
  have old : ∀ {y : Str} {u : Value}, Lk env s.heap y u → Lk env s'.heap y u := fun {y u} l => by
    cases l with
    | loc k n e => exact .loc k hm' (ns_uniq n hm ▸ e)
    | cell k c2 ic =>
      obtain ⟨c, w, h1, h2, h3, h4⟩ := S.cell y k
      rw [c2] at h1; (first | exact ns h1 | exact nb h1 | obtain rfl := si h1 | cases h1)
      obtain ⟨o, e, r⟩ := ic
      exact .cell k c2 ⟨o, kp (bs_none th h4).1 e, r⟩
    | free k c2 ic =>
      obtain ⟨o, e⟩ := S.free _ _ k c2
      obtain ⟨o', ho', hd'⟩ := ic
      have h1 := S.sat _ _ e
      rw [ho'] at h1; (first | exact ns h1 | exact nb h1 | obtain rfl := si h1 | cases h1)
      exact .free k c2 ⟨_, v.sat _ _ (v.sub _ _ e), hd'⟩
  have back : ∀ {y : Str} {u : Value}, Lk env s'.heap y u → Lk env s.heap y u := fun {y u} l => by
    cases l with
    | loc k n e => exact .loc k hm (by rw [ns_uniq n hm'] at e; exact e)
    | cell k c2 ic =>
      obtain ⟨c, w, h1, h2, h3, h4⟩ := S.cell y k
      rw [c2] at h1; (first | exact ns h1 | exact nb h1 | obtain rfl := si h1 | cases h1)
      obtain ⟨o, e, r⟩ := id h2
      cases cell_uniq ic ⟨o, kp (bs_none th h4).1 e, r⟩
      exact .cell k c2 h2
    | free k c2 ic =>
      obtain ⟨o, e⟩ := S.free _ _ k c2
      obtain ⟨o', ho', hd'⟩ := ic
      have h1 := S.sat _ _ e
      have h2 := v.sat _ _ (v.sub _ _ e)
      rw [ho'] at h2; (first | exact ns h2 | exact nb h2 | obtain rfl := si h2 | cases h2)
      exact .free k c2 ⟨_, h1, hd'⟩
  have sub : ∀ {q : Fz}, (∀ b o, bs W s.heap q b = some o → s.heap.get? b = some o) → ∀ b o, bs W s'.heap q b = some o → s'.heap.get? b = some o := fun {q} k b o e => by
    by_cases m : b ∈ W
    · rw [bs_in m] at e; exact e
    · rw [bs_out m] at e; exact kp m (k b o (by rw [bs_out m]; exact e))
  exact X.step (fun b o e => by
    have := X.k0 b o e
    by_cases m : b ∈ W
    · rw [hW0 b m] at e; (first | exact ns e | exact nb e | obtain rfl := si e | cases e)
    · rw [bs_out m] at this ⊢; exact this) (fun _ l => old l) {
    kind := S.kind, glob := S.glob, blt := S.blt, nodup := S.nodup
    keep := sub S.keep, keepL := sub S.keepL, sat := v.sat, ns := ⟨m, hm'⟩
    LF := by obtain ⟨o, es, ep, e, r⟩ := hm; exact off S.LF e
    Lb := by rw [bs_out hL.1]; exact hL.2
    Ll := by rw [bs_out hL.1]; exact hLl.2
    cell := fun x hx => by
      obtain ⟨c, w, h1, ⟨o, e, r⟩, h3, h4⟩ := S.cell x hx
      have q := bs_none th h4
      exact ⟨c, w, h1, ⟨o, kp q.1 e, r⟩, off h3 e, by rw [bs_out q.1]; exact q.2⟩
    cinj := S.cinj
    free := fun x c hx hc => let ⟨o, e⟩ := S.free x c hx hc; ⟨o, v.sub _ _ e⟩
    vars := fun i x d hi hd => let ⟨u, l, r⟩ := S.vars i x d hi hd; ⟨u, old l, r.mono v.sub⟩
    own := fun i x d hi hd => by
      obtain ⟨a, h1, h2, h3, h4, h5⟩ := S.own i x d hi hd
      have q := bs_none th h4
      obtain ⟨o, ho⟩ := h2.there
      exact ⟨a, old h1, h2.grow v.sub (fun o e => kp q.1 e), off h3 ho, by rw [bs_out q.1]; exact q.2, h5⟩
    oinj := fun i j x y d e a hx hy hd he lx ly => S.oinj i j x y d e a hx hy hd he (back lx) (back ly) }
/-! for -/
noncomputable def loopC (g : PyData → St → Option St) (body : Sm) : List PyData → Sm
  | [] => skipC
  | d :: ds => fun σ => match g d σ with
    | some σ' => match body σ' with
      | some (.next, σ'') => loopC g body ds σ''
      | r => r
    | none => none
noncomputable def forC (src : St → Option (List PyData)) (g : PyData → St → Option St) (body : Sm) : Sm := fun σ => match src σ with
  | some ds => loopC g body ds σ
  | none => none
theorem PostS.lower {base' : Fz} {r : Fl × St} {fl : Flow} (h : ∀ b o, base b = some o → base' b = some o) (k0 : ∀ b o, C.h₀.get? b = some o → base b = some o) (p : PostS C n sc A env base' F s r fl s') : PostS C n sc A env base F s r fl s' := by
  have nn : ∀ {a}, base' a = none → base a = none := fun {a} e => by
    cases q : base a with
    | none => rfl
    | some o => rw [h a o q] at e; (first | exact ns e | exact nb e | obtain rfl := si e | cases e)
  obtain ⟨f, σ'⟩ := r
  cases f with
  | next => obtain ⟨e, F2, r2, X⟩ := p; exact ⟨e, F2, ⟨r2.1, fun a o q => (r2.2.1 a o q).imp id nn, r2.2.2⟩, X.lower h k0⟩
  | ret d => obtain ⟨v, e, F2, r2, rv, k, sa⟩ := p; exact ⟨v, e, F2, ⟨r2.1, fun a o q => (r2.2.1 a o q).imp id nn, r2.2.2⟩, rv, fun b o q => k b o (h b o q), sa⟩
theorem Rel.adv {W : List Addr} (hk : ∀ b o, base b = some o → s.heap.get? b = some o) (v : Adv W F s F' s') : Rel base F s F' s' := ⟨v.sub, (fun a o e => (v.fresh a o e).imp id fun h => by
  cases q : base a with
  | none => rfl
  | some o' => rw [hk a o' q] at h; (first | exact ns h | exact nb h | obtain rfl := si h | cases h)), ⟨v.gens, v.drawn, v.os⟩⟩
theorem SndS.forI {tg iter : Expr} {body : List Stmt} {pos : Pos} {src : St → Option (List PyData)} {g : PyData → St → Option St} {xs : List Str} {fb : Sm} (T : SndTg C tg g xs) (hk : ∀ x ∈ xs, MayS C sc x)
    (hi : SndI C n sc true tg iter src) (hb : SndSs C n sc body fb) (hfs : ∀ env x, foldedSetIterable iter env x = pure x := by intro _ _; rfl) : SndS C n sc (.For tg iter body [] pos) (forC src g fb) := fun {A env base F s σ r} X h => by
  unfold forC at h
  cases e1 : src σ with
  | none => rw [e1] at h; (first | exact ns h | exact nb h | obtain rfl := si h | cases h)
  | some ds =>
    rw [e1] at h
    dsimp only at h
    refine wpAny_For (wp_mono (hi X e1) fun x s1 h1 => wpAny_mono h1 (fun it s2 p => ?_) fun _ _ e => e) (hfs env)
    obtain ⟨F1, W, I, D, St, rfl, g1, it, st0, sd0, hW, hD⟩ := p
    have X1 := X.asideNew g1 (fun a ha => (hW a ha).1)
    have hW0 : ∀ a ∈ W, C.h₀.get? a = none := fun a ha => by
      cases q : C.h₀.get? a with
      | none => rfl
      | some o => have := (hW a ha).1; rw [X.keep0 a o q] at this; cases this
    have hbW : ∀ {h : Heap}, ∀ b o, base b = some o → bs W h base b = some o := fun {h} b o e => by
      rw [bs_out fun m => by have := (hW b m).1; rw [X.fs.keep b o e] at this; cases this]; exact e
    refine (fun I (hI : ∀ k s', (∃ i F' σ', k = ds.length - i ∧ i ≤ ds.length ∧ Rel base F s F' s' ∧ Sub F1 F' ∧ Ct C n sc A env (bs W s'.heap base) (bs W s'.heap base) F' s' σ' ∧ St i s'.heap ∧ (∀ a ∈ W, F' a = none) ∧ loopC g fb (ds.drop i) σ' = some r) → I k s')
      (hE : ∀ k s', I k s' → ∃ i F' σ', k = ds.length - i ∧ i ≤ ds.length ∧ Rel base F s F' s' ∧ Sub F1 F' ∧ Ct C n sc A env (bs W s'.heap base) (bs W s'.heap base) F' s' σ' ∧ St i s'.heap ∧ (∀ a ∈ W, F' a = none) ∧ loopC g fb (ds.drop i) σ' = some r) =>
      codeAny_forLoop_any I ?_ ds.length (hI _ _ ⟨0, F1, σ, rfl, Nat.zero_le _, .grow X g1, Sub.refl F1, X1, st0, fun a ha => (hW a ha).2, h⟩)) _ (fun _ _ x => x) (fun _ _ x => x)
    intro k s' hKK
    obtain ⟨i, F2, σ2, rfl, hle, r2, sb2, X2, st2, hW2, h2⟩ := hE k s' hKK
    have sd2 : Sat D s'.heap := fun a o e => X2.sat a o (sb2 a o (hD rfl a o e))
    have th2 : ∀ a ∈ W, ∃ o, s'.heap.get? a = some o := it.there st2
    have keep2 : ∀ b o, base b = some o → s'.heap.get? b = some o := fun b o e => X2.fs.keep b o (hbW b o e)
    by_cases hlt : i < ds.length
    · have hx : ds[i]? = some ds[i] := List.getElem?_eq_getElem hlt
      rw [List.drop_eq_getElem_cons hlt] at h2
      have h2 : (match g ds[i] σ2 with | some σ' => (match fb σ' with | some (.next, σ'') => loopC g fb (ds.drop (i + 1)) σ'' | r => r) | none => none) = some r := h2
      refine wpAny_mono (it.item hx st2 sd2 X2.sat sb2 hW2) (fun ov s3 p3 => ?_) fun _ _ e => e.elim
      obtain ⟨v, rfl, p3⟩ := p3
      refine wpAny_mono p3 (fun _ s4 p4 => ?_) fun _ _ e => e.elim
      obtain ⟨F4, a4, r4, st4⟩ := p4
      have X4 := X2.adv th2 hW0 a4
      have rl4 : Rel base F s F4 s4 := r2.trans (.adv keep2 a4)
      have hW4 : ∀ a ∈ W, F4 a = none := fun a ha => by
        cases q : F4 a with
        | none => rfl
        | some o =>
          rcases a4.fresh a o q with e | e
          · rw [hW2 a ha] at e; (first | exact ns e | exact nb e | obtain rfl := si e | cases e)
          · obtain ⟨o', ho'⟩ := th2 a ha; rw [e] at ho'; cases ho'
      cases hg : g ds[i] σ2 with
      | none => rw [hg] at h2; (first | exact ns h2 | exact nb h2 | obtain rfl := si h2 | cases h2)
      | some σ3 =>
        rw [hg] at h2
        dsimp only at h2
        refine target_wp T X4 (fun x hx => MaySt.def X4 (hk x hx)) r4 hg fun s5 hs5 X5 => ?_
        have keepW5 : ∀ a ∈ W, ∀ o, s4.heap.get? a = some o → s5.heap.get? a = some o := fun a ha o e => X5.fs.keep a o (by rw [bs_in ha]; exact e)
        have st5 : St (i + 1) s5.heap := it.frame st4 keepW5 fun a o e => X5.sat a o (a4.sub a o (sb2 a o (hD rfl a o e)))
        cases hbd : fb σ3 with
        | none => rw [hbd] at h2; (first | exact ns h2 | exact nb h2 | obtain rfl := si h2 | cases h2)
        | some rr =>
          refine wpAny_mono (hb X5 hbd) (fun fl s6 p6 => ?_) fun _ _ e => e.elim
          obtain ⟨f6, σ6⟩ := rr
          cases f6 with
          | next =>
            rw [hbd] at h2
            obtain ⟨rfl, F6, r6, X6⟩ := p6
            have keepW6 : ∀ a ∈ W, ∀ o, s5.heap.get? a = some o → s6.heap.get? a = some o := fun a ha o e => by
              obtain ⟨o4, ho4⟩ := it.there st4 a ha
              have e5 := keepW5 a ha o4 ho4
              rw [e] at e5; (first | exact ns e5 | exact nb e5 | obtain rfl := si e5 | cases e5)
              exact X6.fs.keep a o (by rw [bs_in ha]; exact ho4)
            have nnb : ∀ {a}, bs W s4.heap base a = none → base a = none := fun {a} e => by
              cases q : base a with
              | none => rfl
              | some o => rw [hbW a o q] at e; (first | exact ns e | exact nb e | obtain rfl := si e | cases e)
            have sub6 : Sub F1 F6 := sb2.trans (a4.sub.trans r6.1)
            refine ⟨ds.length - (i + 1), by omega, hI _ _ ⟨i + 1, F6, σ6, rfl, hlt, rl4.trans ((Rel.same hs5).trans ⟨r6.1, fun a o q => (r6.2.1 a o q).imp id nnb, r6.2.2⟩), sub6, ?_, ?_, ?_, h2⟩⟩
            · have e46 : bs W s6.heap base = bs W s4.heap base := by
                funext a
                by_cases m : a ∈ W
                · rw [bs_in m, bs_in m]
                  obtain ⟨o4, ho4⟩ := it.there st4 a m
                  rw [ho4]
                  exact keepW6 a m _ (keepW5 a m _ ho4)
                · rw [bs_out m, bs_out m]
              rw [e46]; exact X6
            · exact it.frame st5 keepW6 fun a o e => X6.sat a o (sub6 a o (hD rfl a o e))
            · intro a ha
              cases q : F6 a with
              | none => rfl
              | some o =>
                rcases r6.2.1 a o q with e | e
                · rw [hW4 a ha] at e; (first | exact ns e | exact nb e | obtain rfl := si e | cases e)
                · obtain ⟨o4, ho4⟩ := it.there st4 a ha
                  rw [bs_in ha, ho4] at e; (first | exact ns e | exact nb e | obtain rfl := si e | cases e)
          | ret d =>
            rw [hbd] at h2
            (first | exact ns h2 | exact nb h2 | obtain rfl := si h2 | cases h2)
            have p7 := PostS.lower (hbW (h := s4.heap)) X.k0 p6
            obtain ⟨v', rfl, rest⟩ := p7
            exact PostS.of (rl4.trans (Rel.same hs5)) ⟨v', rfl, rest⟩
    · have hi' : i = ds.length := by omega
      subst hi'
      rw [List.drop_length] at h2
      (first | exact ns h2 | exact nb h2 | obtain rfl := si h2 | cases h2)
      refine wpAny_mono (it.done st2 sd2 X2.sat hW2) (fun ov s3 p3 => ?_) fun _ _ e => e.elim
      obtain ⟨rfl, a3⟩ := p3
      refine wpAny_execs_nil ?_
      exact ⟨rfl, F2, r2.trans (.adv keep2 a3), (X2.adv th2 hW0 a3).lower (hbW (h := s3.heap)) X.k0⟩
end Ev
set_option maxRecDepth 10000
namespace Ev
open PySem PySem.W PySem.Spec PySem.Calls PyProof.Rows PySem.SeqAt
variable {C : Cx} {n : Nat} {sc : Scope} {A : Around} {env : Env} {base : Fz} {low : Fz} {F F' : Fz} {s s' : Shared} {σ : St}
/-! what is own changes -/
theorem Ct.owned {i : Nat} {x : Str} {d : PyData} (X : Ct C n sc A env base low F s σ) (hi : C.names[i]? = some x) (hσ : sget σ i = some (true, d)) : ∃ a, Lk env s.heap x (.ref a) ∧ Ow C.H F s.heap a d ∧ F a = none ∧ low a = none ∧ a ≠ env.locals := X.fs.own i x d hi hσ
theorem Fs.ext_lk {H : PyData → Int} {names : List Str} {h h' : Heap} (S : Fs H names env base low F h σ) {i : Nat} {x : Str} {a : Addr} {d : PyData} (hi : names[i]? = some x) (hσ : sget σ i = some (true, d)) (hl : Lk env h x (.ref a))
    (hs : ∀ b o, b ≠ a → h.get? b = some o → h'.get? b = some o) {y : Str} {u : Value} (l : Lk env h y u) : Lk env h' y u := by
  obtain ⟨a', hl', ho, hFa, hbat, hLa⟩ := S.own i x d hi hσ
  cases hl.uniq hl'
  obtain ⟨m, hm⟩ := S.ns
  have hm' : h'.Ns env.locals m := let ⟨o, es, ep, e, r⟩ := hm; ⟨o, es, ep, hs _ _ (Ne.symm hLa) e, r⟩
  have cellk : ∀ {c v}, h.IsCell c v → h'.IsCell c v := fun {c v} ic => let ⟨o, e, r⟩ := ic; ⟨o, hs c o (fun q => ho.not_cell (q ▸ ic)) e, r⟩
  cases l with
  | loc k n e => exact .loc k hm' (ns_uniq n hm ▸ e)
  | cell k c2 ic => exact .cell k c2 (cellk ic)
  | free k c2 ic => exact .free k c2 (cellk ic)
theorem Ct.change {i : Nat} {x : Str} {a : Addr} {d d' : PyData} {s1 : Shared} (X : Ct C n sc A env base base F s σ) (hi : C.names[i]? = some x) (hσ : sget σ i = some (true, d)) (hl : Lk env s.heap x (.ref a)) (hba : base a = none)
    (hn : Ow C.H F s1.heap a d') (hs : ∀ b o, b ≠ a → s.heap.get? b = some o → s1.heap.get? b = some o) : Ct C n sc A env base base F s1 (σ.set i (some (true, d'))) :=
  X.step X.k0 (fun _ l => X.fs.ext_lk hi hσ hl hs l) (X.fs.setOwnX hi hσ hl hba hn hs)
noncomputable def putD (d k x : PyData) : Option PyData := match d with
  | .list ds => match k with
    | .int k => if 0 ≤ k ∧ k < ds.length ∧ k < 1048576 then some (.list (ds.set k.toNat x)) else none
    | _ => none
  | .dict kvs => if okKey kvs k && decide (kvs.length ≤ 1048576) then some (.dict (setK kvs k x)) else none
  | _ => none
theorem setItem_wp {a : Addr} {d k x d' : PyData} {kv v : Value} {Q : Unit → Shared → Prop} {E : Value → Shared → Prop} (hH : ∀ d, C.H d = hashK C.w d) (hu : A.units + 400 < cLine) (hs : Sat F s.heap) (o : Ow C.H F s.heap a d) (rk : R C.H F kv k) (rv : R C.H F v x) (h : putD d k x = some d')
    (hQ : ∀ h' t, Ow C.H F h' a d' → Heap.SameBut a s.heap h' → Q () { s with heap := h', toks := t }) : wpAny (model C.prog C.w) A (setItem (.ref a) kv v) Q E s := by
  cases d with
  | list ds => cases k with
    | int k =>
      obtain ⟨hc, h⟩ := ite_some h
      (first | exact ns h | exact nb h | obtain rfl := si h | cases h)
      cases o with
      | @list vs m _ ho r =>
        obtain ⟨t, rfl⟩ := rk.toInt
        have hl : s.heap.IsList a vs := ⟨_, ho, rfl, m, rfl⟩
        have hsz := rl_arr r
        unfold setItem
        try with_reducible refine wpAny_holding ?_
        first | refine wpAny_bind (wpAny_pure ?_) | skip
        refine wpAny_bind (wpAny_sequenceKey hl.typeIs (by decide) ?_)
        refine wpAny_bind (wpAny_callSpecial?_slot (name := Str.ofString "__setitem__") hl.typeIs slot_list_setitem
          (wpAny_call_entry slot_list_setitem hl.typeIs entry_list_setitem ?_ (args_list_setitem _ _ _)))
        show wpAny _ _ (Builtin.List.listSubscript? (.int k t) >>= _) _ _ s
        refine wpAny_bind (wpAny_listSubscript_int (fitsIndex_of hc.1 (by omega)) ?_)
        obtain ⟨j, rfl⟩ := Int.eq_ofNat_of_zero_le hc.1
        have hj : j < vs.size := by omega
        have hx' : vs[j]? = some vs[j] := Array.getElem?_eq_getElem hj
        show wpAny _ _ ((seqItemAt a j >>= fun r => pure (r.map (j, ·))) >>= _) _ _ s
        refine wpAny_bind (wpAny_bind (wpAny_seqItemAt ho rfl (wpAny_pure ?_)))
        rw [hx']
        show wpAny _ _ (setSeqItemAt a j v >>= _) _ _ s
        have hfin : Ow C.H F (s.heap.update a (Obj.mapSeq (·.setIfInBounds j v))) a (.list (ds.set j x)) := .list (get?_update_seq ho fun x => x.setIfInBounds j v) (by rw [Array.toList_setIfInBounds]; exact r.set j rv)
        have fin := hQ _ s.toks hfin (Heap.SameBut.update ..)
        refine wpAny_bind (wpAny_setSeqItemAt ho rfl ?_)
        first
          | exact wpAny_bind (wpAny_pure (wpAny_pure ⟨.none, rfl, wpAny_pure fin⟩))
          | exact wpAny_pure ⟨.none, rfl, wpAny_pure fin⟩
    | _ => (first | exact ns h | exact nb h | obtain rfl := si h | cases h)
  | dict kvs =>
    obtain ⟨hc, h⟩ := ite_some h
    (first | exact ns h | exact nb h | obtain rfl := si h | cases h)
    obtain ⟨h1, h2⟩ := Bool.and_eq_true_iff.mp hc
    have hT : s.TypeIs (.ref a) "dict" := by cases o with | dict _ ho hc' _ _ _ => exact ⟨_, ho, hc'.1⟩
    unfold setItem
    try with_reducible refine wpAny_holding ?_
    refine wpAny_bind (wpAny_sequenceKey hT (by decide) ?_)
    refine wpAny_bind (wpAny_callSpecial?_slot (name := Str.ofString "__setitem__") hT slot_dict_setitem
      (wpAny_call_entry slot_dict_setitem hT entry_dict_setitem ?_ (args_dict_setitem _ _ _)))
    show wpAny _ _ (Builtin.Dict.notOrdered "__setitem__" ⟨[.ref a, kv, v], []⟩ >>= _) _ _ s
    refine wpAny_bind (wpAny_notOrdered_dict hT ?_)
    show wpAny _ _ (dictSet a kv v >>= _) _ _ s
    exact wpAny_bind (dset_wp hH (by show A.units + 1 + 100 < cLine; omega) hs o rk rv h1 (of_decide_eq_true h2) fun h' t o' sb => wpAny_pure ⟨.none, rfl, wpAny_pure (hQ h' t o' sb)⟩)
  | _ => (first | exact ns h | exact nb h | obtain rfl := si h | cases h)
noncomputable def putC (i : Nat) (fk fv : St → Option PyData) : Sm := fun σ => match fv σ with
  | some x => match sget σ i with
    | some (true, d) => match fk σ with
      | some k => match putD d k x with
        | some d' => some (.next, σ.set i (some (true, d')))
        | none => none
      | none => none
    | _ => none
  | none => none
theorem Ct.load_own {i : Nat} {x : Str} {p : Pos} {d : PyData} {Q : Value → Shared → Prop} {E : Value → Shared → Prop} (X : Ct C n sc A env base low F s σ) (hi : C.names[i]? = some x) (hσ : sget σ i = some (true, d)) (hd : (x == ("__debug__" : Str)) = false := by decide) (hc : (x == ("__classdict__" : Str)) = false := by decide)
    (h : ∀ a, Lk env s.heap x (.ref a) → Ow C.H F s.heap a d → F a = none → low a = none → Q (.ref a) s) : wpAny (model C.prog C.w) A (eval (.Name x p) env) Q E s := by
  obtain ⟨a, l, o, f, b, _⟩ := X.owned hi hσ
  exact wpAny_Name (wp_load X.fs.kind l (h a l o f b) hc) hd
theorem SndS.put {i : Nat} {x : Str} {px tp pos : Pos} {sl e : Expr} {fk fv : St → Option PyData} (hi : C.names[i]? = some x) (hk : Snd C n sc sl fk) (hv : Snd C n sc e fv) (hd : (x == ("__debug__" : Str)) = false := by decide) (hc : (x == ("__classdict__" : Str)) = false := by decide)
    (hs : ∀ env, swapsWith e (some (.Subscript (.Name x px) sl tp)) pos.line env = pure false := by intro _; rfl) : SndS C n sc (.Assign [.Subscript (.Name x px) sl tp] e pos) (putC i fk fv) := fun {A env base F s σ r} X h => by
  unfold putC at h
  cases e1 : fv σ with
  | none => rw [e1] at h; (first | exact ns h | exact nb h | obtain rfl := si h | cases h)
  | some y =>
    rw [e1] at h
    dsimp only at h
    split at h
    · rename_i d e2
      cases e3 : fk σ with
      | none => rw [e3] at h; (first | exact ns h | exact nb h | obtain rfl := si h | cases h)
      | some k =>
        rw [e3] at h
        dsimp only at h
        cases e4 : putD d k y with
        | none => rw [e4] at h; (first | exact ns h | exact nb h | obtain rfl := si h | cases h)
        | some d' =>
          rw [e4] at h; (first | exact ns h | exact nb h | obtain rfl := si h | cases h)
          refine PySem.wpAny_Assign_Subscript (wp_mono (hv X e1) fun v s1 ⟨F1, g1, r1⟩ => ?_) (hs env)
          have X1 := X.grow g1
          refine X1.load_own hi e2 hd hc fun a l o f b => ?_
          refine wp_mono (hk X1 e3) fun kv s2 ⟨F2, g2, r2⟩ => ?_
          have X2 := X1.grow g2
          obtain ⟨ob, hob⟩ := o.there
          refine setItem_wp X.ok.hH X.room.in1 g2.sat (o.grow g2.sub (g2.keep a)) r2 (r1.mono g2.sub) e4 fun h' t o' sb => ?_
          refine ⟨rfl, F2, ((Rel.grow X g1).trans (.grow X1 g2)).trans (.same ⟨rfl, rfl, rfl⟩), ?_⟩
          exact X2.change (s1 := { s2 with heap := h', toks := t }) hi e2 (l.keeps g2.keep) b o' fun c o'' hc q => (sb.2 c hc).trans q
    · (first | exact ns h | exact nb h | obtain rfl := si h | cases h)
/-! += -/
noncomputable def addC (i : Nat) (f : St → Option PyData) : Sm := fun σ => match sget σ i with
  | some (false, .int a) => match f σ with
    | some (.int b) => some (.next, σ.set i (some (false, .int (a + b))))
    | _ => none
  | _ => none
theorem addC_some {i : Nat} {f : St → Option PyData} {σ : St} {r : Fl × St} (h : addC i f σ = some r) : ∃ a b, sget σ i = some (false, .int a) ∧ f σ = some (.int b) ∧ r = (.next, σ.set i (some (false, .int (a + b)))) := by
  unfold addC at h
  rcases e : sget σ i with _ | ⟨c, x⟩
  · rw [e] at h; (first | exact ns h | exact nb h | obtain rfl := si h | cases h)
  · rw [e] at h
    cases c with
    | true => (first | exact ns h | exact nb h | obtain rfl := si h | cases h)
    | false => cases x with
      | int a =>
        have h : (match f σ with | some (.int b) => some (Fl.next, σ.set i (some (false, .int (a + b)))) | _ => none) = some r := h
        rcases e2 : f σ with _ | y
        · rw [e2] at h; (first | exact ns h | exact nb h | obtain rfl := si h | cases h)
        · rw [e2] at h
          cases y with
          | int b => (first | exact ns h | exact nb h | obtain rfl := si h | cases h); exact ⟨a, b, rfl, rfl, rfl⟩
          | _ => (first | exact ns h | exact nb h | obtain rfl := si h | cases h)
      | _ => (first | exact ns h | exact nb h | obtain rfl := si h | cases h)
theorem SndS.add {i : Nat} {x : Str} {p pos : Pos} {e : Expr} {f : St → Option PyData} (hi : C.names[i]? = some x) (hk : MayS C sc x) (he : Snd C n sc e f) (hc : (x == ("__classdict__" : Str)) = false := by decide) :
    SndS C n sc (.AugAssign (.Name x p) .Add e pos) (addC i f) := fun {A env base F s σ r} X h => by
  obtain ⟨a, b, e1, e2, rfl⟩ := addC_some h
  obtain ⟨v, l, r1⟩ := X.fs.vars i x _ hi e1
  obtain ⟨t, rfl⟩ := r1.toInt
  refine wpAny_AugAssign_Name (wp_load X.fs.kind l (wp_mono (he X e2) fun v s1 ⟨F1, g1, r1⟩ => ?_) hc)
  obtain ⟨u, rfl⟩ := r1.toInt
  have g2 : Grow F1 s1 F1 { s1 with toks := s1.toks + 1 } := .tok g1.sat _
  refine PySem.wpAny_iadd_int ?_
  have X2 := X.grow (g1.trans g2)
  refine wp_store2 (s := { s1 with toks := s1.toks + 1 }) X2.fs hi (MaySt.def X2 hk).2 (.fz (.int _ _)) (fun _ _ e => nomatch e) fun s' hs' S' T => ?_
  exact ⟨rfl, F1, (Rel.grow X (g1.trans g2)).trans (.same hs'), X2.step X2.k0 (fun e => T.fwd (hk.2.ne e)) S'⟩
noncomputable def putAddC (i : Nat) (fk fv : St → Option PyData) : Sm := fun σ => match sget σ i with
  | some (true, d) => match fk σ with
    | some k => match itemD d k with
      | some (.int a) => match fv σ with
        | some (.int b) => match putD d k (.int (a + b)) with
          | some d' => some (.next, σ.set i (some (true, d')))
          | none => none
        | _ => none
      | _ => none
    | none => none
  | _ => none
theorem SndS.putAdd {i : Nat} {x : Str} {px tp pos : Pos} {sl e : Expr} {fk fv : St → Option PyData} (hi : C.names[i]? = some x) (hk : Snd C n sc sl fk) (hv : Snd C n sc e fv) (hd : (x == ("__debug__" : Str)) = false := by decide) (hc : (x == ("__classdict__" : Str)) = false := by decide)
    (ha : ∀ ov iv new, augStore sl ov iv new = (do holding [new, ov, iv] (setItem ov iv new); release [new, ov, iv] []; pure .next) := by intro _ _ _; rfl) : SndS C n sc (.AugAssign (.Subscript (.Name x px) sl tp) .Add e pos) (putAddC i fk fv) := fun {A env base F s σ r} X h => by
  unfold putAddC at h
  split at h
  · rename_i d e2
    cases e3 : fk σ with
    | none => rw [e3] at h; (first | exact ns h | exact nb h | obtain rfl := si h | cases h)
    | some k =>
      rw [e3] at h
      dsimp only at h
      split at h
      · rename_i p e5
        split at h
        · rename_i q e6
          cases e4 : putD d k (.int (p + q)) with
          | none => rw [e4] at h; (first | exact ns h | exact nb h | obtain rfl := si h | cases h)
          | some d' =>
            rw [e4] at h; (first | exact ns h | exact nb h | obtain rfl := si h | cases h)
            refine wpAny_AugAssign_Subscript_any (X.load_own hi e2 hd hc fun a l o f b => wp_mono (hk X e3) fun kv s1 ⟨F1, g1, r1⟩ => ?_) ha
            have X1 := X.grow g1
            obtain ⟨T, id, hT, hl, hw⟩ := getItem_wp (A := A) X.ok.hH X.room.in1 g1.sat (.ow (o.grow g1.sub (g1.keep a))) r1 e5
            refine wp_mono hw fun old s2 ⟨t2, es2, r2⟩ => ?_
            subst es2
            have g2 : Grow F s F1 { s1 with toks := t2 } := g1.trans (.tok g1.sat t2)
            have X2 := X.grow g2
            refine wp_mono (hv X2 e6) fun v s3 ⟨F3, g3, r3⟩ => ?_
            obtain ⟨t, rfl⟩ := r2.toInt
            obtain ⟨u, rfl⟩ := r3.toInt
            refine PySem.wpAny_iadd_int ?_
            have g4 : Grow F3 s3 F3 { s3 with toks := s3.toks + 1 } := .tok g3.sat _
            have g := g2.trans (g3.trans g4)
            refine setItem_wp (s := { s3 with toks := s3.toks + 1 }) X.ok.hH X.room.in1 g4.sat (o.grow g.sub (g.keep a)) ((r1.mono g3.sub).mono g4.sub) (.int _ _) e4 fun h' t' o' sb => ?_
            refine ⟨rfl, F3, (Rel.grow X g).trans (.same ⟨rfl, rfl, rfl⟩), ?_⟩
            exact (X.grow g).change (s1 := { s3 with heap := h', toks := t' }) hi e2 (l.keeps g.keep) b o' fun c o'' hc' q' => (sb.2 c hc').trans q'
        · (first | exact ns h | exact nb h | obtain rfl := si h | cases h)
      · (first | exact ns h | exact nb h | obtain rfl := si h | cases h)
  · (first | exact ns h | exact nb h | obtain rfl := si h | cases h)
/-! append -/
theorem Obj.isFreed_of_dict {o : Obj} {es n} (h : o.data = .dict es n) : o.isFreed = false := by
  obtain ⟨c1, c2, c3, c4⟩ := o
  dsimp only at h
  subst h
  rfl
/-! a def that changes its first argument: its contract, and the call of it as a statement -/
noncomputable def FnIns (C : Cx) (n : Nat) (fa : Addr) (g : PyData → PyData → Option PyData) : Prop :=
  ∀ {A F s a v d x d'}, Room n A → (∀ b o, C.h₀.get? b = some o → b ≠ a → s.heap.get? b = some o) → (C.h₀.get? a = none) → Sat F s.heap → F a = none → Ow C.H F s.heap a d → R C.H F v x → g d x = some d' →
    Wp C A (call (.ref fa) [.ref a, v]) (fun r s' => r = .none ∧ ∃ F', Sub F F' ∧ (∀ b o, F' b = some o → F b = some o ∨ s.heap.get? b = none) ∧ Sat F' s'.heap ∧ Ow C.H F' s'.heap a d' ∧ (∀ b o, b ≠ a → s.heap.get? b = some o → s'.heap.get? b = some o) ∧ Same s s') s
noncomputable def insC (g : PyData → PyData → Option PyData) (i : Nat) (f : St → Option PyData) : Sm := fun σ => match sget σ i with
  | some (true, d) => match f σ with
    | some x => match g d x with
      | some d' => some (.next, σ.set i (some (true, d')))
      | none => none
    | none => none
  | _ => none
theorem SndS.ins {i : Nat} {x y : Str} {fa : Addr} {g : PyData → PyData → Option PyData} {py px cpos pos : Pos} {e : Expr} {f : St → Option PyData} {m : Nat} (hg : C.Gl y (.ref fa)) (hky : sc.names.lookup y = some .globalImplicit) (hx : FnAtX C fa) (hf : FnIns C m fa g) (hm : m ≤ n)
    (hi : C.names[i]? = some x) (he : Snd C n sc e f) (hst : ∀ env, starEach [.Name x px, e] env = [(false, eval (.Name x px) env), (false, eval e env)] := by intro _; rfl) (hdy : (y == ("__debug__" : Str)) = false := by decide) (hd : (x == ("__debug__" : Str)) = false := by decide) (hc : (x == ("__classdict__" : Str)) = false := by decide)
    (hin : ∀ env, env.scope.kind = .function → interactive env = false := by intro env h; simp [interactive, h]) :
    SndS C n sc (.Expr (.Call (.Name y py) [.Name x px, e] [] cpos) pos) (insC g i f) := fun {A env base F s σ r} X h => by
  unfold insC at h
  split at h
  · rename_i d e1
    cases e2 : f σ with
    | none => rw [e2] at h; (first | exact ns h | exact nb h | obtain rfl := si h | cases h)
    | some z =>
      rw [e2] at h
      dsimp only at h
      cases e3 : g d z with
      | none => rw [e3] at h; (first | exact ns h | exact nb h | obtain rfl := si h | cases h)
      | some d' =>
        rw [e3] at h; (first | exact ns h | exact nb h | obtain rfl := si h | cases h)
        obtain ⟨o, fd, ho, hdat⟩ := hx.fn
        refine PySem.wpAny_Expr (Call_ (wp_global X hg hky (callWith_def hdat ?_ rfl) hdy)) (hin env X.fs.kind) rfl
        rw [hst]
        refine spliced_cons (X.load_own hi e1 hd hc fun a l ow fa' b => ?_)
        refine spliced_cons (wp_mono (he X e2) fun v s1 ⟨F1, g1, r1⟩ => spliced_nil ⟨g1.keep _ _ (X.keep0 _ _ ho), ?_⟩)
        have X1 := X.grow g1
        obtain ⟨ob, hob⟩ := ow.there
        have h0a : C.h₀.get? a = none := by
          cases q : C.h₀.get? a with
          | none => rfl
          | some o' => have := X.k0 a o' q; rw [b] at this; cases this
        have hob1 := g1.keep _ _ hob
        have off1 := g1.off fa' hob
        have frd : ob.isFreed = false := by
          cases ow with
          | list h1 _ => rw [hob] at h1; (first | exact ns h1 | exact nb h1 | obtain rfl := si h1 | cases h1); rfl
          | dict _ h1 _ h3 _ _ => rw [hob] at h1; (first | exact ns h1 | exact nb h1 | obtain rfl := si h1 | cases h1); exact Ev.Obj.isFreed_of_dict h3
        refine wp_mono (hf (X.room.le hm) (fun c o' q _ => g1.keep _ _ (X.keep0 c o' q)) h0a g1.sat off1 (ow.grow g1.sub (g1.keep a)) r1 e3) fun r2 s2 ⟨er, F2, sub2, fr2, sat2, ow2, k2, same2⟩ => ?_
        subst er
        obtain ⟨ob2, hob2⟩ := ow2.there
        have hup : (s2.heap.update a fun _ => ob).get? a = some ob := Heap.get?_update_self _ hob2 frd
        have hsb : Heap.SameBut a s2.heap (s2.heap.update a fun _ => ob) := Heap.SameBut.update ..
        have off2 : F2 a = none := by
          cases q : F2 a with
          | none => rfl
          | some o' =>
            rcases fr2 a o' q with e | e
            · rw [off1] at e; (first | exact ns e | exact nb e | obtain rfl := si e | cases e)
            · rw [hob1] at e; (first | exact ns e | exact nb e | obtain rfl := si e | cases e)
        have G : Grow F1 s1 F2 { s2 with heap := s2.heap.update a fun _ => ob } := ⟨fun c o' q => by
          by_cases e : c = a
          · subst e; rw [hob1] at q; (first | exact ns q | exact nb q | obtain rfl := si q | cases q); exact hup
          · exact (hsb.2 c e).trans (k2 c o' e q), sub2, fr2, fun c o' q => (hsb.2 c (fun e => by subst e; rw [off2] at q; (first | exact ns q | exact nb q | obtain rfl := si q | cases q))).trans (sat2 c o' q), same2.gens, same2.drawn, same2.os⟩
        refine ⟨rfl, F2, (Rel.grow X (g1.trans G)).trans ⟨Sub.refl F2, fun _ _ e => .inl e, ⟨rfl, rfl, rfl⟩⟩, ?_⟩
        exact (X1.grow G).change (s1 := s2) hi e1 ((l.keeps g1.keep).keeps G.keep) b ow2 fun c o' e q => (hsb.2 c e).symm.trans q
  · (first | exact ns h | exact nb h | obtain rfl := si h | cases h)
end Ev
set_option maxRecDepth 10000
namespace Ev
open PySem PySem.W PySem.Spec PySem.Calls PyProof.Rows PySem.SeqAt
variable {C : Cx} {n : Nat} {sc : Scope} {A : Around} {env : Env} {base : Fz} {low : Fz} {F F' : Fz} {s s' : Shared} {σ : St}
/-! for over an own list, that the turns may lengthen -/
end Ev
set_option maxRecDepth 10000
namespace Ev
open PySem PySem.W PySem.Spec PySem.Calls PyProof.Rows PySem.SeqAt
variable {C : Cx} {n : Nat} {sc : Scope} {A : Around} {env : Env} {base : Fz} {low : Fz} {F F' : Fz} {s s' : Shared} {σ : St}
/-! the scope of a comprehension -/
noncomputable def relS (scope : Scope) : Scope := { scope with names := scope.names.map fun x => if x.2 == .free then (x.1, .cell) else x }
structure CompOk (C : Cx) (sc scope : Scope) (names : List Str) (nt : Nat) (caps : List Nat) : Prop where
  kind : scope.kind = .function
  nodup : names.Nodup
  once : (scope.names.map (·.1)).Nodup
  free : ∀ x ∈ scope.names, x.2 = .free → sc.names.lookup x.1 = some .cell ∧ x.1 ∈ C.names.map id
  cap : (caps.map fun i => C.names[i]?) = (names.drop nt).map some
  capf : ∀ y ∈ names.drop nt, scope.names.lookup y = some .free
theorem lookup_mem {α : Type} {l : List (Str × α)} (hn : (l.map (·.1)).Nodup) {x : Str × α} (h : x ∈ l) : l.lookup x.1 = some x.2 := by
  induction l with
  | nil => (first | exact ns h | exact nb h | obtain rfl := si h | cases h)
  | cons y r ih =>
    rw [List.map_cons, List.nodup_cons] at hn
    rw [List.lookup_cons]
    rcases List.mem_cons.mp h with rfl | h'
    · simp
    · have : (x.1 == y.1) = false := by
        rw [beq_eq_false_iff_ne]
        intro e
        exact hn.1 (e ▸ List.mem_map_of_mem h')
      rw [this]; exact ih hn.2 h'
theorem relabel_eq {scope : Scope} (hk : env.scope.kind = .function) (hf : ∀ x ∈ scope.names, x.2 = .free → env.kindOf x.1 = some .cell) : relabel scope env = relS scope := by
  unfold relabel relS
  congr 1
  refine List.map_congr_left fun x hx => ?_
  obtain ⟨y, k⟩ := x
  dsimp only
  cases e : k == NameKind.free with
  | false => simp
  | true =>
    have := hf _ hx (by simpa using e)
    dsimp only at this
    simp [hk, this]
theorem lookup_mapv {g : NameKind → NameKind} (y : Str) : ∀ l : List (Str × NameKind), (l.map fun x => (x.1, g x.2)).lookup y = (l.lookup y).map g
  | [] => rfl
  | (z, k) :: r => by
    rw [List.map_cons]
    cases hz : y == z with
    | true => simp only [List.lookup_cons, hz]; rfl
    | false => simp only [List.lookup_cons, hz]; exact lookup_mapv y r
noncomputable def frK (k : NameKind) : NameKind := if k == .free then .cell else k
theorem relS_lookup (scope : Scope) (y : Str) : (relS scope).names.lookup y = (scope.names.lookup y).map frK := by
  rw [← lookup_mapv]
  unfold relS
  dsimp only
  congr 1
  refine List.map_congr_left fun x _ => ?_
  unfold frK
  obtain ⟨z, k⟩ := x
  dsimp only
  cases k == NameKind.free <;> rfl
/-! the closure -/
noncomputable def clF (cells : List (Str × Addr)) : List (Str × NameKind) → List (Str × Addr) → List (Str × Addr)
  | [], acc => acc
  | (y, k) :: r, acc => if k == .free then clF cells r ((y, (cells.lookup y).getD 0) :: acc) else clF cells r acc
theorem closure_go (f : Str × NameKind → List (Str × Addr) → Sem (ForInStep (List (Str × Addr)))) (hf : ∀ y k cs, f (y, k) cs = if k == .free then (do let a ← cellOf env y; pure (.yield ((y, a) :: cs))) else pure (.yield cs)) :
    ∀ (l : List (Str × NameKind)) (acc : List (Str × Addr)), (∀ x ∈ l, x.2 = .free → (env.cells.lookup x.1).isSome = true) → forIn l acc f = pure (clF env.cells l acc)
  | [], acc, _ => by rw [List.forIn_nil]; rfl
  | (y, k) :: r, acc, hl => by
    rw [List.forIn_cons, hf]
    unfold clF
    cases e : k == NameKind.free with
    | false => simp only [Bool.false_eq_true, if_false]; exact closure_go f hf r acc fun z hz => hl z (List.mem_cons_of_mem _ hz)
    | true =>
      first | with_reducible refine w_true ?_ | with_reducible refine wb_true ?_ | rw [if_pos rfl]
      have := hl _ List.mem_cons_self (by simpa using e)
      obtain ⟨c, hc⟩ := Option.isSome_iff_exists.mp this
      dsimp only at hc
      unfold cellOf
      rw [hc]
      simp only [Option.getD_some]
      exact closure_go f hf r _ fun z hz => hl z (List.mem_cons_of_mem _ hz)
theorem closure_eq {scope : Scope} (h : ∀ x ∈ scope.names, x.2 = .free → (env.cells.lookup x.1).isSome = true) : closureFor scope env = pure (clF env.cells scope.names []) := by
  unfold closureFor
  dsimp only
  rw [closure_go _ (fun y k cs => rfl) scope.names [] h]
  rfl
theorem clF_lookup {cells : List (Str × Addr)} {y : Str} {c : Addr} (hc : cells.lookup y = some c) : ∀ {l : List (Str × NameKind)} {acc : List (Str × Addr)}, ((y, NameKind.free) ∈ l ∨ acc.lookup y = some c) → (clF cells l acc).lookup y = some c
  | [], acc, h => by
    rcases h with h | h
    · (first | exact ns h | exact nb h | obtain rfl := si h | cases h)
    · exact h
  | (z, k) :: r, acc, h => by
    unfold clF
    split
    · rename_i e
      by_cases hz : y = z
      · subst hz
        exact clF_lookup hc (.inr (by simp [hc]))
      · refine clF_lookup hc ?_
        rcases h with h | h
        · rcases List.mem_cons.mp h with e' | h
          · cases e'; exact absurd rfl hz
          · exact .inl h
        · right
          rw [List.lookup_cons, show (y == z) = false by simpa using hz]; exact h
    · rename_i e
      refine clF_lookup hc ?_
      rcases h with h | h
      · rcases List.mem_cons.mp h with e' | h
        · cases e'; exact absurd rfl e
        · exact .inl h
      · exact .inr h
theorem cellsFrom_app : ∀ (l : List (Str × NameKind)) (k : Nat) (acc : List (Str × Addr)), cellsFrom k l acc = cellsFrom k l [] ++ acc
  | [], _, _ => rfl
  | (z, kd) :: r, k, acc => by
    unfold cellsFrom
    split
    · rw [cellsFrom_app r (k + 1) ((z, k) :: acc), cellsFrom_app r (k + 1) [(z, k)]]; simp
    · exact cellsFrom_app r k acc
theorem cellsFrom_mem : ∀ {l : List (Str × NameKind)} {k : Nat} {y : Str} {c : Addr}, (y, c) ∈ cellsFrom k l [] → (y, NameKind.cell) ∈ l
  | [], _, _, _, h => by (first | exact ns h | exact nb h | obtain rfl := si h | cases h)
  | (z, kd) :: r, k, y, c, h => by
    unfold cellsFrom at h
    split at h
    · rename_i e
      rw [cellsFrom_app] at h
      rcases List.mem_append.mp h with h | h
      · exact List.mem_cons_of_mem _ (cellsFrom_mem h)
      · simp only [List.mem_singleton] at h
        (first | exact ns h | exact nb h | obtain rfl := si h | cases h)
        have : kd = .cell := by simpa using e
        subst this; exact List.mem_cons_self
    · exact List.mem_cons_of_mem _ (cellsFrom_mem h)
theorem cellsFrom_has : ∀ {l : List (Str × NameKind)} {k : Nat} {y : Str}, (y, NameKind.cell) ∈ l → ∃ c, (y, c) ∈ cellsFrom k l []
  | (z, kd) :: r, k, y, h => by
    unfold cellsFrom
    rcases List.mem_cons.mp h with e | h
    · (first | exact ns e | exact nb e | obtain rfl := si e | cases e)
      rw [if_pos (by rfl), cellsFrom_app]
      exact ⟨k, List.mem_append_right _ (by simp)⟩
    · split
      · rw [cellsFrom_app]
        obtain ⟨c, hc⟩ := cellsFrom_has (k := k + 1) h
        exact ⟨c, List.mem_append_left _ hc⟩
      · exact cellsFrom_has h
noncomputable def compEnvX (scope : Scope) (L : Addr) (env : Env) : Env :=
  { newEnv scope L env.globals (cellsFrom (L + 1) scope.names (clF env.cells scope.names [])) env.qual none .none (some env) env.builtins with scope := relS scope }
theorem newEnv_around {scope : Scope} {cl : List (Str × Addr)} {qual : Str} {g : Addr} {Q : Env → Shared → Prop} {M : Model} {E : Value → Shared → Prop}
    (h : Q (newEnv scope s.heap.objs.size g cl' qual none .none (some env) builtinsNs) { s with heap := pushCells (s.heap.push { cls := .type "dict", data := .dict #[] }) scope.names })
    (he : cl' = cellsFrom (s.heap.objs.size + 1) scope.names cl) : wpAny M A (newFunctionEnv scope g cl [] qual none .none (some env)) Q E s := by
  subst he
  simp only [newFunctionEnv, Option.isSome_some, if_true]
  refine wpAny_bind (wpAny_alloc ?_)
  refine wpAny_bind (wpAny_layCells _ (fun name kind cells => by cases hkc : kind == NameKind.cell <;> simp [hkc]) _ _ _ _ ?_)
  rw [show ({ s with heap := s.heap.push { cls := .type "dict", data := .dict #[] } } : Shared).heap.objs.size = s.heap.objs.size + 1 from Heap.size_push ..]
  refine wpAny_bind ?_
  rw [List.forIn_nil]
  exact wpAny_pure (wpAny_pure h)
/-! the frame of a comprehension -/
noncomputable def Cx.comp (C : Cx) (names : List Str) : Cx := { C with names := names, pin := none }
noncomputable def capC (nt : Nat) (caps : List Nat) (σ : St) : St := List.replicate nt none ++ caps.map (sget σ)
theorem sget_cap {nt : Nat} {caps : List Nat} {i : Nat} {p : Bool × PyData} (h : sget (capC nt caps σ) i = some p) : ∃ j i', i = nt + j ∧ caps[j]? = some i' ∧ sget σ i' = some p := by
  unfold sget capC at h
  by_cases hi : i < nt
  · rw [List.getElem?_append_left (by simpa using hi), List.getElem?_replicate, if_pos hi] at h; (first | exact ns h | exact nb h | obtain rfl := si h | cases h)
  · rw [List.getElem?_append_right (by simpa using hi), List.length_replicate, List.getElem?_map] at h
    refine ⟨i - nt, ?_⟩
    cases e : caps[i - nt]? with
    | none => rw [e] at h; (first | exact ns h | exact nb h | obtain rfl := si h | cases h)
    | some i' => rw [e] at h; exact ⟨i', by omega, rfl, h⟩
theorem lookup_app_some {l r : List (Str × Addr)} {y : Str} {c : Addr} (h : l.lookup y = some c) : (l ++ r).lookup y = some c := by rw [List.lookup_append, h]; rfl
theorem lookup_app_none {l r : List (Str × Addr)} {y : Str} (h : l.lookup y = none) : (l ++ r).lookup y = r.lookup y := by rw [List.lookup_append, h]; rfl
theorem lookup_of_mem : ∀ {l : List (Str × Addr)} {y : Str} {c : Addr}, (y, c) ∈ l → ∃ c', l.lookup y = some c'
  | (z, d) :: r, y, c, h => by
    rw [List.lookup_cons]
    cases e : y == z with
    | true => exact ⟨d, rfl⟩
    | false =>
      rcases List.mem_cons.mp h with q | q
      · (first | exact ns q | exact nb q | obtain rfl := si q | cases q); simp at e
      · exact lookup_of_mem q
theorem comp_ct {F0 : Fz} {scope : Scope} {names : List Str} {nt : Nat} {caps : List Nat} {s3 : Shared} (X0 : Ct C n sc A env base low F0 s σ) (g : Grow F0 s F s3) (K : CompOk C sc scope names nt caps) :
    Ct (C.comp names) n (relS scope) A (compEnvX scope s3.heap.objs.size env) (fun a => s.heap.get? a) low F { s3 with heap := pushCells (s3.heap.push { cls := .type "dict", data := .dict #[] }) scope.names } (capC nt caps σ) ∧
    (∀ x c, (compEnvX scope s3.heap.objs.size env).kindOf x = some .cell → (compEnvX scope s3.heap.objs.size env).cells.lookup x = some c → s3.heap.get? c = none ∨ s.heap.get? c ≠ none) ∧
    (∀ x c, scope.names.lookup x = some .cell → (compEnvX scope s3.heap.objs.size env).cells.lookup x = some c → s3.heap.get? c = none) ∧
    (∀ i x d a, names[i]? = some x → sget (capC nt caps σ) i = some (true, d) → Lk (compEnvX scope s3.heap.objs.size env) (pushCells (s3.heap.push { cls := .type "dict", data := .dict #[] }) scope.names) x (.ref a) → s.heap.get? a ≠ none) := by
  have X := X0.grow g
  have S := X.fs
  have keep : ∀ b o, s3.heap.get? b = some o → (pushCells (s3.heap.push { cls := .type "dict", data := .dict #[] }) scope.names).get? b = some o := fun b o e => pushCells_keeps _ _ b o (Heap.get?_push_of_some _ e)
  have ok := cellsFrom_ok scope.names (s3.heap.push { cls := .type "dict", data := .dict #[] }) (s3.heap.objs.size + 1) [] ⟨fun _ _ hm => (nomatch hm), List.Pairwise.nil⟩ (by rw [Heap.size_push]; exact Nat.le_refl _)
  rw [Heap.size_push] at ok
  have hcs : (compEnvX scope s3.heap.objs.size env).cells = cellsFrom (s3.heap.objs.size + 1) scope.names [] ++ clF env.cells scope.names [] := cellsFrom_app ..
  have none3 : ∀ {a}, s3.heap.objs.size ≤ a → s3.heap.get? a = none := fun {a} h => by
    cases q : s3.heap.get? a with
    | none => rfl
    | some o => exact absurd (Heap.lt_size q) (Nat.not_lt.mpr h)
  have own0 : ∀ {y}, scope.names.lookup y = some .free → (cellsFrom (s3.heap.objs.size + 1) scope.names []).lookup y = none := fun {y} h => by
    cases q : (cellsFrom (s3.heap.objs.size + 1) scope.names []).lookup y with
    | none => rfl
    | some c =>
      have := lookup_mem K.once (cellsFrom_mem (mem_of_lookup q))
      dsimp only at this
      rw [h] at this; cases this
  have frC : ∀ {y}, scope.names.lookup y = some .free → env.kindOf y = some .cell := fun {y} h => (X.kindOf y).trans (K.free _ (mem_of_lookup h) rfl).1
  have frL : ∀ {y c}, scope.names.lookup y = some .free → env.cells.lookup y = some c → (compEnvX scope s3.heap.objs.size env).cells.lookup y = some c := fun {y c} h hc => by
    rw [hcs, lookup_app_none (own0 h)]
    exact clF_lookup hc (.inl (mem_of_lookup h))
  have kd : ∀ {y}, (compEnvX scope s3.heap.objs.size env).kindOf y = (scope.names.lookup y).map frK := fun {y} => relS_lookup scope y
  have cellO : ∀ {y}, (compEnvX scope s3.heap.objs.size env).kindOf y = some .cell → (∃ c, (cellsFrom (s3.heap.objs.size + 1) scope.names []).lookup y = some c) ∨ scope.names.lookup y = some .free := fun {y} h => by
    rw [kd] at h
    cases e : scope.names.lookup y with
    | none => rw [e] at h; (first | exact ns h | exact nb h | obtain rfl := si h | cases h)
    | some k =>
      rw [e] at h
      by_cases q : k = .free
      · subst q; exact .inr rfl
      · left
        have : k = .cell := by
          have h' : frK k = .cell := Option.some.inj h
          unfold frK at h'
          rwa [if_neg (by simpa using q)] at h'
        subst this
        obtain ⟨c, hc⟩ := cellsFrom_has (k := s3.heap.objs.size + 1) (mem_of_lookup e)
        exact lookup_of_mem hc
  have lkF : ∀ {y v}, scope.names.lookup y = some .free → Lk env s3.heap y v → Lk (compEnvX scope s3.heap.objs.size env) (pushCells (s3.heap.push { cls := .type "dict", data := .dict #[] }) scope.names) y v := fun {y v} h l => by
    cases l with
    | loc k => rw [frC h] at k; cases k
    | cell k c i => exact .cell (by rw [kd, h]; rfl) (frL h c) (i.keeps keep)
    | free k => rw [frC h] at k; cases k
  have lkB : ∀ {y v}, scope.names.lookup y = some .free → Lk (compEnvX scope s3.heap.objs.size env) (pushCells (s3.heap.push { cls := .type "dict", data := .dict #[] }) scope.names) y v → Lk env s3.heap y v := fun {y v} h l => by
    have hk : (compEnvX scope s3.heap.objs.size env).kindOf y = some .cell := by rw [kd, h]; rfl
    cases l with
    | loc k => rw [hk] at k; cases k
    | cell k c i =>
      obtain ⟨c', u, h1, h2, _⟩ := S.cell y (frC h)
      rw [frL h h1] at c; cases c
      have := cell_uniq i (h2.keeps keep)
      subst this
      exact .cell (frC h) h1 h2
    | free k => rw [hk] at k; cases k
  have capN : ∀ {i x p}, names[i]? = some x → sget (capC nt caps σ) i = some p → ∃ i', C.names[i']? = some x ∧ sget σ i' = some p ∧ scope.names.lookup x = some .free := fun {i x p} hi h => by
    obtain ⟨j, i', rfl, hj, hs⟩ := sget_cap h
    have e1 : (names.drop nt)[j]? = some x := by rw [List.getElem?_drop]; exact hi
    refine ⟨i', ?_, hs, K.capf x (List.mem_of_getElem? e1)⟩
    have := congrArg (·[j]?) K.cap
    simp only [List.getElem?_map, hj, e1, Option.map_some] at this
    exact Option.some.inj this
  have ownC : ∀ {x c}, scope.names.lookup x = some .cell → (compEnvX scope s3.heap.objs.size env).cells.lookup x = some c → s3.heap.get? c = none := fun {x c} h hc => by
    obtain ⟨c', hm⟩ := cellsFrom_has (k := s3.heap.objs.size + 1) (mem_of_lookup h)
    obtain ⟨c2, h2⟩ := lookup_of_mem hm
    rw [hcs, lookup_app_some h2] at hc; (first | exact ns hc | exact nb hc | obtain rfl := si hc | cases hc)
    exact none3 (Nat.le_of_succ_le (ok.empty x _ (mem_of_lookup h2)).2)
  refine ⟨?_, fun x c hx hc => ?_, fun x c => ownC, fun i x d a hi hd l => ?_⟩
  rotate_left
  · rcases cellO hx with ⟨c1, h1⟩ | hf
    · rw [hcs, lookup_app_some h1] at hc; (first | exact ns hc | exact nb hc | obtain rfl := si hc | cases hc)
      exact .inl (none3 (Nat.le_of_succ_le (ok.empty x _ (mem_of_lookup h1)).2))
    · obtain ⟨c', v, h1, ⟨o, h2, _⟩, _⟩ := X0.fs.cell x (frC hf)
      rw [frL hf h1] at hc; (first | exact ns hc | exact nb hc | obtain rfl := si hc | cases hc)
      right; rw [h2]; simp
  · obtain ⟨i', h1, h2, h3⟩ := capN hi hd
    obtain ⟨a', l', o, _⟩ := X0.fs.own i' x d h1 h2
    cases (lkB h3 l).uniq (l'.keeps g.keep)
    obtain ⟨o', ho'⟩ := o.there
    rw [ho']; simp
  refine ⟨⟨X.ok.g, X.ok.b, X.ok.lim, X.ok.hH⟩, X.room, rfl, fun b o e => X0.keep0 b o e, ?_, fun x a e => nomatch e⟩
  exact {
    kind := K.kind, glob := S.glob, blt := S.blt, nodup := K.nodup
    keep := fun b o e => keep b o (g.keep b o e)
    keepL := fun b o e => keep b o (S.keepL b o e)
    sat := fun a o e => keep a o (g.sat a o e)
    ns := ⟨_, (Heap.Ns.new s3.heap (.type "dict")).keeps (pushCells_keeps _ _)⟩
    LF := sat_fresh g.sat (get_size _)
    Lb := g.fresh_back (get_size _)
    Ll := (X.low_none (get_size _)).2.1
    cell := fun x hx => by
      rcases cellO hx with ⟨c, hc⟩ | hf
      · have q := ok.empty x c (mem_of_lookup hc)
        have n3 : s3.heap.get? c = none := none3 (by omega)
        exact ⟨c, none, by rw [hcs]; exact lookup_app_some hc, q.1, sat_fresh g.sat n3, (X.low_none n3).2.1⟩
      · obtain ⟨c, v, h1, h2, h3, h4⟩ := S.cell x (frC hf)
        exact ⟨c, v, frL hf h1, h2.keeps keep, h3, h4⟩
    cinj := fun x y c hx hy hcx hcy => by
      have sep : ∀ {x y : Str} {c1 c2}, (cellsFrom (s3.heap.objs.size + 1) scope.names []).lookup x = some c1 → (compEnvX scope s3.heap.objs.size env).cells.lookup x = some c → scope.names.lookup y = some .free → (compEnvX scope s3.heap.objs.size env).cells.lookup y = some c → c1 = c2 → False := fun {x y c1 c2} h1 h2 h3 h4 _ => by
        rw [hcs, lookup_app_some h1] at h2; (first | exact ns h2 | exact nb h2 | obtain rfl := si h2 | cases h2)
        have q := (ok.empty x _ (mem_of_lookup h1)).2
        obtain ⟨c', v, e1, ⟨o, e2, _⟩, _⟩ := S.cell y (frC h3)
        rw [frL h3 e1] at h4; (first | exact ns h4 | exact nb h4 | obtain rfl := si h4 | cases h4)
        exact absurd (Heap.lt_size e2) (Nat.not_lt.mpr (Nat.le_of_succ_le q))
      rcases cellO hx with ⟨c1, h1⟩ | h1 <;> rcases cellO hy with ⟨c2, h2⟩ | h2
      · have e1 := lookup_app_some (r := clF env.cells scope.names []) h1
        have e2 := lookup_app_some (r := clF env.cells scope.names []) h2
        rw [hcs] at hcx hcy
        rw [hcx] at e1; (first | exact ns e1 | exact nb e1 | obtain rfl := si e1 | cases e1)
        rw [hcy] at e2; (first | exact ns e2 | exact nb e2 | obtain rfl := si e2 | cases e2)
        exact name_of_addr ok.apart (mem_of_lookup h1) (mem_of_lookup h2)
      · exact (sep h1 hcx h2 hcy rfl).elim
      · exact (sep h2 hcy h1 hcx rfl).elim
      · obtain ⟨c1, v1, e1, _⟩ := S.cell x (frC h1)
        obtain ⟨c2, v2, e2, _⟩ := S.cell y (frC h2)
        have f1 := frL h1 e1
        have f2 := frL h2 e2
        rw [hcx] at f1; cases f1
        rw [hcy] at f2; cases f2
        exact S.cinj x y _ (frC h1) (frC h2) e1 e2
    free := fun x c hx _ => by
      rw [kd] at hx
      cases e : scope.names.lookup x with
      | none => rw [e] at hx; (first | exact ns hx | exact nb hx | obtain rfl := si hx | cases hx)
      | some k =>
        rw [e] at hx
        have hx' : frK k = .free := Option.some.inj hx
        unfold frK at hx'
        split at hx'
        · cases hx'
        · rename_i q; exact absurd (by simp [hx']) q
    vars := fun i x d hi hd => by
      obtain ⟨i', h1, h2, h3⟩ := capN hi hd
      obtain ⟨v, l, r⟩ := S.vars i' x d h1 h2
      exact ⟨v, lkF h3 l, r⟩
    own := fun i x d hi hd => by
      obtain ⟨i', h1, h2, h3⟩ := capN hi hd
      obtain ⟨a, l, o, f1, f2, f3⟩ := S.own i' x d h1 h2
      refine ⟨a, lkF h3 l, o.grow (Sub.refl F) (fun o' e => keep a o' e), f1, f2, ?_⟩
      intro (e : a = s3.heap.objs.size)
      obtain ⟨o', ho'⟩ := o.there
      rw [e, get_size] at ho'; cases ho'
    oinj := fun i j x y d e a hi hj hd he lx ly => by
      obtain ⟨i', h1, h2, h3⟩ := capN hi hd
      obtain ⟨j', k1, k2, k3⟩ := capN hj he
      have := S.oinj i' j' x y d e a h1 k1 h2 k2 (lkB h3 lx) (lkB k3 ly)
      subst this
      rw [h1] at k1; cases k1
      obtain ⟨hi1, hi2⟩ := List.getElem?_eq_some_iff.mp hi
      obtain ⟨hj1, hj2⟩ := List.getElem?_eq_some_iff.mp hj
      exact (List.getElem_inj K.nodup).mp (hi2.trans hj2.symm) }
end Ev
set_option maxRecDepth 10000
namespace Ev
open PySem PySem.W PySem.Spec PySem.Calls PyProof.Rows PySem.SeqAt
variable {C : Cx} {n : Nat} {sc : Scope} {A : Around} {env : Env} {base : Fz} {low : Fz} {F F' : Fz} {s s' : Shared} {σ : St}
noncomputable def InW (M : Model) (A : Around) (E : Value → Shared → Prop) (elt : Expr) (gens : List Comprehension) (scope : Scope) (pos : Pos) (depth : Nat) (acc : Value) (env : Env) (K : Shared → Prop) (s : Shared) : Prop :=
  match gens[depth + 1]? with
  | some g' => g'.is_async = 0 ∧ wpAny M A (eval g'.iter env) (fun x s1 => foldedSetIterable g'.iter env x = pure x ∧ wpAny M A (pyIter x) (fun it s2 => wpAny M A (runOwn (.compStart (.ListComp elt gens scope pos) (depth + 1) it acc env) env) (fun _ s3 => K s3) E s2) E s1) E s
  | none => wpAny M A (eval elt env) (fun x s1 => wpAny M A (call (.builtin "list.append") [acc, x]) (fun _ s2 => K s2) E s1) E s
theorem turn_wp {M : Model} {E : Value → Shared → Prop} {elt : Expr} {gens : List Comprehension} {scope : Scope} {pos : Pos} {depth : Nat} {it acc : Value} {tg iter : Expr} {ifs : List Expr} {Q : Fin → Shared → Prop} (hg : gens[depth]? = some ⟨tg, iter, ifs, 0⟩)
    (h : wpAny M A (pyNext it) (fun ov s1 => match ov with
      | none => Q (.done .next) s1
      | some v => wpAny M A (letOwnedTupleGo tg it v) (fun _ s2 => wpAny M A (assign tg env v) (fun _ s3 =>
          wpAny M A (forIn ifs true fun c r => if r = true then do let ok ← PySem.isTrue c env (eval c env); pure (ForInStep.yield ok) else pure (ForInStep.yield r)) (fun ok s4 =>
            if ok = true then InW M A E elt gens scope pos depth acc env (fun s5 => Q (.again (.compLoop (.ListComp elt gens scope pos) depth it acc env)) s5) s4 else Q (.again (.compLoop (.ListComp elt gens scope pos) depth it acc env)) s4) E s3) E s2) E s1) E s) :
    wpAny M A (compTurn (.ListComp elt gens scope pos) depth it acc env) Q E s := by
  unfold compTurn
  dsimp only
  rw [hg]
  dsimp only
  rw [if_neg (by decide), if_neg (by decide)]
  refine wpAny_bind (wpAny_standAt (wpAny_bind (wpAny_mono h (fun ov s1 h1 => ?_) fun _ _ e => e)))
  cases ov with
  | none => exact wpAny_pure h1
  | some v =>
    dsimp only at h1 ⊢
    refine wpAny_bind (wpAny_mono h1 (fun _ s2 h2 => wpAny_bind (wpAny_mono h2 (fun _ s3 h3 => wpAny_bind (wpAny_mono h3 (fun ok s4 h4 => ?_) fun _ _ e => e)) fun _ _ e => e)) fun _ _ e => e)
    cases ok with
    | false => exact wpAny_pure h4
    | true =>
      simp only [if_true] at h4 ⊢
      unfold InW at h4
      cases hn : gens[depth + 1]? with
      | none =>
        rw [hn] at h4
        dsimp only at h4 ⊢
        exact wpAny_bind (wpAny_bind (wpAny_mono h4 (fun x s5 h5 => wpAny_bind (wpAny_mono h5 (fun _ s6 h6 => wpAny_pure (wpAny_pure h6)) fun _ _ e => e)) fun _ _ e => e))
      | some g' =>
        rw [hn] at h4
        obtain ⟨h0, h4⟩ := h4
        dsimp only at h4 ⊢
        rw [h0]
        refine wpAny_bind (wpAny_mono h4 (fun x s5 h5 => wpAny_bind (wpAny_standAt ?_)) fun _ _ e => e)
        obtain ⟨h5a, h5⟩ := h5
        rw [if_neg (by decide), h5a]
        refine wpAny_bind (wpAny_pure (wpAny_bind (wpAny_holding ?_)))
        first | with_reducible refine w_neg (by decide) ?_ | with_reducible refine wb_neg (by decide) ?_ | rw [if_neg (by decide)]
        exact wpAny_mono h5 (fun it2 s6 h6 => wpAny_bind (wpAny_mono h6 (fun _ s7 h7 => wpAny_pure h7) fun _ _ e => e)) fun _ _ e => e
theorem loop_wp {M : Model} {elt : Expr} {gens : List Comprehension} {scope : Scope} {pos : Pos} {depth : Nat} {it acc : Value} {tg iter : Expr} {ifs : List Expr} {R : Result → Shared → Prop} (hM : M = model C.prog C.w) (hg : gens[depth]? = some ⟨tg, iter, ifs, 0⟩) (I : Nat → Shared → Prop)
    (h : ∀ k s, I k s → wpAny M A (pyNext it) (fun ov s1 => match ov with
      | none => R (.ok .next) s1
      | some v => wpAny M A (letOwnedTupleGo tg it v) (fun _ s2 => wpAny M A (assign tg env v) (fun _ s3 =>
          wpAny M A (forIn ifs true fun c r => if r = true then do let ok ← PySem.isTrue c env (eval c env); pure (ForInStep.yield ok) else pure (ForInStep.yield r)) (fun ok s4 =>
            if ok = true then InW M A (fun _ _ => False) elt gens scope pos depth acc env (fun s5 => ∃ m, m < k ∧ I m s5) s4 else ∃ m, m < k ∧ I m s4) (fun _ _ => False) s3) (fun _ _ => False) s2) (fun _ _ => False) s1) (fun _ _ => False) s)
    (k : Nat) (hk : I k s) : codeAny M A (.compLoop (.ListComp elt gens scope pos) depth it acc env) R s := by
  subst hM
  refine codeAny_loop rfl I (fun k s hI => ?_) k hk
  show wpAny _ A ((compTurn (.ListComp elt gens scope pos) depth it acc env).onRaise (fun x => do noteFrame x env; theTreesLotGoes x)) _ _ s
  refine wpAny_noted ?_
  refine wpAny_mono (E := fun _ _ => False) (turn_wp hg (wpAny_mono (h k s hI) (fun ov s1 h1 => ?_) fun _ _ e => e)) (fun _ _ q => q) fun _ _ e => e.elim
  cases ov with
  | none => exact h1
  | some v =>
    refine wpAny_mono h1 (fun _ s2 h2 => wpAny_mono h2 (fun _ s3 h3 => wpAny_mono h3 (fun ok s4 h4 => ?_) fun _ _ e => e) fun _ _ e => e) fun _ _ e => e
    cases ok with
    | false => exact ⟨by first | rfl | trivial, h4⟩
    | true =>
      simp only [if_true] at h4 ⊢
      unfold InW at h4 ⊢
      cases hn : gens[depth + 1]? with
      | none => rw [hn] at h4; exact wpAny_mono h4 (fun x s5 h5 => wpAny_mono h5 (fun _ s6 h6 => ⟨trivial, h6⟩) fun _ _ e => e) fun _ _ e => e
      | some g' =>
        rw [hn] at h4
        exact ⟨h4.1, wpAny_mono h4.2 (fun x s5 h5 => ⟨h5.1, wpAny_mono h5.2 (fun it2 s6 h6 => wpAny_mono h6 (fun _ s7 h7 => ⟨trivial, h7⟩) fun _ _ e => e) fun _ _ e => e⟩) fun _ _ e => e⟩
theorem start_wp {elt : Expr} {gens : List Comprehension} {scope : Scope} {pos : Pos} {depth : Nat} {it acc : Value} {tg iter : Expr} {ifs : List Expr} {R : Result → Shared → Prop} (hg : gens[depth]? = some ⟨tg, iter, ifs, 0⟩)
    (h0 : codeAny (model C.prog C.w) A (.compLoop (.ListComp elt gens scope pos) depth it acc env) R s)
    (h : wpAny (model C.prog C.w) A (pyIter it) (fun it' s' => codeAny (model C.prog C.w) A (.compLoop (.ListComp elt gens scope pos) depth it' acc env) R s') (notedBy (model C.prog C.w) A env fun x s' => R (.error x) s') s) :
    codeAny (model C.prog C.w) A (.compStart (.ListComp elt gens scope pos) depth it acc env) R s := by
  refine codeAny_of_tree ?_
  show wpAny _ _ ((compStart (.ListComp elt gens scope pos) depth it acc env).onRaise (fun x => do noteFrame x env; standAt theWindowsPlace)) _ _ s
  refine wpAny_notedAt ?_
  unfold compStart
  have hc : clausesOf (.ListComp elt gens scope pos) = gens := rfl
  rw [hc, hg]
  first | with_reducible refine w_neg (by simp) ?_ | with_reducible refine wb_neg (by simp) ?_ | rw [if_neg (by simp)]
  show wpAny _ _ (ask >>= _) _ _ s
  refine wpAny_bind (wpAny_askSetting (wpAny_ite ?_))
  split
  · first
      | exact wpAny_bind (wpAny_pure (wpAny_pure (And.intro rfl h0)))
      | exact wpAny_pure (And.intro rfl h0)
  · first
      | exact wpAny_bind (wpAny_rule (wpAny_bind (wpAny_standAt (wpAny_bind (wpAny_mono h (fun it' s' h' => wpAny_pure (And.intro rfl h')) fun _ _ x => x)))))
      | (refine wpAny_bind (wpAny_rule ?_); show wpAny _ _ (standAt iter.pos >>= _) _ _ s; exact wpAny_bind (wpAny_standAt (wpAny_bind (wpAny_mono h (fun it' s' h' => wpAny_pure (And.intro rfl h')) fun _ _ x => x))))
end Ev
set_option maxRecDepth 10000
namespace Ev
open PySem PySem.W PySem.Spec PySem.Calls PyProof.Rows PySem.SeqAt
variable {C : Cx} {n : Nat} {sc : Scope} {A : Around} {env : Env} {base : Fz} {low : Fz} {F F' : Fz} {s s' : Shared} {σ : St}
/-! less is known -/
theorem Fs.weak {H : PyData → Int} {names : List Str} {h : Heap} {σ' : St} (S : Fs H names env base low F h σ') (le : ∀ i p, sget σ i = some p → sget σ' i = some p) : Fs H names env base low F h σ where
  kind := S.kind
  glob := S.glob
  blt := S.blt
  nodup := S.nodup
  keep := S.keep
  keepL := S.keepL
  sat := S.sat
  ns := S.ns
  LF := S.LF
  Lb := S.Lb
  Ll := S.Ll
  cell := S.cell
  cinj := S.cinj
  free := S.free
  vars := fun i x d hi hd => S.vars i x d hi (le _ _ hd)
  own := fun i x d hi hd => S.own i x d hi (le _ _ hd)
  oinj := fun i j x y d e a hi hj hd he => S.oinj i j x y d e a hi hj (le _ _ hd) (le _ _ he)
theorem Ct.weak {σ' : St} (X : Ct C n sc A env base low F s σ') (le : ∀ i p, sget σ i = some p → sget σ' i = some p) : Ct C n sc A env base low F s σ := ⟨X.ok, X.room, X.scope, X.k0, X.fs.weak le, X.pin⟩
theorem Ct.lower2 {base' low' : Fz} (h : ∀ b o, base b = some o → base' b = some o) (hl : ∀ b o, low b = some o → low' b = some o) (k0 : ∀ b o, C.h₀.get? b = some o → base b = some o) (X : Ct C n sc A env base' low' F s σ) : Ct C n sc A env base low F s σ := by
  have S := X.fs
  have nn : ∀ {p q : Fz} {a}, (∀ b o, p b = some o → q b = some o) → q a = none → p a = none := fun {p q a} h e => by
    cases r : p a with
    | none => rfl
    | some o => rw [h a o r] at e; (first | exact ns e | exact nb e | obtain rfl := si e | cases e)
  exact X.step k0 (fun _ l => l) {
    kind := S.kind, glob := S.glob, blt := S.blt, nodup := S.nodup
    keep := fun b o e => S.keep b o (h b o e), keepL := fun b o e => S.keepL b o (hl b o e), sat := S.sat, ns := S.ns, LF := S.LF
    Lb := nn h S.Lb, Ll := nn hl S.Ll
    cell := fun x hx => let ⟨c, v, h1, h2, h3, h4⟩ := S.cell x hx; ⟨c, v, h1, h2, h3, nn hl h4⟩
    cinj := S.cinj, free := S.free, vars := S.vars
    own := fun i x d hi hd => let ⟨a, h1, h2, h3, h4, h5⟩ := S.own i x d hi hd; ⟨a, h1, h2, h3, nn hl h4, h5⟩
    oinj := S.oinj }
theorem bs_eq {W : List Addr} {h h' : Heap} {B : Fz} (th : ∀ a ∈ W, h'.get? a = h.get? a) : bs W h' B = bs W h B := by
  funext a
  by_cases m : a ∈ W
  · rw [bs_in m, bs_in m, th a m]
  · rw [bs_out m, bs_out m]
theorem kept_eq {h h' : Heap} {a : Addr} (t : ∃ o, h.get? a = some o) (k : ∀ o, h.get? a = some o → h'.get? a = some o) : h'.get? a = h.get? a := by
  obtain ⟨o, ho⟩ := t
  rw [ho, k o ho]
theorem storeD_out : ∀ {is : List Nat} {vos : List (Bool × PyData)} {σ σ' : St}, storeD is vos σ = some σ' → ∀ {i}, i ∉ is → sget σ' i = sget σ i
  | [], [], σ, σ', h, i, _ => by (first | exact ns h | exact nb h | obtain rfl := si h | cases h); rfl
  | [], _ :: _, σ, σ', h, i, _ => by (first | exact ns h | exact nb h | obtain rfl := si h | cases h)
  | _ :: _, [], σ, σ', h, i, _ => by (first | exact ns h | exact nb h | obtain rfl := si h | cases h)
  | k :: is, vo :: vos, σ, σ', h, i, m => by
    simp only [storeD] at h
    rw [storeD_out h fun q => m (List.mem_cons_of_mem _ q), sget_set_ne]
    rintro rfl; exact m List.mem_cons_self
theorem storeD_le {is : List Nat} {vos : List (Bool × PyData)} {σ' : St} (h : storeD is vos σ = some σ') (hn : ∀ i ∈ is, sget σ i = none) : ∀ i p, sget σ i = some p → sget σ' i = some p := fun i p e => by
  rw [storeD_out h]
  · exact e
  · intro m; rw [hn i m] at e; (first | exact ns e | exact nb e | obtain rfl := si e | cases e)
theorem places_inj (hnd : C.names.Nodup) : ∀ {js is : List Nat} {xs : List Str}, (js.map fun i => C.names[i]?) = xs.map some → (is.map fun i => C.names[i]?) = xs.map some → js = is
  | [], [], _, _, _ => rfl
  | [], _ :: _, xs, h1, h2 => by rw [← h2] at h1; simp at h1
  | _ :: _, [], xs, h1, h2 => by rw [← h2] at h1; simp at h1
  | j :: js, i :: is, xs, h1, h2 => by
    cases xs with
    | nil => simp at h1
    | cons x xs =>
      simp only [List.map_cons, List.cons.injEq] at h1 h2
      obtain ⟨a1, a2⟩ := List.getElem?_eq_some_iff.mp h1.1
      obtain ⟨b1, b2⟩ := List.getElem?_eq_some_iff.mp h2.1
      rw [places_inj hnd h1.2 h2.2, (List.getElem_inj hnd).mp (a2.trans b2.symm)]
theorem SndTg.le {tg : Expr} {g : PyData → St → Option St} {xs : List Str} (T : SndTg C tg g xs) {is : List Nat} (hnd : C.names.Nodup) (hx : (is.map fun i => C.names[i]?) = xs.map some) {d : PyData} {σ' : St} (h : g d σ = some σ') (hn : ∀ i ∈ is, sget σ i = none) :
    ∀ i p, sget σ i = some p → sget σ' i = some p := by
  cases T with
  | @name k x pos hi =>
    (first | exact ns h | exact nb h | obtain rfl := si h | cases h)
    have : [k] = is := places_inj hnd (xs := [x]) (by simp [hi]) hx
    subst this
    exact storeD_le (vos := [(false, d)]) rfl hn
  | @tuple elts k pos js xs ps he hl hx' =>
    have := places_inj hnd hx' hx
    subst this
    dsimp only at h
    split at h
    · exact storeD_le h hn
    · (first | exact ns h | exact nb h | obtain rfl := si h | cases h)
/-! the state of a comprehension at work -/
structure Cm (C : Cx) (n : Nat) (sc : Scope) (A : Around) (env : Env) (T : List Str) (B low : Fz) (D : Addr) (W : List Addr) (F : Fz) (s : Shared) (σ : St) (ys : List PyData) : Prop where
  ct : Ct C n sc A env (bs (D :: W) s.heap B) (bs (D :: W) s.heap low) F s σ
  acc : ∃ vs m, s.heap.get? D = some (seqObj "list" vs m) ∧ RL C.H F vs.toList ys
  there : ∀ a ∈ W, ∃ o, s.heap.get? a = some o
  off : ∀ a ∈ D :: W, F a = none
  new0 : ∀ a ∈ D :: W, C.h₀.get? a = none
  nin : D ∉ W
  bn : ∀ a ∈ D :: W, B a = none ∧ low a = none
  may : ∀ x ∈ T, MaySt C env B x
variable {T : List Str} {B : Fz} {D : Addr} {W : List Addr} {ys : List PyData}
theorem Cm.thereD (X : Cm C n sc A env T B low D W F s σ ys) : ∀ a ∈ D :: W, ∃ o, s.heap.get? a = some o := fun a m => by
  rcases List.mem_cons.mp m with rfl | m
  · obtain ⟨vs, k, h, _⟩ := X.acc; exact ⟨_, h⟩
  · exact X.there a m
theorem Cm.keepB (X : Cm C n sc A env T B low D W F s σ ys) : ∀ b o, B b = some o → s.heap.get? b = some o := fun b o e => X.ct.fs.keep b o (by
  rw [bs_out fun m => by rw [(X.bn b m).1] at e; cases e]; exact e)
theorem Cm.k0B (X : Cm C n sc A env T B low D W F s σ ys) : ∀ b o, C.h₀.get? b = some o → B b = some o := fun b o e => by
  have := X.ct.k0 b o e
  rwa [bs_out fun m => by rw [X.new0 b m] at e; cases e] at this
theorem Cm.move {σ' : St} (X : Cm C n sc A env T B low D W F s σ ys) (hs : Sub F F') (hk : ∀ a ∈ D :: W, ∀ o, s.heap.get? a = some o → s'.heap.get? a = some o) (ho : ∀ a ∈ D :: W, F' a = none)
    (Y : Ct C n sc A env (bs (D :: W) s.heap B) (bs (D :: W) s.heap low) F' s' σ') : Cm C n sc A env T B low D W F' s' σ' ys := by
  have e : ∀ {q : Fz}, bs (D :: W) s'.heap q = bs (D :: W) s.heap q := bs_eq fun a m => kept_eq (X.thereD a m) (hk a m)
  refine ⟨by rw [e, e]; exact Y, ?_, fun a m => ?_, ho, X.new0, X.nin, X.bn, X.may⟩
  · obtain ⟨vs, k, h, r⟩ := X.acc; exact ⟨vs, k, hk D List.mem_cons_self _ h, r.mono hs⟩
  · obtain ⟨o, h⟩ := X.there a m; exact ⟨o, hk a (List.mem_cons_of_mem _ m) o h⟩
theorem off_fresh {F F' : Fz} {h : Heap} {a : Addr} (hf : ∀ a o, F' a = some o → F a = some o ∨ h.get? a = none) (h1 : F a = none) (h2 : ∃ o, h.get? a = some o) : F' a = none := by
  cases q : F' a with
  | none => rfl
  | some o =>
    obtain ⟨o', ho'⟩ := h2
    rcases hf a o q with e | e
    · rw [h1] at e; (first | exact ns e | exact nb e | obtain rfl := si e | cases e)
    · rw [ho'] at e; (first | exact ns e | exact nb e | obtain rfl := si e | cases e)
theorem Cm.grow (X : Cm C n sc A env T B low D W F s σ ys) (g : Grow F s F' s') : Cm C n sc A env T B low D W F' s' σ ys :=
  X.move g.sub (fun a _ o e => g.keep a o e) (fun a m => off_fresh g.fresh (X.off a m) (X.thereD a m)) (X.ct.grow g)
theorem Cm.same {σ' : St} (X : Cm C n sc A env T B low D W F s σ ys) (Y : Ct C n sc A env (bs (D :: W) s.heap B) (bs (D :: W) s.heap low) F s' σ') : Cm C n sc A env T B low D W F s' σ' ys :=
  X.move (Sub.refl F) (fun a m o e => Y.fs.keep a o (by rw [bs_in m]; exact e)) X.off Y
theorem Cm.weak {σ' : St} (X : Cm C n sc A env T B low D W F s σ' ys) (le : ∀ i p, sget σ i = some p → sget σ' i = some p) : Cm C n sc A env T B low D W F s σ ys :=
  ⟨X.ct.weak le, X.acc, X.there, X.off, X.new0, X.nin, X.bn, X.may⟩
theorem Adv.wide {W W' : List Addr} (v : Adv W F s F' s') (h : ∀ a ∈ W, a ∈ W') : Adv W' F s F' s' := ⟨fun b o m e => v.keep b o (fun q => m (h b q)) e, v.sub, v.fresh, v.sat, v.gens, v.drawn, v.os⟩
theorem Cm.adv (X : Cm C n sc A env T B low D W F s σ ys) (v : Adv W F s F' s') (th : ∀ a ∈ W, ∃ o, s'.heap.get? a = some o) : Cm C n sc A env T B low D W F' s' σ ys := by
  have Y := X.ct.adv X.thereD X.new0 (v.wide fun a m => List.mem_cons_of_mem _ m)
  refine ⟨Y, ?_, th, fun a m => off_fresh v.fresh (X.off a m) (X.thereD a m), X.new0, X.nin, X.bn, X.may⟩
  obtain ⟨vs, k, h, r⟩ := X.acc
  exact ⟨vs, k, v.keep D _ X.nin h, r.mono v.sub⟩
theorem Cm.adv0 (X : Cm C n sc A env T B low D W F s σ ys) (v : Adv W F s F' s') : Cm C n sc A env T B low D [] F' s' σ ys := by
  have Y := X.ct.adv X.thereD X.new0 (v.wide fun a m => List.mem_cons_of_mem _ m)
  have sub : ∀ {q : Fz}, (∀ a ∈ D :: W, q a = none) → ∀ b o, bs [D] s'.heap q b = some o → bs (D :: W) s'.heap q b = some o := fun {q} hn b o e => by
    by_cases ed : b = D
    · subst ed; rw [bs_in List.mem_cons_self] at e ⊢; exact e
    · rw [bs_out (by simp [ed])] at e
      rw [bs_out fun m => by rw [hn b m] at e; cases e]; exact e
  refine ⟨Y.lower2 (sub fun a m => (X.bn a m).1) (sub fun a m => (X.bn a m).2) (fun b o e => ?_), ?_, fun a m => (nomatch m), fun a m => ?_, fun a m => ?_, (fun m => nomatch m), fun a m => ?_, X.may⟩
  · have := X.k0B b o e
    rw [bs_out fun m => by rw [X.new0 b (by simp at m; subst m; exact List.mem_cons_self)] at e; cases e]; exact this
  · obtain ⟨vs, k, h, r⟩ := X.acc
    exact ⟨vs, k, v.keep D _ X.nin h, r.mono v.sub⟩
  · simp only [List.mem_singleton] at m; subst m
    exact off_fresh v.fresh (X.off _ List.mem_cons_self) (X.thereD _ List.mem_cons_self)
  · simp only [List.mem_singleton] at m; subst m; exact X.new0 _ List.mem_cons_self
  · simp only [List.mem_singleton] at m; subst m; exact X.bn _ List.mem_cons_self
theorem Cm.emit {E : Value → Shared → Prop} {v : Value} {d : PyData} {Q : Value → Shared → Prop} (X : Cm C n sc A env T B low D W F s σ ys) (r : R C.H F v d) (hl : ys.length ≤ 1048576)
    (h : ∀ s', Rel B F s F s' → (∀ a, a ≠ D → ∀ o, s.heap.get? a = some o → s'.heap.get? a = some o) → Cm C n sc A env T B low D W F s' σ (ys ++ [d]) → Q .none s') : wpAny (model C.prog C.w) A (call (.builtin "list.append") [.ref D, v]) Q E s := by
  obtain ⟨vs, m, hD, rl⟩ := X.acc
  refine wpAny_list_append_plain ⟨m, hD⟩ (fun h' hp hs => ?_) (by rw [rl_arr rl]; exact Nat.le_trans hl (by rw [sizeLine_eq]; omega))
  have v1 : Adv [D] F s F { s with heap := h' } := ⟨fun b o q e => (hs.2 b (by simpa using q)).trans e, Sub.refl F, fun _ _ e => .inl e, fun a o e => (hs.2 a (fun q => by subst q; rw [X.off _ List.mem_cons_self] at e; (first | exact ns e | exact nb e | obtain rfl := si e | cases e))).trans (X.ct.sat a o e), rfl, rfl, rfl⟩
  have Y := X.ct.adv X.thereD X.new0 (v1.wide fun a m => by simp only [List.mem_singleton] at m; subst m; exact List.mem_cons_self)
  refine h _ ⟨Sub.refl F, fun _ _ e => .inl e, ⟨rfl, rfl, rfl⟩⟩ (fun a hne o e => (hs.2 a hne).trans e) ⟨Y, ?_, fun a q => ?_, X.off, X.new0, X.nin, X.bn, X.may⟩
  · obtain ⟨k, hk⟩ := hp
    exact ⟨_, k, hk, by rw [Array.toList_push]; exact rl.append (.one r)⟩
  · obtain ⟨o, ho⟩ := X.there a q
    exact ⟨o, (hs.2 a (fun e => X.nin (e ▸ q))).trans ho⟩
theorem Cm.enter {W' : List Addr} (X : Cm C n sc A env T B low D W F s σ ys) (g : Grow F s F' s') (hW : ∀ a ∈ W', s.heap.get? a = none ∧ F' a = none) (th : ∀ a ∈ W', ∃ o, s'.heap.get? a = some o) :
    Cm C n sc A env T (bs W s.heap B) (bs W s.heap low) D W' F' s' σ ys := by
  have Y := X.ct.asideNew g (W := W') fun a m => (hW a m).1
  have hD : ∃ o, s.heap.get? D = some o := X.thereD D List.mem_cons_self
  have dW' : D ∉ W' := fun m => by obtain ⟨o, ho⟩ := hD; rw [(hW D m).1] at ho; (first | exact ns ho | exact nb ho | obtain rfl := si ho | cases ho)
  have dis : ∀ a ∈ W, a ∉ W' := fun a m q => by obtain ⟨o, ho⟩ := X.there a m; rw [(hW a q).1] at ho; (first | exact ns ho | exact nb ho | obtain rfl := si ho | cases ho)
  have e : ∀ {q : Fz}, bs (D :: W') s'.heap (bs W s.heap q) = bs W' s'.heap (bs (D :: W) s.heap q) := fun {q} => by
    funext a
    by_cases m' : a ∈ W'
    · rw [bs_in (List.mem_cons_of_mem _ m'), bs_in m']
    · rw [bs_out m']
      by_cases ed : a = D
      · subst ed; rw [bs_in List.mem_cons_self, bs_in List.mem_cons_self]; exact kept_eq hD fun o e => g.keep _ o e
      · rw [bs_out (by simp [ed, m'])]
        by_cases m : a ∈ W
        · rw [bs_in m, bs_in (List.mem_cons_of_mem _ m)]
        · rw [bs_out m, bs_out (by simp [ed, m])]
  refine ⟨by rw [e, e]; exact Y, ?_, th, ?_, ?_, dW', ?_, ?_⟩
  · obtain ⟨vs, k, h, r⟩ := X.acc; exact ⟨vs, k, g.keep _ _ h, r.mono g.sub⟩
  · intro a m
    rcases List.mem_cons.mp m with rfl | m
    · exact off_fresh g.fresh (X.off _ List.mem_cons_self) hD
    · exact (hW a m).2
  · intro a m
    rcases List.mem_cons.mp m with rfl | m
    · exact X.new0 _ List.mem_cons_self
    · cases q : C.h₀.get? a with
      | none => rfl
      | some o => have := X.ct.keep0 a o q; rw [(hW a m).1] at this; cases this
  · intro a m
    have out : a ∉ W := by
      rcases List.mem_cons.mp m with rfl | m
      · exact X.nin
      · exact fun q => dis a q m
    rw [bs_out out, bs_out out]
    rcases List.mem_cons.mp m with rfl | m
    · exact X.bn _ List.mem_cons_self
    · have := X.ct.low_none (hW a m).1
      exact ⟨(bs_none X.thereD this.1).2, (bs_none X.thereD this.2.1).2⟩
  · intro x hx
    obtain ⟨h1, h2⟩ := X.may x hx
    refine ⟨h1, h2.imp id fun ⟨k, h3⟩ => ⟨k, fun c hc => ?_⟩⟩
    obtain ⟨c', v, e1, e2, e3, e4⟩ := X.ct.fs.cell x k
    rw [hc] at e1; (first | exact ns e1 | exact nb e1 | obtain rfl := si e1 | cases e1)
    rw [bs_out fun m => (bs_none X.thereD e4).1 (List.mem_cons_of_mem _ m)]
    exact h3 c hc
theorem Cm.leave {W' : List Addr} {σ' : St} {ys' : List PyData} (X : Cm C n sc A env T B low D W F s σ ys) (Y : Cm C n sc A env T (bs W s.heap B) (bs W s.heap low) D W' F' s' σ' ys') (hs : ∀ a ∈ W, F' a = none) : Cm C n sc A env T B low D W F' s' σ' ys' := by
  have dis : ∀ a ∈ W, a ∉ W' := fun a m q => by
    obtain ⟨o, ho⟩ := X.there a m
    have := (Y.bn a (List.mem_cons_of_mem _ q)).1
    rw [bs_in m, ho] at this; cases this
  have kp : ∀ a ∈ W, ∀ o, s.heap.get? a = some o → s'.heap.get? a = some o := fun a m o e => Y.keepB a o (by rw [bs_in m]; exact e)
  have sub : ∀ {q : Fz}, (∀ a ∈ W', bs W s.heap q a = none) → ∀ b o, bs (D :: W) s'.heap q b = some o → bs (D :: W') s'.heap (bs W s.heap q) b = some o := fun {q} hn b o e => by
    by_cases ed : b = D
    · subst ed; rw [bs_in List.mem_cons_self] at e ⊢; exact e
    · by_cases m : b ∈ W
      · rw [bs_in (List.mem_cons_of_mem _ m)] at e
        rw [bs_out (by simp [ed, dis b m]), bs_in m]
        rw [← kept_eq (X.there b m) (kp b m)]; exact e
      · rw [bs_out (by simp [ed, m])] at e
        have nm : b ∉ W' := fun q' => by have := hn b q'; rw [bs_out m, e] at this; cases this
        rw [bs_out (by simp [ed, nm]), bs_out m]; exact e
  refine ⟨Y.ct.lower2 (sub fun a m => (Y.bn a (List.mem_cons_of_mem _ m)).1) (sub fun a m => (Y.bn a (List.mem_cons_of_mem _ m)).2) (fun b o e => ?_), Y.acc, fun a m => ?_, fun a m => ?_, X.new0, X.nin, X.bn, X.may⟩
  · have nm : b ∉ D :: W := fun m => by rw [X.new0 b m] at e; (first | exact ns e | exact nb e | obtain rfl := si e | cases e)
    rw [bs_out nm]
    exact X.k0B b o e
  · obtain ⟨o, ho⟩ := X.there a m; exact ⟨o, kp a m o ho⟩
  · rcases List.mem_cons.mp m with rfl | m
    · exact Y.off _ List.mem_cons_self
    · exact hs a m
end Ev
set_option maxRecDepth 10000
namespace Ev
open PySem PySem.W PySem.Spec PySem.Calls PyProof.Rows PySem.SeqAt
variable {C : Cx} {n : Nat} {sc : Scope} {A : Around} {env : Env} {base : Fz} {low : Fz} {F F' : Fz} {s s' : Shared} {σ : St} {T : List Str} {B : Fz} {D : Addr} {W : List Addr} {ys : List PyData}
/-! tests -/
inductive SndIfs (C : Cx) (n : Nat) (sc : Scope) : List Expr → List (St → Option Bool) → Prop
  | nil : SndIfs C n sc [] []
  | cons {e es f fs} : SndT C n sc e f → SndIfs C n sc es fs → SndIfs C n sc (e :: es) (f :: fs)
noncomputable def tsC : List (St → Option Bool) → St → Option Bool
  | [], _ => some true
  | f :: fs, σ => match f σ with
    | some true => tsC fs σ
    | r => r
theorem tests_false {env : Env} {Q : Bool → Shared → Prop} {M : Model} {E : Value → Shared → Prop} (h : Q false s) : ∀ ifs : List Expr,
    wpAny M A (forIn ifs false fun c r => if r = true then do let ok ← PySem.isTrue c env (eval c env); pure (ForInStep.yield ok) else pure (ForInStep.yield r)) Q E s
  | [] => wpAny_pure h
  | _ :: r => by rw [List.forIn_cons, if_neg (by decide)]; exact wpAny_bind (wpAny_pure (tests_false h r))
theorem tests_wp : ∀ {ifs ts}, SndIfs C n sc ifs ts → ∀ {A env base low F s σ b}, Ct C n sc A env base low F s σ → tsC ts σ = some b →
    Wp C A (forIn ifs true fun c r => if r = true then do let ok ← PySem.isTrue c env (eval c env); pure (ForInStep.yield ok) else pure (ForInStep.yield r)) (PostT F s b) s := by
  intro ifs ts hts
  induction hts with
  | nil =>
    intro A env base low F s σ b X h
    (first | exact ns h | exact nb h | obtain rfl := si h | cases h); exact wpAny_pure ⟨rfl, F, .refl X.sat⟩
  | cons h1 h2 ih =>
    intro A env base low F s σ b X h
    simp only [tsC] at h
    rw [List.forIn_cons, if_pos rfl]
    split at h
    · rename_i e
      refine wpAny_bind (wpAny_bind (wp_mono (h1 X e) fun ok s1 ⟨e1, F1, g1⟩ => ?_))
      subst e1
      exact wpAny_pure (wp_mono (ih (X.grow g1) h) fun ok s2 ⟨e2, F2, g2⟩ => ⟨e2, F2, g1.trans g2⟩)
    · rename_i r hr
      cases hb : b with
      | true => subst hb; exact absurd h hr
      | false =>
        subst hb
        refine wpAny_bind (wpAny_bind (wp_mono (h1 X h) fun ok s1 ⟨e1, F1, g1⟩ => ?_))
        subst e1
        exact wpAny_pure (tests_false ⟨rfl, F1, g1⟩ _)
/-! the loops -/
noncomputable abbrev Em := St → Option (List PyData)
noncomputable def PostM (C : Cx) (n : Nat) (sc : Scope) (A : Around) (env : Env) (T : List Str) (B low : Fz) (D : Addr) (W : List Addr) (F : Fz) (s : Shared) (σ : St) (ys : List PyData) (s' : Shared) : Prop := ∃ F', Rel B F s F' s' ∧ Cm C n sc A env T B low D W F' s' σ ys
noncomputable def In (C : Cx) (n : Nat) (sc : Scope) (T : List Str) (elt : Expr) (gens : List Comprehension) (scope : Scope) (pos : Pos) (depth : Nat) (f : Em) : Prop :=
  ∀ {A env B low D W F s σ ys out} {K : Shared → Prop}, Cm C n sc A env T B low D W F s σ ys → f σ = some out → ys.length + out.length ≤ 1048576 →
    (∀ s', PostM C n sc A env T B low D W F s σ (ys ++ out) s' → (∀ a ∈ W, ∀ o, s.heap.get? a = some o → s'.heap.get? a = some o) → K s') → InW (model C.prog C.w) A (fun _ _ => False) elt gens scope pos depth (.ref D) env K s
noncomputable def Lp (C : Cx) (n : Nat) (sc : Scope) (T : List Str) (elt : Expr) (gens : List Comprehension) (scope : Scope) (pos : Pos) (depth : Nat) (tg : Expr) (f : List PyData → Em) : Prop :=
  ∀ {A env B low D W F s σ ys I Dz St xs F0 out}, Cm C n sc A env T B low D W F s σ ys → Itr C A F0 tg Dz W I xs St → St 0 s.heap → Sub F0 F → (∀ a o, Dz a = some o → F a = some o) → f xs σ = some out → ys.length + out.length ≤ 1048576 →
    codeAny (model C.prog C.w) A (.compLoop (.ListComp elt gens scope pos) depth (.ref I) (.ref D) env) (fun r s' => r = .ok .next ∧ PostM C n sc A env T B low D [] F s σ (ys ++ out) s') s
noncomputable def eltC (f : St → Option PyData) : Em := fun σ => match f σ with
  | some d => some [d]
  | none => none
theorem In.elt {elt : Expr} {gens : List Comprehension} {scope : Scope} {pos : Pos} {depth : Nat} {f : St → Option PyData} (hn : gens[depth + 1]? = none) (he : Snd C n sc elt f) : In C n sc T elt gens scope pos depth (eltC f) := fun {A env B low D W F s σ ys out K} X h hl hK => by
  unfold eltC at h
  cases e : f σ with
  | none => rw [e] at h; (first | exact ns h | exact nb h | obtain rfl := si h | cases h)
  | some d =>
    rw [e] at h
    (first | exact ns h | exact nb h | obtain rfl := si h | cases h)
    unfold InW
    rw [hn]
    dsimp only
    refine wp_mono (he X.ct e) fun v s1 ⟨F1, g1, r1⟩ => ?_
    refine (X.grow g1).emit r1 (by simp only [List.length_singleton] at hl; omega) fun s2 r2 kp Y => hK s2 ⟨F1, Rel.trans ?_ r2, Y⟩ fun a m o e => kp a (fun q => X.nin (q ▸ m)) o (g1.keep a o e)
    exact ⟨g1.sub, (fun a o q => (g1.fresh a o q).imp id fun q' => by
      cases q2 : B a with
      | none => rfl
      | some o' => rw [X.keepB a o' q2] at q'; cases q'), ⟨g1.gens, g1.drawn, g1.os⟩⟩
theorem Cm.relGrow (X : Cm C n sc A env T B low D W F s σ ys) (g : Grow F s F' s') : Rel B F s F' s' := ⟨g.sub, (fun a o q => (g.fresh a o q).imp id fun q' => by
  cases q2 : B a with
  | none => rfl
  | some o' => rw [X.keepB a o' q2] at q'; cases q'), ⟨g.gens, g.drawn, g.os⟩⟩
noncomputable def genC (src : St → Option (List PyData)) (f : List PyData → Em) : Em := fun σ => match src σ with
  | some xs => f xs σ
  | none => none
theorem In.gen {elt : Expr} {gens : List Comprehension} {scope : Scope} {pos : Pos} {depth : Nat} {tg iter : Expr} {ifs : List Expr} {src : St → Option (List PyData)} {f : List PyData → Em} (hn : gens[depth + 1]? = some ⟨tg, iter, ifs, 0⟩)
    (hs : SndI C n sc true tg iter src) (hl : Lp C n sc T elt gens scope pos (depth + 1) tg f) (hfs : ∀ env x, foldedSetIterable iter env x = pure x := by intro _ _; rfl) : In C n sc T elt gens scope pos depth (genC src f) := fun {A env B low D W F s σ ys out K} X h hlen hK => by
  unfold genC at h
  cases e : src σ with
  | none => rw [e] at h; (first | exact ns h | exact nb h | obtain rfl := si h | cases h)
  | some xs =>
    rw [e] at h
    dsimp only at h
    unfold InW
    rw [hn]
    refine ⟨rfl, ?_⟩
    refine wp_mono (hs X.ct e) fun x s1 h1 => ⟨hfs env x, ?_⟩
    refine wpAny_mono h1 (fun it s2 p => ?_) fun _ _ e => e
    obtain ⟨F2, W2, I, Dz, St, rfl, g2, itr, st0, sd0, hW, hD⟩ := p
    have X2 := X.enter g2 hW (itr.there st0)
    have off2 : ∀ a ∈ W, F2 a = none := fun a m => off_fresh g2.fresh (X.off a (List.mem_cons_of_mem _ m)) (X.there a m)
    have fin : ∀ {F4 : Fz} {s3 s4 : Shared}, Rel (bs W s.heap B) F2 s3 F4 s4 → ∀ a ∈ W, F4 a = none := fun {F4 s3 s4} r a m => by
      cases q : F4 a with
      | none => rfl
      | some o =>
        rcases r.2.1 a o q with e1 | e1
        · rw [off2 a m] at e1; (first | exact ns e1 | exact nb e1 | obtain rfl := si e1 | cases e1)
        · obtain ⟨o', ho'⟩ := X.there a m; rw [bs_in m, ho'] at e1; (first | exact ns e1 | exact nb e1 | obtain rfl := si e1 | cases e1)
    have rlow : ∀ {F4 : Fz} {s3 s4 : Shared}, Rel (bs W s.heap B) F2 s3 F4 s4 → Rel B F2 s3 F4 s4 := fun {F4 s3 s4} r => ⟨r.1, fun a o q => (r.2.1 a o q).imp id fun e => (bs_none X.there e).2, r.2.2⟩
    refine wpAny_runOwn (h := none) ?_
    refine codeAny_mono (R := fun r s' => r = .ok .next ∧ PostM C n sc A env T (bs W s.heap B) (bs W s.heap low) D [] F2 s2 σ (ys ++ out) s') ?_ fun r s3 ⟨e3, F3, r3, X3⟩ => by
      subst e3
      show K s3
      exact hK s3 ⟨F3, (X.relGrow g2).trans (rlow r3), X.leave X3 (fin r3)⟩ fun a m o e => X3.keepB a o (by rw [bs_in m]; exact e)
    have lp := hl X2 itr st0 (Sub.refl F2) (hD rfl) h hlen
    exact start_wp hn lp (wpAny_mono (itr.self st0 (Q := fun it' s' => codeAny (model C.prog C.w) A (.compLoop (.ListComp elt gens scope pos) (depth + 1) it' (.ref D) env) (fun r s' => r = .ok .next ∧ PostM C n sc A env T (bs W s.heap B) (bs W s.heap low) D [] F2 s2 σ (ys ++ out) s') s') lp) (fun _ _ q => q) fun _ _ e => e.elim)
noncomputable def turnsC (g : PyData → St → Option St) (ts : List (St → Option Bool)) (k : Em) : List PyData → Em
  | [], _ => some []
  | d :: ds, σ => match g d σ with
    | some σ' => match tsC ts σ' with
      | some true => match k σ' with
        | some o1 => match turnsC g ts k ds σ with
          | some o2 => some (o1 ++ o2)
          | none => none
        | none => none
      | some false => turnsC g ts k ds σ
      | none => none
    | none => none
noncomputable def lpC (is : List Nat) (g : PyData → St → Option St) (ts : List (St → Option Bool)) (k : Em) : List PyData → Em := fun xs σ => if is.all (fun i => (sget σ i).isNone) then turnsC g ts k xs σ else none
theorem Lp.mk {elt : Expr} {gens : List Comprehension} {scope : Scope} {pos : Pos} {depth : Nat} {tg iter : Expr} {ifs : List Expr} {g : PyData → St → Option St} {ts : List (St → Option Bool)} {k : Em} {is : List Nat} {xs : List Str} (hn : gens[depth]? = some ⟨tg, iter, ifs, 0⟩)
    (Tg : SndTg C tg g xs) (hx : (is.map fun i => C.names[i]?) = xs.map some) (hT : ∀ x ∈ xs, x ∈ T) (hts : SndIfs C n sc ifs ts) (hk : In C n sc T elt gens scope pos depth k) :
    Lp C n sc T elt gens scope pos depth tg (lpC is g ts k) := fun {A env B low D W F s σ ys I Dz St ds F0 out} X itr st0 sub0 hDz h hlen => by
  unfold lpC at h
  split at h
  case isFalse => (first | exact ns h | exact nb h | obtain rfl := si h | cases h)
  rename_i hall
  have hnone : ∀ i ∈ is, sget σ i = none := fun i m => by simpa using List.all_eq_true.mp hall i m
  refine (fun I (hI : ∀ m s', (∃ i F' o1 o2, m = ds.length - i ∧ i ≤ ds.length ∧ Rel B F s F' s' ∧ Cm C n sc A env T B low D W F' s' σ (ys ++ o1) ∧ St i s'.heap ∧ turnsC g ts k (ds.drop i) σ = some o2 ∧ out = o1 ++ o2) → I m s')
    (hE : ∀ m s', I m s' → ∃ i F' o1 o2, m = ds.length - i ∧ i ≤ ds.length ∧ Rel B F s F' s' ∧ Cm C n sc A env T B low D W F' s' σ (ys ++ o1) ∧ St i s'.heap ∧ turnsC g ts k (ds.drop i) σ = some o2 ∧ out = o1 ++ o2) =>
    loop_wp rfl hn I ?_ ds.length (hI _ _ ⟨0, F, [], out, rfl, Nat.zero_le _, .refl F s, by rw [List.append_nil]; exact X, st0, h, rfl⟩)) _ (fun _ _ x => x) (fun _ _ x => x)
  intro m s' hm
  obtain ⟨i, F2, o1, o2, rfl, hle, r2, X2, st2, h2, eo⟩ := hE m s' hm
  have sub2 : Sub F F2 := r2.1
  have sd2 : Sat Dz s'.heap := fun a o e => X2.ct.sat a o (sub2 a o (hDz a o e))
  have offW : ∀ a ∈ W, F2 a = none := fun a m => X2.off a (List.mem_cons_of_mem _ m)
  by_cases hlt : i < ds.length
  · have hi : ds[i]? = some ds[i] := List.getElem?_eq_getElem hlt
    rw [List.drop_eq_getElem_cons hlt] at h2
    have h2 : (match g ds[i] σ with | some σ' => (match tsC ts σ' with | some true => (match k σ' with | some o1 => (match turnsC g ts k (ds.drop (i + 1)) σ with | some o2 => some (o1 ++ o2) | none => none) | none => none) | some false => turnsC g ts k (ds.drop (i + 1)) σ | none => none) | none => none) = some o2 := h2
    refine wpAny_mono (itr.item hi st2 sd2 X2.ct.sat (sub0.trans sub2) offW) (fun ov s3 p3 => ?_) fun _ _ e => e
    obtain ⟨v, rfl, p3⟩ := p3
    refine wpAny_mono p3 (fun _ s4 p4 => ?_) fun _ _ e => e
    obtain ⟨F4, a4, r4, st4⟩ := p4
    have X4 := X2.adv a4 (itr.there st4)
    have rl4 : Rel B F s F4 s4 := r2.trans (.adv X2.keepB a4)
    cases hg : g ds[i] σ with
    | none => rw [hg] at h2; (first | exact ns h2 | exact nb h2 | obtain rfl := si h2 | cases h2)
    | some σ4 =>
      rw [hg] at h2
      dsimp only at h2
      have may4 : ∀ x ∈ xs, MaySt C env (bs (D :: W) s4.heap B) x := fun x hx' => by
        obtain ⟨q1, q2⟩ := X4.may x (hT x hx')
        refine ⟨q1, q2.imp id fun ⟨kc, q3⟩ => ⟨kc, fun c hc => ?_⟩⟩
        obtain ⟨c', u, e1, e2, e3, e4⟩ := X4.ct.fs.cell x kc
        rw [hc] at e1; (first | exact ns e1 | exact nb e1 | obtain rfl := si e1 | cases e1)
        rw [bs_out (bs_none X4.thereD e4).1]
        exact q3 c hc
      refine target_wp Tg X4.ct may4 r4 hg fun s5 hs5 Y5 => ?_
      have X5 := X4.same Y5
      have le5 := Tg.le X.ct.fs.nodup hx hg hnone
      have frm : ∀ {h' : Heap}, (∀ a ∈ W, ∀ o, s4.heap.get? a = some o → h'.get? a = some o) → (∀ a o, F4 a = some o → h'.get? a = some o) → St (i + 1) h' := fun {h'} hw hs => itr.frame st4 hw fun a o e => hs a o (a4.sub a o (sub2 a o (hDz a o e)))
      have kp5 : ∀ a ∈ W, ∀ o, s4.heap.get? a = some o → s5.heap.get? a = some o := fun a m o e => Y5.fs.keep a o (by rw [bs_in (List.mem_cons_of_mem _ m)]; exact e)
      have rl5 : Rel B F s F4 s5 := rl4.trans (.same hs5)
      cases ht : tsC ts σ4 with
      | none => rw [ht] at h2; (first | exact ns h2 | exact nb h2 | obtain rfl := si h2 | cases h2)
      | some b =>
        rw [ht] at h2
        refine wpAny_mono (tests_wp hts X5.ct ht) (fun ok s6 p6 => ?_) fun _ _ e => e
        obtain ⟨rfl, F6, g6⟩ := p6
        have X6 := X5.grow g6
        have rl6 : Rel B F s F6 s6 := rl5.trans (X5.relGrow g6)
        have kp6 : ∀ a ∈ W, ∀ o, s4.heap.get? a = some o → s6.heap.get? a = some o := fun a m o e => g6.keep a o (kp5 a m o e)
        cases ok with
        | false =>
          exact ⟨ds.length - (i + 1), by omega, hI _ _ ⟨i + 1, F6, o1, o2, rfl, hlt, rl6, X6.weak le5, frm kp6 (fun a o e => g6.sat a o (g6.sub a o e)), h2, eo⟩⟩
        | true =>
          first | with_reducible refine w_pos rfl ?_ | with_reducible refine wb_pos rfl ?_ | rw [if_pos rfl]
          cases hkk : k σ4 with
          | none => rw [hkk] at h2; (first | exact ns h2 | exact nb h2 | obtain rfl := si h2 | cases h2)
          | some q1 =>
            rw [hkk] at h2
            dsimp only at h2
            cases hrest : turnsC g ts k (List.drop (i + 1) ds) σ with
            | none => rw [hrest] at h2; (first | exact ns h2 | exact nb h2 | obtain rfl := si h2 | cases h2)
            | some q2 =>
              rw [hrest] at h2
              (first | exact ns h2 | exact nb h2 | obtain rfl := si h2 | cases h2)
              subst eo
              refine hk X6 hkk (by simp only [List.length_append] at hlen ⊢; omega) fun s7 p7 kp7 => ?_
              obtain ⟨F7, r7, X7⟩ := p7
              refine ⟨ds.length - (i + 1), by omega, hI _ _ ⟨i + 1, F7, o1 ++ q1, q2, rfl, hlt, rl6.trans r7, by rw [← List.append_assoc]; exact X7.weak le5, ?_, hrest, (List.append_assoc ..).symm⟩⟩
              exact frm (fun a m o e => kp7 a m o (kp6 a m o e)) (fun a o e => X7.ct.sat a o (r7.1 a o (g6.sub a o e)))
  · have hi' : i = ds.length := by omega
    subst hi'
    rw [List.drop_length] at h2
    (first | exact ns h2 | exact nb h2 | obtain rfl := si h2 | cases h2)
    refine wpAny_mono (itr.done st2 sd2 X2.ct.sat offW) (fun ov s3 p3 => ?_) fun _ _ e => e
    obtain ⟨rfl, a3⟩ := p3
    refine ⟨rfl, F2, r2.trans (.adv X2.keepB a3), ?_⟩
    rw [eo, List.append_nil]
    exact X2.adv0 a3
end Ev
set_option maxRecDepth 10000
namespace Ev
open PySem PySem.W PySem.Spec PySem.Calls PyProof.Rows PySem.SeqAt
variable {C : Cx} {n : Nat} {sc : Scope} {A : Around} {env : Env} {base : Fz} {low : Fz} {F F' : Fz} {s s' : Shared} {σ : St} {T : List Str} {B : Fz} {D : Addr} {W : List Addr} {ys : List PyData}
noncomputable def compC (nt : Nat) (caps : List Nat) (src : St → Option (List PyData)) (f : List PyData → Em) : St → Option PyData := fun σ => match src σ with
  | some xs => match f xs (capC nt caps σ) with
    | some out => if okLen out then some (.list out) else none
    | none => none
  | none => none
noncomputable def PostC (C : Cx) (F : Fz) (s : Shared) (out : List PyData) (acc : Value) (L : Addr) (r : Result) (s' : Shared) : Prop :=
  r = .ok .next ∧ ∃ D F' m, acc = .ref D ∧ s'.heap.Ns L m ∧ Sub F F' ∧ (∀ a o, F' a = some o → F a = some o ∨ s.heap.get? a = none) ∧ Same s s' ∧ (∀ b o, s.heap.get? b = some o → s'.heap.get? b = some o) ∧ Sat F' s'.heap ∧
    F' L = none ∧ F' D = none ∧ s.heap.get? L = none ∧ s.heap.get? D = none ∧ D ≠ L ∧ ∃ vs k, s'.heap.get? D = some (seqObj "list" vs k) ∧ RL C.H F' vs.toList out
theorem comp_wp {elt : Expr} {gens rest : List Comprehension} {scope : Scope} {pos : Pos} {tg iter : Expr} {ifs : List Expr} {names : List Str} {nt : Nat} {caps : List Nat} {f : List PyData → Em} {s2 : Shared} {F0 : Fz} {xs out : List PyData} {it : Value}
    (K : CompOk C sc scope names nt caps) (hg : gens = ⟨tg, iter, ifs, 0⟩ :: rest) (hl : Lp (C.comp names) n (relS scope) T elt gens scope pos 0 tg f) (hT : ∀ x ∈ T, scope.names.lookup x = some .local ∨ scope.names.lookup x = some .cell)
    (X0 : Ct C n sc A env base low F0 s σ) (p : PostI C A true tg F0 s xs it s2) (h : f xs (capC nt caps σ) = some out) (hlen : okLen out = true) {Q : Value → Addr → Result → Shared → Prop} (hQ : ∀ acc L r s', PostC C F0 s out acc L r s' → Q acc L r s') :
    Wp C A (newList []) (fun acc s₃ => Wp C A (newFunctionEnv scope env.globals (clF env.cells scope.names []) [] env.qual none .none (some env)) (fun cenv s₄ =>
        codeAny (model C.prog C.w) A (.compStart (.ListComp elt gens scope pos) 0 it acc { cenv with scope := relS scope }) (Q acc cenv.locals) s₄) s₃) s2 := by
  subst hg
  obtain ⟨F1, W, I, Dz, St, rfl, g1, itr, st0, sd0, hW, hD⟩ := p
  have k3 : ∀ b o, s2.heap.get? b = some o → (s2.heap.push { cls := .type "list", dict := none, data := .seq ([] : List Value).toArray }).get? b = some o := fun b o e => Heap.get?_push_of_some _ e
  refine wpAny_newObj_type ?_
  have g3 : Grow F1 s2 F1 { s2 with heap := s2.heap.push { cls := .type "list", dict := none, data := .seq ([] : List Value).toArray } } := .ofKeep g1.sat k3 rfl rfl rfl
  have gD := get_size s2.heap
  have gD3 : (s2.heap.push { cls := .type "list", dict := none, data := .seq ([] : List Value).toArray }).get? s2.heap.objs.size = some (seqObj "list" #[] 0) := Heap.get?_push_size _ rfl
  revert gD gD3 g3 k3
  generalize s2.heap.objs.size = D
  generalize hH3 : s2.heap.push { cls := .type "list", dict := none, data := .seq ([] : List Value).toArray } = H3
  intro k3 g3 gD gD3
  refine newEnv_around (cl := clF env.cells scope.names []) (cl' := cellsFrom (H3.objs.size + 1) scope.names (clF env.cells scope.names [])) ?_ rfl
  obtain ⟨X4, c1, c2, c3⟩ := comp_ct X0 (g1.trans g3) K
  dsimp only at X4 c1 c2 c3
  have hs0 : ∀ a ∈ D :: W, s.heap.get? a = none := fun a m => by
    rcases List.mem_cons.mp m with rfl | m
    · exact g1.fresh_back gD
    · exact (hW a m).1
  have th3 : ∀ a ∈ D :: W, ∃ o, H3.get? a = some o := fun a m => by
    rcases List.mem_cons.mp m with rfl | m
    · exact ⟨_, gD3⟩
    · obtain ⟨o, ho⟩ := itr.there st0 a m; exact ⟨o, k3 a o ho⟩
  have keep4 : ∀ b o, H3.get? b = some o → (pushCells (H3.push { cls := .type "dict", data := .dict #[] }) scope.names).get? b = some o := fun b o e => pushCells_keeps _ _ b o (Heap.get?_push_of_some _ e)
  have F1D : F1 D = none := sat_fresh g1.sat gD
  have X5 := X4.aside (W := D :: W) fun a m => by
    have h0 := hs0 a m
    obtain ⟨o, ho⟩ := th3 a m
    refine ⟨h0, (X0.low_none h0).2.1, ?_, fun x c hx hc e => ?_, fun i x d hi hd l => c3 i x d a hi hd l h0⟩
    · intro (e : a = H3.objs.size)
      rw [e, get_size] at ho; (first | exact ns ho | exact nb ho | obtain rfl := si ho | cases ho)
    · subst e
      rcases c1 x c hx hc with q | q
      · rw [ho] at q; (first | exact ns q | exact nb q | obtain rfl := si q | cases q)
      · exact q h0
  have M : Cm (C.comp names) n (relS scope) A (compEnvX scope H3.objs.size env) T (fun a => s.heap.get? a) low D W F1 { s2 with heap := pushCells (H3.push { cls := .type "dict", data := .dict #[] }) scope.names } (capC nt caps σ) [] := by
    refine ⟨X5, ⟨#[], 0, keep4 _ _ gD3, .nil⟩, fun a m => ?_, fun a m => ?_, fun a m => ?_, fun m => ?_, fun a m => ⟨hs0 a m, (X0.low_none (hs0 a m)).2.1⟩, fun x hx => ⟨fun a e => (nomatch e), ?_⟩⟩
    · obtain ⟨o, ho⟩ := th3 a (List.mem_cons_of_mem _ m); exact ⟨o, keep4 a o ho⟩
    · rcases List.mem_cons.mp m with rfl | m
      · exact F1D
      · exact (hW a m).2
    · cases q : C.h₀.get? a with
      | none => exact q
      | some o => have := X0.keep0 a o q; rw [hs0 a m] at this; cases this
    · obtain ⟨o, ho⟩ := itr.there st0 D m; rw [gD] at ho; (first | exact ns ho | exact nb ho | obtain rfl := si ho | cases ho)
    · rcases hT x hx with q | q
      · refine .inl ?_
        show (relS scope).names.lookup x = _
        rw [relS_lookup, q]; rfl
      · refine .inr ⟨?_, fun c hc => g1.fresh_back (g3.fresh_back (c2 x c q hc))⟩
        show (relS scope).names.lookup x = _
        rw [relS_lookup, q]; rfl
  have itr' : Itr (C.comp names) A F1 tg Dz W I xs St := ⟨itr.frame, itr.there, itr.off, itr.item, itr.done, itr.self⟩
  have st4 : St 0 (pushCells (H3.push { cls := .type "dict", data := .dict #[] }) scope.names) := itr.frame st0 (fun a m o e => keep4 a o (k3 a o e)) fun a o e => keep4 a o (k3 a o (sd0 a o e))
  have lp := hl M itr' st4 (Sub.refl F1) (hD rfl) h (by simpa using of_decide_eq_true hlen)
  have lp2 : codeAny (model C.prog C.w) A (.compLoop (.ListComp elt (⟨tg, iter, ifs, 0⟩ :: rest) scope pos) 0 (.ref I) (.ref D) (compEnvX scope H3.objs.size env)) (Q (.ref D) H3.objs.size) { s2 with heap := pushCells (H3.push { cls := .type "dict", data := .dict #[] }) scope.names } := by
    refine codeAny_mono lp fun r s6 ⟨e6, F6, r6, M6⟩ => hQ _ _ _ _ ?_
    obtain ⟨vs, k, a1, a2⟩ := M6.acc
    obtain ⟨m, hm⟩ := M6.ct.fs.ns
    refine ⟨e6, D, F6, m, rfl, hm, g1.sub.trans r6.1, fun a o q => ?_, ⟨r6.2.2.gens.trans g1.gens, r6.2.2.drawn.trans g1.drawn, r6.2.2.os.trans g1.os⟩, fun b o q => M6.keepB b o q, M6.ct.sat, M6.ct.fs.LF, M6.off _ List.mem_cons_self, ?_, hs0 D List.mem_cons_self, ?_, vs, k, a1, a2⟩
    · rcases r6.2.1 a o q with q | q
      · exact g1.fresh a o q
      · exact .inr q
    · exact g1.fresh_back (g3.fresh_back (get_size _))
    · intro (e : D = H3.objs.size)
      rw [e, get_size] at gD3; cases gD3
  exact start_wp rfl lp2 (wpAny_mono (itr'.self st4 (Q := fun it' s' => codeAny (model C.prog C.w) A (.compLoop (.ListComp elt (⟨tg, iter, ifs, 0⟩ :: rest) scope pos) 0 it' (.ref D) (compEnvX scope H3.objs.size env)) (Q (.ref D) H3.objs.size) s') lp2) (fun _ _ q => q) fun _ _ e => e.elim)
theorem CompOk.facts {scope : Scope} {names : List Str} {nt : Nat} {caps : List Nat} (K : CompOk C sc scope names nt caps) (X : Ct C n sc A env base low F s σ) :
    relabel scope env = relS scope ∧ closureFor scope env = pure (clF env.cells scope.names []) ∧ (∀ x ∈ scope.names, x.2 = .local → scope.names.lookup x.1 = some .local) := by
  have hf : ∀ x ∈ scope.names, x.2 = .free → env.kindOf x.1 = some .cell := fun x hx e => (X.kindOf x.1).trans (K.free x hx e).1
  refine ⟨relabel_eq X.fs.kind hf, closure_eq fun x hx e => ?_, fun x hx e => by rw [← e]; exact lookup_mem K.once hx⟩
  obtain ⟨c, v, h, _⟩ := X.fs.cell x.1 (hf x hx e)
  rw [h]; rfl
theorem SndO.comp {elt : Expr} {rest : List Comprehension} {scope : Scope} {pos : Pos} {tg iter : Expr} {ifs : List Expr} {names : List Str} {nt : Nat} {caps : List Nat} {f : List PyData → Em} {src : St → Option (List PyData)} (T : List Str)
    (K : CompOk C sc scope names nt caps) (hs : SndI C n sc true tg iter src) (hl : Lp (C.comp names) n (relS scope) T elt (⟨tg, iter, ifs, 0⟩ :: rest) scope pos 0 tg f) (hT : ∀ x ∈ T, scope.names.lookup x = some .local ∨ scope.names.lookup x = some .cell)
    (hfs : ∀ env x, foldedSetIterable iter env x = pure x := by intro _ _; rfl) : SndO C n sc (.ListComp elt (⟨tg, iter, ifs, 0⟩ :: rest) scope pos) (compC nt caps src f) := fun {A env base low F s σ d} X h => by
  unfold compC at h
  cases e1 : src σ with
  | none => rw [e1] at h; (first | exact ns h | exact nb h | obtain rfl := si h | cases h)
  | some xs =>
    rw [e1] at h
    dsimp only at h
    cases e2 : f xs (capC nt caps σ) with
    | none => rw [e2] at h; (first | exact ns h | exact nb h | obtain rfl := si h | cases h)
    | some out =>
      rw [e2] at h
      dsimp only at h
      split at h
      case isFalse => (first | exact ns h | exact nb h | obtain rfl := si h | cases h)
      rename_i hlen
      (first | exact ns h | exact nb h | obtain rfl := si h | cases h)
      obtain ⟨k1, k2, k3⟩ := K.facts X
      rw [eval_ListComp]
      refine wpAny_comprehension_free (use := none) rfl (hfs env) k2 K.kind k3 (wp_mono (hs X e1) fun x s1 h1 => wpAny_mono h1 (fun it s2 p => ?_) fun _ _ e => e)
      rw [k1]
      refine comp_wp K rfl hl hT X p e2 hlen (Q := fun acc L => compPost (model C.prog C.w) A (fun _ _ => False) none (PostO C F s (.list out)) acc L) fun acc L r s' hp => ?_
      obtain ⟨rfl, D, F', m, rfl, hm, sub, fr, sm, kp, st, fL, fD, gL, gD, ne, vs, k, hD, rl⟩ := hp
      refine ⟨m, hm, fun h' hs' => ⟨F', D, rfl, ⟨fun b o q => (hs'.2 b (fun e => by subst e; rw [gL] at q; (first | exact ns q | exact nb q | obtain rfl := si q | cases q))).trans (kp b o q), sub, fr, fun a o q => (hs'.2 a (fun e => by subst e; rw [fL] at q; (first | exact ns q | exact nb q | obtain rfl := si q | cases q))).trans (st a o q), sm.gens, sm.drawn, sm.os⟩, fD, gD, ?_⟩⟩
      exact .list ((hs'.2 D ne).trans hD) rl
theorem SndS.assignU {i : Nat} {y : Str} {py spos : Pos} {elt : Expr} {rest : List Comprehension} {scope : Scope} {pos : Pos} {tg iter : Expr} {ifs : List Expr} {names : List Str} {nt : Nat} {caps : List Nat} {f : List PyData → Em} {src : St → Option (List PyData)} (T : List Str)
    (hi : C.names[i]? = some y) (hk : sc.names.lookup y = some .local) (hp : NoPin C y) (hln : (py.line == pos.line) = true) (hnn : (scope.names.any fun (n, k) => n == y && (k == .local || k == .cell)) = false)
    (K : CompOk C sc scope names nt caps) (hs : SndI C n sc true tg iter src) (hl : Lp (C.comp names) n (relS scope) T elt (⟨tg, iter, ifs, 0⟩ :: rest) scope pos 0 tg f) (hT : ∀ x ∈ T, scope.names.lookup x = some .local ∨ scope.names.lookup x = some .cell)
    (hfs : ∀ env x, foldedSetIterable iter env x = pure x := by intro _ _; rfl) : SndS C n sc (.Assign [.Name y py] (.ListComp elt (⟨tg, iter, ifs, 0⟩ :: rest) scope pos) spos) (ownC i (compC nt caps src f)) := fun {A env base F s σ r} X h => by
  unfold ownC compC at h
  cases e1 : src σ with
  | none => rw [e1] at h; (first | exact ns h | exact nb h | obtain rfl := si h | cases h)
  | some xs =>
    rw [e1] at h
    dsimp only at h
    cases e2 : f xs (capC nt caps σ) with
    | none => rw [e2] at h; (first | exact ns h | exact nb h | obtain rfl := si h | cases h)
    | some out =>
      rw [e2] at h
      dsimp only at h
      split at h
      case h_2 => (first | exact ns h | exact nb h | obtain rfl := si h | cases h)
      rename_i d hd
      split at hd
      case isFalse => (first | exact ns hd | exact nb hd | obtain rfl := si hd | cases hd)
      rename_i hlen
      (first | exact ns hd | exact nb hd | obtain rfl := si hd | cases hd)
      (first | exact ns h | exact nb h | obtain rfl := si h | cases h)
      have hky : env.kindOf y = some .local := (X.kindOf y).trans hk
      have hsw : swapsWith (.ListComp elt (⟨tg, iter, ifs, 0⟩ :: rest) scope pos) (some (.Name y py)) spos.line env = pure true := by
        have hb : env.blockKind = .function := by unfold Env.blockKind; rw [X.fs.kind]; rfl
        unfold swapsWith
        have hv : (Expr.ListComp elt (⟨tg, iter, ifs, 0⟩ :: rest) scope pos).pos = pos := rfl
        simp only [hb, hky, hv, hln, hnn]; rfl
      obtain ⟨k1, k2, k3⟩ := K.facts X
      rw [exec_Assign_Name_used _ _ _ _ hsw]
      refine wpAny_bind (wpAny_standAt (wpAny_bind ?_))
      show wpAny _ A (do let _ ← comprehension (.ListComp elt (⟨tg, iter, ifs, 0⟩ :: rest) scope pos) scope env _ (newList []) false (eval iter env) (some (PySem.assign (.Name y py) env))) _ _ s
      refine wpAny_bind (wpAny_mono (wpAny_comprehension_free (use := some (PySem.assign (.Name y py) env)) (Q := fun _ s' => PostS C n sc A env base F s (.next, σ.set i (some (true, .list out))) .next s') rfl (hfs env) k2 K.kind k3
        (wp_mono (hs X e1) fun x s1 h1 => wpAny_mono h1 (fun it s2 p => ?_) fun _ _ e => e)) (fun _ s' hq => wpAny_pure (wpAny_pure hq)) fun _ _ e => e)
      rw [k1]
      refine comp_wp K rfl hl hT X p e2 hlen (Q := fun acc L => compPost (model C.prog C.w) A (fun _ _ => False) (some (PySem.assign (.Name y py) env)) (fun _ s' => PostS C n sc A env base F s (.next, σ.set i (some (true, .list out))) .next s') acc L) fun acc L r s' hp' => ?_
      obtain ⟨rfl, D, F', m, rfl, hm, sub, fr, sm, kp, st, fL, fD, gL, gD, ne, vs, k, hD, rl⟩ := hp'
      have G : Grow F s F' s' := ⟨kp, sub, fr, st, sm.gens, sm.drawn, sm.os⟩
      have hgL : ∀ a ∈ [L], s.heap.get? a = none := fun a m => by simp only [List.mem_singleton] at m; subst m; exact gL
      have Y := X.asideNew G hgL
      obtain ⟨q1, q2, q3⟩ := X.low_none gD
      have bD : bs [L] s'.heap base D = none := by rw [bs_out (by simp [ne])]; exact q1
      show wpAny _ A (PySem.assign (.Name y py) env (.ref D)) _ _ _
      refine wpAny_assign_Name (wp_store2 Y.fs hi (MaySt.def Y ⟨.inl hk, hp⟩).2 (.ow (.list hD rl) fD bD q3) (fun a' e _ j z e' _ hj hs' => by (first | exact ns e | exact nb e | obtain rfl := si e | cases e); exact X.not_held G gD hj hs') fun s3 hs3 S3 T3 => ?_)
      have Y3 := Y.step Y.k0 (fun e => T3.fwd (hp.ne e)) S3
      have thL : ∀ a ∈ [L], ∃ o, s'.heap.get? a = some o := fun a m' => by
        simp only [List.mem_singleton] at m'; subst m'
        obtain ⟨o, es, ep, ho, _⟩ := hm; exact ⟨o, ho⟩
      have kL : ∀ o, s'.heap.get? L = some o → s3.heap.get? L = some o := fun o e => Y3.fs.keep L o (by rw [bs_in List.mem_cons_self]; exact e)
      have e3 : ∀ {q : Fz}, bs [L] s3.heap q = bs [L] s'.heap q := bs_eq fun a m' => by
        have := thL a m'
        simp only [List.mem_singleton] at m'; subst m'
        exact kept_eq this kL
      refine ⟨m, ?_, fun h' hs' => ?_⟩
      · obtain ⟨o, es, ep, ho, r⟩ := hm; exact ⟨o, es, ep, kL _ ho, r⟩
      · have Y4 : Ct C n sc A env (bs [L] s3.heap base) (bs [L] s3.heap base) F' s3 (σ.set i (some (true, .list out))) := by rw [e3]; exact Y3
        have v4 : Adv [L] F' s3 F' { s3 with heap := h' } := ⟨fun b o q e => (hs'.2 b (by simpa using q)).trans e, Sub.refl F', fun _ _ e => .inl e, fun a o q => (hs'.2 a (fun e => by subst e; rw [fL] at q; (first | exact ns q | exact nb q | obtain rfl := si q | cases q))).trans (Y4.sat a o q), rfl, rfl, rfl⟩
        have Y5 := Y4.adv (fun a m' => by
          have := thL a m'
          simp only [List.mem_singleton] at m'; subst m'
          obtain ⟨o, ho⟩ := this; exact ⟨o, kL o ho⟩) (fun a m' => by
          cases q : C.h₀.get? a with
          | none => rfl
          | some o => have := X.keep0 a o q; rw [hgL a m'] at this; cases this) v4
        refine ⟨rfl, F', ((Rel.grow X G).trans (.same hs3)).trans ⟨Sub.refl F', fun _ _ e => .inl e, ⟨rfl, rfl, rfl⟩⟩, Y5.lower (fun b o e => ?_) X.k0⟩
        rw [bs_out fun m' => by have := hgL b m'; rw [X.fs.keep b o e] at this; cases this]; exact e
end Ev
set_option maxRecDepth 10000
namespace Ev
open PySem PySem.W PySem.Spec PySem.Calls PyProof.Rows PySem.SeqAt
variable {C : Cx} {n : Nat} {sc : Scope} {A : Around} {env : Env} {base : Fz} {low : Fz} {F F' : Fz} {s s' : Shared} {σ : St}
structure DefAt (C : Cx) (fa : Addr) (fd : FuncData) (body : List Stmt) : Prop where
  obj : ∃ o, C.h₀.get? fa = some o ∧ o.data = .func fd
  code : C.h₀.CodeRec fd.code fd.qualname
  body : fd.body = .stmts body
  clo : fd.closure = []
  glob : fd.globals = mainGlobals
  blt : fd.builtins = builtinsNs
  co : fd.scope.isCoroutine = false
  gen : fd.scope.isGenerator = false
  kind : fd.scope.kind = .function
  once : (fd.scope.names.map (·.1)).Nodup
  nofree : ∀ x ∈ fd.scope.names, x.2 ≠ .free
theorem DefAt.fn {fa : Addr} {fd : FuncData} {body : List Stmt} (D : DefAt C fa fd body) : FnAtX C fa := ⟨let ⟨o, h, e⟩ := D.obj; ⟨o, fd, h, e⟩⟩
theorem Room.deeper {A : Around} {env : Env} (r : Room (n + 1) A) : Room n (A.deeper env) := ⟨by have := r.dep; show A.depth + 1 + n < _; omega, by have := r.uni; show A.units + 3 + 3 * n + 400 < _; omega, r.hand⟩
theorem bindL_get {kindOf : Str → Option NameKind} : ∀ {binds : List (Str × Value)} {m : Str → Option Value} {x : Str} {v : Value}, (binds.map (·.1)).Nodup → kindOf x = some .local → ((x, v) ∈ binds ∨ (x ∉ binds.map (·.1) ∧ m x = some v)) → bindL kindOf binds m x = some v
  | [], m, x, v, _, _, h => by
    rcases h with h | h
    · (first | exact ns h | exact nb h | obtain rfl := si h | cases h)
    · exact h.2
  | (y, u) :: r, m, x, v, hn, hk, h => by
    rw [List.map_cons, List.nodup_cons] at hn
    unfold bindL
    refine bindL_get hn.2 hk ?_
    rcases h with h | h
    · rcases List.mem_cons.mp h with e | h
      · (first | exact ns e | exact nb e | obtain rfl := si e | cases e)
        refine .inr ⟨hn.1, ?_⟩
        rw [if_pos hk]; simp
      · exact .inl h
    · rw [List.map_cons, List.mem_cons, not_or] at h
      refine .inr ⟨h.1.2, ?_⟩
      split
      · dsimp only; rw [if_neg h.1.1]; exact h.2
      · exact h.2
theorem bindC_get {kindOf : Str → Option NameKind} : ∀ {binds : List (Str × Value)} {m : Str → Option Value} {x : Str} {v : Value}, (binds.map (·.1)).Nodup → kindOf x ≠ some .local → ((x, v) ∈ binds ∨ (x ∉ binds.map (·.1) ∧ m x = some v)) → bindC kindOf binds m x = some v
  | [], m, x, v, _, _, h => by
    rcases h with h | h
    · (first | exact ns h | exact nb h | obtain rfl := si h | cases h)
    · exact h.2
  | (y, u) :: r, m, x, v, hn, hk, h => by
    rw [List.map_cons, List.nodup_cons] at hn
    unfold bindC
    refine bindC_get hn.2 hk ?_
    rcases h with h | h
    · rcases List.mem_cons.mp h with e | h
      · (first | exact ns e | exact nb e | obtain rfl := si e | cases e)
        refine .inr ⟨hn.1, ?_⟩
        rw [if_neg hk]; simp
      · exact .inl h
    · rw [List.map_cons, List.mem_cons, not_or] at h
      refine .inr ⟨h.1.2, ?_⟩
      split
      · exact h.2
      · dsimp only; rw [if_neg h.1.1]; exact h.2
theorem call_frame {fa : Addr} {fd : FuncData} {body : List Stmt} {vs : List Value} {binds : List (Str × Value)} {Q : Value → Shared → Prop} (D : DefAt C fa fd body) (hr : A.depth < recursionLimit) (hk : ∀ b o, C.h₀.get? b = some o → s.heap.get? b = some o) (hlim : C.h₀.NoLimit)
    (hb : BindsTo s fd ⟨vs, []⟩ binds) (hkind : ∀ x ∈ binds, fd.scope.names.lookup x.1 = some .local ∨ fd.scope.names.lookup x.1 = some .cell)
    (h : ∀ s₁, InCallC s (callEnvC fd s.heap.objs.size fa).locals (bindL (callEnvC fd s.heap.objs.size fa).kindOf binds fun _ => none) (callEnvC fd s.heap.objs.size fa).cells
        (bindC (callEnvC fd s.heap.objs.size fa).kindOf binds fun _ => none) s₁ →
      Wp C (A.deeper (callEnvC fd s.heap.objs.size fa)) (execs body (callEnvC fd s.heap.objs.size fa)) (fun f s' => Q (match f with | .ret v => v | _ => .none) s') s₁) :
    Wp C A (call (.ref fa) vs) Q s := by
  obtain ⟨o, ho, hd⟩ := D.obj
  refine wpAny_call (codeAny_call_function hr (hk _ _ ho) hd D.co D.gen D.body (D.code.keeps hk) (hb _ _ _ _ ?_))
  rw [D.clo]
  refine wpAny_newFunctionEnv_cells D.kind (fun x hx => (hkind x hx).imp id fun q => ⟨q, ?_⟩) fun env he s' x => ?_
  · obtain ⟨c, hc⟩ := cellsFrom_has (k := s.heap.objs.size + 1) (mem_of_lookup q)
    obtain ⟨c', hc'⟩ := lookup_of_mem hc
    rw [hc']; rfl
  · subst he
    refine ⟨(hlim.keeps hk).keeps x.toInCall.keep, codeAny_func (wpAny_mono (h s' x) (fun f s2 q => ?_) fun _ _ e => e.elim)⟩
    exact q
inductive Pa (H : PyData → Int) (F base : Fz) (h : Heap) : List Value → List (Bool × PyData) → List Addr → Prop
  | nil : Pa H F base h [] [] []
  | fz {v d vs vos as} : R H F v d → Pa H F base h vs vos as → Pa H F base h (v :: vs) ((false, d) :: vos) as
  | ow {a d vs vos as} : Ow H F h a d → F a = none → base a = none → a ∉ as → Pa H F base h vs vos as → Pa H F base h (.ref a :: vs) ((true, d) :: vos) (a :: as)
theorem Pa.ofR {H : PyData → Int} {h : Heap} {vs : List Value} {ds : List PyData} (r : RL H F vs ds) : Pa H F base h vs (ds.map fun d => (false, d)) [] := by
  induction vs generalizing ds with
  | nil => cases r; exact .nil
  | cons v vs ih => cases r with | cons r rs => exact .fz r (ih rs)
theorem Pa.fzAt {H : PyData → Int} {h : Heap} {vs : List Value} {vos : List (Bool × PyData)} {as : List Addr} (p : Pa H F base h vs vos as) : ∀ {i : Nat} {d : PyData}, vos[i]? = some (false, d) → ∃ v, vs[i]? = some v ∧ R H F v d := by
  induction p with
  | nil => intro i d e; simp at e
  | fz r _ ih =>
    intro i d e
    cases i with
    | zero => simp at e; subst e; exact ⟨_, rfl, r⟩
    | succ i => simp at e; simpa using ih e
  | ow _ _ _ _ _ ih =>
    intro i d e
    cases i with
    | zero => simp at e
    | succ i => simp at e; simpa using ih e
theorem Pa.owAt {H : PyData → Int} {h : Heap} {vs : List Value} {vos : List (Bool × PyData)} {as : List Addr} (p : Pa H F base h vs vos as) : ∀ {i : Nat} {d : PyData}, vos[i]? = some (true, d) → ∃ a, vs[i]? = some (.ref a) ∧ Ow H F h a d ∧ F a = none ∧ base a = none ∧ a ∈ as := by
  induction p with
  | nil => intro i d e; simp at e
  | fz r _ ih =>
    intro i d e
    cases i with
    | zero => simp at e
    | succ i => simp at e; simpa using ih e
  | ow o f b _ _ ih =>
    intro i d e
    cases i with
    | zero => simp at e; subst e; exact ⟨_, rfl, o, f, b, List.mem_cons_self⟩
    | succ i =>
      simp at e
      obtain ⟨a, h1, h2, h3, h4, h5⟩ := ih e
      exact ⟨a, by simpa using h1, h2, h3, h4, List.mem_cons_of_mem _ h5⟩
theorem Pa.inj {H : PyData → Int} {h : Heap} {vs : List Value} {vos : List (Bool × PyData)} {as : List Addr} (p : Pa H F base h vs vos as) : ∀ {i j : Nat} {d e : PyData} {a : Addr}, vos[i]? = some (true, d) → vos[j]? = some (true, e) → vs[i]? = some (.ref a) → vs[j]? = some (.ref a) → i = j := by
  induction p with
  | nil => intro i j d e a h1; simp at h1
  | fz r _ ih =>
    intro i j d e a h1 h2 h3 h4
    cases i with
    | zero => simp at h1
    | succ i =>
      cases j with
      | zero => simp at h2
      | succ j => simp at h1 h2 h3 h4; rw [ih h1 h2 h3 h4]
  | ow o f b m p ih =>
    have off : ∀ {j : Nat} {d : PyData} {a' : Addr}, _ → _ → _ := fun {j d a'} (h2 : _[j]? = some (true, d)) (h4 : _[j]? = some (Value.ref a')) => (p.owAt h2).elim fun c q => show a' ∈ _ by
      rw [h4] at q
      have := q.1
      cases this
      exact q.2.2.2.2
    intro i j d e a h1 h2 h3 h4
    cases i with
    | zero =>
      cases j with
      | zero => rfl
      | succ j =>
        simp at h1 h2 h3 h4
        exact absurd (h3 ▸ off h2 h4) m
    | succ i =>
      cases j with
      | zero =>
        simp at h1 h2 h3 h4
        exact absurd (h4 ▸ off h1 h3) m
      | succ j => simp at h1 h2 h3 h4; rw [ih h1 h2 h3 h4]
noncomputable def Cx.fn (C : Cx) (names : List Str) (pin : Option (Str × Addr)) : Cx := { C with names := names, pin := pin }
noncomputable def stOf (vos : List (Bool × PyData)) (k : Nat) : St := vos.map some ++ List.replicate k none
theorem sget_stOf {vos : List (Bool × PyData)} {k i : Nat} {p : Bool × PyData} (h : sget (stOf vos k) i = some p) : vos[i]? = some p := by
  unfold sget stOf at h
  by_cases hi : i < vos.length
  · rw [List.getElem?_append_left (by simpa using hi), List.getElem?_map, List.getElem?_eq_getElem hi] at h
    rw [List.getElem?_eq_getElem hi]; exact h
  · rw [List.getElem?_append_right (by simpa using hi), List.getElem?_replicate] at h
    split at h
    · rename_i q; split at q
      · (first | exact ns q | exact nb q | obtain rfl := si q | cases q); cases h
      · (first | exact ns q | exact nb q | obtain rfl := si q | cases q)
    · (first | exact ns h | exact nb h | obtain rfl := si h | cases h)
theorem frame_ct {fa : Addr} {fd : FuncData} {body : List Stmt} {names ps rest : List Str} {vs : List Value} {vos : List (Bool × PyData)} {as : List Addr} {k : Nat} {pin : Option (Str × Addr)} {s₁ : Shared} (D : DefAt C fa fd body) (hok : C.Ok) (hr : Room (n + 1) A)
    (hs : Sat F s.heap) (hb : ∀ b o, base b = some o → s.heap.get? b = some o) (k0 : ∀ b o, C.h₀.get? b = some o → base b = some o) (hn : names = ps ++ rest) (hnd : names.Nodup) (hl : ps.length = vs.length)
    (hkind : ∀ x ∈ ps, fd.scope.names.lookup x = some .local ∨ fd.scope.names.lookup x = some .cell) (P : Pa C.H F base s.heap vs vos as) (hpin : ∀ x a, pin = some (x, a) → (x, .ref a) ∈ ps.zip vs)
    (x : InCallC s (callEnvC fd s.heap.objs.size fa).locals (bindL (callEnvC fd s.heap.objs.size fa).kindOf (ps.zip vs) fun _ => none) (callEnvC fd s.heap.objs.size fa).cells (bindC (callEnvC fd s.heap.objs.size fa).kindOf (ps.zip vs) fun _ => none) s₁) :
    Ct (C.fn names pin) n fd.scope (A.deeper (callEnvC fd s.heap.objs.size fa)) (callEnvC fd s.heap.objs.size fa) base base F s₁ (stOf vos k) := by
  have fst : (ps.zip vs).map (·.1) = ps := by rw [List.map_fst_zip (by omega)]
  have hps : ps.Nodup := by rw [hn] at hnd; exact (List.nodup_append.mp hnd).1
  have hF : ∀ {a}, s.heap.get? a = none → F a = none := fun h => sat_fresh hs h
  have hB : ∀ {a}, s.heap.get? a = none → base a = none := fun {a} h => by
    cases q : base a with
    | none => rfl
    | some o => rw [hb a o q] at h; (first | exact ns h | exact nb h | obtain rfl := si h | cases h)
  have new : ∀ {a}, s.heap.objs.size ≤ a → s.heap.get? a = none := fun {a} h => by
    cases q : s.heap.get? a with
    | none => rfl
    | some o => exact absurd (Heap.lt_size q) (Nat.not_lt.mpr h)
  have hL : (callEnvC fd s.heap.objs.size fa).locals = s.heap.objs.size := rfl
  have lk : ∀ {y v}, (y, v) ∈ ps.zip vs → Lk (callEnvC fd s.heap.objs.size fa) s₁.heap y v := fun {y v} h => by
    have hy : y ∈ ps := by rw [← fst]; exact List.mem_map_of_mem (f := (·.1)) h
    rcases hkind y hy with q | q
    · exact .loc q x.toInCall.ns (bindL_get (by rw [fst]; exact hps) q (.inl h))
    · obtain ⟨c, hc⟩ := cellsFrom_has (k := s.heap.objs.size + 1) (mem_of_lookup q)
      obtain ⟨c', hc'⟩ := lookup_of_mem hc
      have hq : (callEnvC fd s.heap.objs.size fa).kindOf y = some .cell := q
      have := x.cell y c' hc'
      rw [bindC_get (by rw [fst]; exact hps) (by rw [hq]; simp) (.inl h)] at this
      exact .cell q hc' this
  have at' : ∀ {i y v}, names[i]? = some y → vs[i]? = some v → (y, v) ∈ ps.zip vs := fun {i y v} h1 h2 => by
    have hi : i < vs.length := (List.getElem?_eq_some_iff.mp h2).1
    rw [hn, List.getElem?_append_left (by omega)] at h1
    refine List.mem_of_getElem? (i := i) ?_
    rw [List.getElem?_zip_eq_some]
    exact ⟨h1, h2⟩
  refine ⟨⟨hok.g, hok.b, hok.lim, hok.hH⟩, hr.deeper, rfl, k0, ?_, fun y a e => lk (hpin y a e)⟩
  exact {
    kind := D.kind, glob := D.glob, blt := D.blt, nodup := hnd
    keep := fun b o e => x.toInCall.keep b o (hb b o e)
    keepL := fun b o e => x.toInCall.keep b o (hb b o e)
    sat := fun a o e => x.toInCall.keep a o (hs a o e)
    ns := ⟨_, x.toInCall.ns⟩
    LF := hF (get_size _), Lb := hB (get_size _), Ll := hB (get_size _)
    cell := fun y hy => by
      obtain ⟨c, hc⟩ := cellsFrom_has (k := s.heap.objs.size + 1) (mem_of_lookup (show fd.scope.names.lookup y = some .cell from hy))
      obtain ⟨c', hc'⟩ := lookup_of_mem hc
      have hlt := x.above y c' (mem_of_lookup hc')
      have n0 : s.heap.get? c' = none := new (Nat.le_of_lt hlt)
      exact ⟨c', _, hc', x.cell y c' hc', hF n0, hB n0⟩
    cinj := fun y z c _ _ h1 h2 => name_of_addr x.apart (mem_of_lookup h1) (mem_of_lookup h2)
    free := fun y c hy _ => absurd rfl (D.nofree _ (mem_of_lookup (show fd.scope.names.lookup y = some .free from hy)))
    vars := fun i y d hi hd => by
      obtain ⟨v, h1, h2⟩ := P.fzAt (sget_stOf hd)
      exact ⟨v, lk (at' hi h1), h2⟩
    own := fun i y d hi hd => by
      obtain ⟨a, h1, h2, h3, h4, _⟩ := P.owAt (sget_stOf hd)
      obtain ⟨o, ho⟩ := h2.there
      refine ⟨a, lk (at' hi h1), h2.grow (Sub.refl F) (fun o e => x.toInCall.keep a o e), h3, h4, ?_⟩
      rw [hL]; rintro rfl; rw [get_size] at ho; (first | exact ns ho | exact nb ho | obtain rfl := si ho | cases ho)
    oinj := fun i j y z d e a hi hj hd he ly lz => by
      obtain ⟨a1, h1, _⟩ := P.owAt (sget_stOf hd)
      obtain ⟨a2, h2, _⟩ := P.owAt (sget_stOf he)
      cases ly.uniq (lk (at' hi h1))
      cases lz.uniq (lk (at' hj h2))
      exact P.inj (sget_stOf hd) (sget_stOf he) h1 h2 }
noncomputable def fnD (f : Sm) (exd : List PyData) (k : Nat) (ds : List PyData) : Option PyData := match f (stOf ((ds ++ exd).map fun d => (false, d)) k) with
  | some (.ret d, _) => some d
  | _ => none
theorem FnOk.mk {fa : Addr} {fd : FuncData} {body : List Stmt} {names ps rest : List Str} {f : Sm} {ex : List Value} {exd : List PyData} {np k : Nat} (D : DefAt C fa fd body) (hok : C.Ok)
    (hbind : ∀ {s : Shared} {vs : List Value}, vs.length = np → (∀ b o, C.h₀.get? b = some o → s.heap.get? b = some o) → BindsTo s fd ⟨vs, []⟩ (ps.zip (vs ++ ex))) (hex : ∀ F, RL C.H F ex exd)
    (hn : names = ps ++ rest) (hnd : names.Nodup) (hl : ps.length = np + ex.length) (hkind : ∀ x ∈ ps, fd.scope.names.lookup x = some .local ∨ fd.scope.names.lookup x = some .cell)
    (hb : SndSs (C.fn names Option.none) n fd.scope body f) : FnOk C (n + 1) fa (fun ds => if ds.length = np then fnD f exd k ds else Option.none) := fun {A F s vs ds d} hr hk hs r h => by
  dsimp only at h
  split at h
  case isFalse => (first | exact ns h | exact nb h | obtain rfl := si h | cases h)
  rename_i hds
  have : ∃ σ', f (stOf ((ds ++ exd).map fun d => (false, d)) k) = some (.ret d, σ') := by
    unfold fnD at h
    rcases e : f (stOf ((ds ++ exd).map fun d => (false, d)) k) with _ | ⟨fl, σ'⟩
    · rw [e] at h; (first | exact ns h | exact nb h | obtain rfl := si h | cases h)
    · rw [e] at h
      cases fl with
      | ret x => (first | exact ns h | exact nb h | obtain rfl := si h | cases h); exact ⟨σ', rfl⟩
      | _ => (first | exact ns h | exact nb h | obtain rfl := si h | cases h)
  obtain ⟨σ', e⟩ := this
  have hv : vs.length = np := by rw [r.length, hds]
  refine call_frame D (by have := hr.dep; omega) hk hok.lim (hbind hv hk) (fun x hx => hkind x.1 (List.of_mem_zip hx).1) fun s₁ x => ?_
  have X := frame_ct (k := k) (base := fun a => s.heap.get? a) (pin := Option.none) D hok hr hs (fun _ _ e => e) hk hn hnd (by rw [List.length_append, hv]; exact hl) hkind (Pa.ofR (r.append (hex F))) (fun _ _ e => nomatch e) x
  refine wp_mono (hb X e) fun fl s2 p => ?_
  obtain ⟨v, rfl, F2, r2, rv, kp, sa⟩ := p
  obtain ⟨h1, tk, hs1, _⟩ := x.done
  subst hs1
  exact ⟨F2, ⟨kp, r2.1, r2.2.1, sa, r2.2.2.gens, r2.2.2.drawn, r2.2.2.os⟩, rv⟩
end Ev
set_option maxRecDepth 10000
namespace Ev
open PySem PySem.W PySem.Spec PySem.Calls PyProof.Rows PySem.SeqAt
variable {C : Cx} {n : Nat} {sc : Scope} {A : Around} {env : Env} {base : Fz} {low : Fz} {F F' : Fz} {s s' : Shared} {σ : St}
noncomputable def neverC : Sm := fun _ => none
theorem SndSs.never {sts : List Stmt} : SndSs C n sc sts neverC := fun _ h => nomatch h
/-! e is None -/
noncomputable def isNoneD : PyData → Option Bool
  | .none => some true
  | .int _ => some false
  | _ => none
noncomputable def isNoneC (f : St → Option PyData) : St → Option Bool := fun σ => match f σ with
  | some d => isNoneD d
  | none => none
theorem SndT.isNone {a : Expr} {k : Nat} {p pos : Pos} {f : St → Option PyData} (ha : Snd C n sc a f) : SndT C n sc (.Compare a [.Is] [.Constant .none k p] pos) (isNoneC f) := fun {A env base low F s σ b} X h => by
  unfold isNoneC at h
  rcases e : f σ with _ | d
  · rw [e] at h; (first | exact ns h | exact nb h | obtain rfl := si h | cases h)
  rw [e] at h
  refine wpAny_isTrue_Compare1 (wp_mono (ha X e) fun v1 s1 ⟨F1, g1, r1⟩ => wpAny_Constant_none ?_) (by with_unfolding_all rfl)
  cases d with
  | none =>
    (first | exact ns h | exact nb h | obtain rfl := si h | cases h)
    cases r1
    exact is_none_none (wpAny_truthy_bool ⟨rfl, F1, g1⟩)
  | int i =>
    (first | exact ns h | exact nb h | obtain rfl := si h | cases h)
    obtain ⟨t, rfl⟩ := r1.toInt
    exact is_int_none (wpAny_truthy_bool ⟨rfl, F1, g1⟩)
  | _ => (first | exact ns h | exact nb h | obtain rfl := si h | cases h)
/-! k in d, d a dict -/
noncomputable def inKD (k d : PyData) : Option Bool := match d with
  | .dict kvs => if okKey kvs k then some (lookK kvs k).isSome else none
  | _ => none
noncomputable def inKC (f g : St → Option PyData) : St → Option Bool := fun σ => match f σ with
  | some k => match g σ with
    | some d => inKD k d
    | none => none
  | none => none
theorem Bw.dictIs {H : PyData → Int} {h : Heap} (st : Sat F h) {v : Value} {kvs : List (PyData × PyData)} (b : Bw H F h v (.dict kvs)) : ∃ a o es m kd, v = .ref a ∧ (a == sysModules) = false ∧ h.get? a = some o ∧ o.ExactDict ∧ o.data = .dict es m ∧ RD H F kd es.toList kvs ∧ (kvs.map (·.1)).Nodup := by
  cases b with
  | fz r => cases r with | dict h0 h1 h2 h3 h4 h5 => exact ⟨_, _, _, _, _, rfl, h0, st _ _ h1, h2, h3, h4, h5⟩
  | ow o => cases o with | dict h0 h1 h2 h3 h4 h5 => exact ⟨_, _, _, _, _, rfl, h0, h1, h2, h3, h4, h5⟩
theorem in_dict {key dv : Value} {k : PyData} {kvs : List (PyData × PyData)} {Q : Value → Shared → Prop} {E : Value → Shared → Prop} (hH : ∀ d, C.H d = hashK C.w d) (hu : A.units + 400 < cLine) (hs : Sat F s.heap) (b : Bw C.H F s.heap dv (.dict kvs)) (rk : R C.H F key k) (hk : okKey kvs k = true)
    (h : ∀ t, Q (.bool (lookK kvs k).isSome) { s with toks := t }) : wpAny (model C.prog C.w) A (compareOp .In key dv) Q E s := by
  obtain ⟨a, o, es, m, kd, rfl, hsm, ho, hx, hd, r, hn⟩ := b.dictIs hs
  have hT : s.TypeIs (.ref a) "dict" := ⟨o, ho, hx.1⟩
  show wpAny _ _ (do return .bool (← contains (.ref a) key)) Q E s
  refine wpAny_bind ?_
  unfold contains
  try with_reducible refine wpAny_holding ?_
  refine wpAny_bind (wpAny_specialOf hT slot_dict_contains.lookup ?_)
  show wpAny _ _ (if (some (Value.builtin "dict.__contains__") == some Value.none) = true then _ else _) _ E s
  first | with_reducible refine w_neg (by rw [beq_builtin_none]; exact Bool.false_ne_true) ?_ | with_reducible refine wb_neg (by rw [beq_builtin_none]; exact Bool.false_ne_true) ?_ | rw [if_neg (by rw [beq_builtin_none]; exact Bool.false_ne_true)]
  refine wpAny_bind (wpAny_callSpecialUnlessNone?_slot (name := Str.ofString "__contains__") hT slot_dict_contains
    (wpAny_call_entry slot_dict_contains hT entry_dict_contains ?_ (args_dict_contains _ _)))
  show wpAny _ _ (dictGet a key >>= _) _ _ s
  refine wpAny_bind (dget_wp hH (by show A.units + 1 + 100 < _; omega) hs ho hd r hn rk hk fun t ov hov => ?_)
  cases hf : lookK kvs k with
  | some v =>
    rw [hf] at h hov
    obtain ⟨v', rfl, _⟩ := hov
    show wpAny _ _ (ret (.bool true)) _ _ _
    exact wpAny_pure ⟨_, rfl, wpAny_truthy_bool (wpAny_pure (h t))⟩
  | none =>
    rw [hf] at h hov
    subst hov
    show wpAny _ _ (Builtin.Dict.pendingKey? a key >>= _) _ _ _
    exact wpAny_bind (wpAny_pendingKey_other hsm (wpAny_pure ⟨_, rfl, wpAny_truthy_bool (wpAny_pure (h t))⟩))
theorem SndT.inK {a b : Expr} {pos : Pos} {f g : St → Option PyData} (ha : Snd C n sc a f) (hb : SndB C n sc b g) (hm : behindInMarks .In b = false := by with_unfolding_all rfl) : SndT C n sc (.Compare a [.In] [b] pos) (inKC f g) := fun {A env base low F s σ c} X h => by
  unfold inKC at h
  rcases e1 : f σ with _ | d1
  · rw [e1] at h; (first | exact ns h | exact nb h | obtain rfl := si h | cases h)
  rcases e2 : g σ with _ | d2
  · rw [e1, e2] at h; (first | exact ns h | exact nb h | obtain rfl := si h | cases h)
  rw [e1, e2] at h
  cases d2 with
  | dict kvs =>
    obtain ⟨hk, h⟩ := ite_some h
    (first | exact ns h | exact nb h | obtain rfl := si h | cases h)
    refine wpAny_isTrue_Compare1 (wp_mono (ha X e1) fun v1 s1 ⟨F1, g1, r1⟩ => wp_mono (hb (X.grow g1) e2) fun v2 s2 ⟨F2, g2, r2⟩ => ?_) hm
    refine in_dict X.ok.hH X.room.in1 g2.sat r2 (r1.mono g2.sub) hk fun t => wpAny_truthy_bool ⟨rfl, F2, (g1.trans g2).trans (.tok g2.sat t)⟩
  | _ => (first | exact ns h | exact nb h | obtain rfl := si h | cases h)
/-! while -/
noncomputable def whileC (t : St → Option Bool) (body : Sm) : Nat → Sm
  | 0, _ => none
  | k + 1, σ => match t σ with
    | some true => match body σ with
      | some (.next, σ') => whileC t body k σ'
      | r => r
    | some false => some (.next, σ)
    | none => none
theorem SndS.while {test : Expr} {body : List Stmt} {pos : Pos} {t : St → Option Bool} {fb : Sm} (fuel : Nat) (ht : SndT C n sc test t) (hb : SndSs C n sc body fb) : SndS C n sc (.While test body [] pos) (whileC t fb fuel) := fun {A env base F s σ r} X h => by
  refine (fun I (hI : ∀ k s', (∃ F' σ', Rel base F s F' s' ∧ Ct C n sc A env base base F' s' σ' ∧ whileC t fb k σ' = some r) → I k s') (hE : ∀ k s', I k s' → ∃ F' σ', Rel base F s F' s' ∧ Ct C n sc A env base base F' s' σ' ∧ whileC t fb k σ' = some r) =>
    wpAny_While (codeAny_whileLoop I ?_ fuel (hI _ _ ⟨F, σ, .refl F s, X, h⟩))) _ (fun _ _ x => x) (fun _ _ x => x)
  intro k s' hk
  obtain ⟨F1, σ1, r1, X1, h1⟩ := hE k s' hk
  cases k with
  | zero => (first | exact ns h1 | exact nb h1 | obtain rfl := si h1 | cases h1)
  | succ k =>
    have h1 : (match t σ1 with | some true => (match fb σ1 with | some (.next, σ') => whileC t fb k σ' | r => r) | some false => some (.next, σ1) | none => none) = some r := h1
    cases e : t σ1 with
    | none => rw [e] at h1; (first | exact ns h1 | exact nb h1 | obtain rfl := si h1 | cases h1)
    | some b =>
      refine wpAny_mono (ht X1 e) (fun b' s2 ⟨eb, F2, g2⟩ => ?_) fun _ _ e => e.elim
      subst eb
      have X2 := X1.grow g2
      have r2 : Rel base F s F2 s2 := r1.trans (.grow X1 g2)
      cases b' with
      | false =>
        rw [e] at h1; (first | exact ns h1 | exact nb h1 | obtain rfl := si h1 | cases h1)
        first | with_reducible refine w_false ?_ | with_reducible refine wb_false ?_ | rw [if_neg Bool.false_ne_true]
        exact wpAny_execs_nil ⟨rfl, F2, r2, X2⟩
      | true =>
        rw [e] at h1
        first | with_reducible refine w_true ?_ | with_reducible refine wb_true ?_ | rw [if_pos rfl]
        cases e2 : fb σ1 with
        | none => rw [e2] at h1; (first | exact ns h1 | exact nb h1 | obtain rfl := si h1 | cases h1)
        | some rr =>
          rw [e2] at h1
          refine wpAny_mono (hb X2 e2) (fun fl s3 p => ?_) fun _ _ e => e.elim
          obtain ⟨f3, σ3⟩ := rr
          cases f3 with
          | next =>
            obtain ⟨rfl, F3, r3, X3⟩ := p
            exact ⟨k, Nat.lt_succ_self _, hI _ _ ⟨F3, σ3, r2.trans r3, X3, h1⟩⟩
          | ret d =>
            (first | exact ns h1 | exact nb h1 | obtain rfl := si h1 | cases h1)
            obtain ⟨v, rfl, rest⟩ := p
            exact PostS.of r2 ⟨v, rfl, rest⟩
/-! x.insert(i, e) -/
noncomputable def insK (ds : List PyData) (i : Nat) (x : PyData) : List PyData := ds.take i ++ x :: ds.drop i
noncomputable def insertC (j : Nat) (fi fx : St → Option PyData) : Sm := fun σ => match sget σ j with
  | some (true, .list ds) => match fi σ with
    | some (.int i) => match fx σ with
      | some x => if decide (0 ≤ i) && decide (i ≤ ds.length) && decide (ds.length ≤ 1048576) then some (.next, σ.set j (some (true, .list (insK ds i.toNat x)))) else none
      | none => none
    | _ => none
  | _ => none
theorem insert_ow {a : Addr} {ds : List PyData} {i : Int} {t : Tok} {x : PyData} {v : Value} {Q : Value → Shared → Prop} {E : Value → Shared → Prop} (o : Ow C.H F s.heap a (.list ds)) (r : R C.H F v x) (h0 : 0 ≤ i) (h1 : i ≤ ds.length) (hz : ds.length ≤ 1048576)
    (hQ : ∀ h', Ow C.H F h' a (.list (insK ds i.toNat x)) → Heap.SameBut a s.heap h' → Q .none { s with heap := h' }) : wpAny (model C.prog C.w) A (call (.builtin "list.insert") [.ref a, .int i t, v]) Q E s := by
  cases o with
  | @list vs m _ ho rl =>
    have hsz := rl_arr rl
    have hfit : ¬ (!Builtin.List.listFitsIndex i) = true := by
      simp only [Builtin.List.listFitsIndex]
      simp
      omega
    have hobj : s.TypeIs (.ref a) "list" := ⟨_, ho, rfl⟩
    refine call_meets PySem.F.slot_list_insert hobj PySem.F.entry_list_insert (PySem.F.args_list_insert_3 ..) (PySem.AutoSeq1.list_insert_list_int_val_1 a vs m i t v hfit (by rw [hsz, sizeLine_eq]; omega)) ⟨ho, ?_⟩
    refine hQ _ (.list (vs := (vs.extract 0 (min i.toNat vs.size)).push v ++ vs.extract (min i.toNat vs.size)) (n := if ((vs.extract 0 (min i.toNat vs.size)).push v ++ vs.extract (min i.toNat vs.size)).size == vs.size then m else m + 1) ?_ ?_) (Heap.SameBut.update ..)
    · rw [Heap.get?_update_self _ ho (by rfl)]
      show some (Obj.mapSeq _ { cls := .type "list", dict := none, data := .seq vs m, slots := #[] }) = _
      unfold Obj.mapSeq
      dsimp only
      first | with_reducible refine w_neg (by omega) ?_ | with_reducible refine wb_neg (by omega) ?_ | rw [if_neg (by omega)]
    · have hk : min i.toNat vs.size = i.toNat := by omega
      rw [hk]
      have e1 : ((vs.extract 0 i.toNat).push v ++ vs.extract i.toNat).toList = vs.toList.take i.toNat ++ v :: vs.toList.drop i.toNat := by
        simp [List.take_of_length_le]
      rw [e1]
      exact (rl.take _).append (.cons r (rl.drop _))
theorem SndS.insert {j : Nat} {x : Str} {px apos cpos pos : Pos} {e1 e2 : Expr} {fi fx : St → Option PyData} (hi : C.names[j]? = some x) (h1 : Snd C n sc e1 fi) (h2 : Snd C n sc e2 fx) (hst : ∀ env, starEach [e1, e2] env = (false, eval e1 env) :: starEach [e2] env := by intro _; rfl) (hst2 : ∀ env, starEach [e2] env = (false, eval e2 env) :: starEach [] env := by intro _; rfl) (hpl : ∀ env, (backTo cpos (starEach [e2] env)).any (·.1) = false := by intro _; rfl) (hd : (x == ("__debug__" : Str)) = false := by decide) (hc : (x == ("__classdict__" : Str)) = false := by decide)
    (hbase : ∀ env, attributeBase (.Name x px) "insert" env (eval (.Name x px) env) = eval (.Name x px) env := by intro _; rfl) (hline : (apos.endLine == cpos.line) = true := by rfl) (hin : ∀ env, env.scope.kind = .function → interactive env = false := by intro env h; simp [interactive, h]) :
    SndS C n sc (.Expr (.Call (.Attribute (.Name x px) "insert" apos) [e1, e2] [] cpos) pos) (insertC j fi fx) := fun {A env base F s σ r} X h => by
  unfold insertC at h
  split at h
  · rename_i ds q1
    split at h
    · rename_i i q2
      cases q3 : fx σ with
      | none => rw [q3] at h; (first | exact ns h | exact nb h | obtain rfl := si h | cases h)
      | some y =>
        rw [q3] at h
        dsimp only at h
        split at h
        · rename_i hz
          (first | exact ns h | exact nb h | obtain rfl := si h | cases h)
          simp only [Bool.and_eq_true, decide_eq_true_eq] at hz
          refine PySem.wpAny_Expr (wpAny_Call_method (T := "list") (id := "list.insert") (hbase env) (by rw [hst, hst2]; rfl) hline PySem.F.plainAttrs_list PySem.F.slot_list_insert PySem.F.type_list_insert (X.load_own hi q1 hd hc fun a l o f b => ?_)) (hin env X.fs.kind) rfl
          have hob : ∃ vs m, s.heap.get? a = some (seqObj "list" vs m) := by cases o with | list ho _ => exact ⟨_, _, ho⟩
          obtain ⟨vs, m, hob⟩ := hob
          refine ⟨⟨_, hob, rfl⟩, fun c e => by (first | exact ns e | exact nb e | obtain rfl := si e | cases e); exact ⟨_, hob, rfl⟩, ?_⟩
          refine PyProof.Rows.callWith_method1 (args_cons (wp_mono (h1 X q2) fun v1 s1 ⟨F1, g1, r1⟩ => args_cons (wp_mono (h2 (X.grow g1) q3) fun v2 s2 ⟨F2, g2, r2⟩ => args_nil ?_) (hst2 env)) (hst env)) (hst env) (hpl env)
          obtain ⟨t, rfl⟩ := r1.toInt
          have g := g1.trans g2
          refine insert_ow (o.grow g.sub (g.keep a)) r2 hz.1.1 hz.1.2 hz.2 fun h' o' sb => ?_
          refine ⟨rfl, F2, (Rel.grow X g).trans (.same ⟨rfl, rfl, rfl⟩), ?_⟩
          exact (X.grow g).change (s1 := { s2 with heap := h' }) hi q1 (l.keeps g.keep) b o' fun c o'' hc' q => (sb.2 c hc').trans q
        · (first | exact ns h | exact nb h | obtain rfl := si h | cases h)
    · (first | exact ns h | exact nb h | obtain rfl := si h | cases h)
  · (first | exact ns h | exact nb h | obtain rfl := si h | cases h)
end Ev
set_option maxRecDepth 10000
namespace Ev
open PySem PySem.W PySem.Spec PySem.Calls PyProof.Rows PySem.SeqAt
variable {C : Cx} {n : Nat} {sc : Scope} {A : Around} {env : Env} {base : Fz} {low : Fz} {F F' : Fz} {s s' : Shared} {σ : St}
theorem FnOk.toB {fa : Addr} {g : List PyData → Option PyData} (h : FnOk C n fa g) (hi : ∀ ds d, g ds = some d → ∃ i, d = .int i) : FnB C n fa g := fun {A F s vs ds d} hr hk hs b e => by
  have sub : Sub F (fun a => s.heap.get? a) := fun a o q => hs a o q
  have go : ∀ {vs ds}, BwL C.H F s.heap vs ds → RL C.H (fun a => s.heap.get? a) vs ds := fun {vs ds} b => by
    induction b with
    | nil => exact .nil
    | cons b _ ih =>
      refine .cons ?_ ih
      cases b with
      | fz r => exact r.mono sub
      | ow o => cases o with
        | list ho r => exact .list ho (r.mono sub)
        | dict h0 h1 h2 h3 h4 h5 => exact .dict h0 h1 h2 h3 (h4.mono sub) h5
  refine wp_mono (h hr hk (F := fun a => s.heap.get? a) (fun _ _ q => q) (go b) e) fun v s1 ⟨F1, g1, r1⟩ => ?_
  obtain ⟨i, rfl⟩ := hi _ _ e
  obtain ⟨t, rfl⟩ := r1.toInt
  exact ⟨F, ⟨g1.keep, Sub.refl F, fun _ _ q => .inl q, fun a o q => g1.keep a o (hs a o q), g1.gens, g1.drawn, g1.os⟩, .int _ _⟩
theorem NoPin.of {x y : Str} {a : Addr} (e : C.pin = some (x, a)) (h : y ≠ x) : NoPin C y := fun b q => by rw [e] at q; (first | exact ns q | exact nb q | obtain rfl := si q | cases q); exact h rfl
theorem NoPin.none (e : C.pin = none) (y : Str) : NoPin C y := fun b q => by rw [e] at q; (first | exact ns q | exact nb q | obtain rfl := si q | cases q)
noncomputable def insD (f : Sm) (exd : List PyData) (k : Nat) (d x : PyData) : Option PyData := match f (stOf ((true, d) :: (false, x) :: exd.map fun d => (false, d)) k) with
  | some (.next, σ') => match sget σ' 0 with
    | some (true, d') => some d'
    | _ => none
  | _ => none
theorem FnIns.mk {fa : Addr} {fd : FuncData} {body : List Stmt} {names rest ps : List Str} {xa xx : Str} {f : Sm} {ex : List Value} {exd : List PyData} {k : Nat} (D : DefAt C fa fd body) (hok : C.Ok)
    (hbind : ∀ {s : Shared} {v w : Value}, (∀ b o, C.h₀.get? b = some o → s.heap.get? b = some o) → BindsTo s fd ⟨[v, w], []⟩ ((xa :: xx :: ps).zip (v :: w :: ex))) (hex : ∀ F, RL C.H F ex exd)
    (hn : names = (xa :: xx :: ps) ++ rest) (hnd : names.Nodup) (hl : ps.length = ex.length) (hkind : ∀ x ∈ xa :: xx :: ps, fd.scope.names.lookup x = some .local ∨ fd.scope.names.lookup x = some .cell)
    (hb : ∀ a, SndSs (C.fn names (some (xa, a))) n fd.scope body f) : FnIns C (n + 1) fa (insD f exd k) := fun {A F s a v d x d'} hr hk h0 hs hFa ow rx h => by
  unfold insD at h
  split at h
  case h_2 => (first | exact ns h | exact nb h | obtain rfl := si h | cases h)
  rename_i σ' e
  split at h
  case h_2 => (first | exact ns h | exact nb h | obtain rfl := si h | cases h)
  rename_i d2 e2
  (first | exact ns h | exact nb h | obtain rfl := si h | cases h)
  have hk' : ∀ b o, C.h₀.get? b = some o → s.heap.get? b = some o := fun b o q => hk b o q fun e => by rw [e, h0] at q; (first | exact ns q | exact nb q | obtain rfl := si q | cases q)
  refine call_frame D (by have := hr.dep; omega) hk' hok.lim (hbind hk') (fun x hx => hkind x.1 (List.of_mem_zip hx).1) fun s₁ x => ?_
  have P : Pa C.H F (fun b => if b = a then none else s.heap.get? b) s.heap (.ref a :: v :: ex) ((true, d) :: (false, _) :: exd.map fun d => (false, d)) [a] :=
    .ow ow hFa (by simp) (by simp) (.fz rx (.ofR (hex F)))
  have X := frame_ct (k := k) (pin := some (xa, a)) (rest := rest) (names := names) D hok hr hs (fun b o e => by split at e; (first | exact ns e | exact nb e | obtain rfl := si e | cases e); exact e) (fun b o q => by rw [if_neg (fun e => by rw [e, h0] at q; (first | exact ns q | exact nb q | obtain rfl := si q | cases q))]; exact hk' b o q) hn hnd (by simp [hl]) hkind P (fun y b e => by (first | exact ns e | exact nb e | obtain rfl := si e | cases e); exact List.mem_cons_self) x
  refine wp_mono (hb a X e) fun fl s2 p => ?_
  obtain ⟨rfl, F2, r2, X2⟩ := p
  obtain ⟨h1, tk, hs1, _⟩ := x.done
  subst hs1
  have hi : (C.fn names (some (xa, a))).names[0]? = some xa := by rw [show (C.fn names (some (xa, a))).names = names from rfl, hn]; rfl
  obtain ⟨a', l, ow2, f2, b2, _⟩ := X2.fs.own 0 xa _ hi e2
  have := l.uniq (X2.pin xa a rfl)
  cases this
  refine ⟨rfl, F2, r2.1, fun b o q => ?_, X2.sat, ow2, fun b o hne q => X2.fs.keep b o (by rw [if_neg hne]; exact q), ⟨r2.2.2.gens, r2.2.2.drawn, r2.2.2.os⟩⟩
  rcases r2.2.1 b o q with q' | q'
  · exact .inl q'
  · right
    by_cases hba : b = a
    · subst hba; rw [f2] at q; (first | exact ns q | exact nb q | obtain rfl := si q | cases q)
    · dsimp only at q'; rw [if_neg hba] at q'; exact q'
/-! the parameters of insort_left and bisect_left -/
structure InsDef (C : Cx) (fd : FuncData) where
  tk : Tok
  b2 : ∀ {s : Shared}, (∀ b o, C.h₀.get? b = some o → s.heap.get? b = some o) → ∀ v w, BindsTo s fd ⟨[v, w], []⟩ [("a", v), ("x", w), ("lo", .int 0 tk), ("hi", .none), ("key", .none)]
  b4 : ∀ {s : Shared}, (∀ b o, C.h₀.get? b = some o → s.heap.get? b = some o) → ∀ v w u z, BindsTo s fd ⟨[v, w, u, z], []⟩ [("a", v), ("x", w), ("lo", u), ("hi", z), ("key", .none)]
noncomputable def keyV (e : DictEntry) : Bool := (match e.key with | .str x _ => x == "key" | _ => false) && (match e.val with | .none => true | _ => false)
noncomputable def keyO (d : Data) : Bool := match d with
  | .dict es _ => match es.toList with
    | [] => false
    | e :: r => match r with
      | [] => keyV e
      | _ :: _ => false
  | _ => false
noncomputable def kdK (K : Frag) (T : Addr) : Bool := match K.lookup T with
  | some o => keyO o.data
  | none => false
theorem keyV_of {e : DictEntry} (h : keyV e = true) : (∃ t, e.key = .str "key" t) ∧ e.val = .none := by
  obtain ⟨hh, k, v⟩ := e
  obtain ⟨e1, e2⟩ := Bool.and_eq_true_iff.mp h
  constructor
  · cases k with
    | str x t => exact ⟨t, by rw [show x = "key" from eq_of_beq e1]⟩
    | _ => (first | exact ns e1 | exact nb e1 | obtain rfl := si e1 | cases e1)
  · cases v with
    | none => rfl
    | _ => (first | exact ns e2 | exact nb e2 | obtain rfl := si e2 | cases e2)
theorem keyO_of {d : Data} (h : keyO d = true) : ∃ es m e, d = .dict es m ∧ es.toList = [e] ∧ keyV e = true := by
  cases d with
  | dict es m =>
    have h : (match es.toList with | [] => false | e :: r => (match r with | [] => keyV e | _ :: _ => false)) = true := h
    rcases he : es.toList with _ | ⟨e, _ | ⟨_, _⟩⟩
    · rw [he] at h; (first | exact ns h | exact nb h | obtain rfl := si h | cases h)
    · rw [he] at h; exact ⟨es, m, e, rfl, he, h⟩
    · rw [he] at h; (first | exact ns h | exact nb h | obtain rfl := si h | cases h)
  | _ => (first | exact ns h | exact nb h | obtain rfl := si h | cases h)
theorem kd_of {K : Frag} {h : Heap} {T : Addr} (X : K.In h) (e : kdK K T = true) : ∃ o es m e t, h.get? T = some o ∧ o.data = .dict es m ∧ es.toList = [e] ∧ e.key = .str "key" t ∧ e.val = .none := by
  have e : (match K.lookup T with | some o => keyO o.data | none => false) = true := e
  cases ho : K.lookup T with
  | none => rw [ho] at e; (first | exact ns e | exact nb e | obtain rfl := si e | cases e)
  | some o =>
    rw [ho] at e
    obtain ⟨es, m, en, hd, hes, hv⟩ := keyO_of e
    obtain ⟨⟨t, hk⟩, hv⟩ := keyV_of hv
    exact ⟨o, es, m, en, t, X _ _ ho, hd, hes, hk, hv⟩
theorem kd_ns {K : Frag} {h : Heap} {T : Addr} (X : K.In h) (e : kdK K T = true) : ∃ m, h.Ns T m ∧ m "key" = some .none := by
  obtain ⟨o, es, m, e, t, h2, h3, h4, h5, h6⟩ := kd_of X e
  have hes : es = #[e] := by rw [← Array.toList_inj]; exact h4
  subst hes
  refine ⟨fun x => nsFind #[e] x, ⟨o, _, m, h2, h3, fun e' he => ?_, fun _ => rfl⟩, ?_⟩
  · simp only [List.mem_toArray, List.mem_singleton] at he
    subst he; exact ⟨_, _, h5⟩
  · simp [nsFind, findBy, h5, h6, Value.isStr]
theorem binds_of {K : Frag} (X : K.In C.h₀) (hk : ∀ b o, C.h₀.get? b = some o → s.heap.get? b = some o) {fd : FuncData} {args : Args} {binds : List (Str × Value)} {T D : Addr} {o : Obj} {vs : Array Value} {m : Nat} {k : Option (Array Value) → Sem (List (Str × Value))} {α β : Type} {g : Option Value → Sem α} {p : α → Sem β} {r : β → Sem (List (Str × Value))} {x : α} {y : β}
    (h1 : bindArgs fd args = seqItems? (.ref T) >>= k) (ho : K.lookup T = some o) (hd : o.data = .seq vs m) (h2 : k (some vs) = ((nsGet D "key" >>= g) >>= p) >>= r) (hkd : kdK K D = true) (h3 : g (some .none) = pure x) (h4 : p x = pure y) (h5 : r y = pure binds) : BindsTo s fd args binds := fun _ _ _ _ hq => by
  rw [h1]
  refine wpAny_bind (wpAny_seqItems (hk _ _ (X _ _ ho)) hd ?_)
  rw [h2]
  obtain ⟨mm, hn, e⟩ := kd_ns X hkd
  refine wpAny_bind (wpAny_bind (wpAny_bind (wpAny_nsGet (hn.keeps hk) ?_)))
  rw [e, h3]
  refine wpAny_pure ?_
  rw [h4]
  refine wpAny_pure ?_
  rw [h5]
  exact wpAny_pure hq
end Ev
set_option maxRecDepth 10000
namespace Ev
open PySem PySem.W PySem.Spec PySem.Calls PyProof.Rows PySem.SeqAt
variable {C : Cx} {n : Nat} {sc : Scope} {A : Around} {env : Env} {base : Fz} {low : Fz} {F F' : Fz} {s s' : Shared} {σ : St}
/-! the text's defs -/
noncomputable def defAt (p : Program) (i : Nat) : Stmt := p.main.body.getD i (.Pass ⟨0, 0, 0, 0⟩)
noncomputable def bodyS : Stmt → List Stmt
  | .FunctionDef _ _ b _ _ _ _ _ _ _ => b
  | _ => []
noncomputable def scopeS : Stmt → Scope
  | .FunctionDef _ _ _ _ _ _ s _ _ _ => s
  | _ => { kind := .function, names := [], isGenerator := false, isCoroutine := false }
noncomputable def paramS : Stmt → Arguments
  | .FunctionDef _ a _ _ _ _ _ _ _ _ => a
  | _ => { posonlyargs := [], args := [], vararg := none, kwonlyargs := [], kw_defaults := [], kwarg := none, defaults := [] }
noncomputable def nameS : Stmt → Str
  | .FunctionDef x _ _ _ _ _ _ _ _ _ => x
  | _ => ""
noncomputable def nodupB : List Str → Bool
  | [] => true
  | x :: r => !r.contains x && nodupB r
theorem nodupB_ok : ∀ {l : List Str}, nodupB l = true → l.Nodup
  | [], _ => List.nodup_nil
  | x :: r, h => by
    simp only [nodupB, Bool.and_eq_true, Bool.not_eq_true'] at h
    refine List.nodup_cons.mpr ⟨fun m => ?_, nodupB_ok h.2⟩
    have := List.elem_eq_true_of_mem m
    have h1 := h.1
    unfold List.contains at h1
    rw [h1] at this; cases this
noncomputable def compB (outer : List Str) (sc scope : Scope) (names : List Str) (nt : Nat) (caps : List Nat) : Bool :=
  scope.kind == .function && (nodupB names && (nodupB (scope.names.map (·.1)) && (scope.names.all (fun x => x.2 != .free || (sc.names.lookup x.1 == some .cell && outer.contains x.1)) && ((caps.map fun i => outer[i]?) == (names.drop nt).map some &&
    (names.drop nt).all fun y => scope.names.lookup y == some .free))))
theorem CompOk.of {scope : Scope} {names : List Str} {nt : Nat} {caps : List Nat} (h : compB C.names sc scope names nt caps = true) : CompOk C sc scope names nt caps := by
  unfold compB at h
  simp only [Bool.and_eq_true] at h
  obtain ⟨h1, h2, h3, h4, h5, h6⟩ := h
  refine ⟨by simpa using h1, nodupB_ok h2, nodupB_ok h3, fun x hx e => ?_, by simpa using h5, fun y hy => by simpa using List.all_eq_true.mp h6 y hy⟩
  have := List.all_eq_true.mp h4 x hx
  rw [e] at this
  have h7 : (sc.names.lookup x.1 == some .cell && C.names.contains x.1) = true := by simpa using this
  simp only [Bool.and_eq_true] at h7
  exact ⟨by simpa using h7.1, by simpa using h7.2⟩
noncomputable def frzC (i : Nat) (f : Sm) : Sm := fun σ => match f σ with
  | some (.next, σ') => match sget σ' i with
    | some (true, d) => some (.next, σ'.set i (some (false, d)))
    | _ => none
  | r => r
theorem SndS.frz {i : Nat} {st : Stmt} {f : Sm} (hi : i < C.names.length) (h : SndS C n sc st f) : SndS C n sc st (frzC i f) := fun {A env base F s σ r} X hf => by
  unfold frzC at hf
  cases e : f σ with
  | none => rw [e] at hf; (first | exact ns hf | exact nb hf | obtain rfl := si hf | cases hf)
  | some r1 =>
    obtain ⟨fl, σ1⟩ := r1
    rw [e] at hf
    cases fl with
    | next =>
      dsimp only at hf
      split at hf
      · rename_i d e1
        (first | exact ns hf | exact nb hf | obtain rfl := si hf | cases hf)
        refine wp_mono (h X e) fun fl s1 p => ?_
        obtain ⟨rfl, F1, r1, X1⟩ := p
        obtain ⟨F2, r2, X2⟩ := X1.freeze e1 hi
        exact ⟨rfl, F2, r1.trans r2, X2⟩
      · (first | exact ns hf | exact nb hf | obtain rfl := si hf | cases hf)
    | ret d =>
      (first | exact ns hf | exact nb hf | obtain rfl := si hf | cases hf)
      exact h X e
end Ev
set_option maxRecDepth 10000
namespace Ev
open PySem PySem.W PySem.Spec PySem.Calls PyProof.Rows PySem.SeqAt
variable {C : Cx} {n : Nat} {sc : Scope} {A : Around} {env : Env} {base : Fz} {low : Fz} {F F' : Fz} {s s' : Shared} {σ : St}
noncomputable def intOnly (g : List PyData → Option PyData) : List PyData → Option PyData := fun ds => match g ds with
  | some (.int i) => some (.int i)
  | _ => none
theorem FnOk.ints {fa : Addr} {g : List PyData → Option PyData} (h : FnOk C n fa g) : FnB C n fa (intOnly g) := by
  refine FnOk.toB (fun {A F s vs ds d} hr hk hs r e => ?_) fun ds d e => ?_
  · unfold intOnly at e
    split at e
    · rename_i i e'
      (first | exact ns e | exact nb e | obtain rfl := si e | cases e)
      exact h hr hk hs r e'
    · (first | exact ns e | exact nb e | obtain rfl := si e | cases e)
  · unfold intOnly at e
    split at e
    · (first | exact ns e | exact nb e | obtain rfl := si e | cases e); exact ⟨_, rfl⟩
    · (first | exact ns e | exact nb e | obtain rfl := si e | cases e)
noncomputable def retT (d : PyData) : Bool := match d with
  | .bool b => b
  | _ => false
noncomputable def resT (r : Option (Fl × St)) : Bool := match r with
  | some (fl, _) => match fl with
    | .ret d => retT d
    | _ => false
  | none => false
theorem resT_ret {fl : Fl} {σ : St} (h : resT (some (fl, σ)) = true) : fl = .ret (.bool true) := by
  cases fl with
  | ret d => cases d with
    | bool b => have h : b = true := h; rw [h]
    | _ => (first | exact ns h | exact nb h | obtain rfl := si h | cases h)
  | _ => (first | exact ns h | exact nb h | obtain rfl := si h | cases h)
theorem inter_ok : ∀ env : Env, env.scope.kind = .function → interactive env = false := by intro env h; simp [interactive, h]
noncomputable def kindsB (sc : Scope) (ps : List Str) : Bool := ps.all fun x => sc.names.lookup x == some .local || sc.names.lookup x == some .cell
theorem kinds_ok {ps : List Str} (h : kindsB sc ps = true) : ∀ x ∈ ps, sc.names.lookup x = some .local ∨ sc.names.lookup x = some .cell := fun x m => by
  have := List.all_eq_true.mp h x m
  simpa using this
noncomputable abbrev tg1 (i : Nat) : PyData → St → Option St := fun d σ => some (σ.set i (some (false, d)))
noncomputable abbrev tgN (is : List Nat) : PyData → St → Option St := fun d σ => match unpD is.length d with | some ds => storeD is (ds.map fun d => (false, d)) σ | none => none
theorem all1 {α : Type} {P : List α → Prop} (h : ∀ a, P [a]) : ∀ {l : List α}, l.length = 1 → P l := fun {l} e => by
  cases l with | nil => cases e | cons a l => cases l with | nil => exact h a | cons => (first | exact ns e | exact nb e | obtain rfl := si e | cases e)
theorem all2 {α : Type} {P : List α → Prop} (h : ∀ a b, P [a, b]) : ∀ {l : List α}, l.length = 2 → P l := fun {l} e => by
  cases l with | nil => cases e | cons a l => exact all1 (P := fun l => P (a :: l)) (h a) (Nat.succ.inj e)
theorem all3 {α : Type} {P : List α → Prop} (h : ∀ a b c, P [a, b, c]) : ∀ {l : List α}, l.length = 3 → P l := fun {l} e => by
  cases l with | nil => cases e | cons a l => exact all2 (P := fun l => P (a :: l)) (h a) (Nat.succ.inj e)
theorem all4 {α : Type} {P : List α → Prop} (h : ∀ a b c d, P [a, b, c, d]) : ∀ {l : List α}, l.length = 4 → P l := fun {l} e => by
  cases l with | nil => cases e | cons a l => exact all3 (P := fun l => P (a :: l)) (h a) (Nat.succ.inj e)
end Ev
set_option maxRecDepth 10000
namespace Ev
open PySem PySem.W PySem.Spec PySem.Calls PyProof.Rows PySem.SeqAt
variable {C : Cx} {n : Nat} {sc : Scope} {A : Around} {env : Env} {base : Fz} {low : Fz} {F F' : Fz} {s s' : Shared} {σ : Ev.St}
/-! what the head's heap shows -/
noncomputable def globK (K : Frag) (x : Str) : Option (Option Value) := match K.lookup mainGlobals with
  | some o => match o.data with
    | .dict es _ => some ((es.toList.find? fun e => e.key.isStr x).map (·.val))
    | _ => none
  | none => none
theorem glob_of {K : Frag} {h : Heap} {mg : Str → Option Value} {x : Str} {r : Option Value} (X : K.In h) (g : h.Ns mainGlobals mg) (e : globK K x = some r) : mg x = r := by
  unfold globK at e
  cases q : K.lookup mainGlobals with
  | none => rw [q] at e; (first | exact ns e | exact nb e | obtain rfl := si e | cases e)
  | some o =>
    rw [q] at e
    dsimp only at e
    split at e
    · rename_i es ep hd
      obtain ⟨o', es', ep', ho', hd', _, hm⟩ := g
      rw [X _ _ q] at ho'; cases ho'
      rw [hd] at hd'; cases hd'
      rw [← hm x, ← Option.some.inj e]
      unfold nsFind findBy
      rw [Array.find?_toList]
    · (first | exact ns e | exact nb e | obtain rfl := si e | cases e)
theorem DefAt.ofK {K : Frag} {fa : Addr} {o : Obj} {fd : FuncData} {body : List Stmt} (X : K.In C.h₀) (ho : K.lookup fa = some o) (hd : o.data = .func fd) (hc : codeIn K fd.code fd.qualname = true) (hb : fd.body = .stmts body) (h1 : fd.closure = []) (h2 : fd.globals = mainGlobals) (h3 : fd.builtins = builtinsNs)
    (h4 : (!fd.scope.isCoroutine && !fd.scope.isGenerator && fd.scope.kind == .function && nodupB (fd.scope.names.map (·.1)) && fd.scope.names.all fun x => x.2 != .free) = true) : DefAt C fa fd body := by
  simp only [Bool.and_eq_true, Bool.not_eq_true'] at h4
  obtain ⟨⟨⟨⟨h5, h6⟩, h7⟩, h8⟩, h9⟩ := h4
  refine ⟨⟨o, X _ _ ho, hd⟩, codeRec_of X hc, hb, h1, h2, h3, h5, h6, by simpa using h7, nodupB_ok h8, fun x hx e => ?_⟩
  have := List.all_eq_true.mp h9 x hx
  rw [e] at this; simp at this
theorem call_frameC {fa : Addr} {fd : FuncData} {body : List Stmt} {vs : List Value} {binds : List (Str × Value)} {Q : Value → Shared → Prop} (D : DefAt C fa fd body) (hr : A.depth < recursionLimit) (hk : ∀ b o, C.h₀.get? b = some o → s.heap.get? b = some o) (hlim : C.h₀.NoLimit)
    (hb : BindsTo s fd ⟨vs, []⟩ binds) (hkind : ∀ x ∈ binds, fd.scope.names.lookup x.1 = some .local ∨ fd.scope.names.lookup x.1 = some .cell)
    (h : ∀ s₁, InCallC s (callEnvC fd s.heap.objs.size fa).locals (bindL (callEnvC fd s.heap.objs.size fa).kindOf binds fun _ => none) (callEnvC fd s.heap.objs.size fa).cells
        (bindC (callEnvC fd s.heap.objs.size fa).kindOf binds fun _ => none) s₁ →
      Wp C (A.deeper (callEnvC fd s.heap.objs.size fa)) (execs body (callEnvC fd s.heap.objs.size fa)) (fun f s' => Q (match f with | .ret v => v | _ => .none) s') s₁) :
    codeAny (model C.prog C.w) A (.call (.ref fa) ⟨vs, []⟩) (fun r s' => ∃ v, r = .ok (.ret v) ∧ Q v s') s := by
  obtain ⟨o, ho, hd⟩ := D.obj
  refine codeAny_call_function hr (hk _ _ ho) hd D.co D.gen D.body (D.code.keeps hk) (hb _ _ _ _ ?_)
  rw [D.clo]
  refine wpAny_newFunctionEnv_cells D.kind (fun x hx => (hkind x hx).imp id fun q => ⟨q, ?_⟩) fun env he s' x => ?_
  · obtain ⟨c, hc⟩ := cellsFrom_has (k := s.heap.objs.size + 1) (mem_of_lookup q)
    obtain ⟨c', hc'⟩ := lookup_of_mem hc
    rw [hc']; rfl
  · subst he
    refine ⟨(hlim.keeps hk).keeps x.toInCall.keep, codeAny_func (wpAny_mono (h s' x) (fun f s2 q => ?_) fun _ _ e => e.elim)⟩
    exact ⟨_, rfl, q⟩
theorem ints_rl {H : PyData → Int} : ∀ {vs : List Value} {is : List Int}, IntsAre vs is → RL H F vs (is.map .int)
  | _, _, .nil => .nil
  | _, _, .cons _ _ h => .cons (.int _ _) (ints_rl h)
theorem law_main {fa l : Addr} {fd : FuncData} {body : List Stmt} {names rest : List Str} {x : Str} {vs : List Value} {is : List Int} {f : Sm} {k : Nat} (D : DefAt C fa fd body) (hok : C.Ok) (hh : C.h₀ = s.heap)
    (hbind : ∀ v, BindsTo s fd ⟨[v], []⟩ [(x, v)]) (hn : names = x :: rest) (hnd : nodupB names = true) (hkind : kindsB fd.scope [x] = true) (hb : SndSs (C.fn names Option.none) n fd.scope body f)
    (hr : Room (n + 1) A) (hl : s.heap.get? l = some (seqObj "list" vs.toArray 0)) (hi : IntsAre vs is) (hT : resT (f (stOf [(false, .list (is.map .int))] k)) = true) :
    codeAny (model C.prog C.w) A (.call (.ref fa) ⟨[.ref l], []⟩) (fun r s' => r = .ok (.ret (.bool true)) ∧ (∀ b o, s.heap.get? b = some o → s'.heap.get? b = some o) ∧ s'.os = s.os ∧ s'.gens = s.gens) s := by
  have hk : ∀ b o, C.h₀.get? b = some o → s.heap.get? b = some o := fun b o e => hh ▸ e
  refine codeAny_mono (call_frameC (Q := fun v s' => v = .bool true ∧ (∀ b o, s.heap.get? b = some o → s'.heap.get? b = some o) ∧ s'.os = s.os ∧ s'.gens = s.gens) D (by have := hr.dep; omega) hk hok.lim (hbind _) (fun y hy => kinds_ok hkind y.1 (by simp at hy; subst hy; simp)) fun s₁ X1 => ?_) fun r s' ⟨v, e, q⟩ => ?_
  · have P : Pa C.H (fun a => s.heap.get? a) (fun a => s.heap.get? a) s.heap [.ref l] [(false, .list (is.map .int))] [] := .fz (.list hl (ints_rl hi)) .nil
    have X := frame_ct (k := k) (base := fun a => s.heap.get? a) (F := fun a => s.heap.get? a) (pin := Option.none) (ps := [x]) (rest := rest) (names := names) D hok hr (fun _ _ e => e) (fun _ _ e => e) hk hn (nodupB_ok hnd) rfl (kinds_ok hkind) P (fun _ _ e => nomatch e) X1
    have : ∃ σ', f (stOf [(false, .list (is.map .int))] k) = some (.ret (.bool true), σ') := by
      rcases e : f (stOf [(false, .list (is.map .int))] k) with _ | ⟨fl, σ'⟩
      · rw [e] at hT; (first | exact ns hT | exact nb hT | obtain rfl := si hT | cases hT)
      · rw [e] at hT
        have := resT_ret hT
        subst this
        exact ⟨σ', rfl⟩
    obtain ⟨σ', e⟩ := this
    refine wp_mono (hb X e) fun fl s2 p => ?_
    obtain ⟨v, rfl, F2, r2, rv, kp, sa⟩ := p
    obtain ⟨h1, tk, hs1, _⟩ := X1.done
    subst hs1
    exact ⟨rv.toBool, kp, r2.2.2.os, r2.2.2.gens⟩
  · obtain ⟨q1, q2⟩ := q
    subst q1
    exact ⟨e, q2⟩
theorem ints_of_well {P : Params} {h : Heap} : ∀ {is : List Int} {vs : List Value}, WellAll P h vs (ofPys (is.map .int)) → IntsAre vs is
  | [], _, w => by cases w; exact .nil
  | i :: is, _, w => by
    simp only [List.map_cons, ofPys, ofPy] at w
    cases w with
    | cons a b => cases a; exact .cons _ _ (ints_of_well b)
theorem well_ints {P : Params} {h : Heap} {l : Addr} {is : List Int} (w : Well P h (.ref l) (ofPy (.list (is.map .int)))) : ∃ vs, h.get? l = some (seqObj "list" vs.toArray 0) ∧ IntsAre vs is := by
  simp only [ofPy] at w
  cases w with
  | list hl wl => exact ⟨_, hl, ints_of_well wl⟩
end Ev
set_option maxRecDepth 10000
namespace Ev
open PySem PySem.W PySem.Spec PySem.Calls PyProof.Rows PySem.SeqAt
variable {C : Cx} {n : Nat} {sc : Scope} {A : Around} {env : Env} {base : Fz} {low : Fz} {F F' : Fz} {s s' : Shared} {σ : Ev.St}
/-! a list, k times -/
noncomputable def repC (f : Ev.St → Option PyData) (k : Nat) : Ev.St → Option PyData := fun σ => match f σ with
  | some (.list ds) => if decide (ds.length * k ≤ 4096) && decide (k ≤ 4096) then some (.list (List.replicate (if ds.isEmpty then 0 else k) ds).flatten) else none
  | _ => none
theorem rl_rep {H : PyData → Int} {vs : List Value} {ds : List PyData} (r : RL H F vs ds) : ∀ k, RL H F (List.replicate k vs).flatten (List.replicate k ds).flatten
  | 0 => .nil
  | k + 1 => by
    rw [List.replicate_succ, List.replicate_succ, List.flatten_cons, List.flatten_cons]
    exact r.append (rl_rep r k)
theorem foldl_app (k : Nat) (xs acc : Array Value) : (List.foldl (fun x1 x2 => x1 ++ x2) acc (List.replicate k xs)).toList = acc.toList ++ (List.replicate k xs.toList).flatten := by
  induction k generalizing acc with
  | zero => simp
  | succ k ih => rw [List.replicate_succ, List.foldl_cons, ih, List.replicate_succ]; simp
theorem Snd.rep {a : Expr} {i : Int} {kk : Nat} {p pos : Pos} {f : Ev.St → Option PyData} (ha : SndB C n sc a f) (hi : 0 ≤ i) : Snd C n sc (.BinOp a .Mult (.Constant (.int i) kk p) pos) (repC f i.toNat) := fun {A env base low F s σ d} X hf => by
  unfold repC at hf
  split at hf
  · rename_i ds e1
    split at hf
    · rename_i hk
      (first | exact ns hf | exact nb hf | obtain rfl := si hf | cases hf)
      simp only [Bool.and_eq_true, decide_eq_true_eq] at hk
      refine wpAny_BinOp (wp_mono (ha X e1) fun v1 s1 ⟨F1, g1, r1⟩ => wpAny_Constant_int ?_)
      have g2 : Grow F s F1 { s1 with toks := s1.toks + 1 } := g1.trans (.tok g1.sat _)
      obtain ⟨l, items, m, rfl, hl, rl⟩ := r1.list g1.sat
      have hsz := rl_arr rl
      refine wpAny_binaryOp_repeat_ref (s := { s1 with toks := s1.toks + 1 }) (T := "list") (U := "int") (by decide) ⟨_, hl, rfl⟩ (fun s' => typeIs_int s' i _) noFill_list_mul PySem.F.fills_int_mul PySem.F.slot_int_rmul repeat_list PySem.F.slot_int_index.lookup
        (call_meets PySem.F.slot_int_rmul (typeIs_int _ i _) PySem.F.entry_int_rmul (PySem.F.args_int_rmul_2 _ _) (int___rmul___int_list i _ l items m)
          ⟨hl, rfl, ⟨_, hl, rfl⟩, call_meets PySem.F.slot_list_mul ⟨_, hl, rfl⟩ PySem.F.entry_list_mul (PySem.F.args_list_mul_2 _ _)
            (AutoListH.list___mul___list_int_3 l items m i _ (by simp [Builtin.List.listFitsIndex]; omega) (by rw [hsz]; omega) (by rw [hsz]; simp [Builtin.List.listTooLong, sizeLine]; omega)) ⟨hl, ?_⟩⟩)
      have hsat : Sat F1 ({ s1 with toks := s1.toks + 1 } : Shared).heap := g1.sat
      refine ⟨_, g2.trans (Grow.push hsat (seqObj "list" _ 0) rfl), .list (put_self ..) ?_⟩
      rw [foldl_app]
      have he : items.isEmpty = ds.isEmpty := by
        unfold Array.isEmpty
        rw [hsz]
        cases ds <;> rfl
      simp only [List.nil_append, he]
      exact (rl_rep rl _).mono (put_sub (sat_fresh hsat (get_size _)))
    · (first | exact ns hf | exact nb hf | obtain rfl := si hf | cases hf)
  · (first | exact ns hf | exact nb hf | obtain rfl := si hf | cases hf)
/-! d.get(k, x) -/
noncomputable def getG (d k x : PyData) : Option PyData := match d with
  | .dict kvs => if okKey kvs k then some ((lookK kvs k).getD x) else none
  | _ => none
noncomputable def getC (f g h : Ev.St → Option PyData) : Ev.St → Option PyData := fun σ => match f σ with
  | some a => match g σ with
    | some b => match h σ with
      | some c => getG a b c
      | none => none
    | none => none
  | none => none
theorem get_wp {dv key x : Value} {kvs : List (PyData × PyData)} {k d : PyData} {Q : Value → Shared → Prop} {E : Value → Shared → Prop} (hH : ∀ d, C.H d = hashK C.w d) (hu : A.units + 400 < cLine) (hs : Sat F s.heap) (b : Bw C.H F s.heap dv (.dict kvs)) (rk : R C.H F key k) (rx : R C.H F x d) (hk : okKey kvs k = true)
    (h : ∀ t v, R C.H F v ((lookK kvs k).getD d) → Q v { s with toks := t }) : wpAny (model C.prog C.w) A (call (.builtin "dict.get") [dv, key, x]) Q E s := by
  obtain ⟨a, o, es, m, kd, rfl, hsm, ho, hx, hd, r, hn⟩ := b.dictIs hs
  have hT : s.TypeIs (.ref a) "dict" := ⟨o, ho, hx.1⟩
  refine wpAny_call_entry PySem.F.slot_dict_get hT PySem.F.entry_dict_get ?_ (PySem.F.args_dict_get_3 _ _ _)
  show wpAny _ _ (dictGet a key >>= _) _ _ s
  refine wpAny_bind (dget_wp hH (by show A.units + 1 + 100 < _; omega) hs ho hd r hn rk hk fun t ov hov => ?_)
  cases hf : lookK kvs k with
  | some v =>
    rw [hf] at h hov
    obtain ⟨v', rfl, rv⟩ := hov
    exact wpAny_pure ⟨_, rfl, h t v' rv⟩
  | none =>
    rw [hf] at h hov
    subst hov
    refine wpAny_bind (wpAny_missed_other hsm ?_)
    exact wpAny_pure ⟨_, rfl, h t x rx⟩
theorem Snd.getD {o e1 e2 : Expr} {apos cpos : Pos} {f g h : Ev.St → Option PyData} (h0 : SndB C n sc o f) (h1 : Snd C n sc e1 g) (h2 : Snd C n sc e2 h) (hst : ∀ env, starEach [e1, e2] env = (false, eval e1 env) :: starEach [e2] env := by intro _; rfl) (hst2 : ∀ env, starEach [e2] env = (false, eval e2 env) :: starEach [] env := by intro _; rfl) (hpl : ∀ env, (backTo cpos (starEach [e2] env)).any (·.1) = false := by intro _; rfl)
    (hbase : ∀ env, attributeBase o "get" env (eval o env) = eval o env := by intro _; rfl) (hline : (apos.endLine == cpos.line) = true := by rfl) :
    Snd C n sc (.Call (.Attribute o "get" apos) [e1, e2] [] cpos) (getC f g h) := fun {A env base low F s σ d} X hf => by
  unfold getC at hf
  rcases q1 : f σ with _ | a
  · rw [q1] at hf; (first | exact ns hf | exact nb hf | obtain rfl := si hf | cases hf)
  rcases q2 : g σ with _ | b
  · rw [q1, q2] at hf; (first | exact ns hf | exact nb hf | obtain rfl := si hf | cases hf)
  rcases q3 : h σ with _ | c
  · rw [q1, q2, q3] at hf; (first | exact ns hf | exact nb hf | obtain rfl := si hf | cases hf)
  rw [q1, q2, q3] at hf
  cases a with
  | dict kvs =>
    obtain ⟨hk, hf⟩ := ite_some hf
    (first | exact ns hf | exact nb hf | obtain rfl := si hf | cases hf)
    refine wpAny_Call_method (T := "dict") (id := "dict.get") (hbase env) (by rw [hst, hst2]; rfl) hline PySem.F.plainAttrs_dict PySem.F.slot_dict_get PySem.F.type_dict_get (wp_mono (h0 X q1) fun v0 s0 ⟨F0, g0, r0⟩ => ?_)
    obtain ⟨da, o', es, m, kd, rfl, hsm, ho, hx, hd, r, hn⟩ := r0.dictIs g0.sat
    refine ⟨⟨_, ho, hx.1⟩, fun c e => by (first | exact ns e | exact nb e | obtain rfl := si e | cases e); exact ⟨_, ho, hx.2.1⟩, ?_⟩
    have X0 := X.grow g0
    refine PyProof.Rows.callWith_method1 (args_cons (wp_mono (h1 X0 q2) fun v1 s1 ⟨F1, g1, r1⟩ => args_cons (wp_mono (h2 (X0.grow g1) q3) fun v2 s2 ⟨F2, g2, r2⟩ => args_nil ?_) (hst2 env)) (hst env)) (hst env) (hpl env)
    have g12 := g1.trans g2
    refine get_wp X.ok.hH X.room.in1 g2.sat (r0.grow g12) (r1.mono g2.sub) r2 hk fun t v rv => ?_
    exact ⟨F2, (g0.trans g12).trans (.tok g2.sat t), rv⟩
  | _ => (first | exact ns hf | exact nb hf | obtain rfl := si hf | cases hf)
end Ev
set_option maxRecDepth 10000
namespace Ev
open PySem PySem.W PySem.Spec PySem.Calls PyProof.Rows PySem.SeqAt
section
variable {prog : Program} {w : World} {A : Around} {E : Value → Shared → Prop} {s : Shared}
/-! the next item of a tuple's iterator, as zip draws it -/
theorem tnext_at {it t : Addr} {i : Nat} {items : Array Value} {Q : Value → Shared → Prop} (hit : s.heap.IsTupleIter it t i) (ht : s.heap.IsTuple t items)
    (h : wpAny (model prog w) A.in1 (Builtin.«tuple_iterator.__next__» ⟨[.ref it], []⟩) (fun fin s' => ∃ v, fin = .done (.ret v) ∧ Q v s') E s) : wpAny (model prog w) A (Builtin.SmallTypes.nextOf (.ref it)) Q E s := by
  unfold Builtin.SmallTypes.nextOf
  refine wpAny_bind (wpAny_callSpecial?_slot (name := Str.ofString "__next__") hit.typeIs PySem.F.slot_tuple_iterator_next
    (wpAny_call_entry PySem.F.slot_tuple_iterator_next hit.typeIs PySem.F.entry_tuple_iterator_next (wpAny_mono h (fun fin s' ⟨v, e, q⟩ => ⟨v, e, wpAny_pure q⟩) fun _ _ e => e) (PySem.F.args_tuple_iterator_next_1 _)))
theorem tnext_item {it t : Addr} {i : Nat} {items : Array Value} {x : Value} {Q : Value → Shared → Prop} (hit : s.heap.IsTupleIter it t i) (ht : s.heap.IsTuple t items) (hx : items[i]? = some x)
    (hQ : ∀ h', h'.IsTupleIter it t (i + 1) → Heap.SameBut it s.heap h' → Q x { s with heap := h' }) : wpAny (model prog w) A (Builtin.SmallTypes.nextOf (.ref it)) Q E s := by
  refine tnext_at hit ht ?_
  obtain ⟨o, ho, hc, hd⟩ := id hit
  obtain ⟨ot, hot, _, m, hdt⟩ := ht
  show wpAny _ _ (field (.ref it) 0 >>= _) _ _ s
  refine wpAny_bind (wpAny_field ho hd (x := .ref t) rfl ?_)
  show wpAny _ _ (if (Value.ref t == Value.none) = true then _ else _) _ _ s
  first | with_reducible refine w_neg (show ¬ ((Value.ref t == Value.none) = true) from Bool.false_ne_true) ?_ | with_reducible refine wb_neg (show ¬ ((Value.ref t == Value.none) = true) from Bool.false_ne_true) ?_ | rw [if_neg (show ¬ ((Value.ref t == Value.none) = true) from Bool.false_ne_true)]
  refine wpAny_bind (wpAny_field ho hd (x := .int i 0) rfl (wpAny_bind (wpAny_seqItems hot hdt ?_)))
  simp only [Int.toNat_natCast, hx]
  refine wpAny_bind (wpAny_setField ho hd (by simp) (wpAny_pure ⟨x, rfl, hQ _ ⟨_, Heap.get?_update_self _ ho (Obj.isFreed_of_fields (Obj.data_mapFields hd _)), (Obj.cls_mapFields ..).trans hc, ?_⟩ (Heap.SameBut.update ..)⟩))
  rw [Obj.data_mapFields hd]; simp [rawInt]
theorem tnext_end {it t : Addr} {i : Nat} {items : Array Value} {Q : Value → Shared → Prop} (hh : A.handled = none) (hit : s.heap.IsTupleIter it t i) (ht : s.heap.IsTuple t items) (hx : items[i]? = none)
    (hE : ∀ h' e, Heap.ExtBut it s.heap h' → (∃ o, h'.get? e = some o ∧ o.cls = .type "StopIteration") → E (.ref e) { s with heap := h' }) : wpAny (model prog w) A (Builtin.SmallTypes.nextOf (.ref it)) Q E s := by
  refine tnext_at hit ht ?_
  obtain ⟨o, ho, hc, hd⟩ := id hit
  obtain ⟨ot, hot, _, m, hdt⟩ := ht
  show wpAny _ _ (field (.ref it) 0 >>= _) _ _ s
  refine wpAny_bind (wpAny_field ho hd (x := .ref t) rfl ?_)
  show wpAny _ _ (if (Value.ref t == Value.none) = true then _ else _) _ _ s
  first | with_reducible refine w_neg (show ¬ ((Value.ref t == Value.none) = true) from Bool.false_ne_true) ?_ | with_reducible refine wb_neg (show ¬ ((Value.ref t == Value.none) = true) from Bool.false_ne_true) ?_ | rw [if_neg (show ¬ ((Value.ref t == Value.none) = true) from Bool.false_ne_true)]
  refine wpAny_bind (wpAny_field ho hd (x := .int i 0) rfl (wpAny_bind (wpAny_seqItems hot hdt ?_)))
  simp only [Int.toNat_natCast, hx]
  refine wpAny_bind (wpAny_rule (wpAny_bind (wpAny_setField ho hd (by simp) ?_)))
  show wpAny _ _ (newExc (.type "StopIteration") [] >>= _) _ _ _
  refine wpAny_bind ?_
  simp only [newExc, newTuple]
  refine wpAny_bind (wpAny_newObj_type ?_ (by size_fits))
  refine wpAny_bind (m := firstArgMember _ _) (wpAny_of_eq (a := Value.none) (by first | rfl | (simp only [firstArgMember]; rfl)) ?_)
  refine wpAny_newObj_type ?_ (by size_fits)
  simp only [raiseNew]
  refine wpAny_bind (wpAny_handled ?_)
  rw [show A.in1.handled = none from hh]
  refine wpAny_bind (wpAny_pure (wpAny_throw ?_))
  exact hE _ _ (((Heap.SameBut.update ..).extBut.push _).push _) ⟨_, Heap.get?_push_size _ rfl, rfl⟩
end
end Ev
set_option maxRecDepth 10000
namespace Ev
open PySem PySem.W PySem.Spec PySem.Calls PyProof.Rows PySem.SeqAt
section
variable {prog : Program} {w : World} {A : Around} {E : Value → Shared → Prop} {s : Shared}
structure ZipT (z TI TO i1 i2 l1 l2 : Addr) (xs ys : Array Value) (k : Nat) (f0 : Value) (h : Heap) : Prop where
  z : IsZip h z TI TO f0
  ti : IsPair h TI (.ref i1) (.ref i2)
  out : ∃ a b, IsPair h TO a b
  i1 : h.IsTupleIter i1 l1 k
  i2 : h.IsTupleIter i2 l2 k
  l1 : h.IsTuple l1 xs
  l2 : h.IsTuple l2 ys
theorem ztup_item {z TI TO i1 i2 l1 l2 : Addr} {k : Nat} {xs ys : Array Value} {x y : Value} {Q : Value → Shared → Prop} (D : ZipApart z TI TO i1 i2 l1 l2) (S : ZipT z TI TO i1 i2 l1 l2 xs ys k .none s.heap) (hx : xs[k]? = some x) (hy : ys[k]? = some y)
    (hQ : ∀ h', ZipT z TI TO i1 i2 l1 l2 xs ys (k + 1) (rawInt s.heap.objs.size) h' → IsPair h' s.heap.objs.size x y → (∀ c o, c ≠ z → c ≠ TO → c ≠ i1 → c ≠ i2 → s.heap.get? c = some o → h'.get? c = some o) → Q (.ref s.heap.objs.size) { s with heap := h' }) :
    wpAny (model prog w) A (Builtin.«zip.__next__» ⟨[.ref z], []⟩) (fun fin s' => ∃ v, fin = .done (.ret v) ∧ Q v s') E s := by
  obtain ⟨hz, hTI, ⟨a, b, hTO⟩, h1, h2, hl1, hl2⟩ := S
  show wpAny _ _ (field (.ref z) 2 >>= _) _ _ _
  refine wpAny_bind (wpAny_field hz rfl (x := .bool false) rfl ?_)
  show wpAny _ _ (field (.ref z) 3 >>= _) _ _ _
  refine wpAny_bind (wpAny_field hz rfl (x := .ref TI) rfl (wpAny_bind (wpAny_seqItems hTI rfl ?_)))
  show wpAny _ _ (Builtin.SmallTypes.ownedTupleIsFree (.ref z) >>= _) _ _ _
  refine wpAny_bind ?_
  unfold Builtin.SmallTypes.ownedTupleIsFree
  refine wpAny_bind (wpAny_field hz rfl (x := .none) rfl (wpAny_pure ?_))
  first | with_reducible refine w_true ?_ | with_reducible refine wb_true ?_ | rw [if_pos rfl]
  refine wpAny_bind (wpAny_rule (wpAny_bind (wpAny_field hz rfl (x := .ref TO) rfl (wpAny_bind (wpAny_setField_rec hz (by simp) fun h₁ hz₁ hs₁ => ?_)))))
  replace hz₁ : IsZip h₁ z TI TO .ellipsis := hz₁
  refine wpAny_bind ?_
  simp only [List.zipIdx_cons, List.zipIdx_nil, List.forIn_cons, List.forIn_nil]
  refine wpAny_bind (wpAny_bind (wpAny_onRaise ?_))
  show wpAny _ _ (Builtin.SmallTypes.nextOf (.ref i1) >>= _) _ _ _
  refine wpAny_bind (tnext_item (h1.extBut hs₁.extBut D.i1z) (hl1.extBut hs₁.extBut D.l1z) hx fun h₂ h1₂ hs₂ => wpAny_pure ?_)
  have hTO₂ : IsPair h₂ TO a b := hs₂.extBut _ _ D.TOi1 (hs₁.extBut _ _ D.TOz hTO)
  refine wpAny_bind (wpAny_seqItems hTO₂ rfl (wpAny_bind (wpAny_updateSeq_pair hTO₂ fun h₃ hTO₃ hs₃ => wpAny_bind (wpAny_letGo (wpAny_pure ?_)))))
  replace hTO₃ : IsPair h₃ TO x b := hTO₃
  refine wpAny_bind (wpAny_bind (wpAny_onRaise ?_))
  show wpAny _ _ (Builtin.SmallTypes.nextOf (.ref i2) >>= _) _ _ _
  refine wpAny_bind (tnext_item (((h2.extBut hs₁.extBut D.i2z).extBut hs₂.extBut D.i12.symm).extBut hs₃.extBut D.TOi2.symm) (((hl2.extBut hs₁.extBut D.l2z).extBut hs₂.extBut D.l2i1).extBut hs₃.extBut D.l2TO) hy fun h₄ h2₄ hs₄ => wpAny_pure ?_)
  have hTO₄ : IsPair h₄ TO x b := hs₄.extBut _ _ D.TOi2 hTO₃
  refine wpAny_bind (wpAny_seqItems hTO₄ rfl (wpAny_bind (wpAny_updateSeq_pair hTO₄ fun h₅ hTO₅ hs₅ => wpAny_bind (wpAny_letGo (wpAny_pure (wpAny_pure ?_))))))
  replace hTO₅ : IsPair h₅ TO x y := hTO₅
  refine wpAny_bind (wpAny_seqItems hTO₅ rfl (wpAny_bind (wpAny_newTuple ?_)))
  have hsz : h₅.objs.size = s.heap.objs.size := by rw [hs₅.1, hs₄.1, hs₃.1, hs₂.1, hs₁.1]
  have hz₅ : IsZip h₅ z TI TO .ellipsis := hs₅.extBut _ _ D.TOz.symm (hs₄.extBut _ _ D.i2z.symm (hs₃.extBut _ _ D.TOz.symm (hs₂.extBut _ _ D.i1z.symm hz₁)))
  have kp : ∀ c o, c ≠ z → c ≠ TO → c ≠ i1 → c ≠ i2 → s.heap.get? c = some o → h₅.get? c = some o := fun c o c1 c2 c3 c4 e => hs₅.extBut _ _ c2 (hs₄.extBut _ _ c4 (hs₃.extBut _ _ c2 (hs₂.extBut _ _ c3 (hs₁.extBut _ _ c1 e))))
  have h1₅ : h₅.IsTupleIter i1 l1 (k + 1) := ((h1₂.extBut hs₃.extBut D.TOi1.symm).extBut hs₄.extBut D.i12).extBut hs₅.extBut D.TOi1.symm
  have h2₅ : h₅.IsTupleIter i2 l2 (k + 1) := h2₄.extBut hs₅.extBut D.TOi2.symm
  have hzlt : z < h₅.objs.size := Heap.lt_size hz₅
  show wpAny _ _ (Builtin.SmallTypes.ownedTupleHandOut (.ref z) (.ref h₅.objs.size) >>= _) _ _ _
  refine wpAny_bind ?_
  unfold Builtin.SmallTypes.ownedTupleHandOut
  have hz₆ : IsZip (h₅.push { cls := .type "tuple", data := .seq #[x, y] }) z TI TO .ellipsis := Heap.get?_push_of_some _ hz₅
  refine wpAny_bind (wpAny_setField_rec hz₆ (by simp) fun h₇ hz₇ hs₇ => ?_)
  replace hz₇ : IsZip h₇ z TI TO (rawInt h₅.objs.size) := hz₇
  refine wpAny_setField_rec hz₇ (by simp) fun h₈ hz₈ hs₈ => ?_
  replace hz₈ : IsZip h₈ z TI TO (rawInt h₅.objs.size) := hz₈
  have up : ∀ c o, c ≠ z → h₅.get? c = some o → h₈.get? c = some o := fun c o c1 e => hs₈.extBut _ _ c1 (hs₇.extBut _ _ c1 (Heap.get?_push_of_some _ e))
  have hT₈ : IsPair h₈ h₅.objs.size x y := hs₈.extBut _ _ (Nat.ne_of_gt hzlt) (hs₇.extBut _ _ (Nat.ne_of_gt hzlt) (Heap.get?_push_size _ rfl))
  rw [hsz] at hz₈ hT₈
  refine wpAny_pure ⟨_, rfl, ?_⟩
  show Q (.ref h₅.objs.size) _
  rw [hsz]
  exact hQ h₈ ⟨hz₈, up _ _ D.TIz (kp _ _ D.TIz D.TITO D.TIi1 D.TIi2 hTI), ⟨_, _, up _ _ D.TOz hTO₅⟩, h1₅.at fun o e => up _ o D.i1z e, h2₅.at fun o e => up _ o D.i2z e,
    let ⟨o, e, r⟩ := hl1; ⟨o, up _ _ D.l1z (kp _ _ D.l1z D.l1TO D.l1i1 D.l1i2 e), r⟩, let ⟨o, e, r⟩ := hl2; ⟨o, up _ _ D.l2z (kp _ _ D.l2z D.l2TO D.l2i1 D.l2i2 e), r⟩⟩ hT₈ fun c o c1 c2 c3 c4 e => up c o c1 (kp c o c1 c2 c3 c4 e)
theorem ztup_end {z TI TO i1 i2 l1 l2 : Addr} {k : Nat} {xs ys : Array Value} {Q : PySem.Fin → Shared → Prop} (hh : A.handled = none) (D : ZipApart z TI TO i1 i2 l1 l2) (S : ZipT z TI TO i1 i2 l1 l2 xs ys k .none s.heap) (hend : xs[k]? = none ∨ ys[k]? = none)
    (hE : ∀ h' e, (∀ c o, c ≠ z → c ≠ TO → c ≠ i1 → c ≠ i2 → s.heap.get? c = some o → h'.get? c = some o) → (∃ o, h'.get? e = some o ∧ o.cls = .type "StopIteration") → E (.ref e) { s with heap := h' }) :
    wpAny (model prog w) A (Builtin.«zip.__next__» ⟨[.ref z], []⟩) Q E s := by
  obtain ⟨hz, hTI, ⟨a, b, hTO⟩, h1, h2, hl1, hl2⟩ := S
  show wpAny _ _ (field (.ref z) 2 >>= _) _ _ _
  refine wpAny_bind (wpAny_field hz rfl (x := .bool false) rfl ?_)
  show wpAny _ _ (field (.ref z) 3 >>= _) _ _ _
  refine wpAny_bind (wpAny_field hz rfl (x := .ref TI) rfl (wpAny_bind (wpAny_seqItems hTI rfl ?_)))
  show wpAny _ _ (Builtin.SmallTypes.ownedTupleIsFree (.ref z) >>= _) _ _ _
  refine wpAny_bind ?_
  unfold Builtin.SmallTypes.ownedTupleIsFree
  refine wpAny_bind (wpAny_field hz rfl (x := .none) rfl (wpAny_pure ?_))
  first | with_reducible refine w_true ?_ | with_reducible refine wb_true ?_ | rw [if_pos rfl]
  refine wpAny_bind (wpAny_rule (wpAny_bind (wpAny_field hz rfl (x := .ref TO) rfl (wpAny_bind (wpAny_setField_rec hz (by simp) fun h₁ hz₁ hs₁ => ?_)))))
  replace hz₁ : IsZip h₁ z TI TO .ellipsis := hz₁
  refine wpAny_bind ?_
  simp only [List.zipIdx_cons, List.zipIdx_nil, List.forIn_cons, List.forIn_nil]
  refine wpAny_bind (wpAny_bind (wpAny_onRaise ?_))
  show wpAny _ _ (Builtin.SmallTypes.nextOf (.ref i1) >>= _) _ _ _
  cases hx : xs[k]? with
  | none =>
    refine wpAny_bind (tnext_end hh (h1.extBut hs₁.extBut D.i1z) (hl1.extBut hs₁.extBut D.l1z) hx fun h₂ e hs₂ ⟨oe, hoe, hce⟩ => ?_)
    have hz₂ : IsZip h₂ z TI TO .ellipsis := hs₂ _ _ D.i1z.symm hz₁
    have hez : e ≠ z := fun x => by subst x; rw [hz₂] at hoe; (first | exact ns hoe | exact nb hoe | obtain rfl := si hoe | cases hoe); simp at hce
    exact wpAny_setField_rec hz₂ (by simp) fun h₃ _ hs₃ => hE h₃ e (fun c o c1 _ c3 _ x => hs₃.extBut _ _ c1 (hs₂ _ _ c3 (hs₁.extBut _ _ c1 x))) ⟨oe, hs₃.extBut _ _ hez hoe, hce⟩
  | some x =>
    have hy : ys[k]? = none := by rcases hend with h | h; rw [hx] at h; (first | exact ns h | exact nb h | obtain rfl := si h | cases h); exact h
    refine wpAny_bind (tnext_item (h1.extBut hs₁.extBut D.i1z) (hl1.extBut hs₁.extBut D.l1z) hx fun h₂ h1₂ hs₂ => wpAny_pure ?_)
    have hTO₂ : IsPair h₂ TO a b := hs₂.extBut _ _ D.TOi1 (hs₁.extBut _ _ D.TOz hTO)
    refine wpAny_bind (wpAny_seqItems hTO₂ rfl (wpAny_bind (wpAny_updateSeq_pair hTO₂ fun h₃ hTO₃ hs₃ => wpAny_bind (wpAny_letGo (wpAny_pure ?_)))))
    refine wpAny_bind (wpAny_bind (wpAny_onRaise ?_))
    show wpAny _ _ (Builtin.SmallTypes.nextOf (.ref i2) >>= _) _ _ _
    refine wpAny_bind (tnext_end hh (((h2.extBut hs₁.extBut D.i2z).extBut hs₂.extBut D.i12.symm).extBut hs₃.extBut D.TOi2.symm) (((hl2.extBut hs₁.extBut D.l2z).extBut hs₂.extBut D.l2i1).extBut hs₃.extBut D.l2TO) hy fun h₄ e hs₄ ⟨oe, hoe, hce⟩ => ?_)
    have hz₄ : IsZip h₄ z TI TO .ellipsis := hs₄ _ _ D.i2z.symm (hs₃.extBut _ _ D.TOz.symm (hs₂.extBut _ _ D.i1z.symm hz₁))
    have hez : e ≠ z := fun x => by subst x; rw [hz₄] at hoe; (first | exact ns hoe | exact nb hoe | obtain rfl := si hoe | cases hoe); simp at hce
    exact wpAny_setField_rec hz₄ (by simp) fun h₅ _ hs₅ => hE h₅ e (fun c o c1 c2 c3 c4 x => hs₅.extBut _ _ c1 (hs₄ _ _ c4 (hs₃.extBut _ _ c2 (hs₂.extBut _ _ c3 (hs₁.extBut _ _ c1 x))))) ⟨oe, hs₅.extBut _ _ hez hoe, hce⟩
theorem zt_next {z TI TO i1 i2 l1 l2 : Addr} {k : Nat} {xs ys : Array Value} {x y : Value} {Q : Option Value → Shared → Prop} (D : ZipApart z TI TO i1 i2 l1 l2) (S : ZipT z TI TO i1 i2 l1 l2 xs ys k .none s.heap) (hx : xs[k]? = some x) (hy : ys[k]? = some y)
    (hQ : ∀ h', ZipT z TI TO i1 i2 l1 l2 xs ys (k + 1) (rawInt s.heap.objs.size) h' → IsPair h' s.heap.objs.size x y → (∀ c o, c ≠ z → c ≠ TO → c ≠ i1 → c ≠ i2 → s.heap.get? c = some o → h'.get? c = some o) → Q (some (.ref s.heap.objs.size)) { s with heap := h' }) :
    wpAny (model prog w) A (pyNext (.ref z)) Q E s := by
  have hT : s.TypeIs (.ref z) "zip" := ⟨_, S.z, rfl⟩
  unfold pyNext
  exact wpAny_bind (wpAny_attempt (wpAny_callSpecial?_slot (name := Str.ofString "__next__") hT PySem.F.slot_zip_next (wpAny_call_entry PySem.F.slot_zip_next hT PySem.F.entry_zip_next (ztup_item D S hx hy fun h' a1 a2 a3 => wpAny_pure (hQ h' a1 a2 a3)) (PySem.F.args_zip_next_1 _))))
theorem zt_end {z TI TO i1 i2 l1 l2 : Addr} {k : Nat} {xs ys : Array Value} {Q : Option Value → Shared → Prop} (hh : A.handled = none) (D : ZipApart z TI TO i1 i2 l1 l2) (S : ZipT z TI TO i1 i2 l1 l2 xs ys k .none s.heap) (hend : xs[k]? = none ∨ ys[k]? = none)
    (hQ : ∀ h', (∀ c o, c ≠ z → c ≠ TO → c ≠ i1 → c ≠ i2 → s.heap.get? c = some o → h'.get? c = some o) → Q none { s with heap := h' }) : wpAny (model prog w) A (pyNext (.ref z)) Q E s := by
  have hT : s.TypeIs (.ref z) "zip" := ⟨_, S.z, rfl⟩
  unfold pyNext
  refine wpAny_bind (wpAny_attempt (wpAny_callSpecial?_slot (name := Str.ofString "__next__") hT PySem.F.slot_zip_next (wpAny_call_entry PySem.F.slot_zip_next hT PySem.F.entry_zip_next (ztup_end hh D S hend fun h' e hk ⟨o, ho, hc⟩ => ?_) (PySem.F.args_zip_next_1 _))))
  refine wpAny_bind (wpAny_isInstance (T := "StopIteration") (b := true) ⟨o, ho, hc⟩ isSubtype_stop ?_)
  exact wpAny_pure (hQ _ hk)
end
end Ev
set_option maxRecDepth 100000
namespace Ev
open PySem PySem.W PySem.Spec PySem.Calls PyProof.Rows PySem.SeqAt
noncomputable abbrev tzH1 (h : Heap) (l1 : Addr) : Heap := h.push { cls := .type "tuple_iterator", data := .fields #[.ref l1, .int 0 0] }
noncomputable abbrev tzH2 (h : Heap) (l1 l2 : Addr) : Heap := (tzH1 h l1).push { cls := .type "tuple_iterator", data := .fields #[.ref l2, .int 0 0] }
noncomputable abbrev tzH3 (h : Heap) (l1 l2 : Addr) : Heap := (tzH2 h l1 l2).push { cls := .type "tuple", data := .seq #[.ref h.objs.size, .ref (tzH1 h l1).objs.size] }
noncomputable abbrev tzH4 (h : Heap) (l1 l2 : Addr) : Heap := (tzH3 h l1 l2).push { cls := .type "tuple", data := .seq #[.none, .none] }
noncomputable abbrev tzH5 (h : Heap) (l1 l2 : Addr) : Heap := (tzH4 h l1 l2).push { cls := .type "zip", data := .fields #[.none, .bool false, .bool false, .ref (tzH2 h l1 l2).objs.size, .ref (tzH3 h l1 l2).objs.size] }
theorem tz_new (l1 l2 : Addr) (xs ys : Array Value) :
    Meets (Builtin.«zip.__new__» ⟨[.type "zip", .ref l1, .ref l2], []⟩) (fun _ R s => s.heap.IsTuple l1 xs ∧ s.heap.IsTuple l2 ys ∧ R (.ok (.ret (.ref (tzH4 s.heap l1 l2).objs.size))) { s with heap := tzH5 s.heap l1 l2 }) :=
  .of_wp fun prog w A R s h => by
    obtain ⟨hp, g, d, tk, os⟩ := s; obtain ⟨hl1, hl2, h⟩ := h
    have hsub := sub_zip
    have hL1 : Heap.IsTuple (Shared.heap ⟨hp, g, d, tk, os⟩) l1 xs := hl1
    have hL2 : Heap.IsTuple (Shared.heap ⟨hp.push { cls := .type "tuple_iterator", data := .fields #[.ref l1, .int 0 0] }, g, d, tk, os⟩) l2 ys := Heap.IsTuple.push hl2 _
    wp_walk using wpAny_pyIter_tuple hL1, wpAny_pyIter_tuple hL2
    exact ⟨_, rfl, h⟩
section
variable {prog : Program} {w : World} {A : Around} {E : Value → Shared → Prop} {s : Shared}
theorem call_tzip {l1 l2 : Addr} {xs ys : Array Value} {Q : Value → Shared → Prop} (hl1 : s.heap.IsTuple l1 xs) (hl2 : s.heap.IsTuple l2 ys)
    (h : ∀ h', ZipT (s.heap.objs.size + 4) (s.heap.objs.size + 2) (s.heap.objs.size + 3) s.heap.objs.size (s.heap.objs.size + 1) l1 l2 xs ys 0 .none h' → (∀ c o, s.heap.get? c = some o → h'.get? c = some o) → Q (.ref (s.heap.objs.size + 4)) { s with heap := h' }) :
    wpAny (model prog w) A (call (.type "zip") [.ref l1, .ref l2]) Q E s := by
  refine callType_new PySem.F.called_zip (by decide) (PySem.F.typeCall_zip_2 _ _) (PySem.F.newCall_zip_2 _ _) (fun obj => PySem.F.args_object_init_3 obj _ _) PySem.F.entry_zip_new (tz_new l1 l2 xs ys) ⟨hl1, hl2, ?_⟩
  have z1 : (tzH1 s.heap l1).objs.size = s.heap.objs.size + 1 := Heap.size_push ..
  have z2 : (tzH2 s.heap l1 l2).objs.size = s.heap.objs.size + 2 := by rw [Heap.size_push, z1]
  have z3 : (tzH3 s.heap l1 l2).objs.size = s.heap.objs.size + 3 := by rw [Heap.size_push, z2]
  have z4 : (tzH4 s.heap l1 l2).objs.size = s.heap.objs.size + 4 := by rw [Heap.size_push, z3]
  have g5 : (tzH5 s.heap l1 l2).get? (tzH4 s.heap l1 l2).objs.size = some _ := Heap.get?_push_size _ rfl
  have g4 : (tzH5 s.heap l1 l2).get? (tzH3 s.heap l1 l2).objs.size = some _ := Heap.get?_push_of_some _ (Heap.get?_push_size _ rfl)
  have g3 : (tzH5 s.heap l1 l2).get? (tzH2 s.heap l1 l2).objs.size = some _ := Heap.get?_push_of_some _ (Heap.get?_push_of_some _ (Heap.get?_push_size _ rfl))
  have g2 : (tzH5 s.heap l1 l2).get? (tzH1 s.heap l1).objs.size = some _ := Heap.get?_push_of_some _ (Heap.get?_push_of_some _ (Heap.get?_push_of_some _ (Heap.get?_push_size _ rfl)))
  have g1 : (tzH5 s.heap l1 l2).get? s.heap.objs.size = some _ := Heap.get?_push_of_some _ (Heap.get?_push_of_some _ (Heap.get?_push_of_some _ (Heap.get?_push_of_some _ (Heap.get?_push_size _ rfl))))
  have kp : ∀ c o, s.heap.get? c = some o → (tzH5 s.heap l1 l2).get? c = some o := fun c o x => Heap.get?_push_of_some _ (Heap.get?_push_of_some _ (Heap.get?_push_of_some _ (Heap.get?_push_of_some _ (Heap.get?_push_of_some _ x))))
  show _ ∧ _
  rw [z2, z3, z4] at g5
  rw [z1, z2] at g3
  rw [z3] at g4
  rw [z1] at g2
  rw [z4]
  exact ⟨⟨_, g5, rfl⟩, h _ ⟨g5, g3, ⟨_, _, g4⟩, ⟨_, g1, rfl, rfl⟩, ⟨_, g2, rfl, rfl⟩, let ⟨o, e, r⟩ := hl1; ⟨o, kp _ _ e, r⟩, let ⟨o, e, r⟩ := hl2; ⟨o, kp _ _ e, r⟩⟩ kp⟩
end
end Ev
set_option maxRecDepth 10000
namespace Ev
open PySem PySem.W PySem.Spec PySem.Calls PyProof.Rows PySem.SeqAt
variable {C : Cx} {n : Nat} {sc : Scope} {A : Around} {env : Env} {base : Fz} {low : Fz} {F F' : Fz} {s s' : Shared} {σ : Ev.St}
noncomputable def zipL (ds es : List PyData) : List PyData := (ds.zip es).map fun p => .tuple [p.1, p.2]
noncomputable def zipC (f g : Ev.St → Option PyData) : Ev.St → Option (List PyData) := fun σ => match f σ with
  | some (.tuple ds) => match g σ with
    | some (.tuple es) => some (zipL ds es)
    | _ => none
  | _ => none
theorem zipL_get {ds es : List PyData} {i : Nat} {d : PyData} (h : (zipL ds es)[i]? = some d) : ∃ a b, ds[i]? = some a ∧ es[i]? = some b ∧ d = .tuple [a, b] := by
  unfold zipL at h
  rw [List.getElem?_map] at h
  cases e : (ds.zip es)[i]? with
  | none => rw [e] at h; (first | exact ns h | exact nb h | obtain rfl := si h | cases h)
  | some p =>
    rw [e] at h; (first | exact ns h | exact nb h | obtain rfl := si h | cases h)
    obtain ⟨h1, h2⟩ := List.getElem?_zip_eq_some.mp e
    exact ⟨_, _, h1, h2, rfl⟩
theorem zipL_end {H : PyData → Int} {F : Fz} {xs ys : Array Value} {ds es : List PyData} (r1 : RL H F xs.toList ds) (r2 : RL H F ys.toList es) : xs[(zipL ds es).length]? = none ∨ ys[(zipL ds es).length]? = none := by
  have hl : (zipL ds es).length = min xs.size ys.size := by unfold zipL; rw [List.length_map, List.length_zip, ← rl_arr r1, ← rl_arr r2]
  rw [hl]
  rcases Nat.le_total xs.size ys.size with q | q
  · exact .inl (by rw [Nat.min_eq_left q]; exact Array.getElem?_eq_none (Nat.le_refl _))
  · exact .inr (by rw [Nat.min_eq_right q]; exact Array.getElem?_eq_none (Nat.le_refl _))
theorem ZipT.mem {z TI TO i1 i2 l1 l2 : Addr} {xs ys : Array Value} {k : Nat} {f : Value} {h : Heap} (S : ZipT z TI TO i1 i2 l1 l2 xs ys k f h) : ∀ a ∈ [z, TI, TO, i1, i2], ∃ o, h.get? a = some o :=
  mem5 ⟨_, S.z⟩ ⟨_, S.ti⟩ (let ⟨_, _, ho⟩ := S.out; ⟨_, ho⟩) (let ⟨o, e, _⟩ := S.i1; ⟨o, e⟩) (let ⟨o, e, _⟩ := S.i2; ⟨o, e⟩)
theorem iter_tzip {str : Bool} {elts : List Expr} {x1 : Nat} {tpos : Pos} {ds es : List PyData} {l1 l2 : Addr} {xs ys : Array Value} {m1 m2 : Nat} (hh : A.handled = none) (hs : Sat F s.heap) (h1 : F l1 = some (seqObj "tuple" xs m1)) (h2 : F l2 = some (seqObj "tuple" ys m2)) (r1 : RL C.H F xs.toList ds) (r2 : RL C.H F ys.toList es) :
    Wp C A (call (.type "zip") [.ref l1, .ref l2]) (fun x s1 => Wp C A (pyIter x) (PostI C A str (.Tuple elts x1 tpos) F s (zipL ds es)) s1) s := by
  have t1 : s.heap.IsTuple l1 xs := ⟨_, hs _ _ h1, rfl, m1, rfl⟩
  have t2 : s.heap.IsTuple l2 ys := ⟨_, hs _ _ h2, rfl, m2, rfl⟩
  have lt1 : l1 < s.heap.objs.size := Heap.lt_size (hs _ _ h1)
  have lt2 : l2 < s.heap.objs.size := Heap.lt_size (hs _ _ h2)
  refine call_tzip t1 t2 fun h' Z kp => ?_
  refine wpAny_pyIter_zip Z.z ?_
  have D : ZipApart (s.heap.objs.size + 4) (s.heap.objs.size + 2) (s.heap.objs.size + 3) s.heap.objs.size (s.heap.objs.size + 1) l1 l2 := by
    constructor <;> (intro e; simp only [Addr] at *; omega)
  revert Z D
  have new : ∀ k, s.heap.get? (s.heap.objs.size + k) = none := fun k => by
    cases q : s.heap.get? (s.heap.objs.size + k) with
    | none => rfl
    | some o => exact absurd (Heap.lt_size q) (by simp)
  have n0 := new 0
  have n1 := new 1
  have n2 := new 2
  have n3 := new 3
  have n4 := new 4
  revert n0 n1 n2 n3 n4
  generalize s.heap.objs.size + 4 = z
  generalize s.heap.objs.size + 2 = TI
  generalize s.heap.objs.size + 3 = TO
  generalize s.heap.objs.size + 1 = i2
  rw [Nat.add_zero]
  generalize s.heap.objs.size = i1
  intro n0 n1 n2 n3 n4 Z D
  have g : Grow F s F { s with heap := h' } := .ofKeep hs kp rfl rfl rfl
  have offW : ∀ a ∈ [z, TI, TO, i1, i2], s.heap.get? a = none ∧ F a = none := mem5 ⟨n4, sat_fresh hs n4⟩ ⟨n2, sat_fresh hs n2⟩ ⟨n3, sat_fresh hs n3⟩ ⟨n0, sat_fresh hs n0⟩ ⟨n1, sat_fresh hs n1⟩
  refine ⟨F, [z, TI, TO, i1, i2], z, fun a => if a = l1 ∨ a = l2 then F a else none, fun i h => ZipT z TI TO i1 i2 l1 l2 xs ys i .none h, rfl, g, ?_, Z, ?_, offW, ?_⟩
  · exact {
      frame := fun {i h h''} S hk hd => by
        obtain ⟨a, b, ho⟩ := S.out
        have d1 : h''.get? l1 = some (seqObj "tuple" xs m1) := hd l1 _ (by dsimp only; rw [if_pos (.inl rfl)]; exact h1)
        have d2 : h''.get? l2 = some (seqObj "tuple" ys m2) := hd l2 _ (by dsimp only; rw [if_pos (.inr rfl)]; exact h2)
        exact ⟨hk z (by simp) _ S.z, hk TI (by simp) _ S.ti, ⟨a, b, hk TO (by simp) _ ho⟩, S.i1.at fun o e => hk i1 (by simp) o e, S.i2.at fun o e => hk i2 (by simp) o e, ⟨_, d1, rfl, m1, rfl⟩, ⟨_, d2, rfl, m2, rfl⟩⟩
      there := fun {i h} S => S.mem
      off := fun a ha => by
        have := (offW a ha).2
        split
        · exact this
        · rfl
      item := fun {i s1 F1 d} hd S _ hs1 hsub hW => by
        obtain ⟨a, b, ha, hb, rfl⟩ := zipL_get hd
        obtain ⟨x, hx, rx⟩ := r1.get ha
        obtain ⟨y, hy, ry⟩ := r2.get hb
        rw [Array.getElem?_toList] at hx hy
        refine zt_next D S hx hy fun h2 S2 hp kp2 => ⟨_, rfl, ?_⟩
        refine wpAny_letOwnedTupleGo_zip (s := { s1 with heap := h2 }) S2.z fun h3 hz3 sb => ?_
        have ltz : z < s1.heap.objs.size := Heap.lt_size S.z
        have keep : ∀ b o, b ∉ [z, TI, TO, i1, i2] → s1.heap.get? b = some o → h3.get? b = some o := fun b o hb q => by
          obtain ⟨q1, q3, q4, q5⟩ := not5 hb
          exact sb.extBut b o q1 (kp2 b o q1 q3 q4 q5 q)
        have hT : h3.get? s1.heap.objs.size = some (seqObj "tuple" #[x, y] 0) := sb.extBut _ _ (Nat.ne_of_gt ltz) hp
        have sub := put_sub (o := seqObj "tuple" #[x, y] 0) (sat_fresh hs1 (get_size s1.heap))
        obtain ⟨oa, ob, ho⟩ := S2.out
        refine ⟨_, Adv.put hs1 hW keep hT, ?_, ?_⟩
        · exact .tuple (put_self ..) (.cons ((rx.mono hsub).mono sub) (.cons ((ry.mono hsub).mono sub) .nil))
        · exact ⟨hz3, sb.extBut _ _ D.TIz S2.ti, ⟨oa, ob, sb.extBut _ _ D.TOz ho⟩, S2.i1.extBut sb.extBut D.i1z, S2.i2.extBut sb.extBut D.i2z, S2.l1.extBut sb.extBut D.l1z, S2.l2.extBut sb.extBut D.l2z⟩
      done := fun {s1 F1} S _ hs1 hW => by
        refine zt_end hh D S (zipL_end r1 r2) fun h2 k2 => ⟨rfl, Adv.ofKeep (tk := s1.toks) hs1 hW fun b o hb q => ?_⟩
        obtain ⟨q1, q3, q4, q5⟩ := not5 hb
        exact k2 b o q1 q3 q4 q5 q
      self := fun S hq => wpAny_pyIter_zip S.z hq }
  · intro a o q
    dsimp only at q
    split at q
    · exact kp _ _ (hs _ _ q)
    · (first | exact ns q | exact nb q | obtain rfl := si q | cases q)
  · intro _ a o q
    dsimp only at q
    split at q
    · exact q
    · (first | exact ns q | exact nb q | obtain rfl := si q | cases q)
theorem zipC_some {f g : Ev.St → Option PyData} {σ : St} {ds : List PyData} (h : zipC f g σ = some ds) : ∃ as bs, f σ = some (.tuple as) ∧ g σ = some (.tuple bs) ∧ ds = zipL as bs := by
  unfold zipC at h
  rcases e : f σ with _ | x
  · rw [e] at h; (first | exact ns h | exact nb h | obtain rfl := si h | cases h)
  · rw [e] at h
    cases x with
    | tuple as =>
      have h : (match g σ with | some (.tuple es) => some (zipL as es) | _ => none) = some ds := h
      rcases e2 : g σ with _ | y
      · rw [e2] at h; (first | exact ns h | exact nb h | obtain rfl := si h | cases h)
      · rw [e2] at h
        cases y with
        | tuple bs => (first | exact ns h | exact nb h | obtain rfl := si h | cases h); exact ⟨as, bs, rfl, rfl, rfl⟩
        | _ => (first | exact ns h | exact nb h | obtain rfl := si h | cases h)
    | _ => (first | exact ns h | exact nb h | obtain rfl := si h | cases h)
theorem RL.two_tup {H : PyData → Int} {F : Fz} {vs : List Value} {as bs : List PyData} (r : RL H F vs [.tuple as, .tuple bs]) : ∃ a b xs ys m k, vs = [.ref a, .ref b] ∧ F a = some (seqObj "tuple" xs m) ∧ F b = some (seqObj "tuple" ys k) ∧ RL H F xs.toList as ∧ RL H F ys.toList bs := by
  obtain ⟨v, l, rfl, r1, r⟩ := r.uncons
  obtain ⟨u, l, rfl, r2, r⟩ := r.uncons
  cases r
  obtain ⟨a, xs, m, rfl, h1, q1⟩ := r1.toTuple
  obtain ⟨b, ys, k, rfl, h2, q2⟩ := r2.toTuple
  exact ⟨a, b, xs, ys, m, k, rfl, h1, h2, q1, q2⟩
theorem SndI.zip {elts : List Expr} {x1 : Nat} {tpos px pos : Pos} {e1 e2 : Expr} {f g : Ev.St → Option PyData} (hb : C.Bi "zip" (.type "zip")) (hk : sc.names.lookup (Str.ofString "zip") = some .globalImplicit) (h1 : Snd C n sc e1 f) (h2 : Snd C n sc e2 g)
    (hs1 : ∀ r env, starEach (e1 :: r) env = (false, eval e1 env) :: starEach r env) (hs2 : ∀ r env, starEach (e2 :: r) env = (false, eval e2 env) :: starEach r env) (hp : ∀ env, (backTo pos (starEach [e2] env)).any (·.1) = false := by intro _; rfl) :
    SndI C n sc true (.Tuple elts x1 tpos) (.Call (.Name "zip" px) [e1, e2] [] pos) (zipC f g) := fun {A env base low F s σ ds} X hf => by
  obtain ⟨as, bs, q1, q2, rfl⟩ := zipC_some hf
  refine Call_ (wp_builtin X hb hk (PyProof.Rows.callWith_type1 (wp_mono (argsR_wp (.cons h1 (.cons h2 .nil hs2) hs1) X (ds := [.tuple as, .tuple bs]) (by simp only [asC, q1, q2])) fun vs s1 ⟨F1, g1, r1⟩ => ?_) (hs1 _ _) (hp env)))
  obtain ⟨a, b, xs, ys, m, k, rfl, ha, hb, ra, rb⟩ := r1.two_tup
  exact wp_mono (iter_tzip X.room.hand g1.sat ha hb ra rb) fun x s2 q => wp_mono q fun _ _ q' => .of g1 q'
end Ev
set_option maxRecDepth 10000
namespace Ev
open PySem PySem.W PySem.Spec PySem.Calls PyProof.Rows PySem.SeqAt
section
variable {prog : Program} {w : World} {A : Around} {E : Value → Shared → Prop} {s : Shared}
structure ZipH (z TI TO i1 i2 l1 l2 : Addr) (xs ys : Array Value) (k : Nat) (a : Addr) (h : Heap) : Prop where
  z : ∃ f : Bool, h.get? z = some { cls := .type "zip", dict := none, data := .fields #[rawInt a, .bool f, .bool false, .ref TI, .ref TO], slots := #[] }
  held : ∃ o, h.get? a = some o
  ti : IsPair h TI (.ref i1) (.ref i2)
  i1 : h.IsTupleIter i1 l1 k
  i2 : h.IsTupleIter i2 l2 k
  l1 : h.IsTuple l1 xs
  l2 : h.IsTuple l2 ys
theorem zh_free {z TI TO i1 i2 l1 l2 a : Addr} {k : Nat} {xs ys : Array Value} {Q : Bool → Shared → Prop} (S : ZipH z TI TO i1 i2 l1 l2 xs ys k a s.heap)
    (hQ : ∀ h', h'.get? z = some { cls := .type "zip", dict := none, data := .fields #[rawInt a, .bool true, .bool false, .ref TI, .ref TO], slots := #[] } → Heap.SameBut z s.heap h' → Q false { s with heap := h' }) :
    wpAny (model prog w) A (Builtin.SmallTypes.ownedTupleIsFree (.ref z)) Q E s := by
  obtain ⟨⟨f, hz⟩, ⟨o, ho⟩, _⟩ := S
  unfold Builtin.SmallTypes.ownedTupleIsFree
  refine wpAny_bind (wpAny_field hz rfl (x := rawInt a) rfl ?_)
  show wpAny _ _ (loadIfAlive (a : Int).toNat >>= _) _ _ _
  rw [Int.toNat_natCast]
  refine wpAny_bind (kdx_alive ho ?_)
  simp only [Option.isNone_some, Bool.false_eq_true, if_false]
  refine wpAny_bind (wpAny_field hz rfl (x := .bool f) rfl ?_)
  cases f with
  | true =>
    first | with_reducible refine w_neg (by decide) ?_ | with_reducible refine wb_neg (by decide) ?_ | rw [if_neg (by decide)]
    exact wpAny_pure (hQ s.heap hz (Heap.SameBut.refl ..))
  | false =>
    first | with_reducible refine w_pos (by decide) ?_ | with_reducible refine wb_pos (by decide) ?_ | rw [if_pos (by decide)]
    exact wpAny_bind (wpAny_setField_rec hz (by simp) fun h₁ hz₁ hs₁ => wpAny_pure (hQ h₁ hz₁ hs₁))
theorem zh_item {z TI TO i1 i2 l1 l2 a : Addr} {k : Nat} {xs ys : Array Value} {x y : Value} {Q : Value → Shared → Prop} (D : ZipApart z TI TO i1 i2 l1 l2) (S : ZipH z TI TO i1 i2 l1 l2 xs ys k a s.heap) (haz : a ≠ z) (ha1 : a ≠ i1) (ha2 : a ≠ i2) (hx : xs[k]? = some x) (hy : ys[k]? = some y)
    (hQ : ∀ h', ZipH z TI TO i1 i2 l1 l2 xs ys (k + 1) a h' → IsPair h' s.heap.objs.size x y → (∀ c o, c ≠ z → c ≠ i1 → c ≠ i2 → s.heap.get? c = some o → h'.get? c = some o) → Q (.ref s.heap.objs.size) { s with heap := h' }) :
    wpAny (model prog w) A (Builtin.«zip.__next__» ⟨[.ref z], []⟩) (fun fin s' => ∃ v, fin = .done (.ret v) ∧ Q v s') E s := by
  obtain ⟨f, hz⟩ := S.z
  show wpAny _ _ (field (.ref z) 2 >>= _) _ _ _
  refine wpAny_bind (wpAny_field hz rfl (x := .bool false) rfl ?_)
  show wpAny _ _ (field (.ref z) 3 >>= _) _ _ _
  refine wpAny_bind (wpAny_field hz rfl (x := .ref TI) rfl (wpAny_bind (wpAny_seqItems S.ti rfl ?_)))
  show wpAny _ _ (Builtin.SmallTypes.ownedTupleIsFree (.ref z) >>= _) _ _ _
  refine wpAny_bind (zh_free S fun h₁ hz₁ hs₁ => ?_)
  first | with_reducible refine w_false ?_ | with_reducible refine wb_false ?_ | rw [if_neg Bool.false_ne_true]
  refine wpAny_bind ?_
  rw [← Array.forIn_toList]
  simp only [List.forIn_cons, List.forIn_nil]
  refine wpAny_bind (wpAny_bind (wpAny_holding ?_))
  show wpAny _ _ (Builtin.SmallTypes.nextOf (.ref i1) >>= _) _ _ _
  refine wpAny_bind (tnext_item (S.i1.extBut hs₁.extBut D.i1z) (S.l1.extBut hs₁.extBut D.l1z) hx fun h₂ h1₂ hs₂ => wpAny_pure (wpAny_pure ?_))
  refine wpAny_bind (wpAny_bind (wpAny_holding ?_))
  show wpAny _ _ (Builtin.SmallTypes.nextOf (.ref i2) >>= _) _ _ _
  refine wpAny_bind (tnext_item ((S.i2.extBut hs₁.extBut D.i2z).extBut hs₂.extBut D.i12.symm) ((S.l2.extBut hs₁.extBut D.l2z).extBut hs₂.extBut D.l2i1) hy fun h₃ h2₃ hs₃ => wpAny_pure (wpAny_pure (wpAny_pure ?_)))
  have kp : ∀ c o, c ≠ z → c ≠ i1 → c ≠ i2 → s.heap.get? c = some o → h₃.get? c = some o := fun c o c1 c2 c3 e => hs₃.extBut _ _ c3 (hs₂.extBut _ _ c2 (hs₁.extBut _ _ c1 e))
  have hsz : h₃.objs.size = s.heap.objs.size := by rw [hs₃.1, hs₂.1, hs₁.1]
  refine wpAny_bind (wpAny_newTuple ?_ (by show 2 ≤ sizeLine; rw [sizeLine_eq]; omega))
  refine wpAny_pure ⟨_, rfl, ?_⟩
  show Q (.ref h₃.objs.size) _
  rw [hsz]
  have up : ∀ c o, h₃.get? c = some o → (h₃.push { cls := .type "tuple", data := .seq #[x, y] }).get? c = some o := fun c o e => Heap.get?_push_of_some _ e
  obtain ⟨oa, hoa⟩ := S.held
  refine hQ _ ⟨⟨true, up _ _ (hs₃.extBut _ _ D.i2z.symm (hs₂.extBut _ _ D.i1z.symm hz₁))⟩, ⟨oa, up _ _ (kp _ _ haz ha1 ha2 hoa)⟩, up _ _ (kp _ _ D.TIz D.TIi1 D.TIi2 S.ti), (h1₂.extBut hs₃.extBut D.i12).at fun o e => up _ o e, h2₃.at fun o e => up _ o e,
    let ⟨o, e, r⟩ := S.l1; ⟨o, up _ _ (kp _ _ D.l1z D.l1i1 D.l1i2 e), r⟩, let ⟨o, e, r⟩ := S.l2; ⟨o, up _ _ (kp _ _ D.l2z D.l2i1 D.l2i2 e), r⟩⟩ ?_ fun c o c1 c2 c3 e => up _ _ (kp c o c1 c2 c3 e)
  have := Heap.get?_push_size h₃ (o := { cls := .type "tuple", data := .seq #[x, y] }) rfl
  rw [hsz] at this
  exact this
theorem zh_end {z TI TO i1 i2 l1 l2 a : Addr} {k : Nat} {xs ys : Array Value} {Q : PySem.Fin → Shared → Prop} (hh : A.handled = none) (D : ZipApart z TI TO i1 i2 l1 l2) (S : ZipH z TI TO i1 i2 l1 l2 xs ys k a s.heap) (hend : xs[k]? = none ∨ ys[k]? = none)
    (hE : ∀ h' e, (∀ c o, c ≠ z → c ≠ i1 → c ≠ i2 → s.heap.get? c = some o → h'.get? c = some o) → (∃ o, h'.get? e = some o ∧ o.cls = .type "StopIteration") → E (.ref e) { s with heap := h' }) :
    wpAny (model prog w) A (Builtin.«zip.__next__» ⟨[.ref z], []⟩) Q E s := by
  obtain ⟨f, hz⟩ := S.z
  show wpAny _ _ (field (.ref z) 2 >>= _) _ _ _
  refine wpAny_bind (wpAny_field hz rfl (x := .bool false) rfl ?_)
  show wpAny _ _ (field (.ref z) 3 >>= _) _ _ _
  refine wpAny_bind (wpAny_field hz rfl (x := .ref TI) rfl (wpAny_bind (wpAny_seqItems S.ti rfl ?_)))
  show wpAny _ _ (Builtin.SmallTypes.ownedTupleIsFree (.ref z) >>= _) _ _ _
  refine wpAny_bind (zh_free S fun h₁ hz₁ hs₁ => ?_)
  first | with_reducible refine w_false ?_ | with_reducible refine wb_false ?_ | rw [if_neg Bool.false_ne_true]
  refine wpAny_bind ?_
  rw [← Array.forIn_toList]
  simp only [List.forIn_cons, List.forIn_nil]
  refine wpAny_bind (wpAny_bind (wpAny_holding ?_))
  show wpAny _ _ (Builtin.SmallTypes.nextOf (.ref i1) >>= _) _ _ _
  cases hx : xs[k]? with
  | none => exact wpAny_bind (tnext_end hh (S.i1.extBut hs₁.extBut D.i1z) (S.l1.extBut hs₁.extBut D.l1z) hx fun h₂ e hs₂ he => hE h₂ e (fun c o c1 c2 _ q => hs₂ _ _ c2 (hs₁.extBut _ _ c1 q)) he)
  | some x =>
    have hy : ys[k]? = none := by rcases hend with h | h; rw [hx] at h; (first | exact ns h | exact nb h | obtain rfl := si h | cases h); exact h
    refine wpAny_bind (tnext_item (S.i1.extBut hs₁.extBut D.i1z) (S.l1.extBut hs₁.extBut D.l1z) hx fun h₂ h1₂ hs₂ => wpAny_pure (wpAny_pure ?_))
    refine wpAny_bind (wpAny_bind (wpAny_holding ?_))
    show wpAny _ _ (Builtin.SmallTypes.nextOf (.ref i2) >>= _) _ _ _
    exact wpAny_bind (tnext_end hh ((S.i2.extBut hs₁.extBut D.i2z).extBut hs₂.extBut D.i12.symm) ((S.l2.extBut hs₁.extBut D.l2z).extBut hs₂.extBut D.l2i1) hy fun h₃ e hs₃ he => hE h₃ e (fun c o c1 c2 c3 q => hs₃ _ _ c3 (hs₂.extBut _ _ c2 (hs₁.extBut _ _ c1 q))) he)
theorem zh_next {z TI TO i1 i2 l1 l2 a : Addr} {k : Nat} {xs ys : Array Value} {x y : Value} {Q : Option Value → Shared → Prop} (D : ZipApart z TI TO i1 i2 l1 l2) (S : ZipH z TI TO i1 i2 l1 l2 xs ys k a s.heap) (haz : a ≠ z) (ha1 : a ≠ i1) (ha2 : a ≠ i2) (hx : xs[k]? = some x) (hy : ys[k]? = some y)
    (hQ : ∀ h', ZipH z TI TO i1 i2 l1 l2 xs ys (k + 1) a h' → IsPair h' s.heap.objs.size x y → (∀ c o, c ≠ z → c ≠ i1 → c ≠ i2 → s.heap.get? c = some o → h'.get? c = some o) → Q (some (.ref s.heap.objs.size)) { s with heap := h' }) :
    wpAny (model prog w) A (pyNext (.ref z)) Q E s := by
  have hT : s.TypeIs (.ref z) "zip" := let ⟨_, e⟩ := S.z; ⟨_, e, rfl⟩
  unfold pyNext
  exact wpAny_bind (wpAny_attempt (wpAny_callSpecial?_slot (name := Str.ofString "__next__") hT PySem.F.slot_zip_next (wpAny_call_entry PySem.F.slot_zip_next hT PySem.F.entry_zip_next (zh_item D S haz ha1 ha2 hx hy fun h' a1 a2 a3 => wpAny_pure (hQ h' a1 a2 a3)) (PySem.F.args_zip_next_1 _))))
theorem zh_done {z TI TO i1 i2 l1 l2 a : Addr} {k : Nat} {xs ys : Array Value} {Q : Option Value → Shared → Prop} (hh : A.handled = none) (D : ZipApart z TI TO i1 i2 l1 l2) (S : ZipH z TI TO i1 i2 l1 l2 xs ys k a s.heap) (hend : xs[k]? = none ∨ ys[k]? = none)
    (hQ : ∀ h', (∀ c o, c ≠ z → c ≠ i1 → c ≠ i2 → s.heap.get? c = some o → h'.get? c = some o) → Q none { s with heap := h' }) : wpAny (model prog w) A (pyNext (.ref z)) Q E s := by
  have hT : s.TypeIs (.ref z) "zip" := let ⟨_, e⟩ := S.z; ⟨_, e, rfl⟩
  unfold pyNext
  refine wpAny_bind (wpAny_attempt (wpAny_callSpecial?_slot (name := Str.ofString "__next__") hT PySem.F.slot_zip_next (wpAny_call_entry PySem.F.slot_zip_next hT PySem.F.entry_zip_next (zh_end hh D S hend fun h' e hk ⟨o, ho, hc⟩ => ?_) (PySem.F.args_zip_next_1 _))))
  refine wpAny_bind (wpAny_isInstance (T := "StopIteration") (b := true) ⟨o, ho, hc⟩ isSubtype_stop ?_)
  exact wpAny_pure (hQ _ hk)
end
end Ev
set_option maxRecDepth 100000
namespace Ev
open PySem PySem.W PySem.Spec PySem.Calls PyProof.Rows PySem.SeqAt
variable {C : Cx} {n : Nat} {sc : Scope} {A : Around} {env : Env} {base : Fz} {low : Fz} {F F' F'' : Fz} {s s' s'' : Shared} {σ : Ev.St}
theorem Adv.offW {W : List Addr} (v : Adv W F s F' s') (hW : ∀ a ∈ W, F a = none) (ht : ∀ a ∈ W, ∃ o, s.heap.get? a = some o) : ∀ a ∈ W, F' a = none := fun a m => by
  cases q : F' a with
  | none => rfl
  | some o =>
    rcases v.fresh a o q with e | e
    · rw [hW a m] at e; (first | exact ns e | exact nb e | obtain rfl := si e | cases e)
    · obtain ⟨o', h⟩ := ht a m
      rw [e] at h; (first | exact ns h | exact nb h | obtain rfl := si h | cases h)
theorem Adv.trans {W : List Addr} (v : Adv W F s F' s') (y : Adv W F' s' F'' s'') (hW : ∀ a ∈ W, F'' a = none) : Adv W F s F'' s'' :=
  ⟨fun b o hb e => y.keep b o hb (v.keep b o hb e), fun a o e => y.sub a o (v.sub a o e), fun a o e => by
    rcases y.fresh a o e with q | q
    · exact v.fresh a o q
    · refine .inr ?_
      cases z : s.heap.get? a with
      | none => rfl
      | some o' => (rw [v.keep a o' (fun m => by rw [hW a m] at e; (first | exact ns e | exact nb e | obtain rfl := si e | cases e)) z] at q; (first | exact ns q | exact nb q | obtain rfl := si q | cases q)), y.sat, y.gens.trans v.gens, y.drawn.trans v.drawn, y.os.trans v.os⟩
structure Drw (C : Cx) (A : Around) (F0 : Fz) (W : List Addr) (I S : Addr) (ds : List PyData) (St : Nat → Heap → Prop) : Prop where
  frame : ∀ {i h h'}, St i h → (∀ b o, b ≠ S → h.get? b = some o → h'.get? b = some o) → St i h'
  there : ∀ {i h}, St i h → ∀ a ∈ W, ∃ o, h.get? a = some o
  nin : S ∉ W
  item : ∀ {i s F d}, ds[i]? = some d → St i s.heap → Sat F s.heap → Sub F0 F → (∀ a ∈ W, F a = none) → (∃ o, s.heap.get? S = some o) →
    Wp C A (pyNext (.ref I)) (fun ov s2 => ∃ v F', ov = some v ∧ Adv W F s F' s2 ∧ R C.H F' v d ∧ St (i + 1) s2.heap) s
  done : ∀ {s F}, St ds.length s.heap → Sat F s.heap → Sub F0 F → (∀ a ∈ W, F a = none) → Wp C A (pyNext (.ref I)) (fun ov s1 => ov = none ∧ Adv W F s F s1) s
theorem Adv.at {W : List Addr} {S : Addr} {h' : Heap} (hs : Sat F s.heap) (hW : ∀ a ∈ S :: W, F a = none) (k : ∀ b o, b ≠ S → s.heap.get? b = some o → h'.get? b = some o) : Adv (S :: W) F s F { s with heap := h' } :=
  Adv.ofKeep (tk := s.toks) hs hW fun b o hb e => k b o (fun q => hb (q ▸ List.mem_cons_self)) e
theorem ext_loop {W : List Addr} {I S : Addr} {ds : List PyData} {St : Nat → Heap → Prop} {F0 : Fz} (D : Drw C A.in1 F0 W I S ds St) (hn : ds.length ≤ 1048576) (res : Value) {Q : Result → Shared → Prop} {s0 : Shared}
    (hR : ∀ s' F' acc c, Adv (S :: W) F0 s0 F' s' → (∀ a ∈ S :: W, F' a = none) → s'.heap.get? S = some (seqObj "list" acc c) → RL C.H F' acc.toList ds → Q (.ok (.ret res)) s') :
    ∀ (k i : Nat) (s : Shared) (F : Fz) (acc : Array Value) (c : Nat), ds.length - i = k → i ≤ ds.length → St i s.heap → Adv (S :: W) F0 s0 F s → (∀ a ∈ S :: W, F a = none) → s.heap.get? S = some (seqObj "list" acc c) → RL C.H F acc.toList (ds.take i) →
      codeAny (model C.prog C.w) A (.builtin "list.extend.loop" ⟨[.ref S, .ref I, res], []⟩) Q s := by
  intro k
  induction k with
  | zero =>
    intro i s F acc c hk hi st v off hS r
    have hin : i = ds.length := by omega
    subst hin
    refine codeAny_builtin PySem.F.entry_extend_loop ?_
    rw [Around.under_plainId PySem.F.plain_extend_loop _]
    show wpAny _ A.in1 (pyNext (.ref I) >>= _) _ _ _
    refine wpAny_bind (wpAny_mono (D.done st v.sat v.sub fun a m => off a (List.mem_cons_of_mem _ m)) (fun ov s1 p => ?_) fun _ _ e => e.elim)
    obtain ⟨rfl, v1⟩ := p
    rw [List.take_length] at r
    exact wpAny_pure (hR s1 F acc c (v.trans (v1.wide fun a => List.mem_cons_of_mem _) off) off (v1.keep S _ D.nin hS) r)
  | succ k ih =>
    intro i s F acc c hk hi st v off hS r
    have hd : ds[i]? = some ds[i] := List.getElem?_eq_getElem (by omega)
    refine codeAny_builtin PySem.F.entry_extend_loop ?_
    rw [Around.under_plainId PySem.F.plain_extend_loop _]
    show wpAny _ A.in1 (pyNext (.ref I) >>= _) _ _ _
    have offW : ∀ a ∈ W, F a = none := fun a m => off a (List.mem_cons_of_mem _ m)
    refine wpAny_bind (wpAny_mono (D.item hd st v.sat v.sub offW ⟨_, hS⟩) (fun ov s1 p => ?_) fun _ _ e => e.elim)
    obtain ⟨x, F1, rfl, v1, rx, st1⟩ := p
    have hS1 := v1.keep S _ D.nin hS
    have off1 : ∀ a ∈ S :: W, F1 a = none := (v1.wide fun a => List.mem_cons_of_mem S).offW off fun a m => by
      rcases List.mem_cons.mp m with rfl | m
      · exact ⟨_, hS⟩
      · exact D.there st a m
    have hsz : acc.size = i := by rw [rl_arr r, List.length_take, Nat.min_eq_left hi]
    show wpAny _ A.in1 (updateSeq S (·.push x) >>= _) _ _ _
    refine wpAny_bind (wpAny_updateSeq hS1 rfl (wpAny_pure ⟨plainId_quiet PySem.F.plain_extend_loop _, ?_⟩) (by rw [hsz]; show i ≤ sizeLine; rw [sizeLine_eq]; omega) (by show (acc.push x).size ≤ sizeLine + 1; rw [Array.size_push, hsz, sizeLine_eq]; omega))
    have up : ∀ b o, b ≠ S → s1.heap.get? b = some o → (s1.heap.update S (Obj.mapSeq (·.push x))).get? b = some o := fun b o hb e => (Heap.get?_update_other _ _ (Ne.symm hb)).trans e
    refine ih (i + 1) { s1 with heap := s1.heap.update S (Obj.mapSeq (·.push x)) } F1 (acc.push x) _ (by omega) (by omega) (D.frame st1 up) ((v.trans (v1.wide fun a => List.mem_cons_of_mem _) off1).trans (Adv.at v1.sat off1 up) off1) off1 (Heap.get?_update_self _ hS1 rfl) ?_
    rw [Array.toList_push, List.take_add_one, hd]
    exact (r.mono v1.sub).append (.one rx)
theorem zip_no_len : typeLookup (.type "zip") "__len__" = pure none := by rw [typeLookup_type, builtinLookup_eq_fast]; kernel_rfl
theorem zip_no_hint : typeLookup (.type "zip") "__length_hint__" = pure none := by rw [typeLookup_type, builtinLookup_eq_fast]; kernel_rfl
theorem list_zip_call {W : List Addr} {z : Addr} {ds : List PyData} {St : Nat → Heap → Prop} {oz : Obj} (D : Drw C A.in1.in1 F W z s.heap.objs.size ds St) (hn : ds.length ≤ 1048576) (hs : Sat F s.heap) (hW : ∀ a ∈ W, F a = none) (st : St 0 s.heap) (hz : s.heap.get? z = some oz) (hc : oz.cls = .type "zip") (hd : ∃ vs, oz.data = .fields vs)
    (hi : ∀ {s1 : Shared} {Q : Value → Shared → Prop}, s1.heap.get? z = some oz → Q (.ref z) s1 → Wp C A.in1.in1 (pyIter (.ref z)) Q s1) :
    Wp C A (call (.type "list") [.ref z]) (fun v s' => ∃ F', v = .ref s.heap.objs.size ∧ Adv W F s F' s' ∧ F' s.heap.objs.size = none ∧ Ow C.H F' s'.heap s.heap.objs.size (.list ds)) s := by
  have hSf := get_size s.heap
  refine callType_codes (Q₁ := fun obj s₁ => obj = .ref s.heap.objs.size ∧ s₁ = { s with heap := s.heap.push { cls := .type "list", data := .seq #[] } }) PySem.F.called_list (PySem.F.typeCall_list_1 _) PySem.F.entry_list_init
    (code_list_new _ ⟨rfl, rfl⟩) fun obj s₁ h₁ => ?_
  obtain ⟨rfl, rfl⟩ := h₁
  have hzS : z ≠ s.heap.objs.size := Nat.ne_of_lt (Heap.lt_size hz)
  have k0 : ∀ b o, s.heap.get? b = some o → (s.heap.push { cls := .type "list", data := .seq #[] }).get? b = some o := fun b o e => Heap.get?_push_of_some _ e
  have hS : (s.heap.push { cls := .type "list", data := .seq #[] }).get? s.heap.objs.size = some { cls := .type "list", data := .seq #[] } := Heap.get?_push_size _ rfl
  refine ⟨⟨_, hS, rfl⟩, PySem.F.args_list_init_2 _ _, ?_⟩
  generalize hh : s.heap.push { cls := .type "list", data := .seq #[] } = h at hS k0
  show wpAny _ _ (do let old ← Builtin.List.listItems (.ref s.heap.objs.size); Builtin.List.listUpdate (.ref s.heap.objs.size) (fun _ => #[]); letGo old.toList.reverse; Builtin.List.listExtendWith (.ref s.heap.objs.size) (.ref z) .none) _ _ _
  refine wpAny_bind ?_
  unfold Builtin.List.listItems
  refine wpAny_bind (wpAny_seqItems hS rfl (wpAny_pure ?_))
  show wpAny _ _ (updateSeq s.heap.objs.size (fun _ => #[]) >>= fun _ => letGo (#[] : Array Value).toList.reverse >>= fun _ => Builtin.List.listExtendWith (.ref s.heap.objs.size) (.ref z) .none) _ _ _
  refine wpAny_bind (wpAny_updateSeq hS rfl ?_)
  have hS₂ := Heap.get?_update_self (Obj.mapSeq (fun _ => (#[] : Array Value))) hS rfl
  refine wpAny_bind (wpAny_letGo ?_)
  have k1 : ∀ b o, b ≠ s.heap.objs.size → s.heap.get? b = some o → (h.update s.heap.objs.size (Obj.mapSeq (fun _ => (#[] : Array Value)))).get? b = some o := fun b o hb e => (Heap.get?_update_other _ _ (Ne.symm hb)).trans (k0 b o e)
  generalize h.update s.heap.objs.size (Obj.mapSeq (fun _ => (#[] : Array Value))) = hp2 at hS₂ k1
  generalize hSe : s.heap.objs.size = S at *
  unfold Builtin.List.listExtendWith
  have hz2 := k1 z _ hzS hz
  refine wpAny_bind (wpAny_typeOf (T := "zip") ⟨_, hz2, hc⟩ ?_)
  have h1 : Builtin.List.listSameRef (.ref S) (.ref z) = false := by simp [Builtin.List.listSameRef, Ne.symm hzS]
  have h2 : (Value.type "zip" == Value.type "list") = false := by decide
  have h3 : (Value.type "zip" == Value.type "tuple") = false := by decide
  simp only [h1, h2, h3, Bool.or_false, Bool.false_eq_true, if_false]
  refine wpAny_bind (wpAny_mono (hi hz2 (Q := fun v s1 => v = .ref z ∧ s1 = _) ⟨rfl, rfl⟩) (fun v s1 p => ?_) fun _ _ e => e.elim)
  obtain ⟨rfl, rfl⟩ := p
  refine wpAny_bind (wpAny_holding ?_)
  unfold Builtin.List.listLengthHint
  refine wpAny_bind (wpAny_specialOf ⟨_, hz2, hc⟩ zip_no_len ?_)
  show wpAny _ _ (specialOf (Value.ref z) (Str.ofString "__length_hint__") >>= _) _ _ _
  refine wpAny_bind (wpAny_specialOf ⟨_, hz2, hc⟩ zip_no_hint ?_)
  refine wpAny_pure ?_
  show wpAny _ _ (rule "list.extend.makes-room" >>= fun _ => Builtin.List.listTouch (.ref S) >>= fun _ =>
    again (.builtin "list.extend.loop" ⟨[.ref S, .ref z, .none], []⟩)) _ _ _
  refine wpAny_bind (wpAny_rule ?_)
  refine wpAny_bind ?_
  show wpAny _ _ (updateSeq S (·.push .none) >>= fun _ => updateSeq S (·.pop)) _ _ _
  refine wpAny_bind (wpAny_updateSeq hS₂ rfl ?_)
  have hS₃ := Heap.get?_update_self (Obj.mapSeq (·.push Value.none)) hS₂ rfl
  refine wpAny_updateSeq (hz := by seq_fits) hS₃ rfl ?_
  have hS₄ := Heap.get?_update_self (Obj.mapSeq (·.pop)) hS₃ rfl
  have k2 : ∀ b o, b ≠ S → s.heap.get? b = some o → ((hp2.update S (Obj.mapSeq (·.push Value.none))).update S (Obj.mapSeq (·.pop))).get? b = some o :=
    fun b o hb e => (Heap.get?_update_other _ _ (Ne.symm hb)).trans ((Heap.get?_update_other _ _ (Ne.symm hb)).trans (k1 b o hb e))
  have off : ∀ a ∈ S :: W, F a = none := fun a m => by
    rcases List.mem_cons.mp m with rfl | m
    · exact sat_fresh hs hSf
    · exact hW a m
  refine wpAny_pure ⟨plainId_quiet PySem.F.plain_extend_loop _, ext_loop (s0 := s) D hn .none (fun s' F' acc c v o hS' r => ?_) ds.length 0 _ F _ _ rfl (Nat.zero_le _) (D.frame st k2) (Adv.at hs off k2) off hS₄ .nil⟩
  refine ⟨rfl, F', trivial, ⟨fun b o' hb e => v.keep b o' (fun m => ?_) e, v.sub, v.fresh, v.sat, v.gens, v.drawn, v.os⟩, o S List.mem_cons_self, .list hS' r⟩
  rcases List.mem_cons.mp m with rfl | m
  · rw [hSf] at e; (first | exact ns e | exact nb e | obtain rfl := si e | cases e)
  · exact hb m
end Ev
set_option maxRecDepth 100000
namespace Ev
open PySem PySem.W PySem.Spec PySem.Calls PyProof.Rows PySem.SeqAt
variable {C : Cx} {n : Nat} {sc : Scope} {A : Around} {env : Env} {base : Fz} {low : Fz} {F F' F'' : Fz} {s s' s'' : Shared} {σ : Ev.St}
noncomputable def ZSt (z TI TO i1 i2 l1 l2 : Addr) (xs ys : Array Value) (S : Addr) (i : Nat) (h : Heap) : Prop :=
  (i = 0 ∧ ZipT z TI TO i1 i2 l1 l2 xs ys 0 .none h) ∨ ∃ a, ZipH z TI TO i1 i2 l1 l2 xs ys i a h ∧ a ≠ z ∧ a ≠ i1 ∧ a ≠ i2 ∧ a ≠ S ∧ ∃ o, h.get? TO = some o
theorem drw_tzip {z TI TO i1 i2 l1 l2 S : Addr} {xs ys : Array Value} {ds es : List PyData} (hh : A.handled = none) (D : ZipApart z TI TO i1 i2 l1 l2) (r1 : RL C.H F xs.toList ds) (r2 : RL C.H F ys.toList es)
    (nS : ∀ a ∈ [z, TI, TO, i1, i2, l1, l2], a ≠ S) : Drw C A F [z, TI, TO, i1, i2] z S (zipL ds es) (ZSt z TI TO i1 i2 l1 l2 xs ys S) := by
  obtain ⟨⟨nz, nTI, nTO, n1, n2⟩, nl⟩ := of5 nS
  have nl1 := nl l1 List.mem_cons_self
  have nl2 := nl l2 (List.mem_cons_of_mem _ List.mem_cons_self)
  refine { frame := ?_, there := ?_, nin := ?_, item := ?_, done := ?_ }
  · rintro i h h' (⟨e, Z⟩ | ⟨a, Z, a1, a2, a3, a4, oT, hoT⟩) k
    · obtain ⟨p, q, ho⟩ := Z.out
      exact .inl ⟨e, k z _ nz Z.z, k TI _ nTI Z.ti, ⟨p, q, k TO _ nTO ho⟩, Z.i1.at fun o e => k i1 o n1 e, Z.i2.at fun o e => k i2 o n2 e, let ⟨o, e, r⟩ := Z.l1; ⟨o, k l1 o nl1 e, r⟩, let ⟨o, e, r⟩ := Z.l2; ⟨o, k l2 o nl2 e, r⟩⟩
    · obtain ⟨f, hz⟩ := Z.z
      obtain ⟨oa, hoa⟩ := Z.held
      exact .inr ⟨a, ⟨⟨f, k z _ nz hz⟩, ⟨oa, k a oa a4 hoa⟩, k TI _ nTI Z.ti, Z.i1.at fun o e => k i1 o n1 e, Z.i2.at fun o e => k i2 o n2 e, let ⟨o, e, r⟩ := Z.l1; ⟨o, k l1 o nl1 e, r⟩, let ⟨o, e, r⟩ := Z.l2; ⟨o, k l2 o nl2 e, r⟩⟩, a1, a2, a3, a4, oT, k TO _ nTO hoT⟩
  · rintro i h (⟨e, Z⟩ | ⟨a, Z, _, _, _, _, oT⟩)
    · exact Z.mem
    · exact mem5 (let ⟨_, hz⟩ := Z.z; ⟨_, hz⟩) ⟨_, Z.ti⟩ oT (let ⟨o, e, _⟩ := Z.i1; ⟨o, e⟩) (let ⟨o, e, _⟩ := Z.i2; ⟨o, e⟩)
  · exact fun m => mem5 (P := fun a => a ≠ S) nz nTI nTO n1 n2 S m rfl
  · intro i s1 F1 d hd st hs1 hsub hW ⟨oS, hoS⟩
    obtain ⟨a, b, ha, hb, rfl⟩ := zipL_get hd
    obtain ⟨x, hx, rx⟩ := r1.get ha
    obtain ⟨y, hy, ry⟩ := r2.get hb
    rw [Array.getElem?_toList] at hx hy
    have sz : ∀ {b : Addr} {o : Obj}, s1.heap.get? b = some o → s1.heap.objs.size ≠ b := fun e => Nat.ne_of_gt (Heap.lt_size e)
    have fin : ∀ (h2 : Heap), IsPair h2 s1.heap.objs.size x y → (∀ c o, c ∉ [z, TI, TO, i1, i2] → s1.heap.get? c = some o → h2.get? c = some o) → ZSt z TI TO i1 i2 l1 l2 xs ys S (i + 1) h2 →
        ∃ v F', some (Value.ref s1.heap.objs.size) = some v ∧ Adv [z, TI, TO, i1, i2] F1 s1 F' { s1 with heap := h2 } ∧ R C.H F' v (.tuple [a, b]) ∧ ZSt z TI TO i1 i2 l1 l2 xs ys S (i + 1) h2 := fun h2 hp k2 st2 => by
      have sub := put_sub (o := seqObj "tuple" #[x, y] 0) (sat_fresh hs1 (get_size s1.heap))
      exact ⟨_, _, rfl, Adv.put hs1 hW k2 hp, .tuple (put_self ..) (.cons ((rx.mono hsub).mono sub) (.cons ((ry.mono hsub).mono sub) .nil)), st2⟩
    rcases st with ⟨rfl, Z⟩ | ⟨c, Z, c1, c2, c3, c4, oT, hoT⟩
    · obtain ⟨p, q, ho⟩ := Z.out
      refine zt_next D Z hx hy fun h2 Z2 hp kp2 => fin h2 hp (fun c o hc e => ?_) (.inr ⟨s1.heap.objs.size, ⟨⟨false, Z2.z⟩, ⟨_, hp⟩, Z2.ti, Z2.i1, Z2.i2, Z2.l1, Z2.l2⟩, sz Z.z, ?_, ?_, sz hoS, ?_⟩)
      · obtain ⟨q1, q3, q4, q5⟩ := not5 hc
        exact kp2 c o q1 q3 q4 q5 e
      · obtain ⟨o, e, _⟩ := Z.i1; exact sz e
      · obtain ⟨o, e, _⟩ := Z.i2; exact sz e
      · obtain ⟨_, _, e⟩ := Z2.out; exact ⟨_, e⟩
    · refine zh_next D Z c1 c2 c3 hx hy fun h2 Z2 hp kp2 => fin h2 hp (fun c o hc e => ?_) (.inr ⟨c, Z2, c1, c2, c3, c4, oT, kp2 TO oT D.TOz D.TOi1 D.TOi2 hoT⟩)
      obtain ⟨q1, q3, q4, q5⟩ := not5 hc
      exact kp2 c o q1 q4 q5 e
  · intro s1 F1 st hs1 hsub hW
    have hend := zipL_end r1 r2
    rcases st with ⟨e, Z⟩ | ⟨c, Z, c1, c2, c3, c4, oT, hoT⟩
    · rw [e] at hend
      refine zt_end hh D Z hend fun h2 k2 => ⟨rfl, Adv.ofKeep (tk := s1.toks) hs1 hW fun b o hb q => ?_⟩
      obtain ⟨q1, q3, q4, q5⟩ := not5 hb
      exact k2 b o q1 q3 q4 q5 q
    · refine zh_done hh D Z hend fun h2 k2 => ⟨rfl, Adv.ofKeep (tk := s1.toks) hs1 hW fun b o hb q => ?_⟩
      obtain ⟨q1, q3, q4, q5⟩ := not5 hb
      exact k2 b o q1 q4 q5 q
theorem list_tzip {A1 : Around} {ds es : List PyData} {l1 l2 : Addr} {xs ys : Array Value} {m1 m2 : Nat} (hh : A.handled = none) (hs : Sat F s.heap) (h1 : F l1 = some (seqObj "tuple" xs m1)) (h2 : F l2 = some (seqObj "tuple" ys m2)) (r1 : RL C.H F xs.toList ds) (r2 : RL C.H F ys.toList es) (hn : ds.length ≤ 1048576) :
    Wp C A1 (call (.type "zip") [.ref l1, .ref l2]) (fun x s1 => Wp C A (call (.type "list") [x]) (PostO C F s (.list (zipL ds es))) s1) s := by
  have g1 := hs _ _ h1
  have g2 := hs _ _ h2
  have t1 : s.heap.IsTuple l1 xs := ⟨_, g1, rfl, m1, rfl⟩
  have t2 : s.heap.IsTuple l2 ys := ⟨_, g2, rfl, m2, rfl⟩
  have lt1 : l1 < s.heap.objs.size := Heap.lt_size g1
  have lt2 : l2 < s.heap.objs.size := Heap.lt_size g2
  refine call_tzip t1 t2 fun h' Z kp => ?_
  have D : ZipApart (s.heap.objs.size + 4) (s.heap.objs.size + 2) (s.heap.objs.size + 3) s.heap.objs.size (s.heap.objs.size + 1) l1 l2 := by
    constructor <;> (intro e; simp only [Addr] at *; omega)
  have new : ∀ k, s.heap.get? (s.heap.objs.size + k) = none := fun k => by
    cases q : s.heap.get? (s.heap.objs.size + k) with
    | none => rfl
    | some o => exact absurd (Heap.lt_size q) (by simp)
  have n0 := new 0
  have n1 := new 1
  have n2 := new 2
  have n3 := new 3
  have n4 := new 4
  clear new
  revert n0 n1 n2 n3 n4 Z D
  generalize s.heap.objs.size + 4 = z
  generalize s.heap.objs.size + 2 = TI
  generalize s.heap.objs.size + 3 = TO
  generalize s.heap.objs.size + 1 = i2
  rw [Nat.add_zero]
  generalize s.heap.objs.size = i1
  intro Z D n0 n1 n2 n3 n4
  have g : Grow F s F { s with heap := h' } := .ofKeep hs kp rfl rfl rfl
  have neS : ∀ {b : Addr} {o : Obj}, h'.get? b = some o → b ≠ h'.objs.size := fun e => Nat.ne_of_lt (Heap.lt_size e)
  obtain ⟨p, q, ho⟩ := Z.out
  have nS : ∀ a ∈ [z, TI, TO, i1, i2, l1, l2], a ≠ h'.objs.size := fun a ha => by
    simp only [List.mem_cons, List.not_mem_nil, or_false] at ha
    rcases ha with rfl | rfl | rfl | rfl | rfl | rfl | rfl
    · exact neS Z.z
    · exact neS Z.ti
    · exact neS ho
    · obtain ⟨o, e, _⟩ := Z.i1; exact neS e
    · obtain ⟨o, e, _⟩ := Z.i2; exact neS e
    · exact neS (kp _ _ g1)
    · exact neS (kp _ _ g2)
  have offN : ∀ a ∈ [z, TI, TO, i1, i2], s.heap.get? a = none := mem5 n4 n2 n3 n0 n1
  have hl : (zipL ds es).length ≤ 1048576 := by unfold zipL; rw [List.length_map, List.length_zip]; exact Nat.le_trans (Nat.min_le_left ..) hn
  refine wp_mono (list_zip_call (s := { s with heap := h' }) (drw_tzip hh D r1 r2 nS) hl g.sat (fun a ha => sat_fresh hs (offN a ha)) (.inl ⟨rfl, Z⟩) Z.z rfl ⟨_, rfl⟩ fun e hq => wpAny_pyIter_zip e hq) fun v s2 ⟨F2, hv, v2, f2, o2⟩ => ?_
  have hb : ∀ {b : Addr} {o : Obj}, s.heap.get? b = some o → b ∉ [z, TI, TO, i1, i2] := fun e m => by rw [offN _ m] at e; (first | exact ns e | exact nb e | obtain rfl := si e | cases e)
  refine ⟨F2, _, hv, ⟨fun b o e => v2.keep b o (hb e) (kp b o e), v2.sub, fun a o e => ?_, v2.sat, v2.gens, v2.drawn, v2.os⟩, f2, ?_, o2⟩
  · rcases v2.fresh a o e with q | q
    · exact .inl q
    · refine .inr ?_
      cases w : s.heap.get? a with
      | none => rfl
      | some o' => rw [kp a o' w] at q; (first | exact ns q | exact nb q | obtain rfl := si q | cases q)
  · cases w : s.heap.get? h'.objs.size with
    | none => rfl
    | some o' => exact absurd rfl (neS (kp _ _ w))
noncomputable def lzC (f g : Ev.St → Option PyData) : Ev.St → Option PyData := fun σ => match f σ with
  | some (.tuple ds) => match g σ with
    | some (.tuple es) => if decide (ds.length ≤ 1048576) then some (.list (zipL ds es)) else none
    | _ => none
  | _ => none
theorem lzC_some {f g : Ev.St → Option PyData} {σ : St} {d : PyData} (h : lzC f g σ = some d) : ∃ as bs, f σ = some (.tuple as) ∧ g σ = some (.tuple bs) ∧ as.length ≤ 1048576 ∧ d = .list (zipL as bs) := by
  unfold lzC at h
  rcases e : f σ with _ | x
  · rw [e] at h; (first | exact ns h | exact nb h | obtain rfl := si h | cases h)
  · rw [e] at h
    cases x with
    | tuple as =>
      have h : (match g σ with | some (.tuple es) => if decide (as.length ≤ 1048576) = true then some (PyData.list (zipL as es)) else none | _ => none) = some d := h
      rcases e2 : g σ with _ | y
      · rw [e2] at h; (first | exact ns h | exact nb h | obtain rfl := si h | cases h)
      · rw [e2] at h
        cases y with
        | tuple bs => obtain ⟨hn, h⟩ := ite_some h; (first | exact ns h | exact nb h | obtain rfl := si h | cases h); exact ⟨as, bs, rfl, rfl, of_decide_eq_true hn, rfl⟩
        | _ => (first | exact ns h | exact nb h | obtain rfl := si h | cases h)
    | _ => (first | exact ns h | exact nb h | obtain rfl := si h | cases h)
theorem SndO.listZip {px pl pos lpos : Pos} {e1 e2 : Expr} {f g : Ev.St → Option PyData} (hbl : C.Bi "list" (.type "list")) (hkl : sc.names.lookup (Str.ofString "list") = some .globalImplicit) (hb : C.Bi "zip" (.type "zip")) (hk : sc.names.lookup (Str.ofString "zip") = some .globalImplicit) (h1 : Snd C n sc e1 f) (h2 : Snd C n sc e2 g)
    (hs1 : ∀ r env, starEach (e1 :: r) env = (false, eval e1 env) :: starEach r env) (hs2 : ∀ r env, starEach (e2 :: r) env = (false, eval e2 env) :: starEach r env) (hp : ∀ env, (backTo pos (starEach [e2] env)).any (·.1) = false := by intro _; rfl) :
    SndO C n sc (.Call (.Name "list" pl) [.Call (.Name "zip" px) [e1, e2] [] pos] [] lpos) (lzC f g) := fun {A env base low F s σ d} X hf => by
  obtain ⟨as, bs, q1, q2, hn, rfl⟩ := lzC_some hf
  refine Call_ (wp_builtin X hbl hkl (PyProof.Rows.callWith_type1 (PySem.Calls.spliced_cons (Call_ (wp_builtin X hb hk (PyProof.Rows.callWith_type1 (wp_mono (argsR_wp (.cons h1 (.cons h2 .nil hs2) hs1) X (ds := [.tuple as, .tuple bs]) (by simp only [asC, q1, q2])) fun vs s1 ⟨F1, g1, r1⟩ => ?_) (hs1 _ _) (hp env))))) rfl rfl))
  obtain ⟨a, b, xs, ys, m, k, rfl, ha, hb, ra, rb⟩ := r1.two_tup
  refine wp_mono (list_tzip X.room.hand g1.sat ha hb ra rb hn) fun x s2 q => PySem.Calls.spliced_nil (wp_mono q fun v s3 ⟨F3, c, e, g3, f3, n3, o3⟩ => ⟨F3, c, e, g1.trans g3, f3, g1.fresh_back n3, o3⟩)
end Ev
set_option maxRecDepth 100000
namespace Ev
open PySem PySem.W PySem.Spec PySem.Calls PyProof.Rows PySem.SeqAt
section
variable {prog : Program} {w : World} {A : Around} {E : Value → Shared → Prop} {s : Shared}
theorem list_no_keys : typeLookup (.type "list") (Str.ofString "keys") = pure none := by rw [typeLookup_type, builtinLookup_eq_fast]; kernel_rfl
theorem list_keys {a : Addr} {xs : Array Value} {k : Nat} {Q : Option Value → Shared → Prop} (hx : s.heap.get? a = some (seqObj "list" xs k)) (hA : A.handled = none)
    (h : ∀ h' tk, (∀ b o, s.heap.get? b = some o → h'.get? b = some o) → Q none { s with heap := h', toks := tk }) : wpAny (model prog w) A (getAttr? (.ref a) (Str.ofString "keys")) Q E s := by
  obtain ⟨hp, g, d, tk, os⟩ := s
  have hT : ∀ tk', (⟨hp, g, d, tk', os⟩ : Shared).TypeIs (.ref a) "list" := fun _ => ⟨_, hx, rfl⟩
  have f1 := sub_AttributeError
  have f3 := PySem.F.slot_list_getattribute.lookup
  have f4 := PySem.F.slot_list_getattribute.bind (.ref a)
  have f5 := am_list_getattr_none
  unfold getAttr? getAttrBy? getAttrBy
  repeat (any_goals (first | assumption | exact hT _ | ((with_reducible show wpAny _ _ (call (Value.builtin "list.__getattribute__") _ _) _ _ _); refine call_meets PySem.F.slot_list_getattribute (hT _) am_entry_list_getattribute (PySem.F.args_list_getattribute_2 _ _) (meets_getattribute_miss_list a xs k #[] _ _ list_no_keys (by decide) (by size_fits)) ⟨hx, hA, fun h' tk' e hx' => ?_⟩) | wp_step))
  obtain ⟨t', u', he⟩ := hx'.there
  show wpAny _ _ (getattributeRaised _ _ _ _ _ _ _) _ _ _
  unfold getattributeRaised
  repeat (any_goals (first | assumption | wp_step))
  trace_state
  exact h _ _ hx'.keeps
end
end Ev
set_option maxRecDepth 100000
namespace Ev
open PySem PySem.W PySem.Spec PySem.Calls PyProof.Rows PySem.SeqAt
variable {C : Cx} {n : Nat} {sc : Scope} {A : Around} {env : Env} {base : Fz} {low : Fz} {F F' F'' : Fz} {s s' s'' : Shared} {σ : Ev.St}
theorem setK_len (kvs : List (PyData × PyData)) (k d : PyData) : (setK kvs k d).length ≤ kvs.length + 1 := by
  induction kvs with
  | nil => exact Nat.le_refl _
  | cons kv r ih =>
    unfold setK
    split
    · exact Nat.le_succ _
    · exact Nat.succ_le_succ ih
theorem plain_upd_loop : plainId "dict.update.loop" = true := by decide +kernel
theorem entry_upd_loop : entryFor table "dict.update.loop" = some Builtin.«dict.update.loop» := entryFor_of_fast (by kernel_rfl)
theorem upd_loop {S I l : Addr} {ws : Array Value} {r kvs' : List (PyData × PyData)} (hH : ∀ d, C.H d = hashK C.w d) (hu : A.in1.units + 100 < cLine) (hh : A.handled = none) (nSI : S ≠ I) (nIl : l ≠ I) (nSl : l ≠ S) (rl : RL C.H F ws.toList (r.map pairD)) (hS0 : F S = none) (hI0 : F I = none)
    (hr : r.length ≤ 1048576) {Q : Result → Shared → Prop} {s0 : Shared} (hQ : ∀ s', Adv [S, I] F s0 F s' → Ow C.H F s'.heap S (.dict kvs') → Q (.ok (.ret .none)) s') :
    ∀ (k i : Nat) (s : Shared) (kvs : List (PyData × PyData)), r.length - i = k → i ≤ r.length → s.heap.IsListIter I l i → s.heap.IsList l ws → Adv [S, I] F s0 F s → Ow C.H F s.heap S (.dict kvs) → kvs.length ≤ i → putAllK kvs (r.drop i) = some kvs' →
      codeAny (model C.prog C.w) A (.builtin "dict.update.loop" ⟨[.ref S, .ref I, rawInt i, .none], []⟩) Q s := by
  have hsz : ws.size = r.length := by rw [rl_arr rl, List.length_map]
  have W := Walks.list (prog := C.prog) (w := C.w) (A := A.in1) hh I l nIl ws
  have off : ∀ a ∈ [S, I], F a = none := fun a m => by
    simp only [List.mem_cons, List.not_mem_nil, or_false] at m
    rcases m with rfl | rfl <;> assumption
  intro k
  induction k with
  | zero =>
    intro i s kvs hk hi it hl v ow _ hp
    have hin : i = r.length := by omega
    subst hin
    refine codeAny_builtin entry_upd_loop ?_
    rw [Around.under_plainId plain_upd_loop _]
    show wpAny _ A.in1 (pyNext (.ref I) >>= _) _ _ _
    refine wpAny_bind (W.done s _ _ (by rw [hsz]; exact ⟨it, hl⟩) fun h' tk kp => ?_)
    have kp' : ∀ b o, b ≠ I → s.heap.get? b = some o → h'.get? b = some o := fun b o hb e => kp b o (fun m => hb (List.mem_singleton.mp m)) e
    rw [List.drop_length] at hp
    (first | exact ns hp | exact nb hp | obtain rfl := si hp | cases hp)
    refine wpAny_pure (hQ _ (v.trans (Adv.ofKeep v.sat off fun b o hb e => kp' b o (fun q => hb (q ▸ by simp)) e) off) (ow.grow (Sub.refl F) fun o e => kp' S o nSI e))
  | succ k ih =>
    intro i s kvs hk hi it hl v ow hkl hp
    have hlt : i < r.length := by omega
    refine codeAny_builtin entry_upd_loop ?_
    rw [Around.under_plainId plain_upd_loop _]
    show wpAny _ A.in1 (pyNext (.ref I) >>= _) _ _ _
    refine wpAny_bind (W.item i s _ _ (by rw [hsz]; exact hlt) ⟨it, hl⟩ fun x h' tk hx st kp => ?_)
    have kp' : ∀ b o, b ≠ I → s.heap.get? b = some o → h'.get? b = some o := fun b o hb e => kp b o (fun m => hb (List.mem_singleton.mp m)) e
    rw [List.drop_eq_getElem_cons hlt] at hp
    generalize hkd : r[i] = kd at hp
    obtain ⟨key, d⟩ := kd
    unfold putAllK at hp
    split at hp
    · rename_i hc
      obtain ⟨hc1, hc2⟩ := Bool.and_eq_true_iff.mp hc
      obtain ⟨u, hu', ru⟩ := rl.get (i := i) (d := pairD (key, d)) (by rw [List.getElem?_map, List.getElem?_eq_getElem hlt, hkd]; rfl)
      rw [Array.getElem?_toList] at hu'
      rw [hx] at hu'
      cases hu'
      obtain ⟨a, vs, m, rfl, ha, rv⟩ := ru.toTuple
      have v1 : Adv [S, I] F s0 F { s with heap := h', toks := tk } := v.trans (Adv.ofKeep v.sat off fun b o hb e => kp' b o (fun q => hb (q ▸ by simp)) e) off
      have ha' := v1.sat a _ ha
      obtain ⟨kv, r1, hvs, rk, rv⟩ := rv.uncons
      obtain ⟨dv, r2, rfl, rd, rv⟩ := rv.uncons
      cases rv
      refine wpAny_bind (wpAny_holding (wpAny_bind (wpAny_tryCatch ?_)))
      unfold Builtin.Dict.pairItems
      refine wpAny_bind (wpAny_typeOf (T := "tuple") ⟨_, ha', rfl⟩ ?_)
      first | with_reducible refine w_pos (by decide) ?_ | with_reducible refine wb_pos (by decide) ?_ | rw [if_pos (by decide)]
      refine wpAny_bind ?_
      unfold seqItems?
      refine wpAny_bind (wpAny_load ha' (wpAny_pure (wpAny_pure ?_)))
      show wpAny _ _ (match vs.toList with | [k, v] => _ | l => _) _ _ _
      rw [hvs]
      refine wpAny_holding (dset_wp hH hu v1.sat (ow.grow (Sub.refl F) fun o e => kp' S o nSI e) rk rd hc1 (of_decide_eq_true hc2) fun h2 t ow2 sb => ?_)
      have up : ∀ b o, b ≠ S → h'.get? b = some o → h2.get? b = some o := fun b o hb e => (sb.2 b hb).trans e
      refine wpAny_pure ⟨plainId_quiet plain_upd_loop _, ?_⟩
      have hl2 : (setK kvs key d).length ≤ i + 1 := Nat.le_trans (setK_len kvs key d) (by omega)
      refine ih (i + 1) { s with heap := h2, toks := t } (setK kvs key d) (by omega) hlt ?_ ?_ (v1.trans (Adv.ofKeep (s := { s with heap := h', toks := tk }) v1.sat off fun b o hb e => up b o (fun q => hb (q ▸ by simp)) e) off) ow2 hl2 hp
      · obtain ⟨o, e, q⟩ := st.1; exact ⟨o, up I o (Ne.symm nSI) e, q⟩
      · obtain ⟨o, e, q⟩ := st.2; exact ⟨o, up l o nSl e, q⟩
    · (first | exact ns hp | exact nb hp | obtain rfl := si hp | cases hp)
noncomputable def pairL (x : PyData) (q : List (PyData × PyData)) : Option (List (PyData × PyData)) := match x with
  | .tuple ks => match ks with
    | [] => none
    | k :: ks => match ks with
      | [] => none
      | d :: ks => match ks with
        | [] => some ((k, d) :: q)
        | _ :: _ => none
  | _ => none
noncomputable def pairsL : List PyData → Option (List (PyData × PyData))
  | [] => some []
  | x :: r => match pairsL r with
    | some q => pairL x q
    | none => none
theorem pairsL_spec : ∀ {ds : List PyData} {r : List (PyData × PyData)}, pairsL ds = some r → ds = r.map pairD := by
  intro ds
  induction ds with
  | nil => intro r h; (first | exact ns h | exact nb h | obtain rfl := si h | cases h); rfl
  | cons d ds ih =>
    intro r h
    have h : (match pairsL ds with | some q => pairL d q | none => none) = some r := h
    cases hq : pairsL ds with
    | none => rw [hq] at h; (first | exact ns h | exact nb h | obtain rfl := si h | cases h)
    | some q =>
      rw [hq] at h
      rw [ih hq]
      cases d with
      | tuple ks =>
        rcases ks with _ | ⟨k, _ | ⟨x, _ | ⟨_, _⟩⟩⟩
        · (first | exact ns h | exact nb h | obtain rfl := si h | cases h)
        · (first | exact ns h | exact nb h | obtain rfl := si h | cases h)
        · (first | exact ns h | exact nb h | obtain rfl := si h | cases h); rfl
        · (first | exact ns h | exact nb h | obtain rfl := si h | cases h)
      | _ => (first | exact ns h | exact nb h | obtain rfl := si h | cases h)
noncomputable def dictG : List PyData → Option PyData
  | [.list ds] => match pairsL ds with
    | some r => if decide (r.length ≤ 1048576) then (match putAllK [] r with
      | some kvs => some (.dict kvs)
      | none => none) else none
    | none => none
  | _ => none
theorem dict_call {l : Addr} {ws : Array Value} {m : Nat} {r kvs : List (PyData × PyData)} (hH : ∀ d, C.H d = hashK C.w d) (hu : A.units + 400 < cLine) (hh : A.handled = none) (hs : Sat F s.heap) (hsm : (s.heap.objs.size == sysModules) = false) (hl : s.heap.get? l = some (seqObj "list" ws m)) (rl : RL C.H F ws.toList (r.map pairD))
    (hr : r.length ≤ 1048576) (hp : putAllK [] r = some kvs) : Wp C A (call (.type "dict") [.ref l]) (PostO C F s (.dict kvs)) s := by
  refine callType_codes (Q₁ := fun obj s₁ => obj = .ref s.heap.objs.size ∧ s₁ = { s with heap := s.heap.push { cls := .type "dict", data := .dict #[] } }) PySem.F.kt_called_dict (PySem.F.kt_typeCall_dict_1 _) PySem.F.entry_dict_init (kt_code_dict_new _ ⟨rfl, rfl⟩) ?_
  rintro obj s₁ ⟨rfl, rfl⟩
  have hS := Heap.get?_push_size s.heap (o := { cls := .type "dict", data := .dict #[] }) rfl
  have nlS : l ≠ s.heap.objs.size := Nat.ne_of_lt (Heap.lt_size hl)
  have ow0 : Ow C.H F (s.heap.push { cls := .type "dict", data := .dict #[] }) s.heap.objs.size (.dict []) := dict_new_ow hsm hS
  have k0 : ∀ b o, s.heap.get? b = some o → (s.heap.push { cls := .type "dict", data := .dict #[] }).get? b = some o := fun b o e => Heap.get?_push_of_some _ e
  have hT : Shared.TypeIs { s with heap := s.heap.push { cls := .type "dict", data := .dict #[] } } (.ref s.heap.objs.size) "dict" := ⟨_, hS, rfl⟩
  refine ⟨hT, PySem.F.args_dict_init_2 _ _, ?_⟩
  generalize s.heap.push { cls := .type "dict", data := .dict #[] } = h0 at hS ow0 k0 hT
  unfold Builtin.«dict.__init__»
  refine wpAny_bind ?_
  unfold Builtin.Dict.selfAndRest
  refine wpAny_bind (wpAny_notOrdered_dict hT ?_)
  show wpAny _ _ (pure (s.heap.objs.size, [Value.ref l])) _ _ _
  refine wpAny_pure ?_
  show wpAny _ _ (Builtin.Dict.updateFrom "dict.__init__" s.heap.objs.size (.ref l) [] .none) _ _ _
  unfold Builtin.Dict.updateFrom
  refine wpAny_bind (wpAny_typeOf (T := "list") ⟨_, k0 _ _ hl, rfl⟩ ?_)
  first | with_reducible refine w_pos (by decide) ?_ | with_reducible refine wb_pos (by decide) ?_ | rw [if_pos (by decide)]
  refine wpAny_bind (list_keys (k0 _ _ hl) hh fun h1 tk k1 => ?_)
  first | with_reducible refine w_pos (by decide) ?_ | with_reducible refine wb_pos (by decide) ?_ | rw [if_pos (by decide)]
  have k1' : ∀ b o, s.heap.get? b = some o → h1.get? b = some o := fun b o e => k1 b o (k0 b o e)
  refine wpAny_bind (wpAny_rule (wpAny_bind (wpAny_pyIter_list (items := ws) ⟨_, k1' _ _ hl, rfl, m, rfl⟩ ?_)))
  generalize hSe : s.heap.objs.size = S at *
  have k2 : ∀ b o, s.heap.get? b = some o → (h1.push { cls := .type "list_iterator", data := .fields #[.ref l, .int 0 0] }).get? b = some o := fun b o e => Heap.get?_push_of_some _ (k1' b o e)
  have hS1 := k1 _ _ hS
  have nSI : S ≠ h1.objs.size := Nat.ne_of_lt (Heap.lt_size hS1)
  have nI : s.heap.get? h1.objs.size = none := by
    cases q : s.heap.get? h1.objs.size with
    | none => rfl
    | some o => exact absurd (Heap.lt_size (k1' _ _ q)) (Nat.lt_irrefl _)
  have nS : s.heap.get? S = none := by rw [← hSe]; exact get_size _
  have g2 : Grow F s F { s with heap := h1.push { cls := .type "list_iterator", data := .fields #[.ref l, .int 0 0] }, toks := tk } := .ofKeep hs k2 rfl rfl rfl
  refine wpAny_pure ⟨plainId_quiet plain_upd_loop _, upd_loop (A := A.in1) (s0 := { s with heap := h1.push { cls := .type "list_iterator", data := .fields #[.ref l, .int 0 0] }, toks := tk }) (kvs' := kvs) hH (by show A.units + 1 + 1 + 100 < _; omega) hh nSI (Nat.ne_of_lt (Heap.lt_size (k1' _ _ hl))) nlS rl (sat_fresh hs nS) (sat_fresh hs nI) hr (fun s' v ow => ?_) r.length 0 _ [] rfl (Nat.zero_le _)
    ⟨_, Heap.get?_push_size _ rfl, rfl, rfl⟩ ⟨_, k2 _ _ hl, rfl, m, rfl⟩ ⟨fun _ _ _ e => e, Sub.refl F, fun _ _ e => .inl e, g2.sat, rfl, rfl, rfl⟩ (ow0.grow (Sub.refl F) fun o e => Heap.get?_push_of_some _ (k1 _ _ e)) (Nat.le_refl _) hp⟩
  refine ⟨rfl, F, S, rfl, ⟨fun b o e => v.keep b o (fun q => ?_) (k2 b o e), v.sub, fun _ _ e => .inl e, v.sat, v.gens, v.drawn, v.os⟩, sat_fresh hs nS, nS, ow⟩
  simp only [List.mem_cons, List.not_mem_nil, or_false] at q
  rcases q with rfl | rfl
  · rw [nS] at e; (first | exact ns e | exact nb e | obtain rfl := si e | cases e)
  · rw [nI] at e; (first | exact ns e | exact nb e | obtain rfl := si e | cases e)
theorem SndO.dictOf {px pos : Pos} {e : Expr} {f : Ev.St → Option PyData} (hb : C.Bi "dict" (.type "dict")) (hk : sc.names.lookup (Str.ofString "dict") = some .globalImplicit) (h : SndB C n sc e f) (hst : ∀ r env, starEach (e :: r) env = (false, eval e env) :: starEach r env) :
    SndO C n sc (.Call (.Name "dict" px) [e] [] pos) (Ev.callC dictG [f]) := fun {A env base low F s σ d} X hf => by
  unfold Ev.callC at hf
  cases e1 : asC [f] σ with
  | none => rw [e1] at hf; (first | exact ns hf | exact nb hf | obtain rfl := si hf | cases hf)
  | some ds =>
    rw [e1] at hf
    dsimp only at hf
    refine Call_ (wp_builtin X hb hk (PyProof.Rows.callWith_type1 (wp_mono (argsB_wp (.cons h .nil hst) X e1) fun vs s1 ⟨F1, g1, r1⟩ => ?_) (hst _ _) rfl))
    unfold dictG at hf
    split at hf
    · rename_i ls
      split at hf
      · rename_i r hr
        split at hf
        · rename_i hr2
          split at hf
          · rename_i kvs hp
            (first | exact ns hf | exact nb hf | obtain rfl := si hf | cases hf)
            obtain ⟨v, rfl, c⟩ := r1.one
            obtain ⟨a, ws, m, rfl, ha, rl⟩ := c.list g1.sat
            rw [pairsL_spec hr] at rl
            have X1 := X.grow g1
            refine wp_mono (dict_call X.ok.hH X.room.in1 X.room.hand g1.sat (X.ok.small X1.keep0 (Nat.le_refl _)) ha rl (of_decide_eq_true hr2) hp) fun v s3 ⟨F3, c, e, g3, f3, n3, o3⟩ => ⟨F3, c, e, g1.trans g3, f3, g1.fresh_back n3, o3⟩
          · (first | exact ns hf | exact nb hf | obtain rfl := si hf | cases hf)
        · (first | exact ns hf | exact nb hf | obtain rfl := si hf | cases hf)
      · (first | exact ns hf | exact nb hf | obtain rfl := si hf | cases hf)
    · (first | exact ns hf | exact nb hf | obtain rfl := si hf | cases hf)
end Ev
set_option maxRecDepth 100000
namespace Ev
open PySem PySem.W PySem.Spec PySem.Calls PyProof.Rows PySem.SeqAt
variable {C : Cx} {n : Nat} {sc : Scope} {A : Around} {env : Env} {base : Fz} {low : Fz} {F F' F'' : Fz} {s s' s'' : Shared} {σ : Ev.St}
theorem int_pairs {H : PyData → Int} {prog : Program} {w : World} (hH : ∀ d, H d = hashK w d) {kd : Bool} : ∀ {es : List DictEntry} {kvs : List (PyData × PyData)}, RD H F kd es kvs → kvs.all (fun x => isIntD x.1) = true →
    ∃ ivs : List (Int × Value), Pairs (intKind prog w) es ivs ∧ (∀ e ∈ es, ∃ k, (intKind prog w).is k e.key = true ∧ e.hash = (intKind prog w).hash k) ∧ (∀ (j : Nat) (i : Int) (x : Value), ivs[j]? = some (i, x) → ∃ d, kvs[j]? = some (PyData.int i, d) ∧ R H F x d) ∧ ivs.map (fun p => PyData.int p.1) = kvs.map (·.1) := fun {_ _} r =>
  RD.ind (P := fun es kvs => kvs.all (fun x => isIntD x.1) = true → ∃ ivs : List (Int × Value), Pairs (intKind prog w) es ivs ∧ (∀ e ∈ es, ∃ k, (intKind prog w).is k e.key = true ∧ e.hash = (intKind prog w).hash k) ∧ (∀ (j : Nat) (i : Int) (x : Value), ivs[j]? = some (i, x) → ∃ d, kvs[j]? = some (PyData.int i, d) ∧ R H F x d) ∧ ivs.map (fun p => PyData.int p.1) = kvs.map (·.1))
    (fun _ => ⟨[], .nil, (fun _ h => nomatch h), (fun _ _ _ h => nomatch h), rfl⟩) (fun {e es k d kvs} a b c dp x y _ ih ha => by
    obtain ⟨a1, a2⟩ := Bool.and_eq_true_iff.mp (List.all_cons.symm.trans ha)
    obtain ⟨ivs, h1, h2, h3, h4⟩ := ih a2
    obtain ⟨i, rfl⟩ := isIntD_spec a1
    obtain ⟨t, ht⟩ := x.toInt
    have hi : (intKind prog w).is i e.key = true := by rw [ht]; exact beq_self_eq_true i
    refine ⟨(i, e.val) :: ivs, .cons hi rfl h1, fun e' m => ?_, fun j i' x' h => ?_, congrArg (PyData.int i :: ·) h4⟩
    · rcases List.mem_cons.mp m with rfl | m
      · exact ⟨i, hi, a.trans (hH _)⟩
      · exact h2 e' m
    · cases j with
      | zero => (first | exact ns h | exact nb h | obtain rfl := si h | cases h); exact ⟨d, rfl, y⟩
      | succ j => exact h3 j i' x' h) r
theorem rl_of_get {H : PyData → Int} : ∀ {vs : List Value} {ds : List PyData}, vs.length = ds.length → (∀ (j : Nat) (v : Value) (d : PyData), vs[j]? = some v → ds[j]? = some d → R H F v d) → RL H F vs ds := by
  intro vs
  induction vs with
  | nil => intro ds h _; cases ds with | nil => exact .nil | cons => (first | exact ns h | exact nb h | obtain rfl := si h | cases h)
  | cons v vs ih =>
    intro ds h hg
    cases ds with
    | nil => (first | exact ns h | exact nb h | obtain rfl := si h | cases h)
    | cons d ds => exact .cons (hg 0 v d rfl rfl) (ih (Nat.succ.inj h) fun j v d h1 h2 => hg (j + 1) v d h1 h2)
theorem list_items {kvs : List (PyData × PyData)} {kd : Bool} (hH : ∀ d, C.H d = hashK C.w d) (hh : A.handled = none) (hs : Sat F s.heap) {d v : Addr} {o : Obj} {es : Array DictEntry} {ep : Nat} (ho : s.heap.get? d = some o) (hc : o.ExactDict) (hd : o.data = .dict es ep)
    (r : RD C.H F kd es.toList kvs) (hn : (kvs.map (·.1)).Nodup) (hi : kvs.all (fun x => isIntD x.1) = true) (hz : kvs.length ≤ 1048576) (hv : s.heap.IsItemsView v d) : Wp C A (call (.type "list") [.ref v]) (PostO C F s (.list (kvs.map pairD))) s := by
  obtain ⟨ivs, h1, h2, h3, h4⟩ := int_pairs (prog := C.prog) (w := C.w) hH r hi
  have hlen : ivs.length = kvs.length := by
    have := congrArg List.length h4
    rwa [List.length_map, List.length_map] at this
  have hnd : (ivs.map (·.1)).Nodup := by
    rw [← h4] at hn
    have e : ivs.map (fun p => PyData.int p.1) = (ivs.map (·.1)).map PyData.int := by rw [List.map_map]; rfl
    rw [e] at hn
    exact (List.pairwise_map.mp hn).imp fun h e => h (congrArg _ e)
  have hat : s.heap.DictAt (intKind C.prog C.w) d ivs ep := ⟨o, es, ho, hc, hd, fun e he => h2 e (Array.mem_toList_iff.mpr he), h1, hnd⟩
  refine kdx_call hh hv hat (by rw [hlen, sizeLine_eq]; omega) fun h' tk acc c as hk hS hl hG hacc => ?_
  have hgt : ∀ a ∈ as, s.heap.get? a = none := fun a m => by
    cases q : s.heap.get? a with
    | none => rfl
    | some o' => exact absurd (Heap.lt_size q) (Nat.not_lt.mpr (Nat.le_of_lt (hG.above a m)))
  let G : Fz := fun b => if b ∈ as then h'.get? b else F b
  have hsub : Sub F G := fun b o' e => by
    show (if b ∈ as then h'.get? b else F b) = some o'
    rw [if_neg fun m => by rw [sat_fresh hs (hgt b m)] at e; cases e]; exact e
  have hS0 : s.heap.objs.size ∉ as := fun m => Nat.lt_irrefl _ (hG.above _ m)
  refine ⟨G, s.heap.objs.size, rfl, ⟨hk, hsub, fun a o' e => ?_, fun a o' e => ?_, rfl, rfl, rfl⟩, ?_, get_size _, .list hS ?_⟩
  · by_cases m : a ∈ as
    · exact .inr (hgt a m)
    · left; have e' : (if a ∈ as then h'.get? a else F a) = some o' := e
      rwa [if_neg m] at e'
  · have e' : (if a ∈ as then h'.get? a else F a) = some o' := e
    by_cases m : a ∈ as
    · rwa [if_pos m] at e'
    · rw [if_neg m] at e'; exact hk _ _ (hs _ _ e')
  · show (if s.heap.objs.size ∈ as then h'.get? s.heap.objs.size else F s.heap.objs.size) = none
    rw [if_neg hS0]; exact sat_fresh hs (get_size _)
  · rw [hacc]
    refine rl_of_get (by rw [List.length_map, List.length_map, hl, hlen]) fun j x dd e1 e2 => ?_
    rw [List.getElem?_map] at e1 e2
    cases ha : as[j]? with
    | none => rw [ha] at e1; (first | exact ns e1 | exact nb e1 | obtain rfl := si e1 | cases e1)
    | some a =>
      rw [ha] at e1; (first | exact ns e1 | exact nb e1 | obtain rfl := si e1 | cases e1)
      obtain ⟨key, k, y, q1, q2, q3⟩ := hG.pairs j a ha
      obtain ⟨dd', q4, ry⟩ := h3 j k y q1
      rw [q4] at e2; (first | exact ns e2 | exact nb e2 | obtain rfl := si e2 | cases e2)
      obtain ⟨t, rfl⟩ := Value.isInt_shape q2
      have m : a ∈ as := List.mem_of_getElem? ha
      exact .tuple (vs := #[.int k t, y]) (n := 0) (show (if a ∈ as then h'.get? a else F a) = _ by rw [if_pos m]; exact q3) (.cons (.int _ _) (.cons (ry.mono hsub) .nil))
noncomputable def liC (f : Ev.St → Option PyData) : Ev.St → Option PyData := fun σ => match f σ with
  | some (.dict kvs) => if kvs.all (fun x => isIntD x.1) && decide (kvs.length ≤ 1048576) then some (.list (kvs.map pairD)) else none
  | _ => none
theorem SndO.listItems {o : Expr} {pl apos pos lpos : Pos} {f : Ev.St → Option PyData} (hbl : C.Bi "list" (.type "list")) (hkl : sc.names.lookup (Str.ofString "list") = some .globalImplicit) (h : Snd C n sc o f) (hbase : ∀ env, attributeBase o "items" env (eval o env) = eval o env) (hline : (apos.endLine == pos.line) = true) :
    SndO C n sc (.Call (.Name "list" pl) [.Call (.Attribute o "items" apos) [] [] pos] [] lpos) (liC f) := fun {A env base low F s σ d} X hf => by
  unfold liC at hf
  split at hf
  · rename_i kvs e1
    split at hf
    · rename_i hc
      obtain ⟨c1, c2⟩ := Bool.and_eq_true_iff.mp hc
      (first | exact ns hf | exact nb hf | obtain rfl := si hf | cases hf)
      refine Call_ (wp_builtin X hbl hkl (PyProof.Rows.callWith_type1 (PySem.Calls.spliced_cons (wpAny_Call_method (T := "dict") (id := "dict.items") (hbase env) rfl hline PySem.F.plainAttrs_dict PySem.F.slot_dict_items PySem.F.type_dict_items (wp_mono (h X e1) fun v s1 ⟨F1, g1, r1⟩ => ?_))) rfl rfl))
      cases r1 with
      | @dict a o es m _ kd hsm ho hc hd r hn =>
        have ho' := g1.sat _ _ ho
        refine ⟨⟨_, ho', hc.1⟩, fun a e => by (first | exact ns e | exact nb e | obtain rfl := si e | cases e); exact ⟨_, ho', hc.2.1⟩, ?_⟩
        refine PyProof.Rows.callWith_method0 (raw_items_call hsm ⟨_, ho', hc, hd⟩ (PySem.Calls.spliced_nil ?_))
        have g2 : Grow F1 s1 F1 { s1 with heap := s1.heap.push { cls := .type "dict_items", data := .fields #[.ref a] } } := .ofKeep g1.sat (fun c o q => Heap.get?_push_of_some _ q) rfl rfl rfl
        exact wp_mono (list_items (s := { s1 with heap := _ }) X.ok.hH X.room.hand g2.sat (g2.keep _ _ ho') hc hd r hn c1 (of_decide_eq_true c2) ⟨_, Heap.get?_push_size _ rfl, rfl, rfl⟩) fun v s3 ⟨F3, c, e, g3, f3, n3, o3⟩ => ⟨F3, c, e, (g1.trans g2).trans g3, f3, (g1.trans g2).fresh_back n3, o3⟩
    · (first | exact ns hf | exact nb hf | obtain rfl := si hf | cases hf)
  · (first | exact ns hf | exact nb hf | obtain rfl := si hf | cases hf)
end Ev
set_option maxRecDepth 100000
set_option maxHeartbeats 4000000
namespace L3
open PySem PySem.W PySem.Spec PySem.Calls PyProof.Rows PySem.SeqAt Ev
noncomputable abbrev D (i : Nat) : Stmt := defAt PySem.Challenge.pw_gl0003_03 i
structure Wd (C : Cx) where
  ok : C.Ok
  b_len : C.Bi "len" (.builtin "len")
  b_sum : C.Bi "sum" (.builtin "sum")
  b_min : C.Bi "min" (.builtin "min")
  b_sorted : C.Bi "sorted" (.builtin "sorted")
  b_isinstance : C.Bi "isinstance" (.builtin "isinstance")
  b_tuple : C.Bi "tuple" (.type "tuple")
  b_range : C.Bi "range" (.type "range")
  b_dict : C.Bi "dict" (.type "dict")
  b_list : C.Bi "list" (.type "list")
  b_zip : C.Bi "zip" (.type "zip")
  a_add_callers : Addr
  pm_add_callers : Value
  cd_add_callers : Value
  doc_add_callers : Value
  g_add_callers : C.Gl "add_callers" (.ref a_add_callers)
  d_add_callers : DefAt C a_add_callers (docDef (nameS (D 1)) (paramS (D 1)) (bodyS (D 1)) (scopeS (D 1)) pm_add_callers cd_add_callers doc_add_callers) (bodyS (D 1))
  a_count_calls : Addr
  pm_count_calls : Value
  cd_count_calls : Value
  doc_count_calls : Value
  g_count_calls : C.Gl "count_calls" (.ref a_count_calls)
  d_count_calls : DefAt C a_count_calls (docDef (nameS (D 2)) (paramS (D 2)) (bodyS (D 2)) (scopeS (D 2)) pm_count_calls cd_count_calls doc_count_calls) (bodyS (D 2))
  a_insort_left : Addr
  fd_insort_left : FuncData
  g_insort_left : C.Gl "insort_left" (.ref a_insort_left)
  d_insort_left : DefAt C a_insort_left fd_insort_left (bodyS (D 4))
  s_insort_left : fd_insort_left.scope = scopeS (D 4)
  i_insort_left : InsDef C fd_insort_left
  a_bisect_left : Addr
  fd_bisect_left : FuncData
  g_bisect_left : C.Gl "bisect_left" (.ref a_bisect_left)
  d_bisect_left : DefAt C a_bisect_left fd_bisect_left (bodyS (D 5))
  s_bisect_left : fd_bisect_left.scope = scopeS (D 5)
  i_bisect_left : InsDef C fd_bisect_left
  a__law_parts : Addr
  pm__law_parts : Value
  cd__law_parts : Value
  doc__law_parts : Value
  g__law_parts : C.Gl "_law_parts" (.ref a__law_parts)
  d__law_parts : DefAt C a__law_parts (docDef (nameS (D 7)) (paramS (D 7)) (bodyS (D 7)) (scopeS (D 7)) pm__law_parts cd__law_parts doc__law_parts) (bodyS (D 7))
  a__law_colours : Addr
  pm__law_colours : Value
  cd__law_colours : Value
  doc__law_colours : Value
  g__law_colours : C.Gl "_law_colours" (.ref a__law_colours)
  d__law_colours : DefAt C a__law_colours (docDef (nameS (D 8)) (paramS (D 8)) (bodyS (D 8)) (scopeS (D 8)) pm__law_colours cd__law_colours doc__law_colours) (bodyS (D 8))
noncomputable def N_bisect_left : List Str := ["a", "x", "lo", "hi", "key", "mid"]
noncomputable def F_bisect_left : Sm := (seqC2 (ifS (cmC .Lt (bC 2) (cC (.int 0))) neverC skipC)
  (seqC2 (ifS (isNoneC (vC 3)) (setC 3 (callC lenG [(bC 0)])) skipC)
  (seqC2 (ifS (isNoneC (vC 4)) (whileC (cmC .Lt (bC 2) (bC 3)) (seqC2 (setC 5 (opC .FloorDiv (opC .Add (bC 2) (bC 3)) (cC (.int 2))))
  (ifS (cmC .Lt (subC (bC 0) (vC 5)) (bC 1)) (setC 2 (opC .Add (bC 5) (cC (.int 1)))) (setC 3 (vC 5)))) 16) neverC)
  (retC (vC 2)))))
theorem S_bisect_left {C : Cx} (W : Wd C) : SndSs (C.fn N_bisect_left none) 0 (scopeS (D 5)) (bodyS (D 5)) F_bisect_left :=
 (@SndSs.cons _ _ _ _ _ _ _ (@SndS.ifs _ _ _ _ _ _ _ _ _ _ (@SndT.cmp _ _ _ _ _ _ _ _ _ (@SndB.var _ _ _ _ _ _ rfl rfl rfl) (@Snd.b _ _ _ _ _ (@Snd.int _ _ _ _ _ _)) rfl) (@SndSs.never _ _ _ _) (@SndSs.nil _ _ _)) (@SndSs.cons _ _ _ _ _ _ _ (@SndS.ifs _ _ _ _ _ _ _ _ _ _ (@SndT.isNone _ _ _ _ _ _ _ _ (@Snd.var _ _ _ _ _ _ rfl rfl rfl)) (@SndSs.one _ _ _ _ _ (@SndS.assign _ _ _ _ _ _ _ _ _ rfl ⟨.inl rfl, (NoPin.none rfl _)⟩ (@Snd.bi _ _ _ _ _ _ _ _ _ _ _ _ W.b_len rfl (@biLen _) (@SndAs.cons _ _ _ _ _ _ _ (@SndB.var _ _ _ _ _ _ rfl rfl rfl) (@SndAs.nil _ _ _) (fun _ _ => rfl)) (fun _ => rfl) rfl) (fun _ => rfl))) (@SndSs.nil _ _ _)) (@SndSs.cons _ _ _ _ _ _ _ (@SndS.ifs _ _ _ _ _ _ _ _ _ _ (@SndT.isNone _ _ _ _ _ _ _ _ (@Snd.var _ _ _ _ _ _ rfl rfl rfl)) (@SndSs.one _ _ _ _ _ (@SndS.while _ _ _ _ _ _ _ _ 16 (@SndT.cmp _ _ _ _ _ _ _ _ _ (@SndB.var _ _ _ _ _ _ rfl rfl rfl) (@SndB.var _ _ _ _ _ _ rfl rfl rfl) rfl) (@SndSs.cons _ _ _ _ _ _ _ (@SndS.assign _ _ _ _ _ _ _ _ _ rfl ⟨.inl rfl, (NoPin.none rfl _)⟩ (@Snd.bin _ _ _ _ _ _ _ _ _ (@Snd.b _ _ _ _ _ (@Snd.bin _ _ _ _ _ _ _ _ _ (@SndB.var _ _ _ _ _ _ rfl rfl rfl) (@SndB.var _ _ _ _ _ _ rfl rfl rfl))) (@Snd.b _ _ _ _ _ (@Snd.int _ _ _ _ _ _))) (fun _ => rfl)) (@SndSs.one _ _ _ _ _ (@SndS.ifs _ _ _ _ _ _ _ _ _ _ (@SndT.cmp _ _ _ _ _ _ _ _ _ (@Snd.b _ _ _ _ _ (@Snd.sub _ _ _ _ _ _ _ _ (@SndB.var _ _ _ _ _ _ rfl rfl rfl) (@Snd.var _ _ _ _ _ _ rfl rfl rfl) (fun _ _ => rfl))) (@SndB.var _ _ _ _ _ _ rfl rfl rfl) rfl) (@SndSs.one _ _ _ _ _ (@SndS.assign _ _ _ _ _ _ _ _ _ rfl ⟨.inl rfl, (NoPin.none rfl _)⟩ (@Snd.bin _ _ _ _ _ _ _ _ _ (@SndB.var _ _ _ _ _ _ rfl rfl rfl) (@Snd.b _ _ _ _ _ (@Snd.int _ _ _ _ _ _))) (fun _ => rfl))) (@SndSs.one _ _ _ _ _ (@SndS.assign _ _ _ _ _ _ _ _ _ rfl ⟨.inl rfl, (NoPin.none rfl _)⟩ (@Snd.var _ _ _ _ _ _ rfl rfl rfl) (fun _ => rfl)))))))) (@SndSs.never _ _ _ _)) (@SndSs.one _ _ _ _ _ (@SndS.ret _ _ _ _ _ _ (@Snd.var _ _ _ _ _ _ rfl rfl rfl))))))
noncomputable def g_bisect4 : List PyData → Option PyData := intOnly fun ds => if ds.length = 4 then fnD F_bisect_left [.none] 1 ds else none
noncomputable def g_bisect2 : List PyData → Option PyData := intOnly fun ds => if ds.length = 2 then fnD F_bisect_left [.int 0, .none, .none] 1 ds else none
theorem ok_bisect4 {C : Cx} (W : Wd C) : FnB C 1 W.a_bisect_left g_bisect4 :=
  FnOk.ints (FnOk.mk (ps := ["a", "x", "lo", "hi", "key"]) (rest := ["mid"]) (names := N_bisect_left) (ex := [.none]) W.d_bisect_left W.ok (fun {_ _} hv hk => all4 (P := fun l => BindsTo _ _ ⟨l, []⟩ (List.zip ["a", "x", "lo", "hi", "key"] (l ++ [.none]))) (W.i_bisect_left.b4 hk) hv) (fun _ => .cons .none .nil) rfl (nodupB_ok rfl) rfl
    (by rw [W.s_bisect_left]; decide) (by rw [W.s_bisect_left]; exact S_bisect_left W))
theorem ok_bisect2 {C : Cx} (W : Wd C) : FnB C 1 W.a_bisect_left g_bisect2 :=
  FnOk.ints (FnOk.mk (ps := ["a", "x", "lo", "hi", "key"]) (rest := ["mid"]) (names := N_bisect_left) (ex := [.int 0 W.i_bisect_left.tk, .none, .none]) W.d_bisect_left W.ok (fun {_ _} hv hk => all2 (P := fun l => BindsTo _ _ ⟨l, []⟩ (List.zip ["a", "x", "lo", "hi", "key"] (l ++ [.int 0 W.i_bisect_left.tk, .none, .none]))) (W.i_bisect_left.b2 hk) hv) (fun _ => .cons (.int _ _) (.cons .none (.cons .none .nil))) rfl (nodupB_ok rfl) rfl
    (by rw [W.s_bisect_left]; decide) (by rw [W.s_bisect_left]; exact S_bisect_left W))
noncomputable def N_insort_left : List Str := ["a", "x", "lo", "hi", "key"]
noncomputable def F_insort_left : Sm := (seqC2 (ifS (isNoneC (vC 4)) (setC 2 (callC g_bisect4 [(bC 0), (bC 1), (bC 2), (bC 3)])) neverC)
  (insertC 0 (vC 2) (vC 1)))
theorem S_insort_left {C : Cx} (W : Wd C) (a : Addr) : SndSs (C.fn N_insort_left (some ("a", a))) 1 (scopeS (D 4)) (bodyS (D 4)) F_insort_left :=
 (@SndSs.cons _ _ _ _ _ _ _ (@SndS.ifs _ _ _ _ _ _ _ _ _ _ (@SndT.isNone _ _ _ _ _ _ _ _ (@Snd.var _ _ _ _ _ _ rfl rfl rfl)) (@SndSs.one _ _ _ _ _ (@SndS.assign _ _ _ _ _ _ _ _ _ rfl ⟨.inl rfl, (NoPin.of rfl (by decide))⟩ (@Snd.callB _ _ _ _ _ _ _ _ _ _ _ _ _ W.g_bisect_left rfl ⟨W.d_bisect_left.fn.fn⟩ (@ok_bisect4 _ W) (@SndAs.cons _ _ _ _ _ _ _ (@SndB.var _ _ _ _ _ _ rfl rfl rfl) (@SndAs.cons _ _ _ _ _ _ _ (@SndB.var _ _ _ _ _ _ rfl rfl rfl) (@SndAs.cons _ _ _ _ _ _ _ (@SndB.var _ _ _ _ _ _ rfl rfl rfl) (@SndAs.cons _ _ _ _ _ _ _ (@SndB.var _ _ _ _ _ _ rfl rfl rfl) (@SndAs.nil _ _ _) (fun _ _ => rfl)) (fun _ _ => rfl)) (fun _ _ => rfl)) (fun _ _ => rfl)) (by decide) rfl) (fun _ => rfl))) (@SndSs.never _ _ _ _)) (@SndSs.one _ _ _ _ _ (@SndS.insert _ _ _ _ _ _ _ _ _ _ _ _ _ rfl (@Snd.var _ _ _ _ _ _ rfl rfl rfl) (@Snd.var _ _ _ _ _ _ rfl rfl rfl) (fun _ => rfl) (fun _ => rfl) (fun _ => rfl) rfl rfl (fun _ => rfl) rfl inter_ok)))
noncomputable def g_insort : PyData → PyData → Option PyData := insD F_insort_left [.int 0, .none, .none] 0
theorem ok_insort_left {C : Cx} (W : Wd C) : FnIns C 2 W.a_insort_left g_insort :=
  FnIns.mk (xa := "a") (xx := "x") (ps := ["lo", "hi", "key"]) (rest := []) (names := N_insort_left) (ex := [.int 0 W.i_insort_left.tk, .none, .none]) W.d_insort_left W.ok (fun hk => W.i_insort_left.b2 hk _ _) (fun _ => .cons (.int _ _) (.cons .none (.cons .none .nil))) rfl (nodupB_ok rfl) rfl
    (by rw [W.s_insort_left]; decide) (fun a => by rw [W.s_insort_left]; exact S_insort_left W a)
noncomputable def N_add_callers : List Str := ["target", "source", "new_callers", "func", "caller"]
noncomputable def F_add_callers : Sm := (seqC2 (ownC 2 (cC (.dict [])))
  (seqC2 (forC (itemsC (vC 0)) (tgN [3, 4]) (putC 2 (vC 3) (vC 4)))
  (seqC2 (forC (itemsC (vC 1)) (tgN [3, 4]) (ifS (inKC (vC 3) (bC 2)) (ifS (tvC (isTupC (bC 4))) neverC (putAddC 2 (vC 3) (vC 4))) (putC 2 (vC 3) (vC 4))))
  (freeC 2 (retC (vC 2))))))
theorem S_add_callers {C : Cx} (W : Wd C) : SndSs (C.fn N_add_callers none) 0 (scopeS (D 1)) (bodyS (D 1)) F_add_callers :=
 (@SndSs.cons _ _ _ _ _ _ _ (@SndS.assignO _ _ _ _ _ _ _ _ _ rfl ⟨.inl rfl, (NoPin.none rfl _)⟩ (@SndO.dict0 _ _ _ _) (fun _ => rfl)) (@SndSs.cons _ _ _ _ _ _ _ (@SndS.forI _ _ _ _ _ _ _ _ _ _ _ (@SndTg.tuple _ _ _ _ [3, 4] ["func", "caller"] [_, _] (fun _ => rfl) rfl rfl) (List.forall_mem_cons.mpr ⟨⟨.inl rfl, (NoPin.none rfl _)⟩, (List.forall_mem_cons.mpr ⟨⟨.inl rfl, (NoPin.none rfl _)⟩, (fun _ h => nomatch h)⟩)⟩) (@SndI.items _ _ _ _ _ _ _ _ _ _ (@Snd.var _ _ _ _ _ _ rfl rfl rfl) (fun _ => rfl) rfl) (@SndSs.one _ _ _ _ _ (@SndS.put _ _ _ _ _ _ _ _ _ _ _ _ rfl (@Snd.var _ _ _ _ _ _ rfl rfl rfl) (@Snd.var _ _ _ _ _ _ rfl rfl rfl) rfl rfl (fun _ => rfl))) (fun _ _ => rfl)) (@SndSs.cons _ _ _ _ _ _ _ (@SndS.forI _ _ _ _ _ _ _ _ _ _ _ (@SndTg.tuple _ _ _ _ [3, 4] ["func", "caller"] [_, _] (fun _ => rfl) rfl rfl) (List.forall_mem_cons.mpr ⟨⟨.inl rfl, (NoPin.none rfl _)⟩, (List.forall_mem_cons.mpr ⟨⟨.inl rfl, (NoPin.none rfl _)⟩, (fun _ h => nomatch h)⟩)⟩) (@SndI.items _ _ _ _ _ _ _ _ _ _ (@Snd.var _ _ _ _ _ _ rfl rfl rfl) (fun _ => rfl) rfl) (@SndSs.one _ _ _ _ _ (@SndS.ifs _ _ _ _ _ _ _ _ _ _ (@SndT.inK _ _ _ _ _ _ _ _ (@Snd.var _ _ _ _ _ _ rfl rfl rfl) (@SndB.var _ _ _ _ _ _ rfl rfl rfl) rfl) (@SndSs.one _ _ _ _ _ (@SndS.ifs _ _ _ _ _ _ _ _ _ _ (@SndT.val _ _ _ _ _ (@Snd.b _ _ _ _ _ (@Snd.isTup _ _ _ _ _ _ _ _ W.b_isinstance W.b_tuple rfl rfl (@SndB.var _ _ _ _ _ _ rfl rfl rfl) (fun _ _ => rfl))) (fun _ _ => rfl)) (@SndSs.never _ _ _ _) (@SndSs.one _ _ _ _ _ (@SndS.putAdd _ _ _ _ _ _ _ _ _ _ _ _ rfl (@Snd.var _ _ _ _ _ _ rfl rfl rfl) (@Snd.var _ _ _ _ _ _ rfl rfl rfl) rfl rfl (by first | rfl | (intros; rfl) | decide | (intros; with_unfolding_all rfl) | (intro env h; simp [interactive, h]) | simp))))) (@SndSs.one _ _ _ _ _ (@SndS.put _ _ _ _ _ _ _ _ _ _ _ _ rfl (@Snd.var _ _ _ _ _ _ rfl rfl rfl) (@Snd.var _ _ _ _ _ _ rfl rfl rfl) rfl rfl (fun _ => rfl))))) (fun _ _ => rfl)) (@SndSs.one _ _ _ _ _ (@SndS.free _ _ _ 2 _ _ (of_decide_eq_true rfl) (@SndS.ret _ _ _ _ _ _ (@Snd.var _ _ _ _ _ _ rfl rfl rfl)))))))
noncomputable def g_add_callers : List PyData → Option PyData := fun ds => if ds.length = 2 then fnD F_add_callers [] 3 ds else none
theorem ok_add_callers {C : Cx} (W : Wd C) : FnOk C 1 W.a_add_callers g_add_callers :=
  FnOk.mk (ps := ["target", "source"]) (rest := ["new_callers", "func", "caller"]) (names := N_add_callers) (ex := []) (exd := []) W.d_add_callers W.ok (fun {_ _} hv _ => all2 (P := fun l => BindsTo _ _ ⟨l, []⟩ (List.zip ["target", "source"] (l ++ []))) (fun _ _ => BindsTo.of_eq rfl) hv) (fun _ => .nil) rfl (nodupB_ok rfl) rfl (kinds_ok rfl) (S_add_callers W)
noncomputable def N_count_calls : List Str := ["callers", "nc", "calls"]
noncomputable def F_count_calls : Sm := (seqC2 (setC 1 (cC (.int 0)))
  (seqC2 (forC (valsC (vC 0)) (tg1 2) (addC 1 (vC 2)))
  (retC (vC 1))))
theorem S_count_calls {C : Cx} (W : Wd C) : SndSs (C.fn N_count_calls none) 0 (scopeS (D 2)) (bodyS (D 2)) F_count_calls :=
 (@SndSs.cons _ _ _ _ _ _ _ (@SndS.assign _ _ _ _ _ _ _ _ _ rfl ⟨.inl rfl, (NoPin.none rfl _)⟩ (@Snd.int _ _ _ _ _ _) (fun _ => rfl)) (@SndSs.cons _ _ _ _ _ _ _ (@SndS.forI _ _ _ _ _ _ _ _ _ _ _ (@SndTg.name _ _ _ _ rfl) (List.forall_mem_cons.mpr ⟨⟨.inl rfl, (NoPin.none rfl _)⟩, (fun _ h => nomatch h)⟩) (@SndI.values _ _ _ _ _ _ _ _ (@Snd.var _ _ _ _ _ _ rfl rfl rfl) (fun _ => rfl) rfl) (@SndSs.one _ _ _ _ _ (@SndS.add _ _ _ _ _ _ _ _ _ rfl ⟨.inl rfl, (NoPin.none rfl _)⟩ (@Snd.var _ _ _ _ _ _ rfl rfl rfl) rfl)) (fun _ _ => rfl)) (@SndSs.one _ _ _ _ _ (@SndS.ret _ _ _ _ _ _ (@Snd.var _ _ _ _ _ _ rfl rfl rfl)))))
noncomputable def g_count_calls : List PyData → Option PyData := fun ds => if ds.length = 1 then fnD F_count_calls [] 2 ds else none
theorem ok_count_calls {C : Cx} (W : Wd C) : FnOk C 1 W.a_count_calls g_count_calls :=
  FnOk.mk (ps := ["callers"]) (rest := ["nc", "calls"]) (names := N_count_calls) (ex := []) (exd := []) W.d_count_calls W.ok (fun {_ _} hv _ => all1 (P := fun l => BindsTo _ _ ⟨l, []⟩ (List.zip ["callers"] (l ++ []))) (fun _ => BindsTo.of_eq rfl) hv) (fun _ => .nil) rfl (nodupB_ok rfl) rfl (kinds_ok rfl) (S_count_calls W)
noncomputable def N_law_parts : List Str := ["low", "high", "numbers", "middle", "left", "rest", "right"]
noncomputable def F_law_parts (g : List PyData → Option PyData) : Sm := (seqC2 (ifS (cmC .Lt (opC .Sub (bC 1) (bC 0)) (cC (.int 2))) (retC (tupC [(lstC []), (vC 2)])) skipC)
  (seqC2 (setC 3 (opC .Add (opC .Add (bC 0) (cC (.int 1))) (opC .Mod (subC (bC 2) (cC (.int 0))) (opC .Sub (opC .Sub (bC 1) (bC 0)) (cC (.int 1))))))
  (seqC2 (asgC (tgN [4, 5]) (callC g [(vC 0), (vC 3), (dropC (bC 2) 1)]))
  (seqC2 (asgC (tgN [6, 5]) (callC g [(vC 3), (vC 1), (vC 5)]))
  (retC (tupC [(opC .Add (opC .Add (lstC [(tupC [(vC 0), (vC 3), (vC 1)])]) (bC 4)) (bC 6)), (vC 5)]))))))
theorem S_law_parts {C : Cx} (W : Wd C) (n : Nat) {g : List PyData → Option PyData} (ih : FnOk C n W.a__law_parts g) : SndSs (C.fn N_law_parts none) n (scopeS (D 7)) (bodyS (D 7)) (F_law_parts g) :=
 (@SndSs.cons _ _ _ _ _ _ _ (@SndS.ifs _ _ _ _ _ _ _ _ _ _ (@SndT.cmp _ _ _ _ _ _ _ _ _ (@Snd.b _ _ _ _ _ (@Snd.bin _ _ _ _ _ _ _ _ _ (@SndB.var _ _ _ _ _ _ rfl rfl rfl) (@SndB.var _ _ _ _ _ _ rfl rfl rfl))) (@Snd.b _ _ _ _ _ (@Snd.int _ _ _ _ _ _)) rfl) (@SndSs.one _ _ _ _ _ (@SndS.ret _ _ _ _ _ _ (@Snd.tuple _ _ _ _ _ _ _ (@SndRs.cons _ _ _ _ _ _ _ (@Snd.list _ _ _ _ _ _ (@SndRs.nil _ _ _)) (@SndRs.cons _ _ _ _ _ _ _ (@Snd.var _ _ _ _ _ _ rfl rfl rfl) (@SndRs.nil _ _ _) (fun _ _ => rfl)) (fun _ _ => rfl))))) (@SndSs.nil _ _ _)) (@SndSs.cons _ _ _ _ _ _ _ (@SndS.assign _ _ _ _ _ _ _ _ _ rfl ⟨.inl rfl, (NoPin.none rfl _)⟩ (@Snd.bin _ _ _ _ _ _ _ _ _ (@Snd.b _ _ _ _ _ (@Snd.bin _ _ _ _ _ _ _ _ _ (@SndB.var _ _ _ _ _ _ rfl rfl rfl) (@Snd.b _ _ _ _ _ (@Snd.int _ _ _ _ _ _)))) (@Snd.b _ _ _ _ _ (@Snd.bin _ _ _ _ _ _ _ _ _ (@Snd.b _ _ _ _ _ (@Snd.sub _ _ _ _ _ _ _ _ (@SndB.var _ _ _ _ _ _ rfl rfl rfl) (@Snd.int _ _ _ _ _ _) (fun _ _ => rfl))) (@Snd.b _ _ _ _ _ (@Snd.bin _ _ _ _ _ _ _ _ _ (@Snd.b _ _ _ _ _ (@Snd.bin _ _ _ _ _ _ _ _ _ (@SndB.var _ _ _ _ _ _ rfl rfl rfl) (@SndB.var _ _ _ _ _ _ rfl rfl rfl))) (@Snd.b _ _ _ _ _ (@Snd.int _ _ _ _ _ _))))))) (fun _ => rfl)) (@SndSs.cons _ _ _ _ _ _ _ (@SndS.assignT (C.fn N_law_parts none) _ _ _ _ _ _ _ _ _ _ (@SndTg.tuple _ _ _ _ [4, 5] ["left", "rest"] [_, _] (fun _ => rfl) rfl rfl) (List.forall_mem_cons.mpr ⟨⟨.inl rfl, (NoPin.none rfl _)⟩, (List.forall_mem_cons.mpr ⟨⟨.inl rfl, (NoPin.none rfl _)⟩, (fun _ h => nomatch h)⟩)⟩) (@Snd.call _ _ _ _ _ _ _ _ _ _ _ _ _ W.g__law_parts rfl ⟨W.d__law_parts.fn.fn⟩ @ih (@SndRs.cons _ _ _ _ _ _ _ (@Snd.var _ _ _ _ _ _ rfl rfl rfl) (@SndRs.cons _ _ _ _ _ _ _ (@Snd.var _ _ _ _ _ _ rfl rfl rfl) (@SndRs.cons _ _ _ _ _ _ _ (@Snd.drop _ _ _ _ _ _ _ _ _ _ (@SndB.var _ _ _ _ _ _ rfl rfl rfl) (by decide) (fun _ _ => rfl)) (@SndRs.nil _ _ _) (fun _ _ => rfl)) (fun _ _ => rfl)) (fun _ _ => rfl)) (Nat.le_refl _) rfl) (fun _ => rfl) (fun env he => by cases env; cases he; rfl)) (@SndSs.cons _ _ _ _ _ _ _ (@SndS.assignT (C.fn N_law_parts none) _ _ _ _ _ _ _ _ _ _ (@SndTg.tuple _ _ _ _ [6, 5] ["right", "rest"] [_, _] (fun _ => rfl) rfl rfl) (List.forall_mem_cons.mpr ⟨⟨.inl rfl, (NoPin.none rfl _)⟩, (List.forall_mem_cons.mpr ⟨⟨.inl rfl, (NoPin.none rfl _)⟩, (fun _ h => nomatch h)⟩)⟩) (@Snd.call _ _ _ _ _ _ _ _ _ _ _ _ _ W.g__law_parts rfl ⟨W.d__law_parts.fn.fn⟩ @ih (@SndRs.cons _ _ _ _ _ _ _ (@Snd.var _ _ _ _ _ _ rfl rfl rfl) (@SndRs.cons _ _ _ _ _ _ _ (@Snd.var _ _ _ _ _ _ rfl rfl rfl) (@SndRs.cons _ _ _ _ _ _ _ (@Snd.var _ _ _ _ _ _ rfl rfl rfl) (@SndRs.nil _ _ _) (fun _ _ => rfl)) (fun _ _ => rfl)) (fun _ _ => rfl)) (Nat.le_refl _) rfl) (fun _ => rfl) (fun env he => by cases env; cases he; rfl)) (@SndSs.one _ _ _ _ _ (@SndS.ret _ _ _ _ _ _ (@Snd.tuple _ _ _ _ _ _ _ (@SndRs.cons _ _ _ _ _ _ _ (@Snd.bin _ _ _ _ _ _ _ _ _ (@Snd.b _ _ _ _ _ (@Snd.bin _ _ _ _ _ _ _ _ _ (@Snd.b _ _ _ _ _ (@Snd.list _ _ _ _ _ _ (@SndRs.cons _ _ _ _ _ _ _ (@Snd.tuple _ _ _ _ _ _ _ (@SndRs.cons _ _ _ _ _ _ _ (@Snd.var _ _ _ _ _ _ rfl rfl rfl) (@SndRs.cons _ _ _ _ _ _ _ (@Snd.var _ _ _ _ _ _ rfl rfl rfl) (@SndRs.cons _ _ _ _ _ _ _ (@Snd.var _ _ _ _ _ _ rfl rfl rfl) (@SndRs.nil _ _ _) (fun _ _ => rfl)) (fun _ _ => rfl)) (fun _ _ => rfl))) (@SndRs.nil _ _ _) (fun _ _ => rfl)))) (@SndB.var _ _ _ _ _ _ rfl rfl rfl))) (@SndB.var _ _ _ _ _ _ rfl rfl rfl)) (@SndRs.cons _ _ _ _ _ _ _ (@Snd.var _ _ _ _ _ _ rfl rfl rfl) (@SndRs.nil _ _ _) (fun _ _ => rfl)) (fun _ _ => rfl)))))))))
noncomputable def g__law_parts : Nat → List PyData → Option PyData
  | 0, _ => none
  | n + 1, ds => if ds.length = 3 then fnD (F_law_parts (g__law_parts n)) [] 4 ds else none
theorem ok__law_parts {C : Cx} (W : Wd C) : ∀ n, FnOk C n W.a__law_parts (g__law_parts n)
  | 0 => fun _ _ _ _ h => nomatch h
  | n + 1 => FnOk.mk (ps := ["low", "high", "numbers"]) (rest := ["middle", "left", "rest", "right"]) (names := N_law_parts) (ex := []) (exd := []) W.d__law_parts W.ok (fun {_ _} hv _ => all3 (P := fun l => BindsTo _ _ ⟨l, []⟩ (List.zip ["low", "high", "numbers"] (l ++ []))) (fun _ _ _ => BindsTo.of_eq rfl) hv) (fun _ => .nil) rfl (nodupB_ok rfl) rfl (kinds_ok rfl) (S_law_parts W n (ok__law_parts W n))
noncomputable def N_law_colours : List Str := ["parts", "many", "colours", "low", "middle", "high"]
noncomputable def F_law_colours : Sm := (seqC2 (ownC 2 (dictC [((cC (.int 0)), (cC (.int 0))), ((opC .Sub (bC 1) (cC (.int 1))), (cC (.int 2)))]))
  (seqC2 (forC (seqC (vC 0)) (tgN [3, 4, 5]) (putC 2 (vC 4) (opC .Sub (opC .Sub (cC (.int 3)) (subC (bC 2) (vC 3))) (subC (bC 2) (vC 5)))))
  (freeC 2 (retC (vC 2)))))
theorem S_law_colours {C : Cx} (W : Wd C) : SndSs (C.fn N_law_colours none) 0 (scopeS (D 8)) (bodyS (D 8)) F_law_colours :=
 (@SndSs.cons _ _ _ _ _ _ _ (@SndS.assignO _ _ _ _ _ _ _ _ _ rfl ⟨.inl rfl, (NoPin.none rfl _)⟩ (@SndO.dict _ _ _ _ _ _ _ (@SndDs.cons _ _ _ _ _ _ _ _ _ _ (@Snd.int _ _ _ _ _ _) (@Snd.int _ _ _ _ _ _) (@SndDs.cons _ _ _ _ _ _ _ _ _ _ (@Snd.bin _ _ _ _ _ _ _ _ _ (@SndB.var _ _ _ _ _ _ rfl rfl rfl) (@Snd.b _ _ _ _ _ (@Snd.int _ _ _ _ _ _))) (@Snd.int _ _ _ _ _ _) (@SndDs.nil _ _ _))) rfl rfl (by first | rfl | (intros; rfl) | decide | (intros; with_unfolding_all rfl) | (intro env h; simp [interactive, h]) | simp) (by first | rfl | (intros; rfl) | decide | (intros; with_unfolding_all rfl) | (intro env h; simp [interactive, h]) | simp)) (fun _ => rfl)) (@SndSs.cons _ _ _ _ _ _ _ (@SndS.forI _ _ _ _ _ _ _ _ _ _ _ (@SndTg.tuple _ _ _ _ [3, 4, 5] ["low", "middle", "high"] [_, _, _] (fun _ => rfl) rfl rfl) (List.forall_mem_cons.mpr ⟨⟨.inl rfl, (NoPin.none rfl _)⟩, (List.forall_mem_cons.mpr ⟨⟨.inl rfl, (NoPin.none rfl _)⟩, (List.forall_mem_cons.mpr ⟨⟨.inl rfl, (NoPin.none rfl _)⟩, (fun _ h => nomatch h)⟩)⟩)⟩) (@SndI.seq _ _ _ _ _ _ (@Snd.var _ _ _ _ _ _ rfl rfl rfl)) (@SndSs.one _ _ _ _ _ (@SndS.put _ _ _ _ _ _ _ _ _ _ _ _ rfl (@Snd.var _ _ _ _ _ _ rfl rfl rfl) (@Snd.bin _ _ _ _ _ _ _ _ _ (@Snd.b _ _ _ _ _ (@Snd.bin _ _ _ _ _ _ _ _ _ (@Snd.b _ _ _ _ _ (@Snd.int _ _ _ _ _ _)) (@Snd.b _ _ _ _ _ (@Snd.sub _ _ _ _ _ _ _ _ (@SndB.var _ _ _ _ _ _ rfl rfl rfl) (@Snd.var _ _ _ _ _ _ rfl rfl rfl) (fun _ _ => rfl))))) (@Snd.b _ _ _ _ _ (@Snd.sub _ _ _ _ _ _ _ _ (@SndB.var _ _ _ _ _ _ rfl rfl rfl) (@Snd.var _ _ _ _ _ _ rfl rfl rfl) (fun _ _ => rfl)))) rfl rfl (fun _ => rfl))) (fun _ _ => rfl)) (@SndSs.one _ _ _ _ _ (@SndS.free _ _ _ 2 _ _ (of_decide_eq_true rfl) (@SndS.ret _ _ _ _ _ _ (@Snd.var _ _ _ _ _ _ rfl rfl rfl))))))
noncomputable def g__law_colours : List PyData → Option PyData := fun ds => if ds.length = 2 then fnD F_law_colours [] 4 ds else none
theorem ok__law_colours {C : Cx} (W : Wd C) : FnOk C 1 W.a__law_colours g__law_colours :=
  FnOk.mk (ps := ["parts", "many"]) (rest := ["colours", "low", "middle", "high"]) (names := N_law_colours) (ex := []) (exd := []) W.d__law_colours W.ok (fun {_ _} hv _ => all2 (P := fun l => BindsTo _ _ ⟨l, []⟩ (List.zip ["parts", "many"] (l ++ []))) (fun _ _ => BindsTo.of_eq rfl) hv) (fun _ => .nil) rfl (nodupB_ok rfl) rfl (kinds_ok rfl) (S_law_colours W)
noncomputable def N_law : List Str := ["script", "many", "parts", "order", "lines", "part", "one", "other", "word", "often", "side", "colours", "table", "corner", "counts", "ways", "low", "middle", "high", "ears"]
noncomputable def F_law : Sm := (seqC2 (setC 1 (opC .Add (cC (.int 3)) (opC .Mod (callC sumG [(bC 0)]) (cC (.int 7)))))
  (seqC2 (setC 2 (subC (callC (g__law_parts 9) [(cC (.int 0)), (opC .Sub (bC 1) (cC (.int 1))), (opC .Add (takeC (bC 0) 8) (repC (lstC [(cC (.int 0))]) 9))]) (cC (.int 0))))
  (seqC2 (asgM [3, 4] false [(true, (lstC [])), (false, (cC (.dict [])))])
  (seqC2 (forC (seqC (vC 2)) (tg1 5) (seqC2 (insC g_insort 3 (vC 5))
  (forC (seqC (lstC [(tupC [(subC (bC 5) (cC (.int 0))), (subC (bC 5) (cC (.int 1)))]), (tupC [(subC (bC 5) (cC (.int 1))), (subC (bC 5) (cC (.int 2)))]), (tupC [(subC (bC 5) (cC (.int 0))), (subC (bC 5) (cC (.int 2)))])])) (tgN [6, 7]) (setC 4 (callC g_add_callers [(vC 4), (dictC [((tupC [(cC (.str "line")), (vC 6), (vC 7)]), (cC (.int 1)))])])))))
  (seqC2 (freeC 3 (ifS (anyC [(cmC .NotEq (callC lenG [(bC 2)]) (opC .Sub (bC 1) (cC (.int 2)))), (cmC .NotEq (bC 3) (callC sortG [(bC 2)])), (cmC .NotEq (compC 1 [3] (seqC (vC 2)) (lpC [0] (tg1 0) [(cmC .NotEq (subC (bC 1) (callC g_bisect2 [(bC 1), (bC 0)])) (bC 0))] (eltC (vC 0)))) (lstC []))]) (retC (cC (.bool false))) skipC))
  (seqC2 (forC (itemsC (vC 4)) (tgN [8, 9]) (seqC2 (setC 10 (orC (ofB (cmC .Eq (opC .Sub (subC (bC 8) (cC (.int 2))) (subC (bC 8) (cC (.int 1)))) (cC (.int 1)))) (ofB (cmC .Eq (tupC [(subC (bC 8) (cC (.int 1))), (subC (bC 8) (cC (.int 2)))]) (tupC [(cC (.int 0)), (opC .Sub (bC 1) (cC (.int 1)))])))))
  (ifS (cmC .NotEq (bC 9) (ifC (tvC (bC 10)) (cC (.int 1)) (cC (.int 2)))) (retC (cC (.bool false))) skipC)))
  (seqC2 (ifS (anyC [(cmC .NotEq (callC g_count_calls [(vC 4)]) (opC .Mult (cC (.int 3)) (opC .Sub (bC 1) (cC (.int 2))))), (cmC .NotEq (callC lenG [(bC 4)]) (opC .Sub (opC .Mult (cC (.int 2)) (bC 1)) (cC (.int 3))))]) (retC (cC (.bool false))) skipC)
  (seqC2 (asgM [11, 12] false [(false, (callC g__law_colours [(vC 2), (vC 1)])), (true, (lstC [(cC (.dict [])), (cC (.dict [])), (cC (.dict []))]))])
  (seqC2 (forC (rangeC [(bC 1)]) (tg1 13) (putC 12 (subC (bC 11) (vC 13)) (callC g_add_callers [(subC (bC 12) (subC (bC 11) (vC 13))), (dictC [((tupC [(cC (.str "is")), (vC 13), (cC (.str "so"))]), (cC (.int 1)))])])))
  (seqC2 (freeC 12 (frzC 14 (ownC 14 (compC 1 [] (seqC (vC 12)) (lpC [0] (tg1 0) [] (eltC (callC g_count_calls [(vC 0)])))))))
  (seqC2 (ifS (anyC [(cmC .NotEq (callC sumG [(bC 14)]) (bC 1)), (cmC .Gt (callC minG [(bC 14)]) (opC .FloorDiv (bC 1) (cC (.int 3)))), (cmC .NotEq (compC 1 [11] (seqC (vC 2)) (lpC [0] (tg1 0) [(cmC .NotEq (callC sortG [(compC 1 [1] (seqC (vC 0)) (lpC [0] (tg1 0) [] (eltC (subC (bC 1) (vC 0)))))]) (lstC [(cC (.int 0)), (cC (.int 1)), (cC (.int 2))]))] (eltC (vC 0)))) (lstC []))]) (retC (cC (.bool false))) skipC)
  (seqC2 (setC 15 (lstC [(cC (.dict []))]))
  (seqC2 (forC (seqC (vC 2)) (tgN [16, 17, 18]) (frzC 15 (ownC 15 (compC 2 [16, 17, 18] (seqC (vC 15)) (lpC [0] (tg1 0) [] (genC (seqC (compC 2 [] (rangeC [(cC (.int 3))]) (lpC [0] (tg1 0) [] (genC (rangeC [(cC (.int 3))]) (lpC [1] (tg1 1) [(cmC .NotEq (bC 0) (bC 1))] (eltC (tupC [(vC 0), (vC 1), (opC .Sub (opC .Sub (cC (.int 3)) (bC 0)) (bC 1))]))))))) (lpC [1] (tg1 1) [(cmC .Eq (compC 2 [0] (zipC (tupC [(vC 2), (vC 3), (vC 4)]) (vC 1)) (lpC [0, 1] (tgN [0, 1]) [(cmC .NotEq (getC (bC 2) (vC 0) (vC 1)) (bC 1))] (eltC (cC (.int 1))))) (lstC []))] (eltC (Ev.callC dictG [(opC .Add (liC (vC 0)) (lzC (tupC [(vC 2), (vC 3), (vC 4)]) (vC 1)))])))))))))
  (seqC2 (ifS (cmC .NotEq (callC lenG [(bC 15)]) (cC (.int 6))) (retC (cC (.bool false))) skipC)
  (seqC2 (frzC 19 (ownC 19 (compC 1 [4] (seqC (vC 2)) (lpC [0] (tg1 0) [(cmC .GtE (callC lenG [(compC 2 [1] (seqC (lstC [(tupC [(subC (bC 0) (cC (.int 0))), (subC (bC 0) (cC (.int 1)))]), (tupC [(subC (bC 0) (cC (.int 1))), (subC (bC 0) (cC (.int 2)))]), (tupC [(subC (bC 0) (cC (.int 0))), (subC (bC 0) (cC (.int 2)))])])) (lpC [0, 1] (tgN [0, 1]) [(cmC .Eq (subC (bC 2) (tupC [(cC (.str "line")), (vC 0), (vC 1)])) (cC (.int 1)))] (eltC (cC (.int 1)))))]) (cC (.int 2)))] (eltC (vC 0))))))
  (retC (ofB (cmC .GtE (callC lenG [(bC 19)]) (callC minG [(cC (.int 2)), (callC lenG [(bC 2)])])))))))))))))))))))
theorem S_law {C : Cx} (W : Wd C) : SndSs (C.fn N_law none) 20 (scopeS (D 9)) (bodyS (D 9)) F_law :=
 (@SndSs.cons _ _ _ _ _ _ _ (@SndS.assign _ _ _ _ _ _ _ _ _ rfl ⟨.inl rfl, (NoPin.none rfl _)⟩ (@Snd.bin _ _ _ _ _ _ _ _ _ (@Snd.b _ _ _ _ _ (@Snd.int _ _ _ _ _ _)) (@Snd.b _ _ _ _ _ (@Snd.bin _ _ _ _ _ _ _ _ _ (@Snd.b _ _ _ _ _ (@Snd.bi _ _ _ _ _ _ _ _ _ _ _ _ W.b_sum rfl (@biSum _) (@SndAs.cons _ _ _ _ _ _ _ (@SndB.var _ _ _ _ _ _ rfl rfl rfl) (@SndAs.nil _ _ _) (fun _ _ => rfl)) (fun _ => rfl) rfl)) (@Snd.b _ _ _ _ _ (@Snd.int _ _ _ _ _ _))))) (fun _ => rfl)) (@SndSs.cons _ _ _ _ _ _ _ (@SndS.assign _ _ _ _ _ _ _ _ _ rfl ⟨.inl rfl, (NoPin.none rfl _)⟩ (@Snd.sub _ _ _ _ _ _ _ _ (@Snd.b _ _ _ _ _ (@Snd.call _ _ _ _ _ _ _ _ _ _ _ _ _ W.g__law_parts rfl ⟨W.d__law_parts.fn.fn⟩ (@ok__law_parts _ W 9) (@SndRs.cons _ _ _ _ _ _ _ (@Snd.int _ _ _ _ _ _) (@SndRs.cons _ _ _ _ _ _ _ (@Snd.bin _ _ _ _ _ _ _ _ _ (@SndB.var _ _ _ _ _ _ rfl rfl rfl) (@Snd.b _ _ _ _ _ (@Snd.int _ _ _ _ _ _))) (@SndRs.cons _ _ _ _ _ _ _ (@Snd.bin _ _ _ _ _ _ _ _ _ (@Snd.b _ _ _ _ _ (@Snd.take _ _ _ _ _ _ _ _ _ _ (@SndB.var _ _ _ _ _ _ rfl rfl rfl) (by decide) (fun _ _ => rfl))) (@Snd.b _ _ _ _ _ (@Snd.rep _ _ _ _ _ _ _ _ _ (@Snd.b _ _ _ _ _ (@Snd.list _ _ _ _ _ _ (@SndRs.cons _ _ _ _ _ _ _ (@Snd.int _ _ _ _ _ _) (@SndRs.nil _ _ _) (fun _ _ => rfl)))) (by decide)))) (@SndRs.nil _ _ _) (fun _ _ => rfl)) (fun _ _ => rfl)) (fun _ _ => rfl)) (by decide) rfl)) (@Snd.int _ _ _ _ _ _) (fun _ _ => rfl)) (fun _ => rfl)) (@SndSs.cons _ _ _ _ _ _ _ (@SndS.assignM (C.fn N_law none) _ _ _ _ _ _ _ _ _ [3, 4] ["order", "lines"] [_, _] _ (fun _ => rfl) rfl rfl (List.forall_mem_cons.mpr ⟨⟨.inr rfl, (NoPin.none rfl _)⟩, (List.forall_mem_cons.mpr ⟨⟨.inr rfl, (NoPin.none rfl _)⟩, (fun _ h => nomatch h)⟩)⟩) (@SndMs.ow _ _ _ _ _ _ _ (@SndO.list _ _ _ _ _ _ (@SndRs.nil _ _ _)) (@SndMs.fz _ _ _ _ _ _ _ (@SndO.snd _ _ _ _ _ (@SndO.dict0 _ _ _ _)) (@SndMs.nil _ _ _) (fun _ _ => rfl)) (fun _ _ => rfl)) false (by decide) (fun _ => rfl) (fun env he => by cases env; cases he; rfl)) (@SndSs.cons _ _ _ _ _ _ _ (@SndS.forI _ _ _ _ _ _ _ _ _ _ _ (@SndTg.name _ _ _ _ rfl) (List.forall_mem_cons.mpr ⟨⟨.inl rfl, (NoPin.none rfl _)⟩, (fun _ h => nomatch h)⟩) (@SndI.seq _ _ _ _ _ _ (@Snd.var _ _ _ _ _ _ rfl rfl rfl)) (@SndSs.cons _ _ _ _ _ _ _ (@SndS.ins _ _ _ _ _ _ _ _ _ _ _ _ _ _ _ W.g_insort_left rfl ⟨W.d_insort_left.fn.fn⟩ (@ok_insort_left _ W) (by decide) rfl (@Snd.var _ _ _ _ _ _ rfl rfl rfl) (fun _ => rfl) rfl rfl rfl inter_ok) (@SndSs.one _ _ _ _ _ (@SndS.forI _ _ _ _ _ _ _ _ _ _ _ (@SndTg.tuple _ _ _ _ [6, 7] ["one", "other"] [_, _] (fun _ => rfl) rfl rfl) (List.forall_mem_cons.mpr ⟨⟨.inl rfl, (NoPin.none rfl _)⟩, (List.forall_mem_cons.mpr ⟨⟨.inl rfl, (NoPin.none rfl _)⟩, (fun _ h => nomatch h)⟩)⟩) (@SndI.seq _ _ _ _ _ _ (@Snd.list _ _ _ _ _ _ (@SndRs.cons _ _ _ _ _ _ _ (@Snd.tuple _ _ _ _ _ _ _ (@SndRs.cons _ _ _ _ _ _ _ (@Snd.sub _ _ _ _ _ _ _ _ (@SndB.var _ _ _ _ _ _ rfl rfl rfl) (@Snd.int _ _ _ _ _ _) (fun _ _ => rfl)) (@SndRs.cons _ _ _ _ _ _ _ (@Snd.sub _ _ _ _ _ _ _ _ (@SndB.var _ _ _ _ _ _ rfl rfl rfl) (@Snd.int _ _ _ _ _ _) (fun _ _ => rfl)) (@SndRs.nil _ _ _) (fun _ _ => rfl)) (fun _ _ => rfl))) (@SndRs.cons _ _ _ _ _ _ _ (@Snd.tuple _ _ _ _ _ _ _ (@SndRs.cons _ _ _ _ _ _ _ (@Snd.sub _ _ _ _ _ _ _ _ (@SndB.var _ _ _ _ _ _ rfl rfl rfl) (@Snd.int _ _ _ _ _ _) (fun _ _ => rfl)) (@SndRs.cons _ _ _ _ _ _ _ (@Snd.sub _ _ _ _ _ _ _ _ (@SndB.var _ _ _ _ _ _ rfl rfl rfl) (@Snd.int _ _ _ _ _ _) (fun _ _ => rfl)) (@SndRs.nil _ _ _) (fun _ _ => rfl)) (fun _ _ => rfl))) (@SndRs.cons _ _ _ _ _ _ _ (@Snd.tuple _ _ _ _ _ _ _ (@SndRs.cons _ _ _ _ _ _ _ (@Snd.sub _ _ _ _ _ _ _ _ (@SndB.var _ _ _ _ _ _ rfl rfl rfl) (@Snd.int _ _ _ _ _ _) (fun _ _ => rfl)) (@SndRs.cons _ _ _ _ _ _ _ (@Snd.sub _ _ _ _ _ _ _ _ (@SndB.var _ _ _ _ _ _ rfl rfl rfl) (@Snd.int _ _ _ _ _ _) (fun _ _ => rfl)) (@SndRs.nil _ _ _) (fun _ _ => rfl)) (fun _ _ => rfl))) (@SndRs.nil _ _ _) (fun _ _ => rfl)) (fun _ _ => rfl)) (fun _ _ => rfl)))) (@SndSs.one _ _ _ _ _ (@SndS.assign _ _ _ _ _ _ _ _ _ rfl ⟨.inr rfl, (NoPin.none rfl _)⟩ (@Snd.call _ _ _ _ _ _ _ _ _ _ _ _ _ W.g_add_callers rfl ⟨W.d_add_callers.fn.fn⟩ (@ok_add_callers _ W) (@SndRs.cons _ _ _ _ _ _ _ (@Snd.var _ _ _ _ _ _ rfl rfl rfl) (@SndRs.cons _ _ _ _ _ _ _ (@SndO.snd _ _ _ _ _ (@SndO.dict _ _ _ _ _ _ _ (@SndDs.cons _ _ _ _ _ _ _ _ _ _ (@Snd.tuple _ _ _ _ _ _ _ (@SndRs.cons _ _ _ _ _ _ _ (@Snd.str _ _ _ _ _ _ (by decide +kernel)) (@SndRs.cons _ _ _ _ _ _ _ (@Snd.var _ _ _ _ _ _ rfl rfl rfl) (@SndRs.cons _ _ _ _ _ _ _ (@Snd.var _ _ _ _ _ _ rfl rfl rfl) (@SndRs.nil _ _ _) (fun _ _ => rfl)) (fun _ _ => rfl)) (fun _ _ => rfl))) (@Snd.int _ _ _ _ _ _) (@SndDs.nil _ _ _)) rfl rfl (by first | rfl | (intros; rfl) | decide | (intros; with_unfolding_all rfl) | (intro env h; simp [interactive, h]) | simp) (by first | rfl | (intros; rfl) | decide | (intros; with_unfolding_all rfl) | (intro env h; simp [interactive, h]) | simp))) (@SndRs.nil _ _ _) (fun _ _ => rfl)) (fun _ _ => rfl)) (by decide) rfl) (fun _ => rfl))) (fun _ _ => rfl)))) (fun _ _ => rfl)) (@SndSs.cons _ _ _ _ _ _ _ (@SndS.free _ _ _ 3 _ _ (of_decide_eq_true rfl) (@SndS.ifs _ _ _ _ _ _ _ _ _ _ (@SndT.or _ _ _ _ _ _ (@SndTs.cons _ _ _ _ _ _ _ (@SndT.cmp _ _ _ _ _ _ _ _ _ (@Snd.b _ _ _ _ _ (@Snd.bi _ _ _ _ _ _ _ _ _ _ _ _ W.b_len rfl (@biLen _) (@SndAs.cons _ _ _ _ _ _ _ (@SndB.var _ _ _ _ _ _ rfl rfl rfl) (@SndAs.nil _ _ _) (fun _ _ => rfl)) (fun _ => rfl) rfl)) (@Snd.b _ _ _ _ _ (@Snd.bin _ _ _ _ _ _ _ _ _ (@SndB.var _ _ _ _ _ _ rfl rfl rfl) (@Snd.b _ _ _ _ _ (@Snd.int _ _ _ _ _ _)))) rfl) (@SndTs.cons _ _ _ _ _ _ _ (@SndT.cmp _ _ _ _ _ _ _ _ _ (@SndB.var _ _ _ _ _ _ rfl rfl rfl) (@Snd.b _ _ _ _ _ (@Snd.bi _ _ _ _ _ _ _ _ _ _ _ _ W.b_sorted rfl (@biSorted _) (@SndAs.cons _ _ _ _ _ _ _ (@SndB.var _ _ _ _ _ _ rfl rfl rfl) (@SndAs.nil _ _ _) (fun _ _ => rfl)) (fun _ => rfl) rfl)) rfl) (@SndTs.cons _ _ _ _ _ _ _ (@SndT.cmp _ _ _ _ _ _ _ _ _ (@Snd.b _ _ _ _ _ (@SndO.snd _ _ _ _ _ (@SndO.comp _ _ _ _ _ _ _ _ _ _ _ _ _ (lpC [0] (tg1 0) [(cmC .NotEq (subC (bC 1) (callC g_bisect2 [(bC 1), (bC 0)])) (bC 0))] (eltC (vC 0))) _ ["part"] (CompOk.of (names := ["part", "order"]) (nt := 1) (caps := [3]) rfl) (@SndI.seq _ _ _ _ _ _ (@Snd.var _ _ _ _ _ _ rfl rfl rfl)) (@Lp.mk _ _ _ _ _ _ _ _ _ _ _ _ _ _ _ [0] _ rfl (@SndTg.name _ _ _ _ rfl) rfl (by decide) (@SndIfs.cons _ _ _ _ _ _ _ (@SndT.cmp _ _ _ _ _ _ _ _ _ (@Snd.b _ _ _ _ _ (@Snd.sub _ _ _ _ _ _ _ _ (@SndB.var _ _ _ _ _ _ rfl rfl rfl) (@Snd.callB _ _ _ _ _ _ _ _ _ _ _ _ _ W.g_bisect_left rfl ⟨W.d_bisect_left.fn.fn⟩ (@ok_bisect2 _ W) (@SndAs.cons _ _ _ _ _ _ _ (@SndB.var _ _ _ _ _ _ rfl rfl rfl) (@SndAs.cons _ _ _ _ _ _ _ (@SndB.var _ _ _ _ _ _ rfl rfl rfl) (@SndAs.nil _ _ _) (fun _ _ => rfl)) (fun _ _ => rfl)) (by decide) rfl) (fun _ _ => rfl))) (@SndB.var _ _ _ _ _ _ rfl rfl rfl) rfl) (@SndIfs.nil _ _ _)) (@In.elt _ _ _ _ _ _ _ _ _ _ rfl (@Snd.var _ _ _ _ _ _ rfl rfl rfl))) (by decide) (fun _ _ => rfl)))) (@Snd.b _ _ _ _ _ (@Snd.list _ _ _ _ _ _ (@SndRs.nil _ _ _))) rfl) (@SndTs.nil _ _ _))))) (@SndSs.one _ _ _ _ _ (@SndS.ret _ _ _ _ _ _ (@Snd.bool _ _ _ _ _ _))) (@SndSs.nil _ _ _))) (@SndSs.cons _ _ _ _ _ _ _ (@SndS.forI _ _ _ _ _ _ _ _ _ _ _ (@SndTg.tuple _ _ _ _ [8, 9] ["word", "often"] [_, _] (fun _ => rfl) rfl rfl) (List.forall_mem_cons.mpr ⟨⟨.inl rfl, (NoPin.none rfl _)⟩, (List.forall_mem_cons.mpr ⟨⟨.inl rfl, (NoPin.none rfl _)⟩, (fun _ h => nomatch h)⟩)⟩) (@SndI.items _ _ _ _ _ _ _ _ _ _ (@Snd.var _ _ _ _ _ _ rfl rfl rfl) (fun _ => rfl) rfl) (@SndSs.cons _ _ _ _ _ _ _ (@SndS.assign _ _ _ _ _ _ _ _ _ rfl ⟨.inl rfl, (NoPin.none rfl _)⟩ (@Snd.or _ _ _ _ _ _ _ _ (@Snd.cmp _ _ _ _ _ _ _ _ _ (@Snd.b _ _ _ _ _ (@Snd.bin _ _ _ _ _ _ _ _ _ (@Snd.b _ _ _ _ _ (@Snd.sub _ _ _ _ _ _ _ _ (@SndB.var _ _ _ _ _ _ rfl rfl rfl) (@Snd.int _ _ _ _ _ _) (fun _ _ => rfl))) (@Snd.b _ _ _ _ _ (@Snd.sub _ _ _ _ _ _ _ _ (@SndB.var _ _ _ _ _ _ rfl rfl rfl) (@Snd.int _ _ _ _ _ _) (fun _ _ => rfl))))) (@Snd.b _ _ _ _ _ (@Snd.int _ _ _ _ _ _)) rfl) (@Snd.cmp _ _ _ _ _ _ _ _ _ (@Snd.b _ _ _ _ _ (@Snd.tuple _ _ _ _ _ _ _ (@SndRs.cons _ _ _ _ _ _ _ (@Snd.sub _ _ _ _ _ _ _ _ (@SndB.var _ _ _ _ _ _ rfl rfl rfl) (@Snd.int _ _ _ _ _ _) (fun _ _ => rfl)) (@SndRs.cons _ _ _ _ _ _ _ (@Snd.sub _ _ _ _ _ _ _ _ (@SndB.var _ _ _ _ _ _ rfl rfl rfl) (@Snd.int _ _ _ _ _ _) (fun _ _ => rfl)) (@SndRs.nil _ _ _) (fun _ _ => rfl)) (fun _ _ => rfl)))) (@Snd.b _ _ _ _ _ (@Snd.tuple _ _ _ _ _ _ _ (@SndRs.cons _ _ _ _ _ _ _ (@Snd.int _ _ _ _ _ _) (@SndRs.cons _ _ _ _ _ _ _ (@Snd.bin _ _ _ _ _ _ _ _ _ (@SndB.var _ _ _ _ _ _ rfl rfl rfl) (@Snd.b _ _ _ _ _ (@Snd.int _ _ _ _ _ _))) (@SndRs.nil _ _ _) (fun _ _ => rfl)) (fun _ _ => rfl)))) rfl)) (fun _ => rfl)) (@SndSs.one _ _ _ _ _ (@SndS.ifs _ _ _ _ _ _ _ _ _ _ (@SndT.cmp _ _ _ _ _ _ _ _ _ (@SndB.var _ _ _ _ _ _ rfl rfl rfl) (@Snd.b _ _ _ _ _ (@Snd.ifx _ _ _ _ _ _ _ _ _ _ (@SndT.val _ _ _ _ _ (@SndB.var _ _ _ _ _ _ rfl rfl rfl) (fun _ _ => rfl)) (@Snd.int _ _ _ _ _ _) (@Snd.int _ _ _ _ _ _))) rfl) (@SndSs.one _ _ _ _ _ (@SndS.ret _ _ _ _ _ _ (@Snd.bool _ _ _ _ _ _))) (@SndSs.nil _ _ _)))) (fun _ _ => rfl)) (@SndSs.cons _ _ _ _ _ _ _ (@SndS.ifs _ _ _ _ _ _ _ _ _ _ (@SndT.or _ _ _ _ _ _ (@SndTs.cons _ _ _ _ _ _ _ (@SndT.cmp _ _ _ _ _ _ _ _ _ (@Snd.b _ _ _ _ _ (@Snd.call _ _ _ _ _ _ _ _ _ _ _ _ _ W.g_count_calls rfl ⟨W.d_count_calls.fn.fn⟩ (@ok_count_calls _ W) (@SndRs.cons _ _ _ _ _ _ _ (@Snd.var _ _ _ _ _ _ rfl rfl rfl) (@SndRs.nil _ _ _) (fun _ _ => rfl)) (by decide) rfl)) (@Snd.b _ _ _ _ _ (@Snd.bin _ _ _ _ _ _ _ _ _ (@Snd.b _ _ _ _ _ (@Snd.int _ _ _ _ _ _)) (@Snd.b _ _ _ _ _ (@Snd.bin _ _ _ _ _ _ _ _ _ (@SndB.var _ _ _ _ _ _ rfl rfl rfl) (@Snd.b _ _ _ _ _ (@Snd.int _ _ _ _ _ _)))))) rfl) (@SndTs.cons _ _ _ _ _ _ _ (@SndT.cmp _ _ _ _ _ _ _ _ _ (@Snd.b _ _ _ _ _ (@Snd.bi _ _ _ _ _ _ _ _ _ _ _ _ W.b_len rfl (@biLen _) (@SndAs.cons _ _ _ _ _ _ _ (@SndB.var _ _ _ _ _ _ rfl rfl rfl) (@SndAs.nil _ _ _) (fun _ _ => rfl)) (fun _ => rfl) rfl)) (@Snd.b _ _ _ _ _ (@Snd.bin _ _ _ _ _ _ _ _ _ (@Snd.b _ _ _ _ _ (@Snd.bin _ _ _ _ _ _ _ _ _ (@Snd.b _ _ _ _ _ (@Snd.int _ _ _ _ _ _)) (@SndB.var _ _ _ _ _ _ rfl rfl rfl))) (@Snd.b _ _ _ _ _ (@Snd.int _ _ _ _ _ _)))) rfl) (@SndTs.nil _ _ _)))) (@SndSs.one _ _ _ _ _ (@SndS.ret _ _ _ _ _ _ (@Snd.bool _ _ _ _ _ _))) (@SndSs.nil _ _ _)) (@SndSs.cons _ _ _ _ _ _ _ (@SndS.assignM (C.fn N_law none) _ _ _ _ _ _ _ _ _ [11, 12] ["colours", "table"] [_, _] _ (fun _ => rfl) rfl rfl (List.forall_mem_cons.mpr ⟨⟨.inr rfl, (NoPin.none rfl _)⟩, (List.forall_mem_cons.mpr ⟨⟨.inl rfl, (NoPin.none rfl _)⟩, (fun _ h => nomatch h)⟩)⟩) (@SndMs.fz _ _ _ _ _ _ _ (@Snd.call _ _ _ _ _ _ _ _ _ _ _ _ _ W.g__law_colours rfl ⟨W.d__law_colours.fn.fn⟩ (@ok__law_colours _ W) (@SndRs.cons _ _ _ _ _ _ _ (@Snd.var _ _ _ _ _ _ rfl rfl rfl) (@SndRs.cons _ _ _ _ _ _ _ (@Snd.var _ _ _ _ _ _ rfl rfl rfl) (@SndRs.nil _ _ _) (fun _ _ => rfl)) (fun _ _ => rfl)) (by decide) rfl) (@SndMs.ow _ _ _ _ _ _ _ (@SndO.list _ _ _ _ _ _ (@SndRs.cons _ _ _ _ _ _ _ (@SndO.snd _ _ _ _ _ (@SndO.dict0 _ _ _ _)) (@SndRs.cons _ _ _ _ _ _ _ (@SndO.snd _ _ _ _ _ (@SndO.dict0 _ _ _ _)) (@SndRs.cons _ _ _ _ _ _ _ (@SndO.snd _ _ _ _ _ (@SndO.dict0 _ _ _ _)) (@SndRs.nil _ _ _) (fun _ _ => rfl)) (fun _ _ => rfl)) (fun _ _ => rfl))) (@SndMs.nil _ _ _) (fun _ _ => rfl)) (fun _ _ => rfl)) false (by decide) (fun _ => rfl) (fun env he => by cases env; cases he; rfl)) (@SndSs.cons _ _ _ _ _ _ _ (@SndS.forI _ _ _ _ _ _ _ _ _ _ _ (@SndTg.name _ _ _ _ rfl) (List.forall_mem_cons.mpr ⟨⟨.inl rfl, (NoPin.none rfl _)⟩, (fun _ h => nomatch h)⟩) (@SndI.range _ _ _ _ _ _ _ _ _ _ W.b_range rfl (@SndAs.cons _ _ _ _ _ _ _ (@SndB.var _ _ _ _ _ _ rfl rfl rfl) (@SndAs.nil _ _ _) (fun _ _ => rfl)) (fun _ => rfl)) (@SndSs.one _ _ _ _ _ (@SndS.put _ _ _ _ _ _ _ _ _ _ _ _ rfl (@Snd.sub _ _ _ _ _ _ _ _ (@SndB.var _ _ _ _ _ _ rfl rfl rfl) (@Snd.var _ _ _ _ _ _ rfl rfl rfl) (fun _ _ => rfl)) (@Snd.call _ _ _ _ _ _ _ _ _ _ _ _ _ W.g_add_callers rfl ⟨W.d_add_callers.fn.fn⟩ (@ok_add_callers _ W) (@SndRs.cons _ _ _ _ _ _ _ (@Snd.sub _ _ _ _ _ _ _ _ (@SndB.var _ _ _ _ _ _ rfl rfl rfl) (@Snd.sub _ _ _ _ _ _ _ _ (@SndB.var _ _ _ _ _ _ rfl rfl rfl) (@Snd.var _ _ _ _ _ _ rfl rfl rfl) (fun _ _ => rfl)) (fun _ _ => rfl)) (@SndRs.cons _ _ _ _ _ _ _ (@SndO.snd _ _ _ _ _ (@SndO.dict _ _ _ _ _ _ _ (@SndDs.cons _ _ _ _ _ _ _ _ _ _ (@Snd.tuple _ _ _ _ _ _ _ (@SndRs.cons _ _ _ _ _ _ _ (@Snd.str _ _ _ _ _ _ (by decide +kernel)) (@SndRs.cons _ _ _ _ _ _ _ (@Snd.var _ _ _ _ _ _ rfl rfl rfl) (@SndRs.cons _ _ _ _ _ _ _ (@Snd.str _ _ _ _ _ _ (by decide +kernel)) (@SndRs.nil _ _ _) (fun _ _ => rfl)) (fun _ _ => rfl)) (fun _ _ => rfl))) (@Snd.int _ _ _ _ _ _) (@SndDs.nil _ _ _)) rfl rfl (by first | rfl | (intros; rfl) | decide | (intros; with_unfolding_all rfl) | (intro env h; simp [interactive, h]) | simp) (by first | rfl | (intros; rfl) | decide | (intros; with_unfolding_all rfl) | (intro env h; simp [interactive, h]) | simp))) (@SndRs.nil _ _ _) (fun _ _ => rfl)) (fun _ _ => rfl)) (by decide) rfl) rfl rfl (fun _ => rfl))) (fun _ _ => rfl)) (@SndSs.cons _ _ _ _ _ _ _ (@SndS.free _ _ _ 12 _ _ (of_decide_eq_true rfl) (@SndS.frz _ _ _ 14 _ _ (of_decide_eq_true rfl) (@SndS.assignU _ _ _ _ _ _ _ _ _ _ _ _ _ _ _ _ _ (lpC [0] (tg1 0) [] (eltC (callC g_count_calls [(vC 0)]))) _ ["row"] rfl rfl (NoPin.none rfl _) rfl rfl (CompOk.of (names := ["row"]) (nt := 1) (caps := []) rfl) (@SndI.seq _ _ _ _ _ _ (@Snd.var _ _ _ _ _ _ rfl rfl rfl)) (@Lp.mk _ _ _ _ _ _ _ _ _ _ _ _ _ _ _ [0] _ rfl (@SndTg.name _ _ _ _ rfl) rfl (by decide) (@SndIfs.nil _ _ _) (@In.elt _ _ _ _ _ _ _ _ _ _ rfl (@Snd.call _ _ _ _ _ _ _ _ _ _ _ _ _ W.g_count_calls rfl ⟨W.d_count_calls.fn.fn⟩ (@ok_count_calls _ W) (@SndRs.cons _ _ _ _ _ _ _ (@Snd.var _ _ _ _ _ _ rfl rfl rfl) (@SndRs.nil _ _ _) (fun _ _ => rfl)) (by decide) rfl))) (by decide) (fun _ _ => rfl)))) (@SndSs.cons _ _ _ _ _ _ _ (@SndS.ifs _ _ _ _ _ _ _ _ _ _ (@SndT.or _ _ _ _ _ _ (@SndTs.cons _ _ _ _ _ _ _ (@SndT.cmp _ _ _ _ _ _ _ _ _ (@Snd.b _ _ _ _ _ (@Snd.bi _ _ _ _ _ _ _ _ _ _ _ _ W.b_sum rfl (@biSum _) (@SndAs.cons _ _ _ _ _ _ _ (@SndB.var _ _ _ _ _ _ rfl rfl rfl) (@SndAs.nil _ _ _) (fun _ _ => rfl)) (fun _ => rfl) rfl)) (@SndB.var _ _ _ _ _ _ rfl rfl rfl) rfl) (@SndTs.cons _ _ _ _ _ _ _ (@SndT.cmp _ _ _ _ _ _ _ _ _ (@Snd.b _ _ _ _ _ (@Snd.bi _ _ _ _ _ _ _ _ _ _ _ _ W.b_min rfl (@biMin _) (@SndAs.cons _ _ _ _ _ _ _ (@SndB.var _ _ _ _ _ _ rfl rfl rfl) (@SndAs.nil _ _ _) (fun _ _ => rfl)) (fun _ => rfl) rfl)) (@Snd.b _ _ _ _ _ (@Snd.bin _ _ _ _ _ _ _ _ _ (@SndB.var _ _ _ _ _ _ rfl rfl rfl) (@Snd.b _ _ _ _ _ (@Snd.int _ _ _ _ _ _)))) rfl) (@SndTs.cons _ _ _ _ _ _ _ (@SndT.cmp _ _ _ _ _ _ _ _ _ (@Snd.b _ _ _ _ _ (@SndO.snd _ _ _ _ _ (@SndO.comp _ _ _ _ _ _ _ _ _ _ _ _ _ (lpC [0] (tg1 0) [(cmC .NotEq (callC sortG [(compC 1 [1] (seqC (vC 0)) (lpC [0] (tg1 0) [] (eltC (subC (bC 1) (vC 0)))))]) (lstC [(cC (.int 0)), (cC (.int 1)), (cC (.int 2))]))] (eltC (vC 0))) _ ["part"] (CompOk.of (names := ["part", "colours"]) (nt := 1) (caps := [11]) rfl) (@SndI.seq _ _ _ _ _ _ (@Snd.var _ _ _ _ _ _ rfl rfl rfl)) (@Lp.mk _ _ _ _ _ _ _ _ _ _ _ _ _ _ _ [0] _ rfl (@SndTg.name _ _ _ _ rfl) rfl (by decide) (@SndIfs.cons _ _ _ _ _ _ _ (@SndT.cmp _ _ _ _ _ _ _ _ _ (@Snd.b _ _ _ _ _ (@Snd.bi _ _ _ _ _ _ _ _ _ _ _ _ W.b_sorted rfl (@biSorted _) (@SndAs.cons _ _ _ _ _ _ _ (@Snd.b _ _ _ _ _ (@SndO.snd _ _ _ _ _ (@SndO.comp _ _ _ _ _ _ _ _ _ _ _ _ _ (lpC [0] (tg1 0) [] (eltC (subC (bC 1) (vC 0)))) _ ["corner"] (CompOk.of (names := ["corner", "colours"]) (nt := 1) (caps := [1]) rfl) (@SndI.seq _ _ _ _ _ _ (@Snd.var _ _ _ _ _ _ rfl rfl rfl)) (@Lp.mk _ _ _ _ _ _ _ _ _ _ _ _ _ _ _ [0] _ rfl (@SndTg.name _ _ _ _ rfl) rfl (by decide) (@SndIfs.nil _ _ _) (@In.elt _ _ _ _ _ _ _ _ _ _ rfl (@Snd.sub _ _ _ _ _ _ _ _ (@SndB.var _ _ _ _ _ _ rfl rfl rfl) (@Snd.var _ _ _ _ _ _ rfl rfl rfl) (fun _ _ => rfl)))) (by decide) (fun _ _ => rfl)))) (@SndAs.nil _ _ _) (fun _ _ => rfl)) (fun _ => rfl) rfl)) (@Snd.b _ _ _ _ _ (@Snd.list _ _ _ _ _ _ (@SndRs.cons _ _ _ _ _ _ _ (@Snd.int _ _ _ _ _ _) (@SndRs.cons _ _ _ _ _ _ _ (@Snd.int _ _ _ _ _ _) (@SndRs.cons _ _ _ _ _ _ _ (@Snd.int _ _ _ _ _ _) (@SndRs.nil _ _ _) (fun _ _ => rfl)) (fun _ _ => rfl)) (fun _ _ => rfl)))) rfl) (@SndIfs.nil _ _ _)) (@In.elt _ _ _ _ _ _ _ _ _ _ rfl (@Snd.var _ _ _ _ _ _ rfl rfl rfl))) (by decide) (fun _ _ => rfl)))) (@Snd.b _ _ _ _ _ (@Snd.list _ _ _ _ _ _ (@SndRs.nil _ _ _))) rfl) (@SndTs.nil _ _ _))))) (@SndSs.one _ _ _ _ _ (@SndS.ret _ _ _ _ _ _ (@Snd.bool _ _ _ _ _ _))) (@SndSs.nil _ _ _)) (@SndSs.cons _ _ _ _ _ _ _ (@SndS.assign _ _ _ _ _ _ _ _ _ rfl ⟨.inl rfl, (NoPin.none rfl _)⟩ (@Snd.list _ _ _ _ _ _ (@SndRs.cons _ _ _ _ _ _ _ (@SndO.snd _ _ _ _ _ (@SndO.dict0 _ _ _ _)) (@SndRs.nil _ _ _) (fun _ _ => rfl))) (fun _ => rfl)) (@SndSs.cons _ _ _ _ _ _ _ (@SndS.forI _ _ _ _ _ _ _ _ _ _ _ (@SndTg.tuple _ _ _ _ [16, 17, 18] ["low", "middle", "high"] [_, _, _] (fun _ => rfl) rfl rfl) (List.forall_mem_cons.mpr ⟨⟨.inr rfl, (NoPin.none rfl _)⟩, (List.forall_mem_cons.mpr ⟨⟨.inr rfl, (NoPin.none rfl _)⟩, (List.forall_mem_cons.mpr ⟨⟨.inr rfl, (NoPin.none rfl _)⟩, (fun _ h => nomatch h)⟩)⟩)⟩) (@SndI.seq _ _ _ _ _ _ (@Snd.var _ _ _ _ _ _ rfl rfl rfl)) (@SndSs.one _ _ _ _ _ (@SndS.frz _ _ _ 15 _ _ (of_decide_eq_true rfl) (@SndS.assignU _ _ _ _ _ _ _ _ _ _ _ _ _ _ _ _ _ (lpC [0] (tg1 0) [] (genC (seqC (compC 2 [] (rangeC [(cC (.int 3))]) (lpC [0] (tg1 0) [] (genC (rangeC [(cC (.int 3))]) (lpC [1] (tg1 1) [(cmC .NotEq (bC 0) (bC 1))] (eltC (tupC [(vC 0), (vC 1), (opC .Sub (opC .Sub (cC (.int 3)) (bC 0)) (bC 1))]))))))) (lpC [1] (tg1 1) [(cmC .Eq (compC 2 [0] (zipC (tupC [(vC 2), (vC 3), (vC 4)]) (vC 1)) (lpC [0, 1] (tgN [0, 1]) [(cmC .NotEq (getC (bC 2) (vC 0) (vC 1)) (bC 1))] (eltC (cC (.int 1))))) (lstC []))] (eltC (Ev.callC dictG [(opC .Add (liC (vC 0)) (lzC (tupC [(vC 2), (vC 3), (vC 4)]) (vC 1)))]))))) _ ["way", "told"] rfl rfl (NoPin.none rfl _) rfl rfl (CompOk.of (names := ["way", "told", "low", "middle", "high"]) (nt := 2) (caps := [16, 17, 18]) rfl) (@SndI.seq _ _ _ _ _ _ (@Snd.var _ _ _ _ _ _ rfl rfl rfl)) (@Lp.mk _ _ _ _ _ _ _ _ _ _ _ _ _ _ _ [0] _ rfl (@SndTg.name _ _ _ _ rfl) rfl (by decide) (@SndIfs.nil _ _ _) (@In.gen _ _ _ _ _ _ _ _ _ _ _ _ _ _ rfl (@SndI.seq _ _ _ _ _ _ (@SndO.snd _ _ _ _ _ (@SndO.comp _ _ _ _ _ _ _ _ _ _ _ _ _ (lpC [0] (tg1 0) [] (genC (rangeC [(cC (.int 3))]) (lpC [1] (tg1 1) [(cmC .NotEq (bC 0) (bC 1))] (eltC (tupC [(vC 0), (vC 1), (opC .Sub (opC .Sub (cC (.int 3)) (bC 0)) (bC 1))]))))) _ ["a", "b"] (CompOk.of (names := ["a", "b"]) (nt := 2) (caps := []) rfl) (@SndI.range _ _ _ _ _ _ _ _ _ _ W.b_range rfl (@SndAs.cons _ _ _ _ _ _ _ (@Snd.b _ _ _ _ _ (@Snd.int _ _ _ _ _ _)) (@SndAs.nil _ _ _) (fun _ _ => rfl)) (fun _ => rfl)) (@Lp.mk _ _ _ _ _ _ _ _ _ _ _ _ _ _ _ [0] _ rfl (@SndTg.name _ _ _ _ rfl) rfl (by decide) (@SndIfs.nil _ _ _) (@In.gen _ _ _ _ _ _ _ _ _ _ _ _ _ _ rfl (@SndI.range _ _ _ _ _ _ _ _ _ _ W.b_range rfl (@SndAs.cons _ _ _ _ _ _ _ (@Snd.b _ _ _ _ _ (@Snd.int _ _ _ _ _ _)) (@SndAs.nil _ _ _) (fun _ _ => rfl)) (fun _ => rfl)) (@Lp.mk _ _ _ _ _ _ _ _ _ _ _ _ _ _ _ [1] _ rfl (@SndTg.name _ _ _ _ rfl) rfl (by decide) (@SndIfs.cons _ _ _ _ _ _ _ (@SndT.cmp _ _ _ _ _ _ _ _ _ (@SndB.var _ _ _ _ _ _ rfl rfl rfl) (@SndB.var _ _ _ _ _ _ rfl rfl rfl) rfl) (@SndIfs.nil _ _ _)) (@In.elt _ _ _ _ _ _ _ _ _ _ rfl (@Snd.tuple _ _ _ _ _ _ _ (@SndRs.cons _ _ _ _ _ _ _ (@Snd.var _ _ _ _ _ _ rfl rfl rfl) (@SndRs.cons _ _ _ _ _ _ _ (@Snd.var _ _ _ _ _ _ rfl rfl rfl) (@SndRs.cons _ _ _ _ _ _ _ (@Snd.bin _ _ _ _ _ _ _ _ _ (@Snd.b _ _ _ _ _ (@Snd.bin _ _ _ _ _ _ _ _ _ (@Snd.b _ _ _ _ _ (@Snd.int _ _ _ _ _ _)) (@SndB.var _ _ _ _ _ _ rfl rfl rfl))) (@SndB.var _ _ _ _ _ _ rfl rfl rfl)) (@SndRs.nil _ _ _) (fun _ _ => rfl)) (fun _ _ => rfl)) (fun _ _ => rfl))))) (fun _ _ => rfl))) (by decide) (fun _ _ => rfl)))) (@Lp.mk _ _ _ _ _ _ _ _ _ _ _ _ _ _ _ [1] _ rfl (@SndTg.name _ _ _ _ rfl) rfl (by decide) (@SndIfs.cons _ _ _ _ _ _ _ (@SndT.cmp _ _ _ _ _ _ _ _ _ (@Snd.b _ _ _ _ _ (@SndO.snd _ _ _ _ _ (@SndO.comp _ _ _ _ _ _ _ _ _ _ _ _ _ (lpC [0, 1] (tgN [0, 1]) [(cmC .NotEq (getC (bC 2) (vC 0) (vC 1)) (bC 1))] (eltC (cC (.int 1)))) _ ["corner", "colour"] (CompOk.of (names := ["corner", "colour", "way"]) (nt := 2) (caps := [0]) rfl) (@SndI.zip _ _ _ _ _ _ _ _ _ _ _ _ W.b_zip rfl (@Snd.tuple _ _ _ _ _ _ _ (@SndRs.cons _ _ _ _ _ _ _ (@Snd.var _ _ _ _ _ _ rfl rfl rfl) (@SndRs.cons _ _ _ _ _ _ _ (@Snd.var _ _ _ _ _ _ rfl rfl rfl) (@SndRs.cons _ _ _ _ _ _ _ (@Snd.var _ _ _ _ _ _ rfl rfl rfl) (@SndRs.nil _ _ _) (fun _ _ => rfl)) (fun _ _ => rfl)) (fun _ _ => rfl))) (@Snd.var _ _ _ _ _ _ rfl rfl rfl) (fun _ _ => rfl) (fun _ _ => rfl) (fun _ => rfl)) (@Lp.mk _ _ _ _ _ _ _ _ _ _ _ _ _ _ _ [0, 1] _ rfl (@SndTg.tuple _ _ _ _ [0, 1] ["corner", "colour"] [_, _] (fun _ => rfl) rfl rfl) rfl (by decide) (@SndIfs.cons _ _ _ _ _ _ _ (@SndT.cmp _ _ _ _ _ _ _ _ _ (@Snd.b _ _ _ _ _ (@Snd.getD _ _ _ _ _ _ _ _ _ _ _ (@SndB.var _ _ _ _ _ _ rfl rfl rfl) (@Snd.var _ _ _ _ _ _ rfl rfl rfl) (@Snd.var _ _ _ _ _ _ rfl rfl rfl) (fun _ => rfl) (fun _ => rfl) (fun _ => rfl) (fun _ => rfl) rfl)) (@SndB.var _ _ _ _ _ _ rfl rfl rfl) rfl) (@SndIfs.nil _ _ _)) (@In.elt _ _ _ _ _ _ _ _ _ _ rfl (@Snd.int _ _ _ _ _ _))) (by decide) (fun _ _ => rfl)))) (@Snd.b _ _ _ _ _ (@Snd.list _ _ _ _ _ _ (@SndRs.nil _ _ _))) rfl) (@SndIfs.nil _ _ _)) (@In.elt _ _ _ _ _ _ _ _ _ _ rfl (@SndO.snd _ _ _ _ _ (@SndO.dictOf _ _ _ _ _ _ _ W.b_dict rfl (@Snd.b _ _ _ _ _ (@Snd.bin _ _ _ _ _ _ _ _ _ (@Snd.b _ _ _ _ _ (@SndO.snd _ _ _ _ _ (@SndO.listItems _ _ _ _ _ _ _ _ _ W.b_list rfl (@Snd.var _ _ _ _ _ _ rfl rfl rfl) (fun _ => rfl) rfl))) (@Snd.b _ _ _ _ _ (@SndO.snd _ _ _ _ _ (@SndO.listZip _ _ _ _ _ _ _ _ _ _ _ W.b_list rfl W.b_zip rfl (@Snd.tuple _ _ _ _ _ _ _ (@SndRs.cons _ _ _ _ _ _ _ (@Snd.var _ _ _ _ _ _ rfl rfl rfl) (@SndRs.cons _ _ _ _ _ _ _ (@Snd.var _ _ _ _ _ _ rfl rfl rfl) (@SndRs.cons _ _ _ _ _ _ _ (@Snd.var _ _ _ _ _ _ rfl rfl rfl) (@SndRs.nil _ _ _) (fun _ _ => rfl)) (fun _ _ => rfl)) (fun _ _ => rfl))) (@Snd.var _ _ _ _ _ _ rfl rfl rfl) (fun _ _ => rfl) (fun _ _ => rfl) (fun _ => rfl)))))) (fun _ _ => rfl))))) (fun _ _ => rfl))) (by decide) (fun _ _ => rfl)))) (fun _ _ => rfl)) (@SndSs.cons _ _ _ _ _ _ _ (@SndS.ifs _ _ _ _ _ _ _ _ _ _ (@SndT.cmp _ _ _ _ _ _ _ _ _ (@Snd.b _ _ _ _ _ (@Snd.bi _ _ _ _ _ _ _ _ _ _ _ _ W.b_len rfl (@biLen _) (@SndAs.cons _ _ _ _ _ _ _ (@SndB.var _ _ _ _ _ _ rfl rfl rfl) (@SndAs.nil _ _ _) (fun _ _ => rfl)) (fun _ => rfl) rfl)) (@Snd.b _ _ _ _ _ (@Snd.int _ _ _ _ _ _)) rfl) (@SndSs.one _ _ _ _ _ (@SndS.ret _ _ _ _ _ _ (@Snd.bool _ _ _ _ _ _))) (@SndSs.nil _ _ _)) (@SndSs.cons _ _ _ _ _ _ _ (@SndS.frz _ _ _ 19 _ _ (of_decide_eq_true rfl) (@SndS.assignU _ _ _ _ _ _ _ _ _ _ _ _ _ _ _ _ _ (lpC [0] (tg1 0) [(cmC .GtE (callC lenG [(compC 2 [1] (seqC (lstC [(tupC [(subC (bC 0) (cC (.int 0))), (subC (bC 0) (cC (.int 1)))]), (tupC [(subC (bC 0) (cC (.int 1))), (subC (bC 0) (cC (.int 2)))]), (tupC [(subC (bC 0) (cC (.int 0))), (subC (bC 0) (cC (.int 2)))])])) (lpC [0, 1] (tgN [0, 1]) [(cmC .Eq (subC (bC 2) (tupC [(cC (.str "line")), (vC 0), (vC 1)])) (cC (.int 1)))] (eltC (cC (.int 1)))))]) (cC (.int 2)))] (eltC (vC 0))) _ ["part"] rfl rfl (NoPin.none rfl _) rfl rfl (CompOk.of (names := ["part", "lines"]) (nt := 1) (caps := [4]) rfl) (@SndI.seq _ _ _ _ _ _ (@Snd.var _ _ _ _ _ _ rfl rfl rfl)) (@Lp.mk _ _ _ _ _ _ _ _ _ _ _ _ _ _ _ [0] _ rfl (@SndTg.name _ _ _ _ rfl) rfl (by decide) (@SndIfs.cons _ _ _ _ _ _ _ (@SndT.cmp _ _ _ _ _ _ _ _ _ (@Snd.b _ _ _ _ _ (@Snd.bi _ _ _ _ _ _ _ _ _ _ _ _ W.b_len rfl (@biLen _) (@SndAs.cons _ _ _ _ _ _ _ (@Snd.b _ _ _ _ _ (@SndO.snd _ _ _ _ _ (@SndO.comp _ _ _ _ _ _ _ _ _ _ _ _ _ (lpC [0, 1] (tgN [0, 1]) [(cmC .Eq (subC (bC 2) (tupC [(cC (.str "line")), (vC 0), (vC 1)])) (cC (.int 1)))] (eltC (cC (.int 1)))) _ ["one", "other"] (CompOk.of (names := ["one", "other", "lines"]) (nt := 2) (caps := [1]) rfl) (@SndI.seq _ _ _ _ _ _ (@Snd.list _ _ _ _ _ _ (@SndRs.cons _ _ _ _ _ _ _ (@Snd.tuple _ _ _ _ _ _ _ (@SndRs.cons _ _ _ _ _ _ _ (@Snd.sub _ _ _ _ _ _ _ _ (@SndB.var _ _ _ _ _ _ rfl rfl rfl) (@Snd.int _ _ _ _ _ _) (fun _ _ => rfl)) (@SndRs.cons _ _ _ _ _ _ _ (@Snd.sub _ _ _ _ _ _ _ _ (@SndB.var _ _ _ _ _ _ rfl rfl rfl) (@Snd.int _ _ _ _ _ _) (fun _ _ => rfl)) (@SndRs.nil _ _ _) (fun _ _ => rfl)) (fun _ _ => rfl))) (@SndRs.cons _ _ _ _ _ _ _ (@Snd.tuple _ _ _ _ _ _ _ (@SndRs.cons _ _ _ _ _ _ _ (@Snd.sub _ _ _ _ _ _ _ _ (@SndB.var _ _ _ _ _ _ rfl rfl rfl) (@Snd.int _ _ _ _ _ _) (fun _ _ => rfl)) (@SndRs.cons _ _ _ _ _ _ _ (@Snd.sub _ _ _ _ _ _ _ _ (@SndB.var _ _ _ _ _ _ rfl rfl rfl) (@Snd.int _ _ _ _ _ _) (fun _ _ => rfl)) (@SndRs.nil _ _ _) (fun _ _ => rfl)) (fun _ _ => rfl))) (@SndRs.cons _ _ _ _ _ _ _ (@Snd.tuple _ _ _ _ _ _ _ (@SndRs.cons _ _ _ _ _ _ _ (@Snd.sub _ _ _ _ _ _ _ _ (@SndB.var _ _ _ _ _ _ rfl rfl rfl) (@Snd.int _ _ _ _ _ _) (fun _ _ => rfl)) (@SndRs.cons _ _ _ _ _ _ _ (@Snd.sub _ _ _ _ _ _ _ _ (@SndB.var _ _ _ _ _ _ rfl rfl rfl) (@Snd.int _ _ _ _ _ _) (fun _ _ => rfl)) (@SndRs.nil _ _ _) (fun _ _ => rfl)) (fun _ _ => rfl))) (@SndRs.nil _ _ _) (fun _ _ => rfl)) (fun _ _ => rfl)) (fun _ _ => rfl)))) (@Lp.mk _ _ _ _ _ _ _ _ _ _ _ _ _ _ _ [0, 1] _ rfl (@SndTg.tuple _ _ _ _ [0, 1] ["one", "other"] [_, _] (fun _ => rfl) rfl rfl) rfl (by decide) (@SndIfs.cons _ _ _ _ _ _ _ (@SndT.cmp _ _ _ _ _ _ _ _ _ (@Snd.b _ _ _ _ _ (@Snd.sub _ _ _ _ _ _ _ _ (@SndB.var _ _ _ _ _ _ rfl rfl rfl) (@Snd.tuple _ _ _ _ _ _ _ (@SndRs.cons _ _ _ _ _ _ _ (@Snd.str _ _ _ _ _ _ (by decide +kernel)) (@SndRs.cons _ _ _ _ _ _ _ (@Snd.var _ _ _ _ _ _ rfl rfl rfl) (@SndRs.cons _ _ _ _ _ _ _ (@Snd.var _ _ _ _ _ _ rfl rfl rfl) (@SndRs.nil _ _ _) (fun _ _ => rfl)) (fun _ _ => rfl)) (fun _ _ => rfl))) (fun _ _ => rfl))) (@Snd.b _ _ _ _ _ (@Snd.int _ _ _ _ _ _)) rfl) (@SndIfs.nil _ _ _)) (@In.elt _ _ _ _ _ _ _ _ _ _ rfl (@Snd.int _ _ _ _ _ _))) (by decide) (fun _ _ => rfl)))) (@SndAs.nil _ _ _) (fun _ _ => rfl)) (fun _ => rfl) rfl)) (@Snd.b _ _ _ _ _ (@Snd.int _ _ _ _ _ _)) rfl) (@SndIfs.nil _ _ _)) (@In.elt _ _ _ _ _ _ _ _ _ _ rfl (@Snd.var _ _ _ _ _ _ rfl rfl rfl))) (by decide) (fun _ _ => rfl))) (@SndSs.one _ _ _ _ _ (@SndS.ret _ _ _ _ _ _ (@Snd.cmp _ _ _ _ _ _ _ _ _ (@Snd.b _ _ _ _ _ (@Snd.bi _ _ _ _ _ _ _ _ _ _ _ _ W.b_len rfl (@biLen _) (@SndAs.cons _ _ _ _ _ _ _ (@SndB.var _ _ _ _ _ _ rfl rfl rfl) (@SndAs.nil _ _ _) (fun _ _ => rfl)) (fun _ => rfl) rfl)) (@Snd.b _ _ _ _ _ (@Snd.bi _ _ _ _ _ _ _ _ _ _ _ _ W.b_min rfl (@biMin _) (@SndAs.cons _ _ _ _ _ _ _ (@Snd.b _ _ _ _ _ (@Snd.int _ _ _ _ _ _)) (@SndAs.cons _ _ _ _ _ _ _ (@Snd.b _ _ _ _ _ (@Snd.bi _ _ _ _ _ _ _ _ _ _ _ _ W.b_len rfl (@biLen _) (@SndAs.cons _ _ _ _ _ _ _ (@SndB.var _ _ _ _ _ _ rfl rfl rfl) (@SndAs.nil _ _ _) (fun _ _ => rfl)) (fun _ => rfl) rfl)) (@SndAs.nil _ _ _) (fun _ _ => rfl)) (fun _ _ => rfl)) (fun _ => rfl) rfl)) rfl))))))))))))))))))
end L3
set_option maxRecDepth 100000
/-! law 3: how its combinators run -/
namespace M3
open PySem PySem.SeqAt Ev L3
theorem cm_of {op : CmpOp} {f g : Ev.St → Option PyData} {σ : Ev.St} {a b : PyData} (hf : f σ = some a) (hg : g σ = some b) : cmC op f g σ = cmpD op a b := by unfold cmC; rw [hf, hg]
theorem op_of {op : Operator} {f g : Ev.St → Option PyData} {σ : Ev.St} {a b : PyData} (hf : f σ = some a) (hg : g σ = some b) : opC op f g σ = binD op a b := by unfold opC; rw [hf, hg]
theorem sub_of {f g : Ev.St → Option PyData} {σ : Ev.St} {a b : PyData} (hf : f σ = some a) (hg : g σ = some b) : subC f g σ = itemD a b := by unfold subC; rw [hf, hg]
theorem as_cons {f : Ev.St → Option PyData} {fs : Sf} {σ : Ev.St} {a : PyData} {as : List PyData} (hf : f σ = some a) (hg : asC fs σ = some as) : asC (f :: fs) σ = some (a :: as) := by unfold asC; rw [hf, hg]
theorem call_of {g : List PyData → Option PyData} {fs : Sf} {σ : Ev.St} {as : List PyData} (h : asC fs σ = some as) : Ev.callC g fs σ = g as := by unfold Ev.callC; rw [h]
theorem set_of {i : Nat} {f : Ev.St → Option PyData} {σ : Ev.St} {a : PyData} (h : f σ = some a) : setC i f σ = some (.next, σ.set i (some (false, a))) := by unfold setC; rw [h]
theorem tup_of {fs : Sf} {σ : Ev.St} {as : List PyData} (h : asC fs σ = some as) (h' : okLen as = true) : tupC fs σ = some (.tuple as) := by unfold tupC; rw [h]; simp only; rw [h']; rfl
theorem seq_next {f g : Sm} {σ σ' : Ev.St} (h : f σ = some (.next, σ')) : seqC2 f g σ = g σ' := by unfold seqC2; rw [h]
theorem if_true {t : Ev.St → Option Bool} {f g : Sm} {σ : Ev.St} (h : t σ = some true) : ifS t f g σ = f σ := by unfold ifS; rw [h]
theorem if_false {t : Ev.St → Option Bool} {f g : Sm} {σ : Ev.St} (h : t σ = some false) : ifS t f g σ = g σ := by unfold ifS; rw [h]
theorem loop_cons {g : PyData → Ev.St → Option Ev.St} {body : Sm} {d : PyData} {ds : List PyData} {σ σ' σ'' : Ev.St} (hg : g d σ = some σ') (hb : body σ' = some (.next, σ'')) : loopC g body (d :: ds) σ = loopC g body ds σ'' := by
  show (match g d σ with | some σ' => _ | none => none) = _
  rw [hg]
  show (match body σ' with | some (.next, σ'') => _ | r => r) = _
  rw [hb]
theorem for_of {src : Ev.St → Option (List PyData)} {g : PyData → Ev.St → Option Ev.St} {body : Sm} {σ : Ev.St} {ds : List PyData} (h : src σ = some ds) : forC src g body σ = loopC g body ds σ := by unfold forC; rw [h]
theorem free_of {i : Nat} {f : Sm} {σ : Ev.St} {d : PyData} (h : sget σ i = some (true, d)) : freeC i f σ = f (σ.set i (some (false, d))) := by unfold freeC; rw [h]
theorem fn_of {F : Sm} {ex ds : List PyData} {k n : Nat} {d : PyData} {σ : Ev.St} (h : ds.length = n) (h' : F (stOf ((ds ++ ex).map fun d => (false, d)) k) = some (.ret d, σ)) : (if ds.length = n then fnD F ex k ds else none) = some d := by
  rw [if_pos h]; unfold fnD; rw [h']
theorem put_of {i : Nat} {fk fv : Ev.St → Option PyData} {σ : Ev.St} {x d k d' : PyData} (h1 : fv σ = some x) (h2 : sget σ i = some (true, d)) (h3 : fk σ = some k) (h4 : putD d k x = some d') : putC i fk fv σ = some (.next, σ.set i (some (true, d'))) := by
  unfold putC; rw [h1]; simp only; rw [h2]; simp only; rw [h3]; simp only; rw [h4]
theorem any_false {t : Ev.St → Option Bool} {ts : List (Ev.St → Option Bool)} {σ : Ev.St} (h : t σ = some false) : anyC (t :: ts) σ = anyC ts σ := by
  show (match t σ with | some true => some true | some false => anyC ts σ | none => none) = _
  rw [h]
theorem comp_of {nt : Nat} {caps : List Nat} {src : Ev.St → Option (List PyData)} {f : List PyData → Em} {σ : Ev.St} {xs out : List PyData} (h1 : src σ = some xs) (h2 : f xs (capC nt caps σ) = some out) (h3 : out.length ≤ 1048576) : compC nt caps src f σ = some (.list out) := by
  unfold compC; rw [h1]; simp only; rw [h2]; simp only; rw [show okLen out = true from decide_eq_true h3]; rfl
theorem turns_flat {α : Type} {D : α → PyData} {g : PyData → Ev.St → Option Ev.St} {ts : List (Ev.St → Option Bool)} {k : Em} {σ : Ev.St} {st : α → Ev.St} {pr : α → Bool} {e : α → List PyData} : ∀ (xs : List α), (∀ x ∈ xs, g (D x) σ = some (st x) ∧ tsC ts (st x) = some (pr x) ∧ (pr x = true → k (st x) = some (e x))) →
    turnsC g ts k (xs.map D) σ = some ((xs.filter pr).flatMap e) := by
  intro xs
  induction xs with
  | nil => intro _; rfl
  | cons x r ih =>
    intro h
    obtain ⟨h1, h2, h3⟩ := h x (List.mem_cons_self ..)
    have ih := ih fun y hy => h y (List.mem_cons_of_mem _ hy)
    rw [List.map_cons]
    unfold turnsC
    rw [h1]
    simp only
    rw [h2]
    cases hp : pr x with
    | true =>
      simp only
      rw [h3 hp]
      simp only
      rw [ih, List.filter_cons_of_pos hp]
      rfl
    | false =>
      simp only
      rw [ih, List.filter_cons_of_neg (fun q => Bool.false_ne_true (hp.symm.trans q))]
theorem flat_map {α β : Type} (f : α → β) (l : List α) : l.flatMap (fun x => [f x]) = l.map f := by
  induction l with
  | nil => rfl
  | cons a r ih => rw [List.flatMap_cons, List.map_cons, ih]; rfl
theorem turns_filter {α : Type} {D : α → PyData} {g : PyData → Ev.St → Option Ev.St} {ts : List (Ev.St → Option Bool)} {k : Em} {σ : Ev.St} {st : α → Ev.St} {pr : α → Bool} {e : α → PyData} (xs : List α) (h : ∀ x ∈ xs, g (D x) σ = some (st x) ∧ tsC ts (st x) = some (pr x) ∧ (pr x = true → k (st x) = some [e x])) :
    turnsC g ts k (xs.map D) σ = some ((xs.filter pr).map e) := by rw [turns_flat xs h, flat_map]
theorem turns_map {α : Type} {D : α → PyData} {g : PyData → Ev.St → Option Ev.St} {k : Em} {σ : Ev.St} {st : α → Ev.St} {e : α → PyData} (xs : List α) (h : ∀ x ∈ xs, g (D x) σ = some (st x) ∧ k (st x) = some [e x]) : turnsC g [] k (xs.map D) σ = some (xs.map e) := by
  rw [turns_filter (pr := fun _ => true) (e := e) xs fun x hx => ⟨(h x hx).1, rfl, fun _ => (h x hx).2⟩, List.filter_eq_self.mpr fun _ _ => rfl]
theorem ts_one {t : Ev.St → Option Bool} {σ : Ev.St} {b : Bool} (h : t σ = some b) : tsC [t] σ = some b := by
  unfold tsC; rw [h]; cases b <;> rfl
theorem elt_of {f : Ev.St → Option PyData} {σ : Ev.St} {d : PyData} (h : f σ = some d) : eltC f σ = some [d] := by unfold eltC; rw [h]
theorem ofB_of {t : Ev.St → Option Bool} {σ : Ev.St} {b : Bool} (h : t σ = some b) : ofB t σ = some (.bool b) := by unfold ofB; rw [h]
theorem bin_fdiv {x y : Int} (h : 0 < y) (h' : y < 1000000000) : binD .FloorDiv (.int x) (.int y) = some (.int (x.fdiv y)) := by
  have e : binD .FloorDiv (.int x) (.int y) = if decide (0 < y) && decide (y < 1000000000) then some (.int (x.fdiv y)) else none := rfl
  rw [e, decide_eq_true h, decide_eq_true h']; rfl
theorem bin_mod {x y : Int} (h : y ≠ 0) : binD .Mod (.int x) (.int y) = some (.int (x.fmod y)) := by
  have e : binD .Mod (.int x) (.int y) = if y = 0 then none else some (.int (x.fmod y)) := rfl
  rw [e, if_neg h]
theorem bin_add {x y : List PyData} (h : x.length + y.length ≤ 1048576) : binD .Add (.list x) (.list y) = some (.list (x ++ y)) := by
  have e : binD .Add (.list x) (.list y) = if x.length + y.length ≤ 1048576 then some (.list (x ++ y)) else none := rfl
  rw [e, if_pos h]
/-! numbers -/
noncomputable abbrev natD (n : Nat) : PyData := .int (n : Int)
theorem cmp_eqi (a b : Int) : cmpD .Eq (.int a) (.int b) = some (decide (a = b)) := rfl
theorem cmp_nei (a b : Int) : cmpD .NotEq (.int a) (.int b) = some (!decide (a = b)) := rfl
theorem ord_i (a b : Int) : ordD (.int a) (.int b) = some (if a < b then .lt else if a = b then .eq else .gt) := rfl
theorem cmp_lti (a b : Int) : cmpD .Lt (.int a) (.int b) = some (decide (a < b)) := by
  have h : cmpD .Lt (.int a) (.int b) = (ordD (.int a) (.int b)).map (ordIs .Lt) := rfl
  rw [h, ord_i]
  by_cases h1 : a < b
  · rw [if_pos h1, decide_eq_true h1]; rfl
  · rw [if_neg h1, decide_eq_false h1]; by_cases h2 : a = b
    · rw [if_pos h2]; rfl
    · rw [if_neg h2]; rfl
theorem cmp_gti (a b : Int) : cmpD .Gt (.int a) (.int b) = some (decide (b < a)) := by
  have h : cmpD .Gt (.int a) (.int b) = (ordD (.int a) (.int b)).map (ordIs .Gt) := rfl
  rw [h, ord_i]
  by_cases h1 : a < b
  · rw [if_pos h1, decide_eq_false (by omega)]; rfl
  · rw [if_neg h1]; by_cases h2 : a = b
    · rw [if_pos h2, decide_eq_false (by omega)]; rfl
    · rw [if_neg h2, decide_eq_true (by omega)]; rfl
theorem cmp_gei (a b : Int) : cmpD .GtE (.int a) (.int b) = some (decide (b ≤ a)) := by
  have h : cmpD .GtE (.int a) (.int b) = (ordD (.int a) (.int b)).map (ordIs .GtE) := rfl
  rw [h, ord_i]
  by_cases h1 : a < b
  · rw [if_pos h1, decide_eq_false (by omega)]; rfl
  · rw [if_neg h1, decide_eq_true (by omega)]; by_cases h2 : a = b
    · rw [if_pos h2]; rfl
    · rw [if_neg h2]; rfl
theorem len_list {l : List PyData} (h : l.length ≤ 1048576) : lenG [.list l] = some (natD l.length) := by
  have e : lenG [.list l] = if okLen l then some (.int l.length) else none := rfl
  rw [e, show okLen l = true from decide_eq_true h]; rfl
theorem item_list {l : List PyData} {i : Nat} (h : i < 1048576) : itemD (.list l) (natD i) = l[i]? := by
  have e : itemD (.list l) (natD i) = if 0 ≤ (i : Int) ∧ (i : Int) < 1048576 then l[(i : Int).toNat]? else none := rfl
  rw [e, if_pos ⟨by omega, by omega⟩, Int.toNat_natCast]
theorem upD0 (k : Nat) : upD 0 (k : Int) = (List.range k).map natD := by
  unfold upD
  rw [Int.sub_zero, Int.toNat_natCast]
  exact List.map_congr_left fun i _ => by show PyData.int (0 + (i : Int)) = .int i; rw [Int.zero_add]
theorem range_of {f : Ev.St → Option PyData} {σ : Ev.St} {k : Nat} (h : f σ = some (natD k)) (hk : k < 1000) : rangeC [f] σ = some ((List.range k).map natD) := by
  unfold rangeC
  rw [as_cons h rfl]
  have e : rangeD [natD k] = if -1048576 < (k : Int) ∧ (k : Int) < 1048576 then some (upD 0 k) else none := rfl
  simp only
  rw [e, if_pos ⟨by omega, by omega⟩, upD0]
/-! tables: keys told by a number -/
structure KE (K : Nat → PyData) : Prop where
  ok : ∀ c, keyOk (K c) = true
  dep : ∀ c, (K c).depth ≤ 6
  kind : ∀ c, (kindK (K c)).isSome = true
  same : ∀ a b, kindK (K a) = kindK (K b)
  eqv : ∀ a b, PyData.eqv (K a) (K b) = decide (a = b)
noncomputable abbrev Tab := List (Nat × Nat)
noncomputable def kv (K : Nat → PyData) (x : Nat × Nat) : PyData × PyData := (K x.1, natD x.2)
noncomputable def tabD (K : Nat → PyData) (t : Tab) : PyData := .dict (t.map (kv K))
noncomputable def look : Tab → Nat → Option Nat
  | [], _ => none
  | x :: r, c => if x.1 = c then some x.2 else look r c
noncomputable def asg : Tab → Nat → Nat → Tab
  | [], c, v => [(c, v)]
  | x :: r, c, v => if x.1 = c then (x.1, v) :: r else x :: asg r c v
noncomputable def keys (t : Tab) : List Nat := t.map (·.1)
section
variable {K : Nat → PyData} (hK : KE K)
include hK
theorem KE.key (t : Tab) (c : Nat) : okKey (t.map (kv K)) (K c) = true := by
  unfold okKey
  rw [hK.ok, decide_eq_true (hK.dep c)]
  cases t with
  | nil => exact hK.kind c
  | cons x r => exact beq_iff_eq.mpr (hK.same x.1 c)
theorem KE.look (t : Tab) (c : Nat) : lookK (t.map (kv K)) (K c) = (look t c).map natD := by
  induction t with
  | nil => rfl
  | cons x r ih =>
    have e : lookK ((x :: r).map (kv K)) (K c) = if PyData.eqv (K x.1) (K c) then some (natD x.2) else lookK (r.map (kv K)) (K c) := rfl
    rw [e, hK.eqv]
    unfold M3.look
    by_cases h : x.1 = c
    · rw [if_pos h, if_pos (decide_eq_true h)]; rfl
    · rw [if_neg h, if_neg (fun q => h (of_decide_eq_true q)), ih]
theorem KE.set (t : Tab) (c v : Nat) : setK (t.map (kv K)) (K c) (natD v) = (asg t c v).map (kv K) := by
  induction t with
  | nil => rfl
  | cons x r ih =>
    have e : setK ((x :: r).map (kv K)) (K c) (natD v) = if PyData.eqv (K x.1) (K c) then (K x.1, natD v) :: r.map (kv K) else kv K x :: setK (r.map (kv K)) (K c) (natD v) := rfl
    rw [e, hK.eqv]
    unfold asg
    by_cases h : x.1 = c
    · rw [if_pos h, if_pos (decide_eq_true h)]; rfl
    · rw [if_neg h, if_neg (fun q => h (of_decide_eq_true q)), ih]; rfl
theorem KE.put {t : Tab} (h : t.length ≤ 1000) (c v : Nat) : putD (tabD K t) (K c) (natD v) = some (tabD K (asg t c v)) := by
  have e : putD (tabD K t) (K c) (natD v) = if okKey (t.map (kv K)) (K c) && decide ((t.map (kv K)).length ≤ 1048576) then some (.dict (setK (t.map (kv K)) (K c) (natD v))) else none := by
    cases K c <;> rfl
  rw [e, hK.key, hK.set, if_pos (by rw [List.length_map, decide_eq_true (by omega)]; rfl)]; rfl
theorem KE.item (t : Tab) (c : Nat) : itemD (tabD K t) (K c) = (M3.look t c).map natD := by
  have e : itemD (tabD K t) (K c) = if okKey (t.map (kv K)) (K c) then lookK (t.map (kv K)) (K c) else none := by
    cases K c <;> rfl
  rw [e, hK.key, if_pos rfl, hK.look]
end
theorem asg_len (t : Tab) (c v : Nat) : (asg t c v).length ≤ t.length + 1 := by
  induction t with
  | nil => exact Nat.le_refl _
  | cons x r ih =>
    unfold asg
    split
    · exact Nat.le_succ _
    · exact Nat.succ_le_succ ih
theorem asg_app {t r : Tab} {x : Nat × Nat} (h : (keys (t ++ x :: r)).Nodup) : asg t x.1 x.2 = t ++ [x] := by
  induction t with
  | nil => rfl
  | cons y t ih =>
    have h' := List.nodup_cons.mp h
    have hne : ¬ y.1 = x.1 := fun e => h'.1 (List.mem_map.mpr ⟨x, List.mem_append_right t List.mem_cons_self, e.symm⟩)
    unfold asg
    rw [if_neg hne, ih h'.2]; rfl
theorem asg_keys (t : Tab) (c v : Nat) : keys (asg t c v) = if c ∈ keys t then keys t else keys t ++ [c] := by
  induction t with
  | nil => rfl
  | cons x r ih =>
    unfold asg
    by_cases h : x.1 = c
    · rw [if_pos h, if_pos (by simp [keys, h])]; rfl
    · rw [if_neg h]
      have e : keys (x :: asg r c v) = x.1 :: keys (asg r c v) := rfl
      have e2 : (c ∈ keys (x :: r)) ↔ c ∈ keys r := by
        show c ∈ x.1 :: keys r ↔ _
        rw [List.mem_cons]
        exact ⟨fun q => q.resolve_left fun q => h q.symm, .inr⟩
      rw [e, ih]
      by_cases m : c ∈ keys r
      · rw [if_pos m, if_pos (e2.mpr m)]; rfl
      · rw [if_neg m, if_neg (fun q => m (e2.mp q))]; rfl
theorem asg_nodup {t : Tab} (h : (keys t).Nodup) (c v : Nat) : (keys (asg t c v)).Nodup := by
  rw [asg_keys]
  split
  · exact h
  · next m => exact List.nodup_append.mpr ⟨h, by simp, fun a ha b hb e => m (by rw [List.mem_singleton.mp hb] at e; exact e ▸ ha)⟩
end M3
set_option maxRecDepth 100000
/-! law 3: what its functions compute -/
namespace M3
open PySem PySem.SeqAt Ev L3
theorem so1 : PyData.strOk "line" = true := by decide +kernel
theorem so2 : PyData.strOk "is" = true := by decide +kernel
theorem so3 : PyData.strOk "so" = true := by decide +kernel
noncomputable def lineK (c : Nat) : PyData := .tuple [.str "line", natD (c / 9), natD (c % 9)]
noncomputable def isK (c : Nat) : PyData := .tuple [.str "is", natD c, .str "so"]
noncomputable def tripD (p : Nat) : PyData := .tuple [natD (p / 81), natD (p / 9 % 9), natD (p % 9)]
theorem cast_eq (a b : Nat) : ((a : Int) == (b : Int)) = decide (a = b) := by
  rw [Bool.eq_iff_iff, beq_iff_eq, decide_eq_true_eq]
  exact ⟨fun h => Int.ofNat.inj h, fun h => by rw [h]⟩
theorem KE.nat : KE natD where
  ok := fun _ => rfl
  dep := fun _ => Nat.zero_le _
  kind := fun _ => rfl
  same := fun _ _ => rfl
  eqv := fun a b => cast_eq a b
theorem KE.line : KE lineK where
  ok := fun c => by
    show (PyData.strOk "line" && (true && (true && true))) = true
    rw [so1]; rfl
  dep := fun _ => Nat.le_of_ble_eq_true rfl
  kind := fun _ => rfl
  same := fun _ _ => rfl
  eqv := fun a b => by
    show ((("line" : Str) == "line") && (((a / 9 : Nat) : Int) == ((b / 9 : Nat) : Int) && (((a % 9 : Nat) : Int) == ((b % 9 : Nat) : Int) && true))) = _
    rw [cast_eq, cast_eq, show (("line" : Str) == "line") = true by decide, Bool.true_and, Bool.and_true, ← Bool.decide_and]
    exact decide_eq_decide.mpr ⟨fun h => by rw [← Nat.div_add_mod a 9, h.1, h.2, Nat.div_add_mod], fun h => by rw [h]; exact ⟨rfl, rfl⟩⟩
theorem KE.is : KE isK where
  ok := fun c => by
    show (PyData.strOk "is" && (true && (PyData.strOk "so" && true))) = true
    rw [so2, so3]; rfl
  dep := fun _ => Nat.le_of_ble_eq_true rfl
  kind := fun _ => rfl
  same := fun _ _ => rfl
  eqv := fun a b => by
    show ((("is" : Str) == "is") && (((a : Int) == (b : Int)) && ((("so" : Str) == "so") && true))) = _
    rw [cast_eq, show (("is" : Str) == "is") = true by decide, show (("so" : Str) == "so") = true by decide, Bool.true_and, Bool.and_true, Bool.and_true]
/-! add_callers -/
noncomputable def bump (t : Tab) (c : Nat) : Tab := asg t c ((look t c).getD 0 + 1)
noncomputable abbrev sA (t s : PyData) (d : PyData) (x y : Option (Bool × PyData)) : Ev.St := [some (false, t), some (false, s), some (true, d), x, y]
theorem loopA {K : Nat → PyData} (hK : KE K) (t s : PyData) : ∀ (r acc : Tab) (x y : Option (Bool × PyData)), (keys (acc ++ r)).Nodup → (acc ++ r).length ≤ 1000 →
    ∃ x' y', loopC (tgN [3, 4]) (putC 2 (vC 3) (vC 4)) ((r.map (kv K)).map pairD) (sA t s (tabD K acc) x y) = some (.next, sA t s (tabD K (acc ++ r)) x' y') := by
  intro r
  induction r with
  | nil => intro acc x y _ _; exact ⟨x, y, by rw [List.append_nil]; rfl⟩
  | cons p r ih =>
    intro acc x y h1 h2
    have e : acc ++ p :: r = (acc ++ [p]) ++ r := by rw [List.append_assoc]; rfl
    obtain ⟨x', y', h⟩ := ih (acc ++ [p]) (some (false, K p.1)) (some (false, natD p.2)) (by rw [← e]; exact h1) (by rw [← e]; exact h2)
    refine ⟨x', y', ?_⟩
    rw [List.map_cons, List.map_cons, loop_cons (σ' := sA t s (tabD K acc) (some (false, K p.1)) (some (false, natD p.2))) (σ'' := sA t s (tabD K (acc ++ [p])) (some (false, K p.1)) (some (false, natD p.2))) rfl, h, e]
    rw [← asg_app h1]
    refine (put_of rfl rfl rfl (hK.put ?_ _ _)).trans rfl
    rw [List.length_append] at h2; omega
theorem g_add {K : Nat → PyData} (hK : KE K) {t : Tab} (hn : (keys t).Nodup) (hl : t.length ≤ 900) (c : Nat) : g_add_callers [tabD K t, tabD K [(c, 1)]] = some (tabD K (bump t c)) := by
  obtain ⟨x, y, h⟩ := loopA hK (tabD K t) (tabD K [(c, 1)]) t [] none none hn (by rw [List.nil_append]; omega)
  have e1 : forC (itemsC (vC 0)) (tgN [3, 4]) (putC 2 (vC 3) (vC 4)) (sA (tabD K t) (tabD K [(c, 1)]) (tabD K []) none none) = some (.next, sA (tabD K t) (tabD K [(c, 1)]) (tabD K t) x y) := (for_of rfl).trans h
  have e2 : ifS (inKC (vC 3) (bC 2)) (ifS (tvC (isTupC (bC 4))) neverC (putAddC 2 (vC 3) (vC 4))) (putC 2 (vC 3) (vC 4)) (sA (tabD K t) (tabD K [(c, 1)]) (tabD K t) (some (false, K c)) (some (false, natD 1))) = some (.next, sA (tabD K t) (tabD K [(c, 1)]) (tabD K (bump t c)) (some (false, K c)) (some (false, natD 1))) := by
    have hi : inKC (vC 3) (bC 2) (sA (tabD K t) (tabD K [(c, 1)]) (tabD K t) (some (false, K c)) (some (false, natD 1))) = if okKey (t.map (kv K)) (K c) then some (lookK (t.map (kv K)) (K c)).isSome else none := rfl
    rw [hK.key, if_pos rfl, hK.look] at hi
    have hit := hK.item t c
    unfold bump
    cases hc : look t c with
    | none =>
      rw [hc] at hi
      rw [if_false hi]
      exact (put_of rfl rfl rfl (hK.put (by omega) _ _)).trans rfl
    | some v =>
      rw [hc] at hi hit
      have hp : putD (tabD K t) (K c) (.int ((v : Int) + ((1 : Nat) : Int))) = some (tabD K (asg t c (v + 1))) := hK.put (by omega) c (v + 1)
      rw [if_true hi, if_false rfl]
      have e : putAddC 2 (vC 3) (vC 4) (sA (tabD K t) (tabD K [(c, 1)]) (tabD K t) (some (false, K c)) (some (false, natD 1))) = (match itemD (tabD K t) (K c) with
        | some (.int a) => (match putD (tabD K t) (K c) (.int (a + ((1 : Nat) : Int))) with
          | some d' => some (.next, sA (tabD K t) (tabD K [(c, 1)]) d' (some (false, K c)) (some (false, natD 1)))
          | none => none)
        | _ => none) := rfl
      rw [e, hit]
      simp only [Option.map_some]
      rw [hp]; rfl
  have e3 : forC (itemsC (vC 1)) (tgN [3, 4]) (ifS (inKC (vC 3) (bC 2)) (ifS (tvC (isTupC (bC 4))) neverC (putAddC 2 (vC 3) (vC 4))) (putC 2 (vC 3) (vC 4))) (sA (tabD K t) (tabD K [(c, 1)]) (tabD K t) x y) = some (.next, sA (tabD K t) (tabD K [(c, 1)]) (tabD K (bump t c)) (some (false, K c)) (some (false, natD 1))) :=
    (for_of (ds := [pairD (kv K (c, 1))]) rfl).trans ((loop_cons (σ' := sA (tabD K t) (tabD K [(c, 1)]) (tabD K t) (some (false, K c)) (some (false, natD 1))) rfl e2).trans rfl)
  refine fn_of rfl (σ := [some (false, tabD K t), some (false, tabD K [(c, 1)]), some (false, tabD K (bump t c)), (some (false, K c)), (some (false, natD 1))]) ?_
  unfold F_add_callers
  rw [seq_next (σ' := sA (tabD K t) (tabD K [(c, 1)]) (tabD K []) none none) rfl, seq_next e1, seq_next e3, free_of rfl]
  rfl
theorem loopN (K : Nat → PyData) (t : PyData) : ∀ (m : Tab) (k : Nat) (x : Option (Bool × PyData)), ∃ x', loopC (tg1 2) (addC 1 (vC 2)) ((m.map (kv K)).map (·.2)) [some (false, t), some (false, natD k), x] = some (.next, [some (false, t), some (false, natD (k + (m.map (·.2)).sum)), x']) := by
  intro m
  induction m with
  | nil => intro k x; exact ⟨x, rfl⟩
  | cons p r ih =>
    intro k x
    obtain ⟨x', h⟩ := ih (k + p.2) (some (false, natD p.2))
    refine ⟨x', ?_⟩
    rw [List.map_cons, List.map_cons, loop_cons (σ' := [some (false, t), some (false, natD k), some (false, natD p.2)]) (σ'' := [some (false, t), some (false, natD (k + p.2)), some (false, natD p.2)]) rfl rfl, h, List.map_cons, List.sum_cons, Nat.add_assoc]
theorem g_count (K : Nat → PyData) (m : Tab) : g_count_calls [tabD K m] = some (natD (m.map (·.2)).sum) := by
  obtain ⟨x, h⟩ := loopN K (tabD K m) m 0 none
  rw [Nat.zero_add] at h
  refine fn_of rfl (σ := [some (false, tabD K m), some (false, natD (m.map (·.2)).sum), x]) ?_
  unfold F_count_calls
  rw [seq_next (σ' := [some (false, tabD K m), some (false, natD 0), none]) rfl, seq_next (σ' := [some (false, tabD K m), some (false, natD (m.map (·.2)).sum), x]) ((for_of rfl).trans h)]
  rfl
theorem bump_len (t : Tab) (c : Nat) : (bump t c).length ≤ t.length + 1 := asg_len ..
theorem bump_nodup {t : Tab} (h : (keys t).Nodup) (c : Nat) : (keys (bump t c)).Nodup := asg_nodup h ..
/-! bisect_left, insort_left on what is in order -/
theorem digits (a : Nat) : ∃ x y z, a / 81 = x ∧ a / 9 % 9 = y ∧ a % 9 = z ∧ a = 81 * x + 9 * y + z ∧ y < 9 ∧ z < 9 := ⟨_, _, _, rfl, rfl, rfl, by omega, Nat.mod_lt _ (by decide), Nat.mod_lt _ (by decide)⟩
noncomputable def lex2 (x y : Nat) (o : Option Ordering) : Option Ordering := if ((x : Nat) : Int) == ((y : Nat) : Int) then o else
  (match (some (if ((x : Nat) : Int) < ((y : Nat) : Int) then Ordering.lt else if ((x : Nat) : Int) = ((y : Nat) : Int) then .eq else .gt)) with | some .lt => some .lt | some .gt => some .gt | _ => none)
theorem lex2_eq (x y : Nat) (o : Option Ordering) : lex2 x y o = if x = y then o else some (if x < y then .lt else .gt) := by
  unfold lex2
  rw [cast_eq]
  by_cases h : x = y
  · rw [if_pos (decide_eq_true h), if_pos h]
  · rw [if_neg (fun q => h (of_decide_eq_true q)), if_neg h]
    by_cases q : x < y
    · rw [if_pos (Int.ofNat_lt.mpr q), if_pos q]
    · rw [if_neg (fun z => q (Int.ofNat_lt.mp z)), if_neg (show ¬ (x : Int) = (y : Int) from fun z => h (Int.ofNat.inj z)), if_neg q]
theorem lt_digits {x y z u v w : Nat} (h2 : y < 9) (h3 : z < 9) (h5 : v < 9) (h6 : w < 9) : (81 * x + 9 * y + z < 81 * u + 9 * v + w ↔ x < u ∨ (x = u ∧ (y < v ∨ (y = v ∧ z < w)))) ∧ (81 * x + 9 * y + z = 81 * u + 9 * v + w ↔ x = u ∧ y = v ∧ z = w) := by omega
theorem ord_trip (a b : Nat) : ordD (tripD a) (tripD b) = some (if a < b then .lt else if a = b then .eq else .gt) := by
  have e : ordD (tripD a) (tripD b) = lex2 (a / 81) (b / 81) (lex2 (a / 9 % 9) (b / 9 % 9) (lex2 (a % 9) (b % 9) (some .eq))) := rfl
  rw [e, lex2_eq, lex2_eq, lex2_eq]
  obtain ⟨x, y, z, e1, e2, e3, rfl, h2, h3⟩ := digits a
  obtain ⟨u, v, w, f1, f2, f3, rfl, h5, h6⟩ := digits b
  rw [e1, e2, e3, f1, f2, f3]
  obtain ⟨l1, l2⟩ := lt_digits (x := x) (u := u) h2 h3 h5 h6
  simp only [l1, l2]
  clear e1 e2 e3 f1 f2 f3 l1 l2 h2 h3 h5 h6 e
  by_cases a : x = u
  · subst a
    rw [if_pos rfl]
    by_cases b : y = v
    · subst b
      rw [if_pos rfl]
      by_cases c : z = w
      · subst c; simp
      · rw [if_neg c]; simp [c]
    · rw [if_neg b]; simp [b]
  · rw [if_neg a]; simp [a]
theorem cmp_lt (a b : Nat) : cmpD .Lt (tripD a) (tripD b) = some (decide (a < b)) := by
  have h : cmpD .Lt (tripD a) (tripD b) = (ordD (tripD a) (tripD b)).map (ordIs .Lt) := rfl
  rw [h, ord_trip]
  by_cases h1 : a < b
  · rw [if_pos h1, decide_eq_true h1]; rfl
  · rw [if_neg h1, decide_eq_false h1]; by_cases h2 : a = b
    · rw [if_pos h2]; rfl
    · rw [if_neg h2]; rfl
theorem eqv_trip (a b : Nat) : PyData.eqv (tripD a) (tripD b) = decide (a = b) := by
  have e : PyData.eqv (tripD a) (tripD b) = (((a / 81 : Nat) : Int) == ((b / 81 : Nat) : Int) && (((a / 9 % 9 : Nat) : Int) == ((b / 9 % 9 : Nat) : Int) && (((a % 9 : Nat) : Int) == ((b % 9 : Nat) : Int) && true))) := rfl
  rw [e, cast_eq, cast_eq, cast_eq, Bool.and_true]
  obtain ⟨x, y, z, e1, e2, e3, rfl, h2, h3⟩ := digits a
  obtain ⟨u, v, w, f1, f2, f3, rfl, h5, h6⟩ := digits b
  rw [e1, e2, e3, f1, f2, f3, ← Bool.decide_and, ← Bool.decide_and]
  exact decide_eq_decide.mpr (lt_digits h2 h3 h5 h6).2.symm
noncomputable def partsD (P : List Nat) : PyData := .list (P.map tripD)
noncomputable def Srt (P : List Nat) : Prop := P.Pairwise (· < ·)
noncomputable def bis (P : List Nat) (p : Nat) : Nat := (P.filter (· < p)).length
theorem bis_le (P : List Nat) (p : Nat) : bis P p ≤ P.length := List.length_filter_le ..
theorem bis_at {P : List Nat} (hP : Srt P) (p : Nat) : ∀ (i : Nat) (h : i < P.length), decide (P[i] < p) = decide (i < bis P p) := by
  induction P with
  | nil => intro i h; (first | exact Ev.ns h | exact Ev.nb h | obtain rfl := Ev.si h | cases h)
  | cons a r ih =>
    have hr := List.pairwise_cons.mp hP
    intro i h
    unfold bis at *
    by_cases e : a < p
    · rw [List.filter_cons_of_pos (p := fun x => decide (x < p)) (decide_eq_true e)]
      cases i with
      | zero => exact (decide_eq_true e).trans (decide_eq_true (Nat.zero_lt_succ _)).symm
      | succ i =>
        rw [List.getElem_cons_succ, ih hr.2 i (Nat.lt_of_succ_lt_succ h)]
        exact decide_eq_decide.mpr ⟨Nat.succ_lt_succ, Nat.lt_of_succ_lt_succ⟩
    · have h0 : r.filter (· < p) = [] := List.filter_eq_nil_iff.mpr fun b hb q => e (Nat.lt_trans (hr.1 b hb) (of_decide_eq_true q))
      rw [List.filter_cons_of_neg (p := fun x => decide (x < p)) (fun q => e (of_decide_eq_true q)), h0]
      refine Eq.trans ?_ (decide_eq_false (Nat.not_lt_zero i)).symm
      cases i with
      | zero => exact decide_eq_false e
      | succ i => exact decide_eq_false fun q => e (Nat.lt_trans (hr.1 _ (List.getElem_mem (Nat.lt_of_succ_lt_succ h))) q)
theorem item_parts {P : List Nat} {i : Nat} (hi : i < P.length) (h : P.length ≤ 7) : itemD (partsD P) (natD i) = some (tripD P[i]) := by
  unfold partsD
  rw [item_list (by omega), List.getElem?_map, List.getElem?_eq_getElem hi]; rfl
theorem len_parts {P : List Nat} (h : P.length ≤ 7) : lenG [partsD P] = some (natD P.length) := by
  unfold partsD
  rw [len_list (by rw [List.length_map]; omega), List.length_map]
noncomputable abbrev sB (P : List Nat) (p lo hi : Nat) (mid : Option (Bool × PyData)) : Ev.St := [some (false, partsD P), some (false, tripD p), some (false, natD lo), some (false, natD hi), some (false, .none), mid]
noncomputable def bodyB : Sm := seqC2 (setC 5 (opC .FloorDiv (opC .Add (bC 2) (bC 3)) (cC (.int 2)))) (ifS (cmC .Lt (subC (bC 0) (vC 5)) (bC 1)) (setC 2 (opC .Add (bC 5) (cC (.int 1)))) (setC 3 (vC 5)))
theorem mid_le {lo hi : Nat} (h : lo < hi) : lo ≤ (lo + hi) / 2 ∧ (lo + hi) / 2 < hi := by omega
theorem loopB {P : List Nat} (hP : Srt P) (h7 : P.length ≤ 7) (p : Nat) : ∀ (k lo hi : Nat) (mid : Option (Bool × PyData)), lo ≤ bis P p → bis P p ≤ hi → hi ≤ P.length → hi - lo < k →
    ∃ mid' hi', whileC (cmC .Lt (bC 2) (bC 3)) bodyB k (sB P p lo hi mid) = some (.next, sB P p (bis P p) hi' mid') := by
  intro k
  induction k with
  | zero => intro lo hi mid _ _ _ h; exact absurd h (Nat.not_lt_zero _)
  | succ k ih =>
    intro lo hi mid h1 h2 h3 h4
    have ht : cmC .Lt (bC 2) (bC 3) (sB P p lo hi mid) = some (decide ((lo : Int) < hi)) := (cm_of rfl rfl).trans (cmp_lti _ _)
    unfold whileC
    rw [ht]
    by_cases h : lo < hi
    · obtain ⟨m1, m2⟩ := mid_le h
      have e0 : ((lo : Int) + hi).fdiv 2 = (((lo + hi) / 2 : Nat) : Int) := by
        rw [Int.fdiv_eq_ediv_of_nonneg _ (by decide)]; rfl
      generalize (lo + hi) / 2 = md at *
      rw [decide_eq_true (Int.ofNat_lt.mpr h)]
      simp only
      have hm : md < P.length := Nat.lt_of_lt_of_le m2 h3
      have e1 : setC 5 (opC .FloorDiv (opC .Add (bC 2) (bC 3)) (cC (.int 2))) (sB P p lo hi mid) = some (.next, sB P p lo hi (some (false, natD md))) := by
        unfold natD
        rw [← e0]
        exact set_of ((op_of rfl rfl).trans (bin_fdiv (by decide) (by decide)))
      have e2 : cmC .Lt (subC (bC 0) (vC 5)) (bC 1) (sB P p lo hi (some (false, natD md))) = some (decide (md < bis P p)) :=
        (cm_of ((sub_of rfl rfl).trans (item_parts hm h7)) rfl).trans ((cmp_lt _ _).trans (by rw [bis_at hP p _ hm]))
      by_cases hb : md < bis P p
      · have e3 : bodyB (sB P p lo hi mid) = some (.next, sB P p (md + 1) hi (some (false, natD md))) := by
          unfold bodyB
          rw [seq_next e1, if_true (e2.trans (by rw [decide_eq_true hb]))]
          rfl
        rw [e3]
        exact ih _ _ _ hb h2 h3 (by clear ih ht e0 hm e1 e2 e3; omega)
      · have e3 : bodyB (sB P p lo hi mid) = some (.next, sB P p lo md (some (false, natD md))) := by
          unfold bodyB
          rw [seq_next e1, if_false (e2.trans (by rw [decide_eq_false hb]))]
          rfl
        rw [e3]
        exact ih _ _ _ h1 (Nat.not_lt.mp hb) (Nat.le_of_lt hm) (by clear ih ht e0 hm e1 e2 e3; omega)
    · rw [decide_eq_false (fun q => h (Int.ofNat_lt.mp q))]
      simp only
      have : lo = bis P p := Nat.le_antisymm h1 (Nat.le_trans h2 (Nat.not_lt.mp h))
      subst this
      exact ⟨mid, hi, rfl⟩
theorem F_bis {P : List Nat} (hP : Srt P) (h7 : P.length ≤ 7) (p : Nat) (σ0 : Ev.St) (h : σ0 = [some (false, partsD P), some (false, tripD p), some (false, .int 0), some (false, .none), some (false, .none), none]) : ∃ σ, F_bisect_left σ0 = some (.ret (natD (bis P p)), σ) := by
  obtain ⟨mid, hi, e⟩ := loopB hP h7 p 16 0 P.length none (Nat.zero_le _) (bis_le P p) (Nat.le_refl _) (by omega)
  have e1 : setC 3 (Ev.callC lenG [bC 0]) σ0 = some (.next, sB P p 0 P.length none) := by
    rw [h]
    exact set_of ((call_of rfl).trans (len_parts h7))
  refine ⟨sB P p (bis P p) hi mid, ?_⟩
  unfold F_bisect_left
  rw [show (seqC2 (setC 5 (opC .FloorDiv (opC .Add (bC 2) (bC 3)) (cC (.int 2)))) (ifS (cmC .Lt (subC (bC 0) (vC 5)) (bC 1)) (setC 2 (opC .Add (bC 5) (cC (.int 1)))) (setC 3 (vC 5)))) = bodyB from rfl, seq_next (σ' := σ0) (by rw [h]; rfl), seq_next (σ' := sB P p 0 P.length none) (by rw [if_true (by rw [h]; rfl)]; exact e1), seq_next (σ' := sB P p (bis P p) hi mid) ((if_true rfl).trans e)]
  rfl
theorem fnD_of {F : Sm} {ex ds : List PyData} {k : Nat} {d : PyData} {σ : Ev.St} (h' : F (stOf ((ds ++ ex).map fun d => (false, d)) k) = some (.ret d, σ)) : fnD F ex k ds = some d := by
  unfold fnD; rw [h']
theorem int_only {g : List PyData → Option PyData} {ds : List PyData} {i : Int} (h : g ds = some (.int i)) : intOnly g ds = some (.int i) := by unfold intOnly; rw [h]
theorem g_bis4 {P : List Nat} (hP : Srt P) (h7 : P.length ≤ 7) (p : Nat) : g_bisect4 [partsD P, tripD p, .int 0, .none] = some (natD (bis P p)) :=
  int_only ((if_pos rfl).trans (let ⟨_, e⟩ := F_bis hP h7 p _ rfl; fnD_of e))
theorem g_bis2 {P : List Nat} (hP : Srt P) (h7 : P.length ≤ 7) (p : Nat) : g_bisect2 [partsD P, tripD p] = some (natD (bis P p)) :=
  int_only ((if_pos rfl).trans (let ⟨_, e⟩ := F_bis hP h7 p _ rfl; fnD_of e))
noncomputable def insP (P : List Nat) (p : Nat) : List Nat := P.take (bis P p) ++ p :: P.drop (bis P p)
theorem g_ins {P : List Nat} (hP : Srt P) (h7 : P.length ≤ 7) (p : Nat) : g_insort (partsD P) (tripD p) = some (partsD (insP P p)) := by
  have h1 : setC 2 (Ev.callC g_bisect4 [bC 0, bC 1, bC 2, bC 3]) [some (true, partsD P), some (false, tripD p), some (false, .int 0), some (false, .none), some (false, .none)] = some (.next, [some (true, partsD P), some (false, tripD p), some (false, natD (bis P p)), some (false, .none), some (false, .none)]) :=
    set_of ((call_of rfl).trans (g_bis4 hP h7 p))
  have h2 : insertC 0 (vC 2) (vC 1) [some (true, partsD P), some (false, tripD p), some (false, natD (bis P p)), some (false, .none), some (false, .none)] = some (.next, [some (true, partsD (insP P p)), some (false, tripD p), some (false, natD (bis P p)), some (false, .none), some (false, .none)]) := by
    show (if decide (0 ≤ (bis P p : Int)) && decide ((bis P p : Int) ≤ (P.map tripD).length) && decide ((P.map tripD).length ≤ 1048576) then some (Fl.next, [some (true, PyData.list (insK (P.map tripD) (bis P p : Int).toNat (tripD p))), some (false, tripD p), some (false, natD (bis P p)), some (false, .none), some (false, .none)]) else none) = _
    have hb := bis_le P p
    rw [if_pos (by simp only [List.length_map, Bool.and_eq_true, decide_eq_true_eq]; omega), Int.toNat_natCast]
    have : insK (P.map tripD) (bis P p) (tripD p) = (insP P p).map tripD := by simp [insK, insP]
    rw [this]; rfl
  unfold g_insort insD
  show (match F_insort_left [some (true, partsD P), some (false, tripD p), some (false, .int 0), some (false, .none), some (false, .none)] with
    | some (.next, σ') => _
    | _ => _) = _
  unfold F_insort_left
  rw [seq_next ((if_true rfl).trans h1), h2]
  rfl
theorem Srt.ins {P : List Nat} (hP : Srt P) {p : Nat} (hp : p ∉ P) : Srt (insP P p) := by
  have lo : ∀ a ∈ P.take (bis P p), a < p := fun a ha => by
    obtain ⟨i, hi, e⟩ := List.mem_iff_getElem.mp ha
    rw [List.getElem_take] at e
    rw [List.length_take] at hi
    have h1 := bis_at hP p i (by omega)
    rw [e, decide_eq_true (Nat.lt_of_lt_of_le hi (Nat.min_le_left ..))] at h1
    exact of_decide_eq_true h1
  have hi : ∀ b ∈ P.drop (bis P p), p < b := fun b hb => by
    obtain ⟨i, hi, e⟩ := List.mem_iff_getElem.mp hb
    rw [List.getElem_drop] at e
    rw [List.length_drop] at hi
    have := bis_at hP p (bis P p + i) (by omega)
    rw [e, decide_eq_false (Nat.not_lt.mpr (Nat.le_add_right ..))] at this
    have h1 := of_decide_eq_false this
    have h2 : b ≠ p := fun e => hp (e ▸ List.mem_of_mem_drop hb)
    omega
  unfold insP
  refine List.pairwise_append.mpr ⟨hP.sublist (List.take_sublist ..), List.pairwise_cons.mpr ⟨hi, hP.sublist (List.drop_sublist ..)⟩, fun a ha b hb => ?_⟩
  rcases List.mem_cons.mp hb with rfl | hb
  · exact lo a ha
  · exact Nat.lt_trans (lo a ha) (hi b hb)
theorem mem_ins {P : List Nat} {p q : Nat} : q ∈ insP P p ↔ q = p ∨ q ∈ P := by
  unfold insP
  have : q ∈ P ↔ q ∈ P.take (bis P p) ∨ q ∈ P.drop (bis P p) := by rw [← List.mem_append, List.take_append_drop]
  rw [this, List.mem_append, List.mem_cons]
  constructor
  · rintro (h | h | h) <;> simp [h]
  · rintro (h | h | h) <;> simp [h]
theorem len_ins (P : List Nat) (p : Nat) : (insP P p).length = P.length + 1 := by
  unfold insP
  have := bis_le P p
  simp only [List.length_append, List.length_take, List.length_cons, List.length_drop]
  omega
theorem bis_found {P : List Nat} (hP : Srt P) {p : Nat} (hp : p ∈ P) : ∃ h : bis P p < P.length, P[bis P p] = p := by
  obtain ⟨i, hi, e⟩ := List.mem_iff_getElem.mp hp
  have h1 : ¬ i < bis P p := by
    have := bis_at hP p i hi
    rw [e, decide_eq_false (Nat.lt_irrefl _)] at this
    exact of_decide_eq_false this.symm
  have hb := bis_le P p
  have h3 : ¬ bis P p < i := fun h => by
    have h2 := bis_at hP p (bis P p) (Nat.lt_trans h hi)
    rw [decide_eq_false (Nat.lt_irrefl _)] at h2
    have := List.pairwise_iff_getElem.mp hP (bis P p) i (Nat.lt_trans h hi) hi h
    rw [e] at this
    exact of_decide_eq_false h2 this
  have h4 : bis P p = i := by omega
  exact ⟨by omega, by simp only [h4, e]⟩
end M3
set_option maxRecDepth 100000
/-! law 3: the parts and the colours -/
namespace M3
open PySem PySem.SeqAt Ev L3
noncomputable def code (a b c : Nat) : Nat := a * 81 + b * 9 + c
noncomputable def allP : Nat → Nat → Nat → List (List Nat)
  | 0, _, _ => []
  | f + 1, lo, k => if k < 2 then [[]] else (List.range (k - 1)).flatMap fun i => (allP f lo (i + 1)).flatMap fun L => (allP f (lo + i + 1) (k - i - 1)).map fun R => code lo (lo + i + 1) (lo + k) :: (L ++ R)
theorem trip_code {a b c : Nat} (hb : b < 9) (hc : c < 9) : tripD (code a b c) = .tuple [natD a, natD b, natD c] := by
  have e : code a b c = c + 9 * (b + 9 * a) := by unfold code; omega
  have h1 : code a b c / 9 = b + 9 * a := by rw [e, Nat.add_mul_div_left _ _ (by decide), Nat.div_eq_of_lt hc, Nat.zero_add]
  have h2 : code a b c / 9 % 9 = b := by rw [h1, Nat.add_mul_mod_self_left, Nat.mod_eq_of_lt hb]
  have h3 : code a b c % 9 = c := by rw [e, Nat.add_mul_mod_self_left, Nat.mod_eq_of_lt hc]
  have h0 : code a b c / 81 = a := by rw [show 81 = 9 * 9 from rfl, ← Nat.div_div_eq_div_mul, h1, Nat.add_mul_div_left _ _ (by decide), Nat.div_eq_of_lt hb, Nat.zero_add]
  unfold tripD
  rw [h0, h2, h3]
theorem asg_of {g : PyData → Ev.St → Option Ev.St} {f : Ev.St → Option PyData} {σ σ' : Ev.St} {d : PyData} (h : f σ = some d) (h' : g d σ = some σ') : asgC g f σ = some (.next, σ') := by unfold asgC; rw [h]; simp only; rw [h']
theorem ret_of {f : Ev.St → Option PyData} {σ : Ev.St} {d : PyData} (h : f σ = some d) : retC f σ = some (.ret d, σ) := by unfold retC; rw [h]
noncomputable abbrev sP (lo hi : Nat) (nums : PyData) (x3 x4 x5 x6 : Option (Bool × PyData)) : Ev.St := [some (false, natD lo), some (false, natD hi), some (false, nums), x3, x4, x5, x6]
noncomputable def numsD (l : List Int) : PyData := .list (l.map .int)
theorem bin_subi {a b c : Int} (h : a - b = c) : binD .Sub (.int a) (.int b) = some (.int c) := h ▸ rfl
theorem bin_addi {a b c : Int} (h : a + b = c) : binD .Add (.int a) (.int b) = some (.int c) := h ▸ rfl
theorem parts_leaf (n lo : Nat) (nums : List Int) : g__law_parts (n + 1) [natD lo, natD (lo + 1), numsD nums] = some (.tuple [partsD [], numsD nums]) := by
  refine fn_of rfl (σ := sP lo (lo + 1) (numsD nums) none none none none) ?_
  have e1 : cmC .Lt (opC .Sub (bC 1) (bC 0)) (cC (.int 2)) (sP lo (lo + 1) (numsD nums) none none none none) = some true :=
    (cm_of (a := .int (((lo + 1 : Nat) : Int) - (lo : Int))) ((op_of rfl rfl).trans rfl) rfl).trans ((cmp_lti _ _).trans (congrArg some (decide_eq_true (by omega))))
  have e2 : retC (tupC [(lstC []), (vC 2)]) (sP lo (lo + 1) (numsD nums) none none none none) = some (.ret (.tuple [partsD [], numsD nums]), sP lo (lo + 1) (numsD nums) none none none none) := ret_of (tup_of (as_cons rfl (as_cons rfl rfl)) rfl)
  unfold F_law_parts
  show seqC2 _ _ (sP lo (lo + 1) (numsD nums) none none none none) = _
  unfold seqC2
  rw [if_true e1, e2]
theorem parts_node {n lo i m : Nat} {n0 : Int} {nt r1 r2 : List Int} {L R : List Nat} (hi : n0.fmod ((i + m + 1 : Nat) : Int) = (i : Int)) (h8 : lo + (i + m + 2) ≤ 8) (hn : nt.length ≤ 1000) (hl : L.length ≤ 1000) (hr : R.length ≤ 1000)
    (g1 : g__law_parts n [natD lo, natD (lo + (i + 1)), numsD nt] = some (.tuple [partsD L, numsD r1])) (g2 : g__law_parts n [natD (lo + (i + 1)), natD (lo + (i + m + 2)), numsD r1] = some (.tuple [partsD R, numsD r2])) :
    g__law_parts (n + 1) [natD lo, natD (lo + (i + m + 2)), numsD (n0 :: nt)] = some (.tuple [partsD (code lo (lo + (i + 1)) (lo + (i + m + 2)) :: (L ++ R)), numsD r2]) := by
  have b1 : lo + (i + 1) < 9 := by omega
  have b2 : lo + (i + m + 2) < 9 := by omega
  have d0 : ((lo + (i + m + 2) : Nat) : Int) - (lo : Int) = ((i + m + 2 : Nat) : Int) := by omega
  have d2 : ((i + m + 2 : Nat) : Int) - 1 = ((i + m + 1 : Nat) : Int) := by omega
  have d3 : (lo : Int) + 1 + (i : Int) = ((lo + (i + 1) : Nat) : Int) := by omega
  have d4 : ¬ ((i + m + 2 : Nat) : Int) < 2 := by omega
  have d5 : ((i + m + 1 : Nat) : Int) ≠ 0 := by omega
  clear h8
  generalize lo + (i + m + 2) = hg at *
  generalize lo + (i + 1) = md at *
  have es : ∀ x3 x4 x5 x6, opC .Sub (bC 1) (bC 0) (sP lo hg (numsD (n0 :: nt)) x3 x4 x5 x6) = some (natD (i + m + 2)) := fun _ _ _ _ => (op_of rfl rfl).trans (bin_subi d0)
  have e1 : cmC .Lt (opC .Sub (bC 1) (bC 0)) (cC (.int 2)) (sP lo hg (numsD (n0 :: nt)) none none none none) = some false :=
    (cm_of (es _ _ _ _) rfl).trans ((cmp_lti _ _).trans (congrArg some (decide_eq_false d4)))
  have e2 : setC 3 (opC .Add (opC .Add (bC 0) (cC (.int 1))) (opC .Mod (subC (bC 2) (cC (.int 0))) (opC .Sub (opC .Sub (bC 1) (bC 0)) (cC (.int 1))))) (sP lo hg (numsD (n0 :: nt)) none none none none) = some (.next, sP lo hg (numsD (n0 :: nt)) (some (false, natD md)) none none none) := by
    have hm : opC .Mod (subC (bC 2) (cC (.int 0))) (opC .Sub (opC .Sub (bC 1) (bC 0)) (cC (.int 1))) (sP lo hg (numsD (n0 :: nt)) none none none none) = some (natD i) := by
      refine (op_of (a := .int n0) (b := natD (i + m + 1)) ((sub_of rfl rfl).trans (item_list (i := 0) (by decide))) ((op_of (es _ _ _ _) rfl).trans (bin_subi d2))).trans ?_
      rw [bin_mod d5, hi]
    exact (set_of (a := natD md) ((op_of ((op_of rfl rfl).trans rfl) hm).trans (bin_addi d3))).trans rfl
  have e3 : asgC (tgN [4, 5]) (Ev.callC (g__law_parts n) [(vC 0), (vC 3), (dropC (bC 2) 1)]) (sP lo hg (numsD (n0 :: nt)) (some (false, natD md)) none none none) = some (.next, sP lo hg (numsD (n0 :: nt)) (some (false, natD md)) (some (false, partsD L)) (some (false, numsD r1)) none) := by
    refine asg_of ((call_of (as_cons rfl (as_cons rfl (as_cons (a := numsD nt) ?_ rfl)))).trans g1) rfl
    have e : dropC (bC 2) 1 (sP lo hg (numsD (n0 :: nt)) (some (false, natD md)) none none none) = if okLen ((n0 :: nt).map PyData.int) then some (.list (((n0 :: nt).map PyData.int).drop 1)) else none := rfl
    rw [e, show okLen ((n0 :: nt).map PyData.int) = true from decide_eq_true (by rw [List.length_map, List.length_cons]; omega)]; rfl
  have e4 : asgC (tgN [6, 5]) (Ev.callC (g__law_parts n) [(vC 3), (vC 1), (vC 5)]) (sP lo hg (numsD (n0 :: nt)) (some (false, natD md)) (some (false, partsD L)) (some (false, numsD r1)) none) = some (.next, sP lo hg (numsD (n0 :: nt)) (some (false, natD md)) (some (false, partsD L)) (some (false, numsD r2)) (some (false, partsD R))) :=
    asg_of ((call_of (as_cons rfl (as_cons rfl (as_cons rfl rfl)))).trans g2) rfl
  refine fn_of rfl (σ := sP lo hg (numsD (n0 :: nt)) (some (false, natD md)) (some (false, partsD L)) (some (false, numsD r2)) (some (false, partsD R))) ?_
  unfold F_law_parts
  show seqC2 _ _ (sP lo hg (numsD (n0 :: nt)) none none none none) = _
  rw [seq_next ((if_false e1).trans rfl), seq_next e2, seq_next e3, seq_next e4]
  have e5 : opC .Add (lstC [(tupC [(vC 0), (vC 3), (vC 1)])]) (bC 4) (sP lo hg (numsD (n0 :: nt)) (some (false, natD md)) (some (false, partsD L)) (some (false, numsD r2)) (some (false, partsD R))) = some (.list (tripD (code lo md hg) :: L.map tripD)) := by
    rw [trip_code b1 b2]
    exact (op_of rfl rfl).trans (bin_add (by rw [List.length_map, List.length_singleton]; omega))
  refine ret_of (tup_of (as_cons (a := partsD (code lo md hg :: (L ++ R))) ?_ (as_cons rfl rfl)) rfl)
  refine (op_of e5 rfl).trans ((bin_add (by rw [List.length_map, List.length_cons, List.length_map]; omega)).trans ?_)
  unfold partsD; rw [List.map_cons, List.map_append]; rfl
theorem g_parts : ∀ (n lo k : Nat) (nums : List Int), k < n → lo + (k + 1) ≤ 8 → k ≤ nums.length → nums.length ≤ 1000 →
    ∃ P ∈ allP n lo (k + 1), P.length = k ∧ ∃ r : List Int, r.length + k = nums.length ∧ g__law_parts n [natD lo, natD (lo + (k + 1)), numsD nums] = some (.tuple [partsD P, numsD r]) := by
  intro n
  induction n with
  | zero => intro lo k nums h2; exact absurd h2 (Nat.not_lt_zero _)
  | succ n ih =>
    intro lo k nums h2 h3 h4 h5
    cases k with
    | zero => exact ⟨[], List.mem_singleton.mpr rfl, rfl, nums, rfl, parts_leaf n lo nums⟩
    | succ k =>
      cases nums with
      | nil => exact absurd h4 (Nat.not_succ_le_zero _)
      | cons n0 nt =>
        rw [List.length_cons] at h4 h5
        have f0 : 0 ≤ n0.fmod ((k + 1 : Nat) : Int) := Int.fmod_nonneg_of_pos _ (by omega)
        have f1 : n0.fmod ((k + 1 : Nat) : Int) < ((k + 1 : Nat) : Int) := Int.fmod_lt_of_pos _ (by omega)
        obtain ⟨i, hi⟩ := Int.eq_ofNat_of_zero_le f0
        rw [hi] at f1
        obtain ⟨m, rfl⟩ := Nat.exists_eq_add_of_le (Nat.le_of_lt_succ (Int.ofNat_lt.mp f1))
        clear f0 f1
        obtain ⟨L, hL, lL, r1, q1, g1⟩ := ih lo i nt (by omega) (by omega) (by omega) (by omega)
        obtain ⟨R, hR, lR, r2, q2, g2⟩ := ih (lo + (i + 1)) m r1 (by omega) (by omega) (by omega) (by omega)
        have eh : lo + (i + 1) + (m + 1) = lo + (i + m + 2) := by omega
        rw [eh] at g2
        refine ⟨code lo (lo + (i + 1)) (lo + (i + m + 2)) :: (L ++ R), ?_, by rw [List.length_cons, List.length_append, lL, lR], r2, by rw [List.length_cons]; omega, parts_node hi h3 (by omega) (by omega) (by omega) g1 g2⟩
        unfold allP
        rw [if_neg (by omega)]
        refine List.mem_flatMap.mpr ⟨i, List.mem_range.mpr (by omega), List.mem_flatMap.mpr ⟨L, hL, List.mem_map.mpr ⟨R, ?_, rfl⟩⟩⟩
        rw [show i + m + 1 + 1 - i - 1 = m + 1 by omega]
        exact hR
/-! colours -/
noncomputable def cols : List Nat → Tab → Option Tab
  | [], t => some t
  | p :: r, t => match look t (p / 81), look t (p % 9) with
    | some a, some b => if a + b ≤ 3 then cols r (asg t (p / 9 % 9) (3 - a - b)) else none
    | _, _ => none
noncomputable abbrev sC (P : PyData) (m : Nat) (t : Tab) (x3 x4 x5 : Option (Bool × PyData)) : Ev.St := [some (false, P), some (false, natD m), some (true, tabD natD t), x3, x4, x5]
theorem loopC (P : PyData) (m : Nat) : ∀ (r : List Nat) (t t' : Tab) (x3 x4 x5 : Option (Bool × PyData)), t.length + r.length ≤ 900 → cols r t = some t' →
    ∃ x3' x4' x5', Ev.loopC (tgN [3, 4, 5]) (putC 2 (vC 4) (opC .Sub (opC .Sub (cC (.int 3)) (subC (bC 2) (vC 3))) (subC (bC 2) (vC 5)))) (r.map tripD) (sC P m t x3 x4 x5) = some (.next, sC P m t' x3' x4' x5') := by
  intro r
  induction r with
  | nil => intro t t' x3 x4 x5 _ h; (first | exact Ev.ns h | exact Ev.nb h | obtain rfl := Ev.si h | cases h); exact ⟨x3, x4, x5, rfl⟩
  | cons p r ih =>
    intro t t' x3 x4 x5 hl h
    rw [List.length_cons] at hl
    unfold cols at h
    split at h
    · rename_i a b ha hb
      split at h
      · rename_i hab
        have hl2 := asg_len t (p / 9 % 9) (3 - a - b)
        obtain ⟨y3, y4, y5, hh⟩ := ih _ t' (some (false, natD (p / 81))) (some (false, natD (p / 9 % 9))) (some (false, natD (p % 9))) (by omega) h
        refine ⟨y3, y4, y5, ?_⟩
        have s1 := (KE.nat.item t (p / 81)).trans (congrArg _ ha)
        have s2 := (KE.nat.item t (p % 9)).trans (congrArg _ hb)
        rw [List.map_cons, loop_cons (σ' := sC P m t (some (false, natD (p / 81))) (some (false, natD (p / 9 % 9))) (some (false, natD (p % 9)))) (σ'' := sC P m (asg t (p / 9 % 9) (3 - a - b)) (some (false, natD (p / 81))) (some (false, natD (p / 9 % 9))) (some (false, natD (p % 9)))) rfl, hh]
        refine (put_of (x := natD (3 - a - b)) ?_ rfl rfl (KE.nat.put (by omega) _ _)).trans rfl
        refine (op_of ((op_of rfl ((sub_of rfl rfl).trans s1)).trans rfl) ((sub_of rfl rfl).trans s2)).trans ?_
        show some (PyData.int ((3 : Int) - (a : Int) - (b : Int))) = some (PyData.int ((3 - a - b : Nat) : Int))
        rw [show ((3 : Int) - (a : Int) - (b : Int)) = ((3 - a - b : Nat) : Int) by omega]
      · (first | exact Ev.ns h | exact Ev.nb h | obtain rfl := Ev.si h | cases h)
    · (first | exact Ev.ns h | exact Ev.nb h | obtain rfl := Ev.si h | cases h)
theorem g_cols {P : List Nat} {k : Nat} {t : Tab} (hk : 0 < k) (h7 : P.length ≤ 7) (h : cols P [(0, 0), (k, 2)] = some t) : g__law_colours [partsD P, natD (k + 1)] = some (tabD natD t) := by
  obtain ⟨x3, x4, x5, hl⟩ := loopC (partsD P) (k + 1) P _ t none none none (by simp only [List.length_cons, List.length_nil]; omega) h
  have e1 : ownC 2 (dictC [((cC (.int 0)), (cC (.int 0))), ((opC .Sub (bC 1) (cC (.int 1))), (cC (.int 2)))]) [some (false, partsD P), some (false, natD (k + 1)), none, none, none, none] = some (.next, sC (partsD P) (k + 1) [(0, 0), (k, 2)] none none none) := by
    have s : opC .Sub (bC 1) (cC (.int 1)) [some (false, partsD P), some (false, natD (k + 1)), none, none, none, none] = some (natD k) := by
      refine (op_of (a := natD (k + 1)) rfl rfl).trans ?_
      show some (PyData.int (((k + 1 : Nat) : Int) - 1)) = _
      rw [show (((k + 1 : Nat) : Int) - 1) = (k : Int) by omega]
    have d : dsC [((cC (.int 0)), (cC (.int 0))), ((opC .Sub (bC 1) (cC (.int 1))), (cC (.int 2)))] [some (false, partsD P), some (false, natD (k + 1)), none, none, none, none] = some [(natD 0, natD 0), (natD k, natD 2)] := by
      unfold dsC; simp only [cC]; unfold dsC; rw [s]; rfl
    have p : putAllK [] [(natD 0, natD 0), (natD k, natD 2)] = some (([(0, 0), (k, 2)] : Tab).map (kv natD)) := by
      have e : putAllK [] [(natD 0, natD 0), (natD k, natD 2)] = some (setK [(natD 0, natD 0)] (natD k) (natD 2)) := rfl
      have e2 : setK [(natD 0, natD 0)] (natD k) (natD 2) = (asg [(0, 0)] k 2).map (kv natD) := KE.nat.set [(0, 0)] k 2
      have e3 : asg [(0, 0)] k 2 = [(0, 0), (k, 2)] := by
        unfold asg; rw [if_neg (by omega)]; rfl
      rw [e, e2, e3]
    unfold ownC dictC
    rw [d]; simp only; rw [p]; rfl
  refine fn_of rfl (σ := [some (false, partsD P), some (false, natD (k + 1)), some (false, tabD natD t), x3, x4, x5]) ?_
  unfold F_law_colours
  show seqC2 _ _ [some (false, partsD P), some (false, natD (k + 1)), none, none, none, none] = _
  rw [seq_next e1, seq_next ((for_of (ds := P.map tripD) rfl).trans hl), free_of rfl]
  rfl
end M3
set_option maxRecDepth 100000
/-! law 3: the law's text, piece by piece -/
namespace M3
open PySem PySem.SeqAt Ev L3
noncomputable abbrev Sl := Option (Bool × PyData)
noncomputable abbrev sa (S : PyData) (k : Nat) (P : List Nat) (b : Bool) (Q : List Nat) (T : Tab) (x5 x6 x7 x8 x9 x10 : Sl) : Ev.St :=
  [some (false, S), some (false, natD (k + 1)), some (false, partsD P), some (b, partsD Q), some (false, tabD lineK T), x5, x6, x7, x8, x9, x10, none, none, none, none, none, none, none, none, none]
noncomputable def lcodes (p : Nat) : List Nat := [p / 81 * 9 + p / 9 % 9, p / 9 % 9 * 9 + p % 9, p / 81 * 9 + p % 9]
noncomputable def pr (c : Nat) : PyData := .tuple [natD (c / 9), natD (c % 9)]
theorem pr_of (a b : Nat) (h : b < 9) : pr (a * 9 + b) = .tuple [natD a, natD b] := by
  unfold pr
  rw [show (a * 9 + b) / 9 = a by omega, show (a * 9 + b) % 9 = b by omega]
theorem dict1 {K : Nat → PyData} (hK : KE K) {f : Ev.St → Option PyData} {σ : Ev.St} {c : Nat} (h : f σ = some (K c)) : dictC [(f, cC (.int 1))] σ = some (tabD K [(c, 1)]) := by
  have d : dsC [(f, cC (.int 1))] σ = some [(K c, natD 1)] := by unfold dsC; rw [h]; rfl
  have p : putAllK [] [(K c, natD 1)] = some ([(c, 1)].map (kv K)) := by
    unfold putAllK
    rw [show okKey [] (K c) = true from hK.key [] c]; rfl
  unfold dictC; rw [d]; simp only; rw [p]; rfl
noncomputable def bodyL : Sm := setC 4 (callC g_add_callers [(vC 4), (dictC [((tupC [(cC (.str "line")), (vC 6), (vC 7)]), (cC (.int 1)))])])
noncomputable def pairsC : Ev.St → Option PyData := lstC [(tupC [(subC (bC 5) (cC (.int 0))), (subC (bC 5) (cC (.int 1)))]), (tupC [(subC (bC 5) (cC (.int 1))), (subC (bC 5) (cC (.int 2)))]), (tupC [(subC (bC 5) (cC (.int 0))), (subC (bC 5) (cC (.int 2)))])]
theorem loopL (S : PyData) (k : Nat) (P : List Nat) (b : Bool) (Q : List Nat) (x5 x8 x9 x10 : Sl) : ∀ (cs : List Nat) (T : Tab) (x6 x7 : Sl), (keys T).Nodup → T.length + cs.length ≤ 800 →
    ∃ x6' x7', Ev.loopC (tgN [6, 7]) bodyL (cs.map pr) (sa S k P b Q T x5 x6 x7 x8 x9 x10) = some (.next, sa S k P b Q (cs.foldl bump T) x5 x6' x7' x8 x9 x10) := by
  intro cs
  induction cs with
  | nil => intro T x6 x7 _ _; exact ⟨x6, x7, rfl⟩
  | cons c r ih =>
    intro T x6 x7 hn hl
    rw [List.length_cons] at hl
    have hb := bump_len T c
    obtain ⟨y6, y7, h⟩ := ih (bump T c) (some (false, natD (c / 9))) (some (false, natD (c % 9))) (bump_nodup hn c) (by omega)
    refine ⟨y6, y7, ?_⟩
    rw [List.map_cons, loop_cons (σ' := sa S k P b Q T x5 (some (false, natD (c / 9))) (some (false, natD (c % 9))) x8 x9 x10) (σ'' := sa S k P b Q (bump T c) x5 (some (false, natD (c / 9))) (some (false, natD (c % 9))) x8 x9 x10) rfl, h, List.foldl_cons]
    exact (set_of ((call_of (as_cons rfl (as_cons (dict1 KE.line (c := c) (tup_of (as_cons rfl (as_cons rfl (as_cons rfl rfl))) rfl)) rfl))).trans (g_add KE.line hn (by omega) c))).trans rfl
noncomputable def bodyO : Sm := seqC2 (insC g_insort 3 (vC 5)) (forC (seqC pairsC) (tgN [6, 7]) bodyL)
theorem loopO (S : PyData) (k : Nat) (P : List Nat) (x8 x9 x10 : Sl) : ∀ (r Q : List Nat) (T : Tab) (x5 x6 x7 : Sl), Srt Q → (∀ p ∈ r, p ∉ Q) → r.Nodup → Q.length + r.length ≤ 7 → (keys T).Nodup → T.length + 3 * r.length ≤ 700 →
    Srt (r.foldl insP Q) ∧ (∀ p, p ∈ r.foldl insP Q ↔ p ∈ Q ∨ p ∈ r) ∧ (r.foldl insP Q).length = Q.length + r.length ∧ (keys ((r.flatMap lcodes).foldl bump T)).Nodup ∧
    ∃ x5' x6' x7', Ev.loopC (tg1 5) bodyO (r.map tripD) (sa S k P true Q T x5 x6 x7 x8 x9 x10) = some (.next, sa S k P true (r.foldl insP Q) ((r.flatMap lcodes).foldl bump T) x5' x6' x7' x8 x9 x10) := by
  intro r
  induction r with
  | nil => intro Q T x5 x6 x7 h1 _ _ _ h5 _; exact ⟨h1, fun p => ⟨.inl, fun q => q.elim id fun h => nomatch h⟩, rfl, h5, x5, x6, x7, rfl⟩
  | cons p r ih =>
    intro Q T x5 x6 x7 h1 h2 h3 h4 h5 h6
    rw [List.length_cons] at h4 h6
    obtain ⟨n1, n2⟩ := List.nodup_cons.mp h3
    have hp := h2 p List.mem_cons_self
    have hQl := len_ins Q p
    obtain ⟨y6, y7, hL⟩ := loopL S k P true (insP Q p) (some (false, tripD p)) x8 x9 x10 (lcodes p) T x6 x7 h5 (by show T.length + 3 ≤ 800; omega)
    have hT : ∀ (cs : List Nat) (T : Tab), (keys T).Nodup → (keys (cs.foldl bump T)).Nodup ∧ (cs.foldl bump T).length ≤ T.length + cs.length := fun cs => by
      induction cs with
      | nil => exact fun T h => ⟨h, Nat.le_refl _⟩
      | cons c r ih =>
        intro T h
        obtain ⟨a1, a2⟩ := ih (bump T c) (bump_nodup h c)
        have := bump_len T c
        rw [List.foldl_cons, List.length_cons]
        exact ⟨a1, by omega⟩
    obtain ⟨t1, t2⟩ := hT (lcodes p) T h5
    have t2 : ((lcodes p).foldl bump T).length ≤ T.length + 3 := t2
    obtain ⟨r1, r2, r3, r4, y5', y6', y7', hr⟩ := ih (insP Q p) ((lcodes p).foldl bump T) (some (false, tripD p)) y6 y7 (h1.ins hp) (fun q hq m => (mem_ins.mp m).elim (fun e => n1 (e ▸ hq)) fun m => h2 q (List.mem_cons_of_mem _ hq) m) n2 (by omega) t1 (by omega)
    rw [List.foldl_cons, List.flatMap_cons, List.foldl_append]
    refine ⟨r1, fun q => (r2 q).trans ?_, by rw [r3, hQl, List.length_cons]; omega, r4, y5', y6', y7', ?_⟩
    · rw [mem_ins, List.mem_cons]
      exact ⟨fun h => h.elim (fun h => h.elim (fun h => .inr (.inl h)) .inl) fun h => .inr (.inr h), fun h => h.elim (fun h => .inl (.inr h)) fun h => h.elim (fun h => .inl (.inl h)) .inr⟩
    · have e1 : insC g_insort 3 (vC 5) (sa S k P true Q T (some (false, tripD p)) x6 x7 x8 x9 x10) = some (.next, sa S k P true (insP Q p) T (some (false, tripD p)) x6 x7 x8 x9 x10) := by
        have e : insC g_insort 3 (vC 5) (sa S k P true Q T (some (false, tripD p)) x6 x7 x8 x9 x10) = (match g_insort (partsD Q) (tripD p) with | some d' => some (.next, (sa S k P true Q T (some (false, tripD p)) x6 x7 x8 x9 x10).set 3 (some (true, d'))) | none => none) := rfl
        rw [e, g_ins h1 (by omega)]; rfl
      have e2 : seqC pairsC (sa S k P true (insP Q p) T (some (false, tripD p)) x6 x7 x8 x9 x10) = some ((lcodes p).map pr) := by
        have e : seqC pairsC (sa S k P true (insP Q p) T (some (false, tripD p)) x6 x7 x8 x9 x10) = some [.tuple [natD (p / 81), natD (p / 9 % 9)], .tuple [natD (p / 9 % 9), natD (p % 9)], .tuple [natD (p / 81), natD (p % 9)]] := rfl
        rw [e]
        have m1 : p / 9 % 9 < 9 := Nat.mod_lt _ (by decide)
        have m2 : p % 9 < 9 := Nat.mod_lt _ (by decide)
        rw [← pr_of _ _ m1, ← pr_of _ _ m2, ← pr_of _ _ m2]; rfl
      rw [List.map_cons, loop_cons (σ' := sa S k P true Q T (some (false, tripD p)) x6 x7 x8 x9 x10) (σ'' := sa S k P true (insP Q p) ((lcodes p).foldl bump T) (some (false, tripD p)) y6 y7 x8 x9 x10) rfl, hr]
      unfold bodyO
      rw [seq_next e1]
      exact (for_of e2).trans hL
/-! the order -/
noncomputable def ltN (P : List Nat) (i j : Nat) : Option Bool := match P[i]?, P[j]? with
  | some a, some b => some (decide (a < b))
  | _, _ => none
noncomputable def sortOk (P : List Nat) : Bool := match runO (ltN P) (W.kas_sort P.length) with
  | some p => p.toList.all (fun i => decide (i < P.length)) && decide (p.toList.map (fun i => P.getD i 0) = P.foldl insP [])
  | none => false
theorem ltAt_trip (P : List Nat) : ltAt (P.map tripD) = ltN P := by
  funext i j
  unfold ltAt ltN
  rw [List.getElem?_map, List.getElem?_map]
  cases P[i]? with
  | none => rfl
  | some a =>
    cases P[j]? with
    | none => rfl
    | some b =>
      simp only [Option.map_some]
      rw [ord_trip]
      by_cases h1 : a < b
      · rw [if_pos h1, decide_eq_true h1]
      · rw [if_neg h1, decide_eq_false h1]; by_cases h2 : a = b
        · rw [if_pos h2]
        · rw [if_neg h2]
theorem sort_parts {P : List Nat} (h7 : P.length ≤ 7) (h : sortOk P = true) : sortG [partsD P] = some (partsD (P.foldl insP [])) := by
  have h0 : sortG [partsD P] = if (P.map tripD).length < 2 then some (.list (P.map tripD)) else if decide ((P.map tripD).length < 64) && (P.map tripD).all okD && ((P.map tripD).all isIntD || (P.map tripD).all (fun d => tup0 d == some true) || (P.map tripD).all (fun d => tup0 d == some false)) then
      match sortD (P.map tripD) with
      | some es => some (.list es)
      | none => none
    else none := rfl
  rw [h0]
  split
  · next hh =>
    rw [List.length_map] at hh
    clear h0 h
    cases P with
    | nil => rfl
    | cons p r =>
      cases r with
      | nil => rfl
      | cons q r => exact absurd hh (Nat.not_lt.mpr (Nat.le_add_left 2 r.length))
  · have h1 : (P.map tripD).all okD = true := by rw [List.all_map, List.all_eq_true]; intro p _; rfl
    have h2 : (P.map tripD).all (fun d => tup0 d == some true) = true := by rw [List.all_map, List.all_eq_true]; intro p _; rfl
    rw [h1, h2, if_pos (by rw [Bool.or_true, Bool.true_or, Bool.and_true, Bool.and_true, List.length_map, decide_eq_true (by omega)])]
    have : sortD (P.map tripD) = some ((P.foldl insP []).map tripD) := by
      have e : sortD (P.map tripD) = (runO (ltN P) (W.kas_sort P.length)).map (fun p => p.toList.map fun i => (P.map tripD).getD i .none) := by
        unfold sortD
        rw [ltAt_trip, List.length_map]
        cases runO (ltN P) (W.kas_sort P.length) <;> rfl
      rw [e]
      unfold sortOk at h
      cases hp : runO (ltN P) (W.kas_sort P.length) with
      | none => rw [hp] at h; (first | exact Ev.ns h | exact Ev.nb h | obtain rfl := Ev.si h | cases h)
      | some p =>
        rw [hp] at h
        obtain ⟨a1, a2⟩ := Bool.and_eq_true_iff.mp h
        rw [← of_decide_eq_true a2, List.map_map]
        refine congrArg some (List.map_congr_left fun i hi => ?_)
        have hi := of_decide_eq_true (List.all_eq_true.mp a1 i hi)
        show (P.map tripD).getD i .none = tripD (P.getD i 0)
        simp [hi]
    rw [this]; rfl
theorem lay_parts (P : List Nat) : PyData.canLayAll0 (P.map tripD) = true := by
  induction P with
  | nil => rfl
  | cons a r ih => exact Bool.and_eq_true_iff.mpr ⟨rfl, ih⟩
theorem dep_parts (P : List Nat) : PyData.depthAll (P.map tripD) ≤ 2 := by
  induction P with
  | nil => exact Nat.zero_le _
  | cons a r ih => exact Nat.max_le.mpr ⟨Nat.le_of_ble_eq_true rfl, ih⟩
theorem ne_parts (P : List Nat) : cmpD .NotEq (partsD P) (partsD P) = some false := by
  show (eqD (partsD P) (partsD P)).map (!·) = _
  cases P with
  | nil => rfl
  | cons a r =>
    have ok : okD (partsD (a :: r)) = true := Bool.and_eq_true_iff.mpr ⟨lay_parts (a :: r), decide_eq_true (Nat.le_trans (Nat.succ_le_succ (dep_parts (a :: r))) (by decide))⟩
    have : eqD (partsD (a :: r)) (partsD (a :: r)) = if okD (partsD (a :: r)) && okD (partsD (a :: r)) then some (PyData.eqv (partsD (a :: r)) (partsD (a :: r))) else none := rfl
    rw [this, ok, SeqAt.eqv_refl (partsD (a :: r)) (lay_parts (a :: r))]; rfl
theorem ne_trip (a b : Nat) : cmpD .NotEq (tripD a) (tripD b) = some (!decide (a = b)) := by
  show (eqD (tripD a) (tripD b)).map (!·) = _
  have : eqD (tripD a) (tripD b) = some (PyData.eqv (tripD a) (tripD b)) := rfl
  rw [this, eqv_trip]; rfl
noncomputable def c4 : Sm := freeC 3 (ifS (anyC [(cmC .NotEq (callC lenG [(bC 2)]) (opC .Sub (bC 1) (cC (.int 2)))), (cmC .NotEq (bC 3) (callC sortG [(bC 2)])), (cmC .NotEq (compC 1 [3] (seqC (vC 2)) (lpC [0] (tg1 0) [(cmC .NotEq (subC (bC 1) (callC g_bisect2 [(bC 1), (bC 0)])) (bC 0))] (eltC (vC 0)))) (lstC []))]) (retC (cC (.bool false))) skipC)
theorem c4_eq {k : Nat} {P Q : List Nat} (hk : P.length + 1 = k) (h7 : P.length ≤ 7) (hQ : Srt Q) (hQl : Q.length ≤ 7) (hm : ∀ p ∈ P, p ∈ Q) (hs : sortG [partsD P] = some (partsD Q)) (S : PyData) (T : Tab) (x5 x6 x7 x8 x9 x10 : Sl) : c4 (sa S k P true Q T x5 x6 x7 x8 x9 x10) = some (.next, sa S k P false Q T x5 x6 x7 x8 x9 x10) := by
  unfold c4
  rw [free_of (d := partsD Q) rfl]
  show ifS _ _ _ (sa S k P false Q T x5 x6 x7 x8 x9 x10) = _
  refine (if_false ?_).trans rfl
  have h1 : cmC .NotEq (callC lenG [(bC 2)]) (opC .Sub (bC 1) (cC (.int 2))) (sa S k P false Q T x5 x6 x7 x8 x9 x10) = some false := by
    refine (cm_of ((call_of rfl).trans (len_parts h7)) ((op_of rfl rfl).trans rfl)).trans ((cmp_nei _ _).trans ?_)
    show some (!decide ((P.length : Int) = ((k + 1 : Nat) : Int) - 2)) = _
    rw [decide_eq_true (by omega)]; rfl
  rw [any_false h1, any_false ((cm_of rfl ((call_of rfl).trans hs)).trans (ne_parts Q))]
  have h : turnsC (tg1 0) [(cmC .NotEq (subC (bC 1) (callC g_bisect2 [(bC 1), (bC 0)])) (bC 0))] (eltC (vC 0)) (P.map tripD) [none, some (false, partsD Q)] = some [] := by
    rw [turns_filter (st := fun p => [some (false, tripD p), some (false, partsD Q)]) (pr := fun _ => false) (e := tripD) P fun p hp => ⟨rfl, ts_one ?_, fun h => absurd h Bool.false_ne_true⟩]
    · rw [List.filter_eq_nil_iff.mpr (fun _ _ h => Bool.false_ne_true h)]; rfl
    · obtain ⟨hb, e⟩ := bis_found hQ (hm p hp)
      refine (cm_of ((sub_of rfl ((call_of rfl).trans (g_bis2 hQ hQl p))).trans (item_parts hb hQl)) rfl).trans ?_
      rw [e, ne_trip, decide_eq_true rfl]; rfl
  exact (any_false ((cm_of (comp_of (xs := P.map tripD) rfl h (Nat.zero_le _)) rfl).trans rfl)).trans rfl
/-! how often each line is met -/
noncomputable def sideB (k c : Nat) : Bool := decide (c % 9 = c / 9 + 1) || (decide (c / 9 = 0) && decide (c % 9 = k))
noncomputable def sideOk (k : Nat) (x : Nat × Nat) : Bool := decide (x.2 = if sideB k x.1 then 1 else 2)
noncomputable def bodyS : Sm := seqC2 (setC 10 (orC (ofB (cmC .Eq (opC .Sub (subC (bC 8) (cC (.int 2))) (subC (bC 8) (cC (.int 1)))) (cC (.int 1)))) (ofB (cmC .Eq (tupC [(subC (bC 8) (cC (.int 1))), (subC (bC 8) (cC (.int 2)))]) (tupC [(cC (.int 0)), (opC .Sub (bC 1) (cC (.int 1)))]))))) (ifS (cmC .NotEq (bC 9) (ifC (tvC (bC 10)) (cC (.int 1)) (cC (.int 2)))) (retC (cC (.bool false))) skipC)
theorem many1 {f : Ev.St → Option PyData} {σ : Ev.St} {k : Nat} (h : f σ = some (natD (k + 1))) : opC .Sub f (cC (.int 1)) σ = some (natD k) := by
  refine (op_of h rfl).trans ?_
  show some (PyData.int (((k + 1 : Nat) : Int) - 1)) = _
  rw [show (((k + 1 : Nat) : Int) - 1) = (k : Int) by omega]
theorem or_of {f g : Ev.St → Option PyData} {σ : Ev.St} {a b : Bool} (hf : f σ = some (.bool a)) (hg : g σ = some (.bool b)) : orC f g σ = some (.bool (a || b)) := by
  unfold orC; rw [hf]; cases a
  · exact hg
  · rfl
theorem loopS (S : PyData) (k : Nat) (P Q : List Nat) (T : Tab) (x5 x6 x7 : Sl) : ∀ (r : Tab) (x8 x9 x10 : Sl), r.all (sideOk k) = true →
    ∃ x8' x9' x10', Ev.loopC (tgN [8, 9]) bodyS ((r.map (kv lineK)).map pairD) (sa S k P false Q T x5 x6 x7 x8 x9 x10) = some (.next, sa S k P false Q T x5 x6 x7 x8' x9' x10') := by
  intro r
  induction r with
  | nil => intro x8 x9 x10 _; exact ⟨x8, x9, x10, rfl⟩
  | cons x r ih =>
    intro x8 x9 x10 h
    obtain ⟨h1, h2⟩ := Bool.and_eq_true_iff.mp (List.all_cons.symm.trans h)
    obtain ⟨c, v⟩ := x
    obtain ⟨y8, y9, y10, hr⟩ := ih (some (false, lineK c)) (some (false, natD v)) (some (false, .bool (sideB k c))) h2
    refine ⟨y8, y9, y10, ?_⟩
    rw [List.map_cons, List.map_cons, loop_cons (σ' := sa S k P false Q T x5 x6 x7 (some (false, lineK c)) (some (false, natD v)) x10) (σ'' := sa S k P false Q T x5 x6 x7 (some (false, lineK c)) (some (false, natD v)) (some (false, .bool (sideB k c)))) rfl, hr]
    have e1 : cmC .Eq (opC .Sub (subC (bC 8) (cC (.int 2))) (subC (bC 8) (cC (.int 1)))) (cC (.int 1)) (sa S k P false Q T x5 x6 x7 (some (false, lineK c)) (some (false, natD v)) x10) = some (decide (c % 9 = c / 9 + 1)) := by
      refine (cm_of (a := .int (((c % 9 : Nat) : Int) - ((c / 9 : Nat) : Int))) ((op_of ((sub_of rfl rfl).trans rfl) ((sub_of rfl rfl).trans rfl)).trans rfl) rfl).trans ((cmp_eqi _ _).trans ?_)
      exact congrArg some (decide_eq_decide.mpr (by omega))
    have e2 : cmC .Eq (tupC [(subC (bC 8) (cC (.int 1))), (subC (bC 8) (cC (.int 2)))]) (tupC [(cC (.int 0)), (opC .Sub (bC 1) (cC (.int 1)))]) (sa S k P false Q T x5 x6 x7 (some (false, lineK c)) (some (false, natD v)) x10) = some (decide (c / 9 = 0) && decide (c % 9 = k)) := by
      refine (cm_of (tup_of (as_cons ((sub_of rfl rfl).trans rfl) (as_cons ((sub_of rfl rfl).trans rfl) rfl)) rfl) (tup_of (as_cons rfl (as_cons (many1 rfl) rfl)) rfl)).trans ?_
      show some ((((c / 9 : Nat) : Int) == ((0 : Nat) : Int)) && ((((c % 9 : Nat) : Int) == (k : Int)) && true)) = _
      rw [cast_eq, cast_eq, Bool.and_true]
    have e3 := or_of (ofB_of e1) (ofB_of e2)
    have h1 : v = if sideB k c then 1 else 2 := of_decide_eq_true h1
    unfold bodyS
    rw [seq_next (set_of e3)]
    refine (if_false ?_).trans rfl
    have e4 : ifC (tvC (bC 10)) (cC (.int 1)) (cC (.int 2)) (sa S k P false Q T x5 x6 x7 (some (false, lineK c)) (some (false, natD v)) (some (false, .bool (sideB k c)))) = some (natD v) := by
      have e : ifC (tvC (bC 10)) (cC (.int 1)) (cC (.int 2)) (sa S k P false Q T x5 x6 x7 (some (false, lineK c)) (some (false, natD v)) (some (false, .bool (sideB k c)))) = (match sideB k c with | true => some (natD 1) | false => some (natD 2)) := by
        cases sideB k c <;> rfl
      rw [e, h1]
      cases sideB k c <;> rfl
    exact (cm_of (a := natD v) rfl e4).trans ((cmp_nei _ _).trans (by rw [decide_eq_true rfl]; rfl))
noncomputable def c6 : Sm := ifS (anyC [(cmC .NotEq (callC g_count_calls [(vC 4)]) (opC .Mult (cC (.int 3)) (opC .Sub (bC 1) (cC (.int 2))))), (cmC .NotEq (callC lenG [(bC 4)]) (opC .Sub (opC .Mult (cC (.int 2)) (bC 1)) (cC (.int 3))))]) (retC (cC (.bool false))) skipC
theorem c6_eq {k : Nat} {P Q : List Nat} {T : Tab} (hs : (T.map (·.2)).sum + 3 = 3 * k) (hl : T.length + 1 = 2 * k) (hT : T.length ≤ 1000) (S : PyData) (x5 x6 x7 x8 x9 x10 : Sl) : c6 (sa S k P false Q T x5 x6 x7 x8 x9 x10) = some (.next, sa S k P false Q T x5 x6 x7 x8 x9 x10) := by
  unfold c6
  refine (if_false ?_).trans rfl
  have m1 : opC .Mult (cC (.int 3)) (opC .Sub (bC 1) (cC (.int 2))) (sa S k P false Q T x5 x6 x7 x8 x9 x10) = some (.int (3 * (((k + 1 : Nat) : Int) - 2))) := (op_of rfl ((op_of rfl rfl).trans rfl)).trans rfl
  have m2 : opC .Sub (opC .Mult (cC (.int 2)) (bC 1)) (cC (.int 3)) (sa S k P false Q T x5 x6 x7 x8 x9 x10) = some (.int (2 * ((k + 1 : Nat) : Int) - 3)) := (op_of ((op_of rfl rfl).trans rfl) rfl).trans rfl
  have l : lenG [tabD lineK T] = some (natD T.length) := by
    have e : lenG [tabD lineK T] = if (T.map (kv lineK)).length ≤ 1048576 then some (.int (T.map (kv lineK)).length) else none := rfl
    rw [e, List.length_map, if_pos (by omega)]
  rw [any_false ((cm_of ((call_of rfl).trans (g_count lineK T)) m1).trans ((cmp_nei _ _).trans (by rw [decide_eq_true (by omega)]; rfl)))]
  exact (any_false ((cm_of ((call_of rfl).trans l) m2).trans ((cmp_nei _ _).trans (by rw [decide_eq_true (by omega)]; rfl)))).trans rfl
end M3
set_option maxRecDepth 100000
/-! law 3: the law's text, piece by piece, 2: the colours -/
namespace M3
open PySem PySem.SeqAt Ev L3
noncomputable abbrev sc (S : PyData) (k : Nat) (P Q : List Nat) (T t : Tab) (b : Bool) (rows : List Tab) (x5 x6 x7 x8 x9 x10 x13 x14 x15 x16 x17 x18 x19 : Sl) : Ev.St :=
  [some (false, S), some (false, natD (k + 1)), some (false, partsD P), some (false, partsD Q), some (false, tabD lineK T), x5, x6, x7, x8, x9, x10, some (false, tabD natD t), some (b, .list (rows.map (tabD isK))), x13, x14, x15, x16, x17, x18, x19]
noncomputable def c7 : Sm := asgM [11, 12] false [(false, (callC g__law_colours [(vC 2), (vC 1)])), (true, (lstC [(cC (.dict [])), (cC (.dict [])), (cC (.dict []))]))]
theorem c7_eq {k : Nat} {P Q : List Nat} {T t : Tab} (hk : 0 < k) (h7 : P.length ≤ 7) (h : cols P [(0, 0), (k, 2)] = some t) (S : PyData) (x5 x6 x7 x8 x9 x10 : Sl) : c7 (sa S k P false Q T x5 x6 x7 x8 x9 x10) = some (.next, sc S k P Q T t true [[], [], []] x5 x6 x7 x8 x9 x10 none none none none none none none) := by
  have h1 : Ev.callC g__law_colours [vC 2, vC 1] (sa S k P false Q T x5 x6 x7 x8 x9 x10) = some (tabD natD t) := (call_of rfl).trans (g_cols hk h7 h)
  have h3 : msC [(false, (callC g__law_colours [(vC 2), (vC 1)])), (true, (lstC [(cC (.dict [])), (cC (.dict [])), (cC (.dict []))]))] (sa S k P false Q T x5 x6 x7 x8 x9 x10) = some [(false, tabD natD t), (true, .list ([[], [], []].map (tabD isK)))] := by
    unfold msC; rw [h1]; rfl
  unfold c7 asgM
  rw [h3]; rfl
noncomputable def rowsF (t : Tab) : List Nat → List Tab → Option (List Tab)
  | [], T => some T
  | c :: r, T => match look t c with
    | some q => match T[q]? with
      | some row => rowsF t r (T.set q (bump row c))
      | none => none
    | none => none
noncomputable def bodyC : Sm := putC 12 (subC (bC 11) (vC 13)) (callC g_add_callers [(subC (bC 12) (subC (bC 11) (vC 13))), (dictC [((tupC [(cC (.str "is")), (vC 13), (cC (.str "so"))]), (cC (.int 1)))])])
theorem loopR (S : PyData) (k : Nat) (P Q : List Nat) (T t : Tab) (x5 x6 x7 x8 x9 x10 : Sl) : ∀ (r : List Nat) (rows rows' : List Tab) (x13 : Sl), rows.length = 3 → (∀ x ∈ rows, (keys x).Nodup ∧ x.length + r.length ≤ 500) → rowsF t r rows = some rows' →
    rows'.length = 3 ∧ ∃ x13', Ev.loopC (tg1 13) bodyC (r.map natD) (sc S k P Q T t true rows x5 x6 x7 x8 x9 x10 x13 none none none none none none) = some (.next, sc S k P Q T t true rows' x5 x6 x7 x8 x9 x10 x13' none none none none none none) := by
  intro r
  induction r with
  | nil => intro rows rows' x13 h3 _ h; (first | exact Ev.ns h | exact Ev.nb h | obtain rfl := Ev.si h | cases h); exact ⟨h3, x13, rfl⟩
  | cons c r ih =>
    intro rows rows' x13 h3 hr h
    unfold rowsF at h
    split at h
    · rename_i q hq
      split at h
      · rename_i row hrow
        have hql : q < rows.length := (List.getElem?_eq_some_iff.mp hrow).1
        have hm := hr row (List.mem_of_getElem? hrow)
        have hbl := bump_len row c
        have hml : row.length + (r.length + 1) ≤ 500 := hm.2
        obtain ⟨e3, y13, hh⟩ := ih (rows.set q (bump row c)) rows' (some (false, natD c)) (by rw [List.length_set, h3]) (fun x hx => by
          rcases List.mem_or_eq_of_mem_set hx with m | m
          · have := hr x m
            have h2 : x.length + (r.length + 1) ≤ 500 := this.2
            exact ⟨this.1, by omega⟩
          · rw [m]; exact ⟨bump_nodup hm.1 c, by omega⟩) h
        refine ⟨e3, y13, ?_⟩
        have s1 : subC (bC 11) (vC 13) (sc S k P Q T t true rows x5 x6 x7 x8 x9 x10 (some (false, natD c)) none none none none none none) = some (natD q) := (sub_of rfl rfl).trans ((KE.nat.item t c).trans (congrArg _ hq))
        have s2 : itemD (.list (rows.map (tabD isK))) (natD q) = some (tabD isK row) := by
          rw [item_list (by omega), List.getElem?_map, hrow]; rfl
        have s3 : putD (.list (rows.map (tabD isK))) (natD q) (tabD isK (bump row c)) = some (.list ((rows.set q (bump row c)).map (tabD isK))) := by
          have e : putD (.list (rows.map (tabD isK))) (natD q) (tabD isK (bump row c)) = if 0 ≤ (q : Int) ∧ (q : Int) < (rows.map (tabD isK)).length ∧ (q : Int) < 1048576 then some (.list ((rows.map (tabD isK)).set (q : Int).toNat (tabD isK (bump row c)))) else none := rfl
          rw [e, if_pos ⟨by omega, by rw [List.length_map]; omega, by omega⟩, Int.toNat_natCast, List.map_set]
        rw [List.map_cons, loop_cons (σ' := sc S k P Q T t true rows x5 x6 x7 x8 x9 x10 (some (false, natD c)) none none none none none none) (σ'' := sc S k P Q T t true (rows.set q (bump row c)) x5 x6 x7 x8 x9 x10 (some (false, natD c)) none none none none none none) rfl, hh]
        exact (put_of ((call_of (as_cons ((sub_of rfl s1).trans s2) (as_cons (dict1 KE.is (tup_of (as_cons rfl (as_cons rfl (as_cons rfl rfl))) rfl)) rfl))).trans (g_add KE.is hm.1 (by omega) c)) rfl s1 s3).trans rfl
      · (first | exact Ev.ns h | exact Ev.nb h | obtain rfl := Ev.si h | cases h)
    · (first | exact Ev.ns h | exact Ev.nb h | obtain rfl := Ev.si h | cases h)
noncomputable def tot (x : Tab) : Nat := (x.map (·.2)).sum
noncomputable def c9 : Sm := freeC 12 (frzC 14 (ownC 14 (compC 1 [] (seqC (vC 12)) (lpC [0] (tg1 0) [] (eltC (callC g_count_calls [(vC 0)]))))))
theorem c9_eq {k : Nat} {P Q : List Nat} {T t : Tab} {rows : List Tab} (h3 : rows.length = 3) (S : PyData) (x5 x6 x7 x8 x9 x10 x13 : Sl) : c9 (sc S k P Q T t true rows x5 x6 x7 x8 x9 x10 x13 none none none none none none) = some (.next, sc S k P Q T t false rows x5 x6 x7 x8 x9 x10 x13 (some (false, .list (rows.map fun x => natD (tot x)))) none none none none none) := by
  have h : turnsC (tg1 0) [] (eltC (callC g_count_calls [(vC 0)])) (rows.map (tabD isK)) [none] = some (rows.map fun x => natD (tot x)) :=
    turns_map (st := fun x => [some (false, tabD isK x)]) rows fun x _ => ⟨rfl, elt_of ((call_of rfl).trans (g_count isK x))⟩
  have e : compC 1 [] (seqC (vC 12)) (lpC [0] (tg1 0) [] (eltC (callC g_count_calls [(vC 0)]))) (sc S k P Q T t false rows x5 x6 x7 x8 x9 x10 x13 none none none none none none) = some (.list (rows.map fun x => natD (tot x))) :=
    comp_of (xs := rows.map (tabD isK)) rfl h (by rw [List.length_map]; omega)
  unfold c9
  rw [free_of (d := .list (rows.map (tabD isK))) rfl]
  show frzC _ _ (sc S k P Q T t false rows x5 x6 x7 x8 x9 x10 x13 none none none none none none) = _
  unfold frzC ownC
  rw [e]; rfl
noncomputable def told6 : List (Nat × Nat × Nat) := [(0, 1, 2), (0, 2, 1), (1, 0, 2), (1, 2, 0), (2, 0, 1), (2, 1, 0)]
noncomputable def toldD (a : Nat × Nat × Nat) : PyData := .tuple [natD a.1, natD a.2.1, natD a.2.2]
theorem sort3 : ∀ a ∈ told6, sortG [.list [natD a.1, natD a.2.1, natD a.2.2]] = some (.list [natD 0, natD 1, natD 2]) := by
  have e : ∀ (x y z : Nat), (runO (ltAt [natD x, natD y, natD z]) (W.kas_sort 3)).map (fun p => p.toList.map fun i => [natD x, natD y, natD z].getD i .none) = some [natD 0, natD 1, natD 2] → sortG [.list [natD x, natD y, natD z]] = some (.list [natD 0, natD 1, natD 2]) := fun x y z h => by
    have e : sortG [.list [natD x, natD y, natD z]] = match sortD [natD x, natD y, natD z] with
      | some es => some (.list es)
      | none => none := rfl
    rw [e]
    have : sortD [natD x, natD y, natD z] = (runO (ltAt [natD x, natD y, natD z]) (W.kas_sort 3)).map (fun p => p.toList.map fun i => [natD x, natD y, natD z].getD i .none) := by
      unfold sortD
      show (match runO (ltAt [natD x, natD y, natD z]) (W.kas_sort 3) with | some p => _ | none => none) = _
      cases runO (ltAt [natD x, natD y, natD z]) (W.kas_sort 3) <;> rfl
    rw [this, h]
  intro a ha
  refine e _ _ _ ?_
  simp only [told6, List.mem_cons, List.not_mem_nil, or_false] at ha
  rcases ha with rfl | rfl | rfl | rfl | rfl | rfl <;> rfl
noncomputable def tri (t : Tab) (p : Nat) (a : Nat × Nat × Nat) : Prop := look t (p / 81) = some a.1 ∧ look t (p / 9 % 9) = some a.2.1 ∧ look t (p % 9) = some a.2.2
noncomputable def c10 : Sm := ifS (anyC [(cmC .NotEq (callC sumG [(bC 14)]) (bC 1)), (cmC .Gt (callC minG [(bC 14)]) (opC .FloorDiv (bC 1) (cC (.int 3)))), (cmC .NotEq (compC 1 [11] (seqC (vC 2)) (lpC [0] (tg1 0) [(cmC .NotEq (callC sortG [(compC 1 [1] (seqC (vC 0)) (lpC [0] (tg1 0) [] (eltC (subC (bC 1) (vC 0)))))]) (lstC [(cC (.int 0)), (cC (.int 1)), (cC (.int 2))]))] (eltC (vC 0)))) (lstC []))]) (retC (cC (.bool false))) skipC
theorem c10_eq {k : Nat} {P Q : List Nat} {T t : Tab} {r0 r1 r2 : Tab} (hs : tot r0 + tot r1 + tot r2 = k + 1) (hm : 3 * tot r0 ≤ k + 1 ∨ 3 * tot r1 ≤ k + 1 ∨ 3 * tot r2 ≤ k + 1) (ht : ∀ p ∈ P, ∃ a ∈ told6, tri t p a) (S : PyData) (x5 x6 x7 x8 x9 x10 x13 : Sl) :
    c10 (sc S k P Q T t false [r0, r1, r2] x5 x6 x7 x8 x9 x10 x13 (some (false, .list ([r0, r1, r2].map fun x => natD (tot x)))) none none none none none) = some (.next, sc S k P Q T t false [r0, r1, r2] x5 x6 x7 x8 x9 x10 x13 (some (false, .list ([r0, r1, r2].map fun x => natD (tot x)))) none none none none none) := by
  unfold c10
  refine (if_false ?_).trans rfl
  have h1 : cmC .NotEq (callC sumG [(bC 14)]) (bC 1) (sc S k P Q T t false [r0, r1, r2] x5 x6 x7 x8 x9 x10 x13 (some (false, .list ([r0, r1, r2].map fun x => natD (tot x)))) none none none none none) = some false := by
    refine (cm_of (a := .int ((tot r0 : Int) + ((tot r1 : Int) + ((tot r2 : Int) + 0)))) ((call_of rfl).trans rfl) rfl).trans ((cmp_nei _ _).trans ?_)
    rw [decide_eq_true (by omega)]; rfl
  have h2 : cmC .Gt (callC minG [(bC 14)]) (opC .FloorDiv (bC 1) (cC (.int 3))) (sc S k P Q T t false [r0, r1, r2] x5 x6 x7 x8 x9 x10 x13 (some (false, .list ([r0, r1, r2].map fun x => natD (tot x)))) none none none none none) = some false := by
    refine (cm_of (a := .int (if (tot r2 : Int) < (if (tot r1 : Int) < tot r0 then (tot r1 : Int) else tot r0) then (tot r2 : Int) else (if (tot r1 : Int) < tot r0 then (tot r1 : Int) else tot r0))) ((call_of rfl).trans rfl) ((op_of (b := .int 3) rfl rfl).trans (bin_fdiv (by decide) (by decide)))).trans ((cmp_gti _ _).trans ?_)
    rw [Int.fdiv_eq_ediv_of_nonneg _ (by decide)]
    refine congrArg some (decide_eq_false ?_)
    clear h1 ht hs
    split <;> split <;> omega
  have h3 : turnsC (tg1 0) [(cmC .NotEq (callC sortG [(compC 1 [1] (seqC (vC 0)) (lpC [0] (tg1 0) [] (eltC (subC (bC 1) (vC 0)))))]) (lstC [(cC (.int 0)), (cC (.int 1)), (cC (.int 2))]))] (eltC (vC 0)) (P.map tripD) [none, some (false, tabD natD t)] = some [] := by
    rw [turns_filter (st := fun p => [some (false, tripD p), some (false, tabD natD t)]) (pr := fun _ => false) (e := tripD) P fun p hp => ⟨rfl, ts_one ?_, fun h => absurd h Bool.false_ne_true⟩]
    · rw [List.filter_eq_nil_iff.mpr (fun _ _ h => Bool.false_ne_true h)]; rfl
    · obtain ⟨a, ha, t1, t2, t3⟩ := ht p hp
      have hc : compC 1 [1] (seqC (vC 0)) (lpC [0] (tg1 0) [] (eltC (subC (bC 1) (vC 0)))) [some (false, tripD p), some (false, tabD natD t)] = some (.list [natD a.1, natD a.2.1, natD a.2.2]) := by
        have hi : ∀ {c v : Nat}, look t c = some v → eltC (subC (bC 1) (vC 0)) [some (false, natD c), some (false, tabD natD t)] = some [natD v] := fun {c v} h => elt_of ((sub_of rfl rfl).trans ((KE.nat.item t c).trans (congrArg _ h)))
        refine comp_of (xs := [natD (p / 81), natD (p / 9 % 9), natD (p % 9)]) rfl ?_ (Nat.le_of_ble_eq_true rfl)
        show turnsC (tg1 0) [] (eltC (subC (bC 1) (vC 0))) [natD (p / 81), natD (p / 9 % 9), natD (p % 9)] [none, some (false, tabD natD t)] = _
        unfold turnsC
        show (match eltC (subC (bC 1) (vC 0)) [some (false, natD (p / 81)), some (false, tabD natD t)] with | some o1 => (match turnsC (tg1 0) [] (eltC (subC (bC 1) (vC 0))) [natD (p / 9 % 9), natD (p % 9)] [none, some (false, tabD natD t)] with | some o2 => some (o1 ++ o2) | none => none) | none => none) = _
        rw [hi t1]
        unfold turnsC
        show (match (match eltC (subC (bC 1) (vC 0)) [some (false, natD (p / 9 % 9)), some (false, tabD natD t)] with | some o1 => (match turnsC (tg1 0) [] (eltC (subC (bC 1) (vC 0))) [natD (p % 9)] [none, some (false, tabD natD t)] with | some o2 => some (o1 ++ o2) | none => none) | none => none) with | some o2 => some ([natD a.1] ++ o2) | none => none) = _
        rw [hi t2]
        unfold turnsC
        show (match (match (match eltC (subC (bC 1) (vC 0)) [some (false, natD (p % 9)), some (false, tabD natD t)] with | some o1 => some (o1 ++ []) | none => none) with | some o2 => some ([natD a.2.1] ++ o2) | none => none) with | some o2 => some ([natD a.1] ++ o2) | none => none) = _
        rw [hi t3]; rfl
      exact (cm_of ((call_of (as_cons hc rfl)).trans (sort3 a ha)) rfl).trans rfl
  exact (any_false h1).trans ((any_false h2).trans ((any_false ((cm_of (comp_of (xs := P.map tripD) rfl h3 (Nat.zero_le _)) rfl).trans rfl)).trans rfl))
end M3
set_option maxRecDepth 100000
/-! law 3: all ways to tell the corners by three colours -/
namespace M3
open PySem PySem.SeqAt Ev L3
noncomputable def psK (p : Nat) (a : Nat × Nat × Nat) : Tab := [(p / 81, a.1), (p / 9 % 9, a.2.1), (p % 9, a.2.2)]
noncomputable def okT (w : Tab) (p : Nat) (a : Nat × Nat × Nat) : Bool := ((psK p a).filter fun x => !decide ((look w x.1).getD x.2 = x.2)).isEmpty
noncomputable def putW (w r : Tab) : Tab := r.foldl (fun t x => asg t x.1 x.2) w
noncomputable def stepW (ws : List Tab) (p : Nat) : List Tab := ws.flatMap fun w => (told6.filter (okT w p)).map fun a => putW w (psK p a)
theorem putAll : ∀ (r t : Tab), t.length + r.length ≤ 900 → putAllK (t.map (kv natD)) (r.map (kv natD)) = some ((putW t r).map (kv natD)) := by
  intro r
  induction r with
  | nil => intro t _; rfl
  | cons x r ih =>
    intro t h
    rw [List.length_cons] at h
    have hl := asg_len t x.1 x.2
    have e : putAllK (t.map (kv natD)) ((x :: r).map (kv natD)) = if okKey (t.map (kv natD)) (natD x.1) && decide ((t.map (kv natD)).length ≤ 1048576) then putAllK (setK (t.map (kv natD)) (natD x.1) (natD x.2)) (r.map (kv natD)) else none := rfl
    rw [e, KE.nat.key, KE.nat.set, if_pos (by rw [List.length_map, decide_eq_true (by omega)]; rfl), ih _ (by omega)]; rfl
theorem pairsL_map (t : List (PyData × PyData)) : pairsL (t.map pairD) = some t := by
  induction t with
  | nil => rfl
  | cons x r ih =>
    have e : pairsL ((x :: r).map pairD) = (match pairsL (r.map pairD) with | some q => some ((x.1, x.2) :: q) | none => none) := rfl
    rw [e, ih]
theorem putW_app {t r : Tab} (h : (keys (t ++ r)).Nodup) : putW t r = t ++ r := by
  induction r generalizing t with
  | nil => exact (List.append_nil t).symm
  | cons x r ih =>
    have e : t ++ x :: r = (t ++ [x]) ++ r := by rw [List.append_assoc]; rfl
    show putW (asg t x.1 x.2) r = _
    rw [asg_app h, e]
    exact ih (by rw [← e]; exact h)
noncomputable def srcT : Ev.St → Option PyData := compC 2 [] (rangeC [(cC (.int 3))]) (lpC [0] (tg1 0) [] (genC (rangeC [(cC (.int 3))]) (lpC [1] (tg1 1) [(cmC .NotEq (bC 0) (bC 1))] (eltC (tupC [(vC 0), (vC 1), (opC .Sub (opC .Sub (cC (.int 3)) (bC 0)) (bC 1))])))))
noncomputable def condT : Ev.St → Option Bool := cmC .Eq (compC 2 [0] (zipC (tupC [(vC 2), (vC 3), (vC 4)]) (vC 1)) (lpC [0, 1] (tgN [0, 1]) [(cmC .NotEq (getC (bC 2) (vC 0) (vC 1)) (bC 1))] (eltC (cC (.int 1))))) (lstC [])
noncomputable def eltT : Ev.St → Option PyData := Ev.callC dictG [(opC .Add (liC (vC 0)) (lzC (tupC [(vC 2), (vC 3), (vC 4)]) (vC 1)))]
noncomputable abbrev sw (w : Sl) (a : Sl) (p : Nat) : Ev.St := [w, a, some (false, natD (p / 81)), some (false, natD (p / 9 % 9)), some (false, natD (p % 9))]
theorem srcT_eq (σ : Ev.St) : srcT σ = some (.list (told6.map toldD)) := rfl
theorem cond_eq (w : Tab) (p : Nat) (a : Nat × Nat × Nat) : condT (sw (some (false, tabD natD w)) (some (false, toldD a)) p) = some (okT w p a) := by
  have h : turnsC (tgN [0, 1]) [(cmC .NotEq (getC (bC 2) (vC 0) (vC 1)) (bC 1))] (eltC (cC (.int 1))) ((psK p a).map fun x => .tuple [natD x.1, natD x.2]) [none, none, some (false, tabD natD w)] = some (((psK p a).filter fun x => !decide ((look w x.1).getD x.2 = x.2)).map fun _ => .int 1) := by
    refine turns_filter (st := fun x => [some (false, natD x.1), some (false, natD x.2), some (false, tabD natD w)]) _ fun x _ => ⟨rfl, ts_one ?_, fun _ => rfl⟩
    have e : getC (bC 2) (vC 0) (vC 1) [some (false, natD x.1), some (false, natD x.2), some (false, tabD natD w)] = if okKey (w.map (kv natD)) (natD x.1) then some ((lookK (w.map (kv natD)) (natD x.1)).getD (natD x.2)) else none := rfl
    rw [KE.nat.key, KE.nat.look, if_pos rfl] at e
    refine (cm_of (a := natD ((look w x.1).getD x.2)) (e.trans ?_) rfl).trans ((cmp_nei _ _).trans ?_)
    · cases look w x.1 <;> rfl
    · exact congrArg some (congrArg _ (decide_eq_decide.mpr ⟨Int.ofNat.inj, fun h => by rw [h]⟩))
  unfold condT
  refine (cm_of (comp_of (xs := (psK p a).map fun x => .tuple [natD x.1, natD x.2]) rfl h (by rw [List.length_map]; exact Nat.le_trans (List.length_filter_le ..) (Nat.le_of_ble_eq_true rfl))) rfl).trans ?_
  show some (List.isEmpty _) = _
  unfold okT
  cases (psK p a).filter fun x => !decide ((look w x.1).getD x.2 = x.2) <;> rfl
theorem elt_eq {w : Tab} (hn : (keys w).Nodup) (hl : w.length ≤ 100) (p : Nat) (a : Nat × Nat × Nat) : eltT (sw (some (false, tabD natD w)) (some (false, toldD a)) p) = some (tabD natD (putW w (psK p a))) := by
  have h1 : liC (vC 0) (sw (some (false, tabD natD w)) (some (false, toldD a)) p) = some (.list ((w.map (kv natD)).map pairD)) := by
    have e : liC (vC 0) (sw (some (false, tabD natD w)) (some (false, toldD a)) p) = if (w.map (kv natD)).all (fun x => isIntD x.1) && decide ((w.map (kv natD)).length ≤ 1048576) then some (.list ((w.map (kv natD)).map pairD)) else none := rfl
    rw [e, if_pos]
    rw [Bool.and_eq_true, List.length_map, List.all_map, List.all_eq_true]
    exact ⟨fun _ _ => rfl, decide_eq_true (by omega)⟩
  have h2 : lzC (tupC [(vC 2), (vC 3), (vC 4)]) (vC 1) (sw (some (false, tabD natD w)) (some (false, toldD a)) p) = some (.list (((psK p a).map (kv natD)).map pairD)) := rfl
  have h3 : opC .Add (liC (vC 0)) (lzC (tupC [(vC 2), (vC 3), (vC 4)]) (vC 1)) (sw (some (false, tabD natD w)) (some (false, toldD a)) p) = some (.list (((w ++ psK p a).map (kv natD)).map pairD)) := by
    refine (op_of h1 h2).trans ((bin_add ?_).trans ?_)
    · rw [List.length_map, List.length_map, List.length_map, List.length_map]
      show w.length + 3 ≤ _; omega
    · rw [← List.map_append, ← List.map_append]
  have hl2 : (w ++ psK p a).length = w.length + 3 := List.length_append
  refine (call_of (as_cons h3 rfl)).trans ?_
  have e : dictG [.list (((w ++ psK p a).map (kv natD)).map pairD)] = (match pairsL (((w ++ psK p a).map (kv natD)).map pairD) with
    | some r => if decide (r.length ≤ 1048576) then (match putAllK [] r with
      | some kvs => some (.dict kvs)
      | none => none) else none
    | none => none) := rfl
  rw [e, pairsL_map]
  simp only
  rw [if_pos (decide_eq_true (by rw [List.length_map, hl2]; omega)), show putAllK [] ((w ++ psK p a).map (kv natD)) = some ((putW [] (w ++ psK p a)).map (kv natD)) from putAll _ [] (by rw [hl2]; simp only [List.length_nil]; omega)]
  have : putW [] (w ++ psK p a) = putW w (psK p a) := by
    unfold putW
    rw [List.foldl_append]
    exact congrArg (fun x => List.foldl (fun t (x : Nat × Nat) => asg t x.1 x.2) x (psK p a)) (putW_app (t := []) (by rw [List.nil_append]; exact hn))
  rw [this]; rfl
theorem flat_len {α β : Type} {f : α → List β} {k : Nat} (l : List α) (h : ∀ x ∈ l, (f x).length ≤ k) : (l.flatMap f).length ≤ l.length * k := by
  induction l with
  | nil => exact Nat.zero_le _
  | cons a r ih =>
    have h1 := h a List.mem_cons_self
    have h2 := ih fun x hx => h x (List.mem_cons_of_mem _ hx)
    rw [List.flatMap_cons, List.length_append, List.length_cons, Nat.add_mul]
    omega
noncomputable def stepC : Ev.St → Option PyData := compC 2 [16, 17, 18] (seqC (vC 15)) (lpC [0] (tg1 0) [] (genC (seqC srcT) (lpC [1] (tg1 1) [condT] (eltC eltT))))
theorem stepC_eq (σ : Ev.St) (p : Nat) {ws : List Tab} (hcap : capC 2 [16, 17, 18] σ = sw none none p) (hsrc : seqC (vC 15) σ = some (ws.map (tabD natD))) (hw : ∀ w ∈ ws, (keys w).Nodup ∧ w.length ≤ 100) (hl : ws.length ≤ 100) : stepC σ = some (.list ((stepW ws p).map (tabD natD))) := by
  have h : turnsC (tg1 0) [] (genC (seqC srcT) (lpC [1] (tg1 1) [condT] (eltC eltT))) (ws.map (tabD natD)) (sw none none p) = some (ws.flatMap fun w => ((told6.filter (okT w p)).map fun a => putW w (psK p a)).map (tabD natD)) := by
    rw [turns_flat (st := fun w => sw (some (false, tabD natD w)) none p) (pr := fun _ => true) (e := fun w => ((told6.filter (okT w p)).map fun a => putW w (psK p a)).map (tabD natD)) ws fun w hm => ⟨rfl, rfl, fun _ => ?_⟩, List.filter_eq_self.mpr fun _ _ => rfl]
    have e : genC (seqC srcT) (lpC [1] (tg1 1) [condT] (eltC eltT)) (sw (some (false, tabD natD w)) none p) = turnsC (tg1 1) [condT] (eltC eltT) (told6.map toldD) (sw (some (false, tabD natD w)) none p) := rfl
    rw [e, turns_filter (st := fun a => sw (some (false, tabD natD w)) (some (false, toldD a)) p) (pr := okT w p) (e := fun a => tabD natD (putW w (psK p a))) told6 fun a _ => ⟨rfl, ts_one (cond_eq w p a), fun _ => elt_of (elt_eq (hw w hm).1 (hw w hm).2 p a)⟩, List.map_map]
    rfl
  have hm : (stepW ws p).map (tabD natD) = ws.flatMap fun w => ((told6.filter (okT w p)).map fun a => putW w (psK p a)).map (tabD natD) := by
    unfold stepW; rw [List.map_flatMap]
  rw [hm]
  refine comp_of hsrc (by rw [hcap]; exact h) ?_
  rw [← hm, List.length_map]
  have h6 : (stepW ws p).length ≤ ws.length * 6 := flat_len ws fun w _ => by rw [List.length_map]; exact List.length_filter_le ..
  omega
/-! the six ways -/
noncomputable def ap (a : Nat × Nat × Nat) (x : Nat) : Nat := if x = 0 then a.1 else if x = 1 then a.2.1 else a.2.2
noncomputable def wT (t : Nat → Nat) (seen : List Nat) (a : Nat × Nat × Nat) : Tab := seen.map fun c => (c, ap a (t c))
theorem look_wT (t : Nat → Nat) (seen : List Nat) (a : Nat × Nat × Nat) (c : Nat) : look (wT t seen a) c = if c ∈ seen then some (ap a (t c)) else none := by
  induction seen with
  | nil => rfl
  | cons d r ih =>
    have e : look (wT t (d :: r) a) c = if d = c then some (ap a (t d)) else look (wT t r a) c := rfl
    rw [e, ih]
    by_cases h : d = c
    · subst h; rw [if_pos rfl, if_pos List.mem_cons_self]
    · rw [if_neg h]
      by_cases m : c ∈ r
      · rw [if_pos m, if_pos (List.mem_cons_of_mem _ m)]
      · rw [if_neg m, if_neg (fun q => (List.mem_cons.mp q).elim (fun e => h e.symm) m)]
theorem asg_same {t : Tab} {c v : Nat} (h : look t c = some v) : asg t c v = t := by
  induction t with
  | nil => (first | exact Ev.ns h | exact Ev.nb h | obtain rfl := Ev.si h | cases h)
  | cons x r ih =>
    unfold look at h
    unfold asg
    by_cases e : x.1 = c
    · rw [if_pos e] at h ⊢; (first | exact Ev.ns h | exact Ev.nb h | obtain rfl := Ev.si h | cases h); rfl
    · rw [if_neg e] at h ⊢; rw [ih h]
theorem asg_new {t : Tab} {c v : Nat} (h : look t c = none) : asg t c v = t ++ [(c, v)] := by
  induction t with
  | nil => rfl
  | cons x r ih =>
    unfold look at h
    unfold asg
    by_cases e : x.1 = c
    · rw [if_pos e] at h; (first | exact Ev.ns h | exact Ev.nb h | obtain rfl := Ev.si h | cases h)
    · rw [if_neg e] at h ⊢; rw [ih h]; rfl
theorem one_told : ∀ a ∈ told6, ∀ x ∈ told6, told6.filter (fun b => decide (ap a x.1 = b.1) && decide (ap a x.2.2 = b.2.2)) = [(ap a x.1, ap a x.2.1, ap a x.2.2)] := by decide
theorem ok_of (w : Tab) (p : Nat) (b : Nat × Nat × Nat) : okT w p b = (decide ((look w (p / 81)).getD b.1 = b.1) && (decide ((look w (p / 9 % 9)).getD b.2.1 = b.2.1) && decide ((look w (p % 9)).getD b.2.2 = b.2.2))) := by
  unfold okT psK
  simp only [List.filter_cons, List.filter_nil]
  cases decide ((look w (p / 81)).getD b.1 = b.1) <;> cases decide ((look w (p / 9 % 9)).getD b.2.1 = b.2.1) <;> cases decide ((look w (p % 9)).getD b.2.2 = b.2.2) <;> rfl
theorem step_one {t : Nat → Nat} {seen : List Nat} {p : Nat} (h1 : p / 81 ∈ seen) (h2 : p % 9 ∈ seen) (h3 : p / 9 % 9 ∉ seen) (ht : (t (p / 81), t (p / 9 % 9), t (p % 9)) ∈ told6) : stepW (told6.map (wT t seen)) p = told6.map (wT t (seen ++ [p / 9 % 9])) := by
  have key : ∀ a ∈ told6, (told6.filter (okT (wT t seen a) p)).map (fun b => putW (wT t seen a) (psK p b)) = [wT t (seen ++ [p / 9 % 9]) a] := fun a ha => by
    have e : told6.filter (okT (wT t seen a) p) = told6.filter (fun b => decide (ap a (t (p / 81)) = b.1) && decide (ap a (t (p % 9)) = b.2.2)) := by
      refine List.filter_congr fun b _ => ?_
      rw [ok_of, look_wT, look_wT, look_wT, if_pos h1, if_pos h2, if_neg h3]
      show (_ && (decide (b.2.1 = b.2.1) && _)) = _
      rw [decide_eq_true rfl, Bool.true_and]; rfl
    rw [e, one_told a ha _ ht, List.map_cons, List.map_nil]
    have l1 := (look_wT t seen a (p / 81)).trans (if_pos h1)
    have l3 := (look_wT t seen a (p / 9 % 9)).trans (if_neg h3)
    have e2 : wT t (seen ++ [p / 9 % 9]) a = wT t seen a ++ [(p / 9 % 9, ap a (t (p / 9 % 9)))] := List.map_append
    have l2 : look (wT t (seen ++ [p / 9 % 9]) a) (p % 9) = some (ap a (t (p % 9))) := (look_wT t _ a (p % 9)).trans (if_pos (List.mem_append_left _ h2))
    show [asg (asg (asg (wT t seen a) (p / 81) (ap a (t (p / 81)))) (p / 9 % 9) (ap a (t (p / 9 % 9)))) (p % 9) (ap a (t (p % 9)))] = _
    rw [asg_same l1, asg_new l3, ← e2, asg_same l2]
  have go : ∀ l : List (Nat × Nat × Nat), (∀ a ∈ l, a ∈ told6) → stepW (l.map (wT t seen)) p = l.map (wT t (seen ++ [p / 9 % 9])) := fun l => by
    induction l with
    | nil => exact fun _ => rfl
    | cons a r ih =>
      intro h
      have e : stepW ((a :: r).map (wT t seen)) p = (told6.filter (okT (wT t seen a) p)).map (fun b => putW (wT t seen a) (psK p b)) ++ stepW (r.map (wT t seen)) p := rfl
      rw [e, key a (h a List.mem_cons_self), ih fun b hb => h b (List.mem_cons_of_mem _ hb)]; rfl
  exact go told6 fun _ h => h
noncomputable def seqOk (t : Nat → Nat) : List Nat → List Nat → Bool
  | _, [] => true
  | seen, p :: r => decide (p / 81 ∈ seen) && (decide (p % 9 ∈ seen) && (decide (p / 9 % 9 ∉ seen) && (decide ((t (p / 81), t (p / 9 % 9), t (p % 9)) ∈ told6) && seqOk t (seen ++ [p / 9 % 9]) r)))
theorem first_step {p : Nat} {t : Nat → Nat} (h0 : t (p / 81) = 0) (h1 : t (p / 9 % 9) = 1) (h2 : t (p % 9) = 2) (n1 : p / 81 ≠ p / 9 % 9) (n2 : p / 81 ≠ p % 9) (n3 : p / 9 % 9 ≠ p % 9) : stepW [[]] p = told6.map (wT t [p / 81, p / 9 % 9, p % 9]) := by
  have e : stepW [[]] p = (told6.filter (okT [] p)).map fun a => putW [] (psK p a) := List.append_nil _
  have e1 : told6.filter (okT [] p) = told6 := List.filter_eq_self.mpr fun a _ => by
    rw [ok_of]
    show (decide (a.1 = a.1) && (decide (a.2.1 = a.2.1) && decide (a.2.2 = a.2.2))) = true
    rw [decide_eq_true rfl, decide_eq_true rfl, decide_eq_true rfl]; rfl
  rw [e, e1]
  refine List.map_congr_left fun a _ => ?_
  rw [putW_app (t := []) (r := psK p a) (by
    show [p / 81, p / 9 % 9, p % 9].Nodup
    simp [n1, n2, n3])]
  show [(p / 81, a.1), (p / 9 % 9, a.2.1), (p % 9, a.2.2)] = [(p / 81, ap a (t (p / 81))), (p / 9 % 9, ap a (t (p / 9 % 9))), (p % 9, ap a (t (p % 9)))]
  rw [h0, h1, h2]; rfl
noncomputable def bodyW : Sm := frzC 15 (ownC 15 stepC)
theorem wT_ok {t : Nat → Nat} {seen : List Nat} (hn : seen.Nodup) (hl : seen.length ≤ 100) : ∀ w ∈ told6.map (wT t seen), (keys w).Nodup ∧ w.length ≤ 100 := fun w hw => by
  obtain ⟨a, _, rfl⟩ := List.mem_map.mp hw
  have : keys (wT t seen a) = seen := by
    unfold keys wT; rw [List.map_map]; exact List.map_id' seen
  rw [this]
  exact ⟨hn, by unfold wT; rw [List.length_map]; exact hl⟩
end M3
set_option maxRecDepth 100000
/-! law 3: the law's text, piece by piece, 3 -/
namespace M3
open PySem PySem.SeqAt Ev L3
noncomputable abbrev sd (S : PyData) (k : Nat) (P Q : List Nat) (T t : Tab) (rows : List Tab) (x5 x6 x7 x8 x9 x10 x13 x14 : Sl) (ws : List Tab) (x16 x17 x18 x19 : Sl) : Ev.St :=
  sc S k P Q T t false rows x5 x6 x7 x8 x9 x10 x13 x14 (some (false, .list (ws.map (tabD natD)))) x16 x17 x18 x19
theorem bodyW_eq (S : PyData) (k : Nat) (P Q : List Nat) (T t : Tab) (rows : List Tab) (x5 x6 x7 x8 x9 x10 x13 x14 : Sl) {ws : List Tab} (hw : ∀ w ∈ ws, (keys w).Nodup ∧ w.length ≤ 100) (hl : ws.length ≤ 100) (p : Nat) :
    bodyW (sd S k P Q T t rows x5 x6 x7 x8 x9 x10 x13 x14 ws (some (false, natD (p / 81))) (some (false, natD (p / 9 % 9))) (some (false, natD (p % 9))) none) = some (.next, sd S k P Q T t rows x5 x6 x7 x8 x9 x10 x13 x14 (stepW ws p) (some (false, natD (p / 81))) (some (false, natD (p / 9 % 9))) (some (false, natD (p % 9))) none) := by
  have h := stepC_eq (sd S k P Q T t rows x5 x6 x7 x8 x9 x10 x13 x14 ws (some (false, natD (p / 81))) (some (false, natD (p / 9 % 9))) (some (false, natD (p % 9))) none) p rfl rfl hw hl
  unfold bodyW frzC ownC
  rw [h]; rfl
theorem loopW (S : PyData) (k : Nat) (P Q : List Nat) (T t : Tab) (rows : List Tab) (x5 x6 x7 x8 x9 x10 x13 x14 : Sl) {f : Nat → Nat} : ∀ (r seen : List Nat) (x16 x17 x18 : Sl), seen.Nodup → seen.length + r.length ≤ 100 → seqOk f seen r = true →
    ∃ seen' x16' x17' x18', Ev.loopC (tgN [16, 17, 18]) bodyW (r.map tripD) (sd S k P Q T t rows x5 x6 x7 x8 x9 x10 x13 x14 (told6.map (wT f seen)) x16 x17 x18 none) = some (.next, sd S k P Q T t rows x5 x6 x7 x8 x9 x10 x13 x14 (told6.map (wT f seen')) x16' x17' x18' none) := by
  intro r
  induction r with
  | nil => intro seen x16 x17 x18 _ _ _; exact ⟨seen, x16, x17, x18, rfl⟩
  | cons p r ih =>
    intro seen x16 x17 x18 hn hl h
    rw [List.length_cons] at hl
    obtain ⟨h1, h⟩ := Bool.and_eq_true_iff.mp h
    obtain ⟨h2, h⟩ := Bool.and_eq_true_iff.mp h
    obtain ⟨h3, h⟩ := Bool.and_eq_true_iff.mp h
    obtain ⟨h4, h⟩ := Bool.and_eq_true_iff.mp h
    have h1 := of_decide_eq_true h1
    have h2 := of_decide_eq_true h2
    have h3 := of_decide_eq_true h3
    have h4 := of_decide_eq_true h4
    obtain ⟨s', y16, y17, y18, hr⟩ := ih (seen ++ [p / 9 % 9]) (some (false, natD (p / 81))) (some (false, natD (p / 9 % 9))) (some (false, natD (p % 9))) (List.nodup_append.mpr ⟨hn, by simp, fun a ha b hb e => h3 (by rw [List.mem_singleton.mp hb] at e; exact e ▸ ha)⟩) (by rw [List.length_append, List.length_singleton]; omega) h
    refine ⟨s', y16, y17, y18, ?_⟩
    have hb := bodyW_eq S k P Q T t rows x5 x6 x7 x8 x9 x10 x13 x14 (wT_ok (t := f) hn (by omega)) (by rw [List.length_map]; exact Nat.le_of_ble_eq_true rfl) p
    rw [step_one h1 h2 h3 h4] at hb
    rw [List.map_cons, loop_cons rfl hb, hr]
noncomputable def c13 : Sm := ifS (cmC .NotEq (callC lenG [(bC 15)]) (cC (.int 6))) (retC (cC (.bool false))) skipC
noncomputable def earC : Ev.St → Option Bool := cmC .GtE (callC lenG [(compC 2 [1] (seqC (lstC [(tupC [(subC (bC 0) (cC (.int 0))), (subC (bC 0) (cC (.int 1)))]), (tupC [(subC (bC 0) (cC (.int 1))), (subC (bC 0) (cC (.int 2)))]), (tupC [(subC (bC 0) (cC (.int 0))), (subC (bC 0) (cC (.int 2)))])])) (lpC [0, 1] (tgN [0, 1]) [(cmC .Eq (subC (bC 2) (tupC [(cC (.str "line")), (vC 0), (vC 1)])) (cC (.int 1)))] (eltC (cC (.int 1)))))]) (cC (.int 2))
noncomputable def c14 : Sm := frzC 19 (ownC 19 (compC 1 [4] (seqC (vC 2)) (lpC [0] (tg1 0) [earC] (eltC (vC 0)))))
noncomputable def c15 : Sm := retC (ofB (cmC .GtE (callC lenG [(bC 19)]) (callC minG [(cC (.int 2)), (callC lenG [(bC 2)])])))
noncomputable def ear (T : Tab) (p : Nat) : Bool := decide (2 ≤ ((lcodes p).filter fun c => decide (look T c = some 1)).length)
theorem ear_eq {T : Tab} {p : Nat} (h : ∀ c ∈ lcodes p, ∃ v, look T c = some v) : earC [some (false, tripD p), some (false, tabD lineK T)] = some (ear T p) := by
  have h1 : turnsC (tgN [0, 1]) [(cmC .Eq (subC (bC 2) (tupC [(cC (.str "line")), (vC 0), (vC 1)])) (cC (.int 1)))] (eltC (cC (.int 1))) ((lcodes p).map pr) [none, none, some (false, tabD lineK T)] = some (((lcodes p).filter fun c => decide (look T c = some 1)).map fun _ => .int 1) := by
    refine turns_filter (st := fun c => [some (false, natD (c / 9)), some (false, natD (c % 9)), some (false, tabD lineK T)]) _ fun c hc => ⟨rfl, ts_one ?_, fun _ => rfl⟩
    obtain ⟨v, hv⟩ := h c hc
    refine (cm_of (a := natD v) ((sub_of rfl (tup_of (as_cons rfl (as_cons rfl (as_cons rfl rfl))) rfl)).trans ((KE.line.item T c).trans (congrArg _ hv))) rfl).trans ((cmp_eqi _ _).trans ?_)
    rw [hv]
    exact congrArg some (decide_eq_decide.mpr ⟨fun e => congrArg some (Int.ofNat.inj e), fun e => by rw [Option.some.inj e]; rfl⟩)
  have h2 : seqC (lstC [(tupC [(subC (bC 0) (cC (.int 0))), (subC (bC 0) (cC (.int 1)))]), (tupC [(subC (bC 0) (cC (.int 1))), (subC (bC 0) (cC (.int 2)))]), (tupC [(subC (bC 0) (cC (.int 0))), (subC (bC 0) (cC (.int 2)))])]) [some (false, tripD p), some (false, tabD lineK T)] = some ((lcodes p).map pr) := by
    have e : seqC (lstC [(tupC [(subC (bC 0) (cC (.int 0))), (subC (bC 0) (cC (.int 1)))]), (tupC [(subC (bC 0) (cC (.int 1))), (subC (bC 0) (cC (.int 2)))]), (tupC [(subC (bC 0) (cC (.int 0))), (subC (bC 0) (cC (.int 2)))])]) [some (false, tripD p), some (false, tabD lineK T)] = some [.tuple [natD (p / 81), natD (p / 9 % 9)], .tuple [natD (p / 9 % 9), natD (p % 9)], .tuple [natD (p / 81), natD (p % 9)]] := rfl
    rw [e]
    have m1 : p / 9 % 9 < 9 := Nat.mod_lt _ (by decide)
    have m2 : p % 9 < 9 := Nat.mod_lt _ (by decide)
    rw [← pr_of _ _ m1, ← pr_of _ _ m2, ← pr_of _ _ m2]; rfl
  have hl : (((lcodes p).filter fun c => decide (look T c = some 1)).map fun _ => PyData.int 1).length ≤ 1048576 := by
    rw [List.length_map]; exact Nat.le_trans (List.length_filter_le ..) (Nat.le_of_ble_eq_true rfl)
  unfold earC
  refine (cm_of ((call_of (as_cons (comp_of h2 h1 hl) rfl)).trans (len_list hl)) rfl).trans ((cmp_gei _ _).trans ?_)
  rw [List.length_map]
  exact congrArg some (decide_eq_decide.mpr (by omega))
theorem last_eq {k : Nat} {P Q : List Nat} {T t : Tab} {rows ws : List Tab} (h7 : P.length ≤ 7) (h6 : ws.length = 6) (h1 : ∀ p ∈ P, ∀ c ∈ lcodes p, ∃ v, look T c = some v) (h2 : min 2 P.length ≤ (P.filter (ear T)).length) (S : PyData) (x5 x6 x7 x8 x9 x10 x13 x14 x16 x17 x18 : Sl) :
    ∃ σ, seqC2 c13 (seqC2 c14 c15) (sd S k P Q T t rows x5 x6 x7 x8 x9 x10 x13 x14 ws x16 x17 x18 none) = some (.ret (.bool true), σ) := by
  have e13 : c13 (sd S k P Q T t rows x5 x6 x7 x8 x9 x10 x13 x14 ws x16 x17 x18 none) = some (.next, sd S k P Q T t rows x5 x6 x7 x8 x9 x10 x13 x14 ws x16 x17 x18 none) := by
    unfold c13
    refine (if_false ?_).trans rfl
    refine (cm_of (a := natD 6) ((call_of rfl).trans ?_) rfl).trans rfl
    have := len_list (l := ws.map (tabD natD)) (by rw [List.length_map]; omega)
    rwa [List.length_map, h6] at this
  have hE : ((P.filter (ear T)).map tripD).length ≤ 7 := by rw [List.length_map]; exact Nat.le_trans (List.length_filter_le ..) h7
  have e14 : c14 (sd S k P Q T t rows x5 x6 x7 x8 x9 x10 x13 x14 ws x16 x17 x18 none) = some (.next, sd S k P Q T t rows x5 x6 x7 x8 x9 x10 x13 x14 ws x16 x17 x18 (some (false, .list ((P.filter (ear T)).map tripD)))) := by
    have h : turnsC (tg1 0) [earC] (eltC (vC 0)) (P.map tripD) [none, some (false, tabD lineK T)] = some ((P.filter (ear T)).map tripD) :=
      turns_filter (st := fun p => [some (false, tripD p), some (false, tabD lineK T)]) P fun p hp => ⟨rfl, ts_one (ear_eq (h1 p hp)), fun _ => rfl⟩
    have e : compC 1 [4] (seqC (vC 2)) (lpC [0] (tg1 0) [earC] (eltC (vC 0))) (sd S k P Q T t rows x5 x6 x7 x8 x9 x10 x13 x14 ws x16 x17 x18 none) = some (.list ((P.filter (ear T)).map tripD)) := comp_of (xs := P.map tripD) rfl h (by omega)
    unfold c14 frzC ownC
    rw [e]; rfl
  rw [seq_next e13, seq_next e14]
  refine ⟨_, ret_of (d := .bool true) (ofB_of ?_)⟩
  have hmin : Ev.callC minG [(cC (.int 2)), (callC lenG [(bC 2)])] (sd S k P Q T t rows x5 x6 x7 x8 x9 x10 x13 x14 ws x16 x17 x18 (some (false, .list ((P.filter (ear T)).map tripD)))) = some (.int (if (P.length : Int) < 2 then (P.length : Int) else 2)) :=
    (call_of (as_cons rfl (as_cons ((call_of rfl).trans (len_parts h7)) rfl))).trans rfl
  refine (cm_of ((call_of rfl).trans (len_list (by omega))) hmin).trans ((cmp_gei _ _).trans ?_)
  rw [List.length_map]
  refine congrArg some (decide_eq_true ?_)
  split <;> omega
/-! all of it -/
noncomputable def linesT (P : List Nat) : Tab := (P.flatMap lcodes).foldl bump []
noncomputable def colF (t : Tab) (c : Nat) : Nat := (look t c).getD 0
noncomputable def rowsOk (k : Nat) : Option (List Tab) → Bool
  | some [r0, r1, r2] => decide (tot r0 + tot r1 + tot r2 = k + 1) && (decide (3 * tot r0 ≤ k + 1) || (decide (3 * tot r1 ≤ k + 1) || decide (3 * tot r2 ≤ k + 1)))
  | _ => false
noncomputable def triOk (t : Tab) (p : Nat) : Bool := match look t (p / 81), look t (p / 9 % 9), look t (p % 9) with
  | some a, some b, some c => decide ((a, b, c) ∈ told6)
  | _, _, _ => false
noncomputable def firstOk (t : Tab) : List Nat → Bool
  | [] => false
  | p :: r => decide (colF t (p / 81) = 0) && (decide (colF t (p / 9 % 9) = 1) && (decide (colF t (p % 9) = 2) && (decide (p / 81 ≠ p / 9 % 9) && (decide (p / 81 ≠ p % 9) && (decide (p / 9 % 9 ≠ p % 9) && seqOk (colF t) [p / 81, p / 9 % 9, p % 9] r)))))
noncomputable def colOk (k : Nat) (P : List Nat) : Option Tab → Bool
  | some t => rowsOk k (rowsF t (List.range (k + 1)) [[], [], []]) && (P.all (triOk t) && firstOk t P)
  | none => false
noncomputable def lineOk (k : Nat) (P : List Nat) (T : Tab) : Bool := T.all (sideOk k) && (decide (tot T + 3 = 3 * k) && (decide (T.length + 1 = 2 * k) && (P.all (fun p => (lcodes p).all fun c => (look T c).isSome) && decide (min 2 P.length ≤ (P.filter (ear T)).length))))
noncomputable def c0 : Sm := setC 1 (opC .Add (cC (.int 3)) (opC .Mod (callC sumG [(bC 0)]) (cC (.int 7))))
noncomputable def c1 : Sm := setC 2 (subC (callC (g__law_parts 9) [(cC (.int 0)), (opC .Sub (bC 1) (cC (.int 1))), (opC .Add (takeC (bC 0) 8) (repC (lstC [(cC (.int 0))]) 9))]) (cC (.int 0)))
noncomputable def c2 : Sm := asgM [3, 4] false [(true, (lstC [])), (false, (cC (.dict [])))]
noncomputable def c3 : Sm := forC (seqC (vC 2)) (tg1 5) bodyO
noncomputable def c5 : Sm := forC (itemsC (vC 4)) (tgN [8, 9]) bodyS
noncomputable def c8 : Sm := forC (rangeC [(bC 1)]) (tg1 13) bodyC
noncomputable def c11 : Sm := setC 15 (lstC [(cC (.dict []))])
noncomputable def c12 : Sm := forC (seqC (vC 2)) (tgN [16, 17, 18]) bodyW
theorem F_law_eq : F_law = seqC2 c0 (seqC2 c1 (seqC2 c2 (seqC2 c3 (seqC2 c4 (seqC2 c5 (seqC2 c6 (seqC2 c7 (seqC2 c8 (seqC2 c9 (seqC2 c10 (seqC2 c11 (seqC2 c12 (seqC2 c13 (seqC2 c14 c15)))))))))))))) := rfl
noncomputable abbrev s2 (S : PyData) (k : Nat) (P : List Nat) : Ev.St := [some (false, S), some (false, natD (k + 1)), some (false, partsD P), none, none, none, none, none, none, none, none, none, none, none, none, none, none, none, none, none]
noncomputable def rest : Sm := seqC2 c2 (seqC2 c3 (seqC2 c4 (seqC2 c5 (seqC2 c6 (seqC2 c7 (seqC2 c8 (seqC2 c9 (seqC2 c10 (seqC2 c11 (seqC2 c12 (seqC2 c13 (seqC2 c14 c15))))))))))))
theorem all_some {α : Type} {o : Option α} (h : o.isSome = true) : ∃ v, o = some v := by
  cases o with
  | none => (first | exact Ev.ns h | exact Ev.nb h | obtain rfl := Ev.si h | cases h)
  | some v => exact ⟨v, rfl⟩
theorem tri_of {t : Tab} {p : Nat} (h : triOk t p = true) : ∃ a ∈ told6, tri t p a := by
  unfold triOk at h
  split at h
  · rename_i a b c ha hb hc
    exact ⟨(a, b, c), of_decide_eq_true h, ha, hb, hc⟩
  · (first | exact Ev.ns h | exact Ev.nb h | obtain rfl := Ev.si h | cases h)
theorem rest_eq {k : Nat} {P : List Nat} (h2 : 2 ≤ k) (h8 : k ≤ 8) (hP : P.length + 1 = k) (hn : P.Nodup) (hs : sortOk P = true) (hl : lineOk k P (linesT P) = true) (hc : colOk k P (cols P [(0, 0), (k, 2)]) = true) (S : PyData) :
    ∃ σ, rest (s2 S k P) = some (.ret (.bool true), σ) := by
  have h7 : P.length ≤ 7 := by omega
  obtain ⟨q1, q2, q3, q4, x5, x6, x7, hO⟩ := loopO S k P none none none P [] [] none none none List.Pairwise.nil (fun _ _ m => nomatch m) hn (by rw [List.length_nil]; omega) List.nodup_nil (by rw [List.length_nil]; omega)
  have hsort := sort_parts h7 hs
  have hQl : (P.foldl insP []).length ≤ 7 := by rw [q3, List.length_nil]; omega
  have hTe : (P.flatMap lcodes).foldl bump [] = linesT P := rfl
  rw [hTe] at hO
  obtain ⟨l1, hl⟩ := Bool.and_eq_true_iff.mp hl
  obtain ⟨l2, hl⟩ := Bool.and_eq_true_iff.mp hl
  obtain ⟨l3, hl⟩ := Bool.and_eq_true_iff.mp hl
  obtain ⟨l4, l5⟩ := Bool.and_eq_true_iff.mp hl
  have l3 := of_decide_eq_true l3
  generalize linesT P = T at *
  obtain ⟨x8, x9, x10, hS⟩ := loopS S k P (P.foldl insP []) T x5 x6 x7 T none none none l1
  cases ht : cols P [(0, 0), (k, 2)] with
  | none => rw [ht] at hc; (first | exact Ev.ns hc | exact Ev.nb hc | obtain rfl := Ev.si hc | cases hc)
  | some t =>
    rw [ht] at hc
    obtain ⟨k1, hc⟩ := Bool.and_eq_true_iff.mp hc
    obtain ⟨k2, k3⟩ := Bool.and_eq_true_iff.mp hc
    cases hr : rowsF t (List.range (k + 1)) [[], [], []] with
    | none => rw [hr] at k1; cases k1
    | some rows =>
      rw [hr] at k1
      obtain ⟨r3, x13, hR⟩ := loopR S k P (P.foldl insP []) T t x5 x6 x7 x8 x9 x10 (List.range (k + 1)) [[], [], []] rows none rfl (fun x hx => by
        have : x = [] := by simpa using hx
        subst this
        exact ⟨List.nodup_nil, by rw [List.length_range, List.length_nil]; omega⟩) hr
      obtain ⟨r0, r1, r2, rfl⟩ : ∃ r0 r1 r2, rows = [r0, r1, r2] := by
        cases rows with
        | nil => cases r3
        | cons r0 rows =>
          cases rows with
          | nil => cases r3
          | cons r1 rows =>
            cases rows with
            | nil => cases r3
            | cons r2 rows =>
              cases rows with
              | nil => exact ⟨r0, r1, r2, rfl⟩
              | cons => cases r3
      obtain ⟨m1, m2⟩ := Bool.and_eq_true_iff.mp k1
      have m2 : 3 * tot r0 ≤ k + 1 ∨ 3 * tot r1 ≤ k + 1 ∨ 3 * tot r2 ≤ k + 1 := (Bool.or_eq_true_iff.mp m2).imp of_decide_eq_true fun h => (Bool.or_eq_true_iff.mp h).imp of_decide_eq_true of_decide_eq_true
      have e2 : c2 (s2 S k P) = some (.next, sa S k P true [] [] none none none none none none) := rfl
      have e3 : c3 (sa S k P true [] [] none none none none none none) = some (.next, sa S k P true (P.foldl insP []) T x5 x6 x7 none none none) := (for_of (ds := P.map tripD) rfl).trans hO
      have e5 : c5 (sa S k P false (P.foldl insP []) T x5 x6 x7 none none none) = some (.next, sa S k P false (P.foldl insP []) T x5 x6 x7 x8 x9 x10) := (for_of (ds := (T.map (kv lineK)).map pairD) rfl).trans hS
      have e8 : c8 (sc S k P (P.foldl insP []) T t true [[], [], []] x5 x6 x7 x8 x9 x10 none none none none none none none) = some (.next, sc S k P (P.foldl insP []) T t true [r0, r1, r2] x5 x6 x7 x8 x9 x10 x13 none none none none none none) := (for_of (range_of rfl (by omega))).trans hR
      unfold rest
      rw [seq_next e2, seq_next e3, seq_next (c4_eq hP h7 q1 hQl (fun p hp => (q2 p).mpr (.inr hp)) hsort S T x5 x6 x7 none none none), seq_next e5, seq_next (c6_eq (of_decide_eq_true l2) l3 (by omega) S x5 x6 x7 x8 x9 x10), seq_next (c7_eq (by omega) h7 ht S x5 x6 x7 x8 x9 x10), seq_next e8, seq_next (c9_eq r3 S x5 x6 x7 x8 x9 x10 x13), seq_next (c10_eq (of_decide_eq_true m1) m2 (fun p hp => tri_of (List.all_eq_true.mp k2 p hp)) S x5 x6 x7 x8 x9 x10 x13)]
      have e11 : c11 (sc S k P (P.foldl insP []) T t false [r0, r1, r2] x5 x6 x7 x8 x9 x10 x13 (some (false, .list ([r0, r1, r2].map fun x => natD (tot x)))) none none none none none) = some (.next, sd S k P (P.foldl insP []) T t [r0, r1, r2] x5 x6 x7 x8 x9 x10 x13 (some (false, .list ([r0, r1, r2].map fun x => natD (tot x)))) [[]] none none none none) := rfl
      rw [seq_next e11]
      generalize some (false, PyData.list ([r0, r1, r2].map fun x => natD (tot x))) = x14
      have hw : ∃ seen x16 x17 x18, c12 (sd S k P (P.foldl insP []) T t [r0, r1, r2] x5 x6 x7 x8 x9 x10 x13 x14 [[]] none none none none) = some (.next, sd S k P (P.foldl insP []) T t [r0, r1, r2] x5 x6 x7 x8 x9 x10 x13 x14 (told6.map (wT (colF t) seen)) x16 x17 x18 none) := by
        clear hO hS hR e2 e3 e5 e8 e11 l1 l4 l5 q1 q2 hsort
        cases P with
        | nil => cases k3
        | cons p r =>
          obtain ⟨f1, k3⟩ := Bool.and_eq_true_iff.mp k3
          obtain ⟨f2, k3⟩ := Bool.and_eq_true_iff.mp k3
          obtain ⟨f3, k3⟩ := Bool.and_eq_true_iff.mp k3
          obtain ⟨f4, k3⟩ := Bool.and_eq_true_iff.mp k3
          obtain ⟨f5, k3⟩ := Bool.and_eq_true_iff.mp k3
          obtain ⟨f6, k3⟩ := Bool.and_eq_true_iff.mp k3
          have f4 := of_decide_eq_true f4
          have f5 := of_decide_eq_true f5
          have f6 := of_decide_eq_true f6
          rw [List.length_cons] at h7
          have hb := bodyW_eq S k (p :: r) ((p :: r).foldl insP []) T t [r0, r1, r2] x5 x6 x7 x8 x9 x10 x13 x14 (ws := [[]]) (fun w hw => by rw [List.mem_singleton.mp hw]; exact ⟨List.nodup_nil, Nat.zero_le _⟩) (Nat.le_of_ble_eq_true rfl) p
          rw [first_step (of_decide_eq_true f1) (of_decide_eq_true f2) (of_decide_eq_true f3) f4 f5 f6] at hb
          obtain ⟨seen, x16, x17, x18, h⟩ := loopW S k (p :: r) ((p :: r).foldl insP []) T t [r0, r1, r2] x5 x6 x7 x8 x9 x10 x13 x14 r [p / 81, p / 9 % 9, p % 9] (some (false, natD (p / 81))) (some (false, natD (p / 9 % 9))) (some (false, natD (p % 9))) (by simp [f4, f5, f6]) (by show 3 + r.length ≤ 100; omega) k3
          exact ⟨seen, x16, x17, x18, (for_of (ds := (p :: r).map tripD) rfl).trans ((loop_cons rfl hb).trans h)⟩
      obtain ⟨seen, x16, x17, x18, e12⟩ := hw
      rw [seq_next e12]
      exact last_eq h7 (by rw [List.length_map]; rfl) (fun p hp c hc => all_some (List.all_eq_true.mp (List.all_eq_true.mp l4 p hp) c hc)) (of_decide_eq_true l5) S x5 x6 x7 x8 x9 x10 x13 x14 x16 x17 x18
end M3
set_option maxRecDepth 100000
/-! law 3: all cuts of three to nine corners, and the plain law -/
namespace M3
open PySem PySem.SeqAt Ev L3
noncomputable def ndB : List Nat → Bool
  | [] => true
  | a :: r => r.all (fun b => !Nat.beq a b) && ndB r
theorem ndB_ok : ∀ {l : List Nat}, ndB l = true → l.Nodup := by
  intro l
  induction l with
  | nil => exact fun _ => List.nodup_nil
  | cons a r ih =>
    intro h
    obtain ⟨h1, h2⟩ := Bool.and_eq_true_iff.mp h
    refine List.nodup_cons.mpr ⟨fun m => ?_, ih h2⟩
    have := List.all_eq_true.mp h1 a m
    rw [Nat.beq_refl] at this
    cases this
noncomputable def chk (k : Nat) (P : List Nat) : Bool := ndB P && (sortOk P && (lineOk k P (linesT P) && colOk k P (cols P [(0, 0), (k, 2)])))
noncomputable def grp (k i : Nat) : List (List Nat) := (allP 8 0 (i + 1)).flatMap fun L => (allP 8 (0 + i + 1) (k - i - 1)).map fun R => code 0 (0 + i + 1) (0 + k) :: (L ++ R)
theorem t2 : (allP 9 0 2).all (chk 2) = true := by decide +kernel
theorem t3 : (allP 9 0 3).all (chk 3) = true := by decide +kernel
theorem t4 : (allP 9 0 4).all (chk 4) = true := by decide +kernel
theorem t5 : (allP 9 0 5).all (chk 5) = true := by decide +kernel
theorem t6 : (allP 9 0 6).all (chk 6) = true := by decide +kernel
theorem t70 : (grp 7 0).all (chk 7) = true := by decide +kernel
theorem t71 : (grp 7 1).all (chk 7) = true := by decide +kernel
theorem t72 : (grp 7 2).all (chk 7) = true := by decide +kernel
theorem t73 : (grp 7 3).all (chk 7) = true := by decide +kernel
theorem t74 : (grp 7 4).all (chk 7) = true := by decide +kernel
theorem t75 : (grp 7 5).all (chk 7) = true := by decide +kernel
theorem t80 : (grp 8 0).all (chk 8) = true := by decide +kernel
theorem t81 : (grp 8 1).all (chk 8) = true := by decide +kernel
theorem t82 : (grp 8 2).all (chk 8) = true := by decide +kernel
theorem t83 : (grp 8 3).all (chk 8) = true := by decide +kernel
theorem t84 : (grp 8 4).all (chk 8) = true := by decide +kernel
theorem t85 : (grp 8 5).all (chk 8) = true := by decide +kernel
theorem t86 : (grp 8 6).all (chk 8) = true := by decide +kernel
theorem g7 : ∀ i ∈ [0, 1, 2, 3, 4, 5], (grp 7 i).all (chk 7) = true := List.forall_mem_cons.mpr ⟨t70, List.forall_mem_cons.mpr ⟨t71, List.forall_mem_cons.mpr ⟨t72, List.forall_mem_cons.mpr ⟨t73, List.forall_mem_cons.mpr ⟨t74, List.forall_mem_cons.mpr ⟨t75, fun _ h => nomatch h⟩⟩⟩⟩⟩⟩
theorem g8 : ∀ i ∈ [0, 1, 2, 3, 4, 5, 6], (grp 8 i).all (chk 8) = true := List.forall_mem_cons.mpr ⟨t80, List.forall_mem_cons.mpr ⟨t81, List.forall_mem_cons.mpr ⟨t82, List.forall_mem_cons.mpr ⟨t83, List.forall_mem_cons.mpr ⟨t84, List.forall_mem_cons.mpr ⟨t85, List.forall_mem_cons.mpr ⟨t86, fun _ h => nomatch h⟩⟩⟩⟩⟩⟩⟩
theorem of_grp {k : Nat} (h2 : ¬ k < 2) {l : List Nat} (hl : List.range (k - 1) = l) (h : ∀ i ∈ l, (grp k i).all (chk k) = true) : (allP 9 0 k).all (chk k) = true := List.all_eq_true.mpr fun P hP => by
  unfold allP at hP
  rw [if_neg h2] at hP
  obtain ⟨i, hi, hP⟩ := List.mem_flatMap.mp hP
  exact List.all_eq_true.mp (h i (hl ▸ hi)) P hP
theorem all_ok : ∀ r ∈ List.range 7, (allP 9 0 (r + 1 + 1)).all (chk (r + 1 + 1)) = true := by
  show ∀ r ∈ [0, 1, 2, 3, 4, 5, 6], _
  exact List.forall_mem_cons.mpr ⟨t2, List.forall_mem_cons.mpr ⟨t3, List.forall_mem_cons.mpr ⟨t4, List.forall_mem_cons.mpr ⟨t5, List.forall_mem_cons.mpr ⟨t6, List.forall_mem_cons.mpr ⟨of_grp (by decide) rfl g7, List.forall_mem_cons.mpr ⟨of_grp (by decide) rfl g8, fun _ h => nomatch h⟩⟩⟩⟩⟩⟩⟩
theorem intsD_of (is : List Int) : intsD (is.map .int) = some is := by
  induction is with
  | nil => rfl
  | cons i r ih => simp only [List.map_cons, intsD, ih]
theorem plain (is : List Int) (h63 : is.length ≤ 63) : resT (F_law (stOf [(false, .list (is.map .int))] 19)) = true := by
  have f0 : 0 ≤ is.sum.fmod 7 := Int.fmod_nonneg_of_pos _ (by decide)
  have f1 : is.sum.fmod 7 < 7 := Int.fmod_lt_of_pos _ (by decide)
  obtain ⟨r, hr⟩ := Int.eq_ofNat_of_zero_le f0
  have hr7 : r < 7 := by rw [hr] at f1; exact Int.ofNat_lt.mp f1
  have e0 : c0 (stOf [(false, .list (is.map .int))] 19) = some (.next, (stOf [(false, .list (is.map .int))] 19).set 1 (some (false, natD (r + 2 + 1)))) := by
    have h1 : Ev.callC sumG [bC 0] (stOf [(false, .list (is.map .int))] 19) = some (.int is.sum) := by
      have e : Ev.callC sumG [bC 0] (stOf [(false, .list (is.map .int))] 19) = (match intsD (is.map .int) with | some l => some (PyData.int l.sum) | none => none) := rfl
      rw [e, intsD_of]
    refine set_of ((op_of rfl ((op_of h1 rfl).trans (bin_mod (by decide)))).trans ?_)
    rw [hr]
    show some (PyData.int (3 + (r : Int))) = _
    rw [show (3 + (r : Int)) = ((r + 2 + 1 : Nat) : Int) by omega]
  obtain ⟨P, hP, hl, r2, _, hg⟩ := g_parts 9 0 (r + 1) (is.take 8 ++ List.replicate 9 0) (by omega) (by omega) (by rw [List.length_append, List.length_replicate]; omega) (by rw [List.length_append, List.length_replicate, List.length_take]; omega)
  have hc := List.all_eq_true.mp (all_ok r (List.mem_range.mpr hr7)) P hP
  obtain ⟨a1, hc⟩ := Bool.and_eq_true_iff.mp hc
  obtain ⟨a2, hc⟩ := Bool.and_eq_true_iff.mp hc
  obtain ⟨a3, a4⟩ := Bool.and_eq_true_iff.mp hc
  obtain ⟨σ, hrest⟩ := rest_eq (k := r + 1 + 1) (by omega) (by omega) (congrArg (· + 1) hl) (ndB_ok a1) a2 a3 a4 (.list (is.map .int))
  have e1 : c1 ((stOf [(false, .list (is.map .int))] 19).set 1 (some (false, natD (r + 2 + 1)))) = some (.next, s2 (.list (is.map .int)) (r + 2) P) := by
    have t : takeC (bC 0) 8 ((stOf [(false, .list (is.map .int))] 19).set 1 (some (false, natD (r + 2 + 1)))) = some (.list ((is.take 8).map .int)) := by
      have e : takeC (bC 0) 8 ((stOf [(false, .list (is.map .int))] 19).set 1 (some (false, natD (r + 2 + 1)))) = if okLen (is.map PyData.int) then some (.list ((is.map PyData.int).take 8)) else none := rfl
      rw [e, show okLen (is.map PyData.int) = true from decide_eq_true (by rw [List.length_map]; omega), if_pos rfl, List.map_take]
    have n : opC .Add (takeC (bC 0) 8) (repC (lstC [(cC (.int 0))]) 9) ((stOf [(false, .list (is.map .int))] 19).set 1 (some (false, natD (r + 2 + 1)))) = some (numsD (is.take 8 ++ List.replicate 9 0)) := by
      refine (op_of (b := .list ((List.replicate 9 (0 : Int)).map .int)) t rfl).trans ((bin_add ?_).trans ?_)
      · rw [List.length_map, List.length_map, List.length_replicate, List.length_take]; omega
      · unfold numsD; rw [List.map_append]
    rw [Nat.zero_add] at hg
    exact (set_of (a := partsD P) ((sub_of (a := .tuple [partsD P, numsD r2]) ((call_of (as_cons rfl (as_cons (many1 rfl) (as_cons n rfl)))).trans hg) rfl).trans rfl)).trans rfl
  have key : F_law (stOf [(false, .list (is.map .int))] 19) = some (.ret (.bool true), σ) := by
    rw [F_law_eq, seq_next e0, seq_next e1]
    exact hrest
  rw [key]; rfl
end M3
set_option maxRecDepth 100000
/-! the objects that the head is asked for -/
namespace H3
open PySem PySem.W
noncomputable def K (P : Params) : Frag := [(3, { cls := PySem.Value.type "dict", data := PySem.Data.dict #[{ hash := PySem.PyData.keyHash P (PySem.Str.ofString "__name__"), key := PySem.Value.str (PySem.Str.ofString "__name__") 165, val := PySem.Value.str (PySem.Str.ofString "law_gl0003_03") 238 }, { hash := PySem.PyData.keyHash P (PySem.Str.ofString "__doc__"), key := PySem.Value.str (PySem.Str.ofString "__doc__") 166, val := PySem.Value.none }, { hash := PySem.PyData.keyHash P (PySem.Str.ofString "__package__"), key := PySem.Value.str (PySem.Str.ofString "__package__") 167, val := PySem.Value.none }, { hash := PySem.PyData.keyHash P (PySem.Str.ofString "__loader__"), key := PySem.Value.str (PySem.Str.ofString "__loader__") 168, val := PySem.Value.builtin "__main__.__loader__#opaque" }, { hash := PySem.PyData.keyHash P (PySem.Str.ofString "__spec__"), key := PySem.Value.str (PySem.Str.ofString "__spec__") 169, val := PySem.Value.none }, { hash := PySem.PyData.keyHash P (PySem.Str.ofString "__annotations__"), key := PySem.Value.str (PySem.Str.ofString "__annotations__") 170, val := PySem.Value.ref 6 }, { hash := PySem.PyData.keyHash P (PySem.Str.ofString "__builtins__"), key := PySem.Value.str (PySem.Str.ofString "__builtins__") 171, val := PySem.Value.ref 4 }, { hash := PySem.PyData.keyHash P (PySem.Str.ofString "__file__"), key := PySem.Value.str (PySem.Str.ofString "__file__") 173, val := PySem.Value.str (PySem.Str.ofString "/claim/cut.py") 172 }, { hash := PySem.PyData.keyHash P (PySem.Str.ofString "__cached__"), key := PySem.Value.str (PySem.Str.ofString "__cached__") 174, val := PySem.Value.none }, { hash := PySem.PyData.keyHash P (PySem.Str.ofString "add_callers"), key := PySem.Value.str (PySem.Str.ofString "add_callers") 199, val := PySem.Value.ref 21 }, { hash := PySem.PyData.keyHash P (PySem.Str.ofString "count_calls"), key := PySem.Value.str (PySem.Str.ofString "count_calls") 208, val := PySem.Value.ref 28 }, { hash := PySem.PyData.keyHash P (PySem.Str.ofString "insort_left"), key := PySem.Value.str (PySem.Str.ofString "insort_left") 223, val := PySem.Value.ref 37 }, { hash := PySem.PyData.keyHash P (PySem.Str.ofString "bisect_left"), key := PySem.Value.str (PySem.Str.ofString "bisect_left") 237, val := PySem.Value.ref 46 }, { hash := PySem.PyData.keyHash P (PySem.Str.ofString "_law_parts"), key := PySem.Value.str (PySem.Str.ofString "_law_parts") 252, val := PySem.Value.ref 53 }, { hash := PySem.PyData.keyHash P (PySem.Str.ofString "_law_colours"), key := PySem.Value.str (PySem.Str.ofString "_law_colours") 264, val := PySem.Value.ref 60 }, { hash := PySem.PyData.keyHash P (PySem.Str.ofString "law"), key := PySem.Value.str (PySem.Str.ofString "law") 270, val := PySem.Value.ref 65 }] 16 }),
  (20, { cls := PySem.Value.type "code", data := PySem.Data.fields #[PySem.Value.str (PySem.Str.ofString "add_callers") 189, PySem.Value.str (PySem.Str.ofString "add_callers") 190, PySem.Value.str (PySem.Str.ofString "/claim/cut.py") 191, PySem.Value.int 2 0, PySem.Value.int 2 0, PySem.Value.int 0 0, PySem.Value.int 0 0, PySem.Value.int 3 0, PySem.Value.ref 15, PySem.Value.bool Bool.true, PySem.Value.int 181 0, PySem.Value.ref 16, PySem.Value.none, PySem.Value.ref 17, PySem.Value.ref 18, PySem.Value.ref 19, PySem.Value.int 197 0, PySem.Value.int 2 0, PySem.Value.str (PySem.Str.ofString "/claim/cut.py") 198] }),
  (21, { cls := PySem.Value.type "function", data := PySem.Data.func { name := PySem.Str.ofString "add_callers", qualname := PySem.Str.ofString "add_callers", params := Ev.paramS (L3.D 1), body := PySem.FuncBody.stmts (Ev.bodyS (L3.D 1)), scope := Ev.scopeS (L3.D 1), globals := 3, closure := [], defaults := PySem.Value.none, kwdefaults := PySem.Value.none, pyModule := PySem.Value.str (PySem.Str.ofString "cpy313.pstats") 187, code := PySem.Value.ref 20 } }),
  (27, { cls := PySem.Value.type "code", data := PySem.Data.fields #[PySem.Value.str (PySem.Str.ofString "count_calls") 200, PySem.Value.str (PySem.Str.ofString "count_calls") 201, PySem.Value.str (PySem.Str.ofString "/claim/cut.py") 202, PySem.Value.int 15 0, PySem.Value.int 1 0, PySem.Value.int 0 0, PySem.Value.int 0 0, PySem.Value.int 3 0, PySem.Value.ref 22, PySem.Value.bool Bool.true, PySem.Value.int 181 0, PySem.Value.ref 23, PySem.Value.none, PySem.Value.ref 24, PySem.Value.ref 25, PySem.Value.ref 26, PySem.Value.int 206 0, PySem.Value.int 15 0, PySem.Value.str (PySem.Str.ofString "/claim/cut.py") 207] }),
  (28, { cls := PySem.Value.type "function", data := PySem.Data.func { name := PySem.Str.ofString "count_calls", qualname := PySem.Str.ofString "count_calls", params := Ev.paramS (L3.D 2), body := PySem.FuncBody.stmts (Ev.bodyS (L3.D 2)), scope := Ev.scopeS (L3.D 2), globals := 3, closure := [], defaults := PySem.Value.none, kwdefaults := PySem.Value.none, pyModule := PySem.Value.str (PySem.Str.ofString "cpy313.pstats") 187, code := PySem.Value.ref 27 } }),
  (29, { cls := PySem.Value.type "tuple", data := PySem.Data.seq #[PySem.Value.int 0 211, PySem.Value.none] }),
  (30, { cls := PySem.Value.type "dict", data := PySem.Data.dict #[{ hash := PySem.PyData.keyHash P (PySem.Str.ofString "key"), key := PySem.Value.str (PySem.Str.ofString "key") 212, val := PySem.Value.none }] 1 }),
  (36, { cls := PySem.Value.type "code", data := PySem.Data.fields #[PySem.Value.str (PySem.Str.ofString "insort_left") 213, PySem.Value.str (PySem.Str.ofString "insort_left") 214, PySem.Value.str (PySem.Str.ofString "/claim/cut.py") 215, PySem.Value.int 21 0, PySem.Value.int 4 0, PySem.Value.int 0 0, PySem.Value.int 1 0, PySem.Value.int 3 0, PySem.Value.ref 31, PySem.Value.bool Bool.true, PySem.Value.int 181 0, PySem.Value.ref 32, PySem.Value.none, PySem.Value.ref 33, PySem.Value.ref 34, PySem.Value.ref 35, PySem.Value.int 221 0, PySem.Value.int 21 0, PySem.Value.str (PySem.Str.ofString "/claim/cut.py") 222] }),
  (37, { cls := PySem.Value.type "function", data := PySem.Data.func { name := PySem.Str.ofString "insort_left", qualname := PySem.Str.ofString "insort_left", params := Ev.paramS (L3.D 4), body := PySem.FuncBody.stmts (Ev.bodyS (L3.D 4)), scope := Ev.scopeS (L3.D 4), globals := 3, closure := [], defaults := PySem.Value.ref 29, kwdefaults := PySem.Value.ref 30, pyModule := PySem.Value.str (PySem.Str.ofString "cpy313.bisect") 209, code := PySem.Value.ref 36 } }),
  (38, { cls := PySem.Value.type "tuple", data := PySem.Data.seq #[PySem.Value.int 0 224, PySem.Value.none] }),
  (39, { cls := PySem.Value.type "dict", data := PySem.Data.dict #[{ hash := PySem.PyData.keyHash P (PySem.Str.ofString "key"), key := PySem.Value.str (PySem.Str.ofString "key") 225, val := PySem.Value.none }] 1 }),
  (45, { cls := PySem.Value.type "code", data := PySem.Data.fields #[PySem.Value.str (PySem.Str.ofString "bisect_left") 226, PySem.Value.str (PySem.Str.ofString "bisect_left") 227, PySem.Value.str (PySem.Str.ofString "/claim/cut.py") 228, PySem.Value.int 27 0, PySem.Value.int 4 0, PySem.Value.int 0 0, PySem.Value.int 1 0, PySem.Value.int 3 0, PySem.Value.ref 40, PySem.Value.bool Bool.true, PySem.Value.int 181 0, PySem.Value.ref 41, PySem.Value.none, PySem.Value.ref 42, PySem.Value.ref 43, PySem.Value.ref 44, PySem.Value.int 235 0, PySem.Value.int 27 0, PySem.Value.str (PySem.Str.ofString "/claim/cut.py") 236] }),
  (46, { cls := PySem.Value.type "function", data := PySem.Data.func { name := PySem.Str.ofString "bisect_left", qualname := PySem.Str.ofString "bisect_left", params := Ev.paramS (L3.D 5), body := PySem.FuncBody.stmts (Ev.bodyS (L3.D 5)), scope := Ev.scopeS (L3.D 5), globals := 3, closure := [], defaults := PySem.Value.ref 38, kwdefaults := PySem.Value.ref 39, pyModule := PySem.Value.str (PySem.Str.ofString "cpy313.bisect") 209, code := PySem.Value.ref 45 } }),
  (52, { cls := PySem.Value.type "code", data := PySem.Data.fields #[PySem.Value.str (PySem.Str.ofString "_law_parts") 240, PySem.Value.str (PySem.Str.ofString "_law_parts") 241, PySem.Value.str (PySem.Str.ofString "/claim/cut.py") 242, PySem.Value.int 48 0, PySem.Value.int 3 0, PySem.Value.int 0 0, PySem.Value.int 0 0, PySem.Value.int 3 0, PySem.Value.ref 47, PySem.Value.bool Bool.true, PySem.Value.int 181 0, PySem.Value.ref 48, PySem.Value.none, PySem.Value.ref 49, PySem.Value.ref 50, PySem.Value.ref 51, PySem.Value.int 250 0, PySem.Value.int 48 0, PySem.Value.str (PySem.Str.ofString "/claim/cut.py") 251] }),
  (53, { cls := PySem.Value.type "function", data := PySem.Data.func { name := PySem.Str.ofString "_law_parts", qualname := PySem.Str.ofString "_law_parts", params := Ev.paramS (L3.D 7), body := PySem.FuncBody.stmts (Ev.bodyS (L3.D 7)), scope := Ev.scopeS (L3.D 7), globals := 3, closure := [], defaults := PySem.Value.none, kwdefaults := PySem.Value.none, pyModule := PySem.Value.str (PySem.Str.ofString "law_gl0003_03") 238, code := PySem.Value.ref 52 } }),
  (59, { cls := PySem.Value.type "code", data := PySem.Data.fields #[PySem.Value.str (PySem.Str.ofString "_law_colours") 253, PySem.Value.str (PySem.Str.ofString "_law_colours") 254, PySem.Value.str (PySem.Str.ofString "/claim/cut.py") 255, PySem.Value.int 55 0, PySem.Value.int 2 0, PySem.Value.int 0 0, PySem.Value.int 0 0, PySem.Value.int 3 0, PySem.Value.ref 54, PySem.Value.bool Bool.true, PySem.Value.int 181 0, PySem.Value.ref 55, PySem.Value.none, PySem.Value.ref 56, PySem.Value.ref 57, PySem.Value.ref 58, PySem.Value.int 262 0, PySem.Value.int 55 0, PySem.Value.str (PySem.Str.ofString "/claim/cut.py") 263] }),
  (60, { cls := PySem.Value.type "function", data := PySem.Data.func { name := PySem.Str.ofString "_law_colours", qualname := PySem.Str.ofString "_law_colours", params := Ev.paramS (L3.D 8), body := PySem.FuncBody.stmts (Ev.bodyS (L3.D 8)), scope := Ev.scopeS (L3.D 8), globals := 3, closure := [], defaults := PySem.Value.none, kwdefaults := PySem.Value.none, pyModule := PySem.Value.str (PySem.Str.ofString "law_gl0003_03") 238, code := PySem.Value.ref 59 } }),
  (64, { cls := PySem.Value.type "code", data := PySem.Data.fields #[PySem.Value.str (PySem.Str.ofString "law") 265, PySem.Value.str (PySem.Str.ofString "law") 266, PySem.Value.str (PySem.Str.ofString "/claim/cut.py") 267, PySem.Value.int 60 0, PySem.Value.int 1 0, PySem.Value.int 0 0, PySem.Value.int 0 0, PySem.Value.int 3 0, PySem.Value.ref 61, PySem.Value.bool Bool.true, PySem.Value.int 181 0, PySem.Value.ref 62, PySem.Value.none, PySem.Value.none, PySem.Value.none, PySem.Value.ref 63, PySem.Value.int 268 0, PySem.Value.int 60 0, PySem.Value.str (PySem.Str.ofString "/claim/cut.py") 269] }),
  (65, { cls := PySem.Value.type "function", data := PySem.Data.func { name := PySem.Str.ofString "law", qualname := PySem.Str.ofString "law", params := Ev.paramS (L3.D 9), body := PySem.FuncBody.stmts (Ev.bodyS (L3.D 9)), scope := Ev.scopeS (L3.D 9), globals := 3, closure := [], defaults := PySem.Value.none, kwdefaults := PySem.Value.none, pyModule := PySem.Value.str (PySem.Str.ofString "law_gl0003_03") 238, code := PySem.Value.ref 64 } })]
end H3
open PySem PySem.W PyProof.Rows
set_option maxRecDepth 100000 in
set_option maxHeartbeats 8000000 in
theorem PySem.Challenge.cw_gl0003_03_holds : PySem.Challenge.rw_gl0003_03.Holds := by
  w_on; o_law; o_head (kHook H3.K [3, 20, 21, 27, 28, 29, 30, 36, 37, 38, 39, 45, 46, 52, 53, 59, 60, 64, 65] (fun _ => by kernel_rfl)); (case hw => w_witness2)
  intro w s₀ s₁ mg mb G Y fa o pm cd doc dV kV ho hd hcd hD hmg hg args vals as hpre hlay hrd hwl hlo
  have KX := kIn_of Y
  refine Ground.open G ?_
  intro T B D TE TW
  wrow_args hpre hlay hrd hwl hlo
  all_goals (first | refine callC_kw (enter_call ?_) | refine enter_call ?_ | refine callC_kw (enter_callW ?_) | refine enter_callW ?_)
  all_goals (w_top on)
  all_goals try refine codeAny_mono ?_ (fun _ _ g => GoodW.toG g)
  rename_i is hs hlay0 hL1 hr1 hl2 wa wb l vs wc hL ra w1 r0 hI hr hc1 hc2
  have hlen : is.length ≤ 63 := by
    omega
  clear hcd hD hd ho hL G Y B D TE TW hI ra r0
  have hfa : mg "law" = some (.ref fa) := hmg
  clear hmg
  obtain ⟨vs', hl, hI⟩ := Ev.well_ints w1
  · skip
    have ok : Ev.Cx.Ok { prog := PySem.Challenge.rw_gl0003_03.row.prog, w := w, h₀ := s₁.heap, H := Ev.hashK w, names := [], mg := mg, mb := mb, pin := none } := ⟨T.g, T.b, T.nolimit, fun _ => rfl⟩
    have bi : ∀ {x : PySem.Str} {v : Value}, x ≠ "__name__" → Ev.globK _ x = some none → bootBuiltins x = some v → Ev.Cx.Bi { prog := PySem.Challenge.rw_gl0003_03.row.prog, w := w, h₀ := s₁.heap, H := Ev.hashK w, names := [], mg := mg, mb := mb, pin := none } x v := fun hx e1 e2 => ⟨Ev.glob_of KX T.g e1, (T.builtins _ hx).trans e2⟩
    have W : L3.Wd { prog := PySem.Challenge.rw_gl0003_03.row.prog, w := w, h₀ := s₁.heap, H := Ev.hashK w, names := [], mg := mg, mb := mb, pin := none } := {
      ok := ok
      b_len := bi (by decide) rfl (by decide +kernel)
      b_sum := bi (by decide) rfl (by decide +kernel)
      b_min := bi (by decide) rfl (by decide +kernel)
      b_sorted := bi (by decide) rfl (by decide +kernel)
      b_isinstance := bi (by decide) rfl (by decide +kernel)
      b_tuple := bi (by decide) rfl (by decide +kernel)
      b_range := bi (by decide) rfl (by decide +kernel)
      b_dict := bi (by decide) rfl (by decide +kernel)
      b_list := bi (by decide) rfl (by decide +kernel)
      b_zip := bi (by decide) rfl (by decide +kernel)
      a_add_callers := _
      pm_add_callers := _
      cd_add_callers := _
      doc_add_callers := _
      g_add_callers := Ev.glob_of KX T.g rfl
      d_add_callers := Ev.DefAt.ofK KX rfl rfl rfl rfl rfl rfl rfl rfl
      a_count_calls := _
      pm_count_calls := _
      cd_count_calls := _
      doc_count_calls := _
      g_count_calls := Ev.glob_of KX T.g rfl
      d_count_calls := Ev.DefAt.ofK KX rfl rfl rfl rfl rfl rfl rfl rfl
      a_insort_left := _
      fd_insort_left := _
      g_insort_left := Ev.glob_of KX T.g rfl
      d_insort_left := Ev.DefAt.ofK KX rfl rfl rfl rfl rfl rfl rfl rfl
      s_insort_left := rfl
      i_insort_left := { tk := _, b2 := fun hk v w => Ev.binds_of KX hk rfl rfl rfl (by with_unfolding_all rfl) (by rfl) (by with_unfolding_all rfl) (by with_unfolding_all rfl) (by with_unfolding_all rfl), b4 := fun hk v w u z => Ev.binds_of KX hk rfl rfl rfl (by with_unfolding_all rfl) (by rfl) (by with_unfolding_all rfl) (by with_unfolding_all rfl) (by with_unfolding_all rfl) }
      a_bisect_left := _
      fd_bisect_left := _
      g_bisect_left := Ev.glob_of KX T.g rfl
      d_bisect_left := Ev.DefAt.ofK KX rfl rfl rfl rfl rfl rfl rfl rfl
      s_bisect_left := rfl
      i_bisect_left := { tk := _, b2 := fun hk v w => Ev.binds_of KX hk rfl rfl rfl (by with_unfolding_all rfl) (by rfl) (by with_unfolding_all rfl) (by with_unfolding_all rfl) (by with_unfolding_all rfl), b4 := fun hk v w u z => Ev.binds_of KX hk rfl rfl rfl (by with_unfolding_all rfl) (by rfl) (by with_unfolding_all rfl) (by with_unfolding_all rfl) (by with_unfolding_all rfl) }
      a__law_parts := _
      pm__law_parts := _
      cd__law_parts := _
      doc__law_parts := _
      g__law_parts := Ev.glob_of KX T.g rfl
      d__law_parts := Ev.DefAt.ofK KX rfl rfl rfl rfl rfl rfl rfl rfl
      a__law_colours := _
      pm__law_colours := _
      cd__law_colours := _
      doc__law_colours := _
      g__law_colours := Ev.glob_of KX T.g rfl
      d__law_colours := Ev.DefAt.ofK KX rfl rfl rfl rfl rfl rfl rfl rfl
    }
    have hlaw : mg "law" = some (.ref _) := Ev.glob_of KX T.g rfl
    rw [hfa] at hlaw
    cases hlaw
    refine codeAny_mono (Ev.law_main (n := 20) (names := L3.N_law) (rest := L3.N_law.drop 1) (x := "script") (f := L3.F_law) (k := 19) (Ev.DefAt.ofK KX rfl rfl rfl rfl rfl rfl rfl rfl) ok rfl (fun v => BindsTo.of_eq rfl) rfl rfl rfl (L3.S_law W) ⟨by decide, by decide, rfl⟩ hl hI (M3.plain is hlen)) fun r s' q => ?_
    exact ⟨.inl ⟨.bool true, .bool true, [], q.1, fun _ => rfl, .bool true, by kernel_rfl, fun _ => ⟨List.nodup_nil, fun _ h => nomatch h⟩⟩, q.2.1, q.2.2.1, q.2.2.2.trans hg⟩
