import PyProof.Rows.All
import Wide.All
import OpenK.AllK
import Wide.FinOn
import PySem.Challenge.RW_gl0003_02
set_option Elab.async false
set_option genInjectivity false
set_option genSizeOf false
set_option maxRecDepth 10000
namespace Ev
open PySem PySem.W PySem.Spec PySem.Calls PyProof.Rows
noncomputable abbrev Fz := Addr → Option Obj
noncomputable def Sat (F : Fz) (h : Heap) : Prop := ∀ a o, F a = some o → h.get? a = some o
noncomputable def Sub (F F' : Fz) : Prop := ∀ a o, F a = some o → F' a = some o
theorem Sub.refl (F : Fz) : Sub F F := fun _ _ h => h
theorem Sub.trans {F G K : Fz} (x : Sub F G) (y : Sub G K) : Sub F K := fun a o h => y a o (x a o h)
mutual
noncomputable def keyOk : PyData → Bool
  | .int _ => true
  | .str x => PyData.strOk x
  | .tuple ds => keyOks ds
  | _ => false
noncomputable def keyOks : List PyData → Bool
  | [] => true
  | d :: ds => keyOk d && keyOks ds
end
noncomputable def kindK : PyData → Option Bool
  | .int _ => some true
  | .tuple _ => some false
  | _ => none
mutual
inductive R (H : PyData → Int) (F : Fz) : Value → PyData → Prop
  | none : R H F .none .none
  | bool (b) : R H F (.bool b) (.bool b)
  | int (i t) : R H F (.int i t) (.int i)
  | str (x t) : PyData.strOk x = true → R H F (.str x t) (.str x)
  | tuple {a vs n ds} : F a = some (seqObj "tuple" vs n) → RL H F vs.toList ds → R H F (.ref a) (.tuple ds)
  | list {a vs n ds} : F a = some (seqObj "list" vs n) → RL H F vs.toList ds → R H F (.ref a) (.list ds)
  | dict {a o es n kvs kd} : (a == sysModules) = false → F a = some o → o.ExactDict → o.data = .dict es n → RD H F kd es.toList kvs → (kvs.map (·.1)).Nodup → R H F (.ref a) (.dict kvs)
inductive RL (H : PyData → Int) (F : Fz) : List Value → List PyData → Prop
  | nil : RL H F [] []
  | cons {v vs d ds} : R H F v d → RL H F vs ds → RL H F (v :: vs) (d :: ds)
inductive RD (H : PyData → Int) (F : Fz) : Bool → List DictEntry → List (PyData × PyData) → Prop
  | nil {kd} : RD H F kd [] []
  | cons {kd e es k d kvs} : e.hash = H k → kindK k = some kd → keyOk k = true → k.depth ≤ 6 → R H F e.key k → R H F e.val d → RD H F kd es kvs → RD H F kd (e :: es) ((k, d) :: kvs)
end
variable {H : PyData → Int}
theorem RL.ind {F : Fz} {P : List Value → List PyData → Prop} (n : P [] []) (c : ∀ {v vs d ds}, R H F v d → RL H F vs ds → P vs ds → P (v :: vs) (d :: ds)) : ∀ {vs ds}, RL H F vs ds → P vs ds := by
  intro vs
  induction vs with
  | nil => intro ds h; cases h; exact n
  | cons v vs ih => intro ds h; cases h with | cons a b => exact c a b (ih b)
theorem RD.ind {F : Fz} {kd : Bool} {P : List DictEntry → List (PyData × PyData) → Prop} (n : P [] []) (c : ∀ {e es k d kvs}, e.hash = H k → kindK k = some kd → keyOk k = true → k.depth ≤ 6 → R H F e.key k → R H F e.val d → RD H F kd es kvs → P es kvs → P (e :: es) ((k, d) :: kvs)) : ∀ {es kvs}, RD H F kd es kvs → P es kvs := by
  intro es
  induction es with
  | nil => intro kvs h; cases h; exact n
  | cons e es ih => intro kvs h; cases h with | cons a b c' d x y r => exact c a b c' d x y r (ih r)
theorem R.mono {F G : Fz} (s : Sub F G) {v d} (h : R H F v d) : R H G v d :=
  R.rec (motive_1 := fun v d _ => R H G v d) (motive_2 := fun vs ds _ => RL H G vs ds) (motive_3 := fun kd es kvs _ => RD H G kd es kvs)
    .none .bool .int .str (fun ho _ q => .tuple (s _ _ ho) q) (fun ho _ q => .list (s _ _ ho) q) (fun hs ho hc hd _ hn q => .dict hs (s _ _ ho) hc hd q hn)
    .nil (fun _ _ a b => .cons a b) .nil (fun a b c d _ _ _ x y r => .cons a b c d x y r) h
theorem RL.mono {F G : Fz} (s : Sub F G) {v d} (h : RL H F v d) : RL H G v d := RL.ind (P := fun v d => RL H G v d) .nil (fun x _ r => .cons (x.mono s) r) h
theorem RD.mono {F G : Fz} (s : Sub F G) {kd v d} (h : RD H F kd v d) : RD H G kd v d := RD.ind (P := fun v d => RD H G kd v d) .nil (fun a b c d x y _ r => .cons a b c d (x.mono s) (y.mono s) r) h
theorem R.reads {F : Fz} {h : Heap} (s : Sat F h) {v d} (r : R H F v d) : ∃ as, Reads h v d as :=
  R.rec (motive_1 := fun v d _ => ∃ as, Reads h v d as) (motive_2 := fun vs ds _ => ∃ as, ReadsAll h vs ds as) (motive_3 := fun _ es kvs _ => ∃ as bs, ReadsAll h (es.map fun e : DictEntry => e.key) (kvs.map fun x : PyData × PyData => x.1) as ∧ ReadsAll h (es.map fun e : DictEntry => e.val) (kvs.map fun x : PyData × PyData => x.2) bs)
    ⟨_, .none⟩ (fun b => ⟨_, .bool b⟩) (fun i t => ⟨_, .int i t⟩) (fun x t _ => ⟨_, .str x t⟩) (fun ho _ q => q.elim fun _ q => ⟨_, .tuple (s _ _ ho) rfl rfl q⟩) (fun ho _ q => q.elim fun _ q => ⟨_, .list (s _ _ ho) rfl rfl q⟩)
    (fun _ ho hc hd _ _ q => q.elim fun _ q => q.elim fun _ q => ⟨_, .dict (s _ _ ho) hc.1 hd q.1 q.2⟩) ⟨_, .nil⟩ (fun _ _ a b => a.elim fun _ a => b.elim fun _ b => ⟨_, .cons a b⟩) ⟨_, _, .nil, .nil⟩
    (fun _ _ _ _ _ _ _ a b c => a.elim fun _ a => b.elim fun _ b => c.elim fun _ c => c.elim fun _ c => ⟨_, _, .cons a c.1, .cons b c.2⟩) r
theorem RL.reads {F : Fz} {h : Heap} (s : Sat F h) {v d} (r : RL H F v d) : ∃ as, ReadsAll h v d as := RL.ind (P := fun v d => ∃ as, ReadsAll h v d as) ⟨_, .nil⟩ (fun x _ b => (x.reads s).elim fun _ a => b.elim fun _ b => ⟨_, .cons a b⟩) r
theorem RD.reads {F : Fz} {h : Heap} (s : Sat F h) {kd es kvs} (r : RD H F kd es kvs) : ∃ as bs, ReadsAll h (es.map (·.key)) (kvs.map (·.1)) as ∧ ReadsAll h (es.map (·.val)) (kvs.map (·.2)) bs :=
  RD.ind (P := fun es kvs => ∃ as bs, ReadsAll h (es.map fun e : DictEntry => e.key) (kvs.map fun x : PyData × PyData => x.1) as ∧ ReadsAll h (es.map fun e : DictEntry => e.val) (kvs.map fun x : PyData × PyData => x.2) bs) ⟨_, _, .nil, .nil⟩ (fun _ _ _ _ x y _ c => (x.reads s).elim fun _ a => (y.reads s).elim fun _ b => c.elim fun _ c => c.elim fun _ c => ⟨_, _, .cons a c.1, .cons b c.2⟩) r
theorem RL.length {F : Fz} {vs ds} (r : RL H F vs ds) : vs.length = ds.length := RL.ind (P := fun vs ds => vs.length = ds.length) rfl (fun _ _ e => congrArg (· + 1) e) r
theorem RL.append {F : Fz} {vs ds ws es} (r : RL H F vs ds) (y : RL H F ws es) : RL H F (vs ++ ws) (ds ++ es) := RL.ind (P := fun vs ds => RL H F (vs ++ ws) (ds ++ es)) y (fun x _ q => .cons x q) r
theorem RL.get {F : Fz} {vs : List Value} {ds : List PyData} (r : RL H F vs ds) : ∀ {i : Nat} {d : PyData}, ds[i]? = some d → ∃ v, vs[i]? = some v ∧ R H F v d := fun {i d} e =>
  RL.ind (P := fun vs ds => ∀ (i : Nat) (d : PyData), ds[i]? = some d → ∃ v, vs[i]? = some v ∧ R H F v d) (fun _ _ e => nomatch e) (fun h _ ih i _ e => by
    cases i with
    | zero => cases e; exact ⟨_, rfl, h⟩
    | succ i => exact ih i _ e) r i d e
theorem RL.one {F : Fz} {v d} (h : R H F v d) : RL H F [v] [d] := .cons h .nil
theorem RL.take {F : Fz} {vs ds} (r : RL H F vs ds) : ∀ n, RL H F (vs.take n) (ds.take n) := RL.ind (P := fun vs ds => ∀ n, RL H F (vs.take n) (ds.take n)) (fun n => by cases n <;> exact .nil) (fun h _ q n => by
  cases n with
  | zero => exact .nil
  | succ n => exact .cons h (q n)) r
theorem RL.drop {F : Fz} {vs ds} (r : RL H F vs ds) : ∀ n, RL H F (vs.drop n) (ds.drop n) := RL.ind (P := fun vs ds => ∀ n, RL H F (vs.drop n) (ds.drop n)) (fun n => by cases n <;> exact .nil) (fun h r q n => by
  cases n with
  | zero => exact .cons h r
  | succ n => exact q n) r
theorem RL.set {F : Fz} {vs ds} (r : RL H F vs ds) : ∀ {v d} (i), R H F v d → RL H F (vs.set i v) (ds.set i d) := fun {v d} i y => RL.ind (P := fun vs ds => ∀ i, RL H F (vs.set i v) (ds.set i d)) (fun _ => .nil) (fun h r q i => by
  cases i with
  | zero => exact .cons y r
  | succ i => exact .cons h (q i)) r i
structure Grow (F : Fz) (s : Shared) (F' : Fz) (s' : Shared) : Prop where
  keep : ∀ b o, s.heap.get? b = some o → s'.heap.get? b = some o
  sub : Sub F F'
  fresh : ∀ a o, F' a = some o → F a = some o ∨ s.heap.get? a = none
  sat : Sat F' s'.heap
  gens : s'.gens = s.gens
  drawn : s'.drawn = s.drawn
  os : s'.os = s.os
theorem Grow.refl {F : Fz} {s : Shared} (h : Sat F s.heap) : Grow F s F s := ⟨fun _ _ e => e, Sub.refl F, fun _ _ e => .inl e, h, rfl, rfl, rfl⟩
theorem Grow.tok {F : Fz} {s : Shared} (h : Sat F s.heap) (t : Nat) : Grow F s F { s with toks := t } := ⟨fun _ _ e => e, Sub.refl F, fun _ _ e => .inl e, h, rfl, rfl, rfl⟩
theorem Grow.trans {F F' F'' : Fz} {s s' s'' : Shared} (x : Grow F s F' s') (y : Grow F' s' F'' s'') : Grow F s F'' s'' where
  keep := fun b o e => y.keep b o (x.keep b o e)
  sub := x.sub.trans y.sub
  fresh := fun a o e => by
    rcases y.fresh a o e with h | h
    · exact x.fresh a o h
    · right
      cases q : s.heap.get? a with
      | none => rfl
      | some o' => rw [x.keep a o' q] at h; cases h
  sat := y.sat
  gens := y.gens.trans x.gens
  drawn := y.drawn.trans x.drawn
  os := y.os.trans x.os
theorem Grow.ofKeep {F : Fz} {s s' : Shared} (h : Sat F s.heap) (k : ∀ b o, s.heap.get? b = some o → s'.heap.get? b = some o) (g : s'.gens = s.gens) (d : s'.drawn = s.drawn) (o : s'.os = s.os) : Grow F s F s' :=
  ⟨k, Sub.refl F, fun _ _ e => .inl e, fun a o e => k a o (h a o e), g, d, o⟩
noncomputable def put (F : Fz) (a : Addr) (o : Obj) : Fz := fun b => if b = a then some o else F b
theorem put_self (F : Fz) (a : Addr) (o : Obj) : put F a o a = some o := by simp [put]
theorem put_sub {F : Fz} {a : Addr} {o : Obj} (h : F a = none) : Sub F (put F a o) := fun b o' e => by
  unfold put; by_cases q : b = a
  · subst q; rw [h] at e; cases e
  · rw [if_neg q]; exact e
theorem sat_fresh {F : Fz} {h : Heap} (x : Sat F h) {a : Addr} (e : h.get? a = none) : F a = none := by
  cases q : F a with
  | none => rfl
  | some o => rw [x a o q] at e; cases e
theorem get_size (h : Heap) : h.get? h.objs.size = none := by
  cases q : h.get? h.objs.size with
  | none => rfl
  | some o => exact absurd (Heap.lt_size q) (Nat.lt_irrefl _)
theorem Grow.putAt {F : Fz} {s s' : Shared} (h : Sat F s.heap) (k : ∀ b o, s.heap.get? b = some o → s'.heap.get? b = some o) {a : Addr} {o : Obj} (e : s.heap.get? a = none) (e' : s'.heap.get? a = some o) (g : s'.gens = s.gens) (d : s'.drawn = s.drawn) (os : s'.os = s.os) :
    Grow F s (put F a o) s' := ⟨k, put_sub (sat_fresh h e), fun b o' q => by
    unfold put at q; by_cases z : b = a
    · subst z; exact .inr e
    · rw [if_neg z] at q; exact .inl q, fun b o' q => by
    unfold put at q; by_cases z : b = a
    · subst z; rw [if_pos rfl] at q; cases q; exact e'
    · rw [if_neg z] at q; exact k b o' (h b o' q), g, d, os⟩
theorem Grow.push {F : Fz} {s : Shared} (h : Sat F s.heap) (o : Obj) (hf : o.isFreed = false) (t : Nat := s.toks) : Grow F s (put F s.heap.objs.size o) { s with heap := s.heap.push o, toks := t } :=
  Grow.putAt h (fun _ _ e => Heap.get?_push_of_some _ e) (get_size _) (Heap.get?_push_size _ hf) rfl rfl rfl
noncomputable abbrev St := List (Option (Bool × PyData))
noncomputable def sget (σ : St) (i : Nat) : Option (Bool × PyData) := match σ[i]? with | some x => x | none => none
inductive Lk (env : Env) (h : Heap) (x : Str) (v : Value) : Prop
  | loc {m : Str → Option Value} : env.kindOf x = some .local → h.Ns env.locals m → m x = some v → Lk env h x v
  | cell {c : Addr} : env.kindOf x = some .cell → env.cells.lookup x = some c → h.IsCell c (some v) → Lk env h x v
  | free {c : Addr} : env.kindOf x = some .free → env.cells.lookup x = some c → h.IsCell c (some v) → Lk env h x v
theorem Lk.keeps {env : Env} {h h' : Heap} {x : Str} {v : Value} (k : ∀ b o, h.get? b = some o → h'.get? b = some o) : Lk env h x v → Lk env h' x v
  | .loc a b c => .loc a (b.keeps k) c
  | .cell a b c => .cell a b (c.keeps k)
  | .free a b c => .free a b (c.keeps k)
inductive Ow (H : PyData → Int) (F : Fz) (h : Heap) (a : Addr) : PyData → Prop
  | list {vs n ds} : h.get? a = some (seqObj "list" vs n) → RL H F vs.toList ds → Ow H F h a (.list ds)
  | dict {o es n kvs kd} : (a == sysModules) = false → h.get? a = some o → o.ExactDict → o.data = .dict es n → RD H F kd es.toList kvs → (kvs.map (·.1)).Nodup → Ow H F h a (.dict kvs)
theorem Ow.grow {F F' : Fz} {h h' : Heap} {a : Addr} {d : PyData} (s : Sub F F') (k : ∀ o, h.get? a = some o → h'.get? a = some o) : Ow H F h a d → Ow H F' h' a d
  | .list ho r => .list (k _ ho) (r.mono s)
  | .dict hs ho hc hd r hn => .dict hs (k _ ho) hc hd (r.mono s) hn
theorem Ow.there {F : Fz} {h : Heap} {a : Addr} {d : PyData} : Ow H F h a d → ∃ o, h.get? a = some o
  | .list ho .. => ⟨_, ho⟩
  | .dict _ ho .. => ⟨_, ho⟩
structure Fs (H : PyData → Int) (names : List Str) (env : Env) (base : Fz) (low : Fz) (F : Fz) (h : Heap) (σ : St) : Prop where
  kind : env.scope.kind = .function
  glob : env.globals = mainGlobals
  blt : env.builtins = builtinsNs
  nodup : names.Nodup
  keep : ∀ b o, base b = some o → h.get? b = some o
  keepL : ∀ b o, low b = some o → h.get? b = some o
  sat : Sat F h
  ns : ∃ m, h.Ns env.locals m
  LF : F env.locals = none
  Lb : base env.locals = none
  Ll : low env.locals = none
  cell : ∀ x, env.kindOf x = some .cell → ∃ c v, env.cells.lookup x = some c ∧ h.IsCell c v ∧ F c = none ∧ low c = none
  cinj : ∀ x y c, env.kindOf x = some .cell → env.kindOf y = some .cell → env.cells.lookup x = some c → env.cells.lookup y = some c → x = y
  free : ∀ x c, env.kindOf x = some .free → env.cells.lookup x = some c → ∃ o, F c = some o
  vars : ∀ i x d, names[i]? = some x → sget σ i = some (false, d) → ∃ v, Lk env h x v ∧ R H F v d
  own : ∀ i x d, names[i]? = some x → sget σ i = some (true, d) → ∃ a, Lk env h x (.ref a) ∧ Ow H F h a d ∧ F a = none ∧ low a = none ∧ a ≠ env.locals
  oinj : ∀ i j x y d e a, names[i]? = some x → names[j]? = some y → sget σ i = some (true, d) → sget σ j = some (true, e) → Lk env h x (.ref a) → Lk env h y (.ref a) → i = j
theorem Fs.grow {names : List Str} {env : Env} {base : Fz} {low : Fz} {F F' : Fz} {s s' : Shared} {σ : St} (S : Fs H names env base low F s.heap σ) (g : Grow F s F' s') : Fs H names env base low F' s'.heap σ where
  kind := S.kind
  glob := S.glob
  blt := S.blt
  nodup := S.nodup
  keep := fun b o e => g.keep b o (S.keep b o e)
  keepL := fun b o e => g.keep b o (S.keepL b o e)
  sat := g.sat
  ns := let ⟨m, h⟩ := S.ns; ⟨m, h.keeps g.keep⟩
  LF := by
    cases q : F' env.locals with
    | none => rfl
    | some o =>
      rcases g.fresh _ _ q with h | h
      · rw [S.LF] at h; cases h
      · obtain ⟨m, oL, es, ep, ho, _⟩ := S.ns; rw [ho] at h; cases h
  Lb := S.Lb
  Ll := S.Ll
  cell := fun x hx => by
    obtain ⟨c, v, h1, h2, h3, h4⟩ := S.cell x hx
    refine ⟨c, v, h1, h2.keeps g.keep, ?_, h4⟩
    cases q : F' c with
    | none => rfl
    | some o =>
      rcases g.fresh _ _ q with h | h
      · rw [h3] at h; cases h
      · obtain ⟨o', ho, _⟩ := h2; rw [ho] at h; cases h
  cinj := S.cinj
  free := fun x c hx hc => let ⟨o, e⟩ := S.free x c hx hc; ⟨o, g.sub _ _ e⟩
  vars := fun i x d hi hd => let ⟨v, h1, h2⟩ := S.vars i x d hi hd; ⟨v, h1.keeps g.keep, h2.mono g.sub⟩
  own := fun i x d hi hd => by
    obtain ⟨a, h1, h2, h3, h4, h5⟩ := S.own i x d hi hd
    refine ⟨a, h1.keeps g.keep, h2.grow g.sub (g.keep a), ?_, h4, h5⟩
    cases q : F' a with
    | none => rfl
    | some o =>
      rcases g.fresh _ _ q with h | h
      · rw [h3] at h; cases h
      · obtain ⟨o', ho⟩ := h2.there; rw [ho] at h; cases h
  oinj := fun i j x y d e a hx hy hd he lx ly => by
    obtain ⟨a1, p1, _⟩ := S.own i x d hx hd
    obtain ⟨a2, p2, _⟩ := S.own j y e hy he
    have uniq : ∀ {z : Str} {v v' : Value}, Lk env s'.heap z v → Lk env s'.heap z v' → v = v' := by
      intro z v v' l l'
      cases l with
      | loc k n e =>
        cases l' with
        | loc k' n' e' =>
          obtain ⟨o, es, ep, ho, hd, hk, hm⟩ := n
          obtain ⟨o', es', ep', ho', hd', hk', hm'⟩ := n'
          rw [ho] at ho'; cases ho'
          rw [hd] at hd'; cases hd'
          have h1 := hm z
          have h2 := hm' z
          rw [e] at h1; rw [e'] at h2
          exact Option.some.inj (h1.symm.trans h2)
        | cell k' => rw [k] at k'; cases k'
        | free k' => rw [k] at k'; cases k'
      | cell k c i =>
        cases l' with
        | loc k' => rw [k] at k'; cases k'
        | cell k' c' i' =>
          rw [c] at c'; cases c'
          obtain ⟨o, ho, hd⟩ := i
          obtain ⟨o', ho', hd'⟩ := i'
          rw [ho] at ho'; cases ho'
          rw [hd] at hd'; cases hd'; rfl
        | free k' => rw [k] at k'; cases k'
      | free k c i =>
        cases l' with
        | loc k' => rw [k] at k'; cases k'
        | cell k' => rw [k] at k'; cases k'
        | free k' c' i' =>
          rw [c] at c'; cases c'
          obtain ⟨o, ho, hd⟩ := i
          obtain ⟨o', ho', hd'⟩ := i'
          rw [ho] at ho'; cases ho'
          rw [hd] at hd'; cases hd'; rfl
    have e1 := uniq lx (p1.keeps g.keep)
    have e2 := uniq ly (p2.keeps g.keep)
    cases e1
    cases e2
    exact S.oinj i j x y d e a hx hy hd he p1 p2
end Ev
set_option maxRecDepth 10000
namespace Ev
open PySem PySem.W PySem.Spec PySem.Calls PyProof.Rows
theorem ns_uniq {h : Heap} {a : Addr} {m m' : Str → Option Value} (n : h.Ns a m) (n' : h.Ns a m') : m = m' := by
  obtain ⟨o, es, ep, ho, hd, hk, hm⟩ := n
  obtain ⟨o', es', ep', ho', hd', hk', hm'⟩ := n'
  rw [ho] at ho'; cases ho'
  rw [hd] at hd'; cases hd'
  funext z
  rw [← hm z, ← hm' z]
theorem cell_uniq {h : Heap} {c : Addr} {v v' : Option Value} (i : h.IsCell c v) (i' : h.IsCell c v') : v = v' := by
  obtain ⟨o, ho, hd⟩ := i
  obtain ⟨o', ho', hd'⟩ := i'
  rw [ho] at ho'; cases ho'
  rw [hd] at hd'; cases hd'; rfl
theorem ns_not_cell {h : Heap} {a : Addr} {m : Str → Option Value} {v : Option Value} (n : h.Ns a m) (i : h.IsCell a v) : False := by
  obtain ⟨o, es, ep, ho, hd, _⟩ := n
  obtain ⟨o', ho', hd'⟩ := i
  rw [ho] at ho'; cases ho'
  rw [hd] at hd'; cases hd'
theorem Lk.uniq {env : Env} {h : Heap} {z : Str} {v v' : Value} (l : Lk env h z v) (l' : Lk env h z v') : v = v' := by
  cases l with
  | loc k n e =>
    cases l' with
    | loc k' n' e' => rw [ns_uniq n n'] at e; exact Option.some.inj (e.symm.trans e')
    | cell k' => rw [k] at k'; cases k'
    | free k' => rw [k] at k'; cases k'
  | cell k c i =>
    cases l' with
    | loc k' => rw [k] at k'; cases k'
    | cell k' c' i' => rw [c] at c'; cases c'; exact Option.some.inj (cell_uniq i i')
    | free k' => rw [k] at k'; cases k'
  | free k c i =>
    cases l' with
    | loc k' => rw [k] at k'; cases k'
    | cell k' => rw [k] at k'; cases k'
    | free k' c' i' => rw [c] at c'; cases c'; exact Option.some.inj (cell_uniq i i')
variable {H : PyData → Int}
theorem Ow.not_cell {F : Fz} {h : Heap} {a : Addr} {d : PyData} {v : Option Value} (o : Ow H F h a d) (i : h.IsCell a v) : False := by
  obtain ⟨o', ho', hd'⟩ := i
  cases o with
  | list ho r => rw [ho] at ho'; cases ho'; cases hd'
  | dict _ ho hc hd r => rw [ho] at ho'; cases ho'; rw [hd] at hd'; cases hd'
theorem sget_set_self {σ : St} {i : Nat} {vo : Option (Bool × PyData)} (h : i < σ.length) : sget (σ.set i vo) i = vo := by
  simp only [sget, List.getElem?_set_self h]
theorem sget_set_ne {σ : St} {i j : Nat} {vo : Option (Bool × PyData)} (h : i ≠ j) : sget (σ.set i vo) j = sget σ j := by
  simp only [sget, List.getElem?_set_ne h]
theorem sget_set {σ : St} {i j : Nat} {vo : Option (Bool × PyData)} {x : Bool × PyData} (h : sget (σ.set i vo) j = some x) : (j = i ∧ vo = some x) ∨ (j ≠ i ∧ sget σ j = some x) ∨ (j = i ∧ σ.length ≤ i) := by
  by_cases e : j = i
  · subst e
    by_cases l : j < σ.length
    · rw [sget_set_self l] at h; exact .inl ⟨rfl, h⟩
    · exact .inr (.inr ⟨rfl, Nat.le_of_not_lt l⟩)
  · rw [sget_set_ne (Ne.symm e)] at h; exact .inr (.inl ⟨e, h⟩)
theorem sget_some_lt {σ : St} {i : Nat} {x : Bool × PyData} (h : sget σ i = some x) : i < σ.length := by
  by_cases l : i < σ.length
  · exact l
  · simp only [sget, List.getElem?_eq_none (Nat.le_of_not_lt l)] at h; cases h
theorem sget_set_some {σ : St} {i j : Nat} {vo : Option (Bool × PyData)} {x : Bool × PyData} (h : sget (σ.set i vo) j = some x) : (j = i ∧ vo = some x) ∨ (j ≠ i ∧ sget σ j = some x) := by
  rcases sget_set h with h1 | h1 | ⟨h1, h2⟩
  · exact .inl h1
  · exact .inr h1
  · have := sget_some_lt h
    rw [List.length_set] at this
    omega
inductive Vl (H : PyData → Int) (F : Fz) (base : Fz) (low : Fz) (h : Heap) (L : Addr) : Value → Bool × PyData → Prop
  | fz {v d} : R H F v d → Vl H F base low h L v (false, d)
  | ow {a d} : Ow H F h a d → F a = none → low a = none → a ≠ L → Vl H F base low h L (.ref a) (true, d)
structure Same (s s' : Shared) : Prop where
  gens : s'.gens = s.gens
  drawn : s'.drawn = s.drawn
  os : s'.os = s.os
theorem Same.refl (s : Shared) : Same s s := ⟨rfl, rfl, rfl⟩
theorem Same.trans {s s' s'' : Shared} (x : Same s s') (y : Same s' s'') : Same s s'' := ⟨y.gens.trans x.gens, y.drawn.trans x.drawn, y.os.trans x.os⟩
section
variable {names : List Str} {env : Env} {base : Fz} {low : Fz} {F : Fz} {h : Heap} {σ : St}
theorem Fs.inj (S : Fs H names env base low F h σ) {i j : Nat} {x : Str} (hi : names[i]? = some x) (hj : names[j]? = some x) : i = j :=
  (List.getElem?_inj (List.getElem?_eq_some_iff.mp hi).1 S.nodup).mp (hi.trans hj.symm)
theorem Fs.setLocal (S : Fs H names env base low F h σ) {i : Nat} {x : Str} {v : Value} {vo : Bool × PyData} {h' : Heap} {m : Str → Option Value} (hi : names[i]? = some x) (hk : env.kindOf x = some .local)
    (hv : Vl H F base low h env.locals v vo) (hd : ∀ a, v = .ref a → vo.1 = true → ∀ j y e, j ≠ i → names[j]? = some y → sget σ j = some (true, e) → ¬ Lk env h y (.ref a))
    (hm : h.Ns env.locals m) (hn : h'.Ns env.locals (fun y => if y = x then some v else m y)) (hs : Heap.SameBut env.locals h h') : Fs H names env base low F h' (σ.set i (some vo)) := by
  have old : ∀ {y : Str} {u : Value}, y ≠ x → Lk env h y u → Lk env h' y u := fun {y u} hne l => by
    cases l with
    | loc k n e => exact .loc k hn (by rw [if_neg hne, ← ns_uniq n hm]; exact e)
    | cell k c ic => exact .cell k c (ic.sameBut hs fun q => ns_not_cell hm (q ▸ ic))
    | free k c ic => exact .free k c (ic.sameBut hs fun q => ns_not_cell hm (q ▸ ic))
  have back : ∀ {y : Str} {u : Value}, y ≠ x → Lk env h' y u → Lk env h y u := fun {y u} hne l => by
    cases l with
    | loc k n e => exact .loc k hm (by rw [ns_uniq n hn] at e; dsimp only at e; rw [if_neg hne] at e; exact e)
    | cell k c ic =>
      refine .cell k c ?_
      have q : ∀ z, z = env.locals → h'.IsCell z (some u) → False := fun z e i => ns_not_cell hn (e ▸ i)
      obtain ⟨o, ho, hd'⟩ := id ic
      exact ⟨o, (hs.2 _ (fun e => q _ e ic)).symm.trans ho, hd'⟩
    | free k c ic =>
      refine .free k c ?_
      have q : ∀ z, z = env.locals → h'.IsCell z (some u) → False := fun z e i => ns_not_cell hn (e ▸ i)
      obtain ⟨o, ho, hd'⟩ := id ic
      exact ⟨o, (hs.2 _ (fun e => q _ e ic)).symm.trans ho, hd'⟩
  have new : Lk env h' x v := .loc hk hn (by simp)
  have ne : ∀ {j : Nat} {y : Str}, names[j]? = some y → j ≠ i → y ≠ x := fun hj hne e => hne (S.inj (e ▸ hj) hi)
  have owk : ∀ {a : Addr} {d : PyData}, a ≠ env.locals → Ow H F h a d → Ow H F h' a d := fun hne o => o.grow (Sub.refl F) fun o' e => (hs.2 _ hne).trans e
  exact {
    kind := S.kind, glob := S.glob, blt := S.blt, nodup := S.nodup
    keep := fun b o e => (hs.2 b (fun q => by subst q; rw [S.Lb] at e; cases e)).trans (S.keep b o e)
    keepL := fun b o e => (hs.2 b (fun q => by subst q; rw [S.Ll] at e; cases e)).trans (S.keepL b o e)
    sat := fun a o e => (hs.2 a (fun q => by subst q; rw [S.LF] at e; cases e)).trans (S.sat a o e)
    ns := ⟨_, hn⟩
    LF := S.LF, Lb := S.Lb, Ll := S.Ll
    cell := fun y hy => by
      obtain ⟨c, u, h1, h2, h3, h4⟩ := S.cell y hy
      exact ⟨c, u, h1, h2.sameBut hs (fun q => ns_not_cell hm (q ▸ h2)), h3, h4⟩
    cinj := S.cinj
    free := S.free
    vars := fun j y d hj hd' => by
      rcases sget_set_some hd' with ⟨e1, e2⟩ | ⟨e1, e2⟩
      · subst e1; rw [hi] at hj; cases hj; cases e2; cases hv with | fz r => exact ⟨v, new, r⟩
      · obtain ⟨u, l, r⟩ := S.vars j y d hj e2; exact ⟨u, old (ne hj e1) l, r⟩
    own := fun j y d hj hd' => by
      rcases sget_set_some hd' with ⟨e1, e2⟩ | ⟨e1, e2⟩
      · subst e1; rw [hi] at hj; cases hj; cases e2; cases hv with | ow o f b n => exact ⟨_, new, owk n o, f, b, n⟩
      · obtain ⟨a, l, o, f, b, n⟩ := S.own j y d hj e2; exact ⟨a, old (ne hj e1) l, owk n o, f, b, n⟩
    oinj := fun j k y z d e a hj hk' hjd hke ly lz => by
      rcases sget_set_some hjd with ⟨e1, e2⟩ | ⟨e1, e2⟩ <;> rcases sget_set_some hke with ⟨f1, f2⟩ | ⟨f1, f2⟩
      · exact e1.trans f1.symm
      · exfalso
        subst e1; rw [hi] at hj; cases hj; cases e2
        have := ly.uniq new
        exact hd a this.symm rfl k z e f1 hk' f2 (back (ne hk' f1) lz)
      · exfalso
        subst f1; rw [hi] at hk'; cases hk'; cases f2
        have := lz.uniq new
        exact hd a this.symm rfl j y d e1 hj e2 (back (ne hj e1) ly)
      · exact S.oinj j k y z d e a hj hk' e2 f2 (back (ne hj e1) ly) (back (ne hk' f1) lz) }
theorem Fs.setCell (S : Fs H names env base low F h σ) {i : Nat} {x : Str} {c : Addr} {v : Value} {vo : Bool × PyData} {h' : Heap} (hi : names[i]? = some x) (hk : env.kindOf x = some .cell) (hc : env.cells.lookup x = some c) (hbc : base c = none)
    (hv : Vl H F base low h env.locals v vo) (hd : ∀ a, v = .ref a → vo.1 = true → ∀ j y e, j ≠ i → names[j]? = some y → sget σ j = some (true, e) → ¬ Lk env h y (.ref a))
    (hn : h'.IsCell c (some v)) (hs : Heap.SameBut c h h') : Fs H names env base low F h' (σ.set i (some vo)) := by
  obtain ⟨c', u0, hc', hic, hFc, hbct⟩ := S.cell x hk
  rw [hc] at hc'; cases hc'
  obtain ⟨m, hm⟩ := S.ns
  have hcL : c ≠ env.locals := fun q => ns_not_cell (q ▸ hm) hic
  have hm' : h'.Ns env.locals m := hm.sameBut hs (Ne.symm hcL)
  have cne : ∀ {y : Str} {c2 : Addr}, y ≠ x → env.kindOf y = some .cell → env.cells.lookup y = some c2 → c2 ≠ c := fun hne hky hcy q => hne (S.cinj _ _ c hky hk (q ▸ hcy) hc)
  have fne : ∀ {y : Str} {c2 : Addr}, env.kindOf y = some .free → env.cells.lookup y = some c2 → c2 ≠ c := fun hky hcy q => by
    obtain ⟨o, e⟩ := S.free _ _ hky hcy
    subst q; rw [hFc] at e; cases e
  have old : ∀ {y : Str} {u : Value}, y ≠ x → Lk env h y u → Lk env h' y u := fun {y u} hne l => by
    cases l with
    | loc k n e => exact .loc k (n.sameBut hs (Ne.symm hcL)) e
    | cell k c2 ic => exact .cell k c2 (ic.sameBut hs (cne hne k c2))
    | free k c2 ic => exact .free k c2 (ic.sameBut hs (fne k c2))
  have back : ∀ {y : Str} {u : Value}, y ≠ x → Lk env h' y u → Lk env h y u := fun {y u} hne l => by
    cases l with
    | loc k n e => exact .loc k hm (by rw [ns_uniq n hm'] at e; exact e)
    | cell k c2 ic => obtain ⟨o, ho, hd'⟩ := ic; exact .cell k c2 ⟨o, (hs.2 _ (cne hne k c2)).symm.trans ho, hd'⟩
    | free k c2 ic => obtain ⟨o, ho, hd'⟩ := ic; exact .free k c2 ⟨o, (hs.2 _ (fne k c2)).symm.trans ho, hd'⟩
  have new : Lk env h' x v := .cell hk hc hn
  have ne : ∀ {j : Nat} {y : Str}, names[j]? = some y → j ≠ i → y ≠ x := fun hj hne e => hne (S.inj (e ▸ hj) hi)
  have owk : ∀ {a : Addr} {d : PyData}, Ow H F h a d → Ow H F h' a d := fun {a d} o => o.grow (Sub.refl F) fun o' e => (hs.2 _ (fun q => o.not_cell (q ▸ hic))).trans e
  exact {
    kind := S.kind, glob := S.glob, blt := S.blt, nodup := S.nodup
    keep := fun b o e => (hs.2 b (fun q => by subst q; rw [hbc] at e; cases e)).trans (S.keep b o e)
    keepL := fun b o e => (hs.2 b (fun q => by subst q; rw [hbct] at e; cases e)).trans (S.keepL b o e)
    sat := fun a o e => (hs.2 a (fun q => by subst q; rw [hFc] at e; cases e)).trans (S.sat a o e)
    ns := ⟨_, hm'⟩
    LF := S.LF, Lb := S.Lb, Ll := S.Ll
    cell := fun y hy => by
      obtain ⟨c2, u, h1, h2, h3, h4⟩ := S.cell y hy
      by_cases q : y = x
      · subst q; rw [hc] at h1; cases h1; exact ⟨c, _, hc, hn, hFc, hbct⟩
      · exact ⟨c2, u, h1, h2.sameBut hs (cne q hy h1), h3, h4⟩
    cinj := S.cinj
    free := S.free
    vars := fun j y d hj hd' => by
      rcases sget_set_some hd' with ⟨e1, e2⟩ | ⟨e1, e2⟩
      · subst e1; rw [hi] at hj; cases hj; cases e2; cases hv with | fz r => exact ⟨v, new, r⟩
      · obtain ⟨u, l, r⟩ := S.vars j y d hj e2; exact ⟨u, old (ne hj e1) l, r⟩
    own := fun j y d hj hd' => by
      rcases sget_set_some hd' with ⟨e1, e2⟩ | ⟨e1, e2⟩
      · subst e1; rw [hi] at hj; cases hj; cases e2; cases hv with | ow o f b n => exact ⟨_, new, owk o, f, b, n⟩
      · obtain ⟨a, l, o, f, b, n⟩ := S.own j y d hj e2; exact ⟨a, old (ne hj e1) l, owk o, f, b, n⟩
    oinj := fun j k y z d e a hj hk' hjd hke ly lz => by
      rcases sget_set_some hjd with ⟨e1, e2⟩ | ⟨e1, e2⟩ <;> rcases sget_set_some hke with ⟨f1, f2⟩ | ⟨f1, f2⟩
      · exact e1.trans f1.symm
      · exfalso
        subst e1; rw [hi] at hj; cases hj; cases e2
        have := ly.uniq new
        exact hd a this.symm rfl k z e f1 hk' f2 (back (ne hk' f1) lz)
      · exfalso
        subst f1; rw [hi] at hk'; cases hk'; cases f2
        have := lz.uniq new
        exact hd a this.symm rfl j y d e1 hj e2 (back (ne hj e1) ly)
      · exact S.oinj j k y z d e a hj hk' e2 f2 (back (ne hj e1) ly) (back (ne hk' f1) lz) }
theorem Fs.freeze (S : Fs H names env base base F h σ) {i : Nat} {d : PyData} (hσ : sget σ i = some (true, d)) (hi : i < names.length) :
    ∃ F', Sub F F' ∧ (∀ a o, F' a = some o → F a = some o ∨ base a = none) ∧ Fs H names env base base F' h (σ.set i (some (false, d))) := by
  obtain ⟨x, hx⟩ : ∃ x, names[i]? = some x := ⟨_, List.getElem?_eq_getElem hi⟩
  obtain ⟨a, hl, ho, hFa, hba, hLa⟩ := S.own i x d hx hσ
  obtain ⟨o, hao⟩ := ho.there
  have sub : Sub F (put F a o) := put_sub hFa
  have putne : ∀ {b : Addr}, b ≠ a → F b = none → put F a o b = none := fun hne e => by unfold put; rw [if_neg hne]; exact e
  have hr : R H (put F a o) (.ref a) d := by
    cases ho with
    | list h1 h4 => rw [hao] at h1; cases h1; exact .list (put_self ..) (h4.mono sub)
    | dict h0 h1 h2 h3 h4 h5 => rw [hao] at h1; cases h1; exact .dict h0 (put_self ..) h2 h3 (h4.mono sub) h5
  refine ⟨put F a o, sub, fun b o' q => ?_, ?_⟩
  · unfold put at q; by_cases z : b = a
    · subst z; exact .inr hba
    · rw [if_neg z] at q; exact .inl q
  exact {
    kind := S.kind, glob := S.glob, blt := S.blt, nodup := S.nodup, keep := S.keep, keepL := S.keepL
    sat := fun b o' q => by
      unfold put at q; by_cases z : b = a
      · subst z; rw [if_pos rfl] at q; cases q; exact hao
      · rw [if_neg z] at q; exact S.sat b o' q
    ns := S.ns
    LF := putne (Ne.symm hLa) S.LF
    Lb := S.Lb, Ll := S.Ll
    cell := fun y hy => by
      obtain ⟨c2, u, h1, h2, h3, h4⟩ := S.cell y hy
      exact ⟨c2, u, h1, h2, putne (fun q => ho.not_cell (q ▸ h2)) h3, h4⟩
    cinj := S.cinj
    free := fun y c hy hc => let ⟨o', e⟩ := S.free y c hy hc; ⟨o', sub _ _ e⟩
    vars := fun j y e hj he => by
      rcases sget_set_some he with ⟨e1, e2⟩ | ⟨e1, e2⟩
      · subst e1; rw [hx] at hj; cases hj; cases e2; exact ⟨_, hl, hr⟩
      · obtain ⟨u, l, r⟩ := S.vars j y e hj e2; exact ⟨u, l, r.mono sub⟩
    own := fun j y e hj he => by
      rcases sget_set_some he with ⟨e1, e2⟩ | ⟨e1, e2⟩
      · cases e2
      · obtain ⟨b, l, o', f, b', n⟩ := S.own j y e hj e2
        refine ⟨b, l, o'.grow sub fun _ q => q, putne (fun q => ?_) f, b', n⟩
        subst q
        exact e1 (S.oinj j i y x e d b hj hx e2 hσ l hl)
    oinj := fun j k y z e f b hj hk' hje hkf ly lz => by
      rcases sget_set_some hje with ⟨e1, e2⟩ | ⟨e1, e2⟩
      · cases e2
      rcases sget_set_some hkf with ⟨f1, f2⟩ | ⟨f1, f2⟩
      · cases f2
      exact S.oinj _ _ _ _ _ _ _ hj hk' e2 f2 ly lz }
end
section
variable {M : Model} {A : Around} {E : Value → Shared → Prop} {s : Shared} {names : List Str} {env : Env} {base : Fz} {low : Fz} {F : Fz} {σ : St}
theorem wp_load {x : Str} {v : Value} {Q : Value → Shared → Prop} (hk : env.scope.kind = .function) (l : Lk env s.heap x v) (h : Q v s) (hn : (x == ("__classdict__" : Str)) = false := by decide) : wpAny M A (loadName env x) Q E s := by
  cases l with
  | loc k n e => exact wpAny_loadName_local hk k n e h
  | cell k c i => exact wpAny_loadName_cell hk k c i h
  | free k c i => exact wpAny_loadName_free hk k c i h hn
end
end Ev
set_option maxRecDepth 10000
namespace Ev
open PySem PySem.W PySem.Spec PySem.Calls PyProof.Rows PySem.SeqAt
noncomputable def okD (d : PyData) : Bool := d.canLay0 && decide (d.depth ≤ 64)
noncomputable def eqD (a b : PyData) : Option Bool :=
  match a, b with
  | .list xs, .list [] => some xs.isEmpty
  | .list [], .list ys => some ys.isEmpty
  | a, b => if okD a && okD b then some (PyData.eqv a b) else none
mutual
noncomputable def ordD : PyData → PyData → Option Ordering
  | .int a, .int b => some (if a < b then .lt else if a = b then .eq else .gt)
  | .tuple xs, .tuple ys => ordL xs ys
  | _, _ => none
noncomputable def ordL : List PyData → List PyData → Option Ordering
  | [], [] => some .eq
  | [], _ :: _ => some .lt
  | _ :: _, [] => some .gt
  | x :: xs, y :: ys => if PyData.eqv x y then ordL xs ys else match ordD x y with
    | some .lt => some .lt
    | some .gt => some .gt
    | _ => none
end
noncomputable def ordIs (op : CmpOp) (o : Ordering) : Bool := match op, o with
  | .Lt, .lt => true
  | .LtE, .lt => true
  | .LtE, .eq => true
  | .Gt, .gt => true
  | .GtE, .gt => true
  | .GtE, .eq => true
  | _, _ => false
noncomputable def isOrd : CmpOp → Bool
  | .Lt => true | .LtE => true | .Gt => true | .GtE => true | _ => false
noncomputable def cmpD (op : CmpOp) (a b : PyData) : Option Bool := match op with
  | .Eq => eqD a b
  | .NotEq => (eqD a b).map (!·)
  | .In => match b with
    | .list ys => if okD b && okD a then some (ys.any fun y => PyData.eqv y a) else none
    | .tuple ys => if okD b && okD a then some (ys.any fun y => PyData.eqv y a) else none
    | _ => none
  | .NotIn => match b with
    | .list ys => if okD b && okD a then some (!ys.any fun y => PyData.eqv y a) else none
    | .tuple ys => if okD b && okD a then some (!ys.any fun y => PyData.eqv y a) else none
    | _ => none
  | .Is => none
  | .IsNot => none
  | op => if okD a && okD b then (ordD a b).map (ordIs op) else none
theorem okD_lay {d : PyData} (h : okD d = true) : d.canLay0 = true := (Bool.and_eq_true_iff.mp h).1
theorem okD_depth {d : PyData} (h : okD d = true) : d.depth ≤ 64 := of_decide_eq_true (Bool.and_eq_true_iff.mp h).2
inductive Bw (H : PyData → Int) (F : Fz) (h : Heap) : Value → PyData → Prop
  | fz {v d} : R H F v d → Bw H F h v d
  | ow {a d} : Ow H F h a d → Bw H F h (.ref a) d
variable {H : PyData → Int}
theorem Bw.reads {F : Fz} {h : Heap} (s : Sat F h) {v : Value} {d : PyData} : Bw H F h v d → ∃ as, Reads h v d as := fun b => b.rec (fun r => r.reads s) (fun o => o.rec (fun ho r => (r.reads s).elim fun _ q => ⟨_, .list ho rfl rfl q⟩) (fun _ ho hc hd r _ => (r.reads s).elim fun _ q => q.elim fun _ q => ⟨_, .dict ho hc.1 hd q.1 q.2⟩))
theorem Bw.grow {F F' : Fz} {s s' : Shared} (g : Grow F s F' s') {v : Value} {d : PyData} : Bw H F s.heap v d → Bw H F' s'.heap v d
  | .fz r => .fz (r.mono g.sub)
  | .ow o => .ow (o.grow g.sub (g.keep _))
section
variable {prog : Program} {w : World} {A : Around} {E : Value → Shared → Prop} {s : Shared} {Q : Value → Shared → Prop}
theorem eq_nil_nil {a b : Addr} {xs : Array Value} (hl : s.heap.IsList a xs) (hb : s.heap.IsList b #[]) (hu : A.units < cLine) (h : Q (.bool xs.toList.isEmpty) s) : wpAny (model prog w) A (compareOp .Eq (.ref a) (.ref b)) Q E s := by
  by_cases e : xs.size = 0
  · have : xs = #[] := Array.eq_empty_of_size_eq_zero e
    subst this
    exact eq_listAt (e := fun _ => true) hl hb rfl hu (fun j h1 => absurd h1 (Nat.not_lt_zero _)) (by simpa using h)
  · refine eq_list_lengthsAt hl hb (by simpa using e) hu ?_
    have : xs.toList.isEmpty = false := by
      cases q : xs.toList with
      | nil => exfalso; apply e; rw [← Array.length_toList, q]; rfl
      | cons => rfl
    rw [this] at h; exact h
theorem eq_nil_nil' {a b : Addr} {xs : Array Value} (hl : s.heap.IsList a xs) (hb : s.heap.IsList b #[]) (hu : A.units < cLine) (h : Q (.bool xs.toList.isEmpty) s) : wpAny (model prog w) A (compareOp .Eq (.ref b) (.ref a)) Q E s := by
  by_cases e : xs.size = 0
  · have : xs = #[] := Array.eq_empty_of_size_eq_zero e
    subst this
    exact eq_listAt (e := fun _ => true) hb hl rfl hu (fun j h1 => absurd h1 (Nat.not_lt_zero _)) (by simpa using h)
  · refine eq_list_lengthsAt hb hl (by simp; exact fun q => e q.symm) hu ?_
    have : xs.toList.isEmpty = false := by
      cases q : xs.toList with
      | nil => exfalso; apply e; rw [← Array.length_toList, q]; rfl
      | cons => rfl
    rw [this] at h; exact h
theorem reads_list {h : Heap} {v : Value} {xs : List PyData} {as : List Addr} (r : Reads h v (.list xs) as) : ∃ a vs bs, v = .ref a ∧ h.IsList a vs ∧ ReadsAll h vs.toList xs bs := by
  cases r with
  | list h1 h2 h3 h4 => exact ⟨_, _, _, rfl, ⟨_, h1, h2, _, h3⟩, h4⟩
theorem readsAll_nil_iff {h : Heap} {vs : List Value} {xs : List PyData} {as : List Addr} (r : ReadsAll h vs xs as) : vs.isEmpty = xs.isEmpty := by
  cases r <;> rfl
theorem room_eq {A : Around} {a b : PyData} (ha : okD a = true) (hu : A.units + 64 < cLine) : A.units + min a.depth b.depth < cLine := by
  have := okD_depth ha
  have : min a.depth b.depth ≤ a.depth := Nat.min_le_left _ _
  omega
theorem wp_eq {a b : Value} {da db : PyData} {c : Bool} {as bs : List Addr} (he : eqD da db = some c) (ra : Reads s.heap a da as) (rb : Reads s.heap b db bs) (hu : A.units + 64 < cLine) (h : Q (.bool c) s) :
    wpAny (model prog w) A (compareOp .Eq a b) Q E s := by
  unfold eqD at he
  split at he
  · obtain ⟨x, vs, _, rfl, hx, r1⟩ := reads_list ra
    obtain ⟨y, ws, _, rfl, hy, r2⟩ := reads_list rb
    have e : ws = #[] := by
      have := readsAll_nil_iff r2
      apply Array.toList_inj.mp
      simpa using this
    subst e
    cases he
    exact eq_nil_nil hx hy (by omega) (by rw [readsAll_nil_iff r1]; exact h)
  · obtain ⟨x, vs, _, rfl, hx, r1⟩ := reads_list ra
    obtain ⟨y, ws, _, rfl, hy, r2⟩ := reads_list rb
    have e : vs = #[] := by
      have := readsAll_nil_iff r1
      apply Array.toList_inj.mp
      simpa using this
    subst e
    cases he
    exact eq_nil_nil' hy hx (by omega) (by rw [readsAll_nil_iff r2]; exact h)
  · split at he
    · rename_i hok
      obtain ⟨h1, h2⟩ := Bool.and_eq_true_iff.mp hok
      cases he
      exact compareEq_reads ra rb (okD_lay h1) (okD_lay h2) (room_eq h1 hu) h
    · cases he
theorem ne_nil_nil {a b : Addr} {xs : Array Value} (hl : s.heap.IsList a xs) (hb : s.heap.IsList b #[]) (hu : A.units < cLine) (h : Q (.bool (!xs.toList.isEmpty)) s) : wpAny (model prog w) A (compareOp .NotEq (.ref a) (.ref b)) Q E s := by
  by_cases e : xs.size = 0
  · have : xs = #[] := Array.eq_empty_of_size_eq_zero e
    subst this
    exact RcNeAt.lists (e := fun _ => true) hl hb rfl hu (fun j h1 => absurd h1 (Nat.not_lt_zero _)) prog w E Q (by simpa using h)
  · refine RcNeAt.lists_lengths hl hb (by simpa using e) hu prog w E Q ?_
    have : xs.toList.isEmpty = false := by
      cases q : xs.toList with
      | nil => exfalso; apply e; rw [← Array.length_toList, q]; rfl
      | cons => rfl
    rw [this] at h; exact h
theorem ne_nil_nil' {a b : Addr} {xs : Array Value} (hl : s.heap.IsList a xs) (hb : s.heap.IsList b #[]) (hu : A.units < cLine) (h : Q (.bool (!xs.toList.isEmpty)) s) : wpAny (model prog w) A (compareOp .NotEq (.ref b) (.ref a)) Q E s := by
  by_cases e : xs.size = 0
  · have : xs = #[] := Array.eq_empty_of_size_eq_zero e
    subst this
    exact RcNeAt.lists (e := fun _ => true) hb hl rfl hu (fun j h1 => absurd h1 (Nat.not_lt_zero _)) prog w E Q (by simpa using h)
  · refine RcNeAt.lists_lengths hb hl (by simp; exact fun q => e q.symm) hu prog w E Q ?_
    have : xs.toList.isEmpty = false := by
      cases q : xs.toList with
      | nil => exfalso; apply e; rw [← Array.length_toList, q]; rfl
      | cons => rfl
    rw [this] at h; exact h
theorem wp_ne {a b : Value} {da db : PyData} {c : Bool} {as bs : List Addr} (he : eqD da db = some c) (ra : Reads s.heap a da as) (rb : Reads s.heap b db bs) (hu : A.units + 64 < cLine) (h : Q (.bool (!c)) s) :
    wpAny (model prog w) A (compareOp .NotEq a b) Q E s := by
  unfold eqD at he
  split at he
  · obtain ⟨x, vs, _, rfl, hx, r1⟩ := reads_list ra
    obtain ⟨y, ws, _, rfl, hy, r2⟩ := reads_list rb
    have e : ws = #[] := by
      have := readsAll_nil_iff r2
      apply Array.toList_inj.mp
      simpa using this
    subst e
    cases he
    exact ne_nil_nil hx hy (by omega) (by rw [readsAll_nil_iff r1]; exact h)
  · obtain ⟨x, vs, _, rfl, hx, r1⟩ := reads_list ra
    obtain ⟨y, ws, _, rfl, hy, r2⟩ := reads_list rb
    have e : vs = #[] := by
      have := readsAll_nil_iff r1
      apply Array.toList_inj.mp
      simpa using this
    subst e
    cases he
    exact ne_nil_nil' hy hx (by omega) (by rw [readsAll_nil_iff r2]; exact h)
  · split at he
    · rename_i hok
      obtain ⟨h1, h2⟩ := Bool.and_eq_true_iff.mp hok
      cases he
      exact compareNe_reads ra rb (okD_lay h1) (okD_lay h2) (room_eq h1 hu) h
    · cases he
noncomputable def OrdAt (prog : Program) (w : World) (A : Around) (s : Shared) (a b : Value) (o : Ordering) : Prop :=
  ∀ op, isOrd op = true → ∀ (E : Value → Shared → Prop) (Q : Value → Shared → Prop), Q (.bool (ordIs op o)) s → wpAny (model prog w) A (richCompare op a b) Q E s
theorem ord_int (x y : Int) (t u : Tok) : OrdAt prog w A s (.int x t) (.int y u) (if x < y then .lt else if x = y then .eq else .gt) := by
  intro op hop E Q h
  cases op <;> first | cases hop | skip
  · refine P.lt_int ?_
    by_cases h1 : x < y
    · rw [if_pos h1] at h; rw [decide_eq_true h1]; exact h
    · rw [if_neg h1] at h; rw [decide_eq_false h1]; by_cases h2 : x = y <;> simp only [h2, if_true, if_false] at h <;> exact h
  · refine P.le_int ?_
    by_cases h1 : x < y
    · rw [if_pos h1] at h; rw [decide_eq_true (Int.le_of_lt h1)]; exact h
    · rw [if_neg h1] at h
      by_cases h2 : x = y
      · rw [if_pos h2] at h; rw [decide_eq_true (Int.le_of_eq h2)]; exact h
      · rw [if_neg h2] at h; rw [decide_eq_false (by omega)]; exact h
  · refine P.gt_int ?_
    by_cases h1 : x < y
    · rw [if_pos h1] at h; rw [decide_eq_false (by omega)]; exact h
    · rw [if_neg h1] at h
      by_cases h2 : x = y
      · rw [if_pos h2] at h; rw [decide_eq_false (by omega)]; exact h
      · rw [if_neg h2] at h; rw [decide_eq_true (by omega)]; exact h
  · refine P.ge_int ?_
    by_cases h1 : x < y
    · rw [if_pos h1] at h; rw [decide_eq_false (by omega)]; exact h
    · rw [if_neg h1] at h
      by_cases h2 : x = y
      · rw [if_pos h2] at h; rw [decide_eq_true (by omega)]; exact h
      · rw [if_neg h2] at h; rw [decide_eq_true (by omega)]; exact h
inductive Ors (prog : Program) (w : World) (A : Around) (s : Shared) : List Value → List Value → Ordering → Prop
  | nn : Ors prog w A s [] [] .eq
  | nc {v vs} : Ors prog w A s [] (v :: vs) .lt
  | cn {v vs} : Ors prog w A s (v :: vs) [] .gt
  | same {v u vs us o} : EqAt A s v u true → Ors prog w A s vs us o → Ors prog w A s (v :: vs) (u :: us) o
  | diff {v u vs us o} : EqAt A s v u false → OrdAt prog w A s v u o → o ≠ .eq → Ors prog w A s (v :: vs) (u :: us) o
noncomputable def Rsz (m k : Nat) (o : Ordering) : Prop := (m = k ∧ o = .eq) ∨ (m < k ∧ o = .lt) ∨ (k < m ∧ o = .gt)
theorem tup_loop {β : Type} {f : Value × Value → β → Sem (ForInStep β)} {b0 bd : β} {o : Ordering} {P : β → Shared → Prop} (hs : ∀ u v Q, EqAt A s u v true → Q (ForInStep.yield b0) s → wpAny (model prog w) A (f (u, v) b0) Q E s)
    (hd : ∀ u v Q, EqAt A s u v false → OrdAt prog w A s u v o → Q (ForInStep.done bd) s → wpAny (model prog w) A (f (u, v) b0) Q E s) (h1 : P bd s) {xs ys : List Value} (hz : Ors prog w A s xs ys o) (h0 : Rsz xs.length ys.length o → P b0 s) :
    wpAny (model prog w) A (forIn (List.zip xs ys) b0 f) P E s := by
  induction hz with
  | nn => exact wpAny_pure (h0 (.inl ⟨rfl, rfl⟩))
  | nc => exact wpAny_pure (h0 (.inr (.inl ⟨Nat.zero_lt_succ _, rfl⟩)))
  | cn => exact wpAny_pure (h0 (.inr (.inr ⟨Nat.zero_lt_succ _, rfl⟩)))
  | same e _ ih =>
    rw [List.zip_cons_cons, List.forIn_cons]
    refine wpAny_bind (hs _ _ _ e (ih hd fun q => h0 ?_))
    unfold Rsz at q ⊢
    simpa using q
  | diff e oo ne =>
    rw [List.zip_cons_cons, List.forIn_cons]
    exact wpAny_bind (hd _ _ _ e oo (wpAny_pure h1))
theorem sizes_ord {op : CmpOp} (hop : isOrd op = true) {m k : Nat} {o : Ordering} (h : Rsz m k o) : Builtin.Tuple.tupleCompareSizes op m k = .bool (ordIs op o) := by
  unfold Builtin.Tuple.tupleCompareSizes
  cases op <;> first | (cases hop; done) | skip
  all_goals (rcases h with ⟨e, rfl⟩ | ⟨e, rfl⟩ | ⟨e, rfl⟩ <;> simp [ordIs] <;> omega)
theorem tup_lt {a b : Addr} {oa ob : Obj} {xs ys : Array Value} {na nb : Nat} {o : Ordering} {P : PySem.Fin → Shared → Prop} (ha : s.heap.get? a = some oa) (da : oa.data = .seq xs na) (hb : s.heap.get? b = some ob) (cb : ob.cls = .type "tuple") (db : ob.data = .seq ys nb)
    (hz : Ors prog w A s xs.toList ys.toList o) (h : P (.done (.ret (.bool (ordIs .Lt o)))) s) : wpAny (model prog w) A (Builtin.«tuple.__lt__» ⟨[.ref a, .ref b], []⟩) P E s := by
  have hTb : s.TypeIs (.ref b) "tuple" := ⟨ob, hb, cb⟩
  show wpAny _ _ (isInstance (.ref b) (.type "tuple") >>= _) _ _ s
  refine wpAny_bind (wpAny_isInstance hTb isSubtype_tuple_tuple ?_)
  simp only [Bool.not_true, Bool.false_eq_true, if_false]
  refine wpAny_bind (wpAny_tupleItemsOf ha da (wpAny_bind (wpAny_tupleItemsOf hb db (wpAny_bind ?_))))
  refine tup_loop (bd := by exact ⟨some (.done (.ret (.bool (ordIs .Lt o)))), ⟨⟩⟩) (fun u v Q e q => ?_) (fun u v Q e oo q => ?_) ?_ hz fun q => ?_
  · refine wpAny_bind (e prog w _ _ ?_)
    simp only [Bool.not_true, Bool.false_eq_true, if_false]
    exact wpAny_pure q
  · refine wpAny_bind (e prog w _ _ ?_)
    simp only [Bool.not_false, if_true]
    refine wpAny_bind (wpAny_rule (wpAny_bind (oo .Lt rfl _ _ ?_)))
    first
      | exact wpAny_bind (wpAny_pure (wpAny_pure q))
      | exact wpAny_pure (wpAny_pure q)
      | exact wpAny_bind (wpAny_pure (wpAny_pure (wpAny_pure q)))
  · exact wpAny_pure h
  · refine wpAny_pure ?_
    show P (.done (.ret (Builtin.Tuple.tupleCompareSizes .Lt xs.size ys.size))) s
    rw [sizes_ord rfl (by simpa using q)]; exact h
theorem tup_le {a b : Addr} {oa ob : Obj} {xs ys : Array Value} {na nb : Nat} {o : Ordering} {P : PySem.Fin → Shared → Prop} (ha : s.heap.get? a = some oa) (da : oa.data = .seq xs na) (hb : s.heap.get? b = some ob) (cb : ob.cls = .type "tuple") (db : ob.data = .seq ys nb)
    (hz : Ors prog w A s xs.toList ys.toList o) (h : P (.done (.ret (.bool (ordIs .LtE o)))) s) : wpAny (model prog w) A (Builtin.«tuple.__le__» ⟨[.ref a, .ref b], []⟩) P E s := by
  have hTb : s.TypeIs (.ref b) "tuple" := ⟨ob, hb, cb⟩
  show wpAny _ _ (isInstance (.ref b) (.type "tuple") >>= _) _ _ s
  refine wpAny_bind (wpAny_isInstance hTb isSubtype_tuple_tuple ?_)
  simp only [Bool.not_true, Bool.false_eq_true, if_false]
  refine wpAny_bind (wpAny_tupleItemsOf ha da (wpAny_bind (wpAny_tupleItemsOf hb db (wpAny_bind ?_))))
  refine tup_loop (bd := by exact ⟨some (.done (.ret (.bool (ordIs .LtE o)))), ⟨⟩⟩) (fun u v Q e q => ?_) (fun u v Q e oo q => ?_) ?_ hz fun q => ?_
  · refine wpAny_bind (e prog w _ _ ?_)
    simp only [Bool.not_true, Bool.false_eq_true, if_false]
    exact wpAny_pure q
  · refine wpAny_bind (e prog w _ _ ?_)
    simp only [Bool.not_false, if_true]
    refine wpAny_bind (wpAny_rule (wpAny_bind (oo .LtE rfl _ _ ?_)))
    first
      | exact wpAny_bind (wpAny_pure (wpAny_pure q))
      | exact wpAny_pure (wpAny_pure q)
      | exact wpAny_bind (wpAny_pure (wpAny_pure (wpAny_pure q)))
  · exact wpAny_pure h
  · refine wpAny_pure ?_
    show P (.done (.ret (Builtin.Tuple.tupleCompareSizes .LtE xs.size ys.size))) s
    rw [sizes_ord rfl (by simpa using q)]; exact h
theorem tup_gt {a b : Addr} {oa ob : Obj} {xs ys : Array Value} {na nb : Nat} {o : Ordering} {P : PySem.Fin → Shared → Prop} (ha : s.heap.get? a = some oa) (da : oa.data = .seq xs na) (hb : s.heap.get? b = some ob) (cb : ob.cls = .type "tuple") (db : ob.data = .seq ys nb)
    (hz : Ors prog w A s xs.toList ys.toList o) (h : P (.done (.ret (.bool (ordIs .Gt o)))) s) : wpAny (model prog w) A (Builtin.«tuple.__gt__» ⟨[.ref a, .ref b], []⟩) P E s := by
  have hTb : s.TypeIs (.ref b) "tuple" := ⟨ob, hb, cb⟩
  show wpAny _ _ (isInstance (.ref b) (.type "tuple") >>= _) _ _ s
  refine wpAny_bind (wpAny_isInstance hTb isSubtype_tuple_tuple ?_)
  simp only [Bool.not_true, Bool.false_eq_true, if_false]
  refine wpAny_bind (wpAny_tupleItemsOf ha da (wpAny_bind (wpAny_tupleItemsOf hb db (wpAny_bind ?_))))
  refine tup_loop (bd := by exact ⟨some (.done (.ret (.bool (ordIs .Gt o)))), ⟨⟩⟩) (fun u v Q e q => ?_) (fun u v Q e oo q => ?_) ?_ hz fun q => ?_
  · refine wpAny_bind (e prog w _ _ ?_)
    simp only [Bool.not_true, Bool.false_eq_true, if_false]
    exact wpAny_pure q
  · refine wpAny_bind (e prog w _ _ ?_)
    simp only [Bool.not_false, if_true]
    refine wpAny_bind (wpAny_rule (wpAny_bind (oo .Gt rfl _ _ ?_)))
    first
      | exact wpAny_bind (wpAny_pure (wpAny_pure q))
      | exact wpAny_pure (wpAny_pure q)
      | exact wpAny_bind (wpAny_pure (wpAny_pure (wpAny_pure q)))
  · exact wpAny_pure h
  · refine wpAny_pure ?_
    show P (.done (.ret (Builtin.Tuple.tupleCompareSizes .Gt xs.size ys.size))) s
    rw [sizes_ord rfl (by simpa using q)]; exact h
theorem tup_ge {a b : Addr} {oa ob : Obj} {xs ys : Array Value} {na nb : Nat} {o : Ordering} {P : PySem.Fin → Shared → Prop} (ha : s.heap.get? a = some oa) (da : oa.data = .seq xs na) (hb : s.heap.get? b = some ob) (cb : ob.cls = .type "tuple") (db : ob.data = .seq ys nb)
    (hz : Ors prog w A s xs.toList ys.toList o) (h : P (.done (.ret (.bool (ordIs .GtE o)))) s) : wpAny (model prog w) A (Builtin.«tuple.__ge__» ⟨[.ref a, .ref b], []⟩) P E s := by
  have hTb : s.TypeIs (.ref b) "tuple" := ⟨ob, hb, cb⟩
  show wpAny _ _ (isInstance (.ref b) (.type "tuple") >>= _) _ _ s
  refine wpAny_bind (wpAny_isInstance hTb isSubtype_tuple_tuple ?_)
  simp only [Bool.not_true, Bool.false_eq_true, if_false]
  refine wpAny_bind (wpAny_tupleItemsOf ha da (wpAny_bind (wpAny_tupleItemsOf hb db (wpAny_bind ?_))))
  refine tup_loop (bd := by exact ⟨some (.done (.ret (.bool (ordIs .GtE o)))), ⟨⟩⟩) (fun u v Q e q => ?_) (fun u v Q e oo q => ?_) ?_ hz fun q => ?_
  · refine wpAny_bind (e prog w _ _ ?_)
    simp only [Bool.not_true, Bool.false_eq_true, if_false]
    exact wpAny_pure q
  · refine wpAny_bind (e prog w _ _ ?_)
    simp only [Bool.not_false, if_true]
    refine wpAny_bind (wpAny_rule (wpAny_bind (oo .GtE rfl _ _ ?_)))
    first
      | exact wpAny_bind (wpAny_pure (wpAny_pure q))
      | exact wpAny_pure (wpAny_pure q)
      | exact wpAny_bind (wpAny_pure (wpAny_pure (wpAny_pure q)))
  · exact wpAny_pure h
  · refine wpAny_pure ?_
    show P (.done (.ret (Builtin.Tuple.tupleCompareSizes .GtE xs.size ys.size))) s
    rw [sizes_ord rfl (by simpa using q)]; exact h
theorem readsAll_cons {h : Heap} {vs : List Value} {x : PyData} {xs : List PyData} {as : List Addr} (r : ReadsAll h vs (x :: xs) as) : ∃ v vs' a1 a2, vs = v :: vs' ∧ Reads h v x a1 ∧ ReadsAll h vs' xs a2 := by
  cases r with | cons a b => exact ⟨_, _, _, _, rfl, a, b⟩
theorem reads_tuple {h : Heap} {v : Value} {xs : List PyData} {as : List Addr} (r : Reads h v (.tuple xs) as) : ∃ a o vs n bs, v = .ref a ∧ h.get? a = some o ∧ o.cls = .type "tuple" ∧ o.data = .seq vs n ∧ ReadsAll h vs.toList xs bs := by
  cases r with
  | tuple h1 h2 h3 h4 => exact ⟨_, _, _, _, _, rfl, h1, h2, h3, h4⟩
theorem ordD_tuple {d e : PyData} {o : Ordering} (h : ordD d e = some o) : (∃ a b, d = .int a ∧ e = .int b ∧ o = if a < b then .lt else if a = b then .eq else .gt) ∨ (∃ xs ys, d = .tuple xs ∧ e = .tuple ys ∧ ordL xs ys = some o) := by
  cases d <;> cases e <;> simp only [ordD, reduceCtorEq] at h
  · left; cases h; exact ⟨_, _, rfl, rfl, rfl⟩
  · right; exact ⟨_, _, rfl, rfl, h⟩
theorem ordAt : ∀ (n : Nat) (d e : PyData) (A : Around) (s : Shared) (a b : Value) (as bs : List Addr) (o : Ordering), d.depth ≤ n → ordD d e = some o → Reads s.heap a d as → Reads s.heap b e bs → d.canLay0 = true → e.canLay0 = true →
    A.units + n + 1 < cLine → OrdAt prog w A s a b o := by
  have list : ∀ (n : Nat), (∀ (d e : PyData) (A : Around) (s : Shared) (a b : Value) (as bs : List Addr) (o : Ordering), d.depth ≤ n → ordD d e = some o → Reads s.heap a d as → Reads s.heap b e bs → d.canLay0 = true → e.canLay0 = true →
      A.units + n + 1 < cLine → OrdAt prog w A s a b o) → ∀ (xs ys : List PyData) (A : Around) (s : Shared) (vs us : List Value) (as bs : List Addr) (o : Ordering), PyData.depthAll xs ≤ n → ordL xs ys = some o → ReadsAll s.heap vs xs as → ReadsAll s.heap us ys bs →
      PyData.canLayAll0 xs = true → PyData.canLayAll0 ys = true → A.units + n + 1 < cLine → Ors prog w A s vs us o := by
    intro n ih xs
    induction xs with
    | nil =>
      intro ys A s vs us as bs o hd ho r1 r2 c1 c2 hu
      cases r1
      cases ys with
      | nil => cases r2; cases ho; exact .nn
      | cons y ys => cases r2; cases ho; exact .nc
    | cons x xs hi =>
      intro ys A s vs us as bs o hd ho r1 r2 c1 c2 hu
      obtain ⟨v, vs', a1, a2, rfl, rv, rvs⟩ := readsAll_cons r1
      cases ys with
      | nil => cases r2; cases ho; exact .cn
      | cons y ys =>
        obtain ⟨u, us', b1, b2, rfl, ru, rus⟩ := readsAll_cons r2
        obtain ⟨cx, cxs⟩ := Bool.and_eq_true_iff.mp (show (x.canLay0 && PyData.canLayAll0 xs) = true from c1)
        obtain ⟨cy, cys⟩ := Bool.and_eq_true_iff.mp (show (y.canLay0 && PyData.canLayAll0 ys) = true from c2)
        have hd' : max x.depth (PyData.depthAll xs) ≤ n := hd
        have hx : x.depth ≤ n := Nat.le_trans (Nat.le_max_left _ _) hd'
        have hxs : PyData.depthAll xs ≤ n := Nat.le_trans (Nat.le_max_right _ _) hd'
        have he : EqAt A s v u (PyData.eqv x y) := eqAt_reads x y A s v u a1 b1 rv ru cx cy (by have : min x.depth y.depth ≤ x.depth := Nat.min_le_left _ _; omega)
        unfold ordL at ho
        cases hq : PyData.eqv x y with
        | true =>
          rw [hq] at ho he
          simp only [if_true] at ho
          exact .same he (hi ys A s vs' us' a2 b2 o hxs ho rvs rus cxs cys hu)
        | false =>
          rw [hq] at ho he
          simp only [Bool.false_eq_true, if_false] at ho
          cases hw : ordD x y with
          | none => rw [hw] at ho; cases ho
          | some o' =>
            rw [hw] at ho
            cases o' with
            | lt => cases ho; exact .diff he (ih x y A s v u a1 b1 .lt hx hw rv ru cx cy hu) (by decide)
            | eq => cases ho
            | gt => cases ho; exact .diff he (ih x y A s v u a1 b1 .gt hx hw rv ru cx cy hu) (by decide)
  intro n
  induction n with
  | zero =>
    intro d e A s a b as bs o hd ho ra rb ca cb hu
    rcases ordD_tuple ho with ⟨x, y, rfl, rfl, rfl⟩ | ⟨xs, ys, rfl, rfl, hl⟩
    · cases ra; cases rb; exact ord_int _ _ _ _
    · simp [PyData.depth] at hd
  | succ n ih =>
    intro d e A s a b as bs o hd ho ra rb ca cb hu
    rcases ordD_tuple ho with ⟨x, y, rfl, rfl, rfl⟩ | ⟨xs, ys, rfl, rfl, hl⟩
    · cases ra; cases rb; exact ord_int _ _ _ _
    · obtain ⟨a', oa, vs, na, _, rfl, ga, ca', da, rvs⟩ := reads_tuple ra
      obtain ⟨b', ob, us, nb, _, rfl, gb, cb', db, rus⟩ := reads_tuple rb
      have hd' : PyData.depthAll xs + 1 ≤ n + 1 := hd
      have hz : Ors prog w A.in1 s vs.toList us.toList o := list n ih xs ys A.in1 s vs.toList us.toList _ _ o (by omega) hl rvs rus ca cb (by show A.units + 1 + n + 1 < cLine; omega)
      intro op hop E Q h
      have Ta : s.TypeIs (.ref a') "tuple" := ⟨oa, ga, ca'⟩
      have Tb : s.TypeIs (.ref b') "tuple" := ⟨ob, gb, cb'⟩
      cases op <;> first | cases hop | skip
      · exact wpAny_richCompare_same_room (op := .Lt) Ta Tb F.slot_tuple_lt (wpAny_call_entry F.slot_tuple_lt Ta F.entry_tuple_lt (tup_lt ga da gb cb' db hz ⟨_, rfl, (fun e => nomatch e), h⟩) (F.args_tuple_lt_2 _ _)) (by omega)
      · exact wpAny_richCompare_same_room (op := .LtE) Ta Tb F.slot_tuple_le (wpAny_call_entry F.slot_tuple_le Ta F.entry_tuple_le (tup_le ga da gb cb' db hz ⟨_, rfl, (fun e => nomatch e), h⟩) (F.args_tuple_le_2 _ _)) (by omega)
      · exact wpAny_richCompare_same_room (op := .Gt) Ta Tb F.slot_tuple_gt (wpAny_call_entry F.slot_tuple_gt Ta F.entry_tuple_gt (tup_gt ga da gb cb' db hz ⟨_, rfl, (fun e => nomatch e), h⟩) (F.args_tuple_gt_2 _ _)) (by omega)
      · exact wpAny_richCompare_same_room (op := .GtE) Ta Tb F.slot_tuple_ge (wpAny_call_entry F.slot_tuple_ge Ta F.entry_tuple_ge (tup_ge ga da gb cb' db hz ⟨_, rfl, (fun e => nomatch e), h⟩) (F.args_tuple_ge_2 _ _)) (by omega)
theorem wp_cmp {op : CmpOp} {a b : Value} {da db : PyData} {c : Bool} {as bs : List Addr} (he : cmpD op da db = some c) (ra : Reads s.heap a da as) (rb : Reads s.heap b db bs) (hu : A.units + 100 < cLine) (h : Q (.bool c) s) :
    wpAny (model prog w) A (compareOp op a b) Q E s := by
  have ord : ∀ op', isOrd op' = true → (if okD da && okD db then (ordD da db).map (ordIs op') else none) = some c → wpAny (model prog w) A (richCompare op' a b) Q E s := by
    intro op' hop hh
    split at hh
    · rename_i hok
      obtain ⟨h1, h2⟩ := Bool.and_eq_true_iff.mp hok
      cases ho : ordD da db with
      | none => rw [ho] at hh; cases hh
      | some o =>
        rw [ho] at hh; cases hh
        exact ordAt 64 da db A s a b as bs o (okD_depth h1) ho ra rb (okD_lay h1) (okD_lay h2) (by omega) op' hop E Q h
    · cases hh
  cases op with
  | Eq => exact wp_eq he ra rb (by omega) h
  | NotEq =>
    simp only [cmpD] at he
    cases hq : eqD da db with
    | none => rw [hq] at he; cases he
    | some b => rw [hq] at he; cases he; exact wp_ne hq ra rb (by omega) h
  | Lt => exact ord .Lt rfl he
  | LtE => exact ord .LtE rfl he
  | Gt => exact ord .Gt rfl he
  | GtE => exact ord .GtE rfl he
  | Is => cases he
  | IsNot => cases he
  | In =>
    simp only [cmpD] at he
    cases db <;> first | cases he | skip
    all_goals
      dsimp only at he
      split at he
      · rename_i hok
        obtain ⟨h1, h2⟩ := Bool.and_eq_true_iff.mp hok
        cases he
        have := okD_depth h2
        first
          | exact in_list_reads rb ra (okD_lay h1) (okD_lay h2) (Nat.lt_of_le_of_lt (Nat.add_le_add_left (Nat.min_le_right _ _) _) (by omega)) h
          | exact in_tuple_reads rb ra (okD_lay h1) (okD_lay h2) (Nat.lt_of_le_of_lt (Nat.add_le_add_left (Nat.min_le_right _ _) _) (by omega)) h
      · cases he
  | NotIn =>
    simp only [cmpD] at he
    cases db <;> first | cases he | skip
    all_goals
      dsimp only at he
      split at he
      · rename_i hok
        obtain ⟨h1, h2⟩ := Bool.and_eq_true_iff.mp hok
        cases he
        have := okD_depth h2
        first
          | exact notIn_list_reads rb ra (okD_lay h1) (okD_lay h2) (Nat.lt_of_le_of_lt (Nat.add_le_add_left (Nat.min_le_right _ _) _) (by omega)) h
          | exact notIn_tuple_reads rb ra (okD_lay h1) (okD_lay h2) (Nat.lt_of_le_of_lt (Nat.add_le_add_left (Nat.min_le_right _ _) _) (by omega)) h
      · cases he
end
end Ev
set_option maxRecDepth 10000
namespace Ev
open PySem PySem.W PySem.Spec PySem.Calls PyProof.Rows PySem.SeqAt
mutual
noncomputable def hashK (w : World) : PyData → Int
  | .int i => hashInt i
  | .str x => hashStr w x
  | .tuple ds => reduceHash (Builtin.Tuple.tupleHashOf (hashKs w ds))
  | _ => 0
noncomputable def hashKs (w : World) : List PyData → List Int
  | [] => []
  | d :: ds => hashK w d :: hashKs w ds
end
structure Cx where
  prog : Program
  w : World
  h₀ : Heap
  H : PyData → Int
  names : List Str
  mg : Str → Option Value
  mb : Str → Option Value
  pin : Option (Str × Addr)
structure Cx.Ok (C : Cx) : Prop where
  g : C.h₀.Ns mainGlobals C.mg
  b : C.h₀.Ns builtinsNs C.mb
  lim : C.h₀.NoLimit
  hH : ∀ d, C.H d = hashK C.w d
structure Room (n : Nat) (A : Around) : Prop where
  dep : A.depth + n < recursionLimit
  uni : A.units + 3 * n + 400 < cLine
  hand : A.handled = none
theorem Room.in1 {n : Nat} {A : Around} (r : Room n A) : A.units + 400 < cLine := by have := r.uni; omega
structure Ct (C : Cx) (n : Nat) (sc : Scope) (A : Around) (env : Env) (base : Fz) (low : Fz) (F : Fz) (s : Shared) (σ : St) : Prop where
  ok : C.Ok
  room : Room n A
  scope : env.scope = sc
  k0 : ∀ b o, C.h₀.get? b = some o → base b = some o
  fs : Fs C.H C.names env base low F s.heap σ
  pin : ∀ x a, C.pin = some (x, a) → Lk env s.heap x (.ref a)
variable {C : Cx} {n : Nat} {sc : Scope} {A : Around} {env : Env} {base : Fz} {low : Fz} {F F' : Fz} {s s' : Shared} {σ : St}
theorem Ct.sat (X : Ct C n sc A env base low F s σ) : Sat F s.heap := X.fs.sat
theorem Ct.grow (X : Ct C n sc A env base low F s σ) (g : Grow F s F' s') : Ct C n sc A env base low F' s' σ := ⟨X.ok, X.room, X.scope, X.k0, X.fs.grow g, fun x a e => (X.pin x a e).keeps g.keep⟩
theorem Ct.keep0 (X : Ct C n sc A env base low F s σ) : ∀ b o, C.h₀.get? b = some o → s.heap.get? b = some o := fun b o e => X.fs.keep b o (X.k0 b o e)
theorem Ct.kindOf (X : Ct C n sc A env base low F s σ) (x : Str) : env.kindOf x = sc.names.lookup x := by unfold Env.kindOf; rw [X.scope]
noncomputable abbrev Wp {α : Type} (C : Cx) (A : Around) (t : Sem α) (Q : α → Shared → Prop) (s : Shared) : Prop := wpAny (model C.prog C.w) A t Q (fun _ _ => False) s
noncomputable def Post (C : Cx) (F : Fz) (s : Shared) (d : PyData) : Value → Shared → Prop := fun v s' => ∃ F', Grow F s F' s' ∧ R C.H F' v d
noncomputable def PostB (C : Cx) (F : Fz) (s : Shared) (d : PyData) : Value → Shared → Prop := fun v s' => ∃ F', Grow F s F' s' ∧ Bw C.H F' s'.heap v d
noncomputable def PostT (F : Fz) (s : Shared) (b : Bool) : Bool → Shared → Prop := fun b' s' => b' = b ∧ ∃ F', Grow F s F' s'
noncomputable def Snd (C : Cx) (n : Nat) (sc : Scope) (e : Expr) (f : St → Option PyData) : Prop :=
  ∀ {A env base low F s σ d}, Ct C n sc A env base low F s σ → f σ = some d → Wp C A (eval e env) (Post C F s d) s
noncomputable def SndB (C : Cx) (n : Nat) (sc : Scope) (e : Expr) (f : St → Option PyData) : Prop :=
  ∀ {A env base low F s σ d}, Ct C n sc A env base low F s σ → f σ = some d → Wp C A (eval e env) (PostB C F s d) s
noncomputable def SndT (C : Cx) (n : Nat) (sc : Scope) (e : Expr) (f : St → Option Bool) : Prop :=
  ∀ {A env base low F s σ b}, Ct C n sc A env base low F s σ → f σ = some b → Wp C A (isTrue e env (eval e env)) (PostT F s b) s
theorem wp_mono {α : Type} {t : Sem α} {Q Q' : α → Shared → Prop} (h : Wp C A t Q s) (k : ∀ a s, Q a s → Q' a s) : Wp C A t Q' s := wpAny_mono h k fun _ _ x => x
theorem Snd.b {e : Expr} {f : St → Option PyData} (h : Snd C n sc e f) : SndB C n sc e f := fun X hf => wp_mono (h X hf) fun _ _ ⟨F', g, r⟩ => ⟨F', g, .fz r⟩
/-! constants and names -/
noncomputable def cC (d : PyData) : St → Option PyData := fun _ => some d
theorem Snd.int {i : Int} {k : Nat} {pos : Pos} : Snd C n sc (.Constant (.int i) k pos) (cC (.int i)) := fun {A env base low F s σ d} X hf => by
  cases hf; exact wpAny_Constant_int ⟨F, .tok X.sat _, .int _ _⟩
theorem Snd.str {x : Str} {k : Nat} {pos : Pos} (hx : PyData.strOk x = true) : Snd C n sc (.Constant (.str x) k pos) (cC (.str x)) := fun {A env base low F s σ d} X hf => by
  cases hf; exact wpAny_Constant_str ⟨F, .tok X.sat _, .str _ _ hx⟩
theorem Snd.bool {b : Bool} {k : Nat} {pos : Pos} : Snd C n sc (.Constant (.bool b) k pos) (cC (.bool b)) := fun {A env base low F s σ d} X hf => by
  cases hf; exact wpAny_Constant_bool ⟨F, .refl X.sat, .bool _⟩
noncomputable def vC (i : Nat) : St → Option PyData := fun σ => match sget σ i with
  | some (false, d) => some d
  | _ => none
noncomputable def bC (i : Nat) : St → Option PyData := fun σ => match sget σ i with
  | some (_, d) => some d
  | _ => none
theorem Snd.var {i : Nat} {x : Str} {pos : Pos} (hi : C.names[i]? = some x) (hd : (x == ("__debug__" : Str)) = false := by decide) (hc : (x == ("__classdict__" : Str)) = false := by decide) : Snd C n sc (.Name x pos) (vC i) := fun {A env base low F s σ d} X hf => by
  unfold vC at hf
  split at hf
  · rename_i d' e
    cases hf
    obtain ⟨v, l, r⟩ := X.fs.vars i x _ hi e
    exact wpAny_Name (wp_load X.fs.kind l ⟨F, .refl X.sat, r⟩ hc) hd
  · cases hf
theorem SndB.var {i : Nat} {x : Str} {pos : Pos} (hi : C.names[i]? = some x) (hd : (x == ("__debug__" : Str)) = false := by decide) (hc : (x == ("__classdict__" : Str)) = false := by decide) : SndB C n sc (.Name x pos) (bC i) := fun {A env base low F s σ d} X hf => by
  unfold bC at hf
  split at hf
  · rename_i b d' e
    cases hf
    cases b with
    | false =>
      obtain ⟨v, l, r⟩ := X.fs.vars i x _ hi e
      exact wpAny_Name (wp_load X.fs.kind l ⟨F, .refl X.sat, .fz r⟩ hc) hd
    | true =>
      obtain ⟨a, l, o, _⟩ := X.fs.own i x _ hi e
      exact wpAny_Name (wp_load X.fs.kind l ⟨F, .refl X.sat, .ow o⟩ hc) hd
  · cases hf
/-! arithmetic -/
theorem Bw.list {H : PyData → Int} {F : Fz} {h : Heap} (st : Sat F h) {v : Value} {ds : List PyData} (b : Bw H F h v (.list ds)) : ∃ a vs n, v = .ref a ∧ h.get? a = some (seqObj "list" vs n) ∧ RL H F vs.toList ds := by
  cases b with
  | fz r => cases r with | list ho r => exact ⟨_, _, _, rfl, st _ _ ho, r⟩
  | ow o => cases o with | list ho r => exact ⟨_, _, _, rfl, ho, r⟩
theorem Bw.tuple {H : PyData → Int} {F : Fz} {h : Heap} (st : Sat F h) {v : Value} {ds : List PyData} (b : Bw H F h v (.tuple ds)) : ∃ a vs n, v = .ref a ∧ h.get? a = some (seqObj "tuple" vs n) ∧ RL H F vs.toList ds := by
  cases b with
  | fz r => cases r with | tuple ho r => exact ⟨_, _, _, rfl, st _ _ ho, r⟩
  | ow o => cases o
theorem Bw.int {H : PyData → Int} {F : Fz} {h : Heap} {v : Value} {i : Int} (b : Bw H F h v (.int i)) : ∃ t, v = .int i t := by
  cases b with
  | fz r => cases r; exact ⟨_, rfl⟩
  | ow o => cases o
theorem Bw.bool {H : PyData → Int} {F : Fz} {h : Heap} {v : Value} {i : Bool} (b : Bw H F h v (.bool i)) : v = .bool i := by
  cases b with
  | fz r => cases r; rfl
  | ow o => cases o
theorem R.toInt {H : PyData → Int} {F : Fz} {v : Value} {i : Int} (r : R H F v (.int i)) : ∃ t, v = .int i t := by cases r; exact ⟨_, rfl⟩
theorem R.toBool {H : PyData → Int} {F : Fz} {v : Value} {b : Bool} (r : R H F v (.bool b)) : v = .bool b := by cases r; rfl
noncomputable def small (i : Int) : Bool := decide (-18446744073709551616 < i) && decide (i < 18446744073709551616)
noncomputable def binD (op : Operator) (a b : PyData) : Option PyData := match op, a, b with
  | .Add, .int x, .int y => some (.int (x + y))
  | .Sub, .int x, .int y => some (.int (x - y))
  | .Mult, .int x, .int y => if small x then some (.int (x * y)) else none
  | .FloorDiv, .int x, .int y => if decide (0 < y) && decide (y < 1000000000) then some (.int (x.fdiv y)) else none
  | .Mod, .int x, .int y => if y = 0 then none else some (.int (x.fmod y))
  | .Pow, .int x, .int y => if decide (0 ≤ y) && decide (y ≤ 1000) && small x then some (.int (x ^ y.toNat)) else none
  | .Add, .list xs, .list ys => if xs.length + ys.length ≤ 1048576 then some (.list (xs ++ ys)) else none
  | _, _, _ => none
theorem small_nat {i : Int} (h : small i = true) : i.natAbs < 2 ^ 64 := by
  obtain ⟨h1, h2⟩ := Bool.and_eq_true_iff.mp h
  have := of_decide_eq_true h1
  have := of_decide_eq_true h2
  omega
theorem small_bits {i : Int} (h : small i = true) : Builtin.Int.intBits i ≤ 64 := by
  obtain ⟨h1, h2⟩ := Bool.and_eq_true_iff.mp h
  exact intBits_le_64 (by have := of_decide_eq_true h1; omega) (by have := of_decide_eq_true h2; omega)
theorem rl_arr {H : PyData → Int} {F : Fz} {xs : Array Value} {ds : List PyData} (r : RL H F xs.toList ds) : xs.size = ds.length := by rw [← r.length, Array.length_toList]
theorem wp_bin {op : Operator} {v1 v2 : Value} {d1 d2 d : PyData} (hs : Sat F s.heap) (h : binD op d1 d2 = some d) (r1 : Bw C.H F s.heap v1 d1) (r2 : Bw C.H F s.heap v2 d2) : Wp C A (binaryOp op v1 v2) (Post C F s d) s := by
  unfold binD at h
  split at h
  · obtain ⟨t, rfl⟩ := r1.int; obtain ⟨u, rfl⟩ := r2.int; cases h
    exact P.add_int ⟨F, .tok hs _, .int _ _⟩
  · obtain ⟨t, rfl⟩ := r1.int; obtain ⟨u, rfl⟩ := r2.int; cases h
    exact P.sub_int ⟨F, .tok hs _, .int _ _⟩
  · obtain ⟨t, rfl⟩ := r1.int; obtain ⟨u, rfl⟩ := r2.int
    split at h
    · rename_i hx; cases h
      exact P.mul_int ⟨F, .tok hs _, .int _ _⟩ (IntMulOk.of_left (small_bits hx))
    · cases h
  · obtain ⟨t, rfl⟩ := r1.int; obtain ⟨u, rfl⟩ := r2.int
    split at h
    · rename_i hx; cases h
      obtain ⟨h1, h2⟩ := Bool.and_eq_true_iff.mp hx
      have h1 := of_decide_eq_true h1
      have h2 := of_decide_eq_true h2
      exact PyProof.Rows.floordiv_int (by omega) ⟨F, .tok hs _, .int _ _⟩ (.inl (PyProof.noPylong_small (by omega)))
    · cases h
  · obtain ⟨t, rfl⟩ := r1.int; obtain ⟨u, rfl⟩ := r2.int
    split at h
    · cases h
    · rename_i hy; cases h
      exact PyProof.Rows.mod_int' hy ⟨F, .tok hs _, .int _ _⟩
  · obtain ⟨t, rfl⟩ := r1.int; obtain ⟨u, rfl⟩ := r2.int
    split at h
    · rename_i hx; cases h
      obtain ⟨hx, h3⟩ := Bool.and_eq_true_iff.mp hx
      obtain ⟨h1, h2⟩ := Bool.and_eq_true_iff.mp hx
      exact PyProof.Rows.pow_int_small (of_decide_eq_true h1) (by have := of_decide_eq_true h2; omega) (small_nat h3) ⟨F, .tok hs _, .int _ _⟩
    · cases h
  · split at h
    · rename_i hl; cases h
      obtain ⟨a, xs, n1, rfl, ha, ra⟩ := r1.list hs
      obtain ⟨b, ys, n2, rfl, hb, rb⟩ := r2.list hs
      have e1 := rl_arr ra
      have e2 := rl_arr rb
      refine P.add_list ha hb ⟨_, Grow.push hs (seqObj "list" (xs ++ ys) 0) rfl, .list (put_self ..) ?_⟩ (by rw [sizeLine_eq]; omega)
      rw [Array.toList_append]
      exact (ra.append rb).mono (put_sub (sat_fresh hs (get_size _)))
    · cases h
  · cases h
noncomputable def opC (op : Operator) (f g : St → Option PyData) : St → Option PyData := fun σ => match f σ with
  | some a => match g σ with
    | some b => binD op a b
    | none => none
  | none => none
theorem Snd.bin {op : Operator} {a b : Expr} {pos : Pos} {f g : St → Option PyData} (ha : SndB C n sc a f) (hb : SndB C n sc b g) : Snd C n sc (.BinOp a op b pos) (opC op f g) := fun {A env base low F s σ d} X hf => by
  unfold opC at hf
  split at hf
  · rename_i d1 e1
    split at hf
    · rename_i d2 e2
      refine wpAny_BinOp (wp_mono (ha X e1) fun v1 s1 ⟨F1, g1, r1⟩ => wp_mono (hb (X.grow g1) e2) fun v2 s2 ⟨F2, g2, r2⟩ => ?_)
      exact wp_mono (wp_bin g2.sat hf (r1.grow g2) r2) fun v s3 ⟨F3, g3, r3⟩ => ⟨F3, (g1.trans g2).trans g3, r3⟩
    · cases hf
  · cases hf
/-! comparisons -/
noncomputable def cmC (op : CmpOp) (f g : St → Option PyData) : St → Option Bool := fun σ => match f σ with
  | some a => match g σ with
    | some b => cmpD op a b
    | none => none
  | none => none
noncomputable def ofB (t : St → Option Bool) : St → Option PyData := fun σ => match t σ with
  | some b => some (.bool b)
  | none => none
theorem wp_cmpB {op : CmpOp} {v1 v2 : Value} {d1 d2 : PyData} {c : Bool} {Q : Value → Shared → Prop} (hs : Sat F s.heap) (hu : A.units + 400 < cLine) (h : cmpD op d1 d2 = some c) (r1 : Bw C.H F s.heap v1 d1) (r2 : Bw C.H F s.heap v2 d2)
    (hq : Q (.bool c) s) : Wp C A (compareOp op v1 v2) Q s := by
  obtain ⟨as, q1⟩ := r1.reads hs
  obtain ⟨bs, q2⟩ := r2.reads hs
  exact wp_cmp h q1 q2 (by omega) hq
theorem Snd.cmp {op : CmpOp} {a b : Expr} {pos : Pos} {f g : St → Option PyData} (ha : SndB C n sc a f) (hb : SndB C n sc b g) (hm : behindInMarks op b = false := by with_unfolding_all rfl) : Snd C n sc (.Compare a [op] [b] pos) (ofB (cmC op f g)) := fun {A env base low F s σ d} X hf => by
  unfold ofB cmC at hf
  cases e1 : f σ with
  | none => simp only [e1] at hf; cases hf
  | some d1 =>
    cases e2 : g σ with
    | none => simp only [e1, e2] at hf; cases hf
    | some d2 =>
      simp only [e1, e2] at hf
      cases e3 : cmpD op d1 d2 with
      | none => simp only [e3] at hf; cases hf
      | some c =>
        simp only [e3] at hf
        cases hf
        refine wpAny_Compare1 (wp_mono (ha X e1) fun v1 s1 ⟨F1, g1, r1⟩ => wp_mono (hb (X.grow g1) e2) fun v2 s2 ⟨F2, g2, r2⟩ => ?_) hm
        exact wp_cmpB g2.sat X.room.in1 e3 (r1.grow g2) r2 ⟨F2, g1.trans g2, .bool _⟩
theorem SndT.cmp {op : CmpOp} {a b : Expr} {pos : Pos} {f g : St → Option PyData} (ha : SndB C n sc a f) (hb : SndB C n sc b g) (hm : behindInMarks op b = false := by with_unfolding_all rfl) : SndT C n sc (.Compare a [op] [b] pos) (cmC op f g) := fun {A env base low F s σ d} X hf => by
  unfold cmC at hf
  cases e1 : f σ with
  | none => simp only [e1] at hf; cases hf
  | some d1 =>
    cases e2 : g σ with
    | none => simp only [e1, e2] at hf; cases hf
    | some d2 =>
      simp only [e1, e2] at hf
      refine wpAny_isTrue_Compare1 (wp_mono (ha X e1) fun v1 s1 ⟨F1, g1, r1⟩ => wp_mono (hb (X.grow g1) e2) fun v2 s2 ⟨F2, g2, r2⟩ => ?_) hm
      exact wp_cmpB g2.sat X.room.in1 hf (r1.grow g2) r2 (wpAny_truthy_bool ⟨rfl, F2, g1.trans g2⟩)
/-! chains -/
inductive SndCh (C : Cx) (n : Nat) (sc : Scope) : List CmpOp → List Expr → List (CmpOp × (St → Option PyData)) → Prop
  | nil : SndCh C n sc [] [] []
  | cons {op ops e es g l} : SndB C n sc e g → SndCh C n sc ops es l → SndCh C n sc (op :: ops) (e :: es) ((op, g) :: l)
/-! truth -/
noncomputable def truD : PyData → Option Bool
  | .bool b => some b
  | .int i => some (i != 0)
  | _ => none
noncomputable def tvC (f : St → Option PyData) : St → Option Bool := fun σ => match f σ with
  | some d => truD d
  | none => none
theorem wp_tru {v : Value} {d : PyData} {b : Bool} {Q : Bool → Shared → Prop} (h : truD d = some b) (r : Bw C.H F s.heap v d) (hq : Q b s) : Wp C A (truthy v) Q s := by
  cases d <;> simp only [truD, reduceCtorEq, Option.some.injEq] at h
  · subst h; rw [r.bool]; exact wpAny_truthy_bool hq
  · subst h; obtain ⟨t, rfl⟩ := r.int; exact P.truthy_int hq
theorem SndT.val {e : Expr} {f : St → Option PyData} (h : SndB C n sc e f) (he : ∀ env whole, isTrue e env whole = (do let v ← whole; standAt e.pos; holding [v] (truthy v)) := by intro _ _; rfl) : SndT C n sc e (tvC f) := fun {A env base low F s σ b} X hf => by
  unfold tvC at hf
  split at hf
  · rename_i d e1
    refine wpAny_isTrue_value (wp_mono (h X e1) fun v s1 ⟨F1, g1, r1⟩ => ?_) (he env _)
    exact wp_tru hf r1 ⟨rfl, F1, g1⟩
  · cases hf
noncomputable def anyC : List (St → Option Bool) → St → Option Bool
  | [], _ => some false
  | t :: ts, σ => match t σ with
    | some true => some true
    | some false => anyC ts σ
    | none => none
inductive SndTs (C : Cx) (n : Nat) (sc : Scope) : List Expr → List (St → Option Bool) → Prop
  | nil : SndTs C n sc [] []
  | cons {e es t ts} : SndT C n sc e t → SndTs C n sc es ts → SndTs C n sc (e :: es) (t :: ts)
theorem any_wp : ∀ {es : List Expr} {ts : List (St → Option Bool)}, SndTs C n sc es ts → ∀ {A env base low F s σ b}, Ct C n sc A env base low F s σ → anyC ts σ = some b → Wp C A (allTrue .Or es env) (PostT F s b) s := by
  intro es ts hts
  induction hts with
  | nil => intro _ _ _ _ _ _ _ _ X h; cases h; exact wpAny_allTrue_Or_nil ⟨rfl, _, .refl X.sat⟩
  | cons ht r ih =>
    intro _ _ _ _ _ _ _ _ X h
    simp only [anyC] at h
    split at h
    · rename_i e
      cases h
      refine wpAny_allTrue_Or_cons (wp_mono (ht X e) fun b1 s1 ⟨e1, F1, g1⟩ => ?_)
      subst e1
      simp only [if_true]
      exact ⟨rfl, F1, g1⟩
    · rename_i e
      refine wpAny_allTrue_Or_cons (wp_mono (ht X e) fun b1 s1 ⟨e1, F1, g1⟩ => ?_)
      subst e1
      simp only [Bool.false_eq_true, if_false]
      exact wp_mono (ih (X.grow g1) h) fun v s3 ⟨e3, F3, g3⟩ => ⟨e3, F3, g1.trans g3⟩
    · cases h
theorem SndT.or {es : List Expr} {ts : List (St → Option Bool)} {pos : Pos} (h : SndTs C n sc es ts) : SndT C n sc (.BoolOp .Or es pos) (anyC ts) := fun X hf => wpAny_isTrue_BoolOp (any_wp h X hf)
/-! and, or as values -/
noncomputable def orC (f g : St → Option PyData) : St → Option PyData := fun σ => match f σ with
  | some d => match truD d with
    | some true => some d
    | some false => g σ
    | none => none
  | none => none
noncomputable def andC (f g : St → Option PyData) : St → Option PyData := fun σ => match f σ with
  | some d => match truD d with
    | some true => g σ
    | some false => some d
    | none => none
  | none => none
theorem Snd.or {a b : Expr} {pos : Pos} {f g : St → Option PyData} (ha : Snd C n sc a f) (hb : Snd C n sc b g) : Snd C n sc (.BoolOp .Or [a, b] pos) (orC f g) := fun {A env base low F s σ d} X hf => by
  unfold orC at hf
  split at hf
  · rename_i d1 e1
    split at hf
    · rename_i e2
      cases hf
      refine wpAny_Or2 (wp_mono (ha X e1) fun v s1 ⟨F1, g1, r1⟩ => wp_tru e2 (.fz r1) ?_)
      simp only [if_true]
      exact ⟨F1, g1, r1⟩
    · rename_i e2
      refine wpAny_Or2 (wp_mono (ha X e1) fun v s1 ⟨F1, g1, r1⟩ => wp_tru e2 (.fz r1) ?_)
      simp only [Bool.false_eq_true, if_false]
      exact wp_mono (hb (X.grow g1) hf) fun v s3 ⟨F3, g3, r3⟩ => ⟨F3, g1.trans g3, r3⟩
    · cases hf
  · cases hf
theorem Snd.and {a b : Expr} {pos : Pos} {f g : St → Option PyData} (ha : Snd C n sc a f) (hb : Snd C n sc b g) : Snd C n sc (.BoolOp .And [a, b] pos) (andC f g) := fun {A env base low F s σ d} X hf => by
  unfold andC at hf
  split at hf
  · rename_i d1 e1
    split at hf
    · rename_i e2
      refine wpAny_And2 (wp_mono (ha X e1) fun v s1 ⟨F1, g1, r1⟩ => wp_tru e2 (.fz r1) ?_)
      simp only [if_true]
      exact wp_mono (hb (X.grow g1) hf) fun v s3 ⟨F3, g3, r3⟩ => ⟨F3, g1.trans g3, r3⟩
    · rename_i e2
      cases hf
      refine wpAny_And2 (wp_mono (ha X e1) fun v s1 ⟨F1, g1, r1⟩ => wp_tru e2 (.fz r1) ?_)
      simp only [Bool.false_eq_true, if_false]
      exact ⟨F1, g1, r1⟩
    · cases hf
  · cases hf
noncomputable def ifC (t : St → Option Bool) (f g : St → Option PyData) : St → Option PyData := fun σ => match t σ with
  | some true => f σ
  | some false => g σ
  | none => none
theorem Snd.ifx {t a b : Expr} {pos : Pos} {u : St → Option Bool} {f g : St → Option PyData} (ht : SndT C n sc t u) (ha : Snd C n sc a f) (hb : Snd C n sc b g) : Snd C n sc (.IfExp t a b pos) (ifC u f g) := fun {A env base low F s σ d} X hf => by
  unfold ifC at hf
  split at hf
  · rename_i e
    refine wpAny_IfExp (wp_mono (ht X e) fun b1 s1 ⟨e1, F1, g1⟩ => ?_)
    subst e1
    simp only [if_true]
    exact wp_mono (ha (X.grow g1) hf) fun v s3 ⟨F3, g3, r3⟩ => ⟨F3, g1.trans g3, r3⟩
  · rename_i e
    refine wpAny_IfExp (wp_mono (ht X e) fun b1 s1 ⟨e1, F1, g1⟩ => ?_)
    subst e1
    simp only [Bool.false_eq_true, if_false]
    exact wp_mono (hb (X.grow g1) hf) fun v s3 ⟨F3, g3, r3⟩ => ⟨F3, g1.trans g3, r3⟩
  · cases hf
end Ev
set_option maxRecDepth 10000
namespace Ev
open PySem PySem.W PySem.Spec PySem.Calls PyProof.Rows PySem.SeqAt
variable {C : Cx} {n : Nat} {sc : Scope} {A : Around} {env : Env} {base : Fz} {low : Fz} {F F' : Fz} {s s' : Shared} {σ : St}
/-! globals and built-ins -/
noncomputable def Cx.Bi (C : Cx) (x : Str) (v : Value) : Prop := C.mg x = none ∧ C.mb x = some v
noncomputable def Cx.Gl (C : Cx) (x : Str) (v : Value) : Prop := C.mg x = some v
theorem wp_builtin {x : Str} {pos : Pos} {v : Value} {Q : Value → Shared → Prop} (X : Ct C n sc A env base low F s σ) (hb : C.Bi x v) (hk : sc.names.lookup x = some .globalImplicit) (h : Q v s)
    (hd : (x == ("__debug__" : Str)) = false := by decide) : Wp C A (eval (.Name x pos) env) Q s := by
  refine Name_function_global X.fs.kind ((X.kindOf x).trans hk) (loadGlobal_builtin (mg := C.mg) (mb := C.mb) ?_ hb.1 ?_ hb.2 h) hd
  · rw [X.fs.glob]; exact X.ok.g.keeps X.keep0
  · rw [X.fs.blt]; exact X.ok.b.keeps X.keep0
theorem wp_global {x : Str} {pos : Pos} {v : Value} {Q : Value → Shared → Prop} (X : Ct C n sc A env base low F s σ) (hb : C.Gl x v) (hk : sc.names.lookup x = some .globalImplicit) (h : Q v s)
    (hd : (x == ("__debug__" : Str)) = false := by decide) : Wp C A (eval (.Name x pos) env) Q s := by
  refine Name_function_global X.fs.kind ((X.kindOf x).trans hk) (loadGlobal_global (mg := C.mg) ?_ hb h) hd
  rw [X.fs.glob]; exact X.ok.g.keeps X.keep0
/-! lists of arguments -/
inductive BwL (H : PyData → Int) (F : Fz) (h : Heap) : List Value → List PyData → Prop
  | nil : BwL H F h [] []
  | cons {v vs d ds} : Bw H F h v d → BwL H F h vs ds → BwL H F h (v :: vs) (d :: ds)
noncomputable abbrev Sf := List (St → Option PyData)
noncomputable def asC : Sf → St → Option (List PyData)
  | [], _ => some []
  | f :: fs, σ => match f σ with
    | some d => match asC fs σ with
      | some ds => some (d :: ds)
      | none => none
    | none => none
inductive SndAs (C : Cx) (n : Nat) (sc : Scope) : List Expr → Sf → Prop
  | nil : SndAs C n sc [] []
  | cons {e es f fs} : SndB C n sc e f → SndAs C n sc es fs → (∀ r env, starEach (e :: r) env = (false, eval e env) :: starEach r env) → SndAs C n sc (e :: es) (f :: fs)
inductive SndRs (C : Cx) (n : Nat) (sc : Scope) : List Expr → Sf → Prop
  | nil : SndRs C n sc [] []
  | cons {e es f fs} : Snd C n sc e f → SndRs C n sc es fs → (∀ r env, starEach (e :: r) env = (false, eval e env) :: starEach r env) → SndRs C n sc (e :: es) (f :: fs)
theorem asC_cons {f : St → Option PyData} {fs : Sf} {ds : List PyData} (h : asC (f :: fs) σ = some ds) : ∃ d r, f σ = some d ∧ asC fs σ = some r ∧ ds = d :: r := by
  simp only [asC] at h
  cases e1 : f σ with
  | none => rw [e1] at h; cases h
  | some d =>
    cases e2 : asC fs σ with
    | none => rw [e1] at h; simp only [e2] at h; cases h
    | some r => rw [e1] at h; simp only [e2] at h; cases h; exact ⟨d, r, rfl, rfl, rfl⟩
theorem argsB_wp {pos : Pos} : ∀ {es : List Expr} {fs : Sf}, SndAs C n sc es fs → ∀ {A env base low F s σ ds}, Ct C n sc A env base low F s σ → asC fs σ = some ds →
    Wp C A (spliced (backTo pos (starEach es env))) (fun vs s' => ∃ F', Grow F s F' s' ∧ BwL C.H F' s'.heap vs ds) s := by
  intro es fs hes
  induction hes with
  | nil => intro _ _ _ _ _ _ _ _ X h; cases h; exact spliced_nil ⟨_, .refl X.sat, .nil⟩
  | cons he r hs ih =>
    intro _ _ _ _ _ _ _ _ X h
    obtain ⟨d, ds', h1, h2, rfl⟩ := asC_cons h
    rw [hs]
    refine spliced_cons (wp_mono (he X h1) fun v s1 ⟨F1, g1, r1⟩ => ?_)
    exact wp_mono (ih (X.grow g1) h2) fun vs s2 ⟨F2, g2, r2⟩ => ⟨F2, g1.trans g2, .cons (r1.grow g2) r2⟩
theorem argsR_wp {pos : Pos} : ∀ {es : List Expr} {fs : Sf}, SndRs C n sc es fs → ∀ {A env base low F s σ ds}, Ct C n sc A env base low F s σ → asC fs σ = some ds →
    Wp C A (spliced (backTo pos (starEach es env))) (fun vs s' => ∃ F', Grow F s F' s' ∧ RL C.H F' vs ds) s := by
  intro es fs hes
  induction hes with
  | nil => intro _ _ _ _ _ _ _ _ X h; cases h; exact spliced_nil ⟨_, .refl X.sat, .nil⟩
  | cons he r hs ih =>
    intro _ _ _ _ _ _ _ _ X h
    obtain ⟨d, ds', h1, h2, rfl⟩ := asC_cons h
    rw [hs]
    refine spliced_cons (wp_mono (he X h1) fun v s1 ⟨F1, g1, r1⟩ => ?_)
    exact wp_mono (ih (X.grow g1) h2) fun vs s2 ⟨F2, g2, r2⟩ => ⟨F2, g1.trans g2, .cons (r1.mono g2.sub) r2⟩
/-! displays -/
noncomputable def okLen (ds : List PyData) : Bool := decide (ds.length ≤ 1048576)
theorem okLen_le {ds : List PyData} (h : okLen ds = true) : ds.length ≤ sizeLine := by
  have := of_decide_eq_true h
  rw [sizeLine_eq]; omega
noncomputable def tupC (fs : Sf) : St → Option PyData := fun σ => match asC fs σ with
  | some ds => if okLen ds then some (.tuple ds) else none
  | none => none
noncomputable def lstC (fs : Sf) : St → Option PyData := fun σ => match asC fs σ with
  | some ds => if okLen ds then some (.list ds) else none
  | none => none
theorem wp_newList {vs : List Value} {ds : List PyData} (hs : Sat F s.heap) (r : RL C.H F vs ds) (hl : okLen ds = true) : Wp C A (newList vs) (Post C F s (.list ds)) s := by
  refine PySem.wpAny_newList ⟨_, Grow.push hs (seqObj "list" vs.toArray 0) rfl, .list (put_self ..) ?_⟩ ?_
  · exact r.mono (put_sub (sat_fresh hs (get_size _)))
  · rw [r.length]; exact okLen_le hl
theorem wp_newTuple {vs : List Value} {ds : List PyData} (hs : Sat F s.heap) (r : RL C.H F vs ds) (hl : okLen ds = true) : Wp C A (newTuple vs) (Post C F s (.tuple ds)) s := by
  refine PySem.wpAny_newTuple ⟨_, Grow.push hs (seqObj "tuple" vs.toArray 0) rfl, .tuple (put_self ..) ?_⟩ ?_
  · exact r.mono (put_sub (sat_fresh hs (get_size _)))
  · rw [r.length]; exact okLen_le hl
theorem Snd.tuple {es : List Expr} {fs : Sf} {k : Nat} {pos : Pos} (h : SndRs C n sc es fs) : Snd C n sc (.Tuple es k pos) (tupC fs) := fun {A env base low F s σ d} X hf => by
  unfold tupC at hf
  cases e : asC fs σ with
  | none => rw [e] at hf; cases hf
  | some ds =>
    rw [e] at hf
    dsimp only at hf
    split at hf
    · rename_i hl
      cases hf
      rw [arm_eval_Tuple]
      refine wpAny_bind (wpAny_standAt (wpAny_bind (wp_mono (argsR_wp h X e) fun vs s1 ⟨F1, g1, r1⟩ => ?_)))
      exact wp_mono (wp_newTuple g1.sat r1 hl) fun v s2 ⟨F2, g2, r2⟩ => ⟨F2, g1.trans g2, r2⟩
    · cases hf
theorem Snd.list {es : List Expr} {fs : Sf} {pos : Pos} (h : SndRs C n sc es fs) : Snd C n sc (.List es pos) (lstC fs) := fun {A env base low F s σ d} X hf => by
  unfold lstC at hf
  cases e : asC fs σ with
  | none => rw [e] at hf; cases hf
  | some ds =>
    rw [e] at hf
    dsimp only at hf
    split at hf
    · rename_i hl
      cases hf
      rw [arm_eval_List]
      refine wpAny_bind (wpAny_standAt (wpAny_bind (wp_mono (argsR_wp h X e) fun vs s1 ⟨F1, g1, r1⟩ => ?_)))
      exact wp_mono (wp_newList g1.sat r1 hl) fun v s2 ⟨F2, g2, r2⟩ => ⟨F2, g1.trans g2, r2⟩
    · cases hf
/-! calls of the text's functions -/
structure FnAtX (C : Cx) (fa : Addr) : Prop where
  fn : ∃ o fd, C.h₀.get? fa = some o ∧ o.data = .func fd
noncomputable def FnOk (C : Cx) (n : Nat) (fa : Addr) (g : List PyData → Option PyData) : Prop :=
  ∀ {A F s vs ds d}, Room n A → (∀ b o, C.h₀.get? b = some o → s.heap.get? b = some o) → Sat F s.heap → RL C.H F vs ds → g ds = some d → Wp C A (call (.ref fa) vs) (Post C F s d) s
noncomputable def FnB (C : Cx) (n : Nat) (fa : Addr) (g : List PyData → Option PyData) : Prop :=
  ∀ {A F s vs ds d}, Room n A → (∀ b o, C.h₀.get? b = some o → s.heap.get? b = some o) → Sat F s.heap → BwL C.H F s.heap vs ds → g ds = some d → Wp C A (call (.ref fa) vs) (Post C F s d) s
theorem Room.le {n m : Nat} {A : Around} (h : m ≤ n) (r : Room n A) : Room m A := ⟨by have := r.dep; omega, by have := r.uni; omega, r.hand⟩
noncomputable def callC (g : List PyData → Option PyData) (fs : Sf) : St → Option PyData := fun σ => match asC fs σ with
  | some ds => g ds
  | none => none
theorem Snd.call {x : Str} {px pos : Pos} {e : Expr} {es : List Expr} {f : St → Option PyData} {fs : Sf} {fa : Addr} {g : List PyData → Option PyData} {m : Nat} (hg : C.Gl x (.ref fa)) (hk : sc.names.lookup x = some .globalImplicit)
    (hx : FnAtX C fa) (hf : FnOk C m fa g) (h : SndRs C n sc (e :: es) (f :: fs)) (hm : m ≤ n) (hd : (x == ("__debug__" : Str)) = false := by decide) :
    Snd C n sc (.Call (.Name x px) (e :: es) [] pos) (callC g (f :: fs)) := fun {A env base low F s σ d} X hc => by
  unfold callC at hc
  cases e : asC (f :: fs) σ with
  | none => rw [e] at hc; cases hc
  | some ds =>
    rw [e] at hc
    dsimp only at hc
    obtain ⟨o, fd, ho, hdat⟩ := hx.fn
    refine Call_ (wp_global X hg hk (callWith_def hdat (wp_mono (argsR_wp h X e) fun vs s1 ⟨F1, g1, r1⟩ => ?_) ?_) hd)
    · refine ⟨g1.keep _ _ (X.keep0 _ _ ho), ?_⟩
      exact wp_mono (hf (X.room.le hm) (fun b o q => g1.keep _ _ (X.keep0 _ _ q)) g1.sat r1 hc) fun v s2 ⟨F2, g2, r2⟩ => ⟨F2, g1.trans g2, r2⟩
    · cases h with | cons _ _ hs => exact hs _ _
theorem Snd.callB {x : Str} {px pos : Pos} {e : Expr} {es : List Expr} {f : St → Option PyData} {fs : Sf} {fa : Addr} {g : List PyData → Option PyData} {m : Nat} (hg : C.Gl x (.ref fa)) (hk : sc.names.lookup x = some .globalImplicit)
    (hx : FnAtX C fa) (hf : FnB C m fa g) (h : SndAs C n sc (e :: es) (f :: fs)) (hm : m ≤ n) (hd : (x == ("__debug__" : Str)) = false := by decide) :
    Snd C n sc (.Call (.Name x px) (e :: es) [] pos) (callC g (f :: fs)) := fun {A env base low F s σ d} X hc => by
  unfold callC at hc
  cases e : asC (f :: fs) σ with
  | none => rw [e] at hc; cases hc
  | some ds =>
    rw [e] at hc
    dsimp only at hc
    obtain ⟨o, fd, ho, hdat⟩ := hx.fn
    refine Call_ (wp_global X hg hk (callWith_def hdat (wp_mono (argsB_wp h X e) fun vs s1 ⟨F1, g1, r1⟩ => ?_) ?_) hd)
    · refine ⟨g1.keep _ _ (X.keep0 _ _ ho), ?_⟩
      exact wp_mono (hf (X.room.le hm) (fun b o q => g1.keep _ _ (X.keep0 _ _ q)) g1.sat r1 hc) fun v s2 ⟨F2, g2, r2⟩ => ⟨F2, g1.trans g2, r2⟩
    · cases h with | cons _ _ hs => exact hs _ _
/-! calls of built-ins, on data that stand -/
noncomputable def BiOk (C : Cx) (v : Value) (g : List PyData → Option PyData) : Prop :=
  ∀ {A F s vs ds d}, A.units + 400 < cLine → A.handled = none → Sat F s.heap → BwL C.H F s.heap vs ds → g ds = some d → Wp C A (call v vs) (Post C F s d) s
theorem Snd.bi {x : Str} {px pos : Pos} {e : Expr} {es : List Expr} {f : St → Option PyData} {fs : Sf} {id : String} {g : List PyData → Option PyData} (hb : C.Bi x (.builtin id)) (hk : sc.names.lookup x = some .globalImplicit)
    (hf : BiOk C (.builtin id) g) (h : SndAs C n sc (e :: es) (f :: fs)) (hp : ∀ env, (backTo pos (starEach es env)).any (·.1) = false := by intro _; rfl) (hd : (x == ("__debug__" : Str)) = false := by decide) :
    Snd C n sc (.Call (.Name x px) (e :: es) [] pos) (callC g (f :: fs)) := fun {A env base low F s σ d} X hc => by
  unfold callC at hc
  cases e : asC (f :: fs) σ with
  | none => rw [e] at hc; cases hc
  | some ds =>
    rw [e] at hc
    dsimp only at hc
    refine Call_ (wp_builtin X hb hk (callWith_builtin1 (wp_mono (argsB_wp h X e) fun vs s1 ⟨F1, g1, r1⟩ => ?_) ?_ (hp env)) hd)
    · exact wp_mono (hf X.room.in1 X.room.hand g1.sat r1 hc) fun v s2 ⟨F2, g2, r2⟩ => ⟨F2, g1.trans g2, r2⟩
    · cases h with | cons _ _ hs => exact hs _ _
theorem Snd.ty {x : Str} {px pos : Pos} {e : Expr} {es : List Expr} {f : St → Option PyData} {fs : Sf} {T : String} {g : List PyData → Option PyData} (hb : C.Bi x (.type T)) (hk : sc.names.lookup x = some .globalImplicit)
    (hf : BiOk C (.type T) g) (h : SndAs C n sc (e :: es) (f :: fs)) (hp : ∀ env, (backTo pos (starEach es env)).any (·.1) = false := by intro _; rfl) (hd : (x == ("__debug__" : Str)) = false := by decide) :
    Snd C n sc (.Call (.Name x px) (e :: es) [] pos) (callC g (f :: fs)) := fun {A env base low F s σ d} X hc => by
  unfold callC at hc
  cases e : asC (f :: fs) σ with
  | none => rw [e] at hc; cases hc
  | some ds =>
    rw [e] at hc
    dsimp only at hc
    refine Call_ (wp_builtin X hb hk (PyProof.Rows.callWith_type1 (wp_mono (argsB_wp h X e) fun vs s1 ⟨F1, g1, r1⟩ => ?_) ?_ (hp env)) hd)
    · exact wp_mono (hf X.room.in1 X.room.hand g1.sat r1 hc) fun v s2 ⟨F2, g2, r2⟩ => ⟨F2, g1.trans g2, r2⟩
    · cases h with | cons _ _ hs => exact hs _ _
end Ev
set_option maxRecDepth 10000
namespace Ev
open PySem PySem.W PySem.Spec PySem.Calls PyProof.Rows PySem.SeqAt
variable {C : Cx} {n : Nat} {sc : Scope} {A : Around} {env : Env} {base : Fz} {low : Fz} {F F' : Fz} {s s' : Shared} {σ : St}
theorem Cx.Ok.small (h : C.Ok) (k : ∀ b o, C.h₀.get? b = some o → s.heap.get? b = some o) {a : Addr} (ha : s.heap.objs.size ≤ a) : (a == sysModules) = false := by
  obtain ⟨o, _, _, ho, _⟩ := h.g
  have h3 : mainGlobals < s.heap.objs.size := Heap.lt_size (k _ _ ho)
  rw [beq_eq_false_iff_ne]
  intro e
  rw [e] at ha
  have h4 : s.heap.objs.size ≤ 1 := ha
  have h5 : 3 < s.heap.objs.size := h3
  omega
theorem BwL.one {H : PyData → Int} {h : Heap} {vs : List Value} {d : PyData} (b : BwL H F h vs [d]) : ∃ v, vs = [v] ∧ Bw H F h v d := by
  cases b with | cons x r => cases r; exact ⟨_, rfl, x⟩
theorem BwL.two {H : PyData → Int} {h : Heap} {vs : List Value} {d e : PyData} (b : BwL H F h vs [d, e]) : ∃ v u, vs = [v, u] ∧ Bw H F h v d ∧ Bw H F h u e := by
  cases b with | cons x r => cases r with | cons y r => cases r; exact ⟨_, _, rfl, x, y⟩
theorem Bw.dict {H : PyData → Int} {h : Heap} (st : Sat F h) {v : Value} {kvs : List (PyData × PyData)} (b : Bw H F h v (.dict kvs)) : ∃ a o es m kd, v = .ref a ∧ (a == sysModules) = false ∧ h.get? a = some o ∧ o.ExactDict ∧ o.data = .dict es m ∧
    RD H F kd es.toList kvs ∧ (kvs.map (·.1)).Nodup := by
  cases b with
  | fz r => cases r with | dict hs ho hc hd r hn => exact ⟨_, _, _, _, _, rfl, hs, st _ _ ho, hc, hd, r, hn⟩
  | ow o => cases o with | dict hs ho hc hd r hn => exact ⟨_, _, _, _, _, rfl, hs, ho, hc, hd, r, hn⟩
theorem RD.length {H : PyData → Int} : ∀ {kd} {es : List DictEntry} {kvs : List (PyData × PyData)}, RD H F kd es kvs → es.length = kvs.length := fun {_ _ _} r => RD.ind (P := fun es kvs => es.length = kvs.length) rfl (fun _ _ _ _ _ _ _ e => congrArg (· + 1) e) r
/-! len -/
noncomputable def lenG : List PyData → Option PyData
  | [.list ds] => if okLen ds then some (.int ds.length) else none
  | [.tuple ds] => if okLen ds then some (.int ds.length) else none
  | [.dict kvs] => if kvs.length ≤ 1048576 then some (.int kvs.length) else none
  | _ => none
theorem biLen : BiOk C (.builtin "len") lenG := fun {A F s vs ds d} hu hh hs b h => by
  unfold lenG at h
  split at h
  · split at h
    · rename_i hl
      cases h
      obtain ⟨v, rfl, c⟩ := b.one
      obtain ⟨a, ws, k, rfl, ha, r⟩ := c.list hs
      have e := rl_arr r
      have := of_decide_eq_true hl
      refine PySem.Calls.call_len_list (items := ws) ⟨_, ha, rfl, k, rfl⟩ (by rw [e]; omega) ⟨F, .tok hs _, ?_⟩
      rw [e]; exact .int _ _
    · cases h
  · split at h
    · rename_i hl
      cases h
      obtain ⟨v, rfl, c⟩ := b.one
      obtain ⟨a, ws, k, rfl, ha, r⟩ := c.tuple hs
      have e := rl_arr r
      have := of_decide_eq_true hl
      refine P.len_tuple (items := ws) (n := k) ha (by rw [e]; omega) ⟨F, .tok hs _, ?_⟩
      rw [e]; exact .int _ _
    · cases h
  · split at h
    · rename_i hl
      cases h
      obtain ⟨v, rfl, c⟩ := b.one
      obtain ⟨a, o, es, k, kd, rfl, hsm, ha, hc, hd, r, _⟩ := c.dict hs
      have e : es.size = _ := (Array.length_toList ..).symm.trans r.length
      refine call_len_slot (T := "dict") ⟨o, ha, hc.1⟩ PySem.F.slot_dict_len (n := es.size) (fun Q' hq => ?_) (by omega) (by omega) ⟨F, .tok hs _, ?_⟩
      · refine wpAny_call_entry PySem.F.slot_dict_len ⟨o, ha, hc.1⟩ PySem.F.entry_dict_len ?_ (PySem.F.args_dict_len_1 _)
        show wpAny _ _ (dictSize a >>= _) _ _ s
        unfold dictSize
        refine wpAny_bind (wpAny_bind (wpAny_dictEntries ha hd (wpAny_pure ?_)))
        show wpAny _ _ (Builtin.Dict.pendingCount a >>= _) _ _ s
        refine wpAny_bind (wpAny_pendingCount_other hsm ?_)
        refine wpAny_ret_mkInt ?_
        rw [Nat.add_zero]; exact hq
      · rw [e]; exact .int _ _
    · cases h
  · cases h
/-! ints of a list -/
noncomputable def intsD : List PyData → Option (List Int)
  | [] => some []
  | .int i :: r => match intsD r with
    | some is => some (i :: is)
    | none => none
  | _ :: _ => none
theorem intsD_map : ∀ {ds : List PyData} {is : List Int}, intsD ds = some is → ds = is.map .int
  | [], _, h => by cases h; rfl
  | .int i :: r, is, h => by
    simp only [intsD] at h
    cases e : intsD r with
    | none => rw [e] at h; cases h
    | some js => rw [e] at h; cases h; rw [intsD_map e]; rfl
  | .none :: _, _, h => by cases h
  | .bool _ :: _, _, h => by cases h
  | .str _ :: _, _, h => by cases h
  | .list _ :: _, _, h => by cases h
  | .tuple _ :: _, _, h => by cases h
  | .dict _ :: _, _, h => by cases h
theorem RL.ints {H : PyData → Int} : ∀ {vs : List Value} {is : List Int}, RL H F vs (is.map .int) → IntsAre vs is
  | _, [], r => by cases r; exact .nil
  | _, i :: is, r => by
    cases r with | cons a b => obtain ⟨t, rfl⟩ := a.toInt; exact .cons _ _ (RL.ints b)
noncomputable def sumG : List PyData → Option PyData
  | [.list ds] => match intsD ds with
    | some is => some (.int is.sum)
    | none => none
  | _ => none
theorem biSum : BiOk C (.builtin "sum") sumG := fun {A F s vs ds d} hu hh hs b h => by
  unfold sumG at h
  split at h
  · rename_i ds
    split at h
    · rename_i is e
      cases h
      obtain ⟨v, rfl, c⟩ := b.one
      obtain ⟨a, ws, k, rfl, ha, r⟩ := c.list hs
      rw [intsD_map e] at r
      have hi := r.ints
      obtain ⟨xs, hx⟩ := hi.allInts.items
      have hx' : ws = intItems xs := by simpa using hx
      subst hx'
      refine PySem.sum_intListG hh ⟨_, ha, rfl, k, rfl⟩ fun h' tk t' hk => ⟨F, .ofKeep hs hk rfl rfl rfl, ?_⟩
      have e2 := hi.numsOf
      rw [nums_intItems] at e2
      rw [preSum_eq, List.take_of_length_le (by simp), e2]
      exact .int _ _
    · cases h
  · cases h
noncomputable def intG : List PyData → Option PyData
  | [.bool b] => some (.int (if b then 1 else 0))
  | _ => none
theorem biInt : BiOk C (.type "int") intG := fun {A F s vs ds d} hu hh hs b h => by
  unfold intG at h
  split at h
  · cases h
    obtain ⟨v, rfl, c⟩ := b.one
    rw [c.bool]
    exact PySem.call_int_bool ⟨F, .tok hs _, .int _ _⟩
  · cases h
noncomputable def isTupC (f : St → Option PyData) : St → Option PyData := fun σ => match f σ with
  | some (.int _) => some (.bool false)
  | _ => none
theorem Snd.isTup {px pt pos : Pos} {e : Expr} {f : St → Option PyData} (h1 : C.Bi "isinstance" (.builtin "isinstance")) (h2 : C.Bi "tuple" (.type "tuple")) (k1 : sc.names.lookup (Str.ofString "isinstance") = some .globalImplicit) (k2 : sc.names.lookup (Str.ofString "tuple") = some .globalImplicit)
    (h : SndB C n sc e f) (hs : ∀ r env, starEach (e :: r) env = (false, eval e env) :: starEach r env := by intro _ _; rfl) : Snd C n sc (.Call (.Name "isinstance" px) [e, .Name "tuple" pt] [] pos) (isTupC f) := fun {A env base low F s σ d} X hc => by
  unfold isTupC at hc
  split at hc
  · rename_i i e1
    cases hc
    refine Call_ (wp_builtin X h1 k1 (callWith_builtin1 (args_cons (wp_mono (h X e1) fun v s1 ⟨F1, g1, r1⟩ => ?_) (hs _ _)) (hs _ _)))
    obtain ⟨t, rfl⟩ := r1.int
    refine args_cons (wp_builtin (X.grow g1) h2 k2 (args_nil ?_))
    exact IsiPair.int_tuple ⟨F1, g1.trans (.tok g1.sat _), .bool _⟩
  · cases hc
end Ev
set_option maxRecDepth 10000
namespace Ev
open PySem PySem.W PySem.Spec PySem.Calls PyProof.Rows PySem.SeqAt
variable {C : Cx} {n : Nat} {sc : Scope} {A : Around} {env : Env} {base : Fz} {low : Fz} {F F' : Fz} {s s' : Shared} {σ : St}
section
variable {prog : Program} {w : World}
theorem orsAt (n : Nat) : ∀ (xs ys : List PyData) (A : Around) (s : Shared) (vs us : List Value) (as bs : List Addr) (o : Ordering), PyData.depthAll xs ≤ n → ordL xs ys = some o → ReadsAll s.heap vs xs as → ReadsAll s.heap us ys bs →
    PyData.canLayAll0 xs = true → PyData.canLayAll0 ys = true → A.units + n + 1 < cLine → Ors prog w A s vs us o := by
  intro xs
  induction xs with
  | nil =>
    intro ys A s vs us as bs o hd ho r1 r2 c1 c2 hu
    cases r1
    cases ys with
    | nil => cases r2; cases ho; exact .nn
    | cons y ys => cases r2; cases ho; exact .nc
  | cons x xs hi =>
    intro ys A s vs us as bs o hd ho r1 r2 c1 c2 hu
    obtain ⟨v, vs', a1, a2, rfl, rv, rvs⟩ := readsAll_cons r1
    cases ys with
    | nil => cases r2; cases ho; exact .cn
    | cons y ys =>
      obtain ⟨u, us', b1, b2, rfl, ru, rus⟩ := readsAll_cons r2
      obtain ⟨cx, cxs⟩ := Bool.and_eq_true_iff.mp (show (x.canLay0 && PyData.canLayAll0 xs) = true from c1)
      obtain ⟨cy, cys⟩ := Bool.and_eq_true_iff.mp (show (y.canLay0 && PyData.canLayAll0 ys) = true from c2)
      have hd' : max x.depth (PyData.depthAll xs) ≤ n := hd
      have hx : x.depth ≤ n := Nat.le_trans (Nat.le_max_left _ _) hd'
      have hxs : PyData.depthAll xs ≤ n := Nat.le_trans (Nat.le_max_right _ _) hd'
      have he : EqAt A s v u (PyData.eqv x y) := eqAt_reads x y A s v u a1 b1 rv ru cx cy (by have : min x.depth y.depth ≤ x.depth := Nat.min_le_left _ _; omega)
      unfold ordL at ho
      cases hq : PyData.eqv x y with
      | true =>
        rw [hq] at ho he
        simp only [if_true] at ho
        exact .same he (hi ys A s vs' us' a2 b2 o hxs ho rvs rus cxs cys hu)
      | false =>
        rw [hq] at ho he
        simp only [Bool.false_eq_true, if_false] at ho
        cases hw : ordD x y with
        | none => rw [hw] at ho; cases ho
        | some o' =>
          rw [hw] at ho
          cases o' with
          | lt => cases ho; exact .diff he (ordAt n x y A s v u a1 b1 .lt hx hw rv ru cx cy hu) (by decide)
          | eq => cases ho
          | gt => cases ho; exact .diff he (ordAt n x y A s v u a1 b1 .gt hx hw rv ru cx cy hu) (by decide)
theorem lex_of_ors {b fin : Bool} {Q : Bool → Shared → Prop} : ∀ {vs us : List Value} {o : Ordering} {i : Nat} {k : Nat} {m l : Nat}, Ors prog w A s vs us o → (b && i == 0) = false → m = k + vs.length → l = k + us.length → fin = decide (m < l) → Q (ordIs .Lt o) s →
    KatLex prog w A b fin Q (vs.zip us) i s := by
  intro vs us o i k m l h
  induction h generalizing i k with
  | nn => intro _ e1 e2 e3 hq; refine kat_nil ?_; simp only [List.length_nil] at e1 e2; have : fin = ordIs .Lt .eq := by rw [e3]; simp [ordIs]; omega
          rw [this]; exact hq
  | nc => intro _ e1 e2 e3 hq; refine kat_nil ?_; simp only [List.length_nil, List.length_cons] at e1 e2; have : fin = ordIs .Lt .lt := by rw [e3]; simp [ordIs]; omega
          rw [this]; exact hq
  | cn => intro _ e1 e2 e3 hq; refine kat_nil ?_; simp only [List.length_nil, List.length_cons] at e1 e2; have : fin = ordIs .Lt .gt := by rw [e3]; simp [ordIs]; omega
          rw [this]; exact hq
  | @same v u vs us o e r ih =>
    intro hb e1 e2 e3 hq
    simp only [List.length_cons] at e1 e2
    refine kat_cons (e prog w _ _ (kat_yes (ih (k := k + 1) (by simp) (by omega) (by omega) e3 hq)))
  | @diff v u vs us o e oo ne =>
    intro hb e1 e2 e3 hq
    refine kat_cons (e prog w _ _ (kat_no ?_))
    rw [hb]
    exact kat_one _ _ (oo .Lt rfl _ _ hq)
noncomputable def runO {α : Type} (lt : Nat → Nat → Option Bool) : KasT α → Option α
  | .ret a => some a
  | .ask i j k => match lt i j with
    | some true => runO lt (k true)
    | some false => runO lt (k false)
    | none => none
theorem runO_wp {α : Type} {lt : Nat → Nat → Option Bool} {cmp : Nat → Nat → (Bool → Shared → Prop) → Shared → Prop} {Q : α → Shared → Prop} (hc : ∀ i j b, lt i j = some b → ∀ K : Bool → Shared → Prop, K b s → cmp i j K s) :
    ∀ (t : KasT α) {p : α}, runO lt t = some p → Q p s → t.kasWp cmp Q s
  | .ret a, p, h, hq => by cases h; exact hq
  | .ask i j k, p, h, hq => by
    show cmp i j _ s
    simp only [runO] at h
    split at h
    · rename_i e; exact hc _ _ _ e _ (runO_wp hc (k true) h hq)
    · rename_i e; exact hc _ _ _ e _ (runO_wp hc (k false) h hq)
    · cases h
theorem sort_tree {a : Addr} {vs : List Value} {m : Nat} {P : PySem.Fin → Shared → Prop} {κ : SortKind} {lt : Nat → Nat → Option Bool} {p : Array Nat} (ho : s.heap.get? a = some (seqObj "list" vs.toArray m)) (h2 : 2 ≤ vs.length) (h64 : vs.length < 64)
    (hκ : ∀ s1 : Shared, (∀ b o, b ≠ a → s.heap.get? b = some o → s1.heap.get? b = some o) → ∀ Q' : SortKind → Shared → Prop, Q' κ s1 → wpAny (model prog w) A (keyKind' vs.toArray) Q' (fun _ _ => False) s1)
    (hlt : ∀ s1 : Shared, (∀ b o, b ≠ a → s.heap.get? b = some o → s1.heap.get? b = some o) → ∀ i j b, lt i j = some b → ∀ Q' : Bool → Shared → Prop, Q' b s1 → wpAny (model prog w) A (keyLt' κ (vs.getD i .none) (vs.getD j .none)) Q' (fun _ _ => False) s1)
    (hp : runO lt (kas_sort vs.length) = some p)
    (h : P (.done (.ret .none)) { s with heap := sortedHeap s.heap a vs (p.toList.map fun i => vs.getD i .none).toArray }) {E : Value → Shared → Prop} :
    wpAny (model prog w) A (Builtin.«list.sort» ⟨[.ref a], []⟩) P E s := by
  rw [list_sort_plain]
  have ha : a < s.heap.objs.size := Heap.lt_size ho
  refine wpAny_bind (listItems_at ho rfl ?_)
  refine wpAny_bind (listUpdate_at ho rfl ?_ (by rw [List.size_toArray, sizeLine_eq]; omega) (Nat.zero_le _))
  obtain ⟨e1, ho1⟩ : ∃ e1, (s.heap.update a (Obj.mapSeq fun _ => #[])).get? a = some (seqObj "list" #[] e1) := ⟨_, get?_update_seq ho (fun _ => #[])⟩
  refine wpAny_bind (seqEpoch_at ho1 rfl ?_)
  refine wpAny_bind (PySem.wpAny_newTuple ?_ (by show vs.length ≤ _; rw [sizeLine_eq]; omega))
  refine wpAny_bind (PySem.wpAny_newList ?_ (Nat.zero_le _))
  refine wpAny_holding ?_
  have ho6 : (((s.heap.update a (Obj.mapSeq fun _ => #[])).push (seqObj "tuple" vs.toArray 0)).push (seqObj "list" #[] 0)).get? a = some (seqObj "list" #[] e1) := by
    rw [Heap.get?_push_ne _ _ _ (by rw [size_push', Heap.size_update]; exact Nat.ne_of_lt (Nat.lt_succ_of_lt ha)), Heap.get?_push_ne _ _ _ (by rw [Heap.size_update]; exact Nat.ne_of_lt ha)]
    exact ho1
  show wpAny (model prog w) A _ P E { s with heap := ((s.heap.update a (Obj.mapSeq fun _ => #[])).push (seqObj "tuple" vs.toArray 0)).push (seqObj "list" #[] 0) }
  have keep : ∀ b o, b ≠ a → s.heap.get? b = some o → (((s.heap.update a (Obj.mapSeq fun _ => (#[] : Array Value))).push (seqObj "tuple" vs.toArray 0)).push (seqObj "list" #[] 0)).get? b = some o := fun b o hb q => by
    have hlt : b < s.heap.objs.size := Heap.lt_size q
    rw [Heap.get?_push_ne _ _ _ (by rw [size_push', Heap.size_update]; exact Nat.ne_of_lt (Nat.lt_succ_of_lt hlt)), Heap.get?_push_ne _ _ _ (by rw [Heap.size_update]; exact Nat.ne_of_lt hlt), Heap.get?_update_ne _ _ _ _ hb]
    exact q
  dsimp only
  have hn2 : ¬ vs.toArray.size < 2 := by rw [List.size_toArray]; omega
  rw [if_neg hn2, if_neg hn2]
  refine wpAny_bind (wpAny_mono (hκ { s with heap := ((s.heap.update a (Obj.mapSeq fun _ => (#[] : Array Value))).push (seqObj "tuple" vs.toArray 0)).push (seqObj "list" #[] 0) } keep (fun k s1 => k = κ ∧ s1 = { s with heap := ((s.heap.update a (Obj.mapSeq fun _ => (#[] : Array Value))).push (seqObj "tuple" vs.toArray 0)).push (seqObj "list" #[] 0) }) ⟨rfl, rfl⟩) (fun k s1 hk => ?_) fun _ _ x => x.elim)
  obtain ⟨rfl, rfl⟩ := hk
  refine wpAny_bind (wpAny_mono (kat_run (ks := vs) (Q := fun st' s1 => arrOf st' = p.map (kas_item (vs.toArray.zip vs.toArray)) ∧ failedOf st' = none ∧ p.size = vs.length ∧ s1 = { s with heap := ((s.heap.update a (Obj.mapSeq fun _ => (#[] : Array Value))).push (seqObj "tuple" vs.toArray 0)).push (seqObj "list" #[] 0) })
    (G := fun p' s1 => p' = p ∧ s1 = { s with heap := ((s.heap.update a (Obj.mapSeq fun _ => (#[] : Array Value))).push (seqObj "tuple" vs.toArray 0)).push (seqObj "list" #[] 0) })
    rfl h2 h64 (fun p' st' s1 a1 a2 a3 a4 => by obtain ⟨rfl, rfl⟩ := a4; exact ⟨a2, a3, a1, rfl⟩) ?_) ?_ fun _ _ e => e)
  · exact runO_wp (fun i j b e K hK => hlt _ keep i j b e K hK) _ hp ⟨rfl, rfl⟩
  rintro ⟨⟨⟩, st'⟩ s1 ⟨har, hf, hsz, rfl⟩
  dsimp only
  have hout := kat_snds (ks := vs) (vs := vs) rfl har
  have hsz2 : (List.toArray (p.toList.map fun i => vs.getD i Value.none)).size = vs.length := by rw [List.size_toArray, List.length_map, Array.length_toList, hsz]
  rw [hout]
  refine wpAny_bind (seqEpoch_at ho6 rfl ?_)
  refine wpAny_bind (listUpdate_at ho6 rfl ?_ (Nat.zero_le _) (Nat.le_trans (Nat.le_of_eq hsz2) (by rw [sizeLine_eq]; omega)))
  rw [hf]
  simp only [bne_self_eq_false, Bool.false_eq_true, if_false]
  exact wpAny_pure h
theorem sort_tree1 {a : Addr} {vs : List Value} {m : Nat} {P : PySem.Fin → Shared → Prop} (ho : s.heap.get? a = some (seqObj "list" vs.toArray m)) (h2 : vs.length < 2)
    (h : P (.done (.ret .none)) { s with heap := sortedHeap s.heap a vs vs.toArray }) {E : Value → Shared → Prop} :
    wpAny (model prog w) A (Builtin.«list.sort» ⟨[.ref a], []⟩) P E s := by
  rw [list_sort_plain]
  have ha : a < s.heap.objs.size := Heap.lt_size ho
  refine wpAny_bind (listItems_at ho rfl ?_)
  refine wpAny_bind (listUpdate_at ho rfl ?_ (by rw [List.size_toArray, sizeLine_eq]; omega) (Nat.zero_le _))
  obtain ⟨e1, ho1⟩ : ∃ e1, (s.heap.update a (Obj.mapSeq fun _ => #[])).get? a = some (seqObj "list" #[] e1) := ⟨_, get?_update_seq ho (fun _ => #[])⟩
  refine wpAny_bind (seqEpoch_at ho1 rfl ?_)
  refine wpAny_bind (PySem.wpAny_newTuple ?_ (by show vs.length ≤ _; rw [sizeLine_eq]; omega))
  refine wpAny_bind (PySem.wpAny_newList ?_ (Nat.zero_le _))
  refine wpAny_holding ?_
  have ho6 : (((s.heap.update a (Obj.mapSeq fun _ => #[])).push (seqObj "tuple" vs.toArray 0)).push (seqObj "list" #[] 0)).get? a = some (seqObj "list" #[] e1) := by
    rw [Heap.get?_push_ne _ _ _ (by rw [size_push', Heap.size_update]; exact Nat.ne_of_lt (Nat.lt_succ_of_lt ha)), Heap.get?_push_ne _ _ _ (by rw [Heap.size_update]; exact Nat.ne_of_lt ha)]
    exact ho1
  show wpAny (model prog w) A _ P E { s with heap := ((s.heap.update a (Obj.mapSeq fun _ => #[])).push (seqObj "tuple" vs.toArray 0)).push (seqObj "list" #[] 0) }
  dsimp only
  have hn2 : vs.toArray.size < 2 := by rw [List.size_toArray]; omega
  rw [if_pos hn2, if_pos hn2]
  refine wpAny_bind (wpAny_pure ?_)
  rw [StateT.run_pure]
  refine wpAny_bind (wpAny_pure ?_)
  dsimp only
  have hout : (arrOf (SortSt.mk' general' (vs.toArray.zip vs.toArray) #[] 7 none)).map (·.2) = vs.toArray := by
    show (vs.toArray.zip vs.toArray).map (·.2) = vs.toArray
    apply Array.toList_inj.mp
    simp only [List.zip_toArray, List.map_toArray]
    exact List.map_snd_zip (Nat.le_refl _)
  rw [hout]
  refine wpAny_bind (seqEpoch_at ho6 rfl ?_)
  refine wpAny_bind (listUpdate_at ho6 rfl ?_ (Nat.zero_le _) (by rw [List.size_toArray, sizeLine_eq]; omega))
  simp only [bne_self_eq_false, Bool.false_eq_true, if_false]
  exact wpAny_pure h
theorem sorted_tree {l : Addr} {vs : List Value} {Q : Value → Shared → Prop} {out : List Value} {E : Value → Shared → Prop} (hl : s.heap.IsList l vs.toArray) (h64 : vs.length < 64)
    (ht : ∀ (s1 : Shared) (a : Addr) (P : PySem.Fin → Shared → Prop) (E : Value → Shared → Prop), (∀ b o, s.heap.get? b = some o → s1.heap.get? b = some o) → s.heap.get? a = none → s1.heap.get? a = some (seqObj "list" vs.toArray 0) →
      P (.done (.ret .none)) { s1 with heap := sortedHeap s1.heap a vs out.toArray } → wpAny (model prog w) A.in1.in1 (Builtin.«list.sort» ⟨[.ref a], []⟩) P E s1)
    (h : Q (.ref (s.heap.objs.size + 1)) { s with heap := sortedAll s.heap vs out.toArray }) :
    wpAny (model prog w) A (call (.builtin "sorted") [.ref l]) Q E s := by
  refine Calls.call_function_entry kind_sorted plain_sorted entry_sorted (args_sorted1 _) ?_
  unfold Builtin.«sorted»
  refine wpAny_bind (m := checkCount "sorted" 1 1 _) (wpAny_pure ?_)
  refine wpAny_bind (collect_list hl ?_ (by rw [sizeLine_eq]; omega))
  refine wpAny_bind (PySem.wpAny_newList ?_ (by rw [sizeLine_eq]; omega))
  have hsz : ((s.heap.push (seqObj "list" #[] 0)).update s.heap.objs.size (Obj.mapSeq (· ++ vs.toArray))).objs.size = s.heap.objs.size + 1 := by
    rw [Heap.size_update, size_push']
  have hoL : (((s.heap.push (seqObj "list" #[] 0)).update s.heap.objs.size (Obj.mapSeq (· ++ vs.toArray))).push (seqObj "list" vs.toArray 0)).get? (s.heap.objs.size + 1) = some (seqObj "list" vs.toArray 0) := by
    rw [← hsz]; exact Heap.get?_push_size _ rfl
  have keep : ∀ b o, s.heap.get? b = some o → (((s.heap.push (seqObj "list" #[] 0)).update s.heap.objs.size (Obj.mapSeq (· ++ vs.toArray))).push (seqObj "list" vs.toArray 0)).get? b = some o := fun b o q => by
    have hlt : b < s.heap.objs.size := Heap.lt_size q
    rw [Heap.get?_push_ne _ _ _ (by rw [hsz]; exact Nat.ne_of_lt (Nat.lt_succ_of_lt hlt)), Heap.get?_update_ne _ _ _ _ (Nat.ne_of_lt hlt), Heap.get?_push_ne _ _ _ (Nat.ne_of_lt hlt)]
    exact q
  show wpAny _ _ _ _ _ { s with heap := ((s.heap.push (seqObj "list" #[] 0)).update s.heap.objs.size (Obj.mapSeq (· ++ vs.toArray))).push (seqObj "list" vs.toArray 0) }
  rw [hsz]
  refine wpAny_bind (wpAny_holding (wpAny_call_entry slot_list_sort ⟨_, hoL, rfl⟩ entry_list_sort (ht _ _ _ _ keep (Heap.get?_none_of_le (Nat.le_succ _)) hoL ⟨_, rfl, ?_⟩) (args_list_sort _)))
  exact wpAny_pure ⟨_, rfl, h⟩
end
/-! sorted, of data -/
noncomputable def tup0 : PyData → Option Bool
  | .tuple (.int _ :: _) => some true
  | .tuple (.tuple _ :: _) => some false
  | _ => none
noncomputable def isIntD : PyData → Bool
  | .int _ => true
  | _ => false
noncomputable def ltAt (ds : List PyData) (i j : Nat) : Option Bool := match ds[i]?, ds[j]? with
  | some a, some b => match ordD a b with
    | some .lt => some true
    | some _ => some false
    | none => none
  | _, _ => none
noncomputable def sortD (ds : List PyData) : Option (List PyData) := match runO (ltAt ds) (kas_sort ds.length) with
  | some p => some (p.toList.map fun i => ds.getD i .none)
  | none => none
noncomputable def sortG : List PyData → Option PyData
  | [.list ds] =>
    if ds.length < 2 then some (.list ds)
    else if decide (ds.length < 64) && ds.all okD && (ds.all isIntD || ds.all (fun d => tup0 d == some true) || ds.all (fun d => tup0 d == some false)) then
      match sortD ds with
      | some es => some (.list es)
      | none => none
    else none
  | _ => none
theorem RL.getD {H : PyData → Int} : ∀ {vs ds}, RL H F vs ds → ∀ i, R H F (vs.getD i .none) (ds.getD i .none) := fun {_ _} r => RL.ind (P := fun vs ds => ∀ i, R H F (vs.getD i .none) (ds.getD i .none)) (fun i => by cases i <;> exact .none) (fun h _ q i => by
  cases i with
  | zero => exact h
  | succ i => exact q i) r
theorem RL.map_getD {H : PyData → Int} {vs ds} (r : RL H F vs ds) : ∀ p : List Nat, RL H F (p.map fun i => vs.getD i .none) (p.map fun i => ds.getD i .none)
  | [] => .nil
  | i :: p => .cons (r.getD i) (r.map_getD p)
theorem isIntD_spec {d : PyData} (h : isIntD d = true) : ∃ i, d = .int i := by
  cases d <;> first | exact ⟨_, rfl⟩ | cases h
theorem ints_types {H : PyData → Int} {M : Model} : ∀ {vs ds}, RL H F vs ds → ds.all isIntD = true → ∀ h, ∀ v ∈ vs, Looks M h (typeOf v) (.type "int") := fun {_ _} r =>
  RL.ind (P := fun vs ds => ds.all isIntD = true → ∀ h, ∀ v ∈ vs, Looks M h (typeOf v) (.type "int")) (fun _ _ _ hv => nomatch hv) (fun x _ ih ha h v hv => by
    obtain ⟨a1, a2⟩ := Bool.and_eq_true_iff.mp (List.all_cons.symm.trans ha)
    rcases List.mem_cons.mp hv with rfl | hv
    · obtain ⟨i, rfl⟩ := isIntD_spec a1
      obtain ⟨t, rfl⟩ := x.toInt
      exact Looks.of_pure rfl
    · exact ih a2 h v hv) r
theorem RL.uncons {H : PyData → Int} {l : List Value} {y : PyData} {ys : List PyData} (r : RL H F l (y :: ys)) : ∃ f fl, l = f :: fl ∧ R H F f y ∧ RL H F fl ys := by
  cases r with | cons a b => exact ⟨_, _, rfl, a, b⟩
theorem tup0_spec {d : PyData} {b : Bool} (h : (tup0 d == some b) = true) : ∃ y ys, d = .tuple (y :: ys) ∧ ((∃ i, y = .int i ∧ b = true) ∨ (∃ zs, y = .tuple zs ∧ b = false)) := by
  have h : tup0 d = some b := eq_of_beq h
  cases d with
  | tuple l =>
    cases l with
    | nil => cases h
    | cons y ys =>
      cases y with
      | int i => cases h; exact ⟨_, _, rfl, .inl ⟨_, rfl, rfl⟩⟩
      | tuple zs => cases h; exact ⟨_, _, rfl, .inr ⟨_, rfl, rfl⟩⟩
      | _ => cases h
  | _ => cases h
theorem R.toTuple {H : PyData → Int} {v : Value} {xs : List PyData} (r : R H F v (.tuple xs)) : ∃ a vs n, v = .ref a ∧ F a = some (seqObj "tuple" vs n) ∧ RL H F vs.toList xs := by
  cases r with | tuple ho rx => exact ⟨_, _, _, rfl, ho, rx⟩
theorem tups_firsts {H : PyData → Int} {b : Bool} {h : Heap} {M : Model} (hs : Sat F h) : ∀ {vs ds}, RL H F vs ds → ds.all (fun d => tup0 d == some b) = true → ∃ fs, KatTups h vs fs ∧ fs.length = ds.length ∧ ∀ v ∈ fs, Looks M h (typeOf v) (.type (if b then "int" else "tuple")) := fun {_ _} r =>
  RL.ind (P := fun vs ds => ds.all (fun d => tup0 d == some b) = true → ∃ fs, KatTups h vs fs ∧ fs.length = ds.length ∧ ∀ v ∈ fs, Looks M h (typeOf v) (.type (if b then "int" else "tuple"))) (fun _ => ⟨[], .nil, rfl, fun _ h => nomatch h⟩) (fun x _ ih ha => by
    obtain ⟨h1, a2⟩ := Bool.and_eq_true_iff.mp (List.all_cons.symm.trans ha)
    obtain ⟨fs, k, e, t⟩ := ih a2
    obtain ⟨y, ys, rfl, hy1⟩ := tup0_spec h1
    obtain ⟨a, vs, n, rfl, ho, rx⟩ := x.toTuple
    obtain ⟨f, fl, hvs, ry, rys⟩ := rx.uncons
    have hf : vs[0]? = some f := by rw [← Array.getElem?_toList, hvs]; rfl
    refine ⟨f :: fs, .cons (hs _ _ ho) rfl rfl hf k, congrArg (· + 1) e, ?_⟩
    intro v hv
    rcases List.mem_cons.mp hv with rfl | hv
    · rcases hy1 with ⟨i, rfl, rfl⟩ | ⟨zs, rfl, rfl⟩
      · obtain ⟨t, rfl⟩ := ry.toInt; exact Looks.of_pure rfl
      · obtain ⟨a', vs', n', rfl, ho', _⟩ := ry.toTuple
        exact (Looks.ld (hs _ _ ho')).andThen .now
    · exact t v hv) r
theorem ltAt_wp {prog : Program} {w : World} {ds : List PyData} {vs : List Value} {H : PyData → Int} {i j : Nat} {c : Bool} {Q' : Bool → Shared → Prop} (hs : Sat F s.heap) (r : RL H F vs ds) (hk : ds.all okD = true) (hu : A.units + 100 < cLine)
    (he : ltAt ds i j = some c) (hq : Q' c s) :
    (ds.all isIntD = true → wpAny (model prog w) A (keyLt' oneType' (vs.getD i .none) (vs.getD j .none)) Q' (fun _ _ => False) s) ∧
    (∀ b, ds.all (fun d => tup0 d == some b) = true → wpAny (model prog w) A (keyLt' (tuples' b) (vs.getD i .none) (vs.getD j .none)) Q' (fun _ _ => False) s) := by
  unfold ltAt at he
  cases e1 : ds[i]? with
  | none => rw [e1] at he; cases he
  | some x =>
    cases e2 : ds[j]? with
    | none => rw [e1, e2] at he; cases he
    | some y =>
      rw [e1, e2] at he
      dsimp only at he
      have hx : x ∈ ds := List.mem_of_getElem? e1
      have hy : y ∈ ds := List.mem_of_getElem? e2
      have ri := r.getD i
      have rj := r.getD j
      rw [show ds.getD i .none = x by simp [e1]] at ri
      rw [show ds.getD j .none = y by simp [e2]] at rj
      have kx := List.all_eq_true.mp hk x hx
      have ky := List.all_eq_true.mp hk y hy
      refine ⟨fun ha => ?_, fun b ha => ?_⟩
      · have h1 := List.all_eq_true.mp ha x hx
        have h2 := List.all_eq_true.mp ha y hy
        obtain ⟨p, rfl⟩ := isIntD_spec h1
        obtain ⟨q, rfl⟩ := isIntD_spec h2
        obtain ⟨t, e3⟩ := ri.toInt
        obtain ⟨u, e4⟩ := rj.toInt
        rw [e3, e4]
        refine kat_lt_int ?_
        have : decide (p < q) = c := by
          simp only [ordD] at he
          by_cases hpq : p < q
          · rw [if_pos hpq] at he; cases he; exact decide_eq_true hpq
          · rw [if_neg hpq] at he
            by_cases h' : p = q
            · rw [if_pos h'] at he; cases he; exact decide_eq_false hpq
            · rw [if_neg h'] at he; cases he; exact decide_eq_false hpq
        rw [this]; exact hq
      · have h1 := List.all_eq_true.mp ha x hx
        have h2 := List.all_eq_true.mp ha y hy
        obtain ⟨_, _, hxs, _⟩ := tup0_spec h1
        obtain ⟨_, _, hys, _⟩ := tup0_spec h2
        generalize _ :: _ = xs at hxs
        generalize _ :: _ = ys at hys
        subst hxs; subst hys
        have hc : ∃ o, ordL xs ys = some o ∧ ordIs .Lt o = c := by
          simp only [ordD] at he
          cases ho : ordL xs ys with
          | none => rw [ho] at he; cases he
          | some o => rw [ho] at he; refine ⟨o, rfl, ?_⟩; cases o <;> (cases he; rfl)
        obtain ⟨o, ho, rfl⟩ := hc
        obtain ⟨as, qi⟩ := ri.reads hs
        obtain ⟨bs, qj⟩ := rj.reads hs
        obtain ⟨a', oa, va, na, as', ea, ga, ca, da, rva⟩ := reads_tuple qi
        obtain ⟨b', ob, vb, nb, bs', eb, gb, cb, db, rvb⟩ := reads_tuple qj
        rw [ea, eb]
        refine kat_lt ga da gb db ?_
        have dx : PyData.depthAll xs + 1 ≤ 64 := okD_depth kx
        cases b with
        | false =>
          exact lex_of_ors (k := 0) (orsAt 64 xs ys A s _ _ _ _ o (by omega) ho rva rvb (okD_lay kx) (okD_lay ky) (by omega)) rfl (by simp) (by simp) rfl hq
        | true =>
          cases xs with
          | nil => cases h1
          | cons x0 xs =>
            cases ys with
            | nil => cases h2
            | cons y0 ys =>
              cases x0 <;> first | (cases h1; done) | skip
              cases y0 <;> first | (cases h2; done) | skip
              rename_i p q
              obtain ⟨v, vs1, _, _, e5, rv, rvs⟩ := readsAll_cons rva
              obtain ⟨u, us1, _, _, e6, ru, rus⟩ := readsAll_cons rvb
              rw [e5, e6, List.zip_cons_cons]
              have c1 : PyData.canLayAll0 xs = true := (Bool.and_eq_true_iff.mp (show ((PyData.int p).canLay0 && PyData.canLayAll0 xs) = true from okD_lay kx)).2
              have c2 : PyData.canLayAll0 ys = true := (Bool.and_eq_true_iff.mp (show ((PyData.int q).canLay0 && PyData.canLayAll0 ys) = true from okD_lay ky)).2
              have dxs : PyData.depthAll xs ≤ 64 := by have : max (PyData.int p).depth (PyData.depthAll xs) + 1 ≤ 64 := dx; omega
              have he : EqAt A s v u (PyData.eqv (.int p) (.int q)) := eqAt_reads _ _ A s v u _ _ rv ru rfl rfl (by simp only [PyData.depth]; omega)
              unfold ordL at ho
              have l1 : va.size = 1 + vs1.length := by rw [← Array.length_toList, e5, List.length_cons]; omega
              have l2 : vb.size = 1 + us1.length := by rw [← Array.length_toList, e6, List.length_cons]; omega
              cases hq' : PyData.eqv (.int p) (.int q) with
              | true =>
                rw [hq'] at ho he
                simp only [if_true] at ho
                refine kat_cons (he prog w _ _ (kat_yes ?_))
                exact lex_of_ors (k := 1) (orsAt 64 xs ys A s _ _ _ _ o dxs ho rvs rus c1 c2 (by omega)) rfl l1 l2 rfl hq
              | false =>
                rw [hq'] at ho he
                simp only [Bool.false_eq_true, if_false] at ho
                refine kat_cons (he prog w _ _ (kat_no ?_))
                cases rv; cases ru
                refine oneLt_int ?_
                have : decide (p < q) = ordIs .Lt o := by
                  simp only [ordD] at ho
                  by_cases hpq : p < q
                  · rw [if_pos hpq] at ho; cases ho; exact decide_eq_true hpq
                  · rw [if_neg hpq] at ho
                    by_cases h' : p = q
                    · rw [if_pos h'] at ho; cases ho
                    · rw [if_neg h'] at ho; cases ho; exact decide_eq_false hpq
                rw [this]; exact hq
theorem biSorted : BiOk C (.builtin "sorted") sortG := fun {A F s vs ds d} hu hh hs b h => by
  unfold sortG at h
  split at h
  · rename_i ds
    obtain ⟨v, rfl, c⟩ := b.one
    obtain ⟨l, ws, k, rfl, ha, r⟩ := c.list hs
    have hlen := r.length
    have hl : s.heap.IsList l ws.toList.toArray := ⟨_, ha, rfl, k, by simp⟩
    have fin : ∀ (out : List Value) (es : List PyData), RL C.H F out es → Post C F s (.list es) (.ref (s.heap.objs.size + 1)) { s with heap := sortedAll s.heap ws.toList out.toArray } := by
      intro out es ro
      obtain ⟨e, he⟩ := sortedAll_at s.heap ws.toList out.toArray
      have hfr : s.heap.get? (s.heap.objs.size + 1) = none := Heap.get?_none_of_le (Nat.le_succ _)
      refine ⟨_, Grow.putAt (s' := { s with heap := sortedAll s.heap ws.toList out.toArray }) hs (fun b o q => sortedAll_old q) hfr he rfl rfl rfl, .list (put_self ..) ?_⟩
      exact ro.mono (put_sub (sat_fresh hs hfr))
    split at h
    · cases h
      refine sorted_tree hl (by omega) (fun s1 a P E' kp hn hoL hP => sort_tree1 hoL (by omega) hP) (fin _ _ r)
    · rename_i h2
      split at h
      · rename_i hc
        unfold sortD at h
        cases hr : runO (ltAt ds) (kas_sort ds.length) with
        | none => rw [hr] at h; cases h
        | some p =>
          rw [hr] at h
          cases h
          simp only [Bool.and_eq_true, Bool.or_eq_true, decide_eq_true_eq] at hc
          obtain ⟨⟨h64, hok⟩, hkind⟩ := hc
          refine sorted_tree (out := p.toList.map fun i => ws.toList.getD i .none) hl (by omega) (fun s1 a P E' kp hn hoL hP => ?_) (fin _ _ (r.map_getD _))
          have sat1 : ∀ s2 : Shared, (∀ b o, b ≠ a → s1.heap.get? b = some o → s2.heap.get? b = some o) → Sat F s2.heap := fun s2 k2 b o q => by
            refine k2 b o ?_ (kp b o (hs b o q))
            rintro rfl
            rw [hs _ _ q] at hn; cases hn
          have hu2 : A.in1.in1.units + 100 < cLine := by show A.units + 1 + 1 + 100 < cLine; omega
          rw [← hlen] at hr
          rcases hkind with (hk | hk) | hk
          · refine sort_tree (κ := oneType') (lt := ltAt ds) hoL (by omega) (by omega) (fun s2 k2 Q' hq => ?_) (fun s2 k2 i j c e Q' hq => (ltAt_wp (sat1 s2 k2) r hok hu2 e hq).1 hk) hr hP
            exact kas_kind (T := .type "int") (by omega) (fun v hv => ints_types r hk _ v hv) (by decide) (by decide) hq
          · refine sort_tree (κ := tuples' true) (lt := ltAt ds) hoL (by omega) (by omega) (fun s2 k2 Q' hq => ?_) (fun s2 k2 i j c e Q' hq => (ltAt_wp (sat1 s2 k2) r hok hu2 e hq).2 true hk) hr hP
            obtain ⟨fs, t1, t2, t3⟩ := tups_firsts (M := model C.prog C.w) (sat1 s2 k2) r hk
            exact kat_kind (T := .type "int") t1 (by omega) t3 (by decide) hq
          · refine sort_tree (κ := tuples' false) (lt := ltAt ds) hoL (by omega) (by omega) (fun s2 k2 Q' hq => ?_) (fun s2 k2 i j c e Q' hq => (ltAt_wp (sat1 s2 k2) r hok hu2 e hq).2 false hk) hr hP
            obtain ⟨fs, t1, t2, t3⟩ := tups_firsts (M := model C.prog C.w) (sat1 s2 k2) r hk
            exact kat_kind (T := .type "tuple") t1 (by omega) t3 (by decide) hq
      · cases h
  · cases h
end Ev
set_option maxRecDepth 10000
namespace Ev
open PySem PySem.W PySem.Spec PySem.Calls PyProof.Rows PySem.SeqAt
variable {C : Cx} {n : Nat} {sc : Scope} {A : Around} {env : Env} {base : Fz} {low : Fz} {F F' : Fz} {s s' : Shared} {σ : St}
section
variable {prog : Program} {w : World}
mutual
noncomputable def drawsK : PyData → Nat
  | .tuple ds => drawsKs ds + 1
  | _ => 1
noncomputable def drawsKs : List PyData → Nat
  | [] => 0
  | d :: ds => drawsK d + drawsKs ds
end
theorem hash_wp : ∀ (n : Nat) (d : PyData) (v : Value) (as : List Addr) (A : Around) (s : Shared) (Q : Int → Shared → Prop) (E : Value → Shared → Prop), d.depth ≤ n → keyOk d = true → Reads s.heap v d as → A.units + n < cLine →
    Q (hashK w d) { s with toks := s.toks + drawsK d } → wpAny (model prog w) A (pyHash v) Q E s := by
  intro n
  induction n with
  | zero =>
    intro d v as A s Q E hd hk r hu h
    cases r with
    | int i t => exact wpAny_pyHash_int h
    | str x t => exact wpAny_pyHash_str h
    | tuple => simp [PyData.depth] at hd
    | _ => cases hk
  | succ n ih =>
    intro d v as A s Q E hd hk r hu h
    cases r with
    | int i t => exact wpAny_pyHash_int h
    | str x t => exact wpAny_pyHash_str h
    | @tuple a o vs m ds as ho hc hdt rs =>
      have hT : s.TypeIs (.ref a) "tuple" := ⟨o, ho, hc⟩
      have hds : PyData.depthAll ds ≤ n := by have : PyData.depthAll ds + 1 ≤ n + 1 := hd; omega
      have hks : keyOks ds = true := hk
      unfold pyHash
      first | unfold pyHashByItsType | skip
      first | refine wpAny_bind (wpAny_cRoomFor_or (.inr (by omega)) ?_) | skip
      refine wpAny_bind (wpAny_specialOf hT F.slot_tuple_hash.lookup ?_)
      show wpAny _ _ (if (some (Value.builtin "tuple.__hash__") == some Value.none) = true then _ else _) Q E s
      rw [if_neg (by rw [beq_builtin_none]; exact Bool.false_ne_true)]
      refine wpAny_bind (wpAny_specialOf hT F.slot_tuple_hash.lookup ?_)
      show wpAny _ _ (callSpecialIfBoundUnlessNone? (.ref a) "__hash__" _ >>= _) Q E s
      refine wpAny_bind (wpAny_callSpecialIfBoundUnlessNone?_slot hT F.slot_tuple_hash (wpAny_call_entry F.slot_tuple_hash hT F.entry_tuple_hash ?_ (F.args_tuple_hash_1 _)))
      show wpAny _ _ (Builtin.Tuple.tupleItemsOf (.ref a) >>= _) _ _ s
      refine wpAny_bind (wpAny_tupleItemsOf ho hdt ?_)
      refine wpAny_bind ?_
      rw [← Array.forIn_toList]
      refine wpAny_forIn_list _
        (fun rest (b : Array Int) s' => ∃ left bs, ReadsAll s.heap rest left bs ∧ keyOks left = true ∧ PyData.depthAll left ≤ n ∧ b.toList ++ hashKs w left = hashKs w ds ∧ ∃ t, s' = { s with toks := t } ∧ t + drawsKs left = s.toks + drawsKs ds)
        _ ?_ ?_ _ _ ⟨ds, _, rs, hks, hds, rfl, s.toks, rfl, rfl⟩
      · rintro x rest b s' ⟨left, bs, hl, hk', hd', hb, t, rfl, ht⟩
        cases hl with
        | @cons _ _ d' ds' as1 bs1 h1 hl' =>
          obtain ⟨k1, k2⟩ := Bool.and_eq_true_iff.mp (show (keyOk d' && keyOks ds') = true from hk')
          have hm : max d'.depth (PyData.depthAll ds') ≤ n := hd'
          refine wpAny_bind (ih d' x as1 _ _ _ _ (Nat.le_trans (Nat.le_max_left _ _) hm) k1 h1 (by show A.units + 1 + n < cLine; omega) ?_)
          have fin : ∃ left bs, ReadsAll s.heap rest left bs ∧ keyOks left = true ∧ PyData.depthAll left ≤ n ∧ (b.push (hashK w d')).toList ++ hashKs w left = hashKs w ds ∧ ∃ t', ({ s with toks := t + drawsK d' } : Shared) = { s with toks := t' } ∧ t' + drawsKs left = s.toks + drawsKs ds :=
            ⟨ds', bs1, hl', k2, Nat.le_trans (Nat.le_max_right _ _) hm, by rw [← hb]; simp [hashKs], _, rfl, by rw [← ht]; simp only [drawsKs]; omega⟩
          first
            | exact wpAny_pure fin
            | exact wpAny_bind (wpAny_pure (wpAny_pure fin))
      · rintro b s' ⟨left, bs, hl, _, _, hb, t, rfl, ht⟩
        cases hl
        simp only [hashKs, List.append_nil, drawsKs, Nat.add_zero] at hb ht
        show wpAny _ _ (retInt (Builtin.Tuple.tupleHashOf b.toList)) _ _ _
        rw [hb]
        refine wpAny_ret_mkInt ?_
        subst ht
        show wpAny _ _ (if (decide (-(2 : Int) ^ 63 ≤ Builtin.Tuple.tupleHashOf (hashKs w ds)) && decide (Builtin.Tuple.tupleHashOf (hashKs w ds) < 2 ^ 63)) = true then _ else _) Q E _
        have h' : Q (reduceHash (Builtin.Tuple.tupleHashOf (hashKs w ds))) { s with toks := s.toks + drawsKs ds + 1 } := by simpa [hashK, drawsK, Nat.add_assoc] using h
        unfold reduceHash at h'
        by_cases hr : (decide (-(2 : Int) ^ 63 ≤ Builtin.Tuple.tupleHashOf (hashKs w ds)) && decide (Builtin.Tuple.tupleHashOf (hashKs w ds) < 2 ^ 63)) = true
        · rw [if_pos hr]
          rw [if_pos hr] at h'
          exact wpAny_pure h'
        · rw [if_neg hr]
          rw [if_neg hr] at h'
          exact wpAny_bind (wpAny_rule (wpAny_pure h'))
    | _ => cases hk
theorem quiet_wp : ∀ (n : Nat) (d : PyData) (v : Value) (as : List Addr) (A : Around) (s : Shared) (Q : Bool → Shared → Prop) (E : Value → Shared → Prop), d.depth ≤ n → keyOk d = true → Reads s.heap v d as → Q true s →
    wpAny (model prog w) A (eqIsQuiet n v) Q E s := by
  intro n
  induction n with
  | zero =>
    intro d v as A s Q E hd hk r h
    cases r with
    | int i t => rw [eqIsQuiet_byValue _ rfl]; exact wpAny_pure h
    | str x t => rw [eqIsQuiet_byValue _ rfl]; exact wpAny_pure h
    | tuple => simp [PyData.depth] at hd
    | _ => cases hk
  | succ n ih =>
    intro d v as A s Q E hd hk r h
    cases r with
    | int i t => rw [eqIsQuiet_byValue _ rfl]; exact wpAny_pure h
    | str x t => rw [eqIsQuiet_byValue _ rfl]; exact wpAny_pure h
    | @tuple a o vs m ds as ho hc hdt rs =>
      have hT : s.TypeIs (.ref a) "tuple" := ⟨o, ho, hc⟩
      have hds : PyData.depthAll ds ≤ n := by have : PyData.depthAll ds + 1 ≤ n + 1 := hd; omega
      have hks : keyOks ds = true := hk
      unfold eqIsQuiet
      refine wpAny_bind (wpAny_specialOf hT F.slot_tuple_eq.lookup ?_)
      show wpAny _ _ (isInstance (.ref a) (.type "tuple") >>= _) _ _ s
      refine wpAny_bind (wpAny_isInstance hT isSubtype_tuple_tuple ?_)
      simp only [Bool.not_true, Bool.false_eq_true, if_false]
      refine wpAny_bind (wpAny_seqItems ho hdt ?_)
      refine wpAny_bind ?_
      show wpAny _ _ (forIn vs _ _) _ _ s
      rw [← Array.forIn_toList]
      refine wpAny_forIn_list _ (fun rest r s' => r.1 = none ∧ s' = s ∧ ∃ left bs, ReadsAll s.heap rest left bs ∧ keyOks left = true ∧ PyData.depthAll left ≤ n) _ ?_ ?_ _ _ ⟨rfl, rfl, ds, _, rs, hks, hds⟩
      · rintro x rest r s' ⟨hr, rfl, left, bs, hl, hk', hd'⟩
        cases hl with
        | @cons _ _ d' ds' as1 bs1 h1 hl' =>
          obtain ⟨k1, k2⟩ := Bool.and_eq_true_iff.mp (show (keyOk d' && keyOks ds') = true from hk')
          have hm : max d'.depth (PyData.depthAll ds') ≤ n := hd'
          refine wpAny_bind (ih d' x as1 _ _ _ _ (Nat.le_trans (Nat.le_max_left _ _) hm) k1 h1 ?_)
          simp only [Bool.not_true, Bool.false_eq_true, if_false]
          exact wpAny_pure ⟨rfl, rfl, ds', bs1, hl', k2, Nat.le_trans (Nat.le_max_right _ _) hm⟩
      · rintro ⟨r1, r2⟩ s' ⟨hr, rfl, _⟩
        simp only at hr
        subst hr
        exact wpAny_pure h
    | _ => cases hk
end
/-! keys as data -/
mutual
theorem eqv_key : ∀ (x y : PyData), keyOk x = true → keyOk y = true → PyData.eqv x y = true → x = y
  | .int a, .int b, _, _, h => by simp only [PyData.eqv, beq_iff_eq] at h; rw [h]
  | .str a, .str b, _, _, h => by simp only [PyData.eqv, beq_iff_eq] at h; rw [h]
  | .tuple xs, .tuple ys, h1, h2, h => by rw [eqv_keys xs ys h1 h2 h]
  | .int _, .str _, _, _, h => by simp [PyData.eqv] at h
  | .int _, .tuple _, _, _, h => by simp [PyData.eqv] at h
  | .str _, .int _, _, _, h => by simp [PyData.eqv] at h
  | .str _, .tuple _, _, _, h => by simp [PyData.eqv] at h
  | .tuple _, .int _, _, _, h => by simp [PyData.eqv] at h
  | .tuple _, .str _, _, _, h => by simp [PyData.eqv] at h
  | .none, _, h, _, _ => by cases h
  | .bool _, _, h, _, _ => by cases h
  | .list _, _, h, _, _ => by cases h
  | .dict _, _, h, _, _ => by cases h
  | .int _, .none, _, h, _ => by cases h
  | .int _, .bool _, _, h, _ => by cases h
  | .int _, .list _, _, h, _ => by cases h
  | .int _, .dict _, _, h, _ => by cases h
  | .str _, .none, _, h, _ => by cases h
  | .str _, .bool _, _, h, _ => by cases h
  | .str _, .list _, _, h, _ => by cases h
  | .str _, .dict _, _, h, _ => by cases h
  | .tuple _, .none, _, h, _ => by cases h
  | .tuple _, .bool _, _, h, _ => by cases h
  | .tuple _, .list _, _, h, _ => by cases h
  | .tuple _, .dict _, _, h, _ => by cases h
theorem eqv_keys : ∀ (xs ys : List PyData), keyOks xs = true → keyOks ys = true → PyData.eqvAll xs ys = true → xs = ys
  | [], [], _, _, _ => rfl
  | x :: xs, y :: ys, h1, h2, h => by
    simp only [keyOks, PyData.eqvAll, Bool.and_eq_true] at h1 h2 h
    rw [eqv_key x y h1.1 h2.1 h.1, eqv_keys xs ys h1.2 h2.2 h.2]
  | [], _ :: _, _, _, h => by simp [PyData.eqvAll] at h
  | _ :: _, [], _, _, h => by simp [PyData.eqvAll] at h
end
mutual
theorem eqv_key_refl : ∀ (x : PyData), keyOk x = true → PyData.eqv x x = true
  | .int a, _ => by simp [PyData.eqv]
  | .str a, _ => by simp [PyData.eqv]
  | .tuple xs, h => eqv_keys_refl xs h
  | .none, h => by cases h
  | .bool _, h => by cases h
  | .list _, h => by cases h
  | .dict _, h => by cases h
theorem eqv_keys_refl : ∀ (xs : List PyData), keyOks xs = true → PyData.eqvAll xs xs = true
  | [], _ => rfl
  | x :: xs, h => by
    simp only [keyOks, Bool.and_eq_true] at h
    simp only [PyData.eqvAll, eqv_key_refl x h.1, eqv_keys_refl xs h.2, Bool.and_self]
end
theorem reads_form {h : Heap} {x : PyData} {v : Value} {as : List Addr} (hk : keyOk x = true) (r : Reads h v x as) :
    (∃ i t, v = .int i t ∧ x = .int i) ∨ (∃ y t, v = .str y t ∧ x = .str y) ∨ (∃ a o vs m ds bs, v = .ref a ∧ x = .tuple ds ∧ h.get? a = some o ∧ o.cls = .type "tuple" ∧ o.data = .seq vs m ∧ ReadsAll h vs.toList ds bs) := by
  cases r with
  | int i t => exact .inl ⟨_, _, rfl, rfl⟩
  | str y t => exact .inr (.inl ⟨_, _, rfl, rfl⟩)
  | tuple ho hc hd q => exact .inr (.inr ⟨_, _, _, _, _, _, rfl, rfl, ho, hc, hd, q⟩)
  | _ => cases hk
theorem reads_keyN {h : Heap} : ∀ (n : Nat) {x y : PyData} {v : Value} {as bs : List Addr}, x.depth ≤ n → keyOk x = true → keyOk y = true → Reads h v x as → Reads h v y bs → x = y := by
  intro n
  induction n with
  | zero =>
    intro x y v as bs hd h1 h2 r1 r2
    rcases reads_form h1 r1 with ⟨i, t, rfl, rfl⟩ | ⟨z, t, rfl, rfl⟩ | ⟨a, o, vs, m, ds, cs, rfl, rfl, _⟩
    · cases r2; rfl
    · cases r2; rfl
    · simp [PyData.depth] at hd
  | succ n ih =>
    intro x y v as bs hd h1 h2 r1 r2
    rcases reads_form h1 r1 with ⟨i, t, rfl, rfl⟩ | ⟨z, t, rfl, rfl⟩ | ⟨a, o, vs, m, ds, cs, rfl, rfl, ho, hc, hdt, q⟩
    · cases r2; rfl
    · cases r2; rfl
    · rcases reads_form h2 r2 with ⟨i, t, e, _⟩ | ⟨z, t, e, _⟩ | ⟨a', o', vs', m', ds', cs', e, rfl, ho', hc', hdt', q'⟩
      · cases e
      · cases e
      · cases e
        rw [ho] at ho'; cases ho'
        rw [hdt] at hdt'; cases hdt'
        have hds : PyData.depthAll ds ≤ n := by have : PyData.depthAll ds + 1 ≤ n + 1 := hd; omega
        have hks : keyOks ds = true := h1
        have hks' : keyOks ds' = true := h2
        have go : ∀ (ws : List Value) (xs ys : List PyData) (as bs : List Addr), PyData.depthAll xs ≤ n → keyOks xs = true → keyOks ys = true → ReadsAll h ws xs as → ReadsAll h ws ys bs → xs = ys := by
          intro ws
          induction ws with
          | nil => intro xs ys as bs _ _ _ a1 a2; cases a1; cases a2; rfl
          | cons w ws iw =>
            intro xs ys as bs hd' k1 k2 a1 a2
            cases a1 with
            | cons q1 q2 =>
              cases a2 with
              | cons q3 q4 =>
                simp only [keyOks, Bool.and_eq_true] at k1 k2
                have hm : max _ (PyData.depthAll _) ≤ n := hd'
                rw [ih (Nat.le_trans (Nat.le_max_left _ _) hm) k1.1 k2.1 q1 q3, iw _ _ _ _ (Nat.le_trans (Nat.le_max_right _ _) hm) k1.2 k2.2 q2 q4]
        rw [go _ _ _ _ _ hds hks hks' q q']
theorem reads_key {h : Heap} {x y : PyData} {v : Value} {as bs : List Addr} (h1 : keyOk x = true) (h2 : keyOk y = true) (r1 : Reads h v x as) (r2 : Reads h v y bs) : x = y := reads_keyN x.depth (Nat.le_refl _) h1 h2 r1 r2
theorem reads_keepsN {h h' : Heap} (k : ∀ a o, (∃ xs m, o.data = .seq xs m) → h.get? a = some o → h'.get? a = some o) : ∀ (n : Nat) {x : PyData} {v : Value} {as : List Addr}, x.depth ≤ n → keyOk x = true → Reads h v x as → Reads h' v x as := by
  intro n
  induction n with
  | zero =>
    intro x v as hd h1 r1
    cases r1 with
    | int i t => exact .int _ _
    | str y t => exact .str _ _
    | tuple ho hc hdt q => simp [PyData.depth] at hd
    | _ => cases h1
  | succ n ih =>
    intro x v as hd h1 r1
    cases r1 with
    | int i t => exact .int _ _
    | str y t => exact .str _ _
    | @tuple a o vs m ds as ho hc hdt q =>
      have hds : PyData.depthAll ds ≤ n := by have : PyData.depthAll ds + 1 ≤ n + 1 := hd; omega
      have hks : keyOks ds = true := h1
      have go : ∀ (ws : List Value) (xs : List PyData) (as : List Addr), PyData.depthAll xs ≤ n → keyOks xs = true → ReadsAll h ws xs as → ReadsAll h' ws xs as := by
        intro ws
        induction ws with
        | nil => intro xs as _ _ a1; cases a1; exact .nil
        | cons w ws iw =>
          intro xs as hd' k1 a1
          cases a1 with
          | cons q1 q2 =>
            simp only [keyOks, Bool.and_eq_true] at k1
            have hm : max _ (PyData.depthAll _) ≤ n := hd'
            exact .cons (ih (Nat.le_trans (Nat.le_max_left _ _) hm) k1.1 q1) (iw _ _ (Nat.le_trans (Nat.le_max_right _ _) hm) k1.2 q2)
      exact .tuple (k _ _ ⟨_, _, hdt⟩ ho) hc hdt (go _ _ _ hds hks q)
    | _ => cases h1
theorem reads_keeps {h h' : Heap} (k : ∀ a o, (∃ xs m, o.data = .seq xs m) → h.get? a = some o → h'.get? a = some o) {x : PyData} {v : Value} {as : List Addr} (h1 : keyOk x = true) (r : Reads h v x as) : Reads h' v x as := reads_keepsN k x.depth (Nat.le_refl _) h1 r
mutual
theorem key_lay : ∀ (x : PyData), keyOk x = true → x.canLay0 = true
  | .int _, _ => rfl
  | .str x, h => h
  | .tuple xs, h => keys_lay xs h
  | .none, h => by cases h
  | .bool _, h => by cases h
  | .list _, h => by cases h
  | .dict _, h => by cases h
theorem keys_lay : ∀ (xs : List PyData), keyOks xs = true → PyData.canLayAll0 xs = true
  | [], _ => rfl
  | x :: xs, h => by
    simp only [keyOks, Bool.and_eq_true] at h
    simp only [PyData.canLayAll0, key_lay x h.1, keys_lay xs h.2, Bool.and_self]
end
noncomputable abbrev decPy : DecidableEq PyData := fun a b => Classical.propDecidable (a = b)
noncomputable def IsKeyA (h : Heap) (k : PyData) (a : Addr) : Prop := keyOk k = true ∧ k.depth ≤ 6 ∧ ∃ as, Reads h (.ref a) k as
theorem eqBool_key {prog : Program} {w : World} {A : Around} {s : Shared} {x y : PyData} {u v : Value} {as bs : List Addr} {Q : Bool → Shared → Prop} {E : Value → Shared → Prop} (hu : A.units + 100 < cLine) (hx : keyOk x = true) (hy : keyOk y = true) (dx : x.depth ≤ 6)
    (r1 : Reads s.heap u x as) (r2 : Reads s.heap v y bs) (h : Q (PyData.eqv x y) s) : wpAny (model prog w) A (eqBool u v) Q E s :=
  eqAt_reads x y A s u v as bs r1 r2 (key_lay x hx) (key_lay y hy) (by have : min x.depth y.depth ≤ x.depth := Nat.min_le_left _ _; omega) prog w _ _ h
noncomputable def keyKind (prog : Program) (w : World) : @HeapKind prog w PyData decPy := letI := decPy; {
  is := IsKeyA,
  hash := hashK w,
  draws := drawsK,
  room := fun A => A.units + 100 < cLine,
  inj := fun ⟨h1, _, _, r1⟩ ⟨h2, _, _, r2⟩ => reads_key h1 h2 r1 r2,
  keeps := fun {h h' k a d o es ep} ⟨h1, h2, as, r⟩ ho hd hs => ⟨h1, h2, as, reads_keeps (fun b o' ⟨xs, m, e⟩ q => (hs.2 b (fun e' => by
    subst e'; rw [ho] at q; cases q; rw [hd] at e; cases e)).trans q) h1 r⟩
  pyHash := fun {A E s k a Q} hu ⟨h1, h2, as, r⟩ h => hash_wp 6 k (.ref a) as A s Q E h2 h1 r (by omega) h,
  eqBool := fun {A E s x y a b Q} hu ⟨h1, h2, as, r1⟩ ⟨h3, h4, bs, r2⟩ h => eqBool_key hu h1 h3 h2 r1 r2 (by
    have : PyData.eqv x y = decide (x = y) := by
      by_cases e : x = y
      · subst e; rw [decide_eq_true rfl]; exact eqv_key_refl x h1
      · rw [decide_eq_false e]
        cases q : PyData.eqv x y with
        | false => rfl
        | true => exact absurd (eqv_key x y h1 h3 q) e
    rw [this]; exact h),
  quiet := fun {A E s k a Q} ⟨h1, h2, as, r⟩ h => quiet_wp 8 k (.ref a) as A s Q E (by omega) h1 r h }
end Ev
set_option maxRecDepth 10000
namespace Ev
open PySem PySem.W PySem.Spec PySem.Calls PyProof.Rows PySem.SeqAt
variable {C : Cx} {n : Nat} {sc : Scope} {A : Around} {env : Env} {base : Fz} {low : Fz} {F F' : Fz} {s s' : Shared} {σ : St}
noncomputable def findK : List (PyData × PyData) → PyData → Option Nat
  | [], _ => none
  | kv :: r, k => if PyData.eqv kv.1 k then some 0 else (findK r k).map (· + 1)
noncomputable def lookK : List (PyData × PyData) → PyData → Option PyData
  | [], _ => none
  | kv :: r, k => if PyData.eqv kv.1 k then some kv.2 else lookK r k
noncomputable def setK : List (PyData × PyData) → PyData → PyData → List (PyData × PyData)
  | [], k, d => [(k, d)]
  | kv :: r, k, d => if PyData.eqv kv.1 k then (kv.1, d) :: r else kv :: setK r k d
noncomputable def okKey (kvs : List (PyData × PyData)) (k : PyData) : Bool := keyOk k && decide (k.depth ≤ 6) && match kvs with
  | [] => (kindK k).isSome
  | kv :: _ => kindK kv.1 == kindK k
theorem okKey_spec {kd : Bool} {es : List DictEntry} {kvs : List (PyData × PyData)} {H : PyData → Int} {k : PyData} (r : RD H F kd es kvs) (h : okKey kvs k = true) : keyOk k = true ∧ k.depth ≤ 6 ∧ ∃ kd', kindK k = some kd' ∧ RD H F kd' es kvs := by
  unfold okKey at h
  simp only [Bool.and_eq_true, decide_eq_true_eq] at h
  obtain ⟨⟨h1, h2⟩, h3⟩ := h
  refine ⟨h1, h2, ?_⟩
  cases r with
  | nil =>
    obtain ⟨x, hx⟩ := Option.isSome_iff_exists.mp h3
    exact ⟨x, hx, .nil⟩
  | cons a b c d e f g =>
    have h3' := eq_of_beq h3
    dsimp only at h3'
    exact ⟨kd, h3'.symm.trans b, .cons a b c d e f g⟩
theorem findK_some {k : PyData} : ∀ {kvs : List (PyData × PyData)} {j : Nat}, findK kvs k = some j → ∃ kv, kvs[j]? = some kv ∧ PyData.eqv kv.1 k = true ∧ lookK kvs k = some kv.2
  | [], _, h => by cases h
  | kv :: r, j, h => by
    simp only [findK] at h
    by_cases e : PyData.eqv kv.1 k = true
    · rw [if_pos e] at h; cases h
      exact ⟨kv, rfl, e, by simp [lookK, e]⟩
    · rw [if_neg e] at h
      cases q : findK r k with
      | none => rw [q] at h; cases h
      | some i =>
        rw [q] at h; cases h
        obtain ⟨kv', h1, h2, h3⟩ := findK_some q
        exact ⟨kv', by simpa using h1, h2, by simp [lookK, e, h3]⟩
theorem findK_none {k : PyData} : ∀ {kvs : List (PyData × PyData)}, findK kvs k = none → lookK kvs k = none ∧ (∀ kv ∈ kvs, PyData.eqv kv.1 k = false) ∧ ∀ d, setK kvs k d = kvs ++ [(k, d)]
  | [], _ => ⟨rfl, (fun _ h => by cases h), fun _ => rfl⟩
  | kv :: r, h => by
    simp only [findK] at h
    by_cases e : PyData.eqv kv.1 k = true
    · rw [if_pos e] at h; cases h
    · rw [if_neg e] at h
      cases q : findK r k with
      | some i => rw [q] at h; cases h
      | none =>
        obtain ⟨h1, h2, h3⟩ := findK_none q
        refine ⟨by simp [lookK, e, h1], fun kv' hm => ?_, fun d => by simp [setK, e, h3]⟩
        rcases List.mem_cons.mp hm with rfl | hm
        · simpa using e
        · exact h2 kv' hm
theorem RD.key {H : PyData → Int} {kd : Bool} : ∀ {es : List DictEntry} {kvs : List (PyData × PyData)}, RD H F kd es kvs → ∀ kv ∈ kvs, keyOk kv.1 = true ∧ kindK kv.1 = some kd ∧ kv.1.depth ≤ 6 := fun {_ _} r =>
  RD.ind (P := fun _ kvs => ∀ kv ∈ kvs, keyOk kv.1 = true ∧ kindK kv.1 = some kd ∧ kv.1.depth ≤ 6) (fun _ h => nomatch h) (fun _ b c d _ _ _ ih kv h => by
    rcases List.mem_cons.mp h with rfl | h
    · exact ⟨c, b, d⟩
    · exact ih kv h) r
theorem RD.getAt {H : PyData → Int} {kd : Bool} : ∀ {es : List DictEntry} {kvs : List (PyData × PyData)}, RD H F kd es kvs → ∀ {j : Nat} {kv}, kvs[j]? = some kv → ∃ e, es[j]? = some e ∧ R H F e.key kv.1 ∧ R H F e.val kv.2 ∧ e.hash = H kv.1 := fun {_ _} r {j kv} h =>
  RD.ind (P := fun es kvs => ∀ (j : Nat) (kv : PyData × PyData), kvs[j]? = some kv → ∃ e, es[j]? = some e ∧ R H F e.key kv.1 ∧ R H F e.val kv.2 ∧ e.hash = H kv.1) (fun _ _ h => nomatch h) (fun a _ _ _ x y _ ih j _ h => by
    cases j with
    | zero => cases h; exact ⟨_, rfl, x, y, a⟩
    | succ j => exact ih j _ h) r j kv h
theorem int_find {prog : Program} {w : World} {k : Int} {H : PyData → Int} : ∀ {es : List DictEntry} {kvs : List (PyData × PyData)}, RD H F true es kvs → es.findIdx? (fun e => (intKind prog w).is k e.key) = findK kvs (.int k)
  | _, _, .nil => rfl
  | _, _, .cons (e := e) (k := k') a b c d x y r => by
    cases k' with
    | int i =>
      obtain ⟨t, ht⟩ := x.toInt
      have e1 : (intKind prog w).is k e.key = PyData.eqv (.int i) (.int k) := by rw [ht]; rfl
      rw [List.findIdx?_cons, e1, int_find r]
      simp only [findK]
    | _ => cases b
theorem tup_rows {prog : Program} {w : World} {H : PyData → Int} (hH : ∀ d, H d = hashK w d) {h : Heap} (hs : Sat F h) : ∀ {es : List DictEntry} {kvs : List (PyData × PyData)}, RD H F false es kvs →
    ∃ xs : List (PyData × Addr × Value), es = xs.map (@entryOfKey prog w PyData decPy (keyKind prog w)) ∧ (∀ x ∈ xs, IsKeyA h x.1 x.2.1) ∧ xs.map (·.1) = kvs.map (·.1)
  | _, _, .nil => ⟨[], rfl, (fun _ h => by cases h), rfl⟩
  | _, _, .cons (e := e) (k := k) (d := d) a b c dp x y r => by
    obtain ⟨xs, h1, h2, h3⟩ := tup_rows hH hs r
    cases k with
    | tuple ks =>
      obtain ⟨as, q⟩ := x.reads hs
      obtain ⟨ka, o, vs, m, bs, he, _⟩ := reads_tuple q
      rw [he] at q
      refine ⟨(.tuple ks, ka, e.val) :: xs, ?_, ?_, by simp [h3]⟩
      · rw [List.map_cons, ← h1]
        congr 1
        obtain ⟨eh, ek, ev⟩ := e
        simp only at a he
        subst he
        rw [a, hH]
        rfl
      · intro z hz
        rcases List.mem_cons.mp hz with rfl | hz
        · exact ⟨c, dp, as, q⟩
        · exact h2 z hz
    | _ => cases b
theorem find_wp {d : Addr} {o : Obj} {es : Array DictEntry} {m : Nat} {kvs : List (PyData × PyData)} {key : Value} {k : PyData} {kd : Bool} {Q : Option Nat → Shared → Prop} {E : Value → Shared → Prop} (hH : ∀ d, C.H d = hashK C.w d) (hu : A.units + 100 < cLine) (hs : Sat F s.heap)
    (ho : s.heap.get? d = some o) (hd : o.data = .dict es m) (r : RD C.H F kd es.toList kvs) (hn : (kvs.map (·.1)).Nodup) (rk : R C.H F key k) (h1 : keyOk k = true) (h2 : k.depth ≤ 6) (h3 : kindK k = some kd) (h : Q (findK kvs k) s) :
    wpAny (model C.prog C.w) A (dictFind d key (hashK C.w k)) Q E s := by
  cases kd with
  | true =>
    cases k with
    | int i =>
      obtain ⟨t, rfl⟩ := rk.toInt
      refine wpAny_dictFind_of (knd := intKind C.prog C.w) (k := i) (by show Value.isInt i (.int i t) = true; simp [Value.isInt]) ho hd (fun e he => ?_) ?_
      · obtain ⟨j, hj⟩ := List.mem_iff_getElem?.mp (Array.mem_toList_iff.mpr he)
        have hl : j < kvs.length := by rw [← r.length]; exact (List.getElem?_eq_some_iff.mp hj).1
        have hkv : kvs[j]? = some kvs[j] := List.getElem?_eq_getElem hl
        obtain ⟨e', he', q1, q2, q3⟩ := r.getAt hkv
        rw [hj] at he'; cases he'
        obtain ⟨g1, g2, g3⟩ := r.key _ (List.mem_of_getElem? hkv)
        generalize kvs[j] = kv at q1 q3 g2
        obtain ⟨kk, vv⟩ := kv
        cases kk with
        | int x =>
          obtain ⟨t', ht'⟩ := q1.toInt
          exact ⟨x, by rw [ht']; show Value.isInt x (.int x t') = true; simp [Value.isInt], by rw [q3, hH]; rfl⟩
        | _ => cases g2
      · have : es.findIdx? (fun e => (intKind C.prog C.w).is i e.key) = findK kvs (.int i) := by
          rw [← int_find (prog := C.prog) (w := C.w) r]
          exact List.findIdx?_toArray _ es.toList
        rw [this]; exact h
    | _ => cases h3
  | false =>
    cases k with
    | tuple ks =>
      obtain ⟨as, q⟩ := rk.reads hs
      obtain ⟨ka, oa, vs, mm, bs, rfl, _⟩ := reads_tuple q
      obtain ⟨xs, e1, e2, e3⟩ := tup_rows (prog := C.prog) (w := C.w) hH hs r
      refine @wpAny_dictFind_heap C.prog C.w PyData decPy (keyKind C.prog C.w) A _ s d ka o es m xs (.tuple ks) Q hu ⟨h1, h2, as, q⟩ ho hd e1 e2 (e3 ▸ hn) (fun hno => ?_) (fun j p hj => ?_)
      · have : findK kvs (.tuple ks) = none := by
          cases qf : findK kvs (.tuple ks) with
          | none => rfl
          | some j =>
            exfalso
            obtain ⟨kv, f1, f2, _⟩ := findK_some qf
            have hk : kv.1 = .tuple ks := eqv_key _ _ (r.key _ (List.mem_of_getElem? f1)).1 h1 f2
            have : (xs.map (·.1))[j]? = some (.tuple ks) := by rw [e3, List.getElem?_map, f1]; simp [hk]
            rw [List.getElem?_map] at this
            cases hx : xs[j]? with
            | none => rw [hx] at this; cases this
            | some x => rw [hx] at this; simp at this; exact hno j x.2 (by rw [hx, ← this])
        rw [← this]; exact h
      · have hk : (kvs.map (·.1))[j]? = some (.tuple ks) := by rw [← e3, List.getElem?_map, hj]; rfl
        have : findK kvs (.tuple ks) = some j := by
          cases qf : findK kvs (.tuple ks) with
          | none =>
            obtain ⟨_, f2, _⟩ := findK_none qf
            rw [List.getElem?_map] at hk
            cases hx : kvs[j]? with
            | none => rw [hx] at hk; cases hk
            | some x =>
              rw [hx] at hk; simp at hk
              have := f2 x (List.mem_of_getElem? hx)
              rw [hk, eqv_key_refl _ h1] at this; cases this
          | some i =>
            obtain ⟨kv, f1, f2, _⟩ := findK_some qf
            have hk' : kv.1 = .tuple ks := eqv_key _ _ (r.key _ (List.mem_of_getElem? f1)).1 h1 f2
            have h' : (kvs.map (·.1))[i]? = some (.tuple ks) := by rw [List.getElem?_map, f1]; simp [hk']
            have := (List.getElem?_inj (List.getElem?_eq_some_iff.mp h').1 hn).mp (h'.trans hk.symm)
            rw [this]
        rw [← this]; exact h
    | _ => cases h3
theorem keyHash_wp {key : Value} {k : PyData} {Q : Int → Shared → Prop} {E : Value → Shared → Prop} (hu : A.units + 100 < cLine) (hs : Sat F s.heap) (rk : R C.H F key k) (h1 : keyOk k = true) (h2 : k.depth ≤ 6) (h : ∀ t, Q (hashK C.w k) { s with toks := t }) :
    wpAny (model C.prog C.w) A (pyHash key) Q E s := by
  obtain ⟨as, q⟩ := rk.reads hs
  exact hash_wp 6 k key as A s Q E h2 h1 q (by omega) (h _)
theorem dget_wp {d : Addr} {o : Obj} {es : Array DictEntry} {m : Nat} {kvs : List (PyData × PyData)} {key : Value} {k : PyData} {kd : Bool} {Q : Option Value → Shared → Prop} {E : Value → Shared → Prop} (hH : ∀ d, C.H d = hashK C.w d) (hu : A.units + 100 < cLine) (hs : Sat F s.heap)
    (ho : s.heap.get? d = some o) (hd : o.data = .dict es m) (r : RD C.H F kd es.toList kvs) (hn : (kvs.map (·.1)).Nodup) (rk : R C.H F key k) (hk : okKey kvs k = true)
    (h : ∀ t ov, (match lookK kvs k with | none => ov = none | some x => ∃ v, ov = some v ∧ R C.H F v x) → Q ov { s with toks := t }) : wpAny (model C.prog C.w) A (dictGet d key) Q E s := by
  obtain ⟨h1, h2, kd', h3, r⟩ := okKey_spec r hk
  unfold dictGet
  refine wpAny_holding ?_
  refine wpAny_bind (keyHash_wp hu hs rk h1 h2 fun t => wpAny_bind (find_wp (s := { s with toks := t }) hH hu hs ho hd r hn rk h1 h2 h3 ?_))
  cases hf : findK kvs k with
  | none =>
    refine wpAny_pure (h t none ?_)
    rw [(findK_none hf).1]
  | some j =>
    obtain ⟨kv, f1, f2, f3⟩ := findK_some hf
    obtain ⟨e, g1, g2, g3, g4⟩ := r.getAt f1
    refine wpAny_bind (wpAny_dictEntries (s := { s with toks := t }) ho hd (wpAny_pure (h t _ ?_)))
    rw [f3]
    refine ⟨e.val, ?_, g3⟩
    rw [← Array.getElem?_toList, g1]; rfl
theorem RD.modify {H : PyData → Int} {kd : Bool} {k d : PyData} {v : Value} (rv : R H F v d) : ∀ {es : List DictEntry} {kvs : List (PyData × PyData)}, RD H F kd es kvs → ∀ {j}, findK kvs k = some j → RD H F kd (es.modify j fun e => { e with val := v }) (setK kvs k d) ∧ (setK kvs k d).map (·.1) = kvs.map (·.1) := fun {_ _} r {j} h =>
  RD.ind (P := fun es kvs => ∀ j, findK kvs k = some j → RD H F kd (es.modify j fun e => { e with val := v }) (setK kvs k d) ∧ (setK kvs k d).map (·.1) = kvs.map (·.1)) (fun _ h => nomatch h) (fun {_ _ k' d' _} a b c dp x y r ih j h => by
    simp only [findK] at h
    by_cases e : PyData.eqv k' k = true
    · rw [if_pos e] at h; cases h
      simp only [setK, if_pos e, List.modify_zero_cons]
      exact ⟨.cons a b c dp x rv r, rfl⟩
    · rw [if_neg e] at h
      obtain ⟨i, q, rfl⟩ := Option.map_eq_some_iff.mp h
      obtain ⟨h1, h2⟩ := ih i q
      simp only [setK, if_neg e, List.modify_succ_cons]
      exact ⟨.cons a b c dp x y h1, congrArg (k' :: ·) h2⟩) r j h
theorem RD.push {H : PyData → Int} {kd : Bool} {e : DictEntry} {k d : PyData} (h1 : e.hash = H k) (h2 : kindK k = some kd) (h3 : keyOk k = true) (h4 : k.depth ≤ 6) (h5 : R H F e.key k) (h6 : R H F e.val d) : ∀ {es : List DictEntry} {kvs : List (PyData × PyData)}, RD H F kd es kvs → RD H F kd (es ++ [e]) (kvs ++ [(k, d)]) := fun {_ _} r =>
  RD.ind (P := fun es kvs => RD H F kd (es ++ [e]) (kvs ++ [(k, d)])) (.cons h1 h2 h3 h4 h5 h6 .nil) (fun a b c dp x y _ q => .cons a b c dp x y q) r
theorem dset_wp {d : Addr} {kvs : List (PyData × PyData)} {key v : Value} {k x : PyData} {Q : Unit → Shared → Prop} {E : Value → Shared → Prop} (hH : ∀ d, C.H d = hashK C.w d) (hu : A.units + 100 < cLine) (hs : Sat F s.heap)
    (ho : Ow C.H F s.heap d (.dict kvs)) (rk : R C.H F key k) (rv : R C.H F v x) (hk : okKey kvs k = true) (hz : kvs.length ≤ 1048576)
    (h : ∀ h' t, Ow C.H F h' d (.dict (setK kvs k x)) → Heap.SameBut d s.heap h' → Q () { s with heap := h', toks := t }) : wpAny (model C.prog C.w) A (dictSet d key v) Q E s := by
  cases ho with
  | @dict o es m _ kd hsm ho hc hd r hn =>
    obtain ⟨h1, h2, kd', h3, r⟩ := okKey_spec r hk
    unfold dictSet
    refine wpAny_holding ?_
    refine wpAny_bind (keyHash_wp hu hs rk h1 h2 fun t => ?_)
    unfold dictSetHashed
    refine wpAny_holding ?_
    refine wpAny_bind (find_wp (s := { s with toks := t }) hH hu hs ho hd r hn rk h1 h2 h3 ?_)
    cases hf : findK kvs k with
    | none =>
      obtain ⟨f1, f2, f3⟩ := findK_none hf
      have e : es.size = kvs.length := (Array.length_toList ..).symm.trans r.length
      refine wpAny_bind (wpAny_rule (wpAny_updateDictKeys (s := { s with toks := t }) ho hd (h _ t ?_ (Heap.SameBut.update ..)) (by rw [sizeLine_eq]; omega)))
      refine .dict hsm (Heap.get?_update_self _ ho (Obj.isFreed_of_dict (Obj.data_mapDictKeys hd _))) (hc.mapDictKeys _) (Obj.data_mapDictKeys hd _) ?_ ?_ (kd := kd')
      · rw [f3, Array.toList_push]
        exact r.push (hH k).symm h3 h1 h2 rk rv
      · rw [f3, List.map_append, List.nodup_append]
        refine ⟨hn, by simp, ?_⟩
        intro a ha b hb
        simp only [List.map_cons, List.map_nil, List.mem_singleton] at hb
        subst hb
        rintro rfl
        obtain ⟨kv, hm, rfl⟩ := List.mem_map.mp ha
        have := f2 kv hm
        rw [eqv_key_refl _ h1] at this; cases this
    | some j =>
      obtain ⟨g1, g2⟩ := RD.modify rv r hf
      refine wpAny_bind (wpAny_rule (wpAny_bind (wpAny_updateDict (s := { s with toks := t }) ho hd (wpAny_point (h _ t ?_ (Heap.SameBut.update ..))))))
      refine .dict hsm (Heap.get?_update_self _ ho (Obj.isFreed_of_dict (Obj.data_mapDict hd _))) (hc.mapDict _) (Obj.data_mapDict hd _) ?_ (g2 ▸ hn) (kd := kd')
      rw [Array.toList_modify]; exact g1
end Ev
set_option maxRecDepth 10000
namespace Ev
open PySem PySem.W PySem.Spec PySem.Calls PyProof.Rows PySem.SeqAt
variable {C : Cx} {n : Nat} {sc : Scope} {A : Around} {env : Env} {base : Fz} {low : Fz} {F F' : Fz} {s s' : Shared} {σ : St}
/-! a new object, not yet frozen -/
noncomputable def PostO (C : Cx) (F : Fz) (s : Shared) (d : PyData) : Value → Shared → Prop := fun v s' => ∃ F' a, v = .ref a ∧ Grow F s F' s' ∧ F' a = none ∧ s.heap.get? a = none ∧ Ow C.H F' s'.heap a d
noncomputable def SndO (C : Cx) (n : Nat) (sc : Scope) (e : Expr) (f : St → Option PyData) : Prop :=
  ∀ {A env base low F s σ d}, Ct C n sc A env base low F s σ → f σ = some d → Wp C A (eval e env) (PostO C F s d) s
theorem Grow.freeze {a : Addr} {d : PyData} {H : PyData → Int} (g : Grow F s F' s') (ha : F' a = none) (hf : s.heap.get? a = none) (o : Ow H F' s'.heap a d) : ∃ F'', Grow F s F'' s' ∧ R H F'' (.ref a) d := by
  obtain ⟨ob, hob⟩ := o.there
  have sub : Sub F' (put F' a ob) := put_sub ha
  refine ⟨put F' a ob, ⟨g.keep, g.sub.trans sub, fun b o' q => ?_, fun b o' q => ?_, g.gens, g.drawn, g.os⟩, ?_⟩
  · unfold put at q; by_cases z : b = a
    · subst z; exact .inr hf
    · rw [if_neg z] at q; exact g.fresh b o' q
  · unfold put at q; by_cases z : b = a
    · subst z; rw [if_pos rfl] at q; cases q; exact hob
    · rw [if_neg z] at q; exact g.sat b o' q
  · cases o with
    | list h1 h4 => rw [hob] at h1; cases h1; exact .list (put_self ..) (h4.mono sub)
    | dict h0 h1 h2 h3 h4 h5 => rw [hob] at h1; cases h1; exact .dict h0 (put_self ..) h2 h3 (h4.mono sub) h5
theorem PostO.post {d : PyData} {v : Value} (h : PostO C F s d v s') : Post C F s d v s' := by
  obtain ⟨F', a, rfl, g, ha, hf, o⟩ := h
  exact g.freeze ha hf o
theorem SndO.snd {e : Expr} {f : St → Option PyData} (h : SndO C n sc e f) : Snd C n sc e f := fun X hf => wp_mono (h X hf) fun _ _ q => q.post
theorem wp_newListO {vs : List Value} {ds : List PyData} (hs : Sat F s.heap) (r : RL C.H F vs ds) (hl : okLen ds = true) : Wp C A (newList vs) (PostO C F s (.list ds)) s := by
  have k : ∀ b o, s.heap.get? b = some o → (s.heap.push (seqObj "list" vs.toArray 0)).get? b = some o := fun b o e => Heap.get?_push_of_some _ e
  refine PySem.wpAny_newList ⟨F, _, rfl, .ofKeep hs k rfl rfl rfl, sat_fresh hs (get_size _), get_size _, .list (Heap.get?_push_size _ rfl) r⟩ ?_
  rw [r.length]; exact okLen_le hl
theorem SndO.list {es : List Expr} {fs : Sf} {pos : Pos} (h : SndRs C n sc es fs) : SndO C n sc (.List es pos) (lstC fs) := fun {A env base low F s σ d} X hf => by
  unfold lstC at hf
  cases e : asC fs σ with
  | none => rw [e] at hf; cases hf
  | some ds =>
    rw [e] at hf
    dsimp only at hf
    split at hf
    · rename_i hl
      cases hf
      rw [arm_eval_List]
      refine wpAny_bind (wpAny_standAt (wpAny_bind (wp_mono (argsR_wp h X e) fun vs s1 ⟨F1, g1, r1⟩ => ?_)))
      refine wp_mono (wp_newListO g1.sat r1 hl) fun v s2 ⟨F2, a, e2, g2, h1, h2, o⟩ => ⟨F2, a, e2, g1.trans g2, h1, ?_, o⟩
      cases q : s.heap.get? a with
      | none => rfl
      | some o' => rw [g1.keep _ _ q] at h2; cases h2
    · cases hf
/-! dict displays -/
inductive SndDs (C : Cx) (n : Nat) (sc : Scope) : List (Option Expr) → List Expr → List ((St → Option PyData) × (St → Option PyData)) → Prop
  | nil : SndDs C n sc [] [] []
  | cons {k ks v vs f g fs} : Snd C n sc k f → Snd C n sc v g → SndDs C n sc ks vs fs → SndDs C n sc (some k :: ks) (v :: vs) ((f, g) :: fs)
noncomputable def dsC : List ((St → Option PyData) × (St → Option PyData)) → St → Option (List (PyData × PyData))
  | [], _ => some []
  | (f, g) :: fs, σ => match f σ with
    | some k => match g σ with
      | some d => match dsC fs σ with
        | some r => some ((k, d) :: r)
        | none => none
      | none => none
    | none => none
noncomputable def putAllK : List (PyData × PyData) → List (PyData × PyData) → Option (List (PyData × PyData))
  | kvs, [] => some kvs
  | kvs, (k, d) :: r => if okKey kvs k && decide (kvs.length ≤ 1048576) then putAllK (setK kvs k d) r else none
noncomputable def dictC (fs : List ((St → Option PyData) × (St → Option PyData))) : St → Option PyData := fun σ => match dsC fs σ with
  | some r => match putAllK [] r with
    | some kvs => some (.dict kvs)
    | none => none
  | none => none
theorem dsC_cons {f g : St → Option PyData} {fs r} (h : dsC ((f, g) :: fs) σ = some r) : ∃ k d r', f σ = some k ∧ g σ = some d ∧ dsC fs σ = some r' ∧ r = (k, d) :: r' := by
  simp only [dsC] at h
  cases e1 : f σ with
  | none => rw [e1] at h; cases h
  | some k =>
    cases e2 : g σ with
    | none => rw [e1] at h; simp only [e2] at h; cases h
    | some d =>
      cases e3 : dsC fs σ with
      | none => rw [e1] at h; simp only [e2, e3] at h; cases h
      | some r' => rw [e1] at h; simp only [e2, e3] at h; cases h; exact ⟨_, _, _, rfl, rfl, rfl, rfl⟩
theorem Grow.fresh_back {a : Addr} (g : Grow F s F' s') (h : s'.heap.get? a = none) : s.heap.get? a = none := by
  cases q : s.heap.get? a with
  | none => rfl
  | some o => rw [g.keep _ _ q] at h; cases h
theorem Grow.off {a : Addr} {o : Obj} (g : Grow F s F' s') (h : F a = none) (ho : s.heap.get? a = some o) : F' a = none := by
  cases q : F' a with
  | none => rfl
  | some o' =>
    rcases g.fresh a o' q with e | e
    · rw [h] at e; cases e
    · rw [ho] at e; cases e
inductive RP (H : PyData → Int) (F : Fz) : List (Value × Value) → List (PyData × PyData) → Prop
  | nil : RP H F [] []
  | cons {k v d e vs ds} : R H F k d → R H F v e → RP H F vs ds → RP H F ((k, v) :: vs) ((d, e) :: ds)
theorem pairs_wp {pos : Pos} : ∀ {ks vs fs}, SndDs C n sc ks vs fs → ∀ {A env base low F s σ r}, Ct C n sc A env base low F s σ → dsC fs σ = some r →
    Wp C A (evalPairs (pairTrees ks vs env pos)) (fun ps s' => ∃ F', Grow F s F' s' ∧ RP C.H F' ps r) s := by
  intro ks vs fs hks
  induction hks with
  | nil => intro _ _ _ _ _ _ _ _ X h; cases h; exact wpAny_pure ⟨_, .refl X.sat, .nil⟩
  | cons hk hv hr ih =>
    intro _ _ _ _ _ _ _ _ X h
    obtain ⟨k, d, r', e1, e2, e3, rfl⟩ := dsC_cons h
    unfold pairTrees evalPairs
    refine wpAny_bind (wp_mono (hk X e1) fun kv s1 ⟨F1, g1, r1⟩ => wpAny_bind (wpAny_holding ?_))
    have X1 := X.grow g1
    refine wpAny_bind (wp_mono (hv X1 e2) fun vv s2 ⟨F2, g2, r2⟩ => wpAny_bind (wpAny_standAt (wpAny_pure ?_)))
    refine wpAny_bind (wpAny_holding (wp_mono (ih (X1.grow g2) e3) fun ps s3 ⟨F3, g3, r3⟩ => wpAny_pure ?_))
    exact ⟨F3, (g1.trans g2).trans g3, .cons (r1.mono (g2.sub.trans g3.sub)) (r2.mono g3.sub) r3⟩
theorem storeAll_wp (hH : ∀ d, C.H d = hashK C.w d) {d : Addr} (hu : A.units + 100 < cLine) : ∀ {ps : List (Value × Value)} {r kvs kvs' : List (PyData × PyData)} {s : Shared} {Q : PUnit → Shared → Prop}, Sat F s.heap → F d = none → Ow C.H F s.heap d (.dict kvs) → RP C.H F ps r → putAllK kvs r = some kvs' →
    (∀ h' t, Ow C.H F h' d (.dict kvs') → Heap.SameBut d s.heap h' → Q ⟨⟩ { s with heap := h', toks := t }) → Wp C A (storeAll d ps) Q s
  | [], _, kvs, kvs', s, Q, hs, hd, ho, .nil, hp, h => by
    cases hp
    unfold storeAll
    rw [List.forIn_nil]
    exact wpAny_pure (h s.heap s.toks ho (.refl ..))
  | (kv, vv) :: ps, _, kvs, kvs', s, Q, hs, hd, ho, .cons (d := k) (e := x) rk rv rr, hp, h => by
    simp only [putAllK] at hp
    split at hp
    · rename_i hc
      obtain ⟨hc1, hc2⟩ := Bool.and_eq_true_iff.mp hc
      unfold storeAll
      rw [List.forIn_cons]
      refine wpAny_bind (wpAny_bind (dset_wp hH hu hs ho rk rv hc1 (of_decide_eq_true hc2) fun h' t ho' sb => wpAny_pure ?_))
      have hs' : Sat F h' := fun b o q => (sb.2 b (fun e => by subst e; rw [hd] at q; cases q)).trans (hs b o q)
      exact storeAll_wp hH hu (s := { s with heap := h', toks := t }) hs' hd ho' rr hp fun h'' t' ho'' sb' => h h'' t' ho'' (sb.trans sb')
    · cases hp
theorem dict_new_ow {H : PyData → Int} {a : Addr} {h : Heap} (hsm : (a == sysModules) = false) (ho : h.get? a = some { cls := .type "dict", data := .dict #[] }) : Ow H F h a (.dict []) :=
  .dict (kd := true) hsm ho ⟨rfl, rfl, rfl⟩ rfl .nil List.nodup_nil
theorem SndO.dict0 {pos : Pos} : SndO C n sc (.Dict [] [] pos) (cC (.dict [])) := fun {A env base low F s σ d} X hf => by
  cases hf
  rw [eval_Dict_empty]
  refine wpAny_bind (wpAny_standAt ?_)
  unfold newDict
  have k : ∀ b o, s.heap.get? b = some o → (s.heap.push { cls := .type "dict", data := .dict #[] }).get? b = some o := fun b o e => Heap.get?_push_of_some _ e
  refine wpAny_newObj_type ⟨F, _, rfl, .ofKeep X.sat k rfl rfl rfl, sat_fresh X.sat (get_size _), get_size _, ?_⟩
  exact dict_new_ow (X.ok.small X.keep0 (Nat.le_refl _)) (Heap.get?_push_size _ rfl)
theorem SndO.dict {ks : List (Option Expr)} {vs : List Expr} {fs} {pos : Pos} (h : SndDs C n sc ks vs fs) (hall : ks.all (·.isSome) = true := by rfl) (hl : ks.length = vs.length := by rfl) (h0 : ks ≠ [] := by simp) (hlen : ks.length ≤ 15 := by decide) :
    SndO C n sc (.Dict ks vs pos) (dictC fs) := fun {A env base low F s σ d} X hf => by
  unfold dictC at hf
  cases e1 : dsC fs σ with
  | none => rw [e1] at hf; cases hf
  | some r =>
    rw [e1] at hf
    dsimp only at hf
    cases e2 : putAllK [] r with
    | none => rw [e2] at hf; cases hf
    | some kvs =>
      rw [e2] at hf
      cases hf
      have k : ∀ b o, s.heap.get? b = some o → (s.heap.push { cls := .type "dict", data := .dict #[] }).get? b = some o := fun b o e => Heap.get?_push_of_some _ e
      have g0 : Grow F s F { s with heap := s.heap.push { cls := .type "dict", data := .dict #[] } } := .ofKeep X.sat k rfl rfl rfl
      have hd0 : F s.heap.objs.size = none := sat_fresh X.sat (get_size _)
      have hobj : (s.heap.push { cls := .type "dict", data := .dict #[] }).get? s.heap.objs.size = some { cls := .type "dict", data := .dict #[] } := Heap.get?_push_size _ rfl
      refine wpAny_Dict_any hall hl h0 hlen (wp_mono (pairs_wp h (X.grow g0) e1) fun ps s1 ⟨F1, g1, r1⟩ => ?_)
      have hd1 : F1 s.heap.objs.size = none := g1.off hd0 hobj
      have ow1 : Ow C.H F1 s1.heap s.heap.objs.size (.dict []) := dict_new_ow (X.ok.small X.keep0 (Nat.le_refl _)) (g1.keep _ _ hobj)
      refine storeAll_wp X.ok.hH (by have := X.room.in1; omega) g1.sat hd1 ow1 r1 e2 fun h' t ow' sb => ?_
      have g := g0.trans g1
      refine ⟨F1, _, rfl, ⟨fun b o q => (sb.2 b (fun e => by subst e; rw [get_size] at q; cases q)).trans (g.keep b o q), g.sub, g.fresh, fun b o q => (sb.2 b (fun e => by subst e; rw [hd1] at q; cases q)).trans (g.sat b o q), g.gens, g.drawn, g.os⟩, hd1, get_size _, ow'⟩
/-! subscripts -/
noncomputable def itemD : PyData → PyData → Option PyData
  | .list ds, .int i => if 0 ≤ i ∧ i < 1048576 then ds[i.toNat]? else none
  | .tuple ds, .int i => if 0 ≤ i ∧ i < 1048576 then ds[i.toNat]? else none
  | .dict kvs, k => if okKey kvs k then lookK kvs k else none
  | _, _ => none
noncomputable def subC (f g : St → Option PyData) : St → Option PyData := fun σ => match f σ with
  | some a => match g σ with
    | some b => itemD a b
    | none => none
  | none => none
theorem sub_tail {value slice : Expr} {o i : Value} {T id : String} {Q : Value → Shared → Prop} (hT : s.TypeIs o T)
    (hl : typeLookup (.type T) "__getitem__" = pure (some (.builtin id))) (h : Wp C A (getItem o i) Q s)
    (hs : subscripted slice false o i = operate [o, i] (getItem o i)) : Wp C A (PyProof.Rows.subscriptTail value slice o i) Q s := by
  unfold PyProof.Rows.subscriptTail
  refine wpAny_bind ?_
  rw [getitemInPython_of_ne hT.not_modules]
  refine wpAny_bind (wpAny_specialOf hT hl ?_)
  have fin : Wp C A (subscripted slice false o i) (fun r s₃ => Wp C A (letTemporaryGo value o r >>= fun _ => pure r) Q s₃) s := by
    rw [hs]
    exact wpAny_operating (wpAny_mono h (fun r s₃ h₃ => wpAny_bind (wpAny_letTemporaryGo (wpAny_pure h₃))) fun _ _ x => x)
  first
    | exact wpAny_pure (wpAny_bind fin)
    | exact wpAny_bind (wpAny_pure (wpAny_bind fin))
    | exact wpAny_bind fin
theorem getItem_wp {v i : Value} {d k x : PyData} (hH : ∀ d, C.H d = hashK C.w d) (hu : A.units + 400 < cLine) (hs : Sat F s.heap) (b : Bw C.H F s.heap v d) (r : R C.H F i k) (h : itemD d k = some x) :
    ∃ T id, s.TypeIs v T ∧ typeLookup (.type T) "__getitem__" = pure (some (.builtin id)) ∧ Wp C A (getItem v i) (fun y s' => ∃ t, s' = { s with toks := t } ∧ R C.H F y x) s := by
  unfold itemD at h
  split at h
  · split at h
    · rename_i ds i hi
      obtain ⟨a, ws, m, rfl, ha, rl⟩ := b.list hs
      obtain ⟨t, rfl⟩ := r.toInt
      obtain ⟨y, hy, ry⟩ := rl.get h
      refine ⟨"list", _, ⟨_, ha, rfl⟩, list_getitem_lookup, ?_⟩
      exact wpAny_getItem_list (items := ws) ⟨_, ha, rfl, m, rfl⟩ hi.1 (by omega) (by rw [← Array.getElem?_toList]; exact hy) ⟨s.toks, rfl, ry⟩
    · cases h
  · split at h
    · rename_i ds i hi
      obtain ⟨a, ws, m, rfl, ha, rl⟩ := b.tuple hs
      obtain ⟨t, rfl⟩ := r.toInt
      obtain ⟨y, hy, ry⟩ := rl.get h
      have hlt : i.toNat < ws.size := by
        have := (List.getElem?_eq_some_iff.mp hy).1
        simpa using this
      refine ⟨"tuple", _, ⟨_, ha, rfl⟩, slot_tuple_getitem.lookup, ?_⟩
      exact P.getItem_tuple (items := ws) (n := m) ha (by omega) (by omega) (seqIndex_of hi.1 (by omega)) (by rw [← Array.getElem?_toList]; exact hy) ⟨s.toks, rfl, ry⟩
    · cases h
  · split at h
    · rename_i kvs k hk
      obtain ⟨a, o, es, m, kd, rfl, hsm, ha, hc, hd, rd, hn⟩ := b.dict hs
      have hT : s.TypeIs (.ref a) "dict" := ⟨o, ha, hc.1⟩
      refine ⟨"dict", _, hT, slot_dict_getitem.lookup, ?_⟩
      unfold getItem
      refine wpAny_holding ?_
      refine wpAny_bind (wpAny_sequenceKey hT (by decide) ?_)
      refine wpAny_bind (wpAny_callSpecial?_slot (name := Str.ofString "__getitem__") hT slot_dict_getitem
        (wpAny_call_entry slot_dict_getitem hT entry_dict_getitem ?_ (args_dict_getitem _ _)))
      show wpAny _ _ (dictGet a i >>= _) _ _ s
      refine wpAny_bind (dget_wp hH (by show A.units + 1 + 100 < cLine; omega) hs ha hd rd hn r hk fun t ov hov => ?_)
      rw [h] at hov
      obtain ⟨y, rfl, ry⟩ := hov
      exact wpAny_pure ⟨y, rfl, wpAny_pure ⟨t, rfl, ry⟩⟩
    · cases h
  · cases h
theorem Snd.sub {value slice : Expr} {pos : Pos} {f g : St → Option PyData} (hv : SndB C n sc value f) (hi : Snd C n sc slice g)
    (hs : ∀ o i, subscripted slice false o i = operate [o, i] (getItem o i) := by intro _ _; with_unfolding_all rfl) : Snd C n sc (.Subscript value slice pos) (subC f g) := fun {A env base low F s σ d} X hf => by
  unfold subC at hf
  cases e1 : f σ with
  | none => rw [e1] at hf; cases hf
  | some a =>
    rw [e1] at hf
    dsimp only at hf
    cases e2 : g σ with
    | none => rw [e2] at hf; cases hf
    | some b =>
      rw [e2] at hf
      dsimp only at hf
      refine PyProof.Rows.Subscript_ (wp_mono (hv X e1) fun v s1 ⟨F1, g1, r1⟩ => wp_mono (hi (X.grow g1) e2) fun i s2 ⟨F2, g2, r2⟩ => ?_)
      obtain ⟨T, id, hT, hl, hw⟩ := getItem_wp (A := A) X.ok.hH X.room.in1 g2.sat (r1.grow g2) r2 hf
      refine sub_tail hT hl (wp_mono hw fun y s3 ⟨t, e3, r3⟩ => ?_) (hs _ _)
      subst e3
      exact ⟨F2, (g1.trans g2).trans (.tok g2.sat t), r3⟩
/-! slices of lists -/
noncomputable def takeC (f : St → Option PyData) (k : Nat) : St → Option PyData := fun σ => match f σ with
  | some (.list ds) => if okLen ds then some (.list (ds.take k)) else none
  | _ => none
theorem slice_fin {l : Addr} {items : Array Value} {vl vu vs : Value} {lo hi st : Option Int} {es : List PyData} (hs : Sat F s.heap) (hl : s.heap.IsList l items) (pl : IsPart vl lo) (pu : IsPart vu hi) (ps : IsPart vs st) (h0 : st ≠ some 0)
    (r : RL C.H F (slicePick items lo hi st).toList es) (hz : items.size ≤ sizeLine) :
    Wp C A (getItem (.ref l) (.ref s.heap.objs.size)) (Post C F s (.list es)) { s with heap := s.heap.push { cls := .type "slice", data := .fields #[vl, vu, vs] } } := by
  have k : ∀ b o, s.heap.get? b = some o → (s.heap.push { cls := .type "slice", data := .fields #[vl, vu, vs] }).get? b = some o := fun b o e => Heap.get?_push_of_some _ e
  have g0 : Grow F s F { s with heap := s.heap.push { cls := .type "slice", data := .fields #[vl, vu, vs] } } := .ofKeep hs k rfl rfl rfl
  refine wpAny_getItem_list_slice (s := { s with heap := s.heap.push { cls := .type "slice", data := .fields #[vl, vu, vs] } }) (hl.push _) (Heap.IsSliceOf.new ..) pl pu ps h0 ?_ hz
  refine ⟨_, g0.trans (Grow.push g0.sat (seqObj "list" (slicePick items lo hi st) 0) rfl), .list (put_self ..) ?_⟩
  exact r.mono (put_sub (sat_fresh g0.sat (get_size _)))
theorem const_part {i : Int} {k : Nat} {p : Pos} {Q : Value → Shared → Prop} (h : ∀ t tk, Q (.int i t) { s with toks := tk }) : Wp C A (evalPart (some (.Constant (.int i) k p)) env) Q s := by
  rw [evalPart_some]
  exact wpAny_Constant_int (h _ _)
theorem Snd.take {value : Expr} {i : Int} {k : Nat} {p1 p2 pos : Pos} {f : St → Option PyData} (hv : SndB C n sc value f) (hi : 0 ≤ i) (ht : ∀ o r, letTemporaryGo value o r = pure () := by intro _ _; rfl) :
    Snd C n sc (.Subscript value (.Slice Option.none (some (.Constant (.int i) k p1)) Option.none p2) pos) (takeC f i.toNat) := fun {A env base low F s σ d} X hf => by
  unfold takeC at hf
  split at hf
  · rename_i ds e1
    split at hf
    · rename_i hl
      cases hf
      refine wpAny_Subscript_Slice list_getitem_lookup (wp_mono (hv X e1) fun v s1 ⟨F1, g1, r1⟩ => ?_) ht
      obtain ⟨a, ws, m, rfl, ha, rl⟩ := r1.list g1.sat
      refine wpAny_Slice ?_
      (try rw [evalPart_none])
      refine wpAny_pure (const_part fun t tk => ?_)
      (try rw [evalPart_none])
      refine wpAny_pure ?_
      have g2 : Grow F s F1 { s1 with toks := tk } := g1.trans (.tok g1.sat tk)
      refine ⟨(Heap.IsList.push (h := s1.heap) ⟨_, ha, rfl, m, rfl⟩ _).typeIs, ?_⟩
      refine wp_mono (slice_fin (s := { s1 with toks := tk }) (es := ds.take i.toNat) g2.sat ⟨_, ha, rfl, m, rfl⟩ .none (.int i t) .none (by simp) ?_ (by rw [rl_arr rl]; exact okLen_le hl)) fun v s3 ⟨F3, g3, r3⟩ => ⟨F3, g2.trans g3, r3⟩
      have := slicePick_upto' ws i.toNat
      rw [Int.toNat_of_nonneg hi] at this
      rw [this]
      exact rl.take _
    · cases hf
  · cases hf
end Ev
set_option maxRecDepth 10000
namespace Ev
open PySem PySem.W PySem.Spec PySem.Calls PyProof.Rows PySem.SeqAt
/-! dicts as they lie: their views and iterators, whatever the keys -/
structure Raw (h : Heap) (d : Addr) (es : Array DictEntry) (ep : Nat) : Prop where
  ob : ∃ o, h.get? d = some o ∧ o.ExactDict ∧ o.data = .dict es ep
theorem Raw.typeIs {s : Shared} {d : Addr} {es : Array DictEntry} {ep : Nat} (x : Raw s.heap d es ep) : s.TypeIs (.ref d) "dict" := let ⟨o, a, c, _⟩ := x.ob; ⟨o, a, c.1⟩
section
variable {prog : Program} {w : World} {A : Around} {E : Value → Shared → Prop} {s : Shared} {d : Addr} {es : Array DictEntry} {ep : Nat}
theorem raw_values_call (hd : (d == sysModules) = false) (x : Raw s.heap d es ep) {Q : Value → Shared → Prop}
    (h : Q (.ref s.heap.objs.size) { s with heap := s.heap.push { cls := .type "dict_values", data := .fields #[.ref d] } }) : wpAny (model prog w) A (call (.builtin "dict.values") [.ref d]) Q E s := by
  refine wpAny_call_entry F.slot_dict_values x.typeIs F.entry_dict_values ?_ (F.args_dict_values_1 _)
  unfold Builtin.«dict.values»
  refine wpAny_bind ?_
  unfold Builtin.Dict.noArgs
  refine wpAny_bind (wpAny_notOrdered_dict x.typeIs ?_)
  show wpAny _ _ (pure d) _ _ s
  refine wpAny_pure ?_
  show wpAny _ _ (Builtin.Dict.showsAll d >>= _) _ _ s
  unfold Builtin.Dict.showsAll
  rw [if_neg (by rw [hd]; exact Bool.false_ne_true)]
  refine wpAny_bind (wpAny_pure ?_)
  exact wpAny_bind (wpAny_newObj_type (wpAny_pure ⟨_, rfl, h⟩))
theorem raw_items_call (hd : (d == sysModules) = false) (x : Raw s.heap d es ep) {Q : Value → Shared → Prop}
    (h : Q (.ref s.heap.objs.size) { s with heap := s.heap.push { cls := .type "dict_items", data := .fields #[.ref d] } }) : wpAny (model prog w) A (call (.builtin "dict.items") [.ref d]) Q E s := by
  refine wpAny_call_entry F.slot_dict_items x.typeIs F.entry_dict_items ?_ (F.args_dict_items_1 _)
  unfold Builtin.«dict.items»
  refine wpAny_bind ?_
  unfold Builtin.Dict.noArgs
  refine wpAny_bind (wpAny_notOrdered_dict x.typeIs ?_)
  show wpAny _ _ (pure d) _ _ s
  refine wpAny_pure ?_
  show wpAny _ _ (Builtin.Dict.showsAll d >>= _) _ _ s
  unfold Builtin.Dict.showsAll
  rw [if_neg (by rw [hd]; exact Bool.false_ne_true)]
  refine wpAny_bind (wpAny_pure ?_)
  exact wpAny_bind (wpAny_newObj_type (wpAny_pure ⟨_, rfl, h⟩))
theorem raw_values_iter {v : Addr} {Q : Value → Shared → Prop} (hv : s.heap.IsValuesView v d) (x : Raw s.heap d es ep)
    (hQ : Q (.ref s.heap.objs.size) { s with heap := s.heap.push { cls := .type "dict_valueiterator", data := .fields #[.ref d, .int 0 0, .int es.size 0, .int ep 0] } }) :
    wpAny (model prog w) A (pyIter (.ref v)) Q E s := by
  obtain ⟨ov, hov, hcv, hdv⟩ := id hv
  obtain ⟨o, ho, hc, hdat⟩ := x.ob
  refine wpAny_pyIter_slot hv.typeIs F.slot_dict_values_iter (wpAny_call_entry F.slot_dict_values_iter hv.typeIs F.entry_dict_values_iter ?_ (F.args_dict_values_iter_1 _))
  unfold Builtin.«dict_values.__iter__»
  refine wpAny_bind (wpAny_pure ?_)
  refine wpAny_bind ?_
  unfold Builtin.Dict_items.dictOf
  refine wpAny_bind (wpAny_field hov hdv (x := .ref d) rfl (wpAny_pure ?_))
  refine wpAny_bind ?_
  unfold Builtin.Dict_items.newIterator
  refine wpAny_bind (wpAny_dictEntries ho hdat ?_)
  refine wpAny_bind (wpAny_dictEpoch ho hdat ?_)
  have hown : Builtin.Dict_items.ownsTuple "dict_valueiterator" = false := by decide
  simp only [hown, Bool.false_eq_true, if_false]
  refine wpAny_newObj_type (wpAny_pure ⟨_, rfl, "dict_valueiterator", _, ⟨_, Heap.get?_push_size _ rfl, rfl⟩, F.slot_dict_valueiterator_next.lookup, ?_⟩)
    (by first | size_fits | (simp only [sizeOk, List.size_toArray, List.length_append, List.length_cons, List.length_nil, sizeLine_eq]; omega))
  simpa [rawInt] using hQ
theorem raw_items_iter {v : Addr} {Q : Value → Shared → Prop} (hv : s.heap.IsItemsView v d) (x : Raw s.heap d es ep)
    (hQ : Q (.ref s.heap.objs.size) { s with heap := s.heap.push { cls := .type "dict_itemiterator", data := .fields #[.none, .bool false, .ref d, .int 0 0, .int es.size 0, .int ep 0, .none, .none] } }) :
    wpAny (model prog w) A (pyIter (.ref v)) Q E s := by
  obtain ⟨ov, hov, hcv, hdv⟩ := id hv
  obtain ⟨o, ho, hc, hdat⟩ := x.ob
  refine wpAny_pyIter_slot hv.typeIs F.slot_dict_items_iter (wpAny_call_entry F.slot_dict_items_iter hv.typeIs F.entry_dict_items_iter ?_ (F.args_dict_items_iter_1 _))
  unfold Builtin.«dict_items.__iter__»
  refine wpAny_bind (wpAny_pure ?_)
  refine wpAny_bind ?_
  unfold Builtin.Dict_items.dictOf
  refine wpAny_bind (wpAny_field hov hdv (x := .ref d) rfl (wpAny_pure ?_))
  refine wpAny_bind ?_
  unfold Builtin.Dict_items.newIterator
  refine wpAny_bind (wpAny_dictEntries ho hdat ?_)
  refine wpAny_bind (wpAny_dictEpoch ho hdat ?_)
  have hown : Builtin.Dict_items.ownsTuple "dict_itemiterator" = true := by decide
  simp only [hown, if_true]
  refine wpAny_newObj_type (wpAny_pure ⟨_, rfl, "dict_itemiterator", _, ⟨_, Heap.get?_push_size _ rfl, rfl⟩, F.slot_dict_itemiterator_next.lookup, ?_⟩)
    (by simp only [sizeOk, Builtin.Dict_items.ownedTupleFields, List.size_toArray, List.length_append, List.length_cons, List.length_nil, sizeLine_eq]; omega)
  simpa [rawInt, Builtin.Dict_items.ownedTupleFields] using hQ
theorem raw_keys_iter {Q : Value → Shared → Prop} (hd : (d == sysModules) = false) (x : Raw s.heap d es ep)
    (hQ : Q (.ref s.heap.objs.size) { s with heap := s.heap.push { cls := .type "dict_keyiterator", data := .fields #[.ref d, .int 0 0, .int es.size 0, .int ep 0] } }) :
    wpAny (model prog w) A (pyIter (.ref d)) Q E s := by
  have hT := x.typeIs
  obtain ⟨o, ho, hc, hdat⟩ := x.ob
  refine wpAny_pyIter_slot hT F.slot_dict_iter (wpAny_call_entry F.slot_dict_iter hT F.entry_dict_iter ?_ (F.args_dict_iter_1 _))
  unfold Builtin.«dict.__iter__»
  refine wpAny_bind ?_
  unfold Builtin.Dict.dictSlotNone
  refine wpAny_bind (wpAny_notOrdered_dict hT ?_)
  show wpAny _ _ (pure (Value.ref d)) _ _ s
  refine wpAny_pure ?_
  show wpAny _ _ (Builtin.Dict.showsAll d >>= _) _ _ s
  unfold Builtin.Dict.showsAll
  rw [if_neg (by rw [hd]; exact Bool.false_ne_true)]
  refine wpAny_bind (wpAny_pure ?_)
  refine wpAny_bind (wpAny_dictEntries ho hdat ?_)
  refine wpAny_bind (wpAny_dictEpoch ho hdat ?_)
  refine wpAny_bind (wpAny_newObj_type (wpAny_pure ⟨_, rfl, "dict_keyiterator", _, ⟨_, Heap.get?_push_size _ rfl, rfl⟩, F.slot_dict_keyiterator_next.lookup, ?_⟩))
  simpa [rawInt] using hQ
theorem raw_values_next {it : Addr} {i : Nat} {e : DictEntry} {Q : Option Value → Shared → Prop} (hit : s.heap.IsValIter it d i es.size ep) (x : Raw s.heap d es ep) (hx : es[i]? = some e)
    (hQ : ∀ h', h'.IsValIter it d (i + 1) es.size ep → Heap.SameBut it s.heap h' → Q (some e.val) { s with heap := h' }) : wpAny (model prog w) A (pyNext (.ref it)) Q E s := by
  obtain ⟨o, ho, hc, hd⟩ := id hit
  obtain ⟨od, hod, hcd, hdd⟩ := x.ob
  unfold pyNext
  refine wpAny_bind (wpAny_attempt (wpAny_callSpecial?_slot (name := Str.ofString "__next__") hit.typeIs F.slot_dict_valueiterator_next
    (wpAny_call_entry F.slot_dict_valueiterator_next hit.typeIs F.entry_dict_valueiterator_next ?_ (F.args_dict_valueiterator_next_1 _))))
  refine wpAny_bind (wpAny_pure ?_)
  refine wpAny_bind ?_
  refine wpAny_bind ?_
  first | refine wpAny_bind (wpAny_typeNameOfWhole_valiter hit.typeIs (wpAny_pure ?_)) | refine wpAny_bind (wpAny_typeNameOf_valiter hit.typeIs (wpAny_pure ?_))
  refine wpAny_bind (wpAny_fieldsOf ho hd ?_)
  have hown : Builtin.Dict_items.ownsTuple "dict_valueiterator" = false := by decide
  simp only [hown, Bool.false_eq_true, if_false]
  show wpAny _ _ (if (Value.ref d == Value.none) = true then _ else _) _ _ s
  rw [if_neg (show ¬ ((Value.ref d == Value.none) = true) from Bool.false_ne_true)]
  refine wpAny_bind (wpAny_pure ?_)
  refine wpAny_bind (wpAny_dictEntries hod hdd ?_)
  rw [if_neg (by simp)]
  refine wpAny_bind (wpAny_pure ?_)
  refine wpAny_bind (wpAny_dictEpoch hod hdd ?_)
  rw [if_neg (by simp)]
  refine wpAny_pure ?_
  simp only [show ¬ ((i : Int) < 0) from by omega, if_false, Int.toNat_natCast, hx]
  refine wpAny_bind ?_
  first | refine wpAny_bind (wpAny_typeNameOfWhole_valiter hit.typeIs (wpAny_pure ?_)) | refine wpAny_bind (wpAny_typeNameOf_valiter hit.typeIs (wpAny_pure ?_))
  refine wpAny_bind (wpAny_isOneOf_valiter hit.typeIs ?_)
  show wpAny _ _ (setField (.ref it) 1 (rawInt ((i : Int) + 1)) >>= _) _ _ s
  refine wpAny_bind (wpAny_setField ho hd (by simp) ?_)
  have hit' : (s.heap.update it (Obj.mapFields (·.setIfInBounds 1 (rawInt ((i : Int) + 1))))).IsValIter it d (i + 1) es.size ep :=
    ⟨_, Heap.get?_update_self _ ho (Obj.isFreed_of_fields (Obj.data_mapFields hd _)), (Obj.cls_mapFields ..).trans hc, by rw [Obj.data_mapFields hd]; simp [rawInt]⟩
  refine wpAny_bind (wpAny_holding ?_)
  refine wpAny_bind (wpAny_isOneOf_valiter (s := { s with heap := s.heap.update it (Obj.mapFields (·.setIfInBounds 1 (rawInt ((i : Int) + 1)))) }) hit'.typeIs ?_)
  refine wpAny_bind (wpAny_isOneOf_valiter (s := { s with heap := s.heap.update it (Obj.mapFields (·.setIfInBounds 1 (rawInt ((i : Int) + 1)))) }) hit'.typeIs ?_)
  show wpAny _ _ (pure e.val) _ _ _
  exact wpAny_pure (wpAny_pure ⟨_, rfl, wpAny_pure (hQ _ hit' (Heap.SameBut.update ..))⟩)
theorem raw_keys_next {it : Addr} {i : Nat} {e : DictEntry} {Q : Option Value → Shared → Prop} (hit : s.heap.IsKeyIter it d i es.size ep) (x : Raw s.heap d es ep) (hx : es[i]? = some e)
    (hQ : ∀ h', h'.IsKeyIter it d (i + 1) es.size ep → Heap.SameBut it s.heap h' → Q (some e.key) { s with heap := h' }) : wpAny (model prog w) A (pyNext (.ref it)) Q E s := by
  obtain ⟨o, ho, hc, hd⟩ := id hit
  obtain ⟨od, hod, hcd, hdd⟩ := x.ob
  unfold pyNext
  refine wpAny_bind (wpAny_attempt (wpAny_callSpecial?_slot (name := Str.ofString "__next__") hit.typeIs F.slot_dict_keyiterator_next
    (wpAny_call_entry F.slot_dict_keyiterator_next hit.typeIs F.entry_dict_keyiterator_next ?_ (F.args_dict_keyiterator_next_1 _))))
  refine wpAny_bind (wpAny_pure ?_)
  refine wpAny_bind ?_
  refine wpAny_bind ?_
  first | refine wpAny_bind (wpAny_typeNameOfWhole_keyiter hit.typeIs (wpAny_pure ?_)) | refine wpAny_bind (wpAny_typeNameOf_keyiter hit.typeIs (wpAny_pure ?_))
  refine wpAny_bind (wpAny_fieldsOf ho hd ?_)
  have hown : Builtin.Dict_items.ownsTuple "dict_keyiterator" = false := by decide
  simp only [hown, Bool.false_eq_true, if_false]
  show wpAny _ _ (if (Value.ref d == Value.none) = true then _ else _) _ _ s
  rw [if_neg (show ¬ ((Value.ref d == Value.none) = true) from Bool.false_ne_true)]
  refine wpAny_bind (wpAny_pure ?_)
  refine wpAny_bind (wpAny_dictEntries hod hdd ?_)
  rw [if_neg (by simp)]
  refine wpAny_bind (wpAny_pure ?_)
  refine wpAny_bind (wpAny_dictEpoch hod hdd ?_)
  rw [if_neg (by simp)]
  refine wpAny_pure ?_
  simp only [show ¬ ((i : Int) < 0) from by omega, if_false, Int.toNat_natCast, hx]
  refine wpAny_bind ?_
  first | refine wpAny_bind (wpAny_typeNameOfWhole_keyiter hit.typeIs (wpAny_pure ?_)) | refine wpAny_bind (wpAny_typeNameOf_keyiter hit.typeIs (wpAny_pure ?_))
  refine wpAny_bind (wpAny_isOneOf_keyiter hit.typeIs ?_)
  show wpAny _ _ (setField (.ref it) 1 (rawInt ((i : Int) + 1)) >>= _) _ _ s
  refine wpAny_bind (wpAny_setField ho hd (by simp) ?_)
  have hit' : (s.heap.update it (Obj.mapFields (·.setIfInBounds 1 (rawInt ((i : Int) + 1))))).IsKeyIter it d (i + 1) es.size ep :=
    ⟨_, Heap.get?_update_self _ ho (Obj.isFreed_of_fields (Obj.data_mapFields hd _)), (Obj.cls_mapFields ..).trans hc, by rw [Obj.data_mapFields hd]; simp [rawInt]⟩
  refine wpAny_bind (wpAny_holding ?_)
  refine wpAny_bind (wpAny_isOneOf_keyiter (s := { s with heap := s.heap.update it (Obj.mapFields (·.setIfInBounds 1 (rawInt ((i : Int) + 1)))) }) hit'.typeIs ?_)
  show wpAny _ _ (pure e.key) _ _ _
  exact wpAny_pure (wpAny_pure ⟨_, rfl, wpAny_pure (hQ _ hit' (Heap.SameBut.update ..))⟩)
theorem raw_values_end {it : Addr} {i : Nat} {Q : Option Value → Shared → Prop} (hh : A.handled = none) (hit : s.heap.IsValIter it d i es.size ep) (x : Raw s.heap d es ep) (hx : es[i]? = none)
    (hQ : ∀ h', Heap.ExtBut it s.heap h' → Q none { s with heap := h' }) : wpAny (model prog w) A (pyNext (.ref it)) Q E s := by
  obtain ⟨o, ho, hc, hd⟩ := id hit
  obtain ⟨od, hod, hcd, hdd⟩ := x.ob
  unfold pyNext
  refine wpAny_bind (wpAny_attempt (wpAny_callSpecial?_slot (name := Str.ofString "__next__") hit.typeIs F.slot_dict_valueiterator_next
    (wpAny_call_entry F.slot_dict_valueiterator_next hit.typeIs F.entry_dict_valueiterator_next ?_ (F.args_dict_valueiterator_next_1 _))))
  refine wpAny_bind (wpAny_pure ?_)
  refine wpAny_bind ?_
  refine wpAny_bind ?_
  first | refine wpAny_bind (wpAny_typeNameOfWhole_valiter hit.typeIs (wpAny_pure ?_)) | refine wpAny_bind (wpAny_typeNameOf_valiter hit.typeIs (wpAny_pure ?_))
  refine wpAny_bind (wpAny_fieldsOf ho hd ?_)
  have hown : Builtin.Dict_items.ownsTuple "dict_valueiterator" = false := by decide
  simp only [hown, Bool.false_eq_true, if_false]
  show wpAny _ _ (if (Value.ref d == Value.none) = true then _ else _) _ _ s
  rw [if_neg (show ¬ ((Value.ref d == Value.none) = true) from Bool.false_ne_true)]
  refine wpAny_bind (wpAny_pure ?_)
  refine wpAny_bind (wpAny_dictEntries hod hdd ?_)
  rw [if_neg (by simp)]
  refine wpAny_bind (wpAny_pure ?_)
  refine wpAny_bind (wpAny_dictEpoch hod hdd ?_)
  rw [if_neg (by simp)]
  refine wpAny_pure ?_
  simp only [show ¬ ((i : Int) < 0) from by omega, if_false, Int.toNat_natCast, hx]
  refine wpAny_bind ?_
  first | refine wpAny_bind (wpAny_typeNameOfWhole_valiter hit.typeIs (wpAny_pure ?_)) | refine wpAny_bind (wpAny_typeNameOf_valiter hit.typeIs (wpAny_pure ?_))
  show wpAny _ _ (setField (.ref it) 0 .none >>= _) _ _ s
  refine wpAny_bind (wpAny_setField ho hd (by simp) ?_)
  show wpAny _ _ (newExc (.type "StopIteration") [] >>= _) _ _ _
  refine wpAny_bind ?_
  simp only [newExc, newTuple]
  refine wpAny_bind (wpAny_newObj_type ?_ (by size_fits))
  refine wpAny_bind (m := firstArgMember _ _) (wpAny_of_eq (a := Value.none) (by first | rfl | (simp only [firstArgMember]; rfl)) ?_)
  refine wpAny_newObj_type ?_ (by size_fits)
  simp only [raiseNew]
  refine wpAny_bind (wpAny_handled ?_)
  rw [show A.in1.handled = none from hh]
  refine wpAny_bind (wpAny_pure (wpAny_throw ?_))
  refine wpAny_bind (wpAny_isInstance (T := "StopIteration") (b := true) ⟨_, Heap.get?_push_size _ rfl, rfl⟩ isSubtype_stop ?_)
  exact wpAny_pure (hQ _ (((Heap.SameBut.update ..).extBut.push _).push _))
theorem raw_keys_end {it : Addr} {i : Nat} {Q : Option Value → Shared → Prop} (hh : A.handled = none) (hit : s.heap.IsKeyIter it d i es.size ep) (x : Raw s.heap d es ep) (hx : es[i]? = none)
    (hQ : ∀ h', Heap.ExtBut it s.heap h' → Q none { s with heap := h' }) : wpAny (model prog w) A (pyNext (.ref it)) Q E s := by
  obtain ⟨o, ho, hc, hd⟩ := id hit
  obtain ⟨od, hod, hcd, hdd⟩ := x.ob
  unfold pyNext
  refine wpAny_bind (wpAny_attempt (wpAny_callSpecial?_slot (name := Str.ofString "__next__") hit.typeIs F.slot_dict_keyiterator_next
    (wpAny_call_entry F.slot_dict_keyiterator_next hit.typeIs F.entry_dict_keyiterator_next ?_ (F.args_dict_keyiterator_next_1 _))))
  refine wpAny_bind (wpAny_pure ?_)
  refine wpAny_bind ?_
  refine wpAny_bind ?_
  first | refine wpAny_bind (wpAny_typeNameOfWhole_keyiter hit.typeIs (wpAny_pure ?_)) | refine wpAny_bind (wpAny_typeNameOf_keyiter hit.typeIs (wpAny_pure ?_))
  refine wpAny_bind (wpAny_fieldsOf ho hd ?_)
  have hown : Builtin.Dict_items.ownsTuple "dict_keyiterator" = false := by decide
  simp only [hown, Bool.false_eq_true, if_false]
  show wpAny _ _ (if (Value.ref d == Value.none) = true then _ else _) _ _ s
  rw [if_neg (show ¬ ((Value.ref d == Value.none) = true) from Bool.false_ne_true)]
  refine wpAny_bind (wpAny_pure ?_)
  refine wpAny_bind (wpAny_dictEntries hod hdd ?_)
  rw [if_neg (by simp)]
  refine wpAny_bind (wpAny_pure ?_)
  refine wpAny_bind (wpAny_dictEpoch hod hdd ?_)
  rw [if_neg (by simp)]
  refine wpAny_pure ?_
  simp only [show ¬ ((i : Int) < 0) from by omega, if_false, Int.toNat_natCast, hx]
  refine wpAny_bind ?_
  first | refine wpAny_bind (wpAny_typeNameOfWhole_keyiter hit.typeIs (wpAny_pure ?_)) | refine wpAny_bind (wpAny_typeNameOf_keyiter hit.typeIs (wpAny_pure ?_))
  show wpAny _ _ (setField (.ref it) 0 .none >>= _) _ _ s
  refine wpAny_bind (wpAny_setField ho hd (by simp) ?_)
  show wpAny _ _ (newExc (.type "StopIteration") [] >>= _) _ _ _
  refine wpAny_bind ?_
  simp only [newExc, newTuple]
  refine wpAny_bind (wpAny_newObj_type ?_ (by size_fits))
  refine wpAny_bind (m := firstArgMember _ _) (wpAny_of_eq (a := Value.none) (by first | rfl | (simp only [firstArgMember]; rfl)) ?_)
  refine wpAny_newObj_type ?_ (by size_fits)
  simp only [raiseNew]
  refine wpAny_bind (wpAny_handled ?_)
  rw [show A.in1.handled = none from hh]
  refine wpAny_bind (wpAny_pure (wpAny_throw ?_))
  refine wpAny_bind (wpAny_isInstance (T := "StopIteration") (b := true) ⟨_, Heap.get?_push_size _ rfl, rfl⟩ isSubtype_stop ?_)
  exact wpAny_pure (hQ _ (((Heap.SameBut.update ..).extBut.push _).push _))
theorem raw_items_end {it : Addr} {i : Nat} {ok ov : Value} {Q : Option Value → Shared → Prop} (hh : A.handled = none) (hit : IsItemIter s.heap it d i es.size ep ok ov) (x : Raw s.heap d es ep) (hx : es[i]? = none)
    (hQ : ∀ h', Heap.ExtBut it s.heap h' → Q none { s with heap := h' }) : wpAny (model prog w) A (pyNext (.ref it)) Q E s := by
  obtain ⟨od, hod, hcd, hdd⟩ := x.ob
  have hT : s.TypeIs (.ref it) "dict_itemiterator" := ⟨_, hit, rfl⟩
  unfold pyNext
  refine wpAny_bind (wpAny_attempt (wpAny_callSpecial?_slot (name := Str.ofString "__next__") hT F.slot_dict_itemiterator_next
    (wpAny_call_entry F.slot_dict_itemiterator_next hT F.entry_dict_itemiterator_next ?_ (F.args_dict_itemiterator_next_1 _))))
  refine wpAny_bind (wpAny_pure ?_)
  refine wpAny_bind ?_
  refine wpAny_bind ?_
  first | refine wpAny_bind (wpAny_typeNameOfWhole_itemiter hT (wpAny_pure ?_)) | refine wpAny_bind (wpAny_typeNameOf_itemiter hT (wpAny_pure ?_))
  refine wpAny_bind (wpAny_fieldsOf hit rfl ?_)
  have hown : Builtin.Dict_items.ownsTuple "dict_itemiterator" = true := by decide
  simp only [hown, if_true]
  show wpAny _ _ (if (Value.ref d == Value.none) = true then _ else _) _ _ s
  rw [if_neg (show ¬ ((Value.ref d == Value.none) = true) from Bool.false_ne_true)]
  refine wpAny_bind (wpAny_pure ?_)
  refine wpAny_bind (wpAny_dictEntries hod hdd ?_)
  rw [if_neg (by simp)]
  refine wpAny_bind (wpAny_pure ?_)
  refine wpAny_bind (wpAny_dictEpoch hod hdd ?_)
  rw [if_neg (by simp)]
  refine wpAny_pure ?_
  simp only [show ¬ ((i : Int) < 0) from by omega, if_false, Int.toNat_natCast, hx]
  refine wpAny_bind ?_
  first | refine wpAny_bind (wpAny_typeNameOfWhole_itemiter hT (wpAny_pure ?_)) | refine wpAny_bind (wpAny_typeNameOf_itemiter hT (wpAny_pure ?_))
  show wpAny _ _ (setField (.ref it) 2 .none >>= _) _ _ s
  refine wpAny_bind (wpAny_setField hit rfl (by simp) ?_)
  show wpAny _ _ (newExc (.type "StopIteration") [] >>= _) _ _ _
  refine wpAny_bind ?_
  simp only [newExc, newTuple]
  refine wpAny_bind (wpAny_newObj_type ?_ (by size_fits))
  refine wpAny_bind (m := firstArgMember _ _) (wpAny_of_eq (a := Value.none) (by first | rfl | (simp only [firstArgMember]; rfl)) ?_)
  refine wpAny_newObj_type ?_ (by size_fits)
  simp only [raiseNew]
  refine wpAny_bind (wpAny_handled ?_)
  rw [show A.in1.handled = none from hh]
  refine wpAny_bind (wpAny_pure (wpAny_throw ?_))
  refine wpAny_bind (wpAny_isInstance (T := "StopIteration") (b := true) ⟨_, Heap.get?_push_size _ rfl, rfl⟩ isSubtype_stop ?_)
  exact wpAny_pure (hQ _ (((Heap.SameBut.update ..).extBut.push _).push _))
theorem raw_items_next {it : Addr} {i : Nat} {e : DictEntry} {ok ov : Value} {Q : Option Value → Shared → Prop} (hit : IsItemIter s.heap it d i es.size ep ok ov) (x : Raw s.heap d es ep) (hx : es[i]? = some e)
    (hQ : ∀ h', IsItemIterOut h' it d (i + 1) es.size ep e.key e.val s.heap.objs.size → h'.get? s.heap.objs.size = some { cls := .type "tuple", data := .seq #[e.key, e.val] } → h'.objs.size = s.heap.objs.size + 1 →
      (∀ b o, b ≠ it → s.heap.get? b = some o → h'.get? b = some o) → Q (some (.ref s.heap.objs.size)) { s with heap := h' }) : wpAny (model prog w) A (pyNext (.ref it)) Q E s := by
  obtain ⟨hp, g, dr, tk, os⟩ := s
  obtain ⟨od, hod, hcd, hdd⟩ := x.ob
  have hT : Shared.TypeIs ⟨hp, g, dr, tk, os⟩ (.ref it) "dict_itemiterator" := ⟨_, hit, rfl⟩
  unfold pyNext
  refine wpAny_bind (wpAny_attempt (wpAny_callSpecial?_slot (name := Str.ofString "__next__") hT F.slot_dict_itemiterator_next
    (wpAny_call_entry F.slot_dict_itemiterator_next hT F.entry_dict_itemiterator_next ?_ (F.args_dict_itemiterator_next_1 _))))
  refine wpAny_bind (wpAny_pure ?_)
  refine wpAny_bind ?_
  refine wpAny_bind ?_
  first | refine wpAny_bind (wpAny_typeNameOfWhole_itemiter hT (wpAny_pure ?_)) | refine wpAny_bind (wpAny_typeNameOf_itemiter hT (wpAny_pure ?_))
  refine wpAny_bind (wpAny_fieldsOf hit rfl ?_)
  have hown : Builtin.Dict_items.ownsTuple "dict_itemiterator" = true := by decide
  simp only [hown, if_true]
  show wpAny _ _ (if (Value.ref d == Value.none) = true then _ else _) _ _ _
  rw [if_neg (show ¬ ((Value.ref d == Value.none) = true) from Bool.false_ne_true)]
  refine wpAny_bind (wpAny_pure ?_)
  refine wpAny_bind (wpAny_dictEntries hod hdd ?_)
  rw [if_neg (by simp)]
  refine wpAny_bind (wpAny_pure ?_)
  refine wpAny_bind (wpAny_dictEpoch hod hdd ?_)
  rw [if_neg (by simp)]
  refine wpAny_pure ?_
  simp only [show ¬ ((i : Int) < 0) from by omega, if_false, Int.toNat_natCast, hx]
  refine wpAny_bind ?_
  first | refine wpAny_bind (wpAny_typeNameOfWhole_itemiter hT (wpAny_pure ?_)) | refine wpAny_bind (wpAny_typeNameOf_itemiter hT (wpAny_pure ?_))
  refine wpAny_bind (wpAny_isOneOf_itemiter hT ?_)
  show wpAny _ _ (setField (.ref it) 3 (rawInt ((i : Int) + 1)) >>= _) _ _ ⟨hp, g, dr, tk, os⟩
  refine wpAny_bind (wpAny_setField_rec hit (by simp) fun h₁ he₁ hs₁ => ?_)
  replace hs₁ : Heap.SameBut it hp h₁ := hs₁
  replace he₁ : IsItemIter h₁ it d (i + 1) es.size ep ok ov := by
    have e : ((i + 1 : Nat) : Int) = (i : Int) + 1 := by omega
    unfold IsItemIter; rw [e]; simpa [rawInt] using he₁
  have hT₁ : Shared.TypeIs ⟨h₁, g, dr, tk, os⟩ (.ref it) "dict_itemiterator" := ⟨_, he₁, rfl⟩
  refine wpAny_bind (wpAny_holding ?_)
  refine wpAny_bind (wpAny_isOneOf_itemiter hT₁ ?_)
  refine wpAny_bind (wpAny_isOneOf_itemiter hT₁ ?_)
  show wpAny _ _ (Builtin.Dict_items.pairFromOwner (.ref it) 6 e.key e.val) _ _ ⟨h₁, g, dr, tk, os⟩
  unfold Builtin.Dict_items.pairFromOwner
  refine wpAny_bind (PySem.wpAny_newTuple ?_)
  have he₂ : IsItemIter (h₁.push { cls := .type "tuple", data := .seq #[e.key, e.val] }) it d (i + 1) es.size ep ok ov := Heap.get?_push_of_some _ he₁
  generalize hh₂ : h₁.push { cls := .type "tuple", data := .seq #[e.key, e.val] } = h₂ at he₂
  have hz₁ : h₁.objs.size = hp.objs.size := hs₁.1
  have hil : it < hp.objs.size := Heap.lt_size hit
  have ht₂ : h₂.get? hp.objs.size = some { cls := .type "tuple", data := .seq #[e.key, e.val] } := by rw [← hh₂, ← hz₁]; exact Heap.get?_push_size _ rfl
  have hz₂ : h₂.objs.size = hp.objs.size + 1 := by rw [← hh₂, Heap.size_push, hz₁]
  have hk₂ : ∀ b o, b ≠ it → hp.get? b = some o → h₂.get? b = some o := fun b o hb q => by rw [← hh₂]; exact Heap.get?_push_of_some _ (hs₁.extBut b o hb q)
  show wpAny _ _ (Builtin.Dict_items.ownedTupleIsFree (.ref it) >>= _) _ _ ⟨h₂, g, dr, tk, os⟩
  rw [hz₁]
  clear hh₂ he₁ hs₁ hT₁ hz₁ h₁
  refine wpAny_bind ?_
  unfold Builtin.Dict_items.ownedTupleIsFree
  refine wpAny_bind (wpAny_field he₂ rfl (x := .none) rfl (wpAny_pure ?_))
  simp only [if_true]
  refine wpAny_bind (wpAny_field he₂ rfl (x := ok) rfl ?_)
  refine wpAny_bind (wpAny_field he₂ rfl (x := ov) rfl ?_)
  refine wpAny_bind (wpAny_setField_rec he₂ (by simp) fun h₃ he₃ hs₃ => ?_)
  replace hs₃ : Heap.SameBut it h₂ h₃ := hs₃
  replace he₃ : IsItemIter h₃ it d (i + 1) es.size ep e.key ov := he₃
  refine wpAny_bind (wpAny_setField_rec he₃ (by simp) fun h₄ he₄ hs₄ => ?_)
  replace hs₄ : Heap.SameBut it h₃ h₄ := hs₄
  replace he₄ : IsItemIter h₄ it d (i + 1) es.size ep e.key e.val := he₄
  refine wpAny_bind (wpAny_setField_rec he₄ (by simp) fun h₅ he₅ hs₅ => ?_)
  replace hs₅ : Heap.SameBut it h₄ h₅ := hs₅
  replace he₅ : IsItemIterOut h₅ it d (i + 1) es.size ep e.key e.val hp.objs.size := he₅
  refine wpAny_bind (wpAny_setField_rec he₅ (by simp) fun h₆ he₆ hs₆ => ?_)
  replace hs₆ : Heap.SameBut it h₅ h₆ := hs₆
  replace he₆ : IsItemIterOut h₆ it d (i + 1) es.size ep e.key e.val hp.objs.size := he₆
  refine wpAny_bind (wpAny_letGo (wpAny_pure (wpAny_pure ⟨_, rfl, wpAny_pure (hQ h₆ he₆ ?_ ?_ ?_)⟩)))
  · exact hs₆.extBut _ _ (Nat.ne_of_gt hil) (hs₅.extBut _ _ (Nat.ne_of_gt hil) (hs₄.extBut _ _ (Nat.ne_of_gt hil) (hs₃.extBut _ _ (Nat.ne_of_gt hil) ht₂)))
  · show h₆.objs.size = hp.objs.size + 1
    rw [hs₆.1, hs₅.1, hs₄.1, hs₃.1, hz₂]
  · exact fun b o hb q => hs₆.extBut b o hb (hs₅.extBut b o hb (hs₄.extBut b o hb (hs₃.extBut b o hb (hk₂ b o hb q))))
end
end Ev
set_option maxRecDepth 10000
namespace Ev
open PySem PySem.W PySem.Spec PySem.Calls PyProof.Rows PySem.SeqAt
variable {C : Cx} {n : Nat} {sc : Scope} {A : Around} {env : Env} {base : Fz} {low : Fz} {F F' : Fz} {s s' : Shared} {σ : St}
structure Adv (W : List Addr) (F : Fz) (s : Shared) (F' : Fz) (s' : Shared) : Prop where
  keep : ∀ b o, b ∉ W → s.heap.get? b = some o → s'.heap.get? b = some o
  sub : Sub F F'
  fresh : ∀ a o, F' a = some o → F a = some o ∨ s.heap.get? a = none
  sat : Sat F' s'.heap
  gens : s'.gens = s.gens
  drawn : s'.drawn = s.drawn
  os : s'.os = s.os
structure Itr (C : Cx) (A : Around) (F0 : Fz) (tg : Expr) (D : Fz) (W : List Addr) (I : Addr) (ds : List PyData) (St : Nat → Heap → Prop) : Prop where
  frame : ∀ {i h h'}, St i h → (∀ a ∈ W, ∀ o, h.get? a = some o → h'.get? a = some o) → Sat D h' → St i h'
  there : ∀ {i h}, St i h → ∀ a ∈ W, ∃ o, h.get? a = some o
  off : ∀ a ∈ W, D a = none
  item : ∀ {i s F d}, ds[i]? = some d → St i s.heap → Sat D s.heap → Sat F s.heap → Sub F0 F → (∀ a ∈ W, F a = none) →
    Wp C A (pyNext (.ref I)) (fun ov s1 => ∃ v, ov = some v ∧ Wp C A (letOwnedTupleGo tg (.ref I) v) (fun _ s2 => ∃ F', Adv W F s F' s2 ∧ R C.H F' v d ∧ St (i + 1) s2.heap) s1) s
  done : ∀ {s F}, St ds.length s.heap → Sat D s.heap → Sat F s.heap → (∀ a ∈ W, F a = none) → Wp C A (pyNext (.ref I)) (fun ov s1 => ov = none ∧ Adv W F s F s1) s
  self : ∀ {i s} {Q : Value → Shared → Prop}, St i s.heap → Q (.ref I) s → Wp C A (pyIter (.ref I)) Q s
theorem Adv.ofKeep {W : List Addr} {h' : Heap} {tk : Nat} (hs : Sat F s.heap) (hW : ∀ a ∈ W, F a = none) (k : ∀ b o, b ∉ W → s.heap.get? b = some o → h'.get? b = some o) : Adv W F s F { s with heap := h', toks := tk } :=
  ⟨k, Sub.refl F, fun _ _ e => .inl e, fun a o e => k a o (fun m => by rw [hW a m] at e; cases e) (hs a o e), rfl, rfl, rfl⟩
theorem Itr.ofWalks {F0 D : Fz} {I : Addr} {fp : List Addr} {m : Nat} {P : Nat → Value → Prop} {St : Nat → Heap → Prop} {ds : List PyData} {tg : Expr} (W : Walks C.prog C.w A I fp [I] m P St) (hP : ∀ i v d, ds[i]? = some d → P i v → R C.H F0 v d) (hm : m = ds.length)
    (hfp : ∀ b ∈ fp, b ≠ I → ∃ o, D b = some o) (hD : D I = none) (hgo : ∀ {i s v} {Q : Unit → Shared → Prop}, St i s.heap → Q () s → Wp C A (letOwnedTupleGo tg (.ref I) v) Q s) (hth : ∀ {i h}, St i h → (∃ o, h.get? I = some o) ∧ Sat (fun a => if a ∈ fp ∧ a ≠ I then D a else none) h) :
    Itr C A F0 tg D [I] I ds St where
  frame := fun {i h h'} st hk hs => W.frame i h h' st fun b hb o e => by
    by_cases q : b = I
    · subst q; exact hk b (by simp) o e
    · obtain ⟨o', ho'⟩ := hfp b hb q
      have h1 := (hth st).2 b o' (by simp [hb, q, ho'])
      rw [h1] at e; cases e
      exact hs b _ ho'
  there := fun st a ha => by simp only [List.mem_singleton] at ha; subst ha; exact (hth st).1
  off := fun a ha => by simp only [List.mem_singleton] at ha; subst ha; exact hD
  item := fun {i s F d} hd st _ hs hsub hW => by
    have hi : i < m := by rw [hm]; exact (List.getElem?_eq_some_iff.mp hd).1
    refine W.item i s _ _ hi st fun v h' tk hp st' hk => ⟨v, rfl, ?_⟩
    exact hgo (s := { s with heap := h', toks := tk }) st' ⟨F, Adv.ofKeep hs hW hk, (hP i v d hd hp).mono hsub, st'⟩
  done := fun {s F} st _ hs hW => W.done s _ _ (hm ▸ st) fun h' tk hk => ⟨rfl, Adv.ofKeep hs hW hk⟩
  self := fun {i s Q} st hq => W.self i s _ _ st hq
theorem letGo_plain {I : Addr} {o : Obj} {T : String} {vs : Array Value} {tg : Expr} {v : Value} {Q : Unit → Shared → Prop} (ho : s.heap.get? I = some o) (hc : o.cls = .type T) (hd : o.data = .fields vs)
    (hT : (["enumerate", "zip", "dict_itemiterator", "dict_reverseitemiterator", "odict_iterator", "itertools.zip_longest", "itertools.pairwise"].contains T) = false) (h : Q () s) : Wp C A (letOwnedTupleGo tg (.ref I) v) Q s := by
  unfold letOwnedTupleGo
  cases tg <;> first
    | exact wpAny_pure h
    | (cases v <;> first
        | exact wpAny_pure h
        | (refine wpAny_bind (wpAny_load ho ?_)
           rw [hc, hd]
           dsimp only
           rw [hT, Bool.false_and, if_neg (by decide)]
           exact wpAny_pure h))
/-! sources -/
noncomputable def PostI (C : Cx) (A : Around) (str : Bool) (tg : Expr) (F : Fz) (s : Shared) (ds : List PyData) : Value → Shared → Prop := fun it s' => ∃ F' W I D St, it = .ref I ∧ Grow F s F' s' ∧ Itr C A F' tg D W I ds St ∧ St 0 s'.heap ∧ Sat D s'.heap ∧
  (∀ a ∈ W, s.heap.get? a = none ∧ F' a = none) ∧ (str = true → ∀ a o, D a = some o → F' a = some o)
noncomputable def SndI (C : Cx) (n : Nat) (sc : Scope) (str : Bool) (tg e : Expr) (f : St → Option (List PyData)) : Prop :=
  ∀ {A env base low F s σ ds}, Ct C n sc A env base low F s σ → f σ = some ds → Wp C A (eval e env) (fun x s1 => Wp C A (pyIter x) (PostI C A str tg F s ds) s1) s
theorem PostI.of {str : Bool} {tg : Expr} {ds : List PyData} {F1 : Fz} {s1 : Shared} (g : Grow F s F1 s1) {v : Value} {s2 : Shared} (h : PostI C A str tg F1 s1 ds v s2) : PostI C A str tg F s ds v s2 := by
  obtain ⟨F2, W, I, D, St, e, g2, it, st, sd, hw, hD⟩ := h
  exact ⟨F2, W, I, D, St, e, g.trans g2, it, st, sd, fun a ha => ⟨g.fresh_back (hw a ha).1, (hw a ha).2⟩, hD⟩
noncomputable def one (a : Addr) (o : Obj) : Fz := fun b => if b = a then some o else none
theorem one_sat {a : Addr} {o : Obj} {h : Heap} (e : h.get? a = some o) : Sat (one a o) h := fun b o' q => by
  unfold one at q
  by_cases z : b = a
  · subst z; rw [if_pos rfl] at q; cases q; exact e
  · rw [if_neg z] at q; cases q
theorem one_ne {a b : Addr} {o : Obj} (h : b ≠ a) : one a o b = none := by unfold one; rw [if_neg h]
theorem one_self {a : Addr} {o : Obj} : one a o a = some o := by unfold one; rw [if_pos rfl]
theorem iter_list {str : Bool} {tg : Expr} {ds : List PyData} (hh : A.handled = none) (hs : Sat F s.heap) {a : Addr} {ws : Array Value} {m : Nat} (ha : s.heap.get? a = some (seqObj "list" ws m)) (hF : str = true → F a = some (seqObj "list" ws m)) (r : RL C.H F ws.toList ds) :
    Wp C A (pyIter (.ref a)) (PostI C A str tg F s ds) s := by
  have hne : a ≠ s.heap.objs.size := Nat.ne_of_lt (Heap.lt_size ha)
  have k : ∀ b o, s.heap.get? b = some o → (s.heap.push { cls := .type "list_iterator", data := .fields #[.ref a, .int 0 0] }).get? b = some o := fun b o e => Heap.get?_push_of_some _ e
  refine wpAny_pyIter_list (items := ws) ⟨_, ha, rfl, m, rfl⟩ ?_
  have g : Grow F s F { s with heap := s.heap.push { cls := .type "list_iterator", data := .fields #[.ref a, .int 0 0] } } := .ofKeep hs k rfl rfl rfl
  refine ⟨F, [s.heap.objs.size], s.heap.objs.size, one a (seqObj "list" ws m), fun i h => (h.IsListIter s.heap.objs.size a i ∧ h.IsList a ws) ∧ h.get? a = some (seqObj "list" ws m), rfl, g, ?_, ?_, ?_, ?_, ?_⟩
  · have W := Walks.list (prog := C.prog) (w := C.w) (A := A) hh s.heap.objs.size a hne ws
    have W2 : Walks C.prog C.w A s.heap.objs.size [s.heap.objs.size, a] [s.heap.objs.size] ws.size (fun i v => ws[i]? = some v) (fun i h => (h.IsListIter s.heap.objs.size a i ∧ h.IsList a ws) ∧ h.get? a = some (seqObj "list" ws m)) :=
      ⟨W.sub, fun i h h' st hk => ⟨W.frame i h h' st.1 hk, hk a (by simp) _ st.2⟩, fun i s Q E hi st hQ => W.item i s Q E hi st.1 fun v h' tk hp st' hk => hQ v h' tk hp ⟨st', hk a _ (by simp [hne]) st.2⟩ hk,
        fun s Q E st hQ => W.done s Q E st.1 hQ, fun i s Q E st hq => W.self i s Q E st.1 hq⟩
    refine Itr.ofWalks W2 (fun i v d hd hp => ?_) (rl_arr r) (fun b hb hn => ?_) (one_ne (Ne.symm hne)) (fun {i s' v Q} st hq => ?_) (fun {i h} st => ?_)
    · obtain ⟨u, hu, ru⟩ := r.get hd
      rw [Array.getElem?_toList] at hu
      rw [hp] at hu; cases hu; exact ru
    · simp at hb
      rcases hb with rfl | rfl
      · exact absurd rfl hn
      · exact ⟨_, one_self⟩
    · obtain ⟨⟨⟨o, ho, hc, hd⟩, _⟩, _⟩ := st
      exact letGo_plain ho hc hd (by decide) hq
    · obtain ⟨⟨⟨o, ho, hc, hd⟩, hl⟩, hx⟩ := st
      refine ⟨⟨o, ho⟩, fun b o' q => ?_⟩
      dsimp only at q
      split at q
      · exact one_sat hx b o' q
      · cases q
  · exact ⟨⟨⟨_, Heap.get?_push_size _ rfl, rfl, rfl⟩, _, k _ _ ha, rfl, m, rfl⟩, k _ _ ha⟩
  · exact one_sat (k _ _ ha)
  · intro b hb
    simp only [List.mem_singleton] at hb
    subst hb
    exact ⟨get_size _, sat_fresh hs (get_size _)⟩
  · intro hstr b o q
    unfold one at q
    by_cases z : b = a
    · subst z; rw [if_pos rfl] at q; cases q; exact hF hstr
    · rw [if_neg z] at q; cases q
theorem iter_tuple {str : Bool} {tg : Expr} {ds : List PyData} (hh : A.handled = none) (hs : Sat F s.heap) {a : Addr} {ws : Array Value} {m : Nat} (ha : s.heap.get? a = some (seqObj "tuple" ws m)) (hF : str = true → F a = some (seqObj "tuple" ws m)) (r : RL C.H F ws.toList ds) :
    Wp C A (pyIter (.ref a)) (PostI C A str tg F s ds) s := by
  have hne : a ≠ s.heap.objs.size := Nat.ne_of_lt (Heap.lt_size ha)
  have k : ∀ b o, s.heap.get? b = some o → (s.heap.push { cls := .type "tuple_iterator", data := .fields #[.ref a, .int 0 0] }).get? b = some o := fun b o e => Heap.get?_push_of_some _ e
  refine wpAny_pyIter_tuple (items := ws) ⟨_, ha, rfl, m, rfl⟩ ?_
  have g : Grow F s F { s with heap := s.heap.push { cls := .type "tuple_iterator", data := .fields #[.ref a, .int 0 0] } } := .ofKeep hs k rfl rfl rfl
  refine ⟨F, [s.heap.objs.size], s.heap.objs.size, one a (seqObj "tuple" ws m), fun i h => (h.IsTupleIter s.heap.objs.size a i ∧ h.IsTuple a ws) ∧ h.get? a = some (seqObj "tuple" ws m), rfl, g, ?_, ?_, ?_, ?_, ?_⟩
  · have W := Walks.tuple (prog := C.prog) (w := C.w) (A := A) hh s.heap.objs.size a hne ws
    have W2 : Walks C.prog C.w A s.heap.objs.size [s.heap.objs.size, a] [s.heap.objs.size] ws.size (fun i v => ws[i]? = some v) (fun i h => (h.IsTupleIter s.heap.objs.size a i ∧ h.IsTuple a ws) ∧ h.get? a = some (seqObj "tuple" ws m)) :=
      ⟨W.sub, fun i h h' st hk => ⟨W.frame i h h' st.1 hk, hk a (by simp) _ st.2⟩, fun i s Q E hi st hQ => W.item i s Q E hi st.1 fun v h' tk hp st' hk => hQ v h' tk hp ⟨st', hk a _ (by simp [hne]) st.2⟩ hk,
        fun s Q E st hQ => W.done s Q E st.1 hQ, fun i s Q E st hq => W.self i s Q E st.1 hq⟩
    refine Itr.ofWalks W2 (fun i v d hd hp => ?_) (rl_arr r) (fun b hb hn => ?_) (one_ne (Ne.symm hne)) (fun {i s' v Q} st hq => ?_) (fun {i h} st => ?_)
    · obtain ⟨u, hu, ru⟩ := r.get hd
      rw [Array.getElem?_toList] at hu
      rw [hp] at hu; cases hu; exact ru
    · simp at hb
      rcases hb with rfl | rfl
      · exact absurd rfl hn
      · exact ⟨_, one_self⟩
    · obtain ⟨⟨⟨o, ho, hc, hd⟩, _⟩, _⟩ := st
      exact letGo_plain ho hc hd (by decide) hq
    · obtain ⟨⟨⟨o, ho, hc, hd⟩, hl⟩, hx⟩ := st
      refine ⟨⟨o, ho⟩, fun b o' q => ?_⟩
      dsimp only at q
      split at q
      · exact one_sat hx b o' q
      · cases q
  · exact ⟨⟨⟨_, Heap.get?_push_size _ rfl, rfl, rfl⟩, _, k _ _ ha, rfl, m, rfl⟩, k _ _ ha⟩
  · exact one_sat (k _ _ ha)
  · intro b hb
    simp only [List.mem_singleton] at hb
    subst hb
    exact ⟨get_size _, sat_fresh hs (get_size _)⟩
  · intro hstr b o q
    unfold one at q
    by_cases z : b = a
    · subst z; rw [if_pos rfl] at q; cases q; exact hF hstr
    · rw [if_neg z] at q; cases q
noncomputable def seqD : PyData → Option (List PyData)
  | .list ds => some ds
  | .tuple ds => some ds
  | _ => none
noncomputable def seqC (f : St → Option PyData) : St → Option (List PyData) := fun σ => match f σ with
  | some d => seqD d
  | none => none
theorem SndI.seq {tg e : Expr} {f : St → Option PyData} (h : Snd C n sc e f) : SndI C n sc true tg e (seqC f) := fun {A env base low F s σ ds} X hf => by
  unfold seqC at hf
  cases e1 : f σ with
  | none => rw [e1] at hf; cases hf
  | some d =>
    rw [e1] at hf
    refine wp_mono (h X e1) fun v s1 ⟨F1, g1, r1⟩ => ?_
    cases d <;> simp only [seqD, reduceCtorEq, Option.some.injEq] at hf
    · subst hf
      cases r1 with | list ho r => exact wp_mono (iter_list X.room.hand g1.sat (g1.sat _ _ ho) (fun _ => ho) r) fun _ _ q => .of g1 q
    · subst hf
      cases r1 with | tuple ho r => exact wp_mono (iter_tuple X.room.hand g1.sat (g1.sat _ _ ho) (fun _ => ho) r) fun _ _ q => .of g1 q
/-! range -/
noncomputable def upD (a b : Int) : List PyData := (List.range (b - a).toNat).map fun i => .int (a + (i : Nat))
noncomputable def rangeD : List PyData → Option (List PyData)
  | [.int b] => if -1048576 < b ∧ b < 1048576 then some (upD 0 b) else none
  | [.int a, .int b] => if -1048576 < a ∧ a < 1048576 ∧ b < 1048576 ∧ -1048576 < b then some (upD a b) else none
  | _ => none
noncomputable def rangeC (fs : Sf) : St → Option (List PyData) := fun σ => match asC fs σ with
  | some ds => rangeD ds
  | none => none
theorem rangeD_spec {as ds : List PyData} (h : rangeD as = some ds) : (∃ b, as = [.int b] ∧ ds = upD 0 b ∧ -1048576 < b ∧ b < 1048576) ∨ (∃ a b, as = [.int a, .int b] ∧ ds = upD a b ∧ -1048576 < a ∧ a < 1048576 ∧ b < 1048576 ∧ -1048576 < b) := by
  unfold rangeD at h
  split at h
  · split at h
    · rename_i hb; cases h; exact .inl ⟨_, rfl, rfl, hb⟩
    · cases h
  · split at h
    · rename_i hb; cases h; exact .inr ⟨_, _, rfl, rfl, hb⟩
    · cases h
  · cases h
theorem iter_range {str : Bool} {tg : Expr} {r : Addr} {a b : Int} {t u v : Tok} (hh : A.handled = none) (hs : Sat F s.heap) (hr : IsRange s.heap r a b 1 t u v) (ha : -4194304 < a ∧ a < 4194304) (hb : -4194304 < b ∨ b ≤ a) (hb' : b < 4194304) (hsm : Builtin.Range.small a b 1 = true) :
    Wp C A (pyIter (.ref r)) (PostI C A str tg F s (upD a b)) s := by
  have k : ∀ c o, s.heap.get? c = some o → (s.heap.push { cls := .type "range_iterator", data := .fields #[rawInt a, rawInt (Builtin.Range.rangeSize a b 1), rawInt 1] }).get? c = some o := fun c o e => Heap.get?_push_of_some _ e
  refine wpAny_pyIter_range hr hsm ?_
  have g : Grow F s F { s with heap := s.heap.push { cls := .type "range_iterator", data := .fields #[rawInt a, rawInt (Builtin.Range.rangeSize a b 1), rawInt 1] } } := .ofKeep hs k rfl rfl rfl
  have hn : Builtin.Range.rangeSize a b 1 = (((b - a).toNat : Nat) : Int) := by unfold Builtin.Range.rangeSize; simp; split <;> omega
  refine ⟨F, [s.heap.objs.size], s.heap.objs.size, fun _ => none, fun i h => IsRangeIter h s.heap.objs.size (a + (i : Nat) * 1) (((b - a).toNat : Int) - (i : Nat)) 1, rfl, g, ?_, ?_, (fun _ _ q => nomatch q), ?_, fun _ _ _ q => nomatch q⟩
  · refine Itr.ofWalks (Walks.range (prog := C.prog) (w := C.w) (A := A) hh s.heap.objs.size a 1 (b - a).toNat) (fun i v d hd hp => ?_) (by simp [upD]) (fun c hc hne => by simp at hc; exact absurd hc hne) rfl (fun {i s' v Q} st hq => ?_) (fun {i h} st => ⟨⟨_, st⟩, fun c o q => by simp at q⟩)
    · obtain ⟨t, rfl⟩ := hp
      simp only [upD, List.getElem?_map] at hd
      cases hx : (List.range (b - a).toNat)[i]? with
      | none => rw [hx] at hd; cases hd
      | some j =>
        rw [hx] at hd
        cases hd
        have : j = i := by
          obtain ⟨h1, h2⟩ := List.getElem?_eq_some_iff.mp hx
          simpa using h2.symm
        subst this
        rw [Int.mul_one]
        exact .int _ _
    · exact letGo_plain st rfl rfl (by decide) hq
  · rw [hn]; unfold IsRangeIter; simpa [rawInt] using Heap.get?_push_size s.heap (o := { cls := .type "range_iterator", data := .fields #[rawInt a, rawInt (((b - a).toNat : Nat) : Int), rawInt 1] }) rfl
  · intro b hb
    simp only [List.mem_singleton] at hb
    subst hb
    exact ⟨get_size _, sat_fresh hs (get_size _)⟩
theorem SndI.range {tg : Expr} {px pos : Pos} {e : Expr} {es : List Expr} {f : St → Option PyData} {fs : Sf} (hb : C.Bi "range" (.type "range")) (hk : sc.names.lookup (Str.ofString "range") = some .globalImplicit) (h : SndAs C n sc (e :: es) (f :: fs)) (hp : ∀ env, (backTo pos (starEach es env)).any (·.1) = false := by intro _; rfl) :
    SndI C n sc true tg (.Call (.Name "range" px) (e :: es) [] pos) (rangeC (f :: fs)) := fun {A env base low F s σ ds} X hf => by
  unfold rangeC at hf
  cases e1 : asC (f :: fs) σ with
  | none => rw [e1] at hf; cases hf
  | some as =>
    rw [e1] at hf
    dsimp only at hf
    refine Call_ (wp_builtin X hb hk (PyProof.Rows.callWith_type1 (wp_mono (argsB_wp h X e1) fun vs s1 ⟨F1, g1, r1⟩ => ?_) ?_ (hp env)))
    · rcases rangeD_spec hf with ⟨b, rfl, rfl, hb⟩ | ⟨a, b, rfl, rfl, hb⟩
      · obtain ⟨v, rfl, r⟩ := r1.one
        obtain ⟨t, rfl⟩ := r.int
        refine call_range_1 ?_
        have g2 : Grow F1 s1 F1 { s1 with heap := s1.heap.push { cls := .type "range", data := .fields #[.int 0 s1.toks, .int b t, .int 1 (s1.toks + 1)] }, toks := s1.toks + 1 + 1 } := .ofKeep g1.sat (fun c o q => Heap.get?_push_of_some _ q) rfl rfl rfl
        refine wp_mono (iter_range X.room.hand g2.sat (IsRange.new ..) (by omega) (by omega) (by omega) ?_) fun _ _ q => .of (g1.trans g2) q
        exact small_one (by omega) (by omega) (by omega) (by omega)
      · obtain ⟨v, u, rfl, r, r'⟩ := r1.two
        obtain ⟨t, rfl⟩ := r.int
        obtain ⟨t', rfl⟩ := r'.int
        refine call_range_2 ?_
        have g2 : Grow F1 s1 F1 { s1 with heap := s1.heap.push { cls := .type "range", data := .fields #[.int a t, .int b t', .int 1 s1.toks] }, toks := s1.toks + 1 } := .ofKeep g1.sat (fun c o q => Heap.get?_push_of_some _ q) rfl rfl rfl
        refine wp_mono (iter_range X.room.hand g2.sat (IsRange.new ..) (by omega) (by omega) (by omega) ?_) fun _ _ q => .of (g1.trans g2) q
        exact small_one (by omega) (by omega) (by omega) (by omega)
    · cases h with | cons _ _ hs => exact hs _ _
end Ev
set_option maxRecDepth 10000
namespace Ev
open PySem PySem.W PySem.Spec PySem.Calls PyProof.Rows PySem.SeqAt
variable {C : Cx} {n : Nat} {sc : Scope} {A : Around} {env : Env} {base : Fz} {low : Fz} {F F' : Fz} {s s' : Shared} {σ : St}
theorem entry_dvi : entryFor table "dict_valueiterator.__iter__" = some Builtin.«dict_keyiterator.__iter__» :=
  entryFor_alias (id' := "dict_keyiterator.__iter__") (by kernel_rfl) (by first | rfl | decide +kernel | (unfold String.splitOn; simp +decide [String.splitOnAux])) (by decide +kernel) (by kernel_rfl)
theorem entry_dii : entryFor table "dict_itemiterator.__iter__" = some Builtin.«dict_keyiterator.__iter__» :=
  entryFor_alias (id' := "dict_keyiterator.__iter__") (by kernel_rfl) (by first | rfl | decide +kernel | (unfold String.splitOn; simp +decide [String.splitOnAux])) (by decide +kernel) (by kernel_rfl)
theorem Adv.ofSame {W : List Addr} {h' : Heap} {I : Addr} (hs : Sat F s.heap) (hW : ∀ a ∈ W, F a = none) (hI : I ∈ W) (k : Heap.ExtBut I s.heap h') : Adv W F s F { s with heap := h' } :=
  Adv.ofKeep (tk := s.toks) hs hW fun b o hb e => k b o (fun q => hb (q ▸ hI)) e
theorem iter_values {str : Bool} {tg : Expr} {kvs : List (PyData × PyData)} {kd : Bool} (hh : A.handled = none) (hs : Sat F s.heap) {d v : Addr} {o : Obj} {es : Array DictEntry} {ep : Nat} (ho : s.heap.get? d = some o) (hc : o.ExactDict) (hd : o.data = .dict es ep)
    (hF : str = true → F d = some o) (r : RD C.H F kd es.toList kvs) (hv : s.heap.IsValuesView v d) : Wp C A (pyIter (.ref v)) (PostI C A str tg F s (kvs.map (·.2))) s := by
  have hne : d ≠ s.heap.objs.size := Nat.ne_of_lt (Heap.lt_size ho)
  refine raw_values_iter hv ⟨_, ho, hc, hd⟩ ?_
  have k : ∀ c o, s.heap.get? c = some o → (s.heap.push { cls := .type "dict_valueiterator", data := .fields #[.ref d, .int 0 0, .int es.size 0, .int ep 0] }).get? c = some o := fun c o e => Heap.get?_push_of_some _ e
  have g : Grow F s F { s with heap := s.heap.push { cls := .type "dict_valueiterator", data := .fields #[.ref d, .int 0 0, .int es.size 0, .int ep 0] } } := .ofKeep hs k rfl rfl rfl
  refine ⟨F, [s.heap.objs.size], s.heap.objs.size, one d o, fun i h => h.IsValIter s.heap.objs.size d i es.size ep, rfl, g, ?_, ⟨_, Heap.get?_push_size _ rfl, rfl, rfl⟩, one_sat (k _ _ ho), ?_, ?_⟩
  · have len : es.size = kvs.length := (Array.length_toList ..).symm.trans r.length
    exact {
      frame := fun st hk _ => let ⟨ob, h1, r⟩ := st; ⟨ob, hk _ (by simp) _ h1, r⟩
      there := fun st a ha => by simp only [List.mem_singleton] at ha; subst ha; exact let ⟨ob, h1, _⟩ := st; ⟨ob, h1⟩
      off := fun a ha => by simp only [List.mem_singleton] at ha; subst ha; exact one_ne (Ne.symm hne)
      item := fun {i s1 F1 x} hx st hD hs1 hsub hW => by
        have hod := hD d o one_self
        rw [List.getElem?_map] at hx
        cases hkv : kvs[i]? with
        | none => rw [hkv] at hx; cases hx
        | some kv =>
          rw [hkv] at hx; cases hx
          obtain ⟨e, he, _, rv, _⟩ := r.getAt hkv
          rw [Array.getElem?_toList] at he
          refine raw_values_next st ⟨_, hod, hc, hd⟩ he fun h' st' sb => ⟨_, rfl, ?_⟩
          obtain ⟨ob, h1, h2, h3⟩ := id st'
          exact letGo_plain (s := { s1 with heap := h' }) h1 h2 h3 (by decide) ⟨F1, Adv.ofSame hs1 hW (by simp) sb.extBut, rv.mono hsub, st'⟩
      done := fun {s1 F1} st hD hs1 hW => by
        have hod := hD d o one_self
        exact raw_values_end hh st ⟨_, hod, hc, hd⟩ (by simp [len]) fun h' eb => ⟨rfl, Adv.ofSame hs1 hW (by simp) eb⟩
      self := fun {i s1 Q} st hq => by
        refine wpAny_pyIter_slot (T := "dict_valueiterator") st.typeIs PySem.F.slot_dict_valueiterator_iter (wpAny_call_entry PySem.F.slot_dict_valueiterator_iter st.typeIs entry_dvi ?_ (PySem.F.args_dict_valueiterator_iter_1 _))
        show wpAny _ _ (ret (.ref _)) _ _ s1
        exact wpAny_pure ⟨_, rfl, "dict_valueiterator", _, st.typeIs, PySem.F.slot_dict_valueiterator_next.lookup, hq⟩ }
  · intro b hb
    simp only [List.mem_singleton] at hb
    subst hb
    exact ⟨get_size _, sat_fresh hs (get_size _)⟩
  · intro hstr b o' q
    unfold one at q
    by_cases z : b = d
    · subst z; rw [if_pos rfl] at q; cases q; exact hF hstr
    · rw [if_neg z] at q; cases q
theorem iter_keys {str : Bool} {tg : Expr} {kvs : List (PyData × PyData)} {kd : Bool} (hh : A.handled = none) (hs : Sat F s.heap) {d : Addr} {o : Obj} {es : Array DictEntry} {ep : Nat} (hsm : (d == sysModules) = false) (ho : s.heap.get? d = some o) (hc : o.ExactDict) (hd : o.data = .dict es ep)
    (hF : str = true → F d = some o) (r : RD C.H F kd es.toList kvs) : Wp C A (pyIter (.ref d)) (PostI C A str tg F s (kvs.map (·.1))) s := by
  have hne : d ≠ s.heap.objs.size := Nat.ne_of_lt (Heap.lt_size ho)
  refine raw_keys_iter hsm ⟨_, ho, hc, hd⟩ ?_
  have k : ∀ c o, s.heap.get? c = some o → (s.heap.push { cls := .type "dict_keyiterator", data := .fields #[.ref d, .int 0 0, .int es.size 0, .int ep 0] }).get? c = some o := fun c o e => Heap.get?_push_of_some _ e
  have g : Grow F s F { s with heap := s.heap.push { cls := .type "dict_keyiterator", data := .fields #[.ref d, .int 0 0, .int es.size 0, .int ep 0] } } := .ofKeep hs k rfl rfl rfl
  refine ⟨F, [s.heap.objs.size], s.heap.objs.size, one d o, fun i h => h.IsKeyIter s.heap.objs.size d i es.size ep, rfl, g, ?_, ⟨_, Heap.get?_push_size _ rfl, rfl, rfl⟩, one_sat (k _ _ ho), ?_, ?_⟩
  · have len : es.size = kvs.length := (Array.length_toList ..).symm.trans r.length
    exact {
      frame := fun st hk _ => let ⟨ob, h1, r⟩ := st; ⟨ob, hk _ (by simp) _ h1, r⟩
      there := fun st a ha => by simp only [List.mem_singleton] at ha; subst ha; exact let ⟨ob, h1, _⟩ := st; ⟨ob, h1⟩
      off := fun a ha => by simp only [List.mem_singleton] at ha; subst ha; exact one_ne (Ne.symm hne)
      item := fun {i s1 F1 x} hx st hD hs1 hsub hW => by
        have hod := hD d o one_self
        rw [List.getElem?_map] at hx
        cases hkv : kvs[i]? with
        | none => rw [hkv] at hx; cases hx
        | some kv =>
          rw [hkv] at hx; cases hx
          obtain ⟨e, he, rk, _, _⟩ := r.getAt hkv
          rw [Array.getElem?_toList] at he
          refine raw_keys_next st ⟨_, hod, hc, hd⟩ he fun h' st' sb => ⟨_, rfl, ?_⟩
          obtain ⟨ob, h1, h2, h3⟩ := id st'
          exact letGo_plain (s := { s1 with heap := h' }) h1 h2 h3 (by decide) ⟨F1, Adv.ofSame hs1 hW (by simp) sb.extBut, rk.mono hsub, st'⟩
      done := fun {s1 F1} st hD hs1 hW => by
        have hod := hD d o one_self
        exact raw_keys_end hh st ⟨_, hod, hc, hd⟩ (by simp [len]) fun h' eb => ⟨rfl, Adv.ofSame hs1 hW (by simp) eb⟩
      self := fun {i s1 Q} st hq => by
        refine wpAny_pyIter_slot (T := "dict_keyiterator") st.typeIs PySem.F.slot_dict_keyiterator_iter (wpAny_call_entry PySem.F.slot_dict_keyiterator_iter st.typeIs PySem.F.entry_dict_keyiterator_iter ?_ (PySem.F.args_dict_keyiterator_iter_1 _))
        show wpAny _ _ (ret (.ref _)) _ _ s1
        exact wpAny_pure ⟨_, rfl, "dict_keyiterator", _, st.typeIs, PySem.F.slot_dict_keyiterator_next.lookup, hq⟩ }
  · intro b hb
    simp only [List.mem_singleton] at hb
    subst hb
    exact ⟨get_size _, sat_fresh hs (get_size _)⟩
  · intro hstr b o' q
    unfold one at q
    by_cases z : b = d
    · subst z; rw [if_pos rfl] at q; cases q; exact hF hstr
    · rw [if_neg z] at q; cases q
noncomputable def pairD (kv : PyData × PyData) : PyData := .tuple [kv.1, kv.2]
theorem iter_items {str : Bool} {elts : List Expr} {x1 : Nat} {tpos : Pos} {kvs : List (PyData × PyData)} {kd : Bool} (hh : A.handled = none) (hs : Sat F s.heap) {d v : Addr} {o : Obj} {es : Array DictEntry} {ep : Nat} (ho : s.heap.get? d = some o) (hc : o.ExactDict) (hd : o.data = .dict es ep)
    (hF : str = true → F d = some o) (r : RD C.H F kd es.toList kvs) (hv : s.heap.IsItemsView v d) : Wp C A (pyIter (.ref v)) (PostI C A str (.Tuple elts x1 tpos) F s (kvs.map pairD)) s := by
  have hne : d ≠ s.heap.objs.size := Nat.ne_of_lt (Heap.lt_size ho)
  refine raw_items_iter hv ⟨_, ho, hc, hd⟩ ?_
  have k : ∀ c o, s.heap.get? c = some o → (s.heap.push { cls := .type "dict_itemiterator", data := .fields #[.none, .bool false, .ref d, .int 0 0, .int es.size 0, .int ep 0, .none, .none] }).get? c = some o := fun c o e => Heap.get?_push_of_some _ e
  have g : Grow F s F { s with heap := s.heap.push { cls := .type "dict_itemiterator", data := .fields #[.none, .bool false, .ref d, .int 0 0, .int es.size 0, .int ep 0, .none, .none] } } := .ofKeep hs k rfl rfl rfl
  refine ⟨F, [s.heap.objs.size], s.heap.objs.size, one d o, fun i h => ∃ ok ov, IsItemIter h s.heap.objs.size d i es.size ep ok ov, rfl, g, ?_, ⟨_, _, Heap.get?_push_size _ rfl⟩, one_sat (k _ _ ho), ?_, ?_⟩
  · have len : es.size = kvs.length := (Array.length_toList ..).symm.trans r.length
    exact {
      frame := fun ⟨ok, ov, st⟩ hk _ => ⟨ok, ov, hk _ (by simp) _ st⟩
      there := fun ⟨ok, ov, st⟩ a ha => by simp only [List.mem_singleton] at ha; subst ha; exact ⟨_, st⟩
      off := fun a ha => by simp only [List.mem_singleton] at ha; subst ha; exact one_ne (Ne.symm hne)
      item := fun {i s1 F1 x} hx ⟨ok, ov, st⟩ hD hs1 hsub hW => by
        have hod := hD d o one_self
        have hI : s.heap.objs.size < s1.heap.objs.size := Heap.lt_size st
        rw [List.getElem?_map] at hx
        cases hkv : kvs[i]? with
        | none => rw [hkv] at hx; cases hx
        | some kv =>
          rw [hkv] at hx; cases hx
          obtain ⟨e, he, rk, rv, _⟩ := r.getAt hkv
          rw [Array.getElem?_toList] at he
          refine raw_items_next st ⟨_, hod, hc, hd⟩ he fun h' st' ht hz kp => ⟨_, rfl, ?_⟩
          refine wpAny_letOwnedTupleGo_items (s := { s1 with heap := h' }) st' fun h'' st'' sb => ?_
          have keep : ∀ b o, b ∉ [s.heap.objs.size] → s1.heap.get? b = some o → h''.get? b = some o := fun b o hb q => by
            simp only [List.mem_singleton] at hb
            exact sb.extBut b o hb (kp b o hb q)
          have a0 : Adv [s.heap.objs.size] F1 s1 F1 { s1 with heap := h'' } := Adv.ofKeep (tk := s1.toks) hs1 hW keep
          have hT : h''.get? s1.heap.objs.size = some (seqObj "tuple" #[e.key, e.val] 0) := sb.extBut _ _ (Nat.ne_of_gt hI) ht
          have fr : F1 s1.heap.objs.size = none := sat_fresh hs1 (get_size _)
          have sub := put_sub (o := seqObj "tuple" #[e.key, e.val] 0) fr
          refine ⟨put F1 s1.heap.objs.size (seqObj "tuple" #[e.key, e.val] 0), ⟨keep, sub, fun b o' q => ?_, fun b o' q => ?_, rfl, rfl, rfl⟩, ?_, ⟨_, _, st''⟩⟩
          · unfold put at q; by_cases z : b = s1.heap.objs.size
            · subst z; exact .inr (get_size _)
            · rw [if_neg z] at q; exact .inl q
          · unfold put at q; by_cases z : b = s1.heap.objs.size
            · subst z; rw [if_pos rfl] at q; cases q; exact hT
            · rw [if_neg z] at q; exact a0.sat b o' q
          · exact .tuple (put_self ..) (.cons ((rk.mono hsub).mono sub) (.cons ((rv.mono hsub).mono sub) .nil))
      done := fun {s1 F1} ⟨ok, ov, st⟩ hD hs1 hW => by
        have hod := hD d o one_self
        have st' : IsItemIter s1.heap s.heap.objs.size d es.size es.size ep ok ov := by
          have e : (kvs.map pairD).length = es.size := by rw [List.length_map, len]
          rw [e] at st; exact st
        exact raw_items_end hh st' ⟨_, hod, hc, hd⟩ (by simp) fun h' eb => ⟨rfl, Adv.ofSame hs1 hW (by simp) eb⟩
      self := fun {i s1 Q} ⟨ok, ov, st⟩ hq => by
        have hT : s1.TypeIs (.ref s.heap.objs.size) "dict_itemiterator" := ⟨_, st, rfl⟩
        refine wpAny_pyIter_slot (T := "dict_itemiterator") hT PySem.F.slot_dict_itemiterator_iter (wpAny_call_entry PySem.F.slot_dict_itemiterator_iter hT entry_dii ?_ (PySem.F.args_dict_itemiterator_iter_1 _))
        show wpAny _ _ (ret (.ref _)) _ _ s1
        exact wpAny_pure ⟨_, rfl, "dict_itemiterator", _, hT, PySem.F.slot_dict_itemiterator_next.lookup, hq⟩ }
  · intro b hb
    simp only [List.mem_singleton] at hb
    subst hb
    exact ⟨get_size _, sat_fresh hs (get_size _)⟩
  · intro hstr b o' q
    unfold one at q
    by_cases z : b = d
    · subst z; rw [if_pos rfl] at q; cases q; exact hF hstr
    · rw [if_neg z] at q; cases q
noncomputable def keysC (f : St → Option PyData) : St → Option (List PyData) := fun σ => match f σ with
  | some (.dict kvs) => some (kvs.map (·.1))
  | _ => none
noncomputable def valsC (f : St → Option PyData) : St → Option (List PyData) := fun σ => match f σ with
  | some (.dict kvs) => some (kvs.map (·.2))
  | _ => none
noncomputable def itemsC (f : St → Option PyData) : St → Option (List PyData) := fun σ => match f σ with
  | some (.dict kvs) => some (kvs.map pairD)
  | _ => none
theorem SndI.keys {tg e : Expr} {f : St → Option PyData} (h : Snd C n sc e f) : SndI C n sc true tg e (keysC f) := fun {A env base low F s σ ds} X hf => by
  unfold keysC at hf
  split at hf
  · rename_i kvs e1
    cases hf
    refine wp_mono (h X e1) fun v s1 ⟨F1, g1, r1⟩ => ?_
    cases r1 with
    | dict hsm ho hc hd r hn => exact wp_mono (iter_keys X.room.hand g1.sat hsm (g1.sat _ _ ho) hc hd (fun _ => ho) r) fun _ _ q => .of g1 q
  · cases hf
theorem SndI.values {tg o : Expr} {apos pos : Pos} {f : St → Option PyData} (h : Snd C n sc o f) (hbase : ∀ env, attributeBase o "values" env (eval o env) = eval o env := by intro _; rfl) (hline : (apos.endLine == pos.line) = true := by rfl) :
    SndI C n sc true tg (.Call (.Attribute o "values" apos) [] [] pos) (valsC f) := fun {A env base low F s σ ds} X hf => by
  unfold valsC at hf
  split at hf
  · rename_i kvs e1
    cases hf
    refine wpAny_Call_method (T := "dict") (id := "dict.values") (hbase env) rfl hline PySem.F.plainAttrs_dict PySem.F.slot_dict_values PySem.F.type_dict_values (wp_mono (h X e1) fun v s1 ⟨F1, g1, r1⟩ => ?_)
    cases r1 with
    | @dict a o es m _ kd hsm ho hc hd r hn =>
      have ho' := g1.sat _ _ ho
      refine ⟨⟨_, ho', hc.1⟩, fun a e => by cases e; exact ⟨_, ho', hc.2.1⟩, ?_⟩
      refine PyProof.Rows.callWith_method0 (raw_values_call hsm ⟨_, ho', hc, hd⟩ ?_)
      have g2 : Grow F1 s1 F1 { s1 with heap := s1.heap.push { cls := .type "dict_values", data := .fields #[.ref a] } } := .ofKeep g1.sat (fun c o q => Heap.get?_push_of_some _ q) rfl rfl rfl
      exact wp_mono (iter_values (str := true) (s := { s1 with heap := _ }) X.room.hand g2.sat (g2.keep _ _ ho') hc hd (fun _ => ho) r ⟨_, Heap.get?_push_size _ rfl, rfl, rfl⟩) fun _ _ q => .of (g1.trans g2) q
  · cases hf
theorem SndI.items {o : Expr} {elts : List Expr} {x1 : Nat} {tpos apos pos : Pos} {f : St → Option PyData} (h : Snd C n sc o f) (hbase : ∀ env, attributeBase o "items" env (eval o env) = eval o env := by intro _; rfl) (hline : (apos.endLine == pos.line) = true := by rfl) :
    SndI C n sc true (.Tuple elts x1 tpos) (.Call (.Attribute o "items" apos) [] [] pos) (itemsC f) := fun {A env base low F s σ ds} X hf => by
  unfold itemsC at hf
  split at hf
  · rename_i kvs e1
    cases hf
    refine wpAny_Call_method (T := "dict") (id := "dict.items") (hbase env) rfl hline PySem.F.plainAttrs_dict PySem.F.slot_dict_items PySem.F.type_dict_items (wp_mono (h X e1) fun v s1 ⟨F1, g1, r1⟩ => ?_)
    cases r1 with
    | @dict a o es m _ kd hsm ho hc hd r hn =>
      have ho' := g1.sat _ _ ho
      refine ⟨⟨_, ho', hc.1⟩, fun a e => by cases e; exact ⟨_, ho', hc.2.1⟩, ?_⟩
      refine PyProof.Rows.callWith_method0 (raw_items_call hsm ⟨_, ho', hc, hd⟩ ?_)
      have g2 : Grow F1 s1 F1 { s1 with heap := s1.heap.push { cls := .type "dict_items", data := .fields #[.ref a] } } := .ofKeep g1.sat (fun c o q => Heap.get?_push_of_some _ q) rfl rfl rfl
      exact wp_mono (iter_items (str := true) (s := { s1 with heap := _ }) X.room.hand g2.sat (g2.keep _ _ ho') hc hd (fun _ => ho) r ⟨_, Heap.get?_push_size _ rfl, rfl, rfl⟩) fun _ _ q => .of (g1.trans g2) q
  · cases hf
end Ev
set_option maxRecDepth 10000
namespace Ev
open PySem PySem.W PySem.Spec PySem.Calls PyProof.Rows PySem.SeqAt
variable {C : Cx} {n : Nat} {sc : Scope} {A : Around} {env : Env} {base : Fz} {low : Fz} {F F' : Fz} {s s' : Shared} {σ : St}
/-! stores -/
structure Stored (env : Env) (x : Str) (v : Value) (h h' : Heap) : Prop where
  back : ∀ {y u}, y ≠ x → Lk env h' y u → Lk env h y u
  fwd : ∀ {y u}, y ≠ x → Lk env h y u → Lk env h' y u
  new : Lk env h' x v
  keep : ∀ b o, b ≠ env.locals → (∀ v, ¬ h.IsCell b v) → h.get? b = some o → h'.get? b = some o
theorem wp_store2 {M : Model} {E : Value → Shared → Prop} {names : List Str} {H : PyData → Int} {i : Nat} {x : Str} {v : Value} {vo : Bool × PyData} {Q : Unit → Shared → Prop} (S : Fs H names env base low F s.heap σ) (hi : names[i]? = some x) (hk : env.kindOf x = some .local ∨ (env.kindOf x = some .cell ∧ ∀ c, env.cells.lookup x = some c → base c = none))
    (hv : Vl H F base low s.heap env.locals v vo) (hd : ∀ a, v = .ref a → vo.1 = true → ∀ j y e, j ≠ i → names[j]? = some y → sget σ j = some (true, e) → ¬ Lk env s.heap y (.ref a))
    (h : ∀ s', Same s s' → Fs H names env base low F s'.heap (σ.set i (some vo)) → Stored env x v s.heap s'.heap → Q () s') : wpAny M A (storeName env x v) Q E s := by
  rcases hk with hk | ⟨hk, hcb⟩
  · obtain ⟨m, hm⟩ := S.ns
    refine wpAny_storeName_local hk hm (fun h' hn hs => h _ ⟨rfl, rfl, rfl⟩ (S.setLocal hi hk hv hd hm hn hs) ⟨fun {y u} hne l => ?_, fun {y u} hne l => ?_, .loc hk hn (by simp), fun b o hb _ e => (hs.2 b hb).trans e⟩) ?_
    · cases l with
      | loc k n e => exact .loc k hm (by rw [ns_uniq n hn] at e; dsimp only at e; rw [if_neg hne] at e; exact e)
      | cell k c ic =>
        obtain ⟨o, ho, hd'⟩ := id ic
        exact .cell k c ⟨o, (hs.2 _ (fun e => ns_not_cell hn (e ▸ ic))).symm.trans ho, hd'⟩
      | free k c ic =>
        obtain ⟨o, ho, hd'⟩ := id ic
        exact .free k c ⟨o, (hs.2 _ (fun e => ns_not_cell hn (e ▸ ic))).symm.trans ho, hd'⟩
    · cases l with
      | loc k n e => exact .loc k hn (by rw [if_neg hne, ← ns_uniq n hm]; exact e)
      | cell k c ic => exact .cell k c (ic.sameBut hs fun q => ns_not_cell hm (q ▸ ic))
      | free k c ic => exact .free k c (ic.sameBut hs fun q => ns_not_cell hm (q ▸ ic))
    · rw [S.kind]; rfl
  · obtain ⟨c, u, hc, hic, hFc, hlc⟩ := S.cell x hk
    obtain ⟨m, hm⟩ := S.ns
    have hcL : c ≠ env.locals := fun q => ns_not_cell (q ▸ hm) hic
    refine wpAny_storeName_cell S.kind hk hc hic fun h' hn hs => h _ ⟨rfl, rfl, rfl⟩ (S.setCell hi hk hc (hcb c hc) hv hd hn hs) ⟨fun {y w} hne l => ?_, fun {y w} hne l => ?_, .cell hk hc hn, fun b o _ hb e => (hs.2 b (fun q => hb _ (q ▸ hic))).trans e⟩
    · have hm' : h'.Ns env.locals m := hm.sameBut hs (Ne.symm hcL)
      have nec : env.kindOf y = some .cell → ∀ c', env.cells.lookup y = some c' → c' ≠ c := fun k c' e q => hne (S.cinj _ _ c k hk (q ▸ e) hc)
      have nef : env.kindOf y = some .free → ∀ c', env.cells.lookup y = some c' → c' ≠ c := fun k c' e q => by
        obtain ⟨o', e'⟩ := S.free _ _ k e
        rw [q, hFc] at e'; cases e'
      cases l with
      | loc k n e => exact .loc k hm (by rw [ns_uniq n hm'] at e; exact e)
      | cell k hc2 ic =>
        obtain ⟨o, ho, hd'⟩ := ic
        exact .cell k hc2 ⟨o, (hs.2 _ (nec k _ hc2)).symm.trans ho, hd'⟩
      | free k hc2 ic =>
        obtain ⟨o, ho, hd'⟩ := ic
        exact .free k hc2 ⟨o, (hs.2 _ (nef k _ hc2)).symm.trans ho, hd'⟩
    · have hm' : h'.Ns env.locals m := hm.sameBut hs (Ne.symm hcL)
      have nec : env.kindOf y = some .cell → ∀ c', env.cells.lookup y = some c' → c' ≠ c := fun k c' e q => hne (S.cinj _ _ c k hk (q ▸ e) hc)
      have nef : env.kindOf y = some .free → ∀ c', env.cells.lookup y = some c' → c' ≠ c := fun k c' e q => by
        obtain ⟨o', e'⟩ := S.free _ _ k e
        rw [q, hFc] at e'; cases e'
      cases l with
      | loc k n e => exact .loc k hm' (by rw [← ns_uniq n hm]; exact e)
      | cell k hc2 ic => exact .cell k hc2 (ic.sameBut hs (nec k _ hc2))
      | free k hc2 ic => exact .free k hc2 (ic.sameBut hs (nef k _ hc2))
theorem Ct.step {s'' : Shared} {σ' : St} {base' low' : Fz} (X : Ct C n sc A env base low F s σ) (k0 : ∀ b o, C.h₀.get? b = some o → base' b = some o) (hp : ∀ {y u}, C.pin = some (y, u) → Lk env s.heap y (.ref u) → Lk env s''.heap y (.ref u)) (S : Fs C.H C.names env base' low' F' s''.heap σ') : Ct C n sc A env base' low' F' s'' σ' := ⟨X.ok, X.room, X.scope, k0, S, fun y u e => hp e (X.pin y u e)⟩
noncomputable def NoPin (C : Cx) (x : Str) : Prop := ∀ a, C.pin ≠ some (x, a)
noncomputable def MayS (C : Cx) (sc : Scope) (x : Str) : Prop := (sc.names.lookup x = some .local ∨ sc.names.lookup x = some .cell) ∧ NoPin C x
theorem NoPin.ne {x y : Str} {u : Addr} (h : NoPin C x) (e : C.pin = some (y, u)) : y ≠ x := fun q => h u (q ▸ e)
noncomputable def MaySt (C : Cx) (env : Env) (base : Fz) (x : Str) : Prop := NoPin C x ∧ MayK env base x
where MayK (env : Env) (base : Fz) (x : Str) : Prop := env.kindOf x = some .local ∨ (env.kindOf x = some .cell ∧ ∀ c, env.cells.lookup x = some c → base c = none)
theorem MaySt.def {env : Env} {x : Str} (X : Ct C n sc A env base base F s σ) (h : MayS C sc x) : MaySt C env base x := by
  obtain ⟨h, hp⟩ := h
  refine ⟨hp, ?_⟩
  rcases h with h | h
  · exact .inl ((X.kindOf x).trans h)
  · refine .inr ⟨(X.kindOf x).trans h, fun c hc => ?_⟩
    obtain ⟨c', v, h1, h2, h3, h4⟩ := X.fs.cell x ((X.kindOf x).trans h)
    rw [hc] at h1; cases h1; exact h4
inductive Pend (H : PyData → Int) (names : List Str) (env : Env) (base low F : Fz) (h : Heap) (σ : St) : List Value → List (Bool × PyData) → List Addr → Prop
  | nil : Pend H names env base low F h σ [] [] []
  | fz {v d vs vos as} : R H F v d → Pend H names env base low F h σ vs vos as → Pend H names env base low F h σ (v :: vs) ((false, d) :: vos) as
  | ow {a d vs vos as} : Ow H F h a d → F a = none → low a = none → a ≠ env.locals → (∀ j y e, names[j]? = some y → sget σ j = some (true, e) → ¬ Lk env h y (.ref a)) → a ∉ as → Pend H names env base low F h σ vs vos as →
      Pend H names env base low F h σ (.ref a :: vs) ((true, d) :: vos) (a :: as)
theorem Pend.store {h h' : Heap} {i : Nat} {x : Str} {v : Value} {vo : Bool × PyData} (S : Fs C.H C.names env base low F h σ) (hi : C.names[i]? = some x) (T : Stored env x v h h') : ∀ {vs vos as}, Pend C.H C.names env base low F h σ vs vos as → (∀ a, v = .ref a → vo.1 = true → a ∉ as) → (vo.1 = false → R C.H F v vo.2) →
    Pend C.H C.names env base low F h' (σ.set i (some vo)) vs vos as := by
  intro vs vos as hp
  induction hp with
  | nil => exact fun _ _ => .nil
  | fz r p ih => exact fun h1 h2 => .fz r (ih h1 h2)
  | @ow a d vs vos as o hF hl hL hn ha p ih =>
    intro h1 h2
    have hcell : ∀ w, ¬ h.IsCell a w := fun w ic => o.not_cell ic
    refine .ow (o.grow (Sub.refl F) fun o' e => T.keep a o' hL hcell e) hF hl hL (fun j y e hj hs l => ?_) ha (ih (fun b e t m => h1 b e t (List.mem_cons_of_mem _ m)) h2)
    rcases sget_set_some hs with ⟨e1, e2⟩ | ⟨e1, e2⟩
    · subst e1
      rw [hi] at hj; cases hj
      cases e2
      have := l.uniq T.new
      exact h1 a this.symm rfl (List.mem_cons_self)
    · have hy : y ≠ x := fun q => e1 (S.inj (q ▸ hj) hi)
      exact hn j y e hj e2 (T.back hy l)
noncomputable def storeD : List Nat → List (Bool × PyData) → St → Option St
  | [], [], σ => some σ
  | i :: is, vo :: vos, σ => storeD is vos (σ.set i (some vo))
  | _, _, _ => none
theorem stores_wp {E : Value → Shared → Prop} : ∀ {is : List Nat} {xs : List Str} {vs : List Value} {vos : List (Bool × PyData)} {as : List Addr} {s : Shared} {σ σ' : St} {ts : List (Value → Sem Unit)} {Q : Unit → Shared → Prop}, Ct C n sc A env base low F s σ → (is.map fun i => C.names[i]?) = xs.map some → (∀ x ∈ xs, MaySt C env base x) →
    (ts = xs.map fun x v => bindName env x v) ∨ (∃ ps : List Pos, ts = List.zipWith (fun x p => assign (.Name x p) env) xs ps ∧ ps.length = xs.length) → Pend C.H C.names env base low F s.heap σ vs vos as → storeD is vos σ = some σ' →
    (∀ s', Same s s' → Ct C n sc A env base low F s' σ' → Q () s') → wpAny (model C.prog C.w) A (assignInOrder ts vs) Q E s
  | [], xs, vs, vos, as, s, σ, σ', ts, Q, X, hx, hm, ht, hp, hs, h => by
    cases xs with
    | cons => simp at hx
    | nil =>
      cases vos with
      | cons => cases hs
      | nil =>
        cases hs
        have : ts = [] := by rcases ht with rfl | ⟨ps, rfl, _⟩ <;> rfl
        subst this
        exact PyProof.Rows.assignInOrder_nil (h s (.refl s) X)
  | i :: is, xs, vs, vos, as, s, σ, σ', ts, Q, X, hx, hm, ht, hp, hs, h => by
    cases xs with
    | nil => simp at hx
    | cons x xs =>
      cases vos with
      | nil => cases hs
      | cons vo vos =>
        simp only [storeD] at hs
        simp only [List.map_cons, List.cons.injEq] at hx
        obtain ⟨hi, hx⟩ := hx
        obtain ⟨v, vs', as', rfl, hvl, hd, hp', h1, h2⟩ : ∃ v vs' as', vs = v :: vs' ∧ Vl C.H F base low s.heap env.locals v vo ∧ (∀ a, v = .ref a → vo.1 = true → ∀ j y e, j ≠ i → C.names[j]? = some y → sget σ j = some (true, e) → ¬ Lk env s.heap y (.ref a)) ∧
            Pend C.H C.names env base low F s.heap σ vs' vos as' ∧ (∀ a, v = .ref a → vo.1 = true → a ∉ as') ∧ (vo.1 = false → R C.H F v vo.2) := by
          cases hp with
          | fz r p => exact ⟨_, _, _, rfl, .fz r, (fun _ _ e => nomatch e), p, (fun _ _ e => nomatch e), fun _ => r⟩
          | ow o hF hl hL hn ha p =>
            exact ⟨_, _, _, rfl, .ow o hF hl hL, (fun a e _ j y d _ hj hsj => by cases e; exact hn j y d hj hsj), p, (fun a e _ => by cases e; exact ha), fun e => nomatch e⟩
        have go : ∀ {Q' : Unit → Shared → Prop}, (∀ s1, Same s s1 → Ct C n sc A env base low F s1 (σ.set i (some vo)) → Pend C.H C.names env base low F s1.heap (σ.set i (some vo)) vs' vos as' → Q' () s1) → wpAny (model C.prog C.w) A (storeName env x v) Q' E s := fun k =>
          wp_store2 X.fs hi (hm x List.mem_cons_self).2 hvl hd fun s1 hs1 S1 T => k s1 hs1 (X.step X.k0 (fun e => T.fwd ((hm x List.mem_cons_self).1.ne e)) S1) (Pend.store X.fs hi T hp' h1 h2)
        rcases ht with rfl | ⟨ps, rfl, hl⟩
        · refine PyProof.Rows.assignInOrder_cons (wpAny_bindName (go fun s1 hs1 X1 P1 => ?_))
          exact stores_wp X1 hx (fun y hy => hm y (List.mem_cons_of_mem _ hy)) (.inl rfl) P1 hs fun s' hs' X' => h s' (hs1.trans hs') X'
        · cases ps with
          | nil => simp at hl
          | cons p ps =>
            refine PyProof.Rows.assignInOrder_cons (wpAny_assign_Name (go fun s1 hs1 X1 P1 => ?_))
            exact stores_wp X1 hx (fun y hy => hm y (List.mem_cons_of_mem _ hy)) (.inr ⟨ps, rfl, by simpa using hl⟩) P1 hs fun s' hs' X' => h s' (hs1.trans hs') X'
theorem Pend.ofR {h : Heap} : ∀ {vs ds}, RL C.H F vs ds → Pend C.H C.names env base low F h σ vs (ds.map fun d => (false, d)) [] := fun {_ _} r => RL.ind (P := fun vs ds => Pend C.H C.names env base low F h σ vs (ds.map fun d => (false, d)) []) .nil (fun x _ q => .fz x q) r
/-! unpacking -/
theorem draw_list {it l : Addr} {items : Array Value} (hne : l ≠ it) : ∀ (n i : Nat) (s : Shared) (Q : List Value → Shared → Prop), s.heap.IsListIter it l i → s.heap.IsList l items → i + n ≤ items.size →
    (∀ h', h'.IsListIter it l (i + n) → Heap.SameBut it s.heap h' → Q ((items.toList.drop i).take n) { s with heap := h' }) → Wp C A (draw (.ref it) n) Q s
  | 0, i, s, Q, hit, _, _, hQ => by
    show Wp _ _ (pure []) Q s
    exact wpAny_pure (by simpa using hQ s.heap hit (Heap.SameBut.refl ..))
  | n + 1, i, s, Q, hit, ht, hle, hQ => by
    have hlt : i < items.size := by omega
    show Wp _ _ (pyNext (.ref it) >>= _) Q s
    refine wpAny_bind (wpAny_pyNext_list_item hit ht (x := items[i]) (by simp [hlt]) fun h₁ hit₁ hs₁ => ?_)
    refine wpAny_bind (wpAny_holding (draw_list hne n (i + 1) _ _ hit₁ (ht.extBut hs₁.extBut hne) (by omega) fun h₂ hit₂ hs₂ => wpAny_pure ?_))
    have hd : items.toList.drop i = items[i] :: items.toList.drop (i + 1) := by simp [List.drop_eq_getElem_cons, hlt]
    have := hQ h₂ (by rw [show i + (n + 1) = i + 1 + n by omega]; exact hit₂) (hs₁.trans hs₂)
    rw [hd, List.take_succ_cons] at this
    exact this
theorem unpackItems_list {t : Addr} {items : Array Value} {Q : List Value → Shared → Prop} (hh : A.handled = none) (ht : s.heap.IsList t items)
    (hQ : ∀ h', Heap.ExtBut s.heap.objs.size s.heap h' → Q items.toList { s with heap := h' }) : Wp C A (unpackItems (.ref t) items.size none) Q s := by
  have hlt : t ≠ s.heap.objs.size := by obtain ⟨o, ho, _⟩ := ht; exact Nat.ne_of_lt (Heap.lt_size ho)
  unfold unpackItems
  refine wpAny_bind ?_
  · unfold notIterableAtAll
    refine wpAny_bind (wpAny_specialOf ht.typeIs slot_list_iter.lookup ?_)
    refine wpAny_pure ?_
    simp only [Bool.false_eq_true, if_false]
    refine wpAny_bind (wpAny_holding (wpAny_pyIter_list ht ?_))
    refine wpAny_bind (wpAny_holding (draw_list hlt items.size 0 _ _ ⟨_, Heap.get?_push_size _ rfl, rfl, rfl⟩ (ht.push _) (by omega) fun h₁ hit₁ hs₁ => ?_))
    have hall : List.take items.size (List.drop 0 items.toList) = items.toList := by
      rw [List.drop_zero]; exact List.take_of_length_le (by simp)
    rw [hall]
    rw [if_neg (by simp)]
    have ht₁ : h₁.IsList t items := (ht.push _).extBut hs₁.extBut hlt
    refine wpAny_bind (wpAny_holding (wpAny_pyNext_list_end hh hit₁ ht₁ (by simp) fun h₂ he₂ => ?_))
    simp only [Option.isSome_none, Bool.false_eq_true, if_false]
    refine wpAny_pure (hQ h₂ fun b o hb e => he₂ b o hb (hs₁.extBut b o hb (Heap.get?_push_of_some _ e)))
theorem ext_keep {h h' : Heap} (k : Heap.ExtBut h.objs.size h h') : ∀ b o, h.get? b = some o → h'.get? b = some o := fun b o e => k b o (Nat.ne_of_lt (Heap.lt_size e)) e
noncomputable def unpD (k : Nat) : PyData → Option (List PyData)
  | .tuple ds => if ds.length = k then some ds else none
  | .list ds => if ds.length = k then some ds else none
  | _ => none
theorem unpack_wp {v : Value} {d : PyData} {k : Nat} {ds : List PyData} (hh : A.handled = none) (hs : Sat F s.heap) (r : R C.H F v d) (h : unpD k d = some ds) : Wp C A (unpackItems v k none) (fun vs s' => Grow F s F s' ∧ RL C.H F vs ds) s := by
  unfold unpD at h
  split at h
  · split at h
    · rename_i hl
      cases h
      cases r with
      | tuple ho rl =>
        rename_i a ws m
        have e : k = ws.size := by rw [← hl, rl_arr rl]
        subst e
        exact wpAny_unpackItems_tuple hh ⟨_, hs _ _ ho, rfl, m, rfl⟩ fun h' eb => ⟨.ofKeep hs (ext_keep eb) rfl rfl rfl, rl⟩
    · cases h
  · split at h
    · rename_i hl
      cases h
      cases r with
      | list ho rl =>
        rename_i a ws m
        have e : k = ws.size := by rw [← hl, rl_arr rl]
        subst e
        exact unpackItems_list hh ⟨_, hs _ _ ho, rfl, m, rfl⟩ fun h' eb => ⟨.ofKeep hs (ext_keep eb) rfl rfl rfl, rl⟩
    · cases h
  · cases h
/-! targets: a name, or a tuple of names -/
inductive SndTg (C : Cx) : Expr → (PyData → St → Option St) → List Str → Prop
  | name {i x pos} : C.names[i]? = some x → SndTg C (.Name x pos) (fun d σ => some (σ.set i (some (false, d)))) [x]
  | tuple {elts k pos} {is : List Nat} {xs : List Str} {ps : List Pos} : (∀ env, assignEach elts env = List.zipWith (fun x p => (false, assign (.Name x p) env)) xs ps) → ps.length = xs.length → (is.map fun i => C.names[i]?) = xs.map some →
      SndTg C (.Tuple elts k pos) (fun d σ => match unpD is.length d with | some ds => storeD is (ds.map fun d => (false, d)) σ | none => none) xs
theorem zip_snd (xs : List Str) (ps : List Pos) (env : Env) : (List.zipWith (fun x p => (false, assign (.Name x p) env)) xs ps).map (·.2) = List.zipWith (fun x p => assign (.Name x p) env) xs ps := by
  rw [List.map_zipWith]
theorem zip_star : ∀ (xs : List Str) (ps : List Pos) (env : Env), (List.zipWith (fun x p => (false, assign (.Name x p) env)) xs ps).findIdx? (·.1) = none
  | [], _, _ => rfl
  | _ :: _, [], _ => rfl
  | x :: xs, p :: ps, env => by
    simp only [List.zipWith_cons_cons, List.findIdx?_cons, zip_star xs ps env]; rfl
theorem target_wp {tg : Expr} {g : PyData → St → Option St} {xs : List Str} {v : Value} {d : PyData} {σ' : St} {E : Value → Shared → Prop} {Q : Unit → Shared → Prop} (T : SndTg C tg g xs) (X : Ct C n sc A env base low F s σ) (hm : ∀ x ∈ xs, MaySt C env base x) (r : R C.H F v d) (hg : g d σ = some σ')
    (h : ∀ s', Same s s' → Ct C n sc A env base low F s' σ' → Q () s') : wpAny (model C.prog C.w) A (assign tg env v) Q E s := by
  cases T with
  | name hi =>
    cases hg
    refine wpAny_assign_Name (wp_store2 X.fs hi (hm _ List.mem_cons_self).2 (.fz r) (fun _ _ e => nomatch e) fun s' hs' S' T => ?_)
    exact h s' hs' (X.step X.k0 (fun e => T.fwd ((hm _ List.mem_cons_self).1.ne e)) S')
  | @tuple elts k pos is xs ps he hl hx =>
    dsimp only at hg
    cases hu : unpD is.length d with
    | none => rw [hu] at hg; cases hg
    | some ds =>
      rw [hu] at hg
      dsimp only at hg
      have len : is.length = xs.length := by have := congrArg List.length hx; simpa using this
      rw [arm_assign_Tuple]
      refine wpAny_bind (wpAny_standAt ?_)
      unfold unpack
      rw [he, zip_star, zip_snd, List.length_zipWith, hl, Nat.min_self, ← len]
      refine wpAny_bind (wpAny_holding (wpAny_mono (unpack_wp X.room.hand X.sat r hu) (fun vs s1 ⟨g1, r1⟩ => ?_) fun _ _ e => e.elim))
      exact stores_wp (X.grow g1) hx hm (.inr ⟨ps, rfl, hl⟩) (.ofR r1) hg fun s' hs' X' => h s' (Same.trans ⟨g1.gens, g1.drawn, g1.os⟩ hs') X'
end Ev
set_option maxRecDepth 10000
namespace Ev
open PySem PySem.W PySem.Spec PySem.Calls PyProof.Rows PySem.SeqAt
variable {C : Cx} {n : Nat} {sc : Scope} {A : Around} {env : Env} {base : Fz} {low : Fz} {F F' : Fz} {s s' : Shared} {σ : St}
/-! an own object changes while others are made -/
theorem Fs.setOwnX {H : PyData → Int} {names : List Str} {h h' : Heap} (S : Fs H names env base low F h σ) {i : Nat} {x : Str} {a : Addr} {d d' : PyData} (hi : names[i]? = some x) (hσ : sget σ i = some (true, d)) (hl : Lk env h x (.ref a)) (hba : base a = none)
    (hn : Ow H F h' a d') (hs : ∀ b o, b ≠ a → h.get? b = some o → h'.get? b = some o) : Fs H names env base low F h' (σ.set i (some (true, d'))) := by
  obtain ⟨a', hl', ho, hFa, hbat, hLa⟩ := S.own i x d hi hσ
  cases hl.uniq hl'
  obtain ⟨m, hm⟩ := S.ns
  have hm' : h'.Ns env.locals m := let ⟨o, es, ep, e, r⟩ := hm; ⟨o, es, ep, hs _ _ (Ne.symm hLa) e, r⟩
  have cellk : ∀ {c v}, h.IsCell c v → h'.IsCell c v := fun {c v} ic => let ⟨o, e, r⟩ := ic; ⟨o, hs c o (fun q => ho.not_cell (q ▸ ic)) e, r⟩
  have old : ∀ {y : Str} {u : Value}, Lk env h y u → Lk env h' y u := fun {y u} l => by
    cases l with
    | loc k n e => exact .loc k hm' (ns_uniq n hm ▸ e)
    | cell k c2 ic => exact .cell k c2 (cellk ic)
    | free k c2 ic => exact .free k c2 (cellk ic)
  have back : ∀ {y : Str} {u : Value}, Lk env h' y u → Lk env h y u := fun {y u} l => by
    cases l with
    | loc k n e => exact .loc k hm (by rw [ns_uniq n hm'] at e; exact e)
    | cell k c2 ic =>
      obtain ⟨c, v, h1, h2, _⟩ := S.cell y k
      rw [c2] at h1; cases h1
      cases cell_uniq ic (cellk h2)
      exact .cell k c2 h2
    | free k c2 ic =>
      obtain ⟨o, e⟩ := S.free _ _ k c2
      obtain ⟨o', ho', hd'⟩ := ic
      have h1 := S.sat _ _ e
      have h2 := hs _ _ (fun q => by rw [q, hFa] at e; cases e) h1
      rw [ho'] at h2; cases h2
      exact .free k c2 ⟨_, h1, hd'⟩
  exact {
    kind := S.kind, glob := S.glob, blt := S.blt, nodup := S.nodup
    keep := fun b o e => hs b o (fun q => by subst q; rw [hba] at e; cases e) (S.keep b o e)
    keepL := fun b o e => hs b o (fun q => by subst q; rw [hbat] at e; cases e) (S.keepL b o e)
    sat := fun b o e => hs b o (fun q => by subst q; rw [hFa] at e; cases e) (S.sat b o e)
    ns := ⟨_, hm'⟩
    LF := S.LF, Lb := S.Lb, Ll := S.Ll
    cell := fun y hy => by
      obtain ⟨c2, u, h1, h2, h3, h4⟩ := S.cell y hy
      exact ⟨c2, u, h1, cellk h2, h3, h4⟩
    cinj := S.cinj
    free := S.free
    vars := fun j y e hj he => by
      rcases sget_set_some he with ⟨e1, e2⟩ | ⟨e1, e2⟩
      · cases e2
      · obtain ⟨u, l, r⟩ := S.vars j y e hj e2; exact ⟨u, old l, r⟩
    own := fun j y e hj he => by
      rcases sget_set_some he with ⟨e1, e2⟩ | ⟨e1, e2⟩
      · subst e1; rw [hi] at hj; cases hj; cases e2; exact ⟨a, old hl, hn, hFa, hbat, hLa⟩
      · obtain ⟨b, l, o, f, b', n⟩ := S.own j y e hj e2
        refine ⟨b, old l, o.grow (Sub.refl F) fun o' q => hs b o' (fun q' => ?_) q, f, b', n⟩
        subst q'
        exact e1 (S.oinj j i y x e d b hj hi e2 hσ l hl)
    oinj := fun j k y z e f b hj hk' hje hkf ly lz => by
      rcases sget_set_some hje with ⟨e1, e2⟩ | ⟨e1, e2⟩ <;> rcases sget_set_some hkf with ⟨f1, f2⟩ | ⟨f1, f2⟩
      · exact e1.trans f1.symm
      · subst e1; exact S.oinj _ _ _ _ _ _ _ hj hk' hσ f2 (back ly) (back lz)
      · subst f1; exact S.oinj _ _ _ _ _ _ _ hj hk' e2 hσ (back ly) (back lz)
      · exact S.oinj _ _ _ _ _ _ _ hj hk' e2 f2 (back ly) (back lz) }
/-! statements -/
inductive Fl where
  | next
  | ret (d : PyData)
noncomputable def Rel (base : Fz) (F : Fz) (s : Shared) (F' : Fz) (s' : Shared) : Prop := Sub F F' ∧ (∀ a o, F' a = some o → F a = some o ∨ base a = none) ∧ Same s s'
theorem Rel.refl (F : Fz) (s : Shared) : Rel base F s F s := ⟨Sub.refl F, fun _ _ e => .inl e, .refl s⟩
theorem Rel.trans {F'' : Fz} {s'' : Shared} (x : Rel base F s F' s') (y : Rel base F' s' F'' s'') : Rel base F s F'' s'' := ⟨x.1.trans y.1, fun a o e => (y.2.1 a o e).elim (x.2.1 a o) .inr, x.2.2.trans y.2.2⟩
theorem Rel.grow (X : Ct C n sc A env base base F s σ) (g : Grow F s F' s') : Rel base F s F' s' := ⟨g.sub, (fun a o e => (g.fresh a o e).imp id fun h => by
  cases q : base a with
  | none => rfl
  | some o' => rw [X.fs.keep a o' q] at h; cases h), ⟨g.gens, g.drawn, g.os⟩⟩
theorem Rel.same (h : Same s s') : Rel base F s F s' := ⟨Sub.refl F, fun _ _ e => .inl e, h⟩
noncomputable def PostS (C : Cx) (n : Nat) (sc : Scope) (A : Around) (env : Env) (base F : Fz) (s : Shared) : Fl × St → Flow → Shared → Prop
  | (.next, σ'), fl, s' => fl = .next ∧ ∃ F', Rel base F s F' s' ∧ Ct C n sc A env base base F' s' σ'
  | (.ret d, _), fl, s' => ∃ v, fl = .ret v ∧ ∃ F', Rel base F s F' s' ∧ R C.H F' v d ∧ (∀ b o, base b = some o → s'.heap.get? b = some o) ∧ Sat F' s'.heap
noncomputable abbrev Sm := St → Option (Fl × St)
noncomputable def SndS (C : Cx) (n : Nat) (sc : Scope) (st : Stmt) (f : Sm) : Prop :=
  ∀ {A env base F s σ r}, Ct C n sc A env base base F s σ → f σ = some r → Wp C A (exec st env) (PostS C n sc A env base F s r) s
noncomputable def SndSs (C : Cx) (n : Nat) (sc : Scope) (sts : List Stmt) (f : Sm) : Prop :=
  ∀ {A env base F s σ r}, Ct C n sc A env base base F s σ → f σ = some r → Wp C A (execs sts env) (PostS C n sc A env base F s r) s
theorem PostS.of {r : Fl × St} {fl : Flow} {s'' : Shared} (h : Rel base F s F' s') (p : PostS C n sc A env base F' s' r fl s'') : PostS C n sc A env base F s r fl s'' := by
  obtain ⟨f, σ'⟩ := r
  cases f with
  | next => obtain ⟨e, F2, r2, X⟩ := p; exact ⟨e, F2, h.trans r2, X⟩
  | ret d => obtain ⟨v, e, F2, r2, rv, k, sa⟩ := p; exact ⟨v, e, F2, h.trans r2, rv, k, sa⟩
noncomputable def skipC : Sm := fun σ => some (.next, σ)
noncomputable def seqC2 (f g : Sm) : Sm := fun σ => match f σ with
  | some (.next, σ') => g σ'
  | r => r
theorem SndSs.nil : SndSs C n sc [] skipC := fun {A env base F s σ r} X h => by
  cases h; exact wpAny_execs_nil ⟨rfl, F, .refl F s, X⟩
theorem SndSs.cons {st : Stmt} {sts : List Stmt} {f g : Sm} (h1 : SndS C n sc st f) (h2 : SndSs C n sc sts g) : SndSs C n sc (st :: sts) (seqC2 f g) := fun {A env base F s σ r} X h => by
  unfold seqC2 at h
  refine wpAny_execs_cons ?_
  cases e : f σ with
  | none => rw [e] at h; cases h
  | some r1 =>
    obtain ⟨fl1, σ1⟩ := r1
    cases fl1 with
    | next =>
      rw [e] at h
      refine wp_mono (h1 X e) fun fl s1 p => ?_
      obtain ⟨rfl, F1, r1, X1⟩ := p
      exact wp_mono (h2 X1 h) fun _ _ q => .of r1 q
    | ret d =>
      rw [e] at h
      cases h
      refine wp_mono (h1 X e) fun fl s1 p => ?_
      obtain ⟨v, rfl, rest⟩ := p
      exact ⟨v, rfl, rest⟩
theorem SndSs.one {st : Stmt} {f : Sm} (h1 : SndS C n sc st f) : SndSs C n sc [st] f := fun {A env base F s σ r} X h => by
  refine wpAny_execs_cons (wp_mono (h1 X h) fun fl s1 p => ?_)
  obtain ⟨fl1, σ1⟩ := r
  cases fl1 with
  | next => obtain ⟨rfl, rest⟩ := p; exact wpAny_execs_nil ⟨rfl, rest⟩
  | ret d => obtain ⟨v, rfl, rest⟩ := p; exact ⟨v, rfl, rest⟩
noncomputable def setC (i : Nat) (f : St → Option PyData) : Sm := fun σ => match f σ with
  | some d => some (.next, σ.set i (some (false, d)))
  | none => none
noncomputable def ownC (i : Nat) (f : St → Option PyData) : Sm := fun σ => match f σ with
  | some d => some (.next, σ.set i (some (true, d)))
  | none => none
theorem Ct.not_held {i : Nat} {x : Str} {e : PyData} {a : Addr} {s1 : Shared} (X : Ct C n sc A env base low F s σ) (g : Grow F s F' s1) (ha : s.heap.get? a = none) (hi : C.names[i]? = some x) (hs : sget σ i = some (true, e)) : ¬ Lk env s1.heap x (.ref a) := fun l => by
  obtain ⟨b, l', o, _⟩ := X.fs.own i x e hi hs
  cases l.uniq (l'.keeps g.keep)
  obtain ⟨o', h⟩ := o.there
  rw [h] at ha; cases ha
theorem Ct.low_none {a : Addr} (X : Ct C n sc A env base low F s σ) (ha : s.heap.get? a = none) : base a = none ∧ low a = none ∧ a ≠ env.locals := by
  refine ⟨?_, ?_, ?_⟩
  · cases q : base a with
    | none => rfl
    | some o' => rw [X.fs.keep a o' q] at ha; cases ha
  · cases q : low a with
    | none => rfl
    | some o' => rw [X.fs.keepL a o' q] at ha; cases ha
  · rintro rfl
    obtain ⟨m, o, es, ep, ho, _⟩ := X.fs.ns
    rw [ho] at ha; cases ha
theorem SndS.assign {i : Nat} {x : Str} {p pos : Pos} {e : Expr} {f : St → Option PyData} (hi : C.names[i]? = some x) (hk : MayS C sc x) (he : Snd C n sc e f)
    (hs : ∀ env, swapsWith e (some (.Name x p)) pos.line env = pure false := by intro _; rfl) : SndS C n sc (.Assign [.Name x p] e pos) (setC i f) := fun {A env base F s σ r} X h => by
  unfold setC at h
  cases e1 : f σ with
  | none => rw [e1] at h; cases h
  | some d =>
    rw [e1] at h; cases h
    refine PySem.wpAny_Assign_Name (wp_mono (he X e1) fun v s1 ⟨F1, g1, r1⟩ => ?_) (hs env)
    have X1 := X.grow g1
    refine wp_store2 X1.fs hi (MaySt.def X1 hk).2 (.fz r1) (fun _ _ e => nomatch e) fun s' hs' S' T => ?_
    exact ⟨rfl, F1, (Rel.grow X g1).trans (.same hs'), X1.step X1.k0 (fun e => T.fwd (hk.2.ne e)) S'⟩
theorem SndS.assignO {i : Nat} {x : Str} {p pos : Pos} {e : Expr} {f : St → Option PyData} (hi : C.names[i]? = some x) (hk : MayS C sc x) (he : SndO C n sc e f)
    (hs : ∀ env, swapsWith e (some (.Name x p)) pos.line env = pure false := by intro _; rfl) : SndS C n sc (.Assign [.Name x p] e pos) (ownC i f) := fun {A env base F s σ r} X h => by
  unfold ownC at h
  cases e1 : f σ with
  | none => rw [e1] at h; cases h
  | some d =>
    rw [e1] at h; cases h
    refine PySem.wpAny_Assign_Name (wp_mono (he X e1) fun v s1 ⟨F1, a, hv, g1, h1, h2, ow⟩ => ?_) (hs env)
    subst hv
    have X1 := X.grow g1
    obtain ⟨q1, q2, q3⟩ := X.low_none h2
    refine wp_store2 X1.fs hi (MaySt.def X1 hk).2 (.ow ow h1 q1 q3) (fun a' e _ j y e' _ hj hs' => by cases e; exact X.not_held g1 h2 hj hs') fun s' hs' S' T => ?_
    exact ⟨rfl, F1, (Rel.grow X g1).trans (.same hs'), X1.step X1.k0 (fun e => T.fwd (hk.2.ne e)) S'⟩
noncomputable def freeC (i : Nat) (f : Sm) : Sm := fun σ => match sget σ i with
  | some (true, d) => f (σ.set i (some (false, d)))
  | _ => none
theorem Ct.freeze {i : Nat} {d : PyData} (X : Ct C n sc A env base base F s σ) (h : sget σ i = some (true, d)) (hi : i < C.names.length) : ∃ F', Rel base F s F' s ∧ Ct C n sc A env base base F' s (σ.set i (some (false, d))) := by
  obtain ⟨F', h1, h2, S⟩ := X.fs.freeze h hi
  exact ⟨F', ⟨h1, h2, .refl s⟩, X.step X.k0 (fun _ l => l) S⟩
theorem SndS.free {i : Nat} {st : Stmt} {f : Sm} (hi : i < C.names.length) (h : SndS C n sc st f) : SndS C n sc st (freeC i f) := fun {A env base F s σ r} X hf => by
  unfold freeC at hf
  split at hf
  · rename_i d e
    obtain ⟨F1, r1, X1⟩ := X.freeze e hi
    exact wp_mono (h X1 hf) fun _ _ q => .of r1 q
  · cases hf
noncomputable def retC (f : St → Option PyData) : Sm := fun σ => match f σ with
  | some d => some (.ret d, σ)
  | none => none
theorem SndS.ret {e : Expr} {pos : Pos} {f : St → Option PyData} (he : Snd C n sc e f) : SndS C n sc (.Return (some e) pos) (retC f) := fun {A env base F s σ r} X h => by
  unfold retC at h
  cases e1 : f σ with
  | none => rw [e1] at h; cases h
  | some d =>
    rw [e1] at h; cases h
    refine wpAny_Return_some (wp_mono (he X e1) fun v s1 ⟨F1, g1, r1⟩ => ?_)
    exact ⟨v, rfl, F1, .grow X g1, r1, fun b o q => g1.keep b o (X.fs.keep b o q), g1.sat⟩
noncomputable def ifS (t : St → Option Bool) (f g : Sm) : Sm := fun σ => match t σ with
  | some true => f σ
  | some false => g σ
  | none => none
theorem SndS.ifs {test : Expr} {body orelse : List Stmt} {pos : Pos} {t : St → Option Bool} {f g : Sm} (ht : SndT C n sc test t) (hf : SndSs C n sc body f) (hg : SndSs C n sc orelse g) : SndS C n sc (.If test body orelse pos) (ifS t f g) := fun {A env base F s σ r} X h => by
  unfold ifS at h
  split at h
  · rename_i e
    refine wpAny_If (wp_mono (ht X e) fun b s1 ⟨eb, F1, g1⟩ => ?_)
    subst eb
    simp only [if_true]
    exact wp_mono (hf (X.grow g1) h) fun _ _ q => .of (.grow X g1) q
  · rename_i e
    refine wpAny_If (wp_mono (ht X e) fun b s1 ⟨eb, F1, g1⟩ => ?_)
    subst eb
    simp only [Bool.false_eq_true, if_false]
    exact wp_mono (hg (X.grow g1) h) fun _ _ q => .of (.grow X g1) q
  · cases h
/-! assignments of tuples -/
inductive SndMs (C : Cx) (n : Nat) (sc : Scope) : List Expr → List (Bool × (St → Option PyData)) → Prop
  | nil : SndMs C n sc [] []
  | fz {e es f fs} : Snd C n sc e f → SndMs C n sc es fs → (∀ r env, starEach (e :: r) env = (false, eval e env) :: starEach r env) → SndMs C n sc (e :: es) ((false, f) :: fs)
  | ow {e es f fs} : SndO C n sc e f → SndMs C n sc es fs → (∀ r env, starEach (e :: r) env = (false, eval e env) :: starEach r env) → SndMs C n sc (e :: es) ((true, f) :: fs)
noncomputable def msC : List (Bool × (St → Option PyData)) → St → Option (List (Bool × PyData))
  | [], _ => some []
  | (b, f) :: fs, σ => match f σ with
    | some d => match msC fs σ with
      | some r => some ((b, d) :: r)
      | none => none
    | none => none
theorem msC_cons {b : Bool} {f : St → Option PyData} {fs r} (h : msC ((b, f) :: fs) σ = some r) : ∃ d r', f σ = some d ∧ msC fs σ = some r' ∧ r = (b, d) :: r' := by
  simp only [msC] at h
  cases e1 : f σ with
  | none => rw [e1] at h; cases h
  | some d =>
    cases e2 : msC fs σ with
    | none => rw [e1] at h; simp only [e2] at h; cases h
    | some r' => rw [e1] at h; simp only [e2] at h; cases h; exact ⟨_, _, rfl, rfl, rfl⟩
theorem Pend.grow {s s1 : Shared} (X : Ct C n sc A env base low F s σ) (g : Grow F s F' s1) : ∀ {vs vos as}, Pend C.H C.names env base low F s.heap σ vs vos as → Pend C.H C.names env base low F' s1.heap σ vs vos as := by
  intro vs vos as hp
  induction hp with
  | nil => exact .nil
  | fz r p ih => exact .fz (r.mono g.sub) ih
  | ow o hF hl hL hn ha p ih =>
    obtain ⟨ob, hob⟩ := o.there
    refine .ow (o.grow g.sub (g.keep _)) (g.off hF hob) hl hL (fun j y e hj hs l => ?_) ha ih
    obtain ⟨b, l', _⟩ := X.fs.own j y e hj hs
    cases l.uniq (l'.keeps g.keep)
    exact hn j y e hj hs l'
theorem parts_wp {pos : Pos} : ∀ {es fs}, SndMs C n sc es fs → ∀ {A env base low F s σ ds}, Ct C n sc A env base low F s σ → msC fs σ = some ds →
    Wp C A (spliced (backTo pos (starEach es env))) (fun vs s' => ∃ F' as, Grow F s F' s' ∧ Pend C.H C.names env base low F' s'.heap σ vs ds as ∧ ∀ a ∈ as, s.heap.get? a = none) s := by
  intro es fs hes
  induction hes with
  | nil => intro _ _ _ _ _ _ _ _ X h; cases h; exact spliced_nil ⟨_, [], .refl X.sat, .nil, fun _ h => by cases h⟩
  | fz he r hs ih =>
    intro _ _ _ _ _ _ _ _ X h
    obtain ⟨d, ds', h1, h2, rfl⟩ := msC_cons h
    rw [hs]
    refine spliced_cons (wp_mono (he X h1) fun v s1 ⟨F1, g1, r1⟩ => ?_)
    exact wp_mono (ih (X.grow g1) h2) fun vs s2 ⟨F2, as, g2, p2, q2⟩ => ⟨F2, as, g1.trans g2, .fz (r1.mono g2.sub) p2, fun a ha => g1.fresh_back (q2 a ha)⟩
  | ow he r hs ih =>
    intro _ _ _ _ _ _ _ _ X h
    obtain ⟨d, ds', h1, h2, rfl⟩ := msC_cons h
    rw [hs]
    refine spliced_cons (wp_mono (he X h1) fun v s1 ⟨F1, a, e1, g1, ha1, ha2, ow⟩ => ?_)
    subst e1
    refine wp_mono (ih (X.grow g1) h2) fun vs s2 ⟨F2, as, g2, p2, q2⟩ => ⟨F2, a :: as, g1.trans g2, ?_, fun b hb => ?_⟩
    · obtain ⟨ob, hob⟩ := ow.there
      obtain ⟨_, q, q'⟩ := X.low_none ha2
      exact .ow (ow.grow g2.sub (g2.keep _)) (g2.off ha1 hob) q q' (fun j y e hj hs' => X.not_held (g1.trans g2) ha2 hj hs') (fun hm => by rw [q2 a hm] at hob; cases hob) p2
    · rcases List.mem_cons.mp hb with rfl | hb
      · exact ha2
      · exact g1.fresh_back (q2 b hb)
noncomputable def asgM (is : List Nat) (rev : Bool) (fs : List (Bool × (St → Option PyData))) : Sm := fun σ => match msC fs σ with
  | some ds => if ds.length = is.length then (match (if rev then storeD is.reverse ds.reverse σ else storeD is ds σ) with
    | some σ' => some (.next, σ')
    | none => none) else none
  | none => none
theorem Pend.length {h : Heap} {vs vos as} (p : Pend C.H C.names env base low F h σ vs vos as) : vs.length = vos.length := by
  induction p with
  | nil => rfl
  | fz _ _ ih => exact congrArg (· + 1) ih
  | ow _ _ _ _ _ _ _ ih => exact congrArg (· + 1) ih
theorem Pend.append {h : Heap} {vs vos as ws wos bs} (p : Pend C.H C.names env base low F h σ vs vos as) (q : Pend C.H C.names env base low F h σ ws wos bs) : (∀ a ∈ as, a ∉ bs) → Pend C.H C.names env base low F h σ (vs ++ ws) (vos ++ wos) (as ++ bs) := by
  induction p with
  | nil => exact fun _ => q
  | fz r _ ih => exact fun h => .fz r (ih h)
  | ow o hF hl hL hn ha _ ih => exact fun h => .ow o hF hl hL hn (fun hm => (List.mem_append.mp hm).elim ha (h _ List.mem_cons_self)) (ih fun a hm => h a (List.mem_cons_of_mem _ hm))
theorem Pend.reverse {h : Heap} {vs vos as} (p : Pend C.H C.names env base low F h σ vs vos as) : Pend C.H C.names env base low F h σ vs.reverse vos.reverse as.reverse := by
  induction p with
  | nil => exact .nil
  | fz r _ ih =>
    rw [List.reverse_cons, List.reverse_cons]
    have := ih.append (.fz r .nil) (fun _ _ h => nomatch h)
    rwa [List.append_nil] at this
  | ow o hF hl hL hn ha _ ih =>
    rw [List.reverse_cons, List.reverse_cons, List.reverse_cons]
    exact ih.append (.ow o hF hl hL hn List.not_mem_nil .nil) (fun a hm hb => ha (List.mem_reverse.mp (List.mem_singleton.mp hb ▸ hm)))
theorem SndS.assignM {elts es : List Expr} {k k' : Nat} {tp ep pos : Pos} {is : List Nat} {xs : List Str} {ps : List Pos} {fs : List (Bool × (St → Option PyData))} (he : ∀ env, assignEach elts env = List.zipWith (fun x p => (false, PySem.assign (.Name x p) env)) xs ps) (hl : ps.length = xs.length) (hx : (is.map fun i => C.names[i]?) = xs.map some)
    (hk : ∀ x ∈ xs, MayS C sc x) (h : SndMs C n sc es fs) (rev : Bool) (h64 : fs.length ≤ 16)
    (hs : ∀ env, swapsWithSole [.Tuple elts k tp] (.Tuple es k' ep) pos.line env = pure false := by intro _; rfl) (hw : ∀ env, env.scope = sc → swappedStores [.Tuple elts k tp] (.Tuple es k' ep) env = pure (if rev then some xs else none)) :
    SndS C n sc (.Assign [.Tuple elts k tp] (.Tuple es k' ep) pos) (asgM is rev fs) := fun {A env base F s σ r} X hf => by
  unfold asgM at hf
  cases e1 : msC fs σ with
  | none => rw [e1] at hf; cases hf
  | some ds =>
    rw [e1] at hf
    dsimp only at hf
    split at hf
    · rename_i hlen
      have len : is.length = xs.length := by have := congrArg List.length hx; simpa using this
      have hds : ds.length ≤ 16 := by
        have : ∀ {fs : List (Bool × (St → Option PyData))} {ds}, msC fs σ = some ds → ds.length = fs.length := by
          intro fs
          induction fs with
          | nil => intro ds h; cases h; rfl
          | cons x fs ih => intro ds h; obtain ⟨b, f⟩ := x; obtain ⟨d, r', _, h2, rfl⟩ := msC_cons h; simp [ih h2]
        rw [this e1]; exact h64
      -- the tuple is made, and unpacked at once
      have core : ∀ {Q : List Value → Shared → Prop}, (∀ vs s3 F3 as, Rel base F s F3 s3 → Ct C n sc A env base base F3 s3 σ → Pend C.H C.names env base base F3 s3.heap σ vs ds as → Q vs s3) →
          Wp C A (eval (.Tuple es k' ep) env) (fun v s1 => Wp C A (unpackItems v xs.length none) Q s1) s := fun {Q} kk => by
        rw [arm_eval_Tuple]
        refine wpAny_bind (wpAny_standAt (wpAny_bind (wp_mono (parts_wp h X e1) fun vs s1 ⟨F1, as, g1, p1, q1⟩ => ?_)))
        have hvs : vs.length = xs.length := by rw [p1.length, hlen, len]
        refine PySem.wpAny_newTuple ?_ (by rw [p1.length, sizeLine_eq]; omega)
        have g2 : Grow F1 s1 F1 { s1 with heap := s1.heap.push (seqObj "tuple" vs.toArray 0) } := .ofKeep g1.sat (fun b o q => Heap.get?_push_of_some _ q) rfl rfl rfl
        rw [show xs.length = vs.toArray.size by simp [hvs]]
        refine wpAny_unpackItems_tuple (s := { s1 with heap := s1.heap.push (seqObj "tuple" vs.toArray 0) }) X.room.hand ⟨_, Heap.get?_push_size _ rfl, rfl, 0, rfl⟩ fun h' eb => ?_
        have g3 : Grow F1 { s1 with heap := s1.heap.push (seqObj "tuple" vs.toArray 0) } F1 { s1 with heap := h' } := .ofKeep g2.sat (ext_keep eb) rfl rfl rfl
        have g := g2.trans g3
        exact kk vs _ F1 as (.grow X (g1.trans g)) (X.grow (g1.trans g)) (p1.grow (X.grow g1) g)
      cases rev with
      | false =>
        simp only [Bool.false_eq_true, if_false] at hf hw
        cases e2 : storeD is ds σ with
        | none => rw [e2] at hf; cases hf
        | some σ' =>
          rw [e2] at hf; cases hf
          refine PyProof.Rows.Assign_Tuple (wp_mono (core (Q := fun vs s3 => Wp C A (assignInOrder (List.zipWith (fun x p => PySem.assign (.Name x p) env) xs ps) vs) (fun _ s4 => PostS C n sc A env base F s (.next, σ') .next s4) s3) fun vs s3 F3 as r3 X3 P3 => ?_) fun v s1 h1 => ?_) (hs env) (hw env X.scope)
          · exact stores_wp X3 hx (fun x hx' => MaySt.def X3 (hk x hx')) (.inr ⟨ps, rfl, hl⟩) P3 e2 fun s' hs' X' => ⟨rfl, F3, r3.trans (.same hs'), X'⟩
          · rw [arm_assign_Tuple]
            refine wpAny_bind (wpAny_standAt ?_)
            unfold unpack
            rw [he, zip_star, zip_snd, List.length_zipWith, hl, Nat.min_self]
            exact wpAny_bind (wpAny_holding h1)
      | true =>
        simp only [if_true] at hf hw
        cases e2 : storeD is.reverse ds.reverse σ with
        | none => rw [e2] at hf; cases hf
        | some σ' =>
          rw [e2] at hf; cases hf
          refine PyProof.Rows.Assign_Tuple_swapped (core fun vs s3 F3 as r3 X3 P3 => ?_) (hs env) (hw env X.scope)
          have hx2 : (is.reverse.map fun i => C.names[i]?) = xs.reverse.map some := by rw [List.map_reverse, hx, List.map_reverse]
          exact stores_wp X3 hx2 (fun x hx' => MaySt.def X3 (hk x (List.mem_reverse.mp hx'))) (.inl rfl) P3.reverse e2 fun s' hs' X' => ⟨rfl, F3, r3.trans (.same hs'), X'⟩
    · cases hf
end Ev
set_option maxRecDepth 10000
namespace Ev
open PySem PySem.W PySem.Spec PySem.Calls PyProof.Rows PySem.SeqAt
variable {C : Cx} {n : Nat} {sc : Scope} {A : Around} {env : Env} {base : Fz} {low : Fz} {F F' : Fz} {s s' : Shared} {σ : St}
/-! iterators set aside -/
noncomputable def bs (W : List Addr) (h : Heap) (base : Fz) : Fz := fun a => if a ∈ W then h.get? a else base a
theorem bs_in {W : List Addr} {h : Heap} {a : Addr} (m : a ∈ W) : bs W h base a = h.get? a := by unfold bs; rw [if_pos m]
theorem bs_out {W : List Addr} {h : Heap} {a : Addr} (m : a ∉ W) : bs W h base a = base a := by unfold bs; rw [if_neg m]
theorem bs_none {W : List Addr} {h : Heap} {a : Addr} (th : ∀ a ∈ W, ∃ o, h.get? a = some o) (e : bs W h base a = none) : a ∉ W ∧ base a = none := by
  by_cases m : a ∈ W
  · rw [bs_in m] at e; obtain ⟨o, ho⟩ := th a m; rw [ho] at e; cases e
  · exact ⟨m, by rw [bs_out m] at e; exact e⟩
theorem Ct.aside {W : List Addr} (X : Ct C n sc A env base low F s σ) (hW : ∀ a ∈ W, base a = none ∧ low a = none ∧ a ≠ env.locals ∧ (∀ x c, env.kindOf x = some .cell → env.cells.lookup x = some c → c ≠ a) ∧ (∀ i x d, C.names[i]? = some x → sget σ i = some (true, d) → ¬ Lk env s.heap x (.ref a))) :
    Ct C n sc A env (bs W s.heap base) (bs W s.heap low) F s σ := by
  have S := X.fs
  have sub : ∀ {q : Fz}, (∀ b o, q b = some o → s.heap.get? b = some o) → ∀ b o, bs W s.heap q b = some o → s.heap.get? b = some o := fun {q} k b o e => by
    by_cases m : b ∈ W
    · rw [bs_in m] at e; exact e
    · rw [bs_out m] at e; exact k b o e
  have hL : env.locals ∉ W := fun m => (hW _ m).2.2.1 rfl
  exact X.step (fun b o e => by
    by_cases m : b ∈ W
    · rw [bs_in m]; exact X.keep0 b o e
    · rw [bs_out m]; exact X.k0 b o e) (fun _ l => l) {
    kind := S.kind, glob := S.glob, blt := S.blt, nodup := S.nodup
    keep := sub S.keep, keepL := sub S.keepL, sat := S.sat, ns := S.ns, LF := S.LF
    Lb := by rw [bs_out hL]; exact S.Lb
    Ll := by rw [bs_out hL]; exact S.Ll
    cell := fun x hx => by
      obtain ⟨c, v, h1, h2, h3, h4⟩ := S.cell x hx
      exact ⟨c, v, h1, h2, h3, by rw [bs_out fun m => (hW _ m).2.2.2.1 x c hx h1 rfl]; exact h4⟩
    cinj := S.cinj, free := S.free, vars := S.vars
    own := fun i x d hi hd => by
      obtain ⟨a, h1, h2, h3, h4, h5⟩ := S.own i x d hi hd
      exact ⟨a, h1, h2, h3, by rw [bs_out fun m => (hW _ m).2.2.2.2 i x d hi hd h1]; exact h4, h5⟩
    oinj := S.oinj }
theorem Ct.asideNew {W : List Addr} (X : Ct C n sc A env base low F s σ) (g : Grow F s F' s') (hW : ∀ a ∈ W, s.heap.get? a = none) : Ct C n sc A env (bs W s'.heap base) (bs W s'.heap low) F' s' σ := by
  refine (X.grow g).aside fun a ha => ?_
  have h0 := hW a ha
  obtain ⟨q1, q2, q3⟩ := X.low_none h0
  refine ⟨q1, q2, q3, fun x c hx hc e => ?_, fun i x d hi hs l => X.not_held g h0 hi hs l⟩
  obtain ⟨c', v, h1, ⟨o, ho, _⟩, _⟩ := X.fs.cell x hx
  rw [hc] at h1; cases h1
  rw [e, h0] at ho; cases ho
theorem Ct.lower {base' : Fz} (h : ∀ b o, base b = some o → base' b = some o) (k0 : ∀ b o, C.h₀.get? b = some o → base b = some o) (X : Ct C n sc A env base' base' F s σ) : Ct C n sc A env base base F s σ := by
  have S := X.fs
  have nn : ∀ {a}, base' a = none → base a = none := fun {a} e => by
    cases q : base a with
    | none => rfl
    | some o => rw [h a o q] at e; cases e
  exact X.step k0 (fun _ l => l) {
    kind := S.kind, glob := S.glob, blt := S.blt, nodup := S.nodup
    keep := fun b o e => S.keep b o (h b o e), keepL := fun b o e => S.keep b o (h b o e), sat := S.sat, ns := S.ns, LF := S.LF
    Lb := nn S.Lb, Ll := nn S.Ll
    cell := fun x hx => let ⟨c, v, h1, h2, h3, h4⟩ := S.cell x hx; ⟨c, v, h1, h2, h3, nn h4⟩
    cinj := S.cinj, free := S.free, vars := S.vars
    own := fun i x d hi hd => let ⟨a, h1, h2, h3, h4, h5⟩ := S.own i x d hi hd; ⟨a, h1, h2, h3, nn h4, h5⟩
    oinj := S.oinj }
theorem Ct.adv {W : List Addr} (th : ∀ a ∈ W, ∃ o, s.heap.get? a = some o) (hW0 : ∀ a ∈ W, C.h₀.get? a = none) (X : Ct C n sc A env (bs W s.heap base) (bs W s.heap low) F s σ) (v : Adv W F s F' s') : Ct C n sc A env (bs W s'.heap base) (bs W s'.heap low) F' s' σ := by
  have S := X.fs
  have kp : ∀ {a o}, a ∉ W → s.heap.get? a = some o → s'.heap.get? a = some o := fun {a o} m e => v.keep a o m e
  have hL := bs_none th S.Lb
  have hLl := bs_none th S.Ll
  have off : ∀ {a o}, F a = none → s.heap.get? a = some o → F' a = none := fun {a o} e ho => by
    cases q : F' a with
    | none => rfl
    | some o' =>
      rcases v.fresh a o' q with h | h
      · rw [e] at h; cases h
      · rw [ho] at h; cases h
  obtain ⟨m, hm⟩ := S.ns
  have hm' : s'.heap.Ns env.locals m := let ⟨o, es, ep, e, r⟩ := hm; ⟨o, es, ep, kp hL.1 e, r⟩
  have old : ∀ {y : Str} {u : Value}, Lk env s.heap y u → Lk env s'.heap y u := fun {y u} l => by
    cases l with
    | loc k n e => exact .loc k hm' (ns_uniq n hm ▸ e)
    | cell k c2 ic =>
      obtain ⟨c, w, h1, h2, h3, h4⟩ := S.cell y k
      rw [c2] at h1; cases h1
      obtain ⟨o, e, r⟩ := ic
      exact .cell k c2 ⟨o, kp (bs_none th h4).1 e, r⟩
    | free k c2 ic =>
      obtain ⟨o, e⟩ := S.free _ _ k c2
      obtain ⟨o', ho', hd'⟩ := ic
      have h1 := S.sat _ _ e
      rw [ho'] at h1; cases h1
      exact .free k c2 ⟨_, v.sat _ _ (v.sub _ _ e), hd'⟩
  have back : ∀ {y : Str} {u : Value}, Lk env s'.heap y u → Lk env s.heap y u := fun {y u} l => by
    cases l with
    | loc k n e => exact .loc k hm (by rw [ns_uniq n hm'] at e; exact e)
    | cell k c2 ic =>
      obtain ⟨c, w, h1, h2, h3, h4⟩ := S.cell y k
      rw [c2] at h1; cases h1
      obtain ⟨o, e, r⟩ := id h2
      cases cell_uniq ic ⟨o, kp (bs_none th h4).1 e, r⟩
      exact .cell k c2 h2
    | free k c2 ic =>
      obtain ⟨o, e⟩ := S.free _ _ k c2
      obtain ⟨o', ho', hd'⟩ := ic
      have h1 := S.sat _ _ e
      have h2 := v.sat _ _ (v.sub _ _ e)
      rw [ho'] at h2; cases h2
      exact .free k c2 ⟨_, h1, hd'⟩
  have sub : ∀ {q : Fz}, (∀ b o, bs W s.heap q b = some o → s.heap.get? b = some o) → ∀ b o, bs W s'.heap q b = some o → s'.heap.get? b = some o := fun {q} k b o e => by
    by_cases m : b ∈ W
    · rw [bs_in m] at e; exact e
    · rw [bs_out m] at e; exact kp m (k b o (by rw [bs_out m]; exact e))
  exact X.step (fun b o e => by
    have := X.k0 b o e
    by_cases m : b ∈ W
    · rw [hW0 b m] at e; cases e
    · rw [bs_out m] at this ⊢; exact this) (fun _ l => old l) {
    kind := S.kind, glob := S.glob, blt := S.blt, nodup := S.nodup
    keep := sub S.keep, keepL := sub S.keepL, sat := v.sat, ns := ⟨m, hm'⟩
    LF := by obtain ⟨o, es, ep, e, r⟩ := hm; exact off S.LF e
    Lb := by rw [bs_out hL.1]; exact hL.2
    Ll := by rw [bs_out hL.1]; exact hLl.2
    cell := fun x hx => by
      obtain ⟨c, w, h1, ⟨o, e, r⟩, h3, h4⟩ := S.cell x hx
      have q := bs_none th h4
      exact ⟨c, w, h1, ⟨o, kp q.1 e, r⟩, off h3 e, by rw [bs_out q.1]; exact q.2⟩
    cinj := S.cinj
    free := fun x c hx hc => let ⟨o, e⟩ := S.free x c hx hc; ⟨o, v.sub _ _ e⟩
    vars := fun i x d hi hd => let ⟨u, l, r⟩ := S.vars i x d hi hd; ⟨u, old l, r.mono v.sub⟩
    own := fun i x d hi hd => by
      obtain ⟨a, h1, h2, h3, h4, h5⟩ := S.own i x d hi hd
      have q := bs_none th h4
      obtain ⟨o, ho⟩ := h2.there
      exact ⟨a, old h1, h2.grow v.sub (fun o e => kp q.1 e), off h3 ho, by rw [bs_out q.1]; exact q.2, h5⟩
    oinj := fun i j x y d e a hx hy hd he lx ly => S.oinj i j x y d e a hx hy hd he (back lx) (back ly) }
/-! for -/
noncomputable def loopC (g : PyData → St → Option St) (body : Sm) : List PyData → Sm
  | [] => skipC
  | d :: ds => fun σ => match g d σ with
    | some σ' => match body σ' with
      | some (.next, σ'') => loopC g body ds σ''
      | r => r
    | none => none
noncomputable def forC (src : St → Option (List PyData)) (g : PyData → St → Option St) (body : Sm) : Sm := fun σ => match src σ with
  | some ds => loopC g body ds σ
  | none => none
theorem PostS.lower {base' : Fz} {r : Fl × St} {fl : Flow} (h : ∀ b o, base b = some o → base' b = some o) (k0 : ∀ b o, C.h₀.get? b = some o → base b = some o) (p : PostS C n sc A env base' F s r fl s') : PostS C n sc A env base F s r fl s' := by
  have nn : ∀ {a}, base' a = none → base a = none := fun {a} e => by
    cases q : base a with
    | none => rfl
    | some o => rw [h a o q] at e; cases e
  obtain ⟨f, σ'⟩ := r
  cases f with
  | next => obtain ⟨e, F2, r2, X⟩ := p; exact ⟨e, F2, ⟨r2.1, fun a o q => (r2.2.1 a o q).imp id nn, r2.2.2⟩, X.lower h k0⟩
  | ret d => obtain ⟨v, e, F2, r2, rv, k, sa⟩ := p; exact ⟨v, e, F2, ⟨r2.1, fun a o q => (r2.2.1 a o q).imp id nn, r2.2.2⟩, rv, fun b o q => k b o (h b o q), sa⟩
theorem Rel.adv {W : List Addr} (hk : ∀ b o, base b = some o → s.heap.get? b = some o) (v : Adv W F s F' s') : Rel base F s F' s' := ⟨v.sub, (fun a o e => (v.fresh a o e).imp id fun h => by
  cases q : base a with
  | none => rfl
  | some o' => rw [hk a o' q] at h; cases h), ⟨v.gens, v.drawn, v.os⟩⟩
theorem SndS.forI {tg iter : Expr} {body : List Stmt} {pos : Pos} {src : St → Option (List PyData)} {g : PyData → St → Option St} {xs : List Str} {fb : Sm} (T : SndTg C tg g xs) (hk : ∀ x ∈ xs, MayS C sc x)
    (hi : SndI C n sc true tg iter src) (hb : SndSs C n sc body fb) (hfs : ∀ env x, foldedSetIterable iter env x = pure x := by intro _ _; rfl) : SndS C n sc (.For tg iter body [] pos) (forC src g fb) := fun {A env base F s σ r} X h => by
  unfold forC at h
  cases e1 : src σ with
  | none => rw [e1] at h; cases h
  | some ds =>
    rw [e1] at h
    dsimp only at h
    refine wpAny_For (wp_mono (hi X e1) fun x s1 h1 => wpAny_mono h1 (fun it s2 p => ?_) fun _ _ e => e) (hfs env)
    obtain ⟨F1, W, I, D, St, rfl, g1, it, st0, sd0, hW, hD⟩ := p
    have X1 := X.asideNew g1 (fun a ha => (hW a ha).1)
    have hW0 : ∀ a ∈ W, C.h₀.get? a = none := fun a ha => by
      cases q : C.h₀.get? a with
      | none => rfl
      | some o => have := (hW a ha).1; rw [X.keep0 a o q] at this; cases this
    have hbW : ∀ {h : Heap}, ∀ b o, base b = some o → bs W h base b = some o := fun {h} b o e => by
      rw [bs_out fun m => by have := (hW b m).1; rw [X.fs.keep b o e] at this; cases this]; exact e
    refine codeAny_forLoop_any (fun k s' => ∃ i F' σ', k = ds.length - i ∧ i ≤ ds.length ∧ Rel base F s F' s' ∧ Sub F1 F' ∧ Ct C n sc A env (bs W s'.heap base) (bs W s'.heap base) F' s' σ' ∧ St i s'.heap ∧ (∀ a ∈ W, F' a = none) ∧ loopC g fb (ds.drop i) σ' = some r)
      ?_ ds.length ⟨0, F1, σ, rfl, Nat.zero_le _, .grow X g1, Sub.refl F1, X1, st0, fun a ha => (hW a ha).2, h⟩
    rintro k s' ⟨i, F2, σ2, rfl, hle, r2, sb2, X2, st2, hW2, h2⟩
    have sd2 : Sat D s'.heap := fun a o e => X2.sat a o (sb2 a o (hD rfl a o e))
    have th2 : ∀ a ∈ W, ∃ o, s'.heap.get? a = some o := it.there st2
    have keep2 : ∀ b o, base b = some o → s'.heap.get? b = some o := fun b o e => X2.fs.keep b o (hbW b o e)
    by_cases hlt : i < ds.length
    · have hx : ds[i]? = some ds[i] := List.getElem?_eq_getElem hlt
      rw [List.drop_eq_getElem_cons hlt] at h2
      simp only [loopC] at h2
      refine wpAny_mono (it.item hx st2 sd2 X2.sat sb2 hW2) (fun ov s3 p3 => ?_) fun _ _ e => e.elim
      obtain ⟨v, rfl, p3⟩ := p3
      refine wpAny_mono p3 (fun _ s4 p4 => ?_) fun _ _ e => e.elim
      obtain ⟨F4, a4, r4, st4⟩ := p4
      have X4 := X2.adv th2 hW0 a4
      have rl4 : Rel base F s F4 s4 := r2.trans (.adv keep2 a4)
      have hW4 : ∀ a ∈ W, F4 a = none := fun a ha => by
        cases q : F4 a with
        | none => rfl
        | some o =>
          rcases a4.fresh a o q with e | e
          · rw [hW2 a ha] at e; cases e
          · obtain ⟨o', ho'⟩ := th2 a ha; rw [e] at ho'; cases ho'
      cases hg : g ds[i] σ2 with
      | none => rw [hg] at h2; cases h2
      | some σ3 =>
        rw [hg] at h2
        dsimp only at h2
        refine target_wp T X4 (fun x hx => MaySt.def X4 (hk x hx)) r4 hg fun s5 hs5 X5 => ?_
        have keepW5 : ∀ a ∈ W, ∀ o, s4.heap.get? a = some o → s5.heap.get? a = some o := fun a ha o e => X5.fs.keep a o (by rw [bs_in ha]; exact e)
        have st5 : St (i + 1) s5.heap := it.frame st4 keepW5 fun a o e => X5.sat a o (a4.sub a o (sb2 a o (hD rfl a o e)))
        cases hbd : fb σ3 with
        | none => rw [hbd] at h2; cases h2
        | some rr =>
          refine wpAny_mono (hb X5 hbd) (fun fl s6 p6 => ?_) fun _ _ e => e.elim
          obtain ⟨f6, σ6⟩ := rr
          cases f6 with
          | next =>
            rw [hbd] at h2
            obtain ⟨rfl, F6, r6, X6⟩ := p6
            have keepW6 : ∀ a ∈ W, ∀ o, s5.heap.get? a = some o → s6.heap.get? a = some o := fun a ha o e => by
              obtain ⟨o4, ho4⟩ := it.there st4 a ha
              have e5 := keepW5 a ha o4 ho4
              rw [e] at e5; cases e5
              exact X6.fs.keep a o (by rw [bs_in ha]; exact ho4)
            have nnb : ∀ {a}, bs W s4.heap base a = none → base a = none := fun {a} e => by
              cases q : base a with
              | none => rfl
              | some o => rw [hbW a o q] at e; cases e
            have sub6 : Sub F1 F6 := sb2.trans (a4.sub.trans r6.1)
            refine ⟨ds.length - (i + 1), by omega, i + 1, F6, σ6, rfl, hlt, rl4.trans ((Rel.same hs5).trans ⟨r6.1, fun a o q => (r6.2.1 a o q).imp id nnb, r6.2.2⟩), sub6, ?_, ?_, ?_, h2⟩
            · have e46 : bs W s6.heap base = bs W s4.heap base := by
                funext a
                by_cases m : a ∈ W
                · rw [bs_in m, bs_in m]
                  obtain ⟨o4, ho4⟩ := it.there st4 a m
                  rw [ho4]
                  exact keepW6 a m _ (keepW5 a m _ ho4)
                · rw [bs_out m, bs_out m]
              rw [e46]; exact X6
            · exact it.frame st5 keepW6 fun a o e => X6.sat a o (sub6 a o (hD rfl a o e))
            · intro a ha
              cases q : F6 a with
              | none => rfl
              | some o =>
                rcases r6.2.1 a o q with e | e
                · rw [hW4 a ha] at e; cases e
                · obtain ⟨o4, ho4⟩ := it.there st4 a ha
                  rw [bs_in ha, ho4] at e; cases e
          | ret d =>
            rw [hbd] at h2
            cases h2
            have p7 := PostS.lower (hbW (h := s4.heap)) X.k0 p6
            obtain ⟨v', rfl, rest⟩ := p7
            exact PostS.of (rl4.trans (Rel.same hs5)) ⟨v', rfl, rest⟩
    · have hi' : i = ds.length := by omega
      subst hi'
      rw [List.drop_length] at h2
      cases h2
      refine wpAny_mono (it.done st2 sd2 X2.sat hW2) (fun ov s3 p3 => ?_) fun _ _ e => e.elim
      obtain ⟨rfl, a3⟩ := p3
      refine wpAny_execs_nil ?_
      exact ⟨rfl, F2, r2.trans (.adv keep2 a3), (X2.adv th2 hW0 a3).lower (hbW (h := s3.heap)) X.k0⟩
end Ev
set_option maxRecDepth 10000
namespace Ev
open PySem PySem.W PySem.Spec PySem.Calls PyProof.Rows PySem.SeqAt
variable {C : Cx} {n : Nat} {sc : Scope} {A : Around} {env : Env} {base : Fz} {low : Fz} {F F' : Fz} {s s' : Shared} {σ : St}
/-! what is own changes -/
theorem Ct.owned {i : Nat} {x : Str} {d : PyData} (X : Ct C n sc A env base low F s σ) (hi : C.names[i]? = some x) (hσ : sget σ i = some (true, d)) : ∃ a, Lk env s.heap x (.ref a) ∧ Ow C.H F s.heap a d ∧ F a = none ∧ low a = none ∧ a ≠ env.locals := X.fs.own i x d hi hσ
theorem Fs.ext_lk {H : PyData → Int} {names : List Str} {h h' : Heap} (S : Fs H names env base low F h σ) {i : Nat} {x : Str} {a : Addr} {d : PyData} (hi : names[i]? = some x) (hσ : sget σ i = some (true, d)) (hl : Lk env h x (.ref a))
    (hs : ∀ b o, b ≠ a → h.get? b = some o → h'.get? b = some o) {y : Str} {u : Value} (l : Lk env h y u) : Lk env h' y u := by
  obtain ⟨a', hl', ho, hFa, hbat, hLa⟩ := S.own i x d hi hσ
  cases hl.uniq hl'
  obtain ⟨m, hm⟩ := S.ns
  have hm' : h'.Ns env.locals m := let ⟨o, es, ep, e, r⟩ := hm; ⟨o, es, ep, hs _ _ (Ne.symm hLa) e, r⟩
  have cellk : ∀ {c v}, h.IsCell c v → h'.IsCell c v := fun {c v} ic => let ⟨o, e, r⟩ := ic; ⟨o, hs c o (fun q => ho.not_cell (q ▸ ic)) e, r⟩
  cases l with
  | loc k n e => exact .loc k hm' (ns_uniq n hm ▸ e)
  | cell k c2 ic => exact .cell k c2 (cellk ic)
  | free k c2 ic => exact .free k c2 (cellk ic)
theorem Ct.change {i : Nat} {x : Str} {a : Addr} {d d' : PyData} {s1 : Shared} (X : Ct C n sc A env base base F s σ) (hi : C.names[i]? = some x) (hσ : sget σ i = some (true, d)) (hl : Lk env s.heap x (.ref a)) (hba : base a = none)
    (hn : Ow C.H F s1.heap a d') (hs : ∀ b o, b ≠ a → s.heap.get? b = some o → s1.heap.get? b = some o) : Ct C n sc A env base base F s1 (σ.set i (some (true, d'))) :=
  X.step X.k0 (fun _ l => X.fs.ext_lk hi hσ hl hs l) (X.fs.setOwnX hi hσ hl hba hn hs)
noncomputable def putD : PyData → PyData → PyData → Option PyData
  | .list ds, .int k, x => if 0 ≤ k ∧ k < ds.length ∧ k < 1048576 then some (.list (ds.set k.toNat x)) else none
  | .dict kvs, k, x => if okKey kvs k && decide (kvs.length ≤ 1048576) then some (.dict (setK kvs k x)) else none
  | _, _, _ => none
theorem setItem_wp {a : Addr} {d k x d' : PyData} {kv v : Value} {Q : Unit → Shared → Prop} {E : Value → Shared → Prop} (hH : ∀ d, C.H d = hashK C.w d) (hu : A.units + 400 < cLine) (hs : Sat F s.heap) (o : Ow C.H F s.heap a d) (rk : R C.H F kv k) (rv : R C.H F v x) (h : putD d k x = some d')
    (hQ : ∀ h' t, Ow C.H F h' a d' → Heap.SameBut a s.heap h' → Q () { s with heap := h', toks := t }) : wpAny (model C.prog C.w) A (setItem (.ref a) kv v) Q E s := by
  unfold putD at h
  split at h
  · rename_i ds k
    split at h
    · rename_i hc
      cases h
      cases o with
      | @list vs m _ ho r =>
        obtain ⟨t, rfl⟩ := rk.toInt
        have hl : s.heap.IsList a vs := ⟨_, ho, rfl, m, rfl⟩
        have hsz := rl_arr r
        unfold setItem
        try with_reducible refine wpAny_holding ?_
        first | refine wpAny_bind (wpAny_pure ?_) | skip
        refine wpAny_bind (wpAny_sequenceKey hl.typeIs (by decide) ?_)
        refine wpAny_bind (wpAny_callSpecial?_slot (name := Str.ofString "__setitem__") hl.typeIs slot_list_setitem
          (wpAny_call_entry slot_list_setitem hl.typeIs entry_list_setitem ?_ (args_list_setitem _ _ _)))
        show wpAny _ _ (Builtin.List.listSubscript? (.int k t) >>= _) _ _ s
        refine wpAny_bind (wpAny_listSubscript_int (fitsIndex_of hc.1 (by omega)) ?_)
        obtain ⟨j, rfl⟩ := Int.eq_ofNat_of_zero_le hc.1
        have hj : j < vs.size := by omega
        have hx' : vs[j]? = some vs[j] := Array.getElem?_eq_getElem hj
        show wpAny _ _ ((seqItemAt a j >>= fun r => pure (r.map (j, ·))) >>= _) _ _ s
        refine wpAny_bind (wpAny_bind (wpAny_seqItemAt ho rfl (wpAny_pure ?_)))
        rw [hx']
        show wpAny _ _ (setSeqItemAt a j v >>= _) _ _ s
        have hfin : Ow C.H F (s.heap.update a (Obj.mapSeq (·.setIfInBounds j v))) a (.list (ds.set j x)) := .list (get?_update_seq ho fun x => x.setIfInBounds j v) (by rw [Array.toList_setIfInBounds]; exact r.set j rv)
        have fin := hQ _ s.toks hfin (Heap.SameBut.update ..)
        refine wpAny_bind (wpAny_setSeqItemAt ho rfl ?_)
        first
          | exact wpAny_bind (wpAny_pure (wpAny_pure ⟨.none, rfl, wpAny_pure fin⟩))
          | exact wpAny_pure ⟨.none, rfl, wpAny_pure fin⟩
    · cases h
  · rename_i kvs k x
    split at h
    · rename_i hc
      cases h
      obtain ⟨h1, h2⟩ := Bool.and_eq_true_iff.mp hc
      have hT : s.TypeIs (.ref a) "dict" := by cases o with | dict _ ho hc' _ _ _ => exact ⟨_, ho, hc'.1⟩
      unfold setItem
      try with_reducible refine wpAny_holding ?_
      refine wpAny_bind (wpAny_sequenceKey hT (by decide) ?_)
      refine wpAny_bind (wpAny_callSpecial?_slot (name := Str.ofString "__setitem__") hT slot_dict_setitem
        (wpAny_call_entry slot_dict_setitem hT entry_dict_setitem ?_ (args_dict_setitem _ _ _)))
      show wpAny _ _ (Builtin.Dict.notOrdered "__setitem__" ⟨[.ref a, kv, v], []⟩ >>= _) _ _ s
      refine wpAny_bind (wpAny_notOrdered_dict hT ?_)
      show wpAny _ _ (dictSet a kv v >>= _) _ _ s
      exact wpAny_bind (dset_wp hH (by show A.units + 1 + 100 < cLine; omega) hs o rk rv h1 (of_decide_eq_true h2) fun h' t o' sb => wpAny_pure ⟨.none, rfl, wpAny_pure (hQ h' t o' sb)⟩)
    · cases h
  · cases h
noncomputable def putC (i : Nat) (fk fv : St → Option PyData) : Sm := fun σ => match fv σ with
  | some x => match sget σ i with
    | some (true, d) => match fk σ with
      | some k => match putD d k x with
        | some d' => some (.next, σ.set i (some (true, d')))
        | none => none
      | none => none
    | _ => none
  | none => none
theorem Ct.load_own {i : Nat} {x : Str} {p : Pos} {d : PyData} {Q : Value → Shared → Prop} {E : Value → Shared → Prop} (X : Ct C n sc A env base low F s σ) (hi : C.names[i]? = some x) (hσ : sget σ i = some (true, d)) (hd : (x == ("__debug__" : Str)) = false := by decide) (hc : (x == ("__classdict__" : Str)) = false := by decide)
    (h : ∀ a, Lk env s.heap x (.ref a) → Ow C.H F s.heap a d → F a = none → low a = none → Q (.ref a) s) : wpAny (model C.prog C.w) A (eval (.Name x p) env) Q E s := by
  obtain ⟨a, l, o, f, b, _⟩ := X.owned hi hσ
  exact wpAny_Name (wp_load X.fs.kind l (h a l o f b) hc) hd
theorem SndS.put {i : Nat} {x : Str} {px tp pos : Pos} {sl e : Expr} {fk fv : St → Option PyData} (hi : C.names[i]? = some x) (hk : Snd C n sc sl fk) (hv : Snd C n sc e fv) (hd : (x == ("__debug__" : Str)) = false := by decide) (hc : (x == ("__classdict__" : Str)) = false := by decide)
    (hs : ∀ env, swapsWith e (some (.Subscript (.Name x px) sl tp)) pos.line env = pure false := by intro _; rfl) : SndS C n sc (.Assign [.Subscript (.Name x px) sl tp] e pos) (putC i fk fv) := fun {A env base F s σ r} X h => by
  unfold putC at h
  cases e1 : fv σ with
  | none => rw [e1] at h; cases h
  | some y =>
    rw [e1] at h
    dsimp only at h
    split at h
    · rename_i d e2
      cases e3 : fk σ with
      | none => rw [e3] at h; cases h
      | some k =>
        rw [e3] at h
        dsimp only at h
        cases e4 : putD d k y with
        | none => rw [e4] at h; cases h
        | some d' =>
          rw [e4] at h; cases h
          refine PySem.wpAny_Assign_Subscript (wp_mono (hv X e1) fun v s1 ⟨F1, g1, r1⟩ => ?_) (hs env)
          have X1 := X.grow g1
          refine X1.load_own hi e2 hd hc fun a l o f b => ?_
          refine wp_mono (hk X1 e3) fun kv s2 ⟨F2, g2, r2⟩ => ?_
          have X2 := X1.grow g2
          obtain ⟨ob, hob⟩ := o.there
          refine setItem_wp X.ok.hH X.room.in1 g2.sat (o.grow g2.sub (g2.keep a)) r2 (r1.mono g2.sub) e4 fun h' t o' sb => ?_
          refine ⟨rfl, F2, ((Rel.grow X g1).trans (.grow X1 g2)).trans (.same ⟨rfl, rfl, rfl⟩), ?_⟩
          exact X2.change (s1 := { s2 with heap := h', toks := t }) hi e2 (l.keeps g2.keep) b o' fun c o'' hc q => (sb.2 c hc).trans q
    · cases h
/-! += -/
noncomputable def addC (i : Nat) (f : St → Option PyData) : Sm := fun σ => match sget σ i with
  | some (false, .int a) => match f σ with
    | some (.int b) => some (.next, σ.set i (some (false, .int (a + b))))
    | _ => none
  | _ => none
theorem SndS.add {i : Nat} {x : Str} {p pos : Pos} {e : Expr} {f : St → Option PyData} (hi : C.names[i]? = some x) (hk : MayS C sc x) (he : Snd C n sc e f) (hc : (x == ("__classdict__" : Str)) = false := by decide) :
    SndS C n sc (.AugAssign (.Name x p) .Add e pos) (addC i f) := fun {A env base F s σ r} X h => by
  unfold addC at h
  split at h
  · rename_i a e1
    split at h
    · rename_i b e2
      cases h
      obtain ⟨v, l, r1⟩ := X.fs.vars i x _ hi e1
      obtain ⟨t, rfl⟩ := r1.toInt
      refine wpAny_AugAssign_Name (wp_load X.fs.kind l (wp_mono (he X e2) fun v s1 ⟨F1, g1, r1⟩ => ?_) hc)
      obtain ⟨u, rfl⟩ := r1.toInt
      have g2 : Grow F1 s1 F1 { s1 with toks := s1.toks + 1 } := .tok g1.sat _
      refine PySem.wpAny_iadd_int ?_
      have X2 := X.grow (g1.trans g2)
      refine wp_store2 (s := { s1 with toks := s1.toks + 1 }) X2.fs hi (MaySt.def X2 hk).2 (.fz (.int _ _)) (fun _ _ e => nomatch e) fun s' hs' S' T => ?_
      exact ⟨rfl, F1, (Rel.grow X (g1.trans g2)).trans (.same hs'), X2.step X2.k0 (fun e => T.fwd (hk.2.ne e)) S'⟩
    · cases h
  · cases h
noncomputable def putAddC (i : Nat) (fk fv : St → Option PyData) : Sm := fun σ => match sget σ i with
  | some (true, d) => match fk σ with
    | some k => match itemD d k with
      | some (.int a) => match fv σ with
        | some (.int b) => match putD d k (.int (a + b)) with
          | some d' => some (.next, σ.set i (some (true, d')))
          | none => none
        | _ => none
      | _ => none
    | none => none
  | _ => none
theorem SndS.putAdd {i : Nat} {x : Str} {px tp pos : Pos} {sl e : Expr} {fk fv : St → Option PyData} (hi : C.names[i]? = some x) (hk : Snd C n sc sl fk) (hv : Snd C n sc e fv) (hd : (x == ("__debug__" : Str)) = false := by decide) (hc : (x == ("__classdict__" : Str)) = false := by decide)
    (ha : ∀ ov iv new, augStore sl ov iv new = (do holding [new, ov, iv] (setItem ov iv new); release [new, ov, iv] []; pure .next) := by intro _ _ _; rfl) : SndS C n sc (.AugAssign (.Subscript (.Name x px) sl tp) .Add e pos) (putAddC i fk fv) := fun {A env base F s σ r} X h => by
  unfold putAddC at h
  split at h
  · rename_i d e2
    cases e3 : fk σ with
    | none => rw [e3] at h; cases h
    | some k =>
      rw [e3] at h
      dsimp only at h
      split at h
      · rename_i p e5
        split at h
        · rename_i q e6
          cases e4 : putD d k (.int (p + q)) with
          | none => rw [e4] at h; cases h
          | some d' =>
            rw [e4] at h; cases h
            refine wpAny_AugAssign_Subscript_any (X.load_own hi e2 hd hc fun a l o f b => wp_mono (hk X e3) fun kv s1 ⟨F1, g1, r1⟩ => ?_) ha
            have X1 := X.grow g1
            obtain ⟨T, id, hT, hl, hw⟩ := getItem_wp (A := A) X.ok.hH X.room.in1 g1.sat (.ow (o.grow g1.sub (g1.keep a))) r1 e5
            refine wp_mono hw fun old s2 ⟨t2, es2, r2⟩ => ?_
            subst es2
            have g2 : Grow F s F1 { s1 with toks := t2 } := g1.trans (.tok g1.sat t2)
            have X2 := X.grow g2
            refine wp_mono (hv X2 e6) fun v s3 ⟨F3, g3, r3⟩ => ?_
            obtain ⟨t, rfl⟩ := r2.toInt
            obtain ⟨u, rfl⟩ := r3.toInt
            refine PySem.wpAny_iadd_int ?_
            have g4 : Grow F3 s3 F3 { s3 with toks := s3.toks + 1 } := .tok g3.sat _
            have g := g2.trans (g3.trans g4)
            refine setItem_wp (s := { s3 with toks := s3.toks + 1 }) X.ok.hH X.room.in1 g4.sat (o.grow g.sub (g.keep a)) ((r1.mono g3.sub).mono g4.sub) (.int _ _) e4 fun h' t' o' sb => ?_
            refine ⟨rfl, F3, (Rel.grow X g).trans (.same ⟨rfl, rfl, rfl⟩), ?_⟩
            exact (X.grow g).change (s1 := { s3 with heap := h', toks := t' }) hi e2 (l.keeps g.keep) b o' fun c o'' hc' q' => (sb.2 c hc').trans q'
        · cases h
      · cases h
  · cases h
/-! append -/
noncomputable def appC (i : Nat) (f : St → Option PyData) : Sm := fun σ => match sget σ i with
  | some (true, .list ds) => match f σ with
    | some x => if ds.length ≤ 1048576 then some (.next, σ.set i (some (true, .list (ds ++ [x])))) else none
    | none => none
  | _ => none
theorem append_ow {a : Addr} {ds : List PyData} {x : PyData} {v : Value} {Q : Value → Shared → Prop} {E : Value → Shared → Prop} (o : Ow C.H F s.heap a (.list ds)) (r : R C.H F v x) (hz : ds.length ≤ 1048576)
    (hQ : ∀ h', Ow C.H F h' a (.list (ds ++ [x])) → Heap.SameBut a s.heap h' → Q .none { s with heap := h' }) : wpAny (model C.prog C.w) A (call (.builtin "list.append") [.ref a, v]) Q E s := by
  cases o with
  | @list vs m _ ho rl =>
    refine wpAny_list_append_plain (items := vs) ⟨m, ho⟩ (fun h' hp sb => ?_) (by rw [rl_arr rl, sizeLine_eq]; omega)
    obtain ⟨m', hm'⟩ := hp
    exact hQ h' (.list hm' (by rw [Array.toList_push]; exact rl.append (.one r))) sb
theorem SndS.append {i : Nat} {x : Str} {px apos cpos pos : Pos} {e : Expr} {f : St → Option PyData} (hi : C.names[i]? = some x) (he : Snd C n sc e f) (hst : ∀ env, starEach [e] env = [(false, eval e env)] := by intro _; rfl) (hd : (x == ("__debug__" : Str)) = false := by decide) (hc : (x == ("__classdict__" : Str)) = false := by decide)
    (hbase : ∀ env, attributeBase (.Name x px) "append" env (eval (.Name x px) env) = eval (.Name x px) env := by intro _; rfl) (hline : (apos.endLine == cpos.line) = true := by rfl) (hin : ∀ env, env.scope.kind = .function → interactive env = false := by intro env h; simp [interactive, h]) :
    SndS C n sc (.Expr (.Call (.Attribute (.Name x px) "append" apos) [e] [] cpos) pos) (appC i f) := fun {A env base F s σ r} X h => by
  unfold appC at h
  split at h
  · rename_i ds e1
    cases e2 : f σ with
    | none => rw [e2] at h; cases h
    | some y =>
      rw [e2] at h
      dsimp only at h
      split at h
      · rename_i hz
        cases h
        refine PySem.wpAny_Expr (wpAny_Call_method (T := "list") (id := "list.append") (hbase env) (by rw [hst]; rfl) hline PySem.F.plainAttrs_list slot_list_append type_list_append (X.load_own hi e1 hd hc fun a l o f b => ?_)) (hin env X.fs.kind) rfl
        have hob : ∃ vs m, s.heap.get? a = some (seqObj "list" vs m) := by cases o with | list ho _ => exact ⟨_, _, ho⟩
        obtain ⟨vs, m, hob⟩ := hob
        refine ⟨⟨_, hob, rfl⟩, fun c e => by cases e; exact ⟨_, hob, rfl⟩, ?_⟩
        refine PyProof.Rows.callWith_method1 (args_cons (wp_mono (he X e2) fun v s1 ⟨F1, g1, r1⟩ => args_nil ?_) (by rw [hst]; rfl)) (by rw [hst]; rfl)
        refine append_ow (o.grow g1.sub (g1.keep a)) r1 hz fun h' o' sb => ?_
        refine ⟨rfl, F1, (Rel.grow X g1).trans (.same ⟨rfl, rfl, rfl⟩), ?_⟩
        exact (X.grow g1).change (s1 := { s1 with heap := h' }) hi e1 (l.keeps g1.keep) b o' fun c o'' hc' q => (sb.2 c hc').trans q
      · cases h
  · cases h
theorem Obj.isFreed_of_dict {o : Obj} {es n} (h : o.data = .dict es n) : o.isFreed = false := by
  obtain ⟨c1, c2, c3, c4⟩ := o
  dsimp only at h
  subst h
  rfl
/-! a def that changes its first argument: its contract, and the call of it as a statement -/
noncomputable def FnIns (C : Cx) (n : Nat) (fa : Addr) (g : PyData → PyData → Option PyData) : Prop :=
  ∀ {A F s a v d x d'}, Room n A → (∀ b o, C.h₀.get? b = some o → b ≠ a → s.heap.get? b = some o) → (C.h₀.get? a = none) → Sat F s.heap → F a = none → Ow C.H F s.heap a d → R C.H F v x → g d x = some d' →
    Wp C A (call (.ref fa) [.ref a, v]) (fun r s' => r = .none ∧ ∃ F', Sub F F' ∧ (∀ b o, F' b = some o → F b = some o ∨ s.heap.get? b = none) ∧ Sat F' s'.heap ∧ Ow C.H F' s'.heap a d' ∧ (∀ b o, b ≠ a → s.heap.get? b = some o → s'.heap.get? b = some o) ∧ Same s s') s
noncomputable def insC (g : PyData → PyData → Option PyData) (i : Nat) (f : St → Option PyData) : Sm := fun σ => match sget σ i with
  | some (true, d) => match f σ with
    | some x => match g d x with
      | some d' => some (.next, σ.set i (some (true, d')))
      | none => none
    | none => none
  | _ => none
theorem SndS.ins {i : Nat} {x y : Str} {fa : Addr} {g : PyData → PyData → Option PyData} {py px cpos pos : Pos} {e : Expr} {f : St → Option PyData} {m : Nat} (hg : C.Gl y (.ref fa)) (hky : sc.names.lookup y = some .globalImplicit) (hx : FnAtX C fa) (hf : FnIns C m fa g) (hm : m ≤ n)
    (hi : C.names[i]? = some x) (he : Snd C n sc e f) (hst : ∀ env, starEach [.Name x px, e] env = [(false, eval (.Name x px) env), (false, eval e env)] := by intro _; rfl) (hdy : (y == ("__debug__" : Str)) = false := by decide) (hd : (x == ("__debug__" : Str)) = false := by decide) (hc : (x == ("__classdict__" : Str)) = false := by decide)
    (hin : ∀ env, env.scope.kind = .function → interactive env = false := by intro env h; simp [interactive, h]) :
    SndS C n sc (.Expr (.Call (.Name y py) [.Name x px, e] [] cpos) pos) (insC g i f) := fun {A env base F s σ r} X h => by
  unfold insC at h
  split at h
  · rename_i d e1
    cases e2 : f σ with
    | none => rw [e2] at h; cases h
    | some z =>
      rw [e2] at h
      dsimp only at h
      cases e3 : g d z with
      | none => rw [e3] at h; cases h
      | some d' =>
        rw [e3] at h; cases h
        obtain ⟨o, fd, ho, hdat⟩ := hx.fn
        refine PySem.wpAny_Expr (Call_ (wp_global X hg hky (callWith_def hdat ?_ rfl) hdy)) (hin env X.fs.kind) rfl
        rw [hst]
        refine spliced_cons (X.load_own hi e1 hd hc fun a l ow fa' b => ?_)
        refine spliced_cons (wp_mono (he X e2) fun v s1 ⟨F1, g1, r1⟩ => spliced_nil ⟨g1.keep _ _ (X.keep0 _ _ ho), ?_⟩)
        have X1 := X.grow g1
        obtain ⟨ob, hob⟩ := ow.there
        have h0a : C.h₀.get? a = none := by
          cases q : C.h₀.get? a with
          | none => rfl
          | some o' => have := X.k0 a o' q; rw [b] at this; cases this
        have hob1 := g1.keep _ _ hob
        have off1 := g1.off fa' hob
        have frd : ob.isFreed = false := by
          cases ow with
          | list h1 _ => rw [hob] at h1; cases h1; rfl
          | dict _ h1 _ h3 _ _ => rw [hob] at h1; cases h1; exact Ev.Obj.isFreed_of_dict h3
        refine wp_mono (hf (X.room.le hm) (fun c o' q _ => g1.keep _ _ (X.keep0 c o' q)) h0a g1.sat off1 (ow.grow g1.sub (g1.keep a)) r1 e3) fun r2 s2 ⟨er, F2, sub2, fr2, sat2, ow2, k2, same2⟩ => ?_
        subst er
        obtain ⟨ob2, hob2⟩ := ow2.there
        have hup : (s2.heap.update a fun _ => ob).get? a = some ob := Heap.get?_update_self _ hob2 frd
        have hsb : Heap.SameBut a s2.heap (s2.heap.update a fun _ => ob) := Heap.SameBut.update ..
        have off2 : F2 a = none := by
          cases q : F2 a with
          | none => rfl
          | some o' =>
            rcases fr2 a o' q with e | e
            · rw [off1] at e; cases e
            · rw [hob1] at e; cases e
        have G : Grow F1 s1 F2 { s2 with heap := s2.heap.update a fun _ => ob } := ⟨fun c o' q => by
          by_cases e : c = a
          · subst e; rw [hob1] at q; cases q; exact hup
          · exact (hsb.2 c e).trans (k2 c o' e q), sub2, fr2, fun c o' q => (hsb.2 c (fun e => by subst e; rw [off2] at q; cases q)).trans (sat2 c o' q), same2.gens, same2.drawn, same2.os⟩
        refine ⟨rfl, F2, (Rel.grow X (g1.trans G)).trans ⟨Sub.refl F2, fun _ _ e => .inl e, ⟨rfl, rfl, rfl⟩⟩, ?_⟩
        exact (X1.grow G).change (s1 := s2) hi e1 ((l.keeps g1.keep).keeps G.keep) b ow2 fun c o' e q => (hsb.2 c e).symm.trans q
  · cases h
end Ev
set_option maxRecDepth 10000
namespace Ev
open PySem PySem.W PySem.Spec PySem.Calls PyProof.Rows PySem.SeqAt
variable {C : Cx} {n : Nat} {sc : Scope} {A : Around} {env : Env} {base : Fz} {low : Fz} {F F' : Fz} {s s' : Shared} {σ : St}
/-! for over an own list, that the turns may lengthen -/
end Ev
set_option maxRecDepth 10000
namespace Ev
open PySem PySem.W PySem.Spec PySem.Calls PyProof.Rows PySem.SeqAt
variable {C : Cx} {n : Nat} {sc : Scope} {A : Around} {env : Env} {base : Fz} {low : Fz} {F F' : Fz} {s s' : Shared} {σ : St}
/-! the scope of a comprehension -/
noncomputable def relS (scope : Scope) : Scope := { scope with names := scope.names.map fun x => if x.2 == .free then (x.1, .cell) else x }
structure CompOk (C : Cx) (sc scope : Scope) (names : List Str) (nt : Nat) (caps : List Nat) : Prop where
  kind : scope.kind = .function
  nodup : names.Nodup
  once : (scope.names.map (·.1)).Nodup
  free : ∀ x ∈ scope.names, x.2 = .free → sc.names.lookup x.1 = some .cell ∧ x.1 ∈ C.names.map id
  cap : (caps.map fun i => C.names[i]?) = (names.drop nt).map some
  capf : ∀ y ∈ names.drop nt, scope.names.lookup y = some .free
theorem lookup_mem {α : Type} {l : List (Str × α)} (hn : (l.map (·.1)).Nodup) {x : Str × α} (h : x ∈ l) : l.lookup x.1 = some x.2 := by
  induction l with
  | nil => cases h
  | cons y r ih =>
    rw [List.map_cons, List.nodup_cons] at hn
    rw [List.lookup_cons]
    rcases List.mem_cons.mp h with rfl | h'
    · simp
    · have : (x.1 == y.1) = false := by
        rw [beq_eq_false_iff_ne]
        intro e
        exact hn.1 (e ▸ List.mem_map_of_mem h')
      rw [this]; exact ih hn.2 h'
theorem relabel_eq {scope : Scope} (hk : env.scope.kind = .function) (hf : ∀ x ∈ scope.names, x.2 = .free → env.kindOf x.1 = some .cell) : relabel scope env = relS scope := by
  unfold relabel relS
  congr 1
  refine List.map_congr_left fun x hx => ?_
  obtain ⟨y, k⟩ := x
  dsimp only
  cases e : k == NameKind.free with
  | false => simp
  | true =>
    have := hf _ hx (by simpa using e)
    dsimp only at this
    simp [hk, this]
theorem lookup_mapv {g : NameKind → NameKind} (y : Str) : ∀ l : List (Str × NameKind), (l.map fun x => (x.1, g x.2)).lookup y = (l.lookup y).map g
  | [] => rfl
  | (z, k) :: r => by
    rw [List.map_cons]
    cases hz : y == z with
    | true => simp only [List.lookup_cons, hz]; rfl
    | false => simp only [List.lookup_cons, hz]; exact lookup_mapv y r
noncomputable def frK (k : NameKind) : NameKind := if k == .free then .cell else k
theorem relS_lookup (scope : Scope) (y : Str) : (relS scope).names.lookup y = (scope.names.lookup y).map frK := by
  rw [← lookup_mapv]
  unfold relS
  dsimp only
  congr 1
  refine List.map_congr_left fun x _ => ?_
  unfold frK
  obtain ⟨z, k⟩ := x
  dsimp only
  cases k == NameKind.free <;> rfl
/-! the closure -/
noncomputable def clF (cells : List (Str × Addr)) : List (Str × NameKind) → List (Str × Addr) → List (Str × Addr)
  | [], acc => acc
  | (y, k) :: r, acc => if k == .free then clF cells r ((y, (cells.lookup y).getD 0) :: acc) else clF cells r acc
theorem closure_go (f : Str × NameKind → List (Str × Addr) → Sem (ForInStep (List (Str × Addr)))) (hf : ∀ y k cs, f (y, k) cs = if k == .free then (do let a ← cellOf env y; pure (.yield ((y, a) :: cs))) else pure (.yield cs)) :
    ∀ (l : List (Str × NameKind)) (acc : List (Str × Addr)), (∀ x ∈ l, x.2 = .free → (env.cells.lookup x.1).isSome = true) → forIn l acc f = pure (clF env.cells l acc)
  | [], acc, _ => by rw [List.forIn_nil]; rfl
  | (y, k) :: r, acc, hl => by
    rw [List.forIn_cons, hf]
    unfold clF
    cases e : k == NameKind.free with
    | false => simp only [Bool.false_eq_true, if_false]; exact closure_go f hf r acc fun z hz => hl z (List.mem_cons_of_mem _ hz)
    | true =>
      simp only [if_true]
      have := hl _ List.mem_cons_self (by simpa using e)
      obtain ⟨c, hc⟩ := Option.isSome_iff_exists.mp this
      dsimp only at hc
      unfold cellOf
      rw [hc]
      simp only [Option.getD_some]
      exact closure_go f hf r _ fun z hz => hl z (List.mem_cons_of_mem _ hz)
theorem closure_eq {scope : Scope} (h : ∀ x ∈ scope.names, x.2 = .free → (env.cells.lookup x.1).isSome = true) : closureFor scope env = pure (clF env.cells scope.names []) := by
  unfold closureFor
  dsimp only
  rw [closure_go _ (fun y k cs => rfl) scope.names [] h]
  rfl
theorem clF_lookup {cells : List (Str × Addr)} {y : Str} {c : Addr} (hc : cells.lookup y = some c) : ∀ {l : List (Str × NameKind)} {acc : List (Str × Addr)}, ((y, NameKind.free) ∈ l ∨ acc.lookup y = some c) → (clF cells l acc).lookup y = some c
  | [], acc, h => by
    rcases h with h | h
    · cases h
    · exact h
  | (z, k) :: r, acc, h => by
    unfold clF
    split
    · rename_i e
      by_cases hz : y = z
      · subst hz
        exact clF_lookup hc (.inr (by simp [hc]))
      · refine clF_lookup hc ?_
        rcases h with h | h
        · rcases List.mem_cons.mp h with e' | h
          · cases e'; exact absurd rfl hz
          · exact .inl h
        · right
          rw [List.lookup_cons, show (y == z) = false by simpa using hz]; exact h
    · rename_i e
      refine clF_lookup hc ?_
      rcases h with h | h
      · rcases List.mem_cons.mp h with e' | h
        · cases e'; exact absurd rfl e
        · exact .inl h
      · exact .inr h
theorem cellsFrom_app : ∀ (l : List (Str × NameKind)) (k : Nat) (acc : List (Str × Addr)), cellsFrom k l acc = cellsFrom k l [] ++ acc
  | [], _, _ => rfl
  | (z, kd) :: r, k, acc => by
    unfold cellsFrom
    split
    · rw [cellsFrom_app r (k + 1) ((z, k) :: acc), cellsFrom_app r (k + 1) [(z, k)]]; simp
    · exact cellsFrom_app r k acc
theorem cellsFrom_mem : ∀ {l : List (Str × NameKind)} {k : Nat} {y : Str} {c : Addr}, (y, c) ∈ cellsFrom k l [] → (y, NameKind.cell) ∈ l
  | [], _, _, _, h => by cases h
  | (z, kd) :: r, k, y, c, h => by
    unfold cellsFrom at h
    split at h
    · rename_i e
      rw [cellsFrom_app] at h
      rcases List.mem_append.mp h with h | h
      · exact List.mem_cons_of_mem _ (cellsFrom_mem h)
      · simp only [List.mem_singleton] at h
        cases h
        have : kd = .cell := by simpa using e
        subst this; exact List.mem_cons_self
    · exact List.mem_cons_of_mem _ (cellsFrom_mem h)
theorem cellsFrom_has : ∀ {l : List (Str × NameKind)} {k : Nat} {y : Str}, (y, NameKind.cell) ∈ l → ∃ c, (y, c) ∈ cellsFrom k l []
  | (z, kd) :: r, k, y, h => by
    unfold cellsFrom
    rcases List.mem_cons.mp h with e | h
    · cases e
      rw [if_pos (by rfl), cellsFrom_app]
      exact ⟨k, List.mem_append_right _ (by simp)⟩
    · split
      · rw [cellsFrom_app]
        obtain ⟨c, hc⟩ := cellsFrom_has (k := k + 1) h
        exact ⟨c, List.mem_append_left _ hc⟩
      · exact cellsFrom_has h
noncomputable def compEnvX (scope : Scope) (L : Addr) (env : Env) : Env :=
  { newEnv scope L env.globals (cellsFrom (L + 1) scope.names (clF env.cells scope.names [])) env.qual none .none (some env) env.builtins with scope := relS scope }
theorem newEnv_around {scope : Scope} {cl : List (Str × Addr)} {qual : Str} {g : Addr} {Q : Env → Shared → Prop} {M : Model} {E : Value → Shared → Prop}
    (h : Q (newEnv scope s.heap.objs.size g cl' qual none .none (some env) builtinsNs) { s with heap := pushCells (s.heap.push { cls := .type "dict", data := .dict #[] }) scope.names })
    (he : cl' = cellsFrom (s.heap.objs.size + 1) scope.names cl) : wpAny M A (newFunctionEnv scope g cl [] qual none .none (some env)) Q E s := by
  subst he
  simp only [newFunctionEnv, Option.isSome_some, if_true]
  refine wpAny_bind (wpAny_alloc ?_)
  refine wpAny_bind (wpAny_layCells _ (fun name kind cells => by cases hkc : kind == NameKind.cell <;> simp [hkc]) _ _ _ _ ?_)
  rw [show ({ s with heap := s.heap.push { cls := .type "dict", data := .dict #[] } } : Shared).heap.objs.size = s.heap.objs.size + 1 from Heap.size_push ..]
  refine wpAny_bind ?_
  rw [List.forIn_nil]
  exact wpAny_pure (wpAny_pure h)
/-! the frame of a comprehension -/
noncomputable def Cx.comp (C : Cx) (names : List Str) : Cx := { C with names := names, pin := none }
noncomputable def capC (nt : Nat) (caps : List Nat) (σ : St) : St := List.replicate nt none ++ caps.map (sget σ)
theorem sget_cap {nt : Nat} {caps : List Nat} {i : Nat} {p : Bool × PyData} (h : sget (capC nt caps σ) i = some p) : ∃ j i', i = nt + j ∧ caps[j]? = some i' ∧ sget σ i' = some p := by
  unfold sget capC at h
  by_cases hi : i < nt
  · rw [List.getElem?_append_left (by simpa using hi), List.getElem?_replicate, if_pos hi] at h; cases h
  · rw [List.getElem?_append_right (by simpa using hi), List.length_replicate, List.getElem?_map] at h
    refine ⟨i - nt, ?_⟩
    cases e : caps[i - nt]? with
    | none => rw [e] at h; cases h
    | some i' => rw [e] at h; exact ⟨i', by omega, rfl, h⟩
theorem lookup_app_some {l r : List (Str × Addr)} {y : Str} {c : Addr} (h : l.lookup y = some c) : (l ++ r).lookup y = some c := by rw [List.lookup_append, h]; rfl
theorem lookup_app_none {l r : List (Str × Addr)} {y : Str} (h : l.lookup y = none) : (l ++ r).lookup y = r.lookup y := by rw [List.lookup_append, h]; rfl
theorem lookup_of_mem : ∀ {l : List (Str × Addr)} {y : Str} {c : Addr}, (y, c) ∈ l → ∃ c', l.lookup y = some c'
  | (z, d) :: r, y, c, h => by
    rw [List.lookup_cons]
    cases e : y == z with
    | true => exact ⟨d, rfl⟩
    | false =>
      rcases List.mem_cons.mp h with q | q
      · cases q; simp at e
      · exact lookup_of_mem q
theorem comp_ct {F0 : Fz} {scope : Scope} {names : List Str} {nt : Nat} {caps : List Nat} {s3 : Shared} (X0 : Ct C n sc A env base low F0 s σ) (g : Grow F0 s F s3) (K : CompOk C sc scope names nt caps) :
    Ct (C.comp names) n (relS scope) A (compEnvX scope s3.heap.objs.size env) (fun a => s.heap.get? a) low F { s3 with heap := pushCells (s3.heap.push { cls := .type "dict", data := .dict #[] }) scope.names } (capC nt caps σ) ∧
    (∀ x c, (compEnvX scope s3.heap.objs.size env).kindOf x = some .cell → (compEnvX scope s3.heap.objs.size env).cells.lookup x = some c → s3.heap.get? c = none ∨ s.heap.get? c ≠ none) ∧
    (∀ x c, scope.names.lookup x = some .cell → (compEnvX scope s3.heap.objs.size env).cells.lookup x = some c → s3.heap.get? c = none) ∧
    (∀ i x d a, names[i]? = some x → sget (capC nt caps σ) i = some (true, d) → Lk (compEnvX scope s3.heap.objs.size env) (pushCells (s3.heap.push { cls := .type "dict", data := .dict #[] }) scope.names) x (.ref a) → s.heap.get? a ≠ none) := by
  have X := X0.grow g
  have S := X.fs
  have keep : ∀ b o, s3.heap.get? b = some o → (pushCells (s3.heap.push { cls := .type "dict", data := .dict #[] }) scope.names).get? b = some o := fun b o e => pushCells_keeps _ _ b o (Heap.get?_push_of_some _ e)
  have ok := cellsFrom_ok scope.names (s3.heap.push { cls := .type "dict", data := .dict #[] }) (s3.heap.objs.size + 1) [] ⟨fun _ _ hm => (nomatch hm), List.Pairwise.nil⟩ (by rw [Heap.size_push]; exact Nat.le_refl _)
  rw [Heap.size_push] at ok
  have hcs : (compEnvX scope s3.heap.objs.size env).cells = cellsFrom (s3.heap.objs.size + 1) scope.names [] ++ clF env.cells scope.names [] := cellsFrom_app ..
  have none3 : ∀ {a}, s3.heap.objs.size ≤ a → s3.heap.get? a = none := fun {a} h => by
    cases q : s3.heap.get? a with
    | none => rfl
    | some o => exact absurd (Heap.lt_size q) (Nat.not_lt.mpr h)
  have own0 : ∀ {y}, scope.names.lookup y = some .free → (cellsFrom (s3.heap.objs.size + 1) scope.names []).lookup y = none := fun {y} h => by
    cases q : (cellsFrom (s3.heap.objs.size + 1) scope.names []).lookup y with
    | none => rfl
    | some c =>
      have := lookup_mem K.once (cellsFrom_mem (mem_of_lookup q))
      dsimp only at this
      rw [h] at this; cases this
  have frC : ∀ {y}, scope.names.lookup y = some .free → env.kindOf y = some .cell := fun {y} h => (X.kindOf y).trans (K.free _ (mem_of_lookup h) rfl).1
  have frL : ∀ {y c}, scope.names.lookup y = some .free → env.cells.lookup y = some c → (compEnvX scope s3.heap.objs.size env).cells.lookup y = some c := fun {y c} h hc => by
    rw [hcs, lookup_app_none (own0 h)]
    exact clF_lookup hc (.inl (mem_of_lookup h))
  have kd : ∀ {y}, (compEnvX scope s3.heap.objs.size env).kindOf y = (scope.names.lookup y).map frK := fun {y} => relS_lookup scope y
  have cellO : ∀ {y}, (compEnvX scope s3.heap.objs.size env).kindOf y = some .cell → (∃ c, (cellsFrom (s3.heap.objs.size + 1) scope.names []).lookup y = some c) ∨ scope.names.lookup y = some .free := fun {y} h => by
    rw [kd] at h
    cases e : scope.names.lookup y with
    | none => rw [e] at h; cases h
    | some k =>
      rw [e] at h
      by_cases q : k = .free
      · subst q; exact .inr rfl
      · left
        have : k = .cell := by
          have h' : frK k = .cell := Option.some.inj h
          unfold frK at h'
          rwa [if_neg (by simpa using q)] at h'
        subst this
        obtain ⟨c, hc⟩ := cellsFrom_has (k := s3.heap.objs.size + 1) (mem_of_lookup e)
        exact lookup_of_mem hc
  have lkF : ∀ {y v}, scope.names.lookup y = some .free → Lk env s3.heap y v → Lk (compEnvX scope s3.heap.objs.size env) (pushCells (s3.heap.push { cls := .type "dict", data := .dict #[] }) scope.names) y v := fun {y v} h l => by
    cases l with
    | loc k => rw [frC h] at k; cases k
    | cell k c i => exact .cell (by rw [kd, h]; rfl) (frL h c) (i.keeps keep)
    | free k => rw [frC h] at k; cases k
  have lkB : ∀ {y v}, scope.names.lookup y = some .free → Lk (compEnvX scope s3.heap.objs.size env) (pushCells (s3.heap.push { cls := .type "dict", data := .dict #[] }) scope.names) y v → Lk env s3.heap y v := fun {y v} h l => by
    have hk : (compEnvX scope s3.heap.objs.size env).kindOf y = some .cell := by rw [kd, h]; rfl
    cases l with
    | loc k => rw [hk] at k; cases k
    | cell k c i =>
      obtain ⟨c', u, h1, h2, _⟩ := S.cell y (frC h)
      rw [frL h h1] at c; cases c
      have := cell_uniq i (h2.keeps keep)
      subst this
      exact .cell (frC h) h1 h2
    | free k => rw [hk] at k; cases k
  have capN : ∀ {i x p}, names[i]? = some x → sget (capC nt caps σ) i = some p → ∃ i', C.names[i']? = some x ∧ sget σ i' = some p ∧ scope.names.lookup x = some .free := fun {i x p} hi h => by
    obtain ⟨j, i', rfl, hj, hs⟩ := sget_cap h
    have e1 : (names.drop nt)[j]? = some x := by rw [List.getElem?_drop]; exact hi
    refine ⟨i', ?_, hs, K.capf x (List.mem_of_getElem? e1)⟩
    have := congrArg (·[j]?) K.cap
    simp only [List.getElem?_map, hj, e1, Option.map_some] at this
    exact Option.some.inj this
  have ownC : ∀ {x c}, scope.names.lookup x = some .cell → (compEnvX scope s3.heap.objs.size env).cells.lookup x = some c → s3.heap.get? c = none := fun {x c} h hc => by
    obtain ⟨c', hm⟩ := cellsFrom_has (k := s3.heap.objs.size + 1) (mem_of_lookup h)
    obtain ⟨c2, h2⟩ := lookup_of_mem hm
    rw [hcs, lookup_app_some h2] at hc; cases hc
    exact none3 (Nat.le_of_succ_le (ok.empty x _ (mem_of_lookup h2)).2)
  refine ⟨?_, fun x c hx hc => ?_, fun x c => ownC, fun i x d a hi hd l => ?_⟩
  rotate_left
  · rcases cellO hx with ⟨c1, h1⟩ | hf
    · rw [hcs, lookup_app_some h1] at hc; cases hc
      exact .inl (none3 (Nat.le_of_succ_le (ok.empty x _ (mem_of_lookup h1)).2))
    · obtain ⟨c', v, h1, ⟨o, h2, _⟩, _⟩ := X0.fs.cell x (frC hf)
      rw [frL hf h1] at hc; cases hc
      right; rw [h2]; simp
  · obtain ⟨i', h1, h2, h3⟩ := capN hi hd
    obtain ⟨a', l', o, _⟩ := X0.fs.own i' x d h1 h2
    cases (lkB h3 l).uniq (l'.keeps g.keep)
    obtain ⟨o', ho'⟩ := o.there
    rw [ho']; simp
  refine ⟨⟨X.ok.g, X.ok.b, X.ok.lim, X.ok.hH⟩, X.room, rfl, fun b o e => X0.keep0 b o e, ?_, fun x a e => nomatch e⟩
  exact {
    kind := K.kind, glob := S.glob, blt := S.blt, nodup := K.nodup
    keep := fun b o e => keep b o (g.keep b o e)
    keepL := fun b o e => keep b o (S.keepL b o e)
    sat := fun a o e => keep a o (g.sat a o e)
    ns := ⟨_, (Heap.Ns.new s3.heap (.type "dict")).keeps (pushCells_keeps _ _)⟩
    LF := sat_fresh g.sat (get_size _)
    Lb := g.fresh_back (get_size _)
    Ll := (X.low_none (get_size _)).2.1
    cell := fun x hx => by
      rcases cellO hx with ⟨c, hc⟩ | hf
      · have q := ok.empty x c (mem_of_lookup hc)
        have n3 : s3.heap.get? c = none := none3 (by omega)
        exact ⟨c, none, by rw [hcs]; exact lookup_app_some hc, q.1, sat_fresh g.sat n3, (X.low_none n3).2.1⟩
      · obtain ⟨c, v, h1, h2, h3, h4⟩ := S.cell x (frC hf)
        exact ⟨c, v, frL hf h1, h2.keeps keep, h3, h4⟩
    cinj := fun x y c hx hy hcx hcy => by
      have sep : ∀ {x y : Str} {c1 c2}, (cellsFrom (s3.heap.objs.size + 1) scope.names []).lookup x = some c1 → (compEnvX scope s3.heap.objs.size env).cells.lookup x = some c → scope.names.lookup y = some .free → (compEnvX scope s3.heap.objs.size env).cells.lookup y = some c → c1 = c2 → False := fun {x y c1 c2} h1 h2 h3 h4 _ => by
        rw [hcs, lookup_app_some h1] at h2; cases h2
        have q := (ok.empty x _ (mem_of_lookup h1)).2
        obtain ⟨c', v, e1, ⟨o, e2, _⟩, _⟩ := S.cell y (frC h3)
        rw [frL h3 e1] at h4; cases h4
        exact absurd (Heap.lt_size e2) (Nat.not_lt.mpr (Nat.le_of_succ_le q))
      rcases cellO hx with ⟨c1, h1⟩ | h1 <;> rcases cellO hy with ⟨c2, h2⟩ | h2
      · have e1 := lookup_app_some (r := clF env.cells scope.names []) h1
        have e2 := lookup_app_some (r := clF env.cells scope.names []) h2
        rw [hcs] at hcx hcy
        rw [hcx] at e1; cases e1
        rw [hcy] at e2; cases e2
        exact name_of_addr ok.apart (mem_of_lookup h1) (mem_of_lookup h2)
      · exact (sep h1 hcx h2 hcy rfl).elim
      · exact (sep h2 hcy h1 hcx rfl).elim
      · obtain ⟨c1, v1, e1, _⟩ := S.cell x (frC h1)
        obtain ⟨c2, v2, e2, _⟩ := S.cell y (frC h2)
        have f1 := frL h1 e1
        have f2 := frL h2 e2
        rw [hcx] at f1; cases f1
        rw [hcy] at f2; cases f2
        exact S.cinj x y _ (frC h1) (frC h2) e1 e2
    free := fun x c hx _ => by
      rw [kd] at hx
      cases e : scope.names.lookup x with
      | none => rw [e] at hx; cases hx
      | some k =>
        rw [e] at hx
        have hx' : frK k = .free := Option.some.inj hx
        unfold frK at hx'
        split at hx'
        · cases hx'
        · rename_i q; exact absurd (by simp [hx']) q
    vars := fun i x d hi hd => by
      obtain ⟨i', h1, h2, h3⟩ := capN hi hd
      obtain ⟨v, l, r⟩ := S.vars i' x d h1 h2
      exact ⟨v, lkF h3 l, r⟩
    own := fun i x d hi hd => by
      obtain ⟨i', h1, h2, h3⟩ := capN hi hd
      obtain ⟨a, l, o, f1, f2, f3⟩ := S.own i' x d h1 h2
      refine ⟨a, lkF h3 l, o.grow (Sub.refl F) (fun o' e => keep a o' e), f1, f2, ?_⟩
      intro (e : a = s3.heap.objs.size)
      obtain ⟨o', ho'⟩ := o.there
      rw [e, get_size] at ho'; cases ho'
    oinj := fun i j x y d e a hi hj hd he lx ly => by
      obtain ⟨i', h1, h2, h3⟩ := capN hi hd
      obtain ⟨j', k1, k2, k3⟩ := capN hj he
      have := S.oinj i' j' x y d e a h1 k1 h2 k2 (lkB h3 lx) (lkB k3 ly)
      subst this
      rw [h1] at k1; cases k1
      obtain ⟨hi1, hi2⟩ := List.getElem?_eq_some_iff.mp hi
      obtain ⟨hj1, hj2⟩ := List.getElem?_eq_some_iff.mp hj
      exact (List.getElem_inj K.nodup).mp (hi2.trans hj2.symm) }
end Ev
set_option maxRecDepth 10000
namespace Ev
open PySem PySem.W PySem.Spec PySem.Calls PyProof.Rows PySem.SeqAt
variable {C : Cx} {n : Nat} {sc : Scope} {A : Around} {env : Env} {base : Fz} {low : Fz} {F F' : Fz} {s s' : Shared} {σ : St}
noncomputable def InW (M : Model) (A : Around) (E : Value → Shared → Prop) (elt : Expr) (gens : List Comprehension) (scope : Scope) (pos : Pos) (depth : Nat) (acc : Value) (env : Env) (K : Shared → Prop) (s : Shared) : Prop :=
  match gens[depth + 1]? with
  | some g' => g'.is_async = 0 ∧ wpAny M A (eval g'.iter env) (fun x s1 => foldedSetIterable g'.iter env x = pure x ∧ wpAny M A (pyIter x) (fun it s2 => wpAny M A (runOwn (.compStart (.ListComp elt gens scope pos) (depth + 1) it acc env) env) (fun _ s3 => K s3) E s2) E s1) E s
  | none => wpAny M A (eval elt env) (fun x s1 => wpAny M A (call (.builtin "list.append") [acc, x]) (fun _ s2 => K s2) E s1) E s
theorem turn_wp {M : Model} {E : Value → Shared → Prop} {elt : Expr} {gens : List Comprehension} {scope : Scope} {pos : Pos} {depth : Nat} {it acc : Value} {tg iter : Expr} {ifs : List Expr} {Q : Fin → Shared → Prop} (hg : gens[depth]? = some ⟨tg, iter, ifs, 0⟩)
    (h : wpAny M A (pyNext it) (fun ov s1 => match ov with
      | none => Q (.done .next) s1
      | some v => wpAny M A (letOwnedTupleGo tg it v) (fun _ s2 => wpAny M A (assign tg env v) (fun _ s3 =>
          wpAny M A (forIn ifs true fun c r => if r = true then do let ok ← PySem.isTrue c env (eval c env); pure (ForInStep.yield ok) else pure (ForInStep.yield r)) (fun ok s4 =>
            if ok = true then InW M A E elt gens scope pos depth acc env (fun s5 => Q (.again (.compLoop (.ListComp elt gens scope pos) depth it acc env)) s5) s4 else Q (.again (.compLoop (.ListComp elt gens scope pos) depth it acc env)) s4) E s3) E s2) E s1) E s) :
    wpAny M A (compTurn (.ListComp elt gens scope pos) depth it acc env) Q E s := by
  unfold compTurn
  dsimp only
  rw [hg]
  dsimp only
  rw [if_neg (by decide), if_neg (by decide)]
  refine wpAny_bind (wpAny_standAt (wpAny_bind (wpAny_mono h (fun ov s1 h1 => ?_) fun _ _ e => e)))
  cases ov with
  | none => exact wpAny_pure h1
  | some v =>
    dsimp only at h1 ⊢
    refine wpAny_bind (wpAny_mono h1 (fun _ s2 h2 => wpAny_bind (wpAny_mono h2 (fun _ s3 h3 => wpAny_bind (wpAny_mono h3 (fun ok s4 h4 => ?_) fun _ _ e => e)) fun _ _ e => e)) fun _ _ e => e)
    cases ok with
    | false => exact wpAny_pure h4
    | true =>
      simp only [if_true] at h4 ⊢
      unfold InW at h4
      cases hn : gens[depth + 1]? with
      | none =>
        rw [hn] at h4
        dsimp only at h4 ⊢
        exact wpAny_bind (wpAny_bind (wpAny_mono h4 (fun x s5 h5 => wpAny_bind (wpAny_mono h5 (fun _ s6 h6 => wpAny_pure (wpAny_pure h6)) fun _ _ e => e)) fun _ _ e => e))
      | some g' =>
        rw [hn] at h4
        obtain ⟨h0, h4⟩ := h4
        dsimp only at h4 ⊢
        rw [h0]
        refine wpAny_bind (wpAny_mono h4 (fun x s5 h5 => wpAny_bind (wpAny_standAt ?_)) fun _ _ e => e)
        obtain ⟨h5a, h5⟩ := h5
        rw [if_neg (by decide), h5a]
        refine wpAny_bind (wpAny_pure (wpAny_bind (wpAny_holding ?_)))
        rw [if_neg (by decide)]
        exact wpAny_mono h5 (fun it2 s6 h6 => wpAny_bind (wpAny_mono h6 (fun _ s7 h7 => wpAny_pure h7) fun _ _ e => e)) fun _ _ e => e
theorem loop_wp {M : Model} {elt : Expr} {gens : List Comprehension} {scope : Scope} {pos : Pos} {depth : Nat} {it acc : Value} {tg iter : Expr} {ifs : List Expr} {R : Result → Shared → Prop} (hM : M = model C.prog C.w) (hg : gens[depth]? = some ⟨tg, iter, ifs, 0⟩) (I : Nat → Shared → Prop)
    (h : ∀ k s, I k s → wpAny M A (pyNext it) (fun ov s1 => match ov with
      | none => R (.ok .next) s1
      | some v => wpAny M A (letOwnedTupleGo tg it v) (fun _ s2 => wpAny M A (assign tg env v) (fun _ s3 =>
          wpAny M A (forIn ifs true fun c r => if r = true then do let ok ← PySem.isTrue c env (eval c env); pure (ForInStep.yield ok) else pure (ForInStep.yield r)) (fun ok s4 =>
            if ok = true then InW M A (fun _ _ => False) elt gens scope pos depth acc env (fun s5 => ∃ m, m < k ∧ I m s5) s4 else ∃ m, m < k ∧ I m s4) (fun _ _ => False) s3) (fun _ _ => False) s2) (fun _ _ => False) s1) (fun _ _ => False) s)
    (k : Nat) (hk : I k s) : codeAny M A (.compLoop (.ListComp elt gens scope pos) depth it acc env) R s := by
  subst hM
  refine codeAny_loop rfl I (fun k s hI => ?_) k hk
  show wpAny _ A ((compTurn (.ListComp elt gens scope pos) depth it acc env).onRaise (fun x => do noteFrame x env; theTreesLotGoes x)) _ _ s
  refine wpAny_noted ?_
  refine wpAny_mono (E := fun _ _ => False) (turn_wp hg (wpAny_mono (h k s hI) (fun ov s1 h1 => ?_) fun _ _ e => e)) (fun _ _ q => q) fun _ _ e => e.elim
  cases ov with
  | none => exact h1
  | some v =>
    refine wpAny_mono h1 (fun _ s2 h2 => wpAny_mono h2 (fun _ s3 h3 => wpAny_mono h3 (fun ok s4 h4 => ?_) fun _ _ e => e) fun _ _ e => e) fun _ _ e => e
    cases ok with
    | false => exact ⟨by first | rfl | trivial, h4⟩
    | true =>
      simp only [if_true] at h4 ⊢
      unfold InW at h4 ⊢
      cases hn : gens[depth + 1]? with
      | none => rw [hn] at h4; exact wpAny_mono h4 (fun x s5 h5 => wpAny_mono h5 (fun _ s6 h6 => ⟨trivial, h6⟩) fun _ _ e => e) fun _ _ e => e
      | some g' =>
        rw [hn] at h4
        exact ⟨h4.1, wpAny_mono h4.2 (fun x s5 h5 => ⟨h5.1, wpAny_mono h5.2 (fun it2 s6 h6 => wpAny_mono h6 (fun _ s7 h7 => ⟨trivial, h7⟩) fun _ _ e => e) fun _ _ e => e⟩) fun _ _ e => e⟩
theorem start_wp {elt : Expr} {gens : List Comprehension} {scope : Scope} {pos : Pos} {depth : Nat} {it acc : Value} {tg iter : Expr} {ifs : List Expr} {R : Result → Shared → Prop} (hg : gens[depth]? = some ⟨tg, iter, ifs, 0⟩)
    (h0 : codeAny (model C.prog C.w) A (.compLoop (.ListComp elt gens scope pos) depth it acc env) R s)
    (h : wpAny (model C.prog C.w) A (pyIter it) (fun it' s' => codeAny (model C.prog C.w) A (.compLoop (.ListComp elt gens scope pos) depth it' acc env) R s') (notedBy (model C.prog C.w) A env fun x s' => R (.error x) s') s) :
    codeAny (model C.prog C.w) A (.compStart (.ListComp elt gens scope pos) depth it acc env) R s := by
  refine codeAny_of_tree ?_
  show wpAny _ _ ((compStart (.ListComp elt gens scope pos) depth it acc env).onRaise (fun x => do noteFrame x env; standAt theWindowsPlace)) _ _ s
  refine wpAny_notedAt ?_
  unfold compStart
  have hc : clausesOf (.ListComp elt gens scope pos) = gens := rfl
  rw [hc, hg]
  rw [if_neg (by simp)]
  show wpAny _ _ (ask >>= _) _ _ s
  refine wpAny_bind (wpAny_askSetting (wpAny_ite ?_))
  split
  · first
      | exact wpAny_bind (wpAny_pure (wpAny_pure (And.intro rfl h0)))
      | exact wpAny_pure (And.intro rfl h0)
  · first
      | exact wpAny_bind (wpAny_rule (wpAny_bind (wpAny_standAt (wpAny_bind (wpAny_mono h (fun it' s' h' => wpAny_pure (And.intro rfl h')) fun _ _ x => x)))))
      | (refine wpAny_bind (wpAny_rule ?_); show wpAny _ _ (standAt iter.pos >>= _) _ _ s; exact wpAny_bind (wpAny_standAt (wpAny_bind (wpAny_mono h (fun it' s' h' => wpAny_pure (And.intro rfl h')) fun _ _ x => x))))
end Ev
set_option maxRecDepth 10000
namespace Ev
open PySem PySem.W PySem.Spec PySem.Calls PyProof.Rows PySem.SeqAt
variable {C : Cx} {n : Nat} {sc : Scope} {A : Around} {env : Env} {base : Fz} {low : Fz} {F F' : Fz} {s s' : Shared} {σ : St}
/-! less is known -/
theorem Fs.weak {H : PyData → Int} {names : List Str} {h : Heap} {σ' : St} (S : Fs H names env base low F h σ') (le : ∀ i p, sget σ i = some p → sget σ' i = some p) : Fs H names env base low F h σ where
  kind := S.kind
  glob := S.glob
  blt := S.blt
  nodup := S.nodup
  keep := S.keep
  keepL := S.keepL
  sat := S.sat
  ns := S.ns
  LF := S.LF
  Lb := S.Lb
  Ll := S.Ll
  cell := S.cell
  cinj := S.cinj
  free := S.free
  vars := fun i x d hi hd => S.vars i x d hi (le _ _ hd)
  own := fun i x d hi hd => S.own i x d hi (le _ _ hd)
  oinj := fun i j x y d e a hi hj hd he => S.oinj i j x y d e a hi hj (le _ _ hd) (le _ _ he)
theorem Ct.weak {σ' : St} (X : Ct C n sc A env base low F s σ') (le : ∀ i p, sget σ i = some p → sget σ' i = some p) : Ct C n sc A env base low F s σ := ⟨X.ok, X.room, X.scope, X.k0, X.fs.weak le, X.pin⟩
theorem Ct.lower2 {base' low' : Fz} (h : ∀ b o, base b = some o → base' b = some o) (hl : ∀ b o, low b = some o → low' b = some o) (k0 : ∀ b o, C.h₀.get? b = some o → base b = some o) (X : Ct C n sc A env base' low' F s σ) : Ct C n sc A env base low F s σ := by
  have S := X.fs
  have nn : ∀ {p q : Fz} {a}, (∀ b o, p b = some o → q b = some o) → q a = none → p a = none := fun {p q a} h e => by
    cases r : p a with
    | none => rfl
    | some o => rw [h a o r] at e; cases e
  exact X.step k0 (fun _ l => l) {
    kind := S.kind, glob := S.glob, blt := S.blt, nodup := S.nodup
    keep := fun b o e => S.keep b o (h b o e), keepL := fun b o e => S.keepL b o (hl b o e), sat := S.sat, ns := S.ns, LF := S.LF
    Lb := nn h S.Lb, Ll := nn hl S.Ll
    cell := fun x hx => let ⟨c, v, h1, h2, h3, h4⟩ := S.cell x hx; ⟨c, v, h1, h2, h3, nn hl h4⟩
    cinj := S.cinj, free := S.free, vars := S.vars
    own := fun i x d hi hd => let ⟨a, h1, h2, h3, h4, h5⟩ := S.own i x d hi hd; ⟨a, h1, h2, h3, nn hl h4, h5⟩
    oinj := S.oinj }
theorem bs_eq {W : List Addr} {h h' : Heap} {B : Fz} (th : ∀ a ∈ W, h'.get? a = h.get? a) : bs W h' B = bs W h B := by
  funext a
  by_cases m : a ∈ W
  · rw [bs_in m, bs_in m, th a m]
  · rw [bs_out m, bs_out m]
theorem kept_eq {h h' : Heap} {a : Addr} (t : ∃ o, h.get? a = some o) (k : ∀ o, h.get? a = some o → h'.get? a = some o) : h'.get? a = h.get? a := by
  obtain ⟨o, ho⟩ := t
  rw [ho, k o ho]
theorem storeD_out : ∀ {is : List Nat} {vos : List (Bool × PyData)} {σ σ' : St}, storeD is vos σ = some σ' → ∀ {i}, i ∉ is → sget σ' i = sget σ i
  | [], [], σ, σ', h, i, _ => by cases h; rfl
  | [], _ :: _, σ, σ', h, i, _ => by cases h
  | _ :: _, [], σ, σ', h, i, _ => by cases h
  | k :: is, vo :: vos, σ, σ', h, i, m => by
    simp only [storeD] at h
    rw [storeD_out h fun q => m (List.mem_cons_of_mem _ q), sget_set_ne]
    rintro rfl; exact m List.mem_cons_self
theorem storeD_le {is : List Nat} {vos : List (Bool × PyData)} {σ' : St} (h : storeD is vos σ = some σ') (hn : ∀ i ∈ is, sget σ i = none) : ∀ i p, sget σ i = some p → sget σ' i = some p := fun i p e => by
  rw [storeD_out h]
  · exact e
  · intro m; rw [hn i m] at e; cases e
theorem places_inj (hnd : C.names.Nodup) : ∀ {js is : List Nat} {xs : List Str}, (js.map fun i => C.names[i]?) = xs.map some → (is.map fun i => C.names[i]?) = xs.map some → js = is
  | [], [], _, _, _ => rfl
  | [], _ :: _, xs, h1, h2 => by rw [← h2] at h1; simp at h1
  | _ :: _, [], xs, h1, h2 => by rw [← h2] at h1; simp at h1
  | j :: js, i :: is, xs, h1, h2 => by
    cases xs with
    | nil => simp at h1
    | cons x xs =>
      simp only [List.map_cons, List.cons.injEq] at h1 h2
      obtain ⟨a1, a2⟩ := List.getElem?_eq_some_iff.mp h1.1
      obtain ⟨b1, b2⟩ := List.getElem?_eq_some_iff.mp h2.1
      rw [places_inj hnd h1.2 h2.2, (List.getElem_inj hnd).mp (a2.trans b2.symm)]
theorem SndTg.le {tg : Expr} {g : PyData → St → Option St} {xs : List Str} (T : SndTg C tg g xs) {is : List Nat} (hnd : C.names.Nodup) (hx : (is.map fun i => C.names[i]?) = xs.map some) {d : PyData} {σ' : St} (h : g d σ = some σ') (hn : ∀ i ∈ is, sget σ i = none) :
    ∀ i p, sget σ i = some p → sget σ' i = some p := by
  cases T with
  | @name k x pos hi =>
    cases h
    have : [k] = is := places_inj hnd (xs := [x]) (by simp [hi]) hx
    subst this
    exact storeD_le (vos := [(false, d)]) rfl hn
  | @tuple elts k pos js xs ps he hl hx' =>
    have := places_inj hnd hx' hx
    subst this
    dsimp only at h
    split at h
    · exact storeD_le h hn
    · cases h
/-! the state of a comprehension at work -/
structure Cm (C : Cx) (n : Nat) (sc : Scope) (A : Around) (env : Env) (T : List Str) (B low : Fz) (D : Addr) (W : List Addr) (F : Fz) (s : Shared) (σ : St) (ys : List PyData) : Prop where
  ct : Ct C n sc A env (bs (D :: W) s.heap B) (bs (D :: W) s.heap low) F s σ
  acc : ∃ vs m, s.heap.get? D = some (seqObj "list" vs m) ∧ RL C.H F vs.toList ys
  there : ∀ a ∈ W, ∃ o, s.heap.get? a = some o
  off : ∀ a ∈ D :: W, F a = none
  new0 : ∀ a ∈ D :: W, C.h₀.get? a = none
  nin : D ∉ W
  bn : ∀ a ∈ D :: W, B a = none ∧ low a = none
  may : ∀ x ∈ T, MaySt C env B x
variable {T : List Str} {B : Fz} {D : Addr} {W : List Addr} {ys : List PyData}
theorem Cm.thereD (X : Cm C n sc A env T B low D W F s σ ys) : ∀ a ∈ D :: W, ∃ o, s.heap.get? a = some o := fun a m => by
  rcases List.mem_cons.mp m with rfl | m
  · obtain ⟨vs, k, h, _⟩ := X.acc; exact ⟨_, h⟩
  · exact X.there a m
theorem Cm.keepB (X : Cm C n sc A env T B low D W F s σ ys) : ∀ b o, B b = some o → s.heap.get? b = some o := fun b o e => X.ct.fs.keep b o (by
  rw [bs_out fun m => by rw [(X.bn b m).1] at e; cases e]; exact e)
theorem Cm.k0B (X : Cm C n sc A env T B low D W F s σ ys) : ∀ b o, C.h₀.get? b = some o → B b = some o := fun b o e => by
  have := X.ct.k0 b o e
  rwa [bs_out fun m => by rw [X.new0 b m] at e; cases e] at this
theorem Cm.move {σ' : St} (X : Cm C n sc A env T B low D W F s σ ys) (hs : Sub F F') (hk : ∀ a ∈ D :: W, ∀ o, s.heap.get? a = some o → s'.heap.get? a = some o) (ho : ∀ a ∈ D :: W, F' a = none)
    (Y : Ct C n sc A env (bs (D :: W) s.heap B) (bs (D :: W) s.heap low) F' s' σ') : Cm C n sc A env T B low D W F' s' σ' ys := by
  have e : ∀ {q : Fz}, bs (D :: W) s'.heap q = bs (D :: W) s.heap q := bs_eq fun a m => kept_eq (X.thereD a m) (hk a m)
  refine ⟨by rw [e, e]; exact Y, ?_, fun a m => ?_, ho, X.new0, X.nin, X.bn, X.may⟩
  · obtain ⟨vs, k, h, r⟩ := X.acc; exact ⟨vs, k, hk D List.mem_cons_self _ h, r.mono hs⟩
  · obtain ⟨o, h⟩ := X.there a m; exact ⟨o, hk a (List.mem_cons_of_mem _ m) o h⟩
theorem off_fresh {F F' : Fz} {h : Heap} {a : Addr} (hf : ∀ a o, F' a = some o → F a = some o ∨ h.get? a = none) (h1 : F a = none) (h2 : ∃ o, h.get? a = some o) : F' a = none := by
  cases q : F' a with
  | none => rfl
  | some o =>
    obtain ⟨o', ho'⟩ := h2
    rcases hf a o q with e | e
    · rw [h1] at e; cases e
    · rw [ho'] at e; cases e
theorem Cm.grow (X : Cm C n sc A env T B low D W F s σ ys) (g : Grow F s F' s') : Cm C n sc A env T B low D W F' s' σ ys :=
  X.move g.sub (fun a _ o e => g.keep a o e) (fun a m => off_fresh g.fresh (X.off a m) (X.thereD a m)) (X.ct.grow g)
theorem Cm.same {σ' : St} (X : Cm C n sc A env T B low D W F s σ ys) (Y : Ct C n sc A env (bs (D :: W) s.heap B) (bs (D :: W) s.heap low) F s' σ') : Cm C n sc A env T B low D W F s' σ' ys :=
  X.move (Sub.refl F) (fun a m o e => Y.fs.keep a o (by rw [bs_in m]; exact e)) X.off Y
theorem Cm.weak {σ' : St} (X : Cm C n sc A env T B low D W F s σ' ys) (le : ∀ i p, sget σ i = some p → sget σ' i = some p) : Cm C n sc A env T B low D W F s σ ys :=
  ⟨X.ct.weak le, X.acc, X.there, X.off, X.new0, X.nin, X.bn, X.may⟩
theorem Adv.wide {W W' : List Addr} (v : Adv W F s F' s') (h : ∀ a ∈ W, a ∈ W') : Adv W' F s F' s' := ⟨fun b o m e => v.keep b o (fun q => m (h b q)) e, v.sub, v.fresh, v.sat, v.gens, v.drawn, v.os⟩
theorem Cm.adv (X : Cm C n sc A env T B low D W F s σ ys) (v : Adv W F s F' s') (th : ∀ a ∈ W, ∃ o, s'.heap.get? a = some o) : Cm C n sc A env T B low D W F' s' σ ys := by
  have Y := X.ct.adv X.thereD X.new0 (v.wide fun a m => List.mem_cons_of_mem _ m)
  refine ⟨Y, ?_, th, fun a m => off_fresh v.fresh (X.off a m) (X.thereD a m), X.new0, X.nin, X.bn, X.may⟩
  obtain ⟨vs, k, h, r⟩ := X.acc
  exact ⟨vs, k, v.keep D _ X.nin h, r.mono v.sub⟩
theorem Cm.adv0 (X : Cm C n sc A env T B low D W F s σ ys) (v : Adv W F s F' s') : Cm C n sc A env T B low D [] F' s' σ ys := by
  have Y := X.ct.adv X.thereD X.new0 (v.wide fun a m => List.mem_cons_of_mem _ m)
  have sub : ∀ {q : Fz}, (∀ a ∈ D :: W, q a = none) → ∀ b o, bs [D] s'.heap q b = some o → bs (D :: W) s'.heap q b = some o := fun {q} hn b o e => by
    by_cases ed : b = D
    · subst ed; rw [bs_in List.mem_cons_self] at e ⊢; exact e
    · rw [bs_out (by simp [ed])] at e
      rw [bs_out fun m => by rw [hn b m] at e; cases e]; exact e
  refine ⟨Y.lower2 (sub fun a m => (X.bn a m).1) (sub fun a m => (X.bn a m).2) (fun b o e => ?_), ?_, fun a m => (nomatch m), fun a m => ?_, fun a m => ?_, (fun m => nomatch m), fun a m => ?_, X.may⟩
  · have := X.k0B b o e
    rw [bs_out fun m => by rw [X.new0 b (by simp at m; subst m; exact List.mem_cons_self)] at e; cases e]; exact this
  · obtain ⟨vs, k, h, r⟩ := X.acc
    exact ⟨vs, k, v.keep D _ X.nin h, r.mono v.sub⟩
  · simp only [List.mem_singleton] at m; subst m
    exact off_fresh v.fresh (X.off _ List.mem_cons_self) (X.thereD _ List.mem_cons_self)
  · simp only [List.mem_singleton] at m; subst m; exact X.new0 _ List.mem_cons_self
  · simp only [List.mem_singleton] at m; subst m; exact X.bn _ List.mem_cons_self
theorem Cm.emit {E : Value → Shared → Prop} {v : Value} {d : PyData} {Q : Value → Shared → Prop} (X : Cm C n sc A env T B low D W F s σ ys) (r : R C.H F v d) (hl : ys.length ≤ 1048576)
    (h : ∀ s', Rel B F s F s' → (∀ a, a ≠ D → ∀ o, s.heap.get? a = some o → s'.heap.get? a = some o) → Cm C n sc A env T B low D W F s' σ (ys ++ [d]) → Q .none s') : wpAny (model C.prog C.w) A (call (.builtin "list.append") [.ref D, v]) Q E s := by
  obtain ⟨vs, m, hD, rl⟩ := X.acc
  refine wpAny_list_append_plain ⟨m, hD⟩ (fun h' hp hs => ?_) (by rw [rl_arr rl]; exact Nat.le_trans hl (by rw [sizeLine_eq]; omega))
  have v1 : Adv [D] F s F { s with heap := h' } := ⟨fun b o q e => (hs.2 b (by simpa using q)).trans e, Sub.refl F, fun _ _ e => .inl e, fun a o e => (hs.2 a (fun q => by subst q; rw [X.off _ List.mem_cons_self] at e; cases e)).trans (X.ct.sat a o e), rfl, rfl, rfl⟩
  have Y := X.ct.adv X.thereD X.new0 (v1.wide fun a m => by simp only [List.mem_singleton] at m; subst m; exact List.mem_cons_self)
  refine h _ ⟨Sub.refl F, fun _ _ e => .inl e, ⟨rfl, rfl, rfl⟩⟩ (fun a hne o e => (hs.2 a hne).trans e) ⟨Y, ?_, fun a q => ?_, X.off, X.new0, X.nin, X.bn, X.may⟩
  · obtain ⟨k, hk⟩ := hp
    exact ⟨_, k, hk, by rw [Array.toList_push]; exact rl.append (.one r)⟩
  · obtain ⟨o, ho⟩ := X.there a q
    exact ⟨o, (hs.2 a (fun e => X.nin (e ▸ q))).trans ho⟩
end Ev
set_option maxRecDepth 10000
namespace Ev
open PySem PySem.W PySem.Spec PySem.Calls PyProof.Rows PySem.SeqAt
variable {C : Cx} {n : Nat} {sc : Scope} {A : Around} {env : Env} {base : Fz} {low : Fz} {F F' : Fz} {s s' : Shared} {σ : St} {T : List Str} {B : Fz} {D : Addr} {W : List Addr} {ys : List PyData}
/-! tests -/
inductive SndIfs (C : Cx) (n : Nat) (sc : Scope) : List Expr → List (St → Option Bool) → Prop
  | nil : SndIfs C n sc [] []
  | cons {e es f fs} : SndT C n sc e f → SndIfs C n sc es fs → SndIfs C n sc (e :: es) (f :: fs)
noncomputable def tsC : List (St → Option Bool) → St → Option Bool
  | [], _ => some true
  | f :: fs, σ => match f σ with
    | some true => tsC fs σ
    | r => r
theorem tests_false {env : Env} {Q : Bool → Shared → Prop} {M : Model} {E : Value → Shared → Prop} (h : Q false s) : ∀ ifs : List Expr,
    wpAny M A (forIn ifs false fun c r => if r = true then do let ok ← PySem.isTrue c env (eval c env); pure (ForInStep.yield ok) else pure (ForInStep.yield r)) Q E s
  | [] => wpAny_pure h
  | _ :: r => by rw [List.forIn_cons, if_neg (by decide)]; exact wpAny_bind (wpAny_pure (tests_false h r))
theorem tests_wp : ∀ {ifs ts}, SndIfs C n sc ifs ts → ∀ {A env base low F s σ b}, Ct C n sc A env base low F s σ → tsC ts σ = some b →
    Wp C A (forIn ifs true fun c r => if r = true then do let ok ← PySem.isTrue c env (eval c env); pure (ForInStep.yield ok) else pure (ForInStep.yield r)) (PostT F s b) s := by
  intro ifs ts hts
  induction hts with
  | nil =>
    intro A env base low F s σ b X h
    cases h; exact wpAny_pure ⟨rfl, F, .refl X.sat⟩
  | cons h1 h2 ih =>
    intro A env base low F s σ b X h
    simp only [tsC] at h
    rw [List.forIn_cons, if_pos rfl]
    split at h
    · rename_i e
      refine wpAny_bind (wpAny_bind (wp_mono (h1 X e) fun ok s1 ⟨e1, F1, g1⟩ => ?_))
      subst e1
      exact wpAny_pure (wp_mono (ih (X.grow g1) h) fun ok s2 ⟨e2, F2, g2⟩ => ⟨e2, F2, g1.trans g2⟩)
    · rename_i r hr
      cases hb : b with
      | true => subst hb; exact absurd h hr
      | false =>
        subst hb
        refine wpAny_bind (wpAny_bind (wp_mono (h1 X h) fun ok s1 ⟨e1, F1, g1⟩ => ?_))
        subst e1
        exact wpAny_pure (tests_false ⟨rfl, F1, g1⟩ _)
/-! the loops -/
noncomputable abbrev Em := St → Option (List PyData)
noncomputable def PostM (C : Cx) (n : Nat) (sc : Scope) (A : Around) (env : Env) (T : List Str) (B low : Fz) (D : Addr) (W : List Addr) (F : Fz) (s : Shared) (σ : St) (ys : List PyData) (s' : Shared) : Prop := ∃ F', Rel B F s F' s' ∧ Cm C n sc A env T B low D W F' s' σ ys
noncomputable def In (C : Cx) (n : Nat) (sc : Scope) (T : List Str) (elt : Expr) (gens : List Comprehension) (scope : Scope) (pos : Pos) (depth : Nat) (f : Em) : Prop :=
  ∀ {A env B low D W F s σ ys out} {K : Shared → Prop}, Cm C n sc A env T B low D W F s σ ys → f σ = some out → ys.length + out.length ≤ 1048576 →
    (∀ s', PostM C n sc A env T B low D W F s σ (ys ++ out) s' → (∀ a ∈ W, ∀ o, s.heap.get? a = some o → s'.heap.get? a = some o) → K s') → InW (model C.prog C.w) A (fun _ _ => False) elt gens scope pos depth (.ref D) env K s
noncomputable def Lp (C : Cx) (n : Nat) (sc : Scope) (T : List Str) (elt : Expr) (gens : List Comprehension) (scope : Scope) (pos : Pos) (depth : Nat) (tg : Expr) (f : List PyData → Em) : Prop :=
  ∀ {A env B low D W F s σ ys I Dz St xs F0 out}, Cm C n sc A env T B low D W F s σ ys → Itr C A F0 tg Dz W I xs St → St 0 s.heap → Sub F0 F → (∀ a o, Dz a = some o → F a = some o) → f xs σ = some out → ys.length + out.length ≤ 1048576 →
    codeAny (model C.prog C.w) A (.compLoop (.ListComp elt gens scope pos) depth (.ref I) (.ref D) env) (fun r s' => r = .ok .next ∧ PostM C n sc A env T B low D [] F s σ (ys ++ out) s') s
noncomputable def eltC (f : St → Option PyData) : Em := fun σ => match f σ with
  | some d => some [d]
  | none => none
theorem In.elt {elt : Expr} {gens : List Comprehension} {scope : Scope} {pos : Pos} {depth : Nat} {f : St → Option PyData} (hn : gens[depth + 1]? = none) (he : Snd C n sc elt f) : In C n sc T elt gens scope pos depth (eltC f) := fun {A env B low D W F s σ ys out K} X h hl hK => by
  unfold eltC at h
  cases e : f σ with
  | none => rw [e] at h; cases h
  | some d =>
    rw [e] at h
    cases h
    unfold InW
    rw [hn]
    dsimp only
    refine wp_mono (he X.ct e) fun v s1 ⟨F1, g1, r1⟩ => ?_
    refine (X.grow g1).emit r1 (by simp only [List.length_singleton] at hl; omega) fun s2 r2 kp Y => hK s2 ⟨F1, Rel.trans ?_ r2, Y⟩ fun a m o e => kp a (fun q => X.nin (q ▸ m)) o (g1.keep a o e)
    exact ⟨g1.sub, (fun a o q => (g1.fresh a o q).imp id fun q' => by
      cases q2 : B a with
      | none => rfl
      | some o' => rw [X.keepB a o' q2] at q'; cases q'), ⟨g1.gens, g1.drawn, g1.os⟩⟩
theorem Cm.relGrow (X : Cm C n sc A env T B low D W F s σ ys) (g : Grow F s F' s') : Rel B F s F' s' := ⟨g.sub, (fun a o q => (g.fresh a o q).imp id fun q' => by
  cases q2 : B a with
  | none => rfl
  | some o' => rw [X.keepB a o' q2] at q'; cases q'), ⟨g.gens, g.drawn, g.os⟩⟩
noncomputable def turnsC (g : PyData → St → Option St) (ts : List (St → Option Bool)) (k : Em) : List PyData → Em
  | [], _ => some []
  | d :: ds, σ => match g d σ with
    | some σ' => match tsC ts σ' with
      | some true => match k σ' with
        | some o1 => match turnsC g ts k ds σ with
          | some o2 => some (o1 ++ o2)
          | none => none
        | none => none
      | some false => turnsC g ts k ds σ
      | none => none
    | none => none
noncomputable def lpC (is : List Nat) (g : PyData → St → Option St) (ts : List (St → Option Bool)) (k : Em) : List PyData → Em := fun xs σ => if is.all (fun i => (sget σ i).isNone) then turnsC g ts k xs σ else none
theorem Lp.mk {elt : Expr} {gens : List Comprehension} {scope : Scope} {pos : Pos} {depth : Nat} {tg iter : Expr} {ifs : List Expr} {g : PyData → St → Option St} {ts : List (St → Option Bool)} {k : Em} {is : List Nat} {xs : List Str} (hn : gens[depth]? = some ⟨tg, iter, ifs, 0⟩)
    (Tg : SndTg C tg g xs) (hx : (is.map fun i => C.names[i]?) = xs.map some) (hT : ∀ x ∈ xs, x ∈ T) (hts : SndIfs C n sc ifs ts) (hk : In C n sc T elt gens scope pos depth k) :
    Lp C n sc T elt gens scope pos depth tg (lpC is g ts k) := fun {A env B low D W F s σ ys I Dz St ds F0 out} X itr st0 sub0 hDz h hlen => by
  unfold lpC at h
  split at h
  case isFalse => cases h
  rename_i hall
  have hnone : ∀ i ∈ is, sget σ i = none := fun i m => by simpa using List.all_eq_true.mp hall i m
  refine loop_wp rfl hn (fun m s' => ∃ i F' o1 o2, m = ds.length - i ∧ i ≤ ds.length ∧ Rel B F s F' s' ∧ Cm C n sc A env T B low D W F' s' σ (ys ++ o1) ∧ St i s'.heap ∧ turnsC g ts k (ds.drop i) σ = some o2 ∧ out = o1 ++ o2)
    ?_ ds.length ⟨0, F, [], out, rfl, Nat.zero_le _, .refl F s, by simpa using X, st0, h, rfl⟩
  rintro m s' ⟨i, F2, o1, o2, rfl, hle, r2, X2, st2, h2, rfl⟩
  have sub2 : Sub F F2 := r2.1
  have sd2 : Sat Dz s'.heap := fun a o e => X2.ct.sat a o (sub2 a o (hDz a o e))
  have offW : ∀ a ∈ W, F2 a = none := fun a m => X2.off a (List.mem_cons_of_mem _ m)
  by_cases hlt : i < ds.length
  · have hi : ds[i]? = some ds[i] := List.getElem?_eq_getElem hlt
    rw [List.drop_eq_getElem_cons hlt] at h2
    simp only [turnsC] at h2
    refine wpAny_mono (itr.item hi st2 sd2 X2.ct.sat (sub0.trans sub2) offW) (fun ov s3 p3 => ?_) fun _ _ e => e
    obtain ⟨v, rfl, p3⟩ := p3
    refine wpAny_mono p3 (fun _ s4 p4 => ?_) fun _ _ e => e
    obtain ⟨F4, a4, r4, st4⟩ := p4
    have X4 := X2.adv a4 (itr.there st4)
    have rl4 : Rel B F s F4 s4 := r2.trans (.adv X2.keepB a4)
    cases hg : g ds[i] σ with
    | none => rw [hg] at h2; cases h2
    | some σ4 =>
      rw [hg] at h2
      dsimp only at h2
      have may4 : ∀ x ∈ xs, MaySt C env (bs (D :: W) s4.heap B) x := fun x hx' => by
        obtain ⟨q1, q2⟩ := X4.may x (hT x hx')
        refine ⟨q1, q2.imp id fun ⟨kc, q3⟩ => ⟨kc, fun c hc => ?_⟩⟩
        obtain ⟨c', u, e1, e2, e3, e4⟩ := X4.ct.fs.cell x kc
        rw [hc] at e1; cases e1
        rw [bs_out (bs_none X4.thereD e4).1]
        exact q3 c hc
      refine target_wp Tg X4.ct may4 r4 hg fun s5 hs5 Y5 => ?_
      have X5 := X4.same Y5
      have le5 := Tg.le X.ct.fs.nodup hx hg hnone
      have frm : ∀ {h' : Heap}, (∀ a ∈ W, ∀ o, s4.heap.get? a = some o → h'.get? a = some o) → (∀ a o, F4 a = some o → h'.get? a = some o) → St (i + 1) h' := fun {h'} hw hs => itr.frame st4 hw fun a o e => hs a o (a4.sub a o (sub2 a o (hDz a o e)))
      have kp5 : ∀ a ∈ W, ∀ o, s4.heap.get? a = some o → s5.heap.get? a = some o := fun a m o e => Y5.fs.keep a o (by rw [bs_in (List.mem_cons_of_mem _ m)]; exact e)
      have rl5 : Rel B F s F4 s5 := rl4.trans (.same hs5)
      cases ht : tsC ts σ4 with
      | none => rw [ht] at h2; cases h2
      | some b =>
        rw [ht] at h2
        refine wpAny_mono (tests_wp hts X5.ct ht) (fun ok s6 p6 => ?_) fun _ _ e => e
        obtain ⟨rfl, F6, g6⟩ := p6
        have X6 := X5.grow g6
        have rl6 : Rel B F s F6 s6 := rl5.trans (X5.relGrow g6)
        have kp6 : ∀ a ∈ W, ∀ o, s4.heap.get? a = some o → s6.heap.get? a = some o := fun a m o e => g6.keep a o (kp5 a m o e)
        cases ok with
        | false =>
          dsimp only at h2
          exact ⟨ds.length - (i + 1), by omega, i + 1, F6, o1, o2, rfl, hlt, rl6, X6.weak le5, frm kp6 (fun a o e => g6.sat a o (g6.sub a o e)), h2, rfl⟩
        | true =>
          dsimp only at h2
          rw [if_pos rfl]
          cases hkk : k σ4 with
          | none => rw [hkk] at h2; cases h2
          | some q1 =>
            rw [hkk] at h2
            dsimp only at h2
            cases hrest : turnsC g ts k (List.drop (i + 1) ds) σ with
            | none => rw [hrest] at h2; cases h2
            | some q2 =>
              rw [hrest] at h2
              cases h2
              refine hk X6 hkk (by simp only [List.length_append] at hlen ⊢; omega) fun s7 p7 kp7 => ?_
              obtain ⟨F7, r7, X7⟩ := p7
              refine ⟨ds.length - (i + 1), by omega, i + 1, F7, o1 ++ q1, q2, rfl, hlt, rl6.trans r7, by simpa using X7.weak le5, ?_, hrest, by simp⟩
              exact frm (fun a m o e => kp7 a m o (kp6 a m o e)) (fun a o e => X7.ct.sat a o (r7.1 a o (g6.sub a o e)))
  · have hi' : i = ds.length := by omega
    subst hi'
    rw [List.drop_length] at h2
    cases h2
    refine wpAny_mono (itr.done st2 sd2 X2.ct.sat offW) (fun ov s3 p3 => ?_) fun _ _ e => e
    obtain ⟨rfl, a3⟩ := p3
    refine ⟨rfl, F2, r2.trans (.adv X2.keepB a3), ?_⟩
    rw [List.append_nil]
    exact X2.adv0 a3
end Ev
set_option maxRecDepth 10000
namespace Ev
open PySem PySem.W PySem.Spec PySem.Calls PyProof.Rows PySem.SeqAt
variable {C : Cx} {n : Nat} {sc : Scope} {A : Around} {env : Env} {base : Fz} {low : Fz} {F F' : Fz} {s s' : Shared} {σ : St} {T : List Str} {B : Fz} {D : Addr} {W : List Addr} {ys : List PyData}
noncomputable def compC (nt : Nat) (caps : List Nat) (src : St → Option (List PyData)) (f : List PyData → Em) : St → Option PyData := fun σ => match src σ with
  | some xs => match f xs (capC nt caps σ) with
    | some out => if okLen out then some (.list out) else none
    | none => none
  | none => none
noncomputable def PostC (C : Cx) (F : Fz) (s : Shared) (out : List PyData) (acc : Value) (L : Addr) (r : Result) (s' : Shared) : Prop :=
  r = .ok .next ∧ ∃ D F' m, acc = .ref D ∧ s'.heap.Ns L m ∧ Sub F F' ∧ (∀ a o, F' a = some o → F a = some o ∨ s.heap.get? a = none) ∧ Same s s' ∧ (∀ b o, s.heap.get? b = some o → s'.heap.get? b = some o) ∧ Sat F' s'.heap ∧
    F' L = none ∧ F' D = none ∧ s.heap.get? L = none ∧ s.heap.get? D = none ∧ D ≠ L ∧ ∃ vs k, s'.heap.get? D = some (seqObj "list" vs k) ∧ RL C.H F' vs.toList out
theorem comp_wp {elt : Expr} {gens rest : List Comprehension} {scope : Scope} {pos : Pos} {tg iter : Expr} {ifs : List Expr} {names : List Str} {nt : Nat} {caps : List Nat} {f : List PyData → Em} {s2 : Shared} {F0 : Fz} {xs out : List PyData} {it : Value}
    (K : CompOk C sc scope names nt caps) (hg : gens = ⟨tg, iter, ifs, 0⟩ :: rest) (hl : Lp (C.comp names) n (relS scope) T elt gens scope pos 0 tg f) (hT : ∀ x ∈ T, scope.names.lookup x = some .local ∨ scope.names.lookup x = some .cell)
    (X0 : Ct C n sc A env base low F0 s σ) (p : PostI C A true tg F0 s xs it s2) (h : f xs (capC nt caps σ) = some out) (hlen : okLen out = true) {Q : Value → Addr → Result → Shared → Prop} (hQ : ∀ acc L r s', PostC C F0 s out acc L r s' → Q acc L r s') :
    Wp C A (newList []) (fun acc s₃ => Wp C A (newFunctionEnv scope env.globals (clF env.cells scope.names []) [] env.qual none .none (some env)) (fun cenv s₄ =>
        codeAny (model C.prog C.w) A (.compStart (.ListComp elt gens scope pos) 0 it acc { cenv with scope := relS scope }) (Q acc cenv.locals) s₄) s₃) s2 := by
  subst hg
  obtain ⟨F1, W, I, Dz, St, rfl, g1, itr, st0, sd0, hW, hD⟩ := p
  have k3 : ∀ b o, s2.heap.get? b = some o → (s2.heap.push { cls := .type "list", dict := none, data := .seq ([] : List Value).toArray }).get? b = some o := fun b o e => Heap.get?_push_of_some _ e
  refine wpAny_newObj_type ?_
  have g3 : Grow F1 s2 F1 { s2 with heap := s2.heap.push { cls := .type "list", dict := none, data := .seq ([] : List Value).toArray } } := .ofKeep g1.sat k3 rfl rfl rfl
  have gD := get_size s2.heap
  have gD3 : (s2.heap.push { cls := .type "list", dict := none, data := .seq ([] : List Value).toArray }).get? s2.heap.objs.size = some (seqObj "list" #[] 0) := Heap.get?_push_size _ rfl
  revert gD gD3 g3 k3
  generalize s2.heap.objs.size = D
  generalize hH3 : s2.heap.push { cls := .type "list", dict := none, data := .seq ([] : List Value).toArray } = H3
  intro k3 g3 gD gD3
  refine newEnv_around (cl := clF env.cells scope.names []) (cl' := cellsFrom (H3.objs.size + 1) scope.names (clF env.cells scope.names [])) ?_ rfl
  obtain ⟨X4, c1, c2, c3⟩ := comp_ct X0 (g1.trans g3) K
  dsimp only at X4 c1 c2 c3
  have hs0 : ∀ a ∈ D :: W, s.heap.get? a = none := fun a m => by
    rcases List.mem_cons.mp m with rfl | m
    · exact g1.fresh_back gD
    · exact (hW a m).1
  have th3 : ∀ a ∈ D :: W, ∃ o, H3.get? a = some o := fun a m => by
    rcases List.mem_cons.mp m with rfl | m
    · exact ⟨_, gD3⟩
    · obtain ⟨o, ho⟩ := itr.there st0 a m; exact ⟨o, k3 a o ho⟩
  have keep4 : ∀ b o, H3.get? b = some o → (pushCells (H3.push { cls := .type "dict", data := .dict #[] }) scope.names).get? b = some o := fun b o e => pushCells_keeps _ _ b o (Heap.get?_push_of_some _ e)
  have F1D : F1 D = none := sat_fresh g1.sat gD
  have X5 := X4.aside (W := D :: W) fun a m => by
    have h0 := hs0 a m
    obtain ⟨o, ho⟩ := th3 a m
    refine ⟨h0, (X0.low_none h0).2.1, ?_, fun x c hx hc e => ?_, fun i x d hi hd l => c3 i x d a hi hd l h0⟩
    · intro (e : a = H3.objs.size)
      rw [e, get_size] at ho; cases ho
    · subst e
      rcases c1 x c hx hc with q | q
      · rw [ho] at q; cases q
      · exact q h0
  have M : Cm (C.comp names) n (relS scope) A (compEnvX scope H3.objs.size env) T (fun a => s.heap.get? a) low D W F1 { s2 with heap := pushCells (H3.push { cls := .type "dict", data := .dict #[] }) scope.names } (capC nt caps σ) [] := by
    refine ⟨X5, ⟨#[], 0, keep4 _ _ gD3, .nil⟩, fun a m => ?_, fun a m => ?_, fun a m => ?_, fun m => ?_, fun a m => ⟨hs0 a m, (X0.low_none (hs0 a m)).2.1⟩, fun x hx => ⟨fun a e => (nomatch e), ?_⟩⟩
    · obtain ⟨o, ho⟩ := th3 a (List.mem_cons_of_mem _ m); exact ⟨o, keep4 a o ho⟩
    · rcases List.mem_cons.mp m with rfl | m
      · exact F1D
      · exact (hW a m).2
    · cases q : C.h₀.get? a with
      | none => exact q
      | some o => have := X0.keep0 a o q; rw [hs0 a m] at this; cases this
    · obtain ⟨o, ho⟩ := itr.there st0 D m; rw [gD] at ho; cases ho
    · rcases hT x hx with q | q
      · refine .inl ?_
        show (relS scope).names.lookup x = _
        rw [relS_lookup, q]; rfl
      · refine .inr ⟨?_, fun c hc => g1.fresh_back (g3.fresh_back (c2 x c q hc))⟩
        show (relS scope).names.lookup x = _
        rw [relS_lookup, q]; rfl
  have itr' : Itr (C.comp names) A F1 tg Dz W I xs St := ⟨itr.frame, itr.there, itr.off, itr.item, itr.done, itr.self⟩
  have st4 : St 0 (pushCells (H3.push { cls := .type "dict", data := .dict #[] }) scope.names) := itr.frame st0 (fun a m o e => keep4 a o (k3 a o e)) fun a o e => keep4 a o (k3 a o (sd0 a o e))
  have lp := hl M itr' st4 (Sub.refl F1) (hD rfl) h (by simpa using of_decide_eq_true hlen)
  have lp2 : codeAny (model C.prog C.w) A (.compLoop (.ListComp elt (⟨tg, iter, ifs, 0⟩ :: rest) scope pos) 0 (.ref I) (.ref D) (compEnvX scope H3.objs.size env)) (Q (.ref D) H3.objs.size) { s2 with heap := pushCells (H3.push { cls := .type "dict", data := .dict #[] }) scope.names } := by
    refine codeAny_mono lp fun r s6 ⟨e6, F6, r6, M6⟩ => hQ _ _ _ _ ?_
    obtain ⟨vs, k, a1, a2⟩ := M6.acc
    obtain ⟨m, hm⟩ := M6.ct.fs.ns
    refine ⟨e6, D, F6, m, rfl, hm, g1.sub.trans r6.1, fun a o q => ?_, ⟨r6.2.2.gens.trans g1.gens, r6.2.2.drawn.trans g1.drawn, r6.2.2.os.trans g1.os⟩, fun b o q => M6.keepB b o q, M6.ct.sat, M6.ct.fs.LF, M6.off _ List.mem_cons_self, ?_, hs0 D List.mem_cons_self, ?_, vs, k, a1, a2⟩
    · rcases r6.2.1 a o q with q | q
      · exact g1.fresh a o q
      · exact .inr q
    · exact g1.fresh_back (g3.fresh_back (get_size _))
    · intro (e : D = H3.objs.size)
      rw [e, get_size] at gD3; cases gD3
  exact start_wp rfl lp2 (wpAny_mono (itr'.self st4 (Q := fun it' s' => codeAny (model C.prog C.w) A (.compLoop (.ListComp elt (⟨tg, iter, ifs, 0⟩ :: rest) scope pos) 0 it' (.ref D) (compEnvX scope H3.objs.size env)) (Q (.ref D) H3.objs.size) s') lp2) (fun _ _ q => q) fun _ _ e => e.elim)
theorem CompOk.facts {scope : Scope} {names : List Str} {nt : Nat} {caps : List Nat} (K : CompOk C sc scope names nt caps) (X : Ct C n sc A env base low F s σ) :
    relabel scope env = relS scope ∧ closureFor scope env = pure (clF env.cells scope.names []) ∧ (∀ x ∈ scope.names, x.2 = .local → scope.names.lookup x.1 = some .local) := by
  have hf : ∀ x ∈ scope.names, x.2 = .free → env.kindOf x.1 = some .cell := fun x hx e => (X.kindOf x.1).trans (K.free x hx e).1
  refine ⟨relabel_eq X.fs.kind hf, closure_eq fun x hx e => ?_, fun x hx e => by rw [← e]; exact lookup_mem K.once hx⟩
  obtain ⟨c, v, h, _⟩ := X.fs.cell x.1 (hf x hx e)
  rw [h]; rfl
theorem SndO.comp {elt : Expr} {rest : List Comprehension} {scope : Scope} {pos : Pos} {tg iter : Expr} {ifs : List Expr} {names : List Str} {nt : Nat} {caps : List Nat} {f : List PyData → Em} {src : St → Option (List PyData)} (T : List Str)
    (K : CompOk C sc scope names nt caps) (hs : SndI C n sc true tg iter src) (hl : Lp (C.comp names) n (relS scope) T elt (⟨tg, iter, ifs, 0⟩ :: rest) scope pos 0 tg f) (hT : ∀ x ∈ T, scope.names.lookup x = some .local ∨ scope.names.lookup x = some .cell)
    (hfs : ∀ env x, foldedSetIterable iter env x = pure x := by intro _ _; rfl) : SndO C n sc (.ListComp elt (⟨tg, iter, ifs, 0⟩ :: rest) scope pos) (compC nt caps src f) := fun {A env base low F s σ d} X h => by
  unfold compC at h
  cases e1 : src σ with
  | none => rw [e1] at h; cases h
  | some xs =>
    rw [e1] at h
    dsimp only at h
    cases e2 : f xs (capC nt caps σ) with
    | none => rw [e2] at h; cases h
    | some out =>
      rw [e2] at h
      dsimp only at h
      split at h
      case isFalse => cases h
      rename_i hlen
      cases h
      obtain ⟨k1, k2, k3⟩ := K.facts X
      rw [eval_ListComp]
      refine wpAny_comprehension_free (use := none) rfl (hfs env) k2 K.kind k3 (wp_mono (hs X e1) fun x s1 h1 => wpAny_mono h1 (fun it s2 p => ?_) fun _ _ e => e)
      rw [k1]
      refine comp_wp K rfl hl hT X p e2 hlen (Q := fun acc L => compPost (model C.prog C.w) A (fun _ _ => False) none (PostO C F s (.list out)) acc L) fun acc L r s' hp => ?_
      obtain ⟨rfl, D, F', m, rfl, hm, sub, fr, sm, kp, st, fL, fD, gL, gD, ne, vs, k, hD, rl⟩ := hp
      refine ⟨m, hm, fun h' hs' => ⟨F', D, rfl, ⟨fun b o q => (hs'.2 b (fun e => by subst e; rw [gL] at q; cases q)).trans (kp b o q), sub, fr, fun a o q => (hs'.2 a (fun e => by subst e; rw [fL] at q; cases q)).trans (st a o q), sm.gens, sm.drawn, sm.os⟩, fD, gD, ?_⟩⟩
      exact .list ((hs'.2 D ne).trans hD) rl
theorem SndS.assignU {i : Nat} {y : Str} {py spos : Pos} {elt : Expr} {rest : List Comprehension} {scope : Scope} {pos : Pos} {tg iter : Expr} {ifs : List Expr} {names : List Str} {nt : Nat} {caps : List Nat} {f : List PyData → Em} {src : St → Option (List PyData)} (T : List Str)
    (hi : C.names[i]? = some y) (hk : sc.names.lookup y = some .local) (hp : NoPin C y) (hln : (py.line == pos.line) = true) (hnn : (scope.names.any fun (n, k) => n == y && (k == .local || k == .cell)) = false)
    (K : CompOk C sc scope names nt caps) (hs : SndI C n sc true tg iter src) (hl : Lp (C.comp names) n (relS scope) T elt (⟨tg, iter, ifs, 0⟩ :: rest) scope pos 0 tg f) (hT : ∀ x ∈ T, scope.names.lookup x = some .local ∨ scope.names.lookup x = some .cell)
    (hfs : ∀ env x, foldedSetIterable iter env x = pure x := by intro _ _; rfl) : SndS C n sc (.Assign [.Name y py] (.ListComp elt (⟨tg, iter, ifs, 0⟩ :: rest) scope pos) spos) (ownC i (compC nt caps src f)) := fun {A env base F s σ r} X h => by
  unfold ownC compC at h
  cases e1 : src σ with
  | none => rw [e1] at h; cases h
  | some xs =>
    rw [e1] at h
    dsimp only at h
    cases e2 : f xs (capC nt caps σ) with
    | none => rw [e2] at h; cases h
    | some out =>
      rw [e2] at h
      dsimp only at h
      split at h
      case h_2 => cases h
      rename_i d hd
      split at hd
      case isFalse => cases hd
      rename_i hlen
      cases hd
      cases h
      have hky : env.kindOf y = some .local := (X.kindOf y).trans hk
      have hsw : swapsWith (.ListComp elt (⟨tg, iter, ifs, 0⟩ :: rest) scope pos) (some (.Name y py)) spos.line env = pure true := by
        have hb : env.blockKind = .function := by unfold Env.blockKind; rw [X.fs.kind]; rfl
        unfold swapsWith
        have hv : (Expr.ListComp elt (⟨tg, iter, ifs, 0⟩ :: rest) scope pos).pos = pos := rfl
        simp only [hb, hky, hv, hln, hnn]; rfl
      obtain ⟨k1, k2, k3⟩ := K.facts X
      rw [exec_Assign_Name_used _ _ _ _ hsw]
      refine wpAny_bind (wpAny_standAt (wpAny_bind ?_))
      show wpAny _ A (do let _ ← comprehension (.ListComp elt (⟨tg, iter, ifs, 0⟩ :: rest) scope pos) scope env _ (newList []) false (eval iter env) (some (PySem.assign (.Name y py) env))) _ _ s
      refine wpAny_bind (wpAny_mono (wpAny_comprehension_free (use := some (PySem.assign (.Name y py) env)) (Q := fun _ s' => PostS C n sc A env base F s (.next, σ.set i (some (true, .list out))) .next s') rfl (hfs env) k2 K.kind k3
        (wp_mono (hs X e1) fun x s1 h1 => wpAny_mono h1 (fun it s2 p => ?_) fun _ _ e => e)) (fun _ s' hq => wpAny_pure (wpAny_pure hq)) fun _ _ e => e)
      rw [k1]
      refine comp_wp K rfl hl hT X p e2 hlen (Q := fun acc L => compPost (model C.prog C.w) A (fun _ _ => False) (some (PySem.assign (.Name y py) env)) (fun _ s' => PostS C n sc A env base F s (.next, σ.set i (some (true, .list out))) .next s') acc L) fun acc L r s' hp' => ?_
      obtain ⟨rfl, D, F', m, rfl, hm, sub, fr, sm, kp, st, fL, fD, gL, gD, ne, vs, k, hD, rl⟩ := hp'
      have G : Grow F s F' s' := ⟨kp, sub, fr, st, sm.gens, sm.drawn, sm.os⟩
      have hgL : ∀ a ∈ [L], s.heap.get? a = none := fun a m => by simp only [List.mem_singleton] at m; subst m; exact gL
      have Y := X.asideNew G hgL
      obtain ⟨q1, q2, q3⟩ := X.low_none gD
      have bD : bs [L] s'.heap base D = none := by rw [bs_out (by simp [ne])]; exact q1
      show wpAny _ A (PySem.assign (.Name y py) env (.ref D)) _ _ _
      refine wpAny_assign_Name (wp_store2 Y.fs hi (MaySt.def Y ⟨.inl hk, hp⟩).2 (.ow (.list hD rl) fD bD q3) (fun a' e _ j z e' _ hj hs' => by cases e; exact X.not_held G gD hj hs') fun s3 hs3 S3 T3 => ?_)
      have Y3 := Y.step Y.k0 (fun e => T3.fwd (hp.ne e)) S3
      have thL : ∀ a ∈ [L], ∃ o, s'.heap.get? a = some o := fun a m' => by
        simp only [List.mem_singleton] at m'; subst m'
        obtain ⟨o, es, ep, ho, _⟩ := hm; exact ⟨o, ho⟩
      have kL : ∀ o, s'.heap.get? L = some o → s3.heap.get? L = some o := fun o e => Y3.fs.keep L o (by rw [bs_in List.mem_cons_self]; exact e)
      have e3 : ∀ {q : Fz}, bs [L] s3.heap q = bs [L] s'.heap q := bs_eq fun a m' => by
        have := thL a m'
        simp only [List.mem_singleton] at m'; subst m'
        exact kept_eq this kL
      refine ⟨m, ?_, fun h' hs' => ?_⟩
      · obtain ⟨o, es, ep, ho, r⟩ := hm; exact ⟨o, es, ep, kL _ ho, r⟩
      · have Y4 : Ct C n sc A env (bs [L] s3.heap base) (bs [L] s3.heap base) F' s3 (σ.set i (some (true, .list out))) := by rw [e3]; exact Y3
        have v4 : Adv [L] F' s3 F' { s3 with heap := h' } := ⟨fun b o q e => (hs'.2 b (by simpa using q)).trans e, Sub.refl F', fun _ _ e => .inl e, fun a o q => (hs'.2 a (fun e => by subst e; rw [fL] at q; cases q)).trans (Y4.sat a o q), rfl, rfl, rfl⟩
        have Y5 := Y4.adv (fun a m' => by
          have := thL a m'
          simp only [List.mem_singleton] at m'; subst m'
          obtain ⟨o, ho⟩ := this; exact ⟨o, kL o ho⟩) (fun a m' => by
          cases q : C.h₀.get? a with
          | none => rfl
          | some o => have := X.keep0 a o q; rw [hgL a m'] at this; cases this) v4
        refine ⟨rfl, F', ((Rel.grow X G).trans (.same hs3)).trans ⟨Sub.refl F', fun _ _ e => .inl e, ⟨rfl, rfl, rfl⟩⟩, Y5.lower (fun b o e => ?_) X.k0⟩
        rw [bs_out fun m' => by have := hgL b m'; rw [X.fs.keep b o e] at this; cases this]; exact e
end Ev
set_option maxRecDepth 10000
namespace Ev
open PySem PySem.W PySem.Spec PySem.Calls PyProof.Rows PySem.SeqAt
variable {C : Cx} {n : Nat} {sc : Scope} {A : Around} {env : Env} {base : Fz} {low : Fz} {F F' : Fz} {s s' : Shared} {σ : St}
structure DefAt (C : Cx) (fa : Addr) (fd : FuncData) (body : List Stmt) : Prop where
  obj : ∃ o, C.h₀.get? fa = some o ∧ o.data = .func fd
  code : C.h₀.CodeRec fd.code fd.qualname
  body : fd.body = .stmts body
  clo : fd.closure = []
  glob : fd.globals = mainGlobals
  blt : fd.builtins = builtinsNs
  co : fd.scope.isCoroutine = false
  gen : fd.scope.isGenerator = false
  kind : fd.scope.kind = .function
  once : (fd.scope.names.map (·.1)).Nodup
  nofree : ∀ x ∈ fd.scope.names, x.2 ≠ .free
theorem DefAt.fn {fa : Addr} {fd : FuncData} {body : List Stmt} (D : DefAt C fa fd body) : FnAtX C fa := ⟨let ⟨o, h, e⟩ := D.obj; ⟨o, fd, h, e⟩⟩
theorem Room.deeper {A : Around} {env : Env} (r : Room (n + 1) A) : Room n (A.deeper env) := ⟨by have := r.dep; show A.depth + 1 + n < _; omega, by have := r.uni; show A.units + 3 + 3 * n + 400 < _; omega, r.hand⟩
theorem bindL_get {kindOf : Str → Option NameKind} : ∀ {binds : List (Str × Value)} {m : Str → Option Value} {x : Str} {v : Value}, (binds.map (·.1)).Nodup → kindOf x = some .local → ((x, v) ∈ binds ∨ (x ∉ binds.map (·.1) ∧ m x = some v)) → bindL kindOf binds m x = some v
  | [], m, x, v, _, _, h => by
    rcases h with h | h
    · cases h
    · exact h.2
  | (y, u) :: r, m, x, v, hn, hk, h => by
    rw [List.map_cons, List.nodup_cons] at hn
    unfold bindL
    refine bindL_get hn.2 hk ?_
    rcases h with h | h
    · rcases List.mem_cons.mp h with e | h
      · cases e
        refine .inr ⟨hn.1, ?_⟩
        rw [if_pos hk]; simp
      · exact .inl h
    · rw [List.map_cons, List.mem_cons, not_or] at h
      refine .inr ⟨h.1.2, ?_⟩
      split
      · dsimp only; rw [if_neg h.1.1]; exact h.2
      · exact h.2
theorem bindC_get {kindOf : Str → Option NameKind} : ∀ {binds : List (Str × Value)} {m : Str → Option Value} {x : Str} {v : Value}, (binds.map (·.1)).Nodup → kindOf x ≠ some .local → ((x, v) ∈ binds ∨ (x ∉ binds.map (·.1) ∧ m x = some v)) → bindC kindOf binds m x = some v
  | [], m, x, v, _, _, h => by
    rcases h with h | h
    · cases h
    · exact h.2
  | (y, u) :: r, m, x, v, hn, hk, h => by
    rw [List.map_cons, List.nodup_cons] at hn
    unfold bindC
    refine bindC_get hn.2 hk ?_
    rcases h with h | h
    · rcases List.mem_cons.mp h with e | h
      · cases e
        refine .inr ⟨hn.1, ?_⟩
        rw [if_neg hk]; simp
      · exact .inl h
    · rw [List.map_cons, List.mem_cons, not_or] at h
      refine .inr ⟨h.1.2, ?_⟩
      split
      · exact h.2
      · dsimp only; rw [if_neg h.1.1]; exact h.2
theorem call_frame {fa : Addr} {fd : FuncData} {body : List Stmt} {vs : List Value} {binds : List (Str × Value)} {Q : Value → Shared → Prop} (D : DefAt C fa fd body) (hr : A.depth < recursionLimit) (hk : ∀ b o, C.h₀.get? b = some o → s.heap.get? b = some o) (hlim : C.h₀.NoLimit)
    (hb : BindsTo s fd ⟨vs, []⟩ binds) (hkind : ∀ x ∈ binds, fd.scope.names.lookup x.1 = some .local ∨ fd.scope.names.lookup x.1 = some .cell)
    (h : ∀ s₁, InCallC s (callEnvC fd s.heap.objs.size fa).locals (bindL (callEnvC fd s.heap.objs.size fa).kindOf binds fun _ => none) (callEnvC fd s.heap.objs.size fa).cells
        (bindC (callEnvC fd s.heap.objs.size fa).kindOf binds fun _ => none) s₁ →
      Wp C (A.deeper (callEnvC fd s.heap.objs.size fa)) (execs body (callEnvC fd s.heap.objs.size fa)) (fun f s' => Q (match f with | .ret v => v | _ => .none) s') s₁) :
    Wp C A (call (.ref fa) vs) Q s := by
  obtain ⟨o, ho, hd⟩ := D.obj
  refine wpAny_call (codeAny_call_function hr (hk _ _ ho) hd D.co D.gen D.body (D.code.keeps hk) (hb _ _ _ _ ?_))
  rw [D.clo]
  refine wpAny_newFunctionEnv_cells D.kind (fun x hx => (hkind x hx).imp id fun q => ⟨q, ?_⟩) fun env he s' x => ?_
  · obtain ⟨c, hc⟩ := cellsFrom_has (k := s.heap.objs.size + 1) (mem_of_lookup q)
    obtain ⟨c', hc'⟩ := lookup_of_mem hc
    rw [hc']; rfl
  · subst he
    refine ⟨(hlim.keeps hk).keeps x.toInCall.keep, codeAny_func (wpAny_mono (h s' x) (fun f s2 q => ?_) fun _ _ e => e.elim)⟩
    exact q
inductive Pa (H : PyData → Int) (F base : Fz) (h : Heap) : List Value → List (Bool × PyData) → List Addr → Prop
  | nil : Pa H F base h [] [] []
  | fz {v d vs vos as} : R H F v d → Pa H F base h vs vos as → Pa H F base h (v :: vs) ((false, d) :: vos) as
  | ow {a d vs vos as} : Ow H F h a d → F a = none → base a = none → a ∉ as → Pa H F base h vs vos as → Pa H F base h (.ref a :: vs) ((true, d) :: vos) (a :: as)
theorem Pa.ofR {H : PyData → Int} {h : Heap} {vs : List Value} {ds : List PyData} (r : RL H F vs ds) : Pa H F base h vs (ds.map fun d => (false, d)) [] := by
  induction vs generalizing ds with
  | nil => cases r; exact .nil
  | cons v vs ih => cases r with | cons r rs => exact .fz r (ih rs)
theorem Pa.fzAt {H : PyData → Int} {h : Heap} {vs : List Value} {vos : List (Bool × PyData)} {as : List Addr} (p : Pa H F base h vs vos as) : ∀ {i : Nat} {d : PyData}, vos[i]? = some (false, d) → ∃ v, vs[i]? = some v ∧ R H F v d := by
  induction p with
  | nil => intro i d e; simp at e
  | fz r _ ih =>
    intro i d e
    cases i with
    | zero => simp at e; subst e; exact ⟨_, rfl, r⟩
    | succ i => simp at e; simpa using ih e
  | ow _ _ _ _ _ ih =>
    intro i d e
    cases i with
    | zero => simp at e
    | succ i => simp at e; simpa using ih e
theorem Pa.owAt {H : PyData → Int} {h : Heap} {vs : List Value} {vos : List (Bool × PyData)} {as : List Addr} (p : Pa H F base h vs vos as) : ∀ {i : Nat} {d : PyData}, vos[i]? = some (true, d) → ∃ a, vs[i]? = some (.ref a) ∧ Ow H F h a d ∧ F a = none ∧ base a = none ∧ a ∈ as := by
  induction p with
  | nil => intro i d e; simp at e
  | fz r _ ih =>
    intro i d e
    cases i with
    | zero => simp at e
    | succ i => simp at e; simpa using ih e
  | ow o f b _ _ ih =>
    intro i d e
    cases i with
    | zero => simp at e; subst e; exact ⟨_, rfl, o, f, b, List.mem_cons_self⟩
    | succ i =>
      simp at e
      obtain ⟨a, h1, h2, h3, h4, h5⟩ := ih e
      exact ⟨a, by simpa using h1, h2, h3, h4, List.mem_cons_of_mem _ h5⟩
theorem Pa.inj {H : PyData → Int} {h : Heap} {vs : List Value} {vos : List (Bool × PyData)} {as : List Addr} (p : Pa H F base h vs vos as) : ∀ {i j : Nat} {d e : PyData} {a : Addr}, vos[i]? = some (true, d) → vos[j]? = some (true, e) → vs[i]? = some (.ref a) → vs[j]? = some (.ref a) → i = j := by
  induction p with
  | nil => intro i j d e a h1; simp at h1
  | fz r _ ih =>
    intro i j d e a h1 h2 h3 h4
    cases i with
    | zero => simp at h1
    | succ i =>
      cases j with
      | zero => simp at h2
      | succ j => simp at h1 h2 h3 h4; rw [ih h1 h2 h3 h4]
  | ow o f b m p ih =>
    have off : ∀ {j : Nat} {d : PyData} {a' : Addr}, _ → _ → _ := fun {j d a'} (h2 : _[j]? = some (true, d)) (h4 : _[j]? = some (Value.ref a')) => (p.owAt h2).elim fun c q => show a' ∈ _ by
      rw [h4] at q
      have := q.1
      cases this
      exact q.2.2.2.2
    intro i j d e a h1 h2 h3 h4
    cases i with
    | zero =>
      cases j with
      | zero => rfl
      | succ j =>
        simp at h1 h2 h3 h4
        exact absurd (h3 ▸ off h2 h4) m
    | succ i =>
      cases j with
      | zero =>
        simp at h1 h2 h3 h4
        exact absurd (h4 ▸ off h1 h3) m
      | succ j => simp at h1 h2 h3 h4; rw [ih h1 h2 h3 h4]
noncomputable def Cx.fn (C : Cx) (names : List Str) (pin : Option (Str × Addr)) : Cx := { C with names := names, pin := pin }
noncomputable def stOf (vos : List (Bool × PyData)) (k : Nat) : St := vos.map some ++ List.replicate k none
theorem sget_stOf {vos : List (Bool × PyData)} {k i : Nat} {p : Bool × PyData} (h : sget (stOf vos k) i = some p) : vos[i]? = some p := by
  unfold sget stOf at h
  by_cases hi : i < vos.length
  · rw [List.getElem?_append_left (by simpa using hi), List.getElem?_map, List.getElem?_eq_getElem hi] at h
    rw [List.getElem?_eq_getElem hi]; exact h
  · rw [List.getElem?_append_right (by simpa using hi), List.getElem?_replicate] at h
    split at h
    · rename_i q; split at q
      · cases q; cases h
      · cases q
    · cases h
theorem frame_ct {fa : Addr} {fd : FuncData} {body : List Stmt} {names ps rest : List Str} {vs : List Value} {vos : List (Bool × PyData)} {as : List Addr} {k : Nat} {pin : Option (Str × Addr)} {s₁ : Shared} (D : DefAt C fa fd body) (hok : C.Ok) (hr : Room (n + 1) A)
    (hs : Sat F s.heap) (hb : ∀ b o, base b = some o → s.heap.get? b = some o) (k0 : ∀ b o, C.h₀.get? b = some o → base b = some o) (hn : names = ps ++ rest) (hnd : names.Nodup) (hl : ps.length = vs.length)
    (hkind : ∀ x ∈ ps, fd.scope.names.lookup x = some .local ∨ fd.scope.names.lookup x = some .cell) (P : Pa C.H F base s.heap vs vos as) (hpin : ∀ x a, pin = some (x, a) → (x, .ref a) ∈ ps.zip vs)
    (x : InCallC s (callEnvC fd s.heap.objs.size fa).locals (bindL (callEnvC fd s.heap.objs.size fa).kindOf (ps.zip vs) fun _ => none) (callEnvC fd s.heap.objs.size fa).cells (bindC (callEnvC fd s.heap.objs.size fa).kindOf (ps.zip vs) fun _ => none) s₁) :
    Ct (C.fn names pin) n fd.scope (A.deeper (callEnvC fd s.heap.objs.size fa)) (callEnvC fd s.heap.objs.size fa) base base F s₁ (stOf vos k) := by
  have fst : (ps.zip vs).map (·.1) = ps := by rw [List.map_fst_zip (by omega)]
  have hps : ps.Nodup := by rw [hn] at hnd; exact (List.nodup_append.mp hnd).1
  have hF : ∀ {a}, s.heap.get? a = none → F a = none := fun h => sat_fresh hs h
  have hB : ∀ {a}, s.heap.get? a = none → base a = none := fun {a} h => by
    cases q : base a with
    | none => rfl
    | some o => rw [hb a o q] at h; cases h
  have new : ∀ {a}, s.heap.objs.size ≤ a → s.heap.get? a = none := fun {a} h => by
    cases q : s.heap.get? a with
    | none => rfl
    | some o => exact absurd (Heap.lt_size q) (Nat.not_lt.mpr h)
  have hL : (callEnvC fd s.heap.objs.size fa).locals = s.heap.objs.size := rfl
  have lk : ∀ {y v}, (y, v) ∈ ps.zip vs → Lk (callEnvC fd s.heap.objs.size fa) s₁.heap y v := fun {y v} h => by
    have hy : y ∈ ps := by rw [← fst]; exact List.mem_map_of_mem (f := (·.1)) h
    rcases hkind y hy with q | q
    · exact .loc q x.toInCall.ns (bindL_get (by rw [fst]; exact hps) q (.inl h))
    · obtain ⟨c, hc⟩ := cellsFrom_has (k := s.heap.objs.size + 1) (mem_of_lookup q)
      obtain ⟨c', hc'⟩ := lookup_of_mem hc
      have hq : (callEnvC fd s.heap.objs.size fa).kindOf y = some .cell := q
      have := x.cell y c' hc'
      rw [bindC_get (by rw [fst]; exact hps) (by rw [hq]; simp) (.inl h)] at this
      exact .cell q hc' this
  have at' : ∀ {i y v}, names[i]? = some y → vs[i]? = some v → (y, v) ∈ ps.zip vs := fun {i y v} h1 h2 => by
    have hi : i < vs.length := (List.getElem?_eq_some_iff.mp h2).1
    rw [hn, List.getElem?_append_left (by omega)] at h1
    refine List.mem_of_getElem? (i := i) ?_
    rw [List.getElem?_zip_eq_some]
    exact ⟨h1, h2⟩
  refine ⟨⟨hok.g, hok.b, hok.lim, hok.hH⟩, hr.deeper, rfl, k0, ?_, fun y a e => lk (hpin y a e)⟩
  exact {
    kind := D.kind, glob := D.glob, blt := D.blt, nodup := hnd
    keep := fun b o e => x.toInCall.keep b o (hb b o e)
    keepL := fun b o e => x.toInCall.keep b o (hb b o e)
    sat := fun a o e => x.toInCall.keep a o (hs a o e)
    ns := ⟨_, x.toInCall.ns⟩
    LF := hF (get_size _), Lb := hB (get_size _), Ll := hB (get_size _)
    cell := fun y hy => by
      obtain ⟨c, hc⟩ := cellsFrom_has (k := s.heap.objs.size + 1) (mem_of_lookup (show fd.scope.names.lookup y = some .cell from hy))
      obtain ⟨c', hc'⟩ := lookup_of_mem hc
      have hlt := x.above y c' (mem_of_lookup hc')
      have n0 : s.heap.get? c' = none := new (Nat.le_of_lt hlt)
      exact ⟨c', _, hc', x.cell y c' hc', hF n0, hB n0⟩
    cinj := fun y z c _ _ h1 h2 => name_of_addr x.apart (mem_of_lookup h1) (mem_of_lookup h2)
    free := fun y c hy _ => absurd rfl (D.nofree _ (mem_of_lookup (show fd.scope.names.lookup y = some .free from hy)))
    vars := fun i y d hi hd => by
      obtain ⟨v, h1, h2⟩ := P.fzAt (sget_stOf hd)
      exact ⟨v, lk (at' hi h1), h2⟩
    own := fun i y d hi hd => by
      obtain ⟨a, h1, h2, h3, h4, _⟩ := P.owAt (sget_stOf hd)
      obtain ⟨o, ho⟩ := h2.there
      refine ⟨a, lk (at' hi h1), h2.grow (Sub.refl F) (fun o e => x.toInCall.keep a o e), h3, h4, ?_⟩
      rw [hL]; rintro rfl; rw [get_size] at ho; cases ho
    oinj := fun i j y z d e a hi hj hd he ly lz => by
      obtain ⟨a1, h1, _⟩ := P.owAt (sget_stOf hd)
      obtain ⟨a2, h2, _⟩ := P.owAt (sget_stOf he)
      cases ly.uniq (lk (at' hi h1))
      cases lz.uniq (lk (at' hj h2))
      exact P.inj (sget_stOf hd) (sget_stOf he) h1 h2 }
noncomputable def fnD (f : Sm) (exd : List PyData) (k : Nat) (ds : List PyData) : Option PyData := match f (stOf ((ds ++ exd).map fun d => (false, d)) k) with
  | some (.ret d, _) => some d
  | _ => none
theorem FnOk.mk {fa : Addr} {fd : FuncData} {body : List Stmt} {names ps rest : List Str} {f : Sm} {ex : List Value} {exd : List PyData} {np k : Nat} (D : DefAt C fa fd body) (hok : C.Ok)
    (hbind : ∀ {s : Shared} {vs : List Value}, vs.length = np → (∀ b o, C.h₀.get? b = some o → s.heap.get? b = some o) → BindsTo s fd ⟨vs, []⟩ (ps.zip (vs ++ ex))) (hex : ∀ F, RL C.H F ex exd)
    (hn : names = ps ++ rest) (hnd : names.Nodup) (hl : ps.length = np + ex.length) (hkind : ∀ x ∈ ps, fd.scope.names.lookup x = some .local ∨ fd.scope.names.lookup x = some .cell)
    (hb : SndSs (C.fn names Option.none) n fd.scope body f) : FnOk C (n + 1) fa (fun ds => if ds.length = np then fnD f exd k ds else Option.none) := fun {A F s vs ds d} hr hk hs r h => by
  dsimp only at h
  split at h
  case isFalse => cases h
  rename_i hds
  unfold fnD at h
  split at h
  case h_2 => cases h
  rename_i d' σ' e
  cases h
  have hv : vs.length = np := by rw [r.length, hds]
  refine call_frame D (by have := hr.dep; omega) hk hok.lim (hbind hv hk) (fun x hx => hkind x.1 (List.of_mem_zip hx).1) fun s₁ x => ?_
  have X := frame_ct (k := k) (base := fun a => s.heap.get? a) (pin := Option.none) D hok hr hs (fun _ _ e => e) hk hn hnd (by rw [List.length_append, hv]; exact hl) hkind (Pa.ofR (r.append (hex F))) (fun _ _ e => nomatch e) x
  refine wp_mono (hb X e) fun fl s2 p => ?_
  obtain ⟨v, rfl, F2, r2, rv, kp, sa⟩ := p
  obtain ⟨h1, tk, hs1, _⟩ := x.done
  subst hs1
  exact ⟨F2, ⟨kp, r2.1, r2.2.1, sa, r2.2.2.gens, r2.2.2.drawn, r2.2.2.os⟩, rv⟩
end Ev
set_option maxRecDepth 10000
namespace Ev
open PySem PySem.W PySem.Spec PySem.Calls PyProof.Rows PySem.SeqAt
variable {C : Cx} {n : Nat} {sc : Scope} {A : Around} {env : Env} {base : Fz} {low : Fz} {F F' : Fz} {s s' : Shared} {σ : St}
noncomputable def neverC : Sm := fun _ => none
theorem SndSs.never {sts : List Stmt} : SndSs C n sc sts neverC := fun _ h => nomatch h
/-! e is None -/
noncomputable def isNoneD : PyData → Option Bool
  | .none => some true
  | .int _ => some false
  | _ => none
noncomputable def isNoneC (f : St → Option PyData) : St → Option Bool := fun σ => match f σ with
  | some d => isNoneD d
  | none => none
theorem SndT.isNone {a : Expr} {k : Nat} {p pos : Pos} {f : St → Option PyData} (ha : Snd C n sc a f) : SndT C n sc (.Compare a [.Is] [.Constant .none k p] pos) (isNoneC f) := fun {A env base low F s σ b} X h => by
  unfold isNoneC at h
  cases e : f σ with
  | none => rw [e] at h; cases h
  | some d =>
    rw [e] at h
    dsimp only at h
    refine wpAny_isTrue_Compare1 (wp_mono (ha X e) fun v1 s1 ⟨F1, g1, r1⟩ => wpAny_Constant_none ?_) (by with_unfolding_all rfl)
    unfold isNoneD at h
    split at h
    · cases h
      cases r1
      exact is_none_none (wpAny_truthy_bool ⟨rfl, F1, g1⟩)
    · cases h
      obtain ⟨t, rfl⟩ := r1.toInt
      exact is_int_none (wpAny_truthy_bool ⟨rfl, F1, g1⟩)
    · cases h
/-! k in d, d a dict -/
noncomputable def inKD : PyData → PyData → Option Bool
  | k, .dict kvs => if okKey kvs k then some (lookK kvs k).isSome else none
  | _, _ => none
noncomputable def inKC (f g : St → Option PyData) : St → Option Bool := fun σ => match f σ with
  | some k => match g σ with
    | some d => inKD k d
    | none => none
  | none => none
theorem Bw.dictIs {H : PyData → Int} {h : Heap} (st : Sat F h) {v : Value} {kvs : List (PyData × PyData)} (b : Bw H F h v (.dict kvs)) : ∃ a o es m kd, v = .ref a ∧ (a == sysModules) = false ∧ h.get? a = some o ∧ o.ExactDict ∧ o.data = .dict es m ∧ RD H F kd es.toList kvs ∧ (kvs.map (·.1)).Nodup := by
  cases b with
  | fz r => cases r with | dict h0 h1 h2 h3 h4 h5 => exact ⟨_, _, _, _, _, rfl, h0, st _ _ h1, h2, h3, h4, h5⟩
  | ow o => cases o with | dict h0 h1 h2 h3 h4 h5 => exact ⟨_, _, _, _, _, rfl, h0, h1, h2, h3, h4, h5⟩
theorem in_dict {key dv : Value} {k : PyData} {kvs : List (PyData × PyData)} {Q : Value → Shared → Prop} {E : Value → Shared → Prop} (hH : ∀ d, C.H d = hashK C.w d) (hu : A.units + 400 < cLine) (hs : Sat F s.heap) (b : Bw C.H F s.heap dv (.dict kvs)) (rk : R C.H F key k) (hk : okKey kvs k = true)
    (h : ∀ t, Q (.bool (lookK kvs k).isSome) { s with toks := t }) : wpAny (model C.prog C.w) A (compareOp .In key dv) Q E s := by
  obtain ⟨a, o, es, m, kd, rfl, hsm, ho, hx, hd, r, hn⟩ := b.dictIs hs
  have hT : s.TypeIs (.ref a) "dict" := ⟨o, ho, hx.1⟩
  show wpAny _ _ (do return .bool (← contains (.ref a) key)) Q E s
  refine wpAny_bind ?_
  unfold contains
  try with_reducible refine wpAny_holding ?_
  refine wpAny_bind (wpAny_specialOf hT slot_dict_contains.lookup ?_)
  show wpAny _ _ (if (some (Value.builtin "dict.__contains__") == some Value.none) = true then _ else _) _ E s
  rw [if_neg (by rw [beq_builtin_none]; exact Bool.false_ne_true)]
  refine wpAny_bind (wpAny_callSpecialUnlessNone?_slot (name := Str.ofString "__contains__") hT slot_dict_contains
    (wpAny_call_entry slot_dict_contains hT entry_dict_contains ?_ (args_dict_contains _ _)))
  show wpAny _ _ (dictGet a key >>= _) _ _ s
  refine wpAny_bind (dget_wp hH (by show A.units + 1 + 100 < _; omega) hs ho hd r hn rk hk fun t ov hov => ?_)
  cases hf : lookK kvs k with
  | some v =>
    rw [hf] at h hov
    obtain ⟨v', rfl, _⟩ := hov
    show wpAny _ _ (ret (.bool true)) _ _ _
    exact wpAny_pure ⟨_, rfl, wpAny_truthy_bool (wpAny_pure (h t))⟩
  | none =>
    rw [hf] at h hov
    subst hov
    show wpAny _ _ (Builtin.Dict.pendingKey? a key >>= _) _ _ _
    exact wpAny_bind (wpAny_pendingKey_other hsm (wpAny_pure ⟨_, rfl, wpAny_truthy_bool (wpAny_pure (h t))⟩))
theorem SndT.inK {a b : Expr} {pos : Pos} {f g : St → Option PyData} (ha : Snd C n sc a f) (hb : SndB C n sc b g) (hm : behindInMarks .In b = false := by with_unfolding_all rfl) : SndT C n sc (.Compare a [.In] [b] pos) (inKC f g) := fun {A env base low F s σ c} X h => by
  unfold inKC at h
  cases e1 : f σ with
  | none => rw [e1] at h; cases h
  | some d1 =>
    cases e2 : g σ with
    | none => rw [e1, e2] at h; cases h
    | some d2 =>
      rw [e1, e2] at h
      dsimp only at h
      unfold inKD at h
      split at h
      · split at h
        · rename_i hk
          cases h
          refine wpAny_isTrue_Compare1 (wp_mono (ha X e1) fun v1 s1 ⟨F1, g1, r1⟩ => wp_mono (hb (X.grow g1) e2) fun v2 s2 ⟨F2, g2, r2⟩ => ?_) hm
          refine in_dict X.ok.hH X.room.in1 g2.sat r2 (r1.mono g2.sub) hk fun t => wpAny_truthy_bool ⟨rfl, F2, (g1.trans g2).trans (.tok g2.sat t)⟩
        · cases h
      · cases h
/-! while -/
noncomputable def whileC (t : St → Option Bool) (body : Sm) : Nat → Sm
  | 0, _ => none
  | k + 1, σ => match t σ with
    | some true => match body σ with
      | some (.next, σ') => whileC t body k σ'
      | r => r
    | some false => some (.next, σ)
    | none => none
theorem SndS.while {test : Expr} {body : List Stmt} {pos : Pos} {t : St → Option Bool} {fb : Sm} (fuel : Nat) (ht : SndT C n sc test t) (hb : SndSs C n sc body fb) : SndS C n sc (.While test body [] pos) (whileC t fb fuel) := fun {A env base F s σ r} X h => by
  refine wpAny_While (codeAny_whileLoop (fun k s' => ∃ F' σ', Rel base F s F' s' ∧ Ct C n sc A env base base F' s' σ' ∧ whileC t fb k σ' = some r) ?_ fuel ⟨F, σ, .refl F s, X, h⟩)
  rintro k s' ⟨F1, σ1, r1, X1, h1⟩
  cases k with
  | zero => cases h1
  | succ k =>
    simp only [whileC] at h1
    cases e : t σ1 with
    | none => rw [e] at h1; cases h1
    | some b =>
      refine wpAny_mono (ht X1 e) (fun b' s2 ⟨eb, F2, g2⟩ => ?_) fun _ _ e => e.elim
      subst eb
      have X2 := X1.grow g2
      have r2 : Rel base F s F2 s2 := r1.trans (.grow X1 g2)
      cases b' with
      | false =>
        rw [e] at h1; cases h1
        simp only [Bool.false_eq_true, if_false]
        exact wpAny_execs_nil ⟨rfl, F2, r2, X2⟩
      | true =>
        rw [e] at h1
        simp only [if_true]
        dsimp only at h1
        cases e2 : fb σ1 with
        | none => rw [e2] at h1; cases h1
        | some rr =>
          rw [e2] at h1
          refine wpAny_mono (hb X2 e2) (fun fl s3 p => ?_) fun _ _ e => e.elim
          obtain ⟨f3, σ3⟩ := rr
          cases f3 with
          | next =>
            obtain ⟨rfl, F3, r3, X3⟩ := p
            exact ⟨k, Nat.lt_succ_self _, F3, σ3, r2.trans r3, X3, h1⟩
          | ret d =>
            cases h1
            obtain ⟨v, rfl, rest⟩ := p
            exact PostS.of r2 ⟨v, rfl, rest⟩
/-! x.insert(i, e) -/
noncomputable def insK (ds : List PyData) (i : Nat) (x : PyData) : List PyData := ds.take i ++ x :: ds.drop i
noncomputable def insertC (j : Nat) (fi fx : St → Option PyData) : Sm := fun σ => match sget σ j with
  | some (true, .list ds) => match fi σ with
    | some (.int i) => match fx σ with
      | some x => if decide (0 ≤ i) && decide (i ≤ ds.length) && decide (ds.length ≤ 1048576) then some (.next, σ.set j (some (true, .list (insK ds i.toNat x)))) else none
      | none => none
    | _ => none
  | _ => none
theorem insert_ow {a : Addr} {ds : List PyData} {i : Int} {t : Tok} {x : PyData} {v : Value} {Q : Value → Shared → Prop} {E : Value → Shared → Prop} (o : Ow C.H F s.heap a (.list ds)) (r : R C.H F v x) (h0 : 0 ≤ i) (h1 : i ≤ ds.length) (hz : ds.length ≤ 1048576)
    (hQ : ∀ h', Ow C.H F h' a (.list (insK ds i.toNat x)) → Heap.SameBut a s.heap h' → Q .none { s with heap := h' }) : wpAny (model C.prog C.w) A (call (.builtin "list.insert") [.ref a, .int i t, v]) Q E s := by
  cases o with
  | @list vs m _ ho rl =>
    have hsz := rl_arr rl
    have hfit : ¬ (!Builtin.List.listFitsIndex i) = true := by
      simp only [Builtin.List.listFitsIndex]
      simp
      omega
    have hobj : s.TypeIs (.ref a) "list" := ⟨_, ho, rfl⟩
    refine call_meets PySem.F.slot_list_insert hobj PySem.F.entry_list_insert (PySem.F.args_list_insert_3 ..) (PySem.AutoSeq1.list_insert_list_int_val_1 a vs m i t v hfit (by rw [hsz, sizeLine_eq]; omega)) ⟨ho, ?_⟩
    refine hQ _ (.list (vs := (vs.extract 0 (min i.toNat vs.size)).push v ++ vs.extract (min i.toNat vs.size)) (n := if ((vs.extract 0 (min i.toNat vs.size)).push v ++ vs.extract (min i.toNat vs.size)).size == vs.size then m else m + 1) ?_ ?_) (Heap.SameBut.update ..)
    · rw [Heap.get?_update_self _ ho (by rfl)]
      show some (Obj.mapSeq _ { cls := .type "list", dict := none, data := .seq vs m, slots := #[] }) = _
      unfold Obj.mapSeq
      dsimp only
      rw [if_neg (by omega)]
    · have hk : min i.toNat vs.size = i.toNat := by omega
      rw [hk]
      have e1 : ((vs.extract 0 i.toNat).push v ++ vs.extract i.toNat).toList = vs.toList.take i.toNat ++ v :: vs.toList.drop i.toNat := by
        simp [List.take_of_length_le]
      rw [e1]
      exact (rl.take _).append (.cons r (rl.drop _))
theorem SndS.insert {j : Nat} {x : Str} {px apos cpos pos : Pos} {e1 e2 : Expr} {fi fx : St → Option PyData} (hi : C.names[j]? = some x) (h1 : Snd C n sc e1 fi) (h2 : Snd C n sc e2 fx) (hst : ∀ env, starEach [e1, e2] env = (false, eval e1 env) :: starEach [e2] env := by intro _; rfl) (hst2 : ∀ env, starEach [e2] env = (false, eval e2 env) :: starEach [] env := by intro _; rfl) (hpl : ∀ env, (backTo cpos (starEach [e2] env)).any (·.1) = false := by intro _; rfl) (hd : (x == ("__debug__" : Str)) = false := by decide) (hc : (x == ("__classdict__" : Str)) = false := by decide)
    (hbase : ∀ env, attributeBase (.Name x px) "insert" env (eval (.Name x px) env) = eval (.Name x px) env := by intro _; rfl) (hline : (apos.endLine == cpos.line) = true := by rfl) (hin : ∀ env, env.scope.kind = .function → interactive env = false := by intro env h; simp [interactive, h]) :
    SndS C n sc (.Expr (.Call (.Attribute (.Name x px) "insert" apos) [e1, e2] [] cpos) pos) (insertC j fi fx) := fun {A env base F s σ r} X h => by
  unfold insertC at h
  split at h
  · rename_i ds q1
    split at h
    · rename_i i q2
      cases q3 : fx σ with
      | none => rw [q3] at h; cases h
      | some y =>
        rw [q3] at h
        dsimp only at h
        split at h
        · rename_i hz
          cases h
          simp only [Bool.and_eq_true, decide_eq_true_eq] at hz
          refine PySem.wpAny_Expr (wpAny_Call_method (T := "list") (id := "list.insert") (hbase env) (by rw [hst, hst2]; rfl) hline PySem.F.plainAttrs_list PySem.F.slot_list_insert PySem.F.type_list_insert (X.load_own hi q1 hd hc fun a l o f b => ?_)) (hin env X.fs.kind) rfl
          have hob : ∃ vs m, s.heap.get? a = some (seqObj "list" vs m) := by cases o with | list ho _ => exact ⟨_, _, ho⟩
          obtain ⟨vs, m, hob⟩ := hob
          refine ⟨⟨_, hob, rfl⟩, fun c e => by cases e; exact ⟨_, hob, rfl⟩, ?_⟩
          refine PyProof.Rows.callWith_method1 (args_cons (wp_mono (h1 X q2) fun v1 s1 ⟨F1, g1, r1⟩ => args_cons (wp_mono (h2 (X.grow g1) q3) fun v2 s2 ⟨F2, g2, r2⟩ => args_nil ?_) (hst2 env)) (hst env)) (hst env) (hpl env)
          obtain ⟨t, rfl⟩ := r1.toInt
          have g := g1.trans g2
          refine insert_ow (o.grow g.sub (g.keep a)) r2 hz.1.1 hz.1.2 hz.2 fun h' o' sb => ?_
          refine ⟨rfl, F2, (Rel.grow X g).trans (.same ⟨rfl, rfl, rfl⟩), ?_⟩
          exact (X.grow g).change (s1 := { s2 with heap := h' }) hi q1 (l.keeps g.keep) b o' fun c o'' hc' q => (sb.2 c hc').trans q
        · cases h
    · cases h
  · cases h
end Ev
set_option maxRecDepth 10000
namespace Ev
open PySem PySem.W PySem.Spec PySem.Calls PyProof.Rows PySem.SeqAt
variable {C : Cx} {n : Nat} {sc : Scope} {A : Around} {env : Env} {base : Fz} {low : Fz} {F F' : Fz} {s s' : Shared} {σ : St}
theorem FnOk.toB {fa : Addr} {g : List PyData → Option PyData} (h : FnOk C n fa g) (hi : ∀ ds d, g ds = some d → ∃ i, d = .int i) : FnB C n fa g := fun {A F s vs ds d} hr hk hs b e => by
  have sub : Sub F (fun a => s.heap.get? a) := fun a o q => hs a o q
  have go : ∀ {vs ds}, BwL C.H F s.heap vs ds → RL C.H (fun a => s.heap.get? a) vs ds := fun {vs ds} b => by
    induction b with
    | nil => exact .nil
    | cons b _ ih =>
      refine .cons ?_ ih
      cases b with
      | fz r => exact r.mono sub
      | ow o => cases o with
        | list ho r => exact .list ho (r.mono sub)
        | dict h0 h1 h2 h3 h4 h5 => exact .dict h0 h1 h2 h3 (h4.mono sub) h5
  refine wp_mono (h hr hk (F := fun a => s.heap.get? a) (fun _ _ q => q) (go b) e) fun v s1 ⟨F1, g1, r1⟩ => ?_
  obtain ⟨i, rfl⟩ := hi _ _ e
  obtain ⟨t, rfl⟩ := r1.toInt
  exact ⟨F, ⟨g1.keep, Sub.refl F, fun _ _ q => .inl q, fun a o q => g1.keep a o (hs a o q), g1.gens, g1.drawn, g1.os⟩, .int _ _⟩
theorem NoPin.of {x y : Str} {a : Addr} (e : C.pin = some (x, a)) (h : y ≠ x) : NoPin C y := fun b q => by rw [e] at q; cases q; exact h rfl
theorem NoPin.none (e : C.pin = none) (y : Str) : NoPin C y := fun b q => by rw [e] at q; cases q
noncomputable def insD (f : Sm) (exd : List PyData) (k : Nat) (d x : PyData) : Option PyData := match f (stOf ((true, d) :: (false, x) :: exd.map fun d => (false, d)) k) with
  | some (.next, σ') => match sget σ' 0 with
    | some (true, d') => some d'
    | _ => none
  | _ => none
theorem FnIns.mk {fa : Addr} {fd : FuncData} {body : List Stmt} {names rest ps : List Str} {xa xx : Str} {f : Sm} {ex : List Value} {exd : List PyData} {k : Nat} (D : DefAt C fa fd body) (hok : C.Ok)
    (hbind : ∀ {s : Shared} {v w : Value}, (∀ b o, C.h₀.get? b = some o → s.heap.get? b = some o) → BindsTo s fd ⟨[v, w], []⟩ ((xa :: xx :: ps).zip (v :: w :: ex))) (hex : ∀ F, RL C.H F ex exd)
    (hn : names = (xa :: xx :: ps) ++ rest) (hnd : names.Nodup) (hl : ps.length = ex.length) (hkind : ∀ x ∈ xa :: xx :: ps, fd.scope.names.lookup x = some .local ∨ fd.scope.names.lookup x = some .cell)
    (hb : ∀ a, SndSs (C.fn names (some (xa, a))) n fd.scope body f) : FnIns C (n + 1) fa (insD f exd k) := fun {A F s a v d x d'} hr hk h0 hs hFa ow rx h => by
  unfold insD at h
  split at h
  case h_2 => cases h
  rename_i σ' e
  split at h
  case h_2 => cases h
  rename_i d2 e2
  cases h
  have hk' : ∀ b o, C.h₀.get? b = some o → s.heap.get? b = some o := fun b o q => hk b o q fun e => by rw [e, h0] at q; cases q
  refine call_frame D (by have := hr.dep; omega) hk' hok.lim (hbind hk') (fun x hx => hkind x.1 (List.of_mem_zip hx).1) fun s₁ x => ?_
  have P : Pa C.H F (fun b => if b = a then none else s.heap.get? b) s.heap (.ref a :: v :: ex) ((true, d) :: (false, _) :: exd.map fun d => (false, d)) [a] :=
    .ow ow hFa (by simp) (by simp) (.fz rx (.ofR (hex F)))
  have X := frame_ct (k := k) (pin := some (xa, a)) (rest := rest) (names := names) D hok hr hs (fun b o e => by split at e; cases e; exact e) (fun b o q => by rw [if_neg (fun e => by rw [e, h0] at q; cases q)]; exact hk' b o q) hn hnd (by simp [hl]) hkind P (fun y b e => by cases e; exact List.mem_cons_self) x
  refine wp_mono (hb a X e) fun fl s2 p => ?_
  obtain ⟨rfl, F2, r2, X2⟩ := p
  obtain ⟨h1, tk, hs1, _⟩ := x.done
  subst hs1
  have hi : (C.fn names (some (xa, a))).names[0]? = some xa := by rw [show (C.fn names (some (xa, a))).names = names from rfl, hn]; rfl
  obtain ⟨a', l, ow2, f2, b2, _⟩ := X2.fs.own 0 xa _ hi e2
  have := l.uniq (X2.pin xa a rfl)
  cases this
  refine ⟨rfl, F2, r2.1, fun b o q => ?_, X2.sat, ow2, fun b o hne q => X2.fs.keep b o (by rw [if_neg hne]; exact q), ⟨r2.2.2.gens, r2.2.2.drawn, r2.2.2.os⟩⟩
  rcases r2.2.1 b o q with q' | q'
  · exact .inl q'
  · right
    by_cases hba : b = a
    · subst hba; rw [f2] at q; cases q
    · dsimp only at q'; rw [if_neg hba] at q'; exact q'
/-! the parameters of insort_left and bisect_left -/
structure InsDef (C : Cx) (fd : FuncData) where
  tk : Tok
  b2 : ∀ {s : Shared}, (∀ b o, C.h₀.get? b = some o → s.heap.get? b = some o) → ∀ v w, BindsTo s fd ⟨[v, w], []⟩ [("a", v), ("x", w), ("lo", .int 0 tk), ("hi", .none), ("key", .none)]
  b4 : ∀ {s : Shared}, (∀ b o, C.h₀.get? b = some o → s.heap.get? b = some o) → ∀ v w u z, BindsTo s fd ⟨[v, w, u, z], []⟩ [("a", v), ("x", w), ("lo", u), ("hi", z), ("key", .none)]
noncomputable def kdK (K : Frag) (T : Addr) : Bool := match K.lookup T with
  | some o => match o.data with
    | .dict es _ => match es.toList with
      | [e] => (match e.key with | .str x _ => x == "key" | _ => false) && (match e.val with | .none => true | _ => false)
      | _ => false
    | _ => false
  | none => false
theorem kd_of {K : Frag} {h : Heap} {T : Addr} (X : K.In h) (e : kdK K T = true) : ∃ o es m e t, h.get? T = some o ∧ o.data = .dict es m ∧ es.toList = [e] ∧ e.key = .str "key" t ∧ e.val = .none := by
  unfold kdK at e
  split at e
  · rename_i o ho
    split at e
    · rename_i es m hd
      split at e
      · rename_i en hes
        simp only [Bool.and_eq_true] at e
        obtain ⟨e1, e2⟩ := e
        split at e1
        · rename_i x t hk
          split at e2
          · rename_i hv
            have hx : x = "key" := by simpa using e1
            subst hx
            exact ⟨o, es, m, en, t, X _ _ ho, hd, hes, hk, hv⟩
          · cases e2
        · cases e1
      · cases e
    · cases e
  · cases e
theorem kd_ns {K : Frag} {h : Heap} {T : Addr} (X : K.In h) (e : kdK K T = true) : ∃ m, h.Ns T m ∧ m "key" = some .none := by
  obtain ⟨o, es, m, e, t, h2, h3, h4, h5, h6⟩ := kd_of X e
  have hes : es = #[e] := by rw [← Array.toList_inj]; exact h4
  subst hes
  refine ⟨fun x => nsFind #[e] x, ⟨o, _, m, h2, h3, fun e' he => ?_, fun _ => rfl⟩, ?_⟩
  · simp only [List.mem_toArray, List.mem_singleton] at he
    subst he; exact ⟨_, _, h5⟩
  · simp [nsFind, findBy, h5, h6, Value.isStr]
theorem binds_of {K : Frag} (X : K.In C.h₀) (hk : ∀ b o, C.h₀.get? b = some o → s.heap.get? b = some o) {fd : FuncData} {args : Args} {binds : List (Str × Value)} {T D : Addr} {o : Obj} {vs : Array Value} {m : Nat} {k : Option (Array Value) → Sem (List (Str × Value))} {α β : Type} {g : Option Value → Sem α} {p : α → Sem β} {r : β → Sem (List (Str × Value))} {x : α} {y : β}
    (h1 : bindArgs fd args = seqItems? (.ref T) >>= k) (ho : K.lookup T = some o) (hd : o.data = .seq vs m) (h2 : k (some vs) = ((nsGet D "key" >>= g) >>= p) >>= r) (hkd : kdK K D = true) (h3 : g (some .none) = pure x) (h4 : p x = pure y) (h5 : r y = pure binds) : BindsTo s fd args binds := fun _ _ _ _ hq => by
  rw [h1]
  refine wpAny_bind (wpAny_seqItems (hk _ _ (X _ _ ho)) hd ?_)
  rw [h2]
  obtain ⟨mm, hn, e⟩ := kd_ns X hkd
  refine wpAny_bind (wpAny_bind (wpAny_bind (wpAny_nsGet (hn.keeps hk) ?_)))
  rw [e, h3]
  refine wpAny_pure ?_
  rw [h4]
  refine wpAny_pure ?_
  rw [h5]
  exact wpAny_pure hq
end Ev
set_option maxRecDepth 10000
namespace Ev
open PySem PySem.W PySem.Spec PySem.Calls PyProof.Rows PySem.SeqAt
variable {C : Cx} {n : Nat} {sc : Scope} {A : Around} {env : Env} {base : Fz} {low : Fz} {F F' : Fz} {s s' : Shared} {σ : St}
/-! the text's defs -/
noncomputable def defAt (p : Program) (i : Nat) : Stmt := p.main.body.getD i (.Pass ⟨0, 0, 0, 0⟩)
noncomputable def bodyS : Stmt → List Stmt
  | .FunctionDef _ _ b _ _ _ _ _ _ _ => b
  | _ => []
noncomputable def scopeS : Stmt → Scope
  | .FunctionDef _ _ _ _ _ _ s _ _ _ => s
  | _ => { kind := .function, names := [], isGenerator := false, isCoroutine := false }
noncomputable def paramS : Stmt → Arguments
  | .FunctionDef _ a _ _ _ _ _ _ _ _ => a
  | _ => { posonlyargs := [], args := [], vararg := none, kwonlyargs := [], kw_defaults := [], kwarg := none, defaults := [] }
noncomputable def nameS : Stmt → Str
  | .FunctionDef x _ _ _ _ _ _ _ _ _ => x
  | _ => ""
noncomputable def nodupB : List Str → Bool
  | [] => true
  | x :: r => !r.contains x && nodupB r
theorem nodupB_ok : ∀ {l : List Str}, nodupB l = true → l.Nodup
  | [], _ => List.nodup_nil
  | x :: r, h => by
    simp only [nodupB, Bool.and_eq_true, Bool.not_eq_true'] at h
    refine List.nodup_cons.mpr ⟨fun m => ?_, nodupB_ok h.2⟩
    have := List.elem_eq_true_of_mem m
    have h1 := h.1
    unfold List.contains at h1
    rw [h1] at this; cases this
noncomputable def compB (outer : List Str) (sc scope : Scope) (names : List Str) (nt : Nat) (caps : List Nat) : Bool :=
  scope.kind == .function && (nodupB names && (nodupB (scope.names.map (·.1)) && (scope.names.all (fun x => x.2 != .free || (sc.names.lookup x.1 == some .cell && outer.contains x.1)) && ((caps.map fun i => outer[i]?) == (names.drop nt).map some &&
    (names.drop nt).all fun y => scope.names.lookup y == some .free))))
theorem CompOk.of {scope : Scope} {names : List Str} {nt : Nat} {caps : List Nat} (h : compB C.names sc scope names nt caps = true) : CompOk C sc scope names nt caps := by
  unfold compB at h
  simp only [Bool.and_eq_true] at h
  obtain ⟨h1, h2, h3, h4, h5, h6⟩ := h
  refine ⟨by simpa using h1, nodupB_ok h2, nodupB_ok h3, fun x hx e => ?_, by simpa using h5, fun y hy => by simpa using List.all_eq_true.mp h6 y hy⟩
  have := List.all_eq_true.mp h4 x hx
  rw [e] at this
  have h7 : (sc.names.lookup x.1 == some .cell && C.names.contains x.1) = true := by simpa using this
  simp only [Bool.and_eq_true] at h7
  exact ⟨by simpa using h7.1, by simpa using h7.2⟩
noncomputable def frzC (i : Nat) (f : Sm) : Sm := fun σ => match f σ with
  | some (.next, σ') => match sget σ' i with
    | some (true, d) => some (.next, σ'.set i (some (false, d)))
    | _ => none
  | r => r
theorem SndS.frz {i : Nat} {st : Stmt} {f : Sm} (hi : i < C.names.length) (h : SndS C n sc st f) : SndS C n sc st (frzC i f) := fun {A env base F s σ r} X hf => by
  unfold frzC at hf
  cases e : f σ with
  | none => rw [e] at hf; cases hf
  | some r1 =>
    obtain ⟨fl, σ1⟩ := r1
    rw [e] at hf
    cases fl with
    | next =>
      dsimp only at hf
      split at hf
      · rename_i d e1
        cases hf
        refine wp_mono (h X e) fun fl s1 p => ?_
        obtain ⟨rfl, F1, r1, X1⟩ := p
        obtain ⟨F2, r2, X2⟩ := X1.freeze e1 hi
        exact ⟨rfl, F2, r1.trans r2, X2⟩
      · cases hf
    | ret d =>
      cases hf
      exact h X e
end Ev
set_option maxRecDepth 10000
namespace Ev
open PySem PySem.W PySem.Spec PySem.Calls PyProof.Rows PySem.SeqAt
variable {C : Cx} {n : Nat} {sc : Scope} {A : Around} {env : Env} {base : Fz} {low : Fz} {F F' : Fz} {s s' : Shared} {σ : St}
noncomputable def intOnly (g : List PyData → Option PyData) : List PyData → Option PyData := fun ds => match g ds with
  | some (.int i) => some (.int i)
  | _ => none
theorem FnOk.ints {fa : Addr} {g : List PyData → Option PyData} (h : FnOk C n fa g) : FnB C n fa (intOnly g) := by
  refine FnOk.toB (fun {A F s vs ds d} hr hk hs r e => ?_) fun ds d e => ?_
  · unfold intOnly at e
    split at e
    · rename_i i e'
      cases e
      exact h hr hk hs r e'
    · cases e
  · unfold intOnly at e
    split at e
    · cases e; exact ⟨_, rfl⟩
    · cases e
noncomputable def resT : Option (Fl × St) → Bool
  | some (.ret (.bool true), _) => true
  | _ => false
theorem inter_ok : ∀ env : Env, env.scope.kind = .function → interactive env = false := by intro env h; simp [interactive, h]
noncomputable def kindsB (sc : Scope) (ps : List Str) : Bool := ps.all fun x => sc.names.lookup x == some .local || sc.names.lookup x == some .cell
theorem kinds_ok {ps : List Str} (h : kindsB sc ps = true) : ∀ x ∈ ps, sc.names.lookup x = some .local ∨ sc.names.lookup x = some .cell := fun x m => by
  have := List.all_eq_true.mp h x m
  simpa using this
noncomputable abbrev tg1 (i : Nat) : PyData → St → Option St := fun d σ => some (σ.set i (some (false, d)))
noncomputable abbrev tgN (is : List Nat) : PyData → St → Option St := fun d σ => match unpD is.length d with | some ds => storeD is (ds.map fun d => (false, d)) σ | none => none
theorem all1 {α : Type} {P : List α → Prop} (h : ∀ a, P [a]) : ∀ {l : List α}, l.length = 1 → P l := fun {l} e => by
  cases l with | nil => cases e | cons a l => cases l with | nil => exact h a | cons => cases e
theorem all2 {α : Type} {P : List α → Prop} (h : ∀ a b, P [a, b]) : ∀ {l : List α}, l.length = 2 → P l := fun {l} e => by
  cases l with | nil => cases e | cons a l => exact all1 (P := fun l => P (a :: l)) (h a) (Nat.succ.inj e)
theorem all3 {α : Type} {P : List α → Prop} (h : ∀ a b c, P [a, b, c]) : ∀ {l : List α}, l.length = 3 → P l := fun {l} e => by
  cases l with | nil => cases e | cons a l => exact all2 (P := fun l => P (a :: l)) (h a) (Nat.succ.inj e)
theorem all4 {α : Type} {P : List α → Prop} (h : ∀ a b c d, P [a, b, c, d]) : ∀ {l : List α}, l.length = 4 → P l := fun {l} e => by
  cases l with | nil => cases e | cons a l => exact all3 (P := fun l => P (a :: l)) (h a) (Nat.succ.inj e)
end Ev
set_option maxRecDepth 10000
namespace Ev
open PySem PySem.W PySem.Spec PySem.Calls PyProof.Rows PySem.SeqAt
variable {C : Cx} {n : Nat} {sc : Scope} {A : Around} {env : Env} {base : Fz} {low : Fz} {F F' : Fz} {s s' : Shared} {σ : Ev.St}
/-! what the head's heap shows -/
noncomputable def globK (K : Frag) (x : Str) : Option (Option Value) := match K.lookup mainGlobals with
  | some o => match o.data with
    | .dict es _ => some ((es.toList.find? fun e => e.key.isStr x).map (·.val))
    | _ => none
  | none => none
theorem glob_of {K : Frag} {h : Heap} {mg : Str → Option Value} {x : Str} {r : Option Value} (X : K.In h) (g : h.Ns mainGlobals mg) (e : globK K x = some r) : mg x = r := by
  unfold globK at e
  cases q : K.lookup mainGlobals with
  | none => rw [q] at e; cases e
  | some o =>
    rw [q] at e
    dsimp only at e
    split at e
    · rename_i es ep hd
      obtain ⟨o', es', ep', ho', hd', _, hm⟩ := g
      rw [X _ _ q] at ho'; cases ho'
      rw [hd] at hd'; cases hd'
      rw [← hm x, ← Option.some.inj e]
      unfold nsFind findBy
      rw [Array.find?_toList]
    · cases e
theorem DefAt.ofK {K : Frag} {fa : Addr} {o : Obj} {fd : FuncData} {body : List Stmt} (X : K.In C.h₀) (ho : K.lookup fa = some o) (hd : o.data = .func fd) (hc : codeIn K fd.code fd.qualname = true) (hb : fd.body = .stmts body) (h1 : fd.closure = []) (h2 : fd.globals = mainGlobals) (h3 : fd.builtins = builtinsNs)
    (h4 : (!fd.scope.isCoroutine && !fd.scope.isGenerator && fd.scope.kind == .function && nodupB (fd.scope.names.map (·.1)) && fd.scope.names.all fun x => x.2 != .free) = true) : DefAt C fa fd body := by
  simp only [Bool.and_eq_true, Bool.not_eq_true'] at h4
  obtain ⟨⟨⟨⟨h5, h6⟩, h7⟩, h8⟩, h9⟩ := h4
  refine ⟨⟨o, X _ _ ho, hd⟩, codeRec_of X hc, hb, h1, h2, h3, h5, h6, by simpa using h7, nodupB_ok h8, fun x hx e => ?_⟩
  have := List.all_eq_true.mp h9 x hx
  rw [e] at this; simp at this
theorem call_frameC {fa : Addr} {fd : FuncData} {body : List Stmt} {vs : List Value} {binds : List (Str × Value)} {Q : Value → Shared → Prop} (D : DefAt C fa fd body) (hr : A.depth < recursionLimit) (hk : ∀ b o, C.h₀.get? b = some o → s.heap.get? b = some o) (hlim : C.h₀.NoLimit)
    (hb : BindsTo s fd ⟨vs, []⟩ binds) (hkind : ∀ x ∈ binds, fd.scope.names.lookup x.1 = some .local ∨ fd.scope.names.lookup x.1 = some .cell)
    (h : ∀ s₁, InCallC s (callEnvC fd s.heap.objs.size fa).locals (bindL (callEnvC fd s.heap.objs.size fa).kindOf binds fun _ => none) (callEnvC fd s.heap.objs.size fa).cells
        (bindC (callEnvC fd s.heap.objs.size fa).kindOf binds fun _ => none) s₁ →
      Wp C (A.deeper (callEnvC fd s.heap.objs.size fa)) (execs body (callEnvC fd s.heap.objs.size fa)) (fun f s' => Q (match f with | .ret v => v | _ => .none) s') s₁) :
    codeAny (model C.prog C.w) A (.call (.ref fa) ⟨vs, []⟩) (fun r s' => ∃ v, r = .ok (.ret v) ∧ Q v s') s := by
  obtain ⟨o, ho, hd⟩ := D.obj
  refine codeAny_call_function hr (hk _ _ ho) hd D.co D.gen D.body (D.code.keeps hk) (hb _ _ _ _ ?_)
  rw [D.clo]
  refine wpAny_newFunctionEnv_cells D.kind (fun x hx => (hkind x hx).imp id fun q => ⟨q, ?_⟩) fun env he s' x => ?_
  · obtain ⟨c, hc⟩ := cellsFrom_has (k := s.heap.objs.size + 1) (mem_of_lookup q)
    obtain ⟨c', hc'⟩ := lookup_of_mem hc
    rw [hc']; rfl
  · subst he
    refine ⟨(hlim.keeps hk).keeps x.toInCall.keep, codeAny_func (wpAny_mono (h s' x) (fun f s2 q => ?_) fun _ _ e => e.elim)⟩
    exact ⟨_, rfl, q⟩
theorem ints_rl {H : PyData → Int} : ∀ {vs : List Value} {is : List Int}, IntsAre vs is → RL H F vs (is.map .int)
  | _, _, .nil => .nil
  | _, _, .cons _ _ h => .cons (.int _ _) (ints_rl h)
theorem law_main {fa l : Addr} {fd : FuncData} {body : List Stmt} {names rest : List Str} {x : Str} {vs : List Value} {is : List Int} {f : Sm} {k : Nat} (D : DefAt C fa fd body) (hok : C.Ok) (hh : C.h₀ = s.heap)
    (hbind : ∀ v, BindsTo s fd ⟨[v], []⟩ [(x, v)]) (hn : names = x :: rest) (hnd : nodupB names = true) (hkind : kindsB fd.scope [x] = true) (hb : SndSs (C.fn names Option.none) n fd.scope body f)
    (hr : Room (n + 1) A) (hl : s.heap.get? l = some (seqObj "list" vs.toArray 0)) (hi : IntsAre vs is) (hT : resT (f (stOf [(false, .list (is.map .int))] k)) = true) :
    codeAny (model C.prog C.w) A (.call (.ref fa) ⟨[.ref l], []⟩) (fun r s' => r = .ok (.ret (.bool true)) ∧ (∀ b o, s.heap.get? b = some o → s'.heap.get? b = some o) ∧ s'.os = s.os ∧ s'.gens = s.gens) s := by
  have hk : ∀ b o, C.h₀.get? b = some o → s.heap.get? b = some o := fun b o e => hh ▸ e
  refine codeAny_mono (call_frameC (Q := fun v s' => v = .bool true ∧ (∀ b o, s.heap.get? b = some o → s'.heap.get? b = some o) ∧ s'.os = s.os ∧ s'.gens = s.gens) D (by have := hr.dep; omega) hk hok.lim (hbind _) (fun y hy => kinds_ok hkind y.1 (by simp at hy; subst hy; simp)) fun s₁ X1 => ?_) fun r s' ⟨v, e, q⟩ => ?_
  · have P : Pa C.H (fun a => s.heap.get? a) (fun a => s.heap.get? a) s.heap [.ref l] [(false, .list (is.map .int))] [] := .fz (.list hl (ints_rl hi)) .nil
    have X := frame_ct (k := k) (base := fun a => s.heap.get? a) (F := fun a => s.heap.get? a) (pin := Option.none) (ps := [x]) (rest := rest) (names := names) D hok hr (fun _ _ e => e) (fun _ _ e => e) hk hn (nodupB_ok hnd) rfl (kinds_ok hkind) P (fun _ _ e => nomatch e) X1
    have : ∃ σ', f (stOf [(false, .list (is.map .int))] k) = some (.ret (.bool true), σ') := by
      unfold resT at hT
      split at hT
      · rename_i σ' e; exact ⟨σ', e⟩
      · cases hT
    obtain ⟨σ', e⟩ := this
    refine wp_mono (hb X e) fun fl s2 p => ?_
    obtain ⟨v, rfl, F2, r2, rv, kp, sa⟩ := p
    obtain ⟨h1, tk, hs1, _⟩ := X1.done
    subst hs1
    exact ⟨rv.toBool, kp, r2.2.2.os, r2.2.2.gens⟩
  · obtain ⟨q1, q2⟩ := q
    subst q1
    exact ⟨e, q2⟩
theorem ints_of_well {P : Params} {h : Heap} : ∀ {is : List Int} {vs : List Value}, WellAll P h vs (ofPys (is.map .int)) → IntsAre vs is
  | [], _, w => by cases w; exact .nil
  | i :: is, _, w => by
    simp only [List.map_cons, ofPys, ofPy] at w
    cases w with
    | cons a b => cases a; exact .cons _ _ (ints_of_well b)
theorem well_ints {P : Params} {h : Heap} {l : Addr} {is : List Int} (w : Well P h (.ref l) (ofPy (.list (is.map .int)))) : ∃ vs, h.get? l = some (seqObj "list" vs.toArray 0) ∧ IntsAre vs is := by
  simp only [ofPy] at w
  cases w with
  | list hl wl => exact ⟨_, hl, ints_of_well wl⟩
end Ev
set_option maxRecDepth 100000
set_option maxHeartbeats 4000000
namespace L2
open PySem PySem.W PySem.Spec PySem.Calls PyProof.Rows PySem.SeqAt Ev
noncomputable abbrev D (i : Nat) : Stmt := defAt PySem.Challenge.pw_gl0003_02 i
structure Wd (C : Cx) where
  ok : C.Ok
  b_len : C.Bi "len" (.builtin "len")
  b_sum : C.Bi "sum" (.builtin "sum")
  b_sorted : C.Bi "sorted" (.builtin "sorted")
  b_isinstance : C.Bi "isinstance" (.builtin "isinstance")
  b_tuple : C.Bi "tuple" (.type "tuple")
  b_range : C.Bi "range" (.type "range")
  b_int : C.Bi "int" (.type "int")
  a_insort_left : Addr
  fd_insort_left : FuncData
  g_insort_left : C.Gl "insort_left" (.ref a_insort_left)
  d_insort_left : DefAt C a_insort_left fd_insort_left (bodyS (D 1))
  s_insort_left : fd_insort_left.scope = scopeS (D 1)
  i_insort_left : InsDef C fd_insort_left
  a_bisect_left : Addr
  fd_bisect_left : FuncData
  g_bisect_left : C.Gl "bisect_left" (.ref a_bisect_left)
  d_bisect_left : DefAt C a_bisect_left fd_bisect_left (bodyS (D 2))
  s_bisect_left : fd_bisect_left.scope = scopeS (D 2)
  i_bisect_left : InsDef C fd_bisect_left
  a_add_callers : Addr
  pm_add_callers : Value
  cd_add_callers : Value
  doc_add_callers : Value
  g_add_callers : C.Gl "add_callers" (.ref a_add_callers)
  d_add_callers : DefAt C a_add_callers (docDef (nameS (D 4)) (paramS (D 4)) (bodyS (D 4)) (scopeS (D 4)) pm_add_callers cd_add_callers doc_add_callers) (bodyS (D 4))
  a_count_calls : Addr
  pm_count_calls : Value
  cd_count_calls : Value
  doc_count_calls : Value
  g_count_calls : C.Gl "count_calls" (.ref a_count_calls)
  d_count_calls : DefAt C a_count_calls (docDef (nameS (D 5)) (paramS (D 5)) (bodyS (D 5)) (scopeS (D 5)) pm_count_calls cd_count_calls doc_count_calls) (bodyS (D 5))
  a__law_turn : Addr
  pm__law_turn : Value
  cd__law_turn : Value
  doc__law_turn : Value
  g__law_turn : C.Gl "_law_turn" (.ref a__law_turn)
  d__law_turn : DefAt C a__law_turn (docDef (nameS (D 7)) (paramS (D 7)) (bodyS (D 7)) (scopeS (D 7)) pm__law_turn cd__law_turn doc__law_turn) (bodyS (D 7))
  a__law_lines : Addr
  pm__law_lines : Value
  cd__law_lines : Value
  doc__law_lines : Value
  g__law_lines : C.Gl "_law_lines" (.ref a__law_lines)
  d__law_lines : DefAt C a__law_lines (docDef (nameS (D 8)) (paramS (D 8)) (bodyS (D 8)) (scopeS (D 8)) pm__law_lines cd__law_lines doc__law_lines) (bodyS (D 8))
noncomputable def N_bisect_left : List Str := ["a", "x", "lo", "hi", "key", "mid"]
noncomputable def F_bisect_left : Sm := (seqC2 (ifS (cmC .Lt (bC 2) (cC (.int 0))) neverC skipC)
  (seqC2 (ifS (isNoneC (vC 3)) (setC 3 (callC lenG [(bC 0)])) skipC)
  (seqC2 (ifS (isNoneC (vC 4)) (whileC (cmC .Lt (bC 2) (bC 3)) (seqC2 (setC 5 (opC .FloorDiv (opC .Add (bC 2) (bC 3)) (cC (.int 2))))
  (ifS (cmC .Lt (subC (bC 0) (vC 5)) (bC 1)) (setC 2 (opC .Add (bC 5) (cC (.int 1)))) (setC 3 (vC 5)))) 16) neverC)
  (retC (vC 2)))))
theorem S_bisect_left {C : Cx} (W : Wd C) : SndSs (C.fn N_bisect_left none) 0 (scopeS (D 2)) (bodyS (D 2)) F_bisect_left :=
 (@SndSs.cons _ _ _ _ _ _ _ (@SndS.ifs _ _ _ _ _ _ _ _ _ _ (@SndT.cmp _ _ _ _ _ _ _ _ _ (@SndB.var _ _ _ _ _ _ rfl rfl rfl) (@Snd.b _ _ _ _ _ (@Snd.int _ _ _ _ _ _)) rfl) (@SndSs.never _ _ _ _) (@SndSs.nil _ _ _)) (@SndSs.cons _ _ _ _ _ _ _ (@SndS.ifs _ _ _ _ _ _ _ _ _ _ (@SndT.isNone _ _ _ _ _ _ _ _ (@Snd.var _ _ _ _ _ _ rfl rfl rfl)) (@SndSs.one _ _ _ _ _ (@SndS.assign _ _ _ _ _ _ _ _ _ rfl ⟨.inl rfl, (NoPin.none rfl _)⟩ (@Snd.bi _ _ _ _ _ _ _ _ _ _ _ _ W.b_len rfl (@biLen _) (@SndAs.cons _ _ _ _ _ _ _ (@SndB.var _ _ _ _ _ _ rfl rfl rfl) (@SndAs.nil _ _ _) (fun _ _ => rfl)) (fun _ => rfl) rfl) (fun _ => rfl))) (@SndSs.nil _ _ _)) (@SndSs.cons _ _ _ _ _ _ _ (@SndS.ifs _ _ _ _ _ _ _ _ _ _ (@SndT.isNone _ _ _ _ _ _ _ _ (@Snd.var _ _ _ _ _ _ rfl rfl rfl)) (@SndSs.one _ _ _ _ _ (@SndS.while _ _ _ _ _ _ _ _ 16 (@SndT.cmp _ _ _ _ _ _ _ _ _ (@SndB.var _ _ _ _ _ _ rfl rfl rfl) (@SndB.var _ _ _ _ _ _ rfl rfl rfl) rfl) (@SndSs.cons _ _ _ _ _ _ _ (@SndS.assign _ _ _ _ _ _ _ _ _ rfl ⟨.inl rfl, (NoPin.none rfl _)⟩ (@Snd.bin _ _ _ _ _ _ _ _ _ (@Snd.b _ _ _ _ _ (@Snd.bin _ _ _ _ _ _ _ _ _ (@SndB.var _ _ _ _ _ _ rfl rfl rfl) (@SndB.var _ _ _ _ _ _ rfl rfl rfl))) (@Snd.b _ _ _ _ _ (@Snd.int _ _ _ _ _ _))) (fun _ => rfl)) (@SndSs.one _ _ _ _ _ (@SndS.ifs _ _ _ _ _ _ _ _ _ _ (@SndT.cmp _ _ _ _ _ _ _ _ _ (@Snd.b _ _ _ _ _ (@Snd.sub _ _ _ _ _ _ _ _ (@SndB.var _ _ _ _ _ _ rfl rfl rfl) (@Snd.var _ _ _ _ _ _ rfl rfl rfl) (fun _ _ => rfl))) (@SndB.var _ _ _ _ _ _ rfl rfl rfl) rfl) (@SndSs.one _ _ _ _ _ (@SndS.assign _ _ _ _ _ _ _ _ _ rfl ⟨.inl rfl, (NoPin.none rfl _)⟩ (@Snd.bin _ _ _ _ _ _ _ _ _ (@SndB.var _ _ _ _ _ _ rfl rfl rfl) (@Snd.b _ _ _ _ _ (@Snd.int _ _ _ _ _ _))) (fun _ => rfl))) (@SndSs.one _ _ _ _ _ (@SndS.assign _ _ _ _ _ _ _ _ _ rfl ⟨.inl rfl, (NoPin.none rfl _)⟩ (@Snd.var _ _ _ _ _ _ rfl rfl rfl) (fun _ => rfl)))))))) (@SndSs.never _ _ _ _)) (@SndSs.one _ _ _ _ _ (@SndS.ret _ _ _ _ _ _ (@Snd.var _ _ _ _ _ _ rfl rfl rfl))))))
noncomputable def g_bisect4 : List PyData → Option PyData := intOnly fun ds => if ds.length = 4 then fnD F_bisect_left [.none] 1 ds else none
noncomputable def g_bisect2 : List PyData → Option PyData := intOnly fun ds => if ds.length = 2 then fnD F_bisect_left [.int 0, .none, .none] 1 ds else none
theorem ok_bisect4 {C : Cx} (W : Wd C) : FnB C 1 W.a_bisect_left g_bisect4 :=
  FnOk.ints (FnOk.mk (ps := ["a", "x", "lo", "hi", "key"]) (rest := ["mid"]) (names := N_bisect_left) (ex := [.none]) W.d_bisect_left W.ok (fun {_ _} hv hk => all4 (P := fun l => BindsTo _ _ ⟨l, []⟩ (List.zip ["a", "x", "lo", "hi", "key"] (l ++ [.none]))) (W.i_bisect_left.b4 hk) hv) (fun _ => .cons .none .nil) rfl (nodupB_ok rfl) rfl
    (by rw [W.s_bisect_left]; decide) (by rw [W.s_bisect_left]; exact S_bisect_left W))
theorem ok_bisect2 {C : Cx} (W : Wd C) : FnB C 1 W.a_bisect_left g_bisect2 :=
  FnOk.ints (FnOk.mk (ps := ["a", "x", "lo", "hi", "key"]) (rest := ["mid"]) (names := N_bisect_left) (ex := [.int 0 W.i_bisect_left.tk, .none, .none]) W.d_bisect_left W.ok (fun {_ _} hv hk => all2 (P := fun l => BindsTo _ _ ⟨l, []⟩ (List.zip ["a", "x", "lo", "hi", "key"] (l ++ [.int 0 W.i_bisect_left.tk, .none, .none]))) (W.i_bisect_left.b2 hk) hv) (fun _ => .cons (.int _ _) (.cons .none (.cons .none .nil))) rfl (nodupB_ok rfl) rfl
    (by rw [W.s_bisect_left]; decide) (by rw [W.s_bisect_left]; exact S_bisect_left W))
noncomputable def N_insort_left : List Str := ["a", "x", "lo", "hi", "key"]
noncomputable def F_insort_left : Sm := (seqC2 (ifS (isNoneC (vC 4)) (setC 2 (callC g_bisect4 [(bC 0), (bC 1), (bC 2), (bC 3)])) neverC)
  (insertC 0 (vC 2) (vC 1)))
theorem S_insort_left {C : Cx} (W : Wd C) (a : Addr) : SndSs (C.fn N_insort_left (some ("a", a))) 1 (scopeS (D 1)) (bodyS (D 1)) F_insort_left :=
 (@SndSs.cons _ _ _ _ _ _ _ (@SndS.ifs _ _ _ _ _ _ _ _ _ _ (@SndT.isNone _ _ _ _ _ _ _ _ (@Snd.var _ _ _ _ _ _ rfl rfl rfl)) (@SndSs.one _ _ _ _ _ (@SndS.assign _ _ _ _ _ _ _ _ _ rfl ⟨.inl rfl, (NoPin.of rfl (by decide))⟩ (@Snd.callB _ _ _ _ _ _ _ _ _ _ _ _ _ W.g_bisect_left rfl ⟨W.d_bisect_left.fn.fn⟩ (@ok_bisect4 _ W) (@SndAs.cons _ _ _ _ _ _ _ (@SndB.var _ _ _ _ _ _ rfl rfl rfl) (@SndAs.cons _ _ _ _ _ _ _ (@SndB.var _ _ _ _ _ _ rfl rfl rfl) (@SndAs.cons _ _ _ _ _ _ _ (@SndB.var _ _ _ _ _ _ rfl rfl rfl) (@SndAs.cons _ _ _ _ _ _ _ (@SndB.var _ _ _ _ _ _ rfl rfl rfl) (@SndAs.nil _ _ _) (fun _ _ => rfl)) (fun _ _ => rfl)) (fun _ _ => rfl)) (fun _ _ => rfl)) (by decide) rfl) (fun _ => rfl))) (@SndSs.never _ _ _ _)) (@SndSs.one _ _ _ _ _ (@SndS.insert _ _ _ _ _ _ _ _ _ _ _ _ _ rfl (@Snd.var _ _ _ _ _ _ rfl rfl rfl) (@Snd.var _ _ _ _ _ _ rfl rfl rfl) (fun _ => rfl) (fun _ => rfl) (fun _ => rfl) rfl rfl (fun _ => rfl) rfl inter_ok)))
noncomputable def g_insort : PyData → PyData → Option PyData := insD F_insort_left [.int 0, .none, .none] 0
theorem ok_insort_left {C : Cx} (W : Wd C) : FnIns C 2 W.a_insort_left g_insort :=
  FnIns.mk (xa := "a") (xx := "x") (ps := ["lo", "hi", "key"]) (rest := []) (names := N_insort_left) (ex := [.int 0 W.i_insort_left.tk, .none, .none]) W.d_insort_left W.ok (fun hk => W.i_insort_left.b2 hk _ _) (fun _ => .cons (.int _ _) (.cons .none (.cons .none .nil))) rfl (nodupB_ok rfl) rfl
    (by rw [W.s_insort_left]; decide) (fun a => by rw [W.s_insort_left]; exact S_insort_left W a)
noncomputable def N_add_callers : List Str := ["target", "source", "new_callers", "func", "caller"]
noncomputable def F_add_callers : Sm := (seqC2 (ownC 2 (cC (.dict [])))
  (seqC2 (forC (itemsC (vC 0)) (tgN [3, 4]) (putC 2 (vC 3) (vC 4)))
  (seqC2 (forC (itemsC (vC 1)) (tgN [3, 4]) (ifS (inKC (vC 3) (bC 2)) (ifS (tvC (isTupC (bC 4))) neverC (putAddC 2 (vC 3) (vC 4))) (putC 2 (vC 3) (vC 4))))
  (freeC 2 (retC (vC 2))))))
theorem S_add_callers {C : Cx} (W : Wd C) : SndSs (C.fn N_add_callers none) 0 (scopeS (D 4)) (bodyS (D 4)) F_add_callers :=
 (@SndSs.cons _ _ _ _ _ _ _ (@SndS.assignO _ _ _ _ _ _ _ _ _ rfl ⟨.inl rfl, (NoPin.none rfl _)⟩ (@SndO.dict0 _ _ _ _) (fun _ => rfl)) (@SndSs.cons _ _ _ _ _ _ _ (@SndS.forI _ _ _ _ _ _ _ _ _ _ _ (@SndTg.tuple _ _ _ _ [3, 4] ["func", "caller"] [_, _] (fun _ => rfl) rfl rfl) (List.forall_mem_cons.mpr ⟨⟨.inl rfl, (NoPin.none rfl _)⟩, (List.forall_mem_cons.mpr ⟨⟨.inl rfl, (NoPin.none rfl _)⟩, (fun _ h => nomatch h)⟩)⟩) (@SndI.items _ _ _ _ _ _ _ _ _ _ (@Snd.var _ _ _ _ _ _ rfl rfl rfl) (fun _ => rfl) rfl) (@SndSs.one _ _ _ _ _ (@SndS.put _ _ _ _ _ _ _ _ _ _ _ _ rfl (@Snd.var _ _ _ _ _ _ rfl rfl rfl) (@Snd.var _ _ _ _ _ _ rfl rfl rfl) rfl rfl (fun _ => rfl))) (fun _ _ => rfl)) (@SndSs.cons _ _ _ _ _ _ _ (@SndS.forI _ _ _ _ _ _ _ _ _ _ _ (@SndTg.tuple _ _ _ _ [3, 4] ["func", "caller"] [_, _] (fun _ => rfl) rfl rfl) (List.forall_mem_cons.mpr ⟨⟨.inl rfl, (NoPin.none rfl _)⟩, (List.forall_mem_cons.mpr ⟨⟨.inl rfl, (NoPin.none rfl _)⟩, (fun _ h => nomatch h)⟩)⟩) (@SndI.items _ _ _ _ _ _ _ _ _ _ (@Snd.var _ _ _ _ _ _ rfl rfl rfl) (fun _ => rfl) rfl) (@SndSs.one _ _ _ _ _ (@SndS.ifs _ _ _ _ _ _ _ _ _ _ (@SndT.inK _ _ _ _ _ _ _ _ (@Snd.var _ _ _ _ _ _ rfl rfl rfl) (@SndB.var _ _ _ _ _ _ rfl rfl rfl) rfl) (@SndSs.one _ _ _ _ _ (@SndS.ifs _ _ _ _ _ _ _ _ _ _ (@SndT.val _ _ _ _ _ (@Snd.b _ _ _ _ _ (@Snd.isTup _ _ _ _ _ _ _ _ W.b_isinstance W.b_tuple rfl rfl (@SndB.var _ _ _ _ _ _ rfl rfl rfl) (fun _ _ => rfl))) (fun _ _ => rfl)) (@SndSs.never _ _ _ _) (@SndSs.one _ _ _ _ _ (@SndS.putAdd _ _ _ _ _ _ _ _ _ _ _ _ rfl (@Snd.var _ _ _ _ _ _ rfl rfl rfl) (@Snd.var _ _ _ _ _ _ rfl rfl rfl) rfl rfl (by first | rfl | (intros; rfl) | decide | (intros; with_unfolding_all rfl) | (intro env h; simp [interactive, h]) | simp))))) (@SndSs.one _ _ _ _ _ (@SndS.put _ _ _ _ _ _ _ _ _ _ _ _ rfl (@Snd.var _ _ _ _ _ _ rfl rfl rfl) (@Snd.var _ _ _ _ _ _ rfl rfl rfl) rfl rfl (fun _ => rfl))))) (fun _ _ => rfl)) (@SndSs.one _ _ _ _ _ (@SndS.free _ _ _ 2 _ _ (of_decide_eq_true rfl) (@SndS.ret _ _ _ _ _ _ (@Snd.var _ _ _ _ _ _ rfl rfl rfl)))))))
noncomputable def g_add_callers : List PyData → Option PyData := fun ds => if ds.length = 2 then fnD F_add_callers [] 3 ds else none
theorem ok_add_callers {C : Cx} (W : Wd C) : FnOk C 1 W.a_add_callers g_add_callers :=
  FnOk.mk (ps := ["target", "source"]) (rest := ["new_callers", "func", "caller"]) (names := N_add_callers) (ex := []) (exd := []) W.d_add_callers W.ok (fun {_ _} hv _ => all2 (P := fun l => BindsTo _ _ ⟨l, []⟩ (List.zip ["target", "source"] (l ++ []))) (fun _ _ => BindsTo.of_eq rfl) hv) (fun _ => .nil) rfl (nodupB_ok rfl) rfl (kinds_ok rfl) (S_add_callers W)
noncomputable def N_count_calls : List Str := ["callers", "nc", "calls"]
noncomputable def F_count_calls : Sm := (seqC2 (setC 1 (cC (.int 0)))
  (seqC2 (forC (valsC (vC 0)) (tg1 2) (addC 1 (vC 2)))
  (retC (vC 1))))
theorem S_count_calls {C : Cx} (W : Wd C) : SndSs (C.fn N_count_calls none) 0 (scopeS (D 5)) (bodyS (D 5)) F_count_calls :=
 (@SndSs.cons _ _ _ _ _ _ _ (@SndS.assign _ _ _ _ _ _ _ _ _ rfl ⟨.inl rfl, (NoPin.none rfl _)⟩ (@Snd.int _ _ _ _ _ _) (fun _ => rfl)) (@SndSs.cons _ _ _ _ _ _ _ (@SndS.forI _ _ _ _ _ _ _ _ _ _ _ (@SndTg.name _ _ _ _ rfl) (List.forall_mem_cons.mpr ⟨⟨.inl rfl, (NoPin.none rfl _)⟩, (fun _ h => nomatch h)⟩) (@SndI.values _ _ _ _ _ _ _ _ (@Snd.var _ _ _ _ _ _ rfl rfl rfl) (fun _ => rfl) rfl) (@SndSs.one _ _ _ _ _ (@SndS.add _ _ _ _ _ _ _ _ _ rfl ⟨.inl rfl, (NoPin.none rfl _)⟩ (@Snd.var _ _ _ _ _ _ rfl rfl rfl) rfl)) (fun _ _ => rfl)) (@SndSs.one _ _ _ _ _ (@SndS.ret _ _ _ _ _ _ (@Snd.var _ _ _ _ _ _ rfl rfl rfl)))))
noncomputable def g_count_calls : List PyData → Option PyData := fun ds => if ds.length = 1 then fnD F_count_calls [] 2 ds else none
theorem ok_count_calls {C : Cx} (W : Wd C) : FnOk C 1 W.a_count_calls g_count_calls :=
  FnOk.mk (ps := ["callers"]) (rest := ["nc", "calls"]) (names := N_count_calls) (ex := []) (exd := []) W.d_count_calls W.ok (fun {_ _} hv _ => all1 (P := fun l => BindsTo _ _ ⟨l, []⟩ (List.zip ["callers"] (l ++ []))) (fun _ => BindsTo.of_eq rfl) hv) (fun _ => .nil) rfl (nodupB_ok rfl) rfl (kinds_ok rfl) (S_count_calls W)
noncomputable def N_law_turn : List Str := ["one", "two", "three"]
noncomputable def F_law_turn : Sm := (retC (opC .Sub (opC .Mult (opC .Sub (subC (bC 1) (cC (.int 0))) (subC (bC 0) (cC (.int 0)))) (opC .Sub (subC (bC 2) (cC (.int 1))) (subC (bC 0) (cC (.int 1))))) (opC .Mult (opC .Sub (subC (bC 2) (cC (.int 0))) (subC (bC 0) (cC (.int 0)))) (opC .Sub (subC (bC 1) (cC (.int 1))) (subC (bC 0) (cC (.int 1)))))))
theorem S_law_turn {C : Cx} (W : Wd C) : SndSs (C.fn N_law_turn none) 0 (scopeS (D 7)) (bodyS (D 7)) F_law_turn :=
 (@SndSs.one _ _ _ _ _ (@SndS.ret _ _ _ _ _ _ (@Snd.bin _ _ _ _ _ _ _ _ _ (@Snd.b _ _ _ _ _ (@Snd.bin _ _ _ _ _ _ _ _ _ (@Snd.b _ _ _ _ _ (@Snd.bin _ _ _ _ _ _ _ _ _ (@Snd.b _ _ _ _ _ (@Snd.sub _ _ _ _ _ _ _ _ (@SndB.var _ _ _ _ _ _ rfl rfl rfl) (@Snd.int _ _ _ _ _ _) (fun _ _ => rfl))) (@Snd.b _ _ _ _ _ (@Snd.sub _ _ _ _ _ _ _ _ (@SndB.var _ _ _ _ _ _ rfl rfl rfl) (@Snd.int _ _ _ _ _ _) (fun _ _ => rfl))))) (@Snd.b _ _ _ _ _ (@Snd.bin _ _ _ _ _ _ _ _ _ (@Snd.b _ _ _ _ _ (@Snd.sub _ _ _ _ _ _ _ _ (@SndB.var _ _ _ _ _ _ rfl rfl rfl) (@Snd.int _ _ _ _ _ _) (fun _ _ => rfl))) (@Snd.b _ _ _ _ _ (@Snd.sub _ _ _ _ _ _ _ _ (@SndB.var _ _ _ _ _ _ rfl rfl rfl) (@Snd.int _ _ _ _ _ _) (fun _ _ => rfl))))))) (@Snd.b _ _ _ _ _ (@Snd.bin _ _ _ _ _ _ _ _ _ (@Snd.b _ _ _ _ _ (@Snd.bin _ _ _ _ _ _ _ _ _ (@Snd.b _ _ _ _ _ (@Snd.sub _ _ _ _ _ _ _ _ (@SndB.var _ _ _ _ _ _ rfl rfl rfl) (@Snd.int _ _ _ _ _ _) (fun _ _ => rfl))) (@Snd.b _ _ _ _ _ (@Snd.sub _ _ _ _ _ _ _ _ (@SndB.var _ _ _ _ _ _ rfl rfl rfl) (@Snd.int _ _ _ _ _ _) (fun _ _ => rfl))))) (@Snd.b _ _ _ _ _ (@Snd.bin _ _ _ _ _ _ _ _ _ (@Snd.b _ _ _ _ _ (@Snd.sub _ _ _ _ _ _ _ _ (@SndB.var _ _ _ _ _ _ rfl rfl rfl) (@Snd.int _ _ _ _ _ _) (fun _ _ => rfl))) (@Snd.b _ _ _ _ _ (@Snd.sub _ _ _ _ _ _ _ _ (@SndB.var _ _ _ _ _ _ rfl rfl rfl) (@Snd.int _ _ _ _ _ _) (fun _ _ => rfl))))))))))
noncomputable def g__law_turn : List PyData → Option PyData := fun ds => if ds.length = 3 then fnD F_law_turn [] 0 ds else none
theorem ok__law_turn {C : Cx} (W : Wd C) : FnOk C 1 W.a__law_turn g__law_turn :=
  FnOk.mk (ps := ["one", "two", "three"]) (rest := []) (names := N_law_turn) (ex := []) (exd := []) W.d__law_turn W.ok (fun {_ _} hv _ => all3 (P := fun l => BindsTo _ _ ⟨l, []⟩ (List.zip ["one", "two", "three"] (l ++ []))) (fun _ _ _ => BindsTo.of_eq rfl) hv) (fun _ => .nil) rfl (nodupB_ok rfl) rfl (kinds_ok rfl) (S_law_turn W)
noncomputable def N_law_lines : List Str := ["points", "found", "k", "j", "on", "table", "point"]
noncomputable def F_law_lines : Sm := (seqC2 (ownC 1 (lstC []))
  (seqC2 (forC (rangeC [(callC lenG [(bC 0)])]) (tg1 2) (forC (rangeC [(bC 2)]) (tg1 3) (seqC2 (frzC 4 (ownC 4 (compC 1 [0, 2, 3] (seqC (vC 0)) (lpC [0] (tg1 0) [(cmC .Eq (callC g__law_turn [(subC (bC 1) (vC 3)), (subC (bC 1) (vC 2)), (vC 0)]) (cC (.int 0)))] (eltC (vC 0))))))
  (ifS (cmC .Eq (tupC [(subC (bC 4) (cC (.int 0))), (subC (bC 4) (cC (.int 1)))]) (tupC [(subC (bC 0) (vC 3)), (subC (bC 0) (vC 2))])) (seqC2 (setC 5 (cC (.dict [])))
  (seqC2 (forC (seqC (vC 4)) (tg1 6) (setC 5 (callC g_add_callers [(vC 5), (dictC [((tupC [(cC (.str "on")), (vC 6), (cC (.str "line"))]), (cC (.int 1)))])])))
  (appC 1 (vC 5)))) skipC))))
  (freeC 1 (retC (vC 1)))))
theorem S_law_lines {C : Cx} (W : Wd C) : SndSs (C.fn N_law_lines none) 2 (scopeS (D 8)) (bodyS (D 8)) F_law_lines :=
 (@SndSs.cons _ _ _ _ _ _ _ (@SndS.assignO _ _ _ _ _ _ _ _ _ rfl ⟨.inl rfl, (NoPin.none rfl _)⟩ (@SndO.list _ _ _ _ _ _ (@SndRs.nil _ _ _)) (fun _ => rfl)) (@SndSs.cons _ _ _ _ _ _ _ (@SndS.forI _ _ _ _ _ _ _ _ _ _ _ (@SndTg.name _ _ _ _ rfl) (List.forall_mem_cons.mpr ⟨⟨.inr rfl, (NoPin.none rfl _)⟩, (fun _ h => nomatch h)⟩) (@SndI.range _ _ _ _ _ _ _ _ _ _ W.b_range rfl (@SndAs.cons _ _ _ _ _ _ _ (@Snd.b _ _ _ _ _ (@Snd.bi _ _ _ _ _ _ _ _ _ _ _ _ W.b_len rfl (@biLen _) (@SndAs.cons _ _ _ _ _ _ _ (@SndB.var _ _ _ _ _ _ rfl rfl rfl) (@SndAs.nil _ _ _) (fun _ _ => rfl)) (fun _ => rfl) rfl)) (@SndAs.nil _ _ _) (fun _ _ => rfl)) (fun _ => rfl)) (@SndSs.one _ _ _ _ _ (@SndS.forI _ _ _ _ _ _ _ _ _ _ _ (@SndTg.name _ _ _ _ rfl) (List.forall_mem_cons.mpr ⟨⟨.inr rfl, (NoPin.none rfl _)⟩, (fun _ h => nomatch h)⟩) (@SndI.range _ _ _ _ _ _ _ _ _ _ W.b_range rfl (@SndAs.cons _ _ _ _ _ _ _ (@SndB.var _ _ _ _ _ _ rfl rfl rfl) (@SndAs.nil _ _ _) (fun _ _ => rfl)) (fun _ => rfl)) (@SndSs.cons _ _ _ _ _ _ _ (@SndS.frz _ _ _ 4 _ _ (of_decide_eq_true rfl) (@SndS.assignU _ _ _ _ _ _ _ _ _ _ _ _ _ _ _ _ _ (lpC [0] (tg1 0) [(cmC .Eq (callC g__law_turn [(subC (bC 1) (vC 3)), (subC (bC 1) (vC 2)), (vC 0)]) (cC (.int 0)))] (eltC (vC 0))) _ ["point"] rfl rfl (NoPin.none rfl _) rfl rfl (CompOk.of (names := ["point", "points", "k", "j"]) (nt := 1) (caps := [0, 2, 3]) rfl) (@SndI.seq _ _ _ _ _ _ (@Snd.var _ _ _ _ _ _ rfl rfl rfl)) (@Lp.mk _ _ _ _ _ _ _ _ _ _ _ _ _ _ _ [0] _ rfl (@SndTg.name _ _ _ _ rfl) rfl (by decide) (@SndIfs.cons _ _ _ _ _ _ _ (@SndT.cmp _ _ _ _ _ _ _ _ _ (@Snd.b _ _ _ _ _ (@Snd.call _ _ _ _ _ _ _ _ _ _ _ _ _ W.g__law_turn rfl ⟨W.d__law_turn.fn.fn⟩ (@ok__law_turn _ W) (@SndRs.cons _ _ _ _ _ _ _ (@Snd.sub _ _ _ _ _ _ _ _ (@SndB.var _ _ _ _ _ _ rfl rfl rfl) (@Snd.var _ _ _ _ _ _ rfl rfl rfl) (fun _ _ => rfl)) (@SndRs.cons _ _ _ _ _ _ _ (@Snd.sub _ _ _ _ _ _ _ _ (@SndB.var _ _ _ _ _ _ rfl rfl rfl) (@Snd.var _ _ _ _ _ _ rfl rfl rfl) (fun _ _ => rfl)) (@SndRs.cons _ _ _ _ _ _ _ (@Snd.var _ _ _ _ _ _ rfl rfl rfl) (@SndRs.nil _ _ _) (fun _ _ => rfl)) (fun _ _ => rfl)) (fun _ _ => rfl)) (by decide) rfl)) (@Snd.b _ _ _ _ _ (@Snd.int _ _ _ _ _ _)) rfl) (@SndIfs.nil _ _ _)) (@In.elt _ _ _ _ _ _ _ _ _ _ rfl (@Snd.var _ _ _ _ _ _ rfl rfl rfl))) (by decide) (fun _ _ => rfl))) (@SndSs.one _ _ _ _ _ (@SndS.ifs _ _ _ _ _ _ _ _ _ _ (@SndT.cmp _ _ _ _ _ _ _ _ _ (@Snd.b _ _ _ _ _ (@Snd.tuple _ _ _ _ _ _ _ (@SndRs.cons _ _ _ _ _ _ _ (@Snd.sub _ _ _ _ _ _ _ _ (@SndB.var _ _ _ _ _ _ rfl rfl rfl) (@Snd.int _ _ _ _ _ _) (fun _ _ => rfl)) (@SndRs.cons _ _ _ _ _ _ _ (@Snd.sub _ _ _ _ _ _ _ _ (@SndB.var _ _ _ _ _ _ rfl rfl rfl) (@Snd.int _ _ _ _ _ _) (fun _ _ => rfl)) (@SndRs.nil _ _ _) (fun _ _ => rfl)) (fun _ _ => rfl)))) (@Snd.b _ _ _ _ _ (@Snd.tuple _ _ _ _ _ _ _ (@SndRs.cons _ _ _ _ _ _ _ (@Snd.sub _ _ _ _ _ _ _ _ (@SndB.var _ _ _ _ _ _ rfl rfl rfl) (@Snd.var _ _ _ _ _ _ rfl rfl rfl) (fun _ _ => rfl)) (@SndRs.cons _ _ _ _ _ _ _ (@Snd.sub _ _ _ _ _ _ _ _ (@SndB.var _ _ _ _ _ _ rfl rfl rfl) (@Snd.var _ _ _ _ _ _ rfl rfl rfl) (fun _ _ => rfl)) (@SndRs.nil _ _ _) (fun _ _ => rfl)) (fun _ _ => rfl)))) rfl) (@SndSs.cons _ _ _ _ _ _ _ (@SndS.assign _ _ _ _ _ _ _ _ _ rfl ⟨.inl rfl, (NoPin.none rfl _)⟩ (@SndO.snd _ _ _ _ _ (@SndO.dict0 _ _ _ _)) (fun _ => rfl)) (@SndSs.cons _ _ _ _ _ _ _ (@SndS.forI _ _ _ _ _ _ _ _ _ _ _ (@SndTg.name _ _ _ _ rfl) (List.forall_mem_cons.mpr ⟨⟨.inl rfl, (NoPin.none rfl _)⟩, (fun _ h => nomatch h)⟩) (@SndI.seq _ _ _ _ _ _ (@Snd.var _ _ _ _ _ _ rfl rfl rfl)) (@SndSs.one _ _ _ _ _ (@SndS.assign _ _ _ _ _ _ _ _ _ rfl ⟨.inl rfl, (NoPin.none rfl _)⟩ (@Snd.call _ _ _ _ _ _ _ _ _ _ _ _ _ W.g_add_callers rfl ⟨W.d_add_callers.fn.fn⟩ (@ok_add_callers _ W) (@SndRs.cons _ _ _ _ _ _ _ (@Snd.var _ _ _ _ _ _ rfl rfl rfl) (@SndRs.cons _ _ _ _ _ _ _ (@SndO.snd _ _ _ _ _ (@SndO.dict _ _ _ _ _ _ _ (@SndDs.cons _ _ _ _ _ _ _ _ _ _ (@Snd.tuple _ _ _ _ _ _ _ (@SndRs.cons _ _ _ _ _ _ _ (@Snd.str _ _ _ _ _ _ (by decide +kernel)) (@SndRs.cons _ _ _ _ _ _ _ (@Snd.var _ _ _ _ _ _ rfl rfl rfl) (@SndRs.cons _ _ _ _ _ _ _ (@Snd.str _ _ _ _ _ _ (by decide +kernel)) (@SndRs.nil _ _ _) (fun _ _ => rfl)) (fun _ _ => rfl)) (fun _ _ => rfl))) (@Snd.int _ _ _ _ _ _) (@SndDs.nil _ _ _)) rfl rfl (by first | rfl | (intros; rfl) | decide | (intros; with_unfolding_all rfl) | (intro env h; simp [interactive, h]) | simp) (by first | rfl | (intros; rfl) | decide | (intros; with_unfolding_all rfl) | (intro env h; simp [interactive, h]) | simp))) (@SndRs.nil _ _ _) (fun _ _ => rfl)) (fun _ _ => rfl)) (by decide) rfl) (fun _ => rfl))) (fun _ _ => rfl)) (@SndSs.one _ _ _ _ _ (@SndS.append _ _ _ _ _ _ _ _ _ _ _ rfl (@Snd.var _ _ _ _ _ _ rfl rfl rfl) (fun _ => rfl) rfl rfl (fun _ => rfl) rfl inter_ok)))) (@SndSs.nil _ _ _)))) (fun _ _ => rfl))) (fun _ _ => rfl)) (@SndSs.one _ _ _ _ _ (@SndS.free _ _ _ 1 _ _ (of_decide_eq_true rfl) (@SndS.ret _ _ _ _ _ _ (@Snd.var _ _ _ _ _ _ rfl rfl rfl))))))
noncomputable def g__law_lines : List PyData → Option PyData := fun ds => if ds.length = 1 then fnD F_law_lines [] 6 ds else none
theorem ok__law_lines {C : Cx} (W : Wd C) : FnOk C 3 W.a__law_lines g__law_lines :=
  FnOk.mk (ps := ["points"]) (rest := ["found", "k", "j", "on", "table", "point"]) (names := N_law_lines) (ex := []) (exd := []) W.d__law_lines W.ok (fun {_ _} hv _ => all1 (P := fun l => BindsTo _ _ ⟨l, []⟩ (List.zip ["points"] (l ++ []))) (fun _ => BindsTo.of_eq rfl) hv) (fun _ => .nil) rfl (nodupB_ok rfl) rfl (kinds_ok rfl) (S_law_lines W)
noncomputable def N_law : List Str := ["script", "points", "number", "point", "lines", "many", "near", "line", "on", "twice", "long", "best", "one"]
noncomputable def F_law : Sm := (seqC2 (ownC 1 (lstC []))
  (seqC2 (forC (seqC (takeC (bC 0) 7)) (tg1 2) (seqC2 (setC 3 (tupC [(opC .FloorDiv (opC .Mod (bC 2) (cC (.int 25))) (cC (.int 5))), (opC .Mod (bC 2) (cC (.int 5)))]))
  (ifS (cmC .NotIn (bC 3) (bC 1)) (insC g_insort 1 (vC 3)) skipC)))
  (seqC2 (freeC 1 (ifS (anyC [(cmC .NotEq (bC 1) (callC sortG [(bC 1)])), (cmC .NotEq (compC 1 [1] (seqC (vC 1)) (lpC [0] (tg1 0) [(cmC .NotEq (subC (bC 1) (callC g_bisect2 [(bC 1), (bC 0)])) (bC 0))] (eltC (vC 0)))) (lstC []))]) (retC (cC (.bool false))) skipC))
  (seqC2 (asgM [4, 5] true [(false, (callC g__law_lines [(vC 1)])), (false, (callC lenG [(bC 1)]))])
  (seqC2 (ifS (cmC .NotEq (callC sumG [(compC 1 [] (seqC (vC 4)) (lpC [0] (tg1 0) [] (eltC (opC .FloorDiv (opC .Mult (callC g_count_calls [(vC 0)]) (opC .Sub (callC g_count_calls [(vC 0)]) (cC (.int 1)))) (cC (.int 2))))))]) (opC .FloorDiv (opC .Mult (bC 5) (opC .Sub (bC 5) (cC (.int 1)))) (cC (.int 2)))) (retC (cC (.bool false))) skipC)
  (seqC2 (ifS (anyC [(cmC .Lt (bC 5) (cC (.int 2))), (cmC .Eq (callC lenG [(bC 4)]) (cC (.int 1)))]) (retC (andC (ofB (cmC .Eq (callC lenG [(bC 4)]) (callC intG [(ofB (cmC .Gt (bC 5) (cC (.int 1))))]))) (orC (ofB (cmC .Lt (bC 5) (cC (.int 2)))) (ofB (cmC .Eq (callC g_count_calls [(subC (bC 4) (cC (.int 0)))]) (bC 5)))))) skipC)
  (seqC2 (ifS (anyC [(cmC .Eq (compC 1 [] (seqC (vC 4)) (lpC [0] (tg1 0) [(cmC .Eq (callC g_count_calls [(vC 0)]) (cC (.int 2)))] (eltC (vC 0)))) (lstC [])), (cmC .Lt (callC lenG [(bC 4)]) (bC 5))]) (retC (cC (.bool false))) skipC)
  (seqC2 (ownC 6 (lstC []))
  (seqC2 (forC (seqC (vC 4)) (tg1 7) (seqC2 (setC 8 (callC sortG [(compC 1 [] (keysC (vC 7)) (lpC [0] (tg1 0) [] (eltC (subC (bC 0) (cC (.int 1))))))]))
  (forC (seqC (vC 1)) (tg1 3) (ifS (cmC .NotIn (bC 3) (bC 8)) (seqC2 (setC 9 (callC g__law_turn [(subC (bC 8) (cC (.int 0))), (subC (bC 8) (cC (.int 1))), (vC 3)]))
  (seqC2 (setC 10 (opC .Add (opC .Pow (opC .Sub (subC (subC (bC 8) (cC (.int 1))) (cC (.int 0))) (subC (subC (bC 8) (cC (.int 0))) (cC (.int 0)))) (cC (.int 2))) (opC .Pow (opC .Sub (subC (subC (bC 8) (cC (.int 1))) (cC (.int 1))) (subC (subC (bC 8) (cC (.int 0))) (cC (.int 1)))) (cC (.int 2)))))
  (appC 6 (tupC [(opC .Mult (bC 9) (bC 9)), (vC 10), (vC 3), (vC 8)])))) skipC))))
  (seqC2 (freeC 6 (setC 11 (subC (bC 6) (cC (.int 0)))))
  (seqC2 (forC (seqC (vC 6)) (tg1 12) (setC 11 (ifC (cmC .Lt (opC .Mult (subC (bC 12) (cC (.int 0))) (subC (bC 11) (cC (.int 1)))) (opC .Mult (subC (bC 11) (cC (.int 0))) (subC (bC 12) (cC (.int 1))))) (vC 12) (vC 11))))
  (retC (ofB (cmC .Eq (callC lenG [(subC (bC 11) (cC (.int 3)))]) (cC (.int 2))))))))))))))))
theorem S_law {C : Cx} (W : Wd C) : SndSs (C.fn N_law none) 20 (scopeS (D 9)) (bodyS (D 9)) F_law :=
 (@SndSs.cons _ _ _ _ _ _ _ (@SndS.assignO _ _ _ _ _ _ _ _ _ rfl ⟨.inr rfl, (NoPin.none rfl _)⟩ (@SndO.list _ _ _ _ _ _ (@SndRs.nil _ _ _)) (fun _ => rfl)) (@SndSs.cons _ _ _ _ _ _ _ (@SndS.forI _ _ _ _ _ _ _ _ _ _ _ (@SndTg.name _ _ _ _ rfl) (List.forall_mem_cons.mpr ⟨⟨.inl rfl, (NoPin.none rfl _)⟩, (fun _ h => nomatch h)⟩) (@SndI.seq _ _ _ _ _ _ (@Snd.take _ _ _ _ _ _ _ _ _ _ (@SndB.var _ _ _ _ _ _ rfl rfl rfl) (by decide) (fun _ _ => rfl))) (@SndSs.cons _ _ _ _ _ _ _ (@SndS.assign _ _ _ _ _ _ _ _ _ rfl ⟨.inl rfl, (NoPin.none rfl _)⟩ (@Snd.tuple _ _ _ _ _ _ _ (@SndRs.cons _ _ _ _ _ _ _ (@Snd.bin _ _ _ _ _ _ _ _ _ (@Snd.b _ _ _ _ _ (@Snd.bin _ _ _ _ _ _ _ _ _ (@SndB.var _ _ _ _ _ _ rfl rfl rfl) (@Snd.b _ _ _ _ _ (@Snd.int _ _ _ _ _ _)))) (@Snd.b _ _ _ _ _ (@Snd.int _ _ _ _ _ _))) (@SndRs.cons _ _ _ _ _ _ _ (@Snd.bin _ _ _ _ _ _ _ _ _ (@SndB.var _ _ _ _ _ _ rfl rfl rfl) (@Snd.b _ _ _ _ _ (@Snd.int _ _ _ _ _ _))) (@SndRs.nil _ _ _) (fun _ _ => rfl)) (fun _ _ => rfl))) (fun _ => rfl)) (@SndSs.one _ _ _ _ _ (@SndS.ifs _ _ _ _ _ _ _ _ _ _ (@SndT.cmp _ _ _ _ _ _ _ _ _ (@SndB.var _ _ _ _ _ _ rfl rfl rfl) (@SndB.var _ _ _ _ _ _ rfl rfl rfl) rfl) (@SndSs.one _ _ _ _ _ (@SndS.ins _ _ _ _ _ _ _ _ _ _ _ _ _ _ _ W.g_insort_left rfl ⟨W.d_insort_left.fn.fn⟩ (@ok_insort_left _ W) (by decide) rfl (@Snd.var _ _ _ _ _ _ rfl rfl rfl) (fun _ => rfl) rfl rfl rfl inter_ok)) (@SndSs.nil _ _ _)))) (fun _ _ => rfl)) (@SndSs.cons _ _ _ _ _ _ _ (@SndS.free _ _ _ 1 _ _ (of_decide_eq_true rfl) (@SndS.ifs _ _ _ _ _ _ _ _ _ _ (@SndT.or _ _ _ _ _ _ (@SndTs.cons _ _ _ _ _ _ _ (@SndT.cmp _ _ _ _ _ _ _ _ _ (@SndB.var _ _ _ _ _ _ rfl rfl rfl) (@Snd.b _ _ _ _ _ (@Snd.bi _ _ _ _ _ _ _ _ _ _ _ _ W.b_sorted rfl (@biSorted _) (@SndAs.cons _ _ _ _ _ _ _ (@SndB.var _ _ _ _ _ _ rfl rfl rfl) (@SndAs.nil _ _ _) (fun _ _ => rfl)) (fun _ => rfl) rfl)) rfl) (@SndTs.cons _ _ _ _ _ _ _ (@SndT.cmp _ _ _ _ _ _ _ _ _ (@Snd.b _ _ _ _ _ (@SndO.snd _ _ _ _ _ (@SndO.comp _ _ _ _ _ _ _ _ _ _ _ _ _ (lpC [0] (tg1 0) [(cmC .NotEq (subC (bC 1) (callC g_bisect2 [(bC 1), (bC 0)])) (bC 0))] (eltC (vC 0))) _ ["point"] (CompOk.of (names := ["point", "points"]) (nt := 1) (caps := [1]) rfl) (@SndI.seq _ _ _ _ _ _ (@Snd.var _ _ _ _ _ _ rfl rfl rfl)) (@Lp.mk _ _ _ _ _ _ _ _ _ _ _ _ _ _ _ [0] _ rfl (@SndTg.name _ _ _ _ rfl) rfl (by decide) (@SndIfs.cons _ _ _ _ _ _ _ (@SndT.cmp _ _ _ _ _ _ _ _ _ (@Snd.b _ _ _ _ _ (@Snd.sub _ _ _ _ _ _ _ _ (@SndB.var _ _ _ _ _ _ rfl rfl rfl) (@Snd.callB _ _ _ _ _ _ _ _ _ _ _ _ _ W.g_bisect_left rfl ⟨W.d_bisect_left.fn.fn⟩ (@ok_bisect2 _ W) (@SndAs.cons _ _ _ _ _ _ _ (@SndB.var _ _ _ _ _ _ rfl rfl rfl) (@SndAs.cons _ _ _ _ _ _ _ (@SndB.var _ _ _ _ _ _ rfl rfl rfl) (@SndAs.nil _ _ _) (fun _ _ => rfl)) (fun _ _ => rfl)) (by decide) rfl) (fun _ _ => rfl))) (@SndB.var _ _ _ _ _ _ rfl rfl rfl) rfl) (@SndIfs.nil _ _ _)) (@In.elt _ _ _ _ _ _ _ _ _ _ rfl (@Snd.var _ _ _ _ _ _ rfl rfl rfl))) (by decide) (fun _ _ => rfl)))) (@Snd.b _ _ _ _ _ (@Snd.list _ _ _ _ _ _ (@SndRs.nil _ _ _))) rfl) (@SndTs.nil _ _ _)))) (@SndSs.one _ _ _ _ _ (@SndS.ret _ _ _ _ _ _ (@Snd.bool _ _ _ _ _ _))) (@SndSs.nil _ _ _))) (@SndSs.cons _ _ _ _ _ _ _ (@SndS.assignM (C.fn N_law none) _ _ _ _ _ _ _ _ _ [4, 5] ["lines", "many"] [_, _] _ (fun _ => rfl) rfl rfl (List.forall_mem_cons.mpr ⟨⟨.inl rfl, (NoPin.none rfl _)⟩, (List.forall_mem_cons.mpr ⟨⟨.inl rfl, (NoPin.none rfl _)⟩, (fun _ h => nomatch h)⟩)⟩) (@SndMs.fz _ _ _ _ _ _ _ (@Snd.call _ _ _ _ _ _ _ _ _ _ _ _ _ W.g__law_lines rfl ⟨W.d__law_lines.fn.fn⟩ (@ok__law_lines _ W) (@SndRs.cons _ _ _ _ _ _ _ (@Snd.var _ _ _ _ _ _ rfl rfl rfl) (@SndRs.nil _ _ _) (fun _ _ => rfl)) (by decide) rfl) (@SndMs.fz _ _ _ _ _ _ _ (@Snd.bi _ _ _ _ _ _ _ _ _ _ _ _ W.b_len rfl (@biLen _) (@SndAs.cons _ _ _ _ _ _ _ (@SndB.var _ _ _ _ _ _ rfl rfl rfl) (@SndAs.nil _ _ _) (fun _ _ => rfl)) (fun _ => rfl) rfl) (@SndMs.nil _ _ _) (fun _ _ => rfl)) (fun _ _ => rfl)) true (by decide) (fun _ => rfl) (fun env he => by cases env; cases he; rfl)) (@SndSs.cons _ _ _ _ _ _ _ (@SndS.ifs _ _ _ _ _ _ _ _ _ _ (@SndT.cmp _ _ _ _ _ _ _ _ _ (@Snd.b _ _ _ _ _ (@Snd.bi _ _ _ _ _ _ _ _ _ _ _ _ W.b_sum rfl (@biSum _) (@SndAs.cons _ _ _ _ _ _ _ (@Snd.b _ _ _ _ _ (@SndO.snd _ _ _ _ _ (@SndO.comp _ _ _ _ _ _ _ _ _ _ _ _ _ (lpC [0] (tg1 0) [] (eltC (opC .FloorDiv (opC .Mult (callC g_count_calls [(vC 0)]) (opC .Sub (callC g_count_calls [(vC 0)]) (cC (.int 1)))) (cC (.int 2))))) _ ["line"] (CompOk.of (names := ["line"]) (nt := 1) (caps := []) rfl) (@SndI.seq _ _ _ _ _ _ (@Snd.var _ _ _ _ _ _ rfl rfl rfl)) (@Lp.mk _ _ _ _ _ _ _ _ _ _ _ _ _ _ _ [0] _ rfl (@SndTg.name _ _ _ _ rfl) rfl (by decide) (@SndIfs.nil _ _ _) (@In.elt _ _ _ _ _ _ _ _ _ _ rfl (@Snd.bin _ _ _ _ _ _ _ _ _ (@Snd.b _ _ _ _ _ (@Snd.bin _ _ _ _ _ _ _ _ _ (@Snd.b _ _ _ _ _ (@Snd.call _ _ _ _ _ _ _ _ _ _ _ _ _ W.g_count_calls rfl ⟨W.d_count_calls.fn.fn⟩ (@ok_count_calls _ W) (@SndRs.cons _ _ _ _ _ _ _ (@Snd.var _ _ _ _ _ _ rfl rfl rfl) (@SndRs.nil _ _ _) (fun _ _ => rfl)) (by decide) rfl)) (@Snd.b _ _ _ _ _ (@Snd.bin _ _ _ _ _ _ _ _ _ (@Snd.b _ _ _ _ _ (@Snd.call _ _ _ _ _ _ _ _ _ _ _ _ _ W.g_count_calls rfl ⟨W.d_count_calls.fn.fn⟩ (@ok_count_calls _ W) (@SndRs.cons _ _ _ _ _ _ _ (@Snd.var _ _ _ _ _ _ rfl rfl rfl) (@SndRs.nil _ _ _) (fun _ _ => rfl)) (by decide) rfl)) (@Snd.b _ _ _ _ _ (@Snd.int _ _ _ _ _ _)))))) (@Snd.b _ _ _ _ _ (@Snd.int _ _ _ _ _ _))))) (by decide) (fun _ _ => rfl)))) (@SndAs.nil _ _ _) (fun _ _ => rfl)) (fun _ => rfl) rfl)) (@Snd.b _ _ _ _ _ (@Snd.bin _ _ _ _ _ _ _ _ _ (@Snd.b _ _ _ _ _ (@Snd.bin _ _ _ _ _ _ _ _ _ (@SndB.var _ _ _ _ _ _ rfl rfl rfl) (@Snd.b _ _ _ _ _ (@Snd.bin _ _ _ _ _ _ _ _ _ (@SndB.var _ _ _ _ _ _ rfl rfl rfl) (@Snd.b _ _ _ _ _ (@Snd.int _ _ _ _ _ _)))))) (@Snd.b _ _ _ _ _ (@Snd.int _ _ _ _ _ _)))) rfl) (@SndSs.one _ _ _ _ _ (@SndS.ret _ _ _ _ _ _ (@Snd.bool _ _ _ _ _ _))) (@SndSs.nil _ _ _)) (@SndSs.cons _ _ _ _ _ _ _ (@SndS.ifs _ _ _ _ _ _ _ _ _ _ (@SndT.or _ _ _ _ _ _ (@SndTs.cons _ _ _ _ _ _ _ (@SndT.cmp _ _ _ _ _ _ _ _ _ (@SndB.var _ _ _ _ _ _ rfl rfl rfl) (@Snd.b _ _ _ _ _ (@Snd.int _ _ _ _ _ _)) rfl) (@SndTs.cons _ _ _ _ _ _ _ (@SndT.cmp _ _ _ _ _ _ _ _ _ (@Snd.b _ _ _ _ _ (@Snd.bi _ _ _ _ _ _ _ _ _ _ _ _ W.b_len rfl (@biLen _) (@SndAs.cons _ _ _ _ _ _ _ (@SndB.var _ _ _ _ _ _ rfl rfl rfl) (@SndAs.nil _ _ _) (fun _ _ => rfl)) (fun _ => rfl) rfl)) (@Snd.b _ _ _ _ _ (@Snd.int _ _ _ _ _ _)) rfl) (@SndTs.nil _ _ _)))) (@SndSs.one _ _ _ _ _ (@SndS.ret _ _ _ _ _ _ (@Snd.and _ _ _ _ _ _ _ _ (@Snd.cmp _ _ _ _ _ _ _ _ _ (@Snd.b _ _ _ _ _ (@Snd.bi _ _ _ _ _ _ _ _ _ _ _ _ W.b_len rfl (@biLen _) (@SndAs.cons _ _ _ _ _ _ _ (@SndB.var _ _ _ _ _ _ rfl rfl rfl) (@SndAs.nil _ _ _) (fun _ _ => rfl)) (fun _ => rfl) rfl)) (@Snd.b _ _ _ _ _ (@Snd.ty _ _ _ _ _ _ _ _ _ _ _ _ W.b_int rfl (@biInt _) (@SndAs.cons _ _ _ _ _ _ _ (@Snd.b _ _ _ _ _ (@Snd.cmp _ _ _ _ _ _ _ _ _ (@SndB.var _ _ _ _ _ _ rfl rfl rfl) (@Snd.b _ _ _ _ _ (@Snd.int _ _ _ _ _ _)) rfl)) (@SndAs.nil _ _ _) (fun _ _ => rfl)) (fun _ => rfl) rfl)) rfl) (@Snd.or _ _ _ _ _ _ _ _ (@Snd.cmp _ _ _ _ _ _ _ _ _ (@SndB.var _ _ _ _ _ _ rfl rfl rfl) (@Snd.b _ _ _ _ _ (@Snd.int _ _ _ _ _ _)) rfl) (@Snd.cmp _ _ _ _ _ _ _ _ _ (@Snd.b _ _ _ _ _ (@Snd.call _ _ _ _ _ _ _ _ _ _ _ _ _ W.g_count_calls rfl ⟨W.d_count_calls.fn.fn⟩ (@ok_count_calls _ W) (@SndRs.cons _ _ _ _ _ _ _ (@Snd.sub _ _ _ _ _ _ _ _ (@SndB.var _ _ _ _ _ _ rfl rfl rfl) (@Snd.int _ _ _ _ _ _) (fun _ _ => rfl)) (@SndRs.nil _ _ _) (fun _ _ => rfl)) (by decide) rfl)) (@SndB.var _ _ _ _ _ _ rfl rfl rfl) rfl))))) (@SndSs.nil _ _ _)) (@SndSs.cons _ _ _ _ _ _ _ (@SndS.ifs _ _ _ _ _ _ _ _ _ _ (@SndT.or _ _ _ _ _ _ (@SndTs.cons _ _ _ _ _ _ _ (@SndT.cmp _ _ _ _ _ _ _ _ _ (@Snd.b _ _ _ _ _ (@SndO.snd _ _ _ _ _ (@SndO.comp _ _ _ _ _ _ _ _ _ _ _ _ _ (lpC [0] (tg1 0) [(cmC .Eq (callC g_count_calls [(vC 0)]) (cC (.int 2)))] (eltC (vC 0))) _ ["line"] (CompOk.of (names := ["line"]) (nt := 1) (caps := []) rfl) (@SndI.seq _ _ _ _ _ _ (@Snd.var _ _ _ _ _ _ rfl rfl rfl)) (@Lp.mk _ _ _ _ _ _ _ _ _ _ _ _ _ _ _ [0] _ rfl (@SndTg.name _ _ _ _ rfl) rfl (by decide) (@SndIfs.cons _ _ _ _ _ _ _ (@SndT.cmp _ _ _ _ _ _ _ _ _ (@Snd.b _ _ _ _ _ (@Snd.call _ _ _ _ _ _ _ _ _ _ _ _ _ W.g_count_calls rfl ⟨W.d_count_calls.fn.fn⟩ (@ok_count_calls _ W) (@SndRs.cons _ _ _ _ _ _ _ (@Snd.var _ _ _ _ _ _ rfl rfl rfl) (@SndRs.nil _ _ _) (fun _ _ => rfl)) (by decide) rfl)) (@Snd.b _ _ _ _ _ (@Snd.int _ _ _ _ _ _)) rfl) (@SndIfs.nil _ _ _)) (@In.elt _ _ _ _ _ _ _ _ _ _ rfl (@Snd.var _ _ _ _ _ _ rfl rfl rfl))) (by decide) (fun _ _ => rfl)))) (@Snd.b _ _ _ _ _ (@Snd.list _ _ _ _ _ _ (@SndRs.nil _ _ _))) rfl) (@SndTs.cons _ _ _ _ _ _ _ (@SndT.cmp _ _ _ _ _ _ _ _ _ (@Snd.b _ _ _ _ _ (@Snd.bi _ _ _ _ _ _ _ _ _ _ _ _ W.b_len rfl (@biLen _) (@SndAs.cons _ _ _ _ _ _ _ (@SndB.var _ _ _ _ _ _ rfl rfl rfl) (@SndAs.nil _ _ _) (fun _ _ => rfl)) (fun _ => rfl) rfl)) (@SndB.var _ _ _ _ _ _ rfl rfl rfl) rfl) (@SndTs.nil _ _ _)))) (@SndSs.one _ _ _ _ _ (@SndS.ret _ _ _ _ _ _ (@Snd.bool _ _ _ _ _ _))) (@SndSs.nil _ _ _)) (@SndSs.cons _ _ _ _ _ _ _ (@SndS.assignO _ _ _ _ _ _ _ _ _ rfl ⟨.inl rfl, (NoPin.none rfl _)⟩ (@SndO.list _ _ _ _ _ _ (@SndRs.nil _ _ _)) (fun _ => rfl)) (@SndSs.cons _ _ _ _ _ _ _ (@SndS.forI _ _ _ _ _ _ _ _ _ _ _ (@SndTg.name _ _ _ _ rfl) (List.forall_mem_cons.mpr ⟨⟨.inl rfl, (NoPin.none rfl _)⟩, (fun _ h => nomatch h)⟩) (@SndI.seq _ _ _ _ _ _ (@Snd.var _ _ _ _ _ _ rfl rfl rfl)) (@SndSs.cons _ _ _ _ _ _ _ (@SndS.assign _ _ _ _ _ _ _ _ _ rfl ⟨.inl rfl, (NoPin.none rfl _)⟩ (@Snd.bi _ _ _ _ _ _ _ _ _ _ _ _ W.b_sorted rfl (@biSorted _) (@SndAs.cons _ _ _ _ _ _ _ (@Snd.b _ _ _ _ _ (@SndO.snd _ _ _ _ _ (@SndO.comp _ _ _ _ _ _ _ _ _ _ _ _ _ (lpC [0] (tg1 0) [] (eltC (subC (bC 0) (cC (.int 1))))) _ ["word"] (CompOk.of (names := ["word"]) (nt := 1) (caps := []) rfl) (@SndI.keys _ _ _ _ _ _ (@Snd.var _ _ _ _ _ _ rfl rfl rfl)) (@Lp.mk _ _ _ _ _ _ _ _ _ _ _ _ _ _ _ [0] _ rfl (@SndTg.name _ _ _ _ rfl) rfl (by decide) (@SndIfs.nil _ _ _) (@In.elt _ _ _ _ _ _ _ _ _ _ rfl (@Snd.sub _ _ _ _ _ _ _ _ (@SndB.var _ _ _ _ _ _ rfl rfl rfl) (@Snd.int _ _ _ _ _ _) (fun _ _ => rfl)))) (by decide) (fun _ _ => rfl)))) (@SndAs.nil _ _ _) (fun _ _ => rfl)) (fun _ => rfl) rfl) (fun _ => rfl)) (@SndSs.one _ _ _ _ _ (@SndS.forI _ _ _ _ _ _ _ _ _ _ _ (@SndTg.name _ _ _ _ rfl) (List.forall_mem_cons.mpr ⟨⟨.inl rfl, (NoPin.none rfl _)⟩, (fun _ h => nomatch h)⟩) (@SndI.seq _ _ _ _ _ _ (@Snd.var _ _ _ _ _ _ rfl rfl rfl)) (@SndSs.one _ _ _ _ _ (@SndS.ifs _ _ _ _ _ _ _ _ _ _ (@SndT.cmp _ _ _ _ _ _ _ _ _ (@SndB.var _ _ _ _ _ _ rfl rfl rfl) (@SndB.var _ _ _ _ _ _ rfl rfl rfl) rfl) (@SndSs.cons _ _ _ _ _ _ _ (@SndS.assign _ _ _ _ _ _ _ _ _ rfl ⟨.inl rfl, (NoPin.none rfl _)⟩ (@Snd.call _ _ _ _ _ _ _ _ _ _ _ _ _ W.g__law_turn rfl ⟨W.d__law_turn.fn.fn⟩ (@ok__law_turn _ W) (@SndRs.cons _ _ _ _ _ _ _ (@Snd.sub _ _ _ _ _ _ _ _ (@SndB.var _ _ _ _ _ _ rfl rfl rfl) (@Snd.int _ _ _ _ _ _) (fun _ _ => rfl)) (@SndRs.cons _ _ _ _ _ _ _ (@Snd.sub _ _ _ _ _ _ _ _ (@SndB.var _ _ _ _ _ _ rfl rfl rfl) (@Snd.int _ _ _ _ _ _) (fun _ _ => rfl)) (@SndRs.cons _ _ _ _ _ _ _ (@Snd.var _ _ _ _ _ _ rfl rfl rfl) (@SndRs.nil _ _ _) (fun _ _ => rfl)) (fun _ _ => rfl)) (fun _ _ => rfl)) (by decide) rfl) (fun _ => rfl)) (@SndSs.cons _ _ _ _ _ _ _ (@SndS.assign _ _ _ _ _ _ _ _ _ rfl ⟨.inl rfl, (NoPin.none rfl _)⟩ (@Snd.bin _ _ _ _ _ _ _ _ _ (@Snd.b _ _ _ _ _ (@Snd.bin _ _ _ _ _ _ _ _ _ (@Snd.b _ _ _ _ _ (@Snd.bin _ _ _ _ _ _ _ _ _ (@Snd.b _ _ _ _ _ (@Snd.sub _ _ _ _ _ _ _ _ (@Snd.b _ _ _ _ _ (@Snd.sub _ _ _ _ _ _ _ _ (@SndB.var _ _ _ _ _ _ rfl rfl rfl) (@Snd.int _ _ _ _ _ _) (fun _ _ => rfl))) (@Snd.int _ _ _ _ _ _) (fun _ _ => rfl))) (@Snd.b _ _ _ _ _ (@Snd.sub _ _ _ _ _ _ _ _ (@Snd.b _ _ _ _ _ (@Snd.sub _ _ _ _ _ _ _ _ (@SndB.var _ _ _ _ _ _ rfl rfl rfl) (@Snd.int _ _ _ _ _ _) (fun _ _ => rfl))) (@Snd.int _ _ _ _ _ _) (fun _ _ => rfl))))) (@Snd.b _ _ _ _ _ (@Snd.int _ _ _ _ _ _)))) (@Snd.b _ _ _ _ _ (@Snd.bin _ _ _ _ _ _ _ _ _ (@Snd.b _ _ _ _ _ (@Snd.bin _ _ _ _ _ _ _ _ _ (@Snd.b _ _ _ _ _ (@Snd.sub _ _ _ _ _ _ _ _ (@Snd.b _ _ _ _ _ (@Snd.sub _ _ _ _ _ _ _ _ (@SndB.var _ _ _ _ _ _ rfl rfl rfl) (@Snd.int _ _ _ _ _ _) (fun _ _ => rfl))) (@Snd.int _ _ _ _ _ _) (fun _ _ => rfl))) (@Snd.b _ _ _ _ _ (@Snd.sub _ _ _ _ _ _ _ _ (@Snd.b _ _ _ _ _ (@Snd.sub _ _ _ _ _ _ _ _ (@SndB.var _ _ _ _ _ _ rfl rfl rfl) (@Snd.int _ _ _ _ _ _) (fun _ _ => rfl))) (@Snd.int _ _ _ _ _ _) (fun _ _ => rfl))))) (@Snd.b _ _ _ _ _ (@Snd.int _ _ _ _ _ _))))) (fun _ => rfl)) (@SndSs.one _ _ _ _ _ (@SndS.append _ _ _ _ _ _ _ _ _ _ _ rfl (@Snd.tuple _ _ _ _ _ _ _ (@SndRs.cons _ _ _ _ _ _ _ (@Snd.bin _ _ _ _ _ _ _ _ _ (@SndB.var _ _ _ _ _ _ rfl rfl rfl) (@SndB.var _ _ _ _ _ _ rfl rfl rfl)) (@SndRs.cons _ _ _ _ _ _ _ (@Snd.var _ _ _ _ _ _ rfl rfl rfl) (@SndRs.cons _ _ _ _ _ _ _ (@Snd.var _ _ _ _ _ _ rfl rfl rfl) (@SndRs.cons _ _ _ _ _ _ _ (@Snd.var _ _ _ _ _ _ rfl rfl rfl) (@SndRs.nil _ _ _) (fun _ _ => rfl)) (fun _ _ => rfl)) (fun _ _ => rfl)) (fun _ _ => rfl))) (fun _ => rfl) rfl rfl (fun _ => rfl) rfl inter_ok)))) (@SndSs.nil _ _ _))) (fun _ _ => rfl)))) (fun _ _ => rfl)) (@SndSs.cons _ _ _ _ _ _ _ (@SndS.free _ _ _ 6 _ _ (of_decide_eq_true rfl) (@SndS.assign _ _ _ _ _ _ _ _ _ rfl ⟨.inl rfl, (NoPin.none rfl _)⟩ (@Snd.sub _ _ _ _ _ _ _ _ (@SndB.var _ _ _ _ _ _ rfl rfl rfl) (@Snd.int _ _ _ _ _ _) (fun _ _ => rfl)) (fun _ => rfl))) (@SndSs.cons _ _ _ _ _ _ _ (@SndS.forI _ _ _ _ _ _ _ _ _ _ _ (@SndTg.name _ _ _ _ rfl) (List.forall_mem_cons.mpr ⟨⟨.inl rfl, (NoPin.none rfl _)⟩, (fun _ h => nomatch h)⟩) (@SndI.seq _ _ _ _ _ _ (@Snd.var _ _ _ _ _ _ rfl rfl rfl)) (@SndSs.one _ _ _ _ _ (@SndS.assign _ _ _ _ _ _ _ _ _ rfl ⟨.inl rfl, (NoPin.none rfl _)⟩ (@Snd.ifx _ _ _ _ _ _ _ _ _ _ (@SndT.cmp _ _ _ _ _ _ _ _ _ (@Snd.b _ _ _ _ _ (@Snd.bin _ _ _ _ _ _ _ _ _ (@Snd.b _ _ _ _ _ (@Snd.sub _ _ _ _ _ _ _ _ (@SndB.var _ _ _ _ _ _ rfl rfl rfl) (@Snd.int _ _ _ _ _ _) (fun _ _ => rfl))) (@Snd.b _ _ _ _ _ (@Snd.sub _ _ _ _ _ _ _ _ (@SndB.var _ _ _ _ _ _ rfl rfl rfl) (@Snd.int _ _ _ _ _ _) (fun _ _ => rfl))))) (@Snd.b _ _ _ _ _ (@Snd.bin _ _ _ _ _ _ _ _ _ (@Snd.b _ _ _ _ _ (@Snd.sub _ _ _ _ _ _ _ _ (@SndB.var _ _ _ _ _ _ rfl rfl rfl) (@Snd.int _ _ _ _ _ _) (fun _ _ => rfl))) (@Snd.b _ _ _ _ _ (@Snd.sub _ _ _ _ _ _ _ _ (@SndB.var _ _ _ _ _ _ rfl rfl rfl) (@Snd.int _ _ _ _ _ _) (fun _ _ => rfl))))) rfl) (@Snd.var _ _ _ _ _ _ rfl rfl rfl) (@Snd.var _ _ _ _ _ _ rfl rfl rfl)) (fun _ => rfl))) (fun _ _ => rfl)) (@SndSs.one _ _ _ _ _ (@SndS.ret _ _ _ _ _ _ (@Snd.cmp _ _ _ _ _ _ _ _ _ (@Snd.b _ _ _ _ _ (@Snd.bi _ _ _ _ _ _ _ _ _ _ _ _ W.b_len rfl (@biLen _) (@SndAs.cons _ _ _ _ _ _ _ (@Snd.b _ _ _ _ _ (@Snd.sub _ _ _ _ _ _ _ _ (@SndB.var _ _ _ _ _ _ rfl rfl rfl) (@Snd.int _ _ _ _ _ _) (fun _ _ => rfl))) (@SndAs.nil _ _ _) (fun _ _ => rfl)) (fun _ => rfl) rfl)) (@Snd.b _ _ _ _ _ (@Snd.int _ _ _ _ _ _)) rfl))))))))))))))
end L2
/-! law 2, plain: points, lines of two points or more, each two points on just one of them -/
namespace M2
noncomputable abbrev Pt := Int × Int
noncomputable def turn (a b c : Pt) : Int := (b.1 - a.1) * (c.2 - a.2) - (c.1 - a.1) * (b.2 - a.2)
noncomputable def lt (a b : Pt) : Bool := decide (a.1 < b.1) || (decide (a.1 = b.1) && decide (a.2 < b.2))
noncomputable def on (P : List Pt) (a b : Pt) : List Pt := P.filter fun c => turn a b c == 0
noncomputable def cand (P : List Pt) (p q : Pt) : List (List Pt) := if (on P p q).take 2 = [p, q] then [on P p q] else []
noncomputable def lines (P : List Pt) : List (List Pt) := P.flatMap fun q => (P.filter (lt · q)).flatMap fun p => cand P p q
noncomputable def Srt (P : List Pt) : Prop := P.Pairwise fun a b => lt a b = true
theorem lt_irrefl (a : Pt) : lt a a = false := by simp [lt]
theorem lt_trans {a b c : Pt} (h : lt a b = true) (h' : lt b c = true) : lt a c = true := by
  simp [lt] at *; omega
theorem lt_ne {a b : Pt} (h : lt a b = true) : a ≠ b := by
  intro e; rw [e, lt_irrefl] at h; cases h
theorem lt_asymm {a b : Pt} (h : lt a b = true) : lt b a = false := by
  simp [lt] at *; omega
theorem lt_conn {a b : Pt} (h : a ≠ b) (h' : lt a b = false) : lt b a = true := by
  have : ¬ (a.1 = b.1 ∧ a.2 = b.2) := fun e => h (Prod.ext e.1 e.2)
  simp [lt] at *; omega
theorem Srt.nodup {P : List Pt} (h : Srt P) : P.Nodup := h.imp fun h => lt_ne h
theorem Srt.filter {P : List Pt} (f : Pt → Bool) (h : Srt P) : Srt (P.filter f) := List.Pairwise.filter f h
theorem para {u1 u2 z1 z2 t1 t2 : Int} (h : u1 * z2 = u2 * z1) (hz : ¬ (z1 = 0 ∧ z2 = 0)) (e : z1 * t2 = z2 * t1) : u1 * t2 = u2 * t1 := by
  have e1 : z1 * (u1 * t2 - u2 * t1) = 0 := by grind
  have e2 : z2 * (u1 * t2 - u2 * t1) = 0 := by grind
  rcases Int.mul_eq_zero.mp e1 with h1 | h1
  · rcases Int.mul_eq_zero.mp e2 with h2 | h2
    · exact absurd ⟨h1, h2⟩ hz
    · omega
  · omega
theorem col {a b x y c : Pt} (hab : a ≠ b) (hxy : x ≠ y) (hx : turn a b x = 0) (hy : turn a b y = 0) : turn x y c = 0 ↔ turn a b c = 0 := by
  have hu : ¬ (b.1 - a.1 = 0 ∧ b.2 - a.2 = 0) := fun e => hab (Prod.ext (by omega) (by omega))
  have hz : ¬ (y.1 - x.1 = 0 ∧ y.2 - x.2 = 0) := fun e => hxy (Prod.ext (by omega) (by omega))
  have hp : (b.1 - a.1) * (y.2 - x.2) = (b.2 - a.2) * (y.1 - x.1) := by unfold turn at hx hy; grind
  constructor
  · intro h
    have := para (t1 := c.1 - x.1) (t2 := c.2 - x.2) hp hz (by unfold turn at h; grind)
    unfold turn at *; grind
  · intro h
    have := para (u1 := y.1 - x.1) (u2 := y.2 - x.2) (t1 := c.1 - x.1) (t2 := c.2 - x.2) (by grind) hu (by unfold turn at *; grind)
    unfold turn at *; grind
theorem turn_l (a b : Pt) : turn a b a = 0 := by unfold turn; grind
theorem turn_r (a b : Pt) : turn a b b = 0 := by unfold turn; grind
theorem mem_on {P : List Pt} {a b c : Pt} : c ∈ on P a b ↔ c ∈ P ∧ turn a b c = 0 := by simp [on]
theorem on_eq {P : List Pt} {a b x y : Pt} (hab : a ≠ b) (hxy : x ≠ y) (hx : x ∈ on P a b) (hy : y ∈ on P a b) : on P x y = on P a b := by
  unfold on
  refine List.filter_congr fun c _ => ?_
  have := col (c := c) hab hxy (mem_on.mp hx).2 (mem_on.mp hy).2
  by_cases h : turn a b c = 0
  · rw [h, this.mpr h]
  · have h' : ¬ turn x y c = 0 := fun e => h (this.mp e)
    rw [beq_eq_false_iff_ne.mpr h, beq_eq_false_iff_ne.mpr h']
theorem mem_lines {P : List Pt} {m : List Pt} (h : m ∈ lines P) : ∃ p q, p ∈ P ∧ q ∈ P ∧ lt p q = true ∧ m = on P p q ∧ m.take 2 = [p, q] := by
  unfold lines at h
  obtain ⟨q, hq, h⟩ := List.mem_flatMap.mp h
  obtain ⟨p, hp, h⟩ := List.mem_flatMap.mp h
  unfold cand at h
  split at h
  · next e =>
    have := List.mem_singleton.mp h
    subst this
    exact ⟨p, q, (List.mem_filter.mp hp).1, hq, (List.mem_filter.mp hp).2, rfl, e⟩
  · cases h
theorem line_eq {P : List Pt} {m : List Pt} (h : m ∈ lines P) {x y : Pt} (hx : x ∈ m) (hy : y ∈ m) (hxy : x ≠ y) : m = on P x y := by
  obtain ⟨p, q, _, _, hl, e, _⟩ := mem_lines h
  rw [e] at hx hy
  rw [e, on_eq (lt_ne hl) hxy hx hy]
theorem line_sub {P : List Pt} {m : List Pt} (h : m ∈ lines P) {x : Pt} (hx : x ∈ m) : x ∈ P := by
  obtain ⟨p, q, _, _, hl, e, _⟩ := mem_lines h
  rw [e] at hx
  exact (mem_on.mp hx).1
theorem line_srt {P : List Pt} (hP : Srt P) {m : List Pt} (h : m ∈ lines P) : Srt m := by
  obtain ⟨p, q, _, _, hl, e, _⟩ := mem_lines h
  rw [e]; exact hP.filter _
theorem line_two {P : List Pt} {m : List Pt} (h : m ∈ lines P) : ∃ p q r, m = p :: q :: r := by
  obtain ⟨p, q, _, _, hl, _, e⟩ := mem_lines h
  match m, e with
  | a :: b :: r, _ => exact ⟨a, b, r, rfl⟩
/-! sums -/
noncomputable abbrev sm {α : Type} (l : List α) (f : α → Nat) : Nat := (l.map f).sum
noncomputable def ind (b : Bool) : Nat := if b then 1 else 0
theorem ind_t : ind true = 1 := rfl
theorem ind_f : ind false = 0 := rfl
theorem sm_single {α : Type} {l : List α} (hn : l.Nodup) {y : α} (hy : y ∈ l) {g : α → Nat} (h0 : ∀ x ∈ l, x ≠ y → g x = 0) : sm l g = g y := by
  induction l with
  | nil => cases hy
  | cons a r ih =>
    have hn' := List.nodup_cons.mp hn
    by_cases e : a = y
    · subst e
      have : sm r g = 0 := by
        have : ∀ x ∈ r, g x = 0 := fun x hx => h0 x (List.mem_cons_of_mem _ hx) (fun e => hn'.1 (e ▸ hx))
        clear ih h0 hy hn hn'
        induction r with
        | nil => rfl
        | cons b r ih => simp only [sm, List.map_cons, List.sum_cons]; rw [this b (List.mem_cons_self ..)]; have := ih (fun x hx => this x (List.mem_cons_of_mem _ hx)); simp only [sm] at this; omega
      simp only [sm, List.map_cons, List.sum_cons] at *; omega
    · have hy' : y ∈ r := by
        rcases List.mem_cons.mp hy with h | h
        · exact absurd h.symm e
        · exact h
      have := ih hn'.2 hy' (fun x hx => h0 x (List.mem_cons_of_mem _ hx))
      have h1 := h0 a (List.mem_cons_self ..) e
      simp only [sm, List.map_cons, List.sum_cons] at *; omega
theorem sm_congr {α : Type} {l : List α} {f g : α → Nat} (h : ∀ x ∈ l, f x = g x) : sm l f = sm l g := by
  unfold sm; rw [List.map_congr_left h]
theorem sm_add {α : Type} (l : List α) (f g : α → Nat) : sm l (fun x => f x + g x) = sm l f + sm l g := by
  induction l with
  | nil => rfl
  | cons a r ih => simp only [sm, List.map_cons, List.sum_cons] at *; omega
theorem sm_mul {α : Type} (l : List α) (f : α → Nat) (k : Nat) : sm l (fun x => k * f x) = k * sm l f := by
  induction l with
  | nil => simp [sm]
  | cons a r ih => simp only [sm, List.map_cons, List.sum_cons] at *; rw [ih, Nat.mul_add]
theorem sm_const {α : Type} (l : List α) (k : Nat) : sm l (fun _ => k) = l.length * k := by
  induction l with
  | nil => simp [sm]
  | cons a r ih => simp only [sm, List.map_cons, List.sum_cons, List.length_cons] at *; rw [ih, Nat.add_mul]; omega
theorem sm_zero {α : Type} (l : List α) : sm l (fun _ => 0) = 0 := by rw [sm_const]; rfl
theorem sm_comm {α β : Type} (l : List α) (k : List β) (f : α → β → Nat) : sm l (fun x => sm k fun y => f x y) = sm k (fun y => sm l fun x => f x y) := by
  induction l with
  | nil => simp only [sm, List.map_nil, List.sum_nil]; exact (sm_zero k).symm
  | cons a r ih =>
    have := sm_add k (fun y => f a y) (fun y => sm r fun x => f x y)
    simp only [sm, List.map_cons, List.sum_cons] at *
    omega
theorem sm_le {α : Type} {l : List α} {f g : α → Nat} (h : ∀ x ∈ l, f x ≤ g x) : sm l f ≤ sm l g := by
  induction l with
  | nil => exact Nat.le_refl _
  | cons a r ih =>
    have h1 := h a (List.mem_cons_self ..)
    have := ih fun x hx => h x (List.mem_cons_of_mem _ hx)
    simp only [sm, List.map_cons, List.sum_cons] at *; omega
theorem sm_filter {α : Type} (l : List α) (p : α → Bool) : (l.filter p).length = sm l (fun x => ind (p x)) := by
  induction l with
  | nil => rfl
  | cons a r ih =>
    simp only [sm, List.map_cons, List.sum_cons, List.filter_cons] at *
    cases p a <;> simp [ih, ind_t, ind_f] <;> omega
theorem sm_filter' {α : Type} (l : List α) (p : α → Bool) (g : α → Nat) : sm (l.filter p) g = sm l (fun x => ind (p x) * g x) := by
  induction l with
  | nil => rfl
  | cons a r ih =>
    simp only [sm, List.map_cons, List.sum_cons, List.filter_cons] at *
    cases p a <;> simp [ih, ind_t, ind_f]
theorem sm_flatMap {α β : Type} (l : List α) (f : α → List β) (g : β → Nat) : sm (l.flatMap f) g = sm l (fun x => sm (f x) g) := by
  induction l with
  | nil => rfl
  | cons a r ih => simp only [sm, List.flatMap_cons, List.map_append, List.sum_append, List.map_cons, List.sum_cons] at *; omega
theorem sm_one_le {α : Type} {l : List α} (hn : l.Nodup) {p : α → Bool} (h : ∀ x ∈ l, ∀ y ∈ l, p x = true → p y = true → x = y) : sm l (fun x => ind (p x)) ≤ 1 := by
  by_cases e : ∃ y ∈ l, p y = true
  · obtain ⟨y, hy, hp⟩ := e
    rw [sm_single hn hy (g := fun x => ind (p x))]
    · simp [hp, ind_t]
    · intro x hx hne
      cases q : p x with
      | false => rfl
      | true => exact absurd (h x hx y hy q hp) hne
  · have : sm l (fun x => ind (p x)) = sm l (fun _ => 0) := sm_congr fun x hx => by
      cases q : p x with
      | false => rfl
      | true => exact absurd ⟨x, hx, q⟩ e
    rw [this, sm_zero]; omega
theorem sm_mem_le {α : Type} {l : List α} {g : α → Nat} {y : α} (hy : y ∈ l) : g y ≤ sm l g := by
  induction l with
  | nil => cases hy
  | cons a r ih =>
    simp only [sm, List.map_cons, List.sum_cons] at *
    rcases List.mem_cons.mp hy with h | h
    · subst h; omega
    · have := ih h; omega
theorem just_one {P : List Pt} (hP : Srt P) {a b : Pt} (ha : a ∈ P) (hb : b ∈ P) (hab : a ≠ b) : sm (lines P) (fun m => ind (decide (a ∈ m)) * ind (decide (b ∈ m))) = 1 := by
  have hon : Srt (on P a b) := hP.filter _
  have ha' : a ∈ on P a b := mem_on.mpr ⟨ha, turn_l a b⟩
  have hb' : b ∈ on P a b := mem_on.mpr ⟨hb, turn_r a b⟩
  obtain ⟨x, y, r, e⟩ : ∃ x y r, on P a b = x :: y :: r := by
    match on P a b, ha', hb' with
    | [z], h1, h2 => exact absurd ((List.mem_singleton.mp h1).trans (List.mem_singleton.mp h2).symm) hab
    | x :: y :: r, _, _ => exact ⟨x, y, r, rfl⟩
  have hx : x ∈ on P a b := by rw [e]; simp
  have hy : y ∈ on P a b := by rw [e]; simp
  have hxy : lt x y = true := by rw [e] at hon; exact (List.pairwise_cons.mp hon).1 y (by simp)
  have hE := on_eq hab (lt_ne hxy) hx hy
  have hg : ∀ p q, p ∈ P → q ∈ P → lt p q = true → sm (cand P p q) (fun m => ind (decide (a ∈ m)) * ind (decide (b ∈ m))) = if p = x ∧ q = y then 1 else 0 := by
    intro p q hp hq hl
    unfold cand
    by_cases h : p = x ∧ q = y
    · obtain ⟨rfl, rfl⟩ := h
      rw [if_pos (by rw [hE, e]; rfl), hE]
      simp [sm, ha', hb', ind_t]
    · rw [if_neg h]
      split
      · next t =>
        by_cases h' : a ∈ on P p q ∧ b ∈ on P p q
        · have := on_eq (lt_ne hl) hab h'.1 h'.2
          rw [← this, e] at t
          simp only [List.take, List.cons.injEq] at t
          exact absurd ⟨t.1.symm, t.2.1.symm⟩ h
        · simp only [sm, List.map_cons, List.map_nil, List.sum_cons, List.sum_nil]
          by_cases h1 : a ∈ on P p q
          · have : b ∉ on P p q := fun h2 => h' ⟨h1, h2⟩
            simp [this, ind_f]
          · simp [h1, ind_f]
      · rfl
  have hn := hP.nodup
  have hxP := (mem_on.mp hx).1
  have hyP := (mem_on.mp hy).1
  unfold lines
  rw [sm_flatMap, sm_single hn hyP]
  · rw [sm_flatMap, sm_single (y := x)]
    · rw [hg x y hxP hyP hxy]; simp
    · exact hn.filter _
    · exact List.mem_filter.mpr ⟨hxP, hxy⟩
    · intro p hp hne
      rw [hg p y (List.mem_filter.mp hp).1 hyP (List.mem_filter.mp hp).2]
      simp [hne]
  · intro q hq hne
    rw [sm_flatMap, sm_congr (g := fun _ => 0), sm_zero]
    intro p hp
    rw [hg p q (List.mem_filter.mp hp).1 hq (List.mem_filter.mp hp).2]
    simp [hne]
end M2
/-! law 2, plain: the twos of points counted by lines; no fewer lines than points -/
namespace M2
noncomputable abbrev inc (p : Pt) (m : List Pt) : Nat := ind (decide (p ∈ m))
theorem len_line {P : List Pt} {m : List Pt} (h : m ∈ lines P) : m.length = sm P (fun x => inc x m) := by
  obtain ⟨p, q, _, _, hl, e, _⟩ := mem_lines h
  have e' := e
  unfold on at e'
  rw [e', sm_filter]
  refine sm_congr fun x hx => ?_
  rw [← e', e]
  congr 1
  rw [Bool.eq_iff_iff]
  simp [mem_on, hx]
theorem half (n : Nat) : n * n = n + 2 * (n * (n - 1) / 2) := by
  cases n with
  | zero => rfl
  | succ k =>
    have h : 2 ∣ (k + 1) * (k + 1 - 1) := by
      rw [Nat.add_sub_cancel]
      rcases Nat.mod_two_eq_zero_or_one k with h | h
      · exact Nat.dvd_mul_left_of_dvd (Nat.dvd_of_mod_eq_zero h) _
      · exact Nat.dvd_mul_right_of_dvd (Nat.dvd_of_mod_eq_zero (by omega)) _
    rw [Nat.mul_div_cancel' h, Nat.add_sub_cancel]
    grind
theorem pairs {P : List Pt} (hP : Srt P) : sm (lines P) (fun m => m.length * (m.length - 1) / 2) = P.length * (P.length - 1) / 2 := by
  have h1 : sm (lines P) (fun m => m.length * m.length) = sm P fun x => sm P fun y => sm (lines P) fun m => inc x m * inc y m := by
    rw [sm_congr (g := fun m => sm P fun x => sm P fun y => inc x m * inc y m)]
    · rw [sm_comm]
      refine sm_congr fun x _ => ?_
      rw [sm_comm]
    · intro m hm
      rw [len_line hm]
      rw [← sm_mul]
      refine sm_congr fun x _ => ?_
      rw [sm_mul, Nat.mul_comm]
  have h2 : ∀ x ∈ P, (sm P fun y => sm (lines P) fun m => inc x m * inc y m) + 1 = P.length + sm (lines P) (fun m => inc x m) := by
    intro x hx
    have e1 : sm P (fun y => ind (decide (y = x))) = 1 := by
      rw [sm_single hP.nodup hx]
      · simp [ind_t]
      · intro y _ h; simp [h, ind_f]
    have e2 : sm P (fun y => (sm (lines P) fun m => inc x m * inc y m) + ind (decide (y = x))) = sm P (fun y => 1 + sm (lines P) (fun m => inc x m) * ind (decide (y = x))) := by
      refine sm_congr fun y hy => ?_
      by_cases e : y = x
      · subst e
        simp only [decide_true, ind_t, Nat.mul_one]
        rw [Nat.add_comm]
        congr 1
        refine sm_congr fun m _ => ?_
        unfold inc
        cases decide (y ∈ m) <;> rfl
      · rw [just_one hP hx hy (Ne.symm e)]
        simp [e, ind_f]
    rw [sm_add, sm_add, sm_mul, sm_const, e1] at e2
    omega
  have h3 : sm P (fun x => (sm P fun y => sm (lines P) fun m => inc x m * inc y m) + 1) = sm P (fun x => P.length + sm (lines P) (fun m => inc x m)) := sm_congr h2
  have h4 : sm P (fun x => sm (lines P) (fun m => inc x m)) = sm (lines P) (fun m => m.length) := by
    rw [sm_comm]
    exact sm_congr fun m hm => (len_line hm).symm
  rw [sm_add, sm_add, sm_const, sm_const, h4, ← h1] at h3
  have h5 : sm (lines P) (fun m => m.length * m.length) = sm (lines P) (fun m => m.length + 2 * (m.length * (m.length - 1) / 2)) := sm_congr fun m _ => half _
  rw [sm_add, sm_mul] at h5
  have h6 := half P.length
  have h7 : sm (lines P) (fun m => m.length * m.length) + P.length = P.length * P.length + sm (lines P) (fun m => m.length) := by
    have := h3
    simp only [Nat.mul_one] at this
    exact this
  have h8 : sm (lines P) List.length = sm (lines P) (fun m => m.length) := rfl
  rw [h8] at h5
  omega
/-! no fewer lines than points -/
noncomputable abbrev deg (P : List Pt) (p : Pt) : Nat := sm (lines P) fun m => inc p m
theorem deg_ge {P : List Pt} (hP : Srt P) {m : List Pt} (hm : m ∈ lines P) {p : Pt} (hp : p ∈ P) (hpm : p ∉ m) : m.length ≤ deg P p := by
  have h1 : sm m (fun x => sm (lines P) fun l => inc p l * inc x l) = m.length := by
    rw [sm_congr (g := fun _ => 1), sm_const, Nat.mul_one]
    intro x hx
    exact just_one hP hp (line_sub hm hx) (fun e => hpm (e ▸ hx))
  rw [← h1, sm_comm]
  refine sm_le fun l hl => ?_
  show sm m (fun x => inc p l * inc x l) ≤ inc p l
  by_cases h : p ∈ l
  · have : sm m (fun x => inc p l * inc x l) = sm m (fun x => ind (decide (x ∈ l))) := sm_congr fun x _ => by simp [inc, h, ind_t]
    rw [this]
    simp only [inc, h, decide_true, ind_t]
    refine sm_one_le (line_srt hP hm).nodup fun x hx y hy h1 h2 => ?_
    refine Classical.byContradiction fun hxy => hpm ?_
    rw [line_eq hm hx hy hxy, ← line_eq hl (of_decide_eq_true h1) (of_decide_eq_true h2) hxy]
    exact h
  · have : sm m (fun x => inc p l * inc x l) = sm m (fun _ => 0) := sm_congr fun x _ => by simp [inc, h, ind_f]
    rw [this, sm_zero]; omega
theorem lines_ne {P : List Pt} (hP : Srt P) : (lines P).Nodup := by
  have : ∀ l : List (List Pt), (∀ m ∈ l, ∃ a b, a ∈ m ∧ b ∈ m ∧ sm l (fun m => ind (decide (a ∈ m)) * ind (decide (b ∈ m))) ≤ 1) → l.Nodup := by
    intro l
    induction l with
    | nil => exact fun _ => List.nodup_nil
    | cons m r ih =>
      intro h
      refine List.nodup_cons.mpr ⟨fun hm => ?_, ih fun m' hm' => ?_⟩
      · obtain ⟨a, b, ha, hb, hs⟩ := h m (by simp)
        simp only [sm, List.map_cons, List.sum_cons] at hs
        have := sm_mem_le (g := fun m => ind (decide (a ∈ m)) * ind (decide (b ∈ m))) hm
        simp only [sm, ha, hb, decide_true, ind_t] at *
        omega
      · obtain ⟨a, b, ha, hb, hs⟩ := h m' (by simp [hm'])
        refine ⟨a, b, ha, hb, ?_⟩
        simp only [sm, List.map_cons, List.sum_cons] at *
        omega
  refine this _ fun m hm => ?_
  obtain ⟨p, q, r, e⟩ := line_two hm
  have hs := line_srt hP hm
  rw [e] at hs
  have hpq := (List.pairwise_cons.mp hs).1 q (by simp)
  have hp : p ∈ m := by rw [e]; simp
  have hq : q ∈ m := by rw [e]; simp
  exact ⟨p, q, hp, hq, Nat.le_of_eq (just_one hP (line_sub hm hp) (line_sub hm hq) (lt_ne hpq))⟩
theorem some_line {P : List Pt} (hP : Srt P) {a b : Pt} (ha : a ∈ P) (hb : b ∈ P) (hab : a ≠ b) : ∃ m ∈ lines P, a ∈ m ∧ b ∈ m := by
  refine Classical.byContradiction fun h => ?_
  have h1 := just_one hP ha hb hab
  rw [sm_congr (g := fun _ => 0), sm_zero] at h1
  · cases h1
  · intro m hm
    by_cases h1 : a ∈ m
    · by_cases h2 : b ∈ m
      · exact absurd ⟨m, hm, h1, h2⟩ h
      · simp [h2, ind_f]
    · simp [h1, ind_f]
theorem other {P : List Pt} (hP : Srt P) {m : List Pt} (hm : m ∈ lines P) (p : Pt) : ∃ x ∈ m, x ≠ p := by
  obtain ⟨x, y, r, e⟩ := line_two hm
  have hs := line_srt hP hm
  rw [e] at hs
  have hxy := lt_ne ((List.pairwise_cons.mp hs).1 y (by simp))
  by_cases h : x = p
  · exact ⟨y, by rw [e]; simp, fun e => hxy (h.trans e.symm)⟩
  · exact ⟨x, by rw [e]; simp, h⟩
theorem off_line {P : List Pt} (hP : Srt P) (h2 : 2 ≤ (lines P).length) {m : List Pt} (hm : m ∈ lines P) : ∃ p ∈ P, p ∉ m := by
  refine Classical.byContradiction fun h => ?_
  have hall : ∀ p ∈ P, p ∈ m := fun p hp => Classical.byContradiction fun h' => h ⟨p, hp, h'⟩
  have heq : ∀ l ∈ lines P, l = m := by
    intro l hl
    obtain ⟨x, y, r, e⟩ := line_two hl
    have hs := line_srt hP hl
    rw [e] at hs
    have hxy := lt_ne ((List.pairwise_cons.mp hs).1 y (by simp))
    have hx : x ∈ l := by rw [e]; simp
    have hy : y ∈ l := by rw [e]; simp
    rw [line_eq hl hx hy hxy, ← line_eq hm (hall x (line_sub hl hx)) (hall y (line_sub hl hy)) hxy]
  have hn := lines_ne hP
  match lines P, hn, h2, heq with
  | a :: b :: r, hn, _, heq =>
    have := heq a (by simp)
    have := heq b (by simp)
    simp_all
theorem off_point {P : List Pt} (hP : Srt P) (h2 : 2 ≤ (lines P).length) (p : Pt) : ∃ m ∈ lines P, p ∉ m := by
  refine Classical.byContradiction fun h => ?_
  have hall : ∀ m ∈ lines P, p ∈ m := fun m hm => Classical.byContradiction fun h' => h ⟨m, hm, h'⟩
  have hn := lines_ne hP
  obtain ⟨a, b, ha, hb, hab⟩ : ∃ a b, a ∈ lines P ∧ b ∈ lines P ∧ a ≠ b := by
    match lines P, hn, h2 with
    | a :: b :: r, hn, _ => exact ⟨a, b, by simp, by simp, fun e => by subst e; simp at hn⟩
  obtain ⟨x, hx, hxp⟩ := other hP ha p
  obtain ⟨y, hy, hyp⟩ := other hP hb p
  have ea := line_eq ha hx (hall a ha) hxp
  have eb := line_eq hb hy (hall b hb) hyp
  have hxy : x ≠ y := fun e => by subst e; exact hab (ea.trans eb.symm)
  obtain ⟨m, hm, hxm, hym⟩ := some_line hP (line_sub ha hx) (line_sub hb hy) hxy
  exact hab ((ea.trans (line_eq hm hxm (hall m hm) hxp).symm).trans ((line_eq hm hym (hall m hm) hyp).trans eb.symm))
theorem w60' : ∀ a : Nat, a < 6 → 60 / (a + 1) * (a + 1) = 60 := by decide
theorem w60 (a : Nat) (h1 : 1 ≤ a) (h2 : a ≤ 6) : 60 / a * a = 60 := by
  cases a with
  | zero => cases h1
  | succ k => exact w60' k h2
theorem weigh {L N a b u v : Nat} (ha : u * a = 60) (hb : v * b = 60) (h : N * a < L * b) : N * v < L * u := by
  have hu : 0 < a := by rcases Nat.eq_zero_or_pos a with e | e; · subst e; omega
                        · exact e
  have hv : 0 < b := by rcases Nat.eq_zero_or_pos b with e | e; · subst e; omega
                        · exact e
  refine Nat.lt_of_mul_lt_mul_left (a := a * b) ?_
  have e1 : a * b * (N * v) = 60 * (N * a) := by rw [← hb]; grind
  have e2 : a * b * (L * u) = 60 * (L * b) := by rw [← ha]; grind
  rw [e1, e2]; omega
theorem not_inc (l : List (List Pt)) (p : Pt) : sm l (fun m => ind (decide (p ∉ m))) + sm l (fun m => inc p m) = l.length := by
  rw [← sm_add, sm_congr (g := fun _ => 1), sm_const, Nat.mul_one]
  intro m _
  by_cases h : p ∈ m <;> simp [inc, h, ind_t, ind_f]
theorem no_fewer {P : List Pt} (hP : Srt P) (h7 : P.length ≤ 7) (h2 : 2 ≤ (lines P).length) : P.length ≤ (lines P).length := by
  refine Classical.byContradiction fun hlt => ?_
  have hlt : (lines P).length < P.length := by omega
  generalize hL : (lines P).length = L at *
  generalize hN : P.length = N at *
  have hd : ∀ p ∈ P, deg P p < L := by
    intro p hp
    obtain ⟨m, hm, hpm⟩ := off_point hP (by omega) p
    have := not_inc (lines P) p
    have h1 := sm_mem_le (g := fun m => ind (decide (p ∉ m))) hm
    simp only [hpm, not_false_eq_true, decide_true, ind_t] at h1
    unfold deg; omega
  have hmN : ∀ m ∈ lines P, sm P (fun x => ind (decide (x ∉ m))) + m.length = N := by
    intro m hm
    rw [len_line hm, ← sm_add, sm_congr (g := fun _ => 1), sm_const, Nat.mul_one, hN]
    intro x _
    by_cases h : x ∈ m <;> simp [inc, h, ind_t, ind_f]
  have hb : ∀ m ∈ lines P, m.length < N := by
    intro m hm
    obtain ⟨p, hp, hpm⟩ := off_line hP (by omega) hm
    have := hmN m hm
    have h1 := sm_mem_le (g := fun x => ind (decide (x ∉ m))) hp
    simp only [hpm, not_false_eq_true, decide_true, ind_t] at h1
    omega
  have hb2 : ∀ m ∈ lines P, 2 ≤ m.length := by
    intro m hm
    obtain ⟨p, q, r, e⟩ := line_two hm
    rw [e]; simp
  -- the weights, summed both ways
  have hcmp : ∀ p ∈ P, ∀ m ∈ lines P, ind (decide (p ∉ m)) * (1 + N * (60 / (N - m.length))) ≤ ind (decide (p ∉ m)) * (L * (60 / (L - deg P p))) := by
    intro p hp m hm
    by_cases h : p ∈ m
    · simp [h, ind_f]
    · refine Nat.mul_le_mul_left _ ?_
      have h1 := hd p hp
      have h2 := hb m hm
      have h3 := hb2 m hm
      have h4 := deg_ge hP hm hp h
      have := weigh (L := L) (N := N) (w60 (L - deg P p) (by omega) (by omega)) (w60 (N - m.length) (by omega) (by omega)) (by
        obtain ⟨a, ha⟩ : ∃ a, L = deg P p + a := ⟨L - deg P p, by omega⟩
        obtain ⟨b, hb'⟩ : ∃ b, N = m.length + b := ⟨N - m.length, by omega⟩
        have e1 : L - deg P p = a := by omega
        have e2 : N - m.length = b := by omega
        rw [e1, e2]
        have e3 : N * deg P p + N * a = N * L := by rw [← Nat.mul_add, ← ha]
        have e4 : L * m.length + L * b = L * N := by rw [← Nat.mul_add, ← hb']
        have e5 : L * m.length < N * deg P p := Nat.lt_of_lt_of_le (Nat.mul_lt_mul_of_pos_right hlt (by omega)) (Nat.mul_le_mul_left _ h4)
        have e6 : N * L = L * N := Nat.mul_comm _ _
        omega)
      omega
  have hsum : sm P (fun p => sm (lines P) fun m => ind (decide (p ∉ m)) * (1 + N * (60 / (N - m.length)))) ≤ sm P (fun p => sm (lines P) fun m => ind (decide (p ∉ m)) * (L * (60 / (L - deg P p)))) := sm_le fun p hp => sm_le fun m hm => hcmp p hp m hm
  have hr : sm P (fun p => sm (lines P) fun m => ind (decide (p ∉ m)) * (L * (60 / (L - deg P p)))) = N * (L * 60) := by
    rw [sm_congr (g := fun _ => L * 60), sm_const, hN]
    intro p hp
    rw [sm_congr (g := fun m => (L * (60 / (L - deg P p))) * ind (decide (p ∉ m))), sm_mul]
    · have h1 := not_inc (lines P) p
      have h3 := hd p hp
      have h2 := w60 (L - deg P p) (by omega) (by omega)
      have h4 : sm (lines P) (fun m => ind (decide (p ∉ m))) = L - deg P p := by unfold deg; omega
      rw [h4, Nat.mul_assoc, h2]
    · intro m _; exact Nat.mul_comm _ _
  have hl : sm P (fun p => sm (lines P) fun m => ind (decide (p ∉ m)) * (1 + N * (60 / (N - m.length)))) = sm (lines P) (fun m => (N - m.length) + N * 60) := by
    rw [sm_comm]
    refine sm_congr fun m hm => ?_
    rw [sm_congr (g := fun p => (1 + N * (60 / (N - m.length))) * ind (decide (p ∉ m))), sm_mul]
    · have h1 := hmN m hm
      have h3 := hb m hm
      have h5 := hb2 m hm
      have h2 := w60 (N - m.length) (by omega) (by omega)
      have h4 : sm P (fun x => ind (decide (x ∉ m))) = N - m.length := by omega
      rw [h4, Nat.add_mul, Nat.one_mul, Nat.mul_assoc, h2]
    · intro p _; exact Nat.mul_comm _ _
  rw [hr, hl, sm_add, sm_const, hL] at hsum
  have : 0 < sm (lines P) (fun m => N - m.length) := by
    match hm : lines P with
    | [] => rw [hm] at hL; simp at hL; omega
    | m :: r =>
      have := hb m (by rw [hm]; simp)
      have h1 := sm_mem_le (l := m :: r) (g := fun m => N - m.length) (y := m) (by simp)
      have h1 : N - m.length ≤ sm (m :: r) (fun m => N - m.length) := h1
      omega
  have e : N * (L * 60) = L * (N * 60) := by grind
  omega
end M2
/-! law 2, plain: the line to which a point off it is nearest holds just two (Kelly) -/
namespace M2
noncomputable def sq (a b : Pt) : Int := (b.1 - a.1) * (b.1 - a.1) + (b.2 - a.2) * (b.2 - a.2)
theorem sq_pos {a b : Pt} (h : a ≠ b) : 0 < sq a b := by
  unfold sq
  have h1 : ¬ (b.1 - a.1 = 0 ∧ b.2 - a.2 = 0) := fun e => h (Prod.ext (by omega) (by omega))
  have p1 : ∀ i : Int, 0 ≤ i * i := fun i => by
    rcases Int.le_total 0 i with h | h
    · exact Int.mul_nonneg h h
    · exact Int.mul_nonneg_of_nonpos_of_nonpos h h
  have p2 : ∀ i : Int, i ≠ 0 → 0 < i * i := fun i h => by
    have := p1 i
    have : i * i ≠ 0 := fun e => (Int.mul_eq_zero.mp e).elim h h
    omega
  by_cases h2 : b.1 - a.1 = 0
  · have := p2 (b.2 - a.2) (fun e => h1 ⟨h2, e⟩)
    have := p1 (b.1 - a.1)
    omega
  · have := p2 (b.1 - a.1) h2
    have := p1 (b.2 - a.2)
    omega
theorem sqr_pos {i : Int} (h : i ≠ 0) : 0 < i * i := by
  have : i * i ≠ 0 := fun e => (Int.mul_eq_zero.mp e).elim h h
  have : 0 ≤ i * i := by
    rcases Int.le_total 0 i with h | h
    · exact Int.mul_nonneg h h
    · exact Int.mul_nonneg_of_nonpos_of_nonpos h h
  omega
theorem scale {a b x y p : Pt} (hx : turn a b x = 0) (hy : turn a b y = 0) : turn x y p * turn x y p * sq a b = turn a b p * turn a b p * sq x y := by
  have e1 : (b.1 - a.1) * turn x y p = (y.1 - x.1) * turn a b p := by unfold turn at *; grind
  have e2 : (b.2 - a.2) * turn x y p = (y.2 - x.2) * turn a b p := by unfold turn at *; grind
  generalize turn x y p = t at *
  generalize turn a b p = r at *
  unfold sq
  have h1 : (b.1 - a.1) * t * ((b.1 - a.1) * t) = (y.1 - x.1) * r * ((y.1 - x.1) * r) := by rw [e1]
  have h2 : (b.2 - a.2) * t * ((b.2 - a.2) * t) = (y.2 - x.2) * r * ((y.2 - x.2) * r) := by rw [e2]
  grind
noncomputable def dot (a b p : Pt) : Int := (b.1 - a.1) * (p.1 - b.1) + (b.2 - a.2) * (p.2 - b.2)
theorem pick2 (r s : Int) (h : r ≠ s) (hs : 0 ≤ r ↔ 0 ≤ s) : ∃ i j, ((i = r ∧ j = s) ∨ (i = s ∧ j = r)) ∧ ((0 ≤ j ∧ j < i) ∨ (i < j ∧ j ≤ 0)) := by
  by_cases d : (0 ≤ s ∧ s < r) ∨ (r < s ∧ s ≤ 0)
  · exact ⟨r, s, .inl ⟨rfl, rfl⟩, d⟩
  · exact ⟨s, r, .inr ⟨rfl, rfl⟩, by omega⟩
theorem pick (r s t : Int) (h1 : r ≠ s) (h2 : r ≠ t) (h3 : s ≠ t) : ∃ i j, ((i = r ∧ j = s) ∨ (i = s ∧ j = r) ∨ (i = r ∧ j = t) ∨ (i = t ∧ j = r) ∨ (i = s ∧ j = t) ∨ (i = t ∧ j = s)) ∧ ((0 ≤ j ∧ j < i) ∨ (i < j ∧ j ≤ 0)) := by
  by_cases a : 0 ≤ r ↔ 0 ≤ s
  · obtain ⟨i, j, h, hd⟩ := pick2 r s h1 a
    exact ⟨i, j, h.elim .inl fun h => .inr (.inl h), hd⟩
  by_cases b : 0 ≤ r ↔ 0 ≤ t
  · obtain ⟨i, j, h, hd⟩ := pick2 r t h2 b
    exact ⟨i, j, .inr (.inr (h.elim .inl fun h => .inr (.inl h))), hd⟩
  · obtain ⟨i, j, h, hd⟩ := pick2 s t h3 (by clear h1 h2 h3; omega)
    exact ⟨i, j, .inr (.inr (.inr (.inr h))), hd⟩
noncomputable def along (u v p q : Pt) : Int := (v.1 - u.1) * (q.1 - p.1) + (v.2 - u.2) * (q.2 - p.2)
theorem along_ne {u v p x y : Pt} (huv : u ≠ v) (hx : turn u v x = 0) (hy : turn u v y = 0) (hxy : x ≠ y) : along u v p x ≠ along u v p y := by
  intro e
  have e1 : (v.1 - u.1) * (y.1 - x.1) + (v.2 - u.2) * (y.2 - x.2) = 0 := by unfold along at e; grind
  have e2 : (v.1 - u.1) * (y.2 - x.2) = (v.2 - u.2) * (y.1 - x.1) := by unfold turn at *; grind
  have h1 := sq_pos huv
  have h2 := sq_pos hxy
  have : sq u v * sq x y = 0 := by
    unfold sq
    have : ((v.1 - u.1) * (y.1 - x.1) + (v.2 - u.2) * (y.2 - x.2)) * ((v.1 - u.1) * (y.1 - x.1) + (v.2 - u.2) * (y.2 - x.2)) = 0 := by rw [e1]; rfl
    have : ((v.1 - u.1) * (y.2 - x.2) - (v.2 - u.2) * (y.1 - x.1)) * ((v.1 - u.1) * (y.2 - x.2) - (v.2 - u.2) * (y.1 - x.1)) = 0 := by rw [e2]; simp
    grind
  have := Int.mul_pos h1 h2
  omega
theorem dot_along {u v p a b : Pt} (huv : u ≠ v) (ha : turn u v a = 0) (hb : turn u v b = 0) (h : (0 ≤ along u v p b ∧ along u v p b < along u v p a) ∨ (along u v p a < along u v p b ∧ along u v p b ≤ 0)) : 0 ≤ dot a b p := by
  have e : dot a b p * sq u v = (along u v p a - along u v p b) * along u v p b := by
    have e2 : (v.1 - u.1) * (b.2 - a.2) = (v.2 - u.2) * (b.1 - a.1) := by unfold turn at *; grind
    unfold dot along sq
    clear h
    grind
  have h1 : 0 ≤ (along u v p a - along u v p b) * along u v p b := by
    rcases h with h | h
    · exact Int.mul_nonneg (by omega) (by omega)
    · exact Int.mul_nonneg_of_nonpos_of_nonpos (by omega) (by omega)
  rw [← e] at h1
  exact Int.le_of_mul_le_mul_right (a := sq u v) (by rw [Int.zero_mul]; exact h1) (sq_pos huv)
theorem two_of {u v p x y z : Pt} (huv : u ≠ v) (hx : turn u v x = 0) (hy : turn u v y = 0) (hz : turn u v z = 0) (hxy : x ≠ y) (hxz : x ≠ z) (hyz : y ≠ z) :
    ∃ a b, (a = x ∨ a = y ∨ a = z) ∧ (b = x ∨ b = y ∨ b = z) ∧ a ≠ b ∧ 0 ≤ dot a b p := by
  obtain ⟨i, j, h, hd⟩ := pick (along u v p x) (along u v p y) (along u v p z) (along_ne huv hx hy hxy) (along_ne huv hx hz hxz) (along_ne huv hy hz hyz)
  rcases h with ⟨rfl, rfl⟩ | ⟨rfl, rfl⟩ | ⟨rfl, rfl⟩ | ⟨rfl, rfl⟩ | ⟨rfl, rfl⟩ | ⟨rfl, rfl⟩
  · exact ⟨x, y, by simp, by simp, hxy, dot_along huv hx hy hd⟩
  · exact ⟨y, x, by simp, by simp, hxy.symm, dot_along huv hy hx hd⟩
  · exact ⟨x, z, by simp, by simp, hxz, dot_along huv hx hz hd⟩
  · exact ⟨z, x, by simp, by simp, hxz.symm, dot_along huv hz hx hd⟩
  · exact ⟨y, z, by simp, by simp, hyz, dot_along huv hy hz hd⟩
  · exact ⟨z, y, by simp, by simp, hyz.symm, dot_along huv hz hy hd⟩
theorem nearer {a b p : Pt} (hbp : b ≠ p) (h : 0 ≤ dot a b p) : sq a b < sq a p := by
  have := sq_pos hbp
  have e : sq a p = sq b p + 2 * dot a b p + sq a b := by unfold sq dot; grind
  omega
theorem cross {A B T V W G K : Int} (h1 : A * W = T * K) (h2 : T * G = B * V) (hT : 0 < T) (hV : 0 < V) (hW : V < W) (hG : 0 < G) (hK : 0 < K) : A * G < B * K := by
  have hWV : 0 < W * V := Int.mul_pos (by omega) hV
  have e1 : A * G * (W * V) = T * G * K * V := by grind
  have e2 : B * K * (W * V) = T * G * K * W := by grind
  have hp : 0 < T * G * K := Int.mul_pos (Int.mul_pos hT hG) hK
  have : T * G * K * V < T * G * K * W := Int.mul_lt_mul_of_pos_left hW hp
  exact Int.lt_of_mul_lt_mul_right (a := W * V) (by omega) (Int.le_of_lt hWV)
noncomputable abbrev En := Int × Int × Pt × List Pt
noncomputable def first (m : List Pt) : Pt := m.getD 0 (0, 0)
noncomputable def second (m : List Pt) : Pt := m.getD 1 (0, 0)
noncomputable def entry (m : List Pt) (p : Pt) : En := (turn (first m) (second m) p * turn (first m) (second m) p, sq (first m) (second m), p, m)
noncomputable def near (P : List Pt) : List En := (lines P).flatMap fun m => (P.filter fun p => !decide (p ∈ m)).map (entry m)
noncomputable def step (b o : En) : En := if o.1 * b.2.1 < b.1 * o.2.1 then o else b
theorem mem_near {P : List Pt} {e : En} : e ∈ near P ↔ ∃ m ∈ lines P, ∃ p ∈ P, p ∉ m ∧ e = entry m p := by
  unfold near
  simp only [List.mem_flatMap, List.mem_map, List.mem_filter]
  constructor
  · rintro ⟨m, hm, p, ⟨hp, hpm⟩, rfl⟩
    exact ⟨m, hm, p, hp, by simpa using hpm, rfl⟩
  · rintro ⟨m, hm, p, hp, hpm, rfl⟩
    exact ⟨m, hm, p, ⟨hp, by simpa using hpm⟩, rfl⟩
theorem fs_line {P : List Pt} (hP : Srt P) {m : List Pt} (hm : m ∈ lines P) : first m ≠ second m ∧ first m ∈ m ∧ second m ∈ m := by
  obtain ⟨x, y, r, e⟩ := line_two hm
  have hs := line_srt hP hm
  rw [e] at hs
  have hxy := lt_ne ((List.pairwise_cons.mp hs).1 y (by simp))
  rw [e]
  exact ⟨hxy, by simp [first], by simp [second]⟩
theorem on_line {P : List Pt} (hP : Srt P) {m : List Pt} (hm : m ∈ lines P) {x : Pt} (hx : x ∈ P) : x ∈ m ↔ turn (first m) (second m) x = 0 := by
  obtain ⟨h1, h2, h3⟩ := fs_line hP hm
  have e := line_eq hm h2 h3 h1
  generalize first m = a at *
  generalize second m = b at *
  rw [e, mem_on]
  simp [hx]
theorem near_pos {P : List Pt} (hP : Srt P) {e : En} (he : e ∈ near P) : 0 < e.2.1 := by
  obtain ⟨m, hm, p, hp, _, rfl⟩ := mem_near.mp he
  exact sq_pos (fs_line hP hm).1
theorem kelly {P : List Pt} (hP : Srt P) {e : En} (he : e ∈ near P) (h3 : e.2.2.2.length ≠ 2) : ∃ o ∈ near P, o.1 * e.2.1 < e.1 * o.2.1 := by
  obtain ⟨m, hm, p, hp, hpm, rfl⟩ := mem_near.mp he
  obtain ⟨hne, hf1, hf2⟩ := fs_line hP hm
  have hs := line_srt hP hm
  obtain ⟨x, y, z, r, e⟩ : ∃ x y z r, m = x :: y :: z :: r := by
    obtain ⟨x, y, r, e⟩ := line_two hm
    match r, e with
    | [], e => exact absurd (by show m.length = 2; rw [e]; rfl) h3
    | z :: r, e => exact ⟨x, y, z, r, e⟩
  have hxyz : x ∈ m ∧ y ∈ m ∧ z ∈ m := by rw [e]; simp
  have hn := hs.nodup
  rw [e] at hn
  simp only [List.nodup_cons, List.mem_cons, not_or] at hn
  obtain ⟨a, b, ha, hb, hab, hd⟩ := two_of (p := p) hne ((on_line hP hm (line_sub hm hxyz.1)).mp hxyz.1) ((on_line hP hm (line_sub hm hxyz.2.1)).mp hxyz.2.1) ((on_line hP hm (line_sub hm hxyz.2.2)).mp hxyz.2.2) hn.1.1 hn.1.2.1 hn.2.1.1
  have ha : a ∈ m := by rcases ha with rfl | rfl | rfl <;> first | exact (hxyz.1) | exact (hxyz.2.1) | exact (hxyz.2.2)
  have hb : b ∈ m := by rcases hb with rfl | rfl | rfl <;> first | exact (hxyz.1) | exact (hxyz.2.1) | exact (hxyz.2.2)
  have haP := line_sub hm ha
  have hbP := line_sub hm hb
  have hpa : p ≠ a := fun e => hpm (e ▸ ha)
  have hpb : b ≠ p := fun e => hpm (e ▸ hb)
  obtain ⟨l, hl, hpl, hal⟩ := some_line hP hp haP hpa
  have hbl : b ∉ l := fun h => hpm (by rw [line_eq hm ha hb hab, ← line_eq hl hal h hab]; exact hpl)
  obtain ⟨gne, hg1, hg2⟩ := fs_line hP hl
  refine ⟨entry l b, mem_near.mpr ⟨l, hl, b, hbP, hbl, rfl⟩, ?_⟩
  show turn (first l) (second l) b * turn (first l) (second l) b * sq (first m) (second m) < turn (first m) (second m) p * turn (first m) (second m) p * sq (first l) (second l)
  have s1 := scale (p := b) ((on_line hP hl haP).mp hal) ((on_line hP hl hp).mp hpl)
  have s2 := scale (p := p) ((on_line hP hm haP).mp ha) ((on_line hP hm hbP).mp hb)
  have hT : turn a b p ≠ 0 := by
    intro h
    have : p ∈ on P a b := mem_on.mpr ⟨hp, h⟩
    rw [← line_eq hm ha hb hab] at this
    exact hpm this
  have e1 : turn a p b * turn a p b = turn a b p * turn a b p := by unfold turn; grind
  rw [e1] at s1
  exact cross (T := turn a b p * turn a b p) s1.symm s2 (sqr_pos hT) (sq_pos hab) (nearer hpb hd) (sq_pos hne) (sq_pos gne)
theorem fold_min : ∀ (l : List En) (b : En), (∀ e ∈ b :: l, 0 < e.2.1) → l.foldl step b ∈ b :: l ∧ ∀ o ∈ b :: l, (l.foldl step b).1 * o.2.1 ≤ o.1 * (l.foldl step b).2.1 := by
  intro l
  induction l with
  | nil =>
    intro b _
    refine ⟨by simp, fun o ho => ?_⟩
    rw [List.mem_singleton.mp ho]
    exact Int.le_refl _
  | cons c r ih =>
    intro b hpos
    have hb := hpos b (by simp)
    have hc := hpos c (by simp)
    by_cases h : c.1 * b.2.1 < b.1 * c.2.1
    · have e : step b c = c := by unfold step; rw [if_pos h]
      obtain ⟨h1, h2⟩ := ih c (fun e he => hpos e (List.mem_cons_of_mem _ he))
      rw [List.foldl_cons, e]
      refine ⟨List.mem_cons_of_mem _ h1, fun o ho => ?_⟩
      rcases List.mem_cons.mp ho with rfl | ho
      · have h3 := h2 c (by simp)
        have hr := hpos _ (List.mem_cons_of_mem _ h1)
        generalize List.foldl step c r = m at *
        have h4 : m.1 * c.2.1 * o.2.1 ≤ c.1 * m.2.1 * o.2.1 := Int.mul_le_mul_of_nonneg_right h3 (by omega)
        have h5 : c.1 * o.2.1 * m.2.1 ≤ o.1 * c.2.1 * m.2.1 := Int.mul_le_mul_of_nonneg_right (by omega) (by omega)
        refine Int.le_of_mul_le_mul_right (a := c.2.1) ?_ hc
        have e1 : m.1 * o.2.1 * c.2.1 = m.1 * c.2.1 * o.2.1 := by grind
        have e2 : o.1 * m.2.1 * c.2.1 = o.1 * c.2.1 * m.2.1 := by grind
        have e3 : c.1 * m.2.1 * o.2.1 = c.1 * o.2.1 * m.2.1 := by grind
        omega
      · exact h2 o ho
    · have e : step b c = b := by unfold step; rw [if_neg h]
      obtain ⟨h1, h2⟩ := ih b (fun e he => hpos e ((List.mem_cons.mp he).elim (fun h => by simp [h]) (fun h => by simp [h])))
      rw [List.foldl_cons, e]
      refine ⟨by rcases List.mem_cons.mp h1 with h | h <;> first | exact (by simp [h]) | exact (by simp [h]), fun o ho => ?_⟩
      rcases List.mem_cons.mp ho with rfl | ho
      · exact h2 o (by simp)
      rcases List.mem_cons.mp ho with rfl | ho
      · have h3 := h2 b (by simp)
        have hr : 0 < (List.foldl step b r).2.1 := hpos _ (by rcases List.mem_cons.mp h1 with h | h <;> first | exact (by simp [h]) | exact (by simp [h]))
        generalize List.foldl step b r = m at *
        have h4 : m.1 * b.2.1 * o.2.1 ≤ b.1 * m.2.1 * o.2.1 := Int.mul_le_mul_of_nonneg_right h3 (by omega)
        have h5 : b.1 * o.2.1 * m.2.1 ≤ o.1 * b.2.1 * m.2.1 := Int.mul_le_mul_of_nonneg_right (by omega) (by omega)
        refine Int.le_of_mul_le_mul_right (a := b.2.1) ?_ hb
        have e1 : m.1 * o.2.1 * b.2.1 = m.1 * b.2.1 * o.2.1 := by grind
        have e2 : o.1 * m.2.1 * b.2.1 = o.1 * b.2.1 * m.2.1 := by grind
        have e3 : b.1 * m.2.1 * o.2.1 = b.1 * o.2.1 * m.2.1 := by grind
        omega
      · exact h2 o (by simp [ho])
theorem best_two {P : List Pt} (hP : Srt P) {e : En} {r : List En} (h : near P = e :: r) : ((near P).foldl step e).2.2.2.length = 2 ∧ (near P).foldl step e ∈ near P := by
  have hpos : ∀ o ∈ e :: near P, 0 < o.2.1 := fun o ho => near_pos hP ((List.mem_cons.mp ho).elim (fun h' => by rw [h', h]; simp) (fun h' => h'))
  obtain ⟨h1, h2⟩ := fold_min (near P) e hpos
  have hm : (near P).foldl step e ∈ near P := by
    rcases List.mem_cons.mp h1 with h' | h'
    · rw [h']; rw [h]; simp
    · exact h'
  refine ⟨Classical.byContradiction fun hne => ?_, hm⟩
  obtain ⟨o, ho, hlt⟩ := kelly hP hm hne
  have := h2 o (List.mem_cons_of_mem _ ho)
  omega
end M2
set_option maxRecDepth 100000
/-! law 2: what its functions compute on points -/
namespace M2
open PySem PySem.SeqAt Ev L2
noncomputable def P2D (p : Pt) : PyData := .tuple [.int p.1, .int p.2]
noncomputable def ptsD (P : List Pt) : PyData := .list (P.map P2D)
noncomputable def InB (p : Pt) : Prop := (0 ≤ p.1 ∧ p.1 < 5) ∧ 0 ≤ p.2 ∧ p.2 < 5
theorem eqv_pt (a b : Pt) : PyData.eqv (P2D a) (P2D b) = decide (a = b) := by
  rw [Bool.eq_iff_iff]
  simp [P2D, PyData.eqv, PyData.eqvAll, Prod.ext_iff]
theorem okD_pt (a : Pt) : okD (P2D a) = true := rfl
theorem lay_pts (P : List Pt) : PyData.canLayAll0 (P.map P2D) = true := by
  induction P with
  | nil => rfl
  | cons a r ih => simp only [List.map_cons, PyData.canLayAll0, ih, Bool.and_true]; rfl
theorem dep_pts (P : List Pt) : PyData.depthAll (P.map P2D) ≤ 2 := by
  induction P with
  | nil => exact Nat.zero_le _
  | cons a r ih => simp only [List.map_cons, PyData.depthAll]; exact Nat.max_le.mpr ⟨Nat.le_of_ble_eq_true rfl, ih⟩
theorem okD_pts (P : List Pt) : okD (ptsD P) = true := by
  have h1 : (ptsD P).canLay0 = true := lay_pts P
  have h2 : (ptsD P).depth ≤ 64 := by
    have := dep_pts P
    show PyData.depthAll (P.map P2D) + 1 ≤ 64
    omega
  simp [okD, h1, h2]
theorem ord_pt (a b : Pt) : ordD (P2D a) (P2D b) = some (if lt a b then .lt else if a = b then .eq else .gt) := by
  unfold P2D ordD ordL lt
  simp only [PyData.eqv]
  by_cases h1 : a.1 = b.1
  · simp only [h1, ordL, PyData.eqv, beq_self_eq_true, if_true]
    by_cases h2 : a.2 = b.2
    · have : a = b := Prod.ext h1 h2
      subst this
      simp
    · have : ¬ a = b := fun e => h2 (by rw [e])
      simp [h2, this, ordD]
      by_cases h3 : a.2 < b.2 <;> simp [h3]
  · have : ¬ a = b := fun e => h1 (by rw [e])
    simp [h1, this, ordD]
    by_cases h3 : a.1 < b.1 <;> simp [h3]
theorem cmp_lt (a b : Pt) : cmpD .Lt (P2D a) (P2D b) = some (lt a b) := by
  show (if okD (P2D a) && okD (P2D b) then (ordD (P2D a) (P2D b)).map (ordIs .Lt) else none) = _
  rw [okD_pt, okD_pt, ord_pt]
  cases h : lt a b
  · by_cases e : a = b <;> simp [e, ordIs]
  · simp [ordIs]
theorem cmp_ne (a b : Pt) : cmpD .NotEq (P2D a) (P2D b) = some (decide (a ≠ b)) := by
  show (eqD (P2D a) (P2D b)).map (!·) = _
  have : eqD (P2D a) (P2D b) = some (PyData.eqv (P2D a) (P2D b)) := rfl
  rw [this, eqv_pt]; simp
theorem cmp_nin (a : Pt) (P : List Pt) : cmpD .NotIn (P2D a) (ptsD P) = some (decide (a ∉ P)) := by
  show (if okD (ptsD P) && okD (P2D a) then some (!(P.map P2D).any fun y => PyData.eqv y (P2D a)) else none) = _
  rw [okD_pts, okD_pt]
  simp only [Bool.and_self, if_true, List.any_map]
  congr 1
  rw [Bool.eq_iff_iff]
  have : ((fun y => PyData.eqv y (P2D a)) ∘ P2D) = fun b => decide (b = a) := funext fun b => eqv_pt b a
  rw [this]
  simp only [Bool.not_eq_true', decide_eq_true_eq, List.any_eq_false]
  exact ⟨fun h ha => h a ha rfl, fun h x hx e => h (e ▸ hx)⟩
theorem cmp_ne_pts (P : List Pt) : cmpD .NotEq (ptsD P) (ptsD P) = some false := by
  show (eqD (ptsD P) (ptsD P)).map (!·) = _
  match P with
  | [] => rfl
  | a :: r =>
    have : eqD (ptsD (a :: r)) (ptsD (a :: r)) = if okD (ptsD (a :: r)) && okD (ptsD (a :: r)) then some (PyData.eqv (ptsD (a :: r)) (ptsD (a :: r))) else none := rfl
    rw [this, okD_pts]
    have h : PyData.eqv (ptsD (a :: r)) (ptsD (a :: r)) = true := SeqAt.eqv_refl _ (lay_pts _)
    rw [h]; rfl
theorem okLen_pts {P : List Pt} (h : P.length ≤ 7) : okLen (P.map P2D) = true := by
  simp [okLen]; omega
theorem len_pts {P : List Pt} (h : P.length ≤ 7) : lenG [ptsD P] = some (.int P.length) := by
  show (if okLen (P.map P2D) then some (PyData.int (P.map P2D).length) else none) = _
  rw [okLen_pts h, List.length_map]; rfl
theorem item_pts {P : List Pt} {i : Nat} (hi : i < P.length) (h : P.length ≤ 7) : itemD (ptsD P) (.int (i : Int)) = some (P2D P[i]) := by
  show (if 0 ≤ (i : Int) ∧ (i : Int) < 1048576 then (P.map P2D)[(i : Int).toNat]? else none) = _
  rw [if_pos ⟨by omega, by omega⟩, Int.toNat_natCast, List.getElem?_map, List.getElem?_eq_getElem hi]; rfl
theorem bin_fdiv {x y : Int} (h : 0 < y) (h' : y < 1000000000) : binD .FloorDiv (.int x) (.int y) = some (.int (x.fdiv y)) := by
  have e : binD .FloorDiv (.int x) (.int y) = if decide (0 < y) && decide (y < 1000000000) then some (.int (x.fdiv y)) else none := rfl
  rw [e, decide_eq_true h, decide_eq_true h']; rfl
theorem bin_mod {x y : Int} (h : y ≠ 0) : binD .Mod (.int x) (.int y) = some (.int (x.fmod y)) := by
  have e : binD .Mod (.int x) (.int y) = if y = 0 then none else some (.int (x.fmod y)) := rfl
  rw [e, if_neg h]
theorem bin_mul {x y : Int} (h : small x = true) : binD .Mult (.int x) (.int y) = some (.int (x * y)) := by
  have e : binD .Mult (.int x) (.int y) = if small x then some (.int (x * y)) else none := rfl
  rw [e, h]; rfl
theorem small_of {x : Int} (h : -1000000 ≤ x) (h' : x ≤ 1000000) : small x = true := by
  simp only [small, Bool.and_eq_true, decide_eq_true_eq]; omega
theorem cm_of {op : CmpOp} {f g : Ev.St → Option PyData} {σ : Ev.St} {a b : PyData} (hf : f σ = some a) (hg : g σ = some b) : cmC op f g σ = cmpD op a b := by unfold cmC; rw [hf, hg]
theorem op_of {op : Operator} {f g : Ev.St → Option PyData} {σ : Ev.St} {a b : PyData} (hf : f σ = some a) (hg : g σ = some b) : opC op f g σ = binD op a b := by unfold opC; rw [hf, hg]
theorem sub_of {f g : Ev.St → Option PyData} {σ : Ev.St} {a b : PyData} (hf : f σ = some a) (hg : g σ = some b) : subC f g σ = itemD a b := by unfold subC; rw [hf, hg]
theorem as_cons {f : Ev.St → Option PyData} {fs : Sf} {σ : Ev.St} {a : PyData} {as : List PyData} (hf : f σ = some a) (hg : asC fs σ = some as) : asC (f :: fs) σ = some (a :: as) := by unfold asC; rw [hf, hg]
theorem call_of {g : List PyData → Option PyData} {fs : Sf} {σ : Ev.St} {as : List PyData} (h : asC fs σ = some as) : Ev.callC g fs σ = g as := by unfold Ev.callC; rw [h]
theorem set_of {i : Nat} {f : Ev.St → Option PyData} {σ : Ev.St} {a : PyData} (h : f σ = some a) : setC i f σ = some (.next, σ.set i (some (false, a))) := by unfold setC; rw [h]
theorem seq_next {f g : Sm} {σ σ' : Ev.St} (h : f σ = some (.next, σ')) : seqC2 f g σ = g σ' := by unfold seqC2; rw [h]
theorem seq_ret {f g : Sm} {σ σ' : Ev.St} {d : PyData} (h : f σ = some (.ret d, σ')) : seqC2 f g σ = some (.ret d, σ') := by unfold seqC2; rw [h]
theorem if_true {t : Ev.St → Option Bool} {f g : Sm} {σ : Ev.St} (h : t σ = some true) : ifS t f g σ = f σ := by unfold ifS; rw [h]
theorem if_false {t : Ev.St → Option Bool} {f g : Sm} {σ : Ev.St} (h : t σ = some false) : ifS t f g σ = g σ := by unfold ifS; rw [h]
/-! bisect_left -/
noncomputable def bis (P : List Pt) (p : Pt) : Nat := (P.filter (lt · p)).length
theorem bis_le (P : List Pt) (p : Pt) : bis P p ≤ P.length := List.length_filter_le ..
theorem bis_at {P : List Pt} (hP : Srt P) (p : Pt) : ∀ (i : Nat) (h : i < P.length), lt P[i] p = decide (i < bis P p) := by
  induction P with
  | nil => intro i h; cases h
  | cons a r ih =>
    have hr := List.pairwise_cons.mp hP
    intro i h
    unfold bis at *
    cases e : lt a p with
    | true =>
      rw [List.filter_cons_of_pos (by exact e)]
      cases i with
      | zero => simp [e]
      | succ i => simp only [List.getElem_cons_succ, List.length_cons, Nat.succ_lt_succ_iff]; exact ih hr.2 i (by simpa using h)
    | false =>
      have h0 : r.filter (lt · p) = [] := by
        rw [List.filter_eq_nil_iff]
        intro b hb hlt
        rw [lt_trans (hr.1 b hb) hlt] at e; cases e
      rw [List.filter_cons_of_neg (by simp [e]), h0]
      cases i with
      | zero => simp [e]
      | succ i =>
        simp only [List.getElem_cons_succ, List.length_nil, Nat.not_lt_zero, decide_false]
        cases e2 : lt (r[i]'(by simpa using h)) p with
        | false => rfl
        | true => rw [lt_trans (hr.1 _ (List.getElem_mem _)) e2] at e; cases e
noncomputable abbrev sB (P : List Pt) (p : Pt) (lo hi : Nat) (mid : Option (Bool × PyData)) : Ev.St := [some (false, ptsD P), some (false, P2D p), some (false, .int lo), some (false, .int hi), some (false, .none), mid]
noncomputable def bodyB : Sm := seqC2 (setC 5 (opC .FloorDiv (opC .Add (bC 2) (bC 3)) (cC (.int 2))))   (ifS (cmC .Lt (subC (bC 0) (vC 5)) (bC 1)) (setC 2 (opC .Add (bC 5) (cC (.int 1)))) (setC 3 (vC 5)))
theorem loopB {P : List Pt} (hP : Srt P) (h7 : P.length ≤ 7) (p : Pt) : ∀ (k lo hi : Nat) (mid : Option (Bool × PyData)), lo ≤ bis P p → bis P p ≤ hi → hi ≤ P.length → hi - lo < k →
    ∃ mid' hi', whileC (cmC .Lt (bC 2) (bC 3)) bodyB k (sB P p lo hi mid) = some (.next, sB P p (bis P p) hi' mid') := by
  intro k
  induction k with
  | zero => intro lo hi mid _ _ _ h; omega
  | succ k ih =>
    intro lo hi mid h1 h2 h3 h4
    have ht : cmC .Lt (bC 2) (bC 3) (sB P p lo hi mid) = some (decide (lo < hi)) := by
      show (if okD (.int lo) && okD (.int hi) then (ordD (.int lo) (.int hi)).map (ordIs .Lt) else none) = _
      have : (okD (.int lo) && okD (.int hi)) = true := rfl
      rw [if_pos this]
      show some (ordIs .Lt (if (lo : Int) < hi then .lt else if (lo : Int) = hi then .eq else .gt)) = _
      by_cases h : lo < hi
      · simp [h, ordIs]
      · have : lo = hi ∨ hi < lo := by omega
        rcases this with h' | h'
        · simp [h', ordIs]
        · have : ¬ (lo : Int) = hi := by omega
          simp [h, this, ordIs]
    unfold whileC
    rw [ht]
    by_cases h : lo < hi
    · rw [decide_eq_true h]
      simp only
      have hm : (lo + hi) / 2 < P.length := by omega
      have e1 : setC 5 (opC .FloorDiv (opC .Add (bC 2) (bC 3)) (cC (.int 2))) (sB P p lo hi mid) = some (.next, sB P p lo hi (some (false, .int (((lo + hi) / 2 : Nat) : Int)))) := by
        have : ((lo : Int) + hi).fdiv 2 = (((lo + hi) / 2 : Nat) : Int) := by
          rw [Int.fdiv_eq_ediv_of_nonneg _ (by decide)]; omega
        rw [← this]
        exact set_of ((op_of rfl rfl).trans (bin_fdiv (by decide) (by decide)))
      have e2 : cmC .Lt (subC (bC 0) (vC 5)) (bC 1) (sB P p lo hi (some (false, .int (((lo + hi) / 2 : Nat) : Int)))) = some (decide ((lo + hi) / 2 < bis P p)) := by
        exact (cm_of ((sub_of rfl rfl).trans (item_pts hm h7)) rfl).trans ((cmp_lt _ _).trans (by rw [bis_at hP p _ hm]))
      by_cases hb : (lo + hi) / 2 < bis P p
      · have e3 : bodyB (sB P p lo hi mid) = some (.next, sB P p ((lo + hi) / 2 + 1) hi (some (false, .int (((lo + hi) / 2 : Nat) : Int)))) := by
          unfold bodyB
          rw [seq_next e1, if_true (e2.trans (by rw [decide_eq_true hb]))]
          rfl
        rw [e3]
        exact ih _ _ _ (by omega) h2 h3 (by omega)
      · have e3 : bodyB (sB P p lo hi mid) = some (.next, sB P p lo ((lo + hi) / 2) (some (false, .int (((lo + hi) / 2 : Nat) : Int)))) := by
          unfold bodyB
          rw [seq_next e1, if_false (e2.trans (by rw [decide_eq_false hb]))]
          rfl
        rw [e3]
        exact ih _ _ _ h1 (by omega) (by omega) (by omega)
    · rw [decide_eq_false h]
      simp only
      have : lo = bis P p := by omega
      subst this
      exact ⟨mid, hi, rfl⟩
theorem F_bis {P : List Pt} (hP : Srt P) (h7 : P.length ≤ 7) (p : Pt) (σ0 : Ev.St) (h : σ0 = [some (false, ptsD P), some (false, P2D p), some (false, .int 0), some (false, .none), some (false, .none), none]) : ∃ σ, F_bisect_left σ0 = some (.ret (.int (bis P p)), σ) := by
  obtain ⟨mid, hi, e⟩ := loopB hP h7 p 16 0 P.length none (Nat.zero_le _) (bis_le P p) (Nat.le_refl _) (by omega)
  have e1 : setC 3 (Ev.callC lenG [bC 0]) σ0 = some (.next, sB P p 0 P.length none) := by
    rw [h]
    exact set_of ((call_of rfl).trans (len_pts h7))
  refine ⟨sB P p (bis P p) hi mid, ?_⟩
  unfold F_bisect_left
  rw [show (seqC2 (setC 5 (opC .FloorDiv (opC .Add (bC 2) (bC 3)) (cC (.int 2)))) (ifS (cmC .Lt (subC (bC 0) (vC 5)) (bC 1)) (setC 2 (opC .Add (bC 5) (cC (.int 1)))) (setC 3 (vC 5)))) = bodyB from rfl, seq_next (σ' := σ0) (by rw [h]; rfl), seq_next (σ' := sB P p 0 P.length none) (by rw [if_true (by rw [h]; rfl)]; exact e1), seq_next (σ' := sB P p (bis P p) hi mid) ((if_true rfl).trans e)]
  rfl
theorem g_bis4 {P : List Pt} (hP : Srt P) (h7 : P.length ≤ 7) (p : Pt) : g_bisect4 [ptsD P, P2D p, .int 0, .none] = some (.int (bis P p)) := by
  obtain ⟨σ, e⟩ := F_bis hP h7 p _ rfl
  show (match fnD F_bisect_left [.none] 1 [ptsD P, P2D p, .int 0, .none] with | some (.int i) => some (PyData.int i) | _ => none) = _
  have : fnD F_bisect_left [.none] 1 [ptsD P, P2D p, .int 0, .none] = some (.int (bis P p)) := by
    unfold fnD
    show (match F_bisect_left [some (false, ptsD P), some (false, P2D p), some (false, .int 0), some (false, .none), some (false, .none), none] with | some (.ret d, _) => some d | _ => none) = _
    rw [e]
  rw [this]
theorem g_bis2 {P : List Pt} (hP : Srt P) (h7 : P.length ≤ 7) (p : Pt) : g_bisect2 [ptsD P, P2D p] = some (.int (bis P p)) := by
  obtain ⟨σ, e⟩ := F_bis hP h7 p _ rfl
  show (match fnD F_bisect_left [.int 0, .none, .none] 1 [ptsD P, P2D p] with | some (.int i) => some (PyData.int i) | _ => none) = _
  have : fnD F_bisect_left [.int 0, .none, .none] 1 [ptsD P, P2D p] = some (.int (bis P p)) := by
    unfold fnD
    show (match F_bisect_left [some (false, ptsD P), some (false, P2D p), some (false, .int 0), some (false, .none), some (false, .none), none] with | some (.ret d, _) => some d | _ => none) = _
    rw [e]
  rw [this]
/-! insort_left -/
noncomputable def insP (P : List Pt) (p : Pt) : List Pt := P.take (bis P p) ++ p :: P.drop (bis P p)
theorem g_ins {P : List Pt} (hP : Srt P) (h7 : P.length ≤ 7) (p : Pt) : g_insort (ptsD P) (P2D p) = some (ptsD (insP P p)) := by
  have h1 : setC 2 (Ev.callC g_bisect4 [bC 0, bC 1, bC 2, bC 3]) [some (true, ptsD P), some (false, P2D p), some (false, .int 0), some (false, .none), some (false, .none)] = some (.next, [some (true, ptsD P), some (false, P2D p), some (false, .int (bis P p)), some (false, .none), some (false, .none)]) := by
    exact set_of ((call_of rfl).trans (g_bis4 hP h7 p))
  have h2 : insertC 0 (vC 2) (vC 1) [some (true, ptsD P), some (false, P2D p), some (false, .int (bis P p)), some (false, .none), some (false, .none)] = some (.next, [some (true, ptsD (insP P p)), some (false, P2D p), some (false, .int (bis P p)), some (false, .none), some (false, .none)]) := by
    show (if decide (0 ≤ (bis P p : Int)) && decide ((bis P p : Int) ≤ (P.map P2D).length) && decide ((P.map P2D).length ≤ 1048576) then some (Fl.next, [some (true, PyData.list (insK (P.map P2D) (bis P p : Int).toNat (P2D p))), some (false, P2D p), some (false, .int (bis P p)), some (false, .none), some (false, .none)]) else none) = _
    have hb := bis_le P p
    rw [if_pos (by simp only [List.length_map, Bool.and_eq_true, decide_eq_true_eq]; omega), Int.toNat_natCast]
    have : insK (P.map P2D) (bis P p) (P2D p) = (insP P p).map P2D := by simp [insK, insP]
    rw [this]; rfl
  unfold g_insort insD
  show (match F_insort_left [some (true, ptsD P), some (false, P2D p), some (false, .int 0), some (false, .none), some (false, .none)] with
    | some (.next, σ') => _
    | _ => _) = _
  unfold F_insort_left
  rw [seq_next ((if_true rfl).trans h1), h2]
  rfl
theorem Srt.ins {P : List Pt} (hP : Srt P) {p : Pt} (hp : p ∉ P) : Srt (insP P p) := by
  unfold insP
  refine List.pairwise_append.mpr ⟨hP.sublist (List.take_sublist ..), List.pairwise_cons.mpr ⟨fun b hb => ?_, hP.sublist (List.drop_sublist ..)⟩, fun a ha b hb => ?_⟩
  · obtain ⟨i, hi, e⟩ := List.mem_iff_getElem.mp hb
    rw [List.getElem_drop] at e
    rw [List.length_drop] at hi
    have := bis_at hP p (bis P p + i) (by omega)
    rw [e, decide_eq_false (by omega)] at this
    exact lt_conn (fun e => hp (e ▸ List.mem_of_mem_drop hb)) this
  · obtain ⟨i, hi, e⟩ := List.mem_iff_getElem.mp ha
    rw [List.getElem_take] at e
    rw [List.length_take] at hi
    have h1 := bis_at hP p i (by omega)
    rw [e, decide_eq_true (by omega)] at h1
    rcases List.mem_cons.mp hb with rfl | hb
    · exact h1
    · obtain ⟨i, hi, e⟩ := List.mem_iff_getElem.mp hb
      rw [List.getElem_drop] at e
      rw [List.length_drop] at hi
      have := bis_at hP p (bis P p + i) (by omega)
      rw [e, decide_eq_false (by omega)] at this
      exact lt_trans h1 (lt_conn (fun e => hp (e ▸ List.mem_of_mem_drop hb)) this)
theorem mem_ins {P : List Pt} {p q : Pt} : q ∈ insP P p ↔ q = p ∨ q ∈ P := by
  unfold insP
  have : q ∈ P ↔ q ∈ P.take (bis P p) ∨ q ∈ P.drop (bis P p) := by rw [← List.mem_append, List.take_append_drop]
  rw [this]
  simp only [List.mem_append, List.mem_cons]
  constructor
  · rintro (h | h | h) <;> simp [h]
  · rintro (h | h | h) <;> simp [h]
theorem len_ins (P : List Pt) (p : Pt) : (insP P p).length = P.length + 1 := by
  unfold insP
  have := bis_le P p
  simp only [List.length_append, List.length_take, List.length_cons, List.length_drop]
  omega
theorem bis_found {P : List Pt} (hP : Srt P) {p : Pt} (hp : p ∈ P) : ∃ h : bis P p < P.length, P[bis P p] = p := by
  obtain ⟨i, hi, e⟩ := List.mem_iff_getElem.mp hp
  have h1 : ¬ i < bis P p := by
    have := bis_at hP p i hi
    rw [e, lt_irrefl] at this
    simpa using this.symm
  have hb := bis_le P p
  have h3 : ¬ bis P p < i := by
    intro h
    have h2 := bis_at hP p (bis P p) (by omega)
    rw [decide_eq_false (by omega)] at h2
    have := List.pairwise_iff_getElem.mp hP (bis P p) i (by omega) hi h
    rw [e, h2] at this
    cases this
  have h4 : bis P p = i := by omega
  refine ⟨by omega, ?_⟩
  simp only [h4, e]
end M2
set_option maxRecDepth 100000
/-! law 2: what its functions compute on points, 2 -/
namespace M2
open PySem PySem.SeqAt Ev L2
theorem loop_cons {g : PyData → Ev.St → Option Ev.St} {body : Sm} {d : PyData} {ds : List PyData} {σ σ' σ'' : Ev.St} (hg : g d σ = some σ') (hb : body σ' = some (.next, σ'')) : loopC g body (d :: ds) σ = loopC g body ds σ'' := by
  show (match g d σ with | some σ' => _ | none => none) = _
  rw [hg]
  show (match body σ' with | some (.next, σ'') => _ | r => r) = _
  rw [hb]
theorem for_of {src : Ev.St → Option (List PyData)} {g : PyData → Ev.St → Option Ev.St} {body : Sm} {σ : Ev.St} {ds : List PyData} (h : src σ = some ds) : forC src g body σ = loopC g body ds σ := by unfold forC; rw [h]
theorem tup_of {fs : Sf} {σ : Ev.St} {as : List PyData} (h : asC fs σ = some as) (h' : okLen as = true) : tupC fs σ = some (.tuple as) := by unfold tupC; rw [h]; simp [h']
theorem turns_filter {α : Type} {D : α → PyData} {g : PyData → Ev.St → Option Ev.St} {ts : List (Ev.St → Option Bool)} {k : Em} {σ : Ev.St} {st : α → Ev.St} {pr : α → Bool} {e : α → PyData} : ∀ (xs : List α), (∀ x ∈ xs, g (D x) σ = some (st x) ∧ tsC ts (st x) = some (pr x) ∧ (pr x = true → k (st x) = some [e x])) →
    turnsC g ts k (xs.map D) σ = some ((xs.filter pr).map e) := by
  intro xs
  induction xs with
  | nil => intro _; rfl
  | cons x r ih =>
    intro h
    obtain ⟨h1, h2, h3⟩ := h x (List.mem_cons_self ..)
    have ih := ih fun y hy => h y (List.mem_cons_of_mem _ hy)
    rw [List.map_cons]
    unfold turnsC
    rw [h1]
    simp only
    rw [h2]
    cases hp : pr x with
    | true =>
      simp only
      rw [h3 hp]
      simp only
      rw [ih, List.filter_cons_of_pos hp]
      rfl
    | false =>
      simp only
      rw [ih, List.filter_cons_of_neg (by simp [hp])]
theorem ts_one {t : Ev.St → Option Bool} {σ : Ev.St} {b : Bool} (h : t σ = some b) : tsC [t] σ = some b := by
  unfold tsC; rw [h]; cases b <;> rfl
/-! the points told by the script -/
noncomputable def ptOf (n : Int) : Pt := ((n.fmod 25).fdiv 5, n.fmod 5)
theorem ptOf_in (n : Int) : InB (ptOf n) := by
  have h1 : 0 ≤ n.fmod 25 := Int.fmod_nonneg_of_pos _ (by decide)
  have h2 : n.fmod 25 < 25 := Int.fmod_lt_of_pos _ (by decide)
  have h3 : 0 ≤ n.fmod 5 := Int.fmod_nonneg_of_pos _ (by decide)
  have h4 : n.fmod 5 < 5 := Int.fmod_lt_of_pos _ (by decide)
  refine ⟨⟨?_, ?_⟩, h3, h4⟩
  · show 0 ≤ (n.fmod 25).fdiv 5
    rw [Int.fdiv_eq_ediv_of_nonneg _ (by decide)]; omega
  · show (n.fmod 25).fdiv 5 < 5
    rw [Int.fdiv_eq_ediv_of_nonneg _ (by decide)]; omega
noncomputable def bodyP : Sm := seqC2 (setC 3 (tupC [(opC .FloorDiv (opC .Mod (bC 2) (cC (.int 25))) (cC (.int 5))), (opC .Mod (bC 2) (cC (.int 5)))])) (ifS (cmC .NotIn (bC 3) (bC 1)) (insC g_insort 1 (vC 3)) skipC)
noncomputable abbrev st1 (S : PyData) (b : Bool) (P : List Pt) (x2 x3 : Option (Bool × PyData)) : Ev.St := [some (false, S), some (b, ptsD P), x2, x3, none, none, none, none, none, none, none, none, none]
theorem bodyP_eq {P : List Pt} (hP : Srt P) (h7 : P.length ≤ 7) (S : PyData) (n : Int) (x3 : Option (Bool × PyData)) :
    bodyP (st1 S true P (some (false, .int n)) x3) = some (.next, st1 S true (if ptOf n ∈ P then P else insP P (ptOf n)) (some (false, .int n)) (some (false, P2D (ptOf n)))) := by
  have e1 : setC 3 (tupC [(opC .FloorDiv (opC .Mod (bC 2) (cC (.int 25))) (cC (.int 5))), (opC .Mod (bC 2) (cC (.int 5)))]) (st1 S true P (some (false, .int n)) x3) = some (.next, st1 S true P (some (false, .int n)) (some (false, P2D (ptOf n)))) :=
    set_of (tup_of (as_cons ((op_of ((op_of rfl rfl).trans (bin_mod (by decide))) rfl).trans (bin_fdiv (by decide) (by decide))) (as_cons ((op_of rfl rfl).trans (bin_mod (by decide))) rfl)) rfl)
  have e2 : cmC .NotIn (bC 3) (bC 1) (st1 S true P (some (false, .int n)) (some (false, P2D (ptOf n)))) = some (decide (ptOf n ∉ P)) := (cm_of rfl rfl).trans (cmp_nin _ _)
  unfold bodyP
  rw [seq_next e1]
  by_cases h : ptOf n ∈ P
  · rw [if_false (e2.trans (by simp [h])), if_pos h]; rfl
  · rw [if_true (e2.trans (by simp [h])), if_neg h]
    have : insC g_insort 1 (vC 3) (st1 S true P (some (false, .int n)) (some (false, P2D (ptOf n)))) = (match g_insort (ptsD P) (P2D (ptOf n)) with | some d' => some (.next, (st1 S true P (some (false, .int n)) (some (false, P2D (ptOf n)))).set 1 (some (true, d'))) | none => none) := rfl
    rw [this, g_ins hP h7]; rfl
theorem loopP (S : PyData) : ∀ (l : List Int) (P : List Pt) (x2 x3 : Option (Bool × PyData)), Srt P → (∀ p ∈ P, InB p) → P.length + l.length ≤ 7 →
    ∃ P' x2' x3', Srt P' ∧ (∀ p ∈ P', InB p) ∧ P'.length ≤ 7 ∧ loopC (tg1 2) bodyP (l.map .int) (st1 S true P x2 x3) = some (.next, st1 S true P' x2' x3') := by
  intro l
  induction l with
  | nil => intro P x2 x3 h1 h2 h3; exact ⟨P, x2, x3, h1, h2, by simpa using h3, rfl⟩
  | cons n r ih =>
    intro P x2 x3 h1 h2 h3
    rw [List.length_cons] at h3
    rw [List.map_cons, loop_cons (σ' := st1 S true P (some (false, .int n)) x3) rfl (bodyP_eq h1 (by omega) S n x3)]
    by_cases h : ptOf n ∈ P
    · rw [if_pos h]
      exact ih _ _ _ h1 h2 (by omega)
    · rw [if_neg h]
      refine ih _ _ _ (h1.ins h) (fun p hp => ?_) (by rw [len_ins]; omega)
      rcases mem_ins.mp hp with rfl | hp
      · exact ptOf_in n
      · exact h2 p hp
/-! sorted, on what is sorted -/
theorem ltAt_srt {P : List Pt} (hP : Srt P) : ltAt (P.map P2D) = fun i j => if i < P.length && j < P.length then some (decide (i < j)) else none := by
  funext i j
  unfold ltAt
  rw [List.getElem?_map, List.getElem?_map]
  by_cases hi : i < P.length
  · by_cases hj : j < P.length
    · rw [List.getElem?_eq_getElem hi, List.getElem?_eq_getElem hj]
      simp only [Option.map_some, ord_pt, hi, hj, decide_true, Bool.and_self, if_true]
      have hh := List.pairwise_iff_getElem.mp hP
      by_cases h1 : i < j
      · simp [hh i j hi hj h1, h1]
      · by_cases h2 : j < i
        · have := hh j i hj hi h2
          simp [lt_asymm this, lt_ne this, Ne.symm (lt_ne this), h1]
        · have : i = j := by omega
          subst this
          simp [lt_irrefl]
    · rw [List.getElem?_eq_getElem hi, List.getElem?_eq_none (by omega)]
      simp [hj]
  · rw [List.getElem?_eq_none (by omega)]
    simp [hi]
theorem sort_run : ∀ n : Nat, n ≤ 7 → runO (fun i j => if i < n && j < n then some (decide (i < j)) else none) (PySem.W.kas_sort n) = some (List.range n).toArray := by
  intro n hn
  have : n = 0 ∨ n = 1 ∨ n = 2 ∨ n = 3 ∨ n = 4 ∨ n = 5 ∨ n = 6 ∨ n = 7 := by omega
  rcases this with rfl | rfl | rfl | rfl | rfl | rfl | rfl | rfl <;> decide +kernel
theorem range_getD {α : Type} (l : List α) (d : α) : (List.range l.length).map (fun i => l.getD i d) = l := by
  refine List.ext_getElem (by simp) fun i h1 h2 => ?_
  simp [List.getElem?_eq_getElem h2]
theorem sort_pts {P : List Pt} (hP : Srt P) (h7 : P.length ≤ 7) : sortG [ptsD P] = some (ptsD P) := by
  have h0 : sortG [ptsD P] = if (P.map P2D).length < 2 then some (.list (P.map P2D)) else if decide ((P.map P2D).length < 64) && (P.map P2D).all okD && ((P.map P2D).all isIntD || (P.map P2D).all (fun d => tup0 d == some true) || (P.map P2D).all (fun d => tup0 d == some false)) then
      match sortD (P.map P2D) with
      | some es => some (.list es)
      | none => none
    else none := rfl
  rw [h0]
  split
  · rfl
  · have h1 : (P.map P2D).all okD = true := by rw [List.all_map, List.all_eq_true]; intro p _; rfl
    have h2 : (P.map P2D).all (fun d => tup0 d == some true) = true := by rw [List.all_map, List.all_eq_true]; intro p _; rfl
    rw [h1, h2, if_pos (by simp; omega)]
    have : sortD (P.map P2D) = some (P.map P2D) := by
      unfold sortD
      rw [ltAt_srt hP, List.length_map, sort_run _ h7]
      have := range_getD (P.map P2D) .none
      rw [List.length_map] at this
      simp only
      rw [this]
    rw [this]; rfl
/-! _law_turn -/
theorem g_turn {a b c : Pt} (ha : InB a) (hb : InB b) (hc : InB c) : g__law_turn [P2D a, P2D b, P2D c] = some (.int (turn a b c)) := by
  have e : F_law_turn [some (false, P2D a), some (false, P2D b), some (false, P2D c)] = some (.ret (.int (turn a b c)), [some (false, P2D a), some (false, P2D b), some (false, P2D c)]) := by
    have h : (opC .Sub (opC .Mult (opC .Sub (subC (bC 1) (cC (.int 0))) (subC (bC 0) (cC (.int 0)))) (opC .Sub (subC (bC 2) (cC (.int 1))) (subC (bC 0) (cC (.int 1))))) (opC .Mult (opC .Sub (subC (bC 2) (cC (.int 0))) (subC (bC 0) (cC (.int 0)))) (opC .Sub (subC (bC 1) (cC (.int 1))) (subC (bC 0) (cC (.int 1)))))) [some (false, P2D a), some (false, P2D b), some (false, P2D c)] = some (.int (turn a b c)) :=
      (op_of ((op_of ((op_of rfl rfl).trans rfl) ((op_of rfl rfl).trans rfl)).trans (bin_mul (small_of (by have := ha.1; have := hb.1; omega) (by have := ha.1; have := hb.1; omega)))) ((op_of ((op_of rfl rfl).trans rfl) ((op_of rfl rfl).trans rfl)).trans (bin_mul (small_of (by have := ha.1; have := hc.1; omega) (by have := ha.1; have := hc.1; omega))))).trans rfl
    unfold F_law_turn retC
    rw [h]
  show (if [P2D a, P2D b, P2D c].length = 3 then fnD F_law_turn [] 0 [P2D a, P2D b, P2D c] else none) = _
  refine Eq.trans (if_pos rfl) ?_
  unfold fnD
  have : stOf (([P2D a, P2D b, P2D c] ++ []).map fun d => (false, d)) 0 = [some (false, P2D a), some (false, P2D b), some (false, P2D c)] := rfl
  rw [this, e]
end M2
set_option maxRecDepth 100000
/-! law 2: tables and lines -/
namespace M2
open PySem PySem.SeqAt Ev L2
noncomputable def keyD (p : Pt) : PyData := .tuple [.str "on", P2D p, .str "line"]
noncomputable def kvD (p : Pt) : PyData × PyData := (keyD p, .int 1)
noncomputable def tabD (m : List Pt) : PyData := .dict (m.map kvD)
theorem so1 : PyData.strOk "on" = true := by decide +kernel
theorem so2 : PyData.strOk "line" = true := by decide +kernel
theorem keyOk_key (p : Pt) : keyOk (keyD p) = true := by
  show (PyData.strOk "on" && ((true && (true && true)) && (PyData.strOk "line" && true))) = true
  rw [so1, so2]; rfl
theorem okKey_key (m : List Pt) (p : Pt) : okKey (m.map kvD) (keyD p) = true := by
  unfold okKey
  rw [keyOk_key]
  cases m <;> rfl
theorem eqv_key (a b : Pt) : PyData.eqv (keyD a) (keyD b) = decide (a = b) := by
  show (("on" : Str) == "on" && (PyData.eqv (P2D a) (P2D b) && (("line" : Str) == "line" && true))) = _
  rw [eqv_pt]
  have h1 : (("on" : Str) == "on") = true := by decide
  have h2 : (("line" : Str) == "line") = true := by decide
  rw [h1, h2]; simp
theorem set_key {m : List Pt} {p : Pt} (h : p ∉ m) : setK (m.map kvD) (keyD p) (.int 1) = (m ++ [p]).map kvD := by
  induction m with
  | nil => rfl
  | cons a r ih =>
    simp only [List.mem_cons, not_or] at h
    simp only [List.map_cons, setK, List.cons_append]
    have : PyData.eqv (kvD a).1 (keyD p) = false := by
      show PyData.eqv (keyD a) (keyD p) = false
      rw [eqv_key]; simp [Ne.symm h.1]
    rw [this, ih h.2]; rfl
theorem look_key {m : List Pt} {p : Pt} (h : p ∉ m) : lookK (m.map kvD) (keyD p) = none := by
  induction m with
  | nil => rfl
  | cons a r ih =>
    simp only [List.mem_cons, not_or] at h
    simp only [List.map_cons, lookK]
    have : PyData.eqv (kvD a).1 (keyD p) = false := by
      show PyData.eqv (keyD a) (keyD p) = false
      rw [eqv_key]; simp [Ne.symm h.1]
    rw [this, ih h.2]; rfl
theorem put_key {m : List Pt} {p : Pt} (h : p ∉ m) (h7 : m.length ≤ 7) : putD (tabD m) (keyD p) (.int 1) = some (tabD (m ++ [p])) := by
  show (if okKey (m.map kvD) (keyD p) && decide ((m.map kvD).length ≤ 1048576) then some (PyData.dict (setK (m.map kvD) (keyD p) (.int 1))) else none) = _
  rw [okKey_key, set_key h, if_pos (by simp; omega)]; rfl
noncomputable abbrev sA (t s : PyData) (acc : List Pt) (x y : Option (Bool × PyData)) : Ev.St := [some (false, t), some (false, s), some (true, tabD acc), x, y]
theorem put_of {i : Nat} {fk fv : Ev.St → Option PyData} {σ : Ev.St} {x d k d' : PyData} (h1 : fv σ = some x) (h2 : sget σ i = some (true, d)) (h3 : fk σ = some k) (h4 : putD d k x = some d') : putC i fk fv σ = some (.next, σ.set i (some (true, d'))) := by
  unfold putC; rw [h1]; simp only; rw [h2]; simp only; rw [h3]; simp only; rw [h4]
theorem loopA (t s : PyData) : ∀ (r acc : List Pt) (x y : Option (Bool × PyData)), (acc ++ r).Nodup → (acc ++ r).length ≤ 7 →
    ∃ x' y', loopC (tgN [3, 4]) (putC 2 (vC 3) (vC 4)) ((r.map kvD).map pairD) (sA t s acc x y) = some (.next, sA t s (acc ++ r) x' y') := by
  intro r
  induction r with
  | nil => intro acc x y _ _; exact ⟨x, y, by rw [List.append_nil]; rfl⟩
  | cons p r ih =>
    intro acc x y h1 h2
    have hp : p ∉ acc := by
      have := (List.nodup_append.mp h1).2.2
      exact fun h => this p h p (by simp) rfl
    have e : acc ++ p :: r = (acc ++ [p]) ++ r := by simp
    obtain ⟨x', y', h⟩ := ih (acc ++ [p]) (some (false, keyD p)) (some (false, .int 1)) (by rw [← e]; exact h1) (by rw [← e]; exact h2)
    refine ⟨x', y', ?_⟩
    rw [List.map_cons, List.map_cons, loop_cons (σ' := sA t s acc (some (false, keyD p)) (some (false, .int 1))) (σ'' := sA t s (acc ++ [p]) (some (false, keyD p)) (some (false, .int 1))) rfl, h, e]
    refine (put_of rfl rfl rfl (put_key hp ?_)).trans rfl
    rw [e, List.length_append] at h2
    simp at h2; omega
theorem free_of {i : Nat} {f : Sm} {σ : Ev.St} {d : PyData} (h : sget σ i = some (true, d)) : freeC i f σ = f (σ.set i (some (false, d))) := by unfold freeC; rw [h]
theorem fn_of {F : Sm} {ex ds : List PyData} {k n : Nat} {d : PyData} {σ : Ev.St} (h : ds.length = n) (h' : F (stOf ((ds ++ ex).map fun d => (false, d)) k) = some (.ret d, σ)) : (if ds.length = n then fnD F ex k ds else none) = some d := by
  rw [if_pos h]; unfold fnD; rw [h']
theorem g_add {m : List Pt} {p : Pt} (hn : m.Nodup) (hp : p ∉ m) (h7 : m.length < 7) : g_add_callers [tabD m, tabD [p]] = some (tabD (m ++ [p])) := by
  obtain ⟨x, y, h⟩ := loopA (tabD m) (tabD [p]) m [] none none (by simpa using hn) (by simp; omega)
  have e1 : forC (itemsC (vC 0)) (tgN [3, 4]) (putC 2 (vC 3) (vC 4)) (sA (tabD m) (tabD [p]) [] none none) = some (.next, sA (tabD m) (tabD [p]) m x y) := (for_of rfl).trans h
  have e2 : ifS (inKC (vC 3) (bC 2)) (ifS (tvC (isTupC (bC 4))) neverC (putAddC 2 (vC 3) (vC 4))) (putC 2 (vC 3) (vC 4)) (sA (tabD m) (tabD [p]) m (some (false, keyD p)) (some (false, .int 1))) = some (.next, sA (tabD m) (tabD [p]) (m ++ [p]) (some (false, keyD p)) (some (false, .int 1))) := by
    have : inKC (vC 3) (bC 2) (sA (tabD m) (tabD [p]) m (some (false, keyD p)) (some (false, .int 1))) = if okKey (m.map kvD) (keyD p) then some (lookK (m.map kvD) (keyD p)).isSome else none := rfl
    rw [if_false (by rw [this, okKey_key, look_key hp]; rfl)]
    exact (put_of rfl rfl rfl (put_key hp (by omega))).trans rfl
  have e3 : forC (itemsC (vC 1)) (tgN [3, 4]) (ifS (inKC (vC 3) (bC 2)) (ifS (tvC (isTupC (bC 4))) neverC (putAddC 2 (vC 3) (vC 4))) (putC 2 (vC 3) (vC 4))) (sA (tabD m) (tabD [p]) m x y) = some (.next, sA (tabD m) (tabD [p]) (m ++ [p]) (some (false, keyD p)) (some (false, .int 1))) := by
    rw [for_of (ds := [pairD (kvD p)]) rfl]
    exact (loop_cons (σ' := sA (tabD m) (tabD [p]) m (some (false, keyD p)) (some (false, .int 1))) rfl e2).trans rfl
  refine fn_of rfl (σ := [some (false, tabD m), some (false, tabD [p]), some (false, tabD (m ++ [p])), (some (false, keyD p)), (some (false, .int 1))]) ?_
  unfold F_add_callers
  rw [seq_next (σ' := sA (tabD m) (tabD [p]) [] none none) rfl, seq_next e1, seq_next e3, free_of rfl]
  rfl
theorem loopN (t : PyData) : ∀ (m : List Pt) (k : Int) (x : Option (Bool × PyData)), ∃ x', loopC (tg1 2) (addC 1 (vC 2)) ((m.map kvD).map (·.2)) [some (false, t), some (false, .int k), x] = some (.next, [some (false, t), some (false, .int (k + m.length)), x']) := by
  intro m
  induction m with
  | nil => intro k x; exact ⟨x, by simp only [List.length_nil, List.map_nil]; rw [show k + ((0 : Nat) : Int) = k by omega]; rfl⟩
  | cons p r ih =>
    intro k x
    obtain ⟨x', h⟩ := ih (k + 1) (some (false, .int 1))
    refine ⟨x', ?_⟩
    rw [List.map_cons, List.map_cons, loop_cons (σ' := [some (false, t), some (false, .int k), some (false, .int 1)]) (σ'' := [some (false, t), some (false, .int (k + 1)), some (false, .int 1)]) rfl rfl, h, List.length_cons]
    rw [show k + 1 + (r.length : Int) = k + ((r.length + 1 : Nat) : Int) by omega]
theorem g_count (m : List Pt) : g_count_calls [tabD m] = some (.int m.length) := by
  obtain ⟨x, h⟩ := loopN (tabD m) m 0 none
  refine fn_of rfl (σ := [some (false, tabD m), some (false, .int (0 + m.length)), x]) ?_
  unfold F_count_calls
  rw [seq_next (σ' := [some (false, tabD m), some (false, .int 0), none]) rfl, seq_next (σ' := [some (false, tabD m), some (false, .int (0 + m.length)), x]) ((for_of rfl).trans h), Int.zero_add]
  rfl
/-! _law_lines -/
noncomputable def bodyT : Sm := setC 5 (callC g_add_callers [(vC 5), (dictC [((tupC [(cC (.str "on")), (vC 6), (cC (.str "line"))]), (cC (.int 1)))])])
noncomputable abbrev sL (P : List Pt) (fo : List (List Pt)) (x2 x3 x4 x5 x6 : Option (Bool × PyData)) : Ev.St := [some (false, ptsD P), some (true, .list (fo.map tabD)), x2, x3, x4, x5, x6]
theorem dict1 {σ : Ev.St} {p : Pt} (h : sget σ 6 = some (false, P2D p)) : dictC [((tupC [(cC (.str "on")), (vC 6), (cC (.str "line"))]), (cC (.int 1)))] σ = some (tabD [p]) := by
  have h1 : vC 6 σ = some (P2D p) := by unfold vC; rw [h]
  have h2 : tupC [(cC (.str "on")), (vC 6), (cC (.str "line"))] σ = some (keyD p) := tup_of (as_cons rfl (as_cons h1 (as_cons rfl rfl))) rfl
  have h3 : dsC [((tupC [(cC (.str "on")), (vC 6), (cC (.str "line"))]), (cC (.int 1)))] σ = some [(keyD p, .int 1)] := by
    unfold dsC; rw [h2]; rfl
  have h4 : putAllK [] [(keyD p, .int 1)] = some [(keyD p, .int 1)] := by
    show (if okKey ([].map kvD) (keyD p) && decide (([] : List (PyData × PyData)).length ≤ 1048576) then putAllK (setK [] (keyD p) (.int 1)) [] else none) = _
    rw [okKey_key]; rfl
  unfold dictC
  rw [h3]
  simp only
  rw [h4]; rfl
theorem loopT (P : List Pt) (fo : List (List Pt)) (x2 x3 x4 : Option (Bool × PyData)) : ∀ (r acc : List Pt) (x6 : Option (Bool × PyData)), (acc ++ r).Nodup → (acc ++ r).length ≤ 7 →
    ∃ x6', loopC (tg1 6) bodyT (r.map P2D) (sL P fo x2 x3 x4 (some (false, tabD acc)) x6) = some (.next, sL P fo x2 x3 x4 (some (false, tabD (acc ++ r))) x6') := by
  intro r
  induction r with
  | nil => intro acc x6 _ _; exact ⟨x6, by rw [List.append_nil]; rfl⟩
  | cons p r ih =>
    intro acc x6 h1 h2
    have hp : p ∉ acc := by
      have := (List.nodup_append.mp h1).2.2
      exact fun h => this p h p (by simp) rfl
    have e : acc ++ p :: r = (acc ++ [p]) ++ r := by simp
    obtain ⟨x', h⟩ := ih (acc ++ [p]) (some (false, P2D p)) (by rw [← e]; exact h1) (by rw [← e]; exact h2)
    refine ⟨x', ?_⟩
    rw [List.map_cons, loop_cons (σ' := sL P fo x2 x3 x4 (some (false, tabD acc)) (some (false, P2D p))) (σ'' := sL P fo x2 x3 x4 (some (false, tabD (acc ++ [p]))) (some (false, P2D p))) rfl, h, e]
    have hl : acc.length < 7 := by
      rw [e, List.length_append] at h2
      simp at h2; omega
    exact (set_of ((call_of (as_cons rfl (as_cons (dict1 rfl) rfl))).trans (g_add (List.nodup_append.mp h1).1 hp hl))).trans rfl
noncomputable def ptAt (P : List Pt) (i : Nat) : Pt := P.getD i (0, 0)
theorem ptAt_eq {P : List Pt} {i : Nat} (h : i < P.length) : ptAt P i = P[i] := by simp [ptAt, h]
theorem item_at {P : List Pt} {i : Nat} (hi : i < P.length) (h : P.length ≤ 7) : itemD (ptsD P) (.int (i : Int)) = some (P2D (ptAt P i)) := by rw [item_pts hi h, ptAt_eq hi]
theorem ptAt_mem {P : List Pt} {i : Nat} (h : i < P.length) : ptAt P i ∈ P := by rw [ptAt_eq h]; exact List.getElem_mem h
noncomputable def onC : Ev.St → Option PyData := compC 1 [0, 2, 3] (seqC (vC 0)) (lpC [0] (tg1 0) [(cmC .Eq (callC g__law_turn [(subC (bC 1) (vC 3)), (subC (bC 1) (vC 2)), (vC 0)]) (cC (.int 0)))] (eltC (vC 0)))
theorem cmp_eq0 (i : Int) : cmpD .Eq (.int i) (.int 0) = some (i == 0) := rfl
theorem onC_eq {P : List Pt} (hB : ∀ p ∈ P, InB p) (h7 : P.length ≤ 7) (fo : List (List Pt)) {k j : Nat} (hk : k < P.length) (hj : j < P.length) (x4 x5 x6 : Option (Bool × PyData)) :
    onC (sL P fo (some (false, .int k)) (some (false, .int j)) x4 x5 x6) = some (ptsD (on P (ptAt P j) (ptAt P k))) := by
  have h : turnsC (tg1 0) [(cmC .Eq (callC g__law_turn [(subC (bC 1) (vC 3)), (subC (bC 1) (vC 2)), (vC 0)]) (cC (.int 0)))] (eltC (vC 0)) (P.map P2D) [none, some (false, ptsD P), some (false, .int k), some (false, .int j)] = some ((P.filter fun c => turn (ptAt P j) (ptAt P k) c == 0).map P2D) := by
    refine turns_filter (st := fun p => [some (false, P2D p), some (false, ptsD P), some (false, .int k), some (false, .int j)]) P fun p hp => ⟨rfl, ts_one ?_, fun _ => rfl⟩
    refine (cm_of ((call_of (as_cons ((sub_of rfl rfl).trans (item_at hj h7)) (as_cons ((sub_of rfl rfl).trans (item_at hk h7)) (as_cons rfl rfl)))).trans (g_turn (hB _ (ptAt_mem hj)) (hB _ (ptAt_mem hk)) (hB p hp))) rfl).trans ?_
    exact cmp_eq0 _
  have h2 : lpC [0] (tg1 0) [(cmC .Eq (callC g__law_turn [(subC (bC 1) (vC 3)), (subC (bC 1) (vC 2)), (vC 0)]) (cC (.int 0)))] (eltC (vC 0)) (P.map P2D) (capC 1 [0, 2, 3] (sL P fo (some (false, .int k)) (some (false, .int j)) x4 x5 x6)) = some ((on P (ptAt P j) (ptAt P k)).map P2D) := h
  have h3 : seqC (vC 0) (sL P fo (some (false, .int k)) (some (false, .int j)) x4 x5 x6) = some (P.map P2D) := rfl
  have h4 : (on P (ptAt P j) (ptAt P k)).length ≤ 7 := Nat.le_trans (List.length_filter_le ..) h7
  unfold onC compC
  rw [h3]
  simp only
  rw [h2]
  simp only
  rw [okLen_pts h4]; rfl
end M2
set_option maxRecDepth 100000
/-! law 2: the lines found -/
namespace M2
open PySem PySem.SeqAt Ev L2
noncomputable abbrev natD (i : Nat) : PyData := .int (i : Int)
theorem tup2_eq (a b c d : Pt) : cmpD .Eq (.tuple [P2D a, P2D b]) (.tuple [P2D c, P2D d]) = some (decide ([a, b] = [c, d])) := by
  have h : cmpD .Eq (.tuple [P2D a, P2D b]) (.tuple [P2D c, P2D d]) = some (PyData.eqv (P2D a) (P2D c) && (PyData.eqv (P2D b) (P2D d) && true)) := rfl
  rw [h, eqv_pt, eqv_pt]
  congr 1
  rw [Bool.eq_iff_iff]
  simp
noncomputable def bodyJ : Sm := seqC2 (frzC 4 (ownC 4 onC)) (ifS (cmC .Eq (tupC [(subC (bC 4) (cC (.int 0))), (subC (bC 4) (cC (.int 1)))]) (tupC [(subC (bC 0) (vC 3)), (subC (bC 0) (vC 2))])) (seqC2 (setC 5 (cC (.dict []))) (seqC2 (forC (seqC (vC 4)) (tg1 6) bodyT) (appC 1 (vC 5)))) skipC)
theorem bodyJ_eq {P : List Pt} (hP : Srt P) (hB : ∀ p ∈ P, InB p) (h7 : P.length ≤ 7) (fo : List (List Pt)) (hf : fo.length ≤ 1000) {k j : Nat} (hk : k < P.length) (hj : j < k) (x4 x5 x6 : Option (Bool × PyData)) :
    ∃ x4' x5' x6', bodyJ (sL P fo (some (false, .int k)) (some (false, .int j)) x4 x5 x6) = some (.next, sL P (fo ++ cand P (ptAt P j) (ptAt P k)) (some (false, .int k)) (some (false, .int j)) x4' x5' x6') := by
  have hjP : j < P.length := by omega
  have hne : lt (ptAt P j) (ptAt P k) = true := by
    rw [ptAt_eq hjP, ptAt_eq hk]; exact List.pairwise_iff_getElem.mp hP j k hjP hk hj
  have e1 : frzC 4 (ownC 4 onC) (sL P fo (some (false, .int k)) (some (false, .int j)) x4 x5 x6) = some (.next, sL P fo (some (false, .int k)) (some (false, .int j)) (some (false, ptsD (on P (ptAt P j) (ptAt P k)))) x5 x6) := by
    unfold frzC ownC
    rw [onC_eq hB h7 fo hk hjP]
    rfl
  generalize hm : on P (ptAt P j) (ptAt P k) = m at *
  have hon : Srt m := by rw [← hm]; exact hP.filter _
  have h4 : m.length ≤ 7 := by rw [← hm]; exact Nat.le_trans (List.length_filter_le ..) h7
  have h2 : ∃ x y r, m = x :: y :: r := by
    have ha : ptAt P j ∈ m := by rw [← hm]; exact mem_on.mpr ⟨ptAt_mem hjP, turn_l _ _⟩
    have hb : ptAt P k ∈ m := by rw [← hm]; exact mem_on.mpr ⟨ptAt_mem hk, turn_r _ _⟩
    match m, ha, hb with
    | [z], h1, h2 => exact absurd ((List.mem_singleton.mp h1).trans (List.mem_singleton.mp h2).symm) (lt_ne hne)
    | x :: y :: r, _, _ => exact ⟨x, y, r, rfl⟩
  obtain ⟨x, y, r, e⟩ := h2
  have e2 : cmC .Eq (tupC [(subC (bC 4) (cC (.int 0))), (subC (bC 4) (cC (.int 1)))]) (tupC [(subC (bC 0) (vC 3)), (subC (bC 0) (vC 2))]) (sL P fo (some (false, .int k)) (some (false, .int j)) (some (false, ptsD m)) x5 x6) = some (decide ([x, y] = [ptAt P j, ptAt P k])) := by
    refine (cm_of (tup_of (as_cons ((sub_of rfl rfl).trans ?_) (as_cons ((sub_of rfl rfl).trans ?_) rfl)) rfl) (tup_of (as_cons ((sub_of rfl rfl).trans (item_at hjP h7)) (as_cons ((sub_of rfl rfl).trans (item_at hk h7)) rfl)) rfl)).trans (tup2_eq _ _ _ _)
    · rw [e]; rfl
    · rw [e]; rfl
  have hc : cand P (ptAt P j) (ptAt P k) = if [x, y] = [ptAt P j, ptAt P k] then [m] else [] := by
    unfold cand; rw [hm, e]; rfl
  rw [hc]
  unfold bodyJ
  by_cases h : [x, y] = [ptAt P j, ptAt P k]
  · obtain ⟨x6', hl⟩ := loopT P fo (some (false, .int k)) (some (false, .int j)) (some (false, ptsD m)) m [] x6 (by simpa using hon.nodup) (by simpa using h4)
    refine ⟨some (false, ptsD m), some (false, tabD m), x6', ?_⟩
    rw [seq_next e1, if_true (e2.trans (by rw [decide_eq_true h])), if_pos h, seq_next (σ' := sL P fo (some (false, .int k)) (some (false, .int j)) (some (false, ptsD m)) (some (false, tabD [])) x6) rfl, seq_next ((for_of rfl).trans hl)]
    show (if (fo.map tabD).length ≤ 1048576 then some (Fl.next, _) else none) = _
    have e3 : (fo ++ [m]).map tabD = fo.map tabD ++ [tabD m] := by simp
    rw [if_pos (by rw [List.length_map]; omega), List.nil_append]
    unfold sL
    rw [e3]
    rfl
  · refine ⟨some (false, ptsD m), x5, x6, ?_⟩
    rw [seq_next e1, if_false (e2.trans (by rw [decide_eq_false h])), if_neg h, List.append_nil]
    rfl
theorem loopJ {P : List Pt} (hP : Srt P) (hB : ∀ p ∈ P, InB p) (h7 : P.length ≤ 7) {k : Nat} (hk : k < P.length) : ∀ (js : List Nat) (fo : List (List Pt)) (x3 x4 x5 x6 : Option (Bool × PyData)), (∀ j ∈ js, j < k) → fo.length + js.length ≤ 1000 →
    ∃ x3' x4' x5' x6', loopC (tg1 3) bodyJ (js.map natD) (sL P fo (some (false, .int k)) x3 x4 x5 x6) = some (.next, sL P (fo ++ js.flatMap fun j => cand P (ptAt P j) (ptAt P k)) (some (false, .int k)) x3' x4' x5' x6') := by
  intro js
  induction js with
  | nil => intro fo x3 x4 x5 x6 _ _; exact ⟨x3, x4, x5, x6, by rw [List.flatMap_nil, List.append_nil]; rfl⟩
  | cons j r ih =>
    intro fo x3 x4 x5 x6 h1 h2
    rw [List.length_cons] at h2
    obtain ⟨y4, y5, y6, hb⟩ := bodyJ_eq hP hB h7 fo (by omega) hk (h1 j (by simp)) x4 x5 x6
    have hc : (cand P (ptAt P j) (ptAt P k)).length ≤ 1 := by unfold cand; split <;> simp
    obtain ⟨x3', x4', x5', x6', h⟩ := ih (fo ++ cand P (ptAt P j) (ptAt P k)) (some (false, .int j)) y4 y5 y6 (fun i hi => h1 i (List.mem_cons_of_mem _ hi)) (by rw [List.length_append]; omega)
    refine ⟨x3', x4', x5', x6', ?_⟩
    rw [List.map_cons, loop_cons (σ' := sL P fo (some (false, .int k)) (some (false, .int j)) x4 x5 x6) rfl hb, h, List.flatMap_cons, List.append_assoc]
theorem upD0 (k : Nat) : upD 0 (k : Int) = (List.range k).map natD := by
  unfold upD
  rw [Int.sub_zero, Int.toNat_natCast]
  exact List.map_congr_left fun i _ => by show PyData.int (0 + (i : Int)) = .int i; rw [Int.zero_add]
theorem range_of {f : Ev.St → Option PyData} {σ : Ev.St} {k : Nat} (h : f σ = some (.int k)) (hk : k < 1000) : rangeC [f] σ = some ((List.range k).map natD) := by
  unfold rangeC
  rw [as_cons h rfl]
  show (if -1048576 < (k : Int) ∧ (k : Int) < 1048576 then some (upD 0 k) else none) = _
  rw [if_pos ⟨by omega, by omega⟩, upD0]
theorem flat_le (P : List Pt) (k : Nat) (js : List Nat) : (js.flatMap fun j => cand P (ptAt P j) (ptAt P k)).length ≤ js.length := by
  induction js with
  | nil => exact Nat.le_refl _
  | cons j r ih =>
    have hc : (cand P (ptAt P j) (ptAt P k)).length ≤ 1 := by unfold cand; split <;> simp
    rw [List.flatMap_cons, List.length_append, List.length_cons]; omega
theorem loopK {P : List Pt} (hP : Srt P) (hB : ∀ p ∈ P, InB p) (h7 : P.length ≤ 7) : ∀ (ks : List Nat) (fo : List (List Pt)) (x2 x3 x4 x5 x6 : Option (Bool × PyData)), (∀ k ∈ ks, k < P.length) → fo.length + 7 * ks.length ≤ 1000 →
    ∃ x2' x3' x4' x5' x6', loopC (tg1 2) (forC (rangeC [(bC 2)]) (tg1 3) bodyJ) (ks.map natD) (sL P fo x2 x3 x4 x5 x6) = some (.next, sL P (fo ++ ks.flatMap fun k => (List.range k).flatMap fun j => cand P (ptAt P j) (ptAt P k)) x2' x3' x4' x5' x6') := by
  intro ks
  induction ks with
  | nil => intro fo x2 x3 x4 x5 x6 _ _; exact ⟨x2, x3, x4, x5, x6, by rw [List.flatMap_nil, List.append_nil]; rfl⟩
  | cons k r ih =>
    intro fo x2 x3 x4 x5 x6 h1 h2
    rw [List.length_cons] at h2
    have hk := h1 k (by simp)
    obtain ⟨y3, y4, y5, y6, hb⟩ := loopJ hP hB h7 hk (List.range k) fo x3 x4 x5 x6 (fun j hj => List.mem_range.mp hj) (by rw [List.length_range]; omega)
    have hc := flat_le P k (List.range k)
    rw [List.length_range] at hc
    obtain ⟨x2', x3', x4', x5', x6', h⟩ := ih (fo ++ (List.range k).flatMap fun j => cand P (ptAt P j) (ptAt P k)) (some (false, .int k)) y3 y4 y5 y6 (fun i hi => h1 i (List.mem_cons_of_mem _ hi)) (by rw [List.length_append]; omega)
    refine ⟨x2', x3', x4', x5', x6', ?_⟩
    have hb' : forC (rangeC [(bC 2)]) (tg1 3) bodyJ (sL P fo (some (false, .int k)) x3 x4 x5 x6) = _ := (for_of (range_of rfl (by omega))).trans hb
    rw [List.map_cons, loop_cons (σ' := sL P fo (some (false, .int k)) x3 x4 x5 x6) rfl hb', h, List.flatMap_cons, List.append_assoc]
theorem take_filter {P : List Pt} (hP : Srt P) {k : Nat} (hk : k < P.length) : (List.range k).map (ptAt P) = P.filter (lt · (ptAt P k)) := by
  have h1 : (List.range k).map (ptAt P) = P.take k := by
    refine List.ext_getElem (by simp; omega) fun i h1 h2 => ?_
    simp only [List.length_map, List.length_range] at h1
    rw [List.getElem_map, List.getElem_range, List.getElem_take, ptAt_eq (by omega)]
  have h2 : (P.take k).filter (lt · (ptAt P k)) = P.take k := by
    rw [List.filter_eq_self]
    intro a ha
    obtain ⟨i, hi, e⟩ := List.mem_iff_getElem.mp ha
    rw [List.getElem_take] at e
    rw [List.length_take] at hi
    rw [← e, ptAt_eq hk]
    exact List.pairwise_iff_getElem.mp hP i k (by omega) hk (by omega)
  have h3 : (P.drop k).filter (lt · (ptAt P k)) = [] := by
    rw [List.filter_eq_nil_iff]
    intro a ha
    obtain ⟨i, hi, e⟩ := List.mem_iff_getElem.mp ha
    rw [List.getElem_drop] at e
    rw [List.length_drop] at hi
    rw [← e, ptAt_eq hk]
    by_cases h0 : i = 0
    · subst h0; simp [lt_irrefl]
    · rw [lt_asymm (List.pairwise_iff_getElem.mp hP k (k + i) hk (by omega) (by omega))]; simp
  have h4 : P.filter (lt · (ptAt P k)) = (P.take k).filter (lt · (ptAt P k)) ++ (P.drop k).filter (lt · (ptAt P k)) := by rw [← List.filter_append, List.take_append_drop]
  rw [h1, h4, h2, h3, List.append_nil]
theorem lines_idx {P : List Pt} (hP : Srt P) : ((List.range P.length).flatMap fun k => (List.range k).flatMap fun j => cand P (ptAt P j) (ptAt P k)) = lines P := by
  have h1 : ∀ {α β : Type} (l : List α) (f g : α → List β), (∀ x ∈ l, f x = g x) → l.flatMap f = l.flatMap g := by
    intro α β l f g h
    induction l with
    | nil => rfl
    | cons a r ih => rw [List.flatMap_cons, List.flatMap_cons, h a (by simp), ih fun x hx => h x (by simp [hx])]
  have h2 : (List.range P.length).map (ptAt P) = P := range_getD P (0, 0)
  unfold lines
  conv => rhs; arg 2; rw [← h2]
  rw [List.flatMap_map]
  refine h1 _ _ _ fun k hk => ?_
  have hk := List.mem_range.mp hk
  rw [← take_filter hP hk, List.flatMap_map]
theorem g_lines {P : List Pt} (hP : Srt P) (hB : ∀ p ∈ P, InB p) (h7 : P.length ≤ 7) : g__law_lines [ptsD P] = some (.list ((lines P).map tabD)) := by
  obtain ⟨x2, x3, x4, x5, x6, h⟩ := loopK hP hB h7 (List.range P.length) [] none none none none none (fun k hk => List.mem_range.mp hk) (by simp; omega)
  rw [List.nil_append, lines_idx hP] at h
  have e1 : rangeC [(callC lenG [(bC 0)])] (sL P [] none none none none none) = some ((List.range P.length).map natD) := range_of ((call_of rfl).trans (len_pts h7)) (by omega)
  refine fn_of rfl (σ := [some (false, ptsD P), some (false, .list ((lines P).map tabD)), x2, x3, x4, x5, x6]) ?_
  unfold F_law_lines
  rw [seq_next (σ' := sL P [] none none none none none) rfl]
  refine (seq_next (σ' := sL P (lines P) x2 x3 x4 x5 x6) ((for_of e1).trans h)).trans ?_
  rw [free_of rfl]
  rfl
end M2
set_option maxRecDepth 100000
/-! law 2: the law's text, piece by piece -/
namespace M2
open PySem PySem.SeqAt Ev L2
noncomputable def c0 : Sm := (ownC 1 (lstC []))
noncomputable def c1 : Sm := (forC (seqC (takeC (bC 0) 7)) (tg1 2) bodyP)
noncomputable def c2 : Sm := (freeC 1 (ifS (anyC [(cmC .NotEq (bC 1) (callC sortG [(bC 1)])), (cmC .NotEq (compC 1 [1] (seqC (vC 1)) (lpC [0] (tg1 0) [(cmC .NotEq (subC (bC 1) (callC g_bisect2 [(bC 1), (bC 0)])) (bC 0))] (eltC (vC 0)))) (lstC []))]) (retC (cC (.bool false))) skipC))
noncomputable def c3 : Sm := (asgM [4, 5] true [(false, (callC g__law_lines [(vC 1)])), (false, (callC lenG [(bC 1)]))])
noncomputable def c4 : Sm := (ifS (cmC .NotEq (callC sumG [(compC 1 [] (seqC (vC 4)) (lpC [0] (tg1 0) [] (eltC (opC .FloorDiv (opC .Mult (callC g_count_calls [(vC 0)]) (opC .Sub (callC g_count_calls [(vC 0)]) (cC (.int 1)))) (cC (.int 2))))))]) (opC .FloorDiv (opC .Mult (bC 5) (opC .Sub (bC 5) (cC (.int 1)))) (cC (.int 2)))) (retC (cC (.bool false))) skipC)
noncomputable def c5 : Sm := (ifS (anyC [(cmC .Lt (bC 5) (cC (.int 2))), (cmC .Eq (callC lenG [(bC 4)]) (cC (.int 1)))]) (retC (andC (ofB (cmC .Eq (callC lenG [(bC 4)]) (callC intG [(ofB (cmC .Gt (bC 5) (cC (.int 1))))]))) (orC (ofB (cmC .Lt (bC 5) (cC (.int 2)))) (ofB (cmC .Eq (callC g_count_calls [(subC (bC 4) (cC (.int 0)))]) (bC 5)))))) skipC)
noncomputable def c6 : Sm := (ifS (anyC [(cmC .Eq (compC 1 [] (seqC (vC 4)) (lpC [0] (tg1 0) [(cmC .Eq (callC g_count_calls [(vC 0)]) (cC (.int 2)))] (eltC (vC 0)))) (lstC [])), (cmC .Lt (callC lenG [(bC 4)]) (bC 5))]) (retC (cC (.bool false))) skipC)
noncomputable def c7 : Sm := (ownC 6 (lstC []))
noncomputable def bodyQ : Sm := (ifS (cmC .NotIn (bC 3) (bC 8)) (seqC2 (setC 9 (callC g__law_turn [(subC (bC 8) (cC (.int 0))), (subC (bC 8) (cC (.int 1))), (vC 3)])) (seqC2 (setC 10 (opC .Add (opC .Pow (opC .Sub (subC (subC (bC 8) (cC (.int 1))) (cC (.int 0))) (subC (subC (bC 8) (cC (.int 0))) (cC (.int 0)))) (cC (.int 2))) (opC .Pow (opC .Sub (subC (subC (bC 8) (cC (.int 1))) (cC (.int 1))) (subC (subC (bC 8) (cC (.int 0))) (cC (.int 1)))) (cC (.int 2))))) (appC 6 (tupC [(opC .Mult (bC 9) (bC 9)), (vC 10), (vC 3), (vC 8)])))) skipC)
noncomputable def bodyR : Sm := (seqC2 (setC 8 (callC sortG [(compC 1 [] (keysC (vC 7)) (lpC [0] (tg1 0) [] (eltC (subC (bC 0) (cC (.int 1))))))])) (forC (seqC (vC 1)) (tg1 3) bodyQ))
noncomputable def c8 : Sm := (forC (seqC (vC 4)) (tg1 7) bodyR)
noncomputable def c9 : Sm := (freeC 6 (setC 11 (subC (bC 6) (cC (.int 0)))))
noncomputable def bodyM : Sm := (setC 11 (ifC (cmC .Lt (opC .Mult (subC (bC 12) (cC (.int 0))) (subC (bC 11) (cC (.int 1)))) (opC .Mult (subC (bC 11) (cC (.int 0))) (subC (bC 12) (cC (.int 1))))) (vC 12) (vC 11)))
noncomputable def c10 : Sm := (forC (seqC (vC 6)) (tg1 12) bodyM)
noncomputable def c11 : Sm := (retC (ofB (cmC .Eq (callC lenG [(subC (bC 11) (cC (.int 3)))]) (cC (.int 2)))))
theorem F_law_eq : F_law = seqC2 c0 (seqC2 c1 (seqC2 c2 (seqC2 c3 (seqC2 c4 (seqC2 c5 (seqC2 c6 (seqC2 c7 (seqC2 c8 (seqC2 c9 (seqC2 c10 (c11))))))))))) := rfl
noncomputable abbrev s2 (S : PyData) (P : List Pt) (x2 x3 x6 x7 x8 x9 x10 x11 x12 : Option (Bool × PyData)) : Ev.St := [some (false, S), some (false, ptsD P), x2, x3, some (false, .list ((lines P).map tabD)), some (false, .int P.length), x6, x7, x8, x9, x10, x11, x12]
theorem any_false {t : Ev.St → Option Bool} {ts : List (Ev.St → Option Bool)} {σ : Ev.St} (h : t σ = some false) : anyC (t :: ts) σ = anyC ts σ := by
  show (match t σ with | some true => some true | some false => anyC ts σ | none => none) = _
  rw [h]
theorem any_true {t : Ev.St → Option Bool} {ts : List (Ev.St → Option Bool)} {σ : Ev.St} (h : t σ = some true) : anyC (t :: ts) σ = some true := by
  show (match t σ with | some true => some true | some false => anyC ts σ | none => none) = _
  rw [h]
theorem comp_of {nt : Nat} {caps : List Nat} {src : Ev.St → Option (List PyData)} {f : List PyData → Em} {σ : Ev.St} {xs out : List PyData} (h1 : src σ = some xs) (h2 : f xs (capC nt caps σ) = some out) (h3 : out.length ≤ 1048576) : compC nt caps src f σ = some (.list out) := by
  unfold compC; rw [h1]; simp only; rw [h2]; simp [okLen, h3]
theorem turns_map {α : Type} {D : α → PyData} {g : PyData → Ev.St → Option Ev.St} {k : Em} {σ : Ev.St} {st : α → Ev.St} {e : α → PyData} (xs : List α) (h : ∀ x ∈ xs, g (D x) σ = some (st x) ∧ k (st x) = some [e x]) : turnsC g [] k (xs.map D) σ = some (xs.map e) := by
  have := turns_filter (D := D) (g := g) (ts := []) (k := k) (σ := σ) (st := st) (pr := fun _ => true) (e := e) xs fun x hx => ⟨(h x hx).1, rfl, fun _ => (h x hx).2⟩
  rw [this, List.filter_eq_self.mpr fun _ _ => rfl]
theorem elt_of {f : Ev.St → Option PyData} {σ : Ev.St} {d : PyData} (h : f σ = some d) : eltC f σ = some [d] := by unfold eltC; rw [h]
theorem c2_eq {P : List Pt} (hP : Srt P) (h7 : P.length ≤ 7) (S : PyData) (x2 x3 : Option (Bool × PyData)) : c2 (st1 S true P x2 x3) = some (.next, st1 S false P x2 x3) := by
  unfold c2
  rw [free_of (d := ptsD P) rfl]
  show ifS _ _ _ (st1 S false P x2 x3) = _
  refine (if_false ?_).trans rfl
  rw [any_false ((cm_of rfl ((call_of rfl).trans (sort_pts hP h7))).trans (cmp_ne_pts P))]
  have h : turnsC (tg1 0) [(cmC .NotEq (subC (bC 1) (callC g_bisect2 [(bC 1), (bC 0)])) (bC 0))] (eltC (vC 0)) (P.map P2D) [none, some (false, ptsD P)] = some [] := by
    rw [turns_filter (st := fun p => [some (false, P2D p), some (false, ptsD P)]) (pr := fun _ => false) (e := P2D) P fun p hp => ⟨rfl, ts_one ?_, fun h => absurd h Bool.false_ne_true⟩]
    · rw [List.filter_eq_nil_iff.mpr (fun _ _ h => Bool.false_ne_true h)]; rfl
    · obtain ⟨hb, e⟩ := bis_found hP hp
      refine (cm_of ((sub_of rfl ((call_of rfl).trans (g_bis2 hP h7 p))).trans (item_pts hb h7)) rfl).trans ?_
      rw [e, cmp_ne]; simp
  have h2 : cmC .NotEq (compC 1 [1] (seqC (vC 1)) (lpC [0] (tg1 0) [(cmC .NotEq (subC (bC 1) (callC g_bisect2 [(bC 1), (bC 0)])) (bC 0))] (eltC (vC 0)))) (lstC []) (st1 S false P x2 x3) = some false :=
    (cm_of (comp_of (xs := P.map P2D) rfl h (Nat.zero_le _)) rfl).trans rfl
  rw [any_false h2]
  rfl
theorem c3_eq {P : List Pt} (hP : Srt P) (hB : ∀ p ∈ P, InB p) (h7 : P.length ≤ 7) (S : PyData) (x2 x3 : Option (Bool × PyData)) : c3 (st1 S false P x2 x3) = some (.next, s2 S P x2 x3 none none none none none none none) := by
  have h1 : Ev.callC g__law_lines [vC 1] (st1 S false P x2 x3) = some (.list ((lines P).map tabD)) := (call_of rfl).trans (g_lines hP hB h7)
  have h2 : Ev.callC lenG [bC 1] (st1 S false P x2 x3) = some (.int P.length) := (call_of rfl).trans (len_pts h7)
  have h3 : msC [(false, (callC g__law_lines [(vC 1)])), (false, (callC lenG [(bC 1)]))] (st1 S false P x2 x3) = some [(false, .list ((lines P).map tabD)), (false, .int P.length)] := by
    unfold msC; rw [h1]; simp only; unfold msC; rw [h2]; rfl
  unfold c3 asgM
  rw [h3]; rfl
theorem len_flat {α β : Type} {f : α → List β} {k : Nat} (l : List α) (h : ∀ x ∈ l, (f x).length ≤ k) : (l.flatMap f).length ≤ l.length * k := by
  induction l with
  | nil => exact Nat.zero_le _
  | cons a r ih =>
    have h1 := h a (by simp)
    have h2 := ih fun x hx => h x (by simp [hx])
    rw [List.flatMap_cons, List.length_append, List.length_cons, Nat.add_mul]
    omega
theorem lines_len {P : List Pt} (h7 : P.length ≤ 7) : (lines P).length ≤ 49 := by
  have h1 : (lines P).length ≤ P.length * 7 := by
    unfold lines
    refine len_flat P fun q hq => ?_
    refine Nat.le_trans (len_flat (k := 1) _ fun p hp => ?_) ?_
    · unfold cand; split <;> simp
    · have := List.length_filter_le (lt · q) P
      omega
  omega
theorem line_len {P : List Pt} {m : List Pt} (hm : m ∈ lines P) : m.length ≤ P.length := by
  obtain ⟨p, q, _, _, _, e, _⟩ := mem_lines hm
  rw [e]; exact List.length_filter_le ..
noncomputable def halfI (n : Nat) : Nat := n * (n - 1) / 2
theorem halfI_eq (n : Nat) : ((n : Int) * ((n : Int) - 1)).fdiv 2 = (halfI n : Int) := by
  rw [Int.fdiv_eq_ediv_of_nonneg _ (by decide)]
  unfold halfI
  cases n with
  | zero => rfl
  | succ k => simp only [Nat.add_sub_cancel]; rw [show (((k + 1 : Nat) : Int) - 1) = (k : Int) by omega, ← Int.natCast_mul]; omega
theorem half_of {f g : Ev.St → Option PyData} {σ : Ev.St} {n : Nat} (h : f σ = some (.int n)) (h' : g σ = some (.int n)) (hn : n ≤ 1000) : opC .FloorDiv (opC .Mult f (opC .Sub g (cC (.int 1)))) (cC (.int 2)) σ = some (.int (halfI n)) := by
  rw [← halfI_eq]
  exact (op_of ((op_of h ((op_of h' rfl).trans rfl)).trans (bin_mul (small_of (by omega) (by omega)))) rfl).trans (bin_fdiv (by decide) (by decide))
theorem intsD_map (l : List Int) : intsD (l.map .int) = some l := by
  induction l with
  | nil => rfl
  | cons a r ih => simp only [List.map_cons, intsD, ih]
theorem sum_cast (l : List Nat) : (l.map fun n : Nat => (n : Int)).sum = ((l.sum : Nat) : Int) := by
  induction l with
  | nil => rfl
  | cons a r ih => simp only [List.map_cons, List.sum_cons, ih]; omega
theorem c4_eq {P : List Pt} (hP : Srt P) (h7 : P.length ≤ 7) (S : PyData) (x2 x3 : Option (Bool × PyData)) : c4 (s2 S P x2 x3 none none none none none none none) = some (.next, s2 S P x2 x3 none none none none none none none) := by
  unfold c4
  have h : turnsC (tg1 0) [] (eltC (opC .FloorDiv (opC .Mult (callC g_count_calls [(vC 0)]) (opC .Sub (callC g_count_calls [(vC 0)]) (cC (.int 1)))) (cC (.int 2)))) ((lines P).map tabD) [none] = some ((lines P).map fun m => .int (halfI m.length)) := by
    refine turns_map (st := fun m => [some (false, tabD m)]) _ fun m hm => ⟨rfl, elt_of (half_of ((call_of rfl).trans (g_count m)) ((call_of rfl).trans (g_count m)) ?_)⟩
    have := line_len hm; omega
  have h1 : (lines P).map (fun m => PyData.int (halfI m.length)) = (((lines P).map fun m => halfI m.length).map fun n : Nat => (n : Int)).map .int := by rw [List.map_map, List.map_map]; rfl
  have h2 := lines_len h7
  have h3 : Ev.callC sumG [(compC 1 [] (seqC (vC 4)) (lpC [0] (tg1 0) [] (eltC (opC .FloorDiv (opC .Mult (callC g_count_calls [(vC 0)]) (opC .Sub (callC g_count_calls [(vC 0)]) (cC (.int 1)))) (cC (.int 2))))))] (s2 S P x2 x3 none none none none none none none) = some (.int (halfI P.length)) := by
    refine (call_of (as_cons (comp_of (xs := (lines P).map tabD) rfl h (by simp; omega)) rfl)).trans ?_
    show (match intsD ((lines P).map fun m => PyData.int (halfI m.length)) with | some is => some (PyData.int is.sum) | none => none) = _
    rw [h1, intsD_map]
    simp only
    rw [sum_cast]
    have := pairs hP
    unfold sm at this
    unfold halfI
    rw [this]
  rw [if_false]
  · rfl
  refine (cm_of h3 (half_of rfl rfl (by omega))).trans ?_
  show (some (decide ((halfI P.length : Int) = halfI P.length))).map (!·) = _
  simp
end M2
set_option maxRecDepth 100000
/-! law 2: the law's text, piece by piece, 2 -/
namespace M2
open PySem PySem.SeqAt Ev L2
theorem cmp_lti (a b : Int) : cmpD .Lt (.int a) (.int b) = some (decide (a < b)) := by
  have h : cmpD .Lt (.int a) (.int b) = (ordD (.int a) (.int b)).map (ordIs .Lt) := rfl
  have h2 : ordD (.int a) (.int b) = some (if a < b then .lt else if a = b then .eq else .gt) := rfl
  rw [h, h2]
  by_cases h1 : a < b
  · simp [h1, ordIs]
  · by_cases h2 : a = b <;> simp [h1, h2, ordIs]
theorem cmp_gti (a b : Int) : cmpD .Gt (.int a) (.int b) = some (decide (b < a)) := by
  have h : cmpD .Gt (.int a) (.int b) = (ordD (.int a) (.int b)).map (ordIs .Gt) := rfl
  have h2 : ordD (.int a) (.int b) = some (if a < b then .lt else if a = b then .eq else .gt) := rfl
  rw [h, h2]
  by_cases h1 : a < b
  · have : ¬ b < a := by omega
    simp [h1, this, ordIs]
  · by_cases h2 : a = b
    · simp [h2, ordIs]
    · have : b < a := by omega
      simp [h1, h2, this, ordIs]
theorem cmp_eqi (a b : Int) : cmpD .Eq (.int a) (.int b) = some (decide (a = b)) := by
  have h : cmpD .Eq (.int a) (.int b) = some (a == b) := rfl
  rw [h]; congr 1
theorem len_lines {P : List Pt} (h7 : P.length ≤ 7) : lenG [.list ((lines P).map tabD)] = some (.int (lines P).length) := by
  have := lines_len h7
  have h : lenG [.list ((lines P).map tabD)] = if okLen ((lines P).map tabD) then some (.int ((lines P).map tabD).length) else none := rfl
  rw [h, if_pos (by simp [okLen]; omega), List.length_map]
theorem lines_small {P : List Pt} (h : P.length < 2) : lines P = [] := by
  match P with
  | [] => rfl
  | [p] => simp [lines, lt_irrefl]
  | a :: b :: r => exact absurd h (by simp)
theorem ofB_of {t : Ev.St → Option Bool} {σ : Ev.St} {b : Bool} (h : t σ = some b) : ofB t σ = some (.bool b) := by unfold ofB; rw [h]
theorem and_of {f g : Ev.St → Option PyData} {σ : Ev.St} {d : Option PyData} (h : f σ = some (.bool true)) (h' : g σ = d) : andC f g σ = d := by unfold andC; rw [h, ← h']; rfl
theorem ret_of {f : Ev.St → Option PyData} {σ : Ev.St} {d : PyData} (h : f σ = some d) : retC f σ = some (.ret d, σ) := by unfold retC; rw [h]
noncomputable abbrev s3 (S : PyData) (P : List Pt) (x2 x3 : Option (Bool × PyData)) : Ev.St := s2 S P x2 x3 none none none none none none none
theorem c5_ret {P : List Pt} (h7 : P.length ≤ 7) (S : PyData) (x2 x3 : Option (Bool × PyData)) (h : P.length < 2 ∨ (lines P).length = 1) (hl : ∀ m, P.length ≥ 2 → lines P = [m] → m.length = P.length) : ∃ σ, c5 (s3 S P x2 x3) = some (.ret (.bool true), σ) := by
  have e1 : cmC .Lt (bC 5) (cC (.int 2)) (s3 S P x2 x3) = some (decide ((P.length : Int) < 2)) := (cm_of rfl rfl).trans (cmp_lti _ _)
  have e2 : Ev.callC lenG [bC 4] (s3 S P x2 x3) = some (.int (lines P).length) := (call_of rfl).trans (len_lines h7)
  have e3 : Ev.callC intG [(ofB (cmC .Gt (bC 5) (cC (.int 1))))] (s3 S P x2 x3) = some (.int (if (1 : Int) < P.length then 1 else 0)) := by
    refine (call_of (as_cons (ofB_of ((cm_of rfl rfl).trans (cmp_gti _ _))) rfl)).trans ?_
    show some (PyData.int (if decide ((1 : Int) < P.length) = true then 1 else 0)) = _
    simp
  refine ⟨s3 S P x2 x3, ?_⟩
  unfold c5
  by_cases hs : P.length < 2
  · have hs' : ((P.length : Int) < 2) := by omega
    have hn : ¬ (1 : Int) < P.length := by omega
    rw [if_true (any_true (e1.trans (by rw [decide_eq_true hs'])))]
    refine ret_of (and_of (ofB_of ((cm_of e2 e3).trans ((cmp_eqi _ _).trans ?_))) ?_)
    · rw [lines_small hs, if_neg hn]; rfl
    · unfold orC
      rw [ofB_of e1, decide_eq_true hs']; rfl
  · have h1 := h.resolve_left hs
    have hs' : ¬ ((P.length : Int) < 2) := by omega
    have hn : (1 : Int) < P.length := by omega
    rw [if_true ((any_false (e1.trans (by rw [decide_eq_false hs']))).trans (any_true ((cm_of e2 rfl).trans ((cmp_eqi _ _).trans (by rw [h1]; rfl)))))]
    refine ret_of (and_of (ofB_of ((cm_of e2 e3).trans ((cmp_eqi _ _).trans ?_))) ?_)
    · rw [h1, if_pos hn]; rfl
    · unfold orC
      rw [ofB_of e1, decide_eq_false hs']
      obtain ⟨m, hm⟩ : ∃ m, lines P = [m] := by
        match lines P, h1 with
        | [m], _ => exact ⟨m, rfl⟩
      have e4 : subC (bC 4) (cC (.int 0)) (s3 S P x2 x3) = some (tabD m) := by
        have : subC (bC 4) (cC (.int 0)) (s3 S P x2 x3) = ((lines P).map tabD)[0]? := rfl
        rw [this, hm]; rfl
      refine ofB_of ((cm_of ((call_of (as_cons e4 rfl)).trans (g_count m)) rfl).trans ((cmp_eqi _ _).trans ?_))
      rw [hl m (by omega) hm]; simp
theorem c5_next {P : List Pt} (h7 : P.length ≤ 7) (S : PyData) (x2 x3 : Option (Bool × PyData)) (h : 2 ≤ P.length) (h' : (lines P).length ≠ 1) : c5 (s3 S P x2 x3) = some (.next, s3 S P x2 x3) := by
  have e1 : cmC .Lt (bC 5) (cC (.int 2)) (s3 S P x2 x3) = some (decide ((P.length : Int) < 2)) := (cm_of rfl rfl).trans (cmp_lti _ _)
  have e2 : Ev.callC lenG [bC 4] (s3 S P x2 x3) = some (.int (lines P).length) := (call_of rfl).trans (len_lines h7)
  unfold c5
  have hs' : ¬ ((P.length : Int) < 2) := by omega
  have hn : ¬ ((lines P).length : Int) = 1 := by omega
  rw [if_false ((any_false (e1.trans (by rw [decide_eq_false hs']))).trans ((any_false ((cm_of e2 rfl).trans ((cmp_eqi _ _).trans (by rw [decide_eq_false hn])))).trans rfl))]
  rfl
theorem c6_next {P : List Pt} (h7 : P.length ≤ 7) (S : PyData) (x2 x3 : Option (Bool × PyData)) (h : ∃ m ∈ lines P, m.length = 2) (h' : P.length ≤ (lines P).length) : c6 (s3 S P x2 x3) = some (.next, s3 S P x2 x3) := by
  have e2 : Ev.callC lenG [bC 4] (s3 S P x2 x3) = some (.int (lines P).length) := (call_of rfl).trans (len_lines h7)
  have h1 : turnsC (tg1 0) [(cmC .Eq (callC g_count_calls [(vC 0)]) (cC (.int 2)))] (eltC (vC 0)) ((lines P).map tabD) [none] = some (((lines P).filter fun m => decide ((m.length : Int) = 2)).map tabD) :=
    turns_filter (st := fun m => [some (false, tabD m)]) _ fun m hm => ⟨rfl, ts_one ((cm_of ((call_of rfl).trans (g_count m)) rfl).trans (cmp_eqi _ _)), fun _ => rfl⟩
  have h2 : ∃ x y, ((lines P).filter fun m => decide ((m.length : Int) = 2)).map tabD = x :: y := by
    obtain ⟨m, hm, hm2⟩ := h
    have : m ∈ (lines P).filter fun m => decide ((m.length : Int) = 2) := List.mem_filter.mpr ⟨hm, by rw [hm2]; rfl⟩
    generalize (lines P).filter (fun m => decide ((m.length : Int) = 2)) = l at *
    cases l with
    | nil => cases this
    | cons x y => exact ⟨tabD x, y.map tabD, rfl⟩
  obtain ⟨x, y, e⟩ := h2
  have h3 := lines_len h7
  have h4 : (((lines P).filter fun m => decide ((m.length : Int) = 2)).map tabD).length ≤ 1048576 := by
    have := List.length_filter_le (fun m : List Pt => decide ((m.length : Int) = 2)) (lines P)
    rw [List.length_map]; omega
  have h5 : cmC .Eq (compC 1 [] (seqC (vC 4)) (lpC [0] (tg1 0) [(cmC .Eq (callC g_count_calls [(vC 0)]) (cC (.int 2)))] (eltC (vC 0)))) (lstC []) (s3 S P x2 x3) = some false := by
    refine (cm_of (comp_of (xs := (lines P).map tabD) rfl h1 h4) rfl).trans ?_
    rw [e]; rfl
  have hn : ¬ ((lines P).length : Int) < P.length := by omega
  unfold c6
  rw [if_false ((any_false h5).trans ((any_false ((cm_of e2 rfl).trans ((cmp_lti _ _).trans (by rw [decide_eq_false hn])))).trans rfl))]
  rfl
/-! near -/
noncomputable def enD (e : En) : PyData := .tuple [.int e.1, .int e.2.1, P2D e.2.2.1, ptsD e.2.2.2]
noncomputable abbrev sQ (S : PyData) (P : List Pt) (acc : List En) (x2 x3 x7 x8 x9 x10 : Option (Bool × PyData)) : Ev.St := s2 S P x2 x3 (some (true, .list (acc.map enD))) x7 x8 x9 x10 none none
theorem mul_bd {x y : Int} (h1 : -4 ≤ x) (h2 : x ≤ 4) (h3 : -4 ≤ y) (h4 : y ≤ 4) : -16 ≤ x * y ∧ x * y ≤ 16 := by
  have hx : x.natAbs ≤ 4 := by clear h3 h4; omega
  have hy : y.natAbs ≤ 4 := by clear h1 h2 hx; omega
  have h := Nat.mul_le_mul hx hy
  rw [← Int.natAbs_mul] at h
  clear h1 h2 h3 h4 hx hy
  omega
theorem sub_bd {a b : Int} (ha : 0 ≤ a ∧ a < 5) (hb : 0 ≤ b ∧ b < 5) : -4 ≤ b - a ∧ b - a ≤ 4 := by omega
theorem turn_bd {a b c : Pt} (ha : InB a) (hb : InB b) (hc : InB c) : -32 ≤ turn a b c ∧ turn a b c ≤ 32 := by
  have p1 := sub_bd ha.1 hb.1
  have p2 := sub_bd ha.2 hc.2
  have p3 := sub_bd ha.1 hc.1
  have p4 := sub_bd ha.2 hb.2
  have h1 := mul_bd p1.1 p1.2 p2.1 p2.2
  have h2 := mul_bd p3.1 p3.2 p4.1 p4.2
  clear p1 p2 p3 p4
  unfold turn
  omega
theorem bin_pow2 {x : Int} (h : small x = true) : binD .Pow (.int x) (.int 2) = some (.int (x * x)) := by
  have : binD .Pow (.int x) (.int 2) = if decide ((0 : Int) ≤ 2) && decide ((2 : Int) ≤ 1000) && small x then some (.int (x ^ (2 : Int).toNat)) else none := rfl
  rw [this, h, if_pos (by decide)]
  have : x ^ (2 : Int).toNat = x * x := by
    show x ^ 2 = x * x
    rw [Int.pow_succ, Int.pow_succ, Int.pow_zero, Int.one_mul]
  rw [this]
theorem bodyQ_eq {P : List Pt} (hP : Srt P) (hB : ∀ p ∈ P, InB p) (h7 : P.length ≤ 7) (S : PyData) {m : List Pt} (hm : m ∈ lines P) {p : Pt} (hp : p ∈ P) (acc : List En) (ha : acc.length ≤ 1000) (x2 x7 x9 x10 : Option (Bool × PyData)) :
    ∃ x9' x10', bodyQ (sQ S P acc x2 (some (false, P2D p)) x7 (some (false, ptsD m)) x9 x10) = some (.next, sQ S P (acc ++ if p ∈ m then [] else [entry m p]) x2 (some (false, P2D p)) x7 (some (false, ptsD m)) x9' x10') := by
  have e1 : cmC .NotIn (bC 3) (bC 8) (sQ S P acc x2 (some (false, P2D p)) x7 (some (false, ptsD m)) x9 x10) = some (decide (p ∉ m)) := (cm_of rfl rfl).trans (cmp_nin _ _)
  unfold bodyQ
  by_cases h : p ∈ m
  · refine ⟨x9, x10, ?_⟩
    rw [if_false (e1.trans (by simp [h])), if_pos h, List.append_nil]; rfl
  · obtain ⟨hne, hf1, hf2⟩ := fs_line hP hm
    have hl := line_len hm
    have hl2 : 2 ≤ m.length := by obtain ⟨x, y, r, e⟩ := line_two hm; rw [e]; simp
    have i0 : itemD (ptsD m) (.int 0) = some (P2D (first m)) := item_at (P := m) (i := 0) (by omega) (by omega)
    have i1 : itemD (ptsD m) (.int 1) = some (P2D (second m)) := item_at (P := m) (i := 1) (by omega) (by omega)
    have b0 := hB _ (line_sub hm hf1)
    have b1 := hB _ (line_sub hm hf2)
    have ht := g_turn b0 b1 (hB p hp)
    have hbd := turn_bd b0 b1 (hB p hp)
    generalize ho : first m = o at *
    generalize hq : second m = q at *
    generalize htt : turn o q p = t at *
    refine ⟨some (false, .int t), some (false, .int (sq o q)), ?_⟩
    rw [if_true (e1.trans (by simp [h])), if_neg h]
    have s0 : ∀ x9 x10, subC (bC 8) (cC (.int 0)) (sQ S P acc x2 (some (false, P2D p)) x7 (some (false, ptsD m)) x9 x10) = some (P2D o) := fun _ _ => (sub_of rfl rfl).trans i0
    have s1 : ∀ x9 x10, subC (bC 8) (cC (.int 1)) (sQ S P acc x2 (some (false, P2D p)) x7 (some (false, ptsD m)) x9 x10) = some (P2D q) := fun _ _ => (sub_of rfl rfl).trans i1
    have e2 : setC 9 (callC g__law_turn [(subC (bC 8) (cC (.int 0))), (subC (bC 8) (cC (.int 1))), (vC 3)]) (sQ S P acc x2 (some (false, P2D p)) x7 (some (false, ptsD m)) x9 x10) = some (.next, sQ S P acc x2 (some (false, P2D p)) x7 (some (false, ptsD m)) (some (false, .int t)) x10) :=
      set_of ((call_of (as_cons (s0 _ _) (as_cons (s1 _ _) (as_cons rfl rfl)))).trans ht)
    have e3 : setC 10 (opC .Add (opC .Pow (opC .Sub (subC (subC (bC 8) (cC (.int 1))) (cC (.int 0))) (subC (subC (bC 8) (cC (.int 0))) (cC (.int 0)))) (cC (.int 2))) (opC .Pow (opC .Sub (subC (subC (bC 8) (cC (.int 1))) (cC (.int 1))) (subC (subC (bC 8) (cC (.int 0))) (cC (.int 1)))) (cC (.int 2)))) (sQ S P acc x2 (some (false, P2D p)) x7 (some (false, ptsD m)) (some (false, .int t)) x10) = some (.next, sQ S P acc x2 (some (false, P2D p)) x7 (some (false, ptsD m)) (some (false, .int t)) (some (false, .int (sq o q)))) := by
      refine set_of ((op_of ((op_of (a := .int (q.1 - o.1)) ((op_of ((sub_of (s1 _ _) rfl).trans rfl) ((sub_of (s0 _ _) rfl).trans rfl)).trans rfl) rfl).trans (bin_pow2 (small_of ?_ ?_))) ((op_of (a := .int (q.2 - o.2)) ((op_of ((sub_of (s1 _ _) rfl).trans rfl) ((sub_of (s0 _ _) rfl).trans rfl)).trans rfl) rfl).trans (bin_pow2 (small_of ?_ ?_)))).trans rfl) <;> (unfold InB at *; omega)
    rw [seq_next e2, seq_next e3]
    have e4 : tupC [(opC .Mult (bC 9) (bC 9)), (vC 10), (vC 3), (vC 8)] (sQ S P acc x2 (some (false, P2D p)) x7 (some (false, ptsD m)) (some (false, .int t)) (some (false, .int (sq o q)))) = some (enD (entry m p)) := by
      refine (tup_of (as_cons ((op_of rfl rfl).trans (bin_mul (small_of (by omega) (by omega)))) (as_cons rfl (as_cons rfl (as_cons rfl rfl)))) rfl).trans ?_
      unfold enD entry
      rw [ho, hq, htt]
    have e5 : appC 6 (tupC [(opC .Mult (bC 9) (bC 9)), (vC 10), (vC 3), (vC 8)]) (sQ S P acc x2 (some (false, P2D p)) x7 (some (false, ptsD m)) (some (false, .int t)) (some (false, .int (sq o q)))) = (match tupC [(opC .Mult (bC 9) (bC 9)), (vC 10), (vC 3), (vC 8)] (sQ S P acc x2 (some (false, P2D p)) x7 (some (false, ptsD m)) (some (false, .int t)) (some (false, .int (sq o q)))) with
      | some x => if (acc.map enD).length ≤ 1048576 then some (.next, (sQ S P acc x2 (some (false, P2D p)) x7 (some (false, ptsD m)) (some (false, .int t)) (some (false, .int (sq o q)))).set 6 (some (true, .list (acc.map enD ++ [x])))) else none
      | none => none) := rfl
    rw [e5, e4]
    simp only
    rw [if_pos (by rw [List.length_map]; omega)]
    have : (acc ++ [entry m p]).map enD = acc.map enD ++ [enD (entry m p)] := by simp
    unfold sQ
    rw [this]; rfl
end M2
set_option maxRecDepth 100000
/-! law 2: the law's text, piece by piece, 3, and the plain law -/
namespace M2
open PySem PySem.SeqAt Ev L2
theorem loopQ {P : List Pt} (hP : Srt P) (hB : ∀ p ∈ P, InB p) (h7 : P.length ≤ 7) (S : PyData) {m : List Pt} (hm : m ∈ lines P) : ∀ (r : List Pt) (acc : List En) (x2 x3 x7 x9 x10 : Option (Bool × PyData)), (∀ p ∈ r, p ∈ P) → acc.length + r.length ≤ 1000 →
    ∃ x3' x9' x10', loopC (tg1 3) bodyQ (r.map P2D) (sQ S P acc x2 x3 x7 (some (false, ptsD m)) x9 x10) = some (.next, sQ S P (acc ++ (r.filter fun p => !decide (p ∈ m)).map (entry m)) x2 x3' x7 (some (false, ptsD m)) x9' x10') := by
  intro r
  induction r with
  | nil => intro acc x2 x3 x7 x9 x10 _ _; exact ⟨x3, x9, x10, by rw [List.filter_nil, List.map_nil, List.map_nil, List.append_nil]; rfl⟩
  | cons p r ih =>
    intro acc x2 x3 x7 x9 x10 h1 h2
    rw [List.length_cons] at h2
    obtain ⟨y9, y10, hb⟩ := bodyQ_eq hP hB h7 S hm (h1 p (by simp)) acc (by omega) x2 x7 x9 x10
    obtain ⟨x3', x9', x10', h⟩ := ih (acc ++ if p ∈ m then [] else [entry m p]) x2 (some (false, P2D p)) x7 y9 y10 (fun q hq => h1 q (by simp [hq])) (by rw [List.length_append]; split <;> simp <;> omega)
    refine ⟨x3', x9', x10', ?_⟩
    rw [List.map_cons, loop_cons (σ' := sQ S P acc x2 (some (false, P2D p)) x7 (some (false, ptsD m)) x9 x10) rfl hb, h]
    by_cases hpm : p ∈ m
    · rw [if_pos hpm, List.filter_cons_of_neg (by simp [hpm]), List.append_nil]
    · rw [if_neg hpm, List.filter_cons_of_pos (by simp [hpm]), List.map_cons, List.append_assoc]; rfl
theorem bodyR_eq {P : List Pt} (hP : Srt P) (hB : ∀ p ∈ P, InB p) (h7 : P.length ≤ 7) (S : PyData) {m : List Pt} (hm : m ∈ lines P) (acc : List En) (ha : acc.length ≤ 900) (x2 x3 x8 x9 x10 : Option (Bool × PyData)) :
    ∃ x3' x8' x9' x10', bodyR (sQ S P acc x2 x3 (some (false, tabD m)) x8 x9 x10) = some (.next, sQ S P (acc ++ (P.filter fun p => !decide (p ∈ m)).map (entry m)) x2 x3' (some (false, tabD m)) x8' x9' x10') := by
  have hl := line_len hm
  have h1 : turnsC (tg1 0) [] (eltC (subC (bC 0) (cC (.int 1)))) ((m.map keyD)) [none] = some (m.map P2D) :=
    turns_map (st := fun p => [some (false, keyD p)]) m fun p hp => ⟨rfl, elt_of ((sub_of rfl rfl).trans rfl)⟩
  have h2 : keysC (vC 7) (sQ S P acc x2 x3 (some (false, tabD m)) x8 x9 x10) = some (m.map keyD) := by
    have : keysC (vC 7) (sQ S P acc x2 x3 (some (false, tabD m)) x8 x9 x10) = some ((m.map kvD).map (·.1)) := rfl
    rw [this, List.map_map]; rfl
  have e1 : setC 8 (callC sortG [(compC 1 [] (keysC (vC 7)) (lpC [0] (tg1 0) [] (eltC (subC (bC 0) (cC (.int 1))))))]) (sQ S P acc x2 x3 (some (false, tabD m)) x8 x9 x10) = some (.next, sQ S P acc x2 x3 (some (false, tabD m)) (some (false, ptsD m)) x9 x10) :=
    set_of ((call_of (as_cons (comp_of h2 h1 (by rw [List.length_map]; omega)) rfl)).trans (sort_pts (line_srt hP hm) (by omega)))
  obtain ⟨x3', x9', x10', h⟩ := loopQ hP hB h7 S hm P acc x2 x3 (some (false, tabD m)) x9 x10 (fun _ h => h) (by omega)
  refine ⟨x3', some (false, ptsD m), x9', x10', ?_⟩
  unfold bodyR
  rw [seq_next e1]
  exact (for_of rfl).trans h
theorem loopR {P : List Pt} (hP : Srt P) (hB : ∀ p ∈ P, InB p) (h7 : P.length ≤ 7) (S : PyData) : ∀ (ls : List (List Pt)) (acc : List En) (x2 x3 x7 x8 x9 x10 : Option (Bool × PyData)), (∀ m ∈ ls, m ∈ lines P) → acc.length + 7 * ls.length ≤ 900 →
    ∃ x3' x7' x8' x9' x10', loopC (tg1 7) bodyR (ls.map tabD) (sQ S P acc x2 x3 x7 x8 x9 x10) = some (.next, sQ S P (acc ++ ls.flatMap fun m => (P.filter fun p => !decide (p ∈ m)).map (entry m)) x2 x3' x7' x8' x9' x10') := by
  intro ls
  induction ls with
  | nil => intro acc x2 x3 x7 x8 x9 x10 _ _; exact ⟨x3, x7, x8, x9, x10, by rw [List.flatMap_nil, List.append_nil]; rfl⟩
  | cons m r ih =>
    intro acc x2 x3 x7 x8 x9 x10 h1 h2
    rw [List.length_cons] at h2
    obtain ⟨y3, y8, y9, y10, hb⟩ := bodyR_eq hP hB h7 S (h1 m (by simp)) acc (by omega) x2 x3 x8 x9 x10
    have hl := List.length_filter_le (fun p => !decide (p ∈ m)) P
    obtain ⟨x3', x7', x8', x9', x10', h⟩ := ih (acc ++ (P.filter fun p => !decide (p ∈ m)).map (entry m)) x2 y3 (some (false, tabD m)) y8 y9 y10 (fun q hq => h1 q (by simp [hq])) (by rw [List.length_append, List.length_map]; omega)
    refine ⟨x3', x7', x8', x9', x10', ?_⟩
    rw [List.map_cons, loop_cons (σ' := sQ S P acc x2 x3 (some (false, tabD m)) x8 x9 x10) rfl hb, h, List.flatMap_cons, List.append_assoc]
theorem c78_eq {P : List Pt} (hP : Srt P) (hB : ∀ p ∈ P, InB p) (h7 : P.length ≤ 7) (S : PyData) (x2 x3 : Option (Bool × PyData)) :
    c7 (s3 S P x2 x3) = some (.next, sQ S P [] x2 x3 none none none none) ∧ ∃ x3' x7' x8' x9' x10', c8 (sQ S P [] x2 x3 none none none none) = some (.next, sQ S P (near P) x2 x3' x7' x8' x9' x10') := by
  refine ⟨rfl, ?_⟩
  obtain ⟨x3', x7', x8', x9', x10', h⟩ := loopR hP hB h7 S (lines P) [] x2 x3 none none none none (fun _ h => h) (by have := lines_len h7; simp; omega)
  exact ⟨x3', x7', x8', x9', x10', (for_of rfl).trans h⟩
/-! the nearest -/
theorem near_bd {P : List Pt} (hP : Srt P) (hB : ∀ p ∈ P, InB p) {e : En} (he : e ∈ near P) : 0 ≤ e.1 ∧ e.1 ≤ 1024 := by
  obtain ⟨m, hm, p, hp, _, rfl⟩ := mem_near.mp he
  obtain ⟨_, hf1, hf2⟩ := fs_line hP hm
  have := turn_bd (hB _ (line_sub hm hf1)) (hB _ (line_sub hm hf2)) (hB p hp)
  show 0 ≤ turn (first m) (second m) p * turn (first m) (second m) p ∧ turn (first m) (second m) p * turn (first m) (second m) p ≤ 1024
  generalize turn (first m) (second m) p = t at *
  constructor
  · rcases Int.le_total 0 t with h | h
    · exact Int.mul_nonneg h h
    · exact Int.mul_nonneg_of_nonpos_of_nonpos h h
  · have h1 : t * t ≤ 32 * 32 := by
      rcases Int.le_total 0 t with h | h
      · exact Int.mul_le_mul this.2 this.2 h (by decide)
      · have : (-t) * (-t) ≤ 32 * 32 := Int.mul_le_mul (by omega) (by omega) (by omega) (by decide)
        rw [Int.neg_mul_neg] at this; exact this
    exact h1
noncomputable abbrev sN (S : PyData) (P : List Pt) (nr : List En) (b : En) (x2 x3 x7 x8 x9 x10 x12 : Option (Bool × PyData)) : Ev.St := s2 S P x2 x3 (some (false, .list (nr.map enD))) x7 x8 x9 x10 (some (false, enD b)) x12
theorem loopM {P : List Pt} (hP : Srt P) (hB : ∀ p ∈ P, InB p) (S : PyData) (nr : List En) (x2 x3 x7 x8 x9 x10 : Option (Bool × PyData)) : ∀ (r : List En) (b : En) (x12 : Option (Bool × PyData)), (∀ e ∈ b :: r, e ∈ near P) →
    ∃ x12', loopC (tg1 12) bodyM (r.map enD) (sN S P nr b x2 x3 x7 x8 x9 x10 x12) = some (.next, sN S P nr (r.foldl step b) x2 x3 x7 x8 x9 x10 x12') := by
  intro r
  induction r with
  | nil => intro b x12 _; exact ⟨x12, rfl⟩
  | cons o r ih =>
    intro b x12 h
    have ho := near_bd hP hB (h o (by simp))
    have hb := near_bd hP hB (h b (by simp))
    have e1 : cmC .Lt (opC .Mult (subC (bC 12) (cC (.int 0))) (subC (bC 11) (cC (.int 1)))) (opC .Mult (subC (bC 11) (cC (.int 0))) (subC (bC 12) (cC (.int 1)))) (sN S P nr b x2 x3 x7 x8 x9 x10 (some (false, enD o))) = some (decide (o.1 * b.2.1 < b.1 * o.2.1)) :=
      (cm_of ((op_of (a := .int o.1) (b := .int b.2.1) ((sub_of rfl rfl).trans rfl) ((sub_of rfl rfl).trans rfl)).trans (bin_mul (small_of (by omega) (by omega)))) ((op_of (a := .int b.1) (b := .int o.2.1) ((sub_of rfl rfl).trans rfl) ((sub_of rfl rfl).trans rfl)).trans (bin_mul (small_of (by omega) (by omega))))).trans (cmp_lti _ _)
    have hbody : bodyM (sN S P nr b x2 x3 x7 x8 x9 x10 (some (false, enD o))) = some (.next, sN S P nr (step b o) x2 x3 x7 x8 x9 x10 (some (false, enD o))) := by
      unfold bodyM
      by_cases hc : o.1 * b.2.1 < b.1 * o.2.1
      · have : step b o = o := by unfold step; rw [if_pos hc]
        rw [this]
        refine set_of (a := enD o) ?_
        unfold ifC; rw [e1, decide_eq_true hc]; rfl
      · have : step b o = b := by unfold step; rw [if_neg hc]
        rw [this]
        refine set_of (a := enD b) ?_
        unfold ifC; rw [e1, decide_eq_false hc]; rfl
    have hs : step b o ∈ near P := by unfold step; split; exact h o (by simp); exact h b (by simp)
    obtain ⟨x12', hl⟩ := ih (step b o) (some (false, enD o)) fun e he => by
      rcases List.mem_cons.mp he with rfl | he
      · exact hs
      · exact h e (by simp [he])
    exact ⟨x12', by rw [List.map_cons, loop_cons (σ' := sN S P nr b x2 x3 x7 x8 x9 x10 (some (false, enD o))) rfl hbody, hl]; rfl⟩
theorem near_some {P : List Pt} (hP : Srt P) (h2 : 2 ≤ (lines P).length) : ∃ e r, near P = e :: r := by
  obtain ⟨m, hm⟩ : ∃ m, m ∈ lines P := by
    generalize lines P = l at h2
    cases l with
    | nil => simp at h2
    | cons m r => exact ⟨m, by simp⟩
  obtain ⟨p, hp, hpm⟩ := off_line hP h2 hm
  have := mem_near.mpr ⟨m, hm, p, hp, hpm, rfl⟩
  generalize near P = l at this
  cases l with
  | nil => cases this
  | cons e r => exact ⟨e, r, rfl⟩
theorem rest_eq {P : List Pt} (hP : Srt P) (hB : ∀ p ∈ P, InB p) (h7 : P.length ≤ 7) (h2 : 2 ≤ (lines P).length) (S : PyData) (x2 x3 x7 x8 x9 x10 : Option (Bool × PyData)) :
    ∃ σ, seqC2 c9 (seqC2 c10 c11) (sQ S P (near P) x2 x3 x7 x8 x9 x10) = some (.ret (.bool true), σ) := by
  obtain ⟨e, r, hn⟩ := near_some hP h2
  obtain ⟨x12, hl⟩ := loopM hP hB S (near P) x2 x3 x7 x8 x9 x10 (near P) e none fun o ho => by
    rcases List.mem_cons.mp ho with rfl | h
    · rw [hn]; simp
    · exact h
  obtain ⟨hb, hbm⟩ := best_two hP hn
  have e9 : c9 (sQ S P (near P) x2 x3 x7 x8 x9 x10) = some (.next, sN S P (near P) e x2 x3 x7 x8 x9 x10 none) := by
    unfold c9
    rw [free_of (d := .list ((near P).map enD)) rfl]
    have : subC (bC 6) (cC (.int 0)) ((sQ S P (near P) x2 x3 x7 x8 x9 x10).set 6 (some (false, .list ((near P).map enD)))) = ((near P).map enD)[0]? := rfl
    refine (set_of (a := enD e) ?_).trans rfl
    rw [this, hn]; rfl
  generalize hg : List.foldl step e (near P) = g at *
  refine ⟨sN S P (near P) g x2 x3 x7 x8 x9 x10 x12, ?_⟩
  have e10 : c10 (sN S P (near P) e x2 x3 x7 x8 x9 x10 none) = some (.next, sN S P (near P) g x2 x3 x7 x8 x9 x10 x12) := (for_of rfl).trans hl
  rw [seq_next e9, seq_next e10]
  have hlen : g.2.2.2.length ≤ 7 := by omega
  unfold c11
  refine ret_of (ofB_of ((cm_of ((call_of (as_cons (a := ptsD g.2.2.2) ((sub_of rfl rfl).trans rfl) rfl)).trans (len_pts hlen)) rfl).trans ((cmp_eqi _ _).trans ?_)))
  rw [hb]; rfl
theorem one_line {P : List Pt} (hP : Srt P) {m : List Pt} (h : lines P = [m]) : m.length = P.length := by
  have hm : m ∈ lines P := by rw [h]; simp
  rw [len_line hm, sm_congr (g := fun _ => 1), sm_const, Nat.mul_one]
  intro x hx
  have : x ∈ m := by
    obtain ⟨y, hy, hyx⟩ := other hP hm x
    obtain ⟨l, hl, hxl, _⟩ := some_line hP hx (line_sub hm hy) (Ne.symm hyx)
    rw [h] at hl
    rw [← List.mem_singleton.mp hl]; exact hxl
  simp [inc, this, ind_t]
theorem lines_pos {P : List Pt} (hP : Srt P) (h2 : 2 ≤ P.length) : lines P ≠ [] := by
  intro h
  match P, hP, h2, h with
  | a :: b :: r, hP, _, h =>
    obtain ⟨m, hm, _⟩ := some_line hP (a := a) (b := b) (by simp) (by simp) (lt_ne ((List.pairwise_cons.mp hP).1 b (by simp)))
    rw [h] at hm; cases hm
theorem plain (is : List Int) (h63 : is.length ≤ 63) : resT (F_law (stOf [(false, .list (is.map .int))] 12)) = true := by
  obtain ⟨P, x2, x3, hP, hB, h7, hl⟩ := loopP (.list (is.map .int)) (is.take 7) [] none none List.Pairwise.nil (fun _ h => nomatch h) (by simp; omega)
  generalize hS : PyData.list (is.map .int) = S at *
  have e0 : c0 (stOf [(false, S)] 12) = some (.next, st1 S true [] none none) := rfl
  have e1 : c1 (st1 S true [] none none) = some (.next, st1 S true P x2 x3) := by
    refine (for_of (ds := (is.take 7).map .int) ?_).trans hl
    rw [← hS, List.map_take]
    have : seqC (takeC (bC 0) 7) (st1 (.list (is.map .int)) true [] none none) = (match (if okLen (is.map PyData.int) then some (PyData.list ((is.map PyData.int).take 7)) else none) with | some d => seqD d | none => none) := rfl
    rw [this, if_pos (by simp [okLen]; omega)]; rfl
  have key : ∃ σ, F_law (stOf [(false, S)] 12) = some (.ret (.bool true), σ) := by
    rw [F_law_eq, seq_next e0, seq_next e1, seq_next (c2_eq hP h7 S x2 x3), seq_next (c3_eq hP hB h7 S x2 x3), seq_next (c4_eq hP h7 S x2 x3)]
    by_cases h : P.length < 2 ∨ (lines P).length = 1
    · obtain ⟨σ, e⟩ := c5_ret h7 S x2 x3 h fun m _ hm => one_line hP hm
      exact ⟨σ, seq_ret e⟩
    · have h2 : 2 ≤ P.length := by omega
      have h3 : 2 ≤ (lines P).length := by
        have := lines_pos hP h2
        have : (lines P).length ≠ 0 := fun e => this (List.length_eq_zero_iff.mp e)
        omega
      have hk : ∃ m ∈ lines P, m.length = 2 := by
        obtain ⟨e, r, hn⟩ := near_some hP h3
        obtain ⟨hb, hbm⟩ := best_two hP hn
        obtain ⟨m, hm, p, _, _, hE⟩ := mem_near.mp hbm
        rw [hE] at hb
        exact ⟨m, hm, hb⟩
      obtain ⟨e7, y3, y7, y8, y9, y10, e8⟩ := c78_eq hP hB h7 S x2 x3
      rw [seq_next (c5_next h7 S x2 x3 h2 (by omega)), seq_next (c6_next h7 S x2 x3 hk (no_fewer hP h7 h3)), seq_next e7, seq_next e8]
      exact rest_eq hP hB h7 h3 S x2 y3 y7 y8 y9 y10
  obtain ⟨σ, e⟩ := key
  rw [e]; rfl
end M2
open PySem PySem.W PyProof.Rows
set_option maxRecDepth 100000 in
set_option maxHeartbeats 8000000 in
theorem PySem.Challenge.cw_gl0003_02_holds : PySem.Challenge.rw_gl0003_02.Holds := by
  w_on; o_law; k_head; (case hw => w_witness2)
  intro w s₀ s₁ mg mb G Y fa o pm cd doc dV kV ho hd hcd hD hmg hg args vals as hpre hlay hrd hwl hlo
  have KX := kIn_of Y
  refine Ground.open G ?_
  intro T B D TE TW
  wrow_args hpre hlay hrd hwl hlo
  all_goals (first | refine callC_kw (enter_call ?_) | refine enter_call ?_ | refine callC_kw (enter_callW ?_) | refine enter_callW ?_)
  all_goals (w_top on)
  all_goals try refine codeAny_mono ?_ (fun _ _ g => GoodW.toG g)
  rename_i is hs hlay0 hL1 hr1 hl2 wa wb l vs wc hL ra w1 r0 hI hr hc1 hc2
  have hlen : is.length ≤ 63 := by
    omega
  clear hcd hD hd ho hL G Y B D TE TW hI ra r0
  have hfa : mg "law" = some (.ref fa) := hmg
  clear hmg
  obtain ⟨vs', hl, hI⟩ := Ev.well_ints w1
  · skip
    have ok : Ev.Cx.Ok { prog := PySem.Challenge.rw_gl0003_02.row.prog, w := w, h₀ := s₁.heap, H := Ev.hashK w, names := [], mg := mg, mb := mb, pin := none } := ⟨T.g, T.b, T.nolimit, fun _ => rfl⟩
    have bi : ∀ {x : PySem.Str} {v : Value}, x ≠ "__name__" → Ev.globK _ x = some none → bootBuiltins x = some v → Ev.Cx.Bi { prog := PySem.Challenge.rw_gl0003_02.row.prog, w := w, h₀ := s₁.heap, H := Ev.hashK w, names := [], mg := mg, mb := mb, pin := none } x v := fun hx e1 e2 => ⟨Ev.glob_of KX T.g e1, (T.builtins _ hx).trans e2⟩
    have W : L2.Wd { prog := PySem.Challenge.rw_gl0003_02.row.prog, w := w, h₀ := s₁.heap, H := Ev.hashK w, names := [], mg := mg, mb := mb, pin := none } := {
      ok := ok
      b_len := bi (by decide) rfl (by decide +kernel)
      b_sum := bi (by decide) rfl (by decide +kernel)
      b_sorted := bi (by decide) rfl (by decide +kernel)
      b_isinstance := bi (by decide) rfl (by decide +kernel)
      b_tuple := bi (by decide) rfl (by decide +kernel)
      b_range := bi (by decide) rfl (by decide +kernel)
      b_int := bi (by decide) rfl (by decide +kernel)
      a_insort_left := _
      fd_insort_left := _
      g_insort_left := Ev.glob_of KX T.g rfl
      d_insort_left := Ev.DefAt.ofK KX rfl rfl rfl rfl rfl rfl rfl rfl
      s_insort_left := rfl
      i_insort_left := { tk := _, b2 := fun hk v w => Ev.binds_of KX hk rfl rfl rfl (by with_unfolding_all rfl) (by rfl) (by with_unfolding_all rfl) (by with_unfolding_all rfl) (by with_unfolding_all rfl), b4 := fun hk v w u z => Ev.binds_of KX hk rfl rfl rfl (by with_unfolding_all rfl) (by rfl) (by with_unfolding_all rfl) (by with_unfolding_all rfl) (by with_unfolding_all rfl) }
      a_bisect_left := _
      fd_bisect_left := _
      g_bisect_left := Ev.glob_of KX T.g rfl
      d_bisect_left := Ev.DefAt.ofK KX rfl rfl rfl rfl rfl rfl rfl rfl
      s_bisect_left := rfl
      i_bisect_left := { tk := _, b2 := fun hk v w => Ev.binds_of KX hk rfl rfl rfl (by with_unfolding_all rfl) (by rfl) (by with_unfolding_all rfl) (by with_unfolding_all rfl) (by with_unfolding_all rfl), b4 := fun hk v w u z => Ev.binds_of KX hk rfl rfl rfl (by with_unfolding_all rfl) (by rfl) (by with_unfolding_all rfl) (by with_unfolding_all rfl) (by with_unfolding_all rfl) }
      a_add_callers := _
      pm_add_callers := _
      cd_add_callers := _
      doc_add_callers := _
      g_add_callers := Ev.glob_of KX T.g rfl
      d_add_callers := Ev.DefAt.ofK KX rfl rfl rfl rfl rfl rfl rfl rfl
      a_count_calls := _
      pm_count_calls := _
      cd_count_calls := _
      doc_count_calls := _
      g_count_calls := Ev.glob_of KX T.g rfl
      d_count_calls := Ev.DefAt.ofK KX rfl rfl rfl rfl rfl rfl rfl rfl
      a__law_turn := _
      pm__law_turn := _
      cd__law_turn := _
      doc__law_turn := _
      g__law_turn := Ev.glob_of KX T.g rfl
      d__law_turn := Ev.DefAt.ofK KX rfl rfl rfl rfl rfl rfl rfl rfl
      a__law_lines := _
      pm__law_lines := _
      cd__law_lines := _
      doc__law_lines := _
      g__law_lines := Ev.glob_of KX T.g rfl
      d__law_lines := Ev.DefAt.ofK KX rfl rfl rfl rfl rfl rfl rfl rfl
    }
    have hlaw : mg "law" = some (.ref _) := Ev.glob_of KX T.g rfl
    rw [hfa] at hlaw
    cases hlaw
    refine codeAny_mono (Ev.law_main (n := 20) (names := L2.N_law) (rest := L2.N_law.drop 1) (x := "script") (f := L2.F_law) (k := 12) (Ev.DefAt.ofK KX rfl rfl rfl rfl rfl rfl rfl rfl) ok rfl (fun v => BindsTo.of_eq rfl) rfl rfl rfl (L2.S_law W) ⟨by decide, by decide, rfl⟩ hl hI (M2.plain is hlen)) fun r s' q => ?_
    exact ⟨.inl ⟨.bool true, .bool true, [], q.1, fun _ => rfl, .bool true, by kernel_rfl, fun _ => ⟨List.nodup_nil, fun _ h => nomatch h⟩⟩, q.2.1, q.2.2.1, q.2.2.2.trans hg⟩
