import PyProof.Rows.All
import Wide.All
import OpenK.AllK
import Wide.FinOn
import PySem.Challenge.RW_kp0043_05
open PySem PySem.W PySem.Calls PyProof.Rows
set_option Elab.async false
set_option maxRecDepth 100000
set_option linter.unusedVariables false
set_option linter.unusedSimpArgs false
set_option tactic.hygienic false
set_option genSizeOf false
namespace Mine
theorem hideG {G : Prop} (h : ∀ G' : Prop, (G → G') → G') : G := h G id
end Mine
namespace Mine
set_option genSizeOfSpec false in
inductive V where
  | none | bool (b : Bool) | int (i : Int) | str (x : Str) (t : Tok) | ref (a : Addr) | ty (n : String) | bi (i : String) | other
noncomputable def er : Value → V
  | .none => .none
  | .bool b => .bool b
  | .int i _ => .int i
  | .str x t => .str x t
  | .ref a => .ref a
  | .type n => .ty n
  | .builtin i => .bi i
  | _ => .other
theorem er_none {v : Value} (h : er v = .none) : v = .none := by cases v <;> first | rfl | cases h
theorem er_bool {v : Value} {b : Bool} (h : er v = .bool b) : v = .bool b := by cases v <;> first | (cases h; done) | (cases h; exact rfl)
theorem er_int {v : Value} {i : Int} (h : er v = .int i) : ∃ t, v = .int i t := by cases v <;> first | (cases h; done) | (cases h; exact ⟨_, rfl⟩)
theorem er_str {v : Value} {x : Str} {t : Tok} (h : er v = .str x t) : v = .str x t := by cases v <;> first | (cases h; done) | (cases h; exact rfl)
theorem er_ref {v : Value} {a : Addr} (h : er v = .ref a) : v = .ref a := by cases v <;> first | (cases h; done) | (cases h; exact rfl)
theorem er_ty {v : Value} {n : String} (h : er v = .ty n) : v = .type n := by cases v <;> first | (cases h; done) | (cases h; exact rfl)
theorem er_bi {v : Value} {n : String} (h : er v = .bi n) : v = .builtin n := by cases v <;> first | (cases h; done) | (cases h; exact rfl)
noncomputable abbrev Key := Int ⊕ Str
noncomputable def isKV : Key → V → Bool
  | .inl i, .int j => i == j
  | .inr x, .str y _ => x == y
  | _, _ => false
noncomputable def isKey : Key → Value → Bool
  | .inl i, v => Value.isInt i v
  | .inr x, v => Value.isStrOf x v
theorem isKey_er {k : Key} {v : Value} : isKey k v = isKV k (er v) := by
  cases k <;> cases v <;> first | rfl | exact Bool.beq_comm
theorem isKV_inj {a b : Key} {v : V} (ha : isKV a v = true) (hb : isKV b v = true) : a = b := by
  cases a <;> cases b <;> cases v <;> first | (cases ha; done) | (cases hb; done) | exact congrArg _ ((eq_of_beq ha).trans (eq_of_beq hb).symm)
theorem isKVs {x : Str} {t : Tok} : isKV (.inr x) (.str x t) = true := beq_self_eq_true x
theorem eqBool_key {prog : Program} {w : World} {A : Around} {E : Value → Shared → Prop} {s : Shared} {a b : Key} {u v : Value} {Q : Bool → Shared → Prop} (hu : isKey a u = true) (hv : isKey b v = true) (h : Q (decide (a = b)) s) :
    wpAny (model prog w) A (PySem.eqBool u v) Q E s := by
  cases a with
  | inl i =>
    obtain ⟨t, rfl⟩ := Value.isInt_shape hu
    cases b with
    | inl j =>
      obtain ⟨t', rfl⟩ := Value.isInt_shape hv
      have e : (i == j) = decide ((Sum.inl i : Key) = Sum.inl j) := by by_cases hij : i = j <;> simp [hij]
      exact wpAny_eqBool_int (e ▸ h)
    | inr y =>
      obtain ⟨t', rfl⟩ := Value.isStrOf_shape hv
      unfold PySem.eqBool
      rw [if_neg (by intro q; cases (eq_of_beq q))]
      exact wpAny_bind (EqMixed.eq_int_str (wpAny_truthy_bool (by simpa using h)))
  | inr x =>
    obtain ⟨t, rfl⟩ := Value.isStrOf_shape hu
    cases b with
    | inl j =>
      obtain ⟨t', rfl⟩ := Value.isInt_shape hv
      unfold PySem.eqBool
      rw [if_neg (by intro q; cases (eq_of_beq q))]
      exact wpAny_bind (EqMixed.eq_str_int (wpAny_truthy_bool (by simpa using h)))
    | inr y =>
      obtain ⟨t', rfl⟩ := Value.isStrOf_shape hv
      have e : decide (x = y) = decide ((Sum.inr x : Key) = Sum.inr y) := by by_cases hxy : x = y <;> simp [hxy]
      exact wpAny_eqBool_str (e ▸ h)
noncomputable def hashKey (w : World) : Key → Int
  | .inl i => hashInt i
  | .inr x => hashStr w x
theorem pyHash_key {prog : Program} {w : World} {A : Around} {E : Value → Shared → Prop} {s : Shared} {k : Key} {v : Value} {Q : Int → Shared → Prop} (hv : isKey k v = true) (h : Q (hashKey w k) { s with toks := s.toks + 1 }) :
    wpAny (model prog w) A (PySem.pyHash v) Q E s := by
  cases k with
  | inl i => obtain ⟨t, rfl⟩ := Value.isInt_shape hv; exact wpAny_pyHash_int h
  | inr x => obtain ⟨t, rfl⟩ := Value.isStrOf_shape hv; exact wpAny_pyHash_str h
noncomputable def mix (prog : Program) (w : World) : KeyKind prog w Key where
  is := isKey
  hash := hashKey w
  inj := fun v a b ha hb => isKV_inj (isKey_er ▸ ha) (isKey_er ▸ hb)
  byValue := fun k v h => by
    cases k with
    | inl i => obtain ⟨t, rfl⟩ := Value.isInt_shape h; rfl
    | inr x => obtain ⟨t, rfl⟩ := Value.isStrOf_shape h; rfl
  pyHash := pyHash_key
  eqBool := eqBool_key
  «strs» := fun k x t v h => by
    cases k with
    | inl i => simp [isKey, Value.isInt] at h
    | inr y =>
      have h' : Value.isStrOf y (.str x t) = true := h
      obtain ⟨u, hu⟩ := Value.isStrOf_shape h'
      injection hu with hx
      subst hx
      cases v <;> rfl
set_option genSizeOfSpec false in
inductive AObj where
  | list (xs : List V)
  | tup (xs : List V)
  | dict (kvs : List (Key × V)) (ep : Nat)
  | inst (C dx : Addr)
  | attrs (v : V)
  | attrs0
  | range (lo hi st : Int)
  | exc (cls : String) (args : Option Addr)
  | vals (d : Addr)
  | raw (ob : Obj)
noncomputable abbrev AHeap := Addr → Option AObj
noncomputable abbrev Loc := Str → Option V
noncomputable abbrev BMap := Addr → Option (Obj × Bool)
noncomputable def upd {β : Type} (f : Addr → Option β) (a : Addr) (x : β) : Addr → Option β := fun b => if b = a then some x else f b
noncomputable def setL (m : Loc) (x : Str) (v : V) : Loc := fun y => if y = x then some v else m y
theorem upd_same {β : Type} {f : Addr → Option β} {a : Addr} {x : β} : upd f a x a = some x := by simp [upd]
theorem upd_ne {β : Type} {f : Addr → Option β} {a b : Addr} {x y : β} (h : b ≠ a) (e : f b = some y) : upd f a x b = some y := by simp [upd, h, e]
theorem upd_fresh {β : Type} {f : Addr → Option β} {a b : Addr} {x y : β} (h : f a = none) (e : f b = some y) : upd f a x b = some y :=
  upd_ne (fun q => by rw [q, h] at e; cases e) e
theorem upd_some {β : Type} {f : Addr → Option β} {a b : Addr} {x y : β} (e : upd f a x b = some y) : (b = a ∧ x = y) ∨ (b ≠ a ∧ f b = some y) := by
  unfold upd at e
  split at e
  · rename_i h; exact .inl ⟨h, Option.some.inj e⟩
  · rename_i h; exact .inr ⟨h, e⟩
theorem setL_same {m : Loc} {x : Str} {v : V} : setL m x v x = some v := by simp [setL]
theorem setL_ne {m : Loc} {x y : Str} {v u : V} (h : y ≠ x) (e : m y = some u) : setL m x v y = some u := by simp [setL, h, e]
set_option genInjectivity false in
set_option genSizeOfSpec false in
structure Cx where
  prog : Program
  w : World
  base : Heap
  K : Frag
  p : Program
  loose : List Str
  mean : ExcName → Option Value
  mg : Str → Option Value
  mb : Str → Option Value
  os : OsState
  inK : K.In base
  top : Top p loose mean mg mb base
noncomputable def IsObj (c : Cx) (ob : Obj) : AObj → Prop
  | .list xs => ∃ vs n, ob = { cls := .type "list", data := .seq (vs : List Value).toArray n } ∧ vs.map er = xs
  | .tup xs => ∃ vs n, ob = { cls := .type "tuple", data := .seq (vs : List Value).toArray n } ∧ vs.map er = xs
  | .dict kvs ep => ob.ExactDict ∧ ∃ es, ob.data = .dict es ep ∧ KeysOf (mix c.prog c.w) es ∧ ∃ rvs, Pairs (mix c.prog c.w) es.toList rvs ∧ (rvs.map (·.1)).Nodup ∧ rvs.map (fun kv => (kv.1, er kv.2)) = kvs
  | .inst C dx => ob = instObj C dx
  | .attrs v => ∃ n t u, ob = dictOf [⟨PyData.keyHash c.w.params ("dict" : Str), .str ("dict" : Str) t, u⟩] n ∧ er u = v
  | .attrs0 => ob = dictOf [] 0
  | .range lo hi st => ∃ a b d, ob = { cls := .type "range", data := .fields #[.int lo a, .int hi b, .int st d] }
  | .exc cls args => cls ≠ "tuple" ∧ ob.cls = .type cls ∧ ∃ vs, ob.data = .fields vs ∧ ∀ t, args = some t → vs[0]? = some (.ref t)
  | .vals d => ob = { cls := .type "dict_values", data := .fields #[.ref d] }
  | .raw o => ob = o
set_option genInjectivity false in
set_option genSizeOfSpec false in
structure Out where
  fs : List Env
  ext : BMap
noncomputable def outerOf (env : Env) (o : List Env) : List Env := if env.frame = some env.locals then env :: o else o
noncomputable def places (env : Env) : List Addr := env.locals :: env.cells.map (·.2)
structure St (c : Cx) (o : Out) (env : Env) (B : BMap) (m : Loc) (H : AHeap) (s : Shared) : Prop where
  base : c.base.StaysIn s.heap
  keep : ∀ a ob l, B a = some (ob, l) → ∃ sl, s.heap.get? a = some { ob with slots := sl } ∧ (l = false → sl = ob.slots)
  own : ∀ a x, H a = some x → ∃ ob, s.heap.get? a = some ob ∧ IsObj c ob x
  disB : ∀ a x, H a = some x → B a = none
  disBase : ∀ a x, H a = some x → c.base.objs.size ≤ a
  pl : ∀ a ∈ places env, H a = none ∧ B a = none ∧ c.base.objs.size ≤ a
  nodup : (places env).Nodup
  cell : ∀ a ∈ env.cells.map (·.2), ∃ v, s.heap.IsCell a v
  var : ∃ mv, s.heap.Ns env.locals mv ∧ ∀ x v, m x = some v → match env.kindOf x with
    | some .local => ∃ u, mv x = some u ∧ er u = v
    | some .cell => ∃ a u, env.cells.lookup x = some a ∧ s.heap.IsCell a (some u) ∧ er u = v
    | some .free => ∃ a u, env.cells.lookup x = some a ∧ s.heap.IsCell a (some u) ∧ er u = v
    | _ => False
  frames : (∀ e ∈ o.fs, e.scope.kind ≠ .module ∧ ∃ L ob, e.frame = some L ∧ B L = some (ob, true) ∧ c.base.get? L = none ∧ ∀ vs, ob.data ≠ .fields vs) ∧ ∀ a x, o.ext a = some x → B a = some x
  gens : s.gens = #[]
  os : s.os = c.os
  tk : 1 ≤ s.toks
structure Ours (c : Cx) (o : Out) (env : Env) (B : BMap) (H : AHeap) (base' : Heap) : Prop where
  cb : c.base.StaysIn base'
  own : ∀ b, ((H b).isSome ∨ (B b).isSome ∨ b ∈ places env) → (∃ f ∈ outerOf env o.fs, f.frame = some b) ∨ ∃ ob, base'.get? b = some ob
noncomputable def Away (env : Env) (B : BMap) (H : AHeap) (a : Addr) : Prop := H a = none ∧ B a = none ∧ a ∉ places env
noncomputable def ArgsOf (c : Cx) (env : Env) (B : BMap) (H : AHeap) (base' : Heap) (e : Addr) (a0 : Value) (l : List V) : Prop :=
  ∃ t vs n, a0 = .ref t ∧ (vs : List Value).map er = l ∧ base'.get? t = some { cls := .type "tuple", data := .seq vs.toArray n } ∧ c.base.objs.size ≤ t ∧ c.base.objs.size ≤ e ∧ Away env B H t ∧ Away env B H e
noncomputable def Made (c : Cx) (o : Out) (env : Env) (B : BMap) (H : AHeap) (e : Addr) (cls : String) (xs : Option (List V)) (h : Heap) : Prop :=
  ∃ base' ob a0, Ours c o env B H base' ∧ base'.StaysIn h ∧ h.FunFrames base' (outerOf env o.fs) ∧ base'.get? e = none ∧
    h.get? e = some ob ∧ ob.cls = .type cls ∧ ob.data = .fields #[a0, .none, .none, .none, .bool false, .none] ∧ ∀ l, xs = some l → ArgsOf c env B H base' e a0 l
noncomputable def InFl (c : Cx) (o : Out) (env : Env) (B : BMap) (H : AHeap) (e : Addr) (cls : String) (xs : Option (List V)) (h : Heap) : Prop :=
  ∃ base' a0, Ours c o env B H base' ∧ Heap.FlyingW base' (outerOf env o.fs) e (.type cls) a0 h ∧ ∀ l, xs = some l → ArgsOf c env B H base' e a0 l
set_option genInjectivity false in
set_option genSizeOfSpec false in
structure Wk where
  c : Cx
  A : Around
  o : Out
  env : Env
  E : Value → Shared → Prop
  X : String → Option (List V) → Loc → AHeap → Prop
  here : Prop
  pass : PassesOwn (model c.prog c.w) A env E
  fly : ∀ B m H s e cls xs, St c o env B m H s → InFl c o env B H e cls xs s.heap → X cls xs m H → E (.ref e) s
  made : here → ∀ B m H s e cls xs, St c o env B m H s → Made c o env B H e cls xs s.heap → X cls xs m H → E (.ref e) s
  kind : env.scope.kind = .function
  glob : env.globals = mainGlobals
  blt : env.builtins = builtinsNs
  frames : A.frames = some (outerOf env o.fs)
  fat : env.frame = some env.locals ∨ ∃ f ∈ o.fs, f.frame = env.frame
noncomputable def W (k : Wk) {α : Type} (t : Sem α) (m : Loc) (H : AHeap) (Q : α → Loc → AHeap → Prop) : Prop :=
  ∀ B s, St k.c k.o k.env B m H s → wpAny (model k.c.prog k.c.w) k.A t (fun v s' => ∃ m' H', St k.c k.o k.env B m' H' s' ∧ Q v m' H') k.E s
noncomputable abbrev WV (k : Wk) (t : Sem Value) (m : Loc) (H : AHeap) (Q : V → Loc → AHeap → Prop) : Prop := W k t m H (fun v => Q (er v))
section
variable {k : Wk} {α β : Type} {m : Loc} {H : AHeap}
theorem W.mono {t : Sem α} {Q Q' : α → Loc → AHeap → Prop} (h : W k t m H Q) (hQ : ∀ v m H, Q v m H → Q' v m H) : W k t m H Q' :=
  fun B s st => wpAny_mono (h B s st) (fun v s' ⟨m', H', st', q⟩ => ⟨m', H', st', hQ _ _ _ q⟩) fun _ _ x => x
theorem W.pure {a : α} {Q : α → Loc → AHeap → Prop} (h : Q a m H) : W k (Pure.pure a) m H Q := fun B s st => wpAny_pure ⟨m, H, st, h⟩
theorem W.bind {t : Sem α} {f : α → Sem β} {Q : β → Loc → AHeap → Prop} (h : W k t m H (fun v m' H' => W k (f v) m' H' Q)) : W k (t >>= f) m H Q :=
  fun B s st => wpAny_bind (wpAny_mono (h B s st) (fun v s' ⟨m', H', st', q⟩ => q B s' st') fun _ _ x => x)
theorem W.standAt {pos : Pos} {Q : Unit → Loc → AHeap → Prop} (h : Q () m H) : W k (PySem.standAt pos) m H Q := fun B s st => wpAny_standAt ⟨m, H, st, h⟩
theorem W.holding {vs : List Value} {t : Sem α} {Q : α → Loc → AHeap → Prop} (h : W k t m H Q) : W k (PySem.holding vs t) m H Q := fun B s st => wpAny_holding (h B s st)
theorem W.of_wp {t : Sem α} {Q : α → Loc → AHeap → Prop}
    (h : ∀ B s, St k.c k.o k.env B m H s → ∀ P : α → Shared → Prop, (∀ v tk, Q v m H → P v { s with toks := tk }) → wpAny (model k.c.prog k.c.w) k.A t P k.E s) : W k t m H Q :=
  fun B s st => wpAny_mono (wpAny_toks_of st.tk (h B s st (fun v s' => ∃ tk, s' = { s with toks := tk } ∧ Q v m H) fun v tk q => ⟨tk, rfl, q⟩))
    (fun v s' q => by obtain ⟨ht, tk, rfl, q⟩ := q; exact ⟨m, H, ⟨st.base, st.keep, st.own, st.disB, st.disBase, st.pl, st.nodup, st.cell, st.var, st.frames, st.gens, st.os, ht⟩, q⟩) fun _ _ x => x.2
end
section
variable {c : Cx} {o : Out} {env : Env} {B : BMap} {m : Loc} {H : AHeap} {s : Shared}
theorem St.toks (st : St c o env B m H s) (tk : Nat) (ht : 1 ≤ tk) : St c o env B m H { s with toks := tk } :=
  ⟨st.base, st.keep, st.own, st.disB, st.disBase, st.pl, st.nodup, st.cell, st.var, st.frames, st.gens, st.os, ht⟩
theorem var_keeps {env : Env} {m : Loc} {h h' : Heap} (kp : ∀ a ∈ places env, ∀ ob, h.get? a = some ob → h'.get? a = some ob)
    (v : ∃ mv, h.Ns env.locals mv ∧ ∀ x v, m x = some v → match env.kindOf x with
    | some .local => ∃ u, mv x = some u ∧ er u = v
    | some .cell => ∃ a u, env.cells.lookup x = some a ∧ h.IsCell a (some u) ∧ er u = v
    | some .free => ∃ a u, env.cells.lookup x = some a ∧ h.IsCell a (some u) ∧ er u = v
    | _ => False) :
    ∃ mv, h'.Ns env.locals mv ∧ ∀ x v, m x = some v → match env.kindOf x with
    | some .local => ∃ u, mv x = some u ∧ er u = v
    | some .cell => ∃ a u, env.cells.lookup x = some a ∧ h'.IsCell a (some u) ∧ er u = v
    | some .free => ∃ a u, env.cells.lookup x = some a ∧ h'.IsCell a (some u) ∧ er u = v
    | _ => False := by
  obtain ⟨mv, ⟨ob, es, ep, ho, r⟩, hv⟩ := v
  have cellK : ∀ x a u, env.cells.lookup x = some a → h.IsCell a u → h'.IsCell a u := fun x a u e ⟨ob, ho, hd⟩ =>
    ⟨ob, kp a (List.mem_cons_of_mem _ (List.mem_map_of_mem (f := (·.2)) (mem_of_lookup e))) ob ho, hd⟩
  refine ⟨mv, ⟨ob, es, ep, kp _ List.mem_cons_self _ ho, r⟩, fun x v e => ?_⟩
  have q := hv x v e
  split at q
  · exact q
  · obtain ⟨a, u, e1, e2, e3⟩ := q; exact ⟨a, u, e1, cellK x a _ e1 e2, e3⟩
  · obtain ⟨a, u, e1, e2, e3⟩ := q; exact ⟨a, u, e1, cellK x a _ e1 e2, e3⟩
  · exact q
theorem none_ge {h : Heap} {a : Addr} (e : h.objs.size ≤ a) : h.get? a = none := by
  cases q : h.get? a with
  | none => rfl
  | some ob => exact absurd (Heap.lt_size q) (Nat.not_lt.mpr e)
theorem St.baseLe (st : St c o env B m H s) : c.base.objs.size ≤ s.heap.objs.size := by
  obtain ⟨mv, hn, _⟩ := st.var
  exact Nat.le_of_lt (Nat.lt_of_le_of_lt (st.pl env.locals List.mem_cons_self).2.2 hn.lt)
theorem St.put (st : St c o env B m H s) {a : Addr} {x y : AObj} {h' : Heap} {tk : Nat} (hx : H a = some x) (hk : ∀ b ob, b ≠ a → s.heap.get? b = some ob → h'.get? b = some ob)
    (hy : ∃ ob, h'.get? a = some ob ∧ IsObj c ob y) (ht : 1 ≤ tk) : St c o env B m (upd H a y) { s with heap := h', toks := tk } := by
  have hB := st.disB a x hx
  have hbl := st.disBase a x hx
  have hb : c.base.get? a = none := none_ge hbl
  have hp : a ∉ places env := fun q => by rw [(st.pl a q).1] at hx; cases hx
  refine ⟨fun b ob e => hk b ob (fun q => by rw [q, hb] at e; cases e) (st.base b ob e), fun b ob l e => ?_, fun b z e => ?_, fun b z e => ?_, fun b z e => ?_, fun b q => ?_, st.nodup, fun b e => ?_, ?_, st.frames, st.gens, st.os, ht⟩
  · obtain ⟨sl, e1, e2⟩ := st.keep b ob l e
    exact ⟨sl, hk b _ (fun q => by rw [q, hB] at e; cases e) e1, e2⟩
  · rcases upd_some e with ⟨rfl, rfl⟩ | ⟨ne, e⟩
    · exact hy
    · obtain ⟨ob, e1, e2⟩ := st.own b z e; exact ⟨ob, hk b ob ne e1, e2⟩
  · rcases upd_some e with ⟨rfl, rfl⟩ | ⟨ne, e⟩
    · exact hB
    · exact st.disB b z e
  · rcases upd_some e with ⟨rfl, rfl⟩ | ⟨ne, e⟩
    · exact hbl
    · exact st.disBase b z e
  · obtain ⟨e1, e2, e3⟩ := st.pl b q
    exact ⟨by unfold upd; rw [if_neg (fun z => by subst z; exact hp q)]; exact e1, e2, e3⟩
  · obtain ⟨v, ob, e1, e2⟩ := st.cell b e
    exact ⟨v, ob, hk b ob (fun q => hp (by subst q; exact List.mem_cons_of_mem _ e)) e1, e2⟩
  · exact var_keeps (fun b hb' ob e => hk b ob (fun q => hp (by subst q; exact hb')) e) st.var
theorem St.fresh (st : St c o env B m H s) {a : Addr} (hn : s.heap.get? a = none) : H a = none ∧ B a = none ∧ c.base.get? a = none ∧ a ∉ places env := by
  refine ⟨?_, ?_, ?_, fun q => ?_⟩
  · cases e : H a with
    | none => rfl
    | some x => obtain ⟨ob, e1, _⟩ := st.own a x e; rw [hn] at e1; cases e1
  · cases e : B a with
    | none => rfl
    | some x => obtain ⟨sl, e1, _⟩ := st.keep a x.1 x.2 e; rw [hn] at e1; cases e1
  · cases e : c.base.get? a with
    | none => rfl
    | some x => rw [st.base a x e] at hn; cases hn
  · rcases List.mem_cons.mp q with rfl | q
    · obtain ⟨_, ⟨ob, _, _, ho, _⟩, _⟩ := st.var
      rw [hn] at ho; cases ho
    · obtain ⟨v, ob, e1, _⟩ := st.cell a q
      rw [hn] at e1; cases e1
theorem St.new (st : St c o env B m H s) {a : Addr} {y : AObj} {h' : Heap} {tk : Nat} (hs : s.heap.objs.size ≤ a) (hk : ∀ b ob, s.heap.get? b = some ob → h'.get? b = some ob)
    (hy : ∃ ob, h'.get? a = some ob ∧ IsObj c ob y) (ht : 1 ≤ tk) : St c o env B m (upd H a y) { s with heap := h', toks := tk } := by
  have hn := none_ge hs
  obtain ⟨f1, f2, f3, f4⟩ := st.fresh hn
  refine ⟨fun b ob e => hk b ob (st.base b ob e), fun b ob l e => ?_, fun b z e => ?_, fun b z e => ?_, fun b z e => ?_, fun b q => ?_, st.nodup, fun b e => ?_, ?_, st.frames, st.gens, st.os, ht⟩
  · obtain ⟨sl, e1, e2⟩ := st.keep b ob l e
    exact ⟨sl, hk b _ e1, e2⟩
  · rcases upd_some e with ⟨rfl, rfl⟩ | ⟨ne, e⟩
    · exact hy
    · obtain ⟨ob, e1, e2⟩ := st.own b z e; exact ⟨ob, hk b ob e1, e2⟩
  · rcases upd_some e with ⟨rfl, rfl⟩ | ⟨ne, e⟩
    · exact f2
    · exact st.disB b z e
  · rcases upd_some e with ⟨rfl, rfl⟩ | ⟨ne, e⟩
    · exact Nat.le_trans st.baseLe hs
    · exact st.disBase b z e
  · obtain ⟨e1, e2, e3⟩ := st.pl b q
    exact ⟨by unfold upd; rw [if_neg (fun z => by subst z; exact f4 q)]; exact e1, e2, e3⟩
  · obtain ⟨v, ob, e1, e2⟩ := st.cell b e
    exact ⟨v, ob, hk b ob e1, e2⟩
  · exact var_keeps (fun b hb' ob e => hk b ob e) st.var
theorem St.grown (st : St c o env B m H s) {h' : Heap} {tk : Nat} (hk : ∀ b ob, s.heap.get? b = some ob → h'.get? b = some ob) (ht : 1 ≤ tk) : St c o env B m H { s with heap := h', toks := tk } := by
  refine ⟨fun b ob e => hk b ob (st.base b ob e), fun b ob l e => ?_, fun b z e => ?_, st.disB, st.disBase, st.pl, st.nodup, fun b e => ?_, ?_, st.frames, st.gens, st.os, ht⟩
  · obtain ⟨sl, e1, e2⟩ := st.keep b ob l e
    exact ⟨sl, hk b _ e1, e2⟩
  · obtain ⟨ob, e1, e2⟩ := st.own b z e; exact ⟨ob, hk b ob e1, e2⟩
  · obtain ⟨v, ob, e1, e2⟩ := st.cell b e
    exact ⟨v, ob, hk b ob e1, e2⟩
  · exact var_keeps (fun b hb' ob e => hk b ob e) st.var
theorem St.hide (st : St c o env B m H s) {a : Addr} {ob : Obj} {l : Bool} (ho : s.heap.get? a = some ob) (hH : H a = none) (hp : a ∉ places env) (hB : B a = none) : St c o env (upd B a (ob, l)) m H s := by
  refine ⟨st.base, fun b ob' l' e => ?_, st.own, fun b x e => ?_, st.disBase, fun b q => ?_, st.nodup, st.cell, st.var, ⟨fun e he => ?_, fun b x e => upd_fresh hB (st.frames.2 b x e)⟩, st.gens, st.os, st.tk⟩
  · rcases upd_some e with ⟨rfl, e'⟩ | ⟨ne, e⟩
    · injection e' with e1 e2; subst e1; exact ⟨ob.slots, ho, fun _ => rfl⟩
    · exact st.keep b ob' l' e
  · unfold upd; rw [if_neg (fun z => by subst z; rw [hH] at e; cases e)]; exact st.disB b x e
  · obtain ⟨e1, e2, e3⟩ := st.pl b q
    exact ⟨e1, by unfold upd; rw [if_neg (fun z => by subst z; exact hp q)]; exact e2, e3⟩
  · obtain ⟨k1, L, ob', k2, k3, k4, k5⟩ := st.frames.1 e he
    exact ⟨k1, L, ob', k2, upd_fresh hB k3, k4, k5⟩
theorem St.unhide {x : Obj × Bool} {a : Addr} {m₀ : Loc} {H₀ : AHeap} {s₀ : Shared} (st₀ : St c o env B m₀ H₀ s₀) (hB : B a = none) (st : St c o env (upd B a x) m H s) : St c o env B m H s := by
  have q : ∀ b y, B b = some y → upd B a x b = some y := fun b y e => upd_fresh hB e
  have r : ∀ b, upd B a x b = none → B b = none := fun b e => by
    cases h : B b with
    | none => rfl
    | some y => rw [q b y h] at e; cases e
  exact ⟨st.base, fun b ob l e => st.keep b ob l (q b _ e), st.own, fun b y e => r b (st.disB b y e), st.disBase, fun b z => ⟨(st.pl b z).1, r b (st.pl b z).2.1, (st.pl b z).2.2⟩, st.nodup, st.cell, st.var,
    st₀.frames, st.gens, st.os, st.tk⟩
theorem St.none_at (st : St c o env B m H s) {a : Addr} (h : s.heap.objs.size ≤ a) : s.heap.get? a = none := by
  cases e : s.heap.get? a with
  | none => rfl
  | some ob => exact absurd (Heap.lt_size e) (Nat.not_lt.mpr h)
end
end Mine
namespace Mine
section
variable {c : Cx} {o : Out} {env : Env} {B : BMap} {m : Loc} {H : AHeap} {s : Shared}
theorem St.setLocal (st : St c o env B m H s) {x : Str} {v : Value} {h' : Heap} {tk : Nat} (hk : env.kindOf x = some .local)
    (hq : ∀ mv, s.heap.Ns env.locals mv → h'.Ns env.locals (fun y => if y = x then some v else mv y)) (hs : Heap.SameBut env.locals s.heap h')
    (ht : 1 ≤ tk) : St c o env B (setL m x (er v)) H { s with heap := h', toks := tk } := by
  have hp := st.pl env.locals List.mem_cons_self
  have kp : ∀ b ob, b ≠ env.locals → s.heap.get? b = some ob → h'.get? b = some ob := fun b ob ne e => (hs.2 b ne).trans e
  refine ⟨fun b ob e => kp b ob (fun q => ?_) (st.base b ob e), fun b ob l e => ?_, fun b z e => ?_, st.disB, st.disBase, st.pl, st.nodup, fun b e => ?_, ?_, st.frames, st.gens, st.os, ht⟩
  · rw [q] at e; exact absurd (Heap.lt_size e) (Nat.not_lt.mpr hp.2.2)
  · refine Mine.hideG fun GG back => ?_
    obtain ⟨sl, e1, e2⟩ := st.keep b ob l e
    refine back ?_
    clear back
    exact ⟨sl, kp b _ (fun q => by rw [q, hp.2.1] at e; cases e) e1, e2⟩
  · obtain ⟨ob, e1, e2⟩ := st.own b z e; exact ⟨ob, kp b ob (fun q => by rw [q, hp.1] at e; cases e) e1, e2⟩
  · refine Mine.hideG fun GG back => ?_
    obtain ⟨u, ob, e1, e2⟩ := st.cell b e
    refine back ?_
    clear back
    exact ⟨u, ob, kp b ob (fun q => (List.nodup_cons.mp st.nodup).1 (q ▸ e)) e1, e2⟩
  · refine Mine.hideG fun GG back => ?_
    obtain ⟨mv, hn, hv⟩ := st.var
    refine back ?_
    clear back
    refine ⟨_, hq mv hn, fun y u e => ?_⟩
    unfold setL at e
    by_cases hy : y = x
    · subst hy
      rw [if_pos rfl] at e; cases e
      rw [hk]; exact ⟨v, by simp, rfl⟩
    · rw [if_neg hy] at e
      have q := hv y u e
      have cellK : ∀ a z, env.cells.lookup y = some a → s.heap.IsCell a z → h'.IsCell a z := fun a z e ⟨ob, ho, hd⟩ =>
        ⟨ob, kp a ob (fun r => (List.nodup_cons.mp st.nodup).1 (r ▸ List.mem_map_of_mem (f := (·.2)) (mem_of_lookup e))) ho, hd⟩
      split at q
      · obtain ⟨z, e1, e2⟩ := q; exact ⟨z, by rw [if_neg hy]; exact e1, e2⟩
      · obtain ⟨a, z, e1, e2, e3⟩ := q; exact ⟨a, z, e1, cellK a _ e1 e2, e3⟩
      · obtain ⟨a, z, e1, e2, e3⟩ := q; exact ⟨a, z, e1, cellK a _ e1 e2, e3⟩
      · exact q
theorem cell_addr {cs : List (Str × Addr)} (hn : (cs.map (·.2)).Nodup) {x y : Str} {a : Addr} (hx : cs.lookup x = some a) (hy : cs.lookup y = some a) : x = y := by
  have h1 := mem_of_lookup hx
  have h2 := mem_of_lookup hy
  induction cs with
  | nil => cases h1
  | cons p r ih =>
    rw [List.map_cons, List.nodup_cons] at hn
    rcases List.mem_cons.mp h1 with e1 | h1' <;> rcases List.mem_cons.mp h2 with e2 | h2'
    · rw [← e2] at e1; exact (Prod.mk.inj e1).1
    · exact absurd (by rw [← e1]; exact List.mem_map_of_mem (f := (·.2)) h2') hn.1
    · exact absurd (by rw [← e2]; exact List.mem_map_of_mem (f := (·.2)) h1') hn.1
    · clear ih hx hy h1 h2
      revert h1' h2'
      have hr := hn.2
      clear hn
      induction r with
      | nil => intro h; cases h
      | cons q r ih =>
        intro h1 h2
        rw [List.map_cons, List.nodup_cons] at hr
        rcases List.mem_cons.mp h1 with e1 | h1' <;> rcases List.mem_cons.mp h2 with e2 | h2'
        · rw [← e2] at e1; exact (Prod.mk.inj e1).1
        · exact absurd (by rw [← e1]; exact List.mem_map_of_mem (f := (·.2)) h2') hr.1
        · exact absurd (by rw [← e2]; exact List.mem_map_of_mem (f := (·.2)) h1') hr.1
        · exact ih hr.2 h1' h2'
theorem St.setCell (st : St c o env B m H s) {x : Str} {v : Value} {a : Addr} {h' : Heap} {tk : Nat} (hk : env.kindOf x = some .cell) (hc : env.cells.lookup x = some a)
    (hq : h'.IsCell a (some v)) (hs : Heap.SameBut a s.heap h') (ht : 1 ≤ tk) : St c o env B (setL m x (er v)) H { s with heap := h', toks := tk } := by
  have hm : a ∈ env.cells.map (·.2) := List.mem_map_of_mem (f := (·.2)) (mem_of_lookup hc)
  have hp := st.pl a (List.mem_cons_of_mem _ hm)
  have kp : ∀ b ob, b ≠ a → s.heap.get? b = some ob → h'.get? b = some ob := fun b ob ne e => (hs.2 b ne).trans e
  have hla : env.locals ≠ a := fun q => (List.nodup_cons.mp st.nodup).1 (q ▸ hm)
  refine ⟨fun b ob e => kp b ob (fun q => ?_) (st.base b ob e), fun b ob l e => ?_, fun b z e => ?_, st.disB, st.disBase, st.pl, st.nodup, fun b e => ?_, ?_, st.frames, st.gens, st.os, ht⟩
  · rw [q] at e; exact absurd (Heap.lt_size e) (Nat.not_lt.mpr hp.2.2)
  · refine Mine.hideG fun GG back => ?_
    obtain ⟨sl, e1, e2⟩ := st.keep b ob l e
    refine back ?_
    clear back
    exact ⟨sl, kp b _ (fun q => by rw [q, hp.2.1] at e; cases e) e1, e2⟩
  · obtain ⟨ob, e1, e2⟩ := st.own b z e; exact ⟨ob, kp b ob (fun q => by rw [q, hp.1] at e; cases e) e1, e2⟩
  · by_cases hb : b = a
    · subst hb; exact ⟨_, hq⟩
    · refine Mine.hideG fun GG back => ?_
      obtain ⟨u, ob, e1, e2⟩ := st.cell b e
      refine back ?_
      clear back
      exact ⟨u, ob, kp b ob hb e1, e2⟩
  · refine Mine.hideG fun GG back => ?_
    obtain ⟨mv, ⟨ob, es, ep, ho, hr⟩, hv⟩ := st.var
    refine back ?_
    clear back
    refine ⟨mv, ⟨ob, es, ep, kp _ _ hla ho, hr⟩, fun y u e => ?_⟩
    unfold setL at e
    by_cases hy : y = x
    · subst hy
      rw [if_pos rfl] at e; cases e
      rw [hk]; exact ⟨a, v, hc, hq, rfl⟩
    · rw [if_neg hy] at e
      have q := hv y u e
      have cellK : ∀ b z, env.cells.lookup y = some b → s.heap.IsCell b z → h'.IsCell b z := fun b z e ⟨ob, ho, hd⟩ =>
        ⟨ob, kp b ob (fun r => hy (cell_addr (List.nodup_cons.mp st.nodup).2 e (r ▸ hc))) ho, hd⟩
      split at q
      · exact q
      · obtain ⟨b, z, e1, e2, e3⟩ := q; exact ⟨b, z, e1, cellK b _ e1 e2, e3⟩
      · obtain ⟨b, z, e1, e2, e3⟩ := q; exact ⟨b, z, e1, cellK b _ e1 e2, e3⟩
      · exact q
theorem St.fr (st : St c o env B m H s) : ∃ mv, Fr c.base env.locals s.heap mv := by
  refine Mine.hideG fun GG back => ?_
  obtain ⟨mv, hn, _⟩ := st.var
  refine back ?_
  clear back
  exact ⟨mv, hn, st.base, (st.pl env.locals List.mem_cons_self).2.2⟩
end
noncomputable def storable (env : Env) (x : Str) : Bool := match env.kindOf x with
  | some .local => true
  | some .cell => (env.cells.map (·.1)).contains x
  | _ => false
theorem lookup_of_names : ∀ {cs : List (Str × Addr)} {x : Str}, (cs.map (·.1)).contains x = true → ∃ a, cs.lookup x = some a
  | [], x, h => by cases h
  | (n, b) :: r, x, h => by
    rw [List.lookup_cons]
    rw [List.map_cons, List.contains_cons, Bool.or_eq_true] at h
    cases hq : x == n with
    | true => exact ⟨b, rfl⟩
    | false =>
      rw [hq] at h
      exact lookup_of_names (h.resolve_left Bool.false_ne_true)
class SEnv (k : Wk) (sc : outParam Scope) (cn : outParam (List Str)) : Prop where
  sc : k.env.scope = sc
  cn : k.env.cells.map (·.1) = cn
noncomputable def storS (sc : Scope) (cn : List Str) (x : Str) : Bool := match sc.names.lookup x with
  | some .local => true
  | some .cell => cn.contains x
  | _ => false
theorem stor {k : Wk} {sc : Scope} {cn : List Str} [I : SEnv k sc cn] {x : Str} (h : storS sc cn x = true) : storable k.env x = true := by
  unfold storable Env.kindOf
  rw [I.sc, I.cn]
  exact h
theorem kindS {k : Wk} {sc : Scope} {cn : List Str} [I : SEnv k sc cn] {x : Str} {κ : NameKind} (h : sc.names.lookup x = some κ) : k.env.kindOf x = some κ := by
  unfold Env.kindOf
  rw [I.sc]
  exact h
noncomputable def Gl (c : Cx) (x : Str) (v : Value) : Prop := c.mg x = some v ∨ (c.mg x = none ∧ c.mb x = some v)
section
variable {k : Wk} {m : Loc} {H : AHeap}
theorem W_store {x : Str} {v : Value} {Q : Unit → Loc → AHeap → Prop} (hs : storable k.env x = true) (h : Q () (setL m x (er v)) H) : W k (storeName k.env x v) m H Q := fun B s st => by
  unfold storable at hs
  split at hs
  · rename_i hl
    refine Mine.hideG fun GG back => ?_
    obtain ⟨mv, hn, _⟩ := st.var
    refine back ?_
    clear back
    have hp : (k.env.scope.kind == .class || (k.env.scope.kind == .module && k.env.locals != k.env.globals)) = false := by rw [k.kind]; rfl
    rw [storeName_local hl hp]
    refine Mine.hideG fun GG back => ?_
    obtain ⟨ob, es, ep, ho, hd, hsk, hf⟩ := id hn
    refine back ?_
    clear back
    refine wpAny_nsSet hn fun h' hn' hs' => ⟨_, H, st.setLocal hl (fun mv' hm' => ?_) hs' (Nat.le_succ_of_le st.tk), h⟩
    have e : mv' = mv := by
      funext y
      refine Mine.hideG fun GG back => ?_
      obtain ⟨ob', es', ep', ho', hd', _, hf'⟩ := hm'
      refine back ?_
      clear back
      rw [ho] at ho'; cases ho'
      rw [hd] at hd'; cases hd'
      rw [← hf, ← hf']
    rw [e]; exact hn'
  · rename_i hl
    refine Mine.hideG fun GG back => ?_
    obtain ⟨a, ha⟩ := lookup_of_names hs
    obtain ⟨v₀, hc⟩ := st.cell a (List.mem_map_of_mem (f := (·.2)) (mem_of_lookup ha))
    refine back ?_
    clear back
    exact wpAny_storeName_cell k.kind hl ha hc fun h' hc' hs' => ⟨_, H, st.setCell hl ha hc' hs' st.tk, h⟩
  · cases hs
theorem W_bindName {x : Str} {v : Value} {Q : Unit → Loc → AHeap → Prop} (hs : storable k.env x = true) (h : Q () (setL m x (er v)) H) : W k (bindName k.env x v) m H Q :=
  fun B s st => wpAny_bindName (W_store hs h B s st)
theorem W_Name {x : Str} {pos : Pos} {v : V} {Q : V → Loc → AHeap → Prop} (hm : m x = some v) (h : Q v m H) (hd : (x == ("__debug__" : Str)) = false := by decide) (hn : (x == ("__classdict__" : Str)) = false := by decide) :
    WV k (eval (.Name x pos) k.env) m H Q := fun B s st => by
  refine Mine.hideG fun GG back => ?_
  obtain ⟨mv, hn', hv⟩ := st.var
  refine back ?_
  clear back
  have q := hv x v hm
  refine wpAny_Name ?_ hd
  split at q
  · rename_i hl
    refine Mine.hideG fun GG back => ?_
    obtain ⟨u, e1, rfl⟩ := q
    refine back ?_
    clear back
    exact wpAny_loadName_local k.kind hl hn' e1 ⟨m, H, st, h⟩
  · rename_i hl
    refine Mine.hideG fun GG back => ?_
    obtain ⟨a, u, e1, e2, rfl⟩ := q
    refine back ?_
    clear back
    exact wpAny_loadName_cell k.kind hl e1 e2 ⟨m, H, st, h⟩
  · rename_i hl
    refine Mine.hideG fun GG back => ?_
    obtain ⟨a, u, e1, e2, rfl⟩ := q
    refine back ?_
    clear back
    exact wpAny_loadName_free k.kind hl e1 e2 ⟨m, H, st, h⟩ hn
  · exact q.elim
theorem W_NameG {x : Str} {pos : Pos} {v : Value} {Q : V → Loc → AHeap → Prop} (hg : Gl k.c x v) (hx : k.env.kindOf x = some .globalImplicit) (h : Q (er v) m H) (hd : (x == ("__debug__" : Str)) = false := by decide) :
    WV k (eval (.Name x pos) k.env) m H Q := fun B s st => by
  have hg' : s.heap.Ns k.env.globals k.c.mg := by rw [k.glob]; exact k.c.top.g.keeps st.base
  have hb' : s.heap.Ns k.env.builtins k.c.mb := by rw [k.blt]; exact k.c.top.b.keeps st.base
  rcases hg with e | ⟨e1, e2⟩
  · exact Name_function_global k.kind hx (loadGlobal_global (env := k.env) hg' e ⟨m, H, st, h⟩) hd
  · exact Name_function_global k.kind hx (loadGlobal_builtin (env := k.env) hg' e1 hb' e2 ⟨m, H, st, h⟩) hd
theorem W_loadName {x : Str} {v : V} {Q : V → Loc → AHeap → Prop} (hm : m x = some v) (h : Q v m H) (hn : (x == ("__classdict__" : Str)) = false := by decide) :
    WV k (loadName k.env x) m H Q := fun B s st => by
  refine Mine.hideG fun GG back => ?_
  obtain ⟨mv, hn', hv⟩ := st.var
  refine back ?_
  clear back
  have q := hv x v hm
  split at q
  · rename_i hl
    refine Mine.hideG fun GG back => ?_
    obtain ⟨u, e1, rfl⟩ := q
    refine back ?_
    clear back
    exact wpAny_loadName_local k.kind hl hn' e1 ⟨m, H, st, h⟩
  · rename_i hl
    refine Mine.hideG fun GG back => ?_
    obtain ⟨a, u, e1, e2, rfl⟩ := q
    refine back ?_
    clear back
    exact wpAny_loadName_cell k.kind hl e1 e2 ⟨m, H, st, h⟩
  · rename_i hl
    refine Mine.hideG fun GG back => ?_
    obtain ⟨a, u, e1, e2, rfl⟩ := q
    refine back ?_
    clear back
    exact wpAny_loadName_free k.kind hl e1 e2 ⟨m, H, st, h⟩ hn
  · exact q.elim
theorem W_int {i : Int} {n : Nat} {pos : Pos} {Q : V → Loc → AHeap → Prop} (h : Q (.int i) m H) : WV k (eval (.Constant (.int i) n pos) k.env) m H Q :=
  W.of_wp fun B s st P hp => wpAny_Constant_int (hp _ _ h)
theorem W_str {x : Str} {n : Nat} {pos : Pos} {Q : V → Loc → AHeap → Prop} (h : ∀ t, 1 ≤ t → Q (.str x t) m H) : WV k (eval (.Constant (.str x) n pos) k.env) m H Q :=
  W.of_wp fun B s st P hp => wpAny_mkText (hp _ _ (h _ st.tk))
theorem W_none {n : Nat} {pos : Pos} {Q : V → Loc → AHeap → Prop} (h : Q .none m H) : WV k (eval (.Constant .none n pos) k.env) m H Q :=
  fun B s st => wpAny_pure ⟨m, H, st, h⟩
noncomputable def WBin (k : Wk) (op : Operator) (a b : V) (m : Loc) (H : AHeap) (Q : V → Loc → AHeap → Prop) : Prop := ∀ x y, er x = a → er y = b → WV k (binaryOp op x y) m H Q
noncomputable def WInpl (k : Wk) (op : Operator) (a b : V) (m : Loc) (H : AHeap) (Q : V → Loc → AHeap → Prop) : Prop := ∀ x y, er x = a → er y = b → WV k (inplaceOp op x y) m H Q
noncomputable def WCmp (k : Wk) (op : CmpOp) (a b : V) (m : Loc) (H : AHeap) (Q : V → Loc → AHeap → Prop) : Prop := ∀ x y, er x = a → er y = b → WV k (compareOp op x y) m H Q
noncomputable def WTr (k : Wk) (a : V) (m : Loc) (H : AHeap) (Q : Bool → Loc → AHeap → Prop) : Prop := ∀ x, er x = a → W k (truthy x) m H Q
noncomputable abbrev WT (k : Wk) (e : Expr) (m : Loc) (H : AHeap) (Q : Bool → Loc → AHeap → Prop) : Prop := W k (isTrue e k.env (eval e k.env)) m H Q
theorem W_BinOp {l r : Expr} {op : Operator} {pos : Pos} {Q : V → Loc → AHeap → Prop}
    (h : WV k (eval l k.env) m H fun a m1 H1 => WV k (eval r k.env) m1 H1 fun b m2 H2 => WBin k op a b m2 H2 Q) : WV k (eval (.BinOp l op r pos) k.env) m H Q :=
  fun B s st => wpAny_BinOp (wpAny_mono (h B s st) (fun a s1 ⟨m1, H1, st1, q1⟩ => wpAny_mono (q1 B s1 st1) (fun b s2 ⟨m2, H2, st2, q2⟩ => q2 a b rfl rfl B s2 st2) fun _ _ x => x) fun _ _ x => x)
theorem W_Compare {l r : Expr} {op : CmpOp} {pos : Pos} {Q : V → Loc → AHeap → Prop}
    (h : WV k (eval l k.env) m H fun a m1 H1 => WV k (eval r k.env) m1 H1 fun b m2 H2 => WCmp k op a b m2 H2 Q) (hm : behindInMarks op r = false := by with_unfolding_all rfl) : WV k (eval (.Compare l [op] [r] pos) k.env) m H Q :=
  fun B s st => wpAny_Compare1 (wpAny_mono (h B s st) (fun a s1 ⟨m1, H1, st1, q1⟩ => wpAny_mono (q1 B s1 st1) (fun b s2 ⟨m2, H2, st2, q2⟩ => q2 a b rfl rfl B s2 st2) fun _ _ x => x) fun _ _ x => x) hm
theorem WTr_bool {b : Bool} {Q : Bool → Loc → AHeap → Prop} (h : Q b m H) : WTr k (.bool b) m H Q := fun x e B s st => by rw [er_bool e]; exact wpAny_truthy_bool ⟨m, H, st, h⟩
theorem WT_Compare {l r : Expr} {op : CmpOp} {pos : Pos} {Q : Bool → Loc → AHeap → Prop}
    (h : WV k (eval l k.env) m H fun a m1 H1 => WV k (eval r k.env) m1 H1 fun b m2 H2 => WCmp k op a b m2 H2 fun v m3 H3 => WTr k v m3 H3 Q) (hm : behindInMarks op r = false := by with_unfolding_all rfl) :
    WT k (.Compare l [op] [r] pos) m H Q :=
  fun B s st => wpAny_isTrue_Compare1 (wpAny_mono (h B s st) (fun a s1 ⟨m1, H1, st1, q1⟩ => wpAny_mono (q1 B s1 st1) (fun b s2 ⟨m2, H2, st2, q2⟩ =>
    wpAny_mono (q2 a b rfl rfl B s2 st2) (fun v s3 ⟨m3, H3, st3, q3⟩ => q3 v rfl B s3 st3) fun _ _ x => x) fun _ _ x => x) fun _ _ x => x) hm
theorem WT_Not {x : Expr} {pos : Pos} {Q : Bool → Loc → AHeap → Prop} (h : WT k x m H fun b m1 H1 => Q (!b) m1 H1) : WT k (.UnaryOp .Not x pos) m H Q :=
  fun B s st => wpAny_isTrue_Not (h B s st)
theorem W_allTrue_nil {op : BoolOp} {Q : Bool → Loc → AHeap → Prop} (h : Q (op == .And) m H) : W k (allTrue op [] k.env) m H Q := fun B s st => wpAny_pure ⟨m, H, st, h⟩
theorem W_allTrue_and {x : Expr} {r : List Expr} {Q : Bool → Loc → AHeap → Prop} (h : WT k x m H fun b m1 H1 => if b = true then W k (allTrue .And r k.env) m1 H1 Q else Q false m1 H1) :
    W k (allTrue .And (x :: r) k.env) m H Q := by
  show W k (do match BoolOp.And, ← isTrue x k.env (eval x k.env) with
    | .And, false => pure false
    | .Or, true => pure true
    | _, _ => allTrue .And r k.env) m H Q
  refine W.bind (W.mono h fun b m1 H1 q => ?_)
  cases b
  · exact W.pure q
  · exact q
theorem W_allTrue_or {x : Expr} {r : List Expr} {Q : Bool → Loc → AHeap → Prop} (h : WT k x m H fun b m1 H1 => if b = true then Q true m1 H1 else W k (allTrue .Or r k.env) m1 H1 Q) :
    W k (allTrue .Or (x :: r) k.env) m H Q := by
  show W k (do match BoolOp.Or, ← isTrue x k.env (eval x k.env) with
    | .And, false => pure false
    | .Or, true => pure true
    | _, _ => allTrue .Or r k.env) m H Q
  refine W.bind (W.mono h fun b m1 H1 q => ?_)
  cases b
  · exact q
  · exact W.pure q
theorem WT_And {xs : List Expr} {pos : Pos} {Q : Bool → Loc → AHeap → Prop} (h : W k (allTrue .And xs k.env) m H Q) : WT k (.BoolOp .And xs pos) m H Q := h
theorem WT_Or {xs : List Expr} {pos : Pos} {Q : Bool → Loc → AHeap → Prop} (h : W k (allTrue .Or xs k.env) m H Q) : WT k (.BoolOp .Or xs pos) m H Q := h
theorem WT_plain {e : Expr} {Q : Bool → Loc → AHeap → Prop} (h : WV k (eval e k.env) m H fun v m1 H1 => WTr k v m1 H1 Q)
    (he : ∀ whole, isTrue e k.env whole = (do let v ← whole; standAt e.pos; PySem.holding [v] (truthy v)) := by intro _; rfl) : WT k e m H Q := by
  show W k (isTrue e k.env (eval e k.env)) m H Q
  rw [he]
  exact W.bind (W.mono h fun v m1 H1 q => W.bind (W.standAt (W.holding (q v rfl))))
theorem W_IfExp {t b e : Expr} {pos : Pos} {Q : V → Loc → AHeap → Prop} (h : WT k t m H fun x m1 H1 => if x = true then WV k (eval b k.env) m1 H1 Q else WV k (eval e k.env) m1 H1 Q) :
    WV k (eval (.IfExp t b e pos) k.env) m H Q := fun B s st => wpAny_IfExp (wpAny_mono (h B s st) (fun x s1 ⟨m1, H1, st1, q⟩ => by cases x <;> exact q B s1 st1) fun _ _ x => x)
noncomputable abbrev WF (k : Wk) (t : Sem Flow) (m : Loc) (H : AHeap) (Q : Flow → Loc → AHeap → Prop) : Prop := W k t m H Q
theorem W_nil {Q : Flow → Loc → AHeap → Prop} (h : Q .next m H) : W k (execs [] k.env) m H Q := fun B s st => wpAny_execs_nil ⟨m, H, st, h⟩
theorem W_cons {st : Stmt} {r : List Stmt} {Q : Flow → Loc → AHeap → Prop} (h : W k (exec st k.env) m H fun f m1 H1 => match f with | .next => W k (execs r k.env) m1 H1 Q | f => Q f m1 H1) : W k (execs (st :: r) k.env) m H Q :=
  fun B s stt => wpAny_execs_cons (wpAny_mono (h B s stt) (fun f s1 ⟨m1, H1, st1, q⟩ => by
    cases f <;> first | exact q B s1 st1 | exact ⟨m1, H1, st1, q⟩) fun _ _ x => x)
theorem W_Break {pos : Pos} {Q : Flow → Loc → AHeap → Prop} (h : Q .brk m H) : W k (exec (.Break pos) k.env) m H Q := fun B s st => wpAny_Break ⟨m, H, st, h⟩
theorem W_If {t : Expr} {b e : List Stmt} {pos : Pos} {Q : Flow → Loc → AHeap → Prop} (h : WT k t m H fun x m1 H1 => if x = true then W k (execs b k.env) m1 H1 Q else W k (execs e k.env) m1 H1 Q) :
    W k (exec (.If t b e pos) k.env) m H Q := fun B s st => wpAny_If (wpAny_mono (h B s st) (fun x s1 ⟨m1, H1, st1, q⟩ => by cases x <;> exact q B s1 st1) fun _ _ x => x)
theorem W_Return {e : Expr} {pos : Pos} {Q : Flow → Loc → AHeap → Prop} (h : W k (eval e k.env) m H fun v m1 H1 => Q (.ret v) m1 H1) : W k (exec (.Return (some e) pos) k.env) m H Q :=
  fun B s st => wpAny_Return_some (h B s st)
theorem W_Expr {e : Expr} {pos : Pos} {Q : Flow → Loc → AHeap → Prop} (h : WV k (eval e k.env) m H fun _ m1 H1 => Q .next m1 H1) (hi : interactive k.env = false)
    (hs : swapsWith e none pos.line k.env = pure false) : W k (exec (.Expr e pos) k.env) m H Q :=
  fun B s st => wpAny_Expr_any (h B s st) hi hs
theorem W_Assign {x : Str} {p pos : Pos} {e : Expr} {Q : Flow → Loc → AHeap → Prop} (h : WV k (eval e k.env) m H fun v m1 H1 => Q .next (setL m1 x v) H1) (hx : storable k.env x = true)
    (hs : swapsWith e (some (.Name x p)) pos.line k.env = pure false) : W k (exec (.Assign [.Name x p] e pos) k.env) m H Q :=
  fun B s st => wpAny_Assign_Name (wpAny_mono (h B s st) (fun v s1 ⟨m1, H1, st1, q⟩ => W_store (Q := fun _ => Q .next) hx q B s1 st1) fun _ _ x => x) hs
theorem W_Aug {x : Str} {p pos : Pos} {op : Operator} {e : Expr} {old : V} {Q : Flow → Loc → AHeap → Prop} (ho : m x = some old) (h : WV k (eval e k.env) m H fun v m1 H1 => WInpl k op old v m1 H1 fun r m2 H2 => Q .next (setL m2 x r) H2)
    (hx : storable k.env x = true) (hn : (x == ("__classdict__" : Str)) = false := by decide) : W k (exec (.AugAssign (.Name x p) op e pos) k.env) m H Q :=
  fun B s st => wpAny_AugAssign_Name (wpAny_mono (W_loadName (Q := fun v m' H' => v = old ∧ m' = m ∧ H' = H) ho ⟨rfl, rfl, rfl⟩ hn B s st) (fun ov s1 hx1 => by
    refine Mine.hideG fun GG back => ?_
    obtain ⟨m1, H1, st1, e1, e2, e3⟩ := hx1
    refine back ?_
    clear back
    subst e2; subst e3
    exact wpAny_mono (h B s1 st1) (fun v s2 ⟨m2, H2, st2, q2⟩ => wpAny_mono (q2 ov v e1 rfl B s2 st2) (fun r s3 ⟨m3, H3, st3, q3⟩ => W_store (Q := fun _ => Q .next) hx q3 B s3 st3) fun _ _ x => x) fun _ _ x => x) fun _ _ x => x)
noncomputable def WSet (k : Wk) (o i v : V) (m : Loc) (H : AHeap) (Q : Loc → AHeap → Prop) : Prop := ∀ x y z, er x = o → er y = i → er z = v → W k (setItem x y z) m H fun _ => Q
theorem W_AssignSub {o i e : Expr} {p pos : Pos} {Q : Flow → Loc → AHeap → Prop}
    (h : WV k (eval e k.env) m H fun v m1 H1 => WV k (eval o k.env) m1 H1 fun ov m2 H2 => WV k (eval i k.env) m2 H2 fun iv m3 H3 => WSet k ov iv v m3 H3 (Q .next))
    (hs : swapsWith e (some (.Subscript o i p)) pos.line k.env = pure false := by rfl) : W k (exec (.Assign [.Subscript o i p] e pos) k.env) m H Q :=
  fun B s st => wpAny_Assign_Subscript (wpAny_mono (h B s st) (fun v s1 ⟨m1, H1, st1, q1⟩ => wpAny_mono (q1 B s1 st1) (fun ov s2 ⟨m2, H2, st2, q2⟩ => wpAny_mono (q2 B s2 st2) (fun iv s3 ⟨m3, H3, st3, q3⟩ =>
    q3 ov iv v rfl rfl rfl B s3 st3) fun _ _ x => x) fun _ _ x => x) fun _ _ x => x) hs
noncomputable def WAs (k : Wk) (t : Expr) (v : V) (m : Loc) (H : AHeap) (Q : Loc → AHeap → Prop) : Prop := ∀ x, er x = v → W k (assign t k.env x) m H fun _ => Q
theorem WAs_Name {x : Str} {p : Pos} {v : V} {Q : Loc → AHeap → Prop} (hx : storable k.env x = true) (h : Q (setL m x v) H) : WAs k (.Name x p) v m H Q := fun u e => by
  subst e
  show W k (do standAt p; bindName k.env x u) m H _
  exact W.bind (W.standAt (W_bindName hx h))
theorem W_AssignTup {es : List Expr} {n : Nat} {p pos : Pos} {e : Expr} {Q : Flow → Loc → AHeap → Prop} (h : WV k (eval e k.env) m H fun v m1 H1 => WAs k (.Tuple es n p) v m1 H1 (Q .next))
    (hs : swapsWithSole [.Tuple es n p] e pos.line k.env = pure false := by rfl) (hw : swappedStores [.Tuple es n p] e k.env = pure none := by rfl) : W k (exec (.Assign [.Tuple es n p] e pos) k.env) m H Q :=
  fun B s st => Assign_Tuple (wpAny_mono (h B s st) (fun v s1 ⟨m1, H1, st1, q⟩ => q v rfl B s1 st1) fun _ _ x => x) hs hw
end
end Mine
namespace Mine
noncomputable def bindM : List (Str × V) → Loc → Loc
  | [], m => m
  | (n, v) :: r, m => bindM r (setL m n v)
noncomputable def noLoc : Loc := fun _ => none
theorem bindM_var {kindOf : Str → Option NameKind} {cs : List (Str × Addr)} : ∀ (binds : List (Str × Value)) (bl bc : Str → Option Value) (m : Loc),
    (∀ x ∈ binds, kindOf x.1 = some .local ∨ (kindOf x.1 = some .cell ∧ (cs.lookup x.1).isSome = true)) →
    (∀ x v, m x = some v → match kindOf x with
      | some .local => ∃ u, bl x = some u ∧ er u = v
      | some .cell => ∃ a u, cs.lookup x = some a ∧ bc x = some u ∧ er u = v
      | _ => False) →
    ∀ x v, bindM (binds.map fun b => (b.1, er b.2)) m x = some v → match kindOf x with
      | some .local => ∃ u, bindL kindOf binds bl x = some u ∧ er u = v
      | some .cell => ∃ a u, cs.lookup x = some a ∧ bindC kindOf binds bc x = some u ∧ er u = v
      | _ => False
  | [], bl, bc, m, hk, h => h
  | (n, w) :: r, bl, bc, m, hk, h => by
    rw [List.map_cons]
    unfold bindM bindL bindC
    refine bindM_var r _ _ _ (fun x hx => hk x (List.mem_cons_of_mem _ hx)) fun x v e => ?_
    unfold setL at e
    have hn := hk (n, w) List.mem_cons_self
    by_cases hx : x = n
    · subst hx
      rw [if_pos rfl] at e
      cases e
      rcases hn with h1 | ⟨h1, h2⟩
      · simp only [h1, if_true]; exact ⟨w, rfl, rfl⟩
      · have hnl : ¬ kindOf x = some .local := by rw [h1]; decide
        obtain ⟨a, ha⟩ := Option.isSome_iff_exists.mp h2
        simp only [h1]
        rw [if_neg (by decide)]
        exact ⟨a, w, ha, by simp, rfl⟩
    · rw [if_neg hx] at e
      have q := h x v e
      split at q
      · rename_i hl
        obtain ⟨u, e1, e2⟩ := q
        refine ⟨u, ?_, e2⟩
        split
        · simp only [hx, if_false]; exact e1
        · exact e1
      · rename_i hl
        obtain ⟨a, u, e1, e2, e3⟩ := q
        refine ⟨a, u, e1, ?_, e3⟩
        split
        · exact e2
        · simp only [hx, if_false]; exact e2
      · exact q
noncomputable def hideEnv (env : Env) (h : Heap) (B : BMap) : BMap := fun a => if a ∈ places env then (h.get? a).map fun ob => (ob, true) else B a
theorem mem_outerOf {env e : Env} {o : List Env} (h : e ∈ outerOf env o) : (e = env ∧ env.frame = some env.locals) ∨ e ∈ o := by
  unfold outerOf at h
  split at h
  · rename_i hf
    rcases List.mem_cons.mp h with rfl | h
    · exact .inl ⟨rfl, hf⟩
    · exact .inr h
  · exact .inr h
section
variable {c : Cx} {o : Out} {env : Env} {B : BMap} {m : Loc} {H : AHeap} {s : Shared}
theorem St.place (st : St c o env B m H s) {a : Addr} (h : a ∈ places env) : ∃ ob, s.heap.get? a = some ob ∧ ∀ vs, ob.data ≠ .fields vs := by
  rcases List.mem_cons.mp h with rfl | h
  · obtain ⟨mv, ⟨ob, es, ep, ho, hd, _⟩, _⟩ := st.var
    exact ⟨ob, ho, fun vs q => by rw [hd] at q; cases q⟩
  · obtain ⟨v, ob, ho, hd⟩ := st.cell a h
    exact ⟨ob, ho, fun vs q => by rw [hd] at q; cases q⟩
theorem St.enter (st : St c o env B m H s) (hke : env.scope.kind = .function) {env' : Env} {bl bc : Str → Option Value} {m' : Loc} {s₁ : Shared} (x : InCallC s env'.locals bl env'.cells bc s₁)
    (hm : ∀ y v, m' y = some v → match env'.kindOf y with
      | some .local => ∃ u, bl y = some u ∧ er u = v
      | some .cell => ∃ a u, env'.cells.lookup y = some a ∧ bc y = some u ∧ er u = v
      | _ => False) (hcl : (env'.cells.map (·.1)).Nodup) (ht : 1 ≤ s₁.toks) :
    St c ⟨outerOf env o.fs, hideEnv env s.heap B⟩ env' (hideEnv env s.heap B) m' H s₁ := by
  obtain ⟨⟨⟨h₁, tk, e⟩, hns, hkeep, hnew⟩, hcell, hap, hab⟩ := x
  subst e
  have lookups : ∀ a ∈ env'.cells.map (·.2), ∃ n, env'.cells.lookup n = some a := fun a ha => by
    obtain ⟨⟨n, b⟩, e1, rfl⟩ := List.mem_map.mp ha
    refine ⟨n, ?_⟩
    clear hcell hap hab ha
    revert hcl e1
    generalize env'.cells = cs
    intro hcl e1
    induction cs with
    | nil => cases e1
    | cons p r ih =>
      obtain ⟨n', b'⟩ := p
      rw [List.map_cons, List.nodup_cons] at hcl
      rw [List.lookup_cons]
      rcases List.mem_cons.mp e1 with e1 | e1
      · cases e1; simp
      · have hne : (n == n') = false := by
          cases hq : n == n' with
          | false => rfl
          | true => exact absurd (by rw [← eq_of_beq hq]; exact List.mem_map_of_mem (f := (·.1)) e1) hcl.1
        rw [hne]; exact ih hcl.2 e1
  have above : ∀ a ∈ places env', s.heap.objs.size ≤ a := fun a ha => by
    rcases List.mem_cons.mp ha with rfl | ha
    · exact hnew
    · obtain ⟨⟨n, b⟩, e1, rfl⟩ := List.mem_map.mp ha
      exact Nat.le_of_lt (Nat.lt_of_le_of_lt hnew (hab n b e1))
  have fresh : ∀ a ∈ places env', s.heap.get? a = none := fun a ha => st.none_at (above a ha)
  refine ⟨fun b ob e => hkeep b ob (st.base b ob e), fun b ob l e => ?_, fun b z e => ?_, fun b z e => ?_, st.disBase, fun b q => ?_, ?_, fun b e => ?_, ⟨bl, hns, fun y v e => ?_⟩, ⟨fun e he => ?_, fun _ _ e => e⟩, st.gens, st.os, ht⟩
  · unfold hideEnv at e
    split at e
    · cases hg : s.heap.get? b with
      | none => rw [hg] at e; cases e
      | some ob' => rw [hg] at e; cases e; exact ⟨ob.slots, hkeep b ob hg, fun _ => rfl⟩
    · obtain ⟨sl, e1, e2⟩ := st.keep b ob l e
      exact ⟨sl, hkeep b _ e1, e2⟩
  · obtain ⟨ob, e1, e2⟩ := st.own b z e; exact ⟨ob, hkeep b ob e1, e2⟩
  · unfold hideEnv
    rw [if_neg (fun q => by rw [(st.pl b q).1] at e; cases e)]
    exact st.disB b z e
  · obtain ⟨f1, f2, f3, f4⟩ := st.fresh (fresh b q)
    refine ⟨f1, ?_, ?_⟩
    · unfold hideEnv; rw [if_neg f4]; exact f2
    · refine Nat.le_trans ?_ (above b q)
      have hb := (st.pl env.locals List.mem_cons_self).2.2
      obtain ⟨mv, hn, _⟩ := st.var
      exact Nat.le_of_lt (Nat.lt_of_le_of_lt hb hn.lt)
  · refine List.nodup_cons.mpr ⟨fun q => ?_, ?_⟩
    · obtain ⟨⟨n, b⟩, e1, e2⟩ := List.mem_map.mp q
      exact absurd (hab n b e1) (by rw [show b = env'.locals from e2]; exact Nat.lt_irrefl _)
    · exact List.pairwise_map.mpr hap
  · obtain ⟨n, hn⟩ := lookups b e
    exact ⟨_, hcell n b hn⟩
  · have q := hm y v e
    split at q
    · rename_i hl; simp only [hl]; exact q
    · rename_i hl
      obtain ⟨a, u, e1, e2, e3⟩ := q
      simp only [hl]
      exact ⟨a, u, e1, e2 ▸ hcell y a e1, e3⟩
    · exact q.elim
  · rcases mem_outerOf (show e ∈ outerOf env o.fs from he) with ⟨rfl, hf⟩ | he
    · refine ⟨by rw [hke]; decide, e.locals, ?_⟩
      obtain ⟨ob, ho, hd⟩ := st.place (a := e.locals) List.mem_cons_self
      refine ⟨ob, hf, ?_, ?_, hd⟩
      · unfold hideEnv; rw [if_pos (show e.locals ∈ places e from List.mem_cons_self), ho]; rfl
      · cases q : c.base.get? e.locals with
        | none => rfl
        | some z => exact absurd (Heap.lt_size q) (Nat.not_lt.mpr (st.pl e.locals List.mem_cons_self).2.2)
    · obtain ⟨k1, L, ob, k2, k3, k4, k5⟩ := st.frames.1 e he
      refine ⟨k1, L, ob, k2, ?_, k4, k5⟩
      unfold hideEnv
      rw [if_neg (fun q => by rw [(st.pl L q).2.1] at k3; cases k3)]
      exact k3
theorem St.leave (st : St c o env B m H s) {env' : Env} {B' : BMap} {m' : Loc} {H' : AHeap} {s' : Shared} (st' : St c ⟨outerOf env o.fs, hideEnv env s.heap B⟩ env' B' m' H' s') : St c o env B m H' s' := by
  have hidden : ∀ a ∈ places env, ∃ ob sl, s.heap.get? a = some ob ∧ s'.heap.get? a = some { ob with slots := sl } := fun a ha => by
    obtain ⟨ob, ho, _⟩ := st.place ha
    obtain ⟨sl, e1, _⟩ := st'.keep a ob true (st'.frames.2 _ _ (by show hideEnv env s.heap B a = _; unfold hideEnv; rw [if_pos ha, ho]; rfl))
    exact ⟨ob, sl, ho, e1⟩
  have old : ∀ a x, B a = some x → B' a = some x := fun a x e => st'.frames.2 _ _ <| by
    show hideEnv env s.heap B a = some x
    unfold hideEnv
    rw [if_neg (fun q => by rw [(st.pl a q).2.1] at e; cases e)]
    exact e
  have pn : ∀ a ∈ places env, ∃ x, B' a = some x := fun a ha => by
    obtain ⟨ob, ho, _⟩ := st.place ha
    exact ⟨(ob, true), st'.frames.2 _ _ (by show hideEnv env s.heap B a = _; unfold hideEnv; rw [if_pos ha, ho]; rfl)⟩
  refine ⟨st'.base, fun b ob l e => st'.keep b ob l (old b _ e), st'.own, fun b x e => ?_, st'.disBase, fun b q => ?_, st.nodup, fun b e => ?_, ?_, st.frames, st'.gens, st'.os, st'.tk⟩
  · have h1 := st'.disB b x e
    cases hb : B b with
    | none => rfl
    | some y => rw [old b y hb] at h1; cases h1
  · obtain ⟨e1, e2, e3⟩ := st.pl b q
    refine ⟨?_, e2, e3⟩
    obtain ⟨x, hx⟩ := pn b q
    cases hb : H' b with
    | none => rfl
    | some y => have := st'.disB b y hb; rw [hx] at this; cases this
  · obtain ⟨v, ob, e1, e2⟩ := st.cell b e
    obtain ⟨ob', sl, h1, h2⟩ := hidden b (List.mem_cons_of_mem _ e)
    rw [e1] at h1; cases h1
    exact ⟨v, _, h2, e2⟩
  · obtain ⟨mv, ⟨ob, es, ep, ho, hd, hk, hf⟩, hv⟩ := st.var
    obtain ⟨ob', sl, h1, h2⟩ := hidden env.locals List.mem_cons_self
    rw [ho] at h1; cases h1
    have cellK : ∀ x a z, env.cells.lookup x = some a → s.heap.IsCell a z → s'.heap.IsCell a z := fun x a z e ⟨ob, ho, hd⟩ => by
      obtain ⟨ob', sl, h1, h2⟩ := hidden a (List.mem_cons_of_mem _ (List.mem_map_of_mem (f := (·.2)) (mem_of_lookup e)))
      rw [ho] at h1; cases h1
      exact ⟨_, h2, hd⟩
    refine ⟨mv, ⟨_, es, ep, h2, hd, hk, hf⟩, fun x v e => ?_⟩
    have q := hv x v e
    split at q
    · exact q
    · obtain ⟨a, u, e1, e2, e3⟩ := q; exact ⟨a, u, e1, cellK x a _ e1 e2, e3⟩
    · obtain ⟨a, u, e1, e2, e3⟩ := q; exact ⟨a, u, e1, cellK x a _ e1 e2, e3⟩
    · exact q
theorem St.funFrames (st : St c o env B m H s) (hk : env.scope.kind = .function) : s.heap.FunFrames c.base (outerOf env o.fs) := by
  have hb : ∀ L, c.base.objs.size ≤ L → c.base.get? L = none := fun L h => none_ge h
  have go : ∀ l : List Env, (∀ e ∈ l, e.scope.kind ≠ .module ∧ ∃ L ob, e.frame = some L ∧ B L = some (ob, true) ∧ c.base.get? L = none ∧ ∀ vs, ob.data ≠ .fields vs) → s.heap.FunFrames c.base l := by
    intro l
    induction l with
    | nil => intro _; trivial
    | cons f r ih =>
      intro h
      obtain ⟨k1, L, ob, k2, k3, k4, k5⟩ := h f List.mem_cons_self
      obtain ⟨sl, e1, _⟩ := st.keep L ob true k3
      exact ⟨k1, ⟨L, _, k2, k4, e1, k5⟩, ih fun e he => h e (List.mem_cons_of_mem _ he)⟩
  unfold outerOf
  split
  · rename_i hf
    obtain ⟨ob, ho, hd⟩ := st.place (a := env.locals) List.mem_cons_self
    exact ⟨by rw [hk]; decide, ⟨env.locals, ob, hf, hb _ (st.pl _ List.mem_cons_self).2.2, ho, hd⟩, go _ st.frames.1⟩
  · exact go _ st.frames.1
theorem St.flown (st : St c o env B m H s) {base' h' : Heap} {tk : Nat} (hO : Ours c o env B H base') (h0 : base'.StaysIn s.heap) (h1 : base'.StaysIn h') (hu : s.heap.UpToSlots h') (ht : 1 ≤ tk) : St c o env B m H { s with heap := h', toks := tk } := by
  have notFrame : ∀ b, (∃ f ∈ outerOf env o.fs, f.frame = some b) → b ∈ places env ∨ ∃ ob, B b = some (ob, true) ∧ ∀ vs, ob.data ≠ .fields vs := fun b ⟨f, hf, e⟩ => by
    rcases mem_outerOf hf with ⟨rfl, hl⟩ | hf
    · rw [hl] at e; cases e; exact .inl List.mem_cons_self
    · obtain ⟨k1, L, ob, k2, k3, k4, k5⟩ := st.frames.1 f hf
      rw [k2] at e; cases e; exact .inr ⟨ob, k3, k5⟩
  have cellSame : ∀ a ∈ env.cells.map (·.2), ∀ ob, s.heap.get? a = some ob → h'.get? a = some ob := fun a ha ob ho => by
    have hp := st.pl a (List.mem_cons_of_mem _ ha)
    rcases hO.own a (.inr (.inr (List.mem_cons_of_mem _ ha))) with ⟨f, hf, e⟩ | ⟨ob', e'⟩
    · rcases mem_outerOf hf with ⟨rfl, hl⟩ | hf
      · rw [hl] at e; cases e
        exact absurd ha (List.nodup_cons.mp st.nodup).1
      · obtain ⟨k1, L, ob, k2, k3, k4, k5⟩ := st.frames.1 f hf
        rw [k2] at e; cases e; rw [hp.2.1] at k3; cases k3
    · have := h0 a ob' e'; rw [ho] at this; cases this; exact h1 a _ e'
  refine ⟨fun b ob e => h1 b ob (hO.cb b ob e), fun b ob l e => ?_, fun b x e => ?_, st.disB, st.disBase, st.pl, st.nodup, fun b e => ?_, ?_, st.frames, st.gens, st.os, ht⟩
  · obtain ⟨sl, e1, e2⟩ := st.keep b ob l e
    rcases hO.own b (.inr (.inl (by rw [e]; rfl))) with hf | ⟨ob', e'⟩
    · rcases notFrame b hf with hp | ⟨ob', k3, k5⟩
      · rw [(st.pl b hp).2.1] at e; cases e
      · rw [e] at k3; cases k3
        obtain ⟨sl', e3⟩ := hu b _ e1 k5
        exact ⟨sl', e3, fun q => by cases q⟩
    · have := h0 b ob' e'; rw [e1] at this; cases this
      exact ⟨sl, h1 b _ e', e2⟩
  · obtain ⟨ob, e1, e2⟩ := st.own b x e
    rcases hO.own b (.inl (by rw [e]; rfl)) with hf | ⟨ob', e'⟩
    · rcases notFrame b hf with hp | ⟨ob', k3, k5⟩
      · rw [(st.pl b hp).1] at e; cases e
      · rw [st.disB b x e] at k3; cases k3
    · have := h0 b ob' e'; rw [e1] at this; cases this
      exact ⟨ob, h1 b _ e', e2⟩
  · obtain ⟨v, ob, e1, e2⟩ := st.cell b e
    exact ⟨v, ob, cellSame b e ob e1, e2⟩
  · obtain ⟨mv, hn, hv⟩ := st.var
    refine ⟨mv, hu.ns hn, fun x v e => ?_⟩
    have cellK : ∀ x a z, env.cells.lookup x = some a → s.heap.IsCell a z → h'.IsCell a z := fun x a z e ⟨ob, ho, hd⟩ =>
      ⟨ob, cellSame a (List.mem_map_of_mem (f := (·.2)) (mem_of_lookup e)) ob ho, hd⟩
    have q := hv x v e
    split at q
    · exact q
    · obtain ⟨a, u, e1, e2, e3⟩ := q; exact ⟨a, u, e1, cellK x a _ e1 e2, e3⟩
    · obtain ⟨a, u, e1, e2, e3⟩ := q; exact ⟨a, u, e1, cellK x a _ e1 e2, e3⟩
    · exact q.elim
theorem St.making0 (st : St c o env B m H s) (hk : env.scope.kind = .function) {h' : Heap} {e : Addr} {cls : String} {xs : Option (List V)} {tk : Nat} {ob : Obj} {a0 : Value} (hkeep : ∀ b o, s.heap.get? b = some o → h'.get? b = some o) (hnew : s.heap.get? e = none) (he : h'.get? e = some ob) (hc : ob.cls = .type cls)
    (hd : ob.data = .fields #[a0, .none, .none, .none, .bool false, .none]) (ha : ∀ l, xs = some l → ∃ t vs n, a0 = .ref t ∧ (vs : List Value).map er = l ∧ h'.get? t = some { cls := .type "tuple", data := .seq vs.toArray n } ∧ s.heap.objs.size ≤ t ∧ s.heap.objs.size ≤ e ∧ t ≠ e) (ht : 1 ≤ tk) :
    St c o env B m H { s with heap := h', toks := tk } ∧ Made c o env B H e cls xs h' := by
  have stg := st.grown hkeep ht
  have frames : ∀ b ∈ (outerOf env o.fs).filterMap (·.frame), ∃ ob, s.heap.get? b = some ob ∧ c.base.get? b = none := fun b hm => by
    obtain ⟨f, hf, e⟩ := List.mem_filterMap.mp hm
    rcases mem_outerOf hf with ⟨rfl, hl⟩ | hf
    · rw [hl] at e; cases e
      obtain ⟨ob, ho, _⟩ := st.place (a := f.locals) List.mem_cons_self
      exact ⟨ob, ho, none_ge (st.pl f.locals List.mem_cons_self).2.2⟩
    · obtain ⟨k1, L, ob, k2, k3, k4, k5⟩ := st.frames.1 f hf
      rw [k2] at e; cases e
      obtain ⟨sl, e1, _⟩ := st.keep _ ob true k3
      exact ⟨{ ob with slots := sl }, e1, k4⟩
  have away : ∀ a, s.heap.objs.size ≤ a → Away env B H a := fun a h => by
    obtain ⟨f1, f2, f3, f4⟩ := st.fresh (st.none_at h)
    exact ⟨f1, f2, f4⟩
  refine ⟨stg, hideAll h' (e :: (outerOf env o.fs).filterMap (·.frame)), ob, a0, ⟨fun b ob q => hideAll_get _ (hkeep b ob (st.base b ob q)) fun hm => ?_, fun b q => ?_⟩, fun b ob q => of_hideAll _ q, funFrames_hide (stg.funFrames hk) fun f hf a e => List.mem_cons_of_mem _ (List.mem_filterMap.mpr ⟨f, hf, e⟩),
    hideAll_none _ List.mem_cons_self, he, hc, hd, fun l q => ?_⟩
  · rcases List.mem_cons.mp hm with rfl | hm
    · have := st.base b ob q; rw [hnew] at this; cases this
    · obtain ⟨_, _, k4⟩ := frames b hm
      rw [k4] at q; cases q
  · by_cases hm : b ∈ (outerOf env o.fs).filterMap (·.frame)
    · obtain ⟨f, hf, e⟩ := List.mem_filterMap.mp hm
      exact .inl ⟨f, hf, e⟩
    · refine .inr ?_
      have : ∃ ob, s.heap.get? b = some ob := by
        rcases q with q | q | q
        · obtain ⟨x, hx⟩ := Option.isSome_iff_exists.mp q
          obtain ⟨ob, e1, _⟩ := st.own b x hx; exact ⟨ob, e1⟩
        · obtain ⟨⟨ob, l⟩, hx⟩ := Option.isSome_iff_exists.mp q
          obtain ⟨sl, e1, _⟩ := st.keep b ob l hx; exact ⟨_, e1⟩
        · obtain ⟨ob, e1, _⟩ := st.place q; exact ⟨ob, e1⟩
      obtain ⟨ob, ho⟩ := this
      refine ⟨ob, hideAll_get _ (hkeep b ob ho) fun hm' => ?_⟩
      rcases List.mem_cons.mp hm' with rfl | hm'
      · rw [hnew] at ho; cases ho
      · exact hm hm'
  · obtain ⟨t, vs, n, h1, h2, h3, h4, h5, h6⟩ := ha l q
    refine ⟨t, vs, n, h1, h2, hideAll_get _ h3 fun hm => ?_, Nat.le_trans st.baseLe h4, Nat.le_trans st.baseLe h5, away t h4, away e h5⟩
    rcases List.mem_cons.mp hm with rfl | hm
    · exact h6 rfl
    · obtain ⟨_, e1, _⟩ := frames t hm
      rw [st.none_at h4] at e1; cases e1
theorem St.makingNew (st : St c o env B m H s) (hk : env.scope.kind = .function) {h' : Heap} {e : Addr} {cls : String} {tk : Nat} (hx : Heap.NewExc s.heap h' e cls) (ht : 1 ≤ tk) :
    St c o env B m H { s with heap := h', toks := tk } ∧ Made c o env B H e cls none h' := by
  obtain ⟨ob, a0, he, hc, hd⟩ := hx.there
  exact st.making0 hk hx.keeps hx.new he hc hd (fun l q => by cases q) ht
theorem Away.leave {env' : Env} {B' : BMap} {m' : Loc} {H' : AHeap} {s₀ s' : Shared} (st₀ : St c o env B m H s₀) (st' : St c ⟨outerOf env o.fs, hideEnv env s₀.heap B⟩ env' B' m' H' s') {a : Addr} (h : Away env' B' H' a) : Away env B H' a := by
  obtain ⟨h1, h2, h3⟩ := h
  refine ⟨h1, ?_, fun q => ?_⟩
  · cases e : B a with
    | none => rfl
    | some x =>
      rw [st'.frames.2 a x (by show hideEnv env s₀.heap B a = _; unfold hideEnv; rw [if_neg (fun z => by rw [(st₀.pl a z).2.1] at e; cases e)]; exact e)] at h2
      cases h2
  · obtain ⟨ob, ho, _⟩ := st₀.place q
    rw [st'.frames.2 a (ob, true) (by show hideEnv env s₀.heap B a = _; unfold hideEnv; rw [if_pos q, ho]; rfl)] at h2
    cases h2
theorem ArgsOf.leave {env' : Env} {B' : BMap} {m' : Loc} {H' : AHeap} {s₀ s' : Shared} (st₀ : St c o env B m H s₀) (st' : St c ⟨outerOf env o.fs, hideEnv env s₀.heap B⟩ env' B' m' H' s') {base' : Heap} {e : Addr} {a0 : Value} {l : List V} (h : ArgsOf c env' B' H' base' e a0 l) : ArgsOf c env B H' base' e a0 l := by
  obtain ⟨t, vs, n, h1, h2, h3, h4, h5, h6, h7⟩ := h
  exact ⟨t, vs, n, h1, h2, h3, h4, h5, h6.leave st₀ st', h7.leave st₀ st'⟩
theorem Ours.leave {env' : Env} {B' : BMap} {m' : Loc} {H' : AHeap} {s₀ s' : Shared} (st₀ : St c o env B m H s₀) (st' : St c ⟨outerOf env o.fs, hideEnv env s₀.heap B⟩ env' B' m' H' s') {base' : Heap} (hf' : env'.frame = some env'.locals)
    (hO : Ours c ⟨outerOf env o.fs, hideEnv env s₀.heap B⟩ env' B' H' base') : Ours c o env B H' base' := by
  refine ⟨hO.cb, fun b q => ?_⟩
  have q' : (H' b).isSome ∨ (B' b).isSome := by
    rcases q with q | q | q
    · exact .inl q
    · obtain ⟨x, hx⟩ := Option.isSome_iff_exists.mp q
      refine .inr ?_
      rw [st'.frames.2 b x (by show hideEnv env s₀.heap B b = _; unfold hideEnv; rw [if_neg (fun z => by rw [(st₀.pl b z).2.1] at hx; cases hx)]; exact hx)]; rfl
    · obtain ⟨ob, ho, _⟩ := st₀.place q
      refine .inr ?_
      rw [st'.frames.2 b (ob, true) (by show hideEnv env s₀.heap B b = _; unfold hideEnv; rw [if_pos q, ho]; rfl)]; rfl
  rcases hO.own b (by rcases q' with q' | q'; exact .inl q'; exact .inr (.inl q')) with ⟨f, hf, e⟩ | r
  · rcases mem_outerOf (show f ∈ outerOf env' (outerOf env o.fs) from hf) with ⟨rfl, hl⟩ | hf
    · rw [hl] at e; cases e
      have hp := st'.pl f.locals List.mem_cons_self
      rcases q' with q' | q'
      · rw [hp.1] at q'; cases q'
      · rw [hp.2.1] at q'; cases q'
    · exact .inl ⟨f, hf, e⟩
  · exact .inr r
end
structure FnAt (c : Cx) (f : Addr) (fd : FuncData) (body : List Stmt) : Prop where
  obj : ∃ fo, c.base.get? f = some fo ∧ fo.data = .func fd
  code : c.base.CodeRec fd.code fd.qualname
  body : fd.body = .stmts body
  kind : fd.scope.kind = .function
  co : fd.scope.isCoroutine = false
  gen : fd.scope.isGenerator = false
  glob : fd.globals = mainGlobals
  blt : fd.builtins = builtinsNs
  clo : fd.closure = []
  names : (fd.scope.names.map (·.1)).Nodup
theorem cellsFrom_names : ∀ (names : List (Str × NameKind)) (n : Nat) (acc : List (Str × Addr)), (names.map (·.1)).Nodup → (acc.map (·.1)).Nodup → (∀ x ∈ names.map (·.1), x ∉ acc.map (·.1)) → ((cellsFrom n names acc).map (·.1)).Nodup
  | [], n, acc, h1, h2, h3 => h2
  | (x, k) :: r, n, acc, h1, h2, h3 => by
    rw [List.map_cons, List.nodup_cons] at h1
    unfold cellsFrom
    split
    · refine cellsFrom_names r (n + 1) _ h1.2 ?_ fun y hy q => ?_
      · rw [List.map_cons, List.nodup_cons]; exact ⟨h3 x List.mem_cons_self, h2⟩
      · rw [List.map_cons] at q
        rcases List.mem_cons.mp q with rfl | q
        · exact h1.1 hy
        · exact h3 y (List.mem_cons_of_mem _ hy) q
    · exact cellsFrom_names r n acc h1.2 h2 fun y hy => h3 y (List.mem_cons_of_mem _ hy)
theorem cellsFrom_map : ∀ (names : List (Str × NameKind)) (n n' : Nat) (acc acc' : List (Str × Addr)), acc.map (·.1) = acc'.map (·.1) → (cellsFrom n names acc).map (·.1) = (cellsFrom n' names acc').map (·.1)
  | [], n, n', acc, acc', h => h
  | (x, k) :: r, n, n', acc, acc', h => by
    unfold cellsFrom
    split
    · exact cellsFrom_map r _ _ _ _ (by rw [List.map_cons, List.map_cons, h])
    · exact cellsFrom_map r _ _ _ _ h
noncomputable def cellNames (names : List (Str × NameKind)) : List Str := (cellsFrom 0 names []).map (·.1)
structure Sub (c : Cx) (A : Around) (fd : FuncData) (X : String → Option (List V) → AHeap → Prop) (k : Wk) : Prop where
  c : k.c = c
  sc : k.env.scope = fd.scope
  cn : k.env.cells.map (·.1) = cellNames fd.scope.names
  frame : k.env.frame = some k.env.locals
  depth : k.A.depth = A.depth + 1
  units : k.A.units = A.units + 3
  handled : k.A.handled = A.handled
  guards : k.A.guards = A.guards
  X : k.X = fun cls xs _ H => X cls xs H
  here : k.here
theorem Sub.senv {c : Cx} {A : Around} {fd : FuncData} {X : String → Option (List V) → AHeap → Prop} {k : Wk} (h : Sub c A fd X k) : SEnv k fd.scope (cellNames fd.scope.names) := ⟨h.sc, h.cn⟩
noncomputable def Fn (c : Cx) (A : Around) (f : Value) (args : Args) (H : AHeap) (Q : V → AHeap → Prop) (X : String → Option (List V) → AHeap → Prop) : Prop :=
  ∀ o env B m s, env.scope.kind = .function → A.frames = some (outerOf env o.fs) → St c o env B m H s → codeAny (model c.prog c.w) A (.call f args) (fun r s' => match r with
    | .ok (.ret v) => ∃ H', St c o env B m H' s' ∧ Q (er v) H'
    | .error x => ∃ H' a cls xs, x = .ref a ∧ St c o env B m H' s' ∧ InFl c o env B H' a cls xs s'.heap ∧ X cls xs H'
    | _ => False) s
noncomputable abbrev NoX : String → Option (List V) → AHeap → Prop := fun _ _ _ => False
noncomputable def flowV : Flow → V
  | .ret v => er v
  | _ => .none
theorem Fn.mono {c : Cx} {A : Around} {f : Value} {args : Args} {H : AHeap} {Q Q' : V → AHeap → Prop} {X X' : String → Option (List V) → AHeap → Prop} (h : Fn c A f args H Q X) (hQ : ∀ v H, Q v H → Q' v H) (hX : ∀ a b H, X a b H → X' a b H) : Fn c A f args H Q' X' :=
  fun o env B m s hk hf st => codeAny_mono (h o env B m s hk hf st) fun r s' q => by
    split at q
    · obtain ⟨H', st', q⟩ := q; exact ⟨H', st', hQ _ _ q⟩
    · obtain ⟨H', a, cls, xs, e, st', i, q⟩ := q; exact ⟨H', a, cls, xs, e, st', i, hX _ _ _ q⟩
    · exact q.elim
theorem Fn.of_body {c : Cx} {A : Around} {f : Addr} {fd : FuncData} {body : List Stmt} {args : Args} {binds : List (Str × Value)} {H : AHeap} {Q : V → AHeap → Prop} {X : String → Option (List V) → AHeap → Prop} (F : FnAt c f fd body)
    (hroom : A.depth < recursionLimit) (hbind : ∀ s, c.base.StaysIn s.heap → BindsTo s fd args binds)
    (hkind : (binds.all fun y => fd.scope.names.lookup y.1 == some .local || fd.scope.names.lookup y.1 == some .cell) = true)
    (h : ∀ k, Sub c A fd X k → W k (execs body k.env) (bindM (binds.map fun b => (b.1, er b.2)) noLoc) H fun fl _ H' => Q (flowV fl) H') : Fn c A (.ref f) args H Q X := by
  intro o env B m s hke hfr st
  obtain ⟨fo, hfo, hd⟩ := F.obj
  have hnd := cellsFrom_names fd.scope.names
  refine codeAny_call_function hroom (st.base f fo hfo) hd F.co F.gen F.body (F.code.keeps st.base) (hbind s st.base _ _ _ _ ?_)
  rw [F.clo]
  refine wpAny_mono (wpAny_toks_of st.tk (wpAny_newFunctionEnv_cells (E := fun _ _ => False) (Q := fun e s₁ => e = callEnvC fd s.heap.objs.size f ∧ InCallC s e.locals (bindL e.kindOf binds fun _ => none) e.cells (bindC e.kindOf binds fun _ => none) s₁)
    F.kind (kindsX hkind _) fun env' he s₁ x => ⟨he, x⟩)) (fun env' s₁ q => ?_) fun _ _ x => x.2.elim
  obtain ⟨ht, rfl, x⟩ := q
  have hmk : ∀ y v, bindM (binds.map fun b => (b.1, er b.2)) noLoc y = some v → match (callEnvC fd s.heap.objs.size f).kindOf y with
      | some .local => ∃ u, bindL (callEnvC fd s.heap.objs.size f).kindOf binds (fun _ => none) y = some u ∧ er u = v
      | some .cell => ∃ a u, (callEnvC fd s.heap.objs.size f).cells.lookup y = some a ∧ bindC (callEnvC fd s.heap.objs.size f).kindOf binds (fun _ => none) y = some u ∧ er u = v
      | _ => False :=
    bindM_var binds _ _ noLoc (kindsX hkind _) (fun y v e => by cases e)
  have st₁ := st.enter hke (env' := callEnvC fd s.heap.objs.size f) x hmk (hnd _ [] F.names List.nodup_nil (fun _ _ q => by cases q)) ht
  refine ⟨c.top.nolimit.keeps fun b ob e => x.toInCall.keep b ob (st.base b ob e), codeAny_func ?_⟩
  have hframe : (callEnvC fd s.heap.objs.size f).frame = some (callEnvC fd s.heap.objs.size f).locals := rfl
  have hA : (A.deeper (callEnvC fd s.heap.objs.size f)).frames = some (callEnvC fd s.heap.objs.size f :: outerOf env o.fs) := by show A.frames.map _ = _; rw [hfr]; rfl
  have hout : outerOf (callEnvC fd s.heap.objs.size f) (outerOf env o.fs) = callEnvC fd s.heap.objs.size f :: outerOf env o.fs := if_pos hframe
  let k : Wk := {
    c := c, A := A.deeper (callEnvC fd s.heap.objs.size f), o := ⟨outerOf env o.fs, hideEnv env s.heap B⟩, env := callEnvC fd s.heap.objs.size f,
    E := fun e s' => wpAny (model c.prog c.w) (A.deeper (callEnvC fd s.heap.objs.size f)) (leaving (callEnvC fd s.heap.objs.size f) e)
      (fun _ s'' => ∃ H' a cls xs, e = .ref a ∧ St c o env B m H' s'' ∧ InFl c o env B H' a cls xs s''.heap ∧ X cls xs H')
      (fun e' s'' => ∃ H' a cls xs, e' = .ref a ∧ St c o env B m H' s'' ∧ InFl c o env B H' a cls xs s''.heap ∧ X cls xs H') s',
    X := fun cls xs _ H => X cls xs H, here := True,
    pass := PassesOwn.leaving,
    fly := fun B' m' H' s' e cls xs st' i hX => by
      obtain ⟨base', a0, hO, hfl, hargs⟩ := i
      rw [show outerOf (callEnvC fd s.heap.objs.size f) (outerOf env o.fs) = callEnvC fd s.heap.objs.size f :: outerOf env o.fs from hout] at hfl
      have hO' := Ours.leave st st' hframe hO
      refine wpAny_leaves_onW hA hframe hfl fun h' hfl' hu => ?_
      exact ⟨H', e, cls, xs, rfl, (st.leave st').flown hO' hfl.1 hfl'.1 hu st'.tk, ⟨base', a0, hO', hfl', fun l q => (hargs l q).leave st st'⟩, hX⟩,
    made := fun _ B' m' H' s' e cls xs st' i hX => by
      obtain ⟨base', ob, a0, hO, hs0, hff, hnew, he, hc, hd, hargs⟩ := i
      rw [show outerOf (callEnvC fd s.heap.objs.size f) (outerOf env o.fs) = callEnvC fd s.heap.objs.size f :: outerOf env o.fs from hout] at hff
      have hO' := Ours.leave st st' hframe hO
      refine wpAny_leaving_firstW (a0 := a0) hA hff hframe he hs0 hnew hd rfl rfl fun h' hL => ?_
      rw [hc] at hL
      obtain ⟨k1, ⟨_, _, k2⟩, k3, k4⟩ := hL
      exact ⟨H', e, cls, xs, rfl, (st.leave st').flown hO' hs0 k1 k4 st'.tk, ⟨base', a0, hO', ⟨k1, hnew, k2, k3⟩, fun l q => (hargs l q).leave st st'⟩, hX⟩,
    kind := F.kind, glob := F.glob, blt := F.blt, frames := hA.trans (congrArg some hout.symm), fat := .inl hframe }
  have hk := h k ⟨rfl, rfl, cellsFrom_map _ _ _ _ _ rfl, rfl, rfl, rfl, rfl, rfl, rfl, trivial⟩ (hideEnv env s.heap B) s₁ st₁
  refine wpAny_mono hk (fun fl s' q => ?_) fun e s' q => ?_
  · obtain ⟨m', H', st', q⟩ := q
    refine ⟨H', st.leave st', ?_⟩
    cases fl <;> exact q
  · exact q
end Mine
namespace Mine
section
variable {k : Wk} {m : Loc} {H : AHeap}
theorem WBin_add {i j : Int} {Q : V → Loc → AHeap → Prop} (h : Q (.int (i + j)) m H) : WBin k .Add (.int i) (.int j) m H Q := fun x y hx hy => by
  obtain ⟨t, rfl⟩ := er_int hx; obtain ⟨u, rfl⟩ := er_int hy
  exact W.of_wp fun B s st P hp => wpAny_add_int (hp _ _ h)
theorem WBin_sub {i j : Int} {Q : V → Loc → AHeap → Prop} (h : Q (.int (i - j)) m H) : WBin k .Sub (.int i) (.int j) m H Q := fun x y hx hy => by
  obtain ⟨t, rfl⟩ := er_int hx; obtain ⟨u, rfl⟩ := er_int hy
  exact W.of_wp fun B s st P hp => PyProof.Rows.sub_int (hp _ _ h)
structure Roomy (k : Wk) : Prop where
  depth : k.A.depth + Builtin.pylongFrames < recursionLimit
  imp : importsNone k.c.p = true
  tree : k.c.prog.given.tree = none
  fr : ∃ e r, k.A.frames = some (e :: r) ∧ e.scope.isGenerator = false ∧ e.scope.isCoroutine = false ∧ e.builtins = builtinsNs ∧ e.globals = mainGlobals
theorem pylong_of {B : BMap} {s : Shared} (hr : Roomy k) (st : St k.c k.o k.env B m H s) : PylongRoom (model k.c.prog k.c.w) k.A s := by
  obtain ⟨e, r, h1, h2, h3, h4, h5⟩ := hr.fr
  exact PylongRoom.of (k.c.top.nolimit.keeps st.base) hr.depth (SeerAt.of ((k.c.top.seer hr.imp).keeps st.base) hr.tree h1 h2 h3 h4 h5)
theorem WBin_fdiv {i j : Int} {Q : V → Loc → AHeap → Prop} (hr : Roomy k) (hj : j ≠ 0) (h : Q (.int (i.fdiv j)) m H) : WBin k .FloorDiv (.int i) (.int j) m H Q := fun x y hx hy => by
  obtain ⟨t, rfl⟩ := er_int hx; obtain ⟨u, rfl⟩ := er_int hy
  exact W.of_wp fun B s st P hp => PyProof.Rows.floordiv_int hj (hp _ _ h) (.inr (pylong_of hr st))
theorem WInpl_fdiv {i j : Int} {Q : V → Loc → AHeap → Prop} (hr : Roomy k) (hj : j ≠ 0) (h : Q (.int (i.fdiv j)) m H) : WInpl k .FloorDiv (.int i) (.int j) m H Q := fun x y hx hy => by
  obtain ⟨t, rfl⟩ := er_int hx; obtain ⟨u, rfl⟩ := er_int hy
  exact W.of_wp fun B s st P hp => PyProof.Rows.ifloordiv_int hj (hp _ _ h) (.inr (pylong_of hr st))
theorem WBin_mod {i j : Int} {Q : V → Loc → AHeap → Prop} (hr : Roomy k) (hj : j ≠ 0) (h : Q (.int (i.fmod j)) m H) : WBin k .Mod (.int i) (.int j) m H Q := fun x y hx hy => by
  obtain ⟨t, rfl⟩ := er_int hx; obtain ⟨u, rfl⟩ := er_int hy
  exact W.of_wp fun B s st P hp => PyProof.Rows.mod_int' hj (hp _ _ h)
theorem WInpl_mod {i j : Int} {Q : V → Loc → AHeap → Prop} (hr : Roomy k) (hj : j ≠ 0) (h : Q (.int (i.fmod j)) m H) : WInpl k .Mod (.int i) (.int j) m H Q := fun x y hx hy => by
  obtain ⟨t, rfl⟩ := er_int hx; obtain ⟨u, rfl⟩ := er_int hy
  exact W.of_wp fun B s st P hp => PyProof.Rows.imod_int hj (hp _ _ h)
theorem WBin_pow {i j : Int} {Q : V → Loc → AHeap → Prop} (h0 : 0 ≤ j) (h1 : j ≤ 1000000) (h2 : i.natAbs < 2 ^ 64) (h : Q (.int (i ^ j.toNat)) m H) : WBin k .Pow (.int i) (.int j) m H Q := fun x y hx hy => by
  obtain ⟨t, rfl⟩ := er_int hx; obtain ⟨u, rfl⟩ := er_int hy
  exact W.of_wp fun B s st P hp => PyProof.Rows.pow_int h0 (bits_mul_le h2 h0 h1) (hp _ _ h)
noncomputable def WUn (k : Wk) (op : UnaryOp) (a : V) (m : Loc) (H : AHeap) (Q : V → Loc → AHeap → Prop) : Prop := ∀ x, er x = a → WV k (unaryOp op x) m H Q
theorem W_UnaryOp {op : UnaryOp} {e : Expr} {pos : Pos} {Q : V → Loc → AHeap → Prop} (h : WV k (eval e k.env) m H fun v m1 H1 => WUn k op v m1 H1 Q) : WV k (eval (.UnaryOp op e pos) k.env) m H Q :=
  fun B s st => wpAny_UnaryOp (wpAny_mono (h B s st) (fun v s1 ⟨m1, H1, st1, q⟩ => q v rfl B s1 st1) fun _ _ x => x)
theorem WUn_neg {i : Int} {Q : V → Loc → AHeap → Prop} (h : Q (.int (-i)) m H) : WUn k .USub (.int i) m H Q := fun x hx => by
  obtain ⟨t, rfl⟩ := er_int hx
  exact W.of_wp fun B s st P hp => PyProof.Rows.neg_int (hp _ _ h)
theorem WCmp_lt {i j : Int} {Q : V → Loc → AHeap → Prop} (h : Q (.bool (decide (i < j))) m H) : WCmp k .Lt (.int i) (.int j) m H Q := fun x y hx hy => by
  obtain ⟨t, rfl⟩ := er_int hx; obtain ⟨u, rfl⟩ := er_int hy
  exact W.of_wp fun B s st P hp => wpAny_lt_int (hp _ s.toks h)
theorem WCmp_ge {i j : Int} {Q : V → Loc → AHeap → Prop} (h : Q (.bool (decide (j ≤ i))) m H) : WCmp k .GtE (.int i) (.int j) m H Q := fun x y hx hy => by
  obtain ⟨t, rfl⟩ := er_int hx; obtain ⟨u, rfl⟩ := er_int hy
  exact W.of_wp fun B s st P hp => PyProof.Rows.ge_int (hp _ s.toks h)
theorem WCmp_eqS {a b : Str} {t u : Tok} {Q : V → Loc → AHeap → Prop} (h : Q (.bool (decide (a = b))) m H) : WCmp k .Eq (.str a t) (.str b u) m H Q := fun x y hx hy => by
  obtain rfl := er_str hx; obtain rfl := er_str hy
  have e : (a == b) = decide (a = b) := by by_cases hij : a = b <;> simp [hij]
  exact W.of_wp fun B s st P hp => PyProof.Rows.eq_str (e ▸ hp _ s.toks h)
noncomputable def notNone : V → Bool
  | .none => false
  | _ => true
theorem WCmp_isNotNone {v : V} {Q : V → Loc → AHeap → Prop} (h : Q (.bool (notNone v)) m H) : WCmp k .IsNot v .none m H Q := fun x y hx hy => by
  obtain rfl := er_none hy
  have e : (!(x == .none)) = notNone v := by subst hx; cases x <;> rfl
  exact W.of_wp fun B s st P hp => isnot_none_gen (e ▸ hp _ s.toks h)
theorem WCmp_isTy {a b : String} {Q : V → Loc → AHeap → Prop} (h : Q (.bool (decide (a = b))) m H) : WCmp k .Is (.ty a) (.ty b) m H Q := fun x y hx hy => by
  obtain rfl := er_ty hx; obtain rfl := er_ty hy
  have e : (Value.type a == Value.type b) = decide (a = b) := by by_cases hij : a = b <;> simp [hij]
  exact W.of_wp fun B s st P hp => wpAny_is_plain rfl (e ▸ hp _ s.toks h)
theorem WCmp_isNotTy {a b : String} {Q : V → Loc → AHeap → Prop} (h : Q (.bool (decide (a ≠ b))) m H) : WCmp k .IsNot (.ty a) (.ty b) m H Q := fun x y hx hy => by
  obtain rfl := er_ty hx; obtain rfl := er_ty hy
  have e : (!(Value.type a == Value.type b)) = decide (a ≠ b) := by by_cases hij : a = b <;> simp [hij]
  exact W.of_wp fun B s st P hp => wpAny_isNot_plain rfl (e ▸ hp _ s.toks h)
theorem WTr_int {i : Int} {Q : Bool → Loc → AHeap → Prop} (h : Q (decide (i ≠ 0)) m H) : WTr k (.int i) m H Q := fun x hx => by
  obtain ⟨t, rfl⟩ := er_int hx
  have e : (i != 0) = decide (i ≠ 0) := by by_cases hij : i = 0 <;> simp [hij]
  exact W.of_wp fun B s st P hp => PyProof.Rows.truthy_int (e ▸ hp _ s.toks h)
noncomputable def WItems (k : Wk) (es : List Expr) (m : Loc) (H : AHeap) (Q : List V → Loc → AHeap → Prop) : Prop := ∀ pos, W k (spliced (backTo pos (starEach es k.env))) m H fun vs => Q (vs.map er)
theorem WItems_nil {Q : List V → Loc → AHeap → Prop} (h : Q [] m H) : WItems k [] m H Q := fun pos B s st => wpAny_items_nil ⟨m, H, st, h⟩
theorem WItems_cons {e : Expr} {es : List Expr} {Q : List V → Loc → AHeap → Prop} (h : WV k (eval e k.env) m H fun v m1 H1 => WItems k es m1 H1 fun vs => Q (v :: vs))
    (he : starEach (e :: es) k.env = (false, eval e k.env) :: starEach es k.env := by rfl) : WItems k (e :: es) m H Q := fun pos B s st =>
  wpAny_items_cons (wpAny_mono (h B s st) (fun v s1 ⟨m1, H1, st1, q⟩ => wpAny_mono (q pos B s1 st1) (fun vs s2 ⟨m2, H2, st2, q2⟩ => ⟨m2, H2, st2, q2⟩) fun _ _ x => x) fun _ _ x => x) he
theorem St.newList {c : Cx} {o : Out} {env : Env} {B : BMap} {s : Shared} (st : St c o env B m H s) (vs : List Value) :
    H s.heap.objs.size = none ∧ St c o env B m (upd H s.heap.objs.size (.list (vs.map er))) { s with heap := s.heap.push { cls := .type "list", data := .seq vs.toArray } } := by
  have hn := st.none_at (Nat.le_refl _)
  exact ⟨(st.fresh hn).1, st.new (tk := s.toks) (Nat.le_refl _) (fun b ob e => Heap.get?_push_of_some _ e) ⟨_, Heap.get?_push_size _ rfl, vs, 0, rfl, rfl⟩ st.tk⟩
theorem St.newTup {c : Cx} {o : Out} {env : Env} {B : BMap} {s : Shared} (st : St c o env B m H s) (vs : List Value) :
    H s.heap.objs.size = none ∧ St c o env B m (upd H s.heap.objs.size (.tup (vs.map er))) { s with heap := s.heap.push { cls := .type "tuple", data := .seq vs.toArray } } := by
  have hn := st.none_at (Nat.le_refl _)
  exact ⟨(st.fresh hn).1, st.new (tk := s.toks) (Nat.le_refl _) (fun b ob e => Heap.get?_push_of_some _ e) ⟨_, Heap.get?_push_size _ rfl, vs, 0, rfl, rfl⟩ st.tk⟩
theorem W_List {es : List Expr} {pos : Pos} {Q : V → Loc → AHeap → Prop} (h : WItems k es m H fun vs m1 H1 => vs.length ≤ sizeLine ∧ ∀ a, H1 a = none → Q (.ref a) m1 (upd H1 a (.list vs))) : WV k (eval (.List es pos) k.env) m H Q :=
  fun B s st => wpAny_List (wpAny_mono (h pos B s st) (fun vs s1 ⟨m1, H1, st1, q⟩ => by
    obtain ⟨hn, st2⟩ := st1.newList vs
    exact ⟨by simpa using q.1, m1, _, st2, q.2 _ hn⟩) fun _ _ x => x)
theorem W_Tuple {es : List Expr} {n : Nat} {pos : Pos} {Q : V → Loc → AHeap → Prop} (h : WItems k es m H fun vs m1 H1 => vs.length ≤ sizeLine ∧ ∀ a, H1 a = none → Q (.ref a) m1 (upd H1 a (.tup vs))) : WV k (eval (.Tuple es n pos) k.env) m H Q :=
  fun B s st => wpAny_Tuple (wpAny_mono (h pos B s st) (fun vs s1 ⟨m1, H1, st1, q⟩ => by
    obtain ⟨hn, st2⟩ := st1.newTup vs
    exact ⟨by simpa using q.1, m1, _, st2, q.2 _ hn⟩) fun _ _ x => x)
theorem W_Dict0 {pos : Pos} {Q : V → Loc → AHeap → Prop} (h : ∀ a, H a = none → Q (.ref a) m (upd H a (.dict [] 0))) : WV k (eval (.Dict [] [] pos) k.env) m H Q := fun B s st => by
  show wpAny _ _ (do standAt pos; dictDisplay []) _ _ s
  refine wpAny_bind (wpAny_standAt ?_)
  show wpAny _ _ (do match ← (do if ([] : List (Sem Value × Sem Value)).isEmpty then return (Option.none : Option Addr) else return Option.none : Sem (Option Addr)) with
    | some d => pure (.ref d)
    | Option.none => newDict) _ _ s
  refine wpAny_bind (wpAny_pure ?_)
  have hn := st.none_at (Nat.le_refl _)
  refine wpAny_newObj_type ⟨m, _, st.new (y := .dict [] 0) (tk := s.toks) (Nat.le_refl _) (fun b ob e => Heap.get?_push_of_some _ e) ⟨_, Heap.get?_push_size _ rfl, ⟨rfl, rfl, rfl⟩, #[], rfl, fun _ he => by simp at he, [], Pairs.nil, List.nodup_nil, rfl⟩ st.tk, h _ (st.fresh hn).1⟩
end
end Mine
namespace Mine
noncomputable def getK : List (Key × V) → Key → Option V
  | [], _ => none
  | (k', v) :: r, k => if k' = k then some v else getK r k
noncomputable def putK : List (Key × V) → Key → V → List (Key × V)
  | [], k, v => [(k, v)]
  | (k', w) :: r, k, v => if k' = k then (k', v) :: r else (k', w) :: putK r k v
noncomputable abbrev erP (kv : Key × Value) : Key × V := (kv.1, er kv.2)
theorem getK_er (rvs : List (Key × Value)) (k : Key) : getK (rvs.map erP) k = (valueAt rvs k).map er := by
  induction rvs with
  | nil => rfl
  | cons p r ih =>
    obtain ⟨k', v⟩ := p
    rw [List.map_cons]
    unfold getK
    by_cases h : k' = k
    · subst h; simp [valueAt]
    · rw [if_neg h, ih]
      simp [valueAt, h]
theorem putK_new {kvs : List (Key × V)} {k : Key} {v : V} (h : getK kvs k = none) : putK kvs k v = kvs ++ [(k, v)] := by
  induction kvs with
  | nil => rfl
  | cons p r ih =>
    obtain ⟨k', w⟩ := p
    by_cases hne : k' = k
    · cases (if_pos hne).symm.trans h
    · exact (if_neg hne).trans (congrArg ((k', w) :: ·) (ih ((if_neg hne).symm.trans h)))
theorem putK_er {rvs : List (Key × Value)} (hn : (rvs.map (·.1)).Nodup) (k : Key) (v : Value) : (stored rvs k v).map erP = putK (rvs.map erP) k (er v) := by
  unfold stored
  induction rvs with
  | nil => rfl
  | cons p r ih =>
    obtain ⟨k', w⟩ := p
    rw [List.map_cons, List.nodup_cons] at hn
    by_cases h : k' = k
    · subst h
      have e : (r.map fun kv => if kv.1 = k' then (kv.1, v) else kv) = r := map_store_of_not_mem r k' v hn.1
      have h0 : (((k', w) :: r).any fun kv => decide (kv.1 = k')) = true := Bool.or_eq_true_iff.mpr (.inl (decide_eq_true rfl))
      rw [if_pos h0]
      show erP (if k' = k' then (k', v) else (k', w)) :: (r.map fun kv => if kv.1 = k' then (kv.1, v) else kv).map erP = (if k' = k' then (k', er v) :: r.map erP else (k', er w) :: putK (r.map erP) k' (er v))
      rw [if_pos rfl, if_pos rfl, e]
    · have ih' := ih hn.2
      have e : putK (((k', w) :: r).map erP) k (er v) = (k', er w) :: putK (r.map erP) k (er v) := by
        rw [List.map_cons]
        show (if k' = k then _ else _) = _
        rw [if_neg h]
      rw [e, ← ih']
      by_cases hany : (r.any fun kv => decide (kv.1 = k)) = true
      · rw [if_pos hany, if_pos (by rw [List.any_cons, hany, Bool.or_true])]
        simp [h]
      · have hany' : (r.any fun kv => decide (kv.1 = k)) = false := (Bool.not_eq_true _).mp hany
        rw [if_neg hany, if_neg (by rw [List.any_cons, hany']; simp [h])]
        simp
noncomputable def epK (kvs : List (Key × V)) (k : Key) (ep : Nat) : Nat := if (getK kvs k).isSome then ep else ep + 1
section
variable {c : Cx} {A : Around} {E : Value → Shared → Prop} {s : Shared}
theorem dictAt_of {d : Addr} {ob : Obj} {kvs : List (Key × V)} {ep : Nat} {h : Heap} (ho : h.get? d = some ob) (hI : IsObj c ob (.dict kvs ep)) :
    ∃ rvs, h.DictAt (mix c.prog c.w) d rvs ep ∧ rvs.map erP = kvs := by
  obtain ⟨hx, es, hd, hk, rvs, hp, hn, hm⟩ := hI
  exact ⟨rvs, ⟨ob, es, ho, hx, hd, hk, hp, hn⟩, hm⟩
theorem of_dictAt {d : Addr} {rvs : List (Key × Value)} {ep : Nat} {h : Heap} (x : h.DictAt (mix c.prog c.w) d rvs ep) : ∃ ob, h.get? d = some ob ∧ IsObj c ob (.dict (rvs.map erP) ep) := by
  obtain ⟨ob, es, ho, hx, hd, hk, hp, hn⟩ := x
  exact ⟨ob, ho, hx, es, hd, hk, rvs, hp, hn, rfl⟩
theorem dictSet_at {d : Addr} {rvs : List (Key × Value)} {ep : Nat} {k : Key} {key v : Value} {Q : Unit → Shared → Prop} (hkey : isKey k key = true) (hm : s.heap.DictAt (mix c.prog c.w) d rvs ep)
    (hQ : ∀ h', h'.DictAt (mix c.prog c.w) d (stored rvs k v) (epK (rvs.map erP) k ep) → Heap.SameBut d s.heap h' → Q () { s with heap := h', toks := s.toks + 1 })
    (hsz : rvs.length ≤ sizeLine) : wpAny (model c.prog c.w) A (dictSet d key v) Q E s := by
  obtain ⟨o, es, ho, hc, hd, hk, hp, hn⟩ := hm
  have hes : es.size ≤ sizeLine := by
    have e1 := hp.length
    have e2 : es.toList.length = es.size := by simp
    lia
  have hkey' : (mix c.prog c.w).is k key = true := hkey
  unfold dictSet
  try with_reducible refine wpAny_holding ?_
  refine wpAny_bind ((mix c.prog c.w).pyHash hkey' ?_)
  unfold dictSetHashed
  try with_reducible refine wpAny_holding ?_
  refine wpAny_bind (wpAny_dictFind_of (s := { s with toks := s.toks + 1 }) hkey' ho hd hk ?_)
  have hidx : (es.findIdx? fun e => (mix c.prog c.w).is k e.key) = rvs.findIdx? fun kv => decide (kv.1 = k) := by
    rw [← hp.findIdx k]; obtain ⟨l⟩ := es; simp
  have hget := getK_er rvs k
  cases hi : es.findIdx? fun e => (mix c.prog c.w).is k e.key with
  | some i =>
    have hl : (es.toList.findIdx? fun e => (mix c.prog c.w).is k e.key) = some i := by rw [← hi]; obtain ⟨l⟩ := es; simp
    obtain ⟨e, he, hek, hev⟩ := hp.at hl
    have hep : epK (rvs.map erP) k ep = ep := by unfold epK; rw [hget, hev]; rfl
    rw [hep] at hQ
    refine wpAny_bind (wpAny_rule (wpAny_bind (wpAny_updateDict (s := { s with toks := s.toks + 1 }) ho hd (wpAny_point (hQ _ ⟨_, _, Heap.get?_update_self _ ho (Obj.isFreed_of_dict (Obj.data_mapDict hd _)),
      hc.mapDict _, Obj.data_mapDict hd _, hk.modify _ _, ?_, ?_⟩ (Heap.SameBut.update ..))))))
    · rw [stored, if_pos (any_of_findIdx_some (hidx ▸ hi))]
      have := hp.modify hn hl v
      obtain ⟨l⟩ := es
      simpa using this
    · rw [stored, if_pos (any_of_findIdx_some (hidx ▸ hi)), keys_map_store]; exact hn
  | none =>
    have hnot : k ∉ rvs.map (·.1) := not_mem_of_findIdx_none (hidx ▸ hi)
    have hany : ¬ (rvs.any fun kv => kv.1 = k) = true := by
      rw [List.any_eq_true]; rintro ⟨kv, hkv, he⟩
      exact hnot (List.mem_map.mpr ⟨kv, hkv, of_decide_eq_true he⟩)
    have hv : valueAt rvs k = none := by
      rw [← hp.find k]
      have : (es.toList.find? fun e => (mix c.prog c.w).is k e.key) = none := by
        rw [List.find?_eq_none]
        intro e he
        have := Array.findIdx?_eq_none_iff.mp hi e (Array.mem_toList_iff.mp he)
        simpa using this
      rw [this]; rfl
    have hep : epK (rvs.map erP) k ep = ep + 1 := by unfold epK; rw [hget, hv]; rfl
    rw [hep] at hQ
    refine wpAny_bind (wpAny_rule (wpAny_updateDictKeys (hz := hes) (s := { s with toks := s.toks + 1 }) ho hd (hQ _ ⟨_, _, Heap.get?_update_self _ ho (Obj.isFreed_of_dict (Obj.data_mapDictKeys hd _)),
      hc.mapDictKeys _, Obj.data_mapDictKeys hd _, hk.push hkey' _, ?_, ?_⟩ (Heap.SameBut.update ..))))
    · rw [stored, if_neg hany]
      have := hp.append hkey' ((mix c.prog c.w).hash k) v
      obtain ⟨l⟩ := es
      simpa using this
    · rw [stored, if_neg hany, List.map_append, List.nodup_append]
      refine ⟨hn, by simp, ?_⟩
      intro a ha b hb
      simp only [List.map_cons, List.map_nil, List.mem_singleton] at hb
      subst hb
      exact fun e => hnot (e ▸ ha)
end
section
variable {k : Wk} {m : Loc} {H : AHeap}
theorem St.notMods {c : Cx} {o : Out} {env : Env} {B : BMap} {s : Shared} (st : St c o env B m H s) {d : Addr} {x : AObj} (hd : H d = some x) : (d == sysModules) = false := by
  have h1 := st.disBase d x hd
  have h2 := c.top.g.lt
  have : sysModules < mainGlobals := by decide
  exact beq_eq_false_iff_ne.mpr (Nat.ne_of_gt (Nat.lt_trans this (Nat.lt_of_lt_of_le h2 h1)))
theorem St.dictAt {c : Cx} {o : Out} {env : Env} {B : BMap} {s : Shared} (st : St c o env B m H s) {d : Addr} {kvs : List (Key × V)} {ep : Nat} (hd : H d = some (.dict kvs ep)) :
    ∃ rvs, s.heap.DictAt (mix c.prog c.w) d rvs ep ∧ rvs.map erP = kvs := by
  obtain ⟨ob, ho, hI⟩ := st.own d _ hd
  exact dictAt_of ho hI
theorem St.listAt {c : Cx} {o : Out} {env : Env} {B : BMap} {s : Shared} (st : St c o env B m H s) {l : Addr} {xs : List V} (hl : H l = some (.list xs)) :
    ∃ vs n, IsL s.heap l (vs : List Value).toArray n ∧ vs.map er = xs := by
  obtain ⟨ob, ho, vs, n, rfl, e⟩ := st.own l _ hl
  exact ⟨vs, n, ho, e⟩
theorem St.tupAt {c : Cx} {o : Out} {env : Env} {B : BMap} {s : Shared} (st : St c o env B m H s) {l : Addr} {xs : List V} (hl : H l = some (.tup xs)) :
    ∃ vs n, s.heap.get? l = some { cls := .type "tuple", data := .seq (vs : List Value).toArray n } ∧ vs.map er = xs := by
  obtain ⟨ob, ho, vs, n, rfl, e⟩ := st.own l _ hl
  exact ⟨vs, n, ho, e⟩
theorem WSet_dict {d : Addr} {kvs : List (Key × V)} {ep : Nat} {key : Key} {kv v : V} {Q : Loc → AHeap → Prop} (hd : H d = some (.dict kvs ep)) (hk : isKV key kv = true) (hsz : kvs.length ≤ sizeLine)
    (h : Q m (upd H d (.dict (putK kvs key v) (epK kvs key ep)))) : WSet k (.ref d) kv v m H Q := fun x y z hx hy hz B s st => by
  obtain rfl := er_ref hx
  subst hz
  have hkey : isKey key y = true := by rw [isKey_er, hy]; exact hk
  obtain ⟨rvs, hm, rfl⟩ := st.dictAt hd
  have hT := hm.dictOf.typeIs
  unfold setItem
  try with_reducible refine wpAny_holding ?_
  refine wpAny_bind (wpAny_sequenceKey hT (by decide) ?_)
  refine wpAny_bind (wpAny_callSpecial?_slot (name := Str.ofString "__setitem__") hT slot_dict_setitem
    (wpAny_call_entry slot_dict_setitem hT entry_dict_setitem ?_ (args_dict_setitem _ _ _)))
  show wpAny _ _ (Builtin.Dict.notOrdered "__setitem__" ⟨[.ref d, y, z], []⟩ >>= _) _ _ s
  refine wpAny_bind (wpAny_notOrdered_dict hT ?_)
  show wpAny _ _ (dictSet d y z >>= _) _ _ s
  refine wpAny_bind (dictSet_at hkey hm (fun h' hm' hs' => wpAny_pure ⟨.none, rfl, wpAny_pure ⟨m, _, ?_, h⟩⟩) (by simpa using hsz))
  obtain ⟨ob, h1, h2⟩ := of_dictAt hm'
  refine st.put hd (fun b ob ne e => (hs'.2 b ne).trans e) ⟨ob, h1, ?_⟩ (Nat.le_succ_of_le st.tk)
  rw [← putK_er hm.nodup]; exact h2
theorem mapOf_get {c : Cx} {d : Addr} {rvs : List (Key × Value)} {ep : Nat} {h : Heap} (x : h.DictAt (mix c.prog c.w) d rvs ep) {key : Key} {v : V} (e : getK (rvs.map erP) key = some v) :
    ∃ u, valueAt rvs key = some u ∧ er u = v := by
  rw [getK_er] at e
  cases q : valueAt rvs key with
  | none => rw [q] at e; cases e
  | some u => rw [q] at e; exact ⟨u, rfl, Option.some.inj e⟩
noncomputable def WSub (k : Wk) (value slice : Expr) (o i : V) (m : Loc) (H : AHeap) (Q : V → Loc → AHeap → Prop) : Prop := ∀ x y, er x = o → er y = i → WV k (subscriptTail value slice x y) m H Q
theorem W_Subscript {value slice : Expr} {pos : Pos} {Q : V → Loc → AHeap → Prop} (h : WV k (eval value k.env) m H fun o m1 H1 => WV k (eval slice k.env) m1 H1 fun i m2 H2 => WSub k value slice o i m2 H2 Q) :
    WV k (eval (.Subscript value slice pos) k.env) m H Q := fun B s st =>
  Subscript_ (wpAny_mono (h B s st) (fun o s1 ⟨m1, H1, st1, q1⟩ => wpAny_mono (q1 B s1 st1) (fun i s2 ⟨m2, H2, st2, q2⟩ => q2 o i rfl rfl B s2 st2) fun _ _ x => x) fun _ _ x => x)
theorem WSub_dict {value slice : Expr} {d : Addr} {kvs : List (Key × V)} {ep : Nat} {key : Key} {kv v : V} {Q : V → Loc → AHeap → Prop} (hd : H d = some (.dict kvs ep)) (hk : isKV key kv = true) (hv : getK kvs key = some v) (h : Q v m H)
    (hs : ∀ o i, subscripted slice false o i = operate [o, i] (getItem o i) := by intro _ _; with_unfolding_all rfl) : WSub k value slice (.ref d) kv m H Q := fun x y hx hy => by
  obtain rfl := er_ref hx
  have hkey : isKey key y = true := by rw [isKey_er, hy]; exact hk
  refine W.of_wp fun B s st P hp => ?_
  obtain ⟨rvs, hm, rfl⟩ := st.dictAt hd
  obtain ⟨u, e1, rfl⟩ := mapOf_get hm hv
  exact tail_any hm.dictOf.typeIs slot_dict_getitem.lookup (wpAny_getItem_of (knd := mix k.c.prog k.c.w) hkey hm.dictOf.mapOf e1 (hp _ _ h)) (hs _ _)
theorem WSub_list {value slice : Expr} {l : Addr} {xs : List V} {i : Int} {v : V} {Q : V → Loc → AHeap → Prop} (hl : H l = some (.list xs)) (h0 : 0 ≤ i) (h1 : i < 2 ^ 63) (hv : xs[i.toNat]? = some v) (h : Q v m H)
    (hs : ∀ o i, subscripted slice false o i = operate [o, i] (getItem o i) := by intro _ _; with_unfolding_all rfl) : WSub k value slice (.ref l) (.int i) m H Q := fun x y hx hy => by
  obtain rfl := er_ref hx
  obtain ⟨t, rfl⟩ := er_int hy
  refine W.of_wp fun B s st P hp => ?_
  obtain ⟨vs, n, hl', rfl⟩ := st.listAt hl
  rw [List.getElem?_map, Option.map_eq_some_iff] at hv
  obtain ⟨u, e1, rfl⟩ := hv
  exact tail_any hl'.isList.typeIs slot_list_getitem.lookup (wpAny_getItem_list hl'.isList h0 h1 (by simpa using e1) (hp _ s.toks h)) (hs _ _)
theorem WSub_listNeg {value slice : Expr} {l : Addr} {xs : List V} {i : Int} {v : V} {Q : V → Loc → AHeap → Prop} (hl : H l = some (.list xs)) (h0 : i < 0) (h1 : -(2 ^ 63) ≤ i) (h2 : -(xs.length : Int) ≤ i) (hv : xs[(i + xs.length).toNat]? = some v) (h : Q v m H)
    (hs : ∀ o i, subscripted slice false o i = operate [o, i] (getItem o i) := by intro _ _; with_unfolding_all rfl) : WSub k value slice (.ref l) (.int i) m H Q := fun x y hx hy => by
  obtain rfl := er_ref hx
  obtain ⟨t, rfl⟩ := er_int hy
  refine W.of_wp fun B s st P hp => ?_
  obtain ⟨vs, n, hl', rfl⟩ := st.listAt hl
  rw [List.getElem?_map, Option.map_eq_some_iff] at hv
  obtain ⟨u, e1, rfl⟩ := hv
  rw [List.length_map] at h2 e1
  exact tail_any hl'.isList.typeIs slot_list_getitem.lookup (wpAny_getItem_list_neg hl'.isList h0 (by simpa using h2) h1 (by simpa using e1) (hp _ s.toks h)) (hs _ _)
theorem WSub_tup {value slice : Expr} {l : Addr} {xs : List V} {i : Int} {j : Nat} {v : V} {Q : V → Loc → AHeap → Prop} (hl : H l = some (.tup xs)) (h0 : -(2 ^ 63) ≤ i) (h1 : i < 2 ^ 63) (hj : seqIndex? i xs.length = some j) (hv : xs[j]? = some v) (h : Q v m H)
    (hs : ∀ o i, subscripted slice false o i = operate [o, i] (getItem o i) := by intro _ _; with_unfolding_all rfl) : WSub k value slice (.ref l) (.int i) m H Q := fun x y hx hy => by
  obtain rfl := er_ref hx
  obtain ⟨t, rfl⟩ := er_int hy
  refine W.of_wp fun B s st P hp => ?_
  obtain ⟨vs, n, hl', rfl⟩ := st.tupAt hl
  rw [List.getElem?_map, Option.map_eq_some_iff] at hv
  obtain ⟨u, e1, rfl⟩ := hv
  rw [List.length_map] at hj
  exact item_tupleT (l := vs) ⟨_, hl', rfl, n, rfl⟩ h0 h1 hj e1 (hp _ s.toks h) (hs _ _)
theorem WCmp_inDict {d : Addr} {kvs : List (Key × V)} {ep : Nat} {key : Key} {kv : V} {Q : V → Loc → AHeap → Prop} (hd : H d = some (.dict kvs ep)) (hk : isKV key kv = true) (h : Q (.bool (getK kvs key).isSome) m H) : WCmp k .In kv (.ref d) m H Q := fun x y hx hy => by
  obtain rfl := er_ref hy
  have hkey : isKey key x = true := by rw [isKey_er, hx]; exact hk
  refine W.of_wp fun B s st P hp => ?_
  obtain ⟨rvs, hm, rfl⟩ := st.dictAt hd
  have e : (valueAt rvs key).isSome = (getK (rvs.map erP) key).isSome := by rw [getK_er]; cases valueAt rvs key <;> rfl
  exact wpAny_in_of (knd := mix k.c.prog k.c.w) hkey (st.notMods hd) hm.dictOf.mapOf (e ▸ hp _ _ h)
theorem WCmp_notInDict {d : Addr} {kvs : List (Key × V)} {ep : Nat} {key : Key} {kv : V} {Q : V → Loc → AHeap → Prop} (hd : H d = some (.dict kvs ep)) (hk : isKV key kv = true) (h : Q (.bool (!(getK kvs key).isSome)) m H) : WCmp k .NotIn kv (.ref d) m H Q := fun x y hx hy => by
  obtain rfl := er_ref hy
  have hkey : isKey key x = true := by rw [isKey_er, hx]; exact hk
  refine W.of_wp fun B s st P hp => ?_
  obtain ⟨rvs, hm, rfl⟩ := st.dictAt hd
  have e : (!(valueAt rvs key).isSome) = !(getK (rvs.map erP) key).isSome := by rw [getK_er]; cases valueAt rvs key <;> rfl
  exact wpAny_notIn_of (knd := mix k.c.prog k.c.w) hkey (st.notMods hd) hm.dictOf.mapOf (e ▸ hp _ _ h)
noncomputable def WCall (k : Wk) (f : Value) (args : List V) (m : Loc) (H : AHeap) (Q : V → Loc → AHeap → Prop) : Prop := ∀ vs, vs.map er = args → WV k (call f vs) m H Q
theorem evalArgs_of {f : Value} {es : List Expr} {pos : Pos} {Q : List V → Loc → AHeap → Prop} (hp : (starEach es k.env).any (·.1) = false) (h : WItems k es m H Q) :
    W k (evalArgs f true (backTo pos (starEach es k.env)) []) m H fun a m1 H1 => a.kw = [] ∧ Q (a.pos.map er) m1 H1 := fun B s st => by
  have h' := h pos B s st
  cases hs : starEach es k.env with
  | nil =>
    rw [hs] at h'
    have h'' : wpAny (model k.c.prog k.c.w) k.A (spliced []) (fun v s' => ∃ m' H', St k.c k.o k.env B m' H' s' ∧ Q (v.map er) m' H') k.E s := h'
    show wpAny _ _ (evalArgs f true [] []) _ _ s
    unfold evalArgs
    show wpAny _ _ (spliced [] >>= _) _ _ s
    refine wpAny_bind (wpAny_mono h'' (fun vs s1 ⟨m1, H1, st1, q⟩ => ?_) fun _ _ x => x)
    refine wpAny_bind (wpAny_pure (wpAny_holding ?_))
    exact wpAny_bind (wpAny_pure (wpAny_bind (wpAny_pure (wpAny_pure ⟨m1, H1, st1, rfl, q⟩))))
  | cons x r =>
    obtain ⟨b, t⟩ := x
    rw [hs] at h' hp
    have hb : b = false := by simp at hp; exact hp.1
    subst hb
    exact Calls.evalArgs_plain (wpAny_mono h' (fun vs s1 ⟨m1, H1, st1, q⟩ => ⟨m1, H1, st1, rfl, q⟩) fun _ _ x => x)
end
end Mine
namespace Mine
section
variable {k : Wk} {m : Loc} {H : AHeap}
theorem W_CallB {x : Str} {i : String} {p pos : Pos} {args : List Expr} {Q : V → Loc → AHeap → Prop} (hg : Gl k.c x (.builtin i)) (hx : k.env.kindOf x = some .globalImplicit)
    (h : WItems k args m H fun vs m1 H1 => WCall k (.builtin i) vs m1 H1 Q)
    (hp : (starEach args k.env).any (·.1) = false := by rfl) (hp' : (backTo pos (starEach args k.env)).any (·.1) = false := by rfl)
    (hd : (x == ("__debug__" : Str)) = false := by decide) : WV k (eval (.Call (.Name x p) args [] pos) k.env) m H Q := fun B s st =>
  wpAny_Call_NameR (wpAny_mono (W_NameG (Q := fun v m' H' => v = .bi i ∧ m' = m ∧ H' = H) hg hx ⟨rfl, rfl, rfl⟩ hd B s st) (fun f s1 hx1 => by
    refine Mine.hideG fun GG back => ?_
    obtain ⟨m1, H1, st1, e1, e2, e3⟩ := hx1
    refine back ?_
    clear back
    subst e2; subst e3
    obtain rfl := er_bi e1
    exact Calls.callWith_builtin hp' (wpAny_mono (evalArgs_of (f := .builtin i) (pos := pos) hp h B s1 st1) (fun a s2 ⟨m2, H2, st2, e, q⟩ => by
      rw [e]; exact q _ rfl B s2 st2) fun _ _ x => x)) fun _ _ x => x)
theorem W_CallT {x : Str} {T : String} {p pos : Pos} {args : List Expr} {Q : V → Loc → AHeap → Prop} (hg : Gl k.c x (.type T)) (hx : k.env.kindOf x = some .globalImplicit)
    (h : WItems k args m H fun vs m1 H1 => WCall k (.type T) vs m1 H1 Q)
    (hp : (starEach args k.env).any (·.1) = false := by rfl) (hp' : (backTo pos (starEach args k.env)).any (·.1) = false := by rfl)
    (hd : (x == ("__debug__" : Str)) = false := by decide) : WV k (eval (.Call (.Name x p) args [] pos) k.env) m H Q := fun B s st =>
  wpAny_Call_NameR (wpAny_mono (W_NameG (Q := fun v m' H' => v = .ty T ∧ m' = m ∧ H' = H) hg hx ⟨rfl, rfl, rfl⟩ hd B s st) (fun f s1 hx1 => by
    refine Mine.hideG fun GG back => ?_
    obtain ⟨m1, H1, st1, e1, e2, e3⟩ := hx1
    refine back ?_
    clear back
    subst e2; subst e3
    obtain rfl := er_ty e1
    exact PySem.callWith_type hp' (wpAny_mono (evalArgs_of (f := .type T) (pos := pos) hp h B s1 st1) (fun a s2 ⟨m2, H2, st2, e, q⟩ => by
      rw [e]; exact q _ rfl B s2 st2) fun _ _ x => x)) fun _ _ x => x)
noncomputable def FnV (c : Cx) (A : Around) (f : Addr) (vs : List V) (kw : List (Str × V)) (H : AHeap) (Q : V → AHeap → Prop) (X : String → Option (List V) → AHeap → Prop) : Prop :=
  ∀ rvs rkw, (rvs : List Value).map er = vs → (rkw : List (Str × Value)).map (fun p => (p.1, er p.2)) = kw → Fn c A (.ref f) ⟨rvs, rkw⟩ H Q X
theorem FnV.mono {c : Cx} {A : Around} {f : Addr} {vs : List V} {kw : List (Str × V)} {H : AHeap} {Q Q' : V → AHeap → Prop} {X X' : String → Option (List V) → AHeap → Prop} (h : FnV c A f vs kw H Q X) (hQ : ∀ v H, Q v H → Q' v H) (hX : ∀ a b H, X a b H → X' a b H) : FnV c A f vs kw H Q' X' :=
  fun rvs rkw h1 h2 => (h rvs rkw h1 h2).mono hQ hX
theorem W_callF {f : Addr} {rvs : List Value} {rkw : List (Str × Value)} {Q : V → Loc → AHeap → Prop} (h : Fn k.c k.A (.ref f) ⟨rvs, rkw⟩ H (fun v H' => Q v m H') fun a b H' => k.X a b m H') : WV k (call (.ref f) rvs rkw) m H Q := fun B s st =>
  wpAny_call (codeAny_mono (h k.o k.env B m s k.kind k.frames st) fun r s' q => by
    split at q
    · obtain ⟨H', st', q⟩ := q; exact ⟨m, H', st', q⟩
    · obtain ⟨H', a, cls, xs, rfl, st', i, q⟩ := q; exact k.fly _ _ _ _ _ _ _ st' i q
    · exact q.elim)
theorem W_CallF {x : Str} {f : Addr} {fo : Obj} {fd : FuncData} {p pos : Pos} {args : List Expr} {Q : V → Loc → AHeap → Prop} (hg : Gl k.c x (.ref f)) (hx : k.env.kindOf x = some .globalImplicit)
    (ho : k.c.base.get? f = some fo) (hd' : fo.data = .func fd)
    (h : WItems k args m H fun vs m1 H1 => FnV k.c k.A f vs [] H1 (fun v H' => Q v m1 H') fun a b H' => k.X a b m1 H')
    (hp : (starEach args k.env).any (·.1) = false := by rfl)
    (hd : (x == ("__debug__" : Str)) = false := by decide) : WV k (eval (.Call (.Name x p) args [] pos) k.env) m H Q := fun B s st =>
  wpAny_Call_NameR (wpAny_mono (W_NameG (Q := fun v m' H' => v = .ref f ∧ m' = m ∧ H' = H) hg hx ⟨rfl, rfl, rfl⟩ hd B s st) (fun g s1 hx1 => by
    refine Mine.hideG fun GG back => ?_
    obtain ⟨m1, H1, st1, e1, e2, e3⟩ := hx1
    refine back ?_
    clear back
    subst e2; subst e3
    obtain rfl := er_ref e1
    exact Calls.callWith_function (o := fo) (fd := fd) (wpAny_mono (evalArgs_of (f := .ref f) (pos := pos) hp h B s1 st1) (fun a s2 ⟨m2, H2, st2, e, q⟩ => by
      rw [e]; exact ⟨⟨st2.base f fo ho, hd'⟩, W_callF (q _ [] rfl rfl) B s2 st2⟩) fun _ _ x => x)) fun _ _ x => x)
theorem W_CallM {o : Expr} {name : Str} {apos pos : Pos} {args : List Expr} {T id : String} {Q : V → Loc → AHeap → Prop}
    (pa : PlainAttrs T) (slot : Slot T name id) (hty : typeOf (.builtin id) = pure (.type "method_descriptor"))
    (h : WV k (eval o k.env) m H fun ov m1 H1 => ∃ a y, ov = .ref a ∧ H1 a = some y ∧ (∀ ob, IsObj k.c ob y → ob.cls = .type T ∧ ob.dict = none) ∧ WItems k args m1 H1 fun vs m2 H2 => WCall k (.builtin id) (ov :: vs) m2 H2 Q)
    (hbase : attributeBase o name k.env (eval o k.env) = eval o k.env := by rfl)
    (hfew : ((backTo pos (starEach args k.env)).all (fun x => !x.1) && (backToKw pos (keywordEach [] k.env)).all (fun x => x.1.isSome)
      && decide (args.length + ([] : List Keyword).length + (if ([] : List Keyword).isEmpty then 0 else 1) < 30)) = true := by rfl)
    (hline : (apos.endLine == pos.line) = true := by rfl) (hp : (starEach args k.env).any (·.1) = false := by rfl) (hp' : (backTo pos (starEach args k.env)).any (·.1) = false := by rfl) :
    WV k (eval (.Call (.Attribute o name apos) args [] pos) k.env) m H Q := fun B s st =>
  PySem.wpAny_Call_method hbase hfew hline pa slot hty (wpAny_mono (h B s st) (fun ov s1 hx1 => by
    refine Mine.hideG fun GG back => ?_
    obtain ⟨m1, H1, st1, a, y, e, hy, hT, q⟩ := hx1
    refine back ?_
    clear back
    obtain rfl := er_ref e
    refine Mine.hideG fun GG back => ?_
    obtain ⟨ob, ho, hI⟩ := st1.own a y hy
    obtain ⟨t1, t2⟩ := hT ob hI
    refine back ?_
    clear back
    refine ⟨⟨ob, ho, t1⟩, fun b eb => by cases eb; exact ⟨ob, ho, t2⟩, ?_⟩
    refine Calls.callWith_builtin hp' (wpAny_mono (evalArgs_of (f := .builtin id) (pos := pos) hp q B s1 st1) (fun a s2 ⟨m2, H2, st2, e, q⟩ => ?_) fun _ _ x => x)
    rw [e]; exact q _ rfl B s2 st2) fun _ _ x => x)
theorem isList_cls {c : Cx} {xs : List V} : ∀ ob, IsObj c ob (.list xs) → ob.cls = .type "list" ∧ ob.dict = none := fun ob ⟨vs, n, e, _⟩ => by rw [e]; exact ⟨rfl, rfl⟩
theorem isTup_cls {c : Cx} {xs : List V} : ∀ ob, IsObj c ob (.tup xs) → ob.cls = .type "tuple" ∧ ob.dict = none := fun ob ⟨vs, n, e, _⟩ => by rw [e]; exact ⟨rfl, rfl⟩
theorem isDict_cls {c : Cx} {kvs : List (Key × V)} {ep : Nat} : ∀ ob, IsObj c ob (.dict kvs ep) → ob.cls = .type "dict" ∧ ob.dict = none := fun ob h => ⟨h.1.1, h.1.2.1⟩
end
end Mine
namespace Mine
theorem sub_ll : isSubtype (.type "list") (.type "list") = pure true := by rw [isSubtype_type]; kernel_rfl
theorem sub_ld : isSubtype (.type "list") (.type "dict") = pure false := by rw [isSubtype_type]; kernel_rfl
theorem sub_ls : isSubtype (.type "list") (.type "str") = pure false := by rw [isSubtype_type]; kernel_rfl
theorem sub_dl : isSubtype (.type "dict") (.type "list") = pure false := by rw [isSubtype_type]; kernel_rfl
theorem sub_dd : isSubtype (.type "dict") (.type "dict") = pure true := by rw [isSubtype_type]; kernel_rfl
theorem sub_ds : isSubtype (.type "dict") (.type "str") = pure false := by rw [isSubtype_type]; kernel_rfl
theorem sub_tl : isSubtype (.type "tuple") (.type "list") = pure false := by rw [isSubtype_type]; kernel_rfl
theorem sub_td : isSubtype (.type "tuple") (.type "dict") = pure false := by rw [isSubtype_type]; kernel_rfl
theorem sub_ts : isSubtype (.type "tuple") (.type "str") = pure false := by rw [isSubtype_type]; kernel_rfl
theorem sub_sl : isSubtype (.type "str") (.type "list") = pure false := by rw [isSubtype_type]; kernel_rfl
theorem sub_sd : isSubtype (.type "str") (.type "dict") = pure false := by rw [isSubtype_type]; kernel_rfl
theorem sub_ss : isSubtype (.type "str") (.type "str") = pure true := by rw [isSubtype_type]; kernel_rfl
theorem sub_il : isSubtype (.type "int") (.type "list") = pure false := by rw [isSubtype_type]; kernel_rfl
theorem sub_id : isSubtype (.type "int") (.type "dict") = pure false := by rw [isSubtype_type]; kernel_rfl
theorem sub_is : isSubtype (.type "int") (.type "str") = pure false := by rw [isSubtype_type]; kernel_rfl
theorem mt_l : typeOf (.type "list") = pure (.type "type") := by kernel_rfl
theorem mt_d : typeOf (.type "dict") = pure (.type "type") := by kernel_rfl
theorem mt_s : typeOf (.type "str") = pure (.type "type") := by kernel_rfl
theorem map_er1 {vs : List Value} {a : V} (e : vs.map er = [a]) : ∃ x, vs = [x] ∧ er x = a := by
  rcases vs with _ | ⟨x, _ | ⟨y, r⟩⟩ <;> simp at e
  exact ⟨x, rfl, e⟩
theorem map_er2 {vs : List Value} {a b : V} (e : vs.map er = [a, b]) : ∃ x y, vs = [x, y] ∧ er x = a ∧ er y = b := by
  rcases vs with _ | ⟨x, _ | ⟨y, _ | ⟨z, r⟩⟩⟩ <;> simp at e
  exact ⟨x, y, rfl, e⟩
noncomputable def tyO : Option AObj → Option String
  | some (.list _) => some "list"
  | some (.tup _) => some "tuple"
  | some (.dict _ _) => some "dict"
  | _ => none
noncomputable def tyOf (H : AHeap) : V → Option String
  | .int _ => some "int"
  | .str _ _ => some "str"
  | .ref a => match H a with
    | some (.list _) => some "list"
    | some (.tup _) => some "tuple"
    | some (.dict _ _) => some "dict"
    | _ => none
  | _ => none
section
variable {k : Wk} {m : Loc} {H : AHeap}
theorem tyOf_obj {a : Addr} {T : String} (h : tyOf H (.ref a) = some T) : (∃ xs, H a = some (.list xs) ∧ T = "list") ∨ (∃ xs, H a = some (.tup xs) ∧ T = "tuple") ∨ ∃ kvs ep, H a = some (.dict kvs ep) ∧ T = "dict" := by
  have h' : tyO (H a) = some T := h
  cases e : H a with
  | none => rw [e] at h'; cases h'
  | some ob =>
    rw [e] at h'
    cases ob with
    | list xs => exact .inl ⟨xs, rfl, (Option.some.inj h').symm⟩
    | tup xs => exact .inr (.inl ⟨xs, rfl, (Option.some.inj h').symm⟩)
    | dict xs ep => exact .inr (.inr ⟨xs, ep, rfl, (Option.some.inj h').symm⟩)
    | _ => cases h'
theorem tyOf_l {a : Addr} {xs : List V} (e : H a = some (.list xs)) : tyOf H (.ref a) = some "list" := by
  show tyO (H a) = _
  rw [e]; rfl
theorem tyOf_t {a : Addr} {xs : List V} (e : H a = some (.tup xs)) : tyOf H (.ref a) = some "tuple" := by
  show tyO (H a) = _
  rw [e]; rfl
theorem tyOf_d {a : Addr} {kvs : List (Key × V)} {ep : Nat} (e : H a = some (.dict kvs ep)) : tyOf H (.ref a) = some "dict" := by
  show tyO (H a) = _
  rw [e]; rfl
theorem St.typeIs {c : Cx} {o : Out} {env : Env} {B : BMap} {s : Shared} (st : St c o env B m H s) {v : Value} {T : String} (h : tyOf H (er v) = some T) : s.TypeIs v T := by
  cases v with
  | int i t => cases h; exact typeIs_int s i t
  | str x t => cases h; rfl
  | ref a =>
    rcases tyOf_obj h with ⟨xs, e, rfl⟩ | ⟨xs, e, rfl⟩ | ⟨xs, ep, e, rfl⟩ <;> obtain ⟨ob, ho, hI⟩ := st.own a _ e
    · exact ⟨ob, ho, (isList_cls ob hI).1⟩
    · exact ⟨ob, ho, (isTup_cls ob hI).1⟩
    · exact ⟨ob, ho, (isDict_cls ob hI).1⟩
  | _ => cases h
theorem WCall_isinst {v : V} {Tx T : String} {Q : V → Loc → AHeap → Prop} (hv : tyOf H v = some Tx) (hTx : Tx ∈ ["int", "str", "list", "tuple", "dict"]) (hT : T ∈ ["list", "dict", "str"]) (h : Q (.bool (decide (Tx = T))) m H) :
    WCall k (.builtin "isinstance") [v, .ty T] m H Q := fun vs e => by
  obtain ⟨x, y, rfl, rfl, e2⟩ := map_er2 e
  obtain rfl := er_ty e2
  refine W.of_wp fun B s st P hp => ?_
  have hty := st.typeIs hv
  have mt : typeOf (.type T) = pure (.type "type") := by
    simp only [List.mem_cons, List.mem_nil_iff, or_false] at hT
    rcases hT with rfl | rfl | rfl
    · exact mt_l
    · exact mt_d
    · exact mt_s
  have sub : isSubtype (.type Tx) (.type T) = pure (decide (Tx = T)) := by
    simp only [List.mem_cons, List.mem_nil_iff, or_false] at hT hTx
    rcases hTx with rfl | rfl | rfl | rfl | rfl <;> rcases hT with rfl | rfl | rfl
    · exact sub_il
    · exact sub_id
    · exact sub_is
    · exact sub_sl
    · exact sub_sd
    · exact sub_ss
    · exact sub_ll
    · exact sub_ld
    · exact sub_ls
    · exact sub_tl
    · exact sub_td
    · exact sub_ts
    · exact sub_dl
    · exact sub_dd
    · exact sub_ds
  by_cases hTT : Tx = T
  · have e : decide (Tx = T) = true := by simp [hTT]
    rw [e] at sub h
    exact call_isinstance (isinstance_true (Tx := Tx) mt sub) ⟨hty, hp _ s.toks h⟩
  · have e : decide (Tx = T) = false := by simp [hTT]
    rw [e] at sub h
    have hne : (Value.type Tx == Value.type T) = false := by simp [hTT]
    simp only [List.mem_cons, List.mem_nil_iff, or_false] at hTx
    rcases hTx with rfl | rfl | rfl | rfl | rfl
    · obtain ⟨t, i, rfl⟩ : ∃ t i, x = .int i t := by
        cases x with
        | int i t => exact ⟨t, i, rfl⟩
        | ref a => rcases tyOf_obj hv with ⟨_, _, q⟩ | ⟨_, _, q⟩ | ⟨_, _, _, q⟩ <;> exact absurd q (by decide)
        | _ => first | (cases hv; done) | exact absurd (Option.some.inj hv) (by decide)
      exact call_isinstance (isinstance_false_int hne mt sub) (hp _ _ h)
    · obtain ⟨t, i, rfl⟩ : ∃ t i, x = .str i t := by
        cases x with
        | str i t => exact ⟨t, i, rfl⟩
        | ref a => rcases tyOf_obj hv with ⟨_, _, q⟩ | ⟨_, _, q⟩ | ⟨_, _, _, q⟩ <;> exact absurd q (by decide)
        | _ => first | (cases hv; done) | exact absurd (Option.some.inj hv) (by decide)
      exact call_isinstance (isinstance_false_str hne mt sub) (hp _ _ h)
    · obtain ⟨a, rfl⟩ : ∃ a, x = .ref a := by cases x <;> first | exact ⟨_, rfl⟩ | (cases hv; done) | exact absurd (Option.some.inj hv) (by decide)
      exact call_isinstance (isinstance_false_list hne mt sub) ⟨hty, hp _ _ h⟩
    · obtain ⟨a, rfl⟩ : ∃ a, x = .ref a := by cases x <;> first | exact ⟨_, rfl⟩ | (cases hv; done) | exact absurd (Option.some.inj hv) (by decide)
      exact call_isinstance (isinstance_false_tuple hne mt sub) ⟨hty, hp _ _ h⟩
    · obtain ⟨a, rfl⟩ : ∃ a, x = .ref a := by cases x <;> first | exact ⟨_, rfl⟩ | (cases hv; done) | exact absurd (Option.some.inj hv) (by decide)
      exact call_isinstance (isinstance_false_dict hne mt sub) ⟨hty, hp _ _ h⟩
theorem WCall_type {v : V} {Tx : String} {Q : V → Loc → AHeap → Prop} (hv : tyOf H v = some Tx) (hTx : Tx ∈ ["int", "str", "list", "tuple", "dict"]) (h : Q (.ty Tx) m H) : WCall k (.type "type") [v] m H Q := fun vs e => by
  obtain ⟨x, rfl, rfl⟩ := map_er1 e
  refine W.of_wp fun B s st P hp => ?_
  refine call_type_of (st.typeIs hv) ?_ (hp (.type Tx) s.toks h)
  simp only [List.mem_cons, List.mem_nil_iff, or_false] at hTx
  rcases hTx with rfl | rfl | rfl | rfl | rfl <;> decide
theorem W.of_new {t : Sem Value} {R : AObj → Prop} {Q : V → Loc → AHeap → Prop}
    (h : ∀ B s, St k.c k.o k.env B m H s → ∀ P : Value → Shared → Prop, (∀ a h' tk y, R y → s.heap.objs.size ≤ a → (∀ b ob, s.heap.get? b = some ob → h'.get? b = some ob) → (∃ ob, h'.get? a = some ob ∧ IsObj k.c ob y) → P (.ref a) { s with heap := h', toks := tk }) →
      wpAny (model k.c.prog k.c.w) k.A t P k.E s)
    (hQ : ∀ a y, R y → H a = none → Q (.ref a) m (upd H a y)) : WV k t m H Q := fun B s st =>
  wpAny_mono (wpAny_toks_of st.tk (h B s st (fun v s' => ∃ a h' tk y, v = .ref a ∧ R y ∧ s.heap.objs.size ≤ a ∧ (∀ b ob, s.heap.get? b = some ob → h'.get? b = some ob) ∧ (∃ ob, h'.get? a = some ob ∧ IsObj k.c ob y) ∧ s' = { s with heap := h', toks := tk })
    fun a h' tk y h1 h2 h3 h4 => ⟨a, h', tk, y, rfl, h1, h2, h3, h4, rfl⟩)) (fun v s' q => by
      obtain ⟨ht, a, h', tk, y, rfl, h1, h2, h3, h4, rfl⟩ := q
      exact ⟨m, _, st.new h2 h3 h4 ht, hQ a y h1 (st.fresh (st.none_at h2)).1⟩) fun _ _ x => x.2
theorem WCall_lenL {a : Addr} {xs : List V} {Q : V → Loc → AHeap → Prop} (ha : H a = some (.list xs)) (hz : xs.length < 2 ^ 63) (h : Q (.int xs.length) m H) : WCall k (.builtin "len") [.ref a] m H Q := fun vs e => by
  obtain ⟨x, rfl, e'⟩ := map_er1 e
  obtain rfl := er_ref e'
  refine W.of_wp fun B s st P hp => ?_
  obtain ⟨vs, n, hl, rfl⟩ := st.listAt ha
  rw [List.length_map] at h hz
  exact call_len_list hl.isList (by simp; lia) (by simpa using hp (.int vs.length (s.toks + 1)) (s.toks + 2) h)
theorem WCall_range1 {n : Int} {Q : V → Loc → AHeap → Prop} (h : ∀ a, H a = none → Q (.ref a) m (upd H a (.range 0 n 1))) : WCall k (.type "range") [.int n] m H Q := fun vs e => by
  obtain ⟨x, rfl, e'⟩ := map_er1 e
  obtain ⟨t, rfl⟩ := er_int e'
  refine W.of_new (R := fun y => y = .range 0 n 1) (fun B s st P hp => ?_) (fun a y hy hn => hy ▸ h a hn)
  exact call_range_1 (hp _ _ _ _ rfl (Nat.le_refl _) (fun b ob e => Heap.get?_push_of_some _ e) ⟨_, Heap.get?_push_size _ rfl, _, _, _, rfl⟩)
theorem WCall_listL {a : Addr} {xs : List V} {Q : V → Loc → AHeap → Prop} (ha : H a = some (.list xs) ∨ H a = some (.tup xs)) (hz : xs.length ≤ sizeLine) (h : ∀ p, H p = none → Q (.ref p) m (upd H p (.list xs))) : WCall k (.type "list") [.ref a] m H Q := fun vs e => by
  obtain ⟨x, rfl, e'⟩ := map_er1 e
  obtain rfl := er_ref e'
  refine W.of_new (R := fun y => y = .list xs) (fun B s st P hp => ?_) (fun a y hy hn => hy ▸ h a hn)
  rcases ha with ha | ha
  · obtain ⟨vs, n, hl, rfl⟩ := st.listAt ha
    exact call_list_seq a (T := "list") (.inl rfl) hl rfl rfl (fun h' c' hk hD => hp _ _ s.toks _ rfl (Nat.le_refl _) hk ⟨_, hD, vs, c', rfl, rfl⟩) (by simpa using hz)
  · obtain ⟨vs, n, hl, rfl⟩ := st.tupAt ha
    exact call_list_seq a (T := "tuple") (.inr rfl) hl rfl rfl (fun h' c' hk hD => hp _ _ s.toks _ rfl (Nat.le_refl _) hk ⟨_, hD, vs, c', rfl, rfl⟩) (by simpa using hz)
theorem WCall_listD {a : Addr} {kvs : List (Key × V)} {ep : Nat} {Q : V → Loc → AHeap → Prop} (hh : k.A.handled = none) (ha : H a = some (.dict kvs ep)) (hz : kvs.length ≤ sizeLine)
    (h : ∀ p xs, xs.length = kvs.length → (∀ (i : Nat) (kv : Key × V) (x : V), kvs[i]? = some kv → xs[i]? = some x → isKV kv.1 x = true) → H p = none → Q (.ref p) m (upd H p (.list xs))) : WCall k (.type "list") [.ref a] m H Q := fun vs e => by
  obtain ⟨x, rfl, e'⟩ := map_er1 e
  obtain rfl := er_ref e'
  refine W.of_new (R := fun y => ∃ xs, y = .list xs ∧ xs.length = kvs.length ∧ ∀ (i : Nat) (kv : Key × V) (x : V), kvs[i]? = some kv → xs[i]? = some x → isKV kv.1 x = true) (fun B s st P hp => ?_) (fun a y ⟨xs, hy, h1, h2⟩ hn => hy ▸ h a xs h1 h2 hn)
  obtain ⟨rvs, hm, rfl⟩ := st.dictAt ha
  refine kdl_call (kdl_dict (knd := mix k.c.prog k.c.w) (kvs := rvs) (ep := ep) (st.notMods ha)) hh hm (by simpa using hz) fun h' tk acc' c' hk hD hacc => ?_
  refine hp _ _ _ _ ⟨acc'.toList.map er, rfl, ?_, fun i kv x e1 e2 => ?_⟩ (Nat.le_refl _) hk ⟨_, hD, acc'.toList, c', by simp, rfl⟩
  · rw [List.length_map, List.length_map, Array.length_toList]; exact hacc.1
  · rw [List.getElem?_map, Option.map_eq_some_iff] at e1 e2
    obtain ⟨kv', e1, rfl⟩ := e1
    obtain ⟨u, e2, rfl⟩ := e2
    obtain ⟨key, x, e3, e4⟩ := hacc.2 i u (by rw [← Array.getElem?_toList]; exact e2)
    rw [e1] at e3; cases e3
    rw [← isKey_er]; exact e4
end
end Mine
namespace Mine
noncomputable def Ext (H H' : AHeap) : Prop := ∀ a x, H a = some x → H' a = some x
theorem Ext.refl (H : AHeap) : Ext H H := fun _ _ e => e
theorem Ext.trans {H H' H'' : AHeap} (h : Ext H H') (h' : Ext H' H'') : Ext H H'' := fun a x e => h' a x (h a x e)
theorem Ext.upd {H : AHeap} {a : Addr} {x : AObj} (h : H a = none) : Ext H (upd H a x) := fun b y e => upd_fresh h e
section
variable {k : Wk} {m : Loc} {H : AHeap}
theorem St.list_of_update {c : Cx} {o : Out} {env : Env} {B : BMap} {s : Shared} (st : St c o env B m H s) {l : Addr} {vs : List Value} {n : Nat} (hl : IsL s.heap l vs.toArray n) {x : AObj} (hx : H l = some x) (f : Array Value → Array Value) (ys : List Value) (hf : f vs.toArray = ys.toArray) :
    St c o env B m (upd H l (.list (ys.map er))) { s with heap := s.heap.update l (Obj.mapSeq f) } := by
  have h1 := hl.update f
  rw [hf] at h1
  exact st.put (tk := s.toks) hx (fun b ob ne e => (Heap.get?_update_other _ _ (Ne.symm ne)).trans e) ⟨_, h1, ys, _, rfl, rfl⟩ st.tk
theorem WCall_append {l : Addr} {xs : List V} {v : V} {Q : V → Loc → AHeap → Prop} (hl : H l = some (.list xs)) (hz : xs.length ≤ sizeLine) (h : Q .none m (upd H l (.list (xs ++ [v])))) : WCall k (.builtin "list.append") [.ref l, v] m H Q := fun vs e B s st => by
  refine Mine.hideG fun GG back => ?_
  obtain ⟨x, y, rfl, e1, rfl⟩ := map_er2 e
  refine back ?_
  clear back
  obtain rfl := er_ref e1
  refine Mine.hideG fun GG back => ?_
  obtain ⟨vs, n, hl', rfl⟩ := st.listAt hl
  refine back ?_
  clear back
  have st' := st.list_of_update hl' hl (fun x_1 => x_1.push y) (vs ++ [y]) (by simp)
  rw [List.map_append] at st'
  exact call_meets F.slot_list_append hl'.isList.typeIs F.entry_list_append (F.args_list_append_2 _ _) (list_append l vs.toArray n y (by simpa using hz)) ⟨hl', m, _, st', h⟩
theorem WCall_pop {l : Addr} {xs : List V} {v : V} {Q : V → Loc → AHeap → Prop} (hl : H l = some (.list (xs ++ [v]))) (hz : xs.length < sizeLine) (h : Q v m (upd H l (.list xs))) : WCall k (.builtin "list.pop") [.ref l] m H Q := fun vs e B s st => by
  refine Mine.hideG fun GG back => ?_
  obtain ⟨x, rfl, e1⟩ := map_er1 e
  refine back ?_
  clear back
  obtain rfl := er_ref e1
  refine Mine.hideG fun GG back => ?_
  obtain ⟨vs, n, hl', he⟩ := st.listAt hl
  refine back ?_
  clear back
  obtain ⟨ys, u, rfl⟩ : ∃ ys u, vs = ys ++ [u] := by
    rcases List.eq_nil_or_concat vs with rfl | ⟨ys, u, e⟩
    · simp at he
    · exact ⟨ys, u, by rw [e, List.concat_eq_append]⟩
  rw [List.map_append] at he
  refine Mine.hideG fun GG back => ?_
  obtain ⟨e1, e2⟩ := List.append_inj_left' he (by simp), List.append_inj_right' he (by simp)
  refine back ?_
  clear back
  simp only [List.map_cons, List.map_nil, List.cons.injEq, and_true] at e2
  subst e2
  subst e1
  have st' := st.list_of_update hl' hl (fun xs => xs.eraseIdxIfInBounds ((ys ++ [u]).toArray.size - 1)) ys (by
    apply Array.toList_inj.mp
    simp [Array.eraseIdxIfInBounds]
    rw [List.eraseIdx_append_of_length_le (Nat.le_refl _)]
    simp)
  refine call_meets F.slot_list_pop hl'.isList.typeIs F.entry_list_pop (F.args_list_pop_1 _) (MeetsSeq.list_pop_last l (ys ++ [u]).toArray n u (by simp) (by simp at hz ⊢; lia)) ⟨hl', m, _, st', h⟩
theorem WCall_extend {l b : Addr} {xs ys : List V} {Q : V → Loc → AHeap → Prop} (hl : H l = some (.list xs)) (hb : H b = some (.list ys)) (hz : xs.length + ys.length ≤ sizeLine) (h : Q .none m (upd H l (.list (xs ++ ys)))) : WCall k (.builtin "list.extend") [.ref l, .ref b] m H Q := fun vs e B s st => by
  refine Mine.hideG fun GG back => ?_
  obtain ⟨x, y, rfl, e1, e2⟩ := map_er2 e
  refine back ?_
  clear back
  obtain rfl := er_ref e1
  obtain rfl := er_ref e2
  refine Mine.hideG fun GG back => ?_
  obtain ⟨vs, n, hl', rfl⟩ := st.listAt hl
  obtain ⟨us, n2, hb', rfl⟩ := st.listAt hb
  refine back ?_
  clear back
  have st' := st.list_of_update hl' hl (fun x => x ++ us.toArray) (vs ++ us) (by simp)
  rw [List.map_append] at st'
  rw [List.length_map, List.length_map] at hz
  refine call_meets F.slot_list_extend hl'.isList.typeIs F.entry_list_extend (F.args_list_extend_2 _ _) (AutoSeq1.list_extend_list_list_0 l vs.toArray n b us.toArray n2 ?_ (by simp; lia) (by simp; lia)) ⟨hl', hb', m, _, st', h⟩
  rw [Bool.not_eq_true, Bool.and_eq_false_iff]
  right
  unfold Builtin.List.listTooLong
  simp only [decide_eq_false_iff_not, List.size_toArray]
  have : sizeLine = 16777216 := rfl
  lia
end
end Mine
namespace Mine
noncomputable def WPart (k : Wk) (e : Option Expr) (m : Loc) (H : AHeap) (Q : Option Int → Loc → AHeap → Prop) : Prop := W k (evalPart e k.env) m H fun v m1 H1 => ∃ i, IsPart v i ∧ Q i m1 H1
noncomputable def sliceV {α : Type} (xs : List α) (lo hi : Option Int) : List α := (xs.drop (lo.elim 0 (clipAt xs.length))).take (hi.elim xs.length (clipAt xs.length) - lo.elim 0 (clipAt xs.length))
theorem sliceV_map {α β : Type} (f : α → β) (xs : List α) (lo hi : Option Int) : sliceV (xs.map f) lo hi = (sliceV xs lo hi).map f := by
  unfold sliceV
  rw [List.length_map, List.map_take, List.map_drop]
theorem sliceV_length {α : Type} (xs : List α) (lo hi : Option Int) : (sliceV xs lo hi).length ≤ xs.length := by
  unfold sliceV
  rw [List.length_take, List.length_drop]; lia
theorem clipAt_le (n : Nat) (i : Int) : clipAt n i ≤ n := by
  have h := clipAt_cast n i
  lia
theorem adjust_plain (lo hi : Option Int) (n : Nat) : Builtin.Slice.sliceAdjust lo hi 1 (n : Int) = (((lo.elim 0 (clipAt n) : Nat) : Int), ((hi.elim n (clipAt n) : Nat) : Int)) := by
  have h1 : ¬ ((1 : Int) < 0) := by lia
  have clip : ∀ v : Int, (if v < 0 then max (v + n) 0 else min v n) = ((clipAt n v : Nat) : Int) := fun v => by
    have := clipAt_cast n v
    split at this
    · rename_i h; rw [if_pos h]; lia
    · rename_i h; rw [if_neg h]; lia
  unfold Builtin.Slice.sliceAdjust
  simp only [h1, if_false]
  cases lo <;> cases hi <;> simp only [Option.elim, clip] <;> rfl
theorem places_plain (a b : Nat) : Builtin.Slice.slicePlaces (a : Int) (b : Int) 1 = b - a := by
  unfold Builtin.Slice.slicePlaces
  have h1 : (1 : Int) > 0 := by lia
  simp only [h1, if_true, Int.ediv_one]
  split <;> lia
section
variable {prog : Program} {w : World} {A : Around} {E : Value → Shared → Prop} {s : Shared}
theorem slicePart_ {v : Value} {i : Option Int} {Q : Option Int → Shared → Prop} (hv : IsPart v i) (h : Q i s) : wpAny (model prog w) A (Builtin.Slice.slicePartIndex v) Q E s := by
  cases hv with
  | none => exact slicePart_none h
  | int i t => exact slicePart_int h
theorem sliceApplied_plain {sl : Addr} {vl vu : Value} {lo hi : Option Int} {n : Nat} {Q : Int × Int × Nat → Shared → Prop} (hs : s.heap.IsSliceOf sl vl vu .none) (pl : IsPart vl lo) (pu : IsPart vu hi)
    (h : Q (((lo.elim 0 (clipAt n) : Nat) : Int), 1, hi.elim n (clipAt n) - lo.elim 0 (clipAt n)) s) :
    wpAny (model prog w) A (Builtin.Slice.sliceApplied (.ref sl) (pure (n : Int))) Q E s := by
  obtain ⟨os, hos, hcs, hds⟩ := id hs
  unfold Builtin.Slice.sliceApplied Builtin.Slice.sliceFields
  refine wpAny_bind (wpAny_bind (wpAny_field hos hds (x := vl) rfl (wpAny_bind (wpAny_field hos hds (x := vu) rfl (wpAny_bind (wpAny_field hos hds (x := .none) rfl (wpAny_pure ?_)))))))
  refine wpAny_bind (slicePart_none ?_)
  show wpAny _ _ (if ((1 : Int) == 0) = true then _ else _) _ _ s
  rw [if_neg (by decide)]
  refine wpAny_bind (slicePart_ pl (wpAny_bind (slicePart_ pu (wpAny_bind (wpAny_pure ?_)))))
  show wpAny _ _ (match Builtin.Slice.sliceAdjust lo hi 1 (n : Int) with | (lo, hi) => pure (lo, (1 : Int), Builtin.Slice.slicePlaces lo hi 1)) _ _ s
  rw [adjust_plain]
  show wpAny _ _ (pure (_, (1 : Int), Builtin.Slice.slicePlaces _ _ 1)) _ _ s
  rw [places_plain]
  exact wpAny_pure h
theorem getItem_tuple_plain {t sl : Addr} {items : Array Value} {vl vu : Value} {lo hi : Option Int} {Q : Value → Shared → Prop} (ht : IsTup s.heap t items) (hs : s.heap.IsSliceOf sl vl vu .none) (pl : IsPart vl lo) (pu : IsPart vu hi)
    (hw : sliceV items.toList lo hi = items.toList → Q (.ref t) s)
    (h : Q (.ref s.heap.objs.size) { s with heap := s.heap.push { cls := .type "tuple", data := .seq (sliceV items.toList lo hi).toArray } })
    (hsz : items.size ≤ sizeLine) : wpAny (model prog w) A (getItem (.ref t) (.ref sl)) Q E s := by
  have hok : sizeOk (.seq (sliceV items.toList lo hi).toArray) := by
    show (sliceV items.toList lo hi).toArray.size ≤ sizeLine
    rw [List.size_toArray]
    exact Nat.le_trans (sliceV_length _ _ _) (by simpa using hsz)
  obtain ⟨os, hos, hcs, hds⟩ := id hs
  have hTs : s.TypeIs (.ref sl) "slice" := ⟨os, hos, hcs⟩
  unfold getItem
  try with_reducible refine wpAny_holding ?_
  first | refine wpAny_bind (wpAny_pure ?_) | skip
  refine wpAny_bind (wpAny_sequenceKey ht.typeIs (by decide) ?_)
  refine wpAny_bind (wpAny_callSpecial?_slot (name := Str.ofString "__getitem__") ht.typeIs slot_tuple_getitem
    (wpAny_call_entry slot_tuple_getitem ht.typeIs entry_tuple_getitem ?_ (args_tuple_getitem _ _)))
  show wpAny _ _ (Builtin.Tuple.tupleItemsOf (.ref t) >>= _) _ _ s
  refine wpAny_bind (tupleItemsOf_ ht ?_)
  refine wpAny_bind (wpAny_typeOf hTs ?_)
  rw [if_pos (by decide)]
  refine wpAny_bind (sliceApplied_plain hs pl pu ?_)
  generalize ha : lo.elim 0 (clipAt items.size) = a
  generalize hb : hi.elim items.size (clipAt items.size) = b
  have hal : a ≤ items.size := by
    subst ha; cases lo with
    | none => exact Nat.zero_le _
    | some i => exact clipAt_le _ _
  have hbl : b ≤ items.size := by
    subst hb; cases hi with
    | none => exact Nat.le_refl _
    | some i => exact clipAt_le _ _
  have hv : sliceV items.toList lo hi = (items.toList.drop a).take (b - a) := by unfold sliceV; rw [Array.length_toList, ha, hb]
  show wpAny _ _ (if ((a : Int) == 0 && (1 : Int) == 1 && (b - a) == items.size) = true then _ else _) _ _ s
  by_cases hall : ((a : Int) == 0 && (1 : Int) == 1 && (b - a) == items.size) = true
  · rw [if_pos hall]
    simp only [Bool.and_eq_true, beq_iff_eq] at hall
    have ha0 : a = 0 := by lia
    have hbn : b = items.size := by lia
    have := hw (by rw [hv, ha0, hbn, List.drop_zero, List.take_of_length_le (by simp)])
    refine wpAny_bind (m := Builtin.Tuple.tupleIsExact _) ?_
    unfold Builtin.Tuple.tupleIsExact
    refine wpAny_bind (wpAny_typeOf ht.typeIs (wpAny_pure ?_))
    rw [if_pos (by decide)]
    first
      | exact wpAny_bind (wpAny_rule (wpAny_bind (wpAny_pure (wpAny_pure ⟨_, rfl, wpAny_pure this⟩))))
      | exact wpAny_bind (wpAny_rule (wpAny_bind (wpAny_pure ⟨_, rfl, wpAny_pure this⟩)))
      | exact wpAny_bind (wpAny_rule (wpAny_pure ⟨_, rfl, wpAny_pure this⟩))
  · rw [if_neg hall]
    have epick : ((List.range (b - a)).filterMap fun (k : Nat) => items[((a : Int) + (k : Int) * 1).toNat]?).toArray = (sliceV items.toList lo hi).toArray := by
      have e : (fun (k : Nat) => items[((a : Int) + (k : Int) * 1).toNat]?) = fun k => items[a + k]? := by
        funext k
        have : ((a : Int) + (k : Int) * 1).toNat = a + k := by lia
        rw [this]
      rw [e]
      have := pick_run items a (b - a)
      rw [List.filterMap_map] at this
      have e2 : ((fun x => items[x]?) ∘ fun x => a + x) = fun k => items[a + k]? := rfl
      rw [e2] at this
      rw [this, hv]
    rw [epick]
    first
      | exact wpAny_bind (m := Builtin.Tuple.tupleExact _) (wpAny_newObj_type (wpAny_pure ⟨_, rfl, wpAny_pure h⟩) hok)
      | exact wpAny_bind (m := Builtin.Tuple.tupleExact _) (wpAny_newObj_type (wpAny_bind (wpAny_pure (wpAny_pure ⟨_, rfl, wpAny_pure h⟩))) hok)
      | exact wpAny_bind (wpAny_bind (m := Builtin.Tuple.tupleExact _) (wpAny_newObj_type (wpAny_pure (wpAny_pure ⟨_, rfl, wpAny_pure h⟩)) hok))
      | exact wpAny_bind (wpAny_bind (m := Builtin.Tuple.tupleExact _) (wpAny_newObj_type (wpAny_pure ⟨_, rfl, wpAny_pure h⟩) hok))
end
section
variable {k : Wk} {m : Loc} {H : AHeap}
theorem WPart_none {Q : Option Int → Loc → AHeap → Prop} (h : Q none m H) : WPart k none m H Q := W.pure ⟨none, .none, h⟩
theorem WPart_some {e : Expr} {Q : Option Int → Loc → AHeap → Prop} (h : WV k (eval e k.env) m H fun v m1 H1 => ∃ i, v = .int i ∧ Q (some i) m1 H1) : WPart k (some e) m H Q :=
  W.mono h fun v m1 H1 ⟨i, e, q⟩ => by
    obtain ⟨t, rfl⟩ := er_int e
    exact ⟨_, .int i t, q⟩
noncomputable def WSl (k : Wk) (ov : V) (i j : Option Int) (m : Loc) (H : AHeap) (Q : V → Loc → AHeap → Prop) : Prop :=
  ∃ a, ov = .ref a ∧ ((∃ xs, H a = some (.list xs) ∧ xs.length ≤ sizeLine ∧ ∀ b H', Ext H H' → H b = none → H' b = some (.list (sliceV xs i j)) → Q (.ref b) m H') ∨ (∃ xs, H a = some (.tup xs) ∧ xs.length ≤ sizeLine ∧ ∀ b H', Ext H H' → H' b = some (.tup (sliceV xs i j)) → Q (.ref b) m H'))
theorem W_SubSlice {value : Expr} {lo hi : Option Expr} {p pos : Pos} {Q : V → Loc → AHeap → Prop}
    (h : WV k (eval value k.env) m H fun ov m1 H1 => WPart k lo m1 H1 fun i m2 H2 => WPart k hi m2 H2 fun j m3 H3 => WSl k ov i j m3 H3 Q)
    (hs : ∀ o i, ∃ ops, subscripted (.Slice lo hi none p) false o i = operate ops (getItem o i) := by intro _ _; exact ⟨_, by with_unfolding_all rfl⟩) : WV k (eval (.Subscript value (.Slice lo hi none p) pos) k.env) m H Q := fun B s st =>
  Subscript_ (wpAny_mono (h B s st) (fun ov s1 ⟨m1, H1, st1, q1⟩ => wpAny_Slice (wpAny_mono (q1 B s1 st1) (fun l s2 ⟨m2, H2, st2, i, pl, q2⟩ => wpAny_mono (q2 B s2 st2) (fun u s3 hx1 => by
    refine Mine.hideG fun GG back => ?_
    obtain ⟨m3, H3, st3, j, pu, q3⟩ := hx1
    refine back ?_
    clear back
    rw [evalPart_none]
    refine wpAny_pure ?_
    obtain ⟨a, e, q3⟩ := q3
    obtain rfl := er_ref e
    obtain ⟨ops, hs⟩ := hs (.ref a) (.ref s3.heap.objs.size)
    have st4 := st3.grown (tk := s3.toks) (h' := s3.heap.push { cls := .type "slice", data := .fields #[l, u, .none] }) (fun b ob e => Heap.get?_push_of_some _ e) st3.tk
    rcases q3 with ⟨xs, hx, hz, q⟩ | ⟨xs, hx, hz, q⟩
    · obtain ⟨vs, n, hl, rfl⟩ := st4.listAt hx
      have hn := st4.none_at (Nat.le_refl _)
      refine tail_any (s := { s3 with heap := s3.heap.push { cls := .type "slice", data := .fields #[l, u, .none] } }) hl.isList.typeIs slot_list_getitem.lookup (wpAny_getItem_list_slice hl.isList (Heap.IsSliceOf.new ..) pl pu .none (by intro e; cases e) ⟨m3, _, st4.new (tk := s3.toks) (Nat.le_refl _) (fun b ob e => Heap.get?_push_of_some _ e) (y := .list (sliceV (vs.map er) i j)) ⟨_, Heap.get?_push_size _ rfl, sliceV vs i j, 0, ?_, (sliceV_map _ _ _ _).symm⟩ st4.tk, q _ _ (Ext.upd (st4.fresh hn).1) (st4.fresh hn).1 upd_same⟩ (by simpa using hz)) hs
      rw [slicePick_plain]
      rfl
    · obtain ⟨vs, n, hl, rfl⟩ := st4.tupAt hx
      have hT : IsTup (s3.heap.push { cls := .type "slice", data := .fields #[l, u, .none] }) a vs.toArray := ⟨_, hl, rfl, n, rfl⟩
      have hn := st4.none_at (Nat.le_refl _)
      refine tail_any (s := { s3 with heap := s3.heap.push { cls := .type "slice", data := .fields #[l, u, .none] } }) hT.typeIs slot_tuple_getitem.lookup (getItem_tuple_plain hT (Heap.IsSliceOf.new ..) pl pu (fun e => ⟨m3, H3, st4, q a H3 (Ext.refl _) ?_⟩) ⟨m3, _, st4.new (tk := s3.toks) (Nat.le_refl _) (fun b ob e => Heap.get?_push_of_some _ e) (y := .tup (sliceV (vs.map er) i j)) ⟨_, Heap.get?_push_size _ rfl, sliceV vs i j, 0, rfl, (sliceV_map _ _ _ _).symm⟩ st4.tk, q _ _ (Ext.upd (st4.fresh hn).1) upd_same⟩ (by simpa using hz)) hs
      rw [sliceV_map, show sliceV vs i j = vs from e]; exact hx) fun _ _ x => x) fun _ _ x => x)) fun _ _ x => x)
end
end Mine
namespace Mine
section
variable {c : Cx} {o : Out} {env : Env} {B : BMap} {m : Loc} {H : AHeap} {s : Shared}
theorem St.but {m₀ : Loc} {H₀ : AHeap} {s₀ : Shared} (st₀ : St c o env B m₀ H₀ s₀) {it : Addr} {x : Obj × Bool} (hB : B it = none) (hb : c.base.objs.size ≤ it) (st : St c o env (upd B it x) m H s) {h' : Heap} {tk : Nat} (hk : Heap.ExtBut it s.heap h') (ht : 1 ≤ tk) :
    St c o env B m H { s with heap := h', toks := tk } := by
  have q : ∀ b y, B b = some y → upd B it x b = some y := fun b y e => upd_fresh hB e
  have r : ∀ b, upd B it x b = none → B b = none := fun b e => by
    cases h : B b with
    | none => rfl
    | some y => rw [q b y h] at e; cases e
  have hHit : ∀ b y, H b = some y → b ≠ it := fun b y e z => by
    have := st.disB b y e
    rw [z, upd_same] at this; cases this
  have hpit : ∀ b ∈ places env, b ≠ it := fun b hb z => by
    have := (st.pl b hb).2.1
    rw [z, upd_same] at this; cases this
  have hbase : ∀ b ob, c.base.get? b = some ob → b ≠ it := fun b ob e z => by
    rw [z, none_ge hb] at e; cases e
  refine ⟨fun b ob e => hk b ob (hbase b ob e) (st.base b ob e), fun b ob l e => ?_, fun b y e => ?_, fun b y e => r b (st.disB b y e), st.disBase, fun b z => ⟨(st.pl b z).1, r b (st.pl b z).2.1, (st.pl b z).2.2⟩, st.nodup, fun b e => ?_, ?_, st₀.frames, st.gens, st.os, ht⟩
  · refine Mine.hideG fun GG back => ?_
    obtain ⟨sl, e1, e2⟩ := st.keep b ob l (q b _ e)
    refine back ?_
    clear back
    exact ⟨sl, hk b _ (fun z => by rw [z, hB] at e; cases e) e1, e2⟩
  · refine Mine.hideG fun GG back => ?_
    obtain ⟨ob, e1, e2⟩ := st.own b y e
    refine back ?_
    clear back
    exact ⟨ob, hk b ob (hHit b y e) e1, e2⟩
  · refine Mine.hideG fun GG back => ?_
    obtain ⟨v, ob, e1, e2⟩ := st.cell b e
    refine back ?_
    clear back
    exact ⟨v, ob, hk b ob (hpit b (List.mem_cons_of_mem _ e)) e1, e2⟩
  · exact var_keeps (fun b hb' ob e => hk b ob (hpit b hb') e) st.var
theorem St.rehide {m₀ : Loc} {H₀ : AHeap} {s₀ : Shared} (st₀ : St c o env B m₀ H₀ s₀) {it : Addr} {x : Obj × Bool} (hB : B it = none) (hb : c.base.objs.size ≤ it) (st : St c o env (upd B it x) m H s) {h' : Heap} {tk : Nat} (hk : Heap.ExtBut it s.heap h') (ht : 1 ≤ tk) {ob : Obj} (ho : h'.get? it = some ob) :
    St c o env (upd B it (ob, false)) m H { s with heap := h', toks := tk } := by
  refine (st₀.but hB hb st hk ht).hide (l := false) ho ?_ (fun z => ?_) hB
  · cases e : H it with
    | none => rfl
    | some y => have := st.disB it y e; rw [upd_same] at this; cases this
  · have := (st.pl it z).2.1
    rw [upd_same] at this; cases this
end
noncomputable def Own (c : Cx) (H : AHeap) (s : Shared) : Prop := ((∀ a x, H a = some x → c.base.objs.size ≤ a ∧ ∃ ob, s.heap.get? a = some ob ∧ IsObj c ob x) ∧ c.base.StaysIn s.heap) ∧ 1 ≤ s.toks
theorem St.owned {c : Cx} {o : Out} {env : Env} {B : BMap} {m : Loc} {H : AHeap} {s : Shared} (st : St c o env B m H s) : Own c H s := ⟨⟨fun a x e => ⟨st.disBase a x e, st.own a x e⟩, st.base⟩, st.tk⟩
theorem Own.listAt {c : Cx} {H : AHeap} {s : Shared} (h : Own c H s) {l : Addr} {xs : List V} (hl : H l = some (.list xs)) : ∃ vs n, IsL s.heap l (vs : List Value).toArray n ∧ vs.map er = xs := by
  refine Mine.hideG fun GG back => ?_
  obtain ⟨_, ob, ho, vs, n, rfl, e⟩ := h.1.1 l _ hl
  refine back ?_
  clear back
  exact ⟨vs, n, ho, e⟩
theorem Own.tupAt {c : Cx} {H : AHeap} {s : Shared} (h : Own c H s) {l : Addr} {xs : List V} (hl : H l = some (.tup xs)) : ∃ vs n, s.heap.get? l = some { cls := .type "tuple", data := .seq (vs : List Value).toArray n } ∧ vs.map er = xs := by
  refine Mine.hideG fun GG back => ?_
  obtain ⟨_, ob, ho, vs, n, rfl, e⟩ := h.1.1 l _ hl
  refine back ?_
  clear back
  exact ⟨vs, n, ho, e⟩
theorem Own.dictAt {c : Cx} {H : AHeap} {s : Shared} (h : Own c H s) {d : Addr} {kvs : List (Key × V)} {ep : Nat} (hd : H d = some (.dict kvs ep)) : ∃ rvs, s.heap.DictAt (mix c.prog c.w) d rvs ep ∧ rvs.map erP = kvs := by
  refine Mine.hideG fun GG back => ?_
  obtain ⟨_, ob, ho, hI⟩ := h.1.1 d _ hd
  refine back ?_
  clear back
  exact dictAt_of ho hI
structure Walkable (c : Cx) (A : Around) (it : Addr) (n : Nat) (R : Nat → V → Prop) (ok : AHeap → Prop) (at_ : Nat → Obj → Prop) : Prop where
  item : ∀ i, i < n → ∀ H s ob, Own c H s → s.heap.get? it = some ob → at_ i ob → ok H → ∀ (P : Option Value → Shared → Prop), (∀ v h' tk ob', 1 ≤ tk → R i (er v) → at_ (i + 1) ob' → h'.get? it = some ob' → Heap.SameBut it s.heap h' → P (some v) { s with heap := h', toks := tk }) →
    ∀ E, wpAny (model c.prog c.w) A (pyNext (.ref it)) P E s
  fin : ∀ H s ob, Own c H s → s.heap.get? it = some ob → at_ n ob → ok H → ∀ (P : Option Value → Shared → Prop), (∀ h', Heap.ExtBut it s.heap h' → P none { s with heap := h' }) →
    ∀ E, wpAny (model c.prog c.w) A (pyNext (.ref it)) P E s
  self : ∀ ob (s : Shared) (P : Value → Shared → Prop), s.heap.get? it = some ob → at_ 0 ob → P (.ref it) s → ∀ E, wpAny (model c.prog c.w) A (pyIter (.ref it)) P E s
  cls : ∀ i ob, at_ i ob → ∃ T vs, ob.cls = .type T ∧ ob.data = .fields vs ∧ ["enumerate", "zip", "dict_itemiterator", "dict_reverseitemiterator", "odict_iterator", "itertools.zip_longest", "itertools.pairwise"].contains T = false
noncomputable def WIter (k : Wk) (xv : V) (m : Loc) (H : AHeap) (n : Nat) (R : Nat → V → Prop) (ok : AHeap → Prop) : Prop :=
  ∀ x, er x = xv → ∀ B s, St k.c k.o k.env B m H s → ∀ (P : Value → Shared → Prop) (E : Value → Shared → Prop),
    (∀ it ob at_ s2, Walkable k.c k.A it n R ok at_ → at_ 0 ob → B it = none → k.c.base.objs.size ≤ it → St k.c k.o k.env (upd B it (ob, false)) m H s2 → P (.ref it) s2) → wpAny (model k.c.prog k.c.w) k.A (pyIter x) P E s
section
variable {k : Wk} {m : Loc} {H : AHeap}
theorem hide_new {B : BMap} {s : Shared} (st : St k.c k.o k.env B m H s) (ob : Obj) (hf : ob.isFreed = false) :
    B s.heap.objs.size = none ∧ k.c.base.objs.size ≤ s.heap.objs.size ∧ St k.c k.o k.env (upd B s.heap.objs.size (ob, false)) m H { s with heap := s.heap.push ob } := by
  refine Mine.hideG fun GG back => ?_
  obtain ⟨f1, f2, f3, f4⟩ := st.fresh (st.none_at (Nat.le_refl _))
  refine back ?_
  clear back
  exact ⟨f2, st.baseLe, (st.grown (tk := s.toks) (fun b ob e => Heap.get?_push_of_some _ e) st.tk).hide (Heap.get?_push_size _ hf) f1 f4 f2⟩
theorem hid_at {c : Cx} {o : Out} {env : Env} {B : BMap} {s : Shared} {it : Addr} {ob : Obj} (st : St c o env (upd B it (ob, false)) m H s) : s.heap.get? it = some ob := by
  refine Mine.hideG fun GG back => ?_
  obtain ⟨sl, e1, e2⟩ := st.keep it ob false upd_same
  refine back ?_
  clear back
  rw [e1, e2 rfl]
theorem WIter_list {a : Addr} {xs : List V} (hh : k.A.handled = none) (ha : H a = some (.list xs)) : WIter k (.ref a) m H xs.length (fun i v => xs[i]? = some v) (fun H => H a = some (.list xs)) := fun x hx B s st P E hP => by
  obtain rfl := er_ref hx
  refine Mine.hideG fun GG back => ?_
  obtain ⟨vs, n, hl, hvs⟩ := st.listAt ha
  obtain ⟨h1, h2, st2⟩ := hide_new st { cls := .type "list_iterator", data := .fields #[.ref a, .int 0 0] } rfl
  refine back ?_
  clear back
  refine wpAny_pyIter_list hl.isList (hP _ _ (fun i ob => ob.cls = .type "list_iterator" ∧ ob.data = .fields #[.ref a, .int i 0]) _ ⟨?_, ?_, ?_, ?_⟩ ⟨rfl, rfl⟩ h1 h2 st2)
  · intro i hi H s ob st hob hat ha P hP E
    refine Mine.hideG fun GG back => ?_
    obtain ⟨vs, n, hl, hvs⟩ := st.listAt ha
    refine back ?_
    clear back
    have hi' : i < vs.length := by rw [← hvs] at hi; simpa using hi
    refine wpAny_pyNext_list_item ⟨ob, hob, hat⟩ hl.isList (x := vs[i]) (by simp [hi']) fun h' ⟨ob', e1, e2⟩ hs => hP vs[i] h' s.toks ob' st.2 ?_ e2 e1 hs
    rw [← hvs]; simp [hi']
  · intro H s ob st hob hat ha P hP E
    refine Mine.hideG fun GG back => ?_
    obtain ⟨vs, n, hl, hvs⟩ := st.listAt ha
    refine back ?_
    clear back
    exact wpAny_pyNext_list_end hh ⟨ob, hob, hat⟩ hl.isList (by rw [← hvs]; simp) hP
  · intro ob s P ho h hP E
    exact wpAny_pyIter_listiter (l := a) (i := 0) ⟨ob, ho, h⟩ hP
  · intro i ob h
    exact ⟨_, _, h.1, h.2, by decide⟩
theorem WIter_tup {a : Addr} {xs : List V} (hh : k.A.handled = none) (ha : H a = some (.tup xs)) : WIter k (.ref a) m H xs.length (fun i v => xs[i]? = some v) (fun H => H a = some (.tup xs)) := fun x hx B s st P E hP => by
  obtain rfl := er_ref hx
  refine Mine.hideG fun GG back => ?_
  obtain ⟨vs, n, hl, hvs⟩ := st.tupAt ha
  obtain ⟨h1, h2, st2⟩ := hide_new st { cls := .type "tuple_iterator", data := .fields #[.ref a, .int 0 0] } rfl
  refine back ?_
  clear back
  refine wpAny_pyIter_tuple (items := (vs : List Value).toArray) ⟨_, hl, rfl, n, rfl⟩ (hP _ _ (fun i ob => ob.cls = .type "tuple_iterator" ∧ ob.data = .fields #[.ref a, .int i 0]) _ ⟨?_, ?_, ?_, ?_⟩ ⟨rfl, rfl⟩ h1 h2 st2)
  · intro i hi H s ob st hob hat ha P hP E
    refine Mine.hideG fun GG back => ?_
    obtain ⟨vs, n, hl, hvs⟩ := st.tupAt ha
    refine back ?_
    clear back
    have hi' : i < vs.length := by rw [← hvs] at hi; simpa using hi
    refine wpAny_pyNext_tuple_item (items := (vs : List Value).toArray) ⟨ob, hob, hat⟩ ⟨_, hl, rfl, n, rfl⟩ (x := vs[i]) (by simp [hi']) fun h' ⟨ob', e1, e2⟩ hs => hP vs[i] h' s.toks ob' st.2 ?_ e2 e1 hs
    rw [← hvs]; simp [hi']
  · intro H s ob st hob hat ha P hP E
    refine Mine.hideG fun GG back => ?_
    obtain ⟨vs, n, hl, hvs⟩ := st.tupAt ha
    refine back ?_
    clear back
    exact wpAny_pyNext_tuple_end (items := (vs : List Value).toArray) hh ⟨ob, hob, hat⟩ ⟨_, hl, rfl, n, rfl⟩ (by rw [← hvs]; simp) hP
  · intro ob s P ho h hP E
    exact wpAny_pyIter_tupleiter (t := a) (i := 0) ⟨ob, ho, h⟩ hP
  · intro i ob h
    exact ⟨_, _, h.1, h.2, by decide⟩
theorem WIter_dict {d : Addr} {kvs : List (Key × V)} {ep : Nat} (hh : k.A.handled = none) (hd : H d = some (.dict kvs ep)) :
    WIter k (.ref d) m H kvs.length (fun i v => ∃ kv, kvs[i]? = some kv ∧ isKV kv.1 v = true) (fun H => ∃ kvs', H d = some (.dict kvs' ep) ∧ kvs'.map (·.1) = kvs.map (·.1)) := fun x hx B s st P E hP => by
  obtain rfl := er_ref hx
  refine Mine.hideG fun GG back => ?_
  obtain ⟨rvs, hm, hrv⟩ := st.dictAt hd
  refine back ?_
  clear back
  have hlen : kvs.length = rvs.length := by rw [← hrv]; simp
  refine Mine.hideG fun GG back => ?_
  obtain ⟨h1, h2, st2⟩ := hide_new st { cls := .type "dict_keyiterator", data := .fields #[.ref d, .int 0 0, .int rvs.length 0, .int ep 0] } rfl
  refine back ?_
  clear back
  refine wpAny_pyIter_dict (st.notMods hd) hm (hP _ _ (fun i ob => ob.cls = .type "dict_keyiterator" ∧ ob.data = .fields #[.ref d, .int i 0, .int kvs.length 0, .int ep 0]) _ ⟨?_, ?_, ?_, ?_⟩ ⟨rfl, by rw [hlen]; rfl⟩ h1 h2 st2)
  · intro i hi H s ob st hob hat ⟨kvs', hd', hkeys⟩ P hP E
    refine Mine.hideG fun GG back => ?_
    obtain ⟨rvs', hm', hrv'⟩ := st.dictAt hd'
    refine back ?_
    clear back
    have hlen' : rvs'.length = kvs.length := by
      have := congrArg List.length hkeys
      rw [← hrv'] at this
      simpa using this
    have hi' : i < rvs'.length := by lia
    refine wpAny_pyNext_dict_item (i := i) (kvs := rvs') (k := rvs'[i].1) (v := rvs'[i].2) ⟨ob, hob, by rw [hlen']; exact hat⟩ hm' (by simp [hi']) fun key h' hkey hit hs => ?_
    refine Mine.hideG fun GG back => ?_
    obtain ⟨ob', e1, e2⟩ := hit
    refine back ?_
    clear back
    rw [hlen'] at e2
    refine hP key h' s.toks ob' st.2 ⟨kvs[i], by simp [hi], ?_⟩ e2 e1 hs
    rw [← isKey_er]
    have e : (kvs.map (·.1))[i]? = some rvs'[i].1 := by rw [← hkeys, ← hrv']; simp [hi']
    rw [List.getElem?_map] at e
    simp [hi] at e
    rw [e]; exact hkey
  · intro H s ob st hob hat ⟨kvs', hd', hkeys⟩ P hP E
    refine Mine.hideG fun GG back => ?_
    obtain ⟨rvs', hm', hrv'⟩ := st.dictAt hd'
    refine back ?_
    clear back
    have hlen' : rvs'.length = kvs.length := by
      have := congrArg List.length hkeys
      rw [← hrv'] at this
      simpa using this
    exact wpAny_pyNext_dict_end (kvs := rvs') (i := kvs.length) hh ⟨ob, hob, by rw [hlen']; exact hat⟩ hm' (by simp [hlen']) hP
  · intro ob s P ho h hP E
    exact wpAny_pyIter_keyiter (d := d) (i := 0) (n := kvs.length) (ep := ep) ⟨ob, ho, h⟩ hP
  · intro i ob h
    exact ⟨_, _, h.1, h.2, by decide⟩
noncomputable def rangeN (lo hi st : Int) : Nat := (Builtin.Range.rangeSize lo hi st).toNat
theorem rangeSize_nonneg (a b c : Int) : 0 ≤ Builtin.Range.rangeSize a b c := by
  unfold Builtin.Range.rangeSize
  split
  · split
    · have : 0 ≤ (b - a - 1) / c := Int.ediv_nonneg (by lia) (by lia)
      lia
    · lia
  · split
    · by_cases hc : c = 0
      · subst hc; simp
      · have : 0 ≤ (a - b - 1) / (-c) := Int.ediv_nonneg (by lia) (by lia)
        lia
    · lia
theorem WIter_range {a : Addr} {lo hi st : Int} (hh : k.A.handled = none) (ha : H a = some (.range lo hi st)) (hs : Builtin.Range.small lo hi st = true) : WIter k (.ref a) m H (rangeN lo hi st) (fun i v => v = .int (lo + i * st)) (fun _ => True) := fun x hx B s stt P E hP => by
  obtain rfl := er_ref hx
  refine Mine.hideG fun GG back => ?_
  obtain ⟨ob, ho, t, u, v, rfl⟩ := stt.own a _ ha
  refine back ?_
  clear back
  have hN : ((rangeN lo hi st : Nat) : Int) = Builtin.Range.rangeSize lo hi st := Int.toNat_of_nonneg (rangeSize_nonneg _ _ _)
  refine Mine.hideG fun GG back => ?_
  obtain ⟨h1, h2, st2⟩ := hide_new stt { cls := .type "range_iterator", data := .fields #[rawInt lo, rawInt (Builtin.Range.rangeSize lo hi st), rawInt st] } rfl
  refine back ?_
  clear back
  refine wpAny_pyIter_range ho hs (hP _ _ (fun i ob => ob = { cls := .type "range_iterator", data := .fields #[rawInt (lo + i * st), rawInt (Builtin.Range.rangeSize lo hi st - i), rawInt st] }) _ ⟨?_, ?_, ?_, ?_⟩ (by simp) h1 h2 st2)
  · intro i hlt H s ob st' hob hat _ P hP E
    rw [hat] at hob
    refine wpAny_pyNext_range_item (x := lo + i * st) (left := Builtin.Range.rangeSize lo hi st - i) (step := st) hob (by lia) fun h' hit' hs' => hP _ _ _ _ (Nat.le_succ_of_le st'.2) rfl ?_ hit' hs'
    rw [show lo + (((i + 1 : Nat) : Int)) * st = lo + (i : Int) * st + st from by rw [Int.natCast_add]; simp [Int.add_mul]; lia,
      show Builtin.Range.rangeSize lo hi st - ((i + 1 : Nat) : Int) = Builtin.Range.rangeSize lo hi st - (i : Int) - 1 from by lia]
  · intro H s ob st' hob hat _ P hP E
    rw [hat] at hob
    exact wpAny_pyNext_range_end hh (x := lo + (rangeN lo hi st : Nat) * st) (left := Builtin.Range.rangeSize lo hi st - (rangeN lo hi st : Nat)) (step := st) hob (by lia) hP
  · intro ob s P ho h hP E
    rw [h] at ho
    exact wpAny_pyIter_rangeiter ho hP
  · intro i ob h
    rw [h]
    exact ⟨_, _, rfl, rfl, by decide⟩
theorem wpAny_letGo_plain {it : Addr} {ob : Obj} {T : String} {vs : Array Value} {target : Expr} {v : Value} {s : Shared} {Q : Unit → Shared → Prop} {E : Value → Shared → Prop} {M : Model} {A : Around} (ho : s.heap.get? it = some ob) (hc : ob.cls = .type T) (hd : ob.data = .fields vs)
    (hT : ["enumerate", "zip", "dict_itemiterator", "dict_reverseitemiterator", "odict_iterator", "itertools.zip_longest", "itertools.pairwise"].contains T = false) (h : Q () s) : wpAny M A (letOwnedTupleGo target (.ref it) v) Q E s := by
  have key : wpAny M A (do
      let (.ref r, .ref a) := (Value.ref it, v) | return
      let o ← load r
      match o.cls, o.data with
      | .type n, .fields vs =>
        if ["enumerate", "zip", "dict_itemiterator", "dict_reverseitemiterator", "odict_iterator", "itertools.zip_longest", "itertools.pairwise"].contains n && vs[0]? == some (rawInt a) then
          rule "for.unpacks-the-owned-tuple"
          updateField r 0 .none
      | _, _ => pure ()) Q E s := by
    cases v with
    | ref a =>
      refine wpAny_bind (wpAny_load ho ?_)
      rw [hc, hd]
      show wpAny M A (if (["enumerate", "zip", "dict_itemiterator", "dict_reverseitemiterator", "odict_iterator", "itertools.zip_longest", "itertools.pairwise"].contains T && vs[0]? == some (rawInt a)) = true then _ else _) Q E s
      rw [hT, Bool.false_and, if_neg Bool.false_ne_true]
      exact wpAny_pure h
    | _ => exact wpAny_pure h
  cases target <;> first | exact key | exact wpAny_pure h
noncomputable def loopQ (k : Wk) (Q : Flow → Loc → AHeap → Prop) (I : Loc → AHeap → Prop) (f : Flow) (m : Loc) (H : AHeap) : Prop := match f with
  | .next | .cont => I m H
  | .brk => Q .next m H
  | .ret v => Q (.ret v) m H
theorem W_For {target iter : Expr} {body : List Stmt} {pos : Pos} {Q : Flow → Loc → AHeap → Prop}
    (h : WV k (eval iter k.env) m H fun xv m1 H1 => ∃ n R ok, ∃ I : Nat → Loc → AHeap → Prop, WIter k xv m1 H1 n R ok ∧ I 0 m1 H1 ∧ (∀ i m2 H2, I i m2 H2 → ok H2) ∧
      (∀ i x m2 H2, i < n → R i x → I i m2 H2 → WAs k target x m2 H2 fun m3 H3 => WF k (execs body k.env) m3 H3 (loopQ k Q (I (i + 1)))) ∧ (∀ m2 H2, I n m2 H2 → Q .next m2 H2))
    (hs : ∀ x, foldedSetIterable iter k.env x = pure x := by intro _; rfl) : W k (exec (.For target iter body [] pos) k.env) m H Q := fun B s st =>
  wpAny_For (wpAny_mono (h B s st) (fun x s1 hx1 => Mine.hideG fun GG back => by
    obtain ⟨m1, H1, st1, n, R, ok, I, hit, h0, hok, step, fin⟩ := hx1
    refine back ?_
    exact hit x rfl B s1 st1 _ _ fun it ob at_ s2 wk h0' hB hb st2 => codeAny_forLoop_any
      (fun j s' => ∃ i m' H' ob', j + i = n ∧ at_ i ob' ∧ I i m' H' ∧ St k.c k.o k.env (upd B it (ob', false)) m' H' s') (by
        intro j s' hg225_2
        refine Mine.hideG fun GG back => ?_
        obtain ⟨i, m', H', ob', hj, hat, hI, st'⟩ := hg225_2
        refine back ?_
        clear back
        by_cases hi : i < n
        · refine wk.item i hi H' s' ob' st'.owned (hid_at st') hat (hok _ _ _ hI) _ (fun v h' tk ob'' htk hR hat' ho hsame => ?_) _
          refine Mine.hideG fun GG back => ?_
          obtain ⟨T, vs, hc, hd, hT⟩ := wk.cls _ _ hat'
          refine back ?_
          clear back
          have st'' := st1.rehide hB hb st' hsame.extBut htk ho
          refine wpAny_letGo_plain (s := { s' with heap := h', toks := tk }) ho hc hd hT ?_
          refine wpAny_mono (step i (er v) m' H' hi hR hI v rfl _ _ st'') (fun _ s₂ ⟨m2, H2, st2, q2⟩ => ?_) fun e s₂ he => k.pass e s₂ he
          refine wpAny_mono (q2 _ _ st2) (fun f s₃ ⟨m3, H3, st3, q3⟩ => ?_) fun e s₂ he => k.pass e s₂ he
          cases f with
          | next => exact ⟨j - 1, by lia, i + 1, m3, H3, ob'', by lia, hat', q3, st3⟩
          | cont => exact ⟨j - 1, by lia, i + 1, m3, H3, ob'', by lia, hat', q3, st3⟩
          | brk => exact ⟨m3, H3, st1.but hB hb st3 (tk := s₃.toks) (Heap.ExtBut.refl _ _) st3.tk, q3⟩
          | ret v => exact ⟨m3, H3, st1.but hB hb st3 (tk := s₃.toks) (Heap.ExtBut.refl _ _) st3.tk, q3⟩
        · have hi' : i = n := by lia
          subst hi'
          refine wk.fin H' s' ob' st'.owned (hid_at st') hat (hok _ _ _ hI) _ (fun h' hk => ?_) _
          exact wpAny_execs_nil ⟨m', H', st1.but hB hb st' (tk := s'.toks) hk st'.tk, fin _ _ hI⟩)
      n ⟨0, m1, H1, ob, rfl, h0', h0, st2⟩) fun _ _ x => x) hs
theorem W_While {test : Expr} {body : List Stmt} {pos : Pos} {Q : Flow → Loc → AHeap → Prop} (I : Nat → Loc → AHeap → Prop) (n : Nat) (h0 : I n m H)
    (step : ∀ j m1 H1, I j m1 H1 → WT k test m1 H1 fun b m2 H2 => if b = true then WF k (execs body k.env) m2 H2 (loopQ k Q fun m3 H3 => ∃ i, i < j ∧ I i m3 H3) else Q .next m2 H2) :
    W k (exec (.While test body [] pos) k.env) m H Q := fun B s st =>
  wpAny_While (codeAny_whileLoop (fun j s' => ∃ m' H', I j m' H' ∧ St k.c k.o k.env B m' H' s') (by
    intro j s' hg249_2
    refine Mine.hideG fun GG back => ?_
    obtain ⟨m', H', hI, st'⟩ := hg249_2
    refine back ?_
    clear back
    refine wpAny_mono (step j m' H' hI B s' st') (fun b s₂ ⟨m2, H2, st2, q2⟩ => ?_) fun e s₂ he => k.pass e s₂ he
    cases b with
    | false =>
      rw [if_neg Bool.false_ne_true] at q2 ⊢
      exact wpAny_execs_nil ⟨m2, H2, st2, q2⟩
    | true =>
      rw [if_pos rfl] at q2 ⊢
      refine wpAny_mono (q2 _ _ st2) (fun f s₃ ⟨m3, H3, st3, q3⟩ => ?_) fun e s₂ he => k.pass e s₂ he
      cases f with
      | next => obtain ⟨i, hi, q⟩ := q3; exact ⟨i, hi, m3, H3, q, st3⟩
      | cont => obtain ⟨i, hi, q⟩ := q3; exact ⟨i, hi, m3, H3, q, st3⟩
      | brk => exact ⟨m3, H3, st3, q3⟩
      | ret v => exact ⟨m3, H3, st3, q3⟩)
    n ⟨m, H, h0, st⟩)
noncomputable def WAsL (k : Wk) : List Expr → List V → Loc → AHeap → (Loc → AHeap → Prop) → Prop
  | [], [], m, H, Q => Q m H
  | t :: ts, v :: vs, m, H, Q => WAs k t v m H fun m1 H1 => WAsL k ts vs m1 H1 Q
  | _, _, _, _, _ => False
theorem WAsL_run : ∀ (ts : List Expr) (vs : List Value) (m : Loc) (H : AHeap) (Q : Loc → AHeap → Prop), (∀ t ∈ ts, assignEach [t] k.env = [(false, assign t k.env)]) → WAsL k ts (vs.map er) m H Q → W k (assignInOrder (ts.map fun t => assign t k.env) vs) m H fun _ => Q
  | [], [], m, H, Q, _, h => W.pure h
  | t :: ts, v :: vs, m, H, Q, ht, h => W.bind (W.holding (W.mono (h v rfl) fun _ m1 H1 q => WAsL_run ts vs m1 H1 Q (fun t h => ht t (List.mem_cons_of_mem _ h)) q))
  | [], _ :: _, _, _, _, _, h => h.elim
  | _ :: _, [], _, _, _, _, h => h.elim
theorem as2 {P : Expr → Prop} {a b : Expr} (h : P a) (h' : P b) : ∀ t ∈ [a, b], P t := fun t q => by
  cases q with
  | head => exact h
  | tail _ q => cases q with
    | head => exact h'
    | tail _ q => cases q
theorem WAs_Tup {elts : List Expr} {n : Nat} {p : Pos} {a : Addr} {xs : List V} {Q : Loc → AHeap → Prop} (hh : k.A.handled = none) (ha : H a = some (.tup xs)) (hl : elts.length = xs.length)
    (he : assignEach elts k.env = elts.map fun t => (false, assign t k.env) := by rfl) (he' : ∀ t ∈ elts, assignEach [t] k.env = [(false, assign t k.env)])
    (h : WAsL k elts xs m H Q) : WAs k (.Tuple elts n p) (.ref a) m H Q := fun x hx B s st => by
  obtain rfl := er_ref hx
  refine Mine.hideG fun GG back => ?_
  obtain ⟨vs, n', ho, rfl⟩ := st.tupAt ha
  refine back ?_
  clear back
  refine wpAny_assign_Tuple (items := (vs : List Value).toArray) hh ⟨_, ho, rfl, n', rfl⟩ (by rw [he]; simpa using hl) (by rw [he]; simp) fun h' hk => ?_
  have hn := st.fresh (st.none_at (Nat.le_refl _))
  have st' := st.grown (tk := s.toks) (h' := h') (fun b ob e => hk b ob (Nat.ne_of_lt (Heap.lt_size e)) e) st.tk
  have e : (assignEach elts k.env).map (·.2) = elts.map fun t => assign t k.env := by rw [he]; simp
  rw [e]
  exact WAsL_run elts vs m H Q he' h B _ st'
end
end Mine
namespace Mine
noncomputable def clOf (scope : Scope) (env : Env) : List (Str × Addr) := ((scope.names.filter fun x => x.2 == .free).map fun x => (x.1, (env.cells.lookup x.1).getD 0)).reverse
noncomputable def relabelS (scope sc : Scope) : Scope :=
  { scope with names := scope.names.map fun (n, k) => if (k == .free && sc.kind == .function && sc.names.lookup n == some .cell) then (n, .cell) else (n, k) }
noncomputable def freeNames (scope : Scope) : List Str := (scope.names.filter fun x => x.2 == .free).map (·.1)
noncomputable def compNames (scope : Scope) : List Str := (cellsFrom 0 scope.names ((freeNames scope).map fun x => (x, 0)).reverse).map (·.1)
noncomputable def compOK (scope sc : Scope) (cn : List Str) : Bool :=
  (scope.kind == .function) && decide (scope.names.map (·.1)).Nodup && scope.names.all fun x => !(x.2 == .free) || (sc.names.lookup x.1 == some .cell && cn.contains x.1)
theorem closureFor_eq {scope : Scope} {env : Env} (h : ∀ x ∈ scope.names, x.2 = .free → ∃ a, env.cells.lookup x.1 = some a) : closureFor scope env = pure (clOf scope env) := by
  unfold closureFor clOf
  have go : ∀ (names : List (Str × NameKind)) (acc : List (Str × Addr)), (∀ x ∈ names, x.2 = .free → ∃ a, env.cells.lookup x.1 = some a) →
      (forIn names acc (fun x r => match x with | (name, kind) => if kind == .free then do let a ← cellOf env name; pure (ForInStep.yield ((name, a) :: r)) else pure (ForInStep.yield r)) : Sem (List (Str × Addr)))
        = pure (((names.filter fun x => x.2 == .free).map fun x => (x.1, (env.cells.lookup x.1).getD 0)).reverse ++ acc) := by
    intro names
    induction names with
    | nil => intro acc _; rfl
    | cons x r ih =>
      intro acc h
      refine Mine.hideG fun GG back => ?_
      obtain ⟨n, κ⟩ := x
      refine back ?_
      clear back
      rw [List.forIn_cons]
      by_cases hk : κ = .free
      · subst hk
        refine Mine.hideG fun GG back => ?_
        obtain ⟨a, ha⟩ := h (n, .free) List.mem_cons_self rfl
        refine back ?_
        clear back
        simp only [beq_self_eq_true, if_true]
        have ha' : env.cells.lookup n = some a := ha
        rw [show cellOf env n = pure a from by unfold cellOf; rw [ha']]
        simp only [pure_bind]
        rw [ih _ fun x hx => h x (List.mem_cons_of_mem _ hx)]
        simp [ha']
      · have hk' : (κ == NameKind.free) = false := by cases κ <;> first | rfl | exact absurd rfl hk
        simp only [hk', Bool.false_eq_true, if_false, pure_bind]
        rw [ih _ fun x hx => h x (List.mem_cons_of_mem _ hx)]
        simp [hk']
  have := go scope.names [] h
  simp only [List.append_nil] at this
  rw [← this]
  simp only [bind_pure]
noncomputable def cenvOf (scope : Scope) (env : Env) (C : Addr) : Env :=
  { scope := relabel scope env, locals := C, globals := env.globals, cells := cellsFrom (C + 1) scope.names (clOf scope env), qual := env.qual, func := none, code := env.code, frame := env.frame, builtins := env.builtins }
theorem wpAny_compEnv {M : Model} {A : Around} {E : Value → Shared → Prop} {s : Shared} {scope : Scope} {env : Env} {Q : Env → Shared → Prop}
    (h : Q { scope := scope, locals := s.heap.objs.size, globals := env.globals, cells := cellsFrom (s.heap.objs.size + 1) scope.names (clOf scope env), qual := env.qual, func := none, code := env.code, frame := env.frame, builtins := env.builtins }
      { s with heap := pushCells (s.heap.push { cls := .type "dict", data := .dict #[] }) scope.names }) :
    wpAny M A (newFunctionEnv scope env.globals (clOf scope env) [] env.qual none .none (some env)) Q E s := by
  simp only [newFunctionEnv, Option.isSome_some, if_true]
  refine wpAny_bind (wpAny_alloc ?_)
  refine wpAny_bind (wpAny_layCells _ (fun name kind cells => by cases hkc : kind == NameKind.cell <;> simp) _ _ _ _ ?_)
  have e : ({ s with heap := s.heap.push { cls := .type "dict", data := .dict #[] } } : Shared).heap.objs.size = s.heap.objs.size + 1 := Heap.size_push ..
  rw [e]
  refine wpAny_bind (wpAny_pure ?_)
  exact wpAny_pure h
theorem cellsFrom_mem : ∀ (names : List (Str × NameKind)) (n : Nat) (acc : List (Str × Addr)) (x : Str) (a : Addr), (x, a) ∈ cellsFrom n names acc → (x, a) ∈ acc ∨ (n ≤ a ∧ (x, NameKind.cell) ∈ names)
  | [], n, acc, x, a, h => .inl h
  | (y, k) :: r, n, acc, x, a, h => by
    unfold cellsFrom at h
    split at h
    · rename_i hk
      rcases cellsFrom_mem r (n + 1) _ x a h with h | ⟨h1, h2⟩
      · rcases List.mem_cons.mp h with e | h
        · cases e; exact .inr ⟨Nat.le_refl _, by rw [eq_of_beq hk]; exact List.mem_cons_self⟩
        · exact .inl h
      · exact .inr ⟨by lia, List.mem_cons_of_mem _ h2⟩
    · rcases cellsFrom_mem r n _ x a h with h | ⟨h1, h2⟩
      · exact .inl h
      · exact .inr ⟨h1, List.mem_cons_of_mem _ h2⟩
theorem cellsFrom_lookup : ∀ (names : List (Str × NameKind)) (n : Nat) (acc : List (Str × Addr)) (x : Str), (x, NameKind.cell) ∉ names → (cellsFrom n names acc).lookup x = acc.lookup x
  | [], n, acc, x, h => rfl
  | (y, k) :: r, n, acc, x, h => by
    unfold cellsFrom
    split
    · rename_i hk
      rw [cellsFrom_lookup r (n + 1) _ x fun q => h (List.mem_cons_of_mem _ q), List.lookup_cons]
      have : (x == y) = false := by
        cases hq : x == y with
        | false => rfl
        | true => exact absurd (by rw [eq_of_beq hk, eq_of_beq hq]; exact List.mem_cons_self) h
      rw [this]
    · exact cellsFrom_lookup r n acc x fun q => h (List.mem_cons_of_mem _ q)
theorem cellsFrom_pw : ∀ (names : List (Str × NameKind)) (n : Nat) (acc : List (Str × Addr)), (acc.map (·.2)).Nodup → (∀ a ∈ acc.map (·.2), a < n) → ((cellsFrom n names acc).map (·.2)).Nodup
  | [], n, acc, h1, h2 => h1
  | (y, k) :: r, n, acc, h1, h2 => by
    unfold cellsFrom
    split
    · refine cellsFrom_pw r (n + 1) _ ?_ fun a ha => ?_
      · rw [List.map_cons, List.nodup_cons]
        exact ⟨fun q => Nat.lt_irrefl _ (h2 n q), h1⟩
      · rw [List.map_cons] at ha
        rcases List.mem_cons.mp ha with rfl | ha
        · exact Nat.lt_succ_self _
        · exact Nat.lt_succ_of_lt (h2 a ha)
    · exact cellsFrom_pw r n acc h1 h2
theorem pushCells_at : ∀ (names : List (Str × NameKind)) (h : Heap) (acc : List (Str × Addr)) (x : Str) (a : Addr), (x, a) ∈ cellsFrom h.objs.size names acc → (x, a) ∈ acc ∨ (pushCells h names).IsCell a none
  | [], h, acc, x, a, e => .inl e
  | (y, k) :: r, h, acc, x, a, e => by
    unfold cellsFrom at e
    unfold pushCells
    split at e
    · rename_i hk
      rw [if_pos hk]
      have hs : (h.push { cls := .type "cell", data := .cell none }).objs.size = h.objs.size + 1 := Heap.size_push ..
      rw [← hs] at e
      rcases pushCells_at r _ _ x a e with e | e
      · rcases List.mem_cons.mp e with e | e
        · cases e
          exact .inr ⟨_, pushCells_keeps r _ _ _ (Heap.get?_push_size _ rfl), rfl⟩
        · exact .inl e
      · exact .inr e
    · rename_i hk
      rw [if_neg hk]
      exact pushCells_at r h acc x a e
noncomputable def hideComp (env : Env) (cs : List Addr) (h : Heap) (B : BMap) : BMap := fun a => if a ∈ places env ∧ a ∉ cs then (h.get? a).map fun ob => (ob, true) else B a
noncomputable def capm (scope : Scope) (m : Loc) : Loc := fun x => if (freeNames scope).contains x then m x else none
section
variable {c : Cx} {o : Out} {env : Env} {B : BMap} {m : Loc} {H : AHeap} {s : Shared}
structure CompAt (scope : Scope) (env : Env) : Prop where
  kind : scope.kind = .function
  nodup : (scope.names.map (·.1)).Nodup
  free : ∀ x, (x, NameKind.free) ∈ scope.names → env.kindOf x = some .cell ∧ ∃ a, env.cells.lookup x = some a
theorem CompAt.of {scope : Scope} (h : compOK scope env.scope (env.cells.map (·.1)) = true) : CompAt scope env := by
  unfold compOK at h
  rw [Bool.and_eq_true, Bool.and_eq_true] at h
  refine Mine.hideG fun GG back => ?_
  obtain ⟨⟨h1, h2⟩, h3⟩ := h
  refine back ?_
  clear back
  refine ⟨by simpa using h1, of_decide_eq_true h2, fun x hx => ?_⟩
  have := List.all_eq_true.mp h3 (x, .free) hx
  simp only [beq_self_eq_true, Bool.not_true, Bool.false_or, Bool.and_eq_true, beq_iff_eq] at this
  exact ⟨this.1, lookup_of_names this.2⟩
theorem CompAt.clos {scope : Scope} (h : CompAt scope env) : closureFor scope env = pure (clOf scope env) :=
  closureFor_eq fun x hx hk => (h.free x.1 (by rw [← hk]; exact hx)).2
theorem mem_clOf {scope : Scope} {x : Str} {a : Addr} (h : (x, a) ∈ clOf scope env) : (x, NameKind.free) ∈ scope.names ∧ a = (env.cells.lookup x).getD 0 := by
  unfold clOf at h
  rw [List.mem_reverse, List.mem_map] at h
  refine Mine.hideG fun GG back => ?_
  obtain ⟨⟨y, κ⟩, hy, e⟩ := h
  obtain ⟨h1, h2⟩ := List.mem_filter.mp hy
  refine back ?_
  clear back
  simp only [Prod.mk.injEq] at e
  refine Mine.hideG fun GG back => ?_
  obtain ⟨rfl, rfl⟩ := e
  refine back ?_
  clear back
  rw [beq_iff_eq] at h2
  exact ⟨by rw [← h2]; exact h1, rfl⟩
theorem mem_freeNames {scope : Scope} {x : Str} : (freeNames scope).contains x = true ↔ (x, NameKind.free) ∈ scope.names := by
  unfold freeNames
  rw [List.contains_iff_mem, List.mem_map]
  constructor
  · intro hg163_0
    refine Mine.hideG fun GG back => ?_
    obtain ⟨⟨y, κ⟩, hy, rfl⟩ := hg163_0
    obtain ⟨h1, h2⟩ := List.mem_filter.mp hy
    refine back ?_
    clear back
    rw [beq_iff_eq] at h2
    have h2 : κ = .free := h2
    subst h2; exact h1
  · intro h
    exact ⟨(x, .free), List.mem_filter.mpr ⟨h, rfl⟩, rfl⟩
theorem lookup_of_mem_nodup {α : Type} : ∀ {l : List (Str × α)} {x : Str} {v : α}, (l.map (·.1)).Nodup → (x, v) ∈ l → l.lookup x = some v
  | (y, u) :: r, x, v, h, hm => by
    rw [List.map_cons, List.nodup_cons] at h
    rw [List.lookup_cons]
    rcases List.mem_cons.mp hm with e | hm
    · cases e; simp
    · have : (x == y) = false := by
        cases hq : x == y with
        | false => rfl
        | true => exact absurd (by rw [← eq_of_beq hq]; exact List.mem_map_of_mem (f := (·.1)) hm) h.1
      rw [this]
      exact lookup_of_mem_nodup h.2 hm
theorem nodup_rev {α : Type} {l : List α} (h : l.Nodup) : l.reverse.Nodup := List.pairwise_reverse.mpr (List.Pairwise.imp (fun q => Ne.symm q) h)
theorem clOf_names {scope : Scope} : (clOf scope env).map (·.1) = (freeNames scope).reverse := by
  unfold clOf freeNames
  rw [List.map_reverse, List.map_map]
  rfl
theorem clOf_lookup {scope : Scope} (hc : CompAt scope env) {x : Str} (hx : (x, NameKind.free) ∈ scope.names) {a : Addr} (ha : env.cells.lookup x = some a) : (clOf scope env).lookup x = some a := by
  refine lookup_of_mem_nodup ?_ ?_
  · rw [clOf_names]
    unfold freeNames
    exact nodup_rev ((List.filter_sublist.map _).nodup hc.nodup)
  · unfold clOf
    rw [List.mem_reverse, List.mem_map]
    exact ⟨(x, .free), List.mem_filter.mpr ⟨hx, rfl⟩, by rw [ha]; rfl⟩
theorem relabel_lookup {scope : Scope} (hk : env.scope.kind = .function) : ∀ {names : List (Str × NameKind)} {x : Str}, names.lookup x = some .free → env.kindOf x = some .cell →
    (names.map fun (n, k) => if (k == NameKind.free && env.scope.kind == .function && env.kindOf n == some .cell) then (n, NameKind.cell) else (n, k)).lookup x = some .cell
  | [], x, h, _ => by cases h
  | (n, κ) :: r, x, h, he => by
    rw [List.lookup_cons] at h
    rw [List.map_cons]
    show List.lookup x ((if (κ == NameKind.free && env.scope.kind == .function && env.kindOf n == some .cell) = true then (n, NameKind.cell) else (n, κ)) :: _) = _
    cases hq : x == n with
    | true =>
      rw [hq] at h
      cases h
      have hx : x = n := eq_of_beq hq
      subst hx
      simp [hk, he]
    | false =>
      rw [hq] at h
      have ih := relabel_lookup (scope := scope) hk h he
      by_cases hcnd : (κ == NameKind.free && env.scope.kind == .function && env.kindOf n == some .cell) = true
      · rw [if_pos hcnd, List.lookup_cons, hq]; exact ih
      · rw [if_neg hcnd, List.lookup_cons, hq]; exact ih
theorem addr_nodup_of_names {cs : List (Str × Addr)} (h1 : (cs.map (·.2)).Nodup) : ∀ (l : List Str), l.Nodup → (∀ x ∈ l, ∃ a, cs.lookup x = some a) → (l.map fun x => (cs.lookup x).getD 0).Nodup
  | [], _, _ => List.nodup_nil
  | x :: r, hn, hl => by
    rw [List.nodup_cons] at hn
    rw [List.map_cons, List.nodup_cons]
    refine ⟨fun q => ?_, addr_nodup_of_names h1 r hn.2 fun y hy => hl y (List.mem_cons_of_mem _ hy)⟩
    refine Mine.hideG fun GG back => ?_
    obtain ⟨y, hy, e⟩ := List.mem_map.mp q
    obtain ⟨a, ha⟩ := hl x List.mem_cons_self
    obtain ⟨b, hb⟩ := hl y (List.mem_cons_of_mem _ hy)
    refine back ?_
    clear back
    rw [ha, hb] at e
    have e : b = a := e
    subst e
    have := cell_addr h1 ha hb
    subst this
    exact hn.1 hy
theorem clOf_nodup (st : St c o env B m H s) {scope : Scope} (hc : CompAt scope env) : ((clOf scope env).map (·.2)).Nodup := by
  have e : (clOf scope env).map (·.2) = ((freeNames scope).map fun x => (env.cells.lookup x).getD 0).reverse := by
    unfold clOf freeNames
    rw [List.map_reverse, List.map_map, List.map_map]
    rfl
  rw [e]
  refine nodup_rev ?_
  refine addr_nodup_of_names (List.nodup_cons.mp st.nodup).2 _ ?_ fun x hx => (hc.free x (mem_freeNames.mp (List.contains_iff_mem.mpr hx))).2
  unfold freeNames
  exact (List.filter_sublist.map _).nodup hc.nodup
theorem St.enterComp (st : St c o env B m H s) (hke : env.scope.kind = .function) (hfat : env.frame = some env.locals ∨ ∃ f ∈ o.fs, f.frame = env.frame) {scope : Scope} (hc : CompAt scope env) :
    St c ⟨outerOf env o.fs, hideComp env ((clOf scope env).map (·.2)) s.heap B⟩ (cenvOf scope env s.heap.objs.size) (hideComp env ((clOf scope env).map (·.2)) s.heap B) (capm scope m) H
      { s with heap := pushCells (s.heap.push { cls := .type "dict", data := .dict #[] }) scope.names } := by
  have keep : ∀ b ob, s.heap.get? b = some ob → (pushCells (s.heap.push { cls := .type "dict", data := .dict #[] }) scope.names).get? b = some ob := fun b ob e => pushCells_keeps _ _ b ob (Heap.get?_push_of_some _ e)
  have clIn : ∀ a ∈ (clOf scope env).map (·.2), a ∈ env.cells.map (·.2) := fun a ha => by
    refine Mine.hideG fun GG back => ?_
    obtain ⟨⟨x, b⟩, hx, rfl⟩ := List.mem_map.mp ha
    obtain ⟨h1, h2⟩ := mem_clOf hx
    obtain ⟨_, d, hd⟩ := hc.free x h1
    refine back ?_
    clear back
    rw [hd] at h2
    have h2 : b = d := h2
    rw [h2]; exact List.mem_map_of_mem (f := (·.2)) (mem_of_lookup hd)
  have lt : ∀ a ∈ places env, a < s.heap.objs.size := fun a ha => by
    refine Mine.hideG fun GG back => ?_
    obtain ⟨ob, ho, _⟩ := st.place ha
    refine back ?_
    clear back
    exact Heap.lt_size ho
  have fresh : ∀ a, s.heap.objs.size ≤ a → H a = none ∧ hideComp env ((clOf scope env).map (·.2)) s.heap B a = none ∧ c.base.objs.size ≤ a := fun a ha => by
    refine Mine.hideG fun GG back => ?_
    obtain ⟨f1, f2, f3, f4⟩ := st.fresh (st.none_at ha)
    refine back ?_
    clear back
    exact ⟨f1, by unfold hideComp; rw [if_neg fun q => f4 q.1]; exact f2, Nat.le_trans st.baseLe ha⟩
  have hcs : (s.heap.push { cls := .type "dict", data := .dict #[] }).objs.size = s.heap.objs.size + 1 := Heap.size_push ..
  have old : ∀ a x, B a = some x → hideComp env ((clOf scope env).map (·.2)) s.heap B a = some x := fun a x e => by
    unfold hideComp
    rw [if_neg (fun q => by rw [(st.pl a q.1).2.1] at e; cases e)]
    exact e
  refine ⟨fun b ob e => keep b ob (st.base b ob e), fun b ob l e => ?_, fun b z e => ?_, fun b z e => ?_, st.disBase, fun b q => ?_, ?_, fun b e => ?_, ⟨fun _ => none, ?_, fun x v e => ?_⟩, ⟨fun e he => ?_, fun _ _ e => e⟩, st.gens, st.os, st.tk⟩
  · unfold hideComp at e
    split at e
    · cases hg : s.heap.get? b with
      | none => rw [hg] at e; cases e
      | some ob' => rw [hg] at e; cases e; exact ⟨ob.slots, keep b ob hg, fun _ => rfl⟩
    · refine Mine.hideG fun GG back => ?_
      obtain ⟨sl, e1, e2⟩ := st.keep b ob l e
      refine back ?_
      clear back
      exact ⟨sl, keep b _ e1, e2⟩
  · obtain ⟨ob, e1, e2⟩ := st.own b z e; exact ⟨ob, keep b ob e1, e2⟩
  · unfold hideComp
    rw [if_neg (fun q => by rw [(st.pl b q.1).1] at e; cases e)]
    exact st.disB b z e
  · rcases List.mem_cons.mp q with rfl | q
    · exact fresh _ (Nat.le_refl _)
    · refine Mine.hideG fun GG back => ?_
      obtain ⟨⟨x, a⟩, hx, rfl⟩ := List.mem_map.mp q
      refine back ?_
      clear back
      rcases cellsFrom_mem _ _ _ _ _ hx with h | ⟨h, _⟩
      · have hin := clIn a (List.mem_map_of_mem (f := (·.2)) h)
        refine Mine.hideG fun GG back => ?_
        obtain ⟨p1, p2, p3⟩ := st.pl a (List.mem_cons_of_mem _ hin)
        refine back ?_
        clear back
        refine ⟨p1, ?_, p3⟩
        unfold hideComp
        rw [if_neg fun q => q.2 (List.mem_map_of_mem (f := (·.2)) h)]
        exact p2
      · exact fresh a (by lia)
  · refine List.nodup_cons.mpr ⟨fun q => ?_, ?_⟩
    · refine Mine.hideG fun GG back => ?_
      obtain ⟨⟨x, a⟩, hx, e⟩ := List.mem_map.mp q
      refine back ?_
      clear back
      have e : a = s.heap.objs.size := e
      rcases cellsFrom_mem _ _ _ _ _ hx with h | ⟨h, _⟩
      · have := lt a (List.mem_cons_of_mem _ (clIn a (List.mem_map_of_mem (f := (·.2)) h)))
        rw [e] at this
        exact Nat.lt_irrefl _ this
      · rw [e] at h
        exact Nat.lt_irrefl _ h
    · exact cellsFrom_pw _ _ _ (clOf_nodup st hc) fun a ha => Nat.lt_succ_of_lt (lt a (List.mem_cons_of_mem _ (clIn a ha)))
  · refine Mine.hideG fun GG back => ?_
    obtain ⟨⟨x, a⟩, hx, rfl⟩ := List.mem_map.mp e
    refine back ?_
    clear back
    have hx' : (x, a) ∈ cellsFrom (s.heap.push { cls := .type "dict", data := .dict #[] }).objs.size scope.names (clOf scope env) := by rw [hcs]; exact hx
    rcases pushCells_at _ _ _ _ _ hx' with h | h
    · refine Mine.hideG fun GG back => ?_
      obtain ⟨v, ob, e1, e2⟩ := st.cell a (clIn a (List.mem_map_of_mem (f := (·.2)) h))
      refine back ?_
      clear back
      exact ⟨v, ob, keep a ob e1, e2⟩
    · exact ⟨_, h⟩
  · exact (Heap.Ns.new s.heap (.type "dict")).keeps (pushCells_keeps _ _)
  · unfold capm at e
    split at e
    · rename_i hf
      have hf' := mem_freeNames.mp hf
      refine Mine.hideG fun GG back => ?_
      obtain ⟨hk, a, ha⟩ := hc.free x hf'
      refine back ?_
      clear back
      have hkc : (cenvOf scope env s.heap.objs.size).kindOf x = some .cell := relabel_lookup (scope := scope) hke (lookup_of_mem_nodup hc.nodup hf') hk
      rw [hkc]
      refine Mine.hideG fun GG back => ?_
      obtain ⟨mv, hn, hv⟩ := st.var
      refine back ?_
      clear back
      have q := hv x v e
      rw [hk] at q
      refine Mine.hideG fun GG back => ?_
      obtain ⟨a', u, e1, e2, e3⟩ := q
      refine back ?_
      clear back
      rw [ha] at e1; cases e1
      refine ⟨a, u, ?_, e2.keeps keep, e3⟩
      show (cellsFrom _ scope.names (clOf scope env)).lookup x = some a
      rw [cellsFrom_lookup _ _ _ _ fun q => ?_]
      · exact clOf_lookup hc hf' ha
      · have h1 := lookup_of_mem_nodup hc.nodup hf'
        have h2 := lookup_of_mem_nodup hc.nodup q
        rw [h1] at h2; cases h2
    · cases e
  · rcases mem_outerOf (show e ∈ outerOf env o.fs from he) with ⟨rfl, hf⟩ | he
    · refine ⟨by rw [hke]; decide, e.locals, ?_⟩
      refine Mine.hideG fun GG back => ?_
      obtain ⟨ob, ho, hd⟩ := st.place (a := e.locals) List.mem_cons_self
      refine back ?_
      clear back
      refine ⟨ob, hf, ?_, ?_, hd⟩
      · unfold hideComp
        rw [if_pos ⟨List.mem_cons_self, fun q => (List.nodup_cons.mp st.nodup).1 (clIn _ q)⟩, ho]; rfl
      · exact none_ge (st.pl e.locals List.mem_cons_self).2.2
    · refine Mine.hideG fun GG back => ?_
      obtain ⟨k1, L, ob, k2, k3, k4, k5⟩ := st.frames.1 e he
      refine back ?_
      clear back
      exact ⟨k1, L, ob, k2, old L _ k3, k4, k5⟩
theorem St.leaveComp (st : St c o env B m H s) {scope : Scope} (hc : CompAt scope env) {C : Addr} {B' : BMap} {m' : Loc} {H' : AHeap} {s' : Shared}
    (st' : St c ⟨outerOf env o.fs, hideComp env ((clOf scope env).map (·.2)) s.heap B⟩ (cenvOf scope env C) B' m' H' s') (hke : env.scope.kind = .function)
    (hcap : ∀ x v, capm scope m x = some v → m' x = some v) : St c o env B m H' s' := by
  have cellIn : ∀ x a, env.cells.lookup x = some a → a ∈ (clOf scope env).map (·.2) → (x, NameKind.free) ∈ scope.names := fun x a hx ha => by
    refine Mine.hideG fun GG back => ?_
    obtain ⟨⟨y, b⟩, hy, e⟩ := List.mem_map.mp ha
    refine back ?_
    clear back
    have e : b = a := e
    subst e
    refine Mine.hideG fun GG back => ?_
    obtain ⟨h1, h2⟩ := mem_clOf hy
    obtain ⟨_, d, hd⟩ := hc.free y h1
    refine back ?_
    clear back
    rw [hd] at h2
    have h2 : b = d := h2
    subst h2
    rw [cell_addr (List.nodup_cons.mp st.nodup).2 hx hd]; exact h1
  have hid : ∀ a ∈ places env, a ∉ (clOf scope env).map (·.2) → ∃ ob sl, s.heap.get? a = some ob ∧ s'.heap.get? a = some { ob with slots := sl } ∧ H' a = none := fun a ha hn => by
    refine Mine.hideG fun GG back => ?_
    obtain ⟨ob, ho, _⟩ := st.place ha
    refine back ?_
    clear back
    have hB : B' a = some (ob, true) := st'.frames.2 _ _ (by show hideComp _ _ _ _ a = _; unfold hideComp; rw [if_pos ⟨ha, hn⟩, ho]; rfl)
    refine Mine.hideG fun GG back => ?_
    obtain ⟨sl, e1, _⟩ := st'.keep a ob true hB
    refine back ?_
    clear back
    refine ⟨ob, sl, ho, e1, ?_⟩
    cases hb : H' a with
    | none => rfl
    | some y => have := st'.disB a y hb; rw [hB] at this; cases this
  have old : ∀ a x, B a = some x → B' a = some x := fun a x e => st'.frames.2 _ _ <| by
    show hideComp _ _ _ _ a = some x
    unfold hideComp
    rw [if_neg (fun q => by rw [(st.pl a q.1).2.1] at e; cases e)]
    exact e
  have inPl : ∀ a ∈ (clOf scope env).map (·.2), a ∈ places (cenvOf scope env C) := fun a ha => by
    refine Mine.hideG fun GG back => ?_
    obtain ⟨⟨x, b⟩, hx, e⟩ := List.mem_map.mp ha
    refine back ?_
    clear back
    have e : b = a := e
    subst e
    refine Mine.hideG fun GG back => ?_
    obtain ⟨h1, h2⟩ := mem_clOf hx
    obtain ⟨_, d, hd⟩ := hc.free x h1
    refine back ?_
    clear back
    have hl := clOf_lookup hc h1 hd
    rw [hd] at h2
    have h2 : b = d := h2
    subst h2
    refine List.mem_cons_of_mem _ ?_
    show b ∈ (cellsFrom _ scope.names (clOf scope env)).map (·.2)
    refine List.mem_map_of_mem (f := (·.2)) (PySem.mem_of_lookup (n := x) ?_)
    rw [cellsFrom_lookup _ _ _ _ fun q => ?_]
    · exact hl
    · have h3 := lookup_of_mem_nodup hc.nodup h1
      have h4 := lookup_of_mem_nodup hc.nodup q
      rw [h3] at h4; cases h4
  have cellSt : ∀ a ∈ env.cells.map (·.2), ∃ v, s'.heap.IsCell a v := fun a ha => by
    by_cases hin : a ∈ (clOf scope env).map (·.2)
    · have hp := inPl a hin
      rcases List.mem_cons.mp hp with e | hp
      · exfalso
        have e : a = C := e
        have h1 := (List.nodup_cons.mp st'.nodup).1
        rw [show (cenvOf scope env C).locals = C from rfl] at h1
        refine h1 ?_
        rw [← e]
        refine Mine.hideG fun GG back => ?_
        obtain ⟨⟨x, b⟩, hx, e'⟩ := List.mem_map.mp hin
        refine back ?_
        clear back
        have e' : b = a := e'
        subst e'
        refine Mine.hideG fun GG back => ?_
        obtain ⟨g1, g2⟩ := mem_clOf hx
        obtain ⟨_, d, hd⟩ := hc.free x g1
        refine back ?_
        clear back
        have hl := clOf_lookup hc g1 hd
        rw [hd] at g2
        have g2 : b = d := g2
        subst g2
        show b ∈ (cellsFrom _ scope.names (clOf scope env)).map (·.2)
        refine List.mem_map_of_mem (f := (·.2)) (PySem.mem_of_lookup (n := x) ?_)
        rw [cellsFrom_lookup _ _ _ _ fun q => ?_]
        · exact hl
        · have h3 := lookup_of_mem_nodup hc.nodup g1
          have h4 := lookup_of_mem_nodup hc.nodup q
          rw [h3] at h4; cases h4
      · exact st'.cell a hp
    · refine Mine.hideG fun GG back => ?_
      obtain ⟨v, ob, e1, e2⟩ := st.cell a ha
      obtain ⟨ob', sl, h1, h2, _⟩ := hid a (List.mem_cons_of_mem _ ha) hin
      refine back ?_
      clear back
      rw [e1] at h1; cases h1
      exact ⟨v, _, h2, e2⟩
  have locNot : env.locals ∉ (clOf scope env).map (·.2) := fun q => by
    refine Mine.hideG fun GG back => ?_
    obtain ⟨⟨x, b⟩, hx, e⟩ := List.mem_map.mp q
    refine back ?_
    clear back
    have e : b = env.locals := e
    refine Mine.hideG fun GG back => ?_
    obtain ⟨g1, g2⟩ := mem_clOf hx
    obtain ⟨_, d, hd⟩ := hc.free x g1
    refine back ?_
    clear back
    rw [hd] at g2
    have g2 : b = d := g2
    exact (List.nodup_cons.mp st.nodup).1 (by rw [← e, g2]; exact List.mem_map_of_mem (f := (·.2)) (mem_of_lookup hd))
  refine ⟨st'.base, fun b ob l e => st'.keep b ob l (old b _ e), st'.own, fun b x e => ?_, st'.disBase, fun b q => ?_, st.nodup, cellSt, ?_, st.frames, st'.gens, st'.os, st'.tk⟩
  · have h1 := st'.disB b x e
    cases hb : B b with
    | none => rfl
    | some y => rw [old b y hb] at h1; cases h1
  · refine Mine.hideG fun GG back => ?_
    obtain ⟨e1, e2, e3⟩ := st.pl b q
    refine back ?_
    clear back
    refine ⟨?_, e2, e3⟩
    by_cases hin : b ∈ (clOf scope env).map (·.2)
    · exact (st'.pl b (inPl b hin)).1
    · refine Mine.hideG fun GG back => ?_
      obtain ⟨_, _, _, _, h⟩ := hid b q hin
      refine back ?_
      clear back
      exact h
  · refine Mine.hideG fun GG back => ?_
    obtain ⟨mv, ⟨ob, es, ep, ho, hd, hk, hf⟩, hv⟩ := st.var
    obtain ⟨ob', sl, h1, h2, _⟩ := hid env.locals List.mem_cons_self locNot
    refine back ?_
    clear back
    rw [ho] at h1; cases h1
    refine ⟨mv, ⟨_, es, ep, h2, hd, hk, hf⟩, fun x v e => ?_⟩
    have cellK : ∀ a z, env.cells.lookup x = some a → s.heap.IsCell a (some z) → er z = v → ∃ u, s'.heap.IsCell a (some u) ∧ er u = v := fun a z ha ⟨ob, ho, hd⟩ hz => by
      have ham := List.mem_map_of_mem (f := (·.2)) (mem_of_lookup ha)
      by_cases hin : a ∈ (clOf scope env).map (·.2)
      · have hfree := cellIn x a ha hin
        have hcm : capm scope m x = some v := by unfold capm; rw [if_pos (mem_freeNames.mpr hfree)]; exact e
        refine Mine.hideG fun GG back => ?_
        obtain ⟨mv', hn', hv'⟩ := st'.var
        refine back ?_
        clear back
        have q := hv' x v (hcap x v hcm)
        have hkc : (cenvOf scope env C).kindOf x = some .cell := relabel_lookup (scope := scope) hke (lookup_of_mem_nodup hc.nodup hfree) (hc.free x hfree).1
        rw [hkc] at q
        refine Mine.hideG fun GG back => ?_
        obtain ⟨a', u, e1, e2, e3⟩ := q
        refine back ?_
        clear back
        have e1' : (cellsFrom (C + 1) scope.names (clOf scope env)).lookup x = some a' := e1
        rw [cellsFrom_lookup _ _ _ _ fun q => ?_, clOf_lookup hc hfree ha] at e1'
        · cases e1'
          exact ⟨u, e2, e3⟩
        · have h3 := lookup_of_mem_nodup hc.nodup hfree
          have h4 := lookup_of_mem_nodup hc.nodup q
          rw [h3] at h4; cases h4
      · refine Mine.hideG fun GG back => ?_
        obtain ⟨ob', sl, g1, g2, _⟩ := hid a (List.mem_cons_of_mem _ ham) hin
        refine back ?_
        clear back
        rw [ho] at g1; cases g1
        exact ⟨z, ⟨_, g2, hd⟩, hz⟩
    have q := hv x v e
    split at q
    · exact q
    · refine Mine.hideG fun GG back => ?_
      obtain ⟨a, u, e1, e2, e3⟩ := q
      obtain ⟨u', g1, g2⟩ := cellK a u e1 e2 e3
      refine back ?_
      clear back
      exact ⟨a, u', e1, g1, g2⟩
    · refine Mine.hideG fun GG back => ?_
      obtain ⟨a, u, e1, e2, e3⟩ := q
      obtain ⟨u', g1, g2⟩ := cellK a u e1 e2 e3
      refine back ?_
      clear back
      exact ⟨a, u', e1, g1, g2⟩
    · exact q
end
end Mine
namespace Mine
structure CompK (k : Wk) (scope : Scope) (kc : Wk) : Prop where
  c : kc.c = k.c
  A : kc.A = k.A
  sc : kc.env.scope = relabelS scope k.env.scope
  cn : kc.env.cells.map (·.1) = compNames scope
  X : kc.X = fun _ _ _ _ => False
theorem CompK.senv {k kc : Wk} {scope sc : Scope} {cn : List Str} (h : CompK k scope kc) [I : SEnv k sc cn] : SEnv kc (relabelS scope sc) (compNames scope) := ⟨by rw [h.sc, I.sc], h.cn⟩
noncomputable def Caps (scope : Scope) (m mc : Loc) : Prop := ∀ x v, capm scope m x = some v → mc x = some v
theorem Caps.get {scope : Scope} {m mc : Loc} (h : Caps scope m mc) {x : Str} {v : V} (hm : m x = some v) (hx : (freeNames scope).contains x = true) : mc x = some v :=
  h x v (by unfold capm; rw [if_pos hx]; exact hm)
noncomputable def tests (ifs : List Expr) (env : Env) : Sem Bool := forIn ifs true fun c r => if r = true then do let ok ← isTrue c env (eval c env); pure (ForInStep.yield ok) else pure (ForInStep.yield r)
theorem W_tests_nil {k : Wk} {m : Loc} {H : AHeap} {Q : Bool → Loc → AHeap → Prop} (h : Q true m H) : W k (tests [] k.env) m H Q := W.pure h
theorem upd_comm {β : Type} {f : Addr → Option β} {a b : Addr} {x y : β} (h : a ≠ b) : upd (upd f a x) b y = upd (upd f b y) a x := by
  funext z
  unfold upd
  by_cases h1 : z = b
  · by_cases h2 : z = a
    · exact absurd (h2.symm.trans h1) h
    · rw [if_pos h1, if_neg h2, if_pos h1]
  · by_cases h2 : z = a
    · rw [if_neg h1, if_pos h2, if_pos h2]
    · rw [if_neg h1, if_neg h2, if_neg h2, if_neg h1]
section
variable {c : Cx} {o : Out} {env : Env} {B : BMap} {m : Loc} {H : AHeap} {s : Shared}
theorem St.hid2 {a b : Addr} {x : Obj} {y : Obj × Bool} (st : St c o env (upd (upd B a (x, false)) b y) m H s) (h : a ≠ b) : s.heap.get? a = some x := by
  rw [upd_comm h] at st
  exact hid_at st
theorem St.placeData (st : St c o env B m H s) {a : Addr} (h : a ∈ places env) : ∃ ob, s.heap.get? a = some ob ∧ ((∃ es ep, ob.data = .dict es ep) ∨ ∃ v, ob.data = .cell v) := by
  rcases List.mem_cons.mp h with rfl | h
  · refine Mine.hideG fun GG back => ?_
    obtain ⟨mv, hq47⟩ := st.var
    obtain ⟨ob, es, ep, ho, hd, _⟩ := hq47.1
    refine back ?_
    clear back
    clear hq47
    exact ⟨ob, ho, .inl ⟨es, ep, hd⟩⟩
  · refine Mine.hideG fun GG back => ?_
    obtain ⟨v, ob, hq49⟩ := st.cell a h
    refine back ?_
    clear back
    have ho := hq49.1
    have hd := hq49.2
    clear hq49
    exact ⟨ob, ho, .inr ⟨v, hd⟩⟩
theorem St.but' {it : Addr} {ob : Obj} (hB : B it = none) (he : o.ext it = none) (hb : c.base.objs.size ≤ it) (st : St c o env (upd B it (ob, false)) m H s) {h' : Heap} {tk : Nat} (hk : Heap.ExtBut it s.heap h') (ht : 1 ≤ tk) :
    St c o env B m H { s with heap := h', toks := tk } := by
  have q : ∀ b y, B b = some y → upd B it (ob, false) b = some y := fun b y e => upd_fresh hB e
  have r : ∀ b, upd B it (ob, false) b = none → B b = none := fun b e => by
    cases h : B b with
    | none => rfl
    | some y => rw [q b y h] at e; cases e
  have hHit : ∀ b y, H b = some y → b ≠ it := fun b y e z => by
    have := st.disB b y e
    rw [z, upd_same] at this; cases this
  have hpit : ∀ b ∈ places env, b ≠ it := fun b hb z => by
    have := (st.pl b hb).2.1
    rw [z, upd_same] at this; cases this
  have hbase : ∀ b ob, c.base.get? b = some ob → b ≠ it := fun b ob e z => by
    rw [z, none_ge hb] at e; cases e
  refine ⟨fun b ob e => hk b ob (hbase b ob e) (st.base b ob e), fun b ob l e => ?_, fun b y e => ?_, fun b y e => r b (st.disB b y e), st.disBase, fun b z => ⟨(st.pl b z).1, r b (st.pl b z).2.1, (st.pl b z).2.2⟩, st.nodup, fun b e => ?_, ?_, ⟨fun e he => ?_, fun b y e => ?_⟩, st.gens, st.os, ht⟩
  · refine Mine.hideG fun GG back => ?_
    obtain ⟨sl, hq69⟩ := st.keep b ob l (q b _ e)
    refine back ?_
    clear back
    have e1 := hq69.1
    have e2 := hq69.2
    clear hq69
    exact ⟨sl, hk b _ (fun z => by rw [z, hB] at e; cases e) e1, e2⟩
  · refine Mine.hideG fun GG back => ?_
    obtain ⟨ob, hq71⟩ := st.own b y e
    refine back ?_
    clear back
    have e1 := hq71.1
    have e2 := hq71.2
    clear hq71
    exact ⟨ob, hk b ob (hHit b y e) e1, e2⟩
  · refine Mine.hideG fun GG back => ?_
    obtain ⟨v, ob, hq73⟩ := st.cell b e
    refine back ?_
    clear back
    have e1 := hq73.1
    have e2 := hq73.2
    clear hq73
    exact ⟨v, ob, hk b ob (hpit b (List.mem_cons_of_mem _ e)) e1, e2⟩
  · exact var_keeps (fun b hb' ob e => hk b ob (hpit b hb') e) st.var
  · refine Mine.hideG fun GG back => ?_
    obtain ⟨k1, L, ob', hq76⟩ := st.frames.1 e he
    refine back ?_
    clear back
    have k2 := hq76.1
    have k3 := hq76.2.1
    have k4 := hq76.2.2.1
    have k5 := hq76.2.2.2
    clear hq76
    refine ⟨k1, L, ob', k2, ?_, k4, k5⟩
    rcases upd_some k3 with ⟨_, e'⟩ | ⟨_, e'⟩
    · cases e'
    · exact e'
  · rcases upd_some (st.frames.2 b y e) with ⟨rfl, _⟩ | ⟨_, e'⟩
    · rw [he] at e; cases e
    · exact e'
theorem St.rehide' {it : Addr} {ob : Obj} (hB : B it = none) (he : o.ext it = none) (hb : c.base.objs.size ≤ it) (st : St c o env (upd B it (ob, false)) m H s) {h' : Heap} {tk : Nat} (hk : Heap.ExtBut it s.heap h') (ht : 1 ≤ tk) {ob' : Obj} (ho : h'.get? it = some ob') :
    St c o env (upd B it (ob', false)) m H { s with heap := h', toks := tk } := by
  refine (St.but' hB he hb st hk ht).hide (l := false) ho ?_ (fun z => ?_) hB
  · cases e : H it with
    | none => rfl
    | some y => have := st.disB it y e; rw [upd_same] at this; cases this
  · have := (st.pl it z).2.1
    rw [upd_same] at this; cases this
theorem St.adopt (st : St c o env B m H s) {a : Addr} {y : AObj} (hy : ∃ ob, s.heap.get? a = some ob ∧ IsObj c ob y) (hH : H a = none) (hB : B a = none) (hp : a ∉ places env) (hb : c.base.objs.size ≤ a) : St c o env B m (upd H a y) s := by
  refine ⟨st.base, st.keep, fun b z e => ?_, fun b z e => ?_, fun b z e => ?_, fun b q => ?_, st.nodup, st.cell, st.var, st.frames, st.gens, st.os, st.tk⟩
  · rcases upd_some e with ⟨rfl, rfl⟩ | ⟨ne, e⟩
    · exact hy
    · exact st.own b z e
  · rcases upd_some e with ⟨rfl, rfl⟩ | ⟨ne, e⟩
    · exact hB
    · exact st.disB b z e
  · rcases upd_some e with ⟨rfl, rfl⟩ | ⟨ne, e⟩
    · exact hb
    · exact st.disBase b z e
  · have hq105 := st.pl b q
    have e1 := hq105.1
    have e2 := hq105.2.1
    have e3 := hq105.2.2
    clear hq105
    exact ⟨by unfold upd; rw [if_neg (fun z => by subst z; exact hp q)]; exact e1, e2, e3⟩
end
section
variable {k : Wk} {m : Loc} {H : AHeap}
noncomputable def compWk (k : Wk) (B : BMap) (scope : Scope) (s : Shared) (hk : scope.kind = .function) (st : ∃ m H, St k.c k.o k.env B m H s) : Wk where
  c := k.c
  A := k.A
  o := ⟨outerOf k.env k.o.fs, hideComp k.env ((clOf scope k.env).map (·.2)) s.heap B⟩
  env := cenvOf scope k.env s.heap.objs.size
  E := fun _ _ => False
  X := fun _ _ _ _ => False
  here := False
  pass := PassesOwn.never
  fly := fun _ _ _ _ _ _ _ _ _ h => h
  made := fun h => h.elim
  kind := hk
  glob := k.glob
  blt := k.blt
  frames := by
    rw [k.frames]
    congr 1
    refine Mine.hideG fun GG back => ?_
    obtain ⟨m, H, st⟩ := st
    refine back ?_
    clear back
    have lt : ∀ a, (∃ ob, s.heap.get? a = some ob) → a ≠ s.heap.objs.size := fun a ⟨ob, e⟩ => Nat.ne_of_lt (Heap.lt_size e)
    have hne : k.env.frame ≠ some s.heap.objs.size := fun q => by
      rcases k.fat with h | ⟨f, hf, h⟩
      · rw [h] at q
        refine Mine.hideG fun GG back => ?_
        obtain ⟨ob, ho, _⟩ := st.place (a := k.env.locals) List.mem_cons_self
        refine back ?_
        clear back
        exact lt _ ⟨ob, ho⟩ (Option.some.inj q)
      · refine Mine.hideG fun GG back => ?_
        obtain ⟨_, L, ob, k2, k3, _⟩ := st.frames.1 f hf
        refine back ?_
        clear back
        rw [← h, k2] at q
        refine Mine.hideG fun GG back => ?_
        obtain ⟨sl, e1, _⟩ := st.keep L ob true k3
        refine back ?_
        clear back
        exact lt _ ⟨_, e1⟩ (Option.some.inj q)
    show outerOf k.env k.o.fs = outerOf (cenvOf scope k.env s.heap.objs.size) (outerOf k.env k.o.fs)
    exact (if_neg (show ¬ (cenvOf scope k.env s.heap.objs.size).frame = some (cenvOf scope k.env s.heap.objs.size).locals from hne)).symm
  fat := by
    right
    rcases k.fat with h | ⟨f, hf, h⟩
    · exact ⟨k.env, by show k.env ∈ outerOf k.env k.o.fs; unfold outerOf; rw [if_pos h]; exact List.mem_cons_self, rfl⟩
    · refine ⟨f, ?_, h⟩
      show f ∈ outerOf k.env k.o.fs
      unfold outerOf
      split
      · exact List.mem_cons_of_mem _ hf
      · exact hf
theorem compWk_K {B : BMap} {scope : Scope} {s : Shared} {hk : scope.kind = .function} {st : ∃ m H, St k.c k.o k.env B m H s} : CompK k scope (compWk k B scope s hk st) := by
  refine ⟨rfl, rfl, rfl, ?_, rfl⟩
  show (cellsFrom _ scope.names (clOf scope k.env)).map (·.1) = compNames scope
  unfold compNames
  refine cellsFrom_map _ _ _ _ _ ?_
  rw [clOf_names, List.map_reverse, List.map_map]
  congr 1
  exact (List.map_id _).symm
theorem comp_list {elt iter : Expr} {x : Str} {px : Pos} {ifs : List Expr} {scope : Scope} {pos : Pos} {RR : Value → Addr → Result → Shared → Prop} {E : Value → Shared → Prop}
    (hc : CompAt scope k.env) {n : Nat} {R : Nat → V → Prop} {ok : AHeap → Prop} (I : Nat → List V → AHeap → Prop) {xv : Value} (hit : WIter k (er xv) m H n R ok) (h0 : I 0 [] H) (hok : ∀ i acc H2, I i acc H2 → ok H2) (hn : n ≤ sizeLine)
    (hx : ∀ kc, CompK k scope kc → storable kc.env x = true)
    (step : ∀ kc, CompK k scope kc → ∀ i v acc mc H2, i < n → R i v → I i acc H2 → Caps scope m mc → mc x = some v → W kc (tests ifs kc.env) mc H2 fun b m3 H3 => m3 = mc ∧ if b = true then WV kc (eval elt kc.env) mc H3 fun u m4 H4 => m4 = mc ∧ I (i + 1) (acc ++ [u]) H4 else I (i + 1) acc H3)
    (hcx : (freeNames scope).contains x = false)
    {B : BMap} {s : Shared} (st : St k.c k.o k.env B m H s)
    (hRR : ∀ D C obC acc H' s', B C = none → k.c.base.objs.size ≤ C → (∃ mC, s'.heap.Ns C mC) → St k.c k.o k.env (upd B C (obC, false)) m (upd H' D (.list acc)) s' → H' D = none → acc.length ≤ n → I n acc H' → RR (.ref D) C (.ok .next) s') :
    wpAny (model k.c.prog k.c.w) k.A (pyIter xv) (fun it s2 => wpAny (model k.c.prog k.c.w) k.A (newList []) (fun acc s3 => wpAny (model k.c.prog k.c.w) k.A (newFunctionEnv scope k.env.globals (clOf scope k.env) [] k.env.qual none .none (some k.env)) (fun cenv s4 =>
      codeAny (model k.c.prog k.c.w) k.A (.compStart (.ListComp elt [⟨.Name x px, iter, ifs, 0⟩] scope pos) 0 it acc { cenv with scope := relabel scope k.env }) (RR acc cenv.locals) s4) E s3) E s2) E s := by
  refine hit xv rfl B s st _ _ fun it ob0 at_ s2 wk hat0 hBit hbit st2 => ?_
  refine wpAny_newObj_type ?_ (by show (([] : List Value).toArray).size ≤ sizeLine; simp)
  refine wpAny_compEnv ?_
  -- the state with all of these made
  have hitAt := hid_at st2
  have hitlt : it < s2.heap.objs.size := Heap.lt_size hitAt
  have stA := st.unhide hBit st2
  have stB := stA.grown (tk := s2.toks) (h' := s2.heap.push { cls := .type "list", data := .seq ([] : List Value).toArray }) (fun b ob e => Heap.get?_push_of_some _ e) st2.tk
  have hD1 : (s2.heap.push { cls := .type "list", data := .seq ([] : List Value).toArray }).get? s2.heap.objs.size = some { cls := .type "list", data := .seq ([] : List Value).toArray } := Heap.get?_push_size _ rfl
  have hsz : (s2.heap.push { cls := .type "list", data := .seq ([] : List Value).toArray }).objs.size = s2.heap.objs.size + 1 := Heap.size_push ..
  refine Mine.hideG fun GG back => ?_
  obtain ⟨fD1, fD2, fD3, fD4⟩ := stA.fresh (stA.none_at (Nat.le_refl s2.heap.objs.size))
  obtain ⟨fC1, fC2, fC3, fC4⟩ := stB.fresh (stB.none_at (Nat.le_refl _))
  refine back ?_
  clear back
  have hbD : k.c.base.objs.size ≤ s2.heap.objs.size := stA.baseLe
  have hbC := stB.baseLe
  have st4 := stB.enterComp k.kind k.fat hc
  obtain ⟨kc, hkc, hkl, hko, leave, st4', hE, hknd⟩ : ∃ kc : Wk, (CompK k scope kc) ∧ (kc.env.locals = ({ s2 with heap := s2.heap.push { cls := .type "list", data := .seq ([] : List Value).toArray } } : Shared).heap.objs.size) ∧ (kc.o.ext = hideComp k.env ((clOf scope k.env).map (·.2)) ({ s2 with heap := s2.heap.push { cls := .type "list", data := .seq ([] : List Value).toArray } } : Shared).heap B) ∧ (∀ {B' m' H' s'}, St k.c kc.o kc.env B' m' H' s' → Caps scope m m' → St k.c k.o k.env B m H' s') ∧ (St k.c kc.o kc.env kc.o.ext (capm scope m) H _) ∧ (kc.E = fun _ _ => False) ∧ (kc.env = { scope := relabel scope k.env, locals := ({ s2 with heap := s2.heap.push { cls := .type "list", data := .seq ([] : List Value).toArray } } : Shared).heap.objs.size, globals := k.env.globals, cells := cellsFrom (({ s2 with heap := s2.heap.push { cls := .type "list", data := .seq ([] : List Value).toArray } } : Shared).heap.objs.size + 1) scope.names (clOf scope k.env), qual := k.env.qual, func := none, code := k.env.code, frame := k.env.frame, builtins := k.env.builtins }) := ⟨compWk k B scope { s2 with heap := s2.heap.push { cls := .type "list", data := .seq ([] : List Value).toArray } } hc.kind ⟨m, H, stB⟩, compWk_K, rfl, rfl, (fun st' hcap => stB.leaveComp hc st' k.kind hcap), st4, rfl, rfl⟩
  rw [← hknd]
  refine Mine.hideG fun GG back => ?_
  obtain ⟨kcc, kcA, _, _, _⟩ := id hkc
  refine back ?_
  clear back
  have extIt : kc.o.ext it = none := by
    rw [hko]; unfold hideComp
    rw [if_neg fun q => ?_]
    · exact hBit
    · have := (st2.pl it q.1).2.1
      rw [upd_same] at this; cases this
  have extD : kc.o.ext s2.heap.objs.size = none := by
    rw [hko]; unfold hideComp
    rw [if_neg fun q => fD4 q.1]
    exact fD2
  have keep4 : ∀ b ob, (s2.heap.push { cls := .type "list", data := .seq ([] : List Value).toArray }).get? b = some ob → (pushCells ((s2.heap.push { cls := .type "list", data := .seq ([] : List Value).toArray }).push { cls := .type "dict", data := .dict #[] }) scope.names).get? b = some ob :=
    fun b ob e => pushCells_keeps _ _ b ob (Heap.get?_push_of_some _ e)
  have hitD : s2.heap.objs.size ≠ it := Nat.ne_of_gt hitlt
  refine Mine.hideG fun GG back => ?_
  obtain ⟨T0, vs0, hc0, hd0, _⟩ := wk.cls 0 ob0 hat0
  refine back ?_
  clear back
  have st5 := st4'.hide (a := s2.heap.objs.size) (l := false) (keep4 _ _ hD1) fD1 (fun q => by
    refine Mine.hideG fun GG back => ?_
    obtain ⟨ob, ho, h⟩ := st4'.placeData q
    refine back ?_
    clear back
    rw [keep4 _ _ hD1] at ho; cases ho
    rcases h with ⟨_, _, h⟩ | ⟨_, h⟩ <;> cases h) extD
  have st6 := st5.hide (a := it) (l := false) (keep4 _ _ (Heap.get?_push_of_some _ hitAt)) (by
    cases e : H it with
    | none => rfl
    | some y => have := st2.disB it y e; rw [upd_same] at this; cases this) (fun q => by
    refine Mine.hideG fun GG back => ?_
    obtain ⟨ob, ho, h⟩ := st5.placeData q
    refine back ?_
    clear back
    rw [keep4 _ _ (Heap.get?_push_of_some _ hitAt)] at ho; cases ho
    rcases h with ⟨_, _, h⟩ | ⟨_, h⟩ <;> (rw [hd0] at h; cases h)) (by unfold upd; rw [if_neg (Ne.symm hitD)]; exact extIt)
  have hB1 : ∀ x : Obj × Bool, upd kc.o.ext s2.heap.objs.size x it = none := fun x => by unfold upd; rw [if_neg (Ne.symm hitD)]; exact extIt
  have hB2 : ∀ x : Obj × Bool, upd kc.o.ext it x s2.heap.objs.size = none := fun x => by unfold upd; rw [if_neg hitD]; exact extD
  have loop : ∀ s', (∃ i acc H' ob vs cnt mc, 0 + i = 0 ∧ at_ i ob ∧ I i acc H' ∧ (vs : List Value).map er = acc ∧ acc.length ≤ i ∧ Caps scope m mc ∧ St k.c kc.o kc.env (upd (upd kc.o.ext s2.heap.objs.size ({ cls := .type "list", data := .seq vs.toArray cnt }, false)) it (ob, false)) mc H' s') →
      codeAny (model k.c.prog k.c.w) k.A (.compLoop (.ListComp elt [⟨.Name x px, iter, ifs, 0⟩] scope pos) 0 (.ref it) (.ref s2.heap.objs.size) kc.env) (RR (.ref s2.heap.objs.size) (s2.heap.push { cls := .type "list", data := .seq ([] : List Value).toArray }).objs.size) s' := by
    intro s' hs'
    refine codeAny_compLoop_tests (fun j s' => ∃ i acc H' ob vs cnt mc, j + i = n ∧ at_ i ob ∧ I i acc H' ∧ (vs : List Value).map er = acc ∧ acc.length ≤ i ∧ Caps scope m mc ∧ St k.c kc.o kc.env (upd (upd kc.o.ext s2.heap.objs.size ({ cls := .type "list", data := .seq vs.toArray cnt }, false)) it (ob, false)) mc H' s') ?_ n ?_
    · intro j s' hg251_2
      refine Mine.hideG fun GG back => ?_
      obtain ⟨i, acc, H', ob, vs, cnt, mc, hj, hat, hI, hvs, hal, hcap, st'⟩ := hg251_2
      refine back ?_
      clear back
      by_cases hi : i < n
      · refine wk.item i hi H' s' ob st'.owned (hid_at st') hat (hok _ _ _ hI) _ (fun v h' tk ob'' htk hR hat' ho hsame => ?_) _
        have st7 := St.rehide' (hB1 _) extIt hbit st' hsame.extBut htk ho
        have hsx := hx kc hkc
        have hass := W_bindName (k := kc) (x := x) (v := v) (Q := fun _ m' H2 => m' = setL mc x (er v) ∧ H2 = H') hsx ⟨rfl, rfl⟩ _ _ (by rw [kcc]; exact st7)
        rw [kcc, kcA, hE] at hass
        show wpAny _ _ (do standAt px; bindName kc.env x v) _ _ _
        refine wpAny_bind (wpAny_standAt ?_)
        refine wpAny_mono hass (fun _ s₂ q => ?_) (fun _ _ h => h.elim)
        refine Mine.hideG fun GG back => ?_
        obtain ⟨m', H2, st8, rfl, rfl⟩ := q
        refine back ?_
        clear back
        have hcap' : Caps scope m (setL mc x (er v)) := fun y u e => by
          have hyx : y ≠ x := fun q => by
            subst q
            unfold capm at e
            rw [if_neg (by rw [hcx]; exact Bool.false_ne_true)] at e; cases e
          unfold setL; rw [if_neg hyx]; exact hcap y u e
        have hstep := step kc hkc i (er v) acc (setL mc x (er v)) H2 hi hR hI hcap' setL_same _ _ (by rw [kcc]; exact st8)
        rw [kcc, kcA, hE] at hstep
        refine wpAny_mono hstep (fun b s₃ q => ?_) (fun _ _ h => h.elim)
        refine Mine.hideG fun GG back => ?_
        obtain ⟨m3, H3, st9, rfl, q⟩ := q
        refine back ?_
        clear back
        cases b with
        | false =>
          rw [if_neg Bool.false_ne_true] at q ⊢
          exact ⟨j - 1, by lia, i + 1, acc, H3, ob'', vs, cnt, _, by lia, hat', q, hvs, by lia, hcap', st9⟩
        | true =>
          rw [if_pos rfl] at q ⊢
          have q' := q _ _ (by rw [kcc]; exact st9)
          rw [kcc, kcA, hE] at q'
          refine wpAny_mono q' (fun u s₄ q => ?_) (fun _ _ h => h.elim)
          refine Mine.hideG fun GG back => ?_
          obtain ⟨m4, H4, st10, rfl, q⟩ := q
          refine back ?_
          clear back
          have hl := st10.hid2 hitD
          have hlen : vs.length ≤ sizeLine := by rw [← hvs, List.length_map] at hal; lia
          refine call_meets F.slot_list_append ⟨_, hl, rfl⟩ F.entry_list_append (F.args_list_append_2 _ _) (list_append s2.heap.objs.size vs.toArray cnt u (by simpa using hlen)) ⟨hl, ?_⟩
          obtain ⟨cnt', hup⟩ : ∃ cnt', IsL (s₄.heap.update s2.heap.objs.size (Obj.mapSeq fun x_1 => x_1.push u)) s2.heap.objs.size (vs ++ [u]).toArray cnt' := by
            have := IsL.update hl (fun x_1 => x_1.push u)
            rw [show vs.toArray.push u = (vs ++ [u]).toArray from by simp] at this
            exact ⟨_, this⟩
          have st11 := St.rehide' (hB2 _) extD hbD (by rw [upd_comm hitD] at st10; exact st10) (tk := s₄.toks) (Heap.SameBut.update s₄.heap s2.heap.objs.size (Obj.mapSeq fun x_1 => x_1.push u)).extBut st10.tk hup
          rw [← upd_comm hitD] at st11
          exact ⟨j - 1, by lia, i + 1, acc ++ [er u], H4, ob'', vs ++ [u], cnt', _, by lia, hat', q, by rw [List.map_append, hvs]; rfl, by rw [List.length_append, List.length_singleton]; lia, hcap', st11⟩
      · have hi' : i = n := by lia
        subst hi'
        refine wk.fin H' s' ob st'.owned (hid_at st') hat (hok _ _ _ hI) _ (fun h' hk => ?_) _
        have st7 := St.but' (hB1 _) extIt hbit st' (tk := s'.toks) hk st'.tk
        have stE := leave st7 hcap
        refine Mine.hideG fun GG back => ?_
        obtain ⟨mv, hns, _⟩ := st7.var
        obtain ⟨obC, es, ep, hCo, hCr⟩ := id hns
        refine back ?_
        clear back
        rw [hkl] at hCo hns
        have hCp := st7.pl kc.env.locals List.mem_cons_self
        rw [hkl] at hCp
        have stC := stE.hide (l := false) hCo hCp.1 fC4 fC2
        have hDl : h'.get? s2.heap.objs.size = some { cls := .type "list", data := .seq vs.toArray cnt } := hid_at st7
        have hHD : H' s2.heap.objs.size = none := by
          cases e : H' s2.heap.objs.size with
          | none => rfl
          | some y => have := st7.disB _ y e; rw [upd_same] at this; cases this
        have stF := stC.adopt (a := s2.heap.objs.size) (y := .list acc) ⟨_, hDl, vs, cnt, rfl, hvs⟩ hHD (by
          unfold upd
          rw [if_neg (fun q => by rw [hsz] at q; exact absurd q (Nat.ne_of_lt (Nat.lt_succ_self _)))]
          exact fD2) fD4 hbD
        exact hRR _ _ _ _ _ _ fC2 hbC ⟨mv, hns⟩ stF hHD hal hI
    · refine Mine.hideG fun GG back => ?_
      obtain ⟨i, acc, H', ob, vs, cnt, mc, hj, r⟩ := hs'
      refine back ?_
      clear back
      exact ⟨i, acc, H', ob, vs, cnt, mc, by lia, r⟩
  have start : ∃ i acc H' ob vs cnt mc, 0 + i = 0 ∧ at_ i ob ∧ I i acc H' ∧ (vs : List Value).map er = acc ∧ acc.length ≤ i ∧ Caps scope m mc ∧ St k.c kc.o kc.env (upd (upd kc.o.ext s2.heap.objs.size ({ cls := .type "list", data := .seq vs.toArray cnt }, false)) it (ob, false)) mc H' _ :=
    ⟨0, [], H, ob0, [], 0, capm scope m, rfl, hat0, h0, rfl, Nat.le_refl _, fun _ _ e => e, st6⟩
  exact codeAny_compStart_list (loop _ start) (wk.self ob0 _ _ (hid_at st6) hat0 (loop _ start) _)
structure LC (k : Wk) (elt : Expr) (ifs : List Expr) (scope : Scope) (x : Str) (xv : V) (m : Loc) (H : AHeap) (Q : Addr → AHeap → Prop) (n : Nat) (R : Nat → V → Prop) (ok : AHeap → Prop) (I : Nat → List V → AHeap → Prop) : Prop where
  it : WIter k xv m H n R ok
  start : I 0 [] H
  ok : ∀ i acc H2, I i acc H2 → ok H2
  size : n ≤ sizeLine
  step : ∀ kc, CompK k scope kc → ∀ i v acc mc H2, i < n → R i v → I i acc H2 → Caps scope m mc → mc x = some v → W kc (tests ifs kc.env) mc H2 fun b m3 H3 => m3 = mc ∧ if b = true then WV kc (eval elt kc.env) mc H3 fun u m4 H4 => m4 = mc ∧ I (i + 1) (acc ++ [u]) H4 else I (i + 1) acc H3
  fin : ∀ a acc H2, acc.length ≤ n → I n acc H2 → H2 a = none → Q a (upd H2 a (.list acc))
theorem compAt_of {scope sc : Scope} {cn : List Str} [I : SEnv k sc cn] (h : compOK scope sc cn = true) : CompAt scope k.env := CompAt.of (by rw [I.sc, I.cn]; exact h)
theorem W_ListComp {elt iter : Expr} {x : Str} {px : Pos} {ifs : List Expr} {scope sc : Scope} {cn : List Str} {pos : Pos} {Q : V → Loc → AHeap → Prop} [S : SEnv k sc cn] (hc : compOK scope sc cn = true)
    (hx : storS (relabelS scope sc) (compNames scope) x = true) (hcx : (freeNames scope).contains x = false)
    (h : WV k (eval iter k.env) m H fun xv m1 H1 => ∃ n R ok I, LC k elt ifs scope x xv m1 H1 (fun a => Q (.ref a) m1) n R ok I)
    (hs : ∀ x, foldedSetIterable iter k.env x = pure x := by intro _; rfl) :
    WV k (eval (.ListComp elt [⟨.Name x px, iter, ifs, 0⟩] scope pos) k.env) m H Q := fun B s st => by
  have hcc := compAt_of (k := k) hc
  rw [eval_ListComp]
  refine wpAny_comprehension_free (use := none) rfl hs hcc.clos hcc.kind (fun y hy hl => lookup_of_mem_nodup hcc.nodup (by rw [← hl]; exact hy)) (wpAny_mono (h B s st) (fun xv s1 hx1 => ?_) fun _ _ y => y)
  refine Mine.hideG fun GG back => ?_
  obtain ⟨m1, H1, st1, n, R, ok, I, L⟩ := hx1
  refine back ?_
  clear back
  refine comp_list (RR := fun acc C => compPost (model k.c.prog k.c.w) k.A k.E none _ acc C) (E := k.E) hcc I L.it L.start L.ok L.size (fun kc hkc => ?_) L.step hcx st1 fun D C obC acc H' s' hBC hbC hns st' hD hal hI => ?_
  · haveI := hkc.senv (sc := sc) (cn := cn)
    exact stor hx
  · refine Mine.hideG fun GG back => ?_
    obtain ⟨mC, hns⟩ := hns
    refine back ?_
    clear back
    refine ⟨mC, hns, fun h' hsb => ⟨m1, _, St.but' hBC ?_ hbC st' (tk := s'.toks) hsb.extBut st'.tk, L.fin D acc H' hal hI hD⟩⟩
    cases e : k.o.ext C with
    | none => rfl
    | some y => have := st1.frames.2 C y e; rw [hBC] at this; cases this
end
end Mine
namespace Mine
theorem putK_length : ∀ (kvs : List (Key × V)) (k : Key) (v : V), (putK kvs k v).length ≤ kvs.length + 1
  | [], _, _ => Nat.le_refl _
  | (k', w) :: r, k, v => by
    show (if k' = k then (k', v) :: r else (k', w) :: putK r k v).length ≤ _
    split
    · simp
    · have := putK_length r k v
      simp only [List.length_cons]; lia
section
variable {k : Wk} {m : Loc} {H : AHeap}
end
end Mine
namespace Mine
theorem call_excM {prog : Program} {w : World} {A : Around} {E : Value → Shared → Prop} {s : Shared} {X N I : String} (hc : ExcClass X N I) {rest : List Value} {Q : Value → Shared → Prop}
    (h : ∀ h' e t, (∀ b o, s.heap.get? b = some o → h'.get? b = some o) → s.heap.objs.size ≤ e → s.heap.objs.size ≤ t → t ≠ e → (∃ ob, h'.get? e = some ob ∧ ob.cls = .type X ∧ ob.data = .fields #[.ref t, .none, .none, .none, .bool false, .none]) →
      h'.get? t = some { cls := .type "tuple", data := .seq rest.toArray } → Q (.ref e) { s with heap := h' }) (hrest : rest.length ≤ sizeLine) :
    wpAny (model prog w) A (call (.type X) rest) Q E s := by
  refine wpAny_call (codeAny_of_tree ?_)
  show wpAny _ _ (callAny (.type X) ⟨rest, []⟩) _ _ s
  simp only [callAny]
  refine wpAny_pure ⟨Code.quiet_builtin _ (by decide +kernel), codeAny_builtin entry_type_call ?_⟩
  rw [Around.under_plain (weight_type_call X _ _) (by first | rfl | kernel_rfl | decide +kernel)]
  unfold Builtin.«type.__call__»
  dsimp only
  rw [if_neg (by rw [hc.notType]; exact Bool.false_ne_true), if_neg (by rw [hc.canNew]; exact Bool.false_ne_true)]
  obtain ⟨l, hl, hle⟩ := hc.mro
  refine wpAny_bind (wpAny_of_eq (hc.typeCall rest) (wpAny_bind (wpAny_of_eq hl ?_)))
  rw [if_neg (by rw [hle]; exact Bool.false_ne_true)]
  refine wpAny_bind (wpAny_of_eq hc.madeBy ?_)
  dsimp only
  refine wpAny_bind (wpAny_pure (wpAny_bind (wpAny_holding (new_exc hc ?_ hrest))))
  refine wpAny_bind (wpAny_isInstance (T := X) ⟨_, Heap.get?_push_size _ rfl, rfl⟩ hc.self ?_)
  simp only [Bool.not_true, Bool.false_eq_true, if_false]
  refine wpAny_bind (wpAny_holding (wpAny_callSpecial?_slot (name := Str.ofString "__init__") (T := X) ⟨_, Heap.get?_push_size _ rfl, rfl⟩ hc.init
    (init_exc hc (Heap.get?_push_size _ rfl) rfl rfl rfl ?_ hrest)))
  dsimp only
  rw [if_neg (by simp)]
  generalize hh1 : (s.heap.push { cls := .type "tuple", data := .seq rest.toArray }) = h1
  have z1 : h1.objs.size = s.heap.objs.size + 1 := by rw [← hh1]; exact Heap.size_push ..
  generalize hh2 : h1.push { cls := .type X, data := .fields #[.ref s.heap.objs.size, .none, .none, .none, .bool false, .none] } = h2
  have z2 : h2.objs.size = h1.objs.size + 1 := by rw [← hh2]; exact Heap.size_push ..
  have k1 : ∀ b o, s.heap.get? b = some o → h1.get? b = some o := fun b o e => by rw [← hh1]; exact Heap.get?_push_of_some _ e
  have k2 : ∀ b o, h1.get? b = some o → h2.get? b = some o := fun b o e => by rw [← hh2]; exact Heap.get?_push_of_some _ e
  have e2 : h2.get? h1.objs.size = some { cls := .type X, data := .fields #[.ref s.heap.objs.size, .none, .none, .none, .bool false, .none] } := by rw [← hh2]; exact Heap.get?_push_size _ rfl
  refine wpAny_pure (h _ _ h2.objs.size (fun b o hb => ?_) (by rw [z1]; exact Nat.le_succ _) (by rw [z2, z1]; lia) (by rw [z2]; exact Nat.succ_ne_self _)
    ⟨_, Heap.get?_update_self _ (Heap.get?_push_of_some _ e2) (Obj.isFreed_of_fields (Obj.data_mapFields rfl _)), Obj.cls_mapFields _ _, by rw [Obj.data_mapFields rfl]; rfl⟩ ?_)
  · rw [Heap.get?_update_other _ _ (Nat.ne_of_gt (Nat.lt_of_lt_of_le (Heap.lt_size hb) (by rw [z1]; exact Nat.le_succ _)))]
    exact Heap.get?_push_of_some _ (k2 b o (k1 b o hb))
  · rw [Heap.get?_update_other _ _ (by rw [z2]; exact Nat.ne_of_lt (Nat.lt_succ_self _))]
    exact Heap.get?_push_size _ rfl
section
variable {k : Wk} {m : Loc} {H : AHeap}
theorem W_RaiseCall {x : Str} {X N I : String} {np cpos pos : Pos} {args : List Expr} {Q : Flow → Loc → AHeap → Prop} (hc : ExcClass X N I) (hh : k.A.handled = none) (here : k.here) (hg : Gl k.c x (.type X)) (hx : k.env.kindOf x = some .globalImplicit)
    (h : WItems k args m H fun vs m1 H1 => vs.length ≤ sizeLine ∧ k.X X (some vs) m1 H1)
    (hp : (starEach args k.env).any (·.1) = false := by rfl) (hp' : (backTo cpos (starEach args k.env)).any (·.1) = false := by rfl) (hd : (x == ("__debug__" : Str)) = false := by decide) :
    W k (exec (.Raise (some (.Call (.Name x np) args [] cpos)) none pos) k.env) m H Q := fun B s st =>
  Raise_new hh (wpAny_Call_NameR (wpAny_mono (W_NameG (Q := fun v m' H' => v = .ty X ∧ m' = m ∧ H' = H) hg hx ⟨rfl, rfl, rfl⟩ hd B s st) (fun f s1 hx1 => by
    refine Mine.hideG fun GG back => ?_
    obtain ⟨m1, H1, st1, e1, e2, e3⟩ := hx1
    refine back ?_
    clear back
    subst e2; subst e3
    obtain rfl := er_ty e1
    refine PySem.callWith_type hp' (wpAny_mono (evalArgs_of (f := .type X) (pos := cpos) hp h B s1 st1) (fun a s2 ⟨m2, H2, st2, e, hz, q⟩ => ?_) fun _ _ x => x)
    rw [e]
    refine call_excM hc (fun h' ea t hk he ht hne ⟨ob, ho, hoc, hod⟩ htt => ?_) (by simpa using hz)
    obtain ⟨st3, hm⟩ := st2.making0 (tk := s2.toks) k.kind (cls := X) (xs := some (a.pos.map er)) hk (st2.none_at he) ho hoc hod (fun l q => ⟨t, a.pos, 0, rfl, Option.some.inj q, htt, ht, he, hne⟩) st2.tk
    exact ⟨ea, ob, _, X, N, I, hc, rfl, ho, hoc, hod, rfl, k.made here _ _ _ _ _ _ _ st3 hm q⟩) fun _ _ x => x))
theorem WSub_listOut {value slice : Expr} {l : Addr} {xs : List V} {i : Int} {Q : V → Loc → AHeap → Prop} (hh : k.A.handled = none) (here : k.here) (hl : H l = some (.list xs)) (h0 : -(2 ^ 63) ≤ i) (h1 : i < 2 ^ 63) (ho : i < -(xs.length : Int) ∨ (xs.length : Int) ≤ i) (h : k.X "IndexError" none m H)
    (hs : ∀ o i, subscripted slice false o i = operate [o, i] (getItem o i) := by intro _ _; with_unfolding_all rfl) : WSub k value slice (.ref l) (.int i) m H Q := fun x y hx hy B s st => by
  obtain rfl := er_ref hx
  obtain ⟨t, rfl⟩ := er_int hy
  obtain ⟨vs, n, hl', rfl⟩ := st.listAt hl
  rw [List.length_map] at ho
  refine tail_any hl'.isList.typeIs slot_list_getitem.lookup (wpAny_mono (wpAny_toks_of st.tk (wpAny_getItem_list_out (Q := fun _ _ => False) (E := fun e s' => ∃ h' tk ea, e = .ref ea ∧ s' = { s with heap := h', toks := tk } ∧ Heap.NewExc s.heap h' ea "IndexError") hh hl'.isList (by simpa using ho) h0 h1 fun h' tk e hx => ⟨h', tk, e, rfl, rfl, hx⟩)) (fun _ _ q => q.2.elim) fun e s' q => ?_) (hs _ _)
  obtain ⟨htk, h', tk, ea, rfl, rfl, hx⟩ := q
  obtain ⟨st3, hm⟩ := st.makingNew k.kind hx htk
  exact k.made here _ _ _ _ _ _ _ st3 hm h
theorem WSub_tupOut {value slice : Expr} {l : Addr} {xs : List V} {i : Int} {Q : V → Loc → AHeap → Prop} (hh : k.A.handled = none) (here : k.here) (hl : H l = some (.tup xs)) (h0 : -(2 ^ 63) ≤ i) (h1 : i < 2 ^ 63) (ho : seqIndex? i xs.length = none) (h : k.X "IndexError" none m H)
    (hs : ∀ o i, subscripted slice false o i = operate [o, i] (getItem o i) := by intro _ _; with_unfolding_all rfl) : WSub k value slice (.ref l) (.int i) m H Q := fun x y hx hy B s st => by
  obtain rfl := er_ref hx
  obtain ⟨t, rfl⟩ := er_int hy
  obtain ⟨vs, n, hl', rfl⟩ := st.tupAt hl
  rw [List.length_map] at ho
  have hT : s.TypeIs (.ref l) "tuple" := ⟨_, hl', rfl⟩
  refine tail_any hT slot_tuple_getitem.lookup (wpAny_mono (wpAny_toks_of st.tk (getItem_meets (Q := fun _ _ => False) (E := fun e s' => ∃ h' tk ea, e = .ref ea ∧ s' = { s with heap := h', toks := tk } ∧ Heap.NewExc s.heap h' ea "IndexError") hT (by decide) F.slot_tuple_getitem F.entry_tuple_getitem (F.args_tuple_getitem_2 _ _) (MeetsSeq.tuple_getitem_out l (vs : List Value).toArray n i t h0 h1 (by simpa using ho)) ⟨hl', hh, fun h' tk e hx => ⟨h', tk, e, rfl, rfl, hx⟩⟩)) (fun _ _ q => q.2.elim) fun e s' q => ?_) (hs _ _)
  obtain ⟨htk, h', tk, ea, rfl, rfl, hx⟩ := q
  obtain ⟨st3, hm⟩ := st.makingNew k.kind hx htk
  exact k.made here _ _ _ _ _ _ _ st3 hm h
end
end Mine
namespace Mine
structure TryK (k : Wk) (X : String → Option (List V) → Loc → AHeap → Prop) (k' : Wk) : Prop where
  c : k'.c = k.c
  A : k'.A = k.A
  env : k'.env = k.env
  fs : k'.o.fs = k.o.fs
  X : k'.X = X
theorem TryK.senv {k k' : Wk} {X : String → Option (List V) → Loc → AHeap → Prop} {sc : Scope} {cn : List Str} (h : TryK k X k') [I : SEnv k sc cn] : SEnv k' sc cn := ⟨by rw [h.env]; exact I.sc, by rw [h.env]; exact I.cn⟩
structure MarkK (k : Wk) (e : Addr) (kh : Wk) : Prop where
  c : kh.c = k.c
  A : kh.A = k.A.mark (some (.ref e))
  env : kh.env = k.env
  o : kh.o = k.o
theorem MarkK.senv {k k' : Wk} {e : Addr} {sc : Scope} {cn : List Str} (h : MarkK k e k') [I : SEnv k sc cn] : SEnv k' sc cn := ⟨by rw [h.env]; exact I.sc, by rw [h.env]; exact I.cn⟩
noncomputable def markWk (k : Wk) (e : Addr) : Wk where
  c := k.c
  A := k.A.mark (some (.ref e))
  o := k.o
  env := k.env
  E := fun _ _ => False
  X := fun _ _ _ _ => False
  here := False
  pass := PassesOwn.never
  fly := fun _ _ _ _ _ _ _ _ _ h => h
  made := fun h => h.elim
  kind := k.kind
  glob := k.glob
  blt := k.blt
  frames := k.frames
  fat := k.fat
noncomputable def WH (k : Wk) (hs : List ExceptHandler) (e : Addr) (cls : String) (xs : Option (List V)) (m : Loc) (H : AHeap) (Q : Flow → Loc → AHeap → Prop) : Prop :=
  ∀ B s, St k.c k.o k.env B m H s → InFl k.c k.o k.env B H e cls xs s.heap → wpAny (model k.c.prog k.c.w) k.A (handleBy (.ref e) k.env hs) (fun f s' => ∃ m' H', St k.c k.o k.env B m' H' s' ∧ Q f m' H') k.E s
section
variable {c : Cx} {o : Out} {env : Env} {B : BMap} {m : Loc} {H : AHeap} {s : Shared}
theorem St.shrink {m₀ : Loc} {H₀ : AHeap} {s₀ : Shared} (st₀ : St c o env B m₀ H₀ s₀) {B' : BMap} (st : St c ⟨o.fs, B⟩ env B' m H s) : St c o env B m H s := by
  have ex : ∀ a x, B a = some x → B' a = some x := st.frames.2
  have r : ∀ b, B' b = none → B b = none := fun b e => by
    cases h : B b with
    | none => rfl
    | some y => rw [ex b y h] at e; cases e
  exact ⟨st.base, fun b ob l e => st.keep b ob l (ex b _ e), st.own, fun b y e => r b (st.disB b y e), st.disBase, fun b z => ⟨(st.pl b z).1, r b (st.pl b z).2.1, (st.pl b z).2.2⟩, st.nodup, st.cell, st.var, st₀.frames, st.gens, st.os, st.tk⟩
theorem Away.shrink {B' : BMap} (ex : ∀ a x, B a = some x → B' a = some x) {a : Addr} (h : Away env B' H a) : Away env B H a := by
  have hq54 := h
  have h1 := hq54.1
  have h2 := hq54.2.1
  have h3 := hq54.2.2
  clear hq54
  refine ⟨h1, ?_, h3⟩
  cases e : B a with
  | none => rfl
  | some y => rw [ex a y e] at h2; cases h2
theorem InFl.shrink {B' : BMap} (ex : ∀ a x, B a = some x → B' a = some x) {e : Addr} {cls : String} {xs : Option (List V)} {h : Heap} (i : InFl c ⟨o.fs, B⟩ env B' H e cls xs h) : InFl c o env B H e cls xs h := by
  refine Mine.hideG fun GG back => ?_
  obtain ⟨base', a0, hO, hfl, ha⟩ := i
  refine back ?_
  clear back
  refine ⟨base', a0, ⟨hO.cb, fun b q => hO.own b ?_⟩, hfl, fun l q => ?_⟩
  · rcases q with q | q | q
    · exact .inl q
    · refine Mine.hideG fun GG back => ?_
      obtain ⟨y, hy⟩ := Option.isSome_iff_exists.mp q
      refine back ?_
      clear back
      exact .inr (.inl (by rw [ex b y hy]; rfl))
    · exact .inr (.inr q)
  · refine Mine.hideG fun GG back => ?_
    obtain ⟨t, vs, n, h1, h2, h3, h4, h5, h6, h7⟩ := ha l q
    refine back ?_
    clear back
    exact ⟨t, vs, n, h1, h2, h3, h4, h5, h6.shrink ex, h7.shrink ex⟩
noncomputable def clr (m : Loc) (x : Str) : Loc := fun y => if y = x then none else m y
theorem St.clr (st : St c o env B m H s) {x : Str} {h' : Heap} {tk : Nat} (hk : env.kindOf x = some .local)
    (hq : ∀ mv, s.heap.Ns env.locals mv → ∃ v, h'.Ns env.locals (fun y => if y = x then v else mv y)) (hs : Heap.SameBut env.locals s.heap h') (ht : 1 ≤ tk) : St c o env B (Mine.clr m x) H { s with heap := h', toks := tk } := by
  have hp := st.pl env.locals List.mem_cons_self
  have kp : ∀ b ob, b ≠ env.locals → s.heap.get? b = some ob → h'.get? b = some ob := fun b ob ne e => (hs.2 b ne).trans e
  refine ⟨fun b ob e => kp b ob (fun q => ?_) (st.base b ob e), fun b ob l e => ?_, fun b z e => ?_, st.disB, st.disBase, st.pl, st.nodup, fun b e => ?_, ?_, st.frames, st.gens, st.os, ht⟩
  · rw [q] at e; exact absurd (Heap.lt_size e) (Nat.not_lt.mpr hp.2.2)
  · refine Mine.hideG fun GG back => ?_
    obtain ⟨sl, hq82⟩ := st.keep b ob l e
    refine back ?_
    clear back
    have e1 := hq82.1
    have e2 := hq82.2
    clear hq82
    exact ⟨sl, kp b _ (fun q => by rw [q, hp.2.1] at e; cases e) e1, e2⟩
  · obtain ⟨ob, e1, e2⟩ := st.own b z e; exact ⟨ob, kp b ob (fun q => by rw [q, hp.1] at e; cases e) e1, e2⟩
  · refine Mine.hideG fun GG back => ?_
    obtain ⟨u, ob, hq85⟩ := st.cell b e
    refine back ?_
    clear back
    have e1 := hq85.1
    have e2 := hq85.2
    clear hq85
    exact ⟨u, ob, kp b ob (fun q => (List.nodup_cons.mp st.nodup).1 (q ▸ e)) e1, e2⟩
  · refine Mine.hideG fun GG back => ?_
    obtain ⟨mv, hq87⟩ := st.var
    refine back ?_
    clear back
    have hn := hq87.1
    have hv := hq87.2
    clear hq87
    refine Mine.hideG fun GG back => ?_
    obtain ⟨v, hq⟩ := hq mv hn
    refine back ?_
    clear back
    refine ⟨_, hq, fun y u e => ?_⟩
    unfold Mine.clr at e
    by_cases hy : y = x
    · rw [if_pos hy] at e; cases e
    · rw [if_neg hy] at e
      have q := hv y u e
      have cellK : ∀ a z, env.cells.lookup y = some a → s.heap.IsCell a z → h'.IsCell a z := fun a z e ⟨ob, ho, hd⟩ =>
        ⟨ob, kp a ob (fun r => (List.nodup_cons.mp st.nodup).1 (r ▸ List.mem_map_of_mem (f := (·.2)) (PySem.mem_of_lookup e))) ho, hd⟩
      split at q
      · obtain ⟨z, e1, e2⟩ := q; exact ⟨z, by rw [if_neg hy]; exact e1, e2⟩
      · obtain ⟨a, z, e1, e2, e3⟩ := q; exact ⟨a, z, e1, cellK a _ e1 e2, e3⟩
      · obtain ⟨a, z, e1, e2, e3⟩ := q; exact ⟨a, z, e1, cellK a _ e1 e2, e3⟩
      · exact q
end
section
variable {k : Wk} {m : Loc} {H : AHeap}
theorem W_Try {body orelse : List Stmt} {h₀ : ExceptHandler} {hs : List ExceptHandler} {pos : Pos} {Q : Flow → Loc → AHeap → Prop} (X : String → Option (List V) → Loc → AHeap → Prop) (hfun : k.env.frame = some k.env.locals)
    (hb : ∀ k', TryK k X k' → W k' (execs body k'.env) m H fun f m1 H1 => match f with | .next => W k (execs orelse k.env) m1 H1 Q | f => Q f m1 H1)
    (hx : ∀ e cls xs m1 H1, X cls xs m1 H1 → WH k (h₀ :: hs) e cls xs m1 H1 Q) : W k (exec (.Try body (h₀ :: hs) orelse [] pos) k.env) m H Q := fun B s st => by
  have hout : outerOf k.env k.o.fs = k.env :: k.o.fs := if_pos hfun
  have hA : k.A.frames = some (k.env :: k.o.fs) := by rw [k.frames, hout]
  let k' : Wk := {
    c := k.c, A := k.A, o := ⟨k.o.fs, B⟩, env := k.env
    E := fun e s₁ => wpAny (model k.c.prog k.c.w) k.A (noteFrame e k.env) (fun _ s₂ => wpAny (model k.c.prog k.c.w) k.A (setFlight e none) (fun _ s₃ => wpAny (model k.c.prog k.c.w) k.A (handleBy e k.env (h₀ :: hs)) (fun f s' => ∃ m' H', St k.c k.o k.env B m' H' s' ∧ Q f m' H') k.E s₃) k.E s₂) k.E s₁
    X := X, here := False
    pass := PassesOwn.looking
    fly := fun B' m1 H1 s1 e cls xs st1 i hX => by
      refine Mine.hideG fun GG back => ?_
      obtain ⟨base', a0, hO, hfl, ha⟩ := i
      refine back ?_
      clear back
      have hfl0 := hfl
      rw [show outerOf k.env (Out.fs ⟨k.o.fs, B⟩) = k.env :: k.o.fs from hout] at hfl
      refine wpAny_looks_onW hA hfun hfl fun h2 hh2 hu2 => ?_
      have stS := st.shrink st1
      have iS : InFl k.c k.o k.env B H1 e cls xs s1.heap := InFl.shrink st1.frames.2 ⟨base', a0, hO, hfl0, ha⟩
      refine Mine.hideG fun GG back => ?_
      obtain ⟨base2, a02, hO2, hfl2, ha2⟩ := id iS
      refine back ?_
      clear back
      have hO' : Ours k.c k.o k.env B H1 base' := ⟨hO.cb, fun b q => hO.own b (by
        rcases q with q | q | q
        · exact .inl q
        · refine Mine.hideG fun GG back => ?_
          obtain ⟨y, hy⟩ := Option.isSome_iff_exists.mp q
          refine back ?_
          clear back
          exact .inr (.inl (by rw [st1.frames.2 b y hy]; rfl))
        · exact .inr (.inr q))⟩
      have st2 := stS.flown hO' hfl.1 hh2.1 hu2 (tk := s1.toks) stS.tk
      refine wpAny_landsW hh2 fun h3 hh3 hu3 => ?_
      have st3 := st2.flown hO' hh2.1 hh3.1 hu3 (tk := s1.toks) stS.tk
      refine hx e cls xs m1 H1 hX B _ st3 ⟨base', a0, hO', by rw [hout]; exact hh3, fun l q => ?_⟩
      refine Mine.hideG fun GG back => ?_
      obtain ⟨t, vs, n, g1, g2, g3, g4, g5, g6, g7⟩ := ha l q
      refine back ?_
      clear back
      exact ⟨t, vs, n, g1, g2, g3, g4, g5, g6.shrink st1.frames.2, g7.shrink st1.frames.2⟩
    made := fun h => h.elim
    kind := k.kind, glob := k.glob, blt := k.blt, frames := k.frames, fat := .inl hfun }
  have stB : St k.c ⟨k.o.fs, B⟩ k.env B m H s := ⟨st.base, st.keep, st.own, st.disB, st.disBase, st.pl, st.nodup, st.cell, st.var, ⟨st.frames.1, fun _ _ e => e⟩, st.gens, st.os, st.tk⟩
  refine wpAny_Try_except (wpAny_mono (hb k' ⟨rfl, rfl, rfl, rfl, rfl⟩ B s stB) (fun f s1 ⟨m1, H1, st1, q⟩ => ?_) fun e s1 he => he)
  have st1' := st.shrink st1
  cases f with
  | next => exact q B s1 st1'
  | brk => exact ⟨m1, H1, st1', q⟩
  | cont => exact ⟨m1, H1, st1', q⟩
  | ret v => exact ⟨m1, H1, st1', q⟩
theorem meta_plain {T X N I : String} (hc : ExcClass T N I) : isSubtype (.type ((Manifest.find? T).elim "type" fun x => x.metatype)) (.type "tuple") = pure false := by
  rw [eq_of_beq hc.metaType]
  rw [isSubtype_type]; kernel_rfl
theorem WH_hitAs {x n : Str} {T N I : String} {p pos : Pos} {b₀ : Stmt} {suite : List Stmt} {rest : List ExceptHandler} {e : Addr} {cls : String} {l : List V} {Q : Flow → Loc → AHeap → Prop}
    (hc : ExcClass T N I) (hg : Gl k.c x (.type T)) (hx : k.env.kindOf x = some .globalImplicit) (hn : k.env.kindOf n = some .local) (hsub : isSubtype (.type cls) (.type T) = pure true) (hd : (x == ("__debug__" : Str)) = false) (hcls : cls ≠ "tuple")
    (h : ∀ kh t, MarkK k e kh → H e = none → H t = none → t ≠ e → W kh (execs (b₀ :: suite) kh.env) (setL m n (.ref e)) (upd (upd H t (.tup l)) e (.exc cls (some t))) fun f m' H' => Q f (clr m' n) H') :
    WH k (.ExceptHandler (some (.Name x p)) (some n) (b₀ :: suite) pos :: rest) e cls (some l) m H Q := fun B s st i => by
  refine Mine.hideG fun GG back => ?_
  obtain ⟨base', a0, hO, hfl, ha⟩ := i
  obtain ⟨ob, ho, hcl⟩ := hfl.there
  refine back ?_
  clear back
  have key : wpAny (model k.c.prog k.c.w) (k.A.mark (some (.ref e))) (eval (.Name x p) k.env) (fun c s₁ => c = .type T ∧ s₁.TypeIs (.ref e) cls ∧ s₁ = s) (fun _ _ => False) s := by
    have hg' : s.heap.Ns k.env.globals k.c.mg := by rw [k.glob]; exact k.c.top.g.keeps st.base
    have hb' : s.heap.Ns k.env.builtins k.c.mb := by rw [k.blt]; exact k.c.top.b.keeps st.base
    rcases hg with e1 | ⟨e1, e2⟩
    · exact Name_function_global k.kind hx (loadGlobal_global (env := k.env) hg' e1 ⟨rfl, ⟨ob, ho, hcl⟩, rfl⟩) hd
    · exact Name_function_global k.kind hx (loadGlobal_builtin (env := k.env) hg' e1 hb' e2 ⟨rfl, ⟨ob, ho, hcl⟩, rfl⟩) hd
  refine wpAny_handleBy_builtin_as (b := true) hc.base (meta_plain (X := T) hc) hsub (wpAny_mono key (fun c s₁ q => ?_) fun _ _ q => q.elim)
  refine Mine.hideG fun GG back => ?_
  obtain ⟨rfl, hT, rfl⟩ := q
  refine back ?_
  clear back
  refine ⟨rfl, hT, ?_⟩
  rw [if_pos rfl]
  refine lands_againW hfl fun h3 hh3 hu3 => ?_
  have st3 := st.flown hO hfl.1 hh3.1 hu3 (tk := s₁.toks) st.tk
  refine Mine.hideG fun GG back => ?_
  obtain ⟨t, vs, cnt, rfl, hvs, ht, hbt, hbe, awT, awE⟩ := ha l rfl
  have ht3 := hh3.1 t _ ht
  obtain ⟨oe, evs, he3, hec, hed, he0⟩ := hh3.first
  refine back ?_
  clear back
  have hte : t ≠ e := fun q => by
    rw [q] at ht
    rw [hfl.2.1] at ht; cases ht
  have st4 := st3.adopt (a := t) (y := .tup l) ⟨_, ht3, vs, cnt, rfl, hvs⟩ awT.1 awT.2.1 awT.2.2 hbt
  have st5 := st4.adopt (a := e) (y := .exc cls (some t)) ⟨oe, he3, hcls, hec, evs, hed, fun t' q => by cases q; exact he0⟩ (by unfold upd; rw [if_neg (Ne.symm hte)]; exact awE.1) awE.2.1 awE.2.2 hbe
  have hst := W_store (k := markWk k e) (x := n) (v := .ref e) (Q := fun _ m' H' => m' = setL m n (.ref e) ∧ H' = upd (upd H t (.tup l)) e (.exc cls (some t))) (by unfold storable; rw [show (markWk k e).env.kindOf n = some .local from hn]) ⟨rfl, rfl⟩ B _ st5
  refine wpAny_mono hst (fun _ s2 q => ?_) fun _ _ q => q.elim
  refine Mine.hideG fun GG back => ?_
  obtain ⟨m', H', st6, rfl, rfl⟩ := q
  refine back ?_
  clear back
  refine wpAny_mono (h (markWk k e) t ⟨rfl, rfl, rfl, rfl⟩ awE.1 awT.1 hte B _ st6) (fun f s7 q => ?_) fun _ _ q => q.elim
  refine Mine.hideG fun GG back => ?_
  obtain ⟨m7, H7, st7', q⟩ := q
  have st7 : St k.c k.o k.env B m7 H7 s7 := st7'
  obtain ⟨mv, hns, hv⟩ := st7.var
  refine back ?_
  clear back
  refine wpAny_nameGoes_keeps hn hns (by rw [k.kind]; rfl) fun h8 v hns8 hs8 => ?_
  refine ⟨clr m7 n, H7, St.clr (tk := s7.toks + 1) st7 hn (fun mv' hmv' => ?_) hs8 (Nat.le_succ_of_le st7.tk), q⟩
  have e : mv' = mv := by
    funext y
    refine Mine.hideG fun GG back => ?_
    obtain ⟨ob', es', ep', ho', hd', _, hf'⟩ := hmv'
    obtain ⟨ob2, es2, ep2, ho2, hd2, _, hf2⟩ := hns
    refine back ?_
    clear back
    rw [ho2] at ho'; cases ho'
    rw [hd2] at hd'; cases hd'
    rw [← hf2, ← hf']
  rw [e]; exact ⟨v, hns8⟩
end
end Mine
namespace Mine
noncomputable def allOf (h : Heap) (skip : Addr → Bool) : List (Addr × Obj) := (List.range h.objs.size).filterMap fun a => if skip a then none else (h.get? a).map fun o => (a, o)
theorem mem_allOf {h : Heap} {skip : Addr → Bool} {p : Addr × Obj} : p ∈ allOf h skip ↔ skip p.1 = false ∧ h.get? p.1 = some p.2 := by
  unfold allOf
  rw [List.mem_filterMap]
  constructor
  · intro hg13_0
    refine Mine.hideG fun GG back => ?_
    obtain ⟨a, _, e⟩ := hg13_0
    refine back ?_
    clear back
    split at e
    · cases e
    · rename_i hs
      refine Mine.hideG fun GG back => ?_
      obtain ⟨o, ho, rfl⟩ := Option.map_eq_some_iff.mp e
      refine back ?_
      clear back
      exact ⟨(Bool.not_eq_true _).mp hs, ho⟩
  · intro hg19_0
    refine Mine.hideG fun GG back => ?_
    obtain ⟨h1, h2⟩ := hg19_0
    refine back ?_
    clear back
    exact ⟨p.1, List.mem_range.mpr (Heap.lt_size h2), by rw [if_neg (by rw [h1]; exact Bool.false_ne_true), h2]; rfl⟩
section
variable {c : Cx} {o : Out} {env : Env} {B : BMap} {m : Loc} {H : AHeap} {s : Shared}
noncomputable def skipOf (c : Cx) (L : Addr) (as : List Addr) (b : Addr) : Bool := (b == L) || as.contains b || (c.base.get? b).isSome
theorem news_all (st : St c o env B m H s) (as : List Addr) : News c.base env.locals s.heap (allOf s.heap (skipOf c env.locals as)) := fun p hp => by
  refine Mine.hideG fun GG back => ?_
  obtain ⟨h1, h2⟩ := mem_allOf.mp hp
  refine back ?_
  clear back
  unfold skipOf at h1
  rw [Bool.or_eq_false_iff, Bool.or_eq_false_iff] at h1
  exact ⟨h2, fun e => by rw [e] at h1; simp at h1, by
    cases q : c.base.get? p.1 with
    | none => rfl
    | some x => rw [q] at h1; exact absurd h1.2 (by simp)⟩
theorem kept_all {F : Fr c.base env.locals s.heap m₀} (st : St c o env B m H s) {as : List Addr} {h' : Heap} {mv : Str → Option Value} (F' : Fr c.base env.locals h' mv) {news : List (Addr × Obj)} (N' : News c.base env.locals h' news)
    (hsub : ∀ p ∈ allOf s.heap (skipOf c env.locals as), p ∈ news) : ∀ b ob, b ∉ as → b ≠ env.locals → s.heap.get? b = some ob → h'.get? b = some ob := fun b ob hb hL e => by
  cases q : c.base.get? b with
  | some x =>
    have := st.base b x q
    rw [e] at this; cases this
    exact F'.keep b ob q
  | none =>
    refine (N' (b, ob) (hsub _ (mem_allOf.mpr ⟨?_, e⟩))).1
    unfold skipOf
    simp [hL, hb, q]
theorem ns_uniq {h : Heap} {L : Addr} {m1 m2 : Str → Option Value} (h1 : h.Ns L m1) (h2 : h.Ns L m2) : m1 = m2 := by
  funext y
  refine Mine.hideG fun GG back => ?_
  obtain ⟨ob1, es1, ep1, ho1, hd1, _, hf1⟩ := h1
  obtain ⟨ob2, es2, ep2, ho2, hd2, _, hf2⟩ := h2
  refine back ?_
  clear back
  rw [ho1] at ho2; cases ho2
  rw [hd1] at hd2; cases hd2
  rw [← hf1, ← hf2]
theorem St.putF (st : St c o env B m H s) {a : Addr} {x y : AObj} {h' : Heap} {tk : Nat} (hx : H a = some x) (hk : ∀ b ob, b ≠ a → b ≠ env.locals → s.heap.get? b = some ob → h'.get? b = some ob)
    (hns : ∀ mv, s.heap.Ns env.locals mv → h'.Ns env.locals mv) (hy : ∃ ob, h'.get? a = some ob ∧ IsObj c ob y) (ht : 1 ≤ tk) : St c o env B m (upd H a y) { s with heap := h', toks := tk } := by
  have hB := st.disB a x hx
  have hbl := st.disBase a x hx
  have hb : c.base.get? a = none := none_ge hbl
  have hp : a ∉ places env := fun q => by rw [(st.pl a q).1] at hx; cases hx
  have hpL := st.pl env.locals List.mem_cons_self
  refine ⟨fun b ob e => hk b ob (fun q => by rw [q, hb] at e; cases e) (fun q => by rw [q, none_ge hpL.2.2] at e; cases e) (st.base b ob e), fun b ob l e => ?_, fun b z e => ?_, fun b z e => ?_, fun b z e => ?_, fun b q => ?_, st.nodup, fun b e => ?_, ?_, st.frames, st.gens, st.os, ht⟩
  · refine Mine.hideG fun GG back => ?_
    obtain ⟨sl, e1, e2⟩ := st.keep b ob l e
    refine back ?_
    clear back
    exact ⟨sl, hk b _ (fun q => by rw [q, hB] at e; cases e) (fun q => by rw [q, hpL.2.1] at e; cases e) e1, e2⟩
  · rcases upd_some e with ⟨rfl, rfl⟩ | ⟨ne, e⟩
    · exact hy
    · obtain ⟨ob, e1, e2⟩ := st.own b z e; exact ⟨ob, hk b ob ne (fun q => by rw [q, hpL.1] at e; cases e) e1, e2⟩
  · rcases upd_some e with ⟨rfl, rfl⟩ | ⟨ne, e⟩
    · exact hB
    · exact st.disB b z e
  · rcases upd_some e with ⟨rfl, rfl⟩ | ⟨ne, e⟩
    · exact hbl
    · exact st.disBase b z e
  · refine Mine.hideG fun GG back => ?_
    obtain ⟨e1, e2, e3⟩ := st.pl b q
    refine back ?_
    clear back
    exact ⟨by unfold upd; rw [if_neg (fun z => by subst z; exact hp q)]; exact e1, e2, e3⟩
  · refine Mine.hideG fun GG back => ?_
    obtain ⟨v, ob, e1, e2⟩ := st.cell b e
    refine back ?_
    clear back
    exact ⟨v, ob, hk b ob (fun q => hp (by subst q; exact List.mem_cons_of_mem _ e)) (fun q => (List.nodup_cons.mp st.nodup).1 (q ▸ e)) e1, e2⟩
  · refine Mine.hideG fun GG back => ?_
    obtain ⟨mv, hn, hv⟩ := st.var
    refine back ?_
    clear back
    refine ⟨mv, hns mv hn, fun x v e => ?_⟩
    have cellK : ∀ a z, env.cells.lookup x = some a → s.heap.IsCell a z → h'.IsCell a z := fun b z e ⟨ob, ho, hd⟩ =>
      have hm := List.mem_map_of_mem (f := (·.2)) (PySem.mem_of_lookup e)
      ⟨ob, hk b ob (fun q => hp (by rw [← q]; exact List.mem_cons_of_mem _ hm)) (fun q => (List.nodup_cons.mp st.nodup).1 (q ▸ hm)) ho, hd⟩
    have q := hv x v e
    split at q
    · exact q
    · obtain ⟨a, u, e1, e2, e3⟩ := q; exact ⟨a, u, e1, cellK a _ e1 e2, e3⟩
    · obtain ⟨a, u, e1, e2, e3⟩ := q; exact ⟨a, u, e1, cellK a _ e1 e2, e3⟩
    · exact q
end
structure ClsAt (c : Cx) (C : Addr) (fI : Addr) : Prop where
  makes : makesIn c.K C = true
  keep : keepIn c.K (.ref C) = true
  init : findIn c.K (.ref C) "__init__" = some (some (.ref fI))
  initFn : isFn c.K (.ref fI) = true
  setat : findIn c.K (.ref C) "__setattr__" = some (some (.builtin "object.__setattr__"))
  over : plainOver c.K C = true
  taker : takerIn c.K C "dict" = some none
  hasd : hasDictIn c.K C = true
  getd : plainGet c.K C "dict" = true
  findd : findIn c.K (.ref C) "dict" = some none
  noget : noGet c.K none = true
structure MethAt (c : Cx) (C : Addr) (name : Str) (f : Addr) : Prop where
  get : plainGet c.K C name = true
  find : findIn c.K (.ref C) name = some (some (.ref f))
  fn : isFn c.K (.ref f) = true
  keep : keepIn c.K (.ref f) = true
  other : (("dict" : Str) == name) = false
section
variable {k : Wk} {m : Loc} {H : AHeap}
theorem inst_at {B : BMap} {s : Shared} (st : St k.c k.o k.env B m H s) {x C dx : Addr} {v : V} (hx : H x = some (.inst C dx)) (hd : H dx = some (.attrs v)) :
    ∃ n t u, InstAt s.heap x (instObj C dx) C (some (dictOf [⟨PyData.keyHash k.c.w.params ("dict" : Str), .str ("dict" : Str) t, u⟩] n)) ∧ er u = v := by
  refine Mine.hideG fun GG back => ?_
  obtain ⟨ob, ho, rfl⟩ := st.own x _ hx
  obtain ⟨od, hod, n, t, u, rfl, e⟩ := st.own dx _ hd
  refine back ?_
  clear back
  exact ⟨n, t, u, ⟨ho, rfl, rfl, hod⟩, e⟩
theorem W_getDict {n : Str} {np pos : Pos} {x C dx fI : Addr} {v : V} {Q : V → Loc → AHeap → Prop} (hC : ClsAt k.c C fI) (hn : m n = some (.ref x)) (hx : H x = some (.inst C dx)) (hd : H dx = some (.attrs v)) (hv : ∀ i, v ≠ .bi i) (h : Q v m H)
    (hdb : (n == ("__debug__" : Str)) = false := by decide) (hcd : (n == ("__classdict__" : Str)) = false := by decide) : WV k (eval (.Attribute (.Name n np) ("dict" : Str) pos) k.env) m H Q := fun B s st =>
  Attribute_name (wpAny_mono (W_Name (Q := fun v m' H' => v = .ref x ∧ m' = m ∧ H' = H) hn ⟨rfl, rfl, rfl⟩ hdb hcd B s st) (fun ov s1 hx1 => by
    refine Mine.hideG fun GG back => ?_
    obtain ⟨m1, H1, st1, e1, e2, e3⟩ := hx1
    refine back ?_
    clear back
    subst e2; subst e3
    obtain rfl := er_ref e1
    refine Mine.hideG fun GG back => ?_
    obtain ⟨cnt, t, u, I, rfl⟩ := inst_at st1 hx hd
    obtain ⟨mv, F⟩ := st1.fr
    refine back ?_
    clear back
    refine get_own F k.c.inK I hC.getd hC.hasd hC.findd hC.noget (v := u) ?_ ?_ ⟨m1, H1, st1.toks _ (Nat.le_succ_of_le st1.tk), h⟩
    · unfold getL
      simp [Value.isStr]
    · cases u with
      | builtin i => exact absurd rfl (hv i)
      | _ => rfl) fun _ _ y => y)
theorem W_setDict {n : Str} {np pos' pos : Pos} {e : Expr} {Q : Flow → Loc → AHeap → Prop} {fI : Addr}
    (h : WV k (eval e k.env) m H fun v m1 H1 => ∃ x C dx, m1 n = some (.ref x) ∧ ClsAt k.c C fI ∧ H1 x = some (.inst C dx) ∧ (H1 dx = some .attrs0 ∨ ∃ u, H1 dx = some (.attrs u)) ∧ Q .next m1 (upd H1 dx (.attrs v)))
    (hs : swapsWith e (some (.Attribute (.Name n np) ("dict" : Str) pos')) pos.line k.env = pure false := by rfl) (hdb : (n == ("__debug__" : Str)) = false := by decide) (hcd : (n == ("__classdict__" : Str)) = false := by decide) :
    W k (exec (.Assign [.Attribute (.Name n np) ("dict" : Str) pos'] e pos) k.env) m H Q := fun B s st => by
  refine plainObj_wpAny_Assign_Attribute (wpAny_mono (h B s st) (fun v s1 q => ?_) fun _ _ y => y) hs
  refine Mine.hideG fun GG back => ?_
  obtain ⟨m1', H1', st1, x, C, dx, hn, hC, hx, hdx, q⟩ := q
  refine back ?_
  clear back
  refine wpAny_mono (W_Name (Q := fun v m' H' => v = .ref x ∧ m' = m1' ∧ H' = H1') hn ⟨rfl, rfl, rfl⟩ hdb hcd B s1 st1) (fun ov s2 q2 => ?_) fun _ _ y => y
  refine Mine.hideG fun GG back => ?_
  obtain ⟨m1, H1, st2, e1, rfl, rfl⟩ := q2
  refine back ?_
  clear back
  obtain rfl := er_ref e1
  refine Mine.hideG fun GG back => ?_
  obtain ⟨mv, F⟩ := st2.fr
  obtain ⟨ox, hox, rfl⟩ := st2.own x _ hx
  refine back ?_
  clear back
  have go : ∀ (es es' : List DictEntry) (cnt cnt' : Nat) (z : AObj), H1 dx = some z → s2.heap.get? dx = some (dictOf es cnt) → (getL ("dict" : Str) es).isSome = true →
      (putL ("dict" : Str) (PyData.keyHash k.c.w.params ("dict" : Str)) (.str ("dict" : Str) (s2.toks + 1)) v es, putN ("dict" : Str) es cnt) = (es', cnt') → es'.length ≤ 1000 → IsObj k.c (dictOf es' cnt') (.attrs (er v)) →
      wpAny (model k.c.prog k.c.w) k.A (setAttr (.ref x) ("dict" : Str) v) (fun _ s' => ∃ m' H', St k.c k.o k.env B m' H' s' ∧ Q .next m' H') k.E s2 := by
    intro es es' cnt cnt' z hz hd hl hp hlen hI
    have N0 := news_all st2 [dx]
    have hdL : dx ≠ k.env.locals := fun q => by rw [q, (st2.pl k.env.locals List.mem_cons_self).1] at hz; cases hz
    have hdb' : k.c.base.get? dx = none := none_ge (st2.disBase dx z hz)
    have N : News k.c.base k.env.locals s2.heap ((dx, dictOf es cnt) :: allOf s2.heap (skipOf k.c k.env.locals [dx])) := fun p hp => by
      rcases List.mem_cons.mp hp with rfl | hp
      · exact ⟨hd, hdL, hdb'⟩
      · exact N0 p hp
    have hne : ∀ p ∈ allOf s2.heap (skipOf k.c k.env.locals [dx]), p.1 ≠ dx := fun p hp q => by
      have := (mem_allOf.mp hp).1
      unfold skipOf at this
      rw [q] at this
      simp at this
    refine set_dict F k.c.inK N (ox := instObj C dx) ⟨hox, rfl, rfl, hd⟩ rfl hC.setat hC.over hC.taker hC.hasd hl hp (.head hne) hlen fun h' F' N' => ?_
    have hkeep : ∀ b ob, b ≠ dx → b ≠ k.env.locals → s2.heap.get? b = some ob → h'.get? b = some ob := fun b ob hb hL e =>
      kept_all (F := F) st2 F' N' (as := [dx]) (fun p hp => List.mem_cons_of_mem _ hp) b ob (by simpa using hb) hL e
    refine ⟨m1, _, st2.putF hz hkeep (fun mv' hmv' => ?_) ⟨_, (N' _ List.mem_cons_self).1, hI⟩ (by have := st2.tk; lia), q⟩
    rw [ns_uniq hmv' F.ns]; exact F'.ns
  rcases hdx with hdx | ⟨u, hdx⟩
  · refine Mine.hideG fun GG back => ?_
    obtain ⟨od, hod, rfl⟩ := st2.own dx _ hdx
    refine back ?_
    clear back
    refine go [] _ 0 _ _ hdx hod rfl rfl (by simp [putL]) ⟨_, _, _, rfl, rfl⟩
  · refine Mine.hideG fun GG back => ?_
    obtain ⟨od, hod, cnt, t, u', rfl, rfl⟩ := st2.own dx _ hdx
    refine back ?_
    clear back
    have hstr : Value.isStr (.str ("dict" : Str) t) ("dict" : Str) = true := by simp [Value.isStr]
    refine go _ [⟨PyData.keyHash k.c.w.params ("dict" : Str), .str ("dict" : Str) t, v⟩] cnt _ _ hdx hod ?_ (by unfold putL; simp only [hstr, if_true]; rfl) (by simp) ⟨_, t, v, rfl, rfl⟩
    unfold getL
    simp [Value.isStr]
theorem W_NewCls {x : Str} {p pos : Pos} {C fI : Addr} {Q : V → Loc → AHeap → Prop} (hC : ClsAt k.c C fI) (hg : Gl k.c x (.ref C)) (hx : k.env.kindOf x = some .globalImplicit)
    (h : ∀ a dx, H a = none → H dx = none → a ≠ dx → Fn k.c (k.A.under (.builtin "type.__call__" ⟨[.ref C], []⟩)) (.ref fI) ⟨[.ref a], []⟩ (upd (upd H dx .attrs0) a (.inst C dx)) (fun v H' => v = .none ∧ Q (.ref a) m H') NoX)
    (hd : (x == ("__debug__" : Str)) = false := by decide) : WV k (eval (.Call (.Name x p) [] [] pos) k.env) m H Q := fun B s st =>
  wpAny_Call_NameR (wpAny_mono (W_NameG (Q := fun v m' H' => v = .ref C ∧ m' = m ∧ H' = H) hg hx ⟨rfl, rfl, rfl⟩ hd B s st) (fun g s1 hx1 => by
    refine Mine.hideG fun GG back => ?_
    obtain ⟨m1, H1, st1, e1, e2, e3⟩ := hx1
    refine back ?_
    clear back
    subst e2; subst e3
    obtain rfl := er_ref e1
    have X : k.c.K.In s1.heap := k.c.inK.keeps st1.base
    refine callWith_K0 X hC.keep (wpAny_call ?_)
    refine Mine.hideG fun GG back => ?_
    obtain ⟨hh, gg, dd, tt, os⟩ := s1
    refine back ?_
    clear back
    refine make_core (rest := []) (kw := []) (makes_of X hC.makes) (looks_findIn X hC.init) (fun self => bind_fn X self (beq_iff_eq.mp hC.initFn)) (.inl rfl) ?_
    have hsz : (hh.push emptyDict).objs.size = hh.objs.size + 1 := Heap.size_push ..
    have f1 := st1.fresh (st1.none_at (Nat.le_refl hh.objs.size))
    have st2 := st1.new (tk := tt) (y := .attrs0) (h' := hh.push emptyDict) (Nat.le_refl hh.objs.size) (fun b ob e => Heap.get?_push_of_some _ e) ⟨_, Heap.get?_push_size _ rfl, rfl⟩ st1.tk
    have f2 := st1.fresh (st1.none_at (Nat.le_succ hh.objs.size))
    have st3 := st2.new (tk := tt) (y := .inst C hh.objs.size) (a := hh.objs.size + 1) (h' := (hh.push emptyDict).push (instObj C hh.objs.size)) (by rw [← hsz]; exact Nat.le_refl _) (fun b ob e => Heap.get?_push_of_some _ e) ⟨_, by rw [← hsz]; exact Heap.get?_push_size _ rfl, rfl⟩ st1.tk
    refine codeAny_mono (h (hh.objs.size + 1) hh.objs.size f2.1 f1.1 (Nat.succ_ne_self _) k.o k.env B m1 _ k.kind k.frames st3) fun r s' q => ?_
    rcases r with e | (v | _ | _ | _)
    · obtain ⟨_, _, _, _, _, _, _, q⟩ := q; exact q.elim
    · exact q.elim
    · exact q.elim
    · exact q.elim
    · refine Mine.hideG fun GG back => ?_
      obtain ⟨H', st', e, q⟩ := q
      refine back ?_
      clear back
      exact ⟨er_none e, m1, H', st', q⟩) fun _ _ y => y)
theorem W_CallMeth {o : Expr} {name : Str} {apos pos : Pos} {args : List Expr} {C f : Addr} {fd : FuncData} {body : List Stmt} {pl : Sem Bool} {Q : V → Loc → AHeap → Prop} (hM : MethAt k.c C name f) (hF : FnAt k.c f fd body)
    (h : WV k (eval o k.env) m H fun ov m1 H1 => ∃ x dx v, ov = .ref x ∧ H1 x = some (.inst C dx) ∧ H1 dx = some (.attrs v) ∧ WItems k args m1 H1 fun vs m2 H2 => FnV k.c k.A f (.ref x :: vs) [] H2 (fun r H' => Q r m2 H') fun a b H' => k.X a b m2 H')
    (he : eval (.Call (.Attribute o name apos) args [] pos) k.env = (do
      let ov ← eval o k.env
      standAt apos.atName
      let (f, first) ← holding [ov] (getMethod ov name pl)
      callWith pos f first (backTo pos (starEach args k.env)) (backToKw pos (keywordEach [] k.env))) := by rfl)
    (hp : (starEach args k.env).any (·.1) = false := by rfl) : WV k (eval (.Call (.Attribute o name apos) args [] pos) k.env) m H Q := fun B s st => by
  rw [he]
  refine wpAny_bind (wpAny_mono (h B s st) (fun ov s1 q => wpAny_bind (wpAny_standAt (wpAny_bind (wpAny_holding ?_)))) fun _ _ y => y)
  refine Mine.hideG fun GG back => ?_
  obtain ⟨m1, H1, st1, x, dx, v, e, hx, hdx, q⟩ := q
  refine back ?_
  clear back
  obtain rfl := er_ref e
  refine Mine.hideG fun GG back => ?_
  obtain ⟨cnt, t, u, I, rfl⟩ := inst_at st1 hx hdx
  obtain ⟨mv, F⟩ := st1.fr
  refine back ?_
  clear back
  refine method_inst F k.c.inK I hM.get hM.find hM.fn ?_ ?_
  · unfold getL
    have hs : Value.isStr (.str ("dict" : Str) t) name = false := by
      show (("dict" : Str) == name) = false
      exact hM.other
    simp [hs, DictEntry.refKey]
  · refine Mine.hideG fun GG back => ?_
    obtain ⟨fo, hfo, hfd⟩ := hF.obj
    refine back ?_
    clear back
    refine Calls.callWith_function (o := fo) (fd := fd) (wpAny_mono (evalArgs_of (f := .ref f) (pos := pos) hp q B s1 st1) (fun a s2 ⟨m2, H2, st2, e, q⟩ => ?_) fun _ _ y => y)
    rw [e]
    exact ⟨⟨st2.base f fo hfo, hfd⟩, W_callF (q (.ref x :: a.pos) [] rfl rfl) B s2 st2⟩
end
end Mine
namespace Mine
mutual
noncomputable def Rd (H : AHeap) : PyData → V → Prop
  | .none, v => v = .none
  | .int i, v => v = .int i
  | .str x, v => ∃ t, v = .str x t
  | .list ds, v => ∃ a vs, v = .ref a ∧ H a = some (.list vs) ∧ RdAll H ds vs
  | .tuple ds, v => ∃ a vs, v = .ref a ∧ H a = some (.tup vs) ∧ RdAll H ds vs
  | _, _ => False
noncomputable def RdAll (H : AHeap) : List PyData → List V → Prop
  | [], vs => vs = []
  | d :: ds, vs => ∃ v r, vs = v :: r ∧ Rd H d v ∧ RdAll H ds r
end
mutual
theorem Rd.ext {H H' : AHeap} (h : Ext H H') : ∀ (d : PyData) (v : V), Rd H d v → Rd H' d v
  | .none, v, r => r
  | .bool _, v, r => r
  | .int i, v, r => r
  | .str x, v, r => r
  | .list ds, v, ⟨a, vs, e, ha, r⟩ => ⟨a, vs, e, h a _ ha, RdAll.ext h ds vs r⟩
  | .tuple ds, v, ⟨a, vs, e, ha, r⟩ => ⟨a, vs, e, h a _ ha, RdAll.ext h ds vs r⟩
  | .dict _, v, r => r
theorem RdAll.ext {H H' : AHeap} (h : Ext H H') : ∀ (ds : List PyData) (vs : List V), RdAll H ds vs → RdAll H' ds vs
  | [], vs, r => r
  | d :: ds, vs, ⟨v, r, e, h1, h2⟩ => ⟨v, r, e, Rd.ext h d v h1, RdAll.ext h ds r h2⟩
end
mutual
theorem Rd.reads {c : Cx} {H : AHeap} {s : Shared} (o : Own c H s) : ∀ (d : PyData) (v : Value), Rd H d (er v) → ∃ as, Reads s.heap v d as
  | .none, v, r => by obtain rfl := er_none r; exact ⟨_, .none⟩
  | .bool _, v, r => r.elim
  | .int i, v, r => by obtain ⟨t, rfl⟩ := er_int r; exact ⟨_, .int i t⟩
  | .str x, v, ⟨t, r⟩ => by obtain rfl := er_str r; exact ⟨_, .str x t⟩
  | .list ds, v, ⟨a, vs, e, ha, r⟩ => by
    obtain rfl := er_ref e
    refine Mine.hideG fun GG back => ?_
    obtain ⟨_, ob, ho, us, n, rfl, e'⟩ := o.1.1 a _ ha
    obtain ⟨as, h⟩ := RdAll.reads o ds us (by rw [e']; exact r)
    refine back ?_
    clear back
    exact ⟨_, .list ho rfl rfl (by simpa using h)⟩
  | .tuple ds, v, ⟨a, vs, e, ha, r⟩ => by
    obtain rfl := er_ref e
    refine Mine.hideG fun GG back => ?_
    obtain ⟨_, ob, ho, us, n, rfl, e'⟩ := o.1.1 a _ ha
    obtain ⟨as, h⟩ := RdAll.reads o ds us (by rw [e']; exact r)
    refine back ?_
    clear back
    exact ⟨_, .tuple ho rfl rfl (by simpa using h)⟩
  | .dict _, v, r => r.elim
theorem RdAll.reads {c : Cx} {H : AHeap} {s : Shared} (o : Own c H s) : ∀ (ds : List PyData) (vs : List Value), RdAll H ds (vs.map er) → ∃ as, ReadsAll s.heap vs ds as
  | [], vs, r => by
    have r : vs.map er = [] := r
    have : vs = [] := by simpa using r
    subst this
    exact ⟨_, .nil⟩
  | d :: ds, vs, ⟨v, r, e, h1, h2⟩ => by
    match vs, e with
    | u :: us, e =>
      simp only [List.map_cons, List.cons.injEq] at e
      refine Mine.hideG fun GG back => ?_
      obtain ⟨rfl, rfl⟩ := e
      obtain ⟨as, h1⟩ := Rd.reads o d u h1
      obtain ⟨bs, h2⟩ := RdAll.reads o ds us h2
      refine back ?_
      clear back
      exact ⟨_, .cons h1 h2⟩
end
-- data whose eqv is equality
mutual
noncomputable def good : PyData → Bool
  | .none => true
  | .int _ => true
  | .str x => PyData.strOk x
  | .list ds => goodAll ds
  | .tuple ds => goodAll ds
  | _ => false
noncomputable def goodAll : List PyData → Bool
  | [] => true
  | d :: ds => good d && goodAll ds
end
mutual
theorem eqv_good : ∀ (a b : PyData), good a = true → good b = true → (PyData.eqv a b = true ↔ a = b)
  | .none, b, ha, hb => by cases b <;> first | (cases hb; done) | simp [PyData.eqv]
  | .int i, b, ha, hb => by cases b <;> first | (cases hb; done) | simp [PyData.eqv]
  | .str x, b, ha, hb => by cases b <;> first | (cases hb; done) | simp [PyData.eqv]
  | .list xs, b, ha, hb => by
    cases b with
    | list ys =>
      replace ha : goodAll xs = true := ha
      replace hb : goodAll ys = true := hb
      simp only [PyData.eqv, PyData.list.injEq]
      exact eqvAll_good xs ys ha hb
    | _ => first | (cases hb; done) | simp [PyData.eqv]
  | .tuple xs, b, ha, hb => by
    cases b with
    | tuple ys =>
      replace ha : goodAll xs = true := ha
      replace hb : goodAll ys = true := hb
      simp only [PyData.eqv, PyData.tuple.injEq]
      exact eqvAll_good xs ys ha hb
    | _ => first | (cases hb; done) | simp [PyData.eqv]
  | .bool _, b, ha, hb => by cases ha
  | .dict _, b, ha, hb => by cases ha
theorem eqvAll_good : ∀ (xs ys : List PyData), goodAll xs = true → goodAll ys = true → (PyData.eqvAll xs ys = true ↔ xs = ys)
  | [], [], _, _ => by simp [PyData.eqvAll]
  | [], _ :: _, _, _ => by simp [PyData.eqvAll]
  | _ :: _, [], _, _ => by simp [PyData.eqvAll]
  | x :: xs, y :: ys, ha, hb => by
    replace ha := Bool.and_eq_true_iff.mp (show (good x && goodAll xs) = true from ha)
    replace hb := Bool.and_eq_true_iff.mp (show (good y && goodAll ys) = true from hb)
    simp only [PyData.eqvAll, Bool.and_eq_true, List.cons.injEq]
    exact and_congr (eqv_good x y ha.1 hb.1) (eqvAll_good xs ys ha.2 hb.2)
end
mutual
theorem canLay_good : ∀ (a : PyData), good a = true → a.canLay0 = true
  | .none, h => by simp [PyData.canLay0]
  | .int i, h => by simp [PyData.canLay0]
  | .str x, h => by simpa [PyData.canLay0] using (show PyData.strOk x = true from h)
  | .list xs, h => by
    replace h : goodAll xs = true := h
    simp only [PyData.canLay0]
    exact canLayAll_good xs h
  | .tuple xs, h => by
    replace h : goodAll xs = true := h
    simp only [PyData.canLay0]
    exact canLayAll_good xs h
  | .bool _, h => by cases h
  | .dict _, h => by cases h
theorem canLayAll_good : ∀ (xs : List PyData), goodAll xs = true → PyData.canLayAll0 xs = true
  | [], h => by simp [PyData.canLayAll0]
  | x :: xs, h => by
    replace h := Bool.and_eq_true_iff.mp (show (good x && goodAll xs) = true from h)
    simp only [PyData.canLayAll0, Bool.and_eq_true]
    exact ⟨canLay_good x h.1, canLayAll_good xs h.2⟩
end
section
variable {k : Wk} {m : Loc} {H : AHeap}
theorem WCmp_eqD {a b : V} {da db : PyData} {r : Bool} {Q : V → Loc → AHeap → Prop} (ha : Rd H da a) (hb : Rd H db b) (ga : good da = true) (gb : good db = true) (dp : min da.depth db.depth ≤ 64) (hu : k.A.units + 64 < cLine) (hr : r = true ↔ da = db) (h : Q (.bool r) m H) : WCmp k .Eq a b m H Q := fun x y hx hy => by
  subst hx; subst hy
  refine W.of_wp fun B s st P hp => ?_
  refine Mine.hideG fun GG back => ?_
  obtain ⟨as, ra⟩ := Rd.reads st.owned da x ha
  obtain ⟨bs, rb⟩ := Rd.reads st.owned db y hb
  refine back ?_
  clear back
  have e : PyData.eqv da db = r := by
    rw [Bool.eq_iff_iff, eqv_good da db ga gb, hr]
  exact SeqAt.compareEq_reads ra rb (canLay_good da ga) (canLay_good db gb) (by lia) (e ▸ hp (.bool r) s.toks h)
theorem WCmp_neD {a b : V} {da db : PyData} {r : Bool} {Q : V → Loc → AHeap → Prop} (ha : Rd H da a) (hb : Rd H db b) (ga : good da = true) (gb : good db = true) (dp : min da.depth db.depth ≤ 64) (hu : k.A.units + 64 < cLine) (hr : r = true ↔ da ≠ db) (h : Q (.bool r) m H) : WCmp k .NotEq a b m H Q := fun x y hx hy => by
  subst hx; subst hy
  refine W.of_wp fun B s st P hp => ?_
  refine Mine.hideG fun GG back => ?_
  obtain ⟨as, ra⟩ := Rd.reads st.owned da x ha
  obtain ⟨bs, rb⟩ := Rd.reads st.owned db y hb
  refine back ?_
  clear back
  have e : (!PyData.eqv da db) = r := by
    rw [Bool.eq_iff_iff, hr, Bool.not_eq_true', Bool.eq_false_iff, ne_eq, eqv_good da db ga gb]
  exact SeqAt.compareNe_reads ra rb (canLay_good da ga) (canLay_good db gb) (by lia) (e ▸ hp (.bool r) s.toks h)
theorem WTr_list {a : Addr} {xs : List V} {Q : Bool → Loc → AHeap → Prop} (ha : H a = some (.list xs)) (hz : xs.length < 2 ^ 63) (h : Q (!xs.isEmpty) m H) : WTr k (.ref a) m H Q := fun x hx => by
  obtain rfl := er_ref hx
  refine W.of_wp fun B s st P hp => ?_
  refine Mine.hideG fun GG back => ?_
  obtain ⟨vs, n, hl, rfl⟩ := st.listAt ha
  refine back ?_
  clear back
  rw [List.length_map] at hz
  refine wpAny_truthy_list hl.isList (by simp; lia) ?_
  have e : (!(vs.toArray).isEmpty) = !(vs.map er).isEmpty := by cases vs <;> rfl
  rw [e]; exact hp _ _ h
noncomputable def eqKV : V → V → Bool
  | .int i, .int j => i == j
  | .str x _, .str y _ => x == y
  | _, _ => false
noncomputable def simpleV : V → Bool
  | .int _ => true
  | .str _ _ => true
  | _ => false
theorem simple_cases {v : Value} (h : simpleV (er v) = true) : (∃ i t, v = .int i t) ∨ ∃ x t, v = .str x t := by
  cases v <;> first | exact .inl ⟨_, _, rfl⟩ | exact .inr ⟨_, _, rfl⟩ | cases h
theorem eqGives_simple {y x : Value} (hy : simpleV (er y) = true) (hx : simpleV (er x) = true) : MeetsSeq.EqGives y x (eqKV (er y) (er x)) := fun prog w A E s Q h => by
  have ki : ∀ {i : Int} {t}, isKey (.inl i) (.int i t) = true := fun {i t} => isKey_er.trans (beq_self_eq_true i)
  have ks : ∀ {x : Str} {t}, isKey (.inr x) (.str x t) = true := fun {x t} => isKey_er.trans (beq_self_eq_true x)
  rcases simple_cases hy with ⟨j, u, rfl⟩ | ⟨j, u, rfl⟩ <;> rcases simple_cases hx with ⟨i, t, rfl⟩ | ⟨i, t, rfl⟩
  · refine eqBool_key ki ki ?_
    rw [show decide ((Sum.inl j : Key) = Sum.inl i) = (j == i) by rw [Bool.eq_iff_iff]; simp]; exact h
  · exact eqBool_key ki ks h
  · exact eqBool_key ks ki h
  · refine eqBool_key ks ks ?_
    rw [show decide ((Sum.inr j : Key) = Sum.inr i) = (j == i) by rw [Bool.eq_iff_iff]; simp]; exact h
theorem WCmp_inTup {x : V} {a : Addr} {xs : List V} {Q : V → Loc → AHeap → Prop} (ha : H a = some (.tup xs)) (hs : ∀ v ∈ xs, simpleV v = true) (hx : simpleV x = true) (h : Q (.bool (xs.any fun v => eqKV v x)) m H) : WCmp k .In x (.ref a) m H Q := fun u y hu hy => by
  subst hu
  obtain rfl := er_ref hy
  refine W.of_wp fun B s st P hp => ?_
  refine Mine.hideG fun GG back => ?_
  obtain ⟨vs, n, hl, rfl⟩ := st.tupAt ha
  refine back ?_
  clear back
  refine SeqRoads2.in_tuple (items := (vs : List Value).toArray) (n := n) (fun v => eqKV (er v) (er u)) (fun v hv => eqGives_simple (hs _ (List.mem_map_of_mem (f := er) (by simpa using hv))) hx) hl ?_
  have e : (vs.toArray.any fun v => eqKV (er v) (er u)) = (vs.map er).any fun v => eqKV v (er u) := by
    rw [List.any_map, ← Array.any_toList]; rfl
  rw [e]; exact hp _ s.toks h
end
end Mine
namespace Mine
theorem excAttr_KeyError : ExcAttrFacts "KeyError" where
  ga := .of (owner := "BaseException") (n := "__getattribute__") (by rw [typeLookup_type, builtinLookup_eq_fast]; kernel_rfl) (by decide +kernel) (by decide +kernel) (by decide +kernel)
    (by first | exact .inl (by decide +kernel) | exact .inr (by decide +kernel)) (by rw [isSubtype_type]; kernel_rfl)
  lkArgs := by rw [typeLookup_type, builtinLookup_eq_fast]; kernel_rfl
  sub := by rw [isSubtype_type]; kernel_rfl
theorem sub_key_key : isSubtype (.type "KeyError") (.type "KeyError") = pure true := by rw [isSubtype_type]; kernel_rfl
section
variable {k : Wk} {m : Loc} {H : AHeap}
theorem not_interactive (k : Wk) : interactive k.env = false := by unfold interactive; rw [k.kind]; rfl
theorem W_ExprStmt {e : Expr} {pos : Pos} {Q : Flow → Loc → AHeap → Prop} (h : WV k (eval e k.env) m H fun _ m1 H1 => Q .next m1 H1)
    (hs : swapsWith e none pos.line k.env = pure false := by rfl) : W k (exec (.Expr e pos) k.env) m H Q := W_Expr h (not_interactive k) hs
theorem W_getArgs {n : Str} {np pos : Pos} {e t : Addr} {cls : String} {Q : V → Loc → AHeap → Prop} (FX : ExcAttrFacts cls) (hn : m n = some (.ref e)) (he : H e = some (.exc cls (some t))) (h : Q (.ref t) m H)
    (hdb : (n == ("__debug__" : Str)) = false := by decide) (hcd : (n == ("__classdict__" : Str)) = false := by decide) : WV k (eval (.Attribute (.Name n np) ("args" : Str) pos) k.env) m H Q := fun B s st =>
  Attribute_name (wpAny_mono (W_Name (Q := fun v m' H' => v = .ref e ∧ m' = m ∧ H' = H) hn ⟨rfl, rfl, rfl⟩ hdb hcd B s st) (fun ov s1 hx1 => by
    refine Mine.hideG fun GG back => ?_
    obtain ⟨m1, H1, st1, e1, e2, e3⟩ := hx1
    refine back ?_
    clear back
    subst e2; subst e3
    obtain rfl := er_ref e1
    obtain ⟨ob, ho, _, hc, vs, hd, ha⟩ := st1.own e _ he
    obtain ⟨hh, g, d, tt, os⟩ := s1
    exact args_attr FX ho hc hd (ha t rfl) ⟨m1, H1, st1.toks _ (Nat.le_succ_of_le st1.tk), h⟩) fun _ _ y => y)
noncomputable def WPairs (k : Wk) : List (Option Expr) → List Expr → Loc → AHeap → (List (V × V) → Loc → AHeap → Prop) → Prop
  | [], [], m, H, Q => Q [] m H
  | some ke :: ks, ve :: vs, m, H, Q => WV k (eval ke k.env) m H fun kv m1 H1 => WV k (eval ve k.env) m1 H1 fun vv m2 H2 => WPairs k ks vs m2 H2 fun ps => Q ((kv, vv) :: ps)
  | _, _, _, _, _ => False
noncomputable def Carr : List (V × V) → List (Key × V) → Prop
  | [], [] => True
  | (kv, v) :: ps, (key, v') :: kvs => isKV key kv = true ∧ v = v' ∧ Carr ps kvs
  | _, _ => False
theorem WPairs_run : ∀ (ks : List (Option Expr)) (vs : List Expr) (pos : Pos) (m : Loc) (H : AHeap) (Q : List (V × V) → Loc → AHeap → Prop), WPairs k ks vs m H Q →
    W k (evalPairs (pairTrees ks vs k.env pos)) m H fun ps m1 H1 => Q (ps.map fun p => (er p.1, er p.2)) m1 H1
  | [], [], pos, m, H, Q, h => fun B s st => pairTrees_nil_walk ⟨m, H, st, h⟩
  | some ke :: ks, ve :: vs, pos, m, H, Q, h => fun B s st =>
    pairTrees_cons_walk (wpAny_mono (h B s st) (fun kv s1 ⟨m1, H1, st1, q1⟩ => wpAny_mono (q1 B s1 st1) (fun vv s2 ⟨m2, H2, st2, q2⟩ => wpAny_mono (WPairs_run ks vs pos m2 H2 _ q2 B s2 st2) (fun ps s3 ⟨m3, H3, st3, q3⟩ => ⟨m3, H3, st3, q3⟩) fun _ _ x => x) fun _ _ x => x) fun _ _ x => x)
  | [], _ :: _, _, _, _, _, h => h.elim
  | none :: _, _, _, _, _, _, h => by cases ‹List Expr› <;> exact h.elim
  | some _ :: _, [], _, _, _, _, h => h.elim
noncomputable def putAll (kvs : List (Key × V)) (more : List (Key × V)) : List (Key × V) := more.foldl (fun acc kv => putK acc kv.1 kv.2) kvs
theorem nodup_stored {K : Type} [DecidableEq K] {kvs : List (K × Value)} (h : (kvs.map (·.1)).Nodup) (k : K) (v : Value) : ((stored kvs k v).map (·.1)).Nodup := by
  unfold stored
  by_cases ha : (kvs.any fun kv => decide (kv.1 = k)) = true
  · rw [if_pos ha, keys_map_store]; exact h
  · rw [if_neg ha, List.map_append, List.nodup_append]
    refine ⟨h, by simp, ?_⟩
    intro a ha' b hb
    simp only [List.map_cons, List.map_nil, List.mem_singleton] at hb
    subst hb
    intro e
    subst e
    obtain ⟨kv, hkv, e⟩ := List.mem_map.mp ha'
    exact ha (List.any_eq_true.mpr ⟨kv, hkv, by simpa using e⟩)
theorem merged_er : ∀ (more kvs : List (Key × Value)), (kvs.map (·.1)).Nodup → (merged kvs more).map erP = putAll (kvs.map erP) (more.map erP)
  | [], kvs, h => rfl
  | (k', v) :: r, kvs, h => by
    have e := merged_er r (stored kvs k' v) (nodup_stored h k' v)
    rw [putK_er h] at e
    exact e
theorem W_Dict {keys : List (Option Expr)} {values : List Expr} {pos : Pos} {Q : V → Loc → AHeap → Prop}
    (h : WPairs k keys values m H fun ps m1 H1 => ∃ kvs, Carr ps kvs ∧ ∀ a ep, H1 a = none → Q (.ref a) m1 (upd H1 a (.dict (putAll [] kvs) ep)))
    (hall : keys.all (·.isSome) = true := by rfl) (hl : keys.length = values.length := by rfl) (h0 : keys ≠ [] := by simp) (hlen : keys.length ≤ 15 := by decide) : WV k (eval (.Dict keys values pos) k.env) m H Q := fun B s st => by
  obtain ⟨f1, f2, f3, f4⟩ := st.fresh (st.none_at (Nat.le_refl s.heap.objs.size))
  obtain ⟨h1, h2, st2⟩ := hide_new st { cls := .type "dict", data := .dict #[] } rfl
  have hext : k.o.ext s.heap.objs.size = none := by
    cases e : k.o.ext s.heap.objs.size with
    | none => rfl
    | some y => have := st.frames.2 _ y e; rw [f2] at this; cases this
  refine wpAny_Dict_walk (knd := mix k.c.prog k.c.w) hall hl h0 hlen (wpAny_mono (WPairs_run keys values pos m H _ h _ _ st2) (fun ps s3 q => ?_) fun _ _ x => x)
  obtain ⟨m3, H3, st3, kvs, hc, q⟩ := q
  have hD := hid_at st3
  have carries : ∀ (ps : List (Value × Value)) (kvs : List (Key × V)), Carr (ps.map fun p => (er p.1, er p.2)) kvs → ∃ rk, Carries (mix k.c.prog k.c.w) ps rk ∧ rk.map erP = kvs := by
    intro ps
    induction ps with
    | nil => intro kvs hc; cases kvs with
      | nil => exact ⟨[], trivial, rfl⟩
      | cons _ _ => exact hc.elim
    | cons p r ih =>
      obtain ⟨kv, v⟩ := p
      intro kvs hc
      cases kvs with
      | nil => exact hc.elim
      | cons q kvs =>
        obtain ⟨key, v'⟩ := q
        obtain ⟨g1, g2, g3⟩ := hc
        obtain ⟨rk, h1, h2⟩ := ih kvs g3
        have g2 : er v = v' := g2
        exact ⟨(key, v) :: rk, ⟨by show isKey key kv = true; rw [isKey_er]; exact g1, rfl, h1⟩, by rw [List.map_cons, h2]; simp [erP, g2]⟩
  obtain ⟨rk, hcr, rfl⟩ := carries ps kvs hc
  refine ⟨rk, hcr, ⟨_, #[], 0, hD, ⟨rfl, rfl, rfl⟩, rfl, (fun _ he => by simp at he), Pairs.nil, List.nodup_nil⟩, fun h' hm' hsb => ?_⟩
  obtain ⟨ep, hat⟩ := hm'.dictAt
  obtain ⟨ob, ho, hI⟩ := of_dictAt hat
  have hHD : H3 s.heap.objs.size = none := by
    cases e : H3 s.heap.objs.size with
    | none => rfl
    | some y => have := st3.disB _ y e; rw [upd_same] at this; cases this
  have st4 := St.but' h1 hext h2 st3 (tk := s3.toks + ps.length) hsb.extBut (by have := st3.tk; lia)
  have st5 := st4.adopt (a := s.heap.objs.size) (y := .dict (putAll [] (rk.map erP)) ep) ⟨ob, ho, by rw [merged_er rk [] List.nodup_nil] at hI; exact hI⟩ hHD f2 f4 h2
  exact ⟨m3, _, st5, q _ ep hHD⟩
end
end Mine
namespace Mine
noncomputable def fnBody : Stmt → List Stmt
  | .FunctionDef _ _ body _ _ _ _ _ _ _ => body
  | .ClassDef _ _ _ body _ _ _ _ _ _ _ => body
  | .While _ b _ _ => b
  | .For _ _ b _ _ => b
  | .If _ b _ _ => b
  | _ => []
noncomputable def fnParams : Stmt → Arguments
  | .FunctionDef _ a _ _ _ _ _ _ _ _ => a
  | _ => default
noncomputable def fnScope : Stmt → Scope
  | .FunctionDef _ _ _ _ _ _ sc _ _ _ => sc
  | _ => default
noncomputable def stm (l : List Stmt) (i : Nat) : Stmt := l.getD i (.Pass default)
noncomputable def RQ (P : V → AHeap → Prop) : Flow → Loc → AHeap → Prop := fun fl _ H => P (flowV fl) H
structure Room (A : Around) : Prop where
  depth : A.depth ≤ 600
  units : A.units ≤ 2000
  handled : A.handled = none
structure DefAt (c : Cx) (f : Addr) (st : Stmt) : Prop where
  at_ : ∃ fd, FnAt c f fd (fnBody st) ∧ fd.scope = fnScope st ∧ fd.params = fnParams st ∧ fd.defaults = .none ∧ fd.kwdefaults = .none
structure InFn (c : Cx) (A : Around) (st : Stmt) (X : String → Option (List V) → AHeap → Prop) (k : Wk) : Prop where
  c : k.c = c
  sv : SEnv k (fnScope st) (cellNames (fnScope st).names)
  frame : k.env.frame = some k.env.locals
  depth : k.A.depth = A.depth + 1
  units : k.A.units = A.units + 3
  handled : k.A.handled = A.handled
  X : k.X = fun cls xs _ H => X cls xs H
  here : k.here
theorem FnV.top {c : Cx} {A : Around} {f : Addr} {st : Stmt} {vs : List V} {H : AHeap} {Q : V → AHeap → Prop} {X : String → Option (List V) → AHeap → Prop} (F : DefAt c f st) (hA : Room A) (names : List Str) (hl : vs.length = names.length)
    (hb : ∀ (fd : FuncData) (rvs : List Value), fd.params = fnParams st → fd.defaults = .none → fd.kwdefaults = .none → rvs.length = names.length → bindArgs fd ⟨rvs, []⟩ = pure (names.zip rvs))
    (hk : (names.all fun y => (fnScope st).names.lookup y == some .local || (fnScope st).names.lookup y == some .cell) = true)
    (h : ∀ k, InFn c A st X k → W k (execs (fnBody st) k.env) (bindM (names.zip vs) noLoc) H (RQ Q)) : FnV c A f vs [] H Q X := fun rvs rkw e1 e2 => by
  refine Mine.hideG fun GG back => ?_
  obtain ⟨fd, F1, F2, F3, F4, F5⟩ := F.at_
  refine back ?_
  clear back
  have e2 : rkw = [] := by simpa using e2
  subst e2
  have hlen : rvs.length = names.length := by rw [← e1, List.length_map] at hl; exact hl
  refine Fn.of_body F1 (Nat.lt_of_le_of_lt hA.depth (by decide)) (binds := names.zip rvs) (fun s _ => BindsTo.of_eq (hb fd rvs F3 F4 F5 hlen)) ?_ fun k hk' => ?_
  · rw [F2, List.all_eq_true]
    intro y hy
    exact List.all_eq_true.mp hk y.1 (List.of_mem_zip hy).1
  · have := h k ⟨hk'.c, ⟨hk'.sc.trans F2, hk'.cn.trans (by rw [F2])⟩, hk'.frame, hk'.depth, hk'.units, hk'.handled, hk'.X, hk'.here⟩
    have e : (names.zip rvs).map (fun b => (b.1, er b.2)) = names.zip vs := by
      rw [← e1, List.zip_map_right]
      rfl
    rw [e]
    exact this
section
variable {k : Wk} {m : Loc} {H : AHeap}
theorem Roomy.of {sc : Scope} {cn : List Str} [I : SEnv k sc cn] (hf : k.env.frame = some k.env.locals) (hd : k.A.depth ≤ 700) (imp : importsNone k.c.p = true) (tree : k.c.prog.given.tree = none) (h1 : sc.isGenerator = false) (h2 : sc.isCoroutine = false) : Roomy k := by
  refine ⟨Nat.lt_of_le_of_lt (Nat.add_le_add_right hd _) (by decide), imp, tree, k.env, k.o.fs, ?_, by rw [I.sc]; exact h1, by rw [I.sc]; exact h2, k.blt, k.glob⟩
  rw [k.frames]
  exact congrArg some (if_pos hf)
theorem W_Return' {e : Expr} {pos : Pos} {Q : Flow → Loc → AHeap → Prop} (h : WV k (eval e k.env) m H fun v m1 H1 => ∀ u, er u = v → Q (.ret u) m1 H1) : W k (exec (.Return (some e) pos) k.env) m H Q :=
  W_Return (W.mono h fun v m1 H1 q => q v rfl)
theorem RQ_ret {P : V → AHeap → Prop} {v : V} {u : Value} (e : er u = v) (h : P v H) : RQ P (.ret u) m H := by
  show P (er u) H
  rw [e]; exact h
end
noncomputable def contQ (k : Wk) (r : List Stmt) (Q : Flow → Loc → AHeap → Prop) : Flow → Loc → AHeap → Prop := fun f m1 H1 => match f with | .next => W k (execs r k.env) m1 H1 Q | f => Q f m1 H1
section
variable {k : Wk} {m : Loc} {H : AHeap} {r : List Stmt} {Q : Flow → Loc → AHeap → Prop}
theorem W_cons' {st : Stmt} (h : W k (exec st k.env) m H (contQ k r Q)) : W k (execs (st :: r) k.env) m H Q := W_cons h
theorem contQ_next (h : W k (execs r k.env) m H Q) : contQ k r Q .next m H := h
theorem contQ_brk (h : Q .brk m H) : contQ k r Q .brk m H := h
theorem contQ_ret {u : Value} (h : Q (.ret u) m H) : contQ k r Q (.ret u) m H := h
variable {I : Loc → AHeap → Prop}
theorem loopQ_next (h : I m H) : loopQ k Q I .next m H := h
theorem loopQ_brk (h : Q .next m H) : loopQ k Q I .brk m H := h
theorem RQ_next {P : V → AHeap → Prop} (h : P .none H) : RQ P .next m H := h
theorem ite_dec {p : Prop} [Decidable p] {a b : Prop} (h1 : p → a) (h2 : ¬ p → b) : if decide p = true then a else b := by
  by_cases h : p
  · rw [if_pos (by simpa using h)]; exact h1 h
  · rw [if_neg (by simpa using h)]; exact h2 h
end
theorem WV_cut {k : Wk} {m : Loc} {H : AHeap} {t : Sem Value} {Q : V → Loc → AHeap → Prop} (P : V → Loc → AHeap → Prop) (h1 : WV k t m H P) (h2 : ∀ v m1 H1, P v m1 H1 → Q v m1 H1) : WV k t m H Q := W.mono h1 fun v => h2 _
theorem W_cut {α : Type} {k : Wk} {m : Loc} {H : AHeap} {t : Sem α} {Q : α → Loc → AHeap → Prop} (P : α → Loc → AHeap → Prop) (h1 : W k t m H P) (h2 : ∀ v m1 H1, P v m1 H1 → Q v m1 H1) : W k t m H Q := W.mono h1 h2
noncomputable def MethOn (c : Cx) (H : AHeap) (T : String) (ov : V) : Prop := ∃ a y, ov = .ref a ∧ H a = some y ∧ ∀ ob, IsObj c ob y → ob.cls = .type T ∧ ob.dict = none
theorem onList {c : Cx} {H : AHeap} {a : Addr} {xs : List V} (h : H a = some (.list xs)) : MethOn c H "list" (.ref a) := ⟨a, _, rfl, h, isList_cls⟩
section
variable {k : Wk} {m : Loc} {H : AHeap}
theorem W_CallM' {o : Expr} {name : Str} {apos pos : Pos} {args : List Expr} {T id : String} {Q : V → Loc → AHeap → Prop}
    (pa : PlainAttrs T) (slot : Slot T name id) (hty : typeOf (.builtin id) = pure (.type "method_descriptor"))
    (h : WV k (eval o k.env) m H fun ov m1 H1 => MethOn k.c H1 T ov ∧ WItems k args m1 H1 fun vs m2 H2 => WCall k (.builtin id) (ov :: vs) m2 H2 Q)
    (hbase : attributeBase o name k.env (eval o k.env) = eval o k.env := by rfl)
    (hfew : ((backTo pos (starEach args k.env)).all (fun x => !x.1) && (backToKw pos (keywordEach [] k.env)).all (fun x => x.1.isSome)
      && decide (args.length + ([] : List Keyword).length + (if ([] : List Keyword).isEmpty then 0 else 1) < 30)) = true := by rfl)
    (hline : (apos.endLine == pos.line) = true := by rfl) (hp : (starEach args k.env).any (·.1) = false := by rfl) (hp' : (backTo pos (starEach args k.env)).any (·.1) = false := by rfl) :
    WV k (eval (.Call (.Attribute o name apos) args [] pos) k.env) m H Q :=
  W_CallM pa slot hty (W.mono h fun v m1 H1 ⟨⟨a, y, e, h1, h2⟩, q⟩ => ⟨a, y, e, h1, h2, q⟩) hbase hfew hline hp hp'
theorem WAsL_nil {Q : Loc → AHeap → Prop} (h : Q m H) : WAsL k [] [] m H Q := h
theorem WAsL_cons {t : Expr} {ts : List Expr} {v : V} {vs : List V} {Q : Loc → AHeap → Prop} (h : WAs k t v m H fun m1 H1 => WAsL k ts vs m1 H1 Q) : WAsL k (t :: ts) (v :: vs) m H Q := h
end
theorem lenS {α : Type} {l : List α} {n : Nat} (h : l.length = n + 1) : ∃ x r, l = x :: r ∧ r.length = n := by
  cases l with
  | nil => cases h
  | cons x r => exact ⟨x, r, rfl, Nat.succ.inj h⟩
theorem len1 {α : Type} {l : List α} (h : l.length = 1) : ∃ x, l = [x] := by
  obtain ⟨x, r, rfl, hr⟩ := lenS h
  cases r with
  | nil => exact ⟨x, rfl⟩
  | cons a b => cases hr
theorem len2 {α : Type} {l : List α} (h : l.length = 2) : ∃ x y, l = [x, y] := by
  obtain ⟨x, r, rfl, hr⟩ := lenS h
  obtain ⟨y, rfl⟩ := len1 hr
  exact ⟨x, y, rfl⟩
theorem len3 {α : Type} {l : List α} (h : l.length = 3) : ∃ x y z, l = [x, y, z] := by
  obtain ⟨x, r, rfl, hr⟩ := lenS h
  obtain ⟨y, z, rfl⟩ := len2 hr
  exact ⟨x, y, z, rfl⟩
end Mine
namespace Mine
theorem BindsTo.of_kw {α β : Type} {s : Shared} {fd : FuncData} {args : Args} {binds : List (Str × Value)} {d : Addr} {n : Str} {v : Value} {mk : Str → Option Value}
    {k1 : Option Value → Sem α} {k2 : α → Sem β} {k3 : β → Sem (List (Str × Value))} (hn : s.heap.Ns d mk) (hv : mk n = some v) (h₁ : bindArgs fd args = ((nsGet d n >>= k1) >>= k2) >>= k3) (h₂ : (k1 (some v) >>= k2) >>= k3 = pure binds) : BindsTo s fd args binds :=
  fun _ _ _ _ hq => by
    rw [h₁, bind_assoc, bind_assoc]
    refine wpAny_bind (wpAny_nsGet hn ?_)
    rw [hv, ← bind_assoc, h₂]
    exact wpAny_pure hq
noncomputable def nestMsg : Str := "There is no nest behind this key"
noncomputable def listMsg : Str := "An object other than list found behind this key"
noncomputable def isDict (H : AHeap) : V → Bool
  | .ref a => match H a with
    | some (.dict _ _) => true
    | _ => false
  | _ => false
noncomputable def lastOf (acc : Bool) (H : AHeap) : V → Option V
  | .ref a => match H a, acc with
    | some (.list xs), true => xs.getLast?
    | _, _ => some (.ref a)
  | v => some v
noncomputable def Gw (acc : Bool) (Q : Addr → AHeap → Prop) (X : String → Option (List V) → AHeap → Prop) : List Str → Addr → AHeap → Prop
  | [], cont, H => Q cont H
  | x :: r, cont, H => ∃ kvs ep, H cont = some (.dict kvs ep) ∧ kvs.length < sizeLine ∧ match getK kvs (.inr x) with
    | none => ∀ d, H d = none → Gw acc Q X r d (upd (upd H d (.dict [] 0)) cont (.dict (kvs ++ [(.inr x, .ref d)]) (ep + 1)))
    | some v => tyOf H v ≠ none ∧ (∀ a xs, v = .ref a → H a = some (.list xs) → xs.length < 2 ^ 62) ∧ match lastOf acc H v with
      | none => X "IndexError" none H
      | some w => tyOf H w ≠ none ∧ if isDict H w = true then ∃ d, w = .ref d ∧ Gw acc Q X r d H else ∀ t, X "KeyError" (some [.str nestMsg t]) H
noncomputable def GaEnd (Q : AHeap → Prop) (X : String → Option (List V) → AHeap → Prop) (z : Option Str) (a : Addr) (H : AHeap) : Prop := match z with
  | none => X "IndexError" none H
  | some z => ∃ kvs ep, H a = some (.dict kvs ep) ∧ kvs.length < sizeLine ∧ match getK kvs (.inr z) with
    | none => ∀ d l, H d = none → H l = none → d ≠ l → Q (upd (upd (upd H d (.dict [] 0)) l (.list [.ref d])) a (.dict (kvs ++ [(.inr z, .ref l)]) (ep + 1)))
    | some v => tyOf H v ≠ none ∧ ((∃ b xs, v = .ref b ∧ H b = some (.list xs) ∧ xs.length ≤ sizeLine ∧ ∀ d, H d = none → Q (upd (upd H d (.dict [] 0)) b (.list (xs ++ [.ref d])))) ∨ (tyOf H v ≠ some "list" ∧ ∀ t, X "KeyError" (some [.str listMsg t]) H))
noncomputable abbrev Ga (Q : AHeap → Prop) (X : String → Option (List V) → AHeap → Prop) (keys : List Str) (b0 : Addr) (H : AHeap) : Prop :=
  Gw true (GaEnd Q X keys.getLast?) X keys.dropLast b0 H
structure NestAt (c : Cx) (C fI fG fA : Addr) (cls : Stmt) : Prop where
  kls : ClsAt c C fI
  mG : MethAt c C "get_or_create_nest" fG
  mA : MethAt c C "append_nest_to_list" fA
  init : DefAt c fI (stm (fnBody cls) 0)
  app : DefAt c fA (stm (fnBody cls) 2)
  get : ∃ fd, FnAt c fG fd (fnBody (stm (fnBody cls) 1)) ∧ fd.scope = fnScope (stm (fnBody cls) 1) ∧ fd.params = fnParams (stm (fnBody cls) 1) ∧ fd.defaults = .none ∧
    ∃ d mk, fd.kwdefaults = .ref d ∧ c.base.Ns d mk ∧ mk "access_lists" = some (.bool true)
theorem tyOf_cases {H : AHeap} {v : V} (h : tyOf H v ≠ none) : (∃ i, v = .int i) ∨ (∃ x t, v = .str x t) ∨ (∃ a xs, v = .ref a ∧ H a = some (.list xs)) ∨ (∃ a xs, v = .ref a ∧ H a = some (.tup xs)) ∨ ∃ a kvs ep, v = .ref a ∧ H a = some (.dict kvs ep) := by
  cases v with
  | int i => exact .inl ⟨i, rfl⟩
  | str x t => exact .inr (.inl ⟨x, t, rfl⟩)
  | ref a =>
    cases e : tyOf H (.ref a) with
    | none => exact absurd e h
    | some T =>
      rcases tyOf_obj e with ⟨xs, e, _⟩ | ⟨xs, e, _⟩ | ⟨kvs, ep, e, _⟩
      · exact .inr (.inr (.inl ⟨a, xs, rfl, e⟩))
      · exact .inr (.inr (.inr (.inl ⟨a, xs, rfl, e⟩)))
      · exact .inr (.inr (.inr (.inr ⟨a, kvs, ep, rfl, e⟩)))
  | _ => exact absurd rfl h
theorem getK_append_new {kvs : List (Key × V)} {k : Key} {v : V} (h : getK kvs k = none) : getK (kvs ++ [(k, v)]) k = some v := by
  induction kvs with
  | nil => simp [getK]
  | cons p r ih =>
    obtain ⟨k', w⟩ := p
    unfold getK at h
    split at h
    · cases h
    · rename_i hne
      show (if k' = k then some w else getK (r ++ [(k, v)]) k) = some v
      rw [if_neg hne]; exact ih h
theorem iteT {a b : Prop} (h : a) : if true = true then a else b := by rw [if_pos rfl]; exact h
theorem iteF {a b : Prop} (h : b) : if false = true then a else b := by rw [if_neg Bool.false_ne_true]; exact h
theorem iteNT {a b : Prop} (h : b) : if (!true) = true then a else b := by rw [if_neg (by simp)]; exact h
theorem iteNF {a b : Prop} (h : a) : if (!false) = true then a else b := by rw [if_pos (by simp)]; exact h
theorem W_allTrue_nilA {k : Wk} {m : Loc} {H : AHeap} {Q : Bool → Loc → AHeap → Prop} (h : Q true m H) : W k (allTrue .And [] k.env) m H Q := W_allTrue_nil h
theorem W_allTrue_nilO {k : Wk} {m : Loc} {H : AHeap} {Q : Bool → Loc → AHeap → Prop} (h : Q false m H) : W k (allTrue .Or [] k.env) m H Q := W_allTrue_nil h
theorem tyOf_is {H : AHeap} {v : V} (h : tyOf H v ≠ none) : ∃ T, tyOf H v = some T ∧ T ∈ ["int", "str", "list", "tuple", "dict"] := by
  rcases tyOf_cases h with ⟨j, rfl⟩ | ⟨z, u, rfl⟩ | ⟨a, xs, rfl, e⟩ | ⟨a, xs, rfl, e⟩ | ⟨a, kvs2, ep2, rfl, e⟩
  · exact ⟨"int", rfl, by simp⟩
  · exact ⟨"str", rfl, by simp⟩
  · exact ⟨"list", tyOf_l e, by simp⟩
  · exact ⟨"tuple", tyOf_t e, by simp⟩
  · exact ⟨"dict", tyOf_d e, by simp⟩
theorem lastOf_t {acc : Bool} {H : AHeap} {a : Addr} {xs : List V} (e : H a = some (.tup xs)) : lastOf acc H (.ref a) = some (.ref a) := by
  show (match H a, acc with | some (.list xs), true => xs.getLast? | _, _ => some (.ref a)) = _
  rw [e]
theorem lastOf_d {acc : Bool} {H : AHeap} {a : Addr} {kvs : List (Key × V)} {ep : Nat} (e : H a = some (.dict kvs ep)) : lastOf acc H (.ref a) = some (.ref a) := by
  show (match H a, acc with | some (.list xs), true => xs.getLast? | _, _ => some (.ref a)) = _
  rw [e]
theorem lastOf_l {H : AHeap} {a : Addr} {xs : List V} (e : H a = some (.list xs)) : lastOf true H (.ref a) = xs.getLast? := by
  show (match H a, true with | some (.list xs), true => xs.getLast? | _, _ => some (.ref a)) = _
  rw [e]
theorem lastOf_f {H : AHeap} {v : V} : lastOf false H v = some v := by
  cases v with
  | ref a =>
    show (match H a, false with | some (.list xs), true => xs.getLast? | _, _ => some (.ref a)) = _
    cases H a with
    | none => rfl
    | some x => cases x <;> rfl
  | _ => rfl
theorem WCall_isi {k : Wk} {m : Loc} {H : AHeap} {v : V} {T : String} {Q : V → Loc → AHeap → Prop} (hv : tyOf H v ≠ none) (hT : T ∈ ["list", "dict", "str"]) (h : Q (.bool (decide (tyOf H v = some T))) m H) : WCall k (.builtin "isinstance") [v, .ty T] m H Q := by
  obtain ⟨Tx, hTx, hTi⟩ := tyOf_is hv
  refine WCall_isinst hTx hTi hT ?_
  · have e : decide (tyOf H v = some T) = decide (Tx = T) := by rw [hTx]; simp
    rw [← e]; exact h
end Mine
namespace Mine
section
variable {k : Wk} {m : Loc} {H : AHeap}
end
theorem upd_none {β : Type} {f : Addr → Option β} {a b : Addr} {x : β} (h : b ≠ a) (e : f b = none) : upd f a x b = none := by simp [upd, h, e]
end Mine
namespace Mine
theorem rangeN_up (n : Nat) : rangeN 0 n 1 = n := by
  unfold rangeN Builtin.Range.rangeSize
  rw [if_pos (by decide)]
  by_cases h : (0 : Int) < n
  · rw [if_pos h]; lia
  · rw [if_neg h]; lia
end Mine
namespace Mine
noncomputable def BaseL (c : Cx) (a : Addr) (xs : List V) : Prop := ∃ vs : List Value, c.base.IsList a vs.toArray ∧ vs.map er = xs
section
variable {k : Wk} {m : Loc} {H : AHeap}
theorem isList_stays {h h' : Heap} {a : Addr} {xs : Array Value} (hs : h.StaysIn h') (x : h.IsList a xs) : h'.IsList a xs := by
  refine Mine.hideG fun GG back => ?_
  obtain ⟨o, e1, e2, n, e3⟩ := x
  refine back ?_
  clear back
  exact ⟨o, hs a o e1, e2, n, e3⟩
theorem WCall_lenB {a : Addr} {xs : List V} {Q : V → Loc → AHeap → Prop} (ha : BaseL k.c a xs) (hz : xs.length < 2 ^ 63) (h : Q (.int xs.length) m H) : WCall k (.builtin "len") [.ref a] m H Q := fun vs e => by
  refine Mine.hideG fun GG back => ?_
  obtain ⟨x, rfl, e'⟩ := map_er1 e
  refine back ?_
  clear back
  obtain rfl := er_ref e'
  refine W.of_wp fun B s st P hp => ?_
  refine Mine.hideG fun GG back => ?_
  obtain ⟨vs, hl, rfl⟩ := ha
  refine back ?_
  clear back
  rw [List.length_map] at h hz
  exact call_len_list (isList_stays st.base hl) (by simp; lia) (by simpa using hp (.int vs.length (s.toks + 1)) (s.toks + 2) h)
end
end Mine
namespace Mine
theorem good_law {l : OpenLaw} {cl : Str → Option Addr} {mean : ExcName → Option Value} {args : List WData} {s₁ s' : Shared} {v : Value} (hv : v = .bool true) (hk : ∀ b o, s₁.heap.get? b = some o → s'.heap.get? b = some o) (hos : s'.os = s₁.os) (hg : s'.gens = #[]) :
    GoodW l.row.toRowW.claim cl mean args s₁ (.ok (.ret v)) s' := by
  subst hv
  exact ⟨.inl ⟨.bool true, .bool true, [], rfl, fun _ => rfl, .bool true, by show (WShape.has [] (.bool true) .bool && WTm.holds [] (.eq .res (.lit (.bool true))) { args := args, res := some (.bool true), after := args }) = true; first | with_unfolding_all rfl | kernel_rfl, fun _ => ⟨List.nodup_nil, fun _ h => by cases h⟩⟩, hk, hos, hg⟩
end Mine
namespace Mine
theorem fnAt_K {c : Cx} {f : Addr} {st : Stmt} {name qual : Str} {doc pm cdv ct oc dV kV : Value} {an od : Option Addr} {osl : Array (Option Value)} (ho : c.K.lookup f = some ⟨oc, od, .func (fnOf name qual (fnParams st) (fnBody st) (fnScope st) dV kV doc pm an cdv ct), osl⟩)
    (hcd : codeIn c.K cdv qual = true) (hk : (fnScope st).kind = .function) (hc : (fnScope st).isCoroutine = false) (hg : (fnScope st).isGenerator = false) (hn : ((fnScope st).names.map (·.1)).Nodup) : FnAt c f (fnOf name qual (fnParams st) (fnBody st) (fnScope st) dV kV doc pm an cdv ct) (fnBody st) where
  obj := ⟨_, c.inK _ _ ho, rfl⟩
  code := codeRec_of c.inK hcd
  body := rfl
  kind := hk
  co := hc
  gen := hg
  glob := rfl
  blt := rfl
  clo := rfl
  names := hn
theorem defAt_K {c : Cx} {f : Addr} {st : Stmt} {name qual : Str} {doc pm cdv ct oc : Value} {an od : Option Addr} {osl : Array (Option Value)} (ho : c.K.lookup f = some ⟨oc, od, .func (fnOf name qual (fnParams st) (fnBody st) (fnScope st) .none .none doc pm an cdv ct), osl⟩)
    (hcd : codeIn c.K cdv qual = true) (hk : (fnScope st).kind = .function) (hc : (fnScope st).isCoroutine = false) (hg : (fnScope st).isGenerator = false) (hn : ((fnScope st).names.map (·.1)).Nodup) : DefAt c f st :=
  ⟨⟨_, fnAt_K ho hcd hk hc hg hn, rfl, rfl, rfl, rfl⟩⟩
theorem ns_at {K : Frag} {h : Heap} {N : Addr} {mk : Str → Option Value} {n : Str} {v : Value} (X : K.In h) (G : h.Ns N mk) (e : nsIn K N n = some (some v)) : mk n = some v := by
  refine Mine.hideG fun GG back => ?_
  obtain ⟨o, es, ep, ho, hd, _, hf⟩ := G
  refine back ?_
  clear back
  have e' : (match K.lookup N with | some ⟨_, _, .dict es _, _⟩ => (match es.toList.find? (·.key.isStr n) with | some e => some (some e.val) | none => if es.toList.any (·.refKey) then none else some none) | _ => none) = some (some v) := e
  cases q : K.lookup N with
  | none => rw [q] at e'; cases e'
  | some o' =>
    obtain rfl : o = o' := Option.some.inj (ho.symm.trans (X _ _ q))
    rw [q] at e'
    obtain ⟨cc, sl, dd, n'⟩ := o
    cases hd
    have e2 : (match es.toList.find? (·.key.isStr n) with | some e => some (some e.val) | none => if es.toList.any (·.refKey) then none else some none) = some (some v) := e'
    clear e'
    revert e2
    cases he : es.toList.find? (·.key.isStr n) with
    | some en =>
      intro e'
      cases e'
      rw [← hf]
      unfold nsFind findBy
      rw [← Array.find?_toList, he]
      rfl
    | none =>
      intro e'
      replace e' : (if es.toList.any (·.refKey) then none else some none) = some (some v) := e'
      split at e' <;> cases e'
theorem gl_K {c : Cx} {x : Str} {v : Value} (e : nsIn c.K mainGlobals x = some (some v)) : Gl c x v := .inl (mg_of c.inK c.top.g e)
theorem gl_B {c : Cx} {x : Str} {v : Value} (e : nsIn c.K mainGlobals x = some none) (hv : bootBuiltins x = some v) (hn : x ≠ "__name__") : Gl c x v := .inr ⟨mg_none_of c.inK c.top.g e, (c.top.builtins x hn).trans hv⟩
theorem intsAre_er : ∀ {vals : List Value} {ns : List Int}, IntsAre vals ns → vals.map er = ns.map .int := fun {vals ns} h => by
  induction h with
  | nil => rfl
  | cons => exact congrArg (_ :: ·) (by assumption)
end Mine
namespace Mine
section
variable {c : Cx} {A : Around} {E : Value → Shared → Prop} {s : Shared}
end
section
variable {k : Wk} {m : Loc} {H : AHeap}
theorem WCall_tupleL {a : Addr} {xs : List V} {Q : V → Loc → AHeap → Prop} (ha : H a = some (.list xs)) (hz : xs.length ≤ sizeLine) (h : ∀ p, H p = none → Q (.ref p) m (upd H p (.tup xs))) : WCall k (.type "tuple") [.ref a] m H Q := fun vs e B s st => by
  obtain ⟨x, rfl, e'⟩ := map_er1 e
  obtain rfl := er_ref e'
  obtain ⟨vs, n, hl, rfl⟩ := st.listAt ha
  refine call_tuple_list (items := (vs : List Value).toArray) hl.isList (fun h' hk => ?_) (by simpa using hz)
  obtain ⟨h1, h2⟩ := (st.grown (h' := h') (tk := s.toks) hk st.tk).newTup vs
  exact ⟨m, _, h2, h _ h1⟩
theorem WBin_addBL {a b : Addr} {xs ys : List V} {Q : V → Loc → AHeap → Prop} (ha : BaseL k.c a xs) (hb : H b = some (.list ys)) (hz : xs.length + ys.length ≤ sizeLine) (h : ∀ p, H p = none → Q (.ref p) m (upd H p (.list (xs ++ ys)))) : WBin k .Add (.ref a) (.ref b) m H Q := fun x y e1 e2 B s st => by
  obtain rfl := er_ref e1
  obtain rfl := er_ref e2
  obtain ⟨vs, hl, rfl⟩ := ha
  obtain ⟨us, n2, hb', rfl⟩ := st.listAt hb
  obtain ⟨⟨cls, dd, data, sl⟩, ho, hc, n, hd⟩ := isList_stays st.base hl
  simp only at hc hd
  subst hc hd
  refine concat_meets ⟨_, ho, rfl⟩ ⟨_, hb', rfl⟩ noFill_list_add seq_list_add PySem.F.slot_list_add PySem.F.entry_list_add (PySem.F.args_list_add_2 _ _) (list_addW a b vs.toArray us.toArray n n2 dd none sl #[] (by simpa using hz)) ⟨ho, hb', ?_⟩
  obtain ⟨h1, h2⟩ := st.newList (vs ++ us)
  have e : vs.toArray ++ us.toArray = (vs ++ us).toArray := by simp
  rw [e]
  refine ⟨m, _, h2, ?_⟩
  have := h _ h1
  rw [← List.map_append] at this
  exact this
end
end Mine
namespace Mine
theorem top_joinC {c : Cx} {name : Str} {scope : Scope} {fa : Addr} {cd : Value} {body : List Stmt} {mv cm : Str → Option Value} {s : Shared} {m : Loc}
    (hk : scope.kind = .function) (F : Fr c.base c.base.objs.size s.heap mv) (X : Cl c.base.objs.size (cellsFrom (c.base.objs.size + 1) scope.names []) s.heap cm) (hnd : ((cellsFrom (c.base.objs.size + 1) scope.names []).map (·.1)).Nodup) (hg : s.gens = #[]) (hos : s.os = c.os) (ht : 1 ≤ s.toks)
    (hm : ∀ x v, m x = some v → scope.names.lookup x = some .local ∧ ∃ u, mv x = some u ∧ er u = v)
    (h : ∀ k : Wk, k.c = c → k.env = envOfC name scope c.base.objs.size fa cd → k.A = callerA.deeper k.env → W k (execs body k.env) m (fun _ => none) (fun fl _ _ => flowV fl = .bool true)) :
    wpAny (model c.prog c.w) (callerA.deeper (envOfC name scope c.base.objs.size fa cd)) (execs body (envOfC name scope c.base.objs.size fa cd)) (fun f s' => flowV f = .bool true ∧ c.base.StaysIn s'.heap ∧ s'.os = c.os ∧ s'.gens = #[]) (fun _ _ => False) s := by
  let env := envOfC name scope c.base.objs.size fa cd
  have hout : outerOf env [] = [env] := if_pos rfl
  let k : Wk := {
    c := c, A := callerA.deeper env, o := ⟨[], fun _ => none⟩, env := env, E := fun _ _ => False, X := fun _ _ _ _ => False, here := False,
    pass := PassesOwn.never, fly := fun _ _ _ _ _ _ _ _ _ h => h, made := fun h => h.elim, kind := hk, glob := rfl, blt := rfl,
    frames := by show callerA.frames.map _ = some (outerOf env []); rw [hout]; rfl, fat := .inl rfl }
  have hcl : ∀ n a, (n, a) ∈ cellsFrom (c.base.objs.size + 1) scope.names [] → (cellsFrom (c.base.objs.size + 1) scope.names []).lookup n = some a := fun n a ha => lookup_of_mem_nodup hnd ha
  refine wpAny_mono (h k rfl rfl rfl (fun _ => none) s ?_) (fun v s' ⟨m', H', st, q⟩ => ⟨q, st.base, st.os, st.gens⟩) fun _ _ x => x
  refine ⟨F.keep, fun a ob l e => (by cases e), fun a x e => (by cases e), fun a x e => (by cases e), fun a x e => (by cases e), fun a q => ?_, ?_, fun a q => ?_, ⟨mv, F.ns, fun x v e => ?_⟩, ⟨fun e he => (by cases he), fun a x e => (by cases e)⟩, hg, hos, ht⟩
  · refine ⟨rfl, rfl, ?_⟩
    rcases List.mem_cons.mp q with q | q
    · rw [q]; exact Nat.le_refl _
    · obtain ⟨⟨n, b⟩, hb, rfl⟩ := List.mem_map.mp q
      exact Nat.le_of_lt (X.above n b hb)
  · show (c.base.objs.size :: (cellsFrom (c.base.objs.size + 1) scope.names []).map (·.2)).Nodup
    refine List.nodup_cons.mpr ⟨fun q => ?_, ?_⟩
    · obtain ⟨⟨n, b⟩, hb, e⟩ := List.mem_map.mp q
      have := X.above n b hb
      have e : b = c.base.objs.size := e
      rw [e] at this
      exact absurd this (Nat.lt_irrefl _)
    · exact List.pairwise_map.mpr X.apart
  · obtain ⟨⟨n, b⟩, hb, rfl⟩ := List.mem_map.mp q
    exact ⟨_, X.cell n b (hcl n b hb)⟩
  · obtain ⟨h1, u, h2, h3⟩ := hm x v e
    have : env.kindOf x = some .local := h1
    rw [this]
    exact ⟨u, h2, h3⟩
theorem fin_joinC {l : OpenLaw} {w : World} {s₀ s₁ : Shared} {mg mb : Str → Option Value} {p : Program} {loose : List Str} {mean : ExcName → Option Value} {K : Frag} {sa fa : Addr} {vals : List Value} {ns : List Int} {h₁ : Heap} {name : Str} {scope : Scope} {cd : Value} {body : List Stmt} {args : List WData} {E : Value → Shared → Prop} {s : Shared} {mv cm : Str → Option Value} {cells : List (Addr × Obj)}
    (kX : K.In s₁.heap) (kT : Top p loose mean mg mb s₁.heap) (kg : s₁.gens = #[]) (kL : s₁.heap.IsList sa vals.toArray) (kI : IntsAre vals ns) (kF : Fr s₁.heap s₁.heap.objs.size h₁ mv) (kN : News s₁.heap s₁.heap.objs.size h₁ cells) (kC : CellsAre cm (cellsFrom (s₁.heap.objs.size + 1) scope.names []) cells)
    (hmv : mv "script" = some (.ref sa)) (hnd : (scope.names.map (·.1)).Nodup)
    (hk : scope.kind = .function) (hsc : scope.names.lookup (Str.ofString "script") = some NameKind.local) (hh : s.heap = h₁) (hg : s.gens = s₁.gens) (hos : s.os = s₁.os) (htk : 1 ≤ s.toks)
    (hw : ∀ c : Cx, c.prog = l.row.toRowW.prog → c.K = K → c.w = w → c.p = p → c.base = s₁.heap → BaseL c sa (ns.map .int) → ∀ k : Wk, k.c = c → k.env = envOfC name scope s₁.heap.objs.size fa cd → k.A = callerA.deeper k.env → W k (execs body k.env) (setL noLoc "script" (.ref sa)) (fun _ => none) fun fl _ _ => flowV fl = .bool true) :
    wpAny (model l.row.toRowW.prog w) (callerA.deeper (envOfC name scope s₁.heap.objs.size fa cd)) (execs body (envOfC name scope s₁.heap.objs.size fa cd))
      (fun f s' => GoodW l.row.toRowW.claim (classAt s₀.heap) (ExcName.means s₀.heap) args s₁ (.ok (.ret (match f with | .ret v => v | _ => .none))) s') E s := by
  let c : Cx := ⟨l.row.toRowW.prog, w, s₁.heap, K, p, loose, mean, mg, mb, s₁.os, kX, kT⟩
  have hB : BaseL c sa (ns.map .int) := ⟨vals, kL, intsAre_er kI⟩
  have hnc := cellsFrom_names scope.names (s₁.heap.objs.size + 1) [] hnd List.nodup_nil (fun _ _ h => by cases h)
  have hpw := cellsFrom_pw scope.names (s₁.heap.objs.size + 1) [] List.nodup_nil (fun _ h => by cases h)
  have hCl : Cl s₁.heap.objs.size (cellsFrom (s₁.heap.objs.size + 1) scope.names []) h₁ cm := Cl.of_news (own := []) kN kC (List.pairwise_map.mp hpw) fun n a ha => by
    rcases cellsFrom_mem _ _ _ _ _ ha with h | ⟨h, _⟩
    · cases h
    · exact h
  refine wpAny_mono (top_joinC (c := c) (m := setL noLoc "script" (.ref sa)) hk (by rw [hh]; exact kF) (by rw [hh]; exact hCl) hnc (hg.trans kg) hos htk (fun x v e => ?_) (fun k h1 h2 h3 => hw c rfl rfl rfl rfl rfl hB k h1 h2 h3)) (fun f s' q => ?_) fun _ _ x => x.elim
  · unfold setL at e
    split at e
    · rename_i q
      subst q
      cases e
      exact ⟨hsc, .ref sa, hmv, rfl⟩
    · cases e
  · obtain ⟨q1, q2, q3, q4⟩ := q
    refine good_law ?_ q2 q3 q4
    cases f with
    | ret v => exact er_bool q1
    | _ => cases q1
end Mine
namespace Mine
section
variable {M : Model} {A : Around} {E : Value → Shared → Prop} {s : Shared}
theorem newEnv1 {scope : Scope} {globals : Addr} {x : Str} {v : Value} {qual : Str} {func : Option Addr} {code : Value} {builtins : Addr} {Q : Env → Shared → Prop}
    (hk : scope.kind = .function) (hx : scope.names.lookup x = some .local)
    (hQ : ∀ env, env = newEnv scope s.heap.objs.size globals (cellsFrom (s.heap.objs.size + 1) scope.names []) qual func code none builtins →
      ∀ s', InCallC s env.locals (bindL env.kindOf [(x, v)] fun _ => none) env.cells (bindC env.kindOf [(x, v)] fun _ => none) s' → 1 ≤ s'.toks → Q env s') :
    wpAny M A (newFunctionEnv scope globals [] [(x, v)] qual func code none builtins) Q E s := by
  simp only [newFunctionEnv, Option.isSome_none, Bool.false_eq_true, if_false]
  refine wpAny_bind (wpAny_alloc ?_)
  refine wpAny_bind (wpAny_layCells _ (fun name kind cells => by cases hkc : kind == NameKind.cell <;> simp [hkc]) _ _ _ _ ?_)
  have ok := cellsFrom_ok scope.names (s.heap.push { cls := .type "frame", data := .dict #[] }) (s.heap.objs.size + 1) [] ⟨fun _ _ hm => (nomatch hm), List.Pairwise.nil⟩ (by rw [Heap.size_push]; exact Nat.le_refl _)
  rw [Heap.size_push] at ok
  rw [show ({ s with heap := s.heap.push { cls := .type "frame", data := .dict #[] } } : Shared).heap.objs.size = s.heap.objs.size + 1 from Heap.size_push ..]
  let env := newEnv scope s.heap.objs.size globals (cellsFrom (s.heap.objs.size + 1) scope.names []) qual func code none builtins
  have hl : env.kindOf x = some .local := hx
  have hke : env.scope.kind = .function := hk
  have X0 : InCallC s env.locals (fun _ => none) env.cells (fun _ => none) { s with heap := pushCells (s.heap.push { cls := .type "frame", data := .dict #[] }) scope.names } :=
    ⟨⟨⟨_, _, rfl⟩, (Heap.Ns.new s.heap (.type "frame")).keeps (pushCells_keeps _ _), fun b o e => pushCells_keeps _ _ b o (Heap.get?_push_of_some _ e), Nat.le_refl _⟩,
      fun n c hc => (ok.empty n c (mem_of_lookup hc)).1, ok.apart, fun n c hm => (ok.empty n c hm).2⟩
  rw [List.forIn_cons]
  refine wpAny_bind (wpAny_bind (wpAny_bind ?_))
  refine wpAny_storeName_local (env := env) hl X0.toInCall.ns (fun h' hn' hs' => ?_) (by rw [hke]; rfl)
  refine wpAny_pure ?_
  refine wpAny_pure ?_
  refine wpAny_pure (hQ env rfl _ ⟨⟨⟨h', _, rfl⟩, ?_, fun b o e => ?_, X0.toInCall.fresh⟩, fun n c hc => ?_, X0.apart, X0.above⟩ (Nat.le_add_left 1 _))
  · unfold bindL bindL
    rw [if_pos hl]; exact hn'
  · exact hs'.extBut b o (Nat.ne_of_lt (Nat.lt_of_lt_of_le (Heap.lt_size e) X0.toInCall.fresh)) (X0.toInCall.keep b o e)
  · have := (X0.cell n c hc).sameBut hs' (Nat.ne_of_gt (X0.above n c (mem_of_lookup hc)))
    unfold bindC bindC
    rw [if_pos hl]; exact this
end
theorem call_cells1 {prog : Program} {w : World} {A : Around} {R : Result → Shared → Prop} {s : Shared} {name : Str} {params : Arguments} {body : List Stmt} {scope : Scope}
    {pm cd doc : Value} {a : Addr} {o : Obj} {args : List Value} {x : Str} {v : Value}
    (hroom : A.depth < recursionLimit) (ho : s.heap.get? a = some o) (hdata : o.data = .func (Calls.docDef name params body scope pm cd doc)) (hlim : s.heap.NoLimit) (hcd : s.heap.CodeRec cd name)
    (hbind : bindArgs (Calls.docDef name params body scope pm cd doc) ⟨args, []⟩ = pure [(x, v)]) (hx : scope.names.lookup x = some .local)
    (hnd : ((cellsFrom 0 scope.names []).map (·.1)).Nodup)
    (h : ∀ h₁ tk cells, 1 ≤ tk → Fr s.heap s.heap.objs.size h₁ (bindL (envOfC name scope s.heap.objs.size a cd).kindOf [(x, v)] fun _ => none) → News s.heap s.heap.objs.size h₁ cells →
      CellsAre (bindC (envOfC name scope s.heap.objs.size a cd).kindOf [(x, v)] fun _ => none) (cellsFrom (s.heap.objs.size + 1) scope.names []) cells →
      wpAny (model prog w) (A.deeper (envOfC name scope s.heap.objs.size a cd)) (execs body (envOfC name scope s.heap.objs.size a cd))
        (fun f s' => R (.ok (.ret (match f with | .ret v => v | _ => .none))) s')
        (fun e s' => wpAny (model prog w) (A.deeper (envOfC name scope s.heap.objs.size a cd)) (leaving (envOfC name scope s.heap.objs.size a cd) e)
          (fun _ s'' => R (.error e) s'') (fun e' s'' => R (.error e') s'') s')
        { s with heap := h₁, toks := tk })
    (hco : scope.isCoroutine = false := by rfl) (hgen : scope.isGenerator = false := by rfl) (hk : scope.kind = .function := by rfl) :
    codeAny (model prog w) A (.call (.ref a) ⟨args, []⟩) R s := by
  refine codeAny_call_function (fd := Calls.docDef name params body scope pm cd doc) (body := body) hroom ho hdata hco hgen rfl hcd ?_
  rw [hbind]
  refine wpAny_pure (newEnv1 hk hx fun env he s' X ht => ?_)
  subst he
  refine ⟨hlim.keeps X.toInCall.keep, codeAny_func ?_⟩
  obtain ⟨h₁, tk, rfl⟩ := X.toInCall.same
  obtain ⟨cells, N, Y⟩ := Cl.news (h₀ := s.heap) (L := s.heap.objs.size) (cm := bindC (envOfC name scope s.heap.objs.size a cd).kindOf [(x, v)] fun _ => none) (cs := cellsFrom (s.heap.objs.size + 1) scope.names []) (Nat.le_refl _) fun n c hm => ⟨X.cell n c (PyProof.Rows.lookup_of_mem_nodup (PyProof.Rows.cellsFrom_names scope.names 0 (s.heap.objs.size + 1) [] [] rfl ▸ hnd) hm), X.above n c hm⟩
  exact h h₁ tk cells ht ⟨X.toInCall.ns, X.toInCall.keep, X.toInCall.fresh⟩ N Y
theorem call_cells2 {prog : Program} {w : World} {A : Around} {R : Result → Shared → Prop} {s : Shared} {name : Str} {params : Arguments} {body : List Stmt} {scope : Scope}
    {pm cd doc dV kV : Value} {mg : Str → Option Value} {hD : Heap} {a : Addr} {o : Obj} {args : List Value} {x : Str} {v : Value}
    (hroom : A.depth < recursionLimit) (ho : s.heap.get? a = some o) (hdata : o.data = .func { Calls.docDef name params body scope pm cd doc with defaults := dV, kwdefaults := kV }) (hlim : s.heap.NoLimit) (hcd : s.heap.CodeRec cd name)
    (D : Dflts mg hD params [] dV kV) (hp : params.defaults = [])
    (hbind : bindArgs (Calls.docDef name params body scope pm cd doc) ⟨args, []⟩ = pure [(x, v)]) (hx : scope.names.lookup x = some .local)
    (hnd : ((cellsFrom 0 scope.names []).map (·.1)).Nodup)
    (h : ∀ h₁ tk cells, 1 ≤ tk → Fr s.heap s.heap.objs.size h₁ (bindL (envOfC name scope s.heap.objs.size a cd).kindOf [(x, v)] fun _ => none) → News s.heap s.heap.objs.size h₁ cells →
      CellsAre (bindC (envOfC name scope s.heap.objs.size a cd).kindOf [(x, v)] fun _ => none) (cellsFrom (s.heap.objs.size + 1) scope.names []) cells →
      wpAny (model prog w) (A.deeper (envOfC name scope s.heap.objs.size a cd)) (execs body (envOfC name scope s.heap.objs.size a cd))
        (fun f s' => R (.ok (.ret (match f with | .ret v => v | _ => .none))) s')
        (fun e s' => wpAny (model prog w) (A.deeper (envOfC name scope s.heap.objs.size a cd)) (leaving (envOfC name scope s.heap.objs.size a cd) e)
          (fun _ s'' => R (.error e) s'') (fun e' s'' => R (.error e') s'') s')
        { s with heap := h₁, toks := tk })
    (hco : scope.isCoroutine = false := by rfl) (hgen : scope.isGenerator = false := by rfl) (hk : scope.kind = .function := by rfl) :
    codeAny (model prog w) A (.call (.ref a) ⟨args, []⟩) R s := by
  have he := Dflts.none D hp; subst he
  have he := Dflts.noKw D; subst he
  exact call_cells1 hroom ho (fd_plain hdata) hlim hcd hbind hx hnd h hco hgen hk
end Mine
namespace Mine
section
variable {c : Cx} {o : Out} {env : Env} {B : BMap} {m : Loc} {H : AHeap} {s : Shared}
theorem none_less {H H' : AHeap} (h : Ext H' H) {a : Addr} (n : H a = none) : H' a = none := by
  cases e : H' a with
  | none => rfl
  | some x => have := h a x e; rw [n] at this; cases this
theorem St.less (st : St c o env B m H s) {H' : AHeap} (h : Ext H' H) : St c o env B m H' s :=
  ⟨st.base, st.keep, fun a x e => st.own a x (h a x e), fun a x e => st.disB a x (h a x e), fun a x e => st.disBase a x (h a x e), fun a q => ⟨none_less h (st.pl a q).1, (st.pl a q).2⟩, st.nodup, st.cell, st.var, st.frames, st.gens, st.os, st.tk⟩
theorem St.sweep (st : St c o env B m H s) {h' : Heap} {tk : Nat} {H' : AHeap} (P : Addr → Prop) (hk : ∀ b ob, ¬ P b → s.heap.get? b = some ob → h'.get? b = some ob)
    (hP : ∀ b, P b → ∃ x, H b = some x) (hH : ∀ b y, H' b = some y → (∃ ob, h'.get? b = some ob ∧ IsObj c ob y) ∧ (s.heap.objs.size ≤ b ∨ ∃ x, H b = some x)) (ht : 1 ≤ tk) : St c o env B m H' { s with heap := h', toks := tk } := by
  have nb : ∀ b, P b → c.base.get? b = none := fun b q => by obtain ⟨x, hx⟩ := hP b q; exact none_ge (st.disBase b x hx)
  have nB : ∀ b, P b → B b = none := fun b q => by obtain ⟨x, hx⟩ := hP b q; exact st.disB b x hx
  have np : ∀ b ∈ places env, ¬ P b := fun b hb q => by obtain ⟨x, hx⟩ := hP b q; rw [(st.pl b hb).1] at hx; cases hx
  have fr : ∀ b, s.heap.objs.size ≤ b → B b = none ∧ b ∉ places env := fun b q => ⟨(st.fresh (none_ge q)).2.1, (st.fresh (none_ge q)).2.2.2⟩
  refine ⟨fun b ob e => hk b ob (fun q => by rw [nb b q] at e; cases e) (st.base b ob e), fun b ob l e => ?_, fun b y e => (hH b y e).1, fun b y e => ?_, fun b y e => ?_, fun b q => ⟨?_, (st.pl b q).2⟩, st.nodup, fun b e => ?_, ?_, st.frames, st.gens, st.os, ht⟩
  · refine Mine.hideG fun GG back => ?_
    obtain ⟨sl, e1, e2⟩ := st.keep b ob l e
    refine back ?_
    clear back
    exact ⟨sl, hk b _ (fun q => by rw [nB b q] at e; cases e) e1, e2⟩
  · rcases (hH b y e).2 with q | ⟨x, q⟩
    · exact (fr b q).1
    · exact st.disB b x q
  · rcases (hH b y e).2 with q | ⟨x, q⟩
    · exact Nat.le_trans st.baseLe q
    · exact st.disBase b x q
  · cases e : H' b with
    | none => rfl
    | some y =>
      rcases (hH b y e).2 with z | ⟨x, z⟩
      · exact absurd q (fr b z).2
      · rw [(st.pl b q).1] at z; cases z
  · refine Mine.hideG fun GG back => ?_
    obtain ⟨v, ob, e1, e2⟩ := st.cell b e
    refine back ?_
    clear back
    exact ⟨v, ob, hk b ob (np b (List.mem_cons_of_mem _ e)) e1, e2⟩
  · exact var_keeps (fun b hb ob e => hk b ob (np b hb) e) st.var
end
noncomputable def enObj (it : Addr) (i : Int) (old : Value) : Obj := { cls := .type "enumerate", dict := none, data := .fields #[.none, .bool false, .ref it, rawInt i, .none, old], slots := #[] }
noncomputable def isLi (ob : Obj) (a : Addr) (i : Nat) : Prop := ob.cls = .type "list_iterator" ∧ ob.data = .fields #[.ref a, .int i 0]
section
variable {k : Wk} {m : Loc} {H : AHeap}
theorem WCall_enum {a : Addr} {xs : List V} {Q : V → Loc → AHeap → Prop} (ha : H a = some (.list xs))
    (h : ∀ e it oi, H e = none → H it = none → e ≠ it → isLi oi a 0 → Q (.ref e) m (upd (upd H it (.raw oi)) e (.raw (enObj it 0 .none)))) : WCall k (.type "enumerate") [.ref a] m H Q := fun vs e => by
  refine Mine.hideG fun GG back => ?_
  obtain ⟨x, rfl, e'⟩ := map_er1 e
  refine back ?_
  clear back
  obtain rfl := er_ref e'
  intro B s st
  refine Mine.hideG fun GG back => ?_
  obtain ⟨us, n, hl, hu⟩ := st.listAt ha
  refine back ?_
  clear back
  refine call_enumerate_list ⟨_, hl, rfl, n, rfl⟩ fun h' he hi hz hk => ?_
  refine Mine.hideG fun GG back => ?_
  obtain ⟨oi, ho, hc, hd⟩ := hi
  refine back ?_
  clear back
  have n0 : H s.heap.objs.size = none := (st.fresh (none_ge (Nat.le_refl _))).1
  have n1 : H (s.heap.objs.size + 1) = none := (st.fresh (none_ge (Nat.le_succ _))).1
  have st1 : St k.c k.o k.env B m (upd (upd H s.heap.objs.size (.raw oi)) (s.heap.objs.size + 1) (.raw (enObj s.heap.objs.size 0 .none))) { s with heap := h', toks := s.toks } := by
    refine st.sweep (fun _ => False) (fun b ob _ q => hk b ob q) (fun b q => q.elim) (fun b y e => ?_) st.tk
    rcases upd_some e with ⟨rfl, rfl⟩ | ⟨ne, e⟩
    · exact ⟨⟨_, he, rfl⟩, .inl (Nat.le_succ _)⟩
    · rcases upd_some e with ⟨rfl, rfl⟩ | ⟨ne, e⟩
      · exact ⟨⟨_, ho, rfl⟩, .inl (Nat.le_refl _)⟩
      · refine Mine.hideG fun GG back => ?_
        obtain ⟨ob, q1, q2⟩ := st.own b y e
        refine back ?_
        clear back
        exact ⟨⟨ob, hk b ob q1, q2⟩, .inr ⟨y, e⟩⟩
  exact ⟨m, _, st1, h _ _ oi n1 n0 (Nat.succ_ne_self _) ⟨hc, hd⟩⟩
theorem W_ForEnum {elts : List Expr} {x1 : Nat} {tp pos : Pos} {iter : Expr} {body : List Stmt} {Q : Flow → Loc → AHeap → Prop} (hh : k.A.handled = none)
    (h : WV k (eval iter k.env) m H fun xv m1 H1 => ∃ e it oi a xs H0, xv = .ref e ∧ H1 = upd (upd H0 it (.raw oi)) e (.raw (enObj it 0 .none)) ∧ H0 e = none ∧ H0 it = none ∧ e ≠ it ∧ isLi oi a 0 ∧ ∃ I : Nat → Loc → AHeap → Prop, I 0 m1 H0 ∧
      (∀ i m2 H2, I i m2 H2 → H2 a = some (.list xs)) ∧
      (∀ i x m2 H2 p, xs[i]? = some x → I i m2 H2 → H2 p = none → WAs k (.Tuple elts x1 tp) (.ref p) m2 (upd H2 p (.tup [.int i, x])) fun m3 H3 => WF k (execs body k.env) m3 H3 (loopQ k Q (I (i + 1)))) ∧ ∀ m2 H2, I xs.length m2 H2 → Q .next m2 H2)
    (hs : ∀ x, foldedSetIterable iter k.env x = pure x := by intro _; rfl) : W k (exec (.For (.Tuple elts x1 tp) iter body [] pos) k.env) m H Q := fun B s st =>
  wpAny_For (wpAny_mono (h B s st) (fun x s1 hx1 => by
    refine Mine.hideG fun GG back => ?_
    obtain ⟨m1, H1, st1, e, it, oi, a, xs, H0, e1, rfl, he0, hi0, hne, hli, I, h0, hok, step, fin⟩ := hx1
    refine back ?_
    clear back
    obtain rfl := er_ref e1
    have hE1 : (upd (upd H0 it (.raw oi)) e (.raw (enObj it 0 .none))) e = some (.raw (enObj it 0 .none)) := upd_same
    refine Mine.hideG fun GG back => ?_
    obtain ⟨obe, q1, q2⟩ := st1.own _ _ hE1
    refine back ?_
    clear back
    obtain rfl : obe = enObj it 0 .none := q2
    refine wpAny_pyIter_enum q1 ?_
    exact codeAny_forLoop_any
      (fun j s' => ∃ i m' H' ob old, j + i = xs.length ∧ isLi ob a i ∧ I i m' H' ∧ H' e = none ∧ H' it = none ∧ St k.c k.o k.env B m' (upd (upd H' it (.raw ob)) e (.raw (enObj it i old))) s') (by
        intro j s' hg
        refine Mine.hideG fun GG back => ?_
        obtain ⟨i, m', H', ob, old, hj, hat, hI, n1, n2, st'⟩ := hg
        refine back ?_
        clear back
        have hEe : (upd (upd H' it (.raw ob)) e (.raw (enObj it i old))) e = some (.raw (enObj it i old)) := upd_same
        have hEi : (upd (upd H' it (.raw ob)) e (.raw (enObj it i old))) it = some (.raw ob) := upd_ne (Ne.symm hne) upd_same
        have hX : Ext H' (upd (upd H' it (.raw ob)) e (.raw (enObj it i old))) := fun b y q => upd_ne (fun z => by rw [z, n1] at q; cases q) (upd_ne (fun z => by rw [z, n2] at q; cases q) q)
        refine Mine.hideG fun GG back => ?_
        obtain ⟨obe, q1, q2⟩ := st'.own _ _ hEe
        refine back ?_
        clear back
        obtain rfl : obe = enObj it i old := q2
        refine Mine.hideG fun GG back => ?_
        obtain ⟨obi, q3, q4⟩ := st'.own _ _ hEi
        refine back ?_
        clear back
        obtain rfl : obi = ob := q4
        have hit : s'.heap.IsListIter it a i := ⟨obi, q3, hat.1, hat.2⟩
        refine Mine.hideG fun GG back => ?_
        obtain ⟨us, n, hl, rfl⟩ := st'.listAt (hX _ _ (hok _ _ _ hI))
        refine back ?_
        clear back
        have hL : s'.heap.IsList a us.toArray := ⟨_, hl, rfl, n, rfl⟩
        have stl := st'.less hX
        have hBe := st'.disB _ _ hEe
        have hBi := st'.disB _ _ hEi
        have hbe := st'.disBase _ _ hEe
        have hbi := st'.disBase _ _ hEi
        have hpe : e ∉ places k.env := fun q => by have := (st'.pl e q).1; rw [hEe] at this; cases this
        have hpi : it ∉ places k.env := fun q => by have := (st'.pl it q).1; rw [hEi] at this; cases this
        rw [List.length_map] at hj
        by_cases hi : i < us.length
        · have hx : us.toArray[i]? = some us[i] := by simp [hi]
          refine wpAny_pyNext_enum_item q1 hit hL hx hne fun h₁ heo hit₁ ht₁ hz₁ hk₁ => ?_
          refine wpAny_letOwnedTupleGo_enum heo fun h₂ he₂ hs₂ => ?_
          replace hs₂ : Heap.SameBut e h₁ h₂ := hs₂
          have hlt : e < s'.heap.objs.size := Heap.lt_size q1
          have nsz : H' s'.heap.objs.size = none := (stl.fresh (none_ge (Nat.le_refl _))).1
          refine Mine.hideG fun GG back => ?_
          obtain ⟨obi2, q5, q6, q7⟩ := hit₁
          refine back ?_
          clear back
          have hk₂ : ∀ b ob, ¬ (b = e ∨ b = it) → s'.heap.get? b = some ob → h₂.get? b = some ob := fun b ob z q => hs₂.extBut b ob (fun y => z (.inl y)) (hk₁ b ob (fun y => z (.inl y)) (fun y => z (.inr y)) q)
          have st2 : St k.c k.o k.env B m' (upd H' s'.heap.objs.size (.tup [.int i, er us[i]])) { s' with heap := h₂, toks := s'.toks + 1 } := by
            refine st'.sweep (fun b => b = e ∨ b = it) hk₂ (fun b z => ?_) (fun b y q => ?_) (Nat.le_add_left 1 _)
            · rcases z with rfl | rfl
              · exact ⟨_, hEe⟩
              · exact ⟨_, hEi⟩
            · rcases upd_some q with ⟨rfl, rfl⟩ | ⟨ne, q⟩
              · exact ⟨⟨_, hs₂.extBut _ _ (Nat.ne_of_gt hlt) ht₁, [.int i s'.toks, us[i]], 0, rfl, rfl⟩, .inl (Nat.le_refl _)⟩
              · refine Mine.hideG fun GG back => ?_
                obtain ⟨ob', z1, z2⟩ := stl.own b y q
                refine back ?_
                clear back
                exact ⟨⟨ob', hk₂ b ob' (fun z => by rcases z with rfl | rfl; rw [n1] at q; cases q; rw [n2] at q; cases q) z1, z2⟩, .inr ⟨y, hX b y q⟩⟩
          have hsz : ∀ b, b < s'.heap.objs.size → b ≠ s'.heap.objs.size := fun b q => Nat.ne_of_lt q
          have ui : (upd H' s'.heap.objs.size (.tup [.int i, er us[i]])) it = none := upd_none (Nat.ne_of_lt (Heap.lt_size q3)) n2
          have ue : (upd H' s'.heap.objs.size (.tup [.int i, er us[i]])) e = none := upd_none (Nat.ne_of_lt hlt) n1
          have q5' : h₂.get? it = some obi2 := hs₂.extBut _ _ (Ne.symm hne) q5
          have st3 := (st2.hide (l := false) q5' ui hpi hBi)
          have hBe' : upd B it (obi2, false) e = none := upd_none hne hBe
          have st4 := st3.hide (l := false) (a := e) (ob := enObj it ((i : Int) + 1) us[i]) he₂ ue hpe hBe'
          refine wpAny_mono (step i (er us[i]) m' H' _ (by rw [List.getElem?_map]; simp [hi]) hI nsz (.ref s'.heap.objs.size) rfl _ _ st4) (fun _ s₂ ⟨m2, H2, st5, q8⟩ => ?_) fun e s₂ he => k.pass e s₂ he
          refine wpAny_mono (q8 _ _ st5) (fun f s₃ ⟨m3, H3, st6, q9⟩ => ?_) fun e s₂ he => k.pass e s₂ he
          have st7 := St.unhide st1 hBi (St.unhide (st2.hide (l := false) q5' ui hpi hBi) hBe' st6)
          have again : I (i + 1) m3 H3 → ∃ i m' H' ob old, j - 1 + i = (us.map er).length ∧ isLi ob a i ∧ I i m' H' ∧ H' e = none ∧ H' it = none ∧ St k.c k.o k.env B m' (upd (upd H' it (.raw ob)) e (.raw (enObj it i old))) s₃ := fun hI3 => by
            have r1 : H3 e = none := by
              cases z : H3 e with
              | none => rfl
              | some y => have := st6.disB e y z; rw [upd_same] at this; cases this
            have r2 : H3 it = none := by
              cases z : H3 it with
              | none => rfl
              | some y => have := st6.disB it y z; rw [show upd (upd B it (obi2, false)) e (enObj it ((i : Int) + 1) us[i], false) it = some (obi2, false) from upd_ne (Ne.symm hne) upd_same] at this; cases this
            have g1 : s₃.heap.get? it = some obi2 := by
              refine Mine.hideG fun GG back => ?_
              obtain ⟨sl, z1, z2⟩ := st6.keep it obi2 false (upd_ne (Ne.symm hne) upd_same)
              refine back ?_
              clear back
              rw [z1, z2 rfl]
            have g2 : s₃.heap.get? e = some (enObj it ((i : Int) + 1) us[i]) := by
              refine Mine.hideG fun GG back => ?_
              obtain ⟨sl, z1, z2⟩ := st6.keep e (enObj it ((i : Int) + 1) us[i]) false upd_same
              refine back ?_
              clear back
              rw [z1, z2 rfl]
            refine ⟨i + 1, m3, H3, obi2, us[i], by rw [List.length_map]; omega, ⟨q6, q7⟩, hI3, r1, r2, ?_⟩
            have z := (st7.adopt (y := .raw obi2) ⟨_, g1, rfl⟩ r2 hBi hpi hbi)
            exact z.adopt (y := .raw (enObj it ((i + 1 : Nat) : Int) us[i])) ⟨_, g2, rfl⟩ (upd_none hne r1) hBe hpe hbe
          cases f with
          | next => exact ⟨j - 1, by omega, again q9⟩
          | cont => exact ⟨j - 1, by omega, again q9⟩
          | brk => exact ⟨m3, H3, st7, q9⟩
          | ret v => exact ⟨m3, H3, st7, q9⟩
        · have hi' : i = us.length := by omega
          subst hi'
          refine wpAny_pyNext_enum_end hh q1 hit hL (by simp) fun h' hk => ?_
          have hk' : ∀ b ob, ¬ (b = it) → s'.heap.get? b = some ob → h'.get? b = some ob := fun b ob z q => hk b ob z q
          refine wpAny_execs_nil ⟨m', H', st'.sweep (tk := s'.toks) (fun b => b = it) hk' (fun b z => ⟨.raw obi, by rw [z]; exact hEi⟩) (fun b y q => ?_) st'.tk, fin _ _ ?_⟩
          · refine Mine.hideG fun GG back => ?_
            obtain ⟨ob', z1, z2⟩ := stl.own b y q
            refine back ?_
            clear back
            exact ⟨⟨ob', hk' b ob' (fun z => by rw [z, n2] at q; cases q) z1, z2⟩, .inr ⟨y, hX b y q⟩⟩
          · rw [List.length_map]; exact hI)
      xs.length ⟨0, m1, H0, oi, .none, rfl, hli, h0, he0, hi0, st1⟩) fun _ _ x => x) hs
end
end Mine
namespace Mine
structure Blt (c : Cx) : Prop where
  len : Gl c "len" (.builtin "len")
  isinstance : Gl c "isinstance" (.builtin "isinstance")
  list : Gl c "list" (.type "list")
  dict : Gl c "dict" (.type "dict")
  range : Gl c "range" (.type "range")
  keyError : Gl c "KeyError" (.type "KeyError")
  type : Gl c "type" (.type "type")
  tuple : Gl c "tuple" (.type "tuple")
  enum : Gl c "enumerate" (.type "enumerate")
  imp : importsNone c.p = true
  tree : c.prog.given.tree = none
theorem W_hide {k : Wk} {x : Sem Flow} {m : Loc} {H : AHeap} {Q : Flow → Loc → AHeap → Prop} (h : ∀ QL : Flow → Loc → AHeap → Prop, (∀ f m H, Q f m H → QL f m H) → W k x m H QL) : W k x m H Q := h Q fun _ _ _ q => q
noncomputable def GwV (acc : Bool) (Q : Addr → AHeap → Prop) (X : String → Option (List V) → AHeap → Prop) (r : List Str) (v : V) (H : AHeap) : Prop :=
  tyOf H v ≠ none ∧ (∀ a xs, v = .ref a → H a = some (.list xs) → xs.length < 2 ^ 62) ∧ match lastOf acc H v with
      | none => X "IndexError" none H
      | some w => tyOf H w ≠ none ∧ if isDict H w = true then ∃ d, w = .ref d ∧ Gw acc Q X r d H else ∀ t, X "KeyError" (some [.str nestMsg t]) H
theorem isDict_ty {H : AHeap} {w : V} : decide (tyOf H w = some "dict") = isDict H w := by
  cases w with
  | ref a =>
    rcases e : H a with _ | x
    · rw [Bool.eq_iff_iff, decide_eq_true_iff]; delta tyOf isDict; dsimp only; rw [e]; exact ⟨fun q => absurd q (by decide), fun q => absurd q (by decide)⟩
    · rw [Bool.eq_iff_iff, decide_eq_true_iff]; delta tyOf isDict; dsimp only; rw [e]; cases x <;> dsimp only <;> first | exact ⟨fun _ => rfl, fun _ => rfl⟩ | exact ⟨fun q => absurd q (by decide), fun q => absurd q (by decide)⟩
  | _ => rfl
theorem Gw.cons {acc : Bool} {Q : Addr → AHeap → Prop} {X : String → Option (List V) → AHeap → Prop} {x : Str} {r : List Str} {cont : Addr} {H : AHeap} (h : Gw acc Q X (x :: r) cont H) :
    ∃ kvs ep, H cont = some (.dict kvs ep) ∧ kvs.length < sizeLine ∧ ((getK kvs (.inr x) = none ∧ ∀ d, H d = none → Gw acc Q X r d (upd (upd H d (.dict [] 0)) cont (.dict (kvs ++ [(.inr x, .ref d)]) (ep + 1)))) ∨ ∃ v, getK kvs (.inr x) = some v ∧ GwV acc Q X r v H) := by
  refine Mine.hideG fun GG back => ?_
  obtain ⟨kvs, ep, h1, h2, h3⟩ := h
  refine back ?_
  clear back
  refine ⟨kvs, ep, h1, h2, ?_⟩
  cases e : getK kvs (.inr x) with
  | none => rw [e] at h3; exact .inl ⟨rfl, h3⟩
  | some v => rw [e] at h3; exact .inr ⟨v, rfl, h3⟩
section
variable {k : Wk} {m : Loc} {H : AHeap}
end
theorem small_ft {a b : Nat} (ha : a < 2 ^ 59) (hb : b < 2 ^ 59) : Builtin.Range.small a b 1 = true := by
  exact small_one (by lia) (by lia) (by lia) (by lia)
theorem clip_nat {n i : Nat} (h : i ≤ n) : clipAt n (i : Int) = i := by
  unfold clipAt
  rw [if_neg (Int.not_lt.mpr (Int.natCast_nonneg i)), Int.min_eq_left (Int.ofNat_le.mpr h), Int.max_eq_right (Int.natCast_nonneg i), Int.toNat_natCast]
theorem clip_big {n i : Nat} (h : n ≤ i) : clipAt n (i : Int) = n := by
  unfold clipAt
  rw [if_neg (Int.not_lt.mpr (Int.natCast_nonneg i)), Int.min_eq_right (Int.ofNat_le.mpr h), Int.max_eq_right (Int.natCast_nonneg n), Int.toNat_natCast]
theorem sliceV_take {α : Type} (xs : List α) (n : Nat) : sliceV xs none (some (n : Int)) = xs.take n := by
  unfold sliceV
  simp only [Option.elim, List.drop_zero, Nat.sub_zero]
  rcases Nat.le_total n xs.length with h | h
  · rw [clip_nat h]
  · rw [clip_big h, List.take_of_length_le (Nat.le_refl _), List.take_of_length_le h]
theorem clip_neg1 : ∀ n : Nat, clipAt n (-1) = n - 1
  | 0 => by decide
  | n + 1 => by
    unfold clipAt
    rw [if_pos (by decide), show (-1 : Int) + ((n + 1 : Nat) : Int) = (n : Int) by lia, Int.min_eq_left (Int.ofNat_le.mpr (Nat.le_succ n)), Int.max_eq_right (Int.natCast_nonneg n)]
    rfl
theorem sliceV_dropLast' {α : Type} (xs : List α) : sliceV xs none (some (-1)) = xs.dropLast := by
  unfold sliceV
  simp only [Option.elim, List.drop_zero, Nat.sub_zero]
  rw [List.dropLast_eq_take, clip_neg1]
theorem swaps_List {es : List Expr} {p : Pos} {t : Option Expr} {n : Nat} {env : Env} : swapsWith (.List es p) t n env = pure false := rfl
theorem swaps_IfExp {a b c : Expr} {p : Pos} {t : Option Expr} {n : Nat} {env : Env} : swapsWith (.IfExp a b c p) t n env = pure false := rfl
theorem setL_off {m : Loc} {x y : Str} {v : V} (h : y ≠ x) : setL m x v y = m y := by simp [setL, h]
theorem upd_eq_none {H : AHeap} {a b : Addr} {x : AObj} : upd H a x b = none ↔ b ≠ a ∧ H b = none := by
  unfold upd
  by_cases h : b = a
  · simp [h]
  · simp [h]
theorem WPairs_nil {k : Wk} {m : Loc} {H : AHeap} {Q : List (V × V) → Loc → AHeap → Prop} (h : Q [] m H) : WPairs k [] [] m H Q := h
theorem WPairs_cons {k : Wk} {m : Loc} {H : AHeap} {ke ve : Expr} {ks : List (Option Expr)} {vs : List Expr} {Q : List (V × V) → Loc → AHeap → Prop} (h : WV k (eval ke k.env) m H fun kv m1 H1 => WV k (eval ve k.env) m1 H1 fun vv m2 H2 => WPairs k ks vs m2 H2 fun ps => Q ((kv, vv) :: ps)) : WPairs k (some ke :: ks) (ve :: vs) m H Q := h
theorem DefAt.obj {c : Cx} {f : Addr} {st : Stmt} (F : DefAt c f st) : ∃ fo fd, c.base.get? f = some fo ∧ fo.data = .func fd := by
  refine Mine.hideG fun GG back => ?_
  obtain ⟨fd, F1, _⟩ := F.at_
  obtain ⟨fo, h1, h2⟩ := F1.obj
  refine back ?_
  clear back
  exact ⟨fo, fd, h1, h2⟩
section
variable {k : Wk} {m : Loc} {H : AHeap}
end
noncomputable def strsV (ps : List (Str × Tok)) : List V := ps.map fun p => .str p.1 p.2
theorem rdStrs {H : AHeap} : ∀ ps : List (Str × Tok), RdAll H ((ps.map (·.1)).map .str) (strsV ps)
  | [] => rfl
  | p :: ps => ⟨_, _, rfl, ⟨_, rfl⟩, rdStrs ps⟩
section
variable {k : Wk} {m : Loc} {H : AHeap}
end
end Mine
namespace Mine
inductive T (α : Type) where
  | tab (a : α) (ks : List (Str × T α)) | lst (a : α) (xs : List (T α)) | int (i : Int) | txt (a : α)
section
variable {α : Type}
noncomputable def kidAt : List (Str × T α) → Str → Option (T α)
  | [], _ => none
  | p :: r, n => if p.1 = n then some p.2 else kidAt r n
noncomputable def setKid : List (Str × T α) → Str → T α → List (Str × T α)
  | [], n, t => [(n, t)]
  | p :: r, n, t => if p.1 = n then (p.1, t) :: r else p :: setKid r n t
theorem kidAt_set {ks : List (Str × T α)} {n m : Str} {t : T α} : kidAt (setKid ks n t) m = if n = m then some t else kidAt ks m := by
  induction ks with
  | nil => rfl
  | cons p r ih =>
    show kidAt (if p.1 = n then (p.1, t) :: r else p :: setKid r n t) m = _
    by_cases q : p.1 = n
    · rw [if_pos q]
      show (if p.1 = m then some t else kidAt r m) = _
      by_cases z : n = m
      · rw [if_pos (q.trans z), if_pos z]
      · rw [if_neg (fun e => z (q.symm.trans e)), if_neg z]
        show _ = if p.1 = m then some p.2 else kidAt r m
        rw [if_neg (fun e => z (q.symm.trans e))]
    · rw [if_neg q]
      show (if p.1 = m then some p.2 else kidAt (setKid r n t) m) = _
      rw [ih]
      show _ = if n = m then some t else if p.1 = m then some p.2 else kidAt r m
      by_cases z : n = m
      · rw [if_pos z, if_neg (fun e => q (e.trans z.symm))]
        rw [if_pos z]
      · rw [if_neg z, if_neg z]
theorem set_set {ks : List (Str × T α)} {n : Str} {t u : T α} : setKid (setKid ks n t) n u = setKid ks n u := by
  induction ks with
  | nil => show (if n = n then (n, u) :: [] else _) = _; rw [if_pos rfl]; rfl
  | cons p r ih =>
    by_cases q : p.1 = n
    · show setKid (if p.1 = n then (p.1, t) :: r else p :: setKid r n t) n u = if p.1 = n then (p.1, u) :: r else p :: setKid r n u
      rw [if_pos q, if_pos q]
      show (if p.1 = n then (p.1, u) :: r else _) = _
      rw [if_pos q]
    · show setKid (if p.1 = n then (p.1, t) :: r else p :: setKid r n t) n u = if p.1 = n then (p.1, u) :: r else p :: setKid r n u
      rw [if_neg q, if_neg q]
      show (if p.1 = n then _ else p :: setKid (setKid r n t) n u) = _
      rw [if_neg q, ih]
theorem set_comm {ks : List (Str × T α)} {n m : Str} {t u : T α} (h : kidAt ks n ≠ none) (hnm : m ≠ n) : setKid (setKid ks m u) n t = setKid (setKid ks n t) m u := by
  induction ks with
  | nil => exact absurd rfl h
  | cons p r ih =>
    by_cases q : p.1 = n
    · have qm : p.1 ≠ m := fun e => hnm (e.symm.trans q)
      show setKid (if p.1 = m then (p.1, u) :: r else p :: setKid r m u) n t = setKid (if p.1 = n then (p.1, t) :: r else p :: setKid r n t) m u
      rw [if_neg qm, if_pos q]
      show (if p.1 = n then (p.1, t) :: setKid r m u else _) = if p.1 = m then _ else (p.1, t) :: setKid r m u
      rw [if_pos q, if_neg qm]
    · have h' : kidAt r n ≠ none := fun e => h (by
        show (if p.1 = n then some p.2 else kidAt r n) = none
        rw [if_neg q]; exact e)
      show setKid (if p.1 = m then (p.1, u) :: r else p :: setKid r m u) n t = setKid (if p.1 = n then (p.1, t) :: r else p :: setKid r n t) m u
      rw [if_neg q]
      by_cases z : p.1 = m
      · rw [if_pos z]
        show (if p.1 = n then _ else (p.1, u) :: setKid r n t) = if p.1 = m then (p.1, u) :: setKid r n t else _
        rw [if_neg q, if_pos z]
      · rw [if_neg z]
        show (if p.1 = n then _ else p :: setKid (setKid r m u) n t) = if p.1 = m then _ else p :: setKid (setKid r n t) m u
        rw [if_neg q, if_neg z, ih h']
noncomputable def onLast (f : T α → T α) (xs : List (T α)) : List (T α) := match xs.getLast? with
  | none => []
  | some l => xs.dropLast ++ [f l]
noncomputable def mrg (M : T α → T α → T α) (x y : T α) : T α := match y with
  | .lst _ ts => match x with
    | .lst a xs => .lst a (xs ++ ts)
    | .tab a ks => ts.foldl M (.tab a ks)
    | x => x
  | .tab b ks => match x with
    | .tab a js => M (.tab a js) (.tab b ks)
    | .lst a xs => .lst a (onLast (fun l => match l with | .tab c js => M (.tab c js) (.tab b ks) | l => l) xs)
    | x => x
  | _ => x
noncomputable def put1 (M : T α → T α → T α) (ks : List (Str × T α)) (p : Str × T α) : List (Str × T α) :=
  if p.1 = Str.ofString "at" then setKid ks p.1 p.2 else match kidAt ks p.1 with
    | none => setKid ks p.1 p.2
    | some x => setKid ks p.1 (mrg M x p.2)
noncomputable def M : Nat → T α → T α → T α
  | 0, x, _ => x
  | d + 1, .tab a ks, .tab _ js => .tab a (js.foldl (put1 (M d)) ks)
  | _ + 1, x, _ => x
end
end Mine
namespace Mine
section
variable {α : Type}
noncomputable def res (M : T α → T α → T α) (o : Option (T α)) (n : Str) (t : T α) : T α := if n = Str.ofString "at" then t else match o with
  | none => t
  | some x => mrg M x t
theorem put1_eq {M : T α → T α → T α} {ks : List (Str × T α)} {p : Str × T α} : put1 M ks p = setKid ks p.1 (res M (kidAt ks p.1) p.1 p.2) := by
  unfold put1 res
  by_cases q : p.1 = Str.ofString "at"
  · rw [if_pos q, if_pos q]
  · rw [if_neg q, if_neg q]
    cases kidAt ks p.1 <;> rfl
theorem set_none {ks : List (Str × T α)} {n : Str} {t : T α} (h : kidAt ks n = none) : setKid ks n t = ks ++ [(n, t)] := by
  induction ks with
  | nil => rfl
  | cons p r ih =>
    by_cases q : p.1 = n
    · have : kidAt (p :: r) n = some p.2 := if_pos q
      rw [this] at h; cases h
    · have e : kidAt (p :: r) n = kidAt r n := if_neg q
      rw [e] at h
      show (if p.1 = n then _ else p :: setKid r n t) = _
      rw [if_neg q, ih h]; rfl
theorem kidAt_split {ks : List (Str × T α)} {n : Str} {t : T α} (h : kidAt ks n = some t) : ∃ l r, ks = l ++ (n, t) :: r ∧ ∀ v, setKid ks n v = l ++ (n, v) :: r := by
  induction ks with
  | nil => cases h
  | cons p r ih =>
    by_cases q : p.1 = n
    · have e : kidAt (p :: r) n = some p.2 := if_pos q
      rw [e] at h
      have h := Option.some.inj h
      exact ⟨[], r, by rw [← h, ← q]; rfl, fun v => by
        show (if p.1 = n then (p.1, v) :: r else _) = _
        rw [if_pos q, q]; rfl⟩
    · have e : kidAt (p :: r) n = kidAt r n := if_neg q
      rw [e] at h
      obtain ⟨l, r', e1, e2⟩ := ih h
      exact ⟨p :: l, r', by rw [e1]; rfl, fun v => by
        show (if p.1 = n then _ else p :: setKid r n v) = _
        rw [if_neg q, e2]; rfl⟩
theorem put1_comm {M : T α → T α → T α} {ks : List (Str × T α)} {p q : Str × T α} (h : kidAt ks p.1 ≠ none) (hn : q.1 ≠ p.1) : put1 M (put1 M ks q) p = put1 M (put1 M ks p) q := by
  rw [put1_eq, put1_eq, put1_eq (ks := put1 M ks p), put1_eq (p := p) (ks := ks), kidAt_set, kidAt_set, if_neg hn, if_neg (Ne.symm hn)]
  exact set_comm h hn
theorem kid_put {M : T α → T α → T α} {ks : List (Str × T α)} {p : Str × T α} {n : Str} (h : kidAt ks n ≠ none) : kidAt (put1 M ks p) n ≠ none := by
  rw [put1_eq, kidAt_set]
  split
  · simp
  · exact h
theorem put1_has {M : T α → T α → T α} {ks : List (Str × T α)} {p : Str × T α} : kidAt (put1 M ks p) p.1 ≠ none := by
  rw [put1_eq, kidAt_set, if_pos rfl]; simp
theorem fold_comm {M : T α → T α → T α} {p : Str × T α} : ∀ (ys ks : List (Str × T α)), kidAt ks p.1 ≠ none → p.1 ∉ ys.map (·.1) → ys.foldl (put1 M) (put1 M ks p) = put1 M (ys.foldl (put1 M) ks) p
  | [], _, _, _ => rfl
  | q :: ys, ks, h, hn => by
    rw [List.map_cons, List.mem_cons, not_or] at hn
    rw [List.foldl_cons, List.foldl_cons, ← put1_comm h (Ne.symm hn.1)]
    exact fold_comm ys _ (kid_put h) hn.2
theorem put1_twice {M : T α → T α → T α} {ks : List (Str × T α)} {n : Str} {t s : T α} (h : n ≠ Str.ofString "at" → ∀ x, kidAt ks n = some x → mrg M (mrg M x t) s = mrg M x (mrg M t s)) : put1 M (put1 M ks (n, t)) (n, s) = put1 M ks (n, res M (some t) n s) := by
  rw [put1_eq, put1_eq (p := (n, t)), put1_eq (p := (n, res M (some t) n s)), set_set]
  show setKid ks n (res M (kidAt (setKid ks n (res M (kidAt ks n) n t)) n) n s) = setKid ks n (res M (kidAt ks n) n (res M (some t) n s))
  rw [kidAt_set, if_pos rfl]
  congr 1
  unfold res
  by_cases q : n = Str.ofString "at"
  · rw [if_pos q, if_pos q, if_pos q]
  · simp only [if_neg q]
    cases e : kidAt ks n with
    | none => rfl
    | some x => exact h q x e
noncomputable def takeM (R : T α → T α → Prop) (t b : T α) : Prop := match b with
  | .lst _ _ => ∃ a ts, t = .lst a ts
  | .tab e js => (∃ c ks, t = .tab c ks ∧ R (.tab c ks) (.tab e js)) ∨ ∃ a ts c ks, t = .lst a ts ∧ ts.getLast? = some (.tab c ks) ∧ R (.tab c ks) (.tab e js)
  | _ => False
noncomputable def Takes : Nat → T α → T α → Prop
  | d + 1, .tab _ ks, .tab _ [p] => p.1 = Str.ofString "at" ∨ ∀ t, kidAt ks p.1 = some t → takeM (Takes d) t p.2
  | 0, _, _ => True
  | _ + 1, _, .tab _ [] => True
  | _ + 1, _, _ => False
noncomputable def OwnT : Nat → T α → Prop
  | d + 1, .tab _ ks => (ks.map (·.1)).Nodup ∧ ∀ p ∈ ks, OwnT d p.2 ∧ ∀ a ts, p.2 = .lst a ts → ∀ u ∈ ts, OwnT d u
  | _, _ => True
theorem M_tab {d : Nat} {a : α} {ks : List (Str × T α)} {y : T α} : ∃ js, M d (.tab a ks) y = .tab a js := by
  cases d with
  | zero => exact ⟨ks, rfl⟩
  | succ d => cases y <;> exact ⟨_, rfl⟩
theorem foldM_tab {d : Nat} : ∀ (ts : List (T α)) (a : α) (ks : List (Str × T α)), ∃ js, ts.foldl (M d) (.tab a ks) = .tab a js
  | [], a, ks => ⟨ks, rfl⟩
  | t :: ts, a, ks => by
    obtain ⟨js, e⟩ := M_tab (d := d) (a := a) (ks := ks) (y := t)
    rw [List.foldl_cons, e]
    exact foldM_tab ts a js
theorem onLast_snoc {f : T α → T α} {xs : List (T α)} {l : T α} : onLast f (xs ++ [l]) = xs ++ [f l] := by
  unfold onLast
  rw [List.getLast?_append]
  simp
theorem getLast_snoc {xs : List (T α)} {l : T α} (h : xs.getLast? = some l) : ∃ r, xs = r ++ [l] := by
  cases e : xs.reverse with
  | nil => rw [List.reverse_eq_nil_iff.mp e] at h; cases h
  | cons y r =>
    have : xs = r.reverse ++ [y] := by rw [← List.reverse_reverse xs, e, List.reverse_cons]
    rw [this] at h ⊢
    simp at h
    exact ⟨_, by rw [h]⟩
theorem M_assoc : ∀ (d : Nat) (a c e : α) (ks js : List (Str × T α)) (b : T α), OwnT d (.tab c js) → Takes d (.tab c js) b → M d (.tab a ks) (M d (.tab c js) b) = M d (M d (.tab a ks) (.tab c js)) b
  | 0, _, _, _, _, _, _, _, _ => rfl
  | d + 1, a, c, e, ks, js, b, ho, ht => by
    match b, ht with
    | .tab _ [], _ => rfl
    | .tab f [p], ht =>
      obtain ⟨n, s⟩ := p
      show T.tab a ((put1 (M d) js (n, s)).foldl (put1 (M d)) ks) = .tab a (put1 (M d) (js.foldl (put1 (M d)) ks) (n, s))
      congr 1
      cases hk : kidAt js n with
      | none =>
        rw [put1_eq]
        show (setKid js n (res (M d) (kidAt js n) n s)).foldl _ ks = _
        rw [hk, set_none hk, List.foldl_append]
        have : res (M d) none n s = s := by unfold res; split <;> rfl
        rw [this]; rfl
      | some t =>
        obtain ⟨l, r, e1, e2⟩ := kidAt_split hk
        have hnd := ho.1
        have hnr : n ∉ r.map (·.1) := by
          rw [e1, List.map_append, List.map_cons] at hnd
          exact (List.nodup_cons.mp (List.nodup_append.mp hnd).2.1).1
        rw [put1_eq]
        show (setKid js n (res (M d) (kidAt js n) n s)).foldl _ ks = _
        rw [hk, e2, List.foldl_append, List.foldl_cons]
        conv => rhs; rw [e1, List.foldl_append, List.foldl_cons]
        rw [← fold_comm (M := M d) (p := (n, s)) r (put1 (M d) (l.foldl (put1 (M d)) ks) (n, t)) (put1_has (p := (n, t))) hnr]
        congr 1
        refine (put1_twice fun q x hx => ?_).symm
        have htk : takeM (Takes d) t s := (ht.resolve_left q) t hk
        have hot := ho.2 (n, t) (by rw [e1]; simp)
        obtain ⟨ho1, ho2⟩ := hot
        match s, htk with
        | .lst sa ss, htk =>
          obtain ⟨ta, ts, rfl⟩ := htk
          cases x with
          | lst xa xs => show T.lst xa (xs ++ ts ++ ss) = .lst xa (xs ++ (ts ++ ss)); rw [List.append_assoc]
          | tab xa xk =>
            show mrg (M d) (ts.foldl (M d) (.tab xa xk)) (.lst sa ss) = (ts ++ ss).foldl (M d) (.tab xa xk)
            rw [List.foldl_append]
            obtain ⟨zk, ez⟩ := foldM_tab (d := d) ts xa xk
            rw [ez]; rfl
          | int i => rfl
          | txt _ => rfl
        | .tab sa ss, htk =>
          rcases htk with ⟨tc, tk, rfl, hr⟩ | ⟨ta, ts, tc, tk, rfl, hl, hr⟩
          · cases x with
            | tab xa xk =>
              have IH := M_assoc d xa tc tc xk tk (.tab sa ss) ho1 hr
              show mrg (M d) (M d (.tab xa xk) (.tab tc tk)) (.tab sa ss) = mrg (M d) (.tab xa xk) (M d (.tab tc tk) (.tab sa ss))
              obtain ⟨zk, ez⟩ := M_tab (d := d) (a := xa) (ks := xk) (y := .tab tc tk)
              obtain ⟨wk, ew⟩ := M_tab (d := d) (a := tc) (ks := tk) (y := .tab sa ss)
              rw [ez] at IH ⊢
              rw [ew] at IH ⊢
              exact IH.symm
            | lst xa xs =>
              obtain ⟨wk, ew⟩ := M_tab (d := d) (a := tc) (ks := tk) (y := .tab sa ss)
              show mrg (M d) (.lst xa (onLast _ xs)) (.tab sa ss) = mrg (M d) (.lst xa xs) (M d (.tab tc tk) (.tab sa ss))
              rw [ew]
              show T.lst xa (onLast _ (onLast _ xs)) = .lst xa (onLast _ xs)
              congr 1
              cases hx : xs.getLast? with
              | none =>
                have : xs = [] := List.getLast?_eq_none_iff.mp hx
                rw [this]; rfl
              | some y =>
                obtain ⟨rr, rfl⟩ := getLast_snoc hx
                rw [onLast_snoc, onLast_snoc, onLast_snoc]
                congr 2
                cases y with
                | tab yc yk =>
                  have IH := M_assoc d yc tc tc yk tk (.tab sa ss) ho1 hr
                  obtain ⟨zk, ez⟩ := M_tab (d := d) (a := yc) (ks := yk) (y := .tab tc tk)
                  rw [ez, ew] at IH
                  show (match M d (.tab yc yk) (.tab tc tk) with | .tab c js => M d (.tab c js) (.tab sa ss) | l => l) = M d (.tab yc yk) (.tab tc wk)
                  rw [ez]
                  exact IH.symm
                | lst _ _ => rfl
                | int _ => rfl
                | txt _ => rfl
            | int i =>
              obtain ⟨wk, ew⟩ := M_tab (d := d) (a := tc) (ks := tk) (y := .tab sa ss)
              show T.int i = mrg (M d) (.int i) (M d (.tab tc tk) (.tab sa ss))
              rw [ew]; rfl
            | txt u =>
              obtain ⟨wk, ew⟩ := M_tab (d := d) (a := tc) (ks := tk) (y := .tab sa ss)
              show T.txt u = mrg (M d) (.txt u) (M d (.tab tc tk) (.tab sa ss))
              rw [ew]; rfl
          · obtain ⟨rr, rfl⟩ := getLast_snoc hl
            have hol := ho2 ta _ rfl (.tab tc tk) (by simp)
            have em : mrg (M d) (.lst ta (rr ++ [.tab tc tk])) (.tab sa ss) = .lst ta (rr ++ [M d (.tab tc tk) (.tab sa ss)]) := by
              show T.lst ta (onLast _ _) = _
              rw [onLast_snoc]
            rw [em]
            cases x with
            | lst xa xs =>
              show T.lst xa (onLast _ (xs ++ (rr ++ [.tab tc tk]))) = .lst xa (xs ++ (rr ++ [M d (.tab tc tk) (.tab sa ss)]))
              rw [← List.append_assoc, onLast_snoc, List.append_assoc]
            | tab xa xk =>
              show mrg (M d) ((rr ++ [T.tab tc tk]).foldl (M d) (.tab xa xk)) (.tab sa ss) = (rr ++ [M d (.tab tc tk) (.tab sa ss)]).foldl (M d) (.tab xa xk)
              rw [List.foldl_append, List.foldl_append]
              obtain ⟨zk, ez⟩ := foldM_tab (d := d) rr xa xk
              rw [ez]
              show mrg (M d) (M d (.tab xa zk) (.tab tc tk)) (.tab sa ss) = M d (.tab xa zk) (M d (.tab tc tk) (.tab sa ss))
              rw [M_assoc d xa tc tc zk tk (.tab sa ss) hol hr]
              obtain ⟨yk, ey⟩ := M_tab (d := d) (a := xa) (ks := zk) (y := .tab tc tk)
              rw [ey]; rfl
            | int i => rfl
            | txt _ => rfl
end
end Mine
namespace Mine
section
variable {k : Wk} {m : Loc} {H : AHeap}
noncomputable def Lp (k : Wk) (test : Expr) (body : List Stmt) (Q : Flow → Loc → AHeap → Prop) : Nat → Loc → AHeap → Prop
  | 0, _, _ => False
  | j + 1, m, H => WT k test m H fun b m2 H2 => if b = true then WF k (execs body k.env) m2 H2 (loopQ k Q fun m3 H3 => Lp k test body Q j m3 H3) else Q .next m2 H2
theorem loopQ_mono {Q : Flow → Loc → AHeap → Prop} {I I' : Loc → AHeap → Prop} (h : ∀ m H, I m H → I' m H) {f : Flow} (q : loopQ k Q I f m H) : loopQ k Q I' f m H := by
  cases f with
  | next => exact h _ _ q
  | cont => exact h _ _ q
  | brk => exact q
  | ret v => exact q
theorem W_WhileL {test : Expr} {body : List Stmt} {pos : Pos} {Q : Flow → Loc → AHeap → Prop} (j : Nat) (h : Lp k test body Q j m H) : W k (exec (.While test body [] pos) k.env) m H Q :=
  W_While (fun n m H => Lp k test body Q n m H) j h fun j m1 H1 hl => by
    cases j with
    | zero => exact hl.elim
    | succ j =>
      refine W.mono hl fun b m2 H2 q => ?_
      cases b with
      | false => exact q
      | true => exact W.mono q fun f m3 H3 q => loopQ_mono (fun m H z => ⟨j, Nat.lt_succ_self j, z⟩) q
theorem Lp.succ {test : Expr} {body : List Stmt} {Q : Flow → Loc → AHeap → Prop} : ∀ (j : Nat) {m : Loc} {H : AHeap}, Lp k test body Q j m H → Lp k test body Q (j + 1) m H
  | 0, _, _, h => h.elim
  | j + 1, m, H, h => by
    refine W.mono h fun b m2 H2 q => ?_
    cases b with
    | false => exact q
    | true => exact W.mono q fun f m3 H3 q => loopQ_mono (fun m H z => Lp.succ j z) q
theorem Lp.le {test : Expr} {body : List Stmt} {Q : Flow → Loc → AHeap → Prop} {i j : Nat} (hij : i ≤ j) {m : Loc} {H : AHeap} (h : Lp k test body Q i m H) : Lp k test body Q j m H := by
  induction hij with
  | refl => exact h
  | step _ ih => exact Lp.succ _ ih
end
section
variable {α : Type}
theorem two_pass (u w : Str × T α → T α) : ∀ (js ks : List (Str × T α)), (js.map (·.1)).Nodup → js.foldl (fun z p => setKid z p.1 (w p)) (js.foldl (fun z p => setKid z p.1 (u p)) ks) = js.foldl (fun z p => setKid z p.1 (w p)) ks
  | [], _, _ => rfl
  | p :: r, ks, hn => by
    rw [List.map_cons, List.nodup_cons] at hn
    have comm : ∀ (r : List (Str × T α)) (z : List (Str × T α)), kidAt z p.1 ≠ none → p.1 ∉ r.map (·.1) → setKid (r.foldl (fun z p => setKid z p.1 (u p)) z) p.1 (w p) = r.foldl (fun z p => setKid z p.1 (u p)) (setKid z p.1 (w p)) := by
      intro r
      induction r with
      | nil => intro z _ _; rfl
      | cons q r ih =>
        intro z hz hq
        rw [List.map_cons, List.mem_cons, not_or] at hq
        rw [List.foldl_cons, List.foldl_cons, ih _ (by rw [kidAt_set]; split <;> simp_all) hq.2, set_comm hz (Ne.symm hq.1)]
    rw [List.foldl_cons, List.foldl_cons, List.foldl_cons, comm r _ (by rw [kidAt_set, if_pos rfl]; simp) hn.1, set_set]
    exact two_pass u w r _ hn.2
theorem put1_fold (M : T α → T α → T α) : ∀ (js ks ks0 : List (Str × T α)), (js.map (·.1)).Nodup → (∀ p ∈ js, kidAt ks p.1 = kidAt ks0 p.1) → js.foldl (put1 M) ks = js.foldl (fun z p => setKid z p.1 (res M (kidAt ks0 p.1) p.1 p.2)) ks
  | [], _, _, _, _ => rfl
  | p :: r, ks, ks0, hn, h => by
    rw [List.map_cons, List.nodup_cons] at hn
    rw [List.foldl_cons, List.foldl_cons, put1_eq, h p List.mem_cons_self]
    refine put1_fold M r _ ks0 hn.2 fun q hq => ?_
    rw [kidAt_set, if_neg (show ¬ p.1 = q.1 from fun e => hn.1 (by rw [e]; exact List.mem_map_of_mem hq)), h q (List.mem_cons_of_mem _ hq)]
end
end Mine
namespace Mine
section
variable {α : Type}
structure Wt (α : Type) where
  ft : α → Nat
  fl : α → Nat
  g : Nat
  e : Nat
  b : Nat
noncomputable def Wt.emp (w : Wt α) : List (T α) → Nat
  | [] => w.e
  | _ :: _ => 0
noncomputable def Wt.bad (w : Wt α) (n : Str) (t : T α) : Nat := if n = Str.ofString "at" then (match t with | .int _ => 0 | _ => w.b) else 0
mutual
noncomputable def wt (w : Wt α) : T α → Nat
  | .tab a ks => w.ft a + wtK w ks
  | .lst a xs => w.fl a + w.emp xs + wtL w xs
  | .int _ => w.g
  | .txt _ => w.g
noncomputable def wtK (w : Wt α) : List (Str × T α) → Nat
  | [] => 0
  | (n, t) :: r => (wt w t + w.bad n t) + wtK w r
noncomputable def wtL (w : Wt α) : List (T α) → Nat
  | [] => 0
  | t :: r => wt w t + wtL w r
end
variable {w : Wt α}
noncomputable def wk (w : Wt α) (n : Str) (t : T α) : Nat := wt w t + w.bad n t
noncomputable def wo (w : Wt α) (n : Str) : Option (T α) → Nat
  | some x => wk w n x
  | none => 0
theorem wtK_cons {n : Str} {t : T α} {r : List (Str × T α)} : wtK w ((n, t) :: r) = wk w n t + wtK w r := rfl
theorem bad_off {n : Str} {t : T α} (h : n ≠ Str.ofString "at") : w.bad n t = 0 := if_neg h
theorem wk_off {n : Str} {t : T α} (h : n ≠ Str.ofString "at") : wk w n t = wt w t := by unfold wk; rw [bad_off h]; rfl
theorem wtK_set {ks : List (Str × T α)} {n : Str} {t : T α} : wtK w (setKid ks n t) + wo w n (kidAt ks n) = wtK w ks + wk w n t := by
  induction ks with
  | nil => show wk w n t + 0 + 0 = 0 + wk w n t; lia
  | cons p r ih =>
    obtain ⟨m, u⟩ := p
    by_cases q : m = n
    · have e1 : setKid ((m, u) :: r) n t = (m, t) :: r := if_pos q
      have e2 : kidAt ((m, u) :: r) n = some u := if_pos q
      rw [e1, e2, wtK_cons, wtK_cons, q]
      show wk w n t + wtK w r + wk w n u = _
      lia
    · have e1 : setKid ((m, u) :: r) n t = (m, u) :: setKid r n t := if_neg q
      have e2 : kidAt ((m, u) :: r) n = kidAt r n := if_neg q
      rw [e1, e2, wtK_cons, wtK_cons]
      lia
theorem wtK_kid {ks : List (Str × T α)} {n : Str} {x : T α} (h : kidAt ks n = some x) : wk w n x ≤ wtK w ks := by
  induction ks with
  | nil => cases h
  | cons p r ih =>
    obtain ⟨m, u⟩ := p
    rw [wtK_cons]
    by_cases q : m = n
    · have e2 : kidAt ((m, u) :: r) n = some u := if_pos q
      rw [e2] at h
      rw [Option.some.inj h, q]; lia
    · have e2 : kidAt ((m, u) :: r) n = kidAt r n := if_neg q
      rw [e2] at h
      have := ih h
      lia
theorem wtL_append : ∀ (xs ys : List (T α)), wtL w (xs ++ ys) = wtL w xs + wtL w ys
  | [], ys => by show wtL w ys = 0 + wtL w ys; lia
  | x :: xs, ys => by
    have := wtL_append xs ys
    show wt w x + wtL w (xs ++ ys) = wt w x + wtL w xs + wtL w ys
    lia
theorem wtK_append : ∀ (xs ys : List (Str × T α)), wtK w (xs ++ ys) = wtK w xs + wtK w ys
  | [], ys => by show wtK w ys = 0 + wtK w ys; lia
  | (n, x) :: xs, ys => by
    have := wtK_append xs ys
    show wk w n x + wtK w (xs ++ ys) = wk w n x + wtK w xs + wtK w ys
    lia
theorem emp_app (xs ys : List (T α)) : w.emp (xs ++ ys) ≤ w.emp xs := by
  cases xs with
  | nil => cases ys <;> first | exact Nat.le_refl _ | exact Nat.zero_le _
  | cons x xs => exact Nat.le_refl _
theorem emp_snoc {xs : List (T α)} {l : T α} : w.emp (xs ++ [l]) = 0 := by cases xs <;> rfl
theorem wtL_snoc {xs : List (T α)} {l : T α} : wtL w (xs ++ [l]) = wtL w xs + wt w l := by
  rw [wtL_append]
  show wtL w xs + (wt w l + 0) = _
  lia
theorem wt_fold {M : T α → T α → T α} (hM : ∀ x y, wt w (M x y) ≤ wt w x + wt w y) : ∀ (ts : List (T α)) (x : T α), wt w (ts.foldl M x) ≤ wt w x + wtL w ts
  | [], x => by show wt w x ≤ wt w x + 0; lia
  | t :: r, x => by
    rw [List.foldl_cons]
    have h1 := wt_fold hM r (M x t)
    have h2 := hM x t
    show _ ≤ wt w x + (wt w t + wtL w r)
    lia
theorem wt_mrg {M : T α → T α → T α} (hM : ∀ x y, wt w (M x y) ≤ wt w x + wt w y) (x y : T α) : wt w (mrg M x y) ≤ wt w x + wt w y := by
  cases y with
  | tab b ks =>
    cases x with
    | tab c js => exact hM _ _
    | lst c xs =>
      cases hx : xs.getLast? with
      | none =>
        have : xs = [] := List.getLast?_eq_none_iff.mp hx
        rw [this]; show w.fl c + w.e + 0 ≤ w.fl c + w.e + 0 + _; lia
      | some l =>
        obtain ⟨r, rfl⟩ := getLast_snoc hx
        show w.fl c + w.emp (onLast _ _) + wtL w (onLast _ _) ≤ w.fl c + w.emp _ + wtL w _ + _
        rw [onLast_snoc, emp_snoc, emp_snoc, wtL_snoc, wtL_snoc]
        cases l with
        | tab z zk => have := hM (.tab z zk) (.tab b ks); show w.fl c + 0 + (wtL w r + wt w (M (.tab z zk) (.tab b ks))) ≤ _; lia
        | lst z zk => show w.fl c + 0 + (wtL w r + wt w (.lst z zk)) ≤ _; lia
        | int i => show w.fl c + 0 + (wtL w r + wt w (.int i)) ≤ _; lia
        | txt i => show w.fl c + 0 + (wtL w r + wt w (.txt i)) ≤ _; lia
    | int i => exact Nat.le_add_right _ _
    | txt i => exact Nat.le_add_right _ _
  | lst b ts =>
    cases x with
    | tab c js => have := wt_fold hM ts (.tab c js); show wt w (ts.foldl M (.tab c js)) ≤ _ + (w.fl b + w.emp ts + wtL w ts); lia
    | lst c xs =>
      show w.fl c + w.emp (xs ++ ts) + wtL w (xs ++ ts) ≤ w.fl c + w.emp xs + wtL w xs + (w.fl b + w.emp ts + wtL w ts)
      rw [wtL_append]
      have := emp_app (w := w) xs ts
      lia
    | int i => exact Nat.le_add_right _ _
    | txt i => exact Nat.le_add_right _ _
  | int i => exact Nat.le_add_right _ _
  | txt i => exact Nat.le_add_right _ _
theorem wk_res {M : T α → T α → T α} (hM : ∀ x y, wt w (M x y) ≤ wt w x + wt w y) (o : Option (T α)) (n : Str) (t : T α) : wk w n (res M o n t) ≤ wo w n o + wk w n t := by
  unfold res
  by_cases q : n = Str.ofString "at"
  · rw [if_pos q]; lia
  · rw [if_neg q]
    cases o with
    | none => exact Nat.le_add_left _ _
    | some x =>
      show wk w n (mrg M x t) ≤ wk w n x + wk w n t
      rw [wk_off q, wk_off q, wk_off q]
      exact wt_mrg hM x t
theorem wt_put1 {M : T α → T α → T α} (hM : ∀ x y, wt w (M x y) ≤ wt w x + wt w y) (ks : List (Str × T α)) (p : Str × T α) : wtK w (put1 M ks p) ≤ wtK w ks + wk w p.1 p.2 := by
  rw [put1_eq]
  have h1 := wtK_set (w := w) (ks := ks) (n := p.1) (t := res M (kidAt ks p.1) p.1 p.2)
  have h2 := wk_res hM (kidAt ks p.1) p.1 p.2
  lia
theorem wt_puts {M : T α → T α → T α} (hM : ∀ x y, wt w (M x y) ≤ wt w x + wt w y) : ∀ (js ks : List (Str × T α)), wtK w (js.foldl (put1 M) ks) ≤ wtK w ks + wtK w js
  | [], ks => by show wtK w ks ≤ wtK w ks + 0; lia
  | (n, t) :: r, ks => by
    rw [List.foldl_cons, wtK_cons]
    have h1 := wt_puts hM r (put1 M ks (n, t))
    have h2 : _ ≤ wtK w ks + wk w n t := wt_put1 hM ks (n, t)
    lia
theorem wt_M : ∀ (d : Nat) (x y : T α), wt w (M d x y) ≤ wt w x + wt w y
  | 0, x, y => Nat.le_add_right _ _
  | d + 1, x, y => by
    cases x with
    | tab b ks =>
      cases y with
      | tab c js =>
        have := wt_puts (fun x y => wt_M d x y) js ks
        show w.ft b + wtK w (js.foldl (put1 (M d)) ks) ≤ w.ft b + wtK w ks + (w.ft c + wtK w js)
        lia
      | lst c xs => exact Nat.le_add_right _ _
      | int i => exact Nat.le_add_right _ _
      | txt i => exact Nat.le_add_right _ _
    | lst b xs => cases y <;> exact Nat.le_add_right _ _
    | int i => cases y <;> exact Nat.le_add_right _ _
    | txt i => cases y <;> exact Nat.le_add_right _ _
noncomputable def bw : Wt α := ⟨fun _ => 0, fun _ => 0, 0, 0, 1⟩
noncomputable def tw (f : α → Nat) : Wt α := ⟨f, fun _ => 0, 0, 0, 0⟩
theorem tw_bad {f : α → Nat} {n : Str} {t : T α} : (tw f).bad n t = 0 := by
  unfold Wt.bad; split
  · cases t <;> rfl
  · rfl
theorem tw_wk {f : α → Nat} {n : Str} {t : T α} : wk (tw f) n t = wt (tw f) t := by unfold wk; rw [tw_bad]; rfl
theorem tw_emp {f : α → Nat} {xs : List (T α)} : (tw f).emp xs = 0 := by cases xs <;> rfl
theorem fold_keep {f : α → Nat} {M : T α → T α → T α} (hB : ∀ x y, wt bw (M x y) ≤ wt bw x + wt bw y) (hM : ∀ x y, wt bw x = 0 → wt bw y = 0 → wt (tw f) x ≤ wt (tw f) (M x y)) : ∀ (ts : List (T α)) (x : T α), wt bw x = 0 → wtL bw ts = 0 → wt (tw f) x ≤ wt (tw f) (ts.foldl M x)
  | [], x, _, _ => Nat.le_refl _
  | t :: r, x, hx, ht => by
    have ht : wt bw t + wtL bw r = 0 := ht
    have h1 := hM x t hx (by lia)
    have h2 := hB x t
    have h3 := fold_keep hB hM r (M x t) (by lia) (by lia)
    rw [List.foldl_cons]
    lia
theorem mrg_keep {f : α → Nat} {M : T α → T α → T α} (hB : ∀ x y, wt bw (M x y) ≤ wt bw x + wt bw y) (hM : ∀ x y, wt bw x = 0 → wt bw y = 0 → wt (tw f) x ≤ wt (tw f) (M x y)) (x y : T α) (hx : wt bw x = 0) (hy : wt bw y = 0) : wt (tw f) x ≤ wt (tw f) (mrg M x y) := by
  cases y with
  | tab b ks =>
    cases x with
    | tab c js => exact hM _ _ hx hy
    | lst c xs =>
      cases e : xs.getLast? with
      | none =>
        have : xs = [] := List.getLast?_eq_none_iff.mp e
        rw [this]; exact Nat.le_refl _
      | some l =>
        obtain ⟨r, rfl⟩ := getLast_snoc e
        show 0 + (tw f).emp _ + wtL (tw f) _ ≤ 0 + (tw f).emp (onLast _ _) + wtL (tw f) (onLast _ _)
        rw [onLast_snoc, tw_emp, tw_emp, wtL_snoc, wtL_snoc]
        have hx : 0 + bw.emp (r ++ [l]) + wtL bw (r ++ [l]) = 0 := hx
        rw [emp_snoc, wtL_snoc] at hx
        cases l with
        | tab z zk =>
          have h3 := hM (.tab z zk) (.tab b ks) (by lia) hy
          show _ ≤ 0 + 0 + (wtL (tw f) r + wt (tw f) (M (.tab z zk) (.tab b ks)))
          lia
        | lst z zk => exact Nat.le_refl _
        | int i => exact Nat.le_refl _
        | txt i => exact Nat.le_refl _
    | int i => exact Nat.le_refl _
    | txt i => exact Nat.le_refl _
  | lst b ts =>
    have hy : 0 + bw.emp ts + wtL bw ts = 0 := hy
    cases x with
    | tab c js => exact fold_keep hB hM ts _ hx (by lia)
    | lst c xs =>
      show 0 + (tw f).emp _ + wtL (tw f) _ ≤ 0 + (tw f).emp (xs ++ ts) + wtL (tw f) (xs ++ ts)
      rw [tw_emp, tw_emp, wtL_append]
      lia
    | int i => exact Nat.le_refl _
    | txt i => exact Nat.le_refl _
  | int i => exact Nat.le_refl _
  | txt i => exact Nat.le_refl _
theorem puts_keep {f : α → Nat} {M : T α → T α → T α} (hB : ∀ x y, wt bw (M x y) ≤ wt bw x + wt bw y) (hM : ∀ x y, wt bw x = 0 → wt bw y = 0 → wt (tw f) x ≤ wt (tw f) (M x y)) : ∀ (js ks : List (Str × T α)), wtK bw ks = 0 → wtK bw js = 0 → wtK (tw f) ks ≤ wtK (tw f) (js.foldl (put1 M) ks)
  | [], ks, _, _ => Nat.le_refl _
  | (n, t) :: r, ks, hk, hj => by
    rw [wtK_cons] at hj
    rw [List.foldl_cons]
    have h1 : _ ≤ wtK bw ks + wk bw n t := wt_put1 hB ks (n, t)
    have h2 := puts_keep hB hM r (put1 M ks (n, t)) (by lia) (by lia)
    refine Nat.le_trans ?_ h2
    rw [put1_eq]
    have h3 := wtK_set (w := tw f) (ks := ks) (n := n) (t := res M (kidAt ks n) n t)
    show _ ≤ wtK (tw f) (setKid ks n (res M (kidAt ks n) n t))
    cases e : kidAt ks n with
    | none => rw [e] at h3; simp only [wo] at h3; lia
    | some x =>
      rw [e] at h3
      have h4 := wtK_kid (w := bw) e
      have hbx : wk bw n x = 0 := by lia
      have hx : wt bw x = 0 := by unfold wk at hbx; lia
      have ht : wt bw t = 0 := by have : wk bw n t = 0 := by lia
                                  unfold wk at this; lia
      simp only [wo, tw_wk] at h3
      have h5 : wt (tw f) x ≤ wt (tw f) (res M (some x) n t) := by
        unfold res
        by_cases q : n = Str.ofString "at"
        · rw [if_pos q]
          have hb : bw.bad n x = 0 := by unfold wk at hbx; lia
          unfold Wt.bad at hb
          rw [if_pos q] at hb
          cases x with
          | int i => exact Nat.zero_le _
          | tab _ _ => simp [bw] at hb
          | lst _ _ => simp [bw] at hb
          | txt _ => simp [bw] at hb
        · rw [if_neg q]
          exact mrg_keep hB hM x t hx ht
      lia
theorem M_keep {f : α → Nat} : ∀ (d : Nat) (x y : T α), wt bw x = 0 → wt bw y = 0 → wt (tw f) x ≤ wt (tw f) (M d x y)
  | 0, x, y, _, _ => Nat.le_refl _
  | d + 1, x, y, hx, hy => by
    cases x with
    | tab b ks =>
      cases y with
      | tab c js =>
        have hx : 0 + wtK bw ks = 0 := hx
        have hy : 0 + wtK bw js = 0 := hy
        have := puts_keep (f := f) (fun x y => wt_M (w := bw) d x y) (fun x y => M_keep d x y) js ks (by lia) (by lia)
        show f b + wtK (tw f) ks ≤ f b + wtK (tw f) (js.foldl (put1 (M d)) ks)
        lia
      | lst c xs => exact Nat.le_refl _
      | int i => exact Nat.le_refl _
      | txt i => exact Nat.le_refl _
    | lst b xs => cases y <;> exact Nat.le_refl _
    | int i => cases y <;> exact Nat.le_refl _
    | txt i => cases y <;> exact Nat.le_refl _
end
end Mine
namespace Mine
section
variable {α β : Type}
mutual
noncomputable def T.map (f g : α → β) : T α → T β
  | .tab a ks => .tab (f a) (T.mapK f g ks)
  | .lst a xs => .lst (f a) (T.mapL f g xs)
  | .int i => .int i
  | .txt a => .txt (g a)
noncomputable def T.mapK (f g : α → β) : List (Str × T α) → List (Str × T β)
  | [] => []
  | (n, t) :: r => (n, T.map f g t) :: T.mapK f g r
noncomputable def T.mapL (f g : α → β) : List (T α) → List (T β)
  | [] => []
  | t :: r => T.map f g t :: T.mapL f g r
end
variable {f g : α → β}
theorem mapL_append : ∀ xs ys : List (T α), T.mapL f g (xs ++ ys) = T.mapL f g xs ++ T.mapL f g ys
  | [], _ => rfl
  | x :: xs, ys => by show T.map f g x :: T.mapL f g (xs ++ ys) = _; rw [mapL_append]; rfl
theorem mapK_kid {n : Str} : ∀ ks : List (Str × T α), kidAt (T.mapK f g ks) n = (kidAt ks n).map (T.map f g)
  | [] => rfl
  | (m, t) :: r => by
    show (if m = n then some (T.map f g t) else kidAt (T.mapK f g r) n) = (if m = n then some t else kidAt r n).map _
    split
    · rfl
    · exact mapK_kid r
theorem mapK_set {n : Str} {t : T α} : ∀ ks : List (Str × T α), T.mapK f g (setKid ks n t) = setKid (T.mapK f g ks) n (T.map f g t)
  | [] => rfl
  | (m, u) :: r => by
    by_cases q : m = n
    · have e1 : setKid ((m, u) :: r) n t = (m, t) :: r := if_pos q
      have e2 : setKid (T.mapK f g ((m, u) :: r)) n (T.map f g t) = (m, T.map f g t) :: T.mapK f g r := if_pos q
      rw [e1, e2]; rfl
    · have e1 : setKid ((m, u) :: r) n t = (m, u) :: setKid r n t := if_neg q
      have e2 : setKid (T.mapK f g ((m, u) :: r)) n (T.map f g t) = (m, T.map f g u) :: setKid (T.mapK f g r) n (T.map f g t) := if_neg q
      rw [e1, e2, ← mapK_set r]; rfl
theorem mapL_last {u : T α → T α} {h : T β → T β} (hg : ∀ t, T.map f g (u t) = h (T.map f g t)) (xs : List (T α)) : T.mapL f g (onLast u xs) = onLast h (T.mapL f g xs) := by
  cases hx : xs.getLast? with
  | none =>
    have : xs = [] := List.getLast?_eq_none_iff.mp hx
    rw [this]; rfl
  | some l =>
    obtain ⟨r, rfl⟩ := getLast_snoc hx
    rw [onLast_snoc, mapL_append, mapL_append]
    show T.mapL f g r ++ [T.map f g (u l)] = onLast h (T.mapL f g r ++ [T.map f g l])
    rw [onLast_snoc, hg]
theorem map_mrg {M : T α → T α → T α} {N : T β → T β → T β} (hM : ∀ x y, T.map f g (M x y) = N (T.map f g x) (T.map f g y)) (x y : T α) : T.map f g (mrg M x y) = mrg N (T.map f g x) (T.map f g y) := by
  have hf : ∀ (ts : List (T α)) (x : T α), T.map f g (ts.foldl M x) = (T.mapL f g ts).foldl N (T.map f g x) := by
    intro ts
    induction ts with
    | nil => intro x; rfl
    | cons t r ih => intro x; rw [List.foldl_cons, ih, hM]; rfl
  cases y with
  | tab b ks =>
    cases x with
    | tab c js => exact hM _ _
    | lst c xs =>
      show T.lst (f c) (T.mapL f g (onLast _ xs)) = .lst (f c) (onLast _ (T.mapL f g xs))
      congr 1
      refine mapL_last (fun t => ?_) xs
      cases t with
      | tab z zk => exact hM _ _
      | lst _ _ => rfl
      | int _ => rfl
      | txt _ => rfl
    | int i => rfl
    | txt i => rfl
  | lst b ts =>
    cases x with
    | tab c js => exact hf ts _
    | lst c xs => show T.lst (f c) (T.mapL f g (xs ++ ts)) = .lst (f c) (T.mapL f g xs ++ T.mapL f g ts); rw [mapL_append]
    | int i => rfl
    | txt i => rfl
  | int i => rfl
  | txt i => rfl
theorem map_put1 {M : T α → T α → T α} {N : T β → T β → T β} (hM : ∀ x y, T.map f g (M x y) = N (T.map f g x) (T.map f g y)) (ks : List (Str × T α)) (n : Str) (t : T α) : T.mapK f g (put1 M ks (n, t)) = put1 N (T.mapK f g ks) (n, T.map f g t) := by
  rw [put1_eq, put1_eq]
  show T.mapK f g (setKid ks n (res M (kidAt ks n) n t)) = setKid (T.mapK f g ks) n (res N (kidAt (T.mapK f g ks) n) n (T.map f g t))
  rw [mapK_set, mapK_kid]
  congr 1
  unfold res
  split
  · rfl
  · cases kidAt ks n with
    | none => rfl
    | some x => exact map_mrg hM x t
theorem map_M : ∀ (d : Nat) (x y : T α), T.map f g (M d x y) = M d (T.map f g x) (T.map f g y)
  | 0, _, _ => rfl
  | d + 1, x, y => by
    cases x with
    | tab b ks =>
      cases y with
      | tab c js =>
        show T.tab (f b) (T.mapK f g (js.foldl (put1 (M d)) ks)) = .tab (f b) ((T.mapK f g js).foldl (put1 (M d)) (T.mapK f g ks))
        congr 1
        have : ∀ (js ks : List (Str × T α)), T.mapK f g (js.foldl (put1 (M d)) ks) = (T.mapK f g js).foldl (put1 (M d)) (T.mapK f g ks) := by
          intro js
          induction js with
          | nil => intro ks; rfl
          | cons p r ih =>
            intro ks
            obtain ⟨n, t⟩ := p
            rw [List.foldl_cons, ih, map_put1 (fun x y => map_M d x y)]
            rfl
        exact this js ks
      | lst c xs => rfl
      | int i => rfl
      | txt i => rfl
    | lst b xs => cases y <;> rfl
    | int i => cases y <;> rfl
    | txt i => cases y <;> rfl
noncomputable def Wt.pull (w : Wt β) (f : α → β) : Wt α := ⟨fun a => w.ft (f a), fun a => w.fl (f a), w.g, w.e, w.b⟩
theorem emp_map {w : Wt β} {xs : List (T α)} : w.emp (T.mapL f g xs) = (w.pull f).emp xs := by cases xs <;> rfl
theorem bad_map {w : Wt β} {n : Str} {t : T α} : w.bad n (T.map f g t) = (w.pull f).bad n t := by
  unfold Wt.bad
  split
  · cases t <;> rfl
  · rfl
mutual
theorem wt_map {w : Wt β} : ∀ t : T α, wt w (T.map f g t) = wt (w.pull f) t
  | .tab a ks => by
    have := wtK_map (w := w) ks
    show w.ft (f a) + wtK w (T.mapK f g ks) = w.ft (f a) + wtK (w.pull f) ks
    rw [this]
  | .lst a xs => by
    have := wtL_map (w := w) xs
    show w.fl (f a) + w.emp (T.mapL f g xs) + wtL w (T.mapL f g xs) = w.fl (f a) + (w.pull f).emp xs + wtL (w.pull f) xs
    rw [this, emp_map]
  | .int _ => rfl
  | .txt _ => rfl
theorem wtK_map {w : Wt β} : ∀ ks : List (Str × T α), wtK w (T.mapK f g ks) = wtK (w.pull f) ks
  | [] => rfl
  | (n, t) :: r => by
    have h1 := wt_map (w := w) t
    have h2 := wtK_map (w := w) r
    show wt w (T.map f g t) + w.bad n (T.map f g t) + wtK w (T.mapK f g r) = wt (w.pull f) t + (w.pull f).bad n t + wtK (w.pull f) r
    rw [h1, h2, bad_map]
theorem wtL_map {w : Wt β} : ∀ xs : List (T α), wtL w (T.mapL f g xs) = wtL (w.pull f) xs
  | [] => rfl
  | t :: r => by
    have h1 := wt_map (w := w) t
    have h2 := wtL_map (w := w) r
    show wt w (T.map f g t) + wtL w (T.mapL f g r) = wt (w.pull f) t + wtL (w.pull f) r
    rw [h1, h2]
end
mutual
theorem map_congr {f' : α → β} {p : α → Nat} (hp : ∀ a, p a = 0 → f a = f' a) : ∀ t : T α, wt (⟨p, p, 0, 0, 0⟩ : Wt α) t = 0 → T.map f g t = T.map f' g t
  | .tab a ks, h => by
    have h : p a + wtK _ ks = 0 := h
    have := mapK_congr hp ks (by lia)
    show T.tab (f a) (T.mapK f g ks) = .tab (f' a) (T.mapK f' g ks)
    rw [hp a (by lia), this]
  | .lst a xs, h => by
    have h : p a + Wt.emp _ xs + wtL _ xs = 0 := h
    have := mapL_congr hp xs (by lia)
    show T.lst (f a) (T.mapL f g xs) = .lst (f' a) (T.mapL f' g xs)
    rw [hp a (by lia), this]
  | .int _, _ => rfl
  | .txt _, _ => rfl
theorem mapK_congr {f' : α → β} {p : α → Nat} (hp : ∀ a, p a = 0 → f a = f' a) : ∀ ks : List (Str × T α), wtK (⟨p, p, 0, 0, 0⟩ : Wt α) ks = 0 → T.mapK f g ks = T.mapK f' g ks
  | [], _ => rfl
  | (n, t) :: r, h => by
    have h : wt _ t + Wt.bad _ n t + wtK _ r = 0 := h
    have h1 := map_congr hp t (by lia)
    have h2 := mapK_congr hp r (by lia)
    show (n, T.map f g t) :: T.mapK f g r = _
    rw [h1, h2]; rfl
theorem mapL_congr {f' : α → β} {p : α → Nat} (hp : ∀ a, p a = 0 → f a = f' a) : ∀ xs : List (T α), wtL (⟨p, p, 0, 0, 0⟩ : Wt α) xs = 0 → T.mapL f g xs = T.mapL f' g xs
  | [], _ => rfl
  | t :: r, h => by
    have h : wt _ t + wtL _ r = 0 := h
    have h1 := map_congr hp t (by lia)
    have h2 := mapL_congr hp r (by lia)
    show T.map f g t :: T.mapL f g r = _
    rw [h1, h2]; rfl
end
end
end Mine
namespace Mine
noncomputable def hit {α : Type} [DecidableEq α] (a b : α) : Nat := if a = b then 1 else 0
theorem hit_same {α : Type} [DecidableEq α] {a : α} : hit a a = 1 := if_pos rfl
theorem hit_ne {α : Type} [DecidableEq α] {a b : α} (h : a ≠ b) : hit a b = 0 := if_neg h
theorem hit_eq {α : Type} [DecidableEq α] {a b : α} (h : hit a b ≠ 0) : a = b := Classical.byContradiction fun q => h (hit_ne q)
noncomputable def cw (a : Nat) : Wt Nat := ⟨hit a, hit a, 0, 0, 0⟩
theorem cw_bad {a : Nat} {n : Str} {t : T Nat} : (cw a).bad n t = 0 := by
  unfold Wt.bad; split
  · cases t <;> rfl
  · rfl
theorem cw_emp {a : Nat} {xs : List (T Nat)} : (cw a).emp xs = 0 := by cases xs <;> rfl
theorem cw_wk {a : Nat} {n : Str} {t : T Nat} : wk (cw a) n t = wt (cw a) t := by unfold wk; rw [cw_bad]; rfl
theorem cnt_tab {a b : Nat} {ks : List (Str × T Nat)} : wt (cw a) (.tab b ks) = hit a b + wtK (cw a) ks := rfl
theorem cnt_lst {a b : Nat} {xs : List (T Nat)} : wt (cw a) (.lst b xs) = hit a b + wtL (cw a) xs := by
  show hit a b + (cw a).emp xs + wtL _ xs = _
  rw [cw_emp]; rfl
theorem cntK_cons {a : Nat} {n : Str} {t : T Nat} {r : List (Str × T Nat)} : wtK (cw a) ((n, t) :: r) = wt (cw a) t + wtK (cw a) r := by
  show wtK (cw a) _ = _
  rw [wtK_cons, cw_wk]
theorem cntL_cons {a : Nat} {t : T Nat} {r : List (T Nat)} : wtL (cw a) (t :: r) = wt (cw a) t + wtL (cw a) r := rfl
noncomputable def co (a : Nat) : Option (T Nat) → Nat
  | some x => wt (cw a) x
  | none => 0
theorem cntK_set {a : Nat} {ks : List (Str × T Nat)} {n : Str} {t : T Nat} : wtK (cw a) (setKid ks n t) + co a (kidAt ks n) = wtK (cw a) ks + wt (cw a) t := by
  have := wtK_set (w := cw a) (ks := ks) (n := n) (t := t)
  rw [cw_wk] at this
  rw [← this]
  cases kidAt ks n with
  | none => rfl
  | some x => show _ = _ + wk _ n x; rw [cw_wk]; rfl
theorem cntK_kid {a : Nat} {ks : List (Str × T Nat)} {n : Str} {x : T Nat} (h : kidAt ks n = some x) : wt (cw a) x ≤ wtK (cw a) ks := by
  have := wtK_kid (w := cw a) h
  rw [cw_wk] at this
  exact this
noncomputable def vOf : T Nat → V
  | .tab a _ => .ref a
  | .lst a _ => .ref a
  | .int i => .int i
  | .txt t => .str "a" t
noncomputable def kvOf (ks : List (Str × T Nat)) : List (Key × V) := ks.map fun p => (.inr p.1, vOf p.2)
mutual
noncomputable def Rep (H : AHeap) : T Nat → Prop
  | .tab a ks => (∃ ep, H a = some (.dict (kvOf ks) ep)) ∧ RepK H ks
  | .lst a xs => H a = some (.list (xs.map vOf)) ∧ RepL H xs
  | .int _ => True
  | .txt _ => True
noncomputable def RepK (H : AHeap) : List (Str × T Nat) → Prop
  | [] => True
  | (_, t) :: r => Rep H t ∧ RepK H r
noncomputable def RepL (H : AHeap) : List (T Nat) → Prop
  | [] => True
  | t :: r => Rep H t ∧ RepL H r
end
mutual
theorem Rep.frame {H H' : AHeap} : ∀ (t : T Nat), Rep H t → (∀ a, wt (cw a) t ≠ 0 → H' a = H a) → Rep H' t
  | .tab a ks, h, k => by
    refine ⟨?_, RepK.frame ks h.2 fun b hb => k b ?_⟩
    · obtain ⟨ep, e⟩ := h.1
      exact ⟨ep, by rw [k a (by rw [cnt_tab, hit_same]; lia), e]⟩
    · rw [cnt_tab]; lia
  | .lst a xs, h, k => by
    refine ⟨?_, RepL.frame xs h.2 fun b hb => k b ?_⟩
    · rw [k a (by rw [cnt_lst, hit_same]; lia)]; exact h.1
    · rw [cnt_lst]; lia
  | .int _, _, _ => trivial
  | .txt _, _, _ => trivial
theorem RepK.frame {H H' : AHeap} : ∀ (ks : List (Str × T Nat)), RepK H ks → (∀ a, wtK (cw a) ks ≠ 0 → H' a = H a) → RepK H' ks
  | [], _, _ => trivial
  | (_, t) :: r, h, k => ⟨Rep.frame t h.1 fun b hb => k b (by rw [cntK_cons]; lia), RepK.frame r h.2 fun b hb => k b (by rw [cntK_cons]; lia)⟩
theorem RepL.frame {H H' : AHeap} : ∀ (xs : List (T Nat)), RepL H xs → (∀ a, wtL (cw a) xs ≠ 0 → H' a = H a) → RepL H' xs
  | [], _, _ => trivial
  | t :: r, h, k => ⟨Rep.frame t h.1 fun b hb => k b (by rw [cntL_cons]; lia), RepL.frame r h.2 fun b hb => k b (by rw [cntL_cons]; lia)⟩
end
mutual
theorem Rep.node {H : AHeap} {a : Nat} : ∀ (t : T Nat), Rep H t → wt (cw a) t ≠ 0 → (∃ kvs ep, H a = some (.dict kvs ep)) ∨ ∃ xs, H a = some (.list xs)
  | .tab b ks, h, k => by
    rw [cnt_tab] at k
    by_cases q : a = b
    · obtain ⟨ep, e⟩ := h.1
      exact .inl ⟨_, ep, q ▸ e⟩
    · rw [hit_ne q] at k
      exact RepK.node ks h.2 (by lia)
  | .lst b xs, h, k => by
    rw [cnt_lst] at k
    by_cases q : a = b
    · exact .inr ⟨_, q ▸ h.1⟩
    · rw [hit_ne q] at k
      exact RepL.node xs h.2 (by lia)
  | .int _, _, k => absurd rfl k
  | .txt _, _, k => absurd rfl k
theorem RepK.node {H : AHeap} {a : Nat} : ∀ (ks : List (Str × T Nat)), RepK H ks → wtK (cw a) ks ≠ 0 → (∃ kvs ep, H a = some (.dict kvs ep)) ∨ ∃ xs, H a = some (.list xs)
  | [], _, k => absurd rfl k
  | (_, t) :: r, h, k => by
    rw [cntK_cons] at k
    by_cases q : wt (cw a) t = 0
    · exact RepK.node r h.2 (by lia)
    · exact Rep.node t h.1 q
theorem RepL.node {H : AHeap} {a : Nat} : ∀ (xs : List (T Nat)), RepL H xs → wtL (cw a) xs ≠ 0 → (∃ kvs ep, H a = some (.dict kvs ep)) ∨ ∃ xs, H a = some (.list xs)
  | [], _, k => absurd rfl k
  | t :: r, h, k => by
    rw [cntL_cons] at k
    by_cases q : wt (cw a) t = 0
    · exact RepL.node r h.2 (by lia)
    · exact Rep.node t h.1 q
end
theorem Rep.live {H : AHeap} {a : Nat} {t : T Nat} (h : Rep H t) (k : wt (cw a) t ≠ 0) : H a ≠ none := by
  rcases h.node t k with ⟨_, _, e⟩ | ⟨_, e⟩ <;> rw [e] <;> simp
theorem Rep.fresh {H : AHeap} {a : Nat} {t : T Nat} (h : Rep H t) (k : H a = none) : wt (cw a) t = 0 := Classical.byContradiction fun q => h.live q k
theorem RepK.live {H : AHeap} {a : Nat} {ks : List (Str × T Nat)} (h : RepK H ks) (k : wtK (cw a) ks ≠ 0) : H a ≠ none := by
  rcases h.node ks k with ⟨_, _, e⟩ | ⟨_, e⟩ <;> rw [e] <;> simp
theorem RepK.kid {H : AHeap} {n : Str} {x : T Nat} : ∀ {ks : List (Str × T Nat)}, RepK H ks → kidAt ks n = some x → Rep H x
  | [], _, e => by cases e
  | (m, t) :: r, h, e => by
    by_cases q : m = n
    · have e2 : kidAt ((m, t) :: r) n = some t := if_pos q
      rw [e2] at e
      exact Option.some.inj e ▸ h.1
    · have e2 : kidAt ((m, t) :: r) n = kidAt r n := if_neg q
      rw [e2] at e
      exact RepK.kid h.2 e
theorem RepL.append {H : AHeap} : ∀ {xs ys : List (T Nat)}, RepL H (xs ++ ys) ↔ RepL H xs ∧ RepL H ys
  | [], ys => ⟨fun h => ⟨trivial, h⟩, fun h => h.2⟩
  | x :: xs, ys => ⟨fun h => ⟨⟨h.1, (RepL.append.mp h.2).1⟩, (RepL.append.mp h.2).2⟩, fun h => ⟨h.1.1, RepL.append.mpr ⟨h.1.2, h.2⟩⟩⟩
theorem RepK.set {H H' : AHeap} {n : Str} {t : T Nat} (ht : Rep H' t) : ∀ {ks : List (Str × T Nat)}, RepK H ks → (∀ b, wtK (cw b) ks ≤ 1) → (∀ b, wtK (cw b) ks ≠ 0 → co b (kidAt ks n) = 0 → H' b = H b) → RepK H' (setKid ks n t)
  | [], _, _, _ => ⟨ht, trivial⟩
  | (m, u) :: r, h, h1, k => by
    by_cases q : m = n
    · have e1 : setKid ((m, u) :: r) n t = (m, t) :: r := if_pos q
      have e2 : kidAt ((m, u) :: r) n = some u := if_pos q
      rw [e1]
      rw [e2] at k
      refine ⟨ht, RepK.frame r h.2 fun b hb => k b (by rw [cntK_cons]; lia) ?_⟩
      have := h1 b
      rw [cntK_cons] at this
      show wt (cw b) u = 0
      lia
    · have e1 : setKid ((m, u) :: r) n t = (m, u) :: setKid r n t := if_neg q
      have e2 : kidAt ((m, u) :: r) n = kidAt r n := if_neg q
      rw [e1]
      rw [e2] at k
      refine ⟨Rep.frame u h.1 fun b hb => k b (by rw [cntK_cons]; lia) ?_, RepK.set ht h.2 (fun b => ?_) fun b hb hc => k b (by rw [cntK_cons]; lia) hc⟩
      · have := h1 b
        rw [cntK_cons] at this
        cases e : kidAt r n with
        | none => rfl
        | some x =>
          have := cntK_kid (a := b) e
          show wt (cw b) x = 0
          lia
      · have := h1 b
        rw [cntK_cons] at this
        lia
theorem kv_set {n : Str} {t : T Nat} : ∀ ks : List (Str × T Nat), kvOf (setKid ks n t) = putK (kvOf ks) (.inr n) (vOf t)
  | [] => rfl
  | (m, u) :: r => by
    by_cases q : m = n
    · have e1 : setKid ((m, u) :: r) n t = (m, t) :: r := if_pos q
      rw [e1]
      show (Sum.inr m, vOf t) :: kvOf r = if (Sum.inr m : Key) = .inr n then (.inr m, vOf t) :: kvOf r else _
      rw [if_pos (by rw [q])]
    · have e1 : setKid ((m, u) :: r) n t = (m, u) :: setKid r n t := if_neg q
      rw [e1]
      show (Sum.inr m, vOf u) :: kvOf (setKid r n t) = if (Sum.inr m : Key) = .inr n then _ else (.inr m, vOf u) :: putK (kvOf r) (.inr n) (vOf t)
      rw [if_neg (fun e => q (Sum.inr.inj e)), kv_set r]
theorem kv_get {n : Str} : ∀ ks : List (Str × T Nat), getK (kvOf ks) (.inr n) = (kidAt ks n).map vOf
  | [] => rfl
  | (m, u) :: r => by
    show (if (Sum.inr m : Key) = .inr n then some (vOf u) else getK (kvOf r) (.inr n)) = (if m = n then some u else kidAt r n).map vOf
    by_cases q : m = n
    · rw [if_pos q, if_pos (by rw [q])]; rfl
    · rw [if_neg q, if_neg (fun e => q (Sum.inr.inj e)), kv_get r]
theorem kv_same {n : Str} {x t : T Nat} (h : vOf t = vOf x) : ∀ {ks : List (Str × T Nat)}, kidAt ks n = some x → kvOf (setKid ks n t) = kvOf ks
  | [], e => by cases e
  | (m, u) :: r, e => by
    by_cases q : m = n
    · have e1 : setKid ((m, u) :: r) n t = (m, t) :: r := if_pos q
      have e2 : kidAt ((m, u) :: r) n = some u := if_pos q
      rw [e2] at e
      rw [e1]
      show (Sum.inr m, vOf t) :: kvOf r = (.inr m, vOf u) :: kvOf r
      rw [h, Option.some.inj e]
    · have e1 : setKid ((m, u) :: r) n t = (m, u) :: setKid r n t := if_neg q
      have e2 : kidAt ((m, u) :: r) n = kidAt r n := if_neg q
      rw [e2] at e
      rw [e1]
      show (Sum.inr m, vOf u) :: kvOf (setKid r n t) = (.inr m, vOf u) :: kvOf r
      rw [kv_same h e]
noncomputable def szw {α : Type} : Wt α := ⟨fun _ => 1, fun _ => 1, 1, 0, 0⟩
noncomputable def emw {α : Type} : Wt α := ⟨fun _ => 0, fun _ => 0, 0, 1, 0⟩
theorem sz_len {α : Type} : ∀ ks : List (Str × T α), ks.length ≤ wtK szw ks
  | [] => Nat.le_refl _
  | (n, t) :: r => by
    have h1 := sz_len r
    have h2 : 1 ≤ wt szw t := by
      cases t with
      | tab a ks => show 1 ≤ 1 + _; lia
      | lst a xs => show 1 ≤ 1 + _ + _; lia
      | int i => exact Nat.le_refl _
      | txt i => exact Nat.le_refl _
    rw [wtK_cons]
    unfold wk
    simp only [List.length_cons]
    lia
theorem sz_pos {α : Type} (t : T α) : 1 ≤ wt szw t := by
  cases t with
  | tab a ks => show 1 ≤ 1 + _; lia
  | lst a xs => show 1 ≤ 1 + _ + _; lia
  | int i => exact Nat.le_refl _
  | txt i => exact Nat.le_refl _
theorem sz_lenL {α : Type} : ∀ xs : List (T α), xs.length ≤ wtL szw xs
  | [] => Nat.le_refl _
  | t :: r => by
    have h1 := sz_lenL r
    have h2 := sz_pos t
    show r.length + 1 ≤ wt szw t + wtL szw r
    lia
end Mine
namespace Mine
section
variable {α : Type}
noncomputable def Yok : Nat → T α → Prop
  | d + 1, .tab _ js => (js.map (·.1)).Nodup ∧ ∀ p ∈ js, (p.1 = Str.ofString "at" → ∃ i, p.2 = .int i) ∧ (p.1 ≠ Str.ofString "at" → (∃ a ts, p.2 = .lst a ts ∧ ∀ u ∈ ts, Yok d u) ∨ ∃ a ks, p.2 = .tab a ks ∧ Yok d p.2)
  | _, _ => False
noncomputable def tgt : T α → Option (T α)
  | .tab a ks => some (.tab a ks)
  | .lst _ xs => match xs.getLast? with
    | some (.tab a ks) => some (.tab a ks)
    | _ => none
  | _ => none
noncomputable def lvl (o : Option (T α)) (n : Str) (t : T α) : T α := if n = Str.ofString "at" then t else match o with
  | none => t
  | some x => match t with
    | .lst _ ts => (match x with
      | .lst a xs => .lst a (xs ++ ts)
      | x => x)
    | _ => x
noncomputable def prs (o : Option (T α)) (n : Str) (t : T α) : List (T α × T α) := if n = Str.ofString "at" then [] else match o with
  | none => []
  | some x => match t with
    | .lst _ ts => (match x with
      | .tab a ks => ts.map fun u => (.tab a ks, u)
      | _ => [])
    | t => match tgt x with
      | some y => [(y, t)]
      | none => []
noncomputable def lev (o : Option (T α)) (n : Str) (t : T α) : List Str := if n = Str.ofString "at" then [] else match o with
  | none => []
  | some x => match t with
    | .lst _ _ => (match x with
      | .lst _ _ => []
      | _ => [listMsg])
    | _ => match tgt x with
      | some _ => []
      | none => [nestMsg]
noncomputable def clP (C : T α → T α → List Str) (M : T α → T α → T α) : T α → List (T α) → List Str
  | _, [] => []
  | x, t :: r => C x t ++ clP C M (M x t) r
noncomputable def dpr (C : T α → T α → List Str) (M : T α → T α → T α) (o : Option (T α)) (n : Str) (t : T α) : List Str := if n = Str.ofString "at" then [] else match o with
  | none => []
  | some x => match t with
    | .lst _ ts => (match x with
      | .tab a ks => clP C M (.tab a ks) ts
      | _ => [])
    | t => match tgt x with
      | some y => C y t
      | none => []
noncomputable def cl : Nat → T α → T α → List Str
  | d + 1, .tab _ ks, .tab _ js => (js.flatMap fun p => lev (kidAt ks p.1) p.1 p.2) ++ js.flatMap fun p => dpr (cl d) (M d) (kidAt ks p.1) p.1 p.2
  | _, _, _ => []
noncomputable def lv1 (Z : List (Str × T α)) (p : Str × T α) : List (Str × T α) := setKid Z p.1 (lvl (kidAt Z p.1) p.1 p.2)
theorem kid_lv1 {Z : List (Str × T α)} {p : Str × T α} {n : Str} : kidAt (lv1 Z p) n = if p.1 = n then some (lvl (kidAt Z p.1) p.1 p.2) else kidAt Z n := kidAt_set
theorem kid_lvs : ∀ (js Z : List (Str × T α)) {n : Str}, n ∉ js.map (·.1) → kidAt (js.foldl lv1 Z) n = kidAt Z n
  | [], _, _, _ => rfl
  | p :: r, Z, n, h => by
    rw [List.map_cons, List.mem_cons, not_or] at h
    rw [List.foldl_cons, kid_lvs r _ h.2, kid_lv1, if_neg (Ne.symm h.1)]
theorem kid_lvs_at : ∀ (js Z : List (Str × T α)), (js.map (·.1)).Nodup → ∀ p ∈ js, kidAt (js.foldl lv1 Z) p.1 = some (lvl (kidAt Z p.1) p.1 p.2)
  | [], _, _, _, h => by cases h
  | q :: r, Z, hn, p, h => by
    rw [List.map_cons, List.nodup_cons] at hn
    rw [List.foldl_cons]
    rcases List.mem_cons.mp h with rfl | h
    · rw [kid_lvs r _ hn.1, kid_lv1, if_pos rfl]
    · rw [kid_lvs_at r _ hn.2 p h, kid_lv1, if_neg (show ¬ q.1 = p.1 from fun e => hn.1 (by rw [e]; exact List.mem_map_of_mem h))]
variable {w : Wt α}
noncomputable def pwt (w : Wt α) (l : List (T α × T α)) : Nat := wtL w (l.map (·.2))
theorem pw_app {l l' : List (T α × T α)} : pwt w (l ++ l') = pwt w l + pwt w l' := by unfold pwt; rw [List.map_append, wtL_append]
theorem map_snd {x : T α} : ∀ ts : List (T α), (ts.map fun u => (x, u)).map (·.2) = ts
  | [] => rfl
  | t :: r => by rw [List.map_cons, List.map_cons, map_snd r]
theorem wk_lvl {o : Option (T α)} {n : Str} {t : T α} : wk w n (lvl o n t) + pwt w (prs o n t) ≤ wo w n o + wk w n t := by
  unfold lvl prs
  by_cases q : n = Str.ofString "at"
  · rw [if_pos q, if_pos q]
    show wk w n t + 0 ≤ _
    lia
  · rw [if_neg q, if_neg q]
    cases o with
    | none => show wk w n t + 0 ≤ 0 + wk w n t; lia
    | some x =>
      show wk w n _ + pwt w _ ≤ wk w n x + wk w n t
      simp only [wk_off q]
      cases t with
      | lst b ts =>
        cases x with
        | lst a xs =>
          have := emp_app (w := w) xs ts
          show w.fl a + w.emp (xs ++ ts) + wtL w (xs ++ ts) + 0 ≤ w.fl a + w.emp xs + wtL w xs + (w.fl b + w.emp ts + wtL w ts)
          rw [wtL_append]; lia
        | tab a ks =>
          show wt w (.tab a ks) + pwt w _ ≤ wt w (.tab a ks) + (w.fl b + w.emp ts + wtL w ts)
          unfold pwt
          rw [map_snd]; lia
        | int i => exact Nat.add_le_add_left (Nat.zero_le _) _
        | txt i => exact Nat.add_le_add_left (Nat.zero_le _) _
      | tab b ks =>
        show wt w x + pwt w (match tgt x with | some y => [(y, T.tab b ks)] | none => []) ≤ _
        cases tgt x with
        | none => exact Nat.add_le_add_left (Nat.zero_le _) _
        | some y => exact Nat.le_refl _
      | int i =>
        show wt w x + pwt w (match tgt x with | some y => [(y, T.int i)] | none => []) ≤ _
        cases tgt x with
        | none => exact Nat.add_le_add_left (Nat.zero_le _) _
        | some y => exact Nat.le_refl _
      | txt i =>
        show wt w x + pwt w (match tgt x with | some y => [(y, T.txt i)] | none => []) ≤ _
        cases tgt x with
        | none => exact Nat.add_le_add_left (Nat.zero_le _) _
        | some y => exact Nat.le_refl _
theorem wt_lv1 {Z : List (Str × T α)} {p : Str × T α} : wtK w (lv1 Z p) + pwt w (prs (kidAt Z p.1) p.1 p.2) ≤ wtK w Z + wk w p.1 p.2 := by
  have h1 := wtK_set (w := w) (ks := Z) (n := p.1) (t := lvl (kidAt Z p.1) p.1 p.2)
  have h2 := wk_lvl (w := w) (o := kidAt Z p.1) (n := p.1) (t := p.2)
  unfold lv1
  lia
theorem flatMap_eq {β γ : Type} {f g : β → List γ} : ∀ {l : List β}, (∀ x ∈ l, f x = g x) → l.flatMap f = l.flatMap g
  | [], _ => rfl
  | x :: l, h => by rw [List.flatMap_cons, List.flatMap_cons, h x List.mem_cons_self, flatMap_eq fun y hy => h y (List.mem_cons_of_mem _ hy)]
theorem wt_lvs : ∀ (js Z : List (Str × T α)), (js.map (·.1)).Nodup → wtK w (js.foldl lv1 Z) + pwt w (js.flatMap fun p => prs (kidAt Z p.1) p.1 p.2) ≤ wtK w Z + wtK w js
  | [], Z, _ => by show wtK w Z + 0 ≤ wtK w Z + 0; lia
  | p :: r, Z, hn => by
    rw [List.map_cons, List.nodup_cons] at hn
    have h1 := wt_lvs r (lv1 Z p) hn.2
    have h2 := wt_lv1 (w := w) (Z := Z) (p := p)
    have e : (r.flatMap fun q => prs (kidAt (lv1 Z p) q.1) q.1 q.2) = r.flatMap fun q => prs (kidAt Z q.1) q.1 q.2 := by
      refine flatMap_eq fun q hq => ?_
      rw [kid_lv1, if_neg (show ¬ p.1 = q.1 from fun e => hn.1 (by rw [e]; exact List.mem_map_of_mem hq))]
    rw [List.foldl_cons, List.flatMap_cons, pw_app]
    rw [e] at h1
    obtain ⟨n, t⟩ := p
    rw [wtK_cons]
    simp only at h2 ⊢
    lia
theorem lvs_M {d : Nat} {a c : α} {ks js : List (Str × T α)} (hn : (js.map (·.1)).Nodup) : js.foldl (fun z p => setKid z p.1 (res (M d) (kidAt ks p.1) p.1 p.2)) (js.foldl lv1 ks) = js.foldl (put1 (M d)) ks := by
  have e : ∀ (js z : List (Str × T α)), (js.map (·.1)).Nodup → (∀ p ∈ js, kidAt z p.1 = kidAt ks p.1) → js.foldl lv1 z = js.foldl (fun z p => setKid z p.1 (lvl (kidAt ks p.1) p.1 p.2)) z := by
    intro js
    induction js with
    | nil => intro z _ _; rfl
    | cons p r ih =>
      intro z hn h
      rw [List.map_cons, List.nodup_cons] at hn
      have e1 : lv1 z p = setKid z p.1 (lvl (kidAt ks p.1) p.1 p.2) := by unfold lv1; rw [h p List.mem_cons_self]
      rw [List.foldl_cons, List.foldl_cons, ← e1]
      refine ih _ hn.2 fun q hq => ?_
      rw [kid_lv1, if_neg (fun e => hn.1 (by rw [e]; exact List.mem_map_of_mem hq)), h q (List.mem_cons_of_mem _ hq)]
  rw [e js ks hn fun _ _ => rfl, two_pass (fun p => lvl (kidAt ks p.1) p.1 p.2) (fun p => res (M d) (kidAt ks p.1) p.1 p.2) js ks hn]
  exact (put1_fold (M d) js ks ks hn fun _ _ => rfl).symm
theorem set_same {ks : List (Str × T α)} {n : Str} {t : T α} (h : kidAt ks n = some t) : setKid ks n t = ks := by
  obtain ⟨l, r, e1, e2⟩ := kidAt_split h
  rw [e2, ← e1]
theorem clP_len {C : T α → T α → List Str} {M : T α → T α → T α} (hC : ∀ x y, (C x y).length ≤ wt szw y) : ∀ (ts : List (T α)) (x : T α), (clP C M x ts).length ≤ wtL szw ts
  | [], _ => Nat.le_refl _
  | t :: r, x => by
    have h1 := hC x t
    have h2 := clP_len (M := M) hC r (M x t)
    show (C x t ++ clP C M (M x t) r).length ≤ wt szw t + wtL szw r
    rw [List.length_append]; lia
theorem lev_dpr_len {C : T α → T α → List Str} {M : T α → T α → T α} (hC : ∀ x y, (C x y).length + 1 ≤ wt szw y) {o : Option (T α)} {n : Str} {t : T α} : (lev o n t).length + (dpr C M o n t).length ≤ wt szw t := by
  unfold lev dpr
  by_cases q : n = Str.ofString "at"
  · rw [if_pos q, if_pos q]; exact Nat.zero_le _
  · rw [if_neg q, if_neg q]
    cases o with
    | none => exact Nat.zero_le _
    | some x =>
      have hi : ∀ t : T α, (match tgt x with | some _ => ([] : List Str) | none => [nestMsg]).length + (match tgt x with | some y => C y t | none => []).length ≤ wt szw t := by
        intro t
        cases tgt x with
        | none => exact sz_pos t
        | some y => have := hC y t; show 0 + (C y t).length ≤ _; lia
      cases t with
      | lst b ts =>
        have := fun x => clP_len (C := C) (M := M) (fun x y => Nat.le_of_succ_le (hC x y)) ts x
        cases x with
        | tab a ks => have := this (.tab a ks); show 1 + (clP C M (.tab a ks) ts).length ≤ 1 + szw.emp ts + wtL szw ts; lia
        | lst a xs => exact Nat.zero_le _
        | int i => show 1 + 0 ≤ _; exact sz_pos _
        | txt i => show 1 + 0 ≤ _; exact sz_pos _
      | tab b ks => exact hi _
      | int i => exact hi _
      | txt i => exact hi _
theorem lev_prs_len {o : Option (T α)} {n : Str} {t : T α} : (lev o n t).length + pwt szw (prs o n t) ≤ wt szw t := by
  unfold lev prs
  by_cases q : n = Str.ofString "at"
  · rw [if_pos q, if_pos q]; exact Nat.zero_le _
  · rw [if_neg q, if_neg q]
    cases o with
    | none => exact Nat.zero_le _
    | some x =>
      have hi : ∀ t : T α, (match tgt x with | some _ => ([] : List Str) | none => [nestMsg]).length + pwt szw (match tgt x with | some y => [(y, t)] | none => []) ≤ wt szw t := by
        intro t
        cases tgt x with
        | none => exact sz_pos t
        | some y => show 0 + (wt szw t + 0) ≤ _; lia
      cases t with
      | lst b ts =>
        have e : wt szw (.lst b ts) = 1 + szw.emp ts + wtL szw ts := rfl
        cases x with
        | tab z zk => show 1 + wtL szw ((ts.map fun u => (T.tab z zk, u)).map (·.2)) ≤ _; rw [map_snd]; lia
        | lst z zs => exact Nat.zero_le _
        | int z => show 1 + 0 ≤ _; lia
        | txt z => show 1 + 0 ≤ _; lia
      | tab b ks => exact hi _
      | int i => exact hi _
      | txt i => exact hi _
theorem flat2_len {f g : Str × T α → List Str} (h : ∀ p, (f p).length + (g p).length ≤ wt szw p.2) : ∀ js : List (Str × T α), (js.flatMap f).length + (js.flatMap g).length ≤ wtK szw js
  | [] => Nat.le_refl _
  | p :: r => by
    have h1 := flat2_len h r
    have h2 := h p
    obtain ⟨n, t⟩ := p
    rw [List.flatMap_cons, List.flatMap_cons, List.length_append, List.length_append, wtK_cons]
    unfold wk
    simp only at h2
    lia
theorem cl_len : ∀ (d : Nat) (x y : T α), (cl d x y).length + 1 ≤ wt szw y
  | 0, _, y => sz_pos y
  | d + 1, x, y => by
    cases x with
    | tab b ks =>
      cases y with
      | tab c js =>
        have := flat2_len (fun p => lev_dpr_len (M := M d) (o := kidAt ks p.1) (n := p.1) (t := p.2) (cl_len d)) js
        show (_ ++ _ : List Str).length + 1 ≤ 1 + wtK szw js
        rw [List.length_append]; lia
      | lst c xs => exact sz_pos _
      | int i => exact Nat.le_refl _
      | txt i => exact Nat.le_refl _
    | lst b xs => cases y <;> exact sz_pos _
    | int i => cases y <;> exact sz_pos _
    | txt i => cases y <;> exact sz_pos _
section
variable {n : Str} {o : Option (T α)} {t x y : T α} {a b : α} {ks kb : List (Str × T α)} {xs ts : List (T α)} {M : T α → T α → T α} {C : T α → T α → List Str}
theorem prs_at (q : n = Str.ofString "at") : prs o n t = [] := if_pos q
theorem lvl_at (q : n = Str.ofString "at") : lvl o n t = t := if_pos q
theorem res_at (q : n = Str.ofString "at") : res M o n t = t := if_pos q
theorem dpr_at (q : n = Str.ofString "at") : dpr C M o n t = [] := if_pos q
theorem lvl_no (q : n ≠ Str.ofString "at") : lvl (none : Option (T α)) n t = t := if_neg q
theorem res_no (q : n ≠ Str.ofString "at") : res M none n t = t := if_neg q
theorem dpr_no (q : n ≠ Str.ofString "at") : dpr C M none n t = [] := if_neg q
theorem res_x (q : n ≠ Str.ofString "at") : res M (some x) n t = mrg M x t := if_neg q
theorem prs_tl (q : n ≠ Str.ofString "at") : prs (some (.tab a ks)) n (.lst b ts) = ts.map fun u => (.tab a ks, u) := if_neg q
theorem prs_ol (q : n ≠ Str.ofString "at") (h : ∀ a ks, x ≠ .tab a ks) : prs (some x) n (.lst b ts) = [] ∧ dpr C M (some x) n (.lst b ts) = [] ∧ mrg M x (.lst b ts) = lvl (some x) n (.lst b ts) := by
  cases x with
  | tab a ks => exact absurd rfl (h a ks)
  | lst a xs => exact ⟨if_neg q, if_neg q, (if_neg q).symm⟩
  | int i => exact ⟨if_neg q, if_neg q, (if_neg q).symm⟩
  | txt i => exact ⟨if_neg q, if_neg q, (if_neg q).symm⟩
theorem lvl_tl (q : n ≠ Str.ofString "at") : lvl (some (.tab a ks)) n (.lst b ts) = .tab a ks := if_neg q
theorem dpr_tl (q : n ≠ Str.ofString "at") : dpr C M (some (.tab a ks)) n (.lst b ts) = clP C M (.tab a ks) ts := if_neg q
theorem lvl_t (q : n ≠ Str.ofString "at") : lvl (some x) n (.tab b kb) = x := if_neg q
theorem prs_t1 (q : n ≠ Str.ofString "at") (h : tgt x = some y) : prs (some x) n (.tab b kb) = [(y, .tab b kb)] := by unfold prs; rw [if_neg q]; simp only [h]
theorem prs_t0 (q : n ≠ Str.ofString "at") (h : tgt x = none) : prs (some x) n (.tab b kb) = [] := by unfold prs; rw [if_neg q]; simp only [h]
theorem dpr_t1 (q : n ≠ Str.ofString "at") (h : tgt x = some y) : dpr C M (some x) n (.tab b kb) = C y (.tab b kb) := by unfold dpr; rw [if_neg q]; simp only [h]
theorem dpr_t0 (q : n ≠ Str.ofString "at") (h : tgt x = none) : dpr C M (some x) n (.tab b kb) = [] := by unfold dpr; rw [if_neg q]; simp only [h]
theorem tgt_snocT {e : α} {r : List (T α)} {l : T α} : tgt (.lst e (r ++ [l])) = match l with | .tab a ks => some (.tab a ks) | _ => none := by
  have h : (r ++ [l]).getLast? = some l := by simp
  simp only [tgt, h]
  cases l <;> rfl
set_option tactic.hygienic true in
theorem tgt_split {t y : T α} (h : tgt t = some y) : t = y ∨ ∃ b r0, t = .lst b (r0 ++ [y]) := by
  cases t with
  | tab a ks => exact .inl (Option.some.inj h)
  | lst a xs =>
    simp only [tgt] at h
    split at h
    · rename_i z zk e
      obtain ⟨r, rfl⟩ := getLast_snoc e
      exact .inr ⟨a, r, by rw [← Option.some.inj h]⟩
    · cases h
  | int _ => cases h
  | txt _ => cases h
theorem tgt_tab {x y : T α} (h : tgt x = some y) : ∃ a ks, y = .tab a ks := by
  rcases tgt_split h with rfl | ⟨b, r, rfl⟩
  · cases x with
    | tab a ks => exact ⟨a, ks, rfl⟩
    | lst a xs =>
      simp only [tgt] at h
      split at h
      · cases h
      · cases h
    | int _ => cases h
    | txt _ => cases h
  · rw [tgt_snocT] at h
    cases y with
    | tab a ks => exact ⟨a, ks, rfl⟩
    | lst _ _ => cases h
    | int _ => cases h
    | txt _ => cases h
theorem mrg_tgt_none {M : T α → T α → T α} {x b : T α} (h : tgt x = none) (hb : ∃ z q, b = .tab z q) : mrg M x b = x := by
  obtain ⟨z, q, rfl⟩ := hb
  cases x with
  | tab a ks => cases h
  | lst a xs =>
    show T.lst a (onLast _ xs) = .lst a xs
    rcases List.eq_nil_or_concat xs with rfl | ⟨r, l, rfl⟩
    · rfl
    · rw [List.concat_eq_append] at h ⊢
      rw [tgt_snocT] at h
      rw [onLast_snoc]
      cases l with
      | tab c ck => cases h
      | lst _ _ => rfl
      | int _ => rfl
      | txt _ => rfl
  | int i => rfl
  | txt i => rfl
end
theorem prs_nil {d : Nat} {o : Option (T α)} {n : Str} {t : T α} (hy : n ≠ Str.ofString "at" → (∃ a ts, t = .lst a ts ∧ ∀ u ∈ ts, Yok d u) ∨ ∃ a ks, t = .tab a ks ∧ Yok d t) (h : prs o n t = []) : res (M d) o n t = lvl o n t ∧ dpr (cl d) (M d) o n t = [] := by
  by_cases q : n = Str.ofString "at"
  · exact ⟨(res_at q).trans (lvl_at q).symm, dpr_at q⟩
  · cases o with
    | none => exact ⟨(res_no q).trans (lvl_no q).symm, dpr_no q⟩
    | some x =>
      rw [res_x q]
      rcases hy q with ⟨b, ts, rfl, _⟩ | ⟨b, ks, rfl, _⟩
      · by_cases hx : ∃ a ks, x = .tab a ks
        · obtain ⟨a, ks, rfl⟩ := hx
          rw [prs_tl q] at h
          rw [List.map_eq_nil_iff.mp h, lvl_tl q, dpr_tl q]
          exact ⟨rfl, rfl⟩
        · obtain ⟨_, h2, h3⟩ := prs_ol (C := cl d) (M := M d) (b := b) (ts := ts) (x := x) q fun a ks e => hx ⟨a, ks, e⟩
          exact ⟨h3, h2⟩
      · cases e : tgt x with
        | some y => rw [prs_t1 q e] at h; cases h
        | none => exact ⟨(mrg_tgt_none e ⟨_, _, rfl⟩).trans (lvl_t q).symm, dpr_t0 q e⟩
end
end Mine
namespace Mine
noncomputable def PairsAt (H : AHeap) : List V → List (V × V) → Prop
  | [], [] => True
  | v :: vs, e :: es => (∃ τ, v = .ref τ ∧ H τ = some (.tup [e.1, e.2])) ∧ PairsAt H vs es
  | _, _ => False
noncomputable def TupKeep (H H' : AHeap) : Prop := ∀ τ xs, H τ = some (.tup xs) → H' τ = some (.tup xs)
theorem PairsAt.keep {H H' : AHeap} (k : TupKeep H H') : ∀ {vs : List V} {es : List (V × V)}, PairsAt H vs es → PairsAt H' vs es
  | [], [], _ => trivial
  | v :: vs, e :: es, ⟨⟨τ, h1, h2⟩, h⟩ => ⟨⟨τ, h1, k τ _ h2⟩, PairsAt.keep k h⟩
  | [], _ :: _, h => h.elim
  | _ :: _, [], h => h.elim
theorem PairsAt.len {H : AHeap} : ∀ {vs : List V} {es : List (V × V)}, PairsAt H vs es → vs.length = es.length
  | [], [], _ => rfl
  | v :: vs, e :: es, h => by rw [List.length_cons, List.length_cons, PairsAt.len h.2]
  | [], _ :: _, h => h.elim
  | _ :: _, [], h => h.elim
theorem PairsAt.app {H : AHeap} {vs' : List V} {es' : List (V × V)} (h' : PairsAt H vs' es') : ∀ {vs : List V} {es : List (V × V)}, PairsAt H vs es → PairsAt H (vs ++ vs') (es ++ es')
  | [], [], _ => h'
  | v :: vs, e :: es, h => ⟨h.1, PairsAt.app h' h.2⟩
  | [], _ :: _, h => h.elim
  | _ :: _, [], h => h.elim
theorem PairsAt.rev {H : AHeap} : ∀ {vs : List V} {es : List (V × V)}, PairsAt H vs es → PairsAt H vs.reverse es.reverse
  | [], [], _ => trivial
  | v :: vs, e :: es, h => by
    rw [List.reverse_cons, List.reverse_cons]
    exact PairsAt.app (vs' := [v]) (es' := [e]) ⟨h.1, trivial⟩ (PairsAt.rev h.2)
  | [], _ :: _, h => h.elim
  | _ :: _, [], h => h.elim
theorem PairsAt.snoc {H : AHeap} {e : V × V} : ∀ {vs : List V} {es : List (V × V)}, PairsAt H vs (es ++ [e]) → ∃ vs' τ, vs = vs' ++ [.ref τ] ∧ PairsAt H vs' es ∧ H τ = some (.tup [e.1, e.2])
  | [], [], h => h.elim
  | [], _ :: _, h => h.elim
  | v :: vs, [], h => by
    obtain ⟨⟨τ, h1, h2⟩, h3⟩ := h
    cases vs with
    | nil => exact ⟨[], τ, by rw [h1]; rfl, trivial, h2⟩
    | cons _ _ => exact h3.elim
  | v :: vs, e' :: es, h => by
    obtain ⟨vs', τ, rfl, h1, h2⟩ := PairsAt.snoc h.2
    exact ⟨v :: vs', τ, rfl, ⟨h.1, h1⟩, h2⟩
noncomputable def StackAt (H : AHeap) (wA : Addr) (es : List (V × V)) : Prop := ∃ vs, H wA = some (.list vs) ∧ PairsAt H vs es
noncomputable def TxtsAt (H : AHeap) (cA : Addr) (msgs : List Str) : Prop := ∃ ps : List (Str × Tok), H cA = some (.list (strsV ps)) ∧ ps.map (·.1) = msgs
structure MW (wA cA : Addr) (es : List (V × V)) (msgs : List Str) (m : Loc) (H : AHeap) : Prop where
  mw : m "work" = some (.ref wA)
  mc : m "clashes" = some (.ref cA)
  st : StackAt H wA es
  cs : TxtsAt H cA msgs
  ne : wA ≠ cA
noncomputable def FrB (H H' : AHeap) (P : Addr → Prop) : Prop := ∀ b, H b ≠ none → ¬ P b → H' b = H b
theorem FrB.refl {H : AHeap} {P : Addr → Prop} : FrB H H P := fun _ _ _ => rfl
theorem FrB.trans {H H1 H2 : AHeap} {P : Addr → Prop} (h : FrB H H1 P) (h' : FrB H1 H2 P) : FrB H H2 P := fun b hb hp => by
  have e := h b hb hp
  rw [h' b (by rw [e]; exact hb) hp, e]
theorem FrB.mono {H H' : AHeap} {P P' : Addr → Prop} (h : FrB H H' P) (hp : ∀ b, P b → P' b) : FrB H H' P' := fun b hb hq => h b hb fun q => hq (hp b q)
theorem TupKeep.updL {H : AHeap} {b : Addr} {xs : List V} {y : AObj} (h : H b = some (.list xs)) : TupKeep H (upd H b y) := fun τ zs e => upd_ne (fun q => by rw [q, h] at e; cases e) e
theorem TupKeep.of_ext {H H' : AHeap} (h : Ext H H') : TupKeep H H' := fun τ zs e => h _ _ e
theorem TupKeep.trans {H H1 H2 : AHeap} (h : TupKeep H H1) (h' : TupKeep H1 H2) : TupKeep H H2 := fun τ zs e => h' _ _ (h _ _ e)
theorem FrB.of_ext {H H' : AHeap} {P : Addr → Prop} (h : Ext H H') : FrB H H' P := fun b hb _ => by
  cases e : H b with
  | none => exact absurd e hb
  | some x => exact h b x e
theorem FrB.upd1 {H : AHeap} {a : Addr} {y : AObj} {P : Addr → Prop} (h : P a) : FrB H (upd H a y) P := fun b _ hp => by
  unfold upd; rw [if_neg (show ¬ b = a from fun q => hp (by rw [q]; exact h))]
structure MPre (wA cA : Addr) (L : Nat) (c : Wt Nat → Nat) (ys : List (T Nat)) (en mn : Nat) : Prop where
  c1 : ∀ b, c (cw b) + wtL (cw b) ys ≤ 1
  w0 : c (cw wA) + wtL (cw wA) ys = 0
  c0 : c (cw cA) + wtL (cw cA) ys = 0
  ex : c emw + wtL emw ys = 0
  sx : c szw + wtL szw ys ≤ L
  le : en + wtL szw ys ≤ L
  lm : mn + wtL szw ys ≤ L
noncomputable def MP (wA cA : Addr) (b : Addr) (n : Nat) : Prop := b = wA ∨ b = cA ∨ n ≠ 0
section
variable {k : Wk} {test : Expr} {body : List Stmt} {Q : Flow → Loc → AHeap → Prop} {wA cA : Addr} {L : Nat}
noncomputable def StepOK (k : Wk) (test : Expr) (body : List Stmt) (Q : Flow → Loc → AHeap → Prop) (wA cA : Addr) (L d : Nat) : Prop :=
  ∀ (x y : T Nat) (es : List (V × V)) (msgs : List Str) (m : Loc) (H : AHeap) (N : Nat), (∃ a ks, x = .tab a ks) → Yok d y → Rep H x → Rep H y → MPre wA cA L (fun w => wt w x) [y] es.length msgs.length → MW wA cA (es ++ [(vOf x, vOf y)]) msgs m H →
    (∀ m' H', MW wA cA es (msgs ++ cl d x y) m' H' → Rep H' (M d x y) → FrB H H' (fun b => MP wA cA b (wt (cw b) x + wt (cw b) y)) → Lp k test body Q N m' H') → Lp k test body Q (N + wt szw y) m H
theorem tab_M {d : Nat} {x y : T Nat} (h : ∃ a ks, x = .tab a ks) : (∃ a ks, M d x y = .tab a ks) ∧ vOf (M d x y) = vOf x := by
  obtain ⟨a, ks, rfl⟩ := h
  obtain ⟨js, e⟩ := M_tab (d := d) (a := a) (ks := ks) (y := y)
  rw [e]
  exact ⟨⟨a, js, rfl⟩, rfl⟩
theorem tab_fold {d : Nat} {x : T Nat} {ts : List (T Nat)} (h : ∃ a ks, x = .tab a ks) : (∃ a ks, ts.foldl (M d) x = .tab a ks) ∧ vOf (ts.foldl (M d) x) = vOf x := by
  obtain ⟨a, ks, rfl⟩ := h
  obtain ⟨js, e⟩ := foldM_tab (d := d) ts a ks
  rw [e]
  exact ⟨⟨a, js, rfl⟩, rfl⟩
theorem fold_step {d : Nat} (S : StepOK k test body Q wA cA L d) : ∀ (its : List (T Nat)) (x : T Nat) (es : List (V × V)) (msgs : List Str) (m : Loc) (H : AHeap) (N : Nat), (∃ a ks, x = .tab a ks) → (∀ u ∈ its, Yok d u) → Rep H x → RepL H its → MPre wA cA L (fun w => wt w x) its es.length msgs.length → MW wA cA (es ++ (its.map fun u => (vOf x, vOf u)).reverse) msgs m H →
    (∀ m' H', MW wA cA es (msgs ++ clP (cl d) (M d) x its) m' H' → Rep H' (its.foldl (M d) x) → FrB H H' (fun b => MP wA cA b (wt (cw b) x + wtL (cw b) its)) → Lp k test body Q N m' H') → Lp k test body Q (N + wtL szw its) m H
  | [], x, es, msgs, m, H, N, hx, _, rx, _, _, mw, h => by
    refine h m H ?_ rx FrB.refl
    have e1 : es ++ (([] : List (T Nat)).map fun u => (vOf x, vOf u)).reverse = es := List.append_nil _
    have e2 : msgs ++ clP (cl d) (M d) x [] = msgs := List.append_nil _
    rw [e1] at mw
    rw [e2]
    exact mw
  | u :: r, x, es, msgs, m, H, N, hx, hy, rx, ry, P, mw, h => by
    have e1 : es ++ ((u :: r).map fun u => (vOf x, vOf u)).reverse = (es ++ (r.map fun u => (vOf x, vOf u)).reverse) ++ [(vOf x, vOf u)] := by
      rw [List.map_cons, List.reverse_cons, List.append_assoc]
    rw [e1] at mw
    have e2 : N + wtL szw (u :: r) = (N + wtL szw r) + wt szw u := by
      show N + (wt szw u + wtL szw r) = _
      lia
    rw [e2]
    obtain ⟨c1, w0, c0, ex, sx, le, lm⟩ := P
    have hc : ∀ (w : Wt Nat), wtL w (u :: r) = wt w u + wtL w r := fun _ => rfl
    have h1 : ∀ (w : Wt Nat), wtL w [u] = wt w u := fun _ => rfl
    have hr : r.length ≤ wtL szw r := sz_lenL r
    simp only [hc] at c1 w0 c0 ex sx le lm
    have hw : wtL szw [u] = wt szw u + 0 := rfl
    refine S x u _ msgs m H _ hx (hy u List.mem_cons_self) rx ry.1 ⟨fun b => ?_, ?_, ?_, ?_, ?_, ?_, ?_⟩ mw fun m1 H1 mw1 r1 f1 => ?_
    · have := c1 b; have := h1 (cw b); lia
    · have := h1 (cw wA); lia
    · have := h1 (cw cA); lia
    · have := h1 emw; lia
    · have := h1 szw; lia
    · have := h1 szw; rw [List.length_append, List.length_reverse, List.length_map]; lia
    · have := h1 szw; lia
    obtain ⟨hx1, hv1⟩ := tab_M (d := d) (y := u) hx
    rw [← hv1] at mw1
    have hm := fun w : Wt Nat => wt_M (w := w) d x u
    have hcl := cl_len d x u
    refine fold_step S r (M d x u) es _ m1 H1 N hx1 (fun v hv => hy v (List.mem_cons_of_mem _ hv)) r1 (RepL.frame r ry.2 fun b hb => f1 b ?_ ?_) ⟨fun b => ?_, ?_, ?_, ?_, ?_, ?_, ?_⟩ mw1 fun m2 H2 mw2 r2 f2 => ?_
    · rcases RepL.node r ry.2 hb with ⟨_, _, e⟩ | ⟨_, e⟩ <;> rw [e] <;> simp
    · have := c1 b
      rintro (rfl | rfl | q)
      · lia
      · lia
      · lia
    · have := c1 b; have := hm (cw b); lia
    · have := hm (cw wA); lia
    · have := hm (cw cA); lia
    · have := hm emw; lia
    · have := hm szw; lia
    · lia
    · rw [List.length_append]; lia
    · refine h m2 H2 ?_ r2 (FrB.trans (f1.mono fun b q => ?_) (f2.mono fun b q => ?_))
      · have e : msgs ++ cl d x u ++ clP (cl d) (M d) (M d x u) r = msgs ++ clP (cl d) (M d) x (u :: r) := List.append_assoc _ _ _
        rw [← e]; exact mw2
      · rcases q with q | q | q
        · exact .inl q
        · exact .inr (.inl q)
        · refine .inr (.inr ?_)
          show wt (cw b) x + (wt (cw b) u + wtL (cw b) r) ≠ 0
          lia
      · rcases q with q | q | q
        · exact .inl q
        · exact .inr (.inl q)
        · refine .inr (.inr ?_)
          have := hm (cw b)
          show wt (cw b) x + (wt (cw b) u + wtL (cw b) r) ≠ 0
          lia
end
section
variable {α : Type}
theorem prs_some {d : Nat} {o : Option (T α)} {n : Str} {t : T α} (hy : n ≠ Str.ofString "at" → (∃ a ts, t = .lst a ts ∧ ∀ u ∈ ts, Yok d u) ∨ ∃ a ks, t = .tab a ks ∧ Yok d t) (h : prs o n t ≠ []) :
    n ≠ Str.ofString "at" ∧ ∃ y its, prs o n t = its.map (fun u => (y, u)) ∧ (∃ a ks, y = .tab a ks) ∧ (∀ u ∈ its, Yok d u) ∧ dpr (cl d) (M d) o n t = clP (cl d) (M d) y its ∧
      ((lvl o n t = y ∧ res (M d) o n t = its.foldl (M d) y) ∨ ∃ b r0, lvl o n t = .lst b (r0 ++ [y]) ∧ res (M d) o n t = .lst b (r0 ++ [its.foldl (M d) y])) := by
  by_cases q : n = Str.ofString "at"
  · exact absurd (prs_at q) h
  · refine ⟨q, ?_⟩
    cases o with
    | none => exact absurd (if_neg q) h
    | some x =>
      rw [res_x q]
      rcases hy q with ⟨b, ts, rfl, hts⟩ | ⟨b, ks, rfl, hks⟩
      · by_cases hx : ∃ a ks, x = .tab a ks
        · obtain ⟨a, ks, rfl⟩ := hx
          exact ⟨.tab a ks, ts, prs_tl q, ⟨a, ks, rfl⟩, hts, dpr_tl q, .inl ⟨lvl_tl q, rfl⟩⟩
        · exact absurd (prs_ol (C := cl d) (M := M d) (b := b) (ts := ts) (x := x) q fun a ks e => hx ⟨a, ks, e⟩).1 h
      · cases e : tgt x with
        | none => exact absurd (prs_t0 q e) h
        | some y =>
          refine ⟨y, [.tab b ks], prs_t1 q e, tgt_tab e, fun u hu => by rw [List.mem_singleton.mp hu]; exact hks, (dpr_t1 q e).trans (List.append_nil _).symm, ?_⟩
          rcases tgt_split e with rfl | ⟨c, r, rfl⟩
          · obtain ⟨z, zk, rfl⟩ := tgt_tab e
            exact .inl ⟨lvl_t q, rfl⟩
          · obtain ⟨z, zk, rfl⟩ := tgt_tab e
            refine .inr ⟨c, r, lvl_t q, ?_⟩
            show T.lst c (onLast _ _) = _
            rw [onLast_snoc]; rfl
end
end Mine
namespace Mine
section
variable {k : Wk} {test : Expr} {body : List Stmt} {Q : Flow → Loc → AHeap → Prop} {wA cA : Addr} {L : Nat}
theorem RepL.live {H : AHeap} {a : Nat} {xs : List (T Nat)} (h : RepL H xs) (k : wtL (cw a) xs ≠ 0) : H a ≠ none := by
  rcases h.node xs k with ⟨_, _, e⟩ | ⟨_, e⟩ <;> rw [e] <;> simp
theorem Rep.last {H H' : AHeap} {b : Nat} {r0 : List (T Nat)} {y y' : T Nat} (h : Rep H (.lst b (r0 ++ [y]))) (hv : vOf y' = vOf y) (hy : Rep H' y') (h1 : ∀ c, wt (cw c) (.lst b (r0 ++ [y])) ≤ 1) (f : ∀ c, wt (cw c) (.lst b (r0 ++ [y])) ≠ 0 → wt (cw c) y = 0 → H' c = H c) : Rep H' (.lst b (r0 ++ [y'])) := by
  have hc : ∀ c, wt (cw c) (.lst b (r0 ++ [y])) = hit c b + (wtL (cw c) r0 + wt (cw c) y) := fun c => by rw [cnt_lst, wtL_snoc]
  refine ⟨?_, RepL.append.mpr ⟨RepL.frame r0 (RepL.append.mp h.2).1 fun c hcn => ?_, hy, trivial⟩⟩
  · have e := h.1
    have hb := h1 b
    rw [hc, hit_same] at hb
    rw [f b (by rw [hc, hit_same]; lia) (by lia), e, List.map_append, List.map_append]
    show some (AObj.list (_ ++ [vOf y])) = some (.list (_ ++ [vOf y']))
    rw [hv]
  · have hb := h1 c
    rw [hc] at hb
    exact f c (by rw [hc]; lia) (by lia)
theorem rest_step {d : Nat} {ks0 : List (Str × T Nat)} (S : StepOK k test body Q wA cA L d) : ∀ (r Z : List (Str × T Nat)) (es : List (V × V)) (msgs : List Str) (m : Loc) (H : AHeap) (N : Nat), (r.map (·.1)).Nodup → (∀ p ∈ r, kidAt Z p.1 = some (lvl (kidAt ks0 p.1) p.1 p.2)) →
    (∀ p ∈ r, p.1 ≠ Str.ofString "at" → (∃ a ts, p.2 = .lst a ts ∧ ∀ u ∈ ts, Yok d u) ∨ ∃ a ks, p.2 = .tab a ks ∧ Yok d p.2) → RepK H Z → RepL H ((r.flatMap fun p => prs (kidAt ks0 p.1) p.1 p.2).map (·.2)) →
    MPre wA cA L (fun w => wtK w Z) ((r.flatMap fun p => prs (kidAt ks0 p.1) p.1 p.2).map (·.2)) es.length msgs.length → MW wA cA (es ++ ((r.flatMap fun p => prs (kidAt ks0 p.1) p.1 p.2).map fun q => (vOf q.1, vOf q.2)).reverse) msgs m H →
    (∀ m' H', MW wA cA es (msgs ++ r.flatMap fun p => dpr (cl d) (M d) (kidAt ks0 p.1) p.1 p.2) m' H' → RepK H' (r.foldl (fun z p => setKid z p.1 (res (M d) (kidAt ks0 p.1) p.1 p.2)) Z) → kvOf (r.foldl (fun z p => setKid z p.1 (res (M d) (kidAt ks0 p.1) p.1 p.2)) Z) = kvOf Z →
      FrB H H' (fun b => MP wA cA b (wtK (cw b) Z + wtL (cw b) ((r.flatMap fun p => prs (kidAt ks0 p.1) p.1 p.2).map (·.2)))) → Lp k test body Q N m' H') →
    Lp k test body Q (N + wtL szw ((r.flatMap fun p => prs (kidAt ks0 p.1) p.1 p.2).map (·.2))) m H
  | [], Z, es, msgs, m, H, N, _, _, _, rz, _, _, mw, h => by
    refine h m H ?_ rz rfl FrB.refl
    have e1 : es ++ ((([] : List (Str × T Nat)).flatMap fun p => prs (kidAt ks0 p.1) p.1 p.2).map fun q => (vOf q.1, vOf q.2)).reverse = es := List.append_nil _
    have e2 : (msgs ++ ([] : List (Str × T Nat)).flatMap fun p => dpr (cl d) (M d) (kidAt ks0 p.1) p.1 p.2) = msgs := List.append_nil _
    rw [e1] at mw
    rw [e2]
    exact mw
  | p :: r, Z, es, msgs, m, H, N, hn, hk, hy, rz, rp, P, mw, h => by
    rw [List.map_cons, List.nodup_cons] at hn
    have hp := hk p List.mem_cons_self
    rw [List.flatMap_cons, List.map_append] at rp
    simp only [List.flatMap_cons, List.map_append, List.reverse_append, List.foldl_cons] at mw h P ⊢
    rw [← List.append_assoc] at mw
    generalize hr : (r.flatMap fun p => prs (kidAt ks0 p.1) p.1 p.2) = RP at mw h P rp ⊢
    have hnr : ∀ q ∈ r, p.1 ≠ q.1 := fun q hq e => hn.1 (by rw [e]; exact List.mem_map_of_mem hq)
    by_cases hnil : prs (kidAt ks0 p.1) p.1 p.2 = []
    · obtain ⟨e1, e2⟩ := prs_nil (d := d) (hy p List.mem_cons_self) hnil
      have e3 : setKid Z p.1 (res (M d) (kidAt ks0 p.1) p.1 p.2) = Z := by rw [e1]; exact set_same hp
      rw [hnil] at mw h P rp ⊢
      rw [e2, e3] at h
      simp only [List.map_nil, List.nil_append, List.reverse_nil, List.append_nil] at mw h P rp ⊢
      subst hr
      exact rest_step S r Z es msgs m H N hn.2 (fun q hq => hk q (List.mem_cons_of_mem _ hq)) (fun q hq => hy q (List.mem_cons_of_mem _ hq)) rz rp P mw h
    · obtain ⟨hat, y, its, e1, hyt, hyi, e2, hcase⟩ := prs_some (d := d) (hy p List.mem_cons_self) hnil
      rw [e2] at h
      rw [e1] at mw h P rp ⊢
      rw [map_snd] at h P rp ⊢
      rw [List.map_map] at mw
      have ef : ((fun q : T Nat × T Nat => (vOf q.1, vOf q.2)) ∘ fun u => (y, u)) = fun u => (vOf y, vOf u) := rfl
      rw [ef] at mw
      obtain ⟨rp1, rp2⟩ := RepL.append.mp rp
      generalize hpd : RP.map (·.2) = PD at mw h P rp2 ⊢
      have hlen : (RP.map fun q => (vOf q.1, vOf q.2)).length = PD.length := by rw [← hpd, List.length_map, List.length_map]
      generalize hst : (RP.map fun q => (vOf q.1, vOf q.2)) = ST at mw hlen
      have hsum : ∀ w : Wt Nat, wtL w (its ++ PD) = wtL w its + wtL w PD := fun w => wtL_append _ _
      obtain ⟨c1, w0, c0, ex, sx, le, lm⟩ := P
      simp only [hsum] at c1 w0 c0 ex sx le lm
      rw [hsum, Nat.add_comm (wtL szw its), ← Nat.add_assoc]
      have hkid : ∀ w : Wt Nat, wt w (lvl (kidAt ks0 p.1) p.1 p.2) ≤ wtK w Z := fun w => by
        have := wtK_kid (w := w) hp
        rw [wk_off hat] at this
        exact this
      have hyk : ∀ w : Wt Nat, wt w y ≤ wt w (lvl (kidAt ks0 p.1) p.1 p.2) := fun w => by
        rcases hcase with ⟨q, _⟩ | ⟨b, r0, q, _⟩
        · rw [q]; exact Nat.le_refl _
        · rw [q]
          show _ ≤ w.fl b + w.emp _ + wtL w _
          rw [wtL_snoc]; lia
      have hfin : ∀ w : Wt Nat, wt w (res (M d) (kidAt ks0 p.1) p.1 p.2) ≤ wt w (lvl (kidAt ks0 p.1) p.1 p.2) + wtL w its := fun w => by
        have hf := wt_fold (w := w) (fun x y => wt_M d x y) its y
        rcases hcase with ⟨q1, q2⟩ | ⟨b, r0, q1, q2⟩
        · rw [q1, q2]; exact hf
        · rw [q1, q2]
          show w.fl b + w.emp _ + wtL w _ ≤ w.fl b + w.emp _ + wtL w _ + _
          rw [wtL_snoc, wtL_snoc, emp_snoc, emp_snoc]; lia
      have hkr := rz.kid hp
      have hyr : Rep H y := by
        rcases hcase with ⟨q, _⟩ | ⟨b, r0, q, _⟩
        · rw [q] at hkr; exact hkr
        · rw [q] at hkr; exact (RepL.append.mp hkr.2).2.1
      have hpl : PD.length ≤ wtL szw PD := sz_lenL PD
      refine fold_step S its y _ msgs m H _ hyt hyi hyr rp1 ⟨fun b => ?_, ?_, ?_, ?_, ?_, ?_, ?_⟩ mw fun m1 H1 mw1 r1 f1 => ?_
      · have := c1 b; have := hkid (cw b); have := hyk (cw b); lia
      · have := hkid (cw wA); have := hyk (cw wA); lia
      · have := hkid (cw cA); have := hyk (cw cA); lia
      · have := hkid emw; have := hyk emw; lia
      · have := hkid szw; have := hyk szw; lia
      · rw [List.length_append, List.length_reverse]; lia
      · lia
      obtain ⟨_, hv⟩ := tab_fold (d := d) (ts := its) hyt
      have hvr : vOf (res (M d) (kidAt ks0 p.1) p.1 p.2) = vOf (lvl (kidAt ks0 p.1) p.1 p.2) := by
        rcases hcase with ⟨q1, q2⟩ | ⟨b, r0, q1, q2⟩
        · rw [q1, q2]; exact hv
        · rw [q1, q2]; rfl
      have f1' : ∀ b, H b ≠ none → b ≠ wA → b ≠ cA → wt (cw b) y = 0 → wtL (cw b) its = 0 → H1 b = H b := fun b hb h1 h2 h3 h4 => f1 b hb fun q => by
        rcases q with q | q | q
        · exact h1 q
        · exact h2 q
        · lia
      have rkid : Rep H1 (res (M d) (kidAt ks0 p.1) p.1 p.2) := by
        rcases hcase with ⟨q1, q2⟩ | ⟨b, r0, q1, q2⟩
        · rw [q2]; exact r1
        · rw [q2]
          rw [q1] at hkr
          refine hkr.last hv r1 (fun c => ?_) fun c hc hcy => f1' c (hkr.live hc) ?_ ?_ hcy ?_
          · have := c1 c; have := hkid (cw c); rw [q1] at this; lia
          · rintro rfl; have := hkid (cw c); rw [q1] at this; lia
          · rintro rfl; have := hkid (cw c); rw [q1] at this; lia
          · have := c1 c; have := hkid (cw c); rw [q1] at this; lia
      have hset := fun w : Wt Nat => wtK_set (w := w) (ks := Z) (n := p.1) (t := res (M d) (kidAt ks0 p.1) p.1 p.2)
      rw [hp] at hset
      have hset' : ∀ w : Wt Nat, wtK w (setKid Z p.1 (res (M d) (kidAt ks0 p.1) p.1 p.2)) ≤ wtK w Z + wtL w its := fun w => by
        have h1 := hset w
        have h2 := hfin w
        simp only [wo, wk_off hat] at h1
        lia
      have rz1 : RepK H1 (setKid Z p.1 (res (M d) (kidAt ks0 p.1) p.1 p.2)) := by
        refine RepK.set rkid rz (fun b => by have := c1 b; lia) fun b hb hc => f1' b (rz.live hb) ?_ ?_ ?_ ?_
        · rintro rfl; lia
        · rintro rfl; lia
        · rw [hp] at hc
          have hc : wt (cw b) (lvl (kidAt ks0 p.1) p.1 p.2) = 0 := hc
          have := hyk (cw b); lia
        · have := c1 b; lia
      have rp1' : RepL H1 PD := RepL.frame PD rp2 fun b hb => f1' b (rp2.live hb) (by rintro rfl; lia) (by rintro rfl; lia) (by have := c1 b; have := hkid (cw b); have := hyk (cw b); lia) (by have := c1 b; lia)
      have hcl := clP_len (C := cl d) (M := M d) (fun x y => Nat.le_of_succ_le (cl_len d x y)) its y
      subst hst; subst hpd; subst hr
      refine rest_step S r _ es _ m1 H1 N hn.2 (fun q hq => ?_) (fun q hq => hy q (List.mem_cons_of_mem _ hq)) rz1 rp1' ⟨fun b => ?_, ?_, ?_, ?_, ?_, ?_, ?_⟩ mw1 fun m2 H2 mw2 r2 k2 f2 => ?_
      · rw [kidAt_set, if_neg (hnr q hq), hk q (List.mem_cons_of_mem _ hq)]
      · have := hset' (cw b); have := c1 b; lia
      · have := hset' (cw wA); lia
      · have := hset' (cw cA); lia
      · have := hset' emw; lia
      · have := hset' szw; lia
      · lia
      · rw [List.length_append]; lia
      refine h m2 H2 ?_ r2 ?_ (FrB.trans (f1.mono fun b q => ?_) (f2.mono fun b q => ?_))
      · rw [← List.append_assoc]; exact mw2
      · rw [k2]; exact kv_same hvr hp
      · rcases q with q | q | q
        · exact .inl q
        · exact .inr (.inl q)
        · refine .inr (.inr ?_)
          have := hkid (cw b); have := hyk (cw b)
          rw [hsum]; lia
      · rcases q with q | q | q
        · exact .inl q
        · exact .inr (.inl q)
        · refine .inr (.inr ?_)
          have := hset' (cw b)
          rw [hsum]; lia
end
end Mine
namespace Mine
section
variable {prog : Program} {w : World} {A : Around} {E : Value → Shared → Prop} {s : Shared}
theorem adjust_back (n : Nat) : Builtin.Slice.sliceAdjust (some (-2)) none (-1) (n : Int) = (max (-2 + (n : Int)) (-1), -1) := by
  unfold Builtin.Slice.sliceAdjust
  rfl
theorem mx0 : max (-2 + ((0 : Nat) : Int)) (-1) = -1 := by decide
theorem mx1 {n : Nat} : max (-2 + ((n + 1 : Nat) : Int)) (-1) = (n : Int) - 1 := by
  rw [Int.max_eq_left (by lia)]
  lia
theorem places_back (n : Nat) : Builtin.Slice.slicePlaces (max (-2 + (n : Int)) (-1)) (-1) (-1) = n - 1 := by
  cases n with
  | zero => decide
  | succ n =>
    rw [mx1]
    unfold Builtin.Slice.slicePlaces
    rw [if_neg (by decide)]
    by_cases h : (n : Int) - 1 > -1
    · rw [if_pos h, show (- -1 : Int) = 1 by decide, Int.ediv_one]; lia
    · rw [if_neg h]; lia
theorem sliceApplied_back {sl : Addr} {u u' : Tok} {n : Nat} {Q : Int × Int × Nat → Shared → Prop} (hs : s.heap.IsSliceOf sl (.int (-2) u) .none (.int (-1) u'))
    (h : Q (max (-2 + (n : Int)) (-1), -1, n - 1) s) : wpAny (model prog w) A (Builtin.Slice.sliceApplied (.ref sl) (pure (n : Int))) Q E s := by
  refine Mine.hideG fun GG back => ?_
  obtain ⟨os, hos, hcs, hds⟩ := id hs
  refine back ?_
  clear back
  unfold Builtin.Slice.sliceApplied Builtin.Slice.sliceFields
  refine wpAny_bind (wpAny_bind (wpAny_field hos hds (x := .int (-2) u) rfl (wpAny_bind (wpAny_field hos hds (x := .none) rfl (wpAny_bind (wpAny_field hos hds (x := .int (-1) u') rfl (wpAny_pure ?_)))))))
  refine wpAny_bind (slicePart_int ?_)
  show wpAny _ _ (if ((-1 : Int) == 0) = true then _ else _) _ _ s
  rw [if_neg (by decide)]
  refine wpAny_bind (slicePart_int (wpAny_bind (slicePart_none (wpAny_bind (wpAny_pure ?_)))))
  show wpAny _ _ (match Builtin.Slice.sliceAdjust (some (-2)) none (-1) (n : Int) with | (lo, hi) => pure (lo, (-1 : Int), Builtin.Slice.slicePlaces lo hi (-1))) _ _ s
  rw [adjust_back]
  show wpAny _ _ (pure (_, (-1 : Int), Builtin.Slice.slicePlaces _ _ (-1))) _ _ s
  rw [places_back]
  exact wpAny_pure h
theorem filterMap_eq {β γ : Type} {f g : β → Option γ} : ∀ {l : List β}, (∀ x ∈ l, f x = g x) → l.filterMap f = l.filterMap g
  | [], _ => rfl
  | x :: l, h => by rw [List.filterMap_cons, List.filterMap_cons, h x List.mem_cons_self, filterMap_eq fun y hy => h y (List.mem_cons_of_mem _ hy)]
theorem pick_back (xs : List Value) : (List.range (xs.length - 1)).filterMap (fun (k : Nat) => xs.toArray[(max (-2 + ((xs.length : Nat) : Int)) (-1) + (k : Int) * -1).toNat]?) = xs.dropLast.reverse := by
  rcases List.eq_nil_or_concat xs with rfl | ⟨r, z, rfl⟩
  · rfl
  · rw [List.concat_eq_append, List.dropLast_concat]
    simp only [List.length_append, List.length_singleton, Nat.add_sub_cancel]
    have e : ∀ k ∈ List.range r.length, ((r ++ [z]).toArray[(max (-2 + ((r.length + 1 : Nat) : Int)) (-1) + (k : Int) * -1).toNat]? : Option Value) = r.reverse[k]? := by
      intro k hk
      have hk := List.mem_range.mp hk
      have e1 : (max (-2 + ((r.length + 1 : Nat) : Int)) (-1) + (k : Int) * -1).toNat = r.length - 1 - k := by rw [mx1]; lia
      rw [e1, List.getElem?_reverse hk, List.getElem?_toArray, List.getElem?_append_left (by omega)]
    rw [filterMap_eq e]
    have e2 : ∀ l : List Value, (List.range l.length).filterMap (fun k => l[k]?) = l := by
      intro l
      have := krv_all l.toArray
      simpa using this
    have := e2 r.reverse
    rw [List.length_reverse] at this
    exact this
theorem getItem_tuple_back {t sl : Addr} {xs : List Value} {u u' : Tok} {Q : Value → Shared → Prop} (ht : IsTup s.heap t xs.toArray) (hs : s.heap.IsSliceOf sl (.int (-2) u) .none (.int (-1) u'))
    (h : Q (.ref s.heap.objs.size) { s with heap := s.heap.push { cls := .type "tuple", data := .seq xs.dropLast.reverse.toArray } })
    (hsz : xs.length ≤ sizeLine) : wpAny (model prog w) A (getItem (.ref t) (.ref sl)) Q E s := by
  have hok : sizeOk (.seq xs.dropLast.reverse.toArray) := by
    show xs.dropLast.reverse.toArray.size ≤ sizeLine
    rw [List.size_toArray, List.length_reverse, List.length_dropLast]
    omega
  refine Mine.hideG fun GG back => ?_
  obtain ⟨os, hos, hcs, hds⟩ := id hs
  refine back ?_
  clear back
  have hTs : s.TypeIs (.ref sl) "slice" := ⟨os, hos, hcs⟩
  unfold getItem
  try with_reducible refine wpAny_holding ?_
  first | refine wpAny_bind (wpAny_pure ?_) | skip
  refine wpAny_bind (wpAny_sequenceKey ht.typeIs (by decide) ?_)
  refine wpAny_bind (wpAny_callSpecial?_slot (name := Str.ofString "__getitem__") ht.typeIs slot_tuple_getitem
    (wpAny_call_entry slot_tuple_getitem ht.typeIs entry_tuple_getitem ?_ (args_tuple_getitem _ _)))
  show wpAny _ _ (Builtin.Tuple.tupleItemsOf (.ref t) >>= _) _ _ s
  refine wpAny_bind (tupleItemsOf_ ht ?_)
  refine wpAny_bind (wpAny_typeOf hTs ?_)
  rw [if_pos (by decide)]
  have hz : (xs.toArray.size : Int) = ((xs.length : Nat) : Int) := by rw [List.size_toArray]
  rw [hz]
  refine wpAny_bind (sliceApplied_back hs ?_)
  show wpAny _ _ (if (_ && (-1 : Int) == 1 && _) = true then _ else _) _ _ s
  have hno : ∀ a b : Bool, ¬ ((a && (-1 : Int) == 1 && b) = true) := by
    intro a b q
    rw [show ((-1 : Int) == 1) = false from rfl, Bool.and_false, Bool.false_and] at q
    cases q
  rw [if_neg (hno _ _)]
  rw [pick_back]
  first
    | exact wpAny_bind (m := Builtin.Tuple.tupleExact _) (wpAny_newObj_type (wpAny_pure ⟨_, rfl, wpAny_pure h⟩) hok)
    | exact wpAny_bind (m := Builtin.Tuple.tupleExact _) (wpAny_newObj_type (wpAny_bind (wpAny_pure (wpAny_pure ⟨_, rfl, wpAny_pure h⟩))) hok)
    | exact wpAny_bind (wpAny_bind (m := Builtin.Tuple.tupleExact _) (wpAny_newObj_type (wpAny_pure (wpAny_pure ⟨_, rfl, wpAny_pure h⟩)) hok))
    | exact wpAny_bind (wpAny_bind (m := Builtin.Tuple.tupleExact _) (wpAny_newObj_type (wpAny_pure ⟨_, rfl, wpAny_pure h⟩) hok))
end
section
variable {k : Wk} {m : Loc} {H : AHeap}
theorem W_SubRev {value st : Expr} {p pos : Pos} {Q : V → Loc → AHeap → Prop}
    (h : WV k (eval value k.env) m H fun ov m1 H1 => WPart k (some st) m1 H1 fun i m2 H2 => i = some (-1) ∧ ∃ a xs, ov = .ref a ∧ H2 a = some (.list xs) ∧ xs.length ≤ sizeLine ∧ ∀ b, H2 b = none → Q (.ref b) m2 (upd H2 b (.list xs.reverse)))
    (hs : ∀ o i, ∃ ops, subscripted (.Slice none none (some st) p) false o i = operate ops (getItem o i) := by intro _ _; exact ⟨_, by with_unfolding_all rfl⟩) : WV k (eval (.Subscript value (.Slice none none (some st) p) pos) k.env) m H Q := fun B s st =>
  Subscript_ (wpAny_mono (h B s st) (fun ov s1 ⟨m1, H1, st1, q1⟩ => wpAny_Slice (by
    rw [evalPart_none]
    refine wpAny_pure (wpAny_pure ?_)
    refine wpAny_mono (q1 B s1 st1) (fun l s3 hx1 => ?_) fun _ _ x => x
    refine Mine.hideG fun GG back => ?_
    refine Mine.hideG fun GG back => ?_
    obtain ⟨m3, H3, st3, j, ps, rfl, a, xs, e, hx, hz, q⟩ := hx1
    refine back ?_
    clear back
    refine back ?_
    clear back
    obtain rfl := er_ref e
    refine Mine.hideG fun GG back => ?_
    obtain ⟨ops, hs⟩ := hs (.ref a) (.ref s3.heap.objs.size)
    have st4 := st3.grown (tk := s3.toks) (h' := s3.heap.push { cls := .type "slice", data := .fields #[.none, .none, l] }) (fun b ob e => Heap.get?_push_of_some _ e) st3.tk
    obtain ⟨vs, n, hl, rfl⟩ := st4.listAt hx
    refine back ?_
    clear back
    have hn := st4.none_at (Nat.le_refl _)
    refine tail_any (s := { s3 with heap := s3.heap.push { cls := .type "slice", data := .fields #[.none, .none, l] } }) hl.isList.typeIs slot_list_getitem.lookup (wpAny_getItem_list_slice hl.isList (Heap.IsSliceOf.new ..) .none .none ps (by decide) ⟨m3, _, st4.new (tk := s3.toks) (Nat.le_refl _) (fun b ob e => Heap.get?_push_of_some _ e) (y := .list (vs.map er).reverse) ⟨_, Heap.get?_push_size _ rfl, vs.reverse, 0, ?_, List.map_reverse⟩ st4.tk, q _ (st4.fresh hn).1⟩ (by simpa using hz)) hs
    rw [krv_pick])) fun _ _ x => x)
theorem W_SubBack {value lo st : Expr} {p pos : Pos} {Q : V → Loc → AHeap → Prop}
    (h : WV k (eval value k.env) m H fun ov m1 H1 => WPart k (some lo) m1 H1 fun i m2 H2 => i = some (-2) ∧ WPart k (some st) m2 H2 fun j m3 H3 => j = some (-1) ∧ ∃ a xs, ov = .ref a ∧ H3 a = some (.tup xs) ∧ xs.length ≤ sizeLine ∧ ∀ b, H3 b = none → Q (.ref b) m3 (upd H3 b (.tup xs.dropLast.reverse)))
    (hs : ∀ o i, ∃ ops, subscripted (.Slice (some lo) none (some st) p) false o i = operate ops (getItem o i) := by intro _ _; exact ⟨_, by with_unfolding_all rfl⟩) : WV k (eval (.Subscript value (.Slice (some lo) none (some st) p) pos) k.env) m H Q := fun B s st =>
  Subscript_ (wpAny_mono (h B s st) (fun ov s1 ⟨m1, H1, st1, q1⟩ => wpAny_Slice (wpAny_mono (q1 B s1 st1) (fun l s2 hx1 => by
    refine Mine.hideG fun GG back => ?_
    obtain ⟨m2, H2, st2, i, pl, hi, q2⟩ := hx1
    refine back ?_
    clear back
    subst hi
    rw [evalPart_none]
    refine wpAny_pure ?_
    refine wpAny_mono (q2 B s2 st2) (fun u s3 hx1 => ?_) fun _ _ x => x
    refine Mine.hideG fun GG back => ?_
    refine Mine.hideG fun GG back => ?_
    obtain ⟨m3, H3, st3, j, ps, rfl, a, xs, e, hx, hz, q⟩ := hx1
    refine back ?_
    clear back
    refine back ?_
    clear back
    obtain rfl := er_ref e
    cases pl with
    | int _ t1 =>
    cases ps with
    | int _ t2 =>
    refine Mine.hideG fun GG back => ?_
    obtain ⟨ops, hs⟩ := hs (.ref a) (.ref s3.heap.objs.size)
    have st4 := st3.grown (tk := s3.toks) (h' := s3.heap.push { cls := .type "slice", data := .fields #[.int (-2) t1, .none, .int (-1) t2] }) (fun b ob e => Heap.get?_push_of_some _ e) st3.tk
    obtain ⟨vs, n, hl, rfl⟩ := st4.tupAt hx
    refine back ?_
    clear back
    have hT : IsTup (s3.heap.push { cls := .type "slice", data := .fields #[.int (-2) t1, .none, .int (-1) t2] }) a vs.toArray := ⟨_, hl, rfl, n, rfl⟩
    have hn := st4.none_at (Nat.le_refl _)
    refine tail_any (s := { s3 with heap := s3.heap.push { cls := .type "slice", data := .fields #[.int (-2) t1, .none, .int (-1) t2] } }) hT.typeIs slot_tuple_getitem.lookup (getItem_tuple_back hT (Heap.IsSliceOf.new ..) ⟨m3, _, st4.new (tk := s3.toks) (Nat.le_refl _) (fun b ob e => Heap.get?_push_of_some _ e) (y := .tup (vs.map er).dropLast.reverse) ⟨_, Heap.get?_push_size _ rfl, vs.dropLast.reverse, 0, rfl, ?_⟩ st4.tk, q _ (st4.fresh hn).1⟩ (by simpa using hz)) hs
    rw [List.map_reverse, List.map_dropLast]) fun _ _ x => x)) fun _ _ x => x)
end
end Mine
namespace Mine
noncomputable def pV (q : T Nat × T Nat) : V × V := (vOf q.1, vOf q.2)
noncomputable abbrev levs (ks js : List (Str × T Nat)) : List Str := js.flatMap fun p => lev (kidAt ks p.1) p.1 p.2
noncomputable abbrev prss (ks js : List (Str × T Nat)) : List (T Nat × T Nat) := js.flatMap fun p => prs (kidAt ks p.1) p.1 p.2
structure LvC (wA cA lA : Addr) (L d : Nat) (a c : Nat) (ks js : List (Str × T Nat)) (vs : List V) (msgs : List Str) (H0 : AHeap) : Prop where
  yok : Yok (d + 1) (.tab c js)
  ry : Rep H0 (.tab c js)
  c1 : ∀ b, wt (cw b) (.tab a ks) + wt (cw b) (.tab c js) ≤ 1
  z : ∀ b, b = wA ∨ b = cA ∨ b = lA → wt (cw b) (.tab a ks) + wt (cw b) (.tab c js) = 0
  wc : wA ≠ cA
  lw : lA ≠ wA
  lc : lA ≠ cA
  em : wt emw (.tab a ks) + wt emw (.tab c js) = 0
  sx : wt szw (.tab a ks) + wt szw (.tab c js) ≤ L
  lm : msgs.length + wt szw (.tab c js) ≤ L
  lL : 8 * L ≤ sizeLine
structure LvS (wA cA lA : Addr) (a c : Nat) (ks js : List (Str × T Nat)) (vs : List V) (es : List (V × V)) (msgs : List Str) (H0 : AHeap) (i : Nat) (m : Loc) (H : AHeap) : Prop where
  mw : m "work" = some (.ref wA)
  mc : m "clashes" = some (.ref cA)
  ml : m "later" = some (.ref lA)
  mx : m "x" = some (.ref a)
  my : m "y" = some (.ref c)
  hw : H wA = some (.list vs)
  es : PairsAt H vs es
  cs : TxtsAt H cA (msgs ++ levs ks (js.take i))
  hl : ∃ ls, H lA = some (.list ls) ∧ PairsAt H ls ((prss ks (js.take i)).map pV)
  rz : Rep H (.tab a ((js.take i).foldl lv1 ks))
  fr : FrB H0 H (fun b => b = wA ∨ b = cA ∨ b = lA ∨ wt (cw b) (.tab a ks) ≠ 0)
theorem take_succ {β : Type} {l : List β} {i : Nat} {p : β} (h : l[i]? = some p) : l.take (i + 1) = l.take i ++ [p] := by
  obtain ⟨hi, e⟩ := List.getElem?_eq_some_iff.mp h
  rw [List.take_add_one, h]; rfl
theorem nodup_take {js : List (Str × T Nat)} {i : Nat} {p : Str × T Nat} (hn : (js.map (·.1)).Nodup) (h : js[i]? = some p) : p.1 ∉ (js.take i).map (·.1) := by
  intro q
  obtain ⟨hi, e⟩ := List.getElem?_eq_some_iff.mp h
  rw [List.map_take] at q
  obtain ⟨j, hj, ej⟩ := List.getElem_of_mem q
  have hj' : j < i := by rw [List.length_take] at hj; lia
  rw [List.getElem_take, List.getElem_map] at ej
  have hl : (js.map (·.1)).length = js.length := List.length_map _
  have hj2 : j < (js.map (·.1)).length := by lia
  have hi2 : i < (js.map (·.1)).length := by lia
  have := (List.getElem_inj (h₀ := hj2) (h₁ := hi2) hn).mp (by rw [List.getElem_map, List.getElem_map, ej, e])
  lia
section
variable {wA cA lA : Addr} {L d : Nat} {a c : Nat} {ks js : List (Str × T Nat)} {vs : List V} {es : List (V × V)} {msgs : List Str} {H0 : AHeap} {i : Nat} {m m' : Loc} {H H' : AHeap}
theorem LvS.next (S : LvS wA cA lA a c ks js vs es msgs H0 i m H) {p : Str × T Nat} (hp : js[i]? = some p) (hm : m' "work" = m "work" ∧ m' "clashes" = m "clashes" ∧ m' "later" = m "later" ∧ m' "x" = m "x" ∧ m' "y" = m "y")
    (hw : H' wA = H wA) (tk : TupKeep H H') (cs : TxtsAt H' cA (msgs ++ levs ks (js.take i) ++ lev (kidAt ks p.1) p.1 p.2)) (hl : ∃ ls, H' lA = some (.list ls) ∧ PairsAt H' ls ((prss ks (js.take i)).map pV ++ (prs (kidAt ks p.1) p.1 p.2).map pV))
    (rz : Rep H' (.tab a (lv1 ((js.take i).foldl lv1 ks) p))) (fr : FrB H H' (fun b => b = wA ∨ b = cA ∨ b = lA ∨ wt (cw b) (.tab a ks) ≠ 0)) : LvS wA cA lA a c ks js vs es msgs H0 (i + 1) m' H' := by
  have e := take_succ hp
  obtain ⟨h1, h2, h3, h4, h5⟩ := hm
  refine ⟨h1.trans S.mw, h2.trans S.mc, h3.trans S.ml, h4.trans S.mx, h5.trans S.my, hw.trans S.hw, S.es.keep tk, ?_, ?_, ?_, S.fr.trans fr⟩
  · rw [e]
    unfold levs
    rw [List.flatMap_append, ← List.append_assoc]
    have : ([p].flatMap fun p => lev (kidAt ks p.1) p.1 p.2) = lev (kidAt ks p.1) p.1 p.2 := List.append_nil _
    rw [this]; exact cs
  · rw [e]
    unfold prss
    rw [List.flatMap_append, List.map_append]
    have : ([p].flatMap fun p => prs (kidAt ks p.1) p.1 p.2) = prs (kidAt ks p.1) p.1 p.2 := List.append_nil _
    rw [this]; exact hl
  · rw [e, List.foldl_append]; exact rz
variable {p : Str × T Nat}
theorem LvC.nd (C : LvC wA cA lA L d a c ks js vs msgs H0) : (js.map (·.1)).Nodup := C.yok.1
theorem LvC.kid (C : LvC wA cA lA L d a c ks js vs msgs H0) (hp : js[i]? = some p) : kidAt ((js.take i).foldl lv1 ks) p.1 = kidAt ks p.1 := kid_lvs _ _ (nodup_take C.nd hp)
theorem LvC.lv1_eq (C : LvC wA cA lA L d a c ks js vs msgs H0) (hp : js[i]? = some p) : lv1 ((js.take i).foldl lv1 ks) p = setKid ((js.take i).foldl lv1 ks) p.1 (lvl (kidAt ks p.1) p.1 p.2) := by
  show setKid _ _ (lvl (kidAt _ p.1) _ _) = _
  rw [C.kid hp]
theorem wtK_mem {α : Type} {w : Wt α} {js : List (Str × T α)} {i : Nat} {p : Str × T α} (hp : js[i]? = some p) : wtK w (js.take i) + wk w p.1 p.2 ≤ wtK w js := by
  have e := take_succ hp
  have : wtK w (js.take (i + 1)) ≤ wtK w js := by
    conv => rhs; rw [← List.take_append_drop (i + 1) js, wtK_append]
    lia
  rw [e, wtK_append] at this
  obtain ⟨n, t⟩ := p
  have e2 : wtK w [(n, t)] = wk w n t + 0 := rfl
  simp only at this ⊢
  lia
theorem LvC.wz (C : LvC wA cA lA L d a c ks js vs msgs H0) (i : Nat) (w : Wt Nat) : wtK w ((js.take i).foldl lv1 ks) + pwt w (prss ks (js.take i)) ≤ wtK w ks + wtK w (js.take i) :=
  wt_lvs (js.take i) ks (by rw [List.map_take]; exact C.nd.sublist (List.take_sublist _ _))
theorem LvS.ry (C : LvC wA cA lA L d a c ks js vs msgs H0) (S : LvS wA cA lA a c ks js vs es msgs H0 i m H) : Rep H (.tab c js) := by
  refine C.ry.frame _ fun b hb => S.fr b (C.ry.live hb) ?_
  have := C.c1 b
  rintro (q | q | q | q)
  · have := C.z b (.inl q); lia
  · have := C.z b (.inr (.inl q)); lia
  · have := C.z b (.inr (.inr q)); lia
  · lia
theorem LvS.hx (S : LvS wA cA lA a c ks js vs es msgs H0 i m H) : ∃ ep, H a = some (.dict (kvOf ((js.take i).foldl lv1 ks)) ep) := S.rz.1
theorem RepK.mem {H : AHeap} {p : Str × T Nat} : ∀ {js : List (Str × T Nat)} {i : Nat}, RepK H js → js[i]? = some p → Rep H p.2
  | [], i, _, h => by simp at h
  | (n, t) :: r, 0, h, e => by simp at e; subst e; exact h.1
  | (n, t) :: r, i + 1, h, e => RepK.mem h.2 (by simpa using e)
theorem kidAt_mem {α : Type} : ∀ {js : List (Str × T α)} {i : Nat} {p : Str × T α}, (js.map (·.1)).Nodup → js[i]? = some p → kidAt js p.1 = some p.2
  | [], i, p, _, h => by simp at h
  | q :: r, 0, p, hn, e => by
    simp at e; subst e
    exact if_pos rfl
  | q :: r, i + 1, p, hn, e => by
    rw [List.map_cons, List.nodup_cons] at hn
    have e : r[i]? = some p := by simpa using e
    have := kidAt_mem hn.2 e
    show (if q.1 = p.1 then some q.2 else kidAt r p.1) = _
    rw [if_neg (fun z => hn.1 (by rw [z]; exact List.mem_map_of_mem (List.mem_of_getElem? e))), this]
theorem LvS.put (C : LvC wA cA lA L d a c ks js vs msgs H0) (S : LvS wA cA lA a c ks js vs es msgs H0 i m H) (hp : js[i]? = some p) (hc : kidAt ks p.1 = none ∨ p.1 = Str.ofString "at") {ep : Nat}
    (hm : m' "work" = m "work" ∧ m' "clashes" = m "clashes" ∧ m' "later" = m "later" ∧ m' "x" = m "x" ∧ m' "y" = m "y") : LvS wA cA lA a c ks js vs es msgs H0 (i + 1) m' (upd H a (.dict (putK (kvOf ((js.take i).foldl lv1 ks)) (.inr p.1) (vOf p.2)) ep)) := by
  have hl0 : lev (kidAt ks p.1) p.1 p.2 = [] := by
    unfold lev
    rcases hc with e | e
    · rw [e]; split <;> rfl
    · rw [if_pos e]
  have hp0 : prs (kidAt ks p.1) p.1 p.2 = [] := by
    unfold prs
    rcases hc with e | e
    · rw [e]; split <;> rfl
    · rw [if_pos e]
  have hv0 : lvl (kidAt ks p.1) p.1 p.2 = p.2 := by
    unfold lvl
    rcases hc with e | e
    · rw [e]; split <;> rfl
    · rw [if_pos e]
  have ha : wt (cw a) (.tab a ks) = 1 + wtK (cw a) ks := by rw [cnt_tab, hit_same]
  have h1 := C.c1 a
  obtain ⟨ep0, hd⟩ := S.hx
  have off : ∀ b, b = wA ∨ b = cA ∨ b = lA → b ≠ a := by
    rintro b hb rfl
    have := C.z b hb; lia
  have hu : ∀ b, b ≠ a → upd H a (.dict (putK (kvOf ((js.take i).foldl lv1 ks)) (.inr p.1) (vOf p.2)) ep) b = H b := fun b hb => by unfold upd; rw [if_neg hb]
  have tk : TupKeep H (upd H a (.dict (putK (kvOf ((js.take i).foldl lv1 ks)) (.inr p.1) (vOf p.2)) ep)) := fun τ xs e => by
    rw [hu τ (by rintro rfl; rw [hd] at e; cases e)]; exact e
  have ry := S.ry C
  have rt : Rep H p.2 := RepK.mem ry.2 hp
  have hmem := fun w => wtK_mem (w := w) hp
  have hty : ∀ b, wt (cw b) p.2 ≤ wt (cw b) (.tab c js) := fun b => by
    have := hmem (cw b)
    rw [cw_wk] at this
    rw [cnt_tab]; lia
  refine S.next hp hm (hu _ (off _ (.inl rfl))) tk ?_ ?_ ⟨⟨ep, ?_⟩, ?_⟩ fun b hb hq => hu b fun e => hq (.inr (.inr (.inr ?_)))
  · rw [hl0, List.append_nil]
    obtain ⟨ps, e1, e2⟩ := S.cs
    exact ⟨ps, by rw [hu _ (off _ (.inr (.inl rfl)))]; exact e1, e2⟩
  · rw [hp0]
    obtain ⟨ls, e1, e2⟩ := S.hl
    exact ⟨ls, by rw [hu _ (off _ (.inr (.inr rfl)))]; exact e1, by rw [List.map_nil, List.append_nil]; exact e2.keep tk⟩
  · rw [C.lv1_eq hp, hv0, kv_set]
    exact upd_same
  · rw [C.lv1_eq hp, hv0]
    refine RepK.set (rt.frame _ fun b hb => hu b ?_) S.rz.2 (fun b => ?_) fun b hb _ => hu b ?_
    · rintro rfl
      have := hty b; lia
    · have := C.wz i (cw b)
      have := hmem (cw b)
      have := C.c1 b
      rw [cnt_tab, cnt_tab] at this
      lia
    · rintro rfl
      have := C.wz i (cw b)
      have := hmem (cw b)
      rw [cnt_tab, cnt_tab] at h1
      rw [hit_same] at h1
      lia
  · rw [e]; lia
theorem LvS.note (C : LvC wA cA lA L d a c ks js vs msgs H0) (S : LvS wA cA lA a c ks js vs es msgs H0 i m H) (hp : js[i]? = some p) {x : T Nat} (hx : kidAt ks p.1 = some x) (hv : lvl (kidAt ks p.1) p.1 p.2 = x)
    (hm : m' "work" = m "work" ∧ m' "clashes" = m "clashes" ∧ m' "later" = m "later" ∧ m' "x" = m "x" ∧ m' "y" = m "y") (tk : TupKeep H H') (fr : FrB H H' (fun b => b = cA ∨ b = lA))
    (cs : TxtsAt H' cA (msgs ++ levs ks (js.take i) ++ lev (kidAt ks p.1) p.1 p.2)) (hl : ∃ ls, H' lA = some (.list ls) ∧ PairsAt H' ls ((prss ks (js.take i)).map pV ++ (prs (kidAt ks p.1) p.1 p.2).map pV)) : LvS wA cA lA a c ks js vs es msgs H0 (i + 1) m' H' := by
  refine S.next hp hm (fr wA (by rw [S.hw]; simp) ?_) tk cs hl ?_ (fr.mono fun b q => ?_)
  · rintro (q | q)
    · exact C.wc q
    · exact C.lw q.symm
  · rw [C.lv1_eq hp, hv, set_same (by rw [C.kid hp, hx])]
    refine S.rz.frame _ fun b hb => fr b (S.rz.live hb) ?_
    have h1 := C.wz i (cw b)
    have h2 := wtK_mem (w := cw b) hp
    rw [cnt_tab] at hb
    rintro (q | q)
    · have := C.z b (.inr (.inl q))
      rw [cnt_tab, cnt_tab] at this; lia
    · have := C.z b (.inr (.inr q))
      rw [cnt_tab, cnt_tab] at this; lia
  · rcases q with q | q
    · exact .inr (.inl q)
    · exact .inr (.inr (.inl q))
theorem LvS.ext (C : LvC wA cA lA L d a c ks js vs msgs H0) (S : LvS wA cA lA a c ks js vs es msgs H0 i m H) (hp : js[i]? = some p) (hat : p.1 ≠ Str.ofString "at") {b e : Nat} {xs ts : List (T Nat)} (hx : kidAt ks p.1 = some (.lst b xs)) (ht : p.2 = .lst e ts)
    (hm : m' "work" = m "work" ∧ m' "clashes" = m "clashes" ∧ m' "later" = m "later" ∧ m' "x" = m "x" ∧ m' "y" = m "y") : LvS wA cA lA a c ks js vs es msgs H0 (i + 1) m' (upd H b (.list (xs.map vOf ++ ts.map vOf))) := by
  have hl0 : lev (kidAt ks p.1) p.1 p.2 = [] := by unfold lev; rw [if_neg hat, hx, ht]
  have hp0 : prs (kidAt ks p.1) p.1 p.2 = [] := by unfold prs; rw [if_neg hat, hx, ht]
  have hv0 : lvl (kidAt ks p.1) p.1 p.2 = .lst b (xs ++ ts) := by unfold lvl; rw [if_neg hat, hx, ht]
  have hkx := fun w => wtK_kid (w := w) hx
  have hkz : kidAt ((js.take i).foldl lv1 ks) p.1 = some (.lst b xs) := (C.kid hp).trans hx
  have hkb : 1 ≤ wtK (cw b) ks := by
    have := hkx (cw b)
    rw [cw_wk, cnt_lst, hit_same] at this; lia
  have h1 := C.c1 b
  rw [cnt_tab, cnt_tab] at h1
  have hba : b ≠ a := by
    rintro rfl
    rw [hit_same] at h1; lia
  have hrk := S.rz.2.kid hkz
  have ry := S.ry C
  have rt : Rep H p.2 := RepK.mem ry.2 hp
  have hmem := fun w => wtK_mem (w := w) hp
  have hu : ∀ c, c ≠ b → upd H b (.list (xs.map vOf ++ ts.map vOf)) c = H c := fun c hc => by unfold upd; rw [if_neg hc]
  have off : ∀ c, c = wA ∨ c = cA ∨ c = lA → c ≠ b := by
    rintro c hc rfl
    have := C.z c hc
    rw [cnt_tab, cnt_tab] at this; lia
  have tk : TupKeep H (upd H b (.list (xs.map vOf ++ ts.map vOf))) := fun τ ys q => by
    rw [hu τ (by rintro rfl; rw [hrk.1] at q; cases q)]; exact q
  obtain ⟨ep0, hd⟩ := S.hx
  refine S.next hp hm (hu _ (off _ (.inl rfl))) tk ?_ ?_ ⟨⟨ep0, ?_⟩, ?_⟩ fun c hb hq => hu c fun q => hq (.inr (.inr (.inr ?_)))
  · rw [hl0, List.append_nil]
    obtain ⟨ps, e1, e2⟩ := S.cs
    exact ⟨ps, by rw [hu _ (off _ (.inr (.inl rfl)))]; exact e1, e2⟩
  · rw [hp0]
    obtain ⟨ls, e1, e2⟩ := S.hl
    exact ⟨ls, by rw [hu _ (off _ (.inr (.inr rfl)))]; exact e1, by rw [List.map_nil, List.append_nil]; exact e2.keep tk⟩
  · rw [C.lv1_eq hp, hv0, kv_same (x := .lst b xs) (t := .lst b (xs ++ ts)) rfl hkz, hu a (Ne.symm hba)]
    exact hd
  · rw [C.lv1_eq hp, hv0]
    have hz1 : ∀ c, wtK (cw c) ((js.take i).foldl lv1 ks) ≤ 1 := fun c => by
      have := C.wz i (cw c)
      have := hmem (cw c)
      have := C.c1 c
      rw [cnt_tab, cnt_tab] at this
      lia
    have hkz2 : ∀ c, hit c b + wtL (cw c) xs ≤ wtK (cw c) ((js.take i).foldl lv1 ks) := fun c => by
      have := cntK_kid (a := c) hkz
      rw [cnt_lst] at this; exact this
    refine RepK.set (t := .lst b (xs ++ ts)) ⟨by rw [List.map_append]; exact upd_same, RepL.append.mpr ⟨hrk.2.frame _ fun c hc => hu c ?_, ?_⟩⟩ S.rz.2 hz1 fun c hb hc => hu c ?_
    · rintro rfl
      have := hz1 c; have := hkz2 c
      rw [hit_same] at this; lia
    · rw [ht] at rt
      refine rt.2.frame _ fun c hc => hu c ?_
      rintro rfl
      have := hmem (cw c)
      rw [cw_wk, ht, cnt_lst] at this
      lia
    · rintro rfl
      rw [hkz] at hc
      have hc : wt (cw c) (.lst c xs) = 0 := hc
      rw [cnt_lst, hit_same] at hc; lia
  · rw [q, cnt_tab]; lia
end
end Mine
namespace Mine
theorem lz {n : Nat} (h : Nat.ble n 100 = true) : n ≤ sizeLine := Nat.le_trans (Nat.le_of_ble_eq_true h) (by decide +kernel)
theorem nsome {β : Type} {x : Option β} {y : β} (e : x = some y) : x ≠ none := fun q => by rw [e] at q; cases q
section
variable {k : Wk} {m : Loc} {H : AHeap}
theorem W_SubNN {o n : Str} {p1 p2 p3 : Pos} {d : Addr} {kvs : List (Key × V)} {ep : Nat} {x : Str} {t : Tok} {v : V} {Q : V → Loc → AHeap → Prop} (ho : m o = some (.ref d)) (hn : m n = some (.str x t)) (hd : H d = some (.dict kvs ep)) (hv : getK kvs (.inr x) = some v) (h : Q v m H)
    (h1 : (o == ("__debug__" : Str)) = false := by decide) (h2 : (o == ("__classdict__" : Str)) = false := by decide) (h3 : (n == ("__debug__" : Str)) = false := by decide) (h4 : (n == ("__classdict__" : Str)) = false := by decide) :
    WV k (eval (.Subscript (.Name o p1) (.Name n p2) p3) k.env) m H Q :=
  W_Subscript (W_Name ho (W_Name hn (WSub_dict hd (key := .inr x) isKVs hv h) h3 h4) h1 h2)
theorem WT_typeIs {e : Expr} {T : Str} {T' : String} {p1 p2 p3 p4 : Pos} {sc : Scope} {cn : List Str} [sv : SEnv k sc cn] {Q : Bool → Loc → AHeap → Prop} (gt : Gl k.c "type" (.type "type")) (gT : Gl k.c T (.type T')) (kt : sc.names.lookup (Str.ofString "type") = some .globalImplicit) (kT : sc.names.lookup T = some .globalImplicit) (hd : (T == ("__debug__" : Str)) = false)
    (h : WV k (eval e k.env) m H fun v m1 H1 => ∃ Tx, tyOf H1 v = some Tx ∧ Tx ∈ ["int", "str", "list", "tuple", "dict"] ∧ Q (decide (Tx = T')) m1 H1) (hp : (starEach [e] k.env).any (·.1) = false := by rfl) (hp' : (backTo p2 (starEach [e] k.env)).any (·.1) = false := by rfl) (he : starEach [e] k.env = (false, eval e k.env) :: starEach [] k.env := by rfl) :
    WT k (.Compare (.Call (.Name "type" p1) [e] [] p2) [.Is] [.Name T p3] p4) m H Q := by
  refine WT_Compare ?_
  refine W_CallT gt (kindS kt) ?_ hp hp'
  refine WItems_cons (he := he) (W.mono h fun v m1 H1 q => ?_)
  refine Mine.hideG fun GG back => ?_
  obtain ⟨Tx, h1, h2, h3⟩ := q
  refine back ?_
  clear back
  refine WItems_nil (WCall_type h1 h2 (W_NameG gT (kindS kT) (WCmp_isTy (WTr_bool h3)) hd))
end
noncomputable def tyT {α : Type} : T α → String
  | .tab _ _ => "dict"
  | .lst _ _ => "list"
  | .int _ => "int"
  | .txt _ => "str"
theorem Rep.ty {H : AHeap} {t : T Nat} (h : Rep H t) : tyOf H (vOf t) = some (tyT t) ∧ tyT t ∈ ["int", "str", "list", "tuple", "dict"] := by
  cases t with
  | tab a ks => obtain ⟨ep, e⟩ := h.1; exact ⟨tyOf_d e, by simp [tyT]⟩
  | lst a xs => exact ⟨tyOf_l h.1, by simp [tyT]⟩
  | int i => exact ⟨rfl, by simp [tyT]⟩
  | txt i => exact ⟨rfl, by simp [tyT]⟩
theorem notDict {H : AHeap} {v : V} {T : String} (h : tyOf H v = some T) (hn : decide (T = "dict") = false) : tyOf H v ≠ some "dict" := fun q => of_decide_eq_false hn (Option.some.inj (h.symm.trans q))
theorem tyOf_ne {H : AHeap} {v : V} {T : String} (h : tyOf H v = some T) : tyOf H v ≠ none := fun q => by cases h.symm.trans q
end Mine
namespace Mine
noncomputable def nameOf : Nat → Str
  | 0 => "a"
  | 1 => "a.a"
  | _ => ""
noncomputable def leafN (g : Bool) (pl : Int) : T (Option Nat) := match g with
  | true => .lst none [.tab none []]
  | false => .tab none [(Str.ofString "at", .int pl)]
noncomputable def brN (g : Bool) (pl : Int) : List Str → T (Option Nat)
  | [] => leafN g pl
  | n :: r => .tab none [(n, brN g pl r)]
structure Brn (H H' : AHeap) (b : T Nat) (bN : T (Option Nat)) : Prop where
  rep : Rep H' b
  one : ∀ p, wt (cw p) b ≤ 1
  new : ∀ p, wt (cw p) b ≠ 0 → H p = none
  map : ∀ f : Nat → Option Nat, (∀ p, H p = none → f p = none) → T.map f (fun _ => none) b = bN
theorem Rep.ext {H H' : AHeap} {t : T Nat} (h : Rep H t) (e : Ext H H') : Rep H' t := h.frame _ fun b hb => by
  cases q : H b with
  | none => exact absurd q (h.live hb)
  | some x => exact e b x q
theorem ext_none' {H H' : AHeap} {p : Addr} (h : Ext H H') (e : H' p = none) : H p = none := none_less h e
theorem Brn.wrap {H H' : AHeap} {b : T Nat} {bN : T (Option Nat)} (B : Brn H H' b bN) (hE : Ext H H') {e : Addr} (he : H' e = none) {n : Str} {ep : Nat} : Brn H (upd H' e (.dict [(.inr n, vOf b)] ep)) (.tab e [(n, b)]) (.tab none [(n, bN)]) := by
  have hc : ∀ p, wt (cw p) (.tab e [(n, b)]) = hit p e + (wt (cw p) b + 0) := fun p => by rw [cnt_tab, cntK_cons]; rfl
  have hb : wt (cw e) b = 0 := B.rep.fresh he
  refine ⟨⟨⟨ep, upd_same⟩, B.rep.ext (Ext.upd he), trivial⟩, fun p => ?_, fun p hp => ?_, fun f hf => ?_⟩
  · rw [hc]
    by_cases q : p = e
    · rw [q, hit_same, hb]; exact Nat.le_refl _
    · rw [hit_ne q]; have := B.one p; lia
  · rw [hc] at hp
    by_cases q : p = e
    · rw [q]; exact ext_none' hE he
    · rw [hit_ne q] at hp; exact B.new p (by lia)
  · show T.tab (f e) [(n, T.map f (fun _ => none) b)] = _
    rw [B.map f hf, hf e (ext_none' hE he)]
theorem Brn.int {H : AHeap} {i : Int} : Brn H H (.int i) (.int i) := ⟨trivial, fun _ => Nat.zero_le _, fun p hp => absurd rfl hp, fun _ _ => rfl⟩
theorem Brn.nest {H H' : AHeap} (hE : Ext H H') {d l : Addr} {ep : Nat} (hd : H' d = none) (hl : upd H' d (.dict [] ep) l = none) : Brn H (upd (upd H' d (.dict [] ep)) l (.list [.ref d])) (.lst l [.tab d []]) (.lst none [.tab none []]) := by
  have hdl : d ≠ l := fun q => by rw [← q, upd_same] at hl; cases hl
  have hl' : H' l = none := none_less (Ext.upd hd) hl
  have hc : ∀ p, wt (cw p) (.lst l [.tab d []]) = hit p l + (hit p d + 0) := fun p => by rw [cnt_lst]; rfl
  refine ⟨⟨upd_same, ⟨⟨ep, upd_ne hdl upd_same⟩, trivial⟩, trivial⟩, fun p => ?_, fun p hp => ?_, fun f hf => ?_⟩
  · rw [hc]
    by_cases q : p = d
    · rw [q, hit_same, hit_ne hdl]; exact Nat.le_refl _
    · rw [hit_ne q]; unfold hit; split <;> lia
  · rw [hc] at hp
    by_cases q : p = d
    · rw [q]; exact ext_none' hE hd
    · rw [hit_ne q] at hp
      have : p = l := hit_eq (by lia)
      rw [this]; exact ext_none' hE hl'
  · show T.lst (f l) [T.tab (f d) []] = _
    rw [hf l (ext_none' hE hl'), hf d (ext_none' hE hd)]
end Mine
namespace Mine
section
variable {α β : Type}
noncomputable def endP : T α → List Str → Option (List (Str × T α))
  | .tab _ ks, [] => some ks
  | .tab _ ks, n :: r => match kidAt ks n with
    | none => some []
    | some t => match tgt t with
      | some y => endP y r
      | none => none
  | _, _ => none
theorem endP_none {a : α} {ks : List (Str × T α)} {n : Str} {r : List Str} (h : kidAt ks n = none) : endP (.tab a ks) (n :: r) = some [] := by
  show (match kidAt ks n with | none => some [] | some t => match tgt t with | some y => endP y r | none => none) = _
  rw [h]
theorem endP_some {a : α} {ks : List (Str × T α)} {n : Str} {r : List Str} {t : T α} (h : kidAt ks n = some t) : endP (.tab a ks) (n :: r) = (tgt t).bind fun y => endP y r := by
  show (match kidAt ks n with | none => some [] | some t => match tgt t with | some y => endP y r | none => none) = _
  rw [h]
  show (match tgt t with | some y => endP y r | none => none) = _
  cases tgt t <;> rfl
noncomputable def wrap (z : α) : List Str → T α → T α
  | [], l => l
  | n :: r, l => .tab z [(n, wrap z r l)]
theorem wrap_tab {z : α} {ns : List Str} {p : Str × T α} : ∃ q, wrap z ns (.tab z [p]) = .tab z [q] := by
  cases ns with
  | nil => exact ⟨p, rfl⟩
  | cons n r => exact ⟨_, rfl⟩
theorem lev_tab {o : Option (T α)} {n : Str} {b : T α} (hb : ∃ z q, b = .tab z q) (hn : n ≠ Str.ofString "at") : lev o n b = match o with
    | none => []
    | some x => match tgt x with
      | some _ => []
      | none => [nestMsg] := by
  obtain ⟨z, q, rfl⟩ := hb
  unfold lev
  rw [if_neg hn]
  all_goals (cases o <;> rfl)
theorem dpr_tab {C : T α → T α → List Str} {M : T α → T α → T α} {o : Option (T α)} {n : Str} {b : T α} (hb : ∃ z q, b = .tab z q) (hn : n ≠ Str.ofString "at") : dpr C M o n b = match o with
    | none => []
    | some x => match tgt x with
      | some y => C y b
      | none => [] := by
  obtain ⟨z, q, rfl⟩ := hb
  unfold dpr
  rw [if_neg hn]
  all_goals (cases o <;> rfl)
theorem mrg_tgt_same {M : T α → T α → T α} {x y b : T α} (h : tgt x = some y) (hb : ∃ z q, b = .tab z q) (hM : M y b = y) : mrg M x b = x := by
  obtain ⟨z, q, rfl⟩ := hb
  cases x with
  | tab a ks => cases h; exact hM
  | lst a xs =>
    show T.lst a (onLast _ xs) = .lst a xs
    congr 1
    cases hx : xs.getLast? with
    | none => rw [List.getLast?_eq_none_iff.mp hx]; rfl
    | some l =>
      obtain ⟨r, rfl⟩ := getLast_snoc hx
      rw [onLast_snoc]
      cases l with
      | tab c ck =>
        have : y = .tab c ck := by unfold tgt at h; simp at h; exact h.symm
        subst this
        show r ++ [M (.tab c ck) (.tab z q)] = _
        rw [hM]
      | lst _ _ => rfl
      | int _ => rfl
      | txt _ => rfl
  | int i => rfl
  | txt i => rfl
theorem cl_wrap {z : α} {p : Str × T α} : ∀ (ns : List Str) (d : Nat) (x : T α), (∃ a ks, x = .tab a ks) → (∀ n ∈ ns, n ≠ Str.ofString "at") → cl (d + ns.length + 1) x (wrap z ns (.tab z [p])) = match endP x ns with
    | none => [nestMsg]
    | some ke => lev (kidAt ke p.1) p.1 p.2 ++ dpr (cl d) (M d) (kidAt ke p.1) p.1 p.2
  | [], d, x, hx, _ => by
    obtain ⟨a, ks, rfl⟩ := hx
    show ([p].flatMap _) ++ ([p].flatMap _) = _
    rw [List.flatMap_cons, List.flatMap_cons, List.flatMap_nil, List.flatMap_nil, List.append_nil, List.append_nil]
    rfl
  | n :: r, d, x, hx, hn => by
    obtain ⟨a, ks, rfl⟩ := hx
    have hb : ∃ z' q, wrap z r (.tab z [p]) = .tab z' q := by obtain ⟨q, e⟩ := wrap_tab (z := z) (ns := r) (p := p); exact ⟨z, _, e⟩
    have hn0 := hn n List.mem_cons_self
    have e : cl (d + (n :: r).length + 1) (.tab a ks) (wrap z (n :: r) (.tab z [p])) = lev (kidAt ks n) n (wrap z r (.tab z [p])) ++ dpr (cl (d + r.length + 1)) (M (d + r.length + 1)) (kidAt ks n) n (wrap z r (.tab z [p])) := by
      show ([(n, wrap z r (.tab z [p]))].flatMap _) ++ ([(n, wrap z r (.tab z [p]))].flatMap _) = _
      rw [List.flatMap_cons, List.flatMap_cons, List.flatMap_nil, List.flatMap_nil, List.append_nil, List.append_nil]
      rfl
    rw [e, lev_tab hb hn0, dpr_tab hb hn0]
    show _ = match (match kidAt ks n with | none => some [] | some t => match tgt t with | some y => endP y r | none => none) with | none => [nestMsg] | some ke => _
    cases hk : kidAt ks n with
    | none =>
      have h1 : lev (none : Option (T α)) p.1 p.2 = [] := by unfold lev; split <;> rfl
      have h2 : dpr (cl d) (M d) (none : Option (T α)) p.1 p.2 = [] := by unfold dpr; split <;> rfl
      show ([] : List Str) ++ [] = lev (kidAt [] p.1) p.1 p.2 ++ dpr (cl d) (M d) (kidAt [] p.1) p.1 p.2
      rw [show kidAt ([] : List (Str × T α)) p.1 = none from rfl, h1, h2]
    | some t =>
      cases ht : tgt t with
      | none => simp only [ht]; rfl
      | some y =>
        simp only [ht]
        show [] ++ cl (d + r.length + 1) y _ = _
        rw [List.nil_append, cl_wrap r d y (tgt_tab ht) fun m hm => hn m (List.mem_cons_of_mem _ hm)]
theorem M_wrap_none {z : α} {p : Str × T α} : ∀ (ns : List Str) (d : Nat) (x : T α), (∃ a ks, x = .tab a ks) → (∀ n ∈ ns, n ≠ Str.ofString "at") → (∀ ke, endP x ns = some ke → p.1 ≠ Str.ofString "at" ∧ ∃ t, kidAt ke p.1 = some t ∧ mrg (M d) t p.2 = t) → M (d + ns.length + 1) x (wrap z ns (.tab z [p])) = x
  | [], d, x, hx, _, h => by
    obtain ⟨a, ks, rfl⟩ := hx
    obtain ⟨hp, t, h1, h2⟩ := h ks rfl
    show T.tab a (put1 (M d) ks p) = .tab a ks
    congr 1
    rw [put1_eq]
    have e : res (M d) (kidAt ks p.1) p.1 p.2 = t := by unfold res; rw [if_neg hp, h1]; exact h2
    rw [e]
    exact set_same h1
  | n :: r, d, x, hx, hn, h => by
    obtain ⟨a, ks, rfl⟩ := hx
    have hb : ∃ z' q, wrap z r (.tab z [p]) = .tab z' q := by obtain ⟨q, e⟩ := wrap_tab (z := z) (ns := r) (p := p); exact ⟨z, _, e⟩
    have hn0 := hn n List.mem_cons_self
    show T.tab a (put1 (M (d + r.length + 1)) ks (n, wrap z r (.tab z [p]))) = .tab a ks
    congr 1
    rw [put1_eq]
    cases hk : kidAt ks n with
    | none =>
      exfalso
      have : endP (.tab a ks) (n :: r) = some [] := by show (match kidAt ks n with | none => some [] | some t => _) = _; rw [hk]
      obtain ⟨_, t, h1, _⟩ := h [] this
      cases h1
    | some t =>
      have e : res (M (d + r.length + 1)) (some t) n (wrap z r (.tab z [p])) = t := by
        unfold res
        rw [if_neg hn0]
        cases ht : tgt t with
        | none => exact mrg_tgt_none ht hb
        | some y =>
          refine mrg_tgt_same ht hb (M_wrap_none r d y (tgt_tab ht) (fun m hm => hn m (List.mem_cons_of_mem _ hm)) fun ke hke => h ke ?_)
          show (match kidAt ks n with | none => some [] | some t => match tgt t with | some y => endP y r | none => none) = _
          rw [hk]
          simp only [ht]
          exact hke
      show setKid ks n (res _ (some t) n _) = ks
      rw [e]
      exact set_same hk
theorem Takes_wrap {z : α} {p : Str × T α} : ∀ (ns : List Str) (d : Nat) (x : T α), (∃ a ks, x = .tab a ks) → (∀ n ∈ ns, n ≠ Str.ofString "at") → (∀ ke, endP x ns = some ke → p.1 = Str.ofString "at" ∨ ∀ t, kidAt ke p.1 = some t → takeM (Takes d) t p.2) → endP x ns ≠ none → Takes (d + ns.length + 1) x (wrap z ns (.tab z [p]))
  | [], d, x, hx, _, h, _ => by
    obtain ⟨a, ks, rfl⟩ := hx
    exact h ks rfl
  | n :: r, d, x, hx, hn, h, h0 => by
    obtain ⟨a, ks, rfl⟩ := hx
    refine .inr fun t ht => ?_
    have ht : kidAt ks n = some t := ht
    have e : endP (.tab a ks) (n :: r) = match tgt t with | some y => endP y r | none => none := by
      show (match kidAt ks n with | none => some [] | some t => match tgt t with | some y => endP y r | none => none) = _
      rw [ht]
    rw [e] at h h0
    cases hy : tgt t with
    | none => rw [hy] at h0; exact absurd rfl h0
    | some y =>
      rw [hy] at h h0
      have IH := Takes_wrap (z := z) r d y (tgt_tab hy) (fun m hm => hn m (List.mem_cons_of_mem _ hm)) h h0
      obtain ⟨q, eq⟩ := wrap_tab (z := z) (ns := r) (p := p)
      show takeM (Takes (d + r.length + 1)) t (wrap z r (.tab z [p]))
      rw [eq] at IH ⊢
      rcases tgt_split hy with rfl | ⟨c, r0, rfl⟩
      · obtain ⟨w, wk, rfl⟩ := tgt_tab hy
        exact .inl ⟨w, wk, rfl, IH⟩
      · obtain ⟨w, wk, rfl⟩ := tgt_tab hy
        exact .inr ⟨c, _, w, wk, rfl, List.getLast?_concat .., IH⟩
variable {f g : α → β}
theorem tgt_map (t : T α) : tgt (T.map f g t) = (tgt t).map (T.map f g) := by
  cases t with
  | tab a ks => rfl
  | lst a xs =>
    cases hx : xs.getLast? with
    | none => rw [List.getLast?_eq_none_iff.mp hx]; rfl
    | some l =>
      obtain ⟨r, rfl⟩ := getLast_snoc hx
      show tgt (.lst (f a) (T.mapL f g (r ++ [l]))) = _
      rw [mapL_append]
      show tgt (.lst (f a) (T.mapL f g r ++ [T.map f g l])) = _
      delta tgt; dsimp only
      rw [List.getLast?_concat, List.getLast?_concat]
      cases l <;> rfl
  | int _ => rfl
  | txt _ => rfl
theorem endP_map : ∀ (ns : List Str) (x : T α), endP (T.map f g x) ns = (endP x ns).map (T.mapK f g)
  | [], x => by cases x <;> rfl
  | n :: r, x => by
    cases x with
    | tab a ks =>
      show (match kidAt (T.mapK f g ks) n with | none => some [] | some t => match tgt t with | some y => endP y r | none => none) = (match kidAt ks n with | none => some [] | some t => match tgt t with | some y => endP y r | none => none).map _
      rw [mapK_kid]
      cases kidAt ks n with
      | none => rfl
      | some t =>
        show (match tgt (T.map f g t) with | some y => endP y r | none => none) = (match tgt t with | some y => endP y r | none => none).map _
        rw [tgt_map t]
        cases tgt t with
        | none => rfl
        | some y => exact endP_map r y
    | lst _ _ => rfl
    | int _ => rfl
    | txt _ => rfl
end
end Mine
namespace Mine
noncomputable abbrev nonT : Nat → Option Nat := fun _ => none
structure Chg (H : AHeap) (d : Nat) (x : T Nat) (b : T (Option Nat)) (H2 : AHeap) (x' : T Nat) : Prop where
  v : vOf x' = vOf x
  rep : Rep H2 x'
  one : ∀ p, wt (cw p) x' ≤ 1
  new : ∀ p, wt (cw p) x' ≠ 0 → wt (cw p) x ≠ 0 ∨ H p = none
  fr : FrB H H2 (fun p => wt (cw p) x ≠ 0)
  map : ∀ f : Nat → Option Nat, (∀ p, H p = none → f p = none) → T.map f nonT x' = M d (T.map f nonT x) b
theorem map_tab {f g : Nat → Option Nat} {a : Nat} {ks : List (Str × T Nat)} : T.map f g (.tab a ks) = .tab (f a) (T.mapK f g ks) := rfl
theorem M_one {α : Type} {d : Nat} {a z : α} {ks : List (Str × T α)} {n : Str} {b : T α} : M (d + 1) (.tab a ks) (.tab z [(n, b)]) = .tab a (setKid ks n (res (M d) (kidAt ks n) n b)) := by
  show T.tab a (put1 (M d) ks (n, b)) = _
  rw [put1_eq]
theorem M_nil {α : Type} {d : Nat} {a z : α} {q : Str × T α} : M (d + 1) (.tab a []) (.tab z [q]) = .tab a [q] := by
  obtain ⟨n, b⟩ := q
  rw [M_one]
  show T.tab a [(n, res (M d) none n b)] = _
  have : res (M d) none n b = b := by unfold res; split <;> rfl
  rw [this]
theorem Chg.sub {H H2 : AHeap} {d a : Nat} {ks : List (Str × T Nat)} {n : Str} {t y y' : T Nat} {b : T (Option Nat)} (C : Chg H d y b H2 y') (rx : Rep H (.tab a ks)) (c1 : ∀ p, wt (cw p) (.tab a ks) ≤ 1) (hk : kidAt ks n = some t) (ht : tgt t = some y) (hn : n ≠ Str.ofString "at") (hb : ∃ q, b = .tab none [q]) :
    ∃ x', Chg H (d + 1) (.tab a ks) (.tab none [(n, b)]) H2 x' := by
  obtain ⟨q, rfl⟩ := hb
  have hky : ∀ w : Wt Nat, wt w y ≤ wt w t := fun w => by
    rcases tgt_split ht with rfl | ⟨e, r0, rfl⟩
    · exact Nat.le_refl _
    · show _ ≤ w.fl e + w.emp _ + wtL w _
      rw [wtL_snoc]; lia
  have hkt : ∀ p, wt (cw p) t ≤ wtK (cw p) ks := fun p => cntK_kid hk
  have rt : Rep H t := rx.2.kid hk
  obtain ⟨epx, hx⟩ := rx.1
  have hf : ∀ p, H p ≠ none → wt (cw p) y = 0 → H2 p = H p := fun p hp h0 => C.fr p hp fun z => z h0
  have ha : wt (cw a) y = 0 := by
    have h1 := c1 a
    have h2 := hkt a
    have h3 := hky (cw a)
    rw [cnt_tab, hit_same] at h1; lia
  have hlive : ∀ p, wt (cw p) y' ≠ 0 → wt (cw p) y = 0 → wt (cw p) (.tab a ks) = 0 := fun p h1 h0 => by
    rcases C.new p h1 with z | z
    · exact absurd h0 z
    · exact rx.fresh z
  obtain ⟨t', htv, htr, htc, htm⟩ : ∃ t', vOf t' = vOf t ∧ Rep H2 t' ∧ (∀ p, wt (cw p) t' + wt (cw p) y = wt (cw p) t + wt (cw p) y') ∧ ∀ f : Nat → Option Nat, (∀ p, H p = none → f p = none) → T.map f nonT t' = mrg (M d) (T.map f nonT t) (.tab none [q]) := by
    rcases tgt_split ht with rfl | ⟨e, r0, rfl⟩
    · obtain ⟨z, zk, rfl⟩ := tgt_tab ht
      exact ⟨y', C.v, C.rep, fun p => Nat.add_comm _ _, fun f h => by rw [C.map f h]; rfl⟩
    · obtain ⟨z, zk, rfl⟩ := tgt_tab ht
      refine ⟨.lst e (r0 ++ [y']), rfl, rt.last C.v C.rep (fun p => ?_) fun p hp h0 => hf p (rt.live hp) h0, fun p => ?_, fun f h => ?_⟩
      · have h1 := c1 p
        have h2 := hkt p
        rw [cnt_tab] at h1; lia
      · rw [cnt_lst, cnt_lst, wtL_snoc, wtL_snoc]; lia
      · show T.lst (f e) (T.mapL f nonT (r0 ++ [y'])) = mrg (M d) (.lst (f e) (T.mapL f nonT (r0 ++ [.tab z zk]))) (.tab none [q])
        rw [mapL_append, mapL_append]
        show T.lst (f e) (T.mapL f nonT r0 ++ [T.map f nonT y']) = .lst (f e) (onLast _ (T.mapL f nonT r0 ++ [.tab (f z) (T.mapK f nonT zk)]))
        rw [onLast_snoc, C.map f h]
        rfl
  have hset := fun p => cntK_set (a := p) (ks := ks) (n := n) (t := t')
  have hset : ∀ p, wtK (cw p) (setKid ks n t') + wt (cw p) t = wtK (cw p) ks + wt (cw p) t' := fun p => by
    have := hset p
    rw [hk] at this
    exact this
  have hc1 : ∀ p, wt (cw p) (.tab a (setKid ks n t')) + wt (cw p) y = wt (cw p) (.tab a ks) + wt (cw p) y' := fun p => by
    have h1 := hset p
    have h2 := htc p
    rw [cnt_tab, cnt_tab]; lia
  refine ⟨.tab a (setKid ks n t'), rfl, ⟨⟨epx, ?_⟩, RepK.set htr rx.2 (fun p => ?_) fun p hp h0 => hf p (rx.2.live hp) ?_⟩, fun p => ?_, fun p hp => ?_, C.fr.mono fun p hp => ?_, fun f h => ?_⟩
  · rw [kv_same htv hk, hf a (nsome (hx)) ha]
    exact hx
  · have := c1 p; rw [cnt_tab] at this; lia
  · rw [hk] at h0
    have h0 : wt (cw p) t = 0 := h0
    have := hky (cw p); lia
  · have h1 := hc1 p
    have h2 := c1 p
    have h3 := C.one p
    have h4 := hkt p
    have h5 := hky (cw p)
    rw [cnt_tab] at h2
    by_cases z : wt (cw p) y' = 0
    · rw [cnt_tab] at h1 ⊢; rw [cnt_tab] at h1; lia
    · by_cases z2 : wt (cw p) y = 0
      · have := hlive p z z2; lia
      · rw [cnt_tab] at h1 ⊢; rw [cnt_tab] at h1; lia
  · have h1 := hc1 p
    by_cases z : wt (cw p) y' = 0
    · exact .inl (by lia)
    · rcases C.new p z with q | q
      · left
        have := hky (cw p)
        have := hkt p
        rw [cnt_tab]; lia
      · exact .inr q
  · have := hky (cw p)
    have := hkt p
    rw [cnt_tab]; lia
  · rw [map_tab, map_tab, mapK_set, M_one, mapK_kid, hk]
    have : res (M d) (some (T.map f nonT t)) n (.tab none [q]) = mrg (M d) (T.map f nonT t) (.tab none [q]) := by unfold res; rw [if_neg hn]
    show T.tab (f a) (setKid (T.mapK f nonT ks) n (T.map f nonT t')) = .tab (f a) (setKid (T.mapK f nonT ks) n (res (M d) (some (T.map f nonT t)) n (.tab none [q])))
    rw [this, htm f h]
theorem Chg.fresh {H H2 : AHeap} {d a : Nat} {ks : List (Str × T Nat)} {n : Str} {e0 ep : Nat} {t' : T Nat} {b : T (Option Nat)} (rx : Rep H (.tab a ks)) (c1 : ∀ p, wt (cw p) (.tab a ks) ≤ 1) (hk : kidAt ks n = none) (he : H e0 = none)
    (C : Chg (upd (upd H e0 (.dict [] 0)) a (.dict (kvOf ks ++ [(.inr n, .ref e0)]) ep)) (d + 1) (.tab e0 []) b H2 t') (hb : ∃ q, b = .tab none [q]) : ∃ x', Chg H (d + 2) (.tab a ks) (.tab none [(n, b)]) H2 x' := by
  obtain ⟨q, rfl⟩ := hb
  obtain ⟨epx, hx⟩ := rx.1
  have hea : e0 ≠ a := fun z => by rw [← z, he] at hx; cases hx
  have hE : ∀ p, H p ≠ none → p ≠ a → upd (upd H e0 (.dict [] 0)) a (.dict (kvOf ks ++ [(.inr n, .ref e0)]) ep) p = H p := fun p hp hpa => by
    unfold upd
    rw [if_neg hpa, if_neg (show ¬ p = e0 from fun z => hp (by rw [z]; exact he))]
  have hnone : ∀ p, upd (upd H e0 (.dict [] 0)) a (.dict (kvOf ks ++ [(.inr n, .ref e0)]) ep) p = none → H p = none := fun p hp => by
    cases z : H p with
    | none => rfl
    | some w =>
      by_cases y : p = a
      · rw [y, upd_same] at hp; cases hp
      · rw [hE p (nsome (z)) y, z] at hp; cases hp
  have hce : ∀ p, wt (cw p) (.tab e0 []) = hit p e0 + 0 := fun p => rfl
  have hf : ∀ p, H p ≠ none → p ≠ a → H2 p = H p := fun p hp hpa => by
    have h1 := hE p hp hpa
    rw [C.fr p (by rw [h1]; exact hp) (fun z => z (by rw [hce, hit_ne (fun z => hp (by rw [z]; exact he))])), h1]
  have ha2 : H2 a = some (.dict (kvOf ks ++ [(.inr n, .ref e0)]) ep) := by
    rw [C.fr a (nsome (upd_same)) (fun z => z (by rw [hce, hit_ne (Ne.symm hea)])), upd_same]
  have hnew : ∀ p, wt (cw p) t' ≠ 0 → H p = none := fun p hp => by
    rcases C.new p hp with z | z
    · rw [hce] at z
      have : p = e0 := hit_eq (by lia)
      rw [this]; exact he
    · exact hnone p z
  have hset : ∀ p, wtK (cw p) (setKid ks n t') = wtK (cw p) ks + wt (cw p) t' := fun p => by
    have := cntK_set (a := p) (ks := ks) (n := n) (t := t')
    rw [hk] at this
    exact this
  have hv : vOf t' = .ref e0 := C.v
  refine ⟨.tab a (setKid ks n t'), rfl, ⟨⟨ep, ?_⟩, RepK.set C.rep rx.2 (fun p => ?_) fun p hp _ => hf p (rx.2.live hp) ?_⟩, fun p => ?_, fun p hp => ?_, fun p hp hq => hf p hp fun z => hq ?_, fun f h => ?_⟩
  · rw [kv_set, hv, putK_new (by rw [kv_get, hk]; rfl)]
    exact ha2
  · have := c1 p; rw [cnt_tab] at this; lia
  · rintro rfl
    have := c1 p; rw [cnt_tab, hit_same] at this; lia
  · have h2 := c1 p
    rw [cnt_tab, hset]
    rw [cnt_tab] at h2
    by_cases z : wt (cw p) t' = 0
    · lia
    · have := rx.fresh (hnew p z)
      rw [cnt_tab] at this
      have := C.one p; lia
  · rw [cnt_tab, hset] at hp
    by_cases z : wt (cw p) t' = 0
    · left; rw [cnt_tab]; lia
    · exact .inr (hnew p z)
  · show wt (cw p) _ ≠ 0
    rw [z, cnt_tab, hit_same]; lia
  · rw [map_tab, map_tab, mapK_set, M_one, mapK_kid, hk]
    have e1 : res (M (d + 1)) (none : Option (T (Option Nat))) n (.tab none [q]) = .tab none [q] := by unfold res; split <;> rfl
    have e2 := C.map f fun p hp => h p (hnone p hp)
    have e3 : T.map f nonT (.tab e0 []) = .tab none [] := by show T.tab (f e0) [] = _; rw [h e0 he]
    rw [e3, M_nil] at e2
    show T.tab (f a) (setKid (T.mapK f nonT ks) n (T.map f nonT t')) = .tab (f a) (setKid (T.mapK f nonT ks) n (res (M (d + 1)) none n (.tab none [q])))
    rw [e1, e2]
theorem wrap_one {leaf : T (Option Nat)} (hl : ∃ q, leaf = .tab none [q]) (ns : List Str) : ∃ q, wrap none ns leaf = .tab none [q] := by
  cases ns with
  | nil => exact hl
  | cons n r => exact ⟨_, rfl⟩
theorem endP_nil {a : Nat} : ∀ r : List Str, endP (.tab a ([] : List (Str × T Nat))) r = some []
  | [] => rfl
  | _ :: _ => rfl
theorem gw_path {Q : Addr → AHeap → Prop} {X : String → Option (List V) → AHeap → Prop} {leaf : T (Option Nat)} {L : Nat} (hl : ∃ q, leaf = .tab none [q]) (hL : L < sizeLine) (d : Nat) : ∀ (ns : List Str) (a : Nat) (ks : List (Str × T Nat)) (H : AHeap), Rep H (.tab a ks) → (∀ p, wt (cw p) (.tab a ks) ≤ 1) → wt emw (.tab a ks) = 0 → wt szw (.tab a ks) ≤ L → (∀ n ∈ ns, n ≠ Str.ofString "at") →
    (∀ e ke H1, Rep H1 (.tab e ke) → (∀ p, wt (cw p) (.tab e ke) ≤ 1) → wt szw (.tab e ke) ≤ L → endP (.tab a ks) ns = some ke → (ke ≠ [] → H1 = H) → FrB H H1 (fun p => wt (cw p) (.tab a ks) ≠ 0) → (∀ H2 z, Chg H1 (d + 1) (.tab e ke) leaf H2 z → ∃ x', Chg H (d + ns.length + 1) (.tab a ks) (wrap none ns leaf) H2 x') → Q e H1) →
    (endP (.tab a ks) ns = none → ∀ t, X "KeyError" (some [.str nestMsg t]) H) → Gw true Q X ns a H
  | [], a, ks, H, rx, c1, em, sz, _, hQ, _ => hQ a ks H rx c1 sz rfl (fun _ => rfl) FrB.refl fun H2 z C => ⟨z, C⟩
  | n :: r, a, ks, H, rx, c1, em, sz, hn, hQ, hX => by
    obtain ⟨ep, hx⟩ := rx.1
    have hn0 := hn n List.mem_cons_self
    have hr := fun m hm => hn m (List.mem_cons_of_mem n hm)
    have hlen := sz_len ks
    have e1 : wt szw (.tab a ks) = 1 + wtK szw ks := rfl
    have e2 : wt emw (.tab a ks) = 0 + wtK emw ks := rfl
    have hle : (kvOf ks).length = ks.length := List.length_map _
    have ezz : sizeLine = _ := sizeLine_eq
    refine ⟨kvOf ks, ep, hx, by lia, ?_⟩
    rw [kv_get]
    cases hk : kidAt ks n with
    | none =>
      intro e0 he0
      have he : endP (.tab a ks) (n :: r) = some [] := endP_none hk
      have hea : e0 ≠ a := fun z => by rw [← z, he0] at hx; cases hx
      have h0 : upd (upd H e0 (.dict [] 0)) a (.dict (kvOf ks ++ [(.inr n, .ref e0)]) (ep + 1)) e0 = some (.dict [] 0) := upd_ne hea upd_same
      have hc0 : ∀ p, wt (cw p) (.tab e0 []) = hit p e0 + 0 := fun _ => rfl
      refine gw_path hl hL d r e0 [] _ ⟨⟨0, h0⟩, trivial⟩ (fun p => by rw [hc0]; unfold hit; split <;> lia) rfl (by show 1 + 0 ≤ L; lia) hr (fun e ke H1 re ce se hke _ fe plug => ?_) fun h => ?_
      · rw [endP_nil] at hke
        refine hQ e ke H1 re ce se (by rw [he]; exact hke) (fun q => absurd (Option.some.inj hke).symm q) (fun p hp hq => ?_) fun H2 z C => ?_
        · have hpa : p ≠ a := by
            rintro rfl
            refine hq ?_
            show wt (cw p) _ ≠ 0
            rw [cnt_tab, hit_same]; lia
          have hpe : p ≠ e0 := fun z => hp (by rw [z]; exact he0)
          have h3 : upd (upd H e0 (.dict [] 0)) a (.dict (kvOf ks ++ [(.inr n, .ref e0)]) (ep + 1)) p = H p := by unfold upd; rw [if_neg hpa, if_neg hpe]
          rw [fe p (by rw [h3]; exact hp) (fun z => z (by rw [hc0, hit_ne hpe])), h3]
        · obtain ⟨t', C'⟩ := plug H2 z C
          exact C'.fresh rx c1 hk he0 (wrap_one hl r)
      · rw [endP_nil] at h; cases h
    | some t =>
      have rt : Rep H t := rx.2.kid hk
      have hwt : ∀ w : Wt Nat, wt w t ≤ wtK w ks := fun w => by
        have := wtK_kid (w := w) hk
        rw [wk_off hn0] at this; exact this
      have he : endP (.tab a ks) (n :: r) = (tgt t).bind fun y => endP y r := endP_some hk
      obtain ⟨hty, _⟩ := rt.ty
      refine ⟨by rw [hty]; simp, ?_, ?_⟩
      · intro b xs hb hbx
        cases t with
        | tab z zk => cases hb; obtain ⟨ep', e⟩ := rt.1; rw [e] at hbx; cases hbx
        | lst z zs =>
          cases hb
          rw [rt.1] at hbx; cases hbx
          have h1 := hwt szw
          have h2 := sz_lenL zs
          have h3 : wt szw (.lst b zs) = 1 + szw.emp zs + wtL szw zs := rfl
          rw [List.length_map]; lia
        | int _ => cases hb
        | txt _ => cases hb
      · -- what is gone into
        have key : ∃ l, lastOf true H (vOf t) = some (vOf l) ∧ Rep H l ∧ ((∃ y, tgt t = some y ∧ l = y) ∨ (tgt t = none ∧ ∀ b bk, l ≠ .tab b bk)) := by
          cases t with
          | tab z zk =>
            obtain ⟨ep', e⟩ := rt.1
            exact ⟨.tab z zk, lastOf_d e, rt, .inl ⟨_, rfl, rfl⟩⟩
          | lst z zs =>
            cases hlast : zs.getLast? with
            | none =>
              have : zs = [] := List.getLast?_eq_none_iff.mp hlast
              subst this
              have := hwt emw
              have h3 : wt emw (.lst z ([] : List (T Nat))) = 0 + 1 + 0 := rfl
              lia
            | some l =>
              obtain ⟨r0, rfl⟩ := getLast_snoc hlast
              refine ⟨l, ?_, (RepL.append.mp rt.2).2.1, ?_⟩
              · have e1 : lastOf true H (.ref z) = ((r0 ++ [l]).map vOf).getLast? := lastOf_l rt.1
                show lastOf true H (.ref z) = _
                rw [e1, List.map_append, List.map_singleton, List.getLast?_concat]
              · delta tgt; dsimp only; rw [List.getLast?_concat]
                cases l with
                | tab b bk => exact .inl ⟨_, rfl, rfl⟩
                | lst b bk => exact .inr ⟨rfl, fun _ _ q => by cases q⟩
                | int b => exact .inr ⟨rfl, fun _ _ q => by cases q⟩
                | txt b => exact .inr ⟨rfl, fun _ _ q => by cases q⟩
          | int i => exact ⟨.int i, rfl, trivial, .inr ⟨rfl, fun _ _ q => by cases q⟩⟩
          | txt i => exact ⟨.txt i, rfl, trivial, .inr ⟨rfl, fun _ _ q => by cases q⟩⟩
        obtain ⟨l, hlo, rl, hcase⟩ := key
        show (match lastOf true H (vOf t) with | none => _ | some w => _)
        rw [hlo]
        obtain ⟨hlt, _⟩ := rl.ty
        refine ⟨by rw [hlt]; simp, ?_⟩
        rcases hcase with ⟨y, hy, rfl⟩ | ⟨hy, hnt⟩
        · obtain ⟨b, bk, rfl⟩ := tgt_tab hy
          have hd : isDict H (vOf (.tab b bk)) = true := by obtain ⟨ep', e⟩ := rl.1; simp only [vOf, isDict, e]
          rw [if_pos hd]
          rw [hy] at he
          have hky : ∀ w : Wt Nat, wt w (.tab b bk) ≤ wt w t := fun w => by
            rcases tgt_split hy with rfl | ⟨e, r0, rfl⟩
            · exact Nat.le_refl _
            · show _ ≤ w.fl e + w.emp _ + wtL w _
              rw [wtL_snoc]; lia
          have hkx : ∀ w : Wt Nat, wt w (.tab b bk) ≤ wt w (.tab a ks) := fun w => by
            have h1 := hky w
            have h2 := hwt w
            have h3 : wt w (.tab a ks) = w.ft a + wtK w ks := rfl
            lia
          refine ⟨b, rfl, gw_path hl hL d r b bk H rl (fun p => Nat.le_trans (hkx _) (c1 p)) (Nat.le_zero.mp (em ▸ hkx emw)) (Nat.le_trans (hkx _) sz) hr (fun e ke H1 re ce se hke hs fe plug => ?_) fun h => hX (by rw [he]; exact h)⟩
          refine hQ e ke H1 re ce se (by rw [he]; exact hke) hs (fe.mono fun p hp => by have := hkx (cw p); lia) fun H2 z C => ?_
          obtain ⟨y', C'⟩ := plug H2 z C
          exact C'.sub rx c1 hk hy hn0 (wrap_one hl r)
        · have hd : isDict H (vOf l) = false := by
            cases l with
            | tab b bk => exact absurd rfl (hnt b bk)
            | lst b bk => simp only [vOf, isDict, rl.1]
            | int _ => rfl
            | txt _ => rfl
          rw [hd, if_neg Bool.false_ne_true]
          exact hX (by rw [he, hy]; rfl)
end Mine
namespace Mine
theorem upd_off {H : AHeap} {a b : Addr} {x : AObj} (h : b ≠ a) : upd H a x b = H b := if_neg h
theorem Chg.mark {H : AHeap} {e : Nat} {ke : List (Str × T Nat)} {pl : Int} {ep d : Nat} (rx : Rep H (.tab e ke)) (c1 : ∀ p, wt (cw p) (.tab e ke) ≤ 1) :
    Chg H (d + 1) (.tab e ke) (leafN false pl) (upd H e (.dict (putK (kvOf ke) (.inr "at") (.int pl)) ep)) (.tab e (setKid ke "at" (.int pl))) := by
  have hset : ∀ p, wtK (cw p) (setKid ke "at" (.int pl)) ≤ wtK (cw p) ke := fun p => by
    have := cntK_set (a := p) (ks := ke) (n := "at") (t := .int pl)
    have e0 : wt (cw p) (.int pl) = 0 := rfl
    lia
  refine ⟨rfl, ⟨⟨ep, by rw [kv_set]; exact upd_same⟩, RepK.set (t := .int pl) trivial rx.2 (fun p => ?_) fun p hp _ => upd_off ?_⟩, fun p => ?_, fun p hp => .inl ?_, fun p _ hq => upd_off ?_, fun f h => ?_⟩
  · have := c1 p; rw [cnt_tab] at this; lia
  · rintro rfl
    have := c1 p; rw [cnt_tab, hit_same] at this; lia
  · have := c1 p; have := hset p; rw [cnt_tab] at *; lia
  · have := hset p; rw [cnt_tab] at *; lia
  · rintro rfl
    refine hq ?_
    show wt (cw p) _ ≠ 0
    rw [cnt_tab, hit_same]; lia
  · rw [map_tab, map_tab, mapK_set]
    show _ = M (d + 1) (.tab (f e) (T.mapK f nonT ke)) (.tab none [(Str.ofString "at", .int pl)])
    rw [M_one]
    have : res (M d) (kidAt (T.mapK f nonT ke) (Str.ofString "at")) (Str.ofString "at") (.int pl) = .int pl := if_pos rfl
    rw [this]; rfl
theorem Chg.listN {H : AHeap} {e d0 l : Nat} {ke : List (Str × T Nat)} {z : Str} {ep d : Nat} (rx : Rep H (.tab e ke)) (c1 : ∀ p, wt (cw p) (.tab e ke) ≤ 1) (hk : kidAt ke z = none) (hd : H d0 = none) (hl : H l = none) (hdl : d0 ≠ l) :
    Chg H (d + 1) (.tab e ke) (.tab none [(z, .lst none [.tab none []])]) (upd (upd (upd H d0 (.dict [] 0)) l (.list [.ref d0])) e (.dict (kvOf ke ++ [(.inr z, .ref l)]) ep)) (.tab e (setKid ke z (.lst l [.tab d0 []]))) := by
  obtain ⟨epx, hx⟩ := rx.1
  have hde : d0 ≠ e := fun q => by rw [← q, hd] at hx; cases hx
  have hle : l ≠ e := fun q => by rw [← q, hl] at hx; cases hx
  have hu : ∀ p, H p ≠ none → p ≠ e → upd (upd (upd H d0 (.dict [] 0)) l (.list [.ref d0])) e (.dict (kvOf ke ++ [(.inr z, .ref l)]) ep) p = H p := fun p hp hpe => by
    rw [upd_off hpe, upd_off (fun q => hp (by rw [q]; exact hl)), upd_off (fun q => hp (by rw [q]; exact hd))]
  have hnew : ∀ p, wt (cw p) (.lst l [.tab d0 []]) = hit p l + (hit p d0 + 0) := fun p => by rw [cnt_lst]; rfl
  have hset : ∀ p, wtK (cw p) (setKid ke z (.lst l [.tab d0 []])) = wtK (cw p) ke + (hit p l + (hit p d0 + 0)) := fun p => by
    have := cntK_set (a := p) (ks := ke) (n := z) (t := .lst l [.tab d0 []])
    rw [hk, hnew] at this
    exact this
  have hfr : ∀ p, hit p l + (hit p d0 + 0) ≠ 0 → H p = none := fun p hp => by
    by_cases q : p = l
    · rw [q]; exact hl
    · rw [hit_ne q] at hp
      have : p = d0 := hit_eq (by lia)
      rw [this]; exact hd
  have h2 : ∀ p, hit p l + (hit p d0 + 0) ≤ 1 := fun p => by
    by_cases q : p = l
    · rw [q, hit_ne (Ne.symm hdl)]; unfold hit; split <;> lia
    · rw [hit_ne q]; unfold hit; split <;> lia
  refine ⟨rfl, ⟨⟨ep, ?_⟩, RepK.set (t := .lst l [.tab d0 []]) ⟨?_, ⟨⟨0, ?_⟩, trivial⟩, trivial⟩ rx.2 (fun p => ?_) fun p hp _ => hu p (rx.2.live hp) ?_⟩, fun p => ?_, fun p hp => ?_, fun p hp hq => hu p hp ?_, fun f h => ?_⟩
  · rw [kv_set, putK_new (by rw [kv_get, hk]; rfl)]; exact upd_same
  · exact upd_ne hle upd_same
  · exact upd_ne hde (upd_ne hdl upd_same)
  · have := c1 p; rw [cnt_tab] at this; lia
  · rintro rfl
    have := c1 p; rw [cnt_tab, hit_same] at this; lia
  · rw [cnt_tab, hset]
    have h3 := c1 p
    have h4 := h2 p
    by_cases q : hit p l + (hit p d0 + 0) = 0
    · rw [cnt_tab] at h3; lia
    · have := rx.fresh (hfr p q)
      rw [cnt_tab] at this; lia
  · rw [cnt_tab, hset] at hp
    by_cases q : hit p l + (hit p d0 + 0) = 0
    · left; rw [cnt_tab]; lia
    · exact .inr (hfr p q)
  · rintro rfl
    refine hq ?_
    show wt (cw p) _ ≠ 0
    rw [cnt_tab, hit_same]; lia
  · rw [map_tab, map_tab, mapK_set, M_one, mapK_kid, hk]
    have e1 : res (M d) (none : Option (T (Option Nat))) z (.lst none [.tab none []]) = .lst none [.tab none []] := by unfold res; split <;> rfl
    show T.tab (f e) (setKid (T.mapK f nonT ke) z (.lst (f l) [.tab (f d0) []])) = .tab (f e) (setKid (T.mapK f nonT ke) z (res (M d) none z (.lst none [.tab none []])))
    rw [e1, h l hl, h d0 hd]
theorem Chg.listA {H : AHeap} {e d0 b : Nat} {ke : List (Str × T Nat)} {xs : List (T Nat)} {z : Str} {d : Nat} (rx : Rep H (.tab e ke)) (c1 : ∀ p, wt (cw p) (.tab e ke) ≤ 1) (hk : kidAt ke z = some (.lst b xs)) (hz : z ≠ Str.ofString "at") (hd : H d0 = none) :
    Chg H (d + 1) (.tab e ke) (.tab none [(z, .lst none [.tab none []])]) (upd (upd H d0 (.dict [] 0)) b (.list (xs.map vOf ++ [.ref d0]))) (.tab e (setKid ke z (.lst b (xs ++ [.tab d0 []])))) := by
  obtain ⟨epx, hx⟩ := rx.1
  have rb := rx.2.kid hk
  have hdb : d0 ≠ b := fun q => by rw [q, rb.1] at hd; cases hd
  have hkb : ∀ p, hit p b + wtL (cw p) xs ≤ wtK (cw p) ke := fun p => by
    have := cntK_kid (a := p) hk
    rw [cnt_lst] at this; exact this
  have hbe : e ≠ b := by
    rintro rfl
    have h1 := c1 e
    have h2 := hkb e
    rw [cnt_tab, hit_same] at h1
    rw [hit_same] at h2; lia
  have hu : ∀ p, H p ≠ none → p ≠ b → upd (upd H d0 (.dict [] 0)) b (.list (xs.map vOf ++ [.ref d0])) p = H p := fun p hp hpb => by
    rw [upd_off hpb, upd_off (fun q => hp (by rw [q]; exact hd))]
  have hnew : ∀ p, wt (cw p) (.lst b (xs ++ [.tab d0 []])) = hit p b + (wtL (cw p) xs + (hit p d0 + 0)) := fun p => by rw [cnt_lst, wtL_snoc]; rfl
  have hset : ∀ p, wtK (cw p) (setKid ke z (.lst b (xs ++ [.tab d0 []]))) = wtK (cw p) ke + hit p d0 := fun p => by
    have := cntK_set (a := p) (ks := ke) (n := z) (t := .lst b (xs ++ [.tab d0 []]))
    rw [hk, hnew] at this
    have this : _ + wt (cw p) (.lst b xs) = _ := this
    rw [cnt_lst] at this
    lia
  refine ⟨rfl, ⟨⟨epx, ?_⟩, RepK.set (t := .lst b (xs ++ [.tab d0 []])) ⟨?_, (RepL.append (xs := xs) (ys := [.tab d0 []])).mpr ⟨rb.2.frame _ fun p hp => hu p (rb.2.live hp) ?_, ⟨⟨0, ?_⟩, trivial⟩, trivial⟩⟩ rx.2 (fun p => ?_) fun p hp h0 => hu p (rx.2.live hp) ?_⟩, fun p => ?_, fun p hp => ?_, fun p hp hq => hu p hp ?_, fun f h => ?_⟩
  · rw [kv_same (x := .lst b xs) (t := .lst b (xs ++ [T.tab d0 []])) rfl hk, hu e (nsome (hx)) hbe]; exact hx
  · rw [List.map_append]; exact upd_same
  · rintro rfl
    have h1 := c1 p
    have h2 := hkb p
    rw [cnt_tab] at h1
    rw [hit_same] at h2; lia
  · exact upd_ne hdb upd_same
  · have := c1 p; rw [cnt_tab] at this; lia
  · rintro rfl
    rw [hk] at h0
    have h0 : wt (cw p) (.lst p xs) = 0 := h0
    rw [cnt_lst, hit_same] at h0; lia
  · rw [cnt_tab, hset]
    have h3 := c1 p
    by_cases q : p = d0
    · have := rx.fresh hd
      rw [← q, cnt_tab] at this
      rw [q, hit_same, ← q]; lia
    · rw [hit_ne q]; rw [cnt_tab] at h3; lia
  · rw [cnt_tab, hset] at hp
    by_cases q : p = d0
    · exact .inr (by rw [q]; exact hd)
    · rw [hit_ne q] at hp
      left; rw [cnt_tab]; lia
  · rintro rfl
    refine hq ?_
    show wt (cw p) _ ≠ 0
    have := hkb p
    rw [hit_same] at this
    rw [cnt_tab]; lia
  · rw [map_tab, map_tab, mapK_set, M_one, mapK_kid, hk]
    have e1 : res (M d) (some (.lst (f b) (T.mapL f nonT xs))) z (.lst none [.tab none []]) = .lst (f b) (T.mapL f nonT xs ++ [.tab none []]) := by unfold res; rw [if_neg hz]; rfl
    show T.tab (f e) (setKid (T.mapK f nonT ke) z (.lst (f b) (T.mapL f nonT (xs ++ [.tab d0 []])))) = .tab (f e) (setKid (T.mapK f nonT ke) z (res (M d) (some (.lst (f b) (T.mapL f nonT xs))) z (.lst none [.tab none []])))
    rw [e1, mapL_append]
    show T.tab (f e) (setKid (T.mapK f nonT ke) z (.lst (f b) (T.mapL f nonT xs ++ [.tab (f d0) []]))) = _
    rw [h d0 hd]
theorem brN_get {pl : Int} : ∀ ns : List Str, brN false pl ns = wrap none ns (leafN false pl)
  | [] => rfl
  | n :: r => by show T.tab none [(n, brN false pl r)] = .tab none [(n, wrap none r (leafN false pl))]; rw [brN_get r]
theorem brN_app {pl : Int} {z : Str} : ∀ ns : List Str, brN true pl (ns ++ [z]) = wrap none ns (.tab none [(z, .lst none [.tab none []])])
  | [] => rfl
  | n :: r => by show T.tab none [(n, brN true pl (r ++ [z]))] = .tab none [(n, wrap none r _)]; rw [brN_app r]
theorem told_get {x : T (Option Nat)} {ns : List Str} {pl : Int} (hx : ∃ a ks, x = .tab a ks) (hn : ∀ n ∈ ns, n ≠ Str.ofString "at") (hl : ns.length ≤ 3) : cl 4 x (brN false pl ns) = match endP x ns with | none => [nestMsg] | some _ => [] := by
  have e : 4 = (3 - ns.length) + ns.length + 1 := by lia
  rw [brN_get, e]
  show cl _ x (wrap none ns (.tab none [(Str.ofString "at", .int pl)])) = _
  rw [cl_wrap ns _ x hx hn]
  cases endP x ns with
  | none => rfl
  | some ke =>
    have h1 : lev (kidAt ke (Str.ofString "at")) (Str.ofString "at") (.int pl) = [] := by unfold lev; rw [if_pos rfl]
    have h2 : dpr (cl (3 - ns.length)) (M (3 - ns.length)) (kidAt ke (Str.ofString "at")) (Str.ofString "at") (.int pl) = [] := by unfold dpr; rw [if_pos rfl]
    show lev (kidAt ke (Str.ofString "at")) (Str.ofString "at") (.int pl) ++ _ = _
    rw [h1, h2]; rfl
theorem told_app {x : T (Option Nat)} {ns : List Str} {z : Str} {pl : Int} (hx : ∃ a ks, x = .tab a ks) (hn : ∀ n ∈ ns, n ≠ Str.ofString "at") (hz : z ≠ Str.ofString "at") (hl : ns.length ≤ 2) : cl 4 x (brN true pl (ns ++ [z])) = match endP x ns with | none => [nestMsg] | some ke => match kidAt ke z with
    | none => []
    | some (.lst _ _) => []
    | some _ => [listMsg] := by
  have e : 4 = (3 - ns.length) + ns.length + 1 := by lia
  rw [brN_app, e, cl_wrap ns _ x hx hn]
  cases endP x ns with
  | none => rfl
  | some ke =>
    show lev (kidAt ke z) z (.lst none [.tab none []]) ++ dpr _ _ (kidAt ke z) z (.lst none [.tab none []]) = match kidAt ke z with | none => [] | some (.lst _ _) => [] | some _ => [listMsg]
    unfold lev dpr
    rw [if_neg hz, if_neg hz]
    cases kidAt ke z with
    | none => rfl
    | some t =>
      cases t with
      | tab a ks =>
        show [listMsg] ++ (cl (3 - ns.length) (.tab a ks) (.tab none []) ++ []) = [listMsg]
        cases 3 - ns.length <;> rfl
      | lst _ _ => rfl
      | int _ => rfl
      | txt _ => rfl
end Mine
namespace Mine
theorem get_tree {Q : Addr → AHeap → Prop} {X : String → Option (List V) → AHeap → Prop} {L a : Nat} {ks : List (Str × T Nat)} {H : AHeap} {ns : List Str} {pl : Int} (hL : L < sizeLine) (rx : Rep H (.tab a ks)) (c1 : ∀ p, wt (cw p) (.tab a ks) ≤ 1) (em : wt emw (.tab a ks) = 0) (sz : wt szw (.tab a ks) ≤ L) (hn : ∀ n ∈ ns, n ≠ Str.ofString "at") (hl : ns.length ≤ 3)
    (hQ : cl 4 (T.map nonT nonT (.tab a ks)) (brN false pl ns) = [] → ∀ e H1 kvs ep, H1 e = some (.dict kvs ep) → kvs.length ≤ sizeLine → FrB H H1 (fun p => wt (cw p) (.tab a ks) ≠ 0) → (∀ ep', ∃ x', Chg H 4 (.tab a ks) (brN false pl ns) (upd H1 e (.dict (putK kvs (.inr "at") (.int pl)) ep')) x') → Q e H1)
    (hX : ∀ msg, cl 4 (T.map nonT nonT (.tab a ks)) (brN false pl ns) = [msg] → ∀ t, X "KeyError" (some [.str msg t]) H) : Gw true Q X ns a H := by
  have hd : 3 - ns.length + ns.length + 1 = 4 := by omega
  have told := told_get (x := T.map nonT nonT (.tab a ks)) (ns := ns) (pl := pl) ⟨_, _, rfl⟩ hn hl
  rw [endP_map] at told
  refine gw_path (leaf := leafN false pl) ⟨_, rfl⟩ hL (3 - ns.length) ns a ks H rx c1 em sz hn (fun e ke H1 re ce se hke hs fe plug => ?_) fun h t => ?_
  · rw [hke] at told
    obtain ⟨ep, he⟩ := re.1
    have h1 := sz_len ke
    have h2 : wt szw (.tab e ke) = 1 + wtK szw ke := rfl
    have h3 : (kvOf ke).length = ke.length := List.length_map _
    refine hQ told e H1 (kvOf ke) ep he (by omega) fe fun ep' => ?_
    obtain ⟨x', C⟩ := plug _ _ (Chg.mark (ep := ep') re ce)
    rw [hd, ← brN_get] at C
    exact ⟨x', C⟩
  · rw [h] at told
    exact hX _ told t
theorem app_tree {Q : AHeap → Prop} {X : String → Option (List V) → AHeap → Prop} {L a : Nat} {ks : List (Str × T Nat)} {H : AHeap} {ns : List Str} {z : Str} {pl : Int} (hL : L < sizeLine) (rx : Rep H (.tab a ks)) (c1 : ∀ p, wt (cw p) (.tab a ks) ≤ 1) (em : wt emw (.tab a ks) = 0) (sz : wt szw (.tab a ks) ≤ L) (hn : ∀ n ∈ ns, n ≠ Str.ofString "at") (hz : z ≠ Str.ofString "at") (hl : ns.length ≤ 2)
    (hQ : cl 4 (T.map nonT nonT (.tab a ks)) (brN true pl (ns ++ [z])) = [] → ∀ H2 x', Chg H 4 (.tab a ks) (brN true pl (ns ++ [z])) H2 x' → Q H2)
    (hX : ∀ msg, cl 4 (T.map nonT nonT (.tab a ks)) (brN true pl (ns ++ [z])) = [msg] → ∀ t, X "KeyError" (some [.str msg t]) H) : Ga Q X (ns ++ [z]) a H := by
  have hd : 3 - ns.length + ns.length + 1 = 4 := by omega
  have told := told_app (x := T.map nonT nonT (.tab a ks)) (ns := ns) (z := z) (pl := pl) ⟨_, _, rfl⟩ hn hz hl
  rw [endP_map] at told
  show Gw true (GaEnd Q X (ns ++ [z]).getLast?) X (ns ++ [z]).dropLast a H
  rw [List.dropLast_concat, List.getLast?_concat]
  refine gw_path (leaf := .tab none [(z, .lst none [.tab none []])]) ⟨_, rfl⟩ hL (3 - ns.length) ns a ks H rx c1 em sz hn (fun e ke H1 re ce se hke hs fe plug => ?_) fun h t => ?_
  · rw [hke] at told
    have told : cl 4 (T.map nonT nonT (.tab a ks)) (brN true pl (ns ++ [z])) = match kidAt (T.mapK nonT nonT ke) z with | none => [] | some (.lst _ _) => [] | some _ => [listMsg] := told
    rw [mapK_kid] at told
    obtain ⟨ep, he⟩ := re.1
    have h1 := sz_len ke
    have h2 : wt szw (.tab e ke) = 1 + wtK szw ke := rfl
    have h3 : (kvOf ke).length = ke.length := List.length_map _
    refine ⟨kvOf ke, ep, he, by omega, ?_⟩
    rw [kv_get]
    cases hk : kidAt ke z with
    | none =>
      rw [hk] at told
      intro d l hd0 hl0 hdl
      obtain ⟨x', C⟩ := plug _ _ (Chg.listN (ep := ep + 1) re ce hk hd0 hl0 hdl)
      rw [hd, ← brN_app (pl := pl)] at C
      exact hQ told _ x' C
    | some t =>
      rw [hk] at told
      have rt : Rep H1 t := re.2.kid hk
      obtain ⟨hty, _⟩ := rt.ty
      refine ⟨by rw [hty]; simp, ?_⟩
      have hne : ke ≠ [] := fun q => by rw [q] at hk; cases hk
      have tk := wtK_kid (w := szw) hk
      rw [wk_off hz] at tk
      cases t with
      | lst b xs =>
        have h4 : wt szw (.lst b xs) = 1 + szw.emp xs + wtL szw xs := rfl
        have h5 := sz_lenL xs
        refine .inl ⟨b, xs.map vOf, rfl, rt.1, by rw [List.length_map]; omega, fun d0 hd0 => ?_⟩
        obtain ⟨x', C⟩ := plug _ _ (Chg.listA re ce hk hz hd0)
        rw [hd, ← brN_app (pl := pl)] at C
        exact hQ told _ x' C
      | tab b bk => exact .inr ⟨by rw [hty]; simp [tyT], fun t => by rw [hs hne]; exact hX _ told t⟩
      | int i => exact .inr ⟨by rw [hty]; simp [tyT], fun t => by rw [hs hne]; exact hX _ told t⟩
      | txt i => exact .inr ⟨by rw [hty]; simp [tyT], fun t => by rw [hs hne]; exact hX _ told t⟩
  · rw [h] at told
    exact hX _ told t
end Mine
namespace Mine
section
variable {α β : Type}
mutual
noncomputable def find (p : α → Bool) : T α → Option (List (Str × T α))
  | .tab a ks => if p a = true then some ks else findK p ks
  | .lst _ xs => findL p xs
  | .int _ => none
  | .txt _ => none
noncomputable def findK (p : α → Bool) : List (Str × T α) → Option (List (Str × T α))
  | [] => none
  | (_, t) :: r => (find p t).or (findK p r)
noncomputable def findL (p : α → Bool) : List (T α) → Option (List (Str × T α))
  | [] => none
  | t :: r => (find p t).or (findL p r)
end
mutual
noncomputable def modT (p : α → Bool) (g : List (Str × T α) → List (Str × T α)) : T α → T α
  | .tab a ks => if p a = true then .tab a (g ks) else .tab a (modK p g ks)
  | .lst a xs => .lst a (modL p g xs)
  | .int i => .int i
  | .txt a => .txt a
noncomputable def modK (p : α → Bool) (g : List (Str × T α) → List (Str × T α)) : List (Str × T α) → List (Str × T α)
  | [] => []
  | (n, t) :: r => (n, modT p g t) :: modK p g r
noncomputable def modL (p : α → Bool) (g : List (Str × T α) → List (Str × T α)) : List (T α) → List (T α)
  | [] => []
  | t :: r => modT p g t :: modL p g r
end
section
variable {f h : α → β} {p : α → Bool} {p' : β → Bool} (hp : ∀ b, p' (f b) = p b)
include hp
mutual
theorem find_map : ∀ t : T α, find p' (T.map f h t) = (find p t).map (T.mapK f h)
  | .tab a ks => by
    have := findK_map ks
    show (if p' (f a) = true then some (T.mapK f h ks) else findK p' (T.mapK f h ks)) = (if p a = true then some ks else findK p ks).map _
    rw [hp]
    split
    · rfl
    · exact this
  | .lst a xs => findL_map xs
  | .int _ => rfl
  | .txt _ => rfl
theorem findK_map : ∀ ks : List (Str × T α), findK p' (T.mapK f h ks) = (findK p ks).map (T.mapK f h)
  | [] => rfl
  | (n, t) :: r => by
    have h1 := find_map t
    have h2 := findK_map r
    show ((find p' (T.map f h t)).or (findK p' (T.mapK f h r))) = ((find p t).or (findK p r)).map _
    rw [h1, h2]
    cases find p t <;> rfl
theorem findL_map : ∀ xs : List (T α), findL p' (T.mapL f h xs) = (findL p xs).map (T.mapK f h)
  | [] => rfl
  | t :: r => by
    have h1 := find_map t
    have h2 := findL_map r
    show ((find p' (T.map f h t)).or (findL p' (T.mapL f h r))) = ((find p t).or (findL p r)).map _
    rw [h1, h2]
    cases find p t <;> rfl
end
variable {g : List (Str × T α) → List (Str × T α)} {g' : List (Str × T β) → List (Str × T β)} (hg : ∀ ks, T.mapK f h (g ks) = g' (T.mapK f h ks))
include hg
mutual
theorem modT_map : ∀ t : T α, T.map f h (modT p g t) = modT p' g' (T.map f h t)
  | .tab a ks => by
    have := modK_map ks
    show T.map f h (if p a = true then .tab a (g ks) else .tab a (modK p g ks)) = if p' (f a) = true then .tab (f a) (g' (T.mapK f h ks)) else .tab (f a) (modK p' g' (T.mapK f h ks))
    rw [hp]
    split
    · show T.tab (f a) (T.mapK f h (g ks)) = _; rw [hg]
    · show T.tab (f a) (T.mapK f h (modK p g ks)) = _; rw [this]
  | .lst a xs => by
    have := modL_map xs
    show T.lst (f a) (T.mapL f h (modL p g xs)) = .lst (f a) (modL p' g' (T.mapL f h xs))
    rw [this]
  | .int _ => rfl
  | .txt _ => rfl
theorem modK_map : ∀ ks : List (Str × T α), T.mapK f h (modK p g ks) = modK p' g' (T.mapK f h ks)
  | [] => rfl
  | (n, t) :: r => by
    have h1 := modT_map t
    have h2 := modK_map r
    show (n, T.map f h (modT p g t)) :: T.mapK f h (modK p g r) = (n, modT p' g' (T.map f h t)) :: modK p' g' (T.mapK f h r)
    rw [h1, h2]
theorem modL_map : ∀ xs : List (T α), T.mapL f h (modL p g xs) = modL p' g' (T.mapL f h xs)
  | [] => rfl
  | t :: r => by
    have h1 := modT_map t
    have h2 := modL_map r
    show T.map f h (modT p g t) :: T.mapL f h (modL p g r) = modT p' g' (T.map f h t) :: modL p' g' (T.mapL f h r)
    rw [h1, h2]
end
end
end
noncomputable def isA (a : Nat) (b : Nat) : Bool := decide (b = a)
theorem isA_same {a : Nat} : isA a a = true := decide_eq_true rfl
theorem isA_ne {a b : Nat} (h : b ≠ a) : isA a b = false := decide_eq_false h
section
variable {a : Nat} {g : List (Str × T Nat) → List (Str × T Nat)}
theorem tab_cnt {b : Nat} {ks : List (Str × T Nat)} (h : wt (cw a) (.tab b ks) = 0) : b ≠ a ∧ wtK (cw a) ks = 0 := by
  rw [cnt_tab] at h
  refine ⟨fun q => ?_, by lia⟩
  rw [q, hit_same] at h; lia
mutual
theorem mod_off : ∀ t : T Nat, wt (cw a) t = 0 → modT (isA a) g t = t ∧ find (isA a) t = none
  | .tab b ks, h => by
    obtain ⟨h1, h2⟩ := tab_cnt h
    obtain ⟨h3, h4⟩ := modK_off ks h2
    constructor
    · show (if isA a b = true then T.tab b (g ks) else .tab b (modK (isA a) g ks)) = _
      rw [isA_ne h1, if_neg Bool.false_ne_true, h3]
    · show (if isA a b = true then some ks else findK (isA a) ks) = _
      rw [isA_ne h1, if_neg Bool.false_ne_true, h4]
  | .lst b xs, h => by
    rw [cnt_lst] at h
    obtain ⟨h3, h4⟩ := modL_off xs (by lia)
    exact ⟨by show T.lst b (modL (isA a) g xs) = _; rw [h3], h4⟩
  | .int _, _ => ⟨rfl, rfl⟩
  | .txt _, _ => ⟨rfl, rfl⟩
theorem modK_off : ∀ ks : List (Str × T Nat), wtK (cw a) ks = 0 → modK (isA a) g ks = ks ∧ findK (isA a) ks = none
  | [], _ => ⟨rfl, rfl⟩
  | (n, t) :: r, h => by
    rw [cntK_cons] at h
    obtain ⟨h1, h2⟩ := mod_off t (by lia)
    obtain ⟨h3, h4⟩ := modK_off r (by lia)
    constructor
    · show (n, modT (isA a) g t) :: modK (isA a) g r = _
      rw [h1, h3]
    · show ((find (isA a) t).or (findK (isA a) r)) = _
      rw [h2]; exact h4
theorem modL_off : ∀ xs : List (T Nat), wtL (cw a) xs = 0 → modL (isA a) g xs = xs ∧ findL (isA a) xs = none
  | [], _ => ⟨rfl, rfl⟩
  | t :: r, h => by
    rw [cntL_cons] at h
    obtain ⟨h1, h2⟩ := mod_off t (by lia)
    obtain ⟨h3, h4⟩ := modL_off r (by lia)
    constructor
    · show modT (isA a) g t :: modL (isA a) g r = _
      rw [h1, h3]
    · show ((find (isA a) t).or (findL (isA a) r)) = _
      rw [h2]; exact h4
end
theorem mod_kind {n : Str} {w : Wt Nat} (t : T Nat) : w.bad n (modT (isA a) g t) = w.bad n t ∧ vOf (modT (isA a) g t) = vOf t := by
  cases t with
  | tab b ks =>
    have : ∃ ks', modT (isA a) g (.tab b ks) = .tab b ks' := by
      show ∃ ks', (if isA a b = true then T.tab b (g ks) else .tab b (modK (isA a) g ks)) = _
      split
      · exact ⟨_, rfl⟩
      · exact ⟨_, rfl⟩
    obtain ⟨ks', e⟩ := this
    rw [e]; exact ⟨rfl, rfl⟩
  | lst b xs => exact ⟨rfl, rfl⟩
  | int _ => exact ⟨rfl, rfl⟩
  | txt _ => exact ⟨rfl, rfl⟩
variable {ks0 : List (Str × T Nat)} {H H' : AHeap}
theorem mod_emp {w : Wt Nat} (xs : List (T Nat)) : w.emp (modL (isA a) g xs) = w.emp xs := by cases xs <;> rfl
theorem kv_mod : ∀ ks : List (Str × T Nat), kvOf (modK (isA a) g ks) = kvOf ks
  | [] => rfl
  | (n, t) :: r => by
    show (Sum.inr n, vOf (modT (isA a) g t)) :: kvOf (modK (isA a) g r) = (.inr n, vOf t) :: kvOf r
    rw [kv_mod r, (mod_kind (n := n) (w := szw) t).2]
theorem vs_mod : ∀ xs : List (T Nat), (modL (isA a) g xs).map vOf = xs.map vOf
  | [] => rfl
  | t :: r => by
    show vOf (modT (isA a) g t) :: (modL (isA a) g r).map vOf = vOf t :: r.map vOf
    rw [vs_mod r, (mod_kind (n := "") (w := szw) t).2]
mutual
theorem mod_find : ∀ t : T Nat, wt (cw a) t ≤ 1 → find (isA a) t = some ks0 → (∀ w : Wt Nat, wt w (modT (isA a) g t) + wtK w ks0 = wt w t + wtK w (g ks0) ∧ w.ft a + wtK w ks0 ≤ wt w t) ∧
    (Rep H t → (∃ ep, H a = some (.dict (kvOf ks0) ep)) ∧ RepK H ks0) ∧
    (Rep H t → (∀ b, wt (cw b) t ≤ 1) → (∀ b, wt (cw b) t ≠ 0 → wt (cw b) (.tab a ks0) = 0 → H' b = H b) → Rep H' (.tab a (g ks0)) → Rep H' (modT (isA a) g t))
  | .tab b ks, h1, hf => by
    have hf : (if isA a b = true then some ks else findK (isA a) ks) = some ks0 := hf
    have em : modT (isA a) g (.tab b ks) = if isA a b = true then T.tab b (g ks) else .tab b (modK (isA a) g ks) := rfl
    have ew : ∀ (w : Wt Nat) ks, wt w (.tab b ks) = w.ft b + wtK w ks := fun _ _ => rfl
    by_cases q : b = a
    · subst q
      rw [isA_same, if_pos rfl] at hf em
      rw [em]
      cases hf
      exact ⟨fun w => by rw [ew, ew]; lia, fun r => r, fun _ _ _ r => r⟩
    · rw [isA_ne q, if_neg Bool.false_ne_true] at hf em
      rw [cnt_tab] at h1
      obtain ⟨i1, i3, i4⟩ := modK_find ks (by lia) hf
      rw [em]
      refine ⟨fun w => by have := i1 w; rw [ew, ew]; lia, fun r => i3 r.2, fun r c hfr hr => ?_⟩
      obtain ⟨ep, e⟩ := r.1
      refine ⟨⟨ep, ?_⟩, i4 r.2 (fun p => ?_) (fun p hp h0 => hfr p (by rw [cnt_tab]; lia) h0) hr⟩
      · rw [kv_mod, hfr b (by rw [cnt_tab, hit_same]; lia) ?_]
        · exact e
        · have h2 := c b
          rw [cnt_tab, hit_same] at h2
          have h4 : hit b a + wtK (cw b) ks0 ≤ wtK (cw b) ks := (i1 (cw b)).2
          rw [cnt_tab]; lia
      · have := c p; rw [cnt_tab] at this; lia
  | .lst b xs, h1, hf => by
    rw [cnt_lst] at h1
    have hf : findL (isA a) xs = some ks0 := hf
    obtain ⟨i1, i3, i4⟩ := modL_find xs (by lia) hf
    have ew : ∀ (w : Wt Nat) xs, wt w (.lst b xs) = w.fl b + w.emp xs + wtL w xs := fun _ _ => rfl
    refine ⟨fun w => ?_, fun r => i3 r.2, fun r c hfr hr => ⟨?_, i4 r.2 (fun p => ?_) (fun p hp h0 => hfr p (by rw [cnt_lst]; lia) h0) hr⟩⟩
    · have := i1 w
      show wt w (.lst b (modL (isA a) g xs)) + _ = _ ∧ _
      rw [ew, ew, mod_emp]
      lia
    · rw [vs_mod, hfr b (by rw [cnt_lst, hit_same]; lia) ?_]
      · exact r.1
      · have h2 := c b
        rw [cnt_lst, hit_same] at h2
        have h4 : hit b a + wtK (cw b) ks0 ≤ wtL (cw b) xs := (i1 (cw b)).2
        rw [cnt_tab]; lia
    · have := c p; rw [cnt_lst] at this; lia
  | .int _, _, hf => by cases hf
  | .txt _, _, hf => by cases hf
theorem modK_find : ∀ ks : List (Str × T Nat), wtK (cw a) ks ≤ 1 → findK (isA a) ks = some ks0 → (∀ w : Wt Nat, wtK w (modK (isA a) g ks) + wtK w ks0 = wtK w ks + wtK w (g ks0) ∧ w.ft a + wtK w ks0 ≤ wtK w ks) ∧
    (RepK H ks → (∃ ep, H a = some (.dict (kvOf ks0) ep)) ∧ RepK H ks0) ∧
    (RepK H ks → (∀ b, wtK (cw b) ks ≤ 1) → (∀ b, wtK (cw b) ks ≠ 0 → wt (cw b) (.tab a ks0) = 0 → H' b = H b) → Rep H' (.tab a (g ks0)) → RepK H' (modK (isA a) g ks))
  | [], _, hf => by cases hf
  | (n, t) :: r, h1, hf => by
    have hf : (find (isA a) t).or (findK (isA a) r) = some ks0 := hf
    rw [cntK_cons] at h1
    have e1 : modK (isA a) g ((n, t) :: r) = (n, modT (isA a) g t) :: modK (isA a) g r := rfl
    have e2 : ∀ (w : Wt Nat) t r, wtK w ((n, t) :: r) = wt w t + w.bad n t + wtK w r := fun _ _ _ => rfl
    rw [e1]
    cases hq : find (isA a) t with
    | some ks =>
      rw [hq] at hf
      have hf : some ks = some ks0 := hf
      cases hf
      obtain ⟨i1, i3, i4⟩ := mod_find t (by lia) hq
      have i2 : ∀ p, hit p a + wtK (cw p) ks0 ≤ wt (cw p) t := fun p => (i1 (cw p)).2
      have hr0 : wtK (cw a) r = 0 := by
        have := i2 a
        rw [hit_same] at this; lia
      obtain ⟨o1, o2⟩ := modK_off (g := g) r hr0
      rw [o1]
      refine ⟨fun w => by have := i1 w; rw [e2, e2, (mod_kind t).1]; lia, fun r => i3 r.1, fun rr c hfr hr => ⟨i4 rr.1 (fun p => ?_) (fun p hp h0 => hfr p (by rw [cntK_cons]; lia) h0) hr, rr.2.frame _ fun p hp => hfr p (by rw [cntK_cons]; lia) ?_⟩⟩
      · have := c p; rw [cntK_cons] at this; lia
      · have := c p
        rw [cntK_cons] at this
        have := i2 p
        rw [cnt_tab]; lia
    | none =>
      rw [hq] at hf
      have hf : findK (isA a) r = some ks0 := hf
      obtain ⟨i1, i3, i4⟩ := modK_find r (by lia) hf
      have i2 : ∀ p, hit p a + wtK (cw p) ks0 ≤ wtK (cw p) r := fun p => (i1 (cw p)).2
      have ht0 : wt (cw a) t = 0 := by
        have := i2 a
        rw [hit_same] at this; lia
      obtain ⟨o1, o2⟩ := mod_off (g := g) t ht0
      rw [o1]
      refine ⟨fun w => by have := i1 w; rw [e2, e2]; lia, fun r => i3 r.2, fun rr c hfr hr => ⟨rr.1.frame _ fun p hp => hfr p (by rw [cntK_cons]; lia) ?_, i4 rr.2 (fun p => ?_) (fun p hp h0 => hfr p (by rw [cntK_cons]; lia) h0) hr⟩⟩
      · have := c p
        rw [cntK_cons] at this
        have := i2 p
        rw [cnt_tab]; lia
      · have := c p; rw [cntK_cons] at this; lia
theorem modL_find : ∀ xs : List (T Nat), wtL (cw a) xs ≤ 1 → findL (isA a) xs = some ks0 → (∀ w : Wt Nat, wtL w (modL (isA a) g xs) + wtK w ks0 = wtL w xs + wtK w (g ks0) ∧ w.ft a + wtK w ks0 ≤ wtL w xs) ∧
    (RepL H xs → (∃ ep, H a = some (.dict (kvOf ks0) ep)) ∧ RepK H ks0) ∧
    (RepL H xs → (∀ b, wtL (cw b) xs ≤ 1) → (∀ b, wtL (cw b) xs ≠ 0 → wt (cw b) (.tab a ks0) = 0 → H' b = H b) → Rep H' (.tab a (g ks0)) → RepL H' (modL (isA a) g xs))
  | [], _, hf => by cases hf
  | t :: r, h1, hf => by
    have hf : (find (isA a) t).or (findL (isA a) r) = some ks0 := hf
    rw [cntL_cons] at h1
    have e1 : modL (isA a) g (t :: r) = modT (isA a) g t :: modL (isA a) g r := rfl
    have e2 : ∀ (w : Wt Nat) t r, wtL w (t :: r) = wt w t + wtL w r := fun _ _ _ => rfl
    rw [e1]
    cases hq : find (isA a) t with
    | some ks =>
      rw [hq] at hf
      have hf : some ks = some ks0 := hf
      cases hf
      obtain ⟨i1, i3, i4⟩ := mod_find t (by lia) hq
      have i2 : ∀ p, hit p a + wtK (cw p) ks0 ≤ wt (cw p) t := fun p => (i1 (cw p)).2
      have hr0 : wtL (cw a) r = 0 := by
        have := i2 a
        rw [hit_same] at this; lia
      obtain ⟨o1, o2⟩ := modL_off (g := g) r hr0
      rw [o1]
      refine ⟨fun w => by have := i1 w; rw [e2, e2]; lia, fun r => i3 r.1, fun rr c hfr hr => ⟨i4 rr.1 (fun p => ?_) (fun p hp h0 => hfr p (by rw [cntL_cons]; lia) h0) hr, rr.2.frame _ fun p hp => hfr p (by rw [cntL_cons]; lia) ?_⟩⟩
      · have := c p; rw [cntL_cons] at this; lia
      · have := c p
        rw [cntL_cons] at this
        have := i2 p
        rw [cnt_tab]; lia
    | none =>
      rw [hq] at hf
      have hf : findL (isA a) r = some ks0 := hf
      obtain ⟨i1, i3, i4⟩ := modL_find r (by lia) hf
      have i2 : ∀ p, hit p a + wtK (cw p) ks0 ≤ wtL (cw p) r := fun p => (i1 (cw p)).2
      have ht0 : wt (cw a) t = 0 := by
        have := i2 a
        rw [hit_same] at this; lia
      obtain ⟨o1, o2⟩ := mod_off (g := g) t ht0
      rw [o1]
      refine ⟨fun w => by have := i1 w; rw [e2, e2]; lia, fun r => i3 r.2, fun rr c hfr hr => ⟨rr.1.frame _ fun p hp => hfr p (by rw [cntL_cons]; lia) ?_, i4 rr.2 (fun p => ?_) (fun p hp h0 => hfr p (by rw [cntL_cons]; lia) h0) hr⟩⟩
      · have := c p
        rw [cntL_cons] at this
        have := i2 p
        rw [cnt_tab]; lia
      · have := c p; rw [cntL_cons] at this; lia
end
mutual
theorem find_has : ∀ t : T Nat, find (isA a) t ≠ none ↔ wt (tw (hit a)) t ≠ 0
  | .tab b ks => by
    have ih := findK_has ks
    show (if isA a b = true then some ks else findK (isA a) ks) ≠ none ↔ hit a b + wtK (tw (hit a)) ks ≠ 0
    by_cases q : b = a
    · rw [q, isA_same, hit_same, if_pos rfl]
      exact ⟨fun _ => by lia, fun _ => by simp⟩
    · rw [isA_ne q, hit_ne (Ne.symm q), if_neg Bool.false_ne_true, Nat.zero_add]; exact ih
  | .lst b xs => by
    have ih := findL_has xs
    show findL (isA a) xs ≠ none ↔ 0 + (tw (hit a)).emp xs + wtL (tw (hit a)) xs ≠ 0
    rw [tw_emp, Nat.zero_add]; exact ih
  | .int _ => ⟨fun h => absurd rfl h, fun h => absurd rfl h⟩
  | .txt _ => ⟨fun h => absurd rfl h, fun h => absurd rfl h⟩
theorem findK_has : ∀ ks : List (Str × T Nat), findK (isA a) ks ≠ none ↔ wtK (tw (hit a)) ks ≠ 0
  | [] => ⟨fun h => absurd rfl h, fun h => absurd rfl h⟩
  | (n, t) :: r => by
    have h1 := find_has t
    have h2 := findK_has r
    show ((find (isA a) t).or (findK (isA a) r)) ≠ none ↔ wt (tw (hit a)) t + (tw (hit a)).bad n t + wtK (tw (hit a)) r ≠ 0
    rw [tw_bad]
    cases e : find (isA a) t with
    | some ks =>
      have := h1.mp (nsome (e))
      exact ⟨fun _ => by lia, fun _ => by simp⟩
    | none =>
      have : wt (tw (hit a)) t = 0 := Classical.byContradiction fun q => h1.mpr q e
      rw [this]
      show findK (isA a) r ≠ none ↔ _
      rw [h2]
      constructor <;> intro <;> lia
theorem findL_has : ∀ xs : List (T Nat), findL (isA a) xs ≠ none ↔ wtL (tw (hit a)) xs ≠ 0
  | [] => ⟨fun h => absurd rfl h, fun h => absurd rfl h⟩
  | t :: r => by
    have h1 := find_has t
    have h2 := findL_has r
    show ((find (isA a) t).or (findL (isA a) r)) ≠ none ↔ wt (tw (hit a)) t + wtL (tw (hit a)) r ≠ 0
    cases e : find (isA a) t with
    | some ks =>
      have := h1.mp (nsome (e))
      exact ⟨fun _ => by lia, fun _ => by simp⟩
    | none =>
      have : wt (tw (hit a)) t = 0 := Classical.byContradiction fun q => h1.mpr q e
      rw [this]
      show findL (isA a) r ≠ none ↔ _
      rw [h2]
      constructor <;> intro <;> lia
end
end
end Mine
namespace Mine
noncomputable def ix : List Nat → Nat → Option Nat
  | [], _ => none
  | h :: r, a => if h = a then some 0 else (ix r a).map (· + 1)
theorem ix_none : ∀ {hs : List Nat} {b : Nat}, b ∉ hs → ix hs b = none
  | [], _, _ => rfl
  | h :: r, b, q => by
    rw [List.mem_cons, not_or] at q
    show (if h = b then some 0 else (ix r b).map (· + 1)) = none
    rw [if_neg (Ne.symm q.1), ix_none q.2]; rfl
theorem ix_at : ∀ {hs : List Nat}, hs.Nodup → ∀ {b j : Nat}, ix hs b = some j ↔ hs[j]? = some b
  | [], _, b, j => ⟨fun q => (by cases q), fun q => (by cases q)⟩
  | h :: r, hn, b, j => by
    rw [List.nodup_cons] at hn
    show (if h = b then some 0 else (ix r b).map (· + 1)) = some j ↔ _
    by_cases q : h = b
    · rw [if_pos q]
      cases j with
      | zero => simp [q]
      | succ j =>
        constructor
        · intro e; cases e
        · intro e
          have e : r[j]? = some b := by simpa using e
          exact absurd (q ▸ List.mem_of_getElem? e) hn.1
    · rw [if_neg q]
      cases j with
      | zero =>
        constructor
        · intro e
          cases e2 : ix r b <;> rw [e2] at e <;> cases e
        · intro e
          simp at e; exact absurd e q
      | succ j =>
        have ih := ix_at hn.2 (b := b) (j := j)
        have e2 : (h :: r)[j + 1]? = r[j]? := by simp
        rw [e2, ← ih]
        cases ix r b with
        | none => constructor <;> intro e <;> cases e
        | some i => constructor <;> intro e <;> simp at e ⊢ <;> exact e
theorem ix_app {hs : List Nat} {b e : Nat} (h : b ≠ e) : ix (hs ++ [e]) b = ix hs b := by
  induction hs with
  | nil =>
    show (if e = b then some 0 else (ix [] b).map (· + 1)) = none
    rw [if_neg (Ne.symm h)]; rfl
  | cons x r ih =>
    show (if x = b then some 0 else (ix (r ++ [e]) b).map (· + 1)) = if x = b then some 0 else (ix r b).map (· + 1)
    rw [ih]
theorem ix_last {hs : List Nat} {e : Nat} (h : e ∉ hs) : ix (hs ++ [e]) e = some hs.length := by
  induction hs with
  | nil =>
    show (if e = e then some 0 else _) = _
    rw [if_pos rfl]; rfl
  | cons x r ih =>
    rw [List.mem_cons, not_or] at h
    show (if x = e then some 0 else (ix (r ++ [e]) e).map (· + 1)) = some (r.length + 1)
    rw [if_neg (Ne.symm h.1), ih h.2]; rfl
noncomputable def pN (j : Nat) (o : Option Nat) : Bool := decide (o = some j)
section
variable {α β : Type}
noncomputable def gI (k : Nat) (item : T α) (l : α) (name : Str) (ks : List (Str × T α)) : List (Str × T α) := match kidAt ks name with
  | none => setKid ks name (if k = 0 ∨ k = 2 then item else .lst l [item])
  | some (.lst a xs) => setKid ks name (.lst a (xs ++ [item]))
  | some _ => ks
noncomputable def okAt (ks : List (Str × T α)) (name : Str) : Bool := match kidAt ks name with
  | none => true
  | some (.lst _ _) => true
  | some _ => false
theorem gI_map {f g : α → β} {k : Nat} {item : T α} {l : α} {name : Str} (ks : List (Str × T α)) : T.mapK f g (gI k item l name ks) = gI k (T.map f g item) (f l) name (T.mapK f g ks) := by
  unfold gI
  rw [mapK_kid]
  cases kidAt ks name with
  | none =>
    show T.mapK f g (setKid ks name _) = setKid (T.mapK f g ks) name _
    rw [mapK_set]
    congr 1
    by_cases q : k = 0 ∨ k = 2
    · rw [if_pos q, if_pos q]
    · rw [if_neg q, if_neg q]; rfl
  | some t =>
    cases t with
    | lst a xs =>
      show T.mapK f g (setKid ks name _) = setKid (T.mapK f g ks) name _
      rw [mapK_set]
      show setKid _ _ (T.lst (f a) (T.mapL f g (xs ++ [item]))) = _
      rw [mapL_append]; rfl
    | tab _ _ => rfl
    | int _ => rfl
    | txt _ => rfl
theorem okAt_map {f g : α → β} {name : Str} (ks : List (Str × T α)) : okAt (T.mapK f g ks) name = okAt ks name := by
  unfold okAt
  rw [mapK_kid]
  cases kidAt ks name with
  | none => rfl
  | some t => cases t <;> rfl
end
noncomputable def itemN (k n : Nat) : T (Option Nat) := if k < 2 then .tab (some n) [] else if k = 2 then .int 0 else if k = 3 then .txt none else .lst none [.tab none []]
noncomputable def G1 (S : T (Option Nat) × Nat) (t : Nat) : T (Option Nat) × Nat := match find (pN (t / 15 % S.2)) S.1 with
  | none => S
  | some ks => if okAt ks (nameOf (t % 3)) = true then (modT (pN (t / 15 % S.2)) (gI (t / 3 % 5) (itemN (t / 3 % 5) S.2) none (nameOf (t % 3))) S.1, if t / 3 % 5 < 2 then S.2 + 1 else S.2) else S
structure GSt (H0 H : AHeap) (root : Nat) (hs : List Nat) (X : T Nat) (S : T (Option Nat) × Nat) (i : Nat) : Prop where
  rep : Rep H X
  one : ∀ b, wt (cw b) X ≤ 1
  new : ∀ b, wt (cw b) X ≠ 0 → b = root ∨ H0 b = none
  tb : ∃ ks, X = .tab root ks
  nd : hs.Nodup
  has : ∀ a ∈ hs, find (isA a) X ≠ none
  map : T.map (ix hs) nonT X = S.1
  len : hs.length = S.2
  pos : 1 ≤ hs.length
  h0 : hs[0]? = some root
  sz : wt szw X ≤ 1 + 3 * i
  hl : hs.length ≤ 1 + i
  em : wt emw X = 0
  bad : wt bw X = 0
  fr : FrB H0 H (fun b => b = root)
section
variable {H0 H H2 : AHeap} {root : Nat} {hs : List Nat} {X : T Nat} {S : T (Option Nat) × Nat} {i : Nat}
theorem GSt.frame (G : GSt H0 H root hs X S i) (h1 : ∀ b, wt (cw b) X ≠ 0 → H2 b = H b) (h2 : ∀ b, H0 b ≠ none → b ≠ root → H2 b = H b) : GSt H0 H2 root hs X S i :=
  { G with
    rep := G.rep.frame _ h1
    fr := fun b hb hq => by rw [h2 b hb hq]; exact G.fr b hb hq }
theorem GSt.up (G : GSt H0 H root hs X S i) : GSt H0 H root hs X S (i + 1) :=
  { G with
    sz := by have := G.sz; lia
    hl := by have := G.hl; lia }
theorem GSt.rt1 (G : GSt H0 H root hs X S i) : wt (cw root) X = 1 := by
  obtain ⟨ks, rfl⟩ := G.tb
  have := G.one root
  rw [cnt_tab, hit_same] at *; lia
theorem GSt.live (G : GSt H0 H root hs X S i) {b : Nat} (h : H b = none) : H0 b = none := by
  by_cases q : b = root
  · have := G.rep.fresh h
    rw [q, G.rt1] at this; cases this
  · cases e : H0 b with
    | none => rfl
    | some x =>
      have := G.fr b (nsome (e)) q
      rw [h, e] at this; cases this
theorem GSt.off (G : GSt H0 H root hs X S i) {b : Nat} (h : H b = none) : b ∉ hs := fun q => by
  have h1 := (find_has X).mp (G.has b q)
  have h2 : ∀ t : T Nat, wt (tw (hit b)) t ≤ wt (cw b) t := tw_le
  have := h2 X
  have := G.rep.fresh h
  lia
where
  tw_le {b : Nat} : ∀ t : T Nat, wt (tw (hit b)) t ≤ wt (cw b) t
    | .tab a ks => by
      have := tw_leK (b := b) ks
      show hit b a + wtK (tw (hit b)) ks ≤ hit b a + wtK (cw b) ks
      lia
    | .lst a xs => by
      have := tw_leL (b := b) xs
      show 0 + (tw (hit b)).emp xs + wtL (tw (hit b)) xs ≤ hit b a + (cw b).emp xs + wtL (cw b) xs
      rw [tw_emp, cw_emp]; lia
    | .int _ => Nat.le_refl _
    | .txt _ => Nat.le_refl _
  tw_leK {b : Nat} : ∀ ks : List (Str × T Nat), wtK (tw (hit b)) ks ≤ wtK (cw b) ks
    | [] => Nat.le_refl _
    | (n, t) :: r => by
      have h1 := tw_le (b := b) t
      have h2 := tw_leK (b := b) r
      rw [wtK_cons, wtK_cons, tw_wk, cw_wk]
      lia
  tw_leL {b : Nat} : ∀ xs : List (T Nat), wtL (tw (hit b)) xs ≤ wtL (cw b) xs
    | [] => Nat.le_refl _
    | t :: r => by
      have h1 := tw_le (b := b) t
      have h2 := tw_leL (b := b) r
      show wt (tw (hit b)) t + wtL (tw (hit b)) r ≤ wt (cw b) t + wtL (cw b) r
      lia
theorem GSt.at_ (G : GSt H0 H root hs X S i) {j a : Nat} (hj : hs[j]? = some a) (b : Nat) : pN j (ix hs b) = isA a b := by
  unfold pN isA
  have := ix_at G.nd (b := b) (j := j)
  by_cases q : b = a
  · rw [decide_eq_true q, decide_eq_true (this.mpr (by rw [q]; exact hj))]
  · rw [decide_eq_false q, decide_eq_false fun e => q (by have := this.mp e; rw [hj] at this; exact (Option.some.inj this).symm)]
theorem GSt.skip (G : GSt H0 H root hs X S i) {t a : Nat} {ks : List (Str × T Nat)} (hj : hs[t / 15 % S.2]? = some a) (hf : find (isA a) X = some ks) (ho : okAt ks (nameOf (t % 3)) = false) (hE : Ext H H2) : GSt H0 H2 root hs X (G1 S t) (i + 1) := by
  have e : G1 S t = S := by
    unfold G1
    rw [← G.map, find_map (G.at_ hj), hf]
    show (if okAt (T.mapK (ix hs) nonT ks) (nameOf (t % 3)) = true then _ else S) = S
    rw [okAt_map, ho, if_neg Bool.false_ne_true]
  rw [e]
  have hx : ∀ b, H b ≠ none → H2 b = H b := fun b hb => FrB.of_ext (P := fun _ => False) hE b hb id
  refine (G.frame (fun b hb => hx b (G.rep.live hb)) fun b hb hq => hx b ?_).up
  rw [G.fr b hb hq]; exact hb
theorem GSt.step (G : GSt H0 H root hs X S i) {t a : Nat} {ks : List (Str × T Nat)} (hj : hs[t / 15 % S.2]? = some a) (hf : find (isA a) X = some ks) (ho : okAt ks (nameOf (t % 3)) = true) {item nt : T Nat} {l : Nat} {hs' : List Nat}
    (hhs : (t / 3 % 5 < 2 ∧ ∃ e, item = .tab e [] ∧ hs' = hs ++ [e] ∧ H e = none) ∨ (¬ t / 3 % 5 < 2 ∧ hs' = hs ∧ T.map (ix hs) nonT item = itemN (t / 3 % 5) S.2)) (hl : ix hs' l = none)
    (hn : ∀ b, wt (cw b) nt ≠ 0 → H b = none) (hn1 : ∀ b, wt (cw b) nt ≤ 1) (hw : ∀ w : Wt Nat, wtK w (gI (t / 3 % 5) item l (nameOf (t % 3)) ks) ≤ wtK w ks + wt w nt) (hk : ∀ f, wtK (tw f) ks + (if t / 3 % 5 < 2 then wt (tw f) item else 0) ≤ wtK (tw f) (gI (t / 3 % 5) item l (nameOf (t % 3)) ks)) (hsz : wt szw nt ≤ 3) (hem : wt emw nt = 0) (hbad : wt bw nt = 0)
    (hr : Rep H2 (.tab a (gI (t / 3 % 5) item l (nameOf (t % 3)) ks))) (hfr : ∀ b, H b ≠ none → wt (cw b) (.tab a ks) = 0 → H2 b = H b) :
    GSt H0 H2 root hs' (modT (isA a) (gI (t / 3 % 5) item l (nameOf (t % 3))) X) (G1 S t) (i + 1) := by
  obtain ⟨m1, m3, m4⟩ := mod_find (g := gI (t / 3 % 5) item l (nameOf (t % 3))) (H := H) (H' := H2) X (G.one a) hf
  have hwx : ∀ w : Wt Nat, wt w (modT (isA a) (gI (t / 3 % 5) item l (nameOf (t % 3))) X) ≤ wt w X + wt w nt := fun w => by
    have h1 := (m1 w).1
    have h2 := hw w
    lia
  have e : G1 S t = (modT (pN (t / 15 % S.2)) (gI (t / 3 % 5) (itemN (t / 3 % 5) S.2) none (nameOf (t % 3))) S.1, if t / 3 % 5 < 2 then S.2 + 1 else S.2) := by
    unfold G1
    have hfN : find (pN (t / 15 % S.2)) S.1 = some (T.mapK (ix hs) nonT ks) := by rw [← G.map, find_map (G.at_ hj), hf]; rfl
    rw [hfN]
    show (if okAt (T.mapK (ix hs) nonT ks) (nameOf (t % 3)) = true then _ else S) = _
    rw [okAt_map, ho, if_pos rfl]
  have hlive : ∀ b, H b ≠ none → ¬ wt (cw b) nt ≠ 0 := fun b hb q => hb (hn b q)
  have hks : ∀ b, wt (cw b) (.tab a ks) ≤ wt (cw b) X := fun b => (m1 (cw b)).2
  have hkeep : ∀ b ∈ hs, find (isA b) (modT (isA a) (gI (t / 3 % 5) item l (nameOf (t % 3))) X) ≠ none := fun b hb => by
    rw [find_has]
    have h1 := (find_has X).mp (G.has b hb)
    have h2 := (m1 (tw (hit b))).1
    have h3 := hk (hit b)
    lia
  -- the tables' names
  have hnames : hs'.Nodup ∧ (∀ b ∈ hs', find (isA b) (modT (isA a) (gI (t / 3 % 5) item l (nameOf (t % 3))) X) ≠ none) ∧ hs'.length = (if t / 3 % 5 < 2 then S.2 + 1 else S.2) ∧ 1 ≤ hs'.length ∧ hs'.length ≤ 1 + (i + 1) ∧ hs'[0]? = some root ∧
      T.map (ix hs') nonT X = S.1 ∧ T.map (ix hs') nonT item = itemN (t / 3 % 5) S.2 ∧ ∀ b, pN (t / 15 % S.2) (ix hs' b) = isA a b := by
    rcases hhs with ⟨hk2, e0, rfl, rfl, he0⟩ | ⟨hk2, rfl, hit⟩
    · have hoff := G.off he0
      have hne : wt (cw e0) X = 0 := G.rep.fresh he0
      have hjl : t / 15 % S.2 < hs.length := (List.getElem?_eq_some_iff.mp hj).1
      refine ⟨?_, fun b hb => ?_, ?_, ?_, ?_, ?_, ?_, ?_, fun b => ?_⟩
      · rw [List.nodup_append]
        refine ⟨G.nd, by simp, fun x hx y hy q => hoff ?_⟩
        rw [← List.mem_singleton.mp hy, ← q]; exact hx
      · rcases List.mem_append.mp hb with hb | hb
        · exact hkeep b hb
        · rw [List.mem_singleton.mp hb, find_has]
          have h2 := (m1 (tw (hit e0))).1
          have h3 := hk (hit e0)
          rw [if_pos hk2] at h3
          have h4 : wt (tw (hit e0)) (.tab e0 ([] : List (Str × T Nat))) = hit e0 e0 + 0 := rfl
          rw [hit_same] at h4
          lia
      · rw [List.length_append, List.length_singleton, if_pos hk2, G.len]
      · rw [List.length_append, List.length_singleton]; lia
      · rw [List.length_append, List.length_singleton]; have := G.hl; lia
      · rw [List.getElem?_append_left G.pos]; exact G.h0
      · rw [← G.map]
        refine map_congr (p := hit e0) (fun b hb => ?_) X ?_
        · by_cases q : b = e0
          · rw [q, hit_same] at hb; cases hb
          · exact ix_app q
        · exact hne
      · unfold itemN
        rw [if_pos hk2]
        show T.tab (ix (hs ++ [e0]) e0) [] = _
        rw [ix_last hoff, G.len]
      · have h0 := G.at_ hj b
        by_cases q : b = e0
        · have hae : a ≠ e0 := fun z => hoff (z ▸ List.mem_of_getElem? hj)
          rw [q, ix_last hoff, isA_ne (Ne.symm hae)]
          unfold pN
          exact decide_eq_false fun z => by have := Option.some.inj z; lia
        · rw [ix_app q]; exact h0
    · exact ⟨G.nd, hkeep, by rw [if_neg hk2]; exact G.len, G.pos, by have := G.hl; lia, G.h0, G.map, hit, G.at_ hj⟩
  obtain ⟨n1, n2, n3, n4, n5, n9, n6, n7, n8⟩ := hnames
  refine {
    rep := m4 G.rep G.one (fun b hb h0 => hfr b (G.rep.live hb) h0) hr
    one := fun b => ?_
    new := fun b hb => ?_
    tb := ?_
    nd := n1
    has := n2
    map := ?_
    len := by rw [e]; exact n3
    pos := n4
    h0 := n9
    sz := by have := hwx szw; have := G.sz; lia
    hl := n5
    em := by have := hwx emw; have := G.em; lia
    bad := by have := hwx bw; have := G.bad; lia
    fr := fun b hb hq => ?_ }
  · have h1 := hwx (cw b)
    have h2 := G.one b
    have h3 := hn1 b
    by_cases q : wt (cw b) nt = 0
    · lia
    · have := G.rep.fresh (hn b q); lia
  · have h1 := hwx (cw b)
    by_cases q : wt (cw b) nt = 0
    · exact G.new b (by lia)
    · exact .inr (G.live (hn b q))
  · obtain ⟨kz, rfl⟩ := G.tb
    show ∃ ks', (if isA a root = true then T.tab root (gI _ _ _ _ kz) else .tab root (modK (isA a) _ kz)) = _
    split
    · exact ⟨_, rfl⟩
    · exact ⟨_, rfl⟩
  · rw [e, modT_map n8 (fun ks => gI_map ks), n6, n7, hl]
  · rw [← G.fr b hb hq]
    refine hfr b (by rw [G.fr b hb hq]; exact hb) ?_
    have h1 := hks b
    by_cases q : wt (cw b) X = 0
    · lia
    · rcases G.new b q with z | z
      · exact absurd z hq
      · exact absurd z hb
end
end Mine
namespace Mine
theorem nameOf_at (i : Nat) : nameOf i ≠ Str.ofString "at" := by
  match i with
  | 0 => decide
  | 1 => decide
  | _ + 2 => exact (by decide : (Str.ofString "") ≠ Str.ofString "at")
structure ItemAt (H H1 : AHeap) (k : Nat) (item : T Nat) : Prop where
  rep : Rep H1 item
  one : ∀ b, wt (cw b) item ≤ 1
  new : ∀ b, wt (cw b) item ≠ 0 → H b = none
  tab : k < 2 → ∃ e, item = .tab e [] ∧ H e = none
  map : ¬ k < 2 → (∀ n f, (∀ p, H p = none → f p = none) → T.map f nonT item = itemN k n) ∧ tyT item ≠ "dict"
  sz : wt szw item ≤ 2
  em : wt emw item = 0
  bad : wt bw item = 0
section
variable {H H1 : AHeap} {a k : Nat} {ks : List (Str × T Nat)} {item : T Nat}
theorem wt_nil {w : Wt Nat} {e : Nat} : wt w (.tab e ([] : List (Str × T Nat))) = w.ft e := rfl
theorem wt_one {w : Wt Nat} {e : Nat} {t : T Nat} : wt w (.lst e [t]) = w.fl e + wt w t := by
  show w.fl e + 0 + (wt w t + 0) = _; lia
theorem ItemAt.dict {e : Nat} {ep : Nat} (he : H e = none) (h1 : H1 e = some (.dict [] ep)) (hk : k < 2) : ItemAt H H1 k (.tab e []) where
  rep := ⟨⟨ep, h1⟩, trivial⟩
  one := fun b => by rw [wt_nil]; show hit b e ≤ 1; unfold hit; split <;> lia
  new := fun b hb => by
    rw [wt_nil] at hb
    have hb : hit b e ≠ 0 := hb
    rw [hit_eq hb]; exact he
  tab := fun _ => ⟨e, rfl, he⟩
  map := fun q => absurd hk q
  sz := by rw [wt_nil]; show 1 ≤ 2; decide
  em := rfl
  bad := rfl
theorem ItemAt.int : ItemAt H H1 2 (.int 0) where
  rep := trivial
  one := fun b => Nat.zero_le _
  new := fun b hb => absurd rfl hb
  tab := fun q => absurd q (by decide)
  map := fun _ => ⟨fun n f _ => rfl, by simp [tyT]⟩
  sz := by decide
  em := rfl
  bad := rfl
theorem ItemAt.txt {t : Nat} : ItemAt H H1 3 (.txt t) where
  rep := trivial
  one := fun b => Nat.zero_le _
  new := fun b hb => absurd rfl hb
  tab := fun q => absurd q (by decide)
  map := fun _ => ⟨fun n f _ => rfl, by simp [tyT]⟩
  sz := by show 1 ≤ 2; decide
  em := rfl
  bad := rfl
theorem ItemAt.list {d l ep : Nat} (hd : H d = none) (hl : H l = none) (hdl : d ≠ l) (h1 : H1 d = some (.dict [] ep)) (h2 : H1 l = some (.list [.ref d])) : ItemAt H H1 4 (.lst l [.tab d []]) where
  rep := ⟨h2, ⟨⟨ep, h1⟩, trivial⟩, trivial⟩
  one := fun b => by
    rw [wt_one, wt_nil]
    show hit b l + hit b d ≤ 1
    by_cases q : b = d
    · rw [q, hit_same, hit_ne hdl]; exact Nat.le_refl _
    · rw [hit_ne q]; unfold hit; split <;> lia
  new := fun b hb => by
    rw [wt_one, wt_nil] at hb
    have hb : hit b l + hit b d ≠ 0 := hb
    by_cases q : b = d
    · rw [q]; exact hd
    · rw [hit_ne q] at hb
      rw [hit_eq (show hit b l ≠ 0 by lia)]; exact hl
  tab := fun q => absurd q (by decide)
  map := fun _ => ⟨fun n f hf => by
    show T.lst (f l) [T.tab (f d) []] = itemN 4 n
    rw [hf l hl, hf d hd]; rfl, by simp [tyT]⟩
  sz := by rw [wt_one, wt_nil]; show 1 + 1 ≤ 2; decide
  em := by rw [wt_one, wt_nil]; rfl
  bad := by rw [wt_one, wt_nil]; rfl
theorem rep_new {name : Str} {nt : T Nat} {ep : Nat} (rx : Rep H (.tab a ks)) (c1 : ∀ b, wt (cw b) (.tab a ks) ≤ 1) (hE : Ext H H1) (hk : kidAt ks name = none) (hn : Rep H1 nt) (hf : ∀ b, wt (cw b) nt ≠ 0 → H b = none) :
    Rep (upd H1 a (.dict (putK (kvOf ks) (.inr name) (vOf nt)) ep)) (.tab a (setKid ks name nt)) ∧ ∀ b, H b ≠ none → wt (cw b) (.tab a ks) = 0 → upd H1 a (.dict (putK (kvOf ks) (.inr name) (vOf nt)) ep) b = H b := by
  refine Mine.hideG fun GG back => ?_
  obtain ⟨epx, hx⟩ := rx.1
  refine back ?_
  clear back
  have hu : ∀ b, H b ≠ none → b ≠ a → upd H1 a (.dict (putK (kvOf ks) (.inr name) (vOf nt)) ep) b = H b := fun b hb hba => by
    rw [upd_off hba]
    exact FrB.of_ext (P := fun _ => False) hE b hb id
  refine ⟨⟨⟨ep, by rw [kv_set]; exact upd_same⟩, RepK.set (hn.frame _ fun b hb => upd_off ?_) rx.2 (fun b => ?_) fun b hb _ => hu b (rx.2.live hb) ?_⟩, fun b hb h0 => hu b hb ?_⟩
  · rintro rfl
    have := hf b hb
    rw [hx] at this; cases this
  · have := c1 b; rw [cnt_tab] at this; lia
  · rintro rfl
    have := c1 b; rw [cnt_tab, hit_same] at this; lia
  · rintro rfl
    rw [cnt_tab, hit_same] at h0; lia
theorem rep_app {name : Str} {b : Nat} {xs : List (T Nat)} (rx : Rep H (.tab a ks)) (c1 : ∀ b, wt (cw b) (.tab a ks) ≤ 1) (hE : Ext H H1) (hk : kidAt ks name = some (.lst b xs)) (hn : Rep H1 item) (hf : ∀ b, wt (cw b) item ≠ 0 → H b = none) :
    Rep (upd H1 b (.list (xs.map vOf ++ [vOf item]))) (.tab a (setKid ks name (.lst b (xs ++ [item])))) ∧ ∀ p, H p ≠ none → wt (cw p) (.tab a ks) = 0 → upd H1 b (.list (xs.map vOf ++ [vOf item])) p = H p := by
  refine Mine.hideG fun GG back => ?_
  obtain ⟨epx, hx⟩ := rx.1
  refine back ?_
  clear back
  have rb := rx.2.kid hk
  have hkb : ∀ p, hit p b + wtL (cw p) xs ≤ wtK (cw p) ks := fun p => by
    have := cntK_kid (a := p) hk
    rw [cnt_lst] at this; exact this
  have hab : a ≠ b := by
    rintro rfl
    have h1 := c1 a
    have h2 := hkb a
    rw [cnt_tab, hit_same] at h1
    rw [hit_same] at h2; lia
  have hu : ∀ p, H p ≠ none → p ≠ b → upd H1 b (.list (xs.map vOf ++ [vOf item])) p = H p := fun p hp hpb => by
    rw [upd_off hpb]
    exact FrB.of_ext (P := fun _ => False) hE p hp id
  refine ⟨⟨⟨epx, ?_⟩, RepK.set (t := .lst b (xs ++ [item])) ⟨by rw [List.map_append]; exact upd_same, (RepL.append (xs := xs) (ys := [item])).mpr ⟨rb.2.frame _ fun p hp => hu p (rb.2.live hp) ?_, hn.frame _ fun p hp => upd_off ?_, trivial⟩⟩ rx.2 (fun p => ?_) fun p hp h0 => hu p (rx.2.live hp) ?_⟩, fun p hp h0 => hu p hp ?_⟩
  · rw [kv_same (x := .lst b xs) (t := .lst b (xs ++ [item])) rfl hk, hu a (nsome (hx)) hab]; exact hx
  · rintro rfl
    have h1 := c1 p
    have h2 := hkb p
    rw [cnt_tab] at h1
    rw [hit_same] at h2; lia
  · rintro rfl
    have := hf p hp
    rw [rb.1] at this; cases this
  · have := c1 p; rw [cnt_tab] at this; lia
  · rintro rfl
    rw [hk] at h0
    have h0 : wt (cw p) (.lst p xs) = 0 := h0
    rw [cnt_lst, hit_same] at h0; lia
  · rintro rfl
    have h2 := hkb p
    rw [cnt_tab] at h0
    rw [hit_same] at h2; lia
theorem gI_new {l : Nat} {name : Str} (hk : kidAt ks name = none) : gI k item l name ks = setKid ks name (if k = 0 ∨ k = 2 then item else .lst l [item]) := by unfold gI; rw [hk]
theorem gI_app {l b : Nat} {xs : List (T Nat)} {name : Str} (hk : kidAt ks name = some (.lst b xs)) : gI k item l name ks = setKid ks name (.lst b (xs ++ [item])) := by unfold gI; rw [hk]
theorem wt_gI_new {l : Nat} {name : Str} (hk : kidAt ks name = none) (hn : name ≠ Str.ofString "at") (w : Wt Nat) : wtK w (gI k item l name ks) = wtK w ks + wt w (if k = 0 ∨ k = 2 then item else .lst l [item]) := by
  rw [gI_new hk]
  have := wtK_set (w := w) (ks := ks) (n := name) (t := if k = 0 ∨ k = 2 then item else .lst l [item])
  rw [hk, wk_off hn] at this
  exact this
theorem wt_gI_app {l b : Nat} {xs : List (T Nat)} {name : Str} (hk : kidAt ks name = some (.lst b xs)) (hn : name ≠ Str.ofString "at") (w : Wt Nat) : wtK w (gI k item l name ks) + w.emp xs = wtK w ks + wt w item := by
  rw [gI_app hk]
  have := wtK_set (w := w) (ks := ks) (n := name) (t := .lst b (xs ++ [item]))
  rw [hk, wk_off hn] at this
  have this : _ + wk w name (.lst b xs) = _ := this
  rw [wk_off hn] at this
  have e1 : wt w (.lst b xs) = w.fl b + w.emp xs + wtL w xs := rfl
  have e2 : wt w (.lst b (xs ++ [item])) = w.fl b + w.emp (xs ++ [item]) + wtL w (xs ++ [item]) := rfl
  rw [emp_snoc, wtL_snoc] at e2
  lia
end
theorem GSt.putNew {H0 H H1 : AHeap} {root : Nat} {hs hs' : List Nat} {X : T Nat} {S : T (Option Nat) × Nat} {i t a ep : Nat} {ks : List (Str × T Nat)} {item : T Nat} {l : Nat} (G : GSt H0 H root hs X S i) (hj : hs[t / 15 % S.2]? = some a) (hf : find (isA a) X = some ks) (hk : kidAt ks (nameOf (t % 3)) = none)
    (hE : Ext H H1) (I : ItemAt H H1 (t / 3 % 5) item) (hl : H l = none) (hl1 : ¬ (t / 3 % 5 = 0 ∨ t / 3 % 5 = 2) → H1 l = some (.list [vOf item]) ∧ wt (cw l) item = 0) (hli : ∀ e, item = .tab e [] → l ≠ e) (hhs : (t / 3 % 5 < 2 ∧ ∃ e, item = .tab e [] ∧ hs' = hs ++ [e]) ∨ (¬ t / 3 % 5 < 2 ∧ hs' = hs)) :
    ∃ X', GSt H0 (upd H1 a (.dict (putK (kvOf ks) (.inr (nameOf (t % 3))) (vOf (if t / 3 % 5 = 0 ∨ t / 3 % 5 = 2 then item else .lst l [item]))) ep)) root hs' X' (G1 S t) (i + 1) ∧ ∀ b, wt (cw b) X' ≠ 0 → wt (cw b) X ≠ 0 ∨ H b = none := by
  refine Mine.hideG fun GG back => ?_
  obtain ⟨m1, m3, _⟩ := mod_find (g := fun ks => ks) (H := H) (H' := H) X (G.one a) hf
  obtain ⟨m3, m4⟩ := m3 G.rep
  refine back ?_
  clear back
  have rks : Rep H (.tab a ks) := ⟨m3, m4⟩
  have cks : ∀ b, wt (cw b) (.tab a ks) ≤ 1 := fun b => Nat.le_trans (m1 (cw b)).2 (G.one b)
  have hn0 := nameOf_at (t % 3)
  generalize hnt : (if t / 3 % 5 = 0 ∨ t / 3 % 5 = 2 then item else .lst l [item]) = nt
  have hN : Rep H1 nt ∧ (∀ b, wt (cw b) nt ≠ 0 → H b = none) ∧ (∀ b, wt (cw b) nt ≤ 1) ∧ wt szw nt ≤ 3 ∧ wt emw nt = 0 ∧ wt bw nt = 0 ∧ ∀ f, wt (tw f) item ≤ wt (tw f) nt := by
    rw [← hnt]
    by_cases q : t / 3 % 5 = 0 ∨ t / 3 % 5 = 2
    · rw [if_pos q]
      exact ⟨I.rep, I.new, I.one, Nat.le_succ_of_le I.sz, I.em, I.bad, fun f => Nat.le_refl _⟩
    · rw [if_neg q]
      refine Mine.hideG fun GG back => ?_
      obtain ⟨h1, h2⟩ := hl1 q
      refine back ?_
      clear back
      refine ⟨⟨h1, I.rep, trivial⟩, fun b hb => ?_, fun b => ?_, ?_, ?_, ?_, fun f => ?_⟩
      · rw [wt_one] at hb
        have hb : hit b l + _ ≠ 0 := hb
        by_cases z : b = l
        · rw [z]; exact hl
        · rw [hit_ne z] at hb; exact I.new b (by lia)
      · rw [wt_one]
        show hit b l + _ ≤ 1
        by_cases z : b = l
        · rw [z, hit_same, h2]; exact Nat.le_refl _
        · rw [hit_ne z]; have := I.one b; lia
      · rw [wt_one]; have := I.sz; show 1 + _ ≤ 3; lia
      · rw [wt_one, I.em]; rfl
      · rw [wt_one, I.bad]; rfl
      · rw [wt_one]; exact Nat.le_add_left _ _
  refine Mine.hideG fun GG back => ?_
  obtain ⟨n1, n2, n3, n4, n5, n6, n7⟩ := hN
  obtain ⟨r1, r2⟩ := rep_new (ep := ep) rks cks hE hk n1 n2
  refine back ?_
  clear back
  have hgi : gI (t / 3 % 5) item l (nameOf (t % 3)) ks = setKid ks (nameOf (t % 3)) nt := by rw [gI_new hk, hnt]
  have hwg : ∀ w : Wt Nat, wtK w (gI (t / 3 % 5) item l (nameOf (t % 3)) ks) = wtK w ks + wt w nt := fun w => by rw [wt_gI_new hk hn0 w, hnt]
  have hlhs : l ∉ hs' := by
    rcases hhs with ⟨_, e, he, rfl⟩ | ⟨_, rfl⟩
    · intro q
      rcases List.mem_append.mp q with q | q
      · exact G.off hl q
      · exact hli e he (List.mem_singleton.mp q)
    · exact G.off hl
  refine ⟨_, G.step hj hf (by unfold okAt; rw [hk]) (item := item) (nt := nt) (l := l) (hs' := hs') ?_ (ix_none hlhs) n2 n3 (fun w => Nat.le_of_eq (hwg w)) (fun f => ?_) n4 n5 n6 (by rw [hgi]; exact r1) r2, fun b hb => ?_⟩
  · rcases hhs with ⟨h1, e, he, h2⟩ | ⟨h1, h2⟩
    · refine Mine.hideG fun GG back => ?_
      obtain ⟨e', he', hn'⟩ := I.tab h1
      refine back ?_
      clear back
      rw [he] at he'
      cases he'
      exact .inl ⟨h1, e, he, h2, hn'⟩
    · exact .inr ⟨h1, h2, (I.map h1).1 _ _ fun p hp => ix_none (G.off hp)⟩
  · rw [hwg]
    have := n7 f
    split <;> lia
  · refine Mine.hideG fun GG back => ?_
    obtain ⟨k1, _⟩ := mod_find (g := gI (t / 3 % 5) item l (nameOf (t % 3))) (H := H) (H' := H) X (G.one a) hf
    refine back ?_
    clear back
    have h1 := (k1 (cw b)).1
    have h2 := hwg (cw b)
    by_cases q : wt (cw b) nt = 0
    · left; lia
    · exact .inr (n2 b q)
theorem GSt.putApp {H0 H H1 : AHeap} {root : Nat} {hs hs' : List Nat} {X : T Nat} {S : T (Option Nat) × Nat} {i t a b : Nat} {ks : List (Str × T Nat)} {xs : List (T Nat)} {item : T Nat} (G : GSt H0 H root hs X S i) (hj : hs[t / 15 % S.2]? = some a) (hf : find (isA a) X = some ks) (hk : kidAt ks (nameOf (t % 3)) = some (.lst b xs))
    (hE : Ext H H1) (I : ItemAt H H1 (t / 3 % 5) item) (hhs : (t / 3 % 5 < 2 ∧ ∃ e, item = .tab e [] ∧ hs' = hs ++ [e]) ∨ (¬ t / 3 % 5 < 2 ∧ hs' = hs)) :
    ∃ X', GSt H0 (upd H1 b (.list (xs.map vOf ++ [vOf item]))) root hs' X' (G1 S t) (i + 1) ∧ ∀ b, wt (cw b) X' ≠ 0 → wt (cw b) X ≠ 0 ∨ H b = none := by
  refine Mine.hideG fun GG back => ?_
  obtain ⟨m1, m3, _⟩ := mod_find (g := fun ks => ks) (H := H) (H' := H) X (G.one a) hf
  obtain ⟨m3, m4⟩ := m3 G.rep
  have rks : Rep H (.tab a ks) := ⟨m3, m4⟩
  have cks : ∀ b, wt (cw b) (.tab a ks) ≤ 1 := fun b => Nat.le_trans (m1 (cw b)).2 (G.one b)
  have hn0 := nameOf_at (t % 3)
  obtain ⟨r1, r2⟩ := rep_app rks cks hE hk I.rep I.new
  refine back ?_
  clear back
  have hgi : ∀ l, gI (t / 3 % 5) item l (nameOf (t % 3)) ks = setKid ks (nameOf (t % 3)) (.lst b (xs ++ [item])) := fun l => gI_app hk
  have hwg : ∀ (l : Nat) (w : Wt Nat), wtK w (gI (t / 3 % 5) item l (nameOf (t % 3)) ks) + w.emp xs = wtK w ks + wt w item := fun l w => wt_gI_app hk hn0 w
  obtain ⟨l, hl⟩ : ∃ l, ix hs' l = none := by
    refine Mine.hideG fun GG back => ?_
    obtain ⟨l, hl⟩ := fresh_nat hs'
    refine back ?_
    clear back
    exact ⟨l, ix_none hl⟩
  refine ⟨_, G.step hj hf (by unfold okAt; rw [hk]) (item := item) (nt := item) (l := l) (hs' := hs') ?_ hl I.new I.one (fun w => by have := hwg l w; lia) (fun f => ?_) (Nat.le_succ_of_le I.sz) I.em I.bad (by rw [hgi]; exact r1) r2, fun c hb => ?_⟩
  · rcases hhs with ⟨h1, e, he, h2⟩ | ⟨h1, h2⟩
    · refine Mine.hideG fun GG back => ?_
      obtain ⟨e', he', hn'⟩ := I.tab h1
      refine back ?_
      clear back
      rw [he] at he'
      cases he'
      exact .inl ⟨h1, e, he, h2, hn'⟩
    · exact .inr ⟨h1, h2, (I.map h1).1 _ _ fun p hp => ix_none (G.off hp)⟩
  · have := hwg l (tw f)
    rw [tw_emp] at this
    split <;> lia
  · refine Mine.hideG fun GG back => ?_
    obtain ⟨k1, _⟩ := mod_find (g := gI (t / 3 % 5) item l (nameOf (t % 3))) (H := H) (H' := H) X (G.one a) hf
    refine back ?_
    clear back
    have h1 := (k1 (cw c)).1
    have h2 := hwg l (cw c)
    by_cases q : wt (cw c) item = 0
    · left; lia
    · exact .inr (I.new c q)
where
  fresh_nat (hs : List Nat) : ∃ l, l ∉ hs := by
    refine ⟨hs.sum + 1, fun q => ?_⟩
    have : ∀ {hs : List Nat} {x : Nat}, x ∈ hs → x ≤ hs.sum := by
      intro hs
      induction hs with
      | nil => intro x hx; cases hx
      | cons y r ih =>
        intro x hx
        rw [List.sum_cons]
        rcases List.mem_cons.mp hx with rfl | hx
        · lia
        · have := ih hx; lia
    have := this q
    lia
end Mine
namespace Mine
section
variable {α β : Type}
mutual
noncomputable def flD : T α → List PyData
  | .tab _ ks => .list (ks.map fun p => .str p.1) :: flK ks
  | .lst _ xs => .int xs.length :: flL xs
  | .int i => [.tuple [.int i]]
  | .txt _ => [.tuple [.str (Str.ofString "a")]]
noncomputable def flK : List (Str × T α) → List PyData
  | [] => []
  | (_, t) :: r => flK r ++ flD t
noncomputable def flL : List (T α) → List PyData
  | [] => []
  | t :: r => flL r ++ flD t
end
theorem flL_app : ∀ xs ys : List (T α), flL (xs ++ ys) = flL ys ++ flL xs
  | [], ys => (List.append_nil _).symm
  | x :: xs, ys => by
    show flL (xs ++ ys) ++ flD x = flL ys ++ (flL xs ++ flD x)
    rw [flL_app xs ys, List.append_assoc]
theorem flK_snd : ∀ ks : List (Str × T α), flL (ks.map (·.2)) = flK ks
  | [] => rfl
  | (n, t) :: r => by
    show flL (r.map (·.2)) ++ flD t = flK r ++ flD t
    rw [flK_snd r]
theorem names_map {f g : α → β} : ∀ ks : List (Str × T α), (T.mapK f g ks).map (fun p => PyData.str p.1) = ks.map fun p => PyData.str p.1
  | [] => rfl
  | (n, t) :: r => by
    show PyData.str n :: (T.mapK f g r).map (fun p => PyData.str p.1) = .str n :: r.map fun p => PyData.str p.1
    rw [names_map r]
theorem len_map {f g : α → β} : ∀ xs : List (T α), (T.mapL f g xs).length = xs.length
  | [] => rfl
  | t :: r => by
    show (T.mapL f g r).length + 1 = r.length + 1
    rw [len_map r]
mutual
theorem fl_map {f g : α → β} : ∀ t : T α, flD (T.map f g t) = flD t
  | .tab a ks => by
    have := flK_map (f := f) (g := g) ks
    show PyData.list ((T.mapK f g ks).map fun p => .str p.1) :: flK (T.mapK f g ks) = _ :: flK ks
    rw [this, names_map]
  | .lst a xs => by
    have := flL_map (f := f) (g := g) xs
    show PyData.int (T.mapL f g xs).length :: flL (T.mapL f g xs) = .int xs.length :: flL xs
    rw [this, len_map]
  | .int _ => rfl
  | .txt _ => rfl
theorem flK_map {f g : α → β} : ∀ ks : List (Str × T α), flK (T.mapK f g ks) = flK ks
  | [] => rfl
  | (n, t) :: r => by
    have h1 := fl_map (f := f) (g := g) t
    have h2 := flK_map (f := f) (g := g) r
    show flK (T.mapK f g r) ++ flD (T.map f g t) = flK r ++ flD t
    rw [h1, h2]
theorem flL_map {f g : α → β} : ∀ xs : List (T α), flL (T.mapL f g xs) = flL xs
  | [] => rfl
  | t :: r => by
    have h1 := fl_map (f := f) (g := g) t
    have h2 := flL_map (f := f) (g := g) r
    show flL (T.mapL f g r) ++ flD (T.map f g t) = flL r ++ flD t
    rw [h1, h2]
end
mutual
noncomputable def nmO : T α → Prop
  | .tab _ ks => nmK ks
  | .lst _ xs => nmL xs
  | .int _ => True
  | .txt _ => True
noncomputable def nmK : List (Str × T α) → Prop
  | [] => True
  | (n, t) :: r => PyData.strOk n = true ∧ nmO t ∧ nmK r
noncomputable def nmL : List (T α) → Prop
  | [] => True
  | t :: r => nmO t ∧ nmL r
end
theorem nmK_set {n : Str} {t : T α} (hn : PyData.strOk n = true) (ht : nmO t) : ∀ {ks : List (Str × T α)}, nmK ks → nmK (setKid ks n t)
  | [], _ => ⟨hn, ht, trivial⟩
  | (m, u) :: r, h => by
    by_cases q : m = n
    · have e1 : setKid ((m, u) :: r) n t = (m, t) :: r := if_pos q
      rw [e1]; exact ⟨h.1, ht, h.2.2⟩
    · have e1 : setKid ((m, u) :: r) n t = (m, u) :: setKid r n t := if_neg q
      rw [e1]; exact ⟨h.1, h.2.1, nmK_set hn ht h.2.2⟩
theorem nmK_kid {n : Str} {x : T α} : ∀ {ks : List (Str × T α)}, nmK ks → kidAt ks n = some x → nmO x
  | [], _, e => by cases e
  | (m, u) :: r, h, e => by
    by_cases q : m = n
    · have e2 : kidAt ((m, u) :: r) n = some u := if_pos q
      rw [e2] at e
      exact Option.some.inj e ▸ h.2.1
    · have e2 : kidAt ((m, u) :: r) n = kidAt r n := if_neg q
      rw [e2] at e
      exact nmK_kid h.2.2 e
theorem nmL_app : ∀ {xs ys : List (T α)}, nmL (xs ++ ys) ↔ nmL xs ∧ nmL ys
  | [], ys => ⟨fun h => ⟨trivial, h⟩, fun h => h.2⟩
  | x :: xs, ys => ⟨fun h => ⟨⟨h.1, (nmL_app.mp h.2).1⟩, (nmL_app.mp h.2).2⟩, fun h => ⟨h.1.1, nmL_app.mpr ⟨h.1.2, h.2⟩⟩⟩
theorem nm_fold {M : T α → T α → T α} (hM : ∀ x y, nmO x → nmO y → nmO (M x y)) : ∀ (ts : List (T α)) (x : T α), nmO x → nmL ts → nmO (ts.foldl M x)
  | [], x, hx, _ => hx
  | t :: r, x, hx, ht => nm_fold hM r (M x t) (hM x t hx ht.1) ht.2
theorem nm_mrg {M : T α → T α → T α} (hM : ∀ x y, nmO x → nmO y → nmO (M x y)) (x y : T α) (hx : nmO x) (hy : nmO y) : nmO (mrg M x y) := by
  cases y with
  | tab b ks =>
    cases x with
    | tab c js => exact hM _ _ hx hy
    | lst c xs =>
      cases e : xs.getLast? with
      | none =>
        have : xs = [] := List.getLast?_eq_none_iff.mp e
        rw [this]; exact trivial
      | some l =>
        refine Mine.hideG fun GG back => ?_
        obtain ⟨r, rfl⟩ := getLast_snoc e
        refine back ?_
        clear back
        show nmL (onLast _ _)
        rw [onLast_snoc]
        have hx : nmL (r ++ [l]) := hx
        have hl : nmO l := (nmL_app.mp hx).2.1
        refine nmL_app.mpr ⟨(nmL_app.mp hx).1, ?_, trivial⟩
        cases l with
        | tab z zk => exact hM _ _ hl hy
        | lst z zk => exact hl
        | int _ => exact hl
        | txt _ => exact hl
    | int i => exact hx
    | txt i => exact hx
  | lst b ts =>
    cases x with
    | tab c js => exact nm_fold hM ts _ hx hy
    | lst c xs => exact nmL_app.mpr ⟨hx, hy⟩
    | int i => exact hx
    | txt i => exact hx
  | int i => exact hx
  | txt i => exact hx
theorem nm_puts {M : T α → T α → T α} (hM : ∀ x y, nmO x → nmO y → nmO (M x y)) : ∀ (js ks : List (Str × T α)), nmK ks → nmK js → nmK (js.foldl (put1 M) ks)
  | [], ks, hk, _ => hk
  | (n, t) :: r, ks, hk, hj => by
    rw [List.foldl_cons]
    refine nm_puts hM r _ ?_ hj.2.2
    rw [put1_eq]
    refine nmK_set hj.1 ?_ hk
    show nmO (res M (kidAt ks n) n t)
    unfold res
    split
    · exact hj.2.1
    · cases e : kidAt ks n with
      | none => exact hj.2.1
      | some x => exact nm_mrg hM x t (nmK_kid hk e) hj.2.1
theorem M_nm : ∀ (d : Nat) (x y : T α), nmO x → nmO y → nmO (M d x y)
  | 0, x, y, hx, _ => hx
  | d + 1, x, y, hx, hy => by
    cases x with
    | tab b ks =>
      cases y with
      | tab c js => exact nm_puts (fun x y => M_nm d x y) js ks hx hy
      | lst c xs => exact hx
      | int i => exact hx
      | txt i => exact hx
    | lst b xs => cases y <;> exact hx
    | int i => cases y <;> exact hx
    | txt i => cases y <;> exact hx
mutual
theorem nm_mod {p : α → Bool} {g : List (Str × T α) → List (Str × T α)} (hg : ∀ ks, nmK ks → nmK (g ks)) : ∀ t : T α, nmO t → nmO (modT p g t)
  | .tab a ks, h => by
    have := nmK_mod hg (p := p) ks h
    show nmO (if p a = true then T.tab a (g ks) else .tab a (modK p g ks))
    split
    · exact hg ks h
    · exact this
  | .lst a xs, h => nmL_mod hg xs h
  | .int _, _ => trivial
  | .txt _, _ => trivial
theorem nmK_mod {p : α → Bool} {g : List (Str × T α) → List (Str × T α)} (hg : ∀ ks, nmK ks → nmK (g ks)) : ∀ ks : List (Str × T α), nmK ks → nmK (modK p g ks)
  | [], _ => trivial
  | (n, t) :: r, h => ⟨h.1, nm_mod hg t h.2.1, nmK_mod hg r h.2.2⟩
theorem nmL_mod {p : α → Bool} {g : List (Str × T α) → List (Str × T α)} (hg : ∀ ks, nmK ks → nmK (g ks)) : ∀ xs : List (T α), nmL xs → nmL (modL p g xs)
  | [], _ => trivial
  | t :: r, h => ⟨nm_mod hg t h.1, nmL_mod hg r h.2⟩
end
theorem good_app {xs ys : List PyData} (hx : goodAll xs = true) (hy : goodAll ys = true) : goodAll (xs ++ ys) = true := by
  induction xs with
  | nil => exact hy
  | cons d r ih =>
    have hx : (good d && goodAll r) = true := hx
    rw [Bool.and_eq_true] at hx
    show (good d && goodAll (r ++ ys)) = true
    rw [Bool.and_eq_true]
    exact ⟨hx.1, ih hx.2⟩
theorem good_names : ∀ ks : List (Str × T α), nmK ks → goodAll (ks.map fun p => PyData.str p.1) = true
  | [], _ => rfl
  | (n, t) :: r, h => by
    show (PyData.strOk n && goodAll (r.map fun p => PyData.str p.1)) = true
    rw [h.1, good_names r h.2.2]; rfl
mutual
theorem good_fl : ∀ t : T α, nmO t → goodAll (flD t) = true
  | .tab a ks, h => by
    have := good_flK ks h
    show (goodAll (ks.map fun p => PyData.str p.1) && goodAll (flK ks)) = true
    rw [good_names ks h, this]; rfl
  | .lst a xs, h => by
    have := good_flL xs h
    show (true && goodAll (flL xs)) = true
    rw [this]; rfl
  | .int _, _ => rfl
  | .txt _, _ => (by decide +kernel : ((PyData.strOk (Str.ofString "a") && true) && true) = true)
theorem good_flK : ∀ ks : List (Str × T α), nmK ks → goodAll (flK ks) = true
  | [], _ => rfl
  | (n, t) :: r, h => good_app (good_flK r h.2.2) (good_fl t h.2.1)
theorem good_flL : ∀ xs : List (T α), nmL xs → goodAll (flL xs) = true
  | [], _ => rfl
  | t :: r, h => good_app (good_flL r h.2) (good_fl t h.1)
end
theorem depth_strs : ∀ ks : List (Str × T α), PyData.depthAll (ks.map fun p => PyData.str p.1) ≤ 1
  | [] => Nat.zero_le _
  | (n, t) :: r => by
    have := depth_strs r
    simp only [List.map_cons, PyData.depthAll, PyData.depth]
    lia
theorem depth_app : ∀ xs ys : List PyData, PyData.depthAll (xs ++ ys) = max (PyData.depthAll xs) (PyData.depthAll ys)
  | [], ys => (Nat.zero_max _).symm
  | x :: xs, ys => (congrArg (max x.depth) (depth_app xs ys)).trans (Nat.max_assoc _ _ _).symm
mutual
theorem depth_fl : ∀ t : T α, PyData.depthAll (flD t) ≤ 2
  | .tab a ks => by
    have h1 := depth_strs ks
    have h2 := depth_flK ks
    have e : flD (.tab a ks) = .list (ks.map fun p => .str p.1) :: flK ks := rfl
    simp only [e, PyData.depthAll, PyData.depth]
    lia
  | .lst a xs => by
    have h2 := depth_flL xs
    have e : flD (.lst a xs) = .int xs.length :: flL xs := rfl
    simp only [e, PyData.depthAll, PyData.depth]
    lia
  | .int i => by
    have e : flD (.int i : T α) = [.tuple [.int i]] := rfl
    simp only [e, PyData.depthAll, PyData.depth]
    decide
  | .txt i => by
    have e : flD (.txt i : T α) = [.tuple [.str (Str.ofString "a")]] := rfl
    simp only [e, PyData.depthAll, PyData.depth]
    decide
theorem depth_flK : ∀ ks : List (Str × T α), PyData.depthAll (flK ks) ≤ 2
  | [] => Nat.zero_le _
  | (n, t) :: r => by
    have h1 := depth_fl t
    have h2 := depth_flK r
    have e : flK ((n, t) :: r) = flK r ++ flD t := rfl
    rw [e, depth_app]; lia
theorem depth_flL : ∀ xs : List (T α), PyData.depthAll (flL xs) ≤ 2
  | [] => Nat.zero_le _
  | t :: r => by
    have h1 := depth_fl t
    have h2 := depth_flL r
    have e : flL (t :: r) = flL r ++ flD t := rfl
    rw [e, depth_app]; lia
end
theorem repK_snd {H : AHeap} : ∀ ks : List (Str × T Nat), RepK H ks → RepL H (ks.map (·.2))
  | [], _ => trivial
  | (n, t) :: r, h => ⟨h.1, repK_snd r h.2⟩
theorem getK_nth : ∀ {kvs : List (Key × V)}, (kvs.map (·.1)).Nodup → ∀ (i : Nat) (kv : Key × V), kvs[i]? = some kv → getK kvs kv.1 = some kv.2
  | [], _, i, kv, h => by simp at h
  | p :: r, hn, 0, kv, h => by
    simp at h; subst h
    exact if_pos rfl
  | p :: r, hn, i + 1, kv, h => by
    rw [List.map_cons, List.nodup_cons] at hn
    have h : r[i]? = some kv := by simpa using h
    show (if p.1 = kv.1 then some p.2 else getK r kv.1) = some kv.2
    rw [if_neg (fun q => hn.1 (by rw [q]; exact List.mem_map_of_mem (List.mem_of_getElem? h)))]
    exact getK_nth hn.2 i kv h
theorem W_nodup {k : Wk} {γ : Type} {t : Sem γ} {m : Loc} {H : AHeap} {Q : γ → Loc → AHeap → Prop} {d : Addr} {kvs : List (Key × V)} {ep : Nat} (hd : H d = some (.dict kvs ep)) (h : (kvs.map (·.1)).Nodup → W k t m H Q) : W k t m H Q := fun B s st => by
  refine Mine.hideG fun GG back => ?_
  obtain ⟨ob, _, _, es, _, _, rvs, _, hn, e⟩ := st.own d _ hd
  refine back ?_
  clear back
  refine h ?_ B s st
  rw [← e, List.map_map]
  exact hn
theorem RdAll.app {H : AHeap} {ds' : List PyData} {vs' : List V} (h' : RdAll H ds' vs') : ∀ {ds : List PyData} {vs : List V}, RdAll H ds vs → RdAll H (ds ++ ds') (vs ++ vs')
  | [], vs, h => by
    have h : vs = [] := h
    rw [h]; exact h'
  | d :: ds, vs, ⟨v, r, e, h1, h2⟩ => ⟨v, r ++ vs', by rw [e]; rfl, h1, RdAll.app h' h2⟩
theorem RdAll.one {H : AHeap} {d : PyData} {v : V} (h : Rd H d v) : RdAll H [d] [v] := ⟨v, [], rfl, h, rfl⟩
theorem rd_strs {H : AHeap} : ∀ (ns : List Str) (xs : List V), xs.length = ns.length → (∀ (i : Nat) (n : Str) (x : V), ns[i]? = some n → xs[i]? = some x → isKV (.inr n) x = true) → RdAll H (ns.map .str) xs
  | [], xs, hl, _ => by
    have : xs = [] := List.length_eq_zero_iff.mp hl
    rw [this]; exact rfl
  | n :: r, [], hl, _ => by cases hl
  | n :: r, x :: xs, hl, h => by
    have h0 := h 0 n x rfl rfl
    refine ⟨x, xs, rfl, ?_, rd_strs r xs (by simpa using hl) fun i m y h1 h2 => h (i + 1) m y (by simpa using h1) (by simpa using h2)⟩
    cases x with
    | str y t =>
      exact ⟨t, by rw [eq_of_beq (show (n == y) = true from h0)]⟩
    | _ => cases h0
end
end Mine
namespace Mine
section
variable {α β : Type} {f g : α → β}
theorem lev_map {o : Option (T α)} {n : Str} {t : T α} : lev (o.map (T.map f g)) n (T.map f g t) = lev o n t := by
  unfold lev
  by_cases q : n = Str.ofString "at"
  · rw [if_pos q, if_pos q]
  · rw [if_neg q, if_neg q]
    cases o with
    | none => rfl
    | some x =>
      show (match T.map f g t with | .lst _ _ => _ | _ => _) = _
      have e : tgt (T.map f g x) = (tgt x).map (T.map f g) := tgt_map x
      cases t with
      | lst b ts => cases x <;> rfl
      | tab b ks =>
        show (match tgt (T.map f g x) with | some _ => ([] : List Str) | none => [nestMsg]) = (match tgt x with | some _ => [] | none => [nestMsg])
        rw [e]; cases tgt x <;> rfl
      | int i =>
        show (match tgt (T.map f g x) with | some _ => ([] : List Str) | none => [nestMsg]) = (match tgt x with | some _ => [] | none => [nestMsg])
        rw [e]; cases tgt x <;> rfl
      | txt i =>
        show (match tgt (T.map f g x) with | some _ => ([] : List Str) | none => [nestMsg]) = (match tgt x with | some _ => [] | none => [nestMsg])
        rw [e]; cases tgt x <;> rfl
theorem clP_map {C : T α → T α → List Str} {C' : T β → T β → List Str} {M : T α → T α → T α} {M' : T β → T β → T β} (hC : ∀ x y, C' (T.map f g x) (T.map f g y) = C x y) (hM : ∀ x y, T.map f g (M x y) = M' (T.map f g x) (T.map f g y)) : ∀ (ts : List (T α)) (x : T α), clP C' M' (T.map f g x) (T.mapL f g ts) = clP C M x ts
  | [], x => rfl
  | t :: r, x => by
    show C' (T.map f g x) (T.map f g t) ++ clP C' M' (M' (T.map f g x) (T.map f g t)) (T.mapL f g r) = C x t ++ clP C M (M x t) r
    rw [hC, ← hM, clP_map hC hM r]
theorem dpr_map {C : T α → T α → List Str} {C' : T β → T β → List Str} {M : T α → T α → T α} {M' : T β → T β → T β} (hC : ∀ x y, C' (T.map f g x) (T.map f g y) = C x y) (hM : ∀ x y, T.map f g (M x y) = M' (T.map f g x) (T.map f g y)) {o : Option (T α)} {n : Str} {t : T α} : dpr C' M' (o.map (T.map f g)) n (T.map f g t) = dpr C M o n t := by
  unfold dpr
  by_cases q : n = Str.ofString "at"
  · rw [if_pos q, if_pos q]
  · rw [if_neg q, if_neg q]
    cases o with
    | none => rfl
    | some x =>
      show (match T.map f g t with | .lst _ _ => _ | _ => _) = _
      have e : tgt (T.map f g x) = (tgt x).map (T.map f g) := tgt_map x
      cases t with
      | lst b ts =>
        cases x with
        | tab a ks => exact clP_map hC hM ts (.tab a ks)
        | lst _ _ => rfl
        | int _ => rfl
        | txt _ => rfl
      | tab b ks =>
        show (match tgt (T.map f g x) with | some y => C' y (T.map f g (.tab b ks)) | none => []) = (match tgt x with | some y => C y (.tab b ks) | none => [])
        rw [e]; cases tgt x with
        | none => rfl
        | some y => exact hC y _
      | int i =>
        show (match tgt (T.map f g x) with | some y => C' y (T.map f g (.int i)) | none => []) = (match tgt x with | some y => C y (.int i) | none => [])
        rw [e]; cases tgt x with
        | none => rfl
        | some y => exact hC y _
      | txt i =>
        show (match tgt (T.map f g x) with | some y => C' y (T.map f g (.txt i)) | none => []) = (match tgt x with | some y => C y (.txt i) | none => [])
        rw [e]; cases tgt x with
        | none => rfl
        | some y => exact hC y _
theorem flat_mapK {γ : Type} {F : Str × T β → List γ} {F' : Str × T α → List γ} (h : ∀ n t, F (n, T.map f g t) = F' (n, t)) : ∀ js : List (Str × T α), (T.mapK f g js).flatMap F = js.flatMap F'
  | [] => rfl
  | (n, t) :: r => by
    show ((n, T.map f g t) :: T.mapK f g r).flatMap F = _
    rw [List.flatMap_cons, List.flatMap_cons, h, flat_mapK h r]
theorem cl_map : ∀ (d : Nat) (x y : T α), cl d (T.map f g x) (T.map f g y) = cl d x y
  | 0, _, _ => rfl
  | d + 1, x, y => by
    cases x with
    | tab a ks =>
      cases y with
      | tab b js =>
        show (T.mapK f g js).flatMap _ ++ (T.mapK f g js).flatMap _ = js.flatMap _ ++ js.flatMap _
        rw [flat_mapK (F' := fun p => lev (kidAt ks p.1) p.1 p.2) (fun n t => by
          show lev (kidAt (T.mapK f g ks) n) n (T.map f g t) = _
          rw [mapK_kid, lev_map]) js]
        rw [flat_mapK (F' := fun p => dpr (cl d) (M d) (kidAt ks p.1) p.1 p.2) (fun n t => by
          show dpr (cl d) (M d) (kidAt (T.mapK f g ks) n) n (T.map f g t) = _
          rw [mapK_kid, dpr_map (fun x y => cl_map d x y) (fun x y => map_M d x y)]) js]
      | lst _ _ => rfl
      | int _ => rfl
      | txt _ => rfl
    | lst _ _ => cases y <;> rfl
    | int _ => cases y <;> rfl
    | txt _ => cases y <;> rfl
theorem namesOf_map : ∀ ks : List (Str × T α), (T.mapK f g ks).map (·.1) = ks.map (·.1)
  | [] => rfl
  | (n, t) :: r => by
    show n :: (T.mapK f g r).map (·.1) = n :: r.map (·.1)
    rw [namesOf_map r]
theorem mem_mapK {p : Str × T α} : ∀ {ks : List (Str × T α)}, p ∈ ks → (p.1, T.map f g p.2) ∈ T.mapK f g ks
  | [], h => by cases h
  | (n, t) :: r, h => by
    rcases List.mem_cons.mp h with rfl | h
    · exact List.mem_cons_self
    · exact List.mem_cons_of_mem _ (mem_mapK h)
theorem mem_mapL {u : T α} : ∀ {xs : List (T α)}, u ∈ xs → T.map f g u ∈ T.mapL f g xs
  | [], h => by cases h
  | t :: r, h => by
    rcases List.mem_cons.mp h with rfl | h
    · exact List.mem_cons_self
    · exact List.mem_cons_of_mem _ (mem_mapL h)
theorem Yok_map : ∀ (d : Nat) (t : T α), Yok d (T.map f g t) → Yok d t
  | 0, t, h => h.elim
  | d + 1, .tab a ks, h => by
    refine ⟨by have := h.1; rw [namesOf_map] at this; exact this, fun p hp => ?_⟩
    obtain ⟨h1, h2⟩ := h.2 _ (mem_mapK hp)
    refine ⟨fun q => ?_, fun q => ?_⟩
    · obtain ⟨i, e⟩ := h1 q
      have e : T.map f g p.2 = .int i := e
      cases hh : p.2 with
      | int j => exact ⟨j, rfl⟩
      | tab _ _ => rw [hh] at e; cases e
      | lst _ _ => rw [hh] at e; cases e
      | txt _ => rw [hh] at e; cases e
    · rcases h2 q with ⟨b, ts, e, hts⟩ | ⟨b, kb, e, hy⟩
      · have e : T.map f g p.2 = .lst b ts := e
        cases hh : p.2 with
        | lst b' ts' =>
          rw [hh] at e
          refine .inl ⟨b', ts', rfl, fun u hu => Yok_map d u (hts _ ?_)⟩
          have e : T.lst (f b') (T.mapL f g ts') = .lst b ts := e
          cases e
          exact mem_mapL hu
        | int j => rw [hh] at e; cases e
        | tab _ _ => rw [hh] at e; cases e
        | txt _ => rw [hh] at e; cases e
      · have e : T.map f g p.2 = .tab b kb := e
        have hy : Yok d (T.map f g p.2) := hy
        cases hh : p.2 with
        | tab b' kb' => rw [hh] at hy; exact .inr ⟨b', kb', rfl, Yok_map d _ hy⟩
        | int j => rw [hh] at e; cases e
        | lst _ _ => rw [hh] at e; cases e
        | txt _ => rw [hh] at e; cases e
  | d + 1, .lst _ _, h => h.elim
  | d + 1, .int _, h => h.elim
  | d + 1, .txt _, h => h.elim
theorem Yok_own : ∀ (d : Nat) (t : T α), Yok d t → OwnT d t
  | 0, t, h => h.elim
  | d + 1, .tab a ks, h => by
    refine ⟨h.1, fun p hp => ?_⟩
    obtain ⟨h1, h2⟩ := h.2 p hp
    by_cases q : p.1 = Str.ofString "at"
    · obtain ⟨i, e⟩ := h1 q
      rw [e]
      exact ⟨by cases d <;> trivial, fun a ts z => by cases z⟩
    · rcases h2 q with ⟨b, ts, e, hts⟩ | ⟨b, kb, e, hy⟩
      · rw [e]
        exact ⟨by cases d <;> trivial, fun a ts' z u hu => by cases z; exact Yok_own d u (hts u hu)⟩
      · refine ⟨Yok_own d _ hy, fun a ts z => by rw [e] at z; cases z⟩
  | d + 1, .lst _ _, h => h.elim
  | d + 1, .int _, h => h.elim
  | d + 1, .txt _, h => h.elim
noncomputable def KidOk (d : Nat) (n : Str) (t : T α) : Prop := (n = Str.ofString "at" → ∃ i, t = .int i) ∧ (n ≠ Str.ofString "at" → (∃ a ts, t = .lst a ts ∧ ∀ u ∈ ts, Yok d u) ∨ ∃ a ks, t = .tab a ks ∧ Yok d t)
theorem names_set {n : Str} {t : T α} : ∀ {ks : List (Str × T α)}, (ks.map (·.1)).Nodup → ((setKid ks n t).map (·.1)).Nodup ∧ ∀ m ∈ (setKid ks n t).map (·.1), m = n ∨ m ∈ ks.map (·.1)
  | [], _ => ⟨by show [n].Nodup; simp, fun m hm => .inl (List.mem_singleton.mp hm)⟩
  | (m, u) :: r, h => by
    by_cases q : m = n
    · have e1 : setKid ((m, u) :: r) n t = (m, t) :: r := if_pos q
      rw [e1]; exact ⟨h, fun k hk => .inr hk⟩
    · have e1 : setKid ((m, u) :: r) n t = (m, u) :: setKid r n t := if_neg q
      rw [e1]
      rw [List.map_cons, List.nodup_cons] at h
      obtain ⟨i1, i2⟩ := names_set (n := n) (t := t) h.2
      refine ⟨?_, fun k hk => ?_⟩
      · rw [List.map_cons, List.nodup_cons]
        exact ⟨fun z => by rcases i2 m z with z | z; exact q z; exact h.1 z, i1⟩
      · rw [List.map_cons] at hk ⊢
        rcases List.mem_cons.mp hk with z | z
        · exact .inr (z ▸ List.mem_cons_self)
        · rcases i2 k z with z | z
          · exact .inl z
          · exact .inr (List.mem_cons_of_mem _ z)
theorem mem_set {n : Str} {t : T α} {p : Str × T α} : ∀ {ks : List (Str × T α)}, p ∈ setKid ks n t → p = (n, t) ∨ p ∈ ks
  | [], h => .inl (List.mem_singleton.mp h)
  | (m, u) :: r, h => by
    by_cases q : m = n
    · have e1 : setKid ((m, u) :: r) n t = (m, t) :: r := if_pos q
      rw [e1] at h
      rcases List.mem_cons.mp h with z | z
      · exact .inl (by rw [z, q])
      · exact .inr (List.mem_cons_of_mem _ z)
    · have e1 : setKid ((m, u) :: r) n t = (m, u) :: setKid r n t := if_neg q
      rw [e1] at h
      rcases List.mem_cons.mp h with z | z
      · exact .inr (z ▸ List.mem_cons_self)
      · rcases mem_set z with z | z
        · exact .inl z
        · exact .inr (List.mem_cons_of_mem _ z)
theorem kid_mem {n : Str} {x : T α} : ∀ {ks : List (Str × T α)}, kidAt ks n = some x → (n, x) ∈ ks
  | [], h => by cases h
  | (m, u) :: r, h => by
    by_cases q : m = n
    · have e2 : kidAt ((m, u) :: r) n = some u := if_pos q
      rw [e2] at h
      rw [← Option.some.inj h, ← q]; exact List.mem_cons_self
    · have e2 : kidAt ((m, u) :: r) n = kidAt r n := if_neg q
      rw [e2] at h
      exact List.mem_cons_of_mem _ (kid_mem h)
theorem Yok_fold {d : Nat} (hM : ∀ x y : T α, Yok d x → Yok d y → Yok d (M d x y)) : ∀ (ts : List (T α)) (x : T α), Yok d x → (∀ u ∈ ts, Yok d u) → Yok d (ts.foldl (M d) x)
  | [], x, hx, _ => hx
  | t :: r, x, hx, ht => Yok_fold hM r _ (hM x t hx (ht t List.mem_cons_self)) fun u hu => ht u (List.mem_cons_of_mem _ hu)
theorem Kid_mrg {d : Nat} {n : Str} (hn : n ≠ Str.ofString "at") (hM : ∀ x y : T α, Yok d x → Yok d y → Yok d (M d x y)) {x t : T α} (hx : KidOk d n x) (ht : KidOk d n t) : KidOk d n (mrg (M d) x t) := by
  refine ⟨fun q => absurd q hn, fun _ => ?_⟩
  rcases ht.2 hn with ⟨b, ts, rfl, hts⟩ | ⟨b, kb, rfl, hy⟩
  · rcases hx.2 hn with ⟨a, xs, rfl, hxs⟩ | ⟨a, ks, rfl, hxy⟩
    · exact .inl ⟨a, xs ++ ts, rfl, fun u hu => by rcases List.mem_append.mp hu with z | z; exact hxs u z; exact hts u z⟩
    · have := Yok_fold hM ts _ hxy hts
      obtain ⟨js, e⟩ := foldM_tab (d := d) ts a ks
      refine .inr ⟨a, js, ?_, ?_⟩
      · show ts.foldl (M d) (.tab a ks) = _; rw [e]
      · exact this
  · rcases hx.2 hn with ⟨a, xs, rfl, hxs⟩ | ⟨a, ks, rfl, hxy⟩
    · refine .inl ⟨a, _, rfl, fun u hu => ?_⟩
      cases e : xs.getLast? with
      | none =>
        rw [List.getLast?_eq_none_iff.mp e] at hu
        cases hu
      | some l =>
        obtain ⟨r, rfl⟩ := getLast_snoc e
        rw [onLast_snoc] at hu
        rcases List.mem_append.mp hu with z | z
        · exact hxs u (List.mem_append.mpr (.inl z))
        · have hl := hxs l (List.mem_append.mpr (.inr (List.mem_singleton.mpr rfl)))
          rw [List.mem_singleton.mp z]
          cases l with
          | tab c ck => exact hM _ _ hl hy
          | lst _ _ => exact hl
          | int _ => exact hl
          | txt _ => exact hl
    · have := hM _ _ hxy hy
      obtain ⟨js, e⟩ := M_tab (d := d) (a := a) (ks := ks) (y := .tab b kb)
      exact .inr ⟨a, js, e, this⟩
theorem Yok_M : ∀ (d : Nat) (x y : T α), Yok d x → Yok d y → Yok d (M d x y)
  | 0, x, y, hx, _ => hx.elim
  | d + 1, .tab a ks, .tab b js, hx, hy => by
    have key : ∀ (js ks : List (Str × T α)), (ks.map (·.1)).Nodup → (∀ p ∈ ks, KidOk d p.1 p.2) → (∀ p ∈ js, KidOk d p.1 p.2) → ((js.foldl (put1 (M d)) ks).map (·.1)).Nodup ∧ ∀ p ∈ js.foldl (put1 (M d)) ks, KidOk d p.1 p.2 := by
      intro js
      induction js with
      | nil => intro ks h1 h2 _; exact ⟨h1, h2⟩
      | cons q r ih =>
        intro ks h1 h2 h3
        rw [List.foldl_cons]
        obtain ⟨n, t⟩ := q
        have ht : KidOk d n t := h3 (n, t) List.mem_cons_self
        refine ih _ ?_ (fun p hp => ?_) fun p hp => h3 p (List.mem_cons_of_mem _ hp)
        · rw [put1_eq]; exact (names_set h1).1
        · rw [put1_eq] at hp
          rcases mem_set hp with z | z
          · rw [z]
            show KidOk d n (res (M d) (kidAt ks n) n t)
            unfold res
            by_cases q : n = Str.ofString "at"
            · rw [if_pos q]; exact ht
            · rw [if_neg q]
              cases e : kidAt ks n with
              | none => exact ht
              | some x => exact Kid_mrg q (fun x y => Yok_M d x y) (h2 _ (kid_mem e)) ht
          · exact h2 p z
    exact key js ks hx.1 hx.2 hy.2
  | d + 1, .tab _ _, .lst _ _, _, hy => hy.elim
  | d + 1, .tab _ _, .int _, _, hy => hy.elim
  | d + 1, .tab _ _, .txt _, _, hy => hy.elim
  | d + 1, .lst _ _, _, hx, _ => hx.elim
  | d + 1, .int _, _, hx, _ => hx.elim
  | d + 1, .txt _, _, hx, _ => hx.elim
end
theorem Yok_br {g : Bool} {pl : Int} : ∀ (ns : List Str) (d : Nat), ns ≠ [] → (∀ n ∈ ns, n ≠ Str.ofString "at") → ns.length < d → Yok d (brN g pl ns)
  | [], _, h, _, _ => absurd rfl h
  | n :: r, 0, _, _, h => by cases h
  | n :: r, d + 1, _, hn, h => by
    refine ⟨by show [n].Nodup; simp, fun p hp => ?_⟩
    rw [List.mem_singleton.mp hp]
    refine ⟨fun q => absurd q (hn n List.mem_cons_self), fun _ => ?_⟩
    have hl : r.length < d := by simpa using h
    cases r with
    | nil =>
      obtain ⟨d, rfl⟩ : ∃ e, d = e + 1 := ⟨d - 1, by have : 0 < d := hl; lia⟩
      cases g with
      | true =>
        refine .inl ⟨none, [.tab none []], rfl, fun u hu => ?_⟩
        rw [List.mem_singleton.mp hu]
        exact ⟨List.nodup_nil, fun p hp => by cases hp⟩
      | false =>
        refine .inr ⟨none, _, rfl, ?_⟩
        refine ⟨by show [_].Nodup; simp, fun p hp => ?_⟩
        rw [List.mem_singleton.mp hp]
        exact ⟨fun _ => ⟨pl, rfl⟩, fun q => absurd rfl q⟩
    | cons m r =>
      exact .inr ⟨none, _, rfl, Yok_br (m :: r) d (by simp) (fun k hk => hn k (List.mem_cons_of_mem _ hk)) hl⟩
end Mine
namespace Mine
theorem told_all {x : T (Option Nat)} {g : Bool} {ns : List Str} {pl : Int} (hx : ∃ a ks, x = .tab a ks) (hn : ∀ n ∈ ns, n ≠ Str.ofString "at") (h0 : ns ≠ []) (hl : ns.length ≤ 3) :
    (cl 4 x (brN g pl ns) = [] ∧ Takes 4 x (brN g pl ns)) ∨ (M 4 x (brN g pl ns) = x ∧ ∃ msg, cl 4 x (brN g pl ns) = [msg] ∧ PyData.strOk msg = true) := by
  have okN : PyData.strOk nestMsg = true := by decide +kernel
  have okL : PyData.strOk listMsg = true := by decide +kernel
  cases g with
  | false =>
    have e : 3 - ns.length + ns.length + 1 = 4 := by lia
    have t := told_get (pl := pl) hx hn hl
    cases he : endP x ns with
    | none =>
      rw [he] at t
      refine .inr ⟨?_, nestMsg, t, okN⟩
      rw [brN_get, ← e]
      exact M_wrap_none ns _ x hx hn fun ke hk => by rw [he] at hk; cases hk
    | some ke =>
      rw [he] at t
      refine .inl ⟨t, ?_⟩
      rw [brN_get, ← e]
      exact Takes_wrap ns _ x hx hn (fun _ _ => .inl rfl) (nsome (he))
  | true =>
    rcases List.eq_nil_or_concat ns with rfl | ⟨r, z, rfl⟩
    · exact absurd rfl h0
    · rw [List.concat_eq_append] at *
      have hr : ∀ n ∈ r, n ≠ Str.ofString "at" := fun n h => hn n (List.mem_append.mpr (.inl h))
      have hz : z ≠ Str.ofString "at" := hn z (List.mem_append.mpr (.inr (List.mem_singleton.mpr rfl)))
      rw [List.length_append, List.length_singleton] at hl
      have e : 3 - r.length + r.length + 1 = 4 := by lia
      have t := told_app (pl := pl) hx hr hz (by lia : r.length ≤ 2)
      cases he : endP x r with
      | none =>
        rw [he] at t
        refine .inr ⟨?_, nestMsg, t, okN⟩
        rw [brN_app, ← e]
        exact M_wrap_none r _ x hx hr fun ke hk => by rw [he] at hk; cases hk
      | some ke =>
        rw [he] at t
        have t : cl 4 x (brN true pl (r ++ [z])) = match kidAt ke z with | none => [] | some (.lst _ _) => [] | some _ => [listMsg] := t
        have yes : (∀ t, kidAt ke z = some t → ∃ a ts, t = .lst a ts) → Takes 4 x (brN true pl (r ++ [z])) := fun h => by
          rw [brN_app, ← e]
          refine Takes_wrap r _ x hx hr (fun ke' hk => .inr fun t ht => ?_) (nsome (he))
          rw [he] at hk
          cases hk
          exact h t ht
        have no : ∀ t, kidAt ke z = some t → (∀ d, mrg (M d) t (.lst none [.tab none []]) = t) → M 4 x (brN true pl (r ++ [z])) = x := fun t ht h => by
          rw [brN_app, ← e]
          refine M_wrap_none r _ x hx hr fun ke' hk => ⟨hz, t, ?_, h _⟩
          rw [he] at hk
          cases hk
          exact ht
        cases hk : kidAt ke z with
        | none =>
          rw [hk] at t
          exact .inl ⟨t, yes fun t ht => by rw [hk] at ht; cases ht⟩
        | some u =>
          rw [hk] at t
          cases u with
          | lst a ts => exact .inl ⟨t, yes fun t ht => by rw [hk] at ht; cases ht; exact ⟨_, _, rfl⟩⟩
          | tab a ks => exact .inr ⟨no _ hk fun d => by cases d <;> rfl, listMsg, t, okL⟩
          | int i => exact .inr ⟨no _ hk fun d => rfl, listMsg, t, okL⟩
          | txt i => exact .inr ⟨no _ hk fun d => rfl, listMsg, t, okL⟩
noncomputable abbrev nonT2 : Option Nat → Option Nat := fun _ => none
mutual
theorem map_map2 {f : Nat → Option Nat} : ∀ t : T Nat, T.map nonT2 nonT2 (T.map f nonT t) = T.map nonT nonT t
  | .tab a ks => by
    have := mapK_map2 (f := f) ks
    show T.tab none (T.mapK nonT2 nonT2 (T.mapK f nonT ks)) = .tab none (T.mapK nonT nonT ks)
    rw [this]
  | .lst a xs => by
    have := mapL_map2 (f := f) xs
    show T.lst none (T.mapL nonT2 nonT2 (T.mapL f nonT xs)) = .lst none (T.mapL nonT nonT xs)
    rw [this]
  | .int _ => rfl
  | .txt _ => rfl
theorem mapK_map2 {f : Nat → Option Nat} : ∀ ks : List (Str × T Nat), T.mapK nonT2 nonT2 (T.mapK f nonT ks) = T.mapK nonT nonT ks
  | [] => rfl
  | (n, t) :: r => by
    have h1 := map_map2 (f := f) t
    have h2 := mapK_map2 (f := f) r
    show (n, T.map nonT2 nonT2 (T.map f nonT t)) :: T.mapK nonT2 nonT2 (T.mapK f nonT r) = _
    rw [h1, h2]; rfl
theorem mapL_map2 {f : Nat → Option Nat} : ∀ xs : List (T Nat), T.mapL nonT2 nonT2 (T.mapL f nonT xs) = T.mapL nonT nonT xs
  | [] => rfl
  | t :: r => by
    have h1 := map_map2 (f := f) t
    have h2 := mapL_map2 (f := f) r
    show T.map nonT2 nonT2 (T.map f nonT t) :: T.mapL nonT2 nonT2 (T.mapL f nonT r) = _
    rw [h1, h2]; rfl
end
theorem br_map {g : Bool} {pl : Int} : ∀ ns : List Str, T.map nonT2 nonT2 (brN g pl ns) = brN g pl ns
  | [] => by cases g <;> rfl
  | n :: r => by
    show T.tab none [(n, T.map nonT2 nonT2 (brN g pl r))] = .tab none [(n, brN g pl r)]
    rw [br_map r]
structure Pair (H : AHeap) (N W : T Nat) (b : T (Option Nat)) (H' : AHeap) (N' W' : T Nat) : Prop where
  vN : vOf N' = vOf N
  vW : vOf W' = vOf W
  rN : Rep H' N'
  rW : Rep H' W'
  c1 : ∀ p, wt (cw p) N' + wt (cw p) W' ≤ 1
  nw : ∀ p, wt (cw p) N' + wt (cw p) W' ≠ 0 → wt (cw p) N + wt (cw p) W ≠ 0 ∨ H p = none
  fr : FrB H H' (fun p => wt (cw p) N + wt (cw p) W ≠ 0)
  mN : ∀ f : Nat → Option Nat, (∀ p, H p = none → f p = none) → (∀ p, wt (cw p) W ≠ 0 → f p = none) → T.map f nonT N' = M 4 (T.map f nonT N) b
  mW : T.map nonT nonT W' = M 4 (T.map nonT nonT W) b
theorem em_map {α β : Type} {f g : α → β} (t : T α) : wt emw (T.map f g t) = wt emw t := wt_map (w := emw) t
theorem sz_map {α β : Type} {f g : α → β} (t : T α) : wt szw (T.map f g t) = wt szw t := wt_map (w := szw) t
theorem bw_map {α β : Type} {f g : α → β} (t : T α) : wt bw (T.map f g t) = wt bw t := wt_map (w := bw) t
theorem br_sz {g : Bool} {pl : Int} : ∀ ns : List Str, wt szw (brN g pl ns) ≤ ns.length + 2 ∧ wt emw (brN g pl ns) = 0 ∧ ((∀ n ∈ ns, n ≠ Str.ofString "at") → wt bw (brN g pl ns) = 0)
  | [] => by cases g <;> exact ⟨Nat.le_refl _, rfl, fun _ => rfl⟩
  | n :: r => by
    obtain ⟨h1, h2, h3⟩ := br_sz (g := g) (pl := pl) r
    have e : ∀ w : Wt (Option Nat), wt w (brN g pl (n :: r)) = w.ft none + ((wt w (brN g pl r) + w.bad n (brN g pl r)) + 0) := fun _ => rfl
    have hb1 : szw.bad n (brN g pl r) = 0 := by unfold Wt.bad; split; cases brN g pl r <;> rfl; rfl
    have hb2 : emw.bad n (brN g pl r) = 0 := by unfold Wt.bad; split; cases brN g pl r <;> rfl; rfl
    refine ⟨?_, ?_, fun hn => ?_⟩
    · rw [e, hb1]
      show 1 + _ ≤ r.length + 1 + 2
      lia
    · rw [e, hb2, h2]; rfl
    · rw [e, h3 fun m hm => hn m (List.mem_cons_of_mem _ hm), bad_off (hn n List.mem_cons_self)]; rfl
end Mine
namespace Mine
noncomputable def CallAt (H : AHeap) (v : V) : Prop := ∃ p q keys g, v = .ref p ∧ H p = some (.tup [.ref q, .int g]) ∧ H q = some (.tup (strsV keys)) ∧ keys ≠ [] ∧ keys.length ≤ 3 ∧ ∀ r ∈ keys, ∃ i, r.1 = nameOf i
theorem CallAt.keep {H H' : AHeap} {v : V} (h : CallAt H v) (k : TupKeep H H') : CallAt H' v := by
  obtain ⟨p, q, keys, g, h1, h2, h3, h4⟩ := h
  exact ⟨p, q, keys, g, h1, k _ _ h2, k _ _ h3, h4⟩
structure LX (hs : List Nat) (NX : T (Option Nat)) : Prop where
  nd : hs.Nodup
  tb : ∃ a ks, NX = .tab a ks
  em : wt emw NX = 0
  bad : wt bw NX = 0
  sz : wt szw NX ≤ 121
  nm : nmO NX
  has : ∀ k, k < hs.length → wt (tw (hit (some k))) NX ≠ 0
  hl : hs.length ≤ 41
structure LS (C xa dxa xu dxu hA thA eA : Addr) (hs ts : List Nat) (evs : List V) (n : Nat) (A U O S : T Nat) (H : AHeap) : Prop where
  ia : H xa = some (.inst C dxa)
  da : H dxa = some (.attrs (vOf A))
  iu : H xu = some (.inst C dxu)
  du : H dxu = some (.attrs (vOf U))
  tA : ∃ a ks, A = .tab a ks
  tU : ∃ a ks, U = .tab a ks
  tO : ∃ a ks, O = .tab a ks
  tS : ∃ a ks, S = .tab a ks
  rA : Rep H A
  rU : Rep H U
  rO : Rep H O
  rS : Rep H S
  c1 : ∀ p, wt (cw p) A + wt (cw p) U + wt (cw p) O + wt (cw p) S ≤ 1
  z : ∀ p, p = hA ∨ p = thA ∨ p = eA → wt (cw p) A + wt (cw p) U + wt (cw p) O + wt (cw p) S = 0
  hh : H hA = some (.list (hs.map V.ref))
  ht : H thA = some (.list (ts.map fun t => V.int (t : Nat)))
  he : H eA = some (.list evs)
  ek : ∀ v ∈ evs, CallAt H v
  sa : T.map nonT nonT A = T.map nonT nonT O
  su : T.map nonT nonT U = T.map nonT nonT S
  yo : Yok 4 (T.map nonT nonT O)
  eo : wt emw (T.map nonT nonT O) = 0
  bo : wt bw (T.map nonT nonT O) = 0
  so : wt szw (T.map nonT nonT O) ≤ 1 + 5 * n
  nmo : nmO (T.map nonT nonT O)
  hsU : ∀ a ∈ hs, wt (cw a) U ≠ 0
section
variable {C xa dxa xu dxu hA thA eA : Addr} {hs ts : List Nat} {evs : List V} {n : Nat} {A U O S A' O' U' S' : T Nat} {H H' : AHeap} {bN NX : T (Option Nat)}
theorem off_kind {p : Addr} {t : T Nat} (r : Rep H t) (q1 : ∀ kvs ep, H p ≠ some (.dict kvs ep)) (q2 : ∀ xs, H p ≠ some (.list xs)) : wt (cw p) t = 0 := Classical.byContradiction fun z => by
  rcases r.node _ z with ⟨kvs, ep, e⟩ | ⟨xs, e⟩
  · exact q1 _ _ e
  · exact q2 _ e
theorem off_inst {p C d : Addr} {t : T Nat} (r : Rep H t) (h : H p = some (.inst C d)) : wt (cw p) t = 0 := off_kind r (fun _ _ q => by rw [h] at q; cases q) fun _ q => by rw [h] at q; cases q
theorem off_attrs {p : Addr} {v : V} {t : T Nat} (r : Rep H t) (h : H p = some (.attrs v)) : wt (cw p) t = 0 := off_kind r (fun _ _ q => by rw [h] at q; cases q) fun _ q => by rw [h] at q; cases q
theorem off_tup {p : Addr} {xs : List V} {t : T Nat} (r : Rep H t) (h : H p = some (.tup xs)) : wt (cw p) t = 0 := off_kind r (fun _ _ q => by rw [h] at q; cases q) fun _ q => by rw [h] at q; cases q
theorem Pair.tups {N Y N' Y' : T Nat} (P : Pair H N Y bN H' N' Y') (rN : Rep H N) (rY : Rep H Y) : TupKeep H H' := fun τ xs e => by
  rw [P.fr τ (nsome (e)) fun z => ?_, e]
  have h1 := off_tup rN e
  have h2 := off_tup rY e
  have z : wt (cw τ) N + wt (cw τ) Y ≠ 0 := z
  lia
theorem root_tab {t t' : T Nat} (h : ∃ a ks, t = .tab a ks) (f : T.map nonT nonT t' = M 4 (T.map nonT nonT t) bN) : ∃ a ks, t' = .tab a ks := by
  obtain ⟨a, ks, rfl⟩ := h
  obtain ⟨js, e⟩ := M_tab (d := 4) (a := (none : Option Nat)) (ks := T.mapK nonT nonT ks) (y := bN)
  have f : T.map nonT nonT t' = M 4 (.tab none (T.mapK nonT nonT ks)) bN := f
  rw [e] at f
  cases t' with
  | tab b kb => exact ⟨b, kb, rfl⟩
  | lst _ _ => cases f
  | int _ => cases f
  | txt _ => cases f
theorem LS.first (X : LS C xa dxa xu dxu hA thA eA hs ts evs n A U O S H) (P : Pair H A O bN H' A' O') (yb : Yok 4 bN) (eb : wt emw bN = 0) (bb : wt bw bN = 0) (sb : wt szw bN ≤ 5) (nb : nmO bN) : LS C xa dxa xu dxu hA thA eA hs ts evs (n + 1) A' U O' S H' := by
  have fr : ∀ p, H p ≠ none → wt (cw p) A = 0 → wt (cw p) O = 0 → H' p = H p := fun p hp h1 h2 => P.fr p hp fun z => z (by lia)
  have mO := P.mW
  have mA := P.mN nonT (fun _ _ => rfl) fun _ _ => rfl
  have tk := P.tups X.rA X.rO
  have lst : ∀ p, H p ≠ none → p = hA ∨ p = thA ∨ p = eA → H' p = H p := fun p hp hq => by
    have := X.z p hq
    exact fr p hp (by lia) (by lia)
  refine {
    ia := by rw [fr xa (nsome (X.ia)) (off_inst X.rA X.ia) (off_inst X.rO X.ia)]; exact X.ia
    da := by rw [fr dxa (nsome (X.da)) (off_attrs X.rA X.da) (off_attrs X.rO X.da), P.vN]; exact X.da
    iu := by rw [fr xu (nsome (X.iu)) (off_inst X.rA X.iu) (off_inst X.rO X.iu)]; exact X.iu
    du := by rw [fr dxu (nsome (X.du)) (off_attrs X.rA X.du) (off_attrs X.rO X.du)]; exact X.du
    tA := root_tab X.tA mA
    tU := X.tU
    tO := root_tab X.tO mO
    tS := X.tS
    rA := P.rN
    rU := X.rU.frame _ fun p hp => fr p (X.rU.live hp) (by have := X.c1 p; lia) (by have := X.c1 p; lia)
    rO := P.rW
    rS := X.rS.frame _ fun p hp => fr p (X.rS.live hp) (by have := X.c1 p; lia) (by have := X.c1 p; lia)
    c1 := fun p => ?_
    z := fun p hq => ?_
    hh := by rw [lst hA (nsome (X.hh)) (.inl rfl)]; exact X.hh
    ht := by rw [lst thA (nsome (X.ht)) (.inr (.inl rfl))]; exact X.ht
    he := by rw [lst eA (nsome (X.he)) (.inr (.inr rfl))]; exact X.he
    ek := fun v hv => (X.ek v hv).keep tk
    sa := by rw [mA, mO, X.sa]
    su := X.su
    yo := by rw [mO]; exact Yok_M 4 _ _ X.yo yb
    eo := by rw [mO]; have := wt_M (w := emw) 4 (T.map nonT nonT O) bN; have := X.eo; lia
    bo := by rw [mO]; have := wt_M (w := bw) 4 (T.map nonT nonT O) bN; have := X.bo; lia
    so := by rw [mO]; have := wt_M (w := szw) 4 (T.map nonT nonT O) bN; have := X.so; lia
    nmo := by rw [mO]; exact M_nm 4 _ _ X.nmo nb
    hsU := X.hsU }
  · have h1 := X.c1 p
    have h2 := P.c1 p
    by_cases q : wt (cw p) A' + wt (cw p) O' = 0
    · lia
    · rcases P.nw p q with z | z
      · lia
      · have := X.rU.fresh z
        have := X.rS.fresh z
        lia
  · have h1 := X.z p hq
    by_cases q : wt (cw p) A' + wt (cw p) O' = 0
    · lia
    · rcases P.nw p q with z | z
      · lia
      · exfalso
        rcases hq with rfl | rfl | rfl
        · rw [X.hh] at z; cases z
        · rw [X.ht] at z; cases z
        · rw [X.he] at z; cases z
theorem LS.ixF (X : LS C xa dxa xu dxu hA thA eA hs ts evs n A U O S H) : (∀ p, H p = none → ix hs p = none) ∧ (∀ p, wt (cw p) S ≠ 0 → ix hs p = none) ∧ ∀ p, wt (cw p) O ≠ 0 → ix hs p = none :=
  ⟨fun p hp => ix_none fun q => X.hsU p q (X.rU.fresh hp), fun p hp => ix_none fun q => by have := X.hsU p q; have := X.c1 p; lia, fun p hp => ix_none fun q => by have := X.hsU p q; have := X.c1 p; lia⟩
theorem LS.second (X : LS C xa dxa xu dxu hA thA eA hs ts evs n A U O S H) (P : Pair H U S bN H' U' S') (hk : ∀ a ∈ hs, wt (cw a) U' ≠ 0) : LS C xa dxa xu dxu hA thA eA hs ts evs n A U' O S' H' := by
  have fr : ∀ p, H p ≠ none → wt (cw p) U = 0 → wt (cw p) S = 0 → H' p = H p := fun p hp h1 h2 => P.fr p hp fun z => z (by lia)
  have mS := P.mW
  have mU := P.mN nonT (fun _ _ => rfl) fun _ _ => rfl
  have tk := P.tups X.rU X.rS
  have lst : ∀ p, H p ≠ none → p = hA ∨ p = thA ∨ p = eA → H' p = H p := fun p hp hq => by
    have := X.z p hq
    exact fr p hp (by lia) (by lia)
  refine { X with
    ia := by rw [fr xa (nsome (X.ia)) (off_inst X.rU X.ia) (off_inst X.rS X.ia)]; exact X.ia
    da := by rw [fr dxa (nsome (X.da)) (off_attrs X.rU X.da) (off_attrs X.rS X.da)]; exact X.da
    iu := by rw [fr xu (nsome (X.iu)) (off_inst X.rU X.iu) (off_inst X.rS X.iu)]; exact X.iu
    du := by rw [fr dxu (nsome (X.du)) (off_attrs X.rU X.du) (off_attrs X.rS X.du), P.vN]; exact X.du
    tU := root_tab X.tU mU
    tS := root_tab X.tS mS
    rA := X.rA.frame _ fun p hp => fr p (X.rA.live hp) (by have := X.c1 p; lia) (by have := X.c1 p; lia)
    rU := P.rN
    rO := X.rO.frame _ fun p hp => fr p (X.rO.live hp) (by have := X.c1 p; lia) (by have := X.c1 p; lia)
    rS := P.rW
    c1 := fun p => ?_
    z := fun p hq => ?_
    hh := by rw [lst hA (nsome (X.hh)) (.inl rfl)]; exact X.hh
    ht := by rw [lst thA (nsome (X.ht)) (.inr (.inl rfl))]; exact X.ht
    he := by rw [lst eA (nsome (X.he)) (.inr (.inr rfl))]; exact X.he
    ek := fun v hv => (X.ek v hv).keep tk
    su := by rw [mU, mS, X.su]
    hsU := hk }
  · have h1 := X.c1 p
    have h2 := P.c1 p
    by_cases q : wt (cw p) U' + wt (cw p) S' = 0
    · lia
    · rcases P.nw p q with z | z
      · lia
      · have := X.rA.fresh z
        have := X.rO.fresh z
        lia
  · have h1 := X.z p hq
    by_cases q : wt (cw p) U' + wt (cw p) S' = 0
    · lia
    · rcases P.nw p q with z | z
      · lia
      · exfalso
        rcases hq with rfl | rfl | rfl
        · rw [X.hh] at z; cases z
        · rw [X.ht] at z; cases z
        · rw [X.he] at z; cases z
theorem LS.ext (X : LS C xa dxa xu dxu hA thA eA hs ts evs n A U O S H) (E : Ext H H') : LS C xa dxa xu dxu hA thA eA hs ts evs n A U O S H' := { X with
  ia := E _ _ X.ia, da := E _ _ X.da, iu := E _ _ X.iu, du := E _ _ X.du
  rA := X.rA.ext E, rU := X.rU.ext E, rO := X.rO.ext E, rS := X.rS.ext E
  hh := E _ _ X.hh, ht := E _ _ X.ht, he := E _ _ X.he
  ek := fun v hv => (X.ek v hv).keep (TupKeep.of_ext E) }
theorem LS.reE (X : LS C xa dxa xu dxu hA thA eA hs ts evs n A U O S H) {eB : Addr} {ews : List V} (he : H eB = some (.list ews)) (hz : wt (cw eB) A + wt (cw eB) U + wt (cw eB) O + wt (cw eB) S = 0) (ek : ∀ v ∈ ews, v ∈ evs) : LS C xa dxa xu dxu hA thA eB hs ts ews n A U O S H := { X with
  he := he
  ek := fun v hv => X.ek v (ek v hv)
  z := fun p hq => by
    rcases hq with q | q | q
    · exact X.z p (.inl q)
    · exact X.z p (.inr (.inl q))
    · rw [q]; exact hz }
theorem has_num {R : T (Option Nat)} (nd : hs.Nodup) (hR : T.map (ix hs) nonT U = R) (h : ∀ k, k < hs.length → wt (tw (hit (some k))) R ≠ 0) : ∀ a ∈ hs, find (isA a) U ≠ none := fun a ha => by
  rw [find_has]
  obtain ⟨k, hk, rfl⟩ := List.getElem_of_mem ha
  have h1 := h k hk
  rw [← hR, wt_map (f := ix hs) (g := nonT)] at h1
  have e : (tw (hit (some k)) : Wt (Option Nat)).pull (ix hs) = tw (hit hs[k]) := by
    show (⟨fun a => hit (some k) (ix hs a), fun _ => 0, 0, 0, 0⟩ : Wt Nat) = ⟨hit hs[k], fun _ => 0, 0, 0, 0⟩
    congr 1
    funext b
    have := ix_at nd (b := b) (j := k)
    by_cases q : hs[k] = b
    · rw [q, hit_same, this.mpr (by rw [List.getElem?_eq_getElem hk, q]), hit_same]
    · rw [hit_ne q, hit_ne fun z => q ?_]
      have := this.mp z.symm
      rw [List.getElem?_eq_getElem hk] at this
      exact Option.some.inj this
  rw [e] at h1
  exact h1
theorem find_cnt {t : T Nat} {a : Nat} (h : find (isA a) t ≠ none) : wt (cw a) t ≠ 0 := fun q => h (mod_off (g := fun ks => ks) t q).2
theorem LX.keep (L : LX hs NX) {Y : T (Option Nat)} (hY : wt bw Y = 0) : ∀ k, k < hs.length → wt (tw (hit (some k))) (M 4 NX Y) ≠ 0 := fun k hk => by
  have h1 := L.has k hk
  have h2 := M_keep (f := hit (some k)) 4 NX Y L.bad hY
  lia
end
theorem LS.sizes {C xa dxa xu dxu hA thA eA : Addr} {hs ts : List Nat} {evs : List V} {n : Nat} {A U O S : T Nat} {H : AHeap} {NX : T (Option Nat)} (X : LS C xa dxa xu dxu hA thA eA hs ts evs n A U O S H) (L : LX hs NX) {Y : T (Option Nat)} (hU : T.map (ix hs) nonT U = M 4 NX Y) (eY : wt emw Y = 0) (sY : wt szw Y ≤ 1 + 5 * n) (hn : n ≤ 41) :
    wt emw A = 0 ∧ wt emw U = 0 ∧ wt emw O = 0 ∧ wt emw S = 0 ∧ wt szw A ≤ 10000 ∧ wt szw U ≤ 10000 ∧ wt szw O ≤ 10000 ∧ wt szw S ≤ 10000 := by
  have eo := X.eo
  have so := X.so
  have h1 := em_map (f := nonT) (g := nonT) A
  have h2 := em_map (f := nonT) (g := nonT) O
  have h3 := em_map (f := ix hs) (g := nonT) U
  have h4 := em_map (f := nonT) (g := nonT) U
  have h5 := em_map (f := nonT) (g := nonT) S
  have g1 := sz_map (f := nonT) (g := nonT) A
  have g2 := sz_map (f := nonT) (g := nonT) O
  have g3 := sz_map (f := ix hs) (g := nonT) U
  have g4 := sz_map (f := nonT) (g := nonT) U
  have g5 := sz_map (f := nonT) (g := nonT) S
  rw [X.sa] at h1 g1
  rw [X.su] at h4 g4
  rw [hU] at h3 g3
  have k1 := wt_M (w := emw) 4 NX Y
  have k2 := wt_M (w := szw) 4 NX Y
  have := L.em
  have := L.sz
  lia
end Mine
namespace Mine
mutual
theorem map_on {f f' g : Nat → Option Nat} : ∀ t : T Nat, (∀ a, wt (cw a) t ≠ 0 → f a = f' a) → T.map f g t = T.map f' g t
  | .tab a ks, h => by
    have h1 := mapK_on (f := f) (f' := f') (g := g) ks fun b hb => h b (by rw [cnt_tab]; lia)
    show T.tab (f a) (T.mapK f g ks) = .tab (f' a) (T.mapK f' g ks)
    rw [h1, h a (by rw [cnt_tab, hit_same]; lia)]
  | .lst a xs, h => by
    have h1 := mapL_on (f := f) (f' := f') (g := g) xs fun b hb => h b (by rw [cnt_lst]; lia)
    show T.lst (f a) (T.mapL f g xs) = .lst (f' a) (T.mapL f' g xs)
    rw [h1, h a (by rw [cnt_lst, hit_same]; lia)]
  | .int _, _ => rfl
  | .txt _, _ => rfl
theorem mapK_on {f f' g : Nat → Option Nat} : ∀ ks : List (Str × T Nat), (∀ a, wtK (cw a) ks ≠ 0 → f a = f' a) → T.mapK f g ks = T.mapK f' g ks
  | [], _ => rfl
  | (n, t) :: r, h => by
    have h1 := map_on (f := f) (f' := f') (g := g) t fun b hb => h b (by rw [cntK_cons]; lia)
    have h2 := mapK_on (f := f) (f' := f') (g := g) r fun b hb => h b (by rw [cntK_cons]; lia)
    show (n, T.map f g t) :: T.mapK f g r = (n, T.map f' g t) :: T.mapK f' g r
    rw [h1, h2]
theorem mapL_on {f f' g : Nat → Option Nat} : ∀ xs : List (T Nat), (∀ a, wtL (cw a) xs ≠ 0 → f a = f' a) → T.mapL f g xs = T.mapL f' g xs
  | [], _ => rfl
  | t :: r, h => by
    have h1 := map_on (f := f) (f' := f') (g := g) t fun b hb => h b (by rw [cntL_cons]; lia)
    have h2 := mapL_on (f := f) (f' := f') (g := g) r fun b hb => h b (by rw [cntL_cons]; lia)
    show T.map f g t :: T.mapL f g r = T.map f' g t :: T.mapL f' g r
    rw [h1, h2]
end
mutual
theorem Rep.noTab {H : AHeap} {a : Nat} {kvs : List (Key × V)} {ep : Nat} (ha : H a = some (.dict kvs ep)) : ∀ t : T Nat, Rep H t → find (isA a) t = none → wt (cw a) t = 0
  | .tab b ks, r, h => by
    have h : (if isA a b = true then some ks else findK (isA a) ks) = none := h
    have ih := RepK.noTab ha ks r.2
    by_cases q : b = a
    · rw [q, isA_same, if_pos rfl] at h; cases h
    · rw [isA_ne q, if_neg Bool.false_ne_true] at h
      rw [cnt_tab, hit_ne (Ne.symm q), ih h]
  | .lst b xs, r, h => by
    have h : findL (isA a) xs = none := h
    have ih := RepL.noTab ha xs r.2 h
    have q : a ≠ b := fun q => by rw [q, r.1] at ha; cases ha
    rw [cnt_lst, hit_ne q, ih]
  | .int _, _, _ => rfl
  | .txt _, _, _ => rfl
theorem RepK.noTab {H : AHeap} {a : Nat} {kvs : List (Key × V)} {ep : Nat} (ha : H a = some (.dict kvs ep)) : ∀ ks : List (Str × T Nat), RepK H ks → findK (isA a) ks = none → wtK (cw a) ks = 0
  | [], _, _ => rfl
  | (n, t) :: r, rr, h => by
    have h : (find (isA a) t).or (findK (isA a) r) = none := h
    rw [Option.or_eq_none_iff] at h
    rw [cntK_cons, Rep.noTab ha t rr.1 h.1, RepK.noTab ha r rr.2 h.2]
theorem RepL.noTab {H : AHeap} {a : Nat} {kvs : List (Key × V)} {ep : Nat} (ha : H a = some (.dict kvs ep)) : ∀ xs : List (T Nat), RepL H xs → findL (isA a) xs = none → wtL (cw a) xs = 0
  | [], _, _ => rfl
  | t :: r, rr, h => by
    have h : (find (isA a) t).or (findL (isA a) r) = none := h
    rw [Option.or_eq_none_iff] at h
    rw [cntL_cons, Rep.noTab ha t rr.1 h.1, RepL.noTab ha r rr.2 h.2]
end
section
variable {hs : List Nat} {U : T Nat} {R : T (Option Nat)}
theorem pull_ix (nd : hs.Nodup) {k : Nat} (hk : k < hs.length) : (tw (hit (some k)) : Wt (Option Nat)).pull (ix hs) = tw (hit hs[k]) := by
  show (⟨fun a => hit (some k) (ix hs a), fun _ => 0, 0, 0, 0⟩ : Wt Nat) = ⟨hit hs[k], fun _ => 0, 0, 0, 0⟩
  congr 1
  funext b
  have := ix_at nd (b := b) (j := k)
  by_cases q : hs[k] = b
  · rw [q, hit_same, this.mpr (by rw [List.getElem?_eq_getElem hk, q]), hit_same]
  · rw [hit_ne q, hit_ne fun z => q ?_]
    have := this.mp z.symm
    rw [List.getElem?_eq_getElem hk] at this
    exact Option.some.inj this
theorem num_has (nd : hs.Nodup) (hR : T.map (ix hs) nonT U = R) (h : ∀ a ∈ hs, find (isA a) U ≠ none) : ∀ k, k < hs.length → wt (tw (hit (some k))) R ≠ 0 := fun k hk => by
  rw [← hR, wt_map (f := ix hs) (g := nonT), pull_ix nd hk, ← find_has]
  exact h _ (List.getElem_mem hk)
end
theorem nm_item (k n : Nat) : nmO (itemN k n) := by
  unfold itemN
  split
  · exact trivial
  · split
    · exact trivial
    · split
      · exact trivial
      · exact ⟨trivial, trivial⟩
theorem nameOf_ok (i : Nat) : PyData.strOk (nameOf i) = true := by
  match i with
  | 0 => decide +kernel
  | 1 => decide +kernel
  | i + 2 => exact (by decide +kernel : PyData.strOk (Str.ofString "") = true)
theorem nm_gI {k i n : Nat} {ks : List (Str × T (Option Nat))} (h : nmK ks) : nmK (gI k (itemN k n) none (nameOf i) ks) := by
  unfold gI
  cases e : kidAt ks (nameOf i) with
  | none =>
    refine nmK_set (nameOf_ok i) ?_ h
    split
    · exact nm_item k n
    · exact ⟨nm_item k n, trivial⟩
  | some t =>
    cases t with
    | lst a xs => exact nmK_set (t := .lst a (xs ++ [itemN k n])) (nameOf_ok i) ((nmL_app (xs := xs) (ys := [itemN k n])).mpr ⟨nmK_kid h e, nm_item k n, trivial⟩) h
    | tab _ _ => exact h
    | int _ => exact h
    | txt _ => exact h
theorem nm_G1 {S : T (Option Nat) × Nat} {t : Nat} (h : nmO S.1) : nmO (G1 S t).1 := by
  unfold G1
  split
  · exact h
  · split
    · exact nm_mod (fun ks hk => nm_gI hk) S.1 h
    · exact h
theorem nm_grow : ∀ (ts : List Nat) (S : T (Option Nat) × Nat), nmO S.1 → nmO (ts.foldl G1 S).1
  | [], _, h => h
  | t :: r, S, h => nm_grow r _ (nm_G1 h)
theorem GSt.LX {H0 H : AHeap} {root : Nat} {hs : List Nat} {X : T Nat} {S : T (Option Nat) × Nat} {i : Nat} (G : GSt H0 H root hs X S i) (hi : i ≤ 40) (hn : nmO S.1) : LX hs S.1 where
  nd := G.nd
  tb := by
    rw [← G.map]
    refine Mine.hideG fun GG back => ?_
    obtain ⟨ks, rfl⟩ := G.tb
    refine back ?_
    clear back
    exact ⟨_, _, rfl⟩
  em := by rw [← G.map, em_map]; exact G.em
  bad := by rw [← G.map, bw_map]; exact G.bad
  sz := by rw [← G.map, sz_map]; have := G.sz; lia
  nm := hn
  has := num_has G.nd G.map G.has
  hl := by have := G.hl; lia
noncomputable def stamp : Nat → T (Option Nat) → T (Option Nat)
  | 0, t => t
  | k + 1, t => modT (pN k) (fun ks => setKid ks "is" (.int k)) (stamp k t)
theorem nm_stamp : ∀ (k : Nat) (t : T (Option Nat)), nmO t → nmO (stamp k t)
  | 0, _, h => h
  | k + 1, t, h => nm_mod (fun ks hk => nmK_set (t := .int k) (by decide +kernel) trivial hk) _ (nm_stamp k t h)
section
variable {hs : List Nat} {U : T Nat} {N : T (Option Nat)} {H : AHeap} {k a : Nat}
theorem pN_at (nd : hs.Nodup) {j a : Nat} (hj : hs[j]? = some a) (b : Nat) : pN j (ix hs b) = isA a b := by
  unfold pN isA
  have := ix_at nd (b := b) (j := j)
  by_cases q : b = a
  · rw [decide_eq_true q, decide_eq_true (this.mpr (by rw [q]; exact hj))]
  · rw [decide_eq_false q, decide_eq_false fun e => q (by have := this.mp e; rw [hj] at this; exact (Option.some.inj this).symm)]
theorem stamp_one {kvs : List (Key × V)} {ep ep' : Nat} (nd : hs.Nodup) (hk : hs[k]? = some a) (rU : Rep H U) (c1 : ∀ b, wt (cw b) U ≤ 1) (hN : T.map (ix hs) nonT U = stamp k N) (ha : H a = some (.dict kvs ep)) :
    Rep (upd H a (.dict (putK kvs (.inr "is") (.int k)) ep')) (modT (isA a) (fun ks => setKid ks "is" (.int k)) U) ∧ (∀ b, wt (cw b) (modT (isA a) (fun ks => setKid ks "is" (.int k)) U) ≤ wt (cw b) U) ∧
      wt szw (modT (isA a) (fun ks => setKid ks "is" (.int k)) U) ≤ wt szw U + 1 ∧ T.map (ix hs) nonT (modT (isA a) (fun ks => setKid ks "is" (.int k)) U) = stamp (k + 1) N ∧ vOf (modT (isA a) (fun ks => setKid ks "is" (.int k)) U) = vOf U := by
  have hm : T.map (ix hs) nonT (modT (isA a) (fun ks => setKid ks "is" (.int k)) U) = stamp (k + 1) N := by
    rw [modT_map (pN_at nd hk) (g' := fun ks => setKid ks "is" (.int k)) (fun ks => mapK_set ks), hN]
    rfl
  have hv := (mod_kind (a := a) (g := fun ks => setKid ks "is" (.int k)) (n := "") (w := szw) U).2
  cases hf : find (isA a) U with
  | none =>
    have h0 := rU.noTab ha U hf
    refine Mine.hideG fun GG back => ?_
    obtain ⟨e, _⟩ := mod_off (g := fun ks => setKid ks "is" (.int k)) U h0
    refine back ?_
    clear back
    refine ⟨?_, fun b => by rw [e]; exact Nat.le_refl _, by rw [e]; lia, hm, hv⟩
    rw [e]
    exact rU.frame _ fun b hb => upd_off fun q => hb (by rw [q]; exact h0)
  | some ks =>
    refine Mine.hideG fun GG back => ?_
    obtain ⟨w1, w3, w4⟩ := mod_find (g := fun ks => setKid ks "is" (.int k)) (H := H) (H' := upd H a (.dict (putK kvs (.inr "is") (.int k)) ep')) U (c1 a) hf
    obtain ⟨⟨ep0, h1⟩, h2⟩ := w3 rU
    refine back ?_
    clear back
    rw [ha] at h1
    cases h1
    have c2 : ∀ b, wt (cw b) (.tab a ks) ≤ 1 := fun b => Nat.le_trans (w1 (cw b)).2 (c1 b)
    have hset : ∀ w : Wt Nat, wtK w (setKid ks "is" (.int k)) ≤ wtK w ks + w.g := fun w => by
      have := wtK_set (w := w) (ks := ks) (n := "is") (t := .int k)
      rw [wk_off (show ("is" : Str) ≠ Str.ofString "at" by decide)] at this
      have e : wt w (.int (k : Int)) = w.g := rfl
      lia
    refine ⟨w4 rU c1 (fun b hb h0 => upd_off ?_) ⟨⟨ep', by rw [kv_set]; exact upd_same⟩, RepK.set (t := .int k) trivial h2 (fun b => ?_) fun b hb _ => upd_off ?_⟩, fun b => ?_, ?_, hm, hv⟩
    · rintro rfl
      rw [cnt_tab, hit_same] at h0; lia
    · have := c2 b; rw [cnt_tab] at this; lia
    · rintro rfl
      have := c2 b; rw [cnt_tab, hit_same] at this; lia
    · have h3 := (w1 (cw b)).1
      have h4 := hset (cw b)
      have e : (cw b).g = 0 := rfl
      lia
    · have h3 := (w1 szw).1
      have h4 := hset szw
      have e : (szw : Wt Nat).g = 1 := rfl
      lia
end
end Mine
namespace Mine
section
noncomputable abbrev L5.stmsC : List Stmt := PySem.Challenge.pw_kp0043_05.main.body
noncomputable abbrev L5.cls : Stmt := stm L5.stmsC 1
noncomputable abbrev L5.mI : Stmt := stm (fnBody L5.cls) 0
noncomputable abbrev L5.mG : Stmt := stm (fnBody L5.cls) 1
noncomputable abbrev L5.mA : Stmt := stm (fnBody L5.cls) 2
theorem L5.init_ok {c : Cx} {A : Around} {C fI a dx : Addr} {H : AHeap} (hC : ClsAt c C fI) (F : DefAt c fI L5.mI) (hA : Room A) (ha : H a = some (.inst C dx)) (hd : H dx = some .attrs0) :
    FnV c A fI [.ref a] [] H (fun v H' => v = .none ∧ ∃ d, H d = none ∧ H' = upd (upd H d (.dict [] 0)) dx (.attrs (.ref d))) NoX := by
  refine FnV.top F hA ["self"] rfl (fun fd rvs h1 h2 h3 hl => ?_) (by rfl) fun k hk => ?_
  · obtain ⟨x, rfl⟩ := len1 hl
    cases fd; simp only at h1 h2 h3; subst h1; subst h2; subst h3; rfl
  refine Mine.hideG fun GG back => ?_
  obtain ⟨rfl, sv, hfr, hdep, hun, hhd, hX, hhere⟩ := hk
  refine back ?_
  clear back
  show W k (execs (fnBody L5.mI) k.env) (setL noLoc "self" (.ref a)) H _
  refine W_cons' ?_
  refine W_setDict (fI := fI) ?_
  refine W_Dict0 ?_
  intro d hd'
  refine ⟨a, C, dx, setL_same, hC, upd_fresh hd' ha, .inl (upd_fresh hd' hd), ?_⟩
  refine contQ_next ?_
  refine W_nil ?_
  exact RQ_next ⟨rfl, d, hd', rfl⟩
theorem L5.nest_body {k : Wk} {x dx kt b0 C fI : Addr} {acc : Bool} {keys : List (Str × Tok)} {m : Loc} {H : AHeap} {Q : Addr → AHeap → Prop} {X : String → Option (List V) → AHeap → Prop} (sv : SEnv k (fnScope L5.mG) (cellNames (fnScope L5.mG).names))
    (G : Blt k.c) (hC : ClsAt k.c C fI) (hX : k.X = fun cls xs _ H => X cls xs H) (here : k.here) (hh : k.A.handled = none)
    (hs : m "self" = some (.ref x)) (hkey : m "key" = some (.ref kt)) (hacc : m "access_lists" = some (.bool acc))
    (hx : H x = some (.inst C dx)) (hd : H dx = some (.attrs (.ref b0))) (hkt : H kt = some (.tup (keys.map fun p => .str p.1 p.2)))
    (h : Gw acc Q X (keys.map (·.1)) b0 H) : W k (execs (fnBody L5.mG) k.env) m H (RQ fun v H' => ∃ a, v = .ref a ∧ Q a H') := by
  refine Mine.hideG fun GG back => ?_
  obtain ⟨gLen, gIsi, gList, gDict, gRange, gKE, gType, gTuple, gEnum, imp, tree⟩ := G
  refine back ?_
  clear back
  refine W_cons' ?_
  refine W_Assign ?_ (stor (by rfl)) (by rfl)
  refine W_getDict hC hs hx hd (fun i => by simp) ?_
  refine contQ_next ?_
  refine W_cons' ?_
  refine W_For ?_
  refine W_Name (by repeat first | assumption | with_reducible exact setL_same | (apply setL_ne; decide +kernel)) ?_
  refine ⟨_, _, _, fun i m' H' => m' "access_lists" = some (.bool acc) ∧ H' kt = some (.tup (keys.map fun p => .str p.1 p.2)) ∧ ∃ cont, m' "cont" = some (.ref cont) ∧ Gw acc Q X ((keys.drop i).map (·.1)) cont H',
    WIter_tup hh hkt, ⟨by repeat first | assumption | with_reducible exact setL_same | (apply setL_ne; decide +kernel), hkt, b0, by repeat first | assumption | with_reducible exact setL_same | (apply setL_ne; decide +kernel), h⟩, fun i m' H' q => q.2.1, ?_, ?_⟩
  · intro i v m' H' hi hR hg91_6
    refine Mine.hideG fun GG back => ?_
    obtain ⟨ha, hk', cont, hcont, hG⟩ := hg91_6
    refine back ?_
    clear back
    rw [List.getElem?_map, Option.map_eq_some_iff] at hR
    refine Mine.hideG fun GG back => ?_
    obtain ⟨⟨y, t⟩, hy, rfl⟩ := hR
    refine back ?_
    clear back
    have hi' : i < keys.length := (List.getElem?_eq_some_iff.mp hy).1
    have hdrop : keys.drop i = (y, t) :: keys.drop (i + 1) := by
      rw [List.drop_eq_getElem_cons hi', (List.getElem?_eq_some_iff.mp hy).2]
    rw [hdrop, List.map_cons] at hG
    refine Mine.hideG fun GG back => ?_
    obtain ⟨kvs, ep, hc, hl, hG⟩ := hG.cons
    refine back ?_
    clear back
    refine WAs_Name (stor (by rfl)) ?_
    refine W_hide fun QL hQL => ?_
    refine W_cons' ?_
    refine W_cut (fun (fl : Flow) m1 H1 => fl = .next ∧ m1 = setL m' "k" (.str y t) ∧ H1 kt = some (.tup (keys.map fun p => .str p.1 p.2)) ∧ ∃ kvs' ep' v, H1 cont = some (.dict kvs' ep') ∧ getK kvs' (.inr y) = some v ∧ GwV acc Q X ((keys.drop (i + 1)).map (·.1)) v H1) ?_ ?_
    · refine W_hide fun QR hQR => ?_
      refine W_If ?_
      refine WT_Compare ?_
      refine W_Name (by repeat first | assumption | with_reducible exact setL_same | (apply setL_ne; decide +kernel)) ?_
      refine W_Name (by repeat first | assumption | with_reducible exact setL_same | (apply setL_ne; decide +kernel)) ?_
      refine WCmp_notInDict hc (key := .inr y) isKVs ?_
      refine WTr_bool ?_
      rcases hG with ⟨hg, hG⟩ | ⟨v, hg, hG⟩
      · rw [hg, Option.isSome_none, Bool.not_false, if_pos rfl]
        refine W_cons' ?_
        refine W_AssignSub ?_
        refine W_Dict0 ?_
        intro d hd'
        refine W_Name (by repeat first | assumption | with_reducible exact setL_same | (apply setL_ne; decide +kernel)) ?_
        refine W_Name (by repeat first | assumption | with_reducible exact setL_same | (apply setL_ne; decide +kernel)) ?_
        refine WSet_dict (upd_fresh hd' hc) (key := .inr y) isKVs (Nat.le_of_lt hl) ?_
        refine contQ_next ?_
        refine W_nil ?_
        have hcd : cont ≠ d := fun q => by rw [q, hd'] at hc; cases hc
        have hck : kt ≠ cont := fun q => by rw [q, hc] at hk'; cases hk'
        rw [putK_new hg, epK, hg]
        refine hQR _ _ _ ⟨rfl, rfl, upd_ne hck (upd_fresh hd' hk'), _, _, .ref d, upd_same, ?_, ?_⟩
        · simp only [getK_append_new hg]
        · have hdd : upd (upd H' d (.dict [] 0)) cont (.dict (kvs ++ [(.inr y, .ref d)]) (ep + 1)) d = some (.dict [] 0) := upd_ne (Ne.symm hcd) upd_same
          refine ⟨?_, ?_, ?_⟩
          · rw [Option.isSome_none, if_neg (by simp), tyOf_d hdd]; exact Option.some_ne_none _
          · rintro a xs e1 e2
            cases e1
            rw [Option.isSome_none, if_neg (by simp)] at e2
            rw [hdd] at e2; cases e2
          · rw [Option.isSome_none, if_neg (by simp)]
            rw [lastOf_d hdd]
            refine ⟨by rw [tyOf_d hdd]; exact Option.some_ne_none _, ?_⟩
            rw [if_pos (isDict_ty.symm.trans (decide_eq_true (tyOf_d hdd)))]
            exact ⟨d, rfl, hG d hd'⟩
      · rw [hg, Option.isSome_some, Bool.not_true, if_neg Bool.false_ne_true]
        refine W_nil ?_
        exact hQR _ _ _ ⟨rfl, rfl, hk', kvs, ep, v, hc, hg, hG⟩
    · intro _ _ H1 hg137_3
      refine Mine.hideG fun GG back => ?_
      obtain ⟨rfl, rfl, hk1, kvs', ep', v, hc1, hg1, hty, hlen, hG1⟩ := hg137_3
      refine back ?_
      clear back
      refine contQ_next ?_
      refine W_cons' ?_
      refine W_Assign ?_ (stor (by rfl)) (by rfl)
      refine W_Subscript ?_
      refine W_Name (by repeat first | assumption | with_reducible exact setL_same | (apply setL_ne; decide +kernel)) ?_
      refine W_Name (by repeat first | assumption | with_reducible exact setL_same | (apply setL_ne; decide +kernel)) ?_
      refine WSub_dict hc1 (key := .inr y) isKVs hg1 ?_
      refine contQ_next ?_
      refine W_cons' ?_
      refine W_cut (fun (fl : Flow) m1 H2 => fl = .next ∧ H1 = H2 ∧ m1 "access_lists" = some (.bool acc) ∧ ∃ w, m1 "cont" = some w ∧ lastOf acc H1 v = some w) ?_ ?_
      · refine W_hide fun QR hQR => ?_
        refine W_If ?_
        refine WT_And ?_
        refine W_allTrue_and ?_
        refine WT_plain ?_
        refine W_Name (by repeat first | assumption | with_reducible exact setL_same | (apply setL_ne; decide +kernel)) ?_
        refine WTr_bool ?_
        cases acc with
        | false =>
          refine iteF ?_
          refine iteF ?_
          refine W_nil ?_
          refine hQR _ _ _ ⟨rfl, rfl, by repeat first | assumption | with_reducible exact setL_same | (apply setL_ne; decide +kernel), v, by repeat first | assumption | with_reducible exact setL_same | (apply setL_ne; decide +kernel), lastOf_f⟩
        | true =>
          refine iteT ?_
          refine W_allTrue_and ?_
          refine WT_plain ?_
          refine W_CallB (by assumption) (kindS (by rfl)) ?_
          refine WItems_cons ?_
          refine W_Name setL_same ?_
          refine WItems_cons ?_
          refine W_NameG gList (kindS (by rfl)) ?_
          refine WItems_nil ?_
          refine WCall_isi hty (T := "list") (by simp) ?_
          refine WTr_bool ?_
          by_cases hli : ∃ a xs, v = .ref a ∧ H1 a = some (.list xs)
          · obtain ⟨a, xs, rfl, e⟩ := hli
            have e1 : decide (tyOf H1 (.ref a) = some "list") = true := decide_eq_true (tyOf_l e)
            rw [e1]
            refine iteT ?_
            refine W_allTrue_nilA ?_
            refine iteT ?_
            refine W_cons' ?_
            refine W_Assign ?_ (stor (by rfl)) (by rfl)
            refine W_Subscript ?_
            refine W_Name (by repeat first | assumption | with_reducible exact setL_same | (apply setL_ne; decide +kernel)) ?_
            refine W_UnaryOp ?_
            refine W_int ?_
            refine WUn_neg ?_
            have hlast : lastOf true H1 (.ref a) = xs.getLast? := lastOf_l e
            have hxl := hlen a xs rfl e
            cases xs with
            | nil =>
              refine WSub_listOut hh here e (by decide) (by decide) (.inl (by simp)) ?_
              rw [hlast] at hG1
              rw [hX]; exact hG1
            | cons b r =>
              have hne : b :: r ≠ [] := by simp
              refine WSub_listNeg (v := (b :: r).getLast hne) e (by decide) (by decide) (by simp only [List.length_cons]; lia) ?_ ?_
              · rw [List.getLast_eq_getElem]
                have e3 : (-1 + ((b :: r).length : Int)).toNat = (b :: r).length - 1 := by simp only [List.length_cons]; lia
                rw [e3]
                exact List.getElem?_eq_getElem _
              · refine contQ_next ?_
                refine W_nil ?_
                exact hQR _ _ _ ⟨rfl, rfl, by repeat first | assumption | with_reducible exact setL_same | (apply setL_ne; decide +kernel), _, by repeat first | assumption | with_reducible exact setL_same | (apply setL_ne; decide +kernel), by rw [hlast, List.getLast?_eq_some_getLast hne]⟩
          · have e1 : decide (tyOf H1 v = some "list") = false ∧ lastOf true H1 v = some v := by
              rcases tyOf_cases hty with ⟨j, rfl⟩ | ⟨z, u, rfl⟩ | ⟨a, xs, rfl, e⟩ | ⟨a, xs, rfl, e⟩ | ⟨a, kvs2, ep2, rfl, e⟩
              · exact ⟨rfl, rfl⟩
              · exact ⟨rfl, rfl⟩
              · exact absurd ⟨a, xs, rfl, e⟩ hli
              · exact ⟨by rw [tyOf_t e]; exact decide_eq_false (by decide), lastOf_t e⟩
              · exact ⟨by rw [tyOf_d e]; exact decide_eq_false (by decide), lastOf_d e⟩
            rw [e1.1]
            refine iteF ?_
            refine iteF ?_
            refine W_nil ?_
            exact hQR _ _ _ ⟨rfl, rfl, by repeat first | assumption | with_reducible exact setL_same | (apply setL_ne; decide +kernel), _, by repeat first | assumption | with_reducible exact setL_same | (apply setL_ne; decide +kernel), e1.2⟩
      · intro _ m1 H2 hg229_3
        refine Mine.hideG fun GG back => ?_
        obtain ⟨rfl, rfl, ha1, w, hw, hlast⟩ := hg229_3
        refine back ?_
        clear back
        rw [hlast] at hG1
        refine Mine.hideG fun GG back => ?_
        obtain ⟨hwt, hG1⟩ := hG1
        refine back ?_
        clear back
        refine contQ_next ?_
        refine W_cons' ?_
        refine W_If ?_
        refine WT_Not ?_
        refine WT_plain ?_
        refine W_CallB (by assumption) (kindS (by rfl)) ?_
        refine WItems_cons ?_
        refine W_Name (by repeat first | assumption | with_reducible exact setL_same | (apply setL_ne; decide +kernel)) ?_
        refine WItems_cons ?_
        refine W_NameG (by assumption) (kindS (by rfl)) ?_
        refine WItems_nil ?_
        refine WCall_isi hwt (by simp) ?_
        refine WTr_bool ?_
        rw [isDict_ty]
        cases hD : isDict H1 w with
        | true =>
          rw [hD, if_pos rfl] at hG1
          refine Mine.hideG fun GG back => ?_
          obtain ⟨d, rfl, hG1⟩ := hG1
          refine back ?_
          clear back
          refine iteNT ?_
          refine W_nil ?_
          refine contQ_next ?_
          refine W_nil ?_
          refine hQL _ _ _ ?_
          refine loopQ_next ?_
          exact ⟨ha1, hk1, d, hw, hG1⟩
        | false =>
          rw [hD, if_neg Bool.false_ne_true] at hG1
          refine iteNF ?_
          refine W_cons' ?_
          refine W_RaiseCall excClass_KeyError hh here gKE (kindS (by rfl)) ?_
          refine WItems_cons ?_
          refine W_str fun t ht => ?_
          refine WItems_nil ⟨by simp [sizeLine], ?_⟩
          rw [hX]
          exact hG1 t
  · intro m' H' hg266_2
    refine Mine.hideG fun GG back => ?_
    obtain ⟨ha, hk', cont, hcont, hG⟩ := hg266_2
    refine back ?_
    clear back
    rw [List.length_map, List.drop_eq_nil_of_le (Nat.le_refl _)] at hG
    refine contQ_next ?_
    refine W_cons' ?_
    refine W_Return' ?_
    refine W_Name (by repeat first | assumption | with_reducible exact setL_same | (apply setL_ne; decide +kernel)) ?_
    intro uR huR
    refine contQ_ret ?_
    refine RQ_ret huR ?_
    exact ⟨cont, rfl, hG⟩
theorem L5.nest_call {c : Cx} {A : Around} {C fI fG fA x dx kt b0 : Addr} {keys : List (Str × Tok)} {H : AHeap} {Q : Addr → AHeap → Prop} {X : String → Option (List V) → AHeap → Prop} (G : Blt c) (N : NestAt c C fI fG fA L5.cls) (hA : Room A)
    (hx : H x = some (.inst C dx)) (hd : H dx = some (.attrs (.ref b0))) (hkt : H kt = some (.tup (keys.map fun p => .str p.1 p.2)))
    (h : Gw true Q X (keys.map (·.1)) b0 H) : FnV c A fG [.ref x, .ref kt] [] H (fun v H' => ∃ a, v = .ref a ∧ Q a H') X := fun rvs rkw e1 e2 => by
  refine Mine.hideG fun GG back => ?_
  obtain ⟨fd, F1, F2, F3, F4, d, mk, F5, F6, F7⟩ := N.get
  obtain ⟨u, w, rfl, e3, e4⟩ := map_er2 e1
  refine back ?_
  clear back
  have e2 : rkw = [] := by simpa using e2
  subst e2
  obtain rfl := er_ref e3
  obtain rfl := er_ref e4
  refine Fn.of_body F1 (Nat.lt_of_le_of_lt hA.depth (by decide)) (binds := [("self", .ref x), ("key", .ref kt), ("access_lists", .bool true)])
    (fun s hs => by cases fd; simp only at F3 F4 F5; subst F3; subst F4; subst F5; exact BindsTo.of_kw (F6.keeps hs) F7 rfl rfl) (by rw [F2]; rfl) fun k hk => ?_
  refine Mine.hideG fun GG back => ?_
  obtain ⟨rfl, h1, h2, h3, h4, h5, h6, h7, h8, h9⟩ := hk
  refine back ?_
  clear back
  refine L5.nest_body (acc := true) ⟨h1.trans F2, h2.trans (by rw [F2])⟩ G N.kls h8 h9 (h6.trans hA.handled) ?_ ?_ ?_ hx hd hkt h
  · rfl
  · rfl
  · rfl
theorem Gw.keep {acc : Bool} {Q : Addr → AHeap → Prop} {X : String → Option (List V) → AHeap → Prop} {b : Addr} {y : AObj} (nd : ∀ kvs ep, y ≠ .dict kvs ep) : ∀ (ks : List Str) (cont : Addr) (H : AHeap), H b = some y → Gw acc Q X ks cont H → Gw acc (fun a H' => Q a H' ∧ H' b = some y) X ks cont H
  | [], cont, H, hb, h => ⟨h, hb⟩
  | x :: r, cont, H, hb, h => by
    obtain ⟨kvs, ep, h1, h2, h3⟩ := h
    have hne : b ≠ cont := fun q => by rw [q, h1] at hb; cases hb; exact nd _ _ rfl
    refine ⟨kvs, ep, h1, h2, ?_⟩
    cases e : getK kvs (.inr x) with
    | none =>
      rw [e] at h3
      exact fun d hd => Gw.keep nd r d _ (upd_ne hne (upd_fresh hd hb)) (h3 d hd)
    | some v =>
      rw [e] at h3
      obtain ⟨h4, h5, h6⟩ := h3
      refine ⟨h4, h5, ?_⟩
      cases e2 : lastOf acc H v with
      | none => rw [e2] at h6; exact h6
      | some w =>
        rw [e2] at h6
        obtain ⟨h7, h8⟩ := h6
        refine ⟨h7, ?_⟩
        cases e3 : isDict H w with
        | false => rw [e3] at h8; exact h8
        | true =>
          rw [e3] at h8
          obtain ⟨d, rfl, h9⟩ := h8
          exact ⟨d, rfl, Gw.keep nd r d H hb h9⟩
theorem L5.append_call {c : Cx} {A : Around} {C fI fG fA x dx kt b0 : Addr} {keys : List (Str × Tok)} {H : AHeap} {Q : AHeap → Prop} {X : String → Option (List V) → AHeap → Prop} (G : Blt c) (N : NestAt c C fI fG fA L5.cls) (hA : Room A) (hA' : A.depth ≤ 599 ∧ A.units ≤ 1997)
    (hx : H x = some (.inst C dx)) (hd : H dx = some (.attrs (.ref b0))) (hkt : H kt = some (.tup (keys.map fun p => .str p.1 p.2))) (hkl : keys.length < 2 ^ 20)
    (h : ∀ H1, Ext H H1 → Ga Q X (keys.map (·.1)) b0 H1) : FnV c A fA [.ref x, .ref kt] [] H (fun v H' => v = .none ∧ Q H') X := by
  refine FnV.top N.app hA ["self", "key"] rfl (fun fd rvs h1 h2 h3 hl => ?_) (by rfl) fun k hk => ?_
  · obtain ⟨x, y, rfl⟩ := len2 hl
    cases fd; simp only at h1 h2 h3; subst h1; subst h2; subst h3; rfl
  obtain ⟨rfl, sv, hfr, hdep, hun, hhd, hX, hhere⟩ := hk
  show W k (execs (fnBody L5.mA) k.env) (setL (setL noLoc "self" (.ref x)) "key" (.ref kt)) H _
  have G0 := G
  obtain ⟨gLen, gIsi, gList, gDict, gRange, gKE, gType, gTuple, gEnum, imp, tree⟩ := G
  have hh : k.A.handled = none := hhd.trans hA.handled
  have hAk : Room k.A := ⟨by lia, by lia, hh⟩
  obtain ⟨fd, F1, F2⟩ := N.get
  refine W_cons' ?_
  refine W_Assign ?_ (stor (by rfl)) (by rfl)
  refine W_CallMeth N.mG F1 ?_
  refine W_Name (by repeat first | assumption | with_reducible exact setL_same | (apply setL_ne; decide +kernel)) ?_
  refine ⟨x, dx, _, rfl, hx, hd, ?_⟩
  refine WItems_cons ?_
  refine W_SubSlice ?_
  refine W_Name (by repeat first | assumption | with_reducible exact setL_same | (apply setL_ne; decide +kernel)) ?_
  refine WPart_none ?_
  refine WPart_some ?_
  refine W_UnaryOp ?_
  refine W_int ?_
  refine WUn_neg ?_
  refine ⟨_, rfl, kt, rfl, .inr ⟨_, hkt, by simp [sizeLine]; lia, fun kt2 H1 hE hkt2 => ?_⟩⟩
  refine WItems_nil ?_
  rw [sliceV_map, sliceV_dropLast'] at hkt2
  have hG := Gw.keep (b := kt) (fun _ _ => by simp) _ _ _ (hE kt _ hkt) (h H1 hE)
  refine FnV.mono (L5.nest_call (keys := keys.dropLast) G0 N hAk (hE x _ hx) (hE dx _ hd) hkt2 (by rw [List.map_dropLast]; exact hG)) ?_ (fun a b H' q => by rw [hX]; exact q)
  rintro _ H2 ⟨a, rfl, hend, hkt2⟩
  refine contQ_next ?_
  refine W_cons' ?_
  refine W_Assign ?_ (stor (by rfl)) (by rfl)
  refine W_Subscript ?_
  refine W_Name (by repeat first | assumption | with_reducible exact setL_same | (apply setL_ne; decide +kernel)) ?_
  refine W_UnaryOp ?_
  refine W_int ?_
  refine WUn_neg ?_
  have hnil : keys = [] ∨ ∃ z, keys.getLast? = some z ∧ seqIndex? (-1) (keys.map fun p => V.str p.1 p.2).length = some (keys.length - 1) ∧ (keys.map fun p => V.str p.1 p.2)[keys.length - 1]? = some (.str z.1 z.2) := by
    rcases List.eq_nil_or_concat keys with rfl | ⟨r, z, rfl⟩
    · exact .inl rfl
    · refine .inr ⟨z, by simp, ?_, by simp⟩
      simp only [List.length_map, seqIndex?, List.concat_eq_append, List.length_append, List.length_singleton]
      rw [if_pos (show (-1 : Int) < 0 by decide), if_pos (by simp; lia)]
      congr 1
      lia
  rcases hnil with rfl | ⟨⟨z, t⟩, hz, hj, hv⟩
  · refine WSub_tupOut hh hhere hkt2 (by decide) (by decide) (by rfl) ?_
    rw [hX]; exact hend
  refine WSub_tup hkt2 (by decide) (by decide) hj hv ?_
  have hz' : (keys.map (·.1)).getLast? = some z := by rw [List.getLast?_map, hz]; rfl
  rw [hz'] at hend
  obtain ⟨kvs, ep, hc, hl, hend⟩ := hend
  refine contQ_next ?_
  refine W_cons' ?_
  refine W_If ?_
  refine WT_Compare ?_
  refine W_Name (by repeat first | assumption | with_reducible exact setL_same | (apply setL_ne; decide +kernel)) ?_
  refine W_Name (by repeat first | assumption | with_reducible exact setL_same | (apply setL_ne; decide +kernel)) ?_
  refine WCmp_inDict hc (key := .inr z) isKVs ?_
  refine WTr_bool ?_
  cases hg : getK kvs (.inr z) with
  | none =>
    rw [hg] at hend
    rw [Option.isSome_none]
    refine iteF ?_
    refine W_cons' ?_
    refine W_AssignSub ?_
    refine W_List ?_
    refine WItems_cons ?_
    refine W_Dict0 ?_
    intro d hd'
    refine WItems_nil ?_
    refine ⟨by simp [sizeLine], fun l hl' => ?_⟩
    refine W_Name (by repeat first | assumption | with_reducible exact setL_same | (apply setL_ne; decide +kernel)) ?_
    refine W_Name (by repeat first | assumption | with_reducible exact setL_same | (apply setL_ne; decide +kernel)) ?_
    have hdl : d ≠ l := fun q => by rw [q, upd_same] at hl'; cases hl'
    have hl2 : H2 l = none := by
      unfold upd at hl'
      rw [if_neg (Ne.symm hdl)] at hl'; exact hl'
    refine WSet_dict (upd_fresh hl' (upd_fresh hd' hc)) (key := .inr z) isKVs (Nat.le_of_lt hl) ?_
    rw [putK_new hg, epK, hg, Option.isSome_none, if_neg (by simp)]
    refine contQ_next ?_
    refine W_nil ?_
    refine contQ_next ?_
    refine W_nil ?_
    exact RQ_next ⟨rfl, hend d l hd' hl2 hdl⟩
  | some v =>
    rw [hg] at hend
    rw [Option.isSome_some]
    refine iteT ?_
    refine W_cons' ?_
    refine W_Assign ?_ (stor (by rfl)) (by rfl)
    refine W_Subscript ?_
    refine W_Name (by repeat first | assumption | with_reducible exact setL_same | (apply setL_ne; decide +kernel)) ?_
    refine W_Name (by repeat first | assumption | with_reducible exact setL_same | (apply setL_ne; decide +kernel)) ?_
    refine WSub_dict hc (key := .inr z) isKVs hg ?_
    refine contQ_next ?_
    refine W_cons' ?_
    refine W_If ?_
    refine WT_Not ?_
    refine WT_plain ?_
    refine W_CallB gIsi (kindS (by rfl)) ?_
    refine WItems_cons ?_
    refine W_Name setL_same ?_
    refine WItems_cons ?_
    refine W_NameG gList (kindS (by rfl)) ?_
    refine WItems_nil ?_
    obtain ⟨hty, hend⟩ := hend
    refine WCall_isi hty (T := "list") (by simp) ?_
    refine WTr_bool ?_
    rcases hend with ⟨b, xs, rfl, hb, hxs, hend⟩ | ⟨hno, hend⟩
    · have e1 : decide (tyOf H2 (.ref b) = some "list") = true := decide_eq_true (tyOf_l hb)
      rw [e1]
      refine iteNT ?_
      refine W_nil ?_
      refine contQ_next ?_
      refine W_cons' ?_
      refine W_ExprStmt ?_
      refine W_CallM' PySem.F.plainAttrs_list PySem.F.slot_list_append PySem.F.type_list_append ?_
      refine W_Name (by repeat first | assumption | with_reducible exact setL_same | (apply setL_ne; decide +kernel)) ?_
      refine ⟨onList hb, ?_⟩
      refine WItems_cons ?_
      refine W_Dict0 ?_
      intro d hd'
      refine WItems_nil ?_
      refine WCall_append (upd_fresh hd' hb) hxs ?_
      refine contQ_next ?_
      refine W_nil ?_
      refine contQ_next ?_
      refine W_nil ?_
      exact RQ_next ⟨rfl, hend d hd'⟩
    · have e1 : decide (tyOf H2 v = some "list") = false := by simpa using hno
      rw [e1]
      refine iteNF ?_
      refine W_cons' ?_
      refine W_RaiseCall excClass_KeyError hh hhere gKE (kindS (by rfl)) ?_
      refine WItems_cons ?_
      refine W_str fun t ht => ?_
      refine WItems_nil ⟨by simp [sizeLine], ?_⟩
      rw [hX]
      exact hend t
end
section
noncomputable abbrev L5.fMe : Stmt := stm L5.stmsC 7
noncomputable def whTest : Stmt → Expr
  | .While t _ _ _ => t
  | _ => .Constant .none 0 default
noncomputable abbrev L5.whM : Stmt := stm (fnBody L5.fMe) 2
noncomputable abbrev L5.forM : Stmt := stm (fnBody L5.whM) 2
theorem strsV_app (ps qs : List (Str × Tok)) : strsV (ps ++ qs) = strsV ps ++ strsV qs := List.map_append
theorem strsV_len (ps : List (Str × Tok)) : (strsV ps).length = ps.length := List.length_map _
theorem TxtsAt.push {H : AHeap} {cA : Addr} {ps : List (Str × Tok)} {x : Str} {t : Tok} : TxtsAt (upd H cA (.list (strsV ps ++ [.str x t]))) cA (ps.map (·.1) ++ [x]) :=
  ⟨ps ++ [(x, t)], by rw [strsV_app]; exact upd_same, by rw [List.map_append]; rfl⟩
theorem PairsAt.one {H : AHeap} {τ : Addr} {e : V × V} (h : H τ = some (.tup [e.1, e.2])) : PairsAt H [.ref τ] [e] := ⟨⟨τ, rfl, h⟩, trivial⟩
theorem tgt_snoc {α : Type} {e : α} {r : List (T α)} {l : T α} : tgt (.lst e (r ++ [l])) = match l with | .tab a ks => some (.tab a ks) | _ => none := by
  have h : (r ++ [l]).getLast? = some l := by simp
  simp only [tgt, h]
  cases l <;> rfl
theorem L5.name_ok {k : Wk} {wA cA lA : Addr} {L d a c : Nat} {ks js : List (Str × T Nat)} {vs : List V} {es : List (V × V)} {msgs : List Str} {H0 H : AHeap} {i : Nat} {m : Loc} {p : Str × T Nat} {t : Tok} {Q : Flow → Loc → AHeap → Prop} {B : List Stmt} [sv : SEnv k (fnScope L5.fMe) (cellNames (fnScope L5.fMe).names)]
    (hB : B = fnBody L5.forM) (G : Blt k.c) (hh : k.A.handled = none) (C : LvC wA cA lA L d a c ks js vs msgs H0) (S : LvS wA cA lA a c ks js vs es msgs H0 i m H) (hp : js[i]? = some p) (hm : m "name" = some (.str p.1 t))
    (h : ∀ m' H', LvS wA cA lA a c ks js vs es msgs H0 (i + 1) m' H' → Q .next m' H') : W k (execs B k.env) m H Q := by
  subst hB
  have hz : sizeLine = _ := sizeLine_eq
  obtain ⟨n, tr⟩ := p
  have ry := S.ry C
  obtain ⟨epx, hx⟩ := S.hx
  obtain ⟨epy, hy⟩ := ry.1
  have hky : getK (kvOf js) (.inr n) = some (vOf tr) := by rw [kv_get, kidAt_mem C.nd hp]; rfl
  have hkx : getK (kvOf ((js.take i).foldl lv1 ks)) (.inr n) = (kidAt ks n).map vOf := by rw [kv_get, C.kid hp]
  have rt : Rep H tr := RepK.mem ry.2 hp
  have hrx : ∀ x, kidAt ks n = some x → Rep H x := fun x e => S.rz.2.kid ((C.kid hp).trans e)
  have hszK : (kvOf ((js.take i).foldl lv1 ks)).length ≤ sizeLine := by
    unfold kvOf
    rw [List.length_map]
    have h1 := sz_len ((js.take i).foldl lv1 ks)
    have h2 := C.wz i szw
    have h3 := wtK_mem (w := szw) hp
    have h4 := C.sx
    have e1 : wt szw (.tab a ks) = 1 + wtK szw ks := rfl
    have e2 : wt szw (.tab c js) = 1 + wtK szw js := rfl
    have := C.lL
    lia
  have kp : ∀ {y : Str} {v : V}, y ≠ "work" → y ≠ "clashes" → y ≠ "later" → y ≠ "x" → y ≠ "y" → (setL m y v) "work" = m "work" ∧ (setL m y v) "clashes" = m "clashes" ∧ (setL m y v) "later" = m "later" ∧ (setL m y v) "x" = m "x" ∧ (setL m y v) "y" = m "y" :=
    fun h1 h2 h3 h4 h5 => ⟨setL_off (Ne.symm h1), setL_off (Ne.symm h2), setL_off (Ne.symm h3), setL_off (Ne.symm h4), setL_off (Ne.symm h5)⟩
  have same : m "work" = m "work" ∧ m "clashes" = m "clashes" ∧ m "later" = m "later" ∧ m "x" = m "x" ∧ m "y" = m "y" := ⟨rfl, rfl, rfl, rfl, rfl⟩
  have vw := S.mw
  have vc := S.mc
  have vl := S.ml
  have vx := S.mx
  have vy := S.my
  refine W_cons' ?_
  refine W_If ?_
  refine WT_Or ?_
  refine W_allTrue_or ?_
  refine WT_Compare ?_
  refine W_Name hm ?_
  refine W_Name vx ?_
  refine WCmp_notInDict hx (key := .inr n) isKVs ?_
  refine WTr_bool ?_
  rw [hkx]
  -- what happens where the name is put
  have putc : (kidAt ks n = none ∨ n = Str.ofString "at") → W k (execs (fnBody (stm (fnBody L5.forM) 0)) k.env) m H (contQ k [] Q) := fun hc => by
    refine W_cons' ?_
    refine W_AssignSub ?_
    refine W_SubNN vy hm hy hky ?_
    refine W_Name vx ?_
    refine W_Name hm ?_
    refine WSet_dict hx (key := .inr n) isKVs hszK ?_
    refine contQ_next ?_
    refine W_nil ?_
    refine contQ_next ?_
    refine W_nil ?_
    exact h _ _ (S.put C hp hc same)
  cases hk : kidAt ks n with
  | none =>
    refine iteT ?_
    exact iteT (putc (.inl hk))
  | some x =>
    refine iteF ?_
    refine W_allTrue_or ?_
    refine WT_Compare ?_
    refine W_Name hm ?_
    refine W_str fun t1 _ => ?_
    refine WCmp_eqS ?_
    refine WTr_bool ?_
    refine ite_dec (fun hat => ?_) (fun hat => ?_)
    · exact iteT (putc (.inr hat))
    refine W_allTrue_nilO ?_
    refine iteF ?_
    rw [hk] at hkx
    have hkx : getK (kvOf ((js.take i).foldl lv1 ks)) (.inr n) = some (vOf x) := hkx
    have rx := hrx x hk
    obtain ⟨hty, hti⟩ := rt.ty
    obtain ⟨hxy, hxi⟩ := rx.ty
    obtain ⟨ps, hcs, hmsg⟩ := S.cs
    obtain ⟨ls, hls, hpr⟩ := S.hl
    have hyk := C.yok.2 _ (List.mem_of_getElem? hp)
    have hty' := hyk.2 hat
    simp only at hty'
    have hlm : (strsV ps).length ≤ sizeLine := by
      rw [strsV_len, ← List.length_map (f := (·.1)), hmsg, List.length_append]
      have h2 := flat2_len (f := fun p => lev (kidAt ks p.1) p.1 p.2) (g := fun p => dpr (cl d) (M d) (kidAt ks p.1) p.1 p.2) (fun p => lev_dpr_len (cl_len d)) (js.take i)
      have h3 := wtK_mem (w := szw) hp
      have h4 := C.lm
      have e2 : wt szw (.tab c js) = 1 + wtK szw js := rfl
      have := C.lL
      have e5 : (levs ks (js.take i)).length = ((js.take i).flatMap fun p => lev (kidAt ks p.1) p.1 p.2).length := rfl
      lia
    have hll : ls.length + wt szw tr ≤ sizeLine := by
      rw [hpr.len, List.length_map]
      have h1 := sz_lenL ((prss ks (js.take i)).map (·.2))
      rw [List.length_map] at h1
      have h2 := C.wz i szw
      unfold pwt at h2
      have h3 := wtK_mem (w := szw) hp
      have h4 := C.sx
      have e1 : wt szw (.tab a ks) = 1 + wtK szw ks := rfl
      have e2 : wt szw (.tab c js) = 1 + wtK szw js := rfl
      have : wt szw tr ≤ wk szw n tr := Nat.le_add_right _ _
      have := C.lL
      simp only at h3
      lia
    have wcl := C.lc
    refine W_cons' ?_
    refine W_If ?_
    refine WT_typeIs G.type G.list rfl rfl rfl ?_
    refine W_SubNN vy hm hy hky ?_
    refine ⟨_, hty, hti, ?_⟩
    rcases hty' with ⟨b, ts, rfl, hts⟩ | ⟨b, kb, rfl, hkb⟩
    · -- a list comes
      refine iteT ?_
      refine W_cons' ?_
      refine W_If ?_
      refine WT_typeIs G.type G.list rfl rfl rfl ?_
      refine W_SubNN vx hm hx hkx ?_
      refine ⟨_, hxy, hxi, ?_⟩
      refine ite_dec (fun hxl => ?_) (fun hxl => ?_)
      · obtain ⟨e, xs, rfl⟩ : ∃ e xs, x = .lst e xs := by cases x <;> simp [tyT] at hxl; exact ⟨_, _, rfl⟩
        refine W_cons' ?_
        refine W_ExprStmt ?_
        refine W_CallM' PySem.F.plainAttrs_list PySem.F.slot_list_extend PySem.F.type_list_extend ?_
        refine W_SubNN vx hm hx hkx ?_
        refine ⟨onList rx.1, ?_⟩
        refine WItems_cons ?_
        refine W_SubNN vy hm hy hky ?_
        refine WItems_nil ?_
        refine WCall_extend rx.1 rt.1 ?_ ?_
        · have h1 := wtK_kid (w := szw) hk
          have h2 := wtK_mem (w := szw) hp
          have h3 := sz_lenL xs
          have h4 := sz_lenL ts
          have h5 := C.sx
          have e1 : wt szw (.tab a ks) = 1 + wtK szw ks := rfl
          have e2 : wt szw (.tab c js) = 1 + wtK szw js := rfl
          have e3 : wk szw n (.lst e xs) = 1 + szw.emp xs + wtL szw xs + szw.bad n (.lst e xs) := rfl
          have e4 : wk szw n (.lst b ts) = 1 + szw.emp ts + wtL szw ts + szw.bad n (.lst b ts) := rfl
          have := C.lL
          simp only [List.length_map] at h2 ⊢
          lia
        refine contQ_next ?_
        refine W_nil ?_
        refine contQ_next ?_
        refine W_nil ?_
        refine contQ_next ?_
        refine W_nil ?_
        refine contQ_next ?_
        refine W_nil ?_
        exact h _ _ (S.ext C hp hat hk rfl same)
      · -- a clash
        have hlv : lvl (kidAt ks n) n (.lst b ts) = x := by
          unfold lvl; rw [if_neg hat, hk]
          cases x <;> first | rfl | exact absurd rfl hxl
        have hle : lev (kidAt ks n) n (.lst b ts) = [listMsg] := by
          unfold lev; rw [if_neg hat, hk]
          cases x <;> first | rfl | exact absurd rfl hxl
        refine W_cons' ?_
        refine W_ExprStmt ?_
        refine W_CallM' PySem.F.plainAttrs_list PySem.F.slot_list_append PySem.F.type_list_append ?_
        refine W_Name vc ?_
        refine ⟨onList hcs, ?_⟩
        refine WItems_cons ?_
        refine W_str fun t2 _ => ?_
        refine WItems_nil ?_
        refine WCall_append hcs hlm ?_
        refine contQ_next ?_
        have hcl : TxtsAt (upd H cA (.list (strsV ps ++ [.str "An object other than list found behind this key" t2]))) cA (msgs ++ levs ks (js.take i) ++ lev (kidAt ks n) n (.lst b ts)) := by
          rw [hle, ← hmsg]; exact TxtsAt.push
        have tk1 : TupKeep H (upd H cA (.list (strsV ps ++ [.str "An object other than list found behind this key" t2]))) := TupKeep.updL hcs
        have fr1 : FrB H (upd H cA (.list (strsV ps ++ [.str "An object other than list found behind this key" t2]))) (fun b => b = cA ∨ b = lA) := FrB.upd1 (.inl rfl)
        have hls1 : upd H cA (.list (strsV ps ++ [.str "An object other than list found behind this key" t2])) lA = some (.list ls) := upd_ne C.lc hls
        have noA : ∀ b, wt (cw b) (.tab a ((js.take i).foldl lv1 ks)) ≠ 0 → b ≠ cA := fun b hb q => by
          have h1 := C.wz i (cw b)
          have h2 := wtK_mem (w := cw b) hp
          have := C.z b (.inr (.inl q))
          rw [cnt_tab, cnt_tab] at this
          rw [cnt_tab] at hb
          lia
        have noY : ∀ b, wt (cw b) (.tab c js) ≠ 0 → b ≠ cA := fun b hb q => by
          have := C.z b (.inr (.inl q)); lia
        have rz1 : Rep (upd H cA (.list (strsV ps ++ [.str "An object other than list found behind this key" t2]))) (.tab a ((js.take i).foldl lv1 ks)) := S.rz.frame _ fun b hb => by unfold upd; rw [if_neg (noA b hb)]
        have ry1 : Rep (upd H cA (.list (strsV ps ++ [.str "An object other than list found behind this key" t2]))) (.tab c js) := ry.frame _ fun b hb => by unfold upd; rw [if_neg (noY b hb)]
        generalize upd H cA (.list (strsV ps ++ [.str "An object other than list found behind this key" t2])) = H1 at hcl tk1 fr1 hls1 rz1 ry1 ⊢
        obtain ⟨ep1, hx1⟩ := rz1.1
        obtain ⟨ep2, hy1⟩ := ry1.1
        have rx1 : Rep H1 x := rz1.2.kid ((C.kid hp).trans hk)
        have rt1 : Rep H1 (.lst b ts) := RepK.mem ry1.2 hp
        obtain ⟨hxy1, _⟩ := rx1.ty
        refine W_cons' ?_
        refine W_If ?_
        refine WT_typeIs G.type G.dict rfl rfl rfl ?_
        refine W_SubNN vx hm hx1 hkx ?_
        refine ⟨_, hxy1, hxi, ?_⟩
        refine ite_dec (fun hxd => ?_) (fun hxd => ?_)
        · obtain ⟨e, xk, rfl⟩ : ∃ e xk, x = .tab e xk := by cases x <;> simp [tyT] at hxd; exact ⟨_, _, rfl⟩
          have hpp : prs (kidAt ks n) n (.lst b ts) = ts.map fun u => (.tab e xk, u) := by unfold prs; rw [if_neg hat, hk]
          refine W_cons' ?_
          refine W_ExprStmt ?_
          refine W_CallM' PySem.F.plainAttrs_list PySem.F.slot_list_extend PySem.F.type_list_extend ?_
          refine W_Name vl ?_
          refine ⟨onList hls1, ?_⟩
          refine WItems_cons ?_
          refine W_ListComp ?s0 ?s1 ?s2 ?_
          case s0 => rfl
          case s1 => rfl
          case s2 => rfl
          refine W_SubNN vy hm hy1 hky ?_
          refine ⟨_, _, _, fun j acc H4 => Ext H1 H4 ∧ PairsAt H4 acc ((ts.take j).map fun u => (V.ref e, vOf u)), WIter_list hh rt1.1, ⟨Ext.refl _, trivial⟩, fun j acc H2 hI => hI.1 _ _ rt1.1, ?_, ?_, ?_⟩
          · rw [List.length_map]
            have := sz_lenL ts
            have e4 : wt szw (.lst b ts) = 1 + szw.emp ts + wtL szw ts := rfl
            lia
          · intro kc hkc j v acc mc H4 hj hv hI hcap hxn
            haveI := hkc.senv (sc := fnScope L5.fMe) (cn := cellNames (fnScope L5.fMe).names)
            obtain ⟨hE, hP⟩ := hI
            refine W_tests_nil ⟨rfl, ?_⟩
            rw [if_pos rfl]
            refine W_Tuple ?_
            refine WItems_cons ?_
            refine W_SubNN (hcap.get vx rfl) (hcap.get hm rfl) (hE _ _ hx1) hkx ?_
            refine WItems_cons ?_
            refine W_Name hxn ?_
            refine WItems_nil ⟨lz rfl, fun τ hτ => ⟨rfl, hE.trans (Ext.upd hτ), ?_⟩⟩
            obtain ⟨u, hu, rfl⟩ : ∃ u, ts[j]? = some u ∧ vOf u = v := by
              rw [List.getElem?_map, Option.map_eq_some_iff] at hv
              exact hv
            rw [take_succ hu, List.map_append]
            exact PairsAt.app (PairsAt.one (e := (V.ref e, vOf u)) upd_same) (hP.keep (TupKeep.of_ext (Ext.upd hτ)))
          · intro D acc H4 hal hI hD
            obtain ⟨hE, hP⟩ := hI
            rw [List.length_map, List.take_of_length_le (Nat.le_refl _)] at hP
            have hlD : lA ≠ D := fun q => by rw [← q, hE _ _ hls1] at hD; cases hD
            refine WItems_nil ?_
            refine WCall_extend (upd_ne hlD (hE _ _ hls1)) upd_same ?_ ?_
            · have := hP.len
              rw [this, List.length_map]
              have := sz_lenL ts
              have e4 : wt szw (.lst b ts) = 1 + szw.emp ts + wtL szw ts := rfl
              lia
            refine contQ_next ?_
            refine W_nil ?_
            refine contQ_next ?_
            refine W_nil ?_
            refine contQ_next ?_
            refine W_nil ?_
            refine contQ_next ?_
            refine W_nil ?_
            refine contQ_next ?_
            refine W_nil ?_
            have E2 : Ext H1 (upd H4 D (.list acc)) := hE.trans (Ext.upd hD)
            have tk2 : TupKeep H1 (upd (upd H4 D (.list acc)) lA (.list (ls ++ acc))) := (TupKeep.of_ext E2).trans (TupKeep.updL (E2 _ _ hls1))
            refine h _ _ (S.note C hp hk hlv same (tk1.trans tk2) (fr1.trans ((FrB.of_ext E2).trans (FrB.upd1 (.inr rfl)))) ?_ ⟨_, upd_same, ?_⟩)
            · obtain ⟨ps1, q1, q2⟩ := hcl
              exact ⟨ps1, upd_ne (Ne.symm C.lc) (E2 _ _ q1), q2⟩
            · rw [hpp, List.map_map]
              exact PairsAt.app (hP.keep ((TupKeep.of_ext (Ext.upd hD)).trans (TupKeep.updL (E2 _ _ hls1)))) (hpr.keep (tk1.trans tk2))
        · refine W_nil ?_
          refine contQ_next ?_
          refine W_nil ?_
          refine contQ_next ?_
          refine W_nil ?_
          refine contQ_next ?_
          refine W_nil ?_
          refine contQ_next ?_
          refine W_nil ?_
          have hpp : prs (kidAt ks n) n (.lst b ts) = [] := by
            unfold prs; rw [if_neg hat, hk]
            cases x <;> first | rfl | exact absurd rfl hxd
          refine h _ _ (S.note C hp hk hlv same tk1 fr1 hcl ⟨ls, hls1, ?_⟩)
          rw [hpp, List.map_nil, List.append_nil]
          exact hpr.keep tk1
    · -- a table comes
      refine iteF ?_
      have hlv : lvl (kidAt ks n) n (.tab b kb) = x := by unfold lvl; rw [if_neg hat, hk]
      refine W_cons' ?_
      refine W_cut (fun (fl : Flow) m1 H1 => fl = .next ∧ H1 = H ∧ ∃ v, m1 = setL m "into" v ∧ tyOf H v ≠ none ∧ ((∃ e xk, tgt x = some (.tab e xk) ∧ v = .ref e ∧ tyOf H v = some "dict") ∨ (tgt x = none ∧ tyOf H v ≠ some "dict"))) ?_ ?_
      · refine W_Assign ?_ ?s0 ?s1
        case s0 => exact stor rfl
        case s1 => exact swaps_IfExp
        refine W_IfExp ?_
        refine WT_typeIs G.type G.list rfl rfl rfl ?_
        refine W_SubNN vx hm hx hkx ?_
        refine ⟨_, hxy, hxi, ?_⟩
        refine ite_dec (fun hxl => ?_) (fun hxl => ?_)
        · obtain ⟨e, xs, rfl⟩ : ∃ e xs, x = .lst e xs := by cases x <;> simp [tyT] at hxl; exact ⟨_, _, rfl⟩
          refine W_Subscript ?_
          refine W_SubNN vx hm hx hkx ?_
          refine W_UnaryOp ?_
          refine W_int ?_
          refine WUn_neg ?_
          cases hlast : xs.getLast? with
          | none =>
            have : xs = [] := List.getLast?_eq_none_iff.mp hlast
            subst this
            have h1 := wtK_kid (w := emw) hk
            have e1 : wk emw n (.lst e []) = 0 + 1 + 0 + emw.bad n (.lst e ([] : List (T Nat))) := rfl
            have e2 : wt emw (.tab a ks) = 0 + wtK emw ks := rfl
            have := C.em
            lia
          | some l =>
            obtain ⟨r, rfl⟩ := getLast_snoc hlast
            have hlen : ((r ++ [l]).map vOf).length = r.length + 1 := by simp
            have rl : Rep H l := (RepL.append.mp rx.2).2.1
            obtain ⟨hl1, hl2⟩ := rl.ty
            refine WSub_listNeg (v := vOf l) rx.1 (by decide) (by decide) (by rw [hlen]; lia) ?_ ?_
            · rw [hlen]
              have e3 : (-1 + ((r.length + 1 : Nat) : Int)).toNat = r.length := by lia
              rw [e3, List.map_append, List.getElem?_append_right (by simp)]
              simp
            · refine ⟨rfl, rfl, _, rfl, tyOf_ne hl1, ?_⟩
              have et := tgt_snoc (e := e) (r := r) (l := l)
              cases l with
              | tab z zk => exact .inl ⟨z, zk, et, rfl, hl1⟩
              | lst z zk => exact .inr ⟨et, notDict hl1 rfl⟩
              | int z => exact .inr ⟨et, notDict hl1 rfl⟩
              | txt z => exact .inr ⟨et, notDict hl1 rfl⟩
        · refine W_SubNN vx hm hx hkx ?_
          refine ⟨rfl, rfl, _, rfl, tyOf_ne hxy, ?_⟩
          cases x with
          | tab z zk => exact .inl ⟨z, zk, rfl, rfl, hxy⟩
          | lst z zk => exact absurd rfl hxl
          | int z => exact .inr ⟨rfl, notDict hxy rfl⟩
          | txt z => exact .inr ⟨rfl, notDict hxy rfl⟩
      · intro fl m1 H1 hq
        obtain ⟨rfl, rfl, v, rfl, hvt, hcase⟩ := hq
        refine contQ_next ?_
        have same' := kp (y := "into") (v := v) (by decide) (by decide) (by decide) (by decide) (by decide)
        refine W_cons' ?_
        refine W_If ?_
        obtain ⟨Tv, hTv, hTi⟩ := tyOf_is hvt
        refine WT_typeIs G.type G.dict rfl rfl rfl ?_
        refine W_Name setL_same ?_
        refine ⟨Tv, hTv, hTi, ?_⟩
        rcases hcase with ⟨e, xk, htg, rfl, hvd⟩ | ⟨htg, hvd⟩
        · have : Tv = "dict" := by rw [hTv] at hvd; exact Option.some.inj hvd
          subst this
          refine iteT ?_
          have hpp : prs (kidAt ks n) n (.tab b kb) = [(.tab e xk, .tab b kb)] := by
            unfold prs; rw [if_neg hat, hk]; simp only [htg]
          have hle : lev (kidAt ks n) n (.tab b kb) = [] := by
            unfold lev; rw [if_neg hat, hk]; simp only [htg]
          refine W_cons' ?_
          refine W_ExprStmt ?_
          refine W_CallM' PySem.F.plainAttrs_list PySem.F.slot_list_append PySem.F.type_list_append ?_
          refine W_Name (same'.2.2.1.trans vl) ?_
          refine ⟨onList hls, ?_⟩
          refine WItems_cons ?_
          refine W_Tuple ?_
          refine WItems_cons ?_
          refine W_Name setL_same ?_
          refine WItems_cons ?_
          refine W_SubNN (same'.2.2.2.2.trans vy) (by rw [setL_off (by decide)]; exact hm) hy hky ?_
          refine WItems_nil ⟨lz rfl, fun τ hτ => ?_⟩
          refine WItems_nil ?_
          refine WCall_append (upd_fresh hτ hls) (by lia) ?_
          refine contQ_next ?_
          refine W_nil ?_
          refine contQ_next ?_
          refine W_nil ?_
          refine contQ_next ?_
          refine W_nil ?_
          refine contQ_next ?_
          refine W_nil ?_
          have hlτ : τ ≠ lA := fun q => by rw [q, hls] at hτ; cases hτ
          have tk2 : TupKeep H1 (upd (upd H1 τ (.tup [.ref e, vOf (.tab b kb)])) lA (.list (ls ++ [.ref τ]))) := (TupKeep.of_ext (Ext.upd hτ)).trans (TupKeep.updL (upd_fresh hτ hls))
          refine h _ _ (S.note C hp hk hlv same' tk2 ((FrB.of_ext (Ext.upd hτ)).trans (FrB.upd1 (.inr rfl))) ?_ ⟨_, upd_same, ?_⟩)
          · rw [hle, List.append_nil]
            exact ⟨ps, upd_ne (Ne.symm C.lc) (upd_fresh hτ hcs), hmsg⟩
          · rw [hpp]
            exact PairsAt.app (PairsAt.one (e := pV (.tab e xk, .tab b kb)) (upd_ne hlτ upd_same)) (hpr.keep tk2)
        · have : Tv ≠ "dict" := fun q => hvd (by rw [hTv, q])
          rw [decide_eq_false this]
          refine iteF ?_
          have hpp : prs (kidAt ks n) n (.tab b kb) = [] := by
            unfold prs; rw [if_neg hat, hk]; simp only [htg]
          have hle : lev (kidAt ks n) n (.tab b kb) = [nestMsg] := by
            unfold lev; rw [if_neg hat, hk]; simp only [htg]
          refine W_cons' ?_
          refine W_ExprStmt ?_
          refine W_CallM' PySem.F.plainAttrs_list PySem.F.slot_list_append PySem.F.type_list_append ?_
          refine W_Name (same'.2.1.trans vc) ?_
          refine ⟨onList hcs, ?_⟩
          refine WItems_cons ?_
          refine W_str fun t2 _ => ?_
          refine WItems_nil ?_
          refine WCall_append hcs hlm ?_
          refine contQ_next ?_
          refine W_nil ?_
          refine contQ_next ?_
          refine W_nil ?_
          refine contQ_next ?_
          refine W_nil ?_
          refine contQ_next ?_
          refine W_nil ?_
          refine h _ _ (S.note C hp hk hlv same' (TupKeep.updL hcs) (FrB.upd1 (.inl rfl)) ?_ ⟨ls, upd_ne C.lc hls, ?_⟩)
          · rw [hle, ← hmsg]; exact TxtsAt.push
          · rw [hpp, List.map_nil, List.append_nil]
            exact hpr.keep (TupKeep.updL hcs)
end
section
theorem levs_prss_len {ks : List (Str × T Nat)} : ∀ js : List (Str × T Nat), (levs ks js).length + wtL szw ((prss ks js).map (·.2)) ≤ wtK szw js
  | [] => Nat.le_refl _
  | (n, t) :: r => by
    have h1 := levs_prss_len (ks := ks) r
    have h2 := lev_prs_len (o := kidAt ks n) (n := n) (t := t)
    show (((n, t) :: r).flatMap fun p => lev (kidAt ks p.1) p.1 p.2).length + pwt szw (((n, t) :: r).flatMap fun p => prs (kidAt ks p.1) p.1 p.2) ≤ _
    rw [List.flatMap_cons, List.flatMap_cons, pw_app, List.length_append, wtK_cons]
    unfold wk
    have h3 : (r.flatMap fun p => lev (kidAt ks p.1) p.1 p.2).length + pwt szw (r.flatMap fun p => prs (kidAt ks p.1) p.1 p.2) ≤ wtK szw r := h1
    simp only
    lia
theorem level_rest {k : Wk} {test : Expr} {body : List Stmt} {Q : Flow → Loc → AHeap → Prop} {wA cA lA : Addr} {L d a c : Nat} {ks js : List (Str × T Nat)} {vs ls : List V} {es : List (V × V)} {msgs : List Str} {H0 H H2 : AHeap} {m : Loc} {N : Nat}
    (SO : StepOK k test body Q wA cA L d) (C : LvC wA cA lA L d a c ks js vs msgs H0) (S : LvS wA cA lA a c ks js vs es msgs H0 js.length m H) (hls : H lA = some (.list ls)) (hle : es.length + wt szw (.tab c js) ≤ L) (hE : Ext H H2)
    (h : ∀ m' H', MW wA cA es (msgs ++ cl (d + 1) (.tab a ks) (.tab c js)) m' H' → Rep H' (M (d + 1) (.tab a ks) (.tab c js)) → FrB H0 H' (fun b => b = lA ∨ MP wA cA b (wt (cw b) (.tab a ks) + wt (cw b) (.tab c js))) → Lp k test body Q N m' H') :
    Lp k test body Q (N + wtK szw js) m (upd H2 wA (.list (vs ++ ls.reverse))) := by
  have ry := S.ry C
  have hwz : ∀ w : Wt Nat, wtK w (js.foldl lv1 ks) + wtL w ((prss ks js).map (·.2)) ≤ wtK w ks + wtK w js := fun w => by
    have := C.wz js.length w
    rw [List.take_length] at this
    exact this
  have rz := S.rz
  have hcs := S.cs
  obtain ⟨ls', hl1, hl2⟩ := S.hl
  rw [hls] at hl1
  cases hl1
  rw [List.take_length] at rz hcs hl2
  have hx0 : ∀ w : Wt Nat, wt w (.tab a ks) = w.ft a + wtK w ks := fun _ => rfl
  have hy0 : ∀ w : Wt Nat, wt w (.tab c js) = w.ft c + wtK w js := fun _ => rfl
  have hu : ∀ b, b ≠ wA → upd H2 wA (.list (vs ++ ls.reverse)) b = H2 b := fun b hb => by unfold upd; rw [if_neg hb]
  have tk : TupKeep H (upd H2 wA (.list (vs ++ ls.reverse))) := (TupKeep.of_ext hE).trans (TupKeep.updL (hE _ _ S.hw))
  have z1 := C.z wA (.inl rfl)
  have z2 := C.z cA (.inr (.inl rfl))
  have z3 := C.z lA (.inr (.inr rfl))
  rw [hx0, hy0] at z1 z2 z3
  have fr2 : ∀ b, H b ≠ none → b ≠ wA → upd H2 wA (.list (vs ++ ls.reverse)) b = H b := fun b hb hw => by
    rw [hu b hw]
    cases e : H b with
    | none => exact absurd e hb
    | some x => exact hE b x e
  have hKl := flat2_len (f := fun p => lev (kidAt ks p.1) p.1 p.2) (g := fun p => dpr (cl d) (M d) (kidAt ks p.1) p.1 p.2) (fun p => lev_dpr_len (cl_len d)) js
  have e5 : (levs ks js).length = (js.flatMap fun p => lev (kidAt ks p.1) p.1 p.2).length := rfl
  have rpend : ∀ (js' : List (Str × T Nat)), (∀ p ∈ js', p ∈ js) → RepL H ((prss ks js').map (·.2)) := by
    intro js'
    induction js' with
    | nil => intro _; trivial
    | cons p r ih =>
      intro hs
      show RepL H (((p :: r).flatMap fun p => prs (kidAt ks p.1) p.1 p.2).map (·.2))
      rw [List.flatMap_cons, List.map_append, RepL.append]
      refine ⟨?_, ih fun q hq => hs q (List.mem_cons_of_mem _ hq)⟩
      obtain ⟨i, hi⟩ := List.getElem?_of_mem (hs p List.mem_cons_self)
      have rp : Rep H p.2 := RepK.mem ry.2 hi
      have one : RepL H [p.2] := ⟨rp, trivial⟩
      unfold prs
      split
      · trivial
      · split
        · trivial
        · rename_i x _
          split
          · rename_i b ts e
            rw [e] at rp
            split
            · rw [map_snd]; exact rp.2
            · trivial
          · split
            · exact one
            · trivial
  have hle2 : wtL szw ((prss ks js).map (·.2)) ≤ wtK szw js := by
    exact Nat.le_trans (Nat.le_add_left _ _) (levs_prss_len (ks := ks) js)
  refine Lp.le (Nat.add_le_add_left hle2 N) ?_
  have c1 := C.c1
  have csx := C.sx
  have cem := C.em
  have clm := C.lm
  simp only [hx0, hy0] at c1 csx cem clm hle
  have es0 : szw.ft c = 1 := rfl
  refine rest_step (ks0 := ks) SO js (js.foldl lv1 ks) es (msgs ++ levs ks js) m _ N C.nd (fun p hp => kid_lvs_at js ks C.nd p hp) (fun p hp => (C.yok.2 p hp).2) (RepK.frame _ rz.2 fun b hb => fr2 b (rz.2.live hb) ?_) (RepL.frame _ (rpend js fun _ h => h) fun b hb => fr2 b ((rpend js fun _ h => h).live hb) ?_) ⟨fun b => ?_, ?_, ?_, ?_, ?_, ?_, ?_⟩ ⟨S.mw, S.mc, ⟨_, upd_same, ?_⟩, ?_, C.wc⟩ fun m' H' mw' r' k' f' => ?_
  · rintro rfl; have := hwz (cw b); lia
  · have hb : wtL (cw b) ((prss ks js).map (·.2)) ≠ 0 := hb
    rintro rfl; have := hwz (cw b); lia
  · have := hwz (cw b); have := c1 b
    show wtK (cw b) (js.foldl lv1 ks) + wtL (cw b) ((prss ks js).map (·.2)) ≤ 1
    lia
  · have := hwz (cw wA)
    show wtK (cw wA) (js.foldl lv1 ks) + wtL (cw wA) ((prss ks js).map (·.2)) = 0
    lia
  · have := hwz (cw cA)
    show wtK (cw cA) (js.foldl lv1 ks) + wtL (cw cA) ((prss ks js).map (·.2)) = 0
    lia
  · have := hwz emw
    show wtK emw (js.foldl lv1 ks) + wtL emw ((prss ks js).map (·.2)) = 0
    lia
  · have := hwz szw
    show wtK szw (js.foldl lv1 ks) + wtL szw ((prss ks js).map (·.2)) ≤ L
    lia
  · show es.length + wtL szw ((prss ks js).map (·.2)) ≤ L
    lia
  · show (msgs ++ levs ks js).length + wtL szw ((prss ks js).map (·.2)) ≤ L
    rw [List.length_append]
    have hPl := levs_prss_len (ks := ks) js
    lia
  · exact PairsAt.app (hl2.rev.keep tk) (S.es.keep tk)
  · obtain ⟨ps, q1, q2⟩ := hcs
    exact ⟨ps, by rw [fr2 cA (nsome (q1)) (Ne.symm C.wc)]; exact q1, q2⟩
  · obtain ⟨epx, hx⟩ := rz.1
    have ha1 := c1 a
    have e1 : (cw a).ft a = 1 := hit_same
    have haw : a ≠ wA := fun q => by rw [← q] at z1; lia
    have hac : a ≠ cA := fun q => by rw [← q] at z2; lia
    have hH2a := fr2 a (nsome (hx)) haw
    have hHa := f' a (by rw [hH2a, hx]; simp) (by
      rintro (q | q | q)
      · exact haw q
      · exact hac q
      · have := hwz (cw a)
        have q : wtK (cw a) (js.foldl lv1 ks) + wtL (cw a) ((prss ks js).map (·.2)) ≠ 0 := q
        lia)
    refine h m' H' ?_ ?_ ?_
    · have : msgs ++ cl (d + 1) (.tab a ks) (.tab c js) = msgs ++ levs ks js ++ (js.flatMap fun p : Str × T Nat => dpr (cl d) (M d) (kidAt ks p.1) p.1 p.2) := (List.append_assoc _ _ _).symm
      rw [this]; exact mw'
    · rw [lvs_M (a := a) (c := c) C.nd] at r' k'
      refine ⟨⟨epx, ?_⟩, r'⟩
      rw [hHa, hH2a, hx, k']
    · refine FrB.trans (S.fr.mono fun b q => ?_) (FrB.trans (H1 := upd H2 wA (.list (vs ++ ls.reverse))) (fun b hb hq => fr2 b hb fun q => hq (.inr (.inl q))) (f'.mono fun b q => ?_))
      · rcases q with q | q | q | q
        · exact .inr (.inl q)
        · exact .inr (.inr (.inl q))
        · exact .inl q
        · refine .inr (.inr (.inr ?_)); lia
      · rcases q with q | q | q
        · exact .inr (.inl q)
        · exact .inr (.inr (.inl q))
        · refine .inr (.inr (.inr ?_))
          have := hwz (cw b)
          have q : wtK (cw b) (js.foldl lv1 ks) + wtL (cw b) ((prss ks js).map (·.2)) ≠ 0 := q
          rw [hx0, hy0]
          lia
end
section
theorem szT {a : Nat} {ks : List (Str × T Nat)} : wt szw (.tab a ks) = 1 + wtK szw ks := rfl
theorem L5.step_ok {k : Wk} {wA cA : Addr} {L : Nat} {Q : Flow → Loc → AHeap → Prop} {test : Expr} {body : List Stmt} [sv : SEnv k (fnScope L5.fMe) (cellNames (fnScope L5.fMe).names)] (ht : test = whTest L5.whM) (hb : body = fnBody L5.whM)
    (G : Blt k.c) (hh : k.A.handled = none) (hL : 8 * L ≤ sizeLine) : ∀ d, StepOK k test body Q wA cA L d
  | 0 => fun x y es msgs m H N _ hy _ _ _ _ _ => hy.elim
  | d + 1 => fun x y es msgs m H N hx hy rx ry P mw h => by
    obtain ⟨a, ks, rfl⟩ := hx
    have hz : sizeLine = _ := sizeLine_eq
    obtain ⟨c, js, rfl⟩ : ∃ c js, y = .tab c js := by
      cases y with
      | tab c js => exact ⟨c, js, rfl⟩
      | lst _ _ => exact hy.elim
      | int _ => exact hy.elim
      | txt _ => exact hy.elim
    have IH := L5.step_ok (Q := Q) (wA := wA) (cA := cA) ht hb G hh hL d
    obtain ⟨vw, vc, ⟨vs, hw, hp⟩, hcs, hne⟩ := mw
    obtain ⟨vs', τ, rfl, hp', hτ⟩ := hp.snoc
    obtain ⟨c1, w0, c0, ex, sx, le, lm⟩ := P
    have one : ∀ w : Wt Nat, wtL w [T.tab c js] = wt w (.tab c js) + 0 := fun _ => rfl
    simp only [one] at c1 w0 c0 ex sx le lm
    have hlen := hp'.len
    have e2 : N + wt szw (.tab c js) = (N + wtK szw js) + 1 := by rw [szT]; lia
    rw [e2]
    show WT k test m H fun b m2 H2 => if b = true then WF k (execs body k.env) m2 H2 (loopQ k Q fun m3 H3 => Lp k test body Q (N + wtK szw js) m3 H3) else Q .next m2 H2
    have hpos := sz_pos (T.tab c js)
    subst ht
    show WT k (.Name _ _) m H _
    refine WT_plain ?_
    refine W_Name vw ?_
    refine WTr_list hw (by rw [List.length_append, List.length_singleton]; lia) ?_
    have hem : (!(vs' ++ [V.ref τ]).isEmpty) = true := by cases vs' <;> rfl
    rw [hem]
    refine iteT ?_
    generalize hbe : Lp k (whTest L5.whM) body Q (N + wtK szw js) = LP
    have hlp : ∀ m' H', Lp k (whTest L5.whM) body Q (N + wtK szw js) m' H' → LP m' H' := fun m' H' q => by rw [← hbe]; exact q
    clear hbe
    subst hb
    have hτw : τ ≠ wA := fun q => by rw [q, hw] at hτ; cases hτ
    refine W_cons' ?_
    refine W_AssignTup ?_ ?s0 ?s1
    case s0 => rfl
    case s1 => rfl
    refine W_CallM' PySem.F.plainAttrs_list PySem.F.slot_list_pop PySem.F.type_list_pop ?_
    refine W_Name vw ?_
    refine ⟨onList hw, ?_⟩
    refine WItems_nil ?_
    refine WCall_pop hw (by lia) ?_
    have hw1 : upd H wA (.list vs') wA = some (.list vs') := upd_same
    have hτ1 : upd H wA (.list vs') τ = some (.tup [.ref a, .ref c]) := upd_ne hτw hτ
    have tk1 : TupKeep H (upd H wA (.list vs')) := TupKeep.updL hw
    have fr1 : FrB H (upd H wA (.list vs')) (fun b => b = wA) := FrB.upd1 rfl
    have rx1 : Rep (upd H wA (.list vs')) (.tab a ks) := rx.frame _ fun b hb => fr1 b (rx.live hb) (by rintro rfl; lia)
    have ry1 : Rep (upd H wA (.list vs')) (.tab c js) := ry.frame _ fun b hb => fr1 b (ry.live hb) (by rintro rfl; lia)
    have hcs1 : TxtsAt (upd H wA (.list vs')) cA msgs := by
      obtain ⟨ps, q1, q2⟩ := hcs
      exact ⟨ps, upd_ne (Ne.symm hne) q1, q2⟩
    generalize upd H wA (.list vs') = H1 at hw1 hτ1 tk1 fr1 rx1 ry1 hcs1 ⊢
    refine WAs_Tup hh hτ1 rfl (by rfl) (as2 rfl rfl) ?_
    refine WAsL_cons ?_
    refine WAs_Name ?s0 ?_
    case s0 => exact stor rfl
    refine WAsL_cons ?_
    refine WAs_Name ?s0 ?_
    case s0 => exact stor rfl
    refine WAsL_nil ?_
    refine contQ_next ?_
    refine W_cons' ?_
    refine W_Assign ?_ ?s0 ?s1
    case s0 => exact stor rfl
    case s1 => exact swaps_List
    refine W_List ?_
    refine WItems_nil ⟨lz rfl, fun lA hlA => ?_⟩
    refine contQ_next ?_
    have E2 : Ext H1 (upd H1 lA (.list [])) := Ext.upd hlA
    have hl2 : upd H1 lA (.list []) lA = some (.list []) := upd_same
    generalize upd H1 lA (.list []) = H2 at E2 hl2 ⊢
    have rx2 : Rep H2 (.tab a ks) := rx1.frame _ fun b hb => (FrB.of_ext (P := fun _ => False) E2) b (rx1.live hb) id
    have ry2 : Rep H2 (.tab c js) := ry1.frame _ fun b hb => (FrB.of_ext (P := fun _ => False) E2) b (ry1.live hb) id
    have hlx : wt (cw lA) (.tab a ks) = 0 := rx1.fresh hlA
    have hly : wt (cw lA) (.tab c js) = 0 := ry1.fresh hlA
    obtain ⟨ps, hps, hpe⟩ := hcs1
    have C : LvC wA cA lA L d a c ks js vs' msgs H2 := {
      yok := hy
      ry := ry2
      c1 := fun b => by have := c1 b; lia
      z := fun b hb => by rcases hb with rfl | rfl | rfl <;> lia
      wc := hne
      lw := fun q => by rw [q, hw1] at hlA; cases hlA
      lc := fun q => by rw [q, hps] at hlA; cases hlA
      em := by lia
      sx := by lia
      lm := by lia
      lL := hL }
    have S0 : LvS wA cA lA a c ks js vs' es msgs H2 0 (setL (setL (setL m "x" (.ref a)) "y" (.ref c)) "later" (.ref lA)) H2 := {
      mw := by repeat first | assumption | with_reducible exact setL_same | (apply setL_ne; decide +kernel)
      mc := by repeat first | assumption | with_reducible exact setL_same | (apply setL_ne; decide +kernel)
      ml := setL_same
      mx := by repeat first | assumption | with_reducible exact setL_same | (apply setL_ne; decide +kernel)
      my := by repeat first | assumption | with_reducible exact setL_same | (apply setL_ne; decide +kernel)
      hw := E2 _ _ hw1
      es := (hp'.keep tk1).keep (TupKeep.of_ext E2)
      cs := ⟨ps, E2 _ _ hps, by rw [hpe]; exact (List.append_nil _).symm⟩
      hl := ⟨[], hl2, trivial⟩
      rz := rx2
      fr := FrB.refl }
    generalize setL (setL (setL m "x" (.ref a)) "y" (.ref c)) "later" (.ref lA) = m2 at S0 ⊢
    obtain ⟨epy, hcy⟩ := ry2.1
    have hkl : (kvOf js).length = js.length := List.length_map _
    refine W_cons' ?_
    refine W_For ?_
    refine W_Name S0.my ?_
    refine ⟨_, _, _, fun i m' H' => LvS wA cA lA a c ks js vs' es msgs H2 i m' H', WIter_dict hh hcy, S0, fun i m' H' S => ?_, ?_, ?_⟩
    · refine ⟨kvOf js, ?_, rfl⟩
      have hcc := c1 c
      rw [S.fr c (nsome (hcy)) ?_]
      · exact hcy
      · rw [cnt_tab (b := c), hit_same] at hcc
        rintro (q | q | q | q)
        · rw [← q, cnt_tab (b := c), hit_same] at w0; lia
        · rw [← q, cnt_tab (b := c), hit_same] at c0; lia
        · rw [← q, cnt_tab, hit_same] at hly; lia
        · lia
    · intro i v m' H' hi hR S
      obtain ⟨kv, hkv, hks⟩ := hR
      obtain ⟨p, hpi, rfl⟩ : ∃ p, js[i]? = some p ∧ (Sum.inr p.1, vOf p.2) = kv := by
        unfold kvOf at hkv
        rw [List.getElem?_map, Option.map_eq_some_iff] at hkv
        exact hkv
      obtain ⟨t, rfl⟩ : ∃ t, v = .str p.1 t := by
        cases v with
        | str y t => exact ⟨t, by rw [eq_of_beq (show (p.1 == y) = true from hks)]⟩
        | _ => cases hks
      refine WAs_Name ?s0 ?_
      case s0 => exact stor rfl
      have S' : LvS wA cA lA a c ks js vs' es msgs H2 i (setL m' "name" (.str p.1 t)) H' := {
        mw := by rw [setL_off (by decide)]; exact S.mw
        mc := by rw [setL_off (by decide)]; exact S.mc
        ml := by rw [setL_off (by decide)]; exact S.ml
        mx := by rw [setL_off (by decide)]; exact S.mx
        my := by rw [setL_off (by decide)]; exact S.my
        hw := S.hw
        es := S.es
        cs := S.cs
        hl := S.hl
        rz := S.rz
        fr := S.fr }
      exact L5.name_ok rfl G hh C S' hpi setL_same fun m'' H'' S'' => loopQ_next S''
    · intro m' H' S
      rw [hkl] at S
      refine contQ_next ?_
      obtain ⟨ls, hls, hlp2⟩ := S.hl
      have hlsz : ls.length ≤ wtK szw js := by
        rw [hlp2.len, List.length_map, List.take_length]
        have h1 := sz_lenL ((prss ks js).map (·.2))
        rw [List.length_map] at h1
        have h2 := levs_prss_len (ks := ks) js
        lia
      refine W_cons' ?_
      refine W_ExprStmt ?_
      refine W_CallM' PySem.F.plainAttrs_list PySem.F.slot_list_extend PySem.F.type_list_extend ?_
      refine W_Name S.mw ?_
      refine ⟨onList S.hw, ?_⟩
      refine WItems_cons ?_
      refine W_SubRev ?_
      refine W_Name S.ml ?_
      refine WPart_some ?_
      refine W_UnaryOp ?_
      refine W_int ?_
      refine WUn_neg ?_
      rw [szT] at sx
      refine ⟨_, rfl, rfl, lA, ls, rfl, hls, by lia, fun rA hrA => ?_⟩
      refine WItems_nil ?_
      have hrw : wA ≠ rA := fun q => by rw [← q, S.hw] at hrA; cases hrA
      refine WCall_extend (upd_ne hrw S.hw) upd_same ?_ ?_
      · rw [List.length_reverse]; lia
      refine contQ_next ?_
      refine W_nil ?_
      refine loopQ_next (hlp _ _ ?_)
      refine level_rest IH C S hls (by rw [szT] at le ⊢; lia) (Ext.upd hrA) fun m3 H3 mw3 r3 f3 => ?_
      refine h m3 H3 mw3 r3 ?_
      refine fun b hb hq => ?_
      have hb1 := fr1 b hb fun q => hq (.inl q)
      have hlb : b ≠ lA := fun q => by rw [q, hlA] at hb1; exact hb (q ▸ hb1.symm)
      have hb2 : H2 b = H1 b := (FrB.of_ext (P := fun _ => False) E2) b (by rw [hb1]; exact hb) id
      rw [f3 b (by rw [hb2, hb1]; exact hb) fun q => ?_, hb2, hb1]
      rcases q with q | q
      · exact hlb q
      · exact hq q
end
section
theorem L5.merge_ok {c : Cx} {A : Around} {f : Addr} {d : Nat} {x y : T Nat} {H : AHeap} (F : DefAt c f L5.fMe) (hA : Room A) (G : Blt c) (hx : ∃ a ks, x = .tab a ks) (hy : Yok d y) (rx : Rep H x) (ry : Rep H y) (c1 : ∀ b, wt (cw b) x + wt (cw b) y ≤ 1) (em : wt emw x + wt emw y = 0) (sz : 8 * (wt szw x + wt szw y) ≤ sizeLine) :
    FnV c A f [vOf x, vOf y] [] H (fun v H' => ∃ r, v = .ref r ∧ H r = none ∧ TxtsAt H' r (cl d x y) ∧ Rep H' (M d x y) ∧ FrB H H' (fun b => wt (cw b) x + wt (cw b) y ≠ 0)) NoX := by
  refine FnV.top F hA ["x", "y"] rfl (fun fd rvs h1 h2 h3 hl => ?_) (by rfl) fun k hk => ?_
  · obtain ⟨x, y, rfl⟩ := len2 hl
    cases fd; simp only at h1 h2 h3; subst h1; subst h2; subst h3; rfl
  refine Mine.hideG fun GG back => ?_
  obtain ⟨rfl, sv, hfr, hdep, hun, hhd, hX, hhere⟩ := hk
  refine back ?_
  clear back
  have hh : k.A.handled = none := hhd.trans hA.handled
  have hz : sizeLine = _ := sizeLine_eq
  show W k (execs (fnBody L5.fMe) k.env) (setL (setL noLoc "x" (vOf x)) "y" (vOf y)) H _
  refine W_cons' ?_
  refine W_Assign ?_ ?s0 ?s1
  case s0 => exact stor rfl
  case s1 => exact swaps_List
  refine W_List ?_
  refine WItems_nil ⟨lz rfl, fun cA hcA => ?_⟩
  refine contQ_next ?_
  refine W_cons' ?_
  refine W_Assign ?_ ?s0 ?s1
  case s0 => exact stor rfl
  case s1 => exact swaps_List
  refine W_List ?_
  refine WItems_cons ?_
  refine W_Tuple ?_
  refine WItems_cons ?_
  refine W_Name (by repeat first | assumption | with_reducible exact setL_same | (apply setL_ne; decide +kernel)) ?_
  refine WItems_cons ?_
  refine W_Name (by repeat first | assumption | with_reducible exact setL_same | (apply setL_ne; decide +kernel)) ?_
  refine WItems_nil ⟨lz rfl, fun τ hτ => ?_⟩
  refine WItems_nil ⟨lz rfl, fun wA hwA => ?_⟩
  refine contQ_next ?_
  have hcτ : cA ≠ τ := fun q => by rw [← q, upd_same] at hτ; cases hτ
  have E3 : Ext H (upd (upd (upd H cA (.list [])) τ (.tup [vOf x, vOf y])) wA (.list [.ref τ])) := (Ext.upd hcA).trans ((Ext.upd hτ).trans (Ext.upd hwA))
  have hcw : cA ≠ wA := fun q => by rw [← q] at hwA; rw [upd_ne hcτ upd_same] at hwA; cases hwA
  have hτw : τ ≠ wA := fun q => by rw [← q, upd_same] at hwA; cases hwA
  have hc3 : upd (upd (upd H cA (.list [])) τ (.tup [vOf x, vOf y])) wA (.list [.ref τ]) cA = some (.list []) := upd_ne hcw (upd_ne hcτ upd_same)
  have hτ3 : upd (upd (upd H cA (.list [])) τ (.tup [vOf x, vOf y])) wA (.list [.ref τ]) τ = some (.tup [vOf x, vOf y]) := upd_ne hτw upd_same
  have hw3 : upd (upd (upd H cA (.list [])) τ (.tup [vOf x, vOf y])) wA (.list [.ref τ]) wA = some (.list [.ref τ]) := upd_same
  have hwH : H wA = none := by
    cases e : H wA with
    | none => rfl
    | some z => rw [(Ext.upd (x := AObj.tup [vOf x, vOf y]) hτ) _ _ ((Ext.upd hcA) _ _ e)] at hwA; cases hwA
  generalize upd (upd (upd H cA (.list [])) τ (.tup [vOf x, vOf y])) wA (.list [.ref τ]) = H3 at E3 hc3 hτ3 hw3 ⊢
  have rx3 : Rep H3 x := rx.frame _ fun b hb => (FrB.of_ext (P := fun _ => False) E3) b (rx.live hb) id
  have ry3 : Rep H3 y := ry.frame _ fun b hb => (FrB.of_ext (P := fun _ => False) E3) b (ry.live hb) id
  have z1 := rx.fresh hcA
  have z2 := ry.fresh hcA
  have z3 := rx.fresh hwH
  have z4 := ry.fresh hwH
  have one : ∀ w : Wt Nat, wtL w [y] = wt w y + 0 := fun _ => rfl
  have vw : setL (setL (setL (setL noLoc "x" (vOf x)) "y" (vOf y)) "clashes" (.ref cA)) "work" (.ref wA) "work" = some (.ref wA) := setL_same
  have vc : setL (setL (setL (setL noLoc "x" (vOf x)) "y" (vOf y)) "clashes" (.ref cA)) "work" (.ref wA) "clashes" = some (.ref cA) := by repeat first | assumption | with_reducible exact setL_same | (apply setL_ne; decide +kernel)
  generalize setL (setL (setL (setL noLoc "x" (vOf x)) "y" (vOf y)) "clashes" (.ref cA)) "work" (.ref wA) = m3 at vw vc ⊢
  refine W_cons' ?_
  refine W_WhileL (1 + wt szw y) ?_
  refine L5.step_ok rfl rfl G hh sz d x y [] [] m3 H3 1 hx hy rx3 ry3 ⟨fun b => ?_, ?_, ?_, ?_, ?_, ?_, ?_⟩ ⟨vw, vc, ⟨_, hw3, ⟨τ, rfl, hτ3⟩, trivial⟩, ⟨[], hc3, rfl⟩, Ne.symm hcw⟩ fun m4 H4 mw4 r4 f4 => ?_
  · rw [one]; exact c1 b
  · rw [one]; lia
  · rw [one]; lia
  · rw [one]; lia
  · rw [one]; lia
  · rw [one]; exact Nat.le_trans (by simp) (Nat.le_add_left _ _)
  · rw [one]; exact Nat.le_trans (by simp) (Nat.le_add_left _ _)
  obtain ⟨vs4, hw4, hp4⟩ := mw4.st
  have : vs4 = [] := by cases vs4 with
    | nil => rfl
    | cons v vs => exact hp4.elim
  subst this
  show WT k (.Name _ _) m4 H4 _
  refine WT_plain ?_
  refine W_Name mw4.mw ?_
  refine WTr_list hw4 (by simp) ?_
  show if false = true then _ else _
  rw [if_neg Bool.false_ne_true]
  refine contQ_next ?_
  refine W_cons' ?_
  refine W_Return' ?_
  refine W_Name mw4.mc ?_
  intro uR huR
  refine contQ_ret ?_
  refine RQ_ret huR ?_
  refine ⟨cA, rfl, hcA, mw4.cs, r4, fun b hb hq => ?_⟩
  have e := (FrB.of_ext (P := fun _ => False) E3) b hb id
  rw [f4 b (by rw [e]; exact hb) fun q => ?_, e]
  rcases q with q | q | q
  · rw [q, hwH] at hb; exact hb rfl
  · rw [q, hcA] at hb; exact hb rfl
  · exact hq q
end
section
noncomputable abbrev L5.fBr : Stmt := stm L5.stmsC 6
theorem getLast_of {α : Type} {l : List α} {n : Nat} (h : l.length = n + 1) : ∃ z, l[n]? = some z ∧ l.drop n = [z] := by
  have hn : n < l.length := by lia
  refine ⟨l[n], List.getElem?_eq_getElem hn, ?_⟩
  rw [List.drop_eq_getElem_cons hn, List.drop_eq_nil_of_le (by lia)]
theorem L5.branch_ok {c : Cx} {A : Around} {f kt : Addr} {keys : List (Str × Tok)} {g pl : Int} {H : AHeap} (F : DefAt c f L5.fBr) (hA : Room A) (G : Blt c) (hkt : H kt = some (.tup (strsV keys))) (hk0 : keys ≠ []) (hk1 : keys.length ≤ 3) :
    FnV c A f [.ref kt, .int g, .int pl] [] H (fun v H' => ∃ b, v = vOf b ∧ Ext H H' ∧ Brn H H' b (brN (decide (g ≠ 0)) pl (keys.map (·.1)))) NoX := by
  refine FnV.top F hA ["key", "grows", "place"] rfl (fun fd rvs h1 h2 h3 hl => ?_) (by rfl) fun k hk => ?_
  · refine Mine.hideG fun GG back => ?_
    obtain ⟨x, y, z, rfl⟩ := len3 hl
    refine back ?_
    clear back
    cases fd; simp only at h1 h2 h3; subst h1; subst h2; subst h3; rfl
  refine Mine.hideG fun GG back => ?_
  refine Mine.hideG fun GG back => ?_
  obtain ⟨rfl, sv, hfr, hdep, hun, hhd, hX, hhere⟩ := hk
  refine back ?_
  clear back
  refine back ?_
  clear back
  have hh : k.A.handled = none := hhd.trans hA.handled
  have hz : sizeLine = _ := sizeLine_eq
  obtain ⟨n, hn⟩ : ∃ n, keys.length = n + 1 := ⟨keys.length - 1, by have := List.length_pos_iff.mpr hk0; lia⟩
  refine Mine.hideG fun GG back => ?_
  obtain ⟨⟨z, t⟩, hzk, hdrop⟩ := getLast_of hn
  refine back ?_
  clear back
  have hsv : (strsV keys).length = n + 1 := by rw [strsV_len, hn]
  have hzv : (strsV keys)[n]? = some (.str z t) := by unfold strsV; rw [List.getElem?_map, hzk]; rfl
  have hj : seqIndex? (-1) (strsV keys).length = some n := by
    rw [hsv]
    simp only [seqIndex?]
    rw [if_pos (show (-1 : Int) < 0 by decide), if_pos (by simp; lia)]
    congr 1
    lia
  show W k (execs (fnBody L5.fBr) k.env) (setL (setL (setL noLoc "key" (.ref kt)) "grows" (.int g)) "place" (.int pl)) H _
  refine W_cons' ?_
  refine W_cut (fun (fl : Flow) m1 H1 => fl = .next ∧ Ext H H1 ∧ ∃ b, m1 = setL (setL (setL (setL noLoc "key" (.ref kt)) "grows" (.int g)) "place" (.int pl)) "tree" (vOf b) ∧ Brn H H1 b (brN (decide (g ≠ 0)) pl [z])) ?_ ?_
  · refine W_Assign ?_ ?s0 ?s1
    case s0 => exact stor rfl
    case s1 => exact swaps_IfExp
    refine W_IfExp ?_
    refine WT_plain ?_
    refine W_Name (by repeat first | assumption | with_reducible exact setL_same | (apply setL_ne; decide +kernel)) ?_
    refine WTr_int ?_
    cases hg : decide (g ≠ 0) with
    | true =>
      refine iteT ?_
      refine W_Dict ?_ ?h1 ?h2 ?h3 ?h4
      case h1 => rfl
      case h2 => rfl
      case h3 => simp
      case h4 => decide
      refine WPairs_cons ?_
      refine W_Subscript ?_
      refine W_Name (by repeat first | assumption | with_reducible exact setL_same | (apply setL_ne; decide +kernel)) ?_
      refine W_UnaryOp ?_
      refine W_int ?_
      refine WUn_neg ?_
      refine WSub_tup hkt (by decide) (by decide) hj hzv ?_
      refine W_List ?_
      refine WItems_cons ?_
      refine W_Dict0 fun d hd => ?_
      refine WItems_nil ⟨lz rfl, fun l hl => ?_⟩
      refine WPairs_nil ⟨[(.inr z, .ref l)], ⟨isKVs, rfl, trivial⟩, fun e ep he => ?_⟩
      have E2 : Ext H (upd (upd H d (.dict [] 0)) l (.list [.ref d])) := (Ext.upd hd).trans (Ext.upd hl)
      exact ⟨rfl, E2.trans (Ext.upd he), .tab e [(z, .lst l [.tab d []])], rfl, (Brn.nest (Ext.refl H) hd hl).wrap E2 he⟩
    | false =>
      refine iteF ?_
      refine W_Dict ?_ ?h1 ?h2 ?h3 ?h4
      case h1 => rfl
      case h2 => rfl
      case h3 => simp
      case h4 => decide
      refine WPairs_cons ?_
      refine W_Subscript ?_
      refine W_Name (by repeat first | assumption | with_reducible exact setL_same | (apply setL_ne; decide +kernel)) ?_
      refine W_UnaryOp ?_
      refine W_int ?_
      refine WUn_neg ?_
      refine WSub_tup hkt (by decide) (by decide) hj hzv ?_
      refine W_Dict ?_ ?h1 ?h2 ?h3 ?h4
      case h1 => rfl
      case h2 => rfl
      case h3 => simp
      case h4 => decide
      refine WPairs_cons ?_
      refine W_str fun t1 _ => ?_
      refine W_Name (by repeat first | assumption | with_reducible exact setL_same | (apply setL_ne; decide +kernel)) ?_
      refine WPairs_nil ⟨[(.inr "at", .int pl)], ⟨isKVs, rfl, trivial⟩, fun d ep hd => ?_⟩
      refine WPairs_nil ⟨[(.inr z, .ref d)], ⟨isKVs, rfl, trivial⟩, fun e ep' he => ?_⟩
      have B1 := (Brn.int (H := H) (i := pl)).wrap (n := "at") (ep := ep) (Ext.refl H) hd
      exact ⟨rfl, (Ext.upd hd).trans (Ext.upd he), .tab e [(z, .tab d [("at", .int pl)])], rfl, B1.wrap (Ext.upd hd) he⟩
  intro fl m1 H1 hq
  refine Mine.hideG fun GG back => ?_
  obtain ⟨rfl, hE1, b1, rfl, B1⟩ := hq
  refine back ?_
  clear back
  refine contQ_next ?_
  have vk : setL (setL (setL (setL noLoc "key" (.ref kt)) "grows" (.int g)) "place" (.int pl)) "tree" (vOf b1) "key" = some (.ref kt) := by repeat first | assumption | with_reducible exact setL_same | (apply setL_ne; decide +kernel)
  have vt : setL (setL (setL (setL noLoc "key" (.ref kt)) "grows" (.int g)) "place" (.int pl)) "tree" (vOf b1) "tree" = some (vOf b1) := setL_same
  generalize setL (setL (setL (setL noLoc "key" (.ref kt)) "grows" (.int g)) "place" (.int pl)) "tree" (vOf b1) = m1 at vk vt ⊢
  refine W_cons' ?_
  refine W_For ?_ ?s0
  case s0 => exact fun x => rfl
  refine W_SubBack ?_
  refine W_Name vk ?_
  refine WPart_some ?_
  refine W_UnaryOp ?_
  refine W_int ?_
  refine WUn_neg ?_
  refine ⟨_, rfl, rfl, ?_⟩
  refine WPart_some ?_
  refine W_UnaryOp ?_
  refine W_int ?_
  refine WUn_neg ?_
  refine ⟨_, rfl, rfl, kt, strsV keys, rfl, hE1 _ _ hkt, by rw [hsv, hz]; lia, fun r hr => ?_⟩
  have hlen2 : (strsV keys).dropLast.reverse.length = n := by rw [List.length_reverse, List.length_dropLast, hsv]; rfl
  have E2 := hE1.trans (Ext.upd (x := AObj.tup (strsV keys).dropLast.reverse) hr)
  refine ⟨_, _, _, fun i m' H' => Ext (upd H1 r (.tup (strsV keys).dropLast.reverse)) H' ∧ ∃ b, m' "tree" = some (vOf b) ∧ Brn H H' b (brN (decide (g ≠ 0)) pl ((keys.map (·.1)).drop (n - i))), WIter_tup hh upd_same, ⟨Ext.refl _, b1, vt, ?_⟩, fun i m' H' q => q.1 _ _ upd_same, ?_, ?_⟩
  · have e : (keys.map (·.1)).drop (n - 0) = [z] := by rw [← List.map_drop, Nat.sub_zero, hdrop]; rfl
    rw [e]
    exact ⟨B1.rep.ext (Ext.upd hr), B1.one, B1.new, B1.map⟩
  · intro i v m' H' hi hR hq
    refine Mine.hideG fun GG back => ?_
    obtain ⟨hE', b, hb, B⟩ := hq
    refine back ?_
    clear back
    rw [hlen2] at hi
    have hin : n - 1 - i < keys.length := by lia
    have hv : v = .str (keys[n - 1 - i]).1 (keys[n - 1 - i]).2 := by
      have hl3 : (strsV keys).dropLast.length = n := by rw [List.length_dropLast, hsv]; rfl
      rw [List.getElem?_reverse (by rw [hl3]; exact hi), hl3, List.getElem?_dropLast, if_pos (by rw [hsv]; lia)] at hR
      unfold strsV at hR
      rw [List.getElem?_map, List.getElem?_eq_getElem hin] at hR
      exact (Option.some.inj hR).symm
    subst hv
    refine WAs_Name ?s0 ?_
    case s0 => exact stor rfl
    refine W_cons' ?_
    refine W_Assign ?_ ?s0 ?s1
    case s0 => exact stor rfl
    case s1 => rfl
    refine W_Dict ?_ ?h1 ?h2 ?h3 ?h4
    case h1 => rfl
    case h2 => rfl
    case h3 => simp
    case h4 => decide
    refine WPairs_cons ?_
    refine W_Name setL_same ?_
    refine W_Name (setL_ne (by decide +kernel) hb) ?_
    refine WPairs_nil ⟨[(.inr (keys[n - 1 - i]).1, vOf b)], ⟨isKVs, rfl, trivial⟩, fun e ep he => ?_⟩
    refine contQ_next ?_
    refine W_nil ?_
    refine loopQ_next ⟨hE'.trans (Ext.upd he), .tab e [((keys[n - 1 - i]).1, b)], setL_same, ?_⟩
    have e2 : (keys.map (·.1)).drop (n - (i + 1)) = (keys[n - 1 - i]).1 :: (keys.map (·.1)).drop (n - i) := by
      have h1 : n - (i + 1) = n - 1 - i := by lia
      have h2 : n - i = n - 1 - i + 1 := by lia
      rw [h1, h2, List.drop_eq_getElem_cons (by rw [List.length_map]; exact hin), List.getElem_map]
    rw [e2]
    exact B.wrap (E2.trans hE') he
  · intro m' H' hq
    refine Mine.hideG fun GG back => ?_
    obtain ⟨hE', b, hb, B⟩ := hq
    refine back ?_
    clear back
    rw [hlen2, Nat.sub_self, List.drop_zero] at B
    refine contQ_next ?_
    refine W_cons' ?_
    refine W_Return' ?_
    refine W_Name hb ?_
    intro uR huR
    refine contQ_ret ?_
    exact RQ_ret huR ⟨b, rfl, E2.trans hE', B⟩
end
section
noncomputable abbrev L5.fDig : Stmt := stm L5.stmsC 3
noncomputable abbrev L5.fKey : Stmt := stm L5.stmsC 4
theorem pow_step {b r : Int} {e : Nat} (hb : 2 ≤ b) (h1 : 1 ≤ e) (hr : b ≤ r) (hlt : r < b ^ e) : 2 ≤ e ∧ r.fdiv b < b ^ (e - 1) ∧ 0 ≤ r.fdiv b := by
  have h2 : 2 ≤ e := by
    rcases Nat.lt_or_ge e 2 with q | q
    · have : e = 1 := by lia
      subst this
      rw [Int.pow_one] at hlt; lia
    · exact q
  refine ⟨h2, ?_, ?_⟩
  · rw [Int.fdiv_eq_ediv_of_nonneg _ (by lia)]
    refine Int.ediv_lt_of_lt_mul (by lia) ?_
    have : b ^ (e - 1) * b = b ^ e := by rw [← Int.pow_succ]; congr 1; lia
    rw [this]; exact hlt
  · rw [Int.fdiv_eq_ediv_of_nonneg _ (by lia)]
    exact Int.ediv_nonneg (by lia) (by lia)
theorem fmod_range {x b : Int} (hb : 0 < b) : 0 ≤ x.fmod b ∧ x.fmod b < b := by
  rw [Int.fmod_eq_emod_of_nonneg _ (by lia)]
  exact ⟨Int.emod_nonneg _ (by lia), Int.emod_lt_of_pos _ hb⟩
theorem L5.digits_ok {c : Cx} {A : Around} {f : Addr} {x b : Int} {H : AHeap} (F : DefAt c f L5.fDig) (hA : Room A) (G : Blt c) (hb : 2 ≤ b) (hb2 : b < 1000) :
    FnV c A f [.int x, .int b] [] H (fun v H' => ∃ (p : Addr) (ds : List Int), v = .ref p ∧ H p = none ∧ H' p = some (.list (ds.map .int)) ∧ Ext H H' ∧ (∀ d ∈ ds, (0 : Int) ≤ d ∧ d < b) ∧ ds.length ≤ 40) NoX := by
  refine FnV.top F hA ["x", "base"] rfl (fun fd rvs h1 h2 h3 hl => ?_) (by rfl) fun k hk => ?_
  · refine Mine.hideG fun GG back => ?_
    obtain ⟨x, y, rfl⟩ := len2 hl
    refine back ?_
    clear back
    cases fd; simp only at h1 h2 h3; subst h1; subst h2; subst h3; rfl
  refine Mine.hideG fun GG back => ?_
  refine Mine.hideG fun GG back => ?_
  obtain ⟨rfl, sv, hfr, hdep, hun, hhd, hX, hhere⟩ := hk
  refine back ?_
  clear back
  refine back ?_
  clear back
  have hh : k.A.handled = none := hhd.trans hA.handled
  have hroom : Roomy k := Roomy.of hfr (by have := hA.depth; lia) G.imp G.tree rfl rfl
  have hz : sizeLine = _ := sizeLine_eq
  show W k (execs (fnBody L5.fDig) k.env) (setL (setL noLoc "x" (.int x)) "base" (.int b)) H _
  have hp0 : (0 : Int) < b ^ 40 := Int.pow_pos (by lia)
  refine Mine.hideG fun GG back => ?_
  obtain ⟨r0, r1⟩ := fmod_range (x := x) hp0
  refine back ?_
  clear back
  refine W_cons' ?_
  refine W_Aug (old := .int x) (by repeat first | assumption | with_reducible exact setL_same | (apply setL_ne; decide +kernel)) ?_ ?s0
  case s0 => exact stor rfl
  refine W_BinOp ?_
  refine W_Name (by repeat first | assumption | with_reducible exact setL_same | (apply setL_ne; decide +kernel)) ?_
  refine W_int ?_
  refine WBin_pow (by decide) (by decide) (by lia) ?_
  have e40 : (40 : Int).toNat = 40 := rfl
  rw [e40]
  refine WInpl_mod hroom (by lia) ?_
  refine contQ_next ?_
  generalize x.fmod (b ^ 40) = r at r0 r1 ⊢
  refine Mine.hideG fun GG back => ?_
  obtain ⟨q0, q1⟩ := fmod_range (x := r) (show (0 : Int) < b by lia)
  refine back ?_
  clear back
  refine W_cons' ?_
  refine W_Assign ?_ ?s0 ?s1
  case s0 => exact stor rfl
  case s1 => exact swaps_List
  refine W_List ?_
  refine WItems_cons ?_
  refine W_BinOp ?_
  refine W_Name (by repeat first | assumption | with_reducible exact setL_same | (apply setL_ne; decide +kernel)) ?_
  refine W_Name (by repeat first | assumption | with_reducible exact setL_same | (apply setL_ne; decide +kernel)) ?_
  refine WBin_mod hroom (by lia) ?_
  refine WItems_nil ⟨lz rfl, fun D hD => ?_⟩
  refine contQ_next ?_
  refine W_cons' ?_
  refine W_While (fun e m1 H1 => m1 "base" = some (.int b) ∧ m1 "told" = some (.ref D) ∧ Ext H H1 ∧ ∃ r : Int, m1 "x" = some (.int r) ∧ 0 ≤ r ∧ r < b ^ e ∧ 1 ≤ e ∧ ∃ ds : List Int, H1 D = some (.list (ds.map .int)) ∧ (∀ d ∈ ds, 0 ≤ d ∧ d < b) ∧ ds.length + e = 41) 40
    ⟨by repeat first | assumption | with_reducible exact setL_same | (apply setL_ne; decide +kernel), setL_same, Ext.upd hD, r, by repeat first | assumption | with_reducible exact setL_same | (apply setL_ne; decide +kernel), r0, r1, by decide, [r.fmod b], upd_same, fun d hd => by rw [List.mem_singleton.mp hd]; exact ⟨q0, q1⟩, rfl⟩ ?_
  intro e m1 H1 hg
  refine Mine.hideG fun GG back => ?_
  obtain ⟨vb, vt, hE, r, vx, r0, r1, he, ds, hD1, hds, hl⟩ := hg
  refine back ?_
  clear back
  refine WT_Compare ?_
  refine W_Name vx ?_
  refine W_Name vb ?_
  refine WCmp_ge ?_
  refine WTr_bool ?_
  refine ite_dec (fun hge => ?_) (fun hge => ?_)
  · refine Mine.hideG fun GG back => ?_
    obtain ⟨e2, e3, e4⟩ := pow_step hb he hge r1
    refine back ?_
    clear back
    refine W_cons' ?_
    refine W_Aug vx ?_ ?s0
    case s0 => exact stor rfl
    refine W_Name vb ?_
    refine WInpl_fdiv hroom (by lia) ?_
    refine contQ_next ?_
    refine Mine.hideG fun GG back => ?_
    obtain ⟨q0, q1⟩ := fmod_range (x := r.fdiv b) (show (0 : Int) < b by lia)
    refine back ?_
    clear back
    refine W_cons' ?_
    refine W_ExprStmt ?_
    refine W_CallM' PySem.F.plainAttrs_list PySem.F.slot_list_append PySem.F.type_list_append ?_
    refine W_Name (setL_ne (by decide +kernel) vt) ?_
    refine ⟨onList hD1, ?_⟩
    refine WItems_cons ?_
    refine W_BinOp ?_
    refine W_Name setL_same ?_
    refine W_Name (setL_ne (by decide +kernel) vb) ?_
    refine WBin_mod hroom (by lia) ?_
    refine WItems_nil ?_
    refine WCall_append hD1 (by rw [List.length_map, hz]; lia) ?_
    refine contQ_next ?_
    refine W_nil ?_
    refine loopQ_next ⟨e - 1, by lia, setL_ne (by decide +kernel) vb, setL_ne (by decide +kernel) vt, fun p y hp => upd_ne (fun q => by rw [q, hD] at hp; cases hp) (hE p y hp), r.fdiv b, setL_same, e4, e3, by lia, ds ++ [(r.fdiv b).fmod b], by rw [List.map_append]; exact upd_same, fun d hd => ?_, by rw [List.length_append, List.length_singleton]; lia⟩
    rcases List.mem_append.mp hd with hd | hd
    · exact hds d hd
    · rw [List.mem_singleton.mp hd]; exact ⟨q0, q1⟩
  · refine contQ_next ?_
    refine W_cons' ?_
    refine W_Return' ?_
    refine W_Name vt ?_
    intro uR huR
    refine contQ_ret ?_
    exact RQ_ret huR ⟨D, ds, rfl, hD, hD1, hE, hds, by lia⟩
noncomputable def namesE (p1 p2 p3 p4 : Pos) : Expr := .List [.Constant (.str "a") 0 p1, .Constant (.str "a.a") 0 p2, .Constant (.str "") 0 p3] p4
theorem fin3 {n : Nat} (h : n < 3) : n = 0 ∨ n = 1 ∨ n = 2 := by lia
theorem W_pick3 {k : Wk} {m : Loc} {H : AHeap} {e : Expr} {p1 p2 p3 p4 p5 : Pos} {Q : V → Loc → AHeap → Prop} (h : ∀ H', Ext H H' → WV k (eval e k.env) m H' fun v m1 H1 => ∃ i : Nat, v = .int i ∧ i < 3 ∧ Ext H' H1 ∧ ∀ t, Q (.str (nameOf i) t) m1 H1)
    (hs : ∀ o i, subscripted e false o i = operate [o, i] (getItem o i) := by intro _ _; with_unfolding_all rfl) :
    WV k (eval (.Subscript (namesE p1 p2 p3 p4) e p5) k.env) m H Q := by
  have hz : sizeLine = _ := sizeLine_eq
  refine W_Subscript ?_
  refine W_List ?_
  refine WItems_cons ?_
  refine W_str fun t1 _ => ?_
  refine WItems_cons ?_
  refine W_str fun t2 _ => ?_
  refine WItems_cons ?_
  refine W_str fun t3 _ => ?_
  refine WItems_nil ⟨lz rfl, fun l hl => ?_⟩
  refine W.mono (h _ (Ext.upd hl)) fun v m1 H1 q => ?_
  refine Mine.hideG fun GG back => ?_
  obtain ⟨i, e, hi, hE, hQ⟩ := q
  refine back ?_
  clear back
  rw [e]
  have hl1 := hE _ _ upd_same
  rcases fin3 hi with rfl | rfl | rfl
  · exact WSub_list hl1 (by decide) (by decide) rfl (hQ t1) (hs := hs)
  · exact WSub_list hl1 (by decide) (by decide) rfl (hQ t2) (hs := hs)
  · exact WSub_list hl1 (by decide) (by decide) rfl (hQ t3) (hs := hs)
theorem L5.key_ok {c : Cx} {A : Around} {f : Addr} {n : Nat} {H : AHeap} (F : DefAt c f L5.fKey) (hA : Room A) (G : Blt c) (hn : n < 81) :
    FnV c A f [.int n] [] H (fun v H' => ∃ (p : Addr) (keys : List (Str × Tok)), v = .ref p ∧ H' p = some (.tup (strsV keys)) ∧ Ext H H' ∧ keys ≠ [] ∧ keys.length ≤ 3 ∧ ∀ q ∈ keys, ∃ i, q.1 = nameOf i) NoX := by
  refine FnV.top F hA ["k"] rfl (fun fd rvs h1 h2 h3 hl => ?_) (by rfl) fun k hk => ?_
  · refine Mine.hideG fun GG back => ?_
    obtain ⟨x, rfl⟩ := len1 hl
    refine back ?_
    clear back
    cases fd; simp only at h1 h2 h3; subst h1; subst h2; subst h3; rfl
  refine Mine.hideG fun GG back => ?_
  refine Mine.hideG fun GG back => ?_
  obtain ⟨rfl, sv, hfr, hdep, hun, hhd, hX, hhere⟩ := hk
  refine back ?_
  clear back
  refine back ?_
  clear back
  have hh : k.A.handled = none := hhd.trans hA.handled
  have hroom : Roomy k := Roomy.of hfr (by have := hA.depth; lia) G.imp G.tree rfl rfl
  have hz : sizeLine = _ := sizeLine_eq
  show W k (execs (fnBody L5.fKey) k.env) (setL noLoc "k" (.int n)) H _
  have vk : setL noLoc "k" (.int (n : Int)) "k" = some (.int n) := setL_same
  have fd : ∀ a b : Nat, 0 < b → (a : Int).fdiv (b : Int) = ((a / b : Nat) : Int) := fun a b hb => by
    rw [Int.fdiv_eq_ediv_of_nonneg _ (by lia)]; rfl
  have fm : ∀ a b : Nat, (a : Int).fmod (b : Int) = ((a % b : Nat) : Int) := fun a b => by
    rw [Int.fmod_eq_emod_of_nonneg _ (by lia)]; rfl
  refine W_cons' ?_
  refine W_cut (fun (fl : Flow) m1 H1 => fl = .next ∧ Ext H H1 ∧ ∃ (D : Addr) (a b c : Str × Tok), m1 = setL (setL noLoc "k" (.int n)) "names" (.ref D) ∧ H1 D = some (.list (strsV [a, b, c])) ∧ ∀ q ∈ [a, b, c], ∃ i, q.1 = nameOf i) ?_ ?_
  · refine W_Assign ?_ ?s0 ?s1
    case s0 => exact stor rfl
    case s1 => exact swaps_List
    refine W_List ?_
    refine WItems_cons ?_
    refine W_pick3 fun H1 E1 => ?_
    refine W_BinOp ?_
    refine W_BinOp ?_
    refine W_Name vk ?_
    refine W_int ?_
    refine WBin_fdiv hroom (by decide) ?_
    refine W_int ?_
    refine WBin_mod hroom (by decide) ?_
    refine ⟨n / 3 % 3, by rw [show ((3 : Int)) = ((3 : Nat) : Int) from rfl, fd n 3 (by decide), fm], by lia, Ext.refl _, fun t1 => ?_⟩
    refine WItems_cons ?_
    refine W_pick3 fun H2 E2 => ?_
    refine W_BinOp ?_
    refine W_BinOp ?_
    refine W_Name vk ?_
    refine W_int ?_
    refine WBin_fdiv hroom (by decide) ?_
    refine W_int ?_
    refine WBin_mod hroom (by decide) ?_
    refine ⟨n / 9 % 3, by rw [show ((9 : Int)) = ((9 : Nat) : Int) from rfl, show ((3 : Int)) = ((3 : Nat) : Int) from rfl, fd n 9 (by decide), fm], by lia, Ext.refl _, fun t2 => ?_⟩
    refine WItems_cons ?_
    refine W_pick3 fun H3 E3 => ?_
    refine W_BinOp ?_
    refine W_Name vk ?_
    refine W_int ?_
    refine WBin_fdiv hroom (by decide) ?_
    refine ⟨n / 27, by rw [show ((27 : Int)) = ((27 : Nat) : Int) from rfl, fd n 27 (by decide)], by lia, Ext.refl _, fun t3 => ?_⟩
    refine WItems_nil ⟨lz rfl, fun D hD => ?_⟩
    refine ⟨rfl, (E1.trans (E2.trans E3)).trans (Ext.upd hD), D, (_, t1), (_, t2), (_, t3), rfl, upd_same, fun q hq => ?_⟩
    simp only [List.mem_cons, List.not_mem_nil, or_false] at hq
    rcases hq with rfl | rfl | rfl
    · exact ⟨_, rfl⟩
    · exact ⟨_, rfl⟩
    · exact ⟨_, rfl⟩
  intro fl m1 H1 hq
  refine Mine.hideG fun GG back => ?_
  obtain ⟨rfl, E1, D, a, b, c, rfl, hD, hnm⟩ := hq
  refine back ?_
  clear back
  refine contQ_next ?_
  refine W_cons' ?_
  refine W_Return' ?_
  refine W_CallT G.tuple (kindS rfl) ?_
  refine WItems_cons ?_
  refine W_SubSlice ?_
  refine W_Name (by repeat first | assumption | with_reducible exact setL_same | (apply setL_ne; decide +kernel)) ?_
  refine WPart_none ?_
  refine WPart_some ?_
  refine W_BinOp ?_
  refine W_int ?_
  refine W_BinOp ?_
  refine W_Name (by repeat first | assumption | with_reducible exact setL_same | (apply setL_ne; decide +kernel)) ?_
  refine W_int ?_
  refine WBin_mod hroom (by decide) ?_
  refine WBin_add ?_
  have e1 : (1 : Int) + (n : Int).fmod 3 = ((1 + n % 3 : Nat) : Int) := by
    rw [show ((3 : Int)) = ((3 : Nat) : Int) from rfl, fm]; lia
  rw [e1]
  refine ⟨_, rfl, D, rfl, .inl ⟨_, hD, by simp [strsV, hz], fun r H2 E2 hr0 hr => ?_⟩⟩
  rw [sliceV_take] at hr
  have e2 : (strsV [a, b, c]).take (1 + n % 3) = strsV ([a, b, c].take (1 + n % 3)) := by unfold strsV; rw [List.map_take]
  rw [e2] at hr
  refine WItems_nil ?_
  refine WCall_tupleL hr (by rw [strsV_len, List.length_take, hz]; simp; lia) fun p hp => ?_
  intro uR huR
  refine contQ_ret ?_
  refine RQ_ret huR ⟨p, [a, b, c].take (1 + n % 3), rfl, upd_same, (E1.trans E2).trans (Ext.upd hp), ?_, ?_, fun q hq => hnm q (List.mem_of_mem_take hq)⟩
  · have e : 1 + n % 3 = n % 3 + 1 := Nat.add_comm _ _
    rw [e]; simp
  · rw [List.length_take]; simp; lia
end
section
noncomputable abbrev L5.fGrow : Stmt := stm L5.stmsC 5
theorem fdivN (a b : Nat) (hb : 0 < b) : (a : Int).fdiv (b : Int) = ((a / b : Nat) : Int) := by
  rw [Int.fdiv_eq_ediv_of_nonneg _ (by lia)]; rfl
theorem fmodN (a b : Nat) : (a : Int).fmod (b : Int) = ((a % b : Nat) : Int) := by
  rw [Int.fmod_eq_emod_of_nonneg _ (by lia)]; rfl
theorem fin5 {n : Nat} (h : n < 5) : n = 0 ∨ n = 1 ∨ n = 2 ∨ n = 3 ∨ n = 4 := by lia
theorem L5.item_ok {k : Wk} {m : Loc} {H : AHeap} {e : Expr} {p1 p2 p3 p4 p5 p6 p7 p8 : Pos} {n : Nat} {Q : V → Loc → AHeap → Prop} (hn : n < 5) (he : ∀ H', WV k (eval e k.env) m H' fun v m1 H1 => v = .int n ∧ m1 = m ∧ H1 = H')
    (h : ∀ item H1, Ext H H1 → ItemAt H H1 n item → Q (vOf item) m H1)
    (hs : ∀ o i, subscripted e false o i = operate [o, i] (getItem o i) := by intro _ _; with_unfolding_all rfl) :
    WV k (eval (.Subscript (.List [.Dict [] [] p1, .Dict [] [] p2, .Constant (.int 0) 0 p3, .Constant (.str "a") 0 p4, .List [.Dict [] [] p5] p6] p7) e p8) k.env) m H Q := by
  have hz : sizeLine = _ := sizeLine_eq
  refine W_Subscript ?_
  refine W_List ?_
  refine WItems_cons ?_
  refine W_Dict0 fun e0 h0 => ?_
  refine WItems_cons ?_
  refine W_Dict0 fun e1 h1 => ?_
  refine WItems_cons ?_
  refine W_int ?_
  refine WItems_cons ?_
  refine W_str fun t _ => ?_
  refine WItems_cons ?_
  refine W_List ?_
  refine WItems_cons ?_
  refine W_Dict0 fun d hd => ?_
  refine WItems_nil ⟨lz rfl, fun l hl => ?_⟩
  refine WItems_nil ⟨lz rfl, fun o ho => ?_⟩
  have E1 := Ext.upd (x := AObj.dict [] 0) h0
  have E2 := E1.trans (Ext.upd (x := AObj.dict [] 0) h1)
  have E3 := E2.trans (Ext.upd (x := AObj.dict [] 0) hd)
  have E4 := E3.trans (Ext.upd (x := AObj.list [.ref d]) hl)
  have E5 := E4.trans (Ext.upd (x := AObj.list [.ref e0, .ref e1, .int 0, .str "a" t, .ref l]) ho)
  have f1 : H e1 = none := none_less E1 h1
  have fd : H d = none := none_less E2 hd
  have fl : H l = none := none_less E3 hl
  have hdl : d ≠ l := fun q => by rw [← q, upd_same] at hl; cases hl
  have a5 := Ext.upd (x := AObj.list [.ref e0, .ref e1, .int 0, .str "a" t, .ref l]) ho
  have a4 := (Ext.upd (x := AObj.list [.ref d]) hl).trans a5
  have a3 := (Ext.upd (x := AObj.dict [] 0) hd).trans a4
  have a2 := (Ext.upd (x := AObj.dict [] 0) h1).trans a3
  have v0 := a2 _ _ (upd_same (f := H) (a := e0) (x := AObj.dict [] 0))
  have v1 := a3 _ _ (upd_same (a := e1) (x := AObj.dict [] 0))
  have vd := a4 _ _ (upd_same (a := d) (x := AObj.dict [] 0))
  have vl := a5 _ _ (upd_same (a := l) (x := AObj.list [V.ref d]))
  generalize hH5 : upd (upd (upd (upd (upd H e0 (.dict [] 0)) e1 (.dict [] 0)) d (.dict [] 0)) l (.list [.ref d])) o (.list [.ref e0, .ref e1, .int 0, .str "a" t, .ref l]) = H5 at E5 v0 v1 vd vl ⊢
  have vo : H5 o = some (.list [.ref e0, .ref e1, .int 0, .str "a" t, .ref l]) := by rw [← hH5]; exact upd_same
  refine W.mono (he H5) fun v m1 H1 q => ?_
  obtain ⟨e, rfl, rfl⟩ := q
  rw [e]
  rcases fin5 hn with rfl | rfl | rfl | rfl | rfl
  · exact WSub_list vo (by decide) (by decide) rfl (h (.tab e0 []) _ E5 (ItemAt.dict h0 v0 (by decide))) (hs := hs)
  · exact WSub_list vo (by decide) (by decide) rfl (h (.tab e1 []) _ E5 (ItemAt.dict f1 v1 (by decide))) (hs := hs)
  · exact WSub_list vo (by decide) (by decide) rfl (h (.int 0) _ E5 ItemAt.int) (hs := hs)
  · exact WSub_list vo (by decide) (by decide) rfl (h (.txt t) _ E5 ItemAt.txt) (hs := hs)
  · exact WSub_list vo (by decide) (by decide) rfl (h (.lst l [.tab d []]) _ E5 (ItemAt.list fd fl hdl vd vl)) (hs := hs)
noncomputable def S0 : T (Option Nat) × Nat := (.tab (some 0) [], 1)
structure L5.GI (H0 : AHeap) (root tA : Addr) (ts : List Nat) (i : Nat) (m : Loc) (H : AHeap) : Prop where
  vt : m "tables" = some (.ref tA)
  t0 : H0 tA = none
  st : ∃ hs X, H tA = some (.list (hs.map V.ref)) ∧ wt (cw tA) X = 0 ∧ GSt H0 H root hs X ((ts.take i).foldl G1 S0) i
set_option maxHeartbeats 4000000 in
theorem L5.grow_ok {c : Cx} {A : Around} {f thA root ep : Addr} {ts : List Nat} {H : AHeap} (F : DefAt c f L5.fGrow) (hA : Room A) (G : Blt c) (hr : H root = some (.dict [] ep)) (ht : H thA = some (.list (ts.map fun t => V.int (t : Nat)))) (hl : ts.length ≤ 40) :
    FnV c A f [.ref root, .ref thA] [] H (fun v H' => ∃ tA hs X, v = .ref tA ∧ H tA = none ∧ H' tA = some (.list (hs.map V.ref)) ∧ wt (cw tA) X = 0 ∧ GSt H H' root hs X (ts.foldl G1 S0) ts.length) NoX := by
  refine FnV.top F hA ["root", "things"] rfl (fun fd rvs h1 h2 h3 hl => ?_) (by rfl) fun k hk => ?_
  · obtain ⟨x, y, rfl⟩ := len2 hl
    cases fd; simp only at h1 h2 h3; subst h1; subst h2; subst h3; rfl
  refine Mine.hideG fun GG back => ?_
  obtain ⟨rfl, sv, hfr, hdep, hun, hhd, hX, hhere⟩ := hk
  refine back ?_
  clear back
  have hh : k.A.handled = none := hhd.trans hA.handled
  have hroom : Roomy k := Roomy.of hfr (by have := hA.depth; lia) G.imp G.tree rfl rfl
  have hz : sizeLine = _ := sizeLine_eq
  have hrt : thA ≠ root := fun q => by rw [q, hr] at ht; cases ht
  show W k (execs (fnBody L5.fGrow) k.env) (setL (setL noLoc "root" (.ref root)) "things" (.ref thA)) H _
  refine W_cons' ?_
  refine W_Assign ?_ ?s0 ?s1
  case s0 => exact stor rfl
  case s1 => exact swaps_List
  refine W_List ?_
  refine WItems_cons ?_
  refine W_Name (by repeat first | assumption | with_reducible exact setL_same | (apply setL_ne; decide +kernel)) ?_
  refine WItems_nil ⟨lz rfl, fun tA htA => ?_⟩
  refine contQ_next ?_
  have hrA : root ≠ tA := fun q => by rw [q, htA] at hr; cases hr
  have I0 : L5.GI H root tA ts 0 (setL (setL (setL noLoc "root" (.ref root)) "things" (.ref thA)) "tables" (.ref tA)) (upd H tA (.list [.ref root])) := by
    have hc : ∀ b, wt (cw b) (.tab root ([] : List (Str × T Nat))) = hit b root := fun b => rfl
    refine ⟨setL_same, htA, [root], .tab root [], upd_same, ?_, {
      rep := ⟨⟨ep, upd_ne hrA hr⟩, trivial⟩
      one := fun b => by rw [hc]; unfold hit; split <;> lia
      new := fun b hb => by rw [hc] at hb; exact .inl (hit_eq hb)
      tb := ⟨[], rfl⟩
      nd := by simp
      has := fun a ha => by
        rw [List.mem_singleton.mp ha]
        show (if isA root root = true then some [] else _) ≠ none
        rw [isA_same, if_pos rfl]; simp
      map := by
        show T.tab (ix [root] root) [] = T.tab (some 0) []
        congr 1
        exact if_pos rfl
      len := rfl
      pos := Nat.le_refl _
      h0 := rfl
      sz := Nat.le_refl 1
      hl := Nat.le_refl 1
      em := rfl
      bad := rfl
      fr := fun b hb hq => upd_off fun q => hb (by rw [q]; exact htA) }⟩
    rw [hc]; exact hit_ne (Ne.symm hrA)
  have vth : setL (setL (setL noLoc "root" (.ref root)) "things" (.ref thA)) "tables" (.ref tA) "things" = some (.ref thA) := by repeat first | assumption | with_reducible exact setL_same | (apply setL_ne; decide +kernel)
  have hth : upd H tA (.list [.ref root]) thA = some (.list (ts.map fun t => V.int (t : Nat))) := upd_fresh htA ht
  generalize setL (setL (setL noLoc "root" (.ref root)) "things" (.ref thA)) "tables" (.ref tA) = m1 at I0 vth ⊢
  generalize upd H tA (.list [.ref root]) = H1 at I0 hth ⊢
  refine W_cons' ?_
  refine W_For ?_
  refine W_Name vth ?_
  refine ⟨_, _, _, fun i m' H' => L5.GI H root tA ts i m' H', WIter_list hh hth, I0, fun i m' H' I => ?_, ?_, ?_⟩
  · obtain ⟨hs, X, _, _, S⟩ := I.st
    rw [S.fr thA (nsome (ht)) hrt]; exact ht
  · intro i v m' H' hi hR I
    rw [List.length_map] at hi
    rw [List.getElem?_map, List.getElem?_eq_getElem hi] at hR
    have hv : v = .int (ts[i] : Nat) := (Option.some.inj hR).symm
    subst hv
    have htk : ts.take (i + 1) = ts.take i ++ [ts[i]] := by rw [List.take_add_one, List.getElem?_eq_getElem hi]; rfl
    have hfold : (ts.take (i + 1)).foldl G1 S0 = G1 ((ts.take i).foldl G1 S0) ts[i] := by rw [htk, List.foldl_append]; rfl
    generalize ts[i] = t at hfold ⊢
    obtain ⟨vt, t0, hs, X, hhs, htX, S⟩ := I
    generalize hSN : (ts.take i).foldl G1 S0 = SN at S hfold
    refine WAs_Name ?s0 ?_
    case s0 => exact stor rfl
    refine W_hide fun QL hQL => ?_
    have hpos := S.pos
    have hlen := S.len
    have hhl := S.hl
    have hjl : t / 15 % SN.2 < hs.length := by rw [hlen]; exact Nat.mod_lt _ (by lia)
    obtain ⟨a, ha⟩ : ∃ a, hs[t / 15 % SN.2]? = some a := ⟨_, List.getElem?_eq_getElem hjl⟩
    obtain ⟨ks, hf⟩ : ∃ ks, find (isA a) X = some ks := Option.ne_none_iff_exists'.mp (S.has a (List.mem_of_getElem? ha))
    obtain ⟨w1, w3, _⟩ := mod_find (g := fun ks => ks) (H := H') (H' := H') X (S.one a) hf
    obtain ⟨⟨epa, hd⟩, hrk⟩ := w3 S.rep
    have hksz : ks.length ≤ 200 := by
      have h1 := (w1 szw).2
      have h2 := sz_len ks
      have h3 := S.sz
      lia
    have hkv : (kvOf ks).length ≤ sizeLine := by
      have : (kvOf ks).length = ks.length := List.length_map _
      rw [this, hz]; lia
    refine W_cons' ?_
    refine W_Assign ?_ ?s0 ?s1
    case s0 => exact stor rfl
    case s1 => rfl
    refine W_Subscript ?_
    refine W_Name (setL_ne (by decide +kernel) vt) ?_
    refine W_BinOp ?_
    refine W_BinOp ?_
    refine W_Name setL_same ?_
    refine W_int ?_
    refine WBin_fdiv hroom (by decide) ?_
    refine W_CallB G.len (kindS rfl) ?_
    refine WItems_cons ?_
    refine W_Name (setL_ne (by decide +kernel) vt) ?_
    refine WItems_nil ?_
    refine WCall_lenL hhs (by rw [List.length_map]; lia) ?_
    rw [List.length_map]
    refine WBin_mod hroom (by lia) ?_
    have e15 : ((t : Int).fdiv 15).fmod (hs.length : Int) = ((t / 15 % SN.2 : Nat) : Int) := by
      rw [show (15 : Int) = ((15 : Nat) : Int) from rfl, fdivN t 15 (by decide), fmodN, hlen]
    rw [e15]
    refine WSub_list (v := .ref a) hhs (by lia) (by lia) ?_ ?_
    · rw [Int.toNat_natCast, List.getElem?_map, ha]; rfl
    refine contQ_next ?_
    have v1 : setL (setL m' "t" (.int t)) "table" (.ref a) "t" = some (.int t) := by repeat first | assumption | with_reducible exact setL_same | (apply setL_ne; decide +kernel)
    have v2 : setL (setL m' "t" (.int t)) "table" (.ref a) "table" = some (.ref a) := setL_same
    have v3 : setL (setL m' "t" (.int t)) "table" (.ref a) "tables" = some (.ref tA) := by rw [setL_off (by decide), setL_off (by decide)]; exact vt
    generalize setL (setL m' "t" (.int t)) "table" (.ref a) = m2 at v1 v2 v3 ⊢
    refine W_cons' ?_
    refine W_cut (fun (fl : Flow) m3 H3 => fl = .next ∧ Ext H' H3 ∧ ∃ tok, m3 = setL m2 "name" (.str (nameOf (t % 3)) tok)) ?_ ?_
    · refine W_Assign ?_ ?s0 ?s1
      case s0 => exact stor rfl
      case s1 => rfl
      refine W_pick3 fun H3 hE => ?_
      refine W_BinOp ?_
      refine W_Name v1 ?_
      refine W_int ?_
      refine WBin_mod hroom (by decide) ?_
      exact ⟨t % 3, by rw [show (3 : Int) = ((3 : Nat) : Int) from rfl, fmodN], by lia, Ext.refl _, fun tok => ⟨rfl, hE, tok, rfl⟩⟩
    intro fl m3 H3 hq
    obtain ⟨rfl, hE3, tok, rfl⟩ := hq
    refine contQ_next ?_
    have v4 : setL m2 "name" (.str (nameOf (t % 3)) tok) "t" = some (.int t) := by repeat first | assumption | with_reducible exact setL_same | (apply setL_ne; decide +kernel)
    have v5 : setL m2 "name" (.str (nameOf (t % 3)) tok) "table" = some (.ref a) := by repeat first | assumption | with_reducible exact setL_same | (apply setL_ne; decide +kernel)
    have v6 : setL m2 "name" (.str (nameOf (t % 3)) tok) "tables" = some (.ref tA) := by repeat first | assumption | with_reducible exact setL_same | (apply setL_ne; decide +kernel)
    have v7 : setL m2 "name" (.str (nameOf (t % 3)) tok) "name" = some (.str (nameOf (t % 3)) tok) := setL_same
    generalize setL m2 "name" (.str (nameOf (t % 3)) tok) = m3 at v4 v5 v6 v7 ⊢
    have ek : ((t : Int).fdiv 3).fmod 5 = ((t / 3 % 5 : Nat) : Int) := by
      rw [show (3 : Int) = ((3 : Nat) : Int) from rfl, show (5 : Int) = ((5 : Nat) : Int) from rfl, fdivN t 3 (by decide), fmodN]
    have hk5 : t / 3 % 5 < 5 := Nat.mod_lt _ (by decide)
    refine W_cons' ?_
    refine W_Assign ?_ ?s0 ?s1
    case s0 => exact stor rfl
    case s1 => rfl
    refine L5.item_ok (n := t / 3 % 5) hk5 (fun H4 => ?_) fun item H4 hE4 IA => ?_
    · refine W_BinOp ?_
      refine W_BinOp ?_
      refine W_Name v4 ?_
      refine W_int ?_
      refine WBin_fdiv hroom (by decide) ?_
      refine W_int ?_
      refine WBin_mod hroom (by decide) ?_
      exact ⟨by rw [ek], rfl, rfl⟩
    refine contQ_next ?_
    have IA' : ItemAt H' H4 (t / 3 % 5) item := { IA with
      new := fun b hb => none_less hE3 (IA.new b hb)
      tab := fun q => by obtain ⟨e, h1, h2⟩ := IA.tab q; exact ⟨e, h1, none_less hE3 h2⟩
      map := fun q => ⟨fun n f hf => (IA.map q).1 n f fun p hp => hf p (none_less hE3 hp), (IA.map q).2⟩ }
    have hE : Ext H' H4 := hE3.trans hE4
    clear IA hE3 hE4
    have hd4 := hE _ _ hd
    have hhs4 := hE _ _ hhs
    have v8 : setL m3 "item" (vOf item) "t" = some (.int t) := by repeat first | assumption | with_reducible exact setL_same | (apply setL_ne; decide +kernel)
    have v9 : setL m3 "item" (vOf item) "table" = some (.ref a) := by repeat first | assumption | with_reducible exact setL_same | (apply setL_ne; decide +kernel)
    have v10 : setL m3 "item" (vOf item) "tables" = some (.ref tA) := by repeat first | assumption | with_reducible exact setL_same | (apply setL_ne; decide +kernel)
    have v11 : setL m3 "item" (vOf item) "name" = some (.str (nameOf (t % 3)) tok) := by repeat first | assumption | with_reducible exact setL_same | (apply setL_ne; decide +kernel)
    have v12 : setL m3 "item" (vOf item) "item" = some (vOf item) := setL_same
    generalize setL m3 "item" (vOf item) = m4 at v8 v9 v10 v11 v12 ⊢
    have hkid : getK (kvOf ks) (.inr (nameOf (t % 3))) = (kidAt ks (nameOf (t % 3))).map vOf := kv_get ks
    have tAx : ∀ {X' : T Nat}, (∀ b, wt (cw b) X' ≠ 0 → wt (cw b) X ≠ 0 ∨ H' b = none) → wt (cw tA) X' = 0 := fun h => Classical.byContradiction fun q => by
      rcases h tA q with z | z
      · exact z htX
      · rw [hhs] at z; cases z
    have hs0 : ∀ e, item = .tab e [] → H' e = none := fun e q => by
      have := IA'.new e (by rw [q, wt_nil]; show hit e e ≠ 0; rw [hit_same]; decide)
      exact this
    -- what comes next: the tables' list
    have tail : ∀ (m5 : Loc) (H5 : AHeap) (hs' : List Nat) (X' : T Nat) (w : V), m5 "tables" = some (.ref tA) → m5 "item" = some w → H5 tA = some (.list (hs.map V.ref)) → GSt H H5 root hs' X' (G1 SN t) (i + 1) → wt (cw tA) X' = 0 →
        ((∃ e, w = .ref e ∧ tyOf H5 w = some "dict" ∧ hs' = hs ++ [e]) ∨ (tyOf H5 w ≠ some "dict" ∧ tyOf H5 w ≠ none ∧ hs' = hs)) →
        W k (execs [stm (fnBody (stm (fnBody L5.fGrow) 1)) 4] k.env) m5 H5 QL := by
      intro m5 H5 hs' X' w u1 u2 u3 S' u4 hc
      refine W_cons' ?_
      refine W_If ?_
      refine WT_typeIs G.type G.dict rfl rfl rfl ?_
      refine W_Name u2 ?_
      rcases hc with ⟨e, rfl, hty, rfl⟩ | ⟨hty, hty2, rfl⟩
      · refine ⟨_, hty, by simp, ?_⟩
        refine iteT ?_
        refine W_cons' ?_
        refine W_ExprStmt ?_
        refine W_CallM' PySem.F.plainAttrs_list PySem.F.slot_list_append PySem.F.type_list_append ?_
        refine W_Name u1 ?_
        refine ⟨onList u3, ?_⟩
        refine WItems_cons ?_
        refine W_Name u2 ?_
        refine WItems_nil ?_
        refine WCall_append u3 (by rw [List.length_map, hz]; lia) ?_
        refine contQ_next ?_
        refine W_nil ?_
        refine contQ_next ?_
        refine W_nil ?_
        refine hQL _ _ _ (loopQ_next ⟨u1, t0, hs ++ [e], X', ?_, u4, ?_⟩)
        · rw [List.map_append]; exact upd_same
        · rw [hfold]
          refine S'.frame (fun b hb => upd_off ?_) fun b hb _ => upd_off ?_
          · rintro rfl; exact hb u4
          · rintro rfl; exact hb t0
      · obtain ⟨Tw, hTw, hTi⟩ := tyOf_is hty2
        refine ⟨_, hTw, hTi, ?_⟩
        rw [decide_eq_false fun q => hty (by rw [hTw, q])]
        refine iteF ?_
        refine W_nil ?_
        refine contQ_next ?_
        refine W_nil ?_
        refine hQL _ _ _ (loopQ_next ⟨u1, t0, hs', X', u3, u4, ?_⟩)
        rw [hfold]; exact S'
    -- the item, as it is told in the end
    have told : ∀ H5, (∀ e, item = .tab e [] → ∃ ep', H5 e = some (.dict [] ep')) → (∀ b, wt (cw b) item ≠ 0 → H5 b = H4 b) → ∃ hs', ((t / 3 % 5 < 2 ∧ ∃ e, item = .tab e [] ∧ hs' = hs ++ [e]) ∨ (¬ t / 3 % 5 < 2 ∧ hs' = hs)) ∧
        ((∃ e, vOf item = .ref e ∧ tyOf H5 (vOf item) = some "dict" ∧ hs' = hs ++ [e]) ∨ (tyOf H5 (vOf item) ≠ some "dict" ∧ tyOf H5 (vOf item) ≠ none ∧ hs' = hs)) := by
      intro H5 h1 h2
      by_cases q : t / 3 % 5 < 2
      · obtain ⟨e, rfl, _⟩ := IA'.tab q
        obtain ⟨ep', h3⟩ := h1 e rfl
        exact ⟨hs ++ [e], .inl ⟨q, e, rfl, rfl⟩, .inl ⟨e, rfl, by show tyOf H5 (.ref e) = _; delta tyOf; dsimp only; rw [h3], rfl⟩⟩
      · have r5 : Rep H5 item := IA'.rep.frame _ h2
        obtain ⟨q1, q2⟩ := r5.ty
        have q3 := (IA'.map q).2
        exact ⟨hs, .inr ⟨q, rfl⟩, .inr ⟨by rw [q1]; exact fun z => q3 (Option.some.inj z), by rw [q1]; simp, rfl⟩⟩
    refine W_cons' ?_
    refine W_If ?_
    refine WT_Compare ?_
    refine W_Name v11 ?_
    refine W_Name v9 ?_
    refine WCmp_notInDict hd4 (key := .inr (nameOf (t % 3))) isKVs ?_
    refine WTr_bool ?_
    rw [hkid]
    cases hk : kidAt ks (nameOf (t % 3)) with
    | none =>
      refine iteT ?_
      refine W_cons' ?_
      refine W_AssignSub ?_
      refine WV_cut (fun v m5 H5 => ∃ l, m5 = m4 ∧ Ext H4 H5 ∧ v = vOf (if t / 3 % 5 = 0 ∨ t / 3 % 5 = 2 then item else .lst l [item]) ∧ H4 l = none ∧ (¬ (t / 3 % 5 = 0 ∨ t / 3 % 5 = 2) → H5 l = some (.list [vOf item]))) ?_ ?_
      · refine W_IfExp ?_
        refine WT_Compare ?_
        refine W_BinOp ?_
        refine W_BinOp ?_
        refine W_Name v8 ?_
        refine W_int ?_
        refine WBin_fdiv hroom (by decide) ?_
        refine W_int ?_
        refine WBin_mod hroom (by decide) ?_
        refine W_Tuple ?_
        refine WItems_cons ?_
        refine W_int ?_
        refine WItems_cons ?_
        refine W_int ?_
        refine WItems_nil ⟨lz rfl, fun tp htp => ?_⟩
        rw [ek]
        refine WCmp_inTup upd_same (fun v hv => by rcases List.mem_cons.mp hv with rfl | hv; rfl; rcases List.mem_cons.mp hv with rfl | hv; rfl; cases hv) rfl ?_
        refine WTr_bool ?_
        have hEt := Ext.upd (x := AObj.tup [.int 0, .int 2]) htp
        have hany : ([V.int 0, V.int 2].any fun v => eqKV v (.int ((t / 3 % 5 : Nat) : Int))) = decide (t / 3 % 5 = 0 ∨ t / 3 % 5 = 2) := by
          rw [Bool.eq_iff_iff]
          show ((0 : Int) == ((t / 3 % 5 : Nat) : Int) || ((2 : Int) == ((t / 3 % 5 : Nat) : Int) || false)) = true ↔ _
          simp
          lia
        rw [hany]
        refine ite_dec (fun q => ?_) (fun q => ?_)
        · refine W_Name v12 ⟨tp, rfl, hEt, ?_, htp, fun z => absurd q z⟩
          rw [if_pos q]
        · refine W_List ?_
          refine WItems_cons ?_
          refine W_Name v12 ?_
          refine WItems_nil ⟨lz rfl, fun l hl => ?_⟩
          refine ⟨l, rfl, hEt.trans (Ext.upd hl), ?_, none_less hEt hl, fun _ => upd_same⟩
          rw [if_neg q]; rfl
      intro v m5 H5 hq
      obtain ⟨l, rfl, hE5, rfl, hl, hl5⟩ := hq
      refine W_Name v9 ?_
      refine W_Name v11 ?_
      refine WSet_dict (hE5 _ _ hd4) (key := .inr (nameOf (t % 3))) isKVs hkv ?_
      refine contQ_next ?_
      refine W_nil ?_
      refine contQ_next ?_
      have htAa : tA ≠ a := fun q => by rw [q, hd] at hhs; cases hhs
      have hitem : ∀ b, wt (cw b) item ≠ 0 → b ≠ a := fun b hb q => by have := IA'.new b hb; rw [q, hd] at this; cases this
      have IA5 : ItemAt H' H5 (t / 3 % 5) item := { IA' with rep := IA'.rep.ext hE5 }
      generalize hep : epK (kvOf ks) (.inr (nameOf (t % 3))) epa = epz
      obtain ⟨hs', hc1, hc2⟩ := told (upd H5 a (.dict (putK (kvOf ks) (.inr (nameOf (t % 3))) (vOf (if t / 3 % 5 = 0 ∨ t / 3 % 5 = 2 then item else .lst l [item]))) epz)) (fun e q => by
        obtain ⟨ep', q1⟩ := (q ▸ IA5.rep : Rep H5 (.tab e [])).1
        exact ⟨ep', by rw [upd_off (hitem e (by rw [q, wt_nil]; show hit e e ≠ 0; rw [hit_same]; decide))]; exact q1⟩) fun b hb => by
        rw [upd_off (hitem b hb)]
        exact FrB.of_ext (P := fun _ => False) hE5 b (IA'.rep.live hb) id
      obtain ⟨X', S', hX'⟩ := S.putNew (ep := epz) ha hf hk (hE.trans hE5) IA5 (none_less hE hl) (fun q => ⟨hl5 q, IA'.rep.fresh hl⟩) (fun e q z => by
        have := (q ▸ IA'.rep : Rep H4 (.tab e [])).1
        obtain ⟨ep', q1⟩ := this
        rw [← z, hl] at q1; cases q1) hc1
      refine tail _ _ hs' X' _ v10 v12 ?_ S' (tAx hX') hc2
      rw [upd_off htAa]
      exact hE5 _ _ hhs4
    | some x =>
      refine iteF ?_
      have rx : Rep H' x := hrk.kid hk
      have rx4 : Rep H4 x := rx.ext hE
      obtain ⟨hxt, hxi⟩ := rx4.ty
      rw [hk] at hkid
      refine W_cons' ?_
      refine W_If ?_
      refine WT_typeIs G.type G.list rfl rfl rfl ?_
      refine W_SubNN v9 v11 hd4 hkid ?_
      refine ⟨_, hxt, hxi, ?_⟩
      refine ite_dec (fun hxl => ?_) (fun hxl => ?_)
      · obtain ⟨b, xs, rfl⟩ : ∃ e xs, x = .lst e xs := by cases x <;> simp [tyT] at hxl; exact ⟨_, _, rfl⟩
        refine W_cons' ?_
        refine W_ExprStmt ?_
        refine W_CallM' PySem.F.plainAttrs_list PySem.F.slot_list_append PySem.F.type_list_append ?_
        refine W_SubNN v9 v11 hd4 hkid ?_
        refine ⟨onList rx4.1, ?_⟩
        refine WItems_cons ?_
        refine W_Name v12 ?_
        refine WItems_nil ?_
        have hxsz : (xs.map vOf).length ≤ sizeLine := by
          have h1 := (w1 szw).2
          have h2 := wtK_kid (w := szw) hk
          have h3 := S.sz
          have h4 := sz_lenL xs
          have h5 : wk szw (nameOf (t % 3)) (.lst b xs) = 1 + szw.emp xs + wtL szw xs + szw.bad (nameOf (t % 3)) (.lst b xs) := rfl
          rw [List.length_map, hz]; lia
        refine WCall_append rx4.1 hxsz ?_
        refine contQ_next ?_
        refine W_nil ?_
        refine contQ_next ?_
        refine W_nil ?_
        refine contQ_next ?_
        have htAb : tA ≠ b := by
          rintro rfl
          have h1 := (w1 (cw tA)).2
          have h2 := cntK_kid (a := tA) hk
          rw [cnt_lst, hit_same] at h2; lia
        have hitem : ∀ c, wt (cw c) item ≠ 0 → c ≠ b := fun c hb q => by have := IA'.new c hb; rw [q, rx.1] at this; cases this
        obtain ⟨hs', hc1, hc2⟩ := told (upd H4 b (.list (xs.map vOf ++ [vOf item]))) (fun e q => by
          obtain ⟨ep', q1⟩ := (q ▸ IA'.rep : Rep H4 (.tab e [])).1
          exact ⟨ep', by rw [upd_off (hitem e (by rw [q, wt_nil]; show hit e e ≠ 0; rw [hit_same]; decide))]; exact q1⟩) fun c hb => upd_off (hitem c hb)
        obtain ⟨X', S', hX'⟩ := S.putApp ha hf hk hE IA' hc1
        refine tail _ _ hs' X' _ v10 v12 ?_ S' (tAx hX') hc2
        rw [upd_off htAb]; exact hhs4
      · refine W_cons' ?_
        refine W_Assign ?_ ?s0 ?s1
        case s0 => exact stor rfl
        case s1 => rfl
        refine W_int ?_
        refine contQ_next ?_
        refine W_nil ?_
        refine contQ_next ?_
        refine W_nil ?_
        refine contQ_next ?_
        have hno : okAt ks (nameOf (t % 3)) = false := by
          unfold okAt
          rw [hk]
          cases x <;> first | rfl | exact absurd rfl hxl
        have S' := S.skip (H2 := H4) ha hf hno hE
        exact tail _ _ hs X (.int 0) (setL_ne (by decide +kernel) v10) setL_same hhs4 S' htX (.inr ⟨fun q => absurd (show some "int" = some "dict" from q) (by decide), fun q => (by cases q), rfl⟩)
  · intro m' H' I
    rw [List.length_map] at I
    obtain ⟨vt, t0, hs, X, hhs, htX, S⟩ := I
    rw [List.take_length] at S
    refine contQ_next ?_
    refine W_cons' ?_
    refine W_Return' ?_
    refine W_Name vt ?_
    intro uR huR
    refine contQ_ret ?_
    exact RQ_ret huR ⟨tA, hs, X, rfl, t0, hhs, htX, S⟩
end
section
noncomputable abbrev L5.fFl : Stmt := stm L5.stmsC 8
noncomputable def hid2 (a b : Addr) (H : AHeap) : AHeap := fun p => if p = a ∨ p = b then none else H p
theorem hid2_ext {a b : Addr} {H H' : AHeap} (h : ∀ p x, p ≠ a → p ≠ b → H p = some x → H' p = some x) : Ext (hid2 a b H) (hid2 a b H') := fun p x e => by
  unfold hid2 at e ⊢
  by_cases q : p = a ∨ p = b
  · rw [if_pos q] at e; cases e
  · rw [if_neg q] at e ⊢
    rw [not_or] at q
    exact h p x q.1 q.2 e
theorem hid2_le {a b : Addr} {H : AHeap} : Ext (hid2 a b H) H := fun p x e => by
  unfold hid2 at e
  by_cases q : p = a ∨ p = b
  · rw [if_pos q] at e; cases e
  · rw [if_neg q] at e; exact e
theorem hid2_at {a b p : Addr} {H : AHeap} {x : AObj} (h1 : p ≠ a) (h2 : p ≠ b) (e : H p = some x) : hid2 a b H p = some x := by
  unfold hid2; rw [if_neg (not_or.mpr ⟨h1, h2⟩)]; exact e
structure FlS (H0 : AHeap) (wA fA : Addr) (D : List PyData) (n : Nat) (m : Loc) (H : AHeap) : Prop where
  vw : m "work" = some (.ref wA)
  vf : m "flat" = some (.ref fA)
  ne : wA ≠ fA
  w0 : H0 wA = none
  f0 : H0 fA = none
  ex : Ext H0 H
  st : ∃ (ws : List (T Nat)) (ds : List PyData) (vs : List V), H wA = some (.list (ws.map vOf)) ∧ RepL H0 ws ∧ H fA = some (.list vs) ∧ RdAll (hid2 wA fA H) ds vs ∧ ds ++ flL ws = D ∧ wtL szw ws ≤ n ∧ vs.length + n ≤ 1000000
set_option maxHeartbeats 2000000 in
theorem L5.flat_ok {c : Cx} {A : Around} {f : Addr} {X : T Nat} {H : AHeap} (F : DefAt c f L5.fFl) (hA : Room A) (G : Blt c) (rx : Rep H X) (sz : wt szw X ≤ 100000) :
    FnV c A f [vOf X] [] H (fun v H' => Ext H H' ∧ Rd H' (.list (flD X)) v) NoX := by
  refine FnV.top F hA ["tree"] rfl (fun fd rvs h1 h2 h3 hl => ?_) (by rfl) fun k hk => ?_
  · obtain ⟨x, rfl⟩ := len1 hl
    cases fd; simp only at h1 h2 h3; subst h1; subst h2; subst h3; rfl
  refine Mine.hideG fun GG back => ?_
  obtain ⟨rfl, sv, hfr, hdep, hun, hhd, hX, hhere⟩ := hk
  refine back ?_
  clear back
  have hh : k.A.handled = none := hhd.trans hA.handled
  have hz : sizeLine = _ := sizeLine_eq
  show W k (execs (fnBody L5.fFl) k.env) (setL noLoc "tree" (vOf X)) H _
  refine W_cons' ?_
  refine W_Assign ?_ ?s0 ?s1
  case s0 => exact stor rfl
  case s1 => exact swaps_List
  refine W_List ?_
  refine WItems_nil ⟨lz rfl, fun fA hfA => ?_⟩
  refine contQ_next ?_
  refine W_cons' ?_
  refine W_Assign ?_ ?s0 ?s1
  case s0 => exact stor rfl
  case s1 => exact swaps_List
  refine W_List ?_
  refine WItems_cons ?_
  refine W_Name (by repeat first | assumption | with_reducible exact setL_same | (apply setL_ne; decide +kernel)) ?_
  refine WItems_nil ⟨lz rfl, fun wA hwA => ?_⟩
  refine contQ_next ?_
  have hne : wA ≠ fA := fun q => by rw [q, upd_same] at hwA; cases hwA
  have I0 : FlS H wA fA (flD X) (wt szw X) (setL (setL (setL noLoc "tree" (vOf X)) "flat" (.ref fA)) "work" (.ref wA)) (upd (upd H fA (.list [])) wA (.list [vOf X])) :=
    ⟨setL_same, by repeat first | assumption | with_reducible exact setL_same | (apply setL_ne; decide +kernel), hne, none_less (Ext.upd hfA) hwA, hfA, (Ext.upd hfA).trans (Ext.upd hwA), [X], [], [], upd_same, ⟨rx, trivial⟩, upd_ne (Ne.symm hne) upd_same, rfl, rfl, Nat.le_refl _, by simp; lia⟩
  generalize setL (setL (setL noLoc "tree" (vOf X)) "flat" (.ref fA)) "work" (.ref wA) = m1 at I0 ⊢
  generalize upd (upd H fA (.list [])) wA (.list [vOf X]) = H1 at I0 ⊢
  refine W_cons' ?_
  refine W_While (fun n m' H' => FlS H wA fA (flD X) n m' H') (wt szw X) I0 fun n m' H' I => ?_
  obtain ⟨vw, vf, _, w0, f0, ex, ws, ds, vs, hw, rw_, hf, hrd, hD, hsz, hn⟩ := I
  refine WT_plain ?_
  refine W_Name vw ?_
  have hwl := sz_lenL ws
  refine WTr_list hw (by rw [List.length_map]; lia) ?_
  rcases List.eq_nil_or_concat ws with rfl | ⟨ws0, t, rfl⟩
  · show if false = true then _ else _
    rw [if_neg Bool.false_ne_true]
    refine contQ_next ?_
    refine W_cons' ?_
    refine W_Return' ?_
    refine W_Name vf ?_
    intro uR huR
    refine contQ_ret ?_
    have hDD : ds = flD X := by rw [← hD]; exact (List.append_nil _).symm
    exact RQ_ret huR ⟨ex, fA, vs, rfl, hf, hDD ▸ RdAll.ext hid2_le ds vs hrd⟩
  rw [List.concat_eq_append] at hw rw_ hD hsz
  have hem : (!((ws0 ++ [t]).map vOf).isEmpty) = true := by cases ws0 <;> rfl
  rw [List.concat_eq_append, hem]
  refine iteT ?_
  rw [List.map_append] at hw
  obtain ⟨rw0, rt, _⟩ := RepL.append.mp rw_
  have hsz2 : wtL szw ws0 + wt szw t ≤ n := by rw [wtL_snoc] at hsz; exact hsz
  have hD2 : ds ++ (flD t ++ flL ws0) = flD X := by
    rw [← hD, flL_app]
    show _ = ds ++ (([] ++ flD t) ++ flL ws0)
    rw [List.nil_append]
  have hwl0 := sz_lenL ws0
  refine W_hide fun QL hQL => ?_
  refine W_cons' ?_
  refine W_Assign ?_ ?s0 ?s1
  case s0 => exact stor rfl
  case s1 => rfl
  refine W_CallM' PySem.F.plainAttrs_list PySem.F.slot_list_pop PySem.F.type_list_pop ?_
  refine W_Name vw ?_
  refine ⟨onList hw, ?_⟩
  refine WItems_nil ?_
  refine WCall_pop hw (by rw [List.length_map, hz]; lia) ?_
  refine contQ_next ?_
  have hw1 : upd H' wA (.list (ws0.map vOf)) wA = some (.list (ws0.map vOf)) := upd_same
  have hf1 : upd H' wA (.list (ws0.map vOf)) fA = some (.list vs) := upd_ne (Ne.symm hne) hf
  have ex1 : Ext H (upd H' wA (.list (ws0.map vOf))) := fun p x e => upd_ne (fun q => by rw [q, w0] at e; cases e) (ex p x e)
  have hrd1 : RdAll (hid2 wA fA (upd H' wA (.list (ws0.map vOf)))) ds vs := RdAll.ext (hid2_ext fun p x h1 h2 e => upd_ne h1 e) ds vs hrd
  generalize upd H' wA (.list (ws0.map vOf)) = H2 at hw1 hf1 ex1 hrd1 ⊢
  have v1 : setL m' "one" (vOf t) "one" = some (vOf t) := setL_same
  have v2 : setL m' "one" (vOf t) "work" = some (.ref wA) := by rw [setL_off (by decide)]; exact vw
  have v3 : setL m' "one" (vOf t) "flat" = some (.ref fA) := by rw [setL_off (by decide)]; exact vf
  generalize setL m' "one" (vOf t) = m2 at v1 v2 v3 ⊢
  have rt2 : Rep H2 t := rt.ext ex1
  obtain ⟨hty, hti⟩ := rt2.ty
  have htpos := sz_pos t
  have hvl : vs.length ≤ sizeLine := by lia
  -- the end of a round
  have fin : ∀ (m3 : Loc) (H3 : AHeap) (kids : List (T Nat)) (d : PyData) (v : V), m3 "work" = some (.ref wA) → m3 "flat" = some (.ref fA) → Ext H H3 → H3 wA = some (.list (ws0.map vOf ++ kids.map vOf)) → H3 fA = some (.list (vs ++ [v])) → RdAll (hid2 wA fA H3) ds vs → Rd (hid2 wA fA H3) d v → RepL H kids → flD t = d :: flL kids → wtL szw kids + 1 ≤ wt szw t →
      QL .next m3 H3 := by
    intro m3 H3 kids d v u1 u2 u3 u4 u5 u6 u7 u8 u9 u10
    have hk : wtL szw (ws0 ++ kids) + 1 ≤ n := by rw [wtL_append]; lia
    refine hQL _ _ _ (loopQ_next ⟨n - 1, by lia, u1, u2, hne, w0, f0, u3, ws0 ++ kids, ds ++ [d], vs ++ [v], by rw [List.map_append]; exact u4, RepL.append.mpr ⟨rw0, u8⟩, u5, RdAll.app (RdAll.one u7) u6, ?_, by lia, by rw [List.length_append, List.length_singleton]; lia⟩)
    rw [← hD2, u9, flL_app, List.append_assoc]
    rfl
  refine W_cons' ?_
  refine W_If ?_
  refine WT_typeIs G.type G.dict rfl rfl rfl ?_
  refine W_Name v1 ?_
  refine ⟨_, hty, hti, ?_⟩
  refine ite_dec (fun hdict => ?_) (fun hdict => ?_)
  · obtain ⟨a, ks, rfl⟩ : ∃ a ks, t = .tab a ks := by cases t <;> simp [tyT] at hdict; exact ⟨_, _, rfl⟩
    obtain ⟨ep, hd⟩ := rt2.1
    have hkl : (kvOf ks).length = ks.length := List.length_map _
    have hks := sz_len ks
    have ezt : wt szw (.tab a ks) = 1 + wtK szw ks := rfl
    have hsnd : ∀ ks : List (Str × T Nat), wtL szw (ks.map (·.2)) ≤ wtK szw ks := by
      intro ks
      induction ks with
      | nil => exact Nat.le_refl _
      | cons p r ih =>
        obtain ⟨n, t⟩ := p
        rw [wtK_cons]
        show wt szw t + wtL szw (r.map (·.2)) ≤ wt szw t + szw.bad n t + wtK szw r
        lia
    refine W_cons' ?_
    refine W_ExprStmt ?_
    refine W_CallM' PySem.F.plainAttrs_list PySem.F.slot_list_append PySem.F.type_list_append ?_
    refine W_Name v3 ?_
    refine ⟨onList hf1, ?_⟩
    refine WItems_cons ?_
    refine W_CallT G.list (kindS rfl) ?_
    refine WItems_cons ?_
    refine W_Name v1 ?_
    refine WItems_nil ?_
    refine WCall_listD hh hd (by lia) fun p xs hxl hxs hp => ?_
    refine WItems_nil ?_
    refine WCall_append (upd_fresh hp hf1) hvl ?_
    refine contQ_next ?_
    have hpw : p ≠ wA := fun q => by rw [q, hw1] at hp; cases hp
    have hpf : p ≠ fA := fun q => by rw [q, hf1] at hp; cases hp
    have x3 : Ext H (upd (upd H2 p (.list xs)) fA (.list (vs ++ [.ref p]))) := fun q x e => upd_ne (fun z => by rw [z, f0] at e; cases e) (upd_fresh hp (ex1 q x e))
    have w3 : upd (upd H2 p (.list xs)) fA (.list (vs ++ [.ref p])) wA = some (.list (ws0.map vOf)) := upd_ne hne (upd_fresh hp hw1)
    have f3 : upd (upd H2 p (.list xs)) fA (.list (vs ++ [.ref p])) fA = some (.list (vs ++ [.ref p])) := upd_same
    have p3 : upd (upd H2 p (.list xs)) fA (.list (vs ++ [.ref p])) p = some (.list xs) := upd_ne hpf upd_same
    have r3 : RdAll (hid2 wA fA (upd (upd H2 p (.list xs)) fA (.list (vs ++ [.ref p])))) ds vs := RdAll.ext (hid2_ext fun q x h1 h2 e => upd_ne h2 (upd_fresh hp e)) ds vs hrd1
    have d3 := x3 _ _ (show H a = some (.dict (kvOf ks) (Classical.choose rt.1)) from Classical.choose_spec rt.1)
    generalize upd (upd H2 p (.list xs)) fA (.list (vs ++ [.ref p])) = H3 at x3 w3 f3 p3 r3 d3 ⊢
    refine W_nodup d3 fun hnod => ?_
    have hnd := getK_nth hnod
    refine W_cons' ?_
    refine W_ExprStmt ?_
    refine W_CallM' PySem.F.plainAttrs_list PySem.F.slot_list_extend PySem.F.type_list_extend ?_
    refine W_Name v2 ?_
    refine ⟨onList w3, ?_⟩
    refine WItems_cons ?_
    refine W_ListComp ?s0 ?s1 ?s2 ?_
    case s0 => rfl
    case s1 => rfl
    case s2 => rfl
    refine W_Name v1 ?_
    refine ⟨_, _, _, fun j acc H4 => H4 = H3 ∧ acc = (ks.take j).map fun p => vOf p.2, WIter_dict hh d3, ⟨rfl, rfl⟩, fun j acc H4 hI => ⟨kvOf ks, by rw [hI.1]; exact d3, rfl⟩, by lia, ?_, ?_⟩
    · intro kc hkc j v acc mc H4 hj hv hI hcap hxn
      haveI := hkc.senv (sc := fnScope L5.fFl) (cn := cellNames (fnScope L5.fFl).names)
      obtain ⟨rfl, rfl⟩ := hI
      obtain ⟨kv, hkv, hks2⟩ := hv
      refine W_tests_nil ⟨rfl, ?_⟩
      rw [if_pos rfl]
      refine W_Subscript ?_
      refine W_Name (hcap.get v1 rfl) ?_
      refine W_Name hxn ?_
      refine WSub_dict d3 hks2 (hnd j kv hkv) ⟨rfl, rfl, ?_⟩
      unfold kvOf at hkv
      rw [List.getElem?_map, Option.map_eq_some_iff] at hkv
      obtain ⟨q, hq, rfl⟩ := hkv
      rw [take_succ hq, List.map_append]; rfl
    · intro E acc H4 hal hI hE
      obtain ⟨rfl, rfl⟩ := hI
      have hEw : wA ≠ E := fun q => by rw [← q, w3] at hE; cases hE
      rw [hkl, List.take_length]
      refine WItems_nil ?_
      refine WCall_extend (upd_ne hEw w3) upd_same ?_ ?_
      · rw [List.length_map, List.length_map]; lia
      refine contQ_next ?_
      refine W_nil ?_
      refine contQ_next ?_
      refine W_nil ?_
      have hfE : fA ≠ E := fun q => by rw [← q, f3] at hE; cases hE
      refine fin _ _ (ks.map (·.2)) (.list (ks.map fun p => .str p.1)) (.ref p) v2 v3 ?_ ?_ ?_ ?_ ?_ ?_ ?_ ?_
      · exact fun q x e => upd_ne (fun z => by rw [z, w0] at e; cases e) (upd_fresh hE (x3 q x e))
      · rw [List.map_map]; exact upd_same
      · exact upd_ne (Ne.symm hne) (upd_ne hfE f3)
      · exact RdAll.ext (hid2_ext fun q x h1 h2 e => upd_ne h1 (upd_fresh hE e)) ds vs r3
      · refine ⟨p, xs, rfl, hid2_at hpw hpf (upd_ne hpw (upd_fresh hE p3)), ?_⟩
        have e1 : (ks.map fun p => PyData.str p.1) = (ks.map (·.1)).map .str := by rw [List.map_map]; rfl
        rw [e1]
        refine rd_strs _ xs (by rw [hxl, hkl, List.length_map]) fun i nm x h1 h2 => ?_
        rw [List.getElem?_map, Option.map_eq_some_iff] at h1
        obtain ⟨q, hq, rfl⟩ := h1
        exact hxs i (.inr q.1, vOf q.2) x (by unfold kvOf; rw [List.getElem?_map, hq]; rfl) h2
      · exact repK_snd ks rt.2
      · show _ :: flK ks = _
        rw [flK_snd]
      · have := hsnd ks; lia
  · refine W_cons' ?_
    refine W_If ?_
    refine WT_typeIs G.type G.list rfl rfl rfl ?_
    refine W_Name v1 ?_
    refine ⟨_, hty, hti, ?_⟩
    refine ite_dec (fun hlist => ?_) (fun hlist => ?_)
    · obtain ⟨a, xs, rfl⟩ : ∃ a xs, t = .lst a xs := by cases t <;> simp [tyT] at hlist; exact ⟨_, _, rfl⟩
      have ezt : wt szw (.lst a xs) = 1 + szw.emp xs + wtL szw xs := rfl
      have hxs := sz_lenL xs
      have haf : a ≠ fA := fun q => by have := rt.1; rw [q, f0] at this; cases this
      have haw : a ≠ wA := fun q => by have := rt.1; rw [q, w0] at this; cases this
      refine W_cons' ?_
      refine W_ExprStmt ?_
      refine W_CallM' PySem.F.plainAttrs_list PySem.F.slot_list_append PySem.F.type_list_append ?_
      refine W_Name v3 ?_
      refine ⟨onList hf1, ?_⟩
      refine WItems_cons ?_
      refine W_CallB G.len (kindS rfl) ?_
      refine WItems_cons ?_
      refine W_Name v1 ?_
      refine WItems_nil ?_
      refine WCall_lenL rt2.1 (by rw [List.length_map]; lia) ?_
      refine WItems_nil ?_
      refine WCall_append hf1 hvl ?_
      refine contQ_next ?_
      refine W_cons' ?_
      refine W_ExprStmt ?_
      refine W_CallM' PySem.F.plainAttrs_list PySem.F.slot_list_extend PySem.F.type_list_extend ?_
      refine W_Name v2 ?_
      refine ⟨onList (upd_ne hne hw1), ?_⟩
      refine WItems_cons ?_
      refine W_Name v1 ?_
      refine WItems_nil ?_
      refine WCall_extend (upd_ne hne hw1) (upd_ne haf rt2.1) (by rw [List.length_map, List.length_map, hz]; lia) ?_
      refine contQ_next ?_
      refine W_nil ?_
      refine contQ_next ?_
      refine W_nil ?_
      refine contQ_next ?_
      refine W_nil ?_
      rw [List.length_map]
      refine fin _ _ xs (.int xs.length) (.int xs.length) v2 v3 ?_ upd_same ?_ ?_ rfl rt.2 rfl ?_
      · exact fun q x e => upd_ne (fun z => by rw [z, w0] at e; cases e) (upd_ne (fun z => by rw [z, f0] at e; cases e) (ex1 q x e))
      · exact upd_ne (Ne.symm hne) upd_same
      · exact RdAll.ext (hid2_ext fun q x h1 h2 e => upd_ne h1 (upd_ne h2 e)) ds vs hrd1
      · lia
    · refine W_cons' ?_
      refine W_ExprStmt ?_
      refine W_CallM' PySem.F.plainAttrs_list PySem.F.slot_list_append PySem.F.type_list_append ?_
      refine W_Name v3 ?_
      refine ⟨onList hf1, ?_⟩
      refine WItems_cons ?_
      refine W_Tuple ?_
      refine WItems_cons ?_
      refine W_Name v1 ?_
      refine WItems_nil ⟨lz rfl, fun p hp => ?_⟩
      refine WItems_nil ?_
      refine WCall_append (upd_fresh hp hf1) hvl ?_
      refine contQ_next ?_
      refine W_nil ?_
      refine contQ_next ?_
      refine W_nil ?_
      refine contQ_next ?_
      refine W_nil ?_
      have hpw : p ≠ wA := fun q => by rw [q, hw1] at hp; cases hp
      have hpf : p ≠ fA := fun q => by rw [q, hf1] at hp; cases hp
      have leaf : ∀ d, flD t = [.tuple [d]] → (∀ H, Rd H d (vOf t)) → _ := fun d h1 h2 => fin m2 (upd (upd H2 p (.tup [vOf t])) fA (.list (vs ++ [.ref p]))) [] (.tuple [d]) (.ref p) v2 v3
        (fun q x e => upd_ne (fun z => by rw [z, f0] at e; cases e) (upd_fresh hp (ex1 q x e)))
        (by rw [List.map_nil, List.append_nil]; exact upd_ne hne (upd_fresh hp hw1)) upd_same
        (RdAll.ext (hid2_ext fun q x h1 h2 e => upd_ne h2 (upd_fresh hp e)) ds vs hrd1)
        ⟨p, [vOf t], rfl, hid2_at hpw hpf (upd_ne hpf upd_same), RdAll.one (h2 _)⟩ trivial (by rw [h1]; rfl) htpos
      cases t with
      | tab a ks => exact absurd rfl hdict
      | lst a xs => exact absurd rfl hlist
      | int i => exact leaf (.int i) rfl fun _ => rfl
      | txt i => exact leaf (.str (Str.ofString "a")) rfl fun _ => ⟨i, rfl⟩
end
section
noncomputable abbrev L5.fLaw : Stmt := stm L5.stmsC 9
structure L5.Defs (c : Cx) (C fI fG fA fD fK fGr fB fM fF : Addr) : Prop where
  blt : Blt c
  nest : NestAt c C fI fG fA L5.cls
  gC : Gl c "NestedDict" (.ref C)
  dig : DefAt c fD L5.fDig
  gDig : Gl c "_law_digits" (.ref fD)
  key : DefAt c fK L5.fKey
  gKey : Gl c "_law_key" (.ref fK)
  grow : DefAt c fGr L5.fGrow
  gGrow : Gl c "_law_grow" (.ref fGr)
  br : DefAt c fB L5.fBr
  gBr : Gl c "_law_branch" (.ref fB)
  me : DefAt c fM L5.fMe
  gMe : Gl c "_law_merge" (.ref fM)
  fl : DefAt c fF L5.fFl
  gFl : Gl c "_law_flat" (.ref fF)
noncomputable abbrev L5.outer : Stmt := stm (fnBody L5.fLaw) 9
noncomputable abbrev L5.inner : Stmt := stm (fnBody L5.outer) 0
noncomputable def offL (L : List Str) (m m' : Loc) : Prop := ∀ y, y ∉ L → m' y = m y
theorem offL.set {L : List Str} {m m' : Loc} {x : Str} {v : V} (h : offL L m m') (hx : x ∈ L) : offL L m (setL m' x v) := fun y hy => by
  rw [setL_off (fun e => hy (by rw [e]; exact hx))]; exact h y hy
theorem offL.clr {L : List Str} {m m' : Loc} {x : Str} (h : offL L m m') (hx : x ∈ L) : offL L m (clr m' x) := fun y hy => by
  unfold Mine.clr; rw [if_neg (show ¬ y = x from fun e => hy (by rw [e]; exact hx))]; exact h y hy
theorem offL.refl {L : List Str} {m : Loc} : offL L m m := fun _ _ => rfl
section
variable {G a b c d e f g h i j k l : Prop}
theorem an2 (q : a ∧ b) (r : a → b → G) : G := r q.1 q.2
theorem an3 (q : a ∧ b ∧ c) (r : a → b → c → G) : G := r q.1 q.2.1 q.2.2
theorem an4 (q : a ∧ b ∧ c ∧ d) (r : a → b → c → d → G) : G := r q.1 q.2.1 q.2.2.1 q.2.2.2
theorem an10 (q : a ∧ b ∧ c ∧ d ∧ e ∧ f ∧ g ∧ h ∧ i ∧ j) (r : a → b → c → d → e → f → g → h → i → j → G) : G := r q.1 q.2.1 q.2.2.1 q.2.2.2.1 q.2.2.2.2.1 q.2.2.2.2.2.1 q.2.2.2.2.2.2.1 q.2.2.2.2.2.2.2.1 q.2.2.2.2.2.2.2.2.1 q.2.2.2.2.2.2.2.2.2
theorem ex2 {A B : Type} {P : A → B → Prop} (q : ∃ x y, P x y) (r : ∀ x y, P x y → G) : G := by obtain ⟨x, y, h⟩ := q; exact r x y h
end
noncomputable def pairL : List Str := ["clashes", "told", "error"]
theorem txts_rd {H : AHeap} {cA : Addr} {msgs : List Str} (h : TxtsAt H cA msgs) : Rd H (.list (msgs.map .str)) (.ref cA) := by
  obtain ⟨ps, h1, rfl⟩ := h
  exact ⟨cA, _, rfl, h1, rdStrs ps⟩
set_option maxHeartbeats 2000000 in
theorem L5.pair_ok {k : Wk} {m : Loc} {H : AHeap} {N Y : T Nat} {C fI fG fA fD fK fGr fB fM fF x dx kt : Addr} {keys : List (Str × Tok)} {g pl : Int} {Q : Flow → Loc → AHeap → Prop} {body : List Stmt} [sv : SEnv k (fnScope L5.fLaw) (cellNames (fnScope L5.fLaw).names)]
    (hbd : body = fnBody L5.inner) (D : L5.Defs k.c C fI fG fA fD fK fGr fB fM fF) (hA : Room k.A) (hA' : k.A.depth ≤ 500 ∧ k.A.units ≤ 1500) (hfr : k.env.frame = some k.env.locals)
    (vn : m "nest" = some (.ref x)) (vt : m "twin" = some (vOf Y)) (vk : m "key" = some (.ref kt)) (vg : m "grows" = some (.int g)) (vp : m "place" = some (.int pl))
    (hx : H x = some (.inst C dx)) (hd : H dx = some (.attrs (vOf N))) (hkt : H kt = some (.tup (strsV keys))) (hk0 : keys ≠ []) (hk3 : keys.length ≤ 3) (hkn : ∀ q ∈ keys, ∃ i, q.1 = nameOf i)
    (tN : ∃ a ks, N = .tab a ks) (tY : ∃ a ks, Y = .tab a ks) (rN : Rep H N) (rY : Rep H Y) (c1 : ∀ b, wt (cw b) N + wt (cw b) Y ≤ 1) (hsh : T.map nonT nonT N = T.map nonT nonT Y) (eN : wt emw N = 0) (eY : wt emw Y = 0) (sN : wt szw N ≤ 10000) (sY : wt szw Y ≤ 10000)
    (h1 : cl 4 (T.map nonT nonT N) (brN (decide (g ≠ 0)) pl (keys.map (·.1))) = [] → ∀ m' H' N' Y', offL pairL m m' → Pair H N Y (brN (decide (g ≠ 0)) pl (keys.map (·.1))) H' N' Y' → Q .next m' H')
    (h2 : cl 4 (T.map nonT nonT N) (brN (decide (g ≠ 0)) pl (keys.map (·.1))) ≠ [] → ∀ m' H' N' Y', offL pairL m m' → Pair H N Y (brN (decide (g ≠ 0)) pl (keys.map (·.1))) H' N' Y' → Q .brk m' H') :
    W k (execs body k.env) m H Q := by
  subst hbd
  have hz : sizeLine = _ := sizeLine_eq
  have hh : k.A.handled = none := hA.handled
  have hu : k.A.units + 64 < cLine := Nat.lt_of_le_of_lt (Nat.add_le_add_right hA'.2 64) (by decide)
  have hns : ∀ n ∈ keys.map (·.1), n ≠ Str.ofString "at" := fun n hn => by
    obtain ⟨q, hq, rfl⟩ := List.mem_map.mp hn
    obtain ⟨i, e⟩ := hkn q hq
    rw [e]; exact nameOf_at i
  have hn0 : keys.map (·.1) ≠ [] := fun e => hk0 (List.map_eq_nil_iff.mp e)
  have hn3 : (keys.map (·.1)).length ≤ 3 := by rw [List.length_map]; exact hk3
  generalize hbN : brN (decide (g ≠ 0)) pl (keys.map (·.1)) = bN at h1 h2
  have hbsz := br_sz (g := decide (g ≠ 0)) (pl := pl) (keys.map (·.1))
  rw [hbN] at hbsz
  have hYb : Yok 4 bN := by rw [← hbN]; exact Yok_br _ 4 hn0 hns (by lia)
  have htold : ∀ y : T (Option Nat), (∃ a ks, y = .tab a ks) → (cl 4 y bN = [] ∧ Takes 4 y bN) ∨ (M 4 y bN = y ∧ ∃ msg, cl 4 y bN = [msg] ∧ PyData.strOk msg = true) := fun y hy => by rw [← hbN]; exact told_all hy hns hn0 hn3
  refine Mine.hideG fun GG back => ?_
  obtain ⟨foM, fdM, hfoM, hfdM⟩ := D.me.obj
  obtain ⟨foB, fdB, hfoB, hfdB⟩ := D.br.obj
  refine back ?_
  clear back
  refine W_cons' ?_
  refine W_cut (fun (fl : Flow) m2 H2 => fl = .next ∧ ∃ cA Y', m2 = setL m "clashes" (.ref cA) ∧ H cA = none ∧ TxtsAt H2 cA (cl 4 (T.map nonT nonT N) bN) ∧ Rep H2 Y' ∧ vOf Y' = vOf Y ∧ (∀ p, wt (cw p) Y' ≤ 1) ∧ (∀ p, wt (cw p) Y' ≠ 0 → wt (cw p) Y ≠ 0 ∨ H p = none) ∧ wt (cw cA) Y' = 0 ∧ FrB H H2 (fun p => wt (cw p) Y ≠ 0) ∧
      T.map nonT nonT Y' = M 4 (T.map nonT nonT Y) bN) ?_ ?_
  · refine W_Assign ?_ ?s0 ?s1
    case s0 => exact stor rfl
    case s1 => rfl
    refine W_CallF D.gMe (kindS rfl) hfoM hfdM ?_
    refine WItems_cons ?_
    refine W_Name vt ?_
    refine WItems_cons ?_
    refine W_CallF D.gBr (kindS rfl) hfoB hfdB ?_
    refine WItems_cons ?_
    refine W_Name vk ?_
    refine WItems_cons ?_
    refine W_Name vg ?_
    refine WItems_cons ?_
    refine W_Name vp ?_
    refine WItems_nil ?_
    refine FnV.mono (L5.branch_ok (pl := pl) (g := g) D.br hA D.blt hkt hk0 hk3) ?_ fun _ _ _ q => q.elim
    intro v H1 hv
    obtain ⟨b, rfl, hE1, B⟩ := hv
    rw [hbN] at B
    refine WItems_nil ?_
    have hbm : T.map nonT nonT b = bN := B.map nonT fun _ _ => rfl
    have hbs : wt szw b ≤ 5 := by rw [← sz_map (f := nonT) (g := nonT) b, hbm]; have := hbsz.1; rw [List.length_map] at this; lia
    have hbe : wt emw b = 0 := by rw [← em_map (f := nonT) (g := nonT) b, hbm]; exact hbsz.2.1
    have cYb : ∀ p, wt (cw p) Y + wt (cw p) b ≤ 1 := fun p => by
      by_cases q : wt (cw p) b = 0
      · have := c1 p; lia
      · have := rY.fresh (B.new p q)
        have := B.one p; lia
    refine FnV.mono (L5.merge_ok (d := 4) D.me hA D.blt tY (Yok_map 4 b (by rw [hbm]; exact hYb)) (rY.ext hE1) B.rep cYb (by lia) (by lia)) ?_ fun _ _ _ q => q.elim
    intro v H2 hv
    obtain ⟨cA, rfl, hcA, hcl, hrY, hf2⟩ := hv
    have hcl2 : cl 4 Y b = cl 4 (T.map nonT nonT N) bN := by rw [← cl_map (f := nonT) (g := nonT) 4 Y b, hbm, hsh]
    have hcM := fun p => wt_M (w := cw p) 4 Y b
    refine ⟨rfl, cA, M 4 Y b, rfl, none_less hE1 hcA, by rw [← hcl2]; exact hcl, hrY, (tab_M tY).2, fun p => Nat.le_trans (hcM p) (cYb p), fun p hp => ?_, ?_, fun p hp hq => ?_, ?_⟩
    · have := hcM p
      by_cases q : wt (cw p) b = 0
      · left; lia
      · exact .inr (B.new p q)
    · have := hcM cA
      have := (rY.ext hE1).fresh hcA
      have := B.rep.fresh hcA
      lia
    · have hp1 : H1 p = H p := FrB.of_ext (P := fun _ => False) hE1 p hp id
      have hb0 : wt (cw p) b = 0 := Classical.byContradiction fun z => hp (B.new p z)
      have hp0 : wt (cw p) Y = 0 := Classical.byContradiction hq
      rw [hf2 p (by rw [hp1]; exact hp) (fun z => z (by lia)), hp1]
    · rw [map_M, hbm]
  intro fl m2 H2 hq
  refine an2 hq fun e1 hq1 => ?_
  clear hq
  subst e1
  refine ex2 hq1 fun cA Y' hq2 => ?_
  clear hq1
  refine an10 hq2 fun e2 hcA0 hcl rY' vY' cY' nY' zY' fr2 mY' => ?_
  clear hq2
  subst e2
  refine contQ_next ?_
  have nz : ∀ {p : Addr} {n : Nat}, n = 0 → ¬ (fun _ : Addr => n ≠ 0) p := fun h z => z h
  have hoffN : ∀ p, wt (cw p) N ≠ 0 → wt (cw p) Y = 0 := fun p hp => by have := c1 p; lia
  have rN2 : Rep H2 N := rN.frame _ fun p hp => fr2 p (rN.live hp) (nz (p := p) (hoffN p hp))
  have hx2 : H2 x = some (.inst C dx) := by rw [fr2 x (nsome (hx)) (nz (p := x) (off_inst rY hx))]; exact hx
  have hd2 : H2 dx = some (.attrs (vOf N)) := by rw [fr2 dx (nsome (hd)) (nz (p := dx) (off_attrs rY hd))]; exact hd
  have hkt2 : H2 kt = some (.tup (strsV keys)) := by rw [fr2 kt (nsome (hkt)) (nz (p := kt) (off_tup rY hkt))]; exact hkt
  obtain ⟨aN, kN, rfl⟩ := tN
  have cN : ∀ p, wt (cw p) (.tab aN kN) ≤ 1 := fun p => by have := c1 p; lia
  have lv2 : ∀ p, H2 p = none → H p = none ∨ wt (cw p) Y ≠ 0 := fun p hp => by
    by_cases q : wt (cw p) Y = 0
    · left
      cases e : H p with
      | none => rfl
      | some y =>
        have := fr2 p (nsome (e)) (nz (p := p) q)
        rw [hp, e] at this; cases this
    · exact .inr q
  have hcNA : wt (cw cA) (.tab aN kN) = 0 := rN.fresh hcA0
  -- N is changed as the branch tells
  have mkPair : ∀ H3 H4 N', Ext H2 H3 → Chg H3 4 (.tab aN kN) bN H4 N' → Pair H (.tab aN kN) Y bN H4 N' Y' := fun H3 H4 N' hE C => by
    have h23 : ∀ p, H2 p ≠ none → H3 p = H2 p := fun p hp => FrB.of_ext (P := fun _ => False) hE p hp id
    have hN3 : ∀ p, H3 p = none → H2 p = none := fun p hp => none_less hE hp
    have hYN : ∀ p, wt (cw p) Y' ≠ 0 → wt (cw p) (.tab aN kN) = 0 := fun p hp => by
      rcases nY' p hp with z | z
      · have := c1 p; lia
      · exact rN.fresh z
    refine ⟨C.v, vY', C.rep, rY'.frame _ fun p hp => ?_, fun p => ?_, fun p hp => ?_, fun p hp hq => ?_, fun f hf hfY => ?_, mY'⟩
    · have h1 := rY'.live hp
      rw [C.fr p (by rw [h23 p h1]; exact h1) (nz (p := p) (hYN p hp)), h23 p h1]
    · by_cases q : wt (cw p) N' = 0
      · have := cY' p; lia
      · have := C.one p
        rcases C.new p q with z | z
        · have : wt (cw p) Y' = 0 := Classical.byContradiction fun w => z (hYN p w)
          lia
        · have := rY'.fresh (hN3 p z); lia
    · by_cases q : wt (cw p) N' = 0
      · rcases nY' p (by lia) with z | z
        · left; lia
        · exact .inr z
      · rcases C.new p q with z | z
        · left; lia
        · rcases lv2 p (hN3 p z) with w | w
          · exact .inr w
          · left; lia
    · have hq : ¬ (wt (cw p) (.tab aN kN) + wt (cw p) Y ≠ 0) := hq
      have h2 := fr2 p hp (nz (p := p) (by lia))
      have h3 : H2 p ≠ none := by rw [h2]; exact hp
      rw [C.fr p (by rw [h23 p h3]; exact h3) (nz (p := p) (by lia)), h23 p h3, h2]
    · refine C.map f fun p hp => ?_
      rcases lv2 p (hN3 p hp) with w | w
      · exact hf p w
      · exact hfY p w
  have vg2 : setL m "clashes" (.ref cA) "grows" = some (.int g) := by repeat first | assumption | with_reducible exact setL_same | (apply setL_ne; decide +kernel)
  have vn2 : setL m "clashes" (.ref cA) "nest" = some (.ref x) := by repeat first | assumption | with_reducible exact setL_same | (apply setL_ne; decide +kernel)
  have vk2 : setL m "clashes" (.ref cA) "key" = some (.ref kt) := by repeat first | assumption | with_reducible exact setL_same | (apply setL_ne; decide +kernel)
  have vp2 : setL m "clashes" (.ref cA) "place" = some (.int pl) := by repeat first | assumption | with_reducible exact setL_same | (apply setL_ne; decide +kernel)
  have vc2 : setL m "clashes" (.ref cA) "clashes" = some (.ref cA) := setL_same
  have o2 : offL pairL m (setL m "clashes" (.ref cA)) := offL.refl.set (by decide)
  generalize setL m "clashes" (.ref cA) = m2 at vg2 vn2 vk2 vp2 vc2 o2 ⊢
  generalize hCL : cl 4 (T.map nonT nonT (.tab aN kN)) bN = CL at h1 h2 hcl
  have hCLc := htold (T.map nonT nonT (.tab aN kN)) ⟨_, _, rfl⟩
  rw [hCL] at hCLc
  have N0 : NestAt k.c C fI fG fA L5.cls := D.nest
  refine Mine.hideG fun GG back => ?_
  obtain ⟨fdG, FG1, FG2⟩ := N0.get
  obtain ⟨fdA, FA1, FA2⟩ := N0.app.at_
  refine back ?_
  clear back
  refine W_cons' ?_
  refine W_cut (fun (fl : Flow) m3 H3 => (fl = .next ∧ CL = [] ∧ ∃ v Hc, m3 = setL m2 "told" v ∧ Ext H2 Hc ∧ ((g ≠ 0 ∧ v = .none ∧ ∃ N', Chg Hc 4 (.tab aN kN) bN H3 N') ∨ (g = 0 ∧ ∃ e kvs ep, v = .ref e ∧ H3 e = some (.dict kvs ep) ∧ kvs.length ≤ sizeLine ∧ FrB Hc H3 (fun p => wt (cw p) (.tab aN kN) ≠ 0) ∧ ∀ ep', ∃ N', Chg Hc 4 (.tab aN kN) bN (upd H3 e (.dict (putK kvs (.inr "at") (.int pl)) ep')) N'))) ∨
      (fl = .brk ∧ CL ≠ [] ∧ offL pairL m m3 ∧ Ext H2 H3)) ?_ ?_
  · refine W_hide fun QT hQT => ?_
    refine W_Try (fun cls xs m1 H1 => cls = "KeyError" ∧ (∃ msg tk, xs = some [.str msg tk] ∧ CL = [msg]) ∧ m1 = m2 ∧ Ext H2 H1) hfr (fun k' hk' => ?_) fun e cls xs m1 H1 hxc => ?_
    · haveI := hk'.senv (sc := fnScope L5.fLaw) (cn := cellNames (fnScope L5.fLaw).names)
      have N' : NestAt k'.c C fI fG fA L5.cls := by rw [hk'.c]; exact D.nest
      have G' : Blt k'.c := by rw [hk'.c]; exact D.blt
      have FG' : FnAt k'.c fG fdG (fnBody (stm (fnBody L5.cls) 1)) := by rw [hk'.c]; exact FG1
      have FA' : FnAt k'.c fA fdA (fnBody (stm (fnBody L5.cls) 2)) := by rw [hk'.c]; exact FA1
      have hAk : Room k'.A := by rw [hk'.A]; exact hA
      have hAk' : k'.A.depth ≤ 599 ∧ k'.A.units ≤ 1997 := by rw [hk'.A]; lia
      have hXk : ∀ cls xs H', (cls = "KeyError" ∧ (∃ msg tk, xs = some [.str msg tk] ∧ CL = [msg]) ∧ Ext H2 H') → k'.X cls xs m2 H' := fun cls xs H' q => by
        rw [hk'.X]
        exact ⟨q.1, q.2.1, rfl, q.2.2⟩
      refine W_cons' ?_
      refine W_Assign ?_ ?s0 ?s1
      case s0 => exact stor rfl
      case s1 => exact swaps_IfExp
      refine W_IfExp ?_
      refine WT_plain ?_
      refine W_Name vg2 ?_
      refine WTr_int ?_
      refine ite_dec (fun hg => ?_) (fun hg => ?_)
      · -- append_nest_to_list
        refine W_CallMeth N'.mA FA' ?_
        refine W_Name vn2 ?_
        refine ⟨x, dx, _, rfl, hx2, hd2, ?_⟩
        refine WItems_cons ?_
        refine W_Name vk2 ?_
        refine WItems_nil ?_
        have hdec : decide (g ≠ 0) = true := decide_eq_true hg
        rw [hdec] at hbN
        refine FnV.mono (L5.append_call (keys := keys) (Q := fun H4 => CL = [] ∧ ∃ Hc N', Ext H2 Hc ∧ Chg Hc 4 (.tab aN kN) bN H4 N') (X := fun cls xs H' => cls = "KeyError" ∧ (∃ msg tk, xs = some [.str msg tk] ∧ CL = [msg]) ∧ Ext H2 H') G' N' hAk hAk' hx2 hd2 hkt2 (by lia) fun H3 hE => ?_) ?_ (fun a b H' q => hXk a b H' q)
        · rcases List.eq_nil_or_concat (keys.map (·.1)) with e | ⟨r, z, e⟩
          · exact absurd e hn0
          · rw [List.concat_eq_append] at e
            rw [e] at hns hn3 hbN ⊢
            have hns' : ∀ n ∈ r, n ≠ Str.ofString "at" := fun n h => hns n (List.mem_append.mpr (.inl h))
            have hz' : z ≠ Str.ofString "at" := hns z (List.mem_append.mpr (.inr (List.mem_singleton.mpr rfl)))
            refine app_tree (pl := pl) (L := 10000) (by lia) (rN2.ext hE) cN eN sN hns' hz' (by rw [List.length_append, List.length_singleton] at hn3; lia) (fun hc H4 N' C => ?_) (fun msg hc t => ?_)
            · rw [hbN] at C hc
              exact ⟨by rw [← hCL]; exact hc, H3, N', hE, C⟩
            · rw [hbN] at hc
              exact ⟨rfl, ⟨msg, t, rfl, by rw [← hCL]; exact hc⟩, hE⟩
        intro v H4 hv
        obtain ⟨rfl, hc, Hc, N', hE, C⟩ := hv
        refine contQ_next ?_
        refine W_nil ?_
        show W k (execs [] k.env) _ _ QT
        refine W_nil ?_
        exact hQT _ _ _ (.inl ⟨rfl, hc, .none, Hc, rfl, hE, .inl ⟨hg, rfl, N', C⟩⟩)
      · -- get_or_create_nest
        have hg : g = 0 := Classical.byContradiction hg
        refine W_CallMeth N'.mG FG' ?_
        refine W_Name vn2 ?_
        refine ⟨x, dx, _, rfl, hx2, hd2, ?_⟩
        refine WItems_cons ?_
        refine W_Name vk2 ?_
        refine WItems_nil ?_
        have hdec : decide (g ≠ 0) = false := decide_eq_false fun q => q hg
        rw [hdec] at hbN
        refine FnV.mono (L5.nest_call (keys := keys) (Q := fun e H4 => CL = [] ∧ ∃ kvs ep, H4 e = some (.dict kvs ep) ∧ kvs.length ≤ sizeLine ∧ FrB H2 H4 (fun p => wt (cw p) (.tab aN kN) ≠ 0) ∧ ∀ ep', ∃ N', Chg H2 4 (.tab aN kN) bN (upd H4 e (.dict (putK kvs (.inr "at") (.int pl)) ep')) N') (X := fun cls xs H' => cls = "KeyError" ∧ (∃ msg tk, xs = some [.str msg tk] ∧ CL = [msg]) ∧ Ext H2 H') G' N' hAk hx2 hd2 hkt2 ?_) ?_ (fun a b H' q => hXk a b H' q)
        · refine get_tree (pl := pl) (L := 10000) (by lia) rN2 cN eN sN hns hn3 (fun hc e H1 kvs ep he hl hf hC => ?_) (fun msg hc t => ?_)
          · rw [hbN] at hc hC
            exact ⟨by rw [← hCL]; exact hc, kvs, ep, he, hl, hf, hC⟩
          · rw [hbN] at hc
            exact ⟨rfl, ⟨msg, t, rfl, by rw [← hCL]; exact hc⟩, Ext.refl _⟩
        intro v H4 hv
        obtain ⟨e, rfl, hc, kvs, ep, he, hl, hf, hC⟩ := hv
        refine contQ_next ?_
        refine W_nil ?_
        show W k (execs [] k.env) _ _ QT
        refine W_nil ?_
        exact hQT _ _ _ (.inl ⟨rfl, hc, .ref e, H2, rfl, Ext.refl _, .inr ⟨hg, e, kvs, ep, rfl, he, hl, hf, hC⟩⟩)
    · -- the handler
      obtain ⟨rfl, ⟨msg, tk, rfl, hCLm⟩, rfl, hE1⟩ := hxc
      refine WH_hitAs excClass_KeyError D.blt.keyError (kindS rfl) (kindS rfl) sub_key_key (by decide) (by decide) fun kh te hkh he hte hne' => ?_
      haveI := hkh.senv (sc := fnScope L5.fLaw) (cn := cellNames (fnScope L5.fLaw).names)
      have hkhA : kh.A.units = k.A.units := by rw [hkh.A]; rfl
      have hkc : kh.c = k.c := hkh.c
      have hE2 : Ext H1 (upd (upd H1 te (.tup [.str msg tk])) e (.exc "KeyError" (some te))) := (Ext.upd hte).trans (Ext.upd (by rw [upd_off (Ne.symm hne')]; exact he))
      have hte' : upd (upd H1 te (.tup [.str msg tk])) e (.exc "KeyError" (some te)) te = some (.tup [.str msg tk]) := upd_ne hne' upd_same
      have hee : upd (upd H1 te (.tup [.str msg tk])) e (.exc "KeyError" (some te)) e = some (.exc "KeyError" (some te)) := upd_same
      have hok : PyData.strOk msg = true := by
        rcases hCLc with ⟨q, _⟩ | ⟨_, msg', q, q2⟩
        · rw [hCLm] at q; cases q
        · rw [hCLm] at q; cases q; exact q2
      have hE12 := hE1.trans hE2
      generalize upd (upd H1 te (.tup [.str msg tk])) e (.exc "KeyError" (some te)) = H5 at hE12 hte' hee ⊢
      refine W_cons' ?_
      refine W_If ?_
      refine WT_Compare ?_
      refine W_CallT (by rw [hkc]; exact D.blt.list) (kindS rfl) ?_
      refine WItems_cons ?_
      refine W_getArgs excAttr_KeyError setL_same hee ?_
      refine WItems_nil ?_
      refine WCall_listL (.inr hte') (by simp [hz]) fun l hl => ?_
      refine W_Name (setL_ne (by decide +kernel) vc2) ?_
      rw [hCLm] at hcl
      have hcl5 : TxtsAt (upd H5 l (.list [.str msg tk])) cA [msg] := by
        obtain ⟨ps, q1, q2⟩ := hcl
        exact ⟨ps, upd_fresh hl (hE12 _ _ q1), q2⟩
      have hg : good (.list [.str msg]) = true := by
        show (PyData.strOk msg && true) = true
        rw [hok]; rfl
      refine WCmp_neD (da := .list [.str msg]) (db := .list [.str msg]) (r := false) ⟨l, _, rfl, upd_same, _, _, rfl, ⟨tk, rfl⟩, rfl⟩ (txts_rd hcl5) hg hg ?_ (by rw [hkhA]; exact hu) (by simp) ?_
      · simp only [PyData.depth, PyData.depthAll]; decide
      refine WTr_bool ?_
      refine iteF ?_
      refine W_nil ?_
      refine contQ_next ?_
      refine W_cons' ?_
      refine W_Break ?_
      refine contQ_brk ?_
      refine hQT _ _ _ (.inr ⟨rfl, by rw [hCLm]; simp, ?_, hE12.trans (Ext.upd hl)⟩)
      exact (o2.set (x := "error") (by decide)).clr (by decide)
  intro fl m3 H3 hq
  rcases hq with ⟨rfl, hc0, v, Hc, rfl, hEc, hcase⟩ | ⟨rfl, hc1, o3, hE3⟩
  · -- taken
    refine contQ_next ?_
    rw [hc0] at hcl h1
    have hcl3 : TxtsAt H3 cA [] := by
      obtain ⟨ps, q1, q2⟩ := hcl
      refine ⟨ps, ?_, q2⟩
      have hl2 : Hc cA = H2 cA := FrB.of_ext (P := fun _ => False) hEc cA (nsome (q1)) id
      have hlc : Hc cA ≠ none := by rw [hl2, q1]; simp
      have : H3 cA = Hc cA := by
        rcases hcase with ⟨_, _, N', C⟩ | ⟨_, e, kvs, ep, _, _, _, hf, _⟩
        · exact C.fr cA hlc (nz (p := cA) hcNA)
        · exact hf cA hlc (nz (p := cA) hcNA)
      rw [this, hl2]; exact q1
    have vg3 : setL m2 "told" v "grows" = some (.int g) := by repeat first | assumption | with_reducible exact setL_same | (apply setL_ne; decide +kernel)
    have vc3 : setL m2 "told" v "clashes" = some (.ref cA) := by repeat first | assumption | with_reducible exact setL_same | (apply setL_ne; decide +kernel)
    have vt3 : setL m2 "told" v "told" = some v := setL_same
    have vp3 : setL m2 "told" v "place" = some (.int pl) := by repeat first | assumption | with_reducible exact setL_same | (apply setL_ne; decide +kernel)
    have o3 : offL pairL m (setL m2 "told" v) := o2.set (by decide)
    generalize setL m2 "told" v = m3 at vg3 vc3 vt3 vp3 o3 ⊢
    refine W_cons' ?_
    refine W_If ?_
    refine WT_Or ?_
    refine W_allTrue_or ?_
    refine WT_Compare ?_
    refine W_Name vc3 ?_
    refine W_List ?_
    refine WItems_nil ⟨lz rfl, fun l hl => ?_⟩
    have hcl4 : TxtsAt (upd H3 l (.list [])) cA [] := by
      obtain ⟨ps, q1, q2⟩ := hcl3
      exact ⟨ps, upd_fresh hl q1, q2⟩
    refine WCmp_neD (da := .list []) (db := .list []) (r := false) (txts_rd hcl4) ⟨l, [], rfl, upd_same, rfl⟩ rfl rfl (by simp only [PyData.depth, PyData.depthAll]; decide) hu (by simp) ?_
    refine WTr_bool ?_
    refine iteF ?_
    have hE4 : Ext H3 (upd H3 l (.list [])) := Ext.upd hl
    rcases hcase with ⟨hg, rfl, N', C⟩ | ⟨hg, e, kvs, ep, rfl, he, hl', hf, hC⟩
    · -- appended
      have hw : ∀ p, H3 p ≠ none → upd H3 l (.list []) p = H3 p := fun p hp => FrB.of_ext (P := fun _ => False) hE4 p hp id
      have C4 : Chg Hc 4 (.tab aN kN) bN (upd H3 l (.list [])) N' := { C with
        rep := C.rep.ext hE4
        fr := fun p hp hq => by
          have := C.fr p hp hq
          rw [hw p (by rw [this]; exact hp), this] }
      have P4 := mkPair Hc _ N' hEc C4
      generalize upd H3 l (.list []) = H4 at P4 ⊢
      refine W_allTrue_or ?_
      refine WT_And ?_
      refine W_allTrue_and ?_
      refine WT_plain ?_
      refine W_Name vg3 ?_
      refine WTr_int ?_
      rw [decide_eq_true hg]
      refine iteT ?_
      refine W_allTrue_and ?_
      refine WT_Compare ?_
      refine W_Name vt3 ?_
      refine W_none ?_
      refine WCmp_isNotNone ?_
      refine WTr_bool ?_
      refine iteF ?_
      refine iteF ?_
      refine W_allTrue_or ?_
      refine WT_And ?_
      refine W_allTrue_and ?_
      refine WT_Not ?_
      refine WT_plain ?_
      refine W_Name vg3 ?_
      refine WTr_int ?_
      rw [decide_eq_true hg]
      refine iteF ?_
      refine iteF ?_
      refine W_allTrue_nilO ?_
      refine iteF ?_
      refine W_nil ?_
      refine contQ_next ?_
      refine W_cons' ?_
      refine W_If ?_
      refine WT_Not ?_
      refine WT_plain ?_
      refine W_Name vg3 ?_
      refine WTr_int ?_
      rw [decide_eq_true hg]
      refine iteNT ?_
      refine W_nil ?_
      refine contQ_next ?_
      refine W_nil ?_
      exact h1 rfl _ _ N' Y' o3 P4
    · -- got
      have he4 : upd H3 l (.list []) e = some (.dict kvs ep) := upd_fresh hl he
      have hel : e ≠ l := fun q => by rw [← q, he] at hl; cases hl
      have hC4 : ∀ ep', ∃ N', Chg Hc 4 (.tab aN kN) bN (upd (upd H3 l (.list [])) e (.dict (putK kvs (.inr "at") (.int pl)) ep')) N' := fun ep' => by
        obtain ⟨N', C⟩ := hC ep'
        have hl4 : upd H3 e (.dict (putK kvs (.inr "at") (.int pl)) ep') l = none := by rw [upd_off (Ne.symm hel)]; exact hl
        have hsw : upd (upd H3 l (.list [])) e (.dict (putK kvs (.inr "at") (.int pl)) ep') = upd (upd H3 e (.dict (putK kvs (.inr "at") (.int pl)) ep')) l (.list []) := upd_comm hel.symm
        have hE5 : Ext (upd H3 e (.dict (putK kvs (.inr "at") (.int pl)) ep')) (upd (upd H3 e (.dict (putK kvs (.inr "at") (.int pl)) ep')) l (.list [])) := Ext.upd hl4
        refine ⟨N', ?_⟩
        rw [hsw]
        exact { C with
          rep := C.rep.ext hE5
          fr := fun p hp hq => by
            have := C.fr p hp hq
            rw [FrB.of_ext (P := fun _ => False) hE5 p (by rw [this]; exact hp) id, this] }
      generalize upd H3 l (.list []) = H4 at he4 hC4 ⊢
      refine W_allTrue_or ?_
      refine WT_And ?_
      refine W_allTrue_and ?_
      refine WT_plain ?_
      refine W_Name vg3 ?_
      refine WTr_int ?_
      rw [decide_eq_false (fun q => q hg)]
      refine iteF ?_
      refine iteF ?_
      refine W_allTrue_or ?_
      refine WT_And ?_
      refine W_allTrue_and ?_
      refine WT_Not ?_
      refine WT_plain ?_
      refine W_Name vg3 ?_
      refine WTr_int ?_
      rw [decide_eq_false (fun q => q hg)]
      refine iteT ?_
      refine W_allTrue_and ?_
      refine WT_Compare ?_
      refine W_CallT D.blt.type (kindS rfl) ?_
      refine WItems_cons ?_
      refine W_Name vt3 ?_
      refine WItems_nil ?_
      refine WCall_type (Tx := "dict") (tyOf_d he4) (by simp) ?_
      refine W_NameG D.blt.dict (kindS rfl) ?_
      refine WCmp_isNotTy ?_
      refine WTr_bool ?_
      refine iteF ?_
      refine iteF ?_
      refine W_allTrue_nilO ?_
      refine iteF ?_
      refine W_nil ?_
      refine contQ_next ?_
      refine W_cons' ?_
      refine W_If ?_
      refine WT_Not ?_
      refine WT_plain ?_
      refine W_Name vg3 ?_
      refine WTr_int ?_
      rw [decide_eq_false (fun q => q hg)]
      refine iteNF ?_
      refine W_cons' ?_
      refine W_AssignSub ?_
      refine W_Name vp3 ?_
      refine W_Name vt3 ?_
      refine W_str fun t9 _ => ?_
      refine WSet_dict he4 (key := .inr "at") isKVs hl' ?_
      refine contQ_next ?_
      refine W_nil ?_
      refine contQ_next ?_
      refine W_nil ?_
      obtain ⟨N', C⟩ := hC4 (epK kvs (.inr "at") ep)
      exact h1 rfl _ _ N' Y' o3 (mkPair Hc _ N' hEc C)
  · -- refused
    have hMN : ∀ f : Nat → Option Nat, M 4 (T.map f nonT (.tab aN kN)) bN = T.map f nonT (.tab aN kN) := fun f => by
      rcases htold (T.map f nonT (.tab aN kN)) ⟨_, _, rfl⟩ with ⟨q, _⟩ | ⟨q, _⟩
      · exfalso
        have hmm : T.map nonT2 nonT2 (T.map f nonT (.tab aN kN)) = T.map nonT nonT (.tab aN kN) := map_map2 _
        have hbb : T.map nonT2 nonT2 bN = bN := by rw [← hbN]; exact br_map _
        rw [← cl_map (f := nonT2) (g := nonT2), hmm, hbb, hCL] at q
        exact hc1 q
      · exact q
    refine contQ_brk ?_
    refine h2 hc1 _ _ (.tab aN kN) Y' o3 (mkPair H2 H3 (.tab aN kN) (Ext.refl _) ⟨rfl, rN2.ext hE3, cN, fun p hp => .inl hp, FrB.of_ext hE3, fun f _ => (hMN f).symm⟩)
end
section
noncomputable def innL : List Str := ["nest", "twin", "clashes", "told", "error"]
theorem offL.trans {L : List Str} {m m1 m2 : Loc} (h : offL L m m1) (h' : offL L m1 m2) : offL L m m2 := fun y hy => (h' y hy).trans (h y hy)
theorem offL.more {L L' : List Str} {m m' : Loc} (h : offL L m m') (hs : ∀ x ∈ L, x ∈ L') : offL L' m m' := fun y hy => h y fun q => hy (hs y q)
theorem nm_br {g : Bool} {pl : Int} : ∀ ns : List Str, (∀ n ∈ ns, ∃ i, n = nameOf i) → nmO (brN g pl ns)
  | [], _ => by
    cases g
    · exact ⟨by decide +kernel, trivial, trivial⟩
    · exact ⟨trivial, trivial⟩
  | n :: r, h => by
    refine ⟨?_, nm_br r fun m hm => h m (List.mem_cons_of_mem _ hm), trivial⟩
    refine Mine.hideG fun GG back => ?_
    obtain ⟨i, rfl⟩ := h n List.mem_cons_self
    refine back ?_
    clear back
    match i with
    | 0 => decide +kernel
    | 1 => decide +kernel
    | i + 2 => exact (by decide +kernel : PyData.strOk (Str.ofString "") = true)
set_option maxHeartbeats 2000000 in
theorem L5.call_ok {k : Wk} {m : Loc} {H : AHeap} {A U O S : T Nat} {C fI fG fA fD fK fGr fB fM fF xa dxa xu dxu hA thA eA kt : Addr} {hs ts : List Nat} {evs : List V} {n : Nat} {NX : T (Option Nat)} {keys : List (Str × Tok)} {g pl : Int} {Q : Flow → Loc → AHeap → Prop} {St : Stmt} [sv : SEnv k (fnScope L5.fLaw) (cellNames (fnScope L5.fLaw).names)]
    (hS : St = L5.inner) (D : L5.Defs k.c C fI fG fA fD fK fGr fB fM fF) (hAA : Room k.A) (hA' : k.A.depth ≤ 500 ∧ k.A.units ≤ 1500) (hfr : k.env.frame = some k.env.locals)
    (va : m "alone" = some (.ref xa)) (vo : m "own" = some (vOf O)) (vu : m "upon" = some (.ref xu)) (vs : m "step" = some (vOf S)) (vk : m "key" = some (.ref kt)) (vg : m "grows" = some (.int g)) (vp : m "place" = some (.int pl))
    (hkt : H kt = some (.tup (strsV keys))) (hk0 : keys ≠ []) (hk3 : keys.length ≤ 3) (hkn : ∀ q ∈ keys, ∃ i, q.1 = nameOf i)
    (X : LS C xa dxa xu dxu hA thA eA hs ts evs n A U O S H) (L : LX hs NX) (num : T.map (ix hs) nonT U = M 4 NX (T.map nonT nonT O)) (hn : n ≤ 40)
    (h : ∀ m' H' A' U' O' S', offL innL m m' → LS C xa dxa xu dxu hA thA eA hs ts evs (n + 1) A' U' O' S' H' → T.map (ix hs) nonT U' = M 4 NX (T.map nonT nonT O') → vOf O' = vOf O → vOf S' = vOf S → Q .next m' H') :
    W k (exec St k.env) m H Q := by
  subst hS
  have hz : sizeLine = _ := sizeLine_eq
  have hh : k.A.handled = none := hAA.handled
  have hns : ∀ n ∈ keys.map (·.1), n ≠ Str.ofString "at" := fun n hn => by
    refine Mine.hideG fun GG back => ?_
    obtain ⟨q, hq, rfl⟩ := List.mem_map.mp hn
    obtain ⟨i, e⟩ := hkn q hq
    refine back ?_
    clear back
    rw [e]; exact nameOf_at i
  have hns2 : ∀ n ∈ keys.map (·.1), ∃ i, n = nameOf i := fun n hn => by
    refine Mine.hideG fun GG back => ?_
    obtain ⟨q, hq, rfl⟩ := List.mem_map.mp hn
    refine back ?_
    clear back
    exact hkn q hq
  have hn0 : keys.map (·.1) ≠ [] := fun e => hk0 (List.map_eq_nil_iff.mp e)
  have hn3 : (keys.map (·.1)).length ≤ 3 := by rw [List.length_map]; exact hk3
  have hbsz := br_sz (g := decide (g ≠ 0)) (pl := pl) (keys.map (·.1))
  have hYb : Yok 4 (brN (decide (g ≠ 0)) pl (keys.map (·.1))) := Yok_br _ 4 hn0 hns (by lia)
  have hnb : nmO (brN (decide (g ≠ 0)) pl (keys.map (·.1))) := nm_br _ hns2
  have htold : ∀ y : T (Option Nat), (∃ a ks, y = .tab a ks) → (cl 4 y (brN (decide (g ≠ 0)) pl (keys.map (·.1))) = [] ∧ Takes 4 y (brN (decide (g ≠ 0)) pl (keys.map (·.1)))) ∨ (M 4 y (brN (decide (g ≠ 0)) pl (keys.map (·.1))) = y ∧ ∃ msg, cl 4 y (brN (decide (g ≠ 0)) pl (keys.map (·.1))) = [msg] ∧ PyData.strOk msg = true) := fun y hy => told_all hy hns hn0 hn3
  have hkeep : ∀ {H1 : AHeap}, TupKeep H H1 → H1 kt = some (.tup (strsV keys)) := fun k => k _ _ hkt
  refine W_hide fun QL hQL => ?_
  have fin : ∀ m' H' A' U' O' S', offL innL m m' → LS C xa dxa xu dxu hA thA eA hs ts evs (n + 1) A' U' O' S' H' → T.map (ix hs) nonT U' = M 4 NX (T.map nonT nonT O') → vOf O' = vOf O → vOf S' = vOf S → QL .next m' H' := fun m' H' A' U' O' S' a b c d e => hQL _ _ _ (h m' H' A' U' O' S' a b c d e)
  clear h hQL
  generalize hbN : brN (decide (g ≠ 0)) pl (keys.map (·.1)) = bN at hbsz hYb hnb htold
  refine W_For ?_ ?s0
  case s0 => exact fun x => rfl
  refine W_Tuple ?_
  refine WItems_cons ?_
  refine W_Tuple ?_
  refine WItems_cons ?_
  refine W_Name va ?_
  refine WItems_cons ?_
  refine W_Name vo ?_
  refine WItems_nil ⟨lz rfl, fun t1 ht1 => ?_⟩
  refine WItems_cons ?_
  refine W_Tuple ?_
  refine WItems_cons ?_
  refine W_Name vu ?_
  refine WItems_cons ?_
  refine W_Name vs ?_
  refine WItems_nil ⟨lz rfl, fun t2 ht2 => ?_⟩
  refine WItems_nil ⟨lz rfl, fun t3 ht3 => ?_⟩
  have E3 := (Ext.upd (x := AObj.tup [.ref xa, vOf O]) ht1).trans ((Ext.upd (x := AObj.tup [.ref xu, vOf S]) ht2).trans (Ext.upd (x := AObj.tup [.ref t1, .ref t2]) ht3))
  have a3 := Ext.upd (x := AObj.tup [.ref t1, .ref t2]) ht3
  have q2 := a3 _ _ (upd_same (a := t2) (x := AObj.tup [.ref xu, vOf S]))
  have q1 := ((Ext.upd (x := AObj.tup [.ref xu, vOf S]) ht2).trans a3) _ _ (upd_same (a := t1) (x := AObj.tup [.ref xa, vOf O]))
  have q3 : upd (upd (upd H t1 (.tup [.ref xa, vOf O])) t2 (.tup [.ref xu, vOf S])) t3 (.tup [.ref t1, .ref t2]) t3 = some (.tup [.ref t1, .ref t2]) := upd_same
  generalize upd (upd (upd H t1 (.tup [.ref xa, vOf O])) t2 (.tup [.ref xu, vOf S])) t3 (.tup [.ref t1, .ref t2]) = H3 at E3 q1 q2 q3 ⊢
  have X3 := X.ext E3
  have hkt3 := E3 _ _ hkt
  refine ⟨_, _, _, fun j m' H' => offL innL m m' ∧ TupKeep H3 H' ∧ ((j = 0 ∧ H' = H3) ∨ (j = 1 ∧ ∃ A' O' Y, LS C xa dxa xu dxu hA thA eA hs ts evs (n + 1) A' U O' S H' ∧ vOf O' = vOf O ∧ T.map (ix hs) nonT U = M 4 NX Y ∧ wt emw Y = 0 ∧ wt szw Y ≤ 1 + 5 * (n + 1) ∧ M 4 (M 4 NX Y) bN = M 4 NX (T.map nonT nonT O')) ∨
    (j = 2 ∧ ∃ A' U' O' S', LS C xa dxa xu dxu hA thA eA hs ts evs (n + 1) A' U' O' S' H' ∧ T.map (ix hs) nonT U' = M 4 NX (T.map nonT nonT O') ∧ vOf O' = vOf O ∧ vOf S' = vOf S)),
    WIter_tup hh q3, ⟨offL.refl, fun _ _ e => e, .inl ⟨rfl, rfl⟩⟩, fun j m' H' q => q.2.1 _ _ q3, ?_, ?_⟩
  · intro j v m' H' hj hR hI
    refine Mine.hideG fun GG back => ?_
    obtain ⟨om, tk, hcase⟩ := hI
    refine back ?_
    clear back
    rcases hcase with ⟨rfl, rfl⟩ | ⟨rfl, A1, O1, Y, X1, eO1, nY, eY, sY, hY⟩ | ⟨rfl, _⟩
    · -- alone
      have hv : v = .ref t1 := (Option.some.inj hR).symm
      subst hv
      refine WAs_Tup hh q1 rfl (by rfl) (as2 rfl rfl) ?_
      refine WAsL_cons ?_
      refine WAs_Name ?s0 ?_
      case s0 => exact stor rfl
      refine WAsL_cons ?_
      refine WAs_Name ?s0 ?_
      case s0 => exact stor rfl
      refine WAsL_nil ?_
      refine Mine.hideG fun GG back => ?_
      obtain ⟨z1, z2, z3, z4, z5, z6, z7, z8⟩ := X3.sizes L num X.eo X.so (by lia)
      refine back ?_
      clear back
      have o1 : offL innL m (setL (setL m' "nest" (.ref xa)) "twin" (vOf O)) := (om.set (by decide)).set (by decide)
      have w1 : setL (setL m' "nest" (.ref xa)) "twin" (vOf O) "nest" = some (.ref xa) := by repeat first | assumption | with_reducible exact setL_same | (apply setL_ne; decide +kernel)
      have w2 : setL (setL m' "nest" (.ref xa)) "twin" (vOf O) "twin" = some (vOf O) := setL_same
      generalize setL (setL m' "nest" (.ref xa)) "twin" (vOf O) = m1 at o1 w1 w2 ⊢
      have X3b := X3
      refine L5.pair_ok (N := A) (Y := O) (g := g) (pl := pl) rfl D hAA hA' hfr w1 w2 ((o1 _ (by decide)).trans vk) ((o1 _ (by decide)).trans vg) ((o1 _ (by decide)).trans vp) X3.ia X3.da hkt3 hk0 hk3 hkn X3.tA X3.tO X3.rA X3.rO (fun b => by have := X3.c1 b; lia) X3.sa z1 z3 z5 z7 ?_ ?_
      · rw [hbN]
        intro hcl m2 H2 A2 O2 o2 P
        have hb5 : wt szw bN ≤ 5 := by have := hbsz.1; rw [List.length_map] at this; lia
        have X2 := X3.first P hYb hbsz.2.1 (hbsz.2.2 hns) hb5 hnb
        refine loopQ_next ⟨o1.trans (o2.more (by decide)), P.tups X3.rA X3.rO, .inr (.inl ⟨rfl, A2, O2, T.map nonT nonT O, X2, P.vW, num, X.eo, by have := X.so; lia, ?_⟩)⟩
        rw [P.mW]
        refine Mine.hideG fun GG back => ?_
        obtain ⟨aN, kN, rfl⟩ := L.tb
        obtain ⟨aO, kO, rfl⟩ := X.tO
        refine back ?_
        clear back
        rcases htold (T.map nonT nonT (.tab aO kO)) ⟨_, _, rfl⟩ with ⟨_, q⟩ | ⟨_, msg, q, _⟩
        · exact (M_assoc 4 aN none none kN (T.mapK nonT nonT kO) bN (Yok_own 4 _ X.yo) q).symm
        · rw [X3.sa] at hcl
          rw [hcl] at q; cases q
      · rw [hbN]
        intro hcl m2 H2 A2 O2 o2 P
        have hb5 : wt szw bN ≤ 5 := by have := hbsz.1; rw [List.length_map] at this; lia
        have X2 := X3.first P hYb hbsz.2.1 (hbsz.2.2 hns) hb5 hnb
        refine loopQ_brk (fin m2 H2 A2 U O2 S (o1.trans (o2.more (by decide))) X2 ?_ P.vW rfl)
        rw [num, P.mW]
        have tOn : ∃ a ks, T.map nonT nonT O = .tab a ks := by obtain ⟨aO, kO, rfl⟩ := X.tO; exact ⟨_, _, rfl⟩
        rcases htold (T.map nonT nonT O) tOn with ⟨q, _⟩ | ⟨q, _⟩
        · rw [X3.sa] at hcl
          exact absurd q hcl
        · rw [q]
    · -- upon
      have hv : v = .ref t2 := (Option.some.inj hR).symm
      subst hv
      refine WAs_Tup hh (tk _ _ q2) rfl (by rfl) (as2 rfl rfl) ?_
      refine WAsL_cons ?_
      refine WAs_Name ?s0 ?_
      case s0 => exact stor rfl
      refine WAsL_cons ?_
      refine WAs_Name ?s0 ?_
      case s0 => exact stor rfl
      refine WAsL_nil ?_
      refine Mine.hideG fun GG back => ?_
      obtain ⟨z1, z2, z3, z4, z5, z6, z7, z8⟩ := X1.sizes L nY eY sY (by lia)
      refine back ?_
      clear back
      have o1 : offL innL m (setL (setL m' "nest" (.ref xu)) "twin" (vOf S)) := (om.set (by decide)).set (by decide)
      have w1 : setL (setL m' "nest" (.ref xu)) "twin" (vOf S) "nest" = some (.ref xu) := by repeat first | assumption | with_reducible exact setL_same | (apply setL_ne; decide +kernel)
      have w2 : setL (setL m' "nest" (.ref xu)) "twin" (vOf S) "twin" = some (vOf S) := setL_same
      generalize setL (setL m' "nest" (.ref xu)) "twin" (vOf S) = m1 at o1 w1 w2 ⊢
      have both : ∀ m2 H2 U2 S2, offL pairL m1 m2 → Pair H' U S bN H2 U2 S2 → ∃ A' U' O' S', LS C xa dxa xu dxu hA thA eA hs ts evs (n + 1) A' U' O' S' H2 ∧ T.map (ix hs) nonT U' = M 4 NX (T.map nonT nonT O') ∧ vOf O' = vOf O ∧ vOf S' = vOf S := fun m2 H2 U2 S2 o2 P => by
        refine Mine.hideG fun GG back => ?_
        obtain ⟨f1, f2, _⟩ := X1.ixF
        refine back ?_
        clear back
        have hm : T.map (ix hs) nonT U2 = M 4 NX (T.map nonT nonT O1) := by rw [P.mN (ix hs) f1 f2, nY, hY]
        refine ⟨A1, U2, O1, S2, X1.second P fun a ha => ?_, hm, eO1, P.vW⟩
        exact find_cnt (has_num L.nd hm (L.keep X1.bo) a ha)
      refine L5.pair_ok (N := U) (Y := S) (g := g) (pl := pl) rfl D hAA hA' hfr w1 w2 ((o1 _ (by decide)).trans vk) ((o1 _ (by decide)).trans vg) ((o1 _ (by decide)).trans vp) X1.iu X1.du (tk _ _ hkt3) hk0 hk3 hkn X1.tU X1.tS X1.rU X1.rS (fun b => by have := X1.c1 b; lia) X1.su z2 z4 z6 z8 ?_ ?_
      · rw [hbN]
        intro hcl m2 H2 U2 S2 o2 P
        exact loopQ_next ⟨o1.trans (o2.more (by decide)), fun τ xs e => P.tups X1.rU X1.rS _ _ (tk _ _ e), .inr (.inr ⟨rfl, both m2 H2 U2 S2 o2 P⟩)⟩
      · rw [hbN]
        intro hcl m2 H2 U2 S2 o2 P
        refine Mine.hideG fun GG back => ?_
        obtain ⟨A', U', O', S', b1, b2, b3, b4⟩ := both m2 H2 U2 S2 o2 P
        refine back ?_
        clear back
        exact loopQ_brk (fin m2 H2 A' U' O' S' (o1.trans (o2.more (by decide))) b1 b2 b3 b4)
    · exact absurd hj (Nat.lt_irrefl 2)
  · intro m' H' hI
    refine Mine.hideG fun GG back => ?_
    obtain ⟨om, tk, hcase⟩ := hI
    refine back ?_
    clear back
    rcases hcase with ⟨q, _⟩ | ⟨q, _⟩ | ⟨_, A', U', O', S', b1, b2, b3, b4⟩
    · cases q
    · cases q
    · exact fin m' H' A' U' O' S' om b1 b2 b3 b4
noncomputable def outL : List Str := ["place", "key", "grows", "nest", "twin", "clashes", "told", "error"]
set_option maxHeartbeats 2000000 in
theorem L5.calls_ok {k : Wk} {m : Loc} {H : AHeap} {A U O S : T Nat} {C fI fG fA fD fK fGr fB fM fF xa dxa xu dxu hA thA caA : Addr} {hs ts : List Nat} {cvs : List V} {NX : T (Option Nat)} {Q : Flow → Loc → AHeap → Prop} {St : Stmt} [sv : SEnv k (fnScope L5.fLaw) (cellNames (fnScope L5.fLaw).names)]
    (hS : St = L5.outer) (D : L5.Defs k.c C fI fG fA fD fK fGr fB fM fF) (hAA : Room k.A) (hA' : k.A.depth ≤ 500 ∧ k.A.units ≤ 1500) (hfr : k.env.frame = some k.env.locals)
    (va : m "alone" = some (.ref xa)) (vo : m "own" = some (vOf O)) (vu : m "upon" = some (.ref xu)) (vs : m "step" = some (vOf S)) (vc : m "calls" = some (.ref caA)) (hcl : cvs.length ≤ sizeLine)
    (X : LS C xa dxa xu dxu hA thA caA hs ts cvs 0 A U O S H) (L : LX hs NX) (num : T.map (ix hs) nonT U = M 4 NX (T.map nonT nonT O))
    (h : ∀ m' H' A' U' O' S' e' es' n, n ≤ 40 → offL outL m m' → LS C xa dxa xu dxu hA thA e' hs ts es' n A' U' O' S' H' → T.map (ix hs) nonT U' = M 4 NX (T.map nonT nonT O') → vOf O' = vOf O → vOf S' = vOf S → Q .next m' H') :
    W k (exec St k.env) m H Q := by
  subst hS
  have hz : sizeLine = _ := sizeLine_eq
  have hh : k.A.handled = none := hAA.handled
  refine W_ForEnum hh ?h ?hs
  case hs => intro y; rfl
  refine W_CallT D.blt.enum (kindS rfl) ?_
  refine WItems_cons ?_
  refine W_SubSlice ?_
  refine W_Name vc ?_
  refine WPart_none ?_
  refine WPart_some ?_
  refine W_int ?_
  refine ⟨_, rfl, caA, rfl, .inl ⟨_, X.he, hcl, fun eA H1 hE heA0 heA => ?_⟩⟩
  have e40 : sliceV cvs none (some (40 : Int)) = cvs.take 40 := sliceV_take cvs 40
  rw [e40] at heA
  refine WItems_nil ?_
  refine WCall_enum heA fun e it oi he hit hne hli => ?_
  have heH : H1 eA ≠ none := by rw [heA]; simp
  have X1 := (X.ext hE).reE (ews := cvs.take 40) heA (by
    have := X.rA.fresh heA0
    have := X.rU.fresh heA0
    have := X.rO.fresh heA0
    have := X.rS.fresh heA0
    lia) fun v hv => List.mem_of_mem_take hv
  refine ⟨e, it, oi, eA, cvs.take 40, H1, rfl, rfl, he, hit, hne, hli, fun i m' H' => offL outL m m' ∧ ∃ A' U' O' S', LS C xa dxa xu dxu hA thA eA hs ts (cvs.take 40) i A' U' O' S' H' ∧ T.map (ix hs) nonT U' = M 4 NX (T.map nonT nonT O') ∧ vOf O' = vOf O ∧ vOf S' = vOf S, ⟨offL.refl, A, U, O, S, X1, num, rfl, rfl⟩, fun i m' H' q => by obtain ⟨_, _, _, _, _, q, _⟩ := q; exact q.he, ?_, ?_⟩
  · intro i x m2 H2 p hx hI hp
    refine Mine.hideG fun GG back => ?_
    obtain ⟨om, A2, U2, O2, S2, X2, num2, eO2, eS2⟩ := hI
    refine back ?_
    clear back
    have hi : i < 40 := by
      have := (List.getElem?_eq_some_iff.mp hx).1
      rw [List.length_take] at this; lia
    refine Mine.hideG fun GG back => ?_
    obtain ⟨p1, q1, keys, g, rfl, h1, h2, hk0, hk3, hkn⟩ := X2.ek x (List.mem_of_getElem? hx)
    refine back ?_
    clear back
    have E3 := Ext.upd (x := AObj.tup [.int (i : Int), .ref p1]) hp
    have X3 := X2.ext E3
    have g1 := E3 _ _ h1
    have g2 := E3 _ _ h2
    refine WAs_Tup hh upd_same rfl (by rfl) (as2 rfl rfl) ?_
    generalize upd H2 p (.tup [.int (i : Int), .ref p1]) = H3 at X3 g1 g2 ⊢
    refine WAsL_cons ?_
    refine WAs_Name ?s0 ?_
    case s0 => exact stor rfl
    refine WAsL_cons ?_
    refine WAs_Tup hh g1 rfl (by rfl) (as2 rfl rfl) ?_
    refine WAsL_cons ?_
    refine WAs_Name ?s0 ?_
    case s0 => exact stor rfl
    refine WAsL_cons ?_
    refine WAs_Name ?s0 ?_
    case s0 => exact stor rfl
    refine WAsL_nil ?_
    refine WAsL_nil ?_
    have o1 : offL outL m (setL (setL (setL m2 "place" (.int (i : Int))) "key" (.ref q1)) "grows" (.int g)) := ((om.set (by decide)).set (by decide)).set (by decide)
    have w1 : setL (setL (setL m2 "place" (.int (i : Int))) "key" (.ref q1)) "grows" (.int g) "place" = some (.int (i : Int)) := by repeat first | assumption | with_reducible exact setL_same | (apply setL_ne; decide +kernel)
    have w2 : setL (setL (setL m2 "place" (.int (i : Int))) "key" (.ref q1)) "grows" (.int g) "key" = some (.ref q1) := by repeat first | assumption | with_reducible exact setL_same | (apply setL_ne; decide +kernel)
    have w3 : setL (setL (setL m2 "place" (.int (i : Int))) "key" (.ref q1)) "grows" (.int g) "grows" = some (.int g) := setL_same
    generalize setL (setL (setL m2 "place" (.int (i : Int))) "key" (.ref q1)) "grows" (.int g) = m3 at o1 w1 w2 w3 ⊢
    refine W_cons' ?_
    refine L5.call_ok (pl := (i : Int)) (n := i) rfl D hAA hA' hfr ((o1 _ (by decide)).trans va) (((o1 _ (by decide)).trans vo).trans (by rw [eO2])) ((o1 _ (by decide)).trans vu) (((o1 _ (by decide)).trans vs).trans (by rw [eS2])) w2 w3 w1 g2 hk0 hk3 hkn X3 L num2 (by lia) fun m4 H4 A4 U4 O4 S4 o4 X4 num4 eO4 eS4 => ?_
    refine contQ_next ?_
    refine W_nil ?_
    exact loopQ_next ⟨o1.trans (o4.more (by decide)), A4, U4, O4, S4, X4, num4, eO4.trans eO2, eS4.trans eS2⟩
  · intro m2 H2 hI
    refine Mine.hideG fun GG back => ?_
    obtain ⟨om, A2, U2, O2, S2, X2, num2, eO2, eS2⟩ := hI
    refine back ?_
    clear back
    exact h m2 H2 A2 U2 O2 S2 _ _ _ (by rw [List.length_take]; lia) om X2 num2 eO2 eS2
end
section
theorem Roomy.comp {k kc : Wk} {scope : Scope} (h : CompK k scope kc) (hr : Roomy k) : Roomy kc := by
  refine Mine.hideG fun GG back => ?_
  obtain ⟨a, b, c, d⟩ := hr
  refine back ?_
  clear back
  have e1 : kc.A = k.A := h.A
  have e2 : kc.c = k.c := h.c
  exact ⟨by rw [e1]; exact a, by rw [e2]; exact b, by rw [e2]; exact c, by rw [e1]; exact d⟩
theorem nats_of : ∀ (ds : List Int), (∀ d ∈ ds, 0 ≤ d) → ∃ ts : List Nat, ts.length = ds.length ∧ ds.map V.int = ts.map fun t => V.int (t : Nat)
  | [], _ => ⟨[], rfl, rfl⟩
  | d :: r, h => by
    refine Mine.hideG fun GG back => ?_
    obtain ⟨ts, h1, h2⟩ := nats_of r fun x hx => h x (List.mem_cons_of_mem _ hx)
    refine back ?_
    clear back
    refine ⟨d.toNat :: ts, by simp [h1], ?_⟩
    rw [List.map_cons, List.map_cons, h2, Int.toNat_of_nonneg (h d List.mem_cons_self)]
set_option maxHeartbeats 2000000 in
theorem L5.deal_ok {k : Wk} {m : Loc} {H : AHeap} {C fI fG fA fD fK fGr fB fM fF sa thA caA : Addr} {ns : List Int} {Q : Flow → Loc → AHeap → Prop} {St : Stmt} [sv : SEnv k (fnScope L5.fLaw) (cellNames (fnScope L5.fLaw).names)]
    (hS : St = stm (fnBody L5.fLaw) 2) (D : L5.Defs k.c C fI fG fA fD fK fGr fB fM fF) (hAA : Room k.A) (hroom : Roomy k)
    (vs : m "script" = some (.ref sa)) (vt : m "things" = some (.ref thA)) (vc : m "calls" = some (.ref caA)) (hsa : BaseL k.c sa (ns.map .int)) (hl : ns.length ≤ 63) (ht : H thA = some (.list [])) (hc : H caA = some (.list [])) (hne : thA ≠ caA)
    (h : ∀ m' H' (ts : List Nat) (cvs : List V), offL ["x"] m m' → H' thA = some (.list (ts.map fun t => V.int (t : Nat))) → ts.length ≤ 2560 → H' caA = some (.list cvs) → cvs.length ≤ 2560 → (∀ v ∈ cvs, CallAt H' v) → Q .next m' H') :
    W k (exec St k.env) m H Q := by
  subst hS
  have hz : sizeLine = _ := sizeLine_eq
  have hh : k.A.handled = none := hAA.handled
  refine Mine.hideG fun GG back => ?_
  refine Mine.hideG fun GG back => ?_
  obtain ⟨foD, fdD, hfoD, hfdD⟩ := D.dig.obj
  obtain ⟨foK, fdK, hfoK, hfdK⟩ := D.key.obj
  refine back ?_
  clear back
  refine back ?_
  clear back
  have hnl : (ns.map V.int).length = ns.length := List.length_map _
  refine W_For ?_ ?s0
  case s0 => exact fun x => rfl
  refine W_BinOp ?_
  refine W_Name vs ?_
  refine W_List ?_
  refine WItems_cons ?_
  refine W_CallB D.blt.len (kindS rfl) ?_
  refine WItems_cons ?_
  refine W_Name vs ?_
  refine WItems_nil ?_
  refine WCall_lenB hsa (by lia) ?_
  refine WItems_nil ⟨lz rfl, fun l1 hl1 => ?_⟩
  refine WBin_addBL hsa upd_same (by rw [hnl, hz]; simp; lia) fun L hL => ?_
  have E0 := (Ext.upd (x := AObj.list [.int ((ns.map V.int).length : Nat)]) hl1).trans (Ext.upd (x := AObj.list (ns.map V.int ++ [.int ((ns.map V.int).length : Nat)])) hL)
  have hxs : ns.map V.int ++ [.int ((ns.map V.int).length : Nat)] = (ns ++ [(ns.length : Int)]).map V.int := by rw [List.map_append, hnl]; rfl
  have hL1 : upd (upd H l1 (.list [.int ((ns.map V.int).length : Nat)])) L (.list (ns.map V.int ++ [.int ((ns.map V.int).length : Nat)])) L = some (.list ((ns ++ [(ns.length : Int)]).map V.int)) := by rw [← hxs]; exact upd_same
  have ht1 := E0 _ _ ht
  have hc1 := E0 _ _ hc
  have htL : thA ≠ L := fun q => by rw [← q] at hL; rw [upd_fresh hl1 ht] at hL; cases hL
  have hcL : caA ≠ L := fun q => by rw [← q] at hL; rw [upd_fresh hl1 hc] at hL; cases hL
  generalize upd (upd H l1 (.list [.int ((ns.map V.int).length : Nat)])) L (.list (ns.map V.int ++ [.int ((ns.map V.int).length : Nat)])) = H1 at hL1 ht1 hc1 ⊢
  refine ⟨_, _, _, fun i m' H' => offL ["x"] m m' ∧ H' L = some (.list ((ns ++ [(ns.length : Int)]).map V.int)) ∧ (∃ ts : List Nat, H' thA = some (.list (ts.map fun t => V.int (t : Nat))) ∧ ts.length ≤ 40 * i) ∧ ∃ cvs, H' caA = some (.list cvs) ∧ cvs.length ≤ 40 * i ∧ ∀ v ∈ cvs, CallAt H' v,
    WIter_list hh hL1, ⟨offL.refl, hL1, ⟨[], ht1, Nat.le_refl _⟩, [], hc1, Nat.le_refl _, fun v hv => by cases hv⟩, fun i m' H' q => q.2.1, ?_, ?_⟩
  · intro i v m' H' hi hR hI
    refine Mine.hideG fun GG back => ?_
    obtain ⟨om, hLL, ⟨ts, hts, htl⟩, cvs, hcv, hcl, hca⟩ := hI
    refine back ?_
    clear back
    have hi64 : i < 64 := by rw [List.length_map, List.length_append, List.length_singleton] at hi; lia
    obtain ⟨x, rfl⟩ : ∃ x : Int, v = .int x := by
      rw [List.getElem?_map, Option.map_eq_some_iff] at hR
      refine Mine.hideG fun GG back => ?_
      obtain ⟨x, _, rfl⟩ := hR
      refine back ?_
      clear back
      exact ⟨x, rfl⟩
    refine WAs_Name ?s0 ?_
    case s0 => exact stor rfl
    have o1 : offL ["x"] m (setL m' "x" (.int x)) := om.set (by decide)
    have vx : setL m' "x" (.int x) "x" = some (.int x) := setL_same
    generalize setL m' "x" (.int x) = m1 at o1 vx ⊢
    refine W_hide fun QL hQL => ?_
    refine W_cons' ?_
    refine W_If ?_
    refine WT_Compare ?_
    refine W_Name vx ?_
    refine W_int ?_
    refine WCmp_lt ?_
    refine WTr_bool ?_
    refine ite_dec (fun hx => ?_) (fun hx => ?_)
    · refine W_cons' ?_
      refine W_ExprStmt ?_
      refine W_CallM' PySem.F.plainAttrs_list PySem.F.slot_list_extend PySem.F.type_list_extend ?_
      refine W_Name ((o1 _ (by decide)).trans vt) ?_
      refine ⟨onList hts, ?_⟩
      refine WItems_cons ?_
      refine W_CallF D.gDig (kindS rfl) hfoD hfdD ?_
      refine WItems_cons ?_
      refine W_BinOp ?_
      refine W_UnaryOp ?_
      refine W_int ?_
      refine WUn_neg ?_
      refine W_Name vx ?_
      refine WBin_sub ?_
      refine WItems_cons ?_
      refine W_int ?_
      refine WItems_nil ?_
      refine FnV.mono (L5.digits_ok D.dig hAA D.blt (by decide) (by decide)) ?_ fun _ _ _ q => q.elim
      intro v H2 hv
      refine Mine.hideG fun GG back => ?_
      obtain ⟨p, ds, rfl, hp0, hp, hE, hds, hdl⟩ := hv
      refine back ?_
      clear back
      refine WItems_nil ?_
      refine Mine.hideG fun GG back => ?_
      obtain ⟨ts2, h1, h2⟩ := nats_of ds fun d hd => (hds d hd).1
      refine back ?_
      clear back
      rw [h2] at hp
      refine WCall_extend (hE _ _ hts) hp (by rw [List.length_map, List.length_map, hz]; lia) ?_
      refine contQ_next ?_
      refine W_nil ?_
      refine contQ_next ?_
      refine W_nil ?_
      have hLt : L ≠ thA := Ne.symm htL
      have tk : TupKeep H' (upd H2 thA (.list ((ts.map fun t => V.int (t : Nat)) ++ ts2.map fun t => V.int (t : Nat)))) := (TupKeep.of_ext hE).trans (TupKeep.updL (hE _ _ hts))
      refine hQL _ _ _ (loopQ_next ⟨o1, upd_ne hLt (hE _ _ hLL), ⟨ts ++ ts2, by rw [List.map_append]; exact upd_same, by rw [List.length_append]; lia⟩, cvs, upd_ne (Ne.symm hne) (hE _ _ hcv), by lia, fun v hv => (hca v hv).keep tk⟩)
    · refine W_cons' ?_
      refine W_ExprStmt ?_
      refine W_CallM' PySem.F.plainAttrs_list PySem.F.slot_list_extend PySem.F.type_list_extend ?_
      refine W_Name ((o1 _ (by decide)).trans vc) ?_
      refine ⟨onList hcv, ?_⟩
      refine WItems_cons ?_
      refine W_ListComp ?s0 ?s1 ?s2 ?_
      case s0 => rfl
      case s1 => rfl
      case s2 => rfl
      refine W_CallF D.gDig (kindS rfl) hfoD hfdD ?_
      refine WItems_cons ?_
      refine W_Name vx ?_
      refine WItems_cons ?_
      refine W_int ?_
      refine WItems_nil ?_
      refine FnV.mono (L5.digits_ok D.dig hAA D.blt (by decide) (by decide)) ?_ fun _ _ _ q => q.elim
      intro v H2 hv
      refine Mine.hideG fun GG back => ?_
      obtain ⟨p, ds, rfl, hp0, hp, hE, hds, hdl⟩ := hv
      refine back ?_
      clear back
      refine ⟨_, _, _, fun j acc H4 => Ext H2 H4 ∧ acc.length = j ∧ ∀ v ∈ acc, CallAt H4 v, WIter_list hh hp, ⟨Ext.refl _, rfl, fun v hv => by cases hv⟩, fun j acc H4 hI => hI.1 _ _ hp, by rw [List.length_map, hz]; lia, ?_, ?_⟩
      · intro kc hkc j v acc mc H4 hj hv hI hcap hxn
        haveI := hkc.senv (sc := fnScope L5.fLaw) (cn := cellNames (fnScope L5.fLaw).names)
        refine Mine.hideG fun GG back => ?_
        obtain ⟨hE4, hal, hac⟩ := hI
        refine back ?_
        clear back
        obtain ⟨d, hd, rfl⟩ : ∃ d ∈ ds, v = .int d := by
          rw [List.getElem?_map, Option.map_eq_some_iff] at hv
          refine Mine.hideG fun GG back => ?_
          obtain ⟨d, hd, rfl⟩ := hv
          refine back ?_
          clear back
          exact ⟨d, List.mem_of_getElem? hd, rfl⟩
        refine Mine.hideG fun GG back => ?_
        obtain ⟨d0, d1⟩ := hds d hd
        refine back ?_
        clear back
        have hroomc : Roomy kc := Roomy.comp hkc hroom
        have hAc : Room kc.A := by rw [hkc.A]; exact hAA
        have hkd : d.fdiv 2 = ((d.toNat / 2 : Nat) : Int) := by
          rw [Int.fdiv_eq_ediv_of_nonneg _ (by lia)]; lia
        refine W_tests_nil ⟨rfl, ?_⟩
        rw [if_pos rfl]
        refine W_Tuple ?_
        refine WItems_cons ?_
        refine W_CallF (by rw [hkc.c]; exact D.gKey) (kindS rfl) (by rw [hkc.c]; exact hfoK) hfdK ?_
        refine WItems_cons ?_
        refine W_BinOp ?_
        refine W_Name hxn ?_
        refine W_int ?_
        refine WBin_fdiv hroomc (by decide) ?_
        rw [hkd]
        refine WItems_nil ?_
        refine FnV.mono (L5.key_ok (by rw [hkc.c]; exact D.key) hAc (by rw [hkc.c]; exact D.blt) (by lia)) ?_ fun _ _ _ q => q.elim
        intro v H5 hv
        refine Mine.hideG fun GG back => ?_
        obtain ⟨q, keys, rfl, hq, hE5, hk0, hk3, hkn⟩ := hv
        refine back ?_
        clear back
        refine WItems_cons ?_
        refine W_BinOp ?_
        refine W_Name hxn ?_
        refine W_int ?_
        refine WBin_mod hroomc (by decide) ?_
        refine WItems_nil ⟨lz rfl, fun t ht => ⟨rfl, (hE4.trans hE5).trans (Ext.upd ht), by rw [List.length_append, List.length_singleton, hal], fun v hv => ?_⟩⟩
        rcases List.mem_append.mp hv with hv | hv
        · exact (hac v hv).keep (TupKeep.of_ext (hE5.trans (Ext.upd ht)))
        · rw [List.mem_singleton.mp hv]
          exact ⟨t, q, keys, d.fmod 2, rfl, upd_same, upd_fresh ht hq, hk0, hk3, hkn⟩
      · intro F acc H4 hal hI hF
        refine Mine.hideG fun GG back => ?_
        obtain ⟨hE4, hal2, hac⟩ := hI
        refine back ?_
        clear back
        rw [List.length_map] at hal2
        have hcv4 := hE4 _ _ (hE _ _ hcv)
        have hcF : caA ≠ F := fun q => by rw [← q, hcv4] at hF; cases hF
        refine WItems_nil ?_
        refine WCall_extend (upd_fresh hF hcv4) upd_same (by rw [hz]; lia) ?_
        refine contQ_next ?_
        refine W_nil ?_
        refine contQ_next ?_
        refine W_nil ?_
        have E5 := (hE.trans hE4).trans (Ext.upd (x := AObj.list acc) hF)
        have tk5 : TupKeep H4 (upd (upd H4 F (.list acc)) caA (.list (cvs ++ acc))) := (TupKeep.of_ext (Ext.upd hF)).trans (TupKeep.updL (upd_fresh hF hcv4))
        have tk : TupKeep H' (upd (upd H4 F (.list acc)) caA (.list (cvs ++ acc))) := (TupKeep.of_ext (hE.trans hE4)).trans tk5
        refine hQL _ _ _ (loopQ_next ⟨o1, upd_ne (Ne.symm hcL) (E5 _ _ hLL), ⟨ts, upd_ne hne (E5 _ _ hts), by lia⟩, cvs ++ acc, upd_same, by rw [List.length_append]; lia, fun v hv => ?_⟩)
        rcases List.mem_append.mp hv with hv | hv
        · exact (hca v hv).keep tk
        · exact (hac v hv).keep tk5
  · intro m' H' hI
    refine Mine.hideG fun GG back => ?_
    obtain ⟨om, hLL, ⟨ts, hts, htl⟩, cvs, hcv, hcl, hca⟩ := hI
    refine back ?_
    clear back
    rw [List.length_map, List.length_append, List.length_singleton] at htl hcl
    exact h m' H' ts cvs om hts (by lia) hcv (by lia) hca
end
section
theorem map_ix2 {hs : List Nat} {X : T Nat} {R : T (Option Nat)} (h : T.map (ix hs) nonT X = R) : T.map nonT nonT X = T.map nonT2 nonT2 R := by
  rw [← h, map_map2]
theorem M_empty {N : T (Option Nat)} (h : ∃ a ks, N = .tab a ks) : M 4 N (.tab none []) = N := by
  refine Mine.hideG fun GG back => ?_
  obtain ⟨a, ks, rfl⟩ := h
  refine back ?_
  clear back
  rfl
theorem GSt.lv {H0 H : AHeap} {root : Nat} {hs : List Nat} {X : T Nat} {S : T (Option Nat) × Nat} {i : Nat} (G : GSt H0 H root hs X S i) {p : Nat} (h : H0 p ≠ none) (hp : p ≠ root) : H p = H0 p ∧ wt (cw p) X = 0 :=
  ⟨G.fr p h hp, Classical.byContradiction fun q => by rcases G.new p q with z | z; exact hp z; exact h z⟩
theorem L5.new_ok {k : Wk} {m : Loc} {H : AHeap} {C fI fG fA fD fK fGr fB fM fF : Addr} {p pos : Pos} {Q : V → Loc → AHeap → Prop} [sv : SEnv k (fnScope L5.fLaw) (cellNames (fnScope L5.fLaw).names)]
    (D : L5.Defs k.c C fI fG fA fD fK fGr fB fM fF) (hAA : Room k.A) (hA' : k.A.depth ≤ 500 ∧ k.A.units ≤ 1500)
    (h : ∀ H' x dx d, Ext H H' → H' x = some (.inst C dx) → H' dx = some (.attrs (.ref d)) → H' d = some (.dict [] 0) → H d = none → Q (.ref x) m H') : WV k (eval (.Call (.Name "NestedDict" p) [] [] pos) k.env) m H Q := by
  have hw : (Code.builtin "type.__call__" ⟨[.ref C], []⟩).weight ≤ 50 := (show (Code.builtin "type.__call__" ⟨[.ref 0], []⟩).weight ≤ 50 by decide)
  have hu : (Code.builtin "type.__call__" ⟨[.ref C], []⟩).cUnits ≤ 50 := (show (Code.builtin "type.__call__" ⟨[.ref 0], []⟩).cUnits ≤ 50 by decide)
  have hroomN : Room (k.A.under (.builtin "type.__call__" ⟨[.ref C], []⟩)) := ⟨by show k.A.depth + _ ≤ 600; lia, by show k.A.units + _ ≤ 2000; lia, hAA.handled⟩
  refine W_NewCls D.nest.kls D.gC ?k1 fun x dx hx hdx hxd => ?_
  case k1 => exact kindS rfl
  refine Fn.mono (L5.init_ok D.nest.kls D.nest.init (A := k.A.under (.builtin "type.__call__" ⟨[.ref C], []⟩)) hroomN upd_same (upd_ne (fun q => hxd q.symm) upd_same) _ _ rfl rfl) ?_ fun _ _ _ q => q.elim
  intro v H' hv
  obtain ⟨rfl, d, hd, rfl⟩ := hv
  have hd0 := upd_eq_none.mp hd
  have hd1 := upd_eq_none.mp hd0.2
  have E2 : Ext H (upd (upd H dx .attrs0) x (.inst C dx)) := (Ext.upd hdx).trans (Ext.upd (upd_none hxd hx))
  refine ⟨rfl, h _ x dx d (fun p y e => upd_ne (fun q => by rw [q, hdx] at e; cases e) (upd_fresh hd (E2 p y e))) (upd_ne hxd (upd_fresh hd upd_same)) upd_same (upd_ne hd1.1 upd_same) hd1.2⟩
set_option maxHeartbeats 2000000 in
theorem L5.mid_ok {k : Wk} {m : Loc} {H : AHeap} {C fI fG fA fD fK fGr fB fM fF thA caA : Addr} {ts0 : List Nat} {cvs : List V} {Q : Flow → Loc → AHeap → Prop} {S3 S4 S5 S6 S7 S8 : Stmt} {rest : List Stmt} [sv : SEnv k (fnScope L5.fLaw) (cellNames (fnScope L5.fLaw).names)]
    (h3 : S3 = stm (fnBody L5.fLaw) 3) (h4 : S4 = stm (fnBody L5.fLaw) 4) (h5 : S5 = stm (fnBody L5.fLaw) 5) (h6 : S6 = stm (fnBody L5.fLaw) 6) (h7 : S7 = stm (fnBody L5.fLaw) 7) (h8 : S8 = stm (fnBody L5.fLaw) 8)
    (D : L5.Defs k.c C fI fG fA fD fK fGr fB fM fF) (hAA : Room k.A) (hA' : k.A.depth ≤ 500 ∧ k.A.units ≤ 1500)
    (vt : m "things" = some (.ref thA)) (vc : m "calls" = some (.ref caA)) (ht : H thA = some (.list (ts0.map fun t => V.int (t : Nat)))) (htl : ts0.length ≤ 2560) (hc : H caA = some (.list cvs)) (hcl : cvs.length ≤ 2560) (hca : ∀ v ∈ cvs, CallAt H v)
    (h : ∀ m' H' xa dxa xu dxu hA thB hs ts A U O S NX, ts.length ≤ 40 → m' "alone" = some (.ref xa) → m' "own" = some (vOf O) → m' "upon" = some (.ref xu) → m' "step" = some (vOf S) → m' "calls" = some (.ref caA) → m' "held" = some (.ref hA) → m' "things" = some (.ref thB) → LS C xa dxa xu dxu hA thB caA hs ts cvs 0 A U O S H' → LX hs NX → T.map (ix hs) nonT U = M 4 NX (T.map nonT nonT O) → NX = (ts.foldl G1 S0).1 → hs.length = (ts.foldl G1 S0).2 → W k (execs rest k.env) m' H' Q) :
    W k (execs (S3 :: S4 :: S5 :: S6 :: S7 :: S8 :: rest) k.env) m H Q := by
  subst h3; subst h4; subst h5; subst h6; subst h7; subst h8
  have hz : sizeLine = _ := sizeLine_eq
  have hh : k.A.handled = none := hAA.handled
  refine Mine.hideG fun GG back => ?_
  refine Mine.hideG fun GG back => ?_
  obtain ⟨foG, fdG, hfoG, hfdG⟩ := D.grow.obj
  refine back ?_
  clear back
  refine back ?_
  clear back
  -- things = things[:40]
  refine W_cons' ?_
  refine W_Assign ?_ ?s0 ?s1
  case s0 => exact stor rfl
  case s1 => rfl
  refine W_SubSlice ?_
  refine W_Name vt ?_
  refine WPart_none ?_
  refine WPart_some ?_
  refine W_int ?_
  refine ⟨_, rfl, thA, rfl, .inl ⟨_, ht, by rw [List.length_map, hz]; lia, fun thB H1 hE1 htB0 htB => ?_⟩⟩
  have e40 : sliceV (ts0.map fun t => V.int (t : Nat)) none (some (40 : Int)) = (ts0.take 40).map fun t => V.int (t : Nat) := by
    rw [List.map_take]
    exact sliceV_take _ 40
  rw [e40] at htB
  have htl4 : (ts0.take 40).length ≤ 40 := by rw [List.length_take]; lia
  generalize ts0.take 40 = ts at htB htl4
  have hc1 := hE1 _ _ hc
  have hca1 : ∀ v ∈ cvs, CallAt H1 v := fun v hv => (hca v hv).keep (TupKeep.of_ext hE1)
  have hcB : caA ≠ thB := fun q => by rw [← q, hc] at htB0; cases htB0
  refine contQ_next ?_
  have u1 : setL m "things" (.ref thB) "things" = some (.ref thB) := setL_same
  have u2 : setL m "things" (.ref thB) "calls" = some (.ref caA) := by repeat first | assumption | with_reducible exact setL_same | (apply setL_ne; decide +kernel)
  generalize setL m "things" (.ref thB) = m1 at u1 u2 ⊢
  -- alone, upon
  refine W_cons' ?_
  refine W_Assign ?_ ?s0 ?s1
  case s0 => exact stor rfl
  case s1 => rfl
  refine L5.new_ok D hAA hA' fun H4 xa dxa dA aE a1 a2 a3 _ => ?_
  refine contQ_next ?_
  refine W_cons' ?_
  refine W_Assign ?_ ?s0 ?s1
  case s0 => exact stor rfl
  case s1 => rfl
  refine L5.new_ok D hAA hA' fun H5 xu dxu dU bE b1 b2 b3 hdU => ?_
  have hAU : dA ≠ dU := fun q => by rw [q, hdU] at a3; cases a3
  refine contQ_next ?_
  have a1 := bE _ _ a1
  have a2 := bE _ _ a2
  have a3 := bE _ _ a3
  have htB5 := bE _ _ (aE _ _ htB)
  have hc5 := bE _ _ (aE _ _ hc1)
  have hca5 : ∀ v ∈ cvs, CallAt H5 v := fun v hv => (hca1 v hv).keep (TupKeep.of_ext (aE.trans bE))
  have u3 : setL (setL m1 "alone" (.ref xa)) "upon" (.ref xu) "things" = some (.ref thB) := by repeat first | assumption | with_reducible exact setL_same | (apply setL_ne; decide +kernel)
  have u4 : setL (setL m1 "alone" (.ref xa)) "upon" (.ref xu) "calls" = some (.ref caA) := by repeat first | assumption | with_reducible exact setL_same | (apply setL_ne; decide +kernel)
  have u5 : setL (setL m1 "alone" (.ref xa)) "upon" (.ref xu) "alone" = some (.ref xa) := by repeat first | assumption | with_reducible exact setL_same | (apply setL_ne; decide +kernel)
  have u6 : setL (setL m1 "alone" (.ref xa)) "upon" (.ref xu) "upon" = some (.ref xu) := setL_same
  generalize setL (setL m1 "alone" (.ref xa)) "upon" (.ref xu) = m5 at u3 u4 u5 u6 ⊢
  -- held
  refine W_cons' ?_
  refine W_Assign ?_ ?s0 ?s1
  case s0 => exact stor rfl
  case s1 => rfl
  refine W_CallF D.gGrow (kindS rfl) hfoG hfdG ?_
  refine WItems_cons ?_
  refine W_getDict D.nest.kls u6 b1 b2 (fun i q => by cases q) ?_
  refine WItems_cons ?_
  refine W_Name u3 ?_
  refine WItems_nil ?_
  refine FnV.mono (L5.grow_ok D.grow hAA D.blt b3 htB5 htl4) ?_ fun _ _ _ q => q.elim
  intro v H6 hv
  refine Mine.hideG fun GG back => ?_
  obtain ⟨hA, hs, XU, rfl, hA0, hhA, hAX, GU⟩ := hv
  refine back ?_
  clear back
  refine contQ_next ?_
  have nU : ∀ p, H5 p ≠ none → p ≠ dU → H6 p = H5 p ∧ wt (cw p) XU = 0 := fun p h1 h2 => GU.lv h1 h2
  have ne5 : ∀ {p : Addr} {y : AObj}, H5 p = some y → (∀ kvs ep, y ≠ .dict kvs ep) → p ≠ dU := fun e hy q => by rw [q, b3] at e; cases e; exact hy _ _ rfl
  refine Mine.hideG fun GG back => ?_
  obtain ⟨p1, q1⟩ := nU xa (nsome (a1)) (ne5 a1 fun _ _ q => by cases q)
  obtain ⟨p2, q2⟩ := nU dxa (nsome (a2)) (ne5 a2 fun _ _ q => by cases q)
  obtain ⟨p3, q3⟩ := nU dA (nsome (a3)) hAU
  obtain ⟨p4, q4⟩ := nU xu (nsome (b1)) (ne5 b1 fun _ _ q => by cases q)
  obtain ⟨p5, q5⟩ := nU dxu (nsome (b2)) (ne5 b2 fun _ _ q => by cases q)
  obtain ⟨p6, q6⟩ := nU thB (nsome (htB5)) (ne5 htB5 fun _ _ q => by cases q)
  obtain ⟨p7, q7⟩ := nU caA (nsome (hc5)) (ne5 hc5 fun _ _ q => by cases q)
  refine back ?_
  clear back
  rw [a1] at p1; rw [a2] at p2; rw [a3] at p3; rw [b1] at p4; rw [b2] at p5; rw [htB5] at p6; rw [hc5] at p7
  have hca6 : ∀ v ∈ cvs, CallAt H6 v := fun v hv => (hca5 v hv).keep fun τ xs e => by rw [(nU τ (nsome (e)) (ne5 e fun _ _ q => by cases q)).1]; exact e
  -- own
  refine W_cons' ?_
  refine W_Assign ?_ ?s0 ?s1
  case s0 => exact stor rfl
  case s1 => rfl
  refine W_Dict0 fun dO hdO => ?_
  refine contQ_next ?_
  have E7 : Ext H6 (upd H6 dO (.dict [] 0)) := Ext.upd hdO
  have o7 : upd H6 dO (.dict [] 0) dO = some (.dict [] 0) := upd_same
  generalize upd H6 dO (.dict [] 0) = H7 at E7 o7 ⊢
  have u7 : setL (setL m5 "held" (.ref hA)) "own" (.ref dO) "things" = some (.ref thB) := by repeat first | assumption | with_reducible exact setL_same | (apply setL_ne; decide +kernel)
  have u8 : setL (setL m5 "held" (.ref hA)) "own" (.ref dO) "calls" = some (.ref caA) := by repeat first | assumption | with_reducible exact setL_same | (apply setL_ne; decide +kernel)
  have u9 : setL (setL m5 "held" (.ref hA)) "own" (.ref dO) "alone" = some (.ref xa) := by repeat first | assumption | with_reducible exact setL_same | (apply setL_ne; decide +kernel)
  have u10 : setL (setL m5 "held" (.ref hA)) "own" (.ref dO) "upon" = some (.ref xu) := by repeat first | assumption | with_reducible exact setL_same | (apply setL_ne; decide +kernel)
  have u11 : setL (setL m5 "held" (.ref hA)) "own" (.ref dO) "held" = some (.ref hA) := by repeat first | assumption | with_reducible exact setL_same | (apply setL_ne; decide +kernel)
  have u12 : setL (setL m5 "held" (.ref hA)) "own" (.ref dO) "own" = some (.ref dO) := setL_same
  generalize setL (setL m5 "held" (.ref hA)) "own" (.ref dO) = m7 at u7 u8 u9 u10 u11 u12 ⊢
  -- step
  refine W_cons' ?_
  refine W_cut (fun (fl : Flow) m9 H9 => fl = .next ∧ ∃ dS hsS XS, m9 = setL m7 "step" (.ref dS) ∧ H7 dS = none ∧ GSt (upd H7 dS (.dict [] 0)) H9 dS hsS XS (ts.foldl G1 S0) ts.length) ?_ ?_
  · refine W_Assign ?_ ?s0 ?s1
    case s0 => exact stor rfl
    case s1 => rfl
    refine W_Subscript ?_
    refine W_CallF D.gGrow (kindS rfl) hfoG hfdG ?_
    refine WItems_cons ?_
    refine W_Dict0 fun dS hdS => ?_
    refine WItems_cons ?_
    refine W_Name u7 ?_
    refine WItems_nil ?_
    refine FnV.mono (L5.grow_ok D.grow hAA D.blt (upd_same (f := H7) (a := dS) (x := AObj.dict [] 0)) (upd_fresh hdS (E7 _ _ p6)) htl4) ?_ fun _ _ _ q => q.elim
    intro v H9 hv
    refine Mine.hideG fun GG back => ?_
    obtain ⟨tS, hsS, XS, rfl, _, htS, _, GS⟩ := hv
    refine back ?_
    clear back
    refine W_int ?_
    refine WSub_list (v := .ref dS) htS (by decide) (by decide) ?_ ⟨rfl, dS, hsS, XS, rfl, hdS, GS⟩
    show (hsS.map V.ref)[0]? = _
    rw [List.getElem?_map, GS.h0]; rfl
  intro fl m9 H9 hq
  refine Mine.hideG fun GG back => ?_
  obtain ⟨rfl, dS, hsS, XS, rfl, hdS, GS⟩ := hq
  refine back ?_
  clear back
  refine contQ_next ?_
  have E8 : Ext H6 (upd H7 dS (.dict [] 0)) := E7.trans (Ext.upd hdS)
  have nS : ∀ {p : Addr} {y : AObj}, H7 p = some y → H9 p = some y ∧ wt (cw p) XS = 0 := fun {p y} e => by
    have hpS : p ≠ dS := fun q => by rw [q, hdS] at e; cases e
    have e8 : upd H7 dS (.dict [] 0) p = some y := upd_ne hpS e
    refine Mine.hideG fun GG back => ?_
    obtain ⟨z1, z2⟩ := GS.lv (p := p) (nsome (e8)) hpS
    refine back ?_
    clear back
    exact ⟨z1.trans e8, z2⟩
  have nS6 : ∀ {p : Addr} {y : AObj}, H6 p = some y → H9 p = some y ∧ wt (cw p) XS = 0 := fun e => nS (E7 _ _ e)
  refine Mine.hideG fun GG back => ?_
  obtain ⟨c1a, c1b⟩ := nS6 p1
  obtain ⟨c2a, c2b⟩ := nS6 p2
  obtain ⟨c3a, c3b⟩ := nS6 p3
  obtain ⟨c4a, c4b⟩ := nS6 p4
  obtain ⟨c5a, c5b⟩ := nS6 p5
  obtain ⟨c6a, c6b⟩ := nS6 p6
  obtain ⟨c7a, c7b⟩ := nS6 p7
  obtain ⟨c8a, c8b⟩ := nS6 hhA
  obtain ⟨c9a, c9b⟩ := nS o7
  refine back ?_
  clear back
  have hUS : ∀ p, wt (cw p) XU ≠ 0 → H6 p ≠ none ∧ wt (cw p) XS = 0 := fun p hp => by
    have hl := GU.rep.live hp
    refine ⟨hl, ?_⟩
    cases e : H6 p with
    | none => exact absurd e hl
    | some y => exact (nS6 e).2
  have hU9 : Rep H9 XU := GU.rep.frame _ fun p hp => by
    cases e : H6 p with
    | none => exact absurd e (hUS p hp).1
    | some y => exact (nS6 e).1
  have hwA : ∀ p, wt (cw p) (.tab dA ([] : List (Str × T Nat))) = hit p dA := fun p => rfl
  have hwO : ∀ p, wt (cw p) (.tab dO ([] : List (Str × T Nat))) = hit p dO := fun p => rfl
  have hXA : wt (cw dA) XU = 0 := q3
  have hXO : wt (cw dO) XU = 0 := GU.rep.fresh hdO
  have hAO : dA ≠ dO := fun q => by rw [← q, p3] at hdO; cases hdO
  refine Mine.hideG fun GG back => ?_
  obtain ⟨ksU, tU⟩ := GU.tb
  refine back ?_
  clear back
  have LXU := GU.LX htl4 (nm_grow ts S0 trivial)
  refine h _ H9 xa dxa xu dxu hA thB hs ts (.tab dA []) XU (.tab dO []) XS _ htl4 (by repeat first | assumption | with_reducible exact setL_same | (apply setL_ne; decide +kernel)) (by repeat first | assumption | with_reducible exact setL_same | (apply setL_ne; decide +kernel)) (by repeat first | assumption | with_reducible exact setL_same | (apply setL_ne; decide +kernel)) ?_ (by repeat first | assumption | with_reducible exact setL_same | (apply setL_ne; decide +kernel)) (by repeat first | assumption | with_reducible exact setL_same | (apply setL_ne; decide +kernel)) (by repeat first | assumption | with_reducible exact setL_same | (apply setL_ne; decide +kernel)) {
    ia := c1a, da := c2a, iu := c4a
    du := by rw [tU]; exact c5a
    tA := ⟨_, _, rfl⟩, tU := ⟨_, _, tU⟩, tO := ⟨_, _, rfl⟩
    tS := by obtain ⟨ks, e⟩ := GS.tb; exact ⟨_, _, e⟩
    rA := ⟨⟨0, c3a⟩, trivial⟩
    rU := hU9
    rO := ⟨⟨0, c9a⟩, trivial⟩
    rS := GS.rep
    c1 := fun p => ?_
    z := fun p hp => ?_
    hh := c8a, ht := c6a, he := c7a
    ek := fun v hv => (hca6 v hv).keep fun τ xs e => (nS6 e).1
    sa := rfl
    su := by rw [map_ix2 GU.map, map_ix2 GS.map]
    yo := ⟨List.nodup_nil, fun q hq => by cases hq⟩
    eo := rfl, bo := rfl
    so := Nat.le_refl 1
    nmo := trivial
    hsU := fun a ha => find_cnt (GU.has a ha) } LXU (by rw [GU.map]; exact (M_empty LXU.tb).symm) rfl GU.len
  · rw [show vOf XS = V.ref dS by obtain ⟨ks, e⟩ := GS.tb; rw [e]; rfl]; exact setL_same
  · rw [hwA, hwO]
    by_cases z1 : p = dA
    · subst z1
      rw [hit_same, hit_ne hAO]; lia
    · by_cases z2 : p = dO
      · subst z2
        rw [hit_same, hit_ne z1]; lia
      · rw [hit_ne z1, hit_ne z2]
        by_cases z3 : wt (cw p) XU = 0
        · have := GS.one p; lia
        · have := (hUS p z3).2
          have := GU.one p; lia
  · rw [hwA, hwO]
    have kind : ∀ {xs : List V}, H9 p = some (.list xs) → p ≠ dA ∧ p ≠ dO := fun e => ⟨fun q => (by rw [q, c3a] at e; cases e), fun q => (by rw [q, c9a] at e; cases e)⟩
    rcases hp with rfl | rfl | rfl
    · refine Mine.hideG fun GG back => ?_
      obtain ⟨z1, z2⟩ := kind c8a
      refine back ?_
      clear back
      rw [hit_ne z1, hit_ne z2]; lia
    · refine Mine.hideG fun GG back => ?_
      obtain ⟨z1, z2⟩ := kind c6a
      refine back ?_
      clear back
      rw [hit_ne z1, hit_ne z2]; lia
    · refine Mine.hideG fun GG back => ?_
      obtain ⟨z1, z2⟩ := kind c7a
      refine back ?_
      clear back
      rw [hit_ne z1, hit_ne z2]; lia
end
section
structure L5.NS (C xu dxu hA wA : Addr) (hs ws : List Nat) (U W0 : T Nat) (N : T (Option Nat)) (j : Nat) (H : AHeap) : Prop where
  iu : H xu = some (.inst C dxu)
  du : H dxu = some (.attrs (vOf U))
  hh : H hA = some (.list (hs.map V.ref))
  hw : H wA = some (.list (ws.map V.ref))
  dh : ∀ a ∈ hs, ∃ kvs ep, H a = some (.dict kvs ep) ∧ kvs.length ≤ 20000 + j
  dw : ∀ a ∈ ws, ∃ kvs ep, H a = some (.dict kvs ep) ∧ kvs.length ≤ 20000 + j
  st : ∃ Uj Wj, Rep H Uj ∧ Rep H Wj ∧ (∀ b, wt (cw b) Uj ≤ wt (cw b) U) ∧ (∀ b, wt (cw b) Wj ≤ wt (cw b) W0) ∧ wt szw Uj ≤ 20000 + j ∧ wt szw Wj ≤ 20000 + j ∧ T.map (ix hs) nonT Uj = stamp j N ∧ T.map (ix ws) nonT Wj = stamp j N ∧ vOf Uj = vOf U ∧ vOf Wj = vOf W0
theorem putK_len (kvs : List (Key × V)) (k : Key) (v : V) : (putK kvs k v).length ≤ kvs.length + 1 := putK_length kvs k v
set_option maxHeartbeats 2000000 in
theorem L5.end_ok {k : Wk} {m : Loc} {H : AHeap} {C fI fG fA fD fK fGr fB fM fF xa dxa xu dxu hA thB caA : Addr} {hs ts : List Nat} {evs : List V} {n : Nat} {A U O S : T Nat} {NX : T (Option Nat)} {S10 S11 S12 S13 : Stmt} [sv : SEnv k (fnScope L5.fLaw) (cellNames (fnScope L5.fLaw).names)]
    (h10 : S10 = stm (fnBody L5.fLaw) 10) (h11 : S11 = stm (fnBody L5.fLaw) 11) (h12 : S12 = stm (fnBody L5.fLaw) 12) (h13 : S13 = stm (fnBody L5.fLaw) 13)
    (D : L5.Defs k.c C fI fG fA fD fK fGr fB fM fF) (hAA : Room k.A) (hA' : k.A.depth ≤ 500 ∧ k.A.units ≤ 1500)
    (vo : m "own" = some (vOf O)) (vu : m "upon" = some (.ref xu)) (vh : m "held" = some (.ref hA)) (vt : m "things" = some (.ref thB))
    (htl : ts.length ≤ 40) (hn : n ≤ 40) (X : LS C xa dxa xu dxu hA thB caA hs ts evs n A U O S H) (L : LX hs NX) (num : T.map (ix hs) nonT U = M 4 NX (T.map nonT nonT O)) (hNX : NX = (ts.foldl G1 S0).1) (hsl : hs.length = (ts.foldl G1 S0).2) :
    W k (execs [S10, S11, S12, S13] k.env) m H (fun fl _ _ => flowV fl = .bool true) := by
  subst h10; subst h11; subst h12; subst h13
  have hz : sizeLine = _ := sizeLine_eq
  have hh : k.A.handled = none := hAA.handled
  have hun : k.A.units + 64 < cLine := Nat.lt_of_le_of_lt (Nat.add_le_add_right hA'.2 64) (by decide)
  refine Mine.hideG fun GG back => ?_
  refine Mine.hideG fun GG back => ?_
  obtain ⟨foG, fdG, hfoG, hfdG⟩ := D.grow.obj
  obtain ⟨foM, fdM, hfoM, hfdM⟩ := D.me.obj
  obtain ⟨foF, fdF, hfoF, hfdF⟩ := D.fl.obj
  refine back ?_
  clear back
  refine back ?_
  clear back
  refine Mine.hideG fun GG back => ?_
  obtain ⟨z1, z2, z3, z4, z5, z6, z7, z8⟩ := X.sizes L num X.eo X.so (by lia)
  refine back ?_
  clear back
  -- whole
  refine W_cons' ?_
  refine W_cut (fun (fl : Flow) m2 H2 => fl = .next ∧ ∃ wA dW ws XW, m2 = setL m "whole" (.ref wA) ∧ H dW = none ∧ H wA = none ∧ H2 wA = some (.list (ws.map V.ref)) ∧ wt (cw wA) XW = 0 ∧ GSt (upd H dW (.dict [] 0)) H2 dW ws XW (ts.foldl G1 S0) ts.length) ?_ ?_
  · refine W_Assign ?_ ?s0 ?s1
    case s0 => exact stor rfl
    case s1 => rfl
    refine W_CallF D.gGrow (kindS rfl) hfoG hfdG ?_
    refine WItems_cons ?_
    refine W_Dict0 fun dW hdW => ?_
    refine WItems_cons ?_
    refine W_Name vt ?_
    refine WItems_nil ?_
    refine FnV.mono (L5.grow_ok D.grow hAA D.blt (upd_same (f := H) (a := dW) (x := AObj.dict [] 0)) (upd_fresh hdW X.ht) htl) ?_ fun _ _ _ q => q.elim
    intro v H2 hv
    refine Mine.hideG fun GG back => ?_
    obtain ⟨wA, ws, XW, rfl, hw0, hw, hwX, GW⟩ := hv
    refine back ?_
    clear back
    exact ⟨rfl, wA, dW, ws, XW, rfl, hdW, none_less (Ext.upd hdW) hw0, hw, hwX, GW⟩
  intro fl m2 H2 hq
  refine Mine.hideG fun GG back => ?_
  obtain ⟨rfl, wA, dW, ws, XW, rfl, hdW, hwA0, hwA, hwX, GW⟩ := hq
  refine back ?_
  clear back
  refine contQ_next ?_
  have n2 : ∀ {p : Addr} {y : AObj}, H p = some y → H2 p = some y ∧ wt (cw p) XW = 0 := fun {p y} e => by
    have hpW : p ≠ dW := fun q => by rw [q, hdW] at e; cases e
    have e8 : upd H dW (.dict [] 0) p = some y := upd_ne hpW e
    refine Mine.hideG fun GG back => ?_
    obtain ⟨w1, w2⟩ := GW.lv (p := p) (nsome (e8)) hpW
    refine back ?_
    clear back
    exact ⟨w1.trans e8, w2⟩
  have nT : ∀ {t : T Nat}, Rep H t → Rep H2 t ∧ ∀ p, wt (cw p) t ≠ 0 → wt (cw p) XW = 0 := fun r => ⟨r.frame _ fun p hp => by
    cases e : H p with
    | none => exact absurd e (r.live hp)
    | some y => exact (n2 e).1, fun p hp => by
    cases e : H p with
    | none => exact absurd e (r.live hp)
    | some y => exact (n2 e).2⟩
  refine Mine.hideG fun GG back => ?_
  obtain ⟨rO2, oO⟩ := nT X.rO
  obtain ⟨rU2, oU⟩ := nT X.rU
  obtain ⟨iu2, iuX⟩ := n2 X.iu
  obtain ⟨du2, duX⟩ := n2 X.du
  obtain ⟨hh2, hhX⟩ := n2 X.hh
  refine back ?_
  clear back
  have LW := GW.LX htl (nm_grow ts S0 trivial)
  have hmW : T.map (ix ws) nonT XW = NX := by rw [GW.map, hNX]
  have sXW : wt szw XW ≤ 200 := by have := GW.sz; lia
  have cXO : ∀ p, wt (cw p) XW + wt (cw p) O ≤ 1 := fun p => by
    by_cases q : wt (cw p) O = 0
    · have := GW.one p; lia
    · have := oO p q
      have := X.c1 p; lia
  have hYO : Yok 4 O := Yok_map 4 O X.yo
  have v1 : setL m "whole" (.ref wA) "own" = some (vOf O) := by rw [setL_off (by decide)]; exact vo
  have v2 : setL m "whole" (.ref wA) "upon" = some (.ref xu) := by repeat first | assumption | with_reducible exact setL_same | (apply setL_ne; decide +kernel)
  have v3 : setL m "whole" (.ref wA) "held" = some (.ref hA) := by repeat first | assumption | with_reducible exact setL_same | (apply setL_ne; decide +kernel)
  have v4 : setL m "whole" (.ref wA) "whole" = some (.ref wA) := setL_same
  generalize setL m "whole" (.ref wA) = m2 at v1 v2 v3 v4 ⊢
  have tXW : ∃ a ks, XW = .tab a ks := by obtain ⟨ks, e⟩ := GW.tb; exact ⟨_, _, e⟩
  have vXW : vOf XW = .ref dW := by obtain ⟨ks, e⟩ := GW.tb; rw [e]; rfl
  -- the merge
  refine W_cons' ?_
  refine W_cut (fun (fl : Flow) m3 H3 => fl = .next ∧ m3 = m2 ∧ Rep H3 (M 4 XW O) ∧ FrB H2 H3 (fun b => wt (cw b) XW + wt (cw b) O ≠ 0)) ?_ ?_
  · refine W_ExprStmt ?_
    refine W_CallF D.gMe (kindS rfl) hfoM hfdM ?_
    refine WItems_cons ?_
    refine W_Subscript ?_
    refine W_Name v4 ?_
    refine W_int ?_
    refine WSub_list (v := .ref dW) hwA (by decide) (by decide) ?_ ?_
    · show (ws.map V.ref)[0]? = _
      rw [List.getElem?_map, GW.h0]; rfl
    refine WItems_cons ?_
    refine W_Name v1 ?_
    refine WItems_nil ?_
    rw [← vXW]
    refine FnV.mono (L5.merge_ok (d := 4) D.me hAA D.blt tXW hYO GW.rep rO2 cXO (by have := GW.em; lia) (by lia)) ?_ fun _ _ _ q => q.elim
    intro v H3 hv
    refine Mine.hideG fun GG back => ?_
    obtain ⟨r, _, _, _, hr, hf⟩ := hv
    refine back ?_
    clear back
    exact ⟨rfl, rfl, hr, hf⟩
  intro fl m3 H3 hq
  refine Mine.hideG fun GG back => ?_
  obtain ⟨rfl, rfl, rW3, fr3⟩ := hq
  refine back ?_
  clear back
  refine contQ_next ?_
  have nz : ∀ {p : Addr} {x y : Nat}, x = 0 → y = 0 → ¬ (fun _ : Addr => x + y ≠ 0) p := fun h1 h2 z => z (by lia)
  have n3 : ∀ {p : Addr} {y : AObj}, H2 p = some y → wt (cw p) XW = 0 → wt (cw p) O = 0 → H3 p = some y := fun {p y} e h1 h2 => by
    rw [fr3 p (nsome (e)) (nz (p := p) h1 h2), e]
  have zU : ∀ p, wt (cw p) U ≠ 0 → wt (cw p) O = 0 := fun p hp => by have := X.c1 p; lia
  have rU3 : Rep H3 U := rU2.frame _ fun p hp => fr3 p (rU2.live hp) (nz (p := p) (oU p hp) (zU p hp))
  have hMw := fun w : Wt Nat => wt_M (w := w) 4 XW O
  have cUW : ∀ p, wt (cw p) U + wt (cw p) (M 4 XW O) ≤ 1 := fun p => by
    have h1 := hMw (cw p)
    have h2 := X.c1 p
    by_cases q : wt (cw p) U = 0
    · have := cXO p; lia
    · have := oU p q
      have := zU p q
      lia
  have hOws : ∀ p, wt (cw p) O ≠ 0 → ix ws p = none := fun p hp => ix_none fun q => by
    have h1 := find_cnt (GW.has p q)
    exact h1 (oO p hp)
  have hmO : T.map (ix ws) nonT O = T.map nonT nonT O := map_on O fun p hp => hOws p hp
  have numW : T.map (ix ws) nonT (M 4 XW O) = M 4 NX (T.map nonT nonT O) := by rw [map_M, hmW, hmO]
  have hasU : ∀ a ∈ hs, find (isA a) U ≠ none := has_num L.nd num (L.keep X.bo)
  have hasW : ∀ a ∈ ws, find (isA a) (M 4 XW O) ≠ none := has_num GW.nd numW (by
    have := LX.keep (hs := ws) (NX := NX) (by rw [hNX]; exact LW) X.bo
    exact this)
  have hlen : hs.length = ws.length := by rw [hsl, GW.len]
  have hwA2 : wt (cw wA) O = 0 := X.rO.fresh hwA0
  have hwU : wt (cw wA) U = 0 := X.rU.fresh hwA0
  have hAz := X.z hA (.inl rfl)
  have szM : wt szw (M 4 XW O) ≤ 20000 := by have := hMw szw; lia
  have dictOf : ∀ {t : T Nat} {a : Nat}, Rep H3 t → (∀ b, wt (cw b) t ≤ 1) → wt szw t ≤ 20000 → find (isA a) t ≠ none → ∃ kvs ep, H3 a = some (.dict kvs ep) ∧ kvs.length ≤ 20000 + 0 := fun {t a} r c1 s hf => by
    refine Mine.hideG fun GG back => ?_
    obtain ⟨ks, e⟩ := Option.ne_none_iff_exists'.mp hf
    obtain ⟨w1, w3, _⟩ := mod_find (g := fun ks => ks) (H := H3) (H' := H3) t (c1 a) e
    obtain ⟨⟨ep, h1⟩, _⟩ := w3 r
    refine back ?_
    clear back
    refine ⟨_, ep, h1, ?_⟩
    have h2 := (w1 szw).2
    have h3 := sz_len ks
    have h4 : (kvOf ks).length = ks.length := List.length_map _
    lia
  have N0 : L5.NS C xu dxu hA wA hs ws U (M 4 XW O) (M 4 NX (T.map nonT nonT O)) 0 H3 := {
    iu := n3 iu2 iuX (off_inst X.rO X.iu)
    du := n3 du2 duX (off_attrs X.rO X.du)
    hh := n3 hh2 hhX (by lia)
    hw := n3 hwA hwX hwA2
    dh := fun a ha => dictOf rU3 (fun b => by have := cUW b; lia) (by lia) (hasU a ha)
    dw := fun a ha => dictOf rW3 (fun b => by have := cUW b; lia) szM (hasW a ha)
    st := ⟨U, M 4 XW O, rU3, rW3, fun _ => Nat.le_refl _, fun _ => Nat.le_refl _, by lia, by lia, num, numW, rfl, rfl⟩ }
  have hUW : ∀ a ∈ hs, wt (cw a) (M 4 XW O) = 0 := fun a ha => by have := find_cnt (hasU a ha); have := cUW a; lia
  have hWU : ∀ a ∈ ws, wt (cw a) U = 0 := fun a ha => by have := find_cnt (hasW a ha); have := cUW a; lia
  have hwAM : wt (cw wA) (M 4 XW O) = 0 := by have := hMw (cw wA); lia
  have hhAM : wt (cw hA) (M 4 XW O) = 0 := by have := hMw (cw hA); lia
  have hl41 := L.hl
  have vW0 : vOf (M 4 XW O) = .ref dW := by rw [(tab_M tXW).2, vXW]
  have hnm : ∀ j, nmO (stamp j (M 4 NX (T.map nonT nonT O))) := fun j => nm_stamp j _ (M_nm 4 _ _ L.nm X.nmo)
  clear fr3 n3 rU3 rW3 dictOf nz nT n2 cXO hOws hmO oO oU zU
  generalize M 4 XW O = W0 at N0 hUW hWU hwAM hhAM vW0 numW cUW
  generalize M 4 NX (T.map nonT nonT O) = N at N0 hnm
  -- the numbers
  refine W_cons' ?_
  refine W_For ?_ ?s0
  case s0 => exact fun x => rfl
  refine W_CallT D.blt.range (kindS rfl) ?_
  refine WItems_cons ?_
  refine W_CallB D.blt.len (kindS rfl) ?_
  refine WItems_cons ?_
  refine W_Name v3 ?_
  refine WItems_nil ?_
  refine WCall_lenL N0.hh (by rw [List.length_map]; lia) ?_
  refine WItems_nil ?_
  refine WCall_range1 fun rg hrg => ?_
  rw [List.length_map]
  have Er := Ext.upd (x := AObj.range 0 (hs.length : Int) 1) hrg
  have N1 : L5.NS C xu dxu hA wA hs ws U W0 N 0 (upd H3 rg (.range 0 (hs.length : Int) 1)) := by
    refine Mine.hideG fun GG back => ?_
    obtain ⟨Uj, Wj, r1, r2, r3⟩ := N0.st
    refine back ?_
    clear back
    exact { iu := Er _ _ N0.iu, du := Er _ _ N0.du, hh := Er _ _ N0.hh, hw := Er _ _ N0.hw
            dh := fun a ha => by obtain ⟨kvs, ep, e1, e2⟩ := N0.dh a ha; exact ⟨kvs, ep, Er _ _ e1, e2⟩
            dw := fun a ha => by obtain ⟨kvs, ep, e1, e2⟩ := N0.dw a ha; exact ⟨kvs, ep, Er _ _ e1, e2⟩
            st := ⟨Uj, Wj, r1.ext Er, r2.ext Er, r3⟩ }
  refine ⟨_, _, _, fun j m' H' => offL ["k"] m3 m' ∧ L5.NS C xu dxu hA wA hs ws U W0 N j H', WIter_range hh upd_same (small_ft (a := 0) (by lia) (by lia)), ⟨offL.refl, N1⟩, fun _ _ _ _ => trivial, ?_, ?_⟩
  · intro j v m' H' hj hR hI
    rw [rangeN_up] at hj
    refine Mine.hideG fun GG back => ?_
    obtain ⟨om, NI⟩ := hI
    refine back ?_
    clear back
    have hv : v = .int (j : Int) := by rw [hR]; simp
    subst hv
    refine WAs_Name ?s0 ?_
    case s0 => exact stor rfl
    have o1 : offL ["k"] m3 (setL m' "k" (.int (j : Int))) := om.set (by decide)
    have vk : setL m' "k" (.int (j : Int)) "k" = some (.int (j : Int)) := setL_same
    generalize setL m' "k" (.int (j : Int)) = m1 at o1 vk ⊢
    refine W_hide fun QL hQL => ?_
    have ha : hs[j]? = some hs[j] := List.getElem?_eq_getElem hj
    have hj2 : j < ws.length := by lia
    have hb : ws[j]? = some ws[j] := List.getElem?_eq_getElem hj2
    have ham : hs[j] ∈ hs := List.getElem_mem hj
    have hbm : ws[j] ∈ ws := List.getElem_mem hj2
    generalize hs[j] = a at ha ham
    generalize ws[j] = b at hb hbm
    refine Mine.hideG fun GG back => ?_
    obtain ⟨kva, epa, hda, hla⟩ := NI.dh a ham
    obtain ⟨kvb, epb, hdb, hlb⟩ := NI.dw b hbm
    obtain ⟨Uj, Wj, rU, rW, cU, cW, sU, sW, mU, mW, vU, vW⟩ := NI.st
    refine back ?_
    clear back
    have hab : a ≠ b := fun q => by
      have h1 := hWU b hbm
      rw [← q] at h1
      exact find_cnt (hasU a ham) h1
    -- held[k]['is'] = k
    refine W_cons' ?_
    refine W_AssignSub ?_
    refine W_Name vk ?_
    refine W_Subscript ?_
    refine W_Name ((o1 _ (by decide)).trans v3) ?_
    refine W_Name vk ?_
    refine WSub_list (v := .ref a) NI.hh (by lia) (by lia) (by rw [Int.toNat_natCast, List.getElem?_map, ha]; rfl) ?_
    refine W_str fun t1 _ => ?_
    refine WSet_dict hda (key := .inr "is") isKVs (by lia) ?_
    refine contQ_next ?_
    refine Mine.hideG fun GG back => ?_
    obtain ⟨r1, r2, r3, r4, r5⟩ := stamp_one (ep' := epK kva (.inr "is") epa) L.nd ha rU (fun c => by have := cU c; have := cUW c; lia) mU hda
    refine back ?_
    clear back
    have hW1 : Rep (upd H' a (.dict (putK kva (.inr "is") (.int (j : Int))) (epK kva (.inr "is") epa))) Wj := rW.frame _ fun c hc => upd_off fun q => by
      have h1 := hUW a ham
      have h2 := cW a
      rw [q] at hc; lia
    have hdb1 : upd H' a (.dict (putK kva (.inr "is") (.int (j : Int))) (epK kva (.inr "is") epa)) b = some (.dict kvb epb) := upd_ne (Ne.symm hab) hdb
    have hlen1 := putK_len kva (.inr "is") (.int (j : Int))
    -- whole[k]['is'] = k
    have hw1 : upd H' a (.dict (putK kva (.inr "is") (.int (j : Int))) (epK kva (.inr "is") epa)) wA = some (.list (ws.map V.ref)) := upd_ne (fun q => by have := NI.hw; rw [q, hda] at this; cases this) NI.hw
    refine W_cons' ?_
    refine W_AssignSub ?_
    refine W_Name vk ?_
    refine W_Subscript ?_
    refine W_Name ((o1 _ (by decide)).trans v4) ?_
    refine W_Name vk ?_
    refine WSub_list (v := .ref b) hw1 (by lia) (by lia) (by rw [Int.toNat_natCast, List.getElem?_map, hb]; rfl) ?_
    refine W_str fun t2 _ => ?_
    refine WSet_dict hdb1 (key := .inr "is") isKVs (by lia) ?_
    refine contQ_next ?_
    refine W_nil ?_
    refine Mine.hideG fun GG back => ?_
    obtain ⟨g1, g2, g3, g4, g5⟩ := stamp_one (ep' := epK kvb (.inr "is") epb) GW.nd hb hW1 (fun c => by have := cW c; have := cUW c; lia) mW hdb1
    refine back ?_
    clear back
    have hlen2 := putK_len kvb (.inr "is") (.int (j : Int))
    have hkeep : ∀ {p : Addr} {y : AObj}, H' p = some y → (∀ kvs ep, y ≠ .dict kvs ep) → upd (upd H' a (.dict (putK kva (.inr "is") (.int (j : Int))) (epK kva (.inr "is") epa))) b (.dict (putK kvb (.inr "is") (.int (j : Int))) (epK kvb (.inr "is") epb)) p = some y := fun e hy => upd_ne (fun q => by rw [q, hdb] at e; cases e; exact hy _ _ rfl) (upd_ne (fun q => by rw [q, hda] at e; cases e; exact hy _ _ rfl) e)
    have hdict : ∀ c kvs ep, H' c = some (.dict kvs ep) → kvs.length ≤ 20000 + j → ∃ kvs' ep', upd (upd H' a (.dict (putK kva (.inr "is") (.int (j : Int))) (epK kva (.inr "is") epa))) b (.dict (putK kvb (.inr "is") (.int (j : Int))) (epK kvb (.inr "is") epb)) c = some (.dict kvs' ep') ∧ kvs'.length ≤ 20000 + (j + 1) := fun c kvs ep e hl => by
      by_cases q1 : c = b
      · subst q1; exact ⟨_, _, upd_same, by lia⟩
      · by_cases q2 : c = a
        · subst q2; exact ⟨_, _, upd_ne q1 upd_same, by lia⟩
        · exact ⟨kvs, ep, upd_ne q1 (upd_ne q2 e), by lia⟩
    refine hQL _ _ _ (loopQ_next ⟨o1, {
      iu := hkeep NI.iu fun _ _ q => by cases q
      du := hkeep NI.du fun _ _ q => by cases q
      hh := hkeep NI.hh fun _ _ q => by cases q
      hw := hkeep NI.hw fun _ _ q => by cases q
      dh := fun c hc => by obtain ⟨kvs, ep, e1, e2⟩ := NI.dh c hc; exact hdict c kvs ep e1 e2
      dw := fun c hc => by obtain ⟨kvs, ep, e1, e2⟩ := NI.dw c hc; exact hdict c kvs ep e1 e2
      st := ⟨_, _, r1.frame _ fun c hc => upd_off fun q => ?_, g1, fun c => Nat.le_trans (r2 c) (cU c), fun c => Nat.le_trans (g2 c) (cW c), by lia, by lia, r4, g4, r5.trans vU, g5.trans vW⟩ }⟩)
    have h1 := hWU b hbm
    have h2 := r2 b
    have h3 := cU b
    rw [q] at hc; lia
  · intro m' H' hI
    rw [rangeN_up] at hI
    refine Mine.hideG fun GG back => ?_
    obtain ⟨om, NI⟩ := hI
    obtain ⟨Un, Wn, rU, rW, _, _, sU, sW, mU, mW, vU, vW⟩ := NI.st
    refine back ?_
    clear back
    refine contQ_next ?_
    refine W_cons' ?_
    refine W_Return' ?_
    refine W_Compare ?_
    refine W_CallF D.gFl (kindS rfl) hfoF hfdF ?_
    refine WItems_cons ?_
    refine W_getDict D.nest.kls ((om _ (by decide)).trans v2) NI.iu NI.du (fun i => by obtain ⟨a, ks, e⟩ := X.tU; rw [e]; simp [vOf]) ?_
    refine WItems_nil ?_
    rw [← vU]
    refine FnV.mono (L5.flat_ok D.fl hAA D.blt rU (by lia)) ?_ fun _ _ _ q => q.elim
    intro va H4 hv
    refine Mine.hideG fun GG back => ?_
    obtain ⟨hE4, ra⟩ := hv
    refine back ?_
    clear back
    refine W_CallF D.gFl (kindS rfl) hfoF hfdF ?_
    refine WItems_cons ?_
    refine W_Subscript ?_
    refine W_Name ((om _ (by decide)).trans v4) ?_
    refine W_int ?_
    refine WSub_list (v := .ref dW) (hE4 _ _ NI.hw) (by decide) (by decide) ?_ ?_
    · show (ws.map V.ref)[0]? = _
      rw [List.getElem?_map, GW.h0]; rfl
    refine WItems_nil ?_
    rw [← vW0, ← vW]
    refine FnV.mono (L5.flat_ok D.fl hAA D.blt (rW.ext hE4) (by lia)) ?_ fun _ _ _ q => q.elim
    intro vb H5 hv
    refine Mine.hideG fun GG back => ?_
    obtain ⟨hE5, rb⟩ := hv
    refine back ?_
    clear back
    have hfl : flD Un = flD Wn := by
      rw [← fl_map (f := ix hs) (g := nonT) Un, ← fl_map (f := ix ws) (g := nonT) Wn, mU, mW]
    have gU : good (.list (flD Un)) = true := by
      show goodAll (flD Un) = true
      rw [← fl_map (f := ix hs) (g := nonT) Un, mU]
      exact good_fl _ (hnm _)
    have gW : good (.list (flD Wn)) = true := by rw [← hfl]; exact gU
    have dU := depth_fl Un
    refine WCmp_eqD (r := true) (Rd.ext hE5 _ _ ra) rb gU gW ?_ hun ?_ ?_
    · simp only [PyData.depth]; lia
    · rw [hfl]; simp
    intro uR huR
    refine contQ_ret ?_
    rw [er_bool huR]; rfl
theorem L5.body_eq : fnBody L5.fLaw = [stm (fnBody L5.fLaw) 0, stm (fnBody L5.fLaw) 1, stm (fnBody L5.fLaw) 2, stm (fnBody L5.fLaw) 3, stm (fnBody L5.fLaw) 4, stm (fnBody L5.fLaw) 5, stm (fnBody L5.fLaw) 6, stm (fnBody L5.fLaw) 7, stm (fnBody L5.fLaw) 8, stm (fnBody L5.fLaw) 9, stm (fnBody L5.fLaw) 10, stm (fnBody L5.fLaw) 11, stm (fnBody L5.fLaw) 12, stm (fnBody L5.fLaw) 13] := rfl
theorem L5.law_ok {k : Wk} {m : Loc} {H : AHeap} {C fI fG fA fD fK fGr fB fM fF sa : Addr} {ns : List Int} [sv : SEnv k (fnScope L5.fLaw) (cellNames (fnScope L5.fLaw).names)]
    (D : L5.Defs k.c C fI fG fA fD fK fGr fB fM fF) (hAA : Room k.A) (hA' : k.A.depth ≤ 500 ∧ k.A.units ≤ 1500) (hfr : k.env.frame = some k.env.locals) (hs : m "script" = some (.ref sa)) (hsa : BaseL k.c sa (ns.map .int)) (hl : ns.length ≤ 63) :
    W k (execs (fnBody L5.fLaw) k.env) m H (fun fl _ _ => flowV fl = .bool true) := by
  have hroom : Roomy k := Roomy.of hfr (by have := hAA.depth; lia) D.blt.imp D.blt.tree rfl rfl
  have hz : sizeLine = _ := sizeLine_eq
  rw [L5.body_eq]
  generalize g0 : stm (fnBody L5.fLaw) 0 = T0
  generalize g1 : stm (fnBody L5.fLaw) 1 = T1
  generalize g2 : stm (fnBody L5.fLaw) 2 = T2
  generalize g3 : stm (fnBody L5.fLaw) 3 = T3
  generalize g4 : stm (fnBody L5.fLaw) 4 = T4
  generalize g5 : stm (fnBody L5.fLaw) 5 = T5
  generalize g6 : stm (fnBody L5.fLaw) 6 = T6
  generalize g7 : stm (fnBody L5.fLaw) 7 = T7
  generalize g8 : stm (fnBody L5.fLaw) 8 = T8
  generalize g9 : stm (fnBody L5.fLaw) 9 = T9
  generalize g10 : stm (fnBody L5.fLaw) 10 = T10
  generalize g11 : stm (fnBody L5.fLaw) 11 = T11
  generalize g12 : stm (fnBody L5.fLaw) 12 = T12
  generalize g13 : stm (fnBody L5.fLaw) 13 = T13
  subst g0; subst g1
  refine W_cons' ?_
  refine W_Assign ?_ ?s0 ?s1
  case s0 => exact stor rfl
  case s1 => exact swaps_List
  refine W_List ?_
  refine WItems_nil ⟨lz rfl, fun tA htA => ?_⟩
  refine contQ_next ?_
  refine W_cons' ?_
  refine W_Assign ?_ ?s0 ?s1
  case s0 => exact stor rfl
  case s1 => exact swaps_List
  refine W_List ?_
  refine WItems_nil ⟨lz rfl, fun cA hcA => ?_⟩
  refine contQ_next ?_
  have hne : tA ≠ cA := fun q => by rw [← q, upd_same] at hcA; cases hcA
  have ht2 : upd (upd H tA (.list [])) cA (.list []) tA = some (.list []) := upd_ne hne upd_same
  have hc2 : upd (upd H tA (.list [])) cA (.list []) cA = some (.list []) := upd_same
  have w1 : setL (setL m "things" (.ref tA)) "calls" (.ref cA) "script" = some (.ref sa) := by repeat first | assumption | with_reducible exact setL_same | (apply setL_ne; decide +kernel)
  have w2 : setL (setL m "things" (.ref tA)) "calls" (.ref cA) "things" = some (.ref tA) := by repeat first | assumption | with_reducible exact setL_same | (apply setL_ne; decide +kernel)
  have w3 : setL (setL m "things" (.ref tA)) "calls" (.ref cA) "calls" = some (.ref cA) := setL_same
  generalize setL (setL m "things" (.ref tA)) "calls" (.ref cA) = m1 at w1 w2 w3 ⊢
  generalize upd (upd H tA (.list [])) cA (.list []) = H1 at ht2 hc2 ⊢
  refine W_cons' ?_
  refine L5.deal_ok g2.symm D hAA hroom w1 w2 w3 hsa hl ht2 hc2 hne fun m2 H2 ts0 cvs o2 hts htl hcv hcl hca => ?_
  refine contQ_next ?_
  refine L5.mid_ok g3.symm g4.symm g5.symm g6.symm g7.symm g8.symm D hAA hA' ((o2 _ (by decide)).trans w2) ((o2 _ (by decide)).trans w3) hts htl hcv hcl hca fun m3 H3 xa dxa xu dxu hA thB hs ts A U O S NX htl4 va vo vu vs vc vh vt X L num hNX hsl => ?_
  refine W_cons' ?_
  refine L5.calls_ok g9.symm D hAA hA' hfr va vo vu vs vc (by lia) X L num fun m4 H4 A4 U4 O4 S4 e4 es4 n hn o4 X4 num4 eO4 eS4 => ?_
  refine contQ_next ?_
  exact L5.end_ok g10.symm g11.symm g12.symm g13.symm D hAA hA' (((o4 _ (by decide)).trans vo).trans (by rw [eO4])) ((o4 _ (by decide)).trans vu) ((o4 _ (by decide)).trans vh) ((o4 _ (by decide)).trans vt) htl4 hn X4 L num4 hNX hsl
end
end Mine
namespace Mine
noncomputable abbrev pw : Program := PySem.Challenge.pw_kp0043_05
theorem said : OpenLaw.wellSaid PySem.Challenge.rw_kp0043_05 = true := by
  rewrite [PySem.W.Fast.te9446332074065402090]
  kernel_rfl
noncomputable def hview : Program := { pw with main := { pw.main with body := [stm pw.main.body 1, stm pw.main.body 3, stm pw.main.body 4, stm pw.main.body 5, stm pw.main.body 6, stm pw.main.body 7, stm pw.main.body 8, stm pw.main.body 9] } }
noncomputable def hheap (P : Params) : Frag :=
  (nat_lit 2, { cls := Value.none, data := Data.dict #[] }) ::
  (nat_lit 3, { cls := Value.type "dict", data := Data.dict #[{ hash := PyData.keyHash P (Str.ofString "__name__"), key := Value.str (Str.ofString "__name__") 165, val := Value.str (Str.ofString "law_kp0043_05") 240 }, { hash := PyData.keyHash P (Str.ofString "__doc__"), key := Value.str (Str.ofString "__doc__") 166, val := Value.none }, { hash := PyData.keyHash P (Str.ofString "__package__"), key := Value.str (Str.ofString "__package__") 167, val := Value.none }, { hash := PyData.keyHash P (Str.ofString "__loader__"), key := Value.str (Str.ofString "__loader__") 168, val := Value.builtin "__main__.__loader__#opaque" }, { hash := PyData.keyHash P (Str.ofString "__spec__"), key := Value.str (Str.ofString "__spec__") 169, val := Value.none }, { hash := PyData.keyHash P (Str.ofString "__annotations__"), key := Value.str (Str.ofString "__annotations__") 170, val := Value.ref 6 }, { hash := PyData.keyHash P (Str.ofString "__builtins__"), key := Value.str (Str.ofString "__builtins__") 171, val := Value.ref 4 }, { hash := PyData.keyHash P (Str.ofString "__file__"), key := Value.str (Str.ofString "__file__") 173, val := Value.str (Str.ofString "/claim/cut.py") 172 }, { hash := PyData.keyHash P (Str.ofString "__cached__"), key := Value.str (Str.ofString "__cached__") 174, val := Value.none }, { hash := PyData.keyHash P (Str.ofString "NestedDict"), key := Value.str (Str.ofString "NestedDict") 239, val := Value.ref 46 }, { hash := PyData.keyHash P (Str.ofString "_law_digits"), key := Value.str (Str.ofString "_law_digits") 250, val := Value.ref 57 }, { hash := PyData.keyHash P (Str.ofString "_law_key"), key := Value.str (Str.ofString "_law_key") 258, val := Value.ref 64 }, { hash := PyData.keyHash P (Str.ofString "_law_grow"), key := Value.str (Str.ofString "_law_grow") 271, val := Value.ref 71 }, { hash := PyData.keyHash P (Str.ofString "_law_branch"), key := Value.str (Str.ofString "_law_branch") 282, val := Value.ref 78 }, { hash := PyData.keyHash P (Str.ofString "_law_merge"), key := Value.str (Str.ofString "_law_merge") 288, val := Value.ref 83 }, { hash := PyData.keyHash P (Str.ofString "_law_flat"), key := Value.str (Str.ofString "_law_flat") 294, val := Value.ref 88 }, { hash := PyData.keyHash P (Str.ofString "law"), key := Value.str (Str.ofString "law") 300, val := Value.ref 93 }] 17 }) ::
  (nat_lit 6, { cls := Value.type "dict", data := Data.dict #[] }) ::
  (nat_lit 22, { cls := Value.type "tuple", data := Data.seq #[] }) ::
  (nat_lit 24, { cls := Value.type "tuple", data := Data.seq #[Value.str (Str.ofString "self") 204] }) ::
  (nat_lit 25, { cls := Value.type "tuple", data := Data.seq #[] }) ::
  (nat_lit 27, { cls := Value.type "code", data := Data.fields #[Value.str (Str.ofString "__init__") 201, Value.str (Str.ofString "NestedDict.__init__") 202, Value.str (Str.ofString "/claim/cut.py") 203, Value.int 4 0, Value.int 1 0, Value.int 0 0, Value.int 0 0, Value.int 3 0, Value.ref 22, Value.bool true, Value.int 181 0, Value.ref 23, Value.none, Value.ref 24, Value.ref 25, Value.ref 26, Value.int 205 0, Value.int 4 0, Value.str (Str.ofString "/claim/cut.py") 206] }) ::
  (nat_lit 28, { cls := Value.type "function", data := Data.func { name := Str.ofString "__init__", qualname := Str.ofString "NestedDict.__init__", params := fnParams (stm (fnBody (stm pw.main.body 1)) 0), body := FuncBody.stmts (fnBody (stm (fnBody (stm pw.main.body 1)) 0)), scope := fnScope (stm (fnBody (stm pw.main.body 1)) 0), globals := 3, closure := [], defaults := Value.none, kwdefaults := Value.none, pyModule := Value.str (Str.ofString "cpy313.tomllib._parser") 187, code := Value.ref 27 } }) ::
  (nat_lit 29, { cls := Value.type "dict", data := Data.dict #[{ hash := PyData.keyHash P (Str.ofString "access_lists"), key := Value.str (Str.ofString "access_lists") 208, val := Value.bool true }] 1 }) ::
  (nat_lit 30, { cls := Value.type "tuple", data := Data.seq #[] }) ::
  (nat_lit 32, { cls := Value.type "tuple", data := Data.seq #[Value.str (Str.ofString "self") 212, Value.str (Str.ofString "key") 213, Value.str (Str.ofString "access_lists") 214, Value.str (Str.ofString "cont") 215, Value.str (Str.ofString "k") 216] }) ::
  (nat_lit 33, { cls := Value.type "tuple", data := Data.seq #[] }) ::
  (nat_lit 35, { cls := Value.type "code", data := Data.fields #[Value.str (Str.ofString "get_or_create_nest") 209, Value.str (Str.ofString "NestedDict.get_or_create_nest") 210, Value.str (Str.ofString "/claim/cut.py") 211, Value.int 7 0, Value.int 2 0, Value.int 0 0, Value.int 1 0, Value.int 3 0, Value.ref 30, Value.bool true, Value.int 181 0, Value.ref 31, Value.none, Value.ref 32, Value.ref 33, Value.ref 34, Value.int 217 0, Value.int 7 0, Value.str (Str.ofString "/claim/cut.py") 218] }) ::
  (nat_lit 36, { cls := Value.type "function", data := Data.func { name := Str.ofString "get_or_create_nest", qualname := Str.ofString "NestedDict.get_or_create_nest", params := fnParams (stm (fnBody (stm pw.main.body 1)) 1), body := FuncBody.stmts (fnBody (stm (fnBody (stm pw.main.body 1)) 1)), scope := fnScope (stm (fnBody (stm pw.main.body 1)) 1), globals := 3, closure := [], defaults := Value.none, kwdefaults := Value.ref 29, pyModule := Value.str (Str.ofString "cpy313.tomllib._parser") 187, code := Value.ref 35 } }) ::
  (nat_lit 37, { cls := Value.type "tuple", data := Data.seq #[] }) ::
  (nat_lit 39, { cls := Value.type "tuple", data := Data.seq #[Value.str (Str.ofString "self") 223, Value.str (Str.ofString "key") 224, Value.str (Str.ofString "cont") 225, Value.str (Str.ofString "last_key") 226, Value.str (Str.ofString "list_") 227] }) ::
  (nat_lit 40, { cls := Value.type "tuple", data := Data.seq #[] }) ::
  (nat_lit 42, { cls := Value.type "code", data := Data.fields #[Value.str (Str.ofString "append_nest_to_list") 220, Value.str (Str.ofString "NestedDict.append_nest_to_list") 221, Value.str (Str.ofString "/claim/cut.py") 222, Value.int 19 0, Value.int 2 0, Value.int 0 0, Value.int 0 0, Value.int 3 0, Value.ref 37, Value.bool true, Value.int 181 0, Value.ref 38, Value.none, Value.ref 39, Value.ref 40, Value.ref 41, Value.int 228 0, Value.int 19 0, Value.str (Str.ofString "/claim/cut.py") 229] }) ::
  (nat_lit 43, { cls := Value.type "function", data := Data.func { name := Str.ofString "append_nest_to_list", qualname := Str.ofString "NestedDict.append_nest_to_list", params := fnParams (stm (fnBody (stm pw.main.body 1)) 2), body := FuncBody.stmts (fnBody (stm (fnBody (stm pw.main.body 1)) 2)), scope := fnScope (stm (fnBody (stm pw.main.body 1)) 2), globals := 3, closure := [], defaults := Value.none, kwdefaults := Value.none, pyModule := Value.str (Str.ofString "cpy313.tomllib._parser") 187, code := Value.ref 42 } }) ::
  (nat_lit 44, { cls := Value.type "tuple", data := Data.seq #[Value.str (Str.ofString "dict") 231] }) ::
  (nat_lit 45, { cls := Value.type "dict", data := Data.dict #[{ hash := PyData.keyHash P (Str.ofString "__module__"), key := Value.str (Str.ofString "__module__") 196, val := Value.str (Str.ofString "cpy313.tomllib._parser") 187 }, { hash := PyData.keyHash P (Str.ofString "__firstlineno__"), key := Value.str (Str.ofString "__firstlineno__") 200, val := Value.int 2 199 }, { hash := PyData.keyHash P (Str.ofString "__init__"), key := Value.str (Str.ofString "__init__") 207, val := Value.ref 28 }, { hash := PyData.keyHash P (Str.ofString "get_or_create_nest"), key := Value.str (Str.ofString "get_or_create_nest") 219, val := Value.ref 36 }, { hash := PyData.keyHash P (Str.ofString "append_nest_to_list"), key := Value.str (Str.ofString "append_nest_to_list") 230, val := Value.ref 43 }, { hash := PyData.keyHash P (Str.ofString "__static_attributes__"), key := Value.str (Str.ofString "__static_attributes__") 232, val := Value.ref 44 }, { hash := PyData.keyHash P (Str.ofString "__dict__"), key := Value.str (Str.ofString "__dict__") 234, val := Value.ref 47 }, { hash := PyData.keyHash P (Str.ofString "__weakref__"), key := Value.str (Str.ofString "__weakref__") 236, val := Value.ref 48 }, { hash := PyData.keyHash P (Str.ofString "__doc__"), key := Value.str (Str.ofString "__doc__") 237, val := Value.none }] 4 }) ::
  (nat_lit 46, { cls := Value.type "type", data := Data.cls { name := Str.ofString "NestedDict", bases := [Value.type "object"], mro := [Value.ref 46, Value.type "object"], ns := 45, qualname := Str.ofString "NestedDict" }, slots := #[none, none, some (Value.str (Str.ofString "NestedDict") 189), some (Value.str (Str.ofString "NestedDict") 197), some (Value.builtin "object.__new__"), some (Value.bool true)] }) ::
  (nat_lit 47, { cls := Value.type "getset_descriptor", data := Data.fields #[Value.str (Str.ofString "__dict__") 233, Value.ref 46, Value.builtin "function.__dict__", Value.builtin "function.__dict__#set"] }) ::
  (nat_lit 48, { cls := Value.type "getset_descriptor", data := Data.fields #[Value.str (Str.ofString "__weakref__") 235, Value.ref 46, Value.builtin "ExceptionGroup.__weakref__", Value.none] }) ::
  (nat_lit 51, { cls := Value.type "tuple", data := Data.seq #[] }) ::
  (nat_lit 53, { cls := Value.type "tuple", data := Data.seq #[Value.str (Str.ofString "x") 245, Value.str (Str.ofString "base") 246, Value.str (Str.ofString "told") 247] }) ::
  (nat_lit 54, { cls := Value.type "tuple", data := Data.seq #[] }) ::
  (nat_lit 56, { cls := Value.type "code", data := Data.fields #[Value.str (Str.ofString "_law_digits") 242, Value.str (Str.ofString "_law_digits") 243, Value.str (Str.ofString "/claim/cut.py") 244, Value.int 30 0, Value.int 2 0, Value.int 0 0, Value.int 0 0, Value.int 3 0, Value.ref 51, Value.bool true, Value.int 181 0, Value.ref 52, Value.none, Value.ref 53, Value.ref 54, Value.ref 55, Value.int 248 0, Value.int 30 0, Value.str (Str.ofString "/claim/cut.py") 249] }) ::
  (nat_lit 57, { cls := Value.type "function", data := Data.func { name := Str.ofString "_law_digits", qualname := Str.ofString "_law_digits", params := fnParams (stm pw.main.body 3), body := FuncBody.stmts (fnBody (stm pw.main.body 3)), scope := fnScope (stm pw.main.body 3), globals := 3, closure := [], defaults := Value.none, kwdefaults := Value.none, pyModule := Value.str (Str.ofString "law_kp0043_05") 240, code := Value.ref 56 } }) ::
  (nat_lit 58, { cls := Value.type "tuple", data := Data.seq #[] }) ::
  (nat_lit 60, { cls := Value.type "tuple", data := Data.seq #[Value.str (Str.ofString "k") 254, Value.str (Str.ofString "names") 255] }) ::
  (nat_lit 61, { cls := Value.type "tuple", data := Data.seq #[] }) ::
  (nat_lit 63, { cls := Value.type "code", data := Data.fields #[Value.str (Str.ofString "_law_key") 251, Value.str (Str.ofString "_law_key") 252, Value.str (Str.ofString "/claim/cut.py") 253, Value.int 37 0, Value.int 1 0, Value.int 0 0, Value.int 0 0, Value.int 3 0, Value.ref 58, Value.bool true, Value.int 181 0, Value.ref 59, Value.none, Value.ref 60, Value.ref 61, Value.ref 62, Value.int 256 0, Value.int 37 0, Value.str (Str.ofString "/claim/cut.py") 257] }) ::
  (nat_lit 64, { cls := Value.type "function", data := Data.func { name := Str.ofString "_law_key", qualname := Str.ofString "_law_key", params := fnParams (stm pw.main.body 4), body := FuncBody.stmts (fnBody (stm pw.main.body 4)), scope := fnScope (stm pw.main.body 4), globals := 3, closure := [], defaults := Value.none, kwdefaults := Value.none, pyModule := Value.str (Str.ofString "law_kp0043_05") 240, code := Value.ref 63 } }) ::
  (nat_lit 65, { cls := Value.type "tuple", data := Data.seq #[] }) ::
  (nat_lit 67, { cls := Value.type "tuple", data := Data.seq #[Value.str (Str.ofString "root") 262, Value.str (Str.ofString "things") 263, Value.str (Str.ofString "tables") 264, Value.str (Str.ofString "t") 265, Value.str (Str.ofString "table") 266, Value.str (Str.ofString "name") 267, Value.str (Str.ofString "item") 268] }) ::
  (nat_lit 68, { cls := Value.type "tuple", data := Data.seq #[] }) ::
  (nat_lit 70, { cls := Value.type "code", data := Data.fields #[Value.str (Str.ofString "_law_grow") 259, Value.str (Str.ofString "_law_grow") 260, Value.str (Str.ofString "/claim/cut.py") 261, Value.int 40 0, Value.int 2 0, Value.int 0 0, Value.int 0 0, Value.int 3 0, Value.ref 65, Value.bool true, Value.int 181 0, Value.ref 66, Value.none, Value.ref 67, Value.ref 68, Value.ref 69, Value.int 269 0, Value.int 40 0, Value.str (Str.ofString "/claim/cut.py") 270] }) ::
  (nat_lit 71, { cls := Value.type "function", data := Data.func { name := Str.ofString "_law_grow", qualname := Str.ofString "_law_grow", params := fnParams (stm pw.main.body 5), body := FuncBody.stmts (fnBody (stm pw.main.body 5)), scope := fnScope (stm pw.main.body 5), globals := 3, closure := [], defaults := Value.none, kwdefaults := Value.none, pyModule := Value.str (Str.ofString "law_kp0043_05") 240, code := Value.ref 70 } }) ::
  (nat_lit 72, { cls := Value.type "tuple", data := Data.seq #[] }) ::
  (nat_lit 74, { cls := Value.type "tuple", data := Data.seq #[Value.str (Str.ofString "key") 275, Value.str (Str.ofString "grows") 276, Value.str (Str.ofString "place") 277, Value.str (Str.ofString "tree") 278, Value.str (Str.ofString "name") 279] }) ::
  (nat_lit 75, { cls := Value.type "tuple", data := Data.seq #[] }) ::
  (nat_lit 77, { cls := Value.type "code", data := Data.fields #[Value.str (Str.ofString "_law_branch") 272, Value.str (Str.ofString "_law_branch") 273, Value.str (Str.ofString "/claim/cut.py") 274, Value.int 55 0, Value.int 3 0, Value.int 0 0, Value.int 0 0, Value.int 3 0, Value.ref 72, Value.bool true, Value.int 181 0, Value.ref 73, Value.none, Value.ref 74, Value.ref 75, Value.ref 76, Value.int 280 0, Value.int 55 0, Value.str (Str.ofString "/claim/cut.py") 281] }) ::
  (nat_lit 78, { cls := Value.type "function", data := Data.func { name := Str.ofString "_law_branch", qualname := Str.ofString "_law_branch", params := fnParams (stm pw.main.body 6), body := FuncBody.stmts (fnBody (stm pw.main.body 6)), scope := fnScope (stm pw.main.body 6), globals := 3, closure := [], defaults := Value.none, kwdefaults := Value.none, pyModule := Value.str (Str.ofString "law_kp0043_05") 240, code := Value.ref 77 } }) ::
  (nat_lit 79, { cls := Value.type "tuple", data := Data.seq #[] }) ::
  (nat_lit 82, { cls := Value.type "code", data := Data.fields #[Value.str (Str.ofString "_law_merge") 283, Value.str (Str.ofString "_law_merge") 284, Value.str (Str.ofString "/claim/cut.py") 285, Value.int 60 0, Value.int 2 0, Value.int 0 0, Value.int 0 0, Value.int 3 0, Value.ref 79, Value.bool true, Value.int 181 0, Value.ref 80, Value.none, Value.none, Value.none, Value.ref 81, Value.int 286 0, Value.int 60 0, Value.str (Str.ofString "/claim/cut.py") 287] }) ::
  (nat_lit 83, { cls := Value.type "function", data := Data.func { name := Str.ofString "_law_merge", qualname := Str.ofString "_law_merge", params := fnParams (stm pw.main.body 7), body := FuncBody.stmts (fnBody (stm pw.main.body 7)), scope := fnScope (stm pw.main.body 7), globals := 3, closure := [], defaults := Value.none, kwdefaults := Value.none, pyModule := Value.str (Str.ofString "law_kp0043_05") 240, code := Value.ref 82 } }) ::
  (nat_lit 84, { cls := Value.type "tuple", data := Data.seq #[] }) ::
  (nat_lit 87, { cls := Value.type "code", data := Data.fields #[Value.str (Str.ofString "_law_flat") 289, Value.str (Str.ofString "_law_flat") 290, Value.str (Str.ofString "/claim/cut.py") 291, Value.int 84 0, Value.int 1 0, Value.int 0 0, Value.int 0 0, Value.int 3 0, Value.ref 84, Value.bool true, Value.int 181 0, Value.ref 85, Value.none, Value.none, Value.none, Value.ref 86, Value.int 292 0, Value.int 84 0, Value.str (Str.ofString "/claim/cut.py") 293] }) ::
  (nat_lit 88, { cls := Value.type "function", data := Data.func { name := Str.ofString "_law_flat", qualname := Str.ofString "_law_flat", params := fnParams (stm pw.main.body 8), body := FuncBody.stmts (fnBody (stm pw.main.body 8)), scope := fnScope (stm pw.main.body 8), globals := 3, closure := [], defaults := Value.none, kwdefaults := Value.none, pyModule := Value.str (Str.ofString "law_kp0043_05") 240, code := Value.ref 87 } }) ::
  (nat_lit 89, { cls := Value.type "tuple", data := Data.seq #[] }) ::
  (nat_lit 92, { cls := Value.type "code", data := Data.fields #[Value.str (Str.ofString "law") 295, Value.str (Str.ofString "law") 296, Value.str (Str.ofString "/claim/cut.py") 297, Value.int 98 0, Value.int 1 0, Value.int 0 0, Value.int 0 0, Value.int 3 0, Value.ref 89, Value.bool true, Value.int 181 0, Value.ref 90, Value.none, Value.none, Value.none, Value.ref 91, Value.int 298 0, Value.int 98 0, Value.str (Str.ofString "/claim/cut.py") 299] }) ::
  (nat_lit 93, { cls := Value.type "function", data := Data.func { name := Str.ofString "law", qualname := Str.ofString "law", params := fnParams (stm pw.main.body 9), body := FuncBody.stmts (fnBody (stm pw.main.body 9)), scope := fnScope (stm pw.main.body 9), globals := 3, closure := [], defaults := Value.none, kwdefaults := Value.none, pyModule := Value.str (Str.ofString "law_kp0043_05") 240, code := Value.ref 92 } }) ::
  []
theorem hfill : (PySem.Challenge.rw_kp0043_05, hheap) = (PySem.Challenge.rw_kp0043_05, hheap) := by k_fill; rfl
noncomputable def hplaces : List Nat := [2, 3, 6, 22, 24, 25, 27, 28, 29, 30, 32, 33, 35, 36, 37, 39, 40, 42, 43, 44, 45, 46, 47, 48, 51, 53, 54, 56, 57, 58, 60, 61, 63, 64, 65, 67, 68, 70, 71, 72, 74, 75, 77, 78, 79, 82, 83, 84, 87, 88, 89, 92, 93]
noncomputable def hhook : Hook := kHook hheap hplaces fun P => by kernel_rfl
theorem hleft : LeftO pw hview [Str.ofString "NestedDict"] (fun s => xlAt hview [] s && recOk [] s) (Hook.obs hhook) (Hook.val hhook) 1168 := fun w => by
  delta openEnds fencedOpening topFrom
  rewrite [PySem.W.Fast.te14082659384304107361, PySem.W.Fast.te10274390034422433532, PySem.W.Fast.te14289696077712309145, PySem.W.Fast.te14364793385576792824, PySem.W.Fast.te4187177175401517315]
  kernel_rfl
theorem nsOk_of {K : Frag} {N : Addr} {oc : Value} {od : Option Addr} {es : Array DictEntry} {ep : Nat} {sl : Array (Option Value)} (h : K.lookup N = some ⟨oc, od, .dict es ep, sl⟩) (he : (es.all fun e => match e.key with | .str _ _ => true | _ => false) = true) : nsOkIn K N = true := by
  unfold nsOkIn
  rw [h]
  exact he
theorem L5.get_at (P : Params) {c : Cx} (hK : c.K = hheap P) : ∃ fd, FnAt c 36 fd (fnBody L5.mG) ∧ fd.scope = fnScope L5.mG ∧ fd.params = fnParams L5.mG ∧ fd.defaults = .none ∧
    ∃ d mk, fd.kwdefaults = .ref d ∧ c.base.Ns d mk ∧ mk "access_lists" = some (.bool true) := by
  have h : ∃ name qual doc pm cdv ct oc d an od osl, c.K.lookup 36 = some ⟨oc, od, .func (fnOf name qual (fnParams L5.mG) (fnBody L5.mG) (fnScope L5.mG) .none (.ref d) doc pm an cdv ct), osl⟩ ∧ codeIn c.K cdv qual = true ∧ nsIn c.K d "access_lists" = some (some (.bool true)) ∧ nsOkIn c.K d = true :=
    ⟨_, _, _, _, _, _, _, _, _, _, _, by rw [hK]; k_is, by rw [hK]; k_is, by rw [hK]; k_is, by rw [hK]; exact nsOk_of (by k_is) (by simp)⟩
  obtain ⟨name, qual, doc, pm, cdv, ct, oc, d, an, od, osl, h1, h2, h3, h4⟩ := h
  have G : c.base.Ns d (c.base.nsMap d) := Heap.Ns.of_isNs (isNs_of_in c.inK h4)
  exact ⟨_, fnAt_K h1 h2 (by rfl) (by rfl) (by rfl) (by decide), rfl, rfl, rfl, d, _, rfl, G, ns_at c.inK G h3⟩
set_option maxHeartbeats 4000000 in
theorem L5.defs_at (P : Params) {c : Cx} (hK : c.K = hheap P) (himp : importsNone c.p = true) (htree : c.prog.given.tree = none) : L5.Defs c 46 28 36 43 57 64 71 78 83 88 where
  blt := ⟨gl_B (by rw [hK]; k_is) rfl (by decide), gl_B (by rw [hK]; k_is) rfl (by decide), gl_B (by rw [hK]; k_is) rfl (by decide), gl_B (by rw [hK]; k_is) rfl (by decide), gl_B (by rw [hK]; k_is) rfl (by decide), gl_B (by rw [hK]; k_is) rfl (by decide), gl_B (by rw [hK]; k_is) rfl (by decide), gl_B (by rw [hK]; k_is) rfl (by decide), gl_B (by rw [hK]; k_is) rfl (by decide), himp, htree⟩
  nest := {
    kls := ⟨by rw [hK]; k_is, by rw [hK]; k_is, by rw [hK]; k_is, by rw [hK]; k_is, by rw [hK]; k_is, by rw [hK]; k_is, by rw [hK]; k_is, by rw [hK]; k_is, by rw [hK]; k_is, by rw [hK]; k_is, by rw [hK]; k_is⟩
    mG := ⟨by rw [hK]; k_is, by rw [hK]; k_is, by rw [hK]; k_is, by rw [hK]; k_is, by decide⟩
    mA := ⟨by rw [hK]; k_is, by rw [hK]; k_is, by rw [hK]; k_is, by rw [hK]; k_is, by decide⟩
    init := defAt_K (by rw [hK]; k_is) (by rw [hK]; k_is) (by rfl) (by rfl) (by rfl) (by decide)
    app := defAt_K (by rw [hK]; k_is) (by rw [hK]; k_is) (by rfl) (by rfl) (by rfl) (by decide)
    get := L5.get_at P hK }
  gC := gl_K (by rw [hK]; k_is)
  dig := defAt_K (by rw [hK]; k_is) (by rw [hK]; k_is) (by rfl) (by rfl) (by rfl) (by decide)
  gDig := gl_K (by rw [hK]; k_is)
  key := defAt_K (by rw [hK]; k_is) (by rw [hK]; k_is) (by rfl) (by rfl) (by rfl) (by decide)
  gKey := gl_K (by rw [hK]; k_is)
  grow := defAt_K (by rw [hK]; k_is) (by rw [hK]; k_is) (by rfl) (by rfl) (by rfl) (by decide)
  gGrow := gl_K (by rw [hK]; k_is)
  br := defAt_K (by rw [hK]; k_is) (by rw [hK]; k_is) (by rfl) (by rfl) (by rfl) (by decide)
  gBr := gl_K (by rw [hK]; k_is)
  me := defAt_K (by rw [hK]; k_is) (by rw [hK]; k_is) (by rfl) (by rfl) (by rfl) (by decide)
  gMe := gl_K (by rw [hK]; k_is)
  fl := defAt_K (by rw [hK]; k_is) (by rw [hK]; k_is) (by rfl) (by rfl) (by rfl) (by decide)
  gFl := gl_K (by rw [hK]; k_is)
set_option maxHeartbeats 8000000 in
theorem L5.claim : PySem.Challenge.rw_kp0043_05.Holds := by
  w_on
  refine holds_law said fun ok => ?_
  refine holds_open (q := hview) (loose := [Str.ofString "NestedDict"]) (Xt := fun s => xlAt hview [] s && recOk [] s) (XP := XL hview []) (Yf := Hook.obs hhook) (Ya := Hook.val hhook) (YP := Hook.says hhook) (N := 1168) hleft (Hook.of hhook) (Hook.keeps hhook) (fun s e => xl_of s (Bool.and_eq_true_iff.mp e).1) XL.keeps (by rfl) (by rfl) (by rfl) (fun s e => recFacts_of (Bool.and_eq_true_iff.mp e).2) (by rfl) ok (by decide +kernel) ⟨rfl, rfl, rfl, rfl, rfl, by decide +kernel⟩ ?hw ?hc
  case hw => w_witness2
  w_strict (
    intro w s₀ s₁ mg mb G Y fa o pm cd doc dV kV ho hd hcd hD hmg hg args vals as hpre hlay hrd hwl hlo
    have KX := kIn_of Y
    refine Ground.open G ?_
    intro T _ _ _ _
    clear hmg
    wrow_args hpre hlay hrd hwl hlo
    first | refine callC_kw (enter_call ?_) | refine enter_call ?_
    w_top on
    refine codeAny_mono ?_ (fun _ _ g => GoodW.toG g)
    refine call_cells2 (by decide) ho hd (Top.nolimit T) hcd hD rfl rfl rfl (by decide) fun h₁ t1 cells ht₁ F N0 X0 => ?_)
  (with_reducible rename Top _ _ _ _ _ _ => kT)
  (with_reducible rename Frag.In _ _ => kX)
  (with_reducible rename Heap.IsList _ _ _ => kL)
  (with_reducible rename IntsAre _ _ => kI)
  (with_reducible rename Fr _ _ _ _ => kF)
  (with_reducible rename News _ _ _ _ => kN)
  (with_reducible rename CellsAre _ _ _ => kC)
  rename _ = #[] => kg
  rename 1 ≤ _ => kt1
  rename ¬ ((63 : Nat) : Int) < _ => k63
  refine fin_joinC kX kT kg kL kI kF kN kC (by rfl) (by decide) (by rfl) (by rfl) rfl rfl rfl kt1 ?_
  intro c hp hK hw hpp hb hB k hkc hke hkA
  have D := L5.defs_at _ (c := k.c) (by rw [hkc]; exact hK) (by rw [hkc, hpp]; rfl) (by rw [hkc, hp]; rfl)
  haveI : SEnv k (fnScope L5.fLaw) (cellNames (fnScope L5.fLaw).names) := ⟨by rw [hke]; rfl, by rw [hke]; exact cellsFrom_map _ _ _ _ _ rfl⟩
  have hroom : Room k.A ∧ (k.A.depth ≤ 500 ∧ k.A.units ≤ 1500) := by
    rw [hkA]
    exact ⟨⟨by show callerA.depth + 1 ≤ 600; decide, by show callerA.units + 3 ≤ 2000; decide, rfl⟩, by show callerA.depth + 1 ≤ 500; decide, by show callerA.units + 3 ≤ 1500; decide⟩
  have hl := L5.law_ok (m := setL noLoc "script" (.ref _)) (H := fun _ => none) D hroom.1 hroom.2 (by rw [hke]; rfl) setL_same (by rw [hkc]; exact hB) (by omega)
  exact hl
end Mine
theorem PySem.Challenge.cw_kp0043_05_holds : PySem.Challenge.rw_kp0043_05.Holds := by
  exact Mine.L5.claim
