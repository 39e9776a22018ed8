import PyProof.Rows.All
import Wide.All
import OpenK.AllK
import Wide.FinOn
import PySem.Challenge.RW_kp0043_02
open PySem PySem.W PySem.Calls PyProof.Rows
set_option Elab.async false
set_option maxRecDepth 100000
set_option linter.unusedVariables false
set_option linter.unusedSimpArgs false
namespace Mine
theorem hideG {G : Prop} (h : ∀ G' : Prop, (G → G') → G') : G := h G id
end Mine
namespace Mine
set_option genSizeOfSpec false in
inductive V where
  | none | bool (b : Bool) | int (i : Int) | str (x : Str) (t : Tok) | ref (a : Addr) | ty (n : String) | bi (i : String) | other
  deriving DecidableEq
noncomputable def er : Value → V
  | .none => .none
  | .bool b => .bool b
  | .int i _ => .int i
  | .str x t => .str x t
  | .ref a => .ref a
  | .type n => .ty n
  | .builtin i => .bi i
  | _ => .other
theorem er_none {v : Value} (h : er v = .none) : v = .none := by cases v <;> simp [er] at h ⊢
theorem er_bool {v : Value} {b : Bool} (h : er v = .bool b) : v = .bool b := by cases v <;> simp [er] at h ⊢; exact h
theorem er_int {v : Value} {i : Int} (h : er v = .int i) : ∃ t, v = .int i t := by cases v <;> simp [er] at h ⊢; exact h
theorem er_str {v : Value} {x : Str} {t : Tok} (h : er v = .str x t) : v = .str x t := by cases v <;> simp [er] at h ⊢; exact h
theorem er_ref {v : Value} {a : Addr} (h : er v = .ref a) : v = .ref a := by cases v <;> simp [er] at h ⊢; exact h
theorem er_ty {v : Value} {n : String} (h : er v = .ty n) : v = .type n := by cases v <;> simp [er] at h ⊢; exact h
theorem er_bi {v : Value} {n : String} (h : er v = .bi n) : v = .builtin n := by cases v <;> simp [er] at h ⊢; exact h
noncomputable abbrev Key := Int ⊕ Str
noncomputable def isKV : Key → V → Bool
  | .inl i, .int j => i == j
  | .inr x, .str y _ => x == y
  | _, _ => false
noncomputable def isKey : Key → Value → Bool
  | .inl i, v => Value.isInt i v
  | .inr x, v => Value.isStrOf x v
theorem isKey_er {k : Key} {v : Value} : isKey k v = isKV k (er v) := by
  cases k <;> cases v <;> simp [isKey, isKV, er, Value.isInt, Value.isStrOf] <;> exact Bool.beq_comm
theorem isKV_inj {a b : Key} {v : V} (ha : isKV a v = true) (hb : isKV b v = true) : a = b := by
  cases a <;> cases b <;> cases v <;> simp [isKV] at ha hb ⊢ <;> rw [ha, hb]
theorem eqBool_key {prog : Program} {w : World} {A : Around} {E : Value → Shared → Prop} {s : Shared} {a b : Key} {u v : Value} {Q : Bool → Shared → Prop} (hu : isKey a u = true) (hv : isKey b v = true) (h : Q (decide (a = b)) s) :
    wpAny (model prog w) A (PySem.eqBool u v) Q E s := by
  cases a with
  | inl i =>
    obtain ⟨t, rfl⟩ := Value.isInt_shape hu
    cases b with
    | inl j =>
      obtain ⟨t', rfl⟩ := Value.isInt_shape hv
      have e : (i == j) = decide ((Sum.inl i : Key) = Sum.inl j) := by by_cases hij : i = j <;> simp [hij]
      exact wpAny_eqBool_int (e ▸ h)
    | inr y =>
      obtain ⟨t', rfl⟩ := Value.isStrOf_shape hv
      unfold PySem.eqBool
      rw [if_neg (by intro q; cases (eq_of_beq q))]
      exact wpAny_bind (EqMixed.eq_int_str (wpAny_truthy_bool (by simpa using h)))
  | inr x =>
    obtain ⟨t, rfl⟩ := Value.isStrOf_shape hu
    cases b with
    | inl j =>
      obtain ⟨t', rfl⟩ := Value.isInt_shape hv
      unfold PySem.eqBool
      rw [if_neg (by intro q; cases (eq_of_beq q))]
      exact wpAny_bind (EqMixed.eq_str_int (wpAny_truthy_bool (by simpa using h)))
    | inr y =>
      obtain ⟨t', rfl⟩ := Value.isStrOf_shape hv
      have e : decide (x = y) = decide ((Sum.inr x : Key) = Sum.inr y) := by by_cases hxy : x = y <;> simp [hxy]
      exact wpAny_eqBool_str (e ▸ h)
noncomputable def hashKey (w : World) : Key → Int
  | .inl i => hashInt i
  | .inr x => hashStr w x
theorem pyHash_key {prog : Program} {w : World} {A : Around} {E : Value → Shared → Prop} {s : Shared} {k : Key} {v : Value} {Q : Int → Shared → Prop} (hv : isKey k v = true) (h : Q (hashKey w k) { s with toks := s.toks + 1 }) :
    wpAny (model prog w) A (PySem.pyHash v) Q E s := by
  cases k with
  | inl i => obtain ⟨t, rfl⟩ := Value.isInt_shape hv; exact wpAny_pyHash_int h
  | inr x => obtain ⟨t, rfl⟩ := Value.isStrOf_shape hv; exact wpAny_pyHash_str h
noncomputable def mix (prog : Program) (w : World) : KeyKind prog w Key where
  is := isKey
  hash := hashKey w
  inj := fun v a b ha hb => isKV_inj (isKey_er ▸ ha) (isKey_er ▸ hb)
  byValue := fun k v h => by
    cases k with
    | inl i => obtain ⟨t, rfl⟩ := Value.isInt_shape h; rfl
    | inr x => obtain ⟨t, rfl⟩ := Value.isStrOf_shape h; rfl
  pyHash := pyHash_key
  eqBool := eqBool_key
  «strs» := fun k x t v h => by
    cases k with
    | inl i => simp [isKey, Value.isInt] at h
    | inr y =>
      have h' : Value.isStrOf y (.str x t) = true := h
      obtain ⟨u, hu⟩ := Value.isStrOf_shape h'
      injection hu with hx
      subst hx
      cases v <;> rfl
set_option genSizeOfSpec false in
inductive AObj where
  | list (xs : List V)
  | tup (xs : List V)
  | dict (kvs : List (Key × V)) (ep : Nat)
  | inst (C dx : Addr)
  | attrs (v : V)
  | attrs0
  | range (lo hi st : Int)
  | exc (cls : String) (args : Option Addr)
  | vals (d : Addr)
  | raw (ob : Obj)
noncomputable abbrev AHeap := Addr → Option AObj
noncomputable abbrev Loc := Str → Option V
noncomputable abbrev BMap := Addr → Option (Obj × Bool)
noncomputable def upd {β : Type} (f : Addr → Option β) (a : Addr) (x : β) : Addr → Option β := fun b => if b = a then some x else f b
noncomputable def setL (m : Loc) (x : Str) (v : V) : Loc := fun y => if y = x then some v else m y
theorem upd_same {β : Type} {f : Addr → Option β} {a : Addr} {x : β} : upd f a x a = some x := by simp [upd]
theorem upd_ne {β : Type} {f : Addr → Option β} {a b : Addr} {x y : β} (h : b ≠ a) (e : f b = some y) : upd f a x b = some y := by simp [upd, h, e]
theorem upd_fresh {β : Type} {f : Addr → Option β} {a b : Addr} {x y : β} (h : f a = none) (e : f b = some y) : upd f a x b = some y :=
  upd_ne (fun q => by rw [q, h] at e; cases e) e
theorem upd_some {β : Type} {f : Addr → Option β} {a b : Addr} {x y : β} (e : upd f a x b = some y) : (b = a ∧ x = y) ∨ (b ≠ a ∧ f b = some y) := by
  unfold upd at e
  split at e
  · rename_i h; exact .inl ⟨h, Option.some.inj e⟩
  · rename_i h; exact .inr ⟨h, e⟩
theorem setL_same {m : Loc} {x : Str} {v : V} : setL m x v x = some v := by simp [setL]
theorem setL_ne {m : Loc} {x y : Str} {v u : V} (h : y ≠ x) (e : m y = some u) : setL m x v y = some u := by simp [setL, h, e]
set_option genInjectivity false in
set_option genSizeOfSpec false in
structure Cx where
  prog : Program
  w : World
  base : Heap
  K : Frag
  p : Program
  loose : List Str
  mean : ExcName → Option Value
  mg : Str → Option Value
  mb : Str → Option Value
  os : OsState
  inK : K.In base
  top : Top p loose mean mg mb base
noncomputable def IsObj (c : Cx) (ob : Obj) : AObj → Prop
  | .list xs => ∃ vs n, ob = { cls := .type "list", data := .seq (vs : List Value).toArray n } ∧ vs.map er = xs
  | .tup xs => ∃ vs n, ob = { cls := .type "tuple", data := .seq (vs : List Value).toArray n } ∧ vs.map er = xs
  | .dict kvs ep => ob.ExactDict ∧ ∃ es, ob.data = .dict es ep ∧ KeysOf (mix c.prog c.w) es ∧ ∃ rvs, Pairs (mix c.prog c.w) es.toList rvs ∧ (rvs.map (·.1)).Nodup ∧ rvs.map (fun kv => (kv.1, er kv.2)) = kvs
  | .inst C dx => ob = instObj C dx
  | .attrs v => ∃ n t u, ob = dictOf [⟨PyData.keyHash c.w.params ("dict" : Str), .str ("dict" : Str) t, u⟩] n ∧ er u = v
  | .attrs0 => ob = dictOf [] 0
  | .range lo hi st => ∃ a b d, ob = { cls := .type "range", data := .fields #[.int lo a, .int hi b, .int st d] }
  | .exc cls args => cls ≠ "tuple" ∧ ob.cls = .type cls ∧ ∃ vs, ob.data = .fields vs ∧ ∀ t, args = some t → vs[0]? = some (.ref t)
  | .vals d => ob = { cls := .type "dict_values", data := .fields #[.ref d] }
  | .raw o => ob = o
set_option genInjectivity false in
set_option genSizeOfSpec false in
structure Out where
  fs : List Env
  ext : BMap
noncomputable def outerOf (env : Env) (o : List Env) : List Env := if env.frame = some env.locals then env :: o else o
noncomputable def places (env : Env) : List Addr := env.locals :: env.cells.map (·.2)
structure St (c : Cx) (o : Out) (env : Env) (B : BMap) (m : Loc) (H : AHeap) (s : Shared) : Prop where
  base : c.base.StaysIn s.heap
  keep : ∀ a ob l, B a = some (ob, l) → ∃ sl, s.heap.get? a = some { ob with slots := sl } ∧ (l = false → sl = ob.slots)
  own : ∀ a x, H a = some x → ∃ ob, s.heap.get? a = some ob ∧ IsObj c ob x
  disB : ∀ a x, H a = some x → B a = none
  disBase : ∀ a x, H a = some x → c.base.objs.size ≤ a
  pl : ∀ a ∈ places env, H a = none ∧ B a = none ∧ c.base.objs.size ≤ a
  nodup : (places env).Nodup
  cell : ∀ a ∈ env.cells.map (·.2), ∃ v, s.heap.IsCell a v
  var : ∃ mv, s.heap.Ns env.locals mv ∧ ∀ x v, m x = some v → match env.kindOf x with
    | some .local => ∃ u, mv x = some u ∧ er u = v
    | some .cell => ∃ a u, env.cells.lookup x = some a ∧ s.heap.IsCell a (some u) ∧ er u = v
    | some .free => ∃ a u, env.cells.lookup x = some a ∧ s.heap.IsCell a (some u) ∧ er u = v
    | _ => False
  frames : (∀ e ∈ o.fs, e.scope.kind ≠ .module ∧ ∃ L ob, e.frame = some L ∧ B L = some (ob, true) ∧ c.base.get? L = none ∧ ∀ vs, ob.data ≠ .fields vs) ∧ ∀ a x, o.ext a = some x → B a = some x
  gens : s.gens = #[]
  os : s.os = c.os
  tk : 1 ≤ s.toks
structure Ours (c : Cx) (o : Out) (env : Env) (B : BMap) (H : AHeap) (base' : Heap) : Prop where
  cb : c.base.StaysIn base'
  own : ∀ b, ((H b).isSome ∨ (B b).isSome ∨ b ∈ places env) → (∃ f ∈ outerOf env o.fs, f.frame = some b) ∨ ∃ ob, base'.get? b = some ob
noncomputable def Away (env : Env) (B : BMap) (H : AHeap) (a : Addr) : Prop := H a = none ∧ B a = none ∧ a ∉ places env
noncomputable def ArgsOf (c : Cx) (env : Env) (B : BMap) (H : AHeap) (base' : Heap) (e : Addr) (a0 : Value) (l : List V) : Prop :=
  ∃ t vs n, a0 = .ref t ∧ (vs : List Value).map er = l ∧ base'.get? t = some { cls := .type "tuple", data := .seq vs.toArray n } ∧ c.base.objs.size ≤ t ∧ c.base.objs.size ≤ e ∧ Away env B H t ∧ Away env B H e
noncomputable def Made (c : Cx) (o : Out) (env : Env) (B : BMap) (H : AHeap) (e : Addr) (cls : String) (xs : Option (List V)) (h : Heap) : Prop :=
  ∃ base' ob a0, Ours c o env B H base' ∧ base'.StaysIn h ∧ h.FunFrames base' (outerOf env o.fs) ∧ base'.get? e = none ∧
    h.get? e = some ob ∧ ob.cls = .type cls ∧ ob.data = .fields #[a0, .none, .none, .none, .bool false, .none] ∧ ∀ l, xs = some l → ArgsOf c env B H base' e a0 l
noncomputable def InFl (c : Cx) (o : Out) (env : Env) (B : BMap) (H : AHeap) (e : Addr) (cls : String) (xs : Option (List V)) (h : Heap) : Prop :=
  ∃ base' a0, Ours c o env B H base' ∧ Heap.FlyingW base' (outerOf env o.fs) e (.type cls) a0 h ∧ ∀ l, xs = some l → ArgsOf c env B H base' e a0 l
set_option genInjectivity false in
set_option genSizeOfSpec false in
structure Wk where
  c : Cx
  A : Around
  o : Out
  env : Env
  E : Value → Shared → Prop
  X : String → Option (List V) → Loc → AHeap → Prop
  here : Prop
  pass : PassesOwn (model c.prog c.w) A env E
  fly : ∀ B m H s e cls xs, St c o env B m H s → InFl c o env B H e cls xs s.heap → X cls xs m H → E (.ref e) s
  made : here → ∀ B m H s e cls xs, St c o env B m H s → Made c o env B H e cls xs s.heap → X cls xs m H → E (.ref e) s
  kind : env.scope.kind = .function
  glob : env.globals = mainGlobals
  blt : env.builtins = builtinsNs
  frames : A.frames = some (outerOf env o.fs)
  fat : env.frame = some env.locals ∨ ∃ f ∈ o.fs, f.frame = env.frame
noncomputable def W (k : Wk) {α : Type} (t : Sem α) (m : Loc) (H : AHeap) (Q : α → Loc → AHeap → Prop) : Prop :=
  ∀ B s, St k.c k.o k.env B m H s → wpAny (model k.c.prog k.c.w) k.A t (fun v s' => ∃ m' H', St k.c k.o k.env B m' H' s' ∧ Q v m' H') k.E s
noncomputable abbrev WV (k : Wk) (t : Sem Value) (m : Loc) (H : AHeap) (Q : V → Loc → AHeap → Prop) : Prop := W k t m H (fun v => Q (er v))
section
variable {k : Wk} {α β : Type} {m : Loc} {H : AHeap}
theorem W.mono {t : Sem α} {Q Q' : α → Loc → AHeap → Prop} (h : W k t m H Q) (hQ : ∀ v m H, Q v m H → Q' v m H) : W k t m H Q' :=
  fun B s st => wpAny_mono (h B s st) (fun v s' ⟨m', H', st', q⟩ => ⟨m', H', st', hQ _ _ _ q⟩) fun _ _ x => x
theorem W.pure {a : α} {Q : α → Loc → AHeap → Prop} (h : Q a m H) : W k (Pure.pure a) m H Q := fun B s st => wpAny_pure ⟨m, H, st, h⟩
theorem W.bind {t : Sem α} {f : α → Sem β} {Q : β → Loc → AHeap → Prop} (h : W k t m H (fun v m' H' => W k (f v) m' H' Q)) : W k (t >>= f) m H Q :=
  fun B s st => wpAny_bind (wpAny_mono (h B s st) (fun v s' ⟨m', H', st', q⟩ => q B s' st') fun _ _ x => x)
theorem W.standAt {pos : Pos} {Q : Unit → Loc → AHeap → Prop} (h : Q () m H) : W k (PySem.standAt pos) m H Q := fun B s st => wpAny_standAt ⟨m, H, st, h⟩
theorem W.holding {vs : List Value} {t : Sem α} {Q : α → Loc → AHeap → Prop} (h : W k t m H Q) : W k (PySem.holding vs t) m H Q := fun B s st => wpAny_holding (h B s st)
theorem W.of_wp {t : Sem α} {Q : α → Loc → AHeap → Prop}
    (h : ∀ B s, St k.c k.o k.env B m H s → ∀ P : α → Shared → Prop, (∀ v tk, Q v m H → P v { s with toks := tk }) → wpAny (model k.c.prog k.c.w) k.A t P k.E s) : W k t m H Q :=
  fun B s st => wpAny_mono (wpAny_toks_of st.tk (h B s st (fun v s' => ∃ tk, s' = { s with toks := tk } ∧ Q v m H) fun v tk q => ⟨tk, rfl, q⟩))
    (fun v s' q => by obtain ⟨ht, tk, rfl, q⟩ := q; exact ⟨m, H, ⟨st.base, st.keep, st.own, st.disB, st.disBase, st.pl, st.nodup, st.cell, st.var, st.frames, st.gens, st.os, ht⟩, q⟩) fun _ _ x => x.2
end
section
variable {c : Cx} {o : Out} {env : Env} {B : BMap} {m : Loc} {H : AHeap} {s : Shared}
theorem St.toks (st : St c o env B m H s) (tk : Nat) (ht : 1 ≤ tk) : St c o env B m H { s with toks := tk } :=
  ⟨st.base, st.keep, st.own, st.disB, st.disBase, st.pl, st.nodup, st.cell, st.var, st.frames, st.gens, st.os, ht⟩
theorem var_keeps {env : Env} {m : Loc} {h h' : Heap} (kp : ∀ a ∈ places env, ∀ ob, h.get? a = some ob → h'.get? a = some ob)
    (v : ∃ mv, h.Ns env.locals mv ∧ ∀ x v, m x = some v → match env.kindOf x with
    | some .local => ∃ u, mv x = some u ∧ er u = v
    | some .cell => ∃ a u, env.cells.lookup x = some a ∧ h.IsCell a (some u) ∧ er u = v
    | some .free => ∃ a u, env.cells.lookup x = some a ∧ h.IsCell a (some u) ∧ er u = v
    | _ => False) :
    ∃ mv, h'.Ns env.locals mv ∧ ∀ x v, m x = some v → match env.kindOf x with
    | some .local => ∃ u, mv x = some u ∧ er u = v
    | some .cell => ∃ a u, env.cells.lookup x = some a ∧ h'.IsCell a (some u) ∧ er u = v
    | some .free => ∃ a u, env.cells.lookup x = some a ∧ h'.IsCell a (some u) ∧ er u = v
    | _ => False := by
  obtain ⟨mv, ⟨ob, es, ep, ho, r⟩, hv⟩ := v
  have cellK : ∀ x a u, env.cells.lookup x = some a → h.IsCell a u → h'.IsCell a u := fun x a u e ⟨ob, ho, hd⟩ =>
    ⟨ob, kp a (List.mem_cons_of_mem _ (List.mem_map_of_mem (f := (·.2)) (mem_of_lookup e))) ob ho, hd⟩
  refine ⟨mv, ⟨ob, es, ep, kp _ List.mem_cons_self _ ho, r⟩, fun x v e => ?_⟩
  have q := hv x v e
  split at q
  · exact q
  · obtain ⟨a, u, e1, e2, e3⟩ := q; exact ⟨a, u, e1, cellK x a _ e1 e2, e3⟩
  · obtain ⟨a, u, e1, e2, e3⟩ := q; exact ⟨a, u, e1, cellK x a _ e1 e2, e3⟩
  · exact q
theorem none_ge {h : Heap} {a : Addr} (e : h.objs.size ≤ a) : h.get? a = none := by
  cases q : h.get? a with
  | none => rfl
  | some ob => exact absurd (Heap.lt_size q) (Nat.not_lt.mpr e)
theorem St.baseLe (st : St c o env B m H s) : c.base.objs.size ≤ s.heap.objs.size := by
  obtain ⟨mv, hn, _⟩ := st.var
  exact Nat.le_of_lt (Nat.lt_of_le_of_lt (st.pl env.locals List.mem_cons_self).2.2 hn.lt)
theorem St.put (st : St c o env B m H s) {a : Addr} {x y : AObj} {h' : Heap} {tk : Nat} (hx : H a = some x) (hk : ∀ b ob, b ≠ a → s.heap.get? b = some ob → h'.get? b = some ob)
    (hy : ∃ ob, h'.get? a = some ob ∧ IsObj c ob y) (ht : 1 ≤ tk) : St c o env B m (upd H a y) { s with heap := h', toks := tk } := by
  have hB := st.disB a x hx
  have hbl := st.disBase a x hx
  have hb : c.base.get? a = none := none_ge hbl
  have hp : a ∉ places env := fun q => by rw [(st.pl a q).1] at hx; cases hx
  refine ⟨fun b ob e => hk b ob (fun q => by rw [q, hb] at e; cases e) (st.base b ob e), fun b ob l e => ?_, fun b z e => ?_, fun b z e => ?_, fun b z e => ?_, fun b q => ?_, st.nodup, fun b e => ?_, ?_, st.frames, st.gens, st.os, ht⟩
  · obtain ⟨sl, e1, e2⟩ := st.keep b ob l e
    exact ⟨sl, hk b _ (fun q => by rw [q, hB] at e; cases e) e1, e2⟩
  · rcases upd_some e with ⟨rfl, rfl⟩ | ⟨ne, e⟩
    · exact hy
    · obtain ⟨ob, e1, e2⟩ := st.own b z e; exact ⟨ob, hk b ob ne e1, e2⟩
  · rcases upd_some e with ⟨rfl, rfl⟩ | ⟨ne, e⟩
    · exact hB
    · exact st.disB b z e
  · rcases upd_some e with ⟨rfl, rfl⟩ | ⟨ne, e⟩
    · exact hbl
    · exact st.disBase b z e
  · obtain ⟨e1, e2, e3⟩ := st.pl b q
    exact ⟨by unfold upd; rw [if_neg (fun z => by subst z; exact hp q)]; exact e1, e2, e3⟩
  · obtain ⟨v, ob, e1, e2⟩ := st.cell b e
    exact ⟨v, ob, hk b ob (fun q => hp (by subst q; exact List.mem_cons_of_mem _ e)) e1, e2⟩
  · exact var_keeps (fun b hb' ob e => hk b ob (fun q => hp (by subst q; exact hb')) e) st.var
theorem St.fresh (st : St c o env B m H s) {a : Addr} (hn : s.heap.get? a = none) : H a = none ∧ B a = none ∧ c.base.get? a = none ∧ a ∉ places env := by
  refine ⟨?_, ?_, ?_, fun q => ?_⟩
  · cases e : H a with
    | none => rfl
    | some x => obtain ⟨ob, e1, _⟩ := st.own a x e; rw [hn] at e1; cases e1
  · cases e : B a with
    | none => rfl
    | some x => obtain ⟨sl, e1, _⟩ := st.keep a x.1 x.2 e; rw [hn] at e1; cases e1
  · cases e : c.base.get? a with
    | none => rfl
    | some x => rw [st.base a x e] at hn; cases hn
  · rcases List.mem_cons.mp q with rfl | q
    · obtain ⟨_, ⟨ob, _, _, ho, _⟩, _⟩ := st.var
      rw [hn] at ho; cases ho
    · obtain ⟨v, ob, e1, _⟩ := st.cell a q
      rw [hn] at e1; cases e1
theorem St.new (st : St c o env B m H s) {a : Addr} {y : AObj} {h' : Heap} {tk : Nat} (hs : s.heap.objs.size ≤ a) (hk : ∀ b ob, s.heap.get? b = some ob → h'.get? b = some ob)
    (hy : ∃ ob, h'.get? a = some ob ∧ IsObj c ob y) (ht : 1 ≤ tk) : St c o env B m (upd H a y) { s with heap := h', toks := tk } := by
  have hn := none_ge hs
  obtain ⟨f1, f2, f3, f4⟩ := st.fresh hn
  refine ⟨fun b ob e => hk b ob (st.base b ob e), fun b ob l e => ?_, fun b z e => ?_, fun b z e => ?_, fun b z e => ?_, fun b q => ?_, st.nodup, fun b e => ?_, ?_, st.frames, st.gens, st.os, ht⟩
  · obtain ⟨sl, e1, e2⟩ := st.keep b ob l e
    exact ⟨sl, hk b _ e1, e2⟩
  · rcases upd_some e with ⟨rfl, rfl⟩ | ⟨ne, e⟩
    · exact hy
    · obtain ⟨ob, e1, e2⟩ := st.own b z e; exact ⟨ob, hk b ob e1, e2⟩
  · rcases upd_some e with ⟨rfl, rfl⟩ | ⟨ne, e⟩
    · exact f2
    · exact st.disB b z e
  · rcases upd_some e with ⟨rfl, rfl⟩ | ⟨ne, e⟩
    · exact Nat.le_trans st.baseLe hs
    · exact st.disBase b z e
  · obtain ⟨e1, e2, e3⟩ := st.pl b q
    exact ⟨by unfold upd; rw [if_neg (fun z => by subst z; exact f4 q)]; exact e1, e2, e3⟩
  · obtain ⟨v, ob, e1, e2⟩ := st.cell b e
    exact ⟨v, ob, hk b ob e1, e2⟩
  · exact var_keeps (fun b hb' ob e => hk b ob e) st.var
theorem St.grown (st : St c o env B m H s) {h' : Heap} {tk : Nat} (hk : ∀ b ob, s.heap.get? b = some ob → h'.get? b = some ob) (ht : 1 ≤ tk) : St c o env B m H { s with heap := h', toks := tk } := by
  refine ⟨fun b ob e => hk b ob (st.base b ob e), fun b ob l e => ?_, fun b z e => ?_, st.disB, st.disBase, st.pl, st.nodup, fun b e => ?_, ?_, st.frames, st.gens, st.os, ht⟩
  · obtain ⟨sl, e1, e2⟩ := st.keep b ob l e
    exact ⟨sl, hk b _ e1, e2⟩
  · obtain ⟨ob, e1, e2⟩ := st.own b z e; exact ⟨ob, hk b ob e1, e2⟩
  · obtain ⟨v, ob, e1, e2⟩ := st.cell b e
    exact ⟨v, ob, hk b ob e1, e2⟩
  · exact var_keeps (fun b hb' ob e => hk b ob e) st.var
theorem St.hide (st : St c o env B m H s) {a : Addr} {ob : Obj} {l : Bool} (ho : s.heap.get? a = some ob) (hH : H a = none) (hp : a ∉ places env) (hB : B a = none) : St c o env (upd B a (ob, l)) m H s := by
  refine ⟨st.base, fun b ob' l' e => ?_, st.own, fun b x e => ?_, st.disBase, fun b q => ?_, st.nodup, st.cell, st.var, ⟨fun e he => ?_, fun b x e => upd_fresh hB (st.frames.2 b x e)⟩, st.gens, st.os, st.tk⟩
  · rcases upd_some e with ⟨rfl, e'⟩ | ⟨ne, e⟩
    · injection e' with e1 e2; subst e1; exact ⟨ob.slots, ho, fun _ => rfl⟩
    · exact st.keep b ob' l' e
  · unfold upd; rw [if_neg (fun z => by subst z; rw [hH] at e; cases e)]; exact st.disB b x e
  · obtain ⟨e1, e2, e3⟩ := st.pl b q
    exact ⟨e1, by unfold upd; rw [if_neg (fun z => by subst z; exact hp q)]; exact e2, e3⟩
  · obtain ⟨k1, L, ob', k2, k3, k4, k5⟩ := st.frames.1 e he
    exact ⟨k1, L, ob', k2, upd_fresh hB k3, k4, k5⟩
theorem St.unhide {x : Obj × Bool} {a : Addr} {m₀ : Loc} {H₀ : AHeap} {s₀ : Shared} (st₀ : St c o env B m₀ H₀ s₀) (hB : B a = none) (st : St c o env (upd B a x) m H s) : St c o env B m H s := by
  have q : ∀ b y, B b = some y → upd B a x b = some y := fun b y e => upd_fresh hB e
  have r : ∀ b, upd B a x b = none → B b = none := fun b e => by
    cases h : B b with
    | none => rfl
    | some y => rw [q b y h] at e; cases e
  exact ⟨st.base, fun b ob l e => st.keep b ob l (q b _ e), st.own, fun b y e => r b (st.disB b y e), st.disBase, fun b z => ⟨(st.pl b z).1, r b (st.pl b z).2.1, (st.pl b z).2.2⟩, st.nodup, st.cell, st.var,
    st₀.frames, st.gens, st.os, st.tk⟩
theorem St.none_at (st : St c o env B m H s) {a : Addr} (h : s.heap.objs.size ≤ a) : s.heap.get? a = none := by
  cases e : s.heap.get? a with
  | none => rfl
  | some ob => exact absurd (Heap.lt_size e) (Nat.not_lt.mpr h)
end
end Mine
namespace Mine
section
variable {c : Cx} {o : Out} {env : Env} {B : BMap} {m : Loc} {H : AHeap} {s : Shared}
theorem St.setLocal (st : St c o env B m H s) {x : Str} {v : Value} {h' : Heap} {tk : Nat} (hk : env.kindOf x = some .local)
    (hq : ∀ mv, s.heap.Ns env.locals mv → h'.Ns env.locals (fun y => if y = x then some v else mv y)) (hs : Heap.SameBut env.locals s.heap h')
    (ht : 1 ≤ tk) : St c o env B (setL m x (er v)) H { s with heap := h', toks := tk } := by
  have hp := st.pl env.locals List.mem_cons_self
  have kp : ∀ b ob, b ≠ env.locals → s.heap.get? b = some ob → h'.get? b = some ob := fun b ob ne e => (hs.2 b ne).trans e
  refine ⟨fun b ob e => kp b ob (fun q => ?_) (st.base b ob e), fun b ob l e => ?_, fun b z e => ?_, st.disB, st.disBase, st.pl, st.nodup, fun b e => ?_, ?_, st.frames, st.gens, st.os, ht⟩
  · rw [q] at e; exact absurd (Heap.lt_size e) (Nat.not_lt.mpr hp.2.2)
  · refine Mine.hideG fun GG back => ?_
    obtain ⟨sl, e1, e2⟩ := st.keep b ob l e
    refine back ?_
    clear back
    exact ⟨sl, kp b _ (fun q => by rw [q, hp.2.1] at e; cases e) e1, e2⟩
  · obtain ⟨ob, e1, e2⟩ := st.own b z e; exact ⟨ob, kp b ob (fun q => by rw [q, hp.1] at e; cases e) e1, e2⟩
  · refine Mine.hideG fun GG back => ?_
    obtain ⟨u, ob, e1, e2⟩ := st.cell b e
    refine back ?_
    clear back
    exact ⟨u, ob, kp b ob (fun q => (List.nodup_cons.mp st.nodup).1 (q ▸ e)) e1, e2⟩
  · refine Mine.hideG fun GG back => ?_
    obtain ⟨mv, hn, hv⟩ := st.var
    refine back ?_
    clear back
    refine ⟨_, hq mv hn, fun y u e => ?_⟩
    unfold setL at e
    by_cases hy : y = x
    · subst hy
      rw [if_pos rfl] at e; cases e
      rw [hk]; exact ⟨v, by simp, rfl⟩
    · rw [if_neg hy] at e
      have q := hv y u e
      have cellK : ∀ a z, env.cells.lookup y = some a → s.heap.IsCell a z → h'.IsCell a z := fun a z e ⟨ob, ho, hd⟩ =>
        ⟨ob, kp a ob (fun r => (List.nodup_cons.mp st.nodup).1 (r ▸ List.mem_map_of_mem (f := (·.2)) (mem_of_lookup e))) ho, hd⟩
      split at q
      · obtain ⟨z, e1, e2⟩ := q; exact ⟨z, by rw [if_neg hy]; exact e1, e2⟩
      · obtain ⟨a, z, e1, e2, e3⟩ := q; exact ⟨a, z, e1, cellK a _ e1 e2, e3⟩
      · obtain ⟨a, z, e1, e2, e3⟩ := q; exact ⟨a, z, e1, cellK a _ e1 e2, e3⟩
      · exact q
theorem cell_addr {cs : List (Str × Addr)} (hn : (cs.map (·.2)).Nodup) {x y : Str} {a : Addr} (hx : cs.lookup x = some a) (hy : cs.lookup y = some a) : x = y := by
  have h1 := mem_of_lookup hx
  have h2 := mem_of_lookup hy
  induction cs with
  | nil => cases h1
  | cons p r ih =>
    rw [List.map_cons, List.nodup_cons] at hn
    rcases List.mem_cons.mp h1 with e1 | h1' <;> rcases List.mem_cons.mp h2 with e2 | h2'
    · rw [← e2] at e1; exact (Prod.mk.inj e1).1
    · exact absurd (by rw [← e1]; exact List.mem_map_of_mem (f := (·.2)) h2') hn.1
    · exact absurd (by rw [← e2]; exact List.mem_map_of_mem (f := (·.2)) h1') hn.1
    · clear ih hx hy h1 h2
      revert h1' h2'
      have hr := hn.2
      clear hn
      induction r with
      | nil => intro h; cases h
      | cons q r ih =>
        intro h1 h2
        rw [List.map_cons, List.nodup_cons] at hr
        rcases List.mem_cons.mp h1 with e1 | h1' <;> rcases List.mem_cons.mp h2 with e2 | h2'
        · rw [← e2] at e1; exact (Prod.mk.inj e1).1
        · exact absurd (by rw [← e1]; exact List.mem_map_of_mem (f := (·.2)) h2') hr.1
        · exact absurd (by rw [← e2]; exact List.mem_map_of_mem (f := (·.2)) h1') hr.1
        · exact ih hr.2 h1' h2'
theorem St.setCell (st : St c o env B m H s) {x : Str} {v : Value} {a : Addr} {h' : Heap} {tk : Nat} (hk : env.kindOf x = some .cell) (hc : env.cells.lookup x = some a)
    (hq : h'.IsCell a (some v)) (hs : Heap.SameBut a s.heap h') (ht : 1 ≤ tk) : St c o env B (setL m x (er v)) H { s with heap := h', toks := tk } := by
  have hm : a ∈ env.cells.map (·.2) := List.mem_map_of_mem (f := (·.2)) (mem_of_lookup hc)
  have hp := st.pl a (List.mem_cons_of_mem _ hm)
  have kp : ∀ b ob, b ≠ a → s.heap.get? b = some ob → h'.get? b = some ob := fun b ob ne e => (hs.2 b ne).trans e
  have hla : env.locals ≠ a := fun q => (List.nodup_cons.mp st.nodup).1 (q ▸ hm)
  refine ⟨fun b ob e => kp b ob (fun q => ?_) (st.base b ob e), fun b ob l e => ?_, fun b z e => ?_, st.disB, st.disBase, st.pl, st.nodup, fun b e => ?_, ?_, st.frames, st.gens, st.os, ht⟩
  · rw [q] at e; exact absurd (Heap.lt_size e) (Nat.not_lt.mpr hp.2.2)
  · refine Mine.hideG fun GG back => ?_
    obtain ⟨sl, e1, e2⟩ := st.keep b ob l e
    refine back ?_
    clear back
    exact ⟨sl, kp b _ (fun q => by rw [q, hp.2.1] at e; cases e) e1, e2⟩
  · obtain ⟨ob, e1, e2⟩ := st.own b z e; exact ⟨ob, kp b ob (fun q => by rw [q, hp.1] at e; cases e) e1, e2⟩
  · by_cases hb : b = a
    · subst hb; exact ⟨_, hq⟩
    · refine Mine.hideG fun GG back => ?_
      obtain ⟨u, ob, e1, e2⟩ := st.cell b e
      refine back ?_
      clear back
      exact ⟨u, ob, kp b ob hb e1, e2⟩
  · refine Mine.hideG fun GG back => ?_
    obtain ⟨mv, ⟨ob, es, ep, ho, hr⟩, hv⟩ := st.var
    refine back ?_
    clear back
    refine ⟨mv, ⟨ob, es, ep, kp _ _ hla ho, hr⟩, fun y u e => ?_⟩
    unfold setL at e
    by_cases hy : y = x
    · subst hy
      rw [if_pos rfl] at e; cases e
      rw [hk]; exact ⟨a, v, hc, hq, rfl⟩
    · rw [if_neg hy] at e
      have q := hv y u e
      have cellK : ∀ b z, env.cells.lookup y = some b → s.heap.IsCell b z → h'.IsCell b z := fun b z e ⟨ob, ho, hd⟩ =>
        ⟨ob, kp b ob (fun r => hy (cell_addr (List.nodup_cons.mp st.nodup).2 e (r ▸ hc))) ho, hd⟩
      split at q
      · exact q
      · obtain ⟨b, z, e1, e2, e3⟩ := q; exact ⟨b, z, e1, cellK b _ e1 e2, e3⟩
      · obtain ⟨b, z, e1, e2, e3⟩ := q; exact ⟨b, z, e1, cellK b _ e1 e2, e3⟩
      · exact q
theorem St.fr (st : St c o env B m H s) : ∃ mv, Fr c.base env.locals s.heap mv := by
  refine Mine.hideG fun GG back => ?_
  obtain ⟨mv, hn, _⟩ := st.var
  refine back ?_
  clear back
  exact ⟨mv, hn, st.base, (st.pl env.locals List.mem_cons_self).2.2⟩
end
noncomputable def storable (env : Env) (x : Str) : Bool := match env.kindOf x with
  | some .local => true
  | some .cell => (env.cells.map (·.1)).contains x
  | _ => false
theorem lookup_of_names : ∀ {cs : List (Str × Addr)} {x : Str}, (cs.map (·.1)).contains x = true → ∃ a, cs.lookup x = some a
  | [], x, h => by cases h
  | (n, b) :: r, x, h => by
    rw [List.lookup_cons]
    rw [List.map_cons, List.contains_cons, Bool.or_eq_true] at h
    cases hq : x == n with
    | true => exact ⟨b, rfl⟩
    | false =>
      rw [hq] at h
      exact lookup_of_names (h.resolve_left Bool.false_ne_true)
class SEnv (k : Wk) (sc : outParam Scope) (cn : outParam (List Str)) : Prop where
  sc : k.env.scope = sc
  cn : k.env.cells.map (·.1) = cn
noncomputable def storS (sc : Scope) (cn : List Str) (x : Str) : Bool := match sc.names.lookup x with
  | some .local => true
  | some .cell => cn.contains x
  | _ => false
theorem stor {k : Wk} {sc : Scope} {cn : List Str} [I : SEnv k sc cn] {x : Str} (h : storS sc cn x = true) : storable k.env x = true := by
  unfold storable Env.kindOf
  rw [I.sc, I.cn]
  exact h
theorem kindS {k : Wk} {sc : Scope} {cn : List Str} [I : SEnv k sc cn] {x : Str} {κ : NameKind} (h : sc.names.lookup x = some κ) : k.env.kindOf x = some κ := by
  unfold Env.kindOf
  rw [I.sc]
  exact h
noncomputable def Gl (c : Cx) (x : Str) (v : Value) : Prop := c.mg x = some v ∨ (c.mg x = none ∧ c.mb x = some v)
section
variable {k : Wk} {m : Loc} {H : AHeap}
theorem W_store {x : Str} {v : Value} {Q : Unit → Loc → AHeap → Prop} (hs : storable k.env x = true) (h : Q () (setL m x (er v)) H) : W k (storeName k.env x v) m H Q := fun B s st => by
  unfold storable at hs
  split at hs
  · rename_i hl
    refine Mine.hideG fun GG back => ?_
    obtain ⟨mv, hn, _⟩ := st.var
    refine back ?_
    clear back
    have hp : (k.env.scope.kind == .class || (k.env.scope.kind == .module && k.env.locals != k.env.globals)) = false := by rw [k.kind]; rfl
    rw [storeName_local hl hp]
    refine Mine.hideG fun GG back => ?_
    obtain ⟨ob, es, ep, ho, hd, hsk, hf⟩ := id hn
    refine back ?_
    clear back
    refine wpAny_nsSet hn fun h' hn' hs' => ⟨_, H, st.setLocal hl (fun mv' hm' => ?_) hs' (Nat.le_succ_of_le st.tk), h⟩
    have e : mv' = mv := by
      funext y
      refine Mine.hideG fun GG back => ?_
      obtain ⟨ob', es', ep', ho', hd', _, hf'⟩ := hm'
      refine back ?_
      clear back
      rw [ho] at ho'; cases ho'
      rw [hd] at hd'; cases hd'
      rw [← hf, ← hf']
    rw [e]; exact hn'
  · rename_i hl
    refine Mine.hideG fun GG back => ?_
    obtain ⟨a, ha⟩ := lookup_of_names hs
    obtain ⟨v₀, hc⟩ := st.cell a (List.mem_map_of_mem (f := (·.2)) (mem_of_lookup ha))
    refine back ?_
    clear back
    exact wpAny_storeName_cell k.kind hl ha hc fun h' hc' hs' => ⟨_, H, st.setCell hl ha hc' hs' st.tk, h⟩
  · cases hs
theorem W_bindName {x : Str} {v : Value} {Q : Unit → Loc → AHeap → Prop} (hs : storable k.env x = true) (h : Q () (setL m x (er v)) H) : W k (bindName k.env x v) m H Q :=
  fun B s st => wpAny_bindName (W_store hs h B s st)
theorem W_Name {x : Str} {pos : Pos} {v : V} {Q : V → Loc → AHeap → Prop} (hm : m x = some v) (h : Q v m H) (hd : (x == ("__debug__" : Str)) = false := by decide) (hn : (x == ("__classdict__" : Str)) = false := by decide) :
    WV k (eval (.Name x pos) k.env) m H Q := fun B s st => by
  refine Mine.hideG fun GG back => ?_
  obtain ⟨mv, hn', hv⟩ := st.var
  refine back ?_
  clear back
  have q := hv x v hm
  refine wpAny_Name ?_ hd
  split at q
  · rename_i hl
    refine Mine.hideG fun GG back => ?_
    obtain ⟨u, e1, rfl⟩ := q
    refine back ?_
    clear back
    exact wpAny_loadName_local k.kind hl hn' e1 ⟨m, H, st, h⟩
  · rename_i hl
    refine Mine.hideG fun GG back => ?_
    obtain ⟨a, u, e1, e2, rfl⟩ := q
    refine back ?_
    clear back
    exact wpAny_loadName_cell k.kind hl e1 e2 ⟨m, H, st, h⟩
  · rename_i hl
    refine Mine.hideG fun GG back => ?_
    obtain ⟨a, u, e1, e2, rfl⟩ := q
    refine back ?_
    clear back
    exact wpAny_loadName_free k.kind hl e1 e2 ⟨m, H, st, h⟩ hn
  · exact q.elim
theorem W_NameG {x : Str} {pos : Pos} {v : Value} {Q : V → Loc → AHeap → Prop} (hg : Gl k.c x v) (hx : k.env.kindOf x = some .globalImplicit) (h : Q (er v) m H) (hd : (x == ("__debug__" : Str)) = false := by decide) :
    WV k (eval (.Name x pos) k.env) m H Q := fun B s st => by
  have hg' : s.heap.Ns k.env.globals k.c.mg := by rw [k.glob]; exact k.c.top.g.keeps st.base
  have hb' : s.heap.Ns k.env.builtins k.c.mb := by rw [k.blt]; exact k.c.top.b.keeps st.base
  rcases hg with e | ⟨e1, e2⟩
  · exact Name_function_global k.kind hx (loadGlobal_global (env := k.env) hg' e ⟨m, H, st, h⟩) hd
  · exact Name_function_global k.kind hx (loadGlobal_builtin (env := k.env) hg' e1 hb' e2 ⟨m, H, st, h⟩) hd
theorem W_loadName {x : Str} {v : V} {Q : V → Loc → AHeap → Prop} (hm : m x = some v) (h : Q v m H) (hn : (x == ("__classdict__" : Str)) = false := by decide) :
    WV k (loadName k.env x) m H Q := fun B s st => by
  refine Mine.hideG fun GG back => ?_
  obtain ⟨mv, hn', hv⟩ := st.var
  refine back ?_
  clear back
  have q := hv x v hm
  split at q
  · rename_i hl
    refine Mine.hideG fun GG back => ?_
    obtain ⟨u, e1, rfl⟩ := q
    refine back ?_
    clear back
    exact wpAny_loadName_local k.kind hl hn' e1 ⟨m, H, st, h⟩
  · rename_i hl
    refine Mine.hideG fun GG back => ?_
    obtain ⟨a, u, e1, e2, rfl⟩ := q
    refine back ?_
    clear back
    exact wpAny_loadName_cell k.kind hl e1 e2 ⟨m, H, st, h⟩
  · rename_i hl
    refine Mine.hideG fun GG back => ?_
    obtain ⟨a, u, e1, e2, rfl⟩ := q
    refine back ?_
    clear back
    exact wpAny_loadName_free k.kind hl e1 e2 ⟨m, H, st, h⟩ hn
  · exact q.elim
theorem W_int {i : Int} {n : Nat} {pos : Pos} {Q : V → Loc → AHeap → Prop} (h : Q (.int i) m H) : WV k (eval (.Constant (.int i) n pos) k.env) m H Q :=
  W.of_wp fun B s st P hp => wpAny_Constant_int (hp _ _ h)
theorem W_str {x : Str} {n : Nat} {pos : Pos} {Q : V → Loc → AHeap → Prop} (h : ∀ t, 1 ≤ t → Q (.str x t) m H) : WV k (eval (.Constant (.str x) n pos) k.env) m H Q :=
  W.of_wp fun B s st P hp => wpAny_mkText (hp _ _ (h _ st.tk))
theorem W_bool {b : Bool} {n : Nat} {pos : Pos} {Q : V → Loc → AHeap → Prop} (h : Q (.bool b) m H) : WV k (eval (.Constant (.bool b) n pos) k.env) m H Q :=
  fun B s st => wpAny_pure ⟨m, H, st, h⟩
theorem W_none {n : Nat} {pos : Pos} {Q : V → Loc → AHeap → Prop} (h : Q .none m H) : WV k (eval (.Constant .none n pos) k.env) m H Q :=
  fun B s st => wpAny_pure ⟨m, H, st, h⟩
noncomputable def WBin (k : Wk) (op : Operator) (a b : V) (m : Loc) (H : AHeap) (Q : V → Loc → AHeap → Prop) : Prop := ∀ x y, er x = a → er y = b → WV k (binaryOp op x y) m H Q
noncomputable def WInpl (k : Wk) (op : Operator) (a b : V) (m : Loc) (H : AHeap) (Q : V → Loc → AHeap → Prop) : Prop := ∀ x y, er x = a → er y = b → WV k (inplaceOp op x y) m H Q
noncomputable def WCmp (k : Wk) (op : CmpOp) (a b : V) (m : Loc) (H : AHeap) (Q : V → Loc → AHeap → Prop) : Prop := ∀ x y, er x = a → er y = b → WV k (compareOp op x y) m H Q
noncomputable def WTr (k : Wk) (a : V) (m : Loc) (H : AHeap) (Q : Bool → Loc → AHeap → Prop) : Prop := ∀ x, er x = a → W k (truthy x) m H Q
noncomputable abbrev WT (k : Wk) (e : Expr) (m : Loc) (H : AHeap) (Q : Bool → Loc → AHeap → Prop) : Prop := W k (isTrue e k.env (eval e k.env)) m H Q
theorem W_BinOp {l r : Expr} {op : Operator} {pos : Pos} {Q : V → Loc → AHeap → Prop}
    (h : WV k (eval l k.env) m H fun a m1 H1 => WV k (eval r k.env) m1 H1 fun b m2 H2 => WBin k op a b m2 H2 Q) : WV k (eval (.BinOp l op r pos) k.env) m H Q :=
  fun B s st => wpAny_BinOp (wpAny_mono (h B s st) (fun a s1 ⟨m1, H1, st1, q1⟩ => wpAny_mono (q1 B s1 st1) (fun b s2 ⟨m2, H2, st2, q2⟩ => q2 a b rfl rfl B s2 st2) fun _ _ x => x) fun _ _ x => x)
theorem W_Compare {l r : Expr} {op : CmpOp} {pos : Pos} {Q : V → Loc → AHeap → Prop}
    (h : WV k (eval l k.env) m H fun a m1 H1 => WV k (eval r k.env) m1 H1 fun b m2 H2 => WCmp k op a b m2 H2 Q) (hm : behindInMarks op r = false := by with_unfolding_all rfl) : WV k (eval (.Compare l [op] [r] pos) k.env) m H Q :=
  fun B s st => wpAny_Compare1 (wpAny_mono (h B s st) (fun a s1 ⟨m1, H1, st1, q1⟩ => wpAny_mono (q1 B s1 st1) (fun b s2 ⟨m2, H2, st2, q2⟩ => q2 a b rfl rfl B s2 st2) fun _ _ x => x) fun _ _ x => x) hm
theorem WTr_bool {b : Bool} {Q : Bool → Loc → AHeap → Prop} (h : Q b m H) : WTr k (.bool b) m H Q := fun x e B s st => by rw [er_bool e]; exact wpAny_truthy_bool ⟨m, H, st, h⟩
theorem WT_Compare {l r : Expr} {op : CmpOp} {pos : Pos} {Q : Bool → Loc → AHeap → Prop}
    (h : WV k (eval l k.env) m H fun a m1 H1 => WV k (eval r k.env) m1 H1 fun b m2 H2 => WCmp k op a b m2 H2 fun v m3 H3 => WTr k v m3 H3 Q) (hm : behindInMarks op r = false := by with_unfolding_all rfl) :
    WT k (.Compare l [op] [r] pos) m H Q :=
  fun B s st => wpAny_isTrue_Compare1 (wpAny_mono (h B s st) (fun a s1 ⟨m1, H1, st1, q1⟩ => wpAny_mono (q1 B s1 st1) (fun b s2 ⟨m2, H2, st2, q2⟩ =>
    wpAny_mono (q2 a b rfl rfl B s2 st2) (fun v s3 ⟨m3, H3, st3, q3⟩ => q3 v rfl B s3 st3) fun _ _ x => x) fun _ _ x => x) fun _ _ x => x) hm
theorem WT_Not {x : Expr} {pos : Pos} {Q : Bool → Loc → AHeap → Prop} (h : WT k x m H fun b m1 H1 => Q (!b) m1 H1) : WT k (.UnaryOp .Not x pos) m H Q :=
  fun B s st => wpAny_isTrue_Not (h B s st)
theorem W_allTrue_nil {op : BoolOp} {Q : Bool → Loc → AHeap → Prop} (h : Q (op == .And) m H) : W k (allTrue op [] k.env) m H Q := fun B s st => wpAny_pure ⟨m, H, st, h⟩
theorem W_allTrue_and {x : Expr} {r : List Expr} {Q : Bool → Loc → AHeap → Prop} (h : WT k x m H fun b m1 H1 => if b = true then W k (allTrue .And r k.env) m1 H1 Q else Q false m1 H1) :
    W k (allTrue .And (x :: r) k.env) m H Q := by
  show W k (do match BoolOp.And, ← isTrue x k.env (eval x k.env) with
    | .And, false => pure false
    | .Or, true => pure true
    | _, _ => allTrue .And r k.env) m H Q
  refine W.bind (W.mono h fun b m1 H1 q => ?_)
  cases b
  · exact W.pure q
  · exact q
theorem W_allTrue_or {x : Expr} {r : List Expr} {Q : Bool → Loc → AHeap → Prop} (h : WT k x m H fun b m1 H1 => if b = true then Q true m1 H1 else W k (allTrue .Or r k.env) m1 H1 Q) :
    W k (allTrue .Or (x :: r) k.env) m H Q := by
  show W k (do match BoolOp.Or, ← isTrue x k.env (eval x k.env) with
    | .And, false => pure false
    | .Or, true => pure true
    | _, _ => allTrue .Or r k.env) m H Q
  refine W.bind (W.mono h fun b m1 H1 q => ?_)
  cases b
  · exact q
  · exact W.pure q
theorem WT_And {xs : List Expr} {pos : Pos} {Q : Bool → Loc → AHeap → Prop} (h : W k (allTrue .And xs k.env) m H Q) : WT k (.BoolOp .And xs pos) m H Q := h
theorem WT_Or {xs : List Expr} {pos : Pos} {Q : Bool → Loc → AHeap → Prop} (h : W k (allTrue .Or xs k.env) m H Q) : WT k (.BoolOp .Or xs pos) m H Q := h
theorem WT_plain {e : Expr} {Q : Bool → Loc → AHeap → Prop} (h : WV k (eval e k.env) m H fun v m1 H1 => WTr k v m1 H1 Q)
    (he : ∀ whole, isTrue e k.env whole = (do let v ← whole; standAt e.pos; PySem.holding [v] (truthy v)) := by intro _; rfl) : WT k e m H Q := by
  show W k (isTrue e k.env (eval e k.env)) m H Q
  rw [he]
  exact W.bind (W.mono h fun v m1 H1 q => W.bind (W.standAt (W.holding (q v rfl))))
theorem W_IfExp {t b e : Expr} {pos : Pos} {Q : V → Loc → AHeap → Prop} (h : WT k t m H fun x m1 H1 => if x = true then WV k (eval b k.env) m1 H1 Q else WV k (eval e k.env) m1 H1 Q) :
    WV k (eval (.IfExp t b e pos) k.env) m H Q := fun B s st => wpAny_IfExp (wpAny_mono (h B s st) (fun x s1 ⟨m1, H1, st1, q⟩ => by cases x <;> exact q B s1 st1) fun _ _ x => x)
/-! statements -/
noncomputable abbrev WF (k : Wk) (t : Sem Flow) (m : Loc) (H : AHeap) (Q : Flow → Loc → AHeap → Prop) : Prop := W k t m H Q
theorem W_nil {Q : Flow → Loc → AHeap → Prop} (h : Q .next m H) : W k (execs [] k.env) m H Q := fun B s st => wpAny_execs_nil ⟨m, H, st, h⟩
theorem W_cons {st : Stmt} {r : List Stmt} {Q : Flow → Loc → AHeap → Prop} (h : W k (exec st k.env) m H fun f m1 H1 => match f with | .next => W k (execs r k.env) m1 H1 Q | f => Q f m1 H1) : W k (execs (st :: r) k.env) m H Q :=
  fun B s stt => wpAny_execs_cons (wpAny_mono (h B s stt) (fun f s1 ⟨m1, H1, st1, q⟩ => by
    cases f <;> first | exact q B s1 st1 | exact ⟨m1, H1, st1, q⟩) fun _ _ x => x)
theorem W_Break {pos : Pos} {Q : Flow → Loc → AHeap → Prop} (h : Q .brk m H) : W k (exec (.Break pos) k.env) m H Q := fun B s st => wpAny_Break ⟨m, H, st, h⟩
theorem W_If {t : Expr} {b e : List Stmt} {pos : Pos} {Q : Flow → Loc → AHeap → Prop} (h : WT k t m H fun x m1 H1 => if x = true then W k (execs b k.env) m1 H1 Q else W k (execs e k.env) m1 H1 Q) :
    W k (exec (.If t b e pos) k.env) m H Q := fun B s st => wpAny_If (wpAny_mono (h B s st) (fun x s1 ⟨m1, H1, st1, q⟩ => by cases x <;> exact q B s1 st1) fun _ _ x => x)
theorem W_Return {e : Expr} {pos : Pos} {Q : Flow → Loc → AHeap → Prop} (h : W k (eval e k.env) m H fun v m1 H1 => Q (.ret v) m1 H1) : W k (exec (.Return (some e) pos) k.env) m H Q :=
  fun B s st => wpAny_Return_some (h B s st)
theorem W_Expr {e : Expr} {pos : Pos} {Q : Flow → Loc → AHeap → Prop} (h : WV k (eval e k.env) m H fun _ m1 H1 => Q .next m1 H1) (hi : interactive k.env = false)
    (hs : swapsWith e none pos.line k.env = pure false) : W k (exec (.Expr e pos) k.env) m H Q :=
  fun B s st => wpAny_Expr_any (h B s st) hi hs
theorem W_Assign {x : Str} {p pos : Pos} {e : Expr} {Q : Flow → Loc → AHeap → Prop} (h : WV k (eval e k.env) m H fun v m1 H1 => Q .next (setL m1 x v) H1) (hx : storable k.env x = true)
    (hs : swapsWith e (some (.Name x p)) pos.line k.env = pure false) : W k (exec (.Assign [.Name x p] e pos) k.env) m H Q :=
  fun B s st => wpAny_Assign_Name (wpAny_mono (h B s st) (fun v s1 ⟨m1, H1, st1, q⟩ => W_store (Q := fun _ => Q .next) hx q B s1 st1) fun _ _ x => x) hs
theorem W_Aug {x : Str} {p pos : Pos} {op : Operator} {e : Expr} {old : V} {Q : Flow → Loc → AHeap → Prop} (ho : m x = some old) (h : WV k (eval e k.env) m H fun v m1 H1 => WInpl k op old v m1 H1 fun r m2 H2 => Q .next (setL m2 x r) H2)
    (hx : storable k.env x = true) (hn : (x == ("__classdict__" : Str)) = false := by decide) : W k (exec (.AugAssign (.Name x p) op e pos) k.env) m H Q :=
  fun B s st => wpAny_AugAssign_Name (wpAny_mono (W_loadName (Q := fun v m' H' => v = old ∧ m' = m ∧ H' = H) ho ⟨rfl, rfl, rfl⟩ hn B s st) (fun ov s1 hx1 => by
    refine Mine.hideG fun GG back => ?_
    obtain ⟨m1, H1, st1, e1, e2, e3⟩ := hx1
    refine back ?_
    clear back
    subst e2; subst e3
    exact wpAny_mono (h B s1 st1) (fun v s2 ⟨m2, H2, st2, q2⟩ => wpAny_mono (q2 ov v e1 rfl B s2 st2) (fun r s3 ⟨m3, H3, st3, q3⟩ => W_store (Q := fun _ => Q .next) hx q3 B s3 st3) fun _ _ x => x) fun _ _ x => x) fun _ _ x => x)
noncomputable def WSet (k : Wk) (o i v : V) (m : Loc) (H : AHeap) (Q : Loc → AHeap → Prop) : Prop := ∀ x y z, er x = o → er y = i → er z = v → W k (setItem x y z) m H fun _ => Q
theorem W_AssignSub {o i e : Expr} {p pos : Pos} {Q : Flow → Loc → AHeap → Prop}
    (h : WV k (eval e k.env) m H fun v m1 H1 => WV k (eval o k.env) m1 H1 fun ov m2 H2 => WV k (eval i k.env) m2 H2 fun iv m3 H3 => WSet k ov iv v m3 H3 (Q .next))
    (hs : swapsWith e (some (.Subscript o i p)) pos.line k.env = pure false := by rfl) : W k (exec (.Assign [.Subscript o i p] e pos) k.env) m H Q :=
  fun B s st => wpAny_Assign_Subscript (wpAny_mono (h B s st) (fun v s1 ⟨m1, H1, st1, q1⟩ => wpAny_mono (q1 B s1 st1) (fun ov s2 ⟨m2, H2, st2, q2⟩ => wpAny_mono (q2 B s2 st2) (fun iv s3 ⟨m3, H3, st3, q3⟩ =>
    q3 ov iv v rfl rfl rfl B s3 st3) fun _ _ x => x) fun _ _ x => x) fun _ _ x => x) hs
noncomputable def WAs (k : Wk) (t : Expr) (v : V) (m : Loc) (H : AHeap) (Q : Loc → AHeap → Prop) : Prop := ∀ x, er x = v → W k (assign t k.env x) m H fun _ => Q
theorem WAs_Name {x : Str} {p : Pos} {v : V} {Q : Loc → AHeap → Prop} (hx : storable k.env x = true) (h : Q (setL m x v) H) : WAs k (.Name x p) v m H Q := fun u e => by
  subst e
  show W k (do standAt p; bindName k.env x u) m H _
  exact W.bind (W.standAt (W_bindName hx h))
theorem W_AssignTup {es : List Expr} {n : Nat} {p pos : Pos} {e : Expr} {Q : Flow → Loc → AHeap → Prop} (h : WV k (eval e k.env) m H fun v m1 H1 => WAs k (.Tuple es n p) v m1 H1 (Q .next))
    (hs : swapsWithSole [.Tuple es n p] e pos.line k.env = pure false := by rfl) (hw : swappedStores [.Tuple es n p] e k.env = pure none := by rfl) : W k (exec (.Assign [.Tuple es n p] e pos) k.env) m H Q :=
  fun B s st => Assign_Tuple (wpAny_mono (h B s st) (fun v s1 ⟨m1, H1, st1, q⟩ => q v rfl B s1 st1) fun _ _ x => x) hs hw
end
end Mine
namespace Mine
noncomputable def bindM : List (Str × V) → Loc → Loc
  | [], m => m
  | (n, v) :: r, m => bindM r (setL m n v)
noncomputable def noLoc : Loc := fun _ => none
theorem bindM_var {kindOf : Str → Option NameKind} {cs : List (Str × Addr)} : ∀ (binds : List (Str × Value)) (bl bc : Str → Option Value) (m : Loc),
    (∀ x ∈ binds, kindOf x.1 = some .local ∨ (kindOf x.1 = some .cell ∧ (cs.lookup x.1).isSome = true)) →
    (∀ x v, m x = some v → match kindOf x with
      | some .local => ∃ u, bl x = some u ∧ er u = v
      | some .cell => ∃ a u, cs.lookup x = some a ∧ bc x = some u ∧ er u = v
      | _ => False) →
    ∀ x v, bindM (binds.map fun b => (b.1, er b.2)) m x = some v → match kindOf x with
      | some .local => ∃ u, bindL kindOf binds bl x = some u ∧ er u = v
      | some .cell => ∃ a u, cs.lookup x = some a ∧ bindC kindOf binds bc x = some u ∧ er u = v
      | _ => False
  | [], bl, bc, m, hk, h => h
  | (n, w) :: r, bl, bc, m, hk, h => by
    rw [List.map_cons]
    unfold bindM bindL bindC
    refine bindM_var r _ _ _ (fun x hx => hk x (List.mem_cons_of_mem _ hx)) fun x v e => ?_
    unfold setL at e
    have hn := hk (n, w) List.mem_cons_self
    by_cases hx : x = n
    · subst hx
      rw [if_pos rfl] at e
      cases e
      rcases hn with h1 | ⟨h1, h2⟩
      · simp only [h1, if_true]; exact ⟨w, rfl, rfl⟩
      · have hnl : ¬ kindOf x = some .local := by rw [h1]; decide
        obtain ⟨a, ha⟩ := Option.isSome_iff_exists.mp h2
        simp only [h1]
        rw [if_neg (by decide)]
        exact ⟨a, w, ha, by simp, rfl⟩
    · rw [if_neg hx] at e
      have q := h x v e
      split at q
      · rename_i hl
        obtain ⟨u, e1, e2⟩ := q
        refine ⟨u, ?_, e2⟩
        split
        · simp only [hx, if_false]; exact e1
        · exact e1
      · rename_i hl
        obtain ⟨a, u, e1, e2, e3⟩ := q
        refine ⟨a, u, e1, ?_, e3⟩
        split
        · exact e2
        · simp only [hx, if_false]; exact e2
      · exact q
noncomputable def hideEnv (env : Env) (h : Heap) (B : BMap) : BMap := fun a => if a ∈ places env then (h.get? a).map fun ob => (ob, true) else B a
theorem mem_outerOf {env e : Env} {o : List Env} (h : e ∈ outerOf env o) : (e = env ∧ env.frame = some env.locals) ∨ e ∈ o := by
  unfold outerOf at h
  split at h
  · rename_i hf
    rcases List.mem_cons.mp h with rfl | h
    · exact .inl ⟨rfl, hf⟩
    · exact .inr h
  · exact .inr h
section
variable {c : Cx} {o : Out} {env : Env} {B : BMap} {m : Loc} {H : AHeap} {s : Shared}
theorem St.place (st : St c o env B m H s) {a : Addr} (h : a ∈ places env) : ∃ ob, s.heap.get? a = some ob ∧ ∀ vs, ob.data ≠ .fields vs := by
  rcases List.mem_cons.mp h with rfl | h
  · obtain ⟨mv, ⟨ob, es, ep, ho, hd, _⟩, _⟩ := st.var
    exact ⟨ob, ho, fun vs q => by rw [hd] at q; cases q⟩
  · obtain ⟨v, ob, ho, hd⟩ := st.cell a h
    exact ⟨ob, ho, fun vs q => by rw [hd] at q; cases q⟩
theorem St.enter (st : St c o env B m H s) (hke : env.scope.kind = .function) {env' : Env} {bl bc : Str → Option Value} {m' : Loc} {s₁ : Shared} (x : InCallC s env'.locals bl env'.cells bc s₁)
    (hm : ∀ y v, m' y = some v → match env'.kindOf y with
      | some .local => ∃ u, bl y = some u ∧ er u = v
      | some .cell => ∃ a u, env'.cells.lookup y = some a ∧ bc y = some u ∧ er u = v
      | _ => False) (hcl : (env'.cells.map (·.1)).Nodup) (ht : 1 ≤ s₁.toks) :
    St c ⟨outerOf env o.fs, hideEnv env s.heap B⟩ env' (hideEnv env s.heap B) m' H s₁ := by
  obtain ⟨⟨⟨h₁, tk, e⟩, hns, hkeep, hnew⟩, hcell, hap, hab⟩ := x
  subst e
  have lookups : ∀ a ∈ env'.cells.map (·.2), ∃ n, env'.cells.lookup n = some a := fun a ha => by
    obtain ⟨⟨n, b⟩, e1, rfl⟩ := List.mem_map.mp ha
    refine ⟨n, ?_⟩
    clear hcell hap hab ha
    revert hcl e1
    generalize env'.cells = cs
    intro hcl e1
    induction cs with
    | nil => cases e1
    | cons p r ih =>
      obtain ⟨n', b'⟩ := p
      rw [List.map_cons, List.nodup_cons] at hcl
      rw [List.lookup_cons]
      rcases List.mem_cons.mp e1 with e1 | e1
      · cases e1; simp
      · have hne : (n == n') = false := by
          cases hq : n == n' with
          | false => rfl
          | true => exact absurd (by rw [← eq_of_beq hq]; exact List.mem_map_of_mem (f := (·.1)) e1) hcl.1
        rw [hne]; exact ih hcl.2 e1
  have above : ∀ a ∈ places env', s.heap.objs.size ≤ a := fun a ha => by
    rcases List.mem_cons.mp ha with rfl | ha
    · exact hnew
    · obtain ⟨⟨n, b⟩, e1, rfl⟩ := List.mem_map.mp ha
      exact Nat.le_of_lt (Nat.lt_of_le_of_lt hnew (hab n b e1))
  have fresh : ∀ a ∈ places env', s.heap.get? a = none := fun a ha => st.none_at (above a ha)
  refine ⟨fun b ob e => hkeep b ob (st.base b ob e), fun b ob l e => ?_, fun b z e => ?_, fun b z e => ?_, st.disBase, fun b q => ?_, ?_, fun b e => ?_, ⟨bl, hns, fun y v e => ?_⟩, ⟨fun e he => ?_, fun _ _ e => e⟩, st.gens, st.os, ht⟩
  · unfold hideEnv at e
    split at e
    · cases hg : s.heap.get? b with
      | none => rw [hg] at e; cases e
      | some ob' => rw [hg] at e; cases e; exact ⟨ob.slots, hkeep b ob hg, fun _ => rfl⟩
    · obtain ⟨sl, e1, e2⟩ := st.keep b ob l e
      exact ⟨sl, hkeep b _ e1, e2⟩
  · obtain ⟨ob, e1, e2⟩ := st.own b z e; exact ⟨ob, hkeep b ob e1, e2⟩
  · unfold hideEnv
    rw [if_neg (fun q => by rw [(st.pl b q).1] at e; cases e)]
    exact st.disB b z e
  · obtain ⟨f1, f2, f3, f4⟩ := st.fresh (fresh b q)
    refine ⟨f1, ?_, ?_⟩
    · unfold hideEnv; rw [if_neg f4]; exact f2
    · refine Nat.le_trans ?_ (above b q)
      have hb := (st.pl env.locals List.mem_cons_self).2.2
      obtain ⟨mv, hn, _⟩ := st.var
      exact Nat.le_of_lt (Nat.lt_of_le_of_lt hb hn.lt)
  · refine List.nodup_cons.mpr ⟨fun q => ?_, ?_⟩
    · obtain ⟨⟨n, b⟩, e1, e2⟩ := List.mem_map.mp q
      exact absurd (hab n b e1) (by rw [show b = env'.locals from e2]; exact Nat.lt_irrefl _)
    · exact List.pairwise_map.mpr hap
  · obtain ⟨n, hn⟩ := lookups b e
    exact ⟨_, hcell n b hn⟩
  · have q := hm y v e
    split at q
    · rename_i hl; simp only [hl]; exact q
    · rename_i hl
      obtain ⟨a, u, e1, e2, e3⟩ := q
      simp only [hl]
      exact ⟨a, u, e1, e2 ▸ hcell y a e1, e3⟩
    · exact q.elim
  · rcases mem_outerOf (show e ∈ outerOf env o.fs from he) with ⟨rfl, hf⟩ | he
    · refine ⟨by rw [hke]; decide, e.locals, ?_⟩
      obtain ⟨ob, ho, hd⟩ := st.place (a := e.locals) List.mem_cons_self
      refine ⟨ob, hf, ?_, ?_, hd⟩
      · unfold hideEnv; rw [if_pos (show e.locals ∈ places e from List.mem_cons_self), ho]; rfl
      · cases q : c.base.get? e.locals with
        | none => rfl
        | some z => exact absurd (Heap.lt_size q) (Nat.not_lt.mpr (st.pl e.locals List.mem_cons_self).2.2)
    · obtain ⟨k1, L, ob, k2, k3, k4, k5⟩ := st.frames.1 e he
      refine ⟨k1, L, ob, k2, ?_, k4, k5⟩
      unfold hideEnv
      rw [if_neg (fun q => by rw [(st.pl L q).2.1] at k3; cases k3)]
      exact k3
theorem St.leave (st : St c o env B m H s) {env' : Env} {B' : BMap} {m' : Loc} {H' : AHeap} {s' : Shared} (st' : St c ⟨outerOf env o.fs, hideEnv env s.heap B⟩ env' B' m' H' s') : St c o env B m H' s' := by
  have hidden : ∀ a ∈ places env, ∃ ob sl, s.heap.get? a = some ob ∧ s'.heap.get? a = some { ob with slots := sl } := fun a ha => by
    obtain ⟨ob, ho, _⟩ := st.place ha
    obtain ⟨sl, e1, _⟩ := st'.keep a ob true (st'.frames.2 _ _ (by show hideEnv env s.heap B a = _; unfold hideEnv; rw [if_pos ha, ho]; rfl))
    exact ⟨ob, sl, ho, e1⟩
  have old : ∀ a x, B a = some x → B' a = some x := fun a x e => st'.frames.2 _ _ <| by
    show hideEnv env s.heap B a = some x
    unfold hideEnv
    rw [if_neg (fun q => by rw [(st.pl a q).2.1] at e; cases e)]
    exact e
  have pn : ∀ a ∈ places env, ∃ x, B' a = some x := fun a ha => by
    obtain ⟨ob, ho, _⟩ := st.place ha
    exact ⟨(ob, true), st'.frames.2 _ _ (by show hideEnv env s.heap B a = _; unfold hideEnv; rw [if_pos ha, ho]; rfl)⟩
  refine ⟨st'.base, fun b ob l e => st'.keep b ob l (old b _ e), st'.own, fun b x e => ?_, st'.disBase, fun b q => ?_, st.nodup, fun b e => ?_, ?_, st.frames, st'.gens, st'.os, st'.tk⟩
  · have h1 := st'.disB b x e
    cases hb : B b with
    | none => rfl
    | some y => rw [old b y hb] at h1; cases h1
  · obtain ⟨e1, e2, e3⟩ := st.pl b q
    refine ⟨?_, e2, e3⟩
    obtain ⟨x, hx⟩ := pn b q
    cases hb : H' b with
    | none => rfl
    | some y => have := st'.disB b y hb; rw [hx] at this; cases this
  · obtain ⟨v, ob, e1, e2⟩ := st.cell b e
    obtain ⟨ob', sl, h1, h2⟩ := hidden b (List.mem_cons_of_mem _ e)
    rw [e1] at h1; cases h1
    exact ⟨v, _, h2, e2⟩
  · obtain ⟨mv, ⟨ob, es, ep, ho, hd, hk, hf⟩, hv⟩ := st.var
    obtain ⟨ob', sl, h1, h2⟩ := hidden env.locals List.mem_cons_self
    rw [ho] at h1; cases h1
    have cellK : ∀ x a z, env.cells.lookup x = some a → s.heap.IsCell a z → s'.heap.IsCell a z := fun x a z e ⟨ob, ho, hd⟩ => by
      obtain ⟨ob', sl, h1, h2⟩ := hidden a (List.mem_cons_of_mem _ (List.mem_map_of_mem (f := (·.2)) (mem_of_lookup e)))
      rw [ho] at h1; cases h1
      exact ⟨_, h2, hd⟩
    refine ⟨mv, ⟨_, es, ep, h2, hd, hk, hf⟩, fun x v e => ?_⟩
    have q := hv x v e
    split at q
    · exact q
    · obtain ⟨a, u, e1, e2, e3⟩ := q; exact ⟨a, u, e1, cellK x a _ e1 e2, e3⟩
    · obtain ⟨a, u, e1, e2, e3⟩ := q; exact ⟨a, u, e1, cellK x a _ e1 e2, e3⟩
    · exact q
theorem St.funFrames (st : St c o env B m H s) (hk : env.scope.kind = .function) : s.heap.FunFrames c.base (outerOf env o.fs) := by
  have hb : ∀ L, c.base.objs.size ≤ L → c.base.get? L = none := fun L h => none_ge h
  have go : ∀ l : List Env, (∀ e ∈ l, e.scope.kind ≠ .module ∧ ∃ L ob, e.frame = some L ∧ B L = some (ob, true) ∧ c.base.get? L = none ∧ ∀ vs, ob.data ≠ .fields vs) → s.heap.FunFrames c.base l := by
    intro l
    induction l with
    | nil => intro _; trivial
    | cons f r ih =>
      intro h
      obtain ⟨k1, L, ob, k2, k3, k4, k5⟩ := h f List.mem_cons_self
      obtain ⟨sl, e1, _⟩ := st.keep L ob true k3
      exact ⟨k1, ⟨L, _, k2, k4, e1, k5⟩, ih fun e he => h e (List.mem_cons_of_mem _ he)⟩
  unfold outerOf
  split
  · rename_i hf
    obtain ⟨ob, ho, hd⟩ := st.place (a := env.locals) List.mem_cons_self
    exact ⟨by rw [hk]; decide, ⟨env.locals, ob, hf, hb _ (st.pl _ List.mem_cons_self).2.2, ho, hd⟩, go _ st.frames.1⟩
  · exact go _ st.frames.1
theorem St.flown (st : St c o env B m H s) {base' h' : Heap} {tk : Nat} (hO : Ours c o env B H base') (h0 : base'.StaysIn s.heap) (h1 : base'.StaysIn h') (hu : s.heap.UpToSlots h') (ht : 1 ≤ tk) : St c o env B m H { s with heap := h', toks := tk } := by
  have notFrame : ∀ b, (∃ f ∈ outerOf env o.fs, f.frame = some b) → b ∈ places env ∨ ∃ ob, B b = some (ob, true) ∧ ∀ vs, ob.data ≠ .fields vs := fun b ⟨f, hf, e⟩ => by
    rcases mem_outerOf hf with ⟨rfl, hl⟩ | hf
    · rw [hl] at e; cases e; exact .inl List.mem_cons_self
    · obtain ⟨k1, L, ob, k2, k3, k4, k5⟩ := st.frames.1 f hf
      rw [k2] at e; cases e; exact .inr ⟨ob, k3, k5⟩
  have cellSame : ∀ a ∈ env.cells.map (·.2), ∀ ob, s.heap.get? a = some ob → h'.get? a = some ob := fun a ha ob ho => by
    have hp := st.pl a (List.mem_cons_of_mem _ ha)
    rcases hO.own a (.inr (.inr (List.mem_cons_of_mem _ ha))) with ⟨f, hf, e⟩ | ⟨ob', e'⟩
    · rcases mem_outerOf hf with ⟨rfl, hl⟩ | hf
      · rw [hl] at e; cases e
        exact absurd ha (List.nodup_cons.mp st.nodup).1
      · obtain ⟨k1, L, ob, k2, k3, k4, k5⟩ := st.frames.1 f hf
        rw [k2] at e; cases e; rw [hp.2.1] at k3; cases k3
    · have := h0 a ob' e'; rw [ho] at this; cases this; exact h1 a _ e'
  refine ⟨fun b ob e => h1 b ob (hO.cb b ob e), fun b ob l e => ?_, fun b x e => ?_, st.disB, st.disBase, st.pl, st.nodup, fun b e => ?_, ?_, st.frames, st.gens, st.os, ht⟩
  · obtain ⟨sl, e1, e2⟩ := st.keep b ob l e
    rcases hO.own b (.inr (.inl (by rw [e]; rfl))) with hf | ⟨ob', e'⟩
    · rcases notFrame b hf with hp | ⟨ob', k3, k5⟩
      · rw [(st.pl b hp).2.1] at e; cases e
      · rw [e] at k3; cases k3
        obtain ⟨sl', e3⟩ := hu b _ e1 k5
        exact ⟨sl', e3, fun q => by cases q⟩
    · have := h0 b ob' e'; rw [e1] at this; cases this
      exact ⟨sl, h1 b _ e', e2⟩
  · obtain ⟨ob, e1, e2⟩ := st.own b x e
    rcases hO.own b (.inl (by rw [e]; rfl)) with hf | ⟨ob', e'⟩
    · rcases notFrame b hf with hp | ⟨ob', k3, k5⟩
      · rw [(st.pl b hp).1] at e; cases e
      · rw [st.disB b x e] at k3; cases k3
    · have := h0 b ob' e'; rw [e1] at this; cases this
      exact ⟨ob, h1 b _ e', e2⟩
  · obtain ⟨v, ob, e1, e2⟩ := st.cell b e
    exact ⟨v, ob, cellSame b e ob e1, e2⟩
  · obtain ⟨mv, hn, hv⟩ := st.var
    refine ⟨mv, hu.ns hn, fun x v e => ?_⟩
    have cellK : ∀ x a z, env.cells.lookup x = some a → s.heap.IsCell a z → h'.IsCell a z := fun x a z e ⟨ob, ho, hd⟩ =>
      ⟨ob, cellSame a (List.mem_map_of_mem (f := (·.2)) (mem_of_lookup e)) ob ho, hd⟩
    have q := hv x v e
    split at q
    · exact q
    · obtain ⟨a, u, e1, e2, e3⟩ := q; exact ⟨a, u, e1, cellK x a _ e1 e2, e3⟩
    · obtain ⟨a, u, e1, e2, e3⟩ := q; exact ⟨a, u, e1, cellK x a _ e1 e2, e3⟩
    · exact q.elim
theorem St.making0 (st : St c o env B m H s) (hk : env.scope.kind = .function) {h' : Heap} {e : Addr} {cls : String} {xs : Option (List V)} {tk : Nat} {ob : Obj} {a0 : Value} (hkeep : ∀ b o, s.heap.get? b = some o → h'.get? b = some o) (hnew : s.heap.get? e = none) (he : h'.get? e = some ob) (hc : ob.cls = .type cls)
    (hd : ob.data = .fields #[a0, .none, .none, .none, .bool false, .none]) (ha : ∀ l, xs = some l → ∃ t vs n, a0 = .ref t ∧ (vs : List Value).map er = l ∧ h'.get? t = some { cls := .type "tuple", data := .seq vs.toArray n } ∧ s.heap.objs.size ≤ t ∧ s.heap.objs.size ≤ e ∧ t ≠ e) (ht : 1 ≤ tk) :
    St c o env B m H { s with heap := h', toks := tk } ∧ Made c o env B H e cls xs h' := by
  have stg := st.grown hkeep ht
  have frames : ∀ b ∈ (outerOf env o.fs).filterMap (·.frame), ∃ ob, s.heap.get? b = some ob ∧ c.base.get? b = none := fun b hm => by
    obtain ⟨f, hf, e⟩ := List.mem_filterMap.mp hm
    rcases mem_outerOf hf with ⟨rfl, hl⟩ | hf
    · rw [hl] at e; cases e
      obtain ⟨ob, ho, _⟩ := st.place (a := f.locals) List.mem_cons_self
      exact ⟨ob, ho, none_ge (st.pl f.locals List.mem_cons_self).2.2⟩
    · obtain ⟨k1, L, ob, k2, k3, k4, k5⟩ := st.frames.1 f hf
      rw [k2] at e; cases e
      obtain ⟨sl, e1, _⟩ := st.keep _ ob true k3
      exact ⟨{ ob with slots := sl }, e1, k4⟩
  have away : ∀ a, s.heap.objs.size ≤ a → Away env B H a := fun a h => by
    obtain ⟨f1, f2, f3, f4⟩ := st.fresh (st.none_at h)
    exact ⟨f1, f2, f4⟩
  refine ⟨stg, hideAll h' (e :: (outerOf env o.fs).filterMap (·.frame)), ob, a0, ⟨fun b ob q => hideAll_get _ (hkeep b ob (st.base b ob q)) fun hm => ?_, fun b q => ?_⟩, fun b ob q => of_hideAll _ q, funFrames_hide (stg.funFrames hk) fun f hf a e => List.mem_cons_of_mem _ (List.mem_filterMap.mpr ⟨f, hf, e⟩),
    hideAll_none _ List.mem_cons_self, he, hc, hd, fun l q => ?_⟩
  · rcases List.mem_cons.mp hm with rfl | hm
    · have := st.base b ob q; rw [hnew] at this; cases this
    · obtain ⟨_, _, k4⟩ := frames b hm
      rw [k4] at q; cases q
  · by_cases hm : b ∈ (outerOf env o.fs).filterMap (·.frame)
    · obtain ⟨f, hf, e⟩ := List.mem_filterMap.mp hm
      exact .inl ⟨f, hf, e⟩
    · refine .inr ?_
      have : ∃ ob, s.heap.get? b = some ob := by
        rcases q with q | q | q
        · obtain ⟨x, hx⟩ := Option.isSome_iff_exists.mp q
          obtain ⟨ob, e1, _⟩ := st.own b x hx; exact ⟨ob, e1⟩
        · obtain ⟨⟨ob, l⟩, hx⟩ := Option.isSome_iff_exists.mp q
          obtain ⟨sl, e1, _⟩ := st.keep b ob l hx; exact ⟨_, e1⟩
        · obtain ⟨ob, e1, _⟩ := st.place q; exact ⟨ob, e1⟩
      obtain ⟨ob, ho⟩ := this
      refine ⟨ob, hideAll_get _ (hkeep b ob ho) fun hm' => ?_⟩
      rcases List.mem_cons.mp hm' with rfl | hm'
      · rw [hnew] at ho; cases ho
      · exact hm hm'
  · obtain ⟨t, vs, n, h1, h2, h3, h4, h5, h6⟩ := ha l q
    refine ⟨t, vs, n, h1, h2, hideAll_get _ h3 fun hm => ?_, Nat.le_trans st.baseLe h4, Nat.le_trans st.baseLe h5, away t h4, away e h5⟩
    rcases List.mem_cons.mp hm with rfl | hm
    · exact h6 rfl
    · obtain ⟨_, e1, _⟩ := frames t hm
      rw [st.none_at h4] at e1; cases e1
theorem St.makingNew (st : St c o env B m H s) (hk : env.scope.kind = .function) {h' : Heap} {e : Addr} {cls : String} {tk : Nat} (hx : Heap.NewExc s.heap h' e cls) (ht : 1 ≤ tk) :
    St c o env B m H { s with heap := h', toks := tk } ∧ Made c o env B H e cls none h' := by
  obtain ⟨ob, a0, he, hc, hd⟩ := hx.there
  exact st.making0 hk hx.keeps hx.new he hc hd (fun l q => by cases q) ht
theorem Away.leave {env' : Env} {B' : BMap} {m' : Loc} {H' : AHeap} {s₀ s' : Shared} (st₀ : St c o env B m H s₀) (st' : St c ⟨outerOf env o.fs, hideEnv env s₀.heap B⟩ env' B' m' H' s') {a : Addr} (h : Away env' B' H' a) : Away env B H' a := by
  obtain ⟨h1, h2, h3⟩ := h
  refine ⟨h1, ?_, fun q => ?_⟩
  · cases e : B a with
    | none => rfl
    | some x =>
      rw [st'.frames.2 a x (by show hideEnv env s₀.heap B a = _; unfold hideEnv; rw [if_neg (fun z => by rw [(st₀.pl a z).2.1] at e; cases e)]; exact e)] at h2
      cases h2
  · obtain ⟨ob, ho, _⟩ := st₀.place q
    rw [st'.frames.2 a (ob, true) (by show hideEnv env s₀.heap B a = _; unfold hideEnv; rw [if_pos q, ho]; rfl)] at h2
    cases h2
theorem ArgsOf.leave {env' : Env} {B' : BMap} {m' : Loc} {H' : AHeap} {s₀ s' : Shared} (st₀ : St c o env B m H s₀) (st' : St c ⟨outerOf env o.fs, hideEnv env s₀.heap B⟩ env' B' m' H' s') {base' : Heap} {e : Addr} {a0 : Value} {l : List V} (h : ArgsOf c env' B' H' base' e a0 l) : ArgsOf c env B H' base' e a0 l := by
  obtain ⟨t, vs, n, h1, h2, h3, h4, h5, h6, h7⟩ := h
  exact ⟨t, vs, n, h1, h2, h3, h4, h5, h6.leave st₀ st', h7.leave st₀ st'⟩
theorem Ours.leave {env' : Env} {B' : BMap} {m' : Loc} {H' : AHeap} {s₀ s' : Shared} (st₀ : St c o env B m H s₀) (st' : St c ⟨outerOf env o.fs, hideEnv env s₀.heap B⟩ env' B' m' H' s') {base' : Heap} (hf' : env'.frame = some env'.locals)
    (hO : Ours c ⟨outerOf env o.fs, hideEnv env s₀.heap B⟩ env' B' H' base') : Ours c o env B H' base' := by
  refine ⟨hO.cb, fun b q => ?_⟩
  have q' : (H' b).isSome ∨ (B' b).isSome := by
    rcases q with q | q | q
    · exact .inl q
    · obtain ⟨x, hx⟩ := Option.isSome_iff_exists.mp q
      refine .inr ?_
      rw [st'.frames.2 b x (by show hideEnv env s₀.heap B b = _; unfold hideEnv; rw [if_neg (fun z => by rw [(st₀.pl b z).2.1] at hx; cases hx)]; exact hx)]; rfl
    · obtain ⟨ob, ho, _⟩ := st₀.place q
      refine .inr ?_
      rw [st'.frames.2 b (ob, true) (by show hideEnv env s₀.heap B b = _; unfold hideEnv; rw [if_pos q, ho]; rfl)]; rfl
  rcases hO.own b (by rcases q' with q' | q'; exact .inl q'; exact .inr (.inl q')) with ⟨f, hf, e⟩ | r
  · rcases mem_outerOf (show f ∈ outerOf env' (outerOf env o.fs) from hf) with ⟨rfl, hl⟩ | hf
    · rw [hl] at e; cases e
      have hp := st'.pl f.locals List.mem_cons_self
      rcases q' with q' | q'
      · rw [hp.1] at q'; cases q'
      · rw [hp.2.1] at q'; cases q'
    · exact .inl ⟨f, hf, e⟩
  · exact .inr r
end
structure FnAt (c : Cx) (f : Addr) (fd : FuncData) (body : List Stmt) : Prop where
  obj : ∃ fo, c.base.get? f = some fo ∧ fo.data = .func fd
  code : c.base.CodeRec fd.code fd.qualname
  body : fd.body = .stmts body
  kind : fd.scope.kind = .function
  co : fd.scope.isCoroutine = false
  gen : fd.scope.isGenerator = false
  glob : fd.globals = mainGlobals
  blt : fd.builtins = builtinsNs
  clo : fd.closure = []
  names : (fd.scope.names.map (·.1)).Nodup
theorem cellsFrom_names : ∀ (names : List (Str × NameKind)) (n : Nat) (acc : List (Str × Addr)), (names.map (·.1)).Nodup → (acc.map (·.1)).Nodup → (∀ x ∈ names.map (·.1), x ∉ acc.map (·.1)) → ((cellsFrom n names acc).map (·.1)).Nodup
  | [], n, acc, h1, h2, h3 => h2
  | (x, k) :: r, n, acc, h1, h2, h3 => by
    rw [List.map_cons, List.nodup_cons] at h1
    unfold cellsFrom
    split
    · refine cellsFrom_names r (n + 1) _ h1.2 ?_ fun y hy q => ?_
      · rw [List.map_cons, List.nodup_cons]; exact ⟨h3 x List.mem_cons_self, h2⟩
      · rw [List.map_cons] at q
        rcases List.mem_cons.mp q with rfl | q
        · exact h1.1 hy
        · exact h3 y (List.mem_cons_of_mem _ hy) q
    · exact cellsFrom_names r n acc h1.2 h2 fun y hy => h3 y (List.mem_cons_of_mem _ hy)
theorem cellsFrom_map : ∀ (names : List (Str × NameKind)) (n n' : Nat) (acc acc' : List (Str × Addr)), acc.map (·.1) = acc'.map (·.1) → (cellsFrom n names acc).map (·.1) = (cellsFrom n' names acc').map (·.1)
  | [], n, n', acc, acc', h => h
  | (x, k) :: r, n, n', acc, acc', h => by
    unfold cellsFrom
    split
    · exact cellsFrom_map r _ _ _ _ (by rw [List.map_cons, List.map_cons, h])
    · exact cellsFrom_map r _ _ _ _ h
noncomputable def cellNames (names : List (Str × NameKind)) : List Str := (cellsFrom 0 names []).map (·.1)
structure Sub (c : Cx) (A : Around) (fd : FuncData) (X : String → Option (List V) → AHeap → Prop) (k : Wk) : Prop where
  c : k.c = c
  sc : k.env.scope = fd.scope
  cn : k.env.cells.map (·.1) = cellNames fd.scope.names
  frame : k.env.frame = some k.env.locals
  depth : k.A.depth = A.depth + 1
  units : k.A.units = A.units + 3
  handled : k.A.handled = A.handled
  guards : k.A.guards = A.guards
  X : k.X = fun cls xs _ H => X cls xs H
  here : k.here
theorem Sub.senv {c : Cx} {A : Around} {fd : FuncData} {X : String → Option (List V) → AHeap → Prop} {k : Wk} (h : Sub c A fd X k) : SEnv k fd.scope (cellNames fd.scope.names) := ⟨h.sc, h.cn⟩
noncomputable def Fn (c : Cx) (A : Around) (f : Value) (args : Args) (H : AHeap) (Q : V → AHeap → Prop) (X : String → Option (List V) → AHeap → Prop) : Prop :=
  ∀ o env B m s, env.scope.kind = .function → A.frames = some (outerOf env o.fs) → St c o env B m H s → codeAny (model c.prog c.w) A (.call f args) (fun r s' => match r with
    | .ok (.ret v) => ∃ H', St c o env B m H' s' ∧ Q (er v) H'
    | .error x => ∃ H' a cls xs, x = .ref a ∧ St c o env B m H' s' ∧ InFl c o env B H' a cls xs s'.heap ∧ X cls xs H'
    | _ => False) s
noncomputable abbrev NoX : String → Option (List V) → AHeap → Prop := fun _ _ _ => False
noncomputable def flowV : Flow → V
  | .ret v => er v
  | _ => .none
theorem Fn.mono {c : Cx} {A : Around} {f : Value} {args : Args} {H : AHeap} {Q Q' : V → AHeap → Prop} {X X' : String → Option (List V) → AHeap → Prop} (h : Fn c A f args H Q X) (hQ : ∀ v H, Q v H → Q' v H) (hX : ∀ a b H, X a b H → X' a b H) : Fn c A f args H Q' X' :=
  fun o env B m s hk hf st => codeAny_mono (h o env B m s hk hf st) fun r s' q => by
    split at q
    · obtain ⟨H', st', q⟩ := q; exact ⟨H', st', hQ _ _ q⟩
    · obtain ⟨H', a, cls, xs, e, st', i, q⟩ := q; exact ⟨H', a, cls, xs, e, st', i, hX _ _ _ q⟩
    · exact q.elim
theorem Fn.of_body {c : Cx} {A : Around} {f : Addr} {fd : FuncData} {body : List Stmt} {args : Args} {binds : List (Str × Value)} {H : AHeap} {Q : V → AHeap → Prop} {X : String → Option (List V) → AHeap → Prop} (F : FnAt c f fd body)
    (hroom : A.depth < recursionLimit) (hbind : ∀ s, c.base.StaysIn s.heap → BindsTo s fd args binds)
    (hkind : (binds.all fun y => fd.scope.names.lookup y.1 == some .local || fd.scope.names.lookup y.1 == some .cell) = true)
    (h : ∀ k, Sub c A fd X k → W k (execs body k.env) (bindM (binds.map fun b => (b.1, er b.2)) noLoc) H fun fl _ H' => Q (flowV fl) H') : Fn c A (.ref f) args H Q X := by
  intro o env B m s hke hfr st
  obtain ⟨fo, hfo, hd⟩ := F.obj
  have hnd := cellsFrom_names fd.scope.names
  refine codeAny_call_function hroom (st.base f fo hfo) hd F.co F.gen F.body (F.code.keeps st.base) (hbind s st.base _ _ _ _ ?_)
  rw [F.clo]
  refine wpAny_mono (wpAny_toks_of st.tk (wpAny_newFunctionEnv_cells (E := fun _ _ => False) (Q := fun e s₁ => e = callEnvC fd s.heap.objs.size f ∧ InCallC s e.locals (bindL e.kindOf binds fun _ => none) e.cells (bindC e.kindOf binds fun _ => none) s₁)
    F.kind (kindsX hkind _) fun env' he s₁ x => ⟨he, x⟩)) (fun env' s₁ q => ?_) fun _ _ x => x.2.elim
  obtain ⟨ht, rfl, x⟩ := q
  have hmk : ∀ y v, bindM (binds.map fun b => (b.1, er b.2)) noLoc y = some v → match (callEnvC fd s.heap.objs.size f).kindOf y with
      | some .local => ∃ u, bindL (callEnvC fd s.heap.objs.size f).kindOf binds (fun _ => none) y = some u ∧ er u = v
      | some .cell => ∃ a u, (callEnvC fd s.heap.objs.size f).cells.lookup y = some a ∧ bindC (callEnvC fd s.heap.objs.size f).kindOf binds (fun _ => none) y = some u ∧ er u = v
      | _ => False :=
    bindM_var binds _ _ noLoc (kindsX hkind _) (fun y v e => by cases e)
  have st₁ := st.enter hke (env' := callEnvC fd s.heap.objs.size f) x hmk (hnd _ [] F.names List.nodup_nil (fun _ _ q => by cases q)) ht
  refine ⟨c.top.nolimit.keeps fun b ob e => x.toInCall.keep b ob (st.base b ob e), codeAny_func ?_⟩
  have hframe : (callEnvC fd s.heap.objs.size f).frame = some (callEnvC fd s.heap.objs.size f).locals := rfl
  have hA : (A.deeper (callEnvC fd s.heap.objs.size f)).frames = some (callEnvC fd s.heap.objs.size f :: outerOf env o.fs) := by show A.frames.map _ = _; rw [hfr]; rfl
  have hout : outerOf (callEnvC fd s.heap.objs.size f) (outerOf env o.fs) = callEnvC fd s.heap.objs.size f :: outerOf env o.fs := if_pos hframe
  let k : Wk := {
    c := c, A := A.deeper (callEnvC fd s.heap.objs.size f), o := ⟨outerOf env o.fs, hideEnv env s.heap B⟩, env := callEnvC fd s.heap.objs.size f,
    E := fun e s' => wpAny (model c.prog c.w) (A.deeper (callEnvC fd s.heap.objs.size f)) (leaving (callEnvC fd s.heap.objs.size f) e)
      (fun _ s'' => ∃ H' a cls xs, e = .ref a ∧ St c o env B m H' s'' ∧ InFl c o env B H' a cls xs s''.heap ∧ X cls xs H')
      (fun e' s'' => ∃ H' a cls xs, e' = .ref a ∧ St c o env B m H' s'' ∧ InFl c o env B H' a cls xs s''.heap ∧ X cls xs H') s',
    X := fun cls xs _ H => X cls xs H, here := True,
    pass := PassesOwn.leaving,
    fly := fun B' m' H' s' e cls xs st' i hX => by
      obtain ⟨base', a0, hO, hfl, hargs⟩ := i
      rw [show outerOf (callEnvC fd s.heap.objs.size f) (outerOf env o.fs) = callEnvC fd s.heap.objs.size f :: outerOf env o.fs from hout] at hfl
      have hO' := Ours.leave st st' hframe hO
      refine wpAny_leaves_onW hA hframe hfl fun h' hfl' hu => ?_
      exact ⟨H', e, cls, xs, rfl, (st.leave st').flown hO' hfl.1 hfl'.1 hu st'.tk, ⟨base', a0, hO', hfl', fun l q => (hargs l q).leave st st'⟩, hX⟩,
    made := fun _ B' m' H' s' e cls xs st' i hX => by
      obtain ⟨base', ob, a0, hO, hs0, hff, hnew, he, hc, hd, hargs⟩ := i
      rw [show outerOf (callEnvC fd s.heap.objs.size f) (outerOf env o.fs) = callEnvC fd s.heap.objs.size f :: outerOf env o.fs from hout] at hff
      have hO' := Ours.leave st st' hframe hO
      refine wpAny_leaving_firstW (a0 := a0) hA hff hframe he hs0 hnew hd rfl rfl fun h' hL => ?_
      rw [hc] at hL
      obtain ⟨k1, ⟨_, _, k2⟩, k3, k4⟩ := hL
      exact ⟨H', e, cls, xs, rfl, (st.leave st').flown hO' hs0 k1 k4 st'.tk, ⟨base', a0, hO', ⟨k1, hnew, k2, k3⟩, fun l q => (hargs l q).leave st st'⟩, hX⟩,
    kind := F.kind, glob := F.glob, blt := F.blt, frames := hA.trans (congrArg some hout.symm), fat := .inl hframe }
  have hk := h k ⟨rfl, rfl, cellsFrom_map _ _ _ _ _ rfl, rfl, rfl, rfl, rfl, rfl, rfl, trivial⟩ (hideEnv env s.heap B) s₁ st₁
  refine wpAny_mono hk (fun fl s' q => ?_) fun e s' q => ?_
  · obtain ⟨m', H', st', q⟩ := q
    refine ⟨H', st.leave st', ?_⟩
    cases fl <;> exact q
  · exact q
end Mine
namespace Mine
section
variable {k : Wk} {m : Loc} {H : AHeap}
/-! ints -/
theorem WBin_add {i j : Int} {Q : V → Loc → AHeap → Prop} (h : Q (.int (i + j)) m H) : WBin k .Add (.int i) (.int j) m H Q := fun x y hx hy => by
  obtain ⟨t, rfl⟩ := er_int hx; obtain ⟨u, rfl⟩ := er_int hy
  exact W.of_wp fun B s st P hp => wpAny_add_int (hp _ _ h)
theorem WBin_sub {i j : Int} {Q : V → Loc → AHeap → Prop} (h : Q (.int (i - j)) m H) : WBin k .Sub (.int i) (.int j) m H Q := fun x y hx hy => by
  obtain ⟨t, rfl⟩ := er_int hx; obtain ⟨u, rfl⟩ := er_int hy
  exact W.of_wp fun B s st P hp => PyProof.Rows.sub_int (hp _ _ h)
theorem WBin_mul {i j : Int} {Q : V → Loc → AHeap → Prop} (hm : IntMulOk i j) (h : Q (.int (i * j)) m H) : WBin k .Mult (.int i) (.int j) m H Q := fun x y hx hy => by
  obtain ⟨t, rfl⟩ := er_int hx; obtain ⟨u, rfl⟩ := er_int hy
  exact W.of_wp fun B s st P hp => PyProof.Rows.mul_int (hp _ _ h) hm
structure Roomy (k : Wk) : Prop where
  depth : k.A.depth + Builtin.pylongFrames < recursionLimit
  imp : importsNone k.c.p = true
  tree : k.c.prog.given.tree = none
  fr : ∃ e r, k.A.frames = some (e :: r) ∧ e.scope.isGenerator = false ∧ e.scope.isCoroutine = false ∧ e.builtins = builtinsNs ∧ e.globals = mainGlobals
theorem pylong_of {B : BMap} {s : Shared} (hr : Roomy k) (st : St k.c k.o k.env B m H s) : PylongRoom (model k.c.prog k.c.w) k.A s := by
  obtain ⟨e, r, h1, h2, h3, h4, h5⟩ := hr.fr
  exact PylongRoom.of (k.c.top.nolimit.keeps st.base) hr.depth (SeerAt.of ((k.c.top.seer hr.imp).keeps st.base) hr.tree h1 h2 h3 h4 h5)
theorem WBin_fdiv {i j : Int} {Q : V → Loc → AHeap → Prop} (hr : Roomy k) (hj : j ≠ 0) (h : Q (.int (i.fdiv j)) m H) : WBin k .FloorDiv (.int i) (.int j) m H Q := fun x y hx hy => by
  obtain ⟨t, rfl⟩ := er_int hx; obtain ⟨u, rfl⟩ := er_int hy
  exact W.of_wp fun B s st P hp => PyProof.Rows.floordiv_int hj (hp _ _ h) (.inr (pylong_of hr st))
theorem WBin_mod {i j : Int} {Q : V → Loc → AHeap → Prop} (hr : Roomy k) (hj : j ≠ 0) (h : Q (.int (i.fmod j)) m H) : WBin k .Mod (.int i) (.int j) m H Q := fun x y hx hy => by
  obtain ⟨t, rfl⟩ := er_int hx; obtain ⟨u, rfl⟩ := er_int hy
  exact W.of_wp fun B s st P hp => PyProof.Rows.mod_int' hj (hp _ _ h)
noncomputable def WUn (k : Wk) (op : UnaryOp) (a : V) (m : Loc) (H : AHeap) (Q : V → Loc → AHeap → Prop) : Prop := ∀ x, er x = a → WV k (unaryOp op x) m H Q
theorem W_UnaryOp {op : UnaryOp} {e : Expr} {pos : Pos} {Q : V → Loc → AHeap → Prop} (h : WV k (eval e k.env) m H fun v m1 H1 => WUn k op v m1 H1 Q) : WV k (eval (.UnaryOp op e pos) k.env) m H Q :=
  fun B s st => wpAny_UnaryOp (wpAny_mono (h B s st) (fun v s1 ⟨m1, H1, st1, q⟩ => q v rfl B s1 st1) fun _ _ x => x)
theorem WUn_neg {i : Int} {Q : V → Loc → AHeap → Prop} (h : Q (.int (-i)) m H) : WUn k .USub (.int i) m H Q := fun x hx => by
  obtain ⟨t, rfl⟩ := er_int hx
  exact W.of_wp fun B s st P hp => PyProof.Rows.neg_int (hp _ _ h)
theorem WCmp_lt {i j : Int} {Q : V → Loc → AHeap → Prop} (h : Q (.bool (decide (i < j))) m H) : WCmp k .Lt (.int i) (.int j) m H Q := fun x y hx hy => by
  obtain ⟨t, rfl⟩ := er_int hx; obtain ⟨u, rfl⟩ := er_int hy
  exact W.of_wp fun B s st P hp => wpAny_lt_int (hp _ s.toks h)
theorem WCmp_gt {i j : Int} {Q : V → Loc → AHeap → Prop} (h : Q (.bool (decide (j < i))) m H) : WCmp k .Gt (.int i) (.int j) m H Q := fun x y hx hy => by
  obtain ⟨t, rfl⟩ := er_int hx; obtain ⟨u, rfl⟩ := er_int hy
  exact W.of_wp fun B s st P hp => PyProof.Rows.gt_int (hp _ s.toks h)
theorem WCmp_ge {i j : Int} {Q : V → Loc → AHeap → Prop} (h : Q (.bool (decide (j ≤ i))) m H) : WCmp k .GtE (.int i) (.int j) m H Q := fun x y hx hy => by
  obtain ⟨t, rfl⟩ := er_int hx; obtain ⟨u, rfl⟩ := er_int hy
  exact W.of_wp fun B s st P hp => PyProof.Rows.ge_int (hp _ s.toks h)
theorem WCmp_eq {i j : Int} {Q : V → Loc → AHeap → Prop} (h : Q (.bool (decide (i = j))) m H) : WCmp k .Eq (.int i) (.int j) m H Q := fun x y hx hy => by
  obtain ⟨t, rfl⟩ := er_int hx; obtain ⟨u, rfl⟩ := er_int hy
  have e : (i == j) = decide (i = j) := by by_cases hij : i = j <;> simp [hij]
  exact W.of_wp fun B s st P hp => PyProof.Rows.eq_int (e ▸ hp _ s.toks h)
/-! texts -/
theorem WCmp_eqS {a b : Str} {t u : Tok} {Q : V → Loc → AHeap → Prop} (h : Q (.bool (decide (a = b))) m H) : WCmp k .Eq (.str a t) (.str b u) m H Q := fun x y hx hy => by
  obtain rfl := er_str hx; obtain rfl := er_str hy
  have e : (a == b) = decide (a = b) := by by_cases hij : a = b <;> simp [hij]
  exact W.of_wp fun B s st P hp => PyProof.Rows.eq_str (e ▸ hp _ s.toks h)
theorem WCmp_neS {a b : Str} {t u : Tok} {Q : V → Loc → AHeap → Prop} (h : Q (.bool (decide (a ≠ b))) m H) : WCmp k .NotEq (.str a t) (.str b u) m H Q := fun x y hx hy => by
  obtain rfl := er_str hx; obtain rfl := er_str hy
  have e : (a != b) = decide (a ≠ b) := by by_cases hij : a = b <;> simp [hij]
  exact W.of_wp fun B s st P hp => PyProof.Rows.ne_str (e ▸ hp _ s.toks h)
theorem WCmp_neIS {i : Int} {b : Str} {u : Tok} {Q : V → Loc → AHeap → Prop} (h : Q (.bool true) m H) : WCmp k .NotEq (.int i) (.str b u) m H Q := fun x y hx hy => by
  obtain ⟨t, rfl⟩ := er_int hx; obtain rfl := er_str hy
  exact W.of_wp fun B s st P hp => EqMixed.ne_int_str (hp _ s.toks h)
/-! is -/
/-! truth -/
/-! displays -/
noncomputable def WItems (k : Wk) (es : List Expr) (m : Loc) (H : AHeap) (Q : List V → Loc → AHeap → Prop) : Prop := ∀ pos, W k (spliced (backTo pos (starEach es k.env))) m H fun vs => Q (vs.map er)
theorem WItems_nil {Q : List V → Loc → AHeap → Prop} (h : Q [] m H) : WItems k [] m H Q := fun pos B s st => wpAny_items_nil ⟨m, H, st, h⟩
theorem WItems_cons {e : Expr} {es : List Expr} {Q : List V → Loc → AHeap → Prop} (h : WV k (eval e k.env) m H fun v m1 H1 => WItems k es m1 H1 fun vs => Q (v :: vs))
    (he : starEach (e :: es) k.env = (false, eval e k.env) :: starEach es k.env := by rfl) : WItems k (e :: es) m H Q := fun pos B s st =>
  wpAny_items_cons (wpAny_mono (h B s st) (fun v s1 ⟨m1, H1, st1, q⟩ => wpAny_mono (q pos B s1 st1) (fun vs s2 ⟨m2, H2, st2, q2⟩ => ⟨m2, H2, st2, q2⟩) fun _ _ x => x) fun _ _ x => x) he
theorem St.newList {c : Cx} {o : Out} {env : Env} {B : BMap} {s : Shared} (st : St c o env B m H s) (vs : List Value) :
    H s.heap.objs.size = none ∧ St c o env B m (upd H s.heap.objs.size (.list (vs.map er))) { s with heap := s.heap.push { cls := .type "list", data := .seq vs.toArray } } := by
  have hn := st.none_at (Nat.le_refl _)
  exact ⟨(st.fresh hn).1, st.new (tk := s.toks) (Nat.le_refl _) (fun b ob e => Heap.get?_push_of_some _ e) ⟨_, Heap.get?_push_size _ rfl, vs, 0, rfl, rfl⟩ st.tk⟩
theorem St.newTup {c : Cx} {o : Out} {env : Env} {B : BMap} {s : Shared} (st : St c o env B m H s) (vs : List Value) :
    H s.heap.objs.size = none ∧ St c o env B m (upd H s.heap.objs.size (.tup (vs.map er))) { s with heap := s.heap.push { cls := .type "tuple", data := .seq vs.toArray } } := by
  have hn := st.none_at (Nat.le_refl _)
  exact ⟨(st.fresh hn).1, st.new (tk := s.toks) (Nat.le_refl _) (fun b ob e => Heap.get?_push_of_some _ e) ⟨_, Heap.get?_push_size _ rfl, vs, 0, rfl, rfl⟩ st.tk⟩
theorem W_List {es : List Expr} {pos : Pos} {Q : V → Loc → AHeap → Prop} (h : WItems k es m H fun vs m1 H1 => vs.length ≤ sizeLine ∧ ∀ a, H1 a = none → Q (.ref a) m1 (upd H1 a (.list vs))) : WV k (eval (.List es pos) k.env) m H Q :=
  fun B s st => wpAny_List (wpAny_mono (h pos B s st) (fun vs s1 ⟨m1, H1, st1, q⟩ => by
    obtain ⟨hn, st2⟩ := st1.newList vs
    exact ⟨by simpa using q.1, m1, _, st2, q.2 _ hn⟩) fun _ _ x => x)
theorem W_Tuple {es : List Expr} {n : Nat} {pos : Pos} {Q : V → Loc → AHeap → Prop} (h : WItems k es m H fun vs m1 H1 => vs.length ≤ sizeLine ∧ ∀ a, H1 a = none → Q (.ref a) m1 (upd H1 a (.tup vs))) : WV k (eval (.Tuple es n pos) k.env) m H Q :=
  fun B s st => wpAny_Tuple (wpAny_mono (h pos B s st) (fun vs s1 ⟨m1, H1, st1, q⟩ => by
    obtain ⟨hn, st2⟩ := st1.newTup vs
    exact ⟨by simpa using q.1, m1, _, st2, q.2 _ hn⟩) fun _ _ x => x)
theorem W_Dict0 {pos : Pos} {Q : V → Loc → AHeap → Prop} (h : ∀ a, H a = none → Q (.ref a) m (upd H a (.dict [] 0))) : WV k (eval (.Dict [] [] pos) k.env) m H Q := fun B s st => by
  show wpAny _ _ (do standAt pos; dictDisplay []) _ _ s
  refine wpAny_bind (wpAny_standAt ?_)
  show wpAny _ _ (do match ← (do if ([] : List (Sem Value × Sem Value)).isEmpty then return (Option.none : Option Addr) else return Option.none : Sem (Option Addr)) with
    | some d => pure (.ref d)
    | Option.none => newDict) _ _ s
  refine wpAny_bind (wpAny_pure ?_)
  have hn := st.none_at (Nat.le_refl _)
  refine wpAny_newObj_type ⟨m, _, st.new (y := .dict [] 0) (tk := s.toks) (Nat.le_refl _) (fun b ob e => Heap.get?_push_of_some _ e) ⟨_, Heap.get?_push_size _ rfl, ⟨rfl, rfl, rfl⟩, #[], rfl, fun _ he => by simp at he, [], Pairs.nil, List.nodup_nil, rfl⟩ st.tk, h _ (st.fresh hn).1⟩
end
end Mine
namespace Mine
noncomputable def getK : List (Key × V) → Key → Option V
  | [], _ => none
  | (k', v) :: r, k => if k' = k then some v else getK r k
noncomputable def putK : List (Key × V) → Key → V → List (Key × V)
  | [], k, v => [(k, v)]
  | (k', w) :: r, k, v => if k' = k then (k', v) :: r else (k', w) :: putK r k v
noncomputable abbrev erP (kv : Key × Value) : Key × V := (kv.1, er kv.2)
theorem getK_er (rvs : List (Key × Value)) (k : Key) : getK (rvs.map erP) k = (valueAt rvs k).map er := by
  induction rvs with
  | nil => rfl
  | cons p r ih =>
    obtain ⟨k', v⟩ := p
    rw [List.map_cons]
    unfold getK
    by_cases h : k' = k
    · subst h; simp [valueAt]
    · rw [if_neg h, ih]
      simp [valueAt, h]
theorem putK_new {kvs : List (Key × V)} {k : Key} {v : V} (h : getK kvs k = none) : putK kvs k v = kvs ++ [(k, v)] := by
  induction kvs with
  | nil => rfl
  | cons p r ih =>
    obtain ⟨k', w⟩ := p
    unfold getK at h
    split at h
    · cases h
    · rename_i hne
      unfold putK
      rw [if_neg hne, ih h]; rfl
theorem putK_er {rvs : List (Key × Value)} (hn : (rvs.map (·.1)).Nodup) (k : Key) (v : Value) : (stored rvs k v).map erP = putK (rvs.map erP) k (er v) := by
  unfold stored
  induction rvs with
  | nil => rfl
  | cons p r ih =>
    obtain ⟨k', w⟩ := p
    rw [List.map_cons, List.nodup_cons] at hn
    by_cases h : k' = k
    · subst h
      have e : (r.map fun kv => if kv.1 = k' then (kv.1, v) else kv) = r := map_store_of_not_mem r k' v hn.1
      simp [putK, e]
    · have ih' := ih hn.2
      have e : putK (((k', w) :: r).map erP) k (er v) = (k', er w) :: putK (r.map erP) k (er v) := by
        rw [List.map_cons]
        show (if k' = k then _ else _) = _
        rw [if_neg h]
      rw [e, ← ih']
      by_cases hany : (r.any fun kv => decide (kv.1 = k)) = true
      · rw [if_pos hany, if_pos (by rw [List.any_cons, hany, Bool.or_true])]
        simp [h]
      · have hany' : (r.any fun kv => decide (kv.1 = k)) = false := (Bool.not_eq_true _).mp hany
        rw [if_neg hany, if_neg (by rw [List.any_cons, hany']; simp [h])]
        simp
noncomputable def epK (kvs : List (Key × V)) (k : Key) (ep : Nat) : Nat := if (getK kvs k).isSome then ep else ep + 1
section
variable {c : Cx} {A : Around} {E : Value → Shared → Prop} {s : Shared}
theorem dictAt_of {d : Addr} {ob : Obj} {kvs : List (Key × V)} {ep : Nat} {h : Heap} (ho : h.get? d = some ob) (hI : IsObj c ob (.dict kvs ep)) :
    ∃ rvs, h.DictAt (mix c.prog c.w) d rvs ep ∧ rvs.map erP = kvs := by
  obtain ⟨hx, es, hd, hk, rvs, hp, hn, hm⟩ := hI
  exact ⟨rvs, ⟨ob, es, ho, hx, hd, hk, hp, hn⟩, hm⟩
theorem of_dictAt {d : Addr} {rvs : List (Key × Value)} {ep : Nat} {h : Heap} (x : h.DictAt (mix c.prog c.w) d rvs ep) : ∃ ob, h.get? d = some ob ∧ IsObj c ob (.dict (rvs.map erP) ep) := by
  obtain ⟨ob, es, ho, hx, hd, hk, hp, hn⟩ := x
  exact ⟨ob, ho, hx, es, hd, hk, rvs, hp, hn, rfl⟩
theorem dictSet_at {d : Addr} {rvs : List (Key × Value)} {ep : Nat} {k : Key} {key v : Value} {Q : Unit → Shared → Prop} (hkey : isKey k key = true) (hm : s.heap.DictAt (mix c.prog c.w) d rvs ep)
    (hQ : ∀ h', h'.DictAt (mix c.prog c.w) d (stored rvs k v) (epK (rvs.map erP) k ep) → Heap.SameBut d s.heap h' → Q () { s with heap := h', toks := s.toks + 1 })
    (hsz : rvs.length ≤ sizeLine) : wpAny (model c.prog c.w) A (dictSet d key v) Q E s := by
  obtain ⟨o, es, ho, hc, hd, hk, hp, hn⟩ := hm
  have hes : es.size ≤ sizeLine := by
    have e1 := hp.length
    have e2 : es.toList.length = es.size := by simp
    lia
  have hkey' : (mix c.prog c.w).is k key = true := hkey
  unfold dictSet
  try with_reducible refine wpAny_holding ?_
  refine wpAny_bind ((mix c.prog c.w).pyHash hkey' ?_)
  unfold dictSetHashed
  try with_reducible refine wpAny_holding ?_
  refine wpAny_bind (wpAny_dictFind_of (s := { s with toks := s.toks + 1 }) hkey' ho hd hk ?_)
  have hidx : (es.findIdx? fun e => (mix c.prog c.w).is k e.key) = rvs.findIdx? fun kv => decide (kv.1 = k) := by
    rw [← hp.findIdx k]; obtain ⟨l⟩ := es; simp
  have hget := getK_er rvs k
  cases hi : es.findIdx? fun e => (mix c.prog c.w).is k e.key with
  | some i =>
    have hl : (es.toList.findIdx? fun e => (mix c.prog c.w).is k e.key) = some i := by rw [← hi]; obtain ⟨l⟩ := es; simp
    obtain ⟨e, he, hek, hev⟩ := hp.at hl
    have hep : epK (rvs.map erP) k ep = ep := by unfold epK; rw [hget, hev]; rfl
    rw [hep] at hQ
    refine wpAny_bind (wpAny_rule (wpAny_bind (wpAny_updateDict (s := { s with toks := s.toks + 1 }) ho hd (wpAny_point (hQ _ ⟨_, _, Heap.get?_update_self _ ho (Obj.isFreed_of_dict (Obj.data_mapDict hd _)),
      hc.mapDict _, Obj.data_mapDict hd _, hk.modify _ _, ?_, ?_⟩ (Heap.SameBut.update ..))))))
    · rw [stored, if_pos (any_of_findIdx_some (hidx ▸ hi))]
      have := hp.modify hn hl v
      obtain ⟨l⟩ := es
      simpa using this
    · rw [stored, if_pos (any_of_findIdx_some (hidx ▸ hi)), keys_map_store]; exact hn
  | none =>
    have hnot : k ∉ rvs.map (·.1) := not_mem_of_findIdx_none (hidx ▸ hi)
    have hany : ¬ (rvs.any fun kv => kv.1 = k) = true := by
      rw [List.any_eq_true]; rintro ⟨kv, hkv, he⟩
      exact hnot (List.mem_map.mpr ⟨kv, hkv, of_decide_eq_true he⟩)
    have hv : valueAt rvs k = none := by
      rw [← hp.find k]
      have : (es.toList.find? fun e => (mix c.prog c.w).is k e.key) = none := by
        rw [List.find?_eq_none]
        intro e he
        have := Array.findIdx?_eq_none_iff.mp hi e (Array.mem_toList_iff.mp he)
        simpa using this
      rw [this]; rfl
    have hep : epK (rvs.map erP) k ep = ep + 1 := by unfold epK; rw [hget, hv]; rfl
    rw [hep] at hQ
    refine wpAny_bind (wpAny_rule (wpAny_updateDictKeys (hz := hes) (s := { s with toks := s.toks + 1 }) ho hd (hQ _ ⟨_, _, Heap.get?_update_self _ ho (Obj.isFreed_of_dict (Obj.data_mapDictKeys hd _)),
      hc.mapDictKeys _, Obj.data_mapDictKeys hd _, hk.push hkey' _, ?_, ?_⟩ (Heap.SameBut.update ..))))
    · rw [stored, if_neg hany]
      have := hp.append hkey' ((mix c.prog c.w).hash k) v
      obtain ⟨l⟩ := es
      simpa using this
    · rw [stored, if_neg hany, List.map_append, List.nodup_append]
      refine ⟨hn, by simp, ?_⟩
      intro a ha b hb
      simp only [List.map_cons, List.map_nil, List.mem_singleton] at hb
      subst hb
      exact fun e => hnot (e ▸ ha)
end
section
variable {k : Wk} {m : Loc} {H : AHeap}
theorem St.notMods {c : Cx} {o : Out} {env : Env} {B : BMap} {s : Shared} (st : St c o env B m H s) {d : Addr} {x : AObj} (hd : H d = some x) : (d == sysModules) = false := by
  have h1 := st.disBase d x hd
  have h2 := c.top.g.lt
  have : sysModules < mainGlobals := by decide
  exact beq_eq_false_iff_ne.mpr (Nat.ne_of_gt (Nat.lt_trans this (Nat.lt_of_lt_of_le h2 h1)))
theorem St.dictAt {c : Cx} {o : Out} {env : Env} {B : BMap} {s : Shared} (st : St c o env B m H s) {d : Addr} {kvs : List (Key × V)} {ep : Nat} (hd : H d = some (.dict kvs ep)) :
    ∃ rvs, s.heap.DictAt (mix c.prog c.w) d rvs ep ∧ rvs.map erP = kvs := by
  obtain ⟨ob, ho, hI⟩ := st.own d _ hd
  exact dictAt_of ho hI
theorem St.listAt {c : Cx} {o : Out} {env : Env} {B : BMap} {s : Shared} (st : St c o env B m H s) {l : Addr} {xs : List V} (hl : H l = some (.list xs)) :
    ∃ vs n, IsL s.heap l (vs : List Value).toArray n ∧ vs.map er = xs := by
  obtain ⟨ob, ho, vs, n, rfl, e⟩ := st.own l _ hl
  exact ⟨vs, n, ho, e⟩
theorem St.tupAt {c : Cx} {o : Out} {env : Env} {B : BMap} {s : Shared} (st : St c o env B m H s) {l : Addr} {xs : List V} (hl : H l = some (.tup xs)) :
    ∃ vs n, s.heap.get? l = some { cls := .type "tuple", data := .seq (vs : List Value).toArray n } ∧ vs.map er = xs := by
  obtain ⟨ob, ho, vs, n, rfl, e⟩ := st.own l _ hl
  exact ⟨vs, n, ho, e⟩
/-! dicts: store, look, in -/
theorem WSet_dict {d : Addr} {kvs : List (Key × V)} {ep : Nat} {key : Key} {kv v : V} {Q : Loc → AHeap → Prop} (hd : H d = some (.dict kvs ep)) (hk : isKV key kv = true) (hsz : kvs.length ≤ sizeLine)
    (h : Q m (upd H d (.dict (putK kvs key v) (epK kvs key ep)))) : WSet k (.ref d) kv v m H Q := fun x y z hx hy hz B s st => by
  obtain rfl := er_ref hx
  subst hz
  have hkey : isKey key y = true := by rw [isKey_er, hy]; exact hk
  obtain ⟨rvs, hm, rfl⟩ := st.dictAt hd
  have hT := hm.dictOf.typeIs
  unfold setItem
  try with_reducible refine wpAny_holding ?_
  refine wpAny_bind (wpAny_sequenceKey hT (by decide) ?_)
  refine wpAny_bind (wpAny_callSpecial?_slot (name := Str.ofString "__setitem__") hT slot_dict_setitem
    (wpAny_call_entry slot_dict_setitem hT entry_dict_setitem ?_ (args_dict_setitem _ _ _)))
  show wpAny _ _ (Builtin.Dict.notOrdered "__setitem__" ⟨[.ref d, y, z], []⟩ >>= _) _ _ s
  refine wpAny_bind (wpAny_notOrdered_dict hT ?_)
  show wpAny _ _ (dictSet d y z >>= _) _ _ s
  refine wpAny_bind (dictSet_at hkey hm (fun h' hm' hs' => wpAny_pure ⟨.none, rfl, wpAny_pure ⟨m, _, ?_, h⟩⟩) (by simpa using hsz))
  obtain ⟨ob, h1, h2⟩ := of_dictAt hm'
  refine st.put hd (fun b ob ne e => (hs'.2 b ne).trans e) ⟨ob, h1, ?_⟩ (Nat.le_succ_of_le st.tk)
  rw [← putK_er hm.nodup]; exact h2
theorem mapOf_get {c : Cx} {d : Addr} {rvs : List (Key × Value)} {ep : Nat} {h : Heap} (x : h.DictAt (mix c.prog c.w) d rvs ep) {key : Key} {v : V} (e : getK (rvs.map erP) key = some v) :
    ∃ u, valueAt rvs key = some u ∧ er u = v := by
  rw [getK_er] at e
  cases q : valueAt rvs key with
  | none => rw [q] at e; cases e
  | some u => rw [q] at e; exact ⟨u, rfl, Option.some.inj e⟩
noncomputable def WSub (k : Wk) (value slice : Expr) (o i : V) (m : Loc) (H : AHeap) (Q : V → Loc → AHeap → Prop) : Prop := ∀ x y, er x = o → er y = i → WV k (subscriptTail value slice x y) m H Q
theorem W_Subscript {value slice : Expr} {pos : Pos} {Q : V → Loc → AHeap → Prop} (h : WV k (eval value k.env) m H fun o m1 H1 => WV k (eval slice k.env) m1 H1 fun i m2 H2 => WSub k value slice o i m2 H2 Q) :
    WV k (eval (.Subscript value slice pos) k.env) m H Q := fun B s st =>
  Subscript_ (wpAny_mono (h B s st) (fun o s1 ⟨m1, H1, st1, q1⟩ => wpAny_mono (q1 B s1 st1) (fun i s2 ⟨m2, H2, st2, q2⟩ => q2 o i rfl rfl B s2 st2) fun _ _ x => x) fun _ _ x => x)
theorem WSub_dict {value slice : Expr} {d : Addr} {kvs : List (Key × V)} {ep : Nat} {key : Key} {kv v : V} {Q : V → Loc → AHeap → Prop} (hd : H d = some (.dict kvs ep)) (hk : isKV key kv = true) (hv : getK kvs key = some v) (h : Q v m H)
    (hs : ∀ o i, subscripted slice false o i = operate [o, i] (getItem o i) := by intro _ _; with_unfolding_all rfl) : WSub k value slice (.ref d) kv m H Q := fun x y hx hy => by
  obtain rfl := er_ref hx
  have hkey : isKey key y = true := by rw [isKey_er, hy]; exact hk
  refine W.of_wp fun B s st P hp => ?_
  obtain ⟨rvs, hm, rfl⟩ := st.dictAt hd
  obtain ⟨u, e1, rfl⟩ := mapOf_get hm hv
  exact tail_any hm.dictOf.typeIs slot_dict_getitem.lookup (wpAny_getItem_of (knd := mix k.c.prog k.c.w) hkey hm.dictOf.mapOf e1 (hp _ _ h)) (hs _ _)
theorem WSub_list {value slice : Expr} {l : Addr} {xs : List V} {i : Int} {v : V} {Q : V → Loc → AHeap → Prop} (hl : H l = some (.list xs)) (h0 : 0 ≤ i) (h1 : i < 2 ^ 63) (hv : xs[i.toNat]? = some v) (h : Q v m H)
    (hs : ∀ o i, subscripted slice false o i = operate [o, i] (getItem o i) := by intro _ _; with_unfolding_all rfl) : WSub k value slice (.ref l) (.int i) m H Q := fun x y hx hy => by
  obtain rfl := er_ref hx
  obtain ⟨t, rfl⟩ := er_int hy
  refine W.of_wp fun B s st P hp => ?_
  obtain ⟨vs, n, hl', rfl⟩ := st.listAt hl
  rw [List.getElem?_map, Option.map_eq_some_iff] at hv
  obtain ⟨u, e1, rfl⟩ := hv
  exact tail_any hl'.isList.typeIs slot_list_getitem.lookup (wpAny_getItem_list hl'.isList h0 h1 (by simpa using e1) (hp _ s.toks h)) (hs _ _)
theorem WSub_listNeg {value slice : Expr} {l : Addr} {xs : List V} {i : Int} {v : V} {Q : V → Loc → AHeap → Prop} (hl : H l = some (.list xs)) (h0 : i < 0) (h1 : -(2 ^ 63) ≤ i) (h2 : -(xs.length : Int) ≤ i) (hv : xs[(i + xs.length).toNat]? = some v) (h : Q v m H)
    (hs : ∀ o i, subscripted slice false o i = operate [o, i] (getItem o i) := by intro _ _; with_unfolding_all rfl) : WSub k value slice (.ref l) (.int i) m H Q := fun x y hx hy => by
  obtain rfl := er_ref hx
  obtain ⟨t, rfl⟩ := er_int hy
  refine W.of_wp fun B s st P hp => ?_
  obtain ⟨vs, n, hl', rfl⟩ := st.listAt hl
  rw [List.getElem?_map, Option.map_eq_some_iff] at hv
  obtain ⟨u, e1, rfl⟩ := hv
  rw [List.length_map] at h2 e1
  exact tail_any hl'.isList.typeIs slot_list_getitem.lookup (wpAny_getItem_list_neg hl'.isList h0 (by simpa using h2) h1 (by simpa using e1) (hp _ s.toks h)) (hs _ _)
theorem WSub_tup {value slice : Expr} {l : Addr} {xs : List V} {i : Int} {j : Nat} {v : V} {Q : V → Loc → AHeap → Prop} (hl : H l = some (.tup xs)) (h0 : -(2 ^ 63) ≤ i) (h1 : i < 2 ^ 63) (hj : seqIndex? i xs.length = some j) (hv : xs[j]? = some v) (h : Q v m H)
    (hs : ∀ o i, subscripted slice false o i = operate [o, i] (getItem o i) := by intro _ _; with_unfolding_all rfl) : WSub k value slice (.ref l) (.int i) m H Q := fun x y hx hy => by
  obtain rfl := er_ref hx
  obtain ⟨t, rfl⟩ := er_int hy
  refine W.of_wp fun B s st P hp => ?_
  obtain ⟨vs, n, hl', rfl⟩ := st.tupAt hl
  rw [List.getElem?_map, Option.map_eq_some_iff] at hv
  obtain ⟨u, e1, rfl⟩ := hv
  rw [List.length_map] at hj
  exact item_tupleT (l := vs) ⟨_, hl', rfl, n, rfl⟩ h0 h1 hj e1 (hp _ s.toks h) (hs _ _)
theorem WCmp_inDict {d : Addr} {kvs : List (Key × V)} {ep : Nat} {key : Key} {kv : V} {Q : V → Loc → AHeap → Prop} (hd : H d = some (.dict kvs ep)) (hk : isKV key kv = true) (h : Q (.bool (getK kvs key).isSome) m H) : WCmp k .In kv (.ref d) m H Q := fun x y hx hy => by
  obtain rfl := er_ref hy
  have hkey : isKey key x = true := by rw [isKey_er, hx]; exact hk
  refine W.of_wp fun B s st P hp => ?_
  obtain ⟨rvs, hm, rfl⟩ := st.dictAt hd
  have e : (valueAt rvs key).isSome = (getK (rvs.map erP) key).isSome := by rw [getK_er]; cases valueAt rvs key <;> rfl
  exact wpAny_in_of (knd := mix k.c.prog k.c.w) hkey (st.notMods hd) hm.dictOf.mapOf (e ▸ hp _ _ h)
theorem WCmp_notInDict {d : Addr} {kvs : List (Key × V)} {ep : Nat} {key : Key} {kv : V} {Q : V → Loc → AHeap → Prop} (hd : H d = some (.dict kvs ep)) (hk : isKV key kv = true) (h : Q (.bool (!(getK kvs key).isSome)) m H) : WCmp k .NotIn kv (.ref d) m H Q := fun x y hx hy => by
  obtain rfl := er_ref hy
  have hkey : isKey key x = true := by rw [isKey_er, hx]; exact hk
  refine W.of_wp fun B s st P hp => ?_
  obtain ⟨rvs, hm, rfl⟩ := st.dictAt hd
  have e : (!(valueAt rvs key).isSome) = !(getK (rvs.map erP) key).isSome := by rw [getK_er]; cases valueAt rvs key <;> rfl
  exact wpAny_notIn_of (knd := mix k.c.prog k.c.w) hkey (st.notMods hd) hm.dictOf.mapOf (e ▸ hp _ _ h)
/-! calls of built-ins -/
noncomputable def WCall (k : Wk) (f : Value) (args : List V) (m : Loc) (H : AHeap) (Q : V → Loc → AHeap → Prop) : Prop := ∀ vs, vs.map er = args → WV k (call f vs) m H Q
theorem evalArgs_of {f : Value} {es : List Expr} {pos : Pos} {Q : List V → Loc → AHeap → Prop} (hp : (starEach es k.env).any (·.1) = false) (h : WItems k es m H Q) :
    W k (evalArgs f true (backTo pos (starEach es k.env)) []) m H fun a m1 H1 => a.kw = [] ∧ Q (a.pos.map er) m1 H1 := fun B s st => by
  have h' := h pos B s st
  cases hs : starEach es k.env with
  | nil =>
    rw [hs] at h'
    have h'' : wpAny (model k.c.prog k.c.w) k.A (spliced []) (fun v s' => ∃ m' H', St k.c k.o k.env B m' H' s' ∧ Q (v.map er) m' H') k.E s := h'
    show wpAny _ _ (evalArgs f true [] []) _ _ s
    unfold evalArgs
    show wpAny _ _ (spliced [] >>= _) _ _ s
    refine wpAny_bind (wpAny_mono h'' (fun vs s1 ⟨m1, H1, st1, q⟩ => ?_) fun _ _ x => x)
    refine wpAny_bind (wpAny_pure (wpAny_holding ?_))
    exact wpAny_bind (wpAny_pure (wpAny_bind (wpAny_pure (wpAny_pure ⟨m1, H1, st1, rfl, q⟩))))
  | cons x r =>
    obtain ⟨b, t⟩ := x
    rw [hs] at h' hp
    have hb : b = false := by simp at hp; exact hp.1
    subst hb
    exact Calls.evalArgs_plain (wpAny_mono h' (fun vs s1 ⟨m1, H1, st1, q⟩ => ⟨m1, H1, st1, rfl, q⟩) fun _ _ x => x)
end
end Mine
namespace Mine
section
variable {k : Wk} {m : Loc} {H : AHeap}
/-! calls by a global name -/
theorem W_CallB {x : Str} {i : String} {p pos : Pos} {args : List Expr} {Q : V → Loc → AHeap → Prop} (hg : Gl k.c x (.builtin i)) (hx : k.env.kindOf x = some .globalImplicit)
    (h : WItems k args m H fun vs m1 H1 => WCall k (.builtin i) vs m1 H1 Q)
    (hp : (starEach args k.env).any (·.1) = false := by rfl) (hp' : (backTo pos (starEach args k.env)).any (·.1) = false := by rfl)
    (hd : (x == ("__debug__" : Str)) = false := by decide) : WV k (eval (.Call (.Name x p) args [] pos) k.env) m H Q := fun B s st =>
  wpAny_Call_NameR (wpAny_mono (W_NameG (Q := fun v m' H' => v = .bi i ∧ m' = m ∧ H' = H) hg hx ⟨rfl, rfl, rfl⟩ hd B s st) (fun f s1 hx1 => by
    refine Mine.hideG fun GG back => ?_
    obtain ⟨m1, H1, st1, e1, e2, e3⟩ := hx1
    refine back ?_
    clear back
    subst e2; subst e3
    obtain rfl := er_bi e1
    exact Calls.callWith_builtin hp' (wpAny_mono (evalArgs_of (f := .builtin i) (pos := pos) hp h B s1 st1) (fun a s2 ⟨m2, H2, st2, e, q⟩ => by
      rw [e]; exact q _ rfl B s2 st2) fun _ _ x => x)) fun _ _ x => x)
theorem W_CallT {x : Str} {T : String} {p pos : Pos} {args : List Expr} {Q : V → Loc → AHeap → Prop} (hg : Gl k.c x (.type T)) (hx : k.env.kindOf x = some .globalImplicit)
    (h : WItems k args m H fun vs m1 H1 => WCall k (.type T) vs m1 H1 Q)
    (hp : (starEach args k.env).any (·.1) = false := by rfl) (hp' : (backTo pos (starEach args k.env)).any (·.1) = false := by rfl)
    (hd : (x == ("__debug__" : Str)) = false := by decide) : WV k (eval (.Call (.Name x p) args [] pos) k.env) m H Q := fun B s st =>
  wpAny_Call_NameR (wpAny_mono (W_NameG (Q := fun v m' H' => v = .ty T ∧ m' = m ∧ H' = H) hg hx ⟨rfl, rfl, rfl⟩ hd B s st) (fun f s1 hx1 => by
    refine Mine.hideG fun GG back => ?_
    obtain ⟨m1, H1, st1, e1, e2, e3⟩ := hx1
    refine back ?_
    clear back
    subst e2; subst e3
    obtain rfl := er_ty e1
    exact PySem.callWith_type hp' (wpAny_mono (evalArgs_of (f := .type T) (pos := pos) hp h B s1 st1) (fun a s2 ⟨m2, H2, st2, e, q⟩ => by
      rw [e]; exact q _ rfl B s2 st2) fun _ _ x => x)) fun _ _ x => x)
noncomputable def FnV (c : Cx) (A : Around) (f : Addr) (vs : List V) (kw : List (Str × V)) (H : AHeap) (Q : V → AHeap → Prop) (X : String → Option (List V) → AHeap → Prop) : Prop :=
  ∀ rvs rkw, (rvs : List Value).map er = vs → (rkw : List (Str × Value)).map (fun p => (p.1, er p.2)) = kw → Fn c A (.ref f) ⟨rvs, rkw⟩ H Q X
theorem FnV.mono {c : Cx} {A : Around} {f : Addr} {vs : List V} {kw : List (Str × V)} {H : AHeap} {Q Q' : V → AHeap → Prop} {X X' : String → Option (List V) → AHeap → Prop} (h : FnV c A f vs kw H Q X) (hQ : ∀ v H, Q v H → Q' v H) (hX : ∀ a b H, X a b H → X' a b H) : FnV c A f vs kw H Q' X' :=
  fun rvs rkw h1 h2 => (h rvs rkw h1 h2).mono hQ hX
theorem W_callF {f : Addr} {rvs : List Value} {rkw : List (Str × Value)} {Q : V → Loc → AHeap → Prop} (h : Fn k.c k.A (.ref f) ⟨rvs, rkw⟩ H (fun v H' => Q v m H') fun a b H' => k.X a b m H') : WV k (call (.ref f) rvs rkw) m H Q := fun B s st =>
  wpAny_call (codeAny_mono (h k.o k.env B m s k.kind k.frames st) fun r s' q => by
    split at q
    · obtain ⟨H', st', q⟩ := q; exact ⟨m, H', st', q⟩
    · obtain ⟨H', a, cls, xs, rfl, st', i, q⟩ := q; exact k.fly _ _ _ _ _ _ _ st' i q
    · exact q.elim)
theorem W_CallF {x : Str} {f : Addr} {fo : Obj} {fd : FuncData} {p pos : Pos} {args : List Expr} {Q : V → Loc → AHeap → Prop} (hg : Gl k.c x (.ref f)) (hx : k.env.kindOf x = some .globalImplicit)
    (ho : k.c.base.get? f = some fo) (hd' : fo.data = .func fd)
    (h : WItems k args m H fun vs m1 H1 => FnV k.c k.A f vs [] H1 (fun v H' => Q v m1 H') fun a b H' => k.X a b m1 H')
    (hp : (starEach args k.env).any (·.1) = false := by rfl)
    (hd : (x == ("__debug__" : Str)) = false := by decide) : WV k (eval (.Call (.Name x p) args [] pos) k.env) m H Q := fun B s st =>
  wpAny_Call_NameR (wpAny_mono (W_NameG (Q := fun v m' H' => v = .ref f ∧ m' = m ∧ H' = H) hg hx ⟨rfl, rfl, rfl⟩ hd B s st) (fun g s1 hx1 => by
    refine Mine.hideG fun GG back => ?_
    obtain ⟨m1, H1, st1, e1, e2, e3⟩ := hx1
    refine back ?_
    clear back
    subst e2; subst e3
    obtain rfl := er_ref e1
    exact Calls.callWith_function (o := fo) (fd := fd) (wpAny_mono (evalArgs_of (f := .ref f) (pos := pos) hp h B s1 st1) (fun a s2 ⟨m2, H2, st2, e, q⟩ => by
      rw [e]; exact ⟨⟨st2.base f fo ho, hd'⟩, W_callF (q _ [] rfl rfl) B s2 st2⟩) fun _ _ x => x)) fun _ _ x => x)
/-! methods of built-in types -/
theorem W_CallM {o : Expr} {name : Str} {apos pos : Pos} {args : List Expr} {T id : String} {Q : V → Loc → AHeap → Prop}
    (pa : PlainAttrs T) (slot : Slot T name id) (hty : typeOf (.builtin id) = pure (.type "method_descriptor"))
    (h : WV k (eval o k.env) m H fun ov m1 H1 => ∃ a y, ov = .ref a ∧ H1 a = some y ∧ (∀ ob, IsObj k.c ob y → ob.cls = .type T ∧ ob.dict = none) ∧ WItems k args m1 H1 fun vs m2 H2 => WCall k (.builtin id) (ov :: vs) m2 H2 Q)
    (hbase : attributeBase o name k.env (eval o k.env) = eval o k.env := by rfl)
    (hfew : ((backTo pos (starEach args k.env)).all (fun x => !x.1) && (backToKw pos (keywordEach [] k.env)).all (fun x => x.1.isSome)
      && decide (args.length + ([] : List Keyword).length + (if ([] : List Keyword).isEmpty then 0 else 1) < 30)) = true := by rfl)
    (hline : (apos.endLine == pos.line) = true := by rfl) (hp : (starEach args k.env).any (·.1) = false := by rfl) (hp' : (backTo pos (starEach args k.env)).any (·.1) = false := by rfl) :
    WV k (eval (.Call (.Attribute o name apos) args [] pos) k.env) m H Q := fun B s st =>
  PySem.wpAny_Call_method hbase hfew hline pa slot hty (wpAny_mono (h B s st) (fun ov s1 hx1 => by
    refine Mine.hideG fun GG back => ?_
    obtain ⟨m1, H1, st1, a, y, e, hy, hT, q⟩ := hx1
    refine back ?_
    clear back
    obtain rfl := er_ref e
    refine Mine.hideG fun GG back => ?_
    obtain ⟨ob, ho, hI⟩ := st1.own a y hy
    obtain ⟨t1, t2⟩ := hT ob hI
    refine back ?_
    clear back
    refine ⟨⟨ob, ho, t1⟩, fun b eb => by cases eb; exact ⟨ob, ho, t2⟩, ?_⟩
    refine Calls.callWith_builtin hp' (wpAny_mono (evalArgs_of (f := .builtin id) (pos := pos) hp q B s1 st1) (fun a s2 ⟨m2, H2, st2, e, q⟩ => ?_) fun _ _ x => x)
    rw [e]; exact q _ rfl B s2 st2) fun _ _ x => x)
theorem isList_cls {c : Cx} {xs : List V} : ∀ ob, IsObj c ob (.list xs) → ob.cls = .type "list" ∧ ob.dict = none := fun ob ⟨vs, n, e, _⟩ => by rw [e]; exact ⟨rfl, rfl⟩
theorem isTup_cls {c : Cx} {xs : List V} : ∀ ob, IsObj c ob (.tup xs) → ob.cls = .type "tuple" ∧ ob.dict = none := fun ob ⟨vs, n, e, _⟩ => by rw [e]; exact ⟨rfl, rfl⟩
theorem isDict_cls {c : Cx} {kvs : List (Key × V)} {ep : Nat} : ∀ ob, IsObj c ob (.dict kvs ep) → ob.cls = .type "dict" ∧ ob.dict = none := fun ob h => ⟨h.1.1, h.1.2.1⟩
end
end Mine
namespace Mine
theorem sub_ll : isSubtype (.type "list") (.type "list") = pure true := by rw [isSubtype_type]; kernel_rfl
theorem sub_ld : isSubtype (.type "list") (.type "dict") = pure false := by rw [isSubtype_type]; kernel_rfl
theorem sub_ls : isSubtype (.type "list") (.type "str") = pure false := by rw [isSubtype_type]; kernel_rfl
theorem sub_dl : isSubtype (.type "dict") (.type "list") = pure false := by rw [isSubtype_type]; kernel_rfl
theorem sub_dd : isSubtype (.type "dict") (.type "dict") = pure true := by rw [isSubtype_type]; kernel_rfl
theorem sub_ds : isSubtype (.type "dict") (.type "str") = pure false := by rw [isSubtype_type]; kernel_rfl
theorem sub_tl : isSubtype (.type "tuple") (.type "list") = pure false := by rw [isSubtype_type]; kernel_rfl
theorem sub_td : isSubtype (.type "tuple") (.type "dict") = pure false := by rw [isSubtype_type]; kernel_rfl
theorem sub_ts : isSubtype (.type "tuple") (.type "str") = pure false := by rw [isSubtype_type]; kernel_rfl
theorem sub_sl : isSubtype (.type "str") (.type "list") = pure false := by rw [isSubtype_type]; kernel_rfl
theorem sub_sd : isSubtype (.type "str") (.type "dict") = pure false := by rw [isSubtype_type]; kernel_rfl
theorem sub_ss : isSubtype (.type "str") (.type "str") = pure true := by rw [isSubtype_type]; kernel_rfl
theorem sub_il : isSubtype (.type "int") (.type "list") = pure false := by rw [isSubtype_type]; kernel_rfl
theorem sub_id : isSubtype (.type "int") (.type "dict") = pure false := by rw [isSubtype_type]; kernel_rfl
theorem sub_is : isSubtype (.type "int") (.type "str") = pure false := by rw [isSubtype_type]; kernel_rfl
theorem mt_l : typeOf (.type "list") = pure (.type "type") := by kernel_rfl
theorem mt_d : typeOf (.type "dict") = pure (.type "type") := by kernel_rfl
theorem mt_s : typeOf (.type "str") = pure (.type "type") := by kernel_rfl
theorem map_er1 {vs : List Value} {a : V} (e : vs.map er = [a]) : ∃ x, vs = [x] ∧ er x = a := by
  rcases vs with _ | ⟨x, _ | ⟨y, r⟩⟩ <;> simp at e
  exact ⟨x, rfl, e⟩
theorem map_er2 {vs : List Value} {a b : V} (e : vs.map er = [a, b]) : ∃ x y, vs = [x, y] ∧ er x = a ∧ er y = b := by
  rcases vs with _ | ⟨x, _ | ⟨y, _ | ⟨z, r⟩⟩⟩ <;> simp at e
  exact ⟨x, y, rfl, e⟩
theorem map_er3 {vs : List Value} {a b c : V} (e : vs.map er = [a, b, c]) : ∃ x y z, vs = [x, y, z] ∧ er x = a ∧ er y = b ∧ er z = c := by
  rcases vs with _ | ⟨x, _ | ⟨y, _ | ⟨z, _ | ⟨u, r⟩⟩⟩⟩ <;> simp at e
  exact ⟨x, y, z, rfl, e⟩
noncomputable def tyOf (H : AHeap) : V → Option String
  | .int _ => some "int"
  | .str _ _ => some "str"
  | .ref a => match H a with
    | some (.list _) => some "list"
    | some (.tup _) => some "tuple"
    | some (.dict _ _) => some "dict"
    | _ => none
  | _ => none
section
variable {k : Wk} {m : Loc} {H : AHeap}
theorem St.typeIs {c : Cx} {o : Out} {env : Env} {B : BMap} {s : Shared} (st : St c o env B m H s) {v : Value} {T : String} (h : tyOf H (er v) = some T) : s.TypeIs v T := by
  cases v with
  | int i t => simp [er, tyOf] at h; subst h; exact typeIs_int s i t
  | str x t => simp [er, tyOf] at h; subst h; rfl
  | ref a =>
    simp only [er, tyOf] at h
    split at h
    · rename_i xs e
      cases h
      obtain ⟨ob, ho, hI⟩ := st.own a _ e
      exact ⟨ob, ho, (isList_cls ob hI).1⟩
    · rename_i xs e
      cases h
      obtain ⟨ob, ho, hI⟩ := st.own a _ e
      exact ⟨ob, ho, (isTup_cls ob hI).1⟩
    · rename_i xs ep e
      cases h
      obtain ⟨ob, ho, hI⟩ := st.own a _ e
      exact ⟨ob, ho, (isDict_cls ob hI).1⟩
    · cases h
  | _ => simp [er, tyOf] at h
theorem WCall_isinst {v : V} {Tx T : String} {Q : V → Loc → AHeap → Prop} (hv : tyOf H v = some Tx) (hTx : Tx ∈ ["int", "str", "list", "tuple", "dict"]) (hT : T ∈ ["list", "dict", "str"]) (h : Q (.bool (decide (Tx = T))) m H) :
    WCall k (.builtin "isinstance") [v, .ty T] m H Q := fun vs e => by
  obtain ⟨x, y, rfl, rfl, e2⟩ := map_er2 e
  obtain rfl := er_ty e2
  refine W.of_wp fun B s st P hp => ?_
  have hty := st.typeIs hv
  have mt : typeOf (.type T) = pure (.type "type") := by
    simp only [List.mem_cons, List.mem_nil_iff, or_false] at hT
    rcases hT with rfl | rfl | rfl
    · exact mt_l
    · exact mt_d
    · exact mt_s
  have sub : isSubtype (.type Tx) (.type T) = pure (decide (Tx = T)) := by
    simp only [List.mem_cons, List.mem_nil_iff, or_false] at hT hTx
    rcases hTx with rfl | rfl | rfl | rfl | rfl <;> rcases hT with rfl | rfl | rfl
    · exact sub_il
    · exact sub_id
    · exact sub_is
    · exact sub_sl
    · exact sub_sd
    · exact sub_ss
    · exact sub_ll
    · exact sub_ld
    · exact sub_ls
    · exact sub_tl
    · exact sub_td
    · exact sub_ts
    · exact sub_dl
    · exact sub_dd
    · exact sub_ds
  by_cases hTT : Tx = T
  · have e : decide (Tx = T) = true := by simp [hTT]
    rw [e] at sub h
    exact call_isinstance (isinstance_true (Tx := Tx) mt sub) ⟨hty, hp _ s.toks h⟩
  · have e : decide (Tx = T) = false := by simp [hTT]
    rw [e] at sub h
    have hne : (Value.type Tx == Value.type T) = false := by simp [hTT]
    simp only [List.mem_cons, List.mem_nil_iff, or_false] at hTx
    rcases hTx with rfl | rfl | rfl | rfl | rfl
    · obtain ⟨t, i, rfl⟩ : ∃ t i, x = .int i t := by
        cases x with
        | int i t => exact ⟨t, i, rfl⟩
        | ref a => simp only [er, tyOf] at hv; split at hv <;> simp at hv
        | _ => simp [er, tyOf] at hv
      exact call_isinstance (isinstance_false_int hne mt sub) (hp _ _ h)
    · obtain ⟨t, i, rfl⟩ : ∃ t i, x = .str i t := by
        cases x with
        | str i t => exact ⟨t, i, rfl⟩
        | ref a => simp only [er, tyOf] at hv; split at hv <;> simp at hv
        | _ => simp [er, tyOf] at hv
      exact call_isinstance (isinstance_false_str hne mt sub) (hp _ _ h)
    · obtain ⟨a, rfl⟩ : ∃ a, x = .ref a := by cases x <;> simp [er, tyOf] at hv ⊢
      exact call_isinstance (isinstance_false_list hne mt sub) ⟨hty, hp _ _ h⟩
    · obtain ⟨a, rfl⟩ : ∃ a, x = .ref a := by cases x <;> simp [er, tyOf] at hv ⊢
      exact call_isinstance (isinstance_false_tuple hne mt sub) ⟨hty, hp _ _ h⟩
    · obtain ⟨a, rfl⟩ : ∃ a, x = .ref a := by cases x <;> simp [er, tyOf] at hv ⊢
      exact call_isinstance (isinstance_false_dict hne mt sub) ⟨hty, hp _ _ h⟩
theorem W.of_new {t : Sem Value} {R : AObj → Prop} {Q : V → Loc → AHeap → Prop}
    (h : ∀ B s, St k.c k.o k.env B m H s → ∀ P : Value → Shared → Prop, (∀ a h' tk y, R y → s.heap.objs.size ≤ a → (∀ b ob, s.heap.get? b = some ob → h'.get? b = some ob) → (∃ ob, h'.get? a = some ob ∧ IsObj k.c ob y) → P (.ref a) { s with heap := h', toks := tk }) →
      wpAny (model k.c.prog k.c.w) k.A t P k.E s)
    (hQ : ∀ a y, R y → H a = none → Q (.ref a) m (upd H a y)) : WV k t m H Q := fun B s st =>
  wpAny_mono (wpAny_toks_of st.tk (h B s st (fun v s' => ∃ a h' tk y, v = .ref a ∧ R y ∧ s.heap.objs.size ≤ a ∧ (∀ b ob, s.heap.get? b = some ob → h'.get? b = some ob) ∧ (∃ ob, h'.get? a = some ob ∧ IsObj k.c ob y) ∧ s' = { s with heap := h', toks := tk })
    fun a h' tk y h1 h2 h3 h4 => ⟨a, h', tk, y, rfl, h1, h2, h3, h4, rfl⟩)) (fun v s' q => by
      obtain ⟨ht, a, h', tk, y, rfl, h1, h2, h3, h4, rfl⟩ := q
      exact ⟨m, _, st.new h2 h3 h4 ht, hQ a y h1 (st.fresh (st.none_at h2)).1⟩) fun _ _ x => x.2
theorem WCall_lenL {a : Addr} {xs : List V} {Q : V → Loc → AHeap → Prop} (ha : H a = some (.list xs)) (hz : xs.length < 2 ^ 63) (h : Q (.int xs.length) m H) : WCall k (.builtin "len") [.ref a] m H Q := fun vs e => by
  obtain ⟨x, rfl, e'⟩ := map_er1 e
  obtain rfl := er_ref e'
  refine W.of_wp fun B s st P hp => ?_
  obtain ⟨vs, n, hl, rfl⟩ := st.listAt ha
  rw [List.length_map] at h hz
  exact call_len_list hl.isList (by simp; lia) (by simpa using hp (.int vs.length (s.toks + 1)) (s.toks + 2) h)
theorem WCall_lenT {a : Addr} {xs : List V} {Q : V → Loc → AHeap → Prop} (ha : H a = some (.tup xs)) (hz : xs.length < 2 ^ 63) (h : Q (.int xs.length) m H) : WCall k (.builtin "len") [.ref a] m H Q := fun vs e => by
  obtain ⟨x, rfl, e'⟩ := map_er1 e
  obtain rfl := er_ref e'
  refine W.of_wp fun B s st P hp => ?_
  obtain ⟨vs, n, hl, rfl⟩ := st.tupAt ha
  rw [List.length_map] at h hz
  exact len_tuple (items := (vs : List Value).toArray) ⟨_, hl, rfl, n, rfl⟩ (by simp; lia) (by simpa using hp (.int vs.length (s.toks + 1)) (s.toks + 2) h)
theorem WCall_range1 {n : Int} {Q : V → Loc → AHeap → Prop} (h : ∀ a, H a = none → Q (.ref a) m (upd H a (.range 0 n 1))) : WCall k (.type "range") [.int n] m H Q := fun vs e => by
  obtain ⟨x, rfl, e'⟩ := map_er1 e
  obtain ⟨t, rfl⟩ := er_int e'
  refine W.of_new (R := fun y => y = .range 0 n 1) (fun B s st P hp => ?_) (fun a y hy hn => hy ▸ h a hn)
  exact call_range_1 (hp _ _ _ _ rfl (Nat.le_refl _) (fun b ob e => Heap.get?_push_of_some _ e) ⟨_, Heap.get?_push_size _ rfl, _, _, _, rfl⟩)
theorem WCall_range3 {l n d : Int} {Q : V → Loc → AHeap → Prop} (hd : d ≠ 0) (hp : Builtin.divisionGoesByPylong (n - l) d = false) (h : ∀ a, H a = none → Q (.ref a) m (upd H a (.range l n d))) : WCall k (.type "range") [.int l, .int n, .int d] m H Q := fun vs e => by
  obtain ⟨x, y, z, rfl, e1, e2, e3⟩ := map_er3 e
  obtain ⟨t, rfl⟩ := er_int e1; obtain ⟨u, rfl⟩ := er_int e2; obtain ⟨v, rfl⟩ := er_int e3
  refine W.of_new (R := fun y => y = .range l n d) (fun B s st P hp => ?_) (fun a y hy hn => hy ▸ h a hn)
  exact call_range_3 hd (hp _ _ _ _ rfl (Nat.le_refl _) (fun b ob e => Heap.get?_push_of_some _ e) ⟨_, Heap.get?_push_size _ rfl, _, _, _, rfl⟩) (.inl ‹_›)
theorem WCall_divmod {a b : Int} {Q : V → Loc → AHeap → Prop} (hr : Roomy k) (hb : b ≠ 0) (h : ∀ p, H p = none → Q (.ref p) m (upd H p (.tup [.int (a.fdiv b), .int (a.fmod b)]))) : WCall k (.builtin "divmod") [.int a, .int b] m H Q := fun vs e => by
  obtain ⟨x, y, rfl, e1, e2⟩ := map_er2 e
  obtain ⟨t, rfl⟩ := er_int e1; obtain ⟨u, rfl⟩ := er_int e2
  refine W.of_new (R := fun y => y = .tup [.int (a.fdiv b), .int (a.fmod b)]) (fun B s st P hp => ?_) (fun a y hy hn => hy ▸ h a hn)
  exact divmod_int hb (hp _ _ _ _ rfl (Nat.le_refl _) (fun b ob e => Heap.get?_push_of_some _ e) ⟨_, Heap.get?_push_size _ rfl, [.int (a.fdiv b) s.toks, .int (a.fmod b) (s.toks + 1)], 0, rfl, rfl⟩) (.inr (pylong_of hr st))
theorem WCall_listL {a : Addr} {xs : List V} {Q : V → Loc → AHeap → Prop} (ha : H a = some (.list xs) ∨ H a = some (.tup xs)) (hz : xs.length ≤ sizeLine) (h : ∀ p, H p = none → Q (.ref p) m (upd H p (.list xs))) : WCall k (.type "list") [.ref a] m H Q := fun vs e => by
  obtain ⟨x, rfl, e'⟩ := map_er1 e
  obtain rfl := er_ref e'
  refine W.of_new (R := fun y => y = .list xs) (fun B s st P hp => ?_) (fun a y hy hn => hy ▸ h a hn)
  rcases ha with ha | ha
  · obtain ⟨vs, n, hl, rfl⟩ := st.listAt ha
    exact call_list_seq a (T := "list") (.inl rfl) hl rfl rfl (fun h' c' hk hD => hp _ _ s.toks _ rfl (Nat.le_refl _) hk ⟨_, hD, vs, c', rfl, rfl⟩) (by simpa using hz)
  · obtain ⟨vs, n, hl, rfl⟩ := st.tupAt ha
    exact call_list_seq a (T := "tuple") (.inr rfl) hl rfl rfl (fun h' c' hk hD => hp _ _ s.toks _ rfl (Nat.le_refl _) hk ⟨_, hD, vs, c', rfl, rfl⟩) (by simpa using hz)
end
end Mine
namespace Mine
noncomputable def Ext (H H' : AHeap) : Prop := ∀ a x, H a = some x → H' a = some x
theorem Ext.refl (H : AHeap) : Ext H H := fun _ _ e => e
theorem Ext.trans {H H' H'' : AHeap} (h : Ext H H') (h' : Ext H' H'') : Ext H H'' := fun a x e => h' a x (h a x e)
theorem Ext.upd {H : AHeap} {a : Addr} {x : AObj} (h : H a = none) : Ext H (upd H a x) := fun b y e => upd_fresh h e
section
variable {k : Wk} {m : Loc} {H : AHeap}
theorem St.list_of_update {c : Cx} {o : Out} {env : Env} {B : BMap} {s : Shared} (st : St c o env B m H s) {l : Addr} {vs : List Value} {n : Nat} (hl : IsL s.heap l vs.toArray n) {x : AObj} (hx : H l = some x) (f : Array Value → Array Value) (ys : List Value) (hf : f vs.toArray = ys.toArray) :
    St c o env B m (upd H l (.list (ys.map er))) { s with heap := s.heap.update l (Obj.mapSeq f) } := by
  have h1 := hl.update f
  rw [hf] at h1
  exact st.put (tk := s.toks) hx (fun b ob ne e => (Heap.get?_update_other _ _ (Ne.symm ne)).trans e) ⟨_, h1, ys, _, rfl, rfl⟩ st.tk
/-! list methods -/
theorem WCall_append {l : Addr} {xs : List V} {v : V} {Q : V → Loc → AHeap → Prop} (hl : H l = some (.list xs)) (hz : xs.length ≤ sizeLine) (h : Q .none m (upd H l (.list (xs ++ [v])))) : WCall k (.builtin "list.append") [.ref l, v] m H Q := fun vs e B s st => by
  refine Mine.hideG fun GG back => ?_
  obtain ⟨x, y, rfl, e1, rfl⟩ := map_er2 e
  refine back ?_
  clear back
  obtain rfl := er_ref e1
  refine Mine.hideG fun GG back => ?_
  obtain ⟨vs, n, hl', rfl⟩ := st.listAt hl
  refine back ?_
  clear back
  have st' := st.list_of_update hl' hl (fun x_1 => x_1.push y) (vs ++ [y]) (by simp)
  rw [List.map_append] at st'
  exact call_meets F.slot_list_append hl'.isList.typeIs F.entry_list_append (F.args_list_append_2 _ _) (list_append l vs.toArray n y (by simpa using hz)) ⟨hl', m, _, st', h⟩
/-! dict methods -/
theorem WCall_get {d : Addr} {kvs : List (Key × V)} {ep : Nat} {key : Key} {kv : V} {Q : V → Loc → AHeap → Prop} (hd : H d = some (.dict kvs ep)) (hk : isKV key kv = true) (h : Q ((getK kvs key).getD .none) m H) : WCall k (.builtin "dict.get") [.ref d, kv] m H Q := fun vs e => by
  refine Mine.hideG fun GG back => ?_
  obtain ⟨x, y, rfl, e1, e2⟩ := map_er2 e
  refine back ?_
  clear back
  obtain rfl := er_ref e1
  refine W.of_wp fun B s st P hp => ?_
  refine Mine.hideG fun GG back => ?_
  obtain ⟨rvs, hm, rfl⟩ := st.dictAt hd
  refine back ?_
  clear back
  have hkey : (mix k.c.prog k.c.w).is key y = true := by show isKey key y = true; rw [isKey_er, e2]; exact hk
  refine call_meetsIn F.slot_dict_get hm.dictOf.typeIs F.entry_dict_get (F.args_dict_get_2 _ _) (meets_dict_get (mix k.c.prog k.c.w) d hkey (st.notMods hd)) ⟨_, hm.dictOf.mapOf, hp _ _ ?_⟩
  rw [getK_er] at h
  cases hv : valueAt rvs key with
  | none => rw [hv] at h; exact h
  | some v => rw [hv] at h; exact h
theorem WCall_getD {d : Addr} {kvs : List (Key × V)} {ep : Nat} {key : Key} {kv w : V} {Q : V → Loc → AHeap → Prop} (hd : H d = some (.dict kvs ep)) (hk : isKV key kv = true) (h : Q ((getK kvs key).getD w) m H) : WCall k (.builtin "dict.get") [.ref d, kv, w] m H Q := fun vs e => by
  refine Mine.hideG fun GG back => ?_
  obtain ⟨x, y, z, rfl, e1, e2, rfl⟩ := map_er3 e
  refine back ?_
  clear back
  obtain rfl := er_ref e1
  refine W.of_wp fun B s st P hp => ?_
  refine Mine.hideG fun GG back => ?_
  obtain ⟨rvs, hm, rfl⟩ := st.dictAt hd
  refine back ?_
  clear back
  have hkey : (mix k.c.prog k.c.w).is key y = true := by show isKey key y = true; rw [isKey_er, e2]; exact hk
  refine call_meetsIn F.slot_dict_get hm.dictOf.typeIs F.entry_dict_get (F.args_dict_get_3 _ _ _) (meets_dict_get_default (mix k.c.prog k.c.w) d hkey (st.notMods hd) z) ⟨_, hm.dictOf.mapOf, hp _ _ ?_⟩
  rw [getK_er] at h
  cases hv : valueAt rvs key with
  | none => rw [hv] at h; exact h
  | some v => rw [hv] at h; exact h
/-! sums of lists and tuples -/
theorem inplaceOp_seq {M : Model} {A : Around} {E : Value → Shared → Prop} {s : Shared} {a b : Value} {T id : String} {Q : Value → Shared → Prop} (ha : s.TypeIs a T) (hb : s.TypeIs b T)
    (hf : typeLookup (.type T) (dunderI "add") = pure (some (.builtin id))) (hs : isSeqSlot (some (.builtin id)) = true) (hfill : fillsNumberSlot (.type T) "add" = pure false)
    (hc : wpAny M A (call (.builtin id) [a, b]) Q E s) : wpAny M A (inplaceOp .Add a b) Q E s := by
  unfold inplaceOp
  refine wpAny_holding ?_
  have hfi : fillsInplaceSlot (.type T) "add" (Operator.Add == .Add) = pure false := by
    unfold fillsInplaceSlot
    show (typeLookup (.type T) (dunderI "add") >>= fun fi => pure (fi.isSome && !isSeqSlot fi)) = pure false
    rw [hf, pure_bind, hs]; rfl
  refine wpAny_bind (wpAny_typeOf ha (wpAny_bind (wpAny_of_eq hfi ?_)))
  show wpAny M A (if false = true then _ else _) Q E s
  rw [if_neg Bool.false_ne_true]
  refine wpAny_bind (wpAny_binaryOp1_none (nm := "add") ha hb hfill ?_)
  refine wpAny_bind (wpAny_of_eq (PySem.seqSlot_of hf hs) ?_)
  exact wpAny_bind (wpAny_rule hc)
theorem WBin_addL {a b : Addr} {xs ys : List V} {Q : V → Loc → AHeap → Prop} (ha : H a = some (.list xs)) (hb : H b = some (.list ys)) (hz : xs.length + ys.length ≤ sizeLine) (h : ∀ p, H p = none → Q (.ref p) m (upd H p (.list (xs ++ ys)))) : WBin k .Add (.ref a) (.ref b) m H Q := fun x y e1 e2 => by
  obtain rfl := er_ref e1
  obtain rfl := er_ref e2
  refine W.of_new (R := fun y => y = .list (xs ++ ys)) (fun B s st P hp => ?_) (fun a y hy hn => hy ▸ h a hn)
  refine Mine.hideG fun GG back => ?_
  obtain ⟨vs, n, hl, rfl⟩ := st.listAt ha
  obtain ⟨us, n2, hb', rfl⟩ := st.listAt hb
  refine back ?_
  clear back
  exact PySem.P.add_list hl hb' (hp _ _ s.toks _ rfl (Nat.le_refl _) (fun b ob e => Heap.get?_push_of_some _ e) ⟨_, Heap.get?_push_size _ rfl, vs ++ us, 0, by simp, by simp⟩) (by simpa using hz)
theorem WInpl_addL {a b : Addr} {xs ys : List V} {Q : V → Loc → AHeap → Prop} (ha : H a = some (.list xs)) (hb : H b = some (.list ys)) (hz : xs.length + ys.length ≤ sizeLine) (h : Q (.ref a) m (upd H a (.list (xs ++ ys)))) : WInpl k .Add (.ref a) (.ref b) m H Q := fun x y e1 e2 B s st => by
  obtain rfl := er_ref e1
  obtain rfl := er_ref e2
  refine Mine.hideG fun GG back => ?_
  obtain ⟨vs, n, hl', rfl⟩ := st.listAt ha
  obtain ⟨us, n2, hb', rfl⟩ := st.listAt hb
  refine back ?_
  clear back
  have st' := st.list_of_update hl' ha (fun x => x ++ us.toArray) (vs ++ us) (by simp)
  rw [List.map_append] at st'
  rw [List.length_map, List.length_map] at hz
  refine inplaceOp_seq (T := "list") hl'.isList.typeIs hb'.isList.typeIs F.slot_list_iadd.lookup (by decide +kernel) noFill_list_add (call_meets F.slot_list_iadd hl'.isList.typeIs F.entry_list_iadd (F.args_list_iadd_2 _ _) (AutoSeq1.list___iadd___list_list_0 a vs.toArray n b us.toArray n2 ?_ (by simp; lia) (by simp; lia)) ⟨hl', hb', m, _, st', h⟩)
  rw [Bool.not_eq_true, Bool.and_eq_false_iff]
  right
  unfold Builtin.List.listTooLong
  simp only [decide_eq_false_iff_not, List.size_toArray]
  have : sizeLine = 16777216 := rfl
  lia
theorem St.isT {c : Cx} {o : Out} {env : Env} {B : BMap} {s : Shared} (st : St c o env B m H s) {l : Addr} {xs : List V} (hl : H l = some (.tup xs)) : ∃ vs n, IsT s.heap l (vs : List Value).toArray n ∧ vs.map er = xs := st.tupAt hl
theorem call_tup_add {a b : Addr} {xs ys : List V} {Q : V → Loc → AHeap → Prop} (ha : H a = some (.tup xs)) (hb : H b = some (.tup ys)) (hz : xs.length + ys.length ≤ sizeLine) (h : ∀ p H', Ext H H' → H' p = some (.tup (xs ++ ys)) → Q (.ref p) m H') : WV k (call (.builtin "tuple.__add__") [.ref a, .ref b]) m H Q := by
  by_cases h0 : xs = []
  · subst h0
    refine W.of_wp fun B s st P hp => ?_
    refine Mine.hideG fun GG back => ?_
    obtain ⟨vs, n, hl, e⟩ := st.isT ha
    obtain ⟨us, n2, hb', e2⟩ := st.isT hb
    refine back ?_
    clear back
    obtain rfl : vs = [] := by simpa using e
    exact call_meets F.slot_tuple_add (id := "tuple.__add__") ⟨_, hl, rfl⟩ F.entry_tuple_add (F.args_tuple_add_2 _ _) (AutoSeq1.tuple___add___tuple_tuple_0 a [].toArray n b us.toArray n2 rfl) ⟨hl, hb', hp (.ref b) s.toks (h b H (Ext.refl _) hb)⟩
  · by_cases h1 : ys = []
    · subst h1
      refine W.of_wp fun B s st P hp => ?_
      refine Mine.hideG fun GG back => ?_
      obtain ⟨vs, n, hl, e⟩ := st.isT ha
      obtain ⟨us, n2, hb', e2⟩ := st.isT hb
      refine back ?_
      clear back
      obtain rfl : us = [] := by simpa using e2
      exact call_meets F.slot_tuple_add (id := "tuple.__add__") ⟨_, hl, rfl⟩ F.entry_tuple_add (F.args_tuple_add_2 _ _) (AutoSeq1.tuple___add___tuple_tuple_1 a vs.toArray n b [].toArray n2 (by subst e; simpa using h0) rfl) ⟨hl, hb', hp (.ref a) s.toks (h a H (Ext.refl _) (by rw [List.append_nil]; exact ha))⟩
    · refine W.of_new (R := fun y => y = .tup (xs ++ ys)) (fun B s st P hp => ?_) (fun a y hy hn => hy ▸ h a _ (Ext.upd hn) upd_same)
      refine Mine.hideG fun GG back => ?_
      obtain ⟨vs, n, hl, rfl⟩ := st.isT ha
      obtain ⟨us, n2, hb', rfl⟩ := st.isT hb
      refine back ?_
      clear back
      refine call_meets F.slot_tuple_add (id := "tuple.__add__") ⟨_, hl, rfl⟩ F.entry_tuple_add (F.args_tuple_add_2 _ _) (AutoSeq1.tuple___add___tuple_tuple_2 a vs.toArray n b us.toArray n2 (by simpa using h0) (by simpa using h1) (by simpa using hz)) ⟨hl, hb', hp _ _ s.toks _ rfl (Nat.le_refl _) (fun b ob e => Heap.get?_push_of_some _ e) ⟨_, Heap.get?_push_size _ rfl, vs ++ us, 0, by simp, by simp⟩⟩
theorem no_tuple_iadd : typeLookup (.type "tuple") (dunderI "add") = pure none := by rw [typeLookup_type, builtinLookup_eq_fast]; kernel_rfl
theorem WInpl_addT {a b : Addr} {xs ys : List V} {Q : V → Loc → AHeap → Prop} (ha : H a = some (.tup xs)) (hb : H b = some (.tup ys)) (hz : xs.length + ys.length ≤ sizeLine) (h : ∀ p H', Ext H H' → H' p = some (.tup (xs ++ ys)) → Q (.ref p) m H') : WInpl k .Add (.ref a) (.ref b) m H Q := fun x y e1 e2 B s st => by
  obtain rfl := er_ref e1
  obtain rfl := er_ref e2
  refine Mine.hideG fun GG back => ?_
  obtain ⟨vs, n, hl, _⟩ := st.isT ha
  obtain ⟨us, n2, hb', _⟩ := st.isT hb
  refine back ?_
  clear back
  exact PySem.wpAny_inplaceOp_concat ⟨_, hl, rfl⟩ ⟨_, hb', rfl⟩ no_tuple_iadd noFill_tuple_add seq_tuple_add (call_tup_add ha hb hz h B s st)
end
end Mine
namespace Mine
noncomputable def WPart (k : Wk) (e : Option Expr) (m : Loc) (H : AHeap) (Q : Option Int → Loc → AHeap → Prop) : Prop := W k (evalPart e k.env) m H fun v m1 H1 => ∃ i, IsPart v i ∧ Q i m1 H1
noncomputable def sliceV {α : Type} (xs : List α) (lo hi : Option Int) : List α := (xs.drop (lo.elim 0 (clipAt xs.length))).take (hi.elim xs.length (clipAt xs.length) - lo.elim 0 (clipAt xs.length))
theorem sliceV_map {α β : Type} (f : α → β) (xs : List α) (lo hi : Option Int) : sliceV (xs.map f) lo hi = (sliceV xs lo hi).map f := by
  unfold sliceV
  rw [List.length_map, List.map_take, List.map_drop]
theorem sliceV_length {α : Type} (xs : List α) (lo hi : Option Int) : (sliceV xs lo hi).length ≤ xs.length := by
  unfold sliceV
  rw [List.length_take, List.length_drop]; lia
theorem clipAt_le (n : Nat) (i : Int) : clipAt n i ≤ n := by
  have h := clipAt_cast n i
  lia
theorem adjust_plain (lo hi : Option Int) (n : Nat) : Builtin.Slice.sliceAdjust lo hi 1 (n : Int) = (((lo.elim 0 (clipAt n) : Nat) : Int), ((hi.elim n (clipAt n) : Nat) : Int)) := by
  have h1 : ¬ ((1 : Int) < 0) := by lia
  have clip : ∀ v : Int, (if v < 0 then max (v + n) 0 else min v n) = ((clipAt n v : Nat) : Int) := fun v => by
    have := clipAt_cast n v
    split at this
    · rename_i h; rw [if_pos h]; lia
    · rename_i h; rw [if_neg h]; lia
  unfold Builtin.Slice.sliceAdjust
  simp only [h1, if_false]
  cases lo <;> cases hi <;> simp only [Option.elim, clip] <;> rfl
theorem places_plain (a b : Nat) : Builtin.Slice.slicePlaces (a : Int) (b : Int) 1 = b - a := by
  unfold Builtin.Slice.slicePlaces
  have h1 : (1 : Int) > 0 := by lia
  simp only [h1, if_true, Int.ediv_one]
  split <;> lia
section
variable {prog : Program} {w : World} {A : Around} {E : Value → Shared → Prop} {s : Shared}
theorem slicePart_ {v : Value} {i : Option Int} {Q : Option Int → Shared → Prop} (hv : IsPart v i) (h : Q i s) : wpAny (model prog w) A (Builtin.Slice.slicePartIndex v) Q E s := by
  cases hv with
  | none => exact slicePart_none h
  | int i t => exact slicePart_int h
theorem sliceApplied_plain {sl : Addr} {vl vu : Value} {lo hi : Option Int} {n : Nat} {Q : Int × Int × Nat → Shared → Prop} (hs : s.heap.IsSliceOf sl vl vu .none) (pl : IsPart vl lo) (pu : IsPart vu hi)
    (h : Q (((lo.elim 0 (clipAt n) : Nat) : Int), 1, hi.elim n (clipAt n) - lo.elim 0 (clipAt n)) s) :
    wpAny (model prog w) A (Builtin.Slice.sliceApplied (.ref sl) (pure (n : Int))) Q E s := by
  obtain ⟨os, hos, hcs, hds⟩ := id hs
  unfold Builtin.Slice.sliceApplied Builtin.Slice.sliceFields
  refine wpAny_bind (wpAny_bind (wpAny_field hos hds (x := vl) rfl (wpAny_bind (wpAny_field hos hds (x := vu) rfl (wpAny_bind (wpAny_field hos hds (x := .none) rfl (wpAny_pure ?_)))))))
  refine wpAny_bind (slicePart_none ?_)
  show wpAny _ _ (if ((1 : Int) == 0) = true then _ else _) _ _ s
  rw [if_neg (by decide)]
  refine wpAny_bind (slicePart_ pl (wpAny_bind (slicePart_ pu (wpAny_bind (wpAny_pure ?_)))))
  show wpAny _ _ (match Builtin.Slice.sliceAdjust lo hi 1 (n : Int) with | (lo, hi) => pure (lo, (1 : Int), Builtin.Slice.slicePlaces lo hi 1)) _ _ s
  rw [adjust_plain]
  show wpAny _ _ (pure (_, (1 : Int), Builtin.Slice.slicePlaces _ _ 1)) _ _ s
  rw [places_plain]
  exact wpAny_pure h
theorem getItem_tuple_plain {t sl : Addr} {items : Array Value} {vl vu : Value} {lo hi : Option Int} {Q : Value → Shared → Prop} (ht : IsTup s.heap t items) (hs : s.heap.IsSliceOf sl vl vu .none) (pl : IsPart vl lo) (pu : IsPart vu hi)
    (hw : sliceV items.toList lo hi = items.toList → Q (.ref t) s)
    (h : Q (.ref s.heap.objs.size) { s with heap := s.heap.push { cls := .type "tuple", data := .seq (sliceV items.toList lo hi).toArray } })
    (hsz : items.size ≤ sizeLine) : wpAny (model prog w) A (getItem (.ref t) (.ref sl)) Q E s := by
  have hok : sizeOk (.seq (sliceV items.toList lo hi).toArray) := by
    show (sliceV items.toList lo hi).toArray.size ≤ sizeLine
    rw [List.size_toArray]
    exact Nat.le_trans (sliceV_length _ _ _) (by simpa using hsz)
  obtain ⟨os, hos, hcs, hds⟩ := id hs
  have hTs : s.TypeIs (.ref sl) "slice" := ⟨os, hos, hcs⟩
  unfold getItem
  try with_reducible refine wpAny_holding ?_
  first | refine wpAny_bind (wpAny_pure ?_) | skip
  refine wpAny_bind (wpAny_sequenceKey ht.typeIs (by decide) ?_)
  refine wpAny_bind (wpAny_callSpecial?_slot (name := Str.ofString "__getitem__") ht.typeIs slot_tuple_getitem
    (wpAny_call_entry slot_tuple_getitem ht.typeIs entry_tuple_getitem ?_ (args_tuple_getitem _ _)))
  show wpAny _ _ (Builtin.Tuple.tupleItemsOf (.ref t) >>= _) _ _ s
  refine wpAny_bind (tupleItemsOf_ ht ?_)
  refine wpAny_bind (wpAny_typeOf hTs ?_)
  rw [if_pos (by decide)]
  refine wpAny_bind (sliceApplied_plain hs pl pu ?_)
  generalize ha : lo.elim 0 (clipAt items.size) = a
  generalize hb : hi.elim items.size (clipAt items.size) = b
  have hal : a ≤ items.size := by
    subst ha; cases lo with
    | none => exact Nat.zero_le _
    | some i => exact clipAt_le _ _
  have hbl : b ≤ items.size := by
    subst hb; cases hi with
    | none => exact Nat.le_refl _
    | some i => exact clipAt_le _ _
  have hv : sliceV items.toList lo hi = (items.toList.drop a).take (b - a) := by unfold sliceV; rw [Array.length_toList, ha, hb]
  show wpAny _ _ (if ((a : Int) == 0 && (1 : Int) == 1 && (b - a) == items.size) = true then _ else _) _ _ s
  by_cases hall : ((a : Int) == 0 && (1 : Int) == 1 && (b - a) == items.size) = true
  · rw [if_pos hall]
    simp only [Bool.and_eq_true, beq_iff_eq] at hall
    have ha0 : a = 0 := by lia
    have hbn : b = items.size := by lia
    have := hw (by rw [hv, ha0, hbn, List.drop_zero, List.take_of_length_le (by simp)])
    refine wpAny_bind (m := Builtin.Tuple.tupleIsExact _) ?_
    unfold Builtin.Tuple.tupleIsExact
    refine wpAny_bind (wpAny_typeOf ht.typeIs (wpAny_pure ?_))
    rw [if_pos (by decide)]
    first
      | exact wpAny_bind (wpAny_rule (wpAny_bind (wpAny_pure (wpAny_pure ⟨_, rfl, wpAny_pure this⟩))))
      | exact wpAny_bind (wpAny_rule (wpAny_bind (wpAny_pure ⟨_, rfl, wpAny_pure this⟩)))
      | exact wpAny_bind (wpAny_rule (wpAny_pure ⟨_, rfl, wpAny_pure this⟩))
  · rw [if_neg hall]
    have epick : ((List.range (b - a)).filterMap fun (k : Nat) => items[((a : Int) + (k : Int) * 1).toNat]?).toArray = (sliceV items.toList lo hi).toArray := by
      have e : (fun (k : Nat) => items[((a : Int) + (k : Int) * 1).toNat]?) = fun k => items[a + k]? := by
        funext k
        have : ((a : Int) + (k : Int) * 1).toNat = a + k := by lia
        rw [this]
      rw [e]
      have := pick_run items a (b - a)
      rw [List.filterMap_map] at this
      have e2 : ((fun x => items[x]?) ∘ fun x => a + x) = fun k => items[a + k]? := rfl
      rw [e2] at this
      rw [this, hv]
    rw [epick]
    first
      | exact wpAny_bind (m := Builtin.Tuple.tupleExact _) (wpAny_newObj_type (wpAny_pure ⟨_, rfl, wpAny_pure h⟩) hok)
      | exact wpAny_bind (m := Builtin.Tuple.tupleExact _) (wpAny_newObj_type (wpAny_bind (wpAny_pure (wpAny_pure ⟨_, rfl, wpAny_pure h⟩))) hok)
      | exact wpAny_bind (wpAny_bind (m := Builtin.Tuple.tupleExact _) (wpAny_newObj_type (wpAny_pure (wpAny_pure ⟨_, rfl, wpAny_pure h⟩)) hok))
      | exact wpAny_bind (wpAny_bind (m := Builtin.Tuple.tupleExact _) (wpAny_newObj_type (wpAny_pure ⟨_, rfl, wpAny_pure h⟩) hok))
end
section
variable {k : Wk} {m : Loc} {H : AHeap}
theorem WPart_none {Q : Option Int → Loc → AHeap → Prop} (h : Q none m H) : WPart k none m H Q := W.pure ⟨none, .none, h⟩
theorem WPart_some {e : Expr} {Q : Option Int → Loc → AHeap → Prop} (h : WV k (eval e k.env) m H fun v m1 H1 => ∃ i, v = .int i ∧ Q (some i) m1 H1) : WPart k (some e) m H Q :=
  W.mono h fun v m1 H1 ⟨i, e, q⟩ => by
    obtain ⟨t, rfl⟩ := er_int e
    exact ⟨_, .int i t, q⟩
noncomputable def WSl (k : Wk) (ov : V) (i j : Option Int) (m : Loc) (H : AHeap) (Q : V → Loc → AHeap → Prop) : Prop :=
  ∃ a, ov = .ref a ∧ ((∃ xs, H a = some (.list xs) ∧ xs.length ≤ sizeLine ∧ ∀ b H', Ext H H' → H b = none → H' b = some (.list (sliceV xs i j)) → Q (.ref b) m H') ∨ (∃ xs, H a = some (.tup xs) ∧ xs.length ≤ sizeLine ∧ ∀ b H', Ext H H' → H' b = some (.tup (sliceV xs i j)) → Q (.ref b) m H'))
theorem W_SubSlice {value : Expr} {lo hi : Option Expr} {p pos : Pos} {Q : V → Loc → AHeap → Prop}
    (h : WV k (eval value k.env) m H fun ov m1 H1 => WPart k lo m1 H1 fun i m2 H2 => WPart k hi m2 H2 fun j m3 H3 => WSl k ov i j m3 H3 Q)
    (hs : ∀ o i, ∃ ops, subscripted (.Slice lo hi none p) false o i = operate ops (getItem o i) := by intro _ _; exact ⟨_, by with_unfolding_all rfl⟩) : WV k (eval (.Subscript value (.Slice lo hi none p) pos) k.env) m H Q := fun B s st =>
  Subscript_ (wpAny_mono (h B s st) (fun ov s1 ⟨m1, H1, st1, q1⟩ => wpAny_Slice (wpAny_mono (q1 B s1 st1) (fun l s2 ⟨m2, H2, st2, i, pl, q2⟩ => wpAny_mono (q2 B s2 st2) (fun u s3 hx1 => by
    refine Mine.hideG fun GG back => ?_
    obtain ⟨m3, H3, st3, j, pu, q3⟩ := hx1
    refine back ?_
    clear back
    rw [evalPart_none]
    refine wpAny_pure ?_
    obtain ⟨a, e, q3⟩ := q3
    obtain rfl := er_ref e
    obtain ⟨ops, hs⟩ := hs (.ref a) (.ref s3.heap.objs.size)
    have st4 := st3.grown (tk := s3.toks) (h' := s3.heap.push { cls := .type "slice", data := .fields #[l, u, .none] }) (fun b ob e => Heap.get?_push_of_some _ e) st3.tk
    rcases q3 with ⟨xs, hx, hz, q⟩ | ⟨xs, hx, hz, q⟩
    · obtain ⟨vs, n, hl, rfl⟩ := st4.listAt hx
      have hn := st4.none_at (Nat.le_refl _)
      refine tail_any (s := { s3 with heap := s3.heap.push { cls := .type "slice", data := .fields #[l, u, .none] } }) hl.isList.typeIs slot_list_getitem.lookup (wpAny_getItem_list_slice hl.isList (Heap.IsSliceOf.new ..) pl pu .none (by intro e; cases e) ⟨m3, _, st4.new (tk := s3.toks) (Nat.le_refl _) (fun b ob e => Heap.get?_push_of_some _ e) (y := .list (sliceV (vs.map er) i j)) ⟨_, Heap.get?_push_size _ rfl, sliceV vs i j, 0, ?_, (sliceV_map _ _ _ _).symm⟩ st4.tk, q _ _ (Ext.upd (st4.fresh hn).1) (st4.fresh hn).1 upd_same⟩ (by simpa using hz)) hs
      rw [slicePick_plain]
      rfl
    · obtain ⟨vs, n, hl, rfl⟩ := st4.tupAt hx
      have hT : IsTup (s3.heap.push { cls := .type "slice", data := .fields #[l, u, .none] }) a vs.toArray := ⟨_, hl, rfl, n, rfl⟩
      have hn := st4.none_at (Nat.le_refl _)
      refine tail_any (s := { s3 with heap := s3.heap.push { cls := .type "slice", data := .fields #[l, u, .none] } }) hT.typeIs slot_tuple_getitem.lookup (getItem_tuple_plain hT (Heap.IsSliceOf.new ..) pl pu (fun e => ⟨m3, H3, st4, q a H3 (Ext.refl _) ?_⟩) ⟨m3, _, st4.new (tk := s3.toks) (Nat.le_refl _) (fun b ob e => Heap.get?_push_of_some _ e) (y := .tup (sliceV (vs.map er) i j)) ⟨_, Heap.get?_push_size _ rfl, sliceV vs i j, 0, rfl, (sliceV_map _ _ _ _).symm⟩ st4.tk, q _ _ (Ext.upd (st4.fresh hn).1) upd_same⟩ (by simpa using hz)) hs
      rw [sliceV_map, show sliceV vs i j = vs from e]; exact hx) fun _ _ x => x) fun _ _ x => x)) fun _ _ x => x)
/-! is -/
noncomputable def isTupB : Option AObj → Bool
  | some (.tup _) => true
  | some (.raw _) => true
  | _ => false
noncomputable def isV (H : AHeap) : V → V → Option Bool
  | .ref x, .ref y => if x = y then some true else match H x, H y with
    | some ox, some oy => if isTupB (some ox) && isTupB (some oy) then none else some false
    | _, _ => none
  | .str x t, .str y u => if t = u ∧ t ≠ 0 then some true else none
  | .none, .none => some true
  | .none, .ref _ => some false
  | .ref _, .none => some false
  | .str _ _, .ref _ => some false
  | .ref _, .str _ _ => some false
  | .none, .str _ _ => some false
  | .str _ _, .none => some false
  | _, _ => none
theorem isSame_V {B : BMap} {s : Shared} (st : St k.c k.o k.env B m H s) {x y : Value} {r : Bool} {R : Bool → Shared → Prop} {E : Value → Shared → Prop} (h : isV H (er x) (er y) = some r) (hR : R r s) : wpAny (model k.c.prog k.c.w) k.A (isSame x y) R E s := by
  have cls : ∀ ob z, IsObj k.c ob z → isTupB (some z) = false → ob.cls ≠ .type "tuple" := fun ob z hI hz q => by
    cases z with
    | list xs => rw [(isList_cls ob hI).1] at q; exact absurd q (by decide)
    | tup xs => cases hz
    | dict kvs ep => rw [(isDict_cls ob hI).1] at q; exact absurd q (by decide)
    | inst C dx => rw [show ob = _ from hI] at q; cases q
    | attrs v => obtain ⟨n, t, u, e, _⟩ := hI; rw [e] at q; exact absurd (show Value.type "dict" = Value.type "tuple" from q) (by decide)
    | attrs0 => rw [show ob = _ from hI] at q; exact absurd q (by decide)
    | range lo hi st => obtain ⟨_, _, _, e⟩ := hI; rw [e] at q; exact absurd (show Value.type "range" = Value.type "tuple" from q) (by decide)
    | exc c a => rw [hI.2.1] at q; injection q with q; exact hI.1 q
    | vals d => rw [show ob = _ from hI] at q; exact absurd (show Value.type "dict_values" = Value.type "tuple" from q) (by decide)
    | raw o => cases hz
  cases x with
  | none => cases y <;> simp [er, isV] at h <;> subst h <;> exact wpAny_isSame_plain rfl hR
  | ref a =>
    cases y with
    | ref b =>
      simp only [er, isV] at h
      by_cases hab : a = b
      · subst hab; rw [if_pos rfl] at h; cases h; exact wpAny_isSame_ref_self hR
      · rw [if_neg hab] at h
        split at h
        · rename_i ox oy hx hy
          split at h
          · cases h
          · rename_i hb
            cases h
            obtain ⟨ob, ho, hI⟩ := st.own a ox hx
            obtain ⟨ob', ho', hI'⟩ := st.own b oy hy
            by_cases hx0 : isTupB (some ox) = true
            · rw [hx0, Bool.true_and, Bool.not_eq_true] at hb
              have hnt := cls ob' oy hI' hb
              show wpAny _ _ (if (a == b) = true then pure true else _) _ _ s
              rw [if_neg (by simpa using hab)]
              refine wpAny_bind (wpAny_load ho (wpAny_bind (wpAny_load ho' ?_)))
              split
              · rename_i h2 _ _; exact absurd h2 hnt
              · exact wpAny_pure hR
            · exact wpAny_isSame_ref_other hab ho ho' (cls ob ox hI ((Bool.not_eq_true _).mp hx0)) hR
        · cases h
    | _ => simp [er, isV] at h <;> subst h <;> exact wpAny_isSame_plain rfl hR
  | str a t =>
    cases y with
    | str b u =>
      simp only [er, isV] at h
      split at h
      · rename_i e
        obtain ⟨rfl, e⟩ := e
        cases h
        show wpAny _ _ (if (t == 0 || t == 0) = true then _ else _) _ _ s
        rw [if_neg (by simpa using e)]
        show wpAny _ _ (if (t == t) = true then pure true else _) _ _ s
        rw [if_pos (by simp)]
        exact wpAny_pure hR
      · cases h
    | _ => simp [er, isV] at h <;> subst h <;> exact wpAny_isSame_plain rfl hR
  | _ => cases y <;> simp [er, isV] at h
theorem WCmp_is {a b : V} {r : Bool} {Q : V → Loc → AHeap → Prop} (hb : isV H a b = some r) (h : Q (.bool r) m H) : WCmp k .Is a b m H Q := fun x y hx hy B s st => by
  subst hx; subst hy
  show wpAny _ _ (do return Value.bool (← isSame x y)) _ _ s
  exact wpAny_bind (isSame_V st hb (wpAny_pure ⟨m, H, st, h⟩))
theorem WCmp_isNot {a b : V} {r : Bool} {Q : V → Loc → AHeap → Prop} (hb : isV H a b = some r) (h : Q (.bool (!r)) m H) : WCmp k .IsNot a b m H Q := fun x y hx hy B s st => by
  subst hx; subst hy
  show wpAny _ _ (do return Value.bool (!(← isSame x y))) _ _ s
  exact wpAny_bind (isSame_V st hb (wpAny_pure ⟨m, H, st, h⟩))
end
end Mine
namespace Mine
section
variable {c : Cx} {o : Out} {env : Env} {B : BMap} {m : Loc} {H : AHeap} {s : Shared}
theorem St.but {m₀ : Loc} {H₀ : AHeap} {s₀ : Shared} (st₀ : St c o env B m₀ H₀ s₀) {it : Addr} {x : Obj × Bool} (hB : B it = none) (hb : c.base.objs.size ≤ it) (st : St c o env (upd B it x) m H s) {h' : Heap} {tk : Nat} (hk : Heap.ExtBut it s.heap h') (ht : 1 ≤ tk) :
    St c o env B m H { s with heap := h', toks := tk } := by
  have q : ∀ b y, B b = some y → upd B it x b = some y := fun b y e => upd_fresh hB e
  have r : ∀ b, upd B it x b = none → B b = none := fun b e => by
    cases h : B b with
    | none => rfl
    | some y => rw [q b y h] at e; cases e
  have hHit : ∀ b y, H b = some y → b ≠ it := fun b y e z => by
    have := st.disB b y e
    rw [z, upd_same] at this; cases this
  have hpit : ∀ b ∈ places env, b ≠ it := fun b hb z => by
    have := (st.pl b hb).2.1
    rw [z, upd_same] at this; cases this
  have hbase : ∀ b ob, c.base.get? b = some ob → b ≠ it := fun b ob e z => by
    rw [z, none_ge hb] at e; cases e
  refine ⟨fun b ob e => hk b ob (hbase b ob e) (st.base b ob e), fun b ob l e => ?_, fun b y e => ?_, fun b y e => r b (st.disB b y e), st.disBase, fun b z => ⟨(st.pl b z).1, r b (st.pl b z).2.1, (st.pl b z).2.2⟩, st.nodup, fun b e => ?_, ?_, st₀.frames, st.gens, st.os, ht⟩
  · refine Mine.hideG fun GG back => ?_
    obtain ⟨sl, e1, e2⟩ := st.keep b ob l (q b _ e)
    refine back ?_
    clear back
    exact ⟨sl, hk b _ (fun z => by rw [z, hB] at e; cases e) e1, e2⟩
  · refine Mine.hideG fun GG back => ?_
    obtain ⟨ob, e1, e2⟩ := st.own b y e
    refine back ?_
    clear back
    exact ⟨ob, hk b ob (hHit b y e) e1, e2⟩
  · refine Mine.hideG fun GG back => ?_
    obtain ⟨v, ob, e1, e2⟩ := st.cell b e
    refine back ?_
    clear back
    exact ⟨v, ob, hk b ob (hpit b (List.mem_cons_of_mem _ e)) e1, e2⟩
  · exact var_keeps (fun b hb' ob e => hk b ob (hpit b hb') e) st.var
theorem St.rehide {m₀ : Loc} {H₀ : AHeap} {s₀ : Shared} (st₀ : St c o env B m₀ H₀ s₀) {it : Addr} {x : Obj × Bool} (hB : B it = none) (hb : c.base.objs.size ≤ it) (st : St c o env (upd B it x) m H s) {h' : Heap} {tk : Nat} (hk : Heap.ExtBut it s.heap h') (ht : 1 ≤ tk) {ob : Obj} (ho : h'.get? it = some ob) :
    St c o env (upd B it (ob, false)) m H { s with heap := h', toks := tk } := by
  refine (st₀.but hB hb st hk ht).hide (l := false) ho ?_ (fun z => ?_) hB
  · cases e : H it with
    | none => rfl
    | some y => have := st.disB it y e; rw [upd_same] at this; cases this
  · have := (st.pl it z).2.1
    rw [upd_same] at this; cases this
end
noncomputable def Own (c : Cx) (H : AHeap) (s : Shared) : Prop := ((∀ a x, H a = some x → c.base.objs.size ≤ a ∧ ∃ ob, s.heap.get? a = some ob ∧ IsObj c ob x) ∧ c.base.StaysIn s.heap) ∧ 1 ≤ s.toks
theorem St.owned {c : Cx} {o : Out} {env : Env} {B : BMap} {m : Loc} {H : AHeap} {s : Shared} (st : St c o env B m H s) : Own c H s := ⟨⟨fun a x e => ⟨st.disBase a x e, st.own a x e⟩, st.base⟩, st.tk⟩
theorem Own.listAt {c : Cx} {H : AHeap} {s : Shared} (h : Own c H s) {l : Addr} {xs : List V} (hl : H l = some (.list xs)) : ∃ vs n, IsL s.heap l (vs : List Value).toArray n ∧ vs.map er = xs := by
  refine Mine.hideG fun GG back => ?_
  obtain ⟨_, ob, ho, vs, n, rfl, e⟩ := h.1.1 l _ hl
  refine back ?_
  clear back
  exact ⟨vs, n, ho, e⟩
theorem Own.tupAt {c : Cx} {H : AHeap} {s : Shared} (h : Own c H s) {l : Addr} {xs : List V} (hl : H l = some (.tup xs)) : ∃ vs n, s.heap.get? l = some { cls := .type "tuple", data := .seq (vs : List Value).toArray n } ∧ vs.map er = xs := by
  refine Mine.hideG fun GG back => ?_
  obtain ⟨_, ob, ho, vs, n, rfl, e⟩ := h.1.1 l _ hl
  refine back ?_
  clear back
  exact ⟨vs, n, ho, e⟩
theorem Own.dictAt {c : Cx} {H : AHeap} {s : Shared} (h : Own c H s) {d : Addr} {kvs : List (Key × V)} {ep : Nat} (hd : H d = some (.dict kvs ep)) : ∃ rvs, s.heap.DictAt (mix c.prog c.w) d rvs ep ∧ rvs.map erP = kvs := by
  refine Mine.hideG fun GG back => ?_
  obtain ⟨_, ob, ho, hI⟩ := h.1.1 d _ hd
  refine back ?_
  clear back
  exact dictAt_of ho hI
structure Walkable (c : Cx) (A : Around) (it : Addr) (n : Nat) (R : Nat → V → Prop) (ok : AHeap → Prop) (at_ : Nat → Obj → Prop) : Prop where
  item : ∀ i, i < n → ∀ H s ob, Own c H s → s.heap.get? it = some ob → at_ i ob → ok H → ∀ (P : Option Value → Shared → Prop), (∀ v h' tk ob', 1 ≤ tk → R i (er v) → at_ (i + 1) ob' → h'.get? it = some ob' → Heap.SameBut it s.heap h' → P (some v) { s with heap := h', toks := tk }) →
    ∀ E, wpAny (model c.prog c.w) A (pyNext (.ref it)) P E s
  fin : ∀ H s ob, Own c H s → s.heap.get? it = some ob → at_ n ob → ok H → ∀ (P : Option Value → Shared → Prop), (∀ h', Heap.ExtBut it s.heap h' → P none { s with heap := h' }) →
    ∀ E, wpAny (model c.prog c.w) A (pyNext (.ref it)) P E s
  self : ∀ ob (s : Shared) (P : Value → Shared → Prop), s.heap.get? it = some ob → at_ 0 ob → P (.ref it) s → ∀ E, wpAny (model c.prog c.w) A (pyIter (.ref it)) P E s
  cls : ∀ i ob, at_ i ob → ∃ T vs, ob.cls = .type T ∧ ob.data = .fields vs ∧ ["enumerate", "zip", "dict_itemiterator", "dict_reverseitemiterator", "odict_iterator", "itertools.zip_longest", "itertools.pairwise"].contains T = false
noncomputable def WIter (k : Wk) (xv : V) (m : Loc) (H : AHeap) (n : Nat) (R : Nat → V → Prop) (ok : AHeap → Prop) : Prop :=
  ∀ x, er x = xv → ∀ B s, St k.c k.o k.env B m H s → ∀ (P : Value → Shared → Prop) (E : Value → Shared → Prop),
    (∀ it ob at_ s2, Walkable k.c k.A it n R ok at_ → at_ 0 ob → B it = none → k.c.base.objs.size ≤ it → St k.c k.o k.env (upd B it (ob, false)) m H s2 → P (.ref it) s2) → wpAny (model k.c.prog k.c.w) k.A (pyIter x) P E s
section
variable {k : Wk} {m : Loc} {H : AHeap}
theorem hide_new {B : BMap} {s : Shared} (st : St k.c k.o k.env B m H s) (ob : Obj) (hf : ob.isFreed = false) :
    B s.heap.objs.size = none ∧ k.c.base.objs.size ≤ s.heap.objs.size ∧ St k.c k.o k.env (upd B s.heap.objs.size (ob, false)) m H { s with heap := s.heap.push ob } := by
  refine Mine.hideG fun GG back => ?_
  obtain ⟨f1, f2, f3, f4⟩ := st.fresh (st.none_at (Nat.le_refl _))
  refine back ?_
  clear back
  exact ⟨f2, st.baseLe, (st.grown (tk := s.toks) (fun b ob e => Heap.get?_push_of_some _ e) st.tk).hide (Heap.get?_push_size _ hf) f1 f4 f2⟩
theorem hid_at {c : Cx} {o : Out} {env : Env} {B : BMap} {s : Shared} {it : Addr} {ob : Obj} (st : St c o env (upd B it (ob, false)) m H s) : s.heap.get? it = some ob := by
  refine Mine.hideG fun GG back => ?_
  obtain ⟨sl, e1, e2⟩ := st.keep it ob false upd_same
  refine back ?_
  clear back
  rw [e1, e2 rfl]
theorem WIter_list {a : Addr} {xs : List V} (hh : k.A.handled = none) (ha : H a = some (.list xs)) : WIter k (.ref a) m H xs.length (fun i v => xs[i]? = some v) (fun H => H a = some (.list xs)) := fun x hx B s st P E hP => by
  obtain rfl := er_ref hx
  refine Mine.hideG fun GG back => ?_
  obtain ⟨vs, n, hl, hvs⟩ := st.listAt ha
  obtain ⟨h1, h2, st2⟩ := hide_new st { cls := .type "list_iterator", data := .fields #[.ref a, .int 0 0] } rfl
  refine back ?_
  clear back
  refine wpAny_pyIter_list hl.isList (hP _ _ (fun i ob => ob.cls = .type "list_iterator" ∧ ob.data = .fields #[.ref a, .int i 0]) _ ⟨?_, ?_, ?_, ?_⟩ ⟨rfl, rfl⟩ h1 h2 st2)
  · intro i hi H s ob st hob hat ha P hP E
    refine Mine.hideG fun GG back => ?_
    obtain ⟨vs, n, hl, hvs⟩ := st.listAt ha
    refine back ?_
    clear back
    have hi' : i < vs.length := by rw [← hvs] at hi; simpa using hi
    refine wpAny_pyNext_list_item ⟨ob, hob, hat⟩ hl.isList (x := vs[i]) (by simp [hi']) fun h' ⟨ob', e1, e2⟩ hs => hP vs[i] h' s.toks ob' st.2 ?_ e2 e1 hs
    rw [← hvs]; simp [hi']
  · intro H s ob st hob hat ha P hP E
    refine Mine.hideG fun GG back => ?_
    obtain ⟨vs, n, hl, hvs⟩ := st.listAt ha
    refine back ?_
    clear back
    exact wpAny_pyNext_list_end hh ⟨ob, hob, hat⟩ hl.isList (by rw [← hvs]; simp) hP
  · intro ob s P ho h hP E
    exact wpAny_pyIter_listiter (l := a) (i := 0) ⟨ob, ho, h⟩ hP
  · intro i ob h
    exact ⟨_, _, h.1, h.2, by decide⟩
theorem WIter_tup {a : Addr} {xs : List V} (hh : k.A.handled = none) (ha : H a = some (.tup xs)) : WIter k (.ref a) m H xs.length (fun i v => xs[i]? = some v) (fun H => H a = some (.tup xs)) := fun x hx B s st P E hP => by
  obtain rfl := er_ref hx
  refine Mine.hideG fun GG back => ?_
  obtain ⟨vs, n, hl, hvs⟩ := st.tupAt ha
  obtain ⟨h1, h2, st2⟩ := hide_new st { cls := .type "tuple_iterator", data := .fields #[.ref a, .int 0 0] } rfl
  refine back ?_
  clear back
  refine wpAny_pyIter_tuple (items := (vs : List Value).toArray) ⟨_, hl, rfl, n, rfl⟩ (hP _ _ (fun i ob => ob.cls = .type "tuple_iterator" ∧ ob.data = .fields #[.ref a, .int i 0]) _ ⟨?_, ?_, ?_, ?_⟩ ⟨rfl, rfl⟩ h1 h2 st2)
  · intro i hi H s ob st hob hat ha P hP E
    refine Mine.hideG fun GG back => ?_
    obtain ⟨vs, n, hl, hvs⟩ := st.tupAt ha
    refine back ?_
    clear back
    have hi' : i < vs.length := by rw [← hvs] at hi; simpa using hi
    refine wpAny_pyNext_tuple_item (items := (vs : List Value).toArray) ⟨ob, hob, hat⟩ ⟨_, hl, rfl, n, rfl⟩ (x := vs[i]) (by simp [hi']) fun h' ⟨ob', e1, e2⟩ hs => hP vs[i] h' s.toks ob' st.2 ?_ e2 e1 hs
    rw [← hvs]; simp [hi']
  · intro H s ob st hob hat ha P hP E
    refine Mine.hideG fun GG back => ?_
    obtain ⟨vs, n, hl, hvs⟩ := st.tupAt ha
    refine back ?_
    clear back
    exact wpAny_pyNext_tuple_end (items := (vs : List Value).toArray) hh ⟨ob, hob, hat⟩ ⟨_, hl, rfl, n, rfl⟩ (by rw [← hvs]; simp) hP
  · intro ob s P ho h hP E
    exact wpAny_pyIter_tupleiter (t := a) (i := 0) ⟨ob, ho, h⟩ hP
  · intro i ob h
    exact ⟨_, _, h.1, h.2, by decide⟩
theorem WIter_dict {d : Addr} {kvs : List (Key × V)} {ep : Nat} (hh : k.A.handled = none) (hd : H d = some (.dict kvs ep)) :
    WIter k (.ref d) m H kvs.length (fun i v => ∃ kv, kvs[i]? = some kv ∧ isKV kv.1 v = true) (fun H => ∃ kvs', H d = some (.dict kvs' ep) ∧ kvs'.map (·.1) = kvs.map (·.1)) := fun x hx B s st P E hP => by
  obtain rfl := er_ref hx
  refine Mine.hideG fun GG back => ?_
  obtain ⟨rvs, hm, hrv⟩ := st.dictAt hd
  refine back ?_
  clear back
  have hlen : kvs.length = rvs.length := by rw [← hrv]; simp
  refine Mine.hideG fun GG back => ?_
  obtain ⟨h1, h2, st2⟩ := hide_new st { cls := .type "dict_keyiterator", data := .fields #[.ref d, .int 0 0, .int rvs.length 0, .int ep 0] } rfl
  refine back ?_
  clear back
  refine wpAny_pyIter_dict (st.notMods hd) hm (hP _ _ (fun i ob => ob.cls = .type "dict_keyiterator" ∧ ob.data = .fields #[.ref d, .int i 0, .int kvs.length 0, .int ep 0]) _ ⟨?_, ?_, ?_, ?_⟩ ⟨rfl, by rw [hlen]; rfl⟩ h1 h2 st2)
  · intro i hi H s ob st hob hat ⟨kvs', hd', hkeys⟩ P hP E
    refine Mine.hideG fun GG back => ?_
    obtain ⟨rvs', hm', hrv'⟩ := st.dictAt hd'
    refine back ?_
    clear back
    have hlen' : rvs'.length = kvs.length := by
      have := congrArg List.length hkeys
      rw [← hrv'] at this
      simpa using this
    have hi' : i < rvs'.length := by omega
    refine wpAny_pyNext_dict_item (i := i) (kvs := rvs') (k := rvs'[i].1) (v := rvs'[i].2) ⟨ob, hob, by rw [hlen']; exact hat⟩ hm' (by simp [hi']) fun key h' hkey hit hs => ?_
    refine Mine.hideG fun GG back => ?_
    obtain ⟨ob', e1, e2⟩ := hit
    refine back ?_
    clear back
    rw [hlen'] at e2
    refine hP key h' s.toks ob' st.2 ⟨kvs[i], by simp [hi], ?_⟩ e2 e1 hs
    rw [← isKey_er]
    have e : (kvs.map (·.1))[i]? = some rvs'[i].1 := by rw [← hkeys, ← hrv']; simp [hi']
    rw [List.getElem?_map] at e
    simp [hi] at e
    rw [e]; exact hkey
  · intro H s ob st hob hat ⟨kvs', hd', hkeys⟩ P hP E
    refine Mine.hideG fun GG back => ?_
    obtain ⟨rvs', hm', hrv'⟩ := st.dictAt hd'
    refine back ?_
    clear back
    have hlen' : rvs'.length = kvs.length := by
      have := congrArg List.length hkeys
      rw [← hrv'] at this
      simpa using this
    exact wpAny_pyNext_dict_end (kvs := rvs') (i := kvs.length) hh ⟨ob, hob, by rw [hlen']; exact hat⟩ hm' (by simp [hlen']) hP
  · intro ob s P ho h hP E
    exact wpAny_pyIter_keyiter (d := d) (i := 0) (n := kvs.length) (ep := ep) ⟨ob, ho, h⟩ hP
  · intro i ob h
    exact ⟨_, _, h.1, h.2, by decide⟩
noncomputable def rangeN (lo hi st : Int) : Nat := (Builtin.Range.rangeSize lo hi st).toNat
theorem rangeSize_nonneg (a b c : Int) : 0 ≤ Builtin.Range.rangeSize a b c := by
  unfold Builtin.Range.rangeSize
  split
  · split
    · have : 0 ≤ (b - a - 1) / c := Int.ediv_nonneg (by omega) (by omega)
      omega
    · omega
  · split
    · by_cases hc : c = 0
      · subst hc; simp
      · have : 0 ≤ (a - b - 1) / (-c) := Int.ediv_nonneg (by omega) (by omega)
        omega
    · omega
theorem WIter_range {a : Addr} {lo hi st : Int} (hh : k.A.handled = none) (ha : H a = some (.range lo hi st)) (hs : Builtin.Range.small lo hi st = true) : WIter k (.ref a) m H (rangeN lo hi st) (fun i v => v = .int (lo + i * st)) (fun _ => True) := fun x hx B s stt P E hP => by
  obtain rfl := er_ref hx
  refine Mine.hideG fun GG back => ?_
  obtain ⟨ob, ho, t, u, v, rfl⟩ := stt.own a _ ha
  refine back ?_
  clear back
  have hN : ((rangeN lo hi st : Nat) : Int) = Builtin.Range.rangeSize lo hi st := Int.toNat_of_nonneg (rangeSize_nonneg _ _ _)
  refine Mine.hideG fun GG back => ?_
  obtain ⟨h1, h2, st2⟩ := hide_new stt { cls := .type "range_iterator", data := .fields #[rawInt lo, rawInt (Builtin.Range.rangeSize lo hi st), rawInt st] } rfl
  refine back ?_
  clear back
  refine wpAny_pyIter_range ho hs (hP _ _ (fun i ob => ob = { cls := .type "range_iterator", data := .fields #[rawInt (lo + i * st), rawInt (Builtin.Range.rangeSize lo hi st - i), rawInt st] }) _ ⟨?_, ?_, ?_, ?_⟩ (by simp) h1 h2 st2)
  · intro i hlt H s ob st' hob hat _ P hP E
    rw [hat] at hob
    refine wpAny_pyNext_range_item (x := lo + i * st) (left := Builtin.Range.rangeSize lo hi st - i) (step := st) hob (by omega) fun h' hit' hs' => hP _ _ _ _ (Nat.le_succ_of_le st'.2) rfl ?_ hit' hs'
    rw [show lo + (((i + 1 : Nat) : Int)) * st = lo + (i : Int) * st + st from by rw [Int.natCast_add]; simp [Int.add_mul]; omega,
      show Builtin.Range.rangeSize lo hi st - ((i + 1 : Nat) : Int) = Builtin.Range.rangeSize lo hi st - (i : Int) - 1 from by omega]
  · intro H s ob st' hob hat _ P hP E
    rw [hat] at hob
    exact wpAny_pyNext_range_end hh (x := lo + (rangeN lo hi st : Nat) * st) (left := Builtin.Range.rangeSize lo hi st - (rangeN lo hi st : Nat)) (step := st) hob (by omega) hP
  · intro ob s P ho h hP E
    rw [h] at ho
    exact wpAny_pyIter_rangeiter ho hP
  · intro i ob h
    rw [h]
    exact ⟨_, _, rfl, rfl, by decide⟩
theorem wpAny_letGo_plain {it : Addr} {ob : Obj} {T : String} {vs : Array Value} {target : Expr} {v : Value} {s : Shared} {Q : Unit → Shared → Prop} {E : Value → Shared → Prop} {M : Model} {A : Around} (ho : s.heap.get? it = some ob) (hc : ob.cls = .type T) (hd : ob.data = .fields vs)
    (hT : ["enumerate", "zip", "dict_itemiterator", "dict_reverseitemiterator", "odict_iterator", "itertools.zip_longest", "itertools.pairwise"].contains T = false) (h : Q () s) : wpAny M A (letOwnedTupleGo target (.ref it) v) Q E s := by
  have key : wpAny M A (do
      let (.ref r, .ref a) := (Value.ref it, v) | return
      let o ← load r
      match o.cls, o.data with
      | .type n, .fields vs =>
        if ["enumerate", "zip", "dict_itemiterator", "dict_reverseitemiterator", "odict_iterator", "itertools.zip_longest", "itertools.pairwise"].contains n && vs[0]? == some (rawInt a) then
          rule "for.unpacks-the-owned-tuple"
          updateField r 0 .none
      | _, _ => pure ()) Q E s := by
    cases v with
    | ref a =>
      refine wpAny_bind (wpAny_load ho ?_)
      rw [hc, hd]
      show wpAny M A (if (["enumerate", "zip", "dict_itemiterator", "dict_reverseitemiterator", "odict_iterator", "itertools.zip_longest", "itertools.pairwise"].contains T && vs[0]? == some (rawInt a)) = true then _ else _) Q E s
      rw [hT, Bool.false_and, if_neg Bool.false_ne_true]
      exact wpAny_pure h
    | _ => exact wpAny_pure h
  cases target <;> first | exact key | exact wpAny_pure h
noncomputable def loopQ (k : Wk) (Q : Flow → Loc → AHeap → Prop) (I : Loc → AHeap → Prop) (f : Flow) (m : Loc) (H : AHeap) : Prop := match f with
  | .next | .cont => I m H
  | .brk => Q .next m H
  | .ret v => Q (.ret v) m H
theorem W_For {target iter : Expr} {body : List Stmt} {pos : Pos} {Q : Flow → Loc → AHeap → Prop}
    (h : WV k (eval iter k.env) m H fun xv m1 H1 => ∃ n R ok, ∃ I : Nat → Loc → AHeap → Prop, WIter k xv m1 H1 n R ok ∧ I 0 m1 H1 ∧ (∀ i m2 H2, I i m2 H2 → ok H2) ∧
      (∀ i x m2 H2, i < n → R i x → I i m2 H2 → WAs k target x m2 H2 fun m3 H3 => WF k (execs body k.env) m3 H3 (loopQ k Q (I (i + 1)))) ∧ (∀ m2 H2, I n m2 H2 → Q .next m2 H2))
    (hs : ∀ x, foldedSetIterable iter k.env x = pure x := by intro _; rfl) : W k (exec (.For target iter body [] pos) k.env) m H Q := fun B s st =>
  wpAny_For (wpAny_mono (h B s st) (fun x s1 hx1 => Mine.hideG fun GG back => by
    obtain ⟨m1, H1, st1, n, R, ok, I, hit, h0, hok, step, fin⟩ := hx1
    refine back ?_
    exact hit x rfl B s1 st1 _ _ fun it ob at_ s2 wk h0' hB hb st2 => codeAny_forLoop_any
      (fun j s' => ∃ i m' H' ob', j + i = n ∧ at_ i ob' ∧ I i m' H' ∧ St k.c k.o k.env (upd B it (ob', false)) m' H' s') (by
        intro j s' hg225_2
        refine Mine.hideG fun GG back => ?_
        obtain ⟨i, m', H', ob', hj, hat, hI, st'⟩ := hg225_2
        refine back ?_
        clear back
        by_cases hi : i < n
        · refine wk.item i hi H' s' ob' st'.owned (hid_at st') hat (hok _ _ _ hI) _ (fun v h' tk ob'' htk hR hat' ho hsame => ?_) _
          refine Mine.hideG fun GG back => ?_
          obtain ⟨T, vs, hc, hd, hT⟩ := wk.cls _ _ hat'
          refine back ?_
          clear back
          have st'' := st1.rehide hB hb st' hsame.extBut htk ho
          refine wpAny_letGo_plain (s := { s' with heap := h', toks := tk }) ho hc hd hT ?_
          refine wpAny_mono (step i (er v) m' H' hi hR hI v rfl _ _ st'') (fun _ s₂ ⟨m2, H2, st2, q2⟩ => ?_) fun e s₂ he => k.pass e s₂ he
          refine wpAny_mono (q2 _ _ st2) (fun f s₃ ⟨m3, H3, st3, q3⟩ => ?_) fun e s₂ he => k.pass e s₂ he
          cases f with
          | next => exact ⟨j - 1, by omega, i + 1, m3, H3, ob'', by omega, hat', q3, st3⟩
          | cont => exact ⟨j - 1, by omega, i + 1, m3, H3, ob'', by omega, hat', q3, st3⟩
          | brk => exact ⟨m3, H3, st1.but hB hb st3 (tk := s₃.toks) (Heap.ExtBut.refl _ _) st3.tk, q3⟩
          | ret v => exact ⟨m3, H3, st1.but hB hb st3 (tk := s₃.toks) (Heap.ExtBut.refl _ _) st3.tk, q3⟩
        · have hi' : i = n := by omega
          subst hi'
          refine wk.fin H' s' ob' st'.owned (hid_at st') hat (hok _ _ _ hI) _ (fun h' hk => ?_) _
          exact wpAny_execs_nil ⟨m', H', st1.but hB hb st' (tk := s'.toks) hk st'.tk, fin _ _ hI⟩)
      n ⟨0, m1, H1, ob, rfl, h0', h0, st2⟩) fun _ _ x => x) hs
theorem W_While {test : Expr} {body : List Stmt} {pos : Pos} {Q : Flow → Loc → AHeap → Prop} (I : Nat → Loc → AHeap → Prop) (n : Nat) (h0 : I n m H)
    (step : ∀ j m1 H1, I j m1 H1 → WT k test m1 H1 fun b m2 H2 => if b = true then WF k (execs body k.env) m2 H2 (loopQ k Q fun m3 H3 => ∃ i, i < j ∧ I i m3 H3) else Q .next m2 H2) :
    W k (exec (.While test body [] pos) k.env) m H Q := fun B s st =>
  wpAny_While (codeAny_whileLoop (fun j s' => ∃ m' H', I j m' H' ∧ St k.c k.o k.env B m' H' s') (by
    intro j s' hg249_2
    refine Mine.hideG fun GG back => ?_
    obtain ⟨m', H', hI, st'⟩ := hg249_2
    refine back ?_
    clear back
    refine wpAny_mono (step j m' H' hI B s' st') (fun b s₂ ⟨m2, H2, st2, q2⟩ => ?_) fun e s₂ he => k.pass e s₂ he
    cases b with
    | false =>
      rw [if_neg Bool.false_ne_true] at q2 ⊢
      exact wpAny_execs_nil ⟨m2, H2, st2, q2⟩
    | true =>
      rw [if_pos rfl] at q2 ⊢
      refine wpAny_mono (q2 _ _ st2) (fun f s₃ ⟨m3, H3, st3, q3⟩ => ?_) fun e s₂ he => k.pass e s₂ he
      cases f with
      | next => obtain ⟨i, hi, q⟩ := q3; exact ⟨i, hi, m3, H3, q, st3⟩
      | cont => obtain ⟨i, hi, q⟩ := q3; exact ⟨i, hi, m3, H3, q, st3⟩
      | brk => exact ⟨m3, H3, st3, q3⟩
      | ret v => exact ⟨m3, H3, st3, q3⟩)
    n ⟨m, H, h0, st⟩)
noncomputable def WAsL (k : Wk) : List Expr → List V → Loc → AHeap → (Loc → AHeap → Prop) → Prop
  | [], [], m, H, Q => Q m H
  | t :: ts, v :: vs, m, H, Q => WAs k t v m H fun m1 H1 => WAsL k ts vs m1 H1 Q
  | _, _, _, _, _ => False
theorem WAsL_run : ∀ (ts : List Expr) (vs : List Value) (m : Loc) (H : AHeap) (Q : Loc → AHeap → Prop), (∀ t ∈ ts, assignEach [t] k.env = [(false, assign t k.env)]) → WAsL k ts (vs.map er) m H Q → W k (assignInOrder (ts.map fun t => assign t k.env) vs) m H fun _ => Q
  | [], [], m, H, Q, _, h => W.pure h
  | t :: ts, v :: vs, m, H, Q, ht, h => W.bind (W.holding (W.mono (h v rfl) fun _ m1 H1 q => WAsL_run ts vs m1 H1 Q (fun t h => ht t (List.mem_cons_of_mem _ h)) q))
  | [], _ :: _, _, _, _, _, h => h.elim
  | _ :: _, [], _, _, _, _, h => h.elim
theorem WAs_Tup {elts : List Expr} {n : Nat} {p : Pos} {a : Addr} {xs : List V} {Q : Loc → AHeap → Prop} (hh : k.A.handled = none) (ha : H a = some (.tup xs)) (hl : elts.length = xs.length)
    (he : assignEach elts k.env = elts.map fun t => (false, assign t k.env) := by rfl) (he' : ∀ t ∈ elts, assignEach [t] k.env = [(false, assign t k.env)] := by simp [assignEach])
    (h : WAsL k elts xs m H Q) : WAs k (.Tuple elts n p) (.ref a) m H Q := fun x hx B s st => by
  obtain rfl := er_ref hx
  refine Mine.hideG fun GG back => ?_
  obtain ⟨vs, n', ho, rfl⟩ := st.tupAt ha
  refine back ?_
  clear back
  refine wpAny_assign_Tuple (items := (vs : List Value).toArray) hh ⟨_, ho, rfl, n', rfl⟩ (by rw [he]; simpa using hl) (by rw [he]; simp) fun h' hk => ?_
  have hn := st.fresh (st.none_at (Nat.le_refl _))
  have st' := st.grown (tk := s.toks) (h' := h') (fun b ob e => hk b ob (Nat.ne_of_lt (Heap.lt_size e)) e) st.tk
  have e : (assignEach elts k.env).map (·.2) = elts.map fun t => assign t k.env := by rw [he]; simp
  rw [e]
  exact WAsL_run elts vs m H Q he' h B _ st'
end
end Mine
namespace Mine
noncomputable def clOf (scope : Scope) (env : Env) : List (Str × Addr) := ((scope.names.filter fun x => x.2 == .free).map fun x => (x.1, (env.cells.lookup x.1).getD 0)).reverse
noncomputable def relabelS (scope sc : Scope) : Scope :=
  { scope with names := scope.names.map fun (n, k) => if (k == .free && sc.kind == .function && sc.names.lookup n == some .cell) then (n, .cell) else (n, k) }
noncomputable def freeNames (scope : Scope) : List Str := (scope.names.filter fun x => x.2 == .free).map (·.1)
noncomputable def compNames (scope : Scope) : List Str := (cellsFrom 0 scope.names ((freeNames scope).map fun x => (x, 0)).reverse).map (·.1)
noncomputable def compOK (scope sc : Scope) (cn : List Str) : Bool :=
  (scope.kind == .function) && decide (scope.names.map (·.1)).Nodup && scope.names.all fun x => !(x.2 == .free) || (sc.names.lookup x.1 == some .cell && cn.contains x.1)
theorem closureFor_eq {scope : Scope} {env : Env} (h : ∀ x ∈ scope.names, x.2 = .free → ∃ a, env.cells.lookup x.1 = some a) : closureFor scope env = pure (clOf scope env) := by
  unfold closureFor clOf
  have go : ∀ (names : List (Str × NameKind)) (acc : List (Str × Addr)), (∀ x ∈ names, x.2 = .free → ∃ a, env.cells.lookup x.1 = some a) →
      (forIn names acc (fun x r => match x with | (name, kind) => if kind == .free then do let a ← cellOf env name; pure (ForInStep.yield ((name, a) :: r)) else pure (ForInStep.yield r)) : Sem (List (Str × Addr)))
        = pure (((names.filter fun x => x.2 == .free).map fun x => (x.1, (env.cells.lookup x.1).getD 0)).reverse ++ acc) := by
    intro names
    induction names with
    | nil => intro acc _; rfl
    | cons x r ih =>
      intro acc h
      refine Mine.hideG fun GG back => ?_
      obtain ⟨n, κ⟩ := x
      refine back ?_
      clear back
      rw [List.forIn_cons]
      by_cases hk : κ = .free
      · subst hk
        refine Mine.hideG fun GG back => ?_
        obtain ⟨a, ha⟩ := h (n, .free) List.mem_cons_self rfl
        refine back ?_
        clear back
        simp only [beq_self_eq_true, if_true]
        have ha' : env.cells.lookup n = some a := ha
        rw [show cellOf env n = pure a from by unfold cellOf; rw [ha']]
        simp only [pure_bind]
        rw [ih _ fun x hx => h x (List.mem_cons_of_mem _ hx)]
        simp [ha']
      · have hk' : (κ == NameKind.free) = false := by cases κ <;> first | rfl | exact absurd rfl hk
        simp only [hk', Bool.false_eq_true, if_false, pure_bind]
        rw [ih _ fun x hx => h x (List.mem_cons_of_mem _ hx)]
        simp [hk']
  have := go scope.names [] h
  simp only [List.append_nil] at this
  rw [← this]
  simp only [bind_pure]
noncomputable def cenvOf (scope : Scope) (env : Env) (C : Addr) : Env :=
  { scope := relabel scope env, locals := C, globals := env.globals, cells := cellsFrom (C + 1) scope.names (clOf scope env), qual := env.qual, func := none, code := env.code, frame := env.frame, builtins := env.builtins }
theorem wpAny_compEnv {M : Model} {A : Around} {E : Value → Shared → Prop} {s : Shared} {scope : Scope} {env : Env} {Q : Env → Shared → Prop}
    (h : Q { scope := scope, locals := s.heap.objs.size, globals := env.globals, cells := cellsFrom (s.heap.objs.size + 1) scope.names (clOf scope env), qual := env.qual, func := none, code := env.code, frame := env.frame, builtins := env.builtins }
      { s with heap := pushCells (s.heap.push { cls := .type "dict", data := .dict #[] }) scope.names }) :
    wpAny M A (newFunctionEnv scope env.globals (clOf scope env) [] env.qual none .none (some env)) Q E s := by
  simp only [newFunctionEnv, Option.isSome_some, if_true]
  refine wpAny_bind (wpAny_alloc ?_)
  refine wpAny_bind (wpAny_layCells _ (fun name kind cells => by cases hkc : kind == NameKind.cell <;> simp) _ _ _ _ ?_)
  have e : ({ s with heap := s.heap.push { cls := .type "dict", data := .dict #[] } } : Shared).heap.objs.size = s.heap.objs.size + 1 := Heap.size_push ..
  rw [e]
  refine wpAny_bind (wpAny_pure ?_)
  exact wpAny_pure h
theorem cellsFrom_mem : ∀ (names : List (Str × NameKind)) (n : Nat) (acc : List (Str × Addr)) (x : Str) (a : Addr), (x, a) ∈ cellsFrom n names acc → (x, a) ∈ acc ∨ (n ≤ a ∧ (x, NameKind.cell) ∈ names)
  | [], n, acc, x, a, h => .inl h
  | (y, k) :: r, n, acc, x, a, h => by
    unfold cellsFrom at h
    split at h
    · rename_i hk
      rcases cellsFrom_mem r (n + 1) _ x a h with h | ⟨h1, h2⟩
      · rcases List.mem_cons.mp h with e | h
        · cases e; exact .inr ⟨Nat.le_refl _, by rw [eq_of_beq hk]; exact List.mem_cons_self⟩
        · exact .inl h
      · exact .inr ⟨by lia, List.mem_cons_of_mem _ h2⟩
    · rcases cellsFrom_mem r n _ x a h with h | ⟨h1, h2⟩
      · exact .inl h
      · exact .inr ⟨h1, List.mem_cons_of_mem _ h2⟩
theorem cellsFrom_lookup : ∀ (names : List (Str × NameKind)) (n : Nat) (acc : List (Str × Addr)) (x : Str), (x, NameKind.cell) ∉ names → (cellsFrom n names acc).lookup x = acc.lookup x
  | [], n, acc, x, h => rfl
  | (y, k) :: r, n, acc, x, h => by
    unfold cellsFrom
    split
    · rename_i hk
      rw [cellsFrom_lookup r (n + 1) _ x fun q => h (List.mem_cons_of_mem _ q), List.lookup_cons]
      have : (x == y) = false := by
        cases hq : x == y with
        | false => rfl
        | true => exact absurd (by rw [eq_of_beq hk, eq_of_beq hq]; exact List.mem_cons_self) h
      rw [this]
    · exact cellsFrom_lookup r n acc x fun q => h (List.mem_cons_of_mem _ q)
theorem cellsFrom_pw : ∀ (names : List (Str × NameKind)) (n : Nat) (acc : List (Str × Addr)), (acc.map (·.2)).Nodup → (∀ a ∈ acc.map (·.2), a < n) → ((cellsFrom n names acc).map (·.2)).Nodup
  | [], n, acc, h1, h2 => h1
  | (y, k) :: r, n, acc, h1, h2 => by
    unfold cellsFrom
    split
    · refine cellsFrom_pw r (n + 1) _ ?_ fun a ha => ?_
      · rw [List.map_cons, List.nodup_cons]
        exact ⟨fun q => Nat.lt_irrefl _ (h2 n q), h1⟩
      · rw [List.map_cons] at ha
        rcases List.mem_cons.mp ha with rfl | ha
        · exact Nat.lt_succ_self _
        · exact Nat.lt_succ_of_lt (h2 a ha)
    · exact cellsFrom_pw r n acc h1 h2
theorem pushCells_at : ∀ (names : List (Str × NameKind)) (h : Heap) (acc : List (Str × Addr)) (x : Str) (a : Addr), (x, a) ∈ cellsFrom h.objs.size names acc → (x, a) ∈ acc ∨ (pushCells h names).IsCell a none
  | [], h, acc, x, a, e => .inl e
  | (y, k) :: r, h, acc, x, a, e => by
    unfold cellsFrom at e
    unfold pushCells
    split at e
    · rename_i hk
      rw [if_pos hk]
      have hs : (h.push { cls := .type "cell", data := .cell none }).objs.size = h.objs.size + 1 := Heap.size_push ..
      rw [← hs] at e
      rcases pushCells_at r _ _ x a e with e | e
      · rcases List.mem_cons.mp e with e | e
        · cases e
          exact .inr ⟨_, pushCells_keeps r _ _ _ (Heap.get?_push_size _ rfl), rfl⟩
        · exact .inl e
      · exact .inr e
    · rename_i hk
      rw [if_neg hk]
      exact pushCells_at r h acc x a e
noncomputable def hideComp (env : Env) (cs : List Addr) (h : Heap) (B : BMap) : BMap := fun a => if a ∈ places env ∧ a ∉ cs then (h.get? a).map fun ob => (ob, true) else B a
noncomputable def capm (scope : Scope) (m : Loc) : Loc := fun x => if (freeNames scope).contains x then m x else none
section
variable {c : Cx} {o : Out} {env : Env} {B : BMap} {m : Loc} {H : AHeap} {s : Shared}
structure CompAt (scope : Scope) (env : Env) : Prop where
  kind : scope.kind = .function
  nodup : (scope.names.map (·.1)).Nodup
  free : ∀ x, (x, NameKind.free) ∈ scope.names → env.kindOf x = some .cell ∧ ∃ a, env.cells.lookup x = some a
theorem CompAt.of {scope : Scope} (h : compOK scope env.scope (env.cells.map (·.1)) = true) : CompAt scope env := by
  unfold compOK at h
  rw [Bool.and_eq_true, Bool.and_eq_true] at h
  refine Mine.hideG fun GG back => ?_
  obtain ⟨⟨h1, h2⟩, h3⟩ := h
  refine back ?_
  clear back
  refine ⟨by simpa using h1, of_decide_eq_true h2, fun x hx => ?_⟩
  have := List.all_eq_true.mp h3 (x, .free) hx
  simp only [beq_self_eq_true, Bool.not_true, Bool.false_or, Bool.and_eq_true, beq_iff_eq] at this
  exact ⟨this.1, lookup_of_names this.2⟩
theorem CompAt.clos {scope : Scope} (h : CompAt scope env) : closureFor scope env = pure (clOf scope env) :=
  closureFor_eq fun x hx hk => (h.free x.1 (by rw [← hk]; exact hx)).2
theorem mem_clOf {scope : Scope} {x : Str} {a : Addr} (h : (x, a) ∈ clOf scope env) : (x, NameKind.free) ∈ scope.names ∧ a = (env.cells.lookup x).getD 0 := by
  unfold clOf at h
  rw [List.mem_reverse, List.mem_map] at h
  refine Mine.hideG fun GG back => ?_
  obtain ⟨⟨y, κ⟩, hy, e⟩ := h
  obtain ⟨h1, h2⟩ := List.mem_filter.mp hy
  refine back ?_
  clear back
  simp only [Prod.mk.injEq] at e
  refine Mine.hideG fun GG back => ?_
  obtain ⟨rfl, rfl⟩ := e
  refine back ?_
  clear back
  rw [beq_iff_eq] at h2
  exact ⟨by rw [← h2]; exact h1, rfl⟩
theorem mem_freeNames {scope : Scope} {x : Str} : (freeNames scope).contains x = true ↔ (x, NameKind.free) ∈ scope.names := by
  unfold freeNames
  rw [List.contains_iff_mem, List.mem_map]
  constructor
  · intro hg163_0
    refine Mine.hideG fun GG back => ?_
    obtain ⟨⟨y, κ⟩, hy, rfl⟩ := hg163_0
    obtain ⟨h1, h2⟩ := List.mem_filter.mp hy
    refine back ?_
    clear back
    rw [beq_iff_eq] at h2
    have h2 : κ = .free := h2
    subst h2; exact h1
  · intro h
    exact ⟨(x, .free), List.mem_filter.mpr ⟨h, rfl⟩, rfl⟩
theorem lookup_of_mem_nodup {α : Type} : ∀ {l : List (Str × α)} {x : Str} {v : α}, (l.map (·.1)).Nodup → (x, v) ∈ l → l.lookup x = some v
  | (y, u) :: r, x, v, h, hm => by
    rw [List.map_cons, List.nodup_cons] at h
    rw [List.lookup_cons]
    rcases List.mem_cons.mp hm with e | hm
    · cases e; simp
    · have : (x == y) = false := by
        cases hq : x == y with
        | false => rfl
        | true => exact absurd (by rw [← eq_of_beq hq]; exact List.mem_map_of_mem (f := (·.1)) hm) h.1
      rw [this]
      exact lookup_of_mem_nodup h.2 hm
theorem nodup_rev {α : Type} {l : List α} (h : l.Nodup) : l.reverse.Nodup := List.pairwise_reverse.mpr (List.Pairwise.imp (fun q => Ne.symm q) h)
theorem clOf_names {scope : Scope} : (clOf scope env).map (·.1) = (freeNames scope).reverse := by
  unfold clOf freeNames
  rw [List.map_reverse, List.map_map]
  rfl
theorem clOf_lookup {scope : Scope} (hc : CompAt scope env) {x : Str} (hx : (x, NameKind.free) ∈ scope.names) {a : Addr} (ha : env.cells.lookup x = some a) : (clOf scope env).lookup x = some a := by
  refine lookup_of_mem_nodup ?_ ?_
  · rw [clOf_names]
    unfold freeNames
    exact nodup_rev ((List.filter_sublist.map _).nodup hc.nodup)
  · unfold clOf
    rw [List.mem_reverse, List.mem_map]
    exact ⟨(x, .free), List.mem_filter.mpr ⟨hx, rfl⟩, by rw [ha]; rfl⟩
theorem relabel_lookup {scope : Scope} (hk : env.scope.kind = .function) : ∀ {names : List (Str × NameKind)} {x : Str}, names.lookup x = some .free → env.kindOf x = some .cell →
    (names.map fun (n, k) => if (k == NameKind.free && env.scope.kind == .function && env.kindOf n == some .cell) then (n, NameKind.cell) else (n, k)).lookup x = some .cell
  | [], x, h, _ => by cases h
  | (n, κ) :: r, x, h, he => by
    rw [List.lookup_cons] at h
    rw [List.map_cons]
    show List.lookup x ((if (κ == NameKind.free && env.scope.kind == .function && env.kindOf n == some .cell) = true then (n, NameKind.cell) else (n, κ)) :: _) = _
    cases hq : x == n with
    | true =>
      rw [hq] at h
      cases h
      have hx : x = n := eq_of_beq hq
      subst hx
      simp [hk, he]
    | false =>
      rw [hq] at h
      have ih := relabel_lookup (scope := scope) hk h he
      by_cases hcnd : (κ == NameKind.free && env.scope.kind == .function && env.kindOf n == some .cell) = true
      · rw [if_pos hcnd, List.lookup_cons, hq]; exact ih
      · rw [if_neg hcnd, List.lookup_cons, hq]; exact ih
theorem addr_nodup_of_names {cs : List (Str × Addr)} (h1 : (cs.map (·.2)).Nodup) : ∀ (l : List Str), l.Nodup → (∀ x ∈ l, ∃ a, cs.lookup x = some a) → (l.map fun x => (cs.lookup x).getD 0).Nodup
  | [], _, _ => List.nodup_nil
  | x :: r, hn, hl => by
    rw [List.nodup_cons] at hn
    rw [List.map_cons, List.nodup_cons]
    refine ⟨fun q => ?_, addr_nodup_of_names h1 r hn.2 fun y hy => hl y (List.mem_cons_of_mem _ hy)⟩
    refine Mine.hideG fun GG back => ?_
    obtain ⟨y, hy, e⟩ := List.mem_map.mp q
    obtain ⟨a, ha⟩ := hl x List.mem_cons_self
    obtain ⟨b, hb⟩ := hl y (List.mem_cons_of_mem _ hy)
    refine back ?_
    clear back
    rw [ha, hb] at e
    have e : b = a := e
    subst e
    have := cell_addr h1 ha hb
    subst this
    exact hn.1 hy
theorem clOf_nodup (st : St c o env B m H s) {scope : Scope} (hc : CompAt scope env) : ((clOf scope env).map (·.2)).Nodup := by
  have e : (clOf scope env).map (·.2) = ((freeNames scope).map fun x => (env.cells.lookup x).getD 0).reverse := by
    unfold clOf freeNames
    rw [List.map_reverse, List.map_map, List.map_map]
    rfl
  rw [e]
  refine nodup_rev ?_
  refine addr_nodup_of_names (List.nodup_cons.mp st.nodup).2 _ ?_ fun x hx => (hc.free x (mem_freeNames.mp (List.contains_iff_mem.mpr hx))).2
  unfold freeNames
  exact (List.filter_sublist.map _).nodup hc.nodup
theorem St.enterComp (st : St c o env B m H s) (hke : env.scope.kind = .function) (hfat : env.frame = some env.locals ∨ ∃ f ∈ o.fs, f.frame = env.frame) {scope : Scope} (hc : CompAt scope env) :
    St c ⟨outerOf env o.fs, hideComp env ((clOf scope env).map (·.2)) s.heap B⟩ (cenvOf scope env s.heap.objs.size) (hideComp env ((clOf scope env).map (·.2)) s.heap B) (capm scope m) H
      { s with heap := pushCells (s.heap.push { cls := .type "dict", data := .dict #[] }) scope.names } := by
  have keep : ∀ b ob, s.heap.get? b = some ob → (pushCells (s.heap.push { cls := .type "dict", data := .dict #[] }) scope.names).get? b = some ob := fun b ob e => pushCells_keeps _ _ b ob (Heap.get?_push_of_some _ e)
  have clIn : ∀ a ∈ (clOf scope env).map (·.2), a ∈ env.cells.map (·.2) := fun a ha => by
    refine Mine.hideG fun GG back => ?_
    obtain ⟨⟨x, b⟩, hx, rfl⟩ := List.mem_map.mp ha
    obtain ⟨h1, h2⟩ := mem_clOf hx
    obtain ⟨_, d, hd⟩ := hc.free x h1
    refine back ?_
    clear back
    rw [hd] at h2
    have h2 : b = d := h2
    rw [h2]; exact List.mem_map_of_mem (f := (·.2)) (mem_of_lookup hd)
  have lt : ∀ a ∈ places env, a < s.heap.objs.size := fun a ha => by
    refine Mine.hideG fun GG back => ?_
    obtain ⟨ob, ho, _⟩ := st.place ha
    refine back ?_
    clear back
    exact Heap.lt_size ho
  have fresh : ∀ a, s.heap.objs.size ≤ a → H a = none ∧ hideComp env ((clOf scope env).map (·.2)) s.heap B a = none ∧ c.base.objs.size ≤ a := fun a ha => by
    refine Mine.hideG fun GG back => ?_
    obtain ⟨f1, f2, f3, f4⟩ := st.fresh (st.none_at ha)
    refine back ?_
    clear back
    exact ⟨f1, by unfold hideComp; rw [if_neg fun q => f4 q.1]; exact f2, Nat.le_trans st.baseLe ha⟩
  have hcs : (s.heap.push { cls := .type "dict", data := .dict #[] }).objs.size = s.heap.objs.size + 1 := Heap.size_push ..
  have old : ∀ a x, B a = some x → hideComp env ((clOf scope env).map (·.2)) s.heap B a = some x := fun a x e => by
    unfold hideComp
    rw [if_neg (fun q => by rw [(st.pl a q.1).2.1] at e; cases e)]
    exact e
  refine ⟨fun b ob e => keep b ob (st.base b ob e), fun b ob l e => ?_, fun b z e => ?_, fun b z e => ?_, st.disBase, fun b q => ?_, ?_, fun b e => ?_, ⟨fun _ => none, ?_, fun x v e => ?_⟩, ⟨fun e he => ?_, fun _ _ e => e⟩, st.gens, st.os, st.tk⟩
  · unfold hideComp at e
    split at e
    · cases hg : s.heap.get? b with
      | none => rw [hg] at e; cases e
      | some ob' => rw [hg] at e; cases e; exact ⟨ob.slots, keep b ob hg, fun _ => rfl⟩
    · refine Mine.hideG fun GG back => ?_
      obtain ⟨sl, e1, e2⟩ := st.keep b ob l e
      refine back ?_
      clear back
      exact ⟨sl, keep b _ e1, e2⟩
  · obtain ⟨ob, e1, e2⟩ := st.own b z e; exact ⟨ob, keep b ob e1, e2⟩
  · unfold hideComp
    rw [if_neg (fun q => by rw [(st.pl b q.1).1] at e; cases e)]
    exact st.disB b z e
  · rcases List.mem_cons.mp q with rfl | q
    · exact fresh _ (Nat.le_refl _)
    · refine Mine.hideG fun GG back => ?_
      obtain ⟨⟨x, a⟩, hx, rfl⟩ := List.mem_map.mp q
      refine back ?_
      clear back
      rcases cellsFrom_mem _ _ _ _ _ hx with h | ⟨h, _⟩
      · have hin := clIn a (List.mem_map_of_mem (f := (·.2)) h)
        refine Mine.hideG fun GG back => ?_
        obtain ⟨p1, p2, p3⟩ := st.pl a (List.mem_cons_of_mem _ hin)
        refine back ?_
        clear back
        refine ⟨p1, ?_, p3⟩
        unfold hideComp
        rw [if_neg fun q => q.2 (List.mem_map_of_mem (f := (·.2)) h)]
        exact p2
      · exact fresh a (by lia)
  · refine List.nodup_cons.mpr ⟨fun q => ?_, ?_⟩
    · refine Mine.hideG fun GG back => ?_
      obtain ⟨⟨x, a⟩, hx, e⟩ := List.mem_map.mp q
      refine back ?_
      clear back
      have e : a = s.heap.objs.size := e
      rcases cellsFrom_mem _ _ _ _ _ hx with h | ⟨h, _⟩
      · have := lt a (List.mem_cons_of_mem _ (clIn a (List.mem_map_of_mem (f := (·.2)) h)))
        rw [e] at this
        exact Nat.lt_irrefl _ this
      · rw [e] at h
        exact Nat.lt_irrefl _ h
    · exact cellsFrom_pw _ _ _ (clOf_nodup st hc) fun a ha => Nat.lt_succ_of_lt (lt a (List.mem_cons_of_mem _ (clIn a ha)))
  · refine Mine.hideG fun GG back => ?_
    obtain ⟨⟨x, a⟩, hx, rfl⟩ := List.mem_map.mp e
    refine back ?_
    clear back
    have hx' : (x, a) ∈ cellsFrom (s.heap.push { cls := .type "dict", data := .dict #[] }).objs.size scope.names (clOf scope env) := by rw [hcs]; exact hx
    rcases pushCells_at _ _ _ _ _ hx' with h | h
    · refine Mine.hideG fun GG back => ?_
      obtain ⟨v, ob, e1, e2⟩ := st.cell a (clIn a (List.mem_map_of_mem (f := (·.2)) h))
      refine back ?_
      clear back
      exact ⟨v, ob, keep a ob e1, e2⟩
    · exact ⟨_, h⟩
  · exact (Heap.Ns.new s.heap (.type "dict")).keeps (pushCells_keeps _ _)
  · unfold capm at e
    split at e
    · rename_i hf
      have hf' := mem_freeNames.mp hf
      refine Mine.hideG fun GG back => ?_
      obtain ⟨hk, a, ha⟩ := hc.free x hf'
      refine back ?_
      clear back
      have hkc : (cenvOf scope env s.heap.objs.size).kindOf x = some .cell := relabel_lookup (scope := scope) hke (lookup_of_mem_nodup hc.nodup hf') hk
      rw [hkc]
      refine Mine.hideG fun GG back => ?_
      obtain ⟨mv, hn, hv⟩ := st.var
      refine back ?_
      clear back
      have q := hv x v e
      rw [hk] at q
      refine Mine.hideG fun GG back => ?_
      obtain ⟨a', u, e1, e2, e3⟩ := q
      refine back ?_
      clear back
      rw [ha] at e1; cases e1
      refine ⟨a, u, ?_, e2.keeps keep, e3⟩
      show (cellsFrom _ scope.names (clOf scope env)).lookup x = some a
      rw [cellsFrom_lookup _ _ _ _ fun q => ?_]
      · exact clOf_lookup hc hf' ha
      · have h1 := lookup_of_mem_nodup hc.nodup hf'
        have h2 := lookup_of_mem_nodup hc.nodup q
        rw [h1] at h2; cases h2
    · cases e
  · rcases mem_outerOf (show e ∈ outerOf env o.fs from he) with ⟨rfl, hf⟩ | he
    · refine ⟨by rw [hke]; decide, e.locals, ?_⟩
      refine Mine.hideG fun GG back => ?_
      obtain ⟨ob, ho, hd⟩ := st.place (a := e.locals) List.mem_cons_self
      refine back ?_
      clear back
      refine ⟨ob, hf, ?_, ?_, hd⟩
      · unfold hideComp
        rw [if_pos ⟨List.mem_cons_self, fun q => (List.nodup_cons.mp st.nodup).1 (clIn _ q)⟩, ho]; rfl
      · exact none_ge (st.pl e.locals List.mem_cons_self).2.2
    · refine Mine.hideG fun GG back => ?_
      obtain ⟨k1, L, ob, k2, k3, k4, k5⟩ := st.frames.1 e he
      refine back ?_
      clear back
      exact ⟨k1, L, ob, k2, old L _ k3, k4, k5⟩
theorem St.leaveComp (st : St c o env B m H s) {scope : Scope} (hc : CompAt scope env) {C : Addr} {B' : BMap} {m' : Loc} {H' : AHeap} {s' : Shared}
    (st' : St c ⟨outerOf env o.fs, hideComp env ((clOf scope env).map (·.2)) s.heap B⟩ (cenvOf scope env C) B' m' H' s') (hke : env.scope.kind = .function)
    (hcap : ∀ x v, capm scope m x = some v → m' x = some v) : St c o env B m H' s' := by
  have cellIn : ∀ x a, env.cells.lookup x = some a → a ∈ (clOf scope env).map (·.2) → (x, NameKind.free) ∈ scope.names := fun x a hx ha => by
    refine Mine.hideG fun GG back => ?_
    obtain ⟨⟨y, b⟩, hy, e⟩ := List.mem_map.mp ha
    refine back ?_
    clear back
    have e : b = a := e
    subst e
    refine Mine.hideG fun GG back => ?_
    obtain ⟨h1, h2⟩ := mem_clOf hy
    obtain ⟨_, d, hd⟩ := hc.free y h1
    refine back ?_
    clear back
    rw [hd] at h2
    have h2 : b = d := h2
    subst h2
    rw [cell_addr (List.nodup_cons.mp st.nodup).2 hx hd]; exact h1
  have hid : ∀ a ∈ places env, a ∉ (clOf scope env).map (·.2) → ∃ ob sl, s.heap.get? a = some ob ∧ s'.heap.get? a = some { ob with slots := sl } ∧ H' a = none := fun a ha hn => by
    refine Mine.hideG fun GG back => ?_
    obtain ⟨ob, ho, _⟩ := st.place ha
    refine back ?_
    clear back
    have hB : B' a = some (ob, true) := st'.frames.2 _ _ (by show hideComp _ _ _ _ a = _; unfold hideComp; rw [if_pos ⟨ha, hn⟩, ho]; rfl)
    refine Mine.hideG fun GG back => ?_
    obtain ⟨sl, e1, _⟩ := st'.keep a ob true hB
    refine back ?_
    clear back
    refine ⟨ob, sl, ho, e1, ?_⟩
    cases hb : H' a with
    | none => rfl
    | some y => have := st'.disB a y hb; rw [hB] at this; cases this
  have old : ∀ a x, B a = some x → B' a = some x := fun a x e => st'.frames.2 _ _ <| by
    show hideComp _ _ _ _ a = some x
    unfold hideComp
    rw [if_neg (fun q => by rw [(st.pl a q.1).2.1] at e; cases e)]
    exact e
  have inPl : ∀ a ∈ (clOf scope env).map (·.2), a ∈ places (cenvOf scope env C) := fun a ha => by
    refine Mine.hideG fun GG back => ?_
    obtain ⟨⟨x, b⟩, hx, e⟩ := List.mem_map.mp ha
    refine back ?_
    clear back
    have e : b = a := e
    subst e
    refine Mine.hideG fun GG back => ?_
    obtain ⟨h1, h2⟩ := mem_clOf hx
    obtain ⟨_, d, hd⟩ := hc.free x h1
    refine back ?_
    clear back
    have hl := clOf_lookup hc h1 hd
    rw [hd] at h2
    have h2 : b = d := h2
    subst h2
    refine List.mem_cons_of_mem _ ?_
    show b ∈ (cellsFrom _ scope.names (clOf scope env)).map (·.2)
    refine List.mem_map_of_mem (f := (·.2)) (PySem.mem_of_lookup (n := x) ?_)
    rw [cellsFrom_lookup _ _ _ _ fun q => ?_]
    · exact hl
    · have h3 := lookup_of_mem_nodup hc.nodup h1
      have h4 := lookup_of_mem_nodup hc.nodup q
      rw [h3] at h4; cases h4
  have cellSt : ∀ a ∈ env.cells.map (·.2), ∃ v, s'.heap.IsCell a v := fun a ha => by
    by_cases hin : a ∈ (clOf scope env).map (·.2)
    · have hp := inPl a hin
      rcases List.mem_cons.mp hp with e | hp
      · exfalso
        have e : a = C := e
        have h1 := (List.nodup_cons.mp st'.nodup).1
        rw [show (cenvOf scope env C).locals = C from rfl] at h1
        refine h1 ?_
        rw [← e]
        refine Mine.hideG fun GG back => ?_
        obtain ⟨⟨x, b⟩, hx, e'⟩ := List.mem_map.mp hin
        refine back ?_
        clear back
        have e' : b = a := e'
        subst e'
        refine Mine.hideG fun GG back => ?_
        obtain ⟨g1, g2⟩ := mem_clOf hx
        obtain ⟨_, d, hd⟩ := hc.free x g1
        refine back ?_
        clear back
        have hl := clOf_lookup hc g1 hd
        rw [hd] at g2
        have g2 : b = d := g2
        subst g2
        show b ∈ (cellsFrom _ scope.names (clOf scope env)).map (·.2)
        refine List.mem_map_of_mem (f := (·.2)) (PySem.mem_of_lookup (n := x) ?_)
        rw [cellsFrom_lookup _ _ _ _ fun q => ?_]
        · exact hl
        · have h3 := lookup_of_mem_nodup hc.nodup g1
          have h4 := lookup_of_mem_nodup hc.nodup q
          rw [h3] at h4; cases h4
      · exact st'.cell a hp
    · refine Mine.hideG fun GG back => ?_
      obtain ⟨v, ob, e1, e2⟩ := st.cell a ha
      obtain ⟨ob', sl, h1, h2, _⟩ := hid a (List.mem_cons_of_mem _ ha) hin
      refine back ?_
      clear back
      rw [e1] at h1; cases h1
      exact ⟨v, _, h2, e2⟩
  have locNot : env.locals ∉ (clOf scope env).map (·.2) := fun q => by
    refine Mine.hideG fun GG back => ?_
    obtain ⟨⟨x, b⟩, hx, e⟩ := List.mem_map.mp q
    refine back ?_
    clear back
    have e : b = env.locals := e
    refine Mine.hideG fun GG back => ?_
    obtain ⟨g1, g2⟩ := mem_clOf hx
    obtain ⟨_, d, hd⟩ := hc.free x g1
    refine back ?_
    clear back
    rw [hd] at g2
    have g2 : b = d := g2
    exact (List.nodup_cons.mp st.nodup).1 (by rw [← e, g2]; exact List.mem_map_of_mem (f := (·.2)) (mem_of_lookup hd))
  refine ⟨st'.base, fun b ob l e => st'.keep b ob l (old b _ e), st'.own, fun b x e => ?_, st'.disBase, fun b q => ?_, st.nodup, cellSt, ?_, st.frames, st'.gens, st'.os, st'.tk⟩
  · have h1 := st'.disB b x e
    cases hb : B b with
    | none => rfl
    | some y => rw [old b y hb] at h1; cases h1
  · refine Mine.hideG fun GG back => ?_
    obtain ⟨e1, e2, e3⟩ := st.pl b q
    refine back ?_
    clear back
    refine ⟨?_, e2, e3⟩
    by_cases hin : b ∈ (clOf scope env).map (·.2)
    · exact (st'.pl b (inPl b hin)).1
    · refine Mine.hideG fun GG back => ?_
      obtain ⟨_, _, _, _, h⟩ := hid b q hin
      refine back ?_
      clear back
      exact h
  · refine Mine.hideG fun GG back => ?_
    obtain ⟨mv, ⟨ob, es, ep, ho, hd, hk, hf⟩, hv⟩ := st.var
    obtain ⟨ob', sl, h1, h2, _⟩ := hid env.locals List.mem_cons_self locNot
    refine back ?_
    clear back
    rw [ho] at h1; cases h1
    refine ⟨mv, ⟨_, es, ep, h2, hd, hk, hf⟩, fun x v e => ?_⟩
    have cellK : ∀ a z, env.cells.lookup x = some a → s.heap.IsCell a (some z) → er z = v → ∃ u, s'.heap.IsCell a (some u) ∧ er u = v := fun a z ha ⟨ob, ho, hd⟩ hz => by
      have ham := List.mem_map_of_mem (f := (·.2)) (mem_of_lookup ha)
      by_cases hin : a ∈ (clOf scope env).map (·.2)
      · have hfree := cellIn x a ha hin
        have hcm : capm scope m x = some v := by unfold capm; rw [if_pos (mem_freeNames.mpr hfree)]; exact e
        refine Mine.hideG fun GG back => ?_
        obtain ⟨mv', hn', hv'⟩ := st'.var
        refine back ?_
        clear back
        have q := hv' x v (hcap x v hcm)
        have hkc : (cenvOf scope env C).kindOf x = some .cell := relabel_lookup (scope := scope) hke (lookup_of_mem_nodup hc.nodup hfree) (hc.free x hfree).1
        rw [hkc] at q
        refine Mine.hideG fun GG back => ?_
        obtain ⟨a', u, e1, e2, e3⟩ := q
        refine back ?_
        clear back
        have e1' : (cellsFrom (C + 1) scope.names (clOf scope env)).lookup x = some a' := e1
        rw [cellsFrom_lookup _ _ _ _ fun q => ?_, clOf_lookup hc hfree ha] at e1'
        · cases e1'
          exact ⟨u, e2, e3⟩
        · have h3 := lookup_of_mem_nodup hc.nodup hfree
          have h4 := lookup_of_mem_nodup hc.nodup q
          rw [h3] at h4; cases h4
      · refine Mine.hideG fun GG back => ?_
        obtain ⟨ob', sl, g1, g2, _⟩ := hid a (List.mem_cons_of_mem _ ham) hin
        refine back ?_
        clear back
        rw [ho] at g1; cases g1
        exact ⟨z, ⟨_, g2, hd⟩, hz⟩
    have q := hv x v e
    split at q
    · exact q
    · refine Mine.hideG fun GG back => ?_
      obtain ⟨a, u, e1, e2, e3⟩ := q
      obtain ⟨u', g1, g2⟩ := cellK a u e1 e2 e3
      refine back ?_
      clear back
      exact ⟨a, u', e1, g1, g2⟩
    · refine Mine.hideG fun GG back => ?_
      obtain ⟨a, u, e1, e2, e3⟩ := q
      obtain ⟨u', g1, g2⟩ := cellK a u e1 e2 e3
      refine back ?_
      clear back
      exact ⟨a, u', e1, g1, g2⟩
    · exact q
end
end Mine
namespace Mine
structure CompK (k : Wk) (scope : Scope) (kc : Wk) : Prop where
  c : kc.c = k.c
  A : kc.A = k.A
  sc : kc.env.scope = relabelS scope k.env.scope
  cn : kc.env.cells.map (·.1) = compNames scope
  X : kc.X = fun _ _ _ _ => False
theorem CompK.senv {k kc : Wk} {scope sc : Scope} {cn : List Str} (h : CompK k scope kc) [I : SEnv k sc cn] : SEnv kc (relabelS scope sc) (compNames scope) := ⟨by rw [h.sc, I.sc], h.cn⟩
noncomputable def Caps (scope : Scope) (m mc : Loc) : Prop := ∀ x v, capm scope m x = some v → mc x = some v
theorem Caps.get {scope : Scope} {m mc : Loc} (h : Caps scope m mc) {x : Str} {v : V} (hm : m x = some v) (hx : (freeNames scope).contains x = true) : mc x = some v :=
  h x v (by unfold capm; rw [if_pos hx]; exact hm)
noncomputable def tests (ifs : List Expr) (env : Env) : Sem Bool := forIn ifs true fun c r => if r = true then do let ok ← isTrue c env (eval c env); pure (ForInStep.yield ok) else pure (ForInStep.yield r)
theorem W_tests_nil {k : Wk} {m : Loc} {H : AHeap} {Q : Bool → Loc → AHeap → Prop} (h : Q true m H) : W k (tests [] k.env) m H Q := W.pure h
theorem W_tests_one {k : Wk} {m : Loc} {H : AHeap} {c : Expr} {Q : Bool → Loc → AHeap → Prop} (h : WT k c m H Q) : W k (tests [c] k.env) m H Q := fun B s st => wpAny_tests_one (h B s st)
theorem upd_comm {β : Type} {f : Addr → Option β} {a b : Addr} {x y : β} (h : a ≠ b) : upd (upd f a x) b y = upd (upd f b y) a x := by
  funext z
  unfold upd
  by_cases h1 : z = b
  · by_cases h2 : z = a
    · exact absurd (h2.symm.trans h1) h
    · rw [if_pos h1, if_neg h2, if_pos h1]
  · by_cases h2 : z = a
    · rw [if_neg h1, if_pos h2, if_pos h2]
    · rw [if_neg h1, if_neg h2, if_neg h2, if_neg h1]
section
variable {c : Cx} {o : Out} {env : Env} {B : BMap} {m : Loc} {H : AHeap} {s : Shared}
theorem St.hid2 {a b : Addr} {x : Obj} {y : Obj × Bool} (st : St c o env (upd (upd B a (x, false)) b y) m H s) (h : a ≠ b) : s.heap.get? a = some x := by
  rw [upd_comm h] at st
  exact hid_at st
theorem St.placeData (st : St c o env B m H s) {a : Addr} (h : a ∈ places env) : ∃ ob, s.heap.get? a = some ob ∧ ((∃ es ep, ob.data = .dict es ep) ∨ ∃ v, ob.data = .cell v) := by
  rcases List.mem_cons.mp h with rfl | h
  · refine Mine.hideG fun GG back => ?_
    obtain ⟨mv, hq47⟩ := st.var
    obtain ⟨ob, es, ep, ho, hd, _⟩ := hq47.1
    refine back ?_
    clear back
    clear hq47
    exact ⟨ob, ho, .inl ⟨es, ep, hd⟩⟩
  · refine Mine.hideG fun GG back => ?_
    obtain ⟨v, ob, hq49⟩ := st.cell a h
    refine back ?_
    clear back
    have ho := hq49.1
    have hd := hq49.2
    clear hq49
    exact ⟨ob, ho, .inr ⟨v, hd⟩⟩
theorem St.but' {it : Addr} {ob : Obj} (hB : B it = none) (he : o.ext it = none) (hb : c.base.objs.size ≤ it) (st : St c o env (upd B it (ob, false)) m H s) {h' : Heap} {tk : Nat} (hk : Heap.ExtBut it s.heap h') (ht : 1 ≤ tk) :
    St c o env B m H { s with heap := h', toks := tk } := by
  have q : ∀ b y, B b = some y → upd B it (ob, false) b = some y := fun b y e => upd_fresh hB e
  have r : ∀ b, upd B it (ob, false) b = none → B b = none := fun b e => by
    cases h : B b with
    | none => rfl
    | some y => rw [q b y h] at e; cases e
  have hHit : ∀ b y, H b = some y → b ≠ it := fun b y e z => by
    have := st.disB b y e
    rw [z, upd_same] at this; cases this
  have hpit : ∀ b ∈ places env, b ≠ it := fun b hb z => by
    have := (st.pl b hb).2.1
    rw [z, upd_same] at this; cases this
  have hbase : ∀ b ob, c.base.get? b = some ob → b ≠ it := fun b ob e z => by
    rw [z, none_ge hb] at e; cases e
  refine ⟨fun b ob e => hk b ob (hbase b ob e) (st.base b ob e), fun b ob l e => ?_, fun b y e => ?_, fun b y e => r b (st.disB b y e), st.disBase, fun b z => ⟨(st.pl b z).1, r b (st.pl b z).2.1, (st.pl b z).2.2⟩, st.nodup, fun b e => ?_, ?_, ⟨fun e he => ?_, fun b y e => ?_⟩, st.gens, st.os, ht⟩
  · refine Mine.hideG fun GG back => ?_
    obtain ⟨sl, hq69⟩ := st.keep b ob l (q b _ e)
    refine back ?_
    clear back
    have e1 := hq69.1
    have e2 := hq69.2
    clear hq69
    exact ⟨sl, hk b _ (fun z => by rw [z, hB] at e; cases e) e1, e2⟩
  · refine Mine.hideG fun GG back => ?_
    obtain ⟨ob, hq71⟩ := st.own b y e
    refine back ?_
    clear back
    have e1 := hq71.1
    have e2 := hq71.2
    clear hq71
    exact ⟨ob, hk b ob (hHit b y e) e1, e2⟩
  · refine Mine.hideG fun GG back => ?_
    obtain ⟨v, ob, hq73⟩ := st.cell b e
    refine back ?_
    clear back
    have e1 := hq73.1
    have e2 := hq73.2
    clear hq73
    exact ⟨v, ob, hk b ob (hpit b (List.mem_cons_of_mem _ e)) e1, e2⟩
  · exact var_keeps (fun b hb' ob e => hk b ob (hpit b hb') e) st.var
  · refine Mine.hideG fun GG back => ?_
    obtain ⟨k1, L, ob', hq76⟩ := st.frames.1 e he
    refine back ?_
    clear back
    have k2 := hq76.1
    have k3 := hq76.2.1
    have k4 := hq76.2.2.1
    have k5 := hq76.2.2.2
    clear hq76
    refine ⟨k1, L, ob', k2, ?_, k4, k5⟩
    rcases upd_some k3 with ⟨_, e'⟩ | ⟨_, e'⟩
    · cases e'
    · exact e'
  · rcases upd_some (st.frames.2 b y e) with ⟨rfl, _⟩ | ⟨_, e'⟩
    · rw [he] at e; cases e
    · exact e'
theorem St.rehide' {it : Addr} {ob : Obj} (hB : B it = none) (he : o.ext it = none) (hb : c.base.objs.size ≤ it) (st : St c o env (upd B it (ob, false)) m H s) {h' : Heap} {tk : Nat} (hk : Heap.ExtBut it s.heap h') (ht : 1 ≤ tk) {ob' : Obj} (ho : h'.get? it = some ob') :
    St c o env (upd B it (ob', false)) m H { s with heap := h', toks := tk } := by
  refine (St.but' hB he hb st hk ht).hide (l := false) ho ?_ (fun z => ?_) hB
  · cases e : H it with
    | none => rfl
    | some y => have := st.disB it y e; rw [upd_same] at this; cases this
  · have := (st.pl it z).2.1
    rw [upd_same] at this; cases this
theorem St.adopt (st : St c o env B m H s) {a : Addr} {y : AObj} (hy : ∃ ob, s.heap.get? a = some ob ∧ IsObj c ob y) (hH : H a = none) (hB : B a = none) (hp : a ∉ places env) (hb : c.base.objs.size ≤ a) : St c o env B m (upd H a y) s := by
  refine ⟨st.base, st.keep, fun b z e => ?_, fun b z e => ?_, fun b z e => ?_, fun b q => ?_, st.nodup, st.cell, st.var, st.frames, st.gens, st.os, st.tk⟩
  · rcases upd_some e with ⟨rfl, rfl⟩ | ⟨ne, e⟩
    · exact hy
    · exact st.own b z e
  · rcases upd_some e with ⟨rfl, rfl⟩ | ⟨ne, e⟩
    · exact hB
    · exact st.disB b z e
  · rcases upd_some e with ⟨rfl, rfl⟩ | ⟨ne, e⟩
    · exact hb
    · exact st.disBase b z e
  · have hq105 := st.pl b q
    have e1 := hq105.1
    have e2 := hq105.2.1
    have e3 := hq105.2.2
    clear hq105
    exact ⟨by unfold upd; rw [if_neg (fun z => by subst z; exact hp q)]; exact e1, e2, e3⟩
end
section
variable {k : Wk} {m : Loc} {H : AHeap}
noncomputable def compWk (k : Wk) (B : BMap) (scope : Scope) (s : Shared) (hk : scope.kind = .function) (st : ∃ m H, St k.c k.o k.env B m H s) : Wk where
  c := k.c
  A := k.A
  o := ⟨outerOf k.env k.o.fs, hideComp k.env ((clOf scope k.env).map (·.2)) s.heap B⟩
  env := cenvOf scope k.env s.heap.objs.size
  E := fun _ _ => False
  X := fun _ _ _ _ => False
  here := False
  pass := PassesOwn.never
  fly := fun _ _ _ _ _ _ _ _ _ h => h
  made := fun h => h.elim
  kind := hk
  glob := k.glob
  blt := k.blt
  frames := by
    rw [k.frames]
    congr 1
    refine Mine.hideG fun GG back => ?_
    obtain ⟨m, H, st⟩ := st
    refine back ?_
    clear back
    have lt : ∀ a, (∃ ob, s.heap.get? a = some ob) → a ≠ s.heap.objs.size := fun a ⟨ob, e⟩ => Nat.ne_of_lt (Heap.lt_size e)
    have hne : k.env.frame ≠ some s.heap.objs.size := fun q => by
      rcases k.fat with h | ⟨f, hf, h⟩
      · rw [h] at q
        refine Mine.hideG fun GG back => ?_
        obtain ⟨ob, ho, _⟩ := st.place (a := k.env.locals) List.mem_cons_self
        refine back ?_
        clear back
        exact lt _ ⟨ob, ho⟩ (Option.some.inj q)
      · refine Mine.hideG fun GG back => ?_
        obtain ⟨_, L, ob, k2, k3, _⟩ := st.frames.1 f hf
        refine back ?_
        clear back
        rw [← h, k2] at q
        refine Mine.hideG fun GG back => ?_
        obtain ⟨sl, e1, _⟩ := st.keep L ob true k3
        refine back ?_
        clear back
        exact lt _ ⟨_, e1⟩ (Option.some.inj q)
    show outerOf k.env k.o.fs = outerOf (cenvOf scope k.env s.heap.objs.size) (outerOf k.env k.o.fs)
    exact (if_neg (show ¬ (cenvOf scope k.env s.heap.objs.size).frame = some (cenvOf scope k.env s.heap.objs.size).locals from hne)).symm
  fat := by
    right
    rcases k.fat with h | ⟨f, hf, h⟩
    · exact ⟨k.env, by show k.env ∈ outerOf k.env k.o.fs; unfold outerOf; rw [if_pos h]; exact List.mem_cons_self, rfl⟩
    · refine ⟨f, ?_, h⟩
      show f ∈ outerOf k.env k.o.fs
      unfold outerOf
      split
      · exact List.mem_cons_of_mem _ hf
      · exact hf
theorem compWk_K {B : BMap} {scope : Scope} {s : Shared} {hk : scope.kind = .function} {st : ∃ m H, St k.c k.o k.env B m H s} : CompK k scope (compWk k B scope s hk st) := by
  refine ⟨rfl, rfl, rfl, ?_, rfl⟩
  show (cellsFrom _ scope.names (clOf scope k.env)).map (·.1) = compNames scope
  unfold compNames
  refine cellsFrom_map _ _ _ _ _ ?_
  rw [clOf_names, List.map_reverse, List.map_map]
  congr 1
  exact (List.map_id _).symm
theorem comp_list {elt iter : Expr} {x : Str} {px : Pos} {ifs : List Expr} {scope : Scope} {pos : Pos} {RR : Value → Addr → Result → Shared → Prop} {E : Value → Shared → Prop}
    (hc : CompAt scope k.env) {n : Nat} {R : Nat → V → Prop} {ok : AHeap → Prop} (I : Nat → List V → AHeap → Prop) {xv : Value} (hit : WIter k (er xv) m H n R ok) (h0 : I 0 [] H) (hok : ∀ i acc H2, I i acc H2 → ok H2) (hn : n ≤ sizeLine)
    (hx : ∀ kc, CompK k scope kc → storable kc.env x = true)
    (step : ∀ kc, CompK k scope kc → ∀ i v acc mc H2, i < n → R i v → I i acc H2 → Caps scope m mc → mc x = some v → W kc (tests ifs kc.env) mc H2 fun b m3 H3 => m3 = mc ∧ if b = true then WV kc (eval elt kc.env) mc H3 fun u m4 H4 => m4 = mc ∧ I (i + 1) (acc ++ [u]) H4 else I (i + 1) acc H3)
    (hcx : (freeNames scope).contains x = false)
    {B : BMap} {s : Shared} (st : St k.c k.o k.env B m H s)
    (hRR : ∀ D C obC acc H' s', B C = none → k.c.base.objs.size ≤ C → (∃ mC, s'.heap.Ns C mC) → St k.c k.o k.env (upd B C (obC, false)) m (upd H' D (.list acc)) s' → H' D = none → acc.length ≤ n → I n acc H' → RR (.ref D) C (.ok .next) s') :
    wpAny (model k.c.prog k.c.w) k.A (pyIter xv) (fun it s2 => wpAny (model k.c.prog k.c.w) k.A (newList []) (fun acc s3 => wpAny (model k.c.prog k.c.w) k.A (newFunctionEnv scope k.env.globals (clOf scope k.env) [] k.env.qual none .none (some k.env)) (fun cenv s4 =>
      codeAny (model k.c.prog k.c.w) k.A (.compStart (.ListComp elt [⟨.Name x px, iter, ifs, 0⟩] scope pos) 0 it acc { cenv with scope := relabel scope k.env }) (RR acc cenv.locals) s4) E s3) E s2) E s := by
  refine hit xv rfl B s st _ _ fun it ob0 at_ s2 wk hat0 hBit hbit st2 => ?_
  refine wpAny_newObj_type ?_ (by show (([] : List Value).toArray).size ≤ sizeLine; simp)
  refine wpAny_compEnv ?_
  -- the state with all of these made
  have hitAt := hid_at st2
  have hitlt : it < s2.heap.objs.size := Heap.lt_size hitAt
  have stA := st.unhide hBit st2
  have stB := stA.grown (tk := s2.toks) (h' := s2.heap.push { cls := .type "list", data := .seq ([] : List Value).toArray }) (fun b ob e => Heap.get?_push_of_some _ e) st2.tk
  have hD1 : (s2.heap.push { cls := .type "list", data := .seq ([] : List Value).toArray }).get? s2.heap.objs.size = some { cls := .type "list", data := .seq ([] : List Value).toArray } := Heap.get?_push_size _ rfl
  have hsz : (s2.heap.push { cls := .type "list", data := .seq ([] : List Value).toArray }).objs.size = s2.heap.objs.size + 1 := Heap.size_push ..
  refine Mine.hideG fun GG back => ?_
  obtain ⟨fD1, fD2, fD3, fD4⟩ := stA.fresh (stA.none_at (Nat.le_refl s2.heap.objs.size))
  obtain ⟨fC1, fC2, fC3, fC4⟩ := stB.fresh (stB.none_at (Nat.le_refl _))
  refine back ?_
  clear back
  have hbD : k.c.base.objs.size ≤ s2.heap.objs.size := stA.baseLe
  have hbC := stB.baseLe
  have st4 := stB.enterComp k.kind k.fat hc
  obtain ⟨kc, hkc, hkl, hko, leave, st4', hE, hknd⟩ : ∃ kc : Wk, (CompK k scope kc) ∧ (kc.env.locals = ({ s2 with heap := s2.heap.push { cls := .type "list", data := .seq ([] : List Value).toArray } } : Shared).heap.objs.size) ∧ (kc.o.ext = hideComp k.env ((clOf scope k.env).map (·.2)) ({ s2 with heap := s2.heap.push { cls := .type "list", data := .seq ([] : List Value).toArray } } : Shared).heap B) ∧ (∀ {B' m' H' s'}, St k.c kc.o kc.env B' m' H' s' → Caps scope m m' → St k.c k.o k.env B m H' s') ∧ (St k.c kc.o kc.env kc.o.ext (capm scope m) H _) ∧ (kc.E = fun _ _ => False) ∧ (kc.env = { scope := relabel scope k.env, locals := ({ s2 with heap := s2.heap.push { cls := .type "list", data := .seq ([] : List Value).toArray } } : Shared).heap.objs.size, globals := k.env.globals, cells := cellsFrom (({ s2 with heap := s2.heap.push { cls := .type "list", data := .seq ([] : List Value).toArray } } : Shared).heap.objs.size + 1) scope.names (clOf scope k.env), qual := k.env.qual, func := none, code := k.env.code, frame := k.env.frame, builtins := k.env.builtins }) := ⟨compWk k B scope { s2 with heap := s2.heap.push { cls := .type "list", data := .seq ([] : List Value).toArray } } hc.kind ⟨m, H, stB⟩, compWk_K, rfl, rfl, (fun st' hcap => stB.leaveComp hc st' k.kind hcap), st4, rfl, rfl⟩
  rw [← hknd]
  refine Mine.hideG fun GG back => ?_
  obtain ⟨kcc, kcA, _, _, _⟩ := id hkc
  refine back ?_
  clear back
  have extIt : kc.o.ext it = none := by
    rw [hko]; unfold hideComp
    rw [if_neg fun q => ?_]
    · exact hBit
    · have := (st2.pl it q.1).2.1
      rw [upd_same] at this; cases this
  have extD : kc.o.ext s2.heap.objs.size = none := by
    rw [hko]; unfold hideComp
    rw [if_neg fun q => fD4 q.1]
    exact fD2
  have keep4 : ∀ b ob, (s2.heap.push { cls := .type "list", data := .seq ([] : List Value).toArray }).get? b = some ob → (pushCells ((s2.heap.push { cls := .type "list", data := .seq ([] : List Value).toArray }).push { cls := .type "dict", data := .dict #[] }) scope.names).get? b = some ob :=
    fun b ob e => pushCells_keeps _ _ b ob (Heap.get?_push_of_some _ e)
  have hitD : s2.heap.objs.size ≠ it := Nat.ne_of_gt hitlt
  refine Mine.hideG fun GG back => ?_
  obtain ⟨T0, vs0, hc0, hd0, _⟩ := wk.cls 0 ob0 hat0
  refine back ?_
  clear back
  have st5 := st4'.hide (a := s2.heap.objs.size) (l := false) (keep4 _ _ hD1) fD1 (fun q => by
    refine Mine.hideG fun GG back => ?_
    obtain ⟨ob, ho, h⟩ := st4'.placeData q
    refine back ?_
    clear back
    rw [keep4 _ _ hD1] at ho; cases ho
    rcases h with ⟨_, _, h⟩ | ⟨_, h⟩ <;> cases h) extD
  have st6 := st5.hide (a := it) (l := false) (keep4 _ _ (Heap.get?_push_of_some _ hitAt)) (by
    cases e : H it with
    | none => rfl
    | some y => have := st2.disB it y e; rw [upd_same] at this; cases this) (fun q => by
    refine Mine.hideG fun GG back => ?_
    obtain ⟨ob, ho, h⟩ := st5.placeData q
    refine back ?_
    clear back
    rw [keep4 _ _ (Heap.get?_push_of_some _ hitAt)] at ho; cases ho
    rcases h with ⟨_, _, h⟩ | ⟨_, h⟩ <;> (rw [hd0] at h; cases h)) (by unfold upd; rw [if_neg (Ne.symm hitD)]; exact extIt)
  have hB1 : ∀ x : Obj × Bool, upd kc.o.ext s2.heap.objs.size x it = none := fun x => by unfold upd; rw [if_neg (Ne.symm hitD)]; exact extIt
  have hB2 : ∀ x : Obj × Bool, upd kc.o.ext it x s2.heap.objs.size = none := fun x => by unfold upd; rw [if_neg hitD]; exact extD
  have loop : ∀ s', (∃ i acc H' ob vs cnt mc, 0 + i = 0 ∧ at_ i ob ∧ I i acc H' ∧ (vs : List Value).map er = acc ∧ acc.length ≤ i ∧ Caps scope m mc ∧ St k.c kc.o kc.env (upd (upd kc.o.ext s2.heap.objs.size ({ cls := .type "list", data := .seq vs.toArray cnt }, false)) it (ob, false)) mc H' s') →
      codeAny (model k.c.prog k.c.w) k.A (.compLoop (.ListComp elt [⟨.Name x px, iter, ifs, 0⟩] scope pos) 0 (.ref it) (.ref s2.heap.objs.size) kc.env) (RR (.ref s2.heap.objs.size) (s2.heap.push { cls := .type "list", data := .seq ([] : List Value).toArray }).objs.size) s' := by
    intro s' hs'
    refine codeAny_compLoop_tests (fun j s' => ∃ i acc H' ob vs cnt mc, j + i = n ∧ at_ i ob ∧ I i acc H' ∧ (vs : List Value).map er = acc ∧ acc.length ≤ i ∧ Caps scope m mc ∧ St k.c kc.o kc.env (upd (upd kc.o.ext s2.heap.objs.size ({ cls := .type "list", data := .seq vs.toArray cnt }, false)) it (ob, false)) mc H' s') ?_ n ?_
    · intro j s' hg251_2
      refine Mine.hideG fun GG back => ?_
      obtain ⟨i, acc, H', ob, vs, cnt, mc, hj, hat, hI, hvs, hal, hcap, st'⟩ := hg251_2
      refine back ?_
      clear back
      by_cases hi : i < n
      · refine wk.item i hi H' s' ob st'.owned (hid_at st') hat (hok _ _ _ hI) _ (fun v h' tk ob'' htk hR hat' ho hsame => ?_) _
        have st7 := St.rehide' (hB1 _) extIt hbit st' hsame.extBut htk ho
        have hsx := hx kc hkc
        have hass := W_bindName (k := kc) (x := x) (v := v) (Q := fun _ m' H2 => m' = setL mc x (er v) ∧ H2 = H') hsx ⟨rfl, rfl⟩ _ _ (by rw [kcc]; exact st7)
        rw [kcc, kcA, hE] at hass
        show wpAny _ _ (do standAt px; bindName kc.env x v) _ _ _
        refine wpAny_bind (wpAny_standAt ?_)
        refine wpAny_mono hass (fun _ s₂ q => ?_) (fun _ _ h => h.elim)
        refine Mine.hideG fun GG back => ?_
        obtain ⟨m', H2, st8, rfl, rfl⟩ := q
        refine back ?_
        clear back
        have hcap' : Caps scope m (setL mc x (er v)) := fun y u e => by
          have hyx : y ≠ x := fun q => by
            subst q
            unfold capm at e
            rw [if_neg (by rw [hcx]; exact Bool.false_ne_true)] at e; cases e
          unfold setL; rw [if_neg hyx]; exact hcap y u e
        have hstep := step kc hkc i (er v) acc (setL mc x (er v)) H2 hi hR hI hcap' setL_same _ _ (by rw [kcc]; exact st8)
        rw [kcc, kcA, hE] at hstep
        refine wpAny_mono hstep (fun b s₃ q => ?_) (fun _ _ h => h.elim)
        refine Mine.hideG fun GG back => ?_
        obtain ⟨m3, H3, st9, rfl, q⟩ := q
        refine back ?_
        clear back
        cases b with
        | false =>
          rw [if_neg Bool.false_ne_true] at q ⊢
          exact ⟨j - 1, by lia, i + 1, acc, H3, ob'', vs, cnt, _, by lia, hat', q, hvs, by lia, hcap', st9⟩
        | true =>
          rw [if_pos rfl] at q ⊢
          have q' := q _ _ (by rw [kcc]; exact st9)
          rw [kcc, kcA, hE] at q'
          refine wpAny_mono q' (fun u s₄ q => ?_) (fun _ _ h => h.elim)
          refine Mine.hideG fun GG back => ?_
          obtain ⟨m4, H4, st10, rfl, q⟩ := q
          refine back ?_
          clear back
          have hl := st10.hid2 hitD
          have hlen : vs.length ≤ sizeLine := by rw [← hvs, List.length_map] at hal; lia
          refine call_meets F.slot_list_append ⟨_, hl, rfl⟩ F.entry_list_append (F.args_list_append_2 _ _) (list_append s2.heap.objs.size vs.toArray cnt u (by simpa using hlen)) ⟨hl, ?_⟩
          obtain ⟨cnt', hup⟩ : ∃ cnt', IsL (s₄.heap.update s2.heap.objs.size (Obj.mapSeq fun x_1 => x_1.push u)) s2.heap.objs.size (vs ++ [u]).toArray cnt' := by
            have := IsL.update hl (fun x_1 => x_1.push u)
            rw [show vs.toArray.push u = (vs ++ [u]).toArray from by simp] at this
            exact ⟨_, this⟩
          have st11 := St.rehide' (hB2 _) extD hbD (by rw [upd_comm hitD] at st10; exact st10) (tk := s₄.toks) (Heap.SameBut.update s₄.heap s2.heap.objs.size (Obj.mapSeq fun x_1 => x_1.push u)).extBut st10.tk hup
          rw [← upd_comm hitD] at st11
          exact ⟨j - 1, by lia, i + 1, acc ++ [er u], H4, ob'', vs ++ [u], cnt', _, by lia, hat', q, by rw [List.map_append, hvs]; rfl, by rw [List.length_append, List.length_singleton]; lia, hcap', st11⟩
      · have hi' : i = n := by lia
        subst hi'
        refine wk.fin H' s' ob st'.owned (hid_at st') hat (hok _ _ _ hI) _ (fun h' hk => ?_) _
        have st7 := St.but' (hB1 _) extIt hbit st' (tk := s'.toks) hk st'.tk
        have stE := leave st7 hcap
        refine Mine.hideG fun GG back => ?_
        obtain ⟨mv, hns, _⟩ := st7.var
        obtain ⟨obC, es, ep, hCo, hCr⟩ := id hns
        refine back ?_
        clear back
        rw [hkl] at hCo hns
        have hCp := st7.pl kc.env.locals List.mem_cons_self
        rw [hkl] at hCp
        have stC := stE.hide (l := false) hCo hCp.1 fC4 fC2
        have hDl : h'.get? s2.heap.objs.size = some { cls := .type "list", data := .seq vs.toArray cnt } := hid_at st7
        have hHD : H' s2.heap.objs.size = none := by
          cases e : H' s2.heap.objs.size with
          | none => rfl
          | some y => have := st7.disB _ y e; rw [upd_same] at this; cases this
        have stF := stC.adopt (a := s2.heap.objs.size) (y := .list acc) ⟨_, hDl, vs, cnt, rfl, hvs⟩ hHD (by
          unfold upd
          rw [if_neg (fun q => by rw [hsz] at q; exact absurd q (Nat.ne_of_lt (Nat.lt_succ_self _)))]
          exact fD2) fD4 hbD
        exact hRR _ _ _ _ _ _ fC2 hbC ⟨mv, hns⟩ stF hHD hal hI
    · refine Mine.hideG fun GG back => ?_
      obtain ⟨i, acc, H', ob, vs, cnt, mc, hj, r⟩ := hs'
      refine back ?_
      clear back
      exact ⟨i, acc, H', ob, vs, cnt, mc, by lia, r⟩
  have start : ∃ i acc H' ob vs cnt mc, 0 + i = 0 ∧ at_ i ob ∧ I i acc H' ∧ (vs : List Value).map er = acc ∧ acc.length ≤ i ∧ Caps scope m mc ∧ St k.c kc.o kc.env (upd (upd kc.o.ext s2.heap.objs.size ({ cls := .type "list", data := .seq vs.toArray cnt }, false)) it (ob, false)) mc H' _ :=
    ⟨0, [], H, ob0, [], 0, capm scope m, rfl, hat0, h0, rfl, Nat.le_refl _, fun _ _ e => e, st6⟩
  exact codeAny_compStart_list (loop _ start) (wk.self ob0 _ _ (hid_at st6) hat0 (loop _ start) _)
structure LC (k : Wk) (elt : Expr) (ifs : List Expr) (scope : Scope) (x : Str) (xv : V) (m : Loc) (H : AHeap) (Q : Addr → AHeap → Prop) (n : Nat) (R : Nat → V → Prop) (ok : AHeap → Prop) (I : Nat → List V → AHeap → Prop) : Prop where
  it : WIter k xv m H n R ok
  start : I 0 [] H
  ok : ∀ i acc H2, I i acc H2 → ok H2
  size : n ≤ sizeLine
  step : ∀ kc, CompK k scope kc → ∀ i v acc mc H2, i < n → R i v → I i acc H2 → Caps scope m mc → mc x = some v → W kc (tests ifs kc.env) mc H2 fun b m3 H3 => m3 = mc ∧ if b = true then WV kc (eval elt kc.env) mc H3 fun u m4 H4 => m4 = mc ∧ I (i + 1) (acc ++ [u]) H4 else I (i + 1) acc H3
  fin : ∀ a acc H2, acc.length ≤ n → I n acc H2 → H2 a = none → Q a (upd H2 a (.list acc))
theorem compAt_of {scope sc : Scope} {cn : List Str} [I : SEnv k sc cn] (h : compOK scope sc cn = true) : CompAt scope k.env := CompAt.of (by rw [I.sc, I.cn]; exact h)
theorem W_ListComp {elt iter : Expr} {x : Str} {px : Pos} {ifs : List Expr} {scope sc : Scope} {cn : List Str} {pos : Pos} {Q : V → Loc → AHeap → Prop} [S : SEnv k sc cn] (hc : compOK scope sc cn = true)
    (hx : storS (relabelS scope sc) (compNames scope) x = true) (hcx : (freeNames scope).contains x = false)
    (h : WV k (eval iter k.env) m H fun xv m1 H1 => ∃ n R ok I, LC k elt ifs scope x xv m1 H1 (fun a => Q (.ref a) m1) n R ok I)
    (hs : ∀ x, foldedSetIterable iter k.env x = pure x := by intro _; rfl) :
    WV k (eval (.ListComp elt [⟨.Name x px, iter, ifs, 0⟩] scope pos) k.env) m H Q := fun B s st => by
  have hcc := compAt_of (k := k) hc
  rw [eval_ListComp]
  refine wpAny_comprehension_free (use := none) rfl hs hcc.clos hcc.kind (fun y hy hl => lookup_of_mem_nodup hcc.nodup (by rw [← hl]; exact hy)) (wpAny_mono (h B s st) (fun xv s1 hx1 => ?_) fun _ _ y => y)
  refine Mine.hideG fun GG back => ?_
  obtain ⟨m1, H1, st1, n, R, ok, I, L⟩ := hx1
  refine back ?_
  clear back
  refine comp_list (RR := fun acc C => compPost (model k.c.prog k.c.w) k.A k.E none _ acc C) (E := k.E) hcc I L.it L.start L.ok L.size (fun kc hkc => ?_) L.step hcx st1 fun D C obC acc H' s' hBC hbC hns st' hD hal hI => ?_
  · haveI := hkc.senv (sc := sc) (cn := cn)
    exact stor hx
  · refine Mine.hideG fun GG back => ?_
    obtain ⟨mC, hns⟩ := hns
    refine back ?_
    clear back
    refine ⟨mC, hns, fun h' hsb => ⟨m1, _, St.but' hBC ?_ hbC st' (tk := s'.toks) hsb.extBut st'.tk, L.fin D acc H' hal hI hD⟩⟩
    cases e : k.o.ext C with
    | none => rfl
    | some y => have := st1.frames.2 C y e; rw [hBC] at this; cases this
theorem W_Assign_ListComp {elt iter : Expr} {x y : Str} {px py : Pos} {ifs : List Expr} {scope sc : Scope} {cn : List Str} {pos spos : Pos} {Q : Flow → Loc → AHeap → Prop} [S : SEnv k sc cn] (hc : compOK scope sc cn = true)
    (hx : storS (relabelS scope sc) (compNames scope) x = true) (hcx : (freeNames scope).contains x = false) (hy : sc.names.lookup y = some .local) (hl : (py.line == pos.line) = true) (hsh : (scope.names.any fun p => p.1 == y && (p.2 == .local || p.2 == .cell)) = false)
    (h : WV k (eval iter k.env) m H fun xv m1 H1 => ∃ n R ok I, LC k elt ifs scope x xv m1 H1 (fun a H' => Q .next (setL m1 y (.ref a)) H') n R ok I)
    (hs : ∀ x, foldedSetIterable iter k.env x = pure x := by intro _; rfl) :
    W k (exec (.Assign [.Name y py] (.ListComp elt [⟨.Name x px, iter, ifs, 0⟩] scope pos) spos) k.env) m H Q := fun B s st => by
  have hcc := compAt_of (k := k) hc
  have hkind : k.env.kindOf y = some .local := kindS hy
  have hsw : swapsWith (.ListComp elt [⟨.Name x px, iter, ifs, 0⟩] scope pos) (some (.Name y py)) spos.line k.env = pure true := by
    have hb : (k.env.blockKind == .function) = true := by unfold Env.blockKind; rw [k.kind]; rfl
    show (pure (k.env.blockKind == .function && k.env.kindOf y == some .local && py.line == pos.line && !(scope.names.any fun p => p.1 == y && (p.2 == .local || p.2 == .cell))) : Sem Bool) = pure true
    rw [hb, hkind, hl, hsh]; rfl
  rw [exec_Assign_Name_used _ _ _ _ hsw]
  refine wpAny_bind (wpAny_standAt (wpAny_bind ?_))
  show wpAny _ k.A (do let _ ← comprehension (.ListComp elt [⟨.Name x px, iter, ifs, 0⟩] scope pos) scope k.env _ (newList []) false (eval iter k.env) (some (assign (.Name y py) k.env))) _ _ s
  refine wpAny_bind (wpAny_mono (wpAny_comprehension_free (use := some (assign (.Name y py) k.env)) (Q := fun _ s' => ∃ m' H', St k.c k.o k.env B m' H' s' ∧ Q .next m' H') rfl hs hcc.clos hcc.kind (fun y hy hl => lookup_of_mem_nodup hcc.nodup (by rw [← hl]; exact hy))
    (wpAny_mono (h B s st) (fun xv s1 ⟨m1, H1, st1, n, R, ok, I, L⟩ => ?_) fun _ _ y => y)) (fun _ s' hq => wpAny_pure (wpAny_pure hq)) fun _ _ e => e)
  refine comp_list (RR := fun acc C => compPost (model k.c.prog k.c.w) k.A k.E (some (assign (.Name y py) k.env)) _ acc C) (E := k.E) hcc I L.it L.start L.ok L.size (fun kc hkc => ?_) L.step hcx st1 fun D C obC acc H' s' hBC hbC hns st' hD hal hI => ?_
  · haveI := hkc.senv (sc := sc) (cn := cn)
    exact stor hx
  · have hext : k.o.ext C = none := by
      cases e : k.o.ext C with
      | none => rfl
      | some y => have := st1.frames.2 C y e; rw [hBC] at this; cases this
    have has := WAs_Name (k := k) (x := y) (p := py) (v := .ref D) (m := m1) (H := upd H' D (.list acc)) (Q := fun m' H'' => m' = setL m1 y (.ref D) ∧ H'' = upd H' D (.list acc)) (by unfold storable; rw [hkind]) ⟨rfl, rfl⟩ (.ref D) rfl _ _ st'
    show wpAny _ k.A (assign (.Name y py) k.env (.ref D)) _ _ _
    refine wpAny_mono has (fun _ s'' q => ?_) fun _ _ e => e
    refine Mine.hideG fun GG back => ?_
    obtain ⟨m', H'', hq351⟩ := q
    refine back ?_
    clear back
    have st'' := hq351.1
    obtain rfl := hq351.2.1
    obtain rfl := hq351.2.2
    clear hq351
    refine Mine.hideG fun GG back => ?_
    obtain ⟨mC, obN, es, ep, hq352⟩ := hns
    refine back ?_
    clear back
    have hCo := hq352.1
    have hCd := hq352.2
    clear hq352
    have e1 := hid_at st'
    have e2 := hid_at st''
    rw [hCo] at e1; cases e1
    refine ⟨mC, ⟨_, es, ep, e2, hCd⟩, fun h' hsb => ⟨_, _, St.but' hBC hext hbC st'' (tk := s''.toks) hsb.extBut st''.tk, L.fin D acc H' hal hI hD⟩⟩
end
end Mine
namespace Mine
theorem putK_length : ∀ (kvs : List (Key × V)) (k : Key) (v : V), (putK kvs k v).length ≤ kvs.length + 1
  | [], _, _ => Nat.le_refl _
  | (k', w) :: r, k, v => by
    unfold putK
    split
    · simp
    · have := putK_length r k v
      simp only [List.length_cons]; lia
section
variable {k : Wk} {m : Loc} {H : AHeap}
theorem comp_dict {kx vx iter : Expr} {x : Str} {px : Pos} {ifs : List Expr} {scope : Scope} {pos : Pos} {RR : Value → Addr → Result → Shared → Prop} {E : Value → Shared → Prop}
    (hc : CompAt scope k.env) {n : Nat} {R : Nat → V → Prop} {ok : AHeap → Prop} (I : Nat → List (Key × V) → AHeap → Prop) {xv : Value} (hit : WIter k (er xv) m H n R ok) (h0 : I 0 [] H) (hok : ∀ i acc H2, I i acc H2 → ok H2) (hn : n ≤ sizeLine)
    (hx : ∀ kc, CompK k scope kc → storable kc.env x = true)
    (step : ∀ kc, CompK k scope kc → ∀ i v acc mc H2, i < n → R i v → I i acc H2 → Caps scope m mc → mc x = some v → W kc (tests ifs kc.env) mc H2 fun b m3 H3 => m3 = mc ∧ if b = true then WV kc (eval kx kc.env) mc H3 fun ku m4 H4 => m4 = mc ∧ WV kc (eval vx kc.env) mc H4 fun u m5 H5 => m5 = mc ∧ ∃ key, isKV key ku = true ∧ I (i + 1) (putK acc key u) H5 else I (i + 1) acc H3)
    (hcx : (freeNames scope).contains x = false)
    {B : BMap} {s : Shared} (st : St k.c k.o k.env B m H s)
    (hRR : ∀ D C obC acc ep H' s', B C = none → k.c.base.objs.size ≤ C → (∃ mC, s'.heap.Ns C mC) → St k.c k.o k.env (upd B C (obC, false)) m (upd H' D (.dict acc ep)) s' → H' D = none → acc.length ≤ n → I n acc H' → RR (.ref D) C (.ok .next) s') :
    wpAny (model k.c.prog k.c.w) k.A (pyIter xv) (fun it s2 => wpAny (model k.c.prog k.c.w) k.A newDict (fun acc s3 => wpAny (model k.c.prog k.c.w) k.A (newFunctionEnv scope k.env.globals (clOf scope k.env) [] k.env.qual none .none (some k.env)) (fun cenv s4 =>
      codeAny (model k.c.prog k.c.w) k.A (.compStart (.DictComp kx vx [⟨.Name x px, iter, ifs, 0⟩] scope pos) 0 it acc { cenv with scope := relabel scope k.env }) (RR acc cenv.locals) s4) E s3) E s2) E s := by
  refine hit xv rfl B s st _ _ fun it ob0 at_ s2 wk hat0 hBit hbit st2 => ?_
  refine wpAny_newObj_type ?_
  refine wpAny_compEnv ?_
  -- the state with all of these made
  have hitAt := hid_at st2
  have hitlt : it < s2.heap.objs.size := Heap.lt_size hitAt
  have stA := st.unhide hBit st2
  have stB := stA.grown (tk := s2.toks) (h' := s2.heap.push { cls := .type "dict", data := .dict #[] }) (fun b ob e => Heap.get?_push_of_some _ e) st2.tk
  have hD1 : (s2.heap.push { cls := .type "dict", data := .dict #[] }).get? s2.heap.objs.size = some { cls := .type "dict", data := .dict #[] } := Heap.get?_push_size _ rfl
  have hsz : (s2.heap.push { cls := .type "dict", data := .dict #[] }).objs.size = s2.heap.objs.size + 1 := Heap.size_push ..
  refine Mine.hideG fun GG back => ?_
  obtain ⟨fD1, fD2, fD3, fD4⟩ := stA.fresh (stA.none_at (Nat.le_refl s2.heap.objs.size))
  obtain ⟨fC1, fC2, fC3, fC4⟩ := stB.fresh (stB.none_at (Nat.le_refl _))
  refine back ?_
  clear back
  have hbD : k.c.base.objs.size ≤ s2.heap.objs.size := stA.baseLe
  have hbC := stB.baseLe
  have st4 := stB.enterComp k.kind k.fat hc
  have hkc : CompK k scope (compWk k B scope { s2 with heap := s2.heap.push { cls := .type "dict", data := .dict #[] } } hc.kind ⟨m, H, stB⟩) := compWk_K
  have hkl : (compWk k B scope { s2 with heap := s2.heap.push { cls := .type "dict", data := .dict #[] } } hc.kind ⟨m, H, stB⟩).env.locals = ({ s2 with heap := s2.heap.push { cls := .type "dict", data := .dict #[] } } : Shared).heap.objs.size := rfl
  have hko : (compWk k B scope { s2 with heap := s2.heap.push { cls := .type "dict", data := .dict #[] } } hc.kind ⟨m, H, stB⟩).o.ext = hideComp k.env ((clOf scope k.env).map (·.2)) ({ s2 with heap := s2.heap.push { cls := .type "dict", data := .dict #[] } } : Shared).heap B := rfl
  have leave : ∀ {B' m' H' s'}, St k.c (compWk k B scope { s2 with heap := s2.heap.push { cls := .type "dict", data := .dict #[] } } hc.kind ⟨m, H, stB⟩).o (compWk k B scope { s2 with heap := s2.heap.push { cls := .type "dict", data := .dict #[] } } hc.kind ⟨m, H, stB⟩).env B' m' H' s' → Caps scope m m' → St k.c k.o k.env B m H' s' := fun st' hcap => stB.leaveComp hc st' k.kind hcap
  have st4' : St k.c (compWk k B scope { s2 with heap := s2.heap.push { cls := .type "dict", data := .dict #[] } } hc.kind ⟨m, H, stB⟩).o (compWk k B scope { s2 with heap := s2.heap.push { cls := .type "dict", data := .dict #[] } } hc.kind ⟨m, H, stB⟩).env (compWk k B scope { s2 with heap := s2.heap.push { cls := .type "dict", data := .dict #[] } } hc.kind ⟨m, H, stB⟩).o.ext (capm scope m) H _ := st4
  have hE : (compWk k B scope { s2 with heap := s2.heap.push { cls := .type "dict", data := .dict #[] } } hc.kind ⟨m, H, stB⟩).E = fun _ _ => False := rfl
  have hknd : (compWk k B scope { s2 with heap := s2.heap.push { cls := .type "dict", data := .dict #[] } } hc.kind ⟨m, H, stB⟩).env = { scope := relabel scope k.env, locals := ({ s2 with heap := s2.heap.push { cls := .type "dict", data := .dict #[] } } : Shared).heap.objs.size, globals := k.env.globals, cells := cellsFrom (({ s2 with heap := s2.heap.push { cls := .type "dict", data := .dict #[] } } : Shared).heap.objs.size + 1) scope.names (clOf scope k.env), qual := k.env.qual, func := none, code := k.env.code, frame := k.env.frame, builtins := k.env.builtins } := rfl
  rw [← hknd]
  generalize compWk k B scope { s2 with heap := s2.heap.push { cls := .type "dict", data := .dict #[] } } hc.kind ⟨m, H, stB⟩ = kc at *
  refine Mine.hideG fun GG back => ?_
  obtain ⟨kcc, kcA, _, _, _⟩ := id hkc
  refine back ?_
  clear back
  have extIt : kc.o.ext it = none := by
    rw [hko]; unfold hideComp
    rw [if_neg fun q => ?_]
    · exact hBit
    · have := (st2.pl it q.1).2.1
      rw [upd_same] at this; cases this
  have extD : kc.o.ext s2.heap.objs.size = none := by
    rw [hko]; unfold hideComp
    rw [if_neg fun q => fD4 q.1]
    exact fD2
  have keep4 : ∀ b ob, (s2.heap.push { cls := .type "dict", data := .dict #[] }).get? b = some ob → (pushCells ((s2.heap.push { cls := .type "dict", data := .dict #[] }).push { cls := .type "dict", data := .dict #[] }) scope.names).get? b = some ob :=
    fun b ob e => pushCells_keeps _ _ b ob (Heap.get?_push_of_some _ e)
  have hitD : s2.heap.objs.size ≠ it := Nat.ne_of_gt hitlt
  refine Mine.hideG fun GG back => ?_
  obtain ⟨T0, vs0, hc0, hd0, _⟩ := wk.cls 0 ob0 hat0
  refine back ?_
  clear back
  have st5 := st4'.hide (a := s2.heap.objs.size) (l := false) (keep4 _ _ hD1) fD1 (fun q => by
    rw [hknd] at q
    rcases List.mem_cons.mp q with e | q
    · exact absurd (hsz.symm.trans e.symm) (Nat.succ_ne_self _)
    · refine Mine.hideG fun GG back => ?_
      obtain ⟨⟨y, a⟩, hy, e⟩ := List.mem_map.mp q
      refine back ?_
      clear back
      have e : a = s2.heap.objs.size := e
      rcases cellsFrom_mem _ _ _ _ _ hy with h | ⟨h, _⟩
      · refine Mine.hideG fun GG back => ?_
        obtain ⟨g1, g2⟩ := mem_clOf h
        obtain ⟨_, d, hd⟩ := hc.free y g1
        refine back ?_
        clear back
        rw [hd] at g2
        have g2 : a = d := g2
        refine fD4 (List.mem_cons_of_mem _ ?_)
        rw [← e, g2]
        exact List.mem_map_of_mem (f := (·.2)) (PySem.mem_of_lookup hd)
      · rw [e] at h
        have h : (s2.heap.push { cls := .type "dict", data := .dict #[] }).objs.size + 1 ≤ s2.heap.objs.size := h
        rw [hsz] at h
        exact absurd h (by lia)) extD
  have st6 := st5.hide (a := it) (l := false) (keep4 _ _ (Heap.get?_push_of_some _ hitAt)) (by
    cases e : H it with
    | none => rfl
    | some y => have := st2.disB it y e; rw [upd_same] at this; cases this) (fun q => by
    refine Mine.hideG fun GG back => ?_
    obtain ⟨ob, ho, h⟩ := st5.placeData q
    refine back ?_
    clear back
    rw [keep4 _ _ (Heap.get?_push_of_some _ hitAt)] at ho; cases ho
    rcases h with ⟨_, _, h⟩ | ⟨_, h⟩ <;> (rw [hd0] at h; cases h)) (by unfold upd; rw [if_neg (Ne.symm hitD)]; exact extIt)
  have hB1 : ∀ x : Obj × Bool, upd kc.o.ext s2.heap.objs.size x it = none := fun x => by unfold upd; rw [if_neg (Ne.symm hitD)]; exact extIt
  have hB2 : ∀ x : Obj × Bool, upd kc.o.ext it x s2.heap.objs.size = none := fun x => by unfold upd; rw [if_neg hitD]; exact extD
  have loop : ∀ s', (∃ i acc ep H' ob obD mc, 0 + i = 0 ∧ at_ i ob ∧ I i acc H' ∧ IsObj k.c obD (.dict acc ep) ∧ acc.length ≤ i ∧ Caps scope m mc ∧ St k.c kc.o kc.env (upd (upd kc.o.ext s2.heap.objs.size (obD, false)) it (ob, false)) mc H' s') →
      codeAny (model k.c.prog k.c.w) k.A (.compLoop (.DictComp kx vx [⟨.Name x px, iter, ifs, 0⟩] scope pos) 0 (.ref it) (.ref s2.heap.objs.size) kc.env) (RR (.ref s2.heap.objs.size) (s2.heap.push { cls := .type "dict", data := .dict #[] }).objs.size) s' := by
    intro s' hs'
    refine codeAny_compLoop_testsD (fun j s' => ∃ i acc ep H' ob obD mc, j + i = n ∧ at_ i ob ∧ I i acc H' ∧ IsObj k.c obD (.dict acc ep) ∧ acc.length ≤ i ∧ Caps scope m mc ∧ St k.c kc.o kc.env (upd (upd kc.o.ext s2.heap.objs.size (obD, false)) it (ob, false)) mc H' s') ?_ n ?_
    · intro j s' hg98_2
      refine Mine.hideG fun GG back => ?_
      obtain ⟨i, acc, ep, H', ob, obD, mc, hj, hat, hI, hvs, hal, hcap, st'⟩ := hg98_2
      refine back ?_
      clear back
      by_cases hi : i < n
      · refine wk.item i hi H' s' ob st'.owned (hid_at st') hat (hok _ _ _ hI) _ (fun v h' tk ob'' htk hR hat' ho hsame => ?_) _
        have st7 := St.rehide' (hB1 _) extIt hbit st' hsame.extBut htk ho
        have hsx := hx kc hkc
        have hass := W_bindName (k := kc) (x := x) (v := v) (Q := fun _ m' H2 => m' = setL mc x (er v) ∧ H2 = H') hsx ⟨rfl, rfl⟩ _ _ (by rw [kcc]; exact st7)
        rw [kcc, kcA, hE] at hass
        show wpAny _ _ (do standAt px; bindName kc.env x v) _ _ _
        refine wpAny_bind (wpAny_standAt ?_)
        refine wpAny_mono hass (fun _ s₂ q => ?_) (fun _ _ h => h.elim)
        refine Mine.hideG fun GG back => ?_
        obtain ⟨m', H2, st8, rfl, rfl⟩ := q
        refine back ?_
        clear back
        have hcap' : Caps scope m (setL mc x (er v)) := fun y u e => by
          have hyx : y ≠ x := fun q => by
            subst q
            unfold capm at e
            rw [if_neg (by rw [hcx]; exact Bool.false_ne_true)] at e; cases e
          unfold setL; rw [if_neg hyx]; exact hcap y u e
        have hstep := step kc hkc i (er v) acc (setL mc x (er v)) H2 hi hR hI hcap' setL_same _ _ (by rw [kcc]; exact st8)
        rw [kcc, kcA, hE] at hstep
        refine wpAny_mono hstep (fun b s₃ q => ?_) (fun _ _ h => h.elim)
        refine Mine.hideG fun GG back => ?_
        obtain ⟨m3, H3, st9, rfl, q⟩ := q
        refine back ?_
        clear back
        cases b with
        | false =>
          rw [if_neg Bool.false_ne_true] at q ⊢
          exact ⟨j - 1, by lia, i + 1, acc, ep, H3, ob'', obD, _, by lia, hat', q, hvs, by lia, hcap', st9⟩
        | true =>
          rw [if_pos rfl] at q ⊢
          have q' := q _ _ (by rw [kcc]; exact st9)
          rw [kcc, kcA, hE] at q'
          refine wpAny_mono q' (fun u s₄ q => ?_) (fun _ _ h => h.elim)
          refine Mine.hideG fun GG back => ?_
          obtain ⟨m4, H4, st10, rfl, q⟩ := q
          refine back ?_
          clear back
          have q'' := q _ _ (by rw [kcc]; exact st10)
          rw [kcc, kcA, hE] at q''
          refine wpAny_mono q'' (fun u' s₅ q => ?_) (fun _ _ h => h.elim)
          refine Mine.hideG fun GG back => ?_
          obtain ⟨m5, H5, st12, rfl, key, hkey, q⟩ := q
          have hl := st12.hid2 hitD
          obtain ⟨rvs, hm, hrv⟩ := dictAt_of hl hvs
          refine back ?_
          clear back
          have hlen : rvs.length ≤ sizeLine := by
            have := congrArg List.length hrv
            rw [List.length_map] at this
            lia
          refine dictSet_at (by rw [isKey_er]; exact hkey) hm (fun h' hm' hsb => ?_) hlen
          refine Mine.hideG fun GG back => ?_
          obtain ⟨obD', hD', hI'⟩ := of_dictAt hm'
          refine back ?_
          clear back
          rw [putK_er hm.nodup, hrv] at hI'
          have st11 := St.rehide' (hB2 _) extD hbD (by rw [upd_comm hitD] at st12; exact st12) (tk := s₅.toks + 1) hsb.extBut (Nat.le_succ_of_le st12.tk) hD'
          rw [← upd_comm hitD] at st11
          exact ⟨j - 1, by lia, i + 1, putK acc key (er u'), _, H5, ob'', obD', _, by lia, hat', q, hI', Nat.le_trans (putK_length _ _ _) (by lia), hcap', st11⟩
      · have hi' : i = n := by lia
        subst hi'
        refine wk.fin H' s' ob st'.owned (hid_at st') hat (hok _ _ _ hI) _ (fun h' hk => ?_) _
        have st7 := St.but' (hB1 _) extIt hbit st' (tk := s'.toks) hk st'.tk
        have stE := leave st7 hcap
        refine Mine.hideG fun GG back => ?_
        obtain ⟨mv, hns, _⟩ := st7.var
        obtain ⟨obC, es, epC, hCo, hCr⟩ := id hns
        refine back ?_
        clear back
        rw [hkl] at hCo hns
        have hCp := st7.pl kc.env.locals List.mem_cons_self
        rw [hkl] at hCp
        have stC := stE.hide (l := false) hCo hCp.1 fC4 fC2
        have hDl : h'.get? s2.heap.objs.size = some obD := hid_at st7
        have hHD : H' s2.heap.objs.size = none := by
          cases e : H' s2.heap.objs.size with
          | none => rfl
          | some y => have := st7.disB _ y e; rw [upd_same] at this; cases this
        have stF := stC.adopt (a := s2.heap.objs.size) (y := .dict acc ep) ⟨_, hDl, hvs⟩ hHD (by
          unfold upd
          rw [if_neg (fun q => by rw [hsz] at q; exact absurd q (Nat.ne_of_lt (Nat.lt_succ_self _)))]
          exact fD2) fD4 hbD
        exact hRR _ _ _ _ _ _ _ fC2 hbC ⟨mv, hns⟩ stF hHD hal hI
    · refine Mine.hideG fun GG back => ?_
      obtain ⟨i, acc, ep, H', ob, obD, mc, hj, r⟩ := hs'
      refine back ?_
      clear back
      exact ⟨i, acc, ep, H', ob, obD, mc, by lia, r⟩
  have start : ∃ i acc ep H' ob obD mc, 0 + i = 0 ∧ at_ i ob ∧ I i acc H' ∧ IsObj k.c obD (.dict acc ep) ∧ acc.length ≤ i ∧ Caps scope m mc ∧ St k.c kc.o kc.env (upd (upd kc.o.ext s2.heap.objs.size (obD, false)) it (ob, false)) mc H' _ :=
    ⟨0, [], 0, H, ob0, _, capm scope m, rfl, hat0, h0, ⟨⟨rfl, rfl, rfl⟩, #[], rfl, fun _ he => by simp at he, [], Pairs.nil, List.nodup_nil, rfl⟩, Nat.le_refl _, fun _ _ e => e, st6⟩
  exact codeAny_compStart_dict (loop _ start) (wk.self ob0 _ _ (hid_at st6) hat0 (loop _ start) _)
structure DC (k : Wk) (kx vx : Expr) (ifs : List Expr) (scope : Scope) (x : Str) (xv : V) (m : Loc) (H : AHeap) (Q : Addr → AHeap → Prop) (n : Nat) (R : Nat → V → Prop) (ok : AHeap → Prop) (I : Nat → List (Key × V) → AHeap → Prop) : Prop where
  it : WIter k xv m H n R ok
  start : I 0 [] H
  ok : ∀ i acc H2, I i acc H2 → ok H2
  size : n ≤ sizeLine
  step : ∀ kc, CompK k scope kc → ∀ i v acc mc H2, i < n → R i v → I i acc H2 → Caps scope m mc → mc x = some v → W kc (tests ifs kc.env) mc H2 fun b m3 H3 => m3 = mc ∧ if b = true then WV kc (eval kx kc.env) mc H3 fun ku m4 H4 => m4 = mc ∧ WV kc (eval vx kc.env) mc H4 fun u m5 H5 => m5 = mc ∧ ∃ key, isKV key ku = true ∧ I (i + 1) (putK acc key u) H5 else I (i + 1) acc H3
  fin : ∀ a acc ep H2, acc.length ≤ n → I n acc H2 → H2 a = none → Q a (upd H2 a (.dict acc ep))
theorem W_Assign_DictComp {kx vx iter : Expr} {x y : Str} {px py : Pos} {ifs : List Expr} {scope sc : Scope} {cn : List Str} {pos spos : Pos} {Q : Flow → Loc → AHeap → Prop} [S : SEnv k sc cn] (hc : compOK scope sc cn = true)
    (hx : storS (relabelS scope sc) (compNames scope) x = true) (hcx : (freeNames scope).contains x = false) (hy : sc.names.lookup y = some .local) (hl : (py.line == pos.line) = true) (hsh : (scope.names.any fun p => p.1 == y && (p.2 == .local || p.2 == .cell)) = false)
    (h : WV k (eval iter k.env) m H fun xv m1 H1 => ∃ n R ok I, DC k kx vx ifs scope x xv m1 H1 (fun a H' => Q .next (setL m1 y (.ref a)) H') n R ok I)
    (hs : ∀ x, foldedSetIterable iter k.env x = pure x := by intro _; rfl) :
    W k (exec (.Assign [.Name y py] (.DictComp kx vx [⟨.Name x px, iter, ifs, 0⟩] scope pos) spos) k.env) m H Q := fun B s st => by
  have hcc := compAt_of (k := k) hc
  have hkind : k.env.kindOf y = some .local := kindS hy
  have hsw : swapsWith (.DictComp kx vx [⟨.Name x px, iter, ifs, 0⟩] scope pos) (some (.Name y py)) spos.line k.env = pure true := by
    have hb : (k.env.blockKind == .function) = true := by unfold Env.blockKind; rw [k.kind]; rfl
    show (pure (k.env.blockKind == .function && k.env.kindOf y == some .local && py.line == pos.line && !(scope.names.any fun p => p.1 == y && (p.2 == .local || p.2 == .cell))) : Sem Bool) = pure true
    rw [hb, hkind, hl, hsh]; rfl
  rw [exec_Assign_Name_used _ _ _ _ hsw]
  refine wpAny_bind (wpAny_standAt (wpAny_bind ?_))
  show wpAny _ k.A (do let _ ← comprehension (.DictComp kx vx [⟨.Name x px, iter, ifs, 0⟩] scope pos) scope k.env _ newDict false (eval iter k.env) (some (assign (.Name y py) k.env))) _ _ s
  refine wpAny_bind (wpAny_mono (wpAny_comprehension_free (use := some (assign (.Name y py) k.env)) (Q := fun _ s' => ∃ m' H', St k.c k.o k.env B m' H' s' ∧ Q .next m' H') rfl hs hcc.clos hcc.kind (fun y hy hl => lookup_of_mem_nodup hcc.nodup (by rw [← hl]; exact hy))
    (wpAny_mono (h B s st) (fun xv s1 ⟨m1, H1, st1, n, R, ok, I, L⟩ => ?_) fun _ _ y => y)) (fun _ s' hq => wpAny_pure (wpAny_pure hq)) fun _ _ e => e)
  refine comp_dict (RR := fun acc C => compPost (model k.c.prog k.c.w) k.A k.E (some (assign (.Name y py) k.env)) _ acc C) (E := k.E) hcc I L.it L.start L.ok L.size (fun kc hkc => ?_) L.step hcx st1 fun D C obC acc ep H' s' hBC hbC hns st' hD hal hI => ?_
  · haveI := hkc.senv (sc := sc) (cn := cn)
    exact stor hx
  · have hext : k.o.ext C = none := by
      cases e : k.o.ext C with
      | none => rfl
      | some y => have := st1.frames.2 C y e; rw [hBC] at this; cases this
    have has := WAs_Name (k := k) (x := y) (p := py) (v := .ref D) (m := m1) (H := upd H' D (.dict acc ep)) (Q := fun m' H'' => m' = setL m1 y (.ref D) ∧ H'' = upd H' D (.dict acc ep)) (by unfold storable; rw [hkind]) ⟨rfl, rfl⟩ (.ref D) rfl _ _ st'
    show wpAny _ k.A (assign (.Name y py) k.env (.ref D)) _ _ _
    refine wpAny_mono has (fun _ s'' q => ?_) fun _ _ e => e
    refine Mine.hideG fun GG back => ?_
    obtain ⟨m', H'', hq208⟩ := q
    refine back ?_
    clear back
    have st'' := hq208.1
    obtain rfl := hq208.2.1
    obtain rfl := hq208.2.2
    clear hq208
    refine Mine.hideG fun GG back => ?_
    obtain ⟨mC, obN, es, epC, hq209⟩ := hns
    refine back ?_
    clear back
    have hCo := hq209.1
    have hCd := hq209.2
    clear hq209
    have e1 := hid_at st'
    have e2 := hid_at st''
    rw [hCo] at e1; cases e1
    refine ⟨mC, ⟨_, es, epC, e2, hCd⟩, fun h' hsb => ⟨_, _, St.but' hBC hext hbC st'' (tk := s''.toks) hsb.extBut st''.tk, L.fin D acc ep H' hal hI hD⟩⟩
end
end Mine
namespace Mine
theorem call_excM {prog : Program} {w : World} {A : Around} {E : Value → Shared → Prop} {s : Shared} {X N I : String} (hc : ExcClass X N I) {rest : List Value} {Q : Value → Shared → Prop}
    (h : ∀ h' e t, (∀ b o, s.heap.get? b = some o → h'.get? b = some o) → s.heap.objs.size ≤ e → s.heap.objs.size ≤ t → t ≠ e → (∃ ob, h'.get? e = some ob ∧ ob.cls = .type X ∧ ob.data = .fields #[.ref t, .none, .none, .none, .bool false, .none]) →
      h'.get? t = some { cls := .type "tuple", data := .seq rest.toArray } → Q (.ref e) { s with heap := h' }) (hrest : rest.length ≤ sizeLine) :
    wpAny (model prog w) A (call (.type X) rest) Q E s := by
  refine wpAny_call (codeAny_of_tree ?_)
  show wpAny _ _ (callAny (.type X) ⟨rest, []⟩) _ _ s
  simp only [callAny]
  refine wpAny_pure ⟨Code.quiet_builtin _ (by decide +kernel), codeAny_builtin entry_type_call ?_⟩
  rw [Around.under_plain (weight_type_call X _ _) (by first | rfl | kernel_rfl | decide +kernel)]
  unfold Builtin.«type.__call__»
  dsimp only
  rw [if_neg (by rw [hc.notType]; exact Bool.false_ne_true), if_neg (by rw [hc.canNew]; exact Bool.false_ne_true)]
  obtain ⟨l, hl, hle⟩ := hc.mro
  refine wpAny_bind (wpAny_of_eq (hc.typeCall rest) (wpAny_bind (wpAny_of_eq hl ?_)))
  rw [if_neg (by rw [hle]; exact Bool.false_ne_true)]
  refine wpAny_bind (wpAny_of_eq hc.madeBy ?_)
  dsimp only
  refine wpAny_bind (wpAny_pure (wpAny_bind (wpAny_holding (new_exc hc ?_ hrest))))
  refine wpAny_bind (wpAny_isInstance (T := X) ⟨_, Heap.get?_push_size _ rfl, rfl⟩ hc.self ?_)
  simp only [Bool.not_true, Bool.false_eq_true, if_false]
  refine wpAny_bind (wpAny_holding (wpAny_callSpecial?_slot (name := Str.ofString "__init__") (T := X) ⟨_, Heap.get?_push_size _ rfl, rfl⟩ hc.init
    (init_exc hc (Heap.get?_push_size _ rfl) rfl rfl rfl ?_ hrest)))
  dsimp only
  rw [if_neg (by simp)]
  generalize hh1 : (s.heap.push { cls := .type "tuple", data := .seq rest.toArray }) = h1
  have z1 : h1.objs.size = s.heap.objs.size + 1 := by rw [← hh1]; exact Heap.size_push ..
  generalize hh2 : h1.push { cls := .type X, data := .fields #[.ref s.heap.objs.size, .none, .none, .none, .bool false, .none] } = h2
  have z2 : h2.objs.size = h1.objs.size + 1 := by rw [← hh2]; exact Heap.size_push ..
  have k1 : ∀ b o, s.heap.get? b = some o → h1.get? b = some o := fun b o e => by rw [← hh1]; exact Heap.get?_push_of_some _ e
  have k2 : ∀ b o, h1.get? b = some o → h2.get? b = some o := fun b o e => by rw [← hh2]; exact Heap.get?_push_of_some _ e
  have e2 : h2.get? h1.objs.size = some { cls := .type X, data := .fields #[.ref s.heap.objs.size, .none, .none, .none, .bool false, .none] } := by rw [← hh2]; exact Heap.get?_push_size _ rfl
  refine wpAny_pure (h _ _ h2.objs.size (fun b o hb => ?_) (by rw [z1]; exact Nat.le_succ _) (by rw [z2, z1]; lia) (by rw [z2]; exact Nat.succ_ne_self _)
    ⟨_, Heap.get?_update_self _ (Heap.get?_push_of_some _ e2) (Obj.isFreed_of_fields (Obj.data_mapFields rfl _)), Obj.cls_mapFields _ _, by rw [Obj.data_mapFields rfl]; rfl⟩ ?_)
  · rw [Heap.get?_update_other _ _ (Nat.ne_of_gt (Nat.lt_of_lt_of_le (Heap.lt_size hb) (by rw [z1]; exact Nat.le_succ _)))]
    exact Heap.get?_push_of_some _ (k2 b o (k1 b o hb))
  · rw [Heap.get?_update_other _ _ (by rw [z2]; exact Nat.ne_of_lt (Nat.lt_succ_self _))]
    exact Heap.get?_push_size _ rfl
section
variable {k : Wk} {m : Loc} {H : AHeap}
theorem W_RaiseCall {x : Str} {X N I : String} {np cpos pos : Pos} {args : List Expr} {Q : Flow → Loc → AHeap → Prop} (hc : ExcClass X N I) (hh : k.A.handled = none) (here : k.here) (hg : Gl k.c x (.type X)) (hx : k.env.kindOf x = some .globalImplicit)
    (h : WItems k args m H fun vs m1 H1 => vs.length ≤ sizeLine ∧ k.X X (some vs) m1 H1)
    (hp : (starEach args k.env).any (·.1) = false := by rfl) (hp' : (backTo cpos (starEach args k.env)).any (·.1) = false := by rfl) (hd : (x == ("__debug__" : Str)) = false := by decide) :
    W k (exec (.Raise (some (.Call (.Name x np) args [] cpos)) none pos) k.env) m H Q := fun B s st =>
  Raise_new hh (wpAny_Call_NameR (wpAny_mono (W_NameG (Q := fun v m' H' => v = .ty X ∧ m' = m ∧ H' = H) hg hx ⟨rfl, rfl, rfl⟩ hd B s st) (fun f s1 hx1 => by
    refine Mine.hideG fun GG back => ?_
    obtain ⟨m1, H1, st1, e1, e2, e3⟩ := hx1
    refine back ?_
    clear back
    subst e2; subst e3
    obtain rfl := er_ty e1
    refine PySem.callWith_type hp' (wpAny_mono (evalArgs_of (f := .type X) (pos := cpos) hp h B s1 st1) (fun a s2 ⟨m2, H2, st2, e, hz, q⟩ => ?_) fun _ _ x => x)
    rw [e]
    refine call_excM hc (fun h' ea t hk he ht hne ⟨ob, ho, hoc, hod⟩ htt => ?_) (by simpa using hz)
    obtain ⟨st3, hm⟩ := st2.making0 (tk := s2.toks) k.kind (cls := X) (xs := some (a.pos.map er)) hk (st2.none_at he) ho hoc hod (fun l q => ⟨t, a.pos, 0, rfl, Option.some.inj q, htt, ht, he, hne⟩) st2.tk
    exact ⟨ea, ob, _, X, N, I, hc, rfl, ho, hoc, hod, rfl, k.made here _ _ _ _ _ _ _ st3 hm q⟩) fun _ _ x => x))
theorem WSub_listOut {value slice : Expr} {l : Addr} {xs : List V} {i : Int} {Q : V → Loc → AHeap → Prop} (hh : k.A.handled = none) (here : k.here) (hl : H l = some (.list xs)) (h0 : -(2 ^ 63) ≤ i) (h1 : i < 2 ^ 63) (ho : i < -(xs.length : Int) ∨ (xs.length : Int) ≤ i) (h : k.X "IndexError" none m H)
    (hs : ∀ o i, subscripted slice false o i = operate [o, i] (getItem o i) := by intro _ _; with_unfolding_all rfl) : WSub k value slice (.ref l) (.int i) m H Q := fun x y hx hy B s st => by
  obtain rfl := er_ref hx
  obtain ⟨t, rfl⟩ := er_int hy
  obtain ⟨vs, n, hl', rfl⟩ := st.listAt hl
  rw [List.length_map] at ho
  refine tail_any hl'.isList.typeIs slot_list_getitem.lookup (wpAny_mono (wpAny_toks_of st.tk (wpAny_getItem_list_out (Q := fun _ _ => False) (E := fun e s' => ∃ h' tk ea, e = .ref ea ∧ s' = { s with heap := h', toks := tk } ∧ Heap.NewExc s.heap h' ea "IndexError") hh hl'.isList (by simpa using ho) h0 h1 fun h' tk e hx => ⟨h', tk, e, rfl, rfl, hx⟩)) (fun _ _ q => q.2.elim) fun e s' q => ?_) (hs _ _)
  obtain ⟨htk, h', tk, ea, rfl, rfl, hx⟩ := q
  obtain ⟨st3, hm⟩ := st.makingNew k.kind hx htk
  exact k.made here _ _ _ _ _ _ _ st3 hm h
theorem WSub_tupOut {value slice : Expr} {l : Addr} {xs : List V} {i : Int} {Q : V → Loc → AHeap → Prop} (hh : k.A.handled = none) (here : k.here) (hl : H l = some (.tup xs)) (h0 : -(2 ^ 63) ≤ i) (h1 : i < 2 ^ 63) (ho : seqIndex? i xs.length = none) (h : k.X "IndexError" none m H)
    (hs : ∀ o i, subscripted slice false o i = operate [o, i] (getItem o i) := by intro _ _; with_unfolding_all rfl) : WSub k value slice (.ref l) (.int i) m H Q := fun x y hx hy B s st => by
  obtain rfl := er_ref hx
  obtain ⟨t, rfl⟩ := er_int hy
  obtain ⟨vs, n, hl', rfl⟩ := st.tupAt hl
  rw [List.length_map] at ho
  have hT : s.TypeIs (.ref l) "tuple" := ⟨_, hl', rfl⟩
  refine tail_any hT slot_tuple_getitem.lookup (wpAny_mono (wpAny_toks_of st.tk (getItem_meets (Q := fun _ _ => False) (E := fun e s' => ∃ h' tk ea, e = .ref ea ∧ s' = { s with heap := h', toks := tk } ∧ Heap.NewExc s.heap h' ea "IndexError") hT (by decide) F.slot_tuple_getitem F.entry_tuple_getitem (F.args_tuple_getitem_2 _ _) (MeetsSeq.tuple_getitem_out l (vs : List Value).toArray n i t h0 h1 (by simpa using ho)) ⟨hl', hh, fun h' tk e hx => ⟨h', tk, e, rfl, rfl, hx⟩⟩)) (fun _ _ q => q.2.elim) fun e s' q => ?_) (hs _ _)
  obtain ⟨htk, h', tk, ea, rfl, rfl, hx⟩ := q
  obtain ⟨st3, hm⟩ := st.makingNew k.kind hx htk
  exact k.made here _ _ _ _ _ _ _ st3 hm h
end
end Mine
namespace Mine
structure TryK (k : Wk) (X : String → Option (List V) → Loc → AHeap → Prop) (k' : Wk) : Prop where
  c : k'.c = k.c
  A : k'.A = k.A
  env : k'.env = k.env
  fs : k'.o.fs = k.o.fs
  X : k'.X = X
theorem TryK.senv {k k' : Wk} {X : String → Option (List V) → Loc → AHeap → Prop} {sc : Scope} {cn : List Str} (h : TryK k X k') [I : SEnv k sc cn] : SEnv k' sc cn := ⟨by rw [h.env]; exact I.sc, by rw [h.env]; exact I.cn⟩
structure MarkK (k : Wk) (e : Addr) (kh : Wk) : Prop where
  c : kh.c = k.c
  A : kh.A = k.A.mark (some (.ref e))
  env : kh.env = k.env
  o : kh.o = k.o
theorem MarkK.senv {k k' : Wk} {e : Addr} {sc : Scope} {cn : List Str} (h : MarkK k e k') [I : SEnv k sc cn] : SEnv k' sc cn := ⟨by rw [h.env]; exact I.sc, by rw [h.env]; exact I.cn⟩
noncomputable def markWk (k : Wk) (e : Addr) : Wk where
  c := k.c
  A := k.A.mark (some (.ref e))
  o := k.o
  env := k.env
  E := fun _ _ => False
  X := fun _ _ _ _ => False
  here := False
  pass := PassesOwn.never
  fly := fun _ _ _ _ _ _ _ _ _ h => h
  made := fun h => h.elim
  kind := k.kind
  glob := k.glob
  blt := k.blt
  frames := k.frames
  fat := k.fat
noncomputable def WH (k : Wk) (hs : List ExceptHandler) (e : Addr) (cls : String) (xs : Option (List V)) (m : Loc) (H : AHeap) (Q : Flow → Loc → AHeap → Prop) : Prop :=
  ∀ B s, St k.c k.o k.env B m H s → InFl k.c k.o k.env B H e cls xs s.heap → wpAny (model k.c.prog k.c.w) k.A (handleBy (.ref e) k.env hs) (fun f s' => ∃ m' H', St k.c k.o k.env B m' H' s' ∧ Q f m' H') k.E s
section
variable {c : Cx} {o : Out} {env : Env} {B : BMap} {m : Loc} {H : AHeap} {s : Shared}
theorem St.shrink {m₀ : Loc} {H₀ : AHeap} {s₀ : Shared} (st₀ : St c o env B m₀ H₀ s₀) {B' : BMap} (st : St c ⟨o.fs, B⟩ env B' m H s) : St c o env B m H s := by
  have ex : ∀ a x, B a = some x → B' a = some x := st.frames.2
  have r : ∀ b, B' b = none → B b = none := fun b e => by
    cases h : B b with
    | none => rfl
    | some y => rw [ex b y h] at e; cases e
  exact ⟨st.base, fun b ob l e => st.keep b ob l (ex b _ e), st.own, fun b y e => r b (st.disB b y e), st.disBase, fun b z => ⟨(st.pl b z).1, r b (st.pl b z).2.1, (st.pl b z).2.2⟩, st.nodup, st.cell, st.var, st₀.frames, st.gens, st.os, st.tk⟩
theorem Away.shrink {B' : BMap} (ex : ∀ a x, B a = some x → B' a = some x) {a : Addr} (h : Away env B' H a) : Away env B H a := by
  have hq54 := h
  have h1 := hq54.1
  have h2 := hq54.2.1
  have h3 := hq54.2.2
  clear hq54
  refine ⟨h1, ?_, h3⟩
  cases e : B a with
  | none => rfl
  | some y => rw [ex a y e] at h2; cases h2
theorem InFl.shrink {B' : BMap} (ex : ∀ a x, B a = some x → B' a = some x) {e : Addr} {cls : String} {xs : Option (List V)} {h : Heap} (i : InFl c ⟨o.fs, B⟩ env B' H e cls xs h) : InFl c o env B H e cls xs h := by
  refine Mine.hideG fun GG back => ?_
  obtain ⟨base', a0, hO, hfl, ha⟩ := i
  refine back ?_
  clear back
  refine ⟨base', a0, ⟨hO.cb, fun b q => hO.own b ?_⟩, hfl, fun l q => ?_⟩
  · rcases q with q | q | q
    · exact .inl q
    · refine Mine.hideG fun GG back => ?_
      obtain ⟨y, hy⟩ := Option.isSome_iff_exists.mp q
      refine back ?_
      clear back
      exact .inr (.inl (by rw [ex b y hy]; rfl))
    · exact .inr (.inr q)
  · refine Mine.hideG fun GG back => ?_
    obtain ⟨t, vs, n, h1, h2, h3, h4, h5, h6, h7⟩ := ha l q
    refine back ?_
    clear back
    exact ⟨t, vs, n, h1, h2, h3, h4, h5, h6.shrink ex, h7.shrink ex⟩
noncomputable def clr (m : Loc) (x : Str) : Loc := fun y => if y = x then none else m y
theorem St.clr (st : St c o env B m H s) {x : Str} {h' : Heap} {tk : Nat} (hk : env.kindOf x = some .local)
    (hq : ∀ mv, s.heap.Ns env.locals mv → ∃ v, h'.Ns env.locals (fun y => if y = x then v else mv y)) (hs : Heap.SameBut env.locals s.heap h') (ht : 1 ≤ tk) : St c o env B (Mine.clr m x) H { s with heap := h', toks := tk } := by
  have hp := st.pl env.locals List.mem_cons_self
  have kp : ∀ b ob, b ≠ env.locals → s.heap.get? b = some ob → h'.get? b = some ob := fun b ob ne e => (hs.2 b ne).trans e
  refine ⟨fun b ob e => kp b ob (fun q => ?_) (st.base b ob e), fun b ob l e => ?_, fun b z e => ?_, st.disB, st.disBase, st.pl, st.nodup, fun b e => ?_, ?_, st.frames, st.gens, st.os, ht⟩
  · rw [q] at e; exact absurd (Heap.lt_size e) (Nat.not_lt.mpr hp.2.2)
  · refine Mine.hideG fun GG back => ?_
    obtain ⟨sl, hq82⟩ := st.keep b ob l e
    refine back ?_
    clear back
    have e1 := hq82.1
    have e2 := hq82.2
    clear hq82
    exact ⟨sl, kp b _ (fun q => by rw [q, hp.2.1] at e; cases e) e1, e2⟩
  · obtain ⟨ob, e1, e2⟩ := st.own b z e; exact ⟨ob, kp b ob (fun q => by rw [q, hp.1] at e; cases e) e1, e2⟩
  · refine Mine.hideG fun GG back => ?_
    obtain ⟨u, ob, hq85⟩ := st.cell b e
    refine back ?_
    clear back
    have e1 := hq85.1
    have e2 := hq85.2
    clear hq85
    exact ⟨u, ob, kp b ob (fun q => (List.nodup_cons.mp st.nodup).1 (q ▸ e)) e1, e2⟩
  · refine Mine.hideG fun GG back => ?_
    obtain ⟨mv, hq87⟩ := st.var
    refine back ?_
    clear back
    have hn := hq87.1
    have hv := hq87.2
    clear hq87
    refine Mine.hideG fun GG back => ?_
    obtain ⟨v, hq⟩ := hq mv hn
    refine back ?_
    clear back
    refine ⟨_, hq, fun y u e => ?_⟩
    unfold Mine.clr at e
    by_cases hy : y = x
    · rw [if_pos hy] at e; cases e
    · rw [if_neg hy] at e
      have q := hv y u e
      have cellK : ∀ a z, env.cells.lookup y = some a → s.heap.IsCell a z → h'.IsCell a z := fun a z e ⟨ob, ho, hd⟩ =>
        ⟨ob, kp a ob (fun r => (List.nodup_cons.mp st.nodup).1 (r ▸ List.mem_map_of_mem (f := (·.2)) (PySem.mem_of_lookup e))) ho, hd⟩
      split at q
      · obtain ⟨z, e1, e2⟩ := q; exact ⟨z, by rw [if_neg hy]; exact e1, e2⟩
      · obtain ⟨a, z, e1, e2, e3⟩ := q; exact ⟨a, z, e1, cellK a _ e1 e2, e3⟩
      · obtain ⟨a, z, e1, e2, e3⟩ := q; exact ⟨a, z, e1, cellK a _ e1 e2, e3⟩
      · exact q
end
section
variable {k : Wk} {m : Loc} {H : AHeap}
theorem W_Try {body orelse : List Stmt} {h₀ : ExceptHandler} {hs : List ExceptHandler} {pos : Pos} {Q : Flow → Loc → AHeap → Prop} (X : String → Option (List V) → Loc → AHeap → Prop) (hfun : k.env.frame = some k.env.locals)
    (hb : ∀ k', TryK k X k' → W k' (execs body k'.env) m H fun f m1 H1 => match f with | .next => W k (execs orelse k.env) m1 H1 Q | f => Q f m1 H1)
    (hx : ∀ e cls xs m1 H1, X cls xs m1 H1 → WH k (h₀ :: hs) e cls xs m1 H1 Q) : W k (exec (.Try body (h₀ :: hs) orelse [] pos) k.env) m H Q := fun B s st => by
  have hout : outerOf k.env k.o.fs = k.env :: k.o.fs := if_pos hfun
  have hA : k.A.frames = some (k.env :: k.o.fs) := by rw [k.frames, hout]
  let k' : Wk := {
    c := k.c, A := k.A, o := ⟨k.o.fs, B⟩, env := k.env
    E := fun e s₁ => wpAny (model k.c.prog k.c.w) k.A (noteFrame e k.env) (fun _ s₂ => wpAny (model k.c.prog k.c.w) k.A (setFlight e none) (fun _ s₃ => wpAny (model k.c.prog k.c.w) k.A (handleBy e k.env (h₀ :: hs)) (fun f s' => ∃ m' H', St k.c k.o k.env B m' H' s' ∧ Q f m' H') k.E s₃) k.E s₂) k.E s₁
    X := X, here := False
    pass := PassesOwn.looking
    fly := fun B' m1 H1 s1 e cls xs st1 i hX => by
      refine Mine.hideG fun GG back => ?_
      obtain ⟨base', a0, hO, hfl, ha⟩ := i
      refine back ?_
      clear back
      have hfl0 := hfl
      rw [show outerOf k.env (Out.fs ⟨k.o.fs, B⟩) = k.env :: k.o.fs from hout] at hfl
      refine wpAny_looks_onW hA hfun hfl fun h2 hh2 hu2 => ?_
      have stS := st.shrink st1
      have iS : InFl k.c k.o k.env B H1 e cls xs s1.heap := InFl.shrink st1.frames.2 ⟨base', a0, hO, hfl0, ha⟩
      refine Mine.hideG fun GG back => ?_
      obtain ⟨base2, a02, hO2, hfl2, ha2⟩ := id iS
      refine back ?_
      clear back
      have hO' : Ours k.c k.o k.env B H1 base' := ⟨hO.cb, fun b q => hO.own b (by
        rcases q with q | q | q
        · exact .inl q
        · refine Mine.hideG fun GG back => ?_
          obtain ⟨y, hy⟩ := Option.isSome_iff_exists.mp q
          refine back ?_
          clear back
          exact .inr (.inl (by rw [st1.frames.2 b y hy]; rfl))
        · exact .inr (.inr q))⟩
      have st2 := stS.flown hO' hfl.1 hh2.1 hu2 (tk := s1.toks) stS.tk
      refine wpAny_landsW hh2 fun h3 hh3 hu3 => ?_
      have st3 := st2.flown hO' hh2.1 hh3.1 hu3 (tk := s1.toks) stS.tk
      refine hx e cls xs m1 H1 hX B _ st3 ⟨base', a0, hO', by rw [hout]; exact hh3, fun l q => ?_⟩
      refine Mine.hideG fun GG back => ?_
      obtain ⟨t, vs, n, g1, g2, g3, g4, g5, g6, g7⟩ := ha l q
      refine back ?_
      clear back
      exact ⟨t, vs, n, g1, g2, g3, g4, g5, g6.shrink st1.frames.2, g7.shrink st1.frames.2⟩
    made := fun h => h.elim
    kind := k.kind, glob := k.glob, blt := k.blt, frames := k.frames, fat := .inl hfun }
  have stB : St k.c ⟨k.o.fs, B⟩ k.env B m H s := ⟨st.base, st.keep, st.own, st.disB, st.disBase, st.pl, st.nodup, st.cell, st.var, ⟨st.frames.1, fun _ _ e => e⟩, st.gens, st.os, st.tk⟩
  refine wpAny_Try_except (wpAny_mono (hb k' ⟨rfl, rfl, rfl, rfl, rfl⟩ B s stB) (fun f s1 ⟨m1, H1, st1, q⟩ => ?_) fun e s1 he => he)
  have st1' := st.shrink st1
  cases f with
  | next => exact q B s1 st1'
  | brk => exact ⟨m1, H1, st1', q⟩
  | cont => exact ⟨m1, H1, st1', q⟩
  | ret v => exact ⟨m1, H1, st1', q⟩
theorem meta_plain {T X N I : String} (hc : ExcClass T N I) : isSubtype (.type ((Manifest.find? T).elim "type" fun x => x.metatype)) (.type "tuple") = pure false := by
  rw [eq_of_beq hc.metaType]
  rw [isSubtype_type]; kernel_rfl
theorem WH_skip {x : Str} {T N I : String} {p pos : Pos} {b₀ : Stmt} {suite : List Stmt} {rest : List ExceptHandler} {e : Addr} {cls : String} {xs : Option (List V)} {Q : Flow → Loc → AHeap → Prop} {name : Option Str}
    (hc : ExcClass T N I) (hg : Gl k.c x (.type T)) (hx : k.env.kindOf x = some .globalImplicit) (hsub : isSubtype (.type cls) (.type T) = pure false) (hd : (x == ("__debug__" : Str)) = false)
    (h : WH k rest e cls xs m H Q) : WH k (.ExceptHandler (some (.Name x p)) name (b₀ :: suite) pos :: rest) e cls xs m H Q := fun B s st i => by
  have hnm := W_NameG (k := markWk k e) (x := x) (pos := p) (Q := fun v m' H' => v = .ty T ∧ m' = m ∧ H' = H) hg hx ⟨rfl, rfl, rfl⟩ hd B s st
  refine Mine.hideG fun GG back => ?_
  obtain ⟨ob, ho, hcl⟩ := i.choose_spec.choose_spec.2.1.there
  refine back ?_
  clear back
  have key : wpAny (model k.c.prog k.c.w) (k.A.mark (some (.ref e))) (eval (.Name x p) k.env) (fun c s₁ => c = .type T ∧ s₁.TypeIs (.ref e) cls ∧ s₁ = s) (fun _ _ => False) s := by
    have hg' : s.heap.Ns k.env.globals k.c.mg := by rw [k.glob]; exact k.c.top.g.keeps st.base
    have hb' : s.heap.Ns k.env.builtins k.c.mb := by rw [k.blt]; exact k.c.top.b.keeps st.base
    rcases hg with e1 | ⟨e1, e2⟩
    · exact Name_function_global k.kind hx (loadGlobal_global (env := k.env) hg' e1 ⟨rfl, ⟨ob, ho, hcl⟩, rfl⟩) hd
    · exact Name_function_global k.kind hx (loadGlobal_builtin (env := k.env) hg' e1 hb' e2 ⟨rfl, ⟨ob, ho, hcl⟩, rfl⟩) hd
  cases name with
  | none =>
    refine wpAny_handleBy_builtin (b := false) hc.base (meta_plain (X := T) hc) hsub (wpAny_mono key (fun c s₁ q => ?_) fun _ _ q => q.elim)
    refine Mine.hideG fun GG back => ?_
    obtain ⟨rfl, hT, rfl⟩ := q
    refine back ?_
    clear back
    exact ⟨rfl, hT, h B s₁ st i⟩
  | some n =>
    refine wpAny_handleBy_builtin_as (b := false) hc.base (meta_plain (X := T) hc) hsub (wpAny_mono key (fun c s₁ q => ?_) fun _ _ q => q.elim)
    refine Mine.hideG fun GG back => ?_
    obtain ⟨rfl, hT, rfl⟩ := q
    refine back ?_
    clear back
    exact ⟨rfl, hT, h B s₁ st i⟩
theorem WH_hit {x : Str} {T N I : String} {p pos : Pos} {b₀ : Stmt} {suite : List Stmt} {rest : List ExceptHandler} {e : Addr} {cls : String} {xs : Option (List V)} {Q : Flow → Loc → AHeap → Prop}
    (hc : ExcClass T N I) (hg : Gl k.c x (.type T)) (hx : k.env.kindOf x = some .globalImplicit) (hsub : isSubtype (.type cls) (.type T) = pure true) (hd : (x == ("__debug__" : Str)) = false)
    (h : ∀ kh, MarkK k e kh → W kh (execs (b₀ :: suite) kh.env) m H Q) : WH k (.ExceptHandler (some (.Name x p)) none (b₀ :: suite) pos :: rest) e cls xs m H Q := fun B s st i => by
  refine Mine.hideG fun GG back => ?_
  obtain ⟨base', a0, hO, hfl, ha⟩ := i
  obtain ⟨ob, ho, hcl⟩ := hfl.there
  refine back ?_
  clear back
  have key : wpAny (model k.c.prog k.c.w) (k.A.mark (some (.ref e))) (eval (.Name x p) k.env) (fun c s₁ => c = .type T ∧ s₁.TypeIs (.ref e) cls ∧ s₁ = s) (fun _ _ => False) s := by
    have hg' : s.heap.Ns k.env.globals k.c.mg := by rw [k.glob]; exact k.c.top.g.keeps st.base
    have hb' : s.heap.Ns k.env.builtins k.c.mb := by rw [k.blt]; exact k.c.top.b.keeps st.base
    rcases hg with e1 | ⟨e1, e2⟩
    · exact Name_function_global k.kind hx (loadGlobal_global (env := k.env) hg' e1 ⟨rfl, ⟨ob, ho, hcl⟩, rfl⟩) hd
    · exact Name_function_global k.kind hx (loadGlobal_builtin (env := k.env) hg' e1 hb' e2 ⟨rfl, ⟨ob, ho, hcl⟩, rfl⟩) hd
  refine wpAny_handleBy_builtin (b := true) hc.base (meta_plain (X := T) hc) hsub (wpAny_mono key (fun c s₁ q => ?_) fun _ _ q => q.elim)
  refine Mine.hideG fun GG back => ?_
  obtain ⟨rfl, hT, rfl⟩ := q
  refine back ?_
  clear back
  refine ⟨rfl, hT, ?_⟩
  rw [if_pos rfl]
  refine lands_againW hfl fun h3 hh3 hu3 => ?_
  have st3 := st.flown hO hfl.1 hh3.1 hu3 (tk := s₁.toks) st.tk
  exact wpAny_mono (h (markWk k e) ⟨rfl, rfl, rfl, rfl⟩ B _ st3) (fun f s' q => q) fun _ _ q => q.elim
theorem WH_hitAs {x n : Str} {T N I : String} {p pos : Pos} {b₀ : Stmt} {suite : List Stmt} {rest : List ExceptHandler} {e : Addr} {cls : String} {l : List V} {Q : Flow → Loc → AHeap → Prop}
    (hc : ExcClass T N I) (hg : Gl k.c x (.type T)) (hx : k.env.kindOf x = some .globalImplicit) (hn : k.env.kindOf n = some .local) (hsub : isSubtype (.type cls) (.type T) = pure true) (hd : (x == ("__debug__" : Str)) = false) (hcls : cls ≠ "tuple")
    (h : ∀ kh t, MarkK k e kh → H e = none → H t = none → t ≠ e → W kh (execs (b₀ :: suite) kh.env) (setL m n (.ref e)) (upd (upd H t (.tup l)) e (.exc cls (some t))) fun f m' H' => Q f (clr m' n) H') :
    WH k (.ExceptHandler (some (.Name x p)) (some n) (b₀ :: suite) pos :: rest) e cls (some l) m H Q := fun B s st i => by
  refine Mine.hideG fun GG back => ?_
  obtain ⟨base', a0, hO, hfl, ha⟩ := i
  obtain ⟨ob, ho, hcl⟩ := hfl.there
  refine back ?_
  clear back
  have key : wpAny (model k.c.prog k.c.w) (k.A.mark (some (.ref e))) (eval (.Name x p) k.env) (fun c s₁ => c = .type T ∧ s₁.TypeIs (.ref e) cls ∧ s₁ = s) (fun _ _ => False) s := by
    have hg' : s.heap.Ns k.env.globals k.c.mg := by rw [k.glob]; exact k.c.top.g.keeps st.base
    have hb' : s.heap.Ns k.env.builtins k.c.mb := by rw [k.blt]; exact k.c.top.b.keeps st.base
    rcases hg with e1 | ⟨e1, e2⟩
    · exact Name_function_global k.kind hx (loadGlobal_global (env := k.env) hg' e1 ⟨rfl, ⟨ob, ho, hcl⟩, rfl⟩) hd
    · exact Name_function_global k.kind hx (loadGlobal_builtin (env := k.env) hg' e1 hb' e2 ⟨rfl, ⟨ob, ho, hcl⟩, rfl⟩) hd
  refine wpAny_handleBy_builtin_as (b := true) hc.base (meta_plain (X := T) hc) hsub (wpAny_mono key (fun c s₁ q => ?_) fun _ _ q => q.elim)
  refine Mine.hideG fun GG back => ?_
  obtain ⟨rfl, hT, rfl⟩ := q
  refine back ?_
  clear back
  refine ⟨rfl, hT, ?_⟩
  rw [if_pos rfl]
  refine lands_againW hfl fun h3 hh3 hu3 => ?_
  have st3 := st.flown hO hfl.1 hh3.1 hu3 (tk := s₁.toks) st.tk
  refine Mine.hideG fun GG back => ?_
  obtain ⟨t, vs, cnt, rfl, hvs, ht, hbt, hbe, awT, awE⟩ := ha l rfl
  have ht3 := hh3.1 t _ ht
  obtain ⟨oe, evs, he3, hec, hed, he0⟩ := hh3.first
  refine back ?_
  clear back
  have hte : t ≠ e := fun q => by
    rw [q] at ht
    rw [hfl.2.1] at ht; cases ht
  have st4 := st3.adopt (a := t) (y := .tup l) ⟨_, ht3, vs, cnt, rfl, hvs⟩ awT.1 awT.2.1 awT.2.2 hbt
  have st5 := st4.adopt (a := e) (y := .exc cls (some t)) ⟨oe, he3, hcls, hec, evs, hed, fun t' q => by cases q; exact he0⟩ (by unfold upd; rw [if_neg (Ne.symm hte)]; exact awE.1) awE.2.1 awE.2.2 hbe
  have hst := W_store (k := markWk k e) (x := n) (v := .ref e) (Q := fun _ m' H' => m' = setL m n (.ref e) ∧ H' = upd (upd H t (.tup l)) e (.exc cls (some t))) (by unfold storable; rw [show (markWk k e).env.kindOf n = some .local from hn]) ⟨rfl, rfl⟩ B _ st5
  refine wpAny_mono hst (fun _ s2 q => ?_) fun _ _ q => q.elim
  refine Mine.hideG fun GG back => ?_
  obtain ⟨m', H', st6, rfl, rfl⟩ := q
  refine back ?_
  clear back
  refine wpAny_mono (h (markWk k e) t ⟨rfl, rfl, rfl, rfl⟩ awE.1 awT.1 hte B _ st6) (fun f s7 q => ?_) fun _ _ q => q.elim
  refine Mine.hideG fun GG back => ?_
  obtain ⟨m7, H7, st7', q⟩ := q
  have st7 : St k.c k.o k.env B m7 H7 s7 := st7'
  obtain ⟨mv, hns, hv⟩ := st7.var
  refine back ?_
  clear back
  refine wpAny_nameGoes_keeps hn hns (by rw [k.kind]; rfl) fun h8 v hns8 hs8 => ?_
  refine ⟨clr m7 n, H7, St.clr (tk := s7.toks + 1) st7 hn (fun mv' hmv' => ?_) hs8 (Nat.le_succ_of_le st7.tk), q⟩
  have e : mv' = mv := by
    funext y
    refine Mine.hideG fun GG back => ?_
    obtain ⟨ob', es', ep', ho', hd', _, hf'⟩ := hmv'
    obtain ⟨ob2, es2, ep2, ho2, hd2, _, hf2⟩ := hns
    refine back ?_
    clear back
    rw [ho2] at ho'; cases ho'
    rw [hd2] at hd'; cases hd'
    rw [← hf2, ← hf']
  rw [e]; exact ⟨v, hns8⟩
end
end Mine
namespace Mine
noncomputable def allOf (h : Heap) (skip : Addr → Bool) : List (Addr × Obj) := (List.range h.objs.size).filterMap fun a => if skip a then none else (h.get? a).map fun o => (a, o)
theorem mem_allOf {h : Heap} {skip : Addr → Bool} {p : Addr × Obj} : p ∈ allOf h skip ↔ skip p.1 = false ∧ h.get? p.1 = some p.2 := by
  unfold allOf
  rw [List.mem_filterMap]
  constructor
  · intro hg13_0
    refine Mine.hideG fun GG back => ?_
    obtain ⟨a, _, e⟩ := hg13_0
    refine back ?_
    clear back
    split at e
    · cases e
    · rename_i hs
      refine Mine.hideG fun GG back => ?_
      obtain ⟨o, ho, rfl⟩ := Option.map_eq_some_iff.mp e
      refine back ?_
      clear back
      exact ⟨(Bool.not_eq_true _).mp hs, ho⟩
  · intro hg19_0
    refine Mine.hideG fun GG back => ?_
    obtain ⟨h1, h2⟩ := hg19_0
    refine back ?_
    clear back
    exact ⟨p.1, List.mem_range.mpr (Heap.lt_size h2), by rw [if_neg (by rw [h1]; exact Bool.false_ne_true), h2]; rfl⟩
section
variable {c : Cx} {o : Out} {env : Env} {B : BMap} {m : Loc} {H : AHeap} {s : Shared}
noncomputable def skipOf (c : Cx) (L : Addr) (as : List Addr) (b : Addr) : Bool := (b == L) || as.contains b || (c.base.get? b).isSome
theorem news_all (st : St c o env B m H s) (as : List Addr) : News c.base env.locals s.heap (allOf s.heap (skipOf c env.locals as)) := fun p hp => by
  refine Mine.hideG fun GG back => ?_
  obtain ⟨h1, h2⟩ := mem_allOf.mp hp
  refine back ?_
  clear back
  unfold skipOf at h1
  rw [Bool.or_eq_false_iff, Bool.or_eq_false_iff] at h1
  exact ⟨h2, fun e => by rw [e] at h1; simp at h1, by
    cases q : c.base.get? p.1 with
    | none => rfl
    | some x => rw [q] at h1; exact absurd h1.2 (by simp)⟩
theorem kept_all {F : Fr c.base env.locals s.heap m₀} (st : St c o env B m H s) {as : List Addr} {h' : Heap} {mv : Str → Option Value} (F' : Fr c.base env.locals h' mv) {news : List (Addr × Obj)} (N' : News c.base env.locals h' news)
    (hsub : ∀ p ∈ allOf s.heap (skipOf c env.locals as), p ∈ news) : ∀ b ob, b ∉ as → b ≠ env.locals → s.heap.get? b = some ob → h'.get? b = some ob := fun b ob hb hL e => by
  cases q : c.base.get? b with
  | some x =>
    have := st.base b x q
    rw [e] at this; cases this
    exact F'.keep b ob q
  | none =>
    refine (N' (b, ob) (hsub _ (mem_allOf.mpr ⟨?_, e⟩))).1
    unfold skipOf
    simp [hL, hb, q]
theorem ns_uniq {h : Heap} {L : Addr} {m1 m2 : Str → Option Value} (h1 : h.Ns L m1) (h2 : h.Ns L m2) : m1 = m2 := by
  funext y
  refine Mine.hideG fun GG back => ?_
  obtain ⟨ob1, es1, ep1, ho1, hd1, _, hf1⟩ := h1
  obtain ⟨ob2, es2, ep2, ho2, hd2, _, hf2⟩ := h2
  refine back ?_
  clear back
  rw [ho1] at ho2; cases ho2
  rw [hd1] at hd2; cases hd2
  rw [← hf1, ← hf2]
theorem St.putF (st : St c o env B m H s) {a : Addr} {x y : AObj} {h' : Heap} {tk : Nat} (hx : H a = some x) (hk : ∀ b ob, b ≠ a → b ≠ env.locals → s.heap.get? b = some ob → h'.get? b = some ob)
    (hns : ∀ mv, s.heap.Ns env.locals mv → h'.Ns env.locals mv) (hy : ∃ ob, h'.get? a = some ob ∧ IsObj c ob y) (ht : 1 ≤ tk) : St c o env B m (upd H a y) { s with heap := h', toks := tk } := by
  have hB := st.disB a x hx
  have hbl := st.disBase a x hx
  have hb : c.base.get? a = none := none_ge hbl
  have hp : a ∉ places env := fun q => by rw [(st.pl a q).1] at hx; cases hx
  have hpL := st.pl env.locals List.mem_cons_self
  refine ⟨fun b ob e => hk b ob (fun q => by rw [q, hb] at e; cases e) (fun q => by rw [q, none_ge hpL.2.2] at e; cases e) (st.base b ob e), fun b ob l e => ?_, fun b z e => ?_, fun b z e => ?_, fun b z e => ?_, fun b q => ?_, st.nodup, fun b e => ?_, ?_, st.frames, st.gens, st.os, ht⟩
  · refine Mine.hideG fun GG back => ?_
    obtain ⟨sl, e1, e2⟩ := st.keep b ob l e
    refine back ?_
    clear back
    exact ⟨sl, hk b _ (fun q => by rw [q, hB] at e; cases e) (fun q => by rw [q, hpL.2.1] at e; cases e) e1, e2⟩
  · rcases upd_some e with ⟨rfl, rfl⟩ | ⟨ne, e⟩
    · exact hy
    · obtain ⟨ob, e1, e2⟩ := st.own b z e; exact ⟨ob, hk b ob ne (fun q => by rw [q, hpL.1] at e; cases e) e1, e2⟩
  · rcases upd_some e with ⟨rfl, rfl⟩ | ⟨ne, e⟩
    · exact hB
    · exact st.disB b z e
  · rcases upd_some e with ⟨rfl, rfl⟩ | ⟨ne, e⟩
    · exact hbl
    · exact st.disBase b z e
  · refine Mine.hideG fun GG back => ?_
    obtain ⟨e1, e2, e3⟩ := st.pl b q
    refine back ?_
    clear back
    exact ⟨by unfold upd; rw [if_neg (fun z => by subst z; exact hp q)]; exact e1, e2, e3⟩
  · refine Mine.hideG fun GG back => ?_
    obtain ⟨v, ob, e1, e2⟩ := st.cell b e
    refine back ?_
    clear back
    exact ⟨v, ob, hk b ob (fun q => hp (by subst q; exact List.mem_cons_of_mem _ e)) (fun q => (List.nodup_cons.mp st.nodup).1 (q ▸ e)) e1, e2⟩
  · refine Mine.hideG fun GG back => ?_
    obtain ⟨mv, hn, hv⟩ := st.var
    refine back ?_
    clear back
    refine ⟨mv, hns mv hn, fun x v e => ?_⟩
    have cellK : ∀ a z, env.cells.lookup x = some a → s.heap.IsCell a z → h'.IsCell a z := fun b z e ⟨ob, ho, hd⟩ =>
      have hm := List.mem_map_of_mem (f := (·.2)) (PySem.mem_of_lookup e)
      ⟨ob, hk b ob (fun q => hp (by rw [← q]; exact List.mem_cons_of_mem _ hm)) (fun q => (List.nodup_cons.mp st.nodup).1 (q ▸ hm)) ho, hd⟩
    have q := hv x v e
    split at q
    · exact q
    · obtain ⟨a, u, e1, e2, e3⟩ := q; exact ⟨a, u, e1, cellK a _ e1 e2, e3⟩
    · obtain ⟨a, u, e1, e2, e3⟩ := q; exact ⟨a, u, e1, cellK a _ e1 e2, e3⟩
    · exact q
end
structure ClsAt (c : Cx) (C : Addr) (fI : Addr) : Prop where
  makes : makesIn c.K C = true
  keep : keepIn c.K (.ref C) = true
  init : findIn c.K (.ref C) "__init__" = some (some (.ref fI))
  initFn : isFn c.K (.ref fI) = true
  setat : findIn c.K (.ref C) "__setattr__" = some (some (.builtin "object.__setattr__"))
  over : plainOver c.K C = true
  taker : takerIn c.K C "dict" = some none
  hasd : hasDictIn c.K C = true
  getd : plainGet c.K C "dict" = true
  findd : findIn c.K (.ref C) "dict" = some none
  noget : noGet c.K none = true
structure MethAt (c : Cx) (C : Addr) (name : Str) (f : Addr) : Prop where
  get : plainGet c.K C name = true
  find : findIn c.K (.ref C) name = some (some (.ref f))
  fn : isFn c.K (.ref f) = true
  keep : keepIn c.K (.ref f) = true
  other : (("dict" : Str) == name) = false
section
variable {k : Wk} {m : Loc} {H : AHeap}
theorem inst_at {B : BMap} {s : Shared} (st : St k.c k.o k.env B m H s) {x C dx : Addr} {v : V} (hx : H x = some (.inst C dx)) (hd : H dx = some (.attrs v)) :
    ∃ n t u, InstAt s.heap x (instObj C dx) C (some (dictOf [⟨PyData.keyHash k.c.w.params ("dict" : Str), .str ("dict" : Str) t, u⟩] n)) ∧ er u = v := by
  refine Mine.hideG fun GG back => ?_
  obtain ⟨ob, ho, rfl⟩ := st.own x _ hx
  obtain ⟨od, hod, n, t, u, rfl, e⟩ := st.own dx _ hd
  refine back ?_
  clear back
  exact ⟨n, t, u, ⟨ho, rfl, rfl, hod⟩, e⟩
theorem W_getDict {n : Str} {np pos : Pos} {x C dx fI : Addr} {v : V} {Q : V → Loc → AHeap → Prop} (hC : ClsAt k.c C fI) (hn : m n = some (.ref x)) (hx : H x = some (.inst C dx)) (hd : H dx = some (.attrs v)) (hv : ∀ i, v ≠ .bi i) (h : Q v m H)
    (hdb : (n == ("__debug__" : Str)) = false := by decide) (hcd : (n == ("__classdict__" : Str)) = false := by decide) : WV k (eval (.Attribute (.Name n np) ("dict" : Str) pos) k.env) m H Q := fun B s st =>
  Attribute_name (wpAny_mono (W_Name (Q := fun v m' H' => v = .ref x ∧ m' = m ∧ H' = H) hn ⟨rfl, rfl, rfl⟩ hdb hcd B s st) (fun ov s1 hx1 => by
    refine Mine.hideG fun GG back => ?_
    obtain ⟨m1, H1, st1, e1, e2, e3⟩ := hx1
    refine back ?_
    clear back
    subst e2; subst e3
    obtain rfl := er_ref e1
    refine Mine.hideG fun GG back => ?_
    obtain ⟨cnt, t, u, I, rfl⟩ := inst_at st1 hx hd
    obtain ⟨mv, F⟩ := st1.fr
    refine back ?_
    clear back
    refine get_own F k.c.inK I hC.getd hC.hasd hC.findd hC.noget (v := u) ?_ ?_ ⟨m1, H1, st1.toks _ (Nat.le_succ_of_le st1.tk), h⟩
    · unfold getL
      simp [Value.isStr]
    · cases u with
      | builtin i => exact absurd rfl (hv i)
      | _ => rfl) fun _ _ y => y)
theorem W_setDict {n : Str} {np pos' pos : Pos} {e : Expr} {Q : Flow → Loc → AHeap → Prop} {fI : Addr}
    (h : WV k (eval e k.env) m H fun v m1 H1 => ∃ x C dx, m1 n = some (.ref x) ∧ ClsAt k.c C fI ∧ H1 x = some (.inst C dx) ∧ (H1 dx = some .attrs0 ∨ ∃ u, H1 dx = some (.attrs u)) ∧ Q .next m1 (upd H1 dx (.attrs v)))
    (hs : swapsWith e (some (.Attribute (.Name n np) ("dict" : Str) pos')) pos.line k.env = pure false := by rfl) (hdb : (n == ("__debug__" : Str)) = false := by decide) (hcd : (n == ("__classdict__" : Str)) = false := by decide) :
    W k (exec (.Assign [.Attribute (.Name n np) ("dict" : Str) pos'] e pos) k.env) m H Q := fun B s st => by
  refine plainObj_wpAny_Assign_Attribute (wpAny_mono (h B s st) (fun v s1 q => ?_) fun _ _ y => y) hs
  refine Mine.hideG fun GG back => ?_
  obtain ⟨m1', H1', st1, x, C, dx, hn, hC, hx, hdx, q⟩ := q
  refine back ?_
  clear back
  refine wpAny_mono (W_Name (Q := fun v m' H' => v = .ref x ∧ m' = m1' ∧ H' = H1') hn ⟨rfl, rfl, rfl⟩ hdb hcd B s1 st1) (fun ov s2 q2 => ?_) fun _ _ y => y
  refine Mine.hideG fun GG back => ?_
  obtain ⟨m1, H1, st2, e1, rfl, rfl⟩ := q2
  refine back ?_
  clear back
  obtain rfl := er_ref e1
  refine Mine.hideG fun GG back => ?_
  obtain ⟨mv, F⟩ := st2.fr
  obtain ⟨ox, hox, rfl⟩ := st2.own x _ hx
  refine back ?_
  clear back
  have go : ∀ (es es' : List DictEntry) (cnt cnt' : Nat) (z : AObj), H1 dx = some z → s2.heap.get? dx = some (dictOf es cnt) → (getL ("dict" : Str) es).isSome = true →
      (putL ("dict" : Str) (PyData.keyHash k.c.w.params ("dict" : Str)) (.str ("dict" : Str) (s2.toks + 1)) v es, putN ("dict" : Str) es cnt) = (es', cnt') → es'.length ≤ 1000 → IsObj k.c (dictOf es' cnt') (.attrs (er v)) →
      wpAny (model k.c.prog k.c.w) k.A (setAttr (.ref x) ("dict" : Str) v) (fun _ s' => ∃ m' H', St k.c k.o k.env B m' H' s' ∧ Q .next m' H') k.E s2 := by
    intro es es' cnt cnt' z hz hd hl hp hlen hI
    have N0 := news_all st2 [dx]
    have hdL : dx ≠ k.env.locals := fun q => by rw [q, (st2.pl k.env.locals List.mem_cons_self).1] at hz; cases hz
    have hdb' : k.c.base.get? dx = none := none_ge (st2.disBase dx z hz)
    have N : News k.c.base k.env.locals s2.heap ((dx, dictOf es cnt) :: allOf s2.heap (skipOf k.c k.env.locals [dx])) := fun p hp => by
      rcases List.mem_cons.mp hp with rfl | hp
      · exact ⟨hd, hdL, hdb'⟩
      · exact N0 p hp
    have hne : ∀ p ∈ allOf s2.heap (skipOf k.c k.env.locals [dx]), p.1 ≠ dx := fun p hp q => by
      have := (mem_allOf.mp hp).1
      unfold skipOf at this
      rw [q] at this
      simp at this
    refine set_dict F k.c.inK N (ox := instObj C dx) ⟨hox, rfl, rfl, hd⟩ rfl hC.setat hC.over hC.taker hC.hasd hl hp (.head hne) hlen fun h' F' N' => ?_
    have hkeep : ∀ b ob, b ≠ dx → b ≠ k.env.locals → s2.heap.get? b = some ob → h'.get? b = some ob := fun b ob hb hL e =>
      kept_all (F := F) st2 F' N' (as := [dx]) (fun p hp => List.mem_cons_of_mem _ hp) b ob (by simpa using hb) hL e
    refine ⟨m1, _, st2.putF hz hkeep (fun mv' hmv' => ?_) ⟨_, (N' _ List.mem_cons_self).1, hI⟩ (by have := st2.tk; lia), q⟩
    rw [ns_uniq hmv' F.ns]; exact F'.ns
  rcases hdx with hdx | ⟨u, hdx⟩
  · refine Mine.hideG fun GG back => ?_
    obtain ⟨od, hod, rfl⟩ := st2.own dx _ hdx
    refine back ?_
    clear back
    refine go [] _ 0 _ _ hdx hod rfl rfl (by simp [putL]) ⟨_, _, _, rfl, rfl⟩
  · refine Mine.hideG fun GG back => ?_
    obtain ⟨od, hod, cnt, t, u', rfl, rfl⟩ := st2.own dx _ hdx
    refine back ?_
    clear back
    have hstr : Value.isStr (.str ("dict" : Str) t) ("dict" : Str) = true := by simp [Value.isStr]
    refine go _ [⟨PyData.keyHash k.c.w.params ("dict" : Str), .str ("dict" : Str) t, v⟩] cnt _ _ hdx hod ?_ (by unfold putL; simp only [hstr, if_true]; rfl) (by simp) ⟨_, t, v, rfl, rfl⟩
    unfold getL
    simp [Value.isStr]
theorem W_NewCls {x : Str} {p pos : Pos} {C fI : Addr} {Q : V → Loc → AHeap → Prop} (hC : ClsAt k.c C fI) (hg : Gl k.c x (.ref C)) (hx : k.env.kindOf x = some .globalImplicit)
    (h : ∀ a dx, H a = none → H dx = none → a ≠ dx → Fn k.c (k.A.under (.builtin "type.__call__" ⟨[.ref C], []⟩)) (.ref fI) ⟨[.ref a], []⟩ (upd (upd H dx .attrs0) a (.inst C dx)) (fun v H' => v = .none ∧ Q (.ref a) m H') NoX)
    (hd : (x == ("__debug__" : Str)) = false := by decide) : WV k (eval (.Call (.Name x p) [] [] pos) k.env) m H Q := fun B s st =>
  wpAny_Call_NameR (wpAny_mono (W_NameG (Q := fun v m' H' => v = .ref C ∧ m' = m ∧ H' = H) hg hx ⟨rfl, rfl, rfl⟩ hd B s st) (fun g s1 hx1 => by
    refine Mine.hideG fun GG back => ?_
    obtain ⟨m1, H1, st1, e1, e2, e3⟩ := hx1
    refine back ?_
    clear back
    subst e2; subst e3
    obtain rfl := er_ref e1
    have X : k.c.K.In s1.heap := k.c.inK.keeps st1.base
    refine callWith_K0 X hC.keep (wpAny_call ?_)
    refine Mine.hideG fun GG back => ?_
    obtain ⟨hh, gg, dd, tt, os⟩ := s1
    refine back ?_
    clear back
    refine make_core (rest := []) (kw := []) (makes_of X hC.makes) (looks_findIn X hC.init) (fun self => bind_fn X self (beq_iff_eq.mp hC.initFn)) (.inl rfl) ?_
    have hsz : (hh.push emptyDict).objs.size = hh.objs.size + 1 := Heap.size_push ..
    have f1 := st1.fresh (st1.none_at (Nat.le_refl hh.objs.size))
    have st2 := st1.new (tk := tt) (y := .attrs0) (h' := hh.push emptyDict) (Nat.le_refl hh.objs.size) (fun b ob e => Heap.get?_push_of_some _ e) ⟨_, Heap.get?_push_size _ rfl, rfl⟩ st1.tk
    have f2 := st1.fresh (st1.none_at (Nat.le_succ hh.objs.size))
    have st3 := st2.new (tk := tt) (y := .inst C hh.objs.size) (a := hh.objs.size + 1) (h' := (hh.push emptyDict).push (instObj C hh.objs.size)) (by rw [← hsz]; exact Nat.le_refl _) (fun b ob e => Heap.get?_push_of_some _ e) ⟨_, by rw [← hsz]; exact Heap.get?_push_size _ rfl, rfl⟩ st1.tk
    refine codeAny_mono (h (hh.objs.size + 1) hh.objs.size f2.1 f1.1 (Nat.succ_ne_self _) k.o k.env B m1 _ k.kind k.frames st3) fun r s' q => ?_
    rcases r with e | (v | _ | _ | _)
    · obtain ⟨_, _, _, _, _, _, _, q⟩ := q; exact q.elim
    · exact q.elim
    · exact q.elim
    · exact q.elim
    · refine Mine.hideG fun GG back => ?_
      obtain ⟨H', st', e, q⟩ := q
      refine back ?_
      clear back
      exact ⟨er_none e, m1, H', st', q⟩) fun _ _ y => y)
theorem W_CallMeth {o : Expr} {name : Str} {apos pos : Pos} {args : List Expr} {C f : Addr} {fd : FuncData} {body : List Stmt} {pl : Sem Bool} {Q : V → Loc → AHeap → Prop} (hM : MethAt k.c C name f) (hF : FnAt k.c f fd body)
    (h : WV k (eval o k.env) m H fun ov m1 H1 => ∃ x dx v, ov = .ref x ∧ H1 x = some (.inst C dx) ∧ H1 dx = some (.attrs v) ∧ WItems k args m1 H1 fun vs m2 H2 => FnV k.c k.A f (.ref x :: vs) [] H2 (fun r H' => Q r m2 H') fun a b H' => k.X a b m2 H')
    (he : eval (.Call (.Attribute o name apos) args [] pos) k.env = (do
      let ov ← eval o k.env
      standAt apos.atName
      let (f, first) ← holding [ov] (getMethod ov name pl)
      callWith pos f first (backTo pos (starEach args k.env)) (backToKw pos (keywordEach [] k.env))) := by rfl)
    (hp : (starEach args k.env).any (·.1) = false := by rfl) : WV k (eval (.Call (.Attribute o name apos) args [] pos) k.env) m H Q := fun B s st => by
  rw [he]
  refine wpAny_bind (wpAny_mono (h B s st) (fun ov s1 q => wpAny_bind (wpAny_standAt (wpAny_bind (wpAny_holding ?_)))) fun _ _ y => y)
  refine Mine.hideG fun GG back => ?_
  obtain ⟨m1, H1, st1, x, dx, v, e, hx, hdx, q⟩ := q
  refine back ?_
  clear back
  obtain rfl := er_ref e
  refine Mine.hideG fun GG back => ?_
  obtain ⟨cnt, t, u, I, rfl⟩ := inst_at st1 hx hdx
  obtain ⟨mv, F⟩ := st1.fr
  refine back ?_
  clear back
  refine method_inst F k.c.inK I hM.get hM.find hM.fn ?_ ?_
  · unfold getL
    have hs : Value.isStr (.str ("dict" : Str) t) name = false := by
      show (("dict" : Str) == name) = false
      exact hM.other
    simp [hs, DictEntry.refKey]
  · refine Mine.hideG fun GG back => ?_
    obtain ⟨fo, hfo, hfd⟩ := hF.obj
    refine back ?_
    clear back
    refine Calls.callWith_function (o := fo) (fd := fd) (wpAny_mono (evalArgs_of (f := .ref f) (pos := pos) hp q B s1 st1) (fun a s2 ⟨m2, H2, st2, e, q⟩ => ?_) fun _ _ y => y)
    rw [e]
    exact ⟨⟨st2.base f fo hfo, hfd⟩, W_callF (q (.ref x :: a.pos) [] rfl rfl) B s2 st2⟩
end
end Mine
namespace Mine
/-! plain data that lies in the heap -/
mutual
noncomputable def Rd (H : AHeap) : PyData → V → Prop
  | .none, v => v = .none
  | .int i, v => v = .int i
  | .str x, v => ∃ t, v = .str x t
  | .list ds, v => ∃ a vs, v = .ref a ∧ H a = some (.list vs) ∧ RdAll H ds vs
  | .tuple ds, v => ∃ a vs, v = .ref a ∧ H a = some (.tup vs) ∧ RdAll H ds vs
  | _, _ => False
noncomputable def RdAll (H : AHeap) : List PyData → List V → Prop
  | [], vs => vs = []
  | d :: ds, vs => ∃ v r, vs = v :: r ∧ Rd H d v ∧ RdAll H ds r
end
mutual
theorem Rd.ext {H H' : AHeap} (h : Ext H H') : ∀ (d : PyData) (v : V), Rd H d v → Rd H' d v
  | .none, v, r => r
  | .bool _, v, r => r
  | .int i, v, r => r
  | .str x, v, r => r
  | .list ds, v, ⟨a, vs, e, ha, r⟩ => ⟨a, vs, e, h a _ ha, RdAll.ext h ds vs r⟩
  | .tuple ds, v, ⟨a, vs, e, ha, r⟩ => ⟨a, vs, e, h a _ ha, RdAll.ext h ds vs r⟩
  | .dict _, v, r => r
theorem RdAll.ext {H H' : AHeap} (h : Ext H H') : ∀ (ds : List PyData) (vs : List V), RdAll H ds vs → RdAll H' ds vs
  | [], vs, r => r
  | d :: ds, vs, ⟨v, r, e, h1, h2⟩ => ⟨v, r, e, Rd.ext h d v h1, RdAll.ext h ds r h2⟩
end
mutual
theorem Rd.reads {c : Cx} {H : AHeap} {s : Shared} (o : Own c H s) : ∀ (d : PyData) (v : Value), Rd H d (er v) → ∃ as, Reads s.heap v d as
  | .none, v, r => by obtain rfl := er_none r; exact ⟨_, .none⟩
  | .bool _, v, r => r.elim
  | .int i, v, r => by obtain ⟨t, rfl⟩ := er_int r; exact ⟨_, .int i t⟩
  | .str x, v, ⟨t, r⟩ => by obtain rfl := er_str r; exact ⟨_, .str x t⟩
  | .list ds, v, ⟨a, vs, e, ha, r⟩ => by
    obtain rfl := er_ref e
    refine Mine.hideG fun GG back => ?_
    obtain ⟨_, ob, ho, us, n, rfl, e'⟩ := o.1.1 a _ ha
    obtain ⟨as, h⟩ := RdAll.reads o ds us (by rw [e']; exact r)
    refine back ?_
    clear back
    exact ⟨_, .list ho rfl rfl (by simpa using h)⟩
  | .tuple ds, v, ⟨a, vs, e, ha, r⟩ => by
    obtain rfl := er_ref e
    refine Mine.hideG fun GG back => ?_
    obtain ⟨_, ob, ho, us, n, rfl, e'⟩ := o.1.1 a _ ha
    obtain ⟨as, h⟩ := RdAll.reads o ds us (by rw [e']; exact r)
    refine back ?_
    clear back
    exact ⟨_, .tuple ho rfl rfl (by simpa using h)⟩
  | .dict _, v, r => r.elim
theorem RdAll.reads {c : Cx} {H : AHeap} {s : Shared} (o : Own c H s) : ∀ (ds : List PyData) (vs : List Value), RdAll H ds (vs.map er) → ∃ as, ReadsAll s.heap vs ds as
  | [], vs, r => by
    have r : vs.map er = [] := r
    have : vs = [] := by simpa using r
    subst this
    exact ⟨_, .nil⟩
  | d :: ds, vs, ⟨v, r, e, h1, h2⟩ => by
    match vs, e with
    | u :: us, e =>
      simp only [List.map_cons, List.cons.injEq] at e
      refine Mine.hideG fun GG back => ?_
      obtain ⟨rfl, rfl⟩ := e
      obtain ⟨as, h1⟩ := Rd.reads o d u h1
      obtain ⟨bs, h2⟩ := RdAll.reads o ds us h2
      refine back ?_
      clear back
      exact ⟨_, .cons h1 h2⟩
end
-- data whose eqv is equality
mutual
noncomputable def good : PyData → Bool
  | .none => true
  | .int _ => true
  | .str x => PyData.strOk x
  | .list ds => goodAll ds
  | .tuple ds => goodAll ds
  | _ => false
noncomputable def goodAll : List PyData → Bool
  | [] => true
  | d :: ds => good d && goodAll ds
end
mutual
theorem eqv_good : ∀ (a b : PyData), good a = true → good b = true → (PyData.eqv a b = true ↔ a = b)
  | .none, b, ha, hb => by cases b <;> simp [PyData.eqv, good] at hb ⊢
  | .int i, b, ha, hb => by cases b <;> simp [PyData.eqv, good] at hb ⊢
  | .str x, b, ha, hb => by cases b <;> simp [PyData.eqv, good] at hb ⊢
  | .list xs, b, ha, hb => by
    cases b with
    | list ys =>
      simp only [good] at ha hb
      simp only [PyData.eqv, PyData.list.injEq]
      exact eqvAll_good xs ys ha hb
    | _ => simp [PyData.eqv, good] at hb ⊢
  | .tuple xs, b, ha, hb => by
    cases b with
    | tuple ys =>
      simp only [good] at ha hb
      simp only [PyData.eqv, PyData.tuple.injEq]
      exact eqvAll_good xs ys ha hb
    | _ => simp [PyData.eqv, good] at hb ⊢
  | .bool _, b, ha, hb => by simp [good] at ha
  | .dict _, b, ha, hb => by simp [good] at ha
theorem eqvAll_good : ∀ (xs ys : List PyData), goodAll xs = true → goodAll ys = true → (PyData.eqvAll xs ys = true ↔ xs = ys)
  | [], [], _, _ => by simp [PyData.eqvAll]
  | [], _ :: _, _, _ => by simp [PyData.eqvAll]
  | _ :: _, [], _, _ => by simp [PyData.eqvAll]
  | x :: xs, y :: ys, ha, hb => by
    simp only [goodAll, Bool.and_eq_true] at ha hb
    simp only [PyData.eqvAll, Bool.and_eq_true, List.cons.injEq]
    exact and_congr (eqv_good x y ha.1 hb.1) (eqvAll_good xs ys ha.2 hb.2)
end
mutual
theorem canLay_good : ∀ (a : PyData), good a = true → a.canLay0 = true
  | .none, h => by simp [PyData.canLay0]
  | .int i, h => by simp [PyData.canLay0]
  | .str x, h => by simpa [PyData.canLay0, good] using h
  | .list xs, h => by
    simp only [good] at h
    simp only [PyData.canLay0]
    exact canLayAll_good xs h
  | .tuple xs, h => by
    simp only [good] at h
    simp only [PyData.canLay0]
    exact canLayAll_good xs h
  | .bool _, h => by simp [good] at h
  | .dict _, h => by simp [good] at h
theorem canLayAll_good : ∀ (xs : List PyData), goodAll xs = true → PyData.canLayAll0 xs = true
  | [], h => by simp [PyData.canLayAll0]
  | x :: xs, h => by
    simp only [goodAll, Bool.and_eq_true] at h
    simp only [PyData.canLayAll0, Bool.and_eq_true]
    exact ⟨canLay_good x h.1, canLayAll_good xs h.2⟩
end
section
variable {k : Wk} {m : Loc} {H : AHeap}
theorem WCmp_eqD {a b : V} {da db : PyData} {r : Bool} {Q : V → Loc → AHeap → Prop} (ha : Rd H da a) (hb : Rd H db b) (ga : good da = true) (gb : good db = true) (dp : min da.depth db.depth ≤ 64) (hu : k.A.units + 64 < cLine) (hr : r = true ↔ da = db) (h : Q (.bool r) m H) : WCmp k .Eq a b m H Q := fun x y hx hy => by
  subst hx; subst hy
  refine W.of_wp fun B s st P hp => ?_
  refine Mine.hideG fun GG back => ?_
  obtain ⟨as, ra⟩ := Rd.reads st.owned da x ha
  obtain ⟨bs, rb⟩ := Rd.reads st.owned db y hb
  refine back ?_
  clear back
  have e : PyData.eqv da db = r := by
    rw [Bool.eq_iff_iff, eqv_good da db ga gb, hr]
  exact SeqAt.compareEq_reads ra rb (canLay_good da ga) (canLay_good db gb) (by lia) (e ▸ hp (.bool r) s.toks h)
theorem WCmp_neD {a b : V} {da db : PyData} {r : Bool} {Q : V → Loc → AHeap → Prop} (ha : Rd H da a) (hb : Rd H db b) (ga : good da = true) (gb : good db = true) (dp : min da.depth db.depth ≤ 64) (hu : k.A.units + 64 < cLine) (hr : r = true ↔ da ≠ db) (h : Q (.bool r) m H) : WCmp k .NotEq a b m H Q := fun x y hx hy => by
  subst hx; subst hy
  refine W.of_wp fun B s st P hp => ?_
  refine Mine.hideG fun GG back => ?_
  obtain ⟨as, ra⟩ := Rd.reads st.owned da x ha
  obtain ⟨bs, rb⟩ := Rd.reads st.owned db y hb
  refine back ?_
  clear back
  have e : (!PyData.eqv da db) = r := by
    rw [Bool.eq_iff_iff, hr, Bool.not_eq_true', Bool.eq_false_iff, ne_eq, eqv_good da db ga gb]
  exact SeqAt.compareNe_reads ra rb (canLay_good da ga) (canLay_good db gb) (by lia) (e ▸ hp (.bool r) s.toks h)
/-! truth -/
/-! in a tuple or a list of ints and texts -/
noncomputable def eqKV : V → V → Bool
  | .int i, .int j => i == j
  | .str x _, .str y _ => x == y
  | _, _ => false
noncomputable def simpleV : V → Bool
  | .int _ => true
  | .str _ _ => true
  | _ => false
theorem eqGives_simple {y x : Value} (hy : simpleV (er y) = true) (hx : simpleV (er x) = true) : MeetsSeq.EqGives y x (eqKV (er y) (er x)) := fun prog w A E s Q h => by
  have kx : ∃ a : Key, isKey a x = true := by
    cases x <;> simp [er, simpleV] at hx
    · exact ⟨.inl _, by simp [isKey, Value.isInt]; rfl⟩
    · exact ⟨.inr _, by simp [isKey, Value.isStrOf]; rfl⟩
  have ky : ∃ a : Key, isKey a y = true := by
    cases y <;> simp [er, simpleV] at hy
    · exact ⟨.inl _, by simp [isKey, Value.isInt]; rfl⟩
    · exact ⟨.inr _, by simp [isKey, Value.isStrOf]; rfl⟩
  refine Mine.hideG fun GG back => ?_
  obtain ⟨a, ha⟩ := kx
  obtain ⟨b, hb⟩ := ky
  refine back ?_
  clear back
  refine eqBool_key hb ha ?_
  have e : decide (b = a) = eqKV (er y) (er x) := by
    rw [isKey_er] at ha hb
    cases y <;> simp [er, simpleV] at hy <;> cases x <;> simp [er, simpleV] at hx <;> cases a <;> cases b <;> simp [isKV, er, eqKV] at ha hb ⊢ <;> subst ha <;> subst hb <;> first | rfl | (rw [Bool.eq_iff_iff]; simp)
  rw [e]; exact h
theorem WCmp_inTup {x : V} {a : Addr} {xs : List V} {Q : V → Loc → AHeap → Prop} (ha : H a = some (.tup xs)) (hs : ∀ v ∈ xs, simpleV v = true) (hx : simpleV x = true) (h : Q (.bool (xs.any fun v => eqKV v x)) m H) : WCmp k .In x (.ref a) m H Q := fun u y hu hy => by
  subst hu
  obtain rfl := er_ref hy
  refine W.of_wp fun B s st P hp => ?_
  refine Mine.hideG fun GG back => ?_
  obtain ⟨vs, n, hl, rfl⟩ := st.tupAt ha
  refine back ?_
  clear back
  refine SeqRoads2.in_tuple (items := (vs : List Value).toArray) (n := n) (fun v => eqKV (er v) (er u)) (fun v hv => eqGives_simple (hs _ (List.mem_map_of_mem (f := er) (by simpa using hv))) hx) hl ?_
  have e : (vs.toArray.any fun v => eqKV (er v) (er u)) = (vs.map er).any fun v => eqKV v (er u) := by
    rw [List.any_map, ← Array.any_toList]; rfl
  rw [e]; exact hp _ s.toks h
end
end Mine
namespace Mine
theorem excAttr_KeyError : ExcAttrFacts "KeyError" where
  ga := .of (owner := "BaseException") (n := "__getattribute__") (by rw [typeLookup_type, builtinLookup_eq_fast]; kernel_rfl) (by decide +kernel) (by decide +kernel) (by decide +kernel)
    (by first | exact .inl (by decide +kernel) | exact .inr (by decide +kernel)) (by rw [isSubtype_type]; kernel_rfl)
  lkArgs := by rw [typeLookup_type, builtinLookup_eq_fast]; kernel_rfl
  sub := by rw [isSubtype_type]; kernel_rfl
theorem sub_key_key : isSubtype (.type "KeyError") (.type "KeyError") = pure true := by rw [isSubtype_type]; kernel_rfl
theorem sub_index_key : isSubtype (.type "IndexError") (.type "KeyError") = pure false := by rw [isSubtype_type]; kernel_rfl
theorem sub_index_index : isSubtype (.type "IndexError") (.type "IndexError") = pure true := by rw [isSubtype_type]; kernel_rfl
section
variable {k : Wk} {m : Loc} {H : AHeap}
theorem not_interactive (k : Wk) : interactive k.env = false := by unfold interactive; rw [k.kind]; rfl
theorem W_ExprStmt {e : Expr} {pos : Pos} {Q : Flow → Loc → AHeap → Prop} (h : WV k (eval e k.env) m H fun _ m1 H1 => Q .next m1 H1)
    (hs : swapsWith e none pos.line k.env = pure false := by rfl) : W k (exec (.Expr e pos) k.env) m H Q := W_Expr h (not_interactive k) hs
theorem W_getArgs {n : Str} {np pos : Pos} {e t : Addr} {cls : String} {Q : V → Loc → AHeap → Prop} (FX : ExcAttrFacts cls) (hn : m n = some (.ref e)) (he : H e = some (.exc cls (some t))) (h : Q (.ref t) m H)
    (hdb : (n == ("__debug__" : Str)) = false := by decide) (hcd : (n == ("__classdict__" : Str)) = false := by decide) : WV k (eval (.Attribute (.Name n np) ("args" : Str) pos) k.env) m H Q := fun B s st =>
  Attribute_name (wpAny_mono (W_Name (Q := fun v m' H' => v = .ref e ∧ m' = m ∧ H' = H) hn ⟨rfl, rfl, rfl⟩ hdb hcd B s st) (fun ov s1 hx1 => by
    refine Mine.hideG fun GG back => ?_
    obtain ⟨m1, H1, st1, e1, e2, e3⟩ := hx1
    refine back ?_
    clear back
    subst e2; subst e3
    obtain rfl := er_ref e1
    obtain ⟨ob, ho, _, hc, vs, hd, ha⟩ := st1.own e _ he
    obtain ⟨hh, g, d, tt, os⟩ := s1
    exact args_attr FX ho hc hd (ha t rfl) ⟨m1, H1, st1.toks _ (Nat.le_succ_of_le st1.tk), h⟩) fun _ _ y => y)
theorem WCall_values {d : Addr} {kvs : List (Key × V)} {ep : Nat} {Q : V → Loc → AHeap → Prop} (hd : H d = some (.dict kvs ep)) (h : ∀ a, H a = none → Q (.ref a) m (upd H a (.vals d))) : WCall k (.builtin "dict.values") [.ref d] m H Q := fun vs e => by
  obtain ⟨x, rfl, e'⟩ := map_er1 e
  obtain rfl := er_ref e'
  refine W.of_new (R := fun y => y = .vals d) (fun B s st P hp => ?_) (fun a y hy hn => hy ▸ h a hn)
  obtain ⟨rvs, hm, _⟩ := st.dictAt hd
  exact call_meetsIn PySem.F.slot_dict_values hm.dictOf.typeIs PySem.F.entry_dict_values (PySem.F.args_dict_values_1 _) (meets_dict_values (mix k.c.prog k.c.w) d (st.notMods hd)) ⟨⟨rvs, hm.dictOf⟩, hp _ _ _ _ rfl (Nat.le_refl _) (fun b ob e => Heap.get?_push_of_some _ e) ⟨_, Heap.get?_push_size _ rfl, rfl⟩⟩
theorem WCall_listVals {v d : Addr} {kvs : List (Key × V)} {ep : Nat} {Q : V → Loc → AHeap → Prop} (hh : k.A.handled = none) (hv : H v = some (.vals d)) (hd : H d = some (.dict kvs ep)) (hz : kvs.length ≤ sizeLine)
    (h : ∀ p, H p = none → Q (.ref p) m (upd H p (.list (kvs.map (·.2))))) : WCall k (.type "list") [.ref v] m H Q := fun vs e => by
  obtain ⟨x, rfl, e'⟩ := map_er1 e
  obtain rfl := er_ref e'
  refine W.of_new (R := fun y => y = .list (kvs.map (·.2))) (fun B s st P hp => ?_) (fun a y hy hn => hy ▸ h a hn)
  obtain ⟨rvs, hm, hrv⟩ := st.dictAt hd
  obtain ⟨ob, ho, rfl⟩ := st.own v _ hv
  refine kdl_call (kdl_values (knd := mix k.c.prog k.c.w) (r := v) (d := d) (kvs := rvs) (ep := ep)) hh ⟨⟨_, ho, rfl, rfl⟩, hm⟩ (by rw [← hrv] at hz; simpa using hz) fun h' tk acc' c' hk hD hacc => ?_
  refine hp _ _ _ _ rfl (Nat.le_refl _) hk ⟨_, hD, acc'.toList, c', by simp, ?_⟩
  rw [kdl_vals_eq (kvs := rvs) acc'.toList (by rw [Array.length_toList]; exact hacc.1) fun j u hu => by
    obtain ⟨key, e⟩ := hacc.2 j u (by rw [← Array.getElem?_toList]; exact hu)
    exact ⟨key, e⟩]
  rw [← hrv, List.map_map, List.map_map]
  rfl
/-! dict displays -/
noncomputable def WPairs (k : Wk) : List (Option Expr) → List Expr → Loc → AHeap → (List (V × V) → Loc → AHeap → Prop) → Prop
  | [], [], m, H, Q => Q [] m H
  | some ke :: ks, ve :: vs, m, H, Q => WV k (eval ke k.env) m H fun kv m1 H1 => WV k (eval ve k.env) m1 H1 fun vv m2 H2 => WPairs k ks vs m2 H2 fun ps => Q ((kv, vv) :: ps)
  | _, _, _, _, _ => False
noncomputable def Carr : List (V × V) → List (Key × V) → Prop
  | [], [] => True
  | (kv, v) :: ps, (key, v') :: kvs => isKV key kv = true ∧ v = v' ∧ Carr ps kvs
  | _, _ => False
theorem WPairs_run : ∀ (ks : List (Option Expr)) (vs : List Expr) (pos : Pos) (m : Loc) (H : AHeap) (Q : List (V × V) → Loc → AHeap → Prop), WPairs k ks vs m H Q →
    W k (evalPairs (pairTrees ks vs k.env pos)) m H fun ps m1 H1 => Q (ps.map fun p => (er p.1, er p.2)) m1 H1
  | [], [], pos, m, H, Q, h => fun B s st => pairTrees_nil_walk ⟨m, H, st, h⟩
  | some ke :: ks, ve :: vs, pos, m, H, Q, h => fun B s st =>
    pairTrees_cons_walk (wpAny_mono (h B s st) (fun kv s1 ⟨m1, H1, st1, q1⟩ => wpAny_mono (q1 B s1 st1) (fun vv s2 ⟨m2, H2, st2, q2⟩ => wpAny_mono (WPairs_run ks vs pos m2 H2 _ q2 B s2 st2) (fun ps s3 ⟨m3, H3, st3, q3⟩ => ⟨m3, H3, st3, q3⟩) fun _ _ x => x) fun _ _ x => x) fun _ _ x => x)
  | [], _ :: _, _, _, _, _, h => h.elim
  | none :: _, _, _, _, _, _, h => by cases ‹List Expr› <;> exact h.elim
  | some _ :: _, [], _, _, _, _, h => h.elim
noncomputable def putAll (kvs : List (Key × V)) (more : List (Key × V)) : List (Key × V) := more.foldl (fun acc kv => putK acc kv.1 kv.2) kvs
theorem nodup_stored {K : Type} [DecidableEq K] {kvs : List (K × Value)} (h : (kvs.map (·.1)).Nodup) (k : K) (v : Value) : ((stored kvs k v).map (·.1)).Nodup := by
  unfold stored
  by_cases ha : (kvs.any fun kv => decide (kv.1 = k)) = true
  · rw [if_pos ha, keys_map_store]; exact h
  · rw [if_neg ha, List.map_append, List.nodup_append]
    refine ⟨h, by simp, ?_⟩
    intro a ha' b hb
    simp only [List.map_cons, List.map_nil, List.mem_singleton] at hb
    subst hb
    intro e
    subst e
    obtain ⟨kv, hkv, e⟩ := List.mem_map.mp ha'
    exact ha (List.any_eq_true.mpr ⟨kv, hkv, by simpa using e⟩)
theorem merged_er : ∀ (more kvs : List (Key × Value)), (kvs.map (·.1)).Nodup → (merged kvs more).map erP = putAll (kvs.map erP) (more.map erP)
  | [], kvs, h => rfl
  | (k', v) :: r, kvs, h => by
    have e := merged_er r (stored kvs k' v) (nodup_stored h k' v)
    rw [putK_er h] at e
    exact e
theorem W_Dict {keys : List (Option Expr)} {values : List Expr} {pos : Pos} {Q : V → Loc → AHeap → Prop}
    (h : WPairs k keys values m H fun ps m1 H1 => ∃ kvs, Carr ps kvs ∧ ∀ a ep, H1 a = none → Q (.ref a) m1 (upd H1 a (.dict (putAll [] kvs) ep)))
    (hall : keys.all (·.isSome) = true := by rfl) (hl : keys.length = values.length := by rfl) (h0 : keys ≠ [] := by simp) (hlen : keys.length ≤ 15 := by decide) : WV k (eval (.Dict keys values pos) k.env) m H Q := fun B s st => by
  obtain ⟨f1, f2, f3, f4⟩ := st.fresh (st.none_at (Nat.le_refl s.heap.objs.size))
  obtain ⟨h1, h2, st2⟩ := hide_new st { cls := .type "dict", data := .dict #[] } rfl
  have hext : k.o.ext s.heap.objs.size = none := by
    cases e : k.o.ext s.heap.objs.size with
    | none => rfl
    | some y => have := st.frames.2 _ y e; rw [f2] at this; cases this
  refine wpAny_Dict_walk (knd := mix k.c.prog k.c.w) hall hl h0 hlen (wpAny_mono (WPairs_run keys values pos m H _ h _ _ st2) (fun ps s3 q => ?_) fun _ _ x => x)
  obtain ⟨m3, H3, st3, kvs, hc, q⟩ := q
  have hD := hid_at st3
  have carries : ∀ (ps : List (Value × Value)) (kvs : List (Key × V)), Carr (ps.map fun p => (er p.1, er p.2)) kvs → ∃ rk, Carries (mix k.c.prog k.c.w) ps rk ∧ rk.map erP = kvs := by
    intro ps
    induction ps with
    | nil => intro kvs hc; cases kvs with
      | nil => exact ⟨[], trivial, rfl⟩
      | cons _ _ => exact hc.elim
    | cons p r ih =>
      obtain ⟨kv, v⟩ := p
      intro kvs hc
      cases kvs with
      | nil => exact hc.elim
      | cons q kvs =>
        obtain ⟨key, v'⟩ := q
        obtain ⟨g1, g2, g3⟩ := hc
        obtain ⟨rk, h1, h2⟩ := ih kvs g3
        have g2 : er v = v' := g2
        exact ⟨(key, v) :: rk, ⟨by show isKey key kv = true; rw [isKey_er]; exact g1, rfl, h1⟩, by rw [List.map_cons, h2]; simp [erP, g2]⟩
  obtain ⟨rk, hcr, rfl⟩ := carries ps kvs hc
  refine ⟨rk, hcr, ⟨_, #[], 0, hD, ⟨rfl, rfl, rfl⟩, rfl, (fun _ he => by simp at he), Pairs.nil, List.nodup_nil⟩, fun h' hm' hsb => ?_⟩
  obtain ⟨ep, hat⟩ := hm'.dictAt
  obtain ⟨ob, ho, hI⟩ := of_dictAt hat
  have hHD : H3 s.heap.objs.size = none := by
    cases e : H3 s.heap.objs.size with
    | none => rfl
    | some y => have := st3.disB _ y e; rw [upd_same] at this; cases this
  have st4 := St.but' h1 hext h2 st3 (tk := s3.toks + ps.length) hsb.extBut (by have := st3.tk; lia)
  have st5 := st4.adopt (a := s.heap.objs.size) (y := .dict (putAll [] (rk.map erP)) ep) ⟨ob, ho, by rw [merged_er rk [] List.nodup_nil] at hI; exact hI⟩ hHD f2 f4 h2
  exact ⟨m3, _, st5, q _ ep hHD⟩
end
end Mine
namespace Mine
noncomputable def fnBody : Stmt → List Stmt
  | .FunctionDef _ _ body _ _ _ _ _ _ _ => body
  | .ClassDef _ _ _ body _ _ _ _ _ _ _ => body
  | _ => []
noncomputable def fnParams : Stmt → Arguments
  | .FunctionDef _ a _ _ _ _ _ _ _ _ => a
  | _ => default
noncomputable def fnScope : Stmt → Scope
  | .FunctionDef _ _ _ _ _ _ sc _ _ _ => sc
  | _ => default
noncomputable def stm (l : List Stmt) (i : Nat) : Stmt := l.getD i (.Pass default)
noncomputable def RQ (P : V → AHeap → Prop) : Flow → Loc → AHeap → Prop := fun fl _ H => P (flowV fl) H
structure Room (A : Around) : Prop where
  depth : A.depth ≤ 600
  units : A.units ≤ 2000
  handled : A.handled = none
structure DefAt (c : Cx) (f : Addr) (st : Stmt) : Prop where
  at_ : ∃ fd, FnAt c f fd (fnBody st) ∧ fd.scope = fnScope st ∧ fd.params = fnParams st ∧ fd.defaults = .none ∧ fd.kwdefaults = .none
structure InFn (c : Cx) (A : Around) (st : Stmt) (X : String → Option (List V) → AHeap → Prop) (k : Wk) : Prop where
  c : k.c = c
  sv : SEnv k (fnScope st) (cellNames (fnScope st).names)
  frame : k.env.frame = some k.env.locals
  depth : k.A.depth = A.depth + 1
  units : k.A.units = A.units + 3
  handled : k.A.handled = A.handled
  X : k.X = fun cls xs _ H => X cls xs H
  here : k.here
theorem FnV.top {c : Cx} {A : Around} {f : Addr} {st : Stmt} {vs : List V} {H : AHeap} {Q : V → AHeap → Prop} {X : String → Option (List V) → AHeap → Prop} (F : DefAt c f st) (hA : Room A) (names : List Str) (hl : vs.length = names.length)
    (hb : ∀ (fd : FuncData) (rvs : List Value), fd.params = fnParams st → fd.defaults = .none → fd.kwdefaults = .none → rvs.length = names.length → bindArgs fd ⟨rvs, []⟩ = pure (names.zip rvs))
    (hk : (names.all fun y => (fnScope st).names.lookup y == some .local || (fnScope st).names.lookup y == some .cell) = true)
    (h : ∀ k, InFn c A st X k → W k (execs (fnBody st) k.env) (bindM (names.zip vs) noLoc) H (RQ Q)) : FnV c A f vs [] H Q X := fun rvs rkw e1 e2 => by
  refine Mine.hideG fun GG back => ?_
  obtain ⟨fd, F1, F2, F3, F4, F5⟩ := F.at_
  refine back ?_
  clear back
  have e2 : rkw = [] := by simpa using e2
  subst e2
  have hlen : rvs.length = names.length := by rw [← e1, List.length_map] at hl; exact hl
  refine Fn.of_body F1 (Nat.lt_of_le_of_lt hA.depth (by decide)) (binds := names.zip rvs) (fun s _ => BindsTo.of_eq (hb fd rvs F3 F4 F5 hlen)) ?_ fun k hk' => ?_
  · rw [F2, List.all_eq_true]
    intro y hy
    exact List.all_eq_true.mp hk y.1 (List.of_mem_zip hy).1
  · have := h k ⟨hk'.c, ⟨hk'.sc.trans F2, hk'.cn.trans (by rw [F2])⟩, hk'.frame, hk'.depth, hk'.units, hk'.handled, hk'.X, hk'.here⟩
    have e : (names.zip rvs).map (fun b => (b.1, er b.2)) = names.zip vs := by
      rw [← e1, List.zip_map_right]
      rfl
    rw [e]
    exact this
section
variable {k : Wk} {m : Loc} {H : AHeap}
theorem Roomy.of {sc : Scope} {cn : List Str} [I : SEnv k sc cn] (hf : k.env.frame = some k.env.locals) (hd : k.A.depth ≤ 700) (imp : importsNone k.c.p = true) (tree : k.c.prog.given.tree = none) (h1 : sc.isGenerator = false) (h2 : sc.isCoroutine = false) : Roomy k := by
  refine ⟨Nat.lt_of_le_of_lt (Nat.add_le_add_right hd _) (by decide), imp, tree, k.env, k.o.fs, ?_, by rw [I.sc]; exact h1, by rw [I.sc]; exact h2, k.blt, k.glob⟩
  rw [k.frames]
  exact congrArg some (if_pos hf)
theorem W_Return' {e : Expr} {pos : Pos} {Q : Flow → Loc → AHeap → Prop} (h : WV k (eval e k.env) m H fun v m1 H1 => ∀ u, er u = v → Q (.ret u) m1 H1) : W k (exec (.Return (some e) pos) k.env) m H Q :=
  W_Return (W.mono h fun v m1 H1 q => q v rfl)
theorem RQ_ret {P : V → AHeap → Prop} {v : V} {u : Value} (e : er u = v) (h : P v H) : RQ P (.ret u) m H := by
  show P (er u) H
  rw [e]; exact h
end
noncomputable def contQ (k : Wk) (r : List Stmt) (Q : Flow → Loc → AHeap → Prop) : Flow → Loc → AHeap → Prop := fun f m1 H1 => match f with | .next => W k (execs r k.env) m1 H1 Q | f => Q f m1 H1
section
variable {k : Wk} {m : Loc} {H : AHeap} {r : List Stmt} {Q : Flow → Loc → AHeap → Prop}
theorem W_cons' {st : Stmt} (h : W k (exec st k.env) m H (contQ k r Q)) : W k (execs (st :: r) k.env) m H Q := W_cons h
theorem contQ_next (h : W k (execs r k.env) m H Q) : contQ k r Q .next m H := h
theorem contQ_brk (h : Q .brk m H) : contQ k r Q .brk m H := h
theorem contQ_ret {u : Value} (h : Q (.ret u) m H) : contQ k r Q (.ret u) m H := h
variable {I : Loc → AHeap → Prop}
theorem loopQ_next (h : I m H) : loopQ k Q I .next m H := h
theorem loopQ_brk (h : Q .next m H) : loopQ k Q I .brk m H := h
theorem RQ_next {P : V → AHeap → Prop} (h : P .none H) : RQ P .next m H := h
theorem ite_dec {p : Prop} [Decidable p] {a b : Prop} (h1 : p → a) (h2 : ¬ p → b) : if decide p = true then a else b := by
  by_cases h : p
  · rw [if_pos (by simpa using h)]; exact h1 h
  · rw [if_neg (by simpa using h)]; exact h2 h
end
theorem WV_cut {k : Wk} {m : Loc} {H : AHeap} {t : Sem Value} {Q : V → Loc → AHeap → Prop} (P : V → Loc → AHeap → Prop) (h1 : WV k t m H P) (h2 : ∀ v m1 H1, P v m1 H1 → Q v m1 H1) : WV k t m H Q := W.mono h1 fun v => h2 _
theorem W_cut {α : Type} {k : Wk} {m : Loc} {H : AHeap} {t : Sem α} {Q : α → Loc → AHeap → Prop} (P : α → Loc → AHeap → Prop) (h1 : W k t m H P) (h2 : ∀ v m1 H1, P v m1 H1 → Q v m1 H1) : W k t m H Q := W.mono h1 h2
noncomputable def MethOn (c : Cx) (H : AHeap) (T : String) (ov : V) : Prop := ∃ a y, ov = .ref a ∧ H a = some y ∧ ∀ ob, IsObj c ob y → ob.cls = .type T ∧ ob.dict = none
theorem onList {c : Cx} {H : AHeap} {a : Addr} {xs : List V} (h : H a = some (.list xs)) : MethOn c H "list" (.ref a) := ⟨a, _, rfl, h, isList_cls⟩
theorem onDict {c : Cx} {H : AHeap} {a : Addr} {kvs : List (Key × V)} {ep : Nat} (h : H a = some (.dict kvs ep)) : MethOn c H "dict" (.ref a) := ⟨a, _, rfl, h, isDict_cls⟩
section
variable {k : Wk} {m : Loc} {H : AHeap}
theorem W_CallM' {o : Expr} {name : Str} {apos pos : Pos} {args : List Expr} {T id : String} {Q : V → Loc → AHeap → Prop}
    (pa : PlainAttrs T) (slot : Slot T name id) (hty : typeOf (.builtin id) = pure (.type "method_descriptor"))
    (h : WV k (eval o k.env) m H fun ov m1 H1 => MethOn k.c H1 T ov ∧ WItems k args m1 H1 fun vs m2 H2 => WCall k (.builtin id) (ov :: vs) m2 H2 Q)
    (hbase : attributeBase o name k.env (eval o k.env) = eval o k.env := by rfl)
    (hfew : ((backTo pos (starEach args k.env)).all (fun x => !x.1) && (backToKw pos (keywordEach [] k.env)).all (fun x => x.1.isSome)
      && decide (args.length + ([] : List Keyword).length + (if ([] : List Keyword).isEmpty then 0 else 1) < 30)) = true := by rfl)
    (hline : (apos.endLine == pos.line) = true := by rfl) (hp : (starEach args k.env).any (·.1) = false := by rfl) (hp' : (backTo pos (starEach args k.env)).any (·.1) = false := by rfl) :
    WV k (eval (.Call (.Attribute o name apos) args [] pos) k.env) m H Q :=
  W_CallM pa slot hty (W.mono h fun v m1 H1 ⟨⟨a, y, e, h1, h2⟩, q⟩ => ⟨a, y, e, h1, h2, q⟩) hbase hfew hline hp hp'
theorem WAsL_nil {Q : Loc → AHeap → Prop} (h : Q m H) : WAsL k [] [] m H Q := h
theorem WAsL_cons {t : Expr} {ts : List Expr} {v : V} {vs : List V} {Q : Loc → AHeap → Prop} (h : WAs k t v m H fun m1 H1 => WAsL k ts vs m1 H1 Q) : WAsL k (t :: ts) (v :: vs) m H Q := h
end
theorem lenS {α : Type} {l : List α} {n : Nat} (h : l.length = n + 1) : ∃ x r, l = x :: r ∧ r.length = n := by
  cases l with
  | nil => cases h
  | cons x r => exact ⟨x, r, rfl, Nat.succ.inj h⟩
theorem len1 {α : Type} {l : List α} (h : l.length = 1) : ∃ x, l = [x] := by
  obtain ⟨x, r, rfl, hr⟩ := lenS h
  cases r with
  | nil => exact ⟨x, rfl⟩
  | cons a b => cases hr
theorem len2 {α : Type} {l : List α} (h : l.length = 2) : ∃ x y, l = [x, y] := by
  obtain ⟨x, r, rfl, hr⟩ := lenS h
  obtain ⟨y, rfl⟩ := len1 hr
  exact ⟨x, y, rfl⟩
theorem len3 {α : Type} {l : List α} (h : l.length = 3) : ∃ x y z, l = [x, y, z] := by
  obtain ⟨x, r, rfl, hr⟩ := lenS h
  obtain ⟨y, z, rfl⟩ := len2 hr
  exact ⟨x, y, z, rfl⟩
theorem len4 {α : Type} {l : List α} (h : l.length = 4) : ∃ x y z u, l = [x, y, z, u] := by
  obtain ⟨x, r, rfl, hr⟩ := lenS h
  obtain ⟨y, z, u, rfl⟩ := len3 hr
  exact ⟨x, y, z, u, rfl⟩
end Mine
namespace Mine
theorem BindsTo.of_kw {α β : Type} {s : Shared} {fd : FuncData} {args : Args} {binds : List (Str × Value)} {d : Addr} {n : Str} {v : Value} {mk : Str → Option Value}
    {k1 : Option Value → Sem α} {k2 : α → Sem β} {k3 : β → Sem (List (Str × Value))} (hn : s.heap.Ns d mk) (hv : mk n = some v) (h₁ : bindArgs fd args = ((nsGet d n >>= k1) >>= k2) >>= k3) (h₂ : (k1 (some v) >>= k2) >>= k3 = pure binds) : BindsTo s fd args binds :=
  fun _ _ _ _ hq => by
    rw [h₁, bind_assoc, bind_assoc]
    refine wpAny_bind (wpAny_nsGet hn ?_)
    rw [hv, ← bind_assoc, h₂]
    exact wpAny_pure hq
noncomputable def nestMsg : Str := "There is no nest behind this key"
noncomputable def listMsg : Str := "An object other than list found behind this key"
noncomputable def isDict (H : AHeap) : V → Bool
  | .ref a => match H a with
    | some (.dict _ _) => true
    | _ => false
  | _ => false
noncomputable def lastOf (acc : Bool) (H : AHeap) : V → Option V
  | .ref a => match H a, acc with
    | some (.list xs), true => xs.getLast?
    | _, _ => some (.ref a)
  | v => some v
noncomputable def Gw (acc : Bool) (Q : Addr → AHeap → Prop) (X : String → Option (List V) → AHeap → Prop) : List Str → Addr → AHeap → Prop
  | [], cont, H => Q cont H
  | x :: r, cont, H => ∃ kvs ep, H cont = some (.dict kvs ep) ∧ kvs.length < sizeLine ∧ match getK kvs (.inr x) with
    | none => ∀ d, H d = none → Gw acc Q X r d (upd (upd H d (.dict [] 0)) cont (.dict (kvs ++ [(.inr x, .ref d)]) (ep + 1)))
    | some v => tyOf H v ≠ none ∧ (∀ a xs, v = .ref a → H a = some (.list xs) → xs.length < 2 ^ 62) ∧ match lastOf acc H v with
      | none => X "IndexError" none H
      | some w => tyOf H w ≠ none ∧ if isDict H w = true then ∃ d, w = .ref d ∧ Gw acc Q X r d H else ∀ t, X "KeyError" (some [.str nestMsg t]) H
noncomputable def GaEnd (Q : AHeap → Prop) (X : String → Option (List V) → AHeap → Prop) (z : Option Str) (a : Addr) (H : AHeap) : Prop := match z with
  | none => X "IndexError" none H
  | some z => ∃ kvs ep, H a = some (.dict kvs ep) ∧ kvs.length < sizeLine ∧ match getK kvs (.inr z) with
    | none => ∀ d l, H d = none → H l = none → d ≠ l → Q (upd (upd (upd H d (.dict [] 0)) l (.list [.ref d])) a (.dict (kvs ++ [(.inr z, .ref l)]) (ep + 1)))
    | some v => tyOf H v ≠ none ∧ ((∃ b xs, v = .ref b ∧ H b = some (.list xs) ∧ xs.length ≤ sizeLine ∧ ∀ d, H d = none → Q (upd (upd H d (.dict [] 0)) b (.list (xs ++ [.ref d])))) ∨ (tyOf H v ≠ some "list" ∧ ∀ t, X "KeyError" (some [.str listMsg t]) H))
noncomputable abbrev Ga (Q : AHeap → Prop) (X : String → Option (List V) → AHeap → Prop) (keys : List Str) (b0 : Addr) (H : AHeap) : Prop :=
  Gw true (GaEnd Q X keys.getLast?) X keys.dropLast b0 H
structure NestAt (c : Cx) (C fI fG fA : Addr) (cls : Stmt) : Prop where
  kls : ClsAt c C fI
  mG : MethAt c C "get_or_create_nest" fG
  mA : MethAt c C "append_nest_to_list" fA
  init : DefAt c fI (stm (fnBody cls) 0)
  app : DefAt c fA (stm (fnBody cls) 2)
  get : ∃ fd, FnAt c fG fd (fnBody (stm (fnBody cls) 1)) ∧ fd.scope = fnScope (stm (fnBody cls) 1) ∧ fd.params = fnParams (stm (fnBody cls) 1) ∧ fd.defaults = .none ∧
    ∃ d mk, fd.kwdefaults = .ref d ∧ c.base.Ns d mk ∧ mk "access_lists" = some (.bool true)
theorem tyOf_cases {H : AHeap} {v : V} (h : tyOf H v ≠ none) : (∃ i, v = .int i) ∨ (∃ x t, v = .str x t) ∨ (∃ a xs, v = .ref a ∧ H a = some (.list xs)) ∨ (∃ a xs, v = .ref a ∧ H a = some (.tup xs)) ∨ ∃ a kvs ep, v = .ref a ∧ H a = some (.dict kvs ep) := by
  cases v with
  | int i => exact .inl ⟨i, rfl⟩
  | str x t => exact .inr (.inl ⟨x, t, rfl⟩)
  | ref a =>
    simp only [tyOf] at h
    split at h
    · rename_i xs e; exact .inr (.inr (.inl ⟨a, xs, rfl, e⟩))
    · rename_i xs e; exact .inr (.inr (.inr (.inl ⟨a, xs, rfl, e⟩)))
    · rename_i kvs ep e; exact .inr (.inr (.inr (.inr ⟨a, kvs, ep, rfl, e⟩)))
    · exact absurd rfl h
  | _ => exact absurd rfl h
theorem getK_append_new {kvs : List (Key × V)} {k : Key} {v : V} (h : getK kvs k = none) : getK (kvs ++ [(k, v)]) k = some v := by
  induction kvs with
  | nil => simp [getK]
  | cons p r ih =>
    obtain ⟨k', w⟩ := p
    unfold getK at h
    split at h
    · cases h
    · rename_i hne
      show (if k' = k then some w else getK (r ++ [(k, v)]) k) = some v
      rw [if_neg hne]; exact ih h
theorem iteT {a b : Prop} (h : a) : if true = true then a else b := by rw [if_pos rfl]; exact h
theorem iteF {a b : Prop} (h : b) : if false = true then a else b := by rw [if_neg Bool.false_ne_true]; exact h
theorem iteNT {a b : Prop} (h : b) : if (!true) = true then a else b := by rw [if_neg (by simp)]; exact h
theorem iteNF {a b : Prop} (h : a) : if (!false) = true then a else b := by rw [if_pos (by simp)]; exact h
theorem W_allTrue_nilA {k : Wk} {m : Loc} {H : AHeap} {Q : Bool → Loc → AHeap → Prop} (h : Q true m H) : W k (allTrue .And [] k.env) m H Q := W_allTrue_nil h
theorem W_allTrue_nilO {k : Wk} {m : Loc} {H : AHeap} {Q : Bool → Loc → AHeap → Prop} (h : Q false m H) : W k (allTrue .Or [] k.env) m H Q := W_allTrue_nil h
theorem WCall_isi {k : Wk} {m : Loc} {H : AHeap} {v : V} {T : String} {Q : V → Loc → AHeap → Prop} (hv : tyOf H v ≠ none) (hT : T ∈ ["list", "dict", "str"]) (h : Q (.bool (decide (tyOf H v = some T))) m H) : WCall k (.builtin "isinstance") [v, .ty T] m H Q := by
  obtain ⟨Tx, hTx⟩ := Option.ne_none_iff_exists'.mp hv
  refine WCall_isinst hTx ?_ hT ?_
  · rcases tyOf_cases hv with ⟨i, rfl⟩ | ⟨x, t, rfl⟩ | ⟨a, xs, rfl, e⟩ | ⟨a, xs, rfl, e⟩ | ⟨a, kvs, ep, rfl, e⟩ <;> simp [tyOf] at hTx <;> first | (subst hTx; simp) | (rw [e] at hTx; simp at hTx; subst hTx; simp)
  · have e : decide (tyOf H v = some T) = decide (Tx = T) := by rw [hTx]; simp
    rw [← e]; exact h
end Mine
namespace Mine
section
variable {k : Wk} {m : Loc} {H : AHeap}
theorem W_CallMethKw {o e ke : Expr} {es : List Expr} {name n : Str} {apos pos kp : Pos} {C f : Addr} {fd : FuncData} {body : List Stmt} {pl : Sem Bool} {Q : V → Loc → AHeap → Prop} (hM : MethAt k.c C name f) (hF : FnAt k.c f fd body)
    (h : WV k (eval o k.env) m H fun ov m1 H1 => ∃ x dx v, ov = .ref x ∧ H1 x = some (.inst C dx) ∧ H1 dx = some (.attrs v) ∧ WItems k (e :: es) m1 H1 fun vs m2 H2 => WV k (eval ke k.env) m2 H2 fun kv m3 H3 => FnV k.c k.A f (.ref x :: vs) [(n, kv)] H3 (fun r H' => Q r m3 H') fun a b H' => k.X a b m3 H')
    (he : eval (.Call (.Attribute o name apos) (e :: es) [⟨some n, ke, kp⟩] pos) k.env = (do
      let ov ← eval o k.env
      standAt apos.atName
      let (f, first) ← holding [ov] (getMethod ov name pl)
      callWith pos f first (backTo pos (starEach (e :: es) k.env)) (backToKw pos (keywordEach [⟨some n, ke, kp⟩] k.env))) := by rfl)
    (hplain : ((backTo pos (starEach (e :: es) k.env)).any (·.1) || (backToKw pos (keywordEach [⟨some n, ke, kp⟩] k.env)).any (·.1.isNone)) = false := by rfl) (hs : starEach (e :: es) k.env = (false, eval e k.env) :: starEach es k.env := by rfl) :
    WV k (eval (.Call (.Attribute o name apos) (e :: es) [⟨some n, ke, kp⟩] pos) k.env) m H Q := fun B s st => by
  rw [he]
  refine wpAny_bind (wpAny_mono (h B s st) (fun ov s1 q => wpAny_bind (wpAny_standAt (wpAny_bind (wpAny_holding ?_)))) fun _ _ y => y)
  refine Mine.hideG fun GG back => ?_
  obtain ⟨m1, H1, st1, x, dx, v, e, hx, hdx, q⟩ := q
  refine back ?_
  clear back
  obtain rfl := er_ref e
  refine Mine.hideG fun GG back => ?_
  obtain ⟨cnt, t, u, I, rfl⟩ := inst_at st1 hx hdx
  obtain ⟨mv, F⟩ := st1.fr
  refine back ?_
  clear back
  refine method_inst F k.c.inK I hM.get hM.find hM.fn ?_ ?_
  · unfold getL
    have hs : Value.isStr (.str ("dict" : Str) t) name = false := by
      show (("dict" : Str) == name) = false
      exact hM.other
    simp [hs, DictEntry.refKey]
  · refine callWith_KW (K := k.c.K) (h₀ := k.c.base) k.c.inK hM.keep (by rfl) (wpAny_mono (q pos B s1 st1) (fun vs s2 ⟨m2, H2, st2, q2⟩ => ?_) fun _ _ y => y) hplain hs
    refine kwAll_cons (wpAny_mono (q2 B s2 st2) (fun kv s3 ⟨m3, H3, st3, q3⟩ => ?_) fun _ _ y => y)
    refine kwAll_nil ⟨k.c.inK.keeps st3.base, ?_⟩
    exact W_callF (q3 (.ref x :: vs) [(n, kv)] rfl rfl) B s3 st3
end
theorem upd_none {β : Type} {f : Addr → Option β} {a b : Addr} {x : β} (h : b ≠ a) (e : f b = none) : upd f a x b = none := by simp [upd, h, e]
end Mine
namespace Mine
section
variable {prog : Program} {w : World} {A : Around} {E : Value → Shared → Prop} {s : Shared} {K : Type} [DecidableEq K] {knd : KeyKind prog w K}
theorem wpAny_loadIfAlive {M : Model} {a : Addr} {Q : Option Obj → Shared → Prop} (h : Q (s.heap.get? a) s) : wpAny M A (loadIfAlive a) Q E s := fun _ _ _ => h
theorem nextOf_dict_item {it d : Addr} {i ep : Nat} {kvs : List (K × Value)} {k : K} {v : Value} {Q : Value → Shared → Prop} (hit : s.heap.IsKeyIter it d i kvs.length ep)
    (hm : s.heap.DictAt knd d kvs ep) (hx : kvs[i]? = some (k, v))
    (hQ : ∀ key h', knd.is k key = true → h'.IsKeyIter it d (i + 1) kvs.length ep → Heap.SameBut it s.heap h' → Q key { s with heap := h' }) :
    wpAny (model prog w) A (Builtin.SmallTypes.nextOf (.ref it)) Q E s := by
  refine Mine.hideG fun GG back => ?_
  obtain ⟨o, ho, hc, hd⟩ := id hit
  obtain ⟨od, es, hod, hcd, hdd, hk, hp, hn⟩ := id hm
  refine back ?_
  clear back
  unfold Builtin.SmallTypes.nextOf
  refine wpAny_bind (wpAny_callSpecial?_slot (name := Str.ofString "__next__") hit.typeIs PySem.F.slot_dict_keyiterator_next
    (wpAny_call_entry PySem.F.slot_dict_keyiterator_next hit.typeIs PySem.F.entry_dict_keyiterator_next ?_ (PySem.F.args_dict_keyiterator_next_1 _)))
  refine wpAny_bind (wpAny_pure ?_)
  refine wpAny_bind ?_
  refine wpAny_bind ?_
  first | refine wpAny_bind (wpAny_typeNameOfWhole_keyiter hit.typeIs (wpAny_pure ?_)) | refine wpAny_bind (wpAny_typeNameOf_keyiter hit.typeIs (wpAny_pure ?_))
  refine wpAny_bind (wpAny_fieldsOf ho hd ?_)
  have hown : Builtin.Dict_items.ownsTuple "dict_keyiterator" = false := by decide
  simp only [hown, Bool.false_eq_true, if_false]
  show wpAny _ _ (if (Value.ref d == Value.none) = true then _ else _) _ _ s
  rw [if_neg (show ¬ ((Value.ref d == Value.none) = true) from Bool.false_ne_true)]
  refine wpAny_bind (wpAny_pure ?_)
  refine wpAny_bind (wpAny_dictEntries hod hdd ?_)
  have hsz : es.size = kvs.length := by rw [← hp.length]; simp
  rw [if_neg (by rw [hsz]; simp)]
  refine wpAny_bind (wpAny_pure ?_)
  refine wpAny_bind (wpAny_dictEpoch hod hdd ?_)
  rw [if_neg (by simp)]
  refine wpAny_pure ?_
  have hlt : i < kvs.length := by
    rcases Nat.lt_or_ge i kvs.length with h | h
    · exact h
    · simp [List.getElem?_eq_none h] at hx
  have hlt' : i < es.size := by rw [hsz]; exact hlt
  have hkey : knd.is k es[i].key = true := (hp.get? (e := es[i]) (by simp [hlt']) hx).1
  simp only [show ¬ ((i : Int) < 0) from by omega, if_false, Int.toNat_natCast, Array.getElem?_eq_getElem hlt']
  refine wpAny_bind ?_
  first | refine wpAny_bind (wpAny_typeNameOfWhole_keyiter hit.typeIs (wpAny_pure ?_)) | refine wpAny_bind (wpAny_typeNameOf_keyiter hit.typeIs (wpAny_pure ?_))
  refine wpAny_bind (wpAny_isOneOf_keyiter hit.typeIs ?_)
  show wpAny _ _ (setField (.ref it) 1 (rawInt ((i : Int) + 1)) >>= _) _ _ s
  refine wpAny_bind (wpAny_setField ho hd (by simp) ?_)
  have hit' : (s.heap.update it (Obj.mapFields (·.setIfInBounds 1 (rawInt ((i : Int) + 1))))).IsKeyIter it d (i + 1) kvs.length ep :=
    ⟨_, Heap.get?_update_self _ ho (Obj.isFreed_of_fields (Obj.data_mapFields hd _)), (Obj.cls_mapFields ..).trans hc, by rw [Obj.data_mapFields hd]; simp [rawInt]⟩
  refine wpAny_bind (wpAny_holding ?_)
  refine wpAny_bind (wpAny_isOneOf_keyiter (s := { s with heap := s.heap.update it (Obj.mapFields (·.setIfInBounds 1 (rawInt ((i : Int) + 1)))) }) hit'.typeIs ?_)
  show wpAny _ _ (pure es[i].key) _ _ _
  exact wpAny_pure (wpAny_pure ⟨_, rfl, wpAny_pure (hQ _ _ hkey hit' (Heap.SameBut.update ..))⟩)
theorem nextOf_dict_end {it d : Addr} {i ep : Nat} {kvs : List (K × Value)} {Q : Value → Shared → Prop} (hh : A.handled = none) (hit : s.heap.IsKeyIter it d i kvs.length ep)
    (hm : s.heap.DictAt knd d kvs ep) (hx : kvs[i]? = none)
    (hE : ∀ h' e, Heap.ExtBut it s.heap h' → (∃ o, h'.get? e = some o ∧ o.cls = .type "StopIteration") → E (.ref e) { s with heap := h' }) : wpAny (model prog w) A (Builtin.SmallTypes.nextOf (.ref it)) Q E s := by
  refine Mine.hideG fun GG back => ?_
  obtain ⟨o, ho, hc, hd⟩ := id hit
  obtain ⟨od, es, hod, hcd, hdd, hk, hp, hn⟩ := id hm
  refine back ?_
  clear back
  unfold Builtin.SmallTypes.nextOf
  refine wpAny_bind (wpAny_callSpecial?_slot (name := Str.ofString "__next__") hit.typeIs PySem.F.slot_dict_keyiterator_next
    (wpAny_call_entry PySem.F.slot_dict_keyiterator_next hit.typeIs PySem.F.entry_dict_keyiterator_next ?_ (PySem.F.args_dict_keyiterator_next_1 _)))
  refine wpAny_bind (wpAny_pure ?_)
  refine wpAny_bind ?_
  refine wpAny_bind ?_
  first | refine wpAny_bind (wpAny_typeNameOfWhole_keyiter hit.typeIs (wpAny_pure ?_)) | refine wpAny_bind (wpAny_typeNameOf_keyiter hit.typeIs (wpAny_pure ?_))
  refine wpAny_bind (wpAny_fieldsOf ho hd ?_)
  have hown : Builtin.Dict_items.ownsTuple "dict_keyiterator" = false := by decide
  simp only [hown, Bool.false_eq_true, if_false]
  show wpAny _ _ (if (Value.ref d == Value.none) = true then _ else _) _ _ s
  rw [if_neg (show ¬ ((Value.ref d == Value.none) = true) from Bool.false_ne_true)]
  refine wpAny_bind (wpAny_pure ?_)
  refine wpAny_bind (wpAny_dictEntries hod hdd ?_)
  have hsz : es.size = kvs.length := by rw [← hp.length]; simp
  rw [if_neg (by rw [hsz]; simp)]
  refine wpAny_bind (wpAny_pure ?_)
  refine wpAny_bind (wpAny_dictEpoch hod hdd ?_)
  rw [if_neg (by simp)]
  refine wpAny_pure ?_
  have hge : es.size ≤ i := by rw [hsz]; simpa using hx
  simp only [show ¬ ((i : Int) < 0) from by omega, if_false, Int.toNat_natCast, Array.getElem?_eq_none hge]
  refine wpAny_bind ?_
  first | refine wpAny_bind (wpAny_typeNameOfWhole_keyiter hit.typeIs (wpAny_pure ?_)) | refine wpAny_bind (wpAny_typeNameOf_keyiter hit.typeIs (wpAny_pure ?_))
  show wpAny _ _ (setField (.ref it) 0 .none >>= _) _ _ s
  refine wpAny_bind (wpAny_setField ho hd (by simp) ?_)
  show wpAny _ _ (newExc (.type "StopIteration") [] >>= _) _ _ _
  refine wpAny_bind ?_
  simp only [newExc, newTuple]
  refine wpAny_bind (wpAny_newObj_type ?_ (by size_fits))
  refine wpAny_bind (m := firstArgMember _ _) (wpAny_of_eq (a := Value.none) (by first | rfl | (simp only [firstArgMember]; rfl)) ?_)
  refine wpAny_newObj_type ?_ (by size_fits)
  simp only [raiseNew]
  refine wpAny_bind (wpAny_handled ?_)
  first | rw [show A.in1.handled = none from hh] | rw [hh]
  refine wpAny_bind (wpAny_pure (wpAny_throw ?_))
  exact hE _ _ (((Heap.SameBut.update ..).extBut.push _).push _) ⟨_, Heap.get?_push_size _ rfl, rfl⟩
/-! the zip of a dict and a list, as long as each other -/
noncomputable def zipObj (f0 f1 : Value) (TI TO : Addr) : Obj := { cls := .type "zip", dict := none, data := .fields #[f0, f1, .bool false, .ref TI, .ref TO], slots := #[] }
noncomputable abbrev pairObj (a b : Value) : Obj := { cls := .type "tuple", data := .seq #[a, b] }
structure Zd (knd : KeyKind prog w K) (z TI TO i1 i2 d l : Addr) (kvs : List (K × Value)) (ep : Nat) (ys : Array Value) (i : Nat) (h : Heap) : Prop where
  z : ∃ f0 f1, h.get? z = some (zipObj f0 f1 TI TO) ∧ (i = 0 → f0 = .none) ∧ (0 < i → ∃ (T : Addr) (o : Obj), f0 = rawInt T ∧ h.get? T = some o ∧ T ≠ z ∧ T ≠ TO ∧ T ≠ i1 ∧ T ≠ i2)
  ti : h.get? TI = some (pairObj (.ref i1) (.ref i2))
  to : ∃ a b, h.get? TO = some (pairObj a b)
  it1 : h.IsKeyIter i1 d i kvs.length ep
  it2 : h.IsListIter i2 l i
  dict : h.DictAt knd d kvs ep
  list : h.IsList l ys
structure ZdApart (z TI TO i1 i2 d l : Addr) : Prop where
  TIz : TI ≠ z
  TOz : TO ≠ z
  i1z : i1 ≠ z
  i2z : i2 ≠ z
  TITO : TI ≠ TO
  TIi1 : TI ≠ i1
  TIi2 : TI ≠ i2
  TOi1 : TO ≠ i1
  TOi2 : TO ≠ i2
  i12 : i1 ≠ i2
  dz : d ≠ z
  dTO : d ≠ TO
  di1 : d ≠ i1
  di2 : d ≠ i2
  lz : l ≠ z
  lTO : l ≠ TO
  li1 : l ≠ i1
  li2 : l ≠ i2
theorem wpAny_updSeq_pair {T : Addr} {a b x : Value} {k : Nat} {Q : Unit → Shared → Prop} (hT : s.heap.get? T = some (pairObj a b))
    (h : ∀ h', h'.get? T = some { cls := .type "tuple", data := .seq ((#[a, b] : Array Value).setIfInBounds k x) } → Heap.SameBut T s.heap h' → Q () { s with heap := h' }) :
    wpAny (model prog w) A (updateSeq T (·.setIfInBounds k x)) Q E s := wpAny_updateSeq_pair hT h
theorem zd_item {z TI TO i1 i2 d l : Addr} {kvs : List (K × Value)} {ep : Nat} {ys : Array Value} {i : Nat} {kv : K × Value} {y : Value} {Q : Value → Shared → Prop} (D : ZdApart z TI TO i1 i2 d l) (Z : Zd knd z TI TO i1 i2 d l kvs ep ys i s.heap) (hx : kvs[i]? = some kv) (hy : ys[i]? = some y)
    (hQ : ∀ h' key, knd.is kv.1 key = true → Zd knd z TI TO i1 i2 d l kvs ep ys (i + 1) h' → h'.get? s.heap.objs.size = some (pairObj key y) →
      (∀ c o, c ≠ z → c ≠ TO → c ≠ i1 → c ≠ i2 → s.heap.get? c = some o → h'.get? c = some o) → Q (.ref s.heap.objs.size) { s with heap := h' }) :
    wpAny (model prog w) A (Builtin.«zip.__next__» ⟨[.ref z], []⟩) (fun fin s' => ∃ v, fin = .done (.ret v) ∧ Q v s') E s := by
  refine Mine.hideG fun GG back => ?_
  obtain ⟨⟨f0, f1, hz, hf0, hf1⟩, hTI, ⟨a, b, hTO⟩, h1, h2, hd, hl⟩ := Z
  refine back ?_
  clear back
  have lt : ∀ {c o}, s.heap.get? c = some o → s.heap.objs.size ≠ c := fun e => Nat.ne_of_gt (Heap.lt_size e)
  show wpAny _ _ (field (.ref z) 2 >>= _) _ _ _
  refine wpAny_bind (wpAny_field hz rfl (x := .bool false) rfl ?_)
  show wpAny _ _ (field (.ref z) 3 >>= _) _ _ _
  refine wpAny_bind (wpAny_field hz rfl (x := .ref TI) rfl ?_)
  refine wpAny_bind (wpAny_seqItems hTI rfl ?_)
  show wpAny _ _ (Builtin.SmallTypes.ownedTupleIsFree (.ref z) >>= _) _ _ _
  refine wpAny_bind ?_
  unfold Builtin.SmallTypes.ownedTupleIsFree
  rcases Nat.eq_zero_or_pos i with hi | hi
  · obtain rfl := hf0 hi
    refine wpAny_bind (wpAny_field hz rfl (x := .none) rfl (wpAny_pure ?_))
    simp only [if_true]
    refine wpAny_bind (wpAny_rule ?_)
    refine wpAny_bind (wpAny_field hz rfl (x := .ref TO) rfl ?_)
    refine wpAny_bind (wpAny_setField_rec hz (by simp) fun h₁ hz₁ hs₁ => ?_)
    refine wpAny_bind ?_
    simp only [List.zipIdx_cons, List.zipIdx_nil, List.forIn_cons, List.forIn_nil]
    refine wpAny_bind (wpAny_bind (wpAny_onRaise ?_))
    show wpAny _ _ (Builtin.SmallTypes.nextOf (.ref i1) >>= _) _ _ _
    refine wpAny_bind (nextOf_dict_item (knd := knd) (k := kv.1) (v := kv.2) (h1.extBut hs₁.extBut D.i1z) (hd.at' fun o e => hs₁.extBut _ o D.dz e) hx fun key h₂ hkey h1₂ hs₂ => wpAny_pure ?_)
    have hTO₂ : h₂.get? TO = some (pairObj a b) := hs₂.extBut _ _ D.TOi1 (hs₁.extBut _ _ D.TOz hTO)
    refine wpAny_bind (wpAny_seqItems hTO₂ rfl ?_)
    refine wpAny_bind (wpAny_updSeq_pair hTO₂ fun h₃ hTO₃ hs₃ => ?_)
    replace hTO₃ : h₃.get? TO = some (pairObj key b) := hTO₃
    refine wpAny_bind (wpAny_letGo (wpAny_pure ?_))
    refine wpAny_bind (wpAny_bind (wpAny_onRaise ?_))
    show wpAny _ _ (Builtin.SmallTypes.nextOf (.ref i2) >>= _) _ _ _
    refine wpAny_bind (wpAny_nextOf_list_item (((h2.extBut hs₁.extBut D.i2z).extBut hs₂.extBut D.i12.symm).extBut hs₃.extBut D.TOi2.symm)
      (((hl.extBut hs₁.extBut D.lz).extBut hs₂.extBut D.li1).extBut hs₃.extBut D.lTO) hy fun h₄ h2₄ hs₄ => wpAny_pure ?_)
    have hTO₄ : h₄.get? TO = some (pairObj key b) := hs₄.extBut _ _ D.TOi2 hTO₃
    refine wpAny_bind (wpAny_seqItems hTO₄ rfl ?_)
    refine wpAny_bind (wpAny_updSeq_pair hTO₄ fun h₅ hTO₅ hs₅ => ?_)
    replace hTO₅ : h₅.get? TO = some (pairObj key y) := hTO₅
    refine wpAny_bind (wpAny_letGo (wpAny_pure (wpAny_pure ?_)))
    refine wpAny_bind (wpAny_seqItems hTO₅ rfl ?_)
    refine wpAny_bind (wpAny_newTuple ?_)
    have hsz : h₅.objs.size = s.heap.objs.size := by rw [hs₅.1, hs₄.1, hs₃.1, hs₂.1, hs₁.1]
    have hz₅ := hs₅.extBut _ _ D.TOz.symm (hs₄.extBut _ _ D.i2z.symm (hs₃.extBut _ _ D.TOz.symm (hs₂.extBut _ _ D.i1z.symm hz₁)))
    have hk₅ : ∀ c o, c ≠ z → c ≠ TO → c ≠ i1 → c ≠ i2 → s.heap.get? c = some o → h₅.get? c = some o := fun c o c1 c2 c3 c4 e =>
      hs₅.extBut _ _ c2 (hs₄.extBut _ _ c4 (hs₃.extBut _ _ c2 (hs₂.extBut _ _ c3 (hs₁.extBut _ _ c1 e))))
    have h1₅ : h₅.IsKeyIter i1 d (i + 1) kvs.length ep := ((h1₂.extBut hs₃.extBut D.TOi1.symm).extBut hs₄.extBut D.i12).extBut hs₅.extBut D.TOi1.symm
    have h2₅ : h₅.IsListIter i2 l (i + 1) := h2₄.extBut hs₅.extBut D.TOi2.symm
    have hzlt : z < h₅.objs.size := Heap.lt_size hz₅
    show wpAny _ _ (Builtin.SmallTypes.ownedTupleHandOut (.ref z) (.ref h₅.objs.size) >>= _) _ _ _
    refine wpAny_bind ?_
    unfold Builtin.SmallTypes.ownedTupleHandOut
    have hz₆ := Heap.get?_push_of_some { cls := .type "tuple", data := .seq #[key, y] } hz₅
    refine wpAny_bind (wpAny_setField_rec hz₆ (by simp) fun h₇ hz₇ hs₇ => ?_)
    refine wpAny_setField_rec hz₇ (by simp) fun h₈ hz₈ hs₈ => ?_
    replace hz₈ : h₈.get? z = some (zipObj (rawInt h₅.objs.size) (.bool false) TI TO) := hz₈
    have up : ∀ c o, c ≠ z → h₅.get? c = some o → h₈.get? c = some o := fun c o c1 e => hs₈.extBut _ _ c1 (hs₇.extBut _ _ c1 (Heap.get?_push_of_some _ e))
    have hT₈ : h₈.get? h₅.objs.size = some (pairObj key y) := hs₈.extBut _ _ (Nat.ne_of_gt hzlt) (hs₇.extBut _ _ (Nat.ne_of_gt hzlt) (Heap.get?_push_size _ rfl))
    rw [hsz] at hT₈
    refine wpAny_pure ⟨_, rfl, ?_⟩
    show Q (.ref h₅.objs.size) _
    rw [hsz]
    refine hQ h₈ key hkey ⟨⟨_, _, hz₈, fun q => absurd q (Nat.succ_ne_zero _), fun _ => ⟨h₅.objs.size, _, rfl, by rw [hsz]; exact hT₈, ?_⟩⟩, ?_, ⟨_, _, up _ _ D.TOz hTO₅⟩, ?_, ?_, ?_, ?_⟩ hT₈ fun c o c1 c2 c3 c4 e => up c o c1 (hk₅ c o c1 c2 c3 c4 e)
    · rw [hsz]
      exact ⟨lt hz, lt hTO, (by obtain ⟨_, e, _⟩ := h1; exact lt e), (by obtain ⟨_, e, _⟩ := h2; exact lt e)⟩
    · exact up _ _ D.TIz (hk₅ _ _ D.TIz D.TITO D.TIi1 D.TIi2 hTI)
    · obtain ⟨o, e, r⟩ := h1₅; exact ⟨o, up _ o D.i1z e, r⟩
    · exact h2₅.at fun o e => up _ o D.i2z e
    · exact hd.at' fun o e => up _ o D.dz (hk₅ _ o D.dz D.dTO D.di1 D.di2 e)
    · exact hl.at fun o e => up _ o D.lz (hk₅ _ o D.lz D.lTO D.li1 D.li2 e)
  · refine Mine.hideG fun GG back => ?_
    obtain ⟨T, oT, rfl, hT, t1, t2, t3, t4⟩ := hf1 hi
    refine back ?_
    clear back
    refine wpAny_bind (wpAny_field hz rfl (x := rawInt T) rfl ?_)
    show wpAny _ _ (loadIfAlive ((T : Int).toNat) >>= _) _ _ _
    refine wpAny_bind (wpAny_loadIfAlive ?_)
    rw [Int.toNat_natCast, hT]
    simp only [Option.isNone_some, Bool.false_eq_true, if_false]
    refine wpAny_bind (wpAny_field hz rfl (x := f1) rfl ?_)
    refine wpAny_mono (Q := fun a s' => a = false ∧ ∃ f1' h₁, s' = { s with heap := h₁ } ∧ h₁.get? z = some (zipObj (rawInt T) f1' TI TO) ∧ Heap.SameBut z s.heap h₁) ?_ (fun a s' q => ?_) (fun _ _ x => x)
    · refine wpAny_ite_split (fun _ => ?_) (fun _ => wpAny_pure ⟨rfl, f1, s.heap, rfl, hz, rfl, fun _ _ => rfl⟩)
      exact wpAny_bind (wpAny_setField_rec hz (by simp) fun h₁ hz₁ hs₁ => wpAny_pure ⟨rfl, _, h₁, rfl, hz₁, hs₁⟩)
    · refine Mine.hideG fun GG back => ?_
      obtain ⟨rfl, f1', h₁, rfl, hz₁, hs₁⟩ := q
      refine back ?_
      clear back
      simp only [Bool.false_eq_true, if_false]
      rw [← Array.forIn_toList]
      simp only [List.forIn_cons, List.forIn_nil]
      refine wpAny_bind (wpAny_bind (wpAny_bind (wpAny_holding ?_)))
      show wpAny _ _ (Builtin.SmallTypes.nextOf (.ref i1) >>= _) _ _ _
      refine wpAny_bind (nextOf_dict_item (knd := knd) (k := kv.1) (v := kv.2) (h1.extBut hs₁.extBut D.i1z) (hd.at' fun o e => hs₁.extBut _ o D.dz e) hx fun key h₂ hkey h1₂ hs₂ => wpAny_pure ?_)
      refine wpAny_pure ?_
      refine wpAny_bind (wpAny_bind (wpAny_holding ?_))
      show wpAny _ _ (Builtin.SmallTypes.nextOf (.ref i2) >>= _) _ _ _
      refine wpAny_bind (wpAny_nextOf_list_item ((h2.extBut hs₁.extBut D.i2z).extBut hs₂.extBut D.i12.symm) ((hl.extBut hs₁.extBut D.lz).extBut hs₂.extBut D.li1) hy fun h₃ h2₃ hs₃ => wpAny_pure ?_)
      refine wpAny_pure (wpAny_pure ?_)
      show wpAny _ _ (newTuple [key, y] >>= _) _ _ _
      refine wpAny_bind (wpAny_newTuple ?_)
      have hsz : h₃.objs.size = s.heap.objs.size := by rw [hs₃.1, hs₂.1, hs₁.1]
      have up : ∀ c o, c ≠ z → c ≠ i1 → c ≠ i2 → s.heap.get? c = some o → (h₃.push { cls := .type "tuple", data := .seq #[key, y] }).get? c = some o := fun c o c1 c2 c3 e =>
        Heap.get?_push_of_some _ (hs₃.extBut _ _ c3 (hs₂.extBut _ _ c2 (hs₁.extBut _ _ c1 e)))
      refine wpAny_pure ⟨_, rfl, ?_⟩
      show Q (.ref h₃.objs.size) _
      rw [hsz]
      have hnew : (h₃.push { cls := .type "tuple", data := .seq #[key, y] }).get? s.heap.objs.size = some (pairObj key y) := by rw [← hsz]; exact Heap.get?_push_size _ rfl
      refine hQ _ key hkey ⟨⟨_, _, Heap.get?_push_of_some _ (hs₃.extBut _ _ D.i2z.symm (hs₂.extBut _ _ D.i1z.symm hz₁)), fun q => absurd q (Nat.succ_ne_zero _), fun _ => ⟨T, oT, rfl, up _ _ t1 t3 t4 hT, t1, t2, t3, t4⟩⟩, up _ _ D.TIz D.TIi1 D.TIi2 hTI, ⟨a, b, up _ _ D.TOz D.TOi1 D.TOi2 hTO⟩, ?_, ?_, ?_, ?_⟩ hnew fun c o c1 c2 c3 c4 e => up c o c1 c3 c4 e
      · refine Mine.hideG fun GG back => ?_
        obtain ⟨o, e, r⟩ := h1₂
        refine back ?_
        clear back
        exact ⟨o, Heap.get?_push_of_some _ (hs₃.extBut _ _ D.i12 e), r⟩
      · exact h2₃.at fun o e => Heap.get?_push_of_some _ e
      · exact hd.at' fun o e => up _ o D.dz D.di1 D.di2 e
      · exact hl.at fun o e => up _ o D.lz D.li1 D.li2 e
theorem zd_end {z TI TO i1 i2 d l : Addr} {kvs : List (K × Value)} {ep : Nat} {ys : Array Value} {i : Nat} {Q : Fin → Shared → Prop} (hh : A.handled = none) (D : ZdApart z TI TO i1 i2 d l) (Z : Zd knd z TI TO i1 i2 d l kvs ep ys i s.heap) (hx : kvs[i]? = none)
    (hE : ∀ h' e, (∀ c o, c ≠ z → c ≠ TO → c ≠ i1 → c ≠ i2 → s.heap.get? c = some o → h'.get? c = some o) → (∃ o, h'.get? e = some o ∧ o.cls = .type "StopIteration") → E (.ref e) { s with heap := h' }) :
    wpAny (model prog w) A (Builtin.«zip.__next__» ⟨[.ref z], []⟩) Q E s := by
  refine Mine.hideG fun GG back => ?_
  obtain ⟨⟨f0, f1, hz, hf0, hf1⟩, hTI, ⟨a, b, hTO⟩, h1, h2, hd, hl⟩ := Z
  refine back ?_
  clear back
  show wpAny _ _ (field (.ref z) 2 >>= _) _ _ _
  refine wpAny_bind (wpAny_field hz rfl (x := .bool false) rfl ?_)
  show wpAny _ _ (field (.ref z) 3 >>= _) _ _ _
  refine wpAny_bind (wpAny_field hz rfl (x := .ref TI) rfl ?_)
  refine wpAny_bind (wpAny_seqItems hTI rfl ?_)
  show wpAny _ _ (Builtin.SmallTypes.ownedTupleIsFree (.ref z) >>= _) _ _ _
  refine wpAny_bind ?_
  unfold Builtin.SmallTypes.ownedTupleIsFree
  rcases Nat.eq_zero_or_pos i with hi | hi
  · obtain rfl := hf0 hi
    refine wpAny_bind (wpAny_field hz rfl (x := .none) rfl (wpAny_pure ?_))
    simp only [if_true]
    refine wpAny_bind (wpAny_rule ?_)
    refine wpAny_bind (wpAny_field hz rfl (x := .ref TO) rfl ?_)
    refine wpAny_bind (wpAny_setField_rec hz (by simp) fun h₁ hz₁ hs₁ => ?_)
    refine wpAny_bind ?_
    simp only [List.zipIdx_cons, List.zipIdx_nil, List.forIn_cons, List.forIn_nil]
    refine wpAny_bind (wpAny_bind (wpAny_onRaise ?_))
    show wpAny _ _ (Builtin.SmallTypes.nextOf (.ref i1) >>= _) _ _ _
    refine wpAny_bind (nextOf_dict_end (knd := knd) hh (h1.extBut hs₁.extBut D.i1z) (hd.at' fun o e => hs₁.extBut _ o D.dz e) hx fun h₂ e hs₂ he => ?_)
    refine Mine.hideG fun GG back => ?_
    obtain ⟨oe, hoe, hce⟩ := he
    refine back ?_
    clear back
    have hz₂ := hs₂ _ _ D.i1z.symm hz₁
    have hez : e ≠ z := fun x => by subst x; rw [hz₂] at hoe; cases hoe; simp at hce
    exact wpAny_setField_rec hz₂ (by simp) fun h₃ _ hs₃ => hE h₃ e (fun c o c1 _ c3 _ x => hs₃.extBut _ _ c1 (hs₂ _ _ c3 (hs₁.extBut _ _ c1 x))) ⟨oe, hs₃.extBut _ _ hez hoe, hce⟩
  · refine Mine.hideG fun GG back => ?_
    obtain ⟨T, oT, rfl, hT, t1, t2, t3, t4⟩ := hf1 hi
    refine back ?_
    clear back
    refine wpAny_bind (wpAny_field hz rfl (x := rawInt T) rfl ?_)
    show wpAny _ _ (loadIfAlive ((T : Int).toNat) >>= _) _ _ _
    refine wpAny_bind (wpAny_loadIfAlive ?_)
    rw [Int.toNat_natCast, hT]
    simp only [Option.isNone_some, Bool.false_eq_true, if_false]
    refine wpAny_bind (wpAny_field hz rfl (x := f1) rfl ?_)
    refine wpAny_mono (Q := fun a s' => a = false ∧ ∃ f1' h₁, s' = { s with heap := h₁ } ∧ h₁.get? z = some (zipObj (rawInt T) f1' TI TO) ∧ Heap.SameBut z s.heap h₁) ?_ (fun a s' q => ?_) (fun _ _ x => x)
    · refine wpAny_ite_split (fun _ => ?_) (fun _ => wpAny_pure ⟨rfl, f1, s.heap, rfl, hz, rfl, fun _ _ => rfl⟩)
      exact wpAny_bind (wpAny_setField_rec hz (by simp) fun h₁ hz₁ hs₁ => wpAny_pure ⟨rfl, _, h₁, rfl, hz₁, hs₁⟩)
    · refine Mine.hideG fun GG back => ?_
      obtain ⟨rfl, f1', h₁, rfl, hz₁, hs₁⟩ := q
      refine back ?_
      clear back
      simp only [Bool.false_eq_true, if_false]
      rw [← Array.forIn_toList]
      simp only [List.forIn_cons, List.forIn_nil]
      refine wpAny_bind (wpAny_bind (wpAny_bind (wpAny_holding ?_)))
      show wpAny _ _ (Builtin.SmallTypes.nextOf (.ref i1) >>= _) _ _ _
      refine wpAny_bind (nextOf_dict_end (knd := knd) hh (h1.extBut hs₁.extBut D.i1z) (hd.at' fun o e => hs₁.extBut _ o D.dz e) hx fun h₂ e hs₂ he => ?_)
      exact hE h₂ e (fun c o c1 _ c3 _ x => hs₂ _ _ c3 (hs₁.extBut _ _ c1 x)) he
end
end Mine
namespace Mine
theorem zip_no_len : typeLookup (.type "zip") "__len__" = pure none := by rw [typeLookup_type, builtinLookup_eq_fast]; kernel_rfl
theorem zip_no_hint : typeLookup (.type "zip") "__length_hint__" = pure none := by rw [typeLookup_type, builtinLookup_eq_fast]; kernel_rfl
section
variable {prog : Program} {w : World} {A : Around} {E : Value → Shared → Prop} {s : Shared} {K : Type} [DecidableEq K] {knd : KeyKind prog w K}
theorem zd_pyNext_item {z TI TO i1 i2 d l : Addr} {kvs : List (K × Value)} {ep : Nat} {ys : Array Value} {i : Nat} {kv : K × Value} {y : Value} {Q : Option Value → Shared → Prop} (D : ZdApart z TI TO i1 i2 d l) (Z : Zd knd z TI TO i1 i2 d l kvs ep ys i s.heap) (hx : kvs[i]? = some kv) (hy : ys[i]? = some y)
    (hQ : ∀ h' key, knd.is kv.1 key = true → Zd knd z TI TO i1 i2 d l kvs ep ys (i + 1) h' → h'.get? s.heap.objs.size = some (pairObj key y) →
      (∀ c o, c ≠ z → c ≠ TO → c ≠ i1 → c ≠ i2 → s.heap.get? c = some o → h'.get? c = some o) → Q (some (.ref s.heap.objs.size)) { s with heap := h' }) :
    wpAny (model prog w) A (pyNext (.ref z)) Q E s := by
  refine Mine.hideG fun GG back => ?_
  obtain ⟨f0, f1, hz, _⟩ := Z.z
  refine back ?_
  clear back
  have hT : s.TypeIs (.ref z) "zip" := ⟨_, hz, rfl⟩
  unfold pyNext
  exact wpAny_bind (wpAny_attempt (wpAny_callSpecial?_slot (name := Str.ofString "__next__") hT PySem.F.slot_zip_next
    (wpAny_call_entry PySem.F.slot_zip_next hT PySem.F.entry_zip_next
      (zd_item D Z hx hy fun h' key a1 a2 a3 a4 => wpAny_pure (hQ h' key a1 a2 a3 a4)) (PySem.F.args_zip_next_1 _))))
theorem zd_pyNext_end {z TI TO i1 i2 d l : Addr} {kvs : List (K × Value)} {ep : Nat} {ys : Array Value} {i : Nat} {Q : Option Value → Shared → Prop} (hh : A.handled = none) (D : ZdApart z TI TO i1 i2 d l) (Z : Zd knd z TI TO i1 i2 d l kvs ep ys i s.heap) (hx : kvs[i]? = none)
    (hQ : ∀ h', (∀ c o, c ≠ z → c ≠ TO → c ≠ i1 → c ≠ i2 → s.heap.get? c = some o → h'.get? c = some o) → Q none { s with heap := h' }) : wpAny (model prog w) A (pyNext (.ref z)) Q E s := by
  refine Mine.hideG fun GG back => ?_
  obtain ⟨f0, f1, hz, _⟩ := Z.z
  refine back ?_
  clear back
  have hT : s.TypeIs (.ref z) "zip" := ⟨_, hz, rfl⟩
  unfold pyNext
  refine wpAny_bind (wpAny_attempt (wpAny_callSpecial?_slot (name := Str.ofString "__next__") hT PySem.F.slot_zip_next
    (wpAny_call_entry PySem.F.slot_zip_next hT PySem.F.entry_zip_next (zd_end hh D Z hx fun h' e hk he => ?_) (PySem.F.args_zip_next_1 _))))
  refine Mine.hideG fun GG back => ?_
  obtain ⟨o, ho, hc⟩ := he
  refine back ?_
  clear back
  refine wpAny_bind (wpAny_isInstance (T := "StopIteration") (b := true) ⟨o, ho, hc⟩ isSubtype_stop ?_)
  exact wpAny_pure (hQ _ hk)
theorem zd_pyIter {z : Addr} {f0 f1 : Value} {TI TO : Addr} {Q : Value → Shared → Prop} (hz : s.heap.get? z = some (zipObj f0 f1 TI TO)) (h : Q (.ref z) s) : wpAny (model prog w) A (pyIter (.ref z)) Q E s := by
  have hT : s.TypeIs (.ref z) "zip" := ⟨_, hz, rfl⟩
  refine wpAny_pyIter_slot hT PySem.F.slot_zip_iter (wpAny_call_entry PySem.F.slot_zip_iter hT PySem.F.entry_zip_iter ?_ (PySem.F.args_zip_iter_1 _))
  show wpAny _ _ (ret (.ref z)) _ _ s
  exact wpAny_pure ⟨_, rfl, "zip", _, hT, PySem.F.slot_zip_next.lookup, h⟩
theorem ne_lo {lo x t : Nat} (h1 : x < lo) (h2 : lo ≤ t) : t ≠ x := by lia
noncomputable def ZdOut (knd : KeyKind prog w K) (kvs : List (K × Value)) (ys : Array Value) (lo : Nat) (acc : Array Value) (i : Nat) (h : Heap) : Prop :=
  acc.size = i ∧ ∀ (j : Nat) (v : Value), acc[j]? = some v → ∃ (t : Addr) (key : Value) (kv : K × Value) (y : Value), v = Value.ref t ∧ lo ≤ t ∧ kvs[j]? = some kv ∧ ys[j]? = some y ∧ knd.is kv.1 key = true ∧ h.get? t = some (pairObj key y)
theorem Zd.frame {z TI TO i1 i2 d l : Addr} {kvs : List (K × Value)} {ep : Nat} {ys : Array Value} {i : Nat} {S : Addr} {h h' : Heap} (Z : Zd knd z TI TO i1 i2 d l kvs ep ys i h) (hS : S ≠ z ∧ S ≠ TI ∧ S ≠ TO ∧ S ≠ i1 ∧ S ≠ i2 ∧ S ≠ d ∧ S ≠ l)
    (hk : ∀ b o, b ≠ S → h.get? b = some o → h'.get? b = some o) (hS' : ∃ o, h'.get? S = some o) : Zd knd z TI TO i1 i2 d l kvs ep ys i h' := by
  refine Mine.hideG fun GG back => ?_
  obtain ⟨⟨f0, f1, hz, hf0, hf1⟩, hTI, ⟨a, b, hTO⟩, h1, h2, hd, hl⟩ := Z
  obtain ⟨s1, s2, s3, s4, s5, s6, s7⟩ := hS
  refine back ?_
  clear back
  refine ⟨⟨f0, f1, hk _ _ (Ne.symm s1) hz, hf0, fun q => ?_⟩, hk _ _ (Ne.symm s2) hTI, ⟨a, b, hk _ _ (Ne.symm s3) hTO⟩, ?_, h2.at fun o e => hk _ o (Ne.symm s5) e, hd.at' fun o e => hk _ o (Ne.symm s6) e, hl.at fun o e => hk _ o (Ne.symm s7) e⟩
  · refine Mine.hideG fun GG back => ?_
    obtain ⟨T, o, e1, e2, e3⟩ := hf1 q
    refine back ?_
    clear back
    by_cases hTS : T = S
    · subst hTS
      refine Mine.hideG fun GG back => ?_
      obtain ⟨o', ho'⟩ := hS'
      refine back ?_
      clear back
      exact ⟨T, o', e1, ho', e3⟩
    · exact ⟨T, o, e1, hk _ _ hTS e2, e3⟩
  · obtain ⟨o, e, r⟩ := h1; exact ⟨o, hk _ o (Ne.symm s4) e, r⟩
theorem zd_loop {R : Result → Shared → Prop} {z TI TO i1 i2 d l : Addr} {kvs : List (K × Value)} {ep : Nat} {ys : Array Value} (hh : A.handled = none) (D : ZdApart z TI TO i1 i2 d l) (hlen : kvs.length = ys.size) (hn : kvs.length ≤ sizeLine) (S : Addr) (hS : S ≠ z ∧ S ≠ TI ∧ S ≠ TO ∧ S ≠ i1 ∧ S ≠ i2 ∧ S ≠ d ∧ S ≠ l) (res : Value) (lo : Nat) (hlo : z < lo ∧ TO < lo ∧ i1 < lo ∧ i2 < lo ∧ S < lo) :
    ∀ (k i : Nat) (s : Shared) (acc : Array Value) (c : Nat), kvs.length - i = k → i ≤ kvs.length → lo ≤ s.heap.objs.size → Zd knd z TI TO i1 i2 d l kvs ep ys i s.heap → s.heap.get? S = some { cls := .type "list", dict := none, data := .seq acc c, slots := #[] } → ZdOut knd kvs ys lo acc i s.heap →
    (∀ h' acc' c', (∀ b o, b ≠ z → b ≠ TO → b ≠ i1 → b ≠ i2 → b ≠ S → s.heap.get? b = some o → h'.get? b = some o) → h'.get? S = some { cls := .type "list", dict := none, data := .seq acc' c', slots := #[] } → ZdOut knd kvs ys lo acc' kvs.length h' → R (.ok (.ret res)) { s with heap := h' }) →
    codeAny (model prog w) A (.builtin "list.extend.loop" ⟨[.ref S, .ref z, res], []⟩) R s := by
  intro k
  induction k with
  | zero =>
    intro i s acc c hk hi hsz hst hS' hacc hR
    have hin : i = kvs.length := by lia
    subst hin
    refine codeAny_builtin PySem.F.entry_extend_loop ?_
    rw [Around.under_plainId PySem.F.plain_extend_loop _]
    show wpAny _ A.in1 (pyNext (.ref z) >>= _) _ _ s
    refine wpAny_bind (zd_pyNext_end (knd := knd) hh D hst (by simp) fun h' hk' => ?_)
    refine wpAny_pure (hR h' acc c (fun b o b1 b2 b3 b4 _ e => hk' b o b1 b2 b3 b4 e) (hk' S _ hS.1 hS.2.2.1 hS.2.2.2.1 hS.2.2.2.2.1 hS') ⟨hacc.1, fun j v e => ?_⟩)
    refine Mine.hideG fun GG back => ?_
    obtain ⟨t, key, kv, y, e1, e2, e3, e4, e5, e6⟩ := hacc.2 j v e
    refine back ?_
    clear back
    exact ⟨t, key, kv, y, e1, e2, e3, e4, e5, hk' t _ (ne_lo hlo.1 e2) (ne_lo hlo.2.1 e2) (ne_lo hlo.2.2.1 e2) (ne_lo hlo.2.2.2.1 e2) e6⟩
  | succ k ih =>
    intro i s acc c hk hi hsz hst hS' hacc hR
    have hlt : i < kvs.length := by lia
    refine codeAny_builtin PySem.F.entry_extend_loop ?_
    rw [Around.under_plainId PySem.F.plain_extend_loop _]
    show wpAny _ A.in1 (pyNext (.ref z) >>= _) _ _ s
    refine wpAny_bind (zd_pyNext_item (knd := knd) D hst (List.getElem?_eq_getElem hlt) (Array.getElem?_eq_getElem (by lia)) fun h₁ key hkey Z₁ hnew hk₁ => ?_)
    have hS₁ := hk₁ S _ hS.1 hS.2.2.1 hS.2.2.2.1 hS.2.2.2.2.1 hS'
    show wpAny _ A.in1 (updateSeq S (·.push (.ref s.heap.objs.size)) >>= _) _ _ _
    refine wpAny_bind ?_
    have hup : ∀ b o, b ≠ S → h₁.get? b = some o → (h₁.update S (Obj.mapSeq (·.push (.ref s.heap.objs.size)))).get? b = some o := fun b o hb e => (Heap.get?_update_other _ _ (Ne.symm hb)).trans e
    have hSS := Heap.get?_update_self (Obj.mapSeq (·.push (.ref s.heap.objs.size))) hS₁ rfl
    refine wpAny_updateSeq hS₁ rfl (wpAny_pure ⟨plainId_quiet PySem.F.plain_extend_loop _, ih (i + 1) _ (acc.push (.ref s.heap.objs.size)) _ (by lia) hlt ?_ (Z₁.frame hS hup ⟨_, hSS⟩) hSS ?_ fun h' acc' c' hk' hS'' hacc' => ?_⟩)
      (by rw [hacc.1]; lia) (by show (acc.push _).size ≤ sizeLine + 1; rw [Array.size_push, hacc.1]; lia)
    · show lo ≤ (h₁.update _ _).objs.size
      have := Heap.lt_size hnew
      have e : (h₁.update S (Obj.mapSeq (·.push (.ref s.heap.objs.size)))).objs.size = h₁.objs.size := (Heap.SameBut.update (a := S) (h := h₁) ..).1
      rw [e]
      exact Nat.le_trans hsz (Nat.le_of_lt this)
    · refine ⟨by rw [Array.size_push, hacc.1], fun j v e => ?_⟩
      rw [Array.getElem?_push] at e
      split at e
      · rename_i q
        rw [hacc.1] at q
        cases e
        subst q
        exact ⟨_, key, kvs[j], ys[j]'(by lia), rfl, hsz, List.getElem?_eq_getElem hlt, Array.getElem?_eq_getElem (by lia), hkey, hup _ _ (ne_lo hlo.2.2.2.2 hsz) hnew⟩
      · refine Mine.hideG fun GG back => ?_
        obtain ⟨t, key, kv, y, e1, e2, e3, e4, e5, e6⟩ := hacc.2 j v e
        refine back ?_
        clear back
        exact ⟨t, key, kv, y, e1, e2, e3, e4, e5, hup _ _ (ne_lo hlo.2.2.2.2 e2) (hk₁ t _ (ne_lo hlo.1 e2) (ne_lo hlo.2.1 e2) (ne_lo hlo.2.2.1 e2) (ne_lo hlo.2.2.2.1 e2) e6)⟩
    · exact hR h' acc' c' (fun b o b1 b2 b3 b4 b5 e => hk' b o b1 b2 b3 b4 b5 (hup b o b5 (hk₁ b o b1 b2 b3 b4 e))) hS'' hacc'
theorem zd_hint {z : Addr} {Q : Bool → Shared → Prop} (hT : s.TypeIs (.ref z) "zip") (h : ∀ b, Q b s) : wpAny (model prog w) A (Builtin.List.listLengthHint (.ref z)) Q E s := by
  unfold Builtin.List.listLengthHint
  refine wpAny_bind (wpAny_specialOf hT zip_no_len ?_)
  show wpAny _ _ (specialOf (Value.ref z) (Str.ofString "__length_hint__") >>= _) _ _ _
  refine wpAny_bind (wpAny_specialOf hT zip_no_hint ?_)
  exact wpAny_pure (h _)
theorem zd_list {z TI TO i1 i2 d l : Addr} {kvs : List (K × Value)} {ep : Nat} {ys : Array Value} {Q : Value → Shared → Prop} (hh : A.handled = none) (D : ZdApart z TI TO i1 i2 d l) (hlen : kvs.length = ys.size) (hn : kvs.length ≤ sizeLine) (Z : Zd knd z TI TO i1 i2 d l kvs ep ys 0 s.heap)
    (hQ : ∀ h' acc' c', (∀ b o, b ≠ z → b ≠ TO → b ≠ i1 → b ≠ i2 → s.heap.get? b = some o → h'.get? b = some o) → h'.get? s.heap.objs.size = some { cls := .type "list", dict := none, data := .seq acc' c', slots := #[] } → ZdOut knd kvs ys (s.heap.objs.size + 1) acc' kvs.length h' → Q (.ref s.heap.objs.size) { s with heap := h' }) :
    wpAny (model prog w) A (call (.type "list") [.ref z]) Q E s := by
  refine callType_codes (Q₁ := fun obj s₁ => obj = .ref s.heap.objs.size ∧ s₁ = { s with heap := s.heap.push { cls := .type "list", data := .seq #[] } }) PySem.F.called_list (PySem.F.typeCall_list_1 _) PySem.F.entry_list_init
    (code_list_new _ ⟨rfl, rfl⟩) fun obj s₁ h₁ => ?_
  refine Mine.hideG fun GG back => ?_
  obtain ⟨rfl, rfl⟩ := h₁
  obtain ⟨f0, f1, hz, _⟩ := id Z.z
  obtain ⟨aO, bO, hTO⟩ := id Z.to
  refine back ?_
  clear back
  have hS : (s.heap.push { cls := .type "list", data := .seq #[] }).get? s.heap.objs.size = some { cls := .type "list", data := .seq #[] } := Heap.get?_push_size _ rfl
  have lz : z < s.heap.objs.size := Heap.lt_size hz
  have lTI : TI < s.heap.objs.size := Heap.lt_size Z.ti
  have lTO : TO < s.heap.objs.size := Heap.lt_size hTO
  have l1 : i1 < s.heap.objs.size := by obtain ⟨_, e, _⟩ := Z.it1; exact Heap.lt_size e
  have l2 : i2 < s.heap.objs.size := by obtain ⟨_, e, _⟩ := Z.it2; exact Heap.lt_size e
  have ld : d < s.heap.objs.size := Z.dict.lt_size
  have ll : l < s.heap.objs.size := by obtain ⟨_, e, _⟩ := Z.list; exact Heap.lt_size e
  have hSne : s.heap.objs.size ≠ z ∧ s.heap.objs.size ≠ TI ∧ s.heap.objs.size ≠ TO ∧ s.heap.objs.size ≠ i1 ∧ s.heap.objs.size ≠ i2 ∧ s.heap.objs.size ≠ d ∧ s.heap.objs.size ≠ l := ⟨Nat.ne_of_gt lz, Nat.ne_of_gt lTI, Nat.ne_of_gt lTO, Nat.ne_of_gt l1, Nat.ne_of_gt l2, Nat.ne_of_gt ld, Nat.ne_of_gt ll⟩
  refine ⟨⟨_, hS, rfl⟩, PySem.F.args_list_init_2 _ _, ?_⟩
  generalize hSg : s.heap.objs.size = S at *
  show wpAny _ _ (do let old ← Builtin.List.listItems (.ref S); Builtin.List.listUpdate (.ref S) (fun _ => #[]); letGo old.toList.reverse; Builtin.List.listExtendWith (.ref S) (.ref z) .none) _ _ _
  refine wpAny_bind ?_
  unfold Builtin.List.listItems
  refine wpAny_bind (wpAny_seqItems hS rfl (wpAny_pure ?_))
  show wpAny _ _ (updateSeq S (fun _ => #[]) >>= fun _ => letGo (#[] : Array Value).toList.reverse >>= fun _ => Builtin.List.listExtendWith (.ref S) (.ref z) .none) _ _ _
  refine wpAny_bind (wpAny_updateSeq hS rfl ?_)
  have hS₂ := Heap.get?_update_self (Obj.mapSeq (fun _ => (#[] : Array Value))) hS rfl
  have oth : ∀ b o, b ≠ S → (s.heap.push { cls := .type "list", data := .seq #[] }).get? b = some o → ((s.heap.push { cls := .type "list", data := .seq #[] }).update S (Obj.mapSeq (fun _ => (#[] : Array Value)))).get? b = some o :=
    fun b o hb e => (Heap.get?_update_other _ _ (Ne.symm hb)).trans e
  have hsz2 : ((s.heap.push { cls := .type "list", data := .seq #[] }).update S (Obj.mapSeq (fun _ => (#[] : Array Value)))).objs.size = S + 1 := by
    rw [show (Heap.update _ S _).objs.size = _ from (Heap.SameBut.update (a := S) ..).1, Heap.size_push, hSg]
  refine wpAny_bind (wpAny_letGo ?_)
  have Z₂ : Zd knd z TI TO i1 i2 d l kvs ep ys 0 ((s.heap.push { cls := .type "list", data := .seq #[] }).update S (Obj.mapSeq (fun _ => (#[] : Array Value)))) :=
    Z.frame hSne (fun b o hb e => oth b o hb (Heap.get?_push_of_some _ e)) ⟨_, hS₂⟩
  generalize hH2 : ((s.heap.push { cls := .type "list", data := .seq #[] }).update S (Obj.mapSeq (fun _ => (#[] : Array Value)))) = H2 at *
  have fin : ∀ (H3 : Heap) (c₁ : Nat), H3.objs.size = S + 1 → (∀ b o, b ≠ S → H2.get? b = some o → H3.get? b = some o) → H3.get? S = some { cls := .type "list", dict := none, data := .seq #[] c₁, slots := #[] } →
      codeAny (model prog w) A.in1 (.builtin "list.extend.loop" ⟨[.ref S, .ref z, .none], []⟩) (wants (fun r s₂ => r = .none ∧ Q (.ref S) s₂) E) { s with heap := H3 } := by
    intro H3 c₁ hsz3 hk3 hS3
    refine zd_loop (knd := knd) (A := A.in1) hh D hlen hn S hSne .none (S + 1) ⟨Nat.lt_succ_of_lt lz, Nat.lt_succ_of_lt lTO, Nat.lt_succ_of_lt l1, Nat.lt_succ_of_lt l2, Nat.lt_succ_self _⟩ _ 0 ({ s with heap := H3 } : Shared) #[] c₁ rfl (Nat.zero_le _) (Nat.le_of_eq hsz3.symm) (Z₂.frame hSne hk3 ⟨_, hS3⟩) hS3 ⟨rfl, fun j v e => by simp at e⟩ fun h' acc' c' hk' hS' hacc' => ?_
    exact ⟨rfl, hQ h' acc' c' (fun b o b1 b2 b3 b4 e => hk' b o b1 b2 b3 b4 (by rw [← hSg]; exact Nat.ne_of_lt (Heap.lt_size e)) (hk3 b o (by rw [← hSg]; exact Nat.ne_of_lt (Heap.lt_size e)) (oth b o (by rw [← hSg]; exact Nat.ne_of_lt (Heap.lt_size e)) (Heap.get?_push_of_some _ e)))) hS' hacc'⟩
  refine Mine.hideG fun GG back => ?_
  obtain ⟨f0', f1', hz2, _⟩ := id Z₂.z
  refine back ?_
  clear back
  have hT2 : (({ s with heap := H2 } : Shared)).TypeIs (.ref z) "zip" := ⟨_, hz2, rfl⟩
  unfold Builtin.List.listExtendWith
  refine wpAny_bind (wpAny_typeOf hT2 ?_)
  have h1 : Builtin.List.listSameRef (.ref S) (.ref z) = false := by simp [Builtin.List.listSameRef, hSne.1]
  have h2 : (Value.type "zip" == Value.type "list") = false := by decide
  have h3 : (Value.type "zip" == Value.type "tuple") = false := by decide
  simp only [h1, h2, h3, Bool.or_false, Bool.false_eq_true, if_false]
  refine wpAny_bind (zd_pyIter hz2 ?_)
  refine wpAny_bind (wpAny_holding (zd_hint hT2 fun b => ?_))
  refine wpAny_ite_split (fun _ => ?_) (fun _ => wpAny_pure ⟨plainId_quiet PySem.F.plain_extend_loop _, fin H2 _ hsz2 (fun b o _ e => e) hS₂⟩)
  refine wpAny_bind (wpAny_rule ?_)
  refine wpAny_bind ?_
  show wpAny _ _ (updateSeq S (·.push .none) >>= fun _ => updateSeq S (·.pop)) _ _ _
  refine wpAny_bind (wpAny_updateSeq hS₂ rfl ?_)
  have hS₃ := Heap.get?_update_self (Obj.mapSeq (·.push Value.none)) hS₂ rfl
  refine wpAny_updateSeq (hz := by seq_fits) hS₃ rfl ?_
  have hS₄ := Heap.get?_update_self (Obj.mapSeq (·.pop)) hS₃ rfl
  refine wpAny_pure ⟨plainId_quiet PySem.F.plain_extend_loop _, fin _ _ ?_ (fun b o hb e => ?_) hS₄⟩
  · rw [show (Heap.update _ S _).objs.size = _ from (Heap.SameBut.update (a := S) ..).1, show (Heap.update _ S _).objs.size = _ from (Heap.SameBut.update (a := S) ..).1]; exact hsz2
  · exact (Heap.get?_update_other _ _ (Ne.symm hb)).trans ((Heap.get?_update_other _ _ (Ne.symm hb)).trans e)
end
end Mine
namespace Mine
noncomputable abbrev zdH1 (h : Heap) (d : Addr) (n ep : Nat) : Heap := h.push { cls := .type "dict_keyiterator", data := .fields #[.ref d, .int 0 0, .int n 0, .int ep 0] }
noncomputable abbrev zdH2 (h : Heap) (d l : Addr) (n ep : Nat) : Heap := (zdH1 h d n ep).push { cls := .type "list_iterator", data := .fields #[.ref l, .int 0 0] }
noncomputable abbrev zdH3 (h : Heap) (d l : Addr) (n ep : Nat) : Heap := (zdH2 h d l n ep).push { cls := .type "tuple", data := .seq #[.ref h.objs.size, .ref (zdH1 h d n ep).objs.size] }
noncomputable abbrev zdH4 (h : Heap) (d l : Addr) (n ep : Nat) : Heap := (zdH3 h d l n ep).push { cls := .type "tuple", data := .seq #[.none, .none] }
noncomputable abbrev zdH5 (h : Heap) (d l : Addr) (n ep : Nat) : Heap := (zdH4 h d l n ep).push { cls := .type "zip", data := .fields #[.none, .bool false, .bool false, .ref (zdH2 h d l n ep).objs.size, .ref (zdH3 h d l n ep).objs.size] }
section
variable {prog : Program} {w : World} {A : Around} {E : Value → Shared → Prop} {s : Shared} {K : Type} [DecidableEq K]
structure Zip0 (z TI TO i1 i2 d l : Addr) (n ep : Nat) (h : Heap) : Prop where
  z : h.get? z = some (zipObj .none (.bool false) TI TO)
  ti : h.get? TI = some (pairObj (.ref i1) (.ref i2))
  to : h.get? TO = some (pairObj .none .none)
  it1 : h.get? i1 = some { cls := .type "dict_keyiterator", data := .fields #[.ref d, .int 0 0, .int n 0, .int ep 0] }
  it2 : h.get? i2 = some { cls := .type "list_iterator", data := .fields #[.ref l, .int 0 0] }
theorem zd_new {knd : KeyKind prog w K} {d l : Addr} {kvs : List (K × Value)} {ep : Nat} {ys : Array Value} {Q : Value → Shared → Prop} (lo : (d == sysModules) = false) (hd : s.heap.DictAt knd d kvs ep) (hl : s.heap.IsList l ys)
    (h : ∀ h', Zip0 (s.heap.objs.size + 4) (s.heap.objs.size + 2) (s.heap.objs.size + 3) s.heap.objs.size (s.heap.objs.size + 1) d l kvs.length ep h' → h'.objs.size = s.heap.objs.size + 5 →
      (∀ c o, s.heap.get? c = some o → h'.get? c = some o) → Q (.ref (s.heap.objs.size + 4)) { s with heap := h' }) :
    wpAny (model prog w) A (call (.type "zip") [.ref d, .ref l]) Q E s := by
  have meets : MeetsIn prog w (Builtin.«zip.__new__» ⟨[.type "zip", .ref d, .ref l], []⟩) (fun _ R s' => s' = s ∧ R (.ok (.ret (.ref (zdH4 s.heap d l kvs.length ep).objs.size))) { s with heap := zdH5 s.heap d l kvs.length ep }) := by
    refine .of_wp fun A R s' h => ?_
    obtain ⟨rfl, h⟩ := h
    obtain ⟨hp, g, dd, tk, os⟩ := s'
    have hsub := sub_zip
    have hD : Heap.DictAt knd (Shared.heap ⟨hp, g, dd, tk, os⟩) d kvs ep := hd
    have hL2 : Heap.IsList (Shared.heap ⟨hp.push { cls := .type "dict_keyiterator", data := .fields #[.ref d, .int 0 0, .int kvs.length 0, .int ep 0] }, g, dd, tk, os⟩) l ys := Heap.IsList.push hl _
    wp_walk using wpAny_pyIter_dict lo hD, wpAny_pyIter_list hL2
    exact ⟨_, rfl, h⟩
  refine callType_newIn PySem.F.called_zip (by decide) (PySem.F.typeCall_zip_2 _ _) (PySem.F.newCall_zip_2 _ _) (fun obj => PySem.F.args_object_init_3 obj _ _) PySem.F.entry_zip_new meets ⟨rfl, ?_⟩
  have z1 : (zdH1 s.heap d kvs.length ep).objs.size = s.heap.objs.size + 1 := Heap.size_push ..
  have z2 : (zdH2 s.heap d l kvs.length ep).objs.size = s.heap.objs.size + 2 := by rw [Heap.size_push, z1]
  have z3 : (zdH3 s.heap d l kvs.length ep).objs.size = s.heap.objs.size + 3 := by rw [Heap.size_push, z2]
  have z4 : (zdH4 s.heap d l kvs.length ep).objs.size = s.heap.objs.size + 4 := by rw [Heap.size_push, z3]
  have z5 : (zdH5 s.heap d l kvs.length ep).objs.size = s.heap.objs.size + 5 := by rw [Heap.size_push, z4]
  have g5 : (zdH5 s.heap d l kvs.length ep).get? (zdH4 s.heap d l kvs.length ep).objs.size = some _ := Heap.get?_push_size _ rfl
  have g4 : (zdH5 s.heap d l kvs.length ep).get? (zdH3 s.heap d l kvs.length ep).objs.size = some _ := Heap.get?_push_of_some _ (Heap.get?_push_size _ rfl)
  have g3 : (zdH5 s.heap d l kvs.length ep).get? (zdH2 s.heap d l kvs.length ep).objs.size = some _ := Heap.get?_push_of_some _ (Heap.get?_push_of_some _ (Heap.get?_push_size _ rfl))
  have g2 : (zdH5 s.heap d l kvs.length ep).get? (zdH1 s.heap d kvs.length ep).objs.size = some _ := Heap.get?_push_of_some _ (Heap.get?_push_of_some _ (Heap.get?_push_of_some _ (Heap.get?_push_size _ rfl)))
  have g1 : (zdH5 s.heap d l kvs.length ep).get? s.heap.objs.size = some _ := Heap.get?_push_of_some _ (Heap.get?_push_of_some _ (Heap.get?_push_of_some _ (Heap.get?_push_of_some _ (Heap.get?_push_size _ rfl))))
  show _ ∧ _
  rw [z2, z3, z4] at g5
  rw [z1, z2] at g3
  rw [z3] at g4
  rw [z1] at g2
  rw [z4]
  exact ⟨⟨_, g5, rfl⟩, h _ ⟨g5, g3, g4, g1, g2⟩ z5 fun c o x =>
    Heap.get?_push_of_some _ (Heap.get?_push_of_some _ (Heap.get?_push_of_some _ (Heap.get?_push_of_some _ (Heap.get?_push_of_some _ x))))⟩
end
end Mine
namespace Mine
section
variable {c : Cx} {o : Out} {env : Env} {B : BMap} {m : Loc} {H : AHeap} {s : Shared}
theorem St.swap (st : St c o env B m H s) {H' : AHeap} {h' : Heap} {tk : Nat} {ws : List Addr} (hw : ∀ a ∈ ws, ∃ x, H a = some x) (hk : ∀ b ob, b ∉ ws → s.heap.get? b = some ob → h'.get? b = some ob)
    (hown : ∀ a x, H' a = some x → (∃ ob, h'.get? a = some ob ∧ IsObj c ob x) ∧ B a = none ∧ c.base.objs.size ≤ a) (hpl : ∀ a ∈ places env, H' a = none) (ht : 1 ≤ tk) : St c o env B m H' { s with heap := h', toks := tk } := by
  have hB : ∀ a ∈ ws, B a = none := fun a h => by obtain ⟨x, hx⟩ := hw a h; exact st.disB a x hx
  have hb : ∀ a ∈ ws, c.base.get? a = none := fun a h => by obtain ⟨x, hx⟩ := hw a h; exact none_ge (st.disBase a x hx)
  have hp : ∀ a ∈ places env, a ∉ ws := fun a q h => by obtain ⟨x, hx⟩ := hw a h; rw [(st.pl a q).1] at hx; cases hx
  refine ⟨fun b ob e => hk b ob (fun q => by rw [hb b q] at e; cases e) (st.base b ob e), fun b ob l e => ?_, fun b z e => (hown b z e).1, fun b z e => (hown b z e).2.1, fun b z e => (hown b z e).2.2, fun b q => ⟨hpl b q, (st.pl b q).2⟩, st.nodup, fun b e => ?_, ?_, st.frames, st.gens, st.os, ht⟩
  · refine Mine.hideG fun GG back => ?_
    obtain ⟨sl, e1, e2⟩ := st.keep b ob l e
    refine back ?_
    clear back
    exact ⟨sl, hk b _ (fun q => by rw [hB b q] at e; cases e) e1, e2⟩
  · refine Mine.hideG fun GG back => ?_
    obtain ⟨v, ob, e1, e2⟩ := st.cell b e
    refine back ?_
    clear back
    exact ⟨v, ob, hk b ob (hp b (List.mem_cons_of_mem _ e)) e1, e2⟩
  · exact var_keeps (fun a q ob e => hk a ob (hp a q) e) st.var
end
section
variable {k : Wk} {m : Loc} {H : AHeap}
structure ZipIn (H : AHeap) (z TI TO i1 i2 d l : Addr) (n ep : Nat) : Prop where
  fz : H z = some (.raw (zipObj .none (.bool false) TI TO))
  fti : H TI = some (.raw (pairObj (.ref i1) (.ref i2)))
  fto : H TO = some (.raw (pairObj .none .none))
  f1 : H i1 = some (.raw { cls := .type "dict_keyiterator", data := .fields #[.ref d, .int 0 0, .int n 0, .int ep 0] })
  f2 : H i2 = some (.raw { cls := .type "list_iterator", data := .fields #[.ref l, .int 0 0] })
  ap : TI ≠ z ∧ TO ≠ z ∧ i1 ≠ z ∧ i2 ≠ z ∧ TI ≠ TO ∧ TI ≠ i1 ∧ TI ≠ i2 ∧ TO ≠ i1 ∧ TO ≠ i2 ∧ i1 ≠ i2
theorem WCall_zip {d l : Addr} {kvs : List (Key × V)} {ep : Nat} {ys : List V} {Q : V → Loc → AHeap → Prop} (hd : H d = some (.dict kvs ep)) (hl : H l = some (.list ys))
    (h : ∀ z TI TO i1 i2 H', Ext H H' → (∀ a ∈ [z, TI, TO, i1, i2], H a = none) → ZipIn H' z TI TO i1 i2 d l kvs.length ep → Q (.ref z) m H') : WCall k (.type "zip") [.ref d, .ref l] m H Q := fun vs e => by
  refine Mine.hideG fun GG back => ?_
  obtain ⟨x, y, rfl, e1, e2⟩ := map_er2 e
  refine back ?_
  clear back
  obtain rfl := er_ref e1
  obtain rfl := er_ref e2
  intro B s st
  refine Mine.hideG fun GG back => ?_
  obtain ⟨rvs, hm, hrv⟩ := st.dictAt hd
  obtain ⟨us, n, hL, hus⟩ := st.listAt hl
  refine back ?_
  clear back
  have hlen : kvs.length = rvs.length := by rw [← hrv]; simp
  refine zd_new (knd := mix k.c.prog k.c.w) (st.notMods hd) hm hL.isList fun h' Z hsz hk => ?_
  have stg := st.grown (tk := s.toks) hk st.tk
  have fr : ∀ i, H (s.heap.objs.size + i) = none ∧ B (s.heap.objs.size + i) = none ∧ s.heap.objs.size + i ∉ places k.env ∧ k.c.base.objs.size ≤ s.heap.objs.size + i := fun i => by
    refine Mine.hideG fun GG back => ?_
    obtain ⟨f1, f2, f3, f4⟩ := st.fresh (st.none_at (Nat.le_add_right s.heap.objs.size i))
    refine back ?_
    clear back
    exact ⟨f1, f2, f4, Nat.le_trans st.baseLe (Nat.le_add_right ..)⟩
  have f0 := fr 0; have f1 := fr 1; have f2 := fr 2; have f3 := fr 3; have f4 := fr 4
  rw [Nat.add_zero] at f0
  generalize hS : s.heap.objs.size = S at *
  have s1 := stg.adopt (y := .raw { cls := .type "dict_keyiterator", data := .fields #[.ref d, .int 0 0, .int rvs.length 0, .int ep 0] }) ⟨_, Z.it1, rfl⟩ f0.1 f0.2.1 f0.2.2.1 f0.2.2.2
  have s2 := s1.adopt (y := .raw { cls := .type "list_iterator", data := .fields #[.ref l, .int 0 0] }) ⟨_, Z.it2, rfl⟩ (upd_none (show (S + 1 : Nat) ≠ S by lia) f1.1) f1.2.1 f1.2.2.1 f1.2.2.2
  have s3 := s2.adopt (y := .raw (pairObj (.ref S) (.ref (S + 1)))) ⟨_, Z.ti, rfl⟩ (upd_none (show (S + 2 : Nat) ≠ S + 1 by lia) (upd_none (show (S + 2 : Nat) ≠ S by lia) f2.1)) f2.2.1 f2.2.2.1 f2.2.2.2
  have s4 := s3.adopt (y := .raw (pairObj .none .none)) ⟨_, Z.to, rfl⟩ (upd_none (show (S + 3 : Nat) ≠ S + 2 by lia) (upd_none (show (S + 3 : Nat) ≠ S + 1 by lia) (upd_none (show (S + 3 : Nat) ≠ S by lia) f3.1))) f3.2.1 f3.2.2.1 f3.2.2.2
  have s5 := s4.adopt (y := .raw (zipObj .none (.bool false) (S + 2) (S + 3))) ⟨_, Z.z, rfl⟩ (upd_none (show (S + 4 : Nat) ≠ S + 3 by lia) (upd_none (show (S + 4 : Nat) ≠ S + 2 by lia) (upd_none (show (S + 4 : Nat) ≠ S + 1 by lia) (upd_none (show (S + 4 : Nat) ≠ S by lia) f4.1)))) f4.2.1 f4.2.2.1 f4.2.2.2
  refine ⟨m, _, s5, h (S + 4) (S + 2) (S + 3) S (S + 1) _ (fun b y e => ?_) (fun a ha => ?_) ⟨upd_same, ?_, ?_, ?_, ?_, ⟨show (S + 2 : Nat) ≠ S + 4 by lia, show (S + 3 : Nat) ≠ S + 4 by lia, show (S : Nat) ≠ S + 4 by lia, show (S + 1 : Nat) ≠ S + 4 by lia, show (S + 2 : Nat) ≠ S + 3 by lia, show (S + 2 : Nat) ≠ S by lia, show (S + 2 : Nat) ≠ S + 1 by lia, show (S + 3 : Nat) ≠ S by lia, show (S + 3 : Nat) ≠ S + 1 by lia, show (S : Nat) ≠ S + 1 by lia⟩⟩⟩
  · have hb : ∀ i, b ≠ S + i := fun i q => by rw [q, (fr i).1] at e; cases e
    have hb0 : b ≠ S := hb 0
    exact upd_ne (hb 4) (upd_ne (hb 3) (upd_ne (hb 2) (upd_ne (hb 1) (upd_ne hb0 e))))
  · simp only [List.mem_cons, List.not_mem_nil, or_false] at ha
    rcases ha with rfl | rfl | rfl | rfl | rfl
    · exact f4.1
    · exact f2.1
    · exact f3.1
    · exact f0.1
    · exact f1.1
  · exact upd_ne (show (S + 2 : Nat) ≠ S + 4 by lia) (upd_ne (show (S + 2 : Nat) ≠ S + 3 by lia) upd_same)
  · exact upd_ne (show (S + 3 : Nat) ≠ S + 4 by lia) upd_same
  · rw [hlen]; exact upd_ne (show (S : Nat) ≠ S + 4 by lia) (upd_ne (show (S : Nat) ≠ S + 3 by lia) (upd_ne (show (S : Nat) ≠ S + 2 by lia) (upd_ne (show (S : Nat) ≠ S + 1 by lia) upd_same)))
  · exact upd_ne (show (S + 1 : Nat) ≠ S + 4 by lia) (upd_ne (show (S + 1 : Nat) ≠ S + 3 by lia) (upd_ne (show (S + 1 : Nat) ≠ S + 2 by lia) upd_same))
noncomputable def pairsF (L : List (Addr × V × V)) (a : Addr) : Option AObj := (L.find? fun x => x.1 = a).map fun x => .tup [x.2.1, x.2.2]
theorem WCall_listZip {z TI TO i1 i2 d l : Addr} {kvs : List (Key × V)} {ep : Nat} {ys : List V} {Q : V → Loc → AHeap → Prop} (hh : k.A.handled = none) (Z : ZipIn H z TI TO i1 i2 d l kvs.length ep) (hd : H d = some (.dict kvs ep)) (hl : H l = some (.list ys)) (hlen : kvs.length = ys.length) (hz : kvs.length ≤ sizeLine)
    (h : ∀ p (ts : List (Addr × V × V)) H', (∀ b y, b ∉ [z, TI, TO, i1, i2] → H b = some y → H' b = some y) → H' p = some (.list (ts.map fun t => .ref t.1)) → H p = none → ts.length = kvs.length →
      (∀ (j : Nat) (t : Addr × V × V), ts[j]? = some t → ∃ kv : Key × V, kvs[j]? = some kv ∧ isKV kv.1 t.2.1 = true ∧ ys[j]? = some t.2.2 ∧ H' t.1 = some (.tup [t.2.1, t.2.2])) → Q (.ref p) m H') : WCall k (.type "list") [.ref z] m H Q := fun vs e => by
  refine Mine.hideG fun GG back => ?_
  obtain ⟨x, rfl, e1⟩ := map_er1 e
  refine back ?_
  clear back
  obtain rfl := er_ref e1
  intro B s st
  refine Mine.hideG fun GG back => ?_
  obtain ⟨rvs, hm, hrv⟩ := st.dictAt hd
  obtain ⟨us, n, hL, hus⟩ := st.listAt hl
  refine back ?_
  clear back
  have hlen' : kvs.length = rvs.length := by rw [← hrv]; simp
  have hlu : rvs.length = us.toArray.size := by rw [List.size_toArray, ← hlen', hlen, ← hus]; simp
  refine Mine.hideG fun GG back => ?_
  obtain ⟨oz, hoz, rfl⟩ := st.own z _ Z.fz
  obtain ⟨oi, hoi, rfl⟩ := st.own TI _ Z.fti
  obtain ⟨oo, hoo, rfl⟩ := st.own TO _ Z.fto
  obtain ⟨o1, ho1, rfl⟩ := st.own i1 _ Z.f1
  obtain ⟨o2, ho2, rfl⟩ := st.own i2 _ Z.f2
  refine back ?_
  clear back
  have hne : ∀ {a b : Addr} {x y : AObj}, H a = some x → H b = some y → x ≠ y → a ≠ b := fun e1 e2 hxy q => by subst q; rw [e1] at e2; exact hxy (Option.some.inj e2)
  have D : ZdApart z TI TO i1 i2 d l := by
    refine Mine.hideG fun GG back => ?_
    obtain ⟨a1, a2, a3, a4, a5, a6, a7, a8, a9, a10⟩ := Z.ap
    refine back ?_
    clear back
    exact ⟨a1, a2, a3, a4, a5, a6, a7, a8, a9, a10, hne hd Z.fz (by simp), hne hd Z.fto (by simp), hne hd Z.f1 (by simp), hne hd Z.f2 (by simp), hne hl Z.fz (by simp), hne hl Z.fto (by simp), hne hl Z.f1 (by simp), hne hl Z.f2 (by simp)⟩
  refine zd_list (knd := mix k.c.prog k.c.w) (kvs := rvs) (ep := ep) (ys := us.toArray) hh D hlu (by rw [← hlen']; exact hz)
    ⟨⟨_, _, hoz, fun _ => rfl, fun q => absurd q (Nat.lt_irrefl 0)⟩, hoi, ⟨_, _, hoo⟩, ⟨_, ho1, rfl, by rw [hlen']; rfl⟩, ⟨_, ho2, rfl, rfl⟩, hm, hL.isList⟩ fun h' acc' c' hk hS hout => ?_
  -- the tuples
  have hT : ∃ ts : List (Addr × V × V), (acc'.toList.map er) = ts.map (fun t => V.ref t.1) ∧ (∀ (j : Nat) (t : Addr × V × V), ts[j]? = some t → s.heap.objs.size < t.1 ∧ (∃ a b, h'.get? t.1 = some (pairObj a b) ∧ er a = t.2.1 ∧ er b = t.2.2) ∧ ∃ kv : Key × V, kvs[j]? = some kv ∧ isKV kv.1 t.2.1 = true ∧ ys[j]? = some t.2.2) := by
    have hall : ∀ (j : Nat) (v : Value), acc'.toList[j]? = some v → ∃ t : Addr × V × V, er v = .ref t.1 ∧ s.heap.objs.size < t.1 ∧ (∃ a b, h'.get? t.1 = some (pairObj a b) ∧ er a = t.2.1 ∧ er b = t.2.2) ∧ ∃ kv : Key × V, kvs[j]? = some kv ∧ isKV kv.1 t.2.1 = true ∧ ys[j]? = some t.2.2 := fun j v e => by
      refine Mine.hideG fun GG back => ?_
      obtain ⟨t, key, kv, y, rfl, e2, e3, e4, e5, e6⟩ := hout.2 j v (by rw [← Array.getElem?_toList]; exact e)
      refine back ?_
      clear back
      refine ⟨(t, er key, er y), rfl, e2, ⟨_, _, e6, rfl, rfl⟩, erP kv, by rw [← hrv, List.getElem?_map, e3]; rfl, ?_, ?_⟩
      · rw [← isKey_er]; exact e5
      · rw [← hus, List.getElem?_map]
        rw [List.getElem?_toArray] at e4
        rw [e4]; rfl
    clear hout hS
    generalize acc'.toList = l at hall
    generalize hn0 : (0 : Nat) = n0
    have hall' : ∀ (j : Nat) (v : Value), l[j]? = some v → ∃ t : Addr × V × V, er v = .ref t.1 ∧ s.heap.objs.size < t.1 ∧ (∃ a b, h'.get? t.1 = some (pairObj a b) ∧ er a = t.2.1 ∧ er b = t.2.2) ∧ ∃ kv : Key × V, kvs[j + n0]? = some kv ∧ isKV kv.1 t.2.1 = true ∧ ys[j + n0]? = some t.2.2 := by rw [← hn0]; exact hall
    suffices ∃ ts : List (Addr × V × V), l.map er = ts.map (fun t => V.ref t.1) ∧ (∀ (j : Nat) (t : Addr × V × V), ts[j]? = some t → s.heap.objs.size < t.1 ∧ (∃ a b, h'.get? t.1 = some (pairObj a b) ∧ er a = t.2.1 ∧ er b = t.2.2) ∧ ∃ kv : Key × V, kvs[j + n0]? = some kv ∧ isKV kv.1 t.2.1 = true ∧ ys[j + n0]? = some t.2.2) by
      rw [← hn0] at this; exact this
    clear hall hn0
    induction l generalizing n0 with
    | nil => exact ⟨[], rfl, fun j t e => by simp at e⟩
    | cons v r ih =>
      refine Mine.hideG fun GG back => ?_
      obtain ⟨t, t1, t2⟩ := hall' 0 v rfl
      refine back ?_
      clear back
      rw [Nat.zero_add] at t2
      obtain ⟨ts, e1, e2⟩ := ih (n0 + 1) fun j v e => by
        have := hall' (j + 1) v e
        rw [Nat.add_right_comm] at this
        exact this
      refine ⟨t :: ts, by rw [List.map_cons, List.map_cons, t1, e1], fun j u e => ?_⟩
      cases j with
      | zero => cases e; rw [Nat.zero_add]; exact t2
      | succ j => have := e2 j u e; rw [Nat.add_right_comm]; exact this
  refine Mine.hideG fun GG back => ?_
  obtain ⟨ts, hts, hT⟩ := hT
  refine back ?_
  clear back
  have hmem : ∀ t ∈ ts, s.heap.objs.size < t.1 ∧ ∃ a b, h'.get? t.1 = some (pairObj a b) ∧ er a = t.2.1 ∧ er b = t.2.2 := fun t ht => by
    refine Mine.hideG fun GG back => ?_
    obtain ⟨j, hj⟩ := List.mem_iff_getElem?.mp ht
    obtain ⟨a, b, _⟩ := hT j t hj
    refine back ?_
    clear back
    exact ⟨a, b⟩
  have hfind : ∀ t ∈ ts, pairsF ts t.1 = some (.tup [t.2.1, t.2.2]) := fun t ht => by
    unfold pairsF
    cases e : ts.find? (fun x => x.1 = t.1) with
    | none => have := List.find?_eq_none.mp e t ht; simp at this
    | some u =>
      have hu := List.find?_some e
      have hu' : u.1 = t.1 := by simpa using hu
      refine Mine.hideG fun GG back => ?_
      obtain ⟨_, a, b, g1, g2, g3⟩ := hmem u (List.mem_of_find?_eq_some e)
      obtain ⟨_, a', b', g1', g2', g3'⟩ := hmem t ht
      refine back ?_
      clear back
      rw [hu', g1'] at g1
      simp only [pairObj, Option.some.injEq, Obj.mk.injEq, Data.seq.injEq] at g1
      have q := g1.2.2.1.1
      have q1 : a' = a ∧ b' = b := by simpa using q
      refine Mine.hideG fun GG back => ?_
      obtain ⟨rfl, rfl⟩ := q1
      refine back ?_
      clear back
      rw [Option.map_some, ← g2, ← g3, g2', g3']
  have hfresh : ∀ a, s.heap.objs.size ≤ a → H a = none ∧ B a = none ∧ a ∉ places k.env ∧ k.c.base.objs.size ≤ a := fun a ha => by
    refine Mine.hideG fun GG back => ?_
    obtain ⟨f1, f2, f3, f4⟩ := st.fresh (st.none_at ha)
    refine back ?_
    clear back
    exact ⟨f1, f2, f4, Nat.le_trans st.baseLe ha⟩
  let ws := [z, TI, TO, i1, i2]
  let H' : AHeap := fun a => if a = s.heap.objs.size then some (.list (ts.map fun t => .ref t.1)) else if (pairsF ts a).isSome then pairsF ts a else if a ∈ ws then none else H a
  have hwH : ∀ a ∈ ws, ∃ x, H a = some x := fun a ha => by
    simp only [ws, List.mem_cons, List.not_mem_nil, or_false] at ha
    rcases ha with rfl | rfl | rfl | rfl | rfl
    · exact ⟨_, Z.fz⟩
    · exact ⟨_, Z.fti⟩
    · exact ⟨_, Z.fto⟩
    · exact ⟨_, Z.f1⟩
    · exact ⟨_, Z.f2⟩
  have hpF : ∀ a x, pairsF ts a = some x → ∃ t ∈ ts, t.1 = a ∧ x = .tup [t.2.1, t.2.2] := fun a x e => by
    unfold pairsF at e
    refine Mine.hideG fun GG back => ?_
    obtain ⟨t, e1, rfl⟩ := Option.map_eq_some_iff.mp e
    refine back ?_
    clear back
    exact ⟨t, List.mem_of_find?_eq_some e1, by simpa using List.find?_some e1, rfl⟩
  have st' : St k.c k.o k.env B m H' { s with heap := h' } := by
    refine st.swap (ws := ws) hwH (fun b ob hb e => ?_) (fun a x e => ?_) (fun a ha => ?_) st.tk
    · simp only [ws, List.mem_cons, List.not_mem_nil, or_false, not_or] at hb
      exact hk b ob hb.1 hb.2.2.1 hb.2.2.2.1 hb.2.2.2.2 e
    · simp only [H'] at e
      split at e
      · rename_i ha
        cases e
        subst ha
        exact ⟨⟨_, hS, acc'.toList, c', by simp, hts⟩, (hfresh _ (Nat.le_refl _)).2.1, (hfresh _ (Nat.le_refl _)).2.2.2⟩
      · split at e
        · refine Mine.hideG fun GG back => ?_
          obtain ⟨t, ht, rfl, rfl⟩ := hpF a x e
          obtain ⟨g1, a', b', g2, g3, g4⟩ := hmem t ht
          refine back ?_
          clear back
          have f := hfresh t.1 (Nat.le_of_lt g1)
          exact ⟨⟨_, g2, [a', b'], 0, rfl, by rw [List.map_cons, List.map_cons, g3, g4]; rfl⟩, f.2.1, f.2.2.2⟩
        · split at e
          · cases e
          · rename_i hb
            simp only [ws, List.mem_cons, List.not_mem_nil, or_false, not_or] at hb
            refine Mine.hideG fun GG back => ?_
            obtain ⟨ob, o1', o2'⟩ := st.own a x e
            refine back ?_
            clear back
            exact ⟨⟨ob, hk a ob hb.1 hb.2.2.1 hb.2.2.2.1 hb.2.2.2.2 o1', o2'⟩, st.disB a x e, st.disBase a x e⟩
    · simp only [H']
      have ha0 : a ≠ s.heap.objs.size := fun q => (hfresh _ (Nat.le_refl _)).2.2.1 (by rw [← q]; exact ha)
      rw [if_neg ha0, if_neg (fun q => ?_), if_neg (fun q => ?_)]
      · exact (st.pl a ha).1
      · obtain ⟨x, hx⟩ := hwH a q; rw [(st.pl a ha).1] at hx; cases hx
      · refine Mine.hideG fun GG back => ?_
        obtain ⟨x, hx⟩ := Option.isSome_iff_exists.mp q
        obtain ⟨t, ht, rfl, _⟩ := hpF a x hx
        refine back ?_
        clear back
        exact (hfresh t.1 (Nat.le_of_lt (hmem t ht).1)).2.2.1 ha
  refine ⟨m, H', st', h s.heap.objs.size ts H' (fun b y hb e => ?_) ?_ (hfresh _ (Nat.le_refl _)).1 ?_ fun j t e => ?_⟩
  · simp only [H']
    rw [if_neg (fun q => by rw [q, (hfresh _ (Nat.le_refl _)).1] at e; cases e), if_neg (fun q => ?_), if_neg hb]
    · exact e
    · refine Mine.hideG fun GG back => ?_
      obtain ⟨x, hx⟩ := Option.isSome_iff_exists.mp q
      obtain ⟨t, ht, rfl, _⟩ := hpF b x hx
      refine back ?_
      clear back
      rw [(hfresh t.1 (Nat.le_of_lt (hmem t ht).1)).1] at e; cases e
  · simp only [H', if_pos]
  · have := congrArg List.length hts
    simp only [List.length_map, Array.length_toList] at this
    rw [← this, hout.1, hlen']
  · refine Mine.hideG fun GG back => ?_
    obtain ⟨g1, g2, kv, g3, g4, g5⟩ := hT j t e
    refine back ?_
    clear back
    have ht := List.mem_of_getElem? e
    refine ⟨kv, g3, g4, g5, ?_⟩
    simp only [H']
    rw [if_neg (Nat.ne_of_gt g1), hfind t ht]; rfl
end
end Mine
namespace Mine
theorem rangeN_up (n : Nat) : rangeN 0 n 1 = n := by
  unfold rangeN Builtin.Range.rangeSize
  rw [if_pos (by decide)]
  by_cases h : (0 : Int) < n
  · rw [if_pos h]; lia
  · rw [if_neg h]; lia
theorem rangeN_down (n : Nat) : rangeN ((n : Int) - 1) (-1) (-1) = n := by
  unfold rangeN Builtin.Range.rangeSize
  rw [if_neg (by decide)]
  by_cases h : (n : Int) - 1 > -1
  · rw [if_pos h]; simp
  · rw [if_neg h]; lia
theorem small_up {n : Nat} (h : n < 2 ^ 60) : Builtin.Range.small 0 n 1 = true := small_one (by decide) (by decide) (by lia) (by lia)
theorem small_dn {n : Nat} (h : n < 2 ^ 60) : Builtin.Range.small ((n : Int) - 1) (-1) (-1) = true := by
  unfold Builtin.Range.small Builtin.Range.rangeFitsLong
  have e : Builtin.Range.rangeSize ((n : Int) - 1) (-1) (-1) = n := by
    have := rangeN_down n
    unfold rangeN at this
    have h0 := rangeSize_nonneg ((n : Int) - 1) (-1) (-1)
    lia
  rw [e]
  simp
  lia
noncomputable def ExtBut (D : Addr) (H H' : AHeap) : Prop := ∀ b y, b ≠ D → H b = some y → H' b = some y
theorem ExtBut.refl (D : Addr) (H : AHeap) : ExtBut D H H := fun _ _ _ e => e
theorem ExtBut.of {D : Addr} {H H' : AHeap} (h : Ext H H') : ExtBut D H H' := fun b y _ e => h b y e
theorem ExtBut.trans {D : Addr} {H H' H'' : AHeap} (h : ExtBut D H H') (h' : ExtBut D H' H'') : ExtBut D H H'' := fun b y n e => h' b y n (h b y n e)
theorem ExtBut.put {D : Addr} {H H' : AHeap} {y : AObj} (h : ExtBut D H H') : ExtBut D H (upd H' D y) := fun b z n e => upd_ne n (h b z n e)
theorem ExtBut.ext {D : Addr} {H H' : AHeap} (h : ExtBut D H H') (hD : H D = none) : Ext H H' := fun b y e => h b y (fun q => by rw [q, hD] at e; cases e) e
end Mine
namespace Mine
noncomputable def BaseL (c : Cx) (a : Addr) (xs : List V) : Prop := ∃ vs : List Value, c.base.IsList a vs.toArray ∧ vs.map er = xs
section
variable {k : Wk} {m : Loc} {H : AHeap}
theorem isList_stays {h h' : Heap} {a : Addr} {xs : Array Value} (hs : h.StaysIn h') (x : h.IsList a xs) : h'.IsList a xs := by
  refine Mine.hideG fun GG back => ?_
  obtain ⟨o, e1, e2, n, e3⟩ := x
  refine back ?_
  clear back
  exact ⟨o, hs a o e1, e2, n, e3⟩
theorem WIter_base {a : Addr} {xs : List V} (hh : k.A.handled = none) (ha : BaseL k.c a xs) : WIter k (.ref a) m H xs.length (fun i v => xs[i]? = some v) (fun _ => True) := fun x hx B s st P E hP => by
  obtain rfl := er_ref hx
  refine Mine.hideG fun GG back => ?_
  obtain ⟨vs, hl, hvs⟩ := ha
  obtain ⟨h1, h2, st2⟩ := hide_new st { cls := .type "list_iterator", data := .fields #[.ref a, .int 0 0] } rfl
  refine back ?_
  clear back
  refine wpAny_pyIter_list (isList_stays st.base hl) (hP _ _ (fun i ob => ob.cls = .type "list_iterator" ∧ ob.data = .fields #[.ref a, .int i 0]) _ ⟨?_, ?_, ?_, ?_⟩ ⟨rfl, rfl⟩ h1 h2 st2)
  · intro i hi H s ob st hob hat ha P hP E
    have hi' : i < vs.length := by rw [← hvs] at hi; simpa using hi
    refine wpAny_pyNext_list_item ⟨ob, hob, hat⟩ (isList_stays st.1.2 hl) (x := vs[i]) (by simp [hi']) fun h' ⟨ob', e1, e2⟩ hs => hP vs[i] h' s.toks ob' st.2 ?_ e2 e1 hs
    rw [← hvs]; simp [hi']
  · intro H s ob st hob hat ha P hP E
    exact wpAny_pyNext_list_end hh ⟨ob, hob, hat⟩ (isList_stays st.1.2 hl) (by rw [← hvs]; simp) hP
  · intro ob s P ho h hP E
    exact wpAny_pyIter_listiter (l := a) (i := 0) ⟨ob, ho, h⟩ hP
  · intro i ob h
    exact ⟨_, _, h.1, h.2, by decide⟩
end
/-! a place put aside -/
noncomputable def delA (p : Addr) (H : AHeap) : AHeap := fun b => if b = p then none else H b
theorem delA_at {p b : Addr} {H : AHeap} {y : AObj} (n : b ≠ p) (e : H b = some y) : delA p H b = some y := by unfold delA; rw [if_neg n]; exact e
theorem delA_upd {p : Addr} {H : AHeap} {x : AObj} (h : H p = none) : delA p (upd H p x) = H := by
  funext b
  unfold delA upd
  by_cases q : b = p
  · rw [if_pos q, q, h]
  · rw [if_neg q, if_neg q]
theorem W_frame {α : Type} {k : Wk} {t : Sem α} {m : Loc} {H : AHeap} {p : Addr} {x : AObj} {Q : α → Loc → AHeap → Prop} (hx : H p = some x) (h : W k t m (delA p H) (fun v m' H' => H' p = none → Q v m' (upd H' p x))) : W k t m H Q := by
  intro B s st
  refine Mine.hideG fun GG back => ?_
  obtain ⟨ob, ho, hI⟩ := st.own p x hx
  refine back ?_
  clear back
  have hB := st.disB p x hx
  have hbase := st.disBase p x hx
  have delS : ∀ {a y}, delA p H a = some y → a ≠ p ∧ H a = some y := fun {a y} e => by
    unfold delA at e
    split at e
    · cases e
    · rename_i n; exact ⟨n, e⟩
  have st' : St k.c k.o k.env (upd B p (ob, false)) m (delA p H) s := by
    refine ⟨st.base, fun a ob' l e => ?_, fun a y e => st.own a y (delS e).2, fun a y e => ?_, fun a y e => st.disBase a y (delS e).2, fun a q => ?_, st.nodup, st.cell, st.var, ⟨fun e he => ?_, fun a y e => upd_fresh hB (st.frames.2 a y e)⟩, st.gens, st.os, st.tk⟩
    · rcases upd_some e with ⟨rfl, e'⟩ | ⟨ne, e⟩
      · injection e' with e1 e2; subst e1; exact ⟨ob.slots, ho, fun _ => rfl⟩
      · exact st.keep a ob' l e
    · exact upd_none (delS e).1 (st.disB a y (delS e).2)
    · refine Mine.hideG fun GG back => ?_
      obtain ⟨e1, e2, e3⟩ := st.pl a q
      refine back ?_
      clear back
      have hne : a ≠ p := fun z => by rw [z, hx] at e1; cases e1
      exact ⟨by unfold delA; rw [if_neg hne]; exact e1, upd_none hne e2, e3⟩
    · refine Mine.hideG fun GG back => ?_
      obtain ⟨k1, L, ob', k2, k3, k4, k5⟩ := st.frames.1 e he
      refine back ?_
      clear back
      exact ⟨k1, L, ob', k2, upd_fresh hB k3, k4, k5⟩
  refine wpAny_mono (h _ s st') (fun v s' ⟨m', H', st2, q⟩ => ?_) fun _ _ e => e
  have hn : H' p = none := by
    cases e : H' p with
    | none => rfl
    | some y => have := st2.disB p y e; rw [upd_same] at this; cases this
  have np : ∀ {a}, upd B p (ob, false) a = none → a ≠ p ∧ B a = none := fun {a} e => by
    by_cases q : a = p
    · rw [q, upd_same] at e; cases e
    · refine ⟨q, ?_⟩
      unfold upd at e
      rw [if_neg q] at e; exact e
  refine ⟨m', upd H' p x, ⟨st2.base, fun a ob' l e => st2.keep a ob' l (upd_fresh hB e), fun a y e => ?_, fun a y e => ?_, fun a y e => ?_, fun a z => ?_, st2.nodup, st2.cell, st2.var, st.frames, st2.gens, st2.os, st2.tk⟩, q hn⟩
  · rcases upd_some e with ⟨rfl, rfl⟩ | ⟨ne, e⟩
    · refine Mine.hideG fun GG back => ?_
      obtain ⟨sl, e1, e2⟩ := st2.keep a ob false upd_same
      refine back ?_
      clear back
      rw [e2 rfl] at e1
      exact ⟨ob, e1, hI⟩
    · exact st2.own a y e
  · rcases upd_some e with ⟨rfl, rfl⟩ | ⟨ne, e⟩
    · exact hB
    · exact (np (st2.disB a y e)).2
  · rcases upd_some e with ⟨rfl, rfl⟩ | ⟨ne, e⟩
    · exact hbase
    · exact st2.disBase a y e
  · refine Mine.hideG fun GG back => ?_
    obtain ⟨e1, e2, e3⟩ := st2.pl a z
    refine back ?_
    clear back
    exact ⟨upd_none (np e2).1 e1, (np e2).2, e3⟩
end Mine
namespace Mine
theorem good_law {l : OpenLaw} {cl : Str → Option Addr} {mean : ExcName → Option Value} {args : List WData} {s₁ s' : Shared} {v : Value} (hv : v = .bool true) (hk : ∀ b o, s₁.heap.get? b = some o → s'.heap.get? b = some o) (hos : s'.os = s₁.os) (hg : s'.gens = #[]) :
    GoodW l.row.toRowW.claim cl mean args s₁ (.ok (.ret v)) s' := by
  subst hv
  exact ⟨.inl ⟨.bool true, .bool true, [], rfl, fun _ => rfl, .bool true, by show (WShape.has [] (.bool true) .bool && WTm.holds [] (.eq .res (.lit (.bool true))) { args := args, res := some (.bool true), after := args }) = true; (simp [WShape.has, WShape.arms, WTm.holds, WTm.value]; rw [show same (WData.bool true) (WData.bool true) = true by decide +kernel]), fun _ => ⟨List.nodup_nil, fun _ h => by cases h⟩⟩, hk, hos, hg⟩
theorem top_join {c : Cx} {name : Str} {scope : Scope} {fa : Addr} {cd : Value} {body : List Stmt} {mv : Str → Option Value} {s : Shared} {m : Loc}
    (hk : scope.kind = .function) (F : Fr c.base c.base.objs.size s.heap mv) (hg : s.gens = #[]) (hos : s.os = c.os) (ht : 1 ≤ s.toks)
    (hm : ∀ x v, m x = some v → scope.names.lookup x = some .local ∧ ∃ u, mv x = some u ∧ er u = v)
    (h : ∀ k : Wk, k.c = c → k.env = envOf name scope c.base.objs.size fa cd → k.A = callerA.deeper k.env → W k (execs body k.env) m (fun _ => none) (fun fl _ _ => flowV fl = .bool true)) :
    wpAny (model c.prog c.w) (callerA.deeper (envOf name scope c.base.objs.size fa cd)) (execs body (envOf name scope c.base.objs.size fa cd)) (fun f s' => flowV f = .bool true ∧ c.base.StaysIn s'.heap ∧ s'.os = c.os ∧ s'.gens = #[]) (fun _ _ => False) s := by
  let env := envOf name scope c.base.objs.size fa cd
  have hout : outerOf env [] = [env] := if_pos rfl
  let k : Wk := {
    c := c, A := callerA.deeper env, o := ⟨[], fun _ => none⟩, env := env, E := fun _ _ => False, X := fun _ _ _ _ => False, here := False,
    pass := PassesOwn.never, fly := fun _ _ _ _ _ _ _ _ _ h => h, made := fun h => h.elim, kind := hk, glob := rfl, blt := rfl,
    frames := by show callerA.frames.map _ = some (outerOf env []); rw [hout]; rfl, fat := .inl rfl }
  refine wpAny_mono (h k rfl rfl rfl (fun _ => none) s ?_) (fun v s' ⟨m', H', st, q⟩ => ⟨q, st.base, st.os, st.gens⟩) fun _ _ x => x
  refine ⟨F.keep, fun a ob l e => (by cases e), fun a x e => (by cases e), fun a x e => (by cases e), fun a x e => (by cases e), fun a q => ?_, (by show [env.locals].Nodup; simp), fun a q => (by cases q), ⟨mv, F.ns, fun x v e => ?_⟩, ⟨fun e he => (by cases he), fun a x e => (by cases e)⟩, hg, hos, ht⟩
  · have : a = c.base.objs.size := List.mem_singleton.mp q
    subst this
    exact ⟨rfl, rfl, Nat.le_refl _⟩
  · obtain ⟨h1, u, h2, h3⟩ := hm x v e
    have : env.kindOf x = some .local := h1
    rw [this]
    exact ⟨u, h2, h3⟩
end Mine
namespace Mine
theorem fnAt_K {c : Cx} {f : Addr} {st : Stmt} {name qual : Str} {doc pm cdv ct oc dV kV : Value} {an od : Option Addr} {osl : Array (Option Value)} (ho : c.K.lookup f = some ⟨oc, od, .func (fnOf name qual (fnParams st) (fnBody st) (fnScope st) dV kV doc pm an cdv ct), osl⟩)
    (hcd : codeIn c.K cdv qual = true) (hk : (fnScope st).kind = .function) (hc : (fnScope st).isCoroutine = false) (hg : (fnScope st).isGenerator = false) (hn : ((fnScope st).names.map (·.1)).Nodup) : FnAt c f (fnOf name qual (fnParams st) (fnBody st) (fnScope st) dV kV doc pm an cdv ct) (fnBody st) where
  obj := ⟨_, c.inK _ _ ho, rfl⟩
  code := codeRec_of c.inK hcd
  body := rfl
  kind := hk
  co := hc
  gen := hg
  glob := rfl
  blt := rfl
  clo := rfl
  names := hn
theorem defAt_K {c : Cx} {f : Addr} {st : Stmt} {name qual : Str} {doc pm cdv ct oc : Value} {an od : Option Addr} {osl : Array (Option Value)} (ho : c.K.lookup f = some ⟨oc, od, .func (fnOf name qual (fnParams st) (fnBody st) (fnScope st) .none .none doc pm an cdv ct), osl⟩)
    (hcd : codeIn c.K cdv qual = true) (hk : (fnScope st).kind = .function) (hc : (fnScope st).isCoroutine = false) (hg : (fnScope st).isGenerator = false) (hn : ((fnScope st).names.map (·.1)).Nodup) : DefAt c f st :=
  ⟨⟨_, fnAt_K ho hcd hk hc hg hn, rfl, rfl, rfl, rfl⟩⟩
theorem ns_at {K : Frag} {h : Heap} {N : Addr} {mk : Str → Option Value} {n : Str} {v : Value} (X : K.In h) (G : h.Ns N mk) (e : nsIn K N n = some (some v)) : mk n = some v := by
  refine Mine.hideG fun GG back => ?_
  obtain ⟨o, es, ep, ho, hd, _, hf⟩ := G
  refine back ?_
  clear back
  unfold nsIn at e
  split at e
  · rename_i cc d es' n' sl q
    have q' := X _ _ q
    rw [ho] at q'
    cases q'
    cases hd
    split at e
    · rename_i en he
      cases e
      rw [← hf]
      unfold nsFind findBy
      rw [← Array.find?_toList, he]
      rfl
    · split at e <;> cases e
  · cases e
theorem gl_K {c : Cx} {x : Str} {v : Value} (e : nsIn c.K mainGlobals x = some (some v)) : Gl c x v := .inl (mg_of c.inK c.top.g e)
theorem gl_B {c : Cx} {x : Str} {v : Value} (e : nsIn c.K mainGlobals x = some none) (hv : bootBuiltins x = some v) (hn : x ≠ "__name__") : Gl c x v := .inr ⟨mg_none_of c.inK c.top.g e, (c.top.builtins x hn).trans hv⟩
theorem intsAre_er : ∀ {vals : List Value} {ns : List Int}, IntsAre vals ns → vals.map er = ns.map .int := fun {vals ns} h => by
  induction h with
  | nil => rfl
  | cons h => simp [er]; assumption
theorem fin_join {l : OpenLaw} {w : World} {s₀ s₁ : Shared} {mg mb : Str → Option Value} {p : Program} {loose : List Str} {mean : ExcName → Option Value} {K : Frag} {sa fa : Addr} {vals : List Value} {ns : List Int} {h₁ : Heap} {name : Str} {scope : Scope} {cd : Value} {body : List Stmt} {args : List WData} {E : Value → Shared → Prop} {s : Shared}
    (kX : K.In s₁.heap) (kT : Top p loose mean mg mb s₁.heap) (kg : s₁.gens = #[]) (kL : s₁.heap.IsList sa vals.toArray) (kI : IntsAre vals ns) (kF : Fr s₁.heap s₁.heap.objs.size h₁ (fun x => List.lookup x ([("script", Value.ref sa)] : List (Str × Value)).reverse))
    (hk : scope.kind = .function) (hsc : scope.names.lookup (Str.ofString "script") = some NameKind.local) (hh : s.heap = h₁) (hg : s.gens = s₁.gens) (hos : s.os = s₁.os) (htk : 1 ≤ s.toks)
    (hw : ∀ c : Cx, c.prog = l.row.toRowW.prog → c.K = K → c.w = w → c.p = p → c.base = s₁.heap → BaseL c sa (ns.map .int) → ∀ k : Wk, k.c = c → k.env = envOf name scope s₁.heap.objs.size fa cd → k.A = callerA.deeper k.env → W k (execs body k.env) (setL noLoc "script" (.ref sa)) (fun _ => none) fun fl _ _ => flowV fl = .bool true) :
    wpAny (model l.row.toRowW.prog w) (callerA.deeper (envOf name scope s₁.heap.objs.size fa cd)) (execs body (envOf name scope s₁.heap.objs.size fa cd))
      (fun f s' => GoodW l.row.toRowW.claim (classAt s₀.heap) (ExcName.means s₀.heap) args s₁ (.ok (.ret (match f with | .ret v => v | _ => .none))) s') E s := by
  let c : Cx := ⟨l.row.toRowW.prog, w, s₁.heap, K, p, loose, mean, mg, mb, s₁.os, kX, kT⟩
  have hB : BaseL c sa (ns.map .int) := ⟨vals, kL, intsAre_er kI⟩
  refine wpAny_mono (top_join (c := c) (m := setL noLoc "script" (.ref sa)) hk (by rw [hh]; exact kF) (hg.trans kg) hos htk (fun x v e => ?_) (fun k h1 h2 h3 => hw c rfl rfl rfl rfl rfl hB k h1 h2 h3)) (fun f s' q => ?_) fun _ _ x => x.elim
  · unfold setL at e
    split at e
    · rename_i q
      subst q
      cases e
      exact ⟨hsc, .ref sa, rfl, rfl⟩
    · cases e
  · refine Mine.hideG fun GG back => ?_
    obtain ⟨q1, q2, q3, q4⟩ := q
    refine back ?_
    clear back
    refine good_law ?_ q2 q3 q4
    cases f with
    | ret v => exact er_bool q1
    | _ => cases q1
end Mine
namespace Mine
/-! the plan of boxes, and where a walk by keys ends -/
inductive Row where
  | d (kvs : List (Str × Nat))
  | l (xs : List Nat)
  | t (xs : List Nat)
noncomputable def isDAt (plan : List Row) (k : Nat) : Bool := match plan[k]? with
  | some (.d _) => true
  | _ => false
noncomputable def stepTo (plan : List Row) (loose : Bool) (j : Nat) : Option Nat := if loose then match plan[j]? with
    | some (.l xs) => xs.getLast?
    | _ => some j
  else some j
inductive End where
  | at (k : Nat) (rest : List Str)
  | no (msg : Str)
noncomputable def endOf (plan : List Row) (loose : Bool) : List Str → Nat → End
  | [], k => .at k []
  | x :: r, k => match plan[k]? with
    | some (.d kvs) => match kvs.lookup x with
      | none => .at k (x :: r)
      | some j => match stepTo plan loose j with
        | none => .no "IndexError"
        | some j' => if isDAt plan j' = true then endOf plan loose r j' else .no nestMsg
    | _ => .no nestMsg
noncomputable def rowD (kvs : List (Str × Nat)) : List (Key × V) := kvs.map fun p => (.inr p.1, .int (p.2 : Int))
noncomputable def rowL (xs : List Nat) : List V := xs.map fun (j : Nat) => V.int (j : Int)
noncomputable def RowAt (H : AHeap) (a : Addr) : Row → Prop
  | .d kvs => ∃ ep, H a = some (.dict (rowD kvs) ep)
  | .l xs => H a = some (.list (rowL xs))
  | .t xs => H a = some (.tup (rowL xs))
noncomputable def Row.refs : Row → List Nat
  | .d kvs => kvs.map (·.2)
  | .l xs => xs
  | .t xs => xs
structure PlanOK (plan : List Row) : Prop where
  closed : ∀ (i : Nat) (r : Row), plan[i]? = some r → ∀ j ∈ r.refs, j < plan.length
  size : plan.length ≤ 4000
  small : ∀ (i : Nat) (r : Row), plan[i]? = some r → r.refs.length ≤ 4000
structure PlanAt (H : AHeap) (pa : Addr) (ra : List Addr) (plan : List Row) : Prop where
  list : H pa = some (.list (ra.map .ref))
  len : ra.length = plan.length
  row : ∀ (i : Nat) (r : Row), plan[i]? = some r → ∃ a, ra[i]? = some a ∧ RowAt H a r
theorem RowAt.ext {H H' : AHeap} {a : Addr} {r : Row} (h : Ext H H') (x : RowAt H a r) : RowAt H' a r := by
  cases r with
  | d kvs => obtain ⟨ep, e⟩ := x; exact ⟨ep, h a _ e⟩
  | l xs => exact h a _ x
  | t xs => exact h a _ x
theorem PlanAt.ext {H H' : AHeap} {pa : Addr} {ra : List Addr} {plan : List Row} (h : Ext H H') (x : PlanAt H pa ra plan) : PlanAt H' pa ra plan :=
  ⟨h pa _ x.list, x.len, fun i r e => by obtain ⟨a, e1, e2⟩ := x.row i r e; exact ⟨a, e1, e2.ext h⟩⟩
noncomputable def EndV (H : AHeap) (v : V) : End → Prop
  | .at k rest => ∃ a t, ∃ l : List (Str × Tok), v = .ref a ∧ H a = some (.list [.int k, .ref t]) ∧ H t = some (.tup (l.map fun p => .str p.1 p.2)) ∧ l.map (·.1) = rest
  | .no msg => ∃ t, v = .str msg t
theorem EndV.ext {H H' : AHeap} {v : V} {e : End} (h : Ext H H') (x : EndV H v e) : EndV H' v e := by
  cases e with
  | «at» k rest => obtain ⟨a, t, l, e1, e2, e3, e4⟩ := x; exact ⟨a, t, l, e1, h a _ e2, h t _ e3, e4⟩
  | no msg => exact x
theorem EndV.put {H : AHeap} {D : Addr} {kvs : List (Key × V)} {ep : Nat} {y : AObj} {v : V} {e : End} (hD : H D = some (.dict kvs ep)) (x : EndV H v e) : EndV (upd H D y) v e := by
  cases e with
  | «at» k rest =>
    obtain ⟨a, t, l, e1, e2, e3, e4⟩ := x
    exact ⟨a, t, l, e1, upd_ne (fun q => by rw [q, hD] at e2; cases e2) e2, upd_ne (fun q => by rw [q, hD] at e3; cases e3) e3, e4⟩
  | no msg => exact x
theorem getK_row (kvs : List (Str × Nat)) (x : Str) : getK (rowD kvs) (.inr x) = (kvs.lookup x).map fun (j : Nat) => V.int (j : Int) := by
  induction kvs with
  | nil => rfl
  | cons p r ih =>
    obtain ⟨y, j⟩ := p
    show (if (Sum.inr y : Key) = Sum.inr x then some (V.int j) else getK (rowD r) (.inr x)) = _
    rw [ih, List.lookup_cons]
    by_cases h : y = x
    · subst h; simp
    · have h2 : (x == y) = false := by simpa using fun q => h q.symm
      rw [if_neg (by simpa using h), h2]
theorem getK_putK (kvs : List (Key × V)) (k k' : Key) (v : V) : getK (putK kvs k v) k' = if k = k' then some v else getK kvs k' := by
  induction kvs with
  | nil => simp [putK, getK]
  | cons p r ih =>
    obtain ⟨q, w⟩ := p
    unfold putK
    by_cases h : q = k
    · subst h
      rw [if_pos rfl]
      by_cases h2 : q = k' <;> simp [getK, h2]
    · rw [if_neg h]
      show (if q = k' then some w else getK (putK r k v) k') = if k = k' then some v else (if q = k' then some w else getK r k')
      rw [ih]
      by_cases h2 : q = k'
      · have : k ≠ k' := fun e => h (h2.trans e.symm)
        rw [if_pos h2, if_neg this, if_pos h2]
      · rw [if_neg h2, if_neg h2]
open Classical in
theorem keys_putK (kvs : List (Key × V)) (k : Key) (v : V) : (putK kvs k v).map (·.1) = if k ∈ kvs.map (·.1) then kvs.map (·.1) else kvs.map (·.1) ++ [k] := by
  induction kvs with
  | nil => simp [putK]
  | cons p r ih =>
    obtain ⟨q, w⟩ := p
    unfold putK
    by_cases h : q = k
    · subst h; simp
    · rw [if_neg h, List.map_cons, ih, List.map_cons]
      by_cases h2 : k ∈ r.map (·.1)
      · rw [if_pos h2, if_pos (List.mem_cons_of_mem _ h2)]
      · rw [if_neg h2, if_neg (by simp only [List.mem_cons, not_or]; exact ⟨fun e => h e.symm, h2⟩)]; rfl
theorem getK_mem (kvs : List (Key × V)) (k : Key) : (getK kvs k).isSome = true ↔ k ∈ kvs.map (·.1) := by
  induction kvs with
  | nil => simp [getK]
  | cons p r ih =>
    obtain ⟨q, w⟩ := p
    show (if q = k then some w else getK r k).isSome = true ↔ _
    by_cases h : q = k
    · simp [h]
    · rw [if_neg h, ih, List.map_cons, List.mem_cons]
      exact ⟨.inr, fun z => z.resolve_left fun e => h e.symm⟩
noncomputable def dRows (plan : List Row) : List Nat := (List.range plan.length).filter (isDAt plan)
theorem mem_dRows {plan : List Row} {k : Nat} : k ∈ dRows plan ↔ isDAt plan k = true := by
  unfold dRows
  rw [List.mem_filter, List.mem_range]
  refine ⟨fun h => h.2, fun h => ⟨?_, h⟩⟩
  unfold isDAt at h
  split at h
  · rename_i e; exact (List.getElem?_eq_some_iff.mp e).1
  · cases h
theorem dRows_nodup (plan : List Row) : (dRows plan).Nodup := List.nodup_range.filter _
theorem dRows_len (plan : List Row) : (dRows plan).length ≤ plan.length := by
  have := List.length_filter_le (isDAt plan) (List.range plan.length)
  rw [List.length_range] at this; exact this
structure EndsAt (H : AHeap) (D : Addr) (plan : List Row) (loose : Bool) (ks : List Str) (rows : List Nat) (kvs : List (Key × V)) (ep : Nat) : Prop where
  dict : H D = some (.dict kvs ep)
  keys : kvs.map (·.1) = rows.map fun (k : Nat) => (.inl (k : Int) : Key)
  vals : ∀ (k : Nat) v, getK kvs (.inl (k : Int)) = some v → EndV H v (endOf plan loose ks k)
theorem EndsAt.ext {H H' : AHeap} {D : Addr} {plan : List Row} {loose : Bool} {ks : List Str} {rows : List Nat} {kvs : List (Key × V)} {ep : Nat} (h : Ext H H') (x : EndsAt H D plan loose ks rows kvs ep) : EndsAt H' D plan loose ks rows kvs ep :=
  ⟨h D _ x.dict, x.keys, fun k v e => (x.vals k v e).ext h⟩
theorem EndsAt.get {H : AHeap} {D : Addr} {plan : List Row} {loose : Bool} {ks : List Str} {rows : List Nat} {kvs : List (Key × V)} {ep : Nat} (x : EndsAt H D plan loose ks rows kvs ep) {j : Nat} (h : j ∈ rows) : ∃ v, getK kvs (.inl (j : Int)) = some v ∧ EndV H v (endOf plan loose ks j) := by
  have h1 : (getK kvs (.inl (j : Int))).isSome = true := by rw [getK_mem, x.keys]; exact List.mem_map.mpr ⟨j, h, rfl⟩
  obtain ⟨v, hv⟩ := Option.isSome_iff_exists.mp h1
  exact ⟨v, hv, x.vals j v hv⟩
theorem EndsAt.lacks {H : AHeap} {D : Addr} {plan : List Row} {loose : Bool} {ks : List Str} {rows : List Nat} {kvs : List (Key × V)} {ep : Nat} (x : EndsAt H D plan loose ks rows kvs ep) {j : Nat} (h : j ∉ rows) : getK kvs (.inl (j : Int)) = none := by
  cases e : getK kvs (.inl (j : Int)) with
  | none => rfl
  | some v =>
    have h1 := (getK_mem kvs (.inl (j : Int))).mp (by rw [e]; rfl)
    rw [x.keys, List.mem_map] at h1
    obtain ⟨i, hi, q⟩ := h1
    have : i = j := Int.ofNat.inj (Sum.inl.inj q)
    exact absurd (this ▸ hi) h
theorem EndsAt.lacksS {H : AHeap} {D : Addr} {plan : List Row} {loose : Bool} {ks : List Str} {rows : List Nat} {kvs : List (Key × V)} {ep : Nat} (x : EndsAt H D plan loose ks rows kvs ep) {s : Str} : getK kvs (.inr s) = none := by
  cases e : getK kvs (.inr s) with
  | none => rfl
  | some v =>
    have h1 := (getK_mem kvs (.inr s)).mp (by rw [e]; rfl)
    rw [x.keys, List.mem_map] at h1
    obtain ⟨i, hi, q⟩ := h1
    cases q
theorem putK_putK (kvs : List (Key × V)) (k : Key) (v w : V) : putK (putK kvs k w) k v = putK kvs k v := by
  induction kvs with
  | nil => simp [putK]
  | cons p r ih =>
    obtain ⟨q, u⟩ := p
    by_cases h : q = k
    · subst h; simp [putK]
    · simp only [putK, if_neg h, ih]
theorem EndV.but {H H' : AHeap} {D : Addr} {kvs : List (Key × V)} {ep : Nat} {v : V} {e : End} (hD : H D = some (.dict kvs ep)) (h : ExtBut D H H') (x : EndV H v e) : EndV H' v e := by
  cases e with
  | «at» k rest =>
    obtain ⟨a, t, l, e1, e2, e3, e4⟩ := x
    exact ⟨a, t, l, e1, h a _ (fun q => by rw [q, hD] at e2; cases e2) e2, h t _ (fun q => by rw [q, hD] at e3; cases e3) e3, e4⟩
  | no msg => exact x
theorem EndsAt.but {H H' : AHeap} {D E : Addr} {plan : List Row} {loose : Bool} {ks : List Str} {rows : List Nat} {kvs kvs' : List (Key × V)} {ep ep' : Nat} (hD : H D = some (.dict kvs' ep')) (h : ExtBut D H H') (hne : E ≠ D) (x : EndsAt H E plan loose ks rows kvs ep) : EndsAt H' E plan loose ks rows kvs ep :=
  ⟨h E _ hne x.dict, x.keys, fun k v e => (x.vals k v e).but hD h⟩
theorem EndsAt.step {H H' : AHeap} {D : Addr} {plan : List Row} {loose : Bool} {ks : List Str} {rows : List Nat} {kvs : List (Key × V)} {ep ep' : Nat} {kk : Nat} {v : V} (x : EndsAt H D plan loose ks rows kvs ep) (hE : ExtBut D H H') (hk : kk ∉ rows) (hv : EndV H' v (endOf plan loose ks kk)) (hd : H' D = some (.dict (putK kvs (.inl (kk : Int)) v) ep')) :
    EndsAt H' D plan loose ks (rows ++ [kk]) (putK kvs (.inl (kk : Int)) v) ep' := by
  refine ⟨hd, ?_, fun k u e => ?_⟩
  · rw [keys_putK, x.keys, if_neg, List.map_append]
    · rfl
    · rw [List.mem_map]
      rintro ⟨i, hi, q⟩
      have : i = kk := Int.ofNat.inj (Sum.inl.inj q)
      exact hk (this ▸ hi)
  · rw [getK_putK] at e
    split at e
    · rename_i q
      have : kk = k := Int.ofNat.inj (Sum.inl.inj q)
      subst this; cases e; exact hv
    · exact (x.vals k u e).but x.dict hE
theorem endOf_cons {plan : List Row} {loose : Bool} {y : Str} {r : List Str} {k : Nat} {kr : List (Str × Nat)} (h : plan[k]? = some (.d kr)) : endOf plan loose (y :: r) k = match kr.lookup y with
      | none => .at k (y :: r)
      | some j => match stepTo plan loose j with
        | none => .no "IndexError"
        | some j' => if isDAt plan j' = true then endOf plan loose r j' else .no nestMsg := by
  show (match plan[k]? with
    | some (.d kvs) => match kvs.lookup y with
      | none => End.at k (y :: r)
      | some j => match stepTo plan loose j with
        | none => .no "IndexError"
        | some j' => if isDAt plan j' = true then endOf plan loose r j' else .no nestMsg
    | _ => .no nestMsg) = _
  rw [h]
noncomputable def dueOf (plan : List Row) (kind : Int) (keys : List Str) (i : Nat) : End :=
  if kind < 4 then endOf plan (decide (kind = 2)) keys i else match keys.getLast? with
    | none => .no "IndexError"
    | some z => match endOf plan true keys.dropLast i with
      | .at k [] => match plan[k]? with
        | some (.d kr) => match kr.lookup z with
          | some j => match plan[j]? with
            | some (.l _) => .at k []
            | _ => .no listMsg
          | none => .at k []
        | _ => .at k []
      | e => e
theorem endOf_isD {plan : List Row} {loose : Bool} : ∀ (ks : List Str) (i : Nat), isDAt plan i = true → ∀ k r, endOf plan loose ks i = .at k r → isDAt plan k = true
  | [], i, h, k, r, e => by cases e; exact h
  | x :: ks, i, h, k, r, e => by
    obtain ⟨kr, hkr⟩ : ∃ kr, plan[i]? = some (.d kr) := by
      unfold isDAt at h
      split at h
      · rename_i kr e; exact ⟨kr, e⟩
      · cases h
    rw [endOf_cons hkr] at e
    split at e
    · cases e; exact h
    · split at e
      · cases e
      · split at e
        · rename_i j' _ hj; exact endOf_isD ks j' hj k r e
        · cases e
theorem endOf_rest {plan : List Row} {loose : Bool} : ∀ (ks : List Str) (i : Nat) (k : Nat) (r : List Str), endOf plan loose ks i = .at k r → ∀ x ∈ r, x ∈ ks
  | [], i, k, r, e => by cases e; simp
  | x :: ks, i, k, r, e => by
    unfold endOf at e
    split at e
    · split at e
      · cases e; exact fun x h => h
      · split at e
        · cases e
        · split at e
          · rename_i j' _ hj; exact fun x h => List.mem_cons_of_mem _ (endOf_rest ks j' k r e x h)
          · cases e
    · cases e
end Mine
namespace Mine
noncomputable def del (S : Addr) (H : AHeap) : AHeap := fun b => if b = S then none else H b
theorem del_ext {S : Addr} {H H' : AHeap} (h : ExtBut S H H') : Ext (del S H) (del S H') := fun b y e => by
  unfold del at e ⊢
  split at e
  · cases e
  · rename_i n; rw [if_neg n]; exact h b y n e
theorem del_le {S : Addr} {H : AHeap} : Ext (del S H) H := fun b y e => by
  unfold del at e
  split at e
  · cases e
  · exact e
theorem del_at {S b : Addr} {H : AHeap} {y : AObj} (n : b ≠ S) (e : H b = some y) : del S H b = some y := by unfold del; rw [if_neg n]; exact e
/-! the boxes -/
noncomputable def boxD (bv : List V) (kvs : List (Str × Nat)) : List (Key × V) := kvs.map fun p => (.inr p.1, bv.getD p.2 .none)
noncomputable def boxL (bv : List V) (xs : List Nat) : List V := xs.map fun j => bv.getD j .none
noncomputable def BoxAt (H : AHeap) (bv : List V) (b : V) : Row → Prop
  | .d kvs => ∃ a ep, b = .ref a ∧ H a = some (.dict (boxD bv kvs) ep)
  | .l xs => ∃ a, b = .ref a ∧ H a = some (.list (boxL bv xs))
  | .t xs => (∃ a, b = .ref a ∧ H a = some (.tup (boxL bv xs))) ∨ (∃ t, 1 ≤ t ∧ b = .str "a" t ∧ xs = [])
structure BoxesAt (H : AHeap) (bv : List V) (plan : List Row) : Prop where
  len : bv.length = plan.length
  row : ∀ (i : Nat) (r : Row), plan[i]? = some r → ∃ b, bv[i]? = some b ∧ BoxAt H bv b r
  inj : ∀ (i j : Nat) (a : Addr), bv[i]? = some (.ref a) → bv[j]? = some (.ref a) → i = j
  str6 : ∀ (i : Nat) (x : Str) (t : Tok), bv[i]? = some (.str x t) → i = 6
  b6 : ∃ t, bv[6]? = some (.str "a" t)
  tup5 : ∀ (i : Nat) (xs : List Nat), plan[i]? = some (.t xs) → i = 5 ∨ i = 6
theorem BoxAt.ext {H H' : AHeap} {bv : List V} {b : V} {r : Row} (h : Ext H H') (x : BoxAt H bv b r) : BoxAt H' bv b r := by
  cases r with
  | d kvs => obtain ⟨a, ep, e1, e2⟩ := x; exact ⟨a, ep, e1, h a _ e2⟩
  | l xs => obtain ⟨a, e1, e2⟩ := x; exact ⟨a, e1, h a _ e2⟩
  | t xs =>
    rcases x with ⟨a, e1, e2⟩ | x
    · exact .inl ⟨a, e1, h a _ e2⟩
    · exact .inr x
theorem BoxesAt.ext {H H' : AHeap} {bv : List V} {plan : List Row} (h : Ext H H') (x : BoxesAt H bv plan) : BoxesAt H' bv plan :=
  ⟨x.len, fun i r e => by obtain ⟨b, e1, e2⟩ := x.row i r e; exact ⟨b, e1, e2.ext h⟩, x.inj, x.str6, x.b6, x.tup5⟩
theorem BoxesAt.is {H : AHeap} {bv : List V} {plan : List Row} (x : BoxesAt H bv plan) {i j : Nat} {u v : V} (hu : bv[i]? = some u) (hv : bv[j]? = some v) : isV H u v = some (decide (i = j)) := by
  have hi : i < plan.length := by rw [← x.len]; exact (List.getElem?_eq_some_iff.mp hu).1
  have hj : j < plan.length := by rw [← x.len]; exact (List.getElem?_eq_some_iff.mp hv).1
  obtain ⟨b, e1, hb⟩ := x.row i _ (List.getElem?_eq_getElem hi)
  obtain ⟨b', e2, hb'⟩ := x.row j _ (List.getElem?_eq_getElem hj)
  rw [hu] at e1; cases e1
  rw [hv] at e2; cases e2
  -- a thing is a place in the heap, or the text
  have kind : ∀ (i : Nat) (hi : i < plan.length) (u : V), bv[i]? = some u → BoxAt H bv u plan[i] → (∃ a y, u = .ref a ∧ H a = some y ∧ (isTupB (some y) = true → i = 5)) ∨ ∃ t, 1 ≤ t ∧ u = .str "a" t := fun i hi u hu hb => by
    generalize hr : plan[i] = r at hb
    have hr' : plan[i]? = some r := by rw [List.getElem?_eq_getElem hi, hr]
    cases r with
    | d kvs => obtain ⟨a, ep, rfl, e⟩ := hb; exact .inl ⟨a, _, rfl, e, fun q => by cases q⟩
    | l xs => obtain ⟨a, rfl, e⟩ := hb; exact .inl ⟨a, _, rfl, e, fun q => by cases q⟩
    | t xs =>
      rcases hb with ⟨a, rfl, e⟩ | ⟨t, h1, rfl, _⟩
      · refine .inl ⟨a, _, rfl, e, fun _ => ?_⟩
        rcases x.tup5 i xs hr' with h | h
        · exact h
        · subst h
          obtain ⟨t, ht⟩ := x.b6
          rw [ht] at hu; cases hu
      · exact .inr ⟨t, h1, rfl⟩
  rcases kind i hi u hu hb with ⟨a, y, rfl, ha, ty⟩ | ⟨t, h1, rfl⟩ <;> rcases kind j hj v hv hb' with ⟨a', y', rfl, ha', ty'⟩ | ⟨t', h1', rfl⟩
  · by_cases h : a = a'
    · subst h
      have := x.inj i j a hu hv
      simp [isV, this]
    · have hne : i ≠ j := fun q => by subst q; rw [hu] at hv; exact h (V.ref.inj (Option.some.inj hv))
      simp only [isV, if_neg h, ha, ha']
      by_cases h1 : isTupB (some y) = true
      · by_cases h2 : isTupB (some y') = true
        · exact absurd ((ty h1).trans (ty' h2).symm) hne
        · simp [h2, hne]
      · simp [h1, hne]
  · have hne : i ≠ j := fun q => by subst q; rw [hu] at hv; cases hv
    simp [isV, hne]
  · have hne : i ≠ j := fun q => by subst q; rw [hu] at hv; cases hv
    simp [isV, hne]
  · have e1 := x.str6 i _ _ hu
    have e2 := x.str6 j _ _ hv
    subst e1; subst e2
    rw [hu] at hv
    cases hv
    have : t ≠ 0 := fun q => by rw [q] at h1; exact absurd h1 (by decide)
    simp [isV, this]
noncomputable def rowSeen : Row → PyData
  | .d kvs => .list (kvs.map fun p => .tuple [.str p.1, .list [.int (p.2 : Int)]])
  | .l xs => .list (xs.map fun (j : Nat) => .list [.int (j : Int)])
  | .t xs => .list (xs.map fun (j : Nat) => .list [.int (j : Int)])
end Mine
namespace Mine
theorem getD_append {bv more : List V} {j : Nat} (h : j < bv.length) : (bv ++ more).getD j .none = bv.getD j .none := by
  rw [List.getD_eq_getElem?_getD, List.getD_eq_getElem?_getD, List.getElem?_append_left h]
theorem boxD_append {bv more : List V} {kvs : List (Str × Nat)} (h : ∀ j ∈ kvs.map (·.2), j < bv.length) : boxD (bv ++ more) kvs = boxD bv kvs := by
  unfold boxD
  refine List.map_congr_left fun p hp => ?_
  rw [getD_append (h p.2 (List.mem_map_of_mem hp))]
theorem boxL_append {bv more : List V} {xs : List Nat} (h : ∀ j ∈ xs, j < bv.length) : boxL (bv ++ more) xs = boxL bv xs := by
  unfold boxL
  exact List.map_congr_left fun p hp => getD_append (h p hp)
theorem BoxAt.append {H : AHeap} {bv more : List V} {b : V} {r : Row} (h : ∀ j ∈ r.refs, j < bv.length) (x : BoxAt H bv b r) : BoxAt H (bv ++ more) b r := by
  cases r with
  | d kvs => obtain ⟨a, ep, e1, e2⟩ := x; exact ⟨a, ep, e1, by rw [boxD_append h]; exact e2⟩
  | l xs => obtain ⟨a, e1, e2⟩ := x; exact ⟨a, e1, by rw [boxL_append (xs := xs) h]; exact e2⟩
  | t xs =>
    rcases x with ⟨a, e1, e2⟩ | x
    · exact .inl ⟨a, e1, by rw [boxL_append (xs := xs) h]; exact e2⟩
    · exact .inr x
theorem BoxAt.heap {H H' : AHeap} {bv : List V} {b : V} {r : Row} (h : ∀ a y, b = .ref a → H a = some y → H' a = some y) (x : BoxAt H bv b r) : BoxAt H' bv b r := by
  cases r with
  | d kvs => obtain ⟨a, ep, e1, e2⟩ := x; exact ⟨a, ep, e1, h a _ e1 e2⟩
  | l xs => obtain ⟨a, e1, e2⟩ := x; exact ⟨a, e1, h a _ e1 e2⟩
  | t xs =>
    rcases x with ⟨a, e1, e2⟩ | x
    · exact .inl ⟨a, e1, h a _ e1 e2⟩
    · exact .inr x
noncomputable def Closed (plan : List Row) : Prop := ∀ (i : Nat) (r : Row), plan[i]? = some r → ∀ j ∈ r.refs, j < plan.length
theorem BoxesAt.change {H H' : AHeap} {bv more : List V} {plan plan' : List Row} (X : BoxesAt H bv plan) (hP : Closed plan) (hlen : plan'.length = plan.length + more.length)
    (hrow : ∀ (i : Nat) (r : Row), plan'[i]? = some r → (plan[i]? = some r ∧ ∀ a y, bv[i]? = some (.ref a) → H a = some y → H' a = some y) ∨ ∃ b, (bv ++ more)[i]? = some b ∧ BoxAt H' (bv ++ more) b r)
    (hmore : ∀ v ∈ more, ∃ a, v = .ref a ∧ V.ref a ∉ bv) (hnd : more.Nodup) (htup : ∀ (i : Nat) (xs : List Nat), plan'[i]? = some (.t xs) → plan[i]? = some (.t xs)) : BoxesAt H' (bv ++ more) plan' where
  len := by rw [List.length_append, X.len, hlen]
  row := fun i r e => by
    rcases hrow i r e with ⟨e1, e2⟩ | h
    · obtain ⟨b, hb, hbx⟩ := X.row i r e1
      refine ⟨b, by rw [List.getElem?_append_left (List.getElem?_eq_some_iff.mp hb).1]; exact hb, ?_⟩
      exact (hbx.heap fun a y q ha => e2 a y (by rw [hb, q]) ha).append fun j hj => by rw [X.len]; exact hP i r e1 j hj
    · exact h
  inj := fun i j a h1 h2 => by
    rw [List.getElem?_append] at h1 h2
    split at h1 <;> split at h2
    · exact X.inj i j a h1 h2
    · obtain ⟨b, e, hb⟩ := hmore _ (List.mem_of_getElem? h2)
      cases e; exact absurd (List.mem_of_getElem? h1) hb
    · obtain ⟨b, e, hb⟩ := hmore _ (List.mem_of_getElem? h1)
      cases e; exact absurd (List.mem_of_getElem? h2) hb
    · have h3 := (List.getElem?_inj (List.getElem?_eq_some_iff.mp h1).1 hnd).mp (h1.trans h2.symm)
      lia
  str6 := fun i x t h => by
    rw [List.getElem?_append] at h
    split at h
    · exact X.str6 i x t h
    · obtain ⟨b, e, _⟩ := hmore _ (List.mem_of_getElem? h)
      cases e
  b6 := by
    obtain ⟨t, ht⟩ := X.b6
    exact ⟨t, by rw [List.getElem?_append_left (List.getElem?_eq_some_iff.mp ht).1]; exact ht⟩
  tup5 := fun i xs h => X.tup5 i xs (htup i xs h)
noncomputable def grow : List Row → Nat → List Str → List Row × Nat
  | plan, k, [] => (plan, k)
  | plan, k, x :: r => match plan[k]? with
    | some (.d kvs) => grow (plan.set k (.d (kvs ++ [(x, plan.length)])) ++ [.d []]) plan.length r
    | _ => (plan, k)
noncomputable def ExtB (bv : List V) (H H' : AHeap) : Prop := ∀ b y, H b = some y → V.ref b ∉ bv → H' b = some y
theorem boxD_len (bv : List V) (kvs : List (Str × Nat)) : (boxD bv kvs).length = kvs.length := by simp [boxD]
theorem getK_boxD (bv : List V) (kvs : List (Str × Nat)) (x : Str) : getK (boxD bv kvs) (.inr x) = (kvs.lookup x).map fun j => bv.getD j .none := by
  induction kvs with
  | nil => rfl
  | cons p r ih =>
    obtain ⟨y, j⟩ := p
    show (if (Sum.inr y : Key) = Sum.inr x then some (bv.getD j .none) else getK (boxD bv r) (.inr x)) = _
    rw [ih, List.lookup_cons]
    by_cases h : y = x
    · subst h; simp
    · have h2 : (x == y) = false := by simpa using fun q => h q.symm
      rw [if_neg (by simpa using h), h2]
theorem Closed.grow1 {plan : List Row} {k : Nat} {kvs : List (Str × Nat)} {x : Str} (hP : Closed plan) (hk : plan[k]? = some (.d kvs)) : Closed (plan.set k (.d (kvs ++ [(x, plan.length)])) ++ [.d []]) := fun i r e j hj => by
  rw [List.length_append, List.length_set, List.length_singleton]
  rw [List.getElem?_append] at e
  split at e
  · rw [List.getElem?_set] at e
    split at e
    · split at e
      · cases e
        simp only [Row.refs, List.map_append, List.mem_append, List.map_cons, List.map_nil, List.mem_singleton] at hj
        rcases hj with hj | rfl
        · have := hP k _ hk j hj; lia
        · lia
      · cases e
    · have := hP i r e j hj; lia
  · rename_i hlt
    rw [List.length_set] at e
    cases hi : i - plan.length with
    | zero => rw [hi] at e; cases e; simp [Row.refs] at hj
    | succ n => rw [hi] at e; simp at e
theorem get_set {plan : List Row} {k i : Nat} {r : Row} (h : k < plan.length) : (plan.set k r)[i]? = if k = i then some r else plan[i]? := by
  rw [List.getElem?_set]
  by_cases e : k = i
  · subst e; simp [h]
  · simp [e]
theorem BoxesAt.grow1 {H : AHeap} {bv : List V} {plan : List Row} {k : Nat} {kvs : List (Str × Nat)} {x : Str} {cont d : Addr} {ep : Nat} (X : BoxesAt H bv plan) (hP : Closed plan) (hk : plan[k]? = some (.d kvs)) (hb : bv[k]? = some (.ref cont)) (hc : H cont = some (.dict (boxD bv kvs) ep)) (hd : H d = none) :
    BoxesAt (upd (upd H d (.dict [] 0)) cont (.dict (boxD bv kvs ++ [(.inr x, .ref d)]) (ep + 1))) (bv ++ [.ref d]) (plan.set k (.d (kvs ++ [(x, plan.length)])) ++ [.d []]) := by
  have hcd : cont ≠ d := fun q => by rw [q, hd] at hc; cases hc
  have hkl : k < plan.length := (List.getElem?_eq_some_iff.mp hk).1
  have hnb : V.ref d ∉ bv := fun q => by
    obtain ⟨i, hi⟩ := List.mem_iff_getElem?.mp q
    have hil : i < plan.length := by rw [← X.len]; exact (List.getElem?_eq_some_iff.mp hi).1
    obtain ⟨b, e1, e2⟩ := X.row i _ (List.getElem?_eq_getElem hil)
    rw [hi] at e1; cases e1
    generalize plan[i] = r at e2
    cases r with
    | d kvs => obtain ⟨a, ep, e3, e4⟩ := e2; cases e3; rw [hd] at e4; cases e4
    | l xs => obtain ⟨a, e3, e4⟩ := e2; cases e3; rw [hd] at e4; cases e4
    | t xs =>
      rcases e2 with ⟨a, e3, e4⟩ | ⟨t, _, e3, _⟩
      · cases e3; rw [hd] at e4; cases e4
      · cases e3
  have hgd : (bv ++ [V.ref d]).getD plan.length .none = .ref d := by
    rw [List.getD_eq_getElem?_getD, ← X.len]; simp
  refine X.change hP (by simp) (fun i r e => ?_) (fun v hv => ⟨d, by simpa using hv, hnb⟩) (by simp) (fun i xs e => ?_)
  · rw [List.getElem?_append] at e
    split at e
    · rename_i hlt
      rw [List.length_set] at hlt
      rw [get_set hkl] at e
      split at e
      · rename_i hki
        subst hki
        cases e
        refine .inr ⟨.ref cont, by rw [List.getElem?_append_left (by rw [X.len]; exact hkl)]; exact hb, cont, ep + 1, rfl, ?_⟩
        rw [upd_same]
        congr 2
        unfold boxD
        rw [List.map_append]
        simp only [List.map_cons, List.map_nil, hgd]
        congr 1
        exact (boxD_append (bv := bv) (more := [.ref d]) (kvs := kvs) fun j hj => by rw [X.len]; exact hP k _ hk j hj).symm
      · rename_i hki
        refine .inl ⟨e, fun a y h1 h2 => ?_⟩
        have hac : a ≠ cont := fun q => hki (X.inj k i cont hb (by rw [← q]; exact h1))
        exact upd_ne hac (upd_fresh hd h2)
    · rename_i hlt
      rw [List.length_set] at hlt e
      cases hi : i - plan.length with
      | zero =>
        rw [hi] at e
        cases e
        have : i = plan.length := by lia
        subst this
        refine .inr ⟨.ref d, by rw [← X.len]; simp, d, 0, rfl, upd_ne (Ne.symm hcd) upd_same⟩
      | succ n => rw [hi] at e; simp at e
  · rw [List.getElem?_append] at e
    split at e
    · rw [get_set hkl] at e
      split at e
      · cases e
      · exact e
    · rename_i hlt
      rw [List.length_set] at e
      cases hi : i - plan.length with
      | zero => rw [hi] at e; cases e
      | succ n => rw [hi] at e; simp at e
end Mine
namespace Mine
structure Grown (bv : List V) (H : AHeap) (bv' : List V) (H' : AHeap) : Prop where
  pre : bv <+: bv'
  keep : ExtB bv H H'
  new : ∀ a, V.ref a ∈ bv' → V.ref a ∈ bv ∨ H a = none
theorem Grown.refl (bv : List V) (H : AHeap) : Grown bv H bv H := ⟨List.prefix_refl _, fun _ _ e _ => e, fun _ h => .inl h⟩
theorem Grown.trans {bv bv' bv'' : List V} {H H' H'' : AHeap} (h : Grown bv H bv' H') (h' : Grown bv' H' bv'' H'') : Grown bv H bv'' H'' := by
  refine ⟨h.pre.trans h'.pre, fun b y e n => h'.keep b y (h.keep b y e n) fun q => ?_, fun a q => ?_⟩
  · rcases h.new b q with q | q
    · exact n q
    · rw [q] at e; cases e
  · rcases h'.new a q with q | q
    · exact h.new a q
    · by_cases hn : V.ref a ∈ bv
      · exact .inl hn
      · refine .inr ?_
        cases e : H a with
        | none => rfl
        | some y => rw [h.keep a y e hn] at q; cases q
theorem grow_cons {plan : List Row} {k : Nat} {x : Str} {r : List Str} {kvs : List (Str × Nat)} (h : plan[k]? = some (.d kvs)) : grow plan k (x :: r) = grow (plan.set k (.d (kvs ++ [(x, plan.length)])) ++ [.d []]) plan.length r := by
  simp only [grow, h]
theorem BoxesAt.dict {H : AHeap} {bv : List V} {plan : List Row} (X : BoxesAt H bv plan) {k : Nat} {kvs : List (Str × Nat)} {cont : Addr} (hk : plan[k]? = some (.d kvs)) (hb : bv[k]? = some (.ref cont)) : ∃ ep, H cont = some (.dict (boxD bv kvs) ep) := by
  obtain ⟨b, e1, a, ep, e2, e3⟩ := X.row k _ hk
  rw [hb] at e1; cases e1; cases e2
  exact ⟨ep, e3⟩
theorem gw_at {acc : Bool} {Q : Addr → AHeap → Prop} {X : String → Option (List V) → AHeap → Prop} : ∀ (rest : List Str) (plan : List Row) (bv : List V) (H : AHeap) (k : Nat) (kvs : List (Str × Nat)) (cont : Addr), BoxesAt H bv plan → Closed plan → plan[k]? = some (.d kvs) → bv[k]? = some (.ref cont) → kvs.length < sizeLine →
    (∀ x r, rest = x :: r → kvs.lookup x = none) →
    (∀ H' bv' a, BoxesAt H' bv' (grow plan k rest).1 → Grown bv H bv' H' → bv'[(grow plan k rest).2]? = some (.ref a) → Q a H') → Gw acc Q X rest cont H
  | [], plan, bv, H, k, kvs, cont, XB, hP, hk, hb, hl, hn, h => h H bv cont XB (Grown.refl _ _) hb
  | x :: r, plan, bv, H, k, kvs, cont, XB, hP, hk, hb, hl, hn, h => by
    obtain ⟨ep, hc⟩ := XB.dict hk hb
    refine ⟨boxD bv kvs, ep, hc, by rw [boxD_len]; exact hl, ?_⟩
    rw [getK_boxD, hn x r rfl]
    intro d hd
    have hkl : k < plan.length := (List.getElem?_eq_some_iff.mp hk).1
    have X1 := XB.grow1 (x := x) hP hk hb hc hd
    refine gw_at r _ (bv ++ [.ref d]) _ plan.length [] d X1 (hP.grow1 hk) (by simp) (by rw [← XB.len]; simp) (by decide) (fun _ _ _ => rfl) fun H' bv' a h1 h2 h4 => ?_
    rw [grow_cons hk] at h
    refine h H' bv' a h1 (Grown.trans ⟨List.prefix_append _ _, fun b y e hbn => ?_, fun b q => ?_⟩ h2) h4
    · have hbd : b ≠ d := fun q => by rw [q, hd] at e; cases e
      have hbc : b ≠ cont := fun q => hbn (by rw [q]; exact List.mem_of_getElem? hb)
      exact upd_ne hbc (upd_ne hbd e)
    · rcases List.mem_append.mp q with q | q
      · exact .inl q
      · exact .inr (by rw [V.ref.inj (List.mem_singleton.mp q)]; exact hd)
noncomputable def NoEnd (X : String → Option (List V) → AHeap → Prop) (msg : Str) (H : AHeap) : Prop := if msg = "IndexError" then X "IndexError" none H else ∀ t, X "KeyError" (some [.str msg t]) H
theorem tyOf_boxes {H : AHeap} {bv : List V} {plan : List Row} (XB : BoxesAt H bv plan) {j : Nat} {v : V} (hv : bv[j]? = some v) : ∃ r, plan[j]? = some r ∧ BoxAt H bv v r := by
  have hj : j < plan.length := by rw [← XB.len]; exact (List.getElem?_eq_some_iff.mp hv).1
  obtain ⟨b, e1, e2⟩ := XB.row j _ (List.getElem?_eq_getElem hj)
  rw [hv] at e1; cases e1
  exact ⟨_, List.getElem?_eq_getElem hj, e2⟩
theorem tyOf_box0 {H : AHeap} {bv : List V} {b : V} {r : Row} (h : BoxAt H bv b r) : tyOf H b ≠ none := by
  cases r with
  | d kvs => obtain ⟨a, ep, rfl, e⟩ := h; simp [tyOf, e]
  | l xs => obtain ⟨a, rfl, e⟩ := h; simp [tyOf, e]
  | t xs =>
    rcases h with ⟨a, rfl, e⟩ | ⟨t, h1, rfl, _⟩
    · simp [tyOf, e]
    · simp [tyOf]
theorem isDict_box {H : AHeap} {bv : List V} {plan : List Row} (XB : BoxesAt H bv plan) {j : Nat} {v : V} (hv : bv[j]? = some v) : isDict H v = isDAt plan j := by
  obtain ⟨r, hr, hb⟩ := tyOf_boxes XB hv
  unfold isDAt
  rw [hr]
  cases r with
  | d kvs => obtain ⟨a, ep, rfl, e⟩ := hb; simp [isDict, e]
  | l xs => obtain ⟨a, rfl, e⟩ := hb; simp [isDict, e]
  | t xs =>
    rcases hb with ⟨a, rfl, e⟩ | ⟨t, _, rfl, _⟩
    · simp [isDict, e]
    · simp [isDict]
theorem val_at {bv : List V} {j : Nat} (h : j < bv.length) : bv[j]? = some (bv.getD j .none) := by
  rw [List.getD_eq_getElem?_getD, List.getElem?_eq_getElem h]; rfl
theorem lastOf_box {H : AHeap} {bv : List V} {plan : List Row} {acc : Bool} (XB : BoxesAt H bv plan) {j : Nat} (hj : j < bv.length) : lastOf acc H (bv.getD j .none) = (stepTo plan acc j).map fun i => bv.getD i .none := by
  obtain ⟨r, hr, hb⟩ := tyOf_boxes XB (val_at hj)
  generalize hv : bv.getD j .none = v at hb
  have same : stepTo plan acc j = some j → lastOf acc H v = some v → lastOf acc H v = (stepTo plan acc j).map fun i => bv.getD i .none := fun e1 e2 => by rw [e1, e2, Option.map_some, hv]
  cases r with
  | d kvs =>
    obtain ⟨a, ep, rfl, e⟩ := hb
    exact same (by simp [stepTo, hr]) (by simp [lastOf, e])
  | l xs =>
    obtain ⟨a, rfl, e⟩ := hb
    cases acc with
    | false => exact same (by simp [stepTo]) (by simp [lastOf, e])
    | true => simp only [lastOf, e, stepTo, hr, if_true, boxL, List.getLast?_map]
  | t xs =>
    rcases hb with ⟨a, rfl, e⟩ | ⟨t, _, rfl, _⟩
    · exact same (by simp [stepTo, hr]) (by simp [lastOf, e])
    · exact same (by simp [stepTo, hr]) (by simp [lastOf])
theorem stepTo_lt {plan : List Row} (hP : PlanOK plan) {acc : Bool} {j j' : Nat} (hj : j < plan.length) (h : stepTo plan acc j = some j') : j' < plan.length := by
  unfold stepTo at h
  cases acc with
  | false => simp at h; omega
  | true =>
    simp only [if_true] at h
    split at h
    · rename_i xs e
      exact hP.closed j _ e j' (List.mem_of_getLast? h)
    · simp at h; omega
theorem gw_core {acc : Bool} {Q : Addr → AHeap → Prop} {X : String → Option (List V) → AHeap → Prop} {plan : List Row} {bv : List V} {H : AHeap} (XB : BoxesAt H bv plan) (hP : PlanOK plan) : ∀ (ks : List Str) (i : Nat) (cont : Addr), isDAt plan i = true → bv[i]? = some (.ref cont) →
    (match endOf plan acc ks i with
      | .at k rest => ∀ H' bv' a, BoxesAt H' bv' (grow plan k rest).1 → Grown bv H bv' H' → bv'[(grow plan k rest).2]? = some (.ref a) → Q a H'
      | .no msg => NoEnd X msg H) → Gw acc Q X ks cont H
  | [], i, cont, hi, hb, h => h H bv cont XB (Grown.refl _ _) hb
  | x :: r, i, cont, hi, hb, h => by
    obtain ⟨kvs, hk⟩ : ∃ kr, plan[i]? = some (.d kr) := by
      unfold isDAt at hi
      split at hi
      · rename_i kr e; exact ⟨kr, e⟩
      · cases hi
    have hsz : kvs.length < sizeLine := by
      have := hP.small i _ hk
      simp only [Row.refs, List.length_map] at this
      rw [show sizeLine = _ from sizeLine_eq]; omega
    rw [endOf_cons hk] at h
    cases hlk : kvs.lookup x with
    | none =>
      rw [hlk] at h
      exact gw_at (x :: r) plan bv H i kvs cont XB hP.closed hk hb hsz (fun x' r' e => by cases e; exact hlk) h
    | some j =>
      rw [hlk] at h
      have hj : j < plan.length := hP.closed i _ hk j (by
        obtain ⟨l1, l2, e, _⟩ := List.lookup_eq_some_iff.mp hlk
        show j ∈ kvs.map (·.2)
        rw [e]; simp)
      have hjb : j < bv.length := by rw [XB.len]; exact hj
      obtain ⟨ep, hc⟩ := XB.dict hk hb
      refine ⟨boxD bv kvs, ep, hc, by rw [boxD_len]; exact hsz, ?_⟩
      rw [getK_boxD, hlk]
      obtain ⟨rj, hrj, hbj⟩ := tyOf_boxes XB (val_at hjb)
      refine ⟨tyOf_box0 hbj, fun a xs e1 e2 => ?_, ?_⟩
      · have e1' : bv.getD j .none = .ref a := e1
        rw [e1'] at hbj
        cases rj with
        | d kr => obtain ⟨a', ep', q1, q2⟩ := hbj; cases q1; rw [e2] at q2; cases q2
        | l ys =>
          obtain ⟨a', q1, q2⟩ := hbj
          cases q1; rw [e2] at q2; cases q2
          have := hP.small j _ hrj
          simp only [Row.refs] at this
          simp only [boxL, List.length_map]
          omega
        | t ys =>
          rcases hbj with ⟨a', q1, q2⟩ | ⟨_, _, q1, _⟩
          · cases q1; rw [e2] at q2; cases q2
          · cases q1
      · simp only
        rw [lastOf_box XB hjb]
        cases hst : stepTo plan acc j with
        | none => simp only [hst] at h; simpa [NoEnd] using h
        | some j' =>
          simp only [hst] at h
          have hj' := stepTo_lt hP hj hst
          have hjb' : j' < bv.length := by rw [XB.len]; exact hj'
          obtain ⟨rj', hrj', hbj'⟩ := tyOf_boxes XB (val_at hjb')
          simp only [Option.map_some]
          refine ⟨tyOf_box0 hbj', ?_⟩
          rw [isDict_box XB (val_at hjb')]
          cases hD : isDAt plan j' with
          | false =>
            rw [hD, if_neg Bool.false_ne_true] at h
            rw [if_neg Bool.false_ne_true]
            have h' : NoEnd X nestMsg H := h
            unfold NoEnd at h'
            rw [if_neg (by decide)] at h'
            exact h'
          | true =>
            rw [hD, if_pos rfl] at h
            rw [if_pos rfl]
            have hrd : ∃ kr, rj' = .d kr := by
              unfold isDAt at hD
              rw [hrj'] at hD
              cases rj' with
              | d kr => exact ⟨kr, rfl⟩
              | l _ => cases hD
              | t _ => cases hD
            obtain ⟨kr, rfl⟩ := hrd
            obtain ⟨a, ep', q1, q2⟩ := hbj'
            exact ⟨a, q1, gw_core XB hP r j' a hD (by rw [← q1]; exact val_at hjb') h⟩
end Mine
namespace Mine
theorem BoxesAt.fresh {H : AHeap} {bv : List V} {plan : List Row} (X : BoxesAt H bv plan) {d : Addr} (hd : H d = none) : V.ref d ∉ bv := fun q => by
  obtain ⟨i, hi⟩ := List.mem_iff_getElem?.mp q
  obtain ⟨r, _, e2⟩ := tyOf_boxes X hi
  cases r with
  | d kvs => obtain ⟨a, ep, e3, e4⟩ := e2; cases e3; rw [hd] at e4; cases e4
  | l xs => obtain ⟨a, e3, e4⟩ := e2; cases e3; rw [hd] at e4; cases e4
  | t xs =>
    rcases e2 with ⟨a, e3, e4⟩ | ⟨t, _, e3, _⟩
    · cases e3; rw [hd] at e4; cases e4
    · cases e3
theorem get_setApp {plan more : List Row} {k i : Nat} {r r' : Row} (h : k < plan.length) (e : (plan.set k r ++ more)[i]? = some r') : (i = k ∧ r' = r) ∨ (i ≠ k ∧ plan[i]? = some r') ∨ ∃ n, i = plan.length + n ∧ more[n]? = some r' := by
  rw [List.getElem?_append] at e
  split at e
  · rw [get_set h] at e
    split at e
    · rename_i q; cases e; exact .inl ⟨q.symm, rfl⟩
    · rename_i q; exact .inr (.inl ⟨fun z => q z.symm, e⟩)
  · rename_i hlt
    rw [List.length_set] at hlt e
    exact .inr (.inr ⟨i - plan.length, by omega, e⟩)
theorem boxD_snoc {bv more : List V} {kvs : List (Str × Nat)} {z : Str} {n : Nat} {v : V} (h : ∀ j ∈ kvs.map (·.2), j < bv.length) (hv : (bv ++ more).getD n .none = v) : boxD (bv ++ more) (kvs ++ [(z, n)]) = boxD bv kvs ++ [(.inr z, v)] := by
  have := boxD_append (more := more) h
  unfold boxD at this ⊢
  rw [List.map_append, this]
  simp only [List.map_cons, List.map_nil, hv]
theorem boxL_snoc {bv more : List V} {xs : List Nat} {n : Nat} {v : V} (h : ∀ j ∈ xs, j < bv.length) (hv : (bv ++ more).getD n .none = v) : boxL (bv ++ more) (xs ++ [n]) = boxL bv xs ++ [v] := by
  have := boxL_append (more := more) h
  unfold boxL at this ⊢
  rw [List.map_append, this]
  simp only [List.map_cons, List.map_nil, hv]
theorem BoxesAt.growL {H : AHeap} {bv : List V} {plan : List Row} {k : Nat} {kvs : List (Str × Nat)} {z : Str} {cont d l : Addr} {ep : Nat} (X : BoxesAt H bv plan) (hP : Closed plan) (hk : plan[k]? = some (.d kvs)) (hb : bv[k]? = some (.ref cont)) (hc : H cont = some (.dict (boxD bv kvs) ep)) (hd : H d = none) (hl : H l = none) (hdl : d ≠ l) :
    BoxesAt (upd (upd (upd H d (.dict [] 0)) l (.list [.ref d])) cont (.dict (boxD bv kvs ++ [(.inr z, .ref l)]) (ep + 1))) (bv ++ [.ref l, .ref d]) (plan.set k (.d (kvs ++ [(z, plan.length)])) ++ [.l [plan.length + 1], .d []]) := by
  have hcd : cont ≠ d := fun q => by rw [q, hd] at hc; cases hc
  have hcl : cont ≠ l := fun q => by rw [q, hl] at hc; cases hc
  have hkl : k < plan.length := (List.getElem?_eq_some_iff.mp hk).1
  have g0 : (bv ++ [V.ref l, V.ref d]).getD plan.length .none = .ref l := by rw [List.getD_eq_getElem?_getD, ← X.len]; simp
  have g1 : (bv ++ [V.ref l, V.ref d]).getD (plan.length + 1) .none = .ref d := by rw [List.getD_eq_getElem?_getD, ← X.len]; simp
  refine X.change hP (by simp) (fun i r e => ?_) (fun v hv => ?_) (by simp; exact fun q => hdl q.symm) (fun i xs e => ?_)
  · have ee := get_setApp hkl e
    clear e
    rcases ee with ⟨rfl, rfl⟩ | ⟨hne, e⟩ | ⟨n, rfl, e⟩
    · refine .inr ⟨.ref cont, by rw [List.getElem?_append_left (by rw [X.len]; exact hkl)]; exact hb, cont, ep + 1, rfl, ?_⟩
      rw [upd_same, boxD_snoc (fun j hj => by rw [X.len]; exact hP i _ hk j hj) g0]
    · refine .inl ⟨e, fun a y h1 h2 => ?_⟩
      have hac : a ≠ cont := fun q => hne (X.inj i k cont (by rw [← q]; exact h1) hb)
      exact upd_ne hac (upd_ne (fun q => by rw [q, hl] at h2; cases h2) (upd_fresh hd h2))
    · match n, e with
      | 0, e =>
        cases e
        refine .inr ⟨.ref l, by rw [← X.len]; simp, l, rfl, ?_⟩
        rw [upd_ne (Ne.symm hcl) upd_same]
        simp only [boxL, List.map_cons, List.map_nil, g1]
      | 1, e =>
        cases e
        refine .inr ⟨.ref d, by rw [← X.len]; simp, d, 0, rfl, ?_⟩
        exact upd_ne (Ne.symm hcd) (upd_ne hdl upd_same)
      | n + 2, e => simp at e
  · simp only [List.mem_cons, List.not_mem_nil, or_false] at hv
    rcases hv with rfl | rfl
    · exact ⟨l, rfl, X.fresh hl⟩
    · exact ⟨d, rfl, X.fresh hd⟩
  · have ee := get_setApp hkl e
    clear e
    rcases ee with ⟨rfl, e⟩ | ⟨hne, e⟩ | ⟨n, rfl, e⟩
    · cases e
    · exact e
    · match n, e with
      | 0, e => cases e
      | 1, e => cases e
      | n + 2, e => simp at e
theorem BoxesAt.growI {H : AHeap} {bv : List V} {plan : List Row} {j : Nat} {xs : List Nat} {b d : Addr} (X : BoxesAt H bv plan) (hP : Closed plan) (hj : plan[j]? = some (.l xs)) (hb : bv[j]? = some (.ref b)) (hl : H b = some (.list (boxL bv xs))) (hd : H d = none) :
    BoxesAt (upd (upd H d (.dict [] 0)) b (.list (boxL bv xs ++ [.ref d]))) (bv ++ [.ref d]) (plan.set j (.l (xs ++ [plan.length])) ++ [.d []]) := by
  have hbd : b ≠ d := fun q => by rw [q, hd] at hl; cases hl
  have hjl : j < plan.length := (List.getElem?_eq_some_iff.mp hj).1
  have g0 : (bv ++ [V.ref d]).getD plan.length .none = .ref d := by rw [List.getD_eq_getElem?_getD, ← X.len]; simp
  refine X.change hP (by simp) (fun i r e => ?_) (fun v hv => ⟨d, by simpa using hv, X.fresh hd⟩) (by simp) (fun i ys e => ?_)
  · have ee := get_setApp hjl e
    clear e
    rcases ee with ⟨rfl, rfl⟩ | ⟨hne, e⟩ | ⟨n, rfl, e⟩
    · refine .inr ⟨.ref b, by rw [List.getElem?_append_left (by rw [X.len]; exact hjl)]; exact hb, b, rfl, ?_⟩
      rw [upd_same, boxL_snoc (fun q hq => by rw [X.len]; exact hP i _ hj q hq) g0]
    · refine .inl ⟨e, fun a y h1 h2 => ?_⟩
      have hab : a ≠ b := fun q => hne (X.inj i j b (by rw [← q]; exact h1) hb)
      exact upd_ne hab (upd_fresh hd h2)
    · match n, e with
      | 0, e =>
        cases e
        exact .inr ⟨.ref d, by rw [← X.len]; simp, d, 0, rfl, upd_ne (Ne.symm hbd) upd_same⟩
      | n + 1, e => simp at e
  · have ee := get_setApp hjl e
    clear e
    rcases ee with ⟨rfl, e⟩ | ⟨hne, e⟩ | ⟨n, rfl, e⟩
    · cases e
    · exact e
    · match n, e with
      | 0, e => cases e
      | n + 1, e => simp at e
end Mine
namespace Mine
noncomputable def growA (plan : List Row) (k : Nat) (rest : List Str) (z : Str) : List Row := match (grow plan k rest).1[(grow plan k rest).2]? with
  | some (.d kvs) => match kvs.lookup z with
    | none => (grow plan k rest).1.set (grow plan k rest).2 (.d (kvs ++ [(z, (grow plan k rest).1.length)])) ++ [.l [(grow plan k rest).1.length + 1], .d []]
    | some j => match (grow plan k rest).1[j]? with
      | some (.l xs) => (grow plan k rest).1.set j (.l (xs ++ [(grow plan k rest).1.length])) ++ [.d []]
      | _ => (grow plan k rest).1
  | _ => (grow plan k rest).1
theorem grow_end : ∀ (rest : List Str) (plan : List Row) (k : Nat) (kvs : List (Str × Nat)), Closed plan → plan[k]? = some (.d kvs) → ∃ kvs', (grow plan k rest).1[(grow plan k rest).2]? = some (.d kvs') ∧ Closed (grow plan k rest).1 ∧ (rest ≠ [] → kvs' = []) ∧ (rest = [] → kvs' = kvs)
  | [], plan, k, kvs, hP, hk => ⟨kvs, hk, hP, fun h => absurd rfl h, fun _ => rfl⟩
  | x :: r, plan, k, kvs, hP, hk => by
    rw [grow_cons hk]
    have hkl : k < plan.length := (List.getElem?_eq_some_iff.mp hk).1
    obtain ⟨kvs', h1, h2, h3, h4⟩ := grow_end r (plan.set k (.d (kvs ++ [(x, plan.length)])) ++ [.d []]) plan.length [] (hP.grow1 hk) (by simp)
    refine ⟨kvs', h1, h2, fun _ => ?_, fun h => by cases h⟩
    cases r with
    | nil => exact h4 rfl
    | cons y r => exact h3 (by simp)
theorem dueOf4 {plan : List Row} {ks : List Str} {i : Nat} : dueOf plan 4 ks i = match ks.getLast? with
    | none => .no "IndexError"
    | some z => match endOf plan true ks.dropLast i with
      | .at k [] => match plan[k]? with
        | some (.d kr) => match kr.lookup z with
          | some j => match plan[j]? with
            | some (.l _) => .at k []
            | _ => .no listMsg
          | none => .at k []
        | _ => .at k []
      | e => e := by
  unfold dueOf
  rw [if_neg (by decide)]
  try rfl
theorem ga_core {Q : AHeap → Prop} {X : String → Option (List V) → AHeap → Prop} {plan : List Row} {bv : List V} {H : AHeap} (XB : BoxesAt H bv plan) (hP : PlanOK plan) {ks : List Str} {i : Nat} {cont : Addr} (hi : isDAt plan i = true) (hb : bv[i]? = some (.ref cont))
    (hQ : match dueOf plan 4 ks i with
      | .at k rest => ∀ H' bv' z, ks.getLast? = some z → BoxesAt H' bv' (growA plan k rest z) → Grown bv H bv' H' → Q H'
      | .no msg => ∀ H' bv', BoxesAt H' bv' plan → Grown bv H bv' H' → NoEnd X msg H') : Ga Q X ks cont H := by
  refine gw_core XB hP ks.dropLast i cont hi hb ?_
  rw [dueOf4] at hQ
  cases hz : ks.getLast? with
  | none =>
    have : ks = [] := List.getLast?_eq_none_iff.mp hz
    subst this
    intro H' bv' a h1 h2 h4
    have q : NoEnd X "IndexError" H' := hQ H' bv' h1 h2
    unfold NoEnd at q
    rw [if_pos rfl] at q
    exact q
  | some z =>
    rw [hz] at hQ
    cases he : endOf plan true ks.dropLast i with
    | no msg =>
      rw [he] at hQ
      exact hQ H bv XB (Grown.refl _ _)
    | «at» k rest =>
      rw [he] at hQ
      intro H' bv' a h1 h2 h4
      have hDk : isDAt plan k = true := endOf_isD _ _ hi _ _ he
      obtain ⟨kr, hkr⟩ : ∃ kr, plan[k]? = some (.d kr) := by
        unfold isDAt at hDk
        split at hDk
        · rename_i kr e; exact ⟨kr, e⟩
        · cases hDk
      obtain ⟨kvs', g1, g2, g3, g4⟩ := grow_end rest plan k kr hP.closed hkr
      obtain ⟨ep, hc⟩ := h1.dict g1 h4
      have hsz : kvs'.length < sizeLine := by
        by_cases hr : rest = []
        · rw [g4 hr]
          have := hP.small k _ hkr
          simp only [Row.refs, List.length_map] at this
          rw [show sizeLine = _ from sizeLine_eq]; omega
        · rw [g3 hr]; decide
      refine ⟨boxD bv' kvs', ep, hc, by rw [boxD_len]; exact hsz, ?_⟩
      rw [getK_boxD]
      have hn : V.ref a ∈ bv' := List.mem_of_getElem? h4
      -- what is due, when nothing stands in the way
      have due : (∀ j, kvs'.lookup z = some j → ∃ xs, (grow plan k rest).1[j]? = some (.l xs)) → ∀ H' bv'', BoxesAt H' bv'' (growA plan k rest z) → Grown bv H bv'' H' → Q H' := fun hl => by
        cases rest with
        | cons y ys => exact fun H' bv'' hx hg => hQ H' bv'' z rfl hx hg
        | nil =>
          obtain rfl := g4 rfl
          simp only [hkr] at hQ
          cases hlk : kvs'.lookup z with
          | none =>
            rw [hlk] at hQ
            exact fun H' bv'' hx hg => hQ H' bv'' z rfl hx hg
          | some j =>
            obtain ⟨xs, hxs⟩ := hl j hlk
            have hxs' : plan[j]? = some (.l xs) := hxs
            simp only [hlk, hxs'] at hQ
            exact fun H' bv'' hx hg => hQ H' bv'' z rfl hx hg
      cases hlk : kvs'.lookup z with
      | none =>
        intro d l hd hl hdl
        refine due (fun j e => by rw [hlk] at e; cases e) _ (bv' ++ [.ref l, .ref d]) ?_ (h2.trans ⟨List.prefix_append _ _, fun b y e hbn => ?_, fun b q => ?_⟩)
        · have := h1.growL (z := z) g2 g1 h4 hc hd hl hdl
          unfold growA
          rw [g1]
          simp only [hlk]
          exact this
        · have hba : b ≠ a := fun q => hbn (by rw [q]; exact hn)
          exact upd_ne hba (upd_ne (fun q => by rw [q, hl] at e; cases e) (upd_fresh hd e))
        · rcases List.mem_append.mp q with q | q
          · exact .inl q
          · simp only [List.mem_cons, List.not_mem_nil, or_false] at q
            rcases q with q | q
            · exact .inr (by rw [V.ref.inj q]; exact hl)
            · exact .inr (by rw [V.ref.inj q]; exact hd)
      | some j =>
        cases rest with
        | cons y ys => rw [g3 (by simp)] at hlk; cases hlk
        | nil =>
          obtain rfl := g4 rfl
          have h1' : BoxesAt H' bv' plan := h1
          have hj : j < plan.length := hP.closed k _ hkr j (by
            obtain ⟨l1, l2, e, _⟩ := List.lookup_eq_some_iff.mp hlk
            show j ∈ kvs'.map (·.2)
            rw [e]; simp)
          have hjb : j < bv'.length := by rw [h1'.len]; exact hj
          obtain ⟨rj, hrj, hbj⟩ := tyOf_boxes h1' (val_at hjb)
          refine ⟨tyOf_box0 hbj, ?_⟩
          have bad : (∀ xs, rj ≠ .l xs) → ∀ t, X "KeyError" (some [.str listMsg t]) H' := fun hne => by
            have q : NoEnd X listMsg H' := by
              simp only [hkr, hlk, hrj] at hQ
              cases rj with
              | l xs => exact absurd rfl (hne xs)
              | d kr2 => exact hQ H' bv' h1' h2
              | t xs => exact hQ H' bv' h1' h2
            unfold NoEnd at q
            rw [if_neg (by decide)] at q
            exact q
          cases rj with
          | d kr2 =>
            refine .inr ⟨?_, bad (fun xs q => by cases q)⟩
            obtain ⟨a', ep', q1, q2⟩ := hbj
            show tyOf H' (bv'.getD j .none) ≠ _
            rw [q1]; simp [tyOf, q2]
          | t xs =>
            refine .inr ⟨?_, bad (fun xs q => by cases q)⟩
            show tyOf H' (bv'.getD j .none) ≠ _
            rcases hbj with ⟨a', q1, q2⟩ | ⟨t, _, q1, _⟩
            · rw [q1]; simp [tyOf, q2]
            · rw [q1]; simp [tyOf]
          | l xs =>
            obtain ⟨b, q1, q2⟩ := hbj
            have hsm := hP.small j _ hrj
            refine .inl ⟨b, boxL bv' xs, q1, q2, by simp only [boxL, List.length_map]; simp only [Row.refs] at hsm; rw [show sizeLine = _ from sizeLine_eq]; omega, fun d hd => ?_⟩
            have hbj' : bv'[j]? = some (.ref b) := by rw [← q1]; exact val_at hjb
            refine due (fun j' e => by rw [hlk] at e; cases e; exact ⟨xs, hrj⟩) _ (bv' ++ [.ref d]) ?_ (h2.trans ⟨List.prefix_append _ _, fun c y e hcn => ?_, fun c q => ?_⟩)
            · have := h1'.growI hP.closed hrj hbj' q2 hd
              have e1 : growA plan k [] z = plan.set j (.l (xs ++ [plan.length])) ++ [.d []] := by
                show (match plan[k]? with | some (.d kvs) => _ | _ => _) = _
                simp only [hkr, hlk]
                show (match plan[j]? with | some (.l xs) => _ | _ => _) = _
                rw [hrj]
                rfl
              rw [e1]; exact this
            · have hcb : c ≠ b := fun q => hcn (by rw [q]; exact List.mem_of_getElem? hbj')
              exact upd_ne hcb (upd_fresh hd e)
            · rcases List.mem_append.mp q with q | q
              · exact .inl q
              · exact .inr (by rw [V.ref.inj (List.mem_singleton.mp q)]; exact hd)
end Mine
namespace Mine
noncomputable def putS (kvs : List (Str × Nat)) (x : Str) (r : Nat) : List (Str × Nat) := match kvs with
  | [] => [(x, r)]
  | (y, j) :: t => if y = x then (y, r) :: t else (y, j) :: putS t x r
theorem putS_boxD (bv : List V) (x : Str) (r : Nat) : ∀ kvs, putK (boxD bv kvs) (.inr x) (bv.getD r .none) = boxD bv (putS kvs x r)
  | [] => rfl
  | (y, j) :: t => by
    show (if (Sum.inr y : Key) = .inr x then (.inr y, bv.getD r .none) :: boxD bv t else (.inr y, bv.getD j .none) :: putK (boxD bv t) (.inr x) (bv.getD r .none)) = boxD bv (if y = x then (y, r) :: t else (y, j) :: putS t x r)
    rw [putS_boxD bv x r t]
    by_cases h : y = x
    · rw [if_pos (by rw [h]), if_pos h]; rfl
    · rw [if_neg (fun q => h (Sum.inr.inj q)), if_neg h]; rfl
theorem putS_rowD (x : Str) (r : Nat) : ∀ kvs, putK (rowD kvs) (.inr x) (.int (r : Int)) = rowD (putS kvs x r)
  | [] => rfl
  | (y, j) :: t => by
    show (if (Sum.inr y : Key) = .inr x then (.inr y, V.int (r : Int)) :: rowD t else (.inr y, .int (j : Int)) :: putK (rowD t) (.inr x) (.int (r : Int))) = rowD (if y = x then (y, r) :: t else (y, j) :: putS t x r)
    rw [putS_rowD x r t]
    by_cases h : y = x
    · rw [if_pos (by rw [h]), if_pos h]; rfl
    · rw [if_neg (fun q => h (Sum.inr.inj q)), if_neg h]; rfl
theorem putS_refs (x : Str) (r : Nat) : ∀ kvs, (∀ j ∈ (putS kvs x r).map (·.2), j ∈ kvs.map (·.2) ∨ j = r) ∧ (putS kvs x r).length ≤ kvs.length + 1
  | [] => ⟨fun j h => .inr (by simpa [putS] using h), by simp [putS]⟩
  | (y, i) :: t => by
    obtain ⟨h1, h2⟩ := putS_refs x r t
    unfold putS
    split
    · refine ⟨fun j h => ?_, by simp⟩
      simp only [List.map_cons, List.mem_cons] at h ⊢
      rcases h with h | h
      · exact .inr h
      · exact .inl (.inr h)
    · refine ⟨fun j h => ?_, by simp; exact h2⟩
      simp only [List.map_cons, List.mem_cons] at h ⊢
      rcases h with h | h
      · exact .inl (.inl h)
      · rcases h1 j h with h | h
        · exact .inl (.inr h)
        · exact .inr h
theorem putS_new {kvs : List (Str × Nat)} {x : Str} {r : Nat} (h : kvs.lookup x = none) : putS kvs x r = kvs ++ [(x, r)] := by
  induction kvs with
  | nil => rfl
  | cons p t ih =>
    obtain ⟨y, j⟩ := p
    rw [List.lookup_cons] at h
    by_cases hy : y = x
    · subst hy; simp at h
    · have h2 : (x == y) = false := by simpa using fun q => hy q.symm
      rw [h2] at h
      show (if y = x then _ else (y, j) :: putS t x r) = _
      rw [if_neg hy, ih h]; rfl
theorem BoxesAt.setRow {H H' : AHeap} {bv : List V} {plan : List Row} {k : Nat} {r : Row} {cont : Addr} (X : BoxesAt H bv plan) (hP : Closed plan) (hk : k < plan.length) (hb : bv[k]? = some (.ref cont)) (hr : BoxAt H' bv (.ref cont) r) (hnt : ∀ xs, r ≠ .t xs)
    (hk' : ∀ a y, V.ref a ∈ bv → a ≠ cont → H a = some y → H' a = some y) : BoxesAt H' bv (plan.set k r) := by
  have := X.change (H' := H') (more := []) (plan' := plan.set k r) hP (by simp) (fun i r' e => ?_) (fun v hv => by cases hv) List.nodup_nil (fun i xs e => ?_)
  · rwa [List.append_nil] at this
  · rw [get_set hk] at e
    split at e
    · rename_i q; subst q; cases e
      exact .inr ⟨.ref cont, by rw [List.append_nil]; exact hb, by rw [List.append_nil]; exact hr⟩
    · rename_i q
      refine .inl ⟨e, fun a y h1 h2 => hk' a y (List.mem_of_getElem? h1) (fun z => q ?_) h2⟩
      exact X.inj k i cont hb (by rw [← z]; exact h1)
  · rw [get_set hk] at e
    split at e
    · cases e; exact absurd rfl (hnt xs)
    · exact e
theorem PlanAt.setRow {H H' : AHeap} {pa : Addr} {ra : List Addr} {plan : List Row} {k : Nat} {r : Row} {a : Addr} (P : PlanAt H pa ra plan) (hn : ra.Nodup) (hk : ra[k]? = some a) (hr : RowAt H' a r) (hpa : H' pa = some (.list (ra.map .ref)))
    (hk' : ∀ b y, b ∈ ra → b ≠ a → H b = some y → H' b = some y) : PlanAt H' pa ra (plan.set k r) := by
  have hkl : k < plan.length := by rw [← P.len]; exact (List.getElem?_eq_some_iff.mp hk).1
  refine ⟨hpa, by rw [P.len, List.length_set], fun i r' e => ?_⟩
  rw [get_set hkl] at e
  split at e
  · rename_i q; subst q; cases e; exact ⟨a, hk, hr⟩
  · rename_i q
    obtain ⟨b, h1, h2⟩ := P.row i r' e
    refine ⟨b, h1, ?_⟩
    have hba : b ≠ a := fun z => q ((List.getElem?_inj (List.getElem?_eq_some_iff.mp hk).1 hn).mp (by rw [hk, h1, z]))
    have hbm := List.mem_of_getElem? h1
    cases r' with
    | d kvs => obtain ⟨ep, e⟩ := h2; exact ⟨ep, hk' b _ hbm hba e⟩
    | l xs => exact hk' b _ hbm hba h2
    | t xs => exact hk' b _ hbm hba h2
end Mine
namespace Mine
theorem PlanAt.snoc {H H' : AHeap} {pa : Addr} {ra : List Addr} {plan : List Row} {r : Row} {a : Addr} (P : PlanAt H pa ra plan) (hr : RowAt H' a r) (hpa : H' pa = some (.list ((ra ++ [a]).map .ref)))
    (hk' : ∀ b y, b ∈ ra → H b = some y → H' b = some y) : PlanAt H' pa (ra ++ [a]) (plan ++ [r]) := by
  refine ⟨hpa, by simp [P.len], fun i r' e => ?_⟩
  rw [List.getElem?_append] at e
  split at e
  · refine Mine.hideG fun GG back => ?_
    obtain ⟨b, h1, h2⟩ := P.row i r' e
    refine back ?_
    clear back
    refine ⟨b, by rw [List.getElem?_append_left (List.getElem?_eq_some_iff.mp h1).1]; exact h1, ?_⟩
    have hbm := List.mem_of_getElem? h1
    cases r' with
    | d kvs => obtain ⟨ep, e⟩ := h2; exact ⟨ep, hk' b _ hbm e⟩
    | l xs => exact hk' b _ hbm h2
    | t xs => exact hk' b _ hbm h2
  · rename_i hlt
    cases hi : i - plan.length with
    | zero =>
      rw [hi] at e; cases e
      have : i = plan.length := by lia
      subst this
      exact ⟨a, by rw [← P.len]; simp, hr⟩
    | succ n => rw [hi] at e; simp at e
structure LawAt (H : AHeap) (C pa ba x dx : Addr) (ra : List Addr) (plan : List Row) (bv : List V) : Prop where
  P : PlanAt H pa ra plan
  B : H ba = some (.list bv)
  X : BoxesAt H bv plan
  closed : Closed plan
  inst : H x = some (.inst C dx)
  attrs : ∃ v, H dx = some (.attrs (.ref v))
  row0 : isDAt plan 0 = true
  row3 : ∃ xs, plan[3]? = some (.l xs)
  row4 : ∃ xs, plan[4]? = some (.l xs)
  seven : 7 ≤ plan.length
  nodup : ra.Nodup
  pba : pa ≠ ba
  pra : pa ∉ ra
  bra : ba ∉ ra
  pbv : V.ref pa ∉ bv
  bbv : V.ref ba ∉ bv
  rbv : ∀ a ∈ ra, V.ref a ∉ bv
theorem LawAt.ext {H H' : AHeap} {C pa ba x dx : Addr} {ra : List Addr} {plan : List Row} {bv : List V} (L : LawAt H C pa ba x dx ra plan bv) (h : Ext H H') : LawAt H' C pa ba x dx ra plan bv :=
  ⟨L.P.ext h, h ba _ L.B, L.X.ext h, L.closed, h x _ L.inst, by obtain ⟨v, e⟩ := L.attrs; exact ⟨v, h dx _ e⟩, L.row0, L.row3, L.row4, L.seven, L.nodup, L.pba, L.pra, L.bra, L.pbv, L.bbv, L.rbv⟩
end Mine
namespace Mine
noncomputable def RowsOK (plan : List Row) : Prop := ∀ (i : Nat) (kvs : List (Str × Nat)), plan[i]? = some (.d kvs) → (kvs.map (·.1)).Nodup ∧ ∀ p ∈ kvs, p.1 = "a" ∨ p.1 = ""
theorem strOk_key {x : Str} (h : x = "a" ∨ x = "") : PyData.strOk x = true := by rcases h with e | e <;> rw [e] <;> decide +kernel
theorem goodAll_of : ∀ {ds : List PyData}, (∀ d ∈ ds, good d = true) → goodAll ds = true
  | [], _ => rfl
  | d :: ds, h => by simp [goodAll, h d List.mem_cons_self, goodAll_of (ds := ds) fun e he => h e (List.mem_cons_of_mem _ he)]
theorem good_rowSeen {r : Row} (h : ∀ kvs, r = .d kvs → ∀ p ∈ kvs, p.1 = "a" ∨ p.1 = "") : good (rowSeen r) = true := by
  cases r with
  | d kvs =>
    simp only [rowSeen, good]
    refine goodAll_of fun d hd => ?_
    obtain ⟨p, hp, rfl⟩ := List.mem_map.mp hd
    simp [good, goodAll, strOk_key (h kvs rfl p hp)]
  | l xs =>
    simp only [rowSeen, good]
    refine goodAll_of fun d hd => ?_
    obtain ⟨p, hp, rfl⟩ := List.mem_map.mp hd
    simp [good, goodAll]
  | t xs =>
    simp only [rowSeen, good]
    refine goodAll_of fun d hd => ?_
    obtain ⟨p, hp, rfl⟩ := List.mem_map.mp hd
    simp [good, goodAll]
theorem good_seen {plan : List Row} (h : RowsOK plan) : good (.list (plan.map rowSeen)) = true := by
  simp only [good]
  refine goodAll_of fun d hd => ?_
  obtain ⟨r, hr, rfl⟩ := List.mem_map.mp hd
  obtain ⟨i, hi⟩ := List.mem_iff_getElem?.mp hr
  exact good_rowSeen fun kvs e => (h i kvs (by rw [hi, e])).2
theorem depthAll_le : ∀ {ds : List PyData} {n : Nat}, (∀ d ∈ ds, PyData.depth d ≤ n) → PyData.depthAll ds ≤ n
  | [], n, _ => Nat.zero_le _
  | d :: ds, n, h => Nat.max_le.mpr ⟨h d List.mem_cons_self, depthAll_le (ds := ds) fun e he => h e (List.mem_cons_of_mem _ he)⟩
theorem depth_rowSeen (r : Row) : PyData.depth (rowSeen r) ≤ 4 := by
  cases r with
  | d kvs =>
    refine Nat.succ_le_succ (depthAll_le (n := 3) fun d hd => ?_)
    obtain ⟨p, hp, rfl⟩ := List.mem_map.mp hd
    simp [PyData.depth, PyData.depthAll]
  | l xs =>
    refine Nat.succ_le_succ (depthAll_le (n := 3) fun d hd => ?_)
    obtain ⟨p, hp, rfl⟩ := List.mem_map.mp hd
    simp [PyData.depth, PyData.depthAll]
  | t xs =>
    refine Nat.succ_le_succ (depthAll_le (n := 3) fun d hd => ?_)
    obtain ⟨p, hp, rfl⟩ := List.mem_map.mp hd
    simp [PyData.depth, PyData.depthAll]
theorem depth_seen (plan : List Row) : PyData.depth (.list (plan.map rowSeen)) ≤ 5 := by
  refine Nat.succ_le_succ (depthAll_le (n := 4) fun d hd => ?_)
  obtain ⟨r, _, rfl⟩ := List.mem_map.mp hd
  exact depth_rowSeen r
theorem lookup_at {kvs : List (Str × Nat)} (hn : (kvs.map (·.1)).Nodup) {i : Nat} {p : Str × Nat} (h : kvs[i]? = some p) : kvs.lookup p.1 = some p.2 := by
  induction kvs generalizing i with
  | nil => simp at h
  | cons q r ih =>
    rw [List.map_cons, List.nodup_cons] at hn
    cases i with
    | zero =>
      have h' : q = p := Option.some.inj h
      subst h'
      obtain ⟨y, j⟩ := q
      rw [List.lookup_cons]; simp
    | succ i =>
      have h' : r[i]? = some p := h
      have hne : (p.1 == q.1) = false := by
        have : p.1 ∈ r.map (·.1) := List.mem_map_of_mem (List.mem_of_getElem? h')
        refine beq_false_of_ne fun e => hn.1 ?_
        rw [← e]; exact this
      rw [show (q :: r) = ((q.1, q.2) :: r) from rfl, List.lookup_cons, hne]
      exact ih hn.2 h'
end Mine
namespace Mine
structure LM (H : AHeap) (C pa ba x dx : Addr) (ra : List Addr) (plan : List Row) (bv : List V) (n : Nat) (plan' : List Row) : Prop where
  P : PlanAt H pa ra plan
  B : H ba = some (.list (bv.take n))
  X : BoxesAt H bv plan'
  inst : H x = some (.inst C dx)
  attrs : ∃ v, H dx = some (.attrs (.ref v))
  nodup : ra.Nodup
  pba : pa ≠ ba
  pra : pa ∉ ra
  bra : ba ∉ ra
  pbv : V.ref pa ∉ bv
  bbv : V.ref ba ∉ bv
  rbv : ∀ a ∈ ra, V.ref a ∉ bv
section
variable {H H' : AHeap} {C pa ba x dx : Addr} {ra : List Addr} {plan : List Row} {bv : List V} {n : Nat} {plan' : List Row}
theorem LawAt.lm (L : LawAt H C pa ba x dx ra plan bv) : LM H C pa ba x dx ra plan bv bv.length plan :=
  ⟨L.P, by rw [List.take_length]; exact L.B, L.X, L.inst, L.attrs, L.nodup, L.pba, L.pra, L.bra, L.pbv, L.bbv, L.rbv⟩
theorem LM.ext (L : LM H C pa ba x dx ra plan bv n plan') (h : Ext H H') : LM H' C pa ba x dx ra plan bv n plan' :=
  ⟨L.P.ext h, h ba _ L.B, L.X.ext h, h x _ L.inst, by obtain ⟨v, e⟩ := L.attrs; exact ⟨v, h dx _ e⟩, L.nodup, L.pba, L.pra, L.bra, L.pbv, L.bbv, L.rbv⟩
theorem BoxesAt.heap (X : BoxesAt H bv plan') (h : ∀ a y, V.ref a ∈ bv → H a = some y → H' a = some y) : BoxesAt H' bv plan' :=
  ⟨X.len, fun i r e => by
    obtain ⟨b, h1, h2⟩ := X.row i r e
    exact ⟨b, h1, h2.heap fun a y q => h a y (by rw [← q]; exact List.mem_of_getElem? h1)⟩, X.inj, X.str6, X.b6, X.tup5⟩
theorem RowAt.some {a : Addr} {r : Row} (h : RowAt H a r) : ∃ y, H a = some y ∧ (∀ C dx, y ≠ .inst C dx) ∧ ∀ v, y ≠ .attrs v := by
  cases r with
  | d kvs => obtain ⟨ep, e⟩ := h; exact ⟨_, e, by simp, by simp⟩
  | l xs => exact ⟨_, h, by simp, by simp⟩
  | t xs => exact ⟨_, h, by simp, by simp⟩
theorem PlanAt.at (P : PlanAt H pa ra plan) {k : Nat} {r : Row} (hr : plan[k]? = .some r) : ∃ a, ra[k]? = .some a ∧ RowAt H a r ∧ a ∈ ra := by
  obtain ⟨a, h1, h2⟩ := P.row k r hr
  exact ⟨a, h1, h2, List.mem_of_getElem? h1⟩
theorem LM.setPlan (L : LM H C pa ba x dx ra plan bv n plan') {k : Nat} {r r' : Row} {a : Addr} {y : AObj} (hr : plan[k]? = some r) (ha : ra[k]? = some a) (hy : RowAt (upd H a y) a r') : LM (upd H a y) C pa ba x dx ra (plan.set k r') bv n plan' := by
  have hm : a ∈ ra := List.mem_of_getElem? ha
  obtain ⟨a', h1, h2⟩ := L.P.row k r hr
  rw [ha] at h1
  obtain rfl := Option.some.inj h1
  obtain ⟨z, hz, n1, n2⟩ := h2.some
  obtain ⟨v, hv⟩ := L.attrs
  refine ⟨L.P.setRow L.nodup ha hy (upd_ne (fun q => L.pra (q ▸ hm)) L.P.list) fun b w _ hne e => upd_ne hne e, upd_ne (fun q => L.bra (q ▸ hm)) L.B, L.X.heap fun b w hb e => upd_ne (fun q => L.rbv a hm (q ▸ hb)) e,
    upd_ne (fun q => n1 C dx (Option.some.inj (hz.symm.trans (q ▸ L.inst)))) L.inst, ⟨v, upd_ne (fun q => n2 (.ref v) (Option.some.inj (hz.symm.trans (q ▸ hv)))) hv⟩, L.nodup, L.pba, L.pra, L.bra, L.pbv, L.bbv, L.rbv⟩
theorem LM.push (L : LM H C pa ba x dx ra plan bv n plan') {r : Row} {a : Addr} {y : AObj} (hf : H a = none) (hy : ∀ H', H' a = some y → RowAt H' a r) : LM (upd (upd H a y) pa (.list ((ra ++ [a]).map .ref))) C pa ba x dx (ra ++ [a]) (plan ++ [r]) bv n plan' := by
  have hpl := L.P.list
  obtain ⟨v, hv⟩ := L.attrs
  have hap : a ≠ pa := fun q => by rw [q, hpl] at hf; cases hf
  have hab : a ≠ ba := fun q => by rw [q, L.B] at hf; cases hf
  have har : a ∉ ra := fun q => by
    obtain ⟨i, hi⟩ := List.mem_iff_getElem?.mp q
    have hil : i < plan.length := by rw [← L.P.len]; exact (List.getElem?_eq_some_iff.mp hi).1
    obtain ⟨a', h1, h2⟩ := L.P.row i _ (List.getElem?_eq_getElem hil)
    rw [hi] at h1
    obtain rfl := Option.some.inj h1
    obtain ⟨z, hz, _⟩ := h2.some
    rw [hz] at hf; cases hf
  refine ⟨L.P.snoc (hy _ (upd_ne hap upd_same)) upd_same fun b w hb e => upd_ne (fun q => L.pra (q ▸ hb)) (upd_fresh hf e), upd_ne (fun q => L.pba q.symm) (upd_fresh hf L.B), L.X.heap fun b w hb e => upd_ne (fun q => L.pbv (q ▸ hb)) (upd_fresh hf e),
    upd_ne (fun q => by have := L.inst; rw [q, hpl] at this; cases this) (upd_fresh hf L.inst), ⟨v, upd_ne (fun q => by have := hv; rw [q, hpl] at this; cases this) (upd_fresh hf hv)⟩, ?_, L.pba, ?_, ?_, L.pbv, L.bbv, ?_⟩
  · rw [List.nodup_append]
    exact ⟨L.nodup, by simp, fun p hp q hq e => by rw [List.mem_singleton.mp hq] at e; exact har (e ▸ hp)⟩
  · simp only [List.mem_append, List.mem_singleton, not_or]; exact ⟨L.pra, fun q => hap q.symm⟩
  · simp only [List.mem_append, List.mem_singleton, not_or]; exact ⟨L.bra, fun q => hab q.symm⟩
  · intro b hb
    rcases List.mem_append.mp hb with hb | hb
    · exact L.rbv b hb
    · rw [List.mem_singleton.mp hb]; exact L.X.fresh hf
theorem LM.box (L : LM H C pa ba x dx ra plan bv n plan') {v : V} (hv : bv[n]? = some v) : LM (upd H ba (.list (bv.take n ++ [v]))) C pa ba x dx ra plan bv (n + 1) plan' := by
  have hB := L.B
  obtain ⟨u, hu⟩ := L.attrs
  refine ⟨⟨upd_ne L.pba L.P.list, L.P.len, fun i r e => ?_⟩, ?_, L.X.heap fun b w hb e => upd_ne (fun q => L.bbv (q ▸ hb)) e, upd_ne (fun q => by have := L.inst; rw [q, hB] at this; cases this) L.inst, ⟨u, upd_ne (fun q => by rw [q, hB] at hu; cases hu) hu⟩,
    L.nodup, L.pba, L.pra, L.bra, L.pbv, L.bbv, L.rbv⟩
  · obtain ⟨a, h1, h2⟩ := L.P.row i r e
    have hne : a ≠ ba := fun q => L.bra (q ▸ List.mem_of_getElem? h1)
    refine ⟨a, h1, ?_⟩
    cases r with
    | d kvs => obtain ⟨ep, e⟩ := h2; exact ⟨ep, upd_ne hne e⟩
    | l xs => exact upd_ne hne h2
    | t xs => exact upd_ne hne h2
  · rw [List.take_add_one, hv]; exact upd_same
theorem LM.mount (L : LM H C pa ba x dx ra plan bv n plan') {b : Addr} : LM (upd H dx (.attrs (.ref b))) C pa ba x dx ra plan bv n plan' := by
  obtain ⟨u, hu⟩ := L.attrs
  have hne : ∀ {c : Addr} {y : AObj}, H c = some y → (∀ v, y ≠ .attrs v) → upd H dx (.attrs (.ref b)) c = some y := fun {c y} e hn => upd_ne (fun q => by rw [q, hu] at e; exact hn _ (Option.some.inj e).symm) e
  refine ⟨⟨hne L.P.list (by simp), L.P.len, fun i r e => ?_⟩, hne L.B (by simp), ⟨L.X.len, fun i r e => ?_, L.X.inj, L.X.str6, L.X.b6, L.X.tup5⟩, hne L.inst (by simp), ⟨b, upd_same⟩, L.nodup, L.pba, L.pra, L.bra, L.pbv, L.bbv, L.rbv⟩
  · obtain ⟨a, h1, h2⟩ := L.P.row i r e
    refine ⟨a, h1, ?_⟩
    cases r with
    | d kvs => obtain ⟨ep, e⟩ := h2; exact ⟨ep, hne e (by simp)⟩
    | l xs => exact hne h2 (by simp)
    | t xs => exact hne h2 (by simp)
  · obtain ⟨v, h1, h2⟩ := L.X.row i r e
    refine ⟨v, h1, ?_⟩
    cases r with
    | d kvs => obtain ⟨a, ep, q, e⟩ := h2; exact ⟨a, ep, q, hne e (by simp)⟩
    | l xs => obtain ⟨a, q, e⟩ := h2; exact ⟨a, q, hne e (by simp)⟩
    | t xs =>
      rcases h2 with ⟨a, q, e⟩ | h2
      · exact .inl ⟨a, q, hne e (by simp)⟩
      · exact .inr h2
theorem LM.grown (L : LM H C pa ba x dx ra plan bv bv.length plan) {bv' : List V} {plan2 : List Row} (hG : Grown bv H bv' H') (hX : BoxesAt H' bv' plan2) : LM H' C pa ba x dx ra plan bv' bv.length plan2 := by
  have notin : ∀ {a y}, H a = some y → V.ref a ∉ bv → V.ref a ∉ bv' := fun {a y} e hn q => by
    rcases hG.new a q with h | h
    · exact hn h
    · rw [h] at e; cases e
  have boxOf : ∀ {a}, V.ref a ∈ bv → ∃ y, H a = some y ∧ (∀ C dx, y ≠ .inst C dx) ∧ ∀ v, y ≠ .attrs v := fun {a} hm => by
    obtain ⟨i, hi⟩ := List.mem_iff_getElem?.mp hm
    obtain ⟨r, hr, hb⟩ := tyOf_boxes L.X hi
    cases r with
    | d kvs => obtain ⟨a', ep, q, e⟩ := hb; cases q; exact ⟨_, e, by simp, by simp⟩
    | l xs => obtain ⟨a', q, e⟩ := hb; cases q; exact ⟨_, e, by simp, by simp⟩
    | t xs =>
      rcases hb with ⟨a', q, e⟩ | ⟨t, _, q, _⟩
      · cases q; exact ⟨_, e, by simp, by simp⟩
      · cases q
  obtain ⟨u, hu⟩ := L.attrs
  have hx : V.ref x ∉ bv := fun q => by obtain ⟨y, h1, h2, _⟩ := boxOf q; exact h2 _ _ (Option.some.inj (h1.symm.trans L.inst))
  have hdx : V.ref dx ∉ bv := fun q => by obtain ⟨y, h1, _, h2⟩ := boxOf q; exact h2 _ (Option.some.inj (h1.symm.trans hu))
  refine ⟨⟨hG.keep _ _ L.P.list L.pbv, L.P.len, fun i r e => ?_⟩, ?_, hX, hG.keep _ _ L.inst hx, ⟨u, hG.keep _ _ hu hdx⟩, L.nodup, L.pba, L.pra, L.bra, notin L.P.list L.pbv, notin L.B L.bbv, fun a ha => ?_⟩
  · obtain ⟨a, h1, h2⟩ := L.P.row i r e
    have hn := L.rbv a (List.mem_of_getElem? h1)
    refine ⟨a, h1, ?_⟩
    cases r with
    | d kvs => obtain ⟨ep, e⟩ := h2; exact ⟨ep, hG.keep _ _ e hn⟩
    | l xs => exact hG.keep _ _ h2 hn
    | t xs => exact hG.keep _ _ h2 hn
  · have := hG.keep _ _ L.B L.bbv
    rw [List.take_length] at this
    obtain ⟨t, rfl⟩ := hG.pre
    rw [List.take_left]; exact this
  · obtain ⟨i, hi⟩ := List.mem_iff_getElem?.mp ha
    have hil : i < plan.length := by rw [← L.P.len]; exact (List.getElem?_eq_some_iff.mp hi).1
    obtain ⟨a', h1, h2⟩ := L.P.row i _ (List.getElem?_eq_getElem hil)
    rw [hi] at h1
    obtain rfl := Option.some.inj h1
    obtain ⟨z, hz, _⟩ := h2.some
    exact notin hz (L.rbv _ ha)
end
end Mine
namespace Mine
structure RowFit (len n : Nat) (r : Row) : Prop where
  refs : ∀ j ∈ r.refs, j < len
  small : r.refs.length ≤ n
  keys : ∀ kvs, r = .d kvs → (kvs.map (·.1)).Nodup ∧ ∀ p ∈ kvs, p.1 = "a" ∨ p.1 = ""
structure Fit (plan : List Row) (n : Nat) : Prop where
  rows : ∀ (i : Nat) (r : Row), plan[i]? = some r → RowFit plan.length n r
  len : plan.length ≤ n
  row0 : isDAt plan 0 = true
  row3 : ∃ xs, plan[3]? = some (.l xs)
  row4 : ∃ xs, plan[4]? = some (.l xs)
  seven : 7 ≤ plan.length
theorem Fit.closed {plan : List Row} {n : Nat} (F : Fit plan n) : Closed plan := fun i r e => (F.rows i r e).refs
theorem Fit.ok {plan : List Row} {n : Nat} (F : Fit plan n) (hn : n ≤ 4000) : PlanOK plan := ⟨F.closed, Nat.le_trans F.len hn, fun i r e => Nat.le_trans (F.rows i r e).small hn⟩
theorem Fit.rowsOK {plan : List Row} {n : Nat} (F : Fit plan n) : RowsOK plan := fun i kvs e => (F.rows i _ e).keys kvs rfl
theorem RowFit.mono {l l' n n' : Nat} {r : Row} (h : RowFit l n r) (hl : l ≤ l') (hn : n ≤ n') : RowFit l' n' r := ⟨fun j q => Nat.lt_of_lt_of_le (h.refs j q) hl, Nat.le_trans h.small hn, h.keys⟩
theorem Fit.mono {plan : List Row} {n m : Nat} (F : Fit plan n) (h : n ≤ m) : Fit plan m := ⟨fun i r e => (F.rows i r e).mono (Nat.le_refl _) h, Nat.le_trans F.len h, F.row0, F.row3, F.row4, F.seven⟩
noncomputable def sameKind : Row → Row → Bool
  | .d _, .d _ => true
  | .l _, .l _ => true
  | _, _ => false
theorem Fit.setApp {plan more : List Row} {n n' k : Nat} {r r' : Row} (F : Fit plan n) (hk : plan[k]? = some r) (hs : sameKind r r' = true) (hr : RowFit (plan.length + more.length) n' r') (hm : ∀ q ∈ more, RowFit (plan.length + more.length) n' q)
    (hn : n ≤ n') (hl : plan.length + more.length ≤ n') : Fit (plan.set k r' ++ more) n' := by
  have hkl : k < plan.length := (List.getElem?_eq_some_iff.mp hk).1
  have at_ : ∀ i, i < plan.length → (plan.set k r' ++ more)[i]? = if k = i then some r' else plan[i]? := fun i hi => by
    rw [List.getElem?_append_left (by rw [List.length_set]; exact hi), get_set hkl]
  have h7 := F.seven
  have lst : ∀ i xs, i < plan.length → plan[i]? = some (.l xs) → ∃ xs, (plan.set k r' ++ more)[i]? = some (.l xs) := fun i xs hi e => by
    rw [at_ i hi]
    split
    · rename_i q; subst q
      rw [hk] at e; cases e
      cases r' <;> simp [sameKind] at hs ⊢
    · exact ⟨xs, e⟩
  refine ⟨fun i q e => ?_, by simpa using hl, ?_, ?_, ?_, by simp; lia⟩
  · have hlen : (plan.set k r' ++ more).length = plan.length + more.length := by simp
    rw [hlen]
    rcases get_setApp hkl e with ⟨_, rfl⟩ | ⟨_, e⟩ | ⟨m, _, e⟩
    · exact hr
    · exact (F.rows i q e).mono (by lia) hn
    · exact hm q (List.mem_of_getElem? e)
  · have h0 := F.row0
    unfold isDAt at h0 ⊢
    rw [at_ 0 (by lia)]
    by_cases q : k = 0
    · subst q
      rw [if_pos rfl]
      rw [hk] at h0
      cases r <;> simp at h0
      cases r' <;> simp [sameKind] at hs ⊢
    · rw [if_neg q]; exact h0
  · obtain ⟨xs, e⟩ := F.row3; exact lst 3 xs (by lia) e
  · obtain ⟨xs, e⟩ := F.row4; exact lst 4 xs (by lia) e
theorem Fit.set {plan : List Row} {n n' k : Nat} {r r' : Row} (F : Fit plan n) (hk : plan[k]? = some r) (hs : sameKind r r' = true) (hr : RowFit plan.length n' r') (hn : n ≤ n') : Fit (plan.set k r') n' := by
  have := F.setApp (more := []) hk hs (by simpa using hr) (by simp) hn (by simp; exact Nat.le_trans F.len hn)
  simpa using this
theorem lookup_none_keys {kvs : List (Str × Nat)} {x : Str} (h : kvs.lookup x = none) : x ∉ kvs.map (·.1) := fun q => by
  obtain ⟨p, hp, rfl⟩ := List.mem_map.mp q
  have := List.lookup_eq_none_iff.mp h p hp
  simp at this
theorem keys_snoc {kvs : List (Str × Nat)} {x : Str} {j : Nat} (h : kvs.lookup x = none) (hn : (kvs.map (·.1)).Nodup) : ((kvs ++ [(x, j)]).map (·.1)).Nodup := by
  rw [List.map_append, List.nodup_append]
  refine ⟨hn, by simp, fun a ha b hb e => ?_⟩
  have hb' : b = x := by simpa using hb
  exact lookup_none_keys h (by rw [← hb', ← e]; exact ha)
theorem RowFit.snocD {l l' n n' : Nat} {kvs : List (Str × Nat)} {x : Str} {j : Nat} (h : RowFit l n (.d kvs)) (hl : l ≤ l') (hn : n + 1 ≤ n') (hj : j < l') (hx : x = "a" ∨ x = "") (hk : kvs.lookup x = none) : RowFit l' n' (.d (kvs ++ [(x, j)])) := by
  refine ⟨fun i hi => ?_, ?_, ?_⟩
  · simp only [Row.refs, List.map_append, List.mem_append] at hi
    rcases hi with hi | hi
    · exact Nat.lt_of_lt_of_le (h.refs i hi) hl
    · simp at hi; lia
  · have := h.small
    simp only [Row.refs, List.map_append, List.length_append, List.length_map] at this ⊢
    simp; lia
  · rintro _ e
    cases e
    obtain ⟨h1, h2⟩ := h.keys _ rfl
    refine ⟨keys_snoc hk h1, fun p hp => ?_⟩
    rcases List.mem_append.mp hp with hp | hp
    · exact h2 p hp
    · rw [List.mem_singleton.mp hp]; exact hx
theorem RowFit.snocL {l l' n n' : Nat} {xs : List Nat} {j : Nat} (h : RowFit l n (.l xs)) (hl : l ≤ l') (hn : n + 1 ≤ n') (hj : j < l') : RowFit l' n' (.l (xs ++ [j])) := by
  refine ⟨fun i hi => ?_, ?_, fun kvs e => by cases e⟩
  · simp only [Row.refs, List.mem_append] at hi
    rcases hi with hi | hi
    · exact Nat.lt_of_lt_of_le (h.refs i hi) hl
    · simp at hi; lia
  · have := h.small
    simp only [Row.refs, List.length_append] at this ⊢
    simp; lia
theorem RowFit.nilD {l n : Nat} : RowFit l n (.d []) := ⟨by simp [Row.refs], by simp [Row.refs], by rintro _ e; cases e; simp⟩
theorem putS_keys (kvs : List (Str × Nat)) (x : Str) (j : Nat) : (putS kvs x j).map (·.1) = kvs.map (·.1) ∨ (kvs.lookup x = none ∧ putS kvs x j = kvs ++ [(x, j)]) := by
  induction kvs with
  | nil => exact .inr ⟨rfl, rfl⟩
  | cons p r ih =>
    obtain ⟨y, i⟩ := p
    unfold putS
    by_cases h : y = x
    · rw [if_pos h]; exact .inl rfl
    · rw [if_neg h]
      rcases ih with ih | ⟨h1, h2⟩
      · exact .inl (by rw [List.map_cons, List.map_cons, ih])
      · refine .inr ⟨?_, by rw [h2]; rfl⟩
        rw [List.lookup_cons, beq_false_of_ne (fun q => h q.symm)]; exact h1
theorem putS_mem {kvs : List (Str × Nat)} {x : Str} {j : Nat} : ∀ p ∈ putS kvs x j, p.1 = x ∨ p.1 ∈ kvs.map (·.1) := by
  induction kvs with
  | nil => intro p hp; rw [List.mem_singleton.mp hp]; exact .inl rfl
  | cons q r ih =>
    obtain ⟨y, i⟩ := q
    intro p hp
    unfold putS at hp
    split at hp
    · rename_i h
      rcases List.mem_cons.mp hp with rfl | hp
      · exact .inl h
      · exact .inr (List.mem_map_of_mem (List.mem_cons_of_mem _ hp))
    · rcases List.mem_cons.mp hp with rfl | hp
      · exact .inr (by simp)
      · rcases ih p hp with h | h
        · exact .inl h
        · exact .inr (by rw [List.map_cons]; exact List.mem_cons_of_mem _ h)
theorem RowFit.put {l n : Nat} {kvs : List (Str × Nat)} {x : Str} {j : Nat} (h : RowFit l n (.d kvs)) (hj : j < l) (hx : x = "a" ∨ x = "") : RowFit l (n + 1) (.d (putS kvs x j)) := by
  obtain ⟨h1, h2⟩ := putS_refs x j kvs
  refine ⟨fun i hi => ?_, ?_, ?_⟩
  · rcases h1 i hi with q | q
    · exact h.refs i q
    · rw [q]; exact hj
  · have := h.small
    simp only [Row.refs, List.length_map] at this ⊢
    lia
  · rintro _ e
    cases e
    obtain ⟨g1, g2⟩ := h.keys _ rfl
    refine ⟨?_, fun p hp => ?_⟩
    · rcases putS_keys kvs x j with q | ⟨q1, q2⟩
      · rw [q]; exact g1
      · rw [q2]; exact keys_snoc q1 g1
    · rcases putS_mem p hp with q | q
      · rw [q]; exact hx
      · obtain ⟨r, hr, e⟩ := List.mem_map.mp q
        rw [← e]; exact g2 r hr
theorem Fit.grow1 {plan : List Row} {n k : Nat} {kvs : List (Str × Nat)} {x : Str} (F : Fit plan n) (hk : plan[k]? = some (.d kvs)) (hx : x = "a" ∨ x = "") (hl : kvs.lookup x = none) : Fit (plan.set k (.d (kvs ++ [(x, plan.length)])) ++ [.d []]) (n + 1) := by
  have := F.len
  refine F.setApp hk rfl ((F.rows k _ hk).snocD (by simp) (Nat.le_refl _) (by simp) hx hl) (fun q hq => ?_) (by lia) (by simp; lia)
  rw [List.mem_singleton.mp hq]; exact RowFit.nilD
theorem Fit.grow {n : Nat} : ∀ (rest : List Str) (plan : List Row) (n k : Nat) (kvs : List (Str × Nat)), Fit plan n → plan[k]? = some (.d kvs) → (∀ x ∈ rest, x = "a" ∨ x = "") → (∀ x r, rest = x :: r → kvs.lookup x = none) → Fit (Mine.grow plan k rest).1 (n + rest.length)
  | [], plan, n, k, kvs, F, hk, hx, hl => F
  | x :: r, plan, n, k, kvs, F, hk, hx, hl => by
    rw [grow_cons hk]
    have := Fit.grow (n := n) r _ (n + 1) plan.length [] (F.grow1 hk (hx x List.mem_cons_self) (hl x r rfl)) (by simp) (fun y h => hx y (List.mem_cons_of_mem _ h)) fun _ _ _ => rfl
    rw [List.length_cons, show n + (r.length + 1) = n + 1 + r.length by lia]
    exact this
theorem grow_len : ∀ (rest : List Str) (plan : List Row) (k : Nat) (kvs : List (Str × Nat)), plan[k]? = some (.d kvs) → (grow plan k rest).1.length = plan.length + rest.length
  | [], plan, k, kvs, hk => rfl
  | x :: r, plan, k, kvs, hk => by
    rw [grow_cons hk, grow_len r _ _ [] (by simp)]
    simp; lia
theorem grow_append : ∀ (as bs : List Str) (plan : List Row) (k : Nat) (kvs : List (Str × Nat)), plan[k]? = some (.d kvs) → grow plan k (as ++ bs) = grow (grow plan k as).1 (grow plan k as).2 bs
  | [], bs, plan, k, kvs, hk => rfl
  | x :: r, bs, plan, k, kvs, hk => by
    rw [List.cons_append, grow_cons hk, grow_cons hk, grow_append r bs _ _ [] (by simp)]
theorem grow_at : ∀ (rest : List Str) (plan : List Row) (k : Nat) (kvs : List (Str × Nat)), plan[k]? = some (.d kvs) → ∃ kvs', (grow plan k rest).1[(grow plan k rest).2]? = some (.d kvs') ∧ (rest ≠ [] → kvs' = []) ∧ (rest = [] → kvs' = kvs)
  | [], plan, k, kvs, hk => ⟨kvs, hk, fun h => absurd rfl h, fun _ => rfl⟩
  | x :: r, plan, k, kvs, hk => by
    rw [grow_cons hk]
    obtain ⟨kvs', h1, h3, h4⟩ := grow_at r (plan.set k (.d (kvs ++ [(x, plan.length)])) ++ [.d []]) plan.length [] (by simp)
    refine ⟨kvs', h1, fun _ => ?_, fun h => by cases h⟩
    cases r with
    | nil => exact h4 rfl
    | cons y r => exact h3 (by simp)
theorem grow_keeps : ∀ (rest : List Str) (plan : List Row) (k : Nat) (kvs : List (Str × Nat)) (i : Nat), plan[k]? = some (.d kvs) → i < plan.length → i ≠ k → (grow plan k rest).1[i]? = plan[i]?
  | [], plan, k, kvs, i, hk, hi, hne => rfl
  | x :: r, plan, k, kvs, i, hk, hi, hne => by
    have hkl : k < plan.length := (List.getElem?_eq_some_iff.mp hk).1
    rw [grow_cons hk, grow_keeps r _ _ [] i (by simp) (by simp; lia) (by lia)]
    rw [List.getElem?_append_left (by rw [List.length_set]; exact hi), get_set hkl, if_neg (fun q => hne q.symm)]
theorem grow_first {rest : List Str} {plan : List Row} {k : Nat} {kvs : List (Str × Nat)} {x : Str} (hk : plan[k]? = some (.d kvs)) : (grow plan k (x :: rest)).1[k]? = some (.d (kvs ++ [(x, plan.length)])) := by
  have hkl : k < plan.length := (List.getElem?_eq_some_iff.mp hk).1
  rw [grow_cons hk, grow_keeps rest _ _ [] k (by simp) (by simp; lia) (by lia)]
  rw [List.getElem?_append_left (by rw [List.length_set]; exact hkl), get_set hkl, if_pos rfl]
theorem grow_end_lt {rest : List Str} {plan : List Row} {k : Nat} {kvs : List (Str × Nat)} (hk : plan[k]? = some (.d kvs)) : (grow plan k rest).2 < plan.length + rest.length := by
  obtain ⟨kvs', h, _⟩ := grow_at rest plan k kvs hk
  rw [← grow_len rest plan k kvs hk]
  exact (List.getElem?_eq_some_iff.mp h).1
theorem lookup_snoc {kvs : List (Str × Nat)} {x : Str} {j : Nat} (h : kvs.lookup x = none) : (kvs ++ [(x, j)]).lookup x = some j := by
  rw [List.lookup_append, h]; simp
theorem grow_name {rest : List Str} {plan : List Row} {k : Nat} {kvs : List (Str × Nat)} (hk : plan[k]? = some (.d kvs)) (hl : ∀ x r, rest = x :: r → kvs.lookup x = none) {j : Nat} {x : Str} (hj : rest[j]? = some x) :
    ∃ kj, (grow plan k (rest.take j)).1[(grow plan k (rest.take j)).2]? = some (.d kj) ∧ kj.lookup x = none ∧ grow plan k (rest.take (j + 1)) = ((grow plan k (rest.take j)).1.set (grow plan k (rest.take j)).2 (.d (kj ++ [(x, plan.length + j)])) ++ [.d []], plan.length + j) ∧
      (grow plan k rest).1[(grow plan k (rest.take j)).2]? = some (.d (kj ++ [(x, plan.length + j)])) := by
  obtain ⟨kj, h1, h2, h3⟩ := grow_at (rest.take j) plan k kvs hk
  have hjl : j < rest.length := (List.getElem?_eq_some_iff.mp hj).1
  have hlen := grow_len (rest.take j) plan k kvs hk
  rw [List.length_take, Nat.min_eq_left (by lia)] at hlen
  have hnone : kj.lookup x = none := by
    by_cases h : rest.take j = []
    · rw [h3 h]
      have hj0 : j = 0 := by
        cases j with
        | zero => rfl
        | succ n => cases rest <;> simp at h hjl
      subst hj0
      cases rest with
      | nil => simp at hjl
      | cons y r => cases hj; exact hl _ _ rfl
    · rw [h2 h]; rfl
  have hsplit : rest = rest.take j ++ x :: rest.drop (j + 1) := by
    rw [show x :: rest.drop (j + 1) = rest.drop j by rw [List.drop_eq_getElem_cons hjl]; congr 1; exact (Option.some.inj ((List.getElem?_eq_getElem hjl).symm.trans hj)).symm, List.take_append_drop]
  refine ⟨kj, h1, hnone, ?_, ?_⟩
  · rw [List.take_add_one, hj, Option.toList_some, grow_append _ _ _ _ kvs hk, grow_cons h1, hlen]; rfl
  · have := grow_first (rest := rest.drop (j + 1)) (x := x) h1
    rw [← grow_append _ _ _ _ kvs hk, ← hsplit, hlen] at this
    exact this
theorem endOf_lacks {plan : List Row} {acc : Bool} : ∀ (ks : List Str) (i k : Nat) (rest : List Str), isDAt plan i = true → endOf plan acc ks i = .at k rest → ∃ kvs, plan[k]? = some (.d kvs) ∧ ∀ x r, rest = x :: r → kvs.lookup x = none
  | [], i, k, rest, hi, e => by
    cases e
    obtain ⟨kr, hkr⟩ : ∃ kr, plan[i]? = some (.d kr) := by
      unfold isDAt at hi
      split at hi
      · rename_i kr e; exact ⟨kr, e⟩
      · cases hi
    exact ⟨kr, hkr, fun _ _ h => by cases h⟩
  | x :: ks, i, k, rest, hi, e => by
    obtain ⟨kr, hkr⟩ : ∃ kr, plan[i]? = some (.d kr) := by
      unfold isDAt at hi
      split at hi
      · rename_i kr e; exact ⟨kr, e⟩
      · cases hi
    rw [endOf_cons hkr] at e
    split at e
    · rename_i hl; cases e; exact ⟨kr, hkr, fun y r h => by cases h; exact hl⟩
    · split at e
      · cases e
      · split at e
        · rename_i j' _ hj; exact endOf_lacks ks j' k rest hj e
        · cases e
end Mine
namespace Mine
theorem endOf_len {plan : List Row} {acc : Bool} : ∀ (ks : List Str) (i k : Nat) (rest : List Str), endOf plan acc ks i = .at k rest → rest.length ≤ ks.length
  | [], i, k, rest, e => by cases e; exact Nat.le_refl _
  | x :: ks, i, k, rest, e => by
    unfold endOf at e
    split at e
    · split at e
      · cases e; exact Nat.le_refl _
      · split at e
        · cases e
        · split at e
          · have := endOf_len ks _ k rest e
            simp; omega
          · cases e
    · cases e
theorem due_at {plan : List Row} {kind : Int} {ks : List Str} {i kk : Nat} {rest : List Str} (hkind : kind = 2 ∨ kind = 3 ∨ kind = 4) (hi : isDAt plan i = true) (h : dueOf plan kind ks i = .at kk rest) :
    ∃ kvs, plan[kk]? = some (.d kvs) ∧ (∀ x r, rest = x :: r → kvs.lookup x = none) ∧ (∀ x ∈ rest, x ∈ ks) ∧ rest.length ≤ ks.length ∧
      (kind = 4 → ∃ z, ks.getLast? = some z ∧ (rest = [] → ∀ j, kvs.lookup z = some j → ∃ xs, plan[j]? = some (.l xs))) := by
  by_cases h4 : kind = 4
  · subst h4
    rw [dueOf4] at h
    cases hz : ks.getLast? with
    | none => rw [hz] at h; cases h
    | some z =>
      rw [hz] at h
      simp only at h
      have sub : ∀ x ∈ ks.dropLast, x ∈ ks := fun x hx => List.dropLast_subset _ hx
      have dl : ks.dropLast.length ≤ ks.length := by rw [List.length_dropLast]; omega
      cases he : endOf plan true ks.dropLast i with
      | no msg => rw [he] at h; cases h
      | «at» k r =>
        obtain ⟨kvs, q1, q2⟩ := endOf_lacks _ _ _ _ hi he
        have q3 := endOf_rest _ _ _ _ he
        have q4 := endOf_len _ _ _ _ he
        rw [he] at h
        cases r with
        | cons x r =>
          cases h
          exact ⟨kvs, q1, q2, fun y hy => sub y (q3 y hy), by omega, fun _ => ⟨z, rfl, fun e => by cases e⟩⟩
        | nil =>
          simp only [q1] at h
          cases hl : kvs.lookup z with
          | none =>
            rw [hl] at h; cases h
            exact ⟨kvs, q1, q2, fun y hy => by simp at hy, by simp, fun _ => ⟨z, rfl, fun _ j e => by rw [hl] at e; cases e⟩⟩
          | some j =>
            rw [hl] at h
            simp only at h
            split at h
            · rename_i xs hx
              cases h
              exact ⟨kvs, q1, q2, fun y hy => by simp at hy, by simp, fun _ => ⟨z, rfl, fun _ j' e => by rw [hl] at e; cases e; exact ⟨xs, hx⟩⟩⟩
            · cases h
  · unfold dueOf at h
    rw [if_pos (by omega)] at h
    obtain ⟨kvs, q1, q2⟩ := endOf_lacks _ _ _ _ hi h
    exact ⟨kvs, q1, q2, endOf_rest _ _ _ _ h, endOf_len _ _ _ _ h, fun q => absurd q h4⟩
noncomputable def KeepT (H H' : AHeap) : Prop := ∀ b xs, H b = some (.tup xs) → H' b = some (.tup xs)
theorem KeepT.refl (H : AHeap) : KeepT H H := fun _ _ e => e
theorem KeepT.trans {H H' H'' : AHeap} (h : KeepT H H') (h' : KeepT H' H'') : KeepT H H'' := fun b xs e => h' b xs (h b xs e)
theorem KeepT.of {H H' : AHeap} (h : Ext H H') : KeepT H H' := fun b xs e => h b _ e
theorem KeepT.upd {H : AHeap} {a : Addr} {x y : AObj} (h : H a = some x) (hn : ∀ xs, x ≠ .tup xs) : KeepT H (upd H a y) := fun b xs e => upd_ne (fun q => by rw [q, h] at e; exact hn _ (Option.some.inj e)) e
theorem Grown.keepT {H H' : AHeap} {bv bv' : List V} {plan plan' : List Row} (hG : Grown bv H bv' H') (X : BoxesAt H bv plan) (X' : BoxesAt H' bv' plan') (hC : Closed plan) (ht : ∀ (i : Nat) (xs : List Nat), plan[i]? = some (.t xs) → plan'[i]? = some (.t xs)) : KeepT H H' := fun b xs e => by
  by_cases hb : V.ref b ∈ bv
  · obtain ⟨i, hi⟩ := List.mem_iff_getElem?.mp hb
    obtain ⟨r, hr, hx⟩ := tyOf_boxes X hi
    cases r with
    | d kvs => obtain ⟨a, ep, q, e'⟩ := hx; cases q; rw [e'] at e; cases e
    | l ys => obtain ⟨a, q, e'⟩ := hx; cases q; rw [e'] at e; cases e
    | t ys =>
      rcases hx with ⟨a, q, e'⟩ | ⟨t, _, q, _⟩
      · cases q
        rw [e'] at e; cases e
        obtain ⟨v, h1, h2⟩ := X'.row i _ (ht i ys hr)
        have hi' : bv'[i]? = some (.ref b) := by
          obtain ⟨s, rfl⟩ := hG.pre
          rw [List.getElem?_append_left (List.getElem?_eq_some_iff.mp hi).1]; exact hi
        rw [hi'] at h1; cases h1
        rcases h2 with ⟨a, q, e2⟩ | ⟨t, _, q, _⟩
        · cases q
          obtain ⟨s, rfl⟩ := hG.pre
          rw [e2, boxL_append fun j hj => by rw [X.len]; exact hC i _ hr j hj]
        · cases q
      · cases q
  · exact hG.keep b _ e hb
theorem BoxesAt.noInt {H : AHeap} {bv : List V} {plan : List Row} (X : BoxesAt H bv plan) (hC : Closed plan) {b : Addr} {i : Int} {vs : List V} (e : H b = some (.list (.int i :: vs))) : V.ref b ∉ bv := fun hb => by
  obtain ⟨n, hn⟩ := List.mem_iff_getElem?.mp hb
  obtain ⟨r, hr, hx⟩ := tyOf_boxes X hn
  cases r with
  | d kvs => obtain ⟨a, ep, q, e'⟩ := hx; cases q; rw [e'] at e; cases e
  | l ys =>
    obtain ⟨a, q, e'⟩ := hx
    cases q
    rw [e'] at e
    cases ys with
    | nil => simp [boxL] at e
    | cons j ys =>
      have hj : j < bv.length := by rw [X.len]; exact hC n _ hr j (by simp [Row.refs])
      obtain ⟨r2, hr2, hx2⟩ := tyOf_boxes X (val_at hj)
      simp only [boxL, List.map_cons, Option.some.injEq, AObj.list.injEq, List.cons.injEq] at e
      rw [e.1] at hx2
      cases r2 with
      | d kvs => obtain ⟨a, ep, q, _⟩ := hx2; cases q
      | l ys => obtain ⟨a, q, _⟩ := hx2; cases q
      | t ys =>
        rcases hx2 with ⟨a, q, _⟩ | ⟨t, _, q, _⟩ <;> cases q
  | t ys =>
    rcases hx with ⟨a, q, e'⟩ | ⟨t, _, q, _⟩
    · cases q; rw [e'] at e; cases e
    · cases q
theorem Grown.ofExt {H H1 H' : AHeap} {bv bv' : List V} (h : Ext H H1) (g : Grown bv H1 bv' H') : Grown bv H bv' H' :=
  ⟨g.pre, fun b y e hb => g.keep b y (h b y e) hb, fun a ha => by
    rcases g.new a ha with q | q
    · exact .inl q
    · refine .inr ?_
      cases e : H a with
      | none => rfl
      | some y => rw [h a y e] at q; cases q⟩
theorem Grown.ext {H H' H2 : AHeap} {bv bv' : List V} (g : Grown bv H bv' H') (h : Ext H' H2) : Grown bv H bv' H2 := ⟨g.pre, fun b y e hb => h b y (g.keep b y e hb), g.new⟩
theorem Grown.same {H H' : AHeap} {bv bv' : List V} {plan : List Row} (g : Grown bv H bv' H') (X : BoxesAt H bv plan) (X' : BoxesAt H' bv' plan) : bv' = bv := by
  obtain ⟨s, rfl⟩ := g.pre
  have h1 := X.len
  have h2 := X'.len
  rw [List.length_append] at h2
  have : s = [] := List.eq_nil_of_length_eq_zero (by omega)
  rw [this, List.append_nil]
theorem grow_t {rest : List Str} {plan : List Row} {k : Nat} {kvs : List (Str × Nat)} (hk : plan[k]? = some (.d kvs)) {i : Nat} {xs : List Nat} (h : plan[i]? = some (.t xs)) : (grow plan k rest).1[i]? = some (.t xs) := by
  rw [grow_keeps rest plan k kvs i hk (List.getElem?_eq_some_iff.mp h).1 (fun q => by subst q; rw [hk] at h; cases h)]; exact h
theorem growA_cases {p : List Row} {e : Nat} {z : Str} {kvs : List (Str × Nat)} (he : p[e]? = some (.d kvs)) : growA p e [] z = match kvs.lookup z with
    | none => p.set e (.d (kvs ++ [(z, p.length)])) ++ [.l [p.length + 1], .d []]
    | some j => match p[j]? with
      | some (.l xs) => p.set j (.l (xs ++ [p.length])) ++ [.d []]
      | _ => p := by
  show (match p[e]? with | some (.d kvs) => _ | _ => _) = _
  rw [he]; rfl
theorem growA_t {p : List Row} {e i : Nat} {z : Str} {kvs : List (Str × Nat)} {xs : List Nat} (he : p[e]? = some (.d kvs)) (hi : p[i]? = some (.t xs)) : (growA p e [] z)[i]? = some (.t xs) := by
  have hil : i < p.length := (List.getElem?_eq_some_iff.mp hi).1
  have hel : e < p.length := (List.getElem?_eq_some_iff.mp he).1
  rw [growA_cases he]
  split
  · rw [List.getElem?_append_left (by rw [List.length_set]; exact hil), get_set hel, if_neg (fun q => by subst q; rw [he] at hi; cases hi)]; exact hi
  · split
    · rename_i j _ _ ys hj
      have hjl : j < p.length := (List.getElem?_eq_some_iff.mp hj).1
      rw [List.getElem?_append_left (by rw [List.length_set]; exact hil), get_set hjl, if_neg (fun q => by subst q; rw [hj] at hi; cases hi)]; exact hi
    · exact hi
theorem Fit.growA {p : List Row} {e n : Nat} {z : Str} {kvs : List (Str × Nat)} (F : Fit p n) (he : p[e]? = some (.d kvs)) (hz : z = "a" ∨ z = "") : Fit (Mine.growA p e [] z) (n + 2) := by
  have hl := F.len
  rw [growA_cases he]
  split
  · rename_i hlk
    refine F.setApp he rfl ((F.rows e _ he).snocD (by simp) (by omega) (by simp) hz hlk) (fun q hq => ?_) (by omega) (by simp; omega)
    simp only [List.mem_cons, List.not_mem_nil, or_false] at hq
    rcases hq with rfl | rfl
    · exact ⟨fun j hj => by simp [Row.refs] at hj; simp; omega, by simp [Row.refs], fun _ e => by cases e⟩
    · exact RowFit.nilD
  · split
    · rename_i j _ _ ys hj
      refine F.setApp hj rfl ((F.rows j _ hj).snocL (by simp) (by omega) (by simp)) (fun q hq => ?_) (by omega) (by simp; omega)
      rw [List.mem_singleton.mp hq]; exact RowFit.nilD
    · exact F.mono (by omega)
theorem LM.law {H : AHeap} {C pa ba x dx : Addr} {ra : List Addr} {plan : List Row} {bv : List V} {n N : Nat} (L : LM H C pa ba x dx ra plan bv n plan) (hn : n = plan.length) (F : Fit plan N) : LawAt H C pa ba x dx ra plan bv := by
  have hbl := L.X.len
  have hB := L.B
  rw [List.take_of_length_le (by omega)] at hB
  exact ⟨L.P, hB, L.X, F.closed, L.inst, L.attrs, F.row0, F.row3, F.row4, F.seven, L.nodup, L.pba, L.pra, L.bra, L.pbv, L.bbv, L.rbv⟩
end Mine
namespace Mine
theorem endOf_msg {plan : List Row} {acc : Bool} {msg : Str} : ∀ (ks : List Str) (i : Nat), endOf plan acc ks i = .no msg → msg = "IndexError" ∨ msg = nestMsg
  | [], i, e => by cases e
  | x :: ks, i, e => by
    unfold endOf at e
    split at e
    · split at e
      · cases e
      · split at e
        · cases e; exact .inl rfl
        · split at e
          · exact endOf_msg ks _ e
          · cases e; exact .inr rfl
    · cases e; exact .inr rfl
theorem due_msg {plan : List Row} {kind : Int} {ks : List Str} {i : Nat} {msg : Str} (h : dueOf plan kind ks i = .no msg) : PyData.strOk msg = true := by
  have ok : msg = "IndexError" ∨ msg = nestMsg ∨ msg = listMsg → PyData.strOk msg = true := by
    rintro (rfl | rfl | rfl) <;> decide +kernel
  refine ok ?_
  have e1 : ∀ {acc ks i}, endOf plan acc ks i = .no msg → msg = "IndexError" ∨ msg = nestMsg ∨ msg = listMsg := fun {acc ks i} e => by
    rcases endOf_msg ks i e with q | q
    · exact .inl q
    · exact .inr (.inl q)
  unfold dueOf at h
  split at h
  · exact e1 h
  · split at h
    · cases h; exact .inl rfl
    · split at h
      · split at h
        · split at h
          · split at h
            · cases h
            · cases h; exact .inr (.inr rfl)
          · cases h
        · cases h
      · exact e1 h
theorem BoxesAt.noAttrs {H : AHeap} {bv : List V} {plan : List Row} (X : BoxesAt H bv plan) {b : Addr} {v : V} (e : H b = some (.attrs v)) : V.ref b ∉ bv := fun hb => by
  obtain ⟨n, hn⟩ := List.mem_iff_getElem?.mp hb
  obtain ⟨r, hr, hx⟩ := tyOf_boxes X hn
  cases r with
  | d kvs => obtain ⟨a, ep, q, e'⟩ := hx; cases q; rw [e'] at e; cases e
  | l ys => obtain ⟨a, q, e'⟩ := hx; cases q; rw [e'] at e; cases e
  | t ys =>
    rcases hx with ⟨a, q, e'⟩ | ⟨t, _, q, _⟩
    · cases q; rw [e'] at e; cases e
    · cases q
end Mine
namespace Mine
theorem LM.setBox {H : AHeap} {C pa ba x dx : Addr} {ra : List Addr} {plan : List Row} {bv : List V} {n : Nat} {plan' : List Row} (L : LM H C pa ba x dx ra plan bv n plan') (hC : Closed plan') {k : Nat} {r : Row} {cont : Addr} {w y : AObj} (hk : k < plan'.length) (hb : bv[k]? = some (.ref cont))
    (hw : H cont = some w) (n1 : ∀ C dx, w ≠ .inst C dx) (n2 : ∀ v, w ≠ .attrs v) (hr : BoxAt (upd H cont y) bv (.ref cont) r) (hnt : ∀ xs, r ≠ .t xs) : LM (upd H cont y) C pa ba x dx ra plan bv n (plan'.set k r) := by
  have hm : V.ref cont ∈ bv := List.mem_of_getElem? hb
  obtain ⟨v, hv⟩ := L.attrs
  refine ⟨⟨upd_ne (fun q => L.pbv (q ▸ hm)) L.P.list, L.P.len, fun i r' e => ?_⟩, upd_ne (fun q => L.bbv (q ▸ hm)) L.B, L.X.setRow hC hk hb hr hnt fun a z _ hne e => upd_ne hne e,
    upd_ne (fun q => n1 C dx (Option.some.inj (hw.symm.trans (q ▸ L.inst)))) L.inst, ⟨v, upd_ne (fun q => n2 (.ref v) (Option.some.inj (hw.symm.trans (q ▸ hv)))) hv⟩, L.nodup, L.pba, L.pra, L.bra, L.pbv, L.bbv, L.rbv⟩
  obtain ⟨a, h1, h2⟩ := L.P.row i r' e
  have hne : a ≠ cont := fun q => L.rbv a (List.mem_of_getElem? h1) (q ▸ hm)
  refine ⟨a, h1, ?_⟩
  cases r' with
  | d kvs => obtain ⟨ep, e⟩ := h2; exact ⟨ep, upd_ne hne e⟩
  | l xs => exact upd_ne hne h2
  | t xs => exact upd_ne hne h2
end Mine
namespace Mine
local macro_rules | `(tactic| walk_at "lk") => `(tactic| first | assumption | with_reducible exact setL_same | exact setL_ne (by decide +kernel) (by walk_at "lk"))
local macro_rules | `(tactic| walk_at "hp") => `(tactic| first | assumption | with_reducible exact upd_same | exact upd_fresh (by assumption) (by walk_at "hp") | exact upd_ne (by first | assumption | exact Ne.symm (by assumption)) (by walk_at "hp"))
section
noncomputable abbrev L2.stms : List Stmt := PySem.Challenge.pw_kp0043_02.main.body
noncomputable abbrev L2.digits : Stmt := stm L2.stms 3
structure Blt (c : Cx) : Prop where
  len : Gl c "len" (.builtin "len")
  divmod : Gl c "divmod" (.builtin "divmod")
  isinstance : Gl c "isinstance" (.builtin "isinstance")
  list : Gl c "list" (.type "list")
  dict : Gl c "dict" (.type "dict")
  str : Gl c "str" (.type "str")
  range : Gl c "range" (.type "range")
  zip : Gl c "zip" (.type "zip")
  keyError : Gl c "KeyError" (.type "KeyError")
  indexError : Gl c "IndexError" (.type "IndexError")
  imp : importsNone c.p = true
  tree : c.prog.given.tree = none
noncomputable def DigitsOK (ds : List Int) : Prop := (∀ d ∈ ds, 0 ≤ d ∧ d < 163840) ∧ ds.length ≤ 48
theorem ext_none {H H' : AHeap} {p : Addr} (h : Ext H H') (e : H' p = none) : H p = none := by
  cases q : H p with
  | none => rfl
  | some y => rw [h p y q] at e; cases e
theorem L2.digits_ok {c : Cx} {A : Around} {f a : Addr} {ns : List Int} {H : AHeap} (G : Blt c) (F : DefAt c f L2.digits) (hA : Room A) (ha : BaseL c a (ns.map .int)) (hw : ∀ n ∈ ns, IntMulOk 2 n ∧ IntMulOk (-2) n) (hlen : ns.length < 100) :
    FnV c A f [.ref a] [] H (fun v H' => ∃ p ds, v = .ref p ∧ H p = none ∧ H' p = some (.list (ds.map .int)) ∧ Ext H H' ∧ DigitsOK ds) NoX := by
  refine FnV.top F hA ["script"] rfl (fun fd rvs h1 h2 h3 hl => ?_) (by rfl) fun k hk => ?_
  · obtain ⟨x, rfl⟩ := len1 hl
    cases fd; simp only at h1 h2 h3; subst h1; subst h2; subst h3; rfl
  refine Mine.hideG fun GG back => ?_
  obtain ⟨rfl, sv, hfr, hdep, hun, hhd, hX, hhere⟩ := hk
  refine back ?_
  clear back
  show W k (execs (fnBody L2.digits) k.env) (setL noLoc "script" (.ref a)) H _
  refine Mine.hideG fun GG back => ?_
  obtain ⟨gLen, gDivmod, gIsi, gList, gDict, gStr, gRange, gZip, gKE, gIE, imp, tree⟩ := G
  refine back ?_
  clear back
  refine W_cons' ?_
  refine W_Assign ?_ (stor (by rfl)) (by rfl)
  refine W_List ?_
  refine WItems_nil ?_
  refine ⟨by decide, fun D hD => ?_⟩
  refine contQ_next ?_
  refine W_cons' ?_
  have hroom : Roomy k := Roomy.of hfr (by have := hA.depth; lia) imp tree rfl rfl
  have hh : k.A.handled = none := hhd.trans hA.handled
  -- the loop over the script
  refine W_For ?_
  refine W_Name (by walk_at "lk") ?_
  refine ⟨_, _, _, fun i m' H' => m' "script" = some (.ref a) ∧ m' "digits" = some (.ref D) ∧ Ext H H' ∧ ∃ ds : List Int, H' D = some (.list (ds.map .int)) ∧ (∀ d ∈ ds, 0 ≤ d ∧ d < 163840) ∧ ds.length ≤ 40,
    WIter_base hh ha, ⟨by walk_at "lk", by walk_at "lk", Ext.upd hD, [], upd_same, by simp, by simp⟩, fun i m' H' q => trivial, ?_, ?_⟩
  · intro i x m' H' hi hR hg58_6
    refine Mine.hideG fun GG back => ?_
    obtain ⟨hs, hd, hE, ds, hH, hds, hl⟩ := hg58_6
    refine back ?_
    clear back
    obtain ⟨n, hn, rfl⟩ : ∃ n ∈ ns, x = .int n := by
      rw [List.getElem?_map, Option.map_eq_some_iff] at hR
      refine Mine.hideG fun GG back => ?_
      obtain ⟨n, h1, rfl⟩ := hR
      refine back ?_
      clear back
      exact ⟨n, List.mem_of_getElem? h1, rfl⟩
    refine WAs_Name (stor (by rfl)) ?_
    refine W_cons' ?_
    refine W_Assign ?_ (stor (by rfl)) (by rfl)
    refine WV_cut (fun v m1 H1 => ∃ r : Int, v = .int r ∧ 0 ≤ r ∧ m1 = setL m' "x" (.int n) ∧ H1 = H') ?_ ?_
    · refine W_IfExp ?_
      refine WT_Compare ?_
      refine W_Name (by walk_at "lk") ?_
      refine W_int ?_
      refine WCmp_ge ?_
      refine WTr_bool ?_
      refine ite_dec (fun h => ?_) (fun h => ?_)
      · refine W_BinOp ?_
        refine W_int ?_
        refine W_Name (by walk_at "lk") ?_
        refine WBin_mul (hw n hn).1 ?_
        exact ⟨_, rfl, by lia, rfl, rfl⟩
      · refine W_BinOp ?_
        refine W_BinOp ?_
        refine W_UnaryOp ?_
        refine W_int ?_
        refine WUn_neg ?_
        refine W_Name (by walk_at "lk") ?_
        refine WBin_mul (hw n hn).2 ?_
        refine W_int ?_
        refine WBin_sub ?_
        exact ⟨_, rfl, by lia, rfl, rfl⟩
    · intro _ _ _ hg89_3
      refine Mine.hideG fun GG back => ?_
      obtain ⟨r, rfl, hr, rfl, rfl⟩ := hg89_3
      refine back ?_
      clear back
      refine contQ_next ?_
      refine W_cons' ?_
      refine W_While (fun j m1 H1 => m1 "script" = some (.ref a) ∧ m1 "digits" = some (.ref D) ∧ Ext H H1 ∧ ∃ r : Int, m1 "rest" = some (.int r) ∧ 0 ≤ r ∧ ∃ ds : List Int, H1 D = some (.list (ds.map .int)) ∧ (∀ d ∈ ds, 0 ≤ d ∧ d < 163840) ∧ ds.length + j = 40) (40 - ds.length)
        ⟨by walk_at "lk", by walk_at "lk", hE, r, by walk_at "lk", hr, ds, hH, hds, by lia⟩ ?_
      intro j m1 H1 hg94_3
      refine Mine.hideG fun GG back => ?_
      obtain ⟨hs1, hd1, hE1, r, hr1, hr0, ds, hH1, hds1, hl1⟩ := hg94_3
      refine back ?_
      clear back
      refine WT_Compare ?_
      refine W_CallB (by assumption) (kindS (by rfl)) ?_
      refine WItems_cons ?_
      refine W_Name (by walk_at "lk") ?_
      refine WItems_nil ?_
      refine WCall_lenL hH1 (by simp; lia) ?_
      refine W_int ?_
      refine WCmp_lt ?_
      refine WTr_bool ?_
      refine ite_dec (fun h => ?_) (fun h => ?_)
      · rw [List.length_map] at h
        refine W_cons' ?_
        refine W_AssignTup ?_
        refine W_CallB (by assumption) (kindS (by rfl)) ?_
        refine WItems_cons ?_
        refine W_Name (by walk_at "lk") ?_
        refine WItems_cons ?_
        refine W_int ?_
        refine WItems_nil ?_
        refine WCall_divmod hroom (by decide) (fun p hp => ?_)
        have hpD : D ≠ p := fun q => by rw [← q, hH1] at hp; cases hp
        refine WAs_Tup hh upd_same rfl (by rfl) (by simp [assignEach]) ?_
        refine WAsL_cons ?_
        refine WAs_Name (stor (by rfl)) ?_
        refine WAsL_cons ?_
        refine WAs_Name (stor (by rfl)) ?_
        refine WAsL_nil ?_
        refine contQ_next ?_
        refine W_cons' ?_
        refine W_ExprStmt ?_
        refine W_CallM' PySem.F.plainAttrs_list PySem.F.slot_list_append PySem.F.type_list_append ?_
        refine W_Name (by walk_at "lk") ?_
        refine ⟨onList (by walk_at "hp"), ?_⟩
        refine WItems_cons ?_
        refine W_Name (by walk_at "lk") ?_
        refine WItems_nil ?_
        refine WCall_append (upd_fresh hp hH1) (by simp [sizeLine]; lia) ?_
        refine contQ_next ?_
        refine W_cons' ?_
        refine W_If ?_
        refine WT_Compare ?_
        refine W_Name (by walk_at "lk") ?_
        refine W_int ?_
        refine WCmp_eq ?_
        refine WTr_bool ?_
        have hq : 0 ≤ r.fdiv 163840 := by rw [Int.fdiv_eq_ediv_of_nonneg _ (by decide)]; exact Int.ediv_nonneg hr0 (by decide)
        have hmod : 0 ≤ r.fmod 163840 ∧ r.fmod 163840 < 163840 := by
          rw [Int.fmod_eq_emod_of_nonneg _ (by decide)]
          exact ⟨Int.emod_nonneg _ (by decide), Int.emod_lt_of_pos _ (by decide)⟩
        have hE2 : Ext H (upd (upd H1 p (.tup [.int (r.fdiv 163840), .int (r.fmod 163840)])) D (.list (ds.map .int ++ [.int (r.fmod 163840)]))) := fun b y e => by
          refine upd_ne (fun q => ?_) (upd_fresh hp (hE1 b y e))
          subst q; rw [hD] at e; cases e
        have hnew : ∀ d ∈ ds ++ [r.fmod 163840], 0 ≤ d ∧ d < 163840 := fun d hd => by
          rcases List.mem_append.mp hd with h | h
          · exact hds1 d h
          · rw [List.mem_singleton.mp h]; exact hmod
        refine ite_dec (fun h0 => ?_) (fun h0 => ?_)
        · refine W_cons' ?_
          refine W_Break ?_
          refine contQ_brk ?_
          refine contQ_brk ?_
          refine loopQ_brk ?_
          refine contQ_next ?_
          refine W_nil ?_
          refine loopQ_next ?_
          exact ⟨by walk_at "lk", by walk_at "lk", hE2, ds ++ [r.fmod 163840], by rw [List.map_append]; exact upd_same, hnew, by simp; lia⟩
        · refine W_nil ?_
          refine contQ_next ?_
          refine W_nil ?_
          refine loopQ_next ?_
          exact ⟨j - 1, by lia, by walk_at "lk", by walk_at "lk", hE2, _, by walk_at "lk", hq, ds ++ [r.fmod 163840], by rw [List.map_append]; exact upd_same, hnew, by simp; lia⟩
      · refine contQ_next ?_
        refine W_nil ?_
        refine loopQ_next ?_
        exact ⟨by walk_at "lk", by walk_at "lk", hE1, ds, hH1, hds1, by lia⟩
  · intro m' H' hg170_2
    refine Mine.hideG fun GG back => ?_
    obtain ⟨hs, hd, hE, ds, hH, hds, hl⟩ := hg170_2
    refine back ?_
    clear back
    refine contQ_next ?_
    refine W_cons' ?_
    refine W_Return' ?_
    refine W_BinOp ?_
    refine W_Name (by walk_at "lk") ?_
    refine W_List ?_
    refine WItems_cons ?_
    refine W_int ?_
    refine WItems_cons ?_
    refine W_int ?_
    refine WItems_cons ?_
    refine W_int ?_
    refine WItems_cons ?_
    refine W_int ?_
    refine WItems_cons ?_
    refine W_int ?_
    refine WItems_cons ?_
    refine W_int ?_
    refine WItems_cons ?_
    refine W_int ?_
    refine WItems_cons ?_
    refine W_int ?_
    refine WItems_nil ?_
    refine ⟨by decide, fun p hp => ?_⟩
    refine WBin_addL (upd_fresh hp hH) upd_same (by simp [sizeLine]; lia) fun p2 hp2 => ?_
    intro uR huR
    refine contQ_ret ?_
    refine RQ_ret huR ?_
    refine ⟨p2, ds ++ [42, 122, 24, 42, 23, 20479, 9, 7], rfl, ext_none (hE.trans (Ext.upd hp)) hp2, by rw [List.map_append]; exact upd_same, (hE.trans (Ext.upd hp)).trans (Ext.upd hp2), fun d hd => ?_, by simp; lia⟩
    rcases List.mem_append.mp hd with h | h
    · exact hds d h
    · exact (show ∀ d ∈ ([42, 122, 24, 42, 23, 20479, 9, 7] : List Int), 0 ≤ d ∧ d < 163840 by decide) d h
end
section
noncomputable abbrev L2.stmsC : List Stmt := PySem.Challenge.pw_kp0043_02.main.body
noncomputable abbrev L2.cls : Stmt := stm L2.stmsC 1
noncomputable abbrev L2.mI : Stmt := stm (fnBody L2.cls) 0
noncomputable abbrev L2.mG : Stmt := stm (fnBody L2.cls) 1
noncomputable abbrev L2.mA : Stmt := stm (fnBody L2.cls) 2
theorem L2.init_ok {c : Cx} {A : Around} {C fI a dx : Addr} {H : AHeap} (hC : ClsAt c C fI) (F : DefAt c fI L2.mI) (hA : Room A) (ha : H a = some (.inst C dx)) (hd : H dx = some .attrs0) :
    FnV c A fI [.ref a] [] H (fun v H' => v = .none ∧ ∃ d, H d = none ∧ H' = upd (upd H d (.dict [] 0)) dx (.attrs (.ref d))) NoX := by
  refine FnV.top F hA ["self"] rfl (fun fd rvs h1 h2 h3 hl => ?_) (by rfl) fun k hk => ?_
  · obtain ⟨x, rfl⟩ := len1 hl
    cases fd; simp only at h1 h2 h3; subst h1; subst h2; subst h3; rfl
  refine Mine.hideG fun GG back => ?_
  obtain ⟨rfl, sv, hfr, hdep, hun, hhd, hX, hhere⟩ := hk
  refine back ?_
  clear back
  show W k (execs (fnBody L2.mI) k.env) (setL noLoc "self" (.ref a)) H _
  refine W_cons' ?_
  refine W_setDict (fI := fI) ?_
  refine W_Dict0 ?_
  intro d hd'
  refine ⟨a, C, dx, setL_same, hC, upd_fresh hd' ha, .inl (upd_fresh hd' hd), ?_⟩
  refine contQ_next ?_
  refine W_nil ?_
  exact RQ_next ⟨rfl, d, hd', rfl⟩
noncomputable def GwV (acc : Bool) (Q : Addr → AHeap → Prop) (X : String → Option (List V) → AHeap → Prop) (r : List Str) (v : V) (H : AHeap) : Prop :=
  tyOf H v ≠ none ∧ (∀ a xs, v = .ref a → H a = some (.list xs) → xs.length < 2 ^ 62) ∧ match lastOf acc H v with
      | none => X "IndexError" none H
      | some w => tyOf H w ≠ none ∧ if isDict H w = true then ∃ d, w = .ref d ∧ Gw acc Q X r d H else ∀ t, X "KeyError" (some [.str nestMsg t]) H
theorem isDict_ty {H : AHeap} {w : V} : decide (tyOf H w = some "dict") = isDict H w := by
  cases w with
  | ref a =>
    rcases e : H a with _ | x
    · simp [tyOf, isDict, e]
    · cases x <;> simp [tyOf, isDict, e]
  | _ => rfl
theorem Gw.cons {acc : Bool} {Q : Addr → AHeap → Prop} {X : String → Option (List V) → AHeap → Prop} {x : Str} {r : List Str} {cont : Addr} {H : AHeap} (h : Gw acc Q X (x :: r) cont H) :
    ∃ kvs ep, H cont = some (.dict kvs ep) ∧ kvs.length < sizeLine ∧ ((getK kvs (.inr x) = none ∧ ∀ d, H d = none → Gw acc Q X r d (upd (upd H d (.dict [] 0)) cont (.dict (kvs ++ [(.inr x, .ref d)]) (ep + 1)))) ∨ ∃ v, getK kvs (.inr x) = some v ∧ GwV acc Q X r v H) := by
  refine Mine.hideG fun GG back => ?_
  obtain ⟨kvs, ep, h1, h2, h3⟩ := h
  refine back ?_
  clear back
  refine ⟨kvs, ep, h1, h2, ?_⟩
  cases e : getK kvs (.inr x) with
  | none => rw [e] at h3; exact .inl ⟨rfl, h3⟩
  | some v => rw [e] at h3; exact .inr ⟨v, rfl, h3⟩
theorem L2.nest_body {k : Wk} {x dx kt b0 C fI : Addr} {acc : Bool} {keys : List (Str × Tok)} {m : Loc} {H : AHeap} {Q : Addr → AHeap → Prop} {X : String → Option (List V) → AHeap → Prop} (sv : SEnv k (fnScope L2.mG) (cellNames (fnScope L2.mG).names))
    (G : Blt k.c) (hC : ClsAt k.c C fI) (hX : k.X = fun cls xs _ H => X cls xs H) (here : k.here) (hh : k.A.handled = none)
    (hs : m "self" = some (.ref x)) (hkey : m "key" = some (.ref kt)) (hacc : m "access_lists" = some (.bool acc))
    (hx : H x = some (.inst C dx)) (hd : H dx = some (.attrs (.ref b0))) (hkt : H kt = some (.tup (keys.map fun p => .str p.1 p.2)))
    (h : Gw acc Q X (keys.map (·.1)) b0 H) : W k (execs (fnBody L2.mG) k.env) m H (RQ fun v H' => ∃ a, v = .ref a ∧ Q a H') := by
  refine Mine.hideG fun GG back => ?_
  obtain ⟨gLen, gDivmod, gIsi, gList, gDict, gStr, gRange, gZip, gKE, gIE, imp, tree⟩ := G
  refine back ?_
  clear back
  refine W_cons' ?_
  refine W_Assign ?_ (stor (by rfl)) (by rfl)
  refine W_getDict hC hs hx hd (fun i => by simp) ?_
  refine contQ_next ?_
  refine W_cons' ?_
  refine W_For ?_
  refine W_Name (by walk_at "lk") ?_
  refine ⟨_, _, _, fun i m' H' => m' "access_lists" = some (.bool acc) ∧ H' kt = some (.tup (keys.map fun p => .str p.1 p.2)) ∧ ∃ cont, m' "cont" = some (.ref cont) ∧ Gw acc Q X ((keys.drop i).map (·.1)) cont H',
    WIter_tup hh hkt, ⟨by walk_at "lk", hkt, b0, by walk_at "lk", h⟩, fun i m' H' q => q.2.1, ?_, ?_⟩
  · intro i v m' H' hi hR hg72_6
    refine Mine.hideG fun GG back => ?_
    obtain ⟨ha, hk', cont, hcont, hG⟩ := hg72_6
    refine back ?_
    clear back
    rw [List.getElem?_map, Option.map_eq_some_iff] at hR
    refine Mine.hideG fun GG back => ?_
    obtain ⟨⟨y, t⟩, hy, rfl⟩ := hR
    refine back ?_
    clear back
    have hi' : i < keys.length := (List.getElem?_eq_some_iff.mp hy).1
    have hdrop : keys.drop i = (y, t) :: keys.drop (i + 1) := by
      rw [List.drop_eq_getElem_cons hi', (List.getElem?_eq_some_iff.mp hy).2]
    rw [hdrop, List.map_cons] at hG
    refine Mine.hideG fun GG back => ?_
    obtain ⟨kvs, ep, hc, hl, hG⟩ := hG.cons
    refine back ?_
    clear back
    refine WAs_Name (stor (by rfl)) ?_
    refine W_cons' ?_
    refine W_cut (fun (fl : Flow) m1 H1 => fl = .next ∧ m1 = setL m' "k" (.str y t) ∧ H1 kt = some (.tup (keys.map fun p => .str p.1 p.2)) ∧ ∃ kvs' ep' v, H1 cont = some (.dict kvs' ep') ∧ getK kvs' (.inr y) = some v ∧ GwV acc Q X ((keys.drop (i + 1)).map (·.1)) v H1) ?_ ?_
    · refine W_If ?_
      refine WT_Compare ?_
      refine W_Name (by walk_at "lk") ?_
      refine W_Name (by walk_at "lk") ?_
      refine WCmp_notInDict hc (key := .inr y) (by simp [isKV]) ?_
      refine WTr_bool ?_
      rcases hG with ⟨hg, hG⟩ | ⟨v, hg, hG⟩
      · rw [hg, Option.isSome_none, Bool.not_false, if_pos rfl]
        refine W_cons' ?_
        refine W_AssignSub ?_
        refine W_Dict0 ?_
        intro d hd'
        refine W_Name (by walk_at "lk") ?_
        refine W_Name (by walk_at "lk") ?_
        refine WSet_dict (upd_fresh hd' hc) (key := .inr y) (by simp [isKV]) (Nat.le_of_lt hl) ?_
        refine contQ_next ?_
        refine W_nil ?_
        have hcd : cont ≠ d := fun q => by rw [q, hd'] at hc; cases hc
        have hck : kt ≠ cont := fun q => by rw [q, hc] at hk'; cases hk'
        rw [putK_new hg, epK, hg]
        refine ⟨rfl, rfl, upd_ne hck (upd_fresh hd' hk'), _, _, .ref d, upd_same, ?_, ?_⟩
        · simp only [getK_append_new hg]
        · have hdd : upd (upd H' d (.dict [] 0)) cont (.dict (kvs ++ [(.inr y, .ref d)]) (ep + 1)) d = some (.dict [] 0) := upd_ne (Ne.symm hcd) upd_same
          refine ⟨?_, ?_, ?_⟩
          · rw [Option.isSome_none, if_neg (by simp)]; simp [tyOf, hdd]
          · rintro a xs e1 e2
            cases e1
            rw [Option.isSome_none, if_neg (by simp)] at e2
            rw [hdd] at e2; cases e2
          · rw [Option.isSome_none, if_neg (by simp)]
            simp only [lastOf, hdd, tyOf, isDict, if_true]
            exact ⟨by simp, d, rfl, hG d hd'⟩
      · rw [hg, Option.isSome_some, Bool.not_true, if_neg Bool.false_ne_true]
        refine W_nil ?_
        exact ⟨rfl, rfl, hk', kvs, ep, v, hc, hg, hG⟩
    · intro _ _ H1 hg118_3
      refine Mine.hideG fun GG back => ?_
      obtain ⟨rfl, rfl, hk1, kvs', ep', v, hc1, hg1, hty, hlen, hG1⟩ := hg118_3
      refine back ?_
      clear back
      refine contQ_next ?_
      refine W_cons' ?_
      refine W_Assign ?_ (stor (by rfl)) (by rfl)
      refine W_Subscript ?_
      refine W_Name (by walk_at "lk") ?_
      refine W_Name (by walk_at "lk") ?_
      refine WSub_dict hc1 (key := .inr y) (by simp [isKV]) hg1 ?_
      refine contQ_next ?_
      refine W_cons' ?_
      refine W_cut (fun (fl : Flow) m1 H2 => fl = .next ∧ H1 = H2 ∧ m1 "access_lists" = some (.bool acc) ∧ ∃ w, m1 "cont" = some w ∧ lastOf acc H1 v = some w) ?_ ?_
      · refine W_If ?_
        refine WT_And ?_
        refine W_allTrue_and ?_
        refine WT_plain ?_
        refine W_Name (by walk_at "lk") ?_
        refine WTr_bool ?_
        cases acc with
        | false =>
          refine iteF ?_
          refine iteF ?_
          refine W_nil ?_
          refine ⟨rfl, rfl, by walk_at "lk", v, by walk_at "lk", ?_⟩
          cases v with
          | ref a => rcases e : H1 a with _ | x; simp [lastOf, e]; cases x <;> simp [lastOf, e]
          | _ => rfl
        | true =>
          refine iteT ?_
          refine W_allTrue_and ?_
          refine WT_plain ?_
          refine W_CallB (by assumption) (kindS (by rfl)) ?_
          refine WItems_cons ?_
          refine W_Name setL_same ?_
          refine WItems_cons ?_
          refine W_NameG gList (kindS (by rfl)) ?_
          refine WItems_nil ?_
          refine WCall_isi hty (T := "list") (by simp) ?_
          refine WTr_bool ?_
          rcases tyOf_cases hty with ⟨j, rfl⟩ | ⟨z, u, rfl⟩ | ⟨a, xs, rfl, e⟩ | ⟨a, xs, rfl, e⟩ | ⟨a, kvs2, ep2, rfl, e⟩
          · have e1 : decide (tyOf H1 (.int j) = some "list") = false := by simp [tyOf]
            rw [e1]
            refine iteF ?_
            refine iteF ?_
            refine W_nil ?_
            exact ⟨rfl, rfl, by walk_at "lk", _, by walk_at "lk", rfl⟩
          · have e1 : decide (tyOf H1 (.str z u) = some "list") = false := by simp [tyOf]
            rw [e1]
            refine iteF ?_
            refine iteF ?_
            refine W_nil ?_
            exact ⟨rfl, rfl, by walk_at "lk", _, by walk_at "lk", rfl⟩
          · have e1 : decide (tyOf H1 (.ref a) = some "list") = true := by simp [tyOf, e]
            rw [e1]
            refine iteT ?_
            refine W_allTrue_nilA ?_
            refine iteT ?_
            refine W_cons' ?_
            refine W_Assign ?_ (stor (by rfl)) (by rfl)
            refine W_Subscript ?_
            refine W_Name (by walk_at "lk") ?_
            refine W_UnaryOp ?_
            refine W_int ?_
            refine WUn_neg ?_
            have hlast : lastOf true H1 (.ref a) = xs.getLast? := by simp only [lastOf, e]
            have hxl := hlen a xs rfl e
            cases xs with
            | nil =>
              refine WSub_listOut hh here e (by decide) (by decide) (.inl (by simp)) ?_
              rw [hlast] at hG1
              rw [hX]; exact hG1
            | cons b r =>
              have hne : b :: r ≠ [] := by simp
              refine WSub_listNeg (v := (b :: r).getLast hne) e (by decide) (by decide) (by simp only [List.length_cons]; lia) ?_ ?_
              · rw [List.getLast_eq_getElem]
                have e3 : (-1 + ((b :: r).length : Int)).toNat = (b :: r).length - 1 := by simp only [List.length_cons]; lia
                rw [e3]
                exact List.getElem?_eq_getElem _
              · refine contQ_next ?_
                refine W_nil ?_
                exact ⟨rfl, rfl, by walk_at "lk", _, by walk_at "lk", by rw [hlast, List.getLast?_eq_some_getLast hne]⟩
          · have e1 : decide (tyOf H1 (.ref a) = some "list") = false := by simp [tyOf, e]
            rw [e1]
            refine iteF ?_
            refine iteF ?_
            refine W_nil ?_
            exact ⟨rfl, rfl, by walk_at "lk", _, by walk_at "lk", by simp only [lastOf, e]⟩
          · have e1 : decide (tyOf H1 (.ref a) = some "list") = false := by simp [tyOf, e]
            rw [e1]
            refine iteF ?_
            refine iteF ?_
            refine W_nil ?_
            exact ⟨rfl, rfl, by walk_at "lk", _, by walk_at "lk", by simp only [lastOf, e]⟩
      · intro _ m1 H2 hg210_3
        refine Mine.hideG fun GG back => ?_
        obtain ⟨rfl, rfl, ha1, w, hw, hlast⟩ := hg210_3
        refine back ?_
        clear back
        rw [hlast] at hG1
        refine Mine.hideG fun GG back => ?_
        obtain ⟨hwt, hG1⟩ := hG1
        refine back ?_
        clear back
        refine contQ_next ?_
        refine W_cons' ?_
        refine W_If ?_
        refine WT_Not ?_
        refine WT_plain ?_
        refine W_CallB (by assumption) (kindS (by rfl)) ?_
        refine WItems_cons ?_
        refine W_Name (by walk_at "lk") ?_
        refine WItems_cons ?_
        refine W_NameG (by assumption) (kindS (by rfl)) ?_
        refine WItems_nil ?_
        refine WCall_isi hwt (by simp) ?_
        refine WTr_bool ?_
        rw [isDict_ty]
        cases hD : isDict H1 w with
        | true =>
          rw [hD, if_pos rfl] at hG1
          refine Mine.hideG fun GG back => ?_
          obtain ⟨d, rfl, hG1⟩ := hG1
          refine back ?_
          clear back
          refine iteNT ?_
          refine W_nil ?_
          refine contQ_next ?_
          refine W_nil ?_
          refine loopQ_next ?_
          exact ⟨ha1, hk1, d, hw, hG1⟩
        | false =>
          rw [hD, if_neg Bool.false_ne_true] at hG1
          refine iteNF ?_
          refine W_cons' ?_
          refine W_RaiseCall excClass_KeyError hh here gKE (kindS (by rfl)) ?_
          refine WItems_cons ?_
          refine W_str fun t ht => ?_
          refine WItems_nil ⟨by simp [sizeLine], ?_⟩
          rw [hX]
          exact hG1 t
  · intro m' H' hg247_2
    refine Mine.hideG fun GG back => ?_
    obtain ⟨ha, hk', cont, hcont, hG⟩ := hg247_2
    refine back ?_
    clear back
    rw [List.length_map, List.drop_eq_nil_of_le (Nat.le_refl _)] at hG
    refine contQ_next ?_
    refine W_cons' ?_
    refine W_Return' ?_
    refine W_Name (by walk_at "lk") ?_
    intro uR huR
    refine contQ_ret ?_
    refine RQ_ret huR ?_
    exact ⟨cont, rfl, hG⟩
theorem L2.nest_call {c : Cx} {A : Around} {C fI fG fA x dx kt b0 : Addr} {keys : List (Str × Tok)} {H : AHeap} {Q : Addr → AHeap → Prop} {X : String → Option (List V) → AHeap → Prop} (G : Blt c) (N : NestAt c C fI fG fA L2.cls) (hA : Room A)
    (hx : H x = some (.inst C dx)) (hd : H dx = some (.attrs (.ref b0))) (hkt : H kt = some (.tup (keys.map fun p => .str p.1 p.2)))
    (h : Gw true Q X (keys.map (·.1)) b0 H) : FnV c A fG [.ref x, .ref kt] [] H (fun v H' => ∃ a, v = .ref a ∧ Q a H') X := fun rvs rkw e1 e2 => by
  refine Mine.hideG fun GG back => ?_
  obtain ⟨fd, F1, F2, F3, F4, d, mk, F5, F6, F7⟩ := N.get
  obtain ⟨u, w, rfl, e3, e4⟩ := map_er2 e1
  refine back ?_
  clear back
  have e2 : rkw = [] := by simpa using e2
  subst e2
  obtain rfl := er_ref e3
  obtain rfl := er_ref e4
  refine Fn.of_body F1 (Nat.lt_of_le_of_lt hA.depth (by decide)) (binds := [("self", .ref x), ("key", .ref kt), ("access_lists", .bool true)])
    (fun s hs => by cases fd; simp only at F3 F4 F5; subst F3; subst F4; subst F5; exact BindsTo.of_kw (F6.keeps hs) F7 rfl rfl) (by rw [F2]; rfl) fun k hk => ?_
  refine Mine.hideG fun GG back => ?_
  obtain ⟨rfl, h1, h2, h3, h4, h5, h6, h7, h8, h9⟩ := hk
  refine back ?_
  clear back
  refine L2.nest_body (acc := true) ⟨h1.trans F2, h2.trans (by rw [F2])⟩ G N.kls h8 h9 (h6.trans hA.handled) ?_ ?_ ?_ hx hd hkt h
  · rfl
  · rfl
  · rfl
end
section
theorem L2.nest_callF {c : Cx} {A : Around} {C fI fG fA x dx kt b0 : Addr} {keys : List (Str × Tok)} {H : AHeap} {Q : Addr → AHeap → Prop} {X : String → Option (List V) → AHeap → Prop} (G : Blt c) (N : NestAt c C fI fG fA L2.cls) (hA : Room A)
    (hx : H x = some (.inst C dx)) (hd : H dx = some (.attrs (.ref b0))) (hkt : H kt = some (.tup (keys.map fun p => .str p.1 p.2)))
    (h : Gw false Q X (keys.map (·.1)) b0 H) : FnV c A fG [.ref x, .ref kt] [("access_lists", .bool false)] H (fun v H' => ∃ a, v = .ref a ∧ Q a H') X := fun rvs rkw e1 e2 => by
  obtain ⟨fd, F1, F2, F3, F4, d, mk, F5, F6, F7⟩ := N.get
  obtain ⟨u, w, rfl, e3, e4⟩ := map_er2 e1
  obtain ⟨⟨n, bv⟩, rfl, e5⟩ : ∃ p, rkw = [p] ∧ (p.1, er p.2) = (("access_lists" : Str), V.bool false) := by
    cases rkw with
    | nil => simp at e2
    | cons p r => cases r with
      | nil => exact ⟨p, rfl, (List.cons.inj e2).1⟩
      | cons q r => simp at e2
  obtain ⟨rfl, e6⟩ := Prod.mk.inj e5
  obtain rfl := er_ref e3
  obtain rfl := er_ref e4
  obtain rfl := er_bool e6
  refine Fn.of_body F1 (Nat.lt_of_le_of_lt hA.depth (by decide)) (binds := [("self", .ref x), ("key", .ref kt), ("access_lists", .bool false)])
    (fun s hs => by cases fd; simp only at F3 F4 F5; subst F3; subst F4; subst F5; exact BindsTo.of_eq (by rfl)) (by rw [F2]; rfl) fun k hk => ?_
  obtain ⟨rfl, h1, h2, h3, h4, h5, h6, h7, h8, h9⟩ := hk
  refine L2.nest_body (acc := false) ⟨h1.trans F2, h2.trans (by rw [F2])⟩ G N.kls h8 h9 (h6.trans hA.handled) ?_ ?_ ?_ hx hd hkt h
  · rfl
  · rfl
  · rfl
theorem Gw.keep {acc : Bool} {Q : Addr → AHeap → Prop} {X : String → Option (List V) → AHeap → Prop} {b : Addr} {y : AObj} (nd : ∀ kvs ep, y ≠ .dict kvs ep) : ∀ (ks : List Str) (cont : Addr) (H : AHeap), H b = some y → Gw acc Q X ks cont H → Gw acc (fun a H' => Q a H' ∧ H' b = some y) X ks cont H
  | [], cont, H, hb, h => ⟨h, hb⟩
  | x :: r, cont, H, hb, h => by
    obtain ⟨kvs, ep, h1, h2, h3⟩ := h
    have hne : b ≠ cont := fun q => by rw [q, h1] at hb; cases hb; exact nd _ _ rfl
    refine ⟨kvs, ep, h1, h2, ?_⟩
    cases e : getK kvs (.inr x) with
    | none =>
      rw [e] at h3
      exact fun d hd => Gw.keep nd r d _ (upd_ne hne (upd_fresh hd hb)) (h3 d hd)
    | some v =>
      rw [e] at h3
      obtain ⟨h4, h5, h6⟩ := h3
      refine ⟨h4, h5, ?_⟩
      cases e2 : lastOf acc H v with
      | none => rw [e2] at h6; exact h6
      | some w =>
        rw [e2] at h6
        obtain ⟨h7, h8⟩ := h6
        refine ⟨h7, ?_⟩
        cases e3 : isDict H w with
        | false => rw [e3] at h8; exact h8
        | true =>
          rw [e3] at h8
          obtain ⟨d, rfl, h9⟩ := h8
          exact ⟨d, rfl, Gw.keep nd r d H hb h9⟩
theorem sliceV_dropLast {α : Type} (xs : List α) : sliceV xs none (some (-1)) = xs.dropLast := by
  unfold sliceV clipAt
  simp only [Option.elim, List.drop_zero, Nat.sub_zero]
  rw [List.dropLast_eq_take]
  congr 1
  rw [if_pos (by decide)]
  lia
theorem L2.append_call {c : Cx} {A : Around} {C fI fG fA x dx kt b0 : Addr} {keys : List (Str × Tok)} {H : AHeap} {Q : AHeap → Prop} {X : String → Option (List V) → AHeap → Prop} (G : Blt c) (N : NestAt c C fI fG fA L2.cls) (hA : Room A) (hA' : A.depth ≤ 599 ∧ A.units ≤ 1997)
    (hx : H x = some (.inst C dx)) (hd : H dx = some (.attrs (.ref b0))) (hkt : H kt = some (.tup (keys.map fun p => .str p.1 p.2))) (hkl : keys.length < 2 ^ 20)
    (h : ∀ H1, Ext H H1 → Ga Q X (keys.map (·.1)) b0 H1) : FnV c A fA [.ref x, .ref kt] [] H (fun v H' => v = .none ∧ Q H') X := by
  refine FnV.top N.app hA ["self", "key"] rfl (fun fd rvs h1 h2 h3 hl => ?_) (by rfl) fun k hk => ?_
  · obtain ⟨x, y, rfl⟩ := len2 hl
    cases fd; simp only at h1 h2 h3; subst h1; subst h2; subst h3; rfl
  obtain ⟨rfl, sv, hfr, hdep, hun, hhd, hX, hhere⟩ := hk
  show W k (execs (fnBody L2.mA) k.env) (setL (setL noLoc "self" (.ref x)) "key" (.ref kt)) H _
  have G0 := G
  obtain ⟨gLen, gDivmod, gIsi, gList, gDict, gStr, gRange, gZip, gKE, gIE, imp, tree⟩ := G
  have hh : k.A.handled = none := hhd.trans hA.handled
  have hAk : Room k.A := ⟨by lia, by lia, hh⟩
  obtain ⟨fd, F1, F2⟩ := N.get
  refine W_cons' ?_
  refine W_Assign ?_ (stor (by rfl)) (by rfl)
  refine W_CallMeth N.mG F1 ?_
  refine W_Name (by walk_at "lk") ?_
  refine ⟨x, dx, _, rfl, hx, hd, ?_⟩
  refine WItems_cons ?_
  refine W_SubSlice ?_
  refine W_Name (by walk_at "lk") ?_
  refine WPart_none ?_
  refine WPart_some ?_
  refine W_UnaryOp ?_
  refine W_int ?_
  refine WUn_neg ?_
  refine ⟨_, rfl, kt, rfl, .inr ⟨_, hkt, by simp [sizeLine]; lia, fun kt2 H1 hE hkt2 => ?_⟩⟩
  refine WItems_nil ?_
  rw [sliceV_map, sliceV_dropLast] at hkt2
  have hG := Gw.keep (b := kt) (fun _ _ => by simp) _ _ _ (hE kt _ hkt) (h H1 hE)
  refine FnV.mono (L2.nest_call (keys := keys.dropLast) G0 N hAk (hE x _ hx) (hE dx _ hd) hkt2 (by rw [List.map_dropLast]; exact hG)) ?_ (fun a b H' q => by rw [hX]; exact q)
  rintro _ H2 ⟨a, rfl, hend, hkt2⟩
  refine contQ_next ?_
  refine W_cons' ?_
  refine W_Assign ?_ (stor (by rfl)) (by rfl)
  refine W_Subscript ?_
  refine W_Name (by walk_at "lk") ?_
  refine W_UnaryOp ?_
  refine W_int ?_
  refine WUn_neg ?_
  have hnil : keys = [] ∨ ∃ z, keys.getLast? = some z ∧ seqIndex? (-1) (keys.map fun p => V.str p.1 p.2).length = some (keys.length - 1) ∧ (keys.map fun p => V.str p.1 p.2)[keys.length - 1]? = some (.str z.1 z.2) := by
    rcases List.eq_nil_or_concat keys with rfl | ⟨r, z, rfl⟩
    · exact .inl rfl
    · refine .inr ⟨z, by simp, ?_, by simp⟩
      simp only [List.length_map, seqIndex?, List.concat_eq_append, List.length_append, List.length_singleton]
      rw [if_pos (show (-1 : Int) < 0 by decide), if_pos (by simp; lia)]
      congr 1
      lia
  rcases hnil with rfl | ⟨⟨z, t⟩, hz, hj, hv⟩
  · refine WSub_tupOut hh hhere hkt2 (by decide) (by decide) (by rfl) ?_
    rw [hX]; exact hend
  refine WSub_tup hkt2 (by decide) (by decide) hj hv ?_
  have hz' : (keys.map (·.1)).getLast? = some z := by rw [List.getLast?_map, hz]; rfl
  rw [hz'] at hend
  obtain ⟨kvs, ep, hc, hl, hend⟩ := hend
  refine contQ_next ?_
  refine W_cons' ?_
  refine W_If ?_
  refine WT_Compare ?_
  refine W_Name (by walk_at "lk") ?_
  refine W_Name (by walk_at "lk") ?_
  refine WCmp_inDict hc (key := .inr z) (by simp [isKV]) ?_
  refine WTr_bool ?_
  cases hg : getK kvs (.inr z) with
  | none =>
    rw [hg] at hend
    rw [Option.isSome_none]
    refine iteF ?_
    refine W_cons' ?_
    refine W_AssignSub ?_
    refine W_List ?_
    refine WItems_cons ?_
    refine W_Dict0 ?_
    intro d hd'
    refine WItems_nil ?_
    refine ⟨by simp [sizeLine], fun l hl' => ?_⟩
    refine W_Name (by walk_at "lk") ?_
    refine W_Name (by walk_at "lk") ?_
    have hdl : d ≠ l := fun q => by rw [q, upd_same] at hl'; cases hl'
    have hl2 : H2 l = none := by
      unfold upd at hl'
      rw [if_neg (Ne.symm hdl)] at hl'; exact hl'
    refine WSet_dict (upd_fresh hl' (upd_fresh hd' hc)) (key := .inr z) (by simp [isKV]) (Nat.le_of_lt hl) ?_
    rw [putK_new hg, epK, hg, Option.isSome_none, if_neg (by simp)]
    refine contQ_next ?_
    refine W_nil ?_
    refine contQ_next ?_
    refine W_nil ?_
    exact RQ_next ⟨rfl, hend d l hd' hl2 hdl⟩
  | some v =>
    rw [hg] at hend
    rw [Option.isSome_some]
    refine iteT ?_
    refine W_cons' ?_
    refine W_Assign ?_ (stor (by rfl)) (by rfl)
    refine W_Subscript ?_
    refine W_Name (by walk_at "lk") ?_
    refine W_Name (by walk_at "lk") ?_
    refine WSub_dict hc (key := .inr z) (by simp [isKV]) hg ?_
    refine contQ_next ?_
    refine W_cons' ?_
    refine W_If ?_
    refine WT_Not ?_
    refine WT_plain ?_
    refine W_CallB gIsi (kindS (by rfl)) ?_
    refine WItems_cons ?_
    refine W_Name setL_same ?_
    refine WItems_cons ?_
    refine W_NameG gList (kindS (by rfl)) ?_
    refine WItems_nil ?_
    obtain ⟨hty, hend⟩ := hend
    refine WCall_isi hty (T := "list") (by simp) ?_
    refine WTr_bool ?_
    rcases hend with ⟨b, xs, rfl, hb, hxs, hend⟩ | ⟨hno, hend⟩
    · have e1 : decide (tyOf H2 (.ref b) = some "list") = true := by simp [tyOf, hb]
      rw [e1]
      refine iteNT ?_
      refine W_nil ?_
      refine contQ_next ?_
      refine W_cons' ?_
      refine W_ExprStmt ?_
      refine W_CallM' PySem.F.plainAttrs_list PySem.F.slot_list_append PySem.F.type_list_append ?_
      refine W_Name (by walk_at "lk") ?_
      refine ⟨onList (by walk_at "hp"), ?_⟩
      refine WItems_cons ?_
      refine W_Dict0 ?_
      intro d hd'
      refine WItems_nil ?_
      refine WCall_append (upd_fresh hd' hb) hxs ?_
      refine contQ_next ?_
      refine W_nil ?_
      refine contQ_next ?_
      refine W_nil ?_
      exact RQ_next ⟨rfl, hend d hd'⟩
    · have e1 : decide (tyOf H2 v = some "list") = false := by simpa using hno
      rw [e1]
      refine iteNF ?_
      refine W_cons' ?_
      refine W_RaiseCall excClass_KeyError hh hhere gKE (kindS (by rfl)) ?_
      refine WItems_cons ?_
      refine W_str fun t ht => ?_
      refine WItems_nil ⟨by simp [sizeLine], ?_⟩
      rw [hX]
      exact hend t
end
section
noncomputable abbrev L2.fEnd : Stmt := stm L2.stmsC 4
theorem tyOf_row {H : AHeap} {a : Addr} {r : Row} (h : RowAt H a r) : tyOf H (.ref a) = some (match r with | .d _ => "dict" | .l _ => "list" | .t _ => "tuple") := by
  cases r with
  | d kvs => obtain ⟨ep, e⟩ := h; simp [tyOf, e]
  | l xs => have e : H a = some (.list (rowL xs)) := h; simp [tyOf, e]
  | t xs => have e : H a = some (.tup (rowL xs)) := h; simp [tyOf, e]
theorem isD_row {plan : List Row} {k : Nat} {r : Row} (h : plan[k]? = some r) {H : AHeap} {a : Addr} (hr : RowAt H a r) : decide (tyOf H (.ref a) = some "dict") = isDAt plan k := by
  rw [tyOf_row hr]
  unfold isDAt
  rw [h]
  cases r <;> simp
theorem rdL {H : AHeap} : ∀ xs : List Nat, RdAll H (xs.map fun (j : Nat) => PyData.int (j : Int)) (rowL xs)
  | [] => rfl
  | x :: r => ⟨_, _, rfl, rfl, rdL r⟩
theorem goodAllL : ∀ xs : List Nat, goodAll (xs.map fun (j : Nat) => PyData.int (j : Int)) = true
  | [] => rfl
  | x :: r => by simp [goodAll, good, goodAllL r]
theorem goodL (xs : List Nat) : good (.list (xs.map fun (j : Nat) => PyData.int (j : Int))) = true := by
  simp [good, goodAllL xs]
structure L2.EV (m : Loc) (pa kt rt E D : Addr) (i : Nat) (loose : Bool) : Prop where
  plan : m "plan" = some (.ref pa)
  i : m "i" = some (.int i)
  key : m "key" = some (.ref kt)
  loose : m "loose" = some (.bool loose)
  rest : m "rest" = some (.ref rt)
  ends : m "ends" = some (.ref E)
  now : m "now" = some (.ref D)
theorem L2.EV.setK {m : Loc} {pa kt rt E D : Addr} {i : Nat} {loose : Bool} {v : V} (h : L2.EV m pa kt rt E D i loose) : L2.EV (setL m "k" v) pa kt rt E D i loose :=
  ⟨setL_ne (by decide +kernel) h.plan, setL_ne (by decide +kernel) h.i, setL_ne (by decide +kernel) h.key, setL_ne (by decide +kernel) h.loose, setL_ne (by decide +kernel) h.rest, setL_ne (by decide +kernel) h.ends, setL_ne (by decide +kernel) h.now⟩
theorem L2.EV.setR {m : Loc} {pa kt rt E D : Addr} {i : Nat} {loose : Bool} {v : V} (h : L2.EV m pa kt rt E D i loose) : L2.EV (setL m "r" v) pa kt rt E D i loose :=
  ⟨setL_ne (by decide +kernel) h.plan, setL_ne (by decide +kernel) h.i, setL_ne (by decide +kernel) h.key, setL_ne (by decide +kernel) h.loose, setL_ne (by decide +kernel) h.rest, setL_ne (by decide +kernel) h.ends, setL_ne (by decide +kernel) h.now⟩
noncomputable def RVal (plan : List Row) (loose : Bool) (kr : List (Str × Nat)) (y : Str) (rv : V) : Prop := match kr.lookup y with
  | none => ∃ t, rv = .str "lacks" t
  | some jj => match stepTo plan loose jj with
    | none => ∃ t, rv = .str "IndexError" t
    | some j' => rv = .int (j' : Int)
theorem W_hide {k : Wk} {x : Sem Flow} {m : Loc} {H : AHeap} {Q : Flow → Loc → AHeap → Prop} (h : ∀ QL : Flow → Loc → AHeap → Prop, (∀ f m H, Q f m H → QL f m H) → W k x m H QL) : W k x m H Q := h Q fun _ _ _ q => q
theorem L2.end_ok {c : Cx} {A : Around} {f pa kt : Addr} {ra : List Addr} {plan : List Row} {keys : List (Str × Tok)} {i : Nat} {loose : Bool} {H : AHeap} (G : Blt c) (F : DefAt c f L2.fEnd) (hA : Room A) (P : PlanAt H pa ra plan) (hP : PlanOK plan)
    (hkt : H kt = some (.tup (keys.map fun p => .str p.1 p.2))) (hkl : keys.length ≤ 100) (hi : isDAt plan i = true) :
    FnV c A f [.ref pa, .int i, .ref kt, .bool loose] [] H (fun v H' => Ext H H' ∧ EndV H' v (endOf plan loose (keys.map (·.1)) i)) NoX := by
  refine FnV.top F hA ["plan", "i", "key", "loose"] rfl (fun fd rvs h1 h2 h3 hl => ?_) (by rfl) fun k hk => ?_
  · obtain ⟨x, y, z, w, rfl⟩ := len4 hl
    cases fd; simp only at h1 h2 h3; subst h1; subst h2; subst h3; rfl
  obtain ⟨rfl, sv, hfr, hdep, hun, hhd, hX, hhere⟩ := hk
  show W k (execs (fnBody L2.fEnd) k.env) (setL (setL (setL (setL noLoc "plan" (.ref pa)) "i" (.int i)) "key" (.ref kt)) "loose" (.bool loose)) H _
  obtain ⟨gLen, gDivmod, gIsi, gList, gDict, gStr, gRange, gZip, gKE, gIE, imp, tree⟩ := G
  have hh : k.A.handled = none := hhd.trans hA.handled
  have hsz := hP.size
  -- the first table
  refine W_cons' ?_
  refine W_Assign_DictComp (by rfl) (by rfl) (by rfl) (by rfl) (by rfl) (by rfl) ?_
  refine W_CallT gRange (kindS (by rfl)) ?_
  refine WItems_cons ?_
  refine W_CallB gLen (kindS (by rfl)) ?_
  refine WItems_cons ?_
  refine W_Name (by walk_at "lk") ?_
  refine WItems_nil ?_
  refine WCall_lenL P.list (by rw [List.length_map, P.len]; lia) ?_
  refine WItems_nil ?_
  refine WCall_range1 fun rg hrg => ?_
  rw [List.length_map, P.len]
  refine ⟨_, _, _, fun i acc H2 => Ext H H2 ∧ acc.map (·.1) = ((List.range i).filter (isDAt plan)).map (fun (k : Nat) => (.inl (k : Int) : Key)) ∧ ∀ (k : Nat) v, getK acc (.inl (k : Int)) = some v → EndV H2 v (.at k []), WIter_range hh upd_same ?_, ?_, ?_, ?_, ?_, ?_⟩
  · exact small_up (by lia)
  · exact ⟨Ext.upd hrg, rfl, fun k v e => by simp [getK] at e⟩
  · exact fun _ _ _ _ => trivial
  · rw [rangeN_up, show sizeLine = _ from sizeLine_eq]; lia
  · intro kc hkc j v acc mc H2 hj hv ⟨hE, hkeys, hvals⟩ hcap hx
    haveI := hkc.senv (sc := fnScope L2.fEnd) (cn := cellNames (fnScope L2.fEnd).names)
    have gIsi' : Gl kc.c "isinstance" (.builtin "isinstance") := by rw [hkc.c]; exact gIsi
    have gDict' : Gl kc.c "dict" (.type "dict") := by rw [hkc.c]; exact gDict
    have hpl : mc "plan" = some (.ref pa) := hcap.get (by walk_at "lk") (by rfl)
    rw [rangeN_up] at hj
    have hv' : v = .int (j : Int) := by rw [hv]; simp
    subst hv'
    have hrj : plan[j]? = some plan[j] := List.getElem?_eq_getElem hj
    obtain ⟨a, ha, hra⟩ := P.row j _ hrj
    have P2 := P.ext hE
    have hra2 := hra.ext hE
    refine W_tests_one ?_
    refine WT_plain ?_
    refine W_CallB gIsi' (kindS (by rfl)) ?_
    refine WItems_cons ?_
    refine W_Subscript ?_
    refine W_Name hpl ?_
    refine W_Name hx ?_
    refine WSub_list (v := .ref a) P2.list (by lia) (by lia) (by rw [List.getElem?_map, Int.toNat_natCast, ha]; rfl) ?_
    refine WItems_cons ?_
    refine W_NameG gDict' (kindS (by rfl)) ?_
    refine WItems_nil ?_
    refine WCall_isi (T := "dict") (by rw [tyOf_row hra2]; simp) (by simp) ?_
    rw [isD_row hrj hra2]
    refine WTr_bool ⟨rfl, ?_⟩
    cases hD : isDAt plan j with
    | false =>
      rw [if_neg Bool.false_ne_true]
      refine ⟨hE, ?_, hvals⟩
      rw [List.range_succ, List.filter_append, hkeys]
      simp [hD]
    | true =>
      rw [if_pos rfl]
      refine W_Name hx ⟨rfl, ?_⟩
      refine W_List ?_
      refine WItems_cons ?_
      refine W_Name hx ?_
      refine WItems_cons ?_
      refine W_Tuple ?_
      refine WItems_nil ⟨by simp, fun tp htp => ?_⟩
      refine WItems_nil ⟨by simp [sizeLine], fun lp hlp => ⟨rfl, .inl (j : Int), by simp [isKV], (hE.trans (Ext.upd htp)).trans (Ext.upd hlp), ?_, fun k v e => ?_⟩⟩
      · rw [keys_putK, hkeys, if_neg]
        · rw [List.range_succ, List.filter_append, List.map_append]
          simp [hD]
        · simp only [List.mem_map, List.mem_filter, List.mem_range, not_exists, not_and]
          intro x hx2 q
          have : x = j := Int.ofNat.inj (Sum.inl.inj q)
          lia
      · rw [getK_putK] at e
        split at e
        · rename_i q
          have : j = k := Int.ofNat.inj (Sum.inl.inj q)
          subst this
          cases e
          exact ⟨lp, tp, [], rfl, upd_same, upd_fresh hlp upd_same, rfl⟩
        · exact ((hvals k v e).ext (Ext.upd htp)).ext (Ext.upd hlp)
  · intro E0 acc ep H2 hal ⟨hE, hkeys, hvals⟩ hE0
    rw [rangeN_up] at hkeys
    have X0 : EndsAt (upd H2 E0 (.dict acc ep)) E0 plan loose [] (dRows plan) acc ep := ⟨upd_same, hkeys, fun k v e => (hvals k v e).ext (Ext.upd hE0)⟩
    have hE2 := hE.trans (Ext.upd (x := AObj.dict acc ep) hE0)
    generalize upd H2 E0 (.dict acc ep) = H3 at X0 hE2
    clear hvals hkeys hE0 hal hE hrg
    refine contQ_next ?_
    refine W_cons' ?_
    refine W_For ?_
    refine W_ListComp (by rfl) (by rfl) (by rfl) ?_
    refine W_CallT gRange (kindS (by rfl)) ?_
    refine WItems_cons ?_
    refine W_BinOp ?_
    refine W_CallB gLen (kindS (by rfl)) ?_
    refine WItems_cons ?_
    refine W_Name (by walk_at "lk") ?_
    refine WItems_nil ?_
    have hkt3 := hE2 kt _ hkt
    refine WCall_lenT hkt3 (by rw [List.length_map]; lia) ?_
    refine W_int ?_
    refine WBin_sub ?_
    refine WItems_cons ?_
    refine W_UnaryOp ?_
    refine W_int ?_
    refine WUn_neg ?_
    refine WItems_cons ?_
    refine W_UnaryOp ?_
    refine W_int ?_
    refine WUn_neg ?_
    refine WItems_nil ?_
    rw [List.length_map]
    refine WCall_range3 (by decide) (by unfold Builtin.divisionGoesByPylong; exact Bool.and_eq_false_iff.mpr (.inl (by decide +kernel))) fun rg hrg => ?_
    refine ⟨_, _, _, fun i acc H4 => Ext H3 H4 ∧ acc.length = i ∧ ∀ (j : Nat) v, acc[j]? = some v → ∃ t, v = .ref t ∧ H4 t = some (.tup ((keys.drop (keys.length - 1 - j)).map fun p => .str p.1 p.2)), WIter_range hh upd_same ?_, ?_, ?_, ?_, ?_, ?_⟩
    · exact small_dn (by lia)
    · exact ⟨Ext.upd hrg, rfl, fun j v e => by simp at e⟩
    · exact fun _ _ _ _ => trivial
    · rw [rangeN_down, show sizeLine = _ from sizeLine_eq]; lia
    · intro kc hkc j v acc mc H4 hj hv ⟨hE, hal, hacc⟩ hcap hx
      haveI := hkc.senv (sc := fnScope L2.fEnd) (cn := cellNames (fnScope L2.fEnd).names)
      have hkey : mc "key" = some (.ref kt) := hcap.get (by walk_at "lk") (by rfl)
      rw [rangeN_down] at hj
      have hv' : v = .int ((keys.length - 1 - j : Nat) : Int) := by rw [hv]; congr 1; lia
      subst hv'
      refine W_tests_nil ⟨rfl, ?_⟩
      rw [if_pos rfl]
      refine W_SubSlice ?_
      refine W_Name hkey ?_
      refine WPart_some ?_
      refine W_Name hx ?_
      refine ⟨_, rfl, ?_⟩
      refine WPart_none ?_
      refine ⟨kt, rfl, .inr ⟨_, hE kt _ hkt3, by rw [List.length_map, show sizeLine = _ from sizeLine_eq]; lia, fun b H5 hE5 hb => ⟨rfl, hE.trans hE5, by rw [List.length_append, hal]; rfl, fun j' v' e => ?_⟩⟩⟩
      rw [List.getElem?_append] at e
      split at e
      · obtain ⟨t, e1, e2⟩ := hacc j' v' e
        exact ⟨t, e1, hE5 t _ e2⟩
      · rename_i hlt
        have hj' : j' - acc.length = 0 := by
          rcases Nat.eq_zero_or_pos (j' - acc.length) with h | h
          · exact h
          · rw [List.getElem?_eq_none (by simp; lia)] at e; cases e
        rw [hj'] at e
        cases e
        have : j' = j := by lia
        subst this
        refine ⟨b, rfl, ?_⟩
        rw [hb]
        congr 2
        unfold sliceV
        rw [List.length_map]
        simp only [Option.elim]
        rw [show clipAt keys.length ((keys.length - 1 - j' : Nat) : Int) = keys.length - 1 - j' by unfold clipAt; rw [if_neg (by lia)]; lia, List.map_drop, List.take_of_length_le (by simp)]
    · intro RL rests H4 hrl ⟨hE4, hal, hrests⟩ hRL
      rw [rangeN_down] at hal hrl
      have X1 := (X0.ext hE4).ext (Ext.upd (x := AObj.list rests) hRL)
      have hE5 := (hE2.trans hE4).trans (Ext.upd (x := AObj.list rests) hRL)
      have hrests5 : ∀ (j : Nat) v, rests[j]? = some v → ∃ t, v = .ref t ∧ upd H4 RL (.list rests) t = some (.tup ((keys.drop (keys.length - 1 - j)).map fun p => .str p.1 p.2)) := fun j v e => by
        obtain ⟨t, e1, e2⟩ := hrests j v e
        exact ⟨t, e1, upd_fresh hRL e2⟩
      have hRL5 : upd H4 RL (.list rests) RL = some (.list rests) := upd_same
      generalize upd H4 RL (.list rests) = H5 at X1 hE5 hrests5 hRL5
      clear hrests hRL hE4 hrg X0 hkt3 hE2
      refine ⟨_, _, _, fun i' m' H' => Ext H5 H' ∧ m' "plan" = some (.ref pa) ∧ m' "i" = some (.int i) ∧ m' "key" = some (.ref kt) ∧ m' "loose" = some (.bool loose) ∧
        ∃ E kvs ep, m' "ends" = some (.ref E) ∧ EndsAt H' E plan loose ((keys.drop (keys.length - i')).map (·.1)) (dRows plan) kvs ep,
        WIter_list hh hRL5, ⟨Ext.refl _, by walk_at "lk", by walk_at "lk", by walk_at "lk", by walk_at "lk", E0, acc, ep, by walk_at "lk", by rw [Nat.sub_zero, List.drop_length]; exact X1⟩, fun i' m' H' q => q.1 RL _ hRL5, ?_, ?_⟩
      · rintro i' rv m' H6 hi' hR ⟨hE6, hmp, hmi, hmk, hml, E, kvs, ep', hmE, X⟩
        obtain ⟨rt, rfl, hrt⟩ := hrests5 i' rv hR
        rw [hal] at hi'
        have hrt6 := hE6 rt _ hrt
        obtain ⟨y, yt, hdrop⟩ : ∃ y yt, keys.drop (keys.length - 1 - i') = (y, yt) :: keys.drop (keys.length - i') := by
          have h1 : keys.length - 1 - i' < keys.length := by lia
          refine ⟨(keys[keys.length - 1 - i']).1, (keys[keys.length - 1 - i']).2, ?_⟩
          rw [List.drop_eq_getElem_cons h1, show keys.length - 1 - i' + 1 = keys.length - i' by lia]
        have hnext : keys.length - (i' + 1) = keys.length - 1 - i' := by lia
        rw [hdrop] at hrt6
        generalize hks : keys.drop (keys.length - i') = ks at *
        have P6 := (P.ext hE5).ext hE6
        refine WAs_Name (stor (by rfl)) ?_
        refine W_hide fun QO hQO => ?_
        refine W_cons' ?_
        refine W_Assign ?_ (stor (by rfl)) (by rfl)
        refine W_Dict0 fun D hD => ?_
        refine contQ_next ?_
        refine W_cons' ?_
        refine W_For ?_
        refine W_Name (by walk_at "lk") ?_
        have hED : E ≠ D := fun q => by have z := X.dict; rw [q, hD] at z; cases z
        have X7 := X.ext (Ext.upd (x := AObj.dict [] 0) hD)
        refine ⟨_, _, _, fun j m2 H' => ExtBut D H6 H' ∧ m2 "plan" = some (.ref pa) ∧ m2 "i" = some (.int i) ∧ m2 "key" = some (.ref kt) ∧ m2 "loose" = some (.bool loose) ∧ m2 "rest" = some (.ref rt) ∧ m2 "ends" = some (.ref E) ∧ m2 "now" = some (.ref D) ∧
          EndsAt H' E plan loose (ks.map (·.1)) (dRows plan) kvs ep' ∧ ∃ kvs2 ep2, EndsAt H' D plan loose (y :: ks.map (·.1)) ((dRows plan).take j) kvs2 ep2,
          WIter_dict hh X7.dict, ⟨ExtBut.of (Ext.upd hD), by walk_at "lk", by walk_at "lk", by walk_at "lk", by walk_at "lk", by walk_at "lk", by walk_at "lk", by walk_at "lk", X7, [], 0, upd_same, by simp, fun k v e => by simp [getK] at e⟩, fun j m2 H' q => ⟨kvs, q.2.2.2.2.2.2.2.2.1.dict, rfl⟩, ?_, ?_⟩
        · rintro j kv m2 H7 hj ⟨kvp, hkvp, hkv⟩ ⟨hB, h1, h2, h3, h4, h5, h6, h7, X8, kvs2, ep2, XD⟩
          have V0 : L2.EV m2 pa kt rt E D i loose := ⟨h1, h2, h3, h4, h5, h6, h7⟩
          clear h1 h2 h3 h4 h5 h6 h7
          obtain ⟨kk, hkk, rfl⟩ : ∃ kk : Nat, (dRows plan)[j]? = some kk ∧ kv = .int (kk : Int) := by
            have h1 : (kvs.map (·.1))[j]? = some kvp.1 := by rw [List.getElem?_map, hkvp]; rfl
            rw [X8.keys, List.getElem?_map, Option.map_eq_some_iff] at h1
            obtain ⟨kk, e1, e2⟩ := h1
            refine ⟨kk, e1, ?_⟩
            rw [← e2] at hkv
            cases kv <;> simp [isKV] at hkv
            rw [hkv]
          have hDk : isDAt plan kk = true := mem_dRows.mp (List.mem_of_getElem? hkk)
          obtain ⟨kr, hkr⟩ : ∃ kr, plan[kk]? = some (.d kr) := by
            unfold isDAt at hDk
            split at hDk
            · rename_i kr e; exact ⟨kr, e⟩
            · cases hDk
          have E67 : Ext H6 H7 := hB.ext hD
          have P7 := P6.ext E67
          have hrt7 := E67 rt _ hrt6
          obtain ⟨ak, hak, epk, hrow⟩ := P7.row kk _ hkr
          have hkklt : kk < plan.length := (List.getElem?_eq_some_iff.mp hkr).1
          refine WAs_Name (stor (by rfl)) ?_
          refine W_hide fun QL hQL => ?_
          have V1 := V0.setK (v := .int (kk : Int))
          have hmk : setL m2 "k" (.int (kk : Int)) "k" = some (.int (kk : Int)) := setL_same
          generalize setL m2 "k" (.int (kk : Int)) = m3 at V1 hmk
          clear V0
          refine W_cons' ?_
          refine W_Assign ?_ (stor (by rfl)) (by rfl)
          refine W_CallM' PySem.F.plainAttrs_dict PySem.F.slot_dict_get PySem.F.type_dict_get ?_
          refine W_Subscript ?_
          refine W_Name V1.plan ?_
          refine W_Name hmk ?_
          refine WSub_list (v := .ref ak) P7.list (by lia) (by lia) (by rw [List.getElem?_map, Int.toNat_natCast, hak]; rfl) ?_
          refine ⟨onDict hrow, ?_⟩
          refine WItems_cons ?_
          refine W_Subscript ?_
          refine W_Name V1.rest ?_
          refine W_int ?_
          refine WSub_tup (j := 0) (v := .str y yt) hrt7 (by decide) (by decide) ?_ (by simp) ?_
          · simp [seqIndex?]
          refine WItems_cons ?_
          refine W_str fun tl htl => ?_
          refine WItems_nil ?_
          refine WCall_getD hrow (key := .inr y) (by simp [isKV]) ?_
          rw [getK_row]
          refine contQ_next ?_
          have V2 := V1.setR (v := ((kr.lookup y).map fun (j : Nat) => V.int (j : Int)).getD (.str "lacks" tl))
          have hmk2 : setL m3 "r" (((kr.lookup y).map fun (j : Nat) => V.int (j : Int)).getD (.str "lacks" tl)) "k" = some (.int (kk : Int)) := setL_ne (by decide +kernel) hmk
          have hmr : setL m3 "r" (((kr.lookup y).map fun (j : Nat) => V.int (j : Int)).getD (.str "lacks" tl)) "r" = some (((kr.lookup y).map fun (j : Nat) => V.int (j : Int)).getD (.str "lacks" tl)) := setL_same
          generalize setL m3 "r" (((kr.lookup y).map fun (j : Nat) => V.int (j : Int)).getD (.str "lacks" tl)) = m4 at V2 hmk2 hmr
          clear V1 hmk
          refine W_cons' ?_
          refine W_cut (fun (fl : Flow) m5 H8 => fl = .next ∧ Ext H7 H8 ∧ L2.EV m5 pa kt rt E D i loose ∧ m5 "k" = some (.int (kk : Int)) ∧ ∃ rv, m5 "r" = some rv ∧ RVal plan loose kr y rv) ?_ ?_
          · refine W_hide fun QR hQR => ?_
            refine W_If ?_
            refine WT_And ?_
            refine W_allTrue_and ?_
            refine WT_plain ?_
            refine W_Name V2.loose ?_
            refine WTr_bool ?_
            cases loose with
            | false =>
              refine iteF ?_
              refine iteF ?_
              refine W_nil ?_
              refine hQR _ _ _ ?_
              refine ⟨rfl, Ext.refl _, V2, hmk2, _, hmr, ?_⟩
              unfold RVal
              cases kr.lookup y with
              | none => exact ⟨tl, rfl⟩
              | some jj => rfl
            | true =>
              refine iteT ?_
              refine W_allTrue_and ?_
              refine WT_Compare ?_
              refine W_Name hmr ?_
              refine W_str fun tl2 htl2 => ?_
              cases hlk : kr.lookup y with
              | none =>
                rw [hlk] at hmr
                refine WCmp_neS ?_
                rw [show decide ((Str.ofString "lacks") ≠ (Str.ofString "lacks")) = false by decide]
                refine WTr_bool ?_
                refine iteF ?_
                refine iteF ?_
                refine W_nil ?_
                refine hQR _ _ _ ?_
                refine ⟨rfl, Ext.refl _, V2, hmk2, _, hmr, ?_⟩
                unfold RVal
                rw [hlk]
                exact ⟨tl, rfl⟩
              | some jj =>
                rw [hlk] at hmr
                have hjj : jj < plan.length := hP.closed kk _ hkr jj (by
                  have := List.lookup_eq_some_iff.mp hlk
                  obtain ⟨l1, l2, e, _⟩ := this
                  show jj ∈ kr.map (·.2)
                  rw [e]; simp)
                obtain ⟨rr, hrr⟩ : ∃ rr, plan[jj]? = some rr := ⟨_, List.getElem?_eq_getElem hjj⟩
                obtain ⟨aj, haj, hrow2⟩ := P7.row jj _ hrr
                have hmr' : m4 "r" = some (.int (jj : Int)) := hmr
                have hsub : (ra.map V.ref)[((jj : Int)).toNat]? = some (.ref aj) := by rw [List.getElem?_map, Int.toNat_natCast, haj]; rfl
                refine WCmp_neIS ?_
                refine WTr_bool ?_
                refine iteT ?_
                refine W_allTrue_and ?_
                refine WT_plain ?_
                refine W_CallB gIsi (kindS (by rfl)) ?_
                refine WItems_cons ?_
                refine W_Subscript ?_
                refine W_Name V2.plan ?_
                refine W_Name hmr' ?_
                refine WSub_list (v := .ref aj) P7.list (by lia) (by lia) hsub ?_
                refine WItems_cons ?_
                refine W_NameG gList (kindS (by rfl)) ?_
                refine WItems_nil ?_
                refine WCall_isi (T := "list") (by rw [tyOf_row hrow2]; simp) (by simp) ?_
                refine WTr_bool ?_
                rw [tyOf_row hrow2]
                cases rr with
                | d kr2 =>
                  simp only
                  rw [show decide (some "dict" = some "list") = false by decide]
                  refine iteF ?_
                  refine iteF ?_
                  refine W_nil ?_
                  refine hQR _ _ _ ?_
                  refine ⟨rfl, Ext.refl _, V2, hmk2, _, hmr', ?_⟩
                  simp [RVal, hlk, stepTo, hrr]
                | t xs =>
                  simp only
                  rw [show decide (some "tuple" = some "list") = false by decide]
                  refine iteF ?_
                  refine iteF ?_
                  refine W_nil ?_
                  refine hQR _ _ _ ?_
                  refine ⟨rfl, Ext.refl _, V2, hmk2, _, hmr', ?_⟩
                  simp [RVal, hlk, stepTo, hrr]
                | l xs =>
                  simp only
                  rw [if_pos (by simp)]
                  have hl2 : H7 aj = some (.list (rowL xs)) := hrow2
                  refine W_allTrue_nilA (iteT ?_)
                  refine W_cons' ?_
                  refine W_Assign ?_ (stor (by rfl)) (by rfl)
                  refine W_IfExp ?_
                  refine WT_Compare ?_
                  refine W_Subscript ?_
                  refine W_Name V2.plan ?_
                  refine W_Name hmr' ?_
                  refine WSub_list (v := .ref aj) P7.list (by lia) (by lia) hsub ?_
                  refine W_List ?_
                  refine WItems_nil ⟨by simp, fun nl hnl => ?_⟩
                  refine WCmp_neD (da := .list (xs.map fun (j : Nat) => .int (j : Int))) (db := .list []) (r := !xs.isEmpty) ⟨aj, _, rfl, upd_fresh hnl hl2, rdL xs⟩ ⟨nl, [], rfl, upd_same, rfl⟩ (goodL xs) rfl ?_ ?_ ?_ ?_
                  · exact Nat.le_trans (Nat.min_le_right _ _) (by decide)
                  · have := hA.units
                    refine Nat.lt_of_le_of_lt (m := 2070) (by lia) (by decide)
                  · cases xs <;> simp
                  refine WTr_bool ?_
                  cases hxs : xs with
                  | nil =>
                    refine iteF ?_
                    refine W_str fun ti hti => ?_
                    refine contQ_next ?_
                    refine W_nil (hQR _ _ _ ⟨rfl, Ext.upd hnl, V2.setR, setL_ne (by decide +kernel) hmk2, _, setL_same, ?_⟩)
                    simp [RVal, hlk, stepTo, hrr, hxs]
                  | cons x0 xr =>
                    refine iteT ?_
                    refine W_Subscript ?_
                    refine W_Subscript ?_
                    refine W_Name V2.plan ?_
                    refine W_Name hmr' ?_
                    refine WSub_list (v := .ref aj) (upd_fresh hnl P7.list) (by lia) (by lia) hsub ?_
                    refine W_UnaryOp ?_
                    refine W_int ?_
                    refine WUn_neg ?_
                    have hlx : (rowL xs).length = xr.length + 1 := by rw [hxs]; simp [rowL]
                    have hne : xs ≠ [] := by rw [hxs]; simp
                    refine WSub_listNeg (v := .int ((xs.getLast hne : Nat) : Int)) (upd_fresh hnl hl2) (by decide) (by decide) (by rw [hlx]; lia) ?_ ?_
                    · rw [hlx, show ((-1 : Int) + ((xr.length + 1 : Nat) : Int)).toNat = xr.length by lia]
                      unfold rowL
                      rw [List.getElem?_map, List.getLast_eq_getElem]
                      have : xs.length = xr.length + 1 := by rw [hxs]; simp
                      rw [List.getElem?_eq_getElem (by lia)]
                      simp [this]
                    refine contQ_next ?_
                    refine W_nil (hQR _ _ _ ⟨rfl, Ext.upd hnl, V2.setR, setL_ne (by decide +kernel) hmk2, _, setL_same, ?_⟩)
                    simp [RVal, hlk, stepTo, hrr, List.getLast?_eq_some_getLast hne]
          · rintro _ m5 H8 ⟨rfl, E78, V5, hmk5, rv, hmr5, hrv⟩
            have X9 := X8.ext E78
            have XD9 := XD.ext E78
            have hEDne : E ≠ D := hED
            have hkr2 : kk ∉ (dRows plan).take j := fun q => by
              obtain ⟨i2, h1, h2⟩ := List.mem_take_iff_getElem.mp q
              have hj2 := (List.getElem?_eq_some_iff.mp hkk).1
              have h3 : (dRows plan)[i2]? = (dRows plan)[j]? := by rw [hkk, ← h2]; exact List.getElem?_eq_getElem _
              have := (List.getElem?_inj (by lia) (dRows_nodup plan)).mp h3
              lia
            have htake : (dRows plan).take (j + 1) = (dRows plan).take j ++ [kk] := by
              rw [List.take_add_one, hkk]; rfl
            have hkl2 : kvs2.length + 1 ≤ sizeLine := by
              have h1 := congrArg List.length XD.keys
              simp only [List.length_map, List.length_take] at h1
              have h2 := dRows_len plan
              rw [show sizeLine = _ from sizeLine_eq]; lia
            have hrt9 := E78 rt _ hrt7
            have hOut : ∀ (v : V) (H' : AHeap) (e3 : Nat) (m6 : Loc), L2.EV m6 pa kt rt E D i loose → ExtBut D H8 H' → EndV H' v (endOf plan loose (y :: ks.map (·.1)) kk) → H' D = some (.dict (putK kvs2 (.inl (kk : Int)) v) e3) →
                ExtBut D H6 H' ∧ m6 "plan" = some (.ref pa) ∧ m6 "i" = some (.int i) ∧ m6 "key" = some (.ref kt) ∧ m6 "loose" = some (.bool loose) ∧ m6 "rest" = some (.ref rt) ∧ m6 "ends" = some (.ref E) ∧ m6 "now" = some (.ref D) ∧
                EndsAt H' E plan loose (ks.map (·.1)) (dRows plan) kvs ep' ∧ ∃ kvs2 ep2, EndsAt H' D plan loose (y :: ks.map (·.1)) ((dRows plan).take (j + 1)) kvs2 ep2 := fun v H' e3 m6 V6 hB6 hv6 hd6 =>
              ⟨(hB.trans (ExtBut.of E78)).trans hB6, V6.plan, V6.i, V6.key, V6.loose, V6.rest, V6.ends, V6.now, X9.but XD9.dict hB6 hEDne, _, e3, by rw [htake]; exact XD9.step hB6 hkr2 hv6 hd6⟩
            refine contQ_next ?_
            refine W_cons' ?_
            refine W_AssignSub ?_
            refine W_CallM' PySem.F.plainAttrs_dict PySem.F.slot_dict_get PySem.F.type_dict_get ?_
            refine W_Name V5.ends ?_
            refine ⟨onDict X9.dict, ?_⟩
            refine WItems_cons ?_
            refine W_Name hmr5 ?_
            refine WItems_cons ?_
            refine W_str fun tn htn => ?_
            refine WItems_nil ?_
            have hend := endOf_cons (loose := loose) (y := y) (r := ks.map (·.1)) hkr
            unfold RVal at hrv
            cases hlk : kr.lookup y with
            | none =>
              rw [hlk] at hrv hend
              obtain ⟨tr, rfl⟩ := hrv
              refine WCall_getD X9.dict (key := .inr "lacks") (by simp [isKV]) ?_
              rw [X9.lacksS]
              refine W_Name V5.now ?_
              refine W_Name hmk5 ?_
              refine WSet_dict XD9.dict (key := .inl (kk : Int)) (by simp [isKV]) (by lia) ?_
              refine contQ_next ?_
              refine W_cons' ?_
              refine W_If ?_
              refine WT_Compare ?_
              refine W_Name hmr5 ?_
              refine W_Tuple ?_
              refine WItems_cons ?_
              refine W_str fun ta hta => ?_
              refine WItems_cons ?_
              refine W_str fun tb htb => ?_
              refine WItems_nil ⟨by simp [sizeLine], fun tp htp => ?_⟩
              refine WCmp_inTup upd_same (by simp [simpleV]) rfl ?_
              refine WTr_bool ?_
              rw [if_pos (by simp [eqKV])]
              refine W_cons' ?_
              refine W_AssignSub ?_
              refine W_IfExp ?_
              refine WT_Compare ?_
              refine W_Name hmr5 ?_
              refine W_str fun tc htc => ?_
              refine WCmp_eqS ?_
              refine WTr_bool ?_
              rw [if_pos (by simp)]
              refine W_List ?_
              refine WItems_cons ?_
              refine W_Name hmk5 ?_
              refine WItems_cons ?_
              refine W_Name V5.rest ?_
              refine WItems_nil ⟨by simp [sizeLine], fun lp hlp => ?_⟩
              refine W_Name V5.now ?_
              refine W_Name hmk5 ?_
              refine WSet_dict (upd_fresh hlp (upd_fresh htp upd_same)) (key := .inl (kk : Int)) (by simp [isKV]) (Nat.le_trans (putK_length _ _ _) hkl2) ?_
              rw [putK_putK]
              refine contQ_next (W_nil (contQ_next (W_nil (hQL _ _ _ (loopQ_next ?_)))))
              have hB9 := ((((ExtBut.refl D H8).put (y := AObj.dict (putK kvs2 (.inl (kk : Int)) (.str nestMsg tn)) (epK kvs2 (.inl (kk : Int)) ep2))).trans (ExtBut.of (Ext.upd (x := AObj.tup [.str "lacks" ta, .str "IndexError" tb]) htp))).trans (ExtBut.of (Ext.upd (x := AObj.list [.int (kk : Int), .ref rt]) hlp)))
              have hrtD : rt ≠ D := fun q => by have z := XD9.dict; rw [← q, hrt9] at z; cases z
              have hlpD : lp ≠ D := fun q => by rw [q, upd_fresh htp upd_same] at hlp; cases hlp
              refine hOut (.ref lp) _ _ _ V5 (hB9.put) ?_ upd_same
              rw [hend]
              exact ⟨lp, rt, (y, yt) :: ks, rfl, upd_ne hlpD upd_same, upd_ne hrtD (hB9 rt _ hrtD hrt9), rfl⟩
            | some jj =>
              rw [hlk] at hrv hend
              cases hst : stepTo plan loose jj with
              | none =>
                simp only [hst] at hrv hend
                obtain ⟨tr, rfl⟩ := hrv
                refine WCall_getD X9.dict (key := .inr "IndexError") (by simp [isKV]) ?_
                rw [X9.lacksS]
                refine W_Name V5.now ?_
                refine W_Name hmk5 ?_
                refine WSet_dict XD9.dict (key := .inl (kk : Int)) (by simp [isKV]) (by lia) ?_
                refine contQ_next ?_
                refine W_cons' ?_
                refine W_If ?_
                refine WT_Compare ?_
                refine W_Name hmr5 ?_
                refine W_Tuple ?_
                refine WItems_cons ?_
                refine W_str fun ta hta => ?_
                refine WItems_cons ?_
                refine W_str fun tb htb => ?_
                refine WItems_nil ⟨by simp [sizeLine], fun tp htp => ?_⟩
                refine WCmp_inTup upd_same (by simp [simpleV]) rfl ?_
                refine WTr_bool ?_
                rw [if_pos (by simp [eqKV])]
                refine W_cons' ?_
                refine W_AssignSub ?_
                refine W_IfExp ?_
                refine WT_Compare ?_
                refine W_Name hmr5 ?_
                refine W_str fun tc htc => ?_
                refine WCmp_eqS ?_
                refine WTr_bool ?_
                rw [if_neg (by decide)]
                refine W_Name hmr5 ?_
                refine W_Name V5.now ?_
                refine W_Name hmk5 ?_
                refine WSet_dict (upd_fresh htp upd_same) (key := .inl (kk : Int)) (by simp [isKV]) (Nat.le_trans (putK_length _ _ _) hkl2) ?_
                rw [putK_putK]
                refine contQ_next (W_nil (contQ_next (W_nil (hQL _ _ _ (loopQ_next ?_)))))
                refine hOut (.str "IndexError" tr) _ _ _ V5 ((((ExtBut.refl D H8).put).trans (ExtBut.of (Ext.upd htp))).put) ?_ upd_same
                rw [hend]
                exact ⟨tr, rfl⟩
              | some j' =>
                simp only [hst] at hrv hend
                subst hrv
                refine WCall_getD X9.dict (key := .inl (j' : Int)) (by simp [isKV]) ?_
                have hval : EndV H8 ((getK kvs (.inl (j' : Int))).getD (.str nestMsg tn)) (endOf plan loose (y :: ks.map (·.1)) kk) := by
                  rw [hend]
                  by_cases hj' : isDAt plan j' = true
                  · obtain ⟨v, hv, hvE⟩ := X9.get (mem_dRows.mpr hj')
                    rw [hv, if_pos hj']; exact hvE
                  · rw [X9.lacks (fun q => hj' (mem_dRows.mp q)), if_neg hj']
                    exact ⟨tn, rfl⟩
                refine W_Name V5.now ?_
                refine W_Name hmk5 ?_
                refine WSet_dict XD9.dict (key := .inl (kk : Int)) (by simp [isKV]) (by lia) ?_
                refine contQ_next ?_
                refine W_cons' ?_
                refine W_If ?_
                refine WT_Compare ?_
                refine W_Name hmr5 ?_
                refine W_Tuple ?_
                refine WItems_cons ?_
                refine W_str fun ta hta => ?_
                refine WItems_cons ?_
                refine W_str fun tb htb => ?_
                refine WItems_nil ⟨by simp [sizeLine], fun tp htp => ?_⟩
                refine WCmp_inTup upd_same (by simp [simpleV]) rfl ?_
                refine WTr_bool ?_
                rw [if_neg (by simp [eqKV])]
                refine W_nil (contQ_next (W_nil (hQL _ _ _ (loopQ_next ?_))))
                have htD : D ≠ tp := fun q => by rw [← q, upd_same] at htp; cases htp
                exact hOut _ _ _ _ V5 (((ExtBut.refl D H8).put).trans (ExtBut.of (Ext.upd htp))) ((hval.put XD9.dict).ext (Ext.upd htp)) (upd_ne htD upd_same)
        · rintro m2 H' ⟨hB, h1, h2, h3, h4, h5, h6, h7, X8, kvs2, ep2, XD⟩
          have hlen : kvs.length = (dRows plan).length := by
            have := congrArg List.length X.keys
            simpa using this
          rw [hlen, List.take_length] at XD
          refine contQ_next ?_
          refine W_cons' ?_
          refine W_Assign ?_ (stor (by rfl)) (by rfl)
          refine W_Name (by walk_at "lk") ?_
          refine contQ_next ?_
          refine W_nil ?_
          refine hQO _ _ _ (loopQ_next ?_)
          refine ⟨hE6.trans (hB.ext hD), by walk_at "lk", by walk_at "lk", by walk_at "lk", by walk_at "lk", D, kvs2, ep2, by walk_at "lk", ?_⟩
          rw [hnext, hdrop]
          exact XD
      · rintro m' H6 ⟨hE6, hmp, hmi, hmk, hml, E, kvs, ep', hmE, X⟩
        rw [hal, Nat.sub_self, List.drop_zero] at X
        refine contQ_next ?_
        refine W_cons' ?_
        refine W_Return' ?_
        refine W_Subscript ?_
        refine W_Name hmE ?_
        refine W_Name hmi ?_
        obtain ⟨v, hv, hvE⟩ := X.get (mem_dRows.mpr hi)
        refine WSub_dict X.dict (key := .inl i) (by simp [isKV]) hv ?_
        intro uR huR
        refine contQ_ret ?_
        refine RQ_ret huR ?_
        exact ⟨hE5.trans hE6, hvE⟩
end
section
noncomputable abbrev L2.fDue : Stmt := stm L2.stmsC 5
noncomputable abbrev L2.fCall : Stmt := stm L2.stmsC 6
theorem rdS {H : AHeap} : ∀ l : List (Str × Tok), RdAll H (l.map fun p => PyData.str p.1) (l.map fun p => .str p.1 p.2)
  | [] => rfl
  | p :: r => ⟨_, _, rfl, ⟨_, rfl⟩, rdS r⟩
noncomputable def KeysOK (keys : List (Str × Tok)) : Prop := ∀ p ∈ keys, p.1 = "a" ∨ p.1 = ""
theorem goodAllS : ∀ xs : List (Str × Tok), KeysOK xs → goodAll (xs.map fun p => PyData.str p.1) = true
  | [], _ => rfl
  | x :: r, h => by
    have h1 : PyData.strOk x.1 = true := by rcases h x List.mem_cons_self with e | e <;> rw [e] <;> decide +kernel
    simp [goodAll, good, goodAllS r (fun p q => h p (List.mem_cons_of_mem _ q)), h1]
theorem goodS {xs : List (Str × Tok)} (h : KeysOK xs) : good (.tuple (xs.map fun p => PyData.str p.1)) = true := by simp [good, goodAllS xs h]
theorem DefAt.obj {c : Cx} {f : Addr} {st : Stmt} (F : DefAt c f st) : ∃ fo fd, c.base.get? f = some fo ∧ fo.data = .func fd := by
  obtain ⟨fd, F1, _⟩ := F.at_
  obtain ⟨fo, h1, h2⟩ := F1.obj
  exact ⟨fo, fd, h1, h2⟩
theorem L2.due_ok {c : Cx} {A : Around} {f fE pa kt : Addr} {ra : List Addr} {plan : List Row} {keys : List (Str × Tok)} {i : Nat} {kind : Int} {H : AHeap} (G : Blt c) (F : DefAt c f L2.fDue) (FE : DefAt c fE L2.fEnd) (gE : Gl c "_law_end" (.ref fE)) (hA : Room A) (hA' : A.depth ≤ 599 ∧ A.units ≤ 1997)
    (P : PlanAt H pa ra plan) (hP : PlanOK plan) (hkt : H kt = some (.tup (keys.map fun p => .str p.1 p.2))) (hkl : keys.length ≤ 100) (hok : KeysOK keys) (hi : isDAt plan i = true) :
    FnV c A f [.ref pa, .int kind, .int i, .ref kt] [] H (fun v H' => Ext H H' ∧ EndV H' v (dueOf plan kind (keys.map (·.1)) i)) NoX := by
  refine FnV.top F hA ["plan", "kind", "i", "key"] rfl (fun fd rvs h1 h2 h3 hl => ?_) (by rfl) fun k hk => ?_
  · obtain ⟨x, y, z, w, rfl⟩ := len4 hl
    cases fd; simp only at h1 h2 h3; subst h1; subst h2; subst h3; rfl
  obtain ⟨rfl, sv, hfr, hdep, hun, hhd, hX, hhere⟩ := hk
  show W k (execs (fnBody L2.fDue) k.env) (setL (setL (setL (setL noLoc "plan" (.ref pa)) "kind" (.int kind)) "i" (.int i)) "key" (.ref kt)) H _
  have G0 := G
  obtain ⟨gLen, gDivmod, gIsi, gList, gDict, gStr, gRange, gZip, gKE, gIE, imp, tree⟩ := G
  have hh : k.A.handled = none := hhd.trans hA.handled
  have hAk : Room k.A := ⟨by lia, by lia, hh⟩
  obtain ⟨foE, fdE, hfE, hdE⟩ := FE.obj
  have hun2 : k.A.units + 64 < cLine := Nat.lt_of_le_of_lt (m := 2070) (by lia) (by decide)
  refine W_cons' ?_
  refine W_If ?_
  refine WT_Or ?_
  refine W_allTrue_or ?_
  refine WT_Compare ?_
  refine W_Name (by walk_at "lk") ?_
  refine W_int ?_
  refine WCmp_lt ?_
  refine WTr_bool ?_
  by_cases hk4 : kind < 4
  · rw [decide_eq_true hk4]
    refine iteT (iteT ?_)
    refine W_cons' ?_
    refine W_Return' ?_
    refine W_IfExp ?_
    refine WT_Compare ?_
    refine W_Name (by walk_at "lk") ?_
    refine W_int ?_
    refine WCmp_lt ?_
    refine WTr_bool ?_
    rw [decide_eq_true hk4]
    refine iteT ?_
    refine W_CallF gE (kindS (by rfl)) hfE hdE ?_
    refine WItems_cons ?_
    refine W_Name (by walk_at "lk") ?_
    refine WItems_cons ?_
    refine W_Name (by walk_at "lk") ?_
    refine WItems_cons ?_
    refine W_Name (by walk_at "lk") ?_
    refine WItems_cons ?_
    refine W_Compare ?_
    refine W_Name (by walk_at "lk") ?_
    refine W_int ?_
    refine WCmp_eq ?_
    refine WItems_nil ?_
    refine FnV.mono (L2.end_ok G0 FE hAk P hP hkt hkl hi) ?_ (fun _ _ _ q => q.elim)
    rintro v H' ⟨hE, hv⟩
    intro uR huR
    refine contQ_ret ?_
    refine contQ_ret ?_
    refine RQ_ret huR ?_
    refine ⟨hE, ?_⟩
    unfold dueOf
    rw [if_pos hk4]; exact hv
  · rw [decide_eq_false hk4]
    refine iteF ?_
    refine W_allTrue_or ?_
    refine WT_Compare ?_
    refine W_Name (by walk_at "lk") ?_
    refine W_Tuple ?_
    refine WItems_nil ⟨by simp, fun tp htp => ?_⟩
    refine WCmp_eqD (da := .tuple (keys.map fun p => .str p.1)) (db := .tuple []) (r := keys.isEmpty) ⟨kt, _, rfl, upd_fresh htp hkt, rdS keys⟩ ⟨tp, [], rfl, upd_same, rfl⟩ (goodS hok) rfl (Nat.le_trans (Nat.min_le_right _ _) (by decide)) hun2 (by cases keys <;> simp) ?_
    refine WTr_bool ?_
    rcases List.eq_nil_or_concat keys with rfl | ⟨kinit, ⟨z, zt⟩, rfl⟩
    · refine iteT (iteT ?_)
      refine W_cons' ?_
      refine W_Return' ?_
      refine W_IfExp ?_
      refine WT_Compare ?_
      refine W_Name (by walk_at "lk") ?_
      refine W_int ?_
      refine WCmp_lt ?_
      refine WTr_bool ?_
      rw [decide_eq_false hk4]
      refine iteF ?_
      refine W_str fun t ht => ?_
      intro uR huR
      refine contQ_ret ?_
      refine contQ_ret ?_
      refine RQ_ret huR ?_
      refine ⟨Ext.upd htp, ?_⟩
      unfold dueOf
      rw [if_neg hk4]
      exact ⟨t, rfl⟩
    · have hne : (kinit.concat (z, zt)).isEmpty = false := by simp
      rw [hne]
      refine iteF (W_allTrue_nilO (iteF ?_))
      refine W_nil (contQ_next ?_)
      have hlen : (kinit.concat (z, zt)).length = kinit.length + 1 := by simp
      have hz : (kinit.concat (z, zt)).map (fun p => V.str p.1 p.2) = (kinit.map fun p => V.str p.1 p.2) ++ [.str z zt] := by simp
      have hE1 := Ext.upd (x := AObj.tup []) htp
      have hkt1 := hE1 kt _ hkt
      rw [hz] at hkt1
      have hdue : dueOf plan kind ((kinit.concat (z, zt)).map (·.1)) i = match endOf plan true (kinit.map (·.1)) i with
          | .at k [] => match plan[k]? with
            | some (.d kr) => match kr.lookup z with
              | some j => match plan[j]? with
                | some (.l _) => .at k []
                | _ => .no listMsg
              | none => .at k []
            | _ => .at k []
          | e => e := by
        unfold dueOf
        rw [if_neg hk4]
        simp only [List.getLast?_map, List.concat_eq_append, List.getLast?_append, List.getLast?_singleton, Option.some_or, Option.map_some, List.map_append, List.map_cons, List.map_nil, List.dropLast_concat]
        try rfl
      rw [hdue]
      refine W_cons' ?_
      refine W_Assign ?_ (stor (by rfl)) (by rfl)
      refine W_CallF gE (kindS (by rfl)) hfE hdE ?_
      refine WItems_cons ?_
      refine W_Name (by walk_at "lk") ?_
      refine WItems_cons ?_
      refine W_Name (by walk_at "lk") ?_
      refine WItems_cons ?_
      refine W_SubSlice ?_
      refine W_Name (by walk_at "lk") ?_
      refine WPart_none ?_
      refine WPart_some ?_
      refine W_UnaryOp ?_
      refine W_int ?_
      refine WUn_neg ?_
      refine ⟨_, rfl, kt, rfl, .inr ⟨_, hkt1, by simp [sizeLine]; lia, fun kt2 H1 hE2 hkt2 => ?_⟩⟩
      rw [sliceV_dropLast, List.dropLast_concat] at hkt2
      refine WItems_cons ?_
      refine W_bool ?_
      refine WItems_nil ?_
      have hE12 := hE1.trans hE2
      refine FnV.mono (L2.end_ok (keys := kinit) G0 FE hAk (P.ext hE12) hP hkt2 (by lia) hi) ?_ (fun _ _ _ q => q.elim)
      rintro v H2 ⟨hE3, hv⟩
      have hE13 := hE12.trans hE3
      have P2 := P.ext hE13
      have hkt3 := (hE2.trans hE3) kt _ hkt1
      refine contQ_next ?_
      refine W_cons' ?_
      have hdueN : setL (setL (setL (setL (setL noLoc "plan" (.ref pa)) "kind" (.int kind)) "i" (.int i)) "key" (.ref kt)) "due" v "due" = some v := setL_same
      have hplN : setL (setL (setL (setL (setL noLoc "plan" (.ref pa)) "kind" (.int kind)) "i" (.int i)) "key" (.ref kt)) "due" v "plan" = some (.ref pa) := by walk_at "lk"
      have hkeyN : setL (setL (setL (setL (setL noLoc "plan" (.ref pa)) "kind" (.int kind)) "i" (.int i)) "key" (.ref kt)) "due" v "key" = some (.ref kt) := by walk_at "lk"
      generalize setL (setL (setL (setL (setL noLoc "plan" (.ref pa)) "kind" (.int kind)) "i" (.int i)) "key" (.ref kt)) "due" v = m1 at hdueN hplN hkeyN
      -- at the end: due
      have fin : ∀ H3, Ext H2 H3 → ∀ e, EndV H3 v e → W k (execs ((fnBody L2.fDue).drop 3) k.env) m1 H3 (RQ fun v H' => Ext H H' ∧ EndV H' v e) := fun H3 h3 e he => by
        refine W_cons' ?_
        refine W_Return' ?_
        refine W_Name hdueN ?_
        intro uR huR
        refine contQ_ret ?_
        refine RQ_ret huR ?_
        exact ⟨hE13.trans h3, he⟩
      refine W_If ?_
      refine WT_And ?_
      refine W_allTrue_and ?_
      refine WT_plain ?_
      refine W_CallB gIsi (kindS (by rfl)) ?_
      refine WItems_cons ?_
      refine W_Name hdueN ?_
      refine WItems_cons ?_
      refine W_NameG gList (kindS (by rfl)) ?_
      refine WItems_nil ?_
      cases hend : endOf plan true (kinit.map (·.1)) i with
      | no msg =>
        rw [hend] at hv
        obtain ⟨t, rfl⟩ := hv
        refine WCall_isi (T := "list") (by simp [tyOf]) (by simp) ?_
        refine WTr_bool ?_
        rw [show decide (tyOf H2 (.str msg t) = some "list") = false by simp [tyOf]]
        refine iteF (iteF (W_nil (contQ_next ?_)))
        exact fin H2 (Ext.refl _) _ ⟨t, rfl⟩
      | «at» kk rest =>
        rw [hend] at hv
        obtain ⟨da, t, l, rfl, hda, ht, hl⟩ := id hv
        refine WCall_isi (T := "list") (by simp [tyOf, hda]) (by simp) ?_
        refine WTr_bool ?_
        rw [show decide (tyOf H2 (.ref da) = some "list") = true by simp [tyOf, hda]]
        refine iteT ?_
        refine W_allTrue_and ?_
        refine WT_Compare ?_
        refine W_Subscript ?_
        refine W_Name hdueN ?_
        refine W_int ?_
        refine WSub_list (v := .ref t) hda (by decide) (by decide) (by rfl) ?_
        refine W_Tuple ?_
        refine WItems_nil ⟨by simp, fun tp2 htp2 => ?_⟩
        have hE4 := Ext.upd (x := AObj.tup []) htp2
        have hokl : KeysOK l := fun p hp => by
          have h1 : p.1 ∈ rest := by rw [← hl]; exact List.mem_map_of_mem hp
          have h2 := endOf_rest _ _ _ _ hend p.1 h1
          obtain ⟨q, hq, e⟩ := List.mem_map.mp h2
          rw [← e]
          exact hok q (by simp [hq])
        refine WCmp_eqD (da := .tuple (l.map fun p => .str p.1)) (db := .tuple []) (r := l.isEmpty) ⟨t, _, rfl, hE4 t _ ht, rdS l⟩ ⟨tp2, [], rfl, upd_same, rfl⟩ (goodS hokl) rfl (Nat.le_trans (Nat.min_le_right _ _) (by decide)) hun2 (by cases l <;> simp) ?_
        refine WTr_bool ?_
        cases l with
        | cons p r =>
          subst hl
          refine iteF (iteF (W_nil (contQ_next ?_)))
          exact fin _ hE4 _ (hv.ext hE4)
        | nil =>
          have hl' : rest = [] := hl.symm
          subst hl'
          refine iteT ?_
          have hDkk : isDAt plan kk = true := endOf_isD _ _ hi _ _ hend
          obtain ⟨kr, hkr⟩ : ∃ kr, plan[kk]? = some (.d kr) := by
            unfold isDAt at hDkk
            split at hDkk
            · rename_i kr e; exact ⟨kr, e⟩
            · cases hDkk
          have hkklt : kk < plan.length := (List.getElem?_eq_some_iff.mp hkr).1
          have P4 := P2.ext hE4
          obtain ⟨ak, hak, epk, hrow⟩ := P4.row kk _ hkr
          have hsubk : (ra.map V.ref)[((kk : Int)).toNat]? = some (.ref ak) := by rw [List.getElem?_map, Int.toNat_natCast, hak]; rfl
          have hkt4 := hE4 kt _ hkt3
          have hda4 := hE4 da _ hda
          have hsz := hP.size
          have hseq : seqIndex? (-1) ((kinit.map fun p => V.str p.1 p.2) ++ [V.str z zt]).length = some kinit.length := by
            simp only [List.length_append, List.length_map, List.length_singleton, seqIndex?]
            rw [if_pos (show (-1 : Int) < 0 by decide), if_pos (by simp; lia)]
            congr 1
            lia
          have hlastv : ((kinit.map fun p => V.str p.1 p.2) ++ [V.str z zt])[kinit.length]? = some (.str z zt) := by simp
          -- key[-1]
          have kz : ∀ {value : Expr} {pos : Pos} {p1 p2 p3 : Pos} {n : Nat} {Q : V → Loc → AHeap → Prop}, Q (.str z zt) m1 (upd H2 tp2 (.tup [])) → WV k (eval (.Subscript (.Name "key" p1) (.UnaryOp .USub (.Constant (.int 1) n p2) p3) pos) k.env) m1 (upd H2 tp2 (.tup [])) Q := fun q => by
            refine W_Subscript ?_
            refine W_Name hkeyN ?_
            refine W_UnaryOp ?_
            refine W_int ?_
            refine WUn_neg ?_
            exact WSub_tup hkt4 (by decide) (by decide) hseq hlastv q
          refine W_allTrue_and ?_
          refine WT_Compare ?_
          refine kz (value := default) ?_
          refine W_Subscript ?_
          refine W_Name hplN ?_
          refine W_Subscript ?_
          refine W_Name hdueN ?_
          refine W_int ?_
          refine WSub_list (v := .int (kk : Int)) hda4 (by decide) (by decide) (by rfl) ?_
          refine WSub_list (v := .ref ak) P4.list (by lia) (by lia) hsubk ?_
          refine WCmp_inDict hrow (key := .inr z) (by simp [isKV]) ?_
          refine WTr_bool ?_
          rw [getK_row]
          simp only [hkr]
          cases hlk : kr.lookup z with
          | none =>
            simp only [Option.map_none, Option.isSome_none]
            refine iteF (iteF (W_nil (contQ_next ?_)))
            exact fin _ hE4 _ (hv.ext hE4)
          | some jj =>
            simp only [Option.map_some, Option.isSome_some]
            refine W_allTrue_nilA (iteT ?_)
            have hjj : jj < plan.length := hP.closed kk _ hkr jj (by
              obtain ⟨l1, l2, e, _⟩ := List.lookup_eq_some_iff.mp hlk
              show jj ∈ kr.map (·.2)
              rw [e]; simp)
            obtain ⟨rr, hrr⟩ : ∃ rr, plan[jj]? = some rr := ⟨_, List.getElem?_eq_getElem hjj⟩
            obtain ⟨aj, haj, hrow2⟩ := P4.row jj _ hrr
            have hsubj : (ra.map V.ref)[((jj : Int)).toNat]? = some (.ref aj) := by rw [List.getElem?_map, Int.toNat_natCast, haj]; rfl
            refine W_cons' ?_
            refine W_If ?_
            refine WT_Not ?_
            refine WT_plain ?_
            refine W_CallB gIsi (kindS (by rfl)) ?_
            refine WItems_cons ?_
            refine W_Subscript ?_
            refine W_Name hplN ?_
            refine W_Subscript ?_
            refine W_Subscript ?_
            refine W_Name hplN ?_
            refine W_Subscript ?_
            refine W_Name hdueN ?_
            refine W_int ?_
            refine WSub_list (v := .int (kk : Int)) hda4 (by decide) (by decide) (by rfl) ?_
            refine WSub_list (v := .ref ak) P4.list (by lia) (by lia) hsubk ?_
            refine kz (value := default) ?_
            refine WSub_dict hrow (key := .inr z) (v := .int (jj : Int)) (by simp [isKV]) (by rw [getK_row, hlk]; rfl) ?_
            refine WSub_list (v := .ref aj) P4.list (by lia) (by lia) hsubj ?_
            refine WItems_cons ?_
            refine W_NameG gList (kindS (by rfl)) ?_
            refine WItems_nil ?_
            refine WCall_isi (T := "list") (by rw [tyOf_row hrow2]; simp) (by simp) ?_
            refine WTr_bool ?_
            rw [tyOf_row hrow2]
            simp only [hrr]
            have bad : ∀ t, 1 ≤ t → RQ (fun v H' => Ext H H' ∧ EndV H' v (.no listMsg)) (.ret (.str listMsg t)) m1 (upd H2 tp2 (.tup [])) := fun t _ => RQ_ret rfl ⟨hE13.trans hE4, t, rfl⟩
            cases rr with
            | l xs =>
              simp only
              rw [if_neg (by simp)]
              refine W_nil (contQ_next (W_nil ?_))
              exact fin _ hE4 _ (hv.ext hE4)
            | d kr2 =>
              simp only
              rw [if_pos (by simp)]
              refine W_cons' ?_
              refine W_Return' ?_
              refine W_str fun t ht => ?_
              intro u hu
              refine contQ_ret (contQ_ret (contQ_ret ?_))
              refine RQ_ret hu ?_
              exact ⟨hE13.trans hE4, t, rfl⟩
            | t xs =>
              simp only
              rw [if_pos (by simp)]
              refine W_cons' ?_
              refine W_Return' ?_
              refine W_str fun t ht => ?_
              intro u hu
              refine contQ_ret (contQ_ret (contQ_ret ?_))
              refine RQ_ret hu ?_
              exact ⟨hE13.trans hE4, t, rfl⟩
end
section
noncomputable def XC (Q : V → AHeap → Prop) : String → Option (List V) → AHeap → Prop := fun cls args H =>
  (cls = "KeyError" ∧ ∃ l, args = some l ∧ ∀ e t, H e = none → H t = none → t ≠ e → Q (.ref t) (upd (upd H t (.tup l)) e (.exc "KeyError" (some t)))) ∨
  (cls = "IndexError" ∧ ∀ t tok, H t = none → Q (.ref t) (upd H t (.tup [.str "IndexError" tok])))
theorem L2.call_ok {c : Cx} {A : Around} {f C fI fG fA x dx kt b0 : Addr} {keys : List (Str × Tok)} {kind : Int} {H : AHeap} {Q : V → AHeap → Prop} (G : Blt c) (N : NestAt c C fI fG fA L2.cls) (F : DefAt c f L2.fCall) (hA : Room A) (hA' : A.depth ≤ 590 ∧ A.units ≤ 1980)
    (hx : H x = some (.inst C dx)) (hd : H dx = some (.attrs (.ref b0))) (hkt : H kt = some (.tup (keys.map fun p => .str p.1 p.2))) (hkl : keys.length < 2 ^ 20)
    (h4 : kind = 4 → ∀ H1, Ext H H1 → Ga (Q .none) (XC Q) (keys.map (·.1)) b0 H1)
    (h23 : kind ≠ 4 → Gw (decide (kind ≠ 3)) (fun a H' => Q (.ref a) H') (XC Q) (keys.map (·.1)) b0 H) :
    FnV c A f [.ref x, .int kind, .ref kt] [] H Q NoX := by
  refine FnV.top F hA ["mount", "kind", "key"] rfl (fun fd rvs h1 h2 h3 hl => ?_) (by rfl) fun k hk => ?_
  · obtain ⟨x, y, z, rfl⟩ := len3 hl
    cases fd; simp only at h1 h2 h3; subst h1; subst h2; subst h3; rfl
  obtain ⟨rfl, sv, hfr, hdep, hun, hhd, hX, hhere⟩ := hk
  show W k (execs (fnBody L2.fCall) k.env) (setL (setL (setL noLoc "mount" (.ref x)) "kind" (.int kind)) "key" (.ref kt)) H _
  have G0 := G
  obtain ⟨gLen, gDivmod, gIsi, gList, gDict, gStr, gRange, gZip, gKE, gIE, imp, tree⟩ := G
  have hh : k.A.handled = none := hhd.trans hA.handled
  obtain ⟨fdG, FG1, FG2⟩ := id N.get
  obtain ⟨fdA, FA1, FA2⟩ := id N.app.at_
  refine W_cons' ?_
  refine W_Try (fun cls xs _ H => XC Q cls xs H) hfr (fun k' hk' => ?_) fun e cls xs m1 H1 hxc => ?_
  · haveI := hk'.senv (sc := fnScope L2.fCall) (cn := cellNames (fnScope L2.fCall).names)
    have N' : NestAt k'.c C fI fG fA L2.cls := by rw [hk'.c]; exact N
    have G' : Blt k'.c := by rw [hk'.c]; exact G0
    have FG' : FnAt k'.c fG fdG (fnBody (stm (fnBody L2.cls) 1)) := by rw [hk'.c]; exact FG1
    have FA' : FnAt k'.c fA fdA (fnBody (stm (fnBody L2.cls) 2)) := by rw [hk'.c]; exact FA1
    have hAk : Room k'.A := by rw [hk'.A]; exact ⟨by lia, by lia, hh⟩
    have hAk' : k'.A.depth ≤ 599 ∧ k'.A.units ≤ 1997 := by rw [hk'.A]; lia
    have hXk : ∀ a b H', XC Q a b H' → ∀ m, k'.X a b m H' := fun a b H' q m => by rw [hk'.X]; exact q
    refine W_cons' ?_
    refine W_If ?_
    refine WT_Compare ?_
    refine W_Name (by walk_at "lk") ?_
    refine W_int ?_
    refine WCmp_eq ?_
    refine WTr_bool ?_
    by_cases h : kind = 4
    · rw [if_pos (by simpa using h)]
      refine W_cons' ?_
      refine W_Return' ?_
      refine W_CallMeth N'.mA FA' ?_
      refine W_Name (by walk_at "lk") ?_
      refine ⟨x, dx, _, rfl, hx, hd, ?_⟩
      refine WItems_cons ?_
      refine W_Name (by walk_at "lk") ?_
      refine WItems_nil ?_
      refine FnV.mono (L2.append_call G' N' hAk hAk' hx hd hkt hkl (h4 h)) ?_ (fun a b H' q => hXk a b H' q _)
      rintro _ H' ⟨rfl, hq⟩ u hu
      exact (show Q (er u) H' from by rw [hu]; exact hq)
    · rw [if_neg (by simpa using h)]
      refine W_nil (contQ_next ?_)
      refine W_cons' ?_
      refine W_If ?_
      refine WT_Compare ?_
      refine W_Name (by walk_at "lk") ?_
      refine W_int ?_
      refine WCmp_eq ?_
      refine WTr_bool ?_
      have hq := h23 h
      by_cases h3 : kind = 3
      · rw [if_pos (by simpa using h3)]
        rw [show decide (kind ≠ 3) = false by simpa using h3] at hq
        refine W_cons' ?_
        refine W_Return' ?_
        refine W_CallMethKw N'.mG FG' ?_
        refine W_Name (by walk_at "lk") ?_
        refine ⟨x, dx, _, rfl, hx, hd, ?_⟩
        refine WItems_cons ?_
        refine W_Name (by walk_at "lk") ?_
        refine WItems_nil ?_
        refine W_bool ?_
        refine FnV.mono (L2.nest_callF G' N' hAk hx hd hkt hq) ?_ (fun a b H' q => hXk a b H' q _)
        rintro _ H' ⟨a, rfl, hq⟩ u hu
        exact (show Q (er u) H' from by rw [hu]; exact hq)
      · rw [if_neg (by simpa using h3)]
        rw [show decide (kind ≠ 3) = true by simpa using h3] at hq
        refine W_nil (contQ_next ?_)
        refine W_cons' ?_
        refine W_Return' ?_
        refine W_CallMeth N'.mG FG' ?_
        refine W_Name (by walk_at "lk") ?_
        refine ⟨x, dx, _, rfl, hx, hd, ?_⟩
        refine WItems_cons ?_
        refine W_Name (by walk_at "lk") ?_
        refine WItems_nil ?_
        refine FnV.mono (L2.nest_call G' N' hAk hx hd hkt hq) ?_ (fun a b H' q => hXk a b H' q _)
        rintro _ H' ⟨a, rfl, hq⟩ u hu
        exact (show Q (er u) H' from by rw [hu]; exact hq)
  · rcases hxc with ⟨rfl, l, rfl, hq⟩ | ⟨rfl, hq⟩
    · refine WH_hitAs excClass_KeyError gKE (kindS (by rfl)) (kindS (by rfl)) sub_key_key (by decide) (by decide) fun kh t hkh he ht hte => ?_
      refine W_cons' ?_
      refine W_Return' ?_
      refine W_getArgs excAttr_KeyError setL_same upd_same ?_
      intro u hu
      exact contQ_ret (contQ_ret (RQ_ret hu (hq e t he ht hte)))
    · refine WH_skip excClass_KeyError gKE (kindS (by rfl)) sub_index_key (by decide) ?_
      refine WH_hit excClass_IndexError gIE (kindS (by rfl)) sub_index_index (by decide) fun kh hkh => ?_
      refine W_cons' ?_
      refine W_Return' ?_
      refine W_Tuple ?_
      refine WItems_cons ?_
      refine W_str fun t ht => ?_
      refine WItems_nil ⟨by simp [sizeLine], fun tp htp => ?_⟩
      intro u hu
      exact contQ_ret (contQ_ret (RQ_ret hu (hq tp t htp)))
end
section
noncomputable abbrev L2.fSeen : Stmt := stm L2.stmsC 7
theorem filter_range_eq (n j : Nat) (h : j < n) : (List.range n).filter (fun i => decide (i = j)) = [j] := by
  induction n with
  | zero => lia
  | succ n ih =>
    rw [List.range_succ, List.filter_append]
    by_cases hj : j < n
    · rw [ih hj]
      have : decide (n = j) = false := by simp; lia
      simp [this]
    · have hjn : j = n := by lia
      subst hjn
      have : (List.range j).filter (fun i => decide (i = j)) = [] := by
        rw [List.filter_eq_nil_iff]
        intro a ha
        rw [List.mem_range] at ha
        simp; lia
      rw [this]; simp
theorem tyOf_box {H : AHeap} {bv : List V} {b : V} {r : Row} (h : BoxAt H bv b r) : tyOf H b ≠ none ∧ (tyOf H b = some "dict" ↔ ∃ kvs, r = .d kvs) := by
  cases r with
  | d kvs => obtain ⟨a, ep, rfl, e⟩ := h; simp [tyOf, e]
  | l xs => obtain ⟨a, rfl, e⟩ := h; simp [tyOf, e]
  | t xs =>
    rcases h with ⟨a, rfl, e⟩ | ⟨t, h1, rfl, _⟩
    · simp [tyOf, e]
    · simp [tyOf]
theorem RdAll.snoc {H : AHeap} : ∀ {ds : List PyData} {vs : List V} {d : PyData} {v : V}, RdAll H ds vs → Rd H d v → RdAll H (ds ++ [d]) (vs ++ [v])
  | [], vs, d, v, h, h2 => by
    have h : vs = [] := h
    subst h
    exact ⟨v, [], rfl, h2, rfl⟩
  | e :: ds, vs, d, v, ⟨u, r, e1, e2, e3⟩, h2 => by
    subst e1
    exact ⟨u, r ++ [v], rfl, e2, RdAll.snoc e3 h2⟩
theorem RdAll.of {H : AHeap} : ∀ {ds : List PyData} {vs : List V}, vs.length = ds.length → (∀ (j : Nat) (d : PyData) (v : V), ds[j]? = some d → vs[j]? = some v → Rd H d v) → RdAll H ds vs
  | [], vs, hl, h => List.eq_nil_of_length_eq_zero (by simpa using hl)
  | d :: ds, [], hl, h => by simp at hl
  | d :: ds, v :: vs, hl, h => ⟨v, vs, rfl, h 0 d v rfl rfl, RdAll.of (by simpa using hl) fun j d v e1 e2 => h (j + 1) d v e1 e2⟩
theorem L2.seen_ok {c : Cx} {A : Around} {f ba : Addr} {bv : List V} {plan : List Row} {H : AHeap} (G : Blt c) (F : DefAt c f L2.fSeen) (hA : Room A) (hba : H ba = some (.list bv)) (X : BoxesAt H bv plan) (hP : PlanOK plan) :
    FnV c A f [.ref ba] [] H (fun v H' => Ext H H' ∧ Rd H' (.list (plan.map rowSeen)) v) NoX := by
  refine FnV.top F hA ["boxes"] rfl (fun fd rvs h1 h2 h3 hl => ?_) (by rfl) fun k hk => ?_
  · obtain ⟨x, rfl⟩ := len1 hl
    cases fd; simp only at h1 h2 h3; subst h1; subst h2; subst h3; rfl
  obtain ⟨rfl, sv, hfr, hdep, hun, hhd, hX, hhere⟩ := hk
  show W k (execs (fnBody L2.fSeen) k.env) (setL noLoc "boxes" (.ref ba)) H _
  obtain ⟨gLen, gDivmod, gIsi, gList, gDict, gStr, gRange, gZip, gKE, gIE, imp, tree⟩ := G
  have hh : k.A.handled = none := hhd.trans hA.handled
  have hsz := hP.size
  have hbl := X.len
  refine W_cons' ?_
  refine W_Assign ?_ (stor (by rfl)) (by rfl)
  refine W_List ?_
  refine WItems_nil ⟨by simp, fun S hS => ?_⟩
  refine contQ_next ?_
  refine W_cons' ?_
  refine W_For ?_
  refine W_Name (by walk_at "lk") ?_
  have hba1 := upd_fresh (x := AObj.list []) hS hba
  have hbaS : ba ≠ S := fun q => by rw [q, hS] at hba; cases hba
  refine ⟨_, _, _, fun i m' H' => ExtBut S H H' ∧ m' "boxes" = some (.ref ba) ∧ m' "seen" = some (.ref S) ∧ ∃ vs, H' S = some (.list vs) ∧ vs.length = i ∧ RdAll (del S H') ((plan.take i).map rowSeen) vs,
    WIter_list hh hba1, ⟨ExtBut.of (Ext.upd hS), by walk_at "lk", by walk_at "lk", [], upd_same, rfl, rfl⟩, fun i m' H' q => q.1 ba _ hbaS hba, ?_, ?_⟩
  · rintro i b m' H1 hi hR ⟨hB, hmb, hms, vs, hvs, hvl, hrd⟩
    have hi' : i < plan.length := by lia
    obtain ⟨r, hr⟩ : ∃ r, plan[i]? = some r := ⟨_, List.getElem?_eq_getElem hi'⟩
    obtain ⟨b', hb', hbox⟩ := X.row i r hr
    rw [hR] at hb'; cases hb'
    have E1 : Ext H H1 := hB.ext hS
    have X1 := X.ext E1
    have hba2 := E1 ba _ hba
    have hbox1 := hbox.ext E1
    have hrs := hP.small i r hr
    have hcl := hP.closed i r hr
    have hval : ∀ j ∈ r.refs, bv[j]? = some (bv.getD j .none) := fun j hj => by
      have := hcl j hj
      rw [List.getD_eq_getElem?_getD, List.getElem?_eq_getElem (by lia)]; rfl
    refine WAs_Name (stor (by rfl)) ?_
    refine W_cons' ?_
    -- things
    refine W_Assign ?_ (stor (by rfl)) (by rfl)
    refine WV_cut (fun v m2 H2 => m2 = setL m' "box" b ∧ ∃ T, v = .ref T ∧ Ext H1 H2 ∧ H2 T = some (.list (boxL bv r.refs))) ?_ ?_
    · refine W_IfExp ?_
      refine WT_plain ?_
      refine W_CallB gIsi (kindS (by rfl)) ?_
      refine WItems_cons ?_
      refine W_Name setL_same ?_
      refine WItems_cons ?_
      refine W_NameG gDict (kindS (by rfl)) ?_
      refine WItems_nil ?_
      refine WCall_isi (T := "dict") (tyOf_box hbox1).1 (by simp) ?_
      refine WTr_bool ?_
      cases r with
      | d kvs =>
        obtain ⟨a, ep, rfl, ha⟩ := hbox1
        rw [show decide (tyOf H1 (.ref a) = some "dict") = true by simp [tyOf, ha]]
        refine iteT ?_
        refine W_CallT gList (kindS (by rfl)) ?_
        refine WItems_cons ?_
        refine W_CallM' PySem.F.plainAttrs_dict PySem.F.slot_dict_values PySem.F.type_dict_values ?_
        refine W_Name setL_same ?_
        refine ⟨onDict ha, ?_⟩
        refine WItems_nil ?_
        refine WCall_values ha fun va hva => ?_
        refine WItems_nil ?_
        refine WCall_listVals hh upd_same (upd_fresh hva ha) ?_ fun T hT => ?_
        · rw [show sizeLine = _ from sizeLine_eq]; simp [boxD]; simp [Row.refs] at hrs; lia
        refine ⟨rfl, T, rfl, (Ext.upd hva).trans (Ext.upd hT), ?_⟩
        rw [upd_same]
        simp [boxL, boxD, Row.refs]
      | l xs =>
        obtain ⟨a, rfl, ha⟩ := hbox1
        rw [show decide (tyOf H1 (.ref a) = some "dict") = false by simp [tyOf, ha]]
        refine iteF ?_
        refine W_IfExp ?_
        refine WT_plain ?_
        refine W_CallB gIsi (kindS (by rfl)) ?_
        refine WItems_cons ?_
        refine W_Name setL_same ?_
        refine WItems_cons ?_
        refine W_NameG gStr (kindS (by rfl)) ?_
        refine WItems_nil ?_
        refine WCall_isi (T := "str") (by simp [tyOf, ha]) (by simp) ?_
        refine WTr_bool ?_
        rw [show decide (tyOf H1 (.ref a) = some "str") = false by simp [tyOf, ha]]
        refine iteF ?_
        refine W_CallT gList (kindS (by rfl)) ?_
        refine WItems_cons ?_
        refine W_Name setL_same ?_
        refine WItems_nil ?_
        refine WCall_listL (.inl ha) ?_ fun T hT => ⟨rfl, T, rfl, Ext.upd hT, by rw [upd_same]; rfl⟩
        rw [show sizeLine = _ from sizeLine_eq]; simp [boxL]; simp [Row.refs] at hrs; lia
      | t xs =>
        rcases hbox1 with ⟨a, rfl, ha⟩ | ⟨tt, h1, rfl, rfl⟩
        · rw [show decide (tyOf H1 (.ref a) = some "dict") = false by simp [tyOf, ha]]
          refine iteF ?_
          refine W_IfExp ?_
          refine WT_plain ?_
          refine W_CallB gIsi (kindS (by rfl)) ?_
          refine WItems_cons ?_
          refine W_Name setL_same ?_
          refine WItems_cons ?_
          refine W_NameG gStr (kindS (by rfl)) ?_
          refine WItems_nil ?_
          refine WCall_isi (T := "str") (by simp [tyOf, ha]) (by simp) ?_
          refine WTr_bool ?_
          rw [show decide (tyOf H1 (.ref a) = some "str") = false by simp [tyOf, ha]]
          refine iteF ?_
          refine W_CallT gList (kindS (by rfl)) ?_
          refine WItems_cons ?_
          refine W_Name setL_same ?_
          refine WItems_nil ?_
          refine WCall_listL (.inr ha) ?_ fun T hT => ⟨rfl, T, rfl, Ext.upd hT, by rw [upd_same]; rfl⟩
          rw [show sizeLine = _ from sizeLine_eq]; simp [boxL]; simp [Row.refs] at hrs; lia
        · rw [show decide (tyOf H1 (.str (Str.ofString "a") tt) = some "dict") = false by simp [tyOf]]
          refine iteF ?_
          refine W_IfExp ?_
          refine WT_plain ?_
          refine W_CallB gIsi (kindS (by rfl)) ?_
          refine WItems_cons ?_
          refine W_Name setL_same ?_
          refine WItems_cons ?_
          refine W_NameG gStr (kindS (by rfl)) ?_
          refine WItems_nil ?_
          refine WCall_isi (T := "str") (by simp [tyOf]) (by simp) ?_
          refine WTr_bool ?_
          rw [show decide (tyOf H1 (.str (Str.ofString "a") tt) = some "str") = true by simp [tyOf]]
          refine iteT ?_
          refine W_List ?_
          exact WItems_nil ⟨by simp, fun T hT => ⟨rfl, T, rfl, Ext.upd hT, by rw [upd_same]; rfl⟩⟩
    · rintro _ _ H2 ⟨rfl, T, rfl, E12, hT⟩
      have X2 := X1.ext E12
      have hba3 := E12 ba _ hba2
      have hvs2 := E12 S _ hvs
      refine contQ_next ?_
      refine W_cons' ?_
      refine W_Assign_ListComp (by rfl) (by rfl) (by rfl) (by rfl) (by rfl) (by rfl) ?_
      refine W_Name setL_same ?_
      have hTl : (boxL bv r.refs).length = r.refs.length := by simp [boxL]
      refine ⟨_, _, _, fun i acc H3 => Ext H2 H3 ∧ acc.length = i ∧ ∀ (j : Nat) v, acc[j]? = some v → ∃ a q, v = .ref a ∧ r.refs[j]? = some q ∧ H3 a = some (.list [.int ((q : Nat) : Int)]) ∧ a ≠ S, WIter_list hh hT, ?_, ?_, ?_, ?_, ?_⟩
      · exact ⟨Ext.refl _, rfl, fun j v e => by simp at e⟩
      · exact fun i acc H3 q => q.1 T _ hT
      · rw [hTl, show sizeLine = _ from sizeLine_eq]; lia
      · intro kc hkc i2 v acc mc H3 hi2 hv ⟨E23, hal, hacc⟩ hcap hx
        haveI sv1 := hkc.senv (sc := fnScope L2.fSeen) (cn := cellNames (fnScope L2.fSeen).names)
        have gRange' : Gl kc.c "range" (.type "range") := by rw [hkc.c]; exact gRange
        have gLen' : Gl kc.c "len" (.builtin "len") := by rw [hkc.c]; exact gLen
        have hmbc : mc "boxes" = some (.ref ba) := hcap.get (by walk_at "lk") (by rfl)
        have hhc : kc.A.handled = none := by rw [hkc.A]; exact hh
        rw [hTl] at hi2
        obtain ⟨q, hq⟩ : ∃ q, r.refs[i2]? = some q := ⟨_, List.getElem?_eq_getElem hi2⟩
        have hqm := List.mem_of_getElem? hq
        have hqlt := hcl q hqm
        have hvq : bv[q]? = some v := by
          rw [hval q hqm]
          rw [show (boxL bv r.refs)[i2]? = some (bv.getD q .none) by simp [boxL, hq]] at hv
          exact hv
        refine W_tests_nil ⟨rfl, ?_⟩
        rw [if_pos rfl]
        refine W_ListComp (by rfl) (by rfl) (by rfl) ?_
        refine W_CallT gRange' (kindS (by rfl)) ?_
        refine WItems_cons ?_
        refine W_CallB gLen' (kindS (by rfl)) ?_
        refine WItems_cons ?_
        refine W_Name hmbc ?_
        refine WItems_nil ?_
        have hba4 := E23 ba _ hba3
        refine WCall_lenL hba4 (by lia) ?_
        refine WItems_nil ?_
        refine WCall_range1 fun rg hrg => ?_
        refine ⟨_, _, _, fun i3 acc3 H4 => Ext H3 H4 ∧ acc3 = ((List.range i3).filter (fun i => decide (i = q))).map (fun (j : Nat) => V.int (j : Int)), WIter_range hhc upd_same (small_up (by lia)), ⟨Ext.upd hrg, rfl⟩, fun _ _ _ _ => trivial, ?_, ?_, ?_⟩
        · rw [rangeN_up, show sizeLine = _ from sizeLine_eq]; lia
        · intro kc2 hkc2 i3 v3 acc3 mc2 H4 hi3 hv3 ⟨E34, hacc3⟩ hcap2 hx2
          haveI sv2 := CompK.senv (I := sv1) hkc2
          rw [rangeN_up] at hi3
          have hv3' : v3 = .int (i3 : Int) := by rw [hv3]; simp
          subst hv3'
          have hmb2 : mc2 "boxes" = some (.ref ba) := hcap2.get hmbc (by rfl)
          have hmt2 : mc2 "thing" = some v := hcap2.get hx (by rfl)
          have hsub : bv[((i3 : Int)).toNat]? = some bv[i3] := by rw [Int.toNat_natCast]; exact List.getElem?_eq_getElem hi3
          refine W_tests_one ?_
          refine WT_Compare ?_
          refine W_Subscript ?_
          refine W_Name hmb2 ?_
          refine W_Name hx2 ?_
          refine WSub_list (E34 ba _ hba4) (by lia) (by lia) hsub ?_
          refine W_Name hmt2 ?_
          refine WCmp_is (((X2.ext E23).ext E34).is (List.getElem?_eq_getElem hi3) hvq) ?_
          refine WTr_bool ⟨rfl, ?_⟩
          by_cases h : i3 = q
          · rw [if_pos (by simpa using h)]
            refine W_Name hx2 ⟨rfl, E34, ?_⟩
            rw [List.range_succ, List.filter_append, hacc3]
            simp [h]
          · rw [if_neg (by simpa using h)]
            refine ⟨E34, ?_⟩
            rw [List.range_succ, List.filter_append, hacc3]
            simp [h]
        · intro l acc3 H4 _ ⟨E34, hacc3⟩ hl
          rw [rangeN_up, filter_range_eq _ _ (by lia)] at hacc3
          refine ⟨rfl, (E23.trans E34).trans (Ext.upd hl), by simp [hal], fun j v' e => ?_⟩
          rw [List.getElem?_append] at e
          split at e
          · obtain ⟨a, q', e1, e2, e3, e4⟩ := hacc j v' e
            exact ⟨a, q', e1, e2, (E34.trans (Ext.upd hl)) a _ e3, e4⟩
          · rename_i hlt
            have hj' : j - acc.length = 0 := by
              rcases Nat.eq_zero_or_pos (j - acc.length) with h | h
              · exact h
              · rw [List.getElem?_eq_none (by simp; lia)] at e; cases e
            rw [hj'] at e
            cases e
            have : j = i2 := by lia
            subst this
            refine ⟨l, q, rfl, hq, by rw [upd_same, hacc3]; rfl, fun z => ?_⟩
            rw [z, E34 S _ (E23 S _ hvs2)] at hl; cases hl
      · intro Pp acc H3 _ ⟨E23, hal, hacc⟩ hPp
        rw [hTl] at hal
        have E24 := E23.trans (Ext.upd (x := AObj.list acc) hPp)
        have hPS : Pp ≠ S := fun z => by rw [z, E23 S _ hvs2] at hPp; cases hPp
        have hacc4 : ∀ (j : Nat) v, acc[j]? = some v → ∃ a q, v = .ref a ∧ r.refs[j]? = some q ∧ upd H3 Pp (.list acc) a = some (.list [.int ((q : Nat) : Int)]) ∧ a ≠ S := fun j v e => by
          obtain ⟨a, q, e1, e2, e3, e4⟩ := hacc j v e
          exact ⟨a, q, e1, e2, upd_fresh hPp e3, e4⟩
        have hP4 : upd H3 Pp (.list acc) Pp = some (.list acc) := upd_same
        generalize upd H3 Pp (.list acc) = H4 at E24 hacc4 hP4
        clear hacc hPp E23
        have hbox4 := (hbox1.ext E12).ext E24
        have hvs4 := E24 S _ hvs2
        refine contQ_next ?_
        refine W_cons' ?_
        refine W_ExprStmt ?_
        refine W_CallM' PySem.F.plainAttrs_list PySem.F.slot_list_append PySem.F.type_list_append ?_
        refine W_Name (by walk_at "lk") ?_
        refine ⟨onList hvs4, ?_⟩
        refine WItems_cons ?_
        -- what is to be appended
        refine WV_cut (fun v m3 H5 => m3 = setL (setL (setL m' "box" b) "things" (.ref T)) "places" (.ref Pp) ∧ ExtBut S H4 H5 ∧ H5 S = some (.list vs) ∧ Rd (del S H5) (rowSeen r) v) ?_ ?_
        · refine W_IfExp ?_
          refine WT_plain ?_
          refine W_CallB gIsi (kindS (by rfl)) ?_
          refine WItems_cons ?_
          refine W_Name (by walk_at "lk") ?_
          refine WItems_cons ?_
          refine W_NameG gDict (kindS (by rfl)) ?_
          refine WItems_nil ?_
          refine WCall_isi (T := "dict") (tyOf_box hbox4).1 (by simp) ?_
          refine WTr_bool ?_
          have plain : ∀ xs : List Nat, r.refs = xs → Rd (del S H4) (.list (xs.map fun (j : Nat) => .list [.int (j : Int)])) (.ref Pp) := fun xs hxs => by
            refine ⟨Pp, acc, rfl, del_at hPS hP4, RdAll.of (by rw [hal, hxs]; simp) fun j d v e1 e2 => ?_⟩
            obtain ⟨a, q, rfl, e3, e4, e5⟩ := hacc4 j v e2
            rw [hxs] at e3
            rw [List.getElem?_map, e3] at e1
            cases e1
            exact ⟨a, _, rfl, del_at e5 e4, _, _, rfl, rfl, rfl⟩
          cases r with
          | d kvs =>
            obtain ⟨a, ep, rfl, ha⟩ := hbox4
            rw [show decide (tyOf H4 (.ref a) = some "dict") = true by simp [tyOf, ha]]
            refine iteT ?_
            refine W_CallT gList (kindS (by rfl)) ?_
            refine WItems_cons ?_
            refine W_CallT gZip (kindS (by rfl)) ?_
            refine WItems_cons ?_
            refine W_Name (by walk_at "lk") ?_
            refine WItems_cons ?_
            refine W_Name (by walk_at "lk") ?_
            refine WItems_nil ?_
            refine WCall_zip ha hP4 fun z TI TO i1 i2 H5 E45 hfr Z => ?_
            refine WItems_nil ?_
            have hlk : (boxD bv kvs).length = acc.length := by rw [hal]; simp [boxD, Row.refs]
            refine WCall_listZip hh Z (E45 a _ ha) (E45 Pp _ hP4) hlk (by rw [show sizeLine = _ from sizeLine_eq]; simp [boxD]; simp [Row.refs] at hrs; lia) fun p ts H6 hk6 hp hpn htl hts => ?_
            have hk46 : Ext H4 H6 := fun b y e => hk6 b y (fun q => by rw [hfr b q] at e; cases e) (E45 b y e)
            have hpS : p ≠ S := fun q => by rw [q, E45 S _ hvs4] at hpn; cases hpn
            refine ⟨rfl, ExtBut.of hk46, hk46 S _ hvs4, p, _, rfl, del_at hpS hp, RdAll.of (by rw [List.length_map, htl]; simp [boxD]) fun j d v e1 e2 => ?_⟩
            rw [List.getElem?_map, Option.map_eq_some_iff] at e2
            obtain ⟨t, e3, rfl⟩ := e2
            obtain ⟨kv, e4, e5, e6, e7⟩ := hts j t e3
            obtain ⟨a2, q, e8, e9, e10, e11⟩ := hacc4 j _ e6
            have hjk : j < kvs.length := by
              have := (List.getElem?_eq_some_iff.mp e4).1
              simpa [boxD] using this
            rw [List.getElem?_map, List.getElem?_eq_getElem hjk] at e1
            cases e1
            have e4' : (boxD bv kvs)[j]? = some (.inr kvs[j].1, bv.getD kvs[j].2 .none) := by
              unfold boxD
              rw [List.getElem?_map, List.getElem?_eq_getElem hjk]; rfl
            rw [e4'] at e4
            cases e4
            have e9' : q = kvs[j].2 := by
              have h9 : (kvs.map (·.2))[j]? = some q := e9
              rw [List.getElem?_map, List.getElem?_eq_getElem hjk] at h9
              exact (Option.some.inj h9).symm
            have htS : t.1 ≠ S := fun z => by rw [z, hk46 S _ hvs4] at e7; cases e7
            refine ⟨t.1, _, rfl, del_at htS e7, t.2.1, [t.2.2], rfl, ?_, t.2.2, [], rfl, ?_, rfl⟩
            · cases hk : t.2.1 <;> rw [hk] at e5 <;> simp [isKV] at e5
              rw [← e5]
              exact ⟨_, rfl⟩
            · rw [e8, ← e9']
              exact ⟨a2, _, rfl, del_at e11 (hk46 a2 _ e10), _, _, rfl, rfl, rfl⟩
          | l xs =>
            obtain ⟨a, rfl, ha⟩ := hbox4
            rw [show decide (tyOf H4 (.ref a) = some "dict") = false by simp [tyOf, ha]]
            refine iteF ?_
            refine W_Name (by walk_at "lk") ?_
            exact ⟨rfl, ExtBut.refl _ _, hvs4, plain xs rfl⟩
          | t xs =>
            have hno : decide (tyOf H4 b = some "dict") = false := by
              have := (tyOf_box hbox4).2
              rw [decide_eq_false_iff_not, this]
              rintro ⟨_, h⟩; cases h
            rw [hno]
            refine iteF ?_
            refine W_Name (by walk_at "lk") ?_
            exact ⟨rfl, ExtBut.refl _ _, hvs4, plain xs rfl⟩
        · rintro v _ H5 ⟨rfl, E45, hvs5, hrv⟩
          refine WItems_nil ?_
          refine WCall_append hvs5 (by rw [show sizeLine = _ from sizeLine_eq]; lia) ?_
          refine contQ_next (W_nil (loopQ_next ?_))
          have hBf : ExtBut S H1 (upd H5 S (.list (vs ++ [v]))) := (((ExtBut.of E12).trans (ExtBut.of E24)).trans E45).put
          refine ⟨hB.trans hBf, by walk_at "lk", by walk_at "lk", vs ++ [v], upd_same, by simp [hvl], ?_⟩
          rw [List.take_add_one, hr, Option.toList_some, List.map_append]
          exact RdAll.snoc (RdAll.ext (del_ext hBf) _ _ hrd) (Rd.ext (del_ext (ExtBut.refl S H5).put) _ _ hrv)
  · rintro m' H1 ⟨hB, hmb, hms, vs, hvs, hvl, hrd⟩
    refine contQ_next ?_
    refine W_cons' ?_
    refine W_Return' ?_
    refine W_Name (by walk_at "lk") ?_
    intro uR huR
    refine contQ_ret ?_
    refine RQ_ret huR ?_
    refine ⟨hB.ext hS, S, vs, rfl, hvs, ?_⟩
    rw [hbl, List.take_length] at hrd
    exact RdAll.ext del_le _ _ hrd
end
section
noncomputable def forBody : Stmt → List Stmt
  | .For _ _ body _ _ => body
  | _ => []
noncomputable def ifBody : Stmt → List Stmt
  | .If _ b _ _ => b
  | _ => []
noncomputable def ifElse : Stmt → List Stmt
  | .If _ _ e _ => e
  | _ => []
noncomputable abbrev L2.fLaw : Stmt := stm L2.stmsC 8
noncomputable abbrev L2.dig : List Stmt := forBody (stm (fnBody L2.fLaw) 6)
theorem L2.comp_ok {k : Wk} {m : Loc} {H : AHeap} {pa : Addr} {ra : List Addr} {plan : List Row} {Q : Flow → Loc → AHeap → Prop} [sv : SEnv k (fnScope L2.fLaw) (cellNames (fnScope L2.fLaw).names)] (G : Blt k.c) (hh : k.A.handled = none) (hm : m "plan" = some (.ref pa)) (P : PlanAt H pa ra plan) (hP : PlanOK plan) (hR : RowsOK plan)
    (h : ∀ a H', Ext H H' → Rd H' (.list (plan.map rowSeen)) (.ref a) → Q .next (setL m "due" (.ref a)) H') : W k (exec (stm L2.dig 5) k.env) m H Q := by
  obtain ⟨gLen, gDivmod, gIsi, gList, gDict, gStr, gRange, gZip, gKE, gIE, imp, tree⟩ := G
  refine W_Assign_ListComp (by rfl) (by rfl) (by rfl) (by rfl) (by rfl) (by rfl) ?_
  refine W_Name hm ?_
  have hsz := hP.size
  refine ⟨_, _, _, fun i acc H2 => Ext H H2 ∧ RdAll H2 ((plan.take i).map rowSeen) acc, WIter_list hh P.list, ⟨Ext.refl _, rfl⟩, fun i acc H2 q => q.1 pa _ P.list, ?_, ?_, ?_⟩
  · rw [List.length_map, P.len, show sizeLine = _ from sizeLine_eq]; lia
  · intro kc hkc i v acc mc H2 hi hv ⟨hE, hacc⟩ hcap hx
    haveI sv1 := hkc.senv (sc := fnScope L2.fLaw) (cn := cellNames (fnScope L2.fLaw).names)
    have gIsi' : Gl kc.c "isinstance" (.builtin "isinstance") := by rw [hkc.c]; exact gIsi
    have gDict' : Gl kc.c "dict" (.type "dict") := by rw [hkc.c]; exact gDict
    have hhc : kc.A.handled = none := by rw [hkc.A]; exact hh
    rw [List.length_map, P.len] at hi
    have hr : plan[i]? = some plan[i] := List.getElem?_eq_getElem hi
    obtain ⟨a, ha, hra⟩ := P.row i _ hr
    rw [List.getElem?_map, ha] at hv
    cases hv
    have hra2 := hra.ext hE
    have hsm := hP.small i _ hr
    have hnext : ∀ {H3 : AHeap} {u : V}, Ext H2 H3 → Rd H3 (rowSeen plan[i]) u → Ext H H3 ∧ RdAll H3 ((plan.take (i + 1)).map rowSeen) (acc ++ [u]) := fun h3 hu => by
      refine ⟨hE.trans h3, ?_⟩
      rw [List.take_add_one, hr, Option.toList_some, List.map_append]
      exact RdAll.snoc (RdAll.ext h3 _ _ hacc) hu
    have hRi := fun kvs (e : plan[i] = Row.d kvs) => hR i kvs (by rw [hr, e])
    generalize plan[i] = r at hr hra2 hsm hnext hRi
    refine W_tests_nil ⟨rfl, ?_⟩
    rw [if_pos rfl]
    refine W_IfExp ?_
    refine WT_plain ?_
    refine W_CallB gIsi' (kindS (by rfl)) ?_
    refine WItems_cons ?_
    refine W_Name hx ?_
    refine WItems_cons ?_
    refine W_NameG gDict' (kindS (by rfl)) ?_
    refine WItems_nil ?_
    refine WCall_isi (T := "dict") (by rw [tyOf_row hra2]; simp) (by simp) ?_
    refine WTr_bool ?_
    cases r with
    | d kvs =>
      obtain ⟨ep, hd⟩ := hra2
      obtain ⟨hnd, _⟩ := hRi kvs rfl
      rw [show decide (tyOf H2 (.ref a) = some "dict") = true by simp [tyOf, hd]]
      refine iteT ?_
      refine W_ListComp (by rfl) (by rfl) (by rfl) ?_
      refine W_Name hx ?_
      refine ⟨_, _, _, fun j acc2 H3 => Ext H2 H3 ∧ acc2.length = j ∧ ∀ (q : Nat) (p : Str × Nat) v, kvs[q]? = some p → acc2[q]? = some v → Rd H3 (.tuple [.str p.1, .list [.int (p.2 : Int)]]) v, WIter_dict hhc hd, ⟨Ext.refl _, rfl, fun q p v _ e => by simp at e⟩, fun j acc2 H3 q => ⟨_, q.1 a _ hd, rfl⟩, ?_, ?_, ?_⟩
      · rw [show sizeLine = _ from sizeLine_eq]; simp [rowD]; simp [Row.refs] at hsm; lia
      · intro kc2 hkc2 j v acc2 mc2 H3 hj ⟨kv, hkv, hkey⟩ ⟨hE3, hal, hacc2⟩ hcap2 hx2
        haveI sv2 := CompK.senv (I := sv1) hkc2
        have hrow2 : mc2 "row" = some (.ref a) := hcap2.get hx (by rfl)
        have hjk : j < kvs.length := by simpa [rowD] using hj
        have hp : kvs[j]? = some kvs[j] := List.getElem?_eq_getElem hjk
        have hkv' : kv = (.inr kvs[j].1, .int (kvs[j].2 : Int)) := by
          have : (rowD kvs)[j]? = some (.inr kvs[j].1, .int (kvs[j].2 : Int)) := by
            unfold rowD
            rw [List.getElem?_map, hp]; rfl
          rw [this] at hkv
          exact (Option.some.inj hkv).symm
        subst hkv'
        obtain ⟨t, rfl⟩ : ∃ t, v = .str kvs[j].1 t := by
          cases v <;> simp [isKV] at hkey
          rw [← hkey]; exact ⟨_, rfl⟩
        refine W_tests_nil ⟨rfl, ?_⟩
        rw [if_pos rfl]
        refine W_Tuple ?_
        refine WItems_cons ?_
        refine W_Name hx2 ?_
        refine WItems_cons ?_
        refine W_List ?_
        refine WItems_cons ?_
        refine W_Subscript ?_
        refine W_Name hrow2 ?_
        refine W_Name hx2 ?_
        refine WSub_dict (hE3 a _ hd) (key := .inr kvs[j].1) (v := .int (kvs[j].2 : Int)) (by simp [isKV]) (by rw [getK_row, lookup_at hnd hp]; rfl) ?_
        refine WItems_nil ⟨by simp [sizeLine], fun lp hlp => ?_⟩
        refine WItems_nil ⟨by simp [sizeLine], fun tp htp => ?_⟩
        have hE4 := (Ext.upd (x := AObj.list [.int (kvs[j].2 : Int)]) hlp).trans (Ext.upd (x := AObj.tup [.str kvs[j].1 t, .ref lp]) htp)
        refine ⟨rfl, hE3.trans hE4, by simp [hal], fun q p v h1 h2 => ?_⟩
        rw [List.getElem?_append] at h2
        split at h2
        · exact Rd.ext hE4 _ _ (hacc2 q p v h1 h2)
        · rename_i hlt
          have hq : q - acc2.length = 0 := by
            rcases Nat.eq_zero_or_pos (q - acc2.length) with h | h
            · exact h
            · rw [List.getElem?_eq_none (by simp; lia)] at h2; cases h2
          rw [hq] at h2
          cases h2
          have : q = j := by lia
          subst this
          rw [hp] at h1
          cases h1
          exact ⟨tp, _, rfl, upd_same, _, _, rfl, ⟨t, rfl⟩, _, _, rfl, ⟨lp, _, rfl, upd_fresh htp upd_same, _, _, rfl, rfl, rfl⟩, rfl⟩
      · intro lp acc2 H3 _ ⟨hE3, hal, hacc2⟩ hlp
        refine ⟨rfl, hnext (hE3.trans (Ext.upd hlp)) ?_⟩
        refine ⟨lp, acc2, rfl, upd_same, RdAll.of (by rw [hal]; simp [rowD]) fun q d v h1 h2 => ?_⟩
        rw [List.getElem?_map, Option.map_eq_some_iff] at h1
        obtain ⟨p, h1, rfl⟩ := h1
        exact Rd.ext (Ext.upd hlp) _ _ (hacc2 q p v h1 h2)
    | l xs =>
      have hra3 := hra2
      rw [show decide (tyOf H2 (.ref a) = some "dict") = false by rw [tyOf_row hra2]; rfl]
      refine iteF ?_
      refine W_ListComp (by rfl) (by rfl) (by rfl) ?_
      refine W_Name hx ?_
      refine ⟨_, _, _, fun j acc2 H3 => Ext H2 H3 ∧ acc2.length = j ∧ ∀ (q p : Nat) v, xs[q]? = some p → acc2[q]? = some v → Rd H3 (.list [.int (p : Int)]) v, WIter_list hhc hra2, ⟨Ext.refl _, rfl, fun q p v _ e => by simp at e⟩, fun j acc2 H3 q => q.1 a _ hra2, ?_, ?_, ?_⟩
      · rw [show sizeLine = _ from sizeLine_eq]; simp [rowL]; simp [Row.refs] at hsm; lia
      · intro kc2 hkc2 j v acc2 mc2 H3 hj hkv ⟨hE3, hal, hacc2⟩ hcap2 hx2
        haveI sv2 := CompK.senv (I := sv1) hkc2
        have hjk : j < xs.length := by simpa [rowL] using hj
        have hp : xs[j]? = some xs[j] := List.getElem?_eq_getElem hjk
        have hkv' : v = .int (xs[j] : Int) := by
          have : (rowL xs)[j]? = some (.int (xs[j] : Int)) := by
            unfold rowL
            rw [List.getElem?_map, hp]; rfl
          rw [this] at hkv
          exact (Option.some.inj hkv).symm
        subst hkv'
        refine W_tests_nil ⟨rfl, ?_⟩
        rw [if_pos rfl]
        refine W_List ?_
        refine WItems_cons ?_
        refine W_Name hx2 ?_
        refine WItems_nil ⟨by simp [sizeLine], fun lp hlp => ?_⟩
        have hE4 := Ext.upd (x := AObj.list [.int (xs[j] : Int)]) hlp
        refine ⟨rfl, hE3.trans hE4, by simp [hal], fun q p v h1 h2 => ?_⟩
        rw [List.getElem?_append] at h2
        split at h2
        · exact Rd.ext hE4 _ _ (hacc2 q p v h1 h2)
        · rename_i hlt
          have hq : q - acc2.length = 0 := by
            rcases Nat.eq_zero_or_pos (q - acc2.length) with h | h
            · exact h
            · rw [List.getElem?_eq_none (by simp; lia)] at h2; cases h2
          rw [hq] at h2
          cases h2
          have : q = j := by lia
          subst this
          rw [hp] at h1
          cases h1
          exact ⟨lp, _, rfl, upd_same, _, _, rfl, rfl, rfl⟩
      · intro lp acc2 H3 _ ⟨hE3, hal, hacc2⟩ hlp
        refine ⟨rfl, hnext (hE3.trans (Ext.upd hlp)) ?_⟩
        refine ⟨lp, acc2, rfl, upd_same, RdAll.of (by rw [hal]; simp [rowL]) fun q d v h1 h2 => ?_⟩
        rw [List.getElem?_map, Option.map_eq_some_iff] at h1
        obtain ⟨p, h1, rfl⟩ := h1
        exact Rd.ext (Ext.upd hlp) _ _ (hacc2 q p v h1 h2)
    | t xs =>
      have hra3 := hra2
      rw [show decide (tyOf H2 (.ref a) = some "dict") = false by rw [tyOf_row hra2]; rfl]
      refine iteF ?_
      refine W_ListComp (by rfl) (by rfl) (by rfl) ?_
      refine W_Name hx ?_
      refine ⟨_, _, _, fun j acc2 H3 => Ext H2 H3 ∧ acc2.length = j ∧ ∀ (q p : Nat) v, xs[q]? = some p → acc2[q]? = some v → Rd H3 (.list [.int (p : Int)]) v, WIter_tup hhc hra2, ⟨Ext.refl _, rfl, fun q p v _ e => by simp at e⟩, fun j acc2 H3 q => q.1 a _ hra2, ?_, ?_, ?_⟩
      · rw [show sizeLine = _ from sizeLine_eq]; simp [rowL]; simp [Row.refs] at hsm; lia
      · intro kc2 hkc2 j v acc2 mc2 H3 hj hkv ⟨hE3, hal, hacc2⟩ hcap2 hx2
        haveI sv2 := CompK.senv (I := sv1) hkc2
        have hjk : j < xs.length := by simpa [rowL] using hj
        have hp : xs[j]? = some xs[j] := List.getElem?_eq_getElem hjk
        have hkv' : v = .int (xs[j] : Int) := by
          have : (rowL xs)[j]? = some (.int (xs[j] : Int)) := by
            unfold rowL
            rw [List.getElem?_map, hp]; rfl
          rw [this] at hkv
          exact (Option.some.inj hkv).symm
        subst hkv'
        refine W_tests_nil ⟨rfl, ?_⟩
        rw [if_pos rfl]
        refine W_List ?_
        refine WItems_cons ?_
        refine W_Name hx2 ?_
        refine WItems_nil ⟨by simp [sizeLine], fun lp hlp => ?_⟩
        have hE4 := Ext.upd (x := AObj.list [.int (xs[j] : Int)]) hlp
        refine ⟨rfl, hE3.trans hE4, by simp [hal], fun q p v h1 h2 => ?_⟩
        rw [List.getElem?_append] at h2
        split at h2
        · exact Rd.ext hE4 _ _ (hacc2 q p v h1 h2)
        · rename_i hlt
          have hq : q - acc2.length = 0 := by
            rcases Nat.eq_zero_or_pos (q - acc2.length) with h | h
            · exact h
            · rw [List.getElem?_eq_none (by simp; lia)] at h2; cases h2
          rw [hq] at h2
          cases h2
          have : q = j := by lia
          subst this
          rw [hp] at h1
          cases h1
          exact ⟨lp, _, rfl, upd_same, _, _, rfl, rfl, rfl⟩
      · intro lp acc2 H3 _ ⟨hE3, hal, hacc2⟩ hlp
        refine ⟨rfl, hnext (hE3.trans (Ext.upd hlp)) ?_⟩
        refine ⟨lp, acc2, rfl, upd_same, RdAll.of (by rw [hal]; simp [rowL]) fun q d v h1 h2 => ?_⟩
        rw [List.getElem?_map, Option.map_eq_some_iff] at h1
        obtain ⟨p, h1, rfl⟩ := h1
        exact Rd.ext (Ext.upd hlp) _ _ (hacc2 q p v h1 h2)
  · intro a acc H2 _ ⟨hE, hacc⟩ ha
    rw [List.length_map, P.len, List.take_length] at hacc
    exact h a _ (hE.trans (Ext.upd ha)) ⟨a, acc, rfl, upd_same, RdAll.ext (Ext.upd ha) _ _ hacc⟩
end
section
noncomputable abbrev L2.deeds : List Stmt := ifElse (stm (ifElse (stm L2.dig 4)) 0)
noncomputable abbrev L2.toldB : List Stmt := ifBody (stm L2.deeds 7)
theorem L2.names_ok {k : Wk} {m : Loc} {H : AHeap} {C pa ba x dx da t : Addr} {ra : List Addr} {plan plan' : List Row} {bv : List V} {kk n : Nat} {kvs : List (Str × Nat)} {l : List (Str × Tok)} {Q : Flow → Loc → AHeap → Prop} [sv : SEnv k (fnScope L2.fLaw) (cellNames (fnScope L2.fLaw).names)] (G : Blt k.c) (hh : k.A.handled = none)
    (L : LM H C pa ba x dx ra plan bv plan.length plan') (F : Fit plan n) (hn : n + l.length ≤ 3900) (hp : m "plan" = some (.ref pa)) (hb : m "boxes" = some (.ref ba)) (hd : m "due" = some (.ref da)) (he : m "end" = some (.int kk))
    (hda : H da = some (.list [.int kk, .ref t])) (ht : H t = some (.tup (l.map fun p => .str p.1 p.2)))
    (hk : plan[kk]? = some (.d kvs)) (hl : ∀ x r, l.map (·.1) = x :: r → kvs.lookup x = none) (hok : KeysOK l)
    (hF : ∀ (j : Nat) y, (l.map (·.1))[j]? = some y → ∃ kF, plan'[(grow plan kk ((l.map (·.1)).take j)).2]? = some (.d kF) ∧ kF.lookup y = some (plan.length + j)) (hlen : plan.length + l.length ≤ plan'.length)
    (h : ∀ m' H' ra', (∀ y : Str, y ≠ "name" → y ≠ "end" → m' y = m y) → m' "end" = some (.int ((grow plan kk (l.map (·.1))).2 : Nat)) → LM H' C pa ba x dx ra' (grow plan kk (l.map (·.1))).1 bv (plan.length + l.length) plan' → KeepT H H' → Q .next m' H') :
    W k (exec (stm L2.toldB 1) k.env) m H Q := by
  refine Mine.hideG fun GG back => ?_
  obtain ⟨gLen, gDivmod, gIsi, gList, gDict, gStr, gRange, gZip, gKE, gIE, imp, tree⟩ := G
  refine back ?_
  clear back
  have hbl := L.X.len
  have hFl := F.len
  refine W_For ?_
  refine W_Subscript ?_
  refine W_Name hd ?_
  refine W_int ?_
  refine WSub_list (v := .ref t) hda (by decide) (by decide) (by rfl) ?_
  refine ⟨_, _, _, fun j m' H' => ∃ ra', (∀ y : Str, y ≠ "name" → y ≠ "end" → m' y = m y) ∧ m' "end" = some (.int ((grow plan kk ((l.map (·.1)).take j)).2 : Nat)) ∧ LM H' C pa ba x dx ra' (grow plan kk ((l.map (·.1)).take j)).1 bv (plan.length + j) plan' ∧ KeepT H H',
    WIter_tup hh ht, ⟨ra, fun _ _ _ => rfl, by rw [List.take_zero]; exact he, by rw [List.take_zero]; exact L, KeepT.refl H⟩, fun j m' H' ⟨_, _, _, _, q⟩ => q t _ ht, ?_, ?_⟩
  · intro j v m' H' hj hR hg33_6
    refine Mine.hideG fun GG back => ?_
    obtain ⟨ra', hm, hend, LJ, hT⟩ := hg33_6
    refine back ?_
    clear back
    rw [List.length_map] at hj
    obtain ⟨⟨y, tok⟩, hlj⟩ : ∃ p, l[j]? = some p := ⟨_, List.getElem?_eq_getElem hj⟩
    have hy : (l.map (·.1))[j]? = some y := by rw [List.getElem?_map, hlj]; rfl
    have hyok : y = "a" ∨ y = "" := hok _ (List.mem_of_getElem? hlj)
    obtain rfl : v = .str y tok := by
      rw [List.getElem?_map, hlj] at hR
      exact (Option.some.inj hR).symm
    refine Mine.hideG fun GG back => ?_
    obtain ⟨kj, g1, g2, g3, g4⟩ := grow_name hk hl hy
    obtain ⟨kF, f1, f2⟩ := hF j y hy
    refine back ?_
    clear back
    have gl := grow_len ((l.map (·.1)).take j) plan kk kvs hk
    have ge := grow_end_lt (rest := (l.map (·.1)).take j) hk
    have FJ := Fit.grow (n := n) ((l.map (·.1)).take j) plan n kk kvs F hk (fun x hx => by
      refine Mine.hideG fun GG back => ?_
      obtain ⟨p, hp, e⟩ := List.mem_map.mp (List.mem_of_mem_take hx)
      refine back ?_
      clear back
      rw [← e]; exact hok p hp) (fun x r e => by
        cases hm : l.map (·.1) with
        | nil => rw [hm] at hy; simp at hy
        | cons z zs =>
          refine hl x zs ?_
          rw [hm] at e ⊢
          cases j with
          | zero => cases e
          | succ j => cases e; rfl)
    rw [List.length_take, List.length_map, Nat.min_eq_left (by lia)] at gl ge FJ
    generalize hgr : grow plan kk ((l.map (·.1)).take j) = gr at g1 g2 g3 g4 LJ hend f1 gl ge FJ
    refine Mine.hideG fun GG back => ?_
    obtain ⟨pj, ej⟩ := gr
    refine back ?_
    clear back
    simp only at g1 g2 g3 g4 LJ hend f1 gl ge FJ
    have hmp : m' "plan" = some (.ref pa) := by rw [hm _ (by decide) (by decide)]; exact hp
    have hmb : m' "boxes" = some (.ref ba) := by rw [hm _ (by decide) (by decide)]; exact hb
    refine Mine.hideG fun GG back => ?_
    obtain ⟨ae, hae, ⟨ep, hrow⟩, haem⟩ := LJ.P.at g1
    refine back ?_
    clear back
    have hral := LJ.P.len
    have hsm := (FJ.rows ej _ g1).small
    simp only [Row.refs, List.length_map] at hsm
    have hsubE : (ra'.map V.ref)[((ej : Int)).toNat]? = some (.ref ae) := by rw [List.getElem?_map, Int.toNat_natCast, hae]; rfl
    -- plan[end][name] = len(plan)
    refine WAs_Name (stor (by rfl)) ?_
    refine W_cons' ?_
    refine W_AssignSub ?_
    refine W_CallB gLen (kindS (by rfl)) ?_
    refine WItems_cons ?_
    refine W_Name (by walk_at "lk") ?_
    refine WItems_nil ?_
    refine WCall_lenL LJ.P.list (by simp; lia) ?_
    refine W_Subscript ?_
    refine W_Name (by walk_at "lk") ?_
    refine W_Name (by walk_at "lk") ?_
    refine WSub_list LJ.P.list (by lia) (by lia) hsubE ?_
    refine W_Name setL_same ?_
    refine WSet_dict hrow (key := .inr y) (by simp [isKV]) (by simp only [rowD, List.length_map]; rw [show sizeLine = _ from sizeLine_eq]; lia) ?_
    rw [show ((ra'.map V.ref).length : Int) = ((plan.length + j : Nat) : Int) by rw [List.length_map, hral, gl], putS_rowD, putS_new g2]
    have L1 := LJ.setPlan g1 hae (y := .dict (rowD (kj ++ [(y, plan.length + j)])) (epK (rowD kj) (.inr y) ep)) (r' := .d (kj ++ [(y, plan.length + j)])) ⟨_, upd_same⟩
    have hT1 : KeepT H (upd H' ae (.dict (rowD (kj ++ [(y, plan.length + j)])) (epK (rowD kj) (.inr y) ep))) := hT.trans (KeepT.upd hrow (by simp))
    generalize upd H' ae (.dict (rowD (kj ++ [(y, plan.length + j)])) (epK (rowD kj) (.inr y) ep)) = H1 at L1 hT1
    -- boxes.append(boxes[end].get(name))
    refine Mine.hideG fun GG back => ?_
    obtain ⟨b, hbj, bd, epb, rfl, hbd⟩ := L1.X.row ej _ f1
    refine back ?_
    clear back
    have hsubB : (bv.take (plan.length + j))[((ej : Int)).toNat]? = some (.ref bd) := by
      rw [Int.toNat_natCast, List.getElem?_take_of_lt ge]; exact hbj
    have hbv : bv[plan.length + j]? = some (bv.getD (plan.length + j) .none) := val_at (by lia)
    refine contQ_next (W_cons' ?_)
    refine W_ExprStmt ?_
    refine W_CallM' PySem.F.plainAttrs_list PySem.F.slot_list_append PySem.F.type_list_append ?_
    refine W_Name (by walk_at "lk") ?_
    refine ⟨onList L1.B, ?_⟩
    refine WItems_cons ?_
    refine W_CallM' PySem.F.plainAttrs_dict PySem.F.slot_dict_get PySem.F.type_dict_get ?_
    refine W_Subscript ?_
    refine W_Name (by walk_at "lk") ?_
    refine W_Name (by walk_at "lk") ?_
    refine WSub_list L1.B (by lia) (by lia) hsubB ?_
    refine ⟨onDict hbd, ?_⟩
    refine WItems_cons ?_
    refine W_Name setL_same ?_
    refine WItems_nil ?_
    refine WCall_get hbd (key := .inr y) (by simp [isKV]) ?_
    rw [getK_boxD, f2, Option.map_some, Option.getD_some]
    refine WItems_nil ?_
    have htk : (bv.take (plan.length + j)).length = plan.length + j := by rw [List.length_take]; lia
    refine WCall_append L1.B (by rw [htk, show sizeLine = _ from sizeLine_eq]; lia) ?_
    have L2' := L1.box hbv
    have hT2 : KeepT H (upd H1 ba (.list (bv.take (plan.length + j) ++ [bv.getD (plan.length + j) .none]))) := hT1.trans (KeepT.upd L1.B (by simp))
    generalize upd H1 ba (.list (bv.take (plan.length + j) ++ [bv.getD (plan.length + j) .none])) = H2 at L2' hT2
    -- plan.append({})
    refine contQ_next (W_cons' ?_)
    refine W_ExprStmt ?_
    refine W_CallM' PySem.F.plainAttrs_list PySem.F.slot_list_append PySem.F.type_list_append ?_
    refine W_Name (by walk_at "lk") ?_
    refine ⟨onList L2'.P.list, ?_⟩
    refine WItems_cons ?_
    refine W_Dict0 fun an han => ?_
    refine WItems_nil ?_
    refine WCall_append (upd_fresh han L2'.P.list) (by rw [List.length_map, hral, gl, show sizeLine = _ from sizeLine_eq]; lia) ?_
    have L3 := L2'.push (r := .d []) (y := .dict [] 0) han fun H' e => ⟨0, e⟩
    rw [show (ra'.map V.ref ++ [V.ref an]) = (ra' ++ [an]).map V.ref by simp]
    have hT3 : KeepT H (upd (upd H2 an (.dict [] 0)) pa (.list ((ra' ++ [an]).map .ref))) := (hT2.trans (KeepT.of (Ext.upd han))).trans (KeepT.upd (upd_fresh han L2'.P.list) (by simp))
    generalize upd (upd H2 an (.dict [] 0)) pa (.list ((ra' ++ [an]).map .ref)) = H3 at L3 hT3
    -- end = len(plan) - 1
    refine contQ_next (W_cons' ?_)
    refine W_Assign ?_ (stor (by rfl)) (by rfl)
    refine W_BinOp ?_
    refine W_CallB gLen (kindS (by rfl)) ?_
    refine WItems_cons ?_
    refine W_Name (by walk_at "lk") ?_
    refine WItems_nil ?_
    refine WCall_lenL L3.P.list (by simp; lia) ?_
    refine W_int ?_
    refine WBin_sub ?_
    rw [show (((ra' ++ [an]).map V.ref).length : Int) - 1 = ((plan.length + j : Nat) : Int) by simp [hral, gl]]
    refine contQ_next (W_nil (loopQ_next ?_))
    dsimp only
    rw [g3]
    refine ⟨ra' ++ [an], fun z h1 h2 => ?_, setL_same, L3, hT3⟩
    rw [← hm z h1 h2]
    unfold setL
    rw [if_neg h2, if_neg h1]
  · intro m' H' hg147_2
    refine Mine.hideG fun GG back => ?_
    obtain ⟨ra', hm, hend, LJ, hT⟩ := hg147_2
    refine back ?_
    clear back
    have e : (l.map (·.1)).take (l.map fun p => V.str p.1 p.2).length = l.map (·.1) := by
      rw [List.length_map]
      exact List.take_of_length_le (by simp)
    rw [e, List.length_map] at LJ
    rw [e] at hend
    exact h m' H' ra' hm hend LJ hT
end
section
noncomputable abbrev L2.appB : List Stmt := ifBody (stm L2.toldB 3)
theorem rowL_snoc (xs : List Nat) (j : Nat) : rowL xs ++ [V.int (j : Int)] = rowL (xs ++ [j]) := by simp [rowL]
theorem boxL_snoc' (bv : List V) (xs : List Nat) (j : Nat) : boxL bv (xs ++ [j]) = boxL bv xs ++ [bv.getD j .none] := by simp [boxL]
theorem L2.keyLast {k : Wk} {m : Loc} {H : AHeap} {kt : Addr} {kinit : List (Str × Tok)} {z : Str} {zt : Tok} {pos p1 p2 p3 : Pos} {n : Nat} {Q : V → Loc → AHeap → Prop} (hkey : m "key" = some (.ref kt)) (hkt : H kt = some (.tup ((kinit ++ [(z, zt)]).map fun p => .str p.1 p.2))) (hkl : kinit.length < 4000)
    (q : Q (.str z zt) m H) : WV k (eval (.Subscript (.Name "key" p1) (.UnaryOp .USub (.Constant (.int 1) n p2) p3) pos) k.env) m H Q := by
  refine W_Subscript ?_
  refine W_Name hkey ?_
  refine W_UnaryOp ?_
  refine W_int ?_
  refine WUn_neg ?_
  refine WSub_tup (j := kinit.length) hkt (by decide) (by decide) ?_ (by simp) q
  simp only [List.length_map, List.length_append, List.length_singleton, seqIndex?]
  rw [if_pos (show (-1 : Int) < 0 by decide), if_pos (by simp; lia)]
  congr 1
  lia
theorem L2.tail_ok {k : Wk} {m : Loc} {H : AHeap} {C pa ba x dx kt : Addr} {ra : List Addr} {p : List Row} {bv : List V} {e j n : Nat} {kvs : List (Str × Nat)} {xs : List Nat} {kinit : List (Str × Tok)} {z : Str} {zt : Tok} {Q : Flow → Loc → AHeap → Prop} [sv : SEnv k (fnScope L2.fLaw) (cellNames (fnScope L2.fLaw).names)] (G : Blt k.c)
    (L : LM H C pa ba x dx ra p bv p.length (p.set j (.l (xs ++ [p.length])) ++ [.d []])) (hsm : xs.length < 4000) (hpl : p.length < 4000) (hp : m "plan" = some (.ref pa)) (hb : m "boxes" = some (.ref ba)) (he : m "end" = some (.int e)) (hkey : m "key" = some (.ref kt))
    (hkt : H kt = some (.tup ((kinit ++ [(z, zt)]).map fun p => .str p.1 p.2))) (hkl : kinit.length < 4000) (he' : p[e]? = some (.d kvs)) (hlk : kvs.lookup z = some j) (hj : p[j]? = some (.l xs))
    (h : ∀ H' ra', LM H' C pa ba x dx ra' (p.set j (.l (xs ++ [p.length])) ++ [.d []]) bv (p.length + 1) (p.set j (.l (xs ++ [p.length])) ++ [.d []]) → KeepT H H' → Q .next m H') :
    W k (execs (L2.appB.drop 1) k.env) m H Q := by
  obtain ⟨gLen, gDivmod, gIsi, gList, gDict, gStr, gRange, gZip, gKE, gIE, imp, tree⟩ := G
  have hbl := L.X.len
  rw [List.length_append, List.length_set, List.length_singleton] at hbl
  have hral := L.P.len
  have hjl : j < p.length := (List.getElem?_eq_some_iff.mp hj).1
  have hel : e < p.length := (List.getElem?_eq_some_iff.mp he').1
  obtain ⟨ae, hae, ⟨ep, hrow⟩, haem⟩ := L.P.at he'
  have hsubE : (ra.map V.ref)[((e : Int)).toNat]? = some (.ref ae) := by rw [List.getElem?_map, Int.toNat_natCast, hae]; rfl
  have hpj : (p.set j (.l (xs ++ [p.length])) ++ [Row.d []])[j]? = some (.l (xs ++ [p.length])) := by
    rw [List.getElem?_append_left (by rw [List.length_set]; exact hjl), get_set hjl, if_pos rfl]
  obtain ⟨b, hbj, bd, rfl, hbd⟩ := L.X.row j _ hpj
  have hsubB : (bv.take p.length)[((j : Int)).toNat]? = some (.ref bd) := by
    rw [Int.toNat_natCast, List.getElem?_take_of_lt hjl]; exact hbj
  have hbv : bv[p.length]? = some (bv.getD p.length .none) := val_at (by lia)
  have htk : (bv.take p.length).length = p.length := by rw [List.length_take]; lia
  -- boxes.append(boxes[plan[end][key[-1]]][-1])
  refine W_cons' ?_
  refine W_ExprStmt ?_
  refine W_CallM' PySem.F.plainAttrs_list PySem.F.slot_list_append PySem.F.type_list_append ?_
  refine W_Name hb ?_
  refine ⟨onList L.B, ?_⟩
  refine WItems_cons ?_
  refine W_Subscript ?_
  refine W_Subscript ?_
  refine W_Name hb ?_
  refine W_Subscript ?_
  refine W_Subscript ?_
  refine W_Name hp ?_
  refine W_Name he ?_
  refine WSub_list L.P.list (by lia) (by lia) hsubE ?_
  refine L2.keyLast hkey hkt hkl ?_
  refine WSub_dict hrow (key := .inr z) (v := .int (j : Int)) (by simp [isKV]) (by rw [getK_row, hlk]; rfl) ?_
  refine WSub_list L.B (by lia) (by lia) hsubB ?_
  refine W_UnaryOp ?_
  refine W_int ?_
  refine WUn_neg ?_
  refine WSub_listNeg hbd (by decide) (by decide) (by simp [boxL]; lia) (v := bv.getD p.length .none) (by rw [boxL_snoc', show (-1 + ((boxL bv xs ++ [bv.getD p.length .none]).length : Int)).toNat = (boxL bv xs).length by rw [List.length_append, List.length_singleton]; lia]; simp) ?_
  refine WItems_nil ?_
  refine WCall_append L.B (by rw [htk, show sizeLine = _ from sizeLine_eq]; lia) ?_
  have L1 := L.box hbv
  have hT1 : KeepT H (upd H ba (.list (bv.take p.length ++ [bv.getD p.length .none]))) := KeepT.upd L.B (by simp)
  generalize upd H ba (.list (bv.take p.length ++ [bv.getD p.length .none])) = H1 at L1 hT1
  -- plan[plan[end][key[-1]]].append(len(plan))
  obtain ⟨ae1, hae1, ⟨ep1, hrow1⟩, haem1⟩ := L1.P.at he'
  rw [hae] at hae1; cases hae1
  obtain ⟨aj, haj, hrowj, hajm⟩ := L1.P.at hj
  have hrowj : H1 aj = some (.list (rowL xs)) := hrowj
  have hsubJ : (ra.map V.ref)[((j : Int)).toNat]? = some (.ref aj) := by rw [List.getElem?_map, Int.toNat_natCast, haj]; rfl
  refine contQ_next (W_cons' ?_)
  refine W_ExprStmt ?_
  refine W_CallM' PySem.F.plainAttrs_list PySem.F.slot_list_append PySem.F.type_list_append ?_
  refine W_Subscript ?_
  refine W_Name hp ?_
  refine W_Subscript ?_
  refine W_Subscript ?_
  refine W_Name hp ?_
  refine W_Name he ?_
  refine WSub_list L1.P.list (by lia) (by lia) hsubE ?_
  refine L2.keyLast hkey (hT1 _ _ hkt) hkl ?_
  refine WSub_dict hrow1 (key := .inr z) (v := .int (j : Int)) (by simp [isKV]) (by rw [getK_row, hlk]; rfl) ?_
  refine WSub_list L1.P.list (by lia) (by lia) hsubJ ?_
  refine ⟨onList hrowj, ?_⟩
  refine WItems_cons ?_
  refine W_CallB gLen (kindS (by rfl)) ?_
  refine WItems_cons ?_
  refine W_Name hp ?_
  refine WItems_nil ?_
  refine WCall_lenL L1.P.list (by simp; lia) ?_
  refine WItems_nil ?_
  refine WCall_append hrowj (by simp only [rowL, List.length_map]; rw [show sizeLine = _ from sizeLine_eq]; lia) ?_
  rw [show ((ra.map V.ref).length : Int) = ((p.length : Nat) : Int) by rw [List.length_map, hral], rowL_snoc]
  have L2' := L1.setPlan hj haj (y := .list (rowL (xs ++ [p.length]))) (r' := .l (xs ++ [p.length])) upd_same
  have hT2 : KeepT H (upd H1 aj (.list (rowL (xs ++ [p.length])))) := hT1.trans (KeepT.upd hrowj (by simp))
  generalize upd H1 aj (.list (rowL (xs ++ [p.length]))) = H2 at L2' hT2
  -- plan.append({})
  refine contQ_next (W_cons' ?_)
  refine W_ExprStmt ?_
  refine W_CallM' PySem.F.plainAttrs_list PySem.F.slot_list_append PySem.F.type_list_append ?_
  refine W_Name hp ?_
  refine ⟨onList L2'.P.list, ?_⟩
  refine WItems_cons ?_
  refine W_Dict0 fun an han => ?_
  refine WItems_nil ?_
  refine WCall_append (upd_fresh han L2'.P.list) (by rw [List.length_map, hral, show sizeLine = _ from sizeLine_eq]; lia) ?_
  have L3 := L2'.push (r := .d []) (y := .dict [] 0) han fun H' e => ⟨0, e⟩
  rw [show (ra.map V.ref ++ [V.ref an]) = (ra ++ [an]).map V.ref by simp]
  have hT3 : KeepT H (upd (upd H2 an (.dict [] 0)) pa (.list ((ra ++ [an]).map .ref))) := (hT2.trans (KeepT.of (Ext.upd han))).trans (KeepT.upd (upd_fresh han L2'.P.list) (by simp))
  generalize upd (upd H2 an (.dict [] 0)) pa (.list ((ra ++ [an]).map .ref)) = H3 at L3 hT3
  refine contQ_next (W_nil ?_)
  exact h H3 _ L3 hT3
end
section
theorem set_last {α : Type} (as : List α) (b c : α) : (as ++ [b]).set as.length c = as ++ [c] := by
  rw [List.set_append_right _ _ (Nat.le_refl _), Nat.sub_self]; rfl
theorem L2.app_ok {k : Wk} {m : Loc} {H : AHeap} {C pa ba x dx kt : Addr} {ra : List Addr} {p : List Row} {bv : List V} {e n : Nat} {kvs : List (Str × Nat)} {kinit : List (Str × Tok)} {z : Str} {zt : Tok} {Q : Flow → Loc → AHeap → Prop} [sv : SEnv k (fnScope L2.fLaw) (cellNames (fnScope L2.fLaw).names)] (G : Blt k.c)
    (L : LM H C pa ba x dx ra p bv p.length (growA p e [] z)) (F : Fit p n) (hn : n ≤ 3900) (hp : m "plan" = some (.ref pa)) (hb : m "boxes" = some (.ref ba)) (he : m "end" = some (.int e)) (hkey : m "key" = some (.ref kt))
    (hkt : H kt = some (.tup ((kinit ++ [(z, zt)]).map fun p => .str p.1 p.2))) (hkl : kinit.length < 4000) (he' : p[e]? = some (.d kvs)) (hlk : ∀ j, kvs.lookup z = some j → ∃ xs, p[j]? = some (.l xs))
    (h : ∀ H' ra', LM H' C pa ba x dx ra' (growA p e [] z) bv (growA p e [] z).length (growA p e [] z) → KeepT H H' → Q .next m H') :
    W k (execs L2.appB k.env) m H Q := by
  have G0 := G
  obtain ⟨gLen, gDivmod, gIsi, gList, gDict, gStr, gRange, gZip, gKE, gIE, imp, tree⟩ := G
  have hbl := L.X.len
  have hFl := F.len
  have hral := L.P.len
  have hel : e < p.length := (List.getElem?_eq_some_iff.mp he').1
  have hsm := (F.rows e _ he').small
  simp only [Row.refs, List.length_map] at hsm
  obtain ⟨ae, hae, ⟨ep, hrow⟩, haem⟩ := L.P.at he'
  have hsubE : (ra.map V.ref)[((e : Int)).toNat]? = some (.ref ae) := by rw [List.getElem?_map, Int.toNat_natCast, hae]; rfl
  have hA : growA p e [] z = match kvs.lookup z with
    | none => p.set e (.d (kvs ++ [(z, p.length)])) ++ [.l [p.length + 1], .d []]
    | some j => match p[j]? with
      | some (.l xs) => p.set j (.l (xs ++ [p.length])) ++ [.d []]
      | _ => p := by
    show (match p[e]? with | some (.d kvs) => _ | _ => _) = _
    rw [he']; rfl
  refine W_cons' ?_
  refine W_If ?_
  refine WT_Compare ?_
  refine L2.keyLast hkey hkt hkl ?_
  refine W_Subscript ?_
  refine W_Name hp ?_
  refine W_Name he ?_
  refine WSub_list L.P.list (by lia) (by lia) hsubE ?_
  refine WCmp_notInDict hrow (key := .inr z) (by simp [isKV]) ?_
  refine WTr_bool ?_
  rw [getK_row]
  cases hl : kvs.lookup z with
  | some j =>
    obtain ⟨xs, hxs⟩ := hlk j hl
    rw [hl] at hA
    simp only [hxs] at hA
    rw [hA] at L h
    simp only [Option.map_some, Option.isSome_some]
    refine iteNT (W_nil (contQ_next ?_))
    have hsx := (F.rows j _ hxs).small
    simp only [Row.refs] at hsx
    refine L2.tail_ok (n := n) G0 L (by lia) (by lia) hp hb he hkey hkt hkl he' hl hxs fun H' ra' L' hT => h H' ra' ?_ hT
    rw [show (p.set j (.l (xs ++ [p.length])) ++ [Row.d []]).length = p.length + 1 by simp]
    exact L'
  | none =>
    rw [hl] at hA
    simp only at hA
    rw [hA] at L h hbl
    rw [List.length_append, List.length_set, List.length_cons, List.length_singleton] at hbl
    simp only [Option.map_none, Option.isSome_none]
    refine iteNF ?_
    -- plan[end][key[-1]] = len(plan)
    refine W_cons' ?_
    refine W_AssignSub ?_
    refine W_CallB gLen (kindS (by rfl)) ?_
    refine WItems_cons ?_
    refine W_Name hp ?_
    refine WItems_nil ?_
    refine WCall_lenL L.P.list (by simp; lia) ?_
    refine W_Subscript ?_
    refine W_Name hp ?_
    refine W_Name he ?_
    refine WSub_list L.P.list (by lia) (by lia) hsubE ?_
    refine L2.keyLast hkey hkt hkl ?_
    refine WSet_dict hrow (key := .inr z) (by simp [isKV]) (by simp only [rowD, List.length_map]; rw [show sizeLine = _ from sizeLine_eq]; lia) ?_
    rw [show ((ra.map V.ref).length : Int) = ((p.length : Nat) : Int) by rw [List.length_map, hral], putS_rowD, putS_new hl]
    have L1 := L.setPlan he' hae (y := .dict (rowD (kvs ++ [(z, p.length)])) (epK (rowD kvs) (.inr z) ep)) (r' := .d (kvs ++ [(z, p.length)])) ⟨_, upd_same⟩
    have hT1 : KeepT H (upd H ae (.dict (rowD (kvs ++ [(z, p.length)])) (epK (rowD kvs) (.inr z) ep))) := KeepT.upd hrow (by simp)
    generalize upd H ae (.dict (rowD (kvs ++ [(z, p.length)])) (epK (rowD kvs) (.inr z) ep)) = H1 at L1 hT1
    -- boxes.append(boxes[end].get(key[-1]))
    have hpe : (p.set e (.d (kvs ++ [(z, p.length)])) ++ [Row.l [p.length + 1], Row.d []])[e]? = some (.d (kvs ++ [(z, p.length)])) := by
      rw [List.getElem?_append_left (by rw [List.length_set]; exact hel), get_set hel, if_pos rfl]
    obtain ⟨b, hbj, bd, epb, rfl, hbd⟩ := L1.X.row e _ hpe
    have hsubB : (bv.take p.length)[((e : Int)).toNat]? = some (.ref bd) := by
      rw [Int.toNat_natCast, List.getElem?_take_of_lt hel]; exact hbj
    have hbv : bv[p.length]? = some (bv.getD p.length .none) := val_at (by lia)
    have htk : (bv.take p.length).length = p.length := by rw [List.length_take]; lia
    refine contQ_next (W_cons' ?_)
    refine W_ExprStmt ?_
    refine W_CallM' PySem.F.plainAttrs_list PySem.F.slot_list_append PySem.F.type_list_append ?_
    refine W_Name hb ?_
    refine ⟨onList L1.B, ?_⟩
    refine WItems_cons ?_
    refine W_CallM' PySem.F.plainAttrs_dict PySem.F.slot_dict_get PySem.F.type_dict_get ?_
    refine W_Subscript ?_
    refine W_Name hb ?_
    refine W_Name he ?_
    refine WSub_list L1.B (by lia) (by lia) hsubB ?_
    refine ⟨onDict hbd, ?_⟩
    refine WItems_cons ?_
    refine L2.keyLast hkey (hT1 _ _ hkt) hkl ?_
    refine WItems_nil ?_
    refine WCall_get hbd (key := .inr z) (by simp [isKV]) ?_
    rw [getK_boxD, lookup_snoc hl, Option.map_some, Option.getD_some]
    refine WItems_nil ?_
    refine WCall_append L1.B (by rw [htk, show sizeLine = _ from sizeLine_eq]; lia) ?_
    have L2' := L1.box hbv
    have hT2 : KeepT H (upd H1 ba (.list (bv.take p.length ++ [bv.getD p.length .none]))) := hT1.trans (KeepT.upd L1.B (by simp))
    generalize upd H1 ba (.list (bv.take p.length ++ [bv.getD p.length .none])) = H2 at L2' hT2
    -- plan.append([])
    refine contQ_next (W_cons' ?_)
    refine W_ExprStmt ?_
    refine W_CallM' PySem.F.plainAttrs_list PySem.F.slot_list_append PySem.F.type_list_append ?_
    refine W_Name hp ?_
    refine ⟨onList L2'.P.list, ?_⟩
    refine WItems_cons ?_
    refine W_List ?_
    refine WItems_nil ⟨by simp, fun an han => ?_⟩
    refine WItems_nil ?_
    refine WCall_append (upd_fresh han L2'.P.list) (by rw [List.length_map, hral, show sizeLine = _ from sizeLine_eq]; lia) ?_
    have L3 := L2'.push (r := .l []) (y := .list []) han fun H' e => e
    rw [show (ra.map V.ref ++ [V.ref an]) = (ra ++ [an]).map V.ref by simp]
    have hT3 : KeepT H (upd (upd H2 an (.list [])) pa (.list ((ra ++ [an]).map .ref))) := (hT2.trans (KeepT.of (Ext.upd han))).trans (KeepT.upd (upd_fresh han L2'.P.list) (by simp))
    generalize upd (upd H2 an (.list [])) pa (.list ((ra ++ [an]).map .ref)) = H3 at L3 hT3
    refine contQ_next (W_nil (contQ_next ?_))
    have hlen1 : (p.set e (.d (kvs ++ [(z, p.length)])) ++ [Row.l []]).length = p.length + 1 := by simp
    have hfin : (p.set e (.d (kvs ++ [(z, p.length)])) ++ [Row.l []]).set p.length (.l ([] ++ [(p.set e (.d (kvs ++ [(z, p.length)])) ++ [Row.l []]).length])) ++ [Row.d []] = p.set e (.d (kvs ++ [(z, p.length)])) ++ [Row.l [p.length + 1], Row.d []] := by
      rw [hlen1]
      have := set_last (p.set e (.d (kvs ++ [(z, p.length)]))) (Row.l []) (.l ([] ++ [p.length + 1]))
      rw [List.length_set] at this
      rw [this]; simp
    refine L2.tail_ok (n := n) (p := p.set e (.d (kvs ++ [(z, p.length)])) ++ [Row.l []]) (j := p.length) (xs := []) (kvs := kvs ++ [(z, p.length)]) G0 (by rw [hfin, hlen1]; exact L3) (by simp) (by rw [hlen1]; lia) hp hb he hkey (hT3 _ _ hkt) hkl ?_ (lookup_snoc hl) ?_ fun H' ra' L' hT => h H' ra' ?_ (hT3.trans hT)
    · rw [List.getElem?_append_left (by rw [List.length_set]; exact hel), get_set hel, if_pos rfl]
    · rw [List.getElem?_append_right (by rw [List.length_set]; exact Nat.le_refl _)]; simp
    · rw [hfin, hlen1] at L'
      rw [show (p.set e (.d (kvs ++ [(z, p.length)])) ++ [Row.l [p.length + 1], Row.d []]).length = p.length + 1 + 1 by simp]
      exact L'
end
section
theorem grow_snd {rest : List Str} {plan : List Row} {k : Nat} {kvs : List (Str × Nat)} (hk : plan[k]? = some (.d kvs)) (hl : ∀ x r, rest = x :: r → kvs.lookup x = none) (hne : rest ≠ []) : (grow plan k rest).2 + 1 = plan.length + rest.length := by
  have h0 : 0 < rest.length := List.length_pos_iff.mpr hne
  obtain ⟨kj, _, _, h, _⟩ := grow_name hk hl (j := rest.length - 1) (x := rest[rest.length - 1]) (List.getElem?_eq_getElem (by lia))
  rw [show rest.length - 1 + 1 = rest.length by lia, List.take_length] at h
  rw [h]
  show plan.length + (rest.length - 1) + 1 = _
  lia
theorem growA_eq {plan : List Row} {k : Nat} {rest : List Str} {z : Str} : growA plan k rest z = growA (grow plan k rest).1 (grow plan k rest).2 [] z := rfl
theorem growA_keeps {p : List Row} {e i : Nat} {z : Str} {kF kvs : List (Str × Nat)} (he : p[e]? = some (.d kvs)) (hi : p[i]? = some (.d kF)) (hne : i ≠ e) : (growA p e [] z)[i]? = some (.d kF) := by
  have hil : i < p.length := (List.getElem?_eq_some_iff.mp hi).1
  have hel : e < p.length := (List.getElem?_eq_some_iff.mp he).1
  have hA : growA p e [] z = match kvs.lookup z with
    | none => p.set e (.d (kvs ++ [(z, p.length)])) ++ [.l [p.length + 1], .d []]
    | some j => match p[j]? with
      | some (.l xs) => p.set j (.l (xs ++ [p.length])) ++ [.d []]
      | _ => p := by
    show (match p[e]? with | some (.d kvs) => _ | _ => _) = _
    rw [he]; rfl
  rw [hA]
  split
  · rw [List.getElem?_append_left (by rw [List.length_set]; exact hil), get_set hel, if_neg (fun q => hne q.symm)]; exact hi
  · split
    · rename_i j _ _ xs hj
      have hjl : j < p.length := (List.getElem?_eq_some_iff.mp hj).1
      rw [List.getElem?_append_left (by rw [List.length_set]; exact hil), get_set hjl, if_neg (fun q => by subst q; rw [hj] at hi; cases hi)]; exact hi
    · exact hi
theorem growA_len {p : List Row} {e : Nat} {z : Str} {kvs : List (Str × Nat)} (he : p[e]? = some (.d kvs)) : p.length ≤ (growA p e [] z).length := by
  have hA : growA p e [] z = match kvs.lookup z with
    | none => p.set e (.d (kvs ++ [(z, p.length)])) ++ [.l [p.length + 1], .d []]
    | some j => match p[j]? with
      | some (.l xs) => p.set j (.l (xs ++ [p.length])) ++ [.d []]
      | _ => p := by
    show (match p[e]? with | some (.d kvs) => _ | _ => _) = _
    rw [he]; rfl
  rw [hA]
  split
  · simp
  · split
    · simp
    · exact Nat.le_refl _
noncomputable def afterOf (plan : List Row) (kind : Int) (k : Nat) (rest : List Str) (z : Str) : List Row := if kind = 4 then growA plan k rest z else (grow plan k rest).1
noncomputable def ToldIs (plan : List Row) (kind : Int) (k : Nat) (rest : List Str) (bv : List V) (v : V) : Prop := if kind = 4 then v = .none else ∃ a, v = .ref a ∧ bv[(grow plan k rest).2]? = some (.ref a)
theorem L2.told_ok {k : Wk} {m : Loc} {H : AHeap} {C pa ba x dx da t kt : Addr} {ra : List Addr} {plan : List Row} {bv : List V} {kk n : Nat} {kind : Int} {kvs : List (Str × Nat)} {l keys : List (Str × Tok)} {z : Str} {told : V} {Q : Flow → Loc → AHeap → Prop} [sv : SEnv k (fnScope L2.fLaw) (cellNames (fnScope L2.fLaw).names)] (G : Blt k.c) (hh : k.A.handled = none)
    (hkind : kind = 2 ∨ kind = 3 ∨ kind = 4) (L : LM H C pa ba x dx ra plan bv plan.length (afterOf plan kind kk (l.map (·.1)) z)) (F : Fit plan n) (hn : n + l.length ≤ 3900) (hp : m "plan" = some (.ref pa)) (hb : m "boxes" = some (.ref ba)) (hd : m "due" = some (.ref da)) (hkd : m "kind" = some (.int kind)) (htd : m "told" = some told) (hkey : m "key" = some (.ref kt))
    (hda : H da = some (.list [.int kk, .ref t])) (ht : H t = some (.tup (l.map fun p => .str p.1 p.2))) (hkt : H kt = some (.tup (keys.map fun p => .str p.1 p.2))) (hkl : keys.length < 4000) (hz : kind = 4 → (keys.map (·.1)).getLast? = some z)
    (hk : plan[kk]? = some (.d kvs)) (hl : ∀ x r, l.map (·.1) = x :: r → kvs.lookup x = none) (hok : KeysOK l) (hT : ToldIs plan kind kk (l.map (·.1)) bv told)
    (hj4 : kind = 4 → l = [] → ∀ j, kvs.lookup z = some j → ∃ xs, plan[j]? = some (.l xs))
    (h : ∀ m' H' ra', m' "plan" = some (.ref pa) → m' "boxes" = some (.ref ba) → m' "mount" = m "mount" → LM H' C pa ba x dx ra' (afterOf plan kind kk (l.map (·.1)) z) bv (afterOf plan kind kk (l.map (·.1)) z).length (afterOf plan kind kk (l.map (·.1)) z) → Q .next m' H') :
    W k (execs L2.toldB k.env) m H Q := by
  have G0 := G
  obtain ⟨gLen, gDivmod, gIsi, gList, gDict, gStr, gRange, gZip, gKE, gIE, imp, tree⟩ := G
  have hFl := F.len
  obtain ⟨kvE, e1, e2, e3⟩ := grow_at (l.map (·.1)) plan kk kvs hk
  have glen := grow_len (l.map (·.1)) plan kk kvs hk
  rw [List.length_map] at glen
  have gend := grow_end_lt (rest := l.map (·.1)) hk
  rw [List.length_map] at gend
  -- end = due[0]
  refine W_cons' ?_
  refine W_Assign ?_ (stor (by rfl)) (by rfl)
  refine W_Subscript ?_
  refine W_Name hd ?_
  refine W_int ?_
  refine WSub_list (v := .int kk) hda (by decide) (by decide) (by rfl) ?_
  refine contQ_next (W_cons' ?_)
  refine L2.names_ok (n := n) G0 hh L F hn (by walk_at "lk") (by walk_at "lk") (by walk_at "lk") setL_same hda ht hk hl hok ?_ ?_ ?_
  · intro j y hj
    obtain ⟨kj, g1, g2, g3, g4⟩ := grow_name hk hl hj
    refine ⟨kj ++ [(y, plan.length + j)], ?_, lookup_snoc g2⟩
    unfold afterOf
    split
    · rw [growA_eq]
      refine growA_keeps e1 g4 ?_
      have hjl : j < (l.map (·.1)).length := (List.getElem?_eq_some_iff.mp hj).1
      have h1 := grow_end_lt (rest := (l.map (·.1)).take j) hk
      rw [List.length_take, Nat.min_eq_left (by lia)] at h1
      have h2 := grow_snd hk hl (fun q => by rw [q] at hjl; simp at hjl)
      lia
    · exact g4
  · unfold afterOf
    split
    · rw [growA_eq]
      have := growA_len (z := z) e1
      lia
    · lia
  intro m1 H1 ra1 hm1 hend1 L1 hK1
  have hp1 : m1 "plan" = some (.ref pa) := by rw [hm1 _ (by decide) (by decide)]; walk_at "lk"
  have hb1 : m1 "boxes" = some (.ref ba) := by rw [hm1 _ (by decide) (by decide)]; walk_at "lk"
  have hkd1 : m1 "kind" = some (.int kind) := by rw [hm1 _ (by decide) (by decide)]; walk_at "lk"
  have htd1 : m1 "told" = some told := by rw [hm1 _ (by decide) (by decide)]; walk_at "lk"
  have hkey1 : m1 "key" = some (.ref kt) := by rw [hm1 _ (by decide) (by decide)]; walk_at "lk"
  have hmt1 : m1 "mount" = m "mount" := by
    rw [hm1 _ (by decide) (by decide)]
    unfold setL
    rw [if_neg (by decide)]
  clear hm1
  have F1 := Fit.grow (n := n) (l.map (·.1)) plan n kk kvs F hk (fun x hx => by
      obtain ⟨p, hp, e⟩ := List.mem_map.mp hx
      rw [← e]; exact hok p hp) hl
  rw [List.length_map] at F1
  -- told is not ..
  refine contQ_next (W_cons' ?_)
  refine W_If ?_
  refine WT_Compare ?_
  refine W_Name htd1 ?_
  refine W_IfExp ?_
  refine WT_Compare ?_
  refine W_Name hkd1 ?_
  refine W_int ?_
  refine WCmp_lt ?_
  refine WTr_bool ?_
  by_cases h4 : kind = 4
  · subst h4
    unfold ToldIs at hT
    rw [if_pos rfl] at hT
    subst hT
    refine iteF ?_
    refine W_none ?_
    refine WCmp_isNot (r := true) (by rfl) ?_
    refine WTr_bool (iteNT ?_)
    refine W_nil (contQ_next ?_)
    -- kind == 4
    refine W_cons' ?_
    refine W_If ?_
    refine WT_Compare ?_
    refine W_Name hkd1 ?_
    refine W_int ?_
    refine WCmp_eq ?_
    refine WTr_bool ?_
    refine iteT ?_
    obtain ⟨kinit, zt, rfl⟩ : ∃ kinit zt, keys = kinit ++ [(z, zt)] := by
      have := hz rfl
      rcases List.eq_nil_or_concat keys with rfl | ⟨ki, ⟨z', zt⟩, rfl⟩
      · simp at this
      · refine ⟨ki, zt, ?_⟩
        simp at this
        rw [this]; simp
    have hA : afterOf plan 4 kk (l.map (·.1)) z = growA (grow plan kk (l.map (·.1))).1 (grow plan kk (l.map (·.1))).2 [] z := by unfold afterOf; rw [if_pos rfl, growA_eq]
    rw [hA] at L1 h
    rw [← glen] at L1
    rw [List.length_append, List.length_singleton] at hkl
    refine L2.app_ok (n := n + l.length) G0 L1 F1 hn hp1 hb1 hend1 hkey1 (hK1 _ _ hkt) (by lia) e1 ?_ fun H2 ra2 LL hK2 => ?_
    · intro j hj
      by_cases hln : l = []
      · subst hln
        rw [e3 rfl] at hj
        exact hj4 rfl rfl j hj
      · rw [e2 (by simpa using hln)] at hj
        cases hj
    · exact contQ_next (W_nil (h m1 H2 ra2 hp1 hb1 hmt1 LL))
  · have hlt : kind < 4 := by lia
    have hA : afterOf plan kind kk (l.map (·.1)) z = (grow plan kk (l.map (·.1))).1 := by unfold afterOf; rw [if_neg h4]
    unfold ToldIs at hT
    rw [if_neg h4] at hT
    obtain ⟨a, rfl, hba⟩ := hT
    rw [decide_eq_true hlt]
    refine iteT ?_
    refine W_Subscript ?_
    refine W_Name hb1 ?_
    refine W_Name hend1 ?_
    have hsub : (bv.take (plan.length + l.length))[(((grow plan kk (l.map (·.1))).2 : Nat) : Int).toNat]? = some (.ref a) := by
      rw [Int.toNat_natCast, List.getElem?_take_of_lt gend]; exact hba
    refine WSub_list L1.B (by lia) (by lia) hsub ?_
    refine WCmp_isNot (r := true) (by simp [isV]) ?_
    refine WTr_bool (iteNT ?_)
    refine W_nil (contQ_next ?_)
    refine W_cons' ?_
    refine W_If ?_
    refine WT_Compare ?_
    refine W_Name hkd1 ?_
    refine W_int ?_
    refine WCmp_eq ?_
    refine WTr_bool ?_
    rw [decide_eq_false h4]
    refine iteF ?_
    refine W_nil (contQ_next (W_nil ?_))
    refine h m1 H1 ra1 hp1 hb1 hmt1 ?_
    rw [hA] at L1 ⊢
    rw [glen]
    exact L1
end
section
structure L2.Defs (c : Cx) (C fI fG fA fDig fEnd fDue fCall fSeen : Addr) : Prop where
  blt : Blt c
  nest : NestAt c C fI fG fA L2.cls
  gC : Gl c "NestedDict" (.ref C)
  dig : DefAt c fDig L2.digits
  gDig : Gl c "_law_digits" (.ref fDig)
  fend : DefAt c fEnd L2.fEnd
  gEnd : Gl c "_law_end" (.ref fEnd)
  due : DefAt c fDue L2.fDue
  gDue : Gl c "_law_due" (.ref fDue)
  call : DefAt c fCall L2.fCall
  gCall : Gl c "_law_call" (.ref fCall)
  seen : DefAt c fSeen L2.fSeen
  gSeen : Gl c "_law_seen" (.ref fSeen)
theorem seqIndex_nat {i n : Nat} (h : i < n) : seqIndex? (i : Int) n = some i := by
  have h1 : (if (i : Int) < 0 then (i : Int) + n else i) = i := if_neg (by lia)
  simp only [seqIndex?, h1]
  rw [if_pos (by simp; lia)]
  simp
theorem half_lt {l n : Nat} (h : l + 1 ≤ 2 ^ (12 - n)) (h0 : 0 < l) : n < 12 ∧ (l - 1) / 2 + 1 ≤ 2 ^ (12 - (n + 1)) := by
  have hn : n < 12 := by
    rcases Nat.lt_or_ge n 12 with q | q
    · exact q
    · rw [Nat.sub_eq_zero_of_le q] at h; lia
  refine ⟨hn, ?_⟩
  rw [show 12 - n = (12 - (n + 1)) + 1 by lia, Nat.pow_succ] at h
  lia
theorem L2.key_ok {k : Wk} {m : Loc} {H : AHeap} {spot : Nat} {Q : Flow → Loc → AHeap → Prop} [sv : SEnv k (fnScope L2.fLaw) (cellNames (fnScope L2.fLaw).names)] (G : Blt k.c) (hh : k.A.handled = none) (hroom : Roomy k) (hs : m "spot" = some (.int spot))
    (h : ∀ m' H' kt (keys : List (Str × Tok)), (∀ y : Str, y ≠ "key" → y ≠ "left" → y ≠ "name" → m' y = m y) → m' "key" = some (.ref kt) → H' kt = some (.tup (keys.map fun p => .str p.1 p.2)) → KeysOK keys → keys.length ≤ 12 → Ext H H' → W k (execs (L2.deeds.drop 3) k.env) m' H' Q) :
    W k (execs L2.deeds k.env) m H Q := by
  obtain ⟨gLen, gDivmod, gIsi, gList, gDict, gStr, gRange, gZip, gKE, gIE, imp, tree⟩ := G
  refine W_cons' ?_
  refine W_Assign ?_ (stor (by rfl)) (by rfl)
  refine W_Tuple ?_
  refine WItems_nil ⟨by simp, fun tp htp => ?_⟩
  refine contQ_next (W_cons' ?_)
  refine W_Assign ?_ (stor (by rfl)) (by rfl)
  refine W_BinOp ?_
  refine W_BinOp ?_
  refine W_Name (by walk_at "lk") ?_
  refine W_int ?_
  refine WBin_add ?_
  refine W_int ?_
  refine WBin_mod hroom (by decide) ?_
  refine contQ_next (W_cons' ?_)
  have hmod : ((spot : Int) + 1).fmod 4096 = (((spot + 1) % 4096 : Nat) : Int) := by
    rw [Int.fmod_eq_emod_of_nonneg _ (by decide)]; lia
  rw [hmod]
  refine W_While (fun j m' H' => ∃ kt, ∃ keys : List (Str × Tok), (∀ y : Str, y ≠ "key" → y ≠ "left" → y ≠ "name" → m' y = m y) ∧ m' "key" = some (.ref kt) ∧ H' kt = some (.tup (keys.map fun p => .str p.1 p.2)) ∧ KeysOK keys ∧ m' "left" = some (.int (j : Int)) ∧ j + 1 ≤ 2 ^ (12 - keys.length) ∧ keys.length ≤ 12 ∧ Ext H H') ((spot + 1) % 4096)
    ⟨tp, [], fun y h1 h2 h3 => by unfold setL; rw [if_neg h2, if_neg h1], by walk_at "lk", upd_same, fun p hp => by simp at hp, setL_same, by simp; lia, by simp, Ext.upd htp⟩ ?_
  rintro j m1 H1 ⟨kt, keys, hm1, hkey1, hkt1, hok, hleft, hj, hk12, hE⟩
  refine WT_Compare ?_
  refine W_Name hleft ?_
  refine W_int ?_
  refine WCmp_gt ?_
  refine WTr_bool ?_
  by_cases h0 : 0 < j
  · rw [decide_eq_true (by lia)]
    refine iteT ?_
    obtain ⟨hlt, hnext⟩ := half_lt hj h0
    refine W_cons' ?_
    refine W_AssignTup ?_
    refine W_CallB gDivmod (kindS (by rfl)) ?_
    refine WItems_cons ?_
    refine W_BinOp ?_
    refine W_Name hleft ?_
    refine W_int ?_
    refine WBin_sub ?_
    refine WItems_cons ?_
    refine W_int ?_
    refine WItems_nil ?_
    refine WCall_divmod hroom (by decide) (fun p hp => ?_)
    have hdiv : ((j : Int) - 1).fdiv 2 = (((j - 1) / 2 : Nat) : Int) := by
      rw [Int.fdiv_eq_ediv_of_nonneg _ (by decide)]; lia
    have hm2 : ((j : Int) - 1).fmod 2 = (((j - 1) % 2 : Nat) : Int) := by
      rw [Int.fmod_eq_emod_of_nonneg _ (by decide)]; lia
    rw [hdiv, hm2]
    refine WAs_Tup hh upd_same rfl (by rfl) (by simp [assignEach]) ?_
    refine WAsL_cons ?_
    refine WAs_Name (stor (by rfl)) ?_
    refine WAsL_cons ?_
    refine WAs_Name (stor (by rfl)) ?_
    refine WAsL_nil ?_
    refine contQ_next (W_cons' ?_)
    have hkt2 := upd_fresh (x := AObj.tup [.int (((j - 1) / 2 : Nat) : Int), .int (((j - 1) % 2 : Nat) : Int)]) hp hkt1
    have hE2 := hE.trans (Ext.upd (x := AObj.tup [.int (((j - 1) / 2 : Nat) : Int), .int (((j - 1) % 2 : Nat) : Int)]) hp)
    generalize upd H1 p (.tup [.int (((j - 1) / 2 : Nat) : Int), .int (((j - 1) % 2 : Nat) : Int)]) = H2 at hkt2 hE2
    refine W_Aug (old := .ref kt) (by walk_at "lk") ?_ (stor (by rfl))
    refine W_Tuple ?_
    refine WItems_cons ?_
    refine W_Subscript ?_
    refine W_Tuple ?_
    refine WItems_cons ?_
    refine W_str fun t1 ht1 => ?_
    refine WItems_cons ?_
    refine W_str fun t2 ht2 => ?_
    refine WItems_nil ⟨by simp [sizeLine], fun q hq => ?_⟩
    refine W_Name setL_same ?_
    obtain ⟨nm, tk, hnm, hv⟩ : ∃ nm tk, (nm = Str.ofString "a" ∨ nm = Str.ofString "") ∧ ([V.str "a" t1, V.str "" t2] : List V)[(j - 1) % 2]? = some (.str nm tk) := by
      rcases Nat.mod_two_eq_zero_or_one (j - 1) with e | e
      · rw [e]; exact ⟨_, _, .inl rfl, rfl⟩
      · rw [e]; exact ⟨_, _, .inr rfl, rfl⟩
    refine WSub_tup (j := (j - 1) % 2) (v := .str nm tk) upd_same (by lia) (by lia) ?_ hv ?_
    · exact seqIndex_nat (show (j - 1) % 2 < 2 by lia)
    refine WItems_nil ⟨by simp [sizeLine], fun q2 hq2 => ?_⟩
    have hkt3 := upd_fresh (x := AObj.tup [.str nm tk]) hq2 (upd_fresh (x := AObj.tup [.str "a" t1, .str "" t2]) hq hkt2)
    refine WInpl_addT hkt3 upd_same (by simp [sizeLine]; lia) fun p3 H3 hE3 hp3 => ?_
    refine contQ_next (W_nil (loopQ_next ?_))
    refine ⟨(j - 1) / 2, by lia, p3, keys ++ [(nm, tk)], fun y h1 h2 h3 => ?_, setL_same, by rw [List.map_append]; exact hp3, fun w hw => ?_, by walk_at "lk", by rw [List.length_append, List.length_singleton]; exact hnext, by simp; lia, ((hE2.trans (Ext.upd hq)).trans (Ext.upd hq2)).trans hE3⟩
    · rw [← hm1 y h1 h2 h3]
      unfold setL
      rw [if_neg h1, if_neg h3, if_neg h2]
    · rcases List.mem_append.mp hw with hw | hw
      · exact hok w hw
      · rw [List.mem_singleton.mp hw]; exact hnm
  · rw [decide_eq_false (by lia)]
    refine iteF ?_
    exact contQ_next (h m1 H1 kt keys hm1 hkey1 hkt1 hok hk12 hE)
end
section
theorem L2.deed_ok {k : Wk} {m : Loc} {H : AHeap} {C fI fG fA fDig fEnd fDue fCall fSeen pa ba x dx kt : Addr} {ra : List Addr} {plan : List Row} {bv : List V} {i n : Nat} {kind : Int} {keys : List (Str × Tok)} {P : V → AHeap → Prop} {Q : Flow → Loc → AHeap → Prop} [sv : SEnv k (fnScope L2.fLaw) (cellNames (fnScope L2.fLaw).names)]
    (D : L2.Defs k.c C fI fG fA fDig fEnd fDue fCall fSeen) (hA : Room k.A) (hA' : k.A.depth ≤ 500 ∧ k.A.units ≤ 1500) (hkind : kind = 2 ∨ kind = 3 ∨ kind = 4) (L : LawAt H C pa ba x dx ra plan bv) (F : Fit plan n) (hn : n + 20 ≤ 3900) (hi : isDAt plan i = true)
    (hp : m "plan" = some (.ref pa)) (hb : m "boxes" = some (.ref ba)) (hm : m "mount" = some (.ref x)) (hkd : m "kind" = some (.int kind)) (hin : m "i" = some (.int i)) (hkey : m "key" = some (.ref kt)) (hkt : H kt = some (.tup (keys.map fun p => .str p.1 p.2))) (hok : KeysOK keys) (hkl : keys.length ≤ 12)
    (h : ∀ m' H' ra' plan' bv', m' "plan" = some (.ref pa) → m' "boxes" = some (.ref ba) → m' "mount" = some (.ref x) → LawAt H' C pa ba x dx ra' plan' bv' → Fit plan' (n + 20) → Q .next m' H') :
    W k (execs (L2.deeds.drop 3) k.env) m H Q := by
  have G := D.blt
  have hh := hA.handled
  obtain ⟨gLen, gDivmod, gIsi, gList, gDict, gStr, gRange, gZip, gKE, gIE, imp, tree⟩ := D.blt
  obtain ⟨foD, fdD, hfD, hdD⟩ := D.due.obj
  obtain ⟨foC, fdC, hfC, hdC⟩ := D.call.obj
  have hPOK := F.ok (by lia)
  have hun2 : k.A.units + 64 < cLine := Nat.lt_of_le_of_lt (m := 2070) (by lia) (by decide)
  -- due = _law_due(..)
  refine W_cons' ?_
  refine W_Assign ?_ (stor (by rfl)) (by rfl)
  refine W_CallF D.gDue (kindS (by rfl)) hfD hdD ?_
  refine WItems_cons ?_
  refine W_Name hp ?_
  refine WItems_cons ?_
  refine W_Name hkd ?_
  refine WItems_cons ?_
  refine W_Name hin ?_
  refine WItems_cons ?_
  refine W_Name hkey ?_
  refine WItems_nil ?_
  refine FnV.mono (L2.due_ok G D.due D.fend D.gEnd hA (by lia) L.P hPOK hkt (by lia) hok hi) ?_ (fun _ _ _ q => q.elim)
  rintro due H1 ⟨hE1, hdue⟩
  have L1 := L.ext hE1
  have hkt1 := hE1 kt _ hkt
  obtain ⟨kvi, hkvi⟩ : ∃ kr, plan[i]? = some (.d kr) := by
    unfold isDAt at hi
    split at hi
    · rename_i kr e; exact ⟨kr, e⟩
    · cases hi
  have hbl := L1.X.len
  have hil : i < plan.length := (List.getElem?_eq_some_iff.mp hkvi).1
  obtain ⟨bi, hbi, cont, epi, rfl, hcont⟩ := L1.X.row i _ hkvi
  have hFl := F.len
  -- mount.dict = boxes[i]
  refine contQ_next (W_cons' ?_)
  refine W_setDict (fI := fI) ?_
  refine W_Subscript ?_
  refine W_Name (by walk_at "lk") ?_
  refine W_Name (by walk_at "lk") ?_
  refine WSub_list L1.B (by lia) (by lia) (by rw [Int.toNat_natCast]; exact hbi) ?_
  refine ⟨x, C, dx, by walk_at "lk", D.nest.kls, L1.inst, .inr (by obtain ⟨v, e⟩ := L1.attrs; exact ⟨_, e⟩), ?_⟩
  have L2' := L1.lm.mount (b := cont)
  obtain ⟨v0, hv0⟩ := L1.attrs
  have hdx2 : upd H1 dx (.attrs (.ref cont)) dx = some (.attrs (.ref cont)) := upd_same
  have hkt2 : upd H1 dx (.attrs (.ref cont)) kt = some (.tup (keys.map fun p => .str p.1 p.2)) := upd_ne (fun q => by rw [q, hv0] at hkt1; cases hkt1) hkt1
  have hdue2 : EndV (upd H1 dx (.attrs (.ref cont))) due (dueOf plan kind (keys.map (·.1)) i) := by
    revert hdue
    cases dueOf plan kind (keys.map (·.1)) i with
    | no msg => exact id
    | «at» kk rest =>
      rintro ⟨a, t, l, e1, e2, e3, e4⟩
      exact ⟨a, t, l, e1, upd_ne (fun q => by rw [q, hv0] at e2; cases e2) e2, upd_ne (fun q => by rw [q, hv0] at e3; cases e3) e3, e4⟩
  generalize upd H1 dx (.attrs (.ref cont)) = H2 at L2' hdx2 hkt2 hdue2
  -- told = _law_call(..)
  refine contQ_next (W_cons' ?_)
  refine W_Assign ?_ (stor (by rfl)) (by rfl)
  refine W_CallF D.gCall (kindS (by rfl)) hfC hdC ?_
  refine WItems_cons ?_
  refine W_Name (by walk_at "lk") ?_
  refine WItems_cons ?_
  refine W_Name (by walk_at "lk") ?_
  refine WItems_cons ?_
  refine W_Name (by walk_at "lk") ?_
  refine WItems_nil ?_
  have hC := F.closed
  let z : Str := ((keys.map (·.1)).getLast?).getD (Str.ofString "")
  let R : V → AHeap → Prop := fun v H' => match dueOf plan kind (keys.map (·.1)) i with
    | .at kk rest => ∃ bv', BoxesAt H' bv' (afterOf plan kind kk rest z) ∧ Grown bv H2 bv' H' ∧ ToldIs plan kind kk rest bv' v
    | .no msg => Grown bv H2 bv H' ∧ BoxesAt H' bv plan ∧ ∃ a tok, v = .ref a ∧ H' a = some (.tup [.str msg tok])
  have hno : ∀ msg, dueOf plan kind (keys.map (·.1)) i = .no msg → ∀ H', Grown bv H2 bv H' → BoxesAt H' bv plan → NoEnd (XC R) msg H' := by
    intro msg hd H' hG hX
    have hR : ∀ v H3, Ext H' H3 → (∃ a tok, v = .ref a ∧ H3 a = some (.tup [.str msg tok])) → R v H3 := fun v H3 hE hv => by
      show match dueOf plan kind (keys.map (·.1)) i with
        | .at kk rest => _
        | .no msg => _
      rw [hd]
      exact ⟨hG.ext hE, hX.ext hE, hv⟩
    unfold NoEnd
    split
    · rename_i q; subst q
      exact .inr ⟨rfl, fun t tok ht => hR _ _ (Ext.upd ht) ⟨t, tok, rfl, upd_same⟩⟩
    · intro t
      exact .inl ⟨rfl, _, rfl, fun e t' he ht hne => hR _ _ ((Ext.upd ht).trans (Ext.upd (upd_none (fun q => hne q.symm) he))) ⟨t', t, rfl, upd_ne hne upd_same⟩⟩
  refine FnV.mono (L2.call_ok (Q := R) G D.nest D.call hA (by lia) L2'.inst hdx2 hkt2 (by lia) ?_ ?_) ?_ (fun _ _ _ q => q.elim)
  · intro h4 Ha hEa
    subst h4
    refine ga_core (L2'.X.ext hEa) hPOK hi hbi ?_
    cases hd : dueOf plan 4 (keys.map (·.1)) i with
    | «at» kk rest =>
      intro H' bv' z' hz' hX hG
      show match dueOf plan 4 (keys.map (·.1)) i with
        | .at kk rest => _
        | .no msg => _
      rw [hd]
      have hzz : z = z' := by show ((keys.map (·.1)).getLast?).getD (Str.ofString "") = z'; rw [hz']; rfl
      refine ⟨bv', ?_, Grown.ofExt hEa hG, rfl⟩
      rw [hzz]
      exact hX
    | no msg =>
      intro H' bv' hX hG
      obtain rfl := hG.same (L2'.X.ext hEa) hX
      exact hno msg hd H' (Grown.ofExt hEa hG) hX
  · intro h4
    have hdu : dueOf plan kind (keys.map (·.1)) i = endOf plan (decide (kind ≠ 3)) (keys.map (·.1)) i := by
      unfold dueOf
      rw [if_pos (by lia)]
      rcases hkind with rfl | rfl | rfl
      · rfl
      · rfl
      · exact absurd rfl h4
    refine gw_core L2'.X hPOK _ i cont hi hbi ?_
    rw [← hdu]
    cases hd : dueOf plan kind (keys.map (·.1)) i with
    | «at» kk rest =>
      intro H' bv' a hX hG ha
      show match dueOf plan kind (keys.map (·.1)) i with
        | .at kk rest => _
        | .no msg => _
      rw [hd]
      refine ⟨bv', ?_, hG, ?_⟩
      · unfold afterOf; rw [if_neg h4]; exact hX
      · unfold ToldIs; rw [if_neg h4]; exact ⟨a, rfl, ha⟩
    | no msg => exact hno msg hd H2 (Grown.refl _ _) L2'.X
  intro told H3 hR
  have hlen0 : ∀ {bv' : List V} {H' : AHeap}, Grown bv H2 bv' H' → bv'[i]? = some (.ref cont) := fun {bv' H'} hG => by
    obtain ⟨s, rfl⟩ := hG.pre
    rw [List.getElem?_append_left (List.getElem?_eq_some_iff.mp hbi).1]; exact hbi
  have hdxout := L2'.X.noAttrs hdx2
  -- mount.dict is not boxes[i]
  have first : ∀ {p1 p2 p3 p4 p5 p6 : Pos} {bv' : List V} {plan2 : List Row} {QQ : Bool → Loc → AHeap → Prop} {m' : Loc}, Grown bv H2 bv' H3 → LM H3 C pa ba x dx ra plan bv' bv.length plan2 → m' "mount" = some (.ref x) → m' "boxes" = some (.ref ba) → m' "i" = some (.int i) → QQ false m' H3 →
      WT k (.Compare (.Attribute (.Name "mount" p1) "dict" p2) [.IsNot] [.Subscript (.Name "boxes" p3) (.Name "i" p4) p5] p6) m' H3 QQ := fun {p1 p2 p3 p4 p5 p6 bv' plan2 QQ m'} hG L3 h1 h2 h3 hq => by
    refine WT_Compare ?_
    refine W_getDict D.nest.kls h1 L3.inst (hG.keep _ _ hdx2 hdxout) (fun i e => by cases e) ?_
    refine W_Subscript ?_
    refine W_Name h2 ?_
    refine W_Name h3 ?_
    have hsub : (bv'.take bv.length)[((i : Int)).toNat]? = some (.ref cont) := by
      rw [Int.toNat_natCast, List.getElem?_take_of_lt (by lia)]; exact hlen0 hG
    refine WSub_list L3.B (by lia) (by lia) hsub ?_
    refine WCmp_isNot (r := true) (by simp [isV]) ?_
    exact WTr_bool hq
  cases hd : dueOf plan kind (keys.map (·.1)) i with
  | no msg =>
    have hR' : Grown bv H2 bv H3 ∧ BoxesAt H3 bv plan ∧ ∃ a tok, told = .ref a ∧ H3 a = some (.tup [.str msg tok]) := by
      have : match dueOf plan kind (keys.map (·.1)) i with
        | .at kk rest => ∃ bv', BoxesAt H3 bv' (afterOf plan kind kk rest z) ∧ Grown bv H2 bv' H3 ∧ ToldIs plan kind kk rest bv' told
        | .no msg => Grown bv H2 bv H3 ∧ BoxesAt H3 bv plan ∧ ∃ a tok, told = .ref a ∧ H3 a = some (.tup [.str msg tok]) := hR
      rw [hd] at this
      exact this
    obtain ⟨hG, hX, a, tok, rfl, ha⟩ := hR'
    rw [hd] at hdue2
    obtain ⟨t, rfl⟩ := hdue2
    have L3 := L2'.grown hG hX
    refine contQ_next (W_cons' ?_)
    refine W_If ?_
    refine WT_Or ?_
    refine W_allTrue_or ?_
    refine first hG L3 (by walk_at "lk") (by walk_at "lk") (by walk_at "lk") ?_
    refine iteF ?_
    refine W_allTrue_or ?_
    refine WT_And ?_
    refine W_allTrue_and ?_
    refine WT_plain ?_
    refine W_CallB gIsi (kindS (by rfl)) ?_
    refine WItems_cons ?_
    refine W_Name (by walk_at "lk") ?_
    refine WItems_cons ?_
    refine W_NameG gStr (kindS (by rfl)) ?_
    refine WItems_nil ?_
    refine WCall_isi (T := "str") (by simp [tyOf]) (by simp) ?_
    refine WTr_bool ?_
    rw [show decide (tyOf H3 (.str msg t) = some "str") = true by simp [tyOf]]
    refine iteT ?_
    refine W_allTrue_and ?_
    refine WT_Compare ?_
    refine W_Name (by walk_at "lk") ?_
    refine W_Tuple ?_
    refine WItems_cons ?_
    refine W_Name (by walk_at "lk") ?_
    refine WItems_nil ⟨by simp [sizeLine], fun tp htp => ?_⟩
    have hgood : good (.tuple [.str msg]) = true := by simp [good, goodAll, due_msg hd]
    refine WCmp_neD (da := .tuple [.str msg]) (db := .tuple [.str msg]) (r := false) ⟨a, _, rfl, upd_fresh htp ha, _, _, rfl, ⟨_, rfl⟩, rfl⟩ ⟨tp, _, rfl, upd_same, _, _, rfl, ⟨_, rfl⟩, rfl⟩ hgood hgood (Nat.le_trans (Nat.min_le_right _ _) (by simp [PyData.depth, PyData.depthAll])) hun2 (by simp) ?_
    refine WTr_bool ?_
    refine iteF (iteF (W_allTrue_nilO (iteF (W_nil (contQ_next ?_)))))
    have L4 := L3.ext (Ext.upd (x := AObj.tup [.str msg t]) htp)
    generalize upd H3 tp (.tup [.str msg t]) = H4 at L4
    refine W_cons' ?_
    refine W_If ?_
    refine WT_Not ?_
    refine WT_plain ?_
    refine W_CallB gIsi (kindS (by rfl)) ?_
    refine WItems_cons ?_
    refine W_Name (by walk_at "lk") ?_
    refine WItems_cons ?_
    refine W_NameG gStr (kindS (by rfl)) ?_
    refine WItems_nil ?_
    refine WCall_isi (T := "str") (by simp [tyOf]) (by simp) ?_
    refine WTr_bool ?_
    rw [show decide (tyOf H4 (.str msg t) = some "str") = true by simp [tyOf]]
    refine iteNT (W_nil (contQ_next (W_nil ?_)))
    exact h _ H4 ra plan bv (by walk_at "lk") (by walk_at "lk") (by walk_at "lk") (L4.law L2'.X.len F) (F.mono (by lia))
  | «at» kk rest =>
    have hR' : ∃ bv', BoxesAt H3 bv' (afterOf plan kind kk rest z) ∧ Grown bv H2 bv' H3 ∧ ToldIs plan kind kk rest bv' told := by
      have : match dueOf plan kind (keys.map (·.1)) i with
        | .at kk rest => ∃ bv', BoxesAt H3 bv' (afterOf plan kind kk rest z) ∧ Grown bv H2 bv' H3 ∧ ToldIs plan kind kk rest bv' told
        | .no msg => Grown bv H2 bv H3 ∧ BoxesAt H3 bv plan ∧ ∃ a tok, told = .ref a ∧ H3 a = some (.tup [.str msg tok]) := hR
      rw [hd] at this
      exact this
    obtain ⟨bv', hX, hG, hTold⟩ := hR'
    rw [hd] at hdue2
    obtain ⟨da, t, l, rfl, hda, ht, rfl⟩ := hdue2
    obtain ⟨kvs, q1, q2, q3, q4, q5⟩ := due_at hkind hi hd
    rw [List.length_map, List.length_map] at q4
    have hokl : KeysOK l := fun p hp => by
      obtain ⟨q, hq, e⟩ := List.mem_map.mp (q3 p.1 (List.mem_map_of_mem hp))
      rw [← e]; exact hok q hq
    have hzK : kind = 4 → (keys.map (·.1)).getLast? = some z := fun h4 => by
      obtain ⟨z', hz', _⟩ := q5 h4
      show _ = some (((keys.map (·.1)).getLast?).getD (Str.ofString ""))
      rw [hz']; rfl
    have L3 := L2'.grown hG hX
    have hKT : KeepT H2 H3 := hG.keepT L2'.X hX hC fun i xs e => by
      unfold afterOf
      split
      · rw [growA_eq]
        obtain ⟨kvE, e1, _⟩ := grow_at (l.map (·.1)) plan kk kvs q1
        exact growA_t e1 (grow_t q1 e)
      · exact grow_t q1 e
    have hda3 := hG.keep _ _ hda (L2'.X.noInt hC hda)
    have ht3 := hKT _ _ ht
    have hkt3 := hKT _ _ hkt2
    refine contQ_next (W_cons' ?_)
    refine W_If ?_
    refine WT_Or ?_
    refine W_allTrue_or ?_
    refine first hG L3 (by walk_at "lk") (by walk_at "lk") (by walk_at "lk") ?_
    refine iteF ?_
    refine W_allTrue_or ?_
    refine WT_And ?_
    refine W_allTrue_and ?_
    refine WT_plain ?_
    refine W_CallB gIsi (kindS (by rfl)) ?_
    refine WItems_cons ?_
    refine W_Name (by walk_at "lk") ?_
    refine WItems_cons ?_
    refine W_NameG gStr (kindS (by rfl)) ?_
    refine WItems_nil ?_
    refine WCall_isi (T := "str") (by simp [tyOf, hda3]) (by simp) ?_
    refine WTr_bool ?_
    rw [show decide (tyOf H3 (.ref da) = some "str") = false by simp [tyOf, hda3]]
    refine iteF (iteF (W_allTrue_nilO (iteF (W_nil (contQ_next ?_)))))
    refine W_cons' ?_
    refine W_If ?_
    refine WT_Not ?_
    refine WT_plain ?_
    refine W_CallB gIsi (kindS (by rfl)) ?_
    refine WItems_cons ?_
    refine W_Name (by walk_at "lk") ?_
    refine WItems_cons ?_
    refine W_NameG gStr (kindS (by rfl)) ?_
    refine WItems_nil ?_
    refine WCall_isi (T := "str") (by simp [tyOf, hda3]) (by simp) ?_
    refine WTr_bool ?_
    rw [show decide (tyOf H3 (.ref da) = some "str") = false by simp [tyOf, hda3]]
    refine iteNF ?_
    rw [show bv.length = plan.length from L2'.X.len] at L3
    have FE := Fit.grow (n := n) (l.map (·.1)) plan n kk kvs F q1 (fun y hy => by
      obtain ⟨p, hp, e⟩ := List.mem_map.mp hy
      rw [← e]; exact hokl p hp) q2
    rw [List.length_map] at FE
    refine L2.told_ok (n := n) (kind := kind) (z := z) G hh hkind L3 F (by lia) (by walk_at "lk") (by walk_at "lk") (by walk_at "lk") (by walk_at "lk") (by walk_at "lk") (by walk_at "lk") hda3 ht3 hkt3 (by lia) hzK q1 q2 hokl hTold ?_ ?_
    · intro h4 hl0 j hj
      obtain ⟨z', hz', hq⟩ := q5 h4
      have : z = z' := Option.some.inj ((hzK h4).symm.trans hz')
      rw [this] at hj
      exact hq (by rw [hl0]; rfl) j hj
    · intro m' H' ra' h1 h2 h3 LL
      have FF : Fit (afterOf plan kind kk (l.map (·.1)) z) (n + 20) := by
        unfold afterOf
        split
        · rename_i h4
          rw [growA_eq]
          obtain ⟨kvE, e1, _⟩ := grow_at (l.map (·.1)) plan kk kvs q1
          have hzok : z = "a" ∨ z = "" := by
            have := List.mem_of_getLast? (hzK h4)
            obtain ⟨p, hp, e⟩ := List.mem_map.mp this
            rw [← e]; exact hok p hp
          exact (FE.growA e1 hzok).mono (by lia)
        · exact FE.mono (by lia)
      exact contQ_next (W_nil (h m' H' ra' _ bv' h1 h2 (h3.trans (by walk_at "lk")) (LL.law rfl FF) FF))
end
section
noncomputable def nmOf (spot : Nat) : Str := if spot % 2 = 0 then Str.ofString "a" else Str.ofString ""
theorem nmOf_ok (spot : Nat) : nmOf spot = "a" ∨ nmOf spot = "" := by unfold nmOf; split <;> simp
theorem spotMod (spot : Nat) : ((spot : Int)).fmod 2 = ((spot % 2 : Nat) : Int) := by
  rw [Int.fmod_eq_emod_of_nonneg _ (by decide)]; lia
theorem L2.nameOf {k : Wk} {m : Loc} {H : AHeap} {spot : Nat} {p1 p2 p3 p4 p5 p6 p7 : Pos} {n1 n2 n3 n4 : Nat} {Q : V → Loc → AHeap → Prop} (hroom : Roomy k) (hs : m "spot" = some (.int spot)) (h : ∀ a t tk, H a = none → Q (.str (nmOf spot) tk) m (upd H a t)) :
    WV k (eval (.Subscript (.Tuple [.Constant (.str "a") n1 p1, .Constant (.str "") n2 p2] n3 p3) (.BinOp (.Name "spot" p4) .Mod (.Constant (.int 2) n4 p5) p6) p7) k.env) m H Q := by
  refine W_Subscript ?_
  refine W_Tuple ?_
  refine WItems_cons ?_
  refine W_str fun t1 ht1 => ?_
  refine WItems_cons ?_
  refine W_str fun t2 ht2 => ?_
  refine WItems_nil ⟨by simp [sizeLine], fun q hq => ?_⟩
  refine W_BinOp ?_
  refine W_Name hs ?_
  refine W_int ?_
  refine WBin_mod hroom (by decide) ?_
  rw [spotMod]
  rcases Nat.mod_two_eq_zero_or_one spot with e | e
  · rw [e]
    refine WSub_tup (j := 0) (v := .str "a" t1) upd_same (by decide) (by decide) (by rfl) (by rfl) ?_
    have := h q (.tup [.str "a" t1, .str "" t2]) t1 hq
    unfold nmOf at this
    rw [if_pos e] at this
    exact this
  · rw [e]
    refine WSub_tup (j := 1) (v := .str "" t2) upd_same (by decide) (by decide) (by rfl) (by rfl) ?_
    have := h q (.tup [.str "a" t1, .str "" t2]) t2 hq
    unfold nmOf at this
    rw [if_neg (by lia)] at this
    exact this
theorem L2.dig_ok {k : Wk} {m : Loc} {H : AHeap} {C fI fG fA fDig fEnd fDue fCall fSeen pa ba x dx : Addr} {ra : List Addr} {plan : List Row} {bv : List V} {n d : Nat} {Q : Flow → Loc → AHeap → Prop} [sv : SEnv k (fnScope L2.fLaw) (cellNames (fnScope L2.fLaw).names)]
    (D : L2.Defs k.c C fI fG fA fDig fEnd fDue fCall fSeen) (hA : Room k.A) (hA' : k.A.depth ≤ 500 ∧ k.A.units ≤ 1500) (hroom : Roomy k) (L : LawAt H C pa ba x dx ra plan bv) (F : Fit plan n) (hn : n + 20 ≤ 3900) (hd : d < 163840)
    (hp : m "plan" = some (.ref pa)) (hb : m "boxes" = some (.ref ba)) (hm : m "mount" = some (.ref x)) (hdg : m "digit" = some (.int d))
    (h : ∀ m' H' ra' plan' bv', m' "plan" = some (.ref pa) → m' "boxes" = some (.ref ba) → m' "mount" = some (.ref x) → LawAt H' C pa ba x dx ra' plan' bv' → Fit plan' (n + 20) → Q .next m' H') :
    W k (execs L2.dig k.env) m H Q := by
  have G := D.blt
  have hh := hA.handled
  obtain ⟨gLen, gDivmod, gIsi, gList, gDict, gStr, gRange, gZip, gKE, gIE, imp, tree⟩ := D.blt
  have hFl := F.len
  have hF7 := F.seven
  have hral := L.P.len
  -- rest, kind = divmod(digit, 5)
  have dm : ∀ (a b : Nat), 0 < b → ((a : Int)).fdiv (b : Int) = ((a / b : Nat) : Int) ∧ ((a : Int)).fmod (b : Int) = ((a % b : Nat) : Int) := fun a b hb => by
    rw [Int.fdiv_eq_ediv_of_nonneg _ (by lia), Int.fmod_eq_emod_of_nonneg _ (by lia)]
    exact ⟨by simp, by simp⟩
  refine W_cons' ?_
  refine W_AssignTup ?_
  refine W_CallB gDivmod (kindS (by rfl)) ?_
  refine WItems_cons ?_
  refine W_Name hdg ?_
  refine WItems_cons ?_
  refine W_int ?_
  refine WItems_nil ?_
  refine WCall_divmod hroom (by decide) (fun p1 hp1 => ?_)
  rw [show (5 : Int) = ((5 : Nat) : Int) from rfl, (dm d 5 (by decide)).1, (dm d 5 (by decide)).2]
  refine WAs_Tup hh upd_same rfl (by rfl) (by simp [assignEach]) ?_
  refine WAsL_cons ?_
  refine WAs_Name (stor (by rfl)) ?_
  refine WAsL_cons ?_
  refine WAs_Name (stor (by rfl)) ?_
  refine WAsL_nil ?_
  refine contQ_next (W_cons' ?_)
  have L1 := L.ext (Ext.upd (x := AObj.tup [.int ((d / 5 : Nat) : Int), .int ((d % 5 : Nat) : Int)]) hp1)
  generalize upd H p1 (.tup [.int ((d / 5 : Nat) : Int), .int ((d % 5 : Nat) : Int)]) = H1 at L1
  -- c, spot = divmod(rest, 4096)
  refine W_AssignTup ?_
  refine W_CallB gDivmod (kindS (by rfl)) ?_
  refine WItems_cons ?_
  refine W_Name (by walk_at "lk") ?_
  refine WItems_cons ?_
  refine W_int ?_
  refine WItems_nil ?_
  refine WCall_divmod hroom (by decide) (fun p2 hp2 => ?_)
  rw [show (4096 : Int) = ((4096 : Nat) : Int) from rfl, (dm (d / 5) 4096 (by decide)).1, (dm (d / 5) 4096 (by decide)).2]
  refine WAs_Tup hh upd_same rfl (by rfl) (by simp [assignEach]) ?_
  refine WAsL_cons ?_
  refine WAs_Name (stor (by rfl)) ?_
  refine WAsL_cons ?_
  refine WAs_Name (stor (by rfl)) ?_
  refine WAsL_nil ?_
  refine contQ_next (W_cons' ?_)
  have L2' := L1.ext (Ext.upd (x := AObj.tup [.int ((d / 5 / 4096 : Nat) : Int), .int ((d / 5 % 4096 : Nat) : Int)]) hp2)
  generalize upd H1 p2 (.tup [.int ((d / 5 / 4096 : Nat) : Int), .int ((d / 5 % 4096 : Nat) : Int)]) = H2 at L2'
  have hkind : d % 5 < 5 := Nat.mod_lt _ (by decide)
  have hm2 : ∀ y : Str, y ≠ "rest" → y ≠ "kind" → y ≠ "c" → y ≠ "spot" → setL (setL (setL (setL m "rest" (.int ((d / 5 : Nat) : Int))) "kind" (.int ((d % 5 : Nat) : Int))) "c" (.int ((d / 5 / 4096 : Nat) : Int))) "spot" (.int ((d / 5 % 4096 : Nat) : Int)) y = m y := fun y h1 h2 h3 h4 => by
    unfold setL
    rw [if_neg h4, if_neg h3, if_neg h2, if_neg h1]
  have hkd2 : setL (setL (setL (setL m "rest" (.int ((d / 5 : Nat) : Int))) "kind" (.int ((d % 5 : Nat) : Int))) "c" (.int ((d / 5 / 4096 : Nat) : Int))) "spot" (.int ((d / 5 % 4096 : Nat) : Int)) "kind" = some (.int ((d % 5 : Nat) : Int)) := by walk_at "lk"
  have hc2 : setL (setL (setL (setL m "rest" (.int ((d / 5 : Nat) : Int))) "kind" (.int ((d % 5 : Nat) : Int))) "c" (.int ((d / 5 / 4096 : Nat) : Int))) "spot" (.int ((d / 5 % 4096 : Nat) : Int)) "c" = some (.int ((d / 5 / 4096 : Nat) : Int)) := by walk_at "lk"
  have hs2 : setL (setL (setL (setL m "rest" (.int ((d / 5 : Nat) : Int))) "kind" (.int ((d % 5 : Nat) : Int))) "c" (.int ((d / 5 / 4096 : Nat) : Int))) "spot" (.int ((d / 5 % 4096 : Nat) : Int)) "spot" = some (.int ((d / 5 % 4096 : Nat) : Int)) := by walk_at "lk"
  have hpl2 := (hm2 "plan" (by decide) (by decide) (by decide) (by decide)).trans hp
  have hbo2 := (hm2 "boxes" (by decide) (by decide) (by decide) (by decide)).trans hb
  have hmo2 := (hm2 "mount" (by decide) (by decide) (by decide) (by decide)).trans hm
  clear hm2
  generalize setL (setL (setL (setL m "rest" (.int ((d / 5 : Nat) : Int))) "kind" (.int ((d % 5 : Nat) : Int))) "c" (.int ((d / 5 / 4096 : Nat) : Int))) "spot" (.int ((d / 5 % 4096 : Nat) : Int)) = m2 at hkd2 hc2 hs2 hpl2 hbo2 hmo2
  generalize d / 5 / 4096 = c at hc2
  generalize hspot : d / 5 % 4096 = spot at hs2
  generalize d % 5 = kind at hkd2 hkind
  -- i = ..
  refine W_Assign ?_ (stor (by rfl)) (by rfl)
  refine WV_cut (fun v m3 H3 => ∃ i : Nat, v = .int i ∧ isDAt plan i = true ∧ m2 = m3 ∧ H2 = H3) ?_ ?_
  · have i0 : ∀ {n : Nat} {p : Pos}, WV k (eval (.Constant (.int 0) n p) k.env) m2 H2 fun v m3 H3 => ∃ i : Nat, v = .int i ∧ isDAt plan i = true ∧ m2 = m3 ∧ H2 = H3 := fun {n p} => W_int ⟨0, rfl, F.row0, rfl, rfl⟩
    refine W_IfExp ?_
    refine WT_And ?_
    refine W_allTrue_and ?_
    refine WT_Compare ?_
    refine W_Name hc2 ?_
    refine W_CallB gLen (kindS (by rfl)) ?_
    refine WItems_cons ?_
    refine W_Name hpl2 ?_
    refine WItems_nil ?_
    refine WCall_lenL L2'.P.list (by simp; lia) ?_
    refine WCmp_lt ?_
    refine WTr_bool ?_
    rw [List.length_map, hral]
    by_cases hcl : c < plan.length
    · rw [decide_eq_true (by lia)]
      refine iteT ?_
      obtain ⟨rc, hrc⟩ : ∃ r, plan[c]? = some r := ⟨_, List.getElem?_eq_getElem hcl⟩
      obtain ⟨ac, hac, hrow⟩ := L2'.P.row c _ hrc
      refine W_allTrue_and ?_
      refine WT_plain ?_
      refine W_CallB gIsi (kindS (by rfl)) ?_
      refine WItems_cons ?_
      refine W_Subscript ?_
      refine W_Name hpl2 ?_
      refine W_Name hc2 ?_
      refine WSub_list (v := .ref ac) L2'.P.list (by lia) (by lia) (by rw [List.getElem?_map, Int.toNat_natCast, hac]; rfl) ?_
      refine WItems_cons ?_
      refine W_NameG gDict (kindS (by rfl)) ?_
      refine WItems_nil ?_
      refine WCall_isi (T := "dict") (by rw [tyOf_row hrow]; simp) (by simp) ?_
      refine WTr_bool ?_
      rw [isD_row hrc hrow]
      cases hD : isDAt plan c with
      | true => exact iteT (W_allTrue_nilA (iteT (W_Name hc2 ⟨c, rfl, hD, rfl, rfl⟩)))
      | false => exact iteF (iteF i0)
    · rw [decide_eq_false (by lia)]
      exact iteF (iteF i0)
  rintro _ _ _ ⟨i, rfl, hi, rfl, rfl⟩
  refine contQ_next (W_cons' ?_)
  -- r = ..
  refine W_Assign ?_ (stor (by rfl)) (by rfl)
  refine WV_cut (fun v m3 H3 => ∃ r : Nat, v = .int r ∧ r < plan.length ∧ setL m2 "i" (.int i) = m3 ∧ H2 = H3) ?_ ?_
  · have hr8 : ∀ {p1 p2 p3 p4 p5 : Pos} {n1 n2 : Nat} {QQ : V → Loc → AHeap → Prop}, QQ (.int ((spot / 2 % 8 : Nat) : Int)) (setL m2 "i" (.int i)) H2 → WV k (eval (.BinOp (.BinOp (.Name "spot" p1) .FloorDiv (.Constant (.int 2) n1 p2) p3) .Mod (.Constant (.int 8) n2 p4) p5) k.env) (setL m2 "i" (.int i)) H2 QQ := fun {p1 p2 p3 p4 p5 n1 n2 QQ} hq => by
      refine W_BinOp ?_
      refine W_BinOp ?_
      refine W_Name (by walk_at "lk") ?_
      refine W_int ?_
      refine WBin_fdiv hroom (by decide) ?_
      refine W_int ?_
      refine WBin_mod hroom (by decide) ?_
      rw [show (2 : Int) = ((2 : Nat) : Int) from rfl, (dm spot 2 (by decide)).1, show (8 : Int) = ((8 : Nat) : Int) from rfl, (dm (spot / 2) 8 (by decide)).2]
      exact hq
    refine W_IfExp ?_
    refine WT_Compare ?_
    refine hr8 ?_
    refine W_CallB gLen (kindS (by rfl)) ?_
    refine WItems_cons ?_
    refine W_Name (by walk_at "lk") ?_
    refine WItems_nil ?_
    refine WCall_lenL L2'.P.list (by simp; lia) ?_
    refine WCmp_lt ?_
    refine WTr_bool ?_
    rw [List.length_map, hral]
    by_cases hcl : spot / 2 % 8 < plan.length
    · rw [decide_eq_true (by lia)]
      exact iteT (hr8 ⟨_, rfl, hcl, rfl, rfl⟩)
    · rw [decide_eq_false (by lia)]
      exact iteF (W_int ⟨5, rfl, by lia, rfl, rfl⟩)
  rintro _ _ _ ⟨r, rfl, hr, rfl, rfl⟩
  refine contQ_next (W_cons' ?_)
  have hpl3 : setL (setL m2 "i" (.int i)) "r" (.int r) "plan" = some (.ref pa) := by walk_at "lk"
  have hbo3 : setL (setL m2 "i" (.int i)) "r" (.int r) "boxes" = some (.ref ba) := by walk_at "lk"
  have hmo3 : setL (setL m2 "i" (.int i)) "r" (.int r) "mount" = some (.ref x) := by walk_at "lk"
  have hkd3 : setL (setL m2 "i" (.int i)) "r" (.int r) "kind" = some (.int (kind : Int)) := by walk_at "lk"
  have hs3 : setL (setL m2 "i" (.int i)) "r" (.int r) "spot" = some (.int (spot : Int)) := by walk_at "lk"
  have hi3 : setL (setL m2 "i" (.int i)) "r" (.int r) "i" = some (.int (i : Int)) := by walk_at "lk"
  have hr3 : setL (setL m2 "i" (.int i)) "r" (.int r) "r" = some (.int (r : Int)) := by walk_at "lk"
  generalize setL (setL m2 "i" (.int i)) "r" (.int r) = m3 at hpl3 hbo3 hmo3 hkd3 hs3 hi3 hr3
  have hbl := L2'.X.len
  have hbr : bv[r]? = some (bv.getD r .none) := val_at (by lia)
  -- the deed
  refine W_cut (fun f m' H' => f = .next ∧ ∃ ra' plan' bv', m' "plan" = some (.ref pa) ∧ m' "boxes" = some (.ref ba) ∧ m' "mount" = some (.ref x) ∧ LawAt H' C pa ba x dx ra' plan' bv' ∧ Fit plan' (n + 20)) ?_ ?_
  · refine W_If ?_
    refine WT_Compare ?_
    refine W_Name hkd3 ?_
    refine W_int ?_
    refine WCmp_eq ?_
    refine WTr_bool ?_
    by_cases hk0 : kind = 0
    · rw [decide_eq_true (by lia)]
      refine iteT ?_
      obtain ⟨kvs, hkvs⟩ : ∃ kr, plan[i]? = some (.d kr) := by
        unfold isDAt at hi
        split at hi
        · rename_i kr e; exact ⟨kr, e⟩
        · cases hi
      have hil : i < plan.length := (List.getElem?_eq_some_iff.mp hkvs).1
      have hsm := (F.rows i _ hkvs).small
      simp only [Row.refs, List.length_map] at hsm
      have hput := (F.rows i _ hkvs).put hr (nmOf_ok spot)
      -- plan[i][..] = r
      refine W_cons' ?_
      refine W_AssignSub ?_
      refine W_Name hr3 ?_
      obtain ⟨ai, hai, ⟨ep, hrow⟩, haim⟩ := L2'.P.at hkvs
      refine W_Subscript ?_
      refine W_Name hpl3 ?_
      refine W_Name hi3 ?_
      refine WSub_list (v := .ref ai) L2'.P.list (by lia) (by lia) (by rw [List.getElem?_map, Int.toNat_natCast, hai]; rfl) ?_
      refine L2.nameOf hroom hs3 fun q1 t1 tk1 hq1 => ?_
      have L3 := (L2'.ext (Ext.upd (x := t1) hq1)).lm
      refine WSet_dict (upd_fresh hq1 hrow) (key := .inr (nmOf spot)) (by simp [isKV]) (by simp only [rowD, List.length_map]; rw [show sizeLine = _ from sizeLine_eq]; lia) ?_
      rw [putS_rowD]
      have L4 := L3.setPlan hkvs hai (y := .dict (rowD (putS kvs (nmOf spot) r)) (epK (rowD kvs) (.inr (nmOf spot)) ep)) (r' := .d (putS kvs (nmOf spot) r)) ⟨_, upd_same⟩
      generalize upd (upd H2 q1 t1) ai (.dict (rowD (putS kvs (nmOf spot) r)) (epK (rowD kvs) (.inr (nmOf spot)) ep)) = H4 at L4
      -- boxes[i][..] = boxes[r]
      obtain ⟨bi, hbi, cont, epb, rfl, hcont⟩ := L4.X.row i _ hkvs
      refine contQ_next (W_cons' ?_)
      refine W_AssignSub ?_
      refine W_Subscript ?_
      refine W_Name hbo3 ?_
      refine W_Name hr3 ?_
      have hB4 := L4.B
      rw [List.take_length] at hB4
      refine WSub_list hB4 (by lia) (by lia) (by rw [Int.toNat_natCast]; exact hbr) ?_
      refine W_Subscript ?_
      refine W_Name hbo3 ?_
      refine W_Name hi3 ?_
      refine WSub_list hB4 (by lia) (by lia) (by rw [Int.toNat_natCast]; exact hbi) ?_
      refine L2.nameOf hroom hs3 fun q2 t2 tk2 hq2 => ?_
      have L5 := L4.ext (Ext.upd (x := t2) hq2)
      refine WSet_dict (upd_fresh hq2 hcont) (key := .inr (nmOf spot)) (by simp [isKV]) (by rw [boxD_len, show sizeLine = _ from sizeLine_eq]; lia) ?_
      rw [putS_boxD]
      have L6 := L5.setBox F.closed (r := .d (putS kvs (nmOf spot) r)) (y := .dict (boxD bv (putS kvs (nmOf spot) r)) (epK (boxD bv kvs) (.inr (nmOf spot)) epb)) hil hbi (upd_fresh hq2 hcont) (by simp) (by simp) ⟨cont, _, rfl, upd_same⟩ (by simp)
      have F6 := (F.set (n' := n + 1) hkvs rfl hput (by lia)).mono (show n + 1 ≤ n + 20 by lia)
      exact contQ_next (W_nil ⟨rfl, ra, _, bv, hpl3, hbo3, hmo3, L6.law (by rw [List.length_set]; exact hbl) F6, F6⟩)
    · rw [decide_eq_false (by lia)]
      refine iteF ?_
      refine W_cons' ?_
      refine W_If ?_
      refine WT_Compare ?_
      refine W_Name hkd3 ?_
      refine W_int ?_
      refine WCmp_eq ?_
      refine WTr_bool ?_
      by_cases hk1 : kind = 1
      · rw [decide_eq_true (by lia)]
        refine iteT ?_
        obtain ⟨xs, hxs⟩ : ∃ xs, plan[3 + spot % 2]? = some (.l xs) := by
          rcases Nat.mod_two_eq_zero_or_one spot with e | e
          · rw [e]; exact F.row3
          · rw [e]; exact F.row4
        have hsm := (F.rows _ _ hxs).small
        simp only [Row.refs] at hsm
        have hil : 3 + spot % 2 < plan.length := (List.getElem?_eq_some_iff.mp hxs).1
        have hadd : (3 : Int) + ((spot % 2 : Nat) : Int) = ((3 + spot % 2 : Nat) : Int) := by lia
        -- plan[3 + spot % 2].append(r)
        obtain ⟨aj, haj, hrowj, hajm⟩ := L2'.P.at hxs
        have hrowj : H2 aj = some (.list (rowL xs)) := hrowj
        refine W_cons' ?_
        refine W_ExprStmt ?_
        refine W_CallM' PySem.F.plainAttrs_list PySem.F.slot_list_append PySem.F.type_list_append ?_
        refine W_Subscript ?_
        refine W_Name hpl3 ?_
        refine W_BinOp ?_
        refine W_int ?_
        refine W_BinOp ?_
        refine W_Name hs3 ?_
        refine W_int ?_
        refine WBin_mod hroom (by decide) ?_
        refine WBin_add ?_
        rw [spotMod, hadd]
        refine WSub_list (v := .ref aj) L2'.P.list (by lia) (by lia) (by rw [List.getElem?_map, Int.toNat_natCast, haj]; rfl) ?_
        refine ⟨onList hrowj, ?_⟩
        refine WItems_cons ?_
        refine W_Name hr3 ?_
        refine WItems_nil ?_
        refine WCall_append hrowj (by simp only [rowL, List.length_map]; rw [show sizeLine = _ from sizeLine_eq]; lia) ?_
        rw [rowL_snoc]
        have L4 := L2'.lm.setPlan hxs haj (y := .list (rowL (xs ++ [r]))) (r' := .l (xs ++ [r])) upd_same
        generalize upd H2 aj (.list (rowL (xs ++ [r]))) = H4 at L4
        -- boxes[3 + spot % 2].append(boxes[r])
        obtain ⟨bi, hbi, cont, rfl, hcont⟩ := L4.X.row _ _ hxs
        have hB4 := L4.B
        rw [List.take_length] at hB4
        refine contQ_next (W_cons' ?_)
        refine W_ExprStmt ?_
        refine W_CallM' PySem.F.plainAttrs_list PySem.F.slot_list_append PySem.F.type_list_append ?_
        refine W_Subscript ?_
        refine W_Name hbo3 ?_
        refine W_BinOp ?_
        refine W_int ?_
        refine W_BinOp ?_
        refine W_Name hs3 ?_
        refine W_int ?_
        refine WBin_mod hroom (by decide) ?_
        refine WBin_add ?_
        rw [spotMod, hadd]
        refine WSub_list (v := .ref cont) hB4 (by lia) (by lia) (by rw [Int.toNat_natCast]; exact hbi) ?_
        refine ⟨onList hcont, ?_⟩
        refine WItems_cons ?_
        refine W_Subscript ?_
        refine W_Name hbo3 ?_
        refine W_Name hr3 ?_
        refine WSub_list hB4 (by lia) (by lia) (by rw [Int.toNat_natCast]; exact hbr) ?_
        refine WItems_nil ?_
        refine WCall_append hcont (by simp only [boxL, List.length_map]; rw [show sizeLine = _ from sizeLine_eq]; lia) ?_
        rw [← boxL_snoc']
        have L6 := L4.setBox F.closed (r := .l (xs ++ [r])) (y := .list (boxL bv (xs ++ [r]))) hil hbi hcont (by simp) (by simp) ⟨cont, rfl, upd_same⟩ (by simp)
        have F6 := (F.set (n' := n + 1) hxs rfl ((F.rows _ _ hxs).snocL (Nat.le_refl _) (Nat.le_refl _) hr) (by lia)).mono (show n + 1 ≤ n + 20 by lia)
        exact contQ_next (W_nil (contQ_next (W_nil ⟨rfl, ra, _, bv, hpl3, hbo3, hmo3, L6.law (by rw [List.length_set]; exact hbl) F6, F6⟩)))
      · rw [decide_eq_false (by lia)]
        refine iteF ?_
        refine L2.key_ok G hh hroom hs3 fun m4 H4 kt keys hm4 hkey hkt hok hkl hE => ?_
        refine L2.deed_ok (n := n) (kind := (kind : Int)) (P := fun _ _ => True) D hA hA' (by lia) (L2'.ext hE) F hn hi ((hm4 _ (by decide) (by decide) (by decide)).trans hpl3) ((hm4 _ (by decide) (by decide) (by decide)).trans hbo3) ((hm4 _ (by decide) (by decide) (by decide)).trans hmo3) ((hm4 _ (by decide) (by decide) (by decide)).trans hkd3) ((hm4 _ (by decide) (by decide) (by decide)).trans hi3) hkey hkt hok hkl ?_
        intro m' H' ra' plan' bv' h1 h2 h3 LL FF
        exact contQ_next (W_nil ⟨rfl, ra', plan', bv', h1, h2, h3, LL, FF⟩)
  rintro _ m' H' ⟨rfl, ra', plan', bv', hp', hb', hm', L', F'⟩
  have hn' : n + 20 ≤ 4000 := by lia
  -- due = [..]
  have hun2 : k.A.units + 64 < cLine := Nat.lt_of_le_of_lt (m := 2070) (by lia) (by decide)
  have hPOK := F'.ok hn'
  refine contQ_next (W_cons' ?_)
  refine L2.comp_ok G hh hp' L'.P hPOK F'.rowsOK fun a H5 hE5 hR5 => ?_
  have L5 := L'.ext hE5
  -- _law_seen(boxes) != due
  obtain ⟨foS, fdS, hfS, hdS⟩ := D.seen.obj
  refine contQ_next (W_cons' ?_)
  refine W_If ?_
  refine WT_Compare ?_
  refine W_CallF D.gSeen (kindS (by rfl)) hfS hdS ?_
  refine WItems_cons ?_
  refine W_Name (by walk_at "lk") ?_
  refine WItems_nil ?_
  refine FnV.mono (L2.seen_ok G D.seen hA L5.B L5.X hPOK) ?_ (fun _ _ _ q => q.elim)
  rintro v H6 ⟨hE6, hR6⟩
  refine W_Name setL_same ?_
  refine WCmp_neD (r := false) hR6 (Rd.ext hE6 _ _ hR5) (good_seen F'.rowsOK) (good_seen F'.rowsOK) (Nat.le_trans (Nat.min_le_left _ _) (Nat.le_trans (depth_seen plan') (by decide))) hun2 (by simp) ?_
  refine WTr_bool (iteF (W_nil (contQ_next (W_nil ?_))))
  exact h _ H6 ra' plan' bv' (by walk_at "lk") (by walk_at "lk") (by walk_at "lk") (L5.ext hE6) F'
end
section
theorem upd_eq_none {H : AHeap} {a b : Addr} {x : AObj} : upd H a x b = none ↔ b ≠ a ∧ H b = none := by
  unfold upd
  by_cases h : b = a
  · simp [h]
  · simp [h]
theorem WPairs_nil {k : Wk} {m : Loc} {H : AHeap} {Q : List (V × V) → Loc → AHeap → Prop} (h : Q [] m H) : WPairs k [] [] m H Q := h
theorem WPairs_cons {k : Wk} {m : Loc} {H : AHeap} {ke ve : Expr} {ks : List (Option Expr)} {vs : List Expr} {Q : List (V × V) → Loc → AHeap → Prop} (h : WV k (eval ke k.env) m H fun kv m1 H1 => WV k (eval ve k.env) m1 H1 fun vv m2 H2 => WPairs k ks vs m2 H2 fun ps => Q ((kv, vv) :: ps)) : WPairs k (some ke :: ks) (ve :: vs) m H Q := h
theorem swaps_List {es : List Expr} {p : Pos} {t : Option Expr} {n : Nat} {env : Env} : swapsWith (.List es p) t n env = pure false := rfl
noncomputable def L2.plan0 : List Row := [.d [("a", 1), ("", 4)], .d [("", 3)], .d [("a", 0)], .l [2], .l [], .t [2], .t []]
set_option maxHeartbeats 1000000 in
theorem L2.plan_ok {k : Wk} {m : Loc} {H : AHeap} {Q : Flow → Loc → AHeap → Prop} {S : Stmt} [sv : SEnv k (fnScope L2.fLaw) (cellNames (fnScope L2.fLaw).names)]
    (hS : S = stm (fnBody L2.fLaw) 0) (h : ∀ H' pa ra, PlanAt H' pa ra L2.plan0 → ra.Nodup → pa ∉ ra → Q .next (setL m "plan" (.ref pa)) H') : W k (exec S k.env) m H Q := by
  subst hS
  refine W_Assign ?_ ?h0 ?h2
  case h0 => exact stor rfl
  case h2 => exact swaps_List
  refine W_List ?_
  refine WItems_cons ?_
  refine W_Dict ?_
  refine WPairs_cons ?_
  refine W_str fun t1 _ => ?_
  refine W_int ?_
  refine WPairs_cons ?_
  refine W_str fun t2 _ => ?_
  refine W_int ?_
  refine WPairs_nil ⟨[(.inr "a", .int 1), (.inr "", .int 4)], ⟨by simp [isKV], rfl, by simp [isKV], rfl, trivial⟩, fun a0 e0 h0 => ?_⟩
  refine WItems_cons ?_
  refine W_Dict ?_
  refine WPairs_cons ?_
  refine W_str fun t3 _ => ?_
  refine W_int ?_
  refine WPairs_nil ⟨[(.inr "", .int 3)], ⟨by simp [isKV], rfl, trivial⟩, fun a1 e1 h1 => ?_⟩
  refine WItems_cons ?_
  refine W_Dict ?_
  refine WPairs_cons ?_
  refine W_str fun t4 _ => ?_
  refine W_int ?_
  refine WPairs_nil ⟨[(.inr "a", .int 0)], ⟨by simp [isKV], rfl, trivial⟩, fun a2 e2 h2 => ?_⟩
  refine WItems_cons ?_
  refine W_List ?_
  refine WItems_cons ?_
  refine W_int ?_
  refine WItems_nil ⟨by simp [sizeLine], fun a3 h3 => ?_⟩
  refine WItems_cons ?_
  refine W_List ?_
  refine WItems_nil ⟨by simp [sizeLine], fun a4 h4 => ?_⟩
  refine WItems_cons ?_
  refine W_Tuple ?_
  refine WItems_cons ?_
  refine W_int ?_
  refine WItems_nil ⟨by simp [sizeLine], fun a5 h5 => ?_⟩
  refine WItems_cons ?_
  refine W_Tuple ?_
  refine WItems_nil ⟨by simp [sizeLine], fun a6 h6 => ?_⟩
  refine WItems_nil ⟨by simp [sizeLine], fun pa hpa => ?_⟩
  have q0 : putAll [] [((.inr "a" : Key), V.int 1), (.inr "", .int 4)] = rowD [("a", 1), ("", 4)] := by decide +kernel
  have q1 : putAll [] [((.inr "" : Key), V.int 3)] = rowD [("", 3)] := by decide +kernel
  have q2 : putAll [] [((.inr "a" : Key), V.int 0)] = rowD [("a", 0)] := by decide +kernel
  rw [q0] at h1 h2 h3 h4 h5 h6 hpa ⊢
  rw [q1] at h2 h3 h4 h5 h6 hpa ⊢
  rw [q2] at h3 h4 h5 h6 hpa ⊢
  refine h _ pa [a0, a1, a2, a3, a4, a5, a6] ⟨upd_same, rfl, fun i r e => ?_⟩ ?_ ?_
  · rcases i with _ | _ | _ | _ | _ | _ | _ | i
    · cases e; exact ⟨a0, rfl, e0, by walk_at "hp"⟩
    · cases e; exact ⟨a1, rfl, e1, by walk_at "hp"⟩
    · cases e; exact ⟨a2, rfl, e2, by walk_at "hp"⟩
    · cases e; exact ⟨a3, rfl, show _ = some (AObj.list [.int 2]) by walk_at "hp"⟩
    · cases e; exact ⟨a4, rfl, show _ = some (AObj.list []) by walk_at "hp"⟩
    · cases e; exact ⟨a5, rfl, show _ = some (AObj.tup [.int 2]) by walk_at "hp"⟩
    · cases e; exact ⟨a6, rfl, show _ = some (AObj.tup []) by walk_at "hp"⟩
    · simp [L2.plan0] at e
  · simp only [upd_eq_none] at h1 h2 h3 h4 h5 h6
    clear h q0 q1 q2 sv
    grind
  · simp only [upd_eq_none] at h1 h2 h3 h4 h5 h6 hpa
    obtain ⟨n6, n5, n4, n3, n2, n1, n0, _⟩ := hpa
    simp only [List.mem_cons, List.not_mem_nil, or_false, not_or]
    exact ⟨n0, n1, n2, n3, n4, n5, n6⟩
end
section
noncomputable def L2.planI : List Row := [.d [], .d [], .d [], .l [], .l [], .t [2], .t []]
set_option maxHeartbeats 4000000 in
theorem L2.boxes_ok {k : Wk} {m : Loc} {H : AHeap} {pa : Addr} {ra : List Addr} {C fI fG fA : Addr} {Q : Flow → Loc → AHeap → Prop} {r : List Stmt} {S1 S2 S3 : Stmt} [sv : SEnv k (fnScope L2.fLaw) (cellNames (fnScope L2.fLaw).names)]
    (hS1 : S1 = stm (fnBody L2.fLaw) 1) (hS2 : S2 = stm (fnBody L2.fLaw) 2) (hS3 : S3 = stm (fnBody L2.fLaw) 3) (N : NestAt k.c C fI fG fA L2.cls) (gC : Gl k.c "NestedDict" (.ref C)) (hA : Room k.A) (hA' : k.A.depth ≤ 500 ∧ k.A.units ≤ 1500) (P : PlanAt H pa ra L2.plan0) (hn : ra.Nodup) (hpr : pa ∉ ra) (hp : m "plan" = some (.ref pa))
    (h : ∀ m' H' ba x dx bv, (∀ y : Str, y ≠ "boxes" → y ≠ "mount" → m' y = m y) → m' "boxes" = some (.ref ba) → m' "mount" = some (.ref x) → LM H' C pa ba x dx ra L2.plan0 bv 7 L2.planI → W k (execs r k.env) m' H' Q) :
    W k (execs (S1 :: S2 :: S3 :: r) k.env) m H Q := by
  subst hS1; subst hS2; subst hS3
  refine W_cons' ?_
  refine W_Assign ?_ ?h0 ?h2
  case h0 => exact stor rfl
  case h2 => exact swaps_List
  refine W_List ?_
  refine WItems_cons ?_
  refine W_Dict0 fun b0 h0 => ?_
  refine WItems_cons ?_
  refine W_Dict0 fun b1 h1 => ?_
  refine WItems_cons ?_
  refine W_Dict0 fun b2 h2 => ?_
  refine WItems_cons ?_
  refine W_List ?_
  refine WItems_nil ⟨by simp [sizeLine], fun b3 h3 => ?_⟩
  refine WItems_cons ?_
  refine W_List ?_
  refine WItems_nil ⟨by simp [sizeLine], fun b4 h4 => ?_⟩
  refine WItems_nil ⟨by simp [sizeLine], fun ba hba => ?_⟩
  -- boxes += ..
  refine contQ_next (W_cons' ?_)
  refine W_Aug (old := .ref ba) setL_same ?_ ?h3
  case h3 => exact stor rfl
  refine W_List ?_
  refine WItems_cons ?_
  refine W_Tuple ?_
  refine WItems_cons ?_
  refine W_Subscript ?_
  refine W_Name setL_same ?_
  refine W_int ?_
  refine WSub_list (v := .ref b2) upd_same (by decide) (by decide) (by rfl) ?_
  refine WItems_nil ⟨by simp [sizeLine], fun b5 h5 => ?_⟩
  refine WItems_cons ?_
  refine W_str fun t6 ht6 => ?_
  refine WItems_nil ⟨by simp [sizeLine], fun bx hbx => ?_⟩
  refine WInpl_addL (upd_fresh hbx (upd_fresh h5 upd_same)) upd_same (by simp [sizeLine]) ?_
  -- mount = NestedDict()
  refine contQ_next (W_cons' ?_)
  refine W_Assign ?_ ?h4 (by rfl)
  case h4 => exact stor rfl
  refine W_NewCls N.kls gC ?h5 fun x dx hx hdx hxd => ?_
  case h5 => exact kindS rfl
  refine Fn.mono (L2.init_ok N.kls N.init (A := k.A.under (.builtin "type.__call__" ⟨[.ref C], []⟩)) ?_ upd_same (upd_ne (fun q => hxd q.symm) upd_same) _ _ rfl rfl) ?_ fun _ _ _ q => q.elim
  · have hw : (Code.builtin "type.__call__" ⟨[.ref C], []⟩).weight ≤ 50 := (show (Code.builtin "type.__call__" ⟨[.ref 0], []⟩).weight ≤ 50 by decide)
    have hu : (Code.builtin "type.__call__" ⟨[.ref C], []⟩).cUnits ≤ 50 := (show (Code.builtin "type.__call__" ⟨[.ref 0], []⟩).cUnits ≤ 50 by decide)
    exact ⟨by show k.A.depth + _ ≤ 600; lia, by show k.A.units + _ ≤ 2000; lia, hA.handled⟩
  rintro v H' ⟨rfl, d, hd, rfl⟩
  refine ⟨rfl, ?_⟩
  refine contQ_next ?_
  refine h _ _ ba x dx [.ref b0, .ref b1, .ref b2, .ref b3, .ref b4, .ref b5, .str "a" t6] ?_ ?_ ?_ ?_
  · intro y n1 n2
    unfold setL
    rw [if_neg n2, if_neg n1, if_neg n1]
  · walk_at "lk"
  · walk_at "lk"
  · rw [List.cons_append, List.cons_append, List.cons_append, List.cons_append, List.cons_append, List.nil_append] at *
    simp only [upd_eq_none] at h1 h2 h3 h4 hba h5 hbx hx hdx hd
    obtain ⟨p10, f1⟩ := h1
    obtain ⟨p21, p20, f2⟩ := h2
    obtain ⟨p32, p31, p30, f3⟩ := h3
    obtain ⟨p43, p42, p41, p40, f4⟩ := h4
    obtain ⟨pa4, pa3, pa2, pa1, pa0, fa⟩ := hba
    obtain ⟨p5a, p54, p53, p52, p51, p50, f5⟩ := h5
    obtain ⟨px5, pxa, px4, px3, px2, px1, px0, fx⟩ := hbx
    obtain ⟨qa, qx, q5, _, q4, q3, q2, q1, q0, fm⟩ := hx
    obtain ⟨ra_, rx, r5, _, r4, r3, r2, r1, r0, fdx⟩ := hdx
    obtain ⟨sx, sdx, sa, sbx, s5, _, s4, s3, s2, s1, s0, fd⟩ := hd
    have keep : ∀ a y, H a = some y → upd (upd (upd (upd (upd (upd (upd (upd (upd (upd (upd (upd (upd H b0 (.dict [] 0)) b1 (.dict [] 0)) b2 (.dict [] 0)) b3 (.list [])) b4 (.list [])) ba (.list [.ref b0, .ref b1, .ref b2, .ref b3, .ref b4])) b5 (.tup [.ref b2])) bx (.list [.ref b5, .str "a" t6])) ba (.list [.ref b0, .ref b1, .ref b2, .ref b3, .ref b4, .ref b5, .str "a" t6])) dx .attrs0) x (.inst C dx)) d (.dict [] 0)) dx (.attrs (.ref d)) a = some y := fun a y e => by
      have ne : ∀ n, H n = none → a ≠ n := fun n hn q => by rw [q, hn] at e; cases e
      exact upd_ne (ne _ fdx) (upd_ne (ne _ fd) (upd_ne (ne _ fm) (upd_ne (ne _ fdx) (upd_ne (ne _ fa) (upd_ne (ne _ fx) (upd_ne (ne _ f5) (upd_ne (ne _ fa) (upd_ne (ne _ f4) (upd_ne (ne _ f3) (upd_ne (ne _ f2) (upd_ne (ne _ f1) (upd_ne (ne _ h0) e))))))))))))
    have raS : ∀ a ∈ ra, ∃ y, H a = some y := fun a ha => by
      obtain ⟨i, hi⟩ := List.mem_iff_getElem?.mp ha
      have hil : i < L2.plan0.length := by rw [← P.len]; exact (List.getElem?_eq_some_iff.mp hi).1
      obtain ⟨a', h1, h2⟩ := P.row i _ (List.getElem?_eq_getElem hil)
      rw [hi] at h1
      obtain rfl := Option.some.inj h1
      obtain ⟨z, hz, _⟩ := h2.some
      exact ⟨z, hz⟩
    have bvN : ∀ a, V.ref a ∈ ([.ref b0, .ref b1, .ref b2, .ref b3, .ref b4, .ref b5, .str "a" t6] : List V) → H a = none := fun a ha => by
      simp only [List.mem_cons, V.ref.injEq, List.not_mem_nil, or_false, reduceCtorEq] at ha
      rcases ha with rfl | rfl | rfl | rfl | rfl | rfl
      · exact h0
      · exact f1
      · exact f2
      · exact f3
      · exact f4
      · exact f5
    have hnod : ([.ref b0, .ref b1, .ref b2, .ref b3, .ref b4, .ref b5, .str "a" t6] : List V).Nodup := by
      simp only [List.nodup_cons, List.mem_cons, V.ref.injEq, List.not_mem_nil, or_false, reduceCtorEq, not_or, not_false_eq_true, and_true, List.nodup_nil]
      grind
    refine ⟨⟨keep _ _ P.list, P.len, fun i r e => ?_⟩, show _ = some (AObj.list [.ref b0, .ref b1, .ref b2, .ref b3, .ref b4, .ref b5, .str "a" t6]) by walk_at "hp", ⟨rfl, fun i r e => ?_, fun i j a hi hj => ?_, fun i y t e => ?_, ⟨t6, rfl⟩, fun i xs e => ?_⟩, by walk_at "hp", ⟨d, upd_same⟩, hn, ?_, hpr, ?_, ?_, ?_, ?_⟩
    · obtain ⟨a, h1, h2⟩ := P.row i r e
      refine ⟨a, h1, ?_⟩
      cases r with
      | d kvs => obtain ⟨ep, e⟩ := h2; exact ⟨ep, keep _ _ e⟩
      | l xs => exact keep _ _ h2
      | t xs => exact keep _ _ h2
    · rcases i with _ | _ | _ | _ | _ | _ | _ | i
      · cases e; exact ⟨.ref b0, rfl, b0, 0, rfl, show _ = some (AObj.dict [] 0) by walk_at "hp"⟩
      · cases e; exact ⟨.ref b1, rfl, b1, 0, rfl, show _ = some (AObj.dict [] 0) by walk_at "hp"⟩
      · cases e; exact ⟨.ref b2, rfl, b2, 0, rfl, show _ = some (AObj.dict [] 0) by walk_at "hp"⟩
      · cases e; exact ⟨.ref b3, rfl, b3, rfl, show _ = some (AObj.list []) by walk_at "hp"⟩
      · cases e; exact ⟨.ref b4, rfl, b4, rfl, show _ = some (AObj.list []) by walk_at "hp"⟩
      · cases e; exact ⟨.ref b5, rfl, .inl ⟨b5, rfl, show _ = some (AObj.tup [.ref b2]) by walk_at "hp"⟩⟩
      · cases e; exact ⟨.str "a" t6, rfl, .inr ⟨t6, ht6, rfl, rfl⟩⟩
      · simp [L2.planI] at e
    · exact (List.getElem?_inj (List.getElem?_eq_some_iff.mp hi).1 hnod).mp (hi.trans hj.symm)
    · rcases i with _ | _ | _ | _ | _ | _ | _ | i <;> first | rfl | (simp at e)
    · rcases i with _ | _ | _ | _ | _ | _ | _ | i
      · cases e
      · cases e
      · cases e
      · cases e
      · cases e
      · exact .inl rfl
      · exact .inr rfl
      · simp [L2.planI] at e
    · intro q; rw [← q, P.list] at fa; cases fa
    · intro q; obtain ⟨y, e⟩ := raS _ q; rw [e] at fa; cases fa
    · intro q; have := bvN _ q; rw [P.list] at this; cases this
    · intro q
      simp only [List.mem_cons, V.ref.injEq, List.not_mem_nil, or_false, reduceCtorEq] at q
      grind
    · intro a ha q
      obtain ⟨y, e⟩ := raS _ ha
      rw [bvN _ q] at e; cases e
theorem L2.body_eq : fnBody L2.fLaw = [stm (fnBody L2.fLaw) 0, stm (fnBody L2.fLaw) 1, stm (fnBody L2.fLaw) 2, stm (fnBody L2.fLaw) 3, stm (fnBody L2.fLaw) 4, stm (fnBody L2.fLaw) 5, stm (fnBody L2.fLaw) 6, stm (fnBody L2.fLaw) 7] := rfl
end
section
noncomputable def L2.ringSteps : List (Nat × Str × Nat) := [(0, "a", 1), (0, "", 4), (1, "", 3), (2, "a", 0)]
noncomputable def L2.planJ : Nat → List Row
  | 0 => L2.planI
  | 1 => [.d [("a", 1)], .d [], .d [], .l [], .l [], .t [2], .t []]
  | 2 => [.d [("a", 1), ("", 4)], .d [], .d [], .l [], .l [], .t [2], .t []]
  | 3 => [.d [("a", 1), ("", 4)], .d [("", 3)], .d [], .l [], .l [], .t [2], .t []]
  | _ => [.d [("a", 1), ("", 4)], .d [("", 3)], .d [("a", 0)], .l [], .l [], .t [2], .t []]
theorem L2.planJ_at {j : Nat} (hj : j < 4) : ∃ kk y r kvs, L2.ringSteps[j]? = some (kk, y, r) ∧ (L2.planJ j)[kk]? = some (.d kvs) ∧ kk < 7 ∧ r < 7 ∧ kvs.length ≤ 2 ∧ (L2.planJ j).length = 7 ∧ L2.planJ (j + 1) = (L2.planJ j).set kk (.d (putS kvs y r)) := by
  rcases j with _ | _ | _ | _ | j
  · exact ⟨0, "a", 1, [], rfl, rfl, by decide, by decide, by decide, rfl, rfl⟩
  · exact ⟨0, "", 4, [("a", 1)], rfl, rfl, by decide, by decide, by decide, rfl, rfl⟩
  · exact ⟨1, "", 3, [], rfl, rfl, by decide, by decide, by decide, rfl, rfl⟩
  · exact ⟨2, "a", 0, [], rfl, rfl, by decide, by decide, by decide, rfl, rfl⟩
  · lia
theorem L2.planJ_closed {j : Nat} (hj : j ≤ 4) : Closed (L2.planJ j) := by
  have aux : ∀ p : List Row, (p.all fun r => r.refs.all fun j => decide (j < p.length)) = true → Closed p := fun p h i r e j hj => by
    have h1 := List.all_eq_true.mp h r (List.mem_of_getElem? e)
    exact of_decide_eq_true (List.all_eq_true.mp h1 j hj)
  rcases j with _ | _ | _ | _ | _ | j
  · exact aux _ (by decide +kernel)
  · exact aux _ (by decide +kernel)
  · exact aux _ (by decide +kernel)
  · exact aux _ (by decide +kernel)
  · exact aux _ (by decide +kernel)
  · lia
theorem L2.ring_ok {k : Wk} {m : Loc} {H : AHeap} {C pa ba x dx : Addr} {ra : List Addr} {bv : List V} {Q : Flow → Loc → AHeap → Prop} {S : Stmt} [sv : SEnv k (fnScope L2.fLaw) (cellNames (fnScope L2.fLaw).names)] (hS : S = stm (fnBody L2.fLaw) 4) (hh : k.A.handled = none)
    (L : LM H C pa ba x dx ra L2.plan0 bv 7 L2.planI) (hb : m "boxes" = some (.ref ba))
    (h : ∀ m' H', (∀ y : Str, y ≠ "k" → y ≠ "name" → y ≠ "r" → m' y = m y) → LM H' C pa ba x dx ra L2.plan0 bv 7 (L2.planJ 4) → Q .next m' H') :
    W k (exec S k.env) m H Q := by
  subst hS
  refine W_For ?_
  refine W_Tuple ?_
  refine WItems_cons ?_
  refine W_Tuple ?_
  refine WItems_cons ?_
  refine W_int ?_
  refine WItems_cons ?_
  refine W_str fun t0 _ => ?_
  refine WItems_cons ?_
  refine W_int ?_
  refine WItems_nil ⟨by simp [sizeLine], fun q0 h0 => ?_⟩
  refine WItems_cons ?_
  refine W_Tuple ?_
  refine WItems_cons ?_
  refine W_int ?_
  refine WItems_cons ?_
  refine W_str fun t1 _ => ?_
  refine WItems_cons ?_
  refine W_int ?_
  refine WItems_nil ⟨by simp [sizeLine], fun q1 h1 => ?_⟩
  refine WItems_cons ?_
  refine W_Tuple ?_
  refine WItems_cons ?_
  refine W_int ?_
  refine WItems_cons ?_
  refine W_str fun t2 _ => ?_
  refine WItems_cons ?_
  refine W_int ?_
  refine WItems_nil ⟨by simp [sizeLine], fun q2 h2 => ?_⟩
  refine WItems_cons ?_
  refine W_Tuple ?_
  refine WItems_cons ?_
  refine W_int ?_
  refine WItems_cons ?_
  refine W_str fun t3 _ => ?_
  refine WItems_cons ?_
  refine W_int ?_
  refine WItems_nil ⟨by simp [sizeLine], fun q3 h3 => ?_⟩
  refine WItems_nil ⟨by simp [sizeLine], fun qt ht => ?_⟩
  have L0 := ((((L.ext (Ext.upd (x := .tup [.int 0, .str "a" t0, .int 1]) h0)).ext (Ext.upd (x := .tup [.int 0, .str "" t1, .int 4]) h1)).ext (Ext.upd (x := .tup [.int 1, .str "" t2, .int 3]) h2)).ext (Ext.upd (x := .tup [.int 2, .str "a" t3, .int 0]) h3)).ext (Ext.upd (x := .tup [.ref q0, .ref q1, .ref q2, .ref q3]) ht)
  have e4 : upd (upd (upd (upd (upd H q0 (.tup [.int 0, .str "a" t0, .int 1])) q1 (.tup [.int 0, .str "" t1, .int 4])) q2 (.tup [.int 1, .str "" t2, .int 3])) q3 (.tup [.int 2, .str "a" t3, .int 0])) qt (.tup [.ref q0, .ref q1, .ref q2, .ref q3]) qt = some (.tup [.ref q0, .ref q1, .ref q2, .ref q3]) := upd_same
  have hin : ∀ (j : Nat) v, ([.ref q0, .ref q1, .ref q2, .ref q3] : List V)[j]? = some v → ∃ a kk y tk r, v = .ref a ∧ L2.ringSteps[j]? = some (kk, y, r) ∧ upd (upd (upd (upd (upd H q0 (.tup [.int 0, .str "a" t0, .int 1])) q1 (.tup [.int 0, .str "" t1, .int 4])) q2 (.tup [.int 1, .str "" t2, .int 3])) q3 (.tup [.int 2, .str "a" t3, .int 0])) qt (.tup [.ref q0, .ref q1, .ref q2, .ref q3]) a = some (.tup [.int (kk : Nat), .str y tk, .int (r : Nat)]) := by
    intro j v e
    rcases j with _ | _ | _ | _ | j
    · cases e; exact ⟨q0, 0, "a", t0, 1, rfl, rfl, show _ = some (AObj.tup [.int 0, .str "a" t0, .int 1]) by walk_at "hp"⟩
    · cases e; exact ⟨q1, 0, "", t1, 4, rfl, rfl, show _ = some (AObj.tup [.int 0, .str "" t1, .int 4]) by walk_at "hp"⟩
    · cases e; exact ⟨q2, 1, "", t2, 3, rfl, rfl, show _ = some (AObj.tup [.int 1, .str "" t2, .int 3]) by walk_at "hp"⟩
    · cases e; exact ⟨q3, 2, "a", t3, 0, rfl, rfl, show _ = some (AObj.tup [.int 2, .str "a" t3, .int 0]) by walk_at "hp"⟩
    · simp at e
  generalize upd (upd (upd (upd (upd H q0 (.tup [.int 0, .str "a" t0, .int 1])) q1 (.tup [.int 0, .str "" t1, .int 4])) q2 (.tup [.int 1, .str "" t2, .int 3])) q3 (.tup [.int 2, .str "a" t3, .int 0])) qt (.tup [.ref q0, .ref q1, .ref q2, .ref q3]) = H0 at L0 e4 hin
  refine ⟨_, _, _, fun j m' H' => (∀ y : Str, y ≠ "k" → y ≠ "name" → y ≠ "r" → m' y = m y) ∧ LM H' C pa ba x dx ra L2.plan0 bv 7 (L2.planJ j) ∧ KeepT H0 H', WIter_tup hh e4, ⟨fun _ _ _ _ => rfl, L0, KeepT.refl _⟩, fun j m' H' q => q.2.2 _ _ e4, ?_, fun m' H' q => h m' H' q.1 q.2.1⟩
  intro j v m' H' hj hR hg96_6
  refine Mine.hideG fun GG back => ?_
  obtain ⟨hm, LJ, hT⟩ := hg96_6
  have hj4 : j < 4 := hj
  obtain ⟨a, kk, y, tk, r, rfl, hs, ha⟩ := hin j v hR
  obtain ⟨kk', y', r', kvs, s1, s2, s3, s4, s5, s7, s6⟩ := L2.planJ_at hj4
  refine back ?_
  clear back
  rw [hs] at s1
  cases s1
  have hbl : bv.length = 7 := LJ.X.len.trans s7
  have hbm : m' "boxes" = some (.ref ba) := (hm _ (by decide) (by decide) (by decide)).trans hb
  refine Mine.hideG fun GG back => ?_
  obtain ⟨bk, hbk, cont, ep, rfl, hcont⟩ := LJ.X.row kk _ s2
  refine back ?_
  clear back
  have hB := LJ.B
  rw [List.take_of_length_le (by lia)] at hB
  refine WAs_Tup hh (hT _ _ ha) rfl (by rfl) (by simp [assignEach]) ?_
  refine WAsL_cons ?_
  refine WAs_Name (stor (by rfl)) ?_
  refine WAsL_cons ?_
  refine WAs_Name (stor (by rfl)) ?_
  refine WAsL_cons ?_
  refine WAs_Name (stor (by rfl)) ?_
  refine WAsL_nil ?_
  refine W_cons' ?_
  refine W_AssignSub ?_
  refine W_Subscript ?_
  refine W_Name (by walk_at "lk") ?_
  refine W_Name setL_same ?_
  refine WSub_list hB (by lia) (by lia) (by rw [Int.toNat_natCast]; exact val_at (by lia)) ?_
  refine W_Subscript ?_
  refine W_Name (by walk_at "lk") ?_
  refine W_Name (by walk_at "lk") ?_
  refine WSub_list hB (by lia) (by lia) (by rw [Int.toNat_natCast]; exact hbk) ?_
  refine W_Name (by walk_at "lk") ?_
  refine WSet_dict hcont (key := .inr y) (by simp [isKV]) (by rw [boxD_len, show sizeLine = _ from sizeLine_eq]; lia) ?_
  rw [putS_boxD]
  have L6 := LJ.setBox (L2.planJ_closed (by lia)) (r := .d (putS kvs y r)) (y := .dict (boxD bv (putS kvs y r)) (epK (boxD bv kvs) (.inr y) ep)) (by rw [s7]; exact s3) hbk hcont (by simp) (by simp) ⟨cont, _, rfl, upd_same⟩ (by simp)
  refine contQ_next (W_nil (loopQ_next ⟨fun z n1 n2 n3 => ?_, ?_, hT.trans (KeepT.upd hcont (by simp))⟩))
  · rw [← hm z n1 n2 n3]
    unfold setL
    rw [if_neg n3, if_neg n2, if_neg n1]
  · rw [s6]; exact L6
end
section
theorem L2.fit0 : Fit L2.plan0 7 := by
  have aux : ∀ (p : List Row) (n : Nat), (p.all fun r => (r.refs.all fun j => decide (j < p.length)) && decide (r.refs.length ≤ n) && (match r with | .d kvs => decide ((kvs.map (·.1)).Nodup) && kvs.all fun q => decide (q.1 = "a") || decide (q.1 = "") | _ => true)) = true → ∀ (i : Nat) (r : Row), p[i]? = some r → RowFit p.length n r := fun p n h i r e => by
    have h1 := List.all_eq_true.mp h r (List.mem_of_getElem? e)
    simp only [Bool.and_eq_true] at h1
    obtain ⟨⟨h1, h2⟩, h3⟩ := h1
    refine ⟨fun j hj => of_decide_eq_true (List.all_eq_true.mp h1 j hj), of_decide_eq_true h2, fun kvs q => ?_⟩
    subst q
    simp only [Bool.and_eq_true] at h3
    refine ⟨of_decide_eq_true h3.1, fun p hp => ?_⟩
    have := List.all_eq_true.mp h3.2 p hp
    simpa using this
  exact ⟨aux _ _ (by decide +kernel), by decide, rfl, ⟨_, rfl⟩, ⟨_, rfl⟩, by decide⟩
theorem delA_put {p : Addr} {H : AHeap} {x : AObj} (h : H p = some x) : upd (delA p H) p x = H := by
  funext b
  unfold delA upd
  by_cases q : b = p
  · rw [if_pos q, q, h]
  · rw [if_neg q]
    show (if b = p then none else H b) = H b
    rw [if_neg q]
theorem L2.law_ok {k : Wk} {m : Loc} {H : AHeap} {C fI fG fA fDig fEnd fDue fCall fSeen sa : Addr} {ns : List Int} [sv : SEnv k (fnScope L2.fLaw) (cellNames (fnScope L2.fLaw).names)]
    {S : List Stmt} (hS : S = fnBody L2.fLaw) (D : L2.Defs k.c C fI fG fA fDig fEnd fDue fCall fSeen) (hA : Room k.A) (hA' : k.A.depth ≤ 500 ∧ k.A.units ≤ 1500) (hfr : k.env.frame = some k.env.locals) (hs : m "script" = some (.ref sa)) (hsa : BaseL k.c sa (ns.map .int)) (hl : ns.length < 100) :
    W k (execs S k.env) m H (fun fl _ _ => flowV fl = .bool true) := by
  subst hS
  have hh := hA.handled
  have hroom : Roomy k := Roomy.of hfr (by have := hA.depth; lia) D.blt.imp D.blt.tree rfl rfl
  obtain ⟨foD, fdD, hfD, hdD⟩ := D.dig.obj
  rw [L2.body_eq]
  generalize g0 : stm (fnBody L2.fLaw) 0 = S0
  generalize g1 : stm (fnBody L2.fLaw) 1 = S1
  generalize g2 : stm (fnBody L2.fLaw) 2 = S2
  generalize g3 : stm (fnBody L2.fLaw) 3 = S3
  generalize g4 : stm (fnBody L2.fLaw) 4 = S4
  generalize g5 : stm (fnBody L2.fLaw) 5 = S5
  generalize g6 : stm (fnBody L2.fLaw) 6 = S6
  generalize g7 : stm (fnBody L2.fLaw) 7 = S7
  refine W_cons' ?_
  refine L2.plan_ok g0.symm fun H1 pa ra P hn hpr => ?_
  refine contQ_next ?_
  refine L2.boxes_ok g1.symm g2.symm g3.symm D.nest D.gC hA hA' P hn hpr setL_same fun m2 H2 ba x dx bv hm2 hb2 hmo2 L => ?_
  have hp2 : m2 "plan" = some (.ref pa) := by rw [hm2 _ (by decide) (by decide)]; exact setL_same
  have hs2 : m2 "script" = some (.ref sa) := by rw [hm2 _ (by decide) (by decide)]; walk_at "lk"
  refine W_cons' ?_
  refine L2.ring_ok g4.symm hh L hb2 fun m3 H3 hm3 L3 => ?_
  have hp3 := (hm3 "plan" (by decide) (by decide) (by decide)).trans hp2
  have hb3 := (hm3 "boxes" (by decide) (by decide) (by decide)).trans hb2
  have hmo3 := (hm3 "mount" (by decide) (by decide) (by decide)).trans hmo2
  have hs3 := (hm3 "script" (by decide) (by decide) (by decide)).trans hs2
  clear hm3 hm2
  -- boxes[3].append(boxes[2])
  have hbl : bv.length = 7 := L3.X.len
  have hB := L3.B
  rw [List.take_of_length_le (by lia)] at hB
  obtain ⟨b3, hb3v, c3, rfl, hc3⟩ := L3.X.row 3 (.l []) rfl
  refine contQ_next (W_cons' ?_)
  rw [← g5]
  show W k (exec (.Expr (.Call (.Attribute (.Subscript _ _ _) "append" _) _ [] _) _) k.env) m3 H3 _
  refine W_ExprStmt ?_
  refine W_CallM' PySem.F.plainAttrs_list PySem.F.slot_list_append PySem.F.type_list_append ?_
  refine W_Subscript ?_
  refine W_Name hb3 ?_
  refine W_int ?_
  refine WSub_list hB (by decide) (by decide) hb3v ?_
  refine ⟨onList hc3, ?_⟩
  refine WItems_cons ?_
  refine W_Subscript ?_
  refine W_Name hb3 ?_
  refine W_int ?_
  refine WSub_list (v := bv.getD 2 .none) hB (by decide) (by decide) (val_at (by lia)) ?_
  refine WItems_nil ?_
  refine WCall_append hc3 (by simp [boxL]) ?_
  rw [← boxL_snoc']
  have L4 := L3.setBox (L2.planJ_closed (by lia)) (r := .l ([] ++ [2])) (y := .list (boxL bv ([] ++ [2]))) (show 3 < 7 by decide) hb3v hc3 (by simp) (by simp) ⟨c3, rfl, upd_same⟩ (by simp)
  have L5 : LawAt _ C pa ba x dx ra L2.plan0 bv := LM.law (plan := L2.plan0) L4 rfl L2.fit0
  generalize upd H3 c3 (.list (boxL bv ([] ++ [2]))) = H4 at L5
  clear L4 L3 hB hb3v hc3
  -- for digit in _law_digits(script)
  refine contQ_next (W_cons' ?_)
  rw [← g6]
  show W k (exec (.For (.Name _ _) (.Call (.Name _ _) _ [] _) L2.dig [] _) k.env) m3 H4 _
  refine W_For ?_
  refine W_CallF D.gDig ?hk hfD hdD ?_
  case hk => exact kindS rfl
  refine WItems_cons ?_
  refine W_Name hs3 ?_
  refine WItems_nil ?_
  refine FnV.mono (L2.digits_ok D.blt D.dig hA hsa (fun n _ => ⟨IntMulOk.of_left (by decide), IntMulOk.of_left (by decide)⟩) hl) ?_ (fun _ _ _ q => q.elim)
  rintro v H5 ⟨p, ds, rfl, hp0, hp5, hE, hds, hdl⟩
  refine ⟨_, _, _, fun j m' H' => m' "plan" = some (.ref pa) ∧ m' "boxes" = some (.ref ba) ∧ m' "mount" = some (.ref x) ∧ ∃ ra plan bv H0, LawAt H0 C pa ba x dx ra plan bv ∧ Fit plan (7 + 20 * j) ∧ H0 p = none ∧ H' = upd H0 p (.list (ds.map .int)),
    WIter_list hh hp5, ⟨hp3, hb3, hmo3, ra, L2.plan0, bv, delA p H5, L5.ext fun b y e => delA_at (fun q => by rw [q, hp0] at e; cases e) (hE b y e), L2.fit0, by unfold delA; rw [if_pos rfl], (delA_put hp5).symm⟩, ?_, ?_, ?_⟩
  · rintro j m' H' ⟨_, _, _, ra, plan, bv, H0, _, _, _, rfl⟩
    exact upd_same
  · rintro j v m' H' hj hR ⟨hp', hb', hmo', ra, plan, bv, H0, LJ, FJ, hn0, rfl⟩
    rw [List.length_map] at hj
    obtain ⟨d, hd, rfl⟩ : ∃ d, d ∈ ds ∧ v = .int d := by
      rw [List.getElem?_map, Option.map_eq_some_iff] at hR
      obtain ⟨n, h1, rfl⟩ := hR
      exact ⟨n, List.mem_of_getElem? h1, rfl⟩
    obtain ⟨d0, d1⟩ := hds d hd
    obtain ⟨dn, rfl⟩ := Int.eq_ofNat_of_zero_le d0
    refine WAs_Name ?hs ?_
    case hs => exact stor rfl
    refine W_frame upd_same ?_
    rw [delA_upd hn0]
    refine L2.dig_ok (n := 7 + 20 * j) (d := dn) D hA hA' hroom LJ FJ (by lia) (by lia) (by walk_at "lk") (by walk_at "lk") (by walk_at "lk") setL_same ?_
    intro m' H' ra' plan' bv' h1 h2 h3 LL FF hnn
    exact loopQ_next ⟨h1, h2, h3, ra', plan', bv', H', LL, FF.mono (by lia), hnn, rfl⟩
  · rintro m' H' _
    refine contQ_next (W_cons' ?_)
    rw [← g7]
    show W k (exec (.Return (some (.Constant (.bool true) _ _)) _) k.env) m' H' _
    refine W_Return' ?_
    refine W_bool ?_
    intro u hu
    exact contQ_ret hu
end
end Mine
namespace Mine
noncomputable abbrev pw : Program := PySem.Challenge.pw_kp0043_02
theorem said : OpenLaw.wellSaid PySem.Challenge.rw_kp0043_02 = true := by
  rewrite [PySem.W.Fast.te9446332074065402090]
  kernel_rfl
noncomputable def hview : Program := { pw with main := { pw.main with body := [stm pw.main.body 1, stm pw.main.body 3, stm pw.main.body 4, stm pw.main.body 5, stm pw.main.body 6, stm pw.main.body 7, stm pw.main.body 8] } }
noncomputable def hheap (P : Params) : Frag :=
  (nat_lit 2, { cls := Value.none, data := Data.dict #[] }) ::
  (nat_lit 3, { cls := Value.type "dict", data := Data.dict #[{ hash := PyData.keyHash P (Str.ofString "__name__"), key := Value.str (Str.ofString "__name__") 165, val := Value.str (Str.ofString "law_kp0043_02") 240 }, { hash := PyData.keyHash P (Str.ofString "__doc__"), key := Value.str (Str.ofString "__doc__") 166, val := Value.none }, { hash := PyData.keyHash P (Str.ofString "__package__"), key := Value.str (Str.ofString "__package__") 167, val := Value.none }, { hash := PyData.keyHash P (Str.ofString "__loader__"), key := Value.str (Str.ofString "__loader__") 168, val := Value.builtin "__main__.__loader__#opaque" }, { hash := PyData.keyHash P (Str.ofString "__spec__"), key := Value.str (Str.ofString "__spec__") 169, val := Value.none }, { hash := PyData.keyHash P (Str.ofString "__annotations__"), key := Value.str (Str.ofString "__annotations__") 170, val := Value.ref 6 }, { hash := PyData.keyHash P (Str.ofString "__builtins__"), key := Value.str (Str.ofString "__builtins__") 171, val := Value.ref 4 }, { hash := PyData.keyHash P (Str.ofString "__file__"), key := Value.str (Str.ofString "__file__") 173, val := Value.str (Str.ofString "/claim/cut.py") 172 }, { hash := PyData.keyHash P (Str.ofString "__cached__"), key := Value.str (Str.ofString "__cached__") 174, val := Value.none }, { hash := PyData.keyHash P (Str.ofString "NestedDict"), key := Value.str (Str.ofString "NestedDict") 239, val := Value.ref 46 }, { hash := PyData.keyHash P (Str.ofString "_law_digits"), key := Value.str (Str.ofString "_law_digits") 252, val := Value.ref 57 }, { hash := PyData.keyHash P (Str.ofString "_law_end"), key := Value.str (Str.ofString "_law_end") 258, val := Value.ref 62 }, { hash := PyData.keyHash P (Str.ofString "_law_due"), key := Value.str (Str.ofString "_law_due") 269, val := Value.ref 69 }, { hash := PyData.keyHash P (Str.ofString "_law_call"), key := Value.str (Str.ofString "_law_call") 279, val := Value.ref 76 }, { hash := PyData.keyHash P (Str.ofString "_law_seen"), key := Value.str (Str.ofString "_law_seen") 285, val := Value.ref 81 }, { hash := PyData.keyHash P (Str.ofString "law"), key := Value.str (Str.ofString "law") 291, val := Value.ref 86 }] 16 }) ::
  (nat_lit 6, { cls := Value.type "dict", data := Data.dict #[] }) ::
  (nat_lit 22, { cls := Value.type "tuple", data := Data.seq #[] }) ::
  (nat_lit 24, { cls := Value.type "tuple", data := Data.seq #[Value.str (Str.ofString "self") 204] }) ::
  (nat_lit 25, { cls := Value.type "tuple", data := Data.seq #[] }) ::
  (nat_lit 27, { cls := Value.type "code", data := Data.fields #[Value.str (Str.ofString "__init__") 201, Value.str (Str.ofString "NestedDict.__init__") 202, Value.str (Str.ofString "/claim/cut.py") 203, Value.int 4 0, Value.int 1 0, Value.int 0 0, Value.int 0 0, Value.int 3 0, Value.ref 22, Value.bool true, Value.int 181 0, Value.ref 23, Value.none, Value.ref 24, Value.ref 25, Value.ref 26, Value.int 205 0, Value.int 4 0, Value.str (Str.ofString "/claim/cut.py") 206] }) ::
  (nat_lit 28, { cls := Value.type "function", data := Data.func { name := Str.ofString "__init__", qualname := Str.ofString "NestedDict.__init__", params := fnParams (stm (fnBody (stm pw.main.body 1)) 0), body := FuncBody.stmts (fnBody (stm (fnBody (stm pw.main.body 1)) 0)), scope := fnScope (stm (fnBody (stm pw.main.body 1)) 0), globals := 3, closure := [], defaults := Value.none, kwdefaults := Value.none, pyModule := Value.str (Str.ofString "cpy313.tomllib._parser") 187, code := Value.ref 27 } }) ::
  (nat_lit 29, { cls := Value.type "dict", data := Data.dict #[{ hash := PyData.keyHash P (Str.ofString "access_lists"), key := Value.str (Str.ofString "access_lists") 208, val := Value.bool true }] 1 }) ::
  (nat_lit 30, { cls := Value.type "tuple", data := Data.seq #[] }) ::
  (nat_lit 32, { cls := Value.type "tuple", data := Data.seq #[Value.str (Str.ofString "self") 212, Value.str (Str.ofString "key") 213, Value.str (Str.ofString "access_lists") 214, Value.str (Str.ofString "cont") 215, Value.str (Str.ofString "k") 216] }) ::
  (nat_lit 33, { cls := Value.type "tuple", data := Data.seq #[] }) ::
  (nat_lit 35, { cls := Value.type "code", data := Data.fields #[Value.str (Str.ofString "get_or_create_nest") 209, Value.str (Str.ofString "NestedDict.get_or_create_nest") 210, Value.str (Str.ofString "/claim/cut.py") 211, Value.int 7 0, Value.int 2 0, Value.int 0 0, Value.int 1 0, Value.int 3 0, Value.ref 30, Value.bool true, Value.int 181 0, Value.ref 31, Value.none, Value.ref 32, Value.ref 33, Value.ref 34, Value.int 217 0, Value.int 7 0, Value.str (Str.ofString "/claim/cut.py") 218] }) ::
  (nat_lit 36, { cls := Value.type "function", data := Data.func { name := Str.ofString "get_or_create_nest", qualname := Str.ofString "NestedDict.get_or_create_nest", params := fnParams (stm (fnBody (stm pw.main.body 1)) 1), body := FuncBody.stmts (fnBody (stm (fnBody (stm pw.main.body 1)) 1)), scope := fnScope (stm (fnBody (stm pw.main.body 1)) 1), globals := 3, closure := [], defaults := Value.none, kwdefaults := Value.ref 29, pyModule := Value.str (Str.ofString "cpy313.tomllib._parser") 187, code := Value.ref 35 } }) ::
  (nat_lit 37, { cls := Value.type "tuple", data := Data.seq #[] }) ::
  (nat_lit 39, { cls := Value.type "tuple", data := Data.seq #[Value.str (Str.ofString "self") 223, Value.str (Str.ofString "key") 224, Value.str (Str.ofString "cont") 225, Value.str (Str.ofString "last_key") 226, Value.str (Str.ofString "list_") 227] }) ::
  (nat_lit 40, { cls := Value.type "tuple", data := Data.seq #[] }) ::
  (nat_lit 42, { cls := Value.type "code", data := Data.fields #[Value.str (Str.ofString "append_nest_to_list") 220, Value.str (Str.ofString "NestedDict.append_nest_to_list") 221, Value.str (Str.ofString "/claim/cut.py") 222, Value.int 19 0, Value.int 2 0, Value.int 0 0, Value.int 0 0, Value.int 3 0, Value.ref 37, Value.bool true, Value.int 181 0, Value.ref 38, Value.none, Value.ref 39, Value.ref 40, Value.ref 41, Value.int 228 0, Value.int 19 0, Value.str (Str.ofString "/claim/cut.py") 229] }) ::
  (nat_lit 43, { cls := Value.type "function", data := Data.func { name := Str.ofString "append_nest_to_list", qualname := Str.ofString "NestedDict.append_nest_to_list", params := fnParams (stm (fnBody (stm pw.main.body 1)) 2), body := FuncBody.stmts (fnBody (stm (fnBody (stm pw.main.body 1)) 2)), scope := fnScope (stm (fnBody (stm pw.main.body 1)) 2), globals := 3, closure := [], defaults := Value.none, kwdefaults := Value.none, pyModule := Value.str (Str.ofString "cpy313.tomllib._parser") 187, code := Value.ref 42 } }) ::
  (nat_lit 44, { cls := Value.type "tuple", data := Data.seq #[Value.str (Str.ofString "dict") 231] }) ::
  (nat_lit 45, { cls := Value.type "dict", data := Data.dict #[{ hash := PyData.keyHash P (Str.ofString "__module__"), key := Value.str (Str.ofString "__module__") 196, val := Value.str (Str.ofString "cpy313.tomllib._parser") 187 }, { hash := PyData.keyHash P (Str.ofString "__firstlineno__"), key := Value.str (Str.ofString "__firstlineno__") 200, val := Value.int 2 199 }, { hash := PyData.keyHash P (Str.ofString "__init__"), key := Value.str (Str.ofString "__init__") 207, val := Value.ref 28 }, { hash := PyData.keyHash P (Str.ofString "get_or_create_nest"), key := Value.str (Str.ofString "get_or_create_nest") 219, val := Value.ref 36 }, { hash := PyData.keyHash P (Str.ofString "append_nest_to_list"), key := Value.str (Str.ofString "append_nest_to_list") 230, val := Value.ref 43 }, { hash := PyData.keyHash P (Str.ofString "__static_attributes__"), key := Value.str (Str.ofString "__static_attributes__") 232, val := Value.ref 44 }, { hash := PyData.keyHash P (Str.ofString "__dict__"), key := Value.str (Str.ofString "__dict__") 234, val := Value.ref 47 }, { hash := PyData.keyHash P (Str.ofString "__weakref__"), key := Value.str (Str.ofString "__weakref__") 236, val := Value.ref 48 }, { hash := PyData.keyHash P (Str.ofString "__doc__"), key := Value.str (Str.ofString "__doc__") 237, val := Value.none }] 4 }) ::
  (nat_lit 46, { cls := Value.type "type", data := Data.cls { name := Str.ofString "NestedDict", bases := [Value.type "object"], mro := [Value.ref 46, Value.type "object"], ns := 45, qualname := Str.ofString "NestedDict" }, slots := #[none, none, some (Value.str (Str.ofString "NestedDict") 189), some (Value.str (Str.ofString "NestedDict") 197), some (Value.builtin "object.__new__"), some (Value.bool true)] }) ::
  (nat_lit 47, { cls := Value.type "getset_descriptor", data := Data.fields #[Value.str (Str.ofString "__dict__") 233, Value.ref 46, Value.builtin "function.__dict__", Value.builtin "function.__dict__#set"] }) ::
  (nat_lit 48, { cls := Value.type "getset_descriptor", data := Data.fields #[Value.str (Str.ofString "__weakref__") 235, Value.ref 46, Value.builtin "ExceptionGroup.__weakref__", Value.none] }) ::
  (nat_lit 51, { cls := Value.type "tuple", data := Data.seq #[] }) ::
  (nat_lit 53, { cls := Value.type "tuple", data := Data.seq #[Value.str (Str.ofString "script") 245, Value.str (Str.ofString "digits") 246, Value.str (Str.ofString "x") 247, Value.str (Str.ofString "rest") 248, Value.str (Str.ofString "digit") 249] }) ::
  (nat_lit 54, { cls := Value.type "tuple", data := Data.seq #[] }) ::
  (nat_lit 56, { cls := Value.type "code", data := Data.fields #[Value.str (Str.ofString "_law_digits") 242, Value.str (Str.ofString "_law_digits") 243, Value.str (Str.ofString "/claim/cut.py") 244, Value.int 30 0, Value.int 1 0, Value.int 0 0, Value.int 0 0, Value.int 3 0, Value.ref 51, Value.bool true, Value.int 181 0, Value.ref 52, Value.none, Value.ref 53, Value.ref 54, Value.ref 55, Value.int 250 0, Value.int 30 0, Value.str (Str.ofString "/claim/cut.py") 251] }) ::
  (nat_lit 57, { cls := Value.type "function", data := Data.func { name := Str.ofString "_law_digits", qualname := Str.ofString "_law_digits", params := fnParams (stm pw.main.body 3), body := FuncBody.stmts (fnBody (stm pw.main.body 3)), scope := fnScope (stm pw.main.body 3), globals := 3, closure := [], defaults := Value.none, kwdefaults := Value.none, pyModule := Value.str (Str.ofString "law_kp0043_02") 240, code := Value.ref 56 } }) ::
  (nat_lit 58, { cls := Value.type "tuple", data := Data.seq #[] }) ::
  (nat_lit 61, { cls := Value.type "code", data := Data.fields #[Value.str (Str.ofString "_law_end") 253, Value.str (Str.ofString "_law_end") 254, Value.str (Str.ofString "/claim/cut.py") 255, Value.int 40 0, Value.int 4 0, Value.int 0 0, Value.int 0 0, Value.int 3 0, Value.ref 58, Value.bool true, Value.int 181 0, Value.ref 59, Value.none, Value.none, Value.none, Value.ref 60, Value.int 256 0, Value.int 40 0, Value.str (Str.ofString "/claim/cut.py") 257] }) ::
  (nat_lit 62, { cls := Value.type "function", data := Data.func { name := Str.ofString "_law_end", qualname := Str.ofString "_law_end", params := fnParams (stm pw.main.body 4), body := FuncBody.stmts (fnBody (stm pw.main.body 4)), scope := fnScope (stm pw.main.body 4), globals := 3, closure := [], defaults := Value.none, kwdefaults := Value.none, pyModule := Value.str (Str.ofString "law_kp0043_02") 240, code := Value.ref 61 } }) ::
  (nat_lit 63, { cls := Value.type "tuple", data := Data.seq #[] }) ::
  (nat_lit 65, { cls := Value.type "tuple", data := Data.seq #[Value.str (Str.ofString "plan") 262, Value.str (Str.ofString "kind") 263, Value.str (Str.ofString "i") 264, Value.str (Str.ofString "key") 265, Value.str (Str.ofString "due") 266] }) ::
  (nat_lit 66, { cls := Value.type "tuple", data := Data.seq #[] }) ::
  (nat_lit 68, { cls := Value.type "code", data := Data.fields #[Value.str (Str.ofString "_law_due") 259, Value.str (Str.ofString "_law_due") 260, Value.str (Str.ofString "/claim/cut.py") 261, Value.int 53 0, Value.int 4 0, Value.int 0 0, Value.int 0 0, Value.int 3 0, Value.ref 63, Value.bool true, Value.int 181 0, Value.ref 64, Value.none, Value.ref 65, Value.ref 66, Value.ref 67, Value.int 267 0, Value.int 53 0, Value.str (Str.ofString "/claim/cut.py") 268] }) ::
  (nat_lit 69, { cls := Value.type "function", data := Data.func { name := Str.ofString "_law_due", qualname := Str.ofString "_law_due", params := fnParams (stm pw.main.body 5), body := FuncBody.stmts (fnBody (stm pw.main.body 5)), scope := fnScope (stm pw.main.body 5), globals := 3, closure := [], defaults := Value.none, kwdefaults := Value.none, pyModule := Value.str (Str.ofString "law_kp0043_02") 240, code := Value.ref 68 } }) ::
  (nat_lit 70, { cls := Value.type "tuple", data := Data.seq #[] }) ::
  (nat_lit 72, { cls := Value.type "tuple", data := Data.seq #[Value.str (Str.ofString "mount") 273, Value.str (Str.ofString "kind") 274, Value.str (Str.ofString "key") 275, Value.str (Str.ofString "error") 276] }) ::
  (nat_lit 73, { cls := Value.type "tuple", data := Data.seq #[] }) ::
  (nat_lit 75, { cls := Value.type "code", data := Data.fields #[Value.str (Str.ofString "_law_call") 270, Value.str (Str.ofString "_law_call") 271, Value.str (Str.ofString "/claim/cut.py") 272, Value.int 61 0, Value.int 3 0, Value.int 0 0, Value.int 0 0, Value.int 3 0, Value.ref 70, Value.bool true, Value.int 181 0, Value.ref 71, Value.none, Value.ref 72, Value.ref 73, Value.ref 74, Value.int 277 0, Value.int 61 0, Value.str (Str.ofString "/claim/cut.py") 278] }) ::
  (nat_lit 76, { cls := Value.type "function", data := Data.func { name := Str.ofString "_law_call", qualname := Str.ofString "_law_call", params := fnParams (stm pw.main.body 6), body := FuncBody.stmts (fnBody (stm pw.main.body 6)), scope := fnScope (stm pw.main.body 6), globals := 3, closure := [], defaults := Value.none, kwdefaults := Value.none, pyModule := Value.str (Str.ofString "law_kp0043_02") 240, code := Value.ref 75 } }) ::
  (nat_lit 77, { cls := Value.type "tuple", data := Data.seq #[] }) ::
  (nat_lit 80, { cls := Value.type "code", data := Data.fields #[Value.str (Str.ofString "_law_seen") 280, Value.str (Str.ofString "_law_seen") 281, Value.str (Str.ofString "/claim/cut.py") 282, Value.int 72 0, Value.int 1 0, Value.int 0 0, Value.int 0 0, Value.int 3 0, Value.ref 77, Value.bool true, Value.int 181 0, Value.ref 78, Value.none, Value.none, Value.none, Value.ref 79, Value.int 283 0, Value.int 72 0, Value.str (Str.ofString "/claim/cut.py") 284] }) ::
  (nat_lit 81, { cls := Value.type "function", data := Data.func { name := Str.ofString "_law_seen", qualname := Str.ofString "_law_seen", params := fnParams (stm pw.main.body 7), body := FuncBody.stmts (fnBody (stm pw.main.body 7)), scope := fnScope (stm pw.main.body 7), globals := 3, closure := [], defaults := Value.none, kwdefaults := Value.none, pyModule := Value.str (Str.ofString "law_kp0043_02") 240, code := Value.ref 80 } }) ::
  (nat_lit 82, { cls := Value.type "tuple", data := Data.seq #[] }) ::
  (nat_lit 85, { cls := Value.type "code", data := Data.fields #[Value.str (Str.ofString "law") 286, Value.str (Str.ofString "law") 287, Value.str (Str.ofString "/claim/cut.py") 288, Value.int 79 0, Value.int 1 0, Value.int 0 0, Value.int 0 0, Value.int 3 0, Value.ref 82, Value.bool true, Value.int 181 0, Value.ref 83, Value.none, Value.none, Value.none, Value.ref 84, Value.int 289 0, Value.int 79 0, Value.str (Str.ofString "/claim/cut.py") 290] }) ::
  (nat_lit 86, { cls := Value.type "function", data := Data.func { name := Str.ofString "law", qualname := Str.ofString "law", params := fnParams (stm pw.main.body 8), body := FuncBody.stmts (fnBody (stm pw.main.body 8)), scope := fnScope (stm pw.main.body 8), globals := 3, closure := [], defaults := Value.none, kwdefaults := Value.none, pyModule := Value.str (Str.ofString "law_kp0043_02") 240, code := Value.ref 85 } }) ::
  []
theorem hfill : (PySem.Challenge.rw_kp0043_02, hheap) = (PySem.Challenge.rw_kp0043_02, hheap) := by k_fill; rfl
noncomputable def hplaces : List Nat := [2, 3, 6, 22, 24, 25, 27, 28, 29, 30, 32, 33, 35, 36, 37, 39, 40, 42, 43, 44, 45, 46, 47, 48, 51, 53, 54, 56, 57, 58, 61, 62, 63, 65, 66, 68, 69, 70, 72, 73, 75, 76, 77, 80, 81, 82, 85, 86]
noncomputable def hhook : Hook := kHook hheap hplaces fun P => by kernel_rfl
theorem hleft : LeftO pw hview [Str.ofString "NestedDict"] (fun s => xlAt hview [] s && recOk [] s) (Hook.obs hhook) (Hook.val hhook) 1106 := fun w => by
  delta openEnds fencedOpening topFrom
  rewrite [PySem.W.Fast.te14082659384304107361, PySem.W.Fast.te10274390034422433532, PySem.W.Fast.te14289696077712309145, PySem.W.Fast.te14364793385576792824, PySem.W.Fast.te4187177175401517315]
  kernel_rfl
theorem nsOk_of {K : Frag} {N : Addr} {oc : Value} {od : Option Addr} {es : Array DictEntry} {ep : Nat} {sl : Array (Option Value)} (h : K.lookup N = some ⟨oc, od, .dict es ep, sl⟩) (he : (es.all fun e => match e.key with | .str _ _ => true | _ => false) = true) : nsOkIn K N = true := by
  unfold nsOkIn
  rw [h]
  exact he
theorem L2.get_at (P : Params) {c : Cx} (hK : c.K = hheap P) : ∃ fd, FnAt c 36 fd (fnBody L2.mG) ∧ fd.scope = fnScope L2.mG ∧ fd.params = fnParams L2.mG ∧ fd.defaults = .none ∧
    ∃ d mk, fd.kwdefaults = .ref d ∧ c.base.Ns d mk ∧ mk "access_lists" = some (.bool true) := by
  have h : ∃ name qual doc pm cdv ct oc d an od osl, c.K.lookup 36 = some ⟨oc, od, .func (fnOf name qual (fnParams L2.mG) (fnBody L2.mG) (fnScope L2.mG) .none (.ref d) doc pm an cdv ct), osl⟩ ∧ codeIn c.K cdv qual = true ∧ nsIn c.K d "access_lists" = some (some (.bool true)) ∧ nsOkIn c.K d = true :=
    ⟨_, _, _, _, _, _, _, _, _, _, _, by rw [hK]; k_is, by rw [hK]; k_is, by rw [hK]; k_is, by rw [hK]; exact nsOk_of (by k_is) (by simp)⟩
  obtain ⟨name, qual, doc, pm, cdv, ct, oc, d, an, od, osl, h1, h2, h3, h4⟩ := h
  have G : c.base.Ns d (c.base.nsMap d) := Heap.Ns.of_isNs (isNs_of_in c.inK h4)
  exact ⟨_, fnAt_K h1 h2 (by rfl) (by rfl) (by rfl) (by decide), rfl, rfl, rfl, d, _, rfl, G, ns_at c.inK G h3⟩
set_option maxHeartbeats 4000000 in
theorem L2.defs_at (P : Params) {c : Cx} (hK : c.K = hheap P) (himp : importsNone c.p = true) (htree : c.prog.given.tree = none) : L2.Defs c 46 28 36 43 57 62 69 76 81 where
  blt := ⟨gl_B (by rw [hK]; k_is) rfl (by decide), gl_B (by rw [hK]; k_is) rfl (by decide), gl_B (by rw [hK]; k_is) rfl (by decide), gl_B (by rw [hK]; k_is) rfl (by decide), gl_B (by rw [hK]; k_is) rfl (by decide), gl_B (by rw [hK]; k_is) rfl (by decide), gl_B (by rw [hK]; k_is) rfl (by decide), gl_B (by rw [hK]; k_is) rfl (by decide), gl_B (by rw [hK]; k_is) rfl (by decide), gl_B (by rw [hK]; k_is) rfl (by decide), himp, htree⟩
  nest := {
    kls := ⟨by rw [hK]; k_is, by rw [hK]; k_is, by rw [hK]; k_is, by rw [hK]; k_is, by rw [hK]; k_is, by rw [hK]; k_is, by rw [hK]; k_is, by rw [hK]; k_is, by rw [hK]; k_is, by rw [hK]; k_is, by rw [hK]; k_is⟩
    mG := ⟨by rw [hK]; k_is, by rw [hK]; k_is, by rw [hK]; k_is, by rw [hK]; k_is, by decide⟩
    mA := ⟨by rw [hK]; k_is, by rw [hK]; k_is, by rw [hK]; k_is, by rw [hK]; k_is, by decide⟩
    init := defAt_K (by rw [hK]; k_is) (by rw [hK]; k_is) (by rfl) (by rfl) (by rfl) (by decide)
    app := defAt_K (by rw [hK]; k_is) (by rw [hK]; k_is) (by rfl) (by rfl) (by rfl) (by decide)
    get := L2.get_at P hK }
  gC := gl_K (by rw [hK]; k_is)
  dig := defAt_K (by rw [hK]; k_is) (by rw [hK]; k_is) (by rfl) (by rfl) (by rfl) (by decide)
  gDig := gl_K (by rw [hK]; k_is)
  fend := defAt_K (by rw [hK]; k_is) (by rw [hK]; k_is) (by rfl) (by rfl) (by rfl) (by decide)
  gEnd := gl_K (by rw [hK]; k_is)
  due := defAt_K (by rw [hK]; k_is) (by rw [hK]; k_is) (by rfl) (by rfl) (by rfl) (by decide)
  gDue := gl_K (by rw [hK]; k_is)
  call := defAt_K (by rw [hK]; k_is) (by rw [hK]; k_is) (by rfl) (by rfl) (by rfl) (by decide)
  gCall := gl_K (by rw [hK]; k_is)
  seen := defAt_K (by rw [hK]; k_is) (by rw [hK]; k_is) (by rfl) (by rfl) (by rfl) (by decide)
  gSeen := gl_K (by rw [hK]; k_is)
set_option maxHeartbeats 8000000 in
theorem L2.claim : PySem.Challenge.rw_kp0043_02.Holds := by
  w_on
  refine holds_law said fun ok => ?_
  refine holds_open (q := hview) (loose := [Str.ofString "NestedDict"]) (Xt := fun s => xlAt hview [] s && recOk [] s) (XP := XL hview []) (Yf := Hook.obs hhook) (Ya := Hook.val hhook) (YP := Hook.says hhook) (N := 1106) hleft (Hook.of hhook) (Hook.keeps hhook) (fun s e => xl_of s (Bool.and_eq_true_iff.mp e).1) XL.keeps (by rfl) (by rfl) (by rfl) (fun s e => recFacts_of (Bool.and_eq_true_iff.mp e).2) (by rfl) ok (by decide +kernel) ⟨rfl, rfl, rfl, rfl, rfl, by decide +kernel⟩ ?hw ?hc
  case hw => w_witness2
  w_strict (
    intro w s₀ s₁ mg mb G Y fa o pm cd doc dV kV ho hd hcd hD hmg hg args vals as hpre hlay hrd hwl hlo
    have KX := kIn_of Y
    refine Ground.open G ?_
    intro T _ _ _ _
    clear hmg
    wrow_args hpre hlay hrd hwl hlo
    first | refine callC_kw (enter_call ?_) | refine enter_call ?_
    w_top on
    refine codeAny_mono ?_ (fun _ _ g => GoodW.toG g)
    have he := Dflts.none hD rfl; subst he
    refine call_fullW (by decide) ho hd (Top.nolimit T) hcd (BindsTo.of_eq rfl) (locs rfl) fun h₁ F => ?_
    w_binds F)
  (with_reducible rename Top _ _ _ _ _ _ => kT)
  (with_reducible rename Frag.In _ _ => kX)
  (with_reducible rename Heap.IsList _ _ _ => kL)
  (with_reducible rename IntsAre _ _ => kI)
  (with_reducible rename Fr _ _ _ _ => kF)
  rename _ = #[] => kg
  rename ¬ ((63 : Nat) : Int) < _ => k63
  show wpAny _ _ (execs (fnBody L2.fLaw) _) _ _ _
  generalize hSe : fnBody L2.fLaw = S
  refine fin_join kX kT kg kL kI kF (by rfl) (by rfl) rfl rfl rfl (Nat.le_add_left 1 _) ?_
  intro c hp hK hw hpp hb hB k hkc hke hkA
  have D := L2.defs_at _ (c := k.c) (by rw [hkc]; exact hK) (by rw [hkc, hpp]; rfl) (by rw [hkc, hp]; rfl)
  haveI : SEnv k (fnScope L2.fLaw) (cellNames (fnScope L2.fLaw).names) := ⟨by rw [hke]; rfl, by rw [hke]; rfl⟩
  have hroom : Room k.A ∧ (k.A.depth ≤ 500 ∧ k.A.units ≤ 1500) := by
    rw [hkA]
    exact ⟨⟨by show callerA.depth + 1 ≤ 600; decide, by show callerA.units + 3 ≤ 2000; decide, rfl⟩, by show callerA.depth + 1 ≤ 500; decide, by show callerA.units + 3 ≤ 1500; decide⟩
  exact L2.law_ok hSe.symm D hroom.1 hroom.2 (by rw [hke]; rfl) setL_same (by rw [hkc]; exact hB) (by omega)
end Mine
theorem PySem.Challenge.cw_kp0043_02_holds : PySem.Challenge.rw_kp0043_02.Holds := by
  exact Mine.L2.claim
