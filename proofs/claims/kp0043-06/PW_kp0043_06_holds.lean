import PyProof.Rows.All
import Wide.All
import OpenK.AllK
import Wide.FinOn
import PySem.Challenge.RW_kp0043_06
open PySem PySem.W PySem.Calls PyProof.Rows
set_option Elab.async false
set_option maxRecDepth 100000
set_option linter.unusedVariables false
set_option linter.unusedSimpArgs false
namespace Mine
theorem hideG {G : Prop} (h : ∀ G' : Prop, (G → G') → G') : G := h G id
end Mine
namespace Mine
set_option genSizeOfSpec false in
inductive V where
  | none | bool (b : Bool) | int (i : Int) | str (x : Str) (t : Tok) | ref (a : Addr) | ty (n : String) | bi (i : String) | other
  deriving DecidableEq
noncomputable def er : Value → V
  | .none => .none
  | .bool b => .bool b
  | .int i _ => .int i
  | .str x t => .str x t
  | .ref a => .ref a
  | .type n => .ty n
  | .builtin i => .bi i
  | _ => .other
theorem er_none {v : Value} (h : er v = .none) : v = .none := by cases v <;> simp [er] at h ⊢
theorem er_bool {v : Value} {b : Bool} (h : er v = .bool b) : v = .bool b := by cases v <;> simp [er] at h ⊢; exact h
theorem er_int {v : Value} {i : Int} (h : er v = .int i) : ∃ t, v = .int i t := by cases v <;> simp [er] at h ⊢; exact h
theorem er_str {v : Value} {x : Str} {t : Tok} (h : er v = .str x t) : v = .str x t := by cases v <;> simp [er] at h ⊢; exact h
theorem er_ref {v : Value} {a : Addr} (h : er v = .ref a) : v = .ref a := by cases v <;> simp [er] at h ⊢; exact h
theorem er_ty {v : Value} {n : String} (h : er v = .ty n) : v = .type n := by cases v <;> simp [er] at h ⊢; exact h
theorem er_bi {v : Value} {n : String} (h : er v = .bi n) : v = .builtin n := by cases v <;> simp [er] at h ⊢; exact h
noncomputable abbrev Key := Int ⊕ Str
noncomputable def isKV : Key → V → Bool
  | .inl i, .int j => i == j
  | .inr x, .str y _ => x == y
  | _, _ => false
noncomputable def isKey : Key → Value → Bool
  | .inl i, v => Value.isInt i v
  | .inr x, v => Value.isStrOf x v
theorem isKey_er {k : Key} {v : Value} : isKey k v = isKV k (er v) := by
  cases k <;> cases v <;> simp [isKey, isKV, er, Value.isInt, Value.isStrOf] <;> exact Bool.beq_comm
theorem isKV_inj {a b : Key} {v : V} (ha : isKV a v = true) (hb : isKV b v = true) : a = b := by
  cases a <;> cases b <;> cases v <;> simp [isKV] at ha hb ⊢ <;> rw [ha, hb]
theorem eqBool_key {prog : Program} {w : World} {A : Around} {E : Value → Shared → Prop} {s : Shared} {a b : Key} {u v : Value} {Q : Bool → Shared → Prop} (hu : isKey a u = true) (hv : isKey b v = true) (h : Q (decide (a = b)) s) :
    wpAny (model prog w) A (PySem.eqBool u v) Q E s := by
  cases a with
  | inl i =>
    obtain ⟨t, rfl⟩ := Value.isInt_shape hu
    cases b with
    | inl j =>
      obtain ⟨t', rfl⟩ := Value.isInt_shape hv
      have e : (i == j) = decide ((Sum.inl i : Key) = Sum.inl j) := by by_cases hij : i = j <;> simp [hij]
      exact wpAny_eqBool_int (e ▸ h)
    | inr y =>
      obtain ⟨t', rfl⟩ := Value.isStrOf_shape hv
      unfold PySem.eqBool
      rw [if_neg (by intro q; cases (eq_of_beq q))]
      exact wpAny_bind (EqMixed.eq_int_str (wpAny_truthy_bool (by simpa using h)))
  | inr x =>
    obtain ⟨t, rfl⟩ := Value.isStrOf_shape hu
    cases b with
    | inl j =>
      obtain ⟨t', rfl⟩ := Value.isInt_shape hv
      unfold PySem.eqBool
      rw [if_neg (by intro q; cases (eq_of_beq q))]
      exact wpAny_bind (EqMixed.eq_str_int (wpAny_truthy_bool (by simpa using h)))
    | inr y =>
      obtain ⟨t', rfl⟩ := Value.isStrOf_shape hv
      have e : decide (x = y) = decide ((Sum.inr x : Key) = Sum.inr y) := by by_cases hxy : x = y <;> simp [hxy]
      exact wpAny_eqBool_str (e ▸ h)
noncomputable def hashKey (w : World) : Key → Int
  | .inl i => hashInt i
  | .inr x => hashStr w x
theorem pyHash_key {prog : Program} {w : World} {A : Around} {E : Value → Shared → Prop} {s : Shared} {k : Key} {v : Value} {Q : Int → Shared → Prop} (hv : isKey k v = true) (h : Q (hashKey w k) { s with toks := s.toks + 1 }) :
    wpAny (model prog w) A (PySem.pyHash v) Q E s := by
  cases k with
  | inl i => obtain ⟨t, rfl⟩ := Value.isInt_shape hv; exact wpAny_pyHash_int h
  | inr x => obtain ⟨t, rfl⟩ := Value.isStrOf_shape hv; exact wpAny_pyHash_str h
noncomputable def mix (prog : Program) (w : World) : KeyKind prog w Key where
  is := isKey
  hash := hashKey w
  inj := fun v a b ha hb => isKV_inj (isKey_er ▸ ha) (isKey_er ▸ hb)
  byValue := fun k v h => by
    cases k with
    | inl i => obtain ⟨t, rfl⟩ := Value.isInt_shape h; rfl
    | inr x => obtain ⟨t, rfl⟩ := Value.isStrOf_shape h; rfl
  pyHash := pyHash_key
  eqBool := eqBool_key
  «strs» := fun k x t v h => by
    cases k with
    | inl i => simp [isKey, Value.isInt] at h
    | inr y =>
      have h' : Value.isStrOf y (.str x t) = true := h
      obtain ⟨u, hu⟩ := Value.isStrOf_shape h'
      injection hu with hx
      subst hx
      cases v <;> rfl
set_option genSizeOfSpec false in
inductive AObj where
  | list (xs : List V)
  | tup (xs : List V)
  | dict (kvs : List (Key × V)) (ep : Nat)
  | inst (C dx : Addr)
  | attrs (v : V)
  | attrs0
  | range (lo hi st : Int)
  | exc (cls : String) (args : Option Addr)
  | vals (d : Addr)
  | raw (ob : Obj)
noncomputable abbrev AHeap := Addr → Option AObj
noncomputable abbrev Loc := Str → Option V
noncomputable abbrev BMap := Addr → Option (Obj × Bool)
noncomputable def upd {β : Type} (f : Addr → Option β) (a : Addr) (x : β) : Addr → Option β := fun b => if b = a then some x else f b
noncomputable def setL (m : Loc) (x : Str) (v : V) : Loc := fun y => if y = x then some v else m y
theorem upd_same {β : Type} {f : Addr → Option β} {a : Addr} {x : β} : upd f a x a = some x := by simp [upd]
theorem upd_ne {β : Type} {f : Addr → Option β} {a b : Addr} {x y : β} (h : b ≠ a) (e : f b = some y) : upd f a x b = some y := by simp [upd, h, e]
theorem upd_fresh {β : Type} {f : Addr → Option β} {a b : Addr} {x y : β} (h : f a = none) (e : f b = some y) : upd f a x b = some y :=
  upd_ne (fun q => by rw [q, h] at e; cases e) e
theorem upd_some {β : Type} {f : Addr → Option β} {a b : Addr} {x y : β} (e : upd f a x b = some y) : (b = a ∧ x = y) ∨ (b ≠ a ∧ f b = some y) := by
  unfold upd at e
  split at e
  · rename_i h; exact .inl ⟨h, Option.some.inj e⟩
  · rename_i h; exact .inr ⟨h, e⟩
theorem setL_same {m : Loc} {x : Str} {v : V} : setL m x v x = some v := by simp [setL]
theorem setL_ne {m : Loc} {x y : Str} {v u : V} (h : y ≠ x) (e : m y = some u) : setL m x v y = some u := by simp [setL, h, e]
set_option genInjectivity false in
set_option genSizeOfSpec false in
structure Cx where
  prog : Program
  w : World
  base : Heap
  K : Frag
  p : Program
  loose : List Str
  mean : ExcName → Option Value
  mg : Str → Option Value
  mb : Str → Option Value
  os : OsState
  inK : K.In base
  top : Top p loose mean mg mb base
noncomputable def IsObj (c : Cx) (ob : Obj) : AObj → Prop
  | .list xs => ∃ vs n, ob = { cls := .type "list", data := .seq (vs : List Value).toArray n } ∧ vs.map er = xs
  | .tup xs => ∃ vs n, ob = { cls := .type "tuple", data := .seq (vs : List Value).toArray n } ∧ vs.map er = xs
  | .dict kvs ep => ob.ExactDict ∧ ∃ es, ob.data = .dict es ep ∧ KeysOf (mix c.prog c.w) es ∧ ∃ rvs, Pairs (mix c.prog c.w) es.toList rvs ∧ (rvs.map (·.1)).Nodup ∧ rvs.map (fun kv => (kv.1, er kv.2)) = kvs
  | .inst C dx => ob = instObj C dx
  | .attrs v => ∃ n t u, ob = dictOf [⟨PyData.keyHash c.w.params ("dict" : Str), .str ("dict" : Str) t, u⟩] n ∧ er u = v
  | .attrs0 => ob = dictOf [] 0
  | .range lo hi st => ∃ a b d, ob = { cls := .type "range", data := .fields #[.int lo a, .int hi b, .int st d] }
  | .exc cls args => cls ≠ "tuple" ∧ ob.cls = .type cls ∧ ∃ vs, ob.data = .fields vs ∧ ∀ t, args = some t → vs[0]? = some (.ref t)
  | .vals d => ob = { cls := .type "dict_values", data := .fields #[.ref d] }
  | .raw o => ob = o
set_option genInjectivity false in
set_option genSizeOfSpec false in
structure Out where
  fs : List Env
  ext : BMap
noncomputable def outerOf (env : Env) (o : List Env) : List Env := if env.frame = some env.locals then env :: o else o
noncomputable def places (env : Env) : List Addr := env.locals :: env.cells.map (·.2)
structure St (c : Cx) (o : Out) (env : Env) (B : BMap) (m : Loc) (H : AHeap) (s : Shared) : Prop where
  base : c.base.StaysIn s.heap
  keep : ∀ a ob l, B a = some (ob, l) → ∃ sl, s.heap.get? a = some { ob with slots := sl } ∧ (l = false → sl = ob.slots)
  own : ∀ a x, H a = some x → ∃ ob, s.heap.get? a = some ob ∧ IsObj c ob x
  disB : ∀ a x, H a = some x → B a = none
  disBase : ∀ a x, H a = some x → c.base.objs.size ≤ a
  pl : ∀ a ∈ places env, H a = none ∧ B a = none ∧ c.base.objs.size ≤ a
  nodup : (places env).Nodup
  cell : ∀ a ∈ env.cells.map (·.2), ∃ v, s.heap.IsCell a v
  var : ∃ mv, s.heap.Ns env.locals mv ∧ ∀ x v, m x = some v → match env.kindOf x with
    | some .local => ∃ u, mv x = some u ∧ er u = v
    | some .cell => ∃ a u, env.cells.lookup x = some a ∧ s.heap.IsCell a (some u) ∧ er u = v
    | some .free => ∃ a u, env.cells.lookup x = some a ∧ s.heap.IsCell a (some u) ∧ er u = v
    | _ => False
  frames : (∀ e ∈ o.fs, e.scope.kind ≠ .module ∧ ∃ L ob, e.frame = some L ∧ B L = some (ob, true) ∧ c.base.get? L = none ∧ ∀ vs, ob.data ≠ .fields vs) ∧ ∀ a x, o.ext a = some x → B a = some x
  gens : s.gens = #[]
  os : s.os = c.os
  tk : 1 ≤ s.toks
structure Ours (c : Cx) (o : Out) (env : Env) (B : BMap) (H : AHeap) (base' : Heap) : Prop where
  cb : c.base.StaysIn base'
  own : ∀ b, ((H b).isSome ∨ (B b).isSome ∨ b ∈ places env) → (∃ f ∈ outerOf env o.fs, f.frame = some b) ∨ ∃ ob, base'.get? b = some ob
noncomputable def Away (env : Env) (B : BMap) (H : AHeap) (a : Addr) : Prop := H a = none ∧ B a = none ∧ a ∉ places env
noncomputable def ArgsOf (c : Cx) (env : Env) (B : BMap) (H : AHeap) (base' : Heap) (e : Addr) (a0 : Value) (l : List V) : Prop :=
  ∃ t vs n, a0 = .ref t ∧ (vs : List Value).map er = l ∧ base'.get? t = some { cls := .type "tuple", data := .seq vs.toArray n } ∧ c.base.objs.size ≤ t ∧ c.base.objs.size ≤ e ∧ Away env B H t ∧ Away env B H e
noncomputable def Made (c : Cx) (o : Out) (env : Env) (B : BMap) (H : AHeap) (e : Addr) (cls : String) (xs : Option (List V)) (h : Heap) : Prop :=
  ∃ base' ob a0, Ours c o env B H base' ∧ base'.StaysIn h ∧ h.FunFrames base' (outerOf env o.fs) ∧ base'.get? e = none ∧
    h.get? e = some ob ∧ ob.cls = .type cls ∧ ob.data = .fields #[a0, .none, .none, .none, .bool false, .none] ∧ ∀ l, xs = some l → ArgsOf c env B H base' e a0 l
noncomputable def InFl (c : Cx) (o : Out) (env : Env) (B : BMap) (H : AHeap) (e : Addr) (cls : String) (xs : Option (List V)) (h : Heap) : Prop :=
  ∃ base' a0, Ours c o env B H base' ∧ Heap.FlyingW base' (outerOf env o.fs) e (.type cls) a0 h ∧ ∀ l, xs = some l → ArgsOf c env B H base' e a0 l
set_option genInjectivity false in
set_option genSizeOfSpec false in
structure Wk where
  c : Cx
  A : Around
  o : Out
  env : Env
  E : Value → Shared → Prop
  X : String → Option (List V) → Loc → AHeap → Prop
  here : Prop
  pass : PassesOwn (model c.prog c.w) A env E
  fly : ∀ B m H s e cls xs, St c o env B m H s → InFl c o env B H e cls xs s.heap → X cls xs m H → E (.ref e) s
  made : here → ∀ B m H s e cls xs, St c o env B m H s → Made c o env B H e cls xs s.heap → X cls xs m H → E (.ref e) s
  kind : env.scope.kind = .function
  glob : env.globals = mainGlobals
  blt : env.builtins = builtinsNs
  frames : A.frames = some (outerOf env o.fs)
  fat : env.frame = some env.locals ∨ ∃ f ∈ o.fs, f.frame = env.frame
noncomputable def W (k : Wk) {α : Type} (t : Sem α) (m : Loc) (H : AHeap) (Q : α → Loc → AHeap → Prop) : Prop :=
  ∀ B s, St k.c k.o k.env B m H s → wpAny (model k.c.prog k.c.w) k.A t (fun v s' => ∃ m' H', St k.c k.o k.env B m' H' s' ∧ Q v m' H') k.E s
noncomputable abbrev WV (k : Wk) (t : Sem Value) (m : Loc) (H : AHeap) (Q : V → Loc → AHeap → Prop) : Prop := W k t m H (fun v => Q (er v))
section
variable {k : Wk} {α β : Type} {m : Loc} {H : AHeap}
theorem W.mono {t : Sem α} {Q Q' : α → Loc → AHeap → Prop} (h : W k t m H Q) (hQ : ∀ v m H, Q v m H → Q' v m H) : W k t m H Q' :=
  fun B s st => wpAny_mono (h B s st) (fun v s' ⟨m', H', st', q⟩ => ⟨m', H', st', hQ _ _ _ q⟩) fun _ _ x => x
theorem W.pure {a : α} {Q : α → Loc → AHeap → Prop} (h : Q a m H) : W k (Pure.pure a) m H Q := fun B s st => wpAny_pure ⟨m, H, st, h⟩
theorem W.bind {t : Sem α} {f : α → Sem β} {Q : β → Loc → AHeap → Prop} (h : W k t m H (fun v m' H' => W k (f v) m' H' Q)) : W k (t >>= f) m H Q :=
  fun B s st => wpAny_bind (wpAny_mono (h B s st) (fun v s' ⟨m', H', st', q⟩ => q B s' st') fun _ _ x => x)
theorem W.standAt {pos : Pos} {Q : Unit → Loc → AHeap → Prop} (h : Q () m H) : W k (PySem.standAt pos) m H Q := fun B s st => wpAny_standAt ⟨m, H, st, h⟩
theorem W.holding {vs : List Value} {t : Sem α} {Q : α → Loc → AHeap → Prop} (h : W k t m H Q) : W k (PySem.holding vs t) m H Q := fun B s st => wpAny_holding (h B s st)
theorem W.of_wp {t : Sem α} {Q : α → Loc → AHeap → Prop}
    (h : ∀ B s, St k.c k.o k.env B m H s → ∀ P : α → Shared → Prop, (∀ v tk, Q v m H → P v { s with toks := tk }) → wpAny (model k.c.prog k.c.w) k.A t P k.E s) : W k t m H Q :=
  fun B s st => wpAny_mono (wpAny_toks_of st.tk (h B s st (fun v s' => ∃ tk, s' = { s with toks := tk } ∧ Q v m H) fun v tk q => ⟨tk, rfl, q⟩))
    (fun v s' q => by obtain ⟨ht, tk, rfl, q⟩ := q; exact ⟨m, H, ⟨st.base, st.keep, st.own, st.disB, st.disBase, st.pl, st.nodup, st.cell, st.var, st.frames, st.gens, st.os, ht⟩, q⟩) fun _ _ x => x.2
end
section
variable {c : Cx} {o : Out} {env : Env} {B : BMap} {m : Loc} {H : AHeap} {s : Shared}
theorem St.toks (st : St c o env B m H s) (tk : Nat) (ht : 1 ≤ tk) : St c o env B m H { s with toks := tk } :=
  ⟨st.base, st.keep, st.own, st.disB, st.disBase, st.pl, st.nodup, st.cell, st.var, st.frames, st.gens, st.os, ht⟩
theorem var_keeps {env : Env} {m : Loc} {h h' : Heap} (kp : ∀ a ∈ places env, ∀ ob, h.get? a = some ob → h'.get? a = some ob)
    (v : ∃ mv, h.Ns env.locals mv ∧ ∀ x v, m x = some v → match env.kindOf x with
    | some .local => ∃ u, mv x = some u ∧ er u = v
    | some .cell => ∃ a u, env.cells.lookup x = some a ∧ h.IsCell a (some u) ∧ er u = v
    | some .free => ∃ a u, env.cells.lookup x = some a ∧ h.IsCell a (some u) ∧ er u = v
    | _ => False) :
    ∃ mv, h'.Ns env.locals mv ∧ ∀ x v, m x = some v → match env.kindOf x with
    | some .local => ∃ u, mv x = some u ∧ er u = v
    | some .cell => ∃ a u, env.cells.lookup x = some a ∧ h'.IsCell a (some u) ∧ er u = v
    | some .free => ∃ a u, env.cells.lookup x = some a ∧ h'.IsCell a (some u) ∧ er u = v
    | _ => False := by
  obtain ⟨mv, ⟨ob, es, ep, ho, r⟩, hv⟩ := v
  have cellK : ∀ x a u, env.cells.lookup x = some a → h.IsCell a u → h'.IsCell a u := fun x a u e ⟨ob, ho, hd⟩ =>
    ⟨ob, kp a (List.mem_cons_of_mem _ (List.mem_map_of_mem (f := (·.2)) (mem_of_lookup e))) ob ho, hd⟩
  refine ⟨mv, ⟨ob, es, ep, kp _ List.mem_cons_self _ ho, r⟩, fun x v e => ?_⟩
  have q := hv x v e
  split at q
  · exact q
  · obtain ⟨a, u, e1, e2, e3⟩ := q; exact ⟨a, u, e1, cellK x a _ e1 e2, e3⟩
  · obtain ⟨a, u, e1, e2, e3⟩ := q; exact ⟨a, u, e1, cellK x a _ e1 e2, e3⟩
  · exact q
theorem none_ge {h : Heap} {a : Addr} (e : h.objs.size ≤ a) : h.get? a = none := by
  cases q : h.get? a with
  | none => rfl
  | some ob => exact absurd (Heap.lt_size q) (Nat.not_lt.mpr e)
theorem St.baseLe (st : St c o env B m H s) : c.base.objs.size ≤ s.heap.objs.size := by
  obtain ⟨mv, hn, _⟩ := st.var
  exact Nat.le_of_lt (Nat.lt_of_le_of_lt (st.pl env.locals List.mem_cons_self).2.2 hn.lt)
theorem St.put (st : St c o env B m H s) {a : Addr} {x y : AObj} {h' : Heap} {tk : Nat} (hx : H a = some x) (hk : ∀ b ob, b ≠ a → s.heap.get? b = some ob → h'.get? b = some ob)
    (hy : ∃ ob, h'.get? a = some ob ∧ IsObj c ob y) (ht : 1 ≤ tk) : St c o env B m (upd H a y) { s with heap := h', toks := tk } := by
  have hB := st.disB a x hx
  have hbl := st.disBase a x hx
  have hb : c.base.get? a = none := none_ge hbl
  have hp : a ∉ places env := fun q => by rw [(st.pl a q).1] at hx; cases hx
  refine ⟨fun b ob e => hk b ob (fun q => by rw [q, hb] at e; cases e) (st.base b ob e), fun b ob l e => ?_, fun b z e => ?_, fun b z e => ?_, fun b z e => ?_, fun b q => ?_, st.nodup, fun b e => ?_, ?_, st.frames, st.gens, st.os, ht⟩
  · obtain ⟨sl, e1, e2⟩ := st.keep b ob l e
    exact ⟨sl, hk b _ (fun q => by rw [q, hB] at e; cases e) e1, e2⟩
  · rcases upd_some e with ⟨rfl, rfl⟩ | ⟨ne, e⟩
    · exact hy
    · obtain ⟨ob, e1, e2⟩ := st.own b z e; exact ⟨ob, hk b ob ne e1, e2⟩
  · rcases upd_some e with ⟨rfl, rfl⟩ | ⟨ne, e⟩
    · exact hB
    · exact st.disB b z e
  · rcases upd_some e with ⟨rfl, rfl⟩ | ⟨ne, e⟩
    · exact hbl
    · exact st.disBase b z e
  · obtain ⟨e1, e2, e3⟩ := st.pl b q
    exact ⟨by unfold upd; rw [if_neg (fun z => by subst z; exact hp q)]; exact e1, e2, e3⟩
  · obtain ⟨v, ob, e1, e2⟩ := st.cell b e
    exact ⟨v, ob, hk b ob (fun q => hp (by subst q; exact List.mem_cons_of_mem _ e)) e1, e2⟩
  · exact var_keeps (fun b hb' ob e => hk b ob (fun q => hp (by subst q; exact hb')) e) st.var
theorem St.fresh (st : St c o env B m H s) {a : Addr} (hn : s.heap.get? a = none) : H a = none ∧ B a = none ∧ c.base.get? a = none ∧ a ∉ places env := by
  refine ⟨?_, ?_, ?_, fun q => ?_⟩
  · cases e : H a with
    | none => rfl
    | some x => obtain ⟨ob, e1, _⟩ := st.own a x e; rw [hn] at e1; cases e1
  · cases e : B a with
    | none => rfl
    | some x => obtain ⟨sl, e1, _⟩ := st.keep a x.1 x.2 e; rw [hn] at e1; cases e1
  · cases e : c.base.get? a with
    | none => rfl
    | some x => rw [st.base a x e] at hn; cases hn
  · rcases List.mem_cons.mp q with rfl | q
    · obtain ⟨_, ⟨ob, _, _, ho, _⟩, _⟩ := st.var
      rw [hn] at ho; cases ho
    · obtain ⟨v, ob, e1, _⟩ := st.cell a q
      rw [hn] at e1; cases e1
theorem St.new (st : St c o env B m H s) {a : Addr} {y : AObj} {h' : Heap} {tk : Nat} (hs : s.heap.objs.size ≤ a) (hk : ∀ b ob, s.heap.get? b = some ob → h'.get? b = some ob)
    (hy : ∃ ob, h'.get? a = some ob ∧ IsObj c ob y) (ht : 1 ≤ tk) : St c o env B m (upd H a y) { s with heap := h', toks := tk } := by
  have hn := none_ge hs
  obtain ⟨f1, f2, f3, f4⟩ := st.fresh hn
  refine ⟨fun b ob e => hk b ob (st.base b ob e), fun b ob l e => ?_, fun b z e => ?_, fun b z e => ?_, fun b z e => ?_, fun b q => ?_, st.nodup, fun b e => ?_, ?_, st.frames, st.gens, st.os, ht⟩
  · obtain ⟨sl, e1, e2⟩ := st.keep b ob l e
    exact ⟨sl, hk b _ e1, e2⟩
  · rcases upd_some e with ⟨rfl, rfl⟩ | ⟨ne, e⟩
    · exact hy
    · obtain ⟨ob, e1, e2⟩ := st.own b z e; exact ⟨ob, hk b ob e1, e2⟩
  · rcases upd_some e with ⟨rfl, rfl⟩ | ⟨ne, e⟩
    · exact f2
    · exact st.disB b z e
  · rcases upd_some e with ⟨rfl, rfl⟩ | ⟨ne, e⟩
    · exact Nat.le_trans st.baseLe hs
    · exact st.disBase b z e
  · obtain ⟨e1, e2, e3⟩ := st.pl b q
    exact ⟨by unfold upd; rw [if_neg (fun z => by subst z; exact f4 q)]; exact e1, e2, e3⟩
  · obtain ⟨v, ob, e1, e2⟩ := st.cell b e
    exact ⟨v, ob, hk b ob e1, e2⟩
  · exact var_keeps (fun b hb' ob e => hk b ob e) st.var
theorem St.grown (st : St c o env B m H s) {h' : Heap} {tk : Nat} (hk : ∀ b ob, s.heap.get? b = some ob → h'.get? b = some ob) (ht : 1 ≤ tk) : St c o env B m H { s with heap := h', toks := tk } := by
  refine ⟨fun b ob e => hk b ob (st.base b ob e), fun b ob l e => ?_, fun b z e => ?_, st.disB, st.disBase, st.pl, st.nodup, fun b e => ?_, ?_, st.frames, st.gens, st.os, ht⟩
  · obtain ⟨sl, e1, e2⟩ := st.keep b ob l e
    exact ⟨sl, hk b _ e1, e2⟩
  · obtain ⟨ob, e1, e2⟩ := st.own b z e; exact ⟨ob, hk b ob e1, e2⟩
  · obtain ⟨v, ob, e1, e2⟩ := st.cell b e
    exact ⟨v, ob, hk b ob e1, e2⟩
  · exact var_keeps (fun b hb' ob e => hk b ob e) st.var
theorem St.hide (st : St c o env B m H s) {a : Addr} {ob : Obj} {l : Bool} (ho : s.heap.get? a = some ob) (hH : H a = none) (hp : a ∉ places env) (hB : B a = none) : St c o env (upd B a (ob, l)) m H s := by
  refine ⟨st.base, fun b ob' l' e => ?_, st.own, fun b x e => ?_, st.disBase, fun b q => ?_, st.nodup, st.cell, st.var, ⟨fun e he => ?_, fun b x e => upd_fresh hB (st.frames.2 b x e)⟩, st.gens, st.os, st.tk⟩
  · rcases upd_some e with ⟨rfl, e'⟩ | ⟨ne, e⟩
    · injection e' with e1 e2; subst e1; exact ⟨ob.slots, ho, fun _ => rfl⟩
    · exact st.keep b ob' l' e
  · unfold upd; rw [if_neg (fun z => by subst z; rw [hH] at e; cases e)]; exact st.disB b x e
  · obtain ⟨e1, e2, e3⟩ := st.pl b q
    exact ⟨e1, by unfold upd; rw [if_neg (fun z => by subst z; exact hp q)]; exact e2, e3⟩
  · obtain ⟨k1, L, ob', k2, k3, k4, k5⟩ := st.frames.1 e he
    exact ⟨k1, L, ob', k2, upd_fresh hB k3, k4, k5⟩
theorem St.unhide {x : Obj × Bool} {a : Addr} {m₀ : Loc} {H₀ : AHeap} {s₀ : Shared} (st₀ : St c o env B m₀ H₀ s₀) (hB : B a = none) (st : St c o env (upd B a x) m H s) : St c o env B m H s := by
  have q : ∀ b y, B b = some y → upd B a x b = some y := fun b y e => upd_fresh hB e
  have r : ∀ b, upd B a x b = none → B b = none := fun b e => by
    cases h : B b with
    | none => rfl
    | some y => rw [q b y h] at e; cases e
  exact ⟨st.base, fun b ob l e => st.keep b ob l (q b _ e), st.own, fun b y e => r b (st.disB b y e), st.disBase, fun b z => ⟨(st.pl b z).1, r b (st.pl b z).2.1, (st.pl b z).2.2⟩, st.nodup, st.cell, st.var,
    st₀.frames, st.gens, st.os, st.tk⟩
theorem St.none_at (st : St c o env B m H s) {a : Addr} (h : s.heap.objs.size ≤ a) : s.heap.get? a = none := by
  cases e : s.heap.get? a with
  | none => rfl
  | some ob => exact absurd (Heap.lt_size e) (Nat.not_lt.mpr h)
end
end Mine
namespace Mine
section
variable {c : Cx} {o : Out} {env : Env} {B : BMap} {m : Loc} {H : AHeap} {s : Shared}
theorem St.setLocal (st : St c o env B m H s) {x : Str} {v : Value} {h' : Heap} {tk : Nat} (hk : env.kindOf x = some .local)
    (hq : ∀ mv, s.heap.Ns env.locals mv → h'.Ns env.locals (fun y => if y = x then some v else mv y)) (hs : Heap.SameBut env.locals s.heap h')
    (ht : 1 ≤ tk) : St c o env B (setL m x (er v)) H { s with heap := h', toks := tk } := by
  have hp := st.pl env.locals List.mem_cons_self
  have kp : ∀ b ob, b ≠ env.locals → s.heap.get? b = some ob → h'.get? b = some ob := fun b ob ne e => (hs.2 b ne).trans e
  refine ⟨fun b ob e => kp b ob (fun q => ?_) (st.base b ob e), fun b ob l e => ?_, fun b z e => ?_, st.disB, st.disBase, st.pl, st.nodup, fun b e => ?_, ?_, st.frames, st.gens, st.os, ht⟩
  · rw [q] at e; exact absurd (Heap.lt_size e) (Nat.not_lt.mpr hp.2.2)
  · refine Mine.hideG fun GG back => ?_
    obtain ⟨sl, e1, e2⟩ := st.keep b ob l e
    refine back ?_
    clear back
    exact ⟨sl, kp b _ (fun q => by rw [q, hp.2.1] at e; cases e) e1, e2⟩
  · obtain ⟨ob, e1, e2⟩ := st.own b z e; exact ⟨ob, kp b ob (fun q => by rw [q, hp.1] at e; cases e) e1, e2⟩
  · refine Mine.hideG fun GG back => ?_
    obtain ⟨u, ob, e1, e2⟩ := st.cell b e
    refine back ?_
    clear back
    exact ⟨u, ob, kp b ob (fun q => (List.nodup_cons.mp st.nodup).1 (q ▸ e)) e1, e2⟩
  · refine Mine.hideG fun GG back => ?_
    obtain ⟨mv, hn, hv⟩ := st.var
    refine back ?_
    clear back
    refine ⟨_, hq mv hn, fun y u e => ?_⟩
    unfold setL at e
    by_cases hy : y = x
    · subst hy
      rw [if_pos rfl] at e; cases e
      rw [hk]; exact ⟨v, by simp, rfl⟩
    · rw [if_neg hy] at e
      have q := hv y u e
      have cellK : ∀ a z, env.cells.lookup y = some a → s.heap.IsCell a z → h'.IsCell a z := fun a z e ⟨ob, ho, hd⟩ =>
        ⟨ob, kp a ob (fun r => (List.nodup_cons.mp st.nodup).1 (r ▸ List.mem_map_of_mem (f := (·.2)) (mem_of_lookup e))) ho, hd⟩
      split at q
      · obtain ⟨z, e1, e2⟩ := q; exact ⟨z, by rw [if_neg hy]; exact e1, e2⟩
      · obtain ⟨a, z, e1, e2, e3⟩ := q; exact ⟨a, z, e1, cellK a _ e1 e2, e3⟩
      · obtain ⟨a, z, e1, e2, e3⟩ := q; exact ⟨a, z, e1, cellK a _ e1 e2, e3⟩
      · exact q
theorem cell_addr {cs : List (Str × Addr)} (hn : (cs.map (·.2)).Nodup) {x y : Str} {a : Addr} (hx : cs.lookup x = some a) (hy : cs.lookup y = some a) : x = y := by
  have h1 := mem_of_lookup hx
  have h2 := mem_of_lookup hy
  induction cs with
  | nil => cases h1
  | cons p r ih =>
    rw [List.map_cons, List.nodup_cons] at hn
    rcases List.mem_cons.mp h1 with e1 | h1' <;> rcases List.mem_cons.mp h2 with e2 | h2'
    · rw [← e2] at e1; exact (Prod.mk.inj e1).1
    · exact absurd (by rw [← e1]; exact List.mem_map_of_mem (f := (·.2)) h2') hn.1
    · exact absurd (by rw [← e2]; exact List.mem_map_of_mem (f := (·.2)) h1') hn.1
    · clear ih hx hy h1 h2
      revert h1' h2'
      have hr := hn.2
      clear hn
      induction r with
      | nil => intro h; cases h
      | cons q r ih =>
        intro h1 h2
        rw [List.map_cons, List.nodup_cons] at hr
        rcases List.mem_cons.mp h1 with e1 | h1' <;> rcases List.mem_cons.mp h2 with e2 | h2'
        · rw [← e2] at e1; exact (Prod.mk.inj e1).1
        · exact absurd (by rw [← e1]; exact List.mem_map_of_mem (f := (·.2)) h2') hr.1
        · exact absurd (by rw [← e2]; exact List.mem_map_of_mem (f := (·.2)) h1') hr.1
        · exact ih hr.2 h1' h2'
theorem St.setCell (st : St c o env B m H s) {x : Str} {v : Value} {a : Addr} {h' : Heap} {tk : Nat} (hk : env.kindOf x = some .cell) (hc : env.cells.lookup x = some a)
    (hq : h'.IsCell a (some v)) (hs : Heap.SameBut a s.heap h') (ht : 1 ≤ tk) : St c o env B (setL m x (er v)) H { s with heap := h', toks := tk } := by
  have hm : a ∈ env.cells.map (·.2) := List.mem_map_of_mem (f := (·.2)) (mem_of_lookup hc)
  have hp := st.pl a (List.mem_cons_of_mem _ hm)
  have kp : ∀ b ob, b ≠ a → s.heap.get? b = some ob → h'.get? b = some ob := fun b ob ne e => (hs.2 b ne).trans e
  have hla : env.locals ≠ a := fun q => (List.nodup_cons.mp st.nodup).1 (q ▸ hm)
  refine ⟨fun b ob e => kp b ob (fun q => ?_) (st.base b ob e), fun b ob l e => ?_, fun b z e => ?_, st.disB, st.disBase, st.pl, st.nodup, fun b e => ?_, ?_, st.frames, st.gens, st.os, ht⟩
  · rw [q] at e; exact absurd (Heap.lt_size e) (Nat.not_lt.mpr hp.2.2)
  · refine Mine.hideG fun GG back => ?_
    obtain ⟨sl, e1, e2⟩ := st.keep b ob l e
    refine back ?_
    clear back
    exact ⟨sl, kp b _ (fun q => by rw [q, hp.2.1] at e; cases e) e1, e2⟩
  · obtain ⟨ob, e1, e2⟩ := st.own b z e; exact ⟨ob, kp b ob (fun q => by rw [q, hp.1] at e; cases e) e1, e2⟩
  · by_cases hb : b = a
    · subst hb; exact ⟨_, hq⟩
    · refine Mine.hideG fun GG back => ?_
      obtain ⟨u, ob, e1, e2⟩ := st.cell b e
      refine back ?_
      clear back
      exact ⟨u, ob, kp b ob hb e1, e2⟩
  · refine Mine.hideG fun GG back => ?_
    obtain ⟨mv, ⟨ob, es, ep, ho, hr⟩, hv⟩ := st.var
    refine back ?_
    clear back
    refine ⟨mv, ⟨ob, es, ep, kp _ _ hla ho, hr⟩, fun y u e => ?_⟩
    unfold setL at e
    by_cases hy : y = x
    · subst hy
      rw [if_pos rfl] at e; cases e
      rw [hk]; exact ⟨a, v, hc, hq, rfl⟩
    · rw [if_neg hy] at e
      have q := hv y u e
      have cellK : ∀ b z, env.cells.lookup y = some b → s.heap.IsCell b z → h'.IsCell b z := fun b z e ⟨ob, ho, hd⟩ =>
        ⟨ob, kp b ob (fun r => hy (cell_addr (List.nodup_cons.mp st.nodup).2 e (r ▸ hc))) ho, hd⟩
      split at q
      · exact q
      · obtain ⟨b, z, e1, e2, e3⟩ := q; exact ⟨b, z, e1, cellK b _ e1 e2, e3⟩
      · obtain ⟨b, z, e1, e2, e3⟩ := q; exact ⟨b, z, e1, cellK b _ e1 e2, e3⟩
      · exact q
theorem St.fr (st : St c o env B m H s) : ∃ mv, Fr c.base env.locals s.heap mv := by
  refine Mine.hideG fun GG back => ?_
  obtain ⟨mv, hn, _⟩ := st.var
  refine back ?_
  clear back
  exact ⟨mv, hn, st.base, (st.pl env.locals List.mem_cons_self).2.2⟩
end
noncomputable def storable (env : Env) (x : Str) : Bool := match env.kindOf x with
  | some .local => true
  | some .cell => (env.cells.map (·.1)).contains x
  | _ => false
theorem lookup_of_names : ∀ {cs : List (Str × Addr)} {x : Str}, (cs.map (·.1)).contains x = true → ∃ a, cs.lookup x = some a
  | [], x, h => by cases h
  | (n, b) :: r, x, h => by
    rw [List.lookup_cons]
    rw [List.map_cons, List.contains_cons, Bool.or_eq_true] at h
    cases hq : x == n with
    | true => exact ⟨b, rfl⟩
    | false =>
      rw [hq] at h
      exact lookup_of_names (h.resolve_left Bool.false_ne_true)
class SEnv (k : Wk) (sc : outParam Scope) (cn : outParam (List Str)) : Prop where
  sc : k.env.scope = sc
  cn : k.env.cells.map (·.1) = cn
noncomputable def storS (sc : Scope) (cn : List Str) (x : Str) : Bool := match sc.names.lookup x with
  | some .local => true
  | some .cell => cn.contains x
  | _ => false
theorem stor {k : Wk} {sc : Scope} {cn : List Str} [I : SEnv k sc cn] {x : Str} (h : storS sc cn x = true) : storable k.env x = true := by
  unfold storable Env.kindOf
  rw [I.sc, I.cn]
  exact h
theorem kindS {k : Wk} {sc : Scope} {cn : List Str} [I : SEnv k sc cn] {x : Str} {κ : NameKind} (h : sc.names.lookup x = some κ) : k.env.kindOf x = some κ := by
  unfold Env.kindOf
  rw [I.sc]
  exact h
noncomputable def Gl (c : Cx) (x : Str) (v : Value) : Prop := c.mg x = some v ∨ (c.mg x = none ∧ c.mb x = some v)
section
variable {k : Wk} {m : Loc} {H : AHeap}
theorem W_store {x : Str} {v : Value} {Q : Unit → Loc → AHeap → Prop} (hs : storable k.env x = true) (h : Q () (setL m x (er v)) H) : W k (storeName k.env x v) m H Q := fun B s st => by
  unfold storable at hs
  split at hs
  · rename_i hl
    refine Mine.hideG fun GG back => ?_
    obtain ⟨mv, hn, _⟩ := st.var
    refine back ?_
    clear back
    have hp : (k.env.scope.kind == .class || (k.env.scope.kind == .module && k.env.locals != k.env.globals)) = false := by rw [k.kind]; rfl
    rw [storeName_local hl hp]
    refine Mine.hideG fun GG back => ?_
    obtain ⟨ob, es, ep, ho, hd, hsk, hf⟩ := id hn
    refine back ?_
    clear back
    refine wpAny_nsSet hn fun h' hn' hs' => ⟨_, H, st.setLocal hl (fun mv' hm' => ?_) hs' (Nat.le_succ_of_le st.tk), h⟩
    have e : mv' = mv := by
      funext y
      refine Mine.hideG fun GG back => ?_
      obtain ⟨ob', es', ep', ho', hd', _, hf'⟩ := hm'
      refine back ?_
      clear back
      rw [ho] at ho'; cases ho'
      rw [hd] at hd'; cases hd'
      rw [← hf, ← hf']
    rw [e]; exact hn'
  · rename_i hl
    refine Mine.hideG fun GG back => ?_
    obtain ⟨a, ha⟩ := lookup_of_names hs
    obtain ⟨v₀, hc⟩ := st.cell a (List.mem_map_of_mem (f := (·.2)) (mem_of_lookup ha))
    refine back ?_
    clear back
    exact wpAny_storeName_cell k.kind hl ha hc fun h' hc' hs' => ⟨_, H, st.setCell hl ha hc' hs' st.tk, h⟩
  · cases hs
theorem W_bindName {x : Str} {v : Value} {Q : Unit → Loc → AHeap → Prop} (hs : storable k.env x = true) (h : Q () (setL m x (er v)) H) : W k (bindName k.env x v) m H Q :=
  fun B s st => wpAny_bindName (W_store hs h B s st)
theorem W_Name {x : Str} {pos : Pos} {v : V} {Q : V → Loc → AHeap → Prop} (hm : m x = some v) (h : Q v m H) (hd : (x == ("__debug__" : Str)) = false := by decide) (hn : (x == ("__classdict__" : Str)) = false := by decide) :
    WV k (eval (.Name x pos) k.env) m H Q := fun B s st => by
  refine Mine.hideG fun GG back => ?_
  obtain ⟨mv, hn', hv⟩ := st.var
  refine back ?_
  clear back
  have q := hv x v hm
  refine wpAny_Name ?_ hd
  split at q
  · rename_i hl
    refine Mine.hideG fun GG back => ?_
    obtain ⟨u, e1, rfl⟩ := q
    refine back ?_
    clear back
    exact wpAny_loadName_local k.kind hl hn' e1 ⟨m, H, st, h⟩
  · rename_i hl
    refine Mine.hideG fun GG back => ?_
    obtain ⟨a, u, e1, e2, rfl⟩ := q
    refine back ?_
    clear back
    exact wpAny_loadName_cell k.kind hl e1 e2 ⟨m, H, st, h⟩
  · rename_i hl
    refine Mine.hideG fun GG back => ?_
    obtain ⟨a, u, e1, e2, rfl⟩ := q
    refine back ?_
    clear back
    exact wpAny_loadName_free k.kind hl e1 e2 ⟨m, H, st, h⟩ hn
  · exact q.elim
theorem W_NameG {x : Str} {pos : Pos} {v : Value} {Q : V → Loc → AHeap → Prop} (hg : Gl k.c x v) (hx : k.env.kindOf x = some .globalImplicit) (h : Q (er v) m H) (hd : (x == ("__debug__" : Str)) = false := by decide) :
    WV k (eval (.Name x pos) k.env) m H Q := fun B s st => by
  have hg' : s.heap.Ns k.env.globals k.c.mg := by rw [k.glob]; exact k.c.top.g.keeps st.base
  have hb' : s.heap.Ns k.env.builtins k.c.mb := by rw [k.blt]; exact k.c.top.b.keeps st.base
  rcases hg with e | ⟨e1, e2⟩
  · exact Name_function_global k.kind hx (loadGlobal_global (env := k.env) hg' e ⟨m, H, st, h⟩) hd
  · exact Name_function_global k.kind hx (loadGlobal_builtin (env := k.env) hg' e1 hb' e2 ⟨m, H, st, h⟩) hd
theorem W_loadName {x : Str} {v : V} {Q : V → Loc → AHeap → Prop} (hm : m x = some v) (h : Q v m H) (hn : (x == ("__classdict__" : Str)) = false := by decide) :
    WV k (loadName k.env x) m H Q := fun B s st => by
  refine Mine.hideG fun GG back => ?_
  obtain ⟨mv, hn', hv⟩ := st.var
  refine back ?_
  clear back
  have q := hv x v hm
  split at q
  · rename_i hl
    refine Mine.hideG fun GG back => ?_
    obtain ⟨u, e1, rfl⟩ := q
    refine back ?_
    clear back
    exact wpAny_loadName_local k.kind hl hn' e1 ⟨m, H, st, h⟩
  · rename_i hl
    refine Mine.hideG fun GG back => ?_
    obtain ⟨a, u, e1, e2, rfl⟩ := q
    refine back ?_
    clear back
    exact wpAny_loadName_cell k.kind hl e1 e2 ⟨m, H, st, h⟩
  · rename_i hl
    refine Mine.hideG fun GG back => ?_
    obtain ⟨a, u, e1, e2, rfl⟩ := q
    refine back ?_
    clear back
    exact wpAny_loadName_free k.kind hl e1 e2 ⟨m, H, st, h⟩ hn
  · exact q.elim
theorem W_int {i : Int} {n : Nat} {pos : Pos} {Q : V → Loc → AHeap → Prop} (h : Q (.int i) m H) : WV k (eval (.Constant (.int i) n pos) k.env) m H Q :=
  W.of_wp fun B s st P hp => wpAny_Constant_int (hp _ _ h)
theorem W_str {x : Str} {n : Nat} {pos : Pos} {Q : V → Loc → AHeap → Prop} (h : ∀ t, 1 ≤ t → Q (.str x t) m H) : WV k (eval (.Constant (.str x) n pos) k.env) m H Q :=
  W.of_wp fun B s st P hp => wpAny_mkText (hp _ _ (h _ st.tk))
theorem W_bool {b : Bool} {n : Nat} {pos : Pos} {Q : V → Loc → AHeap → Prop} (h : Q (.bool b) m H) : WV k (eval (.Constant (.bool b) n pos) k.env) m H Q :=
  fun B s st => wpAny_pure ⟨m, H, st, h⟩
noncomputable def WBin (k : Wk) (op : Operator) (a b : V) (m : Loc) (H : AHeap) (Q : V → Loc → AHeap → Prop) : Prop := ∀ x y, er x = a → er y = b → WV k (binaryOp op x y) m H Q
noncomputable def WInpl (k : Wk) (op : Operator) (a b : V) (m : Loc) (H : AHeap) (Q : V → Loc → AHeap → Prop) : Prop := ∀ x y, er x = a → er y = b → WV k (inplaceOp op x y) m H Q
noncomputable def WCmp (k : Wk) (op : CmpOp) (a b : V) (m : Loc) (H : AHeap) (Q : V → Loc → AHeap → Prop) : Prop := ∀ x y, er x = a → er y = b → WV k (compareOp op x y) m H Q
noncomputable def WTr (k : Wk) (a : V) (m : Loc) (H : AHeap) (Q : Bool → Loc → AHeap → Prop) : Prop := ∀ x, er x = a → W k (truthy x) m H Q
noncomputable abbrev WT (k : Wk) (e : Expr) (m : Loc) (H : AHeap) (Q : Bool → Loc → AHeap → Prop) : Prop := W k (isTrue e k.env (eval e k.env)) m H Q
theorem W_BinOp {l r : Expr} {op : Operator} {pos : Pos} {Q : V → Loc → AHeap → Prop}
    (h : WV k (eval l k.env) m H fun a m1 H1 => WV k (eval r k.env) m1 H1 fun b m2 H2 => WBin k op a b m2 H2 Q) : WV k (eval (.BinOp l op r pos) k.env) m H Q :=
  fun B s st => wpAny_BinOp (wpAny_mono (h B s st) (fun a s1 ⟨m1, H1, st1, q1⟩ => wpAny_mono (q1 B s1 st1) (fun b s2 ⟨m2, H2, st2, q2⟩ => q2 a b rfl rfl B s2 st2) fun _ _ x => x) fun _ _ x => x)
theorem W_Compare {l r : Expr} {op : CmpOp} {pos : Pos} {Q : V → Loc → AHeap → Prop}
    (h : WV k (eval l k.env) m H fun a m1 H1 => WV k (eval r k.env) m1 H1 fun b m2 H2 => WCmp k op a b m2 H2 Q) (hm : behindInMarks op r = false := by with_unfolding_all rfl) : WV k (eval (.Compare l [op] [r] pos) k.env) m H Q :=
  fun B s st => wpAny_Compare1 (wpAny_mono (h B s st) (fun a s1 ⟨m1, H1, st1, q1⟩ => wpAny_mono (q1 B s1 st1) (fun b s2 ⟨m2, H2, st2, q2⟩ => q2 a b rfl rfl B s2 st2) fun _ _ x => x) fun _ _ x => x) hm
theorem WTr_bool {b : Bool} {Q : Bool → Loc → AHeap → Prop} (h : Q b m H) : WTr k (.bool b) m H Q := fun x e B s st => by rw [er_bool e]; exact wpAny_truthy_bool ⟨m, H, st, h⟩
theorem WT_Compare {l r : Expr} {op : CmpOp} {pos : Pos} {Q : Bool → Loc → AHeap → Prop}
    (h : WV k (eval l k.env) m H fun a m1 H1 => WV k (eval r k.env) m1 H1 fun b m2 H2 => WCmp k op a b m2 H2 fun v m3 H3 => WTr k v m3 H3 Q) (hm : behindInMarks op r = false := by with_unfolding_all rfl) :
    WT k (.Compare l [op] [r] pos) m H Q :=
  fun B s st => wpAny_isTrue_Compare1 (wpAny_mono (h B s st) (fun a s1 ⟨m1, H1, st1, q1⟩ => wpAny_mono (q1 B s1 st1) (fun b s2 ⟨m2, H2, st2, q2⟩ =>
    wpAny_mono (q2 a b rfl rfl B s2 st2) (fun v s3 ⟨m3, H3, st3, q3⟩ => q3 v rfl B s3 st3) fun _ _ x => x) fun _ _ x => x) fun _ _ x => x) hm
theorem WT_Not {x : Expr} {pos : Pos} {Q : Bool → Loc → AHeap → Prop} (h : WT k x m H fun b m1 H1 => Q (!b) m1 H1) : WT k (.UnaryOp .Not x pos) m H Q :=
  fun B s st => wpAny_isTrue_Not (h B s st)
theorem W_allTrue_nil {op : BoolOp} {Q : Bool → Loc → AHeap → Prop} (h : Q (op == .And) m H) : W k (allTrue op [] k.env) m H Q := fun B s st => wpAny_pure ⟨m, H, st, h⟩
theorem W_allTrue_and {x : Expr} {r : List Expr} {Q : Bool → Loc → AHeap → Prop} (h : WT k x m H fun b m1 H1 => if b = true then W k (allTrue .And r k.env) m1 H1 Q else Q false m1 H1) :
    W k (allTrue .And (x :: r) k.env) m H Q := by
  show W k (do match BoolOp.And, ← isTrue x k.env (eval x k.env) with
    | .And, false => pure false
    | .Or, true => pure true
    | _, _ => allTrue .And r k.env) m H Q
  refine W.bind (W.mono h fun b m1 H1 q => ?_)
  cases b
  · exact W.pure q
  · exact q
theorem W_allTrue_or {x : Expr} {r : List Expr} {Q : Bool → Loc → AHeap → Prop} (h : WT k x m H fun b m1 H1 => if b = true then Q true m1 H1 else W k (allTrue .Or r k.env) m1 H1 Q) :
    W k (allTrue .Or (x :: r) k.env) m H Q := by
  show W k (do match BoolOp.Or, ← isTrue x k.env (eval x k.env) with
    | .And, false => pure false
    | .Or, true => pure true
    | _, _ => allTrue .Or r k.env) m H Q
  refine W.bind (W.mono h fun b m1 H1 q => ?_)
  cases b
  · exact q
  · exact W.pure q
theorem WT_And {xs : List Expr} {pos : Pos} {Q : Bool → Loc → AHeap → Prop} (h : W k (allTrue .And xs k.env) m H Q) : WT k (.BoolOp .And xs pos) m H Q := h
theorem WT_Or {xs : List Expr} {pos : Pos} {Q : Bool → Loc → AHeap → Prop} (h : W k (allTrue .Or xs k.env) m H Q) : WT k (.BoolOp .Or xs pos) m H Q := h
theorem WT_plain {e : Expr} {Q : Bool → Loc → AHeap → Prop} (h : WV k (eval e k.env) m H fun v m1 H1 => WTr k v m1 H1 Q)
    (he : ∀ whole, isTrue e k.env whole = (do let v ← whole; standAt e.pos; PySem.holding [v] (truthy v)) := by intro _; rfl) : WT k e m H Q := by
  show W k (isTrue e k.env (eval e k.env)) m H Q
  rw [he]
  exact W.bind (W.mono h fun v m1 H1 q => W.bind (W.standAt (W.holding (q v rfl))))
theorem W_IfExp {t b e : Expr} {pos : Pos} {Q : V → Loc → AHeap → Prop} (h : WT k t m H fun x m1 H1 => if x = true then WV k (eval b k.env) m1 H1 Q else WV k (eval e k.env) m1 H1 Q) :
    WV k (eval (.IfExp t b e pos) k.env) m H Q := fun B s st => wpAny_IfExp (wpAny_mono (h B s st) (fun x s1 ⟨m1, H1, st1, q⟩ => by cases x <;> exact q B s1 st1) fun _ _ x => x)
/-! statements -/
noncomputable abbrev WF (k : Wk) (t : Sem Flow) (m : Loc) (H : AHeap) (Q : Flow → Loc → AHeap → Prop) : Prop := W k t m H Q
theorem W_nil {Q : Flow → Loc → AHeap → Prop} (h : Q .next m H) : W k (execs [] k.env) m H Q := fun B s st => wpAny_execs_nil ⟨m, H, st, h⟩
theorem W_cons {st : Stmt} {r : List Stmt} {Q : Flow → Loc → AHeap → Prop} (h : W k (exec st k.env) m H fun f m1 H1 => match f with | .next => W k (execs r k.env) m1 H1 Q | f => Q f m1 H1) : W k (execs (st :: r) k.env) m H Q :=
  fun B s stt => wpAny_execs_cons (wpAny_mono (h B s stt) (fun f s1 ⟨m1, H1, st1, q⟩ => by
    cases f <;> first | exact q B s1 st1 | exact ⟨m1, H1, st1, q⟩) fun _ _ x => x)
theorem W_If {t : Expr} {b e : List Stmt} {pos : Pos} {Q : Flow → Loc → AHeap → Prop} (h : WT k t m H fun x m1 H1 => if x = true then W k (execs b k.env) m1 H1 Q else W k (execs e k.env) m1 H1 Q) :
    W k (exec (.If t b e pos) k.env) m H Q := fun B s st => wpAny_If (wpAny_mono (h B s st) (fun x s1 ⟨m1, H1, st1, q⟩ => by cases x <;> exact q B s1 st1) fun _ _ x => x)
theorem W_Return {e : Expr} {pos : Pos} {Q : Flow → Loc → AHeap → Prop} (h : W k (eval e k.env) m H fun v m1 H1 => Q (.ret v) m1 H1) : W k (exec (.Return (some e) pos) k.env) m H Q :=
  fun B s st => wpAny_Return_some (h B s st)
theorem W_Expr {e : Expr} {pos : Pos} {Q : Flow → Loc → AHeap → Prop} (h : WV k (eval e k.env) m H fun _ m1 H1 => Q .next m1 H1) (hi : interactive k.env = false)
    (hs : swapsWith e none pos.line k.env = pure false) : W k (exec (.Expr e pos) k.env) m H Q :=
  fun B s st => wpAny_Expr_any (h B s st) hi hs
theorem W_Assign {x : Str} {p pos : Pos} {e : Expr} {Q : Flow → Loc → AHeap → Prop} (h : WV k (eval e k.env) m H fun v m1 H1 => Q .next (setL m1 x v) H1) (hx : storable k.env x = true)
    (hs : swapsWith e (some (.Name x p)) pos.line k.env = pure false) : W k (exec (.Assign [.Name x p] e pos) k.env) m H Q :=
  fun B s st => wpAny_Assign_Name (wpAny_mono (h B s st) (fun v s1 ⟨m1, H1, st1, q⟩ => W_store (Q := fun _ => Q .next) hx q B s1 st1) fun _ _ x => x) hs
theorem W_Aug {x : Str} {p pos : Pos} {op : Operator} {e : Expr} {old : V} {Q : Flow → Loc → AHeap → Prop} (ho : m x = some old) (h : WV k (eval e k.env) m H fun v m1 H1 => WInpl k op old v m1 H1 fun r m2 H2 => Q .next (setL m2 x r) H2)
    (hx : storable k.env x = true) (hn : (x == ("__classdict__" : Str)) = false := by decide) : W k (exec (.AugAssign (.Name x p) op e pos) k.env) m H Q :=
  fun B s st => wpAny_AugAssign_Name (wpAny_mono (W_loadName (Q := fun v m' H' => v = old ∧ m' = m ∧ H' = H) ho ⟨rfl, rfl, rfl⟩ hn B s st) (fun ov s1 hx1 => by
    refine Mine.hideG fun GG back => ?_
    obtain ⟨m1, H1, st1, e1, e2, e3⟩ := hx1
    refine back ?_
    clear back
    subst e2; subst e3
    exact wpAny_mono (h B s1 st1) (fun v s2 ⟨m2, H2, st2, q2⟩ => wpAny_mono (q2 ov v e1 rfl B s2 st2) (fun r s3 ⟨m3, H3, st3, q3⟩ => W_store (Q := fun _ => Q .next) hx q3 B s3 st3) fun _ _ x => x) fun _ _ x => x) fun _ _ x => x)
noncomputable def WSet (k : Wk) (o i v : V) (m : Loc) (H : AHeap) (Q : Loc → AHeap → Prop) : Prop := ∀ x y z, er x = o → er y = i → er z = v → W k (setItem x y z) m H fun _ => Q
theorem W_AssignSub {o i e : Expr} {p pos : Pos} {Q : Flow → Loc → AHeap → Prop}
    (h : WV k (eval e k.env) m H fun v m1 H1 => WV k (eval o k.env) m1 H1 fun ov m2 H2 => WV k (eval i k.env) m2 H2 fun iv m3 H3 => WSet k ov iv v m3 H3 (Q .next))
    (hs : swapsWith e (some (.Subscript o i p)) pos.line k.env = pure false := by rfl) : W k (exec (.Assign [.Subscript o i p] e pos) k.env) m H Q :=
  fun B s st => wpAny_Assign_Subscript (wpAny_mono (h B s st) (fun v s1 ⟨m1, H1, st1, q1⟩ => wpAny_mono (q1 B s1 st1) (fun ov s2 ⟨m2, H2, st2, q2⟩ => wpAny_mono (q2 B s2 st2) (fun iv s3 ⟨m3, H3, st3, q3⟩ =>
    q3 ov iv v rfl rfl rfl B s3 st3) fun _ _ x => x) fun _ _ x => x) fun _ _ x => x) hs
noncomputable def WAs (k : Wk) (t : Expr) (v : V) (m : Loc) (H : AHeap) (Q : Loc → AHeap → Prop) : Prop := ∀ x, er x = v → W k (assign t k.env x) m H fun _ => Q
theorem WAs_Name {x : Str} {p : Pos} {v : V} {Q : Loc → AHeap → Prop} (hx : storable k.env x = true) (h : Q (setL m x v) H) : WAs k (.Name x p) v m H Q := fun u e => by
  subst e
  show W k (do standAt p; bindName k.env x u) m H _
  exact W.bind (W.standAt (W_bindName hx h))
end
end Mine
namespace Mine
noncomputable def bindM : List (Str × V) → Loc → Loc
  | [], m => m
  | (n, v) :: r, m => bindM r (setL m n v)
noncomputable def noLoc : Loc := fun _ => none
theorem bindM_var {kindOf : Str → Option NameKind} {cs : List (Str × Addr)} : ∀ (binds : List (Str × Value)) (bl bc : Str → Option Value) (m : Loc),
    (∀ x ∈ binds, kindOf x.1 = some .local ∨ (kindOf x.1 = some .cell ∧ (cs.lookup x.1).isSome = true)) →
    (∀ x v, m x = some v → match kindOf x with
      | some .local => ∃ u, bl x = some u ∧ er u = v
      | some .cell => ∃ a u, cs.lookup x = some a ∧ bc x = some u ∧ er u = v
      | _ => False) →
    ∀ x v, bindM (binds.map fun b => (b.1, er b.2)) m x = some v → match kindOf x with
      | some .local => ∃ u, bindL kindOf binds bl x = some u ∧ er u = v
      | some .cell => ∃ a u, cs.lookup x = some a ∧ bindC kindOf binds bc x = some u ∧ er u = v
      | _ => False
  | [], bl, bc, m, hk, h => h
  | (n, w) :: r, bl, bc, m, hk, h => by
    rw [List.map_cons]
    unfold bindM bindL bindC
    refine bindM_var r _ _ _ (fun x hx => hk x (List.mem_cons_of_mem _ hx)) fun x v e => ?_
    unfold setL at e
    have hn := hk (n, w) List.mem_cons_self
    by_cases hx : x = n
    · subst hx
      rw [if_pos rfl] at e
      cases e
      rcases hn with h1 | ⟨h1, h2⟩
      · simp only [h1, if_true]; exact ⟨w, rfl, rfl⟩
      · have hnl : ¬ kindOf x = some .local := by rw [h1]; decide
        obtain ⟨a, ha⟩ := Option.isSome_iff_exists.mp h2
        simp only [h1]
        rw [if_neg (by decide)]
        exact ⟨a, w, ha, by simp, rfl⟩
    · rw [if_neg hx] at e
      have q := h x v e
      split at q
      · rename_i hl
        obtain ⟨u, e1, e2⟩ := q
        refine ⟨u, ?_, e2⟩
        split
        · simp only [hx, if_false]; exact e1
        · exact e1
      · rename_i hl
        obtain ⟨a, u, e1, e2, e3⟩ := q
        refine ⟨a, u, e1, ?_, e3⟩
        split
        · exact e2
        · simp only [hx, if_false]; exact e2
      · exact q
noncomputable def hideEnv (env : Env) (h : Heap) (B : BMap) : BMap := fun a => if a ∈ places env then (h.get? a).map fun ob => (ob, true) else B a
theorem mem_outerOf {env e : Env} {o : List Env} (h : e ∈ outerOf env o) : (e = env ∧ env.frame = some env.locals) ∨ e ∈ o := by
  unfold outerOf at h
  split at h
  · rename_i hf
    rcases List.mem_cons.mp h with rfl | h
    · exact .inl ⟨rfl, hf⟩
    · exact .inr h
  · exact .inr h
section
variable {c : Cx} {o : Out} {env : Env} {B : BMap} {m : Loc} {H : AHeap} {s : Shared}
theorem St.place (st : St c o env B m H s) {a : Addr} (h : a ∈ places env) : ∃ ob, s.heap.get? a = some ob ∧ ∀ vs, ob.data ≠ .fields vs := by
  rcases List.mem_cons.mp h with rfl | h
  · obtain ⟨mv, ⟨ob, es, ep, ho, hd, _⟩, _⟩ := st.var
    exact ⟨ob, ho, fun vs q => by rw [hd] at q; cases q⟩
  · obtain ⟨v, ob, ho, hd⟩ := st.cell a h
    exact ⟨ob, ho, fun vs q => by rw [hd] at q; cases q⟩
theorem St.enter (st : St c o env B m H s) (hke : env.scope.kind = .function) {env' : Env} {bl bc : Str → Option Value} {m' : Loc} {s₁ : Shared} (x : InCallC s env'.locals bl env'.cells bc s₁)
    (hm : ∀ y v, m' y = some v → match env'.kindOf y with
      | some .local => ∃ u, bl y = some u ∧ er u = v
      | some .cell => ∃ a u, env'.cells.lookup y = some a ∧ bc y = some u ∧ er u = v
      | _ => False) (hcl : (env'.cells.map (·.1)).Nodup) (ht : 1 ≤ s₁.toks) :
    St c ⟨outerOf env o.fs, hideEnv env s.heap B⟩ env' (hideEnv env s.heap B) m' H s₁ := by
  obtain ⟨⟨⟨h₁, tk, e⟩, hns, hkeep, hnew⟩, hcell, hap, hab⟩ := x
  subst e
  have lookups : ∀ a ∈ env'.cells.map (·.2), ∃ n, env'.cells.lookup n = some a := fun a ha => by
    obtain ⟨⟨n, b⟩, e1, rfl⟩ := List.mem_map.mp ha
    refine ⟨n, ?_⟩
    clear hcell hap hab ha
    revert hcl e1
    generalize env'.cells = cs
    intro hcl e1
    induction cs with
    | nil => cases e1
    | cons p r ih =>
      obtain ⟨n', b'⟩ := p
      rw [List.map_cons, List.nodup_cons] at hcl
      rw [List.lookup_cons]
      rcases List.mem_cons.mp e1 with e1 | e1
      · cases e1; simp
      · have hne : (n == n') = false := by
          cases hq : n == n' with
          | false => rfl
          | true => exact absurd (by rw [← eq_of_beq hq]; exact List.mem_map_of_mem (f := (·.1)) e1) hcl.1
        rw [hne]; exact ih hcl.2 e1
  have above : ∀ a ∈ places env', s.heap.objs.size ≤ a := fun a ha => by
    rcases List.mem_cons.mp ha with rfl | ha
    · exact hnew
    · obtain ⟨⟨n, b⟩, e1, rfl⟩ := List.mem_map.mp ha
      exact Nat.le_of_lt (Nat.lt_of_le_of_lt hnew (hab n b e1))
  have fresh : ∀ a ∈ places env', s.heap.get? a = none := fun a ha => st.none_at (above a ha)
  refine ⟨fun b ob e => hkeep b ob (st.base b ob e), fun b ob l e => ?_, fun b z e => ?_, fun b z e => ?_, st.disBase, fun b q => ?_, ?_, fun b e => ?_, ⟨bl, hns, fun y v e => ?_⟩, ⟨fun e he => ?_, fun _ _ e => e⟩, st.gens, st.os, ht⟩
  · unfold hideEnv at e
    split at e
    · cases hg : s.heap.get? b with
      | none => rw [hg] at e; cases e
      | some ob' => rw [hg] at e; cases e; exact ⟨ob.slots, hkeep b ob hg, fun _ => rfl⟩
    · obtain ⟨sl, e1, e2⟩ := st.keep b ob l e
      exact ⟨sl, hkeep b _ e1, e2⟩
  · obtain ⟨ob, e1, e2⟩ := st.own b z e; exact ⟨ob, hkeep b ob e1, e2⟩
  · unfold hideEnv
    rw [if_neg (fun q => by rw [(st.pl b q).1] at e; cases e)]
    exact st.disB b z e
  · obtain ⟨f1, f2, f3, f4⟩ := st.fresh (fresh b q)
    refine ⟨f1, ?_, ?_⟩
    · unfold hideEnv; rw [if_neg f4]; exact f2
    · refine Nat.le_trans ?_ (above b q)
      have hb := (st.pl env.locals List.mem_cons_self).2.2
      obtain ⟨mv, hn, _⟩ := st.var
      exact Nat.le_of_lt (Nat.lt_of_le_of_lt hb hn.lt)
  · refine List.nodup_cons.mpr ⟨fun q => ?_, ?_⟩
    · obtain ⟨⟨n, b⟩, e1, e2⟩ := List.mem_map.mp q
      exact absurd (hab n b e1) (by rw [show b = env'.locals from e2]; exact Nat.lt_irrefl _)
    · exact List.pairwise_map.mpr hap
  · obtain ⟨n, hn⟩ := lookups b e
    exact ⟨_, hcell n b hn⟩
  · have q := hm y v e
    split at q
    · rename_i hl; simp only [hl]; exact q
    · rename_i hl
      obtain ⟨a, u, e1, e2, e3⟩ := q
      simp only [hl]
      exact ⟨a, u, e1, e2 ▸ hcell y a e1, e3⟩
    · exact q.elim
  · rcases mem_outerOf (show e ∈ outerOf env o.fs from he) with ⟨rfl, hf⟩ | he
    · refine ⟨by rw [hke]; decide, e.locals, ?_⟩
      obtain ⟨ob, ho, hd⟩ := st.place (a := e.locals) List.mem_cons_self
      refine ⟨ob, hf, ?_, ?_, hd⟩
      · unfold hideEnv; rw [if_pos (show e.locals ∈ places e from List.mem_cons_self), ho]; rfl
      · cases q : c.base.get? e.locals with
        | none => rfl
        | some z => exact absurd (Heap.lt_size q) (Nat.not_lt.mpr (st.pl e.locals List.mem_cons_self).2.2)
    · obtain ⟨k1, L, ob, k2, k3, k4, k5⟩ := st.frames.1 e he
      refine ⟨k1, L, ob, k2, ?_, k4, k5⟩
      unfold hideEnv
      rw [if_neg (fun q => by rw [(st.pl L q).2.1] at k3; cases k3)]
      exact k3
theorem St.leave (st : St c o env B m H s) {env' : Env} {B' : BMap} {m' : Loc} {H' : AHeap} {s' : Shared} (st' : St c ⟨outerOf env o.fs, hideEnv env s.heap B⟩ env' B' m' H' s') : St c o env B m H' s' := by
  have hidden : ∀ a ∈ places env, ∃ ob sl, s.heap.get? a = some ob ∧ s'.heap.get? a = some { ob with slots := sl } := fun a ha => by
    obtain ⟨ob, ho, _⟩ := st.place ha
    obtain ⟨sl, e1, _⟩ := st'.keep a ob true (st'.frames.2 _ _ (by show hideEnv env s.heap B a = _; unfold hideEnv; rw [if_pos ha, ho]; rfl))
    exact ⟨ob, sl, ho, e1⟩
  have old : ∀ a x, B a = some x → B' a = some x := fun a x e => st'.frames.2 _ _ <| by
    show hideEnv env s.heap B a = some x
    unfold hideEnv
    rw [if_neg (fun q => by rw [(st.pl a q).2.1] at e; cases e)]
    exact e
  have pn : ∀ a ∈ places env, ∃ x, B' a = some x := fun a ha => by
    obtain ⟨ob, ho, _⟩ := st.place ha
    exact ⟨(ob, true), st'.frames.2 _ _ (by show hideEnv env s.heap B a = _; unfold hideEnv; rw [if_pos ha, ho]; rfl)⟩
  refine ⟨st'.base, fun b ob l e => st'.keep b ob l (old b _ e), st'.own, fun b x e => ?_, st'.disBase, fun b q => ?_, st.nodup, fun b e => ?_, ?_, st.frames, st'.gens, st'.os, st'.tk⟩
  · have h1 := st'.disB b x e
    cases hb : B b with
    | none => rfl
    | some y => rw [old b y hb] at h1; cases h1
  · obtain ⟨e1, e2, e3⟩ := st.pl b q
    refine ⟨?_, e2, e3⟩
    obtain ⟨x, hx⟩ := pn b q
    cases hb : H' b with
    | none => rfl
    | some y => have := st'.disB b y hb; rw [hx] at this; cases this
  · obtain ⟨v, ob, e1, e2⟩ := st.cell b e
    obtain ⟨ob', sl, h1, h2⟩ := hidden b (List.mem_cons_of_mem _ e)
    rw [e1] at h1; cases h1
    exact ⟨v, _, h2, e2⟩
  · obtain ⟨mv, ⟨ob, es, ep, ho, hd, hk, hf⟩, hv⟩ := st.var
    obtain ⟨ob', sl, h1, h2⟩ := hidden env.locals List.mem_cons_self
    rw [ho] at h1; cases h1
    have cellK : ∀ x a z, env.cells.lookup x = some a → s.heap.IsCell a z → s'.heap.IsCell a z := fun x a z e ⟨ob, ho, hd⟩ => by
      obtain ⟨ob', sl, h1, h2⟩ := hidden a (List.mem_cons_of_mem _ (List.mem_map_of_mem (f := (·.2)) (mem_of_lookup e)))
      rw [ho] at h1; cases h1
      exact ⟨_, h2, hd⟩
    refine ⟨mv, ⟨_, es, ep, h2, hd, hk, hf⟩, fun x v e => ?_⟩
    have q := hv x v e
    split at q
    · exact q
    · obtain ⟨a, u, e1, e2, e3⟩ := q; exact ⟨a, u, e1, cellK x a _ e1 e2, e3⟩
    · obtain ⟨a, u, e1, e2, e3⟩ := q; exact ⟨a, u, e1, cellK x a _ e1 e2, e3⟩
    · exact q
theorem St.funFrames (st : St c o env B m H s) (hk : env.scope.kind = .function) : s.heap.FunFrames c.base (outerOf env o.fs) := by
  have hb : ∀ L, c.base.objs.size ≤ L → c.base.get? L = none := fun L h => none_ge h
  have go : ∀ l : List Env, (∀ e ∈ l, e.scope.kind ≠ .module ∧ ∃ L ob, e.frame = some L ∧ B L = some (ob, true) ∧ c.base.get? L = none ∧ ∀ vs, ob.data ≠ .fields vs) → s.heap.FunFrames c.base l := by
    intro l
    induction l with
    | nil => intro _; trivial
    | cons f r ih =>
      intro h
      obtain ⟨k1, L, ob, k2, k3, k4, k5⟩ := h f List.mem_cons_self
      obtain ⟨sl, e1, _⟩ := st.keep L ob true k3
      exact ⟨k1, ⟨L, _, k2, k4, e1, k5⟩, ih fun e he => h e (List.mem_cons_of_mem _ he)⟩
  unfold outerOf
  split
  · rename_i hf
    obtain ⟨ob, ho, hd⟩ := st.place (a := env.locals) List.mem_cons_self
    exact ⟨by rw [hk]; decide, ⟨env.locals, ob, hf, hb _ (st.pl _ List.mem_cons_self).2.2, ho, hd⟩, go _ st.frames.1⟩
  · exact go _ st.frames.1
theorem St.flown (st : St c o env B m H s) {base' h' : Heap} {tk : Nat} (hO : Ours c o env B H base') (h0 : base'.StaysIn s.heap) (h1 : base'.StaysIn h') (hu : s.heap.UpToSlots h') (ht : 1 ≤ tk) : St c o env B m H { s with heap := h', toks := tk } := by
  have notFrame : ∀ b, (∃ f ∈ outerOf env o.fs, f.frame = some b) → b ∈ places env ∨ ∃ ob, B b = some (ob, true) ∧ ∀ vs, ob.data ≠ .fields vs := fun b ⟨f, hf, e⟩ => by
    rcases mem_outerOf hf with ⟨rfl, hl⟩ | hf
    · rw [hl] at e; cases e; exact .inl List.mem_cons_self
    · obtain ⟨k1, L, ob, k2, k3, k4, k5⟩ := st.frames.1 f hf
      rw [k2] at e; cases e; exact .inr ⟨ob, k3, k5⟩
  have cellSame : ∀ a ∈ env.cells.map (·.2), ∀ ob, s.heap.get? a = some ob → h'.get? a = some ob := fun a ha ob ho => by
    have hp := st.pl a (List.mem_cons_of_mem _ ha)
    rcases hO.own a (.inr (.inr (List.mem_cons_of_mem _ ha))) with ⟨f, hf, e⟩ | ⟨ob', e'⟩
    · rcases mem_outerOf hf with ⟨rfl, hl⟩ | hf
      · rw [hl] at e; cases e
        exact absurd ha (List.nodup_cons.mp st.nodup).1
      · obtain ⟨k1, L, ob, k2, k3, k4, k5⟩ := st.frames.1 f hf
        rw [k2] at e; cases e; rw [hp.2.1] at k3; cases k3
    · have := h0 a ob' e'; rw [ho] at this; cases this; exact h1 a _ e'
  refine ⟨fun b ob e => h1 b ob (hO.cb b ob e), fun b ob l e => ?_, fun b x e => ?_, st.disB, st.disBase, st.pl, st.nodup, fun b e => ?_, ?_, st.frames, st.gens, st.os, ht⟩
  · obtain ⟨sl, e1, e2⟩ := st.keep b ob l e
    rcases hO.own b (.inr (.inl (by rw [e]; rfl))) with hf | ⟨ob', e'⟩
    · rcases notFrame b hf with hp | ⟨ob', k3, k5⟩
      · rw [(st.pl b hp).2.1] at e; cases e
      · rw [e] at k3; cases k3
        obtain ⟨sl', e3⟩ := hu b _ e1 k5
        exact ⟨sl', e3, fun q => by cases q⟩
    · have := h0 b ob' e'; rw [e1] at this; cases this
      exact ⟨sl, h1 b _ e', e2⟩
  · obtain ⟨ob, e1, e2⟩ := st.own b x e
    rcases hO.own b (.inl (by rw [e]; rfl)) with hf | ⟨ob', e'⟩
    · rcases notFrame b hf with hp | ⟨ob', k3, k5⟩
      · rw [(st.pl b hp).1] at e; cases e
      · rw [st.disB b x e] at k3; cases k3
    · have := h0 b ob' e'; rw [e1] at this; cases this
      exact ⟨ob, h1 b _ e', e2⟩
  · obtain ⟨v, ob, e1, e2⟩ := st.cell b e
    exact ⟨v, ob, cellSame b e ob e1, e2⟩
  · obtain ⟨mv, hn, hv⟩ := st.var
    refine ⟨mv, hu.ns hn, fun x v e => ?_⟩
    have cellK : ∀ x a z, env.cells.lookup x = some a → s.heap.IsCell a z → h'.IsCell a z := fun x a z e ⟨ob, ho, hd⟩ =>
      ⟨ob, cellSame a (List.mem_map_of_mem (f := (·.2)) (mem_of_lookup e)) ob ho, hd⟩
    have q := hv x v e
    split at q
    · exact q
    · obtain ⟨a, u, e1, e2, e3⟩ := q; exact ⟨a, u, e1, cellK x a _ e1 e2, e3⟩
    · obtain ⟨a, u, e1, e2, e3⟩ := q; exact ⟨a, u, e1, cellK x a _ e1 e2, e3⟩
    · exact q.elim
theorem St.making0 (st : St c o env B m H s) (hk : env.scope.kind = .function) {h' : Heap} {e : Addr} {cls : String} {xs : Option (List V)} {tk : Nat} {ob : Obj} {a0 : Value} (hkeep : ∀ b o, s.heap.get? b = some o → h'.get? b = some o) (hnew : s.heap.get? e = none) (he : h'.get? e = some ob) (hc : ob.cls = .type cls)
    (hd : ob.data = .fields #[a0, .none, .none, .none, .bool false, .none]) (ha : ∀ l, xs = some l → ∃ t vs n, a0 = .ref t ∧ (vs : List Value).map er = l ∧ h'.get? t = some { cls := .type "tuple", data := .seq vs.toArray n } ∧ s.heap.objs.size ≤ t ∧ s.heap.objs.size ≤ e ∧ t ≠ e) (ht : 1 ≤ tk) :
    St c o env B m H { s with heap := h', toks := tk } ∧ Made c o env B H e cls xs h' := by
  have stg := st.grown hkeep ht
  have frames : ∀ b ∈ (outerOf env o.fs).filterMap (·.frame), ∃ ob, s.heap.get? b = some ob ∧ c.base.get? b = none := fun b hm => by
    obtain ⟨f, hf, e⟩ := List.mem_filterMap.mp hm
    rcases mem_outerOf hf with ⟨rfl, hl⟩ | hf
    · rw [hl] at e; cases e
      obtain ⟨ob, ho, _⟩ := st.place (a := f.locals) List.mem_cons_self
      exact ⟨ob, ho, none_ge (st.pl f.locals List.mem_cons_self).2.2⟩
    · obtain ⟨k1, L, ob, k2, k3, k4, k5⟩ := st.frames.1 f hf
      rw [k2] at e; cases e
      obtain ⟨sl, e1, _⟩ := st.keep _ ob true k3
      exact ⟨{ ob with slots := sl }, e1, k4⟩
  have away : ∀ a, s.heap.objs.size ≤ a → Away env B H a := fun a h => by
    obtain ⟨f1, f2, f3, f4⟩ := st.fresh (st.none_at h)
    exact ⟨f1, f2, f4⟩
  refine ⟨stg, hideAll h' (e :: (outerOf env o.fs).filterMap (·.frame)), ob, a0, ⟨fun b ob q => hideAll_get _ (hkeep b ob (st.base b ob q)) fun hm => ?_, fun b q => ?_⟩, fun b ob q => of_hideAll _ q, funFrames_hide (stg.funFrames hk) fun f hf a e => List.mem_cons_of_mem _ (List.mem_filterMap.mpr ⟨f, hf, e⟩),
    hideAll_none _ List.mem_cons_self, he, hc, hd, fun l q => ?_⟩
  · rcases List.mem_cons.mp hm with rfl | hm
    · have := st.base b ob q; rw [hnew] at this; cases this
    · obtain ⟨_, _, k4⟩ := frames b hm
      rw [k4] at q; cases q
  · by_cases hm : b ∈ (outerOf env o.fs).filterMap (·.frame)
    · obtain ⟨f, hf, e⟩ := List.mem_filterMap.mp hm
      exact .inl ⟨f, hf, e⟩
    · refine .inr ?_
      have : ∃ ob, s.heap.get? b = some ob := by
        rcases q with q | q | q
        · obtain ⟨x, hx⟩ := Option.isSome_iff_exists.mp q
          obtain ⟨ob, e1, _⟩ := st.own b x hx; exact ⟨ob, e1⟩
        · obtain ⟨⟨ob, l⟩, hx⟩ := Option.isSome_iff_exists.mp q
          obtain ⟨sl, e1, _⟩ := st.keep b ob l hx; exact ⟨_, e1⟩
        · obtain ⟨ob, e1, _⟩ := st.place q; exact ⟨ob, e1⟩
      obtain ⟨ob, ho⟩ := this
      refine ⟨ob, hideAll_get _ (hkeep b ob ho) fun hm' => ?_⟩
      rcases List.mem_cons.mp hm' with rfl | hm'
      · rw [hnew] at ho; cases ho
      · exact hm hm'
  · obtain ⟨t, vs, n, h1, h2, h3, h4, h5, h6⟩ := ha l q
    refine ⟨t, vs, n, h1, h2, hideAll_get _ h3 fun hm => ?_, Nat.le_trans st.baseLe h4, Nat.le_trans st.baseLe h5, away t h4, away e h5⟩
    rcases List.mem_cons.mp hm with rfl | hm
    · exact h6 rfl
    · obtain ⟨_, e1, _⟩ := frames t hm
      rw [st.none_at h4] at e1; cases e1
theorem St.makingNew (st : St c o env B m H s) (hk : env.scope.kind = .function) {h' : Heap} {e : Addr} {cls : String} {tk : Nat} (hx : Heap.NewExc s.heap h' e cls) (ht : 1 ≤ tk) :
    St c o env B m H { s with heap := h', toks := tk } ∧ Made c o env B H e cls none h' := by
  obtain ⟨ob, a0, he, hc, hd⟩ := hx.there
  exact st.making0 hk hx.keeps hx.new he hc hd (fun l q => by cases q) ht
theorem Away.leave {env' : Env} {B' : BMap} {m' : Loc} {H' : AHeap} {s₀ s' : Shared} (st₀ : St c o env B m H s₀) (st' : St c ⟨outerOf env o.fs, hideEnv env s₀.heap B⟩ env' B' m' H' s') {a : Addr} (h : Away env' B' H' a) : Away env B H' a := by
  obtain ⟨h1, h2, h3⟩ := h
  refine ⟨h1, ?_, fun q => ?_⟩
  · cases e : B a with
    | none => rfl
    | some x =>
      rw [st'.frames.2 a x (by show hideEnv env s₀.heap B a = _; unfold hideEnv; rw [if_neg (fun z => by rw [(st₀.pl a z).2.1] at e; cases e)]; exact e)] at h2
      cases h2
  · obtain ⟨ob, ho, _⟩ := st₀.place q
    rw [st'.frames.2 a (ob, true) (by show hideEnv env s₀.heap B a = _; unfold hideEnv; rw [if_pos q, ho]; rfl)] at h2
    cases h2
theorem ArgsOf.leave {env' : Env} {B' : BMap} {m' : Loc} {H' : AHeap} {s₀ s' : Shared} (st₀ : St c o env B m H s₀) (st' : St c ⟨outerOf env o.fs, hideEnv env s₀.heap B⟩ env' B' m' H' s') {base' : Heap} {e : Addr} {a0 : Value} {l : List V} (h : ArgsOf c env' B' H' base' e a0 l) : ArgsOf c env B H' base' e a0 l := by
  obtain ⟨t, vs, n, h1, h2, h3, h4, h5, h6, h7⟩ := h
  exact ⟨t, vs, n, h1, h2, h3, h4, h5, h6.leave st₀ st', h7.leave st₀ st'⟩
theorem Ours.leave {env' : Env} {B' : BMap} {m' : Loc} {H' : AHeap} {s₀ s' : Shared} (st₀ : St c o env B m H s₀) (st' : St c ⟨outerOf env o.fs, hideEnv env s₀.heap B⟩ env' B' m' H' s') {base' : Heap} (hf' : env'.frame = some env'.locals)
    (hO : Ours c ⟨outerOf env o.fs, hideEnv env s₀.heap B⟩ env' B' H' base') : Ours c o env B H' base' := by
  refine ⟨hO.cb, fun b q => ?_⟩
  have q' : (H' b).isSome ∨ (B' b).isSome := by
    rcases q with q | q | q
    · exact .inl q
    · obtain ⟨x, hx⟩ := Option.isSome_iff_exists.mp q
      refine .inr ?_
      rw [st'.frames.2 b x (by show hideEnv env s₀.heap B b = _; unfold hideEnv; rw [if_neg (fun z => by rw [(st₀.pl b z).2.1] at hx; cases hx)]; exact hx)]; rfl
    · obtain ⟨ob, ho, _⟩ := st₀.place q
      refine .inr ?_
      rw [st'.frames.2 b (ob, true) (by show hideEnv env s₀.heap B b = _; unfold hideEnv; rw [if_pos q, ho]; rfl)]; rfl
  rcases hO.own b (by rcases q' with q' | q'; exact .inl q'; exact .inr (.inl q')) with ⟨f, hf, e⟩ | r
  · rcases mem_outerOf (show f ∈ outerOf env' (outerOf env o.fs) from hf) with ⟨rfl, hl⟩ | hf
    · rw [hl] at e; cases e
      have hp := st'.pl f.locals List.mem_cons_self
      rcases q' with q' | q'
      · rw [hp.1] at q'; cases q'
      · rw [hp.2.1] at q'; cases q'
    · exact .inl ⟨f, hf, e⟩
  · exact .inr r
end
structure FnAt (c : Cx) (f : Addr) (fd : FuncData) (body : List Stmt) : Prop where
  obj : ∃ fo, c.base.get? f = some fo ∧ fo.data = .func fd
  code : c.base.CodeRec fd.code fd.qualname
  body : fd.body = .stmts body
  kind : fd.scope.kind = .function
  co : fd.scope.isCoroutine = false
  gen : fd.scope.isGenerator = false
  glob : fd.globals = mainGlobals
  blt : fd.builtins = builtinsNs
  clo : fd.closure = []
  names : (fd.scope.names.map (·.1)).Nodup
theorem cellsFrom_names : ∀ (names : List (Str × NameKind)) (n : Nat) (acc : List (Str × Addr)), (names.map (·.1)).Nodup → (acc.map (·.1)).Nodup → (∀ x ∈ names.map (·.1), x ∉ acc.map (·.1)) → ((cellsFrom n names acc).map (·.1)).Nodup
  | [], n, acc, h1, h2, h3 => h2
  | (x, k) :: r, n, acc, h1, h2, h3 => by
    rw [List.map_cons, List.nodup_cons] at h1
    unfold cellsFrom
    split
    · refine cellsFrom_names r (n + 1) _ h1.2 ?_ fun y hy q => ?_
      · rw [List.map_cons, List.nodup_cons]; exact ⟨h3 x List.mem_cons_self, h2⟩
      · rw [List.map_cons] at q
        rcases List.mem_cons.mp q with rfl | q
        · exact h1.1 hy
        · exact h3 y (List.mem_cons_of_mem _ hy) q
    · exact cellsFrom_names r n acc h1.2 h2 fun y hy => h3 y (List.mem_cons_of_mem _ hy)
theorem cellsFrom_map : ∀ (names : List (Str × NameKind)) (n n' : Nat) (acc acc' : List (Str × Addr)), acc.map (·.1) = acc'.map (·.1) → (cellsFrom n names acc).map (·.1) = (cellsFrom n' names acc').map (·.1)
  | [], n, n', acc, acc', h => h
  | (x, k) :: r, n, n', acc, acc', h => by
    unfold cellsFrom
    split
    · exact cellsFrom_map r _ _ _ _ (by rw [List.map_cons, List.map_cons, h])
    · exact cellsFrom_map r _ _ _ _ h
noncomputable def cellNames (names : List (Str × NameKind)) : List Str := (cellsFrom 0 names []).map (·.1)
structure Sub (c : Cx) (A : Around) (fd : FuncData) (X : String → Option (List V) → AHeap → Prop) (k : Wk) : Prop where
  c : k.c = c
  sc : k.env.scope = fd.scope
  cn : k.env.cells.map (·.1) = cellNames fd.scope.names
  frame : k.env.frame = some k.env.locals
  depth : k.A.depth = A.depth + 1
  units : k.A.units = A.units + 3
  handled : k.A.handled = A.handled
  guards : k.A.guards = A.guards
  X : k.X = fun cls xs _ H => X cls xs H
  here : k.here
theorem Sub.senv {c : Cx} {A : Around} {fd : FuncData} {X : String → Option (List V) → AHeap → Prop} {k : Wk} (h : Sub c A fd X k) : SEnv k fd.scope (cellNames fd.scope.names) := ⟨h.sc, h.cn⟩
noncomputable def Fn (c : Cx) (A : Around) (f : Value) (args : Args) (H : AHeap) (Q : V → AHeap → Prop) (X : String → Option (List V) → AHeap → Prop) : Prop :=
  ∀ o env B m s, env.scope.kind = .function → A.frames = some (outerOf env o.fs) → St c o env B m H s → codeAny (model c.prog c.w) A (.call f args) (fun r s' => match r with
    | .ok (.ret v) => ∃ H', St c o env B m H' s' ∧ Q (er v) H'
    | .error x => ∃ H' a cls xs, x = .ref a ∧ St c o env B m H' s' ∧ InFl c o env B H' a cls xs s'.heap ∧ X cls xs H'
    | _ => False) s
noncomputable abbrev NoX : String → Option (List V) → AHeap → Prop := fun _ _ _ => False
noncomputable def flowV : Flow → V
  | .ret v => er v
  | _ => .none
theorem Fn.mono {c : Cx} {A : Around} {f : Value} {args : Args} {H : AHeap} {Q Q' : V → AHeap → Prop} {X X' : String → Option (List V) → AHeap → Prop} (h : Fn c A f args H Q X) (hQ : ∀ v H, Q v H → Q' v H) (hX : ∀ a b H, X a b H → X' a b H) : Fn c A f args H Q' X' :=
  fun o env B m s hk hf st => codeAny_mono (h o env B m s hk hf st) fun r s' q => by
    split at q
    · obtain ⟨H', st', q⟩ := q; exact ⟨H', st', hQ _ _ q⟩
    · obtain ⟨H', a, cls, xs, e, st', i, q⟩ := q; exact ⟨H', a, cls, xs, e, st', i, hX _ _ _ q⟩
    · exact q.elim
theorem Fn.of_body {c : Cx} {A : Around} {f : Addr} {fd : FuncData} {body : List Stmt} {args : Args} {binds : List (Str × Value)} {H : AHeap} {Q : V → AHeap → Prop} {X : String → Option (List V) → AHeap → Prop} (F : FnAt c f fd body)
    (hroom : A.depth < recursionLimit) (hbind : ∀ s, c.base.StaysIn s.heap → BindsTo s fd args binds)
    (hkind : (binds.all fun y => fd.scope.names.lookup y.1 == some .local || fd.scope.names.lookup y.1 == some .cell) = true)
    (h : ∀ k, Sub c A fd X k → W k (execs body k.env) (bindM (binds.map fun b => (b.1, er b.2)) noLoc) H fun fl _ H' => Q (flowV fl) H') : Fn c A (.ref f) args H Q X := by
  intro o env B m s hke hfr st
  obtain ⟨fo, hfo, hd⟩ := F.obj
  have hnd := cellsFrom_names fd.scope.names
  refine codeAny_call_function hroom (st.base f fo hfo) hd F.co F.gen F.body (F.code.keeps st.base) (hbind s st.base _ _ _ _ ?_)
  rw [F.clo]
  refine wpAny_mono (wpAny_toks_of st.tk (wpAny_newFunctionEnv_cells (E := fun _ _ => False) (Q := fun e s₁ => e = callEnvC fd s.heap.objs.size f ∧ InCallC s e.locals (bindL e.kindOf binds fun _ => none) e.cells (bindC e.kindOf binds fun _ => none) s₁)
    F.kind (kindsX hkind _) fun env' he s₁ x => ⟨he, x⟩)) (fun env' s₁ q => ?_) fun _ _ x => x.2.elim
  obtain ⟨ht, rfl, x⟩ := q
  have hmk : ∀ y v, bindM (binds.map fun b => (b.1, er b.2)) noLoc y = some v → match (callEnvC fd s.heap.objs.size f).kindOf y with
      | some .local => ∃ u, bindL (callEnvC fd s.heap.objs.size f).kindOf binds (fun _ => none) y = some u ∧ er u = v
      | some .cell => ∃ a u, (callEnvC fd s.heap.objs.size f).cells.lookup y = some a ∧ bindC (callEnvC fd s.heap.objs.size f).kindOf binds (fun _ => none) y = some u ∧ er u = v
      | _ => False :=
    bindM_var binds _ _ noLoc (kindsX hkind _) (fun y v e => by cases e)
  have st₁ := st.enter hke (env' := callEnvC fd s.heap.objs.size f) x hmk (hnd _ [] F.names List.nodup_nil (fun _ _ q => by cases q)) ht
  refine ⟨c.top.nolimit.keeps fun b ob e => x.toInCall.keep b ob (st.base b ob e), codeAny_func ?_⟩
  have hframe : (callEnvC fd s.heap.objs.size f).frame = some (callEnvC fd s.heap.objs.size f).locals := rfl
  have hA : (A.deeper (callEnvC fd s.heap.objs.size f)).frames = some (callEnvC fd s.heap.objs.size f :: outerOf env o.fs) := by show A.frames.map _ = _; rw [hfr]; rfl
  have hout : outerOf (callEnvC fd s.heap.objs.size f) (outerOf env o.fs) = callEnvC fd s.heap.objs.size f :: outerOf env o.fs := if_pos hframe
  let k : Wk := {
    c := c, A := A.deeper (callEnvC fd s.heap.objs.size f), o := ⟨outerOf env o.fs, hideEnv env s.heap B⟩, env := callEnvC fd s.heap.objs.size f,
    E := fun e s' => wpAny (model c.prog c.w) (A.deeper (callEnvC fd s.heap.objs.size f)) (leaving (callEnvC fd s.heap.objs.size f) e)
      (fun _ s'' => ∃ H' a cls xs, e = .ref a ∧ St c o env B m H' s'' ∧ InFl c o env B H' a cls xs s''.heap ∧ X cls xs H')
      (fun e' s'' => ∃ H' a cls xs, e' = .ref a ∧ St c o env B m H' s'' ∧ InFl c o env B H' a cls xs s''.heap ∧ X cls xs H') s',
    X := fun cls xs _ H => X cls xs H, here := True,
    pass := PassesOwn.leaving,
    fly := fun B' m' H' s' e cls xs st' i hX => by
      obtain ⟨base', a0, hO, hfl, hargs⟩ := i
      rw [show outerOf (callEnvC fd s.heap.objs.size f) (outerOf env o.fs) = callEnvC fd s.heap.objs.size f :: outerOf env o.fs from hout] at hfl
      have hO' := Ours.leave st st' hframe hO
      refine wpAny_leaves_onW hA hframe hfl fun h' hfl' hu => ?_
      exact ⟨H', e, cls, xs, rfl, (st.leave st').flown hO' hfl.1 hfl'.1 hu st'.tk, ⟨base', a0, hO', hfl', fun l q => (hargs l q).leave st st'⟩, hX⟩,
    made := fun _ B' m' H' s' e cls xs st' i hX => by
      obtain ⟨base', ob, a0, hO, hs0, hff, hnew, he, hc, hd, hargs⟩ := i
      rw [show outerOf (callEnvC fd s.heap.objs.size f) (outerOf env o.fs) = callEnvC fd s.heap.objs.size f :: outerOf env o.fs from hout] at hff
      have hO' := Ours.leave st st' hframe hO
      refine wpAny_leaving_firstW (a0 := a0) hA hff hframe he hs0 hnew hd rfl rfl fun h' hL => ?_
      rw [hc] at hL
      obtain ⟨k1, ⟨_, _, k2⟩, k3, k4⟩ := hL
      exact ⟨H', e, cls, xs, rfl, (st.leave st').flown hO' hs0 k1 k4 st'.tk, ⟨base', a0, hO', ⟨k1, hnew, k2, k3⟩, fun l q => (hargs l q).leave st st'⟩, hX⟩,
    kind := F.kind, glob := F.glob, blt := F.blt, frames := hA.trans (congrArg some hout.symm), fat := .inl hframe }
  have hk := h k ⟨rfl, rfl, cellsFrom_map _ _ _ _ _ rfl, rfl, rfl, rfl, rfl, rfl, rfl, trivial⟩ (hideEnv env s.heap B) s₁ st₁
  refine wpAny_mono hk (fun fl s' q => ?_) fun e s' q => ?_
  · obtain ⟨m', H', st', q⟩ := q
    refine ⟨H', st.leave st', ?_⟩
    cases fl <;> exact q
  · exact q
end Mine
namespace Mine
section
variable {k : Wk} {m : Loc} {H : AHeap}
/-! ints -/
theorem WBin_add {i j : Int} {Q : V → Loc → AHeap → Prop} (h : Q (.int (i + j)) m H) : WBin k .Add (.int i) (.int j) m H Q := fun x y hx hy => by
  obtain ⟨t, rfl⟩ := er_int hx; obtain ⟨u, rfl⟩ := er_int hy
  exact W.of_wp fun B s st P hp => wpAny_add_int (hp _ _ h)
theorem WBin_sub {i j : Int} {Q : V → Loc → AHeap → Prop} (h : Q (.int (i - j)) m H) : WBin k .Sub (.int i) (.int j) m H Q := fun x y hx hy => by
  obtain ⟨t, rfl⟩ := er_int hx; obtain ⟨u, rfl⟩ := er_int hy
  exact W.of_wp fun B s st P hp => PyProof.Rows.sub_int (hp _ _ h)
structure Roomy (k : Wk) : Prop where
  depth : k.A.depth + Builtin.pylongFrames < recursionLimit
  imp : importsNone k.c.p = true
  tree : k.c.prog.given.tree = none
  fr : ∃ e r, k.A.frames = some (e :: r) ∧ e.scope.isGenerator = false ∧ e.scope.isCoroutine = false ∧ e.builtins = builtinsNs ∧ e.globals = mainGlobals
theorem pylong_of {B : BMap} {s : Shared} (hr : Roomy k) (st : St k.c k.o k.env B m H s) : PylongRoom (model k.c.prog k.c.w) k.A s := by
  obtain ⟨e, r, h1, h2, h3, h4, h5⟩ := hr.fr
  exact PylongRoom.of (k.c.top.nolimit.keeps st.base) hr.depth (SeerAt.of ((k.c.top.seer hr.imp).keeps st.base) hr.tree h1 h2 h3 h4 h5)
theorem WBin_fdiv {i j : Int} {Q : V → Loc → AHeap → Prop} (hr : Roomy k) (hj : j ≠ 0) (h : Q (.int (i.fdiv j)) m H) : WBin k .FloorDiv (.int i) (.int j) m H Q := fun x y hx hy => by
  obtain ⟨t, rfl⟩ := er_int hx; obtain ⟨u, rfl⟩ := er_int hy
  exact W.of_wp fun B s st P hp => PyProof.Rows.floordiv_int hj (hp _ _ h) (.inr (pylong_of hr st))
theorem WInpl_fdiv {i j : Int} {Q : V → Loc → AHeap → Prop} (hr : Roomy k) (hj : j ≠ 0) (h : Q (.int (i.fdiv j)) m H) : WInpl k .FloorDiv (.int i) (.int j) m H Q := fun x y hx hy => by
  obtain ⟨t, rfl⟩ := er_int hx; obtain ⟨u, rfl⟩ := er_int hy
  exact W.of_wp fun B s st P hp => PyProof.Rows.ifloordiv_int hj (hp _ _ h) (.inr (pylong_of hr st))
theorem WBin_mod {i j : Int} {Q : V → Loc → AHeap → Prop} (hr : Roomy k) (hj : j ≠ 0) (h : Q (.int (i.fmod j)) m H) : WBin k .Mod (.int i) (.int j) m H Q := fun x y hx hy => by
  obtain ⟨t, rfl⟩ := er_int hx; obtain ⟨u, rfl⟩ := er_int hy
  exact W.of_wp fun B s st P hp => PyProof.Rows.mod_int' hj (hp _ _ h)
theorem WBin_pow {i j : Int} {Q : V → Loc → AHeap → Prop} (h0 : 0 ≤ j) (h1 : j ≤ 1000000) (h2 : i.natAbs < 2 ^ 64) (h : Q (.int (i ^ j.toNat)) m H) : WBin k .Pow (.int i) (.int j) m H Q := fun x y hx hy => by
  obtain ⟨t, rfl⟩ := er_int hx; obtain ⟨u, rfl⟩ := er_int hy
  exact W.of_wp fun B s st P hp => PyProof.Rows.pow_int h0 (bits_mul_le h2 h0 h1) (hp _ _ h)
noncomputable def WUn (k : Wk) (op : UnaryOp) (a : V) (m : Loc) (H : AHeap) (Q : V → Loc → AHeap → Prop) : Prop := ∀ x, er x = a → WV k (unaryOp op x) m H Q
theorem W_UnaryOp {op : UnaryOp} {e : Expr} {pos : Pos} {Q : V → Loc → AHeap → Prop} (h : WV k (eval e k.env) m H fun v m1 H1 => WUn k op v m1 H1 Q) : WV k (eval (.UnaryOp op e pos) k.env) m H Q :=
  fun B s st => wpAny_UnaryOp (wpAny_mono (h B s st) (fun v s1 ⟨m1, H1, st1, q⟩ => q v rfl B s1 st1) fun _ _ x => x)
theorem WUn_neg {i : Int} {Q : V → Loc → AHeap → Prop} (h : Q (.int (-i)) m H) : WUn k .USub (.int i) m H Q := fun x hx => by
  obtain ⟨t, rfl⟩ := er_int hx
  exact W.of_wp fun B s st P hp => PyProof.Rows.neg_int (hp _ _ h)
theorem WCmp_lt {i j : Int} {Q : V → Loc → AHeap → Prop} (h : Q (.bool (decide (i < j))) m H) : WCmp k .Lt (.int i) (.int j) m H Q := fun x y hx hy => by
  obtain ⟨t, rfl⟩ := er_int hx; obtain ⟨u, rfl⟩ := er_int hy
  exact W.of_wp fun B s st P hp => wpAny_lt_int (hp _ s.toks h)
theorem WCmp_gt {i j : Int} {Q : V → Loc → AHeap → Prop} (h : Q (.bool (decide (j < i))) m H) : WCmp k .Gt (.int i) (.int j) m H Q := fun x y hx hy => by
  obtain ⟨t, rfl⟩ := er_int hx; obtain ⟨u, rfl⟩ := er_int hy
  exact W.of_wp fun B s st P hp => PyProof.Rows.gt_int (hp _ s.toks h)
theorem WCmp_ge {i j : Int} {Q : V → Loc → AHeap → Prop} (h : Q (.bool (decide (j ≤ i))) m H) : WCmp k .GtE (.int i) (.int j) m H Q := fun x y hx hy => by
  obtain ⟨t, rfl⟩ := er_int hx; obtain ⟨u, rfl⟩ := er_int hy
  exact W.of_wp fun B s st P hp => PyProof.Rows.ge_int (hp _ s.toks h)
theorem WCmp_eq {i j : Int} {Q : V → Loc → AHeap → Prop} (h : Q (.bool (decide (i = j))) m H) : WCmp k .Eq (.int i) (.int j) m H Q := fun x y hx hy => by
  obtain ⟨t, rfl⟩ := er_int hx; obtain ⟨u, rfl⟩ := er_int hy
  have e : (i == j) = decide (i = j) := by by_cases hij : i = j <;> simp [hij]
  exact W.of_wp fun B s st P hp => PyProof.Rows.eq_int (e ▸ hp _ s.toks h)
theorem WCmp_ne {i j : Int} {Q : V → Loc → AHeap → Prop} (h : Q (.bool (decide (i ≠ j))) m H) : WCmp k .NotEq (.int i) (.int j) m H Q := fun x y hx hy => by
  obtain ⟨t, rfl⟩ := er_int hx; obtain ⟨u, rfl⟩ := er_int hy
  have e : (i != j) = decide (i ≠ j) := by by_cases hij : i = j <;> simp [hij]
  exact W.of_wp fun B s st P hp => PyProof.Rows.ne_int (e ▸ hp _ s.toks h)
/-! texts -/
theorem WCmp_eqS {a b : Str} {t u : Tok} {Q : V → Loc → AHeap → Prop} (h : Q (.bool (decide (a = b))) m H) : WCmp k .Eq (.str a t) (.str b u) m H Q := fun x y hx hy => by
  obtain rfl := er_str hx; obtain rfl := er_str hy
  have e : (a == b) = decide (a = b) := by by_cases hij : a = b <;> simp [hij]
  exact W.of_wp fun B s st P hp => PyProof.Rows.eq_str (e ▸ hp _ s.toks h)
theorem WCmp_neS {a b : Str} {t u : Tok} {Q : V → Loc → AHeap → Prop} (h : Q (.bool (decide (a ≠ b))) m H) : WCmp k .NotEq (.str a t) (.str b u) m H Q := fun x y hx hy => by
  obtain rfl := er_str hx; obtain rfl := er_str hy
  have e : (a != b) = decide (a ≠ b) := by by_cases hij : a = b <;> simp [hij]
  exact W.of_wp fun B s st P hp => PyProof.Rows.ne_str (e ▸ hp _ s.toks h)
/-! is -/
theorem WCmp_isTy {a b : String} {Q : V → Loc → AHeap → Prop} (h : Q (.bool (decide (a = b))) m H) : WCmp k .Is (.ty a) (.ty b) m H Q := fun x y hx hy => by
  obtain rfl := er_ty hx; obtain rfl := er_ty hy
  have e : (Value.type a == Value.type b) = decide (a = b) := by by_cases hij : a = b <;> simp [hij]
  exact W.of_wp fun B s st P hp => wpAny_is_plain rfl (e ▸ hp _ s.toks h)
theorem WCmp_isNotTy {a b : String} {Q : V → Loc → AHeap → Prop} (h : Q (.bool (decide (a ≠ b))) m H) : WCmp k .IsNot (.ty a) (.ty b) m H Q := fun x y hx hy => by
  obtain rfl := er_ty hx; obtain rfl := er_ty hy
  have e : (!(Value.type a == Value.type b)) = decide (a ≠ b) := by by_cases hij : a = b <;> simp [hij]
  exact W.of_wp fun B s st P hp => wpAny_isNot_plain rfl (e ▸ hp _ s.toks h)
/-! truth -/
/-! displays -/
noncomputable def WItems (k : Wk) (es : List Expr) (m : Loc) (H : AHeap) (Q : List V → Loc → AHeap → Prop) : Prop := ∀ pos, W k (spliced (backTo pos (starEach es k.env))) m H fun vs => Q (vs.map er)
theorem WItems_nil {Q : List V → Loc → AHeap → Prop} (h : Q [] m H) : WItems k [] m H Q := fun pos B s st => wpAny_items_nil ⟨m, H, st, h⟩
theorem WItems_cons {e : Expr} {es : List Expr} {Q : List V → Loc → AHeap → Prop} (h : WV k (eval e k.env) m H fun v m1 H1 => WItems k es m1 H1 fun vs => Q (v :: vs))
    (he : starEach (e :: es) k.env = (false, eval e k.env) :: starEach es k.env := by rfl) : WItems k (e :: es) m H Q := fun pos B s st =>
  wpAny_items_cons (wpAny_mono (h B s st) (fun v s1 ⟨m1, H1, st1, q⟩ => wpAny_mono (q pos B s1 st1) (fun vs s2 ⟨m2, H2, st2, q2⟩ => ⟨m2, H2, st2, q2⟩) fun _ _ x => x) fun _ _ x => x) he
theorem St.newList {c : Cx} {o : Out} {env : Env} {B : BMap} {s : Shared} (st : St c o env B m H s) (vs : List Value) :
    H s.heap.objs.size = none ∧ St c o env B m (upd H s.heap.objs.size (.list (vs.map er))) { s with heap := s.heap.push { cls := .type "list", data := .seq vs.toArray } } := by
  have hn := st.none_at (Nat.le_refl _)
  exact ⟨(st.fresh hn).1, st.new (tk := s.toks) (Nat.le_refl _) (fun b ob e => Heap.get?_push_of_some _ e) ⟨_, Heap.get?_push_size _ rfl, vs, 0, rfl, rfl⟩ st.tk⟩
theorem St.newTup {c : Cx} {o : Out} {env : Env} {B : BMap} {s : Shared} (st : St c o env B m H s) (vs : List Value) :
    H s.heap.objs.size = none ∧ St c o env B m (upd H s.heap.objs.size (.tup (vs.map er))) { s with heap := s.heap.push { cls := .type "tuple", data := .seq vs.toArray } } := by
  have hn := st.none_at (Nat.le_refl _)
  exact ⟨(st.fresh hn).1, st.new (tk := s.toks) (Nat.le_refl _) (fun b ob e => Heap.get?_push_of_some _ e) ⟨_, Heap.get?_push_size _ rfl, vs, 0, rfl, rfl⟩ st.tk⟩
theorem W_List {es : List Expr} {pos : Pos} {Q : V → Loc → AHeap → Prop} (h : WItems k es m H fun vs m1 H1 => vs.length ≤ sizeLine ∧ ∀ a, H1 a = none → Q (.ref a) m1 (upd H1 a (.list vs))) : WV k (eval (.List es pos) k.env) m H Q :=
  fun B s st => wpAny_List (wpAny_mono (h pos B s st) (fun vs s1 ⟨m1, H1, st1, q⟩ => by
    obtain ⟨hn, st2⟩ := st1.newList vs
    exact ⟨by simpa using q.1, m1, _, st2, q.2 _ hn⟩) fun _ _ x => x)
theorem W_Tuple {es : List Expr} {n : Nat} {pos : Pos} {Q : V → Loc → AHeap → Prop} (h : WItems k es m H fun vs m1 H1 => vs.length ≤ sizeLine ∧ ∀ a, H1 a = none → Q (.ref a) m1 (upd H1 a (.tup vs))) : WV k (eval (.Tuple es n pos) k.env) m H Q :=
  fun B s st => wpAny_Tuple (wpAny_mono (h pos B s st) (fun vs s1 ⟨m1, H1, st1, q⟩ => by
    obtain ⟨hn, st2⟩ := st1.newTup vs
    exact ⟨by simpa using q.1, m1, _, st2, q.2 _ hn⟩) fun _ _ x => x)
theorem W_Dict0 {pos : Pos} {Q : V → Loc → AHeap → Prop} (h : ∀ a, H a = none → Q (.ref a) m (upd H a (.dict [] 0))) : WV k (eval (.Dict [] [] pos) k.env) m H Q := fun B s st => by
  show wpAny _ _ (do standAt pos; dictDisplay []) _ _ s
  refine wpAny_bind (wpAny_standAt ?_)
  show wpAny _ _ (do match ← (do if ([] : List (Sem Value × Sem Value)).isEmpty then return (Option.none : Option Addr) else return Option.none : Sem (Option Addr)) with
    | some d => pure (.ref d)
    | Option.none => newDict) _ _ s
  refine wpAny_bind (wpAny_pure ?_)
  have hn := st.none_at (Nat.le_refl _)
  refine wpAny_newObj_type ⟨m, _, st.new (y := .dict [] 0) (tk := s.toks) (Nat.le_refl _) (fun b ob e => Heap.get?_push_of_some _ e) ⟨_, Heap.get?_push_size _ rfl, ⟨rfl, rfl, rfl⟩, #[], rfl, fun _ he => by simp at he, [], Pairs.nil, List.nodup_nil, rfl⟩ st.tk, h _ (st.fresh hn).1⟩
end
end Mine
namespace Mine
noncomputable def getK : List (Key × V) → Key → Option V
  | [], _ => none
  | (k', v) :: r, k => if k' = k then some v else getK r k
noncomputable def putK : List (Key × V) → Key → V → List (Key × V)
  | [], k, v => [(k, v)]
  | (k', w) :: r, k, v => if k' = k then (k', v) :: r else (k', w) :: putK r k v
noncomputable abbrev erP (kv : Key × Value) : Key × V := (kv.1, er kv.2)
theorem getK_er (rvs : List (Key × Value)) (k : Key) : getK (rvs.map erP) k = (valueAt rvs k).map er := by
  induction rvs with
  | nil => rfl
  | cons p r ih =>
    obtain ⟨k', v⟩ := p
    rw [List.map_cons]
    unfold getK
    by_cases h : k' = k
    · subst h; simp [valueAt]
    · rw [if_neg h, ih]
      simp [valueAt, h]
theorem putK_new {kvs : List (Key × V)} {k : Key} {v : V} (h : getK kvs k = none) : putK kvs k v = kvs ++ [(k, v)] := by
  induction kvs with
  | nil => rfl
  | cons p r ih =>
    obtain ⟨k', w⟩ := p
    unfold getK at h
    split at h
    · cases h
    · rename_i hne
      unfold putK
      rw [if_neg hne, ih h]; rfl
theorem putK_er {rvs : List (Key × Value)} (hn : (rvs.map (·.1)).Nodup) (k : Key) (v : Value) : (stored rvs k v).map erP = putK (rvs.map erP) k (er v) := by
  unfold stored
  induction rvs with
  | nil => rfl
  | cons p r ih =>
    obtain ⟨k', w⟩ := p
    rw [List.map_cons, List.nodup_cons] at hn
    by_cases h : k' = k
    · subst h
      have e : (r.map fun kv => if kv.1 = k' then (kv.1, v) else kv) = r := map_store_of_not_mem r k' v hn.1
      simp [putK, e]
    · have ih' := ih hn.2
      have e : putK (((k', w) :: r).map erP) k (er v) = (k', er w) :: putK (r.map erP) k (er v) := by
        rw [List.map_cons]
        show (if k' = k then _ else _) = _
        rw [if_neg h]
      rw [e, ← ih']
      by_cases hany : (r.any fun kv => decide (kv.1 = k)) = true
      · rw [if_pos hany, if_pos (by rw [List.any_cons, hany, Bool.or_true])]
        simp [h]
      · have hany' : (r.any fun kv => decide (kv.1 = k)) = false := (Bool.not_eq_true _).mp hany
        rw [if_neg hany, if_neg (by rw [List.any_cons, hany']; simp [h])]
        simp
noncomputable def epK (kvs : List (Key × V)) (k : Key) (ep : Nat) : Nat := if (getK kvs k).isSome then ep else ep + 1
section
variable {c : Cx} {A : Around} {E : Value → Shared → Prop} {s : Shared}
theorem dictAt_of {d : Addr} {ob : Obj} {kvs : List (Key × V)} {ep : Nat} {h : Heap} (ho : h.get? d = some ob) (hI : IsObj c ob (.dict kvs ep)) :
    ∃ rvs, h.DictAt (mix c.prog c.w) d rvs ep ∧ rvs.map erP = kvs := by
  obtain ⟨hx, es, hd, hk, rvs, hp, hn, hm⟩ := hI
  exact ⟨rvs, ⟨ob, es, ho, hx, hd, hk, hp, hn⟩, hm⟩
theorem of_dictAt {d : Addr} {rvs : List (Key × Value)} {ep : Nat} {h : Heap} (x : h.DictAt (mix c.prog c.w) d rvs ep) : ∃ ob, h.get? d = some ob ∧ IsObj c ob (.dict (rvs.map erP) ep) := by
  obtain ⟨ob, es, ho, hx, hd, hk, hp, hn⟩ := x
  exact ⟨ob, ho, hx, es, hd, hk, rvs, hp, hn, rfl⟩
theorem dictSet_at {d : Addr} {rvs : List (Key × Value)} {ep : Nat} {k : Key} {key v : Value} {Q : Unit → Shared → Prop} (hkey : isKey k key = true) (hm : s.heap.DictAt (mix c.prog c.w) d rvs ep)
    (hQ : ∀ h', h'.DictAt (mix c.prog c.w) d (stored rvs k v) (epK (rvs.map erP) k ep) → Heap.SameBut d s.heap h' → Q () { s with heap := h', toks := s.toks + 1 })
    (hsz : rvs.length ≤ sizeLine) : wpAny (model c.prog c.w) A (dictSet d key v) Q E s := by
  obtain ⟨o, es, ho, hc, hd, hk, hp, hn⟩ := hm
  have hes : es.size ≤ sizeLine := by
    have e1 := hp.length
    have e2 : es.toList.length = es.size := by simp
    lia
  have hkey' : (mix c.prog c.w).is k key = true := hkey
  unfold dictSet
  try with_reducible refine wpAny_holding ?_
  refine wpAny_bind ((mix c.prog c.w).pyHash hkey' ?_)
  unfold dictSetHashed
  try with_reducible refine wpAny_holding ?_
  refine wpAny_bind (wpAny_dictFind_of (s := { s with toks := s.toks + 1 }) hkey' ho hd hk ?_)
  have hidx : (es.findIdx? fun e => (mix c.prog c.w).is k e.key) = rvs.findIdx? fun kv => decide (kv.1 = k) := by
    rw [← hp.findIdx k]; obtain ⟨l⟩ := es; simp
  have hget := getK_er rvs k
  cases hi : es.findIdx? fun e => (mix c.prog c.w).is k e.key with
  | some i =>
    have hl : (es.toList.findIdx? fun e => (mix c.prog c.w).is k e.key) = some i := by rw [← hi]; obtain ⟨l⟩ := es; simp
    obtain ⟨e, he, hek, hev⟩ := hp.at hl
    have hep : epK (rvs.map erP) k ep = ep := by unfold epK; rw [hget, hev]; rfl
    rw [hep] at hQ
    refine wpAny_bind (wpAny_rule (wpAny_bind (wpAny_updateDict (s := { s with toks := s.toks + 1 }) ho hd (wpAny_point (hQ _ ⟨_, _, Heap.get?_update_self _ ho (Obj.isFreed_of_dict (Obj.data_mapDict hd _)),
      hc.mapDict _, Obj.data_mapDict hd _, hk.modify _ _, ?_, ?_⟩ (Heap.SameBut.update ..))))))
    · rw [stored, if_pos (any_of_findIdx_some (hidx ▸ hi))]
      have := hp.modify hn hl v
      obtain ⟨l⟩ := es
      simpa using this
    · rw [stored, if_pos (any_of_findIdx_some (hidx ▸ hi)), keys_map_store]; exact hn
  | none =>
    have hnot : k ∉ rvs.map (·.1) := not_mem_of_findIdx_none (hidx ▸ hi)
    have hany : ¬ (rvs.any fun kv => kv.1 = k) = true := by
      rw [List.any_eq_true]; rintro ⟨kv, hkv, he⟩
      exact hnot (List.mem_map.mpr ⟨kv, hkv, of_decide_eq_true he⟩)
    have hv : valueAt rvs k = none := by
      rw [← hp.find k]
      have : (es.toList.find? fun e => (mix c.prog c.w).is k e.key) = none := by
        rw [List.find?_eq_none]
        intro e he
        have := Array.findIdx?_eq_none_iff.mp hi e (Array.mem_toList_iff.mp he)
        simpa using this
      rw [this]; rfl
    have hep : epK (rvs.map erP) k ep = ep + 1 := by unfold epK; rw [hget, hv]; rfl
    rw [hep] at hQ
    refine wpAny_bind (wpAny_rule (wpAny_updateDictKeys (hz := hes) (s := { s with toks := s.toks + 1 }) ho hd (hQ _ ⟨_, _, Heap.get?_update_self _ ho (Obj.isFreed_of_dict (Obj.data_mapDictKeys hd _)),
      hc.mapDictKeys _, Obj.data_mapDictKeys hd _, hk.push hkey' _, ?_, ?_⟩ (Heap.SameBut.update ..))))
    · rw [stored, if_neg hany]
      have := hp.append hkey' ((mix c.prog c.w).hash k) v
      obtain ⟨l⟩ := es
      simpa using this
    · rw [stored, if_neg hany, List.map_append, List.nodup_append]
      refine ⟨hn, by simp, ?_⟩
      intro a ha b hb
      simp only [List.map_cons, List.map_nil, List.mem_singleton] at hb
      subst hb
      exact fun e => hnot (e ▸ ha)
end
section
variable {k : Wk} {m : Loc} {H : AHeap}
theorem St.notMods {c : Cx} {o : Out} {env : Env} {B : BMap} {s : Shared} (st : St c o env B m H s) {d : Addr} {x : AObj} (hd : H d = some x) : (d == sysModules) = false := by
  have h1 := st.disBase d x hd
  have h2 := c.top.g.lt
  have : sysModules < mainGlobals := by decide
  exact beq_eq_false_iff_ne.mpr (Nat.ne_of_gt (Nat.lt_trans this (Nat.lt_of_lt_of_le h2 h1)))
theorem St.dictAt {c : Cx} {o : Out} {env : Env} {B : BMap} {s : Shared} (st : St c o env B m H s) {d : Addr} {kvs : List (Key × V)} {ep : Nat} (hd : H d = some (.dict kvs ep)) :
    ∃ rvs, s.heap.DictAt (mix c.prog c.w) d rvs ep ∧ rvs.map erP = kvs := by
  obtain ⟨ob, ho, hI⟩ := st.own d _ hd
  exact dictAt_of ho hI
theorem St.listAt {c : Cx} {o : Out} {env : Env} {B : BMap} {s : Shared} (st : St c o env B m H s) {l : Addr} {xs : List V} (hl : H l = some (.list xs)) :
    ∃ vs n, IsL s.heap l (vs : List Value).toArray n ∧ vs.map er = xs := by
  obtain ⟨ob, ho, vs, n, rfl, e⟩ := st.own l _ hl
  exact ⟨vs, n, ho, e⟩
theorem St.tupAt {c : Cx} {o : Out} {env : Env} {B : BMap} {s : Shared} (st : St c o env B m H s) {l : Addr} {xs : List V} (hl : H l = some (.tup xs)) :
    ∃ vs n, s.heap.get? l = some { cls := .type "tuple", data := .seq (vs : List Value).toArray n } ∧ vs.map er = xs := by
  obtain ⟨ob, ho, vs, n, rfl, e⟩ := st.own l _ hl
  exact ⟨vs, n, ho, e⟩
/-! dicts: store, look, in -/
theorem WSet_dict {d : Addr} {kvs : List (Key × V)} {ep : Nat} {key : Key} {kv v : V} {Q : Loc → AHeap → Prop} (hd : H d = some (.dict kvs ep)) (hk : isKV key kv = true) (hsz : kvs.length ≤ sizeLine)
    (h : Q m (upd H d (.dict (putK kvs key v) (epK kvs key ep)))) : WSet k (.ref d) kv v m H Q := fun x y z hx hy hz B s st => by
  obtain rfl := er_ref hx
  subst hz
  have hkey : isKey key y = true := by rw [isKey_er, hy]; exact hk
  obtain ⟨rvs, hm, rfl⟩ := st.dictAt hd
  have hT := hm.dictOf.typeIs
  unfold setItem
  try with_reducible refine wpAny_holding ?_
  refine wpAny_bind (wpAny_sequenceKey hT (by decide) ?_)
  refine wpAny_bind (wpAny_callSpecial?_slot (name := Str.ofString "__setitem__") hT slot_dict_setitem
    (wpAny_call_entry slot_dict_setitem hT entry_dict_setitem ?_ (args_dict_setitem _ _ _)))
  show wpAny _ _ (Builtin.Dict.notOrdered "__setitem__" ⟨[.ref d, y, z], []⟩ >>= _) _ _ s
  refine wpAny_bind (wpAny_notOrdered_dict hT ?_)
  show wpAny _ _ (dictSet d y z >>= _) _ _ s
  refine wpAny_bind (dictSet_at hkey hm (fun h' hm' hs' => wpAny_pure ⟨.none, rfl, wpAny_pure ⟨m, _, ?_, h⟩⟩) (by simpa using hsz))
  obtain ⟨ob, h1, h2⟩ := of_dictAt hm'
  refine st.put hd (fun b ob ne e => (hs'.2 b ne).trans e) ⟨ob, h1, ?_⟩ (Nat.le_succ_of_le st.tk)
  rw [← putK_er hm.nodup]; exact h2
theorem mapOf_get {c : Cx} {d : Addr} {rvs : List (Key × Value)} {ep : Nat} {h : Heap} (x : h.DictAt (mix c.prog c.w) d rvs ep) {key : Key} {v : V} (e : getK (rvs.map erP) key = some v) :
    ∃ u, valueAt rvs key = some u ∧ er u = v := by
  rw [getK_er] at e
  cases q : valueAt rvs key with
  | none => rw [q] at e; cases e
  | some u => rw [q] at e; exact ⟨u, rfl, Option.some.inj e⟩
noncomputable def WSub (k : Wk) (value slice : Expr) (o i : V) (m : Loc) (H : AHeap) (Q : V → Loc → AHeap → Prop) : Prop := ∀ x y, er x = o → er y = i → WV k (subscriptTail value slice x y) m H Q
theorem W_Subscript {value slice : Expr} {pos : Pos} {Q : V → Loc → AHeap → Prop} (h : WV k (eval value k.env) m H fun o m1 H1 => WV k (eval slice k.env) m1 H1 fun i m2 H2 => WSub k value slice o i m2 H2 Q) :
    WV k (eval (.Subscript value slice pos) k.env) m H Q := fun B s st =>
  Subscript_ (wpAny_mono (h B s st) (fun o s1 ⟨m1, H1, st1, q1⟩ => wpAny_mono (q1 B s1 st1) (fun i s2 ⟨m2, H2, st2, q2⟩ => q2 o i rfl rfl B s2 st2) fun _ _ x => x) fun _ _ x => x)
theorem WSub_dict {value slice : Expr} {d : Addr} {kvs : List (Key × V)} {ep : Nat} {key : Key} {kv v : V} {Q : V → Loc → AHeap → Prop} (hd : H d = some (.dict kvs ep)) (hk : isKV key kv = true) (hv : getK kvs key = some v) (h : Q v m H)
    (hs : ∀ o i, subscripted slice false o i = operate [o, i] (getItem o i) := by intro _ _; with_unfolding_all rfl) : WSub k value slice (.ref d) kv m H Q := fun x y hx hy => by
  obtain rfl := er_ref hx
  have hkey : isKey key y = true := by rw [isKey_er, hy]; exact hk
  refine W.of_wp fun B s st P hp => ?_
  obtain ⟨rvs, hm, rfl⟩ := st.dictAt hd
  obtain ⟨u, e1, rfl⟩ := mapOf_get hm hv
  exact tail_any hm.dictOf.typeIs slot_dict_getitem.lookup (wpAny_getItem_of (knd := mix k.c.prog k.c.w) hkey hm.dictOf.mapOf e1 (hp _ _ h)) (hs _ _)
theorem WSub_list {value slice : Expr} {l : Addr} {xs : List V} {i : Int} {v : V} {Q : V → Loc → AHeap → Prop} (hl : H l = some (.list xs)) (h0 : 0 ≤ i) (h1 : i < 2 ^ 63) (hv : xs[i.toNat]? = some v) (h : Q v m H)
    (hs : ∀ o i, subscripted slice false o i = operate [o, i] (getItem o i) := by intro _ _; with_unfolding_all rfl) : WSub k value slice (.ref l) (.int i) m H Q := fun x y hx hy => by
  obtain rfl := er_ref hx
  obtain ⟨t, rfl⟩ := er_int hy
  refine W.of_wp fun B s st P hp => ?_
  obtain ⟨vs, n, hl', rfl⟩ := st.listAt hl
  rw [List.getElem?_map, Option.map_eq_some_iff] at hv
  obtain ⟨u, e1, rfl⟩ := hv
  exact tail_any hl'.isList.typeIs slot_list_getitem.lookup (wpAny_getItem_list hl'.isList h0 h1 (by simpa using e1) (hp _ s.toks h)) (hs _ _)
theorem WSub_listNeg {value slice : Expr} {l : Addr} {xs : List V} {i : Int} {v : V} {Q : V → Loc → AHeap → Prop} (hl : H l = some (.list xs)) (h0 : i < 0) (h1 : -(2 ^ 63) ≤ i) (h2 : -(xs.length : Int) ≤ i) (hv : xs[(i + xs.length).toNat]? = some v) (h : Q v m H)
    (hs : ∀ o i, subscripted slice false o i = operate [o, i] (getItem o i) := by intro _ _; with_unfolding_all rfl) : WSub k value slice (.ref l) (.int i) m H Q := fun x y hx hy => by
  obtain rfl := er_ref hx
  obtain ⟨t, rfl⟩ := er_int hy
  refine W.of_wp fun B s st P hp => ?_
  obtain ⟨vs, n, hl', rfl⟩ := st.listAt hl
  rw [List.getElem?_map, Option.map_eq_some_iff] at hv
  obtain ⟨u, e1, rfl⟩ := hv
  rw [List.length_map] at h2 e1
  exact tail_any hl'.isList.typeIs slot_list_getitem.lookup (wpAny_getItem_list_neg hl'.isList h0 (by simpa using h2) h1 (by simpa using e1) (hp _ s.toks h)) (hs _ _)
theorem WSub_tup {value slice : Expr} {l : Addr} {xs : List V} {i : Int} {j : Nat} {v : V} {Q : V → Loc → AHeap → Prop} (hl : H l = some (.tup xs)) (h0 : -(2 ^ 63) ≤ i) (h1 : i < 2 ^ 63) (hj : seqIndex? i xs.length = some j) (hv : xs[j]? = some v) (h : Q v m H)
    (hs : ∀ o i, subscripted slice false o i = operate [o, i] (getItem o i) := by intro _ _; with_unfolding_all rfl) : WSub k value slice (.ref l) (.int i) m H Q := fun x y hx hy => by
  obtain rfl := er_ref hx
  obtain ⟨t, rfl⟩ := er_int hy
  refine W.of_wp fun B s st P hp => ?_
  obtain ⟨vs, n, hl', rfl⟩ := st.tupAt hl
  rw [List.getElem?_map, Option.map_eq_some_iff] at hv
  obtain ⟨u, e1, rfl⟩ := hv
  rw [List.length_map] at hj
  exact item_tupleT (l := vs) ⟨_, hl', rfl, n, rfl⟩ h0 h1 hj e1 (hp _ s.toks h) (hs _ _)
theorem WCmp_notInDict {d : Addr} {kvs : List (Key × V)} {ep : Nat} {key : Key} {kv : V} {Q : V → Loc → AHeap → Prop} (hd : H d = some (.dict kvs ep)) (hk : isKV key kv = true) (h : Q (.bool (!(getK kvs key).isSome)) m H) : WCmp k .NotIn kv (.ref d) m H Q := fun x y hx hy => by
  obtain rfl := er_ref hy
  have hkey : isKey key x = true := by rw [isKey_er, hx]; exact hk
  refine W.of_wp fun B s st P hp => ?_
  obtain ⟨rvs, hm, rfl⟩ := st.dictAt hd
  have e : (!(valueAt rvs key).isSome) = !(getK (rvs.map erP) key).isSome := by rw [getK_er]; cases valueAt rvs key <;> rfl
  exact wpAny_notIn_of (knd := mix k.c.prog k.c.w) hkey (st.notMods hd) hm.dictOf.mapOf (e ▸ hp _ _ h)
/-! calls of built-ins -/
noncomputable def WCall (k : Wk) (f : Value) (args : List V) (m : Loc) (H : AHeap) (Q : V → Loc → AHeap → Prop) : Prop := ∀ vs, vs.map er = args → WV k (call f vs) m H Q
theorem evalArgs_of {f : Value} {es : List Expr} {pos : Pos} {Q : List V → Loc → AHeap → Prop} (hp : (starEach es k.env).any (·.1) = false) (h : WItems k es m H Q) :
    W k (evalArgs f true (backTo pos (starEach es k.env)) []) m H fun a m1 H1 => a.kw = [] ∧ Q (a.pos.map er) m1 H1 := fun B s st => by
  have h' := h pos B s st
  cases hs : starEach es k.env with
  | nil =>
    rw [hs] at h'
    have h'' : wpAny (model k.c.prog k.c.w) k.A (spliced []) (fun v s' => ∃ m' H', St k.c k.o k.env B m' H' s' ∧ Q (v.map er) m' H') k.E s := h'
    show wpAny _ _ (evalArgs f true [] []) _ _ s
    unfold evalArgs
    show wpAny _ _ (spliced [] >>= _) _ _ s
    refine wpAny_bind (wpAny_mono h'' (fun vs s1 ⟨m1, H1, st1, q⟩ => ?_) fun _ _ x => x)
    refine wpAny_bind (wpAny_pure (wpAny_holding ?_))
    exact wpAny_bind (wpAny_pure (wpAny_bind (wpAny_pure (wpAny_pure ⟨m1, H1, st1, rfl, q⟩))))
  | cons x r =>
    obtain ⟨b, t⟩ := x
    rw [hs] at h' hp
    have hb : b = false := by simp at hp; exact hp.1
    subst hb
    exact Calls.evalArgs_plain (wpAny_mono h' (fun vs s1 ⟨m1, H1, st1, q⟩ => ⟨m1, H1, st1, rfl, q⟩) fun _ _ x => x)
end
end Mine
namespace Mine
section
variable {k : Wk} {m : Loc} {H : AHeap}
/-! calls by a global name -/
theorem W_CallB {x : Str} {i : String} {p pos : Pos} {args : List Expr} {Q : V → Loc → AHeap → Prop} (hg : Gl k.c x (.builtin i)) (hx : k.env.kindOf x = some .globalImplicit)
    (h : WItems k args m H fun vs m1 H1 => WCall k (.builtin i) vs m1 H1 Q)
    (hp : (starEach args k.env).any (·.1) = false := by rfl) (hp' : (backTo pos (starEach args k.env)).any (·.1) = false := by rfl)
    (hd : (x == ("__debug__" : Str)) = false := by decide) : WV k (eval (.Call (.Name x p) args [] pos) k.env) m H Q := fun B s st =>
  wpAny_Call_NameR (wpAny_mono (W_NameG (Q := fun v m' H' => v = .bi i ∧ m' = m ∧ H' = H) hg hx ⟨rfl, rfl, rfl⟩ hd B s st) (fun f s1 hx1 => by
    refine Mine.hideG fun GG back => ?_
    obtain ⟨m1, H1, st1, e1, e2, e3⟩ := hx1
    refine back ?_
    clear back
    subst e2; subst e3
    obtain rfl := er_bi e1
    exact Calls.callWith_builtin hp' (wpAny_mono (evalArgs_of (f := .builtin i) (pos := pos) hp h B s1 st1) (fun a s2 ⟨m2, H2, st2, e, q⟩ => by
      rw [e]; exact q _ rfl B s2 st2) fun _ _ x => x)) fun _ _ x => x)
theorem W_CallT {x : Str} {T : String} {p pos : Pos} {args : List Expr} {Q : V → Loc → AHeap → Prop} (hg : Gl k.c x (.type T)) (hx : k.env.kindOf x = some .globalImplicit)
    (h : WItems k args m H fun vs m1 H1 => WCall k (.type T) vs m1 H1 Q)
    (hp : (starEach args k.env).any (·.1) = false := by rfl) (hp' : (backTo pos (starEach args k.env)).any (·.1) = false := by rfl)
    (hd : (x == ("__debug__" : Str)) = false := by decide) : WV k (eval (.Call (.Name x p) args [] pos) k.env) m H Q := fun B s st =>
  wpAny_Call_NameR (wpAny_mono (W_NameG (Q := fun v m' H' => v = .ty T ∧ m' = m ∧ H' = H) hg hx ⟨rfl, rfl, rfl⟩ hd B s st) (fun f s1 hx1 => by
    refine Mine.hideG fun GG back => ?_
    obtain ⟨m1, H1, st1, e1, e2, e3⟩ := hx1
    refine back ?_
    clear back
    subst e2; subst e3
    obtain rfl := er_ty e1
    exact PySem.callWith_type hp' (wpAny_mono (evalArgs_of (f := .type T) (pos := pos) hp h B s1 st1) (fun a s2 ⟨m2, H2, st2, e, q⟩ => by
      rw [e]; exact q _ rfl B s2 st2) fun _ _ x => x)) fun _ _ x => x)
noncomputable def FnV (c : Cx) (A : Around) (f : Addr) (vs : List V) (kw : List (Str × V)) (H : AHeap) (Q : V → AHeap → Prop) (X : String → Option (List V) → AHeap → Prop) : Prop :=
  ∀ rvs rkw, (rvs : List Value).map er = vs → (rkw : List (Str × Value)).map (fun p => (p.1, er p.2)) = kw → Fn c A (.ref f) ⟨rvs, rkw⟩ H Q X
theorem FnV.mono {c : Cx} {A : Around} {f : Addr} {vs : List V} {kw : List (Str × V)} {H : AHeap} {Q Q' : V → AHeap → Prop} {X X' : String → Option (List V) → AHeap → Prop} (h : FnV c A f vs kw H Q X) (hQ : ∀ v H, Q v H → Q' v H) (hX : ∀ a b H, X a b H → X' a b H) : FnV c A f vs kw H Q' X' :=
  fun rvs rkw h1 h2 => (h rvs rkw h1 h2).mono hQ hX
theorem W_callF {f : Addr} {rvs : List Value} {rkw : List (Str × Value)} {Q : V → Loc → AHeap → Prop} (h : Fn k.c k.A (.ref f) ⟨rvs, rkw⟩ H (fun v H' => Q v m H') fun a b H' => k.X a b m H') : WV k (call (.ref f) rvs rkw) m H Q := fun B s st =>
  wpAny_call (codeAny_mono (h k.o k.env B m s k.kind k.frames st) fun r s' q => by
    split at q
    · obtain ⟨H', st', q⟩ := q; exact ⟨m, H', st', q⟩
    · obtain ⟨H', a, cls, xs, rfl, st', i, q⟩ := q; exact k.fly _ _ _ _ _ _ _ st' i q
    · exact q.elim)
theorem W_CallF {x : Str} {f : Addr} {fo : Obj} {fd : FuncData} {p pos : Pos} {args : List Expr} {Q : V → Loc → AHeap → Prop} (hg : Gl k.c x (.ref f)) (hx : k.env.kindOf x = some .globalImplicit)
    (ho : k.c.base.get? f = some fo) (hd' : fo.data = .func fd)
    (h : WItems k args m H fun vs m1 H1 => FnV k.c k.A f vs [] H1 (fun v H' => Q v m1 H') fun a b H' => k.X a b m1 H')
    (hp : (starEach args k.env).any (·.1) = false := by rfl)
    (hd : (x == ("__debug__" : Str)) = false := by decide) : WV k (eval (.Call (.Name x p) args [] pos) k.env) m H Q := fun B s st =>
  wpAny_Call_NameR (wpAny_mono (W_NameG (Q := fun v m' H' => v = .ref f ∧ m' = m ∧ H' = H) hg hx ⟨rfl, rfl, rfl⟩ hd B s st) (fun g s1 hx1 => by
    refine Mine.hideG fun GG back => ?_
    obtain ⟨m1, H1, st1, e1, e2, e3⟩ := hx1
    refine back ?_
    clear back
    subst e2; subst e3
    obtain rfl := er_ref e1
    exact Calls.callWith_function (o := fo) (fd := fd) (wpAny_mono (evalArgs_of (f := .ref f) (pos := pos) hp h B s1 st1) (fun a s2 ⟨m2, H2, st2, e, q⟩ => by
      rw [e]; exact ⟨⟨st2.base f fo ho, hd'⟩, W_callF (q _ [] rfl rfl) B s2 st2⟩) fun _ _ x => x)) fun _ _ x => x)
/-! methods of built-in types -/
theorem W_CallM {o : Expr} {name : Str} {apos pos : Pos} {args : List Expr} {T id : String} {Q : V → Loc → AHeap → Prop}
    (pa : PlainAttrs T) (slot : Slot T name id) (hty : typeOf (.builtin id) = pure (.type "method_descriptor"))
    (h : WV k (eval o k.env) m H fun ov m1 H1 => ∃ a y, ov = .ref a ∧ H1 a = some y ∧ (∀ ob, IsObj k.c ob y → ob.cls = .type T ∧ ob.dict = none) ∧ WItems k args m1 H1 fun vs m2 H2 => WCall k (.builtin id) (ov :: vs) m2 H2 Q)
    (hbase : attributeBase o name k.env (eval o k.env) = eval o k.env := by rfl)
    (hfew : ((backTo pos (starEach args k.env)).all (fun x => !x.1) && (backToKw pos (keywordEach [] k.env)).all (fun x => x.1.isSome)
      && decide (args.length + ([] : List Keyword).length + (if ([] : List Keyword).isEmpty then 0 else 1) < 30)) = true := by rfl)
    (hline : (apos.endLine == pos.line) = true := by rfl) (hp : (starEach args k.env).any (·.1) = false := by rfl) (hp' : (backTo pos (starEach args k.env)).any (·.1) = false := by rfl) :
    WV k (eval (.Call (.Attribute o name apos) args [] pos) k.env) m H Q := fun B s st =>
  PySem.wpAny_Call_method hbase hfew hline pa slot hty (wpAny_mono (h B s st) (fun ov s1 hx1 => by
    refine Mine.hideG fun GG back => ?_
    obtain ⟨m1, H1, st1, a, y, e, hy, hT, q⟩ := hx1
    refine back ?_
    clear back
    obtain rfl := er_ref e
    refine Mine.hideG fun GG back => ?_
    obtain ⟨ob, ho, hI⟩ := st1.own a y hy
    obtain ⟨t1, t2⟩ := hT ob hI
    refine back ?_
    clear back
    refine ⟨⟨ob, ho, t1⟩, fun b eb => by cases eb; exact ⟨ob, ho, t2⟩, ?_⟩
    refine Calls.callWith_builtin hp' (wpAny_mono (evalArgs_of (f := .builtin id) (pos := pos) hp q B s1 st1) (fun a s2 ⟨m2, H2, st2, e, q⟩ => ?_) fun _ _ x => x)
    rw [e]; exact q _ rfl B s2 st2) fun _ _ x => x)
theorem isList_cls {c : Cx} {xs : List V} : ∀ ob, IsObj c ob (.list xs) → ob.cls = .type "list" ∧ ob.dict = none := fun ob ⟨vs, n, e, _⟩ => by rw [e]; exact ⟨rfl, rfl⟩
theorem isTup_cls {c : Cx} {xs : List V} : ∀ ob, IsObj c ob (.tup xs) → ob.cls = .type "tuple" ∧ ob.dict = none := fun ob ⟨vs, n, e, _⟩ => by rw [e]; exact ⟨rfl, rfl⟩
theorem isDict_cls {c : Cx} {kvs : List (Key × V)} {ep : Nat} : ∀ ob, IsObj c ob (.dict kvs ep) → ob.cls = .type "dict" ∧ ob.dict = none := fun ob h => ⟨h.1.1, h.1.2.1⟩
end
end Mine
namespace Mine
theorem sub_ll : isSubtype (.type "list") (.type "list") = pure true := by rw [isSubtype_type]; kernel_rfl
theorem sub_ld : isSubtype (.type "list") (.type "dict") = pure false := by rw [isSubtype_type]; kernel_rfl
theorem sub_ls : isSubtype (.type "list") (.type "str") = pure false := by rw [isSubtype_type]; kernel_rfl
theorem sub_dl : isSubtype (.type "dict") (.type "list") = pure false := by rw [isSubtype_type]; kernel_rfl
theorem sub_dd : isSubtype (.type "dict") (.type "dict") = pure true := by rw [isSubtype_type]; kernel_rfl
theorem sub_ds : isSubtype (.type "dict") (.type "str") = pure false := by rw [isSubtype_type]; kernel_rfl
theorem sub_tl : isSubtype (.type "tuple") (.type "list") = pure false := by rw [isSubtype_type]; kernel_rfl
theorem sub_td : isSubtype (.type "tuple") (.type "dict") = pure false := by rw [isSubtype_type]; kernel_rfl
theorem sub_ts : isSubtype (.type "tuple") (.type "str") = pure false := by rw [isSubtype_type]; kernel_rfl
theorem sub_sl : isSubtype (.type "str") (.type "list") = pure false := by rw [isSubtype_type]; kernel_rfl
theorem sub_sd : isSubtype (.type "str") (.type "dict") = pure false := by rw [isSubtype_type]; kernel_rfl
theorem sub_ss : isSubtype (.type "str") (.type "str") = pure true := by rw [isSubtype_type]; kernel_rfl
theorem sub_il : isSubtype (.type "int") (.type "list") = pure false := by rw [isSubtype_type]; kernel_rfl
theorem sub_id : isSubtype (.type "int") (.type "dict") = pure false := by rw [isSubtype_type]; kernel_rfl
theorem sub_is : isSubtype (.type "int") (.type "str") = pure false := by rw [isSubtype_type]; kernel_rfl
theorem mt_l : typeOf (.type "list") = pure (.type "type") := by kernel_rfl
theorem mt_d : typeOf (.type "dict") = pure (.type "type") := by kernel_rfl
theorem mt_s : typeOf (.type "str") = pure (.type "type") := by kernel_rfl
theorem map_er1 {vs : List Value} {a : V} (e : vs.map er = [a]) : ∃ x, vs = [x] ∧ er x = a := by
  rcases vs with _ | ⟨x, _ | ⟨y, r⟩⟩ <;> simp at e
  exact ⟨x, rfl, e⟩
theorem map_er2 {vs : List Value} {a b : V} (e : vs.map er = [a, b]) : ∃ x y, vs = [x, y] ∧ er x = a ∧ er y = b := by
  rcases vs with _ | ⟨x, _ | ⟨y, _ | ⟨z, r⟩⟩⟩ <;> simp at e
  exact ⟨x, y, rfl, e⟩
theorem map_er3 {vs : List Value} {a b c : V} (e : vs.map er = [a, b, c]) : ∃ x y z, vs = [x, y, z] ∧ er x = a ∧ er y = b ∧ er z = c := by
  rcases vs with _ | ⟨x, _ | ⟨y, _ | ⟨z, _ | ⟨u, r⟩⟩⟩⟩ <;> simp at e
  exact ⟨x, y, z, rfl, e⟩
noncomputable def tyOf (H : AHeap) : V → Option String
  | .int _ => some "int"
  | .str _ _ => some "str"
  | .ref a => match H a with
    | some (.list _) => some "list"
    | some (.tup _) => some "tuple"
    | some (.dict _ _) => some "dict"
    | _ => none
  | _ => none
section
variable {k : Wk} {m : Loc} {H : AHeap}
theorem St.typeIs {c : Cx} {o : Out} {env : Env} {B : BMap} {s : Shared} (st : St c o env B m H s) {v : Value} {T : String} (h : tyOf H (er v) = some T) : s.TypeIs v T := by
  cases v with
  | int i t => simp [er, tyOf] at h; subst h; exact typeIs_int s i t
  | str x t => simp [er, tyOf] at h; subst h; rfl
  | ref a =>
    simp only [er, tyOf] at h
    split at h
    · rename_i xs e
      cases h
      obtain ⟨ob, ho, hI⟩ := st.own a _ e
      exact ⟨ob, ho, (isList_cls ob hI).1⟩
    · rename_i xs e
      cases h
      obtain ⟨ob, ho, hI⟩ := st.own a _ e
      exact ⟨ob, ho, (isTup_cls ob hI).1⟩
    · rename_i xs ep e
      cases h
      obtain ⟨ob, ho, hI⟩ := st.own a _ e
      exact ⟨ob, ho, (isDict_cls ob hI).1⟩
    · cases h
  | _ => simp [er, tyOf] at h
theorem WCall_isinst {v : V} {Tx T : String} {Q : V → Loc → AHeap → Prop} (hv : tyOf H v = some Tx) (hTx : Tx ∈ ["int", "str", "list", "tuple", "dict"]) (hT : T ∈ ["list", "dict", "str"]) (h : Q (.bool (decide (Tx = T))) m H) :
    WCall k (.builtin "isinstance") [v, .ty T] m H Q := fun vs e => by
  obtain ⟨x, y, rfl, rfl, e2⟩ := map_er2 e
  obtain rfl := er_ty e2
  refine W.of_wp fun B s st P hp => ?_
  have hty := st.typeIs hv
  have mt : typeOf (.type T) = pure (.type "type") := by
    simp only [List.mem_cons, List.mem_nil_iff, or_false] at hT
    rcases hT with rfl | rfl | rfl
    · exact mt_l
    · exact mt_d
    · exact mt_s
  have sub : isSubtype (.type Tx) (.type T) = pure (decide (Tx = T)) := by
    simp only [List.mem_cons, List.mem_nil_iff, or_false] at hT hTx
    rcases hTx with rfl | rfl | rfl | rfl | rfl <;> rcases hT with rfl | rfl | rfl
    · exact sub_il
    · exact sub_id
    · exact sub_is
    · exact sub_sl
    · exact sub_sd
    · exact sub_ss
    · exact sub_ll
    · exact sub_ld
    · exact sub_ls
    · exact sub_tl
    · exact sub_td
    · exact sub_ts
    · exact sub_dl
    · exact sub_dd
    · exact sub_ds
  by_cases hTT : Tx = T
  · have e : decide (Tx = T) = true := by simp [hTT]
    rw [e] at sub h
    exact call_isinstance (isinstance_true (Tx := Tx) mt sub) ⟨hty, hp _ s.toks h⟩
  · have e : decide (Tx = T) = false := by simp [hTT]
    rw [e] at sub h
    have hne : (Value.type Tx == Value.type T) = false := by simp [hTT]
    simp only [List.mem_cons, List.mem_nil_iff, or_false] at hTx
    rcases hTx with rfl | rfl | rfl | rfl | rfl
    · obtain ⟨t, i, rfl⟩ : ∃ t i, x = .int i t := by
        cases x with
        | int i t => exact ⟨t, i, rfl⟩
        | ref a => simp only [er, tyOf] at hv; split at hv <;> simp at hv
        | _ => simp [er, tyOf] at hv
      exact call_isinstance (isinstance_false_int hne mt sub) (hp _ _ h)
    · obtain ⟨t, i, rfl⟩ : ∃ t i, x = .str i t := by
        cases x with
        | str i t => exact ⟨t, i, rfl⟩
        | ref a => simp only [er, tyOf] at hv; split at hv <;> simp at hv
        | _ => simp [er, tyOf] at hv
      exact call_isinstance (isinstance_false_str hne mt sub) (hp _ _ h)
    · obtain ⟨a, rfl⟩ : ∃ a, x = .ref a := by cases x <;> simp [er, tyOf] at hv ⊢
      exact call_isinstance (isinstance_false_list hne mt sub) ⟨hty, hp _ _ h⟩
    · obtain ⟨a, rfl⟩ : ∃ a, x = .ref a := by cases x <;> simp [er, tyOf] at hv ⊢
      exact call_isinstance (isinstance_false_tuple hne mt sub) ⟨hty, hp _ _ h⟩
    · obtain ⟨a, rfl⟩ : ∃ a, x = .ref a := by cases x <;> simp [er, tyOf] at hv ⊢
      exact call_isinstance (isinstance_false_dict hne mt sub) ⟨hty, hp _ _ h⟩
theorem WCall_type {v : V} {Tx : String} {Q : V → Loc → AHeap → Prop} (hv : tyOf H v = some Tx) (hTx : Tx ∈ ["int", "str", "list", "tuple", "dict"]) (h : Q (.ty Tx) m H) : WCall k (.type "type") [v] m H Q := fun vs e => by
  obtain ⟨x, rfl, rfl⟩ := map_er1 e
  refine W.of_wp fun B s st P hp => ?_
  refine call_type_of (st.typeIs hv) ?_ (hp (.type Tx) s.toks h)
  simp only [List.mem_cons, List.mem_nil_iff, or_false] at hTx
  rcases hTx with rfl | rfl | rfl | rfl | rfl <;> decide
theorem W.of_new {t : Sem Value} {R : AObj → Prop} {Q : V → Loc → AHeap → Prop}
    (h : ∀ B s, St k.c k.o k.env B m H s → ∀ P : Value → Shared → Prop, (∀ a h' tk y, R y → s.heap.objs.size ≤ a → (∀ b ob, s.heap.get? b = some ob → h'.get? b = some ob) → (∃ ob, h'.get? a = some ob ∧ IsObj k.c ob y) → P (.ref a) { s with heap := h', toks := tk }) →
      wpAny (model k.c.prog k.c.w) k.A t P k.E s)
    (hQ : ∀ a y, R y → H a = none → Q (.ref a) m (upd H a y)) : WV k t m H Q := fun B s st =>
  wpAny_mono (wpAny_toks_of st.tk (h B s st (fun v s' => ∃ a h' tk y, v = .ref a ∧ R y ∧ s.heap.objs.size ≤ a ∧ (∀ b ob, s.heap.get? b = some ob → h'.get? b = some ob) ∧ (∃ ob, h'.get? a = some ob ∧ IsObj k.c ob y) ∧ s' = { s with heap := h', toks := tk })
    fun a h' tk y h1 h2 h3 h4 => ⟨a, h', tk, y, rfl, h1, h2, h3, h4, rfl⟩)) (fun v s' q => by
      obtain ⟨ht, a, h', tk, y, rfl, h1, h2, h3, h4, rfl⟩ := q
      exact ⟨m, _, st.new h2 h3 h4 ht, hQ a y h1 (st.fresh (st.none_at h2)).1⟩) fun _ _ x => x.2
theorem WCall_lenL {a : Addr} {xs : List V} {Q : V → Loc → AHeap → Prop} (ha : H a = some (.list xs)) (hz : xs.length < 2 ^ 63) (h : Q (.int xs.length) m H) : WCall k (.builtin "len") [.ref a] m H Q := fun vs e => by
  obtain ⟨x, rfl, e'⟩ := map_er1 e
  obtain rfl := er_ref e'
  refine W.of_wp fun B s st P hp => ?_
  obtain ⟨vs, n, hl, rfl⟩ := st.listAt ha
  rw [List.length_map] at h hz
  exact call_len_list hl.isList (by simp; lia) (by simpa using hp (.int vs.length (s.toks + 1)) (s.toks + 2) h)
theorem WCall_lenT {a : Addr} {xs : List V} {Q : V → Loc → AHeap → Prop} (ha : H a = some (.tup xs)) (hz : xs.length < 2 ^ 63) (h : Q (.int xs.length) m H) : WCall k (.builtin "len") [.ref a] m H Q := fun vs e => by
  obtain ⟨x, rfl, e'⟩ := map_er1 e
  obtain rfl := er_ref e'
  refine W.of_wp fun B s st P hp => ?_
  obtain ⟨vs, n, hl, rfl⟩ := st.tupAt ha
  rw [List.length_map] at h hz
  exact len_tuple (items := (vs : List Value).toArray) ⟨_, hl, rfl, n, rfl⟩ (by simp; lia) (by simpa using hp (.int vs.length (s.toks + 1)) (s.toks + 2) h)
theorem WCall_range1 {n : Int} {Q : V → Loc → AHeap → Prop} (h : ∀ a, H a = none → Q (.ref a) m (upd H a (.range 0 n 1))) : WCall k (.type "range") [.int n] m H Q := fun vs e => by
  obtain ⟨x, rfl, e'⟩ := map_er1 e
  obtain ⟨t, rfl⟩ := er_int e'
  refine W.of_new (R := fun y => y = .range 0 n 1) (fun B s st P hp => ?_) (fun a y hy hn => hy ▸ h a hn)
  exact call_range_1 (hp _ _ _ _ rfl (Nat.le_refl _) (fun b ob e => Heap.get?_push_of_some _ e) ⟨_, Heap.get?_push_size _ rfl, _, _, _, rfl⟩)
theorem WCall_range2 {l n : Int} {Q : V → Loc → AHeap → Prop} (h : ∀ a, H a = none → Q (.ref a) m (upd H a (.range l n 1))) : WCall k (.type "range") [.int l, .int n] m H Q := fun vs e => by
  obtain ⟨x, y, rfl, e1, e2⟩ := map_er2 e
  obtain ⟨t, rfl⟩ := er_int e1; obtain ⟨u, rfl⟩ := er_int e2
  refine W.of_new (R := fun y => y = .range l n 1) (fun B s st P hp => ?_) (fun a y hy hn => hy ▸ h a hn)
  exact call_range_2 (hp _ _ _ _ rfl (Nat.le_refl _) (fun b ob e => Heap.get?_push_of_some _ e) ⟨_, Heap.get?_push_size _ rfl, _, _, _, rfl⟩)
theorem WCall_abs {a : Int} {Q : V → Loc → AHeap → Prop} (h : Q (.int (if a < 0 then -a else a)) m H) : WCall k (.builtin "abs") [.int a] m H Q := fun vs e => by
  obtain ⟨x, rfl, e'⟩ := map_er1 e
  obtain ⟨t, rfl⟩ := er_int e'
  exact W.of_wp fun B s st P hp => call_abs_int fun u tk => hp (.int (if a < 0 then -a else a) u) tk h
theorem WCall_listD {a : Addr} {kvs : List (Key × V)} {ep : Nat} {Q : V → Loc → AHeap → Prop} (hh : k.A.handled = none) (ha : H a = some (.dict kvs ep)) (hz : kvs.length ≤ sizeLine)
    (h : ∀ p xs, xs.length = kvs.length → (∀ (i : Nat) (kv : Key × V) (x : V), kvs[i]? = some kv → xs[i]? = some x → isKV kv.1 x = true) → H p = none → Q (.ref p) m (upd H p (.list xs))) : WCall k (.type "list") [.ref a] m H Q := fun vs e => by
  obtain ⟨x, rfl, e'⟩ := map_er1 e
  obtain rfl := er_ref e'
  refine W.of_new (R := fun y => ∃ xs, y = .list xs ∧ xs.length = kvs.length ∧ ∀ (i : Nat) (kv : Key × V) (x : V), kvs[i]? = some kv → xs[i]? = some x → isKV kv.1 x = true) (fun B s st P hp => ?_) (fun a y ⟨xs, hy, h1, h2⟩ hn => hy ▸ h a xs h1 h2 hn)
  obtain ⟨rvs, hm, rfl⟩ := st.dictAt ha
  refine kdl_call (kdl_dict (knd := mix k.c.prog k.c.w) (kvs := rvs) (ep := ep) (st.notMods ha)) hh hm (by simpa using hz) fun h' tk acc' c' hk hD hacc => ?_
  refine hp _ _ _ _ ⟨acc'.toList.map er, rfl, ?_, fun i kv x e1 e2 => ?_⟩ (Nat.le_refl _) hk ⟨_, hD, acc'.toList, c', by simp, rfl⟩
  · rw [List.length_map, List.length_map, Array.length_toList]; exact hacc.1
  · rw [List.getElem?_map, Option.map_eq_some_iff] at e1 e2
    obtain ⟨kv', e1, rfl⟩ := e1
    obtain ⟨u, e2, rfl⟩ := e2
    obtain ⟨key, x, e3, e4⟩ := hacc.2 i u (by rw [← Array.getElem?_toList]; exact e2)
    rw [e1] at e3; cases e3
    rw [← isKey_er]; exact e4
end
end Mine
namespace Mine
noncomputable def Ext (H H' : AHeap) : Prop := ∀ a x, H a = some x → H' a = some x
theorem Ext.refl (H : AHeap) : Ext H H := fun _ _ e => e
theorem Ext.trans {H H' H'' : AHeap} (h : Ext H H') (h' : Ext H' H'') : Ext H H'' := fun a x e => h' a x (h a x e)
theorem Ext.upd {H : AHeap} {a : Addr} {x : AObj} (h : H a = none) : Ext H (upd H a x) := fun b y e => upd_fresh h e
section
variable {k : Wk} {m : Loc} {H : AHeap}
theorem St.list_of_update {c : Cx} {o : Out} {env : Env} {B : BMap} {s : Shared} (st : St c o env B m H s) {l : Addr} {vs : List Value} {n : Nat} (hl : IsL s.heap l vs.toArray n) {x : AObj} (hx : H l = some x) (f : Array Value → Array Value) (ys : List Value) (hf : f vs.toArray = ys.toArray) :
    St c o env B m (upd H l (.list (ys.map er))) { s with heap := s.heap.update l (Obj.mapSeq f) } := by
  have h1 := hl.update f
  rw [hf] at h1
  exact st.put (tk := s.toks) hx (fun b ob ne e => (Heap.get?_update_other _ _ (Ne.symm ne)).trans e) ⟨_, h1, ys, _, rfl, rfl⟩ st.tk
/-! list methods -/
theorem WCall_append {l : Addr} {xs : List V} {v : V} {Q : V → Loc → AHeap → Prop} (hl : H l = some (.list xs)) (hz : xs.length ≤ sizeLine) (h : Q .none m (upd H l (.list (xs ++ [v])))) : WCall k (.builtin "list.append") [.ref l, v] m H Q := fun vs e B s st => by
  refine Mine.hideG fun GG back => ?_
  obtain ⟨x, y, rfl, e1, rfl⟩ := map_er2 e
  refine back ?_
  clear back
  obtain rfl := er_ref e1
  refine Mine.hideG fun GG back => ?_
  obtain ⟨vs, n, hl', rfl⟩ := st.listAt hl
  refine back ?_
  clear back
  have st' := st.list_of_update hl' hl (fun x_1 => x_1.push y) (vs ++ [y]) (by simp)
  rw [List.map_append] at st'
  exact call_meets F.slot_list_append hl'.isList.typeIs F.entry_list_append (F.args_list_append_2 _ _) (list_append l vs.toArray n y (by simpa using hz)) ⟨hl', m, _, st', h⟩
/-! dict methods -/
theorem WCall_get {d : Addr} {kvs : List (Key × V)} {ep : Nat} {key : Key} {kv : V} {Q : V → Loc → AHeap → Prop} (hd : H d = some (.dict kvs ep)) (hk : isKV key kv = true) (h : Q ((getK kvs key).getD .none) m H) : WCall k (.builtin "dict.get") [.ref d, kv] m H Q := fun vs e => by
  refine Mine.hideG fun GG back => ?_
  obtain ⟨x, y, rfl, e1, e2⟩ := map_er2 e
  refine back ?_
  clear back
  obtain rfl := er_ref e1
  refine W.of_wp fun B s st P hp => ?_
  refine Mine.hideG fun GG back => ?_
  obtain ⟨rvs, hm, rfl⟩ := st.dictAt hd
  refine back ?_
  clear back
  have hkey : (mix k.c.prog k.c.w).is key y = true := by show isKey key y = true; rw [isKey_er, e2]; exact hk
  refine call_meetsIn F.slot_dict_get hm.dictOf.typeIs F.entry_dict_get (F.args_dict_get_2 _ _) (meets_dict_get (mix k.c.prog k.c.w) d hkey (st.notMods hd)) ⟨_, hm.dictOf.mapOf, hp _ _ ?_⟩
  rw [getK_er] at h
  cases hv : valueAt rvs key with
  | none => rw [hv] at h; exact h
  | some v => rw [hv] at h; exact h
/-! sums of lists and tuples -/
theorem WBin_addL {a b : Addr} {xs ys : List V} {Q : V → Loc → AHeap → Prop} (ha : H a = some (.list xs)) (hb : H b = some (.list ys)) (hz : xs.length + ys.length ≤ sizeLine) (h : ∀ p, H p = none → Q (.ref p) m (upd H p (.list (xs ++ ys)))) : WBin k .Add (.ref a) (.ref b) m H Q := fun x y e1 e2 => by
  obtain rfl := er_ref e1
  obtain rfl := er_ref e2
  refine W.of_new (R := fun y => y = .list (xs ++ ys)) (fun B s st P hp => ?_) (fun a y hy hn => hy ▸ h a hn)
  refine Mine.hideG fun GG back => ?_
  obtain ⟨vs, n, hl, rfl⟩ := st.listAt ha
  obtain ⟨us, n2, hb', rfl⟩ := st.listAt hb
  refine back ?_
  clear back
  exact PySem.P.add_list hl hb' (hp _ _ s.toks _ rfl (Nat.le_refl _) (fun b ob e => Heap.get?_push_of_some _ e) ⟨_, Heap.get?_push_size _ rfl, vs ++ us, 0, by simp, by simp⟩) (by simpa using hz)
theorem St.isT {c : Cx} {o : Out} {env : Env} {B : BMap} {s : Shared} (st : St c o env B m H s) {l : Addr} {xs : List V} (hl : H l = some (.tup xs)) : ∃ vs n, IsT s.heap l (vs : List Value).toArray n ∧ vs.map er = xs := st.tupAt hl
theorem call_tup_add {a b : Addr} {xs ys : List V} {Q : V → Loc → AHeap → Prop} (ha : H a = some (.tup xs)) (hb : H b = some (.tup ys)) (hz : xs.length + ys.length ≤ sizeLine) (h : ∀ p H', Ext H H' → H' p = some (.tup (xs ++ ys)) → Q (.ref p) m H') : WV k (call (.builtin "tuple.__add__") [.ref a, .ref b]) m H Q := by
  by_cases h0 : xs = []
  · subst h0
    refine W.of_wp fun B s st P hp => ?_
    refine Mine.hideG fun GG back => ?_
    obtain ⟨vs, n, hl, e⟩ := st.isT ha
    obtain ⟨us, n2, hb', e2⟩ := st.isT hb
    refine back ?_
    clear back
    obtain rfl : vs = [] := by simpa using e
    exact call_meets F.slot_tuple_add (id := "tuple.__add__") ⟨_, hl, rfl⟩ F.entry_tuple_add (F.args_tuple_add_2 _ _) (AutoSeq1.tuple___add___tuple_tuple_0 a [].toArray n b us.toArray n2 rfl) ⟨hl, hb', hp (.ref b) s.toks (h b H (Ext.refl _) hb)⟩
  · by_cases h1 : ys = []
    · subst h1
      refine W.of_wp fun B s st P hp => ?_
      refine Mine.hideG fun GG back => ?_
      obtain ⟨vs, n, hl, e⟩ := st.isT ha
      obtain ⟨us, n2, hb', e2⟩ := st.isT hb
      refine back ?_
      clear back
      obtain rfl : us = [] := by simpa using e2
      exact call_meets F.slot_tuple_add (id := "tuple.__add__") ⟨_, hl, rfl⟩ F.entry_tuple_add (F.args_tuple_add_2 _ _) (AutoSeq1.tuple___add___tuple_tuple_1 a vs.toArray n b [].toArray n2 (by subst e; simpa using h0) rfl) ⟨hl, hb', hp (.ref a) s.toks (h a H (Ext.refl _) (by rw [List.append_nil]; exact ha))⟩
    · refine W.of_new (R := fun y => y = .tup (xs ++ ys)) (fun B s st P hp => ?_) (fun a y hy hn => hy ▸ h a _ (Ext.upd hn) upd_same)
      refine Mine.hideG fun GG back => ?_
      obtain ⟨vs, n, hl, rfl⟩ := st.isT ha
      obtain ⟨us, n2, hb', rfl⟩ := st.isT hb
      refine back ?_
      clear back
      refine call_meets F.slot_tuple_add (id := "tuple.__add__") ⟨_, hl, rfl⟩ F.entry_tuple_add (F.args_tuple_add_2 _ _) (AutoSeq1.tuple___add___tuple_tuple_2 a vs.toArray n b us.toArray n2 (by simpa using h0) (by simpa using h1) (by simpa using hz)) ⟨hl, hb', hp _ _ s.toks _ rfl (Nat.le_refl _) (fun b ob e => Heap.get?_push_of_some _ e) ⟨_, Heap.get?_push_size _ rfl, vs ++ us, 0, by simp, by simp⟩⟩
theorem WBin_addT {a b : Addr} {xs ys : List V} {Q : V → Loc → AHeap → Prop} (ha : H a = some (.tup xs)) (hb : H b = some (.tup ys)) (hz : xs.length + ys.length ≤ sizeLine) (h : ∀ p H', Ext H H' → H' p = some (.tup (xs ++ ys)) → Q (.ref p) m H') : WBin k .Add (.ref a) (.ref b) m H Q := fun x y e1 e2 B s st => by
  obtain rfl := er_ref e1
  obtain rfl := er_ref e2
  refine Mine.hideG fun GG back => ?_
  obtain ⟨vs, n, hl, _⟩ := st.isT ha
  obtain ⟨us, n2, hb', _⟩ := st.isT hb
  refine back ?_
  clear back
  exact PySem.wpAny_binaryOp_concat ⟨_, hl, rfl⟩ ⟨_, hb', rfl⟩ noFill_tuple_add seq_tuple_add (call_tup_add ha hb hz h B s st)
end
end Mine
namespace Mine
noncomputable def WPart (k : Wk) (e : Option Expr) (m : Loc) (H : AHeap) (Q : Option Int → Loc → AHeap → Prop) : Prop := W k (evalPart e k.env) m H fun v m1 H1 => ∃ i, IsPart v i ∧ Q i m1 H1
noncomputable def sliceV {α : Type} (xs : List α) (lo hi : Option Int) : List α := (xs.drop (lo.elim 0 (clipAt xs.length))).take (hi.elim xs.length (clipAt xs.length) - lo.elim 0 (clipAt xs.length))
theorem sliceV_map {α β : Type} (f : α → β) (xs : List α) (lo hi : Option Int) : sliceV (xs.map f) lo hi = (sliceV xs lo hi).map f := by
  unfold sliceV
  rw [List.length_map, List.map_take, List.map_drop]
theorem sliceV_length {α : Type} (xs : List α) (lo hi : Option Int) : (sliceV xs lo hi).length ≤ xs.length := by
  unfold sliceV
  rw [List.length_take, List.length_drop]; lia
theorem clipAt_le (n : Nat) (i : Int) : clipAt n i ≤ n := by
  have h := clipAt_cast n i
  lia
theorem adjust_plain (lo hi : Option Int) (n : Nat) : Builtin.Slice.sliceAdjust lo hi 1 (n : Int) = (((lo.elim 0 (clipAt n) : Nat) : Int), ((hi.elim n (clipAt n) : Nat) : Int)) := by
  have h1 : ¬ ((1 : Int) < 0) := by lia
  have clip : ∀ v : Int, (if v < 0 then max (v + n) 0 else min v n) = ((clipAt n v : Nat) : Int) := fun v => by
    have := clipAt_cast n v
    split at this
    · rename_i h; rw [if_pos h]; lia
    · rename_i h; rw [if_neg h]; lia
  unfold Builtin.Slice.sliceAdjust
  simp only [h1, if_false]
  cases lo <;> cases hi <;> simp only [Option.elim, clip] <;> rfl
theorem places_plain (a b : Nat) : Builtin.Slice.slicePlaces (a : Int) (b : Int) 1 = b - a := by
  unfold Builtin.Slice.slicePlaces
  have h1 : (1 : Int) > 0 := by lia
  simp only [h1, if_true, Int.ediv_one]
  split <;> lia
section
variable {prog : Program} {w : World} {A : Around} {E : Value → Shared → Prop} {s : Shared}
theorem slicePart_ {v : Value} {i : Option Int} {Q : Option Int → Shared → Prop} (hv : IsPart v i) (h : Q i s) : wpAny (model prog w) A (Builtin.Slice.slicePartIndex v) Q E s := by
  cases hv with
  | none => exact slicePart_none h
  | int i t => exact slicePart_int h
theorem sliceApplied_plain {sl : Addr} {vl vu : Value} {lo hi : Option Int} {n : Nat} {Q : Int × Int × Nat → Shared → Prop} (hs : s.heap.IsSliceOf sl vl vu .none) (pl : IsPart vl lo) (pu : IsPart vu hi)
    (h : Q (((lo.elim 0 (clipAt n) : Nat) : Int), 1, hi.elim n (clipAt n) - lo.elim 0 (clipAt n)) s) :
    wpAny (model prog w) A (Builtin.Slice.sliceApplied (.ref sl) (pure (n : Int))) Q E s := by
  obtain ⟨os, hos, hcs, hds⟩ := id hs
  unfold Builtin.Slice.sliceApplied Builtin.Slice.sliceFields
  refine wpAny_bind (wpAny_bind (wpAny_field hos hds (x := vl) rfl (wpAny_bind (wpAny_field hos hds (x := vu) rfl (wpAny_bind (wpAny_field hos hds (x := .none) rfl (wpAny_pure ?_)))))))
  refine wpAny_bind (slicePart_none ?_)
  show wpAny _ _ (if ((1 : Int) == 0) = true then _ else _) _ _ s
  rw [if_neg (by decide)]
  refine wpAny_bind (slicePart_ pl (wpAny_bind (slicePart_ pu (wpAny_bind (wpAny_pure ?_)))))
  show wpAny _ _ (match Builtin.Slice.sliceAdjust lo hi 1 (n : Int) with | (lo, hi) => pure (lo, (1 : Int), Builtin.Slice.slicePlaces lo hi 1)) _ _ s
  rw [adjust_plain]
  show wpAny _ _ (pure (_, (1 : Int), Builtin.Slice.slicePlaces _ _ 1)) _ _ s
  rw [places_plain]
  exact wpAny_pure h
theorem getItem_tuple_plain {t sl : Addr} {items : Array Value} {vl vu : Value} {lo hi : Option Int} {Q : Value → Shared → Prop} (ht : IsTup s.heap t items) (hs : s.heap.IsSliceOf sl vl vu .none) (pl : IsPart vl lo) (pu : IsPart vu hi)
    (hw : sliceV items.toList lo hi = items.toList → Q (.ref t) s)
    (h : Q (.ref s.heap.objs.size) { s with heap := s.heap.push { cls := .type "tuple", data := .seq (sliceV items.toList lo hi).toArray } })
    (hsz : items.size ≤ sizeLine) : wpAny (model prog w) A (getItem (.ref t) (.ref sl)) Q E s := by
  have hok : sizeOk (.seq (sliceV items.toList lo hi).toArray) := by
    show (sliceV items.toList lo hi).toArray.size ≤ sizeLine
    rw [List.size_toArray]
    exact Nat.le_trans (sliceV_length _ _ _) (by simpa using hsz)
  obtain ⟨os, hos, hcs, hds⟩ := id hs
  have hTs : s.TypeIs (.ref sl) "slice" := ⟨os, hos, hcs⟩
  unfold getItem
  try with_reducible refine wpAny_holding ?_
  first | refine wpAny_bind (wpAny_pure ?_) | skip
  refine wpAny_bind (wpAny_sequenceKey ht.typeIs (by decide) ?_)
  refine wpAny_bind (wpAny_callSpecial?_slot (name := Str.ofString "__getitem__") ht.typeIs slot_tuple_getitem
    (wpAny_call_entry slot_tuple_getitem ht.typeIs entry_tuple_getitem ?_ (args_tuple_getitem _ _)))
  show wpAny _ _ (Builtin.Tuple.tupleItemsOf (.ref t) >>= _) _ _ s
  refine wpAny_bind (tupleItemsOf_ ht ?_)
  refine wpAny_bind (wpAny_typeOf hTs ?_)
  rw [if_pos (by decide)]
  refine wpAny_bind (sliceApplied_plain hs pl pu ?_)
  generalize ha : lo.elim 0 (clipAt items.size) = a
  generalize hb : hi.elim items.size (clipAt items.size) = b
  have hal : a ≤ items.size := by
    subst ha; cases lo with
    | none => exact Nat.zero_le _
    | some i => exact clipAt_le _ _
  have hbl : b ≤ items.size := by
    subst hb; cases hi with
    | none => exact Nat.le_refl _
    | some i => exact clipAt_le _ _
  have hv : sliceV items.toList lo hi = (items.toList.drop a).take (b - a) := by unfold sliceV; rw [Array.length_toList, ha, hb]
  show wpAny _ _ (if ((a : Int) == 0 && (1 : Int) == 1 && (b - a) == items.size) = true then _ else _) _ _ s
  by_cases hall : ((a : Int) == 0 && (1 : Int) == 1 && (b - a) == items.size) = true
  · rw [if_pos hall]
    simp only [Bool.and_eq_true, beq_iff_eq] at hall
    have ha0 : a = 0 := by lia
    have hbn : b = items.size := by lia
    have := hw (by rw [hv, ha0, hbn, List.drop_zero, List.take_of_length_le (by simp)])
    refine wpAny_bind (m := Builtin.Tuple.tupleIsExact _) ?_
    unfold Builtin.Tuple.tupleIsExact
    refine wpAny_bind (wpAny_typeOf ht.typeIs (wpAny_pure ?_))
    rw [if_pos (by decide)]
    first
      | exact wpAny_bind (wpAny_rule (wpAny_bind (wpAny_pure (wpAny_pure ⟨_, rfl, wpAny_pure this⟩))))
      | exact wpAny_bind (wpAny_rule (wpAny_bind (wpAny_pure ⟨_, rfl, wpAny_pure this⟩)))
      | exact wpAny_bind (wpAny_rule (wpAny_pure ⟨_, rfl, wpAny_pure this⟩))
  · rw [if_neg hall]
    have epick : ((List.range (b - a)).filterMap fun (k : Nat) => items[((a : Int) + (k : Int) * 1).toNat]?).toArray = (sliceV items.toList lo hi).toArray := by
      have e : (fun (k : Nat) => items[((a : Int) + (k : Int) * 1).toNat]?) = fun k => items[a + k]? := by
        funext k
        have : ((a : Int) + (k : Int) * 1).toNat = a + k := by lia
        rw [this]
      rw [e]
      have := pick_run items a (b - a)
      rw [List.filterMap_map] at this
      have e2 : ((fun x => items[x]?) ∘ fun x => a + x) = fun k => items[a + k]? := rfl
      rw [e2] at this
      rw [this, hv]
    rw [epick]
    first
      | exact wpAny_bind (m := Builtin.Tuple.tupleExact _) (wpAny_newObj_type (wpAny_pure ⟨_, rfl, wpAny_pure h⟩) hok)
      | exact wpAny_bind (m := Builtin.Tuple.tupleExact _) (wpAny_newObj_type (wpAny_bind (wpAny_pure (wpAny_pure ⟨_, rfl, wpAny_pure h⟩))) hok)
      | exact wpAny_bind (wpAny_bind (m := Builtin.Tuple.tupleExact _) (wpAny_newObj_type (wpAny_pure (wpAny_pure ⟨_, rfl, wpAny_pure h⟩)) hok))
      | exact wpAny_bind (wpAny_bind (m := Builtin.Tuple.tupleExact _) (wpAny_newObj_type (wpAny_pure ⟨_, rfl, wpAny_pure h⟩) hok))
end
section
variable {k : Wk} {m : Loc} {H : AHeap}
theorem WPart_none {Q : Option Int → Loc → AHeap → Prop} (h : Q none m H) : WPart k none m H Q := W.pure ⟨none, .none, h⟩
theorem WPart_some {e : Expr} {Q : Option Int → Loc → AHeap → Prop} (h : WV k (eval e k.env) m H fun v m1 H1 => ∃ i, v = .int i ∧ Q (some i) m1 H1) : WPart k (some e) m H Q :=
  W.mono h fun v m1 H1 ⟨i, e, q⟩ => by
    obtain ⟨t, rfl⟩ := er_int e
    exact ⟨_, .int i t, q⟩
noncomputable def WSl (k : Wk) (ov : V) (i j : Option Int) (m : Loc) (H : AHeap) (Q : V → Loc → AHeap → Prop) : Prop :=
  ∃ a, ov = .ref a ∧ ((∃ xs, H a = some (.list xs) ∧ xs.length ≤ sizeLine ∧ ∀ b H', Ext H H' → H b = none → H' b = some (.list (sliceV xs i j)) → Q (.ref b) m H') ∨ (∃ xs, H a = some (.tup xs) ∧ xs.length ≤ sizeLine ∧ ∀ b H', Ext H H' → H' b = some (.tup (sliceV xs i j)) → Q (.ref b) m H'))
theorem W_SubSlice {value : Expr} {lo hi : Option Expr} {p pos : Pos} {Q : V → Loc → AHeap → Prop}
    (h : WV k (eval value k.env) m H fun ov m1 H1 => WPart k lo m1 H1 fun i m2 H2 => WPart k hi m2 H2 fun j m3 H3 => WSl k ov i j m3 H3 Q)
    (hs : ∀ o i, ∃ ops, subscripted (.Slice lo hi none p) false o i = operate ops (getItem o i) := by intro _ _; exact ⟨_, by with_unfolding_all rfl⟩) : WV k (eval (.Subscript value (.Slice lo hi none p) pos) k.env) m H Q := fun B s st =>
  Subscript_ (wpAny_mono (h B s st) (fun ov s1 ⟨m1, H1, st1, q1⟩ => wpAny_Slice (wpAny_mono (q1 B s1 st1) (fun l s2 ⟨m2, H2, st2, i, pl, q2⟩ => wpAny_mono (q2 B s2 st2) (fun u s3 hx1 => by
    refine Mine.hideG fun GG back => ?_
    obtain ⟨m3, H3, st3, j, pu, q3⟩ := hx1
    refine back ?_
    clear back
    rw [evalPart_none]
    refine wpAny_pure ?_
    obtain ⟨a, e, q3⟩ := q3
    obtain rfl := er_ref e
    obtain ⟨ops, hs⟩ := hs (.ref a) (.ref s3.heap.objs.size)
    have st4 := st3.grown (tk := s3.toks) (h' := s3.heap.push { cls := .type "slice", data := .fields #[l, u, .none] }) (fun b ob e => Heap.get?_push_of_some _ e) st3.tk
    rcases q3 with ⟨xs, hx, hz, q⟩ | ⟨xs, hx, hz, q⟩
    · obtain ⟨vs, n, hl, rfl⟩ := st4.listAt hx
      have hn := st4.none_at (Nat.le_refl _)
      refine tail_any (s := { s3 with heap := s3.heap.push { cls := .type "slice", data := .fields #[l, u, .none] } }) hl.isList.typeIs slot_list_getitem.lookup (wpAny_getItem_list_slice hl.isList (Heap.IsSliceOf.new ..) pl pu .none (by intro e; cases e) ⟨m3, _, st4.new (tk := s3.toks) (Nat.le_refl _) (fun b ob e => Heap.get?_push_of_some _ e) (y := .list (sliceV (vs.map er) i j)) ⟨_, Heap.get?_push_size _ rfl, sliceV vs i j, 0, ?_, (sliceV_map _ _ _ _).symm⟩ st4.tk, q _ _ (Ext.upd (st4.fresh hn).1) (st4.fresh hn).1 upd_same⟩ (by simpa using hz)) hs
      rw [slicePick_plain]
      rfl
    · obtain ⟨vs, n, hl, rfl⟩ := st4.tupAt hx
      have hT : IsTup (s3.heap.push { cls := .type "slice", data := .fields #[l, u, .none] }) a vs.toArray := ⟨_, hl, rfl, n, rfl⟩
      have hn := st4.none_at (Nat.le_refl _)
      refine tail_any (s := { s3 with heap := s3.heap.push { cls := .type "slice", data := .fields #[l, u, .none] } }) hT.typeIs slot_tuple_getitem.lookup (getItem_tuple_plain hT (Heap.IsSliceOf.new ..) pl pu (fun e => ⟨m3, H3, st4, q a H3 (Ext.refl _) ?_⟩) ⟨m3, _, st4.new (tk := s3.toks) (Nat.le_refl _) (fun b ob e => Heap.get?_push_of_some _ e) (y := .tup (sliceV (vs.map er) i j)) ⟨_, Heap.get?_push_size _ rfl, sliceV vs i j, 0, rfl, (sliceV_map _ _ _ _).symm⟩ st4.tk, q _ _ (Ext.upd (st4.fresh hn).1) upd_same⟩ (by simpa using hz)) hs
      rw [sliceV_map, show sliceV vs i j = vs from e]; exact hx) fun _ _ x => x) fun _ _ x => x)) fun _ _ x => x)
/-! is -/
end
end Mine
namespace Mine
section
variable {c : Cx} {o : Out} {env : Env} {B : BMap} {m : Loc} {H : AHeap} {s : Shared}
theorem St.but {m₀ : Loc} {H₀ : AHeap} {s₀ : Shared} (st₀ : St c o env B m₀ H₀ s₀) {it : Addr} {x : Obj × Bool} (hB : B it = none) (hb : c.base.objs.size ≤ it) (st : St c o env (upd B it x) m H s) {h' : Heap} {tk : Nat} (hk : Heap.ExtBut it s.heap h') (ht : 1 ≤ tk) :
    St c o env B m H { s with heap := h', toks := tk } := by
  have q : ∀ b y, B b = some y → upd B it x b = some y := fun b y e => upd_fresh hB e
  have r : ∀ b, upd B it x b = none → B b = none := fun b e => by
    cases h : B b with
    | none => rfl
    | some y => rw [q b y h] at e; cases e
  have hHit : ∀ b y, H b = some y → b ≠ it := fun b y e z => by
    have := st.disB b y e
    rw [z, upd_same] at this; cases this
  have hpit : ∀ b ∈ places env, b ≠ it := fun b hb z => by
    have := (st.pl b hb).2.1
    rw [z, upd_same] at this; cases this
  have hbase : ∀ b ob, c.base.get? b = some ob → b ≠ it := fun b ob e z => by
    rw [z, none_ge hb] at e; cases e
  refine ⟨fun b ob e => hk b ob (hbase b ob e) (st.base b ob e), fun b ob l e => ?_, fun b y e => ?_, fun b y e => r b (st.disB b y e), st.disBase, fun b z => ⟨(st.pl b z).1, r b (st.pl b z).2.1, (st.pl b z).2.2⟩, st.nodup, fun b e => ?_, ?_, st₀.frames, st.gens, st.os, ht⟩
  · refine Mine.hideG fun GG back => ?_
    obtain ⟨sl, e1, e2⟩ := st.keep b ob l (q b _ e)
    refine back ?_
    clear back
    exact ⟨sl, hk b _ (fun z => by rw [z, hB] at e; cases e) e1, e2⟩
  · refine Mine.hideG fun GG back => ?_
    obtain ⟨ob, e1, e2⟩ := st.own b y e
    refine back ?_
    clear back
    exact ⟨ob, hk b ob (hHit b y e) e1, e2⟩
  · refine Mine.hideG fun GG back => ?_
    obtain ⟨v, ob, e1, e2⟩ := st.cell b e
    refine back ?_
    clear back
    exact ⟨v, ob, hk b ob (hpit b (List.mem_cons_of_mem _ e)) e1, e2⟩
  · exact var_keeps (fun b hb' ob e => hk b ob (hpit b hb') e) st.var
theorem St.rehide {m₀ : Loc} {H₀ : AHeap} {s₀ : Shared} (st₀ : St c o env B m₀ H₀ s₀) {it : Addr} {x : Obj × Bool} (hB : B it = none) (hb : c.base.objs.size ≤ it) (st : St c o env (upd B it x) m H s) {h' : Heap} {tk : Nat} (hk : Heap.ExtBut it s.heap h') (ht : 1 ≤ tk) {ob : Obj} (ho : h'.get? it = some ob) :
    St c o env (upd B it (ob, false)) m H { s with heap := h', toks := tk } := by
  refine (st₀.but hB hb st hk ht).hide (l := false) ho ?_ (fun z => ?_) hB
  · cases e : H it with
    | none => rfl
    | some y => have := st.disB it y e; rw [upd_same] at this; cases this
  · have := (st.pl it z).2.1
    rw [upd_same] at this; cases this
end
noncomputable def Own (c : Cx) (H : AHeap) (s : Shared) : Prop := ((∀ a x, H a = some x → c.base.objs.size ≤ a ∧ ∃ ob, s.heap.get? a = some ob ∧ IsObj c ob x) ∧ c.base.StaysIn s.heap) ∧ 1 ≤ s.toks
theorem St.owned {c : Cx} {o : Out} {env : Env} {B : BMap} {m : Loc} {H : AHeap} {s : Shared} (st : St c o env B m H s) : Own c H s := ⟨⟨fun a x e => ⟨st.disBase a x e, st.own a x e⟩, st.base⟩, st.tk⟩
theorem Own.listAt {c : Cx} {H : AHeap} {s : Shared} (h : Own c H s) {l : Addr} {xs : List V} (hl : H l = some (.list xs)) : ∃ vs n, IsL s.heap l (vs : List Value).toArray n ∧ vs.map er = xs := by
  refine Mine.hideG fun GG back => ?_
  obtain ⟨_, ob, ho, vs, n, rfl, e⟩ := h.1.1 l _ hl
  refine back ?_
  clear back
  exact ⟨vs, n, ho, e⟩
theorem Own.tupAt {c : Cx} {H : AHeap} {s : Shared} (h : Own c H s) {l : Addr} {xs : List V} (hl : H l = some (.tup xs)) : ∃ vs n, s.heap.get? l = some { cls := .type "tuple", data := .seq (vs : List Value).toArray n } ∧ vs.map er = xs := by
  refine Mine.hideG fun GG back => ?_
  obtain ⟨_, ob, ho, vs, n, rfl, e⟩ := h.1.1 l _ hl
  refine back ?_
  clear back
  exact ⟨vs, n, ho, e⟩
structure Walkable (c : Cx) (A : Around) (it : Addr) (n : Nat) (R : Nat → V → Prop) (ok : AHeap → Prop) (at_ : Nat → Obj → Prop) : Prop where
  item : ∀ i, i < n → ∀ H s ob, Own c H s → s.heap.get? it = some ob → at_ i ob → ok H → ∀ (P : Option Value → Shared → Prop), (∀ v h' tk ob', 1 ≤ tk → R i (er v) → at_ (i + 1) ob' → h'.get? it = some ob' → Heap.SameBut it s.heap h' → P (some v) { s with heap := h', toks := tk }) →
    ∀ E, wpAny (model c.prog c.w) A (pyNext (.ref it)) P E s
  fin : ∀ H s ob, Own c H s → s.heap.get? it = some ob → at_ n ob → ok H → ∀ (P : Option Value → Shared → Prop), (∀ h', Heap.ExtBut it s.heap h' → P none { s with heap := h' }) →
    ∀ E, wpAny (model c.prog c.w) A (pyNext (.ref it)) P E s
  self : ∀ ob (s : Shared) (P : Value → Shared → Prop), s.heap.get? it = some ob → at_ 0 ob → P (.ref it) s → ∀ E, wpAny (model c.prog c.w) A (pyIter (.ref it)) P E s
  cls : ∀ i ob, at_ i ob → ∃ T vs, ob.cls = .type T ∧ ob.data = .fields vs ∧ ["enumerate", "zip", "dict_itemiterator", "dict_reverseitemiterator", "odict_iterator", "itertools.zip_longest", "itertools.pairwise"].contains T = false
noncomputable def WIter (k : Wk) (xv : V) (m : Loc) (H : AHeap) (n : Nat) (R : Nat → V → Prop) (ok : AHeap → Prop) : Prop :=
  ∀ x, er x = xv → ∀ B s, St k.c k.o k.env B m H s → ∀ (P : Value → Shared → Prop) (E : Value → Shared → Prop),
    (∀ it ob at_ s2, Walkable k.c k.A it n R ok at_ → at_ 0 ob → B it = none → k.c.base.objs.size ≤ it → St k.c k.o k.env (upd B it (ob, false)) m H s2 → P (.ref it) s2) → wpAny (model k.c.prog k.c.w) k.A (pyIter x) P E s
section
variable {k : Wk} {m : Loc} {H : AHeap}
theorem hide_new {B : BMap} {s : Shared} (st : St k.c k.o k.env B m H s) (ob : Obj) (hf : ob.isFreed = false) :
    B s.heap.objs.size = none ∧ k.c.base.objs.size ≤ s.heap.objs.size ∧ St k.c k.o k.env (upd B s.heap.objs.size (ob, false)) m H { s with heap := s.heap.push ob } := by
  refine Mine.hideG fun GG back => ?_
  obtain ⟨f1, f2, f3, f4⟩ := st.fresh (st.none_at (Nat.le_refl _))
  refine back ?_
  clear back
  exact ⟨f2, st.baseLe, (st.grown (tk := s.toks) (fun b ob e => Heap.get?_push_of_some _ e) st.tk).hide (Heap.get?_push_size _ hf) f1 f4 f2⟩
theorem hid_at {c : Cx} {o : Out} {env : Env} {B : BMap} {s : Shared} {it : Addr} {ob : Obj} (st : St c o env (upd B it (ob, false)) m H s) : s.heap.get? it = some ob := by
  refine Mine.hideG fun GG back => ?_
  obtain ⟨sl, e1, e2⟩ := st.keep it ob false upd_same
  refine back ?_
  clear back
  rw [e1, e2 rfl]
theorem WIter_list {a : Addr} {xs : List V} (hh : k.A.handled = none) (ha : H a = some (.list xs)) : WIter k (.ref a) m H xs.length (fun i v => xs[i]? = some v) (fun H => H a = some (.list xs)) := fun x hx B s st P E hP => by
  obtain rfl := er_ref hx
  refine Mine.hideG fun GG back => ?_
  obtain ⟨vs, n, hl, hvs⟩ := st.listAt ha
  obtain ⟨h1, h2, st2⟩ := hide_new st { cls := .type "list_iterator", data := .fields #[.ref a, .int 0 0] } rfl
  refine back ?_
  clear back
  refine wpAny_pyIter_list hl.isList (hP _ _ (fun i ob => ob.cls = .type "list_iterator" ∧ ob.data = .fields #[.ref a, .int i 0]) _ ⟨?_, ?_, ?_, ?_⟩ ⟨rfl, rfl⟩ h1 h2 st2)
  · intro i hi H s ob st hob hat ha P hP E
    refine Mine.hideG fun GG back => ?_
    obtain ⟨vs, n, hl, hvs⟩ := st.listAt ha
    refine back ?_
    clear back
    have hi' : i < vs.length := by rw [← hvs] at hi; simpa using hi
    refine wpAny_pyNext_list_item ⟨ob, hob, hat⟩ hl.isList (x := vs[i]) (by simp [hi']) fun h' ⟨ob', e1, e2⟩ hs => hP vs[i] h' s.toks ob' st.2 ?_ e2 e1 hs
    rw [← hvs]; simp [hi']
  · intro H s ob st hob hat ha P hP E
    refine Mine.hideG fun GG back => ?_
    obtain ⟨vs, n, hl, hvs⟩ := st.listAt ha
    refine back ?_
    clear back
    exact wpAny_pyNext_list_end hh ⟨ob, hob, hat⟩ hl.isList (by rw [← hvs]; simp) hP
  · intro ob s P ho h hP E
    exact wpAny_pyIter_listiter (l := a) (i := 0) ⟨ob, ho, h⟩ hP
  · intro i ob h
    exact ⟨_, _, h.1, h.2, by decide⟩
theorem WIter_tup {a : Addr} {xs : List V} (hh : k.A.handled = none) (ha : H a = some (.tup xs)) : WIter k (.ref a) m H xs.length (fun i v => xs[i]? = some v) (fun H => H a = some (.tup xs)) := fun x hx B s st P E hP => by
  obtain rfl := er_ref hx
  refine Mine.hideG fun GG back => ?_
  obtain ⟨vs, n, hl, hvs⟩ := st.tupAt ha
  obtain ⟨h1, h2, st2⟩ := hide_new st { cls := .type "tuple_iterator", data := .fields #[.ref a, .int 0 0] } rfl
  refine back ?_
  clear back
  refine wpAny_pyIter_tuple (items := (vs : List Value).toArray) ⟨_, hl, rfl, n, rfl⟩ (hP _ _ (fun i ob => ob.cls = .type "tuple_iterator" ∧ ob.data = .fields #[.ref a, .int i 0]) _ ⟨?_, ?_, ?_, ?_⟩ ⟨rfl, rfl⟩ h1 h2 st2)
  · intro i hi H s ob st hob hat ha P hP E
    refine Mine.hideG fun GG back => ?_
    obtain ⟨vs, n, hl, hvs⟩ := st.tupAt ha
    refine back ?_
    clear back
    have hi' : i < vs.length := by rw [← hvs] at hi; simpa using hi
    refine wpAny_pyNext_tuple_item (items := (vs : List Value).toArray) ⟨ob, hob, hat⟩ ⟨_, hl, rfl, n, rfl⟩ (x := vs[i]) (by simp [hi']) fun h' ⟨ob', e1, e2⟩ hs => hP vs[i] h' s.toks ob' st.2 ?_ e2 e1 hs
    rw [← hvs]; simp [hi']
  · intro H s ob st hob hat ha P hP E
    refine Mine.hideG fun GG back => ?_
    obtain ⟨vs, n, hl, hvs⟩ := st.tupAt ha
    refine back ?_
    clear back
    exact wpAny_pyNext_tuple_end (items := (vs : List Value).toArray) hh ⟨ob, hob, hat⟩ ⟨_, hl, rfl, n, rfl⟩ (by rw [← hvs]; simp) hP
  · intro ob s P ho h hP E
    exact wpAny_pyIter_tupleiter (t := a) (i := 0) ⟨ob, ho, h⟩ hP
  · intro i ob h
    exact ⟨_, _, h.1, h.2, by decide⟩
noncomputable def rangeN (lo hi st : Int) : Nat := (Builtin.Range.rangeSize lo hi st).toNat
theorem rangeSize_nonneg (a b c : Int) : 0 ≤ Builtin.Range.rangeSize a b c := by
  unfold Builtin.Range.rangeSize
  split
  · split
    · have : 0 ≤ (b - a - 1) / c := Int.ediv_nonneg (by omega) (by omega)
      omega
    · omega
  · split
    · by_cases hc : c = 0
      · subst hc; simp
      · have : 0 ≤ (a - b - 1) / (-c) := Int.ediv_nonneg (by omega) (by omega)
        omega
    · omega
theorem WIter_range {a : Addr} {lo hi st : Int} (hh : k.A.handled = none) (ha : H a = some (.range lo hi st)) (hs : Builtin.Range.small lo hi st = true) : WIter k (.ref a) m H (rangeN lo hi st) (fun i v => v = .int (lo + i * st)) (fun _ => True) := fun x hx B s stt P E hP => by
  obtain rfl := er_ref hx
  refine Mine.hideG fun GG back => ?_
  obtain ⟨ob, ho, t, u, v, rfl⟩ := stt.own a _ ha
  refine back ?_
  clear back
  have hN : ((rangeN lo hi st : Nat) : Int) = Builtin.Range.rangeSize lo hi st := Int.toNat_of_nonneg (rangeSize_nonneg _ _ _)
  refine Mine.hideG fun GG back => ?_
  obtain ⟨h1, h2, st2⟩ := hide_new stt { cls := .type "range_iterator", data := .fields #[rawInt lo, rawInt (Builtin.Range.rangeSize lo hi st), rawInt st] } rfl
  refine back ?_
  clear back
  refine wpAny_pyIter_range ho hs (hP _ _ (fun i ob => ob = { cls := .type "range_iterator", data := .fields #[rawInt (lo + i * st), rawInt (Builtin.Range.rangeSize lo hi st - i), rawInt st] }) _ ⟨?_, ?_, ?_, ?_⟩ (by simp) h1 h2 st2)
  · intro i hlt H s ob st' hob hat _ P hP E
    rw [hat] at hob
    refine wpAny_pyNext_range_item (x := lo + i * st) (left := Builtin.Range.rangeSize lo hi st - i) (step := st) hob (by omega) fun h' hit' hs' => hP _ _ _ _ (Nat.le_succ_of_le st'.2) rfl ?_ hit' hs'
    rw [show lo + (((i + 1 : Nat) : Int)) * st = lo + (i : Int) * st + st from by rw [Int.natCast_add]; simp [Int.add_mul]; omega,
      show Builtin.Range.rangeSize lo hi st - ((i + 1 : Nat) : Int) = Builtin.Range.rangeSize lo hi st - (i : Int) - 1 from by omega]
  · intro H s ob st' hob hat _ P hP E
    rw [hat] at hob
    exact wpAny_pyNext_range_end hh (x := lo + (rangeN lo hi st : Nat) * st) (left := Builtin.Range.rangeSize lo hi st - (rangeN lo hi st : Nat)) (step := st) hob (by omega) hP
  · intro ob s P ho h hP E
    rw [h] at ho
    exact wpAny_pyIter_rangeiter ho hP
  · intro i ob h
    rw [h]
    exact ⟨_, _, rfl, rfl, by decide⟩
theorem wpAny_letGo_plain {it : Addr} {ob : Obj} {T : String} {vs : Array Value} {target : Expr} {v : Value} {s : Shared} {Q : Unit → Shared → Prop} {E : Value → Shared → Prop} {M : Model} {A : Around} (ho : s.heap.get? it = some ob) (hc : ob.cls = .type T) (hd : ob.data = .fields vs)
    (hT : ["enumerate", "zip", "dict_itemiterator", "dict_reverseitemiterator", "odict_iterator", "itertools.zip_longest", "itertools.pairwise"].contains T = false) (h : Q () s) : wpAny M A (letOwnedTupleGo target (.ref it) v) Q E s := by
  have key : wpAny M A (do
      let (.ref r, .ref a) := (Value.ref it, v) | return
      let o ← load r
      match o.cls, o.data with
      | .type n, .fields vs =>
        if ["enumerate", "zip", "dict_itemiterator", "dict_reverseitemiterator", "odict_iterator", "itertools.zip_longest", "itertools.pairwise"].contains n && vs[0]? == some (rawInt a) then
          rule "for.unpacks-the-owned-tuple"
          updateField r 0 .none
      | _, _ => pure ()) Q E s := by
    cases v with
    | ref a =>
      refine wpAny_bind (wpAny_load ho ?_)
      rw [hc, hd]
      show wpAny M A (if (["enumerate", "zip", "dict_itemiterator", "dict_reverseitemiterator", "odict_iterator", "itertools.zip_longest", "itertools.pairwise"].contains T && vs[0]? == some (rawInt a)) = true then _ else _) Q E s
      rw [hT, Bool.false_and, if_neg Bool.false_ne_true]
      exact wpAny_pure h
    | _ => exact wpAny_pure h
  cases target <;> first | exact key | exact wpAny_pure h
noncomputable def loopQ (k : Wk) (Q : Flow → Loc → AHeap → Prop) (I : Loc → AHeap → Prop) (f : Flow) (m : Loc) (H : AHeap) : Prop := match f with
  | .next | .cont => I m H
  | .brk => Q .next m H
  | .ret v => Q (.ret v) m H
theorem W_For {target iter : Expr} {body : List Stmt} {pos : Pos} {Q : Flow → Loc → AHeap → Prop}
    (h : WV k (eval iter k.env) m H fun xv m1 H1 => ∃ n R ok, ∃ I : Nat → Loc → AHeap → Prop, WIter k xv m1 H1 n R ok ∧ I 0 m1 H1 ∧ (∀ i m2 H2, I i m2 H2 → ok H2) ∧
      (∀ i x m2 H2, i < n → R i x → I i m2 H2 → WAs k target x m2 H2 fun m3 H3 => WF k (execs body k.env) m3 H3 (loopQ k Q (I (i + 1)))) ∧ (∀ m2 H2, I n m2 H2 → Q .next m2 H2))
    (hs : ∀ x, foldedSetIterable iter k.env x = pure x := by intro _; rfl) : W k (exec (.For target iter body [] pos) k.env) m H Q := fun B s st =>
  wpAny_For (wpAny_mono (h B s st) (fun x s1 hx1 => Mine.hideG fun GG back => by
    obtain ⟨m1, H1, st1, n, R, ok, I, hit, h0, hok, step, fin⟩ := hx1
    refine back ?_
    exact hit x rfl B s1 st1 _ _ fun it ob at_ s2 wk h0' hB hb st2 => codeAny_forLoop_any
      (fun j s' => ∃ i m' H' ob', j + i = n ∧ at_ i ob' ∧ I i m' H' ∧ St k.c k.o k.env (upd B it (ob', false)) m' H' s') (by
        intro j s' hg225_2
        refine Mine.hideG fun GG back => ?_
        obtain ⟨i, m', H', ob', hj, hat, hI, st'⟩ := hg225_2
        refine back ?_
        clear back
        by_cases hi : i < n
        · refine wk.item i hi H' s' ob' st'.owned (hid_at st') hat (hok _ _ _ hI) _ (fun v h' tk ob'' htk hR hat' ho hsame => ?_) _
          refine Mine.hideG fun GG back => ?_
          obtain ⟨T, vs, hc, hd, hT⟩ := wk.cls _ _ hat'
          refine back ?_
          clear back
          have st'' := st1.rehide hB hb st' hsame.extBut htk ho
          refine wpAny_letGo_plain (s := { s' with heap := h', toks := tk }) ho hc hd hT ?_
          refine wpAny_mono (step i (er v) m' H' hi hR hI v rfl _ _ st'') (fun _ s₂ ⟨m2, H2, st2, q2⟩ => ?_) fun e s₂ he => k.pass e s₂ he
          refine wpAny_mono (q2 _ _ st2) (fun f s₃ ⟨m3, H3, st3, q3⟩ => ?_) fun e s₂ he => k.pass e s₂ he
          cases f with
          | next => exact ⟨j - 1, by omega, i + 1, m3, H3, ob'', by omega, hat', q3, st3⟩
          | cont => exact ⟨j - 1, by omega, i + 1, m3, H3, ob'', by omega, hat', q3, st3⟩
          | brk => exact ⟨m3, H3, st1.but hB hb st3 (tk := s₃.toks) (Heap.ExtBut.refl _ _) st3.tk, q3⟩
          | ret v => exact ⟨m3, H3, st1.but hB hb st3 (tk := s₃.toks) (Heap.ExtBut.refl _ _) st3.tk, q3⟩
        · have hi' : i = n := by omega
          subst hi'
          refine wk.fin H' s' ob' st'.owned (hid_at st') hat (hok _ _ _ hI) _ (fun h' hk => ?_) _
          exact wpAny_execs_nil ⟨m', H', st1.but hB hb st' (tk := s'.toks) hk st'.tk, fin _ _ hI⟩)
      n ⟨0, m1, H1, ob, rfl, h0', h0, st2⟩) fun _ _ x => x) hs
theorem W_While {test : Expr} {body : List Stmt} {pos : Pos} {Q : Flow → Loc → AHeap → Prop} (I : Nat → Loc → AHeap → Prop) (n : Nat) (h0 : I n m H)
    (step : ∀ j m1 H1, I j m1 H1 → WT k test m1 H1 fun b m2 H2 => if b = true then WF k (execs body k.env) m2 H2 (loopQ k Q fun m3 H3 => ∃ i, i < j ∧ I i m3 H3) else Q .next m2 H2) :
    W k (exec (.While test body [] pos) k.env) m H Q := fun B s st =>
  wpAny_While (codeAny_whileLoop (fun j s' => ∃ m' H', I j m' H' ∧ St k.c k.o k.env B m' H' s') (by
    intro j s' hg249_2
    refine Mine.hideG fun GG back => ?_
    obtain ⟨m', H', hI, st'⟩ := hg249_2
    refine back ?_
    clear back
    refine wpAny_mono (step j m' H' hI B s' st') (fun b s₂ ⟨m2, H2, st2, q2⟩ => ?_) fun e s₂ he => k.pass e s₂ he
    cases b with
    | false =>
      rw [if_neg Bool.false_ne_true] at q2 ⊢
      exact wpAny_execs_nil ⟨m2, H2, st2, q2⟩
    | true =>
      rw [if_pos rfl] at q2 ⊢
      refine wpAny_mono (q2 _ _ st2) (fun f s₃ ⟨m3, H3, st3, q3⟩ => ?_) fun e s₂ he => k.pass e s₂ he
      cases f with
      | next => obtain ⟨i, hi, q⟩ := q3; exact ⟨i, hi, m3, H3, q, st3⟩
      | cont => obtain ⟨i, hi, q⟩ := q3; exact ⟨i, hi, m3, H3, q, st3⟩
      | brk => exact ⟨m3, H3, st3, q3⟩
      | ret v => exact ⟨m3, H3, st3, q3⟩)
    n ⟨m, H, h0, st⟩)
noncomputable def WAsL (k : Wk) : List Expr → List V → Loc → AHeap → (Loc → AHeap → Prop) → Prop
  | [], [], m, H, Q => Q m H
  | t :: ts, v :: vs, m, H, Q => WAs k t v m H fun m1 H1 => WAsL k ts vs m1 H1 Q
  | _, _, _, _, _ => False
theorem WAsL_run : ∀ (ts : List Expr) (vs : List Value) (m : Loc) (H : AHeap) (Q : Loc → AHeap → Prop), (∀ t ∈ ts, assignEach [t] k.env = [(false, assign t k.env)]) → WAsL k ts (vs.map er) m H Q → W k (assignInOrder (ts.map fun t => assign t k.env) vs) m H fun _ => Q
  | [], [], m, H, Q, _, h => W.pure h
  | t :: ts, v :: vs, m, H, Q, ht, h => W.bind (W.holding (W.mono (h v rfl) fun _ m1 H1 q => WAsL_run ts vs m1 H1 Q (fun t h => ht t (List.mem_cons_of_mem _ h)) q))
  | [], _ :: _, _, _, _, _, h => h.elim
  | _ :: _, [], _, _, _, _, h => h.elim
theorem WAs_Tup {elts : List Expr} {n : Nat} {p : Pos} {a : Addr} {xs : List V} {Q : Loc → AHeap → Prop} (hh : k.A.handled = none) (ha : H a = some (.tup xs)) (hl : elts.length = xs.length)
    (he : assignEach elts k.env = elts.map fun t => (false, assign t k.env) := by rfl) (he' : ∀ t ∈ elts, assignEach [t] k.env = [(false, assign t k.env)] := by simp [assignEach])
    (h : WAsL k elts xs m H Q) : WAs k (.Tuple elts n p) (.ref a) m H Q := fun x hx B s st => by
  obtain rfl := er_ref hx
  refine Mine.hideG fun GG back => ?_
  obtain ⟨vs, n', ho, rfl⟩ := st.tupAt ha
  refine back ?_
  clear back
  refine wpAny_assign_Tuple (items := (vs : List Value).toArray) hh ⟨_, ho, rfl, n', rfl⟩ (by rw [he]; simpa using hl) (by rw [he]; simp) fun h' hk => ?_
  have hn := st.fresh (st.none_at (Nat.le_refl _))
  have st' := st.grown (tk := s.toks) (h' := h') (fun b ob e => hk b ob (Nat.ne_of_lt (Heap.lt_size e)) e) st.tk
  have e : (assignEach elts k.env).map (·.2) = elts.map fun t => assign t k.env := by rw [he]; simp
  rw [e]
  exact WAsL_run elts vs m H Q he' h B _ st'
end
end Mine
namespace Mine
noncomputable def clOf (scope : Scope) (env : Env) : List (Str × Addr) := ((scope.names.filter fun x => x.2 == .free).map fun x => (x.1, (env.cells.lookup x.1).getD 0)).reverse
noncomputable def relabelS (scope sc : Scope) : Scope :=
  { scope with names := scope.names.map fun (n, k) => if (k == .free && sc.kind == .function && sc.names.lookup n == some .cell) then (n, .cell) else (n, k) }
noncomputable def freeNames (scope : Scope) : List Str := (scope.names.filter fun x => x.2 == .free).map (·.1)
noncomputable def compNames (scope : Scope) : List Str := (cellsFrom 0 scope.names ((freeNames scope).map fun x => (x, 0)).reverse).map (·.1)
noncomputable def compOK (scope sc : Scope) (cn : List Str) : Bool :=
  (scope.kind == .function) && decide (scope.names.map (·.1)).Nodup && scope.names.all fun x => !(x.2 == .free) || (sc.names.lookup x.1 == some .cell && cn.contains x.1)
theorem closureFor_eq {scope : Scope} {env : Env} (h : ∀ x ∈ scope.names, x.2 = .free → ∃ a, env.cells.lookup x.1 = some a) : closureFor scope env = pure (clOf scope env) := by
  unfold closureFor clOf
  have go : ∀ (names : List (Str × NameKind)) (acc : List (Str × Addr)), (∀ x ∈ names, x.2 = .free → ∃ a, env.cells.lookup x.1 = some a) →
      (forIn names acc (fun x r => match x with | (name, kind) => if kind == .free then do let a ← cellOf env name; pure (ForInStep.yield ((name, a) :: r)) else pure (ForInStep.yield r)) : Sem (List (Str × Addr)))
        = pure (((names.filter fun x => x.2 == .free).map fun x => (x.1, (env.cells.lookup x.1).getD 0)).reverse ++ acc) := by
    intro names
    induction names with
    | nil => intro acc _; rfl
    | cons x r ih =>
      intro acc h
      refine Mine.hideG fun GG back => ?_
      obtain ⟨n, κ⟩ := x
      refine back ?_
      clear back
      rw [List.forIn_cons]
      by_cases hk : κ = .free
      · subst hk
        refine Mine.hideG fun GG back => ?_
        obtain ⟨a, ha⟩ := h (n, .free) List.mem_cons_self rfl
        refine back ?_
        clear back
        simp only [beq_self_eq_true, if_true]
        have ha' : env.cells.lookup n = some a := ha
        rw [show cellOf env n = pure a from by unfold cellOf; rw [ha']]
        simp only [pure_bind]
        rw [ih _ fun x hx => h x (List.mem_cons_of_mem _ hx)]
        simp [ha']
      · have hk' : (κ == NameKind.free) = false := by cases κ <;> first | rfl | exact absurd rfl hk
        simp only [hk', Bool.false_eq_true, if_false, pure_bind]
        rw [ih _ fun x hx => h x (List.mem_cons_of_mem _ hx)]
        simp [hk']
  have := go scope.names [] h
  simp only [List.append_nil] at this
  rw [← this]
  simp only [bind_pure]
noncomputable def cenvOf (scope : Scope) (env : Env) (C : Addr) : Env :=
  { scope := relabel scope env, locals := C, globals := env.globals, cells := cellsFrom (C + 1) scope.names (clOf scope env), qual := env.qual, func := none, code := env.code, frame := env.frame, builtins := env.builtins }
theorem wpAny_compEnv {M : Model} {A : Around} {E : Value → Shared → Prop} {s : Shared} {scope : Scope} {env : Env} {Q : Env → Shared → Prop}
    (h : Q { scope := scope, locals := s.heap.objs.size, globals := env.globals, cells := cellsFrom (s.heap.objs.size + 1) scope.names (clOf scope env), qual := env.qual, func := none, code := env.code, frame := env.frame, builtins := env.builtins }
      { s with heap := pushCells (s.heap.push { cls := .type "dict", data := .dict #[] }) scope.names }) :
    wpAny M A (newFunctionEnv scope env.globals (clOf scope env) [] env.qual none .none (some env)) Q E s := by
  simp only [newFunctionEnv, Option.isSome_some, if_true]
  refine wpAny_bind (wpAny_alloc ?_)
  refine wpAny_bind (wpAny_layCells _ (fun name kind cells => by cases hkc : kind == NameKind.cell <;> simp) _ _ _ _ ?_)
  have e : ({ s with heap := s.heap.push { cls := .type "dict", data := .dict #[] } } : Shared).heap.objs.size = s.heap.objs.size + 1 := Heap.size_push ..
  rw [e]
  refine wpAny_bind (wpAny_pure ?_)
  exact wpAny_pure h
theorem cellsFrom_mem : ∀ (names : List (Str × NameKind)) (n : Nat) (acc : List (Str × Addr)) (x : Str) (a : Addr), (x, a) ∈ cellsFrom n names acc → (x, a) ∈ acc ∨ (n ≤ a ∧ (x, NameKind.cell) ∈ names)
  | [], n, acc, x, a, h => .inl h
  | (y, k) :: r, n, acc, x, a, h => by
    unfold cellsFrom at h
    split at h
    · rename_i hk
      rcases cellsFrom_mem r (n + 1) _ x a h with h | ⟨h1, h2⟩
      · rcases List.mem_cons.mp h with e | h
        · cases e; exact .inr ⟨Nat.le_refl _, by rw [eq_of_beq hk]; exact List.mem_cons_self⟩
        · exact .inl h
      · exact .inr ⟨by lia, List.mem_cons_of_mem _ h2⟩
    · rcases cellsFrom_mem r n _ x a h with h | ⟨h1, h2⟩
      · exact .inl h
      · exact .inr ⟨h1, List.mem_cons_of_mem _ h2⟩
theorem cellsFrom_lookup : ∀ (names : List (Str × NameKind)) (n : Nat) (acc : List (Str × Addr)) (x : Str), (x, NameKind.cell) ∉ names → (cellsFrom n names acc).lookup x = acc.lookup x
  | [], n, acc, x, h => rfl
  | (y, k) :: r, n, acc, x, h => by
    unfold cellsFrom
    split
    · rename_i hk
      rw [cellsFrom_lookup r (n + 1) _ x fun q => h (List.mem_cons_of_mem _ q), List.lookup_cons]
      have : (x == y) = false := by
        cases hq : x == y with
        | false => rfl
        | true => exact absurd (by rw [eq_of_beq hk, eq_of_beq hq]; exact List.mem_cons_self) h
      rw [this]
    · exact cellsFrom_lookup r n acc x fun q => h (List.mem_cons_of_mem _ q)
theorem cellsFrom_pw : ∀ (names : List (Str × NameKind)) (n : Nat) (acc : List (Str × Addr)), (acc.map (·.2)).Nodup → (∀ a ∈ acc.map (·.2), a < n) → ((cellsFrom n names acc).map (·.2)).Nodup
  | [], n, acc, h1, h2 => h1
  | (y, k) :: r, n, acc, h1, h2 => by
    unfold cellsFrom
    split
    · refine cellsFrom_pw r (n + 1) _ ?_ fun a ha => ?_
      · rw [List.map_cons, List.nodup_cons]
        exact ⟨fun q => Nat.lt_irrefl _ (h2 n q), h1⟩
      · rw [List.map_cons] at ha
        rcases List.mem_cons.mp ha with rfl | ha
        · exact Nat.lt_succ_self _
        · exact Nat.lt_succ_of_lt (h2 a ha)
    · exact cellsFrom_pw r n acc h1 h2
theorem pushCells_at : ∀ (names : List (Str × NameKind)) (h : Heap) (acc : List (Str × Addr)) (x : Str) (a : Addr), (x, a) ∈ cellsFrom h.objs.size names acc → (x, a) ∈ acc ∨ (pushCells h names).IsCell a none
  | [], h, acc, x, a, e => .inl e
  | (y, k) :: r, h, acc, x, a, e => by
    unfold cellsFrom at e
    unfold pushCells
    split at e
    · rename_i hk
      rw [if_pos hk]
      have hs : (h.push { cls := .type "cell", data := .cell none }).objs.size = h.objs.size + 1 := Heap.size_push ..
      rw [← hs] at e
      rcases pushCells_at r _ _ x a e with e | e
      · rcases List.mem_cons.mp e with e | e
        · cases e
          exact .inr ⟨_, pushCells_keeps r _ _ _ (Heap.get?_push_size _ rfl), rfl⟩
        · exact .inl e
      · exact .inr e
    · rename_i hk
      rw [if_neg hk]
      exact pushCells_at r h acc x a e
noncomputable def hideComp (env : Env) (cs : List Addr) (h : Heap) (B : BMap) : BMap := fun a => if a ∈ places env ∧ a ∉ cs then (h.get? a).map fun ob => (ob, true) else B a
noncomputable def capm (scope : Scope) (m : Loc) : Loc := fun x => if (freeNames scope).contains x then m x else none
section
variable {c : Cx} {o : Out} {env : Env} {B : BMap} {m : Loc} {H : AHeap} {s : Shared}
structure CompAt (scope : Scope) (env : Env) : Prop where
  kind : scope.kind = .function
  nodup : (scope.names.map (·.1)).Nodup
  free : ∀ x, (x, NameKind.free) ∈ scope.names → env.kindOf x = some .cell ∧ ∃ a, env.cells.lookup x = some a
theorem CompAt.of {scope : Scope} (h : compOK scope env.scope (env.cells.map (·.1)) = true) : CompAt scope env := by
  unfold compOK at h
  rw [Bool.and_eq_true, Bool.and_eq_true] at h
  refine Mine.hideG fun GG back => ?_
  obtain ⟨⟨h1, h2⟩, h3⟩ := h
  refine back ?_
  clear back
  refine ⟨by simpa using h1, of_decide_eq_true h2, fun x hx => ?_⟩
  have := List.all_eq_true.mp h3 (x, .free) hx
  simp only [beq_self_eq_true, Bool.not_true, Bool.false_or, Bool.and_eq_true, beq_iff_eq] at this
  exact ⟨this.1, lookup_of_names this.2⟩
theorem CompAt.clos {scope : Scope} (h : CompAt scope env) : closureFor scope env = pure (clOf scope env) :=
  closureFor_eq fun x hx hk => (h.free x.1 (by rw [← hk]; exact hx)).2
theorem mem_clOf {scope : Scope} {x : Str} {a : Addr} (h : (x, a) ∈ clOf scope env) : (x, NameKind.free) ∈ scope.names ∧ a = (env.cells.lookup x).getD 0 := by
  unfold clOf at h
  rw [List.mem_reverse, List.mem_map] at h
  refine Mine.hideG fun GG back => ?_
  obtain ⟨⟨y, κ⟩, hy, e⟩ := h
  obtain ⟨h1, h2⟩ := List.mem_filter.mp hy
  refine back ?_
  clear back
  simp only [Prod.mk.injEq] at e
  refine Mine.hideG fun GG back => ?_
  obtain ⟨rfl, rfl⟩ := e
  refine back ?_
  clear back
  rw [beq_iff_eq] at h2
  exact ⟨by rw [← h2]; exact h1, rfl⟩
theorem mem_freeNames {scope : Scope} {x : Str} : (freeNames scope).contains x = true ↔ (x, NameKind.free) ∈ scope.names := by
  unfold freeNames
  rw [List.contains_iff_mem, List.mem_map]
  constructor
  · intro hg163_0
    refine Mine.hideG fun GG back => ?_
    obtain ⟨⟨y, κ⟩, hy, rfl⟩ := hg163_0
    obtain ⟨h1, h2⟩ := List.mem_filter.mp hy
    refine back ?_
    clear back
    rw [beq_iff_eq] at h2
    have h2 : κ = .free := h2
    subst h2; exact h1
  · intro h
    exact ⟨(x, .free), List.mem_filter.mpr ⟨h, rfl⟩, rfl⟩
theorem lookup_of_mem_nodup {α : Type} : ∀ {l : List (Str × α)} {x : Str} {v : α}, (l.map (·.1)).Nodup → (x, v) ∈ l → l.lookup x = some v
  | (y, u) :: r, x, v, h, hm => by
    rw [List.map_cons, List.nodup_cons] at h
    rw [List.lookup_cons]
    rcases List.mem_cons.mp hm with e | hm
    · cases e; simp
    · have : (x == y) = false := by
        cases hq : x == y with
        | false => rfl
        | true => exact absurd (by rw [← eq_of_beq hq]; exact List.mem_map_of_mem (f := (·.1)) hm) h.1
      rw [this]
      exact lookup_of_mem_nodup h.2 hm
theorem nodup_rev {α : Type} {l : List α} (h : l.Nodup) : l.reverse.Nodup := List.pairwise_reverse.mpr (List.Pairwise.imp (fun q => Ne.symm q) h)
theorem clOf_names {scope : Scope} : (clOf scope env).map (·.1) = (freeNames scope).reverse := by
  unfold clOf freeNames
  rw [List.map_reverse, List.map_map]
  rfl
theorem clOf_lookup {scope : Scope} (hc : CompAt scope env) {x : Str} (hx : (x, NameKind.free) ∈ scope.names) {a : Addr} (ha : env.cells.lookup x = some a) : (clOf scope env).lookup x = some a := by
  refine lookup_of_mem_nodup ?_ ?_
  · rw [clOf_names]
    unfold freeNames
    exact nodup_rev ((List.filter_sublist.map _).nodup hc.nodup)
  · unfold clOf
    rw [List.mem_reverse, List.mem_map]
    exact ⟨(x, .free), List.mem_filter.mpr ⟨hx, rfl⟩, by rw [ha]; rfl⟩
theorem relabel_lookup {scope : Scope} (hk : env.scope.kind = .function) : ∀ {names : List (Str × NameKind)} {x : Str}, names.lookup x = some .free → env.kindOf x = some .cell →
    (names.map fun (n, k) => if (k == NameKind.free && env.scope.kind == .function && env.kindOf n == some .cell) then (n, NameKind.cell) else (n, k)).lookup x = some .cell
  | [], x, h, _ => by cases h
  | (n, κ) :: r, x, h, he => by
    rw [List.lookup_cons] at h
    rw [List.map_cons]
    show List.lookup x ((if (κ == NameKind.free && env.scope.kind == .function && env.kindOf n == some .cell) = true then (n, NameKind.cell) else (n, κ)) :: _) = _
    cases hq : x == n with
    | true =>
      rw [hq] at h
      cases h
      have hx : x = n := eq_of_beq hq
      subst hx
      simp [hk, he]
    | false =>
      rw [hq] at h
      have ih := relabel_lookup (scope := scope) hk h he
      by_cases hcnd : (κ == NameKind.free && env.scope.kind == .function && env.kindOf n == some .cell) = true
      · rw [if_pos hcnd, List.lookup_cons, hq]; exact ih
      · rw [if_neg hcnd, List.lookup_cons, hq]; exact ih
theorem addr_nodup_of_names {cs : List (Str × Addr)} (h1 : (cs.map (·.2)).Nodup) : ∀ (l : List Str), l.Nodup → (∀ x ∈ l, ∃ a, cs.lookup x = some a) → (l.map fun x => (cs.lookup x).getD 0).Nodup
  | [], _, _ => List.nodup_nil
  | x :: r, hn, hl => by
    rw [List.nodup_cons] at hn
    rw [List.map_cons, List.nodup_cons]
    refine ⟨fun q => ?_, addr_nodup_of_names h1 r hn.2 fun y hy => hl y (List.mem_cons_of_mem _ hy)⟩
    refine Mine.hideG fun GG back => ?_
    obtain ⟨y, hy, e⟩ := List.mem_map.mp q
    obtain ⟨a, ha⟩ := hl x List.mem_cons_self
    obtain ⟨b, hb⟩ := hl y (List.mem_cons_of_mem _ hy)
    refine back ?_
    clear back
    rw [ha, hb] at e
    have e : b = a := e
    subst e
    have := cell_addr h1 ha hb
    subst this
    exact hn.1 hy
theorem clOf_nodup (st : St c o env B m H s) {scope : Scope} (hc : CompAt scope env) : ((clOf scope env).map (·.2)).Nodup := by
  have e : (clOf scope env).map (·.2) = ((freeNames scope).map fun x => (env.cells.lookup x).getD 0).reverse := by
    unfold clOf freeNames
    rw [List.map_reverse, List.map_map, List.map_map]
    rfl
  rw [e]
  refine nodup_rev ?_
  refine addr_nodup_of_names (List.nodup_cons.mp st.nodup).2 _ ?_ fun x hx => (hc.free x (mem_freeNames.mp (List.contains_iff_mem.mpr hx))).2
  unfold freeNames
  exact (List.filter_sublist.map _).nodup hc.nodup
theorem St.enterComp (st : St c o env B m H s) (hke : env.scope.kind = .function) (hfat : env.frame = some env.locals ∨ ∃ f ∈ o.fs, f.frame = env.frame) {scope : Scope} (hc : CompAt scope env) :
    St c ⟨outerOf env o.fs, hideComp env ((clOf scope env).map (·.2)) s.heap B⟩ (cenvOf scope env s.heap.objs.size) (hideComp env ((clOf scope env).map (·.2)) s.heap B) (capm scope m) H
      { s with heap := pushCells (s.heap.push { cls := .type "dict", data := .dict #[] }) scope.names } := by
  have keep : ∀ b ob, s.heap.get? b = some ob → (pushCells (s.heap.push { cls := .type "dict", data := .dict #[] }) scope.names).get? b = some ob := fun b ob e => pushCells_keeps _ _ b ob (Heap.get?_push_of_some _ e)
  have clIn : ∀ a ∈ (clOf scope env).map (·.2), a ∈ env.cells.map (·.2) := fun a ha => by
    refine Mine.hideG fun GG back => ?_
    obtain ⟨⟨x, b⟩, hx, rfl⟩ := List.mem_map.mp ha
    obtain ⟨h1, h2⟩ := mem_clOf hx
    obtain ⟨_, d, hd⟩ := hc.free x h1
    refine back ?_
    clear back
    rw [hd] at h2
    have h2 : b = d := h2
    rw [h2]; exact List.mem_map_of_mem (f := (·.2)) (mem_of_lookup hd)
  have lt : ∀ a ∈ places env, a < s.heap.objs.size := fun a ha => by
    refine Mine.hideG fun GG back => ?_
    obtain ⟨ob, ho, _⟩ := st.place ha
    refine back ?_
    clear back
    exact Heap.lt_size ho
  have fresh : ∀ a, s.heap.objs.size ≤ a → H a = none ∧ hideComp env ((clOf scope env).map (·.2)) s.heap B a = none ∧ c.base.objs.size ≤ a := fun a ha => by
    refine Mine.hideG fun GG back => ?_
    obtain ⟨f1, f2, f3, f4⟩ := st.fresh (st.none_at ha)
    refine back ?_
    clear back
    exact ⟨f1, by unfold hideComp; rw [if_neg fun q => f4 q.1]; exact f2, Nat.le_trans st.baseLe ha⟩
  have hcs : (s.heap.push { cls := .type "dict", data := .dict #[] }).objs.size = s.heap.objs.size + 1 := Heap.size_push ..
  have old : ∀ a x, B a = some x → hideComp env ((clOf scope env).map (·.2)) s.heap B a = some x := fun a x e => by
    unfold hideComp
    rw [if_neg (fun q => by rw [(st.pl a q.1).2.1] at e; cases e)]
    exact e
  refine ⟨fun b ob e => keep b ob (st.base b ob e), fun b ob l e => ?_, fun b z e => ?_, fun b z e => ?_, st.disBase, fun b q => ?_, ?_, fun b e => ?_, ⟨fun _ => none, ?_, fun x v e => ?_⟩, ⟨fun e he => ?_, fun _ _ e => e⟩, st.gens, st.os, st.tk⟩
  · unfold hideComp at e
    split at e
    · cases hg : s.heap.get? b with
      | none => rw [hg] at e; cases e
      | some ob' => rw [hg] at e; cases e; exact ⟨ob.slots, keep b ob hg, fun _ => rfl⟩
    · refine Mine.hideG fun GG back => ?_
      obtain ⟨sl, e1, e2⟩ := st.keep b ob l e
      refine back ?_
      clear back
      exact ⟨sl, keep b _ e1, e2⟩
  · obtain ⟨ob, e1, e2⟩ := st.own b z e; exact ⟨ob, keep b ob e1, e2⟩
  · unfold hideComp
    rw [if_neg (fun q => by rw [(st.pl b q.1).1] at e; cases e)]
    exact st.disB b z e
  · rcases List.mem_cons.mp q with rfl | q
    · exact fresh _ (Nat.le_refl _)
    · refine Mine.hideG fun GG back => ?_
      obtain ⟨⟨x, a⟩, hx, rfl⟩ := List.mem_map.mp q
      refine back ?_
      clear back
      rcases cellsFrom_mem _ _ _ _ _ hx with h | ⟨h, _⟩
      · have hin := clIn a (List.mem_map_of_mem (f := (·.2)) h)
        refine Mine.hideG fun GG back => ?_
        obtain ⟨p1, p2, p3⟩ := st.pl a (List.mem_cons_of_mem _ hin)
        refine back ?_
        clear back
        refine ⟨p1, ?_, p3⟩
        unfold hideComp
        rw [if_neg fun q => q.2 (List.mem_map_of_mem (f := (·.2)) h)]
        exact p2
      · exact fresh a (by lia)
  · refine List.nodup_cons.mpr ⟨fun q => ?_, ?_⟩
    · refine Mine.hideG fun GG back => ?_
      obtain ⟨⟨x, a⟩, hx, e⟩ := List.mem_map.mp q
      refine back ?_
      clear back
      have e : a = s.heap.objs.size := e
      rcases cellsFrom_mem _ _ _ _ _ hx with h | ⟨h, _⟩
      · have := lt a (List.mem_cons_of_mem _ (clIn a (List.mem_map_of_mem (f := (·.2)) h)))
        rw [e] at this
        exact Nat.lt_irrefl _ this
      · rw [e] at h
        exact Nat.lt_irrefl _ h
    · exact cellsFrom_pw _ _ _ (clOf_nodup st hc) fun a ha => Nat.lt_succ_of_lt (lt a (List.mem_cons_of_mem _ (clIn a ha)))
  · refine Mine.hideG fun GG back => ?_
    obtain ⟨⟨x, a⟩, hx, rfl⟩ := List.mem_map.mp e
    refine back ?_
    clear back
    have hx' : (x, a) ∈ cellsFrom (s.heap.push { cls := .type "dict", data := .dict #[] }).objs.size scope.names (clOf scope env) := by rw [hcs]; exact hx
    rcases pushCells_at _ _ _ _ _ hx' with h | h
    · refine Mine.hideG fun GG back => ?_
      obtain ⟨v, ob, e1, e2⟩ := st.cell a (clIn a (List.mem_map_of_mem (f := (·.2)) h))
      refine back ?_
      clear back
      exact ⟨v, ob, keep a ob e1, e2⟩
    · exact ⟨_, h⟩
  · exact (Heap.Ns.new s.heap (.type "dict")).keeps (pushCells_keeps _ _)
  · unfold capm at e
    split at e
    · rename_i hf
      have hf' := mem_freeNames.mp hf
      refine Mine.hideG fun GG back => ?_
      obtain ⟨hk, a, ha⟩ := hc.free x hf'
      refine back ?_
      clear back
      have hkc : (cenvOf scope env s.heap.objs.size).kindOf x = some .cell := relabel_lookup (scope := scope) hke (lookup_of_mem_nodup hc.nodup hf') hk
      rw [hkc]
      refine Mine.hideG fun GG back => ?_
      obtain ⟨mv, hn, hv⟩ := st.var
      refine back ?_
      clear back
      have q := hv x v e
      rw [hk] at q
      refine Mine.hideG fun GG back => ?_
      obtain ⟨a', u, e1, e2, e3⟩ := q
      refine back ?_
      clear back
      rw [ha] at e1; cases e1
      refine ⟨a, u, ?_, e2.keeps keep, e3⟩
      show (cellsFrom _ scope.names (clOf scope env)).lookup x = some a
      rw [cellsFrom_lookup _ _ _ _ fun q => ?_]
      · exact clOf_lookup hc hf' ha
      · have h1 := lookup_of_mem_nodup hc.nodup hf'
        have h2 := lookup_of_mem_nodup hc.nodup q
        rw [h1] at h2; cases h2
    · cases e
  · rcases mem_outerOf (show e ∈ outerOf env o.fs from he) with ⟨rfl, hf⟩ | he
    · refine ⟨by rw [hke]; decide, e.locals, ?_⟩
      refine Mine.hideG fun GG back => ?_
      obtain ⟨ob, ho, hd⟩ := st.place (a := e.locals) List.mem_cons_self
      refine back ?_
      clear back
      refine ⟨ob, hf, ?_, ?_, hd⟩
      · unfold hideComp
        rw [if_pos ⟨List.mem_cons_self, fun q => (List.nodup_cons.mp st.nodup).1 (clIn _ q)⟩, ho]; rfl
      · exact none_ge (st.pl e.locals List.mem_cons_self).2.2
    · refine Mine.hideG fun GG back => ?_
      obtain ⟨k1, L, ob, k2, k3, k4, k5⟩ := st.frames.1 e he
      refine back ?_
      clear back
      exact ⟨k1, L, ob, k2, old L _ k3, k4, k5⟩
theorem St.leaveComp (st : St c o env B m H s) {scope : Scope} (hc : CompAt scope env) {C : Addr} {B' : BMap} {m' : Loc} {H' : AHeap} {s' : Shared}
    (st' : St c ⟨outerOf env o.fs, hideComp env ((clOf scope env).map (·.2)) s.heap B⟩ (cenvOf scope env C) B' m' H' s') (hke : env.scope.kind = .function)
    (hcap : ∀ x v, capm scope m x = some v → m' x = some v) : St c o env B m H' s' := by
  have cellIn : ∀ x a, env.cells.lookup x = some a → a ∈ (clOf scope env).map (·.2) → (x, NameKind.free) ∈ scope.names := fun x a hx ha => by
    refine Mine.hideG fun GG back => ?_
    obtain ⟨⟨y, b⟩, hy, e⟩ := List.mem_map.mp ha
    refine back ?_
    clear back
    have e : b = a := e
    subst e
    refine Mine.hideG fun GG back => ?_
    obtain ⟨h1, h2⟩ := mem_clOf hy
    obtain ⟨_, d, hd⟩ := hc.free y h1
    refine back ?_
    clear back
    rw [hd] at h2
    have h2 : b = d := h2
    subst h2
    rw [cell_addr (List.nodup_cons.mp st.nodup).2 hx hd]; exact h1
  have hid : ∀ a ∈ places env, a ∉ (clOf scope env).map (·.2) → ∃ ob sl, s.heap.get? a = some ob ∧ s'.heap.get? a = some { ob with slots := sl } ∧ H' a = none := fun a ha hn => by
    refine Mine.hideG fun GG back => ?_
    obtain ⟨ob, ho, _⟩ := st.place ha
    refine back ?_
    clear back
    have hB : B' a = some (ob, true) := st'.frames.2 _ _ (by show hideComp _ _ _ _ a = _; unfold hideComp; rw [if_pos ⟨ha, hn⟩, ho]; rfl)
    refine Mine.hideG fun GG back => ?_
    obtain ⟨sl, e1, _⟩ := st'.keep a ob true hB
    refine back ?_
    clear back
    refine ⟨ob, sl, ho, e1, ?_⟩
    cases hb : H' a with
    | none => rfl
    | some y => have := st'.disB a y hb; rw [hB] at this; cases this
  have old : ∀ a x, B a = some x → B' a = some x := fun a x e => st'.frames.2 _ _ <| by
    show hideComp _ _ _ _ a = some x
    unfold hideComp
    rw [if_neg (fun q => by rw [(st.pl a q.1).2.1] at e; cases e)]
    exact e
  have inPl : ∀ a ∈ (clOf scope env).map (·.2), a ∈ places (cenvOf scope env C) := fun a ha => by
    refine Mine.hideG fun GG back => ?_
    obtain ⟨⟨x, b⟩, hx, e⟩ := List.mem_map.mp ha
    refine back ?_
    clear back
    have e : b = a := e
    subst e
    refine Mine.hideG fun GG back => ?_
    obtain ⟨h1, h2⟩ := mem_clOf hx
    obtain ⟨_, d, hd⟩ := hc.free x h1
    refine back ?_
    clear back
    have hl := clOf_lookup hc h1 hd
    rw [hd] at h2
    have h2 : b = d := h2
    subst h2
    refine List.mem_cons_of_mem _ ?_
    show b ∈ (cellsFrom _ scope.names (clOf scope env)).map (·.2)
    refine List.mem_map_of_mem (f := (·.2)) (PySem.mem_of_lookup (n := x) ?_)
    rw [cellsFrom_lookup _ _ _ _ fun q => ?_]
    · exact hl
    · have h3 := lookup_of_mem_nodup hc.nodup h1
      have h4 := lookup_of_mem_nodup hc.nodup q
      rw [h3] at h4; cases h4
  have cellSt : ∀ a ∈ env.cells.map (·.2), ∃ v, s'.heap.IsCell a v := fun a ha => by
    by_cases hin : a ∈ (clOf scope env).map (·.2)
    · have hp := inPl a hin
      rcases List.mem_cons.mp hp with e | hp
      · exfalso
        have e : a = C := e
        have h1 := (List.nodup_cons.mp st'.nodup).1
        rw [show (cenvOf scope env C).locals = C from rfl] at h1
        refine h1 ?_
        rw [← e]
        refine Mine.hideG fun GG back => ?_
        obtain ⟨⟨x, b⟩, hx, e'⟩ := List.mem_map.mp hin
        refine back ?_
        clear back
        have e' : b = a := e'
        subst e'
        refine Mine.hideG fun GG back => ?_
        obtain ⟨g1, g2⟩ := mem_clOf hx
        obtain ⟨_, d, hd⟩ := hc.free x g1
        refine back ?_
        clear back
        have hl := clOf_lookup hc g1 hd
        rw [hd] at g2
        have g2 : b = d := g2
        subst g2
        show b ∈ (cellsFrom _ scope.names (clOf scope env)).map (·.2)
        refine List.mem_map_of_mem (f := (·.2)) (PySem.mem_of_lookup (n := x) ?_)
        rw [cellsFrom_lookup _ _ _ _ fun q => ?_]
        · exact hl
        · have h3 := lookup_of_mem_nodup hc.nodup g1
          have h4 := lookup_of_mem_nodup hc.nodup q
          rw [h3] at h4; cases h4
      · exact st'.cell a hp
    · refine Mine.hideG fun GG back => ?_
      obtain ⟨v, ob, e1, e2⟩ := st.cell a ha
      obtain ⟨ob', sl, h1, h2, _⟩ := hid a (List.mem_cons_of_mem _ ha) hin
      refine back ?_
      clear back
      rw [e1] at h1; cases h1
      exact ⟨v, _, h2, e2⟩
  have locNot : env.locals ∉ (clOf scope env).map (·.2) := fun q => by
    refine Mine.hideG fun GG back => ?_
    obtain ⟨⟨x, b⟩, hx, e⟩ := List.mem_map.mp q
    refine back ?_
    clear back
    have e : b = env.locals := e
    refine Mine.hideG fun GG back => ?_
    obtain ⟨g1, g2⟩ := mem_clOf hx
    obtain ⟨_, d, hd⟩ := hc.free x g1
    refine back ?_
    clear back
    rw [hd] at g2
    have g2 : b = d := g2
    exact (List.nodup_cons.mp st.nodup).1 (by rw [← e, g2]; exact List.mem_map_of_mem (f := (·.2)) (mem_of_lookup hd))
  refine ⟨st'.base, fun b ob l e => st'.keep b ob l (old b _ e), st'.own, fun b x e => ?_, st'.disBase, fun b q => ?_, st.nodup, cellSt, ?_, st.frames, st'.gens, st'.os, st'.tk⟩
  · have h1 := st'.disB b x e
    cases hb : B b with
    | none => rfl
    | some y => rw [old b y hb] at h1; cases h1
  · refine Mine.hideG fun GG back => ?_
    obtain ⟨e1, e2, e3⟩ := st.pl b q
    refine back ?_
    clear back
    refine ⟨?_, e2, e3⟩
    by_cases hin : b ∈ (clOf scope env).map (·.2)
    · exact (st'.pl b (inPl b hin)).1
    · refine Mine.hideG fun GG back => ?_
      obtain ⟨_, _, _, _, h⟩ := hid b q hin
      refine back ?_
      clear back
      exact h
  · refine Mine.hideG fun GG back => ?_
    obtain ⟨mv, ⟨ob, es, ep, ho, hd, hk, hf⟩, hv⟩ := st.var
    obtain ⟨ob', sl, h1, h2, _⟩ := hid env.locals List.mem_cons_self locNot
    refine back ?_
    clear back
    rw [ho] at h1; cases h1
    refine ⟨mv, ⟨_, es, ep, h2, hd, hk, hf⟩, fun x v e => ?_⟩
    have cellK : ∀ a z, env.cells.lookup x = some a → s.heap.IsCell a (some z) → er z = v → ∃ u, s'.heap.IsCell a (some u) ∧ er u = v := fun a z ha ⟨ob, ho, hd⟩ hz => by
      have ham := List.mem_map_of_mem (f := (·.2)) (mem_of_lookup ha)
      by_cases hin : a ∈ (clOf scope env).map (·.2)
      · have hfree := cellIn x a ha hin
        have hcm : capm scope m x = some v := by unfold capm; rw [if_pos (mem_freeNames.mpr hfree)]; exact e
        refine Mine.hideG fun GG back => ?_
        obtain ⟨mv', hn', hv'⟩ := st'.var
        refine back ?_
        clear back
        have q := hv' x v (hcap x v hcm)
        have hkc : (cenvOf scope env C).kindOf x = some .cell := relabel_lookup (scope := scope) hke (lookup_of_mem_nodup hc.nodup hfree) (hc.free x hfree).1
        rw [hkc] at q
        refine Mine.hideG fun GG back => ?_
        obtain ⟨a', u, e1, e2, e3⟩ := q
        refine back ?_
        clear back
        have e1' : (cellsFrom (C + 1) scope.names (clOf scope env)).lookup x = some a' := e1
        rw [cellsFrom_lookup _ _ _ _ fun q => ?_, clOf_lookup hc hfree ha] at e1'
        · cases e1'
          exact ⟨u, e2, e3⟩
        · have h3 := lookup_of_mem_nodup hc.nodup hfree
          have h4 := lookup_of_mem_nodup hc.nodup q
          rw [h3] at h4; cases h4
      · refine Mine.hideG fun GG back => ?_
        obtain ⟨ob', sl, g1, g2, _⟩ := hid a (List.mem_cons_of_mem _ ham) hin
        refine back ?_
        clear back
        rw [ho] at g1; cases g1
        exact ⟨z, ⟨_, g2, hd⟩, hz⟩
    have q := hv x v e
    split at q
    · exact q
    · refine Mine.hideG fun GG back => ?_
      obtain ⟨a, u, e1, e2, e3⟩ := q
      obtain ⟨u', g1, g2⟩ := cellK a u e1 e2 e3
      refine back ?_
      clear back
      exact ⟨a, u', e1, g1, g2⟩
    · refine Mine.hideG fun GG back => ?_
      obtain ⟨a, u, e1, e2, e3⟩ := q
      obtain ⟨u', g1, g2⟩ := cellK a u e1 e2 e3
      refine back ?_
      clear back
      exact ⟨a, u', e1, g1, g2⟩
    · exact q
end
end Mine
namespace Mine
structure CompK (k : Wk) (scope : Scope) (kc : Wk) : Prop where
  c : kc.c = k.c
  A : kc.A = k.A
  sc : kc.env.scope = relabelS scope k.env.scope
  cn : kc.env.cells.map (·.1) = compNames scope
  X : kc.X = fun _ _ _ _ => False
theorem CompK.senv {k kc : Wk} {scope sc : Scope} {cn : List Str} (h : CompK k scope kc) [I : SEnv k sc cn] : SEnv kc (relabelS scope sc) (compNames scope) := ⟨by rw [h.sc, I.sc], h.cn⟩
noncomputable def Caps (scope : Scope) (m mc : Loc) : Prop := ∀ x v, capm scope m x = some v → mc x = some v
theorem Caps.get {scope : Scope} {m mc : Loc} (h : Caps scope m mc) {x : Str} {v : V} (hm : m x = some v) (hx : (freeNames scope).contains x = true) : mc x = some v :=
  h x v (by unfold capm; rw [if_pos hx]; exact hm)
noncomputable def tests (ifs : List Expr) (env : Env) : Sem Bool := forIn ifs true fun c r => if r = true then do let ok ← isTrue c env (eval c env); pure (ForInStep.yield ok) else pure (ForInStep.yield r)
theorem W_tests_nil {k : Wk} {m : Loc} {H : AHeap} {Q : Bool → Loc → AHeap → Prop} (h : Q true m H) : W k (tests [] k.env) m H Q := W.pure h
theorem W_tests_one {k : Wk} {m : Loc} {H : AHeap} {c : Expr} {Q : Bool → Loc → AHeap → Prop} (h : WT k c m H Q) : W k (tests [c] k.env) m H Q := fun B s st => wpAny_tests_one (h B s st)
theorem upd_comm {β : Type} {f : Addr → Option β} {a b : Addr} {x y : β} (h : a ≠ b) : upd (upd f a x) b y = upd (upd f b y) a x := by
  funext z
  unfold upd
  by_cases h1 : z = b
  · by_cases h2 : z = a
    · exact absurd (h2.symm.trans h1) h
    · rw [if_pos h1, if_neg h2, if_pos h1]
  · by_cases h2 : z = a
    · rw [if_neg h1, if_pos h2, if_pos h2]
    · rw [if_neg h1, if_neg h2, if_neg h2, if_neg h1]
section
variable {c : Cx} {o : Out} {env : Env} {B : BMap} {m : Loc} {H : AHeap} {s : Shared}
theorem St.hid2 {a b : Addr} {x : Obj} {y : Obj × Bool} (st : St c o env (upd (upd B a (x, false)) b y) m H s) (h : a ≠ b) : s.heap.get? a = some x := by
  rw [upd_comm h] at st
  exact hid_at st
theorem St.placeData (st : St c o env B m H s) {a : Addr} (h : a ∈ places env) : ∃ ob, s.heap.get? a = some ob ∧ ((∃ es ep, ob.data = .dict es ep) ∨ ∃ v, ob.data = .cell v) := by
  rcases List.mem_cons.mp h with rfl | h
  · refine Mine.hideG fun GG back => ?_
    obtain ⟨mv, hq47⟩ := st.var
    obtain ⟨ob, es, ep, ho, hd, _⟩ := hq47.1
    refine back ?_
    clear back
    clear hq47
    exact ⟨ob, ho, .inl ⟨es, ep, hd⟩⟩
  · refine Mine.hideG fun GG back => ?_
    obtain ⟨v, ob, hq49⟩ := st.cell a h
    refine back ?_
    clear back
    have ho := hq49.1
    have hd := hq49.2
    clear hq49
    exact ⟨ob, ho, .inr ⟨v, hd⟩⟩
theorem St.but' {it : Addr} {ob : Obj} (hB : B it = none) (he : o.ext it = none) (hb : c.base.objs.size ≤ it) (st : St c o env (upd B it (ob, false)) m H s) {h' : Heap} {tk : Nat} (hk : Heap.ExtBut it s.heap h') (ht : 1 ≤ tk) :
    St c o env B m H { s with heap := h', toks := tk } := by
  have q : ∀ b y, B b = some y → upd B it (ob, false) b = some y := fun b y e => upd_fresh hB e
  have r : ∀ b, upd B it (ob, false) b = none → B b = none := fun b e => by
    cases h : B b with
    | none => rfl
    | some y => rw [q b y h] at e; cases e
  have hHit : ∀ b y, H b = some y → b ≠ it := fun b y e z => by
    have := st.disB b y e
    rw [z, upd_same] at this; cases this
  have hpit : ∀ b ∈ places env, b ≠ it := fun b hb z => by
    have := (st.pl b hb).2.1
    rw [z, upd_same] at this; cases this
  have hbase : ∀ b ob, c.base.get? b = some ob → b ≠ it := fun b ob e z => by
    rw [z, none_ge hb] at e; cases e
  refine ⟨fun b ob e => hk b ob (hbase b ob e) (st.base b ob e), fun b ob l e => ?_, fun b y e => ?_, fun b y e => r b (st.disB b y e), st.disBase, fun b z => ⟨(st.pl b z).1, r b (st.pl b z).2.1, (st.pl b z).2.2⟩, st.nodup, fun b e => ?_, ?_, ⟨fun e he => ?_, fun b y e => ?_⟩, st.gens, st.os, ht⟩
  · refine Mine.hideG fun GG back => ?_
    obtain ⟨sl, hq69⟩ := st.keep b ob l (q b _ e)
    refine back ?_
    clear back
    have e1 := hq69.1
    have e2 := hq69.2
    clear hq69
    exact ⟨sl, hk b _ (fun z => by rw [z, hB] at e; cases e) e1, e2⟩
  · refine Mine.hideG fun GG back => ?_
    obtain ⟨ob, hq71⟩ := st.own b y e
    refine back ?_
    clear back
    have e1 := hq71.1
    have e2 := hq71.2
    clear hq71
    exact ⟨ob, hk b ob (hHit b y e) e1, e2⟩
  · refine Mine.hideG fun GG back => ?_
    obtain ⟨v, ob, hq73⟩ := st.cell b e
    refine back ?_
    clear back
    have e1 := hq73.1
    have e2 := hq73.2
    clear hq73
    exact ⟨v, ob, hk b ob (hpit b (List.mem_cons_of_mem _ e)) e1, e2⟩
  · exact var_keeps (fun b hb' ob e => hk b ob (hpit b hb') e) st.var
  · refine Mine.hideG fun GG back => ?_
    obtain ⟨k1, L, ob', hq76⟩ := st.frames.1 e he
    refine back ?_
    clear back
    have k2 := hq76.1
    have k3 := hq76.2.1
    have k4 := hq76.2.2.1
    have k5 := hq76.2.2.2
    clear hq76
    refine ⟨k1, L, ob', k2, ?_, k4, k5⟩
    rcases upd_some k3 with ⟨_, e'⟩ | ⟨_, e'⟩
    · cases e'
    · exact e'
  · rcases upd_some (st.frames.2 b y e) with ⟨rfl, _⟩ | ⟨_, e'⟩
    · rw [he] at e; cases e
    · exact e'
theorem St.rehide' {it : Addr} {ob : Obj} (hB : B it = none) (he : o.ext it = none) (hb : c.base.objs.size ≤ it) (st : St c o env (upd B it (ob, false)) m H s) {h' : Heap} {tk : Nat} (hk : Heap.ExtBut it s.heap h') (ht : 1 ≤ tk) {ob' : Obj} (ho : h'.get? it = some ob') :
    St c o env (upd B it (ob', false)) m H { s with heap := h', toks := tk } := by
  refine (St.but' hB he hb st hk ht).hide (l := false) ho ?_ (fun z => ?_) hB
  · cases e : H it with
    | none => rfl
    | some y => have := st.disB it y e; rw [upd_same] at this; cases this
  · have := (st.pl it z).2.1
    rw [upd_same] at this; cases this
theorem St.adopt (st : St c o env B m H s) {a : Addr} {y : AObj} (hy : ∃ ob, s.heap.get? a = some ob ∧ IsObj c ob y) (hH : H a = none) (hB : B a = none) (hp : a ∉ places env) (hb : c.base.objs.size ≤ a) : St c o env B m (upd H a y) s := by
  refine ⟨st.base, st.keep, fun b z e => ?_, fun b z e => ?_, fun b z e => ?_, fun b q => ?_, st.nodup, st.cell, st.var, st.frames, st.gens, st.os, st.tk⟩
  · rcases upd_some e with ⟨rfl, rfl⟩ | ⟨ne, e⟩
    · exact hy
    · exact st.own b z e
  · rcases upd_some e with ⟨rfl, rfl⟩ | ⟨ne, e⟩
    · exact hB
    · exact st.disB b z e
  · rcases upd_some e with ⟨rfl, rfl⟩ | ⟨ne, e⟩
    · exact hb
    · exact st.disBase b z e
  · have hq105 := st.pl b q
    have e1 := hq105.1
    have e2 := hq105.2.1
    have e3 := hq105.2.2
    clear hq105
    exact ⟨by unfold upd; rw [if_neg (fun z => by subst z; exact hp q)]; exact e1, e2, e3⟩
end
section
variable {k : Wk} {m : Loc} {H : AHeap}
noncomputable def compWk (k : Wk) (B : BMap) (scope : Scope) (s : Shared) (hk : scope.kind = .function) (st : ∃ m H, St k.c k.o k.env B m H s) : Wk where
  c := k.c
  A := k.A
  o := ⟨outerOf k.env k.o.fs, hideComp k.env ((clOf scope k.env).map (·.2)) s.heap B⟩
  env := cenvOf scope k.env s.heap.objs.size
  E := fun _ _ => False
  X := fun _ _ _ _ => False
  here := False
  pass := PassesOwn.never
  fly := fun _ _ _ _ _ _ _ _ _ h => h
  made := fun h => h.elim
  kind := hk
  glob := k.glob
  blt := k.blt
  frames := by
    rw [k.frames]
    congr 1
    refine Mine.hideG fun GG back => ?_
    obtain ⟨m, H, st⟩ := st
    refine back ?_
    clear back
    have lt : ∀ a, (∃ ob, s.heap.get? a = some ob) → a ≠ s.heap.objs.size := fun a ⟨ob, e⟩ => Nat.ne_of_lt (Heap.lt_size e)
    have hne : k.env.frame ≠ some s.heap.objs.size := fun q => by
      rcases k.fat with h | ⟨f, hf, h⟩
      · rw [h] at q
        refine Mine.hideG fun GG back => ?_
        obtain ⟨ob, ho, _⟩ := st.place (a := k.env.locals) List.mem_cons_self
        refine back ?_
        clear back
        exact lt _ ⟨ob, ho⟩ (Option.some.inj q)
      · refine Mine.hideG fun GG back => ?_
        obtain ⟨_, L, ob, k2, k3, _⟩ := st.frames.1 f hf
        refine back ?_
        clear back
        rw [← h, k2] at q
        refine Mine.hideG fun GG back => ?_
        obtain ⟨sl, e1, _⟩ := st.keep L ob true k3
        refine back ?_
        clear back
        exact lt _ ⟨_, e1⟩ (Option.some.inj q)
    show outerOf k.env k.o.fs = outerOf (cenvOf scope k.env s.heap.objs.size) (outerOf k.env k.o.fs)
    exact (if_neg (show ¬ (cenvOf scope k.env s.heap.objs.size).frame = some (cenvOf scope k.env s.heap.objs.size).locals from hne)).symm
  fat := by
    right
    rcases k.fat with h | ⟨f, hf, h⟩
    · exact ⟨k.env, by show k.env ∈ outerOf k.env k.o.fs; unfold outerOf; rw [if_pos h]; exact List.mem_cons_self, rfl⟩
    · refine ⟨f, ?_, h⟩
      show f ∈ outerOf k.env k.o.fs
      unfold outerOf
      split
      · exact List.mem_cons_of_mem _ hf
      · exact hf
theorem compWk_K {B : BMap} {scope : Scope} {s : Shared} {hk : scope.kind = .function} {st : ∃ m H, St k.c k.o k.env B m H s} : CompK k scope (compWk k B scope s hk st) := by
  refine ⟨rfl, rfl, rfl, ?_, rfl⟩
  show (cellsFrom _ scope.names (clOf scope k.env)).map (·.1) = compNames scope
  unfold compNames
  refine cellsFrom_map _ _ _ _ _ ?_
  rw [clOf_names, List.map_reverse, List.map_map]
  congr 1
  exact (List.map_id _).symm
theorem comp_list {elt iter : Expr} {x : Str} {px : Pos} {ifs : List Expr} {scope : Scope} {pos : Pos} {RR : Value → Addr → Result → Shared → Prop} {E : Value → Shared → Prop}
    (hc : CompAt scope k.env) {n : Nat} {R : Nat → V → Prop} {ok : AHeap → Prop} (I : Nat → List V → AHeap → Prop) {xv : Value} (hit : WIter k (er xv) m H n R ok) (h0 : I 0 [] H) (hok : ∀ i acc H2, I i acc H2 → ok H2) (hn : n ≤ sizeLine)
    (hx : ∀ kc, CompK k scope kc → storable kc.env x = true)
    (step : ∀ kc, CompK k scope kc → ∀ i v acc mc H2, i < n → R i v → I i acc H2 → Caps scope m mc → mc x = some v → W kc (tests ifs kc.env) mc H2 fun b m3 H3 => m3 = mc ∧ if b = true then WV kc (eval elt kc.env) mc H3 fun u m4 H4 => m4 = mc ∧ I (i + 1) (acc ++ [u]) H4 else I (i + 1) acc H3)
    (hcx : (freeNames scope).contains x = false)
    {B : BMap} {s : Shared} (st : St k.c k.o k.env B m H s)
    (hRR : ∀ D C obC acc H' s', B C = none → k.c.base.objs.size ≤ C → (∃ mC, s'.heap.Ns C mC) → St k.c k.o k.env (upd B C (obC, false)) m (upd H' D (.list acc)) s' → H' D = none → acc.length ≤ n → I n acc H' → RR (.ref D) C (.ok .next) s') :
    wpAny (model k.c.prog k.c.w) k.A (pyIter xv) (fun it s2 => wpAny (model k.c.prog k.c.w) k.A (newList []) (fun acc s3 => wpAny (model k.c.prog k.c.w) k.A (newFunctionEnv scope k.env.globals (clOf scope k.env) [] k.env.qual none .none (some k.env)) (fun cenv s4 =>
      codeAny (model k.c.prog k.c.w) k.A (.compStart (.ListComp elt [⟨.Name x px, iter, ifs, 0⟩] scope pos) 0 it acc { cenv with scope := relabel scope k.env }) (RR acc cenv.locals) s4) E s3) E s2) E s := by
  refine hit xv rfl B s st _ _ fun it ob0 at_ s2 wk hat0 hBit hbit st2 => ?_
  refine wpAny_newObj_type ?_ (by show (([] : List Value).toArray).size ≤ sizeLine; simp)
  refine wpAny_compEnv ?_
  -- the state with all of these made
  have hitAt := hid_at st2
  have hitlt : it < s2.heap.objs.size := Heap.lt_size hitAt
  have stA := st.unhide hBit st2
  have stB := stA.grown (tk := s2.toks) (h' := s2.heap.push { cls := .type "list", data := .seq ([] : List Value).toArray }) (fun b ob e => Heap.get?_push_of_some _ e) st2.tk
  have hD1 : (s2.heap.push { cls := .type "list", data := .seq ([] : List Value).toArray }).get? s2.heap.objs.size = some { cls := .type "list", data := .seq ([] : List Value).toArray } := Heap.get?_push_size _ rfl
  have hsz : (s2.heap.push { cls := .type "list", data := .seq ([] : List Value).toArray }).objs.size = s2.heap.objs.size + 1 := Heap.size_push ..
  refine Mine.hideG fun GG back => ?_
  obtain ⟨fD1, fD2, fD3, fD4⟩ := stA.fresh (stA.none_at (Nat.le_refl s2.heap.objs.size))
  obtain ⟨fC1, fC2, fC3, fC4⟩ := stB.fresh (stB.none_at (Nat.le_refl _))
  refine back ?_
  clear back
  have hbD : k.c.base.objs.size ≤ s2.heap.objs.size := stA.baseLe
  have hbC := stB.baseLe
  have st4 := stB.enterComp k.kind k.fat hc
  obtain ⟨kc, hkc, hkl, hko, leave, st4', hE, hknd⟩ : ∃ kc : Wk, (CompK k scope kc) ∧ (kc.env.locals = ({ s2 with heap := s2.heap.push { cls := .type "list", data := .seq ([] : List Value).toArray } } : Shared).heap.objs.size) ∧ (kc.o.ext = hideComp k.env ((clOf scope k.env).map (·.2)) ({ s2 with heap := s2.heap.push { cls := .type "list", data := .seq ([] : List Value).toArray } } : Shared).heap B) ∧ (∀ {B' m' H' s'}, St k.c kc.o kc.env B' m' H' s' → Caps scope m m' → St k.c k.o k.env B m H' s') ∧ (St k.c kc.o kc.env kc.o.ext (capm scope m) H _) ∧ (kc.E = fun _ _ => False) ∧ (kc.env = { scope := relabel scope k.env, locals := ({ s2 with heap := s2.heap.push { cls := .type "list", data := .seq ([] : List Value).toArray } } : Shared).heap.objs.size, globals := k.env.globals, cells := cellsFrom (({ s2 with heap := s2.heap.push { cls := .type "list", data := .seq ([] : List Value).toArray } } : Shared).heap.objs.size + 1) scope.names (clOf scope k.env), qual := k.env.qual, func := none, code := k.env.code, frame := k.env.frame, builtins := k.env.builtins }) := ⟨compWk k B scope { s2 with heap := s2.heap.push { cls := .type "list", data := .seq ([] : List Value).toArray } } hc.kind ⟨m, H, stB⟩, compWk_K, rfl, rfl, (fun st' hcap => stB.leaveComp hc st' k.kind hcap), st4, rfl, rfl⟩
  rw [← hknd]
  refine Mine.hideG fun GG back => ?_
  obtain ⟨kcc, kcA, _, _, _⟩ := id hkc
  refine back ?_
  clear back
  have extIt : kc.o.ext it = none := by
    rw [hko]; unfold hideComp
    rw [if_neg fun q => ?_]
    · exact hBit
    · have := (st2.pl it q.1).2.1
      rw [upd_same] at this; cases this
  have extD : kc.o.ext s2.heap.objs.size = none := by
    rw [hko]; unfold hideComp
    rw [if_neg fun q => fD4 q.1]
    exact fD2
  have keep4 : ∀ b ob, (s2.heap.push { cls := .type "list", data := .seq ([] : List Value).toArray }).get? b = some ob → (pushCells ((s2.heap.push { cls := .type "list", data := .seq ([] : List Value).toArray }).push { cls := .type "dict", data := .dict #[] }) scope.names).get? b = some ob :=
    fun b ob e => pushCells_keeps _ _ b ob (Heap.get?_push_of_some _ e)
  have hitD : s2.heap.objs.size ≠ it := Nat.ne_of_gt hitlt
  refine Mine.hideG fun GG back => ?_
  obtain ⟨T0, vs0, hc0, hd0, _⟩ := wk.cls 0 ob0 hat0
  refine back ?_
  clear back
  have st5 := st4'.hide (a := s2.heap.objs.size) (l := false) (keep4 _ _ hD1) fD1 (fun q => by
    refine Mine.hideG fun GG back => ?_
    obtain ⟨ob, ho, h⟩ := st4'.placeData q
    refine back ?_
    clear back
    rw [keep4 _ _ hD1] at ho; cases ho
    rcases h with ⟨_, _, h⟩ | ⟨_, h⟩ <;> cases h) extD
  have st6 := st5.hide (a := it) (l := false) (keep4 _ _ (Heap.get?_push_of_some _ hitAt)) (by
    cases e : H it with
    | none => rfl
    | some y => have := st2.disB it y e; rw [upd_same] at this; cases this) (fun q => by
    refine Mine.hideG fun GG back => ?_
    obtain ⟨ob, ho, h⟩ := st5.placeData q
    refine back ?_
    clear back
    rw [keep4 _ _ (Heap.get?_push_of_some _ hitAt)] at ho; cases ho
    rcases h with ⟨_, _, h⟩ | ⟨_, h⟩ <;> (rw [hd0] at h; cases h)) (by unfold upd; rw [if_neg (Ne.symm hitD)]; exact extIt)
  have hB1 : ∀ x : Obj × Bool, upd kc.o.ext s2.heap.objs.size x it = none := fun x => by unfold upd; rw [if_neg (Ne.symm hitD)]; exact extIt
  have hB2 : ∀ x : Obj × Bool, upd kc.o.ext it x s2.heap.objs.size = none := fun x => by unfold upd; rw [if_neg hitD]; exact extD
  have loop : ∀ s', (∃ i acc H' ob vs cnt mc, 0 + i = 0 ∧ at_ i ob ∧ I i acc H' ∧ (vs : List Value).map er = acc ∧ acc.length ≤ i ∧ Caps scope m mc ∧ St k.c kc.o kc.env (upd (upd kc.o.ext s2.heap.objs.size ({ cls := .type "list", data := .seq vs.toArray cnt }, false)) it (ob, false)) mc H' s') →
      codeAny (model k.c.prog k.c.w) k.A (.compLoop (.ListComp elt [⟨.Name x px, iter, ifs, 0⟩] scope pos) 0 (.ref it) (.ref s2.heap.objs.size) kc.env) (RR (.ref s2.heap.objs.size) (s2.heap.push { cls := .type "list", data := .seq ([] : List Value).toArray }).objs.size) s' := by
    intro s' hs'
    refine codeAny_compLoop_tests (fun j s' => ∃ i acc H' ob vs cnt mc, j + i = n ∧ at_ i ob ∧ I i acc H' ∧ (vs : List Value).map er = acc ∧ acc.length ≤ i ∧ Caps scope m mc ∧ St k.c kc.o kc.env (upd (upd kc.o.ext s2.heap.objs.size ({ cls := .type "list", data := .seq vs.toArray cnt }, false)) it (ob, false)) mc H' s') ?_ n ?_
    · intro j s' hg251_2
      refine Mine.hideG fun GG back => ?_
      obtain ⟨i, acc, H', ob, vs, cnt, mc, hj, hat, hI, hvs, hal, hcap, st'⟩ := hg251_2
      refine back ?_
      clear back
      by_cases hi : i < n
      · refine wk.item i hi H' s' ob st'.owned (hid_at st') hat (hok _ _ _ hI) _ (fun v h' tk ob'' htk hR hat' ho hsame => ?_) _
        have st7 := St.rehide' (hB1 _) extIt hbit st' hsame.extBut htk ho
        have hsx := hx kc hkc
        have hass := W_bindName (k := kc) (x := x) (v := v) (Q := fun _ m' H2 => m' = setL mc x (er v) ∧ H2 = H') hsx ⟨rfl, rfl⟩ _ _ (by rw [kcc]; exact st7)
        rw [kcc, kcA, hE] at hass
        show wpAny _ _ (do standAt px; bindName kc.env x v) _ _ _
        refine wpAny_bind (wpAny_standAt ?_)
        refine wpAny_mono hass (fun _ s₂ q => ?_) (fun _ _ h => h.elim)
        refine Mine.hideG fun GG back => ?_
        obtain ⟨m', H2, st8, rfl, rfl⟩ := q
        refine back ?_
        clear back
        have hcap' : Caps scope m (setL mc x (er v)) := fun y u e => by
          have hyx : y ≠ x := fun q => by
            subst q
            unfold capm at e
            rw [if_neg (by rw [hcx]; exact Bool.false_ne_true)] at e; cases e
          unfold setL; rw [if_neg hyx]; exact hcap y u e
        have hstep := step kc hkc i (er v) acc (setL mc x (er v)) H2 hi hR hI hcap' setL_same _ _ (by rw [kcc]; exact st8)
        rw [kcc, kcA, hE] at hstep
        refine wpAny_mono hstep (fun b s₃ q => ?_) (fun _ _ h => h.elim)
        refine Mine.hideG fun GG back => ?_
        obtain ⟨m3, H3, st9, rfl, q⟩ := q
        refine back ?_
        clear back
        cases b with
        | false =>
          rw [if_neg Bool.false_ne_true] at q ⊢
          exact ⟨j - 1, by lia, i + 1, acc, H3, ob'', vs, cnt, _, by lia, hat', q, hvs, by lia, hcap', st9⟩
        | true =>
          rw [if_pos rfl] at q ⊢
          have q' := q _ _ (by rw [kcc]; exact st9)
          rw [kcc, kcA, hE] at q'
          refine wpAny_mono q' (fun u s₄ q => ?_) (fun _ _ h => h.elim)
          refine Mine.hideG fun GG back => ?_
          obtain ⟨m4, H4, st10, rfl, q⟩ := q
          refine back ?_
          clear back
          have hl := st10.hid2 hitD
          have hlen : vs.length ≤ sizeLine := by rw [← hvs, List.length_map] at hal; lia
          refine call_meets F.slot_list_append ⟨_, hl, rfl⟩ F.entry_list_append (F.args_list_append_2 _ _) (list_append s2.heap.objs.size vs.toArray cnt u (by simpa using hlen)) ⟨hl, ?_⟩
          obtain ⟨cnt', hup⟩ : ∃ cnt', IsL (s₄.heap.update s2.heap.objs.size (Obj.mapSeq fun x_1 => x_1.push u)) s2.heap.objs.size (vs ++ [u]).toArray cnt' := by
            have := IsL.update hl (fun x_1 => x_1.push u)
            rw [show vs.toArray.push u = (vs ++ [u]).toArray from by simp] at this
            exact ⟨_, this⟩
          have st11 := St.rehide' (hB2 _) extD hbD (by rw [upd_comm hitD] at st10; exact st10) (tk := s₄.toks) (Heap.SameBut.update s₄.heap s2.heap.objs.size (Obj.mapSeq fun x_1 => x_1.push u)).extBut st10.tk hup
          rw [← upd_comm hitD] at st11
          exact ⟨j - 1, by lia, i + 1, acc ++ [er u], H4, ob'', vs ++ [u], cnt', _, by lia, hat', q, by rw [List.map_append, hvs]; rfl, by rw [List.length_append, List.length_singleton]; lia, hcap', st11⟩
      · have hi' : i = n := by lia
        subst hi'
        refine wk.fin H' s' ob st'.owned (hid_at st') hat (hok _ _ _ hI) _ (fun h' hk => ?_) _
        have st7 := St.but' (hB1 _) extIt hbit st' (tk := s'.toks) hk st'.tk
        have stE := leave st7 hcap
        refine Mine.hideG fun GG back => ?_
        obtain ⟨mv, hns, _⟩ := st7.var
        obtain ⟨obC, es, ep, hCo, hCr⟩ := id hns
        refine back ?_
        clear back
        rw [hkl] at hCo hns
        have hCp := st7.pl kc.env.locals List.mem_cons_self
        rw [hkl] at hCp
        have stC := stE.hide (l := false) hCo hCp.1 fC4 fC2
        have hDl : h'.get? s2.heap.objs.size = some { cls := .type "list", data := .seq vs.toArray cnt } := hid_at st7
        have hHD : H' s2.heap.objs.size = none := by
          cases e : H' s2.heap.objs.size with
          | none => rfl
          | some y => have := st7.disB _ y e; rw [upd_same] at this; cases this
        have stF := stC.adopt (a := s2.heap.objs.size) (y := .list acc) ⟨_, hDl, vs, cnt, rfl, hvs⟩ hHD (by
          unfold upd
          rw [if_neg (fun q => by rw [hsz] at q; exact absurd q (Nat.ne_of_lt (Nat.lt_succ_self _)))]
          exact fD2) fD4 hbD
        exact hRR _ _ _ _ _ _ fC2 hbC ⟨mv, hns⟩ stF hHD hal hI
    · refine Mine.hideG fun GG back => ?_
      obtain ⟨i, acc, H', ob, vs, cnt, mc, hj, r⟩ := hs'
      refine back ?_
      clear back
      exact ⟨i, acc, H', ob, vs, cnt, mc, by lia, r⟩
  have start : ∃ i acc H' ob vs cnt mc, 0 + i = 0 ∧ at_ i ob ∧ I i acc H' ∧ (vs : List Value).map er = acc ∧ acc.length ≤ i ∧ Caps scope m mc ∧ St k.c kc.o kc.env (upd (upd kc.o.ext s2.heap.objs.size ({ cls := .type "list", data := .seq vs.toArray cnt }, false)) it (ob, false)) mc H' _ :=
    ⟨0, [], H, ob0, [], 0, capm scope m, rfl, hat0, h0, rfl, Nat.le_refl _, fun _ _ e => e, st6⟩
  exact codeAny_compStart_list (loop _ start) (wk.self ob0 _ _ (hid_at st6) hat0 (loop _ start) _)
structure LC (k : Wk) (elt : Expr) (ifs : List Expr) (scope : Scope) (x : Str) (xv : V) (m : Loc) (H : AHeap) (Q : Addr → AHeap → Prop) (n : Nat) (R : Nat → V → Prop) (ok : AHeap → Prop) (I : Nat → List V → AHeap → Prop) : Prop where
  it : WIter k xv m H n R ok
  start : I 0 [] H
  ok : ∀ i acc H2, I i acc H2 → ok H2
  size : n ≤ sizeLine
  step : ∀ kc, CompK k scope kc → ∀ i v acc mc H2, i < n → R i v → I i acc H2 → Caps scope m mc → mc x = some v → W kc (tests ifs kc.env) mc H2 fun b m3 H3 => m3 = mc ∧ if b = true then WV kc (eval elt kc.env) mc H3 fun u m4 H4 => m4 = mc ∧ I (i + 1) (acc ++ [u]) H4 else I (i + 1) acc H3
  fin : ∀ a acc H2, acc.length ≤ n → I n acc H2 → H2 a = none → Q a (upd H2 a (.list acc))
theorem compAt_of {scope sc : Scope} {cn : List Str} [I : SEnv k sc cn] (h : compOK scope sc cn = true) : CompAt scope k.env := CompAt.of (by rw [I.sc, I.cn]; exact h)
theorem W_ListComp {elt iter : Expr} {x : Str} {px : Pos} {ifs : List Expr} {scope sc : Scope} {cn : List Str} {pos : Pos} {Q : V → Loc → AHeap → Prop} [S : SEnv k sc cn] (hc : compOK scope sc cn = true)
    (hx : storS (relabelS scope sc) (compNames scope) x = true) (hcx : (freeNames scope).contains x = false)
    (h : WV k (eval iter k.env) m H fun xv m1 H1 => ∃ n R ok I, LC k elt ifs scope x xv m1 H1 (fun a => Q (.ref a) m1) n R ok I)
    (hs : ∀ x, foldedSetIterable iter k.env x = pure x := by intro _; rfl) :
    WV k (eval (.ListComp elt [⟨.Name x px, iter, ifs, 0⟩] scope pos) k.env) m H Q := fun B s st => by
  have hcc := compAt_of (k := k) hc
  rw [eval_ListComp]
  refine wpAny_comprehension_free (use := none) rfl hs hcc.clos hcc.kind (fun y hy hl => lookup_of_mem_nodup hcc.nodup (by rw [← hl]; exact hy)) (wpAny_mono (h B s st) (fun xv s1 hx1 => ?_) fun _ _ y => y)
  refine Mine.hideG fun GG back => ?_
  obtain ⟨m1, H1, st1, n, R, ok, I, L⟩ := hx1
  refine back ?_
  clear back
  refine comp_list (RR := fun acc C => compPost (model k.c.prog k.c.w) k.A k.E none _ acc C) (E := k.E) hcc I L.it L.start L.ok L.size (fun kc hkc => ?_) L.step hcx st1 fun D C obC acc H' s' hBC hbC hns st' hD hal hI => ?_
  · haveI := hkc.senv (sc := sc) (cn := cn)
    exact stor hx
  · refine Mine.hideG fun GG back => ?_
    obtain ⟨mC, hns⟩ := hns
    refine back ?_
    clear back
    refine ⟨mC, hns, fun h' hsb => ⟨m1, _, St.but' hBC ?_ hbC st' (tk := s'.toks) hsb.extBut st'.tk, L.fin D acc H' hal hI hD⟩⟩
    cases e : k.o.ext C with
    | none => rfl
    | some y => have := st1.frames.2 C y e; rw [hBC] at this; cases this
theorem W_Assign_ListComp {elt iter : Expr} {x y : Str} {px py : Pos} {ifs : List Expr} {scope sc : Scope} {cn : List Str} {pos spos : Pos} {Q : Flow → Loc → AHeap → Prop} [S : SEnv k sc cn] (hc : compOK scope sc cn = true)
    (hx : storS (relabelS scope sc) (compNames scope) x = true) (hcx : (freeNames scope).contains x = false) (hy : sc.names.lookup y = some .local) (hl : (py.line == pos.line) = true) (hsh : (scope.names.any fun p => p.1 == y && (p.2 == .local || p.2 == .cell)) = false)
    (h : WV k (eval iter k.env) m H fun xv m1 H1 => ∃ n R ok I, LC k elt ifs scope x xv m1 H1 (fun a H' => Q .next (setL m1 y (.ref a)) H') n R ok I)
    (hs : ∀ x, foldedSetIterable iter k.env x = pure x := by intro _; rfl) :
    W k (exec (.Assign [.Name y py] (.ListComp elt [⟨.Name x px, iter, ifs, 0⟩] scope pos) spos) k.env) m H Q := fun B s st => by
  have hcc := compAt_of (k := k) hc
  have hkind : k.env.kindOf y = some .local := kindS hy
  have hsw : swapsWith (.ListComp elt [⟨.Name x px, iter, ifs, 0⟩] scope pos) (some (.Name y py)) spos.line k.env = pure true := by
    have hb : (k.env.blockKind == .function) = true := by unfold Env.blockKind; rw [k.kind]; rfl
    show (pure (k.env.blockKind == .function && k.env.kindOf y == some .local && py.line == pos.line && !(scope.names.any fun p => p.1 == y && (p.2 == .local || p.2 == .cell))) : Sem Bool) = pure true
    rw [hb, hkind, hl, hsh]; rfl
  rw [exec_Assign_Name_used _ _ _ _ hsw]
  refine wpAny_bind (wpAny_standAt (wpAny_bind ?_))
  show wpAny _ k.A (do let _ ← comprehension (.ListComp elt [⟨.Name x px, iter, ifs, 0⟩] scope pos) scope k.env _ (newList []) false (eval iter k.env) (some (assign (.Name y py) k.env))) _ _ s
  refine wpAny_bind (wpAny_mono (wpAny_comprehension_free (use := some (assign (.Name y py) k.env)) (Q := fun _ s' => ∃ m' H', St k.c k.o k.env B m' H' s' ∧ Q .next m' H') rfl hs hcc.clos hcc.kind (fun y hy hl => lookup_of_mem_nodup hcc.nodup (by rw [← hl]; exact hy))
    (wpAny_mono (h B s st) (fun xv s1 ⟨m1, H1, st1, n, R, ok, I, L⟩ => ?_) fun _ _ y => y)) (fun _ s' hq => wpAny_pure (wpAny_pure hq)) fun _ _ e => e)
  refine comp_list (RR := fun acc C => compPost (model k.c.prog k.c.w) k.A k.E (some (assign (.Name y py) k.env)) _ acc C) (E := k.E) hcc I L.it L.start L.ok L.size (fun kc hkc => ?_) L.step hcx st1 fun D C obC acc H' s' hBC hbC hns st' hD hal hI => ?_
  · haveI := hkc.senv (sc := sc) (cn := cn)
    exact stor hx
  · have hext : k.o.ext C = none := by
      cases e : k.o.ext C with
      | none => rfl
      | some y => have := st1.frames.2 C y e; rw [hBC] at this; cases this
    have has := WAs_Name (k := k) (x := y) (p := py) (v := .ref D) (m := m1) (H := upd H' D (.list acc)) (Q := fun m' H'' => m' = setL m1 y (.ref D) ∧ H'' = upd H' D (.list acc)) (by unfold storable; rw [hkind]) ⟨rfl, rfl⟩ (.ref D) rfl _ _ st'
    show wpAny _ k.A (assign (.Name y py) k.env (.ref D)) _ _ _
    refine wpAny_mono has (fun _ s'' q => ?_) fun _ _ e => e
    refine Mine.hideG fun GG back => ?_
    obtain ⟨m', H'', hq351⟩ := q
    refine back ?_
    clear back
    have st'' := hq351.1
    obtain rfl := hq351.2.1
    obtain rfl := hq351.2.2
    clear hq351
    refine Mine.hideG fun GG back => ?_
    obtain ⟨mC, obN, es, ep, hq352⟩ := hns
    refine back ?_
    clear back
    have hCo := hq352.1
    have hCd := hq352.2
    clear hq352
    have e1 := hid_at st'
    have e2 := hid_at st''
    rw [hCo] at e1; cases e1
    refine ⟨mC, ⟨_, es, ep, e2, hCd⟩, fun h' hsb => ⟨_, _, St.but' hBC hext hbC st'' (tk := s''.toks) hsb.extBut st''.tk, L.fin D acc H' hal hI hD⟩⟩
end
end Mine
namespace Mine
section
variable {k : Wk} {m : Loc} {H : AHeap}
end
end Mine
namespace Mine
theorem call_excM {prog : Program} {w : World} {A : Around} {E : Value → Shared → Prop} {s : Shared} {X N I : String} (hc : ExcClass X N I) {rest : List Value} {Q : Value → Shared → Prop}
    (h : ∀ h' e t, (∀ b o, s.heap.get? b = some o → h'.get? b = some o) → s.heap.objs.size ≤ e → s.heap.objs.size ≤ t → t ≠ e → (∃ ob, h'.get? e = some ob ∧ ob.cls = .type X ∧ ob.data = .fields #[.ref t, .none, .none, .none, .bool false, .none]) →
      h'.get? t = some { cls := .type "tuple", data := .seq rest.toArray } → Q (.ref e) { s with heap := h' }) (hrest : rest.length ≤ sizeLine) :
    wpAny (model prog w) A (call (.type X) rest) Q E s := by
  refine wpAny_call (codeAny_of_tree ?_)
  show wpAny _ _ (callAny (.type X) ⟨rest, []⟩) _ _ s
  simp only [callAny]
  refine wpAny_pure ⟨Code.quiet_builtin _ (by decide +kernel), codeAny_builtin entry_type_call ?_⟩
  rw [Around.under_plain (weight_type_call X _ _) (by first | rfl | kernel_rfl | decide +kernel)]
  unfold Builtin.«type.__call__»
  dsimp only
  rw [if_neg (by rw [hc.notType]; exact Bool.false_ne_true), if_neg (by rw [hc.canNew]; exact Bool.false_ne_true)]
  obtain ⟨l, hl, hle⟩ := hc.mro
  refine wpAny_bind (wpAny_of_eq (hc.typeCall rest) (wpAny_bind (wpAny_of_eq hl ?_)))
  rw [if_neg (by rw [hle]; exact Bool.false_ne_true)]
  refine wpAny_bind (wpAny_of_eq hc.madeBy ?_)
  dsimp only
  refine wpAny_bind (wpAny_pure (wpAny_bind (wpAny_holding (new_exc hc ?_ hrest))))
  refine wpAny_bind (wpAny_isInstance (T := X) ⟨_, Heap.get?_push_size _ rfl, rfl⟩ hc.self ?_)
  simp only [Bool.not_true, Bool.false_eq_true, if_false]
  refine wpAny_bind (wpAny_holding (wpAny_callSpecial?_slot (name := Str.ofString "__init__") (T := X) ⟨_, Heap.get?_push_size _ rfl, rfl⟩ hc.init
    (init_exc hc (Heap.get?_push_size _ rfl) rfl rfl rfl ?_ hrest)))
  dsimp only
  rw [if_neg (by simp)]
  generalize hh1 : (s.heap.push { cls := .type "tuple", data := .seq rest.toArray }) = h1
  have z1 : h1.objs.size = s.heap.objs.size + 1 := by rw [← hh1]; exact Heap.size_push ..
  generalize hh2 : h1.push { cls := .type X, data := .fields #[.ref s.heap.objs.size, .none, .none, .none, .bool false, .none] } = h2
  have z2 : h2.objs.size = h1.objs.size + 1 := by rw [← hh2]; exact Heap.size_push ..
  have k1 : ∀ b o, s.heap.get? b = some o → h1.get? b = some o := fun b o e => by rw [← hh1]; exact Heap.get?_push_of_some _ e
  have k2 : ∀ b o, h1.get? b = some o → h2.get? b = some o := fun b o e => by rw [← hh2]; exact Heap.get?_push_of_some _ e
  have e2 : h2.get? h1.objs.size = some { cls := .type X, data := .fields #[.ref s.heap.objs.size, .none, .none, .none, .bool false, .none] } := by rw [← hh2]; exact Heap.get?_push_size _ rfl
  refine wpAny_pure (h _ _ h2.objs.size (fun b o hb => ?_) (by rw [z1]; exact Nat.le_succ _) (by rw [z2, z1]; lia) (by rw [z2]; exact Nat.succ_ne_self _)
    ⟨_, Heap.get?_update_self _ (Heap.get?_push_of_some _ e2) (Obj.isFreed_of_fields (Obj.data_mapFields rfl _)), Obj.cls_mapFields _ _, by rw [Obj.data_mapFields rfl]; rfl⟩ ?_)
  · rw [Heap.get?_update_other _ _ (Nat.ne_of_gt (Nat.lt_of_lt_of_le (Heap.lt_size hb) (by rw [z1]; exact Nat.le_succ _)))]
    exact Heap.get?_push_of_some _ (k2 b o (k1 b o hb))
  · rw [Heap.get?_update_other _ _ (by rw [z2]; exact Nat.ne_of_lt (Nat.lt_succ_self _))]
    exact Heap.get?_push_size _ rfl
section
variable {k : Wk} {m : Loc} {H : AHeap}
theorem W_RaiseCall {x : Str} {X N I : String} {np cpos pos : Pos} {args : List Expr} {Q : Flow → Loc → AHeap → Prop} (hc : ExcClass X N I) (hh : k.A.handled = none) (here : k.here) (hg : Gl k.c x (.type X)) (hx : k.env.kindOf x = some .globalImplicit)
    (h : WItems k args m H fun vs m1 H1 => vs.length ≤ sizeLine ∧ k.X X (some vs) m1 H1)
    (hp : (starEach args k.env).any (·.1) = false := by rfl) (hp' : (backTo cpos (starEach args k.env)).any (·.1) = false := by rfl) (hd : (x == ("__debug__" : Str)) = false := by decide) :
    W k (exec (.Raise (some (.Call (.Name x np) args [] cpos)) none pos) k.env) m H Q := fun B s st =>
  Raise_new hh (wpAny_Call_NameR (wpAny_mono (W_NameG (Q := fun v m' H' => v = .ty X ∧ m' = m ∧ H' = H) hg hx ⟨rfl, rfl, rfl⟩ hd B s st) (fun f s1 hx1 => by
    refine Mine.hideG fun GG back => ?_
    obtain ⟨m1, H1, st1, e1, e2, e3⟩ := hx1
    refine back ?_
    clear back
    subst e2; subst e3
    obtain rfl := er_ty e1
    refine PySem.callWith_type hp' (wpAny_mono (evalArgs_of (f := .type X) (pos := cpos) hp h B s1 st1) (fun a s2 ⟨m2, H2, st2, e, hz, q⟩ => ?_) fun _ _ x => x)
    rw [e]
    refine call_excM hc (fun h' ea t hk he ht hne ⟨ob, ho, hoc, hod⟩ htt => ?_) (by simpa using hz)
    obtain ⟨st3, hm⟩ := st2.making0 (tk := s2.toks) k.kind (cls := X) (xs := some (a.pos.map er)) hk (st2.none_at he) ho hoc hod (fun l q => ⟨t, a.pos, 0, rfl, Option.some.inj q, htt, ht, he, hne⟩) st2.tk
    exact ⟨ea, ob, _, X, N, I, hc, rfl, ho, hoc, hod, rfl, k.made here _ _ _ _ _ _ _ st3 hm q⟩) fun _ _ x => x))
theorem WSub_listOut {value slice : Expr} {l : Addr} {xs : List V} {i : Int} {Q : V → Loc → AHeap → Prop} (hh : k.A.handled = none) (here : k.here) (hl : H l = some (.list xs)) (h0 : -(2 ^ 63) ≤ i) (h1 : i < 2 ^ 63) (ho : i < -(xs.length : Int) ∨ (xs.length : Int) ≤ i) (h : k.X "IndexError" none m H)
    (hs : ∀ o i, subscripted slice false o i = operate [o, i] (getItem o i) := by intro _ _; with_unfolding_all rfl) : WSub k value slice (.ref l) (.int i) m H Q := fun x y hx hy B s st => by
  obtain rfl := er_ref hx
  obtain ⟨t, rfl⟩ := er_int hy
  obtain ⟨vs, n, hl', rfl⟩ := st.listAt hl
  rw [List.length_map] at ho
  refine tail_any hl'.isList.typeIs slot_list_getitem.lookup (wpAny_mono (wpAny_toks_of st.tk (wpAny_getItem_list_out (Q := fun _ _ => False) (E := fun e s' => ∃ h' tk ea, e = .ref ea ∧ s' = { s with heap := h', toks := tk } ∧ Heap.NewExc s.heap h' ea "IndexError") hh hl'.isList (by simpa using ho) h0 h1 fun h' tk e hx => ⟨h', tk, e, rfl, rfl, hx⟩)) (fun _ _ q => q.2.elim) fun e s' q => ?_) (hs _ _)
  obtain ⟨htk, h', tk, ea, rfl, rfl, hx⟩ := q
  obtain ⟨st3, hm⟩ := st.makingNew k.kind hx htk
  exact k.made here _ _ _ _ _ _ _ st3 hm h
end
end Mine
namespace Mine
structure TryK (k : Wk) (X : String → Option (List V) → Loc → AHeap → Prop) (k' : Wk) : Prop where
  c : k'.c = k.c
  A : k'.A = k.A
  env : k'.env = k.env
  fs : k'.o.fs = k.o.fs
  X : k'.X = X
theorem TryK.senv {k k' : Wk} {X : String → Option (List V) → Loc → AHeap → Prop} {sc : Scope} {cn : List Str} (h : TryK k X k') [I : SEnv k sc cn] : SEnv k' sc cn := ⟨by rw [h.env]; exact I.sc, by rw [h.env]; exact I.cn⟩
structure MarkK (k : Wk) (e : Addr) (kh : Wk) : Prop where
  c : kh.c = k.c
  A : kh.A = k.A.mark (some (.ref e))
  env : kh.env = k.env
  o : kh.o = k.o
theorem MarkK.senv {k k' : Wk} {e : Addr} {sc : Scope} {cn : List Str} (h : MarkK k e k') [I : SEnv k sc cn] : SEnv k' sc cn := ⟨by rw [h.env]; exact I.sc, by rw [h.env]; exact I.cn⟩
noncomputable def markWk (k : Wk) (e : Addr) : Wk where
  c := k.c
  A := k.A.mark (some (.ref e))
  o := k.o
  env := k.env
  E := fun _ _ => False
  X := fun _ _ _ _ => False
  here := False
  pass := PassesOwn.never
  fly := fun _ _ _ _ _ _ _ _ _ h => h
  made := fun h => h.elim
  kind := k.kind
  glob := k.glob
  blt := k.blt
  frames := k.frames
  fat := k.fat
noncomputable def WH (k : Wk) (hs : List ExceptHandler) (e : Addr) (cls : String) (xs : Option (List V)) (m : Loc) (H : AHeap) (Q : Flow → Loc → AHeap → Prop) : Prop :=
  ∀ B s, St k.c k.o k.env B m H s → InFl k.c k.o k.env B H e cls xs s.heap → wpAny (model k.c.prog k.c.w) k.A (handleBy (.ref e) k.env hs) (fun f s' => ∃ m' H', St k.c k.o k.env B m' H' s' ∧ Q f m' H') k.E s
section
variable {c : Cx} {o : Out} {env : Env} {B : BMap} {m : Loc} {H : AHeap} {s : Shared}
theorem St.shrink {m₀ : Loc} {H₀ : AHeap} {s₀ : Shared} (st₀ : St c o env B m₀ H₀ s₀) {B' : BMap} (st : St c ⟨o.fs, B⟩ env B' m H s) : St c o env B m H s := by
  have ex : ∀ a x, B a = some x → B' a = some x := st.frames.2
  have r : ∀ b, B' b = none → B b = none := fun b e => by
    cases h : B b with
    | none => rfl
    | some y => rw [ex b y h] at e; cases e
  exact ⟨st.base, fun b ob l e => st.keep b ob l (ex b _ e), st.own, fun b y e => r b (st.disB b y e), st.disBase, fun b z => ⟨(st.pl b z).1, r b (st.pl b z).2.1, (st.pl b z).2.2⟩, st.nodup, st.cell, st.var, st₀.frames, st.gens, st.os, st.tk⟩
theorem Away.shrink {B' : BMap} (ex : ∀ a x, B a = some x → B' a = some x) {a : Addr} (h : Away env B' H a) : Away env B H a := by
  have hq54 := h
  have h1 := hq54.1
  have h2 := hq54.2.1
  have h3 := hq54.2.2
  clear hq54
  refine ⟨h1, ?_, h3⟩
  cases e : B a with
  | none => rfl
  | some y => rw [ex a y e] at h2; cases h2
theorem InFl.shrink {B' : BMap} (ex : ∀ a x, B a = some x → B' a = some x) {e : Addr} {cls : String} {xs : Option (List V)} {h : Heap} (i : InFl c ⟨o.fs, B⟩ env B' H e cls xs h) : InFl c o env B H e cls xs h := by
  refine Mine.hideG fun GG back => ?_
  obtain ⟨base', a0, hO, hfl, ha⟩ := i
  refine back ?_
  clear back
  refine ⟨base', a0, ⟨hO.cb, fun b q => hO.own b ?_⟩, hfl, fun l q => ?_⟩
  · rcases q with q | q | q
    · exact .inl q
    · refine Mine.hideG fun GG back => ?_
      obtain ⟨y, hy⟩ := Option.isSome_iff_exists.mp q
      refine back ?_
      clear back
      exact .inr (.inl (by rw [ex b y hy]; rfl))
    · exact .inr (.inr q)
  · refine Mine.hideG fun GG back => ?_
    obtain ⟨t, vs, n, h1, h2, h3, h4, h5, h6, h7⟩ := ha l q
    refine back ?_
    clear back
    exact ⟨t, vs, n, h1, h2, h3, h4, h5, h6.shrink ex, h7.shrink ex⟩
noncomputable def clr (m : Loc) (x : Str) : Loc := fun y => if y = x then none else m y
theorem St.clr (st : St c o env B m H s) {x : Str} {h' : Heap} {tk : Nat} (hk : env.kindOf x = some .local)
    (hq : ∀ mv, s.heap.Ns env.locals mv → ∃ v, h'.Ns env.locals (fun y => if y = x then v else mv y)) (hs : Heap.SameBut env.locals s.heap h') (ht : 1 ≤ tk) : St c o env B (Mine.clr m x) H { s with heap := h', toks := tk } := by
  have hp := st.pl env.locals List.mem_cons_self
  have kp : ∀ b ob, b ≠ env.locals → s.heap.get? b = some ob → h'.get? b = some ob := fun b ob ne e => (hs.2 b ne).trans e
  refine ⟨fun b ob e => kp b ob (fun q => ?_) (st.base b ob e), fun b ob l e => ?_, fun b z e => ?_, st.disB, st.disBase, st.pl, st.nodup, fun b e => ?_, ?_, st.frames, st.gens, st.os, ht⟩
  · rw [q] at e; exact absurd (Heap.lt_size e) (Nat.not_lt.mpr hp.2.2)
  · refine Mine.hideG fun GG back => ?_
    obtain ⟨sl, hq82⟩ := st.keep b ob l e
    refine back ?_
    clear back
    have e1 := hq82.1
    have e2 := hq82.2
    clear hq82
    exact ⟨sl, kp b _ (fun q => by rw [q, hp.2.1] at e; cases e) e1, e2⟩
  · obtain ⟨ob, e1, e2⟩ := st.own b z e; exact ⟨ob, kp b ob (fun q => by rw [q, hp.1] at e; cases e) e1, e2⟩
  · refine Mine.hideG fun GG back => ?_
    obtain ⟨u, ob, hq85⟩ := st.cell b e
    refine back ?_
    clear back
    have e1 := hq85.1
    have e2 := hq85.2
    clear hq85
    exact ⟨u, ob, kp b ob (fun q => (List.nodup_cons.mp st.nodup).1 (q ▸ e)) e1, e2⟩
  · refine Mine.hideG fun GG back => ?_
    obtain ⟨mv, hq87⟩ := st.var
    refine back ?_
    clear back
    have hn := hq87.1
    have hv := hq87.2
    clear hq87
    refine Mine.hideG fun GG back => ?_
    obtain ⟨v, hq⟩ := hq mv hn
    refine back ?_
    clear back
    refine ⟨_, hq, fun y u e => ?_⟩
    unfold Mine.clr at e
    by_cases hy : y = x
    · rw [if_pos hy] at e; cases e
    · rw [if_neg hy] at e
      have q := hv y u e
      have cellK : ∀ a z, env.cells.lookup y = some a → s.heap.IsCell a z → h'.IsCell a z := fun a z e ⟨ob, ho, hd⟩ =>
        ⟨ob, kp a ob (fun r => (List.nodup_cons.mp st.nodup).1 (r ▸ List.mem_map_of_mem (f := (·.2)) (PySem.mem_of_lookup e))) ho, hd⟩
      split at q
      · obtain ⟨z, e1, e2⟩ := q; exact ⟨z, by rw [if_neg hy]; exact e1, e2⟩
      · obtain ⟨a, z, e1, e2, e3⟩ := q; exact ⟨a, z, e1, cellK a _ e1 e2, e3⟩
      · obtain ⟨a, z, e1, e2, e3⟩ := q; exact ⟨a, z, e1, cellK a _ e1 e2, e3⟩
      · exact q
end
section
variable {k : Wk} {m : Loc} {H : AHeap}
theorem W_Try {body orelse : List Stmt} {h₀ : ExceptHandler} {hs : List ExceptHandler} {pos : Pos} {Q : Flow → Loc → AHeap → Prop} (X : String → Option (List V) → Loc → AHeap → Prop) (hfun : k.env.frame = some k.env.locals)
    (hb : ∀ k', TryK k X k' → W k' (execs body k'.env) m H fun f m1 H1 => match f with | .next => W k (execs orelse k.env) m1 H1 Q | f => Q f m1 H1)
    (hx : ∀ e cls xs m1 H1, X cls xs m1 H1 → WH k (h₀ :: hs) e cls xs m1 H1 Q) : W k (exec (.Try body (h₀ :: hs) orelse [] pos) k.env) m H Q := fun B s st => by
  have hout : outerOf k.env k.o.fs = k.env :: k.o.fs := if_pos hfun
  have hA : k.A.frames = some (k.env :: k.o.fs) := by rw [k.frames, hout]
  let k' : Wk := {
    c := k.c, A := k.A, o := ⟨k.o.fs, B⟩, env := k.env
    E := fun e s₁ => wpAny (model k.c.prog k.c.w) k.A (noteFrame e k.env) (fun _ s₂ => wpAny (model k.c.prog k.c.w) k.A (setFlight e none) (fun _ s₃ => wpAny (model k.c.prog k.c.w) k.A (handleBy e k.env (h₀ :: hs)) (fun f s' => ∃ m' H', St k.c k.o k.env B m' H' s' ∧ Q f m' H') k.E s₃) k.E s₂) k.E s₁
    X := X, here := False
    pass := PassesOwn.looking
    fly := fun B' m1 H1 s1 e cls xs st1 i hX => by
      refine Mine.hideG fun GG back => ?_
      obtain ⟨base', a0, hO, hfl, ha⟩ := i
      refine back ?_
      clear back
      have hfl0 := hfl
      rw [show outerOf k.env (Out.fs ⟨k.o.fs, B⟩) = k.env :: k.o.fs from hout] at hfl
      refine wpAny_looks_onW hA hfun hfl fun h2 hh2 hu2 => ?_
      have stS := st.shrink st1
      have iS : InFl k.c k.o k.env B H1 e cls xs s1.heap := InFl.shrink st1.frames.2 ⟨base', a0, hO, hfl0, ha⟩
      refine Mine.hideG fun GG back => ?_
      obtain ⟨base2, a02, hO2, hfl2, ha2⟩ := id iS
      refine back ?_
      clear back
      have hO' : Ours k.c k.o k.env B H1 base' := ⟨hO.cb, fun b q => hO.own b (by
        rcases q with q | q | q
        · exact .inl q
        · refine Mine.hideG fun GG back => ?_
          obtain ⟨y, hy⟩ := Option.isSome_iff_exists.mp q
          refine back ?_
          clear back
          exact .inr (.inl (by rw [st1.frames.2 b y hy]; rfl))
        · exact .inr (.inr q))⟩
      have st2 := stS.flown hO' hfl.1 hh2.1 hu2 (tk := s1.toks) stS.tk
      refine wpAny_landsW hh2 fun h3 hh3 hu3 => ?_
      have st3 := st2.flown hO' hh2.1 hh3.1 hu3 (tk := s1.toks) stS.tk
      refine hx e cls xs m1 H1 hX B _ st3 ⟨base', a0, hO', by rw [hout]; exact hh3, fun l q => ?_⟩
      refine Mine.hideG fun GG back => ?_
      obtain ⟨t, vs, n, g1, g2, g3, g4, g5, g6, g7⟩ := ha l q
      refine back ?_
      clear back
      exact ⟨t, vs, n, g1, g2, g3, g4, g5, g6.shrink st1.frames.2, g7.shrink st1.frames.2⟩
    made := fun h => h.elim
    kind := k.kind, glob := k.glob, blt := k.blt, frames := k.frames, fat := .inl hfun }
  have stB : St k.c ⟨k.o.fs, B⟩ k.env B m H s := ⟨st.base, st.keep, st.own, st.disB, st.disBase, st.pl, st.nodup, st.cell, st.var, ⟨st.frames.1, fun _ _ e => e⟩, st.gens, st.os, st.tk⟩
  refine wpAny_Try_except (wpAny_mono (hb k' ⟨rfl, rfl, rfl, rfl, rfl⟩ B s stB) (fun f s1 ⟨m1, H1, st1, q⟩ => ?_) fun e s1 he => he)
  have st1' := st.shrink st1
  cases f with
  | next => exact q B s1 st1'
  | brk => exact ⟨m1, H1, st1', q⟩
  | cont => exact ⟨m1, H1, st1', q⟩
  | ret v => exact ⟨m1, H1, st1', q⟩
theorem meta_plain {T X N I : String} (hc : ExcClass T N I) : isSubtype (.type ((Manifest.find? T).elim "type" fun x => x.metatype)) (.type "tuple") = pure false := by
  rw [eq_of_beq hc.metaType]
  rw [isSubtype_type]; kernel_rfl
theorem WH_hitAs {x n : Str} {T N I : String} {p pos : Pos} {b₀ : Stmt} {suite : List Stmt} {rest : List ExceptHandler} {e : Addr} {cls : String} {l : List V} {Q : Flow → Loc → AHeap → Prop}
    (hc : ExcClass T N I) (hg : Gl k.c x (.type T)) (hx : k.env.kindOf x = some .globalImplicit) (hn : k.env.kindOf n = some .local) (hsub : isSubtype (.type cls) (.type T) = pure true) (hd : (x == ("__debug__" : Str)) = false) (hcls : cls ≠ "tuple")
    (h : ∀ kh t, MarkK k e kh → H e = none → H t = none → t ≠ e → W kh (execs (b₀ :: suite) kh.env) (setL m n (.ref e)) (upd (upd H t (.tup l)) e (.exc cls (some t))) fun f m' H' => Q f (clr m' n) H') :
    WH k (.ExceptHandler (some (.Name x p)) (some n) (b₀ :: suite) pos :: rest) e cls (some l) m H Q := fun B s st i => by
  refine Mine.hideG fun GG back => ?_
  obtain ⟨base', a0, hO, hfl, ha⟩ := i
  obtain ⟨ob, ho, hcl⟩ := hfl.there
  refine back ?_
  clear back
  have key : wpAny (model k.c.prog k.c.w) (k.A.mark (some (.ref e))) (eval (.Name x p) k.env) (fun c s₁ => c = .type T ∧ s₁.TypeIs (.ref e) cls ∧ s₁ = s) (fun _ _ => False) s := by
    have hg' : s.heap.Ns k.env.globals k.c.mg := by rw [k.glob]; exact k.c.top.g.keeps st.base
    have hb' : s.heap.Ns k.env.builtins k.c.mb := by rw [k.blt]; exact k.c.top.b.keeps st.base
    rcases hg with e1 | ⟨e1, e2⟩
    · exact Name_function_global k.kind hx (loadGlobal_global (env := k.env) hg' e1 ⟨rfl, ⟨ob, ho, hcl⟩, rfl⟩) hd
    · exact Name_function_global k.kind hx (loadGlobal_builtin (env := k.env) hg' e1 hb' e2 ⟨rfl, ⟨ob, ho, hcl⟩, rfl⟩) hd
  refine wpAny_handleBy_builtin_as (b := true) hc.base (meta_plain (X := T) hc) hsub (wpAny_mono key (fun c s₁ q => ?_) fun _ _ q => q.elim)
  refine Mine.hideG fun GG back => ?_
  obtain ⟨rfl, hT, rfl⟩ := q
  refine back ?_
  clear back
  refine ⟨rfl, hT, ?_⟩
  rw [if_pos rfl]
  refine lands_againW hfl fun h3 hh3 hu3 => ?_
  have st3 := st.flown hO hfl.1 hh3.1 hu3 (tk := s₁.toks) st.tk
  refine Mine.hideG fun GG back => ?_
  obtain ⟨t, vs, cnt, rfl, hvs, ht, hbt, hbe, awT, awE⟩ := ha l rfl
  have ht3 := hh3.1 t _ ht
  obtain ⟨oe, evs, he3, hec, hed, he0⟩ := hh3.first
  refine back ?_
  clear back
  have hte : t ≠ e := fun q => by
    rw [q] at ht
    rw [hfl.2.1] at ht; cases ht
  have st4 := st3.adopt (a := t) (y := .tup l) ⟨_, ht3, vs, cnt, rfl, hvs⟩ awT.1 awT.2.1 awT.2.2 hbt
  have st5 := st4.adopt (a := e) (y := .exc cls (some t)) ⟨oe, he3, hcls, hec, evs, hed, fun t' q => by cases q; exact he0⟩ (by unfold upd; rw [if_neg (Ne.symm hte)]; exact awE.1) awE.2.1 awE.2.2 hbe
  have hst := W_store (k := markWk k e) (x := n) (v := .ref e) (Q := fun _ m' H' => m' = setL m n (.ref e) ∧ H' = upd (upd H t (.tup l)) e (.exc cls (some t))) (by unfold storable; rw [show (markWk k e).env.kindOf n = some .local from hn]) ⟨rfl, rfl⟩ B _ st5
  refine wpAny_mono hst (fun _ s2 q => ?_) fun _ _ q => q.elim
  refine Mine.hideG fun GG back => ?_
  obtain ⟨m', H', st6, rfl, rfl⟩ := q
  refine back ?_
  clear back
  refine wpAny_mono (h (markWk k e) t ⟨rfl, rfl, rfl, rfl⟩ awE.1 awT.1 hte B _ st6) (fun f s7 q => ?_) fun _ _ q => q.elim
  refine Mine.hideG fun GG back => ?_
  obtain ⟨m7, H7, st7', q⟩ := q
  have st7 : St k.c k.o k.env B m7 H7 s7 := st7'
  obtain ⟨mv, hns, hv⟩ := st7.var
  refine back ?_
  clear back
  refine wpAny_nameGoes_keeps hn hns (by rw [k.kind]; rfl) fun h8 v hns8 hs8 => ?_
  refine ⟨clr m7 n, H7, St.clr (tk := s7.toks + 1) st7 hn (fun mv' hmv' => ?_) hs8 (Nat.le_succ_of_le st7.tk), q⟩
  have e : mv' = mv := by
    funext y
    refine Mine.hideG fun GG back => ?_
    obtain ⟨ob', es', ep', ho', hd', _, hf'⟩ := hmv'
    obtain ⟨ob2, es2, ep2, ho2, hd2, _, hf2⟩ := hns
    refine back ?_
    clear back
    rw [ho2] at ho'; cases ho'
    rw [hd2] at hd'; cases hd'
    rw [← hf2, ← hf']
  rw [e]; exact ⟨v, hns8⟩
end
end Mine
namespace Mine
noncomputable def allOf (h : Heap) (skip : Addr → Bool) : List (Addr × Obj) := (List.range h.objs.size).filterMap fun a => if skip a then none else (h.get? a).map fun o => (a, o)
theorem mem_allOf {h : Heap} {skip : Addr → Bool} {p : Addr × Obj} : p ∈ allOf h skip ↔ skip p.1 = false ∧ h.get? p.1 = some p.2 := by
  unfold allOf
  rw [List.mem_filterMap]
  constructor
  · intro hg13_0
    refine Mine.hideG fun GG back => ?_
    obtain ⟨a, _, e⟩ := hg13_0
    refine back ?_
    clear back
    split at e
    · cases e
    · rename_i hs
      refine Mine.hideG fun GG back => ?_
      obtain ⟨o, ho, rfl⟩ := Option.map_eq_some_iff.mp e
      refine back ?_
      clear back
      exact ⟨(Bool.not_eq_true _).mp hs, ho⟩
  · intro hg19_0
    refine Mine.hideG fun GG back => ?_
    obtain ⟨h1, h2⟩ := hg19_0
    refine back ?_
    clear back
    exact ⟨p.1, List.mem_range.mpr (Heap.lt_size h2), by rw [if_neg (by rw [h1]; exact Bool.false_ne_true), h2]; rfl⟩
section
variable {c : Cx} {o : Out} {env : Env} {B : BMap} {m : Loc} {H : AHeap} {s : Shared}
noncomputable def skipOf (c : Cx) (L : Addr) (as : List Addr) (b : Addr) : Bool := (b == L) || as.contains b || (c.base.get? b).isSome
theorem news_all (st : St c o env B m H s) (as : List Addr) : News c.base env.locals s.heap (allOf s.heap (skipOf c env.locals as)) := fun p hp => by
  refine Mine.hideG fun GG back => ?_
  obtain ⟨h1, h2⟩ := mem_allOf.mp hp
  refine back ?_
  clear back
  unfold skipOf at h1
  rw [Bool.or_eq_false_iff, Bool.or_eq_false_iff] at h1
  exact ⟨h2, fun e => by rw [e] at h1; simp at h1, by
    cases q : c.base.get? p.1 with
    | none => rfl
    | some x => rw [q] at h1; exact absurd h1.2 (by simp)⟩
theorem kept_all {F : Fr c.base env.locals s.heap m₀} (st : St c o env B m H s) {as : List Addr} {h' : Heap} {mv : Str → Option Value} (F' : Fr c.base env.locals h' mv) {news : List (Addr × Obj)} (N' : News c.base env.locals h' news)
    (hsub : ∀ p ∈ allOf s.heap (skipOf c env.locals as), p ∈ news) : ∀ b ob, b ∉ as → b ≠ env.locals → s.heap.get? b = some ob → h'.get? b = some ob := fun b ob hb hL e => by
  cases q : c.base.get? b with
  | some x =>
    have := st.base b x q
    rw [e] at this; cases this
    exact F'.keep b ob q
  | none =>
    refine (N' (b, ob) (hsub _ (mem_allOf.mpr ⟨?_, e⟩))).1
    unfold skipOf
    simp [hL, hb, q]
theorem ns_uniq {h : Heap} {L : Addr} {m1 m2 : Str → Option Value} (h1 : h.Ns L m1) (h2 : h.Ns L m2) : m1 = m2 := by
  funext y
  refine Mine.hideG fun GG back => ?_
  obtain ⟨ob1, es1, ep1, ho1, hd1, _, hf1⟩ := h1
  obtain ⟨ob2, es2, ep2, ho2, hd2, _, hf2⟩ := h2
  refine back ?_
  clear back
  rw [ho1] at ho2; cases ho2
  rw [hd1] at hd2; cases hd2
  rw [← hf1, ← hf2]
theorem St.putF (st : St c o env B m H s) {a : Addr} {x y : AObj} {h' : Heap} {tk : Nat} (hx : H a = some x) (hk : ∀ b ob, b ≠ a → b ≠ env.locals → s.heap.get? b = some ob → h'.get? b = some ob)
    (hns : ∀ mv, s.heap.Ns env.locals mv → h'.Ns env.locals mv) (hy : ∃ ob, h'.get? a = some ob ∧ IsObj c ob y) (ht : 1 ≤ tk) : St c o env B m (upd H a y) { s with heap := h', toks := tk } := by
  have hB := st.disB a x hx
  have hbl := st.disBase a x hx
  have hb : c.base.get? a = none := none_ge hbl
  have hp : a ∉ places env := fun q => by rw [(st.pl a q).1] at hx; cases hx
  have hpL := st.pl env.locals List.mem_cons_self
  refine ⟨fun b ob e => hk b ob (fun q => by rw [q, hb] at e; cases e) (fun q => by rw [q, none_ge hpL.2.2] at e; cases e) (st.base b ob e), fun b ob l e => ?_, fun b z e => ?_, fun b z e => ?_, fun b z e => ?_, fun b q => ?_, st.nodup, fun b e => ?_, ?_, st.frames, st.gens, st.os, ht⟩
  · refine Mine.hideG fun GG back => ?_
    obtain ⟨sl, e1, e2⟩ := st.keep b ob l e
    refine back ?_
    clear back
    exact ⟨sl, hk b _ (fun q => by rw [q, hB] at e; cases e) (fun q => by rw [q, hpL.2.1] at e; cases e) e1, e2⟩
  · rcases upd_some e with ⟨rfl, rfl⟩ | ⟨ne, e⟩
    · exact hy
    · obtain ⟨ob, e1, e2⟩ := st.own b z e; exact ⟨ob, hk b ob ne (fun q => by rw [q, hpL.1] at e; cases e) e1, e2⟩
  · rcases upd_some e with ⟨rfl, rfl⟩ | ⟨ne, e⟩
    · exact hB
    · exact st.disB b z e
  · rcases upd_some e with ⟨rfl, rfl⟩ | ⟨ne, e⟩
    · exact hbl
    · exact st.disBase b z e
  · refine Mine.hideG fun GG back => ?_
    obtain ⟨e1, e2, e3⟩ := st.pl b q
    refine back ?_
    clear back
    exact ⟨by unfold upd; rw [if_neg (fun z => by subst z; exact hp q)]; exact e1, e2, e3⟩
  · refine Mine.hideG fun GG back => ?_
    obtain ⟨v, ob, e1, e2⟩ := st.cell b e
    refine back ?_
    clear back
    exact ⟨v, ob, hk b ob (fun q => hp (by subst q; exact List.mem_cons_of_mem _ e)) (fun q => (List.nodup_cons.mp st.nodup).1 (q ▸ e)) e1, e2⟩
  · refine Mine.hideG fun GG back => ?_
    obtain ⟨mv, hn, hv⟩ := st.var
    refine back ?_
    clear back
    refine ⟨mv, hns mv hn, fun x v e => ?_⟩
    have cellK : ∀ a z, env.cells.lookup x = some a → s.heap.IsCell a z → h'.IsCell a z := fun b z e ⟨ob, ho, hd⟩ =>
      have hm := List.mem_map_of_mem (f := (·.2)) (PySem.mem_of_lookup e)
      ⟨ob, hk b ob (fun q => hp (by rw [← q]; exact List.mem_cons_of_mem _ hm)) (fun q => (List.nodup_cons.mp st.nodup).1 (q ▸ hm)) ho, hd⟩
    have q := hv x v e
    split at q
    · exact q
    · obtain ⟨a, u, e1, e2, e3⟩ := q; exact ⟨a, u, e1, cellK a _ e1 e2, e3⟩
    · obtain ⟨a, u, e1, e2, e3⟩ := q; exact ⟨a, u, e1, cellK a _ e1 e2, e3⟩
    · exact q
end
structure ClsAt (c : Cx) (C : Addr) (fI : Addr) : Prop where
  makes : makesIn c.K C = true
  keep : keepIn c.K (.ref C) = true
  init : findIn c.K (.ref C) "__init__" = some (some (.ref fI))
  initFn : isFn c.K (.ref fI) = true
  setat : findIn c.K (.ref C) "__setattr__" = some (some (.builtin "object.__setattr__"))
  over : plainOver c.K C = true
  taker : takerIn c.K C "dict" = some none
  hasd : hasDictIn c.K C = true
  getd : plainGet c.K C "dict" = true
  findd : findIn c.K (.ref C) "dict" = some none
  noget : noGet c.K none = true
structure MethAt (c : Cx) (C : Addr) (name : Str) (f : Addr) : Prop where
  get : plainGet c.K C name = true
  find : findIn c.K (.ref C) name = some (some (.ref f))
  fn : isFn c.K (.ref f) = true
  keep : keepIn c.K (.ref f) = true
  other : (("dict" : Str) == name) = false
section
variable {k : Wk} {m : Loc} {H : AHeap}
theorem inst_at {B : BMap} {s : Shared} (st : St k.c k.o k.env B m H s) {x C dx : Addr} {v : V} (hx : H x = some (.inst C dx)) (hd : H dx = some (.attrs v)) :
    ∃ n t u, InstAt s.heap x (instObj C dx) C (some (dictOf [⟨PyData.keyHash k.c.w.params ("dict" : Str), .str ("dict" : Str) t, u⟩] n)) ∧ er u = v := by
  refine Mine.hideG fun GG back => ?_
  obtain ⟨ob, ho, rfl⟩ := st.own x _ hx
  obtain ⟨od, hod, n, t, u, rfl, e⟩ := st.own dx _ hd
  refine back ?_
  clear back
  exact ⟨n, t, u, ⟨ho, rfl, rfl, hod⟩, e⟩
theorem W_getDict {n : Str} {np pos : Pos} {x C dx fI : Addr} {v : V} {Q : V → Loc → AHeap → Prop} (hC : ClsAt k.c C fI) (hn : m n = some (.ref x)) (hx : H x = some (.inst C dx)) (hd : H dx = some (.attrs v)) (hv : ∀ i, v ≠ .bi i) (h : Q v m H)
    (hdb : (n == ("__debug__" : Str)) = false := by decide) (hcd : (n == ("__classdict__" : Str)) = false := by decide) : WV k (eval (.Attribute (.Name n np) ("dict" : Str) pos) k.env) m H Q := fun B s st =>
  Attribute_name (wpAny_mono (W_Name (Q := fun v m' H' => v = .ref x ∧ m' = m ∧ H' = H) hn ⟨rfl, rfl, rfl⟩ hdb hcd B s st) (fun ov s1 hx1 => by
    refine Mine.hideG fun GG back => ?_
    obtain ⟨m1, H1, st1, e1, e2, e3⟩ := hx1
    refine back ?_
    clear back
    subst e2; subst e3
    obtain rfl := er_ref e1
    refine Mine.hideG fun GG back => ?_
    obtain ⟨cnt, t, u, I, rfl⟩ := inst_at st1 hx hd
    obtain ⟨mv, F⟩ := st1.fr
    refine back ?_
    clear back
    refine get_own F k.c.inK I hC.getd hC.hasd hC.findd hC.noget (v := u) ?_ ?_ ⟨m1, H1, st1.toks _ (Nat.le_succ_of_le st1.tk), h⟩
    · unfold getL
      simp [Value.isStr]
    · cases u with
      | builtin i => exact absurd rfl (hv i)
      | _ => rfl) fun _ _ y => y)
theorem W_setDict {n : Str} {np pos' pos : Pos} {e : Expr} {Q : Flow → Loc → AHeap → Prop} {fI : Addr}
    (h : WV k (eval e k.env) m H fun v m1 H1 => ∃ x C dx, m1 n = some (.ref x) ∧ ClsAt k.c C fI ∧ H1 x = some (.inst C dx) ∧ (H1 dx = some .attrs0 ∨ ∃ u, H1 dx = some (.attrs u)) ∧ Q .next m1 (upd H1 dx (.attrs v)))
    (hs : swapsWith e (some (.Attribute (.Name n np) ("dict" : Str) pos')) pos.line k.env = pure false := by rfl) (hdb : (n == ("__debug__" : Str)) = false := by decide) (hcd : (n == ("__classdict__" : Str)) = false := by decide) :
    W k (exec (.Assign [.Attribute (.Name n np) ("dict" : Str) pos'] e pos) k.env) m H Q := fun B s st => by
  refine plainObj_wpAny_Assign_Attribute (wpAny_mono (h B s st) (fun v s1 q => ?_) fun _ _ y => y) hs
  refine Mine.hideG fun GG back => ?_
  obtain ⟨m1', H1', st1, x, C, dx, hn, hC, hx, hdx, q⟩ := q
  refine back ?_
  clear back
  refine wpAny_mono (W_Name (Q := fun v m' H' => v = .ref x ∧ m' = m1' ∧ H' = H1') hn ⟨rfl, rfl, rfl⟩ hdb hcd B s1 st1) (fun ov s2 q2 => ?_) fun _ _ y => y
  refine Mine.hideG fun GG back => ?_
  obtain ⟨m1, H1, st2, e1, rfl, rfl⟩ := q2
  refine back ?_
  clear back
  obtain rfl := er_ref e1
  refine Mine.hideG fun GG back => ?_
  obtain ⟨mv, F⟩ := st2.fr
  obtain ⟨ox, hox, rfl⟩ := st2.own x _ hx
  refine back ?_
  clear back
  have go : ∀ (es es' : List DictEntry) (cnt cnt' : Nat) (z : AObj), H1 dx = some z → s2.heap.get? dx = some (dictOf es cnt) → (getL ("dict" : Str) es).isSome = true →
      (putL ("dict" : Str) (PyData.keyHash k.c.w.params ("dict" : Str)) (.str ("dict" : Str) (s2.toks + 1)) v es, putN ("dict" : Str) es cnt) = (es', cnt') → es'.length ≤ 1000 → IsObj k.c (dictOf es' cnt') (.attrs (er v)) →
      wpAny (model k.c.prog k.c.w) k.A (setAttr (.ref x) ("dict" : Str) v) (fun _ s' => ∃ m' H', St k.c k.o k.env B m' H' s' ∧ Q .next m' H') k.E s2 := by
    intro es es' cnt cnt' z hz hd hl hp hlen hI
    have N0 := news_all st2 [dx]
    have hdL : dx ≠ k.env.locals := fun q => by rw [q, (st2.pl k.env.locals List.mem_cons_self).1] at hz; cases hz
    have hdb' : k.c.base.get? dx = none := none_ge (st2.disBase dx z hz)
    have N : News k.c.base k.env.locals s2.heap ((dx, dictOf es cnt) :: allOf s2.heap (skipOf k.c k.env.locals [dx])) := fun p hp => by
      rcases List.mem_cons.mp hp with rfl | hp
      · exact ⟨hd, hdL, hdb'⟩
      · exact N0 p hp
    have hne : ∀ p ∈ allOf s2.heap (skipOf k.c k.env.locals [dx]), p.1 ≠ dx := fun p hp q => by
      have := (mem_allOf.mp hp).1
      unfold skipOf at this
      rw [q] at this
      simp at this
    refine set_dict F k.c.inK N (ox := instObj C dx) ⟨hox, rfl, rfl, hd⟩ rfl hC.setat hC.over hC.taker hC.hasd hl hp (.head hne) hlen fun h' F' N' => ?_
    have hkeep : ∀ b ob, b ≠ dx → b ≠ k.env.locals → s2.heap.get? b = some ob → h'.get? b = some ob := fun b ob hb hL e =>
      kept_all (F := F) st2 F' N' (as := [dx]) (fun p hp => List.mem_cons_of_mem _ hp) b ob (by simpa using hb) hL e
    refine ⟨m1, _, st2.putF hz hkeep (fun mv' hmv' => ?_) ⟨_, (N' _ List.mem_cons_self).1, hI⟩ (by have := st2.tk; lia), q⟩
    rw [ns_uniq hmv' F.ns]; exact F'.ns
  rcases hdx with hdx | ⟨u, hdx⟩
  · refine Mine.hideG fun GG back => ?_
    obtain ⟨od, hod, rfl⟩ := st2.own dx _ hdx
    refine back ?_
    clear back
    refine go [] _ 0 _ _ hdx hod rfl rfl (by simp [putL]) ⟨_, _, _, rfl, rfl⟩
  · refine Mine.hideG fun GG back => ?_
    obtain ⟨od, hod, cnt, t, u', rfl, rfl⟩ := st2.own dx _ hdx
    refine back ?_
    clear back
    have hstr : Value.isStr (.str ("dict" : Str) t) ("dict" : Str) = true := by simp [Value.isStr]
    refine go _ [⟨PyData.keyHash k.c.w.params ("dict" : Str), .str ("dict" : Str) t, v⟩] cnt _ _ hdx hod ?_ (by unfold putL; simp only [hstr, if_true]; rfl) (by simp) ⟨_, t, v, rfl, rfl⟩
    unfold getL
    simp [Value.isStr]
theorem W_NewCls {x : Str} {p pos : Pos} {C fI : Addr} {Q : V → Loc → AHeap → Prop} (hC : ClsAt k.c C fI) (hg : Gl k.c x (.ref C)) (hx : k.env.kindOf x = some .globalImplicit)
    (h : ∀ a dx, H a = none → H dx = none → a ≠ dx → Fn k.c (k.A.under (.builtin "type.__call__" ⟨[.ref C], []⟩)) (.ref fI) ⟨[.ref a], []⟩ (upd (upd H dx .attrs0) a (.inst C dx)) (fun v H' => v = .none ∧ Q (.ref a) m H') NoX)
    (hd : (x == ("__debug__" : Str)) = false := by decide) : WV k (eval (.Call (.Name x p) [] [] pos) k.env) m H Q := fun B s st =>
  wpAny_Call_NameR (wpAny_mono (W_NameG (Q := fun v m' H' => v = .ref C ∧ m' = m ∧ H' = H) hg hx ⟨rfl, rfl, rfl⟩ hd B s st) (fun g s1 hx1 => by
    refine Mine.hideG fun GG back => ?_
    obtain ⟨m1, H1, st1, e1, e2, e3⟩ := hx1
    refine back ?_
    clear back
    subst e2; subst e3
    obtain rfl := er_ref e1
    have X : k.c.K.In s1.heap := k.c.inK.keeps st1.base
    refine callWith_K0 X hC.keep (wpAny_call ?_)
    refine Mine.hideG fun GG back => ?_
    obtain ⟨hh, gg, dd, tt, os⟩ := s1
    refine back ?_
    clear back
    refine make_core (rest := []) (kw := []) (makes_of X hC.makes) (looks_findIn X hC.init) (fun self => bind_fn X self (beq_iff_eq.mp hC.initFn)) (.inl rfl) ?_
    have hsz : (hh.push emptyDict).objs.size = hh.objs.size + 1 := Heap.size_push ..
    have f1 := st1.fresh (st1.none_at (Nat.le_refl hh.objs.size))
    have st2 := st1.new (tk := tt) (y := .attrs0) (h' := hh.push emptyDict) (Nat.le_refl hh.objs.size) (fun b ob e => Heap.get?_push_of_some _ e) ⟨_, Heap.get?_push_size _ rfl, rfl⟩ st1.tk
    have f2 := st1.fresh (st1.none_at (Nat.le_succ hh.objs.size))
    have st3 := st2.new (tk := tt) (y := .inst C hh.objs.size) (a := hh.objs.size + 1) (h' := (hh.push emptyDict).push (instObj C hh.objs.size)) (by rw [← hsz]; exact Nat.le_refl _) (fun b ob e => Heap.get?_push_of_some _ e) ⟨_, by rw [← hsz]; exact Heap.get?_push_size _ rfl, rfl⟩ st1.tk
    refine codeAny_mono (h (hh.objs.size + 1) hh.objs.size f2.1 f1.1 (Nat.succ_ne_self _) k.o k.env B m1 _ k.kind k.frames st3) fun r s' q => ?_
    rcases r with e | (v | _ | _ | _)
    · obtain ⟨_, _, _, _, _, _, _, q⟩ := q; exact q.elim
    · exact q.elim
    · exact q.elim
    · exact q.elim
    · refine Mine.hideG fun GG back => ?_
      obtain ⟨H', st', e, q⟩ := q
      refine back ?_
      clear back
      exact ⟨er_none e, m1, H', st', q⟩) fun _ _ y => y)
theorem W_CallMeth {o : Expr} {name : Str} {apos pos : Pos} {args : List Expr} {C f : Addr} {fd : FuncData} {body : List Stmt} {pl : Sem Bool} {Q : V → Loc → AHeap → Prop} (hM : MethAt k.c C name f) (hF : FnAt k.c f fd body)
    (h : WV k (eval o k.env) m H fun ov m1 H1 => ∃ x dx v, ov = .ref x ∧ H1 x = some (.inst C dx) ∧ H1 dx = some (.attrs v) ∧ WItems k args m1 H1 fun vs m2 H2 => FnV k.c k.A f (.ref x :: vs) [] H2 (fun r H' => Q r m2 H') fun a b H' => k.X a b m2 H')
    (he : eval (.Call (.Attribute o name apos) args [] pos) k.env = (do
      let ov ← eval o k.env
      standAt apos.atName
      let (f, first) ← holding [ov] (getMethod ov name pl)
      callWith pos f first (backTo pos (starEach args k.env)) (backToKw pos (keywordEach [] k.env))) := by rfl)
    (hp : (starEach args k.env).any (·.1) = false := by rfl) : WV k (eval (.Call (.Attribute o name apos) args [] pos) k.env) m H Q := fun B s st => by
  rw [he]
  refine wpAny_bind (wpAny_mono (h B s st) (fun ov s1 q => wpAny_bind (wpAny_standAt (wpAny_bind (wpAny_holding ?_)))) fun _ _ y => y)
  refine Mine.hideG fun GG back => ?_
  obtain ⟨m1, H1, st1, x, dx, v, e, hx, hdx, q⟩ := q
  refine back ?_
  clear back
  obtain rfl := er_ref e
  refine Mine.hideG fun GG back => ?_
  obtain ⟨cnt, t, u, I, rfl⟩ := inst_at st1 hx hdx
  obtain ⟨mv, F⟩ := st1.fr
  refine back ?_
  clear back
  refine method_inst F k.c.inK I hM.get hM.find hM.fn ?_ ?_
  · unfold getL
    have hs : Value.isStr (.str ("dict" : Str) t) name = false := by
      show (("dict" : Str) == name) = false
      exact hM.other
    simp [hs, DictEntry.refKey]
  · refine Mine.hideG fun GG back => ?_
    obtain ⟨fo, hfo, hfd⟩ := hF.obj
    refine back ?_
    clear back
    refine Calls.callWith_function (o := fo) (fd := fd) (wpAny_mono (evalArgs_of (f := .ref f) (pos := pos) hp q B s1 st1) (fun a s2 ⟨m2, H2, st2, e, q⟩ => ?_) fun _ _ y => y)
    rw [e]
    exact ⟨⟨st2.base f fo hfo, hfd⟩, W_callF (q (.ref x :: a.pos) [] rfl rfl) B s2 st2⟩
end
end Mine
namespace Mine
/-! plain data that lies in the heap -/
mutual
noncomputable def Rd (H : AHeap) : PyData → V → Prop
  | .none, v => v = .none
  | .int i, v => v = .int i
  | .str x, v => ∃ t, v = .str x t
  | .list ds, v => ∃ a vs, v = .ref a ∧ H a = some (.list vs) ∧ RdAll H ds vs
  | .tuple ds, v => ∃ a vs, v = .ref a ∧ H a = some (.tup vs) ∧ RdAll H ds vs
  | _, _ => False
noncomputable def RdAll (H : AHeap) : List PyData → List V → Prop
  | [], vs => vs = []
  | d :: ds, vs => ∃ v r, vs = v :: r ∧ Rd H d v ∧ RdAll H ds r
end
mutual
theorem Rd.reads {c : Cx} {H : AHeap} {s : Shared} (o : Own c H s) : ∀ (d : PyData) (v : Value), Rd H d (er v) → ∃ as, Reads s.heap v d as
  | .none, v, r => by obtain rfl := er_none r; exact ⟨_, .none⟩
  | .bool _, v, r => r.elim
  | .int i, v, r => by obtain ⟨t, rfl⟩ := er_int r; exact ⟨_, .int i t⟩
  | .str x, v, ⟨t, r⟩ => by obtain rfl := er_str r; exact ⟨_, .str x t⟩
  | .list ds, v, ⟨a, vs, e, ha, r⟩ => by
    obtain rfl := er_ref e
    refine Mine.hideG fun GG back => ?_
    obtain ⟨_, ob, ho, us, n, rfl, e'⟩ := o.1.1 a _ ha
    obtain ⟨as, h⟩ := RdAll.reads o ds us (by rw [e']; exact r)
    refine back ?_
    clear back
    exact ⟨_, .list ho rfl rfl (by simpa using h)⟩
  | .tuple ds, v, ⟨a, vs, e, ha, r⟩ => by
    obtain rfl := er_ref e
    refine Mine.hideG fun GG back => ?_
    obtain ⟨_, ob, ho, us, n, rfl, e'⟩ := o.1.1 a _ ha
    obtain ⟨as, h⟩ := RdAll.reads o ds us (by rw [e']; exact r)
    refine back ?_
    clear back
    exact ⟨_, .tuple ho rfl rfl (by simpa using h)⟩
  | .dict _, v, r => r.elim
theorem RdAll.reads {c : Cx} {H : AHeap} {s : Shared} (o : Own c H s) : ∀ (ds : List PyData) (vs : List Value), RdAll H ds (vs.map er) → ∃ as, ReadsAll s.heap vs ds as
  | [], vs, r => by
    have r : vs.map er = [] := r
    have : vs = [] := by simpa using r
    subst this
    exact ⟨_, .nil⟩
  | d :: ds, vs, ⟨v, r, e, h1, h2⟩ => by
    match vs, e with
    | u :: us, e =>
      simp only [List.map_cons, List.cons.injEq] at e
      refine Mine.hideG fun GG back => ?_
      obtain ⟨rfl, rfl⟩ := e
      obtain ⟨as, h1⟩ := Rd.reads o d u h1
      obtain ⟨bs, h2⟩ := RdAll.reads o ds us h2
      refine back ?_
      clear back
      exact ⟨_, .cons h1 h2⟩
end
-- data whose eqv is equality
mutual
noncomputable def good : PyData → Bool
  | .none => true
  | .int _ => true
  | .str x => PyData.strOk x
  | .list ds => goodAll ds
  | .tuple ds => goodAll ds
  | _ => false
noncomputable def goodAll : List PyData → Bool
  | [] => true
  | d :: ds => good d && goodAll ds
end
mutual
theorem eqv_good : ∀ (a b : PyData), good a = true → good b = true → (PyData.eqv a b = true ↔ a = b)
  | .none, b, ha, hb => by cases b <;> simp [PyData.eqv, good] at hb ⊢
  | .int i, b, ha, hb => by cases b <;> simp [PyData.eqv, good] at hb ⊢
  | .str x, b, ha, hb => by cases b <;> simp [PyData.eqv, good] at hb ⊢
  | .list xs, b, ha, hb => by
    cases b with
    | list ys =>
      simp only [good] at ha hb
      simp only [PyData.eqv, PyData.list.injEq]
      exact eqvAll_good xs ys ha hb
    | _ => simp [PyData.eqv, good] at hb ⊢
  | .tuple xs, b, ha, hb => by
    cases b with
    | tuple ys =>
      simp only [good] at ha hb
      simp only [PyData.eqv, PyData.tuple.injEq]
      exact eqvAll_good xs ys ha hb
    | _ => simp [PyData.eqv, good] at hb ⊢
  | .bool _, b, ha, hb => by simp [good] at ha
  | .dict _, b, ha, hb => by simp [good] at ha
theorem eqvAll_good : ∀ (xs ys : List PyData), goodAll xs = true → goodAll ys = true → (PyData.eqvAll xs ys = true ↔ xs = ys)
  | [], [], _, _ => by simp [PyData.eqvAll]
  | [], _ :: _, _, _ => by simp [PyData.eqvAll]
  | _ :: _, [], _, _ => by simp [PyData.eqvAll]
  | x :: xs, y :: ys, ha, hb => by
    simp only [goodAll, Bool.and_eq_true] at ha hb
    simp only [PyData.eqvAll, Bool.and_eq_true, List.cons.injEq]
    exact and_congr (eqv_good x y ha.1 hb.1) (eqvAll_good xs ys ha.2 hb.2)
end
mutual
theorem canLay_good : ∀ (a : PyData), good a = true → a.canLay0 = true
  | .none, h => by simp [PyData.canLay0]
  | .int i, h => by simp [PyData.canLay0]
  | .str x, h => by simpa [PyData.canLay0, good] using h
  | .list xs, h => by
    simp only [good] at h
    simp only [PyData.canLay0]
    exact canLayAll_good xs h
  | .tuple xs, h => by
    simp only [good] at h
    simp only [PyData.canLay0]
    exact canLayAll_good xs h
  | .bool _, h => by simp [good] at h
  | .dict _, h => by simp [good] at h
theorem canLayAll_good : ∀ (xs : List PyData), goodAll xs = true → PyData.canLayAll0 xs = true
  | [], h => by simp [PyData.canLayAll0]
  | x :: xs, h => by
    simp only [goodAll, Bool.and_eq_true] at h
    simp only [PyData.canLayAll0, Bool.and_eq_true]
    exact ⟨canLay_good x h.1, canLayAll_good xs h.2⟩
end
section
variable {k : Wk} {m : Loc} {H : AHeap}
theorem WCmp_eqD {a b : V} {da db : PyData} {r : Bool} {Q : V → Loc → AHeap → Prop} (ha : Rd H da a) (hb : Rd H db b) (ga : good da = true) (gb : good db = true) (dp : min da.depth db.depth ≤ 64) (hu : k.A.units + 64 < cLine) (hr : r = true ↔ da = db) (h : Q (.bool r) m H) : WCmp k .Eq a b m H Q := fun x y hx hy => by
  subst hx; subst hy
  refine W.of_wp fun B s st P hp => ?_
  refine Mine.hideG fun GG back => ?_
  obtain ⟨as, ra⟩ := Rd.reads st.owned da x ha
  obtain ⟨bs, rb⟩ := Rd.reads st.owned db y hb
  refine back ?_
  clear back
  have e : PyData.eqv da db = r := by
    rw [Bool.eq_iff_iff, eqv_good da db ga gb, hr]
  exact SeqAt.compareEq_reads ra rb (canLay_good da ga) (canLay_good db gb) (by lia) (e ▸ hp (.bool r) s.toks h)
theorem WCmp_neD {a b : V} {da db : PyData} {r : Bool} {Q : V → Loc → AHeap → Prop} (ha : Rd H da a) (hb : Rd H db b) (ga : good da = true) (gb : good db = true) (dp : min da.depth db.depth ≤ 64) (hu : k.A.units + 64 < cLine) (hr : r = true ↔ da ≠ db) (h : Q (.bool r) m H) : WCmp k .NotEq a b m H Q := fun x y hx hy => by
  subst hx; subst hy
  refine W.of_wp fun B s st P hp => ?_
  refine Mine.hideG fun GG back => ?_
  obtain ⟨as, ra⟩ := Rd.reads st.owned da x ha
  obtain ⟨bs, rb⟩ := Rd.reads st.owned db y hb
  refine back ?_
  clear back
  have e : (!PyData.eqv da db) = r := by
    rw [Bool.eq_iff_iff, hr, Bool.not_eq_true', Bool.eq_false_iff, ne_eq, eqv_good da db ga gb]
  exact SeqAt.compareNe_reads ra rb (canLay_good da ga) (canLay_good db gb) (by lia) (e ▸ hp (.bool r) s.toks h)
/-! truth -/
theorem WTr_list {a : Addr} {xs : List V} {Q : Bool → Loc → AHeap → Prop} (ha : H a = some (.list xs)) (hz : xs.length < 2 ^ 63) (h : Q (!xs.isEmpty) m H) : WTr k (.ref a) m H Q := fun x hx => by
  obtain rfl := er_ref hx
  refine W.of_wp fun B s st P hp => ?_
  refine Mine.hideG fun GG back => ?_
  obtain ⟨vs, n, hl, rfl⟩ := st.listAt ha
  refine back ?_
  clear back
  rw [List.length_map] at hz
  refine wpAny_truthy_list hl.isList (by simp; lia) ?_
  have e : (!(vs.toArray).isEmpty) = !(vs.map er).isEmpty := by cases vs <;> rfl
  rw [e]; exact hp _ _ h
/-! in a tuple or a list of ints and texts -/
end
end Mine
namespace Mine
theorem excAttr_KeyError : ExcAttrFacts "KeyError" where
  ga := .of (owner := "BaseException") (n := "__getattribute__") (by rw [typeLookup_type, builtinLookup_eq_fast]; kernel_rfl) (by decide +kernel) (by decide +kernel) (by decide +kernel)
    (by first | exact .inl (by decide +kernel) | exact .inr (by decide +kernel)) (by rw [isSubtype_type]; kernel_rfl)
  lkArgs := by rw [typeLookup_type, builtinLookup_eq_fast]; kernel_rfl
  sub := by rw [isSubtype_type]; kernel_rfl
theorem sub_key_key : isSubtype (.type "KeyError") (.type "KeyError") = pure true := by rw [isSubtype_type]; kernel_rfl
section
variable {k : Wk} {m : Loc} {H : AHeap}
theorem not_interactive (k : Wk) : interactive k.env = false := by unfold interactive; rw [k.kind]; rfl
theorem W_ExprStmt {e : Expr} {pos : Pos} {Q : Flow → Loc → AHeap → Prop} (h : WV k (eval e k.env) m H fun _ m1 H1 => Q .next m1 H1)
    (hs : swapsWith e none pos.line k.env = pure false := by rfl) : W k (exec (.Expr e pos) k.env) m H Q := W_Expr h (not_interactive k) hs
theorem W_getArgs {n : Str} {np pos : Pos} {e t : Addr} {cls : String} {Q : V → Loc → AHeap → Prop} (FX : ExcAttrFacts cls) (hn : m n = some (.ref e)) (he : H e = some (.exc cls (some t))) (h : Q (.ref t) m H)
    (hdb : (n == ("__debug__" : Str)) = false := by decide) (hcd : (n == ("__classdict__" : Str)) = false := by decide) : WV k (eval (.Attribute (.Name n np) ("args" : Str) pos) k.env) m H Q := fun B s st =>
  Attribute_name (wpAny_mono (W_Name (Q := fun v m' H' => v = .ref e ∧ m' = m ∧ H' = H) hn ⟨rfl, rfl, rfl⟩ hdb hcd B s st) (fun ov s1 hx1 => by
    refine Mine.hideG fun GG back => ?_
    obtain ⟨m1, H1, st1, e1, e2, e3⟩ := hx1
    refine back ?_
    clear back
    subst e2; subst e3
    obtain rfl := er_ref e1
    obtain ⟨ob, ho, _, hc, vs, hd, ha⟩ := st1.own e _ he
    obtain ⟨hh, g, d, tt, os⟩ := s1
    exact args_attr FX ho hc hd (ha t rfl) ⟨m1, H1, st1.toks _ (Nat.le_succ_of_le st1.tk), h⟩) fun _ _ y => y)
/-! dict displays -/
end
end Mine
namespace Mine
noncomputable def fnBody : Stmt → List Stmt
  | .FunctionDef _ _ body _ _ _ _ _ _ _ => body
  | .ClassDef _ _ _ body _ _ _ _ _ _ _ => body
  | _ => []
noncomputable def fnParams : Stmt → Arguments
  | .FunctionDef _ a _ _ _ _ _ _ _ _ => a
  | _ => default
noncomputable def fnScope : Stmt → Scope
  | .FunctionDef _ _ _ _ _ _ sc _ _ _ => sc
  | _ => default
noncomputable def stm (l : List Stmt) (i : Nat) : Stmt := l.getD i (.Pass default)
noncomputable def RQ (P : V → AHeap → Prop) : Flow → Loc → AHeap → Prop := fun fl _ H => P (flowV fl) H
structure Room (A : Around) : Prop where
  depth : A.depth ≤ 600
  units : A.units ≤ 2000
  handled : A.handled = none
structure DefAt (c : Cx) (f : Addr) (st : Stmt) : Prop where
  at_ : ∃ fd, FnAt c f fd (fnBody st) ∧ fd.scope = fnScope st ∧ fd.params = fnParams st ∧ fd.defaults = .none ∧ fd.kwdefaults = .none
structure InFn (c : Cx) (A : Around) (st : Stmt) (X : String → Option (List V) → AHeap → Prop) (k : Wk) : Prop where
  c : k.c = c
  sv : SEnv k (fnScope st) (cellNames (fnScope st).names)
  frame : k.env.frame = some k.env.locals
  depth : k.A.depth = A.depth + 1
  units : k.A.units = A.units + 3
  handled : k.A.handled = A.handled
  X : k.X = fun cls xs _ H => X cls xs H
  here : k.here
theorem FnV.top {c : Cx} {A : Around} {f : Addr} {st : Stmt} {vs : List V} {H : AHeap} {Q : V → AHeap → Prop} {X : String → Option (List V) → AHeap → Prop} (F : DefAt c f st) (hA : Room A) (names : List Str) (hl : vs.length = names.length)
    (hb : ∀ (fd : FuncData) (rvs : List Value), fd.params = fnParams st → fd.defaults = .none → fd.kwdefaults = .none → rvs.length = names.length → bindArgs fd ⟨rvs, []⟩ = pure (names.zip rvs))
    (hk : (names.all fun y => (fnScope st).names.lookup y == some .local || (fnScope st).names.lookup y == some .cell) = true)
    (h : ∀ k, InFn c A st X k → W k (execs (fnBody st) k.env) (bindM (names.zip vs) noLoc) H (RQ Q)) : FnV c A f vs [] H Q X := fun rvs rkw e1 e2 => by
  refine Mine.hideG fun GG back => ?_
  obtain ⟨fd, F1, F2, F3, F4, F5⟩ := F.at_
  refine back ?_
  clear back
  have e2 : rkw = [] := by simpa using e2
  subst e2
  have hlen : rvs.length = names.length := by rw [← e1, List.length_map] at hl; exact hl
  refine Fn.of_body F1 (Nat.lt_of_le_of_lt hA.depth (by decide)) (binds := names.zip rvs) (fun s _ => BindsTo.of_eq (hb fd rvs F3 F4 F5 hlen)) ?_ fun k hk' => ?_
  · rw [F2, List.all_eq_true]
    intro y hy
    exact List.all_eq_true.mp hk y.1 (List.of_mem_zip hy).1
  · have := h k ⟨hk'.c, ⟨hk'.sc.trans F2, hk'.cn.trans (by rw [F2])⟩, hk'.frame, hk'.depth, hk'.units, hk'.handled, hk'.X, hk'.here⟩
    have e : (names.zip rvs).map (fun b => (b.1, er b.2)) = names.zip vs := by
      rw [← e1, List.zip_map_right]
      rfl
    rw [e]
    exact this
section
variable {k : Wk} {m : Loc} {H : AHeap}
theorem Roomy.of {sc : Scope} {cn : List Str} [I : SEnv k sc cn] (hf : k.env.frame = some k.env.locals) (hd : k.A.depth ≤ 700) (imp : importsNone k.c.p = true) (tree : k.c.prog.given.tree = none) (h1 : sc.isGenerator = false) (h2 : sc.isCoroutine = false) : Roomy k := by
  refine ⟨Nat.lt_of_le_of_lt (Nat.add_le_add_right hd _) (by decide), imp, tree, k.env, k.o.fs, ?_, by rw [I.sc]; exact h1, by rw [I.sc]; exact h2, k.blt, k.glob⟩
  rw [k.frames]
  exact congrArg some (if_pos hf)
theorem W_Return' {e : Expr} {pos : Pos} {Q : Flow → Loc → AHeap → Prop} (h : WV k (eval e k.env) m H fun v m1 H1 => ∀ u, er u = v → Q (.ret u) m1 H1) : W k (exec (.Return (some e) pos) k.env) m H Q :=
  W_Return (W.mono h fun v m1 H1 q => q v rfl)
theorem RQ_ret {P : V → AHeap → Prop} {v : V} {u : Value} (e : er u = v) (h : P v H) : RQ P (.ret u) m H := by
  show P (er u) H
  rw [e]; exact h
end
noncomputable def contQ (k : Wk) (r : List Stmt) (Q : Flow → Loc → AHeap → Prop) : Flow → Loc → AHeap → Prop := fun f m1 H1 => match f with | .next => W k (execs r k.env) m1 H1 Q | f => Q f m1 H1
section
variable {k : Wk} {m : Loc} {H : AHeap} {r : List Stmt} {Q : Flow → Loc → AHeap → Prop}
theorem W_cons' {st : Stmt} (h : W k (exec st k.env) m H (contQ k r Q)) : W k (execs (st :: r) k.env) m H Q := W_cons h
theorem contQ_next (h : W k (execs r k.env) m H Q) : contQ k r Q .next m H := h
theorem contQ_ret {u : Value} (h : Q (.ret u) m H) : contQ k r Q (.ret u) m H := h
variable {I : Loc → AHeap → Prop}
theorem loopQ_next (h : I m H) : loopQ k Q I .next m H := h
theorem loopQ_ret {u : Value} (h : Q (.ret u) m H) : loopQ k Q I (.ret u) m H := h
theorem RQ_next {P : V → AHeap → Prop} (h : P .none H) : RQ P .next m H := h
theorem ite_dec {p : Prop} [Decidable p] {a b : Prop} (h1 : p → a) (h2 : ¬ p → b) : if decide p = true then a else b := by
  by_cases h : p
  · rw [if_pos (by simpa using h)]; exact h1 h
  · rw [if_neg (by simpa using h)]; exact h2 h
end
theorem WV_cut {k : Wk} {m : Loc} {H : AHeap} {t : Sem Value} {Q : V → Loc → AHeap → Prop} (P : V → Loc → AHeap → Prop) (h1 : WV k t m H P) (h2 : ∀ v m1 H1, P v m1 H1 → Q v m1 H1) : WV k t m H Q := W.mono h1 fun v => h2 _
theorem W_cut {α : Type} {k : Wk} {m : Loc} {H : AHeap} {t : Sem α} {Q : α → Loc → AHeap → Prop} (P : α → Loc → AHeap → Prop) (h1 : W k t m H P) (h2 : ∀ v m1 H1, P v m1 H1 → Q v m1 H1) : W k t m H Q := W.mono h1 h2
noncomputable def MethOn (c : Cx) (H : AHeap) (T : String) (ov : V) : Prop := ∃ a y, ov = .ref a ∧ H a = some y ∧ ∀ ob, IsObj c ob y → ob.cls = .type T ∧ ob.dict = none
theorem onList {c : Cx} {H : AHeap} {a : Addr} {xs : List V} (h : H a = some (.list xs)) : MethOn c H "list" (.ref a) := ⟨a, _, rfl, h, isList_cls⟩
theorem onDict {c : Cx} {H : AHeap} {a : Addr} {kvs : List (Key × V)} {ep : Nat} (h : H a = some (.dict kvs ep)) : MethOn c H "dict" (.ref a) := ⟨a, _, rfl, h, isDict_cls⟩
section
variable {k : Wk} {m : Loc} {H : AHeap}
theorem W_CallM' {o : Expr} {name : Str} {apos pos : Pos} {args : List Expr} {T id : String} {Q : V → Loc → AHeap → Prop}
    (pa : PlainAttrs T) (slot : Slot T name id) (hty : typeOf (.builtin id) = pure (.type "method_descriptor"))
    (h : WV k (eval o k.env) m H fun ov m1 H1 => MethOn k.c H1 T ov ∧ WItems k args m1 H1 fun vs m2 H2 => WCall k (.builtin id) (ov :: vs) m2 H2 Q)
    (hbase : attributeBase o name k.env (eval o k.env) = eval o k.env := by rfl)
    (hfew : ((backTo pos (starEach args k.env)).all (fun x => !x.1) && (backToKw pos (keywordEach [] k.env)).all (fun x => x.1.isSome)
      && decide (args.length + ([] : List Keyword).length + (if ([] : List Keyword).isEmpty then 0 else 1) < 30)) = true := by rfl)
    (hline : (apos.endLine == pos.line) = true := by rfl) (hp : (starEach args k.env).any (·.1) = false := by rfl) (hp' : (backTo pos (starEach args k.env)).any (·.1) = false := by rfl) :
    WV k (eval (.Call (.Attribute o name apos) args [] pos) k.env) m H Q :=
  W_CallM pa slot hty (W.mono h fun v m1 H1 ⟨⟨a, y, e, h1, h2⟩, q⟩ => ⟨a, y, e, h1, h2, q⟩) hbase hfew hline hp hp'
theorem WAsL_nil {Q : Loc → AHeap → Prop} (h : Q m H) : WAsL k [] [] m H Q := h
theorem WAsL_cons {t : Expr} {ts : List Expr} {v : V} {vs : List V} {Q : Loc → AHeap → Prop} (h : WAs k t v m H fun m1 H1 => WAsL k ts vs m1 H1 Q) : WAsL k (t :: ts) (v :: vs) m H Q := h
end
theorem lenS {α : Type} {l : List α} {n : Nat} (h : l.length = n + 1) : ∃ x r, l = x :: r ∧ r.length = n := by
  cases l with
  | nil => cases h
  | cons x r => exact ⟨x, r, rfl, Nat.succ.inj h⟩
theorem len1 {α : Type} {l : List α} (h : l.length = 1) : ∃ x, l = [x] := by
  obtain ⟨x, r, rfl, hr⟩ := lenS h
  cases r with
  | nil => exact ⟨x, rfl⟩
  | cons a b => cases hr
theorem len2 {α : Type} {l : List α} (h : l.length = 2) : ∃ x y, l = [x, y] := by
  obtain ⟨x, r, rfl, hr⟩ := lenS h
  obtain ⟨y, rfl⟩ := len1 hr
  exact ⟨x, y, rfl⟩
theorem len3 {α : Type} {l : List α} (h : l.length = 3) : ∃ x y z, l = [x, y, z] := by
  obtain ⟨x, r, rfl, hr⟩ := lenS h
  obtain ⟨y, z, rfl⟩ := len2 hr
  exact ⟨x, y, z, rfl⟩
end Mine
namespace Mine
theorem BindsTo.of_kw {α β : Type} {s : Shared} {fd : FuncData} {args : Args} {binds : List (Str × Value)} {d : Addr} {n : Str} {v : Value} {mk : Str → Option Value}
    {k1 : Option Value → Sem α} {k2 : α → Sem β} {k3 : β → Sem (List (Str × Value))} (hn : s.heap.Ns d mk) (hv : mk n = some v) (h₁ : bindArgs fd args = ((nsGet d n >>= k1) >>= k2) >>= k3) (h₂ : (k1 (some v) >>= k2) >>= k3 = pure binds) : BindsTo s fd args binds :=
  fun _ _ _ _ hq => by
    rw [h₁, bind_assoc, bind_assoc]
    refine wpAny_bind (wpAny_nsGet hn ?_)
    rw [hv, ← bind_assoc, h₂]
    exact wpAny_pure hq
noncomputable def nestMsg : Str := "There is no nest behind this key"
noncomputable def isDict (H : AHeap) : V → Bool
  | .ref a => match H a with
    | some (.dict _ _) => true
    | _ => false
  | _ => false
noncomputable def lastOf (acc : Bool) (H : AHeap) : V → Option V
  | .ref a => match H a, acc with
    | some (.list xs), true => xs.getLast?
    | _, _ => some (.ref a)
  | v => some v
noncomputable def Gw (acc : Bool) (Q : Addr → AHeap → Prop) (X : String → Option (List V) → AHeap → Prop) : List Str → Addr → AHeap → Prop
  | [], cont, H => Q cont H
  | x :: r, cont, H => ∃ kvs ep, H cont = some (.dict kvs ep) ∧ kvs.length < sizeLine ∧ match getK kvs (.inr x) with
    | none => ∀ d, H d = none → Gw acc Q X r d (upd (upd H d (.dict [] 0)) cont (.dict (kvs ++ [(.inr x, .ref d)]) (ep + 1)))
    | some v => tyOf H v ≠ none ∧ (∀ a xs, v = .ref a → H a = some (.list xs) → xs.length < 2 ^ 62) ∧ match lastOf acc H v with
      | none => X "IndexError" none H
      | some w => tyOf H w ≠ none ∧ if isDict H w = true then ∃ d, w = .ref d ∧ Gw acc Q X r d H else ∀ t, X "KeyError" (some [.str nestMsg t]) H
structure NestAt (c : Cx) (C fI fG fA : Addr) (cls : Stmt) : Prop where
  kls : ClsAt c C fI
  mG : MethAt c C "get_or_create_nest" fG
  mA : MethAt c C "append_nest_to_list" fA
  init : DefAt c fI (stm (fnBody cls) 0)
  app : DefAt c fA (stm (fnBody cls) 2)
  get : ∃ fd, FnAt c fG fd (fnBody (stm (fnBody cls) 1)) ∧ fd.scope = fnScope (stm (fnBody cls) 1) ∧ fd.params = fnParams (stm (fnBody cls) 1) ∧ fd.defaults = .none ∧
    ∃ d mk, fd.kwdefaults = .ref d ∧ c.base.Ns d mk ∧ mk "access_lists" = some (.bool true)
theorem tyOf_cases {H : AHeap} {v : V} (h : tyOf H v ≠ none) : (∃ i, v = .int i) ∨ (∃ x t, v = .str x t) ∨ (∃ a xs, v = .ref a ∧ H a = some (.list xs)) ∨ (∃ a xs, v = .ref a ∧ H a = some (.tup xs)) ∨ ∃ a kvs ep, v = .ref a ∧ H a = some (.dict kvs ep) := by
  cases v with
  | int i => exact .inl ⟨i, rfl⟩
  | str x t => exact .inr (.inl ⟨x, t, rfl⟩)
  | ref a =>
    simp only [tyOf] at h
    split at h
    · rename_i xs e; exact .inr (.inr (.inl ⟨a, xs, rfl, e⟩))
    · rename_i xs e; exact .inr (.inr (.inr (.inl ⟨a, xs, rfl, e⟩)))
    · rename_i kvs ep e; exact .inr (.inr (.inr (.inr ⟨a, kvs, ep, rfl, e⟩)))
    · exact absurd rfl h
  | _ => exact absurd rfl h
theorem getK_append_new {kvs : List (Key × V)} {k : Key} {v : V} (h : getK kvs k = none) : getK (kvs ++ [(k, v)]) k = some v := by
  induction kvs with
  | nil => simp [getK]
  | cons p r ih =>
    obtain ⟨k', w⟩ := p
    unfold getK at h
    split at h
    · cases h
    · rename_i hne
      show (if k' = k then some w else getK (r ++ [(k, v)]) k) = some v
      rw [if_neg hne]; exact ih h
theorem iteT {a b : Prop} (h : a) : if true = true then a else b := by rw [if_pos rfl]; exact h
theorem iteF {a b : Prop} (h : b) : if false = true then a else b := by rw [if_neg Bool.false_ne_true]; exact h
theorem iteNT {a b : Prop} (h : b) : if (!true) = true then a else b := by rw [if_neg (by simp)]; exact h
theorem iteNF {a b : Prop} (h : a) : if (!false) = true then a else b := by rw [if_pos (by simp)]; exact h
theorem W_allTrue_nilA {k : Wk} {m : Loc} {H : AHeap} {Q : Bool → Loc → AHeap → Prop} (h : Q true m H) : W k (allTrue .And [] k.env) m H Q := W_allTrue_nil h
theorem W_allTrue_nilO {k : Wk} {m : Loc} {H : AHeap} {Q : Bool → Loc → AHeap → Prop} (h : Q false m H) : W k (allTrue .Or [] k.env) m H Q := W_allTrue_nil h
theorem WCall_isi {k : Wk} {m : Loc} {H : AHeap} {v : V} {T : String} {Q : V → Loc → AHeap → Prop} (hv : tyOf H v ≠ none) (hT : T ∈ ["list", "dict", "str"]) (h : Q (.bool (decide (tyOf H v = some T))) m H) : WCall k (.builtin "isinstance") [v, .ty T] m H Q := by
  obtain ⟨Tx, hTx⟩ := Option.ne_none_iff_exists'.mp hv
  refine WCall_isinst hTx ?_ hT ?_
  · rcases tyOf_cases hv with ⟨i, rfl⟩ | ⟨x, t, rfl⟩ | ⟨a, xs, rfl, e⟩ | ⟨a, xs, rfl, e⟩ | ⟨a, kvs, ep, rfl, e⟩ <;> simp [tyOf] at hTx <;> first | (subst hTx; simp) | (rw [e] at hTx; simp at hTx; subst hTx; simp)
  · have e : decide (tyOf H v = some T) = decide (Tx = T) := by rw [hTx]; simp
    rw [← e]; exact h
end Mine
namespace Mine
section
variable {k : Wk} {m : Loc} {H : AHeap}
theorem W_CallMethKw {o e ke : Expr} {es : List Expr} {name n : Str} {apos pos kp : Pos} {C f : Addr} {fd : FuncData} {body : List Stmt} {pl : Sem Bool} {Q : V → Loc → AHeap → Prop} (hM : MethAt k.c C name f) (hF : FnAt k.c f fd body)
    (h : WV k (eval o k.env) m H fun ov m1 H1 => ∃ x dx v, ov = .ref x ∧ H1 x = some (.inst C dx) ∧ H1 dx = some (.attrs v) ∧ WItems k (e :: es) m1 H1 fun vs m2 H2 => WV k (eval ke k.env) m2 H2 fun kv m3 H3 => FnV k.c k.A f (.ref x :: vs) [(n, kv)] H3 (fun r H' => Q r m3 H') fun a b H' => k.X a b m3 H')
    (he : eval (.Call (.Attribute o name apos) (e :: es) [⟨some n, ke, kp⟩] pos) k.env = (do
      let ov ← eval o k.env
      standAt apos.atName
      let (f, first) ← holding [ov] (getMethod ov name pl)
      callWith pos f first (backTo pos (starEach (e :: es) k.env)) (backToKw pos (keywordEach [⟨some n, ke, kp⟩] k.env))) := by rfl)
    (hplain : ((backTo pos (starEach (e :: es) k.env)).any (·.1) || (backToKw pos (keywordEach [⟨some n, ke, kp⟩] k.env)).any (·.1.isNone)) = false := by rfl) (hs : starEach (e :: es) k.env = (false, eval e k.env) :: starEach es k.env := by rfl) :
    WV k (eval (.Call (.Attribute o name apos) (e :: es) [⟨some n, ke, kp⟩] pos) k.env) m H Q := fun B s st => by
  rw [he]
  refine wpAny_bind (wpAny_mono (h B s st) (fun ov s1 q => wpAny_bind (wpAny_standAt (wpAny_bind (wpAny_holding ?_)))) fun _ _ y => y)
  refine Mine.hideG fun GG back => ?_
  obtain ⟨m1, H1, st1, x, dx, v, e, hx, hdx, q⟩ := q
  refine back ?_
  clear back
  obtain rfl := er_ref e
  refine Mine.hideG fun GG back => ?_
  obtain ⟨cnt, t, u, I, rfl⟩ := inst_at st1 hx hdx
  obtain ⟨mv, F⟩ := st1.fr
  refine back ?_
  clear back
  refine method_inst F k.c.inK I hM.get hM.find hM.fn ?_ ?_
  · unfold getL
    have hs : Value.isStr (.str ("dict" : Str) t) name = false := by
      show (("dict" : Str) == name) = false
      exact hM.other
    simp [hs, DictEntry.refKey]
  · refine callWith_KW (K := k.c.K) (h₀ := k.c.base) k.c.inK hM.keep (by rfl) (wpAny_mono (q pos B s1 st1) (fun vs s2 ⟨m2, H2, st2, q2⟩ => ?_) fun _ _ y => y) hplain hs
    refine kwAll_cons (wpAny_mono (q2 B s2 st2) (fun kv s3 ⟨m3, H3, st3, q3⟩ => ?_) fun _ _ y => y)
    refine kwAll_nil ⟨k.c.inK.keeps st3.base, ?_⟩
    exact W_callF (q3 (.ref x :: vs) [(n, kv)] rfl rfl) B s3 st3
end
theorem upd_none {β : Type} {f : Addr → Option β} {a b : Addr} {x : β} (h : b ≠ a) (e : f b = none) : upd f a x b = none := by simp [upd, h, e]
end Mine
namespace Mine
theorem rangeN_up (n : Nat) : rangeN 0 n 1 = n := by
  unfold rangeN Builtin.Range.rangeSize
  rw [if_pos (by decide)]
  by_cases h : (0 : Int) < n
  · rw [if_pos h]; lia
  · rw [if_neg h]; lia
theorem small_up {n : Nat} (h : n < 2 ^ 60) : Builtin.Range.small 0 n 1 = true := small_one (by decide) (by decide) (by lia) (by lia)
noncomputable def ExtBut (D : Addr) (H H' : AHeap) : Prop := ∀ b y, b ≠ D → H b = some y → H' b = some y
theorem ExtBut.of {D : Addr} {H H' : AHeap} (h : Ext H H') : ExtBut D H H' := fun b y _ e => h b y e
theorem ExtBut.trans {D : Addr} {H H' H'' : AHeap} (h : ExtBut D H H') (h' : ExtBut D H' H'') : ExtBut D H H'' := fun b y n e => h' b y n (h b y n e)
theorem ExtBut.put {D : Addr} {H H' : AHeap} {y : AObj} (h : ExtBut D H H') : ExtBut D H (upd H' D y) := fun b z n e => upd_ne n (h b z n e)
end Mine
namespace Mine
noncomputable def BaseL (c : Cx) (a : Addr) (xs : List V) : Prop := ∃ vs : List Value, c.base.IsList a vs.toArray ∧ vs.map er = xs
section
variable {k : Wk} {m : Loc} {H : AHeap}
theorem isList_stays {h h' : Heap} {a : Addr} {xs : Array Value} (hs : h.StaysIn h') (x : h.IsList a xs) : h'.IsList a xs := by
  refine Mine.hideG fun GG back => ?_
  obtain ⟨o, e1, e2, n, e3⟩ := x
  refine back ?_
  clear back
  exact ⟨o, hs a o e1, e2, n, e3⟩
theorem WCall_lenB {a : Addr} {xs : List V} {Q : V → Loc → AHeap → Prop} (ha : BaseL k.c a xs) (hz : xs.length < 2 ^ 63) (h : Q (.int xs.length) m H) : WCall k (.builtin "len") [.ref a] m H Q := fun vs e => by
  refine Mine.hideG fun GG back => ?_
  obtain ⟨x, rfl, e'⟩ := map_er1 e
  refine back ?_
  clear back
  obtain rfl := er_ref e'
  refine W.of_wp fun B s st P hp => ?_
  refine Mine.hideG fun GG back => ?_
  obtain ⟨vs, hl, rfl⟩ := ha
  refine back ?_
  clear back
  rw [List.length_map] at h hz
  exact call_len_list (isList_stays st.base hl) (by simp; lia) (by simpa using hp (.int vs.length (s.toks + 1)) (s.toks + 2) h)
end
/-! a place put aside -/
noncomputable def delA (p : Addr) (H : AHeap) : AHeap := fun b => if b = p then none else H b
theorem W_frame {α : Type} {k : Wk} {t : Sem α} {m : Loc} {H : AHeap} {p : Addr} {x : AObj} {Q : α → Loc → AHeap → Prop} (hx : H p = some x) (h : W k t m (delA p H) (fun v m' H' => H' p = none → Q v m' (upd H' p x))) : W k t m H Q := by
  intro B s st
  refine Mine.hideG fun GG back => ?_
  obtain ⟨ob, ho, hI⟩ := st.own p x hx
  refine back ?_
  clear back
  have hB := st.disB p x hx
  have hbase := st.disBase p x hx
  have delS : ∀ {a y}, delA p H a = some y → a ≠ p ∧ H a = some y := fun {a y} e => by
    unfold delA at e
    split at e
    · cases e
    · rename_i n; exact ⟨n, e⟩
  have st' : St k.c k.o k.env (upd B p (ob, false)) m (delA p H) s := by
    refine ⟨st.base, fun a ob' l e => ?_, fun a y e => st.own a y (delS e).2, fun a y e => ?_, fun a y e => st.disBase a y (delS e).2, fun a q => ?_, st.nodup, st.cell, st.var, ⟨fun e he => ?_, fun a y e => upd_fresh hB (st.frames.2 a y e)⟩, st.gens, st.os, st.tk⟩
    · rcases upd_some e with ⟨rfl, e'⟩ | ⟨ne, e⟩
      · injection e' with e1 e2; subst e1; exact ⟨ob.slots, ho, fun _ => rfl⟩
      · exact st.keep a ob' l e
    · exact upd_none (delS e).1 (st.disB a y (delS e).2)
    · refine Mine.hideG fun GG back => ?_
      obtain ⟨e1, e2, e3⟩ := st.pl a q
      refine back ?_
      clear back
      have hne : a ≠ p := fun z => by rw [z, hx] at e1; cases e1
      exact ⟨by unfold delA; rw [if_neg hne]; exact e1, upd_none hne e2, e3⟩
    · refine Mine.hideG fun GG back => ?_
      obtain ⟨k1, L, ob', k2, k3, k4, k5⟩ := st.frames.1 e he
      refine back ?_
      clear back
      exact ⟨k1, L, ob', k2, upd_fresh hB k3, k4, k5⟩
  refine wpAny_mono (h _ s st') (fun v s' ⟨m', H', st2, q⟩ => ?_) fun _ _ e => e
  have hn : H' p = none := by
    cases e : H' p with
    | none => rfl
    | some y => have := st2.disB p y e; rw [upd_same] at this; cases this
  have np : ∀ {a}, upd B p (ob, false) a = none → a ≠ p ∧ B a = none := fun {a} e => by
    by_cases q : a = p
    · rw [q, upd_same] at e; cases e
    · refine ⟨q, ?_⟩
      unfold upd at e
      rw [if_neg q] at e; exact e
  refine ⟨m', upd H' p x, ⟨st2.base, fun a ob' l e => st2.keep a ob' l (upd_fresh hB e), fun a y e => ?_, fun a y e => ?_, fun a y e => ?_, fun a z => ?_, st2.nodup, st2.cell, st2.var, st.frames, st2.gens, st2.os, st2.tk⟩, q hn⟩
  · rcases upd_some e with ⟨rfl, rfl⟩ | ⟨ne, e⟩
    · refine Mine.hideG fun GG back => ?_
      obtain ⟨sl, e1, e2⟩ := st2.keep a ob false upd_same
      refine back ?_
      clear back
      rw [e2 rfl] at e1
      exact ⟨ob, e1, hI⟩
    · exact st2.own a y e
  · rcases upd_some e with ⟨rfl, rfl⟩ | ⟨ne, e⟩
    · exact hB
    · exact (np (st2.disB a y e)).2
  · rcases upd_some e with ⟨rfl, rfl⟩ | ⟨ne, e⟩
    · exact hbase
    · exact st2.disBase a y e
  · refine Mine.hideG fun GG back => ?_
    obtain ⟨e1, e2, e3⟩ := st2.pl a z
    refine back ?_
    clear back
    exact ⟨upd_none (np e2).1 e1, (np e2).2, e3⟩
end Mine
namespace Mine
theorem good_law {l : OpenLaw} {cl : Str → Option Addr} {mean : ExcName → Option Value} {args : List WData} {s₁ s' : Shared} {v : Value} (hv : v = .bool true) (hk : ∀ b o, s₁.heap.get? b = some o → s'.heap.get? b = some o) (hos : s'.os = s₁.os) (hg : s'.gens = #[]) :
    GoodW l.row.toRowW.claim cl mean args s₁ (.ok (.ret v)) s' := by
  subst hv
  exact ⟨.inl ⟨.bool true, .bool true, [], rfl, fun _ => rfl, .bool true, by show (WShape.has [] (.bool true) .bool && WTm.holds [] (.eq .res (.lit (.bool true))) { args := args, res := some (.bool true), after := args }) = true; (simp [WShape.has, WShape.arms, WTm.holds, WTm.value]; rw [show same (WData.bool true) (WData.bool true) = true by decide +kernel]), fun _ => ⟨List.nodup_nil, fun _ h => by cases h⟩⟩, hk, hos, hg⟩
end Mine
namespace Mine
theorem fnAt_K {c : Cx} {f : Addr} {st : Stmt} {name qual : Str} {doc pm cdv ct oc dV kV : Value} {an od : Option Addr} {osl : Array (Option Value)} (ho : c.K.lookup f = some ⟨oc, od, .func (fnOf name qual (fnParams st) (fnBody st) (fnScope st) dV kV doc pm an cdv ct), osl⟩)
    (hcd : codeIn c.K cdv qual = true) (hk : (fnScope st).kind = .function) (hc : (fnScope st).isCoroutine = false) (hg : (fnScope st).isGenerator = false) (hn : ((fnScope st).names.map (·.1)).Nodup) : FnAt c f (fnOf name qual (fnParams st) (fnBody st) (fnScope st) dV kV doc pm an cdv ct) (fnBody st) where
  obj := ⟨_, c.inK _ _ ho, rfl⟩
  code := codeRec_of c.inK hcd
  body := rfl
  kind := hk
  co := hc
  gen := hg
  glob := rfl
  blt := rfl
  clo := rfl
  names := hn
theorem defAt_K {c : Cx} {f : Addr} {st : Stmt} {name qual : Str} {doc pm cdv ct oc : Value} {an od : Option Addr} {osl : Array (Option Value)} (ho : c.K.lookup f = some ⟨oc, od, .func (fnOf name qual (fnParams st) (fnBody st) (fnScope st) .none .none doc pm an cdv ct), osl⟩)
    (hcd : codeIn c.K cdv qual = true) (hk : (fnScope st).kind = .function) (hc : (fnScope st).isCoroutine = false) (hg : (fnScope st).isGenerator = false) (hn : ((fnScope st).names.map (·.1)).Nodup) : DefAt c f st :=
  ⟨⟨_, fnAt_K ho hcd hk hc hg hn, rfl, rfl, rfl, rfl⟩⟩
theorem ns_at {K : Frag} {h : Heap} {N : Addr} {mk : Str → Option Value} {n : Str} {v : Value} (X : K.In h) (G : h.Ns N mk) (e : nsIn K N n = some (some v)) : mk n = some v := by
  refine Mine.hideG fun GG back => ?_
  obtain ⟨o, es, ep, ho, hd, _, hf⟩ := G
  refine back ?_
  clear back
  unfold nsIn at e
  split at e
  · rename_i cc d es' n' sl q
    have q' := X _ _ q
    rw [ho] at q'
    cases q'
    cases hd
    split at e
    · rename_i en he
      cases e
      rw [← hf]
      unfold nsFind findBy
      rw [← Array.find?_toList, he]
      rfl
    · split at e <;> cases e
  · cases e
theorem gl_K {c : Cx} {x : Str} {v : Value} (e : nsIn c.K mainGlobals x = some (some v)) : Gl c x v := .inl (mg_of c.inK c.top.g e)
theorem gl_B {c : Cx} {x : Str} {v : Value} (e : nsIn c.K mainGlobals x = some none) (hv : bootBuiltins x = some v) (hn : x ≠ "__name__") : Gl c x v := .inr ⟨mg_none_of c.inK c.top.g e, (c.top.builtins x hn).trans hv⟩
theorem intsAre_er : ∀ {vals : List Value} {ns : List Int}, IntsAre vals ns → vals.map er = ns.map .int := fun {vals ns} h => by
  induction h with
  | nil => rfl
  | cons h => simp [er]; assumption
end Mine
namespace Mine
section
variable {c : Cx} {A : Around} {E : Value → Shared → Prop} {s : Shared}
theorem dictSetDefault_at {d : Addr} {rvs : List (Key × Value)} {ep : Nat} {k : Key} {key v : Value} {Q : Value → Shared → Prop} (hkey : isKey k key = true) (hm : s.heap.DictAt (mix c.prog c.w) d rvs ep)
    (h1 : ∀ u, valueAt rvs k = some u → Q u { s with toks := s.toks + 1 })
    (h2 : valueAt rvs k = none → ∀ h', h'.DictAt (mix c.prog c.w) d (rvs ++ [(k, v)]) (ep + 1) → Heap.SameBut d s.heap h' → Q v { s with heap := h', toks := s.toks + 1 })
    (hsz : rvs.length ≤ sizeLine) : wpAny (model c.prog c.w) A (dictSetDefault d key v) Q E s := by
  obtain ⟨o, es, ho, hc, hd, hk, hp, hn⟩ := hm
  have hes : es.size ≤ sizeLine := by
    have e1 := hp.length
    have e2 : es.toList.length = es.size := by simp
    lia
  have hkey' : (mix c.prog c.w).is k key = true := hkey
  unfold dictSetDefault
  try with_reducible refine wpAny_holding ?_
  refine wpAny_bind ((mix c.prog c.w).pyHash hkey' ?_)
  refine wpAny_bind (wpAny_dictFind_of (s := { s with toks := s.toks + 1 }) hkey' ho hd hk ?_)
  have hidx : (es.findIdx? fun e => (mix c.prog c.w).is k e.key) = rvs.findIdx? fun kv => decide (kv.1 = k) := by
    rw [← hp.findIdx k]; obtain ⟨l⟩ := es; simp
  cases hi : es.findIdx? fun e => (mix c.prog c.w).is k e.key with
  | some i =>
    have hl : (es.toList.findIdx? fun e => (mix c.prog c.w).is k e.key) = some i := by rw [← hi]; obtain ⟨l⟩ := es; simp
    obtain ⟨e, he, hek, hev⟩ := hp.at hl
    refine wpAny_bind (wpAny_dictEntries (s := { s with toks := s.toks + 1 }) ho hd ?_)
    rw [show es[i]? = some e by rw [← Array.getElem?_toList]; exact he]
    exact wpAny_bind (wpAny_rule (wpAny_pure (h1 e.val hev)))
  | none =>
    have hnot : k ∉ rvs.map (·.1) := not_mem_of_findIdx_none (hidx ▸ hi)
    have hv : valueAt rvs k = none := by
      rw [← hp.find k]
      have : (es.toList.find? fun e => (mix c.prog c.w).is k e.key) = none := by
        rw [List.find?_eq_none]
        intro e he
        have := Array.findIdx?_eq_none_iff.mp hi e (Array.mem_toList_iff.mp he)
        simpa using this
      rw [this]; rfl
    refine wpAny_bind (wpAny_rule (wpAny_bind (wpAny_updateDictKeys (hz := hes) (s := { s with toks := s.toks + 1 }) ho hd (wpAny_pure (h2 hv _ ⟨_, _, Heap.get?_update_self _ ho (Obj.isFreed_of_dict (Obj.data_mapDictKeys hd _)),
      hc.mapDictKeys _, Obj.data_mapDictKeys hd _, hk.push hkey' _, ?_, ?_⟩ (Heap.SameBut.update ..))))))
    · have := hp.append hkey' ((mix c.prog c.w).hash k) v
      obtain ⟨l⟩ := es
      simpa using this
    · rw [List.map_append, List.nodup_append]
      refine ⟨hn, by simp, ?_⟩
      intro a ha b hb
      simp only [List.map_cons, List.map_nil, List.mem_singleton] at hb
      subst hb
      exact fun e => hnot (e ▸ ha)
theorem meets_setdefault_at {d : Addr} {k : Key} {key v : Value} (hkey : isKey k key = true) (hd : (d == sysModules) = false) :
    MeetsIn c.prog c.w (Builtin.«dict.setdefault» ⟨[.ref d, key, v], []⟩) (fun _ R s => ∃ rvs ep, s.heap.DictAt (mix c.prog c.w) d rvs ep ∧ rvs.length ≤ sizeLine ∧
      (∀ u, valueAt rvs k = some u → R (.ok (.ret u)) { s with toks := s.toks + 1 }) ∧
      (valueAt rvs k = none → ∀ h', h'.DictAt (mix c.prog c.w) d (rvs ++ [(k, v)]) (ep + 1) → Heap.SameBut d s.heap h' → R (.ok (.ret v)) { s with heap := h', toks := s.toks + 1 })) :=
  .of_wp fun A R s ⟨rvs, ep, hm, hz, h1, h2⟩ => by
    unfold Builtin.«dict.setdefault»
    refine wpAny_bind ?_
    unfold Builtin.Dict.keyAndDefault
    refine wpAny_bind (wpAny_notOrdered_dict hm.dictOf.typeIs ?_)
    show wpAny _ _ (pure (d, key, some v)) _ _ s
    refine wpAny_pure ?_
    show wpAny _ _ (if (d == sysModules) = true then _ else (dictSetDefault d key v >>= _)) _ _ s
    rw [if_neg (by rw [hd]; exact Bool.false_ne_true)]
    exact wpAny_bind (dictSetDefault_at hkey hm (fun u hv => wpAny_pure ⟨u, rfl, h1 u hv⟩) (fun hn h' hm' hs' => wpAny_pure ⟨v, rfl, h2 hn h' hm' hs'⟩) hz)
end
section
variable {k : Wk} {m : Loc} {H : AHeap}
theorem WCall_tupleL {a : Addr} {xs : List V} {Q : V → Loc → AHeap → Prop} (ha : H a = some (.list xs)) (hz : xs.length ≤ sizeLine) (h : ∀ p, H p = none → Q (.ref p) m (upd H p (.tup xs))) : WCall k (.type "tuple") [.ref a] m H Q := fun vs e B s st => by
  obtain ⟨x, rfl, e'⟩ := map_er1 e
  obtain rfl := er_ref e'
  obtain ⟨vs, n, hl, rfl⟩ := st.listAt ha
  refine call_tuple_list (items := (vs : List Value).toArray) hl.isList (fun h' hk => ?_) (by simpa using hz)
  obtain ⟨h1, h2⟩ := (st.grown (h' := h') (tk := s.toks) hk st.tk).newTup vs
  exact ⟨m, _, h2, h _ h1⟩
theorem WCall_setdefault {d : Addr} {kvs : List (Key × V)} {ep : Nat} {key : Key} {kv v : V} {Q : V → Loc → AHeap → Prop} (hd : H d = some (.dict kvs ep)) (hk : isKV key kv = true) (hz : kvs.length ≤ sizeLine)
    (h1 : ∀ u, getK kvs key = some u → Q u m H) (h2 : getK kvs key = none → Q v m (upd H d (.dict (kvs ++ [(key, v)]) (ep + 1)))) : WCall k (.builtin "dict.setdefault") [.ref d, kv, v] m H Q := fun vs e B s st => by
  obtain ⟨x, y, z, rfl, e1, e2, e3⟩ := map_er3 e
  obtain rfl := er_ref e1
  obtain ⟨rvs, hm, rfl⟩ := st.dictAt hd
  have hkey : isKey key y = true := by rw [isKey_er, e2]; exact hk
  refine call_meetsIn F.slot_dict_setdefault hm.dictOf.typeIs F.entry_dict_setdefault (F.args_dict_setdefault_3 _ _ _) (meets_setdefault_at (c := k.c) (v := z) hkey (st.notMods hd)) ⟨rvs, ep, hm, by simpa using hz, fun u hu => ?_, fun hn h' hm' hs => ?_⟩
  · have hg : getK (rvs.map erP) key = some (er u) := by rw [getK_er, hu]; rfl
    exact ⟨m, H, st.toks _ (Nat.le_add_left 1 _), h1 _ hg⟩
  · have hg : getK (rvs.map erP) key = none := by rw [getK_er, hn]; rfl
    obtain ⟨ob, ho, hI⟩ := of_dictAt hm'
    have st' := st.put (tk := s.toks + 1) (y := .dict ((rvs ++ [(key, z)]).map erP) (ep + 1)) hd (fun b ob hb e => by rw [hs.2 b hb]; exact e) ⟨ob, ho, hI⟩ (Nat.le_add_left 1 _)
    refine ⟨m, _, st', ?_⟩
    have := h2 hg
    rw [← e3] at this
    show Q (er z) m _
    rw [List.map_append]
    exact this
theorem WBin_addBL {a b : Addr} {xs ys : List V} {Q : V → Loc → AHeap → Prop} (ha : BaseL k.c a xs) (hb : H b = some (.list ys)) (hz : xs.length + ys.length ≤ sizeLine) (h : ∀ p, H p = none → Q (.ref p) m (upd H p (.list (xs ++ ys)))) : WBin k .Add (.ref a) (.ref b) m H Q := fun x y e1 e2 B s st => by
  obtain rfl := er_ref e1
  obtain rfl := er_ref e2
  obtain ⟨vs, hl, rfl⟩ := ha
  obtain ⟨us, n2, hb', rfl⟩ := st.listAt hb
  obtain ⟨⟨cls, dd, data, sl⟩, ho, hc, n, hd⟩ := isList_stays st.base hl
  simp only at hc hd
  subst hc hd
  refine concat_meets ⟨_, ho, rfl⟩ ⟨_, hb', rfl⟩ noFill_list_add seq_list_add PySem.F.slot_list_add PySem.F.entry_list_add (PySem.F.args_list_add_2 _ _) (list_addW a b vs.toArray us.toArray n n2 dd none sl #[] (by simpa using hz)) ⟨ho, hb', ?_⟩
  obtain ⟨h1, h2⟩ := st.newList (vs ++ us)
  have e : vs.toArray ++ us.toArray = (vs ++ us).toArray := by simp
  rw [e]
  refine ⟨m, _, h2, ?_⟩
  have := h _ h1
  rw [← List.map_append] at this
  exact this
theorem WBin_mulL {a : Addr} {xs : List V} {n : Int} {Q : V → Loc → AHeap → Prop} (ha : H a = some (.list xs)) (h0 : -(2 ^ 63 : Int) ≤ n) (h1 : n < 2 ^ 63) (hz : xs.length * n.toNat ≤ 2 ^ 24) (hne : xs ≠ []) (h : ∀ p, H p = none → Q (.ref p) m (upd H p (.list (List.replicate n.toNat xs).flatten))) : WBin k .Mult (.ref a) (.int n) m H Q := fun x y e1 e2 B s st => by
  obtain rfl := er_ref e1
  obtain ⟨t, rfl⟩ := er_int e2
  obtain ⟨vs, c, hl, rfl⟩ := st.listAt ha
  have hne' : vs.toArray.isEmpty = false := by
    cases vs with
    | nil => simp at hne
    | cons v vs => rfl
  refine wpAny_binaryOp_repeat_ref (T := "list") (U := "int") (by decide) ⟨_, hl, rfl⟩ (fun s' => typeIs_int s' n t) noFill_list_mul F.fills_int_mul F.slot_int_rmul repeat_list F.slot_int_index.lookup
    (call_meets F.slot_int_rmul (typeIs_int s n t) F.entry_int_rmul (F.args_int_rmul_2 _ _) (int___rmul___int_list n t a vs.toArray c)
      ⟨hl, rfl, ⟨_, hl, rfl⟩, call_meets F.slot_list_mul ⟨_, hl, rfl⟩ F.entry_list_mul (F.args_list_mul_2 _ _)
        (AutoListH.list___mul___list_int_3 a vs.toArray c n t (by simp [Builtin.List.listFitsIndex]; lia) (by simp at hz ⊢; lia) (by simp at hz; simp [Builtin.List.listTooLong, sizeLine]; lia))
        ⟨hl, ?_⟩⟩)
  rw [hne']
  simp only [Bool.false_eq_true, if_false, listMul_foldl]
  obtain ⟨f1, f2⟩ := st.newList (List.replicate n.toNat vs).flatten
  refine ⟨m, _, by simpa using f2, ?_⟩
  have := h _ f1
  exact this
end
end Mine
namespace Mine
theorem top_joinC {c : Cx} {name : Str} {scope : Scope} {fa : Addr} {cd : Value} {body : List Stmt} {mv cm : Str → Option Value} {s : Shared} {m : Loc}
    (hk : scope.kind = .function) (F : Fr c.base c.base.objs.size s.heap mv) (X : Cl c.base.objs.size (cellsFrom (c.base.objs.size + 1) scope.names []) s.heap cm) (hnd : ((cellsFrom (c.base.objs.size + 1) scope.names []).map (·.1)).Nodup) (hg : s.gens = #[]) (hos : s.os = c.os) (ht : 1 ≤ s.toks)
    (hm : ∀ x v, m x = some v → scope.names.lookup x = some .local ∧ ∃ u, mv x = some u ∧ er u = v)
    (h : ∀ k : Wk, k.c = c → k.env = envOfC name scope c.base.objs.size fa cd → k.A = callerA.deeper k.env → W k (execs body k.env) m (fun _ => none) (fun fl _ _ => flowV fl = .bool true)) :
    wpAny (model c.prog c.w) (callerA.deeper (envOfC name scope c.base.objs.size fa cd)) (execs body (envOfC name scope c.base.objs.size fa cd)) (fun f s' => flowV f = .bool true ∧ c.base.StaysIn s'.heap ∧ s'.os = c.os ∧ s'.gens = #[]) (fun _ _ => False) s := by
  let env := envOfC name scope c.base.objs.size fa cd
  have hout : outerOf env [] = [env] := if_pos rfl
  let k : Wk := {
    c := c, A := callerA.deeper env, o := ⟨[], fun _ => none⟩, env := env, E := fun _ _ => False, X := fun _ _ _ _ => False, here := False,
    pass := PassesOwn.never, fly := fun _ _ _ _ _ _ _ _ _ h => h, made := fun h => h.elim, kind := hk, glob := rfl, blt := rfl,
    frames := by show callerA.frames.map _ = some (outerOf env []); rw [hout]; rfl, fat := .inl rfl }
  have hcl : ∀ n a, (n, a) ∈ cellsFrom (c.base.objs.size + 1) scope.names [] → (cellsFrom (c.base.objs.size + 1) scope.names []).lookup n = some a := fun n a ha => lookup_of_mem_nodup hnd ha
  refine wpAny_mono (h k rfl rfl rfl (fun _ => none) s ?_) (fun v s' ⟨m', H', st, q⟩ => ⟨q, st.base, st.os, st.gens⟩) fun _ _ x => x
  refine ⟨F.keep, fun a ob l e => (by cases e), fun a x e => (by cases e), fun a x e => (by cases e), fun a x e => (by cases e), fun a q => ?_, ?_, fun a q => ?_, ⟨mv, F.ns, fun x v e => ?_⟩, ⟨fun e he => (by cases he), fun a x e => (by cases e)⟩, hg, hos, ht⟩
  · refine ⟨rfl, rfl, ?_⟩
    rcases List.mem_cons.mp q with q | q
    · rw [q]; exact Nat.le_refl _
    · obtain ⟨⟨n, b⟩, hb, rfl⟩ := List.mem_map.mp q
      exact Nat.le_of_lt (X.above n b hb)
  · show (c.base.objs.size :: (cellsFrom (c.base.objs.size + 1) scope.names []).map (·.2)).Nodup
    refine List.nodup_cons.mpr ⟨fun q => ?_, ?_⟩
    · obtain ⟨⟨n, b⟩, hb, e⟩ := List.mem_map.mp q
      have := X.above n b hb
      have e : b = c.base.objs.size := e
      rw [e] at this
      exact absurd this (Nat.lt_irrefl _)
    · exact List.pairwise_map.mpr X.apart
  · obtain ⟨⟨n, b⟩, hb, rfl⟩ := List.mem_map.mp q
    exact ⟨_, X.cell n b (hcl n b hb)⟩
  · obtain ⟨h1, u, h2, h3⟩ := hm x v e
    have : env.kindOf x = some .local := h1
    rw [this]
    exact ⟨u, h2, h3⟩
theorem fin_joinC {l : OpenLaw} {w : World} {s₀ s₁ : Shared} {mg mb : Str → Option Value} {p : Program} {loose : List Str} {mean : ExcName → Option Value} {K : Frag} {sa fa : Addr} {vals : List Value} {ns : List Int} {h₁ : Heap} {name : Str} {scope : Scope} {cd : Value} {body : List Stmt} {args : List WData} {E : Value → Shared → Prop} {s : Shared} {mv cm : Str → Option Value} {cells : List (Addr × Obj)}
    (kX : K.In s₁.heap) (kT : Top p loose mean mg mb s₁.heap) (kg : s₁.gens = #[]) (kL : s₁.heap.IsList sa vals.toArray) (kI : IntsAre vals ns) (kF : Fr s₁.heap s₁.heap.objs.size h₁ mv) (kN : News s₁.heap s₁.heap.objs.size h₁ cells) (kC : CellsAre cm (cellsFrom (s₁.heap.objs.size + 1) scope.names []) cells)
    (hmv : mv "script" = some (.ref sa)) (hnd : (scope.names.map (·.1)).Nodup)
    (hk : scope.kind = .function) (hsc : scope.names.lookup (Str.ofString "script") = some NameKind.local) (hh : s.heap = h₁) (hg : s.gens = s₁.gens) (hos : s.os = s₁.os) (htk : 1 ≤ s.toks)
    (hw : ∀ c : Cx, c.prog = l.row.toRowW.prog → c.K = K → c.w = w → c.p = p → c.base = s₁.heap → BaseL c sa (ns.map .int) → ∀ k : Wk, k.c = c → k.env = envOfC name scope s₁.heap.objs.size fa cd → k.A = callerA.deeper k.env → W k (execs body k.env) (setL noLoc "script" (.ref sa)) (fun _ => none) fun fl _ _ => flowV fl = .bool true) :
    wpAny (model l.row.toRowW.prog w) (callerA.deeper (envOfC name scope s₁.heap.objs.size fa cd)) (execs body (envOfC name scope s₁.heap.objs.size fa cd))
      (fun f s' => GoodW l.row.toRowW.claim (classAt s₀.heap) (ExcName.means s₀.heap) args s₁ (.ok (.ret (match f with | .ret v => v | _ => .none))) s') E s := by
  let c : Cx := ⟨l.row.toRowW.prog, w, s₁.heap, K, p, loose, mean, mg, mb, s₁.os, kX, kT⟩
  have hB : BaseL c sa (ns.map .int) := ⟨vals, kL, intsAre_er kI⟩
  have hnc := cellsFrom_names scope.names (s₁.heap.objs.size + 1) [] hnd List.nodup_nil (fun _ _ h => by cases h)
  have hpw := cellsFrom_pw scope.names (s₁.heap.objs.size + 1) [] List.nodup_nil (fun _ h => by cases h)
  have hCl : Cl s₁.heap.objs.size (cellsFrom (s₁.heap.objs.size + 1) scope.names []) h₁ cm := Cl.of_news (own := []) kN kC (List.pairwise_map.mp hpw) fun n a ha => by
    rcases cellsFrom_mem _ _ _ _ _ ha with h | ⟨h, _⟩
    · cases h
    · exact h
  refine wpAny_mono (top_joinC (c := c) (m := setL noLoc "script" (.ref sa)) hk (by rw [hh]; exact kF) (by rw [hh]; exact hCl) hnc (hg.trans kg) hos htk (fun x v e => ?_) (fun k h1 h2 h3 => hw c rfl rfl rfl rfl rfl hB k h1 h2 h3)) (fun f s' q => ?_) fun _ _ x => x.elim
  · unfold setL at e
    split at e
    · rename_i q
      subst q
      cases e
      exact ⟨hsc, .ref sa, hmv, rfl⟩
    · cases e
  · obtain ⟨q1, q2, q3, q4⟩ := q
    refine good_law ?_ q2 q3 q4
    cases f with
    | ret v => exact er_bool q1
    | _ => cases q1
end Mine
namespace Mine
section
variable {M : Model} {A : Around} {E : Value → Shared → Prop} {s : Shared}
theorem newEnv1 {scope : Scope} {globals : Addr} {x : Str} {v : Value} {qual : Str} {func : Option Addr} {code : Value} {builtins : Addr} {Q : Env → Shared → Prop}
    (hk : scope.kind = .function) (hx : scope.names.lookup x = some .local)
    (hQ : ∀ env, env = newEnv scope s.heap.objs.size globals (cellsFrom (s.heap.objs.size + 1) scope.names []) qual func code none builtins →
      ∀ s', InCallC s env.locals (bindL env.kindOf [(x, v)] fun _ => none) env.cells (bindC env.kindOf [(x, v)] fun _ => none) s' → 1 ≤ s'.toks → Q env s') :
    wpAny M A (newFunctionEnv scope globals [] [(x, v)] qual func code none builtins) Q E s := by
  simp only [newFunctionEnv, Option.isSome_none, Bool.false_eq_true, if_false]
  refine wpAny_bind (wpAny_alloc ?_)
  refine wpAny_bind (wpAny_layCells _ (fun name kind cells => by cases hkc : kind == NameKind.cell <;> simp [hkc]) _ _ _ _ ?_)
  have ok := cellsFrom_ok scope.names (s.heap.push { cls := .type "frame", data := .dict #[] }) (s.heap.objs.size + 1) [] ⟨fun _ _ hm => (nomatch hm), List.Pairwise.nil⟩ (by rw [Heap.size_push]; exact Nat.le_refl _)
  rw [Heap.size_push] at ok
  rw [show ({ s with heap := s.heap.push { cls := .type "frame", data := .dict #[] } } : Shared).heap.objs.size = s.heap.objs.size + 1 from Heap.size_push ..]
  let env := newEnv scope s.heap.objs.size globals (cellsFrom (s.heap.objs.size + 1) scope.names []) qual func code none builtins
  have hl : env.kindOf x = some .local := hx
  have hke : env.scope.kind = .function := hk
  have X0 : InCallC s env.locals (fun _ => none) env.cells (fun _ => none) { s with heap := pushCells (s.heap.push { cls := .type "frame", data := .dict #[] }) scope.names } :=
    ⟨⟨⟨_, _, rfl⟩, (Heap.Ns.new s.heap (.type "frame")).keeps (pushCells_keeps _ _), fun b o e => pushCells_keeps _ _ b o (Heap.get?_push_of_some _ e), Nat.le_refl _⟩,
      fun n c hc => (ok.empty n c (mem_of_lookup hc)).1, ok.apart, fun n c hm => (ok.empty n c hm).2⟩
  rw [List.forIn_cons]
  refine wpAny_bind (wpAny_bind (wpAny_bind ?_))
  refine wpAny_storeName_local (env := env) hl X0.toInCall.ns (fun h' hn' hs' => ?_) (by rw [hke]; rfl)
  refine wpAny_pure ?_
  refine wpAny_pure ?_
  refine wpAny_pure (hQ env rfl _ ⟨⟨⟨h', _, rfl⟩, ?_, fun b o e => ?_, X0.toInCall.fresh⟩, fun n c hc => ?_, X0.apart, X0.above⟩ (Nat.le_add_left 1 _))
  · unfold bindL bindL
    rw [if_pos hl]; exact hn'
  · exact hs'.extBut b o (Nat.ne_of_lt (Nat.lt_of_lt_of_le (Heap.lt_size e) X0.toInCall.fresh)) (X0.toInCall.keep b o e)
  · have := (X0.cell n c hc).sameBut hs' (Nat.ne_of_gt (X0.above n c (mem_of_lookup hc)))
    unfold bindC bindC
    rw [if_pos hl]; exact this
end
theorem call_cells1 {prog : Program} {w : World} {A : Around} {R : Result → Shared → Prop} {s : Shared} {name : Str} {params : Arguments} {body : List Stmt} {scope : Scope}
    {pm cd doc : Value} {a : Addr} {o : Obj} {args : List Value} {x : Str} {v : Value}
    (hroom : A.depth < recursionLimit) (ho : s.heap.get? a = some o) (hdata : o.data = .func (Calls.docDef name params body scope pm cd doc)) (hlim : s.heap.NoLimit) (hcd : s.heap.CodeRec cd name)
    (hbind : bindArgs (Calls.docDef name params body scope pm cd doc) ⟨args, []⟩ = pure [(x, v)]) (hx : scope.names.lookup x = some .local)
    (hnd : ((cellsFrom 0 scope.names []).map (·.1)).Nodup)
    (h : ∀ h₁ tk cells, 1 ≤ tk → Fr s.heap s.heap.objs.size h₁ (bindL (envOfC name scope s.heap.objs.size a cd).kindOf [(x, v)] fun _ => none) → News s.heap s.heap.objs.size h₁ cells →
      CellsAre (bindC (envOfC name scope s.heap.objs.size a cd).kindOf [(x, v)] fun _ => none) (cellsFrom (s.heap.objs.size + 1) scope.names []) cells →
      wpAny (model prog w) (A.deeper (envOfC name scope s.heap.objs.size a cd)) (execs body (envOfC name scope s.heap.objs.size a cd))
        (fun f s' => R (.ok (.ret (match f with | .ret v => v | _ => .none))) s')
        (fun e s' => wpAny (model prog w) (A.deeper (envOfC name scope s.heap.objs.size a cd)) (leaving (envOfC name scope s.heap.objs.size a cd) e)
          (fun _ s'' => R (.error e) s'') (fun e' s'' => R (.error e') s'') s')
        { s with heap := h₁, toks := tk })
    (hco : scope.isCoroutine = false := by rfl) (hgen : scope.isGenerator = false := by rfl) (hk : scope.kind = .function := by rfl) :
    codeAny (model prog w) A (.call (.ref a) ⟨args, []⟩) R s := by
  refine codeAny_call_function (fd := Calls.docDef name params body scope pm cd doc) (body := body) hroom ho hdata hco hgen rfl hcd ?_
  rw [hbind]
  refine wpAny_pure (newEnv1 hk hx fun env he s' X ht => ?_)
  subst he
  refine ⟨hlim.keeps X.toInCall.keep, codeAny_func ?_⟩
  obtain ⟨h₁, tk, rfl⟩ := X.toInCall.same
  obtain ⟨cells, N, Y⟩ := Cl.news (h₀ := s.heap) (L := s.heap.objs.size) (cm := bindC (envOfC name scope s.heap.objs.size a cd).kindOf [(x, v)] fun _ => none) (cs := cellsFrom (s.heap.objs.size + 1) scope.names []) (Nat.le_refl _) fun n c hm => ⟨X.cell n c (PyProof.Rows.lookup_of_mem_nodup (PyProof.Rows.cellsFrom_names scope.names 0 (s.heap.objs.size + 1) [] [] rfl ▸ hnd) hm), X.above n c hm⟩
  exact h h₁ tk cells ht ⟨X.toInCall.ns, X.toInCall.keep, X.toInCall.fresh⟩ N Y
theorem call_cells2 {prog : Program} {w : World} {A : Around} {R : Result → Shared → Prop} {s : Shared} {name : Str} {params : Arguments} {body : List Stmt} {scope : Scope}
    {pm cd doc dV kV : Value} {mg : Str → Option Value} {hD : Heap} {a : Addr} {o : Obj} {args : List Value} {x : Str} {v : Value}
    (hroom : A.depth < recursionLimit) (ho : s.heap.get? a = some o) (hdata : o.data = .func { Calls.docDef name params body scope pm cd doc with defaults := dV, kwdefaults := kV }) (hlim : s.heap.NoLimit) (hcd : s.heap.CodeRec cd name)
    (D : Dflts mg hD params [] dV kV) (hp : params.defaults = [])
    (hbind : bindArgs (Calls.docDef name params body scope pm cd doc) ⟨args, []⟩ = pure [(x, v)]) (hx : scope.names.lookup x = some .local)
    (hnd : ((cellsFrom 0 scope.names []).map (·.1)).Nodup)
    (h : ∀ h₁ tk cells, 1 ≤ tk → Fr s.heap s.heap.objs.size h₁ (bindL (envOfC name scope s.heap.objs.size a cd).kindOf [(x, v)] fun _ => none) → News s.heap s.heap.objs.size h₁ cells →
      CellsAre (bindC (envOfC name scope s.heap.objs.size a cd).kindOf [(x, v)] fun _ => none) (cellsFrom (s.heap.objs.size + 1) scope.names []) cells →
      wpAny (model prog w) (A.deeper (envOfC name scope s.heap.objs.size a cd)) (execs body (envOfC name scope s.heap.objs.size a cd))
        (fun f s' => R (.ok (.ret (match f with | .ret v => v | _ => .none))) s')
        (fun e s' => wpAny (model prog w) (A.deeper (envOfC name scope s.heap.objs.size a cd)) (leaving (envOfC name scope s.heap.objs.size a cd) e)
          (fun _ s'' => R (.error e) s'') (fun e' s'' => R (.error e') s'') s')
        { s with heap := h₁, toks := tk })
    (hco : scope.isCoroutine = false := by rfl) (hgen : scope.isGenerator = false := by rfl) (hk : scope.kind = .function := by rfl) :
    codeAny (model prog w) A (.call (.ref a) ⟨args, []⟩) R s := by
  have he := Dflts.none D hp; subst he
  have he := Dflts.noKw D; subst he
  exact call_cells1 hroom ho (fd_plain hdata) hlim hcd hbind hx hnd h hco hgen hk
end Mine
namespace Mine
section
variable {c : Cx} {o : Out} {env : Env} {B : BMap} {m : Loc} {H : AHeap} {s : Shared}
theorem none_less {H H' : AHeap} (h : Ext H' H) {a : Addr} (n : H a = none) : H' a = none := by
  cases e : H' a with
  | none => rfl
  | some x => have := h a x e; rw [n] at this; cases this
theorem St.less (st : St c o env B m H s) {H' : AHeap} (h : Ext H' H) : St c o env B m H' s :=
  ⟨st.base, st.keep, fun a x e => st.own a x (h a x e), fun a x e => st.disB a x (h a x e), fun a x e => st.disBase a x (h a x e), fun a q => ⟨none_less h (st.pl a q).1, (st.pl a q).2⟩, st.nodup, st.cell, st.var, st.frames, st.gens, st.os, st.tk⟩
theorem St.sweep (st : St c o env B m H s) {h' : Heap} {tk : Nat} {H' : AHeap} (P : Addr → Prop) (hk : ∀ b ob, ¬ P b → s.heap.get? b = some ob → h'.get? b = some ob)
    (hP : ∀ b, P b → ∃ x, H b = some x) (hH : ∀ b y, H' b = some y → (∃ ob, h'.get? b = some ob ∧ IsObj c ob y) ∧ (s.heap.objs.size ≤ b ∨ ∃ x, H b = some x)) (ht : 1 ≤ tk) : St c o env B m H' { s with heap := h', toks := tk } := by
  have nb : ∀ b, P b → c.base.get? b = none := fun b q => by obtain ⟨x, hx⟩ := hP b q; exact none_ge (st.disBase b x hx)
  have nB : ∀ b, P b → B b = none := fun b q => by obtain ⟨x, hx⟩ := hP b q; exact st.disB b x hx
  have np : ∀ b ∈ places env, ¬ P b := fun b hb q => by obtain ⟨x, hx⟩ := hP b q; rw [(st.pl b hb).1] at hx; cases hx
  have fr : ∀ b, s.heap.objs.size ≤ b → B b = none ∧ b ∉ places env := fun b q => ⟨(st.fresh (none_ge q)).2.1, (st.fresh (none_ge q)).2.2.2⟩
  refine ⟨fun b ob e => hk b ob (fun q => by rw [nb b q] at e; cases e) (st.base b ob e), fun b ob l e => ?_, fun b y e => (hH b y e).1, fun b y e => ?_, fun b y e => ?_, fun b q => ⟨?_, (st.pl b q).2⟩, st.nodup, fun b e => ?_, ?_, st.frames, st.gens, st.os, ht⟩
  · obtain ⟨sl, e1, e2⟩ := st.keep b ob l e
    exact ⟨sl, hk b _ (fun q => by rw [nB b q] at e; cases e) e1, e2⟩
  · rcases (hH b y e).2 with q | ⟨x, q⟩
    · exact (fr b q).1
    · exact st.disB b x q
  · rcases (hH b y e).2 with q | ⟨x, q⟩
    · exact Nat.le_trans st.baseLe q
    · exact st.disBase b x q
  · cases e : H' b with
    | none => rfl
    | some y =>
      rcases (hH b y e).2 with z | ⟨x, z⟩
      · exact absurd q (fr b z).2
      · rw [(st.pl b q).1] at z; cases z
  · obtain ⟨v, ob, e1, e2⟩ := st.cell b e
    exact ⟨v, ob, hk b ob (np b (List.mem_cons_of_mem _ e)) e1, e2⟩
  · exact var_keeps (fun b hb ob e => hk b ob (np b hb) e) st.var
end
noncomputable def enObj (it : Addr) (i : Int) (old : Value) : Obj := { cls := .type "enumerate", dict := none, data := .fields #[.none, .bool false, .ref it, rawInt i, .none, old], slots := #[] }
noncomputable def isLi (ob : Obj) (a : Addr) (i : Nat) : Prop := ob.cls = .type "list_iterator" ∧ ob.data = .fields #[.ref a, .int i 0]
section
variable {k : Wk} {m : Loc} {H : AHeap}
theorem WCall_enum {a : Addr} {xs : List V} {Q : V → Loc → AHeap → Prop} (ha : H a = some (.list xs))
    (h : ∀ e it oi, H e = none → H it = none → e ≠ it → isLi oi a 0 → Q (.ref e) m (upd (upd H it (.raw oi)) e (.raw (enObj it 0 .none)))) : WCall k (.type "enumerate") [.ref a] m H Q := fun vs e => by
  obtain ⟨x, rfl, e'⟩ := map_er1 e
  obtain rfl := er_ref e'
  intro B s st
  obtain ⟨us, n, hl, hu⟩ := st.listAt ha
  refine call_enumerate_list ⟨_, hl, rfl, n, rfl⟩ fun h' he hi hz hk => ?_
  obtain ⟨oi, ho, hc, hd⟩ := hi
  have n0 : H s.heap.objs.size = none := (st.fresh (none_ge (Nat.le_refl _))).1
  have n1 : H (s.heap.objs.size + 1) = none := (st.fresh (none_ge (Nat.le_succ _))).1
  have st1 : St k.c k.o k.env B m (upd (upd H s.heap.objs.size (.raw oi)) (s.heap.objs.size + 1) (.raw (enObj s.heap.objs.size 0 .none))) { s with heap := h', toks := s.toks } := by
    refine st.sweep (fun _ => False) (fun b ob _ q => hk b ob q) (fun b q => q.elim) (fun b y e => ?_) st.tk
    rcases upd_some e with ⟨rfl, rfl⟩ | ⟨ne, e⟩
    · exact ⟨⟨_, he, rfl⟩, .inl (Nat.le_succ _)⟩
    · rcases upd_some e with ⟨rfl, rfl⟩ | ⟨ne, e⟩
      · exact ⟨⟨_, ho, rfl⟩, .inl (Nat.le_refl _)⟩
      · obtain ⟨ob, q1, q2⟩ := st.own b y e
        exact ⟨⟨ob, hk b ob q1, q2⟩, .inr ⟨y, e⟩⟩
  exact ⟨m, _, st1, h _ _ oi n1 n0 (Nat.succ_ne_self _) ⟨hc, hd⟩⟩
theorem W_ForEnum {elts : List Expr} {x1 : Nat} {tp pos : Pos} {iter : Expr} {body : List Stmt} {Q : Flow → Loc → AHeap → Prop} (hh : k.A.handled = none)
    (h : WV k (eval iter k.env) m H fun xv m1 H1 => ∃ e it oi a xs H0, xv = .ref e ∧ H1 = upd (upd H0 it (.raw oi)) e (.raw (enObj it 0 .none)) ∧ H0 e = none ∧ H0 it = none ∧ e ≠ it ∧ isLi oi a 0 ∧ ∃ I : Nat → Loc → AHeap → Prop, I 0 m1 H0 ∧
      (∀ i m2 H2, I i m2 H2 → H2 a = some (.list xs)) ∧
      (∀ i x m2 H2 p, xs[i]? = some x → I i m2 H2 → H2 p = none → WAs k (.Tuple elts x1 tp) (.ref p) m2 (upd H2 p (.tup [.int i, x])) fun m3 H3 => WF k (execs body k.env) m3 H3 (loopQ k Q (I (i + 1)))) ∧ ∀ m2 H2, I xs.length m2 H2 → Q .next m2 H2)
    (hs : ∀ x, foldedSetIterable iter k.env x = pure x := by intro _; rfl) : W k (exec (.For (.Tuple elts x1 tp) iter body [] pos) k.env) m H Q := fun B s st =>
  wpAny_For (wpAny_mono (h B s st) (fun x s1 hx1 => by
    obtain ⟨m1, H1, st1, e, it, oi, a, xs, H0, e1, rfl, he0, hi0, hne, hli, I, h0, hok, step, fin⟩ := hx1
    obtain rfl := er_ref e1
    have hE1 : (upd (upd H0 it (.raw oi)) e (.raw (enObj it 0 .none))) e = some (.raw (enObj it 0 .none)) := upd_same
    obtain ⟨obe, q1, q2⟩ := st1.own _ _ hE1
    obtain rfl : obe = enObj it 0 .none := q2
    refine wpAny_pyIter_enum q1 ?_
    exact codeAny_forLoop_any
      (fun j s' => ∃ i m' H' ob old, j + i = xs.length ∧ isLi ob a i ∧ I i m' H' ∧ H' e = none ∧ H' it = none ∧ St k.c k.o k.env B m' (upd (upd H' it (.raw ob)) e (.raw (enObj it i old))) s') (by
        intro j s' hg
        obtain ⟨i, m', H', ob, old, hj, hat, hI, n1, n2, st'⟩ := hg
        have hEe : (upd (upd H' it (.raw ob)) e (.raw (enObj it i old))) e = some (.raw (enObj it i old)) := upd_same
        have hEi : (upd (upd H' it (.raw ob)) e (.raw (enObj it i old))) it = some (.raw ob) := upd_ne (Ne.symm hne) upd_same
        have hX : Ext H' (upd (upd H' it (.raw ob)) e (.raw (enObj it i old))) := fun b y q => upd_ne (fun z => by rw [z, n1] at q; cases q) (upd_ne (fun z => by rw [z, n2] at q; cases q) q)
        obtain ⟨obe, q1, q2⟩ := st'.own _ _ hEe
        obtain rfl : obe = enObj it i old := q2
        obtain ⟨obi, q3, q4⟩ := st'.own _ _ hEi
        obtain rfl : obi = ob := q4
        have hit : s'.heap.IsListIter it a i := ⟨obi, q3, hat.1, hat.2⟩
        obtain ⟨us, n, hl, rfl⟩ := st'.listAt (hX _ _ (hok _ _ _ hI))
        have hL : s'.heap.IsList a us.toArray := ⟨_, hl, rfl, n, rfl⟩
        have stl := st'.less hX
        have hBe := st'.disB _ _ hEe
        have hBi := st'.disB _ _ hEi
        have hbe := st'.disBase _ _ hEe
        have hbi := st'.disBase _ _ hEi
        have hpe : e ∉ places k.env := fun q => by have := (st'.pl e q).1; rw [hEe] at this; cases this
        have hpi : it ∉ places k.env := fun q => by have := (st'.pl it q).1; rw [hEi] at this; cases this
        rw [List.length_map] at hj
        by_cases hi : i < us.length
        · have hx : us.toArray[i]? = some us[i] := by simp [hi]
          refine wpAny_pyNext_enum_item q1 hit hL hx hne fun h₁ heo hit₁ ht₁ hz₁ hk₁ => ?_
          refine wpAny_letOwnedTupleGo_enum heo fun h₂ he₂ hs₂ => ?_
          replace hs₂ : Heap.SameBut e h₁ h₂ := hs₂
          have hlt : e < s'.heap.objs.size := Heap.lt_size q1
          have nsz : H' s'.heap.objs.size = none := (stl.fresh (none_ge (Nat.le_refl _))).1
          obtain ⟨obi2, q5, q6, q7⟩ := hit₁
          have hk₂ : ∀ b ob, ¬ (b = e ∨ b = it) → s'.heap.get? b = some ob → h₂.get? b = some ob := fun b ob z q => hs₂.extBut b ob (fun y => z (.inl y)) (hk₁ b ob (fun y => z (.inl y)) (fun y => z (.inr y)) q)
          have st2 : St k.c k.o k.env B m' (upd H' s'.heap.objs.size (.tup [.int i, er us[i]])) { s' with heap := h₂, toks := s'.toks + 1 } := by
            refine st'.sweep (fun b => b = e ∨ b = it) hk₂ (fun b z => ?_) (fun b y q => ?_) (Nat.le_add_left 1 _)
            · rcases z with rfl | rfl
              · exact ⟨_, hEe⟩
              · exact ⟨_, hEi⟩
            · rcases upd_some q with ⟨rfl, rfl⟩ | ⟨ne, q⟩
              · exact ⟨⟨_, hs₂.extBut _ _ (Nat.ne_of_gt hlt) ht₁, [.int i s'.toks, us[i]], 0, rfl, rfl⟩, .inl (Nat.le_refl _)⟩
              · obtain ⟨ob', z1, z2⟩ := stl.own b y q
                exact ⟨⟨ob', hk₂ b ob' (fun z => by rcases z with rfl | rfl; rw [n1] at q; cases q; rw [n2] at q; cases q) z1, z2⟩, .inr ⟨y, hX b y q⟩⟩
          have hsz : ∀ b, b < s'.heap.objs.size → b ≠ s'.heap.objs.size := fun b q => Nat.ne_of_lt q
          have ui : (upd H' s'.heap.objs.size (.tup [.int i, er us[i]])) it = none := upd_none (Nat.ne_of_lt (Heap.lt_size q3)) n2
          have ue : (upd H' s'.heap.objs.size (.tup [.int i, er us[i]])) e = none := upd_none (Nat.ne_of_lt hlt) n1
          have q5' : h₂.get? it = some obi2 := hs₂.extBut _ _ (Ne.symm hne) q5
          have st3 := (st2.hide (l := false) q5' ui hpi hBi)
          have hBe' : upd B it (obi2, false) e = none := upd_none hne hBe
          have st4 := st3.hide (l := false) (a := e) (ob := enObj it ((i : Int) + 1) us[i]) he₂ ue hpe hBe'
          refine wpAny_mono (step i (er us[i]) m' H' _ (by rw [List.getElem?_map]; simp [hi]) hI nsz (.ref s'.heap.objs.size) rfl _ _ st4) (fun _ s₂ ⟨m2, H2, st5, q8⟩ => ?_) fun e s₂ he => k.pass e s₂ he
          refine wpAny_mono (q8 _ _ st5) (fun f s₃ ⟨m3, H3, st6, q9⟩ => ?_) fun e s₂ he => k.pass e s₂ he
          have st7 := St.unhide st1 hBi (St.unhide (st2.hide (l := false) q5' ui hpi hBi) hBe' st6)
          have again : I (i + 1) m3 H3 → ∃ i m' H' ob old, j - 1 + i = (us.map er).length ∧ isLi ob a i ∧ I i m' H' ∧ H' e = none ∧ H' it = none ∧ St k.c k.o k.env B m' (upd (upd H' it (.raw ob)) e (.raw (enObj it i old))) s₃ := fun hI3 => by
            have r1 : H3 e = none := by
              cases z : H3 e with
              | none => rfl
              | some y => have := st6.disB e y z; rw [upd_same] at this; cases this
            have r2 : H3 it = none := by
              cases z : H3 it with
              | none => rfl
              | some y => have := st6.disB it y z; rw [show upd (upd B it (obi2, false)) e (enObj it ((i : Int) + 1) us[i], false) it = some (obi2, false) from upd_ne (Ne.symm hne) upd_same] at this; cases this
            have g1 : s₃.heap.get? it = some obi2 := by
              obtain ⟨sl, z1, z2⟩ := st6.keep it obi2 false (upd_ne (Ne.symm hne) upd_same)
              rw [z1, z2 rfl]
            have g2 : s₃.heap.get? e = some (enObj it ((i : Int) + 1) us[i]) := by
              obtain ⟨sl, z1, z2⟩ := st6.keep e (enObj it ((i : Int) + 1) us[i]) false upd_same
              rw [z1, z2 rfl]
            refine ⟨i + 1, m3, H3, obi2, us[i], by rw [List.length_map]; omega, ⟨q6, q7⟩, hI3, r1, r2, ?_⟩
            have z := (st7.adopt (y := .raw obi2) ⟨_, g1, rfl⟩ r2 hBi hpi hbi)
            exact z.adopt (y := .raw (enObj it ((i + 1 : Nat) : Int) us[i])) ⟨_, g2, rfl⟩ (upd_none hne r1) hBe hpe hbe
          cases f with
          | next => exact ⟨j - 1, by omega, again q9⟩
          | cont => exact ⟨j - 1, by omega, again q9⟩
          | brk => exact ⟨m3, H3, st7, q9⟩
          | ret v => exact ⟨m3, H3, st7, q9⟩
        · have hi' : i = us.length := by omega
          subst hi'
          refine wpAny_pyNext_enum_end hh q1 hit hL (by simp) fun h' hk => ?_
          have hk' : ∀ b ob, ¬ (b = it) → s'.heap.get? b = some ob → h'.get? b = some ob := fun b ob z q => hk b ob z q
          refine wpAny_execs_nil ⟨m', H', st'.sweep (tk := s'.toks) (fun b => b = it) hk' (fun b z => ⟨.raw obi, by rw [z]; exact hEi⟩) (fun b y q => ?_) st'.tk, fin _ _ ?_⟩
          · obtain ⟨ob', z1, z2⟩ := stl.own b y q
            exact ⟨⟨ob', hk' b ob' (fun z => by rw [z, n2] at q; cases q) z1, z2⟩, .inr ⟨y, hX b y q⟩⟩
          · rw [List.length_map]; exact hI)
      xs.length ⟨0, m1, H0, oi, .none, rfl, hli, h0, he0, hi0, st1⟩) fun _ _ x => x) hs
end
end Mine
namespace Mine
structure Blt (c : Cx) : Prop where
  len : Gl c "len" (.builtin "len")
  isinstance : Gl c "isinstance" (.builtin "isinstance")
  list : Gl c "list" (.type "list")
  dict : Gl c "dict" (.type "dict")
  range : Gl c "range" (.type "range")
  keyError : Gl c "KeyError" (.type "KeyError")
  type : Gl c "type" (.type "type")
  tuple : Gl c "tuple" (.type "tuple")
  enum : Gl c "enumerate" (.type "enumerate")
  imp : importsNone c.p = true
  tree : c.prog.given.tree = none
theorem W_hide {k : Wk} {x : Sem Flow} {m : Loc} {H : AHeap} {Q : Flow → Loc → AHeap → Prop} (h : ∀ QL : Flow → Loc → AHeap → Prop, (∀ f m H, Q f m H → QL f m H) → W k x m H QL) : W k x m H Q := h Q fun _ _ _ q => q
noncomputable def GwV (acc : Bool) (Q : Addr → AHeap → Prop) (X : String → Option (List V) → AHeap → Prop) (r : List Str) (v : V) (H : AHeap) : Prop :=
  tyOf H v ≠ none ∧ (∀ a xs, v = .ref a → H a = some (.list xs) → xs.length < 2 ^ 62) ∧ match lastOf acc H v with
      | none => X "IndexError" none H
      | some w => tyOf H w ≠ none ∧ if isDict H w = true then ∃ d, w = .ref d ∧ Gw acc Q X r d H else ∀ t, X "KeyError" (some [.str nestMsg t]) H
theorem isDict_ty {H : AHeap} {w : V} : decide (tyOf H w = some "dict") = isDict H w := by
  cases w with
  | ref a =>
    rcases e : H a with _ | x
    · simp [tyOf, isDict, e]
    · cases x <;> simp [tyOf, isDict, e]
  | _ => rfl
theorem Gw.cons {acc : Bool} {Q : Addr → AHeap → Prop} {X : String → Option (List V) → AHeap → Prop} {x : Str} {r : List Str} {cont : Addr} {H : AHeap} (h : Gw acc Q X (x :: r) cont H) :
    ∃ kvs ep, H cont = some (.dict kvs ep) ∧ kvs.length < sizeLine ∧ ((getK kvs (.inr x) = none ∧ ∀ d, H d = none → Gw acc Q X r d (upd (upd H d (.dict [] 0)) cont (.dict (kvs ++ [(.inr x, .ref d)]) (ep + 1)))) ∨ ∃ v, getK kvs (.inr x) = some v ∧ GwV acc Q X r v H) := by
  obtain ⟨kvs, ep, h1, h2, h3⟩ := h
  refine ⟨kvs, ep, h1, h2, ?_⟩
  cases e : getK kvs (.inr x) with
  | none => rw [e] at h3; exact .inl ⟨rfl, h3⟩
  | some v => rw [e] at h3; exact .inr ⟨v, rfl, h3⟩
section
variable {k : Wk} {m : Loc} {H : AHeap}
end
theorem rangeN_ft {a b : Nat} (h : a ≤ b) : rangeN a b 1 = b - a := by
  unfold rangeN Builtin.Range.rangeSize
  simp only [show (1 : Int) > 0 by decide, if_true]
  split <;> simp <;> lia
theorem small_ft {a b : Nat} (ha : a < 2 ^ 59) (hb : b < 2 ^ 59) : Builtin.Range.small a b 1 = true := by
  exact small_one (by lia) (by lia) (by lia) (by lia)
theorem seqIndex_nat' {i n : Nat} (h : i < n) : seqIndex? (i : Int) n = some i := by
  have h1 : (if (i : Int) < 0 then (i : Int) + n else i) = i := if_neg (by lia)
  simp only [seqIndex?, h1]
  rw [if_pos (by simp; lia)]
  simp
theorem clip_nat {n i : Nat} (h : i ≤ n) : clipAt n (i : Int) = i := by
  unfold clipAt
  rw [if_neg (Int.not_lt.mpr (Int.natCast_nonneg i)), Int.min_eq_left (Int.ofNat_le.mpr h), Int.max_eq_right (Int.natCast_nonneg i), Int.toNat_natCast]
theorem clip_big {n i : Nat} (h : n ≤ i) : clipAt n (i : Int) = n := by
  unfold clipAt
  rw [if_neg (Int.not_lt.mpr (Int.natCast_nonneg i)), Int.min_eq_right (Int.ofNat_le.mpr h), Int.max_eq_right (Int.natCast_nonneg n), Int.toNat_natCast]
theorem sliceV_take {α : Type} (xs : List α) (n : Nat) : sliceV xs none (some (n : Int)) = xs.take n := by
  unfold sliceV
  simp only [Option.elim, List.drop_zero, Nat.sub_zero]
  rcases Nat.le_total n xs.length with h | h
  · rw [clip_nat h]
  · rw [clip_big h, List.take_of_length_le (Nat.le_refl _), List.take_of_length_le h]
theorem clip_neg1 : ∀ n : Nat, clipAt n (-1) = n - 1
  | 0 => by decide
  | n + 1 => by
    unfold clipAt
    rw [if_pos (by decide), show (-1 : Int) + ((n + 1 : Nat) : Int) = (n : Int) by lia, Int.min_eq_left (Int.ofNat_le.mpr (Nat.le_succ n)), Int.max_eq_right (Int.natCast_nonneg n)]
    rfl
theorem sliceV_dropLast' {α : Type} (xs : List α) : sliceV xs none (some (-1)) = xs.dropLast := by
  unfold sliceV
  simp only [Option.elim, List.drop_zero, Nat.sub_zero]
  rw [List.dropLast_eq_take, clip_neg1]
theorem swaps_List {es : List Expr} {p : Pos} {t : Option Expr} {n : Nat} {env : Env} : swapsWith (.List es p) t n env = pure false := rfl
theorem swaps_IfExp {a b c : Expr} {p : Pos} {t : Option Expr} {n : Nat} {env : Env} : swapsWith (.IfExp a b c p) t n env = pure false := rfl
theorem setL_off {m : Loc} {x y : Str} {v : V} (h : y ≠ x) : setL m x v y = m y := by simp [setL, h]
theorem upd_eq_none {H : AHeap} {a b : Addr} {x : AObj} : upd H a x b = none ↔ b ≠ a ∧ H b = none := by
  unfold upd
  by_cases h : b = a
  · simp [h]
  · simp [h]
theorem DefAt.obj {c : Cx} {f : Addr} {st : Stmt} (F : DefAt c f st) : ∃ fo fd, c.base.get? f = some fo ∧ fo.data = .func fd := by
  obtain ⟨fd, F1, _⟩ := F.at_
  obtain ⟨fo, h1, h2⟩ := F1.obj
  exact ⟨fo, fd, h1, h2⟩
theorem sliceV_drop {α : Type} (xs : List α) (n : Nat) : sliceV xs (some (n : Int)) none = xs.drop n := by
  unfold sliceV
  simp only [Option.elim]
  rcases Nat.le_total n xs.length with h | h
  · rw [clip_nat h, List.take_of_length_le (by rw [List.length_drop]; exact Nat.le_refl _)]
  · rw [clip_big h, List.drop_eq_nil_of_le h, List.drop_eq_nil_of_le (Nat.le_refl _), List.take_nil]
theorem sliceV_last {α : Type} (xs : List α) : sliceV xs (some (-1)) none = xs.drop (xs.length - 1) := by
  unfold sliceV
  simp only [Option.elim]
  rw [clip_neg1, List.take_of_length_le (by rw [List.length_drop]; exact Nat.le_refl _)]
section
variable {k : Wk} {m : Loc} {H : AHeap}
theorem W_AndC {e1 e2 : Expr} {es : List Expr} {pos : Pos} {Q : V → Loc → AHeap → Prop} (h : WV k (eval e1 k.env) m H fun v m1 H1 => ∃ b, v = .bool b ∧ if b = true then WV k (eval (.BoolOp .And (e2 :: es) pos) k.env) m1 H1 Q else Q (.bool false) m1 H1) : WV k (eval (.BoolOp .And (e1 :: e2 :: es) pos) k.env) m H Q := fun B s st =>
  BoolOp_and (wpAny_mono (h B s st) (fun v s1 ⟨m1, H1, st1, b, e, q⟩ => by
    obtain rfl := er_bool e
    refine wpAny_truthy_bool ?_
    cases b with
    | true => exact q B s1 st1
    | false => exact ⟨m1, H1, st1, q⟩) fun _ _ x => x)
theorem W_And1 {e : Expr} {pos : Pos} {Q : V → Loc → AHeap → Prop} (h : WV k (eval e k.env) m H Q) : WV k (eval (.BoolOp .And [e] pos) k.env) m H Q := h
theorem W_getDictE {e : Expr} {pos : Pos} {Q : V → Loc → AHeap → Prop}
    (h : WV k (eval e k.env) m H fun ov m1 H1 => ∃ x C dx fI v, ov = .ref x ∧ ClsAt k.c C fI ∧ H1 x = some (.inst C dx) ∧ H1 dx = some (.attrs v) ∧ (∀ i, v ≠ .bi i) ∧ Q v m1 H1) (he : eval (.Attribute e ("dict" : Str) pos) k.env = (do
      let o ← eval e k.env
      standAt pos.atName
      let r ← holding [o] (getAttr o ("dict" : Str) true)
      letTemporaryGo e o r
      pure r) := by with_unfolding_all rfl) : WV k (eval (.Attribute e ("dict" : Str) pos) k.env) m H Q := fun B s st =>
  Attribute_any_ (wpAny_mono (h B s st) (fun ov s1 hx1 => by
    obtain ⟨m1, H1, st1, x, C, dx, fI, v, e1, hC, hx, hd, hv, q⟩ := hx1
    obtain rfl := er_ref e1
    obtain ⟨cnt, t, u, I, rfl⟩ := inst_at st1 hx hd
    obtain ⟨mv, F⟩ := st1.fr
    refine get_own F k.c.inK I hC.getd hC.hasd hC.findd hC.noget (v := u) ?_ ?_ ⟨m1, H1, st1.toks _ (Nat.le_succ_of_le st1.tk), q⟩
    · unfold getL
      simp [Value.isStr]
    · cases u with
      | builtin i => exact absurd rfl (hv i)
      | _ => rfl) fun _ _ y => y) he
theorem WCmp_eqEmpty {a b : Addr} {p p' : Nat} {Q : V → Loc → AHeap → Prop} (ha : H a = some (.dict [] p)) (hb : H b = some (.dict [] p')) (hu : k.A.units < cLine) (h : Q (.bool true) m H) : WCmp k .Eq (.ref a) (.ref b) m H Q := fun u v hu' hv' => by
  obtain rfl := er_ref hu'
  obtain rfl := er_ref hv'
  refine W.of_wp fun B s st P hp => ?_
  obtain ⟨ra, da, ma⟩ := st.dictAt ha
  obtain ⟨rb, db, mb⟩ := st.dictAt hb
  obtain rfl : ra = [] := by simpa using ma
  obtain rfl : rb = [] := by simpa using mb
  exact keq_eq (r := true) (st.notMods ha) (st.notMods hb) da.dictOf db.dictOf hu (fun _ => .nil) (hp (.bool true) s.toks h)
theorem WCmp_notInTrues {a : Addr} {xs : List V} {Q : V → Loc → AHeap → Prop} (ha : H a = some (.list xs)) (hs : ∀ v ∈ xs, v = .bool true) (h : Q (.bool true) m H) : WCmp k .NotIn (.bool false) (.ref a) m H Q := fun u y hu hy => by
  obtain rfl := er_bool hu
  obtain rfl := er_ref hy
  refine W.of_wp fun B s st P hp => ?_
  obtain ⟨vs, n, hl, rfl⟩ := st.listAt ha
  refine SeqAt.notIn_listAt (items := (vs : List Value).toArray) (fun _ => false) hl.isList (fun v hv => ?_) ?_
  · obtain rfl := er_bool (hs _ (List.mem_map_of_mem (f := er) (show v ∈ vs by simpa using hv)))
    exact SeqAt.EqAt.bool_bool true false
  · have e : (vs.toArray.any fun _ => false) = false := by rw [← Array.any_toList]; simp
    rw [e]; exact hp _ s.toks h
end
noncomputable abbrev Way := Nat × List Str
noncomputable def strsV (ps : List (Str × Tok)) : List V := ps.map fun p => .str p.1 p.2
noncomputable def IsWay (H : AHeap) (w : Way) (v : V) : Prop := ∃ a ps, v = .ref a ∧ H a = some (.tup (.int (w.1 : Int) :: strsV ps)) ∧ ps.map (·.1) = w.2
noncomputable def dataW (w : Way) : PyData := .tuple (.int w.1 :: w.2.map .str)
theorem rdStrs {H : AHeap} : ∀ ps : List (Str × Tok), RdAll H ((ps.map (·.1)).map .str) (strsV ps)
  | [] => rfl
  | p :: ps => ⟨_, _, rfl, ⟨_, rfl⟩, rdStrs ps⟩
theorem IsWay.rd {H : AHeap} {w : Way} {v : V} (h : IsWay H w v) : Rd H (dataW w) v := by
  obtain ⟨a, ps, rfl, h1, h2⟩ := h
  exact ⟨a, _, rfl, h1, _, _, rfl, rfl, by rw [← h2]; exact rdStrs ps⟩
theorem IsWay.fn {H : AHeap} {w w' : Way} {v : V} (h : IsWay H w v) (h' : IsWay H w' v) : w = w' := by
  obtain ⟨a, ps, rfl, h1, h2⟩ := h
  obtain ⟨b, qs, e, h3, h4⟩ := h'
  cases e
  rw [h1] at h3
  have h5 := AObj.tup.inj (Option.some.inj h3)
  injection h5 with h6 h7
  have : ps.map (·.1) = qs.map (·.1) := by
    have := congrArg (fun l : List V => l.map fun v => match v with | .str x _ => x | _ => "") h7
    simpa [strsV, List.map_map, Function.comp_def] using this
  exact Prod.ext (by injection h6 with h6; omega) (by rw [← h2, ← h4, this])
theorem IsWay.ext {H H' : AHeap} {w : Way} {v : V} (h : IsWay H w v) (hE : ∀ a xs, H a = some (.tup xs) → H' a = some (.tup xs)) : IsWay H' w v := by
  obtain ⟨a, ps, e, h1, h2⟩ := h
  exact ⟨a, ps, e, hE _ _ h1, h2⟩
noncomputable def okW (w : Way) : Bool := w.2.all fun x => PyData.strOk x
theorem good_way {w : Way} (h : okW w = true) : good (dataW w) = true := by
  unfold dataW
  simp only [good, goodAll, Bool.true_and]
  unfold okW at h
  revert h
  induction w.2 with
  | nil => intro _; rfl
  | cons x l ih => intro h; rw [List.all_cons, Bool.and_eq_true] at h; simp only [List.map_cons, goodAll, good, h.1, ih h.2, Bool.and_self]
theorem depthAll_strs : ∀ l : List Str, PyData.depthAll (l.map .str) ≤ 1
  | [] => by decide
  | x :: l => by
    have := depthAll_strs l
    simp only [List.map_cons, PyData.depthAll, PyData.depth]
    omega
theorem depth_way (w : Way) : (dataW w).depth ≤ 10 := by
  unfold dataW
  have := depthAll_strs w.2
  simp only [PyData.depth, PyData.depthAll]
  omega
theorem dataW_inj {w w' : Way} (h : dataW w = dataW w') : w = w' := by
  unfold dataW at h
  injection h with h
  injection h with h1 h2
  have : w.2 = w'.2 := by
    have := congrArg (fun l : List PyData => l.map fun v => match v with | .str x => x | _ => "") h2
    simpa [List.map_map, Function.comp_def] using this
  exact Prod.ext (by injection h1 with h1; omega) this
section
variable {k : Wk} {m : Loc} {H : AHeap}
theorem WCmp_eqWay {a b : V} {w w' : Way} {Q : V → Loc → AHeap → Prop} (ha : IsWay H w a) (hb : IsWay H w' b) (ga : okW w = true) (gb : okW w' = true) (hu : k.A.units + 64 < cLine) (h : Q (.bool (decide (w = w'))) m H) : WCmp k .Eq a b m H Q :=
  WCmp_eqD ha.rd hb.rd (good_way ga) (good_way gb) (Nat.le_trans (Nat.min_le_left _ _) (Nat.le_trans (depth_way w) (by decide))) hu (by rw [decide_eq_true_iff]; exact ⟨fun e => by rw [e], dataW_inj⟩) h
theorem WCmp_notInWays {x : V} {w : Way} {a : Addr} {xs : List V} {ws : List Way} {Q : V → Loc → AHeap → Prop} (ha : H a = some (.list xs)) (hl : xs.length = ws.length) (hxs : ∀ (j : Nat) v u, xs[j]? = some v → ws[j]? = some u → IsWay H u v) (hx : IsWay H w x) (gw : ∀ u ∈ ws, okW u = true) (gx : okW w = true) (hu : k.A.units + 64 < cLine)
    (h : Q (.bool (decide (w ∉ ws))) m H) : WCmp k .NotIn x (.ref a) m H Q := fun u y hu' hy => by
  subst hu'
  obtain rfl := er_ref hy
  refine W.of_wp fun B s st P hp => ?_
  obtain ⟨vs, n, hls, rfl⟩ := st.listAt ha
  rw [List.length_map] at hl
  have each : ∀ v ∈ vs, ∃ z ∈ ws, IsWay H z (er v) := fun v hv => by
    obtain ⟨j, hj, rfl⟩ := List.getElem_of_mem hv
    have hz : ws[j]? = some (ws[j]'(hl ▸ hj)) := List.getElem?_eq_getElem _
    exact ⟨_, List.mem_of_getElem? hz, hxs j _ _ (by rw [List.getElem?_map, List.getElem?_eq_getElem hj]; rfl) hz⟩
  haveI : ∀ v : Value, Decidable (IsWay H w (er v)) := fun v => Classical.propDecidable _
  refine SeqAt.notIn_listAt (items := (vs : List Value).toArray) (fun v => decide (IsWay H w (er v))) hls.isList (fun v hv => ?_) ?_
  · obtain ⟨z, hz, hw⟩ := each v (by simpa using hv)
    obtain ⟨as, ra⟩ := Rd.reads st.owned _ v hw.rd
    obtain ⟨bs, rb⟩ := Rd.reads st.owned _ u hx.rd
    have e : PyData.eqv (dataW z) (dataW w) = decide (IsWay H w (er v)) := by
      rw [Bool.eq_iff_iff, eqv_good _ _ (good_way (gw z hz)) (good_way gx), decide_eq_true_iff]
      exact ⟨fun q => by rw [← dataW_inj q]; exact hw, fun q => by rw [hw.fn q]⟩
    rw [← e]
    refine SeqAt.eqAt_reads _ _ _ _ _ _ _ _ ra rb (canLay_good _ (good_way (gw z hz))) (canLay_good _ (good_way gx)) ?_
    have := Nat.le_trans (Nat.min_le_left (dataW z).depth (dataW w).depth) (depth_way z)
    show k.A.units + 1 + _ < _
    omega
  · have e : (!vs.toArray.any fun v => decide (IsWay H w (er v))) = decide (w ∉ ws) := by
      rw [← Array.any_toList, Bool.eq_iff_iff, Bool.not_eq_true', List.any_eq_false, decide_eq_true_iff]
      refine ⟨fun q hw => ?_, fun q v hv => ?_⟩
      · obtain ⟨j, hj, e⟩ := List.getElem_of_mem hw
        have hj' : j < vs.length := hl ▸ hj
        refine absurd (hxs j (er vs[j]) w (by rw [List.getElem?_map, List.getElem?_eq_getElem hj']; rfl) (by rw [List.getElem?_eq_getElem hj, e])) ?_
        have := q vs[j] (by simp)
        simpa using this
      · obtain ⟨z, hz, hw⟩ := each v (by simpa using hv)
        simp only [decide_eq_true_iff]
        exact fun y => q (by rw [← hw.fn y]; exact hz)
    rw [e]; exact hp _ s.toks h
end
end Mine
namespace Mine
theorem snocInd {α : Type} {P : List α → Prop} (nil : P []) (append_singleton : ∀ l x, P l → P (l ++ [x])) : ∀ l, P l := fun l => by
  have : ∀ r : List α, P r.reverse := fun r => by
    induction r with
    | nil => exact nil
    | cons x r ih => rw [List.reverse_cons]; exact append_singleton _ _ ih
  simpa using this l.reverse
inductive KW where
  | table | dict | list | num | text | lists
  deriving DecidableEq
structure LR where
  w : Way
  k : KW
  g : List Int
noncomputable def rowAt (rows : List LR) (w : Way) : Option LR := rows.find? fun r => decide (r.w = w)
noncomputable def pre (r w : Way) : Bool := decide (r.1 = w.1) && decide (r.2 = w.2.take r.2.length)
noncomputable def jumps (ls : Bool) (r : LR) : Bool := decide (r.k = .dict) || (decide (r.k = .list) && ls)
noncomputable def goalOf (r : LR) : Nat := ((r.g.getLast?).getD 0).toNat
noncomputable def isTab (rows : List LR) (w : Way) : Prop := w.2 = [] ∨ ∃ r ∈ rows, r.w = w ∧ r.k = .table
noncomputable def walkW (rows : List LR) (ls : Bool) : Way → List Str → Way × Bool
  | c, [] => (c, true)
  | c, x :: r => match rowAt rows (c.1, c.2 ++ [x]) with
    | none => ((c.1, c.2 ++ x :: r), true)
    | some row => if row.k = .table then walkW rows ls (c.1, c.2 ++ [x]) r else if jumps ls row = true then walkW rows ls (goalOf row, []) r else ((c.1, c.2 ++ x :: r), false)
structure RowsOK (rows : List LR) (n : Nat) : Prop where
  dis : (rows.map (·.w)).Nodup
  rt : ∀ r ∈ rows, r.w.1 < n ∧ r.w.2 ≠ []
  par : ∀ r ∈ rows, ∀ p x, r.w.2 = p ++ [x] → isTab rows (r.w.1, p)
  gl : ∀ r ∈ rows, r.k = .dict ∨ r.k = .list → ∃ g : Nat, r.g.getLast? = some (g : Int) ∧ g < n
  bd : ∀ r ∈ rows, ∀ g ∈ r.g, g < (n : Int)
  one : ∀ r ∈ rows, r.k = .dict → r.g.length = 1
section
variable {rows : List LR} {n : Nat} {ls : Bool}
theorem rowAt_none {w : Way} (h : rowAt rows w = none) : ∀ r ∈ rows, r.w ≠ w := fun r hr e => by
  have := List.find?_eq_none.mp h r hr
  simp [e] at this
theorem rowAt_some {w : Way} {r : LR} (h : rowAt rows w = some r) : r ∈ rows ∧ r.w = w := ⟨List.mem_of_find?_eq_some h, by simpa using List.find?_some h⟩
theorem uniq_of_nodup : ∀ {l : List LR}, (l.map (·.w)).Nodup → ∀ {a b : LR}, a ∈ l → b ∈ l → a.w = b.w → a = b
  | c :: l, h, a, b, ha, hb, e => by
    rw [List.map_cons, List.nodup_cons] at h
    rcases List.mem_cons.mp ha with ea | ha' <;> rcases List.mem_cons.mp hb with eb | hb'
    · rw [ea, eb]
    · exact absurd (List.mem_map.mpr ⟨b, hb', by rw [← e, ea]⟩) h.1
    · exact absurd (List.mem_map.mpr ⟨a, ha', by rw [e, eb]⟩) h.1
    · exact uniq_of_nodup h.2 ha' hb' e
theorem RowsOK.uniq (o : RowsOK rows n) {a b : LR} (ha : a ∈ rows) (hb : b ∈ rows) (e : a.w = b.w) : a = b := uniq_of_nodup o.dis ha hb e
theorem RowsOK.at_ (o : RowsOK rows n) {r : LR} (hr : r ∈ rows) : rowAt rows r.w = some r := by
  cases e : rowAt rows r.w with
  | none => exact absurd rfl (rowAt_none e r hr)
  | some r' => obtain ⟨h1, h2⟩ := rowAt_some e; rw [o.uniq h1 hr h2]
theorem pre_iff {r w : Way} : pre r w = true ↔ r.1 = w.1 ∧ ∃ q, w.2 = r.2 ++ q := by
  unfold pre
  rw [Bool.and_eq_true, decide_eq_true_iff, decide_eq_true_iff]
  refine and_congr_right fun _ => ⟨fun h => ⟨w.2.drop r.2.length, ?_⟩, fun ⟨q, h⟩ => ?_⟩
  · conv => lhs; rw [← List.take_append_drop r.2.length w.2]
    rw [← h]
  · rw [h, List.take_left]
theorem list_snoc {l : List Str} (h : l ≠ []) : ∃ p x, l = p ++ [x] := ⟨l.dropLast, l.getLast h, (List.dropLast_concat_getLast h).symm⟩
theorem RowsOK.up (o : RowsOK rows n) {i : Nat} : ∀ (q p : List Str), isTab rows (i, p ++ q) → isTab rows (i, p) := by
  intro q
  induction q using snocInd with
  | nil => intro p h; rwa [List.append_nil] at h
  | append_singleton q x ih =>
    intro p h
    rcases h with h | ⟨r, hr, hw, hk⟩
    · simp at h
    · refine ih p ?_
      have := o.par r hr (p ++ q) x (by rw [hw, List.append_assoc])
      rwa [hw] at this
theorem RowsOK.tabRow (o : RowsOK rows n) {r : LR} (hr : r ∈ rows) (h : isTab rows r.w) : r.k = .table := by
  rcases h with h | ⟨r', hr', hw, hk⟩
  · exact absurd h (o.rt r hr).2
  · rw [← o.uniq hr' hr hw]; exact hk
theorem RowsOK.above (o : RowsOK rows n) {r : LR} (hr : r ∈ rows) {p q : List Str} (e : r.w.2 = p ++ q) (hq : q ≠ []) : isTab rows (r.w.1, p) := by
  obtain ⟨q', x, rfl⟩ := list_snoc hq
  exact o.up q' p (o.par r hr (p ++ q') x (by rw [e, List.append_assoc]))
theorem walk_tab (o : RowsOK rows n) {i : Nat} : ∀ (p q : List Str), isTab rows (i, p) → walkW rows ls (i, []) (p ++ q) = walkW rows ls (i, p) q := by
  intro p
  induction p using snocInd with
  | nil => intro q _; rfl
  | append_singleton p x ih =>
    intro q h
    rw [List.append_assoc, ih _ (o.up [x] p h)]
    rcases h with h | ⟨r, hr, hw, hk⟩
    · simp at h
    · have := o.at_ hr
      rw [hw] at this
      show walkW rows ls (i, p) (x :: q) = _
      rw [walkW]
      simp only [this]
      rw [if_pos hk]
theorem walk_jump (o : RowsOK rows n) {r : LR} (hr : r ∈ rows) (hj : jumps ls r = true) (q : List Str) : walkW rows ls (r.w.1, []) (r.w.2 ++ q) = walkW rows ls (goalOf r, []) q := by
  obtain ⟨p, x, e⟩ := list_snoc (o.rt r hr).2
  have hp := o.par r hr p x e
  rw [e, List.append_assoc, walk_tab o _ _ hp]
  show walkW rows ls (r.w.1, p) (x :: q) = _
  have := o.at_ hr
  rw [show r.w = (r.w.1, p ++ [x]) from Prod.ext rfl e] at this
  rw [walkW]
  simp only [this]
  have hk : r.k ≠ .table := fun h => by rw [jumps, h] at hj; simp at hj
  rw [if_neg hk, if_pos hj]
theorem walk_stay (o : RowsOK rows n) {i : Nat} : ∀ (q p : List Str), isTab rows (i, p) → (∀ r ∈ rows, jumps ls r = true → pre r.w (i, p ++ q) = false) →
    (walkW rows ls (i, p) q).1 = (i, p ++ q) ∧ ((walkW rows ls (i, p) q).2 = false ↔ ∃ r ∈ rows, pre r.w (i, p ++ q) = true ∧ r.k ≠ .table)
  | [], p, hp, hj => by
    refine ⟨by rw [walkW, List.append_nil], ?_⟩
    rw [walkW]
    refine ⟨fun h => by simp at h, fun ⟨r, hr, h1, h2⟩ => ?_⟩
    rw [List.append_nil, pre_iff] at h1
    obtain ⟨e1, t, e2⟩ := h1
    refine absurd (o.tabRow hr ?_) h2
    have := o.up t r.w.2 (i := i) (by rw [← e2]; exact hp)
    rwa [show r.w = (i, r.w.2) from Prod.ext e1 rfl]
  | x :: q, p, hp, hj => by
    have ea : p ++ x :: q = (p ++ [x]) ++ q := by rw [List.append_assoc]; rfl
    cases e : rowAt rows (i, p ++ [x]) with
    | none =>
      rw [walkW]
      simp only [e]
      refine ⟨trivial, fun h => by simp at h, fun ⟨r, hr, h1, h2⟩ => ?_⟩
      exfalso
      rw [pre_iff] at h1
      obtain ⟨e1, t, e2⟩ := h1
      have hw : r.w = (i, r.w.2) := Prod.ext e1 rfl
      rcases List.append_eq_append_iff.mp (show p ++ x :: q = r.w.2 ++ t from e2) with ⟨a, h3, h4⟩ | ⟨a, h3, h4⟩
      · cases a with
        | nil =>
          rw [List.append_nil] at h3
          exact h2 (o.tabRow hr (by rw [hw, h3]; exact hp))
        | cons y a =>
          have hy : y = x := by have := congrArg List.head? h4; simp at this; exact this.symm
          subst hy
          cases a with
          | nil => exact rowAt_none e r hr (by rw [hw, h3])
          | cons z a =>
            have hab := o.above hr (p := p ++ [y]) (q := z :: a) (by rw [h3, List.append_assoc]; rfl) (by simp)
            rcases hab with hab | ⟨r', hr', hw', _⟩
            · simp at hab
            · exact rowAt_none e r' hr' (by rw [hw', hw])
      · have := o.up a r.w.2 (i := i) (by rw [← h3]; exact hp)
        exact h2 (o.tabRow hr (by rw [hw]; exact this))
    | some row =>
      obtain ⟨hr, hw⟩ := rowAt_some e
      have hpr : pre row.w (i, p ++ x :: q) = true := pre_iff.mpr ⟨by rw [hw], q, by rw [hw, ea]⟩
      rw [walkW]
      simp only [e]
      by_cases hk : row.k = .table
      · rw [if_pos hk, ea]
        exact walk_stay o q (p ++ [x]) (.inr ⟨row, hr, hw, hk⟩) (by rw [← ea]; exact hj)
      · rw [if_neg hk, if_neg (fun h => by have := hj row hr h; rw [hpr] at this; cases this)]
        exact ⟨rfl, fun _ => ⟨row, hr, hpr, hk⟩, fun _ => rfl⟩
noncomputable def addT (i : Nat) : List LR → List Str → List Str → List LR
  | rows, p, [] => rows
  | rows, p, x :: q => if rowAt rows (i, p ++ [x]) = none then addT i (rows ++ [⟨(i, p ++ [x]), .table, []⟩]) (p ++ [x]) q else addT i rows (p ++ [x]) q
theorem addT_snoc (i : Nat) : ∀ (q : List Str) (rows : List LR) (p : List Str) (x : Str), addT i rows p (q ++ [x]) = if rowAt (addT i rows p q) (i, p ++ q ++ [x]) = none then addT i rows p q ++ [⟨(i, p ++ q ++ [x]), .table, []⟩] else addT i rows p q
  | [], rows, p, x => by simp [addT]
  | y :: q, rows, p, x => by
    have e : p ++ y :: q ++ [x] = p ++ [y] ++ q ++ [x] := by simp
    rw [List.cons_append, addT, addT, e]
    split
    · exact addT_snoc i q _ _ x
    · exact addT_snoc i q _ _ x
theorem addT_tab (o : RowsOK rows n) {i : Nat} : ∀ (p q : List Str), isTab rows (i, p) → addT i rows [] (p ++ q) = addT i rows p q := by
  intro p
  induction p using snocInd with
  | nil => intro q _; rfl
  | append_singleton p x ih =>
    intro q h
    rw [List.append_assoc, ih _ (o.up [x] p h)]
    rcases h with h | ⟨r, hr, hw, hk⟩
    · simp at h
    · show addT i rows p (x :: q) = _
      rw [addT, if_neg]
      have := o.at_ hr
      rw [hw] at this
      rw [this]; simp
theorem isTab.mono {rows' : List LR} (h : ∀ r ∈ rows, r ∈ rows') {w : Way} (t : isTab rows w) : isTab rows' w := t.imp id fun ⟨r, hr, q⟩ => ⟨r, h r hr, q⟩
theorem RowsOK.snoc (o : RowsOK rows n) {r : LR} {p : List Str} {x : Str} (hw : r.w.2 = p ++ [x]) (hn : rowAt rows r.w = none) (ht : isTab rows (r.w.1, p)) (hi : r.w.1 < n)
    (hg : r.k = .dict ∨ r.k = .list → ∃ g : Nat, r.g.getLast? = some (g : Int) ∧ g < n) (hb : ∀ g ∈ r.g, g < (n : Int)) (h1 : r.k = .dict → r.g.length = 1) : RowsOK (rows ++ [r]) n := by
  have hm : ∀ a ∈ rows, a ∈ rows ++ [r] := fun a h => List.mem_append_left _ h
  refine ⟨?_, fun a h => ?_, fun a h p' x' e => ?_, fun a h => ?_, fun a h => ?_, fun a h => ?_⟩
  · rw [List.map_append, List.nodup_append]
    refine ⟨o.dis, by simp, fun a ha b hb => ?_⟩
    obtain ⟨c, hc, rfl⟩ := List.mem_map.mp ha
    have hb : b = r.w := by simpa using hb
    rw [hb]
    exact rowAt_none hn c hc
  · rcases List.mem_append.mp h with h | h
    · exact o.rt a h
    · obtain rfl := List.mem_singleton.mp h
      exact ⟨hi, by rw [hw]; simp⟩
  · rcases List.mem_append.mp h with h | h
    · exact (o.par a h p' x' e).mono hm
    · obtain rfl := List.mem_singleton.mp h
      have := hw.symm.trans e
      obtain ⟨rfl, _⟩ := List.append_inj' this rfl
      exact ht.mono hm
  · rcases List.mem_append.mp h with h | h
    · exact o.gl a h
    · obtain rfl := List.mem_singleton.mp h
      exact hg
  · rcases List.mem_append.mp h with h | h
    · exact o.bd a h
    · obtain rfl := List.mem_singleton.mp h
      exact hb
  · rcases List.mem_append.mp h with h | h
    · exact o.one a h
    · obtain rfl := List.mem_singleton.mp h
      exact h1
theorem RowsOK.below (o : RowsOK rows n) {i : Nat} {p : List Str} (hp : p ≠ []) (hn : rowAt rows (i, p) = none) {q : List Str} : rowAt rows (i, p ++ q) = none := by
  cases e : rowAt rows (i, p ++ q) with
  | none => rfl
  | some r =>
    obtain ⟨hr, hw⟩ := rowAt_some e
    cases q with
    | nil => rw [List.append_nil] at e; rw [hn] at e; cases e
    | cons y q =>
      have := o.above hr (p := p) (q := y :: q) (by rw [hw]) (by simp)
      rcases this with h | ⟨r', hr', hw', _⟩
      · exact absurd h hp
      · exact absurd (by rw [hw', hw]) (rowAt_none hn r' hr')
theorem rowAt_append {rows2 : List LR} {w : Way} : rowAt (rows ++ rows2) w = (rowAt rows w).or (rowAt rows2 w) := by
  unfold rowAt
  rw [List.find?_append]
end
end Mine
namespace Mine
inductive Tag where
  | tab (w : Way) | lst (w : Way) | out (w : Way) | emp | goal (w : Way) | sys | marks (w : Way)
noncomputable def Tag.tree : Tag → Bool
  | .lst _ => true
  | .out _ => true
  | .emp => true
  | _ => false
noncomputable abbrev Ghost := Addr → Option Tag
noncomputable abbrev Vals := Way → V
noncomputable def lastN (w : Way) : Str := (w.2.getLast?).getD ""
noncomputable def parN (w : Way) : Way := (w.1, w.2.dropLast)
noncomputable def kids (rows : List LR) (VA : Vals) (w : Way) : List (Key × V) := (rows.filter fun r => decide (parN r.w = w)).map fun r => (.inr (lastN r.w), VA r.w)
noncomputable def ItemsAt (VA : Vals) (G : Ghost) (H : AHeap) (gs : List Int) (l : Addr) : Prop :=
  ∃ vs, H l = some (.list vs) ∧ vs.length = gs.length ∧ ∀ (j : Nat) g v, gs[j]? = some g → vs[j]? = some v → if g < 0 then ∃ e ep, v = .ref e ∧ G e = some .emp ∧ H e = some (.dict [] ep) else v = VA (g.toNat, [])
noncomputable def LeadsR (VA : Vals) (G : Ghost) (H : AHeap) (r : LR) : Prop := match r.k with
  | .table => True
  | .dict => VA r.w = VA (goalOf r, [])
  | .num => VA r.w = .int 0
  | .text => ∃ t, VA r.w = .str "a" t
  | .list => ∃ l, VA r.w = .ref l ∧ G l = some (.lst r.w) ∧ ItemsAt VA G H r.g l
  | .lists => ∃ l l', VA r.w = .ref l ∧ G l = some (.out r.w) ∧ G l' = some (.lst r.w) ∧ H l = some (.list [.ref l']) ∧ ItemsAt VA G H r.g l'
structure HR (rows : List LR) (n : Nat) (VA : Vals) (G : Ghost) (H : AHeap) : Prop where
  tab : ∀ w : Way, w.1 < n → isTab rows w → ∃ a ep, VA w = .ref a ∧ G a = some (.tab w) ∧ H a = some (.dict (kids rows VA w) ep)
  val : ∀ r ∈ rows, LeadsR VA G H r
  live : ∀ a t, G a = some t → H a ≠ none
noncomputable def updG (G : Ghost) (a : Addr) (t : Tag) : Ghost := fun b => if b = a then some t else G b
noncomputable def updV (VA : Vals) (w : Way) (v : V) : Vals := fun u => if u = w then v else VA u
section
variable {rows : List LR} {n : Nat} {ls : Bool} {VA VA' : Vals} {G G' : Ghost} {H H' : AHeap}
theorem ItemsAt.mono {gs : List Int} {l : Addr} (h : ItemsAt VA G H gs l) (hl : ∃ w, G l = some (.lst w)) (hv : ∀ g, VA' (g, []) = VA (g, [])) (hg : ∀ a t, G a = some t → G' a = some t) (hk : ∀ a y t, H a = some y → G a = some t → t.tree = true → H' a = some y) : ItemsAt VA' G' H' gs l := by
  obtain ⟨vs, h1, h2, h3⟩ := h
  obtain ⟨w, hw⟩ := hl
  refine ⟨vs, hk _ _ _ h1 hw rfl, h2, fun j g v e1 e2 => ?_⟩
  have := h3 j g v e1 e2
  split at this
  · rename_i hl
    rw [if_pos hl]
    obtain ⟨e, ep, q1, q2, q3⟩ := this
    exact ⟨e, ep, q1, hg _ _ q2, hk _ _ _ q3 q2 rfl⟩
  · rename_i hl
    rw [if_neg hl, hv]; exact this
theorem LeadsR.mono {r : LR} (h : LeadsR VA G H r) (hr : VA' r.w = VA r.w) (hv : ∀ g, VA' (g, []) = VA (g, [])) (hg : ∀ a t, G a = some t → G' a = some t) (hk : ∀ a y t, H a = some y → G a = some t → t.tree = true → H' a = some y) : LeadsR VA' G' H' r := by
  unfold LeadsR at h ⊢
  rw [hr]
  split at h
  · trivial
  · rw [hv]; exact h
  · exact h
  · exact h
  · obtain ⟨l, h1, h2, h3⟩ := h
    exact ⟨l, h1, hg _ _ h2, h3.mono ⟨_, h2⟩ hv hg hk⟩
  · obtain ⟨l, l', h1, h2, h3, h4, h5⟩ := h
    exact ⟨l, l', h1, hg _ _ h2, hg _ _ h3, hk _ _ _ h4 h2 rfl, h5.mono ⟨_, h3⟩ hv hg hk⟩
theorem way_eq {c w : Way} {x : Str} (hw : w.2 ≠ []) : w = (c.1, c.2 ++ [x]) ↔ parN w = c ∧ lastN w = x := by
  obtain ⟨p, y, e⟩ := list_snoc hw
  obtain ⟨i, l⟩ := w
  obtain ⟨j, q⟩ := c
  simp only at e
  subst e
  simp only [parN, lastN, List.dropLast_concat, List.getLast?_append, List.getLast?_singleton, Option.some_or, Option.getD_some, Prod.mk.injEq]
  refine ⟨fun ⟨h1, h2⟩ => ?_, fun ⟨⟨h1, h2⟩, h3⟩ => ⟨h1, by rw [h2, h3]⟩⟩
  obtain ⟨h3, h4⟩ := List.append_inj' h2 rfl
  exact ⟨⟨h1, h3⟩, by simpa using h4⟩
theorem getK_kids {c : Way} {x : Str} : ∀ (rows : List LR), (∀ r ∈ rows, r.w.2 ≠ []) → getK (kids rows VA c) (.inr x) = (rowAt rows (c.1, c.2 ++ [x])).map fun r => VA r.w
  | [], _ => rfl
  | r :: rows, h => by
    have ih := getK_kids (c := c) (x := x) rows fun a ha => h a (List.mem_cons_of_mem _ ha)
    have hr := h r List.mem_cons_self
    unfold kids rowAt at ih ⊢
    rw [List.filter_cons, List.find?_cons]
    by_cases h1 : parN r.w = c
    · rw [if_pos (by simpa using h1), List.map_cons, getK]
      by_cases h2 : lastN r.w = x
      · rw [if_pos (by rw [h2]), decide_eq_true ((way_eq hr).mpr ⟨h1, h2⟩)]; rfl
      · rw [if_neg (fun e => h2 (Sum.inr.inj e)), decide_eq_false (fun e => h2 ((way_eq hr).mp e).2)]; exact ih
    · rw [if_neg (by simpa using h1), decide_eq_false (fun e => h1 ((way_eq hr).mp e).1)]; exact ih
theorem kids_length (w : Way) : (kids rows VA w).length ≤ rows.length := by
  unfold kids
  rw [List.length_map]
  exact List.length_filter_le _ _
theorem kids_congr {w : Way} (h : ∀ r ∈ rows, VA' r.w = VA r.w) : kids rows VA' w = kids rows VA w := by
  unfold kids
  exact List.map_congr_left fun r hr => by rw [h r (List.mem_filter.mp hr).1]
theorem kids_append {rows2 : List LR} {w : Way} : kids (rows ++ rows2) VA w = kids rows VA w ++ kids rows2 VA w := by
  unfold kids; rw [List.filter_append, List.map_append]
theorem kids_none {w : Way} (h : ∀ r ∈ rows, parN r.w ≠ w) : kids rows VA w = [] := by
  unfold kids
  rw [List.filter_eq_nil_iff.mpr (fun r hr => by simpa using h r hr)]; rfl
theorem parN_snoc {i : Nat} {p : List Str} {x : Str} : parN (i, p ++ [x]) = (i, p) := by simp [parN]
theorem lastN_snoc {i : Nat} {p : List Str} {x : Str} : lastN (i, p ++ [x]) = x := by simp [lastN]
theorem RowsOK.noKid (o : RowsOK rows n) {w : Way} (hw : w.2 ≠ []) (hn : rowAt rows w = none) : ∀ r ∈ rows, parN r.w ≠ w := fun r hr e => by
  obtain ⟨p, x, q⟩ := list_snoc (o.rt r hr).2
  have := o.below (i := w.1) (p := w.2) hw hn (q := [x])
  refine rowAt_none this r hr ?_
  rw [← e]
  exact Prod.ext rfl (by rw [q]; simp [parN, q])
theorem HR.newTab (o : RowsOK rows n) (h : HR rows n VA G H) {c : Way} {x : Str} {b d : Addr} {ep : Nat} (hc : c.1 < n) (ht : isTab rows c) (hn : rowAt rows (c.1, c.2 ++ [x]) = none) (hb : VA c = .ref b) (hd : H d = none) :
    HR (rows ++ [⟨(c.1, c.2 ++ [x]), .table, []⟩]) n (updV VA (c.1, c.2 ++ [x]) (.ref d)) (updG G d (.tab (c.1, c.2 ++ [x]))) (upd (upd H d (.dict [] 0)) b (.dict (kids rows VA c ++ [(.inr x, .ref d)]) (ep + 1))) := by
  obtain ⟨b', ep', e1, e2, e3⟩ := h.tab c hc ht
  obtain rfl : b = b' := by rw [hb] at e1; exact V.ref.inj e1
  have hbd : b ≠ d := fun e => by rw [e, hd] at e3; cases e3
  have hv : ∀ r ∈ rows, updV VA (c.1, c.2 ++ [x]) (.ref d) r.w = VA r.w := fun r hr => if_neg (rowAt_none hn r hr)
  have hv0 : ∀ g, updV VA (c.1, c.2 ++ [x]) (.ref d) (g, []) = VA (g, []) := fun g => if_neg (fun e => by have := congrArg Prod.snd e; simp at this)
  have hg : ∀ a t, G a = some t → updG G d (.tab (c.1, c.2 ++ [x])) a = some t := fun a t e => by
    unfold updG
    rw [if_neg (fun z => by rw [z] at e; exact h.live d t e hd)]; exact e
  have hne : (c.1, c.2 ++ [x]) ≠ c := fun e => by have := congrArg (fun w : Way => w.2.length) e; simp at this
  refine ⟨fun w hw htw => ?_, fun r hr => ?_, fun a t e => ?_⟩
  · have hk : kids (rows ++ [⟨(c.1, c.2 ++ [x]), .table, []⟩]) (updV VA (c.1, c.2 ++ [x]) (.ref d)) w = kids rows VA w ++ if c = w then [(.inr x, .ref d)] else [] := by
      rw [kids_append, kids_congr hv]
      congr 1
      unfold kids
      rw [List.filter_cons, List.filter_nil, parN_snoc]
      by_cases q : c = w
      · rw [if_pos (by simpa using q), if_pos q, List.map_cons, List.map_nil, lastN_snoc]; simp [updV]
      · rw [if_neg (by simpa using q), if_neg q, List.map_nil]
    by_cases q : w = (c.1, c.2 ++ [x])
    · refine ⟨d, 0, by rw [q]; simp [updV], by rw [q]; simp [updG], ?_⟩
      rw [hk, if_neg (fun z => hne (q.symm.trans (show w = c from z.symm))), List.append_nil, q, kids_none (o.noKid (by simp) hn)]
      exact upd_ne (Ne.symm hbd) upd_same
    · have ht' : isTab rows w := htw.imp id fun ⟨r, hr, q1, q2⟩ => by
        rcases List.mem_append.mp hr with hr | hr
        · exact ⟨r, hr, q1, q2⟩
        · obtain rfl := List.mem_singleton.mp hr
          exact absurd q1.symm q
      obtain ⟨a, epa, f1, f2, f3⟩ := h.tab w hw ht'
      by_cases qc : c = w
      · subst qc
        refine ⟨b, ep + 1, by rw [show updV VA (c.1, c.2 ++ [x]) (.ref d) c = VA c from if_neg (Ne.symm hne)]; exact hb, hg _ _ e2, ?_⟩
        rw [hk, if_pos rfl]; exact upd_same
      · have hab : a ≠ b := fun e => by rw [e, e2] at f2; exact qc (Tag.tab.inj (Option.some.inj f2))
        have had : a ≠ d := fun e => by rw [e, hd] at f3; cases f3
        refine ⟨a, epa, by rw [show updV VA (c.1, c.2 ++ [x]) (.ref d) w = VA w from if_neg q]; exact f1, hg _ _ f2, ?_⟩
        rw [hk, if_neg qc, List.append_nil]
        exact upd_ne hab (upd_ne had f3)
  · rcases List.mem_append.mp hr with hr | hr
    · refine (h.val r hr).mono (hv r hr) hv0 hg fun a y t q1 q2 q3 => ?_
      have hab : a ≠ b := fun e => by rw [e, e2] at q2; cases q2; cases q3
      have had : a ≠ d := fun e => by rw [e, hd] at q1; cases q1
      exact upd_ne hab (upd_ne had q1)
    · obtain rfl := List.mem_singleton.mp hr
      trivial
  · unfold updG at e
    split at e
    · rename_i q; rw [q, upd_ne (Ne.symm hbd) upd_same]; simp
    · rename_i q
      have := h.live a t e
      by_cases qb : a = b
      · rw [qb, upd_same]; simp
      · intro z
        unfold upd at z
        rw [if_neg qb, if_neg q] at z
        exact this z
end
end Mine
namespace Mine
structure Aft (rows : List LR) (n : Nat) (VA : Vals) (G : Ghost) (H : AHeap) (rows' : List LR) (VA' : Vals) (G' : Ghost) (H' : AHeap) : Prop where
  ok : RowsOK rows' n
  hr : HR rows' n VA' G' H'
  keep : ∀ a y, H a = some y → (∀ kvs ep, y ≠ .dict kvs ep) → H' a = some y
  keepN : ∀ a, H' a = none → H a = none
  gext : ∀ a t, G a = some t → G' a = some t
  gnew : ∀ a t, G' a = some t → G a = some t ∨ H a = none
  vext : ∀ w, isTab rows w → VA' w = VA w
  sub : ∀ r ∈ rows, r ∈ rows'
  new : ∀ r ∈ rows', r ∈ rows ∨ (r.k = .table ∧ r.g = [])
section
variable {rows rows' rows'' : List LR} {n : Nat} {ls : Bool} {VA VA' VA'' : Vals} {G G' G'' : Ghost} {H H' H'' : AHeap}
theorem Aft.refl (o : RowsOK rows n) (h : HR rows n VA G H) : Aft rows n VA G H rows VA G H :=
  ⟨o, h, fun _ _ e _ => e, fun _ e => e, fun _ _ e => e, fun _ _ e => .inl e, fun _ _ => rfl, fun _ h => h, fun _ h => .inl h⟩
theorem Aft.trans (x : Aft rows n VA G H rows' VA' G' H') (y : Aft rows' n VA' G' H' rows'' VA'' G'' H'') : Aft rows n VA G H rows'' VA'' G'' H'' :=
  ⟨y.ok, y.hr, fun a z e q => y.keep a z (x.keep a z e q) q, fun a e => x.keepN a (y.keepN a e), fun a t e => y.gext a t (x.gext a t e), fun a t e => (y.gnew a t e).elim (x.gnew a t) fun q => .inr (x.keepN a q),
    fun w t => (y.vext w (t.mono x.sub)).trans (x.vext w t), fun r h => y.sub r (x.sub r h), fun r h => (y.new r h).elim (x.new r) .inr⟩
theorem Aft.newTab (o : RowsOK rows n) (h : HR rows n VA G H) {c : Way} {x : Str} {b d : Addr} {ep : Nat} (hc : c.1 < n) (ht : isTab rows c) (hn : rowAt rows (c.1, c.2 ++ [x]) = none) (hb : VA c = .ref b) (hd : H d = none) (hbH : H b = some (.dict (kids rows VA c) ep)) :
    Aft rows n VA G H (rows ++ [⟨(c.1, c.2 ++ [x]), .table, []⟩]) (updV VA (c.1, c.2 ++ [x]) (.ref d)) (updG G d (.tab (c.1, c.2 ++ [x]))) (upd (upd H d (.dict [] 0)) b (.dict (kids rows VA c ++ [(.inr x, .ref d)]) (ep + 1))) := by
  refine ⟨o.snoc rfl hn ht hc (fun h => by simp at h) (by simp) (fun h => by simp at h), h.newTab o hc ht hn hb hd, fun a y e q => ?_, fun a e => ?_, fun a t e => ?_, fun a t e => ?_, fun w t => ?_, fun r hr => List.mem_append_left _ hr, fun r hr => ?_⟩
  · exact upd_ne (fun z => by rw [z, hbH] at e; cases e; exact q _ _ rfl) (upd_ne (fun z => by rw [z, hd] at e; cases e) e)
  · unfold upd at e
    split at e
    · cases e
    · split at e
      · cases e
      · exact e
  · unfold updG
    rw [if_neg (fun z => by rw [z] at e; exact h.live d t e hd)]; exact e
  · unfold updG at e
    split at e
    · rename_i q; exact .inr (q ▸ hd)
    · exact .inl e
  · exact if_neg (fun e => by
      rcases t with t | ⟨r, hr, q, _⟩
      · rw [e] at t; simp at t
      · exact rowAt_none hn r hr (q.trans e))
  · rcases List.mem_append.mp hr with hr | hr
    · exact .inl hr
    · exact .inr (by obtain rfl := List.mem_singleton.mp hr; exact ⟨rfl, rfl⟩)
theorem walk_fresh (o : RowsOK rows n) {i : Nat} {p : List Str} (h : ∀ y q, rowAt rows (i, p ++ y :: q) = none) : ∀ q, walkW rows ls (i, p) q = ((i, p ++ q), true)
  | [] => by rw [walkW, List.append_nil]
  | y :: q => by rw [walkW]; simp only [h y []]
theorem gw_rows {Q : Addr → AHeap → Prop} {X : String → Option (List V) → AHeap → Prop} : ∀ (keys : List Str) (rows : List LR) (VA : Vals) (G : Ghost) (H : AHeap) (c : Way) (b : Addr), RowsOK rows n → HR rows n VA G H → c.1 < n → isTab rows c → VA c = .ref b → rows.length + keys.length ≤ 10000 → (∀ r ∈ rows, r.g.length ≤ 10000) →
    (∀ wf, walkW rows ls c keys = (wf, true) → ∀ a rows' VA' G' H', rows' = addT wf.1 rows [] wf.2 → Aft rows n VA G H rows' VA' G' H' → VA' wf = .ref a → isTab rows' wf → wf.1 < n → Q a H') →
    ((walkW rows ls c keys).2 = false → ∀ t, X "KeyError" (some [.str nestMsg t]) H) → Gw ls Q X keys b H
  | [], rows, VA, G, H, c, b, o, h, hc, ht, hb, hl, hg, hQ, hX => by
    refine hQ c rfl b rows VA G H ?_ (.refl o h) hb ht hc
    have := addT_tab o c.2 [] (i := c.1) ht
    rw [List.append_nil] at this
    rw [this]; rfl
  | x :: r, rows, VA, G, H, c, b, o, h, hc, ht, hb, hl, hg, hQ, hX => by
    obtain ⟨b', ep, e1, e2, e3⟩ := h.tab c hc ht
    obtain rfl : b = b' := by rw [hb] at e1; exact V.ref.inj e1
    have hz : sizeLine = _ := sizeLine_eq
    have hkl := kids_length (rows := rows) (VA := VA) c
    rw [List.length_cons] at hl
    refine ⟨_, ep, e3, by rw [hz]; omega, ?_⟩
    rw [getK_kids rows fun r hr => (o.rt r hr).2]
    rw [walkW] at hX hQ
    have into : ∀ (c' : Way) (d : Addr) (v w : V), c'.1 < n → isTab rows c' → VA c' = .ref d → v = .ref d → (∀ wf, walkW rows ls c' r = (wf, true) → ∀ a rows' VA' G' H', rows' = addT wf.1 rows [] wf.2 → Aft rows n VA G H rows' VA' G' H' → VA' wf = .ref a → isTab rows' wf → wf.1 < n → Q a H') →
        ((walkW rows ls c' r).2 = false → ∀ t, X "KeyError" (some [.str nestMsg t]) H) → GwV ls Q X r v H := fun c' d v w hc' ht' hb' hv hQ' hX' => by
      obtain ⟨d', epd, f1, f2, f3⟩ := h.tab c' hc' ht'
      obtain rfl : d = d' := by rw [hb'] at f1; exact V.ref.inj f1
      subst hv
      refine ⟨by simp [tyOf, f3], fun a xs q1 q2 => (by cases q1; rw [f3] at q2; cases q2), ?_⟩
      simp only [lastOf, f3, tyOf, isDict, if_true]
      exact ⟨by simp, d, rfl, gw_rows r rows VA G H c' d o h hc' ht' hb' (by omega) hg hQ' hX'⟩
    have isn : ∀ g, g < n → isTab rows (g, []) := fun g _ => .inl rfl
    have root : ∀ g, g < n → ∃ d, VA (g, []) = .ref d := fun g hg => by obtain ⟨d, _, q, _⟩ := h.tab (g, []) hg (.inl rfl); exact ⟨d, q⟩
    cases e : rowAt rows (c.1, c.2 ++ [x]) with
    | none =>
      simp only [e] at hX hQ
      simp only [Option.map_none]
      intro d hd
      have x1 := Aft.newTab o h hc ht e hb hd e3
      have fr : ∀ y q, rowAt (rows ++ [⟨(c.1, c.2 ++ [x]), .table, []⟩]) (c.1, c.2 ++ [x] ++ y :: q) = none := fun y q => by
        rw [rowAt_append, o.below (p := c.2 ++ [x]) (by simp) e]
        unfold rowAt
        rw [List.find?_cons, decide_eq_false (by simp)]; rfl
      have wf := walk_fresh (ls := ls) x1.ok (i := c.1) (p := c.2 ++ [x]) fr r
      refine gw_rows r (rows ++ [⟨(c.1, c.2 ++ [x]), .table, []⟩]) _ _ _ (c.1, c.2 ++ [x]) d x1.ok x1.hr hc (.inr ⟨_, List.mem_append_right _ (List.mem_singleton.mpr rfl), rfl, rfl⟩) (if_pos rfl) (by rw [List.length_append, List.length_singleton]; omega) (fun r' hr' => ?_) (fun w hw a rows' VA' G' H' q1 q2 q3 q4 q5 => ?_) (fun q => ?_)
      · rcases x1.new r' hr' with q | ⟨_, q⟩
        · exact hg r' q
        · rw [q]; simp
      · rw [wf] at hw
        obtain rfl : (c.1, c.2 ++ [x] ++ r) = w := (Prod.mk.inj hw).1
        have ew : (c.1, c.2 ++ [x] ++ r) = ((c.1, c.2 ++ x :: r) : Way) := by rw [List.append_assoc]; rfl
        refine hQ _ rfl a rows' VA' G' H' ?_ (x1.trans q2) (by rw [← ew]; exact q3) (by rw [← ew]; exact q4) q5
        rw [q1]
        show addT c.1 (rows ++ [_]) [] (c.2 ++ [x] ++ r) = addT c.1 rows [] (c.2 ++ x :: r)
        rw [addT_tab x1.ok (c.2 ++ [x]) r (.inr ⟨_, List.mem_append_right _ (List.mem_singleton.mpr rfl), rfl, rfl⟩), addT_tab o c.2 (x :: r) ht, addT, if_pos e]
      · rw [wf] at q; cases q
    | some row =>
      obtain ⟨hr, hw⟩ := rowAt_some e
      simp only [e] at hX hQ
      simp only [Option.map_some]
      have hv := h.val row hr
      have hgl := hg row hr
      unfold LeadsR at hv
      have stop : ∀ w, (walkW rows ls c (x :: r)).2 = false → lastOf ls H (VA row.w) = some w → tyOf H w ≠ none → isDict H w = false → tyOf H (VA row.w) ≠ none → (∀ a xs, VA row.w = .ref a → H a = some (.list xs) → xs.length < 2 ^ 62) → GwV ls Q X r (VA row.w) H := fun w q1 q2 q3 q4 q5 q6 => by
        refine ⟨q5, q6, ?_⟩
        rw [q2]
        refine ⟨q3, ?_⟩
        rw [q4, if_neg Bool.false_ne_true]
        refine hX ?_
        rw [walkW] at q1
        simp only [e] at q1
        exact q1
      have itl : ∀ l gs, ItemsAt VA G H gs l → gs.length ≤ 10000 → ∃ vs, H l = some (.list vs) ∧ vs.length < 2 ^ 62 := fun l gs ⟨vs, z1, z2, _⟩ z => ⟨vs, z1, by omega⟩
      have wk : (walkW rows ls c (x :: r)) = if row.k = .table then walkW rows ls (c.1, c.2 ++ [x]) r else if jumps ls row = true then walkW rows ls (goalOf row, []) r else ((c.1, c.2 ++ x :: r), false) := by
        rw [walkW]; simp only [e]
      cases hk : row.k with
      | table =>
        rw [hk] at hv
        simp only [hk, if_true] at hX hQ
        have htt : isTab rows (c.1, c.2 ++ [x]) := .inr ⟨row, hr, hw, hk⟩
        obtain ⟨d, epd, f1, f2, f3⟩ := h.tab (c.1, c.2 ++ [x]) hc htt
        exact into (c.1, c.2 ++ [x]) d _ .none hc htt f1 (by rw [hw]; exact f1) hQ hX
      | dict =>
        simp only [hk] at hv
        obtain ⟨g, g1, g2⟩ := o.gl row hr (.inl hk)
        have hgo : goalOf row = g := by unfold goalOf; rw [g1]; rfl
        simp only [hk, if_neg (show ¬ (KW.dict = KW.table) by decide), show jumps ls row = true by simp [jumps, hk], if_true, hgo] at hX hQ
        rw [hgo] at hv
        obtain ⟨d, f1⟩ := root g g2
        exact into (g, []) d _ .none g2 (isn g g2) f1 (by rw [hv]; exact f1) hQ hX
      | num =>
        simp only [hk] at hv
        refine stop (.int 0) (by rw [wk, hk]; simp [jumps, hk]) (by rw [hv]; rfl) (by simp [tyOf]) rfl (by rw [hv]; simp [tyOf]) (fun a xs q => by rw [hv] at q; cases q)
      | text =>
        simp only [hk] at hv
        obtain ⟨t, hv⟩ := hv
        refine stop (.str "a" t) (by rw [wk, hk]; simp [jumps, hk]) (by rw [hv]; rfl) (by simp [tyOf]) rfl (by rw [hv]; simp [tyOf]) (fun a xs q => by rw [hv] at q; cases q)
      | list =>
        simp only [hk] at hv
        obtain ⟨l, hv1, hv2, hv3⟩ := hv
        obtain ⟨vs, z1, z2⟩ := itl _ _ hv3 hgl
        have hty : tyOf H (VA row.w) ≠ none := by rw [hv1]; simp [tyOf, z1]
        have hsz : ∀ a xs, VA row.w = .ref a → H a = some (.list xs) → xs.length < 2 ^ 62 := fun a xs q1 q2 => by
          rw [hv1] at q1; cases q1; rw [z1] at q2; cases q2; exact z2
        have again := fun (g : Nat) (d : Addr) (g2 : g < n) (f1 : VA (g, []) = .ref d) => @gw_rows Q X r rows VA G H (g, []) d o h g2 (isn g g2) f1 (by omega) hg
        cases ls with
        | false =>
          refine stop (.ref l) (by rw [wk, hk]; simp [jumps, hk]) (by rw [hv1]; simp [lastOf, z1]) (by simp [tyOf, z1]) (by simp [isDict, z1]) hty hsz
        | true =>
          obtain ⟨g, g1, g2⟩ := o.gl row hr (.inr hk)
          have hgo : goalOf row = g := by unfold goalOf; rw [g1]; rfl
          simp only [hk, if_neg (show ¬ (KW.list = KW.table) by decide), show jumps true row = true by simp [jumps, hk], if_true, hgo] at hX hQ
          obtain ⟨d, f1⟩ := root g g2
          obtain ⟨d', epd, q1, q2, q3⟩ := h.tab (g, []) g2 (isn g g2)
          obtain rfl : d = d' := by rw [f1] at q1; exact V.ref.inj q1
          have hlast : vs.getLast? = some (.ref d) := by
            obtain ⟨vs', y1, y2, y3⟩ := hv3
            obtain rfl : vs = vs' := by rw [z1] at y1; exact AObj.list.inj (Option.some.inj y1)
            rw [List.getLast?_eq_getElem?] at g1 ⊢
            have hlt : vs.length - 1 < vs.length := by
              have := (List.getElem?_eq_some_iff.mp g1).1
              omega
            rw [← y2] at g1
            have := y3 _ _ _ g1 (List.getElem?_eq_getElem hlt)
            rw [if_neg (by omega)] at this
            rw [List.getElem?_eq_getElem hlt, this]
            show some (VA (g, [])) = _
            rw [f1]
          refine ⟨hty, hsz, ?_⟩
          have : lastOf true H (VA row.w) = some (.ref d) := by rw [hv1]; simp only [lastOf, z1]; exact hlast
          rw [this]
          refine ⟨by simp [tyOf, q3], ?_⟩
          rw [show isDict H (.ref d) = true by simp [isDict, q3], if_pos rfl]
          exact ⟨d, rfl, again g d g2 f1 hQ hX⟩
      | lists =>
        simp only [hk] at hv
        obtain ⟨l, l', hv1, hv2, hv3, hv4, hv5⟩ := hv
        obtain ⟨vs, z1, z2⟩ := itl _ _ hv5 hgl
        have hty : tyOf H (VA row.w) ≠ none := by rw [hv1]; simp [tyOf, hv4]
        have hsz : ∀ a xs, VA row.w = .ref a → H a = some (.list xs) → xs.length < 2 ^ 62 := fun a xs q1 q2 => by
          rw [hv1] at q1; cases q1; rw [hv4] at q2; cases q2; simp
        have hw' : (walkW rows ls c (x :: r)).2 = false := by rw [wk, hk]; simp [jumps, hk]
        cases ls with
        | false => exact stop (.ref l) hw' (by rw [hv1]; simp [lastOf, hv4]) (by simp [tyOf, hv4]) (by simp [isDict, hv4]) hty hsz
        | true => exact stop (.ref l') hw' (by rw [hv1]; simp [lastOf, hv4]) (by simp [tyOf, z1]) (by simp [isDict, z1]) hty hsz
end
end Mine
namespace Mine
noncomputable def kn : KW → Str
  | .table => "table"
  | .dict => "dict"
  | .list => "list"
  | .num => "number"
  | .text => "text"
  | .lists => "lists"
theorem kn_inj {a b : KW} (h : kn a = kn b) : a = b := by
  revert h
  cases a <;> cases b <;> decide
noncomputable def RowIs (H : AHeap) (r : LR) (v : V) : Prop := ∃ a wv gl t, v = .ref a ∧ H a = some (.tup [wv, .str (kn r.k) t, .ref gl]) ∧ IsWay H r.w wv ∧ H gl = some (.list (r.g.map .int))
structure RowsIn (H : AHeap) (vs : List V) (rs : List LR) : Prop where
  len : vs.length = rs.length
  at_ : ∀ (j : Nat) v r, vs[j]? = some v → rs[j]? = some r → RowIs H r v
theorem RowIs.ext {H H' : AHeap} (h : Ext H H') {r : LR} {v : V} (x : RowIs H r v) : RowIs H' r v := by
  obtain ⟨a, wv, gl, t, e, h1, h2, h3⟩ := x
  exact ⟨a, wv, gl, t, e, h _ _ h1, h2.ext fun a xs e => h _ _ e, h _ _ h3⟩
theorem RowsIn.ext {H H' : AHeap} (h : Ext H H') {vs : List V} {rs : List LR} (x : RowsIn H vs rs) : RowsIn H' vs rs := ⟨x.len, fun j v r h1 h2 => (x.at_ j v r h1 h2).ext h⟩
theorem RowsIn.nil {H : AHeap} : RowsIn H [] [] := ⟨rfl, fun j v r h => by simp at h⟩
theorem RowsIn.snoc {H : AHeap} {vs : List V} {rs : List LR} {v : V} {r : LR} (x : RowsIn H vs rs) (h : RowIs H r v) : RowsIn H (vs ++ [v]) (rs ++ [r]) := by
  refine ⟨by simp [x.len], fun j u q h1 h2 => ?_⟩
  rcases Nat.lt_trichotomy j vs.length with hj | hj | hj
  · rw [List.getElem?_append_left hj] at h1
    rw [List.getElem?_append_left (x.len ▸ hj)] at h2
    exact x.at_ j u q h1 h2
  · subst hj
    rw [List.getElem?_append_right (Nat.le_refl _), Nat.sub_self] at h1
    rw [x.len, List.getElem?_append_right (Nat.le_refl _), Nat.sub_self] at h2
    simp at h1 h2
    subst h1; subst h2; exact h
  · rw [List.getElem?_eq_none (by simp; omega)] at h1; cases h1
noncomputable def dataR (r : LR) : PyData := .tuple [dataW r.w, .str (kn r.k), .list (r.g.map .int)]
theorem rdInts {H : AHeap} : ∀ gs : List Int, RdAll H (gs.map .int) (gs.map .int)
  | [] => rfl
  | g :: gs => ⟨_, _, rfl, rfl, rdInts gs⟩
theorem goodInts : ∀ gs : List Int, goodAll (gs.map .int) = true
  | [] => rfl
  | g :: gs => by simp only [List.map_cons, goodAll, good, goodInts gs, Bool.and_self]
theorem depthInts : ∀ gs : List Int, PyData.depthAll (gs.map .int) ≤ 1
  | [] => by decide
  | g :: gs => by
    have := depthInts gs
    simp only [List.map_cons, PyData.depthAll, PyData.depth]
    omega
theorem RowIs.rd {H : AHeap} {r : LR} {v : V} (h : RowIs H r v) : Rd H (dataR r) v := by
  obtain ⟨a, wv, gl, t, rfl, h1, h2, h3⟩ := h
  exact ⟨a, _, rfl, h1, _, _, rfl, h2.rd, _, _, rfl, ⟨t, rfl⟩, _, _, rfl, ⟨gl, _, rfl, h3, rdInts r.g⟩, rfl⟩
theorem good_row {r : LR} (h : okW r.w = true) : good (dataR r) = true := by
  unfold dataR
  have : PyData.strOk (kn r.k) = true := by cases r.k <;> decide +kernel
  simp only [good, goodAll, good_way h, this, goodInts, Bool.and_self]
theorem RowsIn.rd {H : AHeap} : ∀ {vs : List V} {rs : List LR}, RowsIn H vs rs → RdAll H (rs.map dataR) vs
  | [], [], _ => rfl
  | v :: vs, r :: rs, x => ⟨v, vs, rfl, (x.at_ 0 v r rfl rfl).rd, RowsIn.rd ⟨by simpa using x.len, fun j u q h1 h2 => x.at_ (j + 1) u q h1 h2⟩⟩
  | [], r :: rs, x => by have := x.len; simp at this
  | v :: vs, [], x => by have := x.len; simp at this
theorem good_rows : ∀ {rs : List LR}, (∀ r ∈ rs, okW r.w = true) → goodAll (rs.map dataR) = true
  | [], _ => rfl
  | r :: rs, h => by simp only [List.map_cons, goodAll, good_row (h r List.mem_cons_self), good_rows fun q hq => h q (List.mem_cons_of_mem _ hq), Bool.and_self]
section
variable {k : Wk} {m : Loc} {H : AHeap}
theorem WCmp_rowsNil {a b : Addr} {vs : List V} {rs : List LR} {Q : V → Loc → AHeap → Prop} (ha : H a = some (.list vs)) (hb : H b = some (.list [])) (x : RowsIn H vs rs) (ok : ∀ r ∈ rs, okW r.w = true) (hu : k.A.units + 64 < cLine) (h : Q (.bool rs.isEmpty) m H) : WCmp k .Eq (.ref a) (.ref b) m H Q :=
  WCmp_eqD (da := .list (rs.map dataR)) (db := .list []) (r := rs.isEmpty) ⟨a, vs, rfl, ha, x.rd⟩ ⟨b, [], rfl, hb, rfl⟩ (good_rows ok) rfl (Nat.le_trans (Nat.min_le_right _ _) (by simp [PyData.depth, PyData.depthAll])) hu (by cases rs <;> simp) h
theorem WCmp_rowsNe {a b : Addr} {vs : List V} {rs : List LR} {Q : V → Loc → AHeap → Prop} (ha : H a = some (.list vs)) (hb : H b = some (.list [])) (x : RowsIn H vs rs) (ok : ∀ r ∈ rs, okW r.w = true) (hu : k.A.units + 64 < cLine) (h : Q (.bool (!rs.isEmpty)) m H) : WCmp k .NotEq (.ref a) (.ref b) m H Q :=
  WCmp_neD (da := .list (rs.map dataR)) (db := .list []) (r := !rs.isEmpty) ⟨a, vs, rfl, ha, x.rd⟩ ⟨b, [], rfl, hb, rfl⟩ (good_rows ok) rfl (Nat.le_trans (Nat.min_le_right _ _) (by simp [PyData.depth, PyData.depthAll])) hu (by cases rs <;> simp) h
theorem LC.rows {c : Expr} {scope : Scope} {pe : Pos} {rA : Addr} {vs : List V} {rows : List LR} {x X : Str} {Q : Addr → AHeap → Prop} (hX : X = x) (hh : k.A.handled = none) (hd : (x == ("__debug__" : Str)) = false) (hn : (x == ("__classdict__" : Str)) = false) (hl : H rA = some (.list vs)) (hR : RowsIn H vs rows) (hz : rows.length ≤ 100000) (p : LR → Bool)
    (step : ∀ kc, CompK k scope kc → ∀ (i : Nat) r v mc H2, rows[i]? = some r → RowIs H2 r v → Ext H H2 → Caps scope m mc → mc x = some v → WT kc c mc H2 fun b m3 H3 => m3 = mc ∧ b = p r ∧ Ext H2 H3)
    (fin : ∀ a acc H2, Ext H H2 → H2 a = none → RowsIn H2 acc (rows.filter p) → Q a (upd H2 a (.list acc))) : ∃ n R ok I, LC k (.Name X pe) [c] scope x (.ref rA) m H Q n R ok I := by
  subst hX
  refine ⟨_, _, _, fun i acc H2 => Ext H H2 ∧ RowsIn H2 acc ((rows.take i).filter p), WIter_list hh hl, ⟨Ext.refl _, by rw [List.take_zero]; exact .nil⟩, fun i acc H2 q => q.1 _ _ hl, by rw [show sizeLine = _ from sizeLine_eq, hR.len]; omega, ?_, ?_⟩
  · intro kc hkc i v acc mc H2 hi hv hI hcap hx
    obtain ⟨hE, hacc⟩ := hI
    rw [hR.len] at hi
    have hr : rows[i]? = some rows[i] := List.getElem?_eq_getElem hi
    have hri := (hR.at_ i v _ hv hr).ext hE
    have htk : (rows.take (i + 1)).filter p = (rows.take i).filter p ++ if p rows[i] = true then [rows[i]] else [] := by
      rw [List.take_add_one, hr, List.filter_append]
      congr 1
      simp [List.filter_cons]
    refine W_tests_one (W.mono (step kc hkc i _ v mc H2 hr hri hE hcap hx) fun b m3 H3 q => ?_)
    obtain ⟨rfl, hb, hE3⟩ := q
    refine ⟨rfl, ?_⟩
    rw [htk]
    cases b with
    | true =>
      rw [if_pos rfl, if_pos hb.symm]
      exact W_Name hx ⟨rfl, hE.trans hE3, (hacc.ext hE3).snoc (hri.ext hE3)⟩ hd hn
    | false =>
      rw [if_neg Bool.false_ne_true, if_neg (by rw [← hb]; simp), List.append_nil]
      exact ⟨hE.trans hE3, hacc.ext hE3⟩
  · intro a acc H2 _ hI ha
    obtain ⟨hE, hacc⟩ := hI
    rw [hR.len, List.take_length] at hacc
    exact fin a acc H2 hE ha hacc
theorem W_row0 {X : Str} {z : Nat} {p1 p2 p3 : Pos} {n : Int} {r : LR} {v : V} {Q : V → Loc → AHeap → Prop} (hn : n = 0) (hx : m X = some v) (hr : RowIs H r v) (h : ∀ wv, IsWay H r.w wv → Q wv m H) (hd : (X == ("__debug__" : Str)) = false) (hc : (X == ("__classdict__" : Str)) = false) : WV k (eval (.Subscript (.Name X p1) (.Constant (.int n) z p2) p3) k.env) m H Q := by
  subst hn
  obtain ⟨a, wv, gl, t, rfl, h1, h2, h3⟩ := hr
  exact W_Subscript (W_Name hx (W_int (WSub_tup (j := 0) h1 (by decide) (by decide) rfl rfl (h wv h2))) hd hc)
theorem W_row1 {X : Str} {z : Nat} {p1 p2 p3 : Pos} {n : Int} {r : LR} {v : V} {Q : V → Loc → AHeap → Prop} (hn : n = 1) (hx : m X = some v) (hr : RowIs H r v) (h : ∀ t, Q (.str (kn r.k) t) m H) (hd : (X == ("__debug__" : Str)) = false) (hc : (X == ("__classdict__" : Str)) = false) : WV k (eval (.Subscript (.Name X p1) (.Constant (.int n) z p2) p3) k.env) m H Q := by
  subst hn
  obtain ⟨a, wv, gl, t, rfl, h1, h2, h3⟩ := hr
  exact W_Subscript (W_Name hx (W_int (WSub_tup (j := 1) h1 (by decide) (by decide) rfl rfl (h t))) hd hc)
theorem W_row2 {X : Str} {z : Nat} {p1 p2 p3 : Pos} {n : Int} {r : LR} {v : V} {Q : V → Loc → AHeap → Prop} (hn : n = 2) (hx : m X = some v) (hr : RowIs H r v) (h : ∀ gl, H gl = some (.list (r.g.map .int)) → Q (.ref gl) m H) (hd : (X == ("__debug__" : Str)) = false) (hc : (X == ("__classdict__" : Str)) = false) : WV k (eval (.Subscript (.Name X p1) (.Constant (.int n) z p2) p3) k.env) m H Q := by
  subst hn
  obtain ⟨a, wv, gl, t, rfl, h1, h2, h3⟩ := hr
  exact W_Subscript (W_Name hx (W_int (WSub_tup (j := 2) h1 (by decide) (by decide) rfl rfl (h gl h3))) hd hc)
theorem IsWay.tup {w : Way} {v : V} (h : IsWay H w v) : ∃ a ps, v = .ref a ∧ H a = some (.tup (.int (w.1 : Int) :: strsV ps)) ∧ ps.map (·.1) = w.2 := h
theorem strsV_length (ps : List (Str × Tok)) : (strsV ps).length = ps.length := by simp [strsV]
theorem IsWay.take_ {w : Way} {ps : List (Str × Tok)} {b : Addr} {l : Nat} (hp : ps.map (·.1) = w.2) (hb : H b = some (.tup ((.int (w.1 : Int) :: strsV ps).take (l + 1)))) : IsWay H (w.1, w.2.take l) (.ref b) :=
  ⟨b, ps.take l, rfl, by rw [hb, List.take_succ_cons]; unfold strsV; rw [List.map_take], by rw [List.map_take, hp]⟩
theorem pre_eq {r w : Way} : decide (r = (w.1, w.2.take r.2.length)) = pre r w := by
  unfold pre
  obtain ⟨i, p⟩ := r
  rw [Bool.eq_iff_iff, Bool.and_eq_true, decide_eq_true_iff, decide_eq_true_iff, decide_eq_true_iff]
  simp [Prod.ext_iff]
theorem okW_take {w : Way} (h : okW w = true) (l : Nat) : okW (w.1, w.2.take l) = true := by
  unfold okW at h ⊢
  rw [List.all_eq_true] at h ⊢
  exact fun x hx => h x (List.mem_of_mem_take hx)
theorem WT_pre {X1 X1' X2 L : Str} {p1 p2 p3 p4 p5 p6 p7 p8 p9 p10 p11 p12 : Pos} {z z2 : Nat} {n0 n1 : Int} {r : LR} {v wv : V} {w : Way} {Q : Bool → Loc → AHeap → Prop} (e1 : X1 = "row") (e2 : X1' = "row") (e3 : X2 = "way") (e4 : L = "len") (e5 : n0 = 0) (e6 : n1 = 0)
    (gLen : Gl k.c "len" (.builtin "len")) (hk : k.env.kindOf "len" = some .globalImplicit) (hx : m "row" = some v) (hr : RowIs H r v) (hw : m "way" = some wv) (hwv : IsWay H w wv) (o1 : okW r.w = true) (o2 : okW w = true) (hl : w.2.length ≤ 1000) (hlr : r.w.2.length ≤ 1000) (hu : k.A.units + 64 < cLine)
    (h : ∀ H', Ext H H' → Q (pre r.w w) m H') :
    WT k (.Compare (.Subscript (.Name X1 p1) (.Constant (.int n0) z p2) p3) [.Eq] [.Subscript (.Name X2 p4) (.Slice none (some (.Call (.Name L p5) [.Subscript (.Name X1' p6) (.Constant (.int n1) z2 p7) p8] [] p9)) none p10) p11] p12) m H Q := by
  subst e1; subst e2; subst e3; subst e4
  have hz : sizeLine = _ := sizeLine_eq
  refine WT_Compare ?_
  refine W_row0 e5 hx hr (fun rv hrv => ?_) (by decide) (by decide)
  refine W_SubSlice ?_
  refine W_Name hw ?_
  refine WPart_none ?_
  refine WPart_some ?_
  refine W_CallB gLen hk ?_
  refine WItems_cons ?_
  refine W_row0 e6 hx hr (fun rv2 hrv2 => ?_) (by decide) (by decide)
  refine WItems_nil ?_
  obtain ⟨b, qs, rfl, hb, hq⟩ := hrv2
  have hql : qs.length = r.w.2.length := by rw [← hq, List.length_map]
  refine WCall_lenT hb (by simp only [List.length_cons, strsV_length]; omega) ?_
  obtain ⟨a, ps, rfl, ha, hp⟩ := hwv.tup
  have hpl : ps.length = w.2.length := by rw [← hp, List.length_map]
  refine ⟨_, rfl, a, rfl, .inr ⟨_, ha, by rw [hz]; simp only [List.length_cons, strsV_length]; omega, fun d H' hE hd => ?_⟩⟩
  rw [List.length_cons, strsV_length, hql, sliceV_take] at hd
  have := IsWay.take_ (H := H') (w := w) hp hd
  refine WCmp_eqWay (hrv.ext fun a xs e => hE _ _ e) this o1 (okW_take o2 _) hu ?_
  rw [pre_eq]
  exact WTr_bool (h H' hE)
end
end Mine
namespace Mine
theorem updV_ne {VA : Vals} {w u : Way} {v : V} (h : u ≠ w) : updV VA w v u = VA u := if_neg h
theorem updV_same {VA : Vals} {w : Way} {v : V} : updV VA w v w = v := if_pos rfl
theorem updG_ne {G : Ghost} {a b : Addr} {t : Tag} (h : b ≠ a) : updG G a t b = G b := if_neg h
theorem updG_same {G : Ghost} {a : Addr} {t : Tag} : updG G a t a = some t := if_pos rfl
section
variable {rows : List LR} {n : Nat} {ls : Bool} {VA : Vals} {G G' : Ghost} {H H' : AHeap}
theorem walkW_length : ∀ (q : List Str) (c : Way), (walkW rows ls c q).1.2.length ≤ c.2.length + q.length
  | [], c => by rw [walkW]; simp
  | x :: q, c => by
    rw [walkW]
    cases e : rowAt rows (c.1, c.2 ++ [x]) with
    | none => simp
    | some row =>
      simp only []
      split
      · have := walkW_length q (c.1, c.2 ++ [x])
        simp only [List.length_append, List.length_cons, List.length_nil] at this ⊢
        omega
      · split
        · have := walkW_length q (goalOf row, [])
          simp only [List.length_nil, List.length_cons] at this ⊢
          omega
        · simp
theorem walkW_names {P : Str → Prop} : ∀ (q : List Str) (c : Way), (∀ x ∈ c.2, P x) → (∀ x ∈ q, P x) → ∀ x ∈ (walkW rows ls c q).1.2, P x
  | [], c, h1, h2 => by rw [walkW]; exact h1
  | y :: q, c, h1, h2 => by
    have hy := h2 y List.mem_cons_self
    have hq := fun x hx => h2 x (List.mem_cons_of_mem _ hx)
    have hcy : ∀ x ∈ c.2 ++ [y], P x := fun x hx => (List.mem_append.mp hx).elim (h1 x) fun h => by rw [List.mem_singleton.mp h]; exact hy
    rw [walkW]
    cases e : rowAt rows (c.1, c.2 ++ [y]) with
    | none => exact fun x hx => (List.mem_append.mp hx).elim (h1 x) (h2 x)
    | some row =>
      simp only []
      split
      · exact walkW_names q _ hcy hq
      · split
        · exact walkW_names q _ (fun x hx => by cases hx) hq
        · exact fun x hx => (List.mem_append.mp hx).elim (h1 x) (h2 x)
theorem HR.keep (h : HR rows n VA G H) (hk : ∀ a y t, H a = some y → G a = some t → t.tree = true ∨ (∃ w, t = .tab w) → H' a = some y) (hs : ∀ a, H' a = none → H a = none) : HR rows n VA G H' := by
  refine ⟨fun w hw ht => ?_, fun r hr => (h.val r hr).mono rfl (fun _ => rfl) (fun _ _ e => e) fun a y t q1 q2 q3 => hk a y t q1 q2 (.inl q3), fun a t e q => h.live a t e (hs a q)⟩
  obtain ⟨a, ep, e1, e2, e3⟩ := h.tab w hw ht
  exact ⟨a, ep, e1, e2, hk _ _ _ e3 e2 (.inr ⟨w, rfl⟩)⟩
theorem HR.ext (h : HR rows n VA G H) (hE : Ext H H') : HR rows n VA G H' := h.keep (fun a y t e _ _ => hE a y e) fun a e => none_less hE e
theorem RowsOK.wider (o : RowsOK rows n) {n' : Nat} (h : n ≤ n') : RowsOK rows n' :=
  ⟨o.dis, fun r hr => ⟨Nat.lt_of_lt_of_le (o.rt r hr).1 h, (o.rt r hr).2⟩, o.par, fun r hr hk => by obtain ⟨g, h1, h2⟩ := o.gl r hr hk; exact ⟨g, h1, Nat.lt_of_lt_of_le h2 h⟩, fun r hr g hg => by have := o.bd r hr g hg; omega, o.one⟩
theorem HR.newRoot (o : RowsOK rows n) (h : HR rows n VA G H) {d : Addr} (hd : H d = none) (hk : ∀ a y t, H a = some y → G a = some t → t.tree = true ∨ (∃ w, t = .tab w) → H' a = some y) (hs : ∀ a, H' a = none → H a = none) (hd' : H' d = some (.dict [] 0)) :
    HR rows (n + 1) (updV VA (n, []) (.ref d)) (updG G d (.tab (n, []))) H' := by
  have hg : ∀ a t, G a = some t → updG G d (.tab (n, [])) a = some t := fun a t e => by
    rw [updG_ne (fun z => by rw [z] at e; exact h.live d t e hd)]; exact e
  have hv : ∀ r ∈ rows, updV VA (n, []) (.ref d) r.w = VA r.w := fun r hr => updV_ne fun e => (o.rt r hr).2 (by rw [e])
  refine ⟨fun w hw ht => ?_, fun r hr => ?_, fun a t e => ?_⟩
  · by_cases q : w = (n, [])
    · subst q
      refine ⟨d, 0, updV_same, updG_same, ?_⟩
      rw [kids_none (fun r hr e => ?_)]
      · exact hd'
      · have := (o.rt r hr).1
        have h1 : r.w.1 = n := congrArg Prod.fst e
        omega
    · have hw' : w.1 < n := by
        rcases Nat.lt_or_eq_of_le (Nat.le_of_lt_succ hw) with z | z
        · exact z
        · rcases ht with ht | ⟨r, hr, e, _⟩
          · exact absurd (Prod.ext z ht) q
          · have := (o.rt r hr).1
            rw [e, z] at this; exact absurd this (Nat.lt_irrefl _)
      obtain ⟨a, ep, e1, e2, e3⟩ := h.tab w hw' ht
      exact ⟨a, ep, by rw [updV_ne q]; exact e1, hg _ _ e2, by rw [kids_congr hv]; exact hk _ _ _ e3 e2 (.inr ⟨w, rfl⟩)⟩
  · have hv0 : ∀ g, g < n → updV VA (n, []) (.ref d) (g, []) = VA (g, []) := fun g hg => updV_ne fun e => by have := congrArg Prod.fst e; simp at this; omega
    have hx := h.val r hr
    have hit : ∀ l w, G l = some (.lst w) → ItemsAt VA G H r.g l → ItemsAt (updV VA (n, []) (.ref d)) (updG G d (.tab (n, []))) H' r.g l := fun l w hl ⟨vs, q1, q2, q3⟩ => by
      refine ⟨vs, hk _ _ _ q1 hl (.inl rfl), q2, fun j g v e1 e2 => ?_⟩
      have := q3 j g v e1 e2
      split at this
      · rename_i hl
        rw [if_pos hl]
        obtain ⟨e, ep, z1, z2, z3⟩ := this
        exact ⟨e, ep, z1, hg _ _ z2, hk _ _ _ z3 z2 (.inl rfl)⟩
      · rename_i hl
        have hb := o.bd r hr g (List.mem_of_getElem? e1)
        rw [if_neg hl, hv0 _ (by omega)]; exact this
    unfold LeadsR at hx ⊢
    rw [hv r hr]
    split at hx
    · trivial
    · rename_i hkk
      obtain ⟨g, hg1, hg2⟩ := o.gl r hr (.inl hkk)
      have hgo : goalOf r = g := by unfold goalOf; rw [hg1]; rfl
      rw [hgo] at hx ⊢
      rw [hv0 _ hg2]; exact hx
    · exact hx
    · exact hx
    · obtain ⟨l, h1, h2, h3⟩ := hx
      exact ⟨l, h1, hg _ _ h2, hit l _ h2 h3⟩
    · obtain ⟨l, l', h1, h2, h3, h4, h5⟩ := hx
      exact ⟨l, l', h1, hg _ _ h2, hg _ _ h3, hk _ _ _ h4 h2 (.inl rfl), hit l' _ h3 h5⟩
  · by_cases q : a = d
    · rw [q, hd']; simp
    · rw [updG_ne q] at e
      intro z
      exact h.live a t e (hs a z)
theorem HR.lay (o : RowsOK rows n) (h : HR rows n VA G H) {c : Way} {x : Str} {b : Addr} {ep : Nat} {r : LR} {v : V} {Hs : AHeap} (hc : c.1 < n) (ht : isTab rows c) (hn : rowAt rows (c.1, c.2 ++ [x]) = none) (hb : VA c = .ref b) (hw : r.w = (c.1, c.2 ++ [x])) (hk : r.k ≠ .table)
    (hE : Ext H Hs) (hG : ∀ a t, G a = some t → G' a = some t) (hnew : ∀ a t, G' a = some t → G a = some t ∨ Hs a ≠ none) (hl : LeadsR (updV VA r.w v) G' Hs r) :
    HR (rows ++ [r]) n (updV VA r.w v) G' (upd Hs b (.dict (kids rows VA c ++ [(.inr x, v)]) ep)) := by
  rw [← hw] at hn
  have hn := hn
  obtain ⟨b', ep', e1, e2, e3⟩ := h.tab c hc ht
  obtain rfl : b = b' := by rw [hb] at e1; exact V.ref.inj e1
  have hv : ∀ q ∈ rows, updV VA r.w v q.w = VA q.w := fun q hq => updV_ne (rowAt_none hn q hq)
  have hv0 : ∀ g, updV VA r.w v (g, []) = VA (g, []) := fun g => updV_ne (fun e => by rw [hw] at e; have := congrArg Prod.snd e; simp at this)
  have hne : r.w ≠ c := fun e => by rw [hw] at e; have := congrArg (fun w : Way => w.2.length) e; simp at this
  have hpr : parN r.w = c := by rw [hw]; exact parN_snoc
  have hlr : lastN r.w = x := by rw [hw]; exact lastN_snoc
  have up1 : ∀ a y t, Hs a = some y → G' a = some t → t.tree = true → upd Hs b (.dict (kids rows VA c ++ [(.inr x, v)]) ep) a = some y := fun a y t q1 q2 q3 => upd_ne (fun z => by rw [z, hG _ _ e2] at q2; cases q2; cases q3) q1
  refine ⟨fun w hww htw => ?_, fun q hq => ?_, fun a t e => ?_⟩
  · have hkd : kids (rows ++ [r]) (updV VA r.w v) w = kids rows VA w ++ if c = w then [(.inr x, v)] else [] := by
      rw [kids_append, kids_congr hv]
      congr 1
      unfold kids
      rw [List.filter_cons, List.filter_nil, hpr]
      by_cases q : c = w
      · rw [if_pos (by simpa using q), if_pos q, List.map_cons, List.map_nil, hlr, updV_same]
      · rw [if_neg (by simpa using q), if_neg q, List.map_nil]
    have ht' : isTab rows w := htw.imp id fun ⟨q, hq, q1, q2⟩ => by
      rcases List.mem_append.mp hq with hq | hq
      · exact ⟨q, hq, q1, q2⟩
      · obtain rfl := List.mem_singleton.mp hq
        exact absurd q2 hk
    have hwr : w ≠ r.w := fun e => by
      rcases htw with htw | ⟨q, hq, q1, q2⟩
      · rw [e, hw] at htw; simp at htw
      · rcases List.mem_append.mp hq with hq | hq
        · exact rowAt_none hn q hq (q1.trans e)
        · obtain rfl := List.mem_singleton.mp hq
          exact hk q2
    obtain ⟨a, epa, f1, f2, f3⟩ := h.tab w hww ht'
    by_cases qc : c = w
    · subst qc
      refine ⟨b, ep, by rw [updV_ne hwr]; exact hb, hG _ _ e2, ?_⟩
      rw [hkd, if_pos rfl]; exact upd_same
    · have hab : a ≠ b := fun e => by rw [e, e2] at f2; exact qc (Tag.tab.inj (Option.some.inj f2))
      refine ⟨a, epa, by rw [updV_ne hwr]; exact f1, hG _ _ f2, ?_⟩
      rw [hkd, if_neg qc, List.append_nil]
      exact upd_ne hab (hE _ _ f3)
  · rcases List.mem_append.mp hq with hq | hq
    · refine (h.val q hq).mono (hv q hq) hv0 hG fun a y t q1 q2 q3 => up1 a y t (hE _ _ q1) (hG _ _ q2) q3
    · obtain rfl := List.mem_singleton.mp hq
      exact hl.mono rfl (fun _ => rfl) (fun _ _ e => e) up1
  · intro z
    unfold upd at z
    split at z
    · cases z
    · rcases hnew a t e with q | q
      · exact h.live a t q (none_less hE z)
      · exact q z
noncomputable def addG (w : Way) (g : Int) (q : LR) : LR := if q.w = w then ⟨q.w, q.k, q.g ++ [g]⟩ else q
theorem addG_w {w : Way} {g : Int} {q : LR} : (addG w g q).w = q.w := by unfold addG; split <;> rfl
theorem addG_k {w : Way} {g : Int} {q : LR} : (addG w g q).k = q.k := by unfold addG; split <;> rfl
theorem isTab_add {w0 w : Way} {g : Int} : isTab (rows.map (addG w0 g)) w ↔ isTab rows w := by
  unfold isTab
  refine or_congr_right ⟨fun ⟨r, hr, h1, h2⟩ => ?_, fun ⟨r, hr, h1, h2⟩ => ⟨addG w0 g r, List.mem_map_of_mem hr, by rw [addG_w]; exact h1, by rw [addG_k]; exact h2⟩⟩
  obtain ⟨q, hq, rfl⟩ := List.mem_map.mp hr
  exact ⟨q, hq, by rw [← h1, addG_w], by rw [← h2, addG_k]⟩
theorem kids_add {w0 w : Way} {g : Int} : kids (rows.map (addG w0 g)) VA w = kids rows VA w := by
  unfold kids
  induction rows with
  | nil => rfl
  | cons r rows ih =>
    rw [List.map_cons, List.filter_cons, List.filter_cons, addG_w]
    split
    · rw [List.map_cons, List.map_cons, addG_w, ih]
    · exact ih
theorem RowsOK.add (o : RowsOK rows n) {w : Way} {g : Nat} (hg : g < n) (hd : ∀ r ∈ rows, r.w = w → r.k ≠ .dict) : RowsOK (rows.map (addG w g)) n := by
  refine ⟨?_, fun r hr => ?_, fun r hr p x e => ?_, fun r hr hk => ?_, fun r hr z hz => ?_, fun r hr hk => ?_⟩
  · rw [List.map_map, show (fun r : LR => r.w) ∘ addG w g = fun r => r.w from funext fun r => addG_w]; exact o.dis
  all_goals obtain ⟨q, hq, rfl⟩ := List.mem_map.mp hr
  · rw [addG_w]; exact o.rt q hq
  · rw [addG_w] at e ⊢
    exact isTab_add.mpr (o.par q hq p x e)
  · rw [addG_k] at hk
    unfold addG
    split
    · exact ⟨g, by simp, hg⟩
    · exact o.gl q hq hk
  · unfold addG at hz
    split at hz
    · rcases List.mem_append.mp hz with hz | hz
      · exact o.bd q hq z hz
      · rw [List.mem_singleton.mp hz]; omega
    · exact o.bd q hq z hz
  · rw [addG_k] at hk
    unfold addG
    split
    · rename_i q; exact absurd hk (hd _ hq q)
    · exact o.one _ hq hk
theorem HR.add (o : RowsOK rows n) (h : HR rows n VA G H) {r : LR} {l : Addr} {vs : List V} {g : Nat} (hr : r ∈ rows) (hk : r.k = .list) (hl : VA r.w = .ref l) (hv : H l = some (.list vs)) : HR (rows.map (addG r.w g)) n VA G (upd H l (.list (vs ++ [VA (g, [])]))) := by
  have hx := h.val r hr
  unfold LeadsR at hx
  simp only [hk] at hx
  obtain ⟨l', h1, h2, vs', h3, h4, h5⟩ := hx
  obtain rfl : l = l' := by rw [hl] at h1; exact V.ref.inj h1
  obtain rfl : vs = vs' := by rw [hv] at h3; exact AObj.list.inj (Option.some.inj h3)
  refine ⟨fun w hw ht => ?_, fun q hq => ?_, fun a t e z => ?_⟩
  · obtain ⟨a, ep, e1, e2, e3⟩ := h.tab w hw (isTab_add.mp ht)
    exact ⟨a, ep, e1, e2, by rw [kids_add]; exact upd_ne (fun z => by rw [z, hv] at e3; cases e3) e3⟩
  · obtain ⟨q, hq2, rfl⟩ := List.mem_map.mp hq
    by_cases e : q.w = r.w
    · obtain rfl := o.uniq hq2 hr e
      unfold LeadsR
      rw [addG_k, addG_w]
      simp only [hk]
      refine ⟨l, hl, h2, vs ++ [VA (g, [])], upd_same, by unfold addG; rw [if_pos rfl]; simp [h4], fun j z v e1 e2 => ?_⟩
      unfold addG at e1
      rw [if_pos rfl] at e1
      simp only at e1
      rcases Nat.lt_or_ge j vs.length with hj | hj
      · rw [List.getElem?_append_left hj] at e2
        rw [List.getElem?_append_left (h4 ▸ hj)] at e1
        have := h5 j z v e1 e2
        split at this
        · rename_i hz
          rw [if_pos hz]
          obtain ⟨e, ep, z1, z2, z3⟩ := this
          exact ⟨e, ep, z1, z2, upd_ne (fun y => by rw [y, hv] at z3; cases z3) z3⟩
        · rename_i hz
          rw [if_neg hz]; exact this
      · rw [List.getElem?_append_right hj] at e2
        rw [List.getElem?_append_right (h4 ▸ hj), ← h4] at e1
        have hj0 : j - vs.length = 0 := by
          have := (List.getElem?_eq_some_iff.mp e2).1
          simp at this; exact this
        rw [hj0] at e1 e2
        simp at e1 e2
        subst e1; subst e2
        rw [if_neg (by omega), Int.toNat_natCast]
    · rw [show addG r.w g q = q from if_neg e]
      have hq' := h.val q hq2
      have ne : ∀ a y, H a = some y → G a ≠ some (.lst r.w) → upd H l (.list (vs ++ [VA (g, [])])) a = some y := fun a y q1 q2 => upd_ne (fun z => by rw [z] at q2; exact q2 h2) q1
      have hit : ∀ l' gs, G l' = some (.lst q.w) → ItemsAt VA G H gs l' → ItemsAt VA G (upd H l (.list (vs ++ [VA (g, [])]))) gs l' := fun l' gs hl' ⟨us, q1, q2, q3⟩ => by
        refine ⟨us, ne _ _ q1 (fun z => by rw [hl'] at z; exact e (Tag.lst.inj (Option.some.inj z))), q2, fun j z v e1 e2 => ?_⟩
        have := q3 j z v e1 e2
        split at this
        · rename_i hz
          rw [if_pos hz]
          obtain ⟨e, ep, z1, z2, z3⟩ := this
          exact ⟨e, ep, z1, z2, ne _ _ z3 (fun y => by rw [z2] at y; cases y)⟩
        · rename_i hz
          rw [if_neg hz]; exact this
      unfold LeadsR at hq' ⊢
      split at hq'
      · trivial
      · exact hq'
      · exact hq'
      · exact hq'
      · obtain ⟨l', z1, z2, z3⟩ := hq'
        exact ⟨l', z1, z2, hit l' _ z2 z3⟩
      · obtain ⟨l1, l', z1, z2, z3, z4, z5⟩ := hq'
        exact ⟨l1, l', z1, z2, z3, ne _ _ z4 (fun y => by rw [z2] at y; cases y), hit l' _ z3 z5⟩
  · unfold upd at z
    split at z
    · cases z
    · exact h.live a t e z
end
end Mine
namespace Mine
noncomputable def isNm (x : Str) : Bool := decide (x = "a") || decide (x = "a.a") || decide (x = "")
theorem strOk_nm {x : Str} (h : isNm x = true) : PyData.strOk x = true := by
  unfold isNm at h
  simp only [Bool.or_eq_true, decide_eq_true_iff] at h
  rcases h with (rfl | rfl) | rfl <;> decide +kernel
theorem okW_nm {w : Way} (h : ∀ x ∈ w.2, isNm x = true) : okW w = true := by
  unfold okW
  rw [List.all_eq_true]
  exact fun x hx => strOk_nm (h x hx)
noncomputable def NestsAt (H : AHeap) (VA : Vals) (C nA : Addr) (n : Nat) : Prop := ∃ xs : List Addr, H nA = some (.list (xs.map .ref)) ∧ xs.length = n ∧ ∀ (i : Nat) x, xs[i]? = some x → ∃ dx, H x = some (.inst C dx) ∧ H dx = some (.attrs (VA (i, [])))
noncomputable def RowsAt (H : AHeap) (G : Ghost) (rA : Addr) (rp : List LR) : Prop := ∃ vs, H rA = some (.list vs) ∧ RowsIn H vs rp ∧ ∀ (j : Nat) v r, vs[j]? = some v → rp[j]? = some r → ∃ a wv gl t, v = .ref a ∧ H a = some (.tup [wv, .str (kn r.k) t, .ref gl]) ∧ G gl = some (.goal r.w)
noncomputable def GivenAt (H : AHeap) (VA : Vals) (rows : List LR) (n : Nat) (gA : Addr) (gv : List Way) : Prop := ∃ vs, H gA = some (.list vs) ∧ vs.length = gv.length ∧ ∀ (j : Nat) v w, vs[j]? = some v → gv[j]? = some w → isTab rows w ∧ w.1 < n ∧ ∃ a wv, v = .ref a ∧ H a = some (.tup [wv, VA w]) ∧ IsWay H w wv
structure LH6 (C nA rA gA : Addr) (rp rows : List LR) (n : Nat) (VA : Vals) (G : Ghost) (gv : List Way) (D : Nat) (H : AHeap) : Prop where
  ok : RowsOK rows n
  hr : HR rows n VA G H
  nests : NestsAt H VA C nA n
  rws : RowsAt H G rA rp
  giv : GivenAt H VA rows n gA gv
  tn : G nA = some .sys
  tr : G rA = some .sys
  tg : G gA = some .sys
  d1 : nA ≠ rA
  d2 : nA ≠ gA
  d3 : rA ≠ gA
  n0 : 0 < n
  n6 : n ≤ 6
  nm : ∀ r ∈ rows, ∀ x ∈ r.w.2, isNm x = true
  len : ∀ r ∈ rows, r.w.2.length ≤ 10
  cnt : rows.length ≤ 10 * D
  gcnt : ∀ r ∈ rows, r.g.length ≤ D + 3
  gvl : gv.length ≤ D
  sub : ∀ r ∈ rp, r ∈ rows
section
variable {C nA rA gA : Addr} {rp rows : List LR} {n : Nat} {VA : Vals} {G : Ghost} {gv : List Way} {D : Nat} {H H' : AHeap}
theorem NestsAt.of (h : NestsAt H VA C nA n) {VA' : Vals} (hv : ∀ i, i < n → VA' (i, []) = VA (i, [])) (hk : ∀ a y, H a = some y → (a = nA ∨ (∃ C dx, y = .inst C dx) ∨ ∃ v, y = .attrs v) → H' a = some y) : NestsAt H' VA' C nA n := by
  obtain ⟨xs, h1, h2, h3⟩ := h
  refine ⟨xs, hk _ _ h1 (.inl rfl), h2, fun i x e => ?_⟩
  obtain ⟨dx, e1, e2⟩ := h3 i x e
  refine ⟨dx, hk _ _ e1 (.inr (.inl ⟨_, _, rfl⟩)), ?_⟩
  rw [hv i (h2 ▸ (List.getElem?_eq_some_iff.mp e).1)]
  exact hk _ _ e2 (.inr (.inr ⟨_, rfl⟩))
theorem RowsAt.of {G' : Ghost} (h : RowsAt H G rA rp) (hg : ∀ a t, G a = some t → G' a = some t) (hk : ∀ a y, H a = some y → (a = rA ∨ (∃ xs, y = .tup xs) ∨ ∃ w, G a = some (.goal w)) → H' a = some y) : RowsAt H' G' rA rp := by
  obtain ⟨vs, h1, h2, h3⟩ := h
  refine ⟨vs, hk _ _ h1 (.inl rfl), ⟨h2.len, fun j v r e1 e2 => ?_⟩, fun j v r e1 e2 => ?_⟩
  · obtain ⟨a, wv, gl, t, rfl, f1, f2, f3⟩ := h2.at_ j v r e1 e2
    obtain ⟨a', wv', gl', t', q1, q2, q3⟩ := h3 j _ r e1 e2
    cases q1
    rw [f1] at q2
    have := AObj.tup.inj (Option.some.inj q2)
    injection this with y1 y2
    injection y2 with y3 y4
    injection y4 with y5 y6
    injection y5 with y5
    subst y5
    exact ⟨a, wv, gl, t, rfl, hk _ _ f1 (.inr (.inl ⟨_, rfl⟩)), f2.ext fun b xs e => hk _ _ e (.inr (.inl ⟨_, rfl⟩)), hk _ _ f3 (.inr (.inr ⟨_, q3⟩))⟩
  · obtain ⟨a, wv, gl, t, q1, q2, q3⟩ := h3 j v r e1 e2
    exact ⟨a, wv, gl, t, q1, hk _ _ q2 (.inr (.inl ⟨_, rfl⟩)), hg _ _ q3⟩
theorem GivenAt.of {VA' : Vals} {rows' : List LR} {n' : Nat} (h : GivenAt H VA rows n gA gv) (hn : n ≤ n') (ht : ∀ w, isTab rows w → isTab rows' w) (hv : ∀ w, isTab rows w → w.1 < n → VA' w = VA w) (hk : ∀ a y, H a = some y → (a = gA ∨ ∃ xs, y = .tup xs) → H' a = some y) : GivenAt H' VA' rows' n' gA gv := by
  obtain ⟨vs, h1, h2, h3⟩ := h
  refine ⟨vs, hk _ _ h1 (.inl rfl), h2, fun j v w e1 e2 => ?_⟩
  obtain ⟨q1, q2, a, wv, q3, q4, q5⟩ := h3 j v w e1 e2
  exact ⟨ht w q1, Nat.lt_of_lt_of_le q2 hn, a, wv, q3, by rw [hv w q1 q2]; exact hk _ _ q4 (.inr ⟨_, rfl⟩), q5.ext fun b xs e => hk _ _ e (.inr ⟨_, rfl⟩)⟩
theorem LH6.ext (h : LH6 C nA rA gA rp rows n VA G gv D H) (hE : Ext H H') : LH6 C nA rA gA rp rows n VA G gv D H' :=
  { h with
    hr := h.hr.ext hE
    nests := h.nests.of (fun _ _ => rfl) fun a y e _ => hE a y e
    rws := h.rws.of (fun _ _ e => e) fun a y e _ => hE a y e
    giv := h.giv.of (Nat.le_refl _) (fun _ e => e) (fun _ _ _ => rfl) fun a y e _ => hE a y e }
theorem LH6.live (h : LH6 C nA rA gA rp rows n VA G gv D H) {a : Addr} {t : Tag} (e : G a = some t) : H a ≠ none := h.hr.live a t e
theorem LH6.begin (h : LH6 C nA rA gA rp rows n VA G gv D H) {x dx d : Addr} {xs : List Addr} (hn : n < 6) (hxs : H nA = some (.list (xs.map .ref))) (hd : H d = none) (hE : ∀ a y, H a = some y → a ≠ nA → H' a = some y)
    (h1 : H' nA = some (.list (xs.map .ref ++ [.ref x]))) (h2 : H' x = some (.inst C dx)) (h3 : H' dx = some (.attrs (.ref d))) (h4 : H' d = some (.dict [] 0)) :
    LH6 C nA rA gA rp rows (n + 1) (updV VA (n, []) (.ref d)) (updG G d (.tab (n, []))) gv D H' := by
  have hs : ∀ a, H' a = none → H a = none := fun a e => by
    cases q : H a with
    | none => rfl
    | some y =>
      by_cases z : a = nA
      · rw [z, h1] at e; cases e
      · rw [hE a y q z] at e; cases e
  have hg : ∀ a t, G a = some t → updG G d (.tab (n, [])) a = some t := fun a t e => by
    rw [updG_ne (fun z => by rw [z] at e; exact h.live e hd)]; exact e
  obtain ⟨xs', e1, e2, e3⟩ := h.nests
  have : xs = xs' := by
    rw [hxs] at e1
    have := AObj.list.inj (Option.some.inj e1)
    exact List.map_inj_right (fun a b e => V.ref.inj e) |>.mp this
  subst this
  have nk : ∀ a y, H a = some y → (∃ xs, y = .tup xs) ∨ (∃ C dx, y = .inst C dx) ∨ (∃ v, y = .attrs v) → a ≠ nA := fun a y e q z => by
    rw [z, e1] at e
    cases e
    rcases q with ⟨_, q⟩ | ⟨_, _, q⟩ | ⟨_, q⟩ <;> cases q
  refine { h with
    ok := h.ok.wider (Nat.le_succ n)
    hr := h.hr.newRoot h.ok hd (fun a y t q1 q2 q3 => hE a y q1 (fun z => by rw [z, h.tn] at q2; cases q2; rcases q3 with q3 | ⟨w, q3⟩ <;> cases q3)) hs h4
    nests := ⟨xs ++ [x], by rw [List.map_append]; exact h1, by simp [e2], fun i y e => ?_⟩
    rws := h.rws.of hg fun a y e q => hE a y e (fun z => by
      rcases q with q | q | ⟨w, q⟩
      · exact h.d1 (z ▸ q)
      · exact nk a y e (.inl q) z
      · rw [z, h.tn] at q; cases q)
    giv := h.giv.of (Nat.le_succ n) (fun _ e => e) (fun w _ q => updV_ne (fun e => by have := congrArg Prod.fst e; simp at this; omega)) fun a y e q => hE a y e (fun z => by
      rcases q with q | q
      · exact h.d2 (z ▸ q)
      · exact nk a y e (.inl q) z)
    tn := hg _ _ h.tn
    tr := hg _ _ h.tr
    tg := hg _ _ h.tg
    n0 := Nat.succ_pos n
    n6 := hn }
  rcases Nat.lt_or_ge i xs.length with hi | hi
  · rw [List.getElem?_append_left hi] at e
    obtain ⟨dx', z1, z2⟩ := e3 i y e
    exact ⟨dx', hE _ _ z1 (nk _ _ z1 (.inr (.inl ⟨_, _, rfl⟩))), by rw [updV_ne (fun q => by have := congrArg Prod.fst q; simp at this; omega)]; exact hE _ _ z2 (nk _ _ z2 (.inr (.inr ⟨_, rfl⟩)))⟩
  · rw [List.getElem?_append_right hi] at e
    have hi0 : i - xs.length = 0 := by
      have := (List.getElem?_eq_some_iff.mp e).1
      simp at this; exact this
    rw [hi0] at e
    simp at e
    subst e
    have : i = n := by omega
    subst this
    exact ⟨dx, h2, by rw [updV_same]; exact h3⟩
theorem LH6.aft (h : LH6 C nA rA gA rp rows n VA G gv D H) {rows' : List LR} {VA' : Vals} {G' : Ghost} (x : Aft rows n VA G H rows' VA' G' H') {D' : Nat} (hD : D ≤ D') (hnm : ∀ r ∈ rows', ∀ y ∈ r.w.2, isNm y = true) (hlen : ∀ r ∈ rows', r.w.2.length ≤ 10) (hc : rows'.length ≤ 10 * D') : LH6 C nA rA gA rp rows' n VA' G' gv D' H' := by
  have kp : ∀ a y, H a = some y → (∃ xs, y = .tup xs) ∨ (∃ xs, y = .list xs) ∨ (∃ C dx, y = .inst C dx) ∨ (∃ v, y = .attrs v) → H' a = some y := fun a y e q => x.keep a y e fun kvs ep z => by
    subst z
    rcases q with ⟨_, q⟩ | ⟨_, q⟩ | ⟨_, _, q⟩ | ⟨_, q⟩ <;> cases q
  obtain ⟨xs, n1, _⟩ := id h.nests
  obtain ⟨vs, r1, r2, r3⟩ := id h.rws
  obtain ⟨us, g1, _⟩ := id h.giv
  refine { h with
    ok := x.ok
    hr := x.hr
    nests := h.nests.of (fun i _ => x.vext _ (.inl rfl)) fun a y e q => kp a y e (by
      rcases q with q | q | q
      · rw [q, n1] at e; cases e; exact .inr (.inl ⟨_, rfl⟩)
      · exact .inr (.inr (.inl q))
      · exact .inr (.inr (.inr q)))
    rws := ?_
    giv := h.giv.of (Nat.le_refl _) (fun w t => t.mono x.sub) (fun w t _ => x.vext w t) fun a y e q => kp a y e (by
      rcases q with q | q
      · rw [q, g1] at e; cases e; exact .inr (.inl ⟨_, rfl⟩)
      · exact .inl q)
    tn := x.gext _ _ h.tn
    tr := x.gext _ _ h.tr
    tg := x.gext _ _ h.tg
    nm := hnm
    len := hlen
    cnt := hc
    gcnt := fun r hr => by
      rcases x.new r hr with q | ⟨_, q⟩
      · have := h.gcnt r q; omega
      · rw [q]; simp
    gvl := Nat.le_trans h.gvl hD
    sub := fun r hr => x.sub r (h.sub r hr) }
  refine ⟨vs, kp _ _ r1 (.inr (.inl ⟨_, rfl⟩)), ⟨r2.len, fun j v r e1 e2 => ?_⟩, fun j v r e1 e2 => ?_⟩
  · obtain ⟨a, wv, gl, t, q1, q2, q3, q4⟩ := r2.at_ j v r e1 e2
    exact ⟨a, wv, gl, t, q1, kp _ _ q2 (.inl ⟨_, rfl⟩), q3.ext fun b ys e => kp _ _ e (.inl ⟨_, rfl⟩), kp _ _ q4 (.inr (.inl ⟨_, rfl⟩))⟩
  · obtain ⟨a, wv, gl, t, q1, q2, q3⟩ := r3 j v r e1 e2
    exact ⟨a, wv, gl, t, q1, kp _ _ q2 (.inl ⟨_, rfl⟩), x.gext _ _ q3⟩
theorem LH6.tell (h : LH6 C nA rA gA rp rows n VA G gv D H) {r : LR} {vs : List V} {a gl : Addr} {wv : V} {t : Tok} {Hs : AHeap} (hvs : H rA = some (.list vs)) (hr : r ∈ rows) (hE : Ext H Hs) (ha : Hs a = some (.tup [wv, .str (kn r.k) t, .ref gl])) (hwv : IsWay Hs r.w wv) (hgl : Hs gl = some (.list (r.g.map .int))) (hgn : G gl = none ∨ G gl = some (.goal r.w)) (hrg : gl ≠ rA) :
    LH6 C nA rA gA (rp ++ [r]) rows n VA (updG G gl (.goal r.w)) gv D (upd Hs rA (.list (vs ++ [.ref a]))) := by
  have h' := h.ext hE
  have hg : ∀ b u, G b = some u → updG G gl (.goal r.w) b = some u := fun b u e => by
    unfold updG
    split
    · rename_i q
      rcases hgn with z | z
      · rw [q, z] at e; cases e
      · rw [q, z] at e; exact e
    · exact e
  have kp : ∀ b y, Hs b = some y → b ≠ rA → upd Hs rA (.list (vs ++ [.ref a])) b = some y := fun b y e q => upd_ne q e
  have nt : ∀ b y, Hs b = some y → (∃ xs, y = .tup xs) ∨ (∃ C dx, y = .inst C dx) ∨ (∃ v, y = .attrs v) → b ≠ rA := fun b y e q z => by
    rw [z, hE _ _ hvs] at e
    cases e
    rcases q with ⟨_, q⟩ | ⟨_, _, q⟩ | ⟨_, q⟩ <;> cases q
  have hr1 : HR rows n VA (updG G gl (.goal r.w)) (upd Hs rA (.list (vs ++ [.ref a]))) := by
    have base := h'.hr.keep (H' := upd Hs rA (.list (vs ++ [.ref a]))) (fun b y u q1 q2 q3 => kp b y q1 (fun z => by rw [z, h.tr] at q2; cases q2; rcases q3 with q3 | ⟨w, q3⟩ <;> cases q3)) (fun b e => by
      unfold upd at e
      split at e
      · cases e
      · exact e)
    refine ⟨fun w hw ht => ?_, fun q hq => (base.val q hq).mono rfl (fun _ => rfl) hg fun b y u q1 _ _ => q1, fun b u e z => ?_⟩
    · obtain ⟨b, ep, f1, f2, f3⟩ := base.tab w hw ht
      exact ⟨b, ep, f1, hg _ _ f2, f3⟩
    · unfold updG at e
      split at e
      · rename_i q
        rw [q, kp _ _ hgl hrg] at z; cases z
      · exact base.live b u e z
  obtain ⟨us, e1, e2, e3⟩ := h'.rws
  obtain rfl : us = vs := by
    rw [hE _ _ hvs] at e1
    exact (AObj.list.inj (Option.some.inj e1)).symm
  refine { h' with
    hr := hr1
    nests := h'.nests.of (fun _ _ => rfl) fun b y e q => kp b y e (by
      rcases q with q | q | q
      · rw [q]; exact h.d1
      · exact nt b y e (.inr (.inl q))
      · exact nt b y e (.inr (.inr q)))
    rws := ?_
    giv := h'.giv.of (Nat.le_refl _) (fun _ e => e) (fun _ _ _ => rfl) fun b y e q => kp b y e (by
      rcases q with q | q
      · rw [q]; exact Ne.symm h.d3
      · exact nt b y e (.inl q))
    tn := hg _ _ h.tn
    tr := hg _ _ h.tr
    tg := hg _ _ h.tg
    sub := fun q hq => (List.mem_append.mp hq).elim (h.sub q) fun q' => by rw [List.mem_singleton.mp q']; exact hr }
  have glk : ∀ (j : Nat) v q, us[j]? = some v → rp[j]? = some q → RowIs (upd Hs rA (.list (us ++ [.ref a]))) q v ∧ ∃ b wv gl' t, v = .ref b ∧ upd Hs rA (.list (us ++ [.ref a])) b = some (.tup [wv, .str (kn q.k) t, .ref gl']) ∧ updG G gl (.goal r.w) gl' = some (.goal q.w) := fun j v q f1 f2 => by
    obtain ⟨b, wv1, gl1, t1, rfl, z1, z2, z3⟩ := e2.at_ j v q f1 f2
    obtain ⟨b', wv2, gl2, t2, y1, y2, y3⟩ := e3 j _ q f1 f2
    cases y1
    rw [z1] at y2
    have := AObj.tup.inj (Option.some.inj y2)
    injection this with x1 x2
    injection x2 with x3 x4
    injection x4 with x5 x6
    injection x5 with x5
    subst x5
    have hne : gl1 ≠ rA := fun e => by rw [e, h.tr] at y3; cases y3
    exact ⟨⟨b, wv1, gl1, t1, rfl, kp _ _ z1 (nt _ _ z1 (.inl ⟨_, rfl⟩)), z2.ext fun c xs e => kp _ _ e (nt _ _ e (.inl ⟨_, rfl⟩)), kp _ _ z3 hne⟩, b, wv1, gl1, t1, rfl, kp _ _ z1 (nt _ _ z1 (.inl ⟨_, rfl⟩)), hg _ _ y3⟩
  have hnew : RowIs (upd Hs rA (.list (us ++ [.ref a]))) r (.ref a) := ⟨a, wv, gl, t, rfl, kp _ _ ha (nt _ _ ha (.inl ⟨_, rfl⟩)), hwv.ext fun c xs e => kp _ _ e (nt _ _ e (.inl ⟨_, rfl⟩)), kp _ _ hgl hrg⟩
  refine ⟨us ++ [.ref a], upd_same, RowsIn.snoc ⟨e2.len, fun j v q f1 f2 => (glk j v q f1 f2).1⟩ hnew, fun j v q f1 f2 => ?_⟩
  rcases Nat.lt_or_ge j us.length with hj | hj
  · rw [List.getElem?_append_left hj] at f1
    rw [List.getElem?_append_left (e2.len ▸ hj)] at f2
    exact (glk j v q f1 f2).2
  · rw [List.getElem?_append_right hj] at f1
    rw [List.getElem?_append_right (e2.len ▸ hj), ← e2.len] at f2
    have hj0 : j - us.length = 0 := by
      have := (List.getElem?_eq_some_iff.mp f1).1
      simp at this; exact this
    rw [hj0] at f1 f2
    simp at f1 f2
    subst f1; subst f2
    exact ⟨a, wv, gl, t, rfl, kp _ _ ha (nt _ _ ha (.inl ⟨_, rfl⟩)), updG_same⟩
end
end Mine
namespace Mine
theorem snoc_at {α β : Type} {xs : List α} {ys : List β} {j : Nat} {x x' : α} {y y' : β} (hl : xs.length = ys.length) (h1 : (xs ++ [x])[j]? = some x') (h2 : (ys ++ [y])[j]? = some y') : (xs[j]? = some x' ∧ ys[j]? = some y') ∨ (x' = x ∧ y' = y) := by
  rcases Nat.lt_or_ge j xs.length with hj | hj
  · rw [List.getElem?_append_left hj] at h1
    rw [List.getElem?_append_left (hl ▸ hj)] at h2
    exact .inl ⟨h1, h2⟩
  · rw [List.getElem?_append_right hj] at h1
    rw [List.getElem?_append_right (hl ▸ hj), ← hl] at h2
    have hj0 : j - xs.length = 0 := by
      have := (List.getElem?_eq_some_iff.mp h1).1
      simp at this; exact this
    rw [hj0] at h1 h2
    simp at h1 h2
    exact .inr ⟨h1.symm, h2.symm⟩
section
variable {C nA rA gA : Addr} {rp rows : List LR} {n : Nat} {VA : Vals} {G : Ghost} {gv : List Way} {D : Nat} {H H' : AHeap}
theorem LH6.give (h : LH6 C nA rA gA rp rows n VA G gv D H) {w : Way} {vs : List V} {a : Addr} {wv : V} {Hs : AHeap} (hl : gv.length + 1 ≤ D) (hvs : H gA = some (.list vs)) (ht : isTab rows w) (hi : w.1 < n) (hE : Ext H Hs) (ha : Hs a = some (.tup [wv, VA w])) (hwv : IsWay Hs w wv) :
    LH6 C nA rA gA rp rows n VA G (gv ++ [w]) D (upd Hs gA (.list (vs ++ [.ref a]))) := by
  have h' := h.ext hE
  have hy := hE _ _ hvs
  have kp : ∀ b z, Hs b = some z → b ≠ gA → upd Hs gA (.list (vs ++ [.ref a])) b = some z := fun b z e q => upd_ne q e
  have nt : ∀ b z, Hs b = some z → (∃ xs, z = .tup xs) ∨ (∃ C dx, z = .inst C dx) ∨ (∃ v, z = .attrs v) → b ≠ gA := fun b z e q w => by
    rw [w, hy] at e; cases e
    rcases q with ⟨_, q⟩ | ⟨_, _, q⟩ | ⟨_, q⟩ <;> cases q
  obtain ⟨us, g1, g2, g3⟩ := h'.giv
  obtain rfl : us = vs := by rw [hy] at g1; exact (AObj.list.inj (Option.some.inj g1)).symm
  refine { h' with
    hr := h'.hr.keep (fun b z t q1 q2 q3 => kp b z q1 (fun w => by rw [w, h.tg] at q2; cases q2; rcases q3 with q3 | ⟨w, q3⟩ <;> cases q3)) (fun b e => by unfold upd at e; split at e; cases e; exact e)
    nests := h'.nests.of (fun _ _ => rfl) fun b z e q => kp b z e (by
      rcases q with q | q | q
      · rw [q]; exact h.d2
      · exact nt b z e (.inr (.inl q))
      · exact nt b z e (.inr (.inr q)))
    rws := h'.rws.of (fun _ _ e => e) fun b z e q => kp b z e (by
      rcases q with q | q | ⟨w, q⟩
      · rw [q]; exact h.d3
      · exact nt b z e (.inl q)
      · intro w; rw [w, h.tg] at q; cases q)
    giv := ⟨us ++ [.ref a], upd_same, by simp [g2], fun j v u e1 e2 => ?_⟩
    gvl := by rw [List.length_append]; exact hl }
  rcases snoc_at g2 e1 e2 with ⟨f1, f2⟩ | ⟨rfl, rfl⟩
  · obtain ⟨q1, q2, b, wv', q3, q4, q5⟩ := g3 j v u f1 f2
    exact ⟨q1, q2, b, wv', q3, kp _ _ q4 (nt _ _ q4 (.inl ⟨_, rfl⟩)), q5.ext fun c xs e => kp _ _ e (nt _ _ e (.inl ⟨_, rfl⟩))⟩
  · exact ⟨ht, hi, a, wv, rfl, kp _ _ ha (nt _ _ ha (.inl ⟨_, rfl⟩)), hwv.ext fun c xs e => kp _ _ e (nt _ _ e (.inl ⟨_, rfl⟩))⟩
theorem LH6.app (h : LH6 C nA rA gA rows rows n VA G gv D H) {r : LR} {l gl : Addr} {vs : List V} {g : Nat} (hg : g < n) (hgc : ∀ r ∈ rows, r.g.length + 1 ≤ D + 3) (hk : r.k = .list) (hl : VA r.w = .ref l) (hv : H l = some (.list vs)) {vsR : List V} {j0 : Nat} {a0 : Addr} {wv0 : V} {t0 : Tok} (hvR : H rA = some (.list vsR)) (hj0 : vsR[j0]? = some (.ref a0)) (hrj : rows[j0]? = some r) (ha0 : H a0 = some (.tup [wv0, .str (kn r.k) t0, .ref gl])) :
    LH6 C nA rA gA (rows.map (addG r.w g)) (rows.map (addG r.w g)) n VA G gv D (upd (upd H l (.list (vs ++ [VA (g, [])]))) gl (.list (r.g.map .int ++ [.int (g : Int)]))) := by
  have hr := List.mem_of_getElem? hrj
  obtain ⟨us, e1, e2, e3⟩ := id h.rws
  obtain rfl : us = vsR := by rw [hvR] at e1; exact (AObj.list.inj (Option.some.inj e1)).symm
  have glu : ∀ (j : Nat) v q, us[j]? = some v → rows[j]? = some q → ∃ a wv gq t, v = .ref a ∧ H a = some (.tup [wv, .str (kn q.k) t, .ref gq]) ∧ IsWay H q.w wv ∧ H gq = some (.list (q.g.map .int)) ∧ G gq = some (.goal q.w) := fun j v q f1 f2 => by
    obtain ⟨b, wv1, gl1, t1, rfl, z1, z2, z3⟩ := e2.at_ j v q f1 f2
    obtain ⟨b', wv2, gl2, t2, y1, y2, y3⟩ := e3 j _ q f1 f2
    cases y1
    rw [z1] at y2
    have := AObj.tup.inj (Option.some.inj y2)
    injection this with w1 w2
    injection w2 with w3 w4
    injection w4 with w5 w6
    injection w5 with w5
    subst w5
    exact ⟨b, wv1, gl1, t1, rfl, z1, z2, z3, y3⟩
  obtain ⟨hgl, hgt⟩ : H gl = some (.list (r.g.map .int)) ∧ G gl = some (.goal r.w) := by
    obtain ⟨a, wv, gq, t, q1, q2, q3, q4, q5⟩ := glu j0 _ r hj0 hrj
    cases q1
    rw [ha0] at q2
    have := AObj.tup.inj (Option.some.inj q2)
    injection this with w1 w2
    injection w2 with w3 w4
    injection w4 with w5 w6
    injection w5 with w5
    subst w5
    exact ⟨q4, q5⟩
  have hx := h.hr.val r hr
  unfold LeadsR at hx
  simp only [hk] at hx
  obtain ⟨l', x1, x2, _⟩ := hx
  obtain rfl : l = l' := by rw [hl] at x1; exact V.ref.inj x1
  have hlg : gl ≠ l := fun e => by rw [e, x2] at hgt; cases hgt
  have kp : ∀ b z, H b = some z → b ≠ l → b ≠ gl → upd (upd H l (.list (vs ++ [VA (g, [])]))) gl (.list (r.g.map .int ++ [.int (g : Int)])) b = some z := fun b z e q1 q2 => upd_ne q2 (upd_ne q1 e)
  have nt : ∀ b z, H b = some z → (∃ xs, z = .tup xs) ∨ (∃ C dx, z = .inst C dx) ∨ (∃ v, z = .attrs v) → b ≠ l ∧ b ≠ gl := fun b z e q => by
    refine ⟨fun w => ?_, fun w => ?_⟩
    · rw [w, hv] at e; cases e
      rcases q with ⟨_, q⟩ | ⟨_, _, q⟩ | ⟨_, q⟩ <;> cases q
    · rw [w, hgl] at e; cases e
      rcases q with ⟨_, q⟩ | ⟨_, _, q⟩ | ⟨_, q⟩ <;> cases q
  have ns : ∀ b, G b = some .sys → b ≠ l ∧ b ≠ gl := fun b e => ⟨(fun w => by rw [w, x2] at e; cases e), fun w => by rw [w, hgt] at e; cases e⟩
  have mem : ∀ q ∈ rows.map (addG r.w g), ∃ q' ∈ rows, q = addG r.w g q' := fun q hq => by
    obtain ⟨q', h1, h2⟩ := List.mem_map.mp hq; exact ⟨q', h1, h2.symm⟩
  have nr := ns _ h.tr
  have nn := ns _ h.tn
  have ng := ns _ h.tg
  refine { h with
    ok := h.ok.add hg fun q hq e => by rw [h.ok.uniq hq hr e, hk]; simp
    hr := (h.hr.add h.ok (g := g) hr hk hl hv).keep (fun b z t q1 q2 q3 => upd_ne (fun w => by rw [w, hgt] at q2; cases q2; rcases q3 with q3 | ⟨w, q3⟩ <;> cases q3) q1) (fun b e => by
      unfold upd at e ⊢
      split at e
      · cases e
      · exact e)
    nests := h.nests.of (fun _ _ => rfl) fun b z e q => by
      rcases q with q | q | q
      · exact kp b z e (q ▸ nn.1) (q ▸ nn.2)
      · exact kp b z e (nt b z e (.inr (.inl q))).1 (nt b z e (.inr (.inl q))).2
      · exact kp b z e (nt b z e (.inr (.inr q))).1 (nt b z e (.inr (.inr q))).2
    rws := ⟨us, kp _ _ e1 nr.1 nr.2, ⟨by rw [List.length_map]; exact e2.len, fun j v q f1 f2 => ?_⟩, fun j v q f1 f2 => ?_⟩
    giv := h.giv.of (Nat.le_refl _) (fun _ e => isTab_add.mpr e) (fun _ _ _ => rfl) fun b z e q => by
      rcases q with q | q
      · exact kp b z e (q ▸ ng.1) (q ▸ ng.2)
      · exact kp b z e (nt b z e (.inl q)).1 (nt b z e (.inl q)).2
    nm := fun q hq => by obtain ⟨q', h1, rfl⟩ := mem q hq; rw [addG_w]; exact h.nm q' h1
    len := fun q hq => by obtain ⟨q', h1, rfl⟩ := mem q hq; rw [addG_w]; exact h.len q' h1
    cnt := by rw [List.length_map]; exact h.cnt
    gcnt := fun q hq => by
      obtain ⟨q', h1, rfl⟩ := mem q hq
      have := hgc q' h1
      unfold addG
      split
      · simp; omega
      · omega
    sub := fun q hq => hq }
  · rw [List.getElem?_map, Option.map_eq_some_iff] at f2
    obtain ⟨q', f2, rfl⟩ := f2
    obtain ⟨a, wv, gq, t, rfl, z1, z2, z3, z4⟩ := glu j v q' f1 f2
    refine ⟨a, wv, gq, t, rfl, by rw [addG_k]; exact kp _ _ z1 (nt _ _ z1 (.inl ⟨_, rfl⟩)).1 (nt _ _ z1 (.inl ⟨_, rfl⟩)).2, by rw [addG_w]; exact z2.ext fun c xs e => kp _ _ e (nt _ _ e (.inl ⟨_, rfl⟩)).1 (nt _ _ e (.inl ⟨_, rfl⟩)).2, ?_⟩
    unfold addG
    split
    · rename_i hw
      have : q' = r := h.ok.uniq (List.mem_of_getElem? f2) hr hw
      subst this
      have hjj : j = j0 := by
        have hlt := (List.getElem?_eq_some_iff.mp f2).1
        refine (List.getElem?_inj (by rw [List.length_map]; exact hlt) h.ok.dis).mp ?_
        rw [List.getElem?_map, List.getElem?_map, f2, hrj]
      subst hjj
      rw [hj0] at f1
      cases f1
      rw [ha0] at z1
      have := AObj.tup.inj (Option.some.inj z1)
      injection this with w1 w2
      injection w2 with w3 w4
      injection w4 with w5 w6
      injection w5 with w5
      subst w5
      rw [upd_same, List.map_append]; rfl
    · rename_i hw
      exact kp _ _ z3 (fun w => by rw [w, x2] at z4; cases z4) (fun w => by rw [w, hgt] at z4; exact hw (Tag.goal.inj (Option.some.inj z4)).symm)
  · rw [List.getElem?_map, Option.map_eq_some_iff] at f2
    obtain ⟨q', f2, rfl⟩ := f2
    obtain ⟨a, wv, gq, t, q1, z1, z2, z3, z4⟩ := glu j v q' f1 f2
    exact ⟨a, wv, gq, t, q1, by rw [addG_k]; exact kp _ _ z1 (nt _ _ z1 (.inl ⟨_, rfl⟩)).1 (nt _ _ z1 (.inl ⟨_, rfl⟩)).2, by rw [addG_w]; exact z4⟩
theorem LH6.lay1 (h : LH6 C nA rA gA rows rows n VA G gv D H) {c : Way} {x : Str} {b : Addr} {ep : Nat} {r : LR} {v : V} {Hs : AHeap} {G' : Ghost} (hc : c.1 < n) (ht : isTab rows c) (hn : rowAt rows (c.1, c.2 ++ [x]) = none) (hb : VA c = .ref b) (hw : r.w = (c.1, c.2 ++ [x])) (hk : r.k ≠ .table)
    (hE : Ext H Hs) (hG : ∀ a t, G a = some t → G' a = some t) (hnew : ∀ a t, G' a = some t → G a = some t ∨ Hs a ≠ none) (hl : LeadsR (updV VA r.w v) G' Hs r) (hgl : r.k = .dict ∨ r.k = .list → ∃ g : Nat, r.g.getLast? = some (g : Int) ∧ g < n) (hbd : ∀ g ∈ r.g, g < (n : Int)) (hnm : ∀ y ∈ r.w.2, isNm y = true) (hlen : r.w.2.length ≤ 10) (hcnt : rows.length + 1 ≤ 10 * D) (hgc : r.g.length ≤ D + 3) (h1 : r.k = .dict → r.g.length = 1) :
    LH6 C nA rA gA rows (rows ++ [r]) n (updV VA r.w v) G' gv D (upd Hs b (.dict (kids rows VA c ++ [(.inr x, v)]) ep)) := by
  have h' := h.ext hE
  obtain ⟨b', ep', e1, e2, e3⟩ := h.hr.tab c hc ht
  obtain rfl : b = b' := by rw [hb] at e1; exact V.ref.inj e1
  have kp : ∀ a z, Hs a = some z → (∃ xs, z = .tup xs) ∨ (∃ xs, z = .list xs) ∨ (∃ C dx, z = .inst C dx) ∨ (∃ v, z = .attrs v) → upd Hs b (.dict (kids rows VA c ++ [(.inr x, v)]) ep) a = some z := fun a z e q => upd_ne (fun w => by
    rw [w, hE _ _ e3] at e; cases e
    rcases q with ⟨_, q⟩ | ⟨_, q⟩ | ⟨_, _, q⟩ | ⟨_, q⟩ <;> cases q) e
  have hv0 : ∀ g, updV VA r.w v (g, []) = VA (g, []) := fun g => updV_ne (fun e => by rw [hw] at e; have := congrArg Prod.snd e; simp at this)
  have hnr : rowAt rows r.w = none := by rw [hw]; exact hn
  have hvt : ∀ w, isTab rows w → updV VA r.w v w = VA w := fun w tw => updV_ne fun e => by
    rcases tw with tw | ⟨q, hq, q1, _⟩
    · rw [e, hw] at tw; simp at tw
    · exact rowAt_none hnr q hq (q1.trans e)
  obtain ⟨xs, n1, _⟩ := id h'.nests
  obtain ⟨vs, r1, _⟩ := id h'.rws
  obtain ⟨us, g1, _⟩ := id h'.giv
  have hm : ∀ q ∈ rows, q ∈ rows ++ [r] := fun q hq => List.mem_append_left _ hq
  exact { h' with
    ok := h.ok.snoc (p := c.2) (x := x) (by rw [hw]) hnr (by rw [hw]; exact ht) (by rw [hw]; exact hc) hgl hbd h1
    hr := h.hr.lay h.ok hc ht hn hb hw hk hE hG hnew hl
    nests := h'.nests.of (fun i _ => hv0 i) fun a z e q => kp a z e (by
      rcases q with q | q | q
      · rw [q, n1] at e; cases e; exact .inr (.inl ⟨_, rfl⟩)
      · exact .inr (.inr (.inl q))
      · exact .inr (.inr (.inr q)))
    rws := by
      obtain ⟨vs, r1, r2, r3⟩ := h'.rws
      refine ⟨vs, kp _ _ r1 (.inr (.inl ⟨_, rfl⟩)), ⟨r2.len, fun j u q f1 f2 => ?_⟩, fun j u q f1 f2 => ?_⟩
      · obtain ⟨a, wv, gl, t, q1, q2, q3, q4⟩ := r2.at_ j u q f1 f2
        exact ⟨a, wv, gl, t, q1, kp _ _ q2 (.inl ⟨_, rfl⟩), q3.ext fun c ys e => kp _ _ e (.inl ⟨_, rfl⟩), kp _ _ q4 (.inr (.inl ⟨_, rfl⟩))⟩
      · obtain ⟨a, wv, gl, t, q1, q2, q3⟩ := r3 j u q f1 f2
        exact ⟨a, wv, gl, t, q1, kp _ _ q2 (.inl ⟨_, rfl⟩), hG _ _ q3⟩
    giv := h'.giv.of (Nat.le_refl _) (fun w t => t.mono hm) (fun w t _ => hvt w t) fun a z e q => kp a z e (by
      rcases q with q | q
      · rw [q, g1] at e; cases e; exact .inr (.inl ⟨_, rfl⟩)
      · exact .inl q)
    tn := hG _ _ h.tn
    tr := hG _ _ h.tr
    tg := hG _ _ h.tg
    nm := fun q hq => (List.mem_append.mp hq).elim (h.nm q) fun z => by rw [List.mem_singleton.mp z]; exact hnm
    len := fun q hq => (List.mem_append.mp hq).elim (h.len q) fun z => by rw [List.mem_singleton.mp z]; exact hlen
    cnt := by rw [List.length_append]; exact hcnt
    gcnt := fun q hq => (List.mem_append.mp hq).elim (h.gcnt q) fun z => by rw [List.mem_singleton.mp z]; exact hgc
    sub := hm }
end
end Mine
namespace Mine
structure All2 {α : Type} (P : α → V → Prop) (vs : List V) (rs : List α) : Prop where
  len : vs.length = rs.length
  at_ : ∀ (j : Nat) v r, vs[j]? = some v → rs[j]? = some r → P r v
theorem All2.nil {α : Type} {P : α → V → Prop} : All2 P [] [] := ⟨rfl, fun j v r h => by simp at h⟩
theorem All2.snoc {α : Type} {P : α → V → Prop} {vs : List V} {rs : List α} {v : V} {r : α} (x : All2 P vs rs) (h : P r v) : All2 P (vs ++ [v]) (rs ++ [r]) :=
  ⟨by simp [x.len], fun j u q h1 h2 => by
    rcases snoc_at x.len h1 h2 with ⟨f1, f2⟩ | ⟨rfl, rfl⟩
    · exact x.at_ j u q f1 f2
    · exact h⟩
theorem All2.mono {α : Type} {P P' : α → V → Prop} {vs : List V} {rs : List α} (x : All2 P vs rs) (h : ∀ r v, P r v → P' r v) : All2 P' vs rs := ⟨x.len, fun j v r h1 h2 => h r v (x.at_ j v r h1 h2)⟩
section
variable {k : Wk} {m : Loc} {H : AHeap}
theorem LC.rowsG {elt : Expr} {ifs : List Expr} {scope : Scope} {rA : Addr} {vs : List V} {rows : List LR} {x : Str} {Q : Addr → AHeap → Prop} (P : AHeap → LR → V → Prop) (hP : ∀ H H' r v, Ext H H' → P H r v → P H' r v) (p : LR → Bool) (hh : k.A.handled = none) (hl : H rA = some (.list vs)) (hR : RowsIn H vs rows) (hz : rows.length ≤ 100000)
    (step : ∀ kc, CompK k scope kc → ∀ (i : Nat) r v mc H2, rows[i]? = some r → vs[i]? = some v → RowIs H2 r v → Ext H H2 → Caps scope m mc → mc x = some v → W kc (tests ifs kc.env) mc H2 fun b m3 H3 => m3 = mc ∧ b = p r ∧ Ext H2 H3 ∧ (b = true → WV kc (eval elt kc.env) mc H3 fun u m4 H4 => m4 = mc ∧ Ext H3 H4 ∧ P H4 r u))
    (fin : ∀ a acc H2, Ext H H2 → H2 a = none → All2 (P H2) acc (rows.filter p) → Q a (upd H2 a (.list acc))) : ∃ n R ok I, LC k elt ifs scope x (.ref rA) m H Q n R ok I := by
  refine ⟨_, _, _, fun i acc H2 => Ext H H2 ∧ All2 (P H2) acc ((rows.take i).filter p), WIter_list hh hl, ⟨Ext.refl _, by rw [List.take_zero]; exact .nil⟩, fun i acc H2 q => q.1 _ _ hl, by rw [show sizeLine = _ from sizeLine_eq, hR.len]; omega, ?_, ?_⟩
  · intro kc hkc i v acc mc H2 hi hv hI hcap hx
    obtain ⟨hE, hacc⟩ := hI
    rw [hR.len] at hi
    have hr : rows[i]? = some rows[i] := List.getElem?_eq_getElem hi
    have hri := (hR.at_ i v _ hv hr).ext hE
    have htk : (rows.take (i + 1)).filter p = (rows.take i).filter p ++ if p rows[i] = true then [rows[i]] else [] := by
      rw [List.take_add_one, hr, List.filter_append]
      congr 1
      simp [List.filter_cons]
    refine W.mono (step kc hkc i _ v mc H2 hr hv hri hE hcap hx) fun b m3 H3 q => ?_
    obtain ⟨rfl, hb, hE3, q⟩ := q
    refine ⟨rfl, ?_⟩
    rw [htk]
    cases b with
    | true =>
      rw [if_pos rfl, if_pos hb.symm]
      refine W.mono (q rfl) fun u m4 H4 z => ?_
      obtain ⟨rfl, hE4, hp⟩ := z
      exact ⟨rfl, hE.trans (hE3.trans hE4), (hacc.mono fun r v => hP _ _ r v (hE3.trans hE4)).snoc hp⟩
    | false =>
      rw [if_neg Bool.false_ne_true, if_neg (by rw [← hb]; simp), List.append_nil]
      exact ⟨hE.trans hE3, hacc.mono fun r v => hP _ _ r v hE3⟩
  · intro a acc H2 _ hI ha
    obtain ⟨hE, hacc⟩ := hI
    rw [hR.len, List.take_length] at hacc
    exact fin a acc H2 hE ha hacc
end
theorem addT_mono {i : Nat} {rows : List LR} {p : List Str} : ∀ (q' q : List Str), ∀ r ∈ addT i rows p q, r ∈ addT i rows p (q ++ q') := by
  intro q'
  induction q' using snocInd with
  | nil => intro q r h; rwa [List.append_nil]
  | append_singleton q' x ih =>
    intro q r h
    rw [← List.append_assoc, addT_snoc]
    split
    · exact List.mem_append_left _ (ih q r h)
    · exact ih q r h
theorem addT_length (i : Nat) : ∀ (q : List Str) (rows : List LR) (p : List Str), (addT i rows p q).length ≤ rows.length + q.length
  | [], rows, p => by rw [addT]; simp
  | x :: q, rows, p => by
    rw [addT]
    split
    · have := addT_length i q (rows ++ [⟨(i, p ++ [x]), .table, []⟩]) (p ++ [x])
      simp only [List.length_append, List.length_cons, List.length_nil] at this ⊢
      omega
    · have := addT_length i q rows (p ++ [x])
      simp only [List.length_cons]
      omega
theorem rowAt_none_iff {rows : List LR} {w : Way} : rowAt rows w = none ↔ w ∉ rows.map (·.w) := by
  unfold rowAt
  rw [List.find?_eq_none]
  refine ⟨fun h q => ?_, fun h r hr e => ?_⟩
  · obtain ⟨r, hr, e⟩ := List.mem_map.mp q
    exact h r hr (by simpa using e)
  · exact h (List.mem_map.mpr ⟨r, hr, by simpa using e⟩)
end Mine
namespace Mine
noncomputable def LaidIs (VA : Vals) (H1 Hs : AHeap) (gs : List Int) (lA : Addr) : Prop :=
  ∃ vs, Hs lA = some (.list vs) ∧ vs.length = gs.length ∧ ∀ (t : Nat) g v, gs[t]? = some g → vs[t]? = some v → if g < 0 then ∃ e, v = .ref e ∧ H1 e = none ∧ Hs e = some (.dict [] 0) else v = VA (g.toNat, [])
theorem LaidIs.ext {VA : Vals} {H1 Hs Hs' : AHeap} {gs : List Int} {lA : Addr} (h : LaidIs VA H1 Hs gs lA) (hE : Ext Hs Hs') : LaidIs VA H1 Hs' gs lA := by
  obtain ⟨vs, h1, h2, h3⟩ := h
  refine ⟨vs, hE _ _ h1, h2, fun t g v e1 e2 => ?_⟩
  have := h3 t g v e1 e2
  split at this
  · rename_i hl
    rw [if_pos hl]
    obtain ⟨e, q1, q2, q3⟩ := this
    exact ⟨e, q1, q2, hE _ _ q3⟩
  · rename_i hl
    rw [if_neg hl]; exact this
open Classical in
noncomputable def tagE (G : Ghost) (H1 Hs : AHeap) : Ghost := fun a => if H1 a = none ∧ Hs a = some (.dict [] 0) then some .emp else G a
theorem tagE_old {G : Ghost} {H1 Hs : AHeap} (hl : ∀ a t, G a = some t → H1 a ≠ none) {a : Addr} {t : Tag} (h : G a = some t) : tagE G H1 Hs a = some t := by
  unfold tagE
  rw [if_neg (fun q => hl a t h q.1)]; exact h
theorem tagE_new {G : Ghost} {H1 Hs : AHeap} {a : Addr} {t : Tag} (h : tagE G H1 Hs a = some t) : G a = some t ∨ Hs a ≠ none := by
  unfold tagE at h
  split at h
  · rename_i q; exact .inr (by rw [q.2]; simp)
  · exact .inl h
theorem LaidIs.items {VA : Vals} {H1 Hs : AHeap} {gs : List Int} {lA : Addr} {w : Way} {v : V} {G' : Ghost} (h : LaidIs VA H1 Hs gs lA) (hw : w.2 ≠ []) (hG : ∀ a, H1 a = none → Hs a = some (.dict [] 0) → G' a = some .emp) : ItemsAt (updV VA w v) G' Hs gs lA := by
  obtain ⟨vs, h1, h2, h3⟩ := h
  refine ⟨vs, h1, h2, fun t g u e1 e2 => ?_⟩
  have := h3 t g u e1 e2
  split at this
  · rename_i hl
    rw [if_pos hl]
    obtain ⟨e, q1, q2, q3⟩ := this
    exact ⟨e, 0, q1, hG e q2 q3, q3⟩
  · rename_i hl
    rw [if_neg hl, updV_ne (fun e => hw (by rw [← e]))]; exact this
noncomputable def laidK (kd place : Nat) : KW := if kd = 3 then .dict else if kd = 4 then .list else if kd = 5 then (if place % 2 = 0 then .num else .text) else .lists
noncomputable def goalsK (kd place j : Nat) : List Int := if kd = 4 then List.replicate (place % 3) (-1) ++ [(j : Int)] else [(j : Int)]
theorem goalsK_last {kd place j : Nat} : (goalsK kd place j).getLast? = some (j : Int) := by
  unfold goalsK; split <;> simp
theorem goalsK_bd {kd place j n : Nat} (h : j < n) : ∀ g ∈ goalsK kd place j, g < (n : Int) := fun g hg => by
  unfold goalsK at hg
  split at hg
  · rcases List.mem_append.mp hg with hg | hg
    · rw [(List.mem_replicate.mp hg).2]; omega
    · rw [List.mem_singleton.mp hg]; omega
  · rw [List.mem_singleton.mp hg]; omega
theorem goalsK_len {kd place j : Nat} : (goalsK kd place j).length ≤ 3 ∧ 0 < (goalsK kd place j).length := by
  unfold goalsK
  have := Nat.mod_lt place (show 0 < 3 by decide)
  split <;> simp <;> omega
theorem goalOf_K {w : Way} {kk : KW} {kd place j : Nat} : goalOf ⟨w, kk, goalsK kd place j⟩ = j := by
  unfold goalOf
  rw [goalsK_last]; rfl
noncomputable def LaidV (VA : Vals) (Hs : AHeap) (kd place j : Nat) (lA : Addr) (v : V) : Prop :=
  if kd = 3 then v = VA (j, []) else if kd = 4 then v = .ref lA else if kd = 5 then (if place % 2 = 0 then v = .int 0 else ∃ t, v = .str "a" t) else ∃ oA, v = .ref oA ∧ Hs oA = some (.list [.ref lA])
noncomputable def tagL (G : Ghost) (H1 Hs : AHeap) (kd : Nat) (w : Way) (lA : Addr) (v : V) : Ghost :=
  if kd = 4 then updG (tagE G H1 Hs) lA (.lst w) else if kd = 7 then match v with
    | .ref o => updG (updG (tagE G H1 Hs) lA (.lst w)) o (.out w)
    | _ => tagE G H1 Hs
  else tagE G H1 Hs
section
variable {VA : Vals} {G : Ghost} {H1 Hs : AHeap} {kd place j : Nat} {lA : Addr} {w : Way} {v : V}
theorem tagL_old (hl : ∀ a t, G a = some t → H1 a ≠ none) (hlA : H1 lA = none) (hv : kd = 7 → ∃ o, v = .ref o ∧ H1 o = none) {a : Addr} {t : Tag} (h : G a = some t) : tagL G H1 Hs kd w lA v a = some t := by
  have h0 := tagE_old (Hs := Hs) hl h
  have n1 : a ≠ lA := fun e => hl a t h (by rw [e]; exact hlA)
  unfold tagL
  split
  · rw [updG_ne n1]; exact h0
  · split
    · rename_i h7
      obtain ⟨o, rfl, ho⟩ := hv h7
      simp only
      rw [updG_ne (fun e => hl a t h (by rw [e]; exact ho)), updG_ne n1]; exact h0
    · exact h0
theorem tagL_new (hlA : Hs lA ≠ none) (hv : kd = 7 → ∃ o, v = .ref o ∧ Hs o ≠ none) {a : Addr} {t : Tag} (h : tagL G H1 Hs kd w lA v a = some t) : G a = some t ∨ Hs a ≠ none := by
  unfold tagL at h
  split at h
  · unfold updG at h
    split at h
    · rename_i q; rw [q]; exact .inr hlA
    · exact tagE_new h
  · split at h
    · rename_i h7
      obtain ⟨o, rfl, ho⟩ := hv h7
      simp only at h
      unfold updG at h
      split at h
      · rename_i q; rw [q]; exact .inr ho
      · split at h
        · rename_i q; rw [q]; exact .inr hlA
        · exact tagE_new h
    · exact tagE_new h
theorem leads_laid (hk : kd = 3 ∨ kd = 4 ∨ kd = 5 ∨ kd = 7) (hw : w.2 ≠ []) (hL : LaidIs VA H1 Hs (goalsK kd place j) lA) (hlA : ∃ xs, Hs lA = some (.list xs)) (hv : LaidV VA Hs kd place j lA v) (hne : ∀ o, v = .ref o → kd = 7 → o ≠ lA) : LeadsR (updV VA w v) (tagL G H1 Hs kd w lA v) Hs ⟨w, laidK kd place, goalsK kd place j⟩ := by
  obtain ⟨xs, hxs⟩ := hlA
  have hn : ∀ a, H1 a = none → Hs a = some (.dict [] 0) → tagE G H1 Hs a = some .emp := fun a q1 q2 => by
    unfold tagE
    rw [if_pos ⟨q1, q2⟩]
  rcases hk with rfl | rfl | rfl | rfl
  · show updV VA w v w = updV VA w v (goalOf _, [])
    rw [goalOf_K, updV_same, updV_ne (fun e => hw (by rw [← e]))]
    exact hv
  · have hv : v = .ref lA := hv
    subst hv
    refine ⟨lA, updV_same, ?_, hL.items hw fun a e1 e2 => ?_⟩
    · exact updG_same
    · show updG _ _ _ a = _
      rw [updG_ne (fun q => by rw [q, hxs] at e2; cases e2)]
      exact hn a e1 e2
  · unfold LaidV at hv
    simp only [show ¬ (5 = 3) by decide, show ¬ (5 = 4) by decide, if_false, if_true] at hv
    unfold laidK
    simp only [show ¬ (5 = 3) by decide, show ¬ (5 = 4) by decide, if_false, if_true]
    by_cases hp : place % 2 = 0
    · rw [if_pos hp] at hv ⊢
      exact updV_same.trans hv
    · rw [if_neg hp] at hv ⊢
      obtain ⟨t, rfl⟩ := hv
      exact ⟨t, updV_same⟩
  · unfold LaidV at hv
    simp only [show ¬ (7 = 3) by decide, show ¬ (7 = 4) by decide, show ¬ (7 = 5) by decide, if_false] at hv
    obtain ⟨oA, rfl, ho⟩ := hv
    have hol := hne oA rfl rfl
    have e7 : tagL G H1 Hs 7 w lA (.ref oA) = updG (updG (tagE G H1 Hs) lA (.lst w)) oA (.out w) := rfl
    refine ⟨oA, lA, updV_same, ?_, ?_, ho, hL.items hw fun a e1 e2 => ?_⟩
    · rw [e7]; exact updG_same
    · rw [e7, updG_ne (Ne.symm hol)]; exact updG_same
    · rw [e7, updG_ne (fun q => by rw [q, ho] at e2; cases e2), updG_ne (fun q => by rw [q, hxs] at e2; cases e2)]
      exact hn a e1 e2
end
end Mine
namespace Mine
theorem addT_mem (i : Nat) : ∀ (q : List Str) (rows : List LR) (p : List Str), ∀ r ∈ addT i rows p q, r ∈ rows ∨ ∃ s, r = ⟨(i, p ++ q.take (s + 1)), .table, []⟩ ∧ s < q.length
  | [], rows, p, r, h => .inl h
  | x :: q, rows, p, r, h => by
    rw [addT] at h
    split at h
    · rcases addT_mem i q _ _ r h with h | ⟨s, h, hs⟩
      · rcases List.mem_append.mp h with h | h
        · exact .inl h
        · exact .inr ⟨0, by rw [List.mem_singleton.mp h]; simp, by simp⟩
      · exact .inr ⟨s + 1, by rw [h, List.take_succ_cons, List.append_assoc]; rfl, by simp [hs]⟩
    · rcases addT_mem i q _ _ r h with h | ⟨s, h, hs⟩
      · exact .inl h
      · exact .inr ⟨s + 1, by rw [h, List.take_succ_cons, List.append_assoc]; rfl, by simp [hs]⟩
section
variable {rows : List LR} {n : Nat} {ls : Bool}
theorem walk_final (o : RowsOK rows n) : ∀ (q : List Str) (c wf : Way) (fl : Bool), c.1 < n → isTab rows c → walkW rows ls c q = (wf, fl) → walkW rows ls (wf.1, []) wf.2 = (wf, fl)
  | [], c, wf, fl, hc, ht, h => by
    rw [walkW] at h
    obtain ⟨rfl, rfl⟩ := Prod.mk.inj h
    have := walk_tab (ls := ls) o c.2 [] (i := c.1) ht
    rw [List.append_nil] at this
    rw [this, walkW]
  | x :: r, c, wf, fl, hc, ht, h => by
    have hh := h
    have base := walk_tab (ls := ls) o c.2 (x :: r) (i := c.1) ht
    rw [walkW] at h
    cases e : rowAt rows (c.1, c.2 ++ [x]) with
    | none =>
      simp only [e] at h
      obtain ⟨rfl, rfl⟩ := Prod.mk.inj h
      exact base.trans hh
    | some row =>
      obtain ⟨hr, hw⟩ := rowAt_some e
      simp only [e] at h
      split at h
      · rename_i hk
        exact walk_final o r (c.1, c.2 ++ [x]) wf fl hc (.inr ⟨row, hr, hw, hk⟩) h
      · split at h
        · rename_i hj
          have hkk : row.k = .dict ∨ row.k = .list := by
            unfold jumps at hj
            simp only [Bool.or_eq_true, Bool.and_eq_true, decide_eq_true_iff] at hj
            exact hj.imp id fun h => h.1
          obtain ⟨g, hg1, hg2⟩ := o.gl row hr hkk
          have hgo : goalOf row = g := by unfold goalOf; rw [hg1]; rfl
          exact walk_final o r (goalOf row, []) wf fl (by rw [hgo]; exact hg2) (.inl rfl) h
        · obtain ⟨rfl, rfl⟩ := Prod.mk.inj h
          exact base.trans hh
theorem barred_iff (o : RowsOK rows n) {c wf : Way} {q : List Str} {fl : Bool} (hc : c.1 < n) (ht : isTab rows c) (h : walkW rows ls c q = (wf, fl)) : fl = false ↔ ∃ r ∈ rows, pre r.w wf = true ∧ r.k ≠ .table := by
  have hf := walk_final o q c wf fl hc ht h
  have st := walk_stay (ls := ls) o wf.2 [] (i := wf.1) (.inl rfl) (fun r hr hj => ?_)
  · rw [List.nil_append, hf] at st
    exact st.2
  · cases e : pre r.w (wf.1, [] ++ wf.2) with
    | false => rfl
    | true =>
      exfalso
      obtain ⟨e1, t, e2⟩ := pre_iff.mp e
      simp only [List.nil_append] at e1 e2
      have hwj := walk_jump o hr hj t
      rw [e1, ← e2, hf] at hwj
      have hl := walkW_length (rows := rows) (ls := ls) t (goalOf r, [])
      rw [← hwj, e2] at hl
      simp only [List.length_append, List.length_nil] at hl
      have : 0 < r.w.2.length := List.length_pos_iff.mpr (o.rt r hr).2
      omega
theorem barred_nil (o : RowsOK rows n) {c wf : Way} {q : List Str} {fl : Bool} (hc : c.1 < n) (ht : isTab rows c) (h : walkW rows ls c q = (wf, fl)) : (rows.filter fun r => pre r.w wf && decide (r.k ≠ .table)) = [] ↔ fl = true := by
  rw [List.filter_eq_nil_iff]
  have hb := barred_iff o hc ht h
  cases fl with
  | true =>
    refine ⟨fun _ => rfl, fun _ r hr e => ?_⟩
    rw [Bool.and_eq_true, decide_eq_true_iff] at e
    have := hb.mpr ⟨r, hr, e⟩
    cases this
  | false =>
    refine ⟨fun e => ?_, fun e => by cases e⟩
    obtain ⟨r, hr, h1, h2⟩ := hb.mp rfl
    have := e r hr
    rw [h1, decide_eq_true h2] at this
    exact absurd rfl this
end
end Mine
namespace Mine
noncomputable def delF (ps : List Addr) (H : AHeap) : AHeap := fun b => if b ∈ ps then none else H b
noncomputable def mixF (ps : List Addr) (H H' : AHeap) : AHeap := fun b => if b ∈ ps then H b else H' b
theorem delF_in {ps : List Addr} {H : AHeap} {b : Addr} (h : b ∈ ps) : delF ps H b = none := if_pos h
theorem delF_out {ps : List Addr} {H : AHeap} {b : Addr} (h : b ∉ ps) : delF ps H b = H b := if_neg h
theorem mixF_in {ps : List Addr} {H H' : AHeap} {b : Addr} (h : b ∈ ps) : mixF ps H H' b = H b := if_pos h
theorem mixF_out {ps : List Addr} {H H' : AHeap} {b : Addr} (h : b ∉ ps) : mixF ps H H' b = H' b := if_neg h
theorem delF_mix {ps : List Addr} {H H' : AHeap} (h : ∀ p ∈ ps, H' p = none) : delF ps (mixF ps H H') = H' := funext fun b => by
  by_cases q : b ∈ ps
  · rw [delF_in q, h b q]
  · rw [delF_out q, mixF_out q]
theorem delF_upd {ps : List Addr} {H : AHeap} {p : Addr} {x : AObj} (h : p ∉ ps) : delF ps (upd H p x) = upd (delF ps H) p x := funext fun b => by
  unfold delF upd
  by_cases q : b = p
  · subst q; rw [if_neg h, if_pos rfl, if_pos rfl]
  · rw [if_neg q, if_neg q]
theorem delF_some {ps : List Addr} {H : AHeap} {b : Addr} {x : AObj} (e : delF ps H b = some x) : b ∉ ps ∧ H b = some x := by
  by_cases q : b ∈ ps
  · rw [delF_in q] at e; cases e
  · rw [delF_out q] at e; exact ⟨q, e⟩
theorem W_frameS {α : Type} {k : Wk} {t : Sem α} {m : Loc} : ∀ (ps : List Addr) (H : AHeap) (Q : α → Loc → AHeap → Prop), (∀ p ∈ ps, H p ≠ none) → W k t m (delF ps H) (fun v m' H' => (∀ p ∈ ps, H' p = none) → Q v m' (mixF ps H H')) → W k t m H Q
  | [], H, Q, _, h => by
    have e : delF [] H = H := funext fun b => delF_out (by simp)
    rw [e] at h
    refine W.mono h fun v m' H' q => ?_
    have e2 : mixF [] H H' = H' := funext fun b => mixF_out (by simp)
    rw [← e2]; exact q (fun p hp => by cases hp)
  | p :: ps, H, Q, hp, h => by
    by_cases hin : p ∈ ps
    · have e : delF (p :: ps) H = delF ps H := funext fun b => by
        unfold delF
        by_cases q : b ∈ ps
        · rw [if_pos q, if_pos (List.mem_cons_of_mem _ q)]
        · rw [if_neg q, if_neg (fun z => (List.mem_cons.mp z).elim (fun z => q (by rw [z]; exact hin)) q)]
      rw [e] at h
      refine W_frameS ps H Q (fun q hq => hp q (List.mem_cons_of_mem _ hq)) (W.mono h fun v m' H' q hn => ?_)
      have e2 : mixF (p :: ps) H H' = mixF ps H H' := funext fun b => by
        unfold mixF
        by_cases q : b ∈ ps
        · rw [if_pos q, if_pos (List.mem_cons_of_mem _ q)]
        · rw [if_neg q, if_neg (fun z => (List.mem_cons.mp z).elim (fun z => q (by rw [z]; exact hin)) q)]
      rw [← e2]
      exact q fun a ha => (List.mem_cons.mp ha).elim (fun z => by rw [z]; exact hn p hin) (hn a)
    · cases hx : H p with
      | none => exact absurd hx (hp p List.mem_cons_self)
      | some x =>
        refine W_frame hx ?_
        refine W_frameS ps (delA p H) _ (fun q hq => ?_) ?_
        · unfold delA
          rw [if_neg (show ¬ (q = p) from fun z => hin (by rw [← z]; exact hq))]
          exact hp q (List.mem_cons_of_mem _ hq)
        have e : delF (p :: ps) H = delF ps (delA p H) := funext fun b => by
          unfold delF delA
          by_cases q : b = p
          · subst q; rw [if_pos List.mem_cons_self, if_neg hin, if_pos rfl]
          · by_cases q2 : b ∈ ps
            · rw [if_pos q2, if_pos (List.mem_cons_of_mem _ q2)]
            · rw [if_neg q2, if_neg (fun z => (List.mem_cons.mp z).elim q q2), if_neg q]
        rw [e] at h
        refine W.mono h fun v m' H' q hn hpn => ?_
        have e2 : mixF (p :: ps) H H' = upd (mixF ps (delA p H) H') p x := funext fun b => by
          by_cases q : b = p
          · rw [q, mixF_in List.mem_cons_self, upd_same, hx]
          · have e3 : upd (mixF ps (delA p H) H') p x b = mixF ps (delA p H) H' b := if_neg q
            rw [e3]
            by_cases q2 : b ∈ ps
            · rw [mixF_in (List.mem_cons_of_mem _ q2), mixF_in q2]
              exact (if_neg q).symm
            · rw [mixF_out (fun z => (List.mem_cons.mp z).elim q q2), mixF_out q2]
        rw [← e2]
        refine q fun a ha => (List.mem_cons.mp ha).elim (fun z => ?_) (hn a)
        rw [z]
        rw [mixF_out hin] at hpn; exact hpn
end Mine
namespace Mine
theorem getK_append (k : Key) (b : List (Key × V)) : ∀ a : List (Key × V), getK (a ++ b) k = (getK a k).or (getK b k)
  | [] => rfl
  | (k', v) :: a => by
    rw [List.cons_append, getK, getK]
    split
    · rfl
    · exact getK_append k b a
structure FH (C nA rA gA : Addr) (rows : List LR) (n : Nat) (VA : Vals) (G : Ghost) (gv : List Way) (ex : Way → List (Key × V)) (H : AHeap) : Prop where
  ok : RowsOK rows n
  tab : ∀ w : Way, w.1 < n → isTab rows w → ∃ a ep, VA w = .ref a ∧ G a = some (.tab w) ∧ H a = some (.dict (kids rows VA w ++ ex w) ep)
  val : ∀ r ∈ rows, LeadsR VA G H r
  live : ∀ a t, G a = some t → H a ≠ none
  nests : NestsAt H VA C nA n
  rws : RowsAt H G rA rows
  giv : GivenAt H VA rows n gA gv
  tn : G nA = some .sys
  tr : G rA = some .sys
  tg : G gA = some .sys
  n0 : 0 < n
  n6 : n ≤ 6
  nm : ∀ r ∈ rows, ∀ x ∈ r.w.2, isNm x = true
  len : ∀ r ∈ rows, r.w.2.length ≤ 10
  cnt : rows.length ≤ 500
  gcnt : ∀ r ∈ rows, r.g.length ≤ 100
  gvl : gv.length ≤ 50
section
variable {C nA rA gA : Addr} {rows : List LR} {n : Nat} {VA : Vals} {G : Ghost} {gv : List Way} {ex : Way → List (Key × V)} {H H' : AHeap}
theorem FH.start (h : LH6 C nA rA gA rows rows n VA G gv 50 H) : FH C nA rA gA rows n VA G gv (fun _ => []) H :=
  ⟨h.ok, fun w hw ht => by obtain ⟨a, ep, e1, e2, e3⟩ := h.hr.tab w hw ht; exact ⟨a, ep, e1, e2, by rw [List.append_nil]; exact e3⟩, h.hr.val, h.hr.live, h.nests, h.rws, h.giv, h.tn, h.tr, h.tg, h.n0, h.n6, h.nm, h.len, h.cnt, fun r hr => by have := h.gcnt r hr; omega, h.gvl⟩
theorem FH.ext (h : FH C nA rA gA rows n VA G gv ex H) (hE : Ext H H') : FH C nA rA gA rows n VA G gv ex H' :=
  { h with
    tab := fun w hw ht => by obtain ⟨a, ep, e1, e2, e3⟩ := h.tab w hw ht; exact ⟨a, ep, e1, e2, hE _ _ e3⟩
    val := fun r hr => (h.val r hr).mono rfl (fun _ => rfl) (fun _ _ e => e) fun a y t q1 _ _ => hE a y q1
    live := fun a t e q => h.live a t e (none_less hE q)
    nests := h.nests.of (fun _ _ => rfl) fun a y e _ => hE a y e
    rws := h.rws.of (fun _ _ e => e) fun a y e _ => hE a y e
    giv := h.giv.of (Nat.le_refl _) (fun _ e => e) (fun _ _ _ => rfl) fun a y e _ => hE a y e }
theorem FH.put (h : FH C nA rA gA rows n VA G gv ex H) {w : Way} {a : Addr} {new : List (Key × V)} {ep : Nat} (hw : w.1 < n) (ht : isTab rows w) (ha : VA w = .ref a) : FH C nA rA gA rows n VA G gv (fun u => if u = w then ex w ++ new else ex u) (upd H a (.dict (kids rows VA w ++ (ex w ++ new)) ep)) := by
  obtain ⟨a', ep', e1, e2, e3⟩ := h.tab w hw ht
  obtain rfl : a = a' := by rw [ha] at e1; exact V.ref.inj e1
  have kp : ∀ b z, H b = some z → (∀ kvs ep, z ≠ .dict kvs ep) → upd H a (.dict (kids rows VA w ++ (ex w ++ new)) ep) b = some z := fun b z e q => upd_ne (fun y => by rw [y, e3] at e; cases e; exact q _ _ rfl) e
  obtain ⟨xs, n1, _⟩ := id h.nests
  obtain ⟨vs, r1, r2, r3⟩ := id h.rws
  obtain ⟨us, g1, _⟩ := id h.giv
  refine { h with
    tab := fun u hu hut => ?_
    val := fun r hr => (h.val r hr).mono rfl (fun _ => rfl) (fun _ _ e => e) fun b z t q1 q2 q3 => upd_ne (fun y => by rw [y, e2] at q2; cases q2; cases q3) q1
    live := fun b t e q => by
      unfold upd at q
      split at q
      · cases q
      · exact h.live b t e q
    nests := h.nests.of (fun _ _ => rfl) fun b z e q => kp b z e (fun kvs ep y => by
      subst y
      rcases q with q | ⟨_, _, q⟩ | ⟨_, q⟩
      · rw [q, n1] at e; cases e
      · cases q
      · cases q)
    rws := ⟨vs, kp _ _ r1 (by simp), ⟨r2.len, fun j v r f1 f2 => ?_⟩, fun j v r f1 f2 => ?_⟩
    giv := h.giv.of (Nat.le_refl _) (fun _ e => e) (fun _ _ _ => rfl) fun b z e q => kp b z e (fun kvs ep y => by
      subst y
      rcases q with q | ⟨_, q⟩
      · rw [q, g1] at e; cases e
      · cases q) }
  · obtain ⟨b, epb, f1, f2, f3⟩ := h.tab u hu hut
    by_cases q : u = w
    · subst q
      exact ⟨a, ep, ha, e2, by rw [if_pos rfl]; exact upd_same⟩
    · exact ⟨b, epb, f1, f2, by rw [if_neg q]; exact upd_ne (fun y => by rw [y, e2] at f2; exact q (Tag.tab.inj (Option.some.inj f2)).symm) f3⟩
  · obtain ⟨b, wv, gl, t, q1, q2, q3, q4⟩ := r2.at_ j v r f1 f2
    exact ⟨b, wv, gl, t, q1, kp _ _ q2 (by simp), q3.ext fun c ys e => kp _ _ e (by simp), kp _ _ q4 (by simp)⟩
  · obtain ⟨b, wv, gl, t, q1, q2, q3⟩ := r3 j v r f1 f2
    exact ⟨b, wv, gl, t, q1, kp _ _ q2 (by simp), q3⟩
theorem FH.tag (h : FH C nA rA gA rows n VA G gv ex H) {l : Addr} {w : Way} (hG : G l = none) (hl : H l ≠ none) : FH C nA rA gA rows n VA (updG G l (.marks w)) gv ex H := by
  have hg : ∀ a t, G a = some t → updG G l (.marks w) a = some t := fun a t e => by
    rw [updG_ne (fun q => by rw [q, hG] at e; cases e)]; exact e
  exact { h with
    tab := fun u hu hut => by obtain ⟨a, ep, e1, e2, e3⟩ := h.tab u hu hut; exact ⟨a, ep, e1, hg _ _ e2, e3⟩
    val := fun r hr => (h.val r hr).mono rfl (fun _ => rfl) hg fun a y t q1 _ _ => q1
    live := fun a t e => by
      unfold updG at e
      split at e
      · rename_i q; rw [q]; exact hl
      · exact h.live a t e
    rws := h.rws.of hg fun a y e _ => e
    tn := hg _ _ h.tn
    tr := hg _ _ h.tr
    tg := hg _ _ h.tg }
theorem FH.mark (h : FH C nA rA gA rows n VA G gv ex H) {l : Addr} {w : Way} {xs : List V} {y : AObj} (hG : G l = some (.marks w)) (hl : H l = some (.list xs)) : FH C nA rA gA rows n VA G gv ex (upd H l y) := by
  have kp : ∀ b z, H b = some z → b ≠ l → upd H l y b = some z := fun b z e q => upd_ne q e
  have nt : ∀ b z, H b = some z → (∃ xs, z = .tup xs) ∨ (∃ C dx, z = .inst C dx) ∨ (∃ v, z = .attrs v) → b ≠ l := fun b z e q w => by
    rw [w, hl] at e; cases e
    rcases q with ⟨_, q⟩ | ⟨_, _, q⟩ | ⟨_, q⟩ <;> cases q
  exact { h with
    tab := fun u hu hut => by obtain ⟨a, ep, e1, e2, e3⟩ := h.tab u hu hut; exact ⟨a, ep, e1, e2, kp _ _ e3 (fun q => by rw [q, hl] at e3; cases e3)⟩
    val := fun r hr => (h.val r hr).mono rfl (fun _ => rfl) (fun _ _ e => e) fun a z t q1 q2 q3 => kp a z q1 (fun q => by rw [q, hG] at q2; cases q2; cases q3)
    live := fun b t e q => by
      unfold upd at q
      split at q
      · cases q
      · exact h.live b t e q
    nests := h.nests.of (fun _ _ => rfl) fun b z e q => kp b z e (by
      rcases q with q | q | q
      · intro z; rw [q] at z; have := h.tn; rw [z, hG] at this; cases this
      · exact nt b z e (.inr (.inl q))
      · exact nt b z e (.inr (.inr q)))
    rws := h.rws.of (fun _ _ e => e) fun b z e q => kp b z e (by
      rcases q with q | q | ⟨w, q⟩
      · intro z; rw [q] at z; have := h.tr; rw [z, hG] at this; cases this
      · exact nt b z e (.inl q)
      · intro z; rw [z, hG] at q; cases q)
    giv := h.giv.of (Nat.le_refl _) (fun _ e => e) (fun _ _ _ => rfl) fun b z e q => kp b z e (by
      rcases q with q | q
      · intro z; rw [q] at z; have := h.tg; rw [z, hG] at this; cases this
      · exact nt b z e (.inl q)) }
theorem FH.noKid (h : FH C nA rA gA rows n VA G gv ex H) {w : Way} {x : Str} (hx : isNm x = false) : getK (kids rows VA w) (.inr x) = none := by
  rw [getK_kids rows fun r hr => (h.ok.rt r hr).2]
  cases e : rowAt rows (w.1, w.2 ++ [x]) with
  | none => rfl
  | some r =>
    obtain ⟨hr, hw⟩ := rowAt_some e
    have := h.nm r hr x (by rw [hw]; simp)
    rw [hx] at this; cases this
end
noncomputable def rootE (j : Nat) (w : Way) : List (Key × V) := if w.2 = [] ∧ w.1 < j then [(.inr "root", .int (w.1 : Int))] else []
noncomputable def marksOf (gv : List Way) (j : Nat) (w : Way) : List Nat := (List.range j).filter fun k => decide (gv[k]? = some w)
theorem marksOf_succ {gv : List Way} {j : Nat} {w : Way} : marksOf gv (j + 1) w = marksOf gv j w ++ if gv[j]? = some w then [j] else [] := by
  unfold marksOf
  rw [List.range_succ, List.filter_append]
  congr 1
  simp [List.filter_cons]
noncomputable def atE (gv : List Way) (j : Nat) (LA : Way → Addr) (w : Way) : List (Key × V) := if marksOf gv j w = [] then [] else [(.inr "at", .ref (LA w))]
structure MH (C nA rA gA : Addr) (rows : List LR) (n : Nat) (VA : Vals) (G : Ghost) (gv : List Way) (j : Nat) (LA : Way → Addr) (H : AHeap) : Prop where
  fh : FH C nA rA gA rows n VA G gv (fun w => rootE n w ++ atE gv j LA w) H
  at_ : ∀ w, marksOf gv j w ≠ [] → H (LA w) = some (.list ((marksOf gv j w).map fun (k : Nat) => .int (k : Int))) ∧ G (LA w) = some (.marks w)
end Mine
namespace Mine
noncomputable def IsG (H : AHeap) (g : Int) (v : V) : Prop := ∃ d kvs ep, v = .ref d ∧ H d = some (.dict kvs ep) ∧ if g < 0 then kvs = [] else getK kvs (.inr "root") = some (.int g)
noncomputable def ListF (H : AHeap) (gs : List Int) (l : Addr) : Prop := ∃ vs, H l = some (.list vs) ∧ vs.length = gs.length ∧ ∀ (j : Nat) g v, gs[j]? = some g → vs[j]? = some v → IsG H g v
noncomputable def LeadF (H : AHeap) (kk : KW) (gs : List Int) (v : V) : Prop := match kk with
  | .table => ∃ d kvs ep, v = .ref d ∧ H d = some (.dict kvs ep)
  | .dict => ∃ g, gs[0]? = some g ∧ IsG H g v
  | .num => v = .int 0
  | .text => ∃ t, v = .str "a" t
  | .list => ∃ l, v = .ref l ∧ ListF H gs l
  | .lists => ∃ l l', v = .ref l ∧ H l = some (.list [.ref l']) ∧ ListF H gs l'
theorem IsG.ext {H H' : AHeap} (hE : Ext H H') {g : Int} {v : V} (h : IsG H g v) : IsG H' g v := by
  obtain ⟨d, kvs, ep, e, h1, h2⟩ := h
  exact ⟨d, kvs, ep, e, hE _ _ h1, h2⟩
section
variable {C nA rA gA : Addr} {rows : List LR} {n : Nat} {VA : Vals} {G : Ghost} {gv : List Way} {j : Nat} {LA : Way → Addr} {H H' : AHeap}
theorem MH.ext (h : MH C nA rA gA rows n VA G gv j LA H) (hE : Ext H H') : MH C nA rA gA rows n VA G gv j LA H' := ⟨h.fh.ext hE, fun w hw => ⟨hE _ _ (h.at_ w hw).1, (h.at_ w hw).2⟩⟩
theorem MH.root (h : MH C nA rA gA rows n VA G gv j LA H) {g : Int} (h0 : 0 ≤ g) (hg : g < (n : Int)) : IsG H g (VA (g.toNat, [])) := by
  have hn : g.toNat < n := by omega
  obtain ⟨a, ep, e1, e2, e3⟩ := h.fh.tab (g.toNat, []) hn (.inl rfl)
  refine ⟨a, _, ep, e1, e3, ?_⟩
  rw [if_neg (by omega), getK_append, h.fh.noKid (by decide), Option.none_or, getK_append]
  have : rootE n (g.toNat, []) = [(.inr "root", .int (g.toNat : Int))] := if_pos ⟨rfl, hn⟩
  rw [this, show ((g.toNat : Nat) : Int) = g by omega]
  rfl
theorem MH.items (h : MH C nA rA gA rows n VA G gv j LA H) {gs : List Int} {l : Addr} (hb : ∀ g ∈ gs, g < (n : Int)) (x : ItemsAt VA G H gs l) : ListF H gs l := by
  obtain ⟨vs, h1, h2, h3⟩ := x
  refine ⟨vs, h1, h2, fun i g v e1 e2 => ?_⟩
  have := h3 i g v e1 e2
  split at this
  · rename_i hl
    obtain ⟨e, ep, q1, q2, q3⟩ := this
    exact ⟨e, [], ep, q1, q3, by rw [if_pos hl]⟩
  · rename_i hl
    rw [this]
    exact h.root (by omega) (hb g (List.mem_of_getElem? e1))
theorem MH.lead (h : MH C nA rA gA rows n VA G gv j LA H) {r : LR} (hr : r ∈ rows) : LeadF H r.k r.g (VA r.w) := by
  have hx := h.fh.val r hr
  have hb := h.fh.ok.bd r hr
  unfold LeadsR at hx
  unfold LeadF
  split at hx
  · rename_i hk
    try simp only [hk]
    obtain ⟨a, ep, e1, _, e3⟩ := h.fh.tab r.w (h.fh.ok.rt r hr).1 (.inr ⟨r, hr, rfl, hk⟩)
    exact ⟨a, _, ep, e1, e3⟩
  · rename_i hk
    try simp only [hk]
    have h1 := h.fh.ok.one r hr hk
    obtain ⟨g, hg1, hg2⟩ := h.fh.ok.gl r hr (.inl hk)
    have hgo : goalOf r = g := by unfold goalOf; rw [hg1]; rfl
    rw [List.getLast?_eq_getElem?, h1] at hg1
    refine ⟨g, hg1, ?_⟩
    rw [hx, hgo]
    have := h.root (g := (g : Int)) (by omega) (by omega)
    rwa [Int.toNat_natCast] at this
  · rename_i hk
    (try simp only [hk]); exact hx
  · rename_i hk
    (try simp only [hk]); exact hx
  · rename_i hk
    try simp only [hk]
    obtain ⟨l, q1, _, q3⟩ := hx
    exact ⟨l, q1, h.items hb q3⟩
  · rename_i hk
    try simp only [hk]
    obtain ⟨l, l', q1, _, _, q4, q5⟩ := hx
    exact ⟨l, l', q1, q4, h.items hb q5⟩
noncomputable def full (rows : List LR) (n : Nat) (VA : Vals) (gv : List Way) (LA : Way → Addr) (w : Way) : List (Key × V) := kids rows VA w ++ (rootE n w ++ atE gv gv.length LA w)
noncomputable def dueN (rows : List LR) (gv : List Way) (w : Way) : List Str := (rows.filter fun r => decide (parN r.w = w)).map (fun r => lastN r.w) ++ (if w.2 = [] then [Str.ofString "root"] else []) ++ if marksOf gv gv.length w = [] then [] else [Str.ofString "at"]
theorem full_keys {w : Way} (hw : w.1 < n) : (full rows n VA gv LA w).map (·.1) = (dueN rows gv w).map .inr := by
  unfold full dueN kids
  rw [List.map_append, List.map_append, List.map_append, List.map_append, List.map_map, List.map_map, List.append_assoc]
  congr 1
  congr 1
  · unfold rootE
    by_cases q : w.2 = []
    · rw [if_pos ⟨q, hw⟩, if_pos q]; rfl
    · rw [if_neg (fun z => q z.1), if_neg q]; rfl
  · unfold atE
    split <;> rfl
theorem FH.kid {ex : Way → List (Key × V)} (h : FH C nA rA gA rows n VA G gv ex H) {r : LR} (hr : r ∈ rows) (ys : List (Key × V)) : getK (kids rows VA (parN r.w) ++ ys) (.inr (lastN r.w)) = some (VA r.w) := by
  rw [getK_append, getK_kids rows fun q hq => (h.ok.rt q hq).2, ← (way_eq (h.ok.rt r hr).2).mpr ⟨rfl, rfl⟩, h.ok.at_ hr]
  rfl
theorem strOk_due {w : Way} (h : ∀ r ∈ rows, ∀ x ∈ r.w.2, isNm x = true) (hn : ∀ r ∈ rows, r.w.2 ≠ []) : ∀ x ∈ dueN rows gv w, PyData.strOk x = true := fun x hx => by
  unfold dueN at hx
  rcases List.mem_append.mp hx with hx | hx
  · rcases List.mem_append.mp hx with hx | hx
    · obtain ⟨r, hr, rfl⟩ := List.mem_map.mp hx
      have hr := (List.mem_filter.mp hr).1
      refine strOk_nm (h r hr _ ?_)
      obtain ⟨p, y, e⟩ := list_snoc (hn r hr)
      unfold lastN
      rw [e]; simp
    · split at hx
      · rw [List.mem_singleton.mp hx]; decide +kernel
      · cases hx
  · split at hx
    · cases hx
    · rw [List.mem_singleton.mp hx]; decide +kernel
theorem goodStrs : ∀ {l : List Str}, (∀ x ∈ l, PyData.strOk x = true) → goodAll (l.map .str) = true
  | [], _ => rfl
  | x :: l, h => by simp only [List.map_cons, goodAll, good, h x List.mem_cons_self, goodStrs fun y hy => h y (List.mem_cons_of_mem _ hy), Bool.and_self]
theorem rdKeys {H : AHeap} : ∀ (ns : List Str) (kvs : List (Key × V)) (xs : List V), kvs.map (·.1) = ns.map .inr → xs.length = kvs.length → (∀ (i : Nat) (kv : Key × V) (x : V), kvs[i]? = some kv → xs[i]? = some x → isKV kv.1 x = true) → RdAll H (ns.map .str) xs
  | [], kvs, xs, h1, h2, _ => by
    have : kvs = [] := by simpa using h1
    subst this
    exact List.eq_nil_of_length_eq_zero h2
  | s :: ns, [], xs, h1, _, _ => by simp at h1
  | s :: ns, kv :: kvs, [], _, h2, _ => by simp at h2
  | s :: ns, kv :: kvs, x :: xs, h1, h2, h3 => by
    rw [List.map_cons, List.map_cons] at h1
    injection h1 with h4 h5
    have hx := h3 0 kv x rfl rfl
    rw [h4] at hx
    refine ⟨x, xs, rfl, ?_, rdKeys ns kvs xs h5 (by simpa using h2) fun i kv' x' e1 e2 => h3 (i + 1) kv' x' e1 e2⟩
    cases x <;> simp [isKV] at hx
    subst hx
    exact ⟨_, rfl⟩
end
end Mine
namespace Mine
local macro_rules | `(tactic| walk_at "lk") => `(tactic| first | assumption | with_reducible exact setL_same | exact setL_ne (by decide +kernel) (by walk_at "lk"))
section
noncomputable abbrev L6.stmsC : List Stmt := PySem.Challenge.pw_kp0043_06.main.body
noncomputable abbrev L6.cls : Stmt := stm L6.stmsC 2
noncomputable abbrev L6.mI : Stmt := stm (fnBody L6.cls) 0
noncomputable abbrev L6.mG : Stmt := stm (fnBody L6.cls) 1
theorem L6.init_ok {c : Cx} {A : Around} {C fI a dx : Addr} {H : AHeap} (hC : ClsAt c C fI) (F : DefAt c fI L6.mI) (hA : Room A) (ha : H a = some (.inst C dx)) (hd : H dx = some .attrs0) :
    FnV c A fI [.ref a] [] H (fun v H' => v = .none ∧ ∃ d, H d = none ∧ H' = upd (upd H d (.dict [] 0)) dx (.attrs (.ref d))) NoX := by
  refine FnV.top F hA ["self"] rfl (fun fd rvs h1 h2 h3 hl => ?_) (by rfl) fun k hk => ?_
  · obtain ⟨x, rfl⟩ : ∃ x, rvs = [x] := by match rvs, hl with | [x], _ => exact ⟨x, rfl⟩
    cases fd; simp only at h1 h2 h3; subst h1; subst h2; subst h3; rfl
  refine Mine.hideG fun GG back => ?_
  obtain ⟨rfl, sv, hfr, hdep, hun, hhd, hX, hhere⟩ := hk
  refine back ?_
  clear back
  show W k (execs (fnBody L6.mI) k.env) (setL noLoc "self" (.ref a)) H _
  refine W_cons' ?_
  refine W_setDict (fI := fI) ?_
  refine W_Dict0 ?_
  intro d hd'
  refine ⟨a, C, dx, setL_same, hC, upd_fresh hd' ha, .inl (upd_fresh hd' hd), ?_⟩
  refine contQ_next ?_
  refine W_nil ?_
  exact RQ_next ⟨rfl, d, hd', rfl⟩
theorem L6.nest_body {k : Wk} {x dx kt b0 C fI : Addr} {acc : Bool} {keys : List (Str × Tok)} {m : Loc} {H : AHeap} {Q : Addr → AHeap → Prop} {X : String → Option (List V) → AHeap → Prop} (sv : SEnv k (fnScope L6.mG) (cellNames (fnScope L6.mG).names))
    (G : Blt k.c) (hC : ClsAt k.c C fI) (hX : k.X = fun cls xs _ H => X cls xs H) (here : k.here) (hh : k.A.handled = none)
    (hs : m "self" = some (.ref x)) (hkey : m "key" = some (.ref kt)) (hacc : m "access_lists" = some (.bool acc))
    (hx : H x = some (.inst C dx)) (hd : H dx = some (.attrs (.ref b0))) (hkt : H kt = some (.tup (keys.map fun p => .str p.1 p.2)))
    (h : Gw acc Q X (keys.map (·.1)) b0 H) : W k (execs (fnBody L6.mG) k.env) m H (RQ fun v H' => ∃ a, v = .ref a ∧ Q a H') := by
  refine Mine.hideG fun GG back => ?_
  obtain ⟨gLen, gIsi, gList, gDict, gRange, gKE, gType, gTuple, gEnum, imp, tree⟩ := G
  refine back ?_
  clear back
  refine W_cons' ?_
  refine W_Assign ?_ (stor (by rfl)) (by rfl)
  refine W_getDict hC hs hx hd (fun i => by simp) ?_
  refine contQ_next ?_
  refine W_cons' ?_
  refine W_For ?_
  refine W_Name (by walk_at "lk") ?_
  refine ⟨_, _, _, fun i m' H' => m' "access_lists" = some (.bool acc) ∧ H' kt = some (.tup (keys.map fun p => .str p.1 p.2)) ∧ ∃ cont, m' "cont" = some (.ref cont) ∧ Gw acc Q X ((keys.drop i).map (·.1)) cont H',
    WIter_tup hh hkt, ⟨by walk_at "lk", hkt, b0, by walk_at "lk", h⟩, fun i m' H' q => q.2.1, ?_, ?_⟩
  · intro i v m' H' hi hR hg91_6
    refine Mine.hideG fun GG back => ?_
    obtain ⟨ha, hk', cont, hcont, hG⟩ := hg91_6
    refine back ?_
    clear back
    rw [List.getElem?_map, Option.map_eq_some_iff] at hR
    refine Mine.hideG fun GG back => ?_
    obtain ⟨⟨y, t⟩, hy, rfl⟩ := hR
    refine back ?_
    clear back
    have hi' : i < keys.length := (List.getElem?_eq_some_iff.mp hy).1
    have hdrop : keys.drop i = (y, t) :: keys.drop (i + 1) := by
      rw [List.drop_eq_getElem_cons hi', (List.getElem?_eq_some_iff.mp hy).2]
    rw [hdrop, List.map_cons] at hG
    refine Mine.hideG fun GG back => ?_
    obtain ⟨kvs, ep, hc, hl, hG⟩ := hG.cons
    refine back ?_
    clear back
    refine WAs_Name (stor (by rfl)) ?_
    refine W_hide fun QL hQL => ?_
    refine W_cons' ?_
    refine W_cut (fun (fl : Flow) m1 H1 => fl = .next ∧ m1 = setL m' "k" (.str y t) ∧ H1 kt = some (.tup (keys.map fun p => .str p.1 p.2)) ∧ ∃ kvs' ep' v, H1 cont = some (.dict kvs' ep') ∧ getK kvs' (.inr y) = some v ∧ GwV acc Q X ((keys.drop (i + 1)).map (·.1)) v H1) ?_ ?_
    · refine W_hide fun QR hQR => ?_
      refine W_If ?_
      refine WT_Compare ?_
      refine W_Name (by walk_at "lk") ?_
      refine W_Name (by walk_at "lk") ?_
      refine WCmp_notInDict hc (key := .inr y) (by simp [isKV]) ?_
      refine WTr_bool ?_
      rcases hG with ⟨hg, hG⟩ | ⟨v, hg, hG⟩
      · rw [hg, Option.isSome_none, Bool.not_false, if_pos rfl]
        refine W_cons' ?_
        refine W_AssignSub ?_
        refine W_Dict0 ?_
        intro d hd'
        refine W_Name (by walk_at "lk") ?_
        refine W_Name (by walk_at "lk") ?_
        refine WSet_dict (upd_fresh hd' hc) (key := .inr y) (by simp [isKV]) (Nat.le_of_lt hl) ?_
        refine contQ_next ?_
        refine W_nil ?_
        have hcd : cont ≠ d := fun q => by rw [q, hd'] at hc; cases hc
        have hck : kt ≠ cont := fun q => by rw [q, hc] at hk'; cases hk'
        rw [putK_new hg, epK, hg]
        refine hQR _ _ _ ⟨rfl, rfl, upd_ne hck (upd_fresh hd' hk'), _, _, .ref d, upd_same, ?_, ?_⟩
        · simp only [getK_append_new hg]
        · have hdd : upd (upd H' d (.dict [] 0)) cont (.dict (kvs ++ [(.inr y, .ref d)]) (ep + 1)) d = some (.dict [] 0) := upd_ne (Ne.symm hcd) upd_same
          refine ⟨?_, ?_, ?_⟩
          · rw [Option.isSome_none, if_neg (by simp)]; simp [tyOf, hdd]
          · rintro a xs e1 e2
            cases e1
            rw [Option.isSome_none, if_neg (by simp)] at e2
            rw [hdd] at e2; cases e2
          · rw [Option.isSome_none, if_neg (by simp)]
            simp only [lastOf, hdd, tyOf, isDict, if_true]
            exact ⟨by simp, d, rfl, hG d hd'⟩
      · rw [hg, Option.isSome_some, Bool.not_true, if_neg Bool.false_ne_true]
        refine W_nil ?_
        exact hQR _ _ _ ⟨rfl, rfl, hk', kvs, ep, v, hc, hg, hG⟩
    · intro _ _ H1 hg137_3
      refine Mine.hideG fun GG back => ?_
      obtain ⟨rfl, rfl, hk1, kvs', ep', v, hc1, hg1, hty, hlen, hG1⟩ := hg137_3
      refine back ?_
      clear back
      refine contQ_next ?_
      refine W_cons' ?_
      refine W_Assign ?_ (stor (by rfl)) (by rfl)
      refine W_Subscript ?_
      refine W_Name (by walk_at "lk") ?_
      refine W_Name (by walk_at "lk") ?_
      refine WSub_dict hc1 (key := .inr y) (by simp [isKV]) hg1 ?_
      refine contQ_next ?_
      refine W_cons' ?_
      refine W_cut (fun (fl : Flow) m1 H2 => fl = .next ∧ H1 = H2 ∧ m1 "access_lists" = some (.bool acc) ∧ ∃ w, m1 "cont" = some w ∧ lastOf acc H1 v = some w) ?_ ?_
      · refine W_hide fun QR hQR => ?_
        refine W_If ?_
        refine WT_And ?_
        refine W_allTrue_and ?_
        refine WT_plain ?_
        refine W_Name (by walk_at "lk") ?_
        refine WTr_bool ?_
        cases acc with
        | false =>
          refine iteF ?_
          refine iteF ?_
          refine W_nil ?_
          refine hQR _ _ _ ⟨rfl, rfl, by walk_at "lk", v, by walk_at "lk", ?_⟩
          cases v with
          | ref a => rcases e : H1 a with _ | x; simp [lastOf, e]; cases x <;> simp [lastOf, e]
          | _ => rfl
        | true =>
          refine iteT ?_
          refine W_allTrue_and ?_
          refine WT_plain ?_
          refine W_CallB (by assumption) (kindS (by rfl)) ?_
          refine WItems_cons ?_
          refine W_Name setL_same ?_
          refine WItems_cons ?_
          refine W_NameG gList (kindS (by rfl)) ?_
          refine WItems_nil ?_
          refine WCall_isi hty (T := "list") (by simp) ?_
          refine WTr_bool ?_
          rcases tyOf_cases hty with ⟨j, rfl⟩ | ⟨z, u, rfl⟩ | ⟨a, xs, rfl, e⟩ | ⟨a, xs, rfl, e⟩ | ⟨a, kvs2, ep2, rfl, e⟩
          · have e1 : decide (tyOf H1 (.int j) = some "list") = false := by simp [tyOf]
            rw [e1]
            refine iteF ?_
            refine iteF ?_
            refine W_nil ?_
            exact hQR _ _ _ ⟨rfl, rfl, by walk_at "lk", _, by walk_at "lk", rfl⟩
          · have e1 : decide (tyOf H1 (.str z u) = some "list") = false := by simp [tyOf]
            rw [e1]
            refine iteF ?_
            refine iteF ?_
            refine W_nil ?_
            exact hQR _ _ _ ⟨rfl, rfl, by walk_at "lk", _, by walk_at "lk", rfl⟩
          · have e1 : decide (tyOf H1 (.ref a) = some "list") = true := by simp [tyOf, e]
            rw [e1]
            refine iteT ?_
            refine W_allTrue_nilA ?_
            refine iteT ?_
            refine W_cons' ?_
            refine W_Assign ?_ (stor (by rfl)) (by rfl)
            refine W_Subscript ?_
            refine W_Name (by walk_at "lk") ?_
            refine W_UnaryOp ?_
            refine W_int ?_
            refine WUn_neg ?_
            have hlast : lastOf true H1 (.ref a) = xs.getLast? := by simp only [lastOf, e]
            have hxl := hlen a xs rfl e
            cases xs with
            | nil =>
              refine WSub_listOut hh here e (by decide) (by decide) (.inl (by simp)) ?_
              rw [hlast] at hG1
              rw [hX]; exact hG1
            | cons b r =>
              have hne : b :: r ≠ [] := by simp
              refine WSub_listNeg (v := (b :: r).getLast hne) e (by decide) (by decide) (by simp only [List.length_cons]; lia) ?_ ?_
              · rw [List.getLast_eq_getElem]
                have e3 : (-1 + ((b :: r).length : Int)).toNat = (b :: r).length - 1 := by simp only [List.length_cons]; lia
                rw [e3]
                exact List.getElem?_eq_getElem _
              · refine contQ_next ?_
                refine W_nil ?_
                exact hQR _ _ _ ⟨rfl, rfl, by walk_at "lk", _, by walk_at "lk", by rw [hlast, List.getLast?_eq_some_getLast hne]⟩
          · have e1 : decide (tyOf H1 (.ref a) = some "list") = false := by simp [tyOf, e]
            rw [e1]
            refine iteF ?_
            refine iteF ?_
            refine W_nil ?_
            exact hQR _ _ _ ⟨rfl, rfl, by walk_at "lk", _, by walk_at "lk", by simp only [lastOf, e]⟩
          · have e1 : decide (tyOf H1 (.ref a) = some "list") = false := by simp [tyOf, e]
            rw [e1]
            refine iteF ?_
            refine iteF ?_
            refine W_nil ?_
            exact hQR _ _ _ ⟨rfl, rfl, by walk_at "lk", _, by walk_at "lk", by simp only [lastOf, e]⟩
      · intro _ m1 H2 hg229_3
        refine Mine.hideG fun GG back => ?_
        obtain ⟨rfl, rfl, ha1, w, hw, hlast⟩ := hg229_3
        refine back ?_
        clear back
        rw [hlast] at hG1
        refine Mine.hideG fun GG back => ?_
        obtain ⟨hwt, hG1⟩ := hG1
        refine back ?_
        clear back
        refine contQ_next ?_
        refine W_cons' ?_
        refine W_If ?_
        refine WT_Not ?_
        refine WT_plain ?_
        refine W_CallB (by assumption) (kindS (by rfl)) ?_
        refine WItems_cons ?_
        refine W_Name (by walk_at "lk") ?_
        refine WItems_cons ?_
        refine W_NameG (by assumption) (kindS (by rfl)) ?_
        refine WItems_nil ?_
        refine WCall_isi hwt (by simp) ?_
        refine WTr_bool ?_
        rw [isDict_ty]
        cases hD : isDict H1 w with
        | true =>
          rw [hD, if_pos rfl] at hG1
          refine Mine.hideG fun GG back => ?_
          obtain ⟨d, rfl, hG1⟩ := hG1
          refine back ?_
          clear back
          refine iteNT ?_
          refine W_nil ?_
          refine contQ_next ?_
          refine W_nil ?_
          refine hQL _ _ _ ?_
          refine loopQ_next ?_
          exact ⟨ha1, hk1, d, hw, hG1⟩
        | false =>
          rw [hD, if_neg Bool.false_ne_true] at hG1
          refine iteNF ?_
          refine W_cons' ?_
          refine W_RaiseCall excClass_KeyError hh here gKE (kindS (by rfl)) ?_
          refine WItems_cons ?_
          refine W_str fun t ht => ?_
          refine WItems_nil ⟨by simp [sizeLine], ?_⟩
          rw [hX]
          exact hG1 t
  · intro m' H' hg266_2
    refine Mine.hideG fun GG back => ?_
    obtain ⟨ha, hk', cont, hcont, hG⟩ := hg266_2
    refine back ?_
    clear back
    rw [List.length_map, List.drop_eq_nil_of_le (Nat.le_refl _)] at hG
    refine contQ_next ?_
    refine W_cons' ?_
    refine W_Return' ?_
    refine W_Name (by walk_at "lk") ?_
    intro uR huR
    refine contQ_ret ?_
    refine RQ_ret huR ?_
    exact ⟨cont, rfl, hG⟩
theorem L6.nest_call {c : Cx} {A : Around} {C fI fG fA x dx kt b0 : Addr} {keys : List (Str × Tok)} {H : AHeap} {Q : Addr → AHeap → Prop} {X : String → Option (List V) → AHeap → Prop} (G : Blt c) (N : NestAt c C fI fG fA L6.cls) (hA : Room A)
    (hx : H x = some (.inst C dx)) (hd : H dx = some (.attrs (.ref b0))) (hkt : H kt = some (.tup (keys.map fun p => .str p.1 p.2)))
    (h : Gw true Q X (keys.map (·.1)) b0 H) : FnV c A fG [.ref x, .ref kt] [] H (fun v H' => ∃ a, v = .ref a ∧ Q a H') X := fun rvs rkw e1 e2 => by
  refine Mine.hideG fun GG back => ?_
  obtain ⟨fd, F1, F2, F3, F4, d, mk, F5, F6, F7⟩ := N.get
  obtain ⟨u, w, rfl, e3, e4⟩ := map_er2 e1
  refine back ?_
  clear back
  have e2 : rkw = [] := by simpa using e2
  subst e2
  obtain rfl := er_ref e3
  obtain rfl := er_ref e4
  refine Fn.of_body F1 (Nat.lt_of_le_of_lt hA.depth (by decide)) (binds := [("self", .ref x), ("key", .ref kt), ("access_lists", .bool true)])
    (fun s hs => by cases fd; simp only at F3 F4 F5; subst F3; subst F4; subst F5; exact BindsTo.of_kw (F6.keeps hs) F7 rfl rfl) (by rw [F2]; rfl) fun k hk => ?_
  refine Mine.hideG fun GG back => ?_
  obtain ⟨rfl, h1, h2, h3, h4, h5, h6, h7, h8, h9⟩ := hk
  refine back ?_
  clear back
  refine L6.nest_body (acc := true) ⟨h1.trans F2, h2.trans (by rw [F2])⟩ G N.kls h8 h9 (h6.trans hA.handled) ?_ ?_ ?_ hx hd hkt h
  · rfl
  · rfl
  · rfl
theorem L6.nest_callK {c : Cx} {A : Around} {C fI fG fA x dx kt b0 : Addr} {keys : List (Str × Tok)} {acc : Bool} {H : AHeap} {Q : Addr → AHeap → Prop} {X : String → Option (List V) → AHeap → Prop} (G : Blt c) (N : NestAt c C fI fG fA L6.cls) (hA : Room A)
    (hx : H x = some (.inst C dx)) (hd : H dx = some (.attrs (.ref b0))) (hkt : H kt = some (.tup (keys.map fun p => .str p.1 p.2)))
    (h : Gw acc Q X (keys.map (·.1)) b0 H) : FnV c A fG [.ref x, .ref kt] [("access_lists", .bool acc)] H (fun v H' => ∃ a, v = .ref a ∧ Q a H') X := fun rvs rkw e1 e2 => by
  refine Mine.hideG fun GG back => ?_
  obtain ⟨fd, F1, F2, F3, F4, d, mk, F5, F6, F7⟩ := N.get
  obtain ⟨u, w, rfl, e3, e4⟩ := map_er2 e1
  refine back ?_
  clear back
  obtain ⟨⟨n, bv⟩, rfl, e5⟩ : ∃ p, rkw = [p] ∧ (p.1, er p.2) = (("access_lists" : Str), V.bool acc) := by
    cases rkw with
    | nil => simp at e2
    | cons p r => cases r with
      | nil => exact ⟨p, rfl, (List.cons.inj e2).1⟩
      | cons q r => simp at e2
  refine Mine.hideG fun GG back => ?_
  obtain ⟨rfl, e6⟩ := Prod.mk.inj e5
  refine back ?_
  clear back
  obtain rfl := er_ref e3
  obtain rfl := er_ref e4
  obtain rfl := er_bool e6
  refine Fn.of_body F1 (Nat.lt_of_le_of_lt hA.depth (by decide)) (binds := [("self", .ref x), ("key", .ref kt), ("access_lists", .bool acc)])
    (fun s hs => by cases fd; simp only at F3 F4 F5; subst F3; subst F4; subst F5; exact BindsTo.of_eq (by rfl)) (by rw [F2]; rfl) fun k hk => ?_
  refine Mine.hideG fun GG back => ?_
  obtain ⟨rfl, h1, h2, h3, h4, h5, h6, h7, h8, h9⟩ := hk
  refine back ?_
  clear back
  refine L6.nest_body (acc := acc) ⟨h1.trans F2, h2.trans (by rw [F2])⟩ G N.kls h8 h9 (h6.trans hA.handled) ?_ ?_ ?_ hx hd hkt h
  · rfl
  · rfl
  · rfl
end
section
noncomputable abbrev L6.fKey : Stmt := stm L6.stmsC 4
theorem three_at {t0 t1 t2 : Tok} {i : Nat} (h : i < 3) : ∃ x t, isNm x = true ∧ [V.str "a" t0, V.str "a.a" t1, V.str "" t2][i]? = some (.str x t) := by
  match i, h with
  | 0, _ => exact ⟨_, _, by decide, rfl⟩
  | 1, _ => exact ⟨_, _, by decide, rfl⟩
  | 2, _ => exact ⟨_, _, by decide, rfl⟩
theorem four_at {i : Nat} (h : i < 4) : ∃ j : Nat, j ≤ 5 ∧ [V.int 0, V.int 1, V.int 2, V.int 5][i]? = some (.int (j : Int)) := by
  match i, h with
  | 0, _ => exact ⟨0, by decide, rfl⟩
  | 1, _ => exact ⟨1, by decide, rfl⟩
  | 2, _ => exact ⟨2, by decide, rfl⟩
  | 3, _ => exact ⟨5, by decide, rfl⟩
theorem fdiv_nat {a b : Nat} : Int.fdiv (a : Int) (b : Int) = ((a / b : Nat) : Int) := by
  rw [Int.fdiv_eq_ediv_of_nonneg _ (Int.natCast_nonneg b)]; rfl
theorem fmod_nat {a b : Nat} : Int.fmod (a : Int) (b : Int) = ((a % b : Nat) : Int) := by
  rw [Int.fmod_eq_emod_of_nonneg _ (Int.natCast_nonneg b)]; rfl
theorem pick_ok {k : Wk} {m : Loc} {H : AHeap} {sl : Expr} {s0 s1 s2 : Str} {z0 z1 z2 : Nat} {p0 p1 p2 pl pos : Pos} {Q : V → Loc → AHeap → Prop} (e0 : s0 = "a") (e1 : s1 = "a.a") (e2 : s2 = "")
    (hs : ∀ o i, subscripted sl false o i = operate [o, i] (getItem o i))
    (h : ∀ l t0 t1 t2, H l = none → WV k (eval sl k.env) m (upd H l (.list [.str "a" t0, .str "a.a" t1, .str "" t2])) fun v m' H' => ∃ i : Nat, i < 3 ∧ v = .int (i : Int) ∧ m' = m ∧ H' = upd H l (.list [.str "a" t0, .str "a.a" t1, .str "" t2]) ∧ ∀ x t, isNm x = true → Q (.str x t) m' H') :
    WV k (eval (.Subscript (.List [.Constant (.str s0) z0 p0, .Constant (.str s1) z1 p1, .Constant (.str s2) z2 p2] pl) sl pos) k.env) m H Q := by
  subst e0; subst e1; subst e2
  have hz : sizeLine = _ := sizeLine_eq
  refine W_Subscript ?_
  refine W_List ?_
  refine WItems_cons ?_
  refine W_str fun t0 _ => ?_
  refine WItems_cons ?_
  refine W_str fun t1 _ => ?_
  refine WItems_cons ?_
  refine W_str fun t2 _ => ?_
  refine WItems_nil ⟨by simp [hz], fun l hl => ?_⟩
  refine W.mono (h l t0 t1 t2 hl) fun v m' H' q => ?_
  obtain ⟨i, hi, e, rfl, rfl, q⟩ := q
  rw [e]
  obtain ⟨x, t, hx, hv⟩ := three_at (t0 := t0) (t1 := t1) (t2 := t2) hi
  exact WSub_list upd_same (Int.natCast_nonneg i) (by lia) (by rw [Int.toNat_natCast]; exact hv) (q x t hx) hs
theorem L6.key_ok {c : Cx} {A : Around} {f : Addr} {n : Nat} {H : AHeap} (G : Blt c) (F : DefAt c f L6.fKey) (hA : Room A) (hn : n < 108) :
    FnV c A f [.int (n : Int)] [] H (fun v H' => ∃ p ps, v = .ref p ∧ Ext H H' ∧ H' p = some (.tup (strsV ps)) ∧ (∀ q ∈ ps, isNm q.1 = true) ∧ ps.length ≤ 5) NoX := by
  refine FnV.top F hA ["k"] rfl (fun fd rvs h1 h2 h3 hl => ?_) (by rfl) fun k hk => ?_
  · obtain ⟨x, rfl⟩ := len1 hl
    cases fd; simp only at h1 h2 h3; subst h1; subst h2; subst h3; rfl
  obtain ⟨rfl, sv, hfr, hdep, hun, hhd, hX, hhere⟩ := hk
  show W k (execs (fnBody L6.fKey) k.env) (setL noLoc "k" (.int (n : Int))) H _
  refine W_hide fun Q0 hQ0 => ?_
  have hroom : Roomy k := Roomy.of hfr (by have := hA.depth; lia) G.imp G.tree rfl rfl
  have hz : sizeLine = _ := sizeLine_eq
  refine W_cons' ?_
  refine W_Assign ?_ ?s0 ?s1
  case s0 => exact stor rfl
  case s1 => exact swaps_List
  refine W_List ?_
  refine WItems_cons ?_
  refine pick_ok rfl rfl rfl (by intro _ _; with_unfolding_all rfl) fun l0 u0 u1 u2 hl0 => ?_
  refine W_BinOp ?_
  refine W_BinOp ?_
  refine W_Name setL_same ?_
  refine W_int ?_
  refine WBin_fdiv hroom (by decide) ?_
  refine W_int ?_
  refine WBin_mod hroom (by decide) ?_
  refine ⟨n / 4 % 3, by lia, by rw [show (4 : Int) = ((4 : Nat) : Int) from rfl, show (3 : Int) = ((3 : Nat) : Int) from rfl, fdiv_nat, fmod_nat], rfl, rfl, fun x0 t0 hx0 => ?_⟩
  refine WItems_cons ?_
  refine pick_ok rfl rfl rfl (by intro _ _; with_unfolding_all rfl) fun l1 u3 u4 u5 hl1 => ?_
  refine W_BinOp ?_
  refine W_BinOp ?_
  refine W_Name setL_same ?_
  refine W_int ?_
  refine WBin_fdiv hroom (by decide) ?_
  refine W_int ?_
  refine WBin_mod hroom (by decide) ?_
  refine ⟨n / 12 % 3, by lia, by rw [show (12 : Int) = ((12 : Nat) : Int) from rfl, show (3 : Int) = ((3 : Nat) : Int) from rfl, fdiv_nat, fmod_nat], rfl, rfl, fun x1 t1 hx1 => ?_⟩
  refine WItems_cons ?_
  refine pick_ok rfl rfl rfl (by intro _ _; with_unfolding_all rfl) fun l2 u6 u7 u8 hl2 => ?_
  refine W_BinOp ?_
  refine W_Name setL_same ?_
  refine W_int ?_
  refine WBin_fdiv hroom (by decide) ?_
  refine ⟨n / 36, by lia, by rw [show (36 : Int) = ((36 : Nat) : Int) from rfl, fdiv_nat], rfl, rfl, fun x2 t2 hx2 => ?_⟩
  have hE := ((Ext.upd (x := .list [.str "a" u0, .str "a.a" u1, .str "" u2]) hl0).trans (Ext.upd hl1)).trans (Ext.upd (x := .list [.str "a" u6, .str "a.a" u7, .str "" u8]) hl2)
  generalize upd (upd (upd H l0 _) l1 _) l2 _ = H3 at hE ⊢
  refine WItems_nil ⟨by simp [hz], fun nm hnm => ?_⟩
  refine contQ_next ?_
  have hE4 := hE.trans (Ext.upd (x := .list [.str x0 t0, .str x1 t1, .str x2 t2]) hnm)
  have hnm4 : upd H3 nm (.list [.str x0 t0, .str x1 t1, .str x2 t2]) nm = some (.list [.str x0 t0, .str x1 t1, .str x2 t2]) := upd_same
  generalize upd H3 nm _ = H4 at hE4 hnm4 ⊢
  refine W_cons' ?_
  refine W_Return' ?_
  refine W_CallT G.tuple (kindS rfl) ?_
  refine WItems_cons ?_
  refine W_SubSlice ?_
  refine W_BinOp ?_
  refine W_Name setL_same ?_
  refine W_Name setL_same ?_
  refine WBin_addL hnm4 hnm4 (by simp [hz]) fun b hb => ?_
  refine WPart_none ?_
  refine WPart_some ?_
  refine W_Subscript ?_
  refine W_List ?_
  refine WItems_cons ?_
  refine W_int ?_
  refine WItems_cons ?_
  refine W_int ?_
  refine WItems_cons ?_
  refine W_int ?_
  refine WItems_cons ?_
  refine W_int ?_
  refine WItems_nil ⟨by simp [hz], fun d hd => ?_⟩
  refine W_BinOp ?_
  refine W_BinOp ?_
  refine W_int ?_
  refine W_Name (by walk_at "lk") ?_
  refine WBin_add ?_
  refine W_int ?_
  refine WBin_mod hroom (by decide) ?_
  rw [show (1 : Int) + (n : Int) = ((1 + n : Nat) : Int) by push_cast; rfl, show (4 : Int) = ((4 : Nat) : Int) from rfl, fmod_nat]
  obtain ⟨j, hj, hv⟩ := four_at (i := (1 + n) % 4) (by lia)
  refine WSub_list upd_same (Int.natCast_nonneg _) (by lia) (by rw [Int.toNat_natCast]; exact hv) ?_
  refine ⟨_, rfl, b, rfl, .inl ⟨_, upd_fresh hd upd_same, by simp [hz], fun b' H5 hE5 hn5 hb5 => ?_⟩⟩
  rw [sliceV_take] at hb5
  refine WItems_nil ?_
  refine WCall_tupleL hb5 (by rw [List.length_take, hz]; lia) fun p hp => ?_
  intro u hu
  refine contQ_ret ?_
  refine hQ0 _ _ _ (RQ_ret hu ?_)
  refine ⟨p, ([(x0, t0), (x1, t1), (x2, t2), (x0, t0), (x1, t1), (x2, t2)] : List (Str × Tok)).take j, rfl, ?_, ?_, ?_, ?_⟩
  · exact ((hE4.trans (Ext.upd hb)).trans ((Ext.upd hd).trans hE5)).trans (Ext.upd hp)
  · rw [upd_same]
    unfold strsV
    rw [List.map_take]; rfl
  · intro q hq
    have := List.mem_of_mem_take hq
    simp only [List.mem_cons, List.not_mem_nil, or_false] at this
    rcases this with rfl | rfl | rfl | rfl | rfl | rfl <;> assumption
  · rw [List.length_take]; lia
end
section
noncomputable abbrev L6.fDeeds : Stmt := stm L6.stmsC 5
noncomputable def DeedIs (H : AHeap) (v : V) : Prop := ∃ (a : Addr) (o d : Nat) (b : Bool), v = .ref a ∧ H a = some (.tup [.int (o : Int), .int (d : Int), .bool b]) ∧ o ≤ 1 ∧ d < 31104
theorem DeedIs.ext {H H' : AHeap} {v : V} (h : DeedIs H v) (hE : ∀ a xs, H a = some (.tup xs) → H' a = some (.tup xs)) : DeedIs H' v := by
  obtain ⟨a, o, d, b, e, h1, h2⟩ := h
  exact ⟨a, o, d, b, e, hE _ _ h1, h2⟩
noncomputable def FreshV (H : AHeap) (v : V) : Prop := ∀ a, v = .ref a → H a = none
structure L6.DE (H0 : AHeap) (D : Addr) (n : Nat) (m' : Loc) (H' : AHeap) : Prop where
  vd : m' "deeds" = some (.ref D)
  ext : ExtBut D H0 H'
  lst : ∃ vs, H' D = some (.list vs) ∧ (∀ v ∈ vs, DeedIs H' v ∧ FreshV H0 v) ∧ vs.length ≤ n
theorem L6.DE.put {H0 H' : AHeap} {D t : Addr} {n n' o d : Nat} {b : Bool} {m' m2 : Loc} (h : L6.DE H0 D n m' H') (hD : H0 D = none) (ht : H' t = none) (hn : n + 1 ≤ n') (ho : o ≤ 1) (hd : d < 31104) (hm : m2 "deeds" = m' "deeds") {vs : List V} (hvs : H' D = some (.list vs)) :
    L6.DE H0 D n' m2 (upd (upd H' t (.tup [.int (o : Int), .int (d : Int), .bool b])) D (.list (vs ++ [.ref t]))) := by
  obtain ⟨vs', h1, h2, h3⟩ := h.lst
  obtain rfl : vs' = vs := by rw [hvs] at h1; exact (AObj.list.inj (Option.some.inj h1)).symm
  have htD : t ≠ D := fun e => by rw [e, hvs] at ht; cases ht
  refine ⟨hm.trans h.vd, (h.ext.trans (ExtBut.of (Ext.upd ht))).put, _, upd_same, fun v hv => ?_, by rw [List.length_append, List.length_singleton]; lia⟩
  rcases List.mem_append.mp hv with hv | hv
  · exact ⟨(h2 v hv).1.ext fun a xs e => upd_ne (fun q => by rw [q, hvs] at e; cases e) (upd_fresh ht e), (h2 v hv).2⟩
  · obtain rfl := List.mem_singleton.mp hv
    refine ⟨⟨t, o, d, b, rfl, upd_ne htD upd_same, ho, hd⟩, fun a e => ?_⟩
    cases e
    cases q : H0 t with
    | none => rfl
    | some y => rw [h.ext t y htD q] at ht; cases ht
theorem L6.deeds_ok {c : Cx} {A : Around} {f sa : Addr} {ns : List Int} {H : AHeap} (G : Blt c) (gAbs : Gl c "abs" (.builtin "abs")) (F : DefAt c f L6.fDeeds) (hA : Room A) (hsa : BaseL c sa (ns.map .int)) (hl : ns.length ≤ 63) :
    FnV c A f [.ref sa] [] H (fun v H' => ∃ p vs, v = .ref p ∧ Ext H H' ∧ H p = none ∧ H' p = some (.list vs) ∧ (∀ v ∈ vs, DeedIs H' v ∧ FreshV H v) ∧ vs.length ≤ 50) NoX := by
  refine FnV.top F hA ["script"] rfl (fun fd rvs h1 h2 h3 hl => ?_) (by rfl) fun k hk => ?_
  · obtain ⟨x, rfl⟩ := len1 hl
    cases fd; simp only at h1 h2 h3; subst h1; subst h2; subst h3; rfl
  obtain ⟨rfl, sv, hfr, hdep, hun, hhd, hX, hhere⟩ := hk
  show W k (execs (fnBody L6.fDeeds) k.env) (setL noLoc "script" (.ref sa)) H _
  refine W_hide fun Q0 hQ0 => ?_
  have hroom : Roomy k := Roomy.of hfr (by have := hA.depth; lia) G.imp G.tree rfl rfl
  have hh : k.A.handled = none := hhd.trans hA.handled
  have hz : sizeLine = _ := sizeLine_eq
  refine W_cons' ?_
  refine W_Assign ?_ ?s0 ?s1
  case s0 => exact stor rfl
  case s1 => exact swaps_List
  refine W_List ?_
  refine WItems_nil ⟨by simp [hz], fun D hD => ?_⟩
  refine contQ_next ?_
  refine W_cons' ?_
  refine W_For ?h ?hs
  case hs => intro y; rfl
  refine W_BinOp ?_
  refine W_Name (by walk_at "lk") ?_
  refine W_List ?_
  refine WItems_cons ?_
  refine W_CallB G.len (kindS rfl) ?_
  refine WItems_cons ?_
  refine W_Name (by walk_at "lk") ?_
  refine WItems_nil ?_
  refine WCall_lenB hsa (by rw [List.length_map]; lia) ?_
  refine WItems_nil ⟨by simp [hz], fun l1 hl1 => ?_⟩
  refine WBin_addBL hsa upd_same (by simp [hz]; lia) fun l2 hl2 => ?_
  rw [List.length_map] at hl2 ⊢
  have hX1 : upd (upd (upd H D (.list [])) l1 (.list [.int (ns.length : Int)])) l2 (.list (ns.map V.int ++ [.int (ns.length : Int)])) l2 = some (.list (ns.map V.int ++ [.int (ns.length : Int)])) := upd_same
  have hD1 : D ≠ l1 := (upd_eq_none.mp hl1).1.symm
  have hD2 : D ≠ l2 := (upd_eq_none.mp (upd_eq_none.mp hl2).2).1.symm
  have I0 : L6.DE H D (50 * 0) (setL (setL noLoc "script" (.ref sa)) "deeds" (.ref D)) (upd (upd (upd H D (.list [])) l1 (.list [.int (ns.length : Int)])) l2 (.list (ns.map V.int ++ [.int (ns.length : Int)]))) :=
    ⟨setL_same, ((ExtBut.of (Ext.upd hD)).trans (ExtBut.of (Ext.upd hl1))).trans (ExtBut.of (Ext.upd hl2)), [], upd_ne hD2 (upd_ne hD1 upd_same), (fun v hv => by cases hv), by simp⟩
  generalize upd (upd (upd H D (.list [])) l1 (.list [.int (ns.length : Int)])) l2 (.list (ns.map V.int ++ [.int (ns.length : Int)])) = H1 at hX1 I0 ⊢
  generalize setL (setL noLoc "script" (.ref sa)) "deeds" (.ref D) = m1 at I0 ⊢
  have hxn : (ns.map V.int ++ [V.int (ns.length : Int)]).length = ns.length + 1 := by simp
  have hxi : ∀ (i : Nat) v, (ns.map V.int ++ [V.int (ns.length : Int)])[i]? = some v → ∃ z : Int, v = .int z := fun i v e => by
    have := List.mem_of_getElem? e
    rcases List.mem_append.mp this with h | h
    · obtain ⟨z, _, rfl⟩ := List.mem_map.mp h; exact ⟨z, rfl⟩
    · exact ⟨_, List.mem_singleton.mp h⟩
  have hl2D : l2 ≠ D := Ne.symm hD2
  refine ⟨_, _, _, fun i m' H' => L6.DE H D (50 * i) m' H' ∧ H' l2 = some (.list (ns.map V.int ++ [.int (ns.length : Int)])), WIter_list hh hX1, ⟨I0, hX1⟩, fun i m' H' q => q.2, ?_, ?_⟩
  · intro i v m' H' hi hR hI
    obtain ⟨hI, hX'⟩ := hI
    obtain ⟨x, rfl⟩ := hxi i v hR
    rw [hxn] at hi
    refine WAs_Name ?s0 ?_
    case s0 => exact stor rfl
    refine W_hide fun QL hQL => ?_
    refine W_cons' ?_
    refine W_Assign ?_ ?s0 ?s1
    case s0 => exact stor rfl
    case s1 => rfl
    refine W_BinOp ?_
    refine W_CallB gAbs (kindS rfl) ?_
    refine WItems_cons ?_
    refine W_Name setL_same ?_
    refine WItems_nil ?_
    refine WCall_abs ?_
    refine W_BinOp ?_
    refine W_int ?_
    refine W_int ?_
    refine WBin_pow (by decide) (by decide) (by decide) ?_
    have hpos : 0 < 31104 ^ 50 := Nat.pow_pos (by decide)
    have epow : (31104 : Int) ^ (50 : Int).toNat = ((31104 ^ 50 : Nat) : Int) := by rw [Int.natCast_pow]; rfl
    rw [epow]
    have eabs : (if x < 0 then -x else x) = (x.natAbs : Int) := by split <;> lia
    rw [eabs]
    generalize hP : (31104 ^ 50 : Nat) = P at hpos ⊢
    have hlt : x.natAbs % P < 31104 ^ (49 + 1) := Nat.lt_of_lt_of_eq (Nat.mod_lt _ hpos) hP.symm
    refine WBin_mod hroom (by lia) ?_
    rw [fmod_nat]
    generalize x.natAbs % P = y at hlt ⊢
    clear hP epow eabs
    refine contQ_next ?_
    obtain ⟨vs, hvs, hdv, hvl⟩ := hI.lst
    have hlen : vs.length < sizeLine := by rw [hz]; lia
    have one : ∀ (b : Bool) (mq : Loc) (Hq : AHeap) (e : Expr) (Q : V → Loc → AHeap → Prop), mq "x" = some (.int x) → (∀ o : Nat, o ≤ 1 → Q (.int (o : Int)) mq Hq) → ∀ (p1 p2 p3 p4 p5 p6 : Pos) (z1 z2 z3 : Nat) (X : Str), X = "x" → WV k (eval (.IfExp (.Compare (.Name X p1) [.Lt] [.Constant (.int 0) z1 p2] p3) (.Constant (.int 1) z2 p4) (.Constant (.int 0) z3 p5) p6) k.env) mq Hq Q := fun b mq Hq e Q hx q p1 p2 p3 p4 p5 p6 z1 z2 z3 X hX => by
      subst hX
      refine W_IfExp ?_
      refine WT_Compare ?_
      refine W_Name hx ?_
      refine W_int ?_
      refine WCmp_lt ?_
      refine WTr_bool ?_
      refine ite_dec (fun _ => ?_) (fun _ => ?_)
      · exact W_int (q 1 (by decide))
      · exact W_int (q 0 (by decide))
    refine W_cons' ?_
    refine W_ExprStmt ?_
    refine W_CallM' PySem.F.plainAttrs_list PySem.F.slot_list_append PySem.F.type_list_append ?_
    refine W_Name (by have := hI.vd; walk_at "lk") ?_
    refine ⟨onList hvs, ?_⟩
    refine WItems_cons ?_
    refine W_Tuple ?_
    refine WItems_cons ?_
    refine one true _ _ (.Constant .none 0 default) _ (by walk_at "lk") (fun o ho => ?_) _ _ _ _ _ _ _ _ _ _ rfl
    refine WItems_cons ?_
    refine W_BinOp ?_
    refine W_Name setL_same ?_
    refine W_int ?_
    refine WBin_mod hroom (by decide) ?_
    rw [show Int.fmod (y : Int) 31104 = ((y % 31104 : Nat) : Int) from fmod_nat]
    refine WItems_cons ?_
    refine W_bool ?_
    refine WItems_nil ⟨by simp [hz], fun t ht => ?_⟩
    refine WItems_nil ?_
    refine WCall_append (upd_fresh ht hvs) (Nat.le_of_lt hlen) ?_
    refine contQ_next ?_
    have J := hI.put (b := true) (n' := 50 * i + 1) (m2 := setL (setL m' "x" (.int x)) "y" (.int (y : Int))) hD ht (Nat.le_refl _) ho (Nat.mod_lt y (by decide)) (by rw [setL_off (by decide), setL_off (by decide)]) hvs
    have hX2 : upd (upd H' t (.tup [.int (o : Int), .int ((y % 31104 : Nat) : Int), .bool true])) D (.list (vs ++ [.ref t])) l2 = some (.list (ns.map V.int ++ [.int (ns.length : Int)])) := upd_ne hl2D (upd_fresh ht hX')
    have vx : setL (setL m' "x" (.int x)) "y" (.int (y : Int)) "x" = some (.int x) := by walk_at "lk"
    have vy : setL (setL m' "x" (.int x)) "y" (.int (y : Int)) "y" = some (.int (y : Int)) := setL_same
    generalize upd (upd H' t (.tup [.int (o : Int), .int ((y % 31104 : Nat) : Int), .bool true])) D (.list (vs ++ [.ref t])) = H2 at J hX2 ⊢
    generalize setL (setL m' "x" (.int x)) "y" (.int (y : Int)) = m2 at J vx vy ⊢
    clear hI hvs hdv hvl hlen ht
    refine W_cons' ?_
    refine W_While (fun j m3 H3 => ∃ y : Nat, m3 "y" = some (.int (y : Int)) ∧ m3 "x" = some (.int x) ∧ y < 31104 ^ (j + 1) ∧ j ≤ 49 ∧ L6.DE H D (50 * i + 50 - j) m3 H3 ∧ H3 l2 = some (.list (ns.map V.int ++ [.int (ns.length : Int)]))) 49 ⟨y, vy, vx, hlt, Nat.le_refl _, J, hX2⟩ ?_
    intro j m3 H3 hW
    obtain ⟨y, vy, vx, hy, hj, J, hX3⟩ := hW
    refine WT_Compare ?_
    refine W_Name vy ?_
    refine W_int ?_
    refine WCmp_ge ?_
    refine WTr_bool ?_
    refine ite_dec (fun hge => ?_) (fun _ => ?_)
    · have hge' : 31104 ≤ y := by lia
      cases j with
      | zero => rw [Nat.zero_add, Nat.pow_one] at hy; exact absurd hy (Nat.not_lt.mpr hge')
      | succ j =>
        refine W_cons' ?_
        refine W_Aug vy ?_ (stor rfl)
        refine W_int ?_
        refine WInpl_fdiv hroom (by decide) ?_
        rw [show Int.fdiv (y : Int) 31104 = ((y / 31104 : Nat) : Int) from fdiv_nat]
        have hy2 : y / 31104 < 31104 ^ (j + 1) := Nat.div_lt_of_lt_mul (by rw [Nat.mul_comm, ← Nat.pow_succ]; exact hy)
        refine contQ_next ?_
        obtain ⟨vs, hvs, hdv, hvl⟩ := J.lst
        have hlen : vs.length < sizeLine := by rw [hz]; lia
        refine W_cons' ?_
        refine W_ExprStmt ?_
        refine W_CallM' PySem.F.plainAttrs_list PySem.F.slot_list_append PySem.F.type_list_append ?_
        refine W_Name (by have := J.vd; walk_at "lk") ?_
        refine ⟨onList hvs, ?_⟩
        refine WItems_cons ?_
        refine W_Tuple ?_
        refine WItems_cons ?_
        refine one true _ _ (.Constant .none 0 default) _ (by walk_at "lk") (fun o ho => ?_) _ _ _ _ _ _ _ _ _ _ rfl
        refine WItems_cons ?_
        refine W_BinOp ?_
        refine W_Name setL_same ?_
        refine W_int ?_
        refine WBin_mod hroom (by decide) ?_
        rw [show Int.fmod ((y / 31104 : Nat) : Int) 31104 = ((y / 31104 % 31104 : Nat) : Int) from fmod_nat]
        refine WItems_cons ?_
        refine W_bool ?_
        refine WItems_nil ⟨by simp [hz], fun t ht => ?_⟩
        refine WItems_nil ?_
        refine WCall_append (upd_fresh ht hvs) (Nat.le_of_lt hlen) ?_
        refine contQ_next ?_
        refine W_nil ?_
        refine loopQ_next ⟨j, Nat.lt_succ_self j, y / 31104, setL_same, by walk_at "lk", hy2, by lia, ?_, upd_ne hl2D (upd_fresh ht hX3)⟩
        exact J.put hD ht (by lia) ho (Nat.mod_lt _ (by decide)) (setL_off (by decide)) hvs
    · refine contQ_next ?_
      refine W_nil ?_
      refine hQL _ _ _ (loopQ_next ⟨⟨J.vd, J.ext, ?_⟩, hX3⟩)
      obtain ⟨vs, q1, q2, q3⟩ := J.lst
      exact ⟨vs, q1, q2, by lia⟩
  · intro m' H' hI
    obtain ⟨J, _⟩ := hI
    rw [hxn] at J
    obtain ⟨vs, q1, q2, q3⟩ := J.lst
    refine contQ_next ?_
    refine W_cons' ?_
    refine W_Return' ?_
    refine W_SubSlice ?_
    refine W_Name J.vd ?_
    refine WPart_none ?_
    refine WPart_some ?_
    refine W_int ⟨_, rfl, D, rfl, .inl ⟨vs, q1, by rw [hz]; lia, fun b H2 hE hb hb2 => ?_⟩⟩
    rw [show (50 : Int) = ((50 : Nat) : Int) from rfl, sliceV_take] at hb2
    intro u hu
    refine contQ_ret ?_
    refine hQ0 _ _ _ (RQ_ret hu ?_)
    have hE0 : Ext H H' := fun a y e => J.ext a y (fun q => by rw [q, hD] at e; cases e) e
    refine ⟨b, vs.take 50, rfl, hE0.trans hE, ?_, hb2, fun v hv => ⟨(q2 v (List.mem_of_mem_take hv)).1.ext fun a xs e => hE _ _ e, (q2 v (List.mem_of_mem_take hv)).2⟩, by rw [List.length_take]; lia⟩
    exact none_less hE0 hb
end
section
noncomputable abbrev L6.fRew : Stmt := stm L6.stmsC 6
theorem WT_True {k : Wk} {m : Loc} {H : AHeap} {z : Nat} {p : Pos} {Q : Bool → Loc → AHeap → Prop} (h : Q true m H) : WT k (.Constant (.bool true) z p) m H Q := WT_plain (W_bool (WTr_bool h))
theorem okW_goal {g : Nat} {w : Way} (h : okW w = true) (l : Nat) : okW (g, w.2.drop l) = true := by
  unfold okW at h ⊢
  rw [List.all_eq_true] at h ⊢
  exact fun x hx => h x (List.mem_of_mem_drop hx)
theorem filter_head {α : Type} {p : α → Bool} {l : List α} {x : α} (h : (l.filter p)[0]? = some x) : x ∈ l ∧ p x = true := List.mem_filter.mp (List.mem_of_getElem? h)
set_option maxHeartbeats 1000000 in
theorem L6.rew_ok {c : Cx} {A : Around} {f rA : Addr} {w : Way} {wv : V} {ls : Bool} {rows : List LR} {n : Nat} {vs : List V} {H : AHeap} (G : Blt c) (F : DefAt c f L6.fRew) (hA : Room A) (hA' : A.depth ≤ 599 ∧ A.units ≤ 1997) (hw : IsWay H w wv) (hrA : H rA = some (.list vs)) (hR : RowsIn H vs rows) (o : RowsOK rows n) (hok : ∀ r ∈ rows, okW r.w = true) (hokw : okW w = true)
    (hlr : ∀ r ∈ rows, r.w.2.length ≤ 1000) (hlg : ∀ r ∈ rows, r.g.length ≤ 10000) (hlw : w.2.length ≤ 1000) (hz : rows.length ≤ 100000) :
    FnV c A f [wv, .ref rA, .bool ls] [] H (fun v H' => Ext H H' ∧ IsWay H' (walkW rows ls (w.1, []) w.2).1 v) NoX := by
  refine FnV.top F hA ["way", "rows", "lists"] rfl (fun fd rvs h1 h2 h3 hl => ?_) (by rfl) fun k hk => ?_
  · obtain ⟨x, y, z, rfl⟩ := len3 hl
    cases fd; simp only at h1 h2 h3; subst h1; subst h2; subst h3; rfl
  obtain ⟨rfl, sv, hfr, hdep, hun, hhd, hX, hhere⟩ := hk
  show W k (execs (fnBody L6.fRew) k.env) (setL (setL (setL noLoc "way" wv) "rows" (.ref rA)) "lists" (.bool ls)) H _
  refine W_hide fun Q0 hQ0 => ?_
  have hh : k.A.handled = none := hhd.trans hA.handled
  have hsz : sizeLine = _ := sizeLine_eq
  have hu64 : k.A.units + 64 < cLine := Nat.lt_of_le_of_lt (m := 2070) (by lia) (by decide)
  have gLen := G.len
  have I0 : ∃ (w' : Way) (v' : V), setL (setL (setL noLoc "way" wv) "rows" (.ref rA)) "lists" (.bool ls) "way" = some v' ∧ setL (setL (setL noLoc "way" wv) "rows" (.ref rA)) "lists" (.bool ls) "rows" = some (.ref rA) ∧ setL (setL (setL noLoc "way" wv) "rows" (.ref rA)) "lists" (.bool ls) "lists" = some (.bool ls) ∧ IsWay H w' v' ∧ walkW rows ls (w'.1, []) w'.2 = walkW rows ls (w.1, []) w.2 ∧ w'.2.length = w.2.length ∧ w'.2.length ≤ 1000 ∧ okW w' = true ∧ Ext H H :=
    ⟨w, wv, by walk_at "lk", by walk_at "lk", setL_same, hw, rfl, rfl, hlw, hokw, Ext.refl _⟩
  generalize setL (setL (setL noLoc "way" wv) "rows" (.ref rA)) "lists" (.bool ls) = m0 at I0 ⊢
  refine W_cons' ?_
  refine W_While (fun j m' H' => ∃ (w' : Way) (v' : V), m' "way" = some v' ∧ m' "rows" = some (.ref rA) ∧ m' "lists" = some (.bool ls) ∧ IsWay H' w' v' ∧ walkW rows ls (w'.1, []) w'.2 = walkW rows ls (w.1, []) w.2 ∧ w'.2.length = j ∧ w'.2.length ≤ 1000 ∧ okW w' = true ∧ Ext H H') w.2.length I0 ?_
  clear I0 hw hlw hokw wv m0
  intro j m1 H1 hI
  obtain ⟨w', v', vw, vr, vl, hw, hwk, hj, hlw, hokw, hE⟩ := hI
  refine WT_True ?_
  refine iteT ?_
  refine W_hide fun QL hQL => ?_
  refine W_cons' ?_
  refine W_Assign_ListComp ?s0 ?s1 ?s2 ?s3 ?s4 ?s5 ?_
  case s0 => rfl
  case s1 => rfl
  case s2 => rfl
  case s3 => rfl
  case s4 => rfl
  case s5 => rfl
  refine W_Name vr ?_
  refine LC.rows (p := fun r => pre r.w w' && jumps ls r) rfl hh (by decide) (by decide) (hE _ _ hrA) (hR.ext hE) hz (fun kc hkc i r v mc H2 hr hri hE2 hcap hx => ?_) (fun fA acc H2 hE2 hfA hacc => ?_)
  · haveI sv1 := hkc.senv (sc := fnScope L6.fRew) (cn := cellNames (fnScope L6.fRew).names)
    have hrm := List.mem_of_getElem? hr
    refine WT_And ?_
    refine W_allTrue_and ?_
    refine WT_pre rfl rfl rfl rfl rfl rfl (by rw [hkc.c]; exact gLen) (kindS rfl) hx hri (hcap.get vw (by rfl)) (hw.ext fun a xs e => hE2 _ _ e) (hok r hrm) hokw hlw (hlr r hrm) (by rw [hkc.A]; exact hu64) fun H3 hE3 => ?_
    have hri3 := hri.ext hE3
    cases hp : pre r.w w' with
    | false => exact iteF ⟨rfl, rfl, hE3⟩
    | true =>
      refine iteT ?_
      refine W_allTrue_and ?_
      refine WT_Or ?_
      refine W_allTrue_or ?_
      refine WT_Compare ?_
      refine W_row1 rfl hx hri3 (fun t => ?_) (by decide) (by decide)
      refine W_str fun t2 _ => ?_
      refine WCmp_eqS ?_
      refine WTr_bool ?_
      refine ite_dec (fun hd => ?_) (fun hd => ?_)
      · have : r.k = .dict := kn_inj hd
        refine iteT ?_
        refine W_allTrue_nilA ⟨rfl, by simp [jumps, this], hE3⟩
      · have nd : r.k ≠ .dict := fun e => hd (by rw [e]; rfl)
        refine W_allTrue_or ?_
        refine WT_And ?_
        refine W_allTrue_and ?_
        refine WT_Compare ?_
        refine W_row1 rfl hx hri3 (fun t => ?_) (by decide) (by decide)
        refine W_str fun t2 _ => ?_
        refine WCmp_eqS ?_
        refine WTr_bool ?_
        refine ite_dec (fun hd => ?_) (fun hd => ?_)
        · have hkl : r.k = .list := kn_inj hd
          refine W_allTrue_and ?_
          refine WT_plain ?_
          refine W_Name (hcap.get vl (by rfl)) ?_
          refine WTr_bool ?_
          cases ls with
          | true =>
            refine iteT ?_
            refine W_allTrue_nilA ?_
            refine iteT ?_
            refine iteT ?_
            exact W_allTrue_nilA ⟨rfl, by simp [jumps, hkl], hE3⟩
          | false =>
            refine iteF ?_
            refine iteF ?_
            refine W_allTrue_nilO ?_
            exact iteF ⟨rfl, by simp [jumps, hkl], hE3⟩
        · have nl : r.k ≠ .list := fun e => hd (by rw [e]; rfl)
          refine iteF ?_
          refine W_allTrue_nilO ?_
          exact iteF ⟨rfl, by simp [jumps, nd, nl], hE3⟩
  refine contQ_next ?_
  have vf : setL m1 "found" (.ref fA) "found" = some (.ref fA) := setL_same
  have vw2 : setL m1 "found" (.ref fA) "way" = some v' := by walk_at "lk"
  have vr2 : setL m1 "found" (.ref fA) "rows" = some (.ref rA) := by walk_at "lk"
  have vl2 : setL m1 "found" (.ref fA) "lists" = some (.bool ls) := by walk_at "lk"
  have hfA2 : upd H2 fA (.list acc) fA = some (.list acc) := upd_same
  have hE3 := hE2.trans (Ext.upd (x := .list acc) hfA)
  have hacc3 := hacc.ext (Ext.upd (x := .list acc) hfA)
  generalize upd H2 fA (.list acc) = H3 at hfA2 hE3 hacc3 ⊢
  generalize setL m1 "found" (.ref fA) = m2 at vf vw2 vr2 vl2 ⊢
  clear hfA hacc hE2
  refine W_cons' ?_
  refine W_If ?_
  refine WT_Compare ?_
  refine W_Name vf ?_
  refine W_List ?_
  refine WItems_nil ⟨by simp [hsz], fun nA hnA => ?_⟩
  have hokf : ∀ r ∈ rows.filter (fun r => pre r.w w' && jumps ls r), okW r.w = true := fun r hr => hok r (List.mem_filter.mp hr).1
  refine WCmp_rowsNil (upd_fresh hnA hfA2) upd_same (hacc3.ext (Ext.upd hnA)) hokf hu64 ?_
  refine WTr_bool ?_
  have hE4 := hE.trans (hE3.trans (Ext.upd (x := .list []) hnA))
  have hE34 := hE3.trans (Ext.upd (x := .list []) hnA)
  have hfA4 := upd_fresh (x := .list []) hnA hfA2
  have hacc4 := hacc3.ext (Ext.upd (x := .list []) hnA)
  generalize upd H3 nA (.list []) = H4 at hE4 hE34 hfA4 hacc4 ⊢
  cases hem : (rows.filter (fun r => pre r.w w' && jumps ls r)).isEmpty with
  | true =>
    refine iteT ?_
    refine W_cons' ?_
    refine W_Return' ?_
    refine W_Name vw2 ?_
    intro u hu
    refine contQ_ret ?_
    refine contQ_ret ?_
    refine hQL _ _ _ (loopQ_ret ?_)
    refine contQ_ret ?_
    refine hQ0 _ _ _ (RQ_ret hu ?_)
    refine ⟨hE4, ?_⟩
    rw [← hwk]
    have hst := walk_stay (ls := ls) o w'.2 [] (i := w'.1) (.inl rfl) (fun r hr hjr => by
      have h0 : rows.filter (fun r => pre r.w w' && jumps ls r) = [] := by simpa using hem
      have := List.filter_eq_nil_iff.mp h0 r hr
      rw [hjr, Bool.and_true] at this
      simpa using this)
    rw [hst.1]
    exact hw.ext fun a xs e => hE34 _ _ e
  | false =>
    refine iteF ?_
    refine W_nil ?_
    refine contQ_next ?_
    obtain ⟨r, hr0⟩ : ∃ r, (rows.filter (fun r => pre r.w w' && jumps ls r))[0]? = some r := by
      cases e : rows.filter (fun r => pre r.w w' && jumps ls r) with
      | nil => rw [e] at hem; cases hem
      | cons x l => exact ⟨x, rfl⟩
    obtain ⟨hrm, hrp⟩ := filter_head hr0
    rw [Bool.and_eq_true] at hrp
    obtain ⟨hpr, hjr⟩ := hrp
    obtain ⟨hi, q, hq⟩ := pre_iff.mp hpr
    obtain ⟨v0, hv0⟩ : ∃ v0, acc[0]? = some v0 := by
      have h1 := (List.getElem?_eq_some_iff.mp hr0).1
      exact ⟨_, List.getElem?_eq_getElem (by rw [hacc4.len]; exact h1)⟩
    obtain ⟨a, rv, gl, t, rfl, ha, hrv, hgl⟩ := hacc4.at_ 0 _ r hv0 hr0
    have hkk : r.k = .dict ∨ r.k = .list := by
      unfold jumps at hjr
      simp only [Bool.or_eq_true, Bool.and_eq_true, decide_eq_true_iff] at hjr
      exact hjr.imp id fun h => h.1
    obtain ⟨g, hg1, hg2⟩ := o.gl r hrm hkk
    have hgo : goalOf r = g := by unfold goalOf; rw [hg1]; rfl
    have hgpos : r.g ≠ [] := fun e => by rw [e] at hg1; cases hg1
    have hglen := hlg r hrm
    have hglt : 0 < r.g.length := List.length_pos_iff.mpr hgpos
    refine W_cons' ?_
    refine W_Assign ?_ ?s0 ?s1
    case s0 => exact stor rfl
    case s1 => rfl
    refine W_BinOp ?_
    refine W_Tuple ?_
    refine WItems_cons ?_
    refine W_Subscript ?_
    refine W_Subscript ?_
    refine W_Subscript ?_
    refine W_Name vf ?_
    refine W_int ?_
    refine WSub_list hfA4 (by decide) (by decide) hv0 ?_
    refine W_int ?_
    refine WSub_tup (j := 2) ha (by decide) (by decide) rfl rfl ?_
    refine W_UnaryOp ?_
    refine W_int ?_
    refine WUn_neg ?_
    refine WSub_listNeg (v := .int (g : Int)) hgl (by decide) (by decide) (by rw [List.length_map]; lia) ?_ ?_
    · rw [List.length_map, List.getElem?_map, show (-1 + (r.g.length : Int)).toNat = r.g.length - 1 by lia, ← List.getLast?_eq_getElem?, hg1]; rfl
    refine WItems_nil ⟨by simp [hsz], fun tA htA => ?_⟩
    refine W_SubSlice ?_
    refine W_Name vw2 ?_
    refine WPart_some ?_
    refine W_CallB gLen (kindS rfl) ?_
    refine WItems_cons ?_
    refine W_Subscript ?_
    refine W_Subscript ?_
    refine W_Name vf ?_
    refine W_int ?_
    refine WSub_list (upd_fresh htA hfA4) (by decide) (by decide) hv0 ?_
    refine W_int ?_
    refine WSub_tup (j := 0) (upd_fresh htA ha) (by decide) (by decide) rfl rfl ?_
    refine WItems_nil ?_
    obtain ⟨b, qs, rfl, hb, hqs⟩ := hrv
    have hql : qs.length = r.w.2.length := by rw [← hqs, List.length_map]
    have hlr' := hlr r hrm
    refine WCall_lenT (upd_fresh htA hb) (by simp only [List.length_cons, strsV_length]; lia) ⟨_, rfl, ?_⟩
    refine WPart_none ?_
    obtain ⟨a', ps, rfl, ha', hps⟩ := hw.tup
    have hpl : ps.length = w'.2.length := by rw [← hps, List.length_map]
    refine ⟨a', rfl, .inr ⟨_, upd_fresh htA (hE34 _ _ ha'), by rw [hsz]; simp only [List.length_cons, strsV_length]; lia, fun d H5 hE5 hd => ?_⟩⟩
    rw [List.length_cons, strsV_length, hql, sliceV_drop, List.drop_succ_cons] at hd
    refine WBin_addT (hE5 _ _ upd_same) hd (by rw [hsz, List.length_drop, strsV_length]; simp; lia) fun p H6 hE6 hp6 => ?_
    refine contQ_next ?_
    refine W_nil ?_
    refine hQL _ _ _ (loopQ_next ?_)
    have hrl : 0 < r.w.2.length := List.length_pos_iff.mpr (o.rt r hrm).2
    have hwl : w'.2.length = r.w.2.length + q.length := by rw [hq, List.length_append]
    have hdq : w'.2.drop r.w.2.length = q := by rw [hq, List.drop_left]
    refine ⟨(w'.2.drop r.w.2.length).length, by rw [hdq]; lia, (g, w'.2.drop r.w.2.length), .ref p, setL_same, by walk_at "lk", by walk_at "lk", ⟨p, ps.drop r.w.2.length, rfl, ?_, ?_⟩, ?_, rfl, ?_, okW_goal hokw _, ?_⟩
    · rw [hp6]; unfold strsV; rw [List.map_drop]; rfl
    · rw [List.map_drop, hps]
    · rw [← hwk, hdq]
      have := walk_jump o hrm hjr q
      rw [hgo, hi] at this
      rw [← this, ← hq]
    · rw [hdq]; lia
    · exact hE4.trans ((Ext.upd htA).trans (hE5.trans hE6))
end
section
noncomputable abbrev L6.fIs : Stmt := stm L6.stmsC 7
noncomputable abbrev L6.fLead : Stmt := stm L6.stmsC 8
theorem L6.is_ok {c : Cx} {A : Around} {f : Addr} {g : Int} {v : V} {H : AHeap} (G : Blt c) (F : DefAt c f L6.fIs) (hA : Room A) (hA' : A.depth ≤ 599 ∧ A.units ≤ 1997) (hv : IsG H g v) :
    FnV c A f [v, .int g] [] H (fun u H' => u = .bool true ∧ Ext H H') NoX := by
  refine FnV.top F hA ["value", "goal"] rfl (fun fd rvs h1 h2 h3 hl => ?_) (by rfl) fun k hk => ?_
  · obtain ⟨x, y, rfl⟩ := len2 hl
    cases fd; simp only at h1 h2 h3; subst h1; subst h2; subst h3; rfl
  obtain ⟨rfl, sv, hfr, hdep, hun, hhd, hX, hhere⟩ := hk
  show W k (execs (fnBody L6.fIs) k.env) (setL (setL noLoc "value" v) "goal" (.int g)) H _
  refine W_hide fun Q0 hQ0 => ?_
  have hu64 : k.A.units + 64 < cLine := Nat.lt_of_le_of_lt (m := 2070) (by lia) (by decide)
  have vg : setL (setL noLoc "value" v) "goal" (.int g) "goal" = some (.int g) := setL_same
  have vv : setL (setL noLoc "value" v) "goal" (.int g) "value" = some v := by walk_at "lk"
  generalize setL (setL noLoc "value" v) "goal" (.int g) = m at vg vv ⊢
  obtain ⟨d, kvs, ep, rfl, hd, hg⟩ := hv
  refine W_cons' ?_
  refine W_Return' ?_
  refine W_AndC ?_
  refine W_Compare ?_
  refine W_CallT G.type (kindS rfl) ?_
  refine WItems_cons ?_
  refine W_Name vv ?_
  refine WItems_nil ?_
  refine WCall_type (Tx := "dict") (by simp [tyOf, hd]) (by simp) ?_
  refine W_NameG G.dict (kindS rfl) ?_
  refine WCmp_isTy ⟨true, by simp, ?_⟩
  rw [if_pos rfl]
  refine W_And1 ?_
  refine W_IfExp ?_
  refine WT_Compare ?_
  refine W_Name vg ?_
  refine W_int ?_
  refine WCmp_lt ?_
  refine WTr_bool ?_
  refine ite_dec (fun hn => ?_) (fun hn => ?_)
  · rw [if_pos hn] at hg
    subst hg
    refine W_Compare ?_
    refine W_Name vv ?_
    refine W_Dict0 fun e he => ?_
    refine WCmp_eqEmpty (upd_fresh he hd) upd_same (by lia) ?_
    intro u hu
    refine contQ_ret ?_
    exact hQ0 _ _ _ (RQ_ret hu ⟨rfl, Ext.upd he⟩)
  · rw [if_neg hn] at hg
    refine W_Compare ?_
    refine W_CallM' PySem.F.plainAttrs_dict PySem.F.slot_dict_get PySem.F.type_dict_get ?_
    refine W_Name vv ?_
    refine ⟨onDict hd, ?_⟩
    refine WItems_cons ?_
    refine W_str fun t _ => ?_
    refine WItems_nil ?_
    refine WCall_get hd (key := .inr "root") (by simp [isKV]) ?_
    rw [hg]
    refine W_Name vg ?_
    refine WCmp_eq ?_
    intro u hu
    refine contQ_ret ?_
    exact hQ0 _ _ _ (RQ_ret hu ⟨by simp, Ext.refl _⟩)
theorem L6.leads_body {c : Cx} {A : Around} {f fi gl : Addr} {kk : KW} {t : Tok} {gs : List Int} {v : V} {H : AHeap} (G : Blt c) (gInt : Gl c "int" (.type "int")) (F : DefAt c f L6.fLead) (Fi : DefAt c fi L6.fIs) (gIs : Gl c "_law_is" (.ref fi)) (gLead : Gl c "_law_leads_on" (.ref f)) (hA : Room A) (hA' : A.depth ≤ 596 ∧ A.units ≤ 1985)
    (hgl : H gl = some (.list (gs.map .int))) (hz : gs.length ≤ 100000) (hv : LeadF H kk gs v)
    (hrec : ∀ A', A'.depth = A.depth + 1 → A'.units = A.units + 3 → A'.handled = none → ∀ H' v' t', Ext H H' → kk = .lists → LeadF H' .list gs v' → FnV c A' f [v', .str "list" t', .ref gl] [] H' (fun u H' => u = .bool true ∧ Ext H H') NoX) :
    FnV c A f [v, .str (kn kk) t, .ref gl] [] H (fun u H' => u = .bool true ∧ Ext H H') NoX := by
  refine FnV.top F hA ["value", "what", "goals"] rfl (fun fd rvs h1 h2 h3 hl => ?_) (by rfl) fun k hk => ?_
  · obtain ⟨x, y, z, rfl⟩ := len3 hl
    cases fd; simp only at h1 h2 h3; subst h1; subst h2; subst h3; rfl
  obtain ⟨rfl, sv, hfr, hdep, hun, hhd, hX, hhere⟩ := hk
  show W k (execs (fnBody L6.fLead) k.env) (setL (setL (setL noLoc "value" v) "what" (.str (kn kk) t)) "goals" (.ref gl)) H _
  refine W_hide fun Q0 hQ0 => ?_
  have hh : k.A.handled = none := hhd.trans hA.handled
  have hsz : sizeLine = _ := sizeLine_eq
  have hroom : Room k.A := ⟨by lia, by lia, hh⟩
  have vv : setL (setL (setL noLoc "value" v) "what" (.str (kn kk) t)) "goals" (.ref gl) "value" = some v := by walk_at "lk"
  have vw : setL (setL (setL noLoc "value" v) "what" (.str (kn kk) t)) "goals" (.ref gl) "what" = some (.str (kn kk) t) := by walk_at "lk"
  have vg : setL (setL (setL noLoc "value" v) "what" (.str (kn kk) t)) "goals" (.ref gl) "goals" = some (.ref gl) := setL_same
  generalize setL (setL (setL noLoc "value" v) "what" (.str (kn kk) t)) "goals" (.ref gl) = m at vv vw vg ⊢
  obtain ⟨fo, fd, hfo, hfd⟩ := F.obj
  obtain ⟨fo2, fd2, hfo2, hfd2⟩ := Fi.obj
  have glen : (gs.map V.int).length = gs.length := List.length_map _
  -- number
  refine W_cons' ?_
  refine W_If ?_
  refine WT_Compare ?_
  refine W_Name vw ?_
  refine W_str fun t1 _ => ?_
  refine WCmp_eqS ?_
  refine WTr_bool ?_
  refine ite_dec (fun hk => ?_) (fun hk1 => ?_)
  · obtain rfl : kk = .num := kn_inj hk
    obtain rfl : v = .int 0 := hv
    refine W_cons' ?_
    refine W_Return' ?_
    refine W_AndC ?_
    refine W_Compare ?_
    refine W_CallT G.type (kindS rfl) ?_
    refine WItems_cons ?_
    refine W_Name vv ?_
    refine WItems_nil ?_
    refine WCall_type (Tx := "int") (by simp [tyOf]) (by simp) ?_
    refine W_NameG gInt (kindS rfl) ?_
    refine WCmp_isTy ⟨true, by simp, ?_⟩
    rw [if_pos rfl]
    refine W_And1 ?_
    refine W_Compare ?_
    refine W_Name vv ?_
    refine W_int ?_
    refine WCmp_eq ?_
    intro u hu
    refine contQ_ret ?_
    refine contQ_ret ?_
    exact hQ0 _ _ _ (RQ_ret hu ⟨by simp, Ext.refl _⟩)
  refine W_nil ?_
  refine contQ_next ?_
  -- text
  refine W_cons' ?_
  refine W_If ?_
  refine WT_Compare ?_
  refine W_Name vw ?_
  refine W_str fun t1 _ => ?_
  refine WCmp_eqS ?_
  refine WTr_bool ?_
  refine ite_dec (fun hk => ?_) (fun hk2 => ?_)
  · obtain rfl : kk = .text := kn_inj hk
    obtain ⟨t2, rfl⟩ : ∃ t, v = .str "a" t := hv
    refine W_cons' ?_
    refine W_Return' ?_
    refine W_Compare ?_
    refine W_Name vv ?_
    refine W_str fun t3 _ => ?_
    refine WCmp_eqS ?_
    intro u hu
    refine contQ_ret ?_
    refine contQ_ret ?_
    exact hQ0 _ _ _ (RQ_ret hu ⟨by simp, Ext.refl _⟩)
  refine W_nil ?_
  refine contQ_next ?_
  -- dict
  refine W_cons' ?_
  refine W_If ?_
  refine WT_Compare ?_
  refine W_Name vw ?_
  refine W_str fun t1 _ => ?_
  refine WCmp_eqS ?_
  refine WTr_bool ?_
  refine ite_dec (fun hk => ?_) (fun hk3 => ?_)
  · obtain rfl : kk = .dict := kn_inj hk
    obtain ⟨g, hg0, hg⟩ : ∃ g, gs[0]? = some g ∧ IsG H g v := hv
    refine W_cons' ?_
    refine W_Return' ?_
    refine W_CallF gIs (kindS rfl) hfo2 hfd2 ?_
    refine WItems_cons ?_
    refine W_Name vv ?_
    refine WItems_cons ?_
    refine W_Subscript ?_
    refine W_Name vg ?_
    refine W_int ?_
    refine WSub_list hgl (by decide) (by decide) (show (gs.map V.int)[0]? = some (.int g) by rw [List.getElem?_map, hg0]; rfl) ?_
    refine WItems_nil ?_
    refine FnV.mono (L6.is_ok G Fi hroom ⟨by lia, by lia⟩ hg) (fun u H' q => ?_) (fun _ _ _ q => q.elim)
    intro u' hu'
    refine contQ_ret ?_
    refine contQ_ret ?_
    exact hQ0 _ _ _ (RQ_ret hu' q)
  refine W_nil ?_
  refine contQ_next ?_
  -- lists
  refine W_cons' ?_
  refine W_If ?_
  refine WT_Compare ?_
  refine W_Name vw ?_
  refine W_str fun t1 _ => ?_
  refine WCmp_eqS ?_
  refine WTr_bool ?_
  refine ite_dec (fun hk => ?_) (fun hk4 => ?_)
  · have hkk : kk = .lists := kn_inj hk
    rw [hkk] at hv
    obtain ⟨l, l', rfl, hl, hl'⟩ : ∃ l l', v = .ref l ∧ H l = some (.list [.ref l']) ∧ ListF H gs l' := hv
    refine W_cons' ?_
    refine W_Return' ?_
    refine W_AndC ?_
    refine W_Compare ?_
    refine W_CallT G.type (kindS rfl) ?_
    refine WItems_cons ?_
    refine W_Name vv ?_
    refine WItems_nil ?_
    refine WCall_type (Tx := "list") (by simp [tyOf, hl]) (by simp) ?_
    refine W_NameG G.list (kindS rfl) ?_
    refine WCmp_isTy ⟨true, by simp, ?_⟩
    rw [if_pos rfl]
    refine W_AndC ?_
    refine W_Compare ?_
    refine W_CallB G.len (kindS rfl) ?_
    refine WItems_cons ?_
    refine W_Name vv ?_
    refine WItems_nil ?_
    refine WCall_lenL hl (by simp) ?_
    refine W_int ?_
    refine WCmp_eq ⟨true, by simp, ?_⟩
    rw [if_pos rfl]
    refine W_And1 ?_
    refine W_CallF gLead (kindS rfl) hfo hfd ?_
    refine WItems_cons ?_
    refine W_Subscript ?_
    refine W_Name vv ?_
    refine W_int ?_
    refine WSub_list hl (by decide) (by decide) (v := .ref l') rfl ?_
    refine WItems_cons ?_
    refine W_str fun t2 _ => ?_
    refine WItems_cons ?_
    refine W_Name vg ?_
    refine WItems_nil ?_
    refine FnV.mono (hrec k.A hdep hun hh H (.ref l') t2 (Ext.refl _) hkk ⟨l', rfl, hl'⟩) (fun u H' q => ?_) (fun _ _ _ q => q.elim)
    intro u' hu'
    refine contQ_ret ?_
    refine contQ_ret ?_
    exact hQ0 _ _ _ (RQ_ret hu' q)
  refine W_nil ?_
  refine contQ_next ?_
  -- list
  refine W_cons' ?_
  refine W_If ?_
  refine WT_Compare ?_
  refine W_Name vw ?_
  refine W_str fun t1 _ => ?_
  refine WCmp_eqS ?_
  refine WTr_bool ?_
  refine ite_dec (fun hk => ?_) (fun hk5 => ?_)
  · obtain rfl : kk = .list := kn_inj hk
    obtain ⟨l, rfl, vs, hl, hvl, hvs⟩ : ∃ l, v = .ref l ∧ ListF H gs l := hv
    refine W_cons' ?_
    refine W_Return' ?_
    refine W_AndC ?_
    refine W_Compare ?_
    refine W_CallT G.type (kindS rfl) ?_
    refine WItems_cons ?_
    refine W_Name vv ?_
    refine WItems_nil ?_
    refine WCall_type (Tx := "list") (by simp [tyOf, hl]) (by simp) ?_
    refine W_NameG G.list (kindS rfl) ?_
    refine WCmp_isTy ⟨true, by simp, ?_⟩
    rw [if_pos rfl]
    refine W_AndC ?_
    refine W_Compare ?_
    refine W_CallB G.len (kindS rfl) ?_
    refine WItems_cons ?_
    refine W_Name vv ?_
    refine WItems_nil ?_
    refine WCall_lenL hl (by lia) ?_
    refine W_CallB G.len (kindS rfl) ?_
    refine WItems_cons ?_
    refine W_Name vg ?_
    refine WItems_nil ?_
    refine WCall_lenL hgl (by lia) ?_
    refine WCmp_eq ⟨true, by simp [hvl], ?_⟩
    rw [if_pos rfl]
    refine W_And1 ?_
    refine W_Compare ?_
    refine W_bool ?_
    refine W_ListComp ?s0 ?s1 ?s2 ?_
    case s0 => rfl
    case s1 => rfl
    case s2 => rfl
    refine W_CallT G.range (kindS rfl) ?_
    refine WItems_cons ?_
    refine W_CallB G.len (kindS rfl) ?_
    refine WItems_cons ?_
    refine W_Name vg ?_
    refine WItems_nil ?_
    refine WCall_lenL hgl (by lia) ?_
    refine WItems_nil ?_
    refine WCall_range1 fun rg hrg => ?_
    rw [glen]
    refine ⟨_, _, _, fun i acc H2 => Ext (upd H rg (.range 0 (gs.length : Int) 1)) H2 ∧ ∀ v ∈ acc, v = .bool true, WIter_range hh upd_same (small_up (by lia)), ⟨Ext.refl _, fun v hv => by cases hv⟩, fun _ _ _ _ => trivial, by rw [rangeN_up, hsz]; lia, ?_, ?_⟩
    · intro kc hkc i v acc mc H2 hi hv hI hcap hx
      obtain ⟨hE, hacc⟩ := hI
      rw [rangeN_up] at hi
      haveI sv1 := hkc.senv (sc := fnScope L6.fLead) (cn := cellNames (fnScope L6.fLead).names)
      obtain rfl : v = .int (i : Int) := by rw [hv]; simp
      have hE1 := (Ext.upd (x := .range 0 (gs.length : Int) 1) hrg).trans hE
      refine W_tests_nil ⟨rfl, ?_⟩
      rw [if_pos rfl]
      refine W_CallF (fo := fo2) (fd := fd2) (by rw [hkc.c]; exact gIs) (kindS rfl) (by rw [hkc.c]; exact hfo2) hfd2 ?_
      have hvi : vs[i]? = some (vs[i]'(hvl ▸ hi)) := List.getElem?_eq_getElem _
      have hgi : gs[i]? = some gs[i] := List.getElem?_eq_getElem hi
      refine WItems_cons ?_
      refine W_Subscript ?_
      refine W_Name (hcap.get vv (by rfl)) ?_
      refine W_Name hx ?_
      refine WSub_list (hE1 _ _ hl) (Int.natCast_nonneg i) (by lia) (by rw [Int.toNat_natCast]; exact hvi) ?_
      refine WItems_cons ?_
      refine W_Subscript ?_
      refine W_Name (hcap.get vg (by rfl)) ?_
      refine W_Name hx ?_
      refine WSub_list (hE1 _ _ hgl) (Int.natCast_nonneg i) (by lia) (show (gs.map V.int)[(i : Int).toNat]? = some (.int gs[i]) by rw [Int.toNat_natCast, List.getElem?_map, hgi]; rfl) ?_
      refine WItems_nil ?_
      rw [hkc.c, hkc.A]
      refine FnV.mono (L6.is_ok G Fi hroom ⟨by lia, by lia⟩ ((hvs i _ _ hgi hvi).ext hE1)) (fun u H3 q => ?_) (fun _ _ _ q => q.elim)
      obtain ⟨rfl, hE3⟩ := q
      refine ⟨rfl, hE.trans hE3, fun v hv => ?_⟩
      rcases List.mem_append.mp hv with hv | hv
      · exact hacc v hv
      · exact List.mem_singleton.mp hv
    · intro a acc H2 _ hI ha
      obtain ⟨hE, hacc⟩ := hI
      refine WCmp_notInTrues upd_same hacc ?_
      intro u hu
      refine contQ_ret ?_
      refine contQ_ret ?_
      exact hQ0 _ _ _ (RQ_ret hu ⟨rfl, (Ext.upd hrg).trans (hE.trans (Ext.upd ha))⟩)
  refine W_nil ?_
  refine contQ_next ?_
  -- table
  have hkt : kk = .table := by
    cases kk with
    | table => rfl
    | dict => exact absurd rfl hk3
    | list => exact absurd rfl hk5
    | num => exact absurd rfl hk1
    | text => exact absurd rfl hk2
    | lists => exact absurd rfl hk4
  subst hkt
  obtain ⟨d, kvs, ep, rfl, hd⟩ : ∃ d kvs ep, v = .ref d ∧ H d = some (.dict kvs ep) := hv
  refine W_cons' ?_
  refine W_Return' ?_
  refine W_Compare ?_
  refine W_CallT G.type (kindS rfl) ?_
  refine WItems_cons ?_
  refine W_Name vv ?_
  refine WItems_nil ?_
  refine WCall_type (Tx := "dict") (by simp [tyOf, hd]) (by simp) ?_
  refine W_NameG G.dict (kindS rfl) ?_
  refine WCmp_isTy ?_
  intro u hu
  refine contQ_ret ?_
  exact hQ0 _ _ _ (RQ_ret hu ⟨by simp, Ext.refl _⟩)
theorem L6.leads_ok {c : Cx} {A : Around} {f fi gl : Addr} {kk : KW} {t : Tok} {gs : List Int} {v : V} {H : AHeap} (G : Blt c) (gInt : Gl c "int" (.type "int")) (F : DefAt c f L6.fLead) (Fi : DefAt c fi L6.fIs) (gIs : Gl c "_law_is" (.ref fi)) (gLead : Gl c "_law_leads_on" (.ref f)) (hA : Room A) (hA' : A.depth ≤ 590 ∧ A.units ≤ 1900)
    (hgl : H gl = some (.list (gs.map .int))) (hz : gs.length ≤ 100000) (hv : LeadF H kk gs v) : FnV c A f [v, .str (kn kk) t, .ref gl] [] H (fun u H' => u = .bool true ∧ Ext H H') NoX :=
  L6.leads_body G gInt F Fi gIs gLead hA ⟨by lia, by lia⟩ hgl hz hv fun A' h1 h2 h3 H' v' t' hE _ hv' =>
    FnV.mono (L6.leads_body (kk := .list) G gInt F Fi gIs gLead ⟨by lia, by lia, h3⟩ ⟨by lia, by lia⟩ (hE _ _ hgl) hz hv' fun _ _ _ _ _ _ _ _ q => by cases q) (fun u H2 q => ⟨q.1, hE.trans q.2⟩) fun _ _ _ q => q
end
section
structure L6.Defs (c : Cx) (C fI fG fA fK fD fR fS fL : Addr) : Prop where
  blt : Blt c
  gAbs : Gl c "abs" (.builtin "abs")
  gInt : Gl c "int" (.type "int")
  nest : NestAt c C fI fG fA L6.cls
  gC : Gl c "NestedDict" (.ref C)
  key : DefAt c fK L6.fKey
  gKey : Gl c "_law_key" (.ref fK)
  deeds : DefAt c fD L6.fDeeds
  gDeeds : Gl c "_law_deeds" (.ref fD)
  rew : DefAt c fR L6.fRew
  gRew : Gl c "_law_rewritten" (.ref fR)
  is_ : DefAt c fS L6.fIs
  gIs : Gl c "_law_is" (.ref fS)
  lead : DefAt c fL L6.fLead
  gLead : Gl c "_law_leads_on" (.ref fL)
noncomputable abbrev L6.fLaw : Stmt := stm L6.stmsC 9
noncomputable def forBody : Stmt → List Stmt
  | .For _ _ b _ _ => b
  | _ => []
noncomputable abbrev L6.lp : List Stmt := forBody (stm (fnBody L6.fLaw) 3)
noncomputable def offL (L : List Str) (m m' : Loc) : Prop := ∀ y, y ∉ L → m' y = m y
theorem offL.refl (L : List Str) (m : Loc) : offL L m m := fun _ _ => rfl
theorem offL.put {L : List Str} {m m' : Loc} (h : offL L m m') {x : Str} {v : V} (hx : x ∈ L) : offL L m (setL m' x v) := fun y hy => by
  rw [setL_off (show y ≠ x from fun e => hy (by rw [e]; exact hx))]; exact h y hy
theorem offL.trans {L : List Str} {m m' m'' : Loc} (h : offL L m m') (h' : offL L m' m'') : offL L m m'' := fun y hy => (h' y hy).trans (h y hy)
theorem offL.more {L L' : List Str} {m m' : Loc} (h : offL L m m') (hs : ∀ y ∈ L, y ∈ L') : offL L' m m' := fun y hy => h y fun q => hy (hs y q)
structure L6.LV (nA rA gA : Addr) (m : Loc) : Prop where
  vn : m "nests" = some (.ref nA)
  vr : m "rows" = some (.ref rA)
  vg : m "given" = some (.ref gA)
theorem L6.LV.of {nA rA gA : Addr} {m m' : Loc} {L : List Str} (h : L6.LV nA rA gA m) (o : offL L m m') (hL : ("nests" : Str) ∉ L ∧ ("rows" : Str) ∉ L ∧ ("given" : Str) ∉ L) : L6.LV nA rA gA m' := ⟨(o _ hL.1).trans h.vn, (o _ hL.2.1).trans h.vr, (o _ hL.2.2).trans h.vg⟩
theorem L6.begin_ok {k : Wk} {m : Loc} {H : AHeap} {S0 : Stmt} {C fI fG fA fK fD fR fS fL nA rA gA : Addr} {rp rows : List LR} {n : Nat} {VA : Vals} {G : Ghost} {gv : List Way} {dd : Nat} {b : Bool} {Q : Flow → Loc → AHeap → Prop} [sv : SEnv k (fnScope L6.fLaw) (cellNames (fnScope L6.fLaw).names)]
    (h0 : S0 = stm L6.lp 0) (D : L6.Defs k.c C fI fG fA fK fD fR fS fL) (hA : Room k.A) (hA' : k.A.depth ≤ 500 ∧ k.A.units ≤ 1500) (V0 : L6.LV nA rA gA m) (X : LH6 C nA rA gA rp rows n VA G gv dd H) (vb : m "begins" = some (.bool b))
    (h : ∀ H' n' VA' G', LH6 C nA rA gA rp rows n' VA' G' gv dd H' → (∀ a xs, H a = some (.tup xs) → H' a = some (.tup xs)) → (∀ a xs, a ≠ nA → H a = some (.list xs) → H' a = some (.list xs)) → Q .next m H') : W k (exec S0 k.env) m H Q := by
  subst h0
  have hz : sizeLine = _ := sizeLine_eq
  obtain ⟨xs, hxs, hxn, _⟩ := id X.nests
  refine W_If ?_
  refine WT_And ?_
  refine W_allTrue_and ?_
  refine WT_plain ?_
  refine W_Name vb ?_
  refine WTr_bool ?_
  cases b with
  | false =>
    refine iteF ?_
    refine iteF ?_
    refine W_nil ?_
    exact h H n VA G X (fun _ _ e => e) (fun _ _ _ e => e)
  | true =>
    refine iteT ?_
    refine W_allTrue_and ?_
    refine WT_Compare ?_
    refine W_CallB D.blt.len (kindS rfl) ?_
    refine WItems_cons ?_
    refine W_Name V0.vn ?_
    refine WItems_nil ?_
    have hn6 := X.n6
    refine WCall_lenL hxs (by rw [List.length_map]; lia) ?_
    refine W_int ?_
    refine WCmp_lt ?_
    refine WTr_bool ?_
    rw [List.length_map, hxn]
    refine ite_dec (fun hlt => ?_) (fun _ => ?_)
    case refine_2 =>
      refine iteF ?_
      refine W_nil ?_
      exact h H n VA G X (fun _ _ e => e) (fun _ _ _ e => e)
    refine W_allTrue_nilA ?_
    refine iteT ?_
    refine W_cons' ?_
    refine W_ExprStmt ?_
    refine W_CallM' PySem.F.plainAttrs_list PySem.F.slot_list_append PySem.F.type_list_append ?_
    refine W_Name V0.vn ?_
    refine ⟨onList hxs, ?_⟩
    refine WItems_cons ?_
    refine W_NewCls D.nest.kls D.gC ?h5 fun x dx hx hdx hxd => ?_
    case h5 => exact kindS rfl
    refine Fn.mono (L6.init_ok D.nest.kls D.nest.init (A := k.A.under (.builtin "type.__call__" ⟨[.ref C], []⟩)) ?_ upd_same (upd_ne (fun q => hxd q.symm) upd_same) _ _ rfl rfl) ?_ fun _ _ _ q => q.elim
    · have hw : (Code.builtin "type.__call__" ⟨[.ref C], []⟩).weight ≤ 50 := (show (Code.builtin "type.__call__" ⟨[.ref 0], []⟩).weight ≤ 50 by decide)
      have hu : (Code.builtin "type.__call__" ⟨[.ref C], []⟩).cUnits ≤ 50 := (show (Code.builtin "type.__call__" ⟨[.ref 0], []⟩).cUnits ≤ 50 by decide)
      exact ⟨by show k.A.depth + _ ≤ 600; lia, by show k.A.units + _ ≤ 2000; lia, hA.handled⟩
    intro v H' hv
    obtain ⟨rfl, d, hd, rfl⟩ := hv
    refine ⟨rfl, ?_⟩
    simp only [upd_eq_none] at hd
    have nx : nA ≠ x := fun e => by rw [e, hx] at hxs; cases hxs
    have ndx : nA ≠ dx := fun e => by rw [e, hdx] at hxs; cases hxs
    have nd : nA ≠ d := fun e => by rw [e, hd.2.2] at hxs; cases hxs
    have nxs : upd (upd (upd (upd H dx .attrs0) x (.inst C dx)) d (.dict [] 0)) dx (.attrs (.ref d)) nA = some (.list (xs.map .ref)) := upd_ne ndx (upd_ne nd (upd_ne nx (upd_ne ndx hxs)))
    refine WItems_nil ?_
    refine WCall_append nxs (by rw [List.length_map, hz]; lia) ?_
    refine contQ_next ?_
    refine W_nil ?_
    have keep : ∀ a y, H a = some y → a ≠ nA → upd (upd (upd (upd (upd H dx .attrs0) x (.inst C dx)) d (.dict [] 0)) dx (.attrs (.ref d))) nA (.list (xs.map .ref ++ [.ref x])) a = some y := fun a y e q => by
      have n1 : a ≠ dx := fun z => by rw [z, hdx] at e; cases e
      have n2 : a ≠ x := fun z => by rw [z, hx] at e; cases e
      have n3 : a ≠ d := fun z => by rw [z, hd.2.2] at e; cases e
      exact upd_ne q (upd_ne n1 (upd_ne n3 (upd_ne n2 (upd_ne n1 e))))
    refine h _ (n + 1) _ _ (X.begin (x := x) (dx := dx) (d := d) (by lia) hxs hd.2.2 keep upd_same (upd_ne (Ne.symm nx) (upd_ne hxd (upd_ne (Ne.symm hd.1) upd_same))) (upd_ne (Ne.symm ndx) upd_same) (upd_ne (Ne.symm nd) (upd_ne hd.2.1 upd_same))) (fun a ys e => keep a _ e fun z => by rw [z, hxs] at e; cases e) (fun a ys q e => keep a _ e q)
end
section
theorem rdNames {H : AHeap} {a : Addr} {ps : List (Str × Tok)} (h : H a = some (.tup (strsV ps))) : Rd H (.tuple ((ps.map (·.1)).map .str)) (.ref a) := ⟨a, _, rfl, h, rdStrs ps⟩
theorem goodNames : ∀ {l : List Str}, (∀ x ∈ l, isNm x = true) → goodAll (l.map .str) = true
  | [], _ => rfl
  | x :: l, h => by simp only [List.map_cons, goodAll, good, strOk_nm (h x List.mem_cons_self), goodNames fun y hy => h y (List.mem_cons_of_mem _ hy), Bool.and_self]
structure L6.HV (C nA : Addr) (kd i j : Nat) (ly : Bool) (kt nt : Addr) (m : Loc) : Prop where
  vk : m "kind" = some (.int (kd : Int))
  vkey : m "key" = some (.ref kt)
  vi : m "i" = some (.int (i : Int))
  vj : m "j" = some (.int (j : Int))
  vl : m "lays" = some (.bool ly)
  vnm : m "names" = some (.ref nt)
noncomputable abbrev L6.hL : List Str := ["kind", "key", "i", "j", "lays", "names"]
structure L6.KV (ps qs : List (Str × Tok)) (ly : Bool) (kd : Nat) (kt nt : Addr) (H : AHeap) : Prop where
  hk : H kt = some (.tup (strsV ps))
  hn : H nt = some (.tup (strsV qs))
  nm : ∀ q ∈ ps, isNm q.1 = true
  len : ps.length ≤ 5
  lyE : ly = (decide (2 < kd) && !ps.isEmpty)
  qsE : qs = if ly = true then ps.dropLast else ps
theorem L6.KV.ext {ps qs : List (Str × Tok)} {ly : Bool} {kd : Nat} {kt nt : Addr} {H H' : AHeap} (h : L6.KV ps qs ly kd kt nt H) (hE : ∀ a xs, H a = some (.tup xs) → H' a = some (.tup xs)) : L6.KV ps qs ly kd kt nt H' := { h with hk := hE _ _ h.hk, hn := hE _ _ h.hn }
theorem L6.head_ok {k : Wk} {m : Loc} {H : AHeap} {S1 S2 S3 S4 S5 S6 : Stmt} {rest : List Stmt} {C fI fG fA fK fD fR fS fL nA : Addr} {xs : List Addr} {n d ot : Nat} {Q : Flow → Loc → AHeap → Prop} [sv : SEnv k (fnScope L6.fLaw) (cellNames (fnScope L6.fLaw).names)]
    (h1 : S1 = stm L6.lp 1) (h2 : S2 = stm L6.lp 2) (h3 : S3 = stm L6.lp 3) (h4 : S4 = stm L6.lp 4) (h5 : S5 = stm L6.lp 5) (h6 : S6 = stm L6.lp 6) (D : L6.Defs k.c C fI fG fA fK fD fR fS fL) (hA : Room k.A) (hA' : k.A.depth ≤ 500 ∧ k.A.units ≤ 1500) (hroom : Roomy k)
    (vd : m "d" = some (.int (d : Int))) (vo : m "other" = some (.int (ot : Int))) (vn : m "nests" = some (.ref nA)) (hxs : H nA = some (.list (xs.map .ref))) (hn : xs.length = n) (hn0 : 0 < n) (hn6 : n ≤ 6)
    (h : ∀ m' H' kd i j ly kt nt ps qs, L6.HV C nA kd i j ly kt nt m' → L6.KV ps qs ly kd kt nt H' → Ext H H' → offL L6.hL m m' → kd < 8 → i < n → j < n → W k (execs rest k.env) m' H' Q) : W k (execs (S1 :: S2 :: S3 :: S4 :: S5 :: S6 :: rest) k.env) m H Q := by
  subst h1; subst h2; subst h3; subst h4; subst h5; subst h6
  have hz : sizeLine = _ := sizeLine_eq
  have hu64 : k.A.units + 64 < cLine := Nat.lt_of_le_of_lt (m := 2070) (by lia) (by decide)
  obtain ⟨fo, fd, hfo, hfd⟩ := D.key.obj
  -- kind
  refine W_cons' ?_
  refine W_Assign ?_ ?s0 ?s1
  case s0 => exact stor rfl
  case s1 => rfl
  refine W_BinOp ?_
  refine W_Name vd ?_
  refine W_int ?_
  refine WBin_mod hroom (by decide) ?_
  rw [show Int.fmod (d : Int) 8 = ((d % 8 : Nat) : Int) from fmod_nat]
  have hkd : d % 8 < 8 := Nat.mod_lt _ (by decide)
  generalize d % 8 = kd at hkd ⊢
  refine contQ_next ?_
  have o1 : offL L6.hL m (setL m "kind" (.int (kd : Int))) := (offL.refl _ _).put (by decide)
  have vk1 : setL m "kind" (.int (kd : Int)) "kind" = some (.int (kd : Int)) := setL_same
  generalize setL m "kind" (.int (kd : Int)) = m1 at o1 vk1 ⊢
  have vd1 := (o1 "d" (by decide)).trans vd
  -- key
  refine W_cons' ?_
  refine W_Assign ?_ ?s0 ?s1
  case s0 => exact stor rfl
  case s1 => rfl
  refine W_CallF D.gKey (kindS rfl) hfo hfd ?_
  refine WItems_cons ?_
  refine W_BinOp ?_
  refine W_BinOp ?_
  refine W_Name vd1 ?_
  refine W_int ?_
  refine WBin_fdiv hroom (by decide) ?_
  rw [show Int.fdiv (d : Int) 8 = ((d / 8 : Nat) : Int) from fdiv_nat]
  refine W_int ?_
  refine WBin_mod hroom (by decide) ?_
  rw [show Int.fmod ((d / 8 : Nat) : Int) 108 = ((d / 8 % 108 : Nat) : Int) from fmod_nat]
  refine WItems_nil ?_
  refine FnV.mono (L6.key_ok D.blt D.key hA (Nat.mod_lt _ (by decide))) (fun v H1 q => ?_) (fun _ _ _ q => q.elim)
  obtain ⟨kt, ps, rfl, hE1, hkt, hnm, hlen⟩ := q
  refine contQ_next ?_
  have o2 : offL L6.hL m (setL m1 "key" (.ref kt)) := o1.put (by decide)
  have vk2 : setL m1 "key" (.ref kt) "kind" = some (.int (kd : Int)) := by walk_at "lk"
  have vkt2 : setL m1 "key" (.ref kt) "key" = some (.ref kt) := setL_same
  generalize setL m1 "key" (.ref kt) = m2 at o2 vk2 vkt2 ⊢
  have vd2 := (o2 "d" (by decide)).trans vd
  have vo2 := (o2 "other" (by decide)).trans vo
  have vn2 := (o2 "nests" (by decide)).trans vn
  have hxs1 := hE1 _ _ hxs
  -- i
  refine W_cons' ?_
  refine W_Assign ?_ ?s0 ?s1
  case s0 => exact stor rfl
  case s1 => rfl
  refine W_BinOp ?_
  refine W_BinOp ?_
  refine W_BinOp ?_
  refine W_Name vd2 ?_
  refine W_int ?_
  refine WBin_fdiv hroom (by decide) ?_
  rw [show Int.fdiv (d : Int) 864 = ((d / 864 : Nat) : Int) from fdiv_nat]
  refine W_Name vo2 ?_
  refine WBin_add ?_
  refine W_CallB D.blt.len (kindS rfl) ?_
  refine WItems_cons ?_
  refine W_Name vn2 ?_
  refine WItems_nil ?_
  refine WCall_lenL hxs1 (by rw [List.length_map]; lia) ?_
  rw [List.length_map, hn]
  refine WBin_mod hroom (by lia) ?_
  rw [show ((d / 864 : Nat) : Int) + (ot : Int) = ((d / 864 + ot : Nat) : Int) by push_cast; rfl, fmod_nat]
  have hi : (d / 864 + ot) % n < n := Nat.mod_lt _ hn0
  generalize (d / 864 + ot) % n = i at hi ⊢
  refine contQ_next ?_
  have o3 : offL L6.hL m (setL m2 "i" (.int (i : Int))) := o2.put (by decide)
  have vk3 : setL m2 "i" (.int (i : Int)) "kind" = some (.int (kd : Int)) := by walk_at "lk"
  have vkt3 : setL m2 "i" (.int (i : Int)) "key" = some (.ref kt) := by walk_at "lk"
  have vi3 : setL m2 "i" (.int (i : Int)) "i" = some (.int (i : Int)) := setL_same
  generalize setL m2 "i" (.int (i : Int)) = m3 at o3 vk3 vkt3 vi3 ⊢
  have vd3 := (o3 "d" (by decide)).trans vd
  have vn3 := (o3 "nests" (by decide)).trans vn
  -- j
  refine W_cons' ?_
  refine W_Assign ?_ ?s0 ?s1
  case s0 => exact stor rfl
  case s1 => rfl
  refine W_BinOp ?_
  refine W_BinOp ?_
  refine W_BinOp ?_
  refine W_Name vd3 ?_
  refine W_int ?_
  refine WBin_fdiv hroom (by decide) ?_
  rw [show Int.fdiv (d : Int) 5184 = ((d / 5184 : Nat) : Int) from fdiv_nat]
  refine WV_cut (fun v mq Hq => mq = m3 ∧ Hq = H1 ∧ ∃ z : Nat, v = .int (z : Int)) ?_ ?_
  · refine W_IfExp ?_
    refine WT_Compare ?_
    refine W_Name vk3 ?_
    refine W_int ?_
    refine WCmp_eq ?_
    refine WTr_bool ?_
    refine ite_dec (fun _ => ?_) (fun _ => ?_)
    · exact W_int ⟨rfl, rfl, 2, rfl⟩
    · exact W_int ⟨rfl, rfl, 1, rfl⟩
  intro v mq Hq q
  obtain ⟨rfl, rfl, z, rfl⟩ := q
  refine WBin_add ?_
  refine W_CallB D.blt.len (kindS rfl) ?_
  refine WItems_cons ?_
  refine W_Name vn3 ?_
  refine WItems_nil ?_
  refine WCall_lenL hxs1 (by rw [List.length_map]; lia) ?_
  rw [List.length_map, hn]
  refine WBin_mod hroom (by lia) ?_
  rw [show ((d / 5184 : Nat) : Int) + (z : Int) = ((d / 5184 + z : Nat) : Int) by push_cast; rfl, fmod_nat]
  have hj : (d / 5184 + z) % n < n := Nat.mod_lt _ hn0
  generalize (d / 5184 + z) % n = j at hj ⊢
  refine contQ_next ?_
  have o4 : offL L6.hL m (setL mq "j" (.int (j : Int))) := o3.put (by decide)
  have vk4 : setL mq "j" (.int (j : Int)) "kind" = some (.int (kd : Int)) := by walk_at "lk"
  have vkt4 : setL mq "j" (.int (j : Int)) "key" = some (.ref kt) := by walk_at "lk"
  have vi4 : setL mq "j" (.int (j : Int)) "i" = some (.int (i : Int)) := by walk_at "lk"
  have vj4 : setL mq "j" (.int (j : Int)) "j" = some (.int (j : Int)) := setL_same
  generalize setL mq "j" (.int (j : Int)) = m4 at o4 vk4 vkt4 vi4 vj4 ⊢
  -- lays
  refine W_cons' ?_
  refine W_Assign ?_ ?s0 ?s1
  case s0 => exact stor rfl
  case s1 => rfl
  refine WV_cut (fun v m5 H5 => m5 = m4 ∧ Ext Hq H5 ∧ v = .bool (decide (2 < kd) && !ps.isEmpty)) ?_ ?_
  · refine W_AndC ?_
    refine W_Compare ?_
    refine W_Name vk4 ?_
    refine W_int ?_
    refine WCmp_gt ⟨decide (2 < kd), ?_, ?_⟩
    · rw [V.bool.injEq, decide_eq_decide]; lia
    cases decide (2 < kd) with
    | false => exact ⟨rfl, Ext.refl _, rfl⟩
    | true =>
      rw [if_pos rfl]
      refine W_And1 ?_
      refine W_Compare ?_
      refine W_Name vkt4 ?_
      refine W_Tuple ?_
      refine WItems_nil ⟨by simp, fun e he => ?_⟩
      refine WCmp_neD (da := .tuple ((ps.map (·.1)).map .str)) (db := .tuple []) (r := !ps.isEmpty) (rdNames (upd_fresh he hkt)) ⟨e, [], rfl, upd_same, rfl⟩ (goodNames fun x hx => ?_) rfl (Nat.le_trans (Nat.min_le_right _ _) (by simp [PyData.depth, PyData.depthAll])) hu64 (by cases ps <;> simp) ⟨rfl, Ext.upd he, by rw [Bool.true_and]⟩
      obtain ⟨q, hq, rfl⟩ := List.mem_map.mp hx
      exact hnm q hq
  intro v m5 H5 q
  obtain ⟨rfl, hE5, rfl⟩ := q
  have hkt5 := hE5 _ _ hkt
  generalize hly : (decide (2 < kd) && !ps.isEmpty) = ly
  refine contQ_next ?_
  have o5 : offL L6.hL m (setL m5 "lays" (.bool ly)) := o4.put (by decide)
  have vk5 : setL m5 "lays" (.bool ly) "kind" = some (.int (kd : Int)) := by walk_at "lk"
  have vkt5 : setL m5 "lays" (.bool ly) "key" = some (.ref kt) := by walk_at "lk"
  have vi5 : setL m5 "lays" (.bool ly) "i" = some (.int (i : Int)) := by walk_at "lk"
  have vj5 : setL m5 "lays" (.bool ly) "j" = some (.int (j : Int)) := by walk_at "lk"
  have vl5 : setL m5 "lays" (.bool ly) "lays" = some (.bool ly) := setL_same
  generalize setL m5 "lays" (.bool ly) = m6 at o5 vk5 vkt5 vi5 vj5 vl5 ⊢
  -- names
  refine W_cons' ?_
  refine W_Assign ?_ ?s0 ?s1
  case s0 => exact stor rfl
  case s1 => exact swaps_IfExp
  refine W_IfExp ?_
  refine WT_plain ?_
  refine W_Name vl5 ?_
  refine WTr_bool ?_
  have hE := hE1.trans hE5
  cases ly with
  | true =>
    refine iteT ?_
    refine W_SubSlice ?_
    refine W_Name vkt5 ?_
    refine WPart_none ?_
    refine WPart_some ?_
    refine W_UnaryOp ?_
    refine W_int ?_
    refine WUn_neg ⟨_, rfl, kt, rfl, .inr ⟨_, hkt5, by rw [strsV_length, hz]; lia, fun nt H6 hE6 hnt => ?_⟩⟩
    rw [sliceV_dropLast'] at hnt
    refine contQ_next ?_
    refine h _ H6 kd i j true kt nt ps ps.dropLast ⟨?_, ?_, ?_, ?_, ?_, setL_same⟩ ⟨hE6 _ _ hkt5, ?_, hnm, hlen, hly.symm, rfl⟩ (hE.trans hE6) (o5.put (by decide)) hkd hi hj
    · walk_at "lk"
    · walk_at "lk"
    · walk_at "lk"
    · walk_at "lk"
    · walk_at "lk"
    · rw [hnt]; unfold strsV; rw [List.map_dropLast]
  | false =>
    refine iteF ?_
    refine W_Name vkt5 ?_
    refine contQ_next ?_
    refine h _ H5 kd i j false kt kt ps ps ⟨?_, ?_, ?_, ?_, ?_, setL_same⟩ ⟨hkt5, hkt5, hnm, hlen, hly.symm, rfl⟩ hE (o5.put (by decide)) hkd hi hj
    · walk_at "lk"
    · walk_at "lk"
    · walk_at "lk"
    · walk_at "lk"
    · walk_at "lk"
end
section
noncomputable abbrev L6.wL : List Str := ["way", "barred"]
noncomputable def barredR (w : Way) (r : LR) : Bool := pre r.w w && decide (r.k ≠ .table)
set_option maxHeartbeats 1000000 in
theorem L6.way_ok {k : Wk} {m : Loc} {H : AHeap} {S7 S8 : Stmt} {rest : List Stmt} {C fI fG fA fK fD fR fS fL nA rA gA kt nt : Addr} {rows : List LR} {n : Nat} {VA : Vals} {G : Ghost} {gv : List Way} {dd kd i j : Nat} {ly : Bool} {ps qs : List (Str × Tok)} {Q : Flow → Loc → AHeap → Prop} [sv : SEnv k (fnScope L6.fLaw) (cellNames (fnScope L6.fLaw).names)]
    (h7 : S7 = stm L6.lp 7) (h8 : S8 = stm L6.lp 8) (D : L6.Defs k.c C fI fG fA fK fD fR fS fL) (hA : Room k.A) (hA' : k.A.depth ≤ 500 ∧ k.A.units ≤ 1500) (V0 : L6.LV nA rA gA m) (X : LH6 C nA rA gA rows rows n VA G gv dd H) (hdd : dd ≤ 100) (W0 : L6.HV C nA kd i j ly kt nt m) (K : L6.KV ps qs ly kd kt nt H)
    (h : ∀ m' H' wv bA acc, m' "way" = some wv → IsWay H' (walkW rows (decide (kd ≠ 2)) (i, []) (qs.map (·.1))).1 wv → m' "barred" = some (.ref bA) → H' bA = some (.list acc) → RowsIn H' acc (rows.filter (barredR (walkW rows (decide (kd ≠ 2)) (i, []) (qs.map (·.1))).1)) → Ext H H' → offL L6.wL m m' → W k (execs rest k.env) m' H' Q) : W k (execs (S7 :: S8 :: rest) k.env) m H Q := by
  subst h7; subst h8
  have hh : k.A.handled = none := hA.handled
  have hz : sizeLine = _ := sizeLine_eq
  have hu64 : k.A.units + 64 < cLine := Nat.lt_of_le_of_lt (m := 2070) (by lia) (by decide)
  obtain ⟨fo, fd, hfo, hfd⟩ := D.rew.obj
  obtain ⟨vs, hvs, hR, _⟩ := id X.rws
  have hqm : ∀ x ∈ qs.map (·.1), isNm x = true := fun x hx => by
    obtain ⟨q, hq, rfl⟩ := List.mem_map.mp hx
    rw [K.qsE] at hq
    split at hq
    · exact K.nm q (List.mem_of_mem_take (by rw [← List.dropLast_eq_take]; exact hq))
    · exact K.nm q hq
  have hql : qs.length ≤ 5 := by
    have := K.len
    rw [K.qsE]
    split
    · rw [List.length_dropLast]; lia
    · exact this
  have hcnt := X.cnt
  have hok : ∀ r ∈ rows, okW r.w = true := fun r hr => okW_nm (X.nm r hr)
  have hlen : ∀ r ∈ rows, r.w.2.length ≤ 1000 := fun r hr => Nat.le_trans (X.len r hr) (by decide)
  refine W_cons' ?_
  refine W_Assign ?_ ?s0 ?s1
  case s0 => exact stor rfl
  case s1 => rfl
  refine W_CallF D.gRew (kindS rfl) hfo hfd ?_
  refine WItems_cons ?_
  refine W_BinOp ?_
  refine W_Tuple ?_
  refine WItems_cons ?_
  refine W_Name W0.vi ?_
  refine WItems_nil ⟨by simp [hz], fun tA htA => ?_⟩
  refine W_Name W0.vnm ?_
  refine WBin_addT upd_same (upd_fresh htA K.hn) (by rw [strsV_length, hz]; simp; lia) fun p H1 hE1 hp => ?_
  have hE01 := (Ext.upd (x := .tup [.int (i : Int)]) htA).trans hE1
  refine WItems_cons ?_
  refine W_Name V0.vr ?_
  refine WItems_cons ?_
  refine W_Compare ?_
  refine W_Name W0.vk ?_
  refine W_int ?_
  refine WCmp_ne ?_
  rw [show decide ((kd : Int) ≠ 2) = decide (kd ≠ 2) by rw [decide_eq_decide]; lia]
  refine WItems_nil ?_
  refine FnV.mono (L6.rew_ok (w := (i, qs.map (·.1))) D.blt D.rew hA ⟨by lia, by lia⟩ ⟨p, qs, rfl, hp, rfl⟩ (hE01 _ _ hvs) (hR.ext hE01) X.ok hok (okW_nm hqm) hlen (fun r hr => by have := X.gcnt r hr; lia) (by show (qs.map (·.1)).length ≤ 1000; rw [List.length_map]; lia) (by lia)) (fun wv H2 q => ?_) (fun _ _ _ q => q.elim)
  obtain ⟨hE2, hw⟩ := q
  have hE02 := hE01.trans hE2
  have hwl : (walkW rows (decide (kd ≠ 2)) (i, []) (qs.map (·.1))).1.2.length ≤ 1000 := by
    have := walkW_length (rows := rows) (ls := decide (kd ≠ 2)) (qs.map (·.1)) (i, [])
    rw [List.length_map] at this
    simp at this
    lia
  have hwo : okW (walkW rows (decide (kd ≠ 2)) (i, []) (qs.map (·.1))).1 = true := okW_nm (walkW_names (P := fun x => isNm x = true) _ _ (fun x hx => by cases hx) hqm)
  show contQ _ _ _ _ _ _
  generalize (walkW rows (decide (kd ≠ 2)) (i, []) (qs.map (·.1))).1 = wf at hw hwl hwo h ⊢
  refine contQ_next ?_
  have o1 : offL L6.wL m (setL m "way" wv) := (offL.refl _ _).put (by decide)
  have vw1 : setL m "way" wv "way" = some wv := setL_same
  generalize setL m "way" wv = m1 at o1 vw1 ⊢
  have V1 := V0.of o1 (by decide)
  refine W_cons' ?_
  refine W_Assign_ListComp ?s0 ?s1 ?s2 ?s3 ?s4 ?s5 ?_
  case s0 => rfl
  case s1 => rfl
  case s2 => rfl
  case s3 => rfl
  case s4 => rfl
  case s5 => rfl
  refine W_Name V1.vr ?_
  refine LC.rows (p := barredR wf) rfl hh (by decide) (by decide) (hE02 _ _ hvs) (hR.ext hE02) (by lia) (fun kc hkc i' r v mc H3 hr hri hE3 hcap hx => ?_) (fun fA acc H3 hE3 hfA hacc => ?_)
  · haveI sv1 := hkc.senv (sc := fnScope L6.fLaw) (cn := cellNames (fnScope L6.fLaw).names)
    have hrm := List.mem_of_getElem? hr
    refine WT_And ?_
    refine W_allTrue_and ?_
    refine WT_pre rfl rfl rfl rfl rfl rfl (by rw [hkc.c]; exact D.blt.len) (kindS rfl) hx hri (hcap.get vw1 (by rfl)) (hw.ext fun a xs e => hE3 _ _ e) (hok r hrm) hwo hwl (hlen r hrm) (by rw [hkc.A]; exact hu64) fun H4 hE4 => ?_
    have hri4 := hri.ext hE4
    cases hp : pre r.w wf with
    | false => exact iteF ⟨rfl, by simp [barredR, hp], hE4⟩
    | true =>
      refine iteT ?_
      refine W_allTrue_and ?_
      refine WT_Compare ?_
      refine W_row1 rfl hx hri4 (fun t => ?_) (by decide) (by decide)
      refine W_str fun t2 _ => ?_
      refine WCmp_neS ?_
      refine WTr_bool ?_
      refine ite_dec (fun hd => ?_) (fun hd => ?_)
      · have : r.k ≠ .table := fun e => hd (by rw [e]; rfl)
        exact W_allTrue_nilA ⟨rfl, by simp [barredR, hp, this], hE4⟩
      · have : r.k = .table := kn_inj (Classical.not_not.mp hd)
        exact ⟨rfl, by simp [barredR, this], hE4⟩
  refine contQ_next ?_
  refine h _ _ wv fA acc ?_ (hw.ext fun a xs e => (hE3.trans (Ext.upd hfA)) _ _ e) setL_same upd_same (hacc.ext (Ext.upd hfA)) (hE02.trans (hE3.trans (Ext.upd hfA))) (o1.put (by decide))
  walk_at "lk"
end
section
noncomputable def tryElse : Stmt → List Stmt
  | .Try _ _ e _ _ => e
  | _ => []
noncomputable abbrev L6.el : List Stmt := tryElse (stm L6.lp 9)
theorem L6.note_ok {k : Wk} {m : Loc} {H : AHeap} {S0 S1 : Stmt} {rest : List Stmt} {C fI fG fA fK fD fR fS fL nA rA gA bA : Addr} {rp rows : List LR} {n : Nat} {VA : Vals} {G : Ghost} {gv : List Way} {dd : Nat} {wf : Way} {wv : V} {Q : Flow → Loc → AHeap → Prop} [sv : SEnv k (fnScope L6.fLaw) (cellNames (fnScope L6.fLaw).names)]
    (h0 : S0 = stm L6.el 0) (h1 : S1 = stm L6.el 1) (D : L6.Defs k.c C fI fG fA fK fD fR fS fL) (hA : Room k.A) (hA' : k.A.depth ≤ 500 ∧ k.A.units ≤ 1500) (V0 : L6.LV nA rA gA m) (X : LH6 C nA rA gA rp rows n VA G gv dd H) (hdd : dd ≤ 100) (hgl : gv.length + 1 ≤ dd)
    (vw : m "way" = some wv) (hwv : IsWay H wf wv) (vb : m "barred" = some (.ref bA)) (hbA : H bA = some (.list [])) (vne : m "nest" = some (VA wf)) (ht : isTab rows wf) (hi : wf.1 < n)
    (h : ∀ H', LH6 C nA rA gA rp rows n VA G (gv ++ [wf]) dd H' → (∀ a xs, H a = some (.tup xs) → H' a = some (.tup xs)) → W k (execs rest k.env) m H' Q) : W k (execs (S0 :: S1 :: rest) k.env) m H Q := by
  subst h0; subst h1
  have hz : sizeLine = _ := sizeLine_eq
  have hu64 : k.A.units + 64 < cLine := Nat.lt_of_le_of_lt (m := 2070) (by lia) (by decide)
  obtain ⟨a, ep, e1, e2, e3⟩ := X.hr.tab wf hi ht
  refine W_cons' ?_
  refine W_If ?_
  refine WT_Or ?_
  refine W_allTrue_or ?_
  refine WT_Compare ?_
  refine W_Name vb ?_
  refine W_List ?_
  refine WItems_nil ⟨by simp [hz], fun l hl => ?_⟩
  refine WCmp_rowsNe (rs := []) (upd_fresh hl hbA) upd_same .nil (fun r hr => by cases hr) hu64 ?_
  refine WTr_bool ?_
  refine iteF ?_
  refine W_allTrue_or ?_
  refine WT_Compare ?_
  refine W_CallT D.blt.type (kindS rfl) ?_
  refine WItems_cons ?_
  refine W_Name vne ?_
  refine WItems_nil ?_
  have X1 := X.ext (Ext.upd (x := .list []) hl)
  have e3' := upd_fresh (x := .list []) hl e3
  have hw1 := hwv.ext fun b xs e => upd_fresh (x := .list []) hl e
  have ht1 : ∀ b xs, H b = some (.tup xs) → upd H l (.list []) b = some (.tup xs) := fun b xs e => upd_fresh hl e
  generalize upd H l (.list []) = H1 at X1 e3' hw1 ht1 ⊢
  rw [e1]
  refine WCall_type (Tx := "dict") (by simp [tyOf, e3']) (by simp) ?_
  refine W_NameG D.blt.dict (kindS rfl) ?_
  refine WCmp_isNotTy ?_
  refine WTr_bool ?_
  rw [decide_eq_false (by simp)]
  refine iteF ?_
  refine W_allTrue_nilO ?_
  refine iteF ?_
  refine W_nil ?_
  refine contQ_next ?_
  obtain ⟨vs, g1, g2, _⟩ := id X1.giv
  refine W_cons' ?_
  refine W_ExprStmt ?_
  refine W_CallM' PySem.F.plainAttrs_list PySem.F.slot_list_append PySem.F.type_list_append ?_
  refine W_Name V0.vg ?_
  refine ⟨onList g1, ?_⟩
  refine WItems_cons ?_
  refine W_Tuple ?_
  refine WItems_cons ?_
  refine W_Name vw ?_
  refine WItems_cons ?_
  refine W_Name vne ?_
  refine WItems_nil ⟨by simp [hz], fun p hp => ?_⟩
  refine WItems_nil ?_
  refine WCall_append (upd_fresh hp g1) (by rw [g2, hz]; lia) ?_
  refine contQ_next ?_
  have hX : Ext H1 (upd H1 p (.tup [wv, VA wf])) := Ext.upd hp
  refine h _ (X1.give hgl g1 ht hi hX upd_same (hw1.ext fun b xs e => hX _ _ e)) fun b xs e => ?_
  have := ht1 b xs e
  exact upd_ne (fun q => by rw [q, g1] at this; cases this) (hX _ _ this)
theorem L6.size_ok {k : Wk} {m : Loc} {H : AHeap} {S2 : Stmt} {C fI fG fA fK fD fR fS fL nA rA gA : Addr} {rp rows : List LR} {n : Nat} {VA : Vals} {G : Ghost} {gv : List Way} {dd : Nat} {wf : Way} {wv : V} {Q : Flow → Loc → AHeap → Prop} [sv : SEnv k (fnScope L6.fLaw) (cellNames (fnScope L6.fLaw).names)]
    (h2 : S2 = stm L6.el 2) (D : L6.Defs k.c C fI fG fA fK fD fR fS fL) (hA : Room k.A) (hA' : k.A.depth ≤ 500 ∧ k.A.units ≤ 1500) (V0 : L6.LV nA rA gA m) (X : LH6 C nA rA gA rp rows n VA G gv dd H) (hdd : dd ≤ 100) (hrows : rows = addT wf.1 rp [] wf.2) (hrl : ∀ i, (addT wf.1 rp [] (wf.2.take i)).length ≤ 100000)
    (vw : m "way" = some wv) (hwv : IsWay H wf wv) (hwn : ∀ x ∈ wf.2, isNm x = true) (hwl : wf.2.length ≤ 10)
    (h : ∀ m' H' G', LH6 C nA rA gA rows rows n VA G' gv dd H' → (∀ a xs, H a = some (.tup xs) → H' a = some (.tup xs)) → offL ["size"] m m' → Q .next m' H') : W k (exec S2 k.env) m H Q := by
  subst h2
  have hh : k.A.handled = none := hA.handled
  have hz : sizeLine = _ := sizeLine_eq
  have hu64 : k.A.units + 64 < cLine := Nat.lt_of_le_of_lt (m := 2070) (by lia) (by decide)
  obtain ⟨wa, ps, rfl, hwa, hps⟩ := hwv.tup
  have hpl : ps.length = wf.2.length := by rw [← hps, List.length_map]
  have hokw : okW wf = true := okW_nm hwn
  refine W_For ?h ?hs
  case hs => intro y; rfl
  refine W_CallT D.blt.range (kindS rfl) ?_
  refine WItems_cons ?_
  refine W_int ?_
  refine WItems_cons ?_
  refine W_BinOp ?_
  refine W_CallB D.blt.len (kindS rfl) ?_
  refine WItems_cons ?_
  refine W_Name vw ?_
  refine WItems_nil ?_
  refine WCall_lenT hwa (by simp only [List.length_cons, strsV_length]; lia) ?_
  refine W_int ?_
  refine WBin_add ?_
  rw [List.length_cons, strsV_length, hpl, show ((wf.2.length + 1 : Nat) : Int) + 1 = ((wf.2.length + 2 : Nat) : Int) by push_cast; lia, show (2 : Int) = ((2 : Nat) : Int) from rfl]
  refine WItems_nil ?_
  refine WCall_range2 fun rg hrg => ?_
  have X1 := X.ext (Ext.upd (x := .range ((2 : Nat) : Int) ((wf.2.length + 2 : Nat) : Int) 1) hrg)
  have ht1 : ∀ b xs, H b = some (.tup xs) → upd H rg (.range ((2 : Nat) : Int) ((wf.2.length + 2 : Nat) : Int) 1) b = some (.tup xs) := fun b xs e => upd_fresh hrg e
  refine ⟨_, _, _, fun i m' H' => offL ["size"] m m' ∧ ∃ G', LH6 C nA rA gA (addT wf.1 rp [] (wf.2.take i)) rows n VA G' gv dd H' ∧ ∀ a xs, H a = some (.tup xs) → H' a = some (.tup xs), WIter_range hh upd_same (small_ft (a := 2) (b := wf.2.length + 2) (by lia) (by lia)), ⟨offL.refl _ _, G, by rw [List.take_zero]; exact X1, ht1⟩, fun _ _ _ _ => trivial, ?_, ?_⟩
  · intro i v m' H' hi hR hI
    obtain ⟨ho, G', XI, ht⟩ := hI
    rw [rangeN_ft (by lia)] at hi
    have hi' : i < wf.2.length := by lia
    obtain rfl : v = .int ((i + 2 : Nat) : Int) := by rw [hR]; push_cast; congr 1; lia
    refine WAs_Name ?s0 ?_
    case s0 => exact stor rfl
    refine W_hide fun QL hQL => ?_
    have o2 : offL ["size"] m (setL m' "size" (.int ((i + 2 : Nat) : Int))) := ho.put (by decide)
    have vs2 : setL m' "size" (.int ((i + 2 : Nat) : Int)) "size" = some (.int ((i + 2 : Nat) : Int)) := setL_same
    generalize setL m' "size" (.int ((i + 2 : Nat) : Int)) = m2 at o2 vs2 ⊢
    have vw2 := (o2 "way" (by decide)).trans vw
    have V2 := V0.of o2 (by decide)
    have hwa' := ht _ _ hwa
    obtain ⟨vs, r1, r2, r3⟩ := id XI.rws
    have htk : wf.2.take (i + 1) = wf.2.take i ++ [wf.2[i]] := by rw [List.take_add_one, List.getElem?_eq_getElem hi']; rfl
    have hstep : addT wf.1 rp [] (wf.2.take (i + 1)) = if rowAt (addT wf.1 rp [] (wf.2.take i)) (wf.1, wf.2.take (i + 1)) = none then addT wf.1 rp [] (wf.2.take i) ++ [⟨(wf.1, wf.2.take (i + 1)), .table, []⟩] else addT wf.1 rp [] (wf.2.take i) := by
      rw [htk, addT_snoc, List.nil_append]
    have hmem : ∀ r ∈ addT wf.1 rp [] (wf.2.take (i + 1)), r ∈ rows := fun r hr => by
      have := addT_mono (wf.2.drop (i + 1)) _ r hr
      rwa [List.take_append_drop, ← hrows] at this
    refine W_cons' ?_
    refine W_If ?_
    refine WT_Compare ?_
    refine W_SubSlice ?_
    refine W_Name vw2 ?_
    refine WPart_none ?_
    refine WPart_some ?_
    refine W_Name vs2 ?_
    refine ⟨_, rfl, wa, rfl, .inr ⟨_, hwa', by rw [hz]; simp only [List.length_cons, strsV_length]; lia, fun b H1 hE1 hb => ?_⟩⟩
    rw [sliceV_take] at hb
    have hb1 := IsWay.take_ (l := i + 1) hps hb
    refine W_ListComp ?s0 ?s1 ?s2 ?_
    case s0 => rfl
    case s1 => rfl
    case s2 => rfl
    refine W_Name V2.vr ?_
    refine LC.rowsG (fun H r v => IsWay H r.w v) (fun H H' r v hE q => q.ext fun a xs e => hE _ _ e) (fun _ => true) hh (hE1 _ _ r1) (r2.ext hE1) (hrl i) (fun kc hkc i' r v mc H2 hr _ hri hE2 hcap hx => ?_) (fun c acc H2 hE2 hc hacc => ?_)
    · refine W_tests_nil ⟨rfl, rfl, Ext.refl _, fun _ => ?_⟩
      exact W_row0 rfl hx hri (fun rv hrv => ⟨rfl, Ext.refl _, hrv⟩) (by decide) (by decide)
    rw [List.filter_eq_self.mpr (fun _ _ => rfl)] at hacc
    have hE12 := hE1.trans (hE2.trans (Ext.upd (x := .list acc) hc))
    have hE2' := hE2.trans (Ext.upd (x := .list acc) hc)
    refine WCmp_notInWays (w := (wf.1, wf.2.take (i + 1))) (ws := (addT wf.1 rp [] (wf.2.take i)).map (·.w)) upd_same (by rw [List.length_map]; exact hacc.len) (fun j v u q1 q2 => ?_) (hb1.ext fun a xs e => hE2' _ _ e) (fun u hu => ?_) (okW_take hokw _) hu64 ?_
    · rw [List.getElem?_map, Option.map_eq_some_iff] at q2
      obtain ⟨r, q2, rfl⟩ := q2
      exact (hacc.at_ j v r q1 q2).ext fun a xs e => upd_fresh hc e
    · obtain ⟨r, hr, rfl⟩ := List.mem_map.mp hu
      exact okW_nm (XI.nm r (XI.sub r hr))
    have X2 := XI.ext hE12
    have ht2 : ∀ a xs, H a = some (.tup xs) → upd H2 c (.list acc) a = some (.tup xs) := fun a xs e => hE12 _ _ (ht a xs e)
    have hwa2 := ht2 _ _ hwa
    have r1' := hE12 _ _ r1
    generalize upd H2 c (.list acc) = H3 at X2 ht2 hwa2 r1' ⊢
    refine WTr_bool ?_
    refine ite_dec (fun hnot => ?_) (fun hin => ?_)
    · have hnone := rowAt_none_iff.mpr hnot
      rw [if_pos hnone] at hstep
      refine W_cons' ?_
      refine W_ExprStmt ?_
      refine W_CallM' PySem.F.plainAttrs_list PySem.F.slot_list_append PySem.F.type_list_append ?_
      refine W_Name V2.vr ?_
      refine ⟨onList r1', ?_⟩
      refine WItems_cons ?_
      refine W_Tuple ?_
      refine WItems_cons ?_
      refine W_SubSlice ?_
      refine W_Name vw2 ?_
      refine WPart_none ?_
      refine WPart_some ?_
      refine W_Name vs2 ?_
      refine ⟨_, rfl, wa, rfl, .inr ⟨_, hwa2, by rw [hz]; simp only [List.length_cons, strsV_length]; lia, fun b2 H4 hE4 hb2 => ?_⟩⟩
      rw [sliceV_take] at hb2
      have hb3 := IsWay.take_ (l := i + 1) hps hb2
      refine WItems_cons ?_
      refine W_str fun t _ => ?_
      refine WItems_cons ?_
      refine W_List ?_
      refine WItems_nil ⟨by simp [hz], fun gl hgl => ?_⟩
      refine WItems_nil ⟨by simp [hz], fun tA htA => ?_⟩
      refine WItems_nil ?_
      have hE5 := hE4.trans ((Ext.upd (x := .list []) hgl).trans (Ext.upd (x := .tup [.ref b2, .str "table" t, .ref gl]) htA))
      have hgl3 : H3 gl = none := none_less hE4 hgl
      have hGgl : G' gl = none := by
        cases e : G' gl with
        | none => rfl
        | some u => exact absurd hgl3 (X2.live e)
      refine WCall_append (hE5 _ _ r1') (by rw [hz]; have := r2.len; have := hrl i; lia) ?_
      refine contQ_next ?_
      refine W_nil ?_
      refine contQ_next ?_
      refine W_nil ?_
      refine hQL _ _ _ (loopQ_next ⟨o2, updG G' gl (.goal (wf.1, wf.2.take (i + 1))), ?_, fun a xs e => ?_⟩)
      · rw [hstep]
        refine X2.tell (r := ⟨(wf.1, wf.2.take (i + 1)), .table, []⟩) (t := t) (wv := .ref b2) r1' (hmem _ (by rw [hstep]; simp)) hE5 upd_same (hb3.ext fun a xs e => upd_fresh htA (upd_fresh hgl e)) (upd_fresh htA upd_same) (.inl hGgl) (fun e => by rw [e, r1'] at hgl3; cases hgl3)
      · have := hE5 _ _ (ht2 a xs e)
        exact upd_ne (fun q => by rw [q, hE5 _ _ r1'] at this; cases this) this
    · have hsome : ¬ rowAt (addT wf.1 rp [] (wf.2.take i)) (wf.1, wf.2.take (i + 1)) = none := fun e => hin (rowAt_none_iff.mp e)
      rw [if_neg hsome] at hstep
      refine W_nil ?_
      refine contQ_next ?_
      refine W_nil ?_
      exact hQL _ _ _ (loopQ_next ⟨o2, G', by rw [hstep]; exact X2, ht2⟩)
  · intro m' H' hI
    obtain ⟨ho, G', XI, ht⟩ := hI
    rw [rangeN_ft (by lia), show wf.2.length + 2 - 2 = wf.2.length by lia, List.take_length, ← hrows] at XI
    exact h m' H' G' XI ht ho
end
section
noncomputable def lastW (w : Way) (ps : List (Str × Tok)) : Way := (w.1, w.2 ++ (ps.drop (ps.length - 1)).map (·.1))
theorem strs_append {a b : List (Str × Tok)} : strsV a ++ strsV b = strsV (a ++ b) := by unfold strsV; rw [List.map_append]
theorem strs_drop {a : List (Str × Tok)} {n : Nat} : (strsV a).drop n = strsV (a.drop n) := by unfold strsV; rw [List.map_drop]
theorem W_wayKey {k : Wk} {m : Loc} {H : AHeap} {X Y : Str} {p1 p2 p3 p4 p5 p6 p7 : Pos} {z : Nat} {n1 : Int} {w : Way} {wv : V} {kt : Addr} {ps : List (Str × Tok)} {Q : V → Loc → AHeap → Prop} (e1 : X = "way") (e2 : Y = "key") (e3 : n1 = 1) (hw : m "way" = some wv) (hwv : IsWay H w wv) (hk : m "key" = some (.ref kt)) (hkt : H kt = some (.tup (strsV ps))) (hl : ps.length ≤ 5) (hwl : w.2.length ≤ 1000)
    (h : ∀ v H', Ext H H' → IsWay H' (lastW w ps) v → Q v m H') : WV k (eval (.BinOp (.Name X p1) .Add (.Subscript (.Name Y p2) (.Slice (some (.UnaryOp .USub (.Constant (.int n1) z p3) p4)) none none p5) p6) p7) k.env) m H Q := by
  subst e1; subst e2; subst e3
  have hz : sizeLine = _ := sizeLine_eq
  obtain ⟨a, qs, rfl, ha, hqs⟩ := hwv.tup
  have hql : qs.length = w.2.length := by rw [← hqs, List.length_map]
  refine W_BinOp ?_
  refine W_Name hw ?_
  refine W_SubSlice ?_
  refine W_Name hk ?_
  refine WPart_some ?_
  refine W_UnaryOp ?_
  refine W_int ?_
  refine WUn_neg ⟨_, rfl, ?_⟩
  refine WPart_none ⟨kt, rfl, .inr ⟨_, hkt, by rw [strsV_length, hz]; omega, fun b H1 hE1 hb => ?_⟩⟩
  rw [sliceV_last, strsV_length, strs_drop] at hb
  refine WBin_addT (hE1 _ _ ha) hb (by rw [List.length_cons, strsV_length, strsV_length, List.length_drop, hz]; omega) fun p H2 hE2 hp => ?_
  rw [List.cons_append, strs_append] at hp
  exact h _ H2 (hE1.trans hE2) ⟨p, _, rfl, hp, by unfold lastW; rw [List.map_append, hqs]⟩
theorem L6.there_ok {k : Wk} {m : Loc} {H : AHeap} {S3 : Stmt} {C fI fG fA fK fD fR fS fL nA rA gA kt : Addr} {rows : List LR} {n : Nat} {VA : Vals} {G : Ghost} {gv : List Way} {dd : Nat} {wf : Way} {wv : V} {ps : List (Str × Tok)} {vs : List V} {Q : Flow → Loc → AHeap → Prop} [sv : SEnv k (fnScope L6.fLaw) (cellNames (fnScope L6.fLaw).names)]
    (h3 : S3 = stm L6.el 3) (D : L6.Defs k.c C fI fG fA fK fD fR fS fL) (hA : Room k.A) (hA' : k.A.depth ≤ 500 ∧ k.A.units ≤ 1500) (V0 : L6.LV nA rA gA m) (X : LH6 C nA rA gA rows rows n VA G gv dd H) (hdd : dd ≤ 100) (hvs : H rA = some (.list vs)) (hR : RowsIn H vs rows)
    (vw : m "way" = some wv) (hwv : IsWay H wf wv) (hwn : ∀ x ∈ wf.2, isNm x = true) (hwl : wf.2.length ≤ 10) (vk : m "key" = some (.ref kt)) (hkt : H kt = some (.tup (strsV ps))) (hpn : ∀ q ∈ ps, isNm q.1 = true) (hpl : ps.length ≤ 5)
    (h : ∀ tA acc H', H tA = none → H' tA = some (.list acc) → All2 (fun r v => RowIs H' r v ∧ ∃ i : Nat, vs[i]? = some v ∧ rows[i]? = some r) acc (rows.filter fun r => decide (r.w = lastW wf ps)) → Ext H H' → Q .next (setL m "there" (.ref tA)) H') : W k (exec S3 k.env) m H Q := by
  subst h3
  have hh : k.A.handled = none := hA.handled
  have hz : sizeLine = _ := sizeLine_eq
  have hu64 : k.A.units + 64 < cLine := Nat.lt_of_le_of_lt (m := 2070) (by lia) (by decide)
  have hcnt := X.cnt
  have hlw : okW (lastW wf ps) = true := okW_nm fun x hx => by
    rcases List.mem_append.mp hx with hx | hx
    · exact hwn x hx
    · obtain ⟨q, hq, rfl⟩ := List.mem_map.mp hx
      exact hpn q (List.mem_of_mem_drop hq)
  refine W_Assign_ListComp ?s0 ?s1 ?s2 ?s3 ?s4 ?s5 ?_
  case s0 => rfl
  case s1 => rfl
  case s2 => rfl
  case s3 => rfl
  case s4 => rfl
  case s5 => rfl
  refine W_Name V0.vr ?_
  refine LC.rowsG (fun H r v => RowIs H r v ∧ ∃ i : Nat, vs[i]? = some v ∧ rows[i]? = some r) (fun H H' r v hE q => ⟨q.1.ext hE, q.2⟩) (fun r => decide (r.w = lastW wf ps)) hh hvs hR (by lia) (fun kc hkc i' r v mc H2 hr hv hri hE2 hcap hx => ?_) (fun c acc H2 hE2 hc hacc => ?_)
  · haveI sv1 := hkc.senv (sc := fnScope L6.fLaw) (cn := cellNames (fnScope L6.fLaw).names)
    have hrm := List.mem_of_getElem? hr
    refine W_tests_one ?_
    refine WT_Compare ?_
    refine W_row0 rfl hx hri (fun rv hrv => ?_) (by decide) (by decide)
    refine W_wayKey rfl rfl rfl (hcap.get vw (by rfl)) (hwv.ext fun a xs e => hE2 _ _ e) (hcap.get vk (by rfl)) (hE2 _ _ hkt) hpl (by lia) fun v2 H3 hE3 hv2 => ?_
    refine WCmp_eqWay (hrv.ext fun a xs e => hE3 _ _ e) hv2 (okW_nm (X.nm r hrm)) hlw (by rw [hkc.A]; exact hu64) ?_
    refine WTr_bool ⟨rfl, rfl, hE3, fun _ => ?_⟩
    exact W_Name hx ⟨rfl, Ext.refl _, hri.ext hE3, i', hv, hr⟩
  exact h c acc _ (none_less hE2 hc) upd_same (hacc.mono fun r v q => ⟨q.1.ext (Ext.upd hc), q.2⟩) (hE2.trans (Ext.upd hc))
noncomputable abbrev L6.e4 : Stmt := stm L6.el 4
noncomputable def ifBody : Stmt → List Stmt
  | .If _ b _ _ => b
  | _ => []
noncomputable def ifElse : Stmt → List Stmt
  | .If _ _ e _ => e
  | _ => []
theorem seq_last {l : List V} {v : V} : seqIndex? (-1) (l ++ [v]).length = some l.length := by
  simp only [seqIndex?, List.length_append, List.length_cons, List.length_nil]
  rw [if_pos (show (-1 : Int) < 0 by decide), if_pos (by simp; omega)]
  congr 1
  omega
theorem L6.nestOf {k : Wk} {m : Loc} {H : AHeap} {C fI nA n : Nat} {VA : Vals} {X J : Str} {j : Nat} {p1 p2 p3 p4 : Pos} {Q : V → Loc → AHeap → Prop} (hC : ClsAt k.c C fI) (e1 : X = "nests") (hN : NestsAt H VA C nA n) (hj : j < n) (hn6 : n ≤ 6) (vn : m "nests" = some (.ref nA)) (vj : m J = some (.int (j : Int))) (hv : ∃ d, VA (j, []) = .ref d) (h : Q (VA (j, [])) m H) (hd : (J == ("__debug__" : Str)) = false) (hc : (J == ("__classdict__" : Str)) = false)
    (he : eval (.Attribute (.Subscript (.Name X p1) (.Name J p2) p3) ("dict" : Str) p4) k.env = (do
      let o ← eval (.Subscript (.Name X p1) (.Name J p2) p3) k.env
      standAt p4.atName
      let r ← holding [o] (getAttr o ("dict" : Str) true)
      letTemporaryGo (.Subscript (.Name X p1) (.Name J p2) p3) o r
      pure r) := by with_unfolding_all rfl) : WV k (eval (.Attribute (.Subscript (.Name X p1) (.Name J p2) p3) ("dict" : Str) p4) k.env) m H Q := by
  subst e1
  obtain ⟨xs, n1, n2, n3⟩ := hN
  have hx : xs[j]? = some (xs[j]'(n2 ▸ hj)) := List.getElem?_eq_getElem _
  obtain ⟨dx, q1, q2⟩ := n3 j _ hx
  refine W_getDictE ?_ he
  refine W_Subscript ?_
  refine W_Name vn ?_
  refine W_Name vj ?_ hd hc
  refine WSub_list n1 (Int.natCast_nonneg j) (by omega) (v := .ref (xs[j]'(n2 ▸ hj))) (by rw [Int.toNat_natCast, List.getElem?_map, hx]; rfl) ?_
  obtain ⟨d, hv⟩ := hv
  exact ⟨_, C, dx, fI, _, rfl, hC, q1, q2, (fun i e => by rw [hv] at e; cases e), h⟩
theorem L6.app_ok {k : Wk} {m : Loc} {H : AHeap} {S0 S1 : Stmt} {C fI fG fA fK fD fR fS fL nA rA gA kt tA : Addr} {rows : List LR} {n : Nat} {VA : Vals} {G : Ghost} {gv : List Way} {dd j : Nat} {wf : Way} {ps : List (Str × Tok)} {x : Str} {xt : Tok} {vs acc : List V} {r : LR} {Q : Flow → Loc → AHeap → Prop} [sv : SEnv k (fnScope L6.fLaw) (cellNames (fnScope L6.fLaw).names)]
    (h0 : S0 = stm (ifBody L6.e4) 0) (h1 : S1 = stm (ifBody L6.e4) 1) (D : L6.Defs k.c C fI fG fA fK fD fR fS fL) (V0 : L6.LV nA rA gA m) (X : LH6 C nA rA gA rows rows n VA G gv dd H) (hdd : dd ≤ 100) (hgc : ∀ r ∈ rows, r.g.length + 1 ≤ dd + 3) (hvs : H rA = some (.list vs))
    (vk : m "key" = some (.ref kt)) (hkt : H kt = some (.tup (strsV (ps ++ [(x, xt)])))) (hpl : ps.length ≤ 5) (vj : m "j" = some (.int (j : Int))) (hj : j < n) (vne : m "nest" = some (VA wf)) (ht : isTab rows wf) (hi : wf.1 < n)
    (vt : m "there" = some (.ref tA)) (htG : G tA = none) (htA : H tA = some (.list acc)) (hacc : All2 (fun r v => RowIs H r v ∧ ∃ i : Nat, vs[i]? = some v ∧ rows[i]? = some r) acc [r]) (hrw : r.w = (wf.1, wf.2 ++ [x])) (hk : r.k = .list)
    (h : ∀ H', LH6 C nA rA gA (rows.map (addG r.w j)) (rows.map (addG r.w j)) n VA G gv dd H' → Q .next m H') : W k (execs [S0, S1] k.env) m H Q := by
  subst h0; subst h1
  have hz : sizeLine = _ := sizeLine_eq
  have hn6 := X.n6
  obtain ⟨b, ep, e1, e2, e3⟩ := X.hr.tab wf hi ht
  obtain ⟨d, _, hvd, _⟩ := X.hr.tab (j, []) hj (.inl rfl)
  obtain ⟨v0, hv0⟩ : ∃ v, acc[0]? = some v := ⟨_, List.getElem?_eq_getElem (by rw [hacc.len]; simp)⟩
  obtain ⟨⟨a0, wv0, gl, t0, rfl, ha0, hwv0, hgl⟩, i0, hi0, hri⟩ := hacc.at_ 0 v0 r hv0 rfl
  have hr := List.mem_of_getElem? hri
  have hx := X.hr.val r hr
  unfold LeadsR at hx
  simp only [hk] at hx
  obtain ⟨l, x1, x2, us, x3, x4, _⟩ := hx
  have hkid : getK (kids rows VA wf) (.inr x) = some (.ref l) := by
    rw [getK_kids rows fun q hq => (X.ok.rt q hq).2, ← hrw, X.ok.at_ hr]
    show some (VA r.w) = _
    rw [x1]
  have hgcr := hgc r hr
  have hlg : gl ≠ l := fun e => by
    obtain ⟨us2, _, _, y3⟩ := X.rws
    obtain ⟨us3, y1, y2, y3⟩ := X.rws
    obtain rfl : us3 = vs := by rw [hvs] at y1; exact (AObj.list.inj (Option.some.inj y1)).symm
    obtain ⟨a, wv, gq, t, q1, q2, q3⟩ := y3 i0 _ r hi0 hri
    cases q1
    rw [ha0] at q2
    have := AObj.tup.inj (Option.some.inj q2)
    injection this with w1 w2
    injection w2 with w3 w4
    injection w4 with w5 w6
    injection w5 with w5
    subst w5
    rw [e, x2] at q3; cases q3
  refine W_cons' ?_
  refine W_ExprStmt ?_
  refine W_CallM' PySem.F.plainAttrs_list PySem.F.slot_list_append PySem.F.type_list_append ?_
  refine W_Subscript ?_
  refine W_Name vne ?_
  refine W_Subscript ?_
  refine W_Name vk ?_
  refine W_UnaryOp ?_
  refine W_int ?_
  refine WUn_neg ?_
  refine WSub_tup (j := ps.length) (v := .str x xt) hkt (by decide) (by decide) (by have := seq_last (l := strsV ps) (v := .str x xt); rw [strsV_length] at this; rw [← this]; unfold strsV; rw [List.map_append]; rfl) (by unfold strsV; rw [List.map_append, List.getElem?_append_right (by rw [List.length_map]; exact Nat.le_refl _), List.length_map, Nat.sub_self]; rfl) ?_
  rw [e1]
  refine WSub_dict e3 (key := .inr x) (by simp [isKV]) hkid ?_
  refine ⟨onList x3, ?_⟩
  refine WItems_cons ?_
  refine L6.nestOf D.nest.kls rfl X.nests hj hn6 V0.vn vj ⟨d, hvd⟩ ?_ (by decide) (by decide)
  refine WItems_nil ?_
  refine WCall_append x3 (by rw [hz]; lia) ?_
  refine contQ_next ?_
  have kp : ∀ c y, H c = some y → c ≠ l → upd H l (.list (us ++ [VA (j, [])])) c = some y := fun c y e q => upd_ne q e
  have nlt : tA ≠ l := fun e => by rw [e, x2] at htG; cases htG
  refine W_cons' ?_
  refine W_ExprStmt ?_
  refine W_CallM' PySem.F.plainAttrs_list PySem.F.slot_list_append PySem.F.type_list_append ?_
  refine W_Subscript ?_
  refine W_Subscript ?_
  refine W_Name vt ?_
  refine W_int ?_
  refine WSub_list (kp _ _ htA nlt) (by decide) (by decide) hv0 ?_
  refine W_int ?_
  refine WSub_tup (j := 2) (kp _ _ ha0 (fun e => by rw [e, x3] at ha0; cases ha0)) (by decide) (by decide) rfl rfl ?_
  refine ⟨onList (kp _ _ hgl hlg), ?_⟩
  refine WItems_cons ?_
  refine W_Name vj ?_
  refine WItems_nil ?_
  refine WCall_append (kp _ _ hgl hlg) (by rw [List.length_map, hz]; lia) ?_
  refine contQ_next ?_
  refine W_nil ?_
  exact h _ (X.app hj hgc hk x1 x3 hvs hi0 hri ha0)
end
section
noncomputable abbrev L6.b2 : List Stmt := ifBody (stm (ifElse L6.e4) 0)
theorem L6.goals_ok {k : Wk} {m : Loc} {H : AHeap} {S0 S1 : Stmt} {rest : List Stmt} {C fI fG fA fK fD fR fS fL nA rA gA : Addr} {rows : List LR} {n : Nat} {VA : Vals} {G : Ghost} {gv : List Way} {dd kd place j : Nat} {Q : Flow → Loc → AHeap → Prop} [sv : SEnv k (fnScope L6.fLaw) (cellNames (fnScope L6.fLaw).names)]
    (h0 : S0 = stm L6.b2 0) (h1 : S1 = stm L6.b2 1) (D : L6.Defs k.c C fI fG fA fK fD fR fS fL) (hA : Room k.A) (hroom : Roomy k) (V0 : L6.LV nA rA gA m) (X : LH6 C nA rA gA rows rows n VA G gv dd H)
    (vk : m "kind" = some (.int (kd : Int))) (vp : m "place" = some (.int (place : Int))) (vj : m "j" = some (.int (j : Int))) (hj : j < n)
    (h : ∀ m' H' gl lA, m' "goals" = some (.ref gl) → m' "laid" = some (.ref lA) → H gl = none → H' gl = some (.list ((goalsK kd place j).map .int)) → H lA = none → gl ≠ lA → LaidIs VA H H' (goalsK kd place j) lA → Ext H H' → offL ["goals", "laid"] m m' → W k (execs rest k.env) m' H' Q) : W k (execs (S0 :: S1 :: rest) k.env) m H Q := by
  subst h0; subst h1
  have hh : k.A.handled = none := hA.handled
  have hz : sizeLine = _ := sizeLine_eq
  have hn6 := X.n6
  have hgl3 := goalsK_len (kd := kd) (place := place) (j := j)
  refine W_cons' ?_
  refine W_Assign ?_ ?s0 ?s1
  case s0 => exact stor rfl
  case s1 => exact swaps_IfExp
  refine WV_cut (fun v m1 H1 => m1 = m ∧ Ext H H1 ∧ ∃ gl, v = .ref gl ∧ H gl = none ∧ H1 gl = some (.list ((goalsK kd place j).map .int))) ?_ ?_
  · refine W_IfExp ?_
    refine WT_Compare ?_
    refine W_Name vk ?_
    refine W_int ?_
    refine WCmp_eq ?_
    refine WTr_bool ?_
    refine ite_dec (fun hk => ?_) (fun hk => ?_)
    · have hk4 : kd = 4 := by lia
      refine W_BinOp ?_
      refine W_BinOp ?_
      refine W_List ?_
      refine WItems_cons ?_
      refine W_UnaryOp ?_
      refine W_int ?_
      refine WUn_neg ?_
      refine WItems_nil ⟨by simp [hz], fun a ha => ?_⟩
      refine W_BinOp ?_
      refine W_Name vp ?_
      refine W_int ?_
      refine WBin_mod hroom (by decide) ?_
      rw [show Int.fmod (place : Int) 3 = ((place % 3 : Nat) : Int) from fmod_nat]
      have hp3 : place % 3 < 3 := Nat.mod_lt _ (by decide)
      refine WBin_mulL upd_same (by lia) (by lia) (by simp; lia) (by simp) fun b hb => ?_
      refine W_List ?_
      refine WItems_cons ?_
      refine W_Name vj ?_
      refine WItems_nil ⟨by simp [hz], fun c hc => ?_⟩
      refine WBin_addL (upd_fresh hc upd_same) upd_same (by rw [Int.toNat_natCast, List.flatten_replicate_singleton, List.length_replicate, hz]; simp; lia) fun gl hgl => ?_
      have hE := (Ext.upd (x := .list [V.int (-1)]) ha).trans ((Ext.upd (x := .list (List.replicate ((place % 3 : Nat) : Int).toNat [V.int (-1)]).flatten) hb).trans (Ext.upd (x := .list [V.int (j : Int)]) hc))
      refine ⟨rfl, hE.trans (Ext.upd hgl), gl, rfl, none_less hE hgl, ?_⟩
      rw [upd_same, Int.toNat_natCast, List.flatten_replicate_singleton]
      unfold goalsK
      rw [if_pos hk4, List.map_append, List.map_replicate]; rfl
    · have hk4 : ¬ kd = 4 := by lia
      refine W_List ?_
      refine WItems_cons ?_
      refine W_Name vj ?_
      refine WItems_nil ⟨by simp [hz], fun gl hgl => ?_⟩
      refine ⟨rfl, Ext.upd hgl, gl, rfl, hgl, ?_⟩
      rw [upd_same]
      unfold goalsK
      rw [if_neg hk4]; rfl
  intro v m1 H1 q
  obtain ⟨rfl, hE1, gl, rfl, hgl0, hgl⟩ := q
  refine contQ_next ?_
  have o1 : offL ["goals", "laid"] m1 (setL m1 "goals" (.ref gl)) := (offL.refl _ _).put (by decide)
  have vg1 : setL m1 "goals" (.ref gl) "goals" = some (.ref gl) := setL_same
  generalize setL m1 "goals" (.ref gl) = m2 at o1 vg1 ⊢
  have V2 := V0.of o1 (by decide)
  generalize hgs : goalsK kd place j = gs at hgl hgl3 h ⊢
  have hbd : ∀ g ∈ gs, g < (n : Int) := by rw [← hgs]; exact goalsK_bd hj
  have X1 := X.ext hE1
  refine W_cons' ?_
  refine W_Assign_ListComp ?s0 ?s1 ?s2 ?s3 ?s4 ?s5 ?_
  case s0 => rfl
  case s1 => rfl
  case s2 => rfl
  case s3 => rfl
  case s4 => rfl
  case s5 => rfl
  refine W_Name vg1 ?_
  refine ⟨_, _, _, fun i acc H2 => Ext H1 H2 ∧ acc.length = i ∧ ∀ (t : Nat) g v, gs[t]? = some g → acc[t]? = some v → if g < 0 then ∃ e, v = .ref e ∧ H e = none ∧ H2 e = some (.dict [] 0) else v = VA (g.toNat, []), WIter_list hh hgl, ⟨Ext.refl _, rfl, fun t g v _ e => by simp at e⟩, fun i acc H2 q => q.1 _ _ hgl, by rw [List.length_map, hz]; lia, ?_, ?_⟩
  · intro kc hkc i v acc mc H2 hi hv hI hcap hx
    obtain ⟨hE2, hal, hacc⟩ := hI
    rw [List.length_map] at hi
    haveI sv1 := hkc.senv (sc := fnScope L6.fLaw) (cn := cellNames (fnScope L6.fLaw).names)
    have hgi : gs[i]? = some gs[i] := List.getElem?_eq_getElem hi
    obtain rfl : v = .int gs[i] := by rw [List.getElem?_map, hgi] at hv; exact (Option.some.inj hv).symm
    have grow : ∀ H3 u, Ext H2 H3 → (if gs[i] < 0 then ∃ e, u = .ref e ∧ H e = none ∧ H3 e = some (.dict [] 0) else u = VA (gs[i].toNat, [])) → Ext H1 H3 ∧ (acc ++ [u]).length = i + 1 ∧ ∀ (t : Nat) g v, gs[t]? = some g → (acc ++ [u])[t]? = some v → if g < 0 then ∃ e, v = .ref e ∧ H e = none ∧ H3 e = some (.dict [] 0) else v = VA (g.toNat, []) := fun H3 u hE3 hu => by
      refine ⟨hE2.trans hE3, by rw [List.length_append, hal]; rfl, fun t g v e1 e2 => ?_⟩
      rcases Nat.lt_or_ge t acc.length with ht | ht
      · rw [List.getElem?_append_left ht] at e2
        have := hacc t g v e1 e2
        split at this
        · rename_i hg
          rw [if_pos hg]
          obtain ⟨e, q1, q2, q3⟩ := this
          exact ⟨e, q1, q2, hE3 _ _ q3⟩
        · rename_i hg
          rw [if_neg hg]; exact this
      · rw [List.getElem?_append_right ht] at e2
        have ht0 : t - acc.length = 0 := by
          have := (List.getElem?_eq_some_iff.mp e2).1
          simp at this; exact this
        rw [ht0] at e2
        simp at e2
        have : t = i := by lia
        subst this
        rw [hgi] at e1
        cases e1
        rw [← e2]; exact hu
    refine W_tests_nil ⟨rfl, ?_⟩
    rw [if_pos rfl]
    refine W_IfExp ?_
    refine WT_Compare ?_
    refine W_Name hx ?_
    refine W_int ?_
    refine WCmp_lt ?_
    refine WTr_bool ?_
    refine ite_dec (fun hg => ?_) (fun hg => ?_)
    · refine W_Dict0 fun e he => ⟨rfl, ?_⟩
      refine grow _ _ (Ext.upd he) ?_
      rw [if_pos hg]
      exact ⟨e, rfl, none_less (hE1.trans hE2) he, upd_same⟩
    · have hgn := hbd _ (List.mem_of_getElem? hgi)
      have hgt : ((gs[i].toNat : Nat) : Int) = gs[i] := by lia
      obtain ⟨dd', _, hvd, _⟩ := X.hr.tab (gs[i].toNat, []) (show gs[i].toNat < n by lia) (.inl rfl)
      refine L6.nestOf (j := gs[i].toNat) (n := n) (C := C) (fI := fI) (nA := nA) (VA := VA) (by rw [hkc.c]; exact D.nest.kls) rfl ((X1.ext hE2).nests) (by lia) hn6 (hcap.get V2.vn (by rfl)) (by rw [hgt]; exact hx) ⟨dd', hvd⟩ ⟨rfl, ?_⟩ (by decide) (by decide)
      refine grow _ _ (Ext.refl _) ?_
      rw [if_neg hg]
  · intro a acc H2 _ hI ha
    obtain ⟨hE2, hal, hacc⟩ := hI
    rw [List.length_map] at hal
    refine contQ_next ?_
    have hE12 := hE1.trans hE2
    refine h _ _ gl a ?_ setL_same hgl0 (upd_fresh ha (hE2 _ _ hgl)) (none_less hE12 ha) (fun e => by rw [← e, hE2 _ _ hgl] at ha; cases ha) ⟨acc, upd_same, hal, fun t g v e1 e2 => ?_⟩ (hE12.trans (Ext.upd ha)) (o1.put (by decide))
    · walk_at "lk"
    · have := hacc t g v e1 e2
      split at this
      · rename_i hg
        rw [if_pos hg]
        obtain ⟨e, q1, q2, q3⟩ := this
        exact ⟨e, q1, q2, upd_fresh ha q3⟩
      · rename_i hg
        rw [if_neg hg]; exact this
end
section
theorem tagL_none {G : Ghost} {H1 Hs : AHeap} {kd : Nat} {w : Way} {lA gl : Addr} {v : V} {xs : List V} (hG : G gl = none) (hl : Hs gl = some (.list xs)) (h1 : gl ≠ lA) (h2 : ∀ o, v = .ref o → kd = 7 → gl ≠ o) : tagL G H1 Hs kd w lA v gl = none := by
  have e : tagE G H1 Hs gl = none := by
    unfold tagE
    rw [if_neg (fun q => by rw [hl] at q; cases q.2)]; exact hG
  unfold tagL
  split
  · rw [updG_ne h1]; exact e
  · split
    · rename_i h7
      split
      · rename_i o
        rw [updG_ne (h2 o rfl h7), updG_ne h1]; exact e
      · exact e
    · exact e
theorem two_at {a b : V} {i : Nat} (h : i < 2) : [a, b][i]? = some (if i = 0 then a else b) := by
  match i, h with
  | 0, _ => rfl
  | 1, _ => rfl
theorem L6.put_ok {k : Wk} {m : Loc} {H1 H : AHeap} {S2 S3 : Stmt} {C fI fG fA fK fD fR fS fL nA rA gA kt gl lA : Addr} {rows : List LR} {n : Nat} {VA : Vals} {G : Ghost} {gv : List Way} {dd kd place j : Nat} {wf : Way} {wv : V} {ps : List (Str × Tok)} {x : Str} {xt : Tok} {Q : Flow → Loc → AHeap → Prop} [sv : SEnv k (fnScope L6.fLaw) (cellNames (fnScope L6.fLaw).names)]
    (h2 : S2 = stm L6.b2 2) (h3 : S3 = stm L6.b2 3) (D : L6.Defs k.c C fI fG fA fK fD fR fS fL) (hA : Room k.A) (hroom : Roomy k) (V0 : L6.LV nA rA gA m) (X1 : LH6 C nA rA gA rows rows n VA G gv dd H1) (hE : Ext H1 H) (hdd : dd ≤ 100) (hcnt : rows.length + 1 ≤ 10 * dd)
    (vk : m "kind" = some (.int (kd : Int))) (hk : kd = 3 ∨ kd = 4 ∨ kd = 5 ∨ kd = 7) (vp : m "place" = some (.int (place : Int))) (hj : j < n) (vg : m "goals" = some (.ref gl)) (hgl : H gl = some (.list ((goalsK kd place j).map .int))) (hgl1 : H1 gl = none) (vl : m "laid" = some (.ref lA)) (hL : LaidIs VA H1 H (goalsK kd place j) lA) (hlA1 : H1 lA = none) (hgla : gl ≠ lA)
    (vw : m "way" = some wv) (hwv : IsWay H wf wv) (hwn : ∀ x ∈ wf.2, isNm x = true) (hwl : wf.2.length ≤ 8) (vkey : m "key" = some (.ref kt)) (hkt : H kt = some (.tup (strsV (ps ++ [(x, xt)])))) (hxn : isNm x = true) (hpl : ps.length ≤ 4) (vne : m "nest" = some (VA wf)) (ht : isTab rows wf) (hi : wf.1 < n) (hnone : rowAt rows (wf.1, wf.2 ++ [x]) = none)
    (h : ∀ H' rows' VA' G', LH6 C nA rA gA rows' rows' n VA' G' gv dd H' → Q .next m H') : W k (execs [S2, S3] k.env) m H Q := by
  subst h2; subst h3
  have hz : sizeLine = _ := sizeLine_eq
  have hn6 := X1.n6
  have hp2 : place % 2 < 2 := Nat.mod_lt _ (by decide)
  have hgl3 := goalsK_len (kd := kd) (place := place) (j := j)
  obtain ⟨acc, hlA, hal, hacc⟩ := id hL
  obtain ⟨b, ep, e1, e2, e3⟩ := X1.hr.tab wf hi ht
  have hlast : lastW wf (ps ++ [(x, xt)]) = (wf.1, wf.2 ++ [x]) := by
    unfold lastW
    rw [List.length_append, List.length_singleton, Nat.add_sub_cancel, List.drop_left]; rfl
  have ha0 : acc[0]? = some (acc[0]'(by rw [hal]; exact hgl3.2)) := List.getElem?_eq_getElem _
  refine W_cons' ?_
  refine W_AssignSub ?_
  refine W_Subscript ?_
  refine W_List ?_
  refine WItems_cons ?_
  refine W_Subscript ?_
  refine W_Name vl ?_
  refine W_int ?_
  refine WSub_list hlA (by decide) (by decide) ha0 ?_
  refine WItems_cons ?_
  refine W_Name vl ?_
  refine WItems_cons ?_
  refine W_Subscript ?_
  refine W_List ?_
  refine WItems_cons ?_
  refine W_int ?_
  refine WItems_cons ?_
  refine W_str fun t1 _ => ?_
  refine WItems_nil ⟨by simp [hz], fun z1 hz1 => ?_⟩
  refine W_BinOp ?_
  refine W_Name vp ?_
  refine W_int ?_
  refine WBin_mod hroom (by decide) ?_
  rw [show Int.fmod (place : Int) 2 = ((place % 2 : Nat) : Int) from fmod_nat]
  refine WSub_list upd_same (Int.natCast_nonneg _) (by lia) (by rw [Int.toNat_natCast]; exact two_at hp2) ?_
  refine WItems_cons ?_
  refine W_int ?_
  refine WItems_cons ?_
  refine W_List ?_
  refine WItems_cons ?_
  refine W_Name vl ?_
  refine WItems_nil ⟨by simp [hz], fun oA hoA => ?_⟩
  refine WItems_nil ⟨by simp [hz], fun z2 hz2 => ?_⟩
  refine W_BinOp ?_
  refine W_Name vk ?_
  refine W_int ?_
  refine WBin_sub ?_
  generalize hv0 : acc[0]'(by rw [hal]; exact hgl3.2) = v0 at ha0 hz2 ⊢
  have hE2 : Ext H (upd (upd (upd H z1 (.list [.int 0, .str "a" t1])) oA (.list [.ref lA])) z2 (.list [v0, .ref lA, if place % 2 = 0 then .int 0 else .str "a" t1, .int 0, .ref oA])) := (Ext.upd hz1).trans ((Ext.upd hoA).trans (Ext.upd hz2))
  have hoA2 : upd (upd (upd H z1 (.list [.int 0, .str "a" t1])) oA (.list [.ref lA])) z2 (.list [v0, .ref lA, if place % 2 = 0 then .int 0 else .str "a" t1, .int 0, .ref oA]) oA = some (.list [.ref lA]) := upd_fresh hz2 upd_same
  have hoA1 : H oA = none := none_less (Ext.upd hz1) hoA
  have hz22 : upd (upd (upd H z1 (.list [.int 0, .str "a" t1])) oA (.list [.ref lA])) z2 (.list [v0, .ref lA, if place % 2 = 0 then .int 0 else .str "a" t1, .int 0, .ref oA]) z2 = some (.list [v0, .ref lA, if place % 2 = 0 then .int 0 else .str "a" t1, .int 0, .ref oA]) := upd_same
  generalize upd (upd (upd H z1 (.list [.int 0, .str "a" t1])) oA (.list [.ref lA])) z2 (.list [v0, .ref lA, if place % 2 = 0 then .int 0 else .str "a" t1, .int 0, .ref oA]) = Hs at hE2 hoA2 hz22 ⊢
  obtain ⟨v, hv, hvL⟩ : ∃ v, [v0, .ref lA, if place % 2 = 0 then .int 0 else .str "a" t1, .int 0, .ref oA][kd - 3]? = some v ∧ LaidV VA Hs kd place j lA v ∧ (∀ o, v = .ref o → kd = 7 → o = oA) := by
    rcases hk with rfl | rfl | rfl | rfl
    · refine ⟨v0, rfl, ?_, fun o _ q => by cases q⟩
      have h0 : (goalsK 3 place j)[0]? = some (j : Int) := rfl
      have := hacc 0 _ _ h0 ha0
      rw [if_neg (by lia), Int.toNat_natCast] at this
      exact this
    · exact ⟨.ref lA, rfl, rfl, fun o _ q => by cases q⟩
    · refine ⟨_, rfl, ?_, fun o _ q => by cases q⟩
      unfold LaidV
      simp only [show ¬ (5 = 3) by decide, show ¬ (5 = 4) by decide, if_false, if_true]
      by_cases hp : place % 2 = 0
      · rw [if_pos hp, if_pos hp]
      · rw [if_neg hp, if_neg hp]; exact ⟨t1, rfl⟩
    · refine ⟨.ref oA, rfl, ?_, fun o q _ => (V.ref.inj q).symm⟩
      unfold LaidV
      simp only [show ¬ (7 = 3) by decide, show ¬ (7 = 4) by decide, show ¬ (7 = 5) by decide, if_false]
      exact ⟨oA, rfl, hoA2⟩
  have hk3 : 3 ≤ kd ∧ kd ≤ 7 := by lia
  refine WSub_list hz22 (by lia) (by lia) (show _ = some v by rw [show ((kd : Int) - 3).toNat = kd - 3 by lia]; exact hv) ?_
  clear hv
  have hEs := hE.trans hE2
  refine W_Name vne ?_
  refine W_Subscript ?_
  refine W_Name vkey ?_
  refine W_UnaryOp ?_
  refine W_int ?_
  refine WUn_neg ?_
  refine WSub_tup (j := ps.length) (v := .str x xt) (hE2 _ _ hkt) (by decide) (by decide) (by have := seq_last (l := strsV ps) (v := .str x xt); rw [strsV_length] at this; rw [← this]; unfold strsV; rw [List.map_append]; rfl) (by unfold strsV; rw [List.map_append, List.getElem?_append_right (by rw [List.length_map]; exact Nat.le_refl _), List.length_map, Nat.sub_self]; rfl) ?_
  rw [e1]
  have hkid : getK (kids rows VA wf) (.inr x) = none := by
    rw [getK_kids rows fun q hq => (X1.ok.rt q hq).2, hnone]; rfl
  have hkl := kids_length (rows := rows) (VA := VA) wf
  refine WSet_dict (hEs _ _ e3) (key := .inr x) (by simp [isKV]) (by rw [hz]; lia) ?_
  rw [putK_new hkid, epK, hkid]
  refine contQ_next ?_
  have hlist : ∃ xs, Hs lA = some (.list xs) := ⟨acc, hE2 _ _ hlA⟩
  have hLs := hL.ext hE2
  have hoAl : oA ≠ lA := fun e => by rw [e, hlA] at hoA1; cases hoA1
  have hoAg : gl ≠ oA := fun e => by rw [← e, hgl] at hoA1; cases hoA1
  have hv7 : kd = 7 → v = .ref oA := fun e => by
    have := hvL.1
    unfold LaidV at this
    rw [e] at this
    simp only [show ¬ (7 = 3) by decide, show ¬ (7 = 4) by decide, show ¬ (7 = 5) by decide, if_false] at this
    obtain ⟨o, q, _⟩ := this
    rw [hvL.2 o q e] at q; exact q
  have live1 : ∀ a t, G a = some t → H1 a ≠ none := fun a t e => X1.live e
  have hG : ∀ a t, G a = some t → tagL G H1 Hs kd (wf.1, wf.2 ++ [x]) lA v a = some t := fun a t e => tagL_old live1 hlA1 (fun q => ⟨oA, hv7 q, none_less hE hoA1⟩) e
  have hnew : ∀ a t, tagL G H1 Hs kd (wf.1, wf.2 ++ [x]) lA v a = some t → G a = some t ∨ Hs a ≠ none := fun a t e => tagL_new (by obtain ⟨xs, q⟩ := hlist; rw [q]; simp) (fun q => ⟨oA, hv7 q, by rw [hoA2]; simp⟩) e
  have hld := leads_laid (G := G) (w := (wf.1, wf.2 ++ [x])) hk (by simp) hLs hlist hvL.1 (fun o q1 q2 => by rw [hvL.2 o q1 q2]; exact hoAl)
  have X2 := X1.lay1 (ep := ep + 1) (r := ⟨(wf.1, wf.2 ++ [x]), laidK kd place, goalsK kd place j⟩) hi ht hnone e1 rfl (by unfold laidK; split; simp; split; simp; split; split <;> simp; simp) hEs hG hnew hld (fun _ => ⟨j, goalsK_last, hj⟩) (goalsK_bd hj) (fun y hy => by
      rcases List.mem_append.mp hy with hy | hy
      · exact hwn y hy
      · rw [List.mem_singleton.mp hy]; exact hxn) (by rw [List.length_append, List.length_singleton]; lia) hcnt (by lia) (fun q => by
      have hk3 : kd = 3 := by
        unfold laidK at q
        split at q
        · assumption
        · split at q
          · cases q
          · split at q
            · split at q <;> cases q
            · cases q
      rw [hk3]; rfl)
  have hglG : tagL G H1 Hs kd (wf.1, wf.2 ++ [x]) lA v gl = none := by
    refine tagL_none ?_ (hE2 _ _ hgl) hgla fun o q1 q2 => by rw [hvL.2 o q1 q2]; exact hoAg
    cases e : G gl with
    | none => rfl
    | some t => exact absurd hgl1 (X1.live e)
  rw [if_neg (show ¬ (Option.isSome (none : Option V)) = true by simp)]
  obtain ⟨vsR, r1, r2, r3⟩ := id X2.rws
  have kpb : ∀ c y, Hs c = some y → (∀ kvs ep, y ≠ .dict kvs ep) → upd Hs b (.dict (kids rows VA wf ++ [(.inr x, v)]) (ep + 1)) c = some y := fun c y e q => upd_ne (fun z => by rw [z, hEs _ _ e3] at e; cases e; exact q _ _ rfl) e
  have hkt3 := kpb _ _ (hE2 _ _ hkt) (by simp)
  have hwv3 : IsWay (upd Hs b (.dict (kids rows VA wf ++ [(.inr x, v)]) (ep + 1))) wf wv := hwv.ext fun a xs e => kpb _ _ (hE2 _ _ e) (by simp)
  have hgl3' := kpb _ _ (hE2 _ _ hgl) (by simp)
  generalize upd Hs b (.dict (kids rows VA wf ++ [(.inr x, v)]) (ep + 1)) = H3 at X2 r1 r2 r3 hkt3 hwv3 hgl3' ⊢
  generalize tagL G H1 Hs kd (wf.1, wf.2 ++ [x]) lA v = G2 at X2 r3 hglG
  generalize updV VA (wf.1, wf.2 ++ [x]) v = VA2 at X2
  have hvl : vsR.length ≤ 2000 := by rw [r2.len]; lia
  refine W_cons' ?_
  refine W_ExprStmt ?_
  refine W_CallM' PySem.F.plainAttrs_list PySem.F.slot_list_append PySem.F.type_list_append ?_
  refine W_Name V0.vr ?_
  refine ⟨onList r1, ?_⟩
  refine WItems_cons ?_
  refine W_Tuple ?_
  refine WItems_cons ?_
  refine W_wayKey rfl rfl rfl vw hwv3 vkey hkt3 (by rw [List.length_append, List.length_singleton]; lia) (by lia) fun v2 H4 hE4 hv2 => ?_
  rw [hlast] at hv2
  refine WItems_cons ?_
  refine W_Subscript ?_
  refine W_List ?_
  refine WItems_cons ?_
  refine W_str fun u0 _ => ?_
  refine WItems_cons ?_
  refine W_str fun u1 _ => ?_
  refine WItems_cons ?_
  refine W_Subscript ?_
  refine W_List ?_
  refine WItems_cons ?_
  refine W_str fun u2 _ => ?_
  refine WItems_cons ?_
  refine W_str fun u3 _ => ?_
  refine WItems_nil ⟨by simp [hz], fun y1 hy1 => ?_⟩
  refine W_BinOp ?_
  refine W_Name vp ?_
  refine W_int ?_
  refine WBin_mod hroom (by decide) ?_
  rw [show Int.fmod (place : Int) 2 = ((place % 2 : Nat) : Int) from fmod_nat]
  refine WSub_list upd_same (Int.natCast_nonneg _) (by lia) (by rw [Int.toNat_natCast]; exact two_at hp2) ?_
  refine WItems_cons ?_
  refine W_str fun u4 _ => ?_
  refine WItems_cons ?_
  refine W_str fun u5 _ => ?_
  refine WItems_nil ⟨by simp [hz], fun y2 hy2 => ?_⟩
  refine W_BinOp ?_
  refine W_Name vk ?_
  refine W_int ?_
  refine WBin_sub ?_
  obtain ⟨tk, hkn⟩ : ∃ tk, [V.str "dict" u0, .str "list" u1, if place % 2 = 0 then .str "number" u2 else .str "text" u3, .str "" u4, .str "lists" u5][kd - 3]? = some (.str (kn (laidK kd place)) tk) := by
    rcases hk with rfl | rfl | rfl | rfl
    · exact ⟨u0, rfl⟩
    · exact ⟨u1, rfl⟩
    · unfold laidK
      simp only [show ¬ (5 = 3) by decide, show ¬ (5 = 4) by decide, if_false, if_true]
      by_cases hp : place % 2 = 0
      · rw [if_pos hp, if_pos hp]; exact ⟨u2, rfl⟩
      · rw [if_neg hp, if_neg hp]; exact ⟨u3, rfl⟩
    · exact ⟨u5, rfl⟩
  refine WSub_list upd_same (by lia) (by lia) (show _ = some (V.str (kn (laidK kd place)) tk) by rw [show ((kd : Int) - 3).toNat = kd - 3 by lia]; exact hkn) ?_
  refine WItems_cons ?_
  refine W_Name vg ?_
  refine WItems_nil ⟨by simp [hz], fun tA htA => ?_⟩
  refine WItems_nil ?_
  have hE5 := hE4.trans ((Ext.upd hy1).trans ((Ext.upd hy2).trans (Ext.upd (x := .tup [v2, .str (kn (laidK kd place)) tk, .ref gl]) htA)))
  have hE45 := (Ext.upd hy1).trans ((Ext.upd hy2).trans (Ext.upd (x := .tup [v2, .str (kn (laidK kd place)) tk, .ref gl]) htA))
  refine WCall_append (hE5 _ _ r1) (by rw [hz]; lia) ?_
  refine contQ_next ?_
  refine W_nil ?_
  refine h _ _ _ _ (X2.tell (r := ⟨(wf.1, wf.2 ++ [x]), laidK kd place, goalsK kd place j⟩) (t := tk) (wv := v2) r1 (by simp) hE5 upd_same (hv2.ext fun a xs e => hE45 _ _ e) (hE5 _ _ hgl3') (.inl hglG) fun e => ?_)
  have := X2.tr
  rw [← e, hglG] at this; cases this
end
section
theorem filter_uniq {rows : List LR} {n : Nat} (o : RowsOK rows n) {w : Way} : (rows.filter (fun r => decide (r.w = w)) = [] ∧ rowAt rows w = none) ∨ ∃ r, rows.filter (fun r => decide (r.w = w)) = [r] ∧ r ∈ rows ∧ r.w = w := by
  cases e : rowAt rows w with
  | none =>
    left
    exact ⟨List.filter_eq_nil_iff.mpr fun r hr => by simpa using rowAt_none e r hr, rfl⟩
  | some r =>
    right
    obtain ⟨hr, hw⟩ := rowAt_some e
    refine ⟨r, ?_, hr, hw⟩
    have dis := o.dis
    clear e o
    induction rows with
    | nil => cases hr
    | cons q rows ih =>
      rw [List.map_cons, List.nodup_cons] at dis
      rw [List.filter_cons]
      rcases List.mem_cons.mp hr with e | hr'
      · rw [← e, if_pos (by simpa using hw), List.filter_eq_nil_iff.mpr (fun a ha => ?_)]
        intro h
        have h : a.w = w := by simpa using h
        exact dis.1 (List.mem_map.mpr ⟨a, ha, by rw [h, ← hw, e]⟩)
      · rw [if_neg (fun h => ?_)]
        · exact ih hr' dis.2
        · have h : q.w = w := by simpa using h
          exact dis.1 (List.mem_map.mpr ⟨r, hr', by rw [h, ← hw]⟩)
theorem L6.lay_ok {k : Wk} {m : Loc} {H : AHeap} {S4 : Stmt} {C fI fG fA fK fD fR fS fL nA rA gA kt nt tA : Addr} {rows : List LR} {n : Nat} {VA : Vals} {G : Ghost} {gv : List Way} {dd kd place i j : Nat} {ly : Bool} {wf : Way} {wv : V} {ps qs : List (Str × Tok)} {vs acc : List V} {Q : Flow → Loc → AHeap → Prop} [sv : SEnv k (fnScope L6.fLaw) (cellNames (fnScope L6.fLaw).names)]
    (h4 : S4 = L6.e4) (D : L6.Defs k.c C fI fG fA fK fD fR fS fL) (hA : Room k.A) (hA' : k.A.depth ≤ 500 ∧ k.A.units ≤ 1500) (hroom : Roomy k) (V0 : L6.LV nA rA gA m) (X : LH6 C nA rA gA rows rows n VA G gv dd H) (hdd : dd ≤ 100) (hcnt : rows.length + 1 ≤ 10 * dd) (hgc : ∀ r ∈ rows, r.g.length + 1 ≤ dd + 3)
    (W0 : L6.HV C nA kd i j ly kt nt m) (K : L6.KV ps qs ly kd kt nt H) (hj : j < n) (hkd : kd < 8) (vp : m "place" = some (.int (place : Int))) (vw : m "way" = some wv) (hwv : IsWay H wf wv) (hwn : ∀ x ∈ wf.2, isNm x = true) (hwl : wf.2.length ≤ 8) (vne : m "nest" = some (VA wf)) (ht : isTab rows wf) (hi : wf.1 < n)
    (hvs : H rA = some (.list vs)) (vt : m "there" = some (.ref tA)) (htG : G tA = none) (htA : H tA = some (.list acc)) (hacc : All2 (fun r v => RowIs H r v ∧ ∃ i : Nat, vs[i]? = some v ∧ rows[i]? = some r) acc (rows.filter fun r => decide (r.w = lastW wf ps)))
    (h : ∀ m' H' rows' VA' G', LH6 C nA rA gA rows' rows' n VA' G' gv dd H' → offL ["goals", "laid"] m m' → Q .next m' H') : W k (exec S4 k.env) m H Q := by
  subst h4
  have hz : sizeLine = _ := sizeLine_eq
  have hu64 : k.A.units + 64 < cLine := Nat.lt_of_le_of_lt (m := 2070) (by lia) (by decide)
  have hokf : ∀ r ∈ rows.filter (fun r => decide (r.w = lastW wf ps)), okW r.w = true := fun r hr => okW_nm (X.nm r (List.mem_filter.mp hr).1)
  have hRI : RowsIn H acc (rows.filter fun r => decide (r.w = lastW wf ps)) := ⟨hacc.len, fun j v r e1 e2 => (hacc.at_ j v r e1 e2).1⟩
  have skip : ∀ (H' : AHeap), Ext H H' → Q .next m H' := fun H' hE => h m H' rows VA G (X.ext hE) (offL.refl _ _)
  have vl := W0.vl
  refine W_If ?_
  refine WT_And ?_
  refine W_allTrue_and ?_
  refine WT_plain ?_
  refine W_Name vl ?_
  refine WTr_bool ?_
  cases hly : ly with
  | false =>
    rw [hly] at vl
    refine iteF ?_
    refine iteF ?_
    refine W_cons' ?_
    refine W_If ?_
    refine WT_And ?_
    refine W_allTrue_and ?_
    refine WT_plain ?_
    refine W_Name vl ?_
    refine WTr_bool ?_
    refine iteF ?_
    refine iteF ?_
    refine W_nil ?_
    refine contQ_next ?_
    exact W_nil (skip H (Ext.refl _))
  | true =>
    rw [hly] at vl
    have hlyE := K.lyE
    rw [hly] at hlyE
    have hlyE := hlyE.symm
    rw [Bool.and_eq_true, decide_eq_true_iff] at hlyE
    obtain ⟨hk2, hpne⟩ := hlyE
    have hpne : ps ≠ [] := fun e => by rw [e] at hpne; simp at hpne
    obtain ⟨ps', x, xt, rfl⟩ : ∃ ps' x xt, ps = ps' ++ [(x, xt)] := ⟨ps.dropLast, (ps.getLast hpne).1, (ps.getLast hpne).2, (List.dropLast_concat_getLast hpne).symm⟩
    have hpl := K.len
    rw [List.length_append, List.length_singleton] at hpl
    have hlast : lastW wf (ps' ++ [(x, xt)]) = (wf.1, wf.2 ++ [x]) := by
      unfold lastW
      rw [List.length_append, List.length_singleton, Nat.add_sub_cancel, List.drop_left]; rfl
    rw [hlast] at hRI hacc hokf
    have hxn : isNm x = true := K.nm (x, xt) (by simp)
    refine iteT ?_
    refine W_allTrue_and ?_
    refine WT_Compare ?_
    refine W_Name W0.vk ?_
    refine W_int ?_
    refine WCmp_eq ?_
    refine WTr_bool ?_
    refine ite_dec (fun hk6 => ?_) (fun hk6 => ?_)
    · have hk6 : kd = 6 := by lia
      refine W_allTrue_and ?_
      refine WT_Compare ?_
      refine W_Name vt ?_
      refine W_List ?_
      refine WItems_nil ⟨by simp [hz], fun l hl => ?_⟩
      refine WCmp_rowsNe (upd_fresh hl htA) upd_same (hRI.ext (Ext.upd hl)) hokf hu64 ?_
      refine WTr_bool ?_
      have hEl : Ext H (upd H l (.list [])) := Ext.upd hl
      have other : ∀ H', Ext H H' → W k (execs (ifElse L6.e4) k.env) m H' Q := fun H' hE => by
        show W k (execs [stm (ifElse L6.e4) 0] k.env) m H' Q
        refine W_cons' ?_
        refine W_If ?_
        refine WT_And ?_
        refine W_allTrue_and ?_
        refine WT_plain ?_
        refine W_Name vl ?_
        refine WTr_bool ?_
        refine iteT ?_
        refine W_allTrue_and ?_
        refine WT_Compare ?_
        refine W_Name W0.vk ?_
        refine W_int ?_
        refine WCmp_ne ?_
        refine WTr_bool ?_
        rw [decide_eq_false (by lia)]
        refine iteF ?_
        refine iteF ?_
        refine W_nil ?_
        refine contQ_next ?_
        exact W_nil (skip H' hE)
      rcases filter_uniq X.ok (w := (wf.1, wf.2 ++ [x])) with ⟨hf, hnone⟩ | ⟨r, hf, hr, hrw⟩
      · rw [hf]
        refine iteF ?_
        refine iteF ?_
        exact other _ hEl
      · rw [hf] at hacc hRI ⊢
        refine iteT ?_
        obtain ⟨v0, hv0⟩ : ∃ v, acc[0]? = some v := ⟨_, List.getElem?_eq_getElem (by rw [hacc.len]; simp)⟩
        have hri := hRI.at_ 0 v0 r hv0 rfl
        obtain ⟨a0, wv0, gl, t0, rfl, ha0, _, _⟩ := id hri
        refine W_allTrue_and ?_
        refine WT_Compare ?_
        refine W_Subscript ?_
        refine W_Subscript ?_
        refine W_Name vt ?_
        refine W_int ?_
        refine WSub_list (upd_fresh hl htA) (by decide) (by decide) hv0 ?_
        refine W_int ?_
        refine WSub_tup (j := 1) (upd_fresh hl ha0) (by decide) (by decide) rfl rfl ?_
        refine W_str fun t1 _ => ?_
        refine WCmp_eqS ?_
        refine WTr_bool ?_
        refine ite_dec (fun hkl => ?_) (fun hkl => ?_)
        · refine W_allTrue_nilA ?_
          refine iteT ?_
          have hkl : r.k = .list := kn_inj hkl
          refine L6.app_ok rfl rfl D V0 (X.ext hEl) hdd hgc (hEl _ _ hvs) W0.vkey (hEl _ _ K.hk) (by lia) W0.vj hj vne ht hi vt htG (hEl _ _ htA) (hacc.mono fun q v z => ⟨z.1.ext hEl, z.2⟩) hrw hkl fun H' X' => ?_
          exact h m H' _ VA G X' (offL.refl _ _)
        · refine iteF ?_
          exact other _ hEl
    · refine iteF ?_
      refine W_cons' ?_
      refine W_If ?_
      refine WT_And ?_
      refine W_allTrue_and ?_
      refine WT_plain ?_
      refine W_Name vl ?_
      refine WTr_bool ?_
      refine iteT ?_
      refine W_allTrue_and ?_
      refine WT_Compare ?_
      refine W_Name W0.vk ?_
      refine W_int ?_
      refine WCmp_ne ?_
      refine WTr_bool ?_
      rw [decide_eq_true (by lia)]
      refine iteT ?_
      refine W_allTrue_and ?_
      refine WT_Compare ?_
      refine W_Name vt ?_
      refine W_List ?_
      refine WItems_nil ⟨by simp [hz], fun l hl => ?_⟩
      refine WCmp_rowsNil (upd_fresh hl htA) upd_same (hRI.ext (Ext.upd hl)) hokf hu64 ?_
      refine WTr_bool ?_
      have hEl : Ext H (upd H l (.list [])) := Ext.upd hl
      rcases filter_uniq X.ok (w := (wf.1, wf.2 ++ [x])) with ⟨hf, hnone⟩ | ⟨r, hf, hr, hrw⟩
      · rw [hf]
        refine iteT ?_
        refine W_allTrue_nilA ?_
        refine iteT ?_
        have X1 := X.ext hEl
        have hk4 : kd = 3 ∨ kd = 4 ∨ kd = 5 ∨ kd = 7 := by lia
        show W k (execs [stm L6.b2 0, stm L6.b2 1, stm L6.b2 2, stm L6.b2 3] k.env) m _ _
        refine L6.goals_ok rfl rfl D hA hroom V0 X1 W0.vk vp W0.vj hj fun m' H' gl lA vg vl2 hgl1 hgl hlA1 hgla hL hE' ho => ?_
        have off : ∀ y : Str, y ∉ (["goals", "laid"] : List Str) → m' y = m y := ho
        refine L6.put_ok (x := x) (xt := xt) rfl rfl D hA hroom (V0.of ho (by decide)) X1 hE' hdd hcnt ((off _ (by decide)).trans W0.vk) hk4 ((off _ (by decide)).trans vp) hj vg hgl hgl1 vl2 hL hlA1 hgla ((off _ (by decide)).trans vw) (hwv.ext fun a xs e => (hEl.trans hE') _ _ e) hwn hwl ((off _ (by decide)).trans W0.vkey) ((hEl.trans hE') _ _ K.hk) hxn (by lia) ((off _ (by decide)).trans vne) ht hi hnone fun H2 rows' VA' G' X' => ?_
        refine contQ_next ?_
        exact W_nil (h m' H2 rows' VA' G' X' ho)
      · rw [hf]
        refine iteF ?_
        refine iteF ?_
        refine W_nil ?_
        refine contQ_next ?_
        exact W_nil (skip _ hEl)
end
section
noncomputable def tryBody : Stmt → List Stmt
  | .Try b _ _ _ _ => b
  | _ => []
noncomputable abbrev L6.tL : List Str := ["nest", "error", "size", "there", "goals", "laid"]
set_option maxHeartbeats 1000000 in
theorem L6.try_ok {k : Wk} {m : Loc} {H : AHeap} {S9 : Stmt} {C fI fG fA fK fD fR fS fL nA rA gA kt nt bA : Addr} {rows : List LR} {n : Nat} {VA : Vals} {G : Ghost} {gv : List Way} {dd kd place i j : Nat} {ly : Bool} {wv : V} {ps qs : List (Str × Tok)} {acc : List V} {Q : Flow → Loc → AHeap → Prop} [sv : SEnv k (fnScope L6.fLaw) (cellNames (fnScope L6.fLaw).names)]
    (h9 : S9 = stm L6.lp 9) (D : L6.Defs k.c C fI fG fA fK fD fR fS fL) (hA : Room k.A) (hA' : k.A.depth ≤ 500 ∧ k.A.units ≤ 1500) (hroom : Roomy k) (hfr : k.env.frame = some k.env.locals) (V0 : L6.LV nA rA gA m) (X : LH6 C nA rA gA rows rows n VA G gv dd H) (hdd : dd < 100)
    (W0 : L6.HV C nA kd i j ly kt nt m) (K : L6.KV ps qs ly kd kt nt H) (hi : i < n) (hj : j < n) (hkd : kd < 8) (vp : m "place" = some (.int (place : Int))) (vw : m "way" = some wv) (hwv : IsWay H (walkW rows (decide (kd ≠ 2)) (i, []) (qs.map (·.1))).1 wv)
    (vb : m "barred" = some (.ref bA)) (hbA : H bA = some (.list acc)) (hacc : RowsIn H acc (rows.filter (barredR (walkW rows (decide (kd ≠ 2)) (i, []) (qs.map (·.1))).1)))
    (h : ∀ m' H' rows' VA' G' gv', LH6 C nA rA gA rows' rows' n VA' G' gv' (dd + 1) H' → offL L6.tL m m' → Q .next m' H') : W k (exec S9 k.env) m H Q := by
  subst h9
  have hh : k.A.handled = none := hA.handled
  have hz : sizeLine = _ := sizeLine_eq
  have hun2 : k.A.units + 64 < cLine := Nat.lt_of_le_of_lt (m := 2070) (by lia) (by decide)
  obtain ⟨fdG, FG1, FG2⟩ := id D.nest.get
  obtain ⟨foG, hfG, hdG⟩ := id FG1.obj
  have hqm : ∀ x ∈ qs.map (·.1), isNm x = true := fun x hx => by
    obtain ⟨q, hq, rfl⟩ := List.mem_map.mp hx
    rw [K.qsE] at hq
    split at hq
    · exact K.nm q (List.mem_of_mem_take (by rw [← List.dropLast_eq_take]; exact hq))
    · exact K.nm q hq
  have hql : qs.length ≤ 5 := by
    have := K.len
    rw [K.qsE]
    split
    · rw [List.length_dropLast]; lia
    · exact this
  have hwn := walkW_names (rows := rows) (ls := decide (kd ≠ 2)) (P := fun x => isNm x = true) (qs.map (·.1)) (i, []) (fun x hx => by cases hx) hqm
  have hwl := walkW_length (rows := rows) (ls := decide (kd ≠ 2)) (qs.map (·.1)) (i, [])
  rw [List.length_map] at hwl
  have hwl : (walkW rows (decide (kd ≠ 2)) (i, []) (qs.map (·.1))).1.2.length ≤ 5 := by
    have h0 : ([] : List Str).length = 0 := rfl
    lia
  generalize hwk : walkW rows (decide (kd ≠ 2)) (i, []) (qs.map (·.1)) = wk at hwv hacc hwn hwl
  obtain ⟨wf, fl⟩ := wk
  simp only at hwv hacc hwn hwl
  have hbar := barred_nil X.ok (c := (i, [])) hi (.inl rfl) hwk
  have hcnt := X.cnt
  obtain ⟨b0, _, hb0, _⟩ := X.hr.tab (i, []) hi (.inl rfl)
  obtain ⟨xs, n1, n2, n3⟩ := id X.nests
  have hxi : xs[i]? = some (xs[i]'(n2 ▸ hi)) := List.getElem?_eq_getElem _
  obtain ⟨dx, nx1, nx2⟩ := n3 i _ hxi
  rw [hb0] at nx2
  have hn6 := X.n6
  refine W_Try (fun cls xs m1 H1 => cls = "KeyError" ∧ (∃ tk, xs = some [.str nestMsg tk]) ∧ m1 = m ∧ H1 = H ∧ fl = false) hfr (fun k' hk' => ?_) fun e cls xs m1 H1 hxc => ?_
  · haveI := hk'.senv (sc := fnScope L6.fLaw) (cn := cellNames (fnScope L6.fLaw).names)
    have N' : NestAt k'.c C fI fG fA L6.cls := by rw [hk'.c]; exact D.nest
    have G' : Blt k'.c := by rw [hk'.c]; exact D.blt
    have FG' : FnAt k'.c fG fdG (fnBody (stm (fnBody L6.cls) 1)) := by rw [hk'.c]; exact FG1
    have hAk : Room k'.A := by rw [hk'.A]; exact hA
    have hG : ∀ a, a = decide (kd ≠ 2) → Gw a (fun a H' => ∃ rows' VA' G', fl = true ∧ rows' = addT wf.1 rows [] wf.2 ∧ Aft rows n VA G H rows' VA' G' H' ∧ VA' wf = .ref a ∧ isTab rows' wf ∧ wf.1 < n) (fun cls xs H' => cls = "KeyError" ∧ (∃ tk, xs = some [.str nestMsg tk]) ∧ H' = H ∧ fl = false) (qs.map (·.1)) b0 H := fun a ha => by
      subst ha
      refine gw_rows (qs.map (·.1)) rows VA G H (i, []) b0 X.ok X.hr hi (.inl rfl) hb0 (by rw [List.length_map]; lia) (fun r hr => by have := X.gcnt r hr; lia) (fun wf' hw' a rows' VA' G' H' q1 q2 q3 q4 q5 => ?_) (fun q t => ?_)
      · rw [hwk] at hw'
        obtain ⟨rfl, rfl⟩ := Prod.mk.inj hw'
        exact ⟨rows', VA', G', rfl, q1, q2, q3, q4, q5⟩
      · rw [hwk] at q
        exact ⟨rfl, ⟨t, rfl⟩, rfl, q⟩
    have hXk : ∀ cls xs H', (cls = "KeyError" ∧ (∃ tk, xs = some [.str nestMsg tk]) ∧ H' = H ∧ fl = false) → k'.X cls xs m H' := fun cls xs H' q => by
      rw [hk'.X]
      exact ⟨q.1, q.2.1, rfl, q.2.2.1, q.2.2.2⟩
    refine W_cons' ?_
    refine W_cut (fun (fl' : Flow) m1 H1 => fl' = .next ∧ ∃ a, m1 = setL m "nest" (.ref a) ∧ ∃ rows' VA' G', fl = true ∧ rows' = addT wf.1 rows [] wf.2 ∧ Aft rows n VA G H rows' VA' G' H1 ∧ VA' wf = .ref a ∧ isTab rows' wf ∧ wf.1 < n) ?_ ?_
    · refine W_If ?_
      refine WT_Or ?_
      refine W_allTrue_or ?_
      refine WT_Compare ?_
      refine W_Name W0.vk ?_
      refine W_int ?_
      refine WCmp_eq ?_
      refine WTr_bool ?_
      have kwcall : ∀ (S : Stmt), S = stm (ifBody (stm (tryBody (stm L6.lp 9)) 0)) 0 → (kd = 1 ∨ kd = 2) → W k' (execs [S] k'.env) m H (fun (fl' : Flow) m1 H1 => fl' = .next ∧ ∃ a, m1 = setL m "nest" (.ref a) ∧ ∃ rows' VA' G', fl = true ∧ rows' = addT wf.1 rows [] wf.2 ∧ Aft rows n VA G H rows' VA' G' H1 ∧ VA' wf = .ref a ∧ isTab rows' wf ∧ wf.1 < n) := fun S hS hk12 => by
        subst hS
        refine W_cons' ?_
        refine W_Assign ?_ ?s0 ?s1
        case s0 => exact stor rfl
        case s1 => rfl
        refine W_CallMethKw N'.mG FG' ?_
        refine W_Subscript ?_
        refine W_Name V0.vn ?_
        refine W_Name W0.vi ?_
        refine WSub_list n1 (Int.natCast_nonneg i) (by lia) (v := .ref (xs[i]'(n2 ▸ hi))) (by rw [Int.toNat_natCast, List.getElem?_map, hxi]; rfl) ?_
        refine ⟨_, dx, _, rfl, nx1, nx2, ?_⟩
        refine WItems_cons ?_
        refine W_Name W0.vnm ?_
        refine WItems_nil ?_
        refine W_Compare ?_
        refine W_Name W0.vk ?_
        refine W_int ?_
        refine WCmp_eq ?_
        refine FnV.mono (L6.nest_callK (keys := qs) G' N' hAk nx1 nx2 K.hn (hG _ (by rw [decide_eq_decide]; lia))) ?_ (fun a b H' q => hXk a b H' q)
        intro v H' hv
        obtain ⟨a, rfl, hq⟩ := hv
        refine contQ_next ?_
        exact W_nil ⟨rfl, a, rfl, hq⟩
      refine ite_dec (fun hk1 => ?_) (fun hk1 => ?_)
      · refine iteT ?_
        exact kwcall _ rfl (.inl (by lia))
      · refine W_allTrue_or ?_
        refine WT_Compare ?_
        refine W_Name W0.vk ?_
        refine W_int ?_
        refine WCmp_eq ?_
        refine WTr_bool ?_
        refine ite_dec (fun hk2 => ?_) (fun hk2 => ?_)
        · refine iteT ?_
          exact kwcall _ rfl (.inr (by lia))
        · refine W_allTrue_nilO ?_
          refine iteF ?_
          refine W_cons' ?_
          refine W_Assign ?_ ?s0 ?s1
          case s0 => exact stor rfl
          case s1 => rfl
          refine W_CallMeth N'.mG FG' ?_
          refine W_Subscript ?_
          refine W_Name V0.vn ?_
          refine W_Name W0.vi ?_
          refine WSub_list n1 (Int.natCast_nonneg i) (by lia) (v := .ref (xs[i]'(n2 ▸ hi))) (by rw [Int.toNat_natCast, List.getElem?_map, hxi]; rfl) ?_
          refine ⟨_, dx, _, rfl, nx1, nx2, ?_⟩
          refine WItems_cons ?_
          refine W_Name W0.vnm ?_
          refine WItems_nil ?_
          refine FnV.mono (L6.nest_call (keys := qs) G' N' hAk nx1 nx2 K.hn (hG _ (by symm; rw [decide_eq_true_iff]; lia))) ?_ (fun a b H' q => hXk a b H' q)
          intro v H' hv
          obtain ⟨a, rfl, hq⟩ := hv
          refine contQ_next ?_
          exact W_nil ⟨rfl, a, rfl, hq⟩
    · intro _ m1 H1 hv
      obtain ⟨rfl, a, rfl, rows', VA', G2, rfl, hrows, hAft, hva, htab, hwn1⟩ := hv
      refine contQ_next ?_
      refine W_nil ?_
      have hmem : ∀ r ∈ rows', r ∈ rows ∨ ∃ s, r = ⟨(wf.1, wf.2.take (s + 1)), .table, []⟩ := fun r hr => by
        rw [hrows] at hr
        rcases addT_mem wf.1 wf.2 rows [] r hr with q | ⟨s, q, _⟩
        · exact .inl q
        · exact .inr ⟨s, q⟩
      have hrl : rows'.length ≤ rows.length + 5 := by
        rw [hrows]
        exact Nat.le_trans (addT_length _ _ _ _) (by lia)
      have X1 := X.aft hAft (D' := dd + 1) (Nat.le_succ dd) (fun r hr y hy => by
        rcases hmem r hr with q | ⟨s, rfl⟩
        · exact X.nm r q y hy
        · exact hwn y (List.mem_of_mem_take hy)) (fun r hr => by
        rcases hmem r hr with q | ⟨s, rfl⟩
        · exact X.len r q
        · show (wf.2.take (s + 1)).length ≤ 10
          rw [List.length_take]; lia) (by lia)
      have hgc : ∀ r ∈ rows', r.g.length + 1 ≤ (dd + 1) + 3 := fun r hr => by
        rcases hmem r hr with q | ⟨s, rfl⟩
        · have := X.gcnt r q; lia
        · show ([] : List Int).length + 1 ≤ _
          simp
      have kpt : ∀ a xs, H a = some (.tup xs) → H1 a = some (.tup xs) := fun a xs e => hAft.keep a _ e (by simp)
      have hf : rows.filter (barredR wf) = [] := hbar.mpr rfl
      rw [hf] at hacc
      obtain rfl : acc = [] := List.eq_nil_of_length_eq_zero (by rw [hacc.len]; rfl)
      have hbA1 := hAft.keep bA _ hbA (by simp)
      have o1 : offL L6.tL m (setL m "nest" (.ref a)) := (offL.refl _ _).put (by decide)
      have vne1 : setL m "nest" (.ref a) "nest" = some (VA' wf) := by rw [hva]; exact setL_same
      have W1 : L6.HV C nA kd i j ly kt nt (setL m "nest" (.ref a)) := ⟨by have := W0.vk; walk_at "lk", by have := W0.vkey; walk_at "lk", by have := W0.vi; walk_at "lk", by have := W0.vj; walk_at "lk", by have := W0.vl; walk_at "lk", by have := W0.vnm; walk_at "lk"⟩
      have vp1 : setL m "nest" (.ref a) "place" = some (.int (place : Int)) := by walk_at "lk"
      have vw1 : setL m "nest" (.ref a) "way" = some wv := by walk_at "lk"
      have vb1 : setL m "nest" (.ref a) "barred" = some (.ref bA) := by walk_at "lk"
      have V1 := V0.of o1 (by decide)
      generalize setL m "nest" (.ref a) = m2 at o1 vne1 W1 vp1 vw1 vb1 V1 ⊢
      show W k (execs [stm L6.el 0, stm L6.el 1, stm L6.el 2, stm L6.el 3, stm L6.el 4] k.env) m2 H1 Q
      have hwv1 := hwv.ext kpt
      have K1 := K.ext kpt
      refine L6.note_ok rfl rfl D hA hA' V1 X1 (by lia) (by have := X.gvl; lia) vw1 hwv1 vb1 hbA1 vne1 htab hwn1 fun H2 X2 kp2 => ?_
      have hwv2 := hwv1.ext kp2
      refine W_cons' ?_
      refine L6.size_ok rfl D hA hA' V1 X2 (by lia) hrows (fun s => Nat.le_trans (addT_length _ _ _ _) (by rw [List.length_take]; lia)) vw1 hwv2 hwn (by lia) fun m3 H3 G3 X3 kp3 o3 => ?_
      refine contQ_next ?_
      have hwv3 := hwv2.ext kp3
      have K3 := (K1.ext kp2).ext kp3
      have off3 : ∀ y : Str, y ∉ (["size"] : List Str) → m3 y = m2 y := o3
      have V3 := V1.of o3 (by decide)
      have W3 : L6.HV C nA kd i j ly kt nt m3 := ⟨(off3 _ (by decide)).trans W1.vk, (off3 _ (by decide)).trans W1.vkey, (off3 _ (by decide)).trans W1.vi, (off3 _ (by decide)).trans W1.vj, (off3 _ (by decide)).trans W1.vl, (off3 _ (by decide)).trans W1.vnm⟩
      have vp3 := (off3 "place" (by decide)).trans vp1
      have vw3 := (off3 "way" (by decide)).trans vw1
      have vne3 := (off3 "nest" (by decide)).trans vne1
      obtain ⟨vs, r1, r2, r3⟩ := id X3.rws
      refine W_cons' ?_
      refine L6.there_ok rfl D hA hA' V3 X3 (by lia) r1 r2 vw3 hwv3 hwn (by lia) W3.vkey K3.hk K3.nm K3.len fun tA acc H4 htA0 htA hac hE4 => ?_
      refine contQ_next ?_
      have htG : G3 tA = none := by
        cases e : G3 tA with
        | none => rfl
        | some t => exact absurd htA0 (X3.live e)
      have W4 : L6.HV C nA kd i j ly kt nt (setL m3 "there" (.ref tA)) := ⟨by have := W3.vk; walk_at "lk", by have := W3.vkey; walk_at "lk", by have := W3.vi; walk_at "lk", by have := W3.vj; walk_at "lk", by have := W3.vl; walk_at "lk", by have := W3.vnm; walk_at "lk"⟩
      have o4 : offL L6.tL m (setL m3 "there" (.ref tA)) := (o1.trans (o3.more (by decide))).put (by decide)
      refine W_cons' ?_
      refine L6.lay_ok (kt := kt) (nt := nt) (i := i) rfl D hA hA' hroom (V3.of (L := ["there"]) ((offL.refl _ _).put (by decide)) (by decide)) (X3.ext hE4) (by lia) (by lia) hgc W4 (K3.ext fun a xs e => hE4 _ _ e) hj hkd (by walk_at "lk") (by walk_at "lk") (hwv3.ext fun a xs e => hE4 _ _ e) hwn (by lia) (by walk_at "lk") htab hwn1 (hE4 _ _ r1) setL_same htG htA hac fun m5 H5 rows5 VA5 G5 X5 o5 => ?_
      refine contQ_next ?_
      refine W_nil ?_
      exact h m5 H5 rows5 VA5 G5 _ X5 (o4.trans (o5.more (by decide)))
  · obtain ⟨rfl, ⟨tk, rfl⟩, rfl, rfl, rfl⟩ := hxc
    have hne : rows.filter (barredR wf) ≠ [] := fun e => by have := hbar.mp e; cases this
    refine WH_hitAs excClass_KeyError D.blt.keyError (kindS rfl) (kindS rfl) sub_key_key (by decide) (by decide) fun kh te hkh he hte hne' => ?_
    haveI := hkh.senv (sc := fnScope L6.fLaw) (cn := cellNames (fnScope L6.fLaw).names)
    have hkhA : kh.A.units = k.A.units := by rw [hkh.A]; rfl
    have hE : Ext H1 (upd (upd H1 te (.tup [.str nestMsg tk])) e (.exc "KeyError" (some te))) := (Ext.upd hte).trans (Ext.upd (by rw [show upd H1 te (AObj.tup [.str nestMsg tk]) e = H1 e by simp [upd, Ne.symm hne']]; exact he))
    have hte' : upd (upd H1 te (.tup [.str nestMsg tk])) e (.exc "KeyError" (some te)) te = some (.tup [.str nestMsg tk]) := upd_ne hne' upd_same
    refine W_cons' ?_
    refine W_If ?_
    refine WT_Or ?_
    refine W_allTrue_or ?_
    refine WT_Compare ?_
    refine W_Name (by walk_at "lk") ?_
    refine W_List ?_
    refine WItems_nil ⟨by simp [hz], fun l hl => ?_⟩
    refine WCmp_rowsNil (upd_fresh hl (hE _ _ hbA)) upd_same (hacc.ext (hE.trans (Ext.upd hl))) (fun r hr => okW_nm (X.nm r (List.mem_filter.mp hr).1)) (by rw [hkhA]; exact hun2) ?_
    refine WTr_bool ?_
    rw [show (rows.filter (barredR wf)).isEmpty = false by cases q : rows.filter (barredR wf) with | nil => exact absurd q hne | cons _ _ => rfl]
    refine iteF ?_
    refine W_allTrue_or ?_
    refine WT_Compare ?_
    refine W_getArgs excAttr_KeyError setL_same (upd_fresh hl upd_same) ?_
    refine W_Tuple ?_
    refine WItems_cons ?_
    refine W_str fun tk2 _ => ?_
    refine WItems_nil ⟨by simp [hz], fun t2 ht2 => ?_⟩
    refine WCmp_neD (da := .tuple [.str nestMsg]) (db := .tuple [.str nestMsg]) (r := false) ⟨te, _, rfl, upd_fresh ht2 (upd_fresh hl hte'), _, _, rfl, ⟨tk, rfl⟩, rfl⟩ ⟨t2, _, rfl, upd_same, _, _, rfl, ⟨tk2, rfl⟩, rfl⟩ (by decide +kernel) (by decide +kernel) (by decide) (by rw [hkhA]; exact hun2) (by simp) ?_
    refine WTr_bool ?_
    refine iteF ?_
    refine W_allTrue_nilO ?_
    refine iteF ?_
    refine W_nil ?_
    refine contQ_next ?_
    refine W_nil ?_
    refine h _ _ rows VA G gv { X.ext (hE.trans ((Ext.upd hl).trans (Ext.upd ht2))) with cnt := by lia, gcnt := fun r hr => by have := X.gcnt r hr; lia, gvl := by have := X.gvl; lia } fun y hy => ?_
    unfold clr
    rw [if_neg (fun q => hy (by rw [q]; decide)), setL_off (fun q => hy (by rw [q]; decide))]
end
section
theorem LH6.more {C nA rA gA : Addr} {rows : List LR} {n : Nat} {VA : Vals} {G : Ghost} {gv : List Way} {D D' : Nat} {H : AHeap} (X : LH6 C nA rA gA rows rows n VA G gv D H) (h : D ≤ D') : LH6 C nA rA gA rows rows n VA G gv D' H :=
  { X with cnt := by have := X.cnt; lia, gcnt := fun r hr => by have := X.gcnt r hr; lia, gvl := by have := X.gvl; lia }
set_option maxHeartbeats 1000000 in
theorem L6.deal_ok {k : Wk} {m : Loc} {H : AHeap} {S3 : Stmt} {C fI fG fA fK fD fR fS fL nA rA gA sa : Addr} {ns : List Int} {VA : Vals} {G : Ghost} {Q : Flow → Loc → AHeap → Prop} [sv : SEnv k (fnScope L6.fLaw) (cellNames (fnScope L6.fLaw).names)]
    (h3 : S3 = stm (fnBody L6.fLaw) 3) (D : L6.Defs k.c C fI fG fA fK fD fR fS fL) (hA : Room k.A) (hA' : k.A.depth ≤ 500 ∧ k.A.units ≤ 1500) (hroom : Roomy k) (hfr : k.env.frame = some k.env.locals) (V0 : L6.LV nA rA gA m) (X : LH6 C nA rA gA [] [] 1 VA G [] 0 H) (vs : m "script" = some (.ref sa)) (hsa : BaseL k.c sa (ns.map .int)) (hl : ns.length ≤ 63)
    (h : ∀ m' H' rows n VA G gv, LH6 C nA rA gA rows rows n VA G gv 50 H' → L6.LV nA rA gA m' → Q .next m' H') : W k (exec S3 k.env) m H Q := by
  subst h3
  have hh : k.A.handled = none := hA.handled
  have hz : sizeLine = _ := sizeLine_eq
  obtain ⟨fo, fd, hfo, hfd⟩ := D.deeds.obj
  refine W_ForEnum hh ?h ?hs
  case hs => intro y; rfl
  refine W_CallT D.blt.enum (kindS rfl) ?_
  refine WItems_cons ?_
  refine W_CallF D.gDeeds (kindS rfl) hfo hfd ?_
  refine WItems_cons ?_
  refine W_Name vs ?_
  refine WItems_nil ?_
  refine FnV.mono (L6.deeds_ok D.blt D.gAbs D.deeds hA hsa hl) (fun v H1 q => ?_) (fun _ _ _ q => q.elim)
  obtain ⟨dA, dvs, rfl, hE1, hdA0, hdA, hds, hdl⟩ := q
  refine WItems_nil ?_
  refine WCall_enum hdA fun e it oi he hit hne hli => ?_
  generalize hps : (dA :: dvs.filterMap fun v => match v with | .ref a => some a | _ => none) = ps
  have psd : dA ∈ ps := by rw [← hps]; exact List.mem_cons_self
  have pst : ∀ a, V.ref a ∈ dvs → a ∈ ps := fun a ha => by
    rw [← hps]
    exact List.mem_cons_of_mem _ (List.mem_filterMap.mpr ⟨_, ha, rfl⟩)
  have ps0 : ∀ p ∈ ps, H p = none ∧ H1 p ≠ none := fun p hp => by
    rw [← hps] at hp
    rcases List.mem_cons.mp hp with rfl | hp
    · exact ⟨hdA0, by rw [hdA]; simp⟩
    · obtain ⟨v, hv, e⟩ := List.mem_filterMap.mp hp
      cases v <;> simp at e
      subst e
      obtain ⟨⟨a, o, d, b, q1, q2, _⟩, hf⟩ := hds _ hv
      cases q1
      exact ⟨hf _ rfl, by rw [q2]; simp⟩
  have hEd : Ext H (delF ps H1) := fun a y e => by
    rw [delF_out (fun q => by rw [(ps0 a q).1] at e; cases e)]
    exact hE1 _ _ e
  refine ⟨e, it, oi, dA, dvs, H1, rfl, rfl, he, hit, hne, hli, fun i m' H' => (∃ rows n VA G gv, LH6 C nA rA gA rows rows n VA G gv i (delF ps H')) ∧ L6.LV nA rA gA m' ∧ ∀ p ∈ ps, H' p = H1 p, ⟨⟨[], 1, VA, G, [], X.ext hEd⟩, V0, fun _ _ => rfl⟩, fun i m' H' q => by rw [q.2.2 dA psd]; exact hdA, ?_, ?_⟩
  · intro i x m2 H2 p hx hI hp
    obtain ⟨⟨rows, n, VA, G, gv, XI⟩, VI, hsame⟩ := hI
    have hi : i < 50 := Nat.lt_of_lt_of_le (List.getElem?_eq_some_iff.mp hx).1 hdl
    obtain ⟨⟨a, ot, d, b, rfl, ha, ho, hd⟩, _⟩ := hds x (List.mem_of_getElem? hx)
    have hap := pst a (List.mem_of_getElem? hx)
    have hpp : p ∉ ps := fun q => by
      have := hsame p q
      rw [hp] at this
      exact (ps0 p q).2 this.symm
    have ha2 : upd H2 p (.tup [.int (i : Int), .ref a]) a = some (.tup [.int (ot : Int), .int (d : Int), .bool b]) := by
      refine upd_ne (fun q => hpp (q ▸ hap)) ?_
      rw [hsame a hap]; exact ha
    refine WAs_Tup hh upd_same rfl (by rfl) (by simp [assignEach]) ?_
    refine WAsL_cons ?_
    refine WAs_Name ?s0 ?_
    case s0 => exact stor rfl
    refine WAsL_cons ?_
    refine WAs_Tup hh ha2 rfl (by rfl) (by simp [assignEach]) ?_
    refine WAsL_cons ?_
    refine WAs_Name ?s0 ?_
    case s0 => exact stor rfl
    refine WAsL_cons ?_
    refine WAs_Name ?s0 ?_
    case s0 => exact stor rfl
    refine WAsL_cons ?_
    refine WAs_Name ?s0 ?_
    case s0 => exact stor rfl
    refine WAsL_nil ?_
    refine WAsL_nil ?_
    have o3 : offL ["place", "other", "d", "begins"] m2 (setL (setL (setL (setL m2 "place" (.int (i : Int))) "other" (.int (ot : Int))) "d" (.int (d : Int))) "begins" (.bool b)) := ((((offL.refl _ _).put (by decide)).put (by decide)).put (by decide)).put (by decide)
    have vp3 : setL (setL (setL (setL m2 "place" (.int (i : Int))) "other" (.int (ot : Int))) "d" (.int (d : Int))) "begins" (.bool b) "place" = some (.int (i : Int)) := by walk_at "lk"
    have vo3 : setL (setL (setL (setL m2 "place" (.int (i : Int))) "other" (.int (ot : Int))) "d" (.int (d : Int))) "begins" (.bool b) "other" = some (.int (ot : Int)) := by walk_at "lk"
    have vd3 : setL (setL (setL (setL m2 "place" (.int (i : Int))) "other" (.int (ot : Int))) "d" (.int (d : Int))) "begins" (.bool b) "d" = some (.int (d : Int)) := by walk_at "lk"
    have vb3 : setL (setL (setL (setL m2 "place" (.int (i : Int))) "other" (.int (ot : Int))) "d" (.int (d : Int))) "begins" (.bool b) "begins" = some (.bool b) := setL_same
    generalize setL (setL (setL (setL m2 "place" (.int (i : Int))) "other" (.int (ot : Int))) "d" (.int (d : Int))) "begins" (.bool b) = m3 at o3 vp3 vo3 vd3 vb3 ⊢
    have V3 := VI.of o3 (by decide)
    have hsame3 : ∀ q ∈ ps, upd H2 p (.tup [.int (i : Int), .ref a]) q = H1 q := fun q hq => by
      rw [show upd H2 p (.tup [.int (i : Int), .ref a]) q = H2 q from if_neg (show ¬ (q = p) from fun z => hpp (by rw [← z]; exact hq))]
      exact hsame q hq
    have X3 : LH6 C nA rA gA rows rows n VA G gv i (delF ps (upd H2 p (.tup [.int (i : Int), .ref a]))) := by
      rw [delF_upd hpp]
      exact XI.ext (Ext.upd (by rw [delF_out hpp]; exact hp))
    generalize upd H2 p (.tup [.int (i : Int), .ref a]) = H3 at hsame3 X3 ⊢
    refine W_frameS ps H3 _ (fun q hq => by rw [hsame3 q hq]; exact (ps0 q hq).2) ?_
    have back : ∀ m' H' rows' n' VA' G' gv', LH6 C nA rA gA rows' rows' n' VA' G' gv' (i + 1) H' → L6.LV nA rA gA m' → (∀ p ∈ ps, H' p = none) → loopQ k Q ((fun i m' H' => (∃ rows n VA G gv, LH6 C nA rA gA rows rows n VA G gv i (delF ps H')) ∧ L6.LV nA rA gA m' ∧ ∀ p ∈ ps, H' p = H1 p) (i + 1)) .next m' (mixF ps H3 H') := fun m' H' rows' n' VA' G' gv' X' V' hn =>
      loopQ_next ⟨⟨rows', n', VA', G', gv', by rw [delF_mix hn]; exact X'⟩, V', fun q hq => by rw [mixF_in hq]; exact hsame3 q hq⟩
    refine W_hide fun QL hQL => ?_
    show W k (execs [stm L6.lp 0, stm L6.lp 1, stm L6.lp 2, stm L6.lp 3, stm L6.lp 4, stm L6.lp 5, stm L6.lp 6, stm L6.lp 7, stm L6.lp 8, stm L6.lp 9] k.env) m3 _ QL
    refine W_cons' ?_
    refine L6.begin_ok rfl D hA hA' V3 X3 vb3 fun H4 n4 VA4 G4 X4 _ _ => ?_
    refine contQ_next ?_
    obtain ⟨xs, n1, n2, n3⟩ := id X4.nests
    refine L6.head_ok (C := C) rfl rfl rfl rfl rfl rfl D hA hA' hroom vd3 vo3 V3.vn n1 n2 X4.n0 X4.n6 fun m5 H5 kd i5 j5 ly kt nt ps5 qs5 W5 K5 hE5 o5 hk8 hi5 hj5 => ?_
    have V5 := V3.of o5 (by decide)
    have vp5 := (o5 "place" (by decide)).trans vp3
    refine L6.way_ok rfl rfl D hA hA' V5 (X4.ext hE5) (by lia) W5 K5 fun m6 H6 wv bA acc vw hwv vb hbA hacc hE6 o6 => ?_
    have off6 : ∀ y : Str, y ∉ (["way", "barred"] : List Str) → m6 y = m5 y := o6
    have V6 := V5.of o6 (by decide)
    have W6 : L6.HV C nA kd i5 j5 ly kt nt m6 := ⟨(off6 _ (by decide)).trans W5.vk, (off6 _ (by decide)).trans W5.vkey, (off6 _ (by decide)).trans W5.vi, (off6 _ (by decide)).trans W5.vj, (off6 _ (by decide)).trans W5.vl, (off6 _ (by decide)).trans W5.vnm⟩
    refine W_cons' ?_
    refine L6.try_ok rfl D hA hA' hroom hfr V6 ((X4.ext hE5).ext hE6) (by lia) W6 (K5.ext fun a xs e => hE6 _ _ e) hi5 hj5 hk8 ((off6 _ (by decide)).trans vp5) vw hwv vb hbA hacc fun m7 H7 rows7 VA7 G7 gv7 X7 o7 => ?_
    refine contQ_next ?_
    refine W_nil ?_
    exact hQL _ _ _ (back m7 H7 rows7 n4 VA7 G7 gv7 X7 (V6.of o7 (by decide)))
  · intro m2 H2 hI
    obtain ⟨⟨rows, n, VA, G, gv, XI⟩, VI, hsame⟩ := hI
    have hE2 : Ext (delF ps H2) H2 := fun a y e => (delF_some e).2
    exact h m2 H2 rows n VA G gv ((XI.ext hE2).more hdl) VI
end
section
theorem L6.roots_ok {k : Wk} {m : Loc} {H : AHeap} {S4 : Stmt} {C fI fG fA fK fD fR fS fL nA rA gA : Addr} {rows : List LR} {n : Nat} {VA : Vals} {G : Ghost} {gv : List Way} {Q : Flow → Loc → AHeap → Prop} [sv : SEnv k (fnScope L6.fLaw) (cellNames (fnScope L6.fLaw).names)]
    (h4 : S4 = stm (fnBody L6.fLaw) 4) (D : L6.Defs k.c C fI fG fA fK fD fR fS fL) (hA : Room k.A) (V0 : L6.LV nA rA gA m) (X : FH C nA rA gA rows n VA G gv (fun _ => []) H)
    (h : ∀ m' H', FH C nA rA gA rows n VA G gv (rootE n) H' → L6.LV nA rA gA m' → Q .next m' H') : W k (exec S4 k.env) m H Q := by
  subst h4
  have hh : k.A.handled = none := hA.handled
  have hz : sizeLine = _ := sizeLine_eq
  obtain ⟨xs, n1, n2, n3⟩ := id X.nests
  have hn6 := X.n6
  refine W_For ?h ?hs
  case hs => intro y; rfl
  refine W_CallT D.blt.range (kindS rfl) ?_
  refine WItems_cons ?_
  refine W_CallB D.blt.len (kindS rfl) ?_
  refine WItems_cons ?_
  refine W_Name V0.vn ?_
  refine WItems_nil ?_
  refine WCall_lenL n1 (by rw [List.length_map]; lia) ?_
  rw [List.length_map, n2]
  refine WItems_nil ?_
  refine WCall_range1 fun rg hrg => ?_
  have e0 : rootE 0 = fun _ => [] := funext fun w => if_neg (fun q => absurd q.2 (Nat.not_lt_zero _))
  refine ⟨_, _, _, fun i m' H' => FH C nA rA gA rows n VA G gv (rootE i) H' ∧ L6.LV nA rA gA m', WIter_range hh upd_same (small_up (by lia)), ⟨by rw [e0]; exact X.ext (Ext.upd hrg), V0⟩, fun _ _ _ _ => trivial, ?_, ?_⟩
  · intro i v m' H' hi hR hI
    obtain ⟨XI, VI⟩ := hI
    rw [rangeN_up] at hi
    obtain rfl : v = .int (i : Int) := by rw [hR]; simp
    obtain ⟨a, ep, e1, e2, e3⟩ := XI.tab (i, []) hi (.inl rfl)
    refine WAs_Name ?s0 ?_
    case s0 => exact stor rfl
    refine W_hide fun QL hQL => ?_
    have o2 : offL ["i"] m' (setL m' "i" (.int (i : Int))) := (offL.refl _ _).put (by decide)
    have vi : setL m' "i" (.int (i : Int)) "i" = some (.int (i : Int)) := setL_same
    generalize setL m' "i" (.int (i : Int)) = m2 at o2 vi ⊢
    have V2 := VI.of o2 (by decide)
    have he : rootE i (i, []) = [] := if_neg (fun q => absurd q.2 (Nat.lt_irrefl _))
    rw [he] at e3
    refine W_cons' ?_
    refine W_AssignSub ?_
    refine W_Name vi ?_
    refine L6.nestOf D.nest.kls rfl XI.nests hi hn6 V2.vn vi ⟨a, e1⟩ ?_ (by decide) (by decide)
    refine W_str fun t _ => ?_
    rw [e1]
    have hkl := kids_length (rows := rows) (VA := VA) (i, [])
    have hcnt := XI.cnt
    have hno : getK (kids rows VA (i, []) ++ []) (.inr "root") = none := by rw [List.append_nil]; exact XI.noKid (by decide)
    refine WSet_dict e3 (key := .inr "root") (by simp [isKV]) (by rw [List.append_nil, hz]; lia) ?_
    rw [putK_new hno, List.append_nil]
    refine contQ_next ?_
    refine W_nil ?_
    refine hQL _ _ _ (loopQ_next ⟨?_, V2⟩)
    have X2 := XI.put (w := (i, [])) (new := [(.inr "root", .int (i : Int))]) (ep := epK (kids rows VA (i, [])) (.inr "root") ep) hi (.inl rfl) e1
    have ee : (fun u => if u = (i, []) then rootE i (i, []) ++ [(.inr "root", .int (i : Int))] else rootE i u) = rootE (i + 1) := funext fun u => by
      by_cases q : u = (i, [])
      · rw [if_pos q, he, q]
        exact (if_pos ⟨rfl, Nat.lt_succ_self i⟩).symm
      · rw [if_neg q]
        unfold rootE
        by_cases q1 : u.2 = [] ∧ u.1 < i
        · rw [if_pos q1, if_pos ⟨q1.1, Nat.lt_succ_of_lt q1.2⟩]
        · rw [if_neg q1, if_neg (fun z => q1 ⟨z.1, by
            rcases Nat.lt_or_eq_of_le (Nat.le_of_lt_succ z.2) with y | y
            · exact y
            · exact absurd (Prod.ext y z.1) q⟩)]
    rw [ee, he, List.nil_append] at X2
    exact X2
  · intro m' H' hI
    rw [rangeN_up] at hI
    exact h m' H' hI.1 hI.2
theorem L6.marks_ok {k : Wk} {m : Loc} {H : AHeap} {S5 : Stmt} {C fI fG fA fK fD fR fS fL nA rA gA : Addr} {rows : List LR} {n : Nat} {VA : Vals} {G : Ghost} {gv : List Way} {Q : Flow → Loc → AHeap → Prop} [sv : SEnv k (fnScope L6.fLaw) (cellNames (fnScope L6.fLaw).names)]
    (h5 : S5 = stm (fnBody L6.fLaw) 5) (D : L6.Defs k.c C fI fG fA fK fD fR fS fL) (hA : Room k.A) (V0 : L6.LV nA rA gA m) (X : FH C nA rA gA rows n VA G gv (rootE n) H)
    (h : ∀ m' H' G' LA, MH C nA rA gA rows n VA G' gv gv.length LA H' → L6.LV nA rA gA m' → Q .next m' H') : W k (exec S5 k.env) m H Q := by
  subst h5
  have hh : k.A.handled = none := hA.handled
  have hz : sizeLine = _ := sizeLine_eq
  obtain ⟨us, g1, g2, _⟩ := id X.giv
  have hgl := X.gvl
  refine W_For ?h ?hs
  case hs => intro y; rfl
  refine W_CallT D.blt.range (kindS rfl) ?_
  refine WItems_cons ?_
  refine W_CallB D.blt.len (kindS rfl) ?_
  refine WItems_cons ?_
  refine W_Name V0.vg ?_
  refine WItems_nil ?_
  refine WCall_lenL g1 (by lia) ?_
  rw [g2]
  refine WItems_nil ?_
  refine WCall_range1 fun rg hrg => ?_
  have X0 : MH C nA rA gA rows n VA G gv 0 (fun _ => 0) (upd H rg (.range 0 (gv.length : Int) 1)) := by
    refine ⟨?_, fun w hw => absurd rfl hw⟩
    have e0 : (fun w => rootE n w ++ atE gv 0 (fun _ => 0) w) = rootE n := funext fun w => by
      show rootE n w ++ (if marksOf gv 0 w = [] then [] else _) = _
      rw [if_pos (show marksOf gv 0 w = [] from rfl), List.append_nil]
    rw [e0]
    exact X.ext (Ext.upd hrg)
  refine ⟨_, _, _, fun i m' H' => (∃ G' LA, MH C nA rA gA rows n VA G' gv i LA H') ∧ L6.LV nA rA gA m', WIter_range hh upd_same (small_up (by lia)), ⟨⟨G, _, X0⟩, V0⟩, fun _ _ _ _ => trivial, ?_, ?_⟩
  · intro j v m' H' hj hR hI
    obtain ⟨⟨G', LA, M⟩, VI⟩ := hI
    rw [rangeN_up] at hj
    obtain rfl : v = .int (j : Int) := by rw [hR]; simp
    refine WAs_Name ?s0 ?_
    case s0 => exact stor rfl
    refine W_hide fun QL hQL => ?_
    have o2 : offL ["k"] m' (setL m' "k" (.int (j : Int))) := (offL.refl _ _).put (by decide)
    have vk : setL m' "k" (.int (j : Int)) "k" = some (.int (j : Int)) := setL_same
    generalize setL m' "k" (.int (j : Int)) = m2 at o2 vk ⊢
    have V2 := VI.of o2 (by decide)
    obtain ⟨vs, q1, q2, q3⟩ := id M.fh.giv
    have hw : gv[j]? = some gv[j] := List.getElem?_eq_getElem hj
    have hv : vs[j]? = some (vs[j]'(q2 ▸ hj)) := List.getElem?_eq_getElem _
    obtain ⟨htw, hwn, b, wv, hb, hbt, _⟩ := q3 j _ _ hv hw
    generalize gv[j] = w at hw htw hwn hbt
    rw [hb] at hv
    obtain ⟨a, ep, e1, e2, e3⟩ := M.fh.tab w hwn htw
    have hkl := kids_length (rows := rows) (VA := VA) w
    have hcnt := M.fh.cnt
    have hrl : (rootE n w).length ≤ 1 := by unfold rootE; split <;> simp
    have hal : (atE gv j LA w).length ≤ 1 := by unfold atE; split <;> simp
    have hms : marksOf gv (j + 1) w = marksOf gv j w ++ [j] := by rw [marksOf_succ, if_pos hw]
    have hmo : ∀ u, u ≠ w → marksOf gv (j + 1) u = marksOf gv j u := fun u hu => by
      rw [marksOf_succ, if_neg (fun q => hu (by rw [hw] at q; exact (Option.some.inj q).symm)), List.append_nil]
    have hrn : getK (rootE n w) (.inr "at") = none := by
      unfold rootE
      split
      · rfl
      · rfl
    refine W_cons' ?_
    refine W_ExprStmt ?_
    refine W_CallM' PySem.F.plainAttrs_list PySem.F.slot_list_append PySem.F.type_list_append ?_
    refine W_CallM' PySem.F.plainAttrs_dict PySem.F.slot_dict_setdefault PySem.F.type_dict_setdefault ?_
    refine W_Subscript ?_
    refine W_Subscript ?_
    refine W_Name V2.vg ?_
    refine W_Name vk ?_
    refine WSub_list q1 (Int.natCast_nonneg j) (by lia) (by rw [Int.toNat_natCast]; exact hv) ?_
    refine W_int ?_
    refine WSub_tup (j := 1) hbt (by decide) (by decide) rfl rfl ?_
    rw [e1]
    refine ⟨onDict e3, ?_⟩
    refine WItems_cons ?_
    refine W_str fun t _ => ?_
    refine WItems_cons ?_
    refine W_List ?_
    refine WItems_nil ⟨by simp [hz], fun l hl => ?_⟩
    refine WItems_nil ?_
    have hGl : G' l = none := by
      cases e : G' l with
      | none => rfl
      | some t => exact absurd hl (M.fh.live l t e)
    have hal2 : a ≠ l := fun q => by rw [q, hl] at e3; cases e3
    refine WCall_setdefault (upd_fresh hl e3) (key := .inr "at") (by simp [isKV]) (by rw [List.length_append, List.length_append, hz]; lia) (fun u hu => ?_) (fun hno => ?_)
    · rw [getK_append, M.fh.noKid (by decide), Option.none_or, getK_append, hrn, Option.none_or] at hu
      have hne : marksOf gv j w ≠ [] := fun q => by
        unfold atE at hu
        rw [if_pos q] at hu; cases hu
      obtain rfl : u = .ref (LA w) := by
        unfold atE at hu
        rw [if_neg hne] at hu
        exact (Option.some.inj hu).symm
      obtain ⟨hl1, hl2⟩ := M.at_ w hne
      have hlw : LA w ≠ l := fun q => by rw [q, hl] at hl1; cases hl1
      refine ⟨onList (upd_fresh hl hl1), ?_⟩
      refine WItems_cons ?_
      refine W_Name vk ?_
      refine WItems_nil ?_
      have hml : (marksOf gv j w).length ≤ j := by unfold marksOf; exact Nat.le_trans (List.length_filter_le _ _) (by rw [List.length_range]; exact Nat.le_refl _)
      refine WCall_append (upd_fresh hl hl1) (by rw [List.length_map, hz]; lia) ?_
      refine contQ_next ?_
      refine W_nil ?_
      refine hQL _ _ _ (loopQ_next ⟨⟨G', LA, ?_, fun u hu => ?_⟩, V2⟩)
      · have := (M.fh.ext (Ext.upd (x := .list []) hl)).mark (y := .list ((marksOf gv j w).map (fun (k : Nat) => V.int (k : Int)) ++ [.int (j : Int)])) hl2 (upd_fresh hl hl1)
        have ee : (fun w => rootE n w ++ atE gv j LA w) = fun w => rootE n w ++ atE gv (j + 1) LA w := funext fun u => by
          unfold atE
          by_cases q : u = w
          · rw [q, if_neg hne, if_neg (by rw [hms]; simp)]
          · rw [hmo u q]
        rw [ee] at this
        exact this
      · by_cases q : u = w
        · subst q
          rw [hms]
          exact ⟨by rw [upd_same, List.map_append]; rfl, hl2⟩
        · rw [hmo u q] at hu ⊢
          obtain ⟨z1, z2⟩ := M.at_ u hu
          exact ⟨upd_ne (fun y => by rw [y, hl2] at z2; exact q (Tag.marks.inj (Option.some.inj z2)).symm) (upd_fresh hl z1), z2⟩
    · have hme : marksOf gv j w = [] := by
        rw [getK_append, M.fh.noKid (by decide), Option.none_or, getK_append, hrn, Option.none_or] at hno
        unfold atE at hno
        by_cases q : marksOf gv j w = []
        · exact q
        · rw [if_neg q] at hno; simp [getK] at hno
      have hl2 : upd (upd H' l (.list [])) a (.dict (kids rows VA w ++ (rootE n w ++ atE gv j LA w) ++ [(.inr "at", .ref l)]) (ep + 1)) l = some (.list []) := upd_ne (Ne.symm hal2) upd_same
      refine ⟨onList hl2, ?_⟩
      refine WItems_cons ?_
      refine W_Name vk ?_
      refine WItems_nil ?_
      refine WCall_append hl2 (by simp) ?_
      refine contQ_next ?_
      refine W_nil ?_
      refine hQL _ _ _ (loopQ_next ⟨⟨updG G' l (.marks w), fun u => if u = w then l else LA u, ?_, fun u hu => ?_⟩, V2⟩)
      · have F1 := (M.fh.ext (Ext.upd (x := .list []) hl)).tag (w := w) hGl (by rw [upd_same]; simp)
        have F2 := F1.put (w := w) (a := a) (new := [(.inr "at", .ref l)]) (ep := ep + 1) hwn htw e1
        rw [← List.append_assoc] at F2
        have F3 := F2.mark (w := w) (y := .list ([] ++ [.int (j : Int)])) updG_same hl2
        have ee : (fun u => if u = w then (rootE n w ++ atE gv j LA w) ++ [(.inr "at", .ref l)] else rootE n u ++ atE gv j LA u) = fun u => rootE n u ++ atE gv (j + 1) (fun u => if u = w then l else LA u) u := funext fun u => by
          unfold atE
          by_cases q : u = w
          · rw [if_pos q, q, hme, if_pos rfl, List.append_nil, if_neg (by rw [hms]; simp)]
            simp
          · rw [if_neg q, hmo u q]
            simp only [if_neg q]
        rw [ee] at F3
        exact F3
      · by_cases q : u = w
        · subst q
          rw [hms, hme, if_pos rfl]
          exact ⟨upd_same, updG_same⟩
        · rw [hmo u q] at hu ⊢
          rw [if_neg q]
          obtain ⟨z1, z2⟩ := M.at_ u hu
          have n1 : LA u ≠ l := fun y => by rw [y, hl] at z1; cases z1
          exact ⟨upd_ne n1 (upd_ne (fun y => by rw [y, e3] at z1; cases z1) (upd_fresh hl z1)), by rw [updG_ne n1]; exact z2⟩
  · intro m' H' hI
    rw [rangeN_up] at hI
    obtain ⟨⟨G', LA, M⟩, VI⟩ := hI
    exact h m' H' G' LA M VI
end
section
noncomputable abbrev L6.vB : List Stmt := forBody (stm (fnBody L6.fLaw) 6)
theorem IsWay.par {H H' : AHeap} {w : Way} {qs : List (Str × Tok)} {b : Addr} (hn : w.2 ≠ []) (hq : qs.map (·.1) = w.2) (hb : H' b = some (.tup ((.int (w.1 : Int) :: strsV qs).dropLast))) : IsWay H' (parN w) (.ref b) := by
  have hne : strsV qs ≠ [] := fun e => hn (by
    have : qs = [] := by
      unfold strsV at e
      simpa using e
    rw [← hq, this]; rfl)
  refine ⟨b, qs.dropLast, rfl, ?_, by rw [List.map_dropLast, hq]; rfl⟩
  rw [hb, List.dropLast_cons_of_ne_nil hne]
  unfold strsV
  rw [List.map_dropLast]; rfl
theorem okW_par {w : Way} (h : okW w = true) : okW (parN w) = true := by
  unfold okW at h ⊢
  rw [List.all_eq_true] at h ⊢
  exact fun x hx => h x (List.mem_of_mem_take (by rw [← List.dropLast_eq_take]; exact hx))
theorem FH.okTab {C nA rA gA : Addr} {rows : List LR} {n : Nat} {VA : Vals} {G : Ghost} {gv : List Way} {ex : Way → List (Key × V)} {H : AHeap} (h : FH C nA rA gA rows n VA G gv ex H) {w : Way} (ht : isTab rows w) : okW w = true ∧ w.2.length ≤ 10 ∧ ∀ x ∈ w.2, isNm x = true := by
  rcases ht with ht | ⟨r, hr, rfl, _⟩
  · exact ⟨okW_nm (by rw [ht]; intro x hx; cases hx), by rw [ht]; simp, by rw [ht]; intro x hx; cases hx⟩
  · exact ⟨okW_nm (h.nm r hr), h.len r hr, h.nm r hr⟩
set_option maxHeartbeats 1000000 in
theorem L6.here_ok {k : Wk} {m : Loc} {H : AHeap} {S0 S1 : Stmt} {rest : List Stmt} {C fI fG fA fK fD fR fS fL nA rA gA : Addr} {rows : List LR} {n : Nat} {VA : Vals} {G : Ghost} {gv : List Way} {LA : Way → Addr} {w : Way} {wv : V} {Q : Flow → Loc → AHeap → Prop} [sv : SEnv k (fnScope L6.fLaw) (cellNames (fnScope L6.fLaw).names)]
    (h0 : S0 = stm L6.vB 0) (h1 : S1 = stm L6.vB 1) (D : L6.Defs k.c C fI fG fA fK fD fR fS fL) (hA : Room k.A) (hA' : k.A.depth ≤ 500 ∧ k.A.units ≤ 1500) (V0 : L6.LV nA rA gA m) (M : MH C nA rA gA rows n VA G gv gv.length LA H) (vw : m "way" = some wv) (hwv : IsWay H w wv) (hwt : isTab rows w)
    (h : ∀ m' H' hA acc kA, m' "here" = some (.ref hA) → H' hA = some (.list acc) → RowsIn H' acc (rows.filter fun r => decide (parN r.w = w)) → m' "marks" = some (.ref kA) → H' kA = some (.list ((marksOf gv gv.length w).map fun (k : Nat) => V.int (k : Int))) → Ext H H' → offL ["here", "marks"] m m' → W k (execs rest k.env) m' H' Q) : W k (execs (S0 :: S1 :: rest) k.env) m H Q := by
  subst h0; subst h1
  have hh : k.A.handled = none := hA.handled
  have hz : sizeLine = _ := sizeLine_eq
  have hu64 : k.A.units + 64 < cLine := Nat.lt_of_le_of_lt (m := 2070) (by lia) (by decide)
  have hcnt := M.fh.cnt
  have hgl := M.fh.gvl
  obtain ⟨hokw, hwl, _⟩ := M.fh.okTab hwt
  obtain ⟨vs, r1, r2, _⟩ := id M.fh.rws
  refine W_cons' ?_
  refine W_Assign_ListComp ?s0 ?s1 ?s2 ?s3 ?s4 ?s5 ?_
  case s0 => rfl
  case s1 => rfl
  case s2 => rfl
  case s3 => rfl
  case s4 => rfl
  case s5 => rfl
  refine W_Name V0.vr ?_
  refine LC.rows (p := fun r => decide (parN r.w = w)) rfl hh (by decide) (by decide) r1 r2 (by lia) (fun kc hkc i r v mc H2 hr hri hE2 hcap hx => ?_) (fun hA acc H2 hE2 hhA hacc => ?_)
  · haveI sv1 := hkc.senv (sc := fnScope L6.fLaw) (cn := cellNames (fnScope L6.fLaw).names)
    have hrm := List.mem_of_getElem? hr
    refine WT_Compare ?_
    refine W_SubSlice ?_
    refine W_row0 rfl hx hri (fun rv hrv => ?_) (by decide) (by decide)
    refine WPart_none ?_
    refine WPart_some ?_
    refine W_UnaryOp ?_
    refine W_int ?_
    obtain ⟨ra, qs, rfl, hra, hqs⟩ := hrv.tup
    have hql : qs.length = r.w.2.length := by rw [← hqs, List.length_map]
    have hrl := M.fh.len r hrm
    refine WUn_neg ⟨_, rfl, ra, rfl, .inr ⟨_, hra, by rw [hz]; simp only [List.length_cons, strsV_length]; lia, fun b H3 hE3 hb => ?_⟩⟩
    rw [sliceV_dropLast'] at hb
    refine W_Name (hcap.get vw (by rfl)) ?_
    refine WCmp_eqWay (IsWay.par (H := H2) (M.fh.ok.rt r hrm).2 hqs hb) (hwv.ext fun a xs e => hE3 _ _ (hE2 _ _ e)) (okW_par (okW_nm (M.fh.nm r hrm))) hokw (by rw [hkc.A]; exact hu64) ?_
    exact WTr_bool ⟨rfl, rfl, hE3⟩
  refine contQ_next ?_
  have o1 : offL ["here", "marks"] m (setL m "here" (.ref hA)) := (offL.refl _ _).put (by decide)
  have vh1 : setL m "here" (.ref hA) "here" = some (.ref hA) := setL_same
  generalize setL m "here" (.ref hA) = m1 at o1 vh1 ⊢
  have V1 := V0.of o1 (by decide)
  have vw1 := (o1 "way" (by decide)).trans vw
  have hE3 := hE2.trans (Ext.upd (x := .list acc) hhA)
  have hh3 : upd H2 hA (.list acc) hA = some (.list acc) := upd_same
  have hacc3 := hacc.ext (Ext.upd (x := .list acc) hhA)
  generalize upd H2 hA (.list acc) = H3 at hE3 hh3 hacc3 ⊢
  have M3 := M.ext hE3
  obtain ⟨us, g1, g2, g3⟩ := id M3.fh.giv
  refine W_cons' ?_
  refine W_Assign_ListComp ?s0 ?s1 ?s2 ?s3 ?s4 ?s5 ?_
  case s0 => rfl
  case s1 => rfl
  case s2 => rfl
  case s3 => rfl
  case s4 => rfl
  case s5 => rfl
  refine W_CallT D.blt.range (kindS rfl) ?_
  refine WItems_cons ?_
  refine W_CallB D.blt.len (kindS rfl) ?_
  refine WItems_cons ?_
  refine W_Name V1.vg ?_
  refine WItems_nil ?_
  refine WCall_lenL g1 (by lia) ?_
  rw [g2]
  refine WItems_nil ?_
  refine WCall_range1 fun rg hrg => ?_
  refine ⟨_, _, _, fun i acc H4 => Ext (upd H3 rg (.range 0 (gv.length : Int) 1)) H4 ∧ acc = (marksOf gv i w).map fun (k : Nat) => V.int (k : Int), WIter_range hh upd_same (small_up (by lia)), ⟨Ext.refl _, rfl⟩, fun _ _ _ _ => trivial, by rw [rangeN_up, hz]; lia, ?_, ?_⟩
  · intro kc hkc j v acc4 mc H4 hj hv hI hcap hx
    obtain ⟨hE4, rfl⟩ := hI
    rw [rangeN_up] at hj
    obtain rfl : v = .int (j : Int) := by rw [hv]; simp
    haveI sv1 := hkc.senv (sc := fnScope L6.fLaw) (cn := cellNames (fnScope L6.fLaw).names)
    have hE34 := (Ext.upd (x := .range 0 (gv.length : Int) 1) hrg).trans hE4
    have hw : gv[j]? = some gv[j] := List.getElem?_eq_getElem hj
    have hvj : us[j]? = some (us[j]'(g2 ▸ hj)) := List.getElem?_eq_getElem _
    obtain ⟨htw, _, b, wv2, hb, hbt, hwv2⟩ := g3 j _ _ hvj hw
    rw [hb] at hvj
    refine W_tests_one ?_
    refine WT_Compare ?_
    refine W_Subscript ?_
    refine W_Subscript ?_
    refine W_Name (hcap.get V1.vg (by rfl)) ?_
    refine W_Name hx ?_
    refine WSub_list (hE34 _ _ g1) (Int.natCast_nonneg j) (by lia) (by rw [Int.toNat_natCast]; exact hvj) ?_
    refine W_int ?_
    refine WSub_tup (j := 0) (hE34 _ _ hbt) (by decide) (by decide) rfl rfl ?_
    refine W_Name (hcap.get vw1 (by rfl)) ?_
    refine WCmp_eqWay (hwv2.ext fun a xs e => hE34 _ _ e) (hwv.ext fun a xs e => hE34 _ _ (hE3 _ _ e)) (M.fh.okTab htw).1 hokw (by rw [hkc.A]; exact hu64) ?_
    refine WTr_bool ⟨rfl, ?_⟩
    rw [marksOf_succ]
    by_cases q : gv[j] = w
    · rw [decide_eq_true q, if_pos rfl, if_pos (by rw [hw, q])]
      refine W_Name hx ⟨rfl, hE4, ?_⟩
      rw [List.map_append]; rfl
    · rw [decide_eq_false q, if_neg Bool.false_ne_true, if_neg (by rw [hw]; exact fun z => q (Option.some.inj z)), List.append_nil]
      exact ⟨hE4, rfl⟩
  · intro kA acc4 H4 _ hI hkA
    rw [rangeN_up] at hI
    obtain ⟨hE4, rfl⟩ := hI
    refine contQ_next ?_
    have hE34 := (Ext.upd (x := .range 0 (gv.length : Int) 1) hrg).trans (hE4.trans (Ext.upd (x := .list ((marksOf gv gv.length w).map fun (k : Nat) => V.int (k : Int))) hkA))
    refine h _ _ hA acc kA ?_ (hE34 _ _ hh3) (hacc3.ext hE34) setL_same upd_same (hE3.trans hE34) (o1.put (by decide))
    walk_at "lk"
theorem L6.table_ok {k : Wk} {m : Loc} {H : AHeap} {S2 S3 : Stmt} {rest : List Stmt} {C fI fG fA fK fD fR fS fL nA rA gA : Addr} {rows : List LR} {n : Nat} {VA : Vals} {G : Ghost} {gv : List Way} {LA : Way → Addr} {w : Way} {wv : V} {Q : Flow → Loc → AHeap → Prop} [sv : SEnv k (fnScope L6.fLaw) (cellNames (fnScope L6.fLaw).names)]
    (h2 : S2 = stm L6.vB 2) (h3 : S3 = stm L6.vB 3) (D : L6.Defs k.c C fI fG fA fK fD fR fS fL) (hA : Room k.A) (V0 : L6.LV nA rA gA m) (M : MH C nA rA gA rows n VA G gv gv.length LA H) (vw : m "way" = some wv) (hwv : IsWay H w wv) (hwt : isTab rows w) (hwn : w.1 < n)
    (h : ∀ m' H', m' "table" = some (VA w) → Ext H H' → offL ["table", "name"] m m' → W k (execs rest k.env) m' H' Q) : W k (execs (S2 :: S3 :: rest) k.env) m H Q := by
  subst h2; subst h3
  have hh : k.A.handled = none := hA.handled
  have hz : sizeLine = _ := sizeLine_eq
  have hn6 := M.fh.n6
  obtain ⟨hokw, hwl, _⟩ := M.fh.okTab hwt
  obtain ⟨wa, ps, rfl, hwa, hps⟩ := hwv.tup
  have hpl : ps.length = w.2.length := by rw [← hps, List.length_map]
  obtain ⟨xs, n1, n2, n3⟩ := id M.fh.nests
  have hxi : xs[w.1]? = some (xs[w.1]'(n2 ▸ hwn)) := List.getElem?_eq_getElem _
  obtain ⟨dx, q1, q2⟩ := n3 _ _ hxi
  obtain ⟨a0, _, ea0, _, _⟩ := M.fh.tab (w.1, []) hwn (.inl rfl)
  refine W_cons' ?_
  refine W_Assign ?_ ?s0 ?s1
  case s0 => exact stor rfl
  case s1 => rfl
  refine W_getDictE ?_
  refine W_Subscript ?_
  refine W_Name V0.vn ?_
  refine W_Subscript ?_
  refine W_Name vw ?_
  refine W_int ?_
  refine WSub_tup (j := 0) hwa (by decide) (by decide) (seqIndex_nat' (i := 0) (by simp)) rfl ?_
  refine WSub_list n1 (Int.natCast_nonneg _) (by lia) (v := .ref (xs[w.1]'(n2 ▸ hwn))) (by rw [Int.toNat_natCast, List.getElem?_map, hxi]; rfl) ?_
  refine ⟨_, C, dx, fI, _, rfl, D.nest.kls, q1, q2, (fun i e => by rw [ea0] at e; cases e), ?_⟩
  refine contQ_next ?_
  have o1 : offL ["table", "name"] m (setL m "table" (VA (w.1, []))) := (offL.refl _ _).put (by decide)
  have vt1 : setL m "table" (VA (w.1, [])) "table" = some (VA (w.1, [])) := setL_same
  generalize setL m "table" (VA (w.1, [])) = m1 at o1 vt1 ⊢
  have vw1 := (o1 "way" (by decide)).trans vw
  refine W_cons' ?_
  refine W_For ?h ?hs
  case hs => intro y; rfl
  refine W_SubSlice ?_
  refine W_Name vw1 ?_
  refine WPart_some ?_
  refine W_int ⟨_, rfl, ?_⟩
  refine WPart_none ⟨wa, rfl, .inr ⟨_, hwa, by rw [hz]; simp only [List.length_cons, strsV_length]; lia, fun b H1 hE1 hb => ?_⟩⟩
  rw [show (1 : Int) = ((1 : Nat) : Int) from rfl, sliceV_drop, List.drop_succ_cons, List.drop_zero] at hb
  refine ⟨_, _, _, fun i m' H' => Ext H1 H' ∧ offL ["table", "name"] m m' ∧ m' "table" = some (VA (w.1, w.2.take i)), WIter_tup hh hb, ⟨Ext.refl _, o1, by rw [List.take_zero]; exact vt1⟩, fun i m' H' q => q.1 _ _ hb, ?_, ?_⟩
  · intro i v m' H' hi hR hI
    obtain ⟨hE, ho, vt⟩ := hI
    rw [strsV_length] at hi
    have hi' : i < w.2.length := by lia
    have hpi : ps[i]? = some ps[i] := List.getElem?_eq_getElem hi
    obtain ⟨t, rfl⟩ : ∃ t, v = .str w.2[i] t := by
      unfold strsV at hR
      rw [List.getElem?_map, hpi] at hR
      have : w.2[i] = ps[i].1 := by
        have h1 : w.2[i]? = some ps[i].1 := by rw [← hps, List.getElem?_map, hpi]; rfl
        rw [List.getElem?_eq_getElem hi'] at h1
        exact Option.some.inj h1
      rw [this]
      exact ⟨_, (Option.some.inj hR).symm⟩
    have htk : w.2.take (i + 1) = w.2.take i ++ [w.2[i]] := by rw [List.take_add_one, List.getElem?_eq_getElem hi']; rfl
    have hti : isTab rows (w.1, w.2.take i) := M.fh.ok.up (w.2.drop i) (w.2.take i) (by rw [List.take_append_drop]; exact hwt)
    have htt : isTab rows (w.1, w.2.take (i + 1)) := M.fh.ok.up (w.2.drop (i + 1)) (w.2.take (i + 1)) (by rw [List.take_append_drop]; exact hwt)
    obtain ⟨r, hr, hrw, hrk⟩ : ∃ r ∈ rows, r.w = (w.1, w.2.take (i + 1)) ∧ r.k = .table := htt.resolve_left (by rw [htk]; exact List.append_ne_nil_of_right_ne_nil _ (List.cons_ne_nil _ _))
    obtain ⟨a, ep, e1, e2, e3⟩ := M.fh.tab (w.1, w.2.take i) hwn hti
    have hpr : parN r.w = (w.1, w.2.take i) := by rw [hrw, htk]; exact parN_snoc
    have hlr : lastN r.w = w.2[i] := by rw [hrw, htk]; exact lastN_snoc
    have hkid := M.fh.kid hr (rootE n (w.1, w.2.take i) ++ atE gv gv.length LA (w.1, w.2.take i))
    rw [hpr, hlr] at hkid
    refine WAs_Name ?s0 ?_
    case s0 => exact stor rfl
    refine W_hide fun QL hQL => ?_
    refine W_cons' ?_
    refine W_Assign ?_ ?s0 ?s1
    case s0 => exact stor rfl
    case s1 => rfl
    refine W_Subscript ?_
    refine W_Name (by walk_at "lk") ?_
    refine W_Name setL_same ?_
    rw [e1]
    refine WSub_dict (hE _ _ (hE1 _ _ e3)) (key := .inr w.2[i]) (by simp [isKV]) hkid ?_
    refine contQ_next ?_
    refine W_nil ?_
    refine hQL _ _ _ (loopQ_next ⟨hE, (ho.put (by decide)).put (by decide), ?_⟩)
    rw [setL_same, hrw]
  · intro m' H' hI
    obtain ⟨hE, ho, vt⟩ := hI
    rw [strsV_length, hpl, List.take_length] at vt
    refine contQ_next ?_
    exact h m' H' vt (hE1.trans hE) ho
end
section
noncomputable def SL (ns : List Str) (xs : List V) : Prop := ∃ ps : List (Str × Tok), ps.map (·.1) = ns ∧ xs = strsV ps
theorem SL.app {a b : List Str} {xs ys : List V} (h : SL a xs) (h' : SL b ys) : SL (a ++ b) (xs ++ ys) := by
  obtain ⟨p, rfl, rfl⟩ := h
  obtain ⟨q, rfl, rfl⟩ := h'
  exact ⟨p ++ q, List.map_append, by unfold strsV; rw [List.map_append]⟩
theorem SL.nil : SL [] [] := ⟨[], rfl, rfl⟩
theorem SL.one {x : Str} {t : Tok} : SL [x] [.str x t] := ⟨[(x, t)], rfl, rfl⟩
theorem SL.len {a : List Str} {xs : List V} (h : SL a xs) : xs.length = a.length := by
  obtain ⟨p, rfl, rfl⟩ := h
  rw [strsV_length, List.length_map]
theorem SL.rd {H : AHeap} {a : List Str} {xs : List V} (h : SL a xs) : RdAll H (a.map .str) xs := by
  obtain ⟨p, rfl, rfl⟩ := h
  exact rdStrs p
theorem SL.ofAll {f : LR → Str} : ∀ {rs : List LR} {vs : List V}, All2 (fun r v => ∃ t, v = .str (f r) t) vs rs → SL (rs.map f) vs
  | [], vs, h => by
    have : vs = [] := List.eq_nil_of_length_eq_zero h.len
    subst this; exact SL.nil
  | r :: rs, [], h => by have := h.len; simp at this
  | r :: rs, v :: vs, h => by
    obtain ⟨t, rfl⟩ := h.at_ 0 v r rfl rfl
    have := SL.ofAll (rs := rs) (vs := vs) ⟨by simpa using h.len, fun j u q h1 h2 => h.at_ (j + 1) u q h1 h2⟩
    exact SL.one.app this
theorem W_rowLast {k : Wk} {m : Loc} {H : AHeap} {X : Str} {z z1 : Nat} {p1 p2 p3 p4 p5 p6 : Pos} {n n1 : Int} {r : LR} {v : V} {Q : V → Loc → AHeap → Prop} (hn : n = 0) (hn1 : n1 = 1) (hx : m X = some v) (hr : RowIs H r v) (hne : r.w.2 ≠ []) (h : ∀ t, Q (.str (lastN r.w) t) m H) (hd : (X == ("__debug__" : Str)) = false) (hc : (X == ("__classdict__" : Str)) = false) :
    WV k (eval (.Subscript (.Subscript (.Name X p1) (.Constant (.int n) z p2) p3) (.UnaryOp .USub (.Constant (.int n1) z1 p4) p5) p6) k.env) m H Q := by
  subst hn; subst hn1
  refine W_Subscript (W_row0 rfl hx hr (fun wv hwv => ?_) hd hc)
  refine W_UnaryOp (W_int (WUn_neg ?_))
  obtain ⟨a, ps, rfl, hwa, hps⟩ := hwv.tup
  have hpn : ps ≠ [] := fun e => hne (by rw [← hps, e]; rfl)
  obtain ⟨qs, y, rfl⟩ : ∃ qs y, ps = qs ++ [y] := ⟨ps.dropLast, ps.getLast hpn, (List.dropLast_concat_getLast hpn).symm⟩
  obtain ⟨x, t⟩ := y
  have hl : lastN r.w = x := by
    have : r.w = (r.w.1, qs.map (·.1) ++ [x]) := by
      rw [← Prod.eta r.w, ← hps, List.map_append]; rfl
    rw [this]; exact lastN_snoc
  have e : V.int (r.w.1 : Int) :: strsV (qs ++ [(x, t)]) = (V.int (r.w.1 : Int) :: strsV qs) ++ [.str x t] := by
    unfold strsV; rw [List.map_append]; rfl
  rw [e] at hwa
  refine WSub_tup (j := (V.int (r.w.1 : Int) :: strsV qs).length) (v := .str x t) hwa (by decide) (by decide) seq_last (by simp) ?_
  have := h t
  rwa [hl] at this
theorem WV_via {k : Wk} {t : Sem Value} {m : Loc} {H : AHeap} (Q : V → Loc → AHeap → Prop) {Q' : V → Loc → AHeap → Prop} (h : WV k t m H Q) (f : ∀ v m H, Q v m H → Q' v m H) : WV k t m H Q' := W.mono h fun v => f (er v)
theorem L6.due_ok {k : Wk} {m : Loc} {H : AHeap} {S4 : Stmt} {rest : List Stmt} {C fI fG fA fK fD fR fS fL nA rA gA hA kA : Addr} {rows : List LR} {n : Nat} {VA : Vals} {G : Ghost} {gv : List Way} {LA : Way → Addr} {w : Way} {wv : V} {acc : List V} {Q : Flow → Loc → AHeap → Prop} [sv : SEnv k (fnScope L6.fLaw) (cellNames (fnScope L6.fLaw).names)]
    (h4 : S4 = stm L6.vB 4) (D : L6.Defs k.c C fI fG fA fK fD fR fS fL) (hR : Room k.A) (M : MH C nA rA gA rows n VA G gv gv.length LA H) (vw : m "way" = some wv) (hwv : IsWay H w wv) (hwt : isTab rows w)
    (vh : m "here" = some (.ref hA)) (hhA : H hA = some (.list acc)) (hacc : RowsIn H acc (rows.filter fun r => decide (parN r.w = w))) (vk : m "marks" = some (.ref kA)) (hkA : H kA = some (.list ((marksOf gv gv.length w).map fun (k : Nat) => V.int (k : Int))))
    (h : ∀ H' dA xs, H' dA = some (.list xs) → SL (dueN rows gv w) xs → Ext H H' → W k (execs rest k.env) (setL m "due" (.ref dA)) H' Q) : W k (execs (S4 :: rest) k.env) m H Q := by
  subst h4
  have hh : k.A.handled = none := hR.handled
  have hz : sizeLine = _ := sizeLine_eq
  have hcnt := M.fh.cnt
  have hgl := M.fh.gvl
  obtain ⟨hokw, hwl, _⟩ := M.fh.okTab hwt
  obtain ⟨wa, ps, rfl, hwa, hps⟩ := hwv.tup
  have hpl : ps.length = w.2.length := by rw [← hps, List.length_map]
  have hfl : (rows.filter fun r => decide (parN r.w = w)).length ≤ rows.length := List.length_filter_le _ _
  have hml : (marksOf gv gv.length w).length ≤ gv.length := Nat.le_trans (List.length_filter_le _ _) (by rw [List.length_range]; exact Nat.le_refl _)
  refine W_cons' ?_
  refine W_Assign ?_ ?s0 ?s1
  case s0 => exact stor rfl
  case s1 => rfl
  refine W_BinOp ?_
  refine W_BinOp ?_
  refine W_ListComp ?a0 ?a1 ?a2 ?_
  case a0 => rfl
  case a1 => rfl
  case a2 => rfl
  refine W_Name vh ?_
  refine LC.rowsG (fun _ r v => ∃ t, v = V.str (lastN r.w) t) (fun _ _ _ _ _ h => h) (fun _ => true) hh hhA hacc (by lia) (fun kc hkc i r v mc H2 hr hv hri hE2 hcap hx => ?_) (fun a acc2 H2 hE2 ha hac => ?_)
  · haveI sv1 := hkc.senv (sc := fnScope L6.fLaw) (cn := cellNames (fnScope L6.fLaw).names)
    have hrm := (List.mem_filter.mp (List.mem_of_getElem? hr)).1
    refine W_tests_nil ⟨rfl, rfl, Ext.refl _, fun _ => ?_⟩
    refine W_rowLast rfl rfl hx hri (M.fh.ok.rt r hrm).2 (fun t => ⟨rfl, Ext.refl _, t, rfl⟩) (by decide) (by decide)
  rw [List.filter_eq_self.mpr (fun _ _ => rfl)] at hac
  have hs1 := SL.ofAll hac
  have hE3 := hE2.trans (Ext.upd (x := .list acc2) ha)
  have ha3 : upd H2 a (.list acc2) a = some (.list acc2) := upd_same
  generalize upd H2 a (.list acc2) = H3 at hE3 ha3 ⊢
  have hl1 := hs1.len
  rw [List.length_map] at hl1
  refine WV_via (fun v m1 H1 => m1 = m ∧ ∃ a2 ys, v = .ref a2 ∧ H1 a2 = some (.list ys) ∧ SL (if w.2 = [] then [Str.ofString "root"] else []) ys ∧ Ext H3 H1) ?_ ?_
  · refine W_IfExp ?_
    refine WT_Compare ?_
    refine W_CallB D.blt.len (kindS rfl) ?_
    refine WItems_cons ?_
    refine W_Name vw ?_
    refine WItems_nil ?_
    refine WCall_lenT (hE3 _ _ hwa) (by simp only [List.length_cons, strsV_length]; lia) ?_
    refine W_int ?_
    refine WCmp_eq ?_
    refine WTr_bool ?_
    rw [List.length_cons, strsV_length, hpl]
    by_cases q : w.2 = []
    · rw [if_pos q, q, if_pos (by rfl)]
      refine W_List ?_
      refine WItems_cons ?_
      refine W_str fun t ht => ?_
      refine WItems_nil ⟨by simp [hz], fun b hb => ?_⟩
      exact ⟨rfl, b, _, rfl, upd_same, SL.one, Ext.upd hb⟩
    · have : w.2.length ≠ 0 := fun e => q (List.eq_nil_of_length_eq_zero e)
      rw [if_neg q, if_neg (by simp; lia)]
      refine W_List ?_
      refine WItems_nil ⟨by simp [hz], fun b hb => ?_⟩
      exact ⟨rfl, b, _, rfl, upd_same, SL.nil, Ext.upd hb⟩
  · rintro v m1 H4 ⟨rfl, a2, ys, rfl, ha2, hs2, hE4⟩
    have hl2 : ys.length ≤ 1 := by rw [hs2.len]; split <;> simp
    refine WBin_addL (hE4 _ _ ha3) ha2 (by lia) fun p hp => ?_
    have hE5 := hE3.trans (hE4.trans (Ext.upd (x := .list (acc2 ++ ys)) hp))
    have hp5 : upd H4 p (.list (acc2 ++ ys)) p = some (.list (acc2 ++ ys)) := upd_same
    generalize upd H4 p (.list (acc2 ++ ys)) = H5 at hE5 hp5 ⊢
    refine WV_via (fun v m2 H1 => m2 = m1 ∧ ∃ a2 zs, v = .ref a2 ∧ H1 a2 = some (.list zs) ∧ SL (if marksOf gv gv.length w = [] then [] else [Str.ofString "at"]) zs ∧ Ext H5 H1) ?_ ?_
    · refine W_IfExp ?_
      refine WT_plain ?_
      refine W_Name vk ?_
      refine WTr_list (hE5 _ _ hkA) (by rw [List.length_map]; lia) ?_
      by_cases q : marksOf gv gv.length w = []
      · rw [if_pos q, q, if_neg (by simp)]
        refine W_List ?_
        refine WItems_nil ⟨by simp [hz], fun b hb => ?_⟩
        exact ⟨rfl, b, _, rfl, upd_same, SL.nil, Ext.upd hb⟩
      · rw [if_neg q, if_pos (by simpa using q)]
        refine W_List ?_
        refine WItems_cons ?_
        refine W_str fun t ht => ?_
        refine WItems_nil ⟨by simp [hz], fun b hb => ?_⟩
        exact ⟨rfl, b, _, rfl, upd_same, SL.one, Ext.upd hb⟩
    · rintro v m2 H6 ⟨rfl, a3, zs, rfl, ha3, hs3, hE6⟩
      have hl3 : zs.length ≤ 1 := by rw [hs3.len]; split <;> simp
      refine WBin_addL (hE6 _ _ hp5) ha3 (by rw [List.length_append]; lia) fun p2 hp2 => ?_
      refine contQ_next ?_
      exact h _ p2 _ upd_same ((hs1.app hs2).app hs3) (hE5.trans (hE6.trans (Ext.upd hp2)))
end
section
theorem dueN_len {rows : List LR} {gv : List Way} {w : Way} : (dueN rows gv w).length ≤ rows.length + 2 := by
  unfold dueN
  have := List.length_filter_le (fun r => decide (parN r.w = w)) rows
  rw [List.length_append, List.length_append, List.length_map]
  have h1 : (if w.2 = [] then [Str.ofString "root"] else []).length ≤ 1 := by split <;> simp
  have h2 : (if marksOf gv gv.length w = [] then [] else [Str.ofString "at"]).length ≤ 1 := by split <;> simp
  lia
theorem L6.chk_ok {k : Wk} {m : Loc} {H : AHeap} {S5 S6 : Stmt} {rest : List Stmt} {C fI fG fA fK fD fR fS fL nA rA gA kA dA : Addr} {rows : List LR} {n : Nat} {VA : Vals} {G : Ghost} {gv : List Way} {LA : Way → Addr} {w : Way} {wv : V} {ds : List V} {Q : Flow → Loc → AHeap → Prop} [sv : SEnv k (fnScope L6.fLaw) (cellNames (fnScope L6.fLaw).names)]
    (h5 : S5 = stm L6.vB 5) (h6 : S6 = stm L6.vB 6) (D : L6.Defs k.c C fI fG fA fK fD fR fS fL) (hR : Room k.A) (hR' : k.A.depth ≤ 500 ∧ k.A.units ≤ 1500) (M : MH C nA rA gA rows n VA G gv gv.length LA H) (vw : m "way" = some wv) (hwv : IsWay H w wv) (hwt : isTab rows w) (hwn : w.1 < n)
    (vt : m "table" = some (VA w)) (vk : m "marks" = some (.ref kA)) (hkA : H kA = some (.list ((marksOf gv gv.length w).map fun (k : Nat) => V.int (k : Int)))) (vd : m "due" = some (.ref dA)) (hdA : H dA = some (.list ds)) (hds : SL (dueN rows gv w) ds)
    (h : ∀ H', Ext H H' → W k (execs rest k.env) m H' Q) : W k (execs (S5 :: S6 :: rest) k.env) m H Q := by
  subst h5; subst h6
  have hh : k.A.handled = none := hR.handled
  have hz : sizeLine = _ := sizeLine_eq
  have hu64 : k.A.units + 64 < cLine := Nat.lt_of_le_of_lt (m := 2070) (by lia) (by decide)
  have hcnt := M.fh.cnt
  have hgl := M.fh.gvl
  obtain ⟨hokw, hwl, _⟩ := M.fh.okTab hwt
  obtain ⟨wa, ps, rfl, hwa, hps⟩ := hwv.tup
  have hpl : ps.length = w.2.length := by rw [← hps, List.length_map]
  obtain ⟨a, ep, e1, e2, e3⟩ := M.fh.tab w hwn hwt
  rw [e1] at vt
  have hdl := dueN_len (rows := rows) (gv := gv) (w := w)
  have hfk := full_keys (rows := rows) (VA := VA) (gv := gv) (LA := LA) hwn
  have hfl : (full rows n VA gv LA w).length = (dueN rows gv w).length := by
    have := congrArg List.length hfk
    simpa using this
  have hml : (marksOf gv gv.length w).length ≤ gv.length := Nat.le_trans (List.length_filter_le _ _) (by rw [List.length_range]; exact Nat.le_refl _)
  have hgood := goodStrs (strOk_due (rows := rows) (gv := gv) (w := w) M.fh.nm fun r hr => (M.fh.ok.rt r hr).2)
  have hdep := depthAll_strs (dueN rows gv w)
  have hnroot : getK (kids rows VA w) (.inr "root") = none := M.fh.noKid (by decide)
  have hnat : getK (kids rows VA w) (.inr "at") = none := M.fh.noKid (by decide)
  have hrat : getK (rootE n w) (.inr "at") = none := by
    unfold rootE; split
    · rfl
    · rfl
  refine W_cons' ?_
  refine W_If ?_
  refine WT_Or ?_
  refine W_allTrue_or ?_
  refine WT_Compare ?_
  refine W_CallT D.blt.list (kindS rfl) ?_
  refine WItems_cons ?_
  refine W_Name vt ?_
  refine WItems_nil ?_
  refine WCall_listD hh e3 (show (full rows n VA gv LA w).length ≤ sizeLine by lia) fun p xs hxl hxk hp => ?_
  refine W_Name vd ?_
  refine WCmp_neD (da := .list ((dueN rows gv w).map .str)) (db := .list ((dueN rows gv w).map .str)) (r := false) ⟨p, xs, rfl, upd_same, rdKeys (dueN rows gv w) (full rows n VA gv LA w) xs hfk hxl hxk⟩ ⟨dA, ds, rfl, upd_fresh hp hdA, hds.rd⟩ (by simp only [good, hgood]) (by simp only [good, hgood]) (by simp only [PyData.depth]; lia) hu64 (by simp) ?_
  refine WTr_bool ?_
  refine iteF ?_
  have hE1 : Ext H (upd H p (.list xs)) := Ext.upd hp
  generalize upd H p (.list xs) = H1 at hE1 ⊢
  refine W_allTrue_or ?_
  refine WT_And ?_
  refine W.mono (Q := fun b m1 H1' => b = false ∧ m1 = m ∧ Ext H1 H1') ?_ ?_
  · refine W_allTrue_and ?_
    refine WT_plain ?_
    refine W_Name vk ?_
    refine WTr_list (hE1 _ _ hkA) (by rw [List.length_map]; lia) ?_
    by_cases q : marksOf gv gv.length w = []
    · rw [q, if_neg (by simp)]
      exact ⟨rfl, rfl, Ext.refl _⟩
    · rw [if_pos (by simpa using q)]
      refine W_allTrue_and ?_
      refine WT_Compare ?_
      refine W_Subscript ?_
      refine W_Name vt ?_
      refine W_str fun t ht => ?_
      refine WSub_dict (hE1 _ _ e3) (key := .inr "at") (v := .ref (LA w)) (by simp [isKV]) ?_ ?_
      · rw [getK_append, hnat, Option.none_or, getK_append, hrat, Option.none_or]
        unfold atE
        rw [if_neg q]
        rfl
      refine W_Name vk ?_
      refine WCmp_neD (da := .list (((marksOf gv gv.length w).map fun (k : Nat) => (k : Int)).map .int)) (db := .list (((marksOf gv gv.length w).map fun (k : Nat) => (k : Int)).map .int)) (r := false) ⟨LA w, _, rfl, hE1 _ _ (M.at_ w q).1, ?_⟩ ⟨kA, _, rfl, hE1 _ _ hkA, ?_⟩ (by simp only [good, goodInts]) (by simp only [good, goodInts]) (by have := depthInts ((marksOf gv gv.length w).map fun (k : Nat) => (k : Int)); simp only [PyData.depth]; lia) hu64 (by simp) ?_
      · have := rdInts (H := H1) ((marksOf gv gv.length w).map fun (k : Nat) => (k : Int))
        rw [List.map_map (g := V.int)] at this
        exact this
      · have := rdInts (H := H1) ((marksOf gv gv.length w).map fun (k : Nat) => (k : Int))
        rw [List.map_map (g := V.int)] at this
        exact this
      refine WTr_bool ?_
      exact iteF ⟨rfl, rfl, Ext.refl _⟩
  · rintro b m1 H2 ⟨rfl, rfl, hE2⟩
    refine iteF ?_
    refine W_allTrue_nilO ?_
    refine iteF ?_
    refine W_nil ?_
    refine contQ_next ?_
    have hE12 := hE1.trans hE2
    refine W_cons' ?_
    refine W_If ?_
    refine WT_And ?_
    refine W.mono (Q := fun b m2 H2' => b = false ∧ m2 = m1 ∧ Ext H2 H2') ?_ ?_
    · refine W_allTrue_and ?_
      refine WT_Compare ?_
      refine W_CallB D.blt.len (kindS rfl) ?_
      refine WItems_cons ?_
      refine W_Name vw ?_
      refine WItems_nil ?_
      refine WCall_lenT (hE12 _ _ hwa) (by simp only [List.length_cons, strsV_length]; lia) ?_
      refine W_int ?_
      refine WCmp_eq ?_
      refine WTr_bool ?_
      rw [List.length_cons, strsV_length, hpl]
      by_cases q : w.2 = []
      · rw [q, if_pos (by rfl)]
        refine W_allTrue_and ?_
        refine WT_Compare ?_
        refine W_Subscript ?_
        refine W_Name vt ?_
        refine W_str fun t ht => ?_
        refine WSub_dict (hE12 _ _ e3) (key := .inr "root") (v := .int (w.1 : Int)) (by simp [isKV]) ?_ ?_
        · rw [getK_append, hnroot, Option.none_or, getK_append]
          unfold rootE
          rw [if_pos ⟨q, hwn⟩]
          rfl
        refine W_Subscript ?_
        refine W_Name vw ?_
        refine W_int ?_
        refine WSub_tup (j := 0) (hE12 _ _ hwa) (by decide) (by decide) (seqIndex_nat' (i := 0) (by simp)) rfl ?_
        refine WCmp_ne ?_
        refine WTr_bool ?_
        rw [decide_eq_false (by simp)]
        exact iteF ⟨rfl, rfl, Ext.refl _⟩
      · have : w.2.length ≠ 0 := fun e => q (List.eq_nil_of_length_eq_zero e)
        rw [if_neg (by simp; lia)]
        exact ⟨rfl, rfl, Ext.refl _⟩
    · rintro b m2 H3 ⟨rfl, rfl, hE3⟩
      refine iteF ?_
      refine W_nil ?_
      refine contQ_next ?_
      exact h _ (hE12.trans hE3)
theorem L6.each_ok {k : Wk} {m : Loc} {H : AHeap} {S7 : Stmt} {C fI fG fA fK fD fR fS fL nA rA gA hA : Addr} {rows : List LR} {n : Nat} {VA : Vals} {G : Ghost} {gv : List Way} {LA : Way → Addr} {w : Way} {acc : List V} {Q : Flow → Loc → AHeap → Prop} [sv : SEnv k (fnScope L6.fLaw) (cellNames (fnScope L6.fLaw).names)]
    (h7 : S7 = stm L6.vB 7) (D : L6.Defs k.c C fI fG fA fK fD fR fS fL) (hR : Room k.A) (hR' : k.A.depth ≤ 500 ∧ k.A.units ≤ 1500) (M : MH C nA rA gA rows n VA G gv gv.length LA H) (hwt : isTab rows w) (hwn : w.1 < n)
    (vt : m "table" = some (VA w)) (vh : m "here" = some (.ref hA)) (hhA : H hA = some (.list acc)) (hacc : RowsIn H acc (rows.filter fun r => decide (parN r.w = w)))
    (h : ∀ m' H', Ext H H' → offL ["row"] m m' → Q .next m' H') : W k (exec S7 k.env) m H Q := by
  subst h7
  have hh : k.A.handled = none := hR.handled
  have hz : sizeLine = _ := sizeLine_eq
  have hcnt := M.fh.cnt
  obtain ⟨a, ep, e1, e2, e3⟩ := M.fh.tab w hwn hwt
  obtain ⟨fo, fd, hfo, hfd⟩ := D.lead.obj
  refine W_For ?h ?hs
  case hs => intro y; rfl
  refine W_Name vh ?_
  refine ⟨_, _, _, fun i m' H' => Ext H H' ∧ offL ["row"] m m', WIter_list hh hhA, ⟨Ext.refl _, offL.refl _ _⟩, fun i m' H' q => q.1 _ _ hhA, ?_, fun m' H' hI => h m' H' hI.1 hI.2⟩
  intro i v m' H' hi hR2 hI
  obtain ⟨hE, ho⟩ := hI
  rw [hacc.len] at hi
  have hri : (rows.filter fun r => decide (parN r.w = w))[i]? = some (rows.filter fun r => decide (parN r.w = w))[i] := List.getElem?_eq_getElem hi
  have hrow := (hacc.at_ i v _ hR2 hri).ext hE
  have hrm := List.mem_filter.mp (List.mem_of_getElem? hri)
  generalize (rows.filter fun r => decide (parN r.w = w))[i] = r at hri hrow hrm
  obtain ⟨hr, hpw⟩ := hrm
  have hpw : parN r.w = w := of_decide_eq_true hpw
  refine WAs_Name ?s0 ?_
  case s0 => exact stor rfl
  refine W_hide fun QL hQL => ?_
  have o2 : offL ["row"] m (setL m' "row" v) := ho.put (by decide)
  have vr2 : setL m' "row" v "row" = some v := setL_same
  generalize setL m' "row" v = m2 at o2 vr2 ⊢
  have hkid := M.fh.kid hr (rootE n w ++ atE gv gv.length LA w)
  rw [hpw] at hkid
  have hgc := M.fh.gcnt r hr
  refine W_cons' ?_
  refine W_If ?_
  refine WT_Not ?_
  refine WT_plain ?_
  refine W_CallF D.gLead (kindS rfl) hfo hfd ?_
  refine WItems_cons ?_
  refine W_Subscript ?_
  refine W_Name ((o2 "table" (by decide)).trans vt) ?_
  refine W_rowLast rfl rfl vr2 hrow (M.fh.ok.rt r hr).2 (fun t => ?_) (by decide) (by decide)
  rw [e1]
  refine WSub_dict (hE _ _ e3) (key := .inr (lastN r.w)) (by simp [isKV]) hkid ?_
  refine WItems_cons ?_
  refine W_row1 rfl vr2 hrow (fun t2 => ?_) (by decide) (by decide)
  refine WItems_cons ?_
  refine W_row2 rfl vr2 hrow (fun gl hgl => ?_) (by decide) (by decide)
  refine WItems_nil ?_
  refine FnV.mono (L6.leads_ok D.blt D.gInt D.lead D.is_ D.gIs D.gLead hR ⟨by lia, by lia⟩ hgl (by lia) ((M.ext hE).lead hr)) (fun u H3 q => ?_) (fun _ _ _ q => q.elim)
  obtain ⟨rfl, hE3⟩ := q
  refine WTr_bool ?_
  refine iteF ?_
  refine W_nil ?_
  refine contQ_next ?_
  refine W_nil ?_
  exact hQL _ _ _ (loopQ_next ⟨hE.trans hE3, o2⟩)
end
section
theorem All2.append {α : Type} {P : α → V → Prop} {vs us : List V} {rs ss : List α} (x : All2 P vs rs) (y : All2 P us ss) : All2 P (vs ++ us) (rs ++ ss) :=
  ⟨by rw [List.length_append, List.length_append, x.len, y.len], fun j v r h1 h2 => by
    by_cases q : j < vs.length
    · rw [List.getElem?_append_left q] at h1
      rw [List.getElem?_append_left (by rw [← x.len]; exact q)] at h2
      exact x.at_ j v r h1 h2
    · rw [List.getElem?_append_right (by lia)] at h1
      rw [List.getElem?_append_right (by rw [← x.len]; lia), ← x.len] at h2
      exact y.at_ _ v r h1 h2⟩
theorem All2.mapd {P : Way → V → Prop} {vs : List V} {rs : List LR} (x : All2 (fun r v => P r.w v) vs rs) : All2 P vs (rs.map (·.w)) :=
  ⟨by rw [List.length_map, x.len], fun j v w h1 h2 => by
    rw [List.getElem?_map] at h2
    cases e : rs[j]? with
    | none => rw [e] at h2; cases h2
    | some r =>
      rw [e] at h2
      obtain rfl := Option.some.inj h2
      exact x.at_ j v r h1 e⟩
noncomputable def allWays (rows : List LR) (n : Nat) : List Way := ((List.range n).map fun j => (j, [])) ++ (rows.filter fun r => decide (r.k = .table)).map (·.w)
theorem kn_table {kk : KW} : (kn kk = Str.ofString "table") ↔ kk = .table := ⟨fun h => kn_inj (b := .table) h, fun h => by rw [h]; rfl⟩
theorem L6.verify_ok {k : Wk} {m : Loc} {H : AHeap} {S6 : Stmt} {C fI fG fA fK fD fR fS fL nA rA gA : Addr} {rows : List LR} {n : Nat} {VA : Vals} {G : Ghost} {gv : List Way} {LA : Way → Addr} {Q : Flow → Loc → AHeap → Prop} [sv : SEnv k (fnScope L6.fLaw) (cellNames (fnScope L6.fLaw).names)]
    (h6 : S6 = stm (fnBody L6.fLaw) 6) (D : L6.Defs k.c C fI fG fA fK fD fR fS fL) (hA : Room k.A) (hA' : k.A.depth ≤ 500 ∧ k.A.units ≤ 1500) (V0 : L6.LV nA rA gA m) (M : MH C nA rA gA rows n VA G gv gv.length LA H)
    (h : ∀ m' H', Q .next m' H') : W k (exec S6 k.env) m H Q := by
  subst h6
  have hh : k.A.handled = none := hA.handled
  have hz : sizeLine = _ := sizeLine_eq
  have hcnt := M.fh.cnt
  have hn6 := M.fh.n6
  obtain ⟨vs, r1, r2, _⟩ := id M.fh.rws
  obtain ⟨xs, n1, n2, n3⟩ := id M.fh.nests
  refine W_For ?h ?hs
  case hs => intro y; rfl
  refine W_BinOp ?_
  refine W_ListComp ?a0 ?a1 ?a2 ?_
  case a0 => rfl
  case a1 => rfl
  case a2 => rfl
  refine W_CallT D.blt.range (kindS rfl) ?_
  refine WItems_cons ?_
  refine W_CallB D.blt.len (kindS rfl) ?_
  refine WItems_cons ?_
  refine W_Name V0.vn ?_
  refine WItems_nil ?_
  refine WCall_lenL n1 (by rw [List.length_map]; lia) ?_
  rw [List.length_map, n2]
  refine WItems_nil ?_
  refine WCall_range1 fun rg hrg => ?_
  refine ⟨_, _, _, fun i acc H4 => Ext (upd H rg (.range 0 (n : Int) 1)) H4 ∧ All2 (fun w v => IsWay H4 w v) acc ((List.range i).map fun j => ((j, []) : Way)), WIter_range hh upd_same (small_up (by lia)), ⟨Ext.refl _, All2.nil⟩, fun _ _ _ _ => trivial, by rw [rangeN_up, hz]; lia, ?_, ?_⟩
  · intro kc hkc j v acc4 mc H4 hj hv hI hcap hx
    obtain ⟨hE4, hac⟩ := hI
    rw [rangeN_up] at hj
    obtain rfl : v = .int (j : Int) := by rw [hv]; simp
    haveI sv1 := hkc.senv (sc := fnScope L6.fLaw) (cn := cellNames (fnScope L6.fLaw).names)
    refine W_tests_nil ?_
    rw [if_pos rfl]
    refine ⟨rfl, ?_⟩
    refine W_Tuple ?_
    refine WItems_cons ?_
    refine W_Name hx ?_
    refine WItems_nil ⟨by simp [hz], fun p hp => ?_⟩
    have hE5 : Ext H4 (upd H4 p (.tup [.int (j : Int)])) := Ext.upd hp
    refine ⟨rfl, hE4.trans hE5, ?_⟩
    rw [List.range_succ, List.map_append]
    refine All2.snoc (hac.mono fun w u q => q.ext fun a xs e => hE5 _ _ e) ?_
    exact ⟨p, [], rfl, upd_same, rfl⟩
  · intro lA acc H2 _ hI hlA
    rw [rangeN_up] at hI
    obtain ⟨hE2, hac⟩ := hI
    have hE3 := ((Ext.upd (x := .range 0 (n : Int) 1) hrg).trans hE2).trans (Ext.upd (x := .list acc) hlA)
    have hac3 : All2 (fun w v => IsWay (upd H2 lA (.list acc)) w v) acc ((List.range n).map fun j => ((j, []) : Way)) := hac.mono fun w u q => q.ext fun a xs e => upd_fresh hlA e
    have hl3 : upd H2 lA (.list acc) lA = some (.list acc) := upd_same
    generalize upd H2 lA (.list acc) = H3 at hE3 hac3 hl3 ⊢
    clear hE2 hac hlA
    have R3 := (M.ext hE3).fh.rws
    obtain ⟨vs', r1', r2', _⟩ := R3
    refine W_ListComp ?a0 ?a1 ?a2 ?_
    case a0 => rfl
    case a1 => rfl
    case a2 => rfl
    refine W_Name V0.vr ?_
    refine LC.rowsG (fun H r v => IsWay H r.w v) (fun H H' r v hE q => q.ext fun a xs e => hE _ _ e) (fun r => decide (r.k = .table)) hh r1' r2' (by lia) (fun kc hkc i r v mc H4 hr hv hri hE4 hcap hx => ?_) (fun lB acc2 H4 hE4 hlB hac2 => ?_)
    · haveI sv1 := hkc.senv (sc := fnScope L6.fLaw) (cn := cellNames (fnScope L6.fLaw).names)
      refine W_tests_one ?_
      refine WT_Compare ?_
      refine W_row1 rfl hx hri (fun t => ?_) (by decide) (by decide)
      refine W_str fun t2 _ => ?_
      refine WCmp_eqS ?_
      refine WTr_bool ⟨rfl, ?_, Ext.refl _, fun _ => ?_⟩
      · exact decide_eq_decide.mpr kn_table
      · exact W_row0 rfl hx hri (fun wv hwv => ⟨rfl, Ext.refl _, hwv⟩) (by decide) (by decide)
    have hE5 := hE4.trans (Ext.upd (x := .list acc2) hlB)
    have hac5 : All2 (fun w v => IsWay (upd H4 lB (.list acc2)) w v) acc2 ((rows.filter fun r => decide (r.k = .table)).map (·.w)) := (All2.mapd hac2).mono fun w u q => q.ext fun a xs e => upd_fresh hlB e
    have hl5 : upd H4 lB (.list acc2) lB = some (.list acc2) := upd_same
    generalize upd H4 lB (.list acc2) = H5 at hE5 hac5 hl5 ⊢
    have hw1 := hac3.len
    have hw2 := hac5.len
    have hfl := List.length_filter_le (fun r : LR => decide (r.k = .table)) rows
    rw [List.length_map, List.length_range] at hw1
    rw [List.length_map] at hw2
    refine WBin_addL (hE5 _ _ hl3) hl5 (by lia) fun lC hlC => ?_
    have hE6 := hE3.trans (hE5.trans (Ext.upd (x := .list (acc ++ acc2)) hlC))
    have hall : All2 (fun w v => IsWay (upd H5 lC (.list (acc ++ acc2))) w v) (acc ++ acc2) (allWays rows n) := ((hac3.mono fun w u q => q.ext fun a xs e => hE5 _ _ e).append hac5).mono fun w u q => q.ext fun a xs e => upd_fresh hlC e
    have hl6 : upd H5 lC (.list (acc ++ acc2)) lC = some (.list (acc ++ acc2)) := upd_same
    generalize upd H5 lC (.list (acc ++ acc2)) = H6 at hE6 hall hl6 ⊢
    have M6 := M.ext hE6
    refine ⟨_, _, _, fun i m' H' => Ext H6 H' ∧ L6.LV nA rA gA m', WIter_list hh hl6, ⟨Ext.refl _, V0⟩, fun i m' H' q => q.1 _ _ hl6, ?_, fun m' H' hI => h m' H'⟩
    intro i v m' H' hi hR2 hI
    obtain ⟨hE, VI⟩ := hI
    have hi2 : i < (allWays rows n).length := by rw [← hall.len]; exact hi
    have hwi : (allWays rows n)[i]? = some (allWays rows n)[i] := List.getElem?_eq_getElem hi2
    have hwv := (hall.at_ i v _ hR2 hwi).ext fun a xs e => hE _ _ e
    have hmem := List.mem_of_getElem? hwi
    generalize (allWays rows n)[i] = w at hwi hwv hmem
    obtain ⟨hwt, hwn⟩ : isTab rows w ∧ w.1 < n := by
      unfold allWays at hmem
      rcases List.mem_append.mp hmem with q | q
      · obtain ⟨j, hj, rfl⟩ := List.mem_map.mp q
        exact ⟨.inl rfl, List.mem_range.mp hj⟩
      · obtain ⟨r, hr, rfl⟩ := List.mem_map.mp q
        obtain ⟨hr, hk⟩ := List.mem_filter.mp hr
        exact ⟨.inr ⟨r, hr, rfl, of_decide_eq_true hk⟩, (M.fh.ok.rt r hr).1⟩
    have M7 := M6.ext hE
    refine WAs_Name ?s0 ?_
    case s0 => exact stor rfl
    have o2 : offL ["way"] m' (setL m' "way" v) := (offL.refl _ _).put (by decide)
    have vw2 : setL m' "way" v "way" = some v := setL_same
    generalize setL m' "way" v = m2 at o2 vw2 ⊢
    have V2 := VI.of o2 (by decide)
    refine W_hide fun QL hQL => ?_
    show W k (execs [stm L6.vB 0, stm L6.vB 1, stm L6.vB 2, stm L6.vB 3, stm L6.vB 4, stm L6.vB 5, stm L6.vB 6, stm L6.vB 7] k.env) m2 _ QL
    refine L6.here_ok rfl rfl D hA hA' V2 M7 vw2 hwv hwt fun m3 H8 hhA ac kA vh3 hh3 hacc3 vk3 hk3 hE8 o3 => ?_
    have V3 := V2.of o3 (by decide)
    have vw3 := (o3 "way" (by decide)).trans vw2
    have M8 := M7.ext hE8
    refine L6.table_ok rfl rfl D hA V3 M8 vw3 (hwv.ext fun a xs e => hE8 _ _ e) hwt hwn fun m4 H9 vt4 hE9 o4 => ?_
    have V4 := V3.of o4 (by decide)
    have M9 := M8.ext hE9
    have hwv9 := (hwv.ext fun a xs e => hE8 _ _ e).ext fun a xs e => hE9 _ _ e
    refine L6.due_ok rfl D hA M9 ((o4 "way" (by decide)).trans vw3) hwv9 hwt ((o4 "here" (by decide)).trans vh3) (hE9 _ _ hh3) (hacc3.ext hE9) ((o4 "marks" (by decide)).trans vk3) (hE9 _ _ hk3) fun H10 dA ds hdA hds hE10 => ?_
    have o5 : offL ["due"] m4 (setL m4 "due" (.ref dA)) := (offL.refl _ _).put (by decide)
    have vd5 : setL m4 "due" (.ref dA) "due" = some (.ref dA) := setL_same
    generalize setL m4 "due" (.ref dA) = m5 at o5 vd5 ⊢
    have V5 := V4.of o5 (by decide)
    have M10 := M9.ext hE10
    have hE910 := hE9.trans hE10
    refine L6.chk_ok rfl rfl D hA hA' M10 ((o5 "way" (by decide)).trans ((o4 "way" (by decide)).trans vw3)) (hwv9.ext fun a xs e => hE10 _ _ e) hwt hwn ((o5 "table" (by decide)).trans vt4) ((o5 "marks" (by decide)).trans ((o4 "marks" (by decide)).trans vk3)) (hE910 _ _ hk3) vd5 hdA hds fun H11 hE11 => ?_
    refine W_cons' ?_
    refine L6.each_ok rfl D hA hA' (M10.ext hE11) hwt hwn ((o5 "table" (by decide)).trans vt4) ((o5 "here" (by decide)).trans ((o4 "here" (by decide)).trans vh3)) ((hE910.trans hE11) _ _ hh3) (hacc3.ext (hE910.trans hE11)) fun m6 H12 hE12 o6 => ?_
    refine contQ_next ?_
    refine W_nil ?_
    exact hQL _ _ _ (loopQ_next ⟨hE.trans (hE8.trans (hE910.trans (hE11.trans hE12))), V5.of o6 (by decide)⟩)
end
section
theorem L6.body_eq : fnBody L6.fLaw = [stm (fnBody L6.fLaw) 0, stm (fnBody L6.fLaw) 1, stm (fnBody L6.fLaw) 2, stm (fnBody L6.fLaw) 3, stm (fnBody L6.fLaw) 4, stm (fnBody L6.fLaw) 5, stm (fnBody L6.fLaw) 6, stm (fnBody L6.fLaw) 7] := rfl
theorem LH6.first {C nA rA gA x dx d : Addr} {H : AHeap} (hx : H x = some (.inst C dx)) (hdx : H dx = some (.attrs (.ref d))) (hd : H d = some (.dict [] 0)) (hn : H nA = some (.list [.ref x])) (hr : H rA = some (.list [])) (hg : H gA = some (.list [])) (d1 : nA ≠ rA) (d2 : nA ≠ gA) (d3 : rA ≠ gA) :
    LH6 C nA rA gA [] [] 1 (fun _ => .ref d) (fun a => if a = d then some (.tab (0, [])) else if a = nA ∨ a = rA ∨ a = gA then some .sys else none) [] 0 H where
  ok := ⟨List.nodup_nil, fun r hr => (by cases hr), fun r hr => (by cases hr), fun r hr => (by cases hr), fun r hr => (by cases hr), fun r hr => (by cases hr)⟩
  hr := {
    tab := fun w hw ht => by
      obtain ⟨i, q⟩ := w
      have hi : i = 0 := by have : i < 1 := hw; omega
      rcases ht with ht | ⟨r, hr, _⟩
      · have hq : q = [] := ht
        subst hi; subst hq
        exact ⟨d, 0, rfl, if_pos rfl, hd⟩
      · cases hr
    val := fun r hr => by cases hr
    live := fun a t ha => by
      by_cases q : a = d
      · rw [q, hd]; simp
      · rw [if_neg q] at ha
        by_cases z : a = nA ∨ a = rA ∨ a = gA
        · rcases z with rfl | rfl | rfl
          · rw [hn]; simp
          · rw [hr]; simp
          · rw [hg]; simp
        · rw [if_neg z] at ha; cases ha }
  nests := ⟨[x], hn, rfl, fun i y e => by
    cases i with
    | zero => simp at e; subst e; exact ⟨dx, hx, hdx⟩
    | succ i => simp at e⟩
  rws := ⟨[], hr, ⟨rfl, fun j v r e => by simp at e⟩, fun j v r e => by simp at e⟩
  giv := ⟨[], hg, rfl, fun j v w e => by simp at e⟩
  tn := by rw [if_neg (fun e => by rw [e, hd] at hn; cases hn), if_pos (.inl rfl)]
  tr := by rw [if_neg (fun e => by rw [e, hd] at hr; cases hr), if_pos (.inr (.inl rfl))]
  tg := by rw [if_neg (fun e => by rw [e, hd] at hg; cases hg), if_pos (.inr (.inr rfl))]
  d1 := d1
  d2 := d2
  d3 := d3
  n0 := by decide
  n6 := by decide
  nm := fun r hr => by cases hr
  len := fun r hr => by cases hr
  cnt := by simp
  gcnt := fun r hr => by cases hr
  gvl := by simp
  sub := fun r hr => by cases hr
theorem L6.start_ok {k : Wk} {m : Loc} {H : AHeap} {S0 S1 S2 : Stmt} {rest : List Stmt} {C fI fG fA fK fD fR fS fL sa : Addr} {Q : Flow → Loc → AHeap → Prop} [sv : SEnv k (fnScope L6.fLaw) (cellNames (fnScope L6.fLaw).names)]
    (h0 : S0 = stm (fnBody L6.fLaw) 0) (h1 : S1 = stm (fnBody L6.fLaw) 1) (h2 : S2 = stm (fnBody L6.fLaw) 2) (D : L6.Defs k.c C fI fG fA fK fD fR fS fL) (hA : Room k.A) (hA' : k.A.depth ≤ 500 ∧ k.A.units ≤ 1500) (hs : m "script" = some (.ref sa))
    (h : ∀ m' H' nA rA gA VA G, m' "script" = some (.ref sa) → L6.LV nA rA gA m' → LH6 C nA rA gA [] [] 1 VA G [] 0 H' → W k (execs rest k.env) m' H' Q) : W k (execs (S0 :: S1 :: S2 :: rest) k.env) m H Q := by
  subst h0; subst h1; subst h2
  have hz : sizeLine = _ := sizeLine_eq
  refine W_cons' ?_
  refine W_Assign ?_ ?s0 ?s1
  case s0 => exact stor rfl
  case s1 => exact swaps_List
  refine W_List ?_
  refine WItems_cons ?_
  refine W_NewCls D.nest.kls D.gC ?h5 fun x dx hx hdx hxd => ?_
  case h5 => exact kindS rfl
  refine Fn.mono (L6.init_ok D.nest.kls D.nest.init (A := k.A.under (.builtin "type.__call__" ⟨[.ref C], []⟩)) ?_ upd_same (upd_ne (fun q => hxd q.symm) upd_same) _ _ rfl rfl) ?_ fun _ _ _ q => q.elim
  · have hw : (Code.builtin "type.__call__" ⟨[.ref C], []⟩).weight ≤ 50 := (show (Code.builtin "type.__call__" ⟨[.ref 0], []⟩).weight ≤ 50 by decide)
    have hu : (Code.builtin "type.__call__" ⟨[.ref C], []⟩).cUnits ≤ 50 := (show (Code.builtin "type.__call__" ⟨[.ref 0], []⟩).cUnits ≤ 50 by decide)
    exact ⟨by show k.A.depth + _ ≤ 600; lia, by show k.A.units + _ ≤ 2000; lia, hA.handled⟩
  intro v H' hv
  obtain ⟨rfl, d, hd, rfl⟩ := hv
  refine ⟨rfl, ?_⟩
  simp only [upd_eq_none] at hd
  have x4 : upd (upd (upd (upd H dx .attrs0) x (.inst C dx)) d (.dict [] 0)) dx (.attrs (.ref d)) x = some (.inst C dx) := upd_ne hxd (upd_ne (Ne.symm hd.1) upd_same)
  have dx4 : upd (upd (upd (upd H dx .attrs0) x (.inst C dx)) d (.dict [] 0)) dx (.attrs (.ref d)) dx = some (.attrs (.ref d)) := upd_same
  have d4 : upd (upd (upd (upd H dx .attrs0) x (.inst C dx)) d (.dict [] 0)) dx (.attrs (.ref d)) d = some (.dict [] 0) := upd_ne hd.2.1 upd_same
  generalize upd (upd (upd (upd H dx .attrs0) x (.inst C dx)) d (.dict [] 0)) dx (.attrs (.ref d)) = H4 at x4 dx4 d4 ⊢
  refine WItems_nil ⟨by simp [hz], fun nA hnA => ?_⟩
  refine contQ_next ?_
  have E5 : Ext H4 (upd H4 nA (.list [.ref x])) := Ext.upd hnA
  have n5 : upd H4 nA (.list [.ref x]) nA = some (.list [.ref x]) := upd_same
  generalize upd H4 nA (.list [.ref x]) = H5 at E5 n5 ⊢
  refine W_cons' ?_
  refine W_Assign ?_ ?s0 ?s1
  case s0 => exact stor rfl
  case s1 => exact swaps_List
  refine W_List ?_
  refine WItems_nil ⟨by simp, fun rA hrA => ?_⟩
  refine contQ_next ?_
  have d1 : nA ≠ rA := fun e => by rw [e, hrA] at n5; cases n5
  have E6 : Ext H5 (upd H5 rA (.list [])) := Ext.upd hrA
  have r6 : upd H5 rA (.list []) rA = some (.list []) := upd_same
  generalize upd H5 rA (.list []) = H6 at E6 r6 ⊢
  refine W_cons' ?_
  refine W_Assign ?_ ?s0 ?s1
  case s0 => exact stor rfl
  case s1 => exact swaps_List
  refine W_List ?_
  refine WItems_nil ⟨by simp, fun gA hgA => ?_⟩
  refine contQ_next ?_
  have n6 := E6 _ _ n5
  have d2 : nA ≠ gA := fun e => by rw [e, hgA] at n6; cases n6
  have d3 : rA ≠ gA := fun e => by rw [e, hgA] at r6; cases r6
  have E7 : Ext H6 (upd H6 gA (.list [])) := Ext.upd hgA
  have E47 := E5.trans (E6.trans E7)
  refine h _ _ nA rA gA _ _ ?_ ⟨?_, ?_, ?_⟩ (LH6.first (x := x) (dx := dx) (d := d) (E47 _ _ x4) (E47 _ _ dx4) (E47 _ _ d4) (E7 _ _ n6) (E7 _ _ r6) upd_same d1 d2 d3)
  · walk_at "lk"
  · walk_at "lk"
  · walk_at "lk"
  · exact setL_same
theorem L6.law_ok {k : Wk} {m : Loc} {H : AHeap} {C fI fG fA fK fD fR fS fL sa : Addr} {ns : List Int} [sv : SEnv k (fnScope L6.fLaw) (cellNames (fnScope L6.fLaw).names)]
    (D : L6.Defs k.c C fI fG fA fK fD fR fS fL) (hA : Room k.A) (hA' : k.A.depth ≤ 500 ∧ k.A.units ≤ 1500) (hfr : k.env.frame = some k.env.locals) (hs : m "script" = some (.ref sa)) (hsa : BaseL k.c sa (ns.map .int)) (hl : ns.length ≤ 63) :
    W k (execs (fnBody L6.fLaw) k.env) m H (fun fl _ _ => flowV fl = .bool true) := by
  have hroom : Roomy k := Roomy.of hfr (by have := hA.depth; lia) D.blt.imp D.blt.tree rfl rfl
  rw [L6.body_eq]
  generalize g0 : stm (fnBody L6.fLaw) 0 = S0
  generalize g1 : stm (fnBody L6.fLaw) 1 = S1
  generalize g2 : stm (fnBody L6.fLaw) 2 = S2
  generalize g3 : stm (fnBody L6.fLaw) 3 = S3
  generalize g4 : stm (fnBody L6.fLaw) 4 = S4
  generalize g5 : stm (fnBody L6.fLaw) 5 = S5
  generalize g6 : stm (fnBody L6.fLaw) 6 = S6
  refine L6.start_ok g0.symm g1.symm g2.symm D hA hA' hs fun m1 H1 nA rA gA VA G vs V1 X1 => ?_
  refine W_cons' ?_
  refine L6.deal_ok g3.symm D hA hA' hroom hfr V1 X1 vs hsa hl fun m2 H2 rows n VA2 G2 gv X2 V2 => ?_
  refine contQ_next ?_
  refine W_cons' ?_
  refine L6.roots_ok g4.symm D hA V2 (FH.start X2) fun m3 H3 X3 V3 => ?_
  refine contQ_next ?_
  refine W_cons' ?_
  refine L6.marks_ok g5.symm D hA V3 X3 fun m4 H4 G4 LA M4 V4 => ?_
  refine contQ_next ?_
  refine W_cons' ?_
  refine L6.verify_ok g6.symm D hA hA' V4 M4 fun m5 H5 => ?_
  refine contQ_next ?_
  refine W_cons' ?_
  show W k (exec (.Return (some (.Constant (.bool true) _ _)) _) k.env) m5 H5 _
  refine W_Return' ?_
  refine W_bool ?_
  intro u hu
  exact contQ_ret hu
end
end Mine
namespace Mine
noncomputable abbrev pw : Program := PySem.Challenge.pw_kp0043_06
theorem said : OpenLaw.wellSaid PySem.Challenge.rw_kp0043_06 = true := by
  rewrite [PySem.W.Fast.te9446332074065402090]
  kernel_rfl
noncomputable def hview : Program := { pw with main := { pw.main with body := [stm pw.main.body 0, stm pw.main.body 2, stm pw.main.body 4, stm pw.main.body 5, stm pw.main.body 6, stm pw.main.body 7, stm pw.main.body 8, stm pw.main.body 9] } }
noncomputable def hheap (P : Params) : Frag :=
  (nat_lit 2, { cls := Value.none, data := Data.dict #[] }) ::
  (nat_lit 3, { cls := Value.type "dict", data := Data.dict #[{ hash := PyData.keyHash P (Str.ofString "__name__"), key := Value.str (Str.ofString "__name__") 165, val := Value.str (Str.ofString "law_kp0043_06") 244 }, { hash := PyData.keyHash P (Str.ofString "__doc__"), key := Value.str (Str.ofString "__doc__") 166, val := Value.none }, { hash := PyData.keyHash P (Str.ofString "__package__"), key := Value.str (Str.ofString "__package__") 167, val := Value.none }, { hash := PyData.keyHash P (Str.ofString "__loader__"), key := Value.str (Str.ofString "__loader__") 168, val := Value.builtin "__main__.__loader__#opaque" }, { hash := PyData.keyHash P (Str.ofString "__spec__"), key := Value.str (Str.ofString "__spec__") 169, val := Value.none }, { hash := PyData.keyHash P (Str.ofString "__annotations__"), key := Value.str (Str.ofString "__annotations__") 170, val := Value.ref 6 }, { hash := PyData.keyHash P (Str.ofString "__builtins__"), key := Value.str (Str.ofString "__builtins__") 171, val := Value.ref 4 }, { hash := PyData.keyHash P (Str.ofString "__file__"), key := Value.str (Str.ofString "__file__") 173, val := Value.str (Str.ofString "/claim/cut.py") 172 }, { hash := PyData.keyHash P (Str.ofString "__cached__"), key := Value.str (Str.ofString "__cached__") 174, val := Value.none }, { hash := PyData.keyHash P (Str.ofString "_wall"), key := Value.str (Str.ofString "_wall") 193, val := Value.ref 21 }, { hash := PyData.keyHash P (Str.ofString "NestedDict"), key := Value.str (Str.ofString "NestedDict") 243, val := Value.ref 53 }, { hash := PyData.keyHash P (Str.ofString "_law_key"), key := Value.str (Str.ofString "_law_key") 253, val := Value.ref 64 }, { hash := PyData.keyHash P (Str.ofString "_law_deeds"), key := Value.str (Str.ofString "_law_deeds") 263, val := Value.ref 71 }, { hash := PyData.keyHash P (Str.ofString "_law_rewritten"), key := Value.str (Str.ofString "_law_rewritten") 269, val := Value.ref 76 }, { hash := PyData.keyHash P (Str.ofString "_law_is"), key := Value.str (Str.ofString "_law_is") 277, val := Value.ref 83 }, { hash := PyData.keyHash P (Str.ofString "_law_leads_on"), key := Value.str (Str.ofString "_law_leads_on") 283, val := Value.ref 88 }, { hash := PyData.keyHash P (Str.ofString "law"), key := Value.str (Str.ofString "law") 289, val := Value.ref 93 }] 17 }) ::
  (nat_lit 6, { cls := Value.type "dict", data := Data.dict #[] }) ::
  (nat_lit 15, { cls := Value.type "tuple", data := Data.seq #[] }) ::
  (nat_lit 17, { cls := Value.type "tuple", data := Data.seq #[Value.str (Str.ofString "k") 190] }) ::
  (nat_lit 18, { cls := Value.type "tuple", data := Data.seq #[] }) ::
  (nat_lit 20, { cls := Value.type "code", data := Data.fields #[Value.str (Str.ofString "_wall") 187, Value.str (Str.ofString "_wall") 188, Value.str (Str.ofString "/claim/cut.py") 189, Value.int 1 0, Value.int 1 0, Value.int 0 0, Value.int 0 0, Value.int 3 0, Value.ref 15, Value.bool true, Value.int 181 0, Value.ref 16, Value.none, Value.ref 17, Value.ref 18, Value.ref 19, Value.int 191 0, Value.int 1 0, Value.str (Str.ofString "/claim/cut.py") 192] }) ::
  (nat_lit 21, { cls := Value.type "function", data := Data.func { name := Str.ofString "_wall", qualname := Str.ofString "_wall", params := fnParams (stm pw.main.body 0), body := FuncBody.stmts (fnBody (stm pw.main.body 0)), scope := fnScope (stm pw.main.body 0), globals := 3, closure := [], defaults := Value.none, kwdefaults := Value.none, pyModule := Value.str (Str.ofString "__main__") 164, code := Value.ref 20 } }) ::
  (nat_lit 29, { cls := Value.type "tuple", data := Data.seq #[] }) ::
  (nat_lit 31, { cls := Value.type "tuple", data := Data.seq #[Value.str (Str.ofString "self") 211] }) ::
  (nat_lit 32, { cls := Value.type "tuple", data := Data.seq #[] }) ::
  (nat_lit 34, { cls := Value.type "code", data := Data.fields #[Value.str (Str.ofString "__init__") 208, Value.str (Str.ofString "NestedDict.__init__") 209, Value.str (Str.ofString "/claim/cut.py") 210, Value.int 7 0, Value.int 1 0, Value.int 0 0, Value.int 0 0, Value.int 3 0, Value.ref 29, Value.bool true, Value.int 181 0, Value.ref 30, Value.none, Value.ref 31, Value.ref 32, Value.ref 33, Value.int 212 0, Value.int 7 0, Value.str (Str.ofString "/claim/cut.py") 213] }) ::
  (nat_lit 35, { cls := Value.type "function", data := Data.func { name := Str.ofString "__init__", qualname := Str.ofString "NestedDict.__init__", params := fnParams (stm (fnBody (stm pw.main.body 2)) 0), body := FuncBody.stmts (fnBody (stm (fnBody (stm pw.main.body 2)) 0)), scope := fnScope (stm (fnBody (stm pw.main.body 2)) 0), globals := 3, closure := [], defaults := Value.none, kwdefaults := Value.none, pyModule := Value.str (Str.ofString "cpy313.tomllib._parser") 194, code := Value.ref 34 } }) ::
  (nat_lit 36, { cls := Value.type "dict", data := Data.dict #[{ hash := PyData.keyHash P (Str.ofString "access_lists"), key := Value.str (Str.ofString "access_lists") 215, val := Value.bool true }] 1 }) ::
  (nat_lit 37, { cls := Value.type "tuple", data := Data.seq #[] }) ::
  (nat_lit 39, { cls := Value.type "tuple", data := Data.seq #[Value.str (Str.ofString "self") 219, Value.str (Str.ofString "key") 220, Value.str (Str.ofString "access_lists") 221, Value.str (Str.ofString "cont") 222, Value.str (Str.ofString "k") 223] }) ::
  (nat_lit 40, { cls := Value.type "tuple", data := Data.seq #[] }) ::
  (nat_lit 42, { cls := Value.type "code", data := Data.fields #[Value.str (Str.ofString "get_or_create_nest") 216, Value.str (Str.ofString "NestedDict.get_or_create_nest") 217, Value.str (Str.ofString "/claim/cut.py") 218, Value.int 10 0, Value.int 2 0, Value.int 0 0, Value.int 1 0, Value.int 3 0, Value.ref 37, Value.bool true, Value.int 181 0, Value.ref 38, Value.none, Value.ref 39, Value.ref 40, Value.ref 41, Value.int 224 0, Value.int 10 0, Value.str (Str.ofString "/claim/cut.py") 225] }) ::
  (nat_lit 43, { cls := Value.type "function", data := Data.func { name := Str.ofString "get_or_create_nest", qualname := Str.ofString "NestedDict.get_or_create_nest", params := fnParams (stm (fnBody (stm pw.main.body 2)) 1), body := FuncBody.stmts (fnBody (stm (fnBody (stm pw.main.body 2)) 1)), scope := fnScope (stm (fnBody (stm pw.main.body 2)) 1), globals := 3, closure := [], defaults := Value.none, kwdefaults := Value.ref 36, pyModule := Value.str (Str.ofString "cpy313.tomllib._parser") 194, code := Value.ref 42 } }) ::
  (nat_lit 44, { cls := Value.type "tuple", data := Data.seq #[] }) ::
  (nat_lit 46, { cls := Value.type "tuple", data := Data.seq #[Value.str (Str.ofString "self") 230, Value.str (Str.ofString "key") 231] }) ::
  (nat_lit 47, { cls := Value.type "tuple", data := Data.seq #[] }) ::
  (nat_lit 49, { cls := Value.type "code", data := Data.fields #[Value.str (Str.ofString "append_nest_to_list") 227, Value.str (Str.ofString "NestedDict.append_nest_to_list") 228, Value.str (Str.ofString "/claim/cut.py") 229, Value.int 22 0, Value.int 2 0, Value.int 0 0, Value.int 0 0, Value.int 3 0, Value.ref 44, Value.bool true, Value.int 181 0, Value.ref 45, Value.none, Value.ref 46, Value.ref 47, Value.ref 48, Value.int 232 0, Value.int 22 0, Value.str (Str.ofString "/claim/cut.py") 233] }) ::
  (nat_lit 50, { cls := Value.type "function", data := Data.func { name := Str.ofString "append_nest_to_list", qualname := Str.ofString "NestedDict.append_nest_to_list", params := fnParams (stm (fnBody (stm pw.main.body 2)) 2), body := FuncBody.stmts (fnBody (stm (fnBody (stm pw.main.body 2)) 2)), scope := fnScope (stm (fnBody (stm pw.main.body 2)) 2), globals := 3, closure := [], defaults := Value.none, kwdefaults := Value.none, pyModule := Value.str (Str.ofString "cpy313.tomllib._parser") 194, code := Value.ref 49 } }) ::
  (nat_lit 51, { cls := Value.type "tuple", data := Data.seq #[Value.str (Str.ofString "dict") 235] }) ::
  (nat_lit 52, { cls := Value.type "dict", data := Data.dict #[{ hash := PyData.keyHash P (Str.ofString "__module__"), key := Value.str (Str.ofString "__module__") 203, val := Value.str (Str.ofString "cpy313.tomllib._parser") 194 }, { hash := PyData.keyHash P (Str.ofString "__firstlineno__"), key := Value.str (Str.ofString "__firstlineno__") 207, val := Value.int 5 206 }, { hash := PyData.keyHash P (Str.ofString "__init__"), key := Value.str (Str.ofString "__init__") 214, val := Value.ref 35 }, { hash := PyData.keyHash P (Str.ofString "get_or_create_nest"), key := Value.str (Str.ofString "get_or_create_nest") 226, val := Value.ref 43 }, { hash := PyData.keyHash P (Str.ofString "append_nest_to_list"), key := Value.str (Str.ofString "append_nest_to_list") 234, val := Value.ref 50 }, { hash := PyData.keyHash P (Str.ofString "__static_attributes__"), key := Value.str (Str.ofString "__static_attributes__") 236, val := Value.ref 51 }, { hash := PyData.keyHash P (Str.ofString "__dict__"), key := Value.str (Str.ofString "__dict__") 238, val := Value.ref 54 }, { hash := PyData.keyHash P (Str.ofString "__weakref__"), key := Value.str (Str.ofString "__weakref__") 240, val := Value.ref 55 }, { hash := PyData.keyHash P (Str.ofString "__doc__"), key := Value.str (Str.ofString "__doc__") 241, val := Value.none }] 4 }) ::
  (nat_lit 53, { cls := Value.type "type", data := Data.cls { name := Str.ofString "NestedDict", bases := [Value.type "object"], mro := [Value.ref 53, Value.type "object"], ns := 52, qualname := Str.ofString "NestedDict" }, slots := #[none, none, some (Value.str (Str.ofString "NestedDict") 196), some (Value.str (Str.ofString "NestedDict") 204), some (Value.builtin "object.__new__"), some (Value.bool true)] }) ::
  (nat_lit 54, { cls := Value.type "getset_descriptor", data := Data.fields #[Value.str (Str.ofString "__dict__") 237, Value.ref 53, Value.builtin "function.__dict__", Value.builtin "function.__dict__#set"] }) ::
  (nat_lit 55, { cls := Value.type "getset_descriptor", data := Data.fields #[Value.str (Str.ofString "__weakref__") 239, Value.ref 53, Value.builtin "ExceptionGroup.__weakref__", Value.none] }) ::
  (nat_lit 58, { cls := Value.type "tuple", data := Data.seq #[] }) ::
  (nat_lit 60, { cls := Value.type "tuple", data := Data.seq #[Value.str (Str.ofString "k") 249, Value.str (Str.ofString "names") 250] }) ::
  (nat_lit 61, { cls := Value.type "tuple", data := Data.seq #[] }) ::
  (nat_lit 63, { cls := Value.type "code", data := Data.fields #[Value.str (Str.ofString "_law_key") 246, Value.str (Str.ofString "_law_key") 247, Value.str (Str.ofString "/claim/cut.py") 248, Value.int 25 0, Value.int 1 0, Value.int 0 0, Value.int 0 0, Value.int 3 0, Value.ref 58, Value.bool true, Value.int 181 0, Value.ref 59, Value.none, Value.ref 60, Value.ref 61, Value.ref 62, Value.int 251 0, Value.int 25 0, Value.str (Str.ofString "/claim/cut.py") 252] }) ::
  (nat_lit 64, { cls := Value.type "function", data := Data.func { name := Str.ofString "_law_key", qualname := Str.ofString "_law_key", params := fnParams (stm pw.main.body 4), body := FuncBody.stmts (fnBody (stm pw.main.body 4)), scope := fnScope (stm pw.main.body 4), globals := 3, closure := [], defaults := Value.none, kwdefaults := Value.none, pyModule := Value.str (Str.ofString "law_kp0043_06") 244, code := Value.ref 63 } }) ::
  (nat_lit 65, { cls := Value.type "tuple", data := Data.seq #[] }) ::
  (nat_lit 67, { cls := Value.type "tuple", data := Data.seq #[Value.str (Str.ofString "script") 257, Value.str (Str.ofString "deeds") 258, Value.str (Str.ofString "x") 259, Value.str (Str.ofString "y") 260] }) ::
  (nat_lit 68, { cls := Value.type "tuple", data := Data.seq #[] }) ::
  (nat_lit 70, { cls := Value.type "code", data := Data.fields #[Value.str (Str.ofString "_law_deeds") 254, Value.str (Str.ofString "_law_deeds") 255, Value.str (Str.ofString "/claim/cut.py") 256, Value.int 28 0, Value.int 1 0, Value.int 0 0, Value.int 0 0, Value.int 3 0, Value.ref 65, Value.bool true, Value.int 181 0, Value.ref 66, Value.none, Value.ref 67, Value.ref 68, Value.ref 69, Value.int 261 0, Value.int 28 0, Value.str (Str.ofString "/claim/cut.py") 262] }) ::
  (nat_lit 71, { cls := Value.type "function", data := Data.func { name := Str.ofString "_law_deeds", qualname := Str.ofString "_law_deeds", params := fnParams (stm pw.main.body 5), body := FuncBody.stmts (fnBody (stm pw.main.body 5)), scope := fnScope (stm pw.main.body 5), globals := 3, closure := [], defaults := Value.none, kwdefaults := Value.none, pyModule := Value.str (Str.ofString "law_kp0043_06") 244, code := Value.ref 70 } }) ::
  (nat_lit 72, { cls := Value.type "tuple", data := Data.seq #[] }) ::
  (nat_lit 75, { cls := Value.type "code", data := Data.fields #[Value.str (Str.ofString "_law_rewritten") 264, Value.str (Str.ofString "_law_rewritten") 265, Value.str (Str.ofString "/claim/cut.py") 266, Value.int 37 0, Value.int 3 0, Value.int 0 0, Value.int 0 0, Value.int 3 0, Value.ref 72, Value.bool true, Value.int 181 0, Value.ref 73, Value.none, Value.none, Value.none, Value.ref 74, Value.int 267 0, Value.int 37 0, Value.str (Str.ofString "/claim/cut.py") 268] }) ::
  (nat_lit 76, { cls := Value.type "function", data := Data.func { name := Str.ofString "_law_rewritten", qualname := Str.ofString "_law_rewritten", params := fnParams (stm pw.main.body 6), body := FuncBody.stmts (fnBody (stm pw.main.body 6)), scope := fnScope (stm pw.main.body 6), globals := 3, closure := [], defaults := Value.none, kwdefaults := Value.none, pyModule := Value.str (Str.ofString "law_kp0043_06") 244, code := Value.ref 75 } }) ::
  (nat_lit 77, { cls := Value.type "tuple", data := Data.seq #[] }) ::
  (nat_lit 79, { cls := Value.type "tuple", data := Data.seq #[Value.str (Str.ofString "value") 273, Value.str (Str.ofString "goal") 274] }) ::
  (nat_lit 80, { cls := Value.type "tuple", data := Data.seq #[] }) ::
  (nat_lit 82, { cls := Value.type "code", data := Data.fields #[Value.str (Str.ofString "_law_is") 270, Value.str (Str.ofString "_law_is") 271, Value.str (Str.ofString "/claim/cut.py") 272, Value.int 43 0, Value.int 2 0, Value.int 0 0, Value.int 0 0, Value.int 3 0, Value.ref 77, Value.bool true, Value.int 181 0, Value.ref 78, Value.none, Value.ref 79, Value.ref 80, Value.ref 81, Value.int 275 0, Value.int 43 0, Value.str (Str.ofString "/claim/cut.py") 276] }) ::
  (nat_lit 83, { cls := Value.type "function", data := Data.func { name := Str.ofString "_law_is", qualname := Str.ofString "_law_is", params := fnParams (stm pw.main.body 7), body := FuncBody.stmts (fnBody (stm pw.main.body 7)), scope := fnScope (stm pw.main.body 7), globals := 3, closure := [], defaults := Value.none, kwdefaults := Value.none, pyModule := Value.str (Str.ofString "law_kp0043_06") 244, code := Value.ref 82 } }) ::
  (nat_lit 84, { cls := Value.type "tuple", data := Data.seq #[] }) ::
  (nat_lit 87, { cls := Value.type "code", data := Data.fields #[Value.str (Str.ofString "_law_leads_on") 278, Value.str (Str.ofString "_law_leads_on") 279, Value.str (Str.ofString "/claim/cut.py") 280, Value.int 45 0, Value.int 3 0, Value.int 0 0, Value.int 0 0, Value.int 3 0, Value.ref 84, Value.bool true, Value.int 181 0, Value.ref 85, Value.none, Value.none, Value.none, Value.ref 86, Value.int 281 0, Value.int 45 0, Value.str (Str.ofString "/claim/cut.py") 282] }) ::
  (nat_lit 88, { cls := Value.type "function", data := Data.func { name := Str.ofString "_law_leads_on", qualname := Str.ofString "_law_leads_on", params := fnParams (stm pw.main.body 8), body := FuncBody.stmts (fnBody (stm pw.main.body 8)), scope := fnScope (stm pw.main.body 8), globals := 3, closure := [], defaults := Value.none, kwdefaults := Value.none, pyModule := Value.str (Str.ofString "law_kp0043_06") 244, code := Value.ref 87 } }) ::
  (nat_lit 89, { cls := Value.type "tuple", data := Data.seq #[] }) ::
  (nat_lit 92, { cls := Value.type "code", data := Data.fields #[Value.str (Str.ofString "law") 284, Value.str (Str.ofString "law") 285, Value.str (Str.ofString "/claim/cut.py") 286, Value.int 57 0, Value.int 1 0, Value.int 0 0, Value.int 0 0, Value.int 3 0, Value.ref 89, Value.bool true, Value.int 181 0, Value.ref 90, Value.none, Value.none, Value.none, Value.ref 91, Value.int 287 0, Value.int 57 0, Value.str (Str.ofString "/claim/cut.py") 288] }) ::
  (nat_lit 93, { cls := Value.type "function", data := Data.func { name := Str.ofString "law", qualname := Str.ofString "law", params := fnParams (stm pw.main.body 9), body := FuncBody.stmts (fnBody (stm pw.main.body 9)), scope := fnScope (stm pw.main.body 9), globals := 3, closure := [], defaults := Value.none, kwdefaults := Value.none, pyModule := Value.str (Str.ofString "law_kp0043_06") 244, code := Value.ref 92 } }) ::
  []
theorem hfill : (PySem.Challenge.rw_kp0043_06, hheap) = (PySem.Challenge.rw_kp0043_06, hheap) := by k_fill; rfl
noncomputable def hplaces : List Nat := [2, 3, 6, 15, 17, 18, 20, 21, 29, 31, 32, 34, 35, 36, 37, 39, 40, 42, 43, 44, 46, 47, 49, 50, 51, 52, 53, 54, 55, 58, 60, 61, 63, 64, 65, 67, 68, 70, 71, 72, 75, 76, 77, 79, 80, 82, 83, 84, 87, 88, 89, 92, 93]
noncomputable def hhook : Hook := kHook hheap hplaces fun P => by kernel_rfl
theorem hleft : LeftO pw hview [Str.ofString "NestedDict"] (fun s => xlAt hview [] s && recOk [] s) (Hook.obs hhook) (Hook.val hhook) 1146 := fun w => by
  delta openEnds fencedOpening topFrom
  rewrite [PySem.W.Fast.te14082659384304107361, PySem.W.Fast.te10274390034422433532, PySem.W.Fast.te14289696077712309145, PySem.W.Fast.te14364793385576792824, PySem.W.Fast.te4187177175401517315]
  kernel_rfl
theorem nsOk_of {K : Frag} {N : Addr} {oc : Value} {od : Option Addr} {es : Array DictEntry} {ep : Nat} {sl : Array (Option Value)} (h : K.lookup N = some ⟨oc, od, .dict es ep, sl⟩) (he : (es.all fun e => match e.key with | .str _ _ => true | _ => false) = true) : nsOkIn K N = true := by
  unfold nsOkIn
  rw [h]
  exact he
theorem L6.get_at (P : Params) {c : Cx} (hK : c.K = hheap P) : ∃ fd, FnAt c 43 fd (fnBody L6.mG) ∧ fd.scope = fnScope L6.mG ∧ fd.params = fnParams L6.mG ∧ fd.defaults = .none ∧
    ∃ d mk, fd.kwdefaults = .ref d ∧ c.base.Ns d mk ∧ mk "access_lists" = some (.bool true) := by
  have h : ∃ name qual doc pm cdv ct oc d an od osl, c.K.lookup 43 = some ⟨oc, od, .func (fnOf name qual (fnParams L6.mG) (fnBody L6.mG) (fnScope L6.mG) .none (.ref d) doc pm an cdv ct), osl⟩ ∧ codeIn c.K cdv qual = true ∧ nsIn c.K d "access_lists" = some (some (.bool true)) ∧ nsOkIn c.K d = true :=
    ⟨_, _, _, _, _, _, _, _, _, _, _, by rw [hK]; k_is, by rw [hK]; k_is, by rw [hK]; k_is, by rw [hK]; exact nsOk_of (by k_is) (by simp)⟩
  obtain ⟨name, qual, doc, pm, cdv, ct, oc, d, an, od, osl, h1, h2, h3, h4⟩ := h
  have G : c.base.Ns d (c.base.nsMap d) := Heap.Ns.of_isNs (isNs_of_in c.inK h4)
  exact ⟨_, fnAt_K h1 h2 (by rfl) (by rfl) (by rfl) (by decide), rfl, rfl, rfl, d, _, rfl, G, ns_at c.inK G h3⟩
set_option maxHeartbeats 4000000 in
theorem L6.defs_at (P : Params) {c : Cx} (hK : c.K = hheap P) (himp : importsNone c.p = true) (htree : c.prog.given.tree = none) : L6.Defs c 53 35 43 50 64 71 76 83 88 where
  blt := ⟨gl_B (by rw [hK]; k_is) rfl (by decide), gl_B (by rw [hK]; k_is) rfl (by decide), gl_B (by rw [hK]; k_is) rfl (by decide), gl_B (by rw [hK]; k_is) rfl (by decide), gl_B (by rw [hK]; k_is) rfl (by decide), gl_B (by rw [hK]; k_is) rfl (by decide), gl_B (by rw [hK]; k_is) rfl (by decide), gl_B (by rw [hK]; k_is) rfl (by decide), gl_B (by rw [hK]; k_is) rfl (by decide), himp, htree⟩
  gAbs := gl_B (by rw [hK]; k_is) rfl (by decide)
  gInt := gl_B (by rw [hK]; k_is) rfl (by decide)
  nest := {
    kls := ⟨by rw [hK]; k_is, by rw [hK]; k_is, by rw [hK]; k_is, by rw [hK]; k_is, by rw [hK]; k_is, by rw [hK]; k_is, by rw [hK]; k_is, by rw [hK]; k_is, by rw [hK]; k_is, by rw [hK]; k_is, by rw [hK]; k_is⟩
    mG := ⟨by rw [hK]; k_is, by rw [hK]; k_is, by rw [hK]; k_is, by rw [hK]; k_is, by decide⟩
    mA := ⟨by rw [hK]; k_is, by rw [hK]; k_is, by rw [hK]; k_is, by rw [hK]; k_is, by decide⟩
    init := defAt_K (by rw [hK]; k_is) (by rw [hK]; k_is) (by rfl) (by rfl) (by rfl) (by decide)
    app := defAt_K (by rw [hK]; k_is) (by rw [hK]; k_is) (by rfl) (by rfl) (by rfl) (by decide)
    get := L6.get_at P hK }
  gC := gl_K (by rw [hK]; k_is)
  key := defAt_K (by rw [hK]; k_is) (by rw [hK]; k_is) (by rfl) (by rfl) (by rfl) (by decide)
  gKey := gl_K (by rw [hK]; k_is)
  deeds := defAt_K (by rw [hK]; k_is) (by rw [hK]; k_is) (by rfl) (by rfl) (by rfl) (by decide)
  gDeeds := gl_K (by rw [hK]; k_is)
  rew := defAt_K (by rw [hK]; k_is) (by rw [hK]; k_is) (by rfl) (by rfl) (by rfl) (by decide)
  gRew := gl_K (by rw [hK]; k_is)
  is_ := defAt_K (by rw [hK]; k_is) (by rw [hK]; k_is) (by rfl) (by rfl) (by rfl) (by decide)
  gIs := gl_K (by rw [hK]; k_is)
  lead := defAt_K (by rw [hK]; k_is) (by rw [hK]; k_is) (by rfl) (by rfl) (by rfl) (by decide)
  gLead := gl_K (by rw [hK]; k_is)
set_option maxHeartbeats 8000000 in
theorem L6.claim : PySem.Challenge.rw_kp0043_06.Holds := by
  w_on
  refine holds_law said fun ok => ?_
  refine holds_open (q := hview) (loose := [Str.ofString "NestedDict"]) (Xt := fun s => xlAt hview [] s && recOk [] s) (XP := XL hview []) (Yf := Hook.obs hhook) (Ya := Hook.val hhook) (YP := Hook.says hhook) (N := 1146) hleft (Hook.of hhook) (Hook.keeps hhook) (fun s e => xl_of s (Bool.and_eq_true_iff.mp e).1) XL.keeps (by rfl) (by rfl) (by rfl) (fun s e => recFacts_of (Bool.and_eq_true_iff.mp e).2) (by rfl) ok (by decide +kernel) ⟨rfl, rfl, rfl, rfl, rfl, by decide +kernel⟩ ?hw ?hc
  case hw => w_witness2
  w_strict (
    intro w s₀ s₁ mg mb G Y fa o pm cd doc dV kV ho hd hcd hD hmg hg args vals as hpre hlay hrd hwl hlo
    have KX := kIn_of Y
    refine Ground.open G ?_
    intro T _ _ _ _
    clear hmg
    wrow_args hpre hlay hrd hwl hlo
    first | refine callC_kw (enter_call ?_) | refine enter_call ?_
    w_top on
    refine codeAny_mono ?_ (fun _ _ g => GoodW.toG g)
    refine call_cells2 (by decide) ho hd (Top.nolimit T) hcd hD rfl rfl rfl (by decide) fun h₁ t1 cells ht₁ F N0 X0 => ?_)
  (with_reducible rename Top _ _ _ _ _ _ => kT)
  (with_reducible rename Frag.In _ _ => kX)
  (with_reducible rename Heap.IsList _ _ _ => kL)
  (with_reducible rename IntsAre _ _ => kI)
  (with_reducible rename Fr _ _ _ _ => kF)
  (with_reducible rename News _ _ _ _ => kN)
  (with_reducible rename CellsAre _ _ _ => kC)
  rename _ = #[] => kg
  rename 1 ≤ _ => kt1
  rename ¬ ((63 : Nat) : Int) < _ => k63
  refine fin_joinC kX kT kg kL kI kF kN kC (by rfl) (by decide) (by rfl) (by rfl) rfl rfl rfl kt1 ?_
  intro c hp hK hw hpp hb hB k hkc hke hkA
  have D := L6.defs_at _ (c := k.c) (by rw [hkc]; exact hK) (by rw [hkc, hpp]; rfl) (by rw [hkc, hp]; rfl)
  haveI : SEnv k (fnScope L6.fLaw) (cellNames (fnScope L6.fLaw).names) := ⟨by rw [hke]; rfl, by rw [hke]; exact cellsFrom_map _ _ _ _ _ rfl⟩
  have hroom : Room k.A ∧ (k.A.depth ≤ 500 ∧ k.A.units ≤ 1500) := by
    rw [hkA]
    exact ⟨⟨by show callerA.depth + 1 ≤ 600; decide, by show callerA.units + 3 ≤ 2000; decide, rfl⟩, by show callerA.depth + 1 ≤ 500; decide, by show callerA.units + 3 ≤ 1500; decide⟩
  have hl := L6.law_ok (m := setL noLoc "script" (.ref _)) (H := fun _ => none) D hroom.1 hroom.2 (by rw [hke]; rfl) setL_same (by rw [hkc]; exact hB) (by omega)
  exact hl
end Mine
theorem PySem.Challenge.cw_kp0043_06_holds : PySem.Challenge.rw_kp0043_06.Holds := by
  exact Mine.L6.claim
