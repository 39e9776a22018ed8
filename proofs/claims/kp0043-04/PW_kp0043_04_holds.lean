import PyProof.Rows.All
import Wide.All
import OpenK.AllK
import Wide.FinOn
import KE.KEqDict
import PySem.Challenge.RW_kp0043_04
open PySem PySem.W PySem.Calls PyProof.Rows
set_option Elab.async false
set_option maxRecDepth 100000
set_option linter.unusedVariables false
set_option linter.unusedSimpArgs false
namespace Mine
theorem hideG {G : Prop} (h : ∀ G' : Prop, (G → G') → G') : G := h G id
end Mine
namespace Mine
set_option genSizeOfSpec false in
inductive V where
  | none | bool (b : Bool) | int (i : Int) | str (x : Str) (t : Tok) | ref (a : Addr) | ty (n : String) | bi (i : String) | other
  deriving DecidableEq
noncomputable def er : Value → V
  | .none => .none
  | .bool b => .bool b
  | .int i _ => .int i
  | .str x t => .str x t
  | .ref a => .ref a
  | .type n => .ty n
  | .builtin i => .bi i
  | _ => .other
theorem er_none {v : Value} (h : er v = .none) : v = .none := by cases v <;> simp [er] at h ⊢
theorem er_bool {v : Value} {b : Bool} (h : er v = .bool b) : v = .bool b := by cases v <;> simp [er] at h ⊢; exact h
theorem er_int {v : Value} {i : Int} (h : er v = .int i) : ∃ t, v = .int i t := by cases v <;> simp [er] at h ⊢; exact h
theorem er_str {v : Value} {x : Str} {t : Tok} (h : er v = .str x t) : v = .str x t := by cases v <;> simp [er] at h ⊢; exact h
theorem er_ref {v : Value} {a : Addr} (h : er v = .ref a) : v = .ref a := by cases v <;> simp [er] at h ⊢; exact h
theorem er_ty {v : Value} {n : String} (h : er v = .ty n) : v = .type n := by cases v <;> simp [er] at h ⊢; exact h
theorem er_bi {v : Value} {n : String} (h : er v = .bi n) : v = .builtin n := by cases v <;> simp [er] at h ⊢; exact h
noncomputable abbrev Key := Int ⊕ Str
noncomputable def isKV : Key → V → Bool
  | .inl i, .int j => i == j
  | .inr x, .str y _ => x == y
  | _, _ => false
noncomputable def isKey : Key → Value → Bool
  | .inl i, v => Value.isInt i v
  | .inr x, v => Value.isStrOf x v
theorem isKey_er {k : Key} {v : Value} : isKey k v = isKV k (er v) := by
  cases k <;> cases v <;> simp [isKey, isKV, er, Value.isInt, Value.isStrOf] <;> exact Bool.beq_comm
theorem isKV_inj {a b : Key} {v : V} (ha : isKV a v = true) (hb : isKV b v = true) : a = b := by
  cases a <;> cases b <;> cases v <;> simp [isKV] at ha hb ⊢ <;> rw [ha, hb]
theorem eqBool_key {prog : Program} {w : World} {A : Around} {E : Value → Shared → Prop} {s : Shared} {a b : Key} {u v : Value} {Q : Bool → Shared → Prop} (hu : isKey a u = true) (hv : isKey b v = true) (h : Q (decide (a = b)) s) :
    wpAny (model prog w) A (PySem.eqBool u v) Q E s := by
  cases a with
  | inl i =>
    obtain ⟨t, rfl⟩ := Value.isInt_shape hu
    cases b with
    | inl j =>
      obtain ⟨t', rfl⟩ := Value.isInt_shape hv
      have e : (i == j) = decide ((Sum.inl i : Key) = Sum.inl j) := by by_cases hij : i = j <;> simp [hij]
      exact wpAny_eqBool_int (e ▸ h)
    | inr y =>
      obtain ⟨t', rfl⟩ := Value.isStrOf_shape hv
      unfold PySem.eqBool
      rw [if_neg (by intro q; cases (eq_of_beq q))]
      exact wpAny_bind (EqMixed.eq_int_str (wpAny_truthy_bool (by simpa using h)))
  | inr x =>
    obtain ⟨t, rfl⟩ := Value.isStrOf_shape hu
    cases b with
    | inl j =>
      obtain ⟨t', rfl⟩ := Value.isInt_shape hv
      unfold PySem.eqBool
      rw [if_neg (by intro q; cases (eq_of_beq q))]
      exact wpAny_bind (EqMixed.eq_str_int (wpAny_truthy_bool (by simpa using h)))
    | inr y =>
      obtain ⟨t', rfl⟩ := Value.isStrOf_shape hv
      have e : decide (x = y) = decide ((Sum.inr x : Key) = Sum.inr y) := by by_cases hxy : x = y <;> simp [hxy]
      exact wpAny_eqBool_str (e ▸ h)
noncomputable def hashKey (w : World) : Key → Int
  | .inl i => hashInt i
  | .inr x => hashStr w x
theorem pyHash_key {prog : Program} {w : World} {A : Around} {E : Value → Shared → Prop} {s : Shared} {k : Key} {v : Value} {Q : Int → Shared → Prop} (hv : isKey k v = true) (h : Q (hashKey w k) { s with toks := s.toks + 1 }) :
    wpAny (model prog w) A (PySem.pyHash v) Q E s := by
  cases k with
  | inl i => obtain ⟨t, rfl⟩ := Value.isInt_shape hv; exact wpAny_pyHash_int h
  | inr x => obtain ⟨t, rfl⟩ := Value.isStrOf_shape hv; exact wpAny_pyHash_str h
noncomputable def mix (prog : Program) (w : World) : KeyKind prog w Key where
  is := isKey
  hash := hashKey w
  inj := fun v a b ha hb => isKV_inj (isKey_er ▸ ha) (isKey_er ▸ hb)
  byValue := fun k v h => by
    cases k with
    | inl i => obtain ⟨t, rfl⟩ := Value.isInt_shape h; rfl
    | inr x => obtain ⟨t, rfl⟩ := Value.isStrOf_shape h; rfl
  pyHash := pyHash_key
  eqBool := eqBool_key
  «strs» := fun k x t v h => by
    cases k with
    | inl i => simp [isKey, Value.isInt] at h
    | inr y =>
      have h' : Value.isStrOf y (.str x t) = true := h
      obtain ⟨u, hu⟩ := Value.isStrOf_shape h'
      injection hu with hx
      subst hx
      cases v <;> rfl
set_option genSizeOfSpec false in
inductive AObj where
  | list (xs : List V)
  | tup (xs : List V)
  | dict (kvs : List (Key × V)) (ep : Nat)
  | inst (C dx : Addr)
  | attrs (v : V)
  | attrs0
  | range (lo hi st : Int)
  | exc (cls : String) (args : Option Addr)
  | vals (d : Addr)
  | raw (ob : Obj)
noncomputable abbrev AHeap := Addr → Option AObj
noncomputable abbrev Loc := Str → Option V
noncomputable abbrev BMap := Addr → Option (Obj × Bool)
noncomputable def upd {β : Type} (f : Addr → Option β) (a : Addr) (x : β) : Addr → Option β := fun b => if b = a then some x else f b
noncomputable def setL (m : Loc) (x : Str) (v : V) : Loc := fun y => if y = x then some v else m y
theorem upd_same {β : Type} {f : Addr → Option β} {a : Addr} {x : β} : upd f a x a = some x := by simp [upd]
theorem upd_ne {β : Type} {f : Addr → Option β} {a b : Addr} {x y : β} (h : b ≠ a) (e : f b = some y) : upd f a x b = some y := by simp [upd, h, e]
theorem upd_fresh {β : Type} {f : Addr → Option β} {a b : Addr} {x y : β} (h : f a = none) (e : f b = some y) : upd f a x b = some y :=
  upd_ne (fun q => by rw [q, h] at e; cases e) e
theorem upd_some {β : Type} {f : Addr → Option β} {a b : Addr} {x y : β} (e : upd f a x b = some y) : (b = a ∧ x = y) ∨ (b ≠ a ∧ f b = some y) := by
  unfold upd at e
  split at e
  · rename_i h; exact .inl ⟨h, Option.some.inj e⟩
  · rename_i h; exact .inr ⟨h, e⟩
theorem setL_same {m : Loc} {x : Str} {v : V} : setL m x v x = some v := by simp [setL]
theorem setL_ne {m : Loc} {x y : Str} {v u : V} (h : y ≠ x) (e : m y = some u) : setL m x v y = some u := by simp [setL, h, e]
set_option genInjectivity false in
set_option genSizeOfSpec false in
structure Cx where
  prog : Program
  w : World
  base : Heap
  K : Frag
  p : Program
  loose : List Str
  mean : ExcName → Option Value
  mg : Str → Option Value
  mb : Str → Option Value
  os : OsState
  inK : K.In base
  top : Top p loose mean mg mb base
noncomputable def IsObj (c : Cx) (ob : Obj) : AObj → Prop
  | .list xs => ∃ vs n, ob = { cls := .type "list", data := .seq (vs : List Value).toArray n } ∧ vs.map er = xs
  | .tup xs => ∃ vs n, ob = { cls := .type "tuple", data := .seq (vs : List Value).toArray n } ∧ vs.map er = xs
  | .dict kvs ep => ob.ExactDict ∧ ∃ es, ob.data = .dict es ep ∧ KeysOf (mix c.prog c.w) es ∧ ∃ rvs, Pairs (mix c.prog c.w) es.toList rvs ∧ (rvs.map (·.1)).Nodup ∧ rvs.map (fun kv => (kv.1, er kv.2)) = kvs
  | .inst C dx => ob = instObj C dx
  | .attrs v => ∃ n t u, ob = dictOf [⟨PyData.keyHash c.w.params ("dict" : Str), .str ("dict" : Str) t, u⟩] n ∧ er u = v
  | .attrs0 => ob = dictOf [] 0
  | .range lo hi st => ∃ a b d, ob = { cls := .type "range", data := .fields #[.int lo a, .int hi b, .int st d] }
  | .exc cls args => cls ≠ "tuple" ∧ ob.cls = .type cls ∧ ∃ vs, ob.data = .fields vs ∧ ∀ t, args = some t → vs[0]? = some (.ref t)
  | .vals d => ob = { cls := .type "dict_values", data := .fields #[.ref d] }
  | .raw o => ob = o
set_option genInjectivity false in
set_option genSizeOfSpec false in
structure Out where
  fs : List Env
  ext : BMap
noncomputable def outerOf (env : Env) (o : List Env) : List Env := if env.frame = some env.locals then env :: o else o
noncomputable def places (env : Env) : List Addr := env.locals :: env.cells.map (·.2)
structure St (c : Cx) (o : Out) (env : Env) (B : BMap) (m : Loc) (H : AHeap) (s : Shared) : Prop where
  base : c.base.StaysIn s.heap
  keep : ∀ a ob l, B a = some (ob, l) → ∃ sl, s.heap.get? a = some { ob with slots := sl } ∧ (l = false → sl = ob.slots)
  own : ∀ a x, H a = some x → ∃ ob, s.heap.get? a = some ob ∧ IsObj c ob x
  disB : ∀ a x, H a = some x → B a = none
  disBase : ∀ a x, H a = some x → c.base.objs.size ≤ a
  pl : ∀ a ∈ places env, H a = none ∧ B a = none ∧ c.base.objs.size ≤ a
  nodup : (places env).Nodup
  cell : ∀ a ∈ env.cells.map (·.2), ∃ v, s.heap.IsCell a v
  var : ∃ mv, s.heap.Ns env.locals mv ∧ ∀ x v, m x = some v → match env.kindOf x with
    | some .local => ∃ u, mv x = some u ∧ er u = v
    | some .cell => ∃ a u, env.cells.lookup x = some a ∧ s.heap.IsCell a (some u) ∧ er u = v
    | some .free => ∃ a u, env.cells.lookup x = some a ∧ s.heap.IsCell a (some u) ∧ er u = v
    | _ => False
  frames : (∀ e ∈ o.fs, e.scope.kind ≠ .module ∧ ∃ L ob, e.frame = some L ∧ B L = some (ob, true) ∧ c.base.get? L = none ∧ ∀ vs, ob.data ≠ .fields vs) ∧ ∀ a x, o.ext a = some x → B a = some x
  gens : s.gens = #[]
  os : s.os = c.os
  tk : 1 ≤ s.toks
structure Ours (c : Cx) (o : Out) (env : Env) (B : BMap) (H : AHeap) (base' : Heap) : Prop where
  cb : c.base.StaysIn base'
  own : ∀ b, ((H b).isSome ∨ (B b).isSome ∨ b ∈ places env) → (∃ f ∈ outerOf env o.fs, f.frame = some b) ∨ ∃ ob, base'.get? b = some ob
noncomputable def Away (env : Env) (B : BMap) (H : AHeap) (a : Addr) : Prop := H a = none ∧ B a = none ∧ a ∉ places env
noncomputable def ArgsOf (c : Cx) (env : Env) (B : BMap) (H : AHeap) (base' : Heap) (e : Addr) (a0 : Value) (l : List V) : Prop :=
  ∃ t vs n, a0 = .ref t ∧ (vs : List Value).map er = l ∧ base'.get? t = some { cls := .type "tuple", data := .seq vs.toArray n } ∧ c.base.objs.size ≤ t ∧ c.base.objs.size ≤ e ∧ Away env B H t ∧ Away env B H e
noncomputable def Made (c : Cx) (o : Out) (env : Env) (B : BMap) (H : AHeap) (e : Addr) (cls : String) (xs : Option (List V)) (h : Heap) : Prop :=
  ∃ base' ob a0, Ours c o env B H base' ∧ base'.StaysIn h ∧ h.FunFrames base' (outerOf env o.fs) ∧ base'.get? e = none ∧
    h.get? e = some ob ∧ ob.cls = .type cls ∧ ob.data = .fields #[a0, .none, .none, .none, .bool false, .none] ∧ ∀ l, xs = some l → ArgsOf c env B H base' e a0 l
noncomputable def InFl (c : Cx) (o : Out) (env : Env) (B : BMap) (H : AHeap) (e : Addr) (cls : String) (xs : Option (List V)) (h : Heap) : Prop :=
  ∃ base' a0, Ours c o env B H base' ∧ Heap.FlyingW base' (outerOf env o.fs) e (.type cls) a0 h ∧ ∀ l, xs = some l → ArgsOf c env B H base' e a0 l
set_option genInjectivity false in
set_option genSizeOfSpec false in
structure Wk where
  c : Cx
  A : Around
  o : Out
  env : Env
  E : Value → Shared → Prop
  X : String → Option (List V) → Loc → AHeap → Prop
  here : Prop
  pass : PassesOwn (model c.prog c.w) A env E
  fly : ∀ B m H s e cls xs, St c o env B m H s → InFl c o env B H e cls xs s.heap → X cls xs m H → E (.ref e) s
  made : here → ∀ B m H s e cls xs, St c o env B m H s → Made c o env B H e cls xs s.heap → X cls xs m H → E (.ref e) s
  kind : env.scope.kind = .function
  glob : env.globals = mainGlobals
  blt : env.builtins = builtinsNs
  frames : A.frames = some (outerOf env o.fs)
  fat : env.frame = some env.locals ∨ ∃ f ∈ o.fs, f.frame = env.frame
noncomputable def W (k : Wk) {α : Type} (t : Sem α) (m : Loc) (H : AHeap) (Q : α → Loc → AHeap → Prop) : Prop :=
  ∀ B s, St k.c k.o k.env B m H s → wpAny (model k.c.prog k.c.w) k.A t (fun v s' => ∃ m' H', St k.c k.o k.env B m' H' s' ∧ Q v m' H') k.E s
noncomputable abbrev WV (k : Wk) (t : Sem Value) (m : Loc) (H : AHeap) (Q : V → Loc → AHeap → Prop) : Prop := W k t m H (fun v => Q (er v))
section
variable {k : Wk} {α β : Type} {m : Loc} {H : AHeap}
theorem W.mono {t : Sem α} {Q Q' : α → Loc → AHeap → Prop} (h : W k t m H Q) (hQ : ∀ v m H, Q v m H → Q' v m H) : W k t m H Q' :=
  fun B s st => wpAny_mono (h B s st) (fun v s' ⟨m', H', st', q⟩ => ⟨m', H', st', hQ _ _ _ q⟩) fun _ _ x => x
theorem W.pure {a : α} {Q : α → Loc → AHeap → Prop} (h : Q a m H) : W k (Pure.pure a) m H Q := fun B s st => wpAny_pure ⟨m, H, st, h⟩
theorem W.bind {t : Sem α} {f : α → Sem β} {Q : β → Loc → AHeap → Prop} (h : W k t m H (fun v m' H' => W k (f v) m' H' Q)) : W k (t >>= f) m H Q :=
  fun B s st => wpAny_bind (wpAny_mono (h B s st) (fun v s' ⟨m', H', st', q⟩ => q B s' st') fun _ _ x => x)
theorem W.standAt {pos : Pos} {Q : Unit → Loc → AHeap → Prop} (h : Q () m H) : W k (PySem.standAt pos) m H Q := fun B s st => wpAny_standAt ⟨m, H, st, h⟩
theorem W.holding {vs : List Value} {t : Sem α} {Q : α → Loc → AHeap → Prop} (h : W k t m H Q) : W k (PySem.holding vs t) m H Q := fun B s st => wpAny_holding (h B s st)
theorem W.of_wp {t : Sem α} {Q : α → Loc → AHeap → Prop}
    (h : ∀ B s, St k.c k.o k.env B m H s → ∀ P : α → Shared → Prop, (∀ v tk, Q v m H → P v { s with toks := tk }) → wpAny (model k.c.prog k.c.w) k.A t P k.E s) : W k t m H Q :=
  fun B s st => wpAny_mono (wpAny_toks_of st.tk (h B s st (fun v s' => ∃ tk, s' = { s with toks := tk } ∧ Q v m H) fun v tk q => ⟨tk, rfl, q⟩))
    (fun v s' q => by obtain ⟨ht, tk, rfl, q⟩ := q; exact ⟨m, H, ⟨st.base, st.keep, st.own, st.disB, st.disBase, st.pl, st.nodup, st.cell, st.var, st.frames, st.gens, st.os, ht⟩, q⟩) fun _ _ x => x.2
end
section
variable {c : Cx} {o : Out} {env : Env} {B : BMap} {m : Loc} {H : AHeap} {s : Shared}
theorem St.toks (st : St c o env B m H s) (tk : Nat) (ht : 1 ≤ tk) : St c o env B m H { s with toks := tk } :=
  ⟨st.base, st.keep, st.own, st.disB, st.disBase, st.pl, st.nodup, st.cell, st.var, st.frames, st.gens, st.os, ht⟩
theorem var_keeps {env : Env} {m : Loc} {h h' : Heap} (kp : ∀ a ∈ places env, ∀ ob, h.get? a = some ob → h'.get? a = some ob)
    (v : ∃ mv, h.Ns env.locals mv ∧ ∀ x v, m x = some v → match env.kindOf x with
    | some .local => ∃ u, mv x = some u ∧ er u = v
    | some .cell => ∃ a u, env.cells.lookup x = some a ∧ h.IsCell a (some u) ∧ er u = v
    | some .free => ∃ a u, env.cells.lookup x = some a ∧ h.IsCell a (some u) ∧ er u = v
    | _ => False) :
    ∃ mv, h'.Ns env.locals mv ∧ ∀ x v, m x = some v → match env.kindOf x with
    | some .local => ∃ u, mv x = some u ∧ er u = v
    | some .cell => ∃ a u, env.cells.lookup x = some a ∧ h'.IsCell a (some u) ∧ er u = v
    | some .free => ∃ a u, env.cells.lookup x = some a ∧ h'.IsCell a (some u) ∧ er u = v
    | _ => False := by
  obtain ⟨mv, ⟨ob, es, ep, ho, r⟩, hv⟩ := v
  have cellK : ∀ x a u, env.cells.lookup x = some a → h.IsCell a u → h'.IsCell a u := fun x a u e ⟨ob, ho, hd⟩ =>
    ⟨ob, kp a (List.mem_cons_of_mem _ (List.mem_map_of_mem (f := (·.2)) (mem_of_lookup e))) ob ho, hd⟩
  refine ⟨mv, ⟨ob, es, ep, kp _ List.mem_cons_self _ ho, r⟩, fun x v e => ?_⟩
  have q := hv x v e
  split at q
  · exact q
  · obtain ⟨a, u, e1, e2, e3⟩ := q; exact ⟨a, u, e1, cellK x a _ e1 e2, e3⟩
  · obtain ⟨a, u, e1, e2, e3⟩ := q; exact ⟨a, u, e1, cellK x a _ e1 e2, e3⟩
  · exact q
theorem none_ge {h : Heap} {a : Addr} (e : h.objs.size ≤ a) : h.get? a = none := by
  cases q : h.get? a with
  | none => rfl
  | some ob => exact absurd (Heap.lt_size q) (Nat.not_lt.mpr e)
theorem St.baseLe (st : St c o env B m H s) : c.base.objs.size ≤ s.heap.objs.size := by
  obtain ⟨mv, hn, _⟩ := st.var
  exact Nat.le_of_lt (Nat.lt_of_le_of_lt (st.pl env.locals List.mem_cons_self).2.2 hn.lt)
theorem St.put (st : St c o env B m H s) {a : Addr} {x y : AObj} {h' : Heap} {tk : Nat} (hx : H a = some x) (hk : ∀ b ob, b ≠ a → s.heap.get? b = some ob → h'.get? b = some ob)
    (hy : ∃ ob, h'.get? a = some ob ∧ IsObj c ob y) (ht : 1 ≤ tk) : St c o env B m (upd H a y) { s with heap := h', toks := tk } := by
  have hB := st.disB a x hx
  have hbl := st.disBase a x hx
  have hb : c.base.get? a = none := none_ge hbl
  have hp : a ∉ places env := fun q => by rw [(st.pl a q).1] at hx; cases hx
  refine ⟨fun b ob e => hk b ob (fun q => by rw [q, hb] at e; cases e) (st.base b ob e), fun b ob l e => ?_, fun b z e => ?_, fun b z e => ?_, fun b z e => ?_, fun b q => ?_, st.nodup, fun b e => ?_, ?_, st.frames, st.gens, st.os, ht⟩
  · obtain ⟨sl, e1, e2⟩ := st.keep b ob l e
    exact ⟨sl, hk b _ (fun q => by rw [q, hB] at e; cases e) e1, e2⟩
  · rcases upd_some e with ⟨rfl, rfl⟩ | ⟨ne, e⟩
    · exact hy
    · obtain ⟨ob, e1, e2⟩ := st.own b z e; exact ⟨ob, hk b ob ne e1, e2⟩
  · rcases upd_some e with ⟨rfl, rfl⟩ | ⟨ne, e⟩
    · exact hB
    · exact st.disB b z e
  · rcases upd_some e with ⟨rfl, rfl⟩ | ⟨ne, e⟩
    · exact hbl
    · exact st.disBase b z e
  · obtain ⟨e1, e2, e3⟩ := st.pl b q
    exact ⟨by unfold upd; rw [if_neg (fun z => by subst z; exact hp q)]; exact e1, e2, e3⟩
  · obtain ⟨v, ob, e1, e2⟩ := st.cell b e
    exact ⟨v, ob, hk b ob (fun q => hp (by subst q; exact List.mem_cons_of_mem _ e)) e1, e2⟩
  · exact var_keeps (fun b hb' ob e => hk b ob (fun q => hp (by subst q; exact hb')) e) st.var
theorem St.fresh (st : St c o env B m H s) {a : Addr} (hn : s.heap.get? a = none) : H a = none ∧ B a = none ∧ c.base.get? a = none ∧ a ∉ places env := by
  refine ⟨?_, ?_, ?_, fun q => ?_⟩
  · cases e : H a with
    | none => rfl
    | some x => obtain ⟨ob, e1, _⟩ := st.own a x e; rw [hn] at e1; cases e1
  · cases e : B a with
    | none => rfl
    | some x => obtain ⟨sl, e1, _⟩ := st.keep a x.1 x.2 e; rw [hn] at e1; cases e1
  · cases e : c.base.get? a with
    | none => rfl
    | some x => rw [st.base a x e] at hn; cases hn
  · rcases List.mem_cons.mp q with rfl | q
    · obtain ⟨_, ⟨ob, _, _, ho, _⟩, _⟩ := st.var
      rw [hn] at ho; cases ho
    · obtain ⟨v, ob, e1, _⟩ := st.cell a q
      rw [hn] at e1; cases e1
theorem St.new (st : St c o env B m H s) {a : Addr} {y : AObj} {h' : Heap} {tk : Nat} (hs : s.heap.objs.size ≤ a) (hk : ∀ b ob, s.heap.get? b = some ob → h'.get? b = some ob)
    (hy : ∃ ob, h'.get? a = some ob ∧ IsObj c ob y) (ht : 1 ≤ tk) : St c o env B m (upd H a y) { s with heap := h', toks := tk } := by
  have hn := none_ge hs
  obtain ⟨f1, f2, f3, f4⟩ := st.fresh hn
  refine ⟨fun b ob e => hk b ob (st.base b ob e), fun b ob l e => ?_, fun b z e => ?_, fun b z e => ?_, fun b z e => ?_, fun b q => ?_, st.nodup, fun b e => ?_, ?_, st.frames, st.gens, st.os, ht⟩
  · obtain ⟨sl, e1, e2⟩ := st.keep b ob l e
    exact ⟨sl, hk b _ e1, e2⟩
  · rcases upd_some e with ⟨rfl, rfl⟩ | ⟨ne, e⟩
    · exact hy
    · obtain ⟨ob, e1, e2⟩ := st.own b z e; exact ⟨ob, hk b ob e1, e2⟩
  · rcases upd_some e with ⟨rfl, rfl⟩ | ⟨ne, e⟩
    · exact f2
    · exact st.disB b z e
  · rcases upd_some e with ⟨rfl, rfl⟩ | ⟨ne, e⟩
    · exact Nat.le_trans st.baseLe hs
    · exact st.disBase b z e
  · obtain ⟨e1, e2, e3⟩ := st.pl b q
    exact ⟨by unfold upd; rw [if_neg (fun z => by subst z; exact f4 q)]; exact e1, e2, e3⟩
  · obtain ⟨v, ob, e1, e2⟩ := st.cell b e
    exact ⟨v, ob, hk b ob e1, e2⟩
  · exact var_keeps (fun b hb' ob e => hk b ob e) st.var
theorem St.grown (st : St c o env B m H s) {h' : Heap} {tk : Nat} (hk : ∀ b ob, s.heap.get? b = some ob → h'.get? b = some ob) (ht : 1 ≤ tk) : St c o env B m H { s with heap := h', toks := tk } := by
  refine ⟨fun b ob e => hk b ob (st.base b ob e), fun b ob l e => ?_, fun b z e => ?_, st.disB, st.disBase, st.pl, st.nodup, fun b e => ?_, ?_, st.frames, st.gens, st.os, ht⟩
  · obtain ⟨sl, e1, e2⟩ := st.keep b ob l e
    exact ⟨sl, hk b _ e1, e2⟩
  · obtain ⟨ob, e1, e2⟩ := st.own b z e; exact ⟨ob, hk b ob e1, e2⟩
  · obtain ⟨v, ob, e1, e2⟩ := st.cell b e
    exact ⟨v, ob, hk b ob e1, e2⟩
  · exact var_keeps (fun b hb' ob e => hk b ob e) st.var
theorem St.hide (st : St c o env B m H s) {a : Addr} {ob : Obj} {l : Bool} (ho : s.heap.get? a = some ob) (hH : H a = none) (hp : a ∉ places env) (hB : B a = none) : St c o env (upd B a (ob, l)) m H s := by
  refine ⟨st.base, fun b ob' l' e => ?_, st.own, fun b x e => ?_, st.disBase, fun b q => ?_, st.nodup, st.cell, st.var, ⟨fun e he => ?_, fun b x e => upd_fresh hB (st.frames.2 b x e)⟩, st.gens, st.os, st.tk⟩
  · rcases upd_some e with ⟨rfl, e'⟩ | ⟨ne, e⟩
    · injection e' with e1 e2; subst e1; exact ⟨ob.slots, ho, fun _ => rfl⟩
    · exact st.keep b ob' l' e
  · unfold upd; rw [if_neg (fun z => by subst z; rw [hH] at e; cases e)]; exact st.disB b x e
  · obtain ⟨e1, e2, e3⟩ := st.pl b q
    exact ⟨e1, by unfold upd; rw [if_neg (fun z => by subst z; exact hp q)]; exact e2, e3⟩
  · obtain ⟨k1, L, ob', k2, k3, k4, k5⟩ := st.frames.1 e he
    exact ⟨k1, L, ob', k2, upd_fresh hB k3, k4, k5⟩
theorem St.unhide {x : Obj × Bool} {a : Addr} {m₀ : Loc} {H₀ : AHeap} {s₀ : Shared} (st₀ : St c o env B m₀ H₀ s₀) (hB : B a = none) (st : St c o env (upd B a x) m H s) : St c o env B m H s := by
  have q : ∀ b y, B b = some y → upd B a x b = some y := fun b y e => upd_fresh hB e
  have r : ∀ b, upd B a x b = none → B b = none := fun b e => by
    cases h : B b with
    | none => rfl
    | some y => rw [q b y h] at e; cases e
  exact ⟨st.base, fun b ob l e => st.keep b ob l (q b _ e), st.own, fun b y e => r b (st.disB b y e), st.disBase, fun b z => ⟨(st.pl b z).1, r b (st.pl b z).2.1, (st.pl b z).2.2⟩, st.nodup, st.cell, st.var,
    st₀.frames, st.gens, st.os, st.tk⟩
theorem St.none_at (st : St c o env B m H s) {a : Addr} (h : s.heap.objs.size ≤ a) : s.heap.get? a = none := by
  cases e : s.heap.get? a with
  | none => rfl
  | some ob => exact absurd (Heap.lt_size e) (Nat.not_lt.mpr h)
end
end Mine
namespace Mine
section
variable {c : Cx} {o : Out} {env : Env} {B : BMap} {m : Loc} {H : AHeap} {s : Shared}
theorem St.setLocal (st : St c o env B m H s) {x : Str} {v : Value} {h' : Heap} {tk : Nat} (hk : env.kindOf x = some .local)
    (hq : ∀ mv, s.heap.Ns env.locals mv → h'.Ns env.locals (fun y => if y = x then some v else mv y)) (hs : Heap.SameBut env.locals s.heap h')
    (ht : 1 ≤ tk) : St c o env B (setL m x (er v)) H { s with heap := h', toks := tk } := by
  have hp := st.pl env.locals List.mem_cons_self
  have kp : ∀ b ob, b ≠ env.locals → s.heap.get? b = some ob → h'.get? b = some ob := fun b ob ne e => (hs.2 b ne).trans e
  refine ⟨fun b ob e => kp b ob (fun q => ?_) (st.base b ob e), fun b ob l e => ?_, fun b z e => ?_, st.disB, st.disBase, st.pl, st.nodup, fun b e => ?_, ?_, st.frames, st.gens, st.os, ht⟩
  · rw [q] at e; exact absurd (Heap.lt_size e) (Nat.not_lt.mpr hp.2.2)
  · refine Mine.hideG fun GG back => ?_
    obtain ⟨sl, e1, e2⟩ := st.keep b ob l e
    refine back ?_
    clear back
    exact ⟨sl, kp b _ (fun q => by rw [q, hp.2.1] at e; cases e) e1, e2⟩
  · obtain ⟨ob, e1, e2⟩ := st.own b z e; exact ⟨ob, kp b ob (fun q => by rw [q, hp.1] at e; cases e) e1, e2⟩
  · refine Mine.hideG fun GG back => ?_
    obtain ⟨u, ob, e1, e2⟩ := st.cell b e
    refine back ?_
    clear back
    exact ⟨u, ob, kp b ob (fun q => (List.nodup_cons.mp st.nodup).1 (q ▸ e)) e1, e2⟩
  · refine Mine.hideG fun GG back => ?_
    obtain ⟨mv, hn, hv⟩ := st.var
    refine back ?_
    clear back
    refine ⟨_, hq mv hn, fun y u e => ?_⟩
    unfold setL at e
    by_cases hy : y = x
    · subst hy
      rw [if_pos rfl] at e; cases e
      rw [hk]; exact ⟨v, by simp, rfl⟩
    · rw [if_neg hy] at e
      have q := hv y u e
      have cellK : ∀ a z, env.cells.lookup y = some a → s.heap.IsCell a z → h'.IsCell a z := fun a z e ⟨ob, ho, hd⟩ =>
        ⟨ob, kp a ob (fun r => (List.nodup_cons.mp st.nodup).1 (r ▸ List.mem_map_of_mem (f := (·.2)) (mem_of_lookup e))) ho, hd⟩
      split at q
      · obtain ⟨z, e1, e2⟩ := q; exact ⟨z, by rw [if_neg hy]; exact e1, e2⟩
      · obtain ⟨a, z, e1, e2, e3⟩ := q; exact ⟨a, z, e1, cellK a _ e1 e2, e3⟩
      · obtain ⟨a, z, e1, e2, e3⟩ := q; exact ⟨a, z, e1, cellK a _ e1 e2, e3⟩
      · exact q
theorem cell_addr {cs : List (Str × Addr)} (hn : (cs.map (·.2)).Nodup) {x y : Str} {a : Addr} (hx : cs.lookup x = some a) (hy : cs.lookup y = some a) : x = y := by
  have h1 := mem_of_lookup hx
  have h2 := mem_of_lookup hy
  induction cs with
  | nil => cases h1
  | cons p r ih =>
    rw [List.map_cons, List.nodup_cons] at hn
    rcases List.mem_cons.mp h1 with e1 | h1' <;> rcases List.mem_cons.mp h2 with e2 | h2'
    · rw [← e2] at e1; exact (Prod.mk.inj e1).1
    · exact absurd (by rw [← e1]; exact List.mem_map_of_mem (f := (·.2)) h2') hn.1
    · exact absurd (by rw [← e2]; exact List.mem_map_of_mem (f := (·.2)) h1') hn.1
    · clear ih hx hy h1 h2
      revert h1' h2'
      have hr := hn.2
      clear hn
      induction r with
      | nil => intro h; cases h
      | cons q r ih =>
        intro h1 h2
        rw [List.map_cons, List.nodup_cons] at hr
        rcases List.mem_cons.mp h1 with e1 | h1' <;> rcases List.mem_cons.mp h2 with e2 | h2'
        · rw [← e2] at e1; exact (Prod.mk.inj e1).1
        · exact absurd (by rw [← e1]; exact List.mem_map_of_mem (f := (·.2)) h2') hr.1
        · exact absurd (by rw [← e2]; exact List.mem_map_of_mem (f := (·.2)) h1') hr.1
        · exact ih hr.2 h1' h2'
theorem St.setCell (st : St c o env B m H s) {x : Str} {v : Value} {a : Addr} {h' : Heap} {tk : Nat} (hk : env.kindOf x = some .cell) (hc : env.cells.lookup x = some a)
    (hq : h'.IsCell a (some v)) (hs : Heap.SameBut a s.heap h') (ht : 1 ≤ tk) : St c o env B (setL m x (er v)) H { s with heap := h', toks := tk } := by
  have hm : a ∈ env.cells.map (·.2) := List.mem_map_of_mem (f := (·.2)) (mem_of_lookup hc)
  have hp := st.pl a (List.mem_cons_of_mem _ hm)
  have kp : ∀ b ob, b ≠ a → s.heap.get? b = some ob → h'.get? b = some ob := fun b ob ne e => (hs.2 b ne).trans e
  have hla : env.locals ≠ a := fun q => (List.nodup_cons.mp st.nodup).1 (q ▸ hm)
  refine ⟨fun b ob e => kp b ob (fun q => ?_) (st.base b ob e), fun b ob l e => ?_, fun b z e => ?_, st.disB, st.disBase, st.pl, st.nodup, fun b e => ?_, ?_, st.frames, st.gens, st.os, ht⟩
  · rw [q] at e; exact absurd (Heap.lt_size e) (Nat.not_lt.mpr hp.2.2)
  · refine Mine.hideG fun GG back => ?_
    obtain ⟨sl, e1, e2⟩ := st.keep b ob l e
    refine back ?_
    clear back
    exact ⟨sl, kp b _ (fun q => by rw [q, hp.2.1] at e; cases e) e1, e2⟩
  · obtain ⟨ob, e1, e2⟩ := st.own b z e; exact ⟨ob, kp b ob (fun q => by rw [q, hp.1] at e; cases e) e1, e2⟩
  · by_cases hb : b = a
    · subst hb; exact ⟨_, hq⟩
    · refine Mine.hideG fun GG back => ?_
      obtain ⟨u, ob, e1, e2⟩ := st.cell b e
      refine back ?_
      clear back
      exact ⟨u, ob, kp b ob hb e1, e2⟩
  · refine Mine.hideG fun GG back => ?_
    obtain ⟨mv, ⟨ob, es, ep, ho, hr⟩, hv⟩ := st.var
    refine back ?_
    clear back
    refine ⟨mv, ⟨ob, es, ep, kp _ _ hla ho, hr⟩, fun y u e => ?_⟩
    unfold setL at e
    by_cases hy : y = x
    · subst hy
      rw [if_pos rfl] at e; cases e
      rw [hk]; exact ⟨a, v, hc, hq, rfl⟩
    · rw [if_neg hy] at e
      have q := hv y u e
      have cellK : ∀ b z, env.cells.lookup y = some b → s.heap.IsCell b z → h'.IsCell b z := fun b z e ⟨ob, ho, hd⟩ =>
        ⟨ob, kp b ob (fun r => hy (cell_addr (List.nodup_cons.mp st.nodup).2 e (r ▸ hc))) ho, hd⟩
      split at q
      · exact q
      · obtain ⟨b, z, e1, e2, e3⟩ := q; exact ⟨b, z, e1, cellK b _ e1 e2, e3⟩
      · obtain ⟨b, z, e1, e2, e3⟩ := q; exact ⟨b, z, e1, cellK b _ e1 e2, e3⟩
      · exact q
theorem St.fr (st : St c o env B m H s) : ∃ mv, Fr c.base env.locals s.heap mv := by
  refine Mine.hideG fun GG back => ?_
  obtain ⟨mv, hn, _⟩ := st.var
  refine back ?_
  clear back
  exact ⟨mv, hn, st.base, (st.pl env.locals List.mem_cons_self).2.2⟩
end
noncomputable def storable (env : Env) (x : Str) : Bool := match env.kindOf x with
  | some .local => true
  | some .cell => (env.cells.map (·.1)).contains x
  | _ => false
theorem lookup_of_names : ∀ {cs : List (Str × Addr)} {x : Str}, (cs.map (·.1)).contains x = true → ∃ a, cs.lookup x = some a
  | [], x, h => by cases h
  | (n, b) :: r, x, h => by
    rw [List.lookup_cons]
    rw [List.map_cons, List.contains_cons, Bool.or_eq_true] at h
    cases hq : x == n with
    | true => exact ⟨b, rfl⟩
    | false =>
      rw [hq] at h
      exact lookup_of_names (h.resolve_left Bool.false_ne_true)
class SEnv (k : Wk) (sc : outParam Scope) (cn : outParam (List Str)) : Prop where
  sc : k.env.scope = sc
  cn : k.env.cells.map (·.1) = cn
noncomputable def storS (sc : Scope) (cn : List Str) (x : Str) : Bool := match sc.names.lookup x with
  | some .local => true
  | some .cell => cn.contains x
  | _ => false
theorem stor {k : Wk} {sc : Scope} {cn : List Str} [I : SEnv k sc cn] {x : Str} (h : storS sc cn x = true) : storable k.env x = true := by
  unfold storable Env.kindOf
  rw [I.sc, I.cn]
  exact h
theorem kindS {k : Wk} {sc : Scope} {cn : List Str} [I : SEnv k sc cn] {x : Str} {κ : NameKind} (h : sc.names.lookup x = some κ) : k.env.kindOf x = some κ := by
  unfold Env.kindOf
  rw [I.sc]
  exact h
noncomputable def Gl (c : Cx) (x : Str) (v : Value) : Prop := c.mg x = some v ∨ (c.mg x = none ∧ c.mb x = some v)
section
variable {k : Wk} {m : Loc} {H : AHeap}
theorem W_store {x : Str} {v : Value} {Q : Unit → Loc → AHeap → Prop} (hs : storable k.env x = true) (h : Q () (setL m x (er v)) H) : W k (storeName k.env x v) m H Q := fun B s st => by
  unfold storable at hs
  split at hs
  · rename_i hl
    refine Mine.hideG fun GG back => ?_
    obtain ⟨mv, hn, _⟩ := st.var
    refine back ?_
    clear back
    have hp : (k.env.scope.kind == .class || (k.env.scope.kind == .module && k.env.locals != k.env.globals)) = false := by rw [k.kind]; rfl
    rw [storeName_local hl hp]
    refine Mine.hideG fun GG back => ?_
    obtain ⟨ob, es, ep, ho, hd, hsk, hf⟩ := id hn
    refine back ?_
    clear back
    refine wpAny_nsSet hn fun h' hn' hs' => ⟨_, H, st.setLocal hl (fun mv' hm' => ?_) hs' (Nat.le_succ_of_le st.tk), h⟩
    have e : mv' = mv := by
      funext y
      refine Mine.hideG fun GG back => ?_
      obtain ⟨ob', es', ep', ho', hd', _, hf'⟩ := hm'
      refine back ?_
      clear back
      rw [ho] at ho'; cases ho'
      rw [hd] at hd'; cases hd'
      rw [← hf, ← hf']
    rw [e]; exact hn'
  · rename_i hl
    refine Mine.hideG fun GG back => ?_
    obtain ⟨a, ha⟩ := lookup_of_names hs
    obtain ⟨v₀, hc⟩ := st.cell a (List.mem_map_of_mem (f := (·.2)) (mem_of_lookup ha))
    refine back ?_
    clear back
    exact wpAny_storeName_cell k.kind hl ha hc fun h' hc' hs' => ⟨_, H, st.setCell hl ha hc' hs' st.tk, h⟩
  · cases hs
theorem W_bindName {x : Str} {v : Value} {Q : Unit → Loc → AHeap → Prop} (hs : storable k.env x = true) (h : Q () (setL m x (er v)) H) : W k (bindName k.env x v) m H Q :=
  fun B s st => wpAny_bindName (W_store hs h B s st)
theorem W_Name {x : Str} {pos : Pos} {v : V} {Q : V → Loc → AHeap → Prop} (hm : m x = some v) (h : Q v m H) (hd : (x == ("__debug__" : Str)) = false := by decide) (hn : (x == ("__classdict__" : Str)) = false := by decide) :
    WV k (eval (.Name x pos) k.env) m H Q := fun B s st => by
  refine Mine.hideG fun GG back => ?_
  obtain ⟨mv, hn', hv⟩ := st.var
  refine back ?_
  clear back
  have q := hv x v hm
  refine wpAny_Name ?_ hd
  split at q
  · rename_i hl
    refine Mine.hideG fun GG back => ?_
    obtain ⟨u, e1, rfl⟩ := q
    refine back ?_
    clear back
    exact wpAny_loadName_local k.kind hl hn' e1 ⟨m, H, st, h⟩
  · rename_i hl
    refine Mine.hideG fun GG back => ?_
    obtain ⟨a, u, e1, e2, rfl⟩ := q
    refine back ?_
    clear back
    exact wpAny_loadName_cell k.kind hl e1 e2 ⟨m, H, st, h⟩
  · rename_i hl
    refine Mine.hideG fun GG back => ?_
    obtain ⟨a, u, e1, e2, rfl⟩ := q
    refine back ?_
    clear back
    exact wpAny_loadName_free k.kind hl e1 e2 ⟨m, H, st, h⟩ hn
  · exact q.elim
theorem W_NameG {x : Str} {pos : Pos} {v : Value} {Q : V → Loc → AHeap → Prop} (hg : Gl k.c x v) (hx : k.env.kindOf x = some .globalImplicit) (h : Q (er v) m H) (hd : (x == ("__debug__" : Str)) = false := by decide) :
    WV k (eval (.Name x pos) k.env) m H Q := fun B s st => by
  have hg' : s.heap.Ns k.env.globals k.c.mg := by rw [k.glob]; exact k.c.top.g.keeps st.base
  have hb' : s.heap.Ns k.env.builtins k.c.mb := by rw [k.blt]; exact k.c.top.b.keeps st.base
  rcases hg with e | ⟨e1, e2⟩
  · exact Name_function_global k.kind hx (loadGlobal_global (env := k.env) hg' e ⟨m, H, st, h⟩) hd
  · exact Name_function_global k.kind hx (loadGlobal_builtin (env := k.env) hg' e1 hb' e2 ⟨m, H, st, h⟩) hd
theorem W_loadName {x : Str} {v : V} {Q : V → Loc → AHeap → Prop} (hm : m x = some v) (h : Q v m H) (hn : (x == ("__classdict__" : Str)) = false := by decide) :
    WV k (loadName k.env x) m H Q := fun B s st => by
  refine Mine.hideG fun GG back => ?_
  obtain ⟨mv, hn', hv⟩ := st.var
  refine back ?_
  clear back
  have q := hv x v hm
  split at q
  · rename_i hl
    refine Mine.hideG fun GG back => ?_
    obtain ⟨u, e1, rfl⟩ := q
    refine back ?_
    clear back
    exact wpAny_loadName_local k.kind hl hn' e1 ⟨m, H, st, h⟩
  · rename_i hl
    refine Mine.hideG fun GG back => ?_
    obtain ⟨a, u, e1, e2, rfl⟩ := q
    refine back ?_
    clear back
    exact wpAny_loadName_cell k.kind hl e1 e2 ⟨m, H, st, h⟩
  · rename_i hl
    refine Mine.hideG fun GG back => ?_
    obtain ⟨a, u, e1, e2, rfl⟩ := q
    refine back ?_
    clear back
    exact wpAny_loadName_free k.kind hl e1 e2 ⟨m, H, st, h⟩ hn
  · exact q.elim
theorem W_int {i : Int} {n : Nat} {pos : Pos} {Q : V → Loc → AHeap → Prop} (h : Q (.int i) m H) : WV k (eval (.Constant (.int i) n pos) k.env) m H Q :=
  W.of_wp fun B s st P hp => wpAny_Constant_int (hp _ _ h)
theorem W_str {x : Str} {n : Nat} {pos : Pos} {Q : V → Loc → AHeap → Prop} (h : ∀ t, 1 ≤ t → Q (.str x t) m H) : WV k (eval (.Constant (.str x) n pos) k.env) m H Q :=
  W.of_wp fun B s st P hp => wpAny_mkText (hp _ _ (h _ st.tk))
theorem W_bool {b : Bool} {n : Nat} {pos : Pos} {Q : V → Loc → AHeap → Prop} (h : Q (.bool b) m H) : WV k (eval (.Constant (.bool b) n pos) k.env) m H Q :=
  fun B s st => wpAny_pure ⟨m, H, st, h⟩
theorem W_none {n : Nat} {pos : Pos} {Q : V → Loc → AHeap → Prop} (h : Q .none m H) : WV k (eval (.Constant .none n pos) k.env) m H Q :=
  fun B s st => wpAny_pure ⟨m, H, st, h⟩
noncomputable def WBin (k : Wk) (op : Operator) (a b : V) (m : Loc) (H : AHeap) (Q : V → Loc → AHeap → Prop) : Prop := ∀ x y, er x = a → er y = b → WV k (binaryOp op x y) m H Q
noncomputable def WInpl (k : Wk) (op : Operator) (a b : V) (m : Loc) (H : AHeap) (Q : V → Loc → AHeap → Prop) : Prop := ∀ x y, er x = a → er y = b → WV k (inplaceOp op x y) m H Q
noncomputable def WCmp (k : Wk) (op : CmpOp) (a b : V) (m : Loc) (H : AHeap) (Q : V → Loc → AHeap → Prop) : Prop := ∀ x y, er x = a → er y = b → WV k (compareOp op x y) m H Q
noncomputable def WTr (k : Wk) (a : V) (m : Loc) (H : AHeap) (Q : Bool → Loc → AHeap → Prop) : Prop := ∀ x, er x = a → W k (truthy x) m H Q
noncomputable abbrev WT (k : Wk) (e : Expr) (m : Loc) (H : AHeap) (Q : Bool → Loc → AHeap → Prop) : Prop := W k (isTrue e k.env (eval e k.env)) m H Q
theorem W_BinOp {l r : Expr} {op : Operator} {pos : Pos} {Q : V → Loc → AHeap → Prop}
    (h : WV k (eval l k.env) m H fun a m1 H1 => WV k (eval r k.env) m1 H1 fun b m2 H2 => WBin k op a b m2 H2 Q) : WV k (eval (.BinOp l op r pos) k.env) m H Q :=
  fun B s st => wpAny_BinOp (wpAny_mono (h B s st) (fun a s1 ⟨m1, H1, st1, q1⟩ => wpAny_mono (q1 B s1 st1) (fun b s2 ⟨m2, H2, st2, q2⟩ => q2 a b rfl rfl B s2 st2) fun _ _ x => x) fun _ _ x => x)
theorem W_Compare {l r : Expr} {op : CmpOp} {pos : Pos} {Q : V → Loc → AHeap → Prop}
    (h : WV k (eval l k.env) m H fun a m1 H1 => WV k (eval r k.env) m1 H1 fun b m2 H2 => WCmp k op a b m2 H2 Q) (hm : behindInMarks op r = false := by with_unfolding_all rfl) : WV k (eval (.Compare l [op] [r] pos) k.env) m H Q :=
  fun B s st => wpAny_Compare1 (wpAny_mono (h B s st) (fun a s1 ⟨m1, H1, st1, q1⟩ => wpAny_mono (q1 B s1 st1) (fun b s2 ⟨m2, H2, st2, q2⟩ => q2 a b rfl rfl B s2 st2) fun _ _ x => x) fun _ _ x => x) hm
theorem WTr_bool {b : Bool} {Q : Bool → Loc → AHeap → Prop} (h : Q b m H) : WTr k (.bool b) m H Q := fun x e B s st => by rw [er_bool e]; exact wpAny_truthy_bool ⟨m, H, st, h⟩
theorem WT_Compare {l r : Expr} {op : CmpOp} {pos : Pos} {Q : Bool → Loc → AHeap → Prop}
    (h : WV k (eval l k.env) m H fun a m1 H1 => WV k (eval r k.env) m1 H1 fun b m2 H2 => WCmp k op a b m2 H2 fun v m3 H3 => WTr k v m3 H3 Q) (hm : behindInMarks op r = false := by with_unfolding_all rfl) :
    WT k (.Compare l [op] [r] pos) m H Q :=
  fun B s st => wpAny_isTrue_Compare1 (wpAny_mono (h B s st) (fun a s1 ⟨m1, H1, st1, q1⟩ => wpAny_mono (q1 B s1 st1) (fun b s2 ⟨m2, H2, st2, q2⟩ =>
    wpAny_mono (q2 a b rfl rfl B s2 st2) (fun v s3 ⟨m3, H3, st3, q3⟩ => q3 v rfl B s3 st3) fun _ _ x => x) fun _ _ x => x) fun _ _ x => x) hm
theorem WT_Not {x : Expr} {pos : Pos} {Q : Bool → Loc → AHeap → Prop} (h : WT k x m H fun b m1 H1 => Q (!b) m1 H1) : WT k (.UnaryOp .Not x pos) m H Q :=
  fun B s st => wpAny_isTrue_Not (h B s st)
theorem W_allTrue_nil {op : BoolOp} {Q : Bool → Loc → AHeap → Prop} (h : Q (op == .And) m H) : W k (allTrue op [] k.env) m H Q := fun B s st => wpAny_pure ⟨m, H, st, h⟩
theorem W_allTrue_and {x : Expr} {r : List Expr} {Q : Bool → Loc → AHeap → Prop} (h : WT k x m H fun b m1 H1 => if b = true then W k (allTrue .And r k.env) m1 H1 Q else Q false m1 H1) :
    W k (allTrue .And (x :: r) k.env) m H Q := by
  show W k (do match BoolOp.And, ← isTrue x k.env (eval x k.env) with
    | .And, false => pure false
    | .Or, true => pure true
    | _, _ => allTrue .And r k.env) m H Q
  refine W.bind (W.mono h fun b m1 H1 q => ?_)
  cases b
  · exact W.pure q
  · exact q
theorem W_allTrue_or {x : Expr} {r : List Expr} {Q : Bool → Loc → AHeap → Prop} (h : WT k x m H fun b m1 H1 => if b = true then Q true m1 H1 else W k (allTrue .Or r k.env) m1 H1 Q) :
    W k (allTrue .Or (x :: r) k.env) m H Q := by
  show W k (do match BoolOp.Or, ← isTrue x k.env (eval x k.env) with
    | .And, false => pure false
    | .Or, true => pure true
    | _, _ => allTrue .Or r k.env) m H Q
  refine W.bind (W.mono h fun b m1 H1 q => ?_)
  cases b
  · exact q
  · exact W.pure q
theorem WT_And {xs : List Expr} {pos : Pos} {Q : Bool → Loc → AHeap → Prop} (h : W k (allTrue .And xs k.env) m H Q) : WT k (.BoolOp .And xs pos) m H Q := h
theorem WT_Or {xs : List Expr} {pos : Pos} {Q : Bool → Loc → AHeap → Prop} (h : W k (allTrue .Or xs k.env) m H Q) : WT k (.BoolOp .Or xs pos) m H Q := h
theorem WT_plain {e : Expr} {Q : Bool → Loc → AHeap → Prop} (h : WV k (eval e k.env) m H fun v m1 H1 => WTr k v m1 H1 Q)
    (he : ∀ whole, isTrue e k.env whole = (do let v ← whole; standAt e.pos; PySem.holding [v] (truthy v)) := by intro _; rfl) : WT k e m H Q := by
  show W k (isTrue e k.env (eval e k.env)) m H Q
  rw [he]
  exact W.bind (W.mono h fun v m1 H1 q => W.bind (W.standAt (W.holding (q v rfl))))
theorem W_IfExp {t b e : Expr} {pos : Pos} {Q : V → Loc → AHeap → Prop} (h : WT k t m H fun x m1 H1 => if x = true then WV k (eval b k.env) m1 H1 Q else WV k (eval e k.env) m1 H1 Q) :
    WV k (eval (.IfExp t b e pos) k.env) m H Q := fun B s st => wpAny_IfExp (wpAny_mono (h B s st) (fun x s1 ⟨m1, H1, st1, q⟩ => by cases x <;> exact q B s1 st1) fun _ _ x => x)
/-! statements -/
noncomputable abbrev WF (k : Wk) (t : Sem Flow) (m : Loc) (H : AHeap) (Q : Flow → Loc → AHeap → Prop) : Prop := W k t m H Q
theorem W_nil {Q : Flow → Loc → AHeap → Prop} (h : Q .next m H) : W k (execs [] k.env) m H Q := fun B s st => wpAny_execs_nil ⟨m, H, st, h⟩
theorem W_cons {st : Stmt} {r : List Stmt} {Q : Flow → Loc → AHeap → Prop} (h : W k (exec st k.env) m H fun f m1 H1 => match f with | .next => W k (execs r k.env) m1 H1 Q | f => Q f m1 H1) : W k (execs (st :: r) k.env) m H Q :=
  fun B s stt => wpAny_execs_cons (wpAny_mono (h B s stt) (fun f s1 ⟨m1, H1, st1, q⟩ => by
    cases f <;> first | exact q B s1 st1 | exact ⟨m1, H1, st1, q⟩) fun _ _ x => x)
theorem W_If {t : Expr} {b e : List Stmt} {pos : Pos} {Q : Flow → Loc → AHeap → Prop} (h : WT k t m H fun x m1 H1 => if x = true then W k (execs b k.env) m1 H1 Q else W k (execs e k.env) m1 H1 Q) :
    W k (exec (.If t b e pos) k.env) m H Q := fun B s st => wpAny_If (wpAny_mono (h B s st) (fun x s1 ⟨m1, H1, st1, q⟩ => by cases x <;> exact q B s1 st1) fun _ _ x => x)
theorem W_Return {e : Expr} {pos : Pos} {Q : Flow → Loc → AHeap → Prop} (h : W k (eval e k.env) m H fun v m1 H1 => Q (.ret v) m1 H1) : W k (exec (.Return (some e) pos) k.env) m H Q :=
  fun B s st => wpAny_Return_some (h B s st)
theorem W_Expr {e : Expr} {pos : Pos} {Q : Flow → Loc → AHeap → Prop} (h : WV k (eval e k.env) m H fun _ m1 H1 => Q .next m1 H1) (hi : interactive k.env = false)
    (hs : swapsWith e none pos.line k.env = pure false) : W k (exec (.Expr e pos) k.env) m H Q :=
  fun B s st => wpAny_Expr_any (h B s st) hi hs
theorem W_Assign {x : Str} {p pos : Pos} {e : Expr} {Q : Flow → Loc → AHeap → Prop} (h : WV k (eval e k.env) m H fun v m1 H1 => Q .next (setL m1 x v) H1) (hx : storable k.env x = true)
    (hs : swapsWith e (some (.Name x p)) pos.line k.env = pure false) : W k (exec (.Assign [.Name x p] e pos) k.env) m H Q :=
  fun B s st => wpAny_Assign_Name (wpAny_mono (h B s st) (fun v s1 ⟨m1, H1, st1, q⟩ => W_store (Q := fun _ => Q .next) hx q B s1 st1) fun _ _ x => x) hs
theorem W_Aug {x : Str} {p pos : Pos} {op : Operator} {e : Expr} {old : V} {Q : Flow → Loc → AHeap → Prop} (ho : m x = some old) (h : WV k (eval e k.env) m H fun v m1 H1 => WInpl k op old v m1 H1 fun r m2 H2 => Q .next (setL m2 x r) H2)
    (hx : storable k.env x = true) (hn : (x == ("__classdict__" : Str)) = false := by decide) : W k (exec (.AugAssign (.Name x p) op e pos) k.env) m H Q :=
  fun B s st => wpAny_AugAssign_Name (wpAny_mono (W_loadName (Q := fun v m' H' => v = old ∧ m' = m ∧ H' = H) ho ⟨rfl, rfl, rfl⟩ hn B s st) (fun ov s1 hx1 => by
    refine Mine.hideG fun GG back => ?_
    obtain ⟨m1, H1, st1, e1, e2, e3⟩ := hx1
    refine back ?_
    clear back
    subst e2; subst e3
    exact wpAny_mono (h B s1 st1) (fun v s2 ⟨m2, H2, st2, q2⟩ => wpAny_mono (q2 ov v e1 rfl B s2 st2) (fun r s3 ⟨m3, H3, st3, q3⟩ => W_store (Q := fun _ => Q .next) hx q3 B s3 st3) fun _ _ x => x) fun _ _ x => x) fun _ _ x => x)
noncomputable def WSet (k : Wk) (o i v : V) (m : Loc) (H : AHeap) (Q : Loc → AHeap → Prop) : Prop := ∀ x y z, er x = o → er y = i → er z = v → W k (setItem x y z) m H fun _ => Q
theorem W_AssignSub {o i e : Expr} {p pos : Pos} {Q : Flow → Loc → AHeap → Prop}
    (h : WV k (eval e k.env) m H fun v m1 H1 => WV k (eval o k.env) m1 H1 fun ov m2 H2 => WV k (eval i k.env) m2 H2 fun iv m3 H3 => WSet k ov iv v m3 H3 (Q .next))
    (hs : swapsWith e (some (.Subscript o i p)) pos.line k.env = pure false := by rfl) : W k (exec (.Assign [.Subscript o i p] e pos) k.env) m H Q :=
  fun B s st => wpAny_Assign_Subscript (wpAny_mono (h B s st) (fun v s1 ⟨m1, H1, st1, q1⟩ => wpAny_mono (q1 B s1 st1) (fun ov s2 ⟨m2, H2, st2, q2⟩ => wpAny_mono (q2 B s2 st2) (fun iv s3 ⟨m3, H3, st3, q3⟩ =>
    q3 ov iv v rfl rfl rfl B s3 st3) fun _ _ x => x) fun _ _ x => x) fun _ _ x => x) hs
noncomputable def WAs (k : Wk) (t : Expr) (v : V) (m : Loc) (H : AHeap) (Q : Loc → AHeap → Prop) : Prop := ∀ x, er x = v → W k (assign t k.env x) m H fun _ => Q
theorem WAs_Name {x : Str} {p : Pos} {v : V} {Q : Loc → AHeap → Prop} (hx : storable k.env x = true) (h : Q (setL m x v) H) : WAs k (.Name x p) v m H Q := fun u e => by
  subst e
  show W k (do standAt p; bindName k.env x u) m H _
  exact W.bind (W.standAt (W_bindName hx h))
theorem W_AssignTup {es : List Expr} {n : Nat} {p pos : Pos} {e : Expr} {Q : Flow → Loc → AHeap → Prop} (h : WV k (eval e k.env) m H fun v m1 H1 => WAs k (.Tuple es n p) v m1 H1 (Q .next))
    (hs : swapsWithSole [.Tuple es n p] e pos.line k.env = pure false := by rfl) (hw : swappedStores [.Tuple es n p] e k.env = pure none := by rfl) : W k (exec (.Assign [.Tuple es n p] e pos) k.env) m H Q :=
  fun B s st => Assign_Tuple (wpAny_mono (h B s st) (fun v s1 ⟨m1, H1, st1, q⟩ => q v rfl B s1 st1) fun _ _ x => x) hs hw
end
end Mine
namespace Mine
noncomputable def bindM : List (Str × V) → Loc → Loc
  | [], m => m
  | (n, v) :: r, m => bindM r (setL m n v)
noncomputable def noLoc : Loc := fun _ => none
theorem bindM_var {kindOf : Str → Option NameKind} {cs : List (Str × Addr)} : ∀ (binds : List (Str × Value)) (bl bc : Str → Option Value) (m : Loc),
    (∀ x ∈ binds, kindOf x.1 = some .local ∨ (kindOf x.1 = some .cell ∧ (cs.lookup x.1).isSome = true)) →
    (∀ x v, m x = some v → match kindOf x with
      | some .local => ∃ u, bl x = some u ∧ er u = v
      | some .cell => ∃ a u, cs.lookup x = some a ∧ bc x = some u ∧ er u = v
      | _ => False) →
    ∀ x v, bindM (binds.map fun b => (b.1, er b.2)) m x = some v → match kindOf x with
      | some .local => ∃ u, bindL kindOf binds bl x = some u ∧ er u = v
      | some .cell => ∃ a u, cs.lookup x = some a ∧ bindC kindOf binds bc x = some u ∧ er u = v
      | _ => False
  | [], bl, bc, m, hk, h => h
  | (n, w) :: r, bl, bc, m, hk, h => by
    rw [List.map_cons]
    unfold bindM bindL bindC
    refine bindM_var r _ _ _ (fun x hx => hk x (List.mem_cons_of_mem _ hx)) fun x v e => ?_
    unfold setL at e
    have hn := hk (n, w) List.mem_cons_self
    by_cases hx : x = n
    · subst hx
      rw [if_pos rfl] at e
      cases e
      rcases hn with h1 | ⟨h1, h2⟩
      · simp only [h1, if_true]; exact ⟨w, rfl, rfl⟩
      · have hnl : ¬ kindOf x = some .local := by rw [h1]; decide
        obtain ⟨a, ha⟩ := Option.isSome_iff_exists.mp h2
        simp only [h1]
        rw [if_neg (by decide)]
        exact ⟨a, w, ha, by simp, rfl⟩
    · rw [if_neg hx] at e
      have q := h x v e
      split at q
      · rename_i hl
        obtain ⟨u, e1, e2⟩ := q
        refine ⟨u, ?_, e2⟩
        split
        · simp only [hx, if_false]; exact e1
        · exact e1
      · rename_i hl
        obtain ⟨a, u, e1, e2, e3⟩ := q
        refine ⟨a, u, e1, ?_, e3⟩
        split
        · exact e2
        · simp only [hx, if_false]; exact e2
      · exact q
noncomputable def hideEnv (env : Env) (h : Heap) (B : BMap) : BMap := fun a => if a ∈ places env then (h.get? a).map fun ob => (ob, true) else B a
theorem mem_outerOf {env e : Env} {o : List Env} (h : e ∈ outerOf env o) : (e = env ∧ env.frame = some env.locals) ∨ e ∈ o := by
  unfold outerOf at h
  split at h
  · rename_i hf
    rcases List.mem_cons.mp h with rfl | h
    · exact .inl ⟨rfl, hf⟩
    · exact .inr h
  · exact .inr h
section
variable {c : Cx} {o : Out} {env : Env} {B : BMap} {m : Loc} {H : AHeap} {s : Shared}
theorem St.place (st : St c o env B m H s) {a : Addr} (h : a ∈ places env) : ∃ ob, s.heap.get? a = some ob ∧ ∀ vs, ob.data ≠ .fields vs := by
  rcases List.mem_cons.mp h with rfl | h
  · obtain ⟨mv, ⟨ob, es, ep, ho, hd, _⟩, _⟩ := st.var
    exact ⟨ob, ho, fun vs q => by rw [hd] at q; cases q⟩
  · obtain ⟨v, ob, ho, hd⟩ := st.cell a h
    exact ⟨ob, ho, fun vs q => by rw [hd] at q; cases q⟩
theorem St.enter (st : St c o env B m H s) (hke : env.scope.kind = .function) {env' : Env} {bl bc : Str → Option Value} {m' : Loc} {s₁ : Shared} (x : InCallC s env'.locals bl env'.cells bc s₁)
    (hm : ∀ y v, m' y = some v → match env'.kindOf y with
      | some .local => ∃ u, bl y = some u ∧ er u = v
      | some .cell => ∃ a u, env'.cells.lookup y = some a ∧ bc y = some u ∧ er u = v
      | _ => False) (hcl : (env'.cells.map (·.1)).Nodup) (ht : 1 ≤ s₁.toks) :
    St c ⟨outerOf env o.fs, hideEnv env s.heap B⟩ env' (hideEnv env s.heap B) m' H s₁ := by
  obtain ⟨⟨⟨h₁, tk, e⟩, hns, hkeep, hnew⟩, hcell, hap, hab⟩ := x
  subst e
  have lookups : ∀ a ∈ env'.cells.map (·.2), ∃ n, env'.cells.lookup n = some a := fun a ha => by
    obtain ⟨⟨n, b⟩, e1, rfl⟩ := List.mem_map.mp ha
    refine ⟨n, ?_⟩
    clear hcell hap hab ha
    revert hcl e1
    generalize env'.cells = cs
    intro hcl e1
    induction cs with
    | nil => cases e1
    | cons p r ih =>
      obtain ⟨n', b'⟩ := p
      rw [List.map_cons, List.nodup_cons] at hcl
      rw [List.lookup_cons]
      rcases List.mem_cons.mp e1 with e1 | e1
      · cases e1; simp
      · have hne : (n == n') = false := by
          cases hq : n == n' with
          | false => rfl
          | true => exact absurd (by rw [← eq_of_beq hq]; exact List.mem_map_of_mem (f := (·.1)) e1) hcl.1
        rw [hne]; exact ih hcl.2 e1
  have above : ∀ a ∈ places env', s.heap.objs.size ≤ a := fun a ha => by
    rcases List.mem_cons.mp ha with rfl | ha
    · exact hnew
    · obtain ⟨⟨n, b⟩, e1, rfl⟩ := List.mem_map.mp ha
      exact Nat.le_of_lt (Nat.lt_of_le_of_lt hnew (hab n b e1))
  have fresh : ∀ a ∈ places env', s.heap.get? a = none := fun a ha => st.none_at (above a ha)
  refine ⟨fun b ob e => hkeep b ob (st.base b ob e), fun b ob l e => ?_, fun b z e => ?_, fun b z e => ?_, st.disBase, fun b q => ?_, ?_, fun b e => ?_, ⟨bl, hns, fun y v e => ?_⟩, ⟨fun e he => ?_, fun _ _ e => e⟩, st.gens, st.os, ht⟩
  · unfold hideEnv at e
    split at e
    · cases hg : s.heap.get? b with
      | none => rw [hg] at e; cases e
      | some ob' => rw [hg] at e; cases e; exact ⟨ob.slots, hkeep b ob hg, fun _ => rfl⟩
    · obtain ⟨sl, e1, e2⟩ := st.keep b ob l e
      exact ⟨sl, hkeep b _ e1, e2⟩
  · obtain ⟨ob, e1, e2⟩ := st.own b z e; exact ⟨ob, hkeep b ob e1, e2⟩
  · unfold hideEnv
    rw [if_neg (fun q => by rw [(st.pl b q).1] at e; cases e)]
    exact st.disB b z e
  · obtain ⟨f1, f2, f3, f4⟩ := st.fresh (fresh b q)
    refine ⟨f1, ?_, ?_⟩
    · unfold hideEnv; rw [if_neg f4]; exact f2
    · refine Nat.le_trans ?_ (above b q)
      have hb := (st.pl env.locals List.mem_cons_self).2.2
      obtain ⟨mv, hn, _⟩ := st.var
      exact Nat.le_of_lt (Nat.lt_of_le_of_lt hb hn.lt)
  · refine List.nodup_cons.mpr ⟨fun q => ?_, ?_⟩
    · obtain ⟨⟨n, b⟩, e1, e2⟩ := List.mem_map.mp q
      exact absurd (hab n b e1) (by rw [show b = env'.locals from e2]; exact Nat.lt_irrefl _)
    · exact List.pairwise_map.mpr hap
  · obtain ⟨n, hn⟩ := lookups b e
    exact ⟨_, hcell n b hn⟩
  · have q := hm y v e
    split at q
    · rename_i hl; simp only [hl]; exact q
    · rename_i hl
      obtain ⟨a, u, e1, e2, e3⟩ := q
      simp only [hl]
      exact ⟨a, u, e1, e2 ▸ hcell y a e1, e3⟩
    · exact q.elim
  · rcases mem_outerOf (show e ∈ outerOf env o.fs from he) with ⟨rfl, hf⟩ | he
    · refine ⟨by rw [hke]; decide, e.locals, ?_⟩
      obtain ⟨ob, ho, hd⟩ := st.place (a := e.locals) List.mem_cons_self
      refine ⟨ob, hf, ?_, ?_, hd⟩
      · unfold hideEnv; rw [if_pos (show e.locals ∈ places e from List.mem_cons_self), ho]; rfl
      · cases q : c.base.get? e.locals with
        | none => rfl
        | some z => exact absurd (Heap.lt_size q) (Nat.not_lt.mpr (st.pl e.locals List.mem_cons_self).2.2)
    · obtain ⟨k1, L, ob, k2, k3, k4, k5⟩ := st.frames.1 e he
      refine ⟨k1, L, ob, k2, ?_, k4, k5⟩
      unfold hideEnv
      rw [if_neg (fun q => by rw [(st.pl L q).2.1] at k3; cases k3)]
      exact k3
theorem St.leave (st : St c o env B m H s) {env' : Env} {B' : BMap} {m' : Loc} {H' : AHeap} {s' : Shared} (st' : St c ⟨outerOf env o.fs, hideEnv env s.heap B⟩ env' B' m' H' s') : St c o env B m H' s' := by
  have hidden : ∀ a ∈ places env, ∃ ob sl, s.heap.get? a = some ob ∧ s'.heap.get? a = some { ob with slots := sl } := fun a ha => by
    obtain ⟨ob, ho, _⟩ := st.place ha
    obtain ⟨sl, e1, _⟩ := st'.keep a ob true (st'.frames.2 _ _ (by show hideEnv env s.heap B a = _; unfold hideEnv; rw [if_pos ha, ho]; rfl))
    exact ⟨ob, sl, ho, e1⟩
  have old : ∀ a x, B a = some x → B' a = some x := fun a x e => st'.frames.2 _ _ <| by
    show hideEnv env s.heap B a = some x
    unfold hideEnv
    rw [if_neg (fun q => by rw [(st.pl a q).2.1] at e; cases e)]
    exact e
  have pn : ∀ a ∈ places env, ∃ x, B' a = some x := fun a ha => by
    obtain ⟨ob, ho, _⟩ := st.place ha
    exact ⟨(ob, true), st'.frames.2 _ _ (by show hideEnv env s.heap B a = _; unfold hideEnv; rw [if_pos ha, ho]; rfl)⟩
  refine ⟨st'.base, fun b ob l e => st'.keep b ob l (old b _ e), st'.own, fun b x e => ?_, st'.disBase, fun b q => ?_, st.nodup, fun b e => ?_, ?_, st.frames, st'.gens, st'.os, st'.tk⟩
  · have h1 := st'.disB b x e
    cases hb : B b with
    | none => rfl
    | some y => rw [old b y hb] at h1; cases h1
  · obtain ⟨e1, e2, e3⟩ := st.pl b q
    refine ⟨?_, e2, e3⟩
    obtain ⟨x, hx⟩ := pn b q
    cases hb : H' b with
    | none => rfl
    | some y => have := st'.disB b y hb; rw [hx] at this; cases this
  · obtain ⟨v, ob, e1, e2⟩ := st.cell b e
    obtain ⟨ob', sl, h1, h2⟩ := hidden b (List.mem_cons_of_mem _ e)
    rw [e1] at h1; cases h1
    exact ⟨v, _, h2, e2⟩
  · obtain ⟨mv, ⟨ob, es, ep, ho, hd, hk, hf⟩, hv⟩ := st.var
    obtain ⟨ob', sl, h1, h2⟩ := hidden env.locals List.mem_cons_self
    rw [ho] at h1; cases h1
    have cellK : ∀ x a z, env.cells.lookup x = some a → s.heap.IsCell a z → s'.heap.IsCell a z := fun x a z e ⟨ob, ho, hd⟩ => by
      obtain ⟨ob', sl, h1, h2⟩ := hidden a (List.mem_cons_of_mem _ (List.mem_map_of_mem (f := (·.2)) (mem_of_lookup e)))
      rw [ho] at h1; cases h1
      exact ⟨_, h2, hd⟩
    refine ⟨mv, ⟨_, es, ep, h2, hd, hk, hf⟩, fun x v e => ?_⟩
    have q := hv x v e
    split at q
    · exact q
    · obtain ⟨a, u, e1, e2, e3⟩ := q; exact ⟨a, u, e1, cellK x a _ e1 e2, e3⟩
    · obtain ⟨a, u, e1, e2, e3⟩ := q; exact ⟨a, u, e1, cellK x a _ e1 e2, e3⟩
    · exact q
theorem St.funFrames (st : St c o env B m H s) (hk : env.scope.kind = .function) : s.heap.FunFrames c.base (outerOf env o.fs) := by
  have hb : ∀ L, c.base.objs.size ≤ L → c.base.get? L = none := fun L h => none_ge h
  have go : ∀ l : List Env, (∀ e ∈ l, e.scope.kind ≠ .module ∧ ∃ L ob, e.frame = some L ∧ B L = some (ob, true) ∧ c.base.get? L = none ∧ ∀ vs, ob.data ≠ .fields vs) → s.heap.FunFrames c.base l := by
    intro l
    induction l with
    | nil => intro _; trivial
    | cons f r ih =>
      intro h
      obtain ⟨k1, L, ob, k2, k3, k4, k5⟩ := h f List.mem_cons_self
      obtain ⟨sl, e1, _⟩ := st.keep L ob true k3
      exact ⟨k1, ⟨L, _, k2, k4, e1, k5⟩, ih fun e he => h e (List.mem_cons_of_mem _ he)⟩
  unfold outerOf
  split
  · rename_i hf
    obtain ⟨ob, ho, hd⟩ := st.place (a := env.locals) List.mem_cons_self
    exact ⟨by rw [hk]; decide, ⟨env.locals, ob, hf, hb _ (st.pl _ List.mem_cons_self).2.2, ho, hd⟩, go _ st.frames.1⟩
  · exact go _ st.frames.1
theorem St.flown (st : St c o env B m H s) {base' h' : Heap} {tk : Nat} (hO : Ours c o env B H base') (h0 : base'.StaysIn s.heap) (h1 : base'.StaysIn h') (hu : s.heap.UpToSlots h') (ht : 1 ≤ tk) : St c o env B m H { s with heap := h', toks := tk } := by
  have notFrame : ∀ b, (∃ f ∈ outerOf env o.fs, f.frame = some b) → b ∈ places env ∨ ∃ ob, B b = some (ob, true) ∧ ∀ vs, ob.data ≠ .fields vs := fun b ⟨f, hf, e⟩ => by
    rcases mem_outerOf hf with ⟨rfl, hl⟩ | hf
    · rw [hl] at e; cases e; exact .inl List.mem_cons_self
    · obtain ⟨k1, L, ob, k2, k3, k4, k5⟩ := st.frames.1 f hf
      rw [k2] at e; cases e; exact .inr ⟨ob, k3, k5⟩
  have cellSame : ∀ a ∈ env.cells.map (·.2), ∀ ob, s.heap.get? a = some ob → h'.get? a = some ob := fun a ha ob ho => by
    have hp := st.pl a (List.mem_cons_of_mem _ ha)
    rcases hO.own a (.inr (.inr (List.mem_cons_of_mem _ ha))) with ⟨f, hf, e⟩ | ⟨ob', e'⟩
    · rcases mem_outerOf hf with ⟨rfl, hl⟩ | hf
      · rw [hl] at e; cases e
        exact absurd ha (List.nodup_cons.mp st.nodup).1
      · obtain ⟨k1, L, ob, k2, k3, k4, k5⟩ := st.frames.1 f hf
        rw [k2] at e; cases e; rw [hp.2.1] at k3; cases k3
    · have := h0 a ob' e'; rw [ho] at this; cases this; exact h1 a _ e'
  refine ⟨fun b ob e => h1 b ob (hO.cb b ob e), fun b ob l e => ?_, fun b x e => ?_, st.disB, st.disBase, st.pl, st.nodup, fun b e => ?_, ?_, st.frames, st.gens, st.os, ht⟩
  · obtain ⟨sl, e1, e2⟩ := st.keep b ob l e
    rcases hO.own b (.inr (.inl (by rw [e]; rfl))) with hf | ⟨ob', e'⟩
    · rcases notFrame b hf with hp | ⟨ob', k3, k5⟩
      · rw [(st.pl b hp).2.1] at e; cases e
      · rw [e] at k3; cases k3
        obtain ⟨sl', e3⟩ := hu b _ e1 k5
        exact ⟨sl', e3, fun q => by cases q⟩
    · have := h0 b ob' e'; rw [e1] at this; cases this
      exact ⟨sl, h1 b _ e', e2⟩
  · obtain ⟨ob, e1, e2⟩ := st.own b x e
    rcases hO.own b (.inl (by rw [e]; rfl)) with hf | ⟨ob', e'⟩
    · rcases notFrame b hf with hp | ⟨ob', k3, k5⟩
      · rw [(st.pl b hp).1] at e; cases e
      · rw [st.disB b x e] at k3; cases k3
    · have := h0 b ob' e'; rw [e1] at this; cases this
      exact ⟨ob, h1 b _ e', e2⟩
  · obtain ⟨v, ob, e1, e2⟩ := st.cell b e
    exact ⟨v, ob, cellSame b e ob e1, e2⟩
  · obtain ⟨mv, hn, hv⟩ := st.var
    refine ⟨mv, hu.ns hn, fun x v e => ?_⟩
    have cellK : ∀ x a z, env.cells.lookup x = some a → s.heap.IsCell a z → h'.IsCell a z := fun x a z e ⟨ob, ho, hd⟩ =>
      ⟨ob, cellSame a (List.mem_map_of_mem (f := (·.2)) (mem_of_lookup e)) ob ho, hd⟩
    have q := hv x v e
    split at q
    · exact q
    · obtain ⟨a, u, e1, e2, e3⟩ := q; exact ⟨a, u, e1, cellK x a _ e1 e2, e3⟩
    · obtain ⟨a, u, e1, e2, e3⟩ := q; exact ⟨a, u, e1, cellK x a _ e1 e2, e3⟩
    · exact q.elim
theorem St.making0 (st : St c o env B m H s) (hk : env.scope.kind = .function) {h' : Heap} {e : Addr} {cls : String} {xs : Option (List V)} {tk : Nat} {ob : Obj} {a0 : Value} (hkeep : ∀ b o, s.heap.get? b = some o → h'.get? b = some o) (hnew : s.heap.get? e = none) (he : h'.get? e = some ob) (hc : ob.cls = .type cls)
    (hd : ob.data = .fields #[a0, .none, .none, .none, .bool false, .none]) (ha : ∀ l, xs = some l → ∃ t vs n, a0 = .ref t ∧ (vs : List Value).map er = l ∧ h'.get? t = some { cls := .type "tuple", data := .seq vs.toArray n } ∧ s.heap.objs.size ≤ t ∧ s.heap.objs.size ≤ e ∧ t ≠ e) (ht : 1 ≤ tk) :
    St c o env B m H { s with heap := h', toks := tk } ∧ Made c o env B H e cls xs h' := by
  have stg := st.grown hkeep ht
  have frames : ∀ b ∈ (outerOf env o.fs).filterMap (·.frame), ∃ ob, s.heap.get? b = some ob ∧ c.base.get? b = none := fun b hm => by
    obtain ⟨f, hf, e⟩ := List.mem_filterMap.mp hm
    rcases mem_outerOf hf with ⟨rfl, hl⟩ | hf
    · rw [hl] at e; cases e
      obtain ⟨ob, ho, _⟩ := st.place (a := f.locals) List.mem_cons_self
      exact ⟨ob, ho, none_ge (st.pl f.locals List.mem_cons_self).2.2⟩
    · obtain ⟨k1, L, ob, k2, k3, k4, k5⟩ := st.frames.1 f hf
      rw [k2] at e; cases e
      obtain ⟨sl, e1, _⟩ := st.keep _ ob true k3
      exact ⟨{ ob with slots := sl }, e1, k4⟩
  have away : ∀ a, s.heap.objs.size ≤ a → Away env B H a := fun a h => by
    obtain ⟨f1, f2, f3, f4⟩ := st.fresh (st.none_at h)
    exact ⟨f1, f2, f4⟩
  refine ⟨stg, hideAll h' (e :: (outerOf env o.fs).filterMap (·.frame)), ob, a0, ⟨fun b ob q => hideAll_get _ (hkeep b ob (st.base b ob q)) fun hm => ?_, fun b q => ?_⟩, fun b ob q => of_hideAll _ q, funFrames_hide (stg.funFrames hk) fun f hf a e => List.mem_cons_of_mem _ (List.mem_filterMap.mpr ⟨f, hf, e⟩),
    hideAll_none _ List.mem_cons_self, he, hc, hd, fun l q => ?_⟩
  · rcases List.mem_cons.mp hm with rfl | hm
    · have := st.base b ob q; rw [hnew] at this; cases this
    · obtain ⟨_, _, k4⟩ := frames b hm
      rw [k4] at q; cases q
  · by_cases hm : b ∈ (outerOf env o.fs).filterMap (·.frame)
    · obtain ⟨f, hf, e⟩ := List.mem_filterMap.mp hm
      exact .inl ⟨f, hf, e⟩
    · refine .inr ?_
      have : ∃ ob, s.heap.get? b = some ob := by
        rcases q with q | q | q
        · obtain ⟨x, hx⟩ := Option.isSome_iff_exists.mp q
          obtain ⟨ob, e1, _⟩ := st.own b x hx; exact ⟨ob, e1⟩
        · obtain ⟨⟨ob, l⟩, hx⟩ := Option.isSome_iff_exists.mp q
          obtain ⟨sl, e1, _⟩ := st.keep b ob l hx; exact ⟨_, e1⟩
        · obtain ⟨ob, e1, _⟩ := st.place q; exact ⟨ob, e1⟩
      obtain ⟨ob, ho⟩ := this
      refine ⟨ob, hideAll_get _ (hkeep b ob ho) fun hm' => ?_⟩
      rcases List.mem_cons.mp hm' with rfl | hm'
      · rw [hnew] at ho; cases ho
      · exact hm hm'
  · obtain ⟨t, vs, n, h1, h2, h3, h4, h5, h6⟩ := ha l q
    refine ⟨t, vs, n, h1, h2, hideAll_get _ h3 fun hm => ?_, Nat.le_trans st.baseLe h4, Nat.le_trans st.baseLe h5, away t h4, away e h5⟩
    rcases List.mem_cons.mp hm with rfl | hm
    · exact h6 rfl
    · obtain ⟨_, e1, _⟩ := frames t hm
      rw [st.none_at h4] at e1; cases e1
theorem St.makingNew (st : St c o env B m H s) (hk : env.scope.kind = .function) {h' : Heap} {e : Addr} {cls : String} {tk : Nat} (hx : Heap.NewExc s.heap h' e cls) (ht : 1 ≤ tk) :
    St c o env B m H { s with heap := h', toks := tk } ∧ Made c o env B H e cls none h' := by
  obtain ⟨ob, a0, he, hc, hd⟩ := hx.there
  exact st.making0 hk hx.keeps hx.new he hc hd (fun l q => by cases q) ht
theorem Away.leave {env' : Env} {B' : BMap} {m' : Loc} {H' : AHeap} {s₀ s' : Shared} (st₀ : St c o env B m H s₀) (st' : St c ⟨outerOf env o.fs, hideEnv env s₀.heap B⟩ env' B' m' H' s') {a : Addr} (h : Away env' B' H' a) : Away env B H' a := by
  obtain ⟨h1, h2, h3⟩ := h
  refine ⟨h1, ?_, fun q => ?_⟩
  · cases e : B a with
    | none => rfl
    | some x =>
      rw [st'.frames.2 a x (by show hideEnv env s₀.heap B a = _; unfold hideEnv; rw [if_neg (fun z => by rw [(st₀.pl a z).2.1] at e; cases e)]; exact e)] at h2
      cases h2
  · obtain ⟨ob, ho, _⟩ := st₀.place q
    rw [st'.frames.2 a (ob, true) (by show hideEnv env s₀.heap B a = _; unfold hideEnv; rw [if_pos q, ho]; rfl)] at h2
    cases h2
theorem ArgsOf.leave {env' : Env} {B' : BMap} {m' : Loc} {H' : AHeap} {s₀ s' : Shared} (st₀ : St c o env B m H s₀) (st' : St c ⟨outerOf env o.fs, hideEnv env s₀.heap B⟩ env' B' m' H' s') {base' : Heap} {e : Addr} {a0 : Value} {l : List V} (h : ArgsOf c env' B' H' base' e a0 l) : ArgsOf c env B H' base' e a0 l := by
  obtain ⟨t, vs, n, h1, h2, h3, h4, h5, h6, h7⟩ := h
  exact ⟨t, vs, n, h1, h2, h3, h4, h5, h6.leave st₀ st', h7.leave st₀ st'⟩
theorem Ours.leave {env' : Env} {B' : BMap} {m' : Loc} {H' : AHeap} {s₀ s' : Shared} (st₀ : St c o env B m H s₀) (st' : St c ⟨outerOf env o.fs, hideEnv env s₀.heap B⟩ env' B' m' H' s') {base' : Heap} (hf' : env'.frame = some env'.locals)
    (hO : Ours c ⟨outerOf env o.fs, hideEnv env s₀.heap B⟩ env' B' H' base') : Ours c o env B H' base' := by
  refine ⟨hO.cb, fun b q => ?_⟩
  have q' : (H' b).isSome ∨ (B' b).isSome := by
    rcases q with q | q | q
    · exact .inl q
    · obtain ⟨x, hx⟩ := Option.isSome_iff_exists.mp q
      refine .inr ?_
      rw [st'.frames.2 b x (by show hideEnv env s₀.heap B b = _; unfold hideEnv; rw [if_neg (fun z => by rw [(st₀.pl b z).2.1] at hx; cases hx)]; exact hx)]; rfl
    · obtain ⟨ob, ho, _⟩ := st₀.place q
      refine .inr ?_
      rw [st'.frames.2 b (ob, true) (by show hideEnv env s₀.heap B b = _; unfold hideEnv; rw [if_pos q, ho]; rfl)]; rfl
  rcases hO.own b (by rcases q' with q' | q'; exact .inl q'; exact .inr (.inl q')) with ⟨f, hf, e⟩ | r
  · rcases mem_outerOf (show f ∈ outerOf env' (outerOf env o.fs) from hf) with ⟨rfl, hl⟩ | hf
    · rw [hl] at e; cases e
      have hp := st'.pl f.locals List.mem_cons_self
      rcases q' with q' | q'
      · rw [hp.1] at q'; cases q'
      · rw [hp.2.1] at q'; cases q'
    · exact .inl ⟨f, hf, e⟩
  · exact .inr r
end
structure FnAt (c : Cx) (f : Addr) (fd : FuncData) (body : List Stmt) : Prop where
  obj : ∃ fo, c.base.get? f = some fo ∧ fo.data = .func fd
  code : c.base.CodeRec fd.code fd.qualname
  body : fd.body = .stmts body
  kind : fd.scope.kind = .function
  co : fd.scope.isCoroutine = false
  gen : fd.scope.isGenerator = false
  glob : fd.globals = mainGlobals
  blt : fd.builtins = builtinsNs
  clo : fd.closure = []
  names : (fd.scope.names.map (·.1)).Nodup
theorem cellsFrom_names : ∀ (names : List (Str × NameKind)) (n : Nat) (acc : List (Str × Addr)), (names.map (·.1)).Nodup → (acc.map (·.1)).Nodup → (∀ x ∈ names.map (·.1), x ∉ acc.map (·.1)) → ((cellsFrom n names acc).map (·.1)).Nodup
  | [], n, acc, h1, h2, h3 => h2
  | (x, k) :: r, n, acc, h1, h2, h3 => by
    rw [List.map_cons, List.nodup_cons] at h1
    unfold cellsFrom
    split
    · refine cellsFrom_names r (n + 1) _ h1.2 ?_ fun y hy q => ?_
      · rw [List.map_cons, List.nodup_cons]; exact ⟨h3 x List.mem_cons_self, h2⟩
      · rw [List.map_cons] at q
        rcases List.mem_cons.mp q with rfl | q
        · exact h1.1 hy
        · exact h3 y (List.mem_cons_of_mem _ hy) q
    · exact cellsFrom_names r n acc h1.2 h2 fun y hy => h3 y (List.mem_cons_of_mem _ hy)
theorem cellsFrom_map : ∀ (names : List (Str × NameKind)) (n n' : Nat) (acc acc' : List (Str × Addr)), acc.map (·.1) = acc'.map (·.1) → (cellsFrom n names acc).map (·.1) = (cellsFrom n' names acc').map (·.1)
  | [], n, n', acc, acc', h => h
  | (x, k) :: r, n, n', acc, acc', h => by
    unfold cellsFrom
    split
    · exact cellsFrom_map r _ _ _ _ (by rw [List.map_cons, List.map_cons, h])
    · exact cellsFrom_map r _ _ _ _ h
noncomputable def cellNames (names : List (Str × NameKind)) : List Str := (cellsFrom 0 names []).map (·.1)
structure Sub (c : Cx) (A : Around) (fd : FuncData) (X : String → Option (List V) → AHeap → Prop) (k : Wk) : Prop where
  c : k.c = c
  sc : k.env.scope = fd.scope
  cn : k.env.cells.map (·.1) = cellNames fd.scope.names
  frame : k.env.frame = some k.env.locals
  depth : k.A.depth = A.depth + 1
  units : k.A.units = A.units + 3
  handled : k.A.handled = A.handled
  guards : k.A.guards = A.guards
  X : k.X = fun cls xs _ H => X cls xs H
  here : k.here
theorem Sub.senv {c : Cx} {A : Around} {fd : FuncData} {X : String → Option (List V) → AHeap → Prop} {k : Wk} (h : Sub c A fd X k) : SEnv k fd.scope (cellNames fd.scope.names) := ⟨h.sc, h.cn⟩
noncomputable def Fn (c : Cx) (A : Around) (f : Value) (args : Args) (H : AHeap) (Q : V → AHeap → Prop) (X : String → Option (List V) → AHeap → Prop) : Prop :=
  ∀ o env B m s, env.scope.kind = .function → A.frames = some (outerOf env o.fs) → St c o env B m H s → codeAny (model c.prog c.w) A (.call f args) (fun r s' => match r with
    | .ok (.ret v) => ∃ H', St c o env B m H' s' ∧ Q (er v) H'
    | .error x => ∃ H' a cls xs, x = .ref a ∧ St c o env B m H' s' ∧ InFl c o env B H' a cls xs s'.heap ∧ X cls xs H'
    | _ => False) s
noncomputable abbrev NoX : String → Option (List V) → AHeap → Prop := fun _ _ _ => False
noncomputable def flowV : Flow → V
  | .ret v => er v
  | _ => .none
theorem Fn.mono {c : Cx} {A : Around} {f : Value} {args : Args} {H : AHeap} {Q Q' : V → AHeap → Prop} {X X' : String → Option (List V) → AHeap → Prop} (h : Fn c A f args H Q X) (hQ : ∀ v H, Q v H → Q' v H) (hX : ∀ a b H, X a b H → X' a b H) : Fn c A f args H Q' X' :=
  fun o env B m s hk hf st => codeAny_mono (h o env B m s hk hf st) fun r s' q => by
    split at q
    · obtain ⟨H', st', q⟩ := q; exact ⟨H', st', hQ _ _ q⟩
    · obtain ⟨H', a, cls, xs, e, st', i, q⟩ := q; exact ⟨H', a, cls, xs, e, st', i, hX _ _ _ q⟩
    · exact q.elim
theorem Fn.of_body {c : Cx} {A : Around} {f : Addr} {fd : FuncData} {body : List Stmt} {args : Args} {binds : List (Str × Value)} {H : AHeap} {Q : V → AHeap → Prop} {X : String → Option (List V) → AHeap → Prop} (F : FnAt c f fd body)
    (hroom : A.depth < recursionLimit) (hbind : ∀ s, c.base.StaysIn s.heap → BindsTo s fd args binds)
    (hkind : (binds.all fun y => fd.scope.names.lookup y.1 == some .local || fd.scope.names.lookup y.1 == some .cell) = true)
    (h : ∀ k, Sub c A fd X k → W k (execs body k.env) (bindM (binds.map fun b => (b.1, er b.2)) noLoc) H fun fl _ H' => Q (flowV fl) H') : Fn c A (.ref f) args H Q X := by
  intro o env B m s hke hfr st
  obtain ⟨fo, hfo, hd⟩ := F.obj
  have hnd := cellsFrom_names fd.scope.names
  refine codeAny_call_function hroom (st.base f fo hfo) hd F.co F.gen F.body (F.code.keeps st.base) (hbind s st.base _ _ _ _ ?_)
  rw [F.clo]
  refine wpAny_mono (wpAny_toks_of st.tk (wpAny_newFunctionEnv_cells (E := fun _ _ => False) (Q := fun e s₁ => e = callEnvC fd s.heap.objs.size f ∧ InCallC s e.locals (bindL e.kindOf binds fun _ => none) e.cells (bindC e.kindOf binds fun _ => none) s₁)
    F.kind (kindsX hkind _) fun env' he s₁ x => ⟨he, x⟩)) (fun env' s₁ q => ?_) fun _ _ x => x.2.elim
  obtain ⟨ht, rfl, x⟩ := q
  have hmk : ∀ y v, bindM (binds.map fun b => (b.1, er b.2)) noLoc y = some v → match (callEnvC fd s.heap.objs.size f).kindOf y with
      | some .local => ∃ u, bindL (callEnvC fd s.heap.objs.size f).kindOf binds (fun _ => none) y = some u ∧ er u = v
      | some .cell => ∃ a u, (callEnvC fd s.heap.objs.size f).cells.lookup y = some a ∧ bindC (callEnvC fd s.heap.objs.size f).kindOf binds (fun _ => none) y = some u ∧ er u = v
      | _ => False :=
    bindM_var binds _ _ noLoc (kindsX hkind _) (fun y v e => by cases e)
  have st₁ := st.enter hke (env' := callEnvC fd s.heap.objs.size f) x hmk (hnd _ [] F.names List.nodup_nil (fun _ _ q => by cases q)) ht
  refine ⟨c.top.nolimit.keeps fun b ob e => x.toInCall.keep b ob (st.base b ob e), codeAny_func ?_⟩
  have hframe : (callEnvC fd s.heap.objs.size f).frame = some (callEnvC fd s.heap.objs.size f).locals := rfl
  have hA : (A.deeper (callEnvC fd s.heap.objs.size f)).frames = some (callEnvC fd s.heap.objs.size f :: outerOf env o.fs) := by show A.frames.map _ = _; rw [hfr]; rfl
  have hout : outerOf (callEnvC fd s.heap.objs.size f) (outerOf env o.fs) = callEnvC fd s.heap.objs.size f :: outerOf env o.fs := if_pos hframe
  let k : Wk := {
    c := c, A := A.deeper (callEnvC fd s.heap.objs.size f), o := ⟨outerOf env o.fs, hideEnv env s.heap B⟩, env := callEnvC fd s.heap.objs.size f,
    E := fun e s' => wpAny (model c.prog c.w) (A.deeper (callEnvC fd s.heap.objs.size f)) (leaving (callEnvC fd s.heap.objs.size f) e)
      (fun _ s'' => ∃ H' a cls xs, e = .ref a ∧ St c o env B m H' s'' ∧ InFl c o env B H' a cls xs s''.heap ∧ X cls xs H')
      (fun e' s'' => ∃ H' a cls xs, e' = .ref a ∧ St c o env B m H' s'' ∧ InFl c o env B H' a cls xs s''.heap ∧ X cls xs H') s',
    X := fun cls xs _ H => X cls xs H, here := True,
    pass := PassesOwn.leaving,
    fly := fun B' m' H' s' e cls xs st' i hX => by
      obtain ⟨base', a0, hO, hfl, hargs⟩ := i
      rw [show outerOf (callEnvC fd s.heap.objs.size f) (outerOf env o.fs) = callEnvC fd s.heap.objs.size f :: outerOf env o.fs from hout] at hfl
      have hO' := Ours.leave st st' hframe hO
      refine wpAny_leaves_onW hA hframe hfl fun h' hfl' hu => ?_
      exact ⟨H', e, cls, xs, rfl, (st.leave st').flown hO' hfl.1 hfl'.1 hu st'.tk, ⟨base', a0, hO', hfl', fun l q => (hargs l q).leave st st'⟩, hX⟩,
    made := fun _ B' m' H' s' e cls xs st' i hX => by
      obtain ⟨base', ob, a0, hO, hs0, hff, hnew, he, hc, hd, hargs⟩ := i
      rw [show outerOf (callEnvC fd s.heap.objs.size f) (outerOf env o.fs) = callEnvC fd s.heap.objs.size f :: outerOf env o.fs from hout] at hff
      have hO' := Ours.leave st st' hframe hO
      refine wpAny_leaving_firstW (a0 := a0) hA hff hframe he hs0 hnew hd rfl rfl fun h' hL => ?_
      rw [hc] at hL
      obtain ⟨k1, ⟨_, _, k2⟩, k3, k4⟩ := hL
      exact ⟨H', e, cls, xs, rfl, (st.leave st').flown hO' hs0 k1 k4 st'.tk, ⟨base', a0, hO', ⟨k1, hnew, k2, k3⟩, fun l q => (hargs l q).leave st st'⟩, hX⟩,
    kind := F.kind, glob := F.glob, blt := F.blt, frames := hA.trans (congrArg some hout.symm), fat := .inl hframe }
  have hk := h k ⟨rfl, rfl, cellsFrom_map _ _ _ _ _ rfl, rfl, rfl, rfl, rfl, rfl, rfl, trivial⟩ (hideEnv env s.heap B) s₁ st₁
  refine wpAny_mono hk (fun fl s' q => ?_) fun e s' q => ?_
  · obtain ⟨m', H', st', q⟩ := q
    refine ⟨H', st.leave st', ?_⟩
    cases fl <;> exact q
  · exact q
end Mine
namespace Mine
section
variable {k : Wk} {m : Loc} {H : AHeap}
/-! ints -/
theorem WBin_add {i j : Int} {Q : V → Loc → AHeap → Prop} (h : Q (.int (i + j)) m H) : WBin k .Add (.int i) (.int j) m H Q := fun x y hx hy => by
  obtain ⟨t, rfl⟩ := er_int hx; obtain ⟨u, rfl⟩ := er_int hy
  exact W.of_wp fun B s st P hp => wpAny_add_int (hp _ _ h)
theorem WInpl_add {i j : Int} {Q : V → Loc → AHeap → Prop} (h : Q (.int (i + j)) m H) : WInpl k .Add (.int i) (.int j) m H Q := fun x y hx hy => by
  obtain ⟨t, rfl⟩ := er_int hx; obtain ⟨u, rfl⟩ := er_int hy
  exact W.of_wp fun B s st P hp => wpAny_iadd_int (hp _ _ h)
theorem WBin_sub {i j : Int} {Q : V → Loc → AHeap → Prop} (h : Q (.int (i - j)) m H) : WBin k .Sub (.int i) (.int j) m H Q := fun x y hx hy => by
  obtain ⟨t, rfl⟩ := er_int hx; obtain ⟨u, rfl⟩ := er_int hy
  exact W.of_wp fun B s st P hp => PyProof.Rows.sub_int (hp _ _ h)
theorem WBin_mul {i j : Int} {Q : V → Loc → AHeap → Prop} (hm : IntMulOk i j) (h : Q (.int (i * j)) m H) : WBin k .Mult (.int i) (.int j) m H Q := fun x y hx hy => by
  obtain ⟨t, rfl⟩ := er_int hx; obtain ⟨u, rfl⟩ := er_int hy
  exact W.of_wp fun B s st P hp => PyProof.Rows.mul_int (hp _ _ h) hm
structure Roomy (k : Wk) : Prop where
  depth : k.A.depth + Builtin.pylongFrames < recursionLimit
  imp : importsNone k.c.p = true
  tree : k.c.prog.given.tree = none
  fr : ∃ e r, k.A.frames = some (e :: r) ∧ e.scope.isGenerator = false ∧ e.scope.isCoroutine = false ∧ e.builtins = builtinsNs ∧ e.globals = mainGlobals
theorem pylong_of {B : BMap} {s : Shared} (hr : Roomy k) (st : St k.c k.o k.env B m H s) : PylongRoom (model k.c.prog k.c.w) k.A s := by
  obtain ⟨e, r, h1, h2, h3, h4, h5⟩ := hr.fr
  exact PylongRoom.of (k.c.top.nolimit.keeps st.base) hr.depth (SeerAt.of ((k.c.top.seer hr.imp).keeps st.base) hr.tree h1 h2 h3 h4 h5)
theorem WBin_fdiv {i j : Int} {Q : V → Loc → AHeap → Prop} (hr : Roomy k) (hj : j ≠ 0) (h : Q (.int (i.fdiv j)) m H) : WBin k .FloorDiv (.int i) (.int j) m H Q := fun x y hx hy => by
  obtain ⟨t, rfl⟩ := er_int hx; obtain ⟨u, rfl⟩ := er_int hy
  exact W.of_wp fun B s st P hp => PyProof.Rows.floordiv_int hj (hp _ _ h) (.inr (pylong_of hr st))
theorem WBin_mod {i j : Int} {Q : V → Loc → AHeap → Prop} (hr : Roomy k) (hj : j ≠ 0) (h : Q (.int (i.fmod j)) m H) : WBin k .Mod (.int i) (.int j) m H Q := fun x y hx hy => by
  obtain ⟨t, rfl⟩ := er_int hx; obtain ⟨u, rfl⟩ := er_int hy
  exact W.of_wp fun B s st P hp => PyProof.Rows.mod_int' hj (hp _ _ h)
theorem WBin_pow {i j : Int} {Q : V → Loc → AHeap → Prop} (h0 : 0 ≤ j) (h1 : j ≤ 1000000) (h2 : i.natAbs < 2 ^ 64) (h : Q (.int (i ^ j.toNat)) m H) : WBin k .Pow (.int i) (.int j) m H Q := fun x y hx hy => by
  obtain ⟨t, rfl⟩ := er_int hx; obtain ⟨u, rfl⟩ := er_int hy
  exact W.of_wp fun B s st P hp => PyProof.Rows.pow_int h0 (bits_mul_le h2 h0 h1) (hp _ _ h)
noncomputable def WUn (k : Wk) (op : UnaryOp) (a : V) (m : Loc) (H : AHeap) (Q : V → Loc → AHeap → Prop) : Prop := ∀ x, er x = a → WV k (unaryOp op x) m H Q
theorem W_UnaryOp {op : UnaryOp} {e : Expr} {pos : Pos} {Q : V → Loc → AHeap → Prop} (h : WV k (eval e k.env) m H fun v m1 H1 => WUn k op v m1 H1 Q) : WV k (eval (.UnaryOp op e pos) k.env) m H Q :=
  fun B s st => wpAny_UnaryOp (wpAny_mono (h B s st) (fun v s1 ⟨m1, H1, st1, q⟩ => q v rfl B s1 st1) fun _ _ x => x)
theorem WUn_neg {i : Int} {Q : V → Loc → AHeap → Prop} (h : Q (.int (-i)) m H) : WUn k .USub (.int i) m H Q := fun x hx => by
  obtain ⟨t, rfl⟩ := er_int hx
  exact W.of_wp fun B s st P hp => PyProof.Rows.neg_int (hp _ _ h)
theorem WCmp_gt {i j : Int} {Q : V → Loc → AHeap → Prop} (h : Q (.bool (decide (j < i))) m H) : WCmp k .Gt (.int i) (.int j) m H Q := fun x y hx hy => by
  obtain ⟨t, rfl⟩ := er_int hx; obtain ⟨u, rfl⟩ := er_int hy
  exact W.of_wp fun B s st P hp => PyProof.Rows.gt_int (hp _ s.toks h)
theorem WCmp_le {i j : Int} {Q : V → Loc → AHeap → Prop} (h : Q (.bool (decide (i ≤ j))) m H) : WCmp k .LtE (.int i) (.int j) m H Q := fun x y hx hy => by
  obtain ⟨t, rfl⟩ := er_int hx; obtain ⟨u, rfl⟩ := er_int hy
  exact W.of_wp fun B s st P hp => PyProof.Rows.le_int (hp _ s.toks h)
theorem WCmp_ge {i j : Int} {Q : V → Loc → AHeap → Prop} (h : Q (.bool (decide (j ≤ i))) m H) : WCmp k .GtE (.int i) (.int j) m H Q := fun x y hx hy => by
  obtain ⟨t, rfl⟩ := er_int hx; obtain ⟨u, rfl⟩ := er_int hy
  exact W.of_wp fun B s st P hp => PyProof.Rows.ge_int (hp _ s.toks h)
theorem WCmp_eq {i j : Int} {Q : V → Loc → AHeap → Prop} (h : Q (.bool (decide (i = j))) m H) : WCmp k .Eq (.int i) (.int j) m H Q := fun x y hx hy => by
  obtain ⟨t, rfl⟩ := er_int hx; obtain ⟨u, rfl⟩ := er_int hy
  have e : (i == j) = decide (i = j) := by by_cases hij : i = j <;> simp [hij]
  exact W.of_wp fun B s st P hp => PyProof.Rows.eq_int (e ▸ hp _ s.toks h)
theorem WCmp_ne {i j : Int} {Q : V → Loc → AHeap → Prop} (h : Q (.bool (decide (i ≠ j))) m H) : WCmp k .NotEq (.int i) (.int j) m H Q := fun x y hx hy => by
  obtain ⟨t, rfl⟩ := er_int hx; obtain ⟨u, rfl⟩ := er_int hy
  have e : (i != j) = decide (i ≠ j) := by by_cases hij : i = j <;> simp [hij]
  exact W.of_wp fun B s st P hp => PyProof.Rows.ne_int (e ▸ hp _ s.toks h)
/-! texts -/
theorem WCmp_eqS {a b : Str} {t u : Tok} {Q : V → Loc → AHeap → Prop} (h : Q (.bool (decide (a = b))) m H) : WCmp k .Eq (.str a t) (.str b u) m H Q := fun x y hx hy => by
  obtain rfl := er_str hx; obtain rfl := er_str hy
  have e : (a == b) = decide (a = b) := by by_cases hij : a = b <;> simp [hij]
  exact W.of_wp fun B s st P hp => PyProof.Rows.eq_str (e ▸ hp _ s.toks h)
/-! is -/
theorem WCmp_isNone {v : V} {Q : V → Loc → AHeap → Prop} (hv : v ≠ .other) (h : Q (.bool (decide (v = .none))) m H) : WCmp k .Is v .none m H Q := fun x y hx hy => by
  obtain rfl := er_none hy
  have e : (x == .none) = decide (v = .none) := by subst hx; cases x <;> simp [er] at hv ⊢
  exact W.of_wp fun B s st P hp => is_none_gen (e ▸ hp _ s.toks h)
theorem WCmp_isNotNone {v : V} {Q : V → Loc → AHeap → Prop} (hv : v ≠ .other) (h : Q (.bool (decide (v ≠ .none))) m H) : WCmp k .IsNot v .none m H Q := fun x y hx hy => by
  obtain rfl := er_none hy
  have e : (!(x == .none)) = decide (v ≠ .none) := by subst hx; cases x <;> simp [er] at hv ⊢
  exact W.of_wp fun B s st P hp => isnot_none_gen (e ▸ hp _ s.toks h)
theorem WCmp_isTy {a b : String} {Q : V → Loc → AHeap → Prop} (h : Q (.bool (decide (a = b))) m H) : WCmp k .Is (.ty a) (.ty b) m H Q := fun x y hx hy => by
  obtain rfl := er_ty hx; obtain rfl := er_ty hy
  have e : (Value.type a == Value.type b) = decide (a = b) := by by_cases hij : a = b <;> simp [hij]
  exact W.of_wp fun B s st P hp => wpAny_is_plain rfl (e ▸ hp _ s.toks h)
theorem WCmp_isNotTy {a b : String} {Q : V → Loc → AHeap → Prop} (h : Q (.bool (decide (a ≠ b))) m H) : WCmp k .IsNot (.ty a) (.ty b) m H Q := fun x y hx hy => by
  obtain rfl := er_ty hx; obtain rfl := er_ty hy
  have e : (!(Value.type a == Value.type b)) = decide (a ≠ b) := by by_cases hij : a = b <;> simp [hij]
  exact W.of_wp fun B s st P hp => wpAny_isNot_plain rfl (e ▸ hp _ s.toks h)
/-! truth -/
theorem WTr_int {i : Int} {Q : Bool → Loc → AHeap → Prop} (h : Q (decide (i ≠ 0)) m H) : WTr k (.int i) m H Q := fun x hx => by
  obtain ⟨t, rfl⟩ := er_int hx
  have e : (i != 0) = decide (i ≠ 0) := by by_cases hij : i = 0 <;> simp [hij]
  exact W.of_wp fun B s st P hp => PyProof.Rows.truthy_int (e ▸ hp _ s.toks h)
/-! displays -/
noncomputable def WItems (k : Wk) (es : List Expr) (m : Loc) (H : AHeap) (Q : List V → Loc → AHeap → Prop) : Prop := ∀ pos, W k (spliced (backTo pos (starEach es k.env))) m H fun vs => Q (vs.map er)
theorem WItems_nil {Q : List V → Loc → AHeap → Prop} (h : Q [] m H) : WItems k [] m H Q := fun pos B s st => wpAny_items_nil ⟨m, H, st, h⟩
theorem WItems_cons {e : Expr} {es : List Expr} {Q : List V → Loc → AHeap → Prop} (h : WV k (eval e k.env) m H fun v m1 H1 => WItems k es m1 H1 fun vs => Q (v :: vs))
    (he : starEach (e :: es) k.env = (false, eval e k.env) :: starEach es k.env := by rfl) : WItems k (e :: es) m H Q := fun pos B s st =>
  wpAny_items_cons (wpAny_mono (h B s st) (fun v s1 ⟨m1, H1, st1, q⟩ => wpAny_mono (q pos B s1 st1) (fun vs s2 ⟨m2, H2, st2, q2⟩ => ⟨m2, H2, st2, q2⟩) fun _ _ x => x) fun _ _ x => x) he
theorem St.newList {c : Cx} {o : Out} {env : Env} {B : BMap} {s : Shared} (st : St c o env B m H s) (vs : List Value) :
    H s.heap.objs.size = none ∧ St c o env B m (upd H s.heap.objs.size (.list (vs.map er))) { s with heap := s.heap.push { cls := .type "list", data := .seq vs.toArray } } := by
  have hn := st.none_at (Nat.le_refl _)
  exact ⟨(st.fresh hn).1, st.new (tk := s.toks) (Nat.le_refl _) (fun b ob e => Heap.get?_push_of_some _ e) ⟨_, Heap.get?_push_size _ rfl, vs, 0, rfl, rfl⟩ st.tk⟩
theorem St.newTup {c : Cx} {o : Out} {env : Env} {B : BMap} {s : Shared} (st : St c o env B m H s) (vs : List Value) :
    H s.heap.objs.size = none ∧ St c o env B m (upd H s.heap.objs.size (.tup (vs.map er))) { s with heap := s.heap.push { cls := .type "tuple", data := .seq vs.toArray } } := by
  have hn := st.none_at (Nat.le_refl _)
  exact ⟨(st.fresh hn).1, st.new (tk := s.toks) (Nat.le_refl _) (fun b ob e => Heap.get?_push_of_some _ e) ⟨_, Heap.get?_push_size _ rfl, vs, 0, rfl, rfl⟩ st.tk⟩
theorem W_List {es : List Expr} {pos : Pos} {Q : V → Loc → AHeap → Prop} (h : WItems k es m H fun vs m1 H1 => vs.length ≤ sizeLine ∧ ∀ a, H1 a = none → Q (.ref a) m1 (upd H1 a (.list vs))) : WV k (eval (.List es pos) k.env) m H Q :=
  fun B s st => wpAny_List (wpAny_mono (h pos B s st) (fun vs s1 ⟨m1, H1, st1, q⟩ => by
    obtain ⟨hn, st2⟩ := st1.newList vs
    exact ⟨by simpa using q.1, m1, _, st2, q.2 _ hn⟩) fun _ _ x => x)
theorem W_Tuple {es : List Expr} {n : Nat} {pos : Pos} {Q : V → Loc → AHeap → Prop} (h : WItems k es m H fun vs m1 H1 => vs.length ≤ sizeLine ∧ ∀ a, H1 a = none → Q (.ref a) m1 (upd H1 a (.tup vs))) : WV k (eval (.Tuple es n pos) k.env) m H Q :=
  fun B s st => wpAny_Tuple (wpAny_mono (h pos B s st) (fun vs s1 ⟨m1, H1, st1, q⟩ => by
    obtain ⟨hn, st2⟩ := st1.newTup vs
    exact ⟨by simpa using q.1, m1, _, st2, q.2 _ hn⟩) fun _ _ x => x)
theorem W_Dict0 {pos : Pos} {Q : V → Loc → AHeap → Prop} (h : ∀ a, H a = none → Q (.ref a) m (upd H a (.dict [] 0))) : WV k (eval (.Dict [] [] pos) k.env) m H Q := fun B s st => by
  show wpAny _ _ (do standAt pos; dictDisplay []) _ _ s
  refine wpAny_bind (wpAny_standAt ?_)
  show wpAny _ _ (do match ← (do if ([] : List (Sem Value × Sem Value)).isEmpty then return (Option.none : Option Addr) else return Option.none : Sem (Option Addr)) with
    | some d => pure (.ref d)
    | Option.none => newDict) _ _ s
  refine wpAny_bind (wpAny_pure ?_)
  have hn := st.none_at (Nat.le_refl _)
  refine wpAny_newObj_type ⟨m, _, st.new (y := .dict [] 0) (tk := s.toks) (Nat.le_refl _) (fun b ob e => Heap.get?_push_of_some _ e) ⟨_, Heap.get?_push_size _ rfl, ⟨rfl, rfl, rfl⟩, #[], rfl, fun _ he => by simp at he, [], Pairs.nil, List.nodup_nil, rfl⟩ st.tk, h _ (st.fresh hn).1⟩
end
end Mine
namespace Mine
noncomputable def getK : List (Key × V) → Key → Option V
  | [], _ => none
  | (k', v) :: r, k => if k' = k then some v else getK r k
noncomputable def putK : List (Key × V) → Key → V → List (Key × V)
  | [], k, v => [(k, v)]
  | (k', w) :: r, k, v => if k' = k then (k', v) :: r else (k', w) :: putK r k v
noncomputable abbrev erP (kv : Key × Value) : Key × V := (kv.1, er kv.2)
theorem getK_er (rvs : List (Key × Value)) (k : Key) : getK (rvs.map erP) k = (valueAt rvs k).map er := by
  induction rvs with
  | nil => rfl
  | cons p r ih =>
    obtain ⟨k', v⟩ := p
    rw [List.map_cons]
    unfold getK
    by_cases h : k' = k
    · subst h; simp [valueAt]
    · rw [if_neg h, ih]
      simp [valueAt, h]
theorem putK_new {kvs : List (Key × V)} {k : Key} {v : V} (h : getK kvs k = none) : putK kvs k v = kvs ++ [(k, v)] := by
  induction kvs with
  | nil => rfl
  | cons p r ih =>
    obtain ⟨k', w⟩ := p
    unfold getK at h
    split at h
    · cases h
    · rename_i hne
      unfold putK
      rw [if_neg hne, ih h]; rfl
theorem putK_er {rvs : List (Key × Value)} (hn : (rvs.map (·.1)).Nodup) (k : Key) (v : Value) : (stored rvs k v).map erP = putK (rvs.map erP) k (er v) := by
  unfold stored
  induction rvs with
  | nil => rfl
  | cons p r ih =>
    obtain ⟨k', w⟩ := p
    rw [List.map_cons, List.nodup_cons] at hn
    by_cases h : k' = k
    · subst h
      have e : (r.map fun kv => if kv.1 = k' then (kv.1, v) else kv) = r := map_store_of_not_mem r k' v hn.1
      simp [putK, e]
    · have ih' := ih hn.2
      have e : putK (((k', w) :: r).map erP) k (er v) = (k', er w) :: putK (r.map erP) k (er v) := by
        rw [List.map_cons]
        show (if k' = k then _ else _) = _
        rw [if_neg h]
      rw [e, ← ih']
      by_cases hany : (r.any fun kv => decide (kv.1 = k)) = true
      · rw [if_pos hany, if_pos (by rw [List.any_cons, hany, Bool.or_true])]
        simp [h]
      · have hany' : (r.any fun kv => decide (kv.1 = k)) = false := (Bool.not_eq_true _).mp hany
        rw [if_neg hany, if_neg (by rw [List.any_cons, hany']; simp [h])]
        simp
noncomputable def epK (kvs : List (Key × V)) (k : Key) (ep : Nat) : Nat := if (getK kvs k).isSome then ep else ep + 1
section
variable {c : Cx} {A : Around} {E : Value → Shared → Prop} {s : Shared}
theorem dictAt_of {d : Addr} {ob : Obj} {kvs : List (Key × V)} {ep : Nat} {h : Heap} (ho : h.get? d = some ob) (hI : IsObj c ob (.dict kvs ep)) :
    ∃ rvs, h.DictAt (mix c.prog c.w) d rvs ep ∧ rvs.map erP = kvs := by
  obtain ⟨hx, es, hd, hk, rvs, hp, hn, hm⟩ := hI
  exact ⟨rvs, ⟨ob, es, ho, hx, hd, hk, hp, hn⟩, hm⟩
theorem of_dictAt {d : Addr} {rvs : List (Key × Value)} {ep : Nat} {h : Heap} (x : h.DictAt (mix c.prog c.w) d rvs ep) : ∃ ob, h.get? d = some ob ∧ IsObj c ob (.dict (rvs.map erP) ep) := by
  obtain ⟨ob, es, ho, hx, hd, hk, hp, hn⟩ := x
  exact ⟨ob, ho, hx, es, hd, hk, rvs, hp, hn, rfl⟩
theorem dictSet_at {d : Addr} {rvs : List (Key × Value)} {ep : Nat} {k : Key} {key v : Value} {Q : Unit → Shared → Prop} (hkey : isKey k key = true) (hm : s.heap.DictAt (mix c.prog c.w) d rvs ep)
    (hQ : ∀ h', h'.DictAt (mix c.prog c.w) d (stored rvs k v) (epK (rvs.map erP) k ep) → Heap.SameBut d s.heap h' → Q () { s with heap := h', toks := s.toks + 1 })
    (hsz : rvs.length ≤ sizeLine) : wpAny (model c.prog c.w) A (dictSet d key v) Q E s := by
  obtain ⟨o, es, ho, hc, hd, hk, hp, hn⟩ := hm
  have hes : es.size ≤ sizeLine := by
    have e1 := hp.length
    have e2 : es.toList.length = es.size := by simp
    lia
  have hkey' : (mix c.prog c.w).is k key = true := hkey
  unfold dictSet
  try with_reducible refine wpAny_holding ?_
  refine wpAny_bind ((mix c.prog c.w).pyHash hkey' ?_)
  unfold dictSetHashed
  try with_reducible refine wpAny_holding ?_
  refine wpAny_bind (wpAny_dictFind_of (s := { s with toks := s.toks + 1 }) hkey' ho hd hk ?_)
  have hidx : (es.findIdx? fun e => (mix c.prog c.w).is k e.key) = rvs.findIdx? fun kv => decide (kv.1 = k) := by
    rw [← hp.findIdx k]; obtain ⟨l⟩ := es; simp
  have hget := getK_er rvs k
  cases hi : es.findIdx? fun e => (mix c.prog c.w).is k e.key with
  | some i =>
    have hl : (es.toList.findIdx? fun e => (mix c.prog c.w).is k e.key) = some i := by rw [← hi]; obtain ⟨l⟩ := es; simp
    obtain ⟨e, he, hek, hev⟩ := hp.at hl
    have hep : epK (rvs.map erP) k ep = ep := by unfold epK; rw [hget, hev]; rfl
    rw [hep] at hQ
    refine wpAny_bind (wpAny_rule (wpAny_bind (wpAny_updateDict (s := { s with toks := s.toks + 1 }) ho hd (wpAny_point (hQ _ ⟨_, _, Heap.get?_update_self _ ho (Obj.isFreed_of_dict (Obj.data_mapDict hd _)),
      hc.mapDict _, Obj.data_mapDict hd _, hk.modify _ _, ?_, ?_⟩ (Heap.SameBut.update ..))))))
    · rw [stored, if_pos (any_of_findIdx_some (hidx ▸ hi))]
      have := hp.modify hn hl v
      obtain ⟨l⟩ := es
      simpa using this
    · rw [stored, if_pos (any_of_findIdx_some (hidx ▸ hi)), keys_map_store]; exact hn
  | none =>
    have hnot : k ∉ rvs.map (·.1) := not_mem_of_findIdx_none (hidx ▸ hi)
    have hany : ¬ (rvs.any fun kv => kv.1 = k) = true := by
      rw [List.any_eq_true]; rintro ⟨kv, hkv, he⟩
      exact hnot (List.mem_map.mpr ⟨kv, hkv, of_decide_eq_true he⟩)
    have hv : valueAt rvs k = none := by
      rw [← hp.find k]
      have : (es.toList.find? fun e => (mix c.prog c.w).is k e.key) = none := by
        rw [List.find?_eq_none]
        intro e he
        have := Array.findIdx?_eq_none_iff.mp hi e (Array.mem_toList_iff.mp he)
        simpa using this
      rw [this]; rfl
    have hep : epK (rvs.map erP) k ep = ep + 1 := by unfold epK; rw [hget, hv]; rfl
    rw [hep] at hQ
    refine wpAny_bind (wpAny_rule (wpAny_updateDictKeys (hz := hes) (s := { s with toks := s.toks + 1 }) ho hd (hQ _ ⟨_, _, Heap.get?_update_self _ ho (Obj.isFreed_of_dict (Obj.data_mapDictKeys hd _)),
      hc.mapDictKeys _, Obj.data_mapDictKeys hd _, hk.push hkey' _, ?_, ?_⟩ (Heap.SameBut.update ..))))
    · rw [stored, if_neg hany]
      have := hp.append hkey' ((mix c.prog c.w).hash k) v
      obtain ⟨l⟩ := es
      simpa using this
    · rw [stored, if_neg hany, List.map_append, List.nodup_append]
      refine ⟨hn, by simp, ?_⟩
      intro a ha b hb
      simp only [List.map_cons, List.map_nil, List.mem_singleton] at hb
      subst hb
      exact fun e => hnot (e ▸ ha)
end
section
variable {k : Wk} {m : Loc} {H : AHeap}
theorem St.notMods {c : Cx} {o : Out} {env : Env} {B : BMap} {s : Shared} (st : St c o env B m H s) {d : Addr} {x : AObj} (hd : H d = some x) : (d == sysModules) = false := by
  have h1 := st.disBase d x hd
  have h2 := c.top.g.lt
  have : sysModules < mainGlobals := by decide
  exact beq_eq_false_iff_ne.mpr (Nat.ne_of_gt (Nat.lt_trans this (Nat.lt_of_lt_of_le h2 h1)))
theorem St.dictAt {c : Cx} {o : Out} {env : Env} {B : BMap} {s : Shared} (st : St c o env B m H s) {d : Addr} {kvs : List (Key × V)} {ep : Nat} (hd : H d = some (.dict kvs ep)) :
    ∃ rvs, s.heap.DictAt (mix c.prog c.w) d rvs ep ∧ rvs.map erP = kvs := by
  obtain ⟨ob, ho, hI⟩ := st.own d _ hd
  exact dictAt_of ho hI
theorem St.listAt {c : Cx} {o : Out} {env : Env} {B : BMap} {s : Shared} (st : St c o env B m H s) {l : Addr} {xs : List V} (hl : H l = some (.list xs)) :
    ∃ vs n, IsL s.heap l (vs : List Value).toArray n ∧ vs.map er = xs := by
  obtain ⟨ob, ho, vs, n, rfl, e⟩ := st.own l _ hl
  exact ⟨vs, n, ho, e⟩
theorem St.tupAt {c : Cx} {o : Out} {env : Env} {B : BMap} {s : Shared} (st : St c o env B m H s) {l : Addr} {xs : List V} (hl : H l = some (.tup xs)) :
    ∃ vs n, s.heap.get? l = some { cls := .type "tuple", data := .seq (vs : List Value).toArray n } ∧ vs.map er = xs := by
  obtain ⟨ob, ho, vs, n, rfl, e⟩ := st.own l _ hl
  exact ⟨vs, n, ho, e⟩
/-! dicts: store, look, in -/
theorem WSet_dict {d : Addr} {kvs : List (Key × V)} {ep : Nat} {key : Key} {kv v : V} {Q : Loc → AHeap → Prop} (hd : H d = some (.dict kvs ep)) (hk : isKV key kv = true) (hsz : kvs.length ≤ sizeLine)
    (h : Q m (upd H d (.dict (putK kvs key v) (epK kvs key ep)))) : WSet k (.ref d) kv v m H Q := fun x y z hx hy hz B s st => by
  obtain rfl := er_ref hx
  subst hz
  have hkey : isKey key y = true := by rw [isKey_er, hy]; exact hk
  obtain ⟨rvs, hm, rfl⟩ := st.dictAt hd
  have hT := hm.dictOf.typeIs
  unfold setItem
  try with_reducible refine wpAny_holding ?_
  refine wpAny_bind (wpAny_sequenceKey hT (by decide) ?_)
  refine wpAny_bind (wpAny_callSpecial?_slot (name := Str.ofString "__setitem__") hT slot_dict_setitem
    (wpAny_call_entry slot_dict_setitem hT entry_dict_setitem ?_ (args_dict_setitem _ _ _)))
  show wpAny _ _ (Builtin.Dict.notOrdered "__setitem__" ⟨[.ref d, y, z], []⟩ >>= _) _ _ s
  refine wpAny_bind (wpAny_notOrdered_dict hT ?_)
  show wpAny _ _ (dictSet d y z >>= _) _ _ s
  refine wpAny_bind (dictSet_at hkey hm (fun h' hm' hs' => wpAny_pure ⟨.none, rfl, wpAny_pure ⟨m, _, ?_, h⟩⟩) (by simpa using hsz))
  obtain ⟨ob, h1, h2⟩ := of_dictAt hm'
  refine st.put hd (fun b ob ne e => (hs'.2 b ne).trans e) ⟨ob, h1, ?_⟩ (Nat.le_succ_of_le st.tk)
  rw [← putK_er hm.nodup]; exact h2
theorem mapOf_get {c : Cx} {d : Addr} {rvs : List (Key × Value)} {ep : Nat} {h : Heap} (x : h.DictAt (mix c.prog c.w) d rvs ep) {key : Key} {v : V} (e : getK (rvs.map erP) key = some v) :
    ∃ u, valueAt rvs key = some u ∧ er u = v := by
  rw [getK_er] at e
  cases q : valueAt rvs key with
  | none => rw [q] at e; cases e
  | some u => rw [q] at e; exact ⟨u, rfl, Option.some.inj e⟩
noncomputable def WSub (k : Wk) (value slice : Expr) (o i : V) (m : Loc) (H : AHeap) (Q : V → Loc → AHeap → Prop) : Prop := ∀ x y, er x = o → er y = i → WV k (subscriptTail value slice x y) m H Q
theorem W_Subscript {value slice : Expr} {pos : Pos} {Q : V → Loc → AHeap → Prop} (h : WV k (eval value k.env) m H fun o m1 H1 => WV k (eval slice k.env) m1 H1 fun i m2 H2 => WSub k value slice o i m2 H2 Q) :
    WV k (eval (.Subscript value slice pos) k.env) m H Q := fun B s st =>
  Subscript_ (wpAny_mono (h B s st) (fun o s1 ⟨m1, H1, st1, q1⟩ => wpAny_mono (q1 B s1 st1) (fun i s2 ⟨m2, H2, st2, q2⟩ => q2 o i rfl rfl B s2 st2) fun _ _ x => x) fun _ _ x => x)
theorem WSub_dict {value slice : Expr} {d : Addr} {kvs : List (Key × V)} {ep : Nat} {key : Key} {kv v : V} {Q : V → Loc → AHeap → Prop} (hd : H d = some (.dict kvs ep)) (hk : isKV key kv = true) (hv : getK kvs key = some v) (h : Q v m H)
    (hs : ∀ o i, subscripted slice false o i = operate [o, i] (getItem o i) := by intro _ _; with_unfolding_all rfl) : WSub k value slice (.ref d) kv m H Q := fun x y hx hy => by
  obtain rfl := er_ref hx
  have hkey : isKey key y = true := by rw [isKey_er, hy]; exact hk
  refine W.of_wp fun B s st P hp => ?_
  obtain ⟨rvs, hm, rfl⟩ := st.dictAt hd
  obtain ⟨u, e1, rfl⟩ := mapOf_get hm hv
  exact tail_any hm.dictOf.typeIs slot_dict_getitem.lookup (wpAny_getItem_of (knd := mix k.c.prog k.c.w) hkey hm.dictOf.mapOf e1 (hp _ _ h)) (hs _ _)
theorem WSub_list {value slice : Expr} {l : Addr} {xs : List V} {i : Int} {v : V} {Q : V → Loc → AHeap → Prop} (hl : H l = some (.list xs)) (h0 : 0 ≤ i) (h1 : i < 2 ^ 63) (hv : xs[i.toNat]? = some v) (h : Q v m H)
    (hs : ∀ o i, subscripted slice false o i = operate [o, i] (getItem o i) := by intro _ _; with_unfolding_all rfl) : WSub k value slice (.ref l) (.int i) m H Q := fun x y hx hy => by
  obtain rfl := er_ref hx
  obtain ⟨t, rfl⟩ := er_int hy
  refine W.of_wp fun B s st P hp => ?_
  obtain ⟨vs, n, hl', rfl⟩ := st.listAt hl
  rw [List.getElem?_map, Option.map_eq_some_iff] at hv
  obtain ⟨u, e1, rfl⟩ := hv
  exact tail_any hl'.isList.typeIs slot_list_getitem.lookup (wpAny_getItem_list hl'.isList h0 h1 (by simpa using e1) (hp _ s.toks h)) (hs _ _)
theorem WSub_listNeg {value slice : Expr} {l : Addr} {xs : List V} {i : Int} {v : V} {Q : V → Loc → AHeap → Prop} (hl : H l = some (.list xs)) (h0 : i < 0) (h1 : -(2 ^ 63) ≤ i) (h2 : -(xs.length : Int) ≤ i) (hv : xs[(i + xs.length).toNat]? = some v) (h : Q v m H)
    (hs : ∀ o i, subscripted slice false o i = operate [o, i] (getItem o i) := by intro _ _; with_unfolding_all rfl) : WSub k value slice (.ref l) (.int i) m H Q := fun x y hx hy => by
  obtain rfl := er_ref hx
  obtain ⟨t, rfl⟩ := er_int hy
  refine W.of_wp fun B s st P hp => ?_
  obtain ⟨vs, n, hl', rfl⟩ := st.listAt hl
  rw [List.getElem?_map, Option.map_eq_some_iff] at hv
  obtain ⟨u, e1, rfl⟩ := hv
  rw [List.length_map] at h2 e1
  exact tail_any hl'.isList.typeIs slot_list_getitem.lookup (wpAny_getItem_list_neg hl'.isList h0 (by simpa using h2) h1 (by simpa using e1) (hp _ s.toks h)) (hs _ _)
theorem WSub_tup {value slice : Expr} {l : Addr} {xs : List V} {i : Int} {j : Nat} {v : V} {Q : V → Loc → AHeap → Prop} (hl : H l = some (.tup xs)) (h0 : -(2 ^ 63) ≤ i) (h1 : i < 2 ^ 63) (hj : seqIndex? i xs.length = some j) (hv : xs[j]? = some v) (h : Q v m H)
    (hs : ∀ o i, subscripted slice false o i = operate [o, i] (getItem o i) := by intro _ _; with_unfolding_all rfl) : WSub k value slice (.ref l) (.int i) m H Q := fun x y hx hy => by
  obtain rfl := er_ref hx
  obtain ⟨t, rfl⟩ := er_int hy
  refine W.of_wp fun B s st P hp => ?_
  obtain ⟨vs, n, hl', rfl⟩ := st.tupAt hl
  rw [List.getElem?_map, Option.map_eq_some_iff] at hv
  obtain ⟨u, e1, rfl⟩ := hv
  rw [List.length_map] at hj
  exact item_tupleT (l := vs) ⟨_, hl', rfl, n, rfl⟩ h0 h1 hj e1 (hp _ s.toks h) (hs _ _)
theorem WCmp_notInDict {d : Addr} {kvs : List (Key × V)} {ep : Nat} {key : Key} {kv : V} {Q : V → Loc → AHeap → Prop} (hd : H d = some (.dict kvs ep)) (hk : isKV key kv = true) (h : Q (.bool (!(getK kvs key).isSome)) m H) : WCmp k .NotIn kv (.ref d) m H Q := fun x y hx hy => by
  obtain rfl := er_ref hy
  have hkey : isKey key x = true := by rw [isKey_er, hx]; exact hk
  refine W.of_wp fun B s st P hp => ?_
  obtain ⟨rvs, hm, rfl⟩ := st.dictAt hd
  have e : (!(valueAt rvs key).isSome) = !(getK (rvs.map erP) key).isSome := by rw [getK_er]; cases valueAt rvs key <;> rfl
  exact wpAny_notIn_of (knd := mix k.c.prog k.c.w) hkey (st.notMods hd) hm.dictOf.mapOf (e ▸ hp _ _ h)
/-! calls of built-ins -/
noncomputable def WCall (k : Wk) (f : Value) (args : List V) (m : Loc) (H : AHeap) (Q : V → Loc → AHeap → Prop) : Prop := ∀ vs, vs.map er = args → WV k (call f vs) m H Q
theorem evalArgs_of {f : Value} {es : List Expr} {pos : Pos} {Q : List V → Loc → AHeap → Prop} (hp : (starEach es k.env).any (·.1) = false) (h : WItems k es m H Q) :
    W k (evalArgs f true (backTo pos (starEach es k.env)) []) m H fun a m1 H1 => a.kw = [] ∧ Q (a.pos.map er) m1 H1 := fun B s st => by
  have h' := h pos B s st
  cases hs : starEach es k.env with
  | nil =>
    rw [hs] at h'
    have h'' : wpAny (model k.c.prog k.c.w) k.A (spliced []) (fun v s' => ∃ m' H', St k.c k.o k.env B m' H' s' ∧ Q (v.map er) m' H') k.E s := h'
    show wpAny _ _ (evalArgs f true [] []) _ _ s
    unfold evalArgs
    show wpAny _ _ (spliced [] >>= _) _ _ s
    refine wpAny_bind (wpAny_mono h'' (fun vs s1 ⟨m1, H1, st1, q⟩ => ?_) fun _ _ x => x)
    refine wpAny_bind (wpAny_pure (wpAny_holding ?_))
    exact wpAny_bind (wpAny_pure (wpAny_bind (wpAny_pure (wpAny_pure ⟨m1, H1, st1, rfl, q⟩))))
  | cons x r =>
    obtain ⟨b, t⟩ := x
    rw [hs] at h' hp
    have hb : b = false := by simp at hp; exact hp.1
    subst hb
    exact Calls.evalArgs_plain (wpAny_mono h' (fun vs s1 ⟨m1, H1, st1, q⟩ => ⟨m1, H1, st1, rfl, q⟩) fun _ _ x => x)
end
end Mine
namespace Mine
section
variable {k : Wk} {m : Loc} {H : AHeap}
/-! calls by a global name -/
theorem W_CallB {x : Str} {i : String} {p pos : Pos} {args : List Expr} {Q : V → Loc → AHeap → Prop} (hg : Gl k.c x (.builtin i)) (hx : k.env.kindOf x = some .globalImplicit)
    (h : WItems k args m H fun vs m1 H1 => WCall k (.builtin i) vs m1 H1 Q)
    (hp : (starEach args k.env).any (·.1) = false := by rfl) (hp' : (backTo pos (starEach args k.env)).any (·.1) = false := by rfl)
    (hd : (x == ("__debug__" : Str)) = false := by decide) : WV k (eval (.Call (.Name x p) args [] pos) k.env) m H Q := fun B s st =>
  wpAny_Call_NameR (wpAny_mono (W_NameG (Q := fun v m' H' => v = .bi i ∧ m' = m ∧ H' = H) hg hx ⟨rfl, rfl, rfl⟩ hd B s st) (fun f s1 hx1 => by
    refine Mine.hideG fun GG back => ?_
    obtain ⟨m1, H1, st1, e1, e2, e3⟩ := hx1
    refine back ?_
    clear back
    subst e2; subst e3
    obtain rfl := er_bi e1
    exact Calls.callWith_builtin hp' (wpAny_mono (evalArgs_of (f := .builtin i) (pos := pos) hp h B s1 st1) (fun a s2 ⟨m2, H2, st2, e, q⟩ => by
      rw [e]; exact q _ rfl B s2 st2) fun _ _ x => x)) fun _ _ x => x)
theorem W_CallT {x : Str} {T : String} {p pos : Pos} {args : List Expr} {Q : V → Loc → AHeap → Prop} (hg : Gl k.c x (.type T)) (hx : k.env.kindOf x = some .globalImplicit)
    (h : WItems k args m H fun vs m1 H1 => WCall k (.type T) vs m1 H1 Q)
    (hp : (starEach args k.env).any (·.1) = false := by rfl) (hp' : (backTo pos (starEach args k.env)).any (·.1) = false := by rfl)
    (hd : (x == ("__debug__" : Str)) = false := by decide) : WV k (eval (.Call (.Name x p) args [] pos) k.env) m H Q := fun B s st =>
  wpAny_Call_NameR (wpAny_mono (W_NameG (Q := fun v m' H' => v = .ty T ∧ m' = m ∧ H' = H) hg hx ⟨rfl, rfl, rfl⟩ hd B s st) (fun f s1 hx1 => by
    refine Mine.hideG fun GG back => ?_
    obtain ⟨m1, H1, st1, e1, e2, e3⟩ := hx1
    refine back ?_
    clear back
    subst e2; subst e3
    obtain rfl := er_ty e1
    exact PySem.callWith_type hp' (wpAny_mono (evalArgs_of (f := .type T) (pos := pos) hp h B s1 st1) (fun a s2 ⟨m2, H2, st2, e, q⟩ => by
      rw [e]; exact q _ rfl B s2 st2) fun _ _ x => x)) fun _ _ x => x)
noncomputable def FnV (c : Cx) (A : Around) (f : Addr) (vs : List V) (kw : List (Str × V)) (H : AHeap) (Q : V → AHeap → Prop) (X : String → Option (List V) → AHeap → Prop) : Prop :=
  ∀ rvs rkw, (rvs : List Value).map er = vs → (rkw : List (Str × Value)).map (fun p => (p.1, er p.2)) = kw → Fn c A (.ref f) ⟨rvs, rkw⟩ H Q X
theorem FnV.mono {c : Cx} {A : Around} {f : Addr} {vs : List V} {kw : List (Str × V)} {H : AHeap} {Q Q' : V → AHeap → Prop} {X X' : String → Option (List V) → AHeap → Prop} (h : FnV c A f vs kw H Q X) (hQ : ∀ v H, Q v H → Q' v H) (hX : ∀ a b H, X a b H → X' a b H) : FnV c A f vs kw H Q' X' :=
  fun rvs rkw h1 h2 => (h rvs rkw h1 h2).mono hQ hX
theorem W_callF {f : Addr} {rvs : List Value} {rkw : List (Str × Value)} {Q : V → Loc → AHeap → Prop} (h : Fn k.c k.A (.ref f) ⟨rvs, rkw⟩ H (fun v H' => Q v m H') fun a b H' => k.X a b m H') : WV k (call (.ref f) rvs rkw) m H Q := fun B s st =>
  wpAny_call (codeAny_mono (h k.o k.env B m s k.kind k.frames st) fun r s' q => by
    split at q
    · obtain ⟨H', st', q⟩ := q; exact ⟨m, H', st', q⟩
    · obtain ⟨H', a, cls, xs, rfl, st', i, q⟩ := q; exact k.fly _ _ _ _ _ _ _ st' i q
    · exact q.elim)
theorem W_CallF {x : Str} {f : Addr} {fo : Obj} {fd : FuncData} {p pos : Pos} {args : List Expr} {Q : V → Loc → AHeap → Prop} (hg : Gl k.c x (.ref f)) (hx : k.env.kindOf x = some .globalImplicit)
    (ho : k.c.base.get? f = some fo) (hd' : fo.data = .func fd)
    (h : WItems k args m H fun vs m1 H1 => FnV k.c k.A f vs [] H1 (fun v H' => Q v m1 H') fun a b H' => k.X a b m1 H')
    (hp : (starEach args k.env).any (·.1) = false := by rfl)
    (hd : (x == ("__debug__" : Str)) = false := by decide) : WV k (eval (.Call (.Name x p) args [] pos) k.env) m H Q := fun B s st =>
  wpAny_Call_NameR (wpAny_mono (W_NameG (Q := fun v m' H' => v = .ref f ∧ m' = m ∧ H' = H) hg hx ⟨rfl, rfl, rfl⟩ hd B s st) (fun g s1 hx1 => by
    refine Mine.hideG fun GG back => ?_
    obtain ⟨m1, H1, st1, e1, e2, e3⟩ := hx1
    refine back ?_
    clear back
    subst e2; subst e3
    obtain rfl := er_ref e1
    exact Calls.callWith_function (o := fo) (fd := fd) (wpAny_mono (evalArgs_of (f := .ref f) (pos := pos) hp h B s1 st1) (fun a s2 ⟨m2, H2, st2, e, q⟩ => by
      rw [e]; exact ⟨⟨st2.base f fo ho, hd'⟩, W_callF (q _ [] rfl rfl) B s2 st2⟩) fun _ _ x => x)) fun _ _ x => x)
/-! methods of built-in types -/
theorem W_CallM {o : Expr} {name : Str} {apos pos : Pos} {args : List Expr} {T id : String} {Q : V → Loc → AHeap → Prop}
    (pa : PlainAttrs T) (slot : Slot T name id) (hty : typeOf (.builtin id) = pure (.type "method_descriptor"))
    (h : WV k (eval o k.env) m H fun ov m1 H1 => ∃ a y, ov = .ref a ∧ H1 a = some y ∧ (∀ ob, IsObj k.c ob y → ob.cls = .type T ∧ ob.dict = none) ∧ WItems k args m1 H1 fun vs m2 H2 => WCall k (.builtin id) (ov :: vs) m2 H2 Q)
    (hbase : attributeBase o name k.env (eval o k.env) = eval o k.env := by rfl)
    (hfew : ((backTo pos (starEach args k.env)).all (fun x => !x.1) && (backToKw pos (keywordEach [] k.env)).all (fun x => x.1.isSome)
      && decide (args.length + ([] : List Keyword).length + (if ([] : List Keyword).isEmpty then 0 else 1) < 30)) = true := by rfl)
    (hline : (apos.endLine == pos.line) = true := by rfl) (hp : (starEach args k.env).any (·.1) = false := by rfl) (hp' : (backTo pos (starEach args k.env)).any (·.1) = false := by rfl) :
    WV k (eval (.Call (.Attribute o name apos) args [] pos) k.env) m H Q := fun B s st =>
  PySem.wpAny_Call_method hbase hfew hline pa slot hty (wpAny_mono (h B s st) (fun ov s1 hx1 => by
    refine Mine.hideG fun GG back => ?_
    obtain ⟨m1, H1, st1, a, y, e, hy, hT, q⟩ := hx1
    refine back ?_
    clear back
    obtain rfl := er_ref e
    refine Mine.hideG fun GG back => ?_
    obtain ⟨ob, ho, hI⟩ := st1.own a y hy
    obtain ⟨t1, t2⟩ := hT ob hI
    refine back ?_
    clear back
    refine ⟨⟨ob, ho, t1⟩, fun b eb => by cases eb; exact ⟨ob, ho, t2⟩, ?_⟩
    refine Calls.callWith_builtin hp' (wpAny_mono (evalArgs_of (f := .builtin id) (pos := pos) hp q B s1 st1) (fun a s2 ⟨m2, H2, st2, e, q⟩ => ?_) fun _ _ x => x)
    rw [e]; exact q _ rfl B s2 st2) fun _ _ x => x)
theorem isList_cls {c : Cx} {xs : List V} : ∀ ob, IsObj c ob (.list xs) → ob.cls = .type "list" ∧ ob.dict = none := fun ob ⟨vs, n, e, _⟩ => by rw [e]; exact ⟨rfl, rfl⟩
theorem isTup_cls {c : Cx} {xs : List V} : ∀ ob, IsObj c ob (.tup xs) → ob.cls = .type "tuple" ∧ ob.dict = none := fun ob ⟨vs, n, e, _⟩ => by rw [e]; exact ⟨rfl, rfl⟩
theorem isDict_cls {c : Cx} {kvs : List (Key × V)} {ep : Nat} : ∀ ob, IsObj c ob (.dict kvs ep) → ob.cls = .type "dict" ∧ ob.dict = none := fun ob h => ⟨h.1.1, h.1.2.1⟩
end
end Mine
namespace Mine
theorem sub_ll : isSubtype (.type "list") (.type "list") = pure true := by rw [isSubtype_type]; kernel_rfl
theorem sub_ld : isSubtype (.type "list") (.type "dict") = pure false := by rw [isSubtype_type]; kernel_rfl
theorem sub_ls : isSubtype (.type "list") (.type "str") = pure false := by rw [isSubtype_type]; kernel_rfl
theorem sub_dl : isSubtype (.type "dict") (.type "list") = pure false := by rw [isSubtype_type]; kernel_rfl
theorem sub_dd : isSubtype (.type "dict") (.type "dict") = pure true := by rw [isSubtype_type]; kernel_rfl
theorem sub_ds : isSubtype (.type "dict") (.type "str") = pure false := by rw [isSubtype_type]; kernel_rfl
theorem sub_tl : isSubtype (.type "tuple") (.type "list") = pure false := by rw [isSubtype_type]; kernel_rfl
theorem sub_td : isSubtype (.type "tuple") (.type "dict") = pure false := by rw [isSubtype_type]; kernel_rfl
theorem sub_ts : isSubtype (.type "tuple") (.type "str") = pure false := by rw [isSubtype_type]; kernel_rfl
theorem sub_sl : isSubtype (.type "str") (.type "list") = pure false := by rw [isSubtype_type]; kernel_rfl
theorem sub_sd : isSubtype (.type "str") (.type "dict") = pure false := by rw [isSubtype_type]; kernel_rfl
theorem sub_ss : isSubtype (.type "str") (.type "str") = pure true := by rw [isSubtype_type]; kernel_rfl
theorem sub_il : isSubtype (.type "int") (.type "list") = pure false := by rw [isSubtype_type]; kernel_rfl
theorem sub_id : isSubtype (.type "int") (.type "dict") = pure false := by rw [isSubtype_type]; kernel_rfl
theorem sub_is : isSubtype (.type "int") (.type "str") = pure false := by rw [isSubtype_type]; kernel_rfl
theorem mt_l : typeOf (.type "list") = pure (.type "type") := by kernel_rfl
theorem mt_d : typeOf (.type "dict") = pure (.type "type") := by kernel_rfl
theorem mt_s : typeOf (.type "str") = pure (.type "type") := by kernel_rfl
theorem map_er1 {vs : List Value} {a : V} (e : vs.map er = [a]) : ∃ x, vs = [x] ∧ er x = a := by
  rcases vs with _ | ⟨x, _ | ⟨y, r⟩⟩ <;> simp at e
  exact ⟨x, rfl, e⟩
theorem map_er2 {vs : List Value} {a b : V} (e : vs.map er = [a, b]) : ∃ x y, vs = [x, y] ∧ er x = a ∧ er y = b := by
  rcases vs with _ | ⟨x, _ | ⟨y, _ | ⟨z, r⟩⟩⟩ <;> simp at e
  exact ⟨x, y, rfl, e⟩
theorem map_er3 {vs : List Value} {a b c : V} (e : vs.map er = [a, b, c]) : ∃ x y z, vs = [x, y, z] ∧ er x = a ∧ er y = b ∧ er z = c := by
  rcases vs with _ | ⟨x, _ | ⟨y, _ | ⟨z, _ | ⟨u, r⟩⟩⟩⟩ <;> simp at e
  exact ⟨x, y, z, rfl, e⟩
noncomputable def tyOf (H : AHeap) : V → Option String
  | .int _ => some "int"
  | .str _ _ => some "str"
  | .ref a => match H a with
    | some (.list _) => some "list"
    | some (.tup _) => some "tuple"
    | some (.dict _ _) => some "dict"
    | _ => none
  | _ => none
section
variable {k : Wk} {m : Loc} {H : AHeap}
theorem St.typeIs {c : Cx} {o : Out} {env : Env} {B : BMap} {s : Shared} (st : St c o env B m H s) {v : Value} {T : String} (h : tyOf H (er v) = some T) : s.TypeIs v T := by
  cases v with
  | int i t => simp [er, tyOf] at h; subst h; exact typeIs_int s i t
  | str x t => simp [er, tyOf] at h; subst h; rfl
  | ref a =>
    simp only [er, tyOf] at h
    split at h
    · rename_i xs e
      cases h
      obtain ⟨ob, ho, hI⟩ := st.own a _ e
      exact ⟨ob, ho, (isList_cls ob hI).1⟩
    · rename_i xs e
      cases h
      obtain ⟨ob, ho, hI⟩ := st.own a _ e
      exact ⟨ob, ho, (isTup_cls ob hI).1⟩
    · rename_i xs ep e
      cases h
      obtain ⟨ob, ho, hI⟩ := st.own a _ e
      exact ⟨ob, ho, (isDict_cls ob hI).1⟩
    · cases h
  | _ => simp [er, tyOf] at h
theorem WCall_isinst {v : V} {Tx T : String} {Q : V → Loc → AHeap → Prop} (hv : tyOf H v = some Tx) (hTx : Tx ∈ ["int", "str", "list", "tuple", "dict"]) (hT : T ∈ ["list", "dict", "str"]) (h : Q (.bool (decide (Tx = T))) m H) :
    WCall k (.builtin "isinstance") [v, .ty T] m H Q := fun vs e => by
  obtain ⟨x, y, rfl, rfl, e2⟩ := map_er2 e
  obtain rfl := er_ty e2
  refine W.of_wp fun B s st P hp => ?_
  have hty := st.typeIs hv
  have mt : typeOf (.type T) = pure (.type "type") := by
    simp only [List.mem_cons, List.mem_nil_iff, or_false] at hT
    rcases hT with rfl | rfl | rfl
    · exact mt_l
    · exact mt_d
    · exact mt_s
  have sub : isSubtype (.type Tx) (.type T) = pure (decide (Tx = T)) := by
    simp only [List.mem_cons, List.mem_nil_iff, or_false] at hT hTx
    rcases hTx with rfl | rfl | rfl | rfl | rfl <;> rcases hT with rfl | rfl | rfl
    · exact sub_il
    · exact sub_id
    · exact sub_is
    · exact sub_sl
    · exact sub_sd
    · exact sub_ss
    · exact sub_ll
    · exact sub_ld
    · exact sub_ls
    · exact sub_tl
    · exact sub_td
    · exact sub_ts
    · exact sub_dl
    · exact sub_dd
    · exact sub_ds
  by_cases hTT : Tx = T
  · have e : decide (Tx = T) = true := by simp [hTT]
    rw [e] at sub h
    exact call_isinstance (isinstance_true (Tx := Tx) mt sub) ⟨hty, hp _ s.toks h⟩
  · have e : decide (Tx = T) = false := by simp [hTT]
    rw [e] at sub h
    have hne : (Value.type Tx == Value.type T) = false := by simp [hTT]
    simp only [List.mem_cons, List.mem_nil_iff, or_false] at hTx
    rcases hTx with rfl | rfl | rfl | rfl | rfl
    · obtain ⟨t, i, rfl⟩ : ∃ t i, x = .int i t := by
        cases x with
        | int i t => exact ⟨t, i, rfl⟩
        | ref a => simp only [er, tyOf] at hv; split at hv <;> simp at hv
        | _ => simp [er, tyOf] at hv
      exact call_isinstance (isinstance_false_int hne mt sub) (hp _ _ h)
    · obtain ⟨t, i, rfl⟩ : ∃ t i, x = .str i t := by
        cases x with
        | str i t => exact ⟨t, i, rfl⟩
        | ref a => simp only [er, tyOf] at hv; split at hv <;> simp at hv
        | _ => simp [er, tyOf] at hv
      exact call_isinstance (isinstance_false_str hne mt sub) (hp _ _ h)
    · obtain ⟨a, rfl⟩ : ∃ a, x = .ref a := by cases x <;> simp [er, tyOf] at hv ⊢
      exact call_isinstance (isinstance_false_list hne mt sub) ⟨hty, hp _ _ h⟩
    · obtain ⟨a, rfl⟩ : ∃ a, x = .ref a := by cases x <;> simp [er, tyOf] at hv ⊢
      exact call_isinstance (isinstance_false_tuple hne mt sub) ⟨hty, hp _ _ h⟩
    · obtain ⟨a, rfl⟩ : ∃ a, x = .ref a := by cases x <;> simp [er, tyOf] at hv ⊢
      exact call_isinstance (isinstance_false_dict hne mt sub) ⟨hty, hp _ _ h⟩
theorem WCall_type {v : V} {Tx : String} {Q : V → Loc → AHeap → Prop} (hv : tyOf H v = some Tx) (hTx : Tx ∈ ["int", "str", "list", "tuple", "dict"]) (h : Q (.ty Tx) m H) : WCall k (.type "type") [v] m H Q := fun vs e => by
  obtain ⟨x, rfl, rfl⟩ := map_er1 e
  refine W.of_wp fun B s st P hp => ?_
  refine call_type_of (st.typeIs hv) ?_ (hp (.type Tx) s.toks h)
  simp only [List.mem_cons, List.mem_nil_iff, or_false] at hTx
  rcases hTx with rfl | rfl | rfl | rfl | rfl <;> decide
theorem W.of_new {t : Sem Value} {R : AObj → Prop} {Q : V → Loc → AHeap → Prop}
    (h : ∀ B s, St k.c k.o k.env B m H s → ∀ P : Value → Shared → Prop, (∀ a h' tk y, R y → s.heap.objs.size ≤ a → (∀ b ob, s.heap.get? b = some ob → h'.get? b = some ob) → (∃ ob, h'.get? a = some ob ∧ IsObj k.c ob y) → P (.ref a) { s with heap := h', toks := tk }) →
      wpAny (model k.c.prog k.c.w) k.A t P k.E s)
    (hQ : ∀ a y, R y → H a = none → Q (.ref a) m (upd H a y)) : WV k t m H Q := fun B s st =>
  wpAny_mono (wpAny_toks_of st.tk (h B s st (fun v s' => ∃ a h' tk y, v = .ref a ∧ R y ∧ s.heap.objs.size ≤ a ∧ (∀ b ob, s.heap.get? b = some ob → h'.get? b = some ob) ∧ (∃ ob, h'.get? a = some ob ∧ IsObj k.c ob y) ∧ s' = { s with heap := h', toks := tk })
    fun a h' tk y h1 h2 h3 h4 => ⟨a, h', tk, y, rfl, h1, h2, h3, h4, rfl⟩)) (fun v s' q => by
      obtain ⟨ht, a, h', tk, y, rfl, h1, h2, h3, h4, rfl⟩ := q
      exact ⟨m, _, st.new h2 h3 h4 ht, hQ a y h1 (st.fresh (st.none_at h2)).1⟩) fun _ _ x => x.2
theorem WCall_lenL {a : Addr} {xs : List V} {Q : V → Loc → AHeap → Prop} (ha : H a = some (.list xs)) (hz : xs.length < 2 ^ 63) (h : Q (.int xs.length) m H) : WCall k (.builtin "len") [.ref a] m H Q := fun vs e => by
  obtain ⟨x, rfl, e'⟩ := map_er1 e
  obtain rfl := er_ref e'
  refine W.of_wp fun B s st P hp => ?_
  obtain ⟨vs, n, hl, rfl⟩ := st.listAt ha
  rw [List.length_map] at h hz
  exact call_len_list hl.isList (by simp; lia) (by simpa using hp (.int vs.length (s.toks + 1)) (s.toks + 2) h)
theorem WCall_lenT {a : Addr} {xs : List V} {Q : V → Loc → AHeap → Prop} (ha : H a = some (.tup xs)) (hz : xs.length < 2 ^ 63) (h : Q (.int xs.length) m H) : WCall k (.builtin "len") [.ref a] m H Q := fun vs e => by
  obtain ⟨x, rfl, e'⟩ := map_er1 e
  obtain rfl := er_ref e'
  refine W.of_wp fun B s st P hp => ?_
  obtain ⟨vs, n, hl, rfl⟩ := st.tupAt ha
  rw [List.length_map] at h hz
  exact len_tuple (items := (vs : List Value).toArray) ⟨_, hl, rfl, n, rfl⟩ (by simp; lia) (by simpa using hp (.int vs.length (s.toks + 1)) (s.toks + 2) h)
theorem WCall_range1 {n : Int} {Q : V → Loc → AHeap → Prop} (h : ∀ a, H a = none → Q (.ref a) m (upd H a (.range 0 n 1))) : WCall k (.type "range") [.int n] m H Q := fun vs e => by
  obtain ⟨x, rfl, e'⟩ := map_er1 e
  obtain ⟨t, rfl⟩ := er_int e'
  refine W.of_new (R := fun y => y = .range 0 n 1) (fun B s st P hp => ?_) (fun a y hy hn => hy ▸ h a hn)
  exact call_range_1 (hp _ _ _ _ rfl (Nat.le_refl _) (fun b ob e => Heap.get?_push_of_some _ e) ⟨_, Heap.get?_push_size _ rfl, _, _, _, rfl⟩)
theorem WCall_range2 {l n : Int} {Q : V → Loc → AHeap → Prop} (h : ∀ a, H a = none → Q (.ref a) m (upd H a (.range l n 1))) : WCall k (.type "range") [.int l, .int n] m H Q := fun vs e => by
  obtain ⟨x, y, rfl, e1, e2⟩ := map_er2 e
  obtain ⟨t, rfl⟩ := er_int e1; obtain ⟨u, rfl⟩ := er_int e2
  refine W.of_new (R := fun y => y = .range l n 1) (fun B s st P hp => ?_) (fun a y hy hn => hy ▸ h a hn)
  exact call_range_2 (hp _ _ _ _ rfl (Nat.le_refl _) (fun b ob e => Heap.get?_push_of_some _ e) ⟨_, Heap.get?_push_size _ rfl, _, _, _, rfl⟩)
theorem WCall_abs {a : Int} {Q : V → Loc → AHeap → Prop} (h : Q (.int (if a < 0 then -a else a)) m H) : WCall k (.builtin "abs") [.int a] m H Q := fun vs e => by
  obtain ⟨x, rfl, e'⟩ := map_er1 e
  obtain ⟨t, rfl⟩ := er_int e'
  exact W.of_wp fun B s st P hp => call_abs_int fun u tk => hp (.int (if a < 0 then -a else a) u) tk h
theorem WCall_listD {a : Addr} {kvs : List (Key × V)} {ep : Nat} {Q : V → Loc → AHeap → Prop} (hh : k.A.handled = none) (ha : H a = some (.dict kvs ep)) (hz : kvs.length ≤ sizeLine)
    (h : ∀ p xs, xs.length = kvs.length → (∀ (i : Nat) (kv : Key × V) (x : V), kvs[i]? = some kv → xs[i]? = some x → isKV kv.1 x = true) → H p = none → Q (.ref p) m (upd H p (.list xs))) : WCall k (.type "list") [.ref a] m H Q := fun vs e => by
  obtain ⟨x, rfl, e'⟩ := map_er1 e
  obtain rfl := er_ref e'
  refine W.of_new (R := fun y => ∃ xs, y = .list xs ∧ xs.length = kvs.length ∧ ∀ (i : Nat) (kv : Key × V) (x : V), kvs[i]? = some kv → xs[i]? = some x → isKV kv.1 x = true) (fun B s st P hp => ?_) (fun a y ⟨xs, hy, h1, h2⟩ hn => hy ▸ h a xs h1 h2 hn)
  obtain ⟨rvs, hm, rfl⟩ := st.dictAt ha
  refine kdl_call (kdl_dict (knd := mix k.c.prog k.c.w) (kvs := rvs) (ep := ep) (st.notMods ha)) hh hm (by simpa using hz) fun h' tk acc' c' hk hD hacc => ?_
  refine hp _ _ _ _ ⟨acc'.toList.map er, rfl, ?_, fun i kv x e1 e2 => ?_⟩ (Nat.le_refl _) hk ⟨_, hD, acc'.toList, c', by simp, rfl⟩
  · rw [List.length_map, List.length_map, Array.length_toList]; exact hacc.1
  · rw [List.getElem?_map, Option.map_eq_some_iff] at e1 e2
    obtain ⟨kv', e1, rfl⟩ := e1
    obtain ⟨u, e2, rfl⟩ := e2
    obtain ⟨key, x, e3, e4⟩ := hacc.2 i u (by rw [← Array.getElem?_toList]; exact e2)
    rw [e1] at e3; cases e3
    rw [← isKey_er]; exact e4
end
end Mine
namespace Mine
noncomputable def Ext (H H' : AHeap) : Prop := ∀ a x, H a = some x → H' a = some x
theorem Ext.refl (H : AHeap) : Ext H H := fun _ _ e => e
theorem Ext.trans {H H' H'' : AHeap} (h : Ext H H') (h' : Ext H' H'') : Ext H H'' := fun a x e => h' a x (h a x e)
theorem Ext.upd {H : AHeap} {a : Addr} {x : AObj} (h : H a = none) : Ext H (upd H a x) := fun b y e => upd_fresh h e
section
variable {k : Wk} {m : Loc} {H : AHeap}
theorem St.list_of_update {c : Cx} {o : Out} {env : Env} {B : BMap} {s : Shared} (st : St c o env B m H s) {l : Addr} {vs : List Value} {n : Nat} (hl : IsL s.heap l vs.toArray n) {x : AObj} (hx : H l = some x) (f : Array Value → Array Value) (ys : List Value) (hf : f vs.toArray = ys.toArray) :
    St c o env B m (upd H l (.list (ys.map er))) { s with heap := s.heap.update l (Obj.mapSeq f) } := by
  have h1 := hl.update f
  rw [hf] at h1
  exact st.put (tk := s.toks) hx (fun b ob ne e => (Heap.get?_update_other _ _ (Ne.symm ne)).trans e) ⟨_, h1, ys, _, rfl, rfl⟩ st.tk
/-! list methods -/
theorem WCall_append {l : Addr} {xs : List V} {v : V} {Q : V → Loc → AHeap → Prop} (hl : H l = some (.list xs)) (hz : xs.length ≤ sizeLine) (h : Q .none m (upd H l (.list (xs ++ [v])))) : WCall k (.builtin "list.append") [.ref l, v] m H Q := fun vs e B s st => by
  refine Mine.hideG fun GG back => ?_
  obtain ⟨x, y, rfl, e1, rfl⟩ := map_er2 e
  refine back ?_
  clear back
  obtain rfl := er_ref e1
  refine Mine.hideG fun GG back => ?_
  obtain ⟨vs, n, hl', rfl⟩ := st.listAt hl
  refine back ?_
  clear back
  have st' := st.list_of_update hl' hl (fun x_1 => x_1.push y) (vs ++ [y]) (by simp)
  rw [List.map_append] at st'
  exact call_meets F.slot_list_append hl'.isList.typeIs F.entry_list_append (F.args_list_append_2 _ _) (list_append l vs.toArray n y (by simpa using hz)) ⟨hl', m, _, st', h⟩
theorem WCall_pop {l : Addr} {xs : List V} {v : V} {Q : V → Loc → AHeap → Prop} (hl : H l = some (.list (xs ++ [v]))) (hz : xs.length < sizeLine) (h : Q v m (upd H l (.list xs))) : WCall k (.builtin "list.pop") [.ref l] m H Q := fun vs e B s st => by
  refine Mine.hideG fun GG back => ?_
  obtain ⟨x, rfl, e1⟩ := map_er1 e
  refine back ?_
  clear back
  obtain rfl := er_ref e1
  refine Mine.hideG fun GG back => ?_
  obtain ⟨vs, n, hl', he⟩ := st.listAt hl
  refine back ?_
  clear back
  obtain ⟨ys, u, rfl⟩ : ∃ ys u, vs = ys ++ [u] := by
    rcases List.eq_nil_or_concat vs with rfl | ⟨ys, u, e⟩
    · simp at he
    · exact ⟨ys, u, by rw [e, List.concat_eq_append]⟩
  rw [List.map_append] at he
  refine Mine.hideG fun GG back => ?_
  obtain ⟨e1, e2⟩ := List.append_inj_left' he (by simp), List.append_inj_right' he (by simp)
  refine back ?_
  clear back
  simp only [List.map_cons, List.map_nil, List.cons.injEq, and_true] at e2
  subst e2
  subst e1
  have st' := st.list_of_update hl' hl (fun xs => xs.eraseIdxIfInBounds ((ys ++ [u]).toArray.size - 1)) ys (by
    apply Array.toList_inj.mp
    simp [Array.eraseIdxIfInBounds]
    rw [List.eraseIdx_append_of_length_le (Nat.le_refl _)]
    simp)
  refine call_meets F.slot_list_pop hl'.isList.typeIs F.entry_list_pop (F.args_list_pop_1 _) (MeetsSeq.list_pop_last l (ys ++ [u]).toArray n u (by simp) (by simp at hz ⊢; lia)) ⟨hl', m, _, st', h⟩
/-! dict methods -/
theorem WCall_getD {d : Addr} {kvs : List (Key × V)} {ep : Nat} {key : Key} {kv w : V} {Q : V → Loc → AHeap → Prop} (hd : H d = some (.dict kvs ep)) (hk : isKV key kv = true) (h : Q ((getK kvs key).getD w) m H) : WCall k (.builtin "dict.get") [.ref d, kv, w] m H Q := fun vs e => by
  refine Mine.hideG fun GG back => ?_
  obtain ⟨x, y, z, rfl, e1, e2, rfl⟩ := map_er3 e
  refine back ?_
  clear back
  obtain rfl := er_ref e1
  refine W.of_wp fun B s st P hp => ?_
  refine Mine.hideG fun GG back => ?_
  obtain ⟨rvs, hm, rfl⟩ := st.dictAt hd
  refine back ?_
  clear back
  have hkey : (mix k.c.prog k.c.w).is key y = true := by show isKey key y = true; rw [isKey_er, e2]; exact hk
  refine call_meetsIn F.slot_dict_get hm.dictOf.typeIs F.entry_dict_get (F.args_dict_get_3 _ _ _) (meets_dict_get_default (mix k.c.prog k.c.w) d hkey (st.notMods hd) z) ⟨_, hm.dictOf.mapOf, hp _ _ ?_⟩
  rw [getK_er] at h
  cases hv : valueAt rvs key with
  | none => rw [hv] at h; exact h
  | some v => rw [hv] at h; exact h
/-! sums of lists and tuples -/
theorem WBin_addL {a b : Addr} {xs ys : List V} {Q : V → Loc → AHeap → Prop} (ha : H a = some (.list xs)) (hb : H b = some (.list ys)) (hz : xs.length + ys.length ≤ sizeLine) (h : ∀ p, H p = none → Q (.ref p) m (upd H p (.list (xs ++ ys)))) : WBin k .Add (.ref a) (.ref b) m H Q := fun x y e1 e2 => by
  obtain rfl := er_ref e1
  obtain rfl := er_ref e2
  refine W.of_new (R := fun y => y = .list (xs ++ ys)) (fun B s st P hp => ?_) (fun a y hy hn => hy ▸ h a hn)
  refine Mine.hideG fun GG back => ?_
  obtain ⟨vs, n, hl, rfl⟩ := st.listAt ha
  obtain ⟨us, n2, hb', rfl⟩ := st.listAt hb
  refine back ?_
  clear back
  exact PySem.P.add_list hl hb' (hp _ _ s.toks _ rfl (Nat.le_refl _) (fun b ob e => Heap.get?_push_of_some _ e) ⟨_, Heap.get?_push_size _ rfl, vs ++ us, 0, by simp, by simp⟩) (by simpa using hz)
theorem St.isT {c : Cx} {o : Out} {env : Env} {B : BMap} {s : Shared} (st : St c o env B m H s) {l : Addr} {xs : List V} (hl : H l = some (.tup xs)) : ∃ vs n, IsT s.heap l (vs : List Value).toArray n ∧ vs.map er = xs := st.tupAt hl
theorem call_tup_add {a b : Addr} {xs ys : List V} {Q : V → Loc → AHeap → Prop} (ha : H a = some (.tup xs)) (hb : H b = some (.tup ys)) (hz : xs.length + ys.length ≤ sizeLine) (h : ∀ p H', Ext H H' → H' p = some (.tup (xs ++ ys)) → Q (.ref p) m H') : WV k (call (.builtin "tuple.__add__") [.ref a, .ref b]) m H Q := by
  by_cases h0 : xs = []
  · subst h0
    refine W.of_wp fun B s st P hp => ?_
    refine Mine.hideG fun GG back => ?_
    obtain ⟨vs, n, hl, e⟩ := st.isT ha
    obtain ⟨us, n2, hb', e2⟩ := st.isT hb
    refine back ?_
    clear back
    obtain rfl : vs = [] := by simpa using e
    exact call_meets F.slot_tuple_add (id := "tuple.__add__") ⟨_, hl, rfl⟩ F.entry_tuple_add (F.args_tuple_add_2 _ _) (AutoSeq1.tuple___add___tuple_tuple_0 a [].toArray n b us.toArray n2 rfl) ⟨hl, hb', hp (.ref b) s.toks (h b H (Ext.refl _) hb)⟩
  · by_cases h1 : ys = []
    · subst h1
      refine W.of_wp fun B s st P hp => ?_
      refine Mine.hideG fun GG back => ?_
      obtain ⟨vs, n, hl, e⟩ := st.isT ha
      obtain ⟨us, n2, hb', e2⟩ := st.isT hb
      refine back ?_
      clear back
      obtain rfl : us = [] := by simpa using e2
      exact call_meets F.slot_tuple_add (id := "tuple.__add__") ⟨_, hl, rfl⟩ F.entry_tuple_add (F.args_tuple_add_2 _ _) (AutoSeq1.tuple___add___tuple_tuple_1 a vs.toArray n b [].toArray n2 (by subst e; simpa using h0) rfl) ⟨hl, hb', hp (.ref a) s.toks (h a H (Ext.refl _) (by rw [List.append_nil]; exact ha))⟩
    · refine W.of_new (R := fun y => y = .tup (xs ++ ys)) (fun B s st P hp => ?_) (fun a y hy hn => hy ▸ h a _ (Ext.upd hn) upd_same)
      refine Mine.hideG fun GG back => ?_
      obtain ⟨vs, n, hl, rfl⟩ := st.isT ha
      obtain ⟨us, n2, hb', rfl⟩ := st.isT hb
      refine back ?_
      clear back
      refine call_meets F.slot_tuple_add (id := "tuple.__add__") ⟨_, hl, rfl⟩ F.entry_tuple_add (F.args_tuple_add_2 _ _) (AutoSeq1.tuple___add___tuple_tuple_2 a vs.toArray n b us.toArray n2 (by simpa using h0) (by simpa using h1) (by simpa using hz)) ⟨hl, hb', hp _ _ s.toks _ rfl (Nat.le_refl _) (fun b ob e => Heap.get?_push_of_some _ e) ⟨_, Heap.get?_push_size _ rfl, vs ++ us, 0, by simp, by simp⟩⟩
theorem WBin_addT {a b : Addr} {xs ys : List V} {Q : V → Loc → AHeap → Prop} (ha : H a = some (.tup xs)) (hb : H b = some (.tup ys)) (hz : xs.length + ys.length ≤ sizeLine) (h : ∀ p H', Ext H H' → H' p = some (.tup (xs ++ ys)) → Q (.ref p) m H') : WBin k .Add (.ref a) (.ref b) m H Q := fun x y e1 e2 B s st => by
  obtain rfl := er_ref e1
  obtain rfl := er_ref e2
  refine Mine.hideG fun GG back => ?_
  obtain ⟨vs, n, hl, _⟩ := st.isT ha
  obtain ⟨us, n2, hb', _⟩ := st.isT hb
  refine back ?_
  clear back
  exact PySem.wpAny_binaryOp_concat ⟨_, hl, rfl⟩ ⟨_, hb', rfl⟩ noFill_tuple_add seq_tuple_add (call_tup_add ha hb hz h B s st)
end
end Mine
namespace Mine
noncomputable def WPart (k : Wk) (e : Option Expr) (m : Loc) (H : AHeap) (Q : Option Int → Loc → AHeap → Prop) : Prop := W k (evalPart e k.env) m H fun v m1 H1 => ∃ i, IsPart v i ∧ Q i m1 H1
noncomputable def sliceV {α : Type} (xs : List α) (lo hi : Option Int) : List α := (xs.drop (lo.elim 0 (clipAt xs.length))).take (hi.elim xs.length (clipAt xs.length) - lo.elim 0 (clipAt xs.length))
theorem sliceV_map {α β : Type} (f : α → β) (xs : List α) (lo hi : Option Int) : sliceV (xs.map f) lo hi = (sliceV xs lo hi).map f := by
  unfold sliceV
  rw [List.length_map, List.map_take, List.map_drop]
theorem sliceV_length {α : Type} (xs : List α) (lo hi : Option Int) : (sliceV xs lo hi).length ≤ xs.length := by
  unfold sliceV
  rw [List.length_take, List.length_drop]; lia
theorem clipAt_le (n : Nat) (i : Int) : clipAt n i ≤ n := by
  have h := clipAt_cast n i
  lia
theorem adjust_plain (lo hi : Option Int) (n : Nat) : Builtin.Slice.sliceAdjust lo hi 1 (n : Int) = (((lo.elim 0 (clipAt n) : Nat) : Int), ((hi.elim n (clipAt n) : Nat) : Int)) := by
  have h1 : ¬ ((1 : Int) < 0) := by lia
  have clip : ∀ v : Int, (if v < 0 then max (v + n) 0 else min v n) = ((clipAt n v : Nat) : Int) := fun v => by
    have := clipAt_cast n v
    split at this
    · rename_i h; rw [if_pos h]; lia
    · rename_i h; rw [if_neg h]; lia
  unfold Builtin.Slice.sliceAdjust
  simp only [h1, if_false]
  cases lo <;> cases hi <;> simp only [Option.elim, clip] <;> rfl
theorem places_plain (a b : Nat) : Builtin.Slice.slicePlaces (a : Int) (b : Int) 1 = b - a := by
  unfold Builtin.Slice.slicePlaces
  have h1 : (1 : Int) > 0 := by lia
  simp only [h1, if_true, Int.ediv_one]
  split <;> lia
section
variable {prog : Program} {w : World} {A : Around} {E : Value → Shared → Prop} {s : Shared}
theorem slicePart_ {v : Value} {i : Option Int} {Q : Option Int → Shared → Prop} (hv : IsPart v i) (h : Q i s) : wpAny (model prog w) A (Builtin.Slice.slicePartIndex v) Q E s := by
  cases hv with
  | none => exact slicePart_none h
  | int i t => exact slicePart_int h
theorem sliceApplied_plain {sl : Addr} {vl vu : Value} {lo hi : Option Int} {n : Nat} {Q : Int × Int × Nat → Shared → Prop} (hs : s.heap.IsSliceOf sl vl vu .none) (pl : IsPart vl lo) (pu : IsPart vu hi)
    (h : Q (((lo.elim 0 (clipAt n) : Nat) : Int), 1, hi.elim n (clipAt n) - lo.elim 0 (clipAt n)) s) :
    wpAny (model prog w) A (Builtin.Slice.sliceApplied (.ref sl) (pure (n : Int))) Q E s := by
  obtain ⟨os, hos, hcs, hds⟩ := id hs
  unfold Builtin.Slice.sliceApplied Builtin.Slice.sliceFields
  refine wpAny_bind (wpAny_bind (wpAny_field hos hds (x := vl) rfl (wpAny_bind (wpAny_field hos hds (x := vu) rfl (wpAny_bind (wpAny_field hos hds (x := .none) rfl (wpAny_pure ?_)))))))
  refine wpAny_bind (slicePart_none ?_)
  show wpAny _ _ (if ((1 : Int) == 0) = true then _ else _) _ _ s
  rw [if_neg (by decide)]
  refine wpAny_bind (slicePart_ pl (wpAny_bind (slicePart_ pu (wpAny_bind (wpAny_pure ?_)))))
  show wpAny _ _ (match Builtin.Slice.sliceAdjust lo hi 1 (n : Int) with | (lo, hi) => pure (lo, (1 : Int), Builtin.Slice.slicePlaces lo hi 1)) _ _ s
  rw [adjust_plain]
  show wpAny _ _ (pure (_, (1 : Int), Builtin.Slice.slicePlaces _ _ 1)) _ _ s
  rw [places_plain]
  exact wpAny_pure h
theorem getItem_tuple_plain {t sl : Addr} {items : Array Value} {vl vu : Value} {lo hi : Option Int} {Q : Value → Shared → Prop} (ht : IsTup s.heap t items) (hs : s.heap.IsSliceOf sl vl vu .none) (pl : IsPart vl lo) (pu : IsPart vu hi)
    (hw : sliceV items.toList lo hi = items.toList → Q (.ref t) s)
    (h : Q (.ref s.heap.objs.size) { s with heap := s.heap.push { cls := .type "tuple", data := .seq (sliceV items.toList lo hi).toArray } })
    (hsz : items.size ≤ sizeLine) : wpAny (model prog w) A (getItem (.ref t) (.ref sl)) Q E s := by
  have hok : sizeOk (.seq (sliceV items.toList lo hi).toArray) := by
    show (sliceV items.toList lo hi).toArray.size ≤ sizeLine
    rw [List.size_toArray]
    exact Nat.le_trans (sliceV_length _ _ _) (by simpa using hsz)
  obtain ⟨os, hos, hcs, hds⟩ := id hs
  have hTs : s.TypeIs (.ref sl) "slice" := ⟨os, hos, hcs⟩
  unfold getItem
  try with_reducible refine wpAny_holding ?_
  first | refine wpAny_bind (wpAny_pure ?_) | skip
  refine wpAny_bind (wpAny_sequenceKey ht.typeIs (by decide) ?_)
  refine wpAny_bind (wpAny_callSpecial?_slot (name := Str.ofString "__getitem__") ht.typeIs slot_tuple_getitem
    (wpAny_call_entry slot_tuple_getitem ht.typeIs entry_tuple_getitem ?_ (args_tuple_getitem _ _)))
  show wpAny _ _ (Builtin.Tuple.tupleItemsOf (.ref t) >>= _) _ _ s
  refine wpAny_bind (tupleItemsOf_ ht ?_)
  refine wpAny_bind (wpAny_typeOf hTs ?_)
  rw [if_pos (by decide)]
  refine wpAny_bind (sliceApplied_plain hs pl pu ?_)
  generalize ha : lo.elim 0 (clipAt items.size) = a
  generalize hb : hi.elim items.size (clipAt items.size) = b
  have hal : a ≤ items.size := by
    subst ha; cases lo with
    | none => exact Nat.zero_le _
    | some i => exact clipAt_le _ _
  have hbl : b ≤ items.size := by
    subst hb; cases hi with
    | none => exact Nat.le_refl _
    | some i => exact clipAt_le _ _
  have hv : sliceV items.toList lo hi = (items.toList.drop a).take (b - a) := by unfold sliceV; rw [Array.length_toList, ha, hb]
  show wpAny _ _ (if ((a : Int) == 0 && (1 : Int) == 1 && (b - a) == items.size) = true then _ else _) _ _ s
  by_cases hall : ((a : Int) == 0 && (1 : Int) == 1 && (b - a) == items.size) = true
  · rw [if_pos hall]
    simp only [Bool.and_eq_true, beq_iff_eq] at hall
    have ha0 : a = 0 := by lia
    have hbn : b = items.size := by lia
    have := hw (by rw [hv, ha0, hbn, List.drop_zero, List.take_of_length_le (by simp)])
    refine wpAny_bind (m := Builtin.Tuple.tupleIsExact _) ?_
    unfold Builtin.Tuple.tupleIsExact
    refine wpAny_bind (wpAny_typeOf ht.typeIs (wpAny_pure ?_))
    rw [if_pos (by decide)]
    first
      | exact wpAny_bind (wpAny_rule (wpAny_bind (wpAny_pure (wpAny_pure ⟨_, rfl, wpAny_pure this⟩))))
      | exact wpAny_bind (wpAny_rule (wpAny_bind (wpAny_pure ⟨_, rfl, wpAny_pure this⟩)))
      | exact wpAny_bind (wpAny_rule (wpAny_pure ⟨_, rfl, wpAny_pure this⟩))
  · rw [if_neg hall]
    have epick : ((List.range (b - a)).filterMap fun (k : Nat) => items[((a : Int) + (k : Int) * 1).toNat]?).toArray = (sliceV items.toList lo hi).toArray := by
      have e : (fun (k : Nat) => items[((a : Int) + (k : Int) * 1).toNat]?) = fun k => items[a + k]? := by
        funext k
        have : ((a : Int) + (k : Int) * 1).toNat = a + k := by lia
        rw [this]
      rw [e]
      have := pick_run items a (b - a)
      rw [List.filterMap_map] at this
      have e2 : ((fun x => items[x]?) ∘ fun x => a + x) = fun k => items[a + k]? := rfl
      rw [e2] at this
      rw [this, hv]
    rw [epick]
    first
      | exact wpAny_bind (m := Builtin.Tuple.tupleExact _) (wpAny_newObj_type (wpAny_pure ⟨_, rfl, wpAny_pure h⟩) hok)
      | exact wpAny_bind (m := Builtin.Tuple.tupleExact _) (wpAny_newObj_type (wpAny_bind (wpAny_pure (wpAny_pure ⟨_, rfl, wpAny_pure h⟩))) hok)
      | exact wpAny_bind (wpAny_bind (m := Builtin.Tuple.tupleExact _) (wpAny_newObj_type (wpAny_pure (wpAny_pure ⟨_, rfl, wpAny_pure h⟩)) hok))
      | exact wpAny_bind (wpAny_bind (m := Builtin.Tuple.tupleExact _) (wpAny_newObj_type (wpAny_pure ⟨_, rfl, wpAny_pure h⟩) hok))
end
section
variable {k : Wk} {m : Loc} {H : AHeap}
theorem WPart_none {Q : Option Int → Loc → AHeap → Prop} (h : Q none m H) : WPart k none m H Q := W.pure ⟨none, .none, h⟩
theorem WPart_some {e : Expr} {Q : Option Int → Loc → AHeap → Prop} (h : WV k (eval e k.env) m H fun v m1 H1 => ∃ i, v = .int i ∧ Q (some i) m1 H1) : WPart k (some e) m H Q :=
  W.mono h fun v m1 H1 ⟨i, e, q⟩ => by
    obtain ⟨t, rfl⟩ := er_int e
    exact ⟨_, .int i t, q⟩
noncomputable def WSl (k : Wk) (ov : V) (i j : Option Int) (m : Loc) (H : AHeap) (Q : V → Loc → AHeap → Prop) : Prop :=
  ∃ a, ov = .ref a ∧ ((∃ xs, H a = some (.list xs) ∧ xs.length ≤ sizeLine ∧ ∀ b H', Ext H H' → H b = none → H' b = some (.list (sliceV xs i j)) → Q (.ref b) m H') ∨ (∃ xs, H a = some (.tup xs) ∧ xs.length ≤ sizeLine ∧ ∀ b H', Ext H H' → H' b = some (.tup (sliceV xs i j)) → Q (.ref b) m H'))
theorem W_SubSlice {value : Expr} {lo hi : Option Expr} {p pos : Pos} {Q : V → Loc → AHeap → Prop}
    (h : WV k (eval value k.env) m H fun ov m1 H1 => WPart k lo m1 H1 fun i m2 H2 => WPart k hi m2 H2 fun j m3 H3 => WSl k ov i j m3 H3 Q)
    (hs : ∀ o i, ∃ ops, subscripted (.Slice lo hi none p) false o i = operate ops (getItem o i) := by intro _ _; exact ⟨_, by with_unfolding_all rfl⟩) : WV k (eval (.Subscript value (.Slice lo hi none p) pos) k.env) m H Q := fun B s st =>
  Subscript_ (wpAny_mono (h B s st) (fun ov s1 ⟨m1, H1, st1, q1⟩ => wpAny_Slice (wpAny_mono (q1 B s1 st1) (fun l s2 ⟨m2, H2, st2, i, pl, q2⟩ => wpAny_mono (q2 B s2 st2) (fun u s3 hx1 => by
    refine Mine.hideG fun GG back => ?_
    obtain ⟨m3, H3, st3, j, pu, q3⟩ := hx1
    refine back ?_
    clear back
    rw [evalPart_none]
    refine wpAny_pure ?_
    obtain ⟨a, e, q3⟩ := q3
    obtain rfl := er_ref e
    obtain ⟨ops, hs⟩ := hs (.ref a) (.ref s3.heap.objs.size)
    have st4 := st3.grown (tk := s3.toks) (h' := s3.heap.push { cls := .type "slice", data := .fields #[l, u, .none] }) (fun b ob e => Heap.get?_push_of_some _ e) st3.tk
    rcases q3 with ⟨xs, hx, hz, q⟩ | ⟨xs, hx, hz, q⟩
    · obtain ⟨vs, n, hl, rfl⟩ := st4.listAt hx
      have hn := st4.none_at (Nat.le_refl _)
      refine tail_any (s := { s3 with heap := s3.heap.push { cls := .type "slice", data := .fields #[l, u, .none] } }) hl.isList.typeIs slot_list_getitem.lookup (wpAny_getItem_list_slice hl.isList (Heap.IsSliceOf.new ..) pl pu .none (by intro e; cases e) ⟨m3, _, st4.new (tk := s3.toks) (Nat.le_refl _) (fun b ob e => Heap.get?_push_of_some _ e) (y := .list (sliceV (vs.map er) i j)) ⟨_, Heap.get?_push_size _ rfl, sliceV vs i j, 0, ?_, (sliceV_map _ _ _ _).symm⟩ st4.tk, q _ _ (Ext.upd (st4.fresh hn).1) (st4.fresh hn).1 upd_same⟩ (by simpa using hz)) hs
      rw [slicePick_plain]
      rfl
    · obtain ⟨vs, n, hl, rfl⟩ := st4.tupAt hx
      have hT : IsTup (s3.heap.push { cls := .type "slice", data := .fields #[l, u, .none] }) a vs.toArray := ⟨_, hl, rfl, n, rfl⟩
      have hn := st4.none_at (Nat.le_refl _)
      refine tail_any (s := { s3 with heap := s3.heap.push { cls := .type "slice", data := .fields #[l, u, .none] } }) hT.typeIs slot_tuple_getitem.lookup (getItem_tuple_plain hT (Heap.IsSliceOf.new ..) pl pu (fun e => ⟨m3, H3, st4, q a H3 (Ext.refl _) ?_⟩) ⟨m3, _, st4.new (tk := s3.toks) (Nat.le_refl _) (fun b ob e => Heap.get?_push_of_some _ e) (y := .tup (sliceV (vs.map er) i j)) ⟨_, Heap.get?_push_size _ rfl, sliceV vs i j, 0, rfl, (sliceV_map _ _ _ _).symm⟩ st4.tk, q _ _ (Ext.upd (st4.fresh hn).1) upd_same⟩ (by simpa using hz)) hs
      rw [sliceV_map, show sliceV vs i j = vs from e]; exact hx) fun _ _ x => x) fun _ _ x => x)) fun _ _ x => x)
/-! is -/
end
end Mine
namespace Mine
section
variable {c : Cx} {o : Out} {env : Env} {B : BMap} {m : Loc} {H : AHeap} {s : Shared}
theorem St.but {m₀ : Loc} {H₀ : AHeap} {s₀ : Shared} (st₀ : St c o env B m₀ H₀ s₀) {it : Addr} {x : Obj × Bool} (hB : B it = none) (hb : c.base.objs.size ≤ it) (st : St c o env (upd B it x) m H s) {h' : Heap} {tk : Nat} (hk : Heap.ExtBut it s.heap h') (ht : 1 ≤ tk) :
    St c o env B m H { s with heap := h', toks := tk } := by
  have q : ∀ b y, B b = some y → upd B it x b = some y := fun b y e => upd_fresh hB e
  have r : ∀ b, upd B it x b = none → B b = none := fun b e => by
    cases h : B b with
    | none => rfl
    | some y => rw [q b y h] at e; cases e
  have hHit : ∀ b y, H b = some y → b ≠ it := fun b y e z => by
    have := st.disB b y e
    rw [z, upd_same] at this; cases this
  have hpit : ∀ b ∈ places env, b ≠ it := fun b hb z => by
    have := (st.pl b hb).2.1
    rw [z, upd_same] at this; cases this
  have hbase : ∀ b ob, c.base.get? b = some ob → b ≠ it := fun b ob e z => by
    rw [z, none_ge hb] at e; cases e
  refine ⟨fun b ob e => hk b ob (hbase b ob e) (st.base b ob e), fun b ob l e => ?_, fun b y e => ?_, fun b y e => r b (st.disB b y e), st.disBase, fun b z => ⟨(st.pl b z).1, r b (st.pl b z).2.1, (st.pl b z).2.2⟩, st.nodup, fun b e => ?_, ?_, st₀.frames, st.gens, st.os, ht⟩
  · refine Mine.hideG fun GG back => ?_
    obtain ⟨sl, e1, e2⟩ := st.keep b ob l (q b _ e)
    refine back ?_
    clear back
    exact ⟨sl, hk b _ (fun z => by rw [z, hB] at e; cases e) e1, e2⟩
  · refine Mine.hideG fun GG back => ?_
    obtain ⟨ob, e1, e2⟩ := st.own b y e
    refine back ?_
    clear back
    exact ⟨ob, hk b ob (hHit b y e) e1, e2⟩
  · refine Mine.hideG fun GG back => ?_
    obtain ⟨v, ob, e1, e2⟩ := st.cell b e
    refine back ?_
    clear back
    exact ⟨v, ob, hk b ob (hpit b (List.mem_cons_of_mem _ e)) e1, e2⟩
  · exact var_keeps (fun b hb' ob e => hk b ob (hpit b hb') e) st.var
theorem St.rehide {m₀ : Loc} {H₀ : AHeap} {s₀ : Shared} (st₀ : St c o env B m₀ H₀ s₀) {it : Addr} {x : Obj × Bool} (hB : B it = none) (hb : c.base.objs.size ≤ it) (st : St c o env (upd B it x) m H s) {h' : Heap} {tk : Nat} (hk : Heap.ExtBut it s.heap h') (ht : 1 ≤ tk) {ob : Obj} (ho : h'.get? it = some ob) :
    St c o env (upd B it (ob, false)) m H { s with heap := h', toks := tk } := by
  refine (st₀.but hB hb st hk ht).hide (l := false) ho ?_ (fun z => ?_) hB
  · cases e : H it with
    | none => rfl
    | some y => have := st.disB it y e; rw [upd_same] at this; cases this
  · have := (st.pl it z).2.1
    rw [upd_same] at this; cases this
end
noncomputable def Own (c : Cx) (H : AHeap) (s : Shared) : Prop := ((∀ a x, H a = some x → c.base.objs.size ≤ a ∧ ∃ ob, s.heap.get? a = some ob ∧ IsObj c ob x) ∧ c.base.StaysIn s.heap) ∧ 1 ≤ s.toks
theorem St.owned {c : Cx} {o : Out} {env : Env} {B : BMap} {m : Loc} {H : AHeap} {s : Shared} (st : St c o env B m H s) : Own c H s := ⟨⟨fun a x e => ⟨st.disBase a x e, st.own a x e⟩, st.base⟩, st.tk⟩
theorem Own.listAt {c : Cx} {H : AHeap} {s : Shared} (h : Own c H s) {l : Addr} {xs : List V} (hl : H l = some (.list xs)) : ∃ vs n, IsL s.heap l (vs : List Value).toArray n ∧ vs.map er = xs := by
  refine Mine.hideG fun GG back => ?_
  obtain ⟨_, ob, ho, vs, n, rfl, e⟩ := h.1.1 l _ hl
  refine back ?_
  clear back
  exact ⟨vs, n, ho, e⟩
theorem Own.tupAt {c : Cx} {H : AHeap} {s : Shared} (h : Own c H s) {l : Addr} {xs : List V} (hl : H l = some (.tup xs)) : ∃ vs n, s.heap.get? l = some { cls := .type "tuple", data := .seq (vs : List Value).toArray n } ∧ vs.map er = xs := by
  refine Mine.hideG fun GG back => ?_
  obtain ⟨_, ob, ho, vs, n, rfl, e⟩ := h.1.1 l _ hl
  refine back ?_
  clear back
  exact ⟨vs, n, ho, e⟩
structure Walkable (c : Cx) (A : Around) (it : Addr) (n : Nat) (R : Nat → V → Prop) (ok : AHeap → Prop) (at_ : Nat → Obj → Prop) : Prop where
  item : ∀ i, i < n → ∀ H s ob, Own c H s → s.heap.get? it = some ob → at_ i ob → ok H → ∀ (P : Option Value → Shared → Prop), (∀ v h' tk ob', 1 ≤ tk → R i (er v) → at_ (i + 1) ob' → h'.get? it = some ob' → Heap.SameBut it s.heap h' → P (some v) { s with heap := h', toks := tk }) →
    ∀ E, wpAny (model c.prog c.w) A (pyNext (.ref it)) P E s
  fin : ∀ H s ob, Own c H s → s.heap.get? it = some ob → at_ n ob → ok H → ∀ (P : Option Value → Shared → Prop), (∀ h', Heap.ExtBut it s.heap h' → P none { s with heap := h' }) →
    ∀ E, wpAny (model c.prog c.w) A (pyNext (.ref it)) P E s
  self : ∀ ob (s : Shared) (P : Value → Shared → Prop), s.heap.get? it = some ob → at_ 0 ob → P (.ref it) s → ∀ E, wpAny (model c.prog c.w) A (pyIter (.ref it)) P E s
  cls : ∀ i ob, at_ i ob → ∃ T vs, ob.cls = .type T ∧ ob.data = .fields vs ∧ ["enumerate", "zip", "dict_itemiterator", "dict_reverseitemiterator", "odict_iterator", "itertools.zip_longest", "itertools.pairwise"].contains T = false
noncomputable def WIter (k : Wk) (xv : V) (m : Loc) (H : AHeap) (n : Nat) (R : Nat → V → Prop) (ok : AHeap → Prop) : Prop :=
  ∀ x, er x = xv → ∀ B s, St k.c k.o k.env B m H s → ∀ (P : Value → Shared → Prop) (E : Value → Shared → Prop),
    (∀ it ob at_ s2, Walkable k.c k.A it n R ok at_ → at_ 0 ob → B it = none → k.c.base.objs.size ≤ it → St k.c k.o k.env (upd B it (ob, false)) m H s2 → P (.ref it) s2) → wpAny (model k.c.prog k.c.w) k.A (pyIter x) P E s
section
variable {k : Wk} {m : Loc} {H : AHeap}
theorem hide_new {B : BMap} {s : Shared} (st : St k.c k.o k.env B m H s) (ob : Obj) (hf : ob.isFreed = false) :
    B s.heap.objs.size = none ∧ k.c.base.objs.size ≤ s.heap.objs.size ∧ St k.c k.o k.env (upd B s.heap.objs.size (ob, false)) m H { s with heap := s.heap.push ob } := by
  refine Mine.hideG fun GG back => ?_
  obtain ⟨f1, f2, f3, f4⟩ := st.fresh (st.none_at (Nat.le_refl _))
  refine back ?_
  clear back
  exact ⟨f2, st.baseLe, (st.grown (tk := s.toks) (fun b ob e => Heap.get?_push_of_some _ e) st.tk).hide (Heap.get?_push_size _ hf) f1 f4 f2⟩
theorem hid_at {c : Cx} {o : Out} {env : Env} {B : BMap} {s : Shared} {it : Addr} {ob : Obj} (st : St c o env (upd B it (ob, false)) m H s) : s.heap.get? it = some ob := by
  refine Mine.hideG fun GG back => ?_
  obtain ⟨sl, e1, e2⟩ := st.keep it ob false upd_same
  refine back ?_
  clear back
  rw [e1, e2 rfl]
theorem WIter_list {a : Addr} {xs : List V} (hh : k.A.handled = none) (ha : H a = some (.list xs)) : WIter k (.ref a) m H xs.length (fun i v => xs[i]? = some v) (fun H => H a = some (.list xs)) := fun x hx B s st P E hP => by
  obtain rfl := er_ref hx
  refine Mine.hideG fun GG back => ?_
  obtain ⟨vs, n, hl, hvs⟩ := st.listAt ha
  obtain ⟨h1, h2, st2⟩ := hide_new st { cls := .type "list_iterator", data := .fields #[.ref a, .int 0 0] } rfl
  refine back ?_
  clear back
  refine wpAny_pyIter_list hl.isList (hP _ _ (fun i ob => ob.cls = .type "list_iterator" ∧ ob.data = .fields #[.ref a, .int i 0]) _ ⟨?_, ?_, ?_, ?_⟩ ⟨rfl, rfl⟩ h1 h2 st2)
  · intro i hi H s ob st hob hat ha P hP E
    refine Mine.hideG fun GG back => ?_
    obtain ⟨vs, n, hl, hvs⟩ := st.listAt ha
    refine back ?_
    clear back
    have hi' : i < vs.length := by rw [← hvs] at hi; simpa using hi
    refine wpAny_pyNext_list_item ⟨ob, hob, hat⟩ hl.isList (x := vs[i]) (by simp [hi']) fun h' ⟨ob', e1, e2⟩ hs => hP vs[i] h' s.toks ob' st.2 ?_ e2 e1 hs
    rw [← hvs]; simp [hi']
  · intro H s ob st hob hat ha P hP E
    refine Mine.hideG fun GG back => ?_
    obtain ⟨vs, n, hl, hvs⟩ := st.listAt ha
    refine back ?_
    clear back
    exact wpAny_pyNext_list_end hh ⟨ob, hob, hat⟩ hl.isList (by rw [← hvs]; simp) hP
  · intro ob s P ho h hP E
    exact wpAny_pyIter_listiter (l := a) (i := 0) ⟨ob, ho, h⟩ hP
  · intro i ob h
    exact ⟨_, _, h.1, h.2, by decide⟩
theorem WIter_tup {a : Addr} {xs : List V} (hh : k.A.handled = none) (ha : H a = some (.tup xs)) : WIter k (.ref a) m H xs.length (fun i v => xs[i]? = some v) (fun H => H a = some (.tup xs)) := fun x hx B s st P E hP => by
  obtain rfl := er_ref hx
  refine Mine.hideG fun GG back => ?_
  obtain ⟨vs, n, hl, hvs⟩ := st.tupAt ha
  obtain ⟨h1, h2, st2⟩ := hide_new st { cls := .type "tuple_iterator", data := .fields #[.ref a, .int 0 0] } rfl
  refine back ?_
  clear back
  refine wpAny_pyIter_tuple (items := (vs : List Value).toArray) ⟨_, hl, rfl, n, rfl⟩ (hP _ _ (fun i ob => ob.cls = .type "tuple_iterator" ∧ ob.data = .fields #[.ref a, .int i 0]) _ ⟨?_, ?_, ?_, ?_⟩ ⟨rfl, rfl⟩ h1 h2 st2)
  · intro i hi H s ob st hob hat ha P hP E
    refine Mine.hideG fun GG back => ?_
    obtain ⟨vs, n, hl, hvs⟩ := st.tupAt ha
    refine back ?_
    clear back
    have hi' : i < vs.length := by rw [← hvs] at hi; simpa using hi
    refine wpAny_pyNext_tuple_item (items := (vs : List Value).toArray) ⟨ob, hob, hat⟩ ⟨_, hl, rfl, n, rfl⟩ (x := vs[i]) (by simp [hi']) fun h' ⟨ob', e1, e2⟩ hs => hP vs[i] h' s.toks ob' st.2 ?_ e2 e1 hs
    rw [← hvs]; simp [hi']
  · intro H s ob st hob hat ha P hP E
    refine Mine.hideG fun GG back => ?_
    obtain ⟨vs, n, hl, hvs⟩ := st.tupAt ha
    refine back ?_
    clear back
    exact wpAny_pyNext_tuple_end (items := (vs : List Value).toArray) hh ⟨ob, hob, hat⟩ ⟨_, hl, rfl, n, rfl⟩ (by rw [← hvs]; simp) hP
  · intro ob s P ho h hP E
    exact wpAny_pyIter_tupleiter (t := a) (i := 0) ⟨ob, ho, h⟩ hP
  · intro i ob h
    exact ⟨_, _, h.1, h.2, by decide⟩
noncomputable def rangeN (lo hi st : Int) : Nat := (Builtin.Range.rangeSize lo hi st).toNat
theorem rangeSize_nonneg (a b c : Int) : 0 ≤ Builtin.Range.rangeSize a b c := by
  unfold Builtin.Range.rangeSize
  split
  · split
    · have : 0 ≤ (b - a - 1) / c := Int.ediv_nonneg (by omega) (by omega)
      omega
    · omega
  · split
    · by_cases hc : c = 0
      · subst hc; simp
      · have : 0 ≤ (a - b - 1) / (-c) := Int.ediv_nonneg (by omega) (by omega)
        omega
    · omega
theorem WIter_range {a : Addr} {lo hi st : Int} (hh : k.A.handled = none) (ha : H a = some (.range lo hi st)) (hs : Builtin.Range.small lo hi st = true) : WIter k (.ref a) m H (rangeN lo hi st) (fun i v => v = .int (lo + i * st)) (fun _ => True) := fun x hx B s stt P E hP => by
  obtain rfl := er_ref hx
  refine Mine.hideG fun GG back => ?_
  obtain ⟨ob, ho, t, u, v, rfl⟩ := stt.own a _ ha
  refine back ?_
  clear back
  have hN : ((rangeN lo hi st : Nat) : Int) = Builtin.Range.rangeSize lo hi st := Int.toNat_of_nonneg (rangeSize_nonneg _ _ _)
  refine Mine.hideG fun GG back => ?_
  obtain ⟨h1, h2, st2⟩ := hide_new stt { cls := .type "range_iterator", data := .fields #[rawInt lo, rawInt (Builtin.Range.rangeSize lo hi st), rawInt st] } rfl
  refine back ?_
  clear back
  refine wpAny_pyIter_range ho hs (hP _ _ (fun i ob => ob = { cls := .type "range_iterator", data := .fields #[rawInt (lo + i * st), rawInt (Builtin.Range.rangeSize lo hi st - i), rawInt st] }) _ ⟨?_, ?_, ?_, ?_⟩ (by simp) h1 h2 st2)
  · intro i hlt H s ob st' hob hat _ P hP E
    rw [hat] at hob
    refine wpAny_pyNext_range_item (x := lo + i * st) (left := Builtin.Range.rangeSize lo hi st - i) (step := st) hob (by omega) fun h' hit' hs' => hP _ _ _ _ (Nat.le_succ_of_le st'.2) rfl ?_ hit' hs'
    rw [show lo + (((i + 1 : Nat) : Int)) * st = lo + (i : Int) * st + st from by rw [Int.natCast_add]; simp [Int.add_mul]; omega,
      show Builtin.Range.rangeSize lo hi st - ((i + 1 : Nat) : Int) = Builtin.Range.rangeSize lo hi st - (i : Int) - 1 from by omega]
  · intro H s ob st' hob hat _ P hP E
    rw [hat] at hob
    exact wpAny_pyNext_range_end hh (x := lo + (rangeN lo hi st : Nat) * st) (left := Builtin.Range.rangeSize lo hi st - (rangeN lo hi st : Nat)) (step := st) hob (by omega) hP
  · intro ob s P ho h hP E
    rw [h] at ho
    exact wpAny_pyIter_rangeiter ho hP
  · intro i ob h
    rw [h]
    exact ⟨_, _, rfl, rfl, by decide⟩
theorem wpAny_letGo_plain {it : Addr} {ob : Obj} {T : String} {vs : Array Value} {target : Expr} {v : Value} {s : Shared} {Q : Unit → Shared → Prop} {E : Value → Shared → Prop} {M : Model} {A : Around} (ho : s.heap.get? it = some ob) (hc : ob.cls = .type T) (hd : ob.data = .fields vs)
    (hT : ["enumerate", "zip", "dict_itemiterator", "dict_reverseitemiterator", "odict_iterator", "itertools.zip_longest", "itertools.pairwise"].contains T = false) (h : Q () s) : wpAny M A (letOwnedTupleGo target (.ref it) v) Q E s := by
  have key : wpAny M A (do
      let (.ref r, .ref a) := (Value.ref it, v) | return
      let o ← load r
      match o.cls, o.data with
      | .type n, .fields vs =>
        if ["enumerate", "zip", "dict_itemiterator", "dict_reverseitemiterator", "odict_iterator", "itertools.zip_longest", "itertools.pairwise"].contains n && vs[0]? == some (rawInt a) then
          rule "for.unpacks-the-owned-tuple"
          updateField r 0 .none
      | _, _ => pure ()) Q E s := by
    cases v with
    | ref a =>
      refine wpAny_bind (wpAny_load ho ?_)
      rw [hc, hd]
      show wpAny M A (if (["enumerate", "zip", "dict_itemiterator", "dict_reverseitemiterator", "odict_iterator", "itertools.zip_longest", "itertools.pairwise"].contains T && vs[0]? == some (rawInt a)) = true then _ else _) Q E s
      rw [hT, Bool.false_and, if_neg Bool.false_ne_true]
      exact wpAny_pure h
    | _ => exact wpAny_pure h
  cases target <;> first | exact key | exact wpAny_pure h
noncomputable def loopQ (k : Wk) (Q : Flow → Loc → AHeap → Prop) (I : Loc → AHeap → Prop) (f : Flow) (m : Loc) (H : AHeap) : Prop := match f with
  | .next | .cont => I m H
  | .brk => Q .next m H
  | .ret v => Q (.ret v) m H
theorem W_For {target iter : Expr} {body : List Stmt} {pos : Pos} {Q : Flow → Loc → AHeap → Prop}
    (h : WV k (eval iter k.env) m H fun xv m1 H1 => ∃ n R ok, ∃ I : Nat → Loc → AHeap → Prop, WIter k xv m1 H1 n R ok ∧ I 0 m1 H1 ∧ (∀ i m2 H2, I i m2 H2 → ok H2) ∧
      (∀ i x m2 H2, i < n → R i x → I i m2 H2 → WAs k target x m2 H2 fun m3 H3 => WF k (execs body k.env) m3 H3 (loopQ k Q (I (i + 1)))) ∧ (∀ m2 H2, I n m2 H2 → Q .next m2 H2))
    (hs : ∀ x, foldedSetIterable iter k.env x = pure x := by intro _; rfl) : W k (exec (.For target iter body [] pos) k.env) m H Q := fun B s st =>
  wpAny_For (wpAny_mono (h B s st) (fun x s1 hx1 => Mine.hideG fun GG back => by
    obtain ⟨m1, H1, st1, n, R, ok, I, hit, h0, hok, step, fin⟩ := hx1
    refine back ?_
    exact hit x rfl B s1 st1 _ _ fun it ob at_ s2 wk h0' hB hb st2 => codeAny_forLoop_any
      (fun j s' => ∃ i m' H' ob', j + i = n ∧ at_ i ob' ∧ I i m' H' ∧ St k.c k.o k.env (upd B it (ob', false)) m' H' s') (by
        intro j s' hg225_2
        refine Mine.hideG fun GG back => ?_
        obtain ⟨i, m', H', ob', hj, hat, hI, st'⟩ := hg225_2
        refine back ?_
        clear back
        by_cases hi : i < n
        · refine wk.item i hi H' s' ob' st'.owned (hid_at st') hat (hok _ _ _ hI) _ (fun v h' tk ob'' htk hR hat' ho hsame => ?_) _
          refine Mine.hideG fun GG back => ?_
          obtain ⟨T, vs, hc, hd, hT⟩ := wk.cls _ _ hat'
          refine back ?_
          clear back
          have st'' := st1.rehide hB hb st' hsame.extBut htk ho
          refine wpAny_letGo_plain (s := { s' with heap := h', toks := tk }) ho hc hd hT ?_
          refine wpAny_mono (step i (er v) m' H' hi hR hI v rfl _ _ st'') (fun _ s₂ ⟨m2, H2, st2, q2⟩ => ?_) fun e s₂ he => k.pass e s₂ he
          refine wpAny_mono (q2 _ _ st2) (fun f s₃ ⟨m3, H3, st3, q3⟩ => ?_) fun e s₂ he => k.pass e s₂ he
          cases f with
          | next => exact ⟨j - 1, by omega, i + 1, m3, H3, ob'', by omega, hat', q3, st3⟩
          | cont => exact ⟨j - 1, by omega, i + 1, m3, H3, ob'', by omega, hat', q3, st3⟩
          | brk => exact ⟨m3, H3, st1.but hB hb st3 (tk := s₃.toks) (Heap.ExtBut.refl _ _) st3.tk, q3⟩
          | ret v => exact ⟨m3, H3, st1.but hB hb st3 (tk := s₃.toks) (Heap.ExtBut.refl _ _) st3.tk, q3⟩
        · have hi' : i = n := by omega
          subst hi'
          refine wk.fin H' s' ob' st'.owned (hid_at st') hat (hok _ _ _ hI) _ (fun h' hk => ?_) _
          exact wpAny_execs_nil ⟨m', H', st1.but hB hb st' (tk := s'.toks) hk st'.tk, fin _ _ hI⟩)
      n ⟨0, m1, H1, ob, rfl, h0', h0, st2⟩) fun _ _ x => x) hs
theorem W_While {test : Expr} {body : List Stmt} {pos : Pos} {Q : Flow → Loc → AHeap → Prop} (I : Nat → Loc → AHeap → Prop) (n : Nat) (h0 : I n m H)
    (step : ∀ j m1 H1, I j m1 H1 → WT k test m1 H1 fun b m2 H2 => if b = true then WF k (execs body k.env) m2 H2 (loopQ k Q fun m3 H3 => ∃ i, i < j ∧ I i m3 H3) else Q .next m2 H2) :
    W k (exec (.While test body [] pos) k.env) m H Q := fun B s st =>
  wpAny_While (codeAny_whileLoop (fun j s' => ∃ m' H', I j m' H' ∧ St k.c k.o k.env B m' H' s') (by
    intro j s' hg249_2
    refine Mine.hideG fun GG back => ?_
    obtain ⟨m', H', hI, st'⟩ := hg249_2
    refine back ?_
    clear back
    refine wpAny_mono (step j m' H' hI B s' st') (fun b s₂ ⟨m2, H2, st2, q2⟩ => ?_) fun e s₂ he => k.pass e s₂ he
    cases b with
    | false =>
      rw [if_neg Bool.false_ne_true] at q2 ⊢
      exact wpAny_execs_nil ⟨m2, H2, st2, q2⟩
    | true =>
      rw [if_pos rfl] at q2 ⊢
      refine wpAny_mono (q2 _ _ st2) (fun f s₃ ⟨m3, H3, st3, q3⟩ => ?_) fun e s₂ he => k.pass e s₂ he
      cases f with
      | next => obtain ⟨i, hi, q⟩ := q3; exact ⟨i, hi, m3, H3, q, st3⟩
      | cont => obtain ⟨i, hi, q⟩ := q3; exact ⟨i, hi, m3, H3, q, st3⟩
      | brk => exact ⟨m3, H3, st3, q3⟩
      | ret v => exact ⟨m3, H3, st3, q3⟩)
    n ⟨m, H, h0, st⟩)
noncomputable def WAsL (k : Wk) : List Expr → List V → Loc → AHeap → (Loc → AHeap → Prop) → Prop
  | [], [], m, H, Q => Q m H
  | t :: ts, v :: vs, m, H, Q => WAs k t v m H fun m1 H1 => WAsL k ts vs m1 H1 Q
  | _, _, _, _, _ => False
theorem WAsL_run : ∀ (ts : List Expr) (vs : List Value) (m : Loc) (H : AHeap) (Q : Loc → AHeap → Prop), (∀ t ∈ ts, assignEach [t] k.env = [(false, assign t k.env)]) → WAsL k ts (vs.map er) m H Q → W k (assignInOrder (ts.map fun t => assign t k.env) vs) m H fun _ => Q
  | [], [], m, H, Q, _, h => W.pure h
  | t :: ts, v :: vs, m, H, Q, ht, h => W.bind (W.holding (W.mono (h v rfl) fun _ m1 H1 q => WAsL_run ts vs m1 H1 Q (fun t h => ht t (List.mem_cons_of_mem _ h)) q))
  | [], _ :: _, _, _, _, _, h => h.elim
  | _ :: _, [], _, _, _, _, h => h.elim
theorem WAs_Tup {elts : List Expr} {n : Nat} {p : Pos} {a : Addr} {xs : List V} {Q : Loc → AHeap → Prop} (hh : k.A.handled = none) (ha : H a = some (.tup xs)) (hl : elts.length = xs.length)
    (he : assignEach elts k.env = elts.map fun t => (false, assign t k.env) := by rfl) (he' : ∀ t ∈ elts, assignEach [t] k.env = [(false, assign t k.env)] := by simp [assignEach])
    (h : WAsL k elts xs m H Q) : WAs k (.Tuple elts n p) (.ref a) m H Q := fun x hx B s st => by
  obtain rfl := er_ref hx
  refine Mine.hideG fun GG back => ?_
  obtain ⟨vs, n', ho, rfl⟩ := st.tupAt ha
  refine back ?_
  clear back
  refine wpAny_assign_Tuple (items := (vs : List Value).toArray) hh ⟨_, ho, rfl, n', rfl⟩ (by rw [he]; simpa using hl) (by rw [he]; simp) fun h' hk => ?_
  have hn := st.fresh (st.none_at (Nat.le_refl _))
  have st' := st.grown (tk := s.toks) (h' := h') (fun b ob e => hk b ob (Nat.ne_of_lt (Heap.lt_size e)) e) st.tk
  have e : (assignEach elts k.env).map (·.2) = elts.map fun t => assign t k.env := by rw [he]; simp
  rw [e]
  exact WAsL_run elts vs m H Q he' h B _ st'
end
end Mine
namespace Mine
noncomputable def clOf (scope : Scope) (env : Env) : List (Str × Addr) := ((scope.names.filter fun x => x.2 == .free).map fun x => (x.1, (env.cells.lookup x.1).getD 0)).reverse
noncomputable def relabelS (scope sc : Scope) : Scope :=
  { scope with names := scope.names.map fun (n, k) => if (k == .free && sc.kind == .function && sc.names.lookup n == some .cell) then (n, .cell) else (n, k) }
noncomputable def freeNames (scope : Scope) : List Str := (scope.names.filter fun x => x.2 == .free).map (·.1)
noncomputable def compNames (scope : Scope) : List Str := (cellsFrom 0 scope.names ((freeNames scope).map fun x => (x, 0)).reverse).map (·.1)
noncomputable def compOK (scope sc : Scope) (cn : List Str) : Bool :=
  (scope.kind == .function) && decide (scope.names.map (·.1)).Nodup && scope.names.all fun x => !(x.2 == .free) || (sc.names.lookup x.1 == some .cell && cn.contains x.1)
theorem closureFor_eq {scope : Scope} {env : Env} (h : ∀ x ∈ scope.names, x.2 = .free → ∃ a, env.cells.lookup x.1 = some a) : closureFor scope env = pure (clOf scope env) := by
  unfold closureFor clOf
  have go : ∀ (names : List (Str × NameKind)) (acc : List (Str × Addr)), (∀ x ∈ names, x.2 = .free → ∃ a, env.cells.lookup x.1 = some a) →
      (forIn names acc (fun x r => match x with | (name, kind) => if kind == .free then do let a ← cellOf env name; pure (ForInStep.yield ((name, a) :: r)) else pure (ForInStep.yield r)) : Sem (List (Str × Addr)))
        = pure (((names.filter fun x => x.2 == .free).map fun x => (x.1, (env.cells.lookup x.1).getD 0)).reverse ++ acc) := by
    intro names
    induction names with
    | nil => intro acc _; rfl
    | cons x r ih =>
      intro acc h
      refine Mine.hideG fun GG back => ?_
      obtain ⟨n, κ⟩ := x
      refine back ?_
      clear back
      rw [List.forIn_cons]
      by_cases hk : κ = .free
      · subst hk
        refine Mine.hideG fun GG back => ?_
        obtain ⟨a, ha⟩ := h (n, .free) List.mem_cons_self rfl
        refine back ?_
        clear back
        simp only [beq_self_eq_true, if_true]
        have ha' : env.cells.lookup n = some a := ha
        rw [show cellOf env n = pure a from by unfold cellOf; rw [ha']]
        simp only [pure_bind]
        rw [ih _ fun x hx => h x (List.mem_cons_of_mem _ hx)]
        simp [ha']
      · have hk' : (κ == NameKind.free) = false := by cases κ <;> first | rfl | exact absurd rfl hk
        simp only [hk', Bool.false_eq_true, if_false, pure_bind]
        rw [ih _ fun x hx => h x (List.mem_cons_of_mem _ hx)]
        simp [hk']
  have := go scope.names [] h
  simp only [List.append_nil] at this
  rw [← this]
  simp only [bind_pure]
noncomputable def cenvOf (scope : Scope) (env : Env) (C : Addr) : Env :=
  { scope := relabel scope env, locals := C, globals := env.globals, cells := cellsFrom (C + 1) scope.names (clOf scope env), qual := env.qual, func := none, code := env.code, frame := env.frame, builtins := env.builtins }
theorem wpAny_compEnv {M : Model} {A : Around} {E : Value → Shared → Prop} {s : Shared} {scope : Scope} {env : Env} {Q : Env → Shared → Prop}
    (h : Q { scope := scope, locals := s.heap.objs.size, globals := env.globals, cells := cellsFrom (s.heap.objs.size + 1) scope.names (clOf scope env), qual := env.qual, func := none, code := env.code, frame := env.frame, builtins := env.builtins }
      { s with heap := pushCells (s.heap.push { cls := .type "dict", data := .dict #[] }) scope.names }) :
    wpAny M A (newFunctionEnv scope env.globals (clOf scope env) [] env.qual none .none (some env)) Q E s := by
  simp only [newFunctionEnv, Option.isSome_some, if_true]
  refine wpAny_bind (wpAny_alloc ?_)
  refine wpAny_bind (wpAny_layCells _ (fun name kind cells => by cases hkc : kind == NameKind.cell <;> simp) _ _ _ _ ?_)
  have e : ({ s with heap := s.heap.push { cls := .type "dict", data := .dict #[] } } : Shared).heap.objs.size = s.heap.objs.size + 1 := Heap.size_push ..
  rw [e]
  refine wpAny_bind (wpAny_pure ?_)
  exact wpAny_pure h
theorem cellsFrom_mem : ∀ (names : List (Str × NameKind)) (n : Nat) (acc : List (Str × Addr)) (x : Str) (a : Addr), (x, a) ∈ cellsFrom n names acc → (x, a) ∈ acc ∨ (n ≤ a ∧ (x, NameKind.cell) ∈ names)
  | [], n, acc, x, a, h => .inl h
  | (y, k) :: r, n, acc, x, a, h => by
    unfold cellsFrom at h
    split at h
    · rename_i hk
      rcases cellsFrom_mem r (n + 1) _ x a h with h | ⟨h1, h2⟩
      · rcases List.mem_cons.mp h with e | h
        · cases e; exact .inr ⟨Nat.le_refl _, by rw [eq_of_beq hk]; exact List.mem_cons_self⟩
        · exact .inl h
      · exact .inr ⟨by lia, List.mem_cons_of_mem _ h2⟩
    · rcases cellsFrom_mem r n _ x a h with h | ⟨h1, h2⟩
      · exact .inl h
      · exact .inr ⟨h1, List.mem_cons_of_mem _ h2⟩
theorem cellsFrom_lookup : ∀ (names : List (Str × NameKind)) (n : Nat) (acc : List (Str × Addr)) (x : Str), (x, NameKind.cell) ∉ names → (cellsFrom n names acc).lookup x = acc.lookup x
  | [], n, acc, x, h => rfl
  | (y, k) :: r, n, acc, x, h => by
    unfold cellsFrom
    split
    · rename_i hk
      rw [cellsFrom_lookup r (n + 1) _ x fun q => h (List.mem_cons_of_mem _ q), List.lookup_cons]
      have : (x == y) = false := by
        cases hq : x == y with
        | false => rfl
        | true => exact absurd (by rw [eq_of_beq hk, eq_of_beq hq]; exact List.mem_cons_self) h
      rw [this]
    · exact cellsFrom_lookup r n acc x fun q => h (List.mem_cons_of_mem _ q)
theorem cellsFrom_pw : ∀ (names : List (Str × NameKind)) (n : Nat) (acc : List (Str × Addr)), (acc.map (·.2)).Nodup → (∀ a ∈ acc.map (·.2), a < n) → ((cellsFrom n names acc).map (·.2)).Nodup
  | [], n, acc, h1, h2 => h1
  | (y, k) :: r, n, acc, h1, h2 => by
    unfold cellsFrom
    split
    · refine cellsFrom_pw r (n + 1) _ ?_ fun a ha => ?_
      · rw [List.map_cons, List.nodup_cons]
        exact ⟨fun q => Nat.lt_irrefl _ (h2 n q), h1⟩
      · rw [List.map_cons] at ha
        rcases List.mem_cons.mp ha with rfl | ha
        · exact Nat.lt_succ_self _
        · exact Nat.lt_succ_of_lt (h2 a ha)
    · exact cellsFrom_pw r n acc h1 h2
theorem pushCells_at : ∀ (names : List (Str × NameKind)) (h : Heap) (acc : List (Str × Addr)) (x : Str) (a : Addr), (x, a) ∈ cellsFrom h.objs.size names acc → (x, a) ∈ acc ∨ (pushCells h names).IsCell a none
  | [], h, acc, x, a, e => .inl e
  | (y, k) :: r, h, acc, x, a, e => by
    unfold cellsFrom at e
    unfold pushCells
    split at e
    · rename_i hk
      rw [if_pos hk]
      have hs : (h.push { cls := .type "cell", data := .cell none }).objs.size = h.objs.size + 1 := Heap.size_push ..
      rw [← hs] at e
      rcases pushCells_at r _ _ x a e with e | e
      · rcases List.mem_cons.mp e with e | e
        · cases e
          exact .inr ⟨_, pushCells_keeps r _ _ _ (Heap.get?_push_size _ rfl), rfl⟩
        · exact .inl e
      · exact .inr e
    · rename_i hk
      rw [if_neg hk]
      exact pushCells_at r h acc x a e
noncomputable def hideComp (env : Env) (cs : List Addr) (h : Heap) (B : BMap) : BMap := fun a => if a ∈ places env ∧ a ∉ cs then (h.get? a).map fun ob => (ob, true) else B a
noncomputable def capm (scope : Scope) (m : Loc) : Loc := fun x => if (freeNames scope).contains x then m x else none
section
variable {c : Cx} {o : Out} {env : Env} {B : BMap} {m : Loc} {H : AHeap} {s : Shared}
structure CompAt (scope : Scope) (env : Env) : Prop where
  kind : scope.kind = .function
  nodup : (scope.names.map (·.1)).Nodup
  free : ∀ x, (x, NameKind.free) ∈ scope.names → env.kindOf x = some .cell ∧ ∃ a, env.cells.lookup x = some a
theorem CompAt.of {scope : Scope} (h : compOK scope env.scope (env.cells.map (·.1)) = true) : CompAt scope env := by
  unfold compOK at h
  rw [Bool.and_eq_true, Bool.and_eq_true] at h
  refine Mine.hideG fun GG back => ?_
  obtain ⟨⟨h1, h2⟩, h3⟩ := h
  refine back ?_
  clear back
  refine ⟨by simpa using h1, of_decide_eq_true h2, fun x hx => ?_⟩
  have := List.all_eq_true.mp h3 (x, .free) hx
  simp only [beq_self_eq_true, Bool.not_true, Bool.false_or, Bool.and_eq_true, beq_iff_eq] at this
  exact ⟨this.1, lookup_of_names this.2⟩
theorem CompAt.clos {scope : Scope} (h : CompAt scope env) : closureFor scope env = pure (clOf scope env) :=
  closureFor_eq fun x hx hk => (h.free x.1 (by rw [← hk]; exact hx)).2
theorem mem_clOf {scope : Scope} {x : Str} {a : Addr} (h : (x, a) ∈ clOf scope env) : (x, NameKind.free) ∈ scope.names ∧ a = (env.cells.lookup x).getD 0 := by
  unfold clOf at h
  rw [List.mem_reverse, List.mem_map] at h
  refine Mine.hideG fun GG back => ?_
  obtain ⟨⟨y, κ⟩, hy, e⟩ := h
  obtain ⟨h1, h2⟩ := List.mem_filter.mp hy
  refine back ?_
  clear back
  simp only [Prod.mk.injEq] at e
  refine Mine.hideG fun GG back => ?_
  obtain ⟨rfl, rfl⟩ := e
  refine back ?_
  clear back
  rw [beq_iff_eq] at h2
  exact ⟨by rw [← h2]; exact h1, rfl⟩
theorem mem_freeNames {scope : Scope} {x : Str} : (freeNames scope).contains x = true ↔ (x, NameKind.free) ∈ scope.names := by
  unfold freeNames
  rw [List.contains_iff_mem, List.mem_map]
  constructor
  · intro hg163_0
    refine Mine.hideG fun GG back => ?_
    obtain ⟨⟨y, κ⟩, hy, rfl⟩ := hg163_0
    obtain ⟨h1, h2⟩ := List.mem_filter.mp hy
    refine back ?_
    clear back
    rw [beq_iff_eq] at h2
    have h2 : κ = .free := h2
    subst h2; exact h1
  · intro h
    exact ⟨(x, .free), List.mem_filter.mpr ⟨h, rfl⟩, rfl⟩
theorem lookup_of_mem_nodup {α : Type} : ∀ {l : List (Str × α)} {x : Str} {v : α}, (l.map (·.1)).Nodup → (x, v) ∈ l → l.lookup x = some v
  | (y, u) :: r, x, v, h, hm => by
    rw [List.map_cons, List.nodup_cons] at h
    rw [List.lookup_cons]
    rcases List.mem_cons.mp hm with e | hm
    · cases e; simp
    · have : (x == y) = false := by
        cases hq : x == y with
        | false => rfl
        | true => exact absurd (by rw [← eq_of_beq hq]; exact List.mem_map_of_mem (f := (·.1)) hm) h.1
      rw [this]
      exact lookup_of_mem_nodup h.2 hm
theorem nodup_rev {α : Type} {l : List α} (h : l.Nodup) : l.reverse.Nodup := List.pairwise_reverse.mpr (List.Pairwise.imp (fun q => Ne.symm q) h)
theorem clOf_names {scope : Scope} : (clOf scope env).map (·.1) = (freeNames scope).reverse := by
  unfold clOf freeNames
  rw [List.map_reverse, List.map_map]
  rfl
theorem clOf_lookup {scope : Scope} (hc : CompAt scope env) {x : Str} (hx : (x, NameKind.free) ∈ scope.names) {a : Addr} (ha : env.cells.lookup x = some a) : (clOf scope env).lookup x = some a := by
  refine lookup_of_mem_nodup ?_ ?_
  · rw [clOf_names]
    unfold freeNames
    exact nodup_rev ((List.filter_sublist.map _).nodup hc.nodup)
  · unfold clOf
    rw [List.mem_reverse, List.mem_map]
    exact ⟨(x, .free), List.mem_filter.mpr ⟨hx, rfl⟩, by rw [ha]; rfl⟩
theorem relabel_lookup {scope : Scope} (hk : env.scope.kind = .function) : ∀ {names : List (Str × NameKind)} {x : Str}, names.lookup x = some .free → env.kindOf x = some .cell →
    (names.map fun (n, k) => if (k == NameKind.free && env.scope.kind == .function && env.kindOf n == some .cell) then (n, NameKind.cell) else (n, k)).lookup x = some .cell
  | [], x, h, _ => by cases h
  | (n, κ) :: r, x, h, he => by
    rw [List.lookup_cons] at h
    rw [List.map_cons]
    show List.lookup x ((if (κ == NameKind.free && env.scope.kind == .function && env.kindOf n == some .cell) = true then (n, NameKind.cell) else (n, κ)) :: _) = _
    cases hq : x == n with
    | true =>
      rw [hq] at h
      cases h
      have hx : x = n := eq_of_beq hq
      subst hx
      simp [hk, he]
    | false =>
      rw [hq] at h
      have ih := relabel_lookup (scope := scope) hk h he
      by_cases hcnd : (κ == NameKind.free && env.scope.kind == .function && env.kindOf n == some .cell) = true
      · rw [if_pos hcnd, List.lookup_cons, hq]; exact ih
      · rw [if_neg hcnd, List.lookup_cons, hq]; exact ih
theorem addr_nodup_of_names {cs : List (Str × Addr)} (h1 : (cs.map (·.2)).Nodup) : ∀ (l : List Str), l.Nodup → (∀ x ∈ l, ∃ a, cs.lookup x = some a) → (l.map fun x => (cs.lookup x).getD 0).Nodup
  | [], _, _ => List.nodup_nil
  | x :: r, hn, hl => by
    rw [List.nodup_cons] at hn
    rw [List.map_cons, List.nodup_cons]
    refine ⟨fun q => ?_, addr_nodup_of_names h1 r hn.2 fun y hy => hl y (List.mem_cons_of_mem _ hy)⟩
    refine Mine.hideG fun GG back => ?_
    obtain ⟨y, hy, e⟩ := List.mem_map.mp q
    obtain ⟨a, ha⟩ := hl x List.mem_cons_self
    obtain ⟨b, hb⟩ := hl y (List.mem_cons_of_mem _ hy)
    refine back ?_
    clear back
    rw [ha, hb] at e
    have e : b = a := e
    subst e
    have := cell_addr h1 ha hb
    subst this
    exact hn.1 hy
theorem clOf_nodup (st : St c o env B m H s) {scope : Scope} (hc : CompAt scope env) : ((clOf scope env).map (·.2)).Nodup := by
  have e : (clOf scope env).map (·.2) = ((freeNames scope).map fun x => (env.cells.lookup x).getD 0).reverse := by
    unfold clOf freeNames
    rw [List.map_reverse, List.map_map, List.map_map]
    rfl
  rw [e]
  refine nodup_rev ?_
  refine addr_nodup_of_names (List.nodup_cons.mp st.nodup).2 _ ?_ fun x hx => (hc.free x (mem_freeNames.mp (List.contains_iff_mem.mpr hx))).2
  unfold freeNames
  exact (List.filter_sublist.map _).nodup hc.nodup
theorem St.enterComp (st : St c o env B m H s) (hke : env.scope.kind = .function) (hfat : env.frame = some env.locals ∨ ∃ f ∈ o.fs, f.frame = env.frame) {scope : Scope} (hc : CompAt scope env) :
    St c ⟨outerOf env o.fs, hideComp env ((clOf scope env).map (·.2)) s.heap B⟩ (cenvOf scope env s.heap.objs.size) (hideComp env ((clOf scope env).map (·.2)) s.heap B) (capm scope m) H
      { s with heap := pushCells (s.heap.push { cls := .type "dict", data := .dict #[] }) scope.names } := by
  have keep : ∀ b ob, s.heap.get? b = some ob → (pushCells (s.heap.push { cls := .type "dict", data := .dict #[] }) scope.names).get? b = some ob := fun b ob e => pushCells_keeps _ _ b ob (Heap.get?_push_of_some _ e)
  have clIn : ∀ a ∈ (clOf scope env).map (·.2), a ∈ env.cells.map (·.2) := fun a ha => by
    refine Mine.hideG fun GG back => ?_
    obtain ⟨⟨x, b⟩, hx, rfl⟩ := List.mem_map.mp ha
    obtain ⟨h1, h2⟩ := mem_clOf hx
    obtain ⟨_, d, hd⟩ := hc.free x h1
    refine back ?_
    clear back
    rw [hd] at h2
    have h2 : b = d := h2
    rw [h2]; exact List.mem_map_of_mem (f := (·.2)) (mem_of_lookup hd)
  have lt : ∀ a ∈ places env, a < s.heap.objs.size := fun a ha => by
    refine Mine.hideG fun GG back => ?_
    obtain ⟨ob, ho, _⟩ := st.place ha
    refine back ?_
    clear back
    exact Heap.lt_size ho
  have fresh : ∀ a, s.heap.objs.size ≤ a → H a = none ∧ hideComp env ((clOf scope env).map (·.2)) s.heap B a = none ∧ c.base.objs.size ≤ a := fun a ha => by
    refine Mine.hideG fun GG back => ?_
    obtain ⟨f1, f2, f3, f4⟩ := st.fresh (st.none_at ha)
    refine back ?_
    clear back
    exact ⟨f1, by unfold hideComp; rw [if_neg fun q => f4 q.1]; exact f2, Nat.le_trans st.baseLe ha⟩
  have hcs : (s.heap.push { cls := .type "dict", data := .dict #[] }).objs.size = s.heap.objs.size + 1 := Heap.size_push ..
  have old : ∀ a x, B a = some x → hideComp env ((clOf scope env).map (·.2)) s.heap B a = some x := fun a x e => by
    unfold hideComp
    rw [if_neg (fun q => by rw [(st.pl a q.1).2.1] at e; cases e)]
    exact e
  refine ⟨fun b ob e => keep b ob (st.base b ob e), fun b ob l e => ?_, fun b z e => ?_, fun b z e => ?_, st.disBase, fun b q => ?_, ?_, fun b e => ?_, ⟨fun _ => none, ?_, fun x v e => ?_⟩, ⟨fun e he => ?_, fun _ _ e => e⟩, st.gens, st.os, st.tk⟩
  · unfold hideComp at e
    split at e
    · cases hg : s.heap.get? b with
      | none => rw [hg] at e; cases e
      | some ob' => rw [hg] at e; cases e; exact ⟨ob.slots, keep b ob hg, fun _ => rfl⟩
    · refine Mine.hideG fun GG back => ?_
      obtain ⟨sl, e1, e2⟩ := st.keep b ob l e
      refine back ?_
      clear back
      exact ⟨sl, keep b _ e1, e2⟩
  · obtain ⟨ob, e1, e2⟩ := st.own b z e; exact ⟨ob, keep b ob e1, e2⟩
  · unfold hideComp
    rw [if_neg (fun q => by rw [(st.pl b q.1).1] at e; cases e)]
    exact st.disB b z e
  · rcases List.mem_cons.mp q with rfl | q
    · exact fresh _ (Nat.le_refl _)
    · refine Mine.hideG fun GG back => ?_
      obtain ⟨⟨x, a⟩, hx, rfl⟩ := List.mem_map.mp q
      refine back ?_
      clear back
      rcases cellsFrom_mem _ _ _ _ _ hx with h | ⟨h, _⟩
      · have hin := clIn a (List.mem_map_of_mem (f := (·.2)) h)
        refine Mine.hideG fun GG back => ?_
        obtain ⟨p1, p2, p3⟩ := st.pl a (List.mem_cons_of_mem _ hin)
        refine back ?_
        clear back
        refine ⟨p1, ?_, p3⟩
        unfold hideComp
        rw [if_neg fun q => q.2 (List.mem_map_of_mem (f := (·.2)) h)]
        exact p2
      · exact fresh a (by lia)
  · refine List.nodup_cons.mpr ⟨fun q => ?_, ?_⟩
    · refine Mine.hideG fun GG back => ?_
      obtain ⟨⟨x, a⟩, hx, e⟩ := List.mem_map.mp q
      refine back ?_
      clear back
      have e : a = s.heap.objs.size := e
      rcases cellsFrom_mem _ _ _ _ _ hx with h | ⟨h, _⟩
      · have := lt a (List.mem_cons_of_mem _ (clIn a (List.mem_map_of_mem (f := (·.2)) h)))
        rw [e] at this
        exact Nat.lt_irrefl _ this
      · rw [e] at h
        exact Nat.lt_irrefl _ h
    · exact cellsFrom_pw _ _ _ (clOf_nodup st hc) fun a ha => Nat.lt_succ_of_lt (lt a (List.mem_cons_of_mem _ (clIn a ha)))
  · refine Mine.hideG fun GG back => ?_
    obtain ⟨⟨x, a⟩, hx, rfl⟩ := List.mem_map.mp e
    refine back ?_
    clear back
    have hx' : (x, a) ∈ cellsFrom (s.heap.push { cls := .type "dict", data := .dict #[] }).objs.size scope.names (clOf scope env) := by rw [hcs]; exact hx
    rcases pushCells_at _ _ _ _ _ hx' with h | h
    · refine Mine.hideG fun GG back => ?_
      obtain ⟨v, ob, e1, e2⟩ := st.cell a (clIn a (List.mem_map_of_mem (f := (·.2)) h))
      refine back ?_
      clear back
      exact ⟨v, ob, keep a ob e1, e2⟩
    · exact ⟨_, h⟩
  · exact (Heap.Ns.new s.heap (.type "dict")).keeps (pushCells_keeps _ _)
  · unfold capm at e
    split at e
    · rename_i hf
      have hf' := mem_freeNames.mp hf
      refine Mine.hideG fun GG back => ?_
      obtain ⟨hk, a, ha⟩ := hc.free x hf'
      refine back ?_
      clear back
      have hkc : (cenvOf scope env s.heap.objs.size).kindOf x = some .cell := relabel_lookup (scope := scope) hke (lookup_of_mem_nodup hc.nodup hf') hk
      rw [hkc]
      refine Mine.hideG fun GG back => ?_
      obtain ⟨mv, hn, hv⟩ := st.var
      refine back ?_
      clear back
      have q := hv x v e
      rw [hk] at q
      refine Mine.hideG fun GG back => ?_
      obtain ⟨a', u, e1, e2, e3⟩ := q
      refine back ?_
      clear back
      rw [ha] at e1; cases e1
      refine ⟨a, u, ?_, e2.keeps keep, e3⟩
      show (cellsFrom _ scope.names (clOf scope env)).lookup x = some a
      rw [cellsFrom_lookup _ _ _ _ fun q => ?_]
      · exact clOf_lookup hc hf' ha
      · have h1 := lookup_of_mem_nodup hc.nodup hf'
        have h2 := lookup_of_mem_nodup hc.nodup q
        rw [h1] at h2; cases h2
    · cases e
  · rcases mem_outerOf (show e ∈ outerOf env o.fs from he) with ⟨rfl, hf⟩ | he
    · refine ⟨by rw [hke]; decide, e.locals, ?_⟩
      refine Mine.hideG fun GG back => ?_
      obtain ⟨ob, ho, hd⟩ := st.place (a := e.locals) List.mem_cons_self
      refine back ?_
      clear back
      refine ⟨ob, hf, ?_, ?_, hd⟩
      · unfold hideComp
        rw [if_pos ⟨List.mem_cons_self, fun q => (List.nodup_cons.mp st.nodup).1 (clIn _ q)⟩, ho]; rfl
      · exact none_ge (st.pl e.locals List.mem_cons_self).2.2
    · refine Mine.hideG fun GG back => ?_
      obtain ⟨k1, L, ob, k2, k3, k4, k5⟩ := st.frames.1 e he
      refine back ?_
      clear back
      exact ⟨k1, L, ob, k2, old L _ k3, k4, k5⟩
theorem St.leaveComp (st : St c o env B m H s) {scope : Scope} (hc : CompAt scope env) {C : Addr} {B' : BMap} {m' : Loc} {H' : AHeap} {s' : Shared}
    (st' : St c ⟨outerOf env o.fs, hideComp env ((clOf scope env).map (·.2)) s.heap B⟩ (cenvOf scope env C) B' m' H' s') (hke : env.scope.kind = .function)
    (hcap : ∀ x v, capm scope m x = some v → m' x = some v) : St c o env B m H' s' := by
  have cellIn : ∀ x a, env.cells.lookup x = some a → a ∈ (clOf scope env).map (·.2) → (x, NameKind.free) ∈ scope.names := fun x a hx ha => by
    refine Mine.hideG fun GG back => ?_
    obtain ⟨⟨y, b⟩, hy, e⟩ := List.mem_map.mp ha
    refine back ?_
    clear back
    have e : b = a := e
    subst e
    refine Mine.hideG fun GG back => ?_
    obtain ⟨h1, h2⟩ := mem_clOf hy
    obtain ⟨_, d, hd⟩ := hc.free y h1
    refine back ?_
    clear back
    rw [hd] at h2
    have h2 : b = d := h2
    subst h2
    rw [cell_addr (List.nodup_cons.mp st.nodup).2 hx hd]; exact h1
  have hid : ∀ a ∈ places env, a ∉ (clOf scope env).map (·.2) → ∃ ob sl, s.heap.get? a = some ob ∧ s'.heap.get? a = some { ob with slots := sl } ∧ H' a = none := fun a ha hn => by
    refine Mine.hideG fun GG back => ?_
    obtain ⟨ob, ho, _⟩ := st.place ha
    refine back ?_
    clear back
    have hB : B' a = some (ob, true) := st'.frames.2 _ _ (by show hideComp _ _ _ _ a = _; unfold hideComp; rw [if_pos ⟨ha, hn⟩, ho]; rfl)
    refine Mine.hideG fun GG back => ?_
    obtain ⟨sl, e1, _⟩ := st'.keep a ob true hB
    refine back ?_
    clear back
    refine ⟨ob, sl, ho, e1, ?_⟩
    cases hb : H' a with
    | none => rfl
    | some y => have := st'.disB a y hb; rw [hB] at this; cases this
  have old : ∀ a x, B a = some x → B' a = some x := fun a x e => st'.frames.2 _ _ <| by
    show hideComp _ _ _ _ a = some x
    unfold hideComp
    rw [if_neg (fun q => by rw [(st.pl a q.1).2.1] at e; cases e)]
    exact e
  have inPl : ∀ a ∈ (clOf scope env).map (·.2), a ∈ places (cenvOf scope env C) := fun a ha => by
    refine Mine.hideG fun GG back => ?_
    obtain ⟨⟨x, b⟩, hx, e⟩ := List.mem_map.mp ha
    refine back ?_
    clear back
    have e : b = a := e
    subst e
    refine Mine.hideG fun GG back => ?_
    obtain ⟨h1, h2⟩ := mem_clOf hx
    obtain ⟨_, d, hd⟩ := hc.free x h1
    refine back ?_
    clear back
    have hl := clOf_lookup hc h1 hd
    rw [hd] at h2
    have h2 : b = d := h2
    subst h2
    refine List.mem_cons_of_mem _ ?_
    show b ∈ (cellsFrom _ scope.names (clOf scope env)).map (·.2)
    refine List.mem_map_of_mem (f := (·.2)) (PySem.mem_of_lookup (n := x) ?_)
    rw [cellsFrom_lookup _ _ _ _ fun q => ?_]
    · exact hl
    · have h3 := lookup_of_mem_nodup hc.nodup h1
      have h4 := lookup_of_mem_nodup hc.nodup q
      rw [h3] at h4; cases h4
  have cellSt : ∀ a ∈ env.cells.map (·.2), ∃ v, s'.heap.IsCell a v := fun a ha => by
    by_cases hin : a ∈ (clOf scope env).map (·.2)
    · have hp := inPl a hin
      rcases List.mem_cons.mp hp with e | hp
      · exfalso
        have e : a = C := e
        have h1 := (List.nodup_cons.mp st'.nodup).1
        rw [show (cenvOf scope env C).locals = C from rfl] at h1
        refine h1 ?_
        rw [← e]
        refine Mine.hideG fun GG back => ?_
        obtain ⟨⟨x, b⟩, hx, e'⟩ := List.mem_map.mp hin
        refine back ?_
        clear back
        have e' : b = a := e'
        subst e'
        refine Mine.hideG fun GG back => ?_
        obtain ⟨g1, g2⟩ := mem_clOf hx
        obtain ⟨_, d, hd⟩ := hc.free x g1
        refine back ?_
        clear back
        have hl := clOf_lookup hc g1 hd
        rw [hd] at g2
        have g2 : b = d := g2
        subst g2
        show b ∈ (cellsFrom _ scope.names (clOf scope env)).map (·.2)
        refine List.mem_map_of_mem (f := (·.2)) (PySem.mem_of_lookup (n := x) ?_)
        rw [cellsFrom_lookup _ _ _ _ fun q => ?_]
        · exact hl
        · have h3 := lookup_of_mem_nodup hc.nodup g1
          have h4 := lookup_of_mem_nodup hc.nodup q
          rw [h3] at h4; cases h4
      · exact st'.cell a hp
    · refine Mine.hideG fun GG back => ?_
      obtain ⟨v, ob, e1, e2⟩ := st.cell a ha
      obtain ⟨ob', sl, h1, h2, _⟩ := hid a (List.mem_cons_of_mem _ ha) hin
      refine back ?_
      clear back
      rw [e1] at h1; cases h1
      exact ⟨v, _, h2, e2⟩
  have locNot : env.locals ∉ (clOf scope env).map (·.2) := fun q => by
    refine Mine.hideG fun GG back => ?_
    obtain ⟨⟨x, b⟩, hx, e⟩ := List.mem_map.mp q
    refine back ?_
    clear back
    have e : b = env.locals := e
    refine Mine.hideG fun GG back => ?_
    obtain ⟨g1, g2⟩ := mem_clOf hx
    obtain ⟨_, d, hd⟩ := hc.free x g1
    refine back ?_
    clear back
    rw [hd] at g2
    have g2 : b = d := g2
    exact (List.nodup_cons.mp st.nodup).1 (by rw [← e, g2]; exact List.mem_map_of_mem (f := (·.2)) (mem_of_lookup hd))
  refine ⟨st'.base, fun b ob l e => st'.keep b ob l (old b _ e), st'.own, fun b x e => ?_, st'.disBase, fun b q => ?_, st.nodup, cellSt, ?_, st.frames, st'.gens, st'.os, st'.tk⟩
  · have h1 := st'.disB b x e
    cases hb : B b with
    | none => rfl
    | some y => rw [old b y hb] at h1; cases h1
  · refine Mine.hideG fun GG back => ?_
    obtain ⟨e1, e2, e3⟩ := st.pl b q
    refine back ?_
    clear back
    refine ⟨?_, e2, e3⟩
    by_cases hin : b ∈ (clOf scope env).map (·.2)
    · exact (st'.pl b (inPl b hin)).1
    · refine Mine.hideG fun GG back => ?_
      obtain ⟨_, _, _, _, h⟩ := hid b q hin
      refine back ?_
      clear back
      exact h
  · refine Mine.hideG fun GG back => ?_
    obtain ⟨mv, ⟨ob, es, ep, ho, hd, hk, hf⟩, hv⟩ := st.var
    obtain ⟨ob', sl, h1, h2, _⟩ := hid env.locals List.mem_cons_self locNot
    refine back ?_
    clear back
    rw [ho] at h1; cases h1
    refine ⟨mv, ⟨_, es, ep, h2, hd, hk, hf⟩, fun x v e => ?_⟩
    have cellK : ∀ a z, env.cells.lookup x = some a → s.heap.IsCell a (some z) → er z = v → ∃ u, s'.heap.IsCell a (some u) ∧ er u = v := fun a z ha ⟨ob, ho, hd⟩ hz => by
      have ham := List.mem_map_of_mem (f := (·.2)) (mem_of_lookup ha)
      by_cases hin : a ∈ (clOf scope env).map (·.2)
      · have hfree := cellIn x a ha hin
        have hcm : capm scope m x = some v := by unfold capm; rw [if_pos (mem_freeNames.mpr hfree)]; exact e
        refine Mine.hideG fun GG back => ?_
        obtain ⟨mv', hn', hv'⟩ := st'.var
        refine back ?_
        clear back
        have q := hv' x v (hcap x v hcm)
        have hkc : (cenvOf scope env C).kindOf x = some .cell := relabel_lookup (scope := scope) hke (lookup_of_mem_nodup hc.nodup hfree) (hc.free x hfree).1
        rw [hkc] at q
        refine Mine.hideG fun GG back => ?_
        obtain ⟨a', u, e1, e2, e3⟩ := q
        refine back ?_
        clear back
        have e1' : (cellsFrom (C + 1) scope.names (clOf scope env)).lookup x = some a' := e1
        rw [cellsFrom_lookup _ _ _ _ fun q => ?_, clOf_lookup hc hfree ha] at e1'
        · cases e1'
          exact ⟨u, e2, e3⟩
        · have h3 := lookup_of_mem_nodup hc.nodup hfree
          have h4 := lookup_of_mem_nodup hc.nodup q
          rw [h3] at h4; cases h4
      · refine Mine.hideG fun GG back => ?_
        obtain ⟨ob', sl, g1, g2, _⟩ := hid a (List.mem_cons_of_mem _ ham) hin
        refine back ?_
        clear back
        rw [ho] at g1; cases g1
        exact ⟨z, ⟨_, g2, hd⟩, hz⟩
    have q := hv x v e
    split at q
    · exact q
    · refine Mine.hideG fun GG back => ?_
      obtain ⟨a, u, e1, e2, e3⟩ := q
      obtain ⟨u', g1, g2⟩ := cellK a u e1 e2 e3
      refine back ?_
      clear back
      exact ⟨a, u', e1, g1, g2⟩
    · refine Mine.hideG fun GG back => ?_
      obtain ⟨a, u, e1, e2, e3⟩ := q
      obtain ⟨u', g1, g2⟩ := cellK a u e1 e2 e3
      refine back ?_
      clear back
      exact ⟨a, u', e1, g1, g2⟩
    · exact q
end
end Mine
namespace Mine
structure CompK (k : Wk) (scope : Scope) (kc : Wk) : Prop where
  c : kc.c = k.c
  A : kc.A = k.A
  sc : kc.env.scope = relabelS scope k.env.scope
  cn : kc.env.cells.map (·.1) = compNames scope
  X : kc.X = fun _ _ _ _ => False
theorem CompK.senv {k kc : Wk} {scope sc : Scope} {cn : List Str} (h : CompK k scope kc) [I : SEnv k sc cn] : SEnv kc (relabelS scope sc) (compNames scope) := ⟨by rw [h.sc, I.sc], h.cn⟩
noncomputable def Caps (scope : Scope) (m mc : Loc) : Prop := ∀ x v, capm scope m x = some v → mc x = some v
theorem Caps.get {scope : Scope} {m mc : Loc} (h : Caps scope m mc) {x : Str} {v : V} (hm : m x = some v) (hx : (freeNames scope).contains x = true) : mc x = some v :=
  h x v (by unfold capm; rw [if_pos hx]; exact hm)
noncomputable def tests (ifs : List Expr) (env : Env) : Sem Bool := forIn ifs true fun c r => if r = true then do let ok ← isTrue c env (eval c env); pure (ForInStep.yield ok) else pure (ForInStep.yield r)
theorem W_tests_nil {k : Wk} {m : Loc} {H : AHeap} {Q : Bool → Loc → AHeap → Prop} (h : Q true m H) : W k (tests [] k.env) m H Q := W.pure h
theorem W_tests_one {k : Wk} {m : Loc} {H : AHeap} {c : Expr} {Q : Bool → Loc → AHeap → Prop} (h : WT k c m H Q) : W k (tests [c] k.env) m H Q := fun B s st => wpAny_tests_one (h B s st)
theorem upd_comm {β : Type} {f : Addr → Option β} {a b : Addr} {x y : β} (h : a ≠ b) : upd (upd f a x) b y = upd (upd f b y) a x := by
  funext z
  unfold upd
  by_cases h1 : z = b
  · by_cases h2 : z = a
    · exact absurd (h2.symm.trans h1) h
    · rw [if_pos h1, if_neg h2, if_pos h1]
  · by_cases h2 : z = a
    · rw [if_neg h1, if_pos h2, if_pos h2]
    · rw [if_neg h1, if_neg h2, if_neg h2, if_neg h1]
section
variable {c : Cx} {o : Out} {env : Env} {B : BMap} {m : Loc} {H : AHeap} {s : Shared}
theorem St.hid2 {a b : Addr} {x : Obj} {y : Obj × Bool} (st : St c o env (upd (upd B a (x, false)) b y) m H s) (h : a ≠ b) : s.heap.get? a = some x := by
  rw [upd_comm h] at st
  exact hid_at st
theorem St.placeData (st : St c o env B m H s) {a : Addr} (h : a ∈ places env) : ∃ ob, s.heap.get? a = some ob ∧ ((∃ es ep, ob.data = .dict es ep) ∨ ∃ v, ob.data = .cell v) := by
  rcases List.mem_cons.mp h with rfl | h
  · refine Mine.hideG fun GG back => ?_
    obtain ⟨mv, hq47⟩ := st.var
    obtain ⟨ob, es, ep, ho, hd, _⟩ := hq47.1
    refine back ?_
    clear back
    clear hq47
    exact ⟨ob, ho, .inl ⟨es, ep, hd⟩⟩
  · refine Mine.hideG fun GG back => ?_
    obtain ⟨v, ob, hq49⟩ := st.cell a h
    refine back ?_
    clear back
    have ho := hq49.1
    have hd := hq49.2
    clear hq49
    exact ⟨ob, ho, .inr ⟨v, hd⟩⟩
theorem St.but' {it : Addr} {ob : Obj} (hB : B it = none) (he : o.ext it = none) (hb : c.base.objs.size ≤ it) (st : St c o env (upd B it (ob, false)) m H s) {h' : Heap} {tk : Nat} (hk : Heap.ExtBut it s.heap h') (ht : 1 ≤ tk) :
    St c o env B m H { s with heap := h', toks := tk } := by
  have q : ∀ b y, B b = some y → upd B it (ob, false) b = some y := fun b y e => upd_fresh hB e
  have r : ∀ b, upd B it (ob, false) b = none → B b = none := fun b e => by
    cases h : B b with
    | none => rfl
    | some y => rw [q b y h] at e; cases e
  have hHit : ∀ b y, H b = some y → b ≠ it := fun b y e z => by
    have := st.disB b y e
    rw [z, upd_same] at this; cases this
  have hpit : ∀ b ∈ places env, b ≠ it := fun b hb z => by
    have := (st.pl b hb).2.1
    rw [z, upd_same] at this; cases this
  have hbase : ∀ b ob, c.base.get? b = some ob → b ≠ it := fun b ob e z => by
    rw [z, none_ge hb] at e; cases e
  refine ⟨fun b ob e => hk b ob (hbase b ob e) (st.base b ob e), fun b ob l e => ?_, fun b y e => ?_, fun b y e => r b (st.disB b y e), st.disBase, fun b z => ⟨(st.pl b z).1, r b (st.pl b z).2.1, (st.pl b z).2.2⟩, st.nodup, fun b e => ?_, ?_, ⟨fun e he => ?_, fun b y e => ?_⟩, st.gens, st.os, ht⟩
  · refine Mine.hideG fun GG back => ?_
    obtain ⟨sl, hq69⟩ := st.keep b ob l (q b _ e)
    refine back ?_
    clear back
    have e1 := hq69.1
    have e2 := hq69.2
    clear hq69
    exact ⟨sl, hk b _ (fun z => by rw [z, hB] at e; cases e) e1, e2⟩
  · refine Mine.hideG fun GG back => ?_
    obtain ⟨ob, hq71⟩ := st.own b y e
    refine back ?_
    clear back
    have e1 := hq71.1
    have e2 := hq71.2
    clear hq71
    exact ⟨ob, hk b ob (hHit b y e) e1, e2⟩
  · refine Mine.hideG fun GG back => ?_
    obtain ⟨v, ob, hq73⟩ := st.cell b e
    refine back ?_
    clear back
    have e1 := hq73.1
    have e2 := hq73.2
    clear hq73
    exact ⟨v, ob, hk b ob (hpit b (List.mem_cons_of_mem _ e)) e1, e2⟩
  · exact var_keeps (fun b hb' ob e => hk b ob (hpit b hb') e) st.var
  · refine Mine.hideG fun GG back => ?_
    obtain ⟨k1, L, ob', hq76⟩ := st.frames.1 e he
    refine back ?_
    clear back
    have k2 := hq76.1
    have k3 := hq76.2.1
    have k4 := hq76.2.2.1
    have k5 := hq76.2.2.2
    clear hq76
    refine ⟨k1, L, ob', k2, ?_, k4, k5⟩
    rcases upd_some k3 with ⟨_, e'⟩ | ⟨_, e'⟩
    · cases e'
    · exact e'
  · rcases upd_some (st.frames.2 b y e) with ⟨rfl, _⟩ | ⟨_, e'⟩
    · rw [he] at e; cases e
    · exact e'
theorem St.rehide' {it : Addr} {ob : Obj} (hB : B it = none) (he : o.ext it = none) (hb : c.base.objs.size ≤ it) (st : St c o env (upd B it (ob, false)) m H s) {h' : Heap} {tk : Nat} (hk : Heap.ExtBut it s.heap h') (ht : 1 ≤ tk) {ob' : Obj} (ho : h'.get? it = some ob') :
    St c o env (upd B it (ob', false)) m H { s with heap := h', toks := tk } := by
  refine (St.but' hB he hb st hk ht).hide (l := false) ho ?_ (fun z => ?_) hB
  · cases e : H it with
    | none => rfl
    | some y => have := st.disB it y e; rw [upd_same] at this; cases this
  · have := (st.pl it z).2.1
    rw [upd_same] at this; cases this
theorem St.adopt (st : St c o env B m H s) {a : Addr} {y : AObj} (hy : ∃ ob, s.heap.get? a = some ob ∧ IsObj c ob y) (hH : H a = none) (hB : B a = none) (hp : a ∉ places env) (hb : c.base.objs.size ≤ a) : St c o env B m (upd H a y) s := by
  refine ⟨st.base, st.keep, fun b z e => ?_, fun b z e => ?_, fun b z e => ?_, fun b q => ?_, st.nodup, st.cell, st.var, st.frames, st.gens, st.os, st.tk⟩
  · rcases upd_some e with ⟨rfl, rfl⟩ | ⟨ne, e⟩
    · exact hy
    · exact st.own b z e
  · rcases upd_some e with ⟨rfl, rfl⟩ | ⟨ne, e⟩
    · exact hB
    · exact st.disB b z e
  · rcases upd_some e with ⟨rfl, rfl⟩ | ⟨ne, e⟩
    · exact hb
    · exact st.disBase b z e
  · have hq105 := st.pl b q
    have e1 := hq105.1
    have e2 := hq105.2.1
    have e3 := hq105.2.2
    clear hq105
    exact ⟨by unfold upd; rw [if_neg (fun z => by subst z; exact hp q)]; exact e1, e2, e3⟩
end
section
variable {k : Wk} {m : Loc} {H : AHeap}
noncomputable def compWk (k : Wk) (B : BMap) (scope : Scope) (s : Shared) (hk : scope.kind = .function) (st : ∃ m H, St k.c k.o k.env B m H s) : Wk where
  c := k.c
  A := k.A
  o := ⟨outerOf k.env k.o.fs, hideComp k.env ((clOf scope k.env).map (·.2)) s.heap B⟩
  env := cenvOf scope k.env s.heap.objs.size
  E := fun _ _ => False
  X := fun _ _ _ _ => False
  here := False
  pass := PassesOwn.never
  fly := fun _ _ _ _ _ _ _ _ _ h => h
  made := fun h => h.elim
  kind := hk
  glob := k.glob
  blt := k.blt
  frames := by
    rw [k.frames]
    congr 1
    refine Mine.hideG fun GG back => ?_
    obtain ⟨m, H, st⟩ := st
    refine back ?_
    clear back
    have lt : ∀ a, (∃ ob, s.heap.get? a = some ob) → a ≠ s.heap.objs.size := fun a ⟨ob, e⟩ => Nat.ne_of_lt (Heap.lt_size e)
    have hne : k.env.frame ≠ some s.heap.objs.size := fun q => by
      rcases k.fat with h | ⟨f, hf, h⟩
      · rw [h] at q
        refine Mine.hideG fun GG back => ?_
        obtain ⟨ob, ho, _⟩ := st.place (a := k.env.locals) List.mem_cons_self
        refine back ?_
        clear back
        exact lt _ ⟨ob, ho⟩ (Option.some.inj q)
      · refine Mine.hideG fun GG back => ?_
        obtain ⟨_, L, ob, k2, k3, _⟩ := st.frames.1 f hf
        refine back ?_
        clear back
        rw [← h, k2] at q
        refine Mine.hideG fun GG back => ?_
        obtain ⟨sl, e1, _⟩ := st.keep L ob true k3
        refine back ?_
        clear back
        exact lt _ ⟨_, e1⟩ (Option.some.inj q)
    show outerOf k.env k.o.fs = outerOf (cenvOf scope k.env s.heap.objs.size) (outerOf k.env k.o.fs)
    exact (if_neg (show ¬ (cenvOf scope k.env s.heap.objs.size).frame = some (cenvOf scope k.env s.heap.objs.size).locals from hne)).symm
  fat := by
    right
    rcases k.fat with h | ⟨f, hf, h⟩
    · exact ⟨k.env, by show k.env ∈ outerOf k.env k.o.fs; unfold outerOf; rw [if_pos h]; exact List.mem_cons_self, rfl⟩
    · refine ⟨f, ?_, h⟩
      show f ∈ outerOf k.env k.o.fs
      unfold outerOf
      split
      · exact List.mem_cons_of_mem _ hf
      · exact hf
theorem compWk_K {B : BMap} {scope : Scope} {s : Shared} {hk : scope.kind = .function} {st : ∃ m H, St k.c k.o k.env B m H s} : CompK k scope (compWk k B scope s hk st) := by
  refine ⟨rfl, rfl, rfl, ?_, rfl⟩
  show (cellsFrom _ scope.names (clOf scope k.env)).map (·.1) = compNames scope
  unfold compNames
  refine cellsFrom_map _ _ _ _ _ ?_
  rw [clOf_names, List.map_reverse, List.map_map]
  congr 1
  exact (List.map_id _).symm
theorem comp_list {elt iter : Expr} {x : Str} {px : Pos} {ifs : List Expr} {scope : Scope} {pos : Pos} {RR : Value → Addr → Result → Shared → Prop} {E : Value → Shared → Prop}
    (hc : CompAt scope k.env) {n : Nat} {R : Nat → V → Prop} {ok : AHeap → Prop} (I : Nat → List V → AHeap → Prop) {xv : Value} (hit : WIter k (er xv) m H n R ok) (h0 : I 0 [] H) (hok : ∀ i acc H2, I i acc H2 → ok H2) (hn : n ≤ sizeLine)
    (hx : ∀ kc, CompK k scope kc → storable kc.env x = true)
    (step : ∀ kc, CompK k scope kc → ∀ i v acc mc H2, i < n → R i v → I i acc H2 → Caps scope m mc → mc x = some v → W kc (tests ifs kc.env) mc H2 fun b m3 H3 => m3 = mc ∧ if b = true then WV kc (eval elt kc.env) mc H3 fun u m4 H4 => m4 = mc ∧ I (i + 1) (acc ++ [u]) H4 else I (i + 1) acc H3)
    (hcx : (freeNames scope).contains x = false)
    {B : BMap} {s : Shared} (st : St k.c k.o k.env B m H s)
    (hRR : ∀ D C obC acc H' s', B C = none → k.c.base.objs.size ≤ C → (∃ mC, s'.heap.Ns C mC) → St k.c k.o k.env (upd B C (obC, false)) m (upd H' D (.list acc)) s' → H' D = none → acc.length ≤ n → I n acc H' → RR (.ref D) C (.ok .next) s') :
    wpAny (model k.c.prog k.c.w) k.A (pyIter xv) (fun it s2 => wpAny (model k.c.prog k.c.w) k.A (newList []) (fun acc s3 => wpAny (model k.c.prog k.c.w) k.A (newFunctionEnv scope k.env.globals (clOf scope k.env) [] k.env.qual none .none (some k.env)) (fun cenv s4 =>
      codeAny (model k.c.prog k.c.w) k.A (.compStart (.ListComp elt [⟨.Name x px, iter, ifs, 0⟩] scope pos) 0 it acc { cenv with scope := relabel scope k.env }) (RR acc cenv.locals) s4) E s3) E s2) E s := by
  refine hit xv rfl B s st _ _ fun it ob0 at_ s2 wk hat0 hBit hbit st2 => ?_
  refine wpAny_newObj_type ?_ (by show (([] : List Value).toArray).size ≤ sizeLine; simp)
  refine wpAny_compEnv ?_
  -- the state with all of these made
  have hitAt := hid_at st2
  have hitlt : it < s2.heap.objs.size := Heap.lt_size hitAt
  have stA := st.unhide hBit st2
  have stB := stA.grown (tk := s2.toks) (h' := s2.heap.push { cls := .type "list", data := .seq ([] : List Value).toArray }) (fun b ob e => Heap.get?_push_of_some _ e) st2.tk
  have hD1 : (s2.heap.push { cls := .type "list", data := .seq ([] : List Value).toArray }).get? s2.heap.objs.size = some { cls := .type "list", data := .seq ([] : List Value).toArray } := Heap.get?_push_size _ rfl
  have hsz : (s2.heap.push { cls := .type "list", data := .seq ([] : List Value).toArray }).objs.size = s2.heap.objs.size + 1 := Heap.size_push ..
  refine Mine.hideG fun GG back => ?_
  obtain ⟨fD1, fD2, fD3, fD4⟩ := stA.fresh (stA.none_at (Nat.le_refl s2.heap.objs.size))
  obtain ⟨fC1, fC2, fC3, fC4⟩ := stB.fresh (stB.none_at (Nat.le_refl _))
  refine back ?_
  clear back
  have hbD : k.c.base.objs.size ≤ s2.heap.objs.size := stA.baseLe
  have hbC := stB.baseLe
  have st4 := stB.enterComp k.kind k.fat hc
  obtain ⟨kc, hkc, hkl, hko, leave, st4', hE, hknd⟩ : ∃ kc : Wk, (CompK k scope kc) ∧ (kc.env.locals = ({ s2 with heap := s2.heap.push { cls := .type "list", data := .seq ([] : List Value).toArray } } : Shared).heap.objs.size) ∧ (kc.o.ext = hideComp k.env ((clOf scope k.env).map (·.2)) ({ s2 with heap := s2.heap.push { cls := .type "list", data := .seq ([] : List Value).toArray } } : Shared).heap B) ∧ (∀ {B' m' H' s'}, St k.c kc.o kc.env B' m' H' s' → Caps scope m m' → St k.c k.o k.env B m H' s') ∧ (St k.c kc.o kc.env kc.o.ext (capm scope m) H _) ∧ (kc.E = fun _ _ => False) ∧ (kc.env = { scope := relabel scope k.env, locals := ({ s2 with heap := s2.heap.push { cls := .type "list", data := .seq ([] : List Value).toArray } } : Shared).heap.objs.size, globals := k.env.globals, cells := cellsFrom (({ s2 with heap := s2.heap.push { cls := .type "list", data := .seq ([] : List Value).toArray } } : Shared).heap.objs.size + 1) scope.names (clOf scope k.env), qual := k.env.qual, func := none, code := k.env.code, frame := k.env.frame, builtins := k.env.builtins }) := ⟨compWk k B scope { s2 with heap := s2.heap.push { cls := .type "list", data := .seq ([] : List Value).toArray } } hc.kind ⟨m, H, stB⟩, compWk_K, rfl, rfl, (fun st' hcap => stB.leaveComp hc st' k.kind hcap), st4, rfl, rfl⟩
  rw [← hknd]
  refine Mine.hideG fun GG back => ?_
  obtain ⟨kcc, kcA, _, _, _⟩ := id hkc
  refine back ?_
  clear back
  have extIt : kc.o.ext it = none := by
    rw [hko]; unfold hideComp
    rw [if_neg fun q => ?_]
    · exact hBit
    · have := (st2.pl it q.1).2.1
      rw [upd_same] at this; cases this
  have extD : kc.o.ext s2.heap.objs.size = none := by
    rw [hko]; unfold hideComp
    rw [if_neg fun q => fD4 q.1]
    exact fD2
  have keep4 : ∀ b ob, (s2.heap.push { cls := .type "list", data := .seq ([] : List Value).toArray }).get? b = some ob → (pushCells ((s2.heap.push { cls := .type "list", data := .seq ([] : List Value).toArray }).push { cls := .type "dict", data := .dict #[] }) scope.names).get? b = some ob :=
    fun b ob e => pushCells_keeps _ _ b ob (Heap.get?_push_of_some _ e)
  have hitD : s2.heap.objs.size ≠ it := Nat.ne_of_gt hitlt
  refine Mine.hideG fun GG back => ?_
  obtain ⟨T0, vs0, hc0, hd0, _⟩ := wk.cls 0 ob0 hat0
  refine back ?_
  clear back
  have st5 := st4'.hide (a := s2.heap.objs.size) (l := false) (keep4 _ _ hD1) fD1 (fun q => by
    refine Mine.hideG fun GG back => ?_
    obtain ⟨ob, ho, h⟩ := st4'.placeData q
    refine back ?_
    clear back
    rw [keep4 _ _ hD1] at ho; cases ho
    rcases h with ⟨_, _, h⟩ | ⟨_, h⟩ <;> cases h) extD
  have st6 := st5.hide (a := it) (l := false) (keep4 _ _ (Heap.get?_push_of_some _ hitAt)) (by
    cases e : H it with
    | none => rfl
    | some y => have := st2.disB it y e; rw [upd_same] at this; cases this) (fun q => by
    refine Mine.hideG fun GG back => ?_
    obtain ⟨ob, ho, h⟩ := st5.placeData q
    refine back ?_
    clear back
    rw [keep4 _ _ (Heap.get?_push_of_some _ hitAt)] at ho; cases ho
    rcases h with ⟨_, _, h⟩ | ⟨_, h⟩ <;> (rw [hd0] at h; cases h)) (by unfold upd; rw [if_neg (Ne.symm hitD)]; exact extIt)
  have hB1 : ∀ x : Obj × Bool, upd kc.o.ext s2.heap.objs.size x it = none := fun x => by unfold upd; rw [if_neg (Ne.symm hitD)]; exact extIt
  have hB2 : ∀ x : Obj × Bool, upd kc.o.ext it x s2.heap.objs.size = none := fun x => by unfold upd; rw [if_neg hitD]; exact extD
  have loop : ∀ s', (∃ i acc H' ob vs cnt mc, 0 + i = 0 ∧ at_ i ob ∧ I i acc H' ∧ (vs : List Value).map er = acc ∧ acc.length ≤ i ∧ Caps scope m mc ∧ St k.c kc.o kc.env (upd (upd kc.o.ext s2.heap.objs.size ({ cls := .type "list", data := .seq vs.toArray cnt }, false)) it (ob, false)) mc H' s') →
      codeAny (model k.c.prog k.c.w) k.A (.compLoop (.ListComp elt [⟨.Name x px, iter, ifs, 0⟩] scope pos) 0 (.ref it) (.ref s2.heap.objs.size) kc.env) (RR (.ref s2.heap.objs.size) (s2.heap.push { cls := .type "list", data := .seq ([] : List Value).toArray }).objs.size) s' := by
    intro s' hs'
    refine codeAny_compLoop_tests (fun j s' => ∃ i acc H' ob vs cnt mc, j + i = n ∧ at_ i ob ∧ I i acc H' ∧ (vs : List Value).map er = acc ∧ acc.length ≤ i ∧ Caps scope m mc ∧ St k.c kc.o kc.env (upd (upd kc.o.ext s2.heap.objs.size ({ cls := .type "list", data := .seq vs.toArray cnt }, false)) it (ob, false)) mc H' s') ?_ n ?_
    · intro j s' hg251_2
      refine Mine.hideG fun GG back => ?_
      obtain ⟨i, acc, H', ob, vs, cnt, mc, hj, hat, hI, hvs, hal, hcap, st'⟩ := hg251_2
      refine back ?_
      clear back
      by_cases hi : i < n
      · refine wk.item i hi H' s' ob st'.owned (hid_at st') hat (hok _ _ _ hI) _ (fun v h' tk ob'' htk hR hat' ho hsame => ?_) _
        have st7 := St.rehide' (hB1 _) extIt hbit st' hsame.extBut htk ho
        have hsx := hx kc hkc
        have hass := W_bindName (k := kc) (x := x) (v := v) (Q := fun _ m' H2 => m' = setL mc x (er v) ∧ H2 = H') hsx ⟨rfl, rfl⟩ _ _ (by rw [kcc]; exact st7)
        rw [kcc, kcA, hE] at hass
        show wpAny _ _ (do standAt px; bindName kc.env x v) _ _ _
        refine wpAny_bind (wpAny_standAt ?_)
        refine wpAny_mono hass (fun _ s₂ q => ?_) (fun _ _ h => h.elim)
        refine Mine.hideG fun GG back => ?_
        obtain ⟨m', H2, st8, rfl, rfl⟩ := q
        refine back ?_
        clear back
        have hcap' : Caps scope m (setL mc x (er v)) := fun y u e => by
          have hyx : y ≠ x := fun q => by
            subst q
            unfold capm at e
            rw [if_neg (by rw [hcx]; exact Bool.false_ne_true)] at e; cases e
          unfold setL; rw [if_neg hyx]; exact hcap y u e
        have hstep := step kc hkc i (er v) acc (setL mc x (er v)) H2 hi hR hI hcap' setL_same _ _ (by rw [kcc]; exact st8)
        rw [kcc, kcA, hE] at hstep
        refine wpAny_mono hstep (fun b s₃ q => ?_) (fun _ _ h => h.elim)
        refine Mine.hideG fun GG back => ?_
        obtain ⟨m3, H3, st9, rfl, q⟩ := q
        refine back ?_
        clear back
        cases b with
        | false =>
          rw [if_neg Bool.false_ne_true] at q ⊢
          exact ⟨j - 1, by lia, i + 1, acc, H3, ob'', vs, cnt, _, by lia, hat', q, hvs, by lia, hcap', st9⟩
        | true =>
          rw [if_pos rfl] at q ⊢
          have q' := q _ _ (by rw [kcc]; exact st9)
          rw [kcc, kcA, hE] at q'
          refine wpAny_mono q' (fun u s₄ q => ?_) (fun _ _ h => h.elim)
          refine Mine.hideG fun GG back => ?_
          obtain ⟨m4, H4, st10, rfl, q⟩ := q
          refine back ?_
          clear back
          have hl := st10.hid2 hitD
          have hlen : vs.length ≤ sizeLine := by rw [← hvs, List.length_map] at hal; lia
          refine call_meets F.slot_list_append ⟨_, hl, rfl⟩ F.entry_list_append (F.args_list_append_2 _ _) (list_append s2.heap.objs.size vs.toArray cnt u (by simpa using hlen)) ⟨hl, ?_⟩
          obtain ⟨cnt', hup⟩ : ∃ cnt', IsL (s₄.heap.update s2.heap.objs.size (Obj.mapSeq fun x_1 => x_1.push u)) s2.heap.objs.size (vs ++ [u]).toArray cnt' := by
            have := IsL.update hl (fun x_1 => x_1.push u)
            rw [show vs.toArray.push u = (vs ++ [u]).toArray from by simp] at this
            exact ⟨_, this⟩
          have st11 := St.rehide' (hB2 _) extD hbD (by rw [upd_comm hitD] at st10; exact st10) (tk := s₄.toks) (Heap.SameBut.update s₄.heap s2.heap.objs.size (Obj.mapSeq fun x_1 => x_1.push u)).extBut st10.tk hup
          rw [← upd_comm hitD] at st11
          exact ⟨j - 1, by lia, i + 1, acc ++ [er u], H4, ob'', vs ++ [u], cnt', _, by lia, hat', q, by rw [List.map_append, hvs]; rfl, by rw [List.length_append, List.length_singleton]; lia, hcap', st11⟩
      · have hi' : i = n := by lia
        subst hi'
        refine wk.fin H' s' ob st'.owned (hid_at st') hat (hok _ _ _ hI) _ (fun h' hk => ?_) _
        have st7 := St.but' (hB1 _) extIt hbit st' (tk := s'.toks) hk st'.tk
        have stE := leave st7 hcap
        refine Mine.hideG fun GG back => ?_
        obtain ⟨mv, hns, _⟩ := st7.var
        obtain ⟨obC, es, ep, hCo, hCr⟩ := id hns
        refine back ?_
        clear back
        rw [hkl] at hCo hns
        have hCp := st7.pl kc.env.locals List.mem_cons_self
        rw [hkl] at hCp
        have stC := stE.hide (l := false) hCo hCp.1 fC4 fC2
        have hDl : h'.get? s2.heap.objs.size = some { cls := .type "list", data := .seq vs.toArray cnt } := hid_at st7
        have hHD : H' s2.heap.objs.size = none := by
          cases e : H' s2.heap.objs.size with
          | none => rfl
          | some y => have := st7.disB _ y e; rw [upd_same] at this; cases this
        have stF := stC.adopt (a := s2.heap.objs.size) (y := .list acc) ⟨_, hDl, vs, cnt, rfl, hvs⟩ hHD (by
          unfold upd
          rw [if_neg (fun q => by rw [hsz] at q; exact absurd q (Nat.ne_of_lt (Nat.lt_succ_self _)))]
          exact fD2) fD4 hbD
        exact hRR _ _ _ _ _ _ fC2 hbC ⟨mv, hns⟩ stF hHD hal hI
    · refine Mine.hideG fun GG back => ?_
      obtain ⟨i, acc, H', ob, vs, cnt, mc, hj, r⟩ := hs'
      refine back ?_
      clear back
      exact ⟨i, acc, H', ob, vs, cnt, mc, by lia, r⟩
  have start : ∃ i acc H' ob vs cnt mc, 0 + i = 0 ∧ at_ i ob ∧ I i acc H' ∧ (vs : List Value).map er = acc ∧ acc.length ≤ i ∧ Caps scope m mc ∧ St k.c kc.o kc.env (upd (upd kc.o.ext s2.heap.objs.size ({ cls := .type "list", data := .seq vs.toArray cnt }, false)) it (ob, false)) mc H' _ :=
    ⟨0, [], H, ob0, [], 0, capm scope m, rfl, hat0, h0, rfl, Nat.le_refl _, fun _ _ e => e, st6⟩
  exact codeAny_compStart_list (loop _ start) (wk.self ob0 _ _ (hid_at st6) hat0 (loop _ start) _)
structure LC (k : Wk) (elt : Expr) (ifs : List Expr) (scope : Scope) (x : Str) (xv : V) (m : Loc) (H : AHeap) (Q : Addr → AHeap → Prop) (n : Nat) (R : Nat → V → Prop) (ok : AHeap → Prop) (I : Nat → List V → AHeap → Prop) : Prop where
  it : WIter k xv m H n R ok
  start : I 0 [] H
  ok : ∀ i acc H2, I i acc H2 → ok H2
  size : n ≤ sizeLine
  step : ∀ kc, CompK k scope kc → ∀ i v acc mc H2, i < n → R i v → I i acc H2 → Caps scope m mc → mc x = some v → W kc (tests ifs kc.env) mc H2 fun b m3 H3 => m3 = mc ∧ if b = true then WV kc (eval elt kc.env) mc H3 fun u m4 H4 => m4 = mc ∧ I (i + 1) (acc ++ [u]) H4 else I (i + 1) acc H3
  fin : ∀ a acc H2, acc.length ≤ n → I n acc H2 → H2 a = none → Q a (upd H2 a (.list acc))
theorem compAt_of {scope sc : Scope} {cn : List Str} [I : SEnv k sc cn] (h : compOK scope sc cn = true) : CompAt scope k.env := CompAt.of (by rw [I.sc, I.cn]; exact h)
theorem W_ListComp {elt iter : Expr} {x : Str} {px : Pos} {ifs : List Expr} {scope sc : Scope} {cn : List Str} {pos : Pos} {Q : V → Loc → AHeap → Prop} [S : SEnv k sc cn] (hc : compOK scope sc cn = true)
    (hx : storS (relabelS scope sc) (compNames scope) x = true) (hcx : (freeNames scope).contains x = false)
    (h : WV k (eval iter k.env) m H fun xv m1 H1 => ∃ n R ok I, LC k elt ifs scope x xv m1 H1 (fun a => Q (.ref a) m1) n R ok I)
    (hs : ∀ x, foldedSetIterable iter k.env x = pure x := by intro _; rfl) :
    WV k (eval (.ListComp elt [⟨.Name x px, iter, ifs, 0⟩] scope pos) k.env) m H Q := fun B s st => by
  have hcc := compAt_of (k := k) hc
  rw [eval_ListComp]
  refine wpAny_comprehension_free (use := none) rfl hs hcc.clos hcc.kind (fun y hy hl => lookup_of_mem_nodup hcc.nodup (by rw [← hl]; exact hy)) (wpAny_mono (h B s st) (fun xv s1 hx1 => ?_) fun _ _ y => y)
  refine Mine.hideG fun GG back => ?_
  obtain ⟨m1, H1, st1, n, R, ok, I, L⟩ := hx1
  refine back ?_
  clear back
  refine comp_list (RR := fun acc C => compPost (model k.c.prog k.c.w) k.A k.E none _ acc C) (E := k.E) hcc I L.it L.start L.ok L.size (fun kc hkc => ?_) L.step hcx st1 fun D C obC acc H' s' hBC hbC hns st' hD hal hI => ?_
  · haveI := hkc.senv (sc := sc) (cn := cn)
    exact stor hx
  · refine Mine.hideG fun GG back => ?_
    obtain ⟨mC, hns⟩ := hns
    refine back ?_
    clear back
    refine ⟨mC, hns, fun h' hsb => ⟨m1, _, St.but' hBC ?_ hbC st' (tk := s'.toks) hsb.extBut st'.tk, L.fin D acc H' hal hI hD⟩⟩
    cases e : k.o.ext C with
    | none => rfl
    | some y => have := st1.frames.2 C y e; rw [hBC] at this; cases this
theorem W_Assign_ListComp {elt iter : Expr} {x y : Str} {px py : Pos} {ifs : List Expr} {scope sc : Scope} {cn : List Str} {pos spos : Pos} {Q : Flow → Loc → AHeap → Prop} [S : SEnv k sc cn] (hc : compOK scope sc cn = true)
    (hx : storS (relabelS scope sc) (compNames scope) x = true) (hcx : (freeNames scope).contains x = false) (hy : sc.names.lookup y = some .local) (hl : (py.line == pos.line) = true) (hsh : (scope.names.any fun p => p.1 == y && (p.2 == .local || p.2 == .cell)) = false)
    (h : WV k (eval iter k.env) m H fun xv m1 H1 => ∃ n R ok I, LC k elt ifs scope x xv m1 H1 (fun a H' => Q .next (setL m1 y (.ref a)) H') n R ok I)
    (hs : ∀ x, foldedSetIterable iter k.env x = pure x := by intro _; rfl) :
    W k (exec (.Assign [.Name y py] (.ListComp elt [⟨.Name x px, iter, ifs, 0⟩] scope pos) spos) k.env) m H Q := fun B s st => by
  have hcc := compAt_of (k := k) hc
  have hkind : k.env.kindOf y = some .local := kindS hy
  have hsw : swapsWith (.ListComp elt [⟨.Name x px, iter, ifs, 0⟩] scope pos) (some (.Name y py)) spos.line k.env = pure true := by
    have hb : (k.env.blockKind == .function) = true := by unfold Env.blockKind; rw [k.kind]; rfl
    show (pure (k.env.blockKind == .function && k.env.kindOf y == some .local && py.line == pos.line && !(scope.names.any fun p => p.1 == y && (p.2 == .local || p.2 == .cell))) : Sem Bool) = pure true
    rw [hb, hkind, hl, hsh]; rfl
  rw [exec_Assign_Name_used _ _ _ _ hsw]
  refine wpAny_bind (wpAny_standAt (wpAny_bind ?_))
  show wpAny _ k.A (do let _ ← comprehension (.ListComp elt [⟨.Name x px, iter, ifs, 0⟩] scope pos) scope k.env _ (newList []) false (eval iter k.env) (some (assign (.Name y py) k.env))) _ _ s
  refine wpAny_bind (wpAny_mono (wpAny_comprehension_free (use := some (assign (.Name y py) k.env)) (Q := fun _ s' => ∃ m' H', St k.c k.o k.env B m' H' s' ∧ Q .next m' H') rfl hs hcc.clos hcc.kind (fun y hy hl => lookup_of_mem_nodup hcc.nodup (by rw [← hl]; exact hy))
    (wpAny_mono (h B s st) (fun xv s1 ⟨m1, H1, st1, n, R, ok, I, L⟩ => ?_) fun _ _ y => y)) (fun _ s' hq => wpAny_pure (wpAny_pure hq)) fun _ _ e => e)
  refine comp_list (RR := fun acc C => compPost (model k.c.prog k.c.w) k.A k.E (some (assign (.Name y py) k.env)) _ acc C) (E := k.E) hcc I L.it L.start L.ok L.size (fun kc hkc => ?_) L.step hcx st1 fun D C obC acc H' s' hBC hbC hns st' hD hal hI => ?_
  · haveI := hkc.senv (sc := sc) (cn := cn)
    exact stor hx
  · have hext : k.o.ext C = none := by
      cases e : k.o.ext C with
      | none => rfl
      | some y => have := st1.frames.2 C y e; rw [hBC] at this; cases this
    have has := WAs_Name (k := k) (x := y) (p := py) (v := .ref D) (m := m1) (H := upd H' D (.list acc)) (Q := fun m' H'' => m' = setL m1 y (.ref D) ∧ H'' = upd H' D (.list acc)) (by unfold storable; rw [hkind]) ⟨rfl, rfl⟩ (.ref D) rfl _ _ st'
    show wpAny _ k.A (assign (.Name y py) k.env (.ref D)) _ _ _
    refine wpAny_mono has (fun _ s'' q => ?_) fun _ _ e => e
    refine Mine.hideG fun GG back => ?_
    obtain ⟨m', H'', hq351⟩ := q
    refine back ?_
    clear back
    have st'' := hq351.1
    obtain rfl := hq351.2.1
    obtain rfl := hq351.2.2
    clear hq351
    refine Mine.hideG fun GG back => ?_
    obtain ⟨mC, obN, es, ep, hq352⟩ := hns
    refine back ?_
    clear back
    have hCo := hq352.1
    have hCd := hq352.2
    clear hq352
    have e1 := hid_at st'
    have e2 := hid_at st''
    rw [hCo] at e1; cases e1
    refine ⟨mC, ⟨_, es, ep, e2, hCd⟩, fun h' hsb => ⟨_, _, St.but' hBC hext hbC st'' (tk := s''.toks) hsb.extBut st''.tk, L.fin D acc H' hal hI hD⟩⟩
end
end Mine
namespace Mine
section
variable {k : Wk} {m : Loc} {H : AHeap}
end
end Mine
namespace Mine
theorem call_excM {prog : Program} {w : World} {A : Around} {E : Value → Shared → Prop} {s : Shared} {X N I : String} (hc : ExcClass X N I) {rest : List Value} {Q : Value → Shared → Prop}
    (h : ∀ h' e t, (∀ b o, s.heap.get? b = some o → h'.get? b = some o) → s.heap.objs.size ≤ e → s.heap.objs.size ≤ t → t ≠ e → (∃ ob, h'.get? e = some ob ∧ ob.cls = .type X ∧ ob.data = .fields #[.ref t, .none, .none, .none, .bool false, .none]) →
      h'.get? t = some { cls := .type "tuple", data := .seq rest.toArray } → Q (.ref e) { s with heap := h' }) (hrest : rest.length ≤ sizeLine) :
    wpAny (model prog w) A (call (.type X) rest) Q E s := by
  refine wpAny_call (codeAny_of_tree ?_)
  show wpAny _ _ (callAny (.type X) ⟨rest, []⟩) _ _ s
  simp only [callAny]
  refine wpAny_pure ⟨Code.quiet_builtin _ (by decide +kernel), codeAny_builtin entry_type_call ?_⟩
  rw [Around.under_plain (weight_type_call X _ _) (by first | rfl | kernel_rfl | decide +kernel)]
  unfold Builtin.«type.__call__»
  dsimp only
  rw [if_neg (by rw [hc.notType]; exact Bool.false_ne_true), if_neg (by rw [hc.canNew]; exact Bool.false_ne_true)]
  obtain ⟨l, hl, hle⟩ := hc.mro
  refine wpAny_bind (wpAny_of_eq (hc.typeCall rest) (wpAny_bind (wpAny_of_eq hl ?_)))
  rw [if_neg (by rw [hle]; exact Bool.false_ne_true)]
  refine wpAny_bind (wpAny_of_eq hc.madeBy ?_)
  dsimp only
  refine wpAny_bind (wpAny_pure (wpAny_bind (wpAny_holding (new_exc hc ?_ hrest))))
  refine wpAny_bind (wpAny_isInstance (T := X) ⟨_, Heap.get?_push_size _ rfl, rfl⟩ hc.self ?_)
  simp only [Bool.not_true, Bool.false_eq_true, if_false]
  refine wpAny_bind (wpAny_holding (wpAny_callSpecial?_slot (name := Str.ofString "__init__") (T := X) ⟨_, Heap.get?_push_size _ rfl, rfl⟩ hc.init
    (init_exc hc (Heap.get?_push_size _ rfl) rfl rfl rfl ?_ hrest)))
  dsimp only
  rw [if_neg (by simp)]
  generalize hh1 : (s.heap.push { cls := .type "tuple", data := .seq rest.toArray }) = h1
  have z1 : h1.objs.size = s.heap.objs.size + 1 := by rw [← hh1]; exact Heap.size_push ..
  generalize hh2 : h1.push { cls := .type X, data := .fields #[.ref s.heap.objs.size, .none, .none, .none, .bool false, .none] } = h2
  have z2 : h2.objs.size = h1.objs.size + 1 := by rw [← hh2]; exact Heap.size_push ..
  have k1 : ∀ b o, s.heap.get? b = some o → h1.get? b = some o := fun b o e => by rw [← hh1]; exact Heap.get?_push_of_some _ e
  have k2 : ∀ b o, h1.get? b = some o → h2.get? b = some o := fun b o e => by rw [← hh2]; exact Heap.get?_push_of_some _ e
  have e2 : h2.get? h1.objs.size = some { cls := .type X, data := .fields #[.ref s.heap.objs.size, .none, .none, .none, .bool false, .none] } := by rw [← hh2]; exact Heap.get?_push_size _ rfl
  refine wpAny_pure (h _ _ h2.objs.size (fun b o hb => ?_) (by rw [z1]; exact Nat.le_succ _) (by rw [z2, z1]; lia) (by rw [z2]; exact Nat.succ_ne_self _)
    ⟨_, Heap.get?_update_self _ (Heap.get?_push_of_some _ e2) (Obj.isFreed_of_fields (Obj.data_mapFields rfl _)), Obj.cls_mapFields _ _, by rw [Obj.data_mapFields rfl]; rfl⟩ ?_)
  · rw [Heap.get?_update_other _ _ (Nat.ne_of_gt (Nat.lt_of_lt_of_le (Heap.lt_size hb) (by rw [z1]; exact Nat.le_succ _)))]
    exact Heap.get?_push_of_some _ (k2 b o (k1 b o hb))
  · rw [Heap.get?_update_other _ _ (by rw [z2]; exact Nat.ne_of_lt (Nat.lt_succ_self _))]
    exact Heap.get?_push_size _ rfl
section
variable {k : Wk} {m : Loc} {H : AHeap}
theorem W_RaiseCall {x : Str} {X N I : String} {np cpos pos : Pos} {args : List Expr} {Q : Flow → Loc → AHeap → Prop} (hc : ExcClass X N I) (hh : k.A.handled = none) (here : k.here) (hg : Gl k.c x (.type X)) (hx : k.env.kindOf x = some .globalImplicit)
    (h : WItems k args m H fun vs m1 H1 => vs.length ≤ sizeLine ∧ k.X X (some vs) m1 H1)
    (hp : (starEach args k.env).any (·.1) = false := by rfl) (hp' : (backTo cpos (starEach args k.env)).any (·.1) = false := by rfl) (hd : (x == ("__debug__" : Str)) = false := by decide) :
    W k (exec (.Raise (some (.Call (.Name x np) args [] cpos)) none pos) k.env) m H Q := fun B s st =>
  Raise_new hh (wpAny_Call_NameR (wpAny_mono (W_NameG (Q := fun v m' H' => v = .ty X ∧ m' = m ∧ H' = H) hg hx ⟨rfl, rfl, rfl⟩ hd B s st) (fun f s1 hx1 => by
    refine Mine.hideG fun GG back => ?_
    obtain ⟨m1, H1, st1, e1, e2, e3⟩ := hx1
    refine back ?_
    clear back
    subst e2; subst e3
    obtain rfl := er_ty e1
    refine PySem.callWith_type hp' (wpAny_mono (evalArgs_of (f := .type X) (pos := cpos) hp h B s1 st1) (fun a s2 ⟨m2, H2, st2, e, hz, q⟩ => ?_) fun _ _ x => x)
    rw [e]
    refine call_excM hc (fun h' ea t hk he ht hne ⟨ob, ho, hoc, hod⟩ htt => ?_) (by simpa using hz)
    obtain ⟨st3, hm⟩ := st2.making0 (tk := s2.toks) k.kind (cls := X) (xs := some (a.pos.map er)) hk (st2.none_at he) ho hoc hod (fun l q => ⟨t, a.pos, 0, rfl, Option.some.inj q, htt, ht, he, hne⟩) st2.tk
    exact ⟨ea, ob, _, X, N, I, hc, rfl, ho, hoc, hod, rfl, k.made here _ _ _ _ _ _ _ st3 hm q⟩) fun _ _ x => x))
theorem WSub_listOut {value slice : Expr} {l : Addr} {xs : List V} {i : Int} {Q : V → Loc → AHeap → Prop} (hh : k.A.handled = none) (here : k.here) (hl : H l = some (.list xs)) (h0 : -(2 ^ 63) ≤ i) (h1 : i < 2 ^ 63) (ho : i < -(xs.length : Int) ∨ (xs.length : Int) ≤ i) (h : k.X "IndexError" none m H)
    (hs : ∀ o i, subscripted slice false o i = operate [o, i] (getItem o i) := by intro _ _; with_unfolding_all rfl) : WSub k value slice (.ref l) (.int i) m H Q := fun x y hx hy B s st => by
  obtain rfl := er_ref hx
  obtain ⟨t, rfl⟩ := er_int hy
  obtain ⟨vs, n, hl', rfl⟩ := st.listAt hl
  rw [List.length_map] at ho
  refine tail_any hl'.isList.typeIs slot_list_getitem.lookup (wpAny_mono (wpAny_toks_of st.tk (wpAny_getItem_list_out (Q := fun _ _ => False) (E := fun e s' => ∃ h' tk ea, e = .ref ea ∧ s' = { s with heap := h', toks := tk } ∧ Heap.NewExc s.heap h' ea "IndexError") hh hl'.isList (by simpa using ho) h0 h1 fun h' tk e hx => ⟨h', tk, e, rfl, rfl, hx⟩)) (fun _ _ q => q.2.elim) fun e s' q => ?_) (hs _ _)
  obtain ⟨htk, h', tk, ea, rfl, rfl, hx⟩ := q
  obtain ⟨st3, hm⟩ := st.makingNew k.kind hx htk
  exact k.made here _ _ _ _ _ _ _ st3 hm h
end
end Mine
namespace Mine
structure TryK (k : Wk) (X : String → Option (List V) → Loc → AHeap → Prop) (k' : Wk) : Prop where
  c : k'.c = k.c
  A : k'.A = k.A
  env : k'.env = k.env
  fs : k'.o.fs = k.o.fs
  X : k'.X = X
theorem TryK.senv {k k' : Wk} {X : String → Option (List V) → Loc → AHeap → Prop} {sc : Scope} {cn : List Str} (h : TryK k X k') [I : SEnv k sc cn] : SEnv k' sc cn := ⟨by rw [h.env]; exact I.sc, by rw [h.env]; exact I.cn⟩
structure MarkK (k : Wk) (e : Addr) (kh : Wk) : Prop where
  c : kh.c = k.c
  A : kh.A = k.A.mark (some (.ref e))
  env : kh.env = k.env
  o : kh.o = k.o
theorem MarkK.senv {k k' : Wk} {e : Addr} {sc : Scope} {cn : List Str} (h : MarkK k e k') [I : SEnv k sc cn] : SEnv k' sc cn := ⟨by rw [h.env]; exact I.sc, by rw [h.env]; exact I.cn⟩
noncomputable def markWk (k : Wk) (e : Addr) : Wk where
  c := k.c
  A := k.A.mark (some (.ref e))
  o := k.o
  env := k.env
  E := fun _ _ => False
  X := fun _ _ _ _ => False
  here := False
  pass := PassesOwn.never
  fly := fun _ _ _ _ _ _ _ _ _ h => h
  made := fun h => h.elim
  kind := k.kind
  glob := k.glob
  blt := k.blt
  frames := k.frames
  fat := k.fat
noncomputable def WH (k : Wk) (hs : List ExceptHandler) (e : Addr) (cls : String) (xs : Option (List V)) (m : Loc) (H : AHeap) (Q : Flow → Loc → AHeap → Prop) : Prop :=
  ∀ B s, St k.c k.o k.env B m H s → InFl k.c k.o k.env B H e cls xs s.heap → wpAny (model k.c.prog k.c.w) k.A (handleBy (.ref e) k.env hs) (fun f s' => ∃ m' H', St k.c k.o k.env B m' H' s' ∧ Q f m' H') k.E s
section
variable {c : Cx} {o : Out} {env : Env} {B : BMap} {m : Loc} {H : AHeap} {s : Shared}
theorem St.shrink {m₀ : Loc} {H₀ : AHeap} {s₀ : Shared} (st₀ : St c o env B m₀ H₀ s₀) {B' : BMap} (st : St c ⟨o.fs, B⟩ env B' m H s) : St c o env B m H s := by
  have ex : ∀ a x, B a = some x → B' a = some x := st.frames.2
  have r : ∀ b, B' b = none → B b = none := fun b e => by
    cases h : B b with
    | none => rfl
    | some y => rw [ex b y h] at e; cases e
  exact ⟨st.base, fun b ob l e => st.keep b ob l (ex b _ e), st.own, fun b y e => r b (st.disB b y e), st.disBase, fun b z => ⟨(st.pl b z).1, r b (st.pl b z).2.1, (st.pl b z).2.2⟩, st.nodup, st.cell, st.var, st₀.frames, st.gens, st.os, st.tk⟩
theorem Away.shrink {B' : BMap} (ex : ∀ a x, B a = some x → B' a = some x) {a : Addr} (h : Away env B' H a) : Away env B H a := by
  have hq54 := h
  have h1 := hq54.1
  have h2 := hq54.2.1
  have h3 := hq54.2.2
  clear hq54
  refine ⟨h1, ?_, h3⟩
  cases e : B a with
  | none => rfl
  | some y => rw [ex a y e] at h2; cases h2
theorem InFl.shrink {B' : BMap} (ex : ∀ a x, B a = some x → B' a = some x) {e : Addr} {cls : String} {xs : Option (List V)} {h : Heap} (i : InFl c ⟨o.fs, B⟩ env B' H e cls xs h) : InFl c o env B H e cls xs h := by
  refine Mine.hideG fun GG back => ?_
  obtain ⟨base', a0, hO, hfl, ha⟩ := i
  refine back ?_
  clear back
  refine ⟨base', a0, ⟨hO.cb, fun b q => hO.own b ?_⟩, hfl, fun l q => ?_⟩
  · rcases q with q | q | q
    · exact .inl q
    · refine Mine.hideG fun GG back => ?_
      obtain ⟨y, hy⟩ := Option.isSome_iff_exists.mp q
      refine back ?_
      clear back
      exact .inr (.inl (by rw [ex b y hy]; rfl))
    · exact .inr (.inr q)
  · refine Mine.hideG fun GG back => ?_
    obtain ⟨t, vs, n, h1, h2, h3, h4, h5, h6, h7⟩ := ha l q
    refine back ?_
    clear back
    exact ⟨t, vs, n, h1, h2, h3, h4, h5, h6.shrink ex, h7.shrink ex⟩
noncomputable def clr (m : Loc) (x : Str) : Loc := fun y => if y = x then none else m y
theorem St.clr (st : St c o env B m H s) {x : Str} {h' : Heap} {tk : Nat} (hk : env.kindOf x = some .local)
    (hq : ∀ mv, s.heap.Ns env.locals mv → ∃ v, h'.Ns env.locals (fun y => if y = x then v else mv y)) (hs : Heap.SameBut env.locals s.heap h') (ht : 1 ≤ tk) : St c o env B (Mine.clr m x) H { s with heap := h', toks := tk } := by
  have hp := st.pl env.locals List.mem_cons_self
  have kp : ∀ b ob, b ≠ env.locals → s.heap.get? b = some ob → h'.get? b = some ob := fun b ob ne e => (hs.2 b ne).trans e
  refine ⟨fun b ob e => kp b ob (fun q => ?_) (st.base b ob e), fun b ob l e => ?_, fun b z e => ?_, st.disB, st.disBase, st.pl, st.nodup, fun b e => ?_, ?_, st.frames, st.gens, st.os, ht⟩
  · rw [q] at e; exact absurd (Heap.lt_size e) (Nat.not_lt.mpr hp.2.2)
  · refine Mine.hideG fun GG back => ?_
    obtain ⟨sl, hq82⟩ := st.keep b ob l e
    refine back ?_
    clear back
    have e1 := hq82.1
    have e2 := hq82.2
    clear hq82
    exact ⟨sl, kp b _ (fun q => by rw [q, hp.2.1] at e; cases e) e1, e2⟩
  · obtain ⟨ob, e1, e2⟩ := st.own b z e; exact ⟨ob, kp b ob (fun q => by rw [q, hp.1] at e; cases e) e1, e2⟩
  · refine Mine.hideG fun GG back => ?_
    obtain ⟨u, ob, hq85⟩ := st.cell b e
    refine back ?_
    clear back
    have e1 := hq85.1
    have e2 := hq85.2
    clear hq85
    exact ⟨u, ob, kp b ob (fun q => (List.nodup_cons.mp st.nodup).1 (q ▸ e)) e1, e2⟩
  · refine Mine.hideG fun GG back => ?_
    obtain ⟨mv, hq87⟩ := st.var
    refine back ?_
    clear back
    have hn := hq87.1
    have hv := hq87.2
    clear hq87
    refine Mine.hideG fun GG back => ?_
    obtain ⟨v, hq⟩ := hq mv hn
    refine back ?_
    clear back
    refine ⟨_, hq, fun y u e => ?_⟩
    unfold Mine.clr at e
    by_cases hy : y = x
    · rw [if_pos hy] at e; cases e
    · rw [if_neg hy] at e
      have q := hv y u e
      have cellK : ∀ a z, env.cells.lookup y = some a → s.heap.IsCell a z → h'.IsCell a z := fun a z e ⟨ob, ho, hd⟩ =>
        ⟨ob, kp a ob (fun r => (List.nodup_cons.mp st.nodup).1 (r ▸ List.mem_map_of_mem (f := (·.2)) (PySem.mem_of_lookup e))) ho, hd⟩
      split at q
      · obtain ⟨z, e1, e2⟩ := q; exact ⟨z, by rw [if_neg hy]; exact e1, e2⟩
      · obtain ⟨a, z, e1, e2, e3⟩ := q; exact ⟨a, z, e1, cellK a _ e1 e2, e3⟩
      · obtain ⟨a, z, e1, e2, e3⟩ := q; exact ⟨a, z, e1, cellK a _ e1 e2, e3⟩
      · exact q
end
section
variable {k : Wk} {m : Loc} {H : AHeap}
theorem W_Try {body orelse : List Stmt} {h₀ : ExceptHandler} {hs : List ExceptHandler} {pos : Pos} {Q : Flow → Loc → AHeap → Prop} (X : String → Option (List V) → Loc → AHeap → Prop) (hfun : k.env.frame = some k.env.locals)
    (hb : ∀ k', TryK k X k' → W k' (execs body k'.env) m H fun f m1 H1 => match f with | .next => W k (execs orelse k.env) m1 H1 Q | f => Q f m1 H1)
    (hx : ∀ e cls xs m1 H1, X cls xs m1 H1 → WH k (h₀ :: hs) e cls xs m1 H1 Q) : W k (exec (.Try body (h₀ :: hs) orelse [] pos) k.env) m H Q := fun B s st => by
  have hout : outerOf k.env k.o.fs = k.env :: k.o.fs := if_pos hfun
  have hA : k.A.frames = some (k.env :: k.o.fs) := by rw [k.frames, hout]
  let k' : Wk := {
    c := k.c, A := k.A, o := ⟨k.o.fs, B⟩, env := k.env
    E := fun e s₁ => wpAny (model k.c.prog k.c.w) k.A (noteFrame e k.env) (fun _ s₂ => wpAny (model k.c.prog k.c.w) k.A (setFlight e none) (fun _ s₃ => wpAny (model k.c.prog k.c.w) k.A (handleBy e k.env (h₀ :: hs)) (fun f s' => ∃ m' H', St k.c k.o k.env B m' H' s' ∧ Q f m' H') k.E s₃) k.E s₂) k.E s₁
    X := X, here := False
    pass := PassesOwn.looking
    fly := fun B' m1 H1 s1 e cls xs st1 i hX => by
      refine Mine.hideG fun GG back => ?_
      obtain ⟨base', a0, hO, hfl, ha⟩ := i
      refine back ?_
      clear back
      have hfl0 := hfl
      rw [show outerOf k.env (Out.fs ⟨k.o.fs, B⟩) = k.env :: k.o.fs from hout] at hfl
      refine wpAny_looks_onW hA hfun hfl fun h2 hh2 hu2 => ?_
      have stS := st.shrink st1
      have iS : InFl k.c k.o k.env B H1 e cls xs s1.heap := InFl.shrink st1.frames.2 ⟨base', a0, hO, hfl0, ha⟩
      refine Mine.hideG fun GG back => ?_
      obtain ⟨base2, a02, hO2, hfl2, ha2⟩ := id iS
      refine back ?_
      clear back
      have hO' : Ours k.c k.o k.env B H1 base' := ⟨hO.cb, fun b q => hO.own b (by
        rcases q with q | q | q
        · exact .inl q
        · refine Mine.hideG fun GG back => ?_
          obtain ⟨y, hy⟩ := Option.isSome_iff_exists.mp q
          refine back ?_
          clear back
          exact .inr (.inl (by rw [st1.frames.2 b y hy]; rfl))
        · exact .inr (.inr q))⟩
      have st2 := stS.flown hO' hfl.1 hh2.1 hu2 (tk := s1.toks) stS.tk
      refine wpAny_landsW hh2 fun h3 hh3 hu3 => ?_
      have st3 := st2.flown hO' hh2.1 hh3.1 hu3 (tk := s1.toks) stS.tk
      refine hx e cls xs m1 H1 hX B _ st3 ⟨base', a0, hO', by rw [hout]; exact hh3, fun l q => ?_⟩
      refine Mine.hideG fun GG back => ?_
      obtain ⟨t, vs, n, g1, g2, g3, g4, g5, g6, g7⟩ := ha l q
      refine back ?_
      clear back
      exact ⟨t, vs, n, g1, g2, g3, g4, g5, g6.shrink st1.frames.2, g7.shrink st1.frames.2⟩
    made := fun h => h.elim
    kind := k.kind, glob := k.glob, blt := k.blt, frames := k.frames, fat := .inl hfun }
  have stB : St k.c ⟨k.o.fs, B⟩ k.env B m H s := ⟨st.base, st.keep, st.own, st.disB, st.disBase, st.pl, st.nodup, st.cell, st.var, ⟨st.frames.1, fun _ _ e => e⟩, st.gens, st.os, st.tk⟩
  refine wpAny_Try_except (wpAny_mono (hb k' ⟨rfl, rfl, rfl, rfl, rfl⟩ B s stB) (fun f s1 ⟨m1, H1, st1, q⟩ => ?_) fun e s1 he => he)
  have st1' := st.shrink st1
  cases f with
  | next => exact q B s1 st1'
  | brk => exact ⟨m1, H1, st1', q⟩
  | cont => exact ⟨m1, H1, st1', q⟩
  | ret v => exact ⟨m1, H1, st1', q⟩
theorem meta_plain {T X N I : String} (hc : ExcClass T N I) : isSubtype (.type ((Manifest.find? T).elim "type" fun x => x.metatype)) (.type "tuple") = pure false := by
  rw [eq_of_beq hc.metaType]
  rw [isSubtype_type]; kernel_rfl
theorem WH_hitAs {x n : Str} {T N I : String} {p pos : Pos} {b₀ : Stmt} {suite : List Stmt} {rest : List ExceptHandler} {e : Addr} {cls : String} {l : List V} {Q : Flow → Loc → AHeap → Prop}
    (hc : ExcClass T N I) (hg : Gl k.c x (.type T)) (hx : k.env.kindOf x = some .globalImplicit) (hn : k.env.kindOf n = some .local) (hsub : isSubtype (.type cls) (.type T) = pure true) (hd : (x == ("__debug__" : Str)) = false) (hcls : cls ≠ "tuple")
    (h : ∀ kh t, MarkK k e kh → H e = none → H t = none → t ≠ e → W kh (execs (b₀ :: suite) kh.env) (setL m n (.ref e)) (upd (upd H t (.tup l)) e (.exc cls (some t))) fun f m' H' => Q f (clr m' n) H') :
    WH k (.ExceptHandler (some (.Name x p)) (some n) (b₀ :: suite) pos :: rest) e cls (some l) m H Q := fun B s st i => by
  refine Mine.hideG fun GG back => ?_
  obtain ⟨base', a0, hO, hfl, ha⟩ := i
  obtain ⟨ob, ho, hcl⟩ := hfl.there
  refine back ?_
  clear back
  have key : wpAny (model k.c.prog k.c.w) (k.A.mark (some (.ref e))) (eval (.Name x p) k.env) (fun c s₁ => c = .type T ∧ s₁.TypeIs (.ref e) cls ∧ s₁ = s) (fun _ _ => False) s := by
    have hg' : s.heap.Ns k.env.globals k.c.mg := by rw [k.glob]; exact k.c.top.g.keeps st.base
    have hb' : s.heap.Ns k.env.builtins k.c.mb := by rw [k.blt]; exact k.c.top.b.keeps st.base
    rcases hg with e1 | ⟨e1, e2⟩
    · exact Name_function_global k.kind hx (loadGlobal_global (env := k.env) hg' e1 ⟨rfl, ⟨ob, ho, hcl⟩, rfl⟩) hd
    · exact Name_function_global k.kind hx (loadGlobal_builtin (env := k.env) hg' e1 hb' e2 ⟨rfl, ⟨ob, ho, hcl⟩, rfl⟩) hd
  refine wpAny_handleBy_builtin_as (b := true) hc.base (meta_plain (X := T) hc) hsub (wpAny_mono key (fun c s₁ q => ?_) fun _ _ q => q.elim)
  refine Mine.hideG fun GG back => ?_
  obtain ⟨rfl, hT, rfl⟩ := q
  refine back ?_
  clear back
  refine ⟨rfl, hT, ?_⟩
  rw [if_pos rfl]
  refine lands_againW hfl fun h3 hh3 hu3 => ?_
  have st3 := st.flown hO hfl.1 hh3.1 hu3 (tk := s₁.toks) st.tk
  refine Mine.hideG fun GG back => ?_
  obtain ⟨t, vs, cnt, rfl, hvs, ht, hbt, hbe, awT, awE⟩ := ha l rfl
  have ht3 := hh3.1 t _ ht
  obtain ⟨oe, evs, he3, hec, hed, he0⟩ := hh3.first
  refine back ?_
  clear back
  have hte : t ≠ e := fun q => by
    rw [q] at ht
    rw [hfl.2.1] at ht; cases ht
  have st4 := st3.adopt (a := t) (y := .tup l) ⟨_, ht3, vs, cnt, rfl, hvs⟩ awT.1 awT.2.1 awT.2.2 hbt
  have st5 := st4.adopt (a := e) (y := .exc cls (some t)) ⟨oe, he3, hcls, hec, evs, hed, fun t' q => by cases q; exact he0⟩ (by unfold upd; rw [if_neg (Ne.symm hte)]; exact awE.1) awE.2.1 awE.2.2 hbe
  have hst := W_store (k := markWk k e) (x := n) (v := .ref e) (Q := fun _ m' H' => m' = setL m n (.ref e) ∧ H' = upd (upd H t (.tup l)) e (.exc cls (some t))) (by unfold storable; rw [show (markWk k e).env.kindOf n = some .local from hn]) ⟨rfl, rfl⟩ B _ st5
  refine wpAny_mono hst (fun _ s2 q => ?_) fun _ _ q => q.elim
  refine Mine.hideG fun GG back => ?_
  obtain ⟨m', H', st6, rfl, rfl⟩ := q
  refine back ?_
  clear back
  refine wpAny_mono (h (markWk k e) t ⟨rfl, rfl, rfl, rfl⟩ awE.1 awT.1 hte B _ st6) (fun f s7 q => ?_) fun _ _ q => q.elim
  refine Mine.hideG fun GG back => ?_
  obtain ⟨m7, H7, st7', q⟩ := q
  have st7 : St k.c k.o k.env B m7 H7 s7 := st7'
  obtain ⟨mv, hns, hv⟩ := st7.var
  refine back ?_
  clear back
  refine wpAny_nameGoes_keeps hn hns (by rw [k.kind]; rfl) fun h8 v hns8 hs8 => ?_
  refine ⟨clr m7 n, H7, St.clr (tk := s7.toks + 1) st7 hn (fun mv' hmv' => ?_) hs8 (Nat.le_succ_of_le st7.tk), q⟩
  have e : mv' = mv := by
    funext y
    refine Mine.hideG fun GG back => ?_
    obtain ⟨ob', es', ep', ho', hd', _, hf'⟩ := hmv'
    obtain ⟨ob2, es2, ep2, ho2, hd2, _, hf2⟩ := hns
    refine back ?_
    clear back
    rw [ho2] at ho'; cases ho'
    rw [hd2] at hd'; cases hd'
    rw [← hf2, ← hf']
  rw [e]; exact ⟨v, hns8⟩
end
end Mine
namespace Mine
noncomputable def allOf (h : Heap) (skip : Addr → Bool) : List (Addr × Obj) := (List.range h.objs.size).filterMap fun a => if skip a then none else (h.get? a).map fun o => (a, o)
theorem mem_allOf {h : Heap} {skip : Addr → Bool} {p : Addr × Obj} : p ∈ allOf h skip ↔ skip p.1 = false ∧ h.get? p.1 = some p.2 := by
  unfold allOf
  rw [List.mem_filterMap]
  constructor
  · intro hg13_0
    refine Mine.hideG fun GG back => ?_
    obtain ⟨a, _, e⟩ := hg13_0
    refine back ?_
    clear back
    split at e
    · cases e
    · rename_i hs
      refine Mine.hideG fun GG back => ?_
      obtain ⟨o, ho, rfl⟩ := Option.map_eq_some_iff.mp e
      refine back ?_
      clear back
      exact ⟨(Bool.not_eq_true _).mp hs, ho⟩
  · intro hg19_0
    refine Mine.hideG fun GG back => ?_
    obtain ⟨h1, h2⟩ := hg19_0
    refine back ?_
    clear back
    exact ⟨p.1, List.mem_range.mpr (Heap.lt_size h2), by rw [if_neg (by rw [h1]; exact Bool.false_ne_true), h2]; rfl⟩
section
variable {c : Cx} {o : Out} {env : Env} {B : BMap} {m : Loc} {H : AHeap} {s : Shared}
noncomputable def skipOf (c : Cx) (L : Addr) (as : List Addr) (b : Addr) : Bool := (b == L) || as.contains b || (c.base.get? b).isSome
theorem news_all (st : St c o env B m H s) (as : List Addr) : News c.base env.locals s.heap (allOf s.heap (skipOf c env.locals as)) := fun p hp => by
  refine Mine.hideG fun GG back => ?_
  obtain ⟨h1, h2⟩ := mem_allOf.mp hp
  refine back ?_
  clear back
  unfold skipOf at h1
  rw [Bool.or_eq_false_iff, Bool.or_eq_false_iff] at h1
  exact ⟨h2, fun e => by rw [e] at h1; simp at h1, by
    cases q : c.base.get? p.1 with
    | none => rfl
    | some x => rw [q] at h1; exact absurd h1.2 (by simp)⟩
theorem kept_all {F : Fr c.base env.locals s.heap m₀} (st : St c o env B m H s) {as : List Addr} {h' : Heap} {mv : Str → Option Value} (F' : Fr c.base env.locals h' mv) {news : List (Addr × Obj)} (N' : News c.base env.locals h' news)
    (hsub : ∀ p ∈ allOf s.heap (skipOf c env.locals as), p ∈ news) : ∀ b ob, b ∉ as → b ≠ env.locals → s.heap.get? b = some ob → h'.get? b = some ob := fun b ob hb hL e => by
  cases q : c.base.get? b with
  | some x =>
    have := st.base b x q
    rw [e] at this; cases this
    exact F'.keep b ob q
  | none =>
    refine (N' (b, ob) (hsub _ (mem_allOf.mpr ⟨?_, e⟩))).1
    unfold skipOf
    simp [hL, hb, q]
theorem ns_uniq {h : Heap} {L : Addr} {m1 m2 : Str → Option Value} (h1 : h.Ns L m1) (h2 : h.Ns L m2) : m1 = m2 := by
  funext y
  refine Mine.hideG fun GG back => ?_
  obtain ⟨ob1, es1, ep1, ho1, hd1, _, hf1⟩ := h1
  obtain ⟨ob2, es2, ep2, ho2, hd2, _, hf2⟩ := h2
  refine back ?_
  clear back
  rw [ho1] at ho2; cases ho2
  rw [hd1] at hd2; cases hd2
  rw [← hf1, ← hf2]
theorem St.putF (st : St c o env B m H s) {a : Addr} {x y : AObj} {h' : Heap} {tk : Nat} (hx : H a = some x) (hk : ∀ b ob, b ≠ a → b ≠ env.locals → s.heap.get? b = some ob → h'.get? b = some ob)
    (hns : ∀ mv, s.heap.Ns env.locals mv → h'.Ns env.locals mv) (hy : ∃ ob, h'.get? a = some ob ∧ IsObj c ob y) (ht : 1 ≤ tk) : St c o env B m (upd H a y) { s with heap := h', toks := tk } := by
  have hB := st.disB a x hx
  have hbl := st.disBase a x hx
  have hb : c.base.get? a = none := none_ge hbl
  have hp : a ∉ places env := fun q => by rw [(st.pl a q).1] at hx; cases hx
  have hpL := st.pl env.locals List.mem_cons_self
  refine ⟨fun b ob e => hk b ob (fun q => by rw [q, hb] at e; cases e) (fun q => by rw [q, none_ge hpL.2.2] at e; cases e) (st.base b ob e), fun b ob l e => ?_, fun b z e => ?_, fun b z e => ?_, fun b z e => ?_, fun b q => ?_, st.nodup, fun b e => ?_, ?_, st.frames, st.gens, st.os, ht⟩
  · refine Mine.hideG fun GG back => ?_
    obtain ⟨sl, e1, e2⟩ := st.keep b ob l e
    refine back ?_
    clear back
    exact ⟨sl, hk b _ (fun q => by rw [q, hB] at e; cases e) (fun q => by rw [q, hpL.2.1] at e; cases e) e1, e2⟩
  · rcases upd_some e with ⟨rfl, rfl⟩ | ⟨ne, e⟩
    · exact hy
    · obtain ⟨ob, e1, e2⟩ := st.own b z e; exact ⟨ob, hk b ob ne (fun q => by rw [q, hpL.1] at e; cases e) e1, e2⟩
  · rcases upd_some e with ⟨rfl, rfl⟩ | ⟨ne, e⟩
    · exact hB
    · exact st.disB b z e
  · rcases upd_some e with ⟨rfl, rfl⟩ | ⟨ne, e⟩
    · exact hbl
    · exact st.disBase b z e
  · refine Mine.hideG fun GG back => ?_
    obtain ⟨e1, e2, e3⟩ := st.pl b q
    refine back ?_
    clear back
    exact ⟨by unfold upd; rw [if_neg (fun z => by subst z; exact hp q)]; exact e1, e2, e3⟩
  · refine Mine.hideG fun GG back => ?_
    obtain ⟨v, ob, e1, e2⟩ := st.cell b e
    refine back ?_
    clear back
    exact ⟨v, ob, hk b ob (fun q => hp (by subst q; exact List.mem_cons_of_mem _ e)) (fun q => (List.nodup_cons.mp st.nodup).1 (q ▸ e)) e1, e2⟩
  · refine Mine.hideG fun GG back => ?_
    obtain ⟨mv, hn, hv⟩ := st.var
    refine back ?_
    clear back
    refine ⟨mv, hns mv hn, fun x v e => ?_⟩
    have cellK : ∀ a z, env.cells.lookup x = some a → s.heap.IsCell a z → h'.IsCell a z := fun b z e ⟨ob, ho, hd⟩ =>
      have hm := List.mem_map_of_mem (f := (·.2)) (PySem.mem_of_lookup e)
      ⟨ob, hk b ob (fun q => hp (by rw [← q]; exact List.mem_cons_of_mem _ hm)) (fun q => (List.nodup_cons.mp st.nodup).1 (q ▸ hm)) ho, hd⟩
    have q := hv x v e
    split at q
    · exact q
    · obtain ⟨a, u, e1, e2, e3⟩ := q; exact ⟨a, u, e1, cellK a _ e1 e2, e3⟩
    · obtain ⟨a, u, e1, e2, e3⟩ := q; exact ⟨a, u, e1, cellK a _ e1 e2, e3⟩
    · exact q
end
structure ClsAt (c : Cx) (C : Addr) (fI : Addr) : Prop where
  makes : makesIn c.K C = true
  keep : keepIn c.K (.ref C) = true
  init : findIn c.K (.ref C) "__init__" = some (some (.ref fI))
  initFn : isFn c.K (.ref fI) = true
  setat : findIn c.K (.ref C) "__setattr__" = some (some (.builtin "object.__setattr__"))
  over : plainOver c.K C = true
  taker : takerIn c.K C "dict" = some none
  hasd : hasDictIn c.K C = true
  getd : plainGet c.K C "dict" = true
  findd : findIn c.K (.ref C) "dict" = some none
  noget : noGet c.K none = true
structure MethAt (c : Cx) (C : Addr) (name : Str) (f : Addr) : Prop where
  get : plainGet c.K C name = true
  find : findIn c.K (.ref C) name = some (some (.ref f))
  fn : isFn c.K (.ref f) = true
  keep : keepIn c.K (.ref f) = true
  other : (("dict" : Str) == name) = false
section
variable {k : Wk} {m : Loc} {H : AHeap}
theorem inst_at {B : BMap} {s : Shared} (st : St k.c k.o k.env B m H s) {x C dx : Addr} {v : V} (hx : H x = some (.inst C dx)) (hd : H dx = some (.attrs v)) :
    ∃ n t u, InstAt s.heap x (instObj C dx) C (some (dictOf [⟨PyData.keyHash k.c.w.params ("dict" : Str), .str ("dict" : Str) t, u⟩] n)) ∧ er u = v := by
  refine Mine.hideG fun GG back => ?_
  obtain ⟨ob, ho, rfl⟩ := st.own x _ hx
  obtain ⟨od, hod, n, t, u, rfl, e⟩ := st.own dx _ hd
  refine back ?_
  clear back
  exact ⟨n, t, u, ⟨ho, rfl, rfl, hod⟩, e⟩
theorem W_getDict {n : Str} {np pos : Pos} {x C dx fI : Addr} {v : V} {Q : V → Loc → AHeap → Prop} (hC : ClsAt k.c C fI) (hn : m n = some (.ref x)) (hx : H x = some (.inst C dx)) (hd : H dx = some (.attrs v)) (hv : ∀ i, v ≠ .bi i) (h : Q v m H)
    (hdb : (n == ("__debug__" : Str)) = false := by decide) (hcd : (n == ("__classdict__" : Str)) = false := by decide) : WV k (eval (.Attribute (.Name n np) ("dict" : Str) pos) k.env) m H Q := fun B s st =>
  Attribute_name (wpAny_mono (W_Name (Q := fun v m' H' => v = .ref x ∧ m' = m ∧ H' = H) hn ⟨rfl, rfl, rfl⟩ hdb hcd B s st) (fun ov s1 hx1 => by
    refine Mine.hideG fun GG back => ?_
    obtain ⟨m1, H1, st1, e1, e2, e3⟩ := hx1
    refine back ?_
    clear back
    subst e2; subst e3
    obtain rfl := er_ref e1
    refine Mine.hideG fun GG back => ?_
    obtain ⟨cnt, t, u, I, rfl⟩ := inst_at st1 hx hd
    obtain ⟨mv, F⟩ := st1.fr
    refine back ?_
    clear back
    refine get_own F k.c.inK I hC.getd hC.hasd hC.findd hC.noget (v := u) ?_ ?_ ⟨m1, H1, st1.toks _ (Nat.le_succ_of_le st1.tk), h⟩
    · unfold getL
      simp [Value.isStr]
    · cases u with
      | builtin i => exact absurd rfl (hv i)
      | _ => rfl) fun _ _ y => y)
theorem W_setDict {n : Str} {np pos' pos : Pos} {e : Expr} {Q : Flow → Loc → AHeap → Prop} {fI : Addr}
    (h : WV k (eval e k.env) m H fun v m1 H1 => ∃ x C dx, m1 n = some (.ref x) ∧ ClsAt k.c C fI ∧ H1 x = some (.inst C dx) ∧ (H1 dx = some .attrs0 ∨ ∃ u, H1 dx = some (.attrs u)) ∧ Q .next m1 (upd H1 dx (.attrs v)))
    (hs : swapsWith e (some (.Attribute (.Name n np) ("dict" : Str) pos')) pos.line k.env = pure false := by rfl) (hdb : (n == ("__debug__" : Str)) = false := by decide) (hcd : (n == ("__classdict__" : Str)) = false := by decide) :
    W k (exec (.Assign [.Attribute (.Name n np) ("dict" : Str) pos'] e pos) k.env) m H Q := fun B s st => by
  refine plainObj_wpAny_Assign_Attribute (wpAny_mono (h B s st) (fun v s1 q => ?_) fun _ _ y => y) hs
  refine Mine.hideG fun GG back => ?_
  obtain ⟨m1', H1', st1, x, C, dx, hn, hC, hx, hdx, q⟩ := q
  refine back ?_
  clear back
  refine wpAny_mono (W_Name (Q := fun v m' H' => v = .ref x ∧ m' = m1' ∧ H' = H1') hn ⟨rfl, rfl, rfl⟩ hdb hcd B s1 st1) (fun ov s2 q2 => ?_) fun _ _ y => y
  refine Mine.hideG fun GG back => ?_
  obtain ⟨m1, H1, st2, e1, rfl, rfl⟩ := q2
  refine back ?_
  clear back
  obtain rfl := er_ref e1
  refine Mine.hideG fun GG back => ?_
  obtain ⟨mv, F⟩ := st2.fr
  obtain ⟨ox, hox, rfl⟩ := st2.own x _ hx
  refine back ?_
  clear back
  have go : ∀ (es es' : List DictEntry) (cnt cnt' : Nat) (z : AObj), H1 dx = some z → s2.heap.get? dx = some (dictOf es cnt) → (getL ("dict" : Str) es).isSome = true →
      (putL ("dict" : Str) (PyData.keyHash k.c.w.params ("dict" : Str)) (.str ("dict" : Str) (s2.toks + 1)) v es, putN ("dict" : Str) es cnt) = (es', cnt') → es'.length ≤ 1000 → IsObj k.c (dictOf es' cnt') (.attrs (er v)) →
      wpAny (model k.c.prog k.c.w) k.A (setAttr (.ref x) ("dict" : Str) v) (fun _ s' => ∃ m' H', St k.c k.o k.env B m' H' s' ∧ Q .next m' H') k.E s2 := by
    intro es es' cnt cnt' z hz hd hl hp hlen hI
    have N0 := news_all st2 [dx]
    have hdL : dx ≠ k.env.locals := fun q => by rw [q, (st2.pl k.env.locals List.mem_cons_self).1] at hz; cases hz
    have hdb' : k.c.base.get? dx = none := none_ge (st2.disBase dx z hz)
    have N : News k.c.base k.env.locals s2.heap ((dx, dictOf es cnt) :: allOf s2.heap (skipOf k.c k.env.locals [dx])) := fun p hp => by
      rcases List.mem_cons.mp hp with rfl | hp
      · exact ⟨hd, hdL, hdb'⟩
      · exact N0 p hp
    have hne : ∀ p ∈ allOf s2.heap (skipOf k.c k.env.locals [dx]), p.1 ≠ dx := fun p hp q => by
      have := (mem_allOf.mp hp).1
      unfold skipOf at this
      rw [q] at this
      simp at this
    refine set_dict F k.c.inK N (ox := instObj C dx) ⟨hox, rfl, rfl, hd⟩ rfl hC.setat hC.over hC.taker hC.hasd hl hp (.head hne) hlen fun h' F' N' => ?_
    have hkeep : ∀ b ob, b ≠ dx → b ≠ k.env.locals → s2.heap.get? b = some ob → h'.get? b = some ob := fun b ob hb hL e =>
      kept_all (F := F) st2 F' N' (as := [dx]) (fun p hp => List.mem_cons_of_mem _ hp) b ob (by simpa using hb) hL e
    refine ⟨m1, _, st2.putF hz hkeep (fun mv' hmv' => ?_) ⟨_, (N' _ List.mem_cons_self).1, hI⟩ (by have := st2.tk; lia), q⟩
    rw [ns_uniq hmv' F.ns]; exact F'.ns
  rcases hdx with hdx | ⟨u, hdx⟩
  · refine Mine.hideG fun GG back => ?_
    obtain ⟨od, hod, rfl⟩ := st2.own dx _ hdx
    refine back ?_
    clear back
    refine go [] _ 0 _ _ hdx hod rfl rfl (by simp [putL]) ⟨_, _, _, rfl, rfl⟩
  · refine Mine.hideG fun GG back => ?_
    obtain ⟨od, hod, cnt, t, u', rfl, rfl⟩ := st2.own dx _ hdx
    refine back ?_
    clear back
    have hstr : Value.isStr (.str ("dict" : Str) t) ("dict" : Str) = true := by simp [Value.isStr]
    refine go _ [⟨PyData.keyHash k.c.w.params ("dict" : Str), .str ("dict" : Str) t, v⟩] cnt _ _ hdx hod ?_ (by unfold putL; simp only [hstr, if_true]; rfl) (by simp) ⟨_, t, v, rfl, rfl⟩
    unfold getL
    simp [Value.isStr]
theorem W_NewCls {x : Str} {p pos : Pos} {C fI : Addr} {Q : V → Loc → AHeap → Prop} (hC : ClsAt k.c C fI) (hg : Gl k.c x (.ref C)) (hx : k.env.kindOf x = some .globalImplicit)
    (h : ∀ a dx, H a = none → H dx = none → a ≠ dx → Fn k.c (k.A.under (.builtin "type.__call__" ⟨[.ref C], []⟩)) (.ref fI) ⟨[.ref a], []⟩ (upd (upd H dx .attrs0) a (.inst C dx)) (fun v H' => v = .none ∧ Q (.ref a) m H') NoX)
    (hd : (x == ("__debug__" : Str)) = false := by decide) : WV k (eval (.Call (.Name x p) [] [] pos) k.env) m H Q := fun B s st =>
  wpAny_Call_NameR (wpAny_mono (W_NameG (Q := fun v m' H' => v = .ref C ∧ m' = m ∧ H' = H) hg hx ⟨rfl, rfl, rfl⟩ hd B s st) (fun g s1 hx1 => by
    refine Mine.hideG fun GG back => ?_
    obtain ⟨m1, H1, st1, e1, e2, e3⟩ := hx1
    refine back ?_
    clear back
    subst e2; subst e3
    obtain rfl := er_ref e1
    have X : k.c.K.In s1.heap := k.c.inK.keeps st1.base
    refine callWith_K0 X hC.keep (wpAny_call ?_)
    refine Mine.hideG fun GG back => ?_
    obtain ⟨hh, gg, dd, tt, os⟩ := s1
    refine back ?_
    clear back
    refine make_core (rest := []) (kw := []) (makes_of X hC.makes) (looks_findIn X hC.init) (fun self => bind_fn X self (beq_iff_eq.mp hC.initFn)) (.inl rfl) ?_
    have hsz : (hh.push emptyDict).objs.size = hh.objs.size + 1 := Heap.size_push ..
    have f1 := st1.fresh (st1.none_at (Nat.le_refl hh.objs.size))
    have st2 := st1.new (tk := tt) (y := .attrs0) (h' := hh.push emptyDict) (Nat.le_refl hh.objs.size) (fun b ob e => Heap.get?_push_of_some _ e) ⟨_, Heap.get?_push_size _ rfl, rfl⟩ st1.tk
    have f2 := st1.fresh (st1.none_at (Nat.le_succ hh.objs.size))
    have st3 := st2.new (tk := tt) (y := .inst C hh.objs.size) (a := hh.objs.size + 1) (h' := (hh.push emptyDict).push (instObj C hh.objs.size)) (by rw [← hsz]; exact Nat.le_refl _) (fun b ob e => Heap.get?_push_of_some _ e) ⟨_, by rw [← hsz]; exact Heap.get?_push_size _ rfl, rfl⟩ st1.tk
    refine codeAny_mono (h (hh.objs.size + 1) hh.objs.size f2.1 f1.1 (Nat.succ_ne_self _) k.o k.env B m1 _ k.kind k.frames st3) fun r s' q => ?_
    rcases r with e | (v | _ | _ | _)
    · obtain ⟨_, _, _, _, _, _, _, q⟩ := q; exact q.elim
    · exact q.elim
    · exact q.elim
    · exact q.elim
    · refine Mine.hideG fun GG back => ?_
      obtain ⟨H', st', e, q⟩ := q
      refine back ?_
      clear back
      exact ⟨er_none e, m1, H', st', q⟩) fun _ _ y => y)
theorem W_CallMeth {o : Expr} {name : Str} {apos pos : Pos} {args : List Expr} {C f : Addr} {fd : FuncData} {body : List Stmt} {pl : Sem Bool} {Q : V → Loc → AHeap → Prop} (hM : MethAt k.c C name f) (hF : FnAt k.c f fd body)
    (h : WV k (eval o k.env) m H fun ov m1 H1 => ∃ x dx v, ov = .ref x ∧ H1 x = some (.inst C dx) ∧ H1 dx = some (.attrs v) ∧ WItems k args m1 H1 fun vs m2 H2 => FnV k.c k.A f (.ref x :: vs) [] H2 (fun r H' => Q r m2 H') fun a b H' => k.X a b m2 H')
    (he : eval (.Call (.Attribute o name apos) args [] pos) k.env = (do
      let ov ← eval o k.env
      standAt apos.atName
      let (f, first) ← holding [ov] (getMethod ov name pl)
      callWith pos f first (backTo pos (starEach args k.env)) (backToKw pos (keywordEach [] k.env))) := by rfl)
    (hp : (starEach args k.env).any (·.1) = false := by rfl) : WV k (eval (.Call (.Attribute o name apos) args [] pos) k.env) m H Q := fun B s st => by
  rw [he]
  refine wpAny_bind (wpAny_mono (h B s st) (fun ov s1 q => wpAny_bind (wpAny_standAt (wpAny_bind (wpAny_holding ?_)))) fun _ _ y => y)
  refine Mine.hideG fun GG back => ?_
  obtain ⟨m1, H1, st1, x, dx, v, e, hx, hdx, q⟩ := q
  refine back ?_
  clear back
  obtain rfl := er_ref e
  refine Mine.hideG fun GG back => ?_
  obtain ⟨cnt, t, u, I, rfl⟩ := inst_at st1 hx hdx
  obtain ⟨mv, F⟩ := st1.fr
  refine back ?_
  clear back
  refine method_inst F k.c.inK I hM.get hM.find hM.fn ?_ ?_
  · unfold getL
    have hs : Value.isStr (.str ("dict" : Str) t) name = false := by
      show (("dict" : Str) == name) = false
      exact hM.other
    simp [hs, DictEntry.refKey]
  · refine Mine.hideG fun GG back => ?_
    obtain ⟨fo, hfo, hfd⟩ := hF.obj
    refine back ?_
    clear back
    refine Calls.callWith_function (o := fo) (fd := fd) (wpAny_mono (evalArgs_of (f := .ref f) (pos := pos) hp q B s1 st1) (fun a s2 ⟨m2, H2, st2, e, q⟩ => ?_) fun _ _ y => y)
    rw [e]
    exact ⟨⟨st2.base f fo hfo, hfd⟩, W_callF (q (.ref x :: a.pos) [] rfl rfl) B s2 st2⟩
end
end Mine
namespace Mine
/-! plain data that lies in the heap -/
mutual
noncomputable def Rd (H : AHeap) : PyData → V → Prop
  | .none, v => v = .none
  | .int i, v => v = .int i
  | .str x, v => ∃ t, v = .str x t
  | .list ds, v => ∃ a vs, v = .ref a ∧ H a = some (.list vs) ∧ RdAll H ds vs
  | .tuple ds, v => ∃ a vs, v = .ref a ∧ H a = some (.tup vs) ∧ RdAll H ds vs
  | _, _ => False
noncomputable def RdAll (H : AHeap) : List PyData → List V → Prop
  | [], vs => vs = []
  | d :: ds, vs => ∃ v r, vs = v :: r ∧ Rd H d v ∧ RdAll H ds r
end
mutual
theorem Rd.ext {H H' : AHeap} (h : Ext H H') : ∀ (d : PyData) (v : V), Rd H d v → Rd H' d v
  | .none, v, r => r
  | .bool _, v, r => r
  | .int i, v, r => r
  | .str x, v, r => r
  | .list ds, v, ⟨a, vs, e, ha, r⟩ => ⟨a, vs, e, h a _ ha, RdAll.ext h ds vs r⟩
  | .tuple ds, v, ⟨a, vs, e, ha, r⟩ => ⟨a, vs, e, h a _ ha, RdAll.ext h ds vs r⟩
  | .dict _, v, r => r
theorem RdAll.ext {H H' : AHeap} (h : Ext H H') : ∀ (ds : List PyData) (vs : List V), RdAll H ds vs → RdAll H' ds vs
  | [], vs, r => r
  | d :: ds, vs, ⟨v, r, e, h1, h2⟩ => ⟨v, r, e, Rd.ext h d v h1, RdAll.ext h ds r h2⟩
end
mutual
theorem Rd.reads {c : Cx} {H : AHeap} {s : Shared} (o : Own c H s) : ∀ (d : PyData) (v : Value), Rd H d (er v) → ∃ as, Reads s.heap v d as
  | .none, v, r => by obtain rfl := er_none r; exact ⟨_, .none⟩
  | .bool _, v, r => r.elim
  | .int i, v, r => by obtain ⟨t, rfl⟩ := er_int r; exact ⟨_, .int i t⟩
  | .str x, v, ⟨t, r⟩ => by obtain rfl := er_str r; exact ⟨_, .str x t⟩
  | .list ds, v, ⟨a, vs, e, ha, r⟩ => by
    obtain rfl := er_ref e
    refine Mine.hideG fun GG back => ?_
    obtain ⟨_, ob, ho, us, n, rfl, e'⟩ := o.1.1 a _ ha
    obtain ⟨as, h⟩ := RdAll.reads o ds us (by rw [e']; exact r)
    refine back ?_
    clear back
    exact ⟨_, .list ho rfl rfl (by simpa using h)⟩
  | .tuple ds, v, ⟨a, vs, e, ha, r⟩ => by
    obtain rfl := er_ref e
    refine Mine.hideG fun GG back => ?_
    obtain ⟨_, ob, ho, us, n, rfl, e'⟩ := o.1.1 a _ ha
    obtain ⟨as, h⟩ := RdAll.reads o ds us (by rw [e']; exact r)
    refine back ?_
    clear back
    exact ⟨_, .tuple ho rfl rfl (by simpa using h)⟩
  | .dict _, v, r => r.elim
theorem RdAll.reads {c : Cx} {H : AHeap} {s : Shared} (o : Own c H s) : ∀ (ds : List PyData) (vs : List Value), RdAll H ds (vs.map er) → ∃ as, ReadsAll s.heap vs ds as
  | [], vs, r => by
    have r : vs.map er = [] := r
    have : vs = [] := by simpa using r
    subst this
    exact ⟨_, .nil⟩
  | d :: ds, vs, ⟨v, r, e, h1, h2⟩ => by
    match vs, e with
    | u :: us, e =>
      simp only [List.map_cons, List.cons.injEq] at e
      refine Mine.hideG fun GG back => ?_
      obtain ⟨rfl, rfl⟩ := e
      obtain ⟨as, h1⟩ := Rd.reads o d u h1
      obtain ⟨bs, h2⟩ := RdAll.reads o ds us h2
      refine back ?_
      clear back
      exact ⟨_, .cons h1 h2⟩
end
-- data whose eqv is equality
mutual
noncomputable def good : PyData → Bool
  | .none => true
  | .int _ => true
  | .str x => PyData.strOk x
  | .list ds => goodAll ds
  | .tuple ds => goodAll ds
  | _ => false
noncomputable def goodAll : List PyData → Bool
  | [] => true
  | d :: ds => good d && goodAll ds
end
mutual
theorem eqv_good : ∀ (a b : PyData), good a = true → good b = true → (PyData.eqv a b = true ↔ a = b)
  | .none, b, ha, hb => by cases b <;> simp [PyData.eqv, good] at hb ⊢
  | .int i, b, ha, hb => by cases b <;> simp [PyData.eqv, good] at hb ⊢
  | .str x, b, ha, hb => by cases b <;> simp [PyData.eqv, good] at hb ⊢
  | .list xs, b, ha, hb => by
    cases b with
    | list ys =>
      simp only [good] at ha hb
      simp only [PyData.eqv, PyData.list.injEq]
      exact eqvAll_good xs ys ha hb
    | _ => simp [PyData.eqv, good] at hb ⊢
  | .tuple xs, b, ha, hb => by
    cases b with
    | tuple ys =>
      simp only [good] at ha hb
      simp only [PyData.eqv, PyData.tuple.injEq]
      exact eqvAll_good xs ys ha hb
    | _ => simp [PyData.eqv, good] at hb ⊢
  | .bool _, b, ha, hb => by simp [good] at ha
  | .dict _, b, ha, hb => by simp [good] at ha
theorem eqvAll_good : ∀ (xs ys : List PyData), goodAll xs = true → goodAll ys = true → (PyData.eqvAll xs ys = true ↔ xs = ys)
  | [], [], _, _ => by simp [PyData.eqvAll]
  | [], _ :: _, _, _ => by simp [PyData.eqvAll]
  | _ :: _, [], _, _ => by simp [PyData.eqvAll]
  | x :: xs, y :: ys, ha, hb => by
    simp only [goodAll, Bool.and_eq_true] at ha hb
    simp only [PyData.eqvAll, Bool.and_eq_true, List.cons.injEq]
    exact and_congr (eqv_good x y ha.1 hb.1) (eqvAll_good xs ys ha.2 hb.2)
end
mutual
theorem canLay_good : ∀ (a : PyData), good a = true → a.canLay0 = true
  | .none, h => by simp [PyData.canLay0]
  | .int i, h => by simp [PyData.canLay0]
  | .str x, h => by simpa [PyData.canLay0, good] using h
  | .list xs, h => by
    simp only [good] at h
    simp only [PyData.canLay0]
    exact canLayAll_good xs h
  | .tuple xs, h => by
    simp only [good] at h
    simp only [PyData.canLay0]
    exact canLayAll_good xs h
  | .bool _, h => by simp [good] at h
  | .dict _, h => by simp [good] at h
theorem canLayAll_good : ∀ (xs : List PyData), goodAll xs = true → PyData.canLayAll0 xs = true
  | [], h => by simp [PyData.canLayAll0]
  | x :: xs, h => by
    simp only [goodAll, Bool.and_eq_true] at h
    simp only [PyData.canLayAll0, Bool.and_eq_true]
    exact ⟨canLay_good x h.1, canLayAll_good xs h.2⟩
end
section
variable {k : Wk} {m : Loc} {H : AHeap}
theorem WCmp_eqD {a b : V} {da db : PyData} {r : Bool} {Q : V → Loc → AHeap → Prop} (ha : Rd H da a) (hb : Rd H db b) (ga : good da = true) (gb : good db = true) (dp : min da.depth db.depth ≤ 64) (hu : k.A.units + 64 < cLine) (hr : r = true ↔ da = db) (h : Q (.bool r) m H) : WCmp k .Eq a b m H Q := fun x y hx hy => by
  subst hx; subst hy
  refine W.of_wp fun B s st P hp => ?_
  refine Mine.hideG fun GG back => ?_
  obtain ⟨as, ra⟩ := Rd.reads st.owned da x ha
  obtain ⟨bs, rb⟩ := Rd.reads st.owned db y hb
  refine back ?_
  clear back
  have e : PyData.eqv da db = r := by
    rw [Bool.eq_iff_iff, eqv_good da db ga gb, hr]
  exact SeqAt.compareEq_reads ra rb (canLay_good da ga) (canLay_good db gb) (by lia) (e ▸ hp (.bool r) s.toks h)
theorem WCmp_neD {a b : V} {da db : PyData} {r : Bool} {Q : V → Loc → AHeap → Prop} (ha : Rd H da a) (hb : Rd H db b) (ga : good da = true) (gb : good db = true) (dp : min da.depth db.depth ≤ 64) (hu : k.A.units + 64 < cLine) (hr : r = true ↔ da ≠ db) (h : Q (.bool r) m H) : WCmp k .NotEq a b m H Q := fun x y hx hy => by
  subst hx; subst hy
  refine W.of_wp fun B s st P hp => ?_
  refine Mine.hideG fun GG back => ?_
  obtain ⟨as, ra⟩ := Rd.reads st.owned da x ha
  obtain ⟨bs, rb⟩ := Rd.reads st.owned db y hb
  refine back ?_
  clear back
  have e : (!PyData.eqv da db) = r := by
    rw [Bool.eq_iff_iff, hr, Bool.not_eq_true', Bool.eq_false_iff, ne_eq, eqv_good da db ga gb]
  exact SeqAt.compareNe_reads ra rb (canLay_good da ga) (canLay_good db gb) (by lia) (e ▸ hp (.bool r) s.toks h)
/-! truth -/
theorem WTr_list {a : Addr} {xs : List V} {Q : Bool → Loc → AHeap → Prop} (ha : H a = some (.list xs)) (hz : xs.length < 2 ^ 63) (h : Q (!xs.isEmpty) m H) : WTr k (.ref a) m H Q := fun x hx => by
  obtain rfl := er_ref hx
  refine W.of_wp fun B s st P hp => ?_
  refine Mine.hideG fun GG back => ?_
  obtain ⟨vs, n, hl, rfl⟩ := st.listAt ha
  refine back ?_
  clear back
  rw [List.length_map] at hz
  refine wpAny_truthy_list hl.isList (by simp; lia) ?_
  have e : (!(vs.toArray).isEmpty) = !(vs.map er).isEmpty := by cases vs <;> rfl
  rw [e]; exact hp _ _ h
/-! in a tuple or a list of ints and texts -/
noncomputable def eqKV : V → V → Bool
  | .int i, .int j => i == j
  | .str x _, .str y _ => x == y
  | _, _ => false
noncomputable def simpleV : V → Bool
  | .int _ => true
  | .str _ _ => true
  | _ => false
theorem eqGives_simple {y x : Value} (hy : simpleV (er y) = true) (hx : simpleV (er x) = true) : MeetsSeq.EqGives y x (eqKV (er y) (er x)) := fun prog w A E s Q h => by
  have kx : ∃ a : Key, isKey a x = true := by
    cases x <;> simp [er, simpleV] at hx
    · exact ⟨.inl _, by simp [isKey, Value.isInt]; rfl⟩
    · exact ⟨.inr _, by simp [isKey, Value.isStrOf]; rfl⟩
  have ky : ∃ a : Key, isKey a y = true := by
    cases y <;> simp [er, simpleV] at hy
    · exact ⟨.inl _, by simp [isKey, Value.isInt]; rfl⟩
    · exact ⟨.inr _, by simp [isKey, Value.isStrOf]; rfl⟩
  refine Mine.hideG fun GG back => ?_
  obtain ⟨a, ha⟩ := kx
  obtain ⟨b, hb⟩ := ky
  refine back ?_
  clear back
  refine eqBool_key hb ha ?_
  have e : decide (b = a) = eqKV (er y) (er x) := by
    rw [isKey_er] at ha hb
    cases y <;> simp [er, simpleV] at hy <;> cases x <;> simp [er, simpleV] at hx <;> cases a <;> cases b <;> simp [isKV, er, eqKV] at ha hb ⊢ <;> subst ha <;> subst hb <;> first | rfl | (rw [Bool.eq_iff_iff]; simp)
  rw [e]; exact h
theorem WCmp_inTup {x : V} {a : Addr} {xs : List V} {Q : V → Loc → AHeap → Prop} (ha : H a = some (.tup xs)) (hs : ∀ v ∈ xs, simpleV v = true) (hx : simpleV x = true) (h : Q (.bool (xs.any fun v => eqKV v x)) m H) : WCmp k .In x (.ref a) m H Q := fun u y hu hy => by
  subst hu
  obtain rfl := er_ref hy
  refine W.of_wp fun B s st P hp => ?_
  refine Mine.hideG fun GG back => ?_
  obtain ⟨vs, n, hl, rfl⟩ := st.tupAt ha
  refine back ?_
  clear back
  refine SeqRoads2.in_tuple (items := (vs : List Value).toArray) (n := n) (fun v => eqKV (er v) (er u)) (fun v hv => eqGives_simple (hs _ (List.mem_map_of_mem (f := er) (by simpa using hv))) hx) hl ?_
  have e : (vs.toArray.any fun v => eqKV (er v) (er u)) = (vs.map er).any fun v => eqKV v (er u) := by
    rw [List.any_map, ← Array.any_toList]; rfl
  rw [e]; exact hp _ s.toks h
end
end Mine
namespace Mine
theorem excAttr_KeyError : ExcAttrFacts "KeyError" where
  ga := .of (owner := "BaseException") (n := "__getattribute__") (by rw [typeLookup_type, builtinLookup_eq_fast]; kernel_rfl) (by decide +kernel) (by decide +kernel) (by decide +kernel)
    (by first | exact .inl (by decide +kernel) | exact .inr (by decide +kernel)) (by rw [isSubtype_type]; kernel_rfl)
  lkArgs := by rw [typeLookup_type, builtinLookup_eq_fast]; kernel_rfl
  sub := by rw [isSubtype_type]; kernel_rfl
theorem sub_key_key : isSubtype (.type "KeyError") (.type "KeyError") = pure true := by rw [isSubtype_type]; kernel_rfl
section
variable {k : Wk} {m : Loc} {H : AHeap}
theorem not_interactive (k : Wk) : interactive k.env = false := by unfold interactive; rw [k.kind]; rfl
theorem W_ExprStmt {e : Expr} {pos : Pos} {Q : Flow → Loc → AHeap → Prop} (h : WV k (eval e k.env) m H fun _ m1 H1 => Q .next m1 H1)
    (hs : swapsWith e none pos.line k.env = pure false := by rfl) : W k (exec (.Expr e pos) k.env) m H Q := W_Expr h (not_interactive k) hs
theorem W_getArgs {n : Str} {np pos : Pos} {e t : Addr} {cls : String} {Q : V → Loc → AHeap → Prop} (FX : ExcAttrFacts cls) (hn : m n = some (.ref e)) (he : H e = some (.exc cls (some t))) (h : Q (.ref t) m H)
    (hdb : (n == ("__debug__" : Str)) = false := by decide) (hcd : (n == ("__classdict__" : Str)) = false := by decide) : WV k (eval (.Attribute (.Name n np) ("args" : Str) pos) k.env) m H Q := fun B s st =>
  Attribute_name (wpAny_mono (W_Name (Q := fun v m' H' => v = .ref e ∧ m' = m ∧ H' = H) hn ⟨rfl, rfl, rfl⟩ hdb hcd B s st) (fun ov s1 hx1 => by
    refine Mine.hideG fun GG back => ?_
    obtain ⟨m1, H1, st1, e1, e2, e3⟩ := hx1
    refine back ?_
    clear back
    subst e2; subst e3
    obtain rfl := er_ref e1
    obtain ⟨ob, ho, _, hc, vs, hd, ha⟩ := st1.own e _ he
    obtain ⟨hh, g, d, tt, os⟩ := s1
    exact args_attr FX ho hc hd (ha t rfl) ⟨m1, H1, st1.toks _ (Nat.le_succ_of_le st1.tk), h⟩) fun _ _ y => y)
/-! dict displays -/
noncomputable def WPairs (k : Wk) : List (Option Expr) → List Expr → Loc → AHeap → (List (V × V) → Loc → AHeap → Prop) → Prop
  | [], [], m, H, Q => Q [] m H
  | some ke :: ks, ve :: vs, m, H, Q => WV k (eval ke k.env) m H fun kv m1 H1 => WV k (eval ve k.env) m1 H1 fun vv m2 H2 => WPairs k ks vs m2 H2 fun ps => Q ((kv, vv) :: ps)
  | _, _, _, _, _ => False
noncomputable def Carr : List (V × V) → List (Key × V) → Prop
  | [], [] => True
  | (kv, v) :: ps, (key, v') :: kvs => isKV key kv = true ∧ v = v' ∧ Carr ps kvs
  | _, _ => False
theorem WPairs_run : ∀ (ks : List (Option Expr)) (vs : List Expr) (pos : Pos) (m : Loc) (H : AHeap) (Q : List (V × V) → Loc → AHeap → Prop), WPairs k ks vs m H Q →
    W k (evalPairs (pairTrees ks vs k.env pos)) m H fun ps m1 H1 => Q (ps.map fun p => (er p.1, er p.2)) m1 H1
  | [], [], pos, m, H, Q, h => fun B s st => pairTrees_nil_walk ⟨m, H, st, h⟩
  | some ke :: ks, ve :: vs, pos, m, H, Q, h => fun B s st =>
    pairTrees_cons_walk (wpAny_mono (h B s st) (fun kv s1 ⟨m1, H1, st1, q1⟩ => wpAny_mono (q1 B s1 st1) (fun vv s2 ⟨m2, H2, st2, q2⟩ => wpAny_mono (WPairs_run ks vs pos m2 H2 _ q2 B s2 st2) (fun ps s3 ⟨m3, H3, st3, q3⟩ => ⟨m3, H3, st3, q3⟩) fun _ _ x => x) fun _ _ x => x) fun _ _ x => x)
  | [], _ :: _, _, _, _, _, h => h.elim
  | none :: _, _, _, _, _, _, h => by cases ‹List Expr› <;> exact h.elim
  | some _ :: _, [], _, _, _, _, h => h.elim
noncomputable def putAll (kvs : List (Key × V)) (more : List (Key × V)) : List (Key × V) := more.foldl (fun acc kv => putK acc kv.1 kv.2) kvs
theorem nodup_stored {K : Type} [DecidableEq K] {kvs : List (K × Value)} (h : (kvs.map (·.1)).Nodup) (k : K) (v : Value) : ((stored kvs k v).map (·.1)).Nodup := by
  unfold stored
  by_cases ha : (kvs.any fun kv => decide (kv.1 = k)) = true
  · rw [if_pos ha, keys_map_store]; exact h
  · rw [if_neg ha, List.map_append, List.nodup_append]
    refine ⟨h, by simp, ?_⟩
    intro a ha' b hb
    simp only [List.map_cons, List.map_nil, List.mem_singleton] at hb
    subst hb
    intro e
    subst e
    obtain ⟨kv, hkv, e⟩ := List.mem_map.mp ha'
    exact ha (List.any_eq_true.mpr ⟨kv, hkv, by simpa using e⟩)
theorem merged_er : ∀ (more kvs : List (Key × Value)), (kvs.map (·.1)).Nodup → (merged kvs more).map erP = putAll (kvs.map erP) (more.map erP)
  | [], kvs, h => rfl
  | (k', v) :: r, kvs, h => by
    have e := merged_er r (stored kvs k' v) (nodup_stored h k' v)
    rw [putK_er h] at e
    exact e
theorem W_Dict {keys : List (Option Expr)} {values : List Expr} {pos : Pos} {Q : V → Loc → AHeap → Prop}
    (h : WPairs k keys values m H fun ps m1 H1 => ∃ kvs, Carr ps kvs ∧ ∀ a ep, H1 a = none → Q (.ref a) m1 (upd H1 a (.dict (putAll [] kvs) ep)))
    (hall : keys.all (·.isSome) = true := by rfl) (hl : keys.length = values.length := by rfl) (h0 : keys ≠ [] := by simp) (hlen : keys.length ≤ 15 := by decide) : WV k (eval (.Dict keys values pos) k.env) m H Q := fun B s st => by
  obtain ⟨f1, f2, f3, f4⟩ := st.fresh (st.none_at (Nat.le_refl s.heap.objs.size))
  obtain ⟨h1, h2, st2⟩ := hide_new st { cls := .type "dict", data := .dict #[] } rfl
  have hext : k.o.ext s.heap.objs.size = none := by
    cases e : k.o.ext s.heap.objs.size with
    | none => rfl
    | some y => have := st.frames.2 _ y e; rw [f2] at this; cases this
  refine wpAny_Dict_walk (knd := mix k.c.prog k.c.w) hall hl h0 hlen (wpAny_mono (WPairs_run keys values pos m H _ h _ _ st2) (fun ps s3 q => ?_) fun _ _ x => x)
  obtain ⟨m3, H3, st3, kvs, hc, q⟩ := q
  have hD := hid_at st3
  have carries : ∀ (ps : List (Value × Value)) (kvs : List (Key × V)), Carr (ps.map fun p => (er p.1, er p.2)) kvs → ∃ rk, Carries (mix k.c.prog k.c.w) ps rk ∧ rk.map erP = kvs := by
    intro ps
    induction ps with
    | nil => intro kvs hc; cases kvs with
      | nil => exact ⟨[], trivial, rfl⟩
      | cons _ _ => exact hc.elim
    | cons p r ih =>
      obtain ⟨kv, v⟩ := p
      intro kvs hc
      cases kvs with
      | nil => exact hc.elim
      | cons q kvs =>
        obtain ⟨key, v'⟩ := q
        obtain ⟨g1, g2, g3⟩ := hc
        obtain ⟨rk, h1, h2⟩ := ih kvs g3
        have g2 : er v = v' := g2
        exact ⟨(key, v) :: rk, ⟨by show isKey key kv = true; rw [isKey_er]; exact g1, rfl, h1⟩, by rw [List.map_cons, h2]; simp [erP, g2]⟩
  obtain ⟨rk, hcr, rfl⟩ := carries ps kvs hc
  refine ⟨rk, hcr, ⟨_, #[], 0, hD, ⟨rfl, rfl, rfl⟩, rfl, (fun _ he => by simp at he), Pairs.nil, List.nodup_nil⟩, fun h' hm' hsb => ?_⟩
  obtain ⟨ep, hat⟩ := hm'.dictAt
  obtain ⟨ob, ho, hI⟩ := of_dictAt hat
  have hHD : H3 s.heap.objs.size = none := by
    cases e : H3 s.heap.objs.size with
    | none => rfl
    | some y => have := st3.disB _ y e; rw [upd_same] at this; cases this
  have st4 := St.but' h1 hext h2 st3 (tk := s3.toks + ps.length) hsb.extBut (by have := st3.tk; lia)
  have st5 := st4.adopt (a := s.heap.objs.size) (y := .dict (putAll [] (rk.map erP)) ep) ⟨ob, ho, by rw [merged_er rk [] List.nodup_nil] at hI; exact hI⟩ hHD f2 f4 h2
  exact ⟨m3, _, st5, q _ ep hHD⟩
end
end Mine
namespace Mine
noncomputable def fnBody : Stmt → List Stmt
  | .FunctionDef _ _ body _ _ _ _ _ _ _ => body
  | .ClassDef _ _ _ body _ _ _ _ _ _ _ => body
  | _ => []
noncomputable def fnParams : Stmt → Arguments
  | .FunctionDef _ a _ _ _ _ _ _ _ _ => a
  | _ => default
noncomputable def fnScope : Stmt → Scope
  | .FunctionDef _ _ _ _ _ _ sc _ _ _ => sc
  | _ => default
noncomputable def stm (l : List Stmt) (i : Nat) : Stmt := l.getD i (.Pass default)
noncomputable def RQ (P : V → AHeap → Prop) : Flow → Loc → AHeap → Prop := fun fl _ H => P (flowV fl) H
structure Room (A : Around) : Prop where
  depth : A.depth ≤ 600
  units : A.units ≤ 2000
  handled : A.handled = none
structure DefAt (c : Cx) (f : Addr) (st : Stmt) : Prop where
  at_ : ∃ fd, FnAt c f fd (fnBody st) ∧ fd.scope = fnScope st ∧ fd.params = fnParams st ∧ fd.defaults = .none ∧ fd.kwdefaults = .none
structure InFn (c : Cx) (A : Around) (st : Stmt) (X : String → Option (List V) → AHeap → Prop) (k : Wk) : Prop where
  c : k.c = c
  sv : SEnv k (fnScope st) (cellNames (fnScope st).names)
  frame : k.env.frame = some k.env.locals
  depth : k.A.depth = A.depth + 1
  units : k.A.units = A.units + 3
  handled : k.A.handled = A.handled
  X : k.X = fun cls xs _ H => X cls xs H
  here : k.here
theorem FnV.top {c : Cx} {A : Around} {f : Addr} {st : Stmt} {vs : List V} {H : AHeap} {Q : V → AHeap → Prop} {X : String → Option (List V) → AHeap → Prop} (F : DefAt c f st) (hA : Room A) (names : List Str) (hl : vs.length = names.length)
    (hb : ∀ (fd : FuncData) (rvs : List Value), fd.params = fnParams st → fd.defaults = .none → fd.kwdefaults = .none → rvs.length = names.length → bindArgs fd ⟨rvs, []⟩ = pure (names.zip rvs))
    (hk : (names.all fun y => (fnScope st).names.lookup y == some .local || (fnScope st).names.lookup y == some .cell) = true)
    (h : ∀ k, InFn c A st X k → W k (execs (fnBody st) k.env) (bindM (names.zip vs) noLoc) H (RQ Q)) : FnV c A f vs [] H Q X := fun rvs rkw e1 e2 => by
  refine Mine.hideG fun GG back => ?_
  obtain ⟨fd, F1, F2, F3, F4, F5⟩ := F.at_
  refine back ?_
  clear back
  have e2 : rkw = [] := by simpa using e2
  subst e2
  have hlen : rvs.length = names.length := by rw [← e1, List.length_map] at hl; exact hl
  refine Fn.of_body F1 (Nat.lt_of_le_of_lt hA.depth (by decide)) (binds := names.zip rvs) (fun s _ => BindsTo.of_eq (hb fd rvs F3 F4 F5 hlen)) ?_ fun k hk' => ?_
  · rw [F2, List.all_eq_true]
    intro y hy
    exact List.all_eq_true.mp hk y.1 (List.of_mem_zip hy).1
  · have := h k ⟨hk'.c, ⟨hk'.sc.trans F2, hk'.cn.trans (by rw [F2])⟩, hk'.frame, hk'.depth, hk'.units, hk'.handled, hk'.X, hk'.here⟩
    have e : (names.zip rvs).map (fun b => (b.1, er b.2)) = names.zip vs := by
      rw [← e1, List.zip_map_right]
      rfl
    rw [e]
    exact this
section
variable {k : Wk} {m : Loc} {H : AHeap}
theorem Roomy.of {sc : Scope} {cn : List Str} [I : SEnv k sc cn] (hf : k.env.frame = some k.env.locals) (hd : k.A.depth ≤ 700) (imp : importsNone k.c.p = true) (tree : k.c.prog.given.tree = none) (h1 : sc.isGenerator = false) (h2 : sc.isCoroutine = false) : Roomy k := by
  refine ⟨Nat.lt_of_le_of_lt (Nat.add_le_add_right hd _) (by decide), imp, tree, k.env, k.o.fs, ?_, by rw [I.sc]; exact h1, by rw [I.sc]; exact h2, k.blt, k.glob⟩
  rw [k.frames]
  exact congrArg some (if_pos hf)
theorem W_Return' {e : Expr} {pos : Pos} {Q : Flow → Loc → AHeap → Prop} (h : WV k (eval e k.env) m H fun v m1 H1 => ∀ u, er u = v → Q (.ret u) m1 H1) : W k (exec (.Return (some e) pos) k.env) m H Q :=
  W_Return (W.mono h fun v m1 H1 q => q v rfl)
theorem RQ_ret {P : V → AHeap → Prop} {v : V} {u : Value} (e : er u = v) (h : P v H) : RQ P (.ret u) m H := by
  show P (er u) H
  rw [e]; exact h
end
noncomputable def contQ (k : Wk) (r : List Stmt) (Q : Flow → Loc → AHeap → Prop) : Flow → Loc → AHeap → Prop := fun f m1 H1 => match f with | .next => W k (execs r k.env) m1 H1 Q | f => Q f m1 H1
section
variable {k : Wk} {m : Loc} {H : AHeap} {r : List Stmt} {Q : Flow → Loc → AHeap → Prop}
theorem W_cons' {st : Stmt} (h : W k (exec st k.env) m H (contQ k r Q)) : W k (execs (st :: r) k.env) m H Q := W_cons h
theorem contQ_next (h : W k (execs r k.env) m H Q) : contQ k r Q .next m H := h
theorem contQ_ret {u : Value} (h : Q (.ret u) m H) : contQ k r Q (.ret u) m H := h
variable {I : Loc → AHeap → Prop}
theorem loopQ_next (h : I m H) : loopQ k Q I .next m H := h
theorem loopQ_ret {u : Value} (h : Q (.ret u) m H) : loopQ k Q I (.ret u) m H := h
theorem RQ_next {P : V → AHeap → Prop} (h : P .none H) : RQ P .next m H := h
theorem ite_dec {p : Prop} [Decidable p] {a b : Prop} (h1 : p → a) (h2 : ¬ p → b) : if decide p = true then a else b := by
  by_cases h : p
  · rw [if_pos (by simpa using h)]; exact h1 h
  · rw [if_neg (by simpa using h)]; exact h2 h
end
theorem WV_cut {k : Wk} {m : Loc} {H : AHeap} {t : Sem Value} {Q : V → Loc → AHeap → Prop} (P : V → Loc → AHeap → Prop) (h1 : WV k t m H P) (h2 : ∀ v m1 H1, P v m1 H1 → Q v m1 H1) : WV k t m H Q := W.mono h1 fun v => h2 _
theorem W_cut {α : Type} {k : Wk} {m : Loc} {H : AHeap} {t : Sem α} {Q : α → Loc → AHeap → Prop} (P : α → Loc → AHeap → Prop) (h1 : W k t m H P) (h2 : ∀ v m1 H1, P v m1 H1 → Q v m1 H1) : W k t m H Q := W.mono h1 h2
noncomputable def MethOn (c : Cx) (H : AHeap) (T : String) (ov : V) : Prop := ∃ a y, ov = .ref a ∧ H a = some y ∧ ∀ ob, IsObj c ob y → ob.cls = .type T ∧ ob.dict = none
theorem onList {c : Cx} {H : AHeap} {a : Addr} {xs : List V} (h : H a = some (.list xs)) : MethOn c H "list" (.ref a) := ⟨a, _, rfl, h, isList_cls⟩
theorem onDict {c : Cx} {H : AHeap} {a : Addr} {kvs : List (Key × V)} {ep : Nat} (h : H a = some (.dict kvs ep)) : MethOn c H "dict" (.ref a) := ⟨a, _, rfl, h, isDict_cls⟩
section
variable {k : Wk} {m : Loc} {H : AHeap}
theorem W_CallM' {o : Expr} {name : Str} {apos pos : Pos} {args : List Expr} {T id : String} {Q : V → Loc → AHeap → Prop}
    (pa : PlainAttrs T) (slot : Slot T name id) (hty : typeOf (.builtin id) = pure (.type "method_descriptor"))
    (h : WV k (eval o k.env) m H fun ov m1 H1 => MethOn k.c H1 T ov ∧ WItems k args m1 H1 fun vs m2 H2 => WCall k (.builtin id) (ov :: vs) m2 H2 Q)
    (hbase : attributeBase o name k.env (eval o k.env) = eval o k.env := by rfl)
    (hfew : ((backTo pos (starEach args k.env)).all (fun x => !x.1) && (backToKw pos (keywordEach [] k.env)).all (fun x => x.1.isSome)
      && decide (args.length + ([] : List Keyword).length + (if ([] : List Keyword).isEmpty then 0 else 1) < 30)) = true := by rfl)
    (hline : (apos.endLine == pos.line) = true := by rfl) (hp : (starEach args k.env).any (·.1) = false := by rfl) (hp' : (backTo pos (starEach args k.env)).any (·.1) = false := by rfl) :
    WV k (eval (.Call (.Attribute o name apos) args [] pos) k.env) m H Q :=
  W_CallM pa slot hty (W.mono h fun v m1 H1 ⟨⟨a, y, e, h1, h2⟩, q⟩ => ⟨a, y, e, h1, h2, q⟩) hbase hfew hline hp hp'
theorem WAsL_nil {Q : Loc → AHeap → Prop} (h : Q m H) : WAsL k [] [] m H Q := h
theorem WAsL_cons {t : Expr} {ts : List Expr} {v : V} {vs : List V} {Q : Loc → AHeap → Prop} (h : WAs k t v m H fun m1 H1 => WAsL k ts vs m1 H1 Q) : WAsL k (t :: ts) (v :: vs) m H Q := h
end
theorem lenS {α : Type} {l : List α} {n : Nat} (h : l.length = n + 1) : ∃ x r, l = x :: r ∧ r.length = n := by
  cases l with
  | nil => cases h
  | cons x r => exact ⟨x, r, rfl, Nat.succ.inj h⟩
theorem len1 {α : Type} {l : List α} (h : l.length = 1) : ∃ x, l = [x] := by
  obtain ⟨x, r, rfl, hr⟩ := lenS h
  cases r with
  | nil => exact ⟨x, rfl⟩
  | cons a b => cases hr
theorem len2 {α : Type} {l : List α} (h : l.length = 2) : ∃ x y, l = [x, y] := by
  obtain ⟨x, r, rfl, hr⟩ := lenS h
  obtain ⟨y, rfl⟩ := len1 hr
  exact ⟨x, y, rfl⟩
theorem len3 {α : Type} {l : List α} (h : l.length = 3) : ∃ x y z, l = [x, y, z] := by
  obtain ⟨x, r, rfl, hr⟩ := lenS h
  obtain ⟨y, z, rfl⟩ := len2 hr
  exact ⟨x, y, z, rfl⟩
theorem len4 {α : Type} {l : List α} (h : l.length = 4) : ∃ x y z u, l = [x, y, z, u] := by
  obtain ⟨x, r, rfl, hr⟩ := lenS h
  obtain ⟨y, z, u, rfl⟩ := len3 hr
  exact ⟨x, y, z, u, rfl⟩
theorem len5 {α : Type} {l : List α} (h : l.length = 5) : ∃ x y z u w, l = [x, y, z, u, w] := by
  obtain ⟨x, r, rfl, hr⟩ := lenS h
  obtain ⟨y, z, u, w, rfl⟩ := len4 hr
  exact ⟨x, y, z, u, w, rfl⟩
end Mine
namespace Mine
theorem BindsTo.of_kw {α β : Type} {s : Shared} {fd : FuncData} {args : Args} {binds : List (Str × Value)} {d : Addr} {n : Str} {v : Value} {mk : Str → Option Value}
    {k1 : Option Value → Sem α} {k2 : α → Sem β} {k3 : β → Sem (List (Str × Value))} (hn : s.heap.Ns d mk) (hv : mk n = some v) (h₁ : bindArgs fd args = ((nsGet d n >>= k1) >>= k2) >>= k3) (h₂ : (k1 (some v) >>= k2) >>= k3 = pure binds) : BindsTo s fd args binds :=
  fun _ _ _ _ hq => by
    rw [h₁, bind_assoc, bind_assoc]
    refine wpAny_bind (wpAny_nsGet hn ?_)
    rw [hv, ← bind_assoc, h₂]
    exact wpAny_pure hq
noncomputable def nestMsg : Str := "There is no nest behind this key"
noncomputable def isDict (H : AHeap) : V → Bool
  | .ref a => match H a with
    | some (.dict _ _) => true
    | _ => false
  | _ => false
noncomputable def lastOf (acc : Bool) (H : AHeap) : V → Option V
  | .ref a => match H a, acc with
    | some (.list xs), true => xs.getLast?
    | _, _ => some (.ref a)
  | v => some v
noncomputable def Gw (acc : Bool) (Q : Addr → AHeap → Prop) (X : String → Option (List V) → AHeap → Prop) : List Str → Addr → AHeap → Prop
  | [], cont, H => Q cont H
  | x :: r, cont, H => ∃ kvs ep, H cont = some (.dict kvs ep) ∧ kvs.length < sizeLine ∧ match getK kvs (.inr x) with
    | none => ∀ d, H d = none → Gw acc Q X r d (upd (upd H d (.dict [] 0)) cont (.dict (kvs ++ [(.inr x, .ref d)]) (ep + 1)))
    | some v => tyOf H v ≠ none ∧ (∀ a xs, v = .ref a → H a = some (.list xs) → xs.length < 2 ^ 62) ∧ match lastOf acc H v with
      | none => X "IndexError" none H
      | some w => tyOf H w ≠ none ∧ if isDict H w = true then ∃ d, w = .ref d ∧ Gw acc Q X r d H else ∀ t, X "KeyError" (some [.str nestMsg t]) H
structure NestAt (c : Cx) (C fI fG fA : Addr) (cls : Stmt) : Prop where
  kls : ClsAt c C fI
  mG : MethAt c C "get_or_create_nest" fG
  mA : MethAt c C "append_nest_to_list" fA
  init : DefAt c fI (stm (fnBody cls) 0)
  app : DefAt c fA (stm (fnBody cls) 2)
  get : ∃ fd, FnAt c fG fd (fnBody (stm (fnBody cls) 1)) ∧ fd.scope = fnScope (stm (fnBody cls) 1) ∧ fd.params = fnParams (stm (fnBody cls) 1) ∧ fd.defaults = .none ∧
    ∃ d mk, fd.kwdefaults = .ref d ∧ c.base.Ns d mk ∧ mk "access_lists" = some (.bool true)
theorem tyOf_cases {H : AHeap} {v : V} (h : tyOf H v ≠ none) : (∃ i, v = .int i) ∨ (∃ x t, v = .str x t) ∨ (∃ a xs, v = .ref a ∧ H a = some (.list xs)) ∨ (∃ a xs, v = .ref a ∧ H a = some (.tup xs)) ∨ ∃ a kvs ep, v = .ref a ∧ H a = some (.dict kvs ep) := by
  cases v with
  | int i => exact .inl ⟨i, rfl⟩
  | str x t => exact .inr (.inl ⟨x, t, rfl⟩)
  | ref a =>
    simp only [tyOf] at h
    split at h
    · rename_i xs e; exact .inr (.inr (.inl ⟨a, xs, rfl, e⟩))
    · rename_i xs e; exact .inr (.inr (.inr (.inl ⟨a, xs, rfl, e⟩)))
    · rename_i kvs ep e; exact .inr (.inr (.inr (.inr ⟨a, kvs, ep, rfl, e⟩)))
    · exact absurd rfl h
  | _ => exact absurd rfl h
theorem getK_append_new {kvs : List (Key × V)} {k : Key} {v : V} (h : getK kvs k = none) : getK (kvs ++ [(k, v)]) k = some v := by
  induction kvs with
  | nil => simp [getK]
  | cons p r ih =>
    obtain ⟨k', w⟩ := p
    unfold getK at h
    split at h
    · cases h
    · rename_i hne
      show (if k' = k then some w else getK (r ++ [(k, v)]) k) = some v
      rw [if_neg hne]; exact ih h
theorem iteT {a b : Prop} (h : a) : if true = true then a else b := by rw [if_pos rfl]; exact h
theorem iteF {a b : Prop} (h : b) : if false = true then a else b := by rw [if_neg Bool.false_ne_true]; exact h
theorem iteNT {a b : Prop} (h : b) : if (!true) = true then a else b := by rw [if_neg (by simp)]; exact h
theorem iteNF {a b : Prop} (h : a) : if (!false) = true then a else b := by rw [if_pos (by simp)]; exact h
theorem W_allTrue_nilA {k : Wk} {m : Loc} {H : AHeap} {Q : Bool → Loc → AHeap → Prop} (h : Q true m H) : W k (allTrue .And [] k.env) m H Q := W_allTrue_nil h
theorem W_allTrue_nilO {k : Wk} {m : Loc} {H : AHeap} {Q : Bool → Loc → AHeap → Prop} (h : Q false m H) : W k (allTrue .Or [] k.env) m H Q := W_allTrue_nil h
theorem WCall_isi {k : Wk} {m : Loc} {H : AHeap} {v : V} {T : String} {Q : V → Loc → AHeap → Prop} (hv : tyOf H v ≠ none) (hT : T ∈ ["list", "dict", "str"]) (h : Q (.bool (decide (tyOf H v = some T))) m H) : WCall k (.builtin "isinstance") [v, .ty T] m H Q := by
  obtain ⟨Tx, hTx⟩ := Option.ne_none_iff_exists'.mp hv
  refine WCall_isinst hTx ?_ hT ?_
  · rcases tyOf_cases hv with ⟨i, rfl⟩ | ⟨x, t, rfl⟩ | ⟨a, xs, rfl, e⟩ | ⟨a, xs, rfl, e⟩ | ⟨a, kvs, ep, rfl, e⟩ <;> simp [tyOf] at hTx <;> first | (subst hTx; simp) | (rw [e] at hTx; simp at hTx; subst hTx; simp)
  · have e : decide (tyOf H v = some T) = decide (Tx = T) := by rw [hTx]; simp
    rw [← e]; exact h
end Mine
namespace Mine
section
variable {k : Wk} {m : Loc} {H : AHeap}
theorem W_CallMethKw {o e ke : Expr} {es : List Expr} {name n : Str} {apos pos kp : Pos} {C f : Addr} {fd : FuncData} {body : List Stmt} {pl : Sem Bool} {Q : V → Loc → AHeap → Prop} (hM : MethAt k.c C name f) (hF : FnAt k.c f fd body)
    (h : WV k (eval o k.env) m H fun ov m1 H1 => ∃ x dx v, ov = .ref x ∧ H1 x = some (.inst C dx) ∧ H1 dx = some (.attrs v) ∧ WItems k (e :: es) m1 H1 fun vs m2 H2 => WV k (eval ke k.env) m2 H2 fun kv m3 H3 => FnV k.c k.A f (.ref x :: vs) [(n, kv)] H3 (fun r H' => Q r m3 H') fun a b H' => k.X a b m3 H')
    (he : eval (.Call (.Attribute o name apos) (e :: es) [⟨some n, ke, kp⟩] pos) k.env = (do
      let ov ← eval o k.env
      standAt apos.atName
      let (f, first) ← holding [ov] (getMethod ov name pl)
      callWith pos f first (backTo pos (starEach (e :: es) k.env)) (backToKw pos (keywordEach [⟨some n, ke, kp⟩] k.env))) := by rfl)
    (hplain : ((backTo pos (starEach (e :: es) k.env)).any (·.1) || (backToKw pos (keywordEach [⟨some n, ke, kp⟩] k.env)).any (·.1.isNone)) = false := by rfl) (hs : starEach (e :: es) k.env = (false, eval e k.env) :: starEach es k.env := by rfl) :
    WV k (eval (.Call (.Attribute o name apos) (e :: es) [⟨some n, ke, kp⟩] pos) k.env) m H Q := fun B s st => by
  rw [he]
  refine wpAny_bind (wpAny_mono (h B s st) (fun ov s1 q => wpAny_bind (wpAny_standAt (wpAny_bind (wpAny_holding ?_)))) fun _ _ y => y)
  refine Mine.hideG fun GG back => ?_
  obtain ⟨m1, H1, st1, x, dx, v, e, hx, hdx, q⟩ := q
  refine back ?_
  clear back
  obtain rfl := er_ref e
  refine Mine.hideG fun GG back => ?_
  obtain ⟨cnt, t, u, I, rfl⟩ := inst_at st1 hx hdx
  obtain ⟨mv, F⟩ := st1.fr
  refine back ?_
  clear back
  refine method_inst F k.c.inK I hM.get hM.find hM.fn ?_ ?_
  · unfold getL
    have hs : Value.isStr (.str ("dict" : Str) t) name = false := by
      show (("dict" : Str) == name) = false
      exact hM.other
    simp [hs, DictEntry.refKey]
  · refine callWith_KW (K := k.c.K) (h₀ := k.c.base) k.c.inK hM.keep (by rfl) (wpAny_mono (q pos B s1 st1) (fun vs s2 ⟨m2, H2, st2, q2⟩ => ?_) fun _ _ y => y) hplain hs
    refine kwAll_cons (wpAny_mono (q2 B s2 st2) (fun kv s3 ⟨m3, H3, st3, q3⟩ => ?_) fun _ _ y => y)
    refine kwAll_nil ⟨k.c.inK.keeps st3.base, ?_⟩
    exact W_callF (q3 (.ref x :: vs) [(n, kv)] rfl rfl) B s3 st3
end
theorem upd_none {β : Type} {f : Addr → Option β} {a b : Addr} {x : β} (h : b ≠ a) (e : f b = none) : upd f a x b = none := by simp [upd, h, e]
end Mine
namespace Mine
theorem rangeN_up (n : Nat) : rangeN 0 n 1 = n := by
  unfold rangeN Builtin.Range.rangeSize
  rw [if_pos (by decide)]
  by_cases h : (0 : Int) < n
  · rw [if_pos h]; lia
  · rw [if_neg h]; lia
noncomputable def ExtBut (D : Addr) (H H' : AHeap) : Prop := ∀ b y, b ≠ D → H b = some y → H' b = some y
theorem ExtBut.refl (D : Addr) (H : AHeap) : ExtBut D H H := fun _ _ _ e => e
theorem ExtBut.of {D : Addr} {H H' : AHeap} (h : Ext H H') : ExtBut D H H' := fun b y _ e => h b y e
theorem ExtBut.trans {D : Addr} {H H' H'' : AHeap} (h : ExtBut D H H') (h' : ExtBut D H' H'') : ExtBut D H H'' := fun b y n e => h' b y n (h b y n e)
theorem ExtBut.put {D : Addr} {H H' : AHeap} {y : AObj} (h : ExtBut D H H') : ExtBut D H (upd H' D y) := fun b z n e => upd_ne n (h b z n e)
end Mine
namespace Mine
noncomputable def BaseL (c : Cx) (a : Addr) (xs : List V) : Prop := ∃ vs : List Value, c.base.IsList a vs.toArray ∧ vs.map er = xs
section
variable {k : Wk} {m : Loc} {H : AHeap}
theorem isList_stays {h h' : Heap} {a : Addr} {xs : Array Value} (hs : h.StaysIn h') (x : h.IsList a xs) : h'.IsList a xs := by
  refine Mine.hideG fun GG back => ?_
  obtain ⟨o, e1, e2, n, e3⟩ := x
  refine back ?_
  clear back
  exact ⟨o, hs a o e1, e2, n, e3⟩
end
/-! a place put aside -/
noncomputable def delA (p : Addr) (H : AHeap) : AHeap := fun b => if b = p then none else H b
theorem delA_at {p b : Addr} {H : AHeap} {y : AObj} (n : b ≠ p) (e : H b = some y) : delA p H b = some y := by unfold delA; rw [if_neg n]; exact e
end Mine
namespace Mine
theorem good_law {l : OpenLaw} {cl : Str → Option Addr} {mean : ExcName → Option Value} {args : List WData} {s₁ s' : Shared} {v : Value} (hv : v = .bool true) (hk : ∀ b o, s₁.heap.get? b = some o → s'.heap.get? b = some o) (hos : s'.os = s₁.os) (hg : s'.gens = #[]) :
    GoodW l.row.toRowW.claim cl mean args s₁ (.ok (.ret v)) s' := by
  subst hv
  exact ⟨.inl ⟨.bool true, .bool true, [], rfl, fun _ => rfl, .bool true, by show (WShape.has [] (.bool true) .bool && WTm.holds [] (.eq .res (.lit (.bool true))) { args := args, res := some (.bool true), after := args }) = true; (simp [WShape.has, WShape.arms, WTm.holds, WTm.value]; rw [show same (WData.bool true) (WData.bool true) = true by decide +kernel]), fun _ => ⟨List.nodup_nil, fun _ h => by cases h⟩⟩, hk, hos, hg⟩
end Mine
namespace Mine
theorem fnAt_K {c : Cx} {f : Addr} {st : Stmt} {name qual : Str} {doc pm cdv ct oc dV kV : Value} {an od : Option Addr} {osl : Array (Option Value)} (ho : c.K.lookup f = some ⟨oc, od, .func (fnOf name qual (fnParams st) (fnBody st) (fnScope st) dV kV doc pm an cdv ct), osl⟩)
    (hcd : codeIn c.K cdv qual = true) (hk : (fnScope st).kind = .function) (hc : (fnScope st).isCoroutine = false) (hg : (fnScope st).isGenerator = false) (hn : ((fnScope st).names.map (·.1)).Nodup) : FnAt c f (fnOf name qual (fnParams st) (fnBody st) (fnScope st) dV kV doc pm an cdv ct) (fnBody st) where
  obj := ⟨_, c.inK _ _ ho, rfl⟩
  code := codeRec_of c.inK hcd
  body := rfl
  kind := hk
  co := hc
  gen := hg
  glob := rfl
  blt := rfl
  clo := rfl
  names := hn
theorem defAt_K {c : Cx} {f : Addr} {st : Stmt} {name qual : Str} {doc pm cdv ct oc : Value} {an od : Option Addr} {osl : Array (Option Value)} (ho : c.K.lookup f = some ⟨oc, od, .func (fnOf name qual (fnParams st) (fnBody st) (fnScope st) .none .none doc pm an cdv ct), osl⟩)
    (hcd : codeIn c.K cdv qual = true) (hk : (fnScope st).kind = .function) (hc : (fnScope st).isCoroutine = false) (hg : (fnScope st).isGenerator = false) (hn : ((fnScope st).names.map (·.1)).Nodup) : DefAt c f st :=
  ⟨⟨_, fnAt_K ho hcd hk hc hg hn, rfl, rfl, rfl, rfl⟩⟩
theorem ns_at {K : Frag} {h : Heap} {N : Addr} {mk : Str → Option Value} {n : Str} {v : Value} (X : K.In h) (G : h.Ns N mk) (e : nsIn K N n = some (some v)) : mk n = some v := by
  refine Mine.hideG fun GG back => ?_
  obtain ⟨o, es, ep, ho, hd, _, hf⟩ := G
  refine back ?_
  clear back
  unfold nsIn at e
  split at e
  · rename_i cc d es' n' sl q
    have q' := X _ _ q
    rw [ho] at q'
    cases q'
    cases hd
    split at e
    · rename_i en he
      cases e
      rw [← hf]
      unfold nsFind findBy
      rw [← Array.find?_toList, he]
      rfl
    · split at e <;> cases e
  · cases e
theorem gl_K {c : Cx} {x : Str} {v : Value} (e : nsIn c.K mainGlobals x = some (some v)) : Gl c x v := .inl (mg_of c.inK c.top.g e)
theorem gl_B {c : Cx} {x : Str} {v : Value} (e : nsIn c.K mainGlobals x = some none) (hv : bootBuiltins x = some v) (hn : x ≠ "__name__") : Gl c x v := .inr ⟨mg_none_of c.inK c.top.g e, (c.top.builtins x hn).trans hv⟩
theorem intsAre_er : ∀ {vals : List Value} {ns : List Int}, IntsAre vals ns → vals.map er = ns.map .int := fun {vals ns} h => by
  induction h with
  | nil => rfl
  | cons h => simp [er]; assumption
end Mine
namespace Mine
section
variable {c : Cx} {A : Around} {E : Value → Shared → Prop} {s : Shared}
theorem dictSetDefault_at {d : Addr} {rvs : List (Key × Value)} {ep : Nat} {k : Key} {key v : Value} {Q : Value → Shared → Prop} (hkey : isKey k key = true) (hm : s.heap.DictAt (mix c.prog c.w) d rvs ep)
    (h1 : ∀ u, valueAt rvs k = some u → Q u { s with toks := s.toks + 1 })
    (h2 : valueAt rvs k = none → ∀ h', h'.DictAt (mix c.prog c.w) d (rvs ++ [(k, v)]) (ep + 1) → Heap.SameBut d s.heap h' → Q v { s with heap := h', toks := s.toks + 1 })
    (hsz : rvs.length ≤ sizeLine) : wpAny (model c.prog c.w) A (dictSetDefault d key v) Q E s := by
  obtain ⟨o, es, ho, hc, hd, hk, hp, hn⟩ := hm
  have hes : es.size ≤ sizeLine := by
    have e1 := hp.length
    have e2 : es.toList.length = es.size := by simp
    lia
  have hkey' : (mix c.prog c.w).is k key = true := hkey
  unfold dictSetDefault
  try with_reducible refine wpAny_holding ?_
  refine wpAny_bind ((mix c.prog c.w).pyHash hkey' ?_)
  refine wpAny_bind (wpAny_dictFind_of (s := { s with toks := s.toks + 1 }) hkey' ho hd hk ?_)
  have hidx : (es.findIdx? fun e => (mix c.prog c.w).is k e.key) = rvs.findIdx? fun kv => decide (kv.1 = k) := by
    rw [← hp.findIdx k]; obtain ⟨l⟩ := es; simp
  cases hi : es.findIdx? fun e => (mix c.prog c.w).is k e.key with
  | some i =>
    have hl : (es.toList.findIdx? fun e => (mix c.prog c.w).is k e.key) = some i := by rw [← hi]; obtain ⟨l⟩ := es; simp
    obtain ⟨e, he, hek, hev⟩ := hp.at hl
    refine wpAny_bind (wpAny_dictEntries (s := { s with toks := s.toks + 1 }) ho hd ?_)
    rw [show es[i]? = some e by rw [← Array.getElem?_toList]; exact he]
    exact wpAny_bind (wpAny_rule (wpAny_pure (h1 e.val hev)))
  | none =>
    have hnot : k ∉ rvs.map (·.1) := not_mem_of_findIdx_none (hidx ▸ hi)
    have hv : valueAt rvs k = none := by
      rw [← hp.find k]
      have : (es.toList.find? fun e => (mix c.prog c.w).is k e.key) = none := by
        rw [List.find?_eq_none]
        intro e he
        have := Array.findIdx?_eq_none_iff.mp hi e (Array.mem_toList_iff.mp he)
        simpa using this
      rw [this]; rfl
    refine wpAny_bind (wpAny_rule (wpAny_bind (wpAny_updateDictKeys (hz := hes) (s := { s with toks := s.toks + 1 }) ho hd (wpAny_pure (h2 hv _ ⟨_, _, Heap.get?_update_self _ ho (Obj.isFreed_of_dict (Obj.data_mapDictKeys hd _)),
      hc.mapDictKeys _, Obj.data_mapDictKeys hd _, hk.push hkey' _, ?_, ?_⟩ (Heap.SameBut.update ..))))))
    · have := hp.append hkey' ((mix c.prog c.w).hash k) v
      obtain ⟨l⟩ := es
      simpa using this
    · rw [List.map_append, List.nodup_append]
      refine ⟨hn, by simp, ?_⟩
      intro a ha b hb
      simp only [List.map_cons, List.map_nil, List.mem_singleton] at hb
      subst hb
      exact fun e => hnot (e ▸ ha)
theorem meets_setdefault_at {d : Addr} {k : Key} {key v : Value} (hkey : isKey k key = true) (hd : (d == sysModules) = false) :
    MeetsIn c.prog c.w (Builtin.«dict.setdefault» ⟨[.ref d, key, v], []⟩) (fun _ R s => ∃ rvs ep, s.heap.DictAt (mix c.prog c.w) d rvs ep ∧ rvs.length ≤ sizeLine ∧
      (∀ u, valueAt rvs k = some u → R (.ok (.ret u)) { s with toks := s.toks + 1 }) ∧
      (valueAt rvs k = none → ∀ h', h'.DictAt (mix c.prog c.w) d (rvs ++ [(k, v)]) (ep + 1) → Heap.SameBut d s.heap h' → R (.ok (.ret v)) { s with heap := h', toks := s.toks + 1 })) :=
  .of_wp fun A R s ⟨rvs, ep, hm, hz, h1, h2⟩ => by
    unfold Builtin.«dict.setdefault»
    refine wpAny_bind ?_
    unfold Builtin.Dict.keyAndDefault
    refine wpAny_bind (wpAny_notOrdered_dict hm.dictOf.typeIs ?_)
    show wpAny _ _ (pure (d, key, some v)) _ _ s
    refine wpAny_pure ?_
    show wpAny _ _ (if (d == sysModules) = true then _ else (dictSetDefault d key v >>= _)) _ _ s
    rw [if_neg (by rw [hd]; exact Bool.false_ne_true)]
    exact wpAny_bind (dictSetDefault_at hkey hm (fun u hv => wpAny_pure ⟨u, rfl, h1 u hv⟩) (fun hn h' hm' hs' => wpAny_pure ⟨v, rfl, h2 hn h' hm' hs'⟩) hz)
end
section
variable {k : Wk} {m : Loc} {H : AHeap}
theorem WCall_tupleL {a : Addr} {xs : List V} {Q : V → Loc → AHeap → Prop} (ha : H a = some (.list xs)) (hz : xs.length ≤ sizeLine) (h : ∀ p, H p = none → Q (.ref p) m (upd H p (.tup xs))) : WCall k (.type "tuple") [.ref a] m H Q := fun vs e B s st => by
  obtain ⟨x, rfl, e'⟩ := map_er1 e
  obtain rfl := er_ref e'
  obtain ⟨vs, n, hl, rfl⟩ := st.listAt ha
  refine call_tuple_list (items := (vs : List Value).toArray) hl.isList (fun h' hk => ?_) (by simpa using hz)
  obtain ⟨h1, h2⟩ := (st.grown (h' := h') (tk := s.toks) hk st.tk).newTup vs
  exact ⟨m, _, h2, h _ h1⟩
theorem WCall_setdefault {d : Addr} {kvs : List (Key × V)} {ep : Nat} {key : Key} {kv v : V} {Q : V → Loc → AHeap → Prop} (hd : H d = some (.dict kvs ep)) (hk : isKV key kv = true) (hz : kvs.length ≤ sizeLine)
    (h1 : ∀ u, getK kvs key = some u → Q u m H) (h2 : getK kvs key = none → Q v m (upd H d (.dict (kvs ++ [(key, v)]) (ep + 1)))) : WCall k (.builtin "dict.setdefault") [.ref d, kv, v] m H Q := fun vs e B s st => by
  obtain ⟨x, y, z, rfl, e1, e2, e3⟩ := map_er3 e
  obtain rfl := er_ref e1
  obtain ⟨rvs, hm, rfl⟩ := st.dictAt hd
  have hkey : isKey key y = true := by rw [isKey_er, e2]; exact hk
  refine call_meetsIn F.slot_dict_setdefault hm.dictOf.typeIs F.entry_dict_setdefault (F.args_dict_setdefault_3 _ _ _) (meets_setdefault_at (c := k.c) (v := z) hkey (st.notMods hd)) ⟨rvs, ep, hm, by simpa using hz, fun u hu => ?_, fun hn h' hm' hs => ?_⟩
  · have hg : getK (rvs.map erP) key = some (er u) := by rw [getK_er, hu]; rfl
    exact ⟨m, H, st.toks _ (Nat.le_add_left 1 _), h1 _ hg⟩
  · have hg : getK (rvs.map erP) key = none := by rw [getK_er, hn]; rfl
    obtain ⟨ob, ho, hI⟩ := of_dictAt hm'
    have st' := st.put (tk := s.toks + 1) (y := .dict ((rvs ++ [(key, z)]).map erP) (ep + 1)) hd (fun b ob hb e => by rw [hs.2 b hb]; exact e) ⟨ob, ho, hI⟩ (Nat.le_add_left 1 _)
    refine ⟨m, _, st', ?_⟩
    have := h2 hg
    rw [← e3] at this
    show Q (er z) m _
    rw [List.map_append]
    exact this
theorem WBin_addBL {a b : Addr} {xs ys : List V} {Q : V → Loc → AHeap → Prop} (ha : BaseL k.c a xs) (hb : H b = some (.list ys)) (hz : xs.length + ys.length ≤ sizeLine) (h : ∀ p, H p = none → Q (.ref p) m (upd H p (.list (xs ++ ys)))) : WBin k .Add (.ref a) (.ref b) m H Q := fun x y e1 e2 B s st => by
  obtain rfl := er_ref e1
  obtain rfl := er_ref e2
  obtain ⟨vs, hl, rfl⟩ := ha
  obtain ⟨us, n2, hb', rfl⟩ := st.listAt hb
  obtain ⟨⟨cls, dd, data, sl⟩, ho, hc, n, hd⟩ := isList_stays st.base hl
  simp only at hc hd
  subst hc hd
  refine concat_meets ⟨_, ho, rfl⟩ ⟨_, hb', rfl⟩ noFill_list_add seq_list_add PySem.F.slot_list_add PySem.F.entry_list_add (PySem.F.args_list_add_2 _ _) (list_addW a b vs.toArray us.toArray n n2 dd none sl #[] (by simpa using hz)) ⟨ho, hb', ?_⟩
  obtain ⟨h1, h2⟩ := st.newList (vs ++ us)
  have e : vs.toArray ++ us.toArray = (vs ++ us).toArray := by simp
  rw [e]
  refine ⟨m, _, h2, ?_⟩
  have := h _ h1
  rw [← List.map_append] at this
  exact this
theorem ints_of {vs : List Value} {ns : List Int} (h : vs.map er = ns.map .int) : IntsAre vs ns := by
  induction vs generalizing ns with
  | nil => cases ns with
    | nil => exact .nil
    | cons n ns => cases h
  | cons v vs ih => cases ns with
    | nil => cases h
    | cons n ns =>
      injection h with h1 h2
      obtain ⟨t, rfl⟩ := er_int h1
      exact .cons n t (ih h2)
theorem WCall_sumB {a : Addr} {ns : List Int} {Q : V → Loc → AHeap → Prop} (hh : k.A.handled = none) (ha : BaseL k.c a (ns.map .int)) (h : Q (.int ns.sum) m H) : WCall k (.builtin "sum") [.ref a] m H Q := fun vs e B s st => by
  obtain ⟨x, rfl, e'⟩ := map_er1 e
  obtain rfl := er_ref e'
  obtain ⟨vs, hl, hv⟩ := ha
  have hi := ints_of hv
  obtain ⟨xs, hx⟩ := hi.allInts.items
  have hl' : s.heap.IsList a (intItems xs) := hx ▸ isList_stays st.base hl
  refine wpAny_mono (wpAny_toks_of st.tk (sum_intListG (Q := fun v s' => er v = .int ns.sum ∧ ∃ h' tk, s' = { s with heap := h', toks := tk } ∧ ∀ b o, s.heap.get? b = some o → h'.get? b = some o) (E := fun _ _ => False) hh hl' fun h' tk t' hk => ?_)) (fun v s' q => ?_) (fun e s' q => q.2.elim)
  · have e1 : ns = xs.toList.map (·.1) := by
      rw [← nums_intItems, ← hx]
      exact (show numsOf vs.toArray.toList = ns from hi.numsOf).symm
    have e2 : preSum (numAt xs) xs.size = ns.sum := by
      rw [preSum_eq, List.take_of_length_le (by simp), e1]
    exact ⟨by rw [e2]; rfl, h', tk, rfl, hk⟩
  · obtain ⟨ht, hv, h', tk, rfl, hk⟩ := q
    refine ⟨m, H, st.grown hk ht, ?_⟩
    show Q (er v) m H
    rw [hv]; exact h
theorem WBin_mulL {a : Addr} {xs : List V} {n : Int} {Q : V → Loc → AHeap → Prop} (ha : H a = some (.list xs)) (h0 : -(2 ^ 63 : Int) ≤ n) (h1 : n < 2 ^ 63) (hz : xs.length * n.toNat ≤ 2 ^ 24) (hne : xs ≠ []) (h : ∀ p, H p = none → Q (.ref p) m (upd H p (.list (List.replicate n.toNat xs).flatten))) : WBin k .Mult (.ref a) (.int n) m H Q := fun x y e1 e2 B s st => by
  obtain rfl := er_ref e1
  obtain ⟨t, rfl⟩ := er_int e2
  obtain ⟨vs, c, hl, rfl⟩ := st.listAt ha
  have hne' : vs.toArray.isEmpty = false := by
    cases vs with
    | nil => simp at hne
    | cons v vs => rfl
  refine wpAny_binaryOp_repeat_ref (T := "list") (U := "int") (by decide) ⟨_, hl, rfl⟩ (fun s' => typeIs_int s' n t) noFill_list_mul F.fills_int_mul F.slot_int_rmul repeat_list F.slot_int_index.lookup
    (call_meets F.slot_int_rmul (typeIs_int s n t) F.entry_int_rmul (F.args_int_rmul_2 _ _) (int___rmul___int_list n t a vs.toArray c)
      ⟨hl, rfl, ⟨_, hl, rfl⟩, call_meets F.slot_list_mul ⟨_, hl, rfl⟩ F.entry_list_mul (F.args_list_mul_2 _ _)
        (AutoListH.list___mul___list_int_3 a vs.toArray c n t (by simp [Builtin.List.listFitsIndex]; lia) (by simp at hz ⊢; lia) (by simp at hz; simp [Builtin.List.listTooLong, sizeLine]; lia))
        ⟨hl, ?_⟩⟩)
  rw [hne']
  simp only [Bool.false_eq_true, if_false, listMul_foldl]
  obtain ⟨f1, f2⟩ := st.newList (List.replicate n.toNat vs).flatten
  refine ⟨m, _, by simpa using f2, ?_⟩
  have := h _ f1
  exact this
theorem WCmp_notInList {x : V} {a : Addr} {xs : List V} {Q : V → Loc → AHeap → Prop} (ha : H a = some (.list xs)) (hs : ∀ v ∈ xs, simpleV v = true) (hx : simpleV x = true) (h : Q (.bool (!xs.any fun v => eqKV v x)) m H) : WCmp k .NotIn x (.ref a) m H Q := fun u y hu hy => by
  subst hu
  obtain rfl := er_ref hy
  refine W.of_wp fun B s st P hp => ?_
  obtain ⟨vs, n, hl, rfl⟩ := st.listAt ha
  refine SeqAt.notIn_listAt (items := (vs : List Value).toArray) (fun v => eqKV (er v) (er u)) hl.isList (fun v hv => (eqGives_simple (hs _ (List.mem_map_of_mem (f := er) (by simpa using hv))) hx).at _ _) ?_
  have e : (vs.toArray.any fun v => eqKV (er v) (er u)) = (vs.map er).any fun v => eqKV v (er u) := by
    rw [List.any_map, ← Array.any_toList]; rfl
  rw [e]; exact hp _ s.toks h
end
end Mine
namespace Mine
open SeqAt AutoSeq1 MeetsSeq MeetsSeq2 MeetsSeq3
noncomputable def EqTo (prog : Program) (w : World) (A : Around) (s : Shared) (y x : Value) : Prop := ∀ (E : Value → Shared → Prop) (Q : Bool → Shared → Prop), Q true s → wpAny (model prog w) A (eqBool y x) Q E s
section
variable {prog : Program} {w : World} {A : Around} {R : Result → Shared → Prop} {s : Shared} {l b : Addr} {items items2 : Array Value} {n n2 : Nat} {dd dd2 : Option Addr} {sl sl2 : Array (Option Value)}
theorem sameLoop (hsz : items.size = items2.size) : ∀ (k i : Nat), items.size - i = k → s.heap.get? l = some { cls := .type "list", dict := dd, data := .seq items n, slots := sl } → s.heap.get? b = some { cls := .type "list", dict := dd2, data := .seq items2 n2, slots := sl2 } →
    (∀ j (h1 : j < items.size) (h2 : j < items2.size), EqTo prog w A.in1 s items[j] items2[j]) → R (.ok (.ret (.bool false))) s →
    wpAny (model prog w) A.in1 (Builtin.«list.__eq__.loop» ⟨[.ref l, .ref b, rawInt i, rawInt 3], []⟩) (fun fin s' => match fin with | .done f => R (.ok f) s' | .again c' => c'.quiet = true ∧ codeAny (model prog w) A c' R s') (fun e s' => R (.error e) s') s := by
  intro k
  induction k with
  | zero =>
    intro i hk hl hb he hR
    obtain ⟨hp, g, d, tk, os⟩ := s
    wp_walk using wpAny_loadPart' hl, wpAny_loadPart' hb
    rw [show items[((i : Nat) : Int).toNat]? = none by simp; omega, show items2[((i : Nat) : Int).toNat]? = none by simp; omega]
    wp_walk using wpAny_loadPart' hl, wpAny_loadPart' hb
    show R (.ok (.ret (.bool (items.size != items2.size)))) _
    rw [hsz]
    simpa using hR
  | succ k ih =>
    intro i hk hl hb he hR
    obtain ⟨hp, g, d, tk, os⟩ := s
    have h1 : i < items.size := by omega
    have h2 : i < items2.size := by omega
    wp_walk using wpAny_loadPart' hl, wpAny_loadPart' hb
    rw [show items[((i : Nat) : Int).toNat]? = some items[i] by simp [h1], show items2[((i : Nat) : Int).toNat]? = some items2[i] by simp [h2]]
    refine wpAny_bind (he i h1 h2 _ _ ?_)
    wp_walk
    rw [show ((i : Int) + 1) = ((i + 1 : Nat) : Int) by omega]
    exact ⟨plainId_quiet plain_eq_loop _, codeAny_builtin entry_eq_loop (by
      rw [Around.under_plainId plain_eq_loop _]
      exact ih (i + 1) (by omega) hl hb he hR)⟩
theorem sameNe {E : Value → Shared → Prop} {Q : Value → Shared → Prop} (hl : s.heap.IsList l items) (hb : s.heap.IsList b items2) (hsz : items.size = items2.size) (hu : A.units < cLine)
    (he : ∀ j (h1 : j < items.size) (h2 : j < items2.size), EqTo prog w A.in1 s items[j] items2[j]) (h : Q (.bool false) s) : wpAny (model prog w) A (richCompare .NotEq (.ref l) (.ref b)) Q E s := by
  obtain ⟨⟨cls, dd, data, sl⟩, ho, hc, n, hd⟩ := id hl
  obtain ⟨⟨cls2, dd2, data2, sl2⟩, ho2, hc2, n2, hd2⟩ := id hb
  simp only at hc hd hc2 hd2
  subst hc hd hc2 hd2
  refine wpAny_richCompare_same_room (op := .NotEq) (T := "list") ⟨_, ho, rfl⟩ ⟨_, ho2, rfl⟩ F.slot_list_ne (wpAny_call (codeAny_call_builtin F.slot_list_ne.plain F.entry_list_ne (F.slot_list_ne.check _ _ _ _ _ _ _ _ ⟨_, ho, rfl⟩ (F.args_list_ne_2 _ _) ?_))) hu
  obtain ⟨hp, g, d, tk, os⟩ := s
  have f3 := AutoSeq1.sub_list_list
  have hne : ¬ (items.size != items2.size) = true := by simp [hsz]
  wp_walk using wpAny_loadPart' ho, wpAny_loadPart' ho2
  exact ⟨plainId_quiet plain_eq_loop _, codeAny_builtin entry_eq_loop (by
    rw [Around.under_plainId plain_eq_loop _]
    exact sameLoop (R := wants (fun v s' => v ≠ .notImplemented ∧ Q v s') E) hsz _ 0 rfl ho ho2 he ⟨(fun x => nomatch x), h⟩)⟩
end
section
variable {k : Wk} {m : Loc} {H : AHeap}
theorem isd_EqTo {B : BMap} {s : Shared} {A : Around} {e e' : Addr} {x : Str} {i : Int} {p p' : Nat} (st : St k.c k.o k.env B m H s) (hne : e ≠ e') (he : H e = some (.dict [(.inr x, .int i)] p)) (he' : H e' = some (.dict [(.inr x, .int i)] p')) (hu : A.units < cLine) :
    EqTo k.c.prog k.c.w A s (.ref e) (.ref e') := fun E Q hq => by
  obtain ⟨ra, da, ma⟩ := st.dictAt he
  obtain ⟨rb, db, mb⟩ := st.dictAt he'
  have one : ∀ r : List (Key × Value), r.map erP = [(.inr x, .int i)] → ∃ t, r = [(.inr x, .int i t)] := fun r hr => by
    cases r with
    | nil => cases hr
    | cons q r =>
      obtain ⟨a, b⟩ := q
      injection hr with hr hr'
      injection hr with h1 h2
      have h1 : a = .inr x := h1
      obtain ⟨t, h2⟩ := er_int h2
      have h2 : b = .int i t := h2
      have : r = [] := by simpa using hr'
      subst this; subst h1; subst h2
      exact ⟨t, rfl⟩
  obtain ⟨ta, rfl⟩ := one _ ma
  obtain ⟨tb, rfl⟩ := one _ mb
  unfold eqBool
  refine wpAny_holding ?_
  refine wpAny_ite_split (fun hab => absurd (by have := eq_of_beq hab; injection this) hne) (fun _ => ?_)
  refine wpAny_bind (keq_eq (r := true) (st.notMods he) (st.notMods he') da.dictOf db.dictOf hu (fun _ => ?_) (wpAny_truthy_bool hq))
  have h1 : SeqAt.EqAt A.in1 s (.int i ta) (.int i tb) true := by
    have := SeqAt.EqAt.int_int (A := A.in1) (s := s) i ta i tb
    rwa [beq_self_eq_true] at this
  exact KeqHits.hit (e := true) (b := true) (y := .int i tb) (by simp [valueAt]) h1 .nil
theorem WCmp_neIs {a b : Addr} {xs ys : List V} {x : Str} {i : Int} {Q : V → Loc → AHeap → Prop} (ha : H a = some (.list xs)) (hb : H b = some (.list ys)) (hl : xs.length = ys.length)
    (h : ∀ (j : Nat) u v, xs[j]? = some u → ys[j]? = some v → ∃ e e' p p', u = .ref e ∧ v = .ref e' ∧ e ≠ e' ∧ H e = some (.dict [(.inr x, .int i)] p) ∧ H e' = some (.dict [(.inr x, .int i)] p'))
    (hu : k.A.units + 64 < cLine) (hQ : Q (.bool false) m H) : WCmp k .NotEq (.ref a) (.ref b) m H Q := fun u v hu' hv' => by
  obtain rfl := er_ref hu'
  obtain rfl := er_ref hv'
  refine W.of_wp fun B s st P hp => ?_
  obtain ⟨vs, n, hls, rfl⟩ := st.listAt ha
  obtain ⟨ws, n2, hls2, rfl⟩ := st.listAt hb
  rw [List.length_map, List.length_map] at hl
  refine sameNe hls.isList hls2.isList (by simpa using hl) (by omega) (fun j h1 h2 => ?_) (hp _ s.toks hQ)
  have h1' : j < vs.length := by simpa using h1
  have h2' : j < ws.length := by simpa using h2
  obtain ⟨e, e', p, p', q1, q2, q3, q4, q5⟩ := h j (er vs[j]) (er ws[j]) (by rw [List.getElem?_map, List.getElem?_eq_getElem h1']; rfl) (by rw [List.getElem?_map, List.getElem?_eq_getElem h2']; rfl)
  have g1 := er_ref q1
  have g2 := er_ref q2
  show EqTo _ _ _ s (vs.toArray[j]) (ws.toArray[j])
  rw [show vs.toArray[j] = vs[j] from by simp, show ws.toArray[j] = ws[j] from by simp, g1, g2]
  exact isd_EqTo st q3 q4 q5 (by show k.A.units + 1 < cLine; omega)
end
end Mine
namespace Mine
theorem top_joinC {c : Cx} {name : Str} {scope : Scope} {fa : Addr} {cd : Value} {body : List Stmt} {mv cm : Str → Option Value} {s : Shared} {m : Loc}
    (hk : scope.kind = .function) (F : Fr c.base c.base.objs.size s.heap mv) (X : Cl c.base.objs.size (cellsFrom (c.base.objs.size + 1) scope.names []) s.heap cm) (hnd : ((cellsFrom (c.base.objs.size + 1) scope.names []).map (·.1)).Nodup) (hg : s.gens = #[]) (hos : s.os = c.os) (ht : 1 ≤ s.toks)
    (hm : ∀ x v, m x = some v → scope.names.lookup x = some .local ∧ ∃ u, mv x = some u ∧ er u = v)
    (h : ∀ k : Wk, k.c = c → k.env = envOfC name scope c.base.objs.size fa cd → k.A = callerA.deeper k.env → W k (execs body k.env) m (fun _ => none) (fun fl _ _ => flowV fl = .bool true)) :
    wpAny (model c.prog c.w) (callerA.deeper (envOfC name scope c.base.objs.size fa cd)) (execs body (envOfC name scope c.base.objs.size fa cd)) (fun f s' => flowV f = .bool true ∧ c.base.StaysIn s'.heap ∧ s'.os = c.os ∧ s'.gens = #[]) (fun _ _ => False) s := by
  let env := envOfC name scope c.base.objs.size fa cd
  have hout : outerOf env [] = [env] := if_pos rfl
  let k : Wk := {
    c := c, A := callerA.deeper env, o := ⟨[], fun _ => none⟩, env := env, E := fun _ _ => False, X := fun _ _ _ _ => False, here := False,
    pass := PassesOwn.never, fly := fun _ _ _ _ _ _ _ _ _ h => h, made := fun h => h.elim, kind := hk, glob := rfl, blt := rfl,
    frames := by show callerA.frames.map _ = some (outerOf env []); rw [hout]; rfl, fat := .inl rfl }
  have hcl : ∀ n a, (n, a) ∈ cellsFrom (c.base.objs.size + 1) scope.names [] → (cellsFrom (c.base.objs.size + 1) scope.names []).lookup n = some a := fun n a ha => lookup_of_mem_nodup hnd ha
  refine wpAny_mono (h k rfl rfl rfl (fun _ => none) s ?_) (fun v s' ⟨m', H', st, q⟩ => ⟨q, st.base, st.os, st.gens⟩) fun _ _ x => x
  refine ⟨F.keep, fun a ob l e => (by cases e), fun a x e => (by cases e), fun a x e => (by cases e), fun a x e => (by cases e), fun a q => ?_, ?_, fun a q => ?_, ⟨mv, F.ns, fun x v e => ?_⟩, ⟨fun e he => (by cases he), fun a x e => (by cases e)⟩, hg, hos, ht⟩
  · refine ⟨rfl, rfl, ?_⟩
    rcases List.mem_cons.mp q with q | q
    · rw [q]; exact Nat.le_refl _
    · obtain ⟨⟨n, b⟩, hb, rfl⟩ := List.mem_map.mp q
      exact Nat.le_of_lt (X.above n b hb)
  · show (c.base.objs.size :: (cellsFrom (c.base.objs.size + 1) scope.names []).map (·.2)).Nodup
    refine List.nodup_cons.mpr ⟨fun q => ?_, ?_⟩
    · obtain ⟨⟨n, b⟩, hb, e⟩ := List.mem_map.mp q
      have := X.above n b hb
      have e : b = c.base.objs.size := e
      rw [e] at this
      exact absurd this (Nat.lt_irrefl _)
    · exact List.pairwise_map.mpr X.apart
  · obtain ⟨⟨n, b⟩, hb, rfl⟩ := List.mem_map.mp q
    exact ⟨_, X.cell n b (hcl n b hb)⟩
  · obtain ⟨h1, u, h2, h3⟩ := hm x v e
    have : env.kindOf x = some .local := h1
    rw [this]
    exact ⟨u, h2, h3⟩
theorem fin_joinC {l : OpenLaw} {w : World} {s₀ s₁ : Shared} {mg mb : Str → Option Value} {p : Program} {loose : List Str} {mean : ExcName → Option Value} {K : Frag} {sa fa : Addr} {vals : List Value} {ns : List Int} {h₁ : Heap} {name : Str} {scope : Scope} {cd : Value} {body : List Stmt} {args : List WData} {E : Value → Shared → Prop} {s : Shared} {mv cm : Str → Option Value} {cells : List (Addr × Obj)}
    (kX : K.In s₁.heap) (kT : Top p loose mean mg mb s₁.heap) (kg : s₁.gens = #[]) (kL : s₁.heap.IsList sa vals.toArray) (kI : IntsAre vals ns) (kF : Fr s₁.heap s₁.heap.objs.size h₁ mv) (kN : News s₁.heap s₁.heap.objs.size h₁ cells) (kC : CellsAre cm (cellsFrom (s₁.heap.objs.size + 1) scope.names []) cells)
    (hmv : mv "script" = some (.ref sa)) (hnd : (scope.names.map (·.1)).Nodup)
    (hk : scope.kind = .function) (hsc : scope.names.lookup (Str.ofString "script") = some NameKind.local) (hh : s.heap = h₁) (hg : s.gens = s₁.gens) (hos : s.os = s₁.os) (htk : 1 ≤ s.toks)
    (hw : ∀ c : Cx, c.prog = l.row.toRowW.prog → c.K = K → c.w = w → c.p = p → c.base = s₁.heap → BaseL c sa (ns.map .int) → ∀ k : Wk, k.c = c → k.env = envOfC name scope s₁.heap.objs.size fa cd → k.A = callerA.deeper k.env → W k (execs body k.env) (setL noLoc "script" (.ref sa)) (fun _ => none) fun fl _ _ => flowV fl = .bool true) :
    wpAny (model l.row.toRowW.prog w) (callerA.deeper (envOfC name scope s₁.heap.objs.size fa cd)) (execs body (envOfC name scope s₁.heap.objs.size fa cd))
      (fun f s' => GoodW l.row.toRowW.claim (classAt s₀.heap) (ExcName.means s₀.heap) args s₁ (.ok (.ret (match f with | .ret v => v | _ => .none))) s') E s := by
  let c : Cx := ⟨l.row.toRowW.prog, w, s₁.heap, K, p, loose, mean, mg, mb, s₁.os, kX, kT⟩
  have hB : BaseL c sa (ns.map .int) := ⟨vals, kL, intsAre_er kI⟩
  have hnc := cellsFrom_names scope.names (s₁.heap.objs.size + 1) [] hnd List.nodup_nil (fun _ _ h => by cases h)
  have hpw := cellsFrom_pw scope.names (s₁.heap.objs.size + 1) [] List.nodup_nil (fun _ h => by cases h)
  have hCl : Cl s₁.heap.objs.size (cellsFrom (s₁.heap.objs.size + 1) scope.names []) h₁ cm := Cl.of_news (own := []) kN kC (List.pairwise_map.mp hpw) fun n a ha => by
    rcases cellsFrom_mem _ _ _ _ _ ha with h | ⟨h, _⟩
    · cases h
    · exact h
  refine wpAny_mono (top_joinC (c := c) (m := setL noLoc "script" (.ref sa)) hk (by rw [hh]; exact kF) (by rw [hh]; exact hCl) hnc (hg.trans kg) hos htk (fun x v e => ?_) (fun k h1 h2 h3 => hw c rfl rfl rfl rfl rfl hB k h1 h2 h3)) (fun f s' q => ?_) fun _ _ x => x.elim
  · unfold setL at e
    split at e
    · rename_i q
      subst q
      cases e
      exact ⟨hsc, .ref sa, hmv, rfl⟩
    · cases e
  · obtain ⟨q1, q2, q3, q4⟩ := q
    refine good_law ?_ q2 q3 q4
    cases f with
    | ret v => exact er_bool q1
    | _ => cases q1
end Mine
namespace Mine
section
variable {M : Model} {A : Around} {E : Value → Shared → Prop} {s : Shared}
theorem newEnv1 {scope : Scope} {globals : Addr} {x : Str} {v : Value} {qual : Str} {func : Option Addr} {code : Value} {builtins : Addr} {Q : Env → Shared → Prop}
    (hk : scope.kind = .function) (hx : scope.names.lookup x = some .local)
    (hQ : ∀ env, env = newEnv scope s.heap.objs.size globals (cellsFrom (s.heap.objs.size + 1) scope.names []) qual func code none builtins →
      ∀ s', InCallC s env.locals (bindL env.kindOf [(x, v)] fun _ => none) env.cells (bindC env.kindOf [(x, v)] fun _ => none) s' → 1 ≤ s'.toks → Q env s') :
    wpAny M A (newFunctionEnv scope globals [] [(x, v)] qual func code none builtins) Q E s := by
  simp only [newFunctionEnv, Option.isSome_none, Bool.false_eq_true, if_false]
  refine wpAny_bind (wpAny_alloc ?_)
  refine wpAny_bind (wpAny_layCells _ (fun name kind cells => by cases hkc : kind == NameKind.cell <;> simp [hkc]) _ _ _ _ ?_)
  have ok := cellsFrom_ok scope.names (s.heap.push { cls := .type "frame", data := .dict #[] }) (s.heap.objs.size + 1) [] ⟨fun _ _ hm => (nomatch hm), List.Pairwise.nil⟩ (by rw [Heap.size_push]; exact Nat.le_refl _)
  rw [Heap.size_push] at ok
  rw [show ({ s with heap := s.heap.push { cls := .type "frame", data := .dict #[] } } : Shared).heap.objs.size = s.heap.objs.size + 1 from Heap.size_push ..]
  let env := newEnv scope s.heap.objs.size globals (cellsFrom (s.heap.objs.size + 1) scope.names []) qual func code none builtins
  have hl : env.kindOf x = some .local := hx
  have hke : env.scope.kind = .function := hk
  have X0 : InCallC s env.locals (fun _ => none) env.cells (fun _ => none) { s with heap := pushCells (s.heap.push { cls := .type "frame", data := .dict #[] }) scope.names } :=
    ⟨⟨⟨_, _, rfl⟩, (Heap.Ns.new s.heap (.type "frame")).keeps (pushCells_keeps _ _), fun b o e => pushCells_keeps _ _ b o (Heap.get?_push_of_some _ e), Nat.le_refl _⟩,
      fun n c hc => (ok.empty n c (mem_of_lookup hc)).1, ok.apart, fun n c hm => (ok.empty n c hm).2⟩
  rw [List.forIn_cons]
  refine wpAny_bind (wpAny_bind (wpAny_bind ?_))
  refine wpAny_storeName_local (env := env) hl X0.toInCall.ns (fun h' hn' hs' => ?_) (by rw [hke]; rfl)
  refine wpAny_pure ?_
  refine wpAny_pure ?_
  refine wpAny_pure (hQ env rfl _ ⟨⟨⟨h', _, rfl⟩, ?_, fun b o e => ?_, X0.toInCall.fresh⟩, fun n c hc => ?_, X0.apart, X0.above⟩ (Nat.le_add_left 1 _))
  · unfold bindL bindL
    rw [if_pos hl]; exact hn'
  · exact hs'.extBut b o (Nat.ne_of_lt (Nat.lt_of_lt_of_le (Heap.lt_size e) X0.toInCall.fresh)) (X0.toInCall.keep b o e)
  · have := (X0.cell n c hc).sameBut hs' (Nat.ne_of_gt (X0.above n c (mem_of_lookup hc)))
    unfold bindC bindC
    rw [if_pos hl]; exact this
end
theorem call_cells1 {prog : Program} {w : World} {A : Around} {R : Result → Shared → Prop} {s : Shared} {name : Str} {params : Arguments} {body : List Stmt} {scope : Scope}
    {pm cd doc : Value} {a : Addr} {o : Obj} {args : List Value} {x : Str} {v : Value}
    (hroom : A.depth < recursionLimit) (ho : s.heap.get? a = some o) (hdata : o.data = .func (Calls.docDef name params body scope pm cd doc)) (hlim : s.heap.NoLimit) (hcd : s.heap.CodeRec cd name)
    (hbind : bindArgs (Calls.docDef name params body scope pm cd doc) ⟨args, []⟩ = pure [(x, v)]) (hx : scope.names.lookup x = some .local)
    (hnd : ((cellsFrom 0 scope.names []).map (·.1)).Nodup)
    (h : ∀ h₁ tk cells, 1 ≤ tk → Fr s.heap s.heap.objs.size h₁ (bindL (envOfC name scope s.heap.objs.size a cd).kindOf [(x, v)] fun _ => none) → News s.heap s.heap.objs.size h₁ cells →
      CellsAre (bindC (envOfC name scope s.heap.objs.size a cd).kindOf [(x, v)] fun _ => none) (cellsFrom (s.heap.objs.size + 1) scope.names []) cells →
      wpAny (model prog w) (A.deeper (envOfC name scope s.heap.objs.size a cd)) (execs body (envOfC name scope s.heap.objs.size a cd))
        (fun f s' => R (.ok (.ret (match f with | .ret v => v | _ => .none))) s')
        (fun e s' => wpAny (model prog w) (A.deeper (envOfC name scope s.heap.objs.size a cd)) (leaving (envOfC name scope s.heap.objs.size a cd) e)
          (fun _ s'' => R (.error e) s'') (fun e' s'' => R (.error e') s'') s')
        { s with heap := h₁, toks := tk })
    (hco : scope.isCoroutine = false := by rfl) (hgen : scope.isGenerator = false := by rfl) (hk : scope.kind = .function := by rfl) :
    codeAny (model prog w) A (.call (.ref a) ⟨args, []⟩) R s := by
  refine codeAny_call_function (fd := Calls.docDef name params body scope pm cd doc) (body := body) hroom ho hdata hco hgen rfl hcd ?_
  rw [hbind]
  refine wpAny_pure (newEnv1 hk hx fun env he s' X ht => ?_)
  subst he
  refine ⟨hlim.keeps X.toInCall.keep, codeAny_func ?_⟩
  obtain ⟨h₁, tk, rfl⟩ := X.toInCall.same
  obtain ⟨cells, N, Y⟩ := Cl.news (h₀ := s.heap) (L := s.heap.objs.size) (cm := bindC (envOfC name scope s.heap.objs.size a cd).kindOf [(x, v)] fun _ => none) (cs := cellsFrom (s.heap.objs.size + 1) scope.names []) (Nat.le_refl _) fun n c hm => ⟨X.cell n c (PyProof.Rows.lookup_of_mem_nodup (PyProof.Rows.cellsFrom_names scope.names 0 (s.heap.objs.size + 1) [] [] rfl ▸ hnd) hm), X.above n c hm⟩
  exact h h₁ tk cells ht ⟨X.toInCall.ns, X.toInCall.keep, X.toInCall.fresh⟩ N Y
theorem call_cells2 {prog : Program} {w : World} {A : Around} {R : Result → Shared → Prop} {s : Shared} {name : Str} {params : Arguments} {body : List Stmt} {scope : Scope}
    {pm cd doc dV kV : Value} {mg : Str → Option Value} {hD : Heap} {a : Addr} {o : Obj} {args : List Value} {x : Str} {v : Value}
    (hroom : A.depth < recursionLimit) (ho : s.heap.get? a = some o) (hdata : o.data = .func { Calls.docDef name params body scope pm cd doc with defaults := dV, kwdefaults := kV }) (hlim : s.heap.NoLimit) (hcd : s.heap.CodeRec cd name)
    (D : Dflts mg hD params [] dV kV) (hp : params.defaults = [])
    (hbind : bindArgs (Calls.docDef name params body scope pm cd doc) ⟨args, []⟩ = pure [(x, v)]) (hx : scope.names.lookup x = some .local)
    (hnd : ((cellsFrom 0 scope.names []).map (·.1)).Nodup)
    (h : ∀ h₁ tk cells, 1 ≤ tk → Fr s.heap s.heap.objs.size h₁ (bindL (envOfC name scope s.heap.objs.size a cd).kindOf [(x, v)] fun _ => none) → News s.heap s.heap.objs.size h₁ cells →
      CellsAre (bindC (envOfC name scope s.heap.objs.size a cd).kindOf [(x, v)] fun _ => none) (cellsFrom (s.heap.objs.size + 1) scope.names []) cells →
      wpAny (model prog w) (A.deeper (envOfC name scope s.heap.objs.size a cd)) (execs body (envOfC name scope s.heap.objs.size a cd))
        (fun f s' => R (.ok (.ret (match f with | .ret v => v | _ => .none))) s')
        (fun e s' => wpAny (model prog w) (A.deeper (envOfC name scope s.heap.objs.size a cd)) (leaving (envOfC name scope s.heap.objs.size a cd) e)
          (fun _ s'' => R (.error e) s'') (fun e' s'' => R (.error e') s'') s')
        { s with heap := h₁, toks := tk })
    (hco : scope.isCoroutine = false := by rfl) (hgen : scope.isGenerator = false := by rfl) (hk : scope.kind = .function := by rfl) :
    codeAny (model prog w) A (.call (.ref a) ⟨args, []⟩) R s := by
  have he := Dflts.none D hp; subst he
  have he := Dflts.noKw D; subst he
  exact call_cells1 hroom ho (fd_plain hdata) hlim hcd hbind hx hnd h hco hgen hk
end Mine
namespace Mine
/-! rings, and the trees below them -/
noncomputable def kindOf (seed r d : Nat) : Nat := (seed * (3 * r + d + 1) + d * (r + 1)) % 11
noncomputable def nm (d : Nat) : Str := if d = 0 then "a" else if d = 1 then "a.a" else ""
theorem nm_inj {d e : Nat} (hd : d < 3) (he : e < 3) (h : nm d = nm e) : d = e := by
  have hd' : d = 0 ∨ d = 1 ∨ d = 2 := by lia
  have he' : e = 0 ∨ e = 1 ∨ e = 2 := by lia
  rcases hd' with rfl | rfl | rfl <;> rcases he' with rfl | rfl | rfl <;> first | rfl | (exact absurd h (by decide))
theorem nm_is {d : Nat} : nm d ≠ "is" := by unfold nm; split; decide; split <;> decide
theorem nm_at {d : Nat} : nm d ≠ "at" := by unfold nm; split; decide; split <;> decide
noncomputable def walkP (seed m : Nat) (lists : Bool) : Nat → List Nat → Option (List Nat)
  | r, [] => some [r]
  | r, d :: ds => if kindOf seed r d = 4 ∨ kindOf seed r d = 8 then none else if (kindOf seed r d = 1 ∨ kindOf seed r d = 6) ∧ lists = false then none
    else if kindOf seed r d = 2 then some (r :: d :: ds) else walkP seed m lists ((3 * r + d) % m) ds
noncomputable def madeStep (p : List Nat) (acc : List Nat) (w : List Nat) : List Nat := match w[p.length]? with
  | some d => if w.take p.length = p ∧ d ∉ acc then acc ++ [d] else acc
  | none => acc
noncomputable def made (dues : List (List Nat)) (p : List Nat) : List Nat := dues.foldl (madeStep p) []
theorem made_snoc (dues : List (List Nat)) (w p : List Nat) : made (dues ++ [w]) p = madeStep p (made dues p) w := by
  unfold made; rw [List.foldl_append]; rfl
noncomputable def IsNode (m : Nat) (dues : List (List Nat)) (p : List Nat) : Prop := (∃ r, r < m ∧ p = [r]) ∨ (2 ≤ p.length ∧ ∃ w ∈ dues, p <+: w)
noncomputable def RingV (H : AHeap) (R : List Addr) (seed m r d : Nat) (v : V) : Prop := ∃ g, R[(3 * r + d) % m]? = some g ∧
  (kindOf seed r d = 1 → ∃ l e1 e2 p1 p2, v = .ref l ∧ H l = some (.list [.ref e1, .ref e2, .ref g]) ∧ H e1 = some (.dict [(.inr "is", .int (-1))] p1) ∧ H e2 = some (.dict [(.inr "is", .int (-1))] p2)) ∧
  (kindOf seed r d = 6 → ∃ l, v = .ref l ∧ H l = some (.list [.ref g])) ∧
  (kindOf seed r d = 8 → ∃ l l2, v = .ref l ∧ H l = some (.list [.ref l2]) ∧ H l2 = some (.list [.ref g])) ∧
  (kindOf seed r d = 4 → if (3 * r + d) % m % 2 = 1 then ∃ t, v = .str "a" t else v = .int 0) ∧
  (kindOf seed r d ≠ 1 → kindOf seed r d ≠ 6 → kindOf seed r d ≠ 8 → kindOf seed r d ≠ 4 → v = .ref g)
noncomputable def there (seed r : Nat) : List Nat := (List.range 3).filter fun d => decide (kindOf seed r d ≠ 2)
noncomputable def Head (H : AHeap) (R : List Addr) (seed m : Nat) (p : List Nat) (kvs : List (Key × V)) : Prop := match p with
  | [r] => ∃ vs : List V, vs.length = (there seed r).length ∧ kvs = (.inr "is", .int (r : Int)) :: ((there seed r).zip vs).map (fun q => (.inr (nm q.1), q.2)) ∧ ∀ (i d : Nat) v, (there seed r)[i]? = some d → vs[i]? = some v → RingV H R seed m r d v
  | _ => kvs = []
noncomputable def kids (A : List Nat → Addr) (p : List Nat) (ds : List Nat) : List (Key × V) := ds.map fun d => (.inr (nm d), .ref (A (p ++ [d])))
structure Forest (H : AHeap) (R : List Addr) (seed m : Nat) (dues : List (List Nat)) (A : List Nat → Addr) : Prop where
  ring : ∀ r, r < m → R[r]? = some (A [r])
  len : R.length = m
  node : ∀ p, IsNode m dues p → ∃ kvs ep, Head H R seed m p kvs ∧ H (A p) = some (.dict (kvs ++ kids A p (made dues p)) ep)
  inj : ∀ p q, IsNode m dues p → IsNode m dues q → A p = A q → p = q
  good : ∀ w ∈ dues, ∃ r t, w = r :: t ∧ r < m ∧ (∀ d ∈ t, d < 3) ∧ ∀ d u, t = d :: u → kindOf seed r d = 2
theorem mem_madeStep {p acc w : List Nat} {d : Nat} : d ∈ madeStep p acc w ↔ d ∈ acc ∨ (w[p.length]? = some d ∧ w.take p.length = p) := by
  unfold madeStep
  cases h : w[p.length]? with
  | none => simp
  | some e =>
    simp only
    split
    · rename_i q
      rw [List.mem_append, List.mem_singleton]
      constructor
      · rintro (q1 | rfl)
        · exact .inl q1
        · exact .inr ⟨rfl, q.1⟩
      · rintro (q1 | ⟨q1, _⟩)
        · exact .inl q1
        · exact .inr (Option.some.inj q1).symm
    · rename_i q
      constructor
      · exact .inl
      · rintro (q1 | ⟨q1, q2⟩)
        · exact q1
        · cases q1
          by_cases h1 : d ∈ acc
          · exact h1
          · exact absurd ⟨q2, h1⟩ q
theorem snoc_prefix {p w : List Nat} {d : Nat} : p ++ [d] <+: w ↔ w[p.length]? = some d ∧ w.take p.length = p := by
  constructor
  · rintro ⟨t, rfl⟩
    simp
  · rintro ⟨h1, h2⟩
    refine ⟨w.drop (p.length + 1), ?_⟩
    have hl : p.length < w.length := (List.getElem?_eq_some_iff.mp h1).1
    have : w = w.take p.length ++ w[p.length] :: w.drop (p.length + 1) := by rw [← List.drop_eq_getElem_cons hl, List.take_append_drop]
    rw [List.getElem?_eq_getElem hl] at h1
    have h3 := Option.some.inj h1
    rw [h2, h3] at this
    rw [List.append_assoc]
    exact this.symm
theorem mem_made {dues : List (List Nat)} {p : List Nat} {d : Nat} : d ∈ made dues p ↔ ∃ w ∈ dues, p ++ [d] <+: w := by
  have aux : ∀ (l : List (List Nat)) (acc : List Nat), d ∈ l.foldl (madeStep p) acc ↔ d ∈ acc ∨ ∃ w ∈ l, p ++ [d] <+: w := fun l => by
    induction l with
    | nil => intro acc; simp
    | cons w l ih =>
      intro acc
      rw [List.foldl_cons, ih, mem_madeStep, ← snoc_prefix]
      constructor
      · rintro ((h | h) | ⟨v, h1, h2⟩)
        · exact .inl h
        · exact .inr ⟨w, List.mem_cons_self, h⟩
        · exact .inr ⟨v, List.mem_cons_of_mem _ h1, h2⟩
      · rintro (h | ⟨v, h1, h2⟩)
        · exact .inl (.inl h)
        · rcases List.mem_cons.mp h1 with rfl | h1
          · exact .inl (.inr h2)
          · exact .inr ⟨v, h1, h2⟩
  have := aux dues []
  simpa [made] using this
theorem made_nodup (dues : List (List Nat)) (p : List Nat) : (made dues p).Nodup := by
  have aux : ∀ (l : List (List Nat)) (acc : List Nat), acc.Nodup → (l.foldl (madeStep p) acc).Nodup := fun l => by
    induction l with
    | nil => exact fun acc h => h
    | cons w l ih =>
      intro acc h
      refine ih _ ?_
      unfold madeStep
      split
      · split
        · rename_i q
          rw [List.nodup_append]
          exact ⟨h, by simp, fun a ha b hb e => by rw [List.mem_singleton.mp hb] at e; exact q.2 (e ▸ ha)⟩
        · exact h
      · exact h
  exact aux dues [] List.nodup_nil
theorem madeStep_of_not {p acc w : List Nat} (h : ∀ d, p ++ [d] <+: w → d ∈ acc) : madeStep p acc w = acc := by
  unfold madeStep
  split
  · rename_i d hd
    split
    · rename_i q
      exact absurd (h d (snoc_prefix.mpr ⟨hd, q.1⟩)) q.2
    · rfl
  · rfl
theorem madeStep_of {p acc w : List Nat} {d : Nat} (h : p ++ [d] <+: w) (hn : d ∉ acc) : madeStep p acc w = acc ++ [d] := by
  obtain ⟨h1, h2⟩ := snoc_prefix.mp h
  unfold madeStep
  rw [h1]
  exact if_pos ⟨h2, hn⟩
theorem snoc_unique {p w : List Nat} {d e : Nat} (h : p ++ [d] <+: w) (h' : p ++ [e] <+: w) : d = e := by
  have h1 := (snoc_prefix.mp h).1
  rw [(snoc_prefix.mp h').1] at h1
  exact (Option.some.inj h1).symm
theorem made_absorb {dues : List (List Nat)} {w w' p : List Nat} (h : w <+: w') : made (dues ++ [w] ++ [w']) p = made (dues ++ [w']) p := by
  rw [made_snoc, made_snoc, made_snoc]
  by_cases q : ∃ d, p ++ [d] <+: w
  · obtain ⟨d, hd⟩ := q
    have hd' := hd.trans h
    by_cases hm : d ∈ made dues p
    · rw [madeStep_of_not (w := w) fun e he => by rw [snoc_unique he hd]; exact hm]
    · rw [madeStep_of hd hm, madeStep_of hd' hm]
      exact madeStep_of_not fun e he => by rw [snoc_unique he hd']; simp
  · rw [madeStep_of_not (w := w) fun e he => absurd ⟨e, he⟩ q]
theorem IsNode.absorb {m : Nat} {dues : List (List Nat)} {w w' p : List Nat} (h : w <+: w') : IsNode m (dues ++ [w] ++ [w']) p ↔ IsNode m (dues ++ [w']) p := by
  unfold IsNode
  constructor
  · rintro (q | ⟨q, v, h1, h2⟩)
    · exact .inl q
    · refine .inr ⟨q, ?_⟩
      simp only [List.mem_append, List.mem_singleton] at h1
      rcases h1 with (h1 | rfl) | rfl
      · exact ⟨v, by simp [h1], h2⟩
      · exact ⟨w', by simp, h2.trans h⟩
      · exact ⟨v, by simp, h2⟩
  · rintro (q | ⟨q, v, h1, h2⟩)
    · exact .inl q
    · refine .inr ⟨q, v, ?_, h2⟩
      simp only [List.mem_append, List.mem_singleton] at h1 ⊢
      rcases h1 with h1 | rfl
      · exact .inl (.inl h1)
      · exact .inr rfl
theorem Forest.absorb {H : AHeap} {R : List Addr} {seed m : Nat} {dues : List (List Nat)} {w w' : List Nat} {A : List Nat → Addr} (h : w <+: w') (F : Forest H R seed m (dues ++ [w] ++ [w']) A) : Forest H R seed m (dues ++ [w']) A :=
  ⟨F.ring, F.len, fun p hp => by
    obtain ⟨kvs, ep, h1, h2⟩ := F.node p ((IsNode.absorb h).mpr hp)
    rw [made_absorb h] at h2
    exact ⟨kvs, ep, h1, h2⟩, fun p q hp hq e => F.inj p q ((IsNode.absorb h).mpr hp) ((IsNode.absorb h).mpr hq) e, fun v hv => F.good v (by
      simp only [List.mem_append, List.mem_singleton] at hv ⊢
      rcases hv with hv | rfl
      · exact .inl (.inl hv)
      · exact .inr rfl)⟩
theorem Forest.again {H : AHeap} {R : List Addr} {seed m : Nat} {dues : List (List Nat)} {w : List Nat} {A : List Nat → Addr} (F : Forest H R seed m dues A) (hw : IsNode m dues w) (hg : ∃ r t, w = r :: t ∧ r < m ∧ (∀ d ∈ t, d < 3) ∧ ∀ d u, t = d :: u → kindOf seed r d = 2) : Forest H R seed m (dues ++ [w]) A := by
  have hmade : ∀ p, made (dues ++ [w]) p = made dues p ∨ ∃ d, p = [] ∧ p ++ [d] <+: w := fun p => by
    rw [made_snoc]
    by_cases q : p = []
    · obtain ⟨r, t, rfl, _⟩ := hg
      exact .inr ⟨r, q, by rw [q]; exact ⟨t, rfl⟩⟩
    refine .inl (madeStep_of_not fun d hd => mem_made.mpr ?_)
    rcases hw with ⟨r, _, rfl⟩ | ⟨_, v, h1, h2⟩
    · have h := hd.length_le
      rw [List.length_append, List.length_singleton, List.length_singleton] at h
      exact absurd (List.eq_nil_of_length_eq_zero (by lia)) q
    · exact ⟨v, h1, hd.trans h2⟩
  have hnode : ∀ p, IsNode m (dues ++ [w]) p → IsNode m dues p := fun p hp => by
    rcases hp with q | ⟨q, v, h1, h2⟩
    · exact .inl q
    · rcases List.mem_append.mp h1 with h1 | h1
      · exact .inr ⟨q, v, h1, h2⟩
      · rw [List.mem_singleton.mp h1] at h2
        rcases hw with ⟨r, _, rfl⟩ | ⟨_, v', h3, h4⟩
        · have := h2.length_le; simp at this; lia
        · exact .inr ⟨q, v', h3, h2.trans h4⟩
  have hnn : ∀ p, IsNode m dues p → p ≠ [] := fun p hp e => by
    subst e
    rcases hp with ⟨r, _, q⟩ | ⟨q, _⟩
    · cases q
    · simp at q
  refine ⟨F.ring, F.len, fun p hp => ?_, fun p q hp hq e => F.inj p q (hnode p hp) (hnode q hq) e, fun v hv => ?_⟩
  · obtain ⟨kvs, ep, h1, h2⟩ := F.node p (hnode p hp)
    rcases hmade p with q | ⟨d, q, _⟩
    · rw [← q] at h2; exact ⟨kvs, ep, h1, h2⟩
    · exact absurd q (hnn p (hnode p hp))
  · rcases List.mem_append.mp hv with hv | hv
    · exact F.good v hv
    · rw [List.mem_singleton.mp hv]; exact hg
end Mine
namespace Mine
theorem getK_app (a b : List (Key × V)) (k : Key) : getK (a ++ b) k = match getK a k with | some v => some v | none => getK b k := by
  induction a with
  | nil => rfl
  | cons p r ih =>
    obtain ⟨q, w⟩ := p
    show (if q = k then some w else getK (r ++ b) k) = _
    by_cases h : q = k
    · rw [if_pos h]; simp [getK, h]
    · rw [if_neg h, ih]; simp [getK, h]
theorem getK_kids {A : List Nat → Addr} {p : List Nat} {d : Nat} (hd : d < 3) : ∀ {ds : List Nat}, (∀ e ∈ ds, e < 3) → getK (kids A p ds) (.inr (nm d)) = if d ∈ ds then some (.ref (A (p ++ [d]))) else none
  | [], _ => rfl
  | e :: ds, h => by
    show (if (Sum.inr (nm e) : Key) = Sum.inr (nm d) then some (V.ref (A (p ++ [e]))) else getK (kids A p ds) (.inr (nm d))) = _
    by_cases q : e = d
    · subst q; simp
    · rw [if_neg (fun z => q (nm_inj (h e List.mem_cons_self) hd (Sum.inr.inj z))), getK_kids hd fun x hx => h x (List.mem_cons_of_mem _ hx)]
      by_cases z : d ∈ ds
      · rw [if_pos z, if_pos (List.mem_cons_of_mem _ z)]
      · rw [if_neg z, if_neg]
        simp only [List.mem_cons, not_or]
        exact ⟨fun y => q y.symm, z⟩
theorem getK_kidsIs {A : List Nat → Addr} {p : List Nat} {x : Str} (hx : ∀ d, nm d ≠ x) : ∀ ds : List Nat, getK (kids A p ds) (.inr x) = none
  | [] => rfl
  | e :: ds => by
    show (if (Sum.inr (nm e) : Key) = Sum.inr x then some (V.ref (A (p ++ [e]))) else getK (kids A p ds) (.inr x)) = _
    rw [if_neg (fun z => hx e (Sum.inr.inj z)), getK_kidsIs hx ds]
theorem there_lt {seed r d : Nat} (h : d ∈ there seed r) : d < 3 ∧ kindOf seed r d ≠ 2 := by
  unfold there at h
  rw [List.mem_filter, List.mem_range] at h
  exact ⟨h.1, of_decide_eq_true h.2⟩
theorem mem_there {seed r d : Nat} (h : d < 3) (h2 : kindOf seed r d ≠ 2) : d ∈ there seed r := by
  unfold there
  rw [List.mem_filter, List.mem_range]
  exact ⟨h, decide_eq_true h2⟩
theorem there_nodup {seed r : Nat} : (there seed r).Nodup := List.nodup_range.filter _
theorem getK_ring : ∀ {ts : List Nat} {vs : List V} {d : Nat}, vs.length = ts.length → d < 3 → (∀ e ∈ ts, e < 3) → ts.Nodup → (∀ i : Nat, ts[i]? = some d → getK ((ts.zip vs).map fun q => ((.inr (nm q.1) : Key), q.2)) (.inr (nm d)) = vs[i]?) ∧ (d ∉ ts → getK ((ts.zip vs).map fun q => ((.inr (nm q.1) : Key), q.2)) (.inr (nm d)) = none)
  | [], vs, d, hl, hd, h3, hn => ⟨fun i e => by simp at e, fun _ => rfl⟩
  | e :: ts, [], d, hl, hd, h3, hn => by simp at hl
  | e :: ts, v :: vs, d, hl, hd, h3, hn => by
    obtain ⟨i1, i2⟩ := getK_ring (ts := ts) (vs := vs) (d := d) (by simpa using hl) hd (fun x hx => h3 x (List.mem_cons_of_mem _ hx)) (List.nodup_cons.mp hn).2
    have hne := (List.nodup_cons.mp hn).1
    have step : getK (((e :: ts).zip (v :: vs)).map fun q => ((.inr (nm q.1) : Key), q.2)) (.inr (nm d)) = if e = d then some v else getK ((ts.zip vs).map fun q => ((.inr (nm q.1) : Key), q.2)) (.inr (nm d)) := by
      show (if (Sum.inr (nm e) : Key) = Sum.inr (nm d) then some v else _) = _
      by_cases q : e = d
      · rw [if_pos (by rw [q]), if_pos q]
      · rw [if_neg (fun z => q (nm_inj (h3 e List.mem_cons_self) hd (Sum.inr.inj z))), if_neg q]; rfl
    rw [step]
    refine ⟨fun i hi => ?_, fun h => ?_⟩
    · cases i with
      | zero => cases hi; rw [if_pos rfl]; rfl
      | succ i =>
        have hi' : ts[i]? = some d := hi
        rw [if_neg (fun q => hne (by rw [q]; exact List.mem_of_getElem? hi')), i1 i hi']
        rfl
    · simp only [List.mem_cons, not_or] at h
      rw [if_neg (fun q => h.1 q.symm), i2 h.2]
theorem ring_noIs : ∀ (ts : List Nat) (vs : List V) (x : Str), (∀ d, nm d ≠ x) → getK ((ts.zip vs).map fun q => ((.inr (nm q.1) : Key), q.2)) (.inr x) = none
  | [], _, x, h => rfl
  | t :: ts, [], x, h => rfl
  | t :: ts, v :: vs, x, h => by
    show (if (Sum.inr (nm t) : Key) = Sum.inr x then some v else _) = none
    rw [if_neg (fun z => h t (Sum.inr.inj z))]
    exact ring_noIs ts vs x h
section
variable {H : AHeap} {R : List Addr} {seed m : Nat} {dues : List (List Nat)} {A : List Nat → Addr}
theorem made_lt (F : Forest H R seed m dues A) {p : List Nat} (hp : p ≠ []) {d : Nat} (h : d ∈ made dues p) : d < 3 ∧ IsNode m dues (p ++ [d]) := by
  obtain ⟨w, h1, h2⟩ := mem_made.mp h
  obtain ⟨r, t, rfl, h3, h4, h5⟩ := F.good w h1
  have hl : 2 ≤ (p ++ [d]).length := by
    rw [List.length_append, List.length_singleton]
    have := List.length_pos_iff.mpr hp
    lia
  refine ⟨?_, .inr ⟨hl, _, h1, h2⟩⟩
  cases p with
  | nil => exact absurd rfl hp
  | cons x p =>
    obtain ⟨u, hu⟩ := h2
    have hu' : x :: (p ++ [d] ++ u) = r :: t := by simpa using hu
    injection hu' with e1 e2
    exact h4 d (by rw [← e2]; simp)
theorem IsNode.ne_nil {p : List Nat} (h : IsNode m dues p) : p ≠ [] := fun e => by
  subst e
  rcases h with ⟨r, _, q⟩ | ⟨q, _⟩
  · cases q
  · simp at q
theorem Forest.notIs (F : Forest H R seed m dues A) {p : List Nat} (hp : IsNode m dues p) {e : Addr} {ep : Nat} (he : H e = some (.dict [(.inr "is", .int (-1))] ep)) : e ≠ A p := fun q => by
  obtain ⟨kvs, ep', h1, h2⟩ := F.node p hp
  rw [q, h2] at he
  injection he with he
  injection he with he _
  unfold Head at h1
  split at h1
  · obtain ⟨vs, _, rfl, _⟩ := h1
    rw [List.cons_append] at he
    injection he with he _
    injection he with _ he
    injection he with he
    lia
  · subst h1
    have hg : getK (kids A p (made dues p)) (.inr "is") = some (.int (-1)) := by rw [show kids A p (made dues p) = _ from he]; rfl
    rw [getK_kidsIs (fun d => nm_is)] at hg
    cases hg
noncomputable def KeepN (H H' : AHeap) : Prop := ∀ b y, H b = some y → (∀ kvs ep, y ≠ .dict kvs ep) → H' b = some y
theorem KeepN.refl (H : AHeap) : KeepN H H := fun _ _ e _ => e
theorem KeepN.trans {H H' H'' : AHeap} (h : KeepN H H') (h' : KeepN H' H'') : KeepN H H'' := fun b y e n => h' b y (h b y e n) n
theorem RingV.keep {H H' : AHeap} {r d : Nat} {v : V} (h : RingV H R seed m r d v) (hk : KeepN H H') (he : ∀ e ep, H e = some (.dict [(.inr "is", .int (-1))] ep) → H' e = some (.dict [(.inr "is", .int (-1))] ep)) : RingV H' R seed m r d v := by
  obtain ⟨g, h0, h1, h6, h8, h4, hx⟩ := h
  refine ⟨g, h0, fun q => ?_, fun q => ?_, fun q => ?_, h4, hx⟩
  · obtain ⟨l, e1, e2, p1, p2, a1, a2, a3, a4⟩ := h1 q
    exact ⟨l, e1, e2, p1, p2, a1, hk _ _ a2 (by simp), he _ _ a3, he _ _ a4⟩
  · obtain ⟨l, a1, a2⟩ := h6 q
    exact ⟨l, a1, hk _ _ a2 (by simp)⟩
  · obtain ⟨l, l2, a1, a2, a3⟩ := h8 q
    exact ⟨l, l2, a1, hk _ _ a2 (by simp), hk _ _ a3 (by simp)⟩
theorem Head.keep {H H' : AHeap} {p : List Nat} {kvs : List (Key × V)} (h : Head H R seed m p kvs) (hk : KeepN H H') (he : ∀ e ep, H e = some (.dict [(.inr "is", .int (-1))] ep) → H' e = some (.dict [(.inr "is", .int (-1))] ep)) : Head H' R seed m p kvs := by
  unfold Head at h ⊢
  split at h
  · obtain ⟨vs, h1, h2, h3⟩ := h
    exact ⟨vs, h1, h2, fun i d v e1 e2 => (h3 i d v e1 e2).keep hk he⟩
  · exact h
theorem Forest.child (F : Forest H R seed m dues A) {p : List Nat} {d : Nat} {kvs : List (Key × V)} {ep : Nat} {e : Addr} (hp : IsNode m dues p) (hg : ∃ r t, p ++ [d] = r :: t ∧ r < m ∧ (∀ d ∈ t, d < 3) ∧ ∀ d u, t = d :: u → kindOf seed r d = 2) (hd : d ∉ made dues p) (he : H e = none) (hh : Head H R seed m p kvs) (hn : H (A p) = some (.dict (kvs ++ kids A p (made dues p)) ep)) :
    Forest (upd (upd H e (.dict [] 0)) (A p) (.dict (kvs ++ kids A p (made dues p) ++ [(.inr (nm d), .ref e)]) (ep + 1))) R seed m (dues ++ [p ++ [d]]) (fun q => if q = p ++ [d] then e else A q) := by
  have hpn := hp.ne_nil
  have hnot : ¬ IsNode m dues (p ++ [d]) := fun h => by
    rcases h with ⟨r, _, q⟩ | ⟨_, w, h1, h2⟩
    · cases p with
      | nil => exact hpn rfl
      | cons x p => simp at q
    · exact hd (mem_made.mpr ⟨w, h1, h2⟩)
  have hnode : ∀ q, IsNode m (dues ++ [p ++ [d]]) q → IsNode m dues q ∨ q = p ++ [d] := fun q hq => by
    rcases hq with h | ⟨hl, w, h1, h2⟩
    · exact .inl (.inl h)
    · rcases List.mem_append.mp h1 with h1 | h1
      · exact .inl (.inr ⟨hl, w, h1, h2⟩)
      · rw [List.mem_singleton.mp h1] at h2
        rcases List.prefix_concat_iff.mp h2 with h2 | h2
        · exact .inr h2
        · refine .inl ?_
          rcases hp with ⟨r, hr, rfl⟩ | ⟨_, w, h3, h4⟩
          · have := h2.length_le; simp at this; lia
          · exact .inr ⟨hl, w, h3, h2.trans h4⟩
  have hmp : made (dues ++ [p ++ [d]]) p = made dues p ++ [d] := by rw [made_snoc, madeStep_of (List.prefix_refl _) hd]
  have hmq : ∀ q, IsNode m dues q → q ≠ p → made (dues ++ [p ++ [d]]) q = made dues q := fun q hq hqp => by
    rw [made_snoc]
    refine madeStep_of_not fun x hx => mem_made.mpr ?_
    rcases List.prefix_concat_iff.mp hx with hx | hx
    · exact absurd (List.append_inj_left' hx rfl) hqp
    · rcases hp with ⟨r, hr, rfl⟩ | ⟨_, w, h3, h4⟩
      · have h := hx.length_le
        rw [List.length_append, List.length_singleton, List.length_singleton] at h
        exact absurd (List.eq_nil_of_length_eq_zero (by lia)) hq.ne_nil
      · exact ⟨w, h3, hx.trans h4⟩
  have hmn : made (dues ++ [p ++ [d]]) (p ++ [d]) = [] := by
    rw [made_snoc, madeStep_of_not]
    · cases hm : made dues (p ++ [d]) with
      | nil => rfl
      | cons x xs =>
        obtain ⟨w, h1, h2⟩ := mem_made.mp (show x ∈ made dues (p ++ [d]) by rw [hm]; simp)
        exact absurd (mem_made.mpr ⟨w, h1, (List.prefix_append _ _).trans h2⟩) hd
    · intro x hx
      have := hx.length_le
      simp at this
  have hne : A p ≠ e := fun q => by rw [q, he] at hn; cases hn
  have hAe : ∀ q, IsNode m dues q → A q ≠ e := fun q hq z => by
    obtain ⟨_, _, _, h⟩ := F.node q hq
    rw [z, he] at h; cases h
  have hneq : ∀ q, IsNode m dues q → q ≠ p ++ [d] := fun q hq z => hnot (z ▸ hq)
  have hKN : KeepN H (upd (upd H e (.dict [] 0)) (A p) (.dict (kvs ++ kids A p (made dues p) ++ [(.inr (nm d), .ref e)]) (ep + 1))) := fun b y hb n => upd_ne (fun q => by rw [q, hn] at hb; exact n _ _ (Option.some.inj hb).symm) (upd_fresh he hb)
  have hKE : ∀ b ep', H b = some (.dict [(.inr "is", .int (-1))] ep') → upd (upd H e (.dict [] 0)) (A p) (.dict (kvs ++ kids A p (made dues p) ++ [(.inr (nm d), .ref e)]) (ep + 1)) b = some (.dict [(.inr "is", .int (-1))] ep') := fun b ep' hb => upd_ne (F.notIs hp hb) (upd_fresh he hb)
  have hkids : ∀ q, IsNode m dues q → kids (fun q => if q = p ++ [d] then e else A q) q (made dues q) = kids A q (made dues q) := fun q hq => by
    unfold kids
    refine List.map_congr_left fun x hx => ?_
    have hne : q ++ [x] ≠ p ++ [d] := fun z => by
      have h1 := List.append_inj_left' z rfl
      have h2 := List.append_inj_right' z rfl
      rw [h1, List.singleton_inj.mp h2] at hx
      exact hd hx
    simp only [if_neg hne]
  refine ⟨fun r hr => ?_, F.len, fun q hq => ?_, fun q q' hq hq' hz => ?_, fun w hw => ?_⟩
  · simp only [if_neg (hneq [r] (.inl ⟨r, hr, rfl⟩))]
    exact F.ring r hr
  · rcases hnode q hq with hq | rfl
    · simp only [if_neg (hneq q hq)]
      by_cases hqp : q = p
      · subst hqp
        refine ⟨kvs, ep + 1, hh.keep hKN hKE, ?_⟩
        rw [upd_same, hmp]
        have : kids (fun z => if z = q ++ [d] then e else A z) q (made dues q ++ [d]) = kids A q (made dues q) ++ [(.inr (nm d), .ref e)] := by
          have := hkids q hp
          unfold kids at this ⊢
          rw [List.map_append, this]
          simp
        rw [this, List.append_assoc]
      · obtain ⟨kvs', ep', h1, h2⟩ := F.node q hq
        refine ⟨kvs', ep', h1.keep hKN hKE, ?_⟩
        rw [hmq q hq hqp, hkids q hq]
        exact upd_ne (fun z => hqp (F.inj q p hq hp z)) (upd_fresh he h2)
    · simp only [if_true]
      refine ⟨[], 0, ?_, ?_⟩
      · unfold Head
        split
        · rename_i r h
          cases p with
          | nil => exact absurd rfl hpn
          | cons x p => simp at h
        · rfl
      · rw [hmn]
        exact upd_ne (fun z => hne z.symm) upd_same
  · rcases hnode q hq with hq | rfl <;> rcases hnode q' hq' with hq' | rfl
    · simp only [if_neg (hneq q hq), if_neg (hneq q' hq')] at hz
      exact F.inj q q' hq hq' hz
    · simp only [if_neg (hneq q hq), if_true] at hz
      exact absurd hz (hAe q hq)
    · simp only [if_neg (hneq q' hq'), if_true] at hz
      exact absurd hz.symm (hAe q' hq')
    · rfl
  · rcases List.mem_append.mp hw with hw | hw
    · exact F.good w hw
    · rw [List.mem_singleton.mp hw]; exact hg
end
end Mine
namespace Mine
section
variable {R : List Addr} {seed m : Nat}
noncomputable def Way (seed m : Nat) (p : List Nat) : Prop := ∃ r t, p = r :: t ∧ r < m ∧ (∀ d ∈ t, d < 3) ∧ ∀ d u, t = d :: u → kindOf seed r d = 2
theorem Head.small {H : AHeap} {p : List Nat} {kvs : List (Key × V)} (h : Head H R seed m p kvs) : kvs.length ≤ 4 := by
  unfold Head at h
  split at h
  · rename_i r
    obtain ⟨vs, h1, rfl, _⟩ := h
    have : (there seed r).length ≤ 3 := by
      have := List.length_filter_le (fun d => decide (kindOf seed r d ≠ 2)) (List.range 3)
      rw [List.length_range] at this
      exact this
    simp only [List.length_cons, List.length_map, List.length_zip]
    lia
  · subst h; simp
theorem nodup_lt3 {l : List Nat} (hn : l.Nodup) (h : ∀ d ∈ l, d < 3) : l.length ≤ 3 := by
  have : l ⊆ List.range 3 := fun d hd => List.mem_range.mpr (h d hd)
  have := List.Nodup.length_le_of_subset hn this
  simpa using this
theorem Head.lacks {H : AHeap} {p : List Nat} {kvs : List (Key × V)} (h : Head H R seed m p kvs) {d : Nat} (hd : d < 3) (hw : Way seed m (p ++ [d])) : getK kvs (.inr (nm d)) = none := by
  unfold Head at h
  split at h
  · rename_i r
    obtain ⟨vs, h1, rfl, _⟩ := h
    obtain ⟨r', t, e, _, _, h2⟩ := hw
    cases e
    have hk := h2 d [] rfl
    show (if (Sum.inr "is" : Key) = Sum.inr (nm d) then _ else _) = none
    rw [if_neg (fun z => nm_is (Sum.inr.inj z).symm)]
    exact (getK_ring h1 hd (fun e he => (there_lt he).1) there_nodup).2 fun hm => (there_lt hm).2 hk
  · subst h; rfl
theorem Forest.down {acc : Bool} {Q : Addr → AHeap → Prop} {X : String → Option (List V) → AHeap → Prop} : ∀ (ds p : List Nat) (dues : List (List Nat)) (A : List Nat → Addr) (H : AHeap), Forest H R seed m dues A → IsNode m dues p → Way seed m (p ++ ds) →
    (∀ H' A', Forest H' R seed m (dues ++ [p ++ ds]) A' → KeepN H H' → (∀ q, IsNode m dues q → A' q = A q) → Q (A' (p ++ ds)) H') → Gw acc Q X (ds.map nm) (A p) H
  | [], p, dues, A, H, F, hp, hw, hQ => by
    rw [List.append_nil] at hQ hw
    exact hQ H A (F.again hp hw) (KeepN.refl H) fun _ _ => rfl
  | d :: ds, p, dues, A, H, F, hp, hw, hQ => by
    obtain ⟨kvs, ep, hh, hn⟩ := F.node p hp
    have hpn := hp.ne_nil
    have hw1 : Way seed m (p ++ [d]) := by
      obtain ⟨r, t, e, h1, h2, h3⟩ := hw
      cases p with
      | nil => exact absurd rfl hpn
      | cons x p =>
        injection e with e1 e2
        refine ⟨x, p ++ [d], rfl, e1 ▸ h1, fun y hy => h2 y (by rw [← e2]; simp at hy ⊢; rcases hy with hy | hy <;> simp [hy]), fun y u hu => ?_⟩
        rw [e1]
        cases p with
        | nil => injection hu with hu _; exact h3 y ds (by rw [← e2, ← hu]; rfl)
        | cons z p => injection hu with hu _; exact h3 y (p ++ d :: ds) (by rw [← e2, ← hu]; rfl)
    have hd3 : d < 3 := by
      obtain ⟨r, t, e, h1, h2, h3⟩ := hw1
      cases p with
      | nil => exact absurd rfl hpn
      | cons x p => injection e with e1 e2; exact h2 d (by rw [← e2]; simp)
    have hml : ∀ e ∈ made dues p, e < 3 := fun e he => (made_lt F hpn he).1
    have hsz : (kvs ++ kids A p (made dues p)).length < sizeLine := by
      have h1 := hh.small
      have h2 := nodup_lt3 (made_nodup dues p) hml
      rw [List.length_append, show sizeLine = _ from sizeLine_eq]
      simp only [kids, List.length_map]
      lia
    have happ : p ++ d :: ds = (p ++ [d]) ++ ds := by simp
    refine ⟨_, ep, hn, hsz, ?_⟩
    rw [getK_app, hh.lacks hd3 hw1, getK_kids hd3 hml]
    by_cases hm : d ∈ made dues p
    · rw [if_pos hm]
      have hpd := (made_lt F hpn hm).2
      obtain ⟨kvs', ep', h1, h2⟩ := F.node _ hpd
      refine ⟨by simp [tyOf, h2], fun a xs e e' => ?_, ?_⟩
      · cases e; rw [h2] at e'; cases e'
      · have hl : lastOf acc H (.ref (A (p ++ [d]))) = some (.ref (A (p ++ [d]))) := by simp [lastOf, h2]
        rw [hl]
        refine ⟨by simp [tyOf, h2], ?_⟩
        rw [if_pos (by simp [isDict, h2])]
        refine ⟨_, rfl, Forest.down ds (p ++ [d]) dues A H F hpd (by rw [← happ]; exact hw) ?_⟩
        rw [← happ]
        exact hQ
    · rw [if_neg hm]
      intro e he
      have F1 := F.child hp hw1 hm he hh hn
      have hpd : IsNode m (dues ++ [p ++ [d]]) (p ++ [d]) := .inr ⟨by rw [List.length_append, List.length_singleton]; have := List.length_pos_iff.mpr hpn; lia, _, by simp, List.prefix_refl _⟩
      have hnd : ∀ q, IsNode m dues q → q ≠ p ++ [d] := fun q hq z => by
        subst z
        rcases hq with ⟨r, _, z⟩ | ⟨_, w, h1, h2⟩
        · cases p with
          | nil => exact hpn rfl
          | cons x p => simp at z
        · exact hm (mem_made.mpr ⟨w, h1, h2⟩)
      have hKN : KeepN H (upd (upd H e (.dict [] 0)) (A p) (.dict (kvs ++ kids A p (made dues p) ++ [(.inr (nm d), .ref e)]) (ep + 1))) := fun b y hb n => upd_ne (fun q => by rw [q, hn] at hb; exact n _ _ (Option.some.inj hb).symm) (upd_fresh he hb)
      have hA : (fun q => if q = p ++ [d] then e else A q) (p ++ [d]) = e := if_pos rfl
      have := Forest.down (acc := acc) (Q := Q) (X := X) ds (p ++ [d]) _ _ _ F1 hpd (by rw [← happ]; exact hw) fun H' A' F' hk hA' => ?_
      · rw [if_pos rfl] at this
        exact this
      · rw [← happ] at F' ⊢
        refine hQ H' A' (F'.absorb ⟨ds, happ.symm⟩) (hKN.trans hk) fun q hq => ?_
        rw [hA' q ?_]
        · exact if_neg (hnd q hq)
        · rcases hq with hq | ⟨hl, w, h1, h2⟩
          · exact .inl hq
          · exact .inr ⟨hl, w, List.mem_append_left _ h1, h2⟩
theorem Forest.walk {acc : Bool} {Q : Addr → AHeap → Prop} {X : String → Option (List V) → AHeap → Prop} {dues : List (List Nat)} {A : List Nat → Addr} {H : AHeap} (F : Forest H R seed m dues A) (hm : 0 < m) : ∀ (ds : List Nat) (r : Nat), r < m → (∀ d ∈ ds, d < 3) →
    (match walkP seed m acc r ds with
      | none => ∀ t, X "KeyError" (some [.str nestMsg t]) H
      | some w => ∀ H' A', Forest H' R seed m (dues ++ [w]) A' → KeepN H H' → (∀ q, IsNode m dues q → A' q = A q) → Q (A' w) H') → Gw acc Q X (ds.map nm) (A [r]) H
  | [], r, hr, h3, hQ => by
    have hp : IsNode m dues [r] := .inl ⟨r, hr, rfl⟩
    exact hQ H A (F.again hp ⟨r, [], rfl, hr, fun _ h => (by cases h), fun _ _ h => (by cases h)⟩) (KeepN.refl H) fun _ _ => rfl
  | d :: ds, r, hr, h3, hQ => by
    have hp : IsNode m dues [r] := .inl ⟨r, hr, rfl⟩
    have hd := h3 d List.mem_cons_self
    by_cases hk2 : kindOf seed r d = 2
    · have hw : walkP seed m acc r (d :: ds) = some ([r] ++ d :: ds) := by
        unfold walkP
        rw [if_neg (by lia), if_neg (by lia), if_pos hk2]; rfl
      rw [hw] at hQ
      exact Forest.down (d :: ds) [r] dues A H F hp ⟨r, d :: ds, rfl, hr, h3, fun e u h => (by cases h; exact hk2)⟩ hQ
    · obtain ⟨kvs, ep, hh, hn⟩ := F.node [r] hp
      have hml : ∀ e ∈ made dues [r], e < 3 := fun e he => (made_lt F hp.ne_nil he).1
      have hsz : (kvs ++ kids A [r] (made dues [r])).length < sizeLine := by
        have h1 := hh.small
        have h2 := nodup_lt3 (made_nodup dues [r]) hml
        rw [List.length_append, show sizeLine = _ from sizeLine_eq]
        simp only [kids, List.length_map]
        lia
      refine ⟨_, ep, hn, hsz, ?_⟩
      obtain ⟨vs, h1, h2, h4⟩ : ∃ vs : List V, vs.length = (there seed r).length ∧ kvs = (.inr "is", .int (r : Int)) :: ((there seed r).zip vs).map (fun q => (.inr (nm q.1), q.2)) ∧ ∀ (i d : Nat) v, (there seed r)[i]? = some d → vs[i]? = some v → RingV H R seed m r d v := hh
      obtain ⟨i, hi⟩ := List.mem_iff_getElem?.mp (mem_there hd hk2)
      have hil : i < vs.length := by rw [h1]; exact (List.getElem?_eq_some_iff.mp hi).1
      have hvi : vs[i]? = some vs[i] := List.getElem?_eq_getElem hil
      have hget : getK kvs (.inr (nm d)) = some vs[i] := by
        rw [h2]
        show (if (Sum.inr "is" : Key) = Sum.inr (nm d) then _ else _) = _
        rw [if_neg (fun z => nm_is (Sum.inr.inj z).symm), ← hvi]
        exact (getK_ring h1 hd (fun e he => (there_lt he).1) there_nodup).1 i hi
      have hV := h4 i d vs[i] hi hvi
      rw [getK_app, hget]
      generalize vs[i] = v at hV
      obtain ⟨g, hg, v1, v6, v8, v4, vx⟩ := hV
      have hmod : (3 * r + d) % m < m := Nat.mod_lt _ hm
      have hgA : g = A [(3 * r + d) % m] := by
        have := F.ring _ hmod
        rw [hg] at this
        exact Option.some.inj this
      obtain ⟨kvg, epg, _, hng⟩ := F.node [(3 * r + d) % m] (.inl ⟨_, hmod, rfl⟩)
      have hdg : ∃ kv ep, H g = some (.dict kv ep) := ⟨_, _, by rw [hgA]; exact hng⟩
      obtain ⟨kv, epd, hdg⟩ := hdg
      show tyOf H v ≠ none ∧ (∀ a xs, v = .ref a → H a = some (.list xs) → xs.length < 2 ^ 62) ∧ match lastOf acc H v with
        | none => X "IndexError" none H
        | some w => tyOf H w ≠ none ∧ if isDict H w = true then ∃ d, w = .ref d ∧ Gw acc Q X (ds.map nm) d H else ∀ t, X "KeyError" (some [.str nestMsg t]) H
      -- on to the next of the ring
      have on : walkP seed m acc r (d :: ds) = walkP seed m acc ((3 * r + d) % m) ds → Gw acc Q X (ds.map nm) g H := fun e => by
        rw [e] at hQ
        rw [hgA]
        exact Forest.walk F hm ds _ hmod (fun x hx => h3 x (List.mem_cons_of_mem _ hx)) hQ
      have bad : walkP seed m acc r (d :: ds) = none → ∀ t, X "KeyError" (some [.str nestMsg t]) H := fun e => by
        rw [e] at hQ
        exact hQ
      by_cases k4 : kindOf seed r d = 4
      · have hb := bad (by unfold walkP; rw [if_pos (.inl k4)])
        have h := v4 k4
        split at h
        · obtain ⟨t, rfl⟩ := h
          exact ⟨by simp [tyOf], fun a xs e => (by cases e), by simp only [lastOf]; exact ⟨by simp [tyOf], by simp only [isDict]; exact hb⟩⟩
        · subst h
          exact ⟨by simp [tyOf], fun a xs e => (by cases e), by simp only [lastOf]; exact ⟨by simp [tyOf], by simp only [isDict]; exact hb⟩⟩
      by_cases k8 : kindOf seed r d = 8
      · have hb := bad (by unfold walkP; rw [if_pos (.inr k8)])
        obtain ⟨l, l2, rfl, a1, a2⟩ := v8 k8
        refine ⟨by simp [tyOf, a1], fun a xs e e' => (by cases e; rw [a1] at e'; cases e'; simp), ?_⟩
        cases acc with
        | true =>
          rw [show lastOf true H (.ref l) = some (.ref l2) by simp [lastOf, a1]]
          exact ⟨by simp [tyOf, a2], by rw [show isDict H (.ref l2) = false by simp [isDict, a2]]; exact hb⟩
        | false =>
          rw [show lastOf false H (.ref l) = some (.ref l) by simp [lastOf, a1]]
          exact ⟨by simp [tyOf, a1], by rw [show isDict H (.ref l) = false by simp [isDict, a1]]; exact hb⟩
      by_cases k16 : kindOf seed r d = 1 ∨ kindOf seed r d = 6
      · obtain ⟨l, xs, rfl, a1, hxs, hlast⟩ : ∃ l xs, v = .ref l ∧ H l = some (.list xs) ∧ xs.length ≤ 3 ∧ xs.getLast? = some (.ref g) := by
          rcases k16 with k1 | k6
          · obtain ⟨l, e1, e2, p1, p2, b1, b2, _, _⟩ := v1 k1
            exact ⟨l, _, b1, b2, by simp, rfl⟩
          · obtain ⟨l, b1, b2⟩ := v6 k6
            exact ⟨l, _, b1, b2, by simp, rfl⟩
        refine ⟨by simp [tyOf, a1], fun a ys e e' => (by cases e; rw [a1] at e'; cases e'; lia), ?_⟩
        cases acc with
        | true =>
          rw [show lastOf true H (.ref l) = some (.ref g) by simp only [lastOf, a1]; exact hlast]
          refine ⟨by simp [tyOf, hdg], ?_⟩
          rw [if_pos (by simp [isDict, hdg])]
          exact ⟨g, rfl, on (by conv => lhs; unfold walkP; rw [if_neg (by lia), if_neg (by simp), if_neg hk2])⟩
        | false =>
          have hb := bad (by unfold walkP; rw [if_neg (by lia), if_pos ⟨k16, rfl⟩])
          rw [show lastOf false H (.ref l) = some (.ref l) by simp [lastOf, a1]]
          exact ⟨by simp [tyOf, a1], by rw [show isDict H (.ref l) = false by simp [isDict, a1]]; exact hb⟩
      · obtain rfl := vx (by lia) (by lia) k8 k4
        refine ⟨by simp [tyOf, hdg], fun a ys e e' => (by cases e; rw [hdg] at e'; cases e'), ?_⟩
        rw [show lastOf acc H (.ref g) = some (.ref g) by simp [lastOf, hdg]]
        refine ⟨by simp [tyOf, hdg], ?_⟩
        rw [if_pos (by simp [isDict, hdg])]
        exact ⟨g, rfl, on (by conv => lhs; unfold walkP; rw [if_neg (by lia), if_neg (fun z => k16 z.1), if_neg hk2])⟩
end
end Mine
namespace Mine
theorem upd_eq_none {H : AHeap} {a b : Addr} {x : AObj} : upd H a x b = none ↔ b ≠ a ∧ H b = none := by
  unfold upd
  by_cases h : b = a
  · simp [h]
  · simp [h]
/-! the rings, while they are made -/
noncomputable def thereTo (seed r d : Nat) : List Nat := (List.range d).filter fun e => decide (kindOf seed r e ≠ 2)
theorem thereTo_3 {seed r : Nat} : thereTo seed r 3 = there seed r := rfl
theorem thereTo_skip {seed r d : Nat} (h : kindOf seed r d = 2) : thereTo seed r (d + 1) = thereTo seed r d := by
  unfold thereTo
  rw [List.range_succ, List.filter_append, List.filter_cons_of_neg (by simp [h])]
  simp
theorem thereTo_put {seed r d : Nat} (h : kindOf seed r d ≠ 2) : thereTo seed r (d + 1) = thereTo seed r d ++ [d] := by
  unfold thereTo
  rw [List.range_succ, List.filter_append, List.filter_cons_of_pos (by simp [h])]
  simp
theorem mem_thereTo {seed r d e : Nat} (h : e ∈ thereTo seed r d) : e < d := by
  unfold thereTo at h
  exact List.mem_range.mp (List.mem_filter.mp h).1
theorem thereTo_nodup {seed r d : Nat} : (thereTo seed r d).Nodup := List.nodup_range.filter _
section
variable {R : List Addr} {seed m : Nat}
noncomputable def rowK (seed r d : Nat) (vs : List V) : List (Key × V) := (.inr "is", .int (r : Int)) :: ((thereTo seed r d).zip vs).map fun q => (.inr (nm q.1), q.2)
structure RowIs (H : AHeap) (R : List Addr) (seed m r d : Nat) (a : Addr) (vs : List V) (ep : Nat) : Prop where
  len : vs.length = (thereTo seed r d).length
  at_ : H a = some (.dict (rowK seed r d vs) ep)
  val : ∀ (i e : Nat) v, (thereTo seed r d)[i]? = some e → vs[i]? = some v → RingV H R seed m r e v
theorem RowIs.keep {H H' : AHeap} {r d : Nat} {a : Addr} {vs : List V} {ep : Nat} (X : RowIs H R seed m r d a vs ep) (hk : KeepN H H') (he : ∀ e ep, H e = some (.dict [(.inr "is", .int (-1))] ep) → H' e = some (.dict [(.inr "is", .int (-1))] ep)) (ha : H' a = H a) : RowIs H' R seed m r d a vs ep :=
  ⟨X.len, by rw [ha]; exact X.at_, fun i e v h1 h2 => (X.val i e v h1 h2).keep hk he⟩
theorem RowIs.lacks {H : AHeap} {r d : Nat} {a : Addr} {vs : List V} {ep : Nat} (X : RowIs H R seed m r d a vs ep) (hd : d < 3) : getK (rowK seed r d vs) (.inr (nm d)) = none := by
  unfold rowK
  show (if (Sum.inr "is" : Key) = Sum.inr (nm d) then _ else _) = none
  rw [if_neg (fun z => nm_is (Sum.inr.inj z).symm)]
  exact (getK_ring X.len hd (fun e he => by have := mem_thereTo he; lia) thereTo_nodup).2 fun h => by have := mem_thereTo h; lia
theorem RowIs.put {H : AHeap} {r d : Nat} {a : Addr} {vs : List V} {ep ep' : Nat} {v : V} (X : RowIs H R seed m r d a vs ep) (hk : kindOf seed r d ≠ 2) (hv : RingV H R seed m r d v) :
    RowIs (upd H a (.dict (rowK seed r d vs ++ [(.inr (nm d), v)]) ep')) R seed m r (d + 1) a (vs ++ [v]) ep' := by
  have hKN : KeepN H (upd H a (.dict (rowK seed r d vs ++ [(.inr (nm d), v)]) ep')) := fun b y hb n => upd_ne (fun q => by rw [q, X.at_] at hb; exact n _ _ (Option.some.inj hb).symm) hb
  have hKE : ∀ e ep'', H e = some (.dict [(.inr "is", .int (-1))] ep'') → upd H a (.dict (rowK seed r d vs ++ [(.inr (nm d), v)]) ep') e = some (.dict [(.inr "is", .int (-1))] ep'') := fun e ep'' he => upd_ne (fun q => by
    rw [q, X.at_] at he
    injection he with he
    injection he with he _
    injection he with he _
    injection he with _ he
    injection he with he
    lia) he
  have hl := X.len
  refine ⟨by rw [thereTo_put hk]; simp [hl], ?_, fun i e w h1 h2 => ?_⟩
  · rw [upd_same]
    unfold rowK
    rw [thereTo_put hk, List.zip_append hl.symm]
    simp
  · rw [thereTo_put hk, List.getElem?_append] at h1
    rw [List.getElem?_append] at h2
    by_cases hi : i < (thereTo seed r d).length
    · rw [if_pos hi] at h1
      rw [if_pos (by lia)] at h2
      exact (X.val i e w h1 h2).keep hKN hKE
    · rw [if_neg hi] at h1
      rw [if_neg (by lia)] at h2
      have h1' := List.mem_of_getElem? h1
      have h2' := List.mem_of_getElem? h2
      rw [List.mem_singleton.mp h1', List.mem_singleton.mp h2']
      exact hv.keep hKN hKE
theorem RingV.k1 {H : AHeap} {r d : Nat} {g l e1 e2 : Addr} {p1 p2 : Nat} (hg : R[(3 * r + d) % m]? = some g) (hk : kindOf seed r d = 1) (hl : H l = some (.list [.ref e1, .ref e2, .ref g])) (h1 : H e1 = some (.dict [(.inr "is", .int (-1))] p1)) (h2 : H e2 = some (.dict [(.inr "is", .int (-1))] p2)) : RingV H R seed m r d (.ref l) :=
  ⟨g, hg, fun _ => ⟨l, e1, e2, p1, p2, rfl, hl, h1, h2⟩, fun q => absurd (hk.symm.trans q) (by decide), fun q => absurd (hk.symm.trans q) (by decide), fun q => absurd (hk.symm.trans q) (by decide), fun q => absurd hk q⟩
theorem RingV.k6 {H : AHeap} {r d : Nat} {g l : Addr} (hg : R[(3 * r + d) % m]? = some g) (hk : kindOf seed r d = 6) (hl : H l = some (.list [.ref g])) : RingV H R seed m r d (.ref l) :=
  ⟨g, hg, fun q => absurd (hk.symm.trans q) (by decide), fun _ => ⟨l, rfl, hl⟩, fun q => absurd (hk.symm.trans q) (by decide), fun q => absurd (hk.symm.trans q) (by decide), fun _ q => absurd hk q⟩
theorem RingV.k8 {H : AHeap} {r d : Nat} {g l l2 : Addr} (hg : R[(3 * r + d) % m]? = some g) (hk : kindOf seed r d = 8) (hl : H l = some (.list [.ref l2])) (hl2 : H l2 = some (.list [.ref g])) : RingV H R seed m r d (.ref l) :=
  ⟨g, hg, fun q => absurd (hk.symm.trans q) (by decide), fun q => absurd (hk.symm.trans q) (by decide), fun _ => ⟨l, l2, rfl, hl, hl2⟩, fun q => absurd (hk.symm.trans q) (by decide), fun _ _ q => absurd hk q⟩
theorem RingV.k4 {H : AHeap} {r d : Nat} {g : Addr} {v : V} (hg : R[(3 * r + d) % m]? = some g) (hk : kindOf seed r d = 4) (hv : if (3 * r + d) % m % 2 = 1 then ∃ t, v = .str "a" t else v = .int 0) : RingV H R seed m r d v :=
  ⟨g, hg, fun q => absurd (hk.symm.trans q) (by decide), fun q => absurd (hk.symm.trans q) (by decide), fun q => absurd (hk.symm.trans q) (by decide), fun _ => hv, fun _ _ _ q => absurd hk q⟩
theorem RingV.kx {H : AHeap} {r d : Nat} {g : Addr} (hg : R[(3 * r + d) % m]? = some g) (h1 : kindOf seed r d ≠ 1) (h6 : kindOf seed r d ≠ 6) (h8 : kindOf seed r d ≠ 8) (h4 : kindOf seed r d ≠ 4) : RingV H R seed m r d (.ref g) :=
  ⟨g, hg, fun q => absurd q h1, fun q => absurd q h6, fun q => absurd q h8, fun q => absurd q h4, fun _ _ _ _ => rfl⟩
structure Rings (H0 : AHeap) (first : Addr) (H : AHeap) (R : List Addr) (seed m r : Nat) (P : Addr → Prop) : Prop where
  len : R.length = m
  nodup : R.Nodup
  fst : R[0]? = some first
  new : ∀ i a, 0 < i → R[i]? = some a → H0 a = none
  keep : ∀ b y, b ≠ first → H0 b = some y → H b = some y
  done : ∀ i a, i < r → R[i]? = some a → ∃ vs ep, RowIs H R seed m i 3 a vs ep
  now : ∀ a, R[r]? = some a → P a
  rest : ∀ i a, r < i → R[i]? = some a → ∃ ep, H a = some (.dict [] ep)
theorem Rings.ne {H0 H : AHeap} {first : Addr} {r : Nat} {P : Addr → Prop} (X : Rings H0 first H R seed m r P) {i j : Nat} {a b : Addr} (hi : R[i]? = some a) (hj : R[j]? = some b) (h : i ≠ j) : a ≠ b := fun e => by
  subst e
  exact h ((List.getElem?_inj (List.getElem?_eq_some_iff.mp hi).1 X.nodup).mp (hi.trans hj.symm))
theorem Rings.change {H0 H H' : AHeap} {first a : Addr} {r : Nat} {P P' : Addr → Prop} (X : Rings H0 first H R seed m r P) (ha : R[r]? = some a) (hE : ∀ b y, b ≠ a → H b = some y → H' b = some y) (hd : ∃ kvs ep, H a = some (.dict kvs ep) ∧ kvs ≠ [(.inr "is", .int (-1))]) (hP : P' a) : Rings H0 first H' R seed m r P' := by
  obtain ⟨kvs, ep, hat, hne⟩ := hd
  have hKN : KeepN H H' := fun b y hb n => hE b y (fun q => by rw [q, hat] at hb; exact n _ _ (Option.some.inj hb).symm) hb
  have hKE : ∀ e ep'', H e = some (.dict [(.inr "is", .int (-1))] ep'') → H' e = some (.dict [(.inr "is", .int (-1))] ep'') := fun e ep'' he => hE e _ (fun q => by
    rw [q, hat] at he
    injection he with he
    injection he with he _
    exact hne he) he
  refine ⟨X.len, X.nodup, X.fst, X.new, fun b y hb h => hE b y (fun q => ?_) (X.keep b y hb h), fun i b hi hb => ?_, fun b hb => ?_, fun i b hi hb => ?_⟩
  · subst q
    rcases Nat.eq_zero_or_pos r with h0 | h0
    · subst h0
      rw [X.fst] at ha
      exact hb (Option.some.inj ha).symm
    · rw [X.new r b h0 ha] at h; cases h
  · obtain ⟨vs, ep1, Y⟩ := X.done i b hi hb
    have hba : b ≠ a := X.ne hb ha (by lia)
    exact ⟨vs, ep1, Y.keep hKN hKE (by rw [hE b _ hba Y.at_, Y.at_])⟩
  · rw [ha] at hb; cases hb; exact hP
  · obtain ⟨ep1, h1⟩ := X.rest i b hi hb
    exact ⟨ep1, hE b _ (X.ne hb ha (by lia)) h1⟩
theorem RowIs.ext {H H' : AHeap} {r d : Nat} {a : Addr} {vs : List V} {ep : Nat} (X : RowIs H R seed m r d a vs ep) (h : Ext H H') : RowIs H' R seed m r d a vs ep :=
  X.keep (fun b y hb _ => h b y hb) (fun e ep he => h e _ he) (by rw [h a _ X.at_, X.at_])
theorem Rings.ext {H0 H H' : AHeap} {first : Addr} {r : Nat} {P P' : Addr → Prop} (X : Rings H0 first H R seed m r P) (h : Ext H H') (hP : ∀ a, P a → P' a) : Rings H0 first H' R seed m r P' :=
  ⟨X.len, X.nodup, X.fst, X.new, fun b y hb e => h b y (X.keep b y hb e), fun i a hi ha => (by obtain ⟨vs, ep, Y⟩ := X.done i a hi ha; exact ⟨vs, ep, Y.ext h⟩), fun a ha => hP a (X.now a ha), fun i a hi ha => (by obtain ⟨ep, e⟩ := X.rest i a hi ha; exact ⟨ep, h a _ e⟩)⟩
theorem Rings.put {H0 H H' : AHeap} {first a : Addr} {r d : Nat} {vs : List V} {ep ep' : Nat} {v : V} {P : Addr → Prop} (X : Rings H0 first H R seed m r P) (ha : R[r]? = some a) (Y : RowIs H R seed m r d a vs ep) (hk : kindOf seed r d ≠ 2) (hv : RingV H R seed m r d v) (e : H' = upd H a (.dict (rowK seed r d vs ++ [(.inr (nm d), v)]) ep')) :
    Rings H0 first H' R seed m r fun a' => ∃ vs ep, RowIs H' R seed m r (d + 1) a' vs ep := by
  subst e
  refine X.change ha (fun b y hb h => upd_ne hb h) ⟨_, _, Y.at_, fun q => ?_⟩ ⟨_, _, Y.put hk hv⟩
  injection q with q _
  injection q with _ q
  injection q with q
  lia
theorem RowIs.skip {H : AHeap} {r d : Nat} {a : Addr} {vs : List V} {ep : Nat} (X : RowIs H R seed m r d a vs ep) (hk : kindOf seed r d = 2) : RowIs H R seed m r (d + 1) a vs ep := by
  obtain ⟨h1, h2, h3⟩ := X
  have e := thereTo_skip hk
  refine ⟨by rw [e]; exact h1, ?_, by rw [e]; exact h3⟩
  unfold rowK at h2 ⊢
  rw [e]; exact h2
theorem Rings.next {H0 H : AHeap} {first : Addr} {r : Nat} (X : Rings H0 first H R seed m r fun a => ∃ vs ep, RowIs H R seed m r 3 a vs ep) : Rings H0 first H R seed m (r + 1) fun a => ∃ ep, H a = some (.dict [] ep) :=
  ⟨X.len, X.nodup, X.fst, X.new, X.keep, fun i a hi ha => (by
    rcases Nat.lt_or_ge i r with h | h
    · exact X.done i a h ha
    · have : i = r := by lia
      subst this
      exact X.now a ha), fun a ha => X.rest (r + 1) a (by lia) ha, fun i a hi ha => X.rest i a (by lia) ha⟩
theorem Rings.forest {H0 H : AHeap} {first : Addr} {P : Addr → Prop} (X : Rings H0 first H R seed m m P) : Forest H R seed m [] fun p => match p with | [r] => R.getD r 0 | _ => 0 := by
  have hn : ∀ p, IsNode m [] p → ∃ r, r < m ∧ p = [r] := fun p hp => by
    rcases hp with h | ⟨_, w, h, _⟩
    · exact h
    · cases h
  have hg : ∀ r, r < m → R[r]? = some (R.getD r 0) := fun r hr => by
    have hl : r < R.length := by rw [X.len]; exact hr
    rw [List.getD_eq_getElem?_getD, List.getElem?_eq_getElem hl]; rfl
  refine ⟨hg, X.len, fun p hp => ?_, fun p q hp hq e => ?_, fun w hw => (by cases hw)⟩
  · obtain ⟨r, hr, rfl⟩ := hn p hp
    obtain ⟨vs, ep, Y⟩ := X.done r _ hr (hg r hr)
    refine ⟨_, ep, ⟨vs, Y.len, rfl, Y.val⟩, ?_⟩
    rw [show kids (fun p => match p with | [r] => R.getD r 0 | _ => 0) [r] (made [] [r]) = [] from rfl, List.append_nil]
    exact Y.at_
  · obtain ⟨r, hr, rfl⟩ := hn p hp
    obtain ⟨s, hs, rfl⟩ := hn q hq
    have e' : R.getD r 0 = R.getD s 0 := e
    have h1 := hg r hr
    rw [e', ← hg s hs] at h1
    rw [(List.getElem?_inj (by rw [X.len]; exact hr) X.nodup).mp h1]
end
end Mine
namespace Mine
/-! the heap without two lists that the law keeps -/
noncomputable def bare (a b : Addr) (H : AHeap) : AHeap := delA b (delA a H)
theorem bare_at {a b x : Addr} {H : AHeap} {y : AObj} : bare a b H x = some y ↔ x ≠ a ∧ x ≠ b ∧ H x = some y := by
  unfold bare delA
  by_cases h1 : x = b
  · simp [h1]
  · by_cases h2 : x = a
    · simp [h2]
    · simp [h1, h2]
theorem bare_of {a b x : Addr} {H : AHeap} {y : AObj} (h : bare a b H x = some y) : H x = some y := (bare_at.mp h).2.2
theorem bare_ext {a b : Addr} {H H' : AHeap} (h : Ext H H') : Ext (bare a b H) (bare a b H') := fun x y e => by
  obtain ⟨h1, h2, h3⟩ := bare_at.mp e
  exact bare_at.mpr ⟨h1, h2, h x y h3⟩
theorem bare_upd1 {a b : Addr} {H : AHeap} {y : AObj} : bare a b (upd H a y) = bare a b H := by
  funext x
  unfold bare delA upd
  by_cases h1 : x = b
  · simp [h1]
  · by_cases h2 : x = a <;> simp [h1, h2]
theorem bare_upd2 {a b : Addr} {H : AHeap} {y : AObj} : bare a b (upd H b y) = bare a b H := by
  funext x
  unfold bare delA upd
  by_cases h1 : x = b
  · simp [h1]
  · by_cases h2 : x = a <;> simp [h1, h2]
theorem bare_none {a b : Addr} {H : AHeap} (ha : H a = none) (hb : H b = none) : bare a b H = H := by
  funext x
  unfold bare delA
  by_cases h1 : x = b
  · simp [h1, hb]
  · by_cases h2 : x = a
    · simp [h2, ha]
    · simp [h1, h2]
theorem Forest.ext {H H' : AHeap} {R : List Addr} {seed m : Nat} {dues : List (List Nat)} {A : List Nat → Addr} (F : Forest H R seed m dues A) (h : Ext H H') : Forest H' R seed m dues A :=
  ⟨F.ring, F.len, fun p hp => (by
    obtain ⟨kvs, ep, h1, h2⟩ := F.node p hp
    exact ⟨kvs, ep, h1.keep (fun b y e _ => h b y e) (fun e ep he => h e _ he), h _ _ h2⟩), F.inj, F.good⟩
end Mine
namespace Mine
theorem tyOf_fr {H : AHeap} {p : Addr} {y : AObj} (hp : H p = none) {v : V} (h : tyOf H v ≠ none) : tyOf (upd H p y) v = tyOf H v := by
  cases v with
  | ref a =>
    have hne : a ≠ p := fun q => by rw [q] at h; exact h (by simp [tyOf, hp])
    simp [tyOf, upd, hne]
  | _ => rfl
theorem lastOf_fr {acc : Bool} {H : AHeap} {p : Addr} {y : AObj} (hp : H p = none) {v : V} (h : tyOf H v ≠ none) : lastOf acc (upd H p y) v = lastOf acc H v := by
  cases v with
  | ref a =>
    have hne : a ≠ p := fun q => by rw [q] at h; exact h (by simp [tyOf, hp])
    simp [lastOf, upd, hne]
  | _ => rfl
theorem isDict_fr {H : AHeap} {p : Addr} {y : AObj} (hp : H p = none) {v : V} (h : tyOf H v ≠ none) : isDict (upd H p y) v = isDict H v := by
  cases v with
  | ref a =>
    have hne : a ≠ p := fun q => by rw [q] at h; exact h (by simp [tyOf, hp])
    simp [isDict, upd, hne]
  | _ => rfl
theorem Gw.aside {acc : Bool} {Q : Addr → AHeap → Prop} {X : String → Option (List V) → AHeap → Prop} {p : Addr} {y : AObj} : ∀ (ks : List Str) (cont : Addr) (H : AHeap), H p = none → Gw acc Q X ks cont H →
    Gw acc (fun a H' => ∃ H1, H' = upd H1 p y ∧ H1 p = none ∧ Q a H1) (fun cls xs H' => ∃ H1, H' = upd H1 p y ∧ H1 p = none ∧ X cls xs H1) ks cont (upd H p y)
  | [], cont, H, hp, h => ⟨H, rfl, hp, h⟩
  | x :: r, cont, H, hp, h => by
    obtain ⟨kvs, ep, h1, h2, h3⟩ := h
    have hcp : cont ≠ p := fun q => by rw [q, hp] at h1; cases h1
    refine ⟨kvs, ep, upd_ne hcp h1, h2, ?_⟩
    cases e : getK kvs (.inr x) with
    | none =>
      rw [e] at h3
      intro d hd
      have hdp : d ≠ p := fun q => by rw [q, upd_same] at hd; cases hd
      have hd' : H d = none := by
        have : upd H p y d = H d := by simp [upd, hdp]
        rw [← this]; exact hd
      have := Gw.aside r d _ (y := y) (show upd (upd H d (.dict [] 0)) cont (.dict (kvs ++ [(.inr x, .ref d)]) (ep + 1)) p = none by simp [upd, Ne.symm hcp, Ne.symm hdp, hp]) (h3 d hd')
      rw [upd_comm hcp, upd_comm hdp] at this
      exact this
    | some v =>
      rw [e] at h3
      obtain ⟨h4, h5, h6⟩ := h3
      refine ⟨by rw [tyOf_fr hp h4]; exact h4, fun a xs q1 q2 => h5 a xs q1 ?_, ?_⟩
      · subst q1
        have hne : a ≠ p := fun q => by rw [q] at h4; exact h4 (by simp [tyOf, hp])
        have : upd H p y a = H a := by simp [upd, hne]
        rw [← this]; exact q2
      rw [lastOf_fr hp h4]
      cases e2 : lastOf acc H v with
      | none => rw [e2] at h6; exact ⟨H, rfl, hp, h6⟩
      | some w =>
        rw [e2] at h6
        obtain ⟨h7, h8⟩ := h6
        refine ⟨by rw [tyOf_fr hp h7]; exact h7, ?_⟩
        rw [isDict_fr hp h7]
        cases e3 : isDict H w with
        | false => rw [e3] at h8; exact fun t => ⟨H, rfl, hp, h8 t⟩
        | true =>
          rw [e3, if_pos rfl] at h8
          obtain ⟨d, e4, h9⟩ := h8
          rw [if_pos rfl]
          exact ⟨d, e4, Gw.aside r d H hp h9⟩
theorem Gw.mono' {acc : Bool} {Q Q' : Addr → AHeap → Prop} {X X' : String → Option (List V) → AHeap → Prop} (hQ : ∀ a H, Q a H → Q' a H) (hX : ∀ c xs H, X c xs H → X' c xs H) : ∀ {ks : List Str} {cont : Addr} {H : AHeap}, Gw acc Q X ks cont H → Gw acc Q' X' ks cont H
  | [], cont, H, h => hQ _ _ h
  | x :: r, cont, H, h => by
    obtain ⟨kvs, ep, h1, h2, h3⟩ := h
    refine ⟨kvs, ep, h1, h2, ?_⟩
    cases e : getK kvs (.inr x) with
    | none => rw [e] at h3; exact fun d hd => Gw.mono' hQ hX (h3 d hd)
    | some v =>
      rw [e] at h3
      obtain ⟨h4, h5, h6⟩ := h3
      refine ⟨h4, h5, ?_⟩
      cases e2 : lastOf acc H v with
      | none => rw [e2] at h6; exact hX _ _ _ h6
      | some w =>
        rw [e2] at h6
        obtain ⟨h7, h8⟩ := h6
        refine ⟨h7, ?_⟩
        cases e3 : isDict H w with
        | false => rw [e3] at h8; exact fun t => hX _ _ _ (h8 t)
        | true =>
          rw [e3, if_pos rfl] at h8
          obtain ⟨d, e4, h9⟩ := h8
          rw [if_pos rfl]
          exact ⟨d, e4, Gw.mono' hQ hX h9⟩
theorem bare_back {a b : Addr} {H : AHeap} {y z : AObj} (h : a ≠ b) (ha : H a = some y) (hb : H b = some z) : upd (upd (bare a b H) a y) b z = H := by
  funext x
  unfold bare delA upd
  by_cases h1 : x = b
  · simp [h1, hb]
  · by_cases h2 : x = a
    · simp [h2, ha, h]
    · simp [h1, h2]
theorem Gw.aside2 {acc : Bool} {Q : Addr → AHeap → Prop} {X : String → Option (List V) → AHeap → Prop} {p q : Addr} {y z : AObj} {ks : List Str} {cont : Addr} {H : AHeap} (hpq : p ≠ q) (hp : H p = some y) (hq : H q = some z) (h : Gw acc Q X ks cont (bare p q H)) :
    Gw acc (fun a H' => H' p = some y ∧ H' q = some z ∧ Q a (bare p q H')) (fun cls xs H' => H' p = some y ∧ H' q = some z ∧ X cls xs (bare p q H')) ks cont H := by
  have hp0 : bare p q H p = none := by simp [bare, delA]
  have hq0 : upd (bare p q H) p y q = none := by simp [bare, delA, upd, Ne.symm hpq]
  have h1 := Gw.aside (y := z) ks cont _ hq0 (Gw.aside (y := y) ks cont _ hp0 h)
  rw [bare_back hpq hp hq] at h1
  have key : ∀ {H1 : AHeap}, H1 p = none → upd H1 p y q = none → upd (upd H1 p y) q z p = some y ∧ upd (upd H1 p y) q z q = some z ∧ bare p q (upd (upd H1 p y) q z) = H1 := fun {H1} g1 g2 => by
    refine ⟨upd_ne hpq upd_same, upd_same, ?_⟩
    rw [bare_upd2, bare_upd1]
    refine bare_none g1 ?_
    have : upd H1 p y q = H1 q := by simp [upd, Ne.symm hpq]
    rw [← this]; exact g2
  refine Gw.mono' (fun a H' g => ?_) (fun cls xs H' g => ?_) h1
  · obtain ⟨H2, rfl, g1, H3, rfl, g2, g3⟩ := g
    obtain ⟨k1, k2, k3⟩ := key g2 g1
    exact ⟨k1, k2, by rw [k3]; exact g3⟩
  · obtain ⟨H2, rfl, g1, H3, rfl, g2, g3⟩ := g
    obtain ⟨k1, k2, k3⟩ := key g2 g1
    exact ⟨k1, k2, by rw [k3]; exact g3⟩
end Mine
namespace Mine
/-! marks -/
noncomputable def marksTo (dues : List (List Nat)) (j : Nat) (p : List Nat) : List Nat := (List.range j).filter fun k => decide (dues[k]? = some p)
theorem marksTo_hit {dues : List (List Nat)} {j : Nat} {p : List Nat} (h : dues[j]? = some p) : marksTo dues (j + 1) p = marksTo dues j p ++ [j] := by
  unfold marksTo
  rw [List.range_succ, List.filter_append, List.filter_cons_of_pos (by simp [h])]
  simp
theorem marksTo_miss {dues : List (List Nat)} {j : Nat} {p : List Nat} (h : dues[j]? ≠ some p) : marksTo dues (j + 1) p = marksTo dues j p := by
  unfold marksTo
  rw [List.range_succ, List.filter_append, List.filter_cons_of_neg (by simp [h])]
  simp
noncomputable def atK (L : List Nat → Addr) (p : List Nat) (ms : List Nat) : List (Key × V) := if ms = [] then [] else [(.inr "at", .ref (L p))]
structure MH (H0 : AHeap) (R : List Addr) (seed m : Nat) (dues : List (List Nat)) (A : List Nat → Addr) (j : Nat) (L : List Nat → Addr) (H : AHeap) : Prop where
  node : ∀ p, IsNode m dues p → ∃ kvs ep, Head H0 R seed m p kvs ∧ H (A p) = some (.dict (kvs ++ kids A p (made dues p) ++ atK L p (marksTo dues j p)) ep)
  list : ∀ p, IsNode m dues p → marksTo dues j p ≠ [] → H (L p) = some (.list ((marksTo dues j p).map fun (k : Nat) => V.int (k : Int)))
  fresh : ∀ p, IsNode m dues p → marksTo dues j p ≠ [] → H0 (L p) = none
  inj : ∀ p q, IsNode m dues p → IsNode m dues q → marksTo dues j p ≠ [] → marksTo dues j q ≠ [] → L p = L q → p = q
  keep : KeepN H0 H
  dom : ∀ b, H b = none → H0 b = none
  is_ : ∀ e ep, H0 e = some (.dict [(.inr "is", .int (-1))] ep) → H e = some (.dict [(.inr "is", .int (-1))] ep)
section
variable {H0 H : AHeap} {R : List Addr} {seed m : Nat} {dues : List (List Nat)} {A : List Nat → Addr} {j : Nat} {L : List Nat → Addr}
theorem MH.start (F : Forest H0 R seed m dues A) : MH H0 R seed m dues A 0 L H0 :=
  ⟨fun p hp => (by
    obtain ⟨kvs, ep, h1, h2⟩ := F.node p hp
    exact ⟨kvs, ep, h1, by rw [h2]; simp [atK, marksTo]⟩), fun p hp h => absurd rfl h, fun p hp h => absurd rfl h, fun p q hp hq h => absurd rfl h, KeepN.refl _, fun b h => h, fun e ep h => h⟩
theorem MH.ext {H' : AHeap} (X : MH H0 R seed m dues A j L H) (h : Ext H H') : MH H0 R seed m dues A j L H' :=
  ⟨fun p hp => (by
    obtain ⟨kvs, ep, h1, h2⟩ := X.node p hp
    exact ⟨kvs, ep, h1, h _ _ h2⟩), fun p hp q => h _ _ (X.list p hp q), X.fresh, X.inj, fun b y e n => h _ _ (X.keep b y e n), fun b hb => X.dom b (by cases e : H b with | none => rfl | some y => rw [h _ _ e] at hb; cases hb), fun e ep q => h _ _ (X.is_ e ep q)⟩
theorem Head.noAt {p : List Nat} {kvs : List (Key × V)} (h : Head H0 R seed m p kvs) : getK kvs (.inr "at") = none := by
  unfold Head at h
  split at h
  · obtain ⟨vs, _, rfl, _⟩ := h
    show (if (Sum.inr "is" : Key) = (Sum.inr "at" : Key) then _ else _) = none
    rw [if_neg (fun z => absurd (Sum.inr.inj z) (by decide))]
    exact ring_noIs _ _ _ (fun d => nm_at)
  · subst h; rfl
theorem MH.getAt (X : MH H0 R seed m dues A j L H) {p : List Nat} {kvs : List (Key × V)} (h : Head H0 R seed m p kvs) : getK (kvs ++ kids A p (made dues p) ++ atK L p (marksTo dues j p)) (.inr "at") = if marksTo dues j p = [] then none else some (.ref (L p)) := by
  rw [getK_app, getK_app, h.noAt, getK_kidsIs (fun d => nm_at)]
  unfold atK
  by_cases q : marksTo dues j p = []
  · rw [if_pos q, if_pos q]; rfl
  · rw [if_neg q, if_neg q]; rfl
theorem MH.first (X : MH H0 R seed m dues A j L H) (F : Forest H0 R seed m dues A) {w : List Nat} {l : Addr} {kvs : List (Key × V)} {ep ep' : Nat} (hw : dues[j]? = some w) (hwn : IsNode m dues w) (hm : marksTo dues j w = []) (hl : H l = none) (hh : Head H0 R seed m w kvs) (hn : H (A w) = some (.dict (kvs ++ kids A w (made dues w) ++ atK L w (marksTo dues j w)) ep)) :
    MH H0 R seed m dues A (j + 1) (fun q => if q = w then l else L q) (upd (upd (upd H l (.list [])) (A w) (.dict (kvs ++ kids A w (made dues w) ++ atK L w (marksTo dues j w) ++ [(.inr "at", .ref l)]) ep')) l (.list [.int (j : Int)])) := by
  have hlN : A w ≠ l := fun e => by rw [e, hl] at hn; cases hn
  have hmw : marksTo dues (j + 1) w = [j] := by rw [marksTo_hit hw, hm]; rfl
  have hmp : ∀ p, p ≠ w → marksTo dues (j + 1) p = marksTo dues j p := fun p hp => marksTo_miss (fun e => hp (by rw [hw] at e; exact (Option.some.inj e).symm))
  have off : ∀ b y, b ≠ A w → H b = some y → upd (upd (upd H l (.list [])) (A w) (.dict (kvs ++ kids A w (made dues w) ++ atK L w (marksTo dues j w) ++ [(.inr "at", .ref l)]) ep')) l (.list [.int (j : Int)]) b = some y := fun b y h1 h2 =>
    have hbl : b ≠ l := fun e => by rw [e, hl] at h2; cases h2
    upd_ne hbl (upd_ne h1 (upd_ne hbl h2))
  refine ⟨fun p hp => ?_, fun p hp hne => ?_, fun p hp hne => ?_, fun p q hp hq h1 h2 he => ?_, fun b y hb hn' => ?_, fun b hb => ?_, fun e ep1 he => ?_⟩
  · by_cases q : p = w
    · subst q
      refine ⟨kvs, ep', hh, ?_⟩
      rw [hmw]
      refine upd_ne hlN ?_
      rw [upd_same, hm]
      simp [atK]
    · obtain ⟨kvs', ep1, g1, g2⟩ := X.node p hp
      refine ⟨kvs', ep1, g1, ?_⟩
      rw [hmp p q]
      have e1 : atK (fun q => if q = w then l else L q) p (marksTo dues j p) = atK L p (marksTo dues j p) := by unfold atK; simp [q]
      rw [e1]
      exact off _ _ (fun e => q (F.inj p w hp hwn e)) g2
  · by_cases q : p = w
    · subst q
      simp only [if_true]
      rw [hmw, upd_same]
      rfl
    · simp only [if_neg q]
      rw [hmp p q] at hne ⊢
      have g := X.list p hp hne
      exact off _ _ (fun e => by rw [e, hn] at g; cases g) g
  · by_cases q : p = w
    · subst q
      simp only [if_true]
      exact X.dom l hl
    · simp only [if_neg q]
      rw [hmp p q] at hne
      exact X.fresh p hp hne
  · by_cases q1 : p = w <;> by_cases q2 : q = w
    · rw [q1, q2]
    · simp only [if_pos q1, if_neg q2] at he
      rw [hmp q q2] at h2
      have g := X.list q hq h2
      rw [← he, hl] at g; cases g
    · simp only [if_neg q1, if_pos q2] at he
      rw [hmp p q1] at h1
      have g := X.list p hp h1
      rw [he, hl] at g; cases g
    · simp only [if_neg q1, if_neg q2] at he
      rw [hmp p q1] at h1
      rw [hmp q q2] at h2
      exact X.inj p q hp hq h1 h2 he
  · have g := X.keep b y hb hn'
    exact off _ _ (fun e => by rw [e, hn] at g; exact hn' _ _ (Option.some.inj g).symm) g
  · refine X.dom b ?_
    cases e : H b with
    | none => rfl
    | some y =>
      by_cases q : b = A w
      · rw [q, upd_ne hlN upd_same] at hb; cases hb
      · rw [off b y q e] at hb; cases hb
  · exact off _ _ (F.notIs hwn he) (X.is_ e ep1 he)
theorem MH.again (X : MH H0 R seed m dues A j L H) (F : Forest H0 R seed m dues A) {w : List Nat} {l : Addr} (hw : dues[j]? = some w) (hwn : IsNode m dues w) (hm : marksTo dues j w ≠ []) (hl : H l = none) :
    MH H0 R seed m dues A (j + 1) L (upd (upd H l (.list [])) (L w) (.list ((marksTo dues j w).map (fun (k : Nat) => V.int (k : Int)) ++ [.int (j : Int)]))) := by
  have hLw := X.list w hwn hm
  have hmw : marksTo dues (j + 1) w = marksTo dues j w ++ [j] := marksTo_hit hw
  have hmp : ∀ p, p ≠ w → marksTo dues (j + 1) p = marksTo dues j p := fun p hp => marksTo_miss (fun e => hp (by rw [hw] at e; exact (Option.some.inj e).symm))
  have hne' : ∀ p, marksTo dues (j + 1) p ≠ [] → marksTo dues j p ≠ [] := fun p hp => by
    by_cases q : p = w
    · rw [q]; exact hm
    · rw [hmp p q] at hp; exact hp
  have off : ∀ b y, b ≠ L w → H b = some y → upd (upd H l (.list [])) (L w) (.list ((marksTo dues j w).map (fun (k : Nat) => V.int (k : Int)) ++ [.int (j : Int)])) b = some y := fun b y h1 h2 => upd_ne h1 (upd_fresh hl h2)
  refine ⟨fun p hp => ?_, fun p hp hne => ?_, fun p hp hne => X.fresh p hp (hne' p hne), fun p q hp hq h1 h2 he => X.inj p q hp hq (hne' p h1) (hne' q h2) he, fun b y hb hn' => ?_, fun b hb => ?_, fun e ep1 he => ?_⟩
  · obtain ⟨kvs', ep1, g1, g2⟩ := X.node p hp
    refine ⟨kvs', ep1, g1, ?_⟩
    have e1 : atK L p (marksTo dues (j + 1) p) = atK L p (marksTo dues j p) := by
      by_cases q : p = w
      · rw [q, hmw]; unfold atK; simp [hm]
      · rw [hmp p q]
    rw [e1]
    exact off _ _ (fun e => by rw [e, hLw] at g2; cases g2) g2
  · by_cases q : p = w
    · subst q
      rw [upd_same, hmw]; simp
    · rw [hmp p q] at hne ⊢
      exact off _ _ (fun e => q (X.inj p w hp hwn hne hm e)) (X.list p hp hne)
  · have g := X.keep b y hb hn'
    refine off _ _ (fun e => ?_) g
    rw [e, X.fresh w hwn hm] at hb; cases hb
  · refine X.dom b ?_
    cases e : H b with
    | none => rfl
    | some y =>
      by_cases q : b = L w
      · rw [q, upd_same] at hb; cases hb
      · rw [off b y q e] at hb; cases hb
  · have g := X.is_ e ep1 he
    exact off _ _ (fun q => by rw [q, hLw] at g; cases g) g
end
end Mine
namespace Mine
/-! how much there is to look at -/
theorem sumAdd {α : Type} (a b : α → Nat) : ∀ l : List α, (l.map fun x => a x + b x).sum = (l.map a).sum + (l.map b).sum
  | [] => rfl
  | x :: l => by simp only [List.map_cons, List.sum_cons]; rw [sumAdd a b l]; lia
theorem sumLe {α : Type} {a b : α → Nat} : ∀ {l : List α}, (∀ x ∈ l, a x ≤ b x) → (l.map a).sum ≤ (l.map b).sum
  | [], _ => Nat.le_refl _
  | x :: l, h => by
    simp only [List.map_cons, List.sum_cons]
    have := h x List.mem_cons_self
    have := sumLe (a := a) (b := b) (l := l) fun y hy => h y (List.mem_cons_of_mem _ hy)
    lia
theorem sumSwap {α β : Type} (g : α → β → Nat) (ds : List α) : ∀ ws : List β, (ds.map fun d => (ws.map (g d)).sum).sum = (ws.map fun w => (ds.map fun d => g d w).sum).sum
  | [] => by
    induction ds with
    | nil => rfl
    | cons d ds ih => simpa using ih
  | w :: ws => by
    simp only [List.map_cons, List.sum_cons]
    rw [sumAdd, sumSwap g ds ws]
noncomputable def costOf (p w : List Nat) : Nat := if w.take p.length = p then w.length - p.length else 0
noncomputable def cost (dues : List (List Nat)) (p : List Nat) : Nat := (dues.map (costOf p)).sum
noncomputable def costs (dues : List (List Nat)) (es : List (List Nat)) : Nat := (es.map fun p => 1 + cost dues p).sum
theorem cost_le {dues : List (List Nat)} {p : List Nat} {n : Nat} (h : ∀ w ∈ dues, w.length ≤ n) : cost dues p ≤ dues.length * n := by
  unfold cost
  induction dues with
  | nil => simp
  | cons w ws ih =>
    have h1 := ih fun x hx => h x (List.mem_cons_of_mem _ hx)
    have h2 := h w List.mem_cons_self
    have h3 : costOf p w ≤ w.length := by unfold costOf; split <;> lia
    simp only [List.map_cons, List.sum_cons, List.length_cons, Nat.add_mul, Nat.one_mul]
    lia
theorem costOf_split {p w : List Nat} : ∀ {ds : List Nat}, ds.Nodup → (ds.map fun d => if w.take (p.length + 1) = p ++ [d] then w.length - p.length else 0).sum ≤ costOf p w
  | [], _ => by simp
  | d :: ds, hn => by
    have hn' := List.nodup_cons.mp hn
    simp only [List.map_cons, List.sum_cons]
    by_cases h : w.take (p.length + 1) = p ++ [d]
    · rw [if_pos h]
      have hz : (ds.map fun e => if w.take (p.length + 1) = p ++ [e] then w.length - p.length else 0).sum = 0 := by
        have aux : ∀ l : List Nat, d ∉ l → (l.map fun e => if w.take (p.length + 1) = p ++ [e] then w.length - p.length else 0).sum = 0 := fun l => by
          induction l with
          | nil => intro _; rfl
          | cons e l ih =>
            intro hd
            simp only [List.mem_cons, not_or] at hd
            simp only [List.map_cons, List.sum_cons]
            rw [ih hd.2, if_neg (fun q => ?_)]
            rw [h] at q
            exact hd.1 (List.singleton_inj.mp (List.append_inj_right' q rfl))
        exact aux ds hn'.1
      rw [hz]
      have htp : w.take p.length = p := by
        have := congrArg (List.take p.length) h
        rw [List.take_take, Nat.min_eq_left (by lia), List.take_left'] at this
        · exact this
        · rfl
      unfold costOf
      rw [if_pos htp]
      lia
    · rw [if_neg h]
      have := costOf_split (p := p) (w := w) hn'.2
      lia
theorem cost_kids {dues : List (List Nat)} {p : List Nat} : ((made dues p).map fun d => 1 + cost dues (p ++ [d])).sum ≤ cost dues p := by
  have h1 : ((made dues p).map fun d => 1 + cost dues (p ++ [d])).sum ≤ ((made dues p).map fun d => (dues.map fun w => if w.take (p.length + 1) = p ++ [d] then w.length - p.length else 0).sum).sum := by
    refine sumLe fun d hd => ?_
    obtain ⟨w, hw, hpw⟩ := mem_made.mp hd
    unfold cost
    have aux : ∀ ws : List (List Nat), (ws.map (costOf (p ++ [d]))).sum ≤ (ws.map fun w => if w.take (p.length + 1) = p ++ [d] then w.length - p.length else 0).sum ∧ (w ∈ ws → 1 + (ws.map (costOf (p ++ [d]))).sum ≤ (ws.map fun w => if w.take (p.length + 1) = p ++ [d] then w.length - p.length else 0).sum) := fun ws => by
      induction ws with
      | nil => exact ⟨Nat.le_refl _, fun h => by cases h⟩
      | cons v ws ih =>
        simp only [List.map_cons, List.sum_cons]
        have hv : costOf (p ++ [d]) v ≤ if v.take (p.length + 1) = p ++ [d] then v.length - p.length else 0 := by
          unfold costOf
          rw [List.length_append, List.length_singleton]
          split <;> lia
        refine ⟨by lia, fun hm => ?_⟩
        rcases List.mem_cons.mp hm with rfl | hm
        · have hl := hpw.length_le
          rw [List.length_append, List.length_singleton] at hl
          have ht : w.take (p.length + 1) = p ++ [d] := by
            obtain ⟨t, rfl⟩ := hpw
            rw [List.take_left']
            simp
          have : costOf (p ++ [d]) w + 1 ≤ if w.take (p.length + 1) = p ++ [d] then w.length - p.length else 0 := by
            rw [if_pos ht]
            unfold costOf
            rw [List.length_append, List.length_singleton, if_pos ht]
            lia
          lia
        · have := ih.2 hm
          lia
    exact (aux dues).2 hw
  rw [sumSwap] at h1
  refine Nat.le_trans h1 ?_
  unfold cost
  exact sumLe fun w _ => costOf_split (made_nodup dues p)
theorem costs_app {dues es fs : List (List Nat)} : costs dues (es ++ fs) = costs dues es + costs dues fs := by
  unfold costs
  rw [List.map_append, List.sum_append]
theorem costs_len {dues es : List (List Nat)} : es.length ≤ costs dues es := by
  unfold costs
  induction es with
  | nil => simp
  | cons p es ih => simp only [List.map_cons, List.sum_cons, List.length_cons]; lia
theorem costs_step {dues es : List (List Nat)} {p : List Nat} : costs dues (es ++ (made dues p).map fun d => p ++ [d]) < costs dues (es ++ [p]) := by
  rw [costs_app, costs_app]
  have h := cost_kids (dues := dues) (p := p)
  have e1 : costs dues ((made dues p).map fun d => p ++ [d]) = ((made dues p).map fun d => 1 + cost dues (p ++ [d])).sum := by
    unfold costs
    rw [List.map_map]; rfl
  have e2 : costs dues [p] = 1 + cost dues p := by simp [costs]
  rw [e1, e2]
  lia
theorem walkP_len {seed m : Nat} {lists : Bool} : ∀ {ds : List Nat} {r : Nat} {w : List Nat}, walkP seed m lists r ds = some w → w.length ≤ ds.length + 1
  | [], r, w, h => by unfold walkP at h; cases h; simp
  | d :: ds, r, w, h => by
    unfold walkP at h
    split at h
    · cases h
    · split at h
      · cases h
      · split at h
        · cases h; simp
        · have := walkP_len h
          simp only [List.length_cons]; lia
end Mine
namespace Mine
local macro_rules | `(tactic| walk_at "lk") => `(tactic| first | assumption | with_reducible exact setL_same | exact setL_ne (by decide +kernel) (by walk_at "lk"))
section
structure Blt (c : Cx) : Prop where
  len : Gl c "len" (.builtin "len")
  divmod : Gl c "divmod" (.builtin "divmod")
  isinstance : Gl c "isinstance" (.builtin "isinstance")
  list : Gl c "list" (.type "list")
  dict : Gl c "dict" (.type "dict")
  str : Gl c "str" (.type "str")
  range : Gl c "range" (.type "range")
  zip : Gl c "zip" (.type "zip")
  keyError : Gl c "KeyError" (.type "KeyError")
  indexError : Gl c "IndexError" (.type "IndexError")
  imp : importsNone c.p = true
  tree : c.prog.given.tree = none
noncomputable abbrev L4.stmsC : List Stmt := PySem.Challenge.pw_kp0043_04.main.body
noncomputable abbrev L4.cls : Stmt := stm L4.stmsC 2
noncomputable abbrev L4.mI : Stmt := stm (fnBody L4.cls) 0
noncomputable abbrev L4.mG : Stmt := stm (fnBody L4.cls) 1
theorem L4.init_ok {c : Cx} {A : Around} {C fI a dx : Addr} {H : AHeap} (hC : ClsAt c C fI) (F : DefAt c fI L4.mI) (hA : Room A) (ha : H a = some (.inst C dx)) (hd : H dx = some .attrs0) :
    FnV c A fI [.ref a] [] H (fun v H' => v = .none ∧ ∃ d, H d = none ∧ H' = upd (upd H d (.dict [] 0)) dx (.attrs (.ref d))) NoX := by
  refine FnV.top F hA ["self"] rfl (fun fd rvs h1 h2 h3 hl => ?_) (by rfl) fun k hk => ?_
  · obtain ⟨x, rfl⟩ : ∃ x, rvs = [x] := by match rvs, hl with | [x], _ => exact ⟨x, rfl⟩
    cases fd; simp only at h1 h2 h3; subst h1; subst h2; subst h3; rfl
  refine Mine.hideG fun GG back => ?_
  obtain ⟨rfl, sv, hfr, hdep, hun, hhd, hX, hhere⟩ := hk
  refine back ?_
  clear back
  show W k (execs (fnBody L4.mI) k.env) (setL noLoc "self" (.ref a)) H _
  refine W_cons' ?_
  refine W_setDict (fI := fI) ?_
  refine W_Dict0 ?_
  intro d hd'
  refine ⟨a, C, dx, setL_same, hC, upd_fresh hd' ha, .inl (upd_fresh hd' hd), ?_⟩
  refine contQ_next ?_
  refine W_nil ?_
  exact RQ_next ⟨rfl, d, hd', rfl⟩
theorem W_hide {k : Wk} {x : Sem Flow} {m : Loc} {H : AHeap} {Q : Flow → Loc → AHeap → Prop} (h : ∀ QL : Flow → Loc → AHeap → Prop, (∀ f m H, Q f m H → QL f m H) → W k x m H QL) : W k x m H Q := h Q fun _ _ _ q => q
noncomputable def GwV (acc : Bool) (Q : Addr → AHeap → Prop) (X : String → Option (List V) → AHeap → Prop) (r : List Str) (v : V) (H : AHeap) : Prop :=
  tyOf H v ≠ none ∧ (∀ a xs, v = .ref a → H a = some (.list xs) → xs.length < 2 ^ 62) ∧ match lastOf acc H v with
      | none => X "IndexError" none H
      | some w => tyOf H w ≠ none ∧ if isDict H w = true then ∃ d, w = .ref d ∧ Gw acc Q X r d H else ∀ t, X "KeyError" (some [.str nestMsg t]) H
theorem isDict_ty {H : AHeap} {w : V} : decide (tyOf H w = some "dict") = isDict H w := by
  cases w with
  | ref a =>
    rcases e : H a with _ | x
    · simp [tyOf, isDict, e]
    · cases x <;> simp [tyOf, isDict, e]
  | _ => rfl
theorem Gw.cons {acc : Bool} {Q : Addr → AHeap → Prop} {X : String → Option (List V) → AHeap → Prop} {x : Str} {r : List Str} {cont : Addr} {H : AHeap} (h : Gw acc Q X (x :: r) cont H) :
    ∃ kvs ep, H cont = some (.dict kvs ep) ∧ kvs.length < sizeLine ∧ ((getK kvs (.inr x) = none ∧ ∀ d, H d = none → Gw acc Q X r d (upd (upd H d (.dict [] 0)) cont (.dict (kvs ++ [(.inr x, .ref d)]) (ep + 1)))) ∨ ∃ v, getK kvs (.inr x) = some v ∧ GwV acc Q X r v H) := by
  refine Mine.hideG fun GG back => ?_
  obtain ⟨kvs, ep, h1, h2, h3⟩ := h
  refine back ?_
  clear back
  refine ⟨kvs, ep, h1, h2, ?_⟩
  cases e : getK kvs (.inr x) with
  | none => rw [e] at h3; exact .inl ⟨rfl, h3⟩
  | some v => rw [e] at h3; exact .inr ⟨v, rfl, h3⟩
theorem L4.nest_body {k : Wk} {x dx kt b0 C fI : Addr} {acc : Bool} {keys : List (Str × Tok)} {m : Loc} {H : AHeap} {Q : Addr → AHeap → Prop} {X : String → Option (List V) → AHeap → Prop} (sv : SEnv k (fnScope L4.mG) (cellNames (fnScope L4.mG).names))
    (G : Blt k.c) (hC : ClsAt k.c C fI) (hX : k.X = fun cls xs _ H => X cls xs H) (here : k.here) (hh : k.A.handled = none)
    (hs : m "self" = some (.ref x)) (hkey : m "key" = some (.ref kt)) (hacc : m "access_lists" = some (.bool acc))
    (hx : H x = some (.inst C dx)) (hd : H dx = some (.attrs (.ref b0))) (hkt : H kt = some (.tup (keys.map fun p => .str p.1 p.2)))
    (h : Gw acc Q X (keys.map (·.1)) b0 H) : W k (execs (fnBody L4.mG) k.env) m H (RQ fun v H' => ∃ a, v = .ref a ∧ Q a H') := by
  refine Mine.hideG fun GG back => ?_
  obtain ⟨gLen, gDivmod, gIsi, gList, gDict, gStr, gRange, gZip, gKE, gIE, imp, tree⟩ := G
  refine back ?_
  clear back
  refine W_cons' ?_
  refine W_Assign ?_ (stor (by rfl)) (by rfl)
  refine W_getDict hC hs hx hd (fun i => by simp) ?_
  refine contQ_next ?_
  refine W_cons' ?_
  refine W_For ?_
  refine W_Name (by walk_at "lk") ?_
  refine ⟨_, _, _, fun i m' H' => m' "access_lists" = some (.bool acc) ∧ H' kt = some (.tup (keys.map fun p => .str p.1 p.2)) ∧ ∃ cont, m' "cont" = some (.ref cont) ∧ Gw acc Q X ((keys.drop i).map (·.1)) cont H',
    WIter_tup hh hkt, ⟨by walk_at "lk", hkt, b0, by walk_at "lk", h⟩, fun i m' H' q => q.2.1, ?_, ?_⟩
  · intro i v m' H' hi hR hg91_6
    refine Mine.hideG fun GG back => ?_
    obtain ⟨ha, hk', cont, hcont, hG⟩ := hg91_6
    refine back ?_
    clear back
    rw [List.getElem?_map, Option.map_eq_some_iff] at hR
    refine Mine.hideG fun GG back => ?_
    obtain ⟨⟨y, t⟩, hy, rfl⟩ := hR
    refine back ?_
    clear back
    have hi' : i < keys.length := (List.getElem?_eq_some_iff.mp hy).1
    have hdrop : keys.drop i = (y, t) :: keys.drop (i + 1) := by
      rw [List.drop_eq_getElem_cons hi', (List.getElem?_eq_some_iff.mp hy).2]
    rw [hdrop, List.map_cons] at hG
    refine Mine.hideG fun GG back => ?_
    obtain ⟨kvs, ep, hc, hl, hG⟩ := hG.cons
    refine back ?_
    clear back
    refine WAs_Name (stor (by rfl)) ?_
    refine W_hide fun QL hQL => ?_
    refine W_cons' ?_
    refine W_cut (fun (fl : Flow) m1 H1 => fl = .next ∧ m1 = setL m' "k" (.str y t) ∧ H1 kt = some (.tup (keys.map fun p => .str p.1 p.2)) ∧ ∃ kvs' ep' v, H1 cont = some (.dict kvs' ep') ∧ getK kvs' (.inr y) = some v ∧ GwV acc Q X ((keys.drop (i + 1)).map (·.1)) v H1) ?_ ?_
    · refine W_hide fun QR hQR => ?_
      refine W_If ?_
      refine WT_Compare ?_
      refine W_Name (by walk_at "lk") ?_
      refine W_Name (by walk_at "lk") ?_
      refine WCmp_notInDict hc (key := .inr y) (by simp [isKV]) ?_
      refine WTr_bool ?_
      rcases hG with ⟨hg, hG⟩ | ⟨v, hg, hG⟩
      · rw [hg, Option.isSome_none, Bool.not_false, if_pos rfl]
        refine W_cons' ?_
        refine W_AssignSub ?_
        refine W_Dict0 ?_
        intro d hd'
        refine W_Name (by walk_at "lk") ?_
        refine W_Name (by walk_at "lk") ?_
        refine WSet_dict (upd_fresh hd' hc) (key := .inr y) (by simp [isKV]) (Nat.le_of_lt hl) ?_
        refine contQ_next ?_
        refine W_nil ?_
        have hcd : cont ≠ d := fun q => by rw [q, hd'] at hc; cases hc
        have hck : kt ≠ cont := fun q => by rw [q, hc] at hk'; cases hk'
        rw [putK_new hg, epK, hg]
        refine hQR _ _ _ ⟨rfl, rfl, upd_ne hck (upd_fresh hd' hk'), _, _, .ref d, upd_same, ?_, ?_⟩
        · simp only [getK_append_new hg]
        · have hdd : upd (upd H' d (.dict [] 0)) cont (.dict (kvs ++ [(.inr y, .ref d)]) (ep + 1)) d = some (.dict [] 0) := upd_ne (Ne.symm hcd) upd_same
          refine ⟨?_, ?_, ?_⟩
          · rw [Option.isSome_none, if_neg (by simp)]; simp [tyOf, hdd]
          · rintro a xs e1 e2
            cases e1
            rw [Option.isSome_none, if_neg (by simp)] at e2
            rw [hdd] at e2; cases e2
          · rw [Option.isSome_none, if_neg (by simp)]
            simp only [lastOf, hdd, tyOf, isDict, if_true]
            exact ⟨by simp, d, rfl, hG d hd'⟩
      · rw [hg, Option.isSome_some, Bool.not_true, if_neg Bool.false_ne_true]
        refine W_nil ?_
        exact hQR _ _ _ ⟨rfl, rfl, hk', kvs, ep, v, hc, hg, hG⟩
    · intro _ _ H1 hg137_3
      refine Mine.hideG fun GG back => ?_
      obtain ⟨rfl, rfl, hk1, kvs', ep', v, hc1, hg1, hty, hlen, hG1⟩ := hg137_3
      refine back ?_
      clear back
      refine contQ_next ?_
      refine W_cons' ?_
      refine W_Assign ?_ (stor (by rfl)) (by rfl)
      refine W_Subscript ?_
      refine W_Name (by walk_at "lk") ?_
      refine W_Name (by walk_at "lk") ?_
      refine WSub_dict hc1 (key := .inr y) (by simp [isKV]) hg1 ?_
      refine contQ_next ?_
      refine W_cons' ?_
      refine W_cut (fun (fl : Flow) m1 H2 => fl = .next ∧ H1 = H2 ∧ m1 "access_lists" = some (.bool acc) ∧ ∃ w, m1 "cont" = some w ∧ lastOf acc H1 v = some w) ?_ ?_
      · refine W_hide fun QR hQR => ?_
        refine W_If ?_
        refine WT_And ?_
        refine W_allTrue_and ?_
        refine WT_plain ?_
        refine W_Name (by walk_at "lk") ?_
        refine WTr_bool ?_
        cases acc with
        | false =>
          refine iteF ?_
          refine iteF ?_
          refine W_nil ?_
          refine hQR _ _ _ ⟨rfl, rfl, by walk_at "lk", v, by walk_at "lk", ?_⟩
          cases v with
          | ref a => rcases e : H1 a with _ | x; simp [lastOf, e]; cases x <;> simp [lastOf, e]
          | _ => rfl
        | true =>
          refine iteT ?_
          refine W_allTrue_and ?_
          refine WT_plain ?_
          refine W_CallB (by assumption) (kindS (by rfl)) ?_
          refine WItems_cons ?_
          refine W_Name setL_same ?_
          refine WItems_cons ?_
          refine W_NameG gList (kindS (by rfl)) ?_
          refine WItems_nil ?_
          refine WCall_isi hty (T := "list") (by simp) ?_
          refine WTr_bool ?_
          rcases tyOf_cases hty with ⟨j, rfl⟩ | ⟨z, u, rfl⟩ | ⟨a, xs, rfl, e⟩ | ⟨a, xs, rfl, e⟩ | ⟨a, kvs2, ep2, rfl, e⟩
          · have e1 : decide (tyOf H1 (.int j) = some "list") = false := by simp [tyOf]
            rw [e1]
            refine iteF ?_
            refine iteF ?_
            refine W_nil ?_
            exact hQR _ _ _ ⟨rfl, rfl, by walk_at "lk", _, by walk_at "lk", rfl⟩
          · have e1 : decide (tyOf H1 (.str z u) = some "list") = false := by simp [tyOf]
            rw [e1]
            refine iteF ?_
            refine iteF ?_
            refine W_nil ?_
            exact hQR _ _ _ ⟨rfl, rfl, by walk_at "lk", _, by walk_at "lk", rfl⟩
          · have e1 : decide (tyOf H1 (.ref a) = some "list") = true := by simp [tyOf, e]
            rw [e1]
            refine iteT ?_
            refine W_allTrue_nilA ?_
            refine iteT ?_
            refine W_cons' ?_
            refine W_Assign ?_ (stor (by rfl)) (by rfl)
            refine W_Subscript ?_
            refine W_Name (by walk_at "lk") ?_
            refine W_UnaryOp ?_
            refine W_int ?_
            refine WUn_neg ?_
            have hlast : lastOf true H1 (.ref a) = xs.getLast? := by simp only [lastOf, e]
            have hxl := hlen a xs rfl e
            cases xs with
            | nil =>
              refine WSub_listOut hh here e (by decide) (by decide) (.inl (by simp)) ?_
              rw [hlast] at hG1
              rw [hX]; exact hG1
            | cons b r =>
              have hne : b :: r ≠ [] := by simp
              refine WSub_listNeg (v := (b :: r).getLast hne) e (by decide) (by decide) (by simp only [List.length_cons]; lia) ?_ ?_
              · rw [List.getLast_eq_getElem]
                have e3 : (-1 + ((b :: r).length : Int)).toNat = (b :: r).length - 1 := by simp only [List.length_cons]; lia
                rw [e3]
                exact List.getElem?_eq_getElem _
              · refine contQ_next ?_
                refine W_nil ?_
                exact hQR _ _ _ ⟨rfl, rfl, by walk_at "lk", _, by walk_at "lk", by rw [hlast, List.getLast?_eq_some_getLast hne]⟩
          · have e1 : decide (tyOf H1 (.ref a) = some "list") = false := by simp [tyOf, e]
            rw [e1]
            refine iteF ?_
            refine iteF ?_
            refine W_nil ?_
            exact hQR _ _ _ ⟨rfl, rfl, by walk_at "lk", _, by walk_at "lk", by simp only [lastOf, e]⟩
          · have e1 : decide (tyOf H1 (.ref a) = some "list") = false := by simp [tyOf, e]
            rw [e1]
            refine iteF ?_
            refine iteF ?_
            refine W_nil ?_
            exact hQR _ _ _ ⟨rfl, rfl, by walk_at "lk", _, by walk_at "lk", by simp only [lastOf, e]⟩
      · intro _ m1 H2 hg229_3
        refine Mine.hideG fun GG back => ?_
        obtain ⟨rfl, rfl, ha1, w, hw, hlast⟩ := hg229_3
        refine back ?_
        clear back
        rw [hlast] at hG1
        refine Mine.hideG fun GG back => ?_
        obtain ⟨hwt, hG1⟩ := hG1
        refine back ?_
        clear back
        refine contQ_next ?_
        refine W_cons' ?_
        refine W_If ?_
        refine WT_Not ?_
        refine WT_plain ?_
        refine W_CallB (by assumption) (kindS (by rfl)) ?_
        refine WItems_cons ?_
        refine W_Name (by walk_at "lk") ?_
        refine WItems_cons ?_
        refine W_NameG (by assumption) (kindS (by rfl)) ?_
        refine WItems_nil ?_
        refine WCall_isi hwt (by simp) ?_
        refine WTr_bool ?_
        rw [isDict_ty]
        cases hD : isDict H1 w with
        | true =>
          rw [hD, if_pos rfl] at hG1
          refine Mine.hideG fun GG back => ?_
          obtain ⟨d, rfl, hG1⟩ := hG1
          refine back ?_
          clear back
          refine iteNT ?_
          refine W_nil ?_
          refine contQ_next ?_
          refine W_nil ?_
          refine hQL _ _ _ ?_
          refine loopQ_next ?_
          exact ⟨ha1, hk1, d, hw, hG1⟩
        | false =>
          rw [hD, if_neg Bool.false_ne_true] at hG1
          refine iteNF ?_
          refine W_cons' ?_
          refine W_RaiseCall excClass_KeyError hh here gKE (kindS (by rfl)) ?_
          refine WItems_cons ?_
          refine W_str fun t ht => ?_
          refine WItems_nil ⟨by simp [sizeLine], ?_⟩
          rw [hX]
          exact hG1 t
  · intro m' H' hg266_2
    refine Mine.hideG fun GG back => ?_
    obtain ⟨ha, hk', cont, hcont, hG⟩ := hg266_2
    refine back ?_
    clear back
    rw [List.length_map, List.drop_eq_nil_of_le (Nat.le_refl _)] at hG
    refine contQ_next ?_
    refine W_cons' ?_
    refine W_Return' ?_
    refine W_Name (by walk_at "lk") ?_
    intro uR huR
    refine contQ_ret ?_
    refine RQ_ret huR ?_
    exact ⟨cont, rfl, hG⟩
theorem L4.nest_call {c : Cx} {A : Around} {C fI fG fA x dx kt b0 : Addr} {keys : List (Str × Tok)} {H : AHeap} {Q : Addr → AHeap → Prop} {X : String → Option (List V) → AHeap → Prop} (G : Blt c) (N : NestAt c C fI fG fA L4.cls) (hA : Room A)
    (hx : H x = some (.inst C dx)) (hd : H dx = some (.attrs (.ref b0))) (hkt : H kt = some (.tup (keys.map fun p => .str p.1 p.2)))
    (h : Gw true Q X (keys.map (·.1)) b0 H) : FnV c A fG [.ref x, .ref kt] [] H (fun v H' => ∃ a, v = .ref a ∧ Q a H') X := fun rvs rkw e1 e2 => by
  refine Mine.hideG fun GG back => ?_
  obtain ⟨fd, F1, F2, F3, F4, d, mk, F5, F6, F7⟩ := N.get
  obtain ⟨u, w, rfl, e3, e4⟩ := map_er2 e1
  refine back ?_
  clear back
  have e2 : rkw = [] := by simpa using e2
  subst e2
  obtain rfl := er_ref e3
  obtain rfl := er_ref e4
  refine Fn.of_body F1 (Nat.lt_of_le_of_lt hA.depth (by decide)) (binds := [("self", .ref x), ("key", .ref kt), ("access_lists", .bool true)])
    (fun s hs => by cases fd; simp only at F3 F4 F5; subst F3; subst F4; subst F5; exact BindsTo.of_kw (F6.keeps hs) F7 rfl rfl) (by rw [F2]; rfl) fun k hk => ?_
  refine Mine.hideG fun GG back => ?_
  obtain ⟨rfl, h1, h2, h3, h4, h5, h6, h7, h8, h9⟩ := hk
  refine back ?_
  clear back
  refine L4.nest_body (acc := true) ⟨h1.trans F2, h2.trans (by rw [F2])⟩ G N.kls h8 h9 (h6.trans hA.handled) ?_ ?_ ?_ hx hd hkt h
  · rfl
  · rfl
  · rfl
theorem L4.nest_callF {c : Cx} {A : Around} {C fI fG fA x dx kt b0 : Addr} {keys : List (Str × Tok)} {H : AHeap} {Q : Addr → AHeap → Prop} {X : String → Option (List V) → AHeap → Prop} (G : Blt c) (N : NestAt c C fI fG fA L4.cls) (hA : Room A)
    (hx : H x = some (.inst C dx)) (hd : H dx = some (.attrs (.ref b0))) (hkt : H kt = some (.tup (keys.map fun p => .str p.1 p.2)))
    (h : Gw false Q X (keys.map (·.1)) b0 H) : FnV c A fG [.ref x, .ref kt] [("access_lists", .bool false)] H (fun v H' => ∃ a, v = .ref a ∧ Q a H') X := fun rvs rkw e1 e2 => by
  refine Mine.hideG fun GG back => ?_
  obtain ⟨fd, F1, F2, F3, F4, d, mk, F5, F6, F7⟩ := N.get
  obtain ⟨u, w, rfl, e3, e4⟩ := map_er2 e1
  refine back ?_
  clear back
  obtain ⟨⟨n, bv⟩, rfl, e5⟩ : ∃ p, rkw = [p] ∧ (p.1, er p.2) = (("access_lists" : Str), V.bool false) := by
    cases rkw with
    | nil => simp at e2
    | cons p r => cases r with
      | nil => exact ⟨p, rfl, (List.cons.inj e2).1⟩
      | cons q r => simp at e2
  refine Mine.hideG fun GG back => ?_
  obtain ⟨rfl, e6⟩ := Prod.mk.inj e5
  refine back ?_
  clear back
  obtain rfl := er_ref e3
  obtain rfl := er_ref e4
  obtain rfl := er_bool e6
  refine Fn.of_body F1 (Nat.lt_of_le_of_lt hA.depth (by decide)) (binds := [("self", .ref x), ("key", .ref kt), ("access_lists", .bool false)])
    (fun s hs => by cases fd; simp only at F3 F4 F5; subst F3; subst F4; subst F5; exact BindsTo.of_eq (by rfl)) (by rw [F2]; rfl) fun k hk => ?_
  refine Mine.hideG fun GG back => ?_
  obtain ⟨rfl, h1, h2, h3, h4, h5, h6, h7, h8, h9⟩ := hk
  refine back ?_
  clear back
  refine L4.nest_body (acc := false) ⟨h1.trans F2, h2.trans (by rw [F2])⟩ G N.kls h8 h9 (h6.trans hA.handled) ?_ ?_ ?_ hx hd hkt h
  · rfl
  · rfl
  · rfl
end
section
noncomputable abbrev L4.fKind : Stmt := stm L4.stmsC 4
noncomputable abbrev L4.fDue : Stmt := stm L4.stmsC 5
theorem small_mul {a : Int} {n : Nat} (h : n < 2 ^ 60) : IntMulOk a (n : Int) := IntMulOk.of_right (intBits_le_64 (by lia) (by lia))
theorem L4.kind_ok {c : Cx} {A : Around} {f : Addr} {seed r d : Nat} {H : AHeap} (G : Blt c) (F : DefAt c f L4.fKind) (hA : Room A) (hr : r < 100) (hd : d < 100) :
    FnV c A f [.int seed, .int r, .int d] [] H (fun v H' => v = .int (kindOf seed r d : Nat) ∧ H' = H) NoX := by
  refine FnV.top F hA ["seed", "r", "d"] rfl (fun fd rvs h1 h2 h3 hl => ?_) (by rfl) fun k hk => ?_
  · obtain ⟨x, y, z, rfl⟩ := len3 hl
    cases fd; simp only at h1 h2 h3; subst h1; subst h2; subst h3; rfl
  obtain ⟨rfl, sv, hfr, hdep, hun, hhd, hX, hhere⟩ := hk
  show W k (execs (fnBody L4.fKind) k.env) (setL (setL (setL noLoc "seed" (.int seed)) "r" (.int r)) "d" (.int d)) H _
  refine W_hide fun Q0 hQ0 => ?_
  have hroom : Roomy k := Roomy.of hfr (by have := hA.depth; lia) G.imp G.tree rfl rfl
  refine W_cons' ?_
  refine W_Return' ?_
  refine W_BinOp ?_
  refine W_BinOp ?_
  refine W_BinOp ?_
  refine W_Name (by walk_at "lk") ?_
  refine W_BinOp ?_
  refine W_BinOp ?_
  refine W_BinOp ?_
  refine W_int ?_
  refine W_Name (by walk_at "lk") ?_
  refine WBin_mul (small_mul (by lia)) ?_
  refine W_Name (by walk_at "lk") ?_
  refine WBin_add ?_
  refine W_int ?_
  refine WBin_add ?_
  rw [show (3 : Int) * (r : Int) + (d : Int) + 1 = ((3 * r + d + 1 : Nat) : Int) by lia]
  refine WBin_mul (small_mul (by lia)) ?_
  refine W_BinOp ?_
  refine W_Name (by walk_at "lk") ?_
  refine W_BinOp ?_
  refine W_Name (by walk_at "lk") ?_
  refine W_int ?_
  refine WBin_add ?_
  rw [show (r : Int) + 1 = ((r + 1 : Nat) : Int) by lia]
  refine WBin_mul (small_mul (by lia)) ?_
  refine WBin_add ?_
  refine W_int ?_
  refine WBin_mod hroom (by decide) ?_
  intro u hu
  refine contQ_ret (hQ0 _ _ _ (RQ_ret hu ⟨?_, rfl⟩))
  rw [Int.fmod_eq_emod_of_nonneg _ (by decide)]
  unfold kindOf
  push_cast
  rfl
end
section
structure Blt4 (c : Cx) : Prop where
  tuple : Gl c "tuple" (.type "tuple")
  abs : Gl c "abs" (.builtin "abs")
  sum : Gl c "sum" (.builtin "sum")
  type : Gl c "type" (.type "type")
  int : Gl c "int" (.type "int")
theorem rangeN_ft {a b : Nat} (h : a ≤ b) : rangeN a b 1 = b - a := by
  unfold rangeN Builtin.Range.rangeSize
  simp only [show (1 : Int) > 0 by decide, if_true]
  split <;> simp <;> lia
theorem small_ft {a b : Nat} (ha : a < 2 ^ 59) (hb : b < 2 ^ 59) : Builtin.Range.small a b 1 = true := by
  exact small_one (by lia) (by lia) (by lia) (by lia)
noncomputable def digs (n size : Nat) : List Nat := (List.range' 1 size).map fun i => n / 3 ^ (size - i) % 3
theorem digs_len (n size : Nat) : (digs n size).length = size := by simp [digs]
theorem digs_at {n size j : Nat} (h : j < size) : (digs n size)[j]? = some (n / 3 ^ (size - (j + 1)) % 3) := by
  unfold digs
  rw [List.getElem?_map, List.getElem?_range' h]
  simp [Nat.add_comm]
theorem digs_lt {n size d : Nat} (h : d ∈ digs n size) : d < 3 := by
  unfold digs at h
  obtain ⟨i, _, rfl⟩ := List.mem_map.mp h
  exact Nat.mod_lt _ (by decide)
theorem digs_drop {n size j : Nat} (h : j < size) : (digs n size).drop j = (n / 3 ^ (size - (j + 1)) % 3) :: (digs n size).drop (j + 1) := by
  have hl : j < (digs n size).length := by rw [digs_len]; exact h
  rw [List.drop_eq_getElem_cons hl]
  have := digs_at (n := n) h
  rw [List.getElem?_eq_getElem hl] at this
  rw [Option.some.inj this]
theorem ring_next {n size j m : Nat} (h : j < size) : (3 * (n / 3 ^ (size - j) % m) + n / 3 ^ (size - (j + 1)) % 3) % m = n / 3 ^ (size - (j + 1)) % m := by
  have e : n / 3 ^ (size - j) = n / 3 ^ (size - (j + 1)) / 3 := by
    rw [show size - j = (size - (j + 1)) + 1 by lia, Nat.pow_succ, Nat.div_div_eq_div_mul]
  rw [e]
  generalize n / 3 ^ (size - (j + 1)) = q
  have h1 : q = 3 * (q / 3) + q % 3 := by lia
  conv => rhs; rw [h1]
  rw [Nat.add_mod, Nat.mul_mod, Nat.mod_mod, ← Nat.mul_mod, ← Nat.add_mod]
noncomputable def DueV (H : AHeap) (v : V) : Option (List Nat) → Prop
  | none => v = .none
  | some w => ∃ a, v = .ref a ∧ H a = some (.tup (w.map fun (i : Nat) => V.int (i : Int)))
end
section
theorem DefAt.obj {c : Cx} {f : Addr} {st : Stmt} (F : DefAt c f st) : ∃ fo fd, c.base.get? f = some fo ∧ fo.data = .func fd := by
  obtain ⟨fd, F1, _⟩ := F.at_
  obtain ⟨fo, h1, h2⟩ := F1.obj
  exact ⟨fo, fd, h1, h2⟩
theorem Roomy.comp {k kc : Wk} {scope : Scope} (h : CompK k scope kc) (hr : Roomy k) : Roomy kc := by
  obtain ⟨a, b, c, d⟩ := hr
  have e1 : kc.A = k.A := h.A
  have e2 : kc.c = k.c := h.c
  exact ⟨by rw [e1]; exact a, by rw [e2]; exact b, by rw [e2]; exact c, by rw [e1]; exact d⟩
theorem W_fig {k : Wk} {m : Loc} {H : AHeap} {en ee em : Expr} {t : Tok} {p1 p2 p3 p4 : Pos} {n e q : Nat} {Q : V → Loc → AHeap → Prop} (hr : Roomy k) (he : e ≤ 1000) (hq : 0 < q)
    (h : WV k (eval en k.env) m H fun a m1 H1 => a = .int n ∧ WV k (eval ee k.env) m1 H1 fun b m2 H2 => b = .int e ∧ WV k (eval em k.env) m2 H2 fun c m3 H3 => c = .int q ∧ Q (.int ((n / 3 ^ e % q : Nat) : Int)) m3 H3) :
    WV k (eval (.BinOp (.BinOp en .FloorDiv (.BinOp (.Constant (.int 3) t p1) .Pow ee p2) p3) .Mod em p4) k.env) m H Q := by
  refine W_BinOp (W_BinOp ?_)
  refine WV_cut _ h ?_
  rintro _ m1 H1 ⟨rfl, h⟩
  refine W_BinOp (W_int ?_)
  refine WV_cut _ h ?_
  rintro _ m2 H2 ⟨rfl, h⟩
  refine WBin_pow (by lia) (by lia) (by decide) ?_
  refine WBin_fdiv hr (by rw [Int.toNat_natCast]; exact Int.ne_of_gt (Int.pow_pos (by decide))) ?_
  refine WV_cut _ h ?_
  rintro _ m3 H3 ⟨rfl, h⟩
  refine WBin_mod hr (by lia) ?_
  rw [Int.toNat_natCast, Int.fdiv_eq_ediv_of_nonneg _ (Int.le_of_lt (Int.pow_pos (by decide))), Int.fmod_eq_emod_of_nonneg _ (by lia)]
  have e1 : ((n / 3 ^ e % q : Nat) : Int) = (n : Int) / 3 ^ e % q := by push_cast; rfl
  rw [← e1]
  exact h
theorem walkP_none {seed m r d : Nat} {lists : Bool} {ds : List Nat} (h : (kindOf seed r d = 4 ∨ kindOf seed r d = 8) ∨ (kindOf seed r d = 1 ∨ kindOf seed r d = 6) ∧ lists = false) : walkP seed m lists r (d :: ds) = none := by
  unfold walkP
  by_cases h1 : kindOf seed r d = 4 ∨ kindOf seed r d = 8
  · rw [if_pos h1]
  · rw [if_neg h1, if_pos (h.resolve_left h1)]
theorem walkP_stop {seed m r d : Nat} {lists : Bool} {ds : List Nat} (h : kindOf seed r d = 2) : walkP seed m lists r (d :: ds) = some (r :: d :: ds) := by
  unfold walkP
  rw [if_neg (by lia), if_neg (by lia), if_pos h]
theorem walkP_on {seed m r d : Nat} {lists : Bool} {ds : List Nat} (h1 : ¬(kindOf seed r d = 4 ∨ kindOf seed r d = 8)) (h2 : ¬((kindOf seed r d = 1 ∨ kindOf seed r d = 6) ∧ lists = false)) (h3 : kindOf seed r d ≠ 2) : walkP seed m lists r (d :: ds) = walkP seed m lists ((3 * r + d) % m) ds := by
  rw [walkP, if_neg h1, if_neg h2, if_neg h3]
theorem any2 {a b : Int} {x : Nat} : ([V.int a, V.int b].any fun v => eqKV v (V.int (x : Int))) = decide ((x : Int) = a ∨ (x : Int) = b) := by
  simp only [List.any_cons, List.any_nil, eqKV, Bool.or_false]
  by_cases h1 : (x : Int) = a
  · simp [h1]
  · have h1' : (a == (x : Int)) = false := by simp; lia
    rw [h1']
    by_cases h2 : (x : Int) = b
    · simp [h2]
    · have h2' : (b == (x : Int)) = false := by simp; lia
      rw [h2']; simp [h1, h2]
noncomputable def forBody : Stmt → List Stmt
  | .For _ _ b _ _ => b
  | _ => []
noncomputable abbrev L4.dueFor : List Stmt := forBody (stm (fnBody L4.fDue) 0)
structure L4.DI (H0 : AHeap) (n size mm seed : Nat) (lists : Bool) (j : Nat) (m' : Loc) (H : AHeap) : Prop where
  vn : m' "n" = some (.int n)
  vsize : m' "size" = some (.int size)
  vm : m' "m" = some (.int mm)
  vseed : m' "seed" = some (.int seed)
  vlists : m' "lists" = some (.bool lists)
  ext : Ext H0 H
  way : walkP seed mm lists 0 (digs n size) = walkP seed mm lists (n / 3 ^ (size - j) % mm) ((digs n size).drop j)
structure L4.DL (n size mm seed : Nat) (lists : Bool) (j r d kd : Nat) (m' : Loc) : Prop where
  vn : m' "n" = some (.int n)
  vsize : m' "size" = some (.int size)
  vm : m' "m" = some (.int mm)
  vseed : m' "seed" = some (.int seed)
  vlists : m' "lists" = some (.bool lists)
  vi : m' "i" = some (.int ((j + 1 : Nat) : Int))
  vr : m' "r" = some (.int r)
  vd : m' "d" = some (.int d)
  vk : m' "kind" = some (.int kd)
theorem L4.due_ok {c : Cx} {A : Around} {f fK : Addr} {n size mm seed : Nat} {lists : Bool} {H : AHeap} (G : Blt c) (gTup : Gl c "tuple" (.type "tuple")) (F : DefAt c f L4.fDue) (FK : DefAt c fK L4.fKind) (gK : Gl c "_law_kind" (.ref fK)) (hA : Room A) (hA' : A.depth ≤ 599 ∧ A.units ≤ 1997)
    (hn : n < 3 ^ size) (hs : size ≤ 40) (hm0 : 0 < mm) (hm : mm ≤ 9) :
    FnV c A f [.int n, .int size, .int mm, .int seed, .bool lists] [] H (fun v H' => Ext H H' ∧ DueV H' v (walkP seed mm lists 0 (digs n size))) NoX := by
  refine FnV.top F hA ["n", "size", "m", "seed", "lists"] rfl (fun fd rvs h1 h2 h3 hl => ?_) (by rfl) fun k hk => ?_
  · obtain ⟨x, y, z, u, w, rfl⟩ := len5 hl
    cases fd; simp only at h1 h2 h3; subst h1; subst h2; subst h3; rfl
  obtain ⟨rfl, sv, hfr, hdep, hun, hhd, hX, hhere⟩ := hk
  show W k (execs (fnBody L4.fDue) k.env) (setL (setL (setL (setL (setL noLoc "n" (.int n)) "size" (.int size)) "m" (.int mm)) "seed" (.int seed)) "lists" (.bool lists)) H _
  refine W_hide fun Q0 hQ0 => ?_
  have G0 := G
  obtain ⟨gLen, gDivmod, gIsi, gList, gDict, gStr, gRange, gZip, gKE, gIE, imp, tree⟩ := G
  have hroom : Roomy k := Roomy.of hfr (by have := hA.depth; lia) imp tree rfl rfl
  have hh : k.A.handled = none := hhd.trans hA.handled
  have hAk : Room k.A := ⟨by lia, by lia, hh⟩
  obtain ⟨foK, fdK, hfK, hdK⟩ := FK.obj
  refine W_cons' ?_
  refine W_For ?_
  refine W_CallT (by assumption) (kindS (by rfl)) ?_
  refine WItems_cons ?_
  refine W_int ?_
  refine WItems_cons ?_
  refine W_BinOp ?_
  refine W_Name (by walk_at "lk") ?_
  refine W_int ?_
  refine WBin_add ?_
  refine WItems_nil ?_
  refine WCall_range2 fun rg hrg => ?_
  have hrn : rangeN 1 ((size : Int) + 1) 1 = size := by
    have := rangeN_ft (a := 1) (b := size + 1) (by lia)
    rw [show size + 1 - 1 = size by lia] at this
    exact this
  have hz : sizeLine = _ := sizeLine_eq
  refine ⟨_, _, _, L4.DI H n size mm seed lists, WIter_range hh upd_same (small_ft (a := 1) (b := size + 1) (by lia) (by lia)), ⟨by walk_at "lk", by walk_at "lk", by walk_at "lk", by walk_at "lk", by walk_at "lk", Ext.upd hrg, ?_⟩, fun _ _ _ _ => trivial, ?_, ?_⟩
  · rw [Nat.sub_zero, List.drop_zero, Nat.div_eq_of_lt hn, Nat.zero_mod]
  · intro j v m' H' hj hv hI
    rw [hrn] at hj
    have hv' : v = .int ((j + 1 : Nat) : Int) := by rw [hv]; congr 1; lia
    subst hv'
    obtain ⟨vn, vsize, vm, vseed, vlists, ext, way⟩ := hI
    refine WAs_Name (stor (by rfl)) ?_
    refine W_hide fun QL hQL => ?_
    have vn1 : setL m' "i" (.int ((j + 1 : Nat) : Int)) "n" = some (.int n) := by walk_at "lk"
    have vsize1 : setL m' "i" (.int ((j + 1 : Nat) : Int)) "size" = some (.int size) := by walk_at "lk"
    have vm1 : setL m' "i" (.int ((j + 1 : Nat) : Int)) "m" = some (.int mm) := by walk_at "lk"
    have vseed1 : setL m' "i" (.int ((j + 1 : Nat) : Int)) "seed" = some (.int seed) := by walk_at "lk"
    have vlists1 : setL m' "i" (.int ((j + 1 : Nat) : Int)) "lists" = some (.bool lists) := by walk_at "lk"
    have vi1 : setL m' "i" (.int ((j + 1 : Nat) : Int)) "i" = some (.int ((j + 1 : Nat) : Int)) := setL_same
    generalize setL m' "i" (.int ((j + 1 : Nat) : Int)) = m1 at vn1 vsize1 vm1 vseed1 vlists1 vi1 ⊢
    refine W_cons' ?_
    refine W_Assign ?_ (stor (by rfl)) (by rfl)
    refine W_fig (n := n) (e := size - j) (q := mm) hroom (by lia) hm0 ?_
    refine W_Name vn1 ⟨rfl, ?_⟩
    refine W_BinOp (W_BinOp ?_)
    refine W_Name vsize1 ?_
    refine W_Name vi1 ?_
    refine WBin_sub ?_
    refine W_int ?_
    refine WBin_add ⟨by congr 1; lia, ?_⟩
    refine W_Name vm1 ⟨rfl, ?_⟩
    generalize hr : n / 3 ^ (size - j) % mm = r at way ⊢
    have hr9 : r < 9 := by rw [← hr]; exact Nat.lt_of_lt_of_le (Nat.mod_lt _ hm0) hm
    refine contQ_next (W_cons' ?_)
    refine W_Assign ?_ (stor (by rfl)) (by rfl)
    refine W_fig (n := n) (e := size - (j + 1)) (q := 3) hroom (by lia) (by decide) ?_
    refine W_Name (by walk_at "lk") ⟨rfl, ?_⟩
    refine W_BinOp ?_
    refine W_Name (by walk_at "lk") ?_
    refine W_Name (by walk_at "lk") ?_
    refine WBin_sub ⟨by congr 1; lia, ?_⟩
    refine W_int ⟨rfl, ?_⟩
    have hdrop := digs_drop (n := n) hj
    have hnext := ring_next (n := n) (m := mm) hj
    rw [hdrop] at way
    rw [hr] at hnext
    generalize hd : n / 3 ^ (size - (j + 1)) % 3 = d at way hnext hdrop ⊢
    have hd3 : d < 3 := by rw [← hd]; exact Nat.mod_lt _ (by decide)
    refine contQ_next (W_cons' ?_)
    refine W_Assign ?_ (stor (by rfl)) (by rfl)
    refine W_CallF gK (kindS (by rfl)) hfK hdK ?_
    refine WItems_cons (W_Name (by walk_at "lk") ?_)
    refine WItems_cons (W_Name (by walk_at "lk") ?_)
    refine WItems_cons (W_Name (by walk_at "lk") ?_)
    refine WItems_nil ?_
    refine FnV.mono (L4.kind_ok G0 FK hAk (by lia) (by lia)) ?_ (fun _ _ _ q => q.elim)
    intro v1 H1 hv1
    obtain ⟨rfl, rfl⟩ := hv1
    refine contQ_next ?_
    generalize hmz : setL (setL (setL m1 "r" (.int r)) "d" (.int d)) "kind" (.int (kindOf seed r d : Nat)) = m2
    have L2 : L4.DL n size mm seed lists j r d (kindOf seed r d) m2 := by
      subst hmz
      exact ⟨by walk_at "lk", by walk_at "lk", by walk_at "lk", by walk_at "lk", by walk_at "lk", by walk_at "lk", by walk_at "lk", by walk_at "lk", by walk_at "lk"⟩
    clear hmz vn vsize vm vseed vlists vn1 vsize1 vm1 vseed1 vlists1 vi1
    -- given up
    have none_ : ∀ (z : Nat) (p1 p2 : Pos) (tl : List Stmt) H2, Ext H1 H2 → ((kindOf seed r d = 4 ∨ kindOf seed r d = 8) ∨ (kindOf seed r d = 1 ∨ kindOf seed r d = 6) ∧ lists = false) → W k (execs [.Return (some (.Constant .none z p1)) p2] k.env) m2 H2 (contQ k tl QL) := fun z p1 p2 tl H2 hE hk => by
      refine W_cons' (W_Return' (W_none ?_))
      intro u hu
      refine contQ_ret (contQ_ret (hQL _ _ _ (loopQ_ret (contQ_ret (hQ0 _ _ _ (RQ_ret hu ⟨ext.trans hE, ?_⟩))))))
      rw [way, walkP_none hk]
      rfl
    refine W_cons' (W_If (WT_Or (W_allTrue_or (WT_Compare ?_))))
    refine W_Name L2.vk ?_
    refine W_Tuple ?_
    refine WItems_cons (W_int ?_)
    refine WItems_cons (W_int ?_)
    refine WItems_nil ⟨by simp [hz], fun t1 ht1 => ?_⟩
    refine WCmp_inTup upd_same (by simp [simpleV]) rfl ?_
    refine WTr_bool ?_
    rw [any2]
    refine ite_dec (fun k48 => ?_) (fun k48 => ?_)
    · refine iteT ?_
      exact none_ _ _ _ _ _ (Ext.upd ht1) (.inl (by lia))
    refine W_allTrue_or (WT_And (W_allTrue_and (WT_Compare ?_)))
    refine W_Name L2.vk ?_
    refine W_Tuple ?_
    refine WItems_cons (W_int ?_)
    refine WItems_cons (W_int ?_)
    refine WItems_nil ⟨by simp [hz], fun t2 ht2 => ?_⟩
    refine WCmp_inTup upd_same (by simp [simpleV]) rfl ?_
    refine WTr_bool ?_
    rw [any2]
    have hE12 := (Ext.upd (x := AObj.tup [V.int 4, V.int 8]) ht1).trans (Ext.upd (x := AObj.tup [V.int 1, V.int 6]) ht2)
    generalize upd (upd H1 t1 (.tup [V.int 4, V.int 8])) t2 (.tup [V.int 1, V.int 6]) = H2 at hE12
    -- not given up
    have on_ : ∀ (H2 : AHeap), Ext H1 H2 → ¬((kindOf seed r d = 1 ∨ kindOf seed r d = 6) ∧ lists = false) → W k (execs [] k.env) m2 H2 (contQ k (stm L4.dueFor 4 :: []) QL) := fun H2 hE hk => by
      refine W_nil (contQ_next (W_cons' (W_If (WT_Compare ?_))))
      refine W_Name L2.vk (W_int (WCmp_eq (WTr_bool ?_)))
      refine ite_dec (fun k2 => ?_) (fun k2 => ?_)
      · have hk2 : kindOf seed r d = 2 := by lia
        refine W_cons' (W_Return' (W_BinOp (W_Tuple ?_)))
        refine WItems_cons (W_Name L2.vr ?_)
        refine WItems_cons (W_Name L2.vd ?_)
        refine WItems_nil ⟨by simp [hz], fun tp htp => ?_⟩
        refine W_CallT gTup (kindS (by rfl)) ?_
        refine WItems_cons ?_
        refine W_ListComp (by rfl) (by rfl) (by rfl) ?_
        refine W_CallT gRange (kindS (by rfl)) ?_
        refine WItems_cons (W_BinOp ?_)
        refine W_Name L2.vi (W_int (WBin_add ?_))
        refine WItems_cons (W_BinOp ?_)
        refine W_Name L2.vsize (W_int (WBin_add ?_))
        refine WItems_nil ?_
        refine WCall_range2 fun rg2 hrg2 => ?_
        rw [show ((j + 1 : Nat) : Int) + 1 = ((j + 2 : Nat) : Int) by lia, show (size : Int) + 1 = ((size + 1 : Nat) : Int) by lia]
        have hE2 := hE.trans ((Ext.upd (x := AObj.tup [V.int r, V.int d]) htp).trans (Ext.upd (x := AObj.range ((j + 2 : Nat) : Int) ((size + 1 : Nat) : Int) 1) hrg2))
        have hrn2 : rangeN ((j + 2 : Nat) : Int) ((size + 1 : Nat) : Int) 1 = size - (j + 1) := by rw [rangeN_ft (by lia)]; lia
        refine ⟨_, _, _, fun i acc H4 => Ext (upd (upd H2 tp (.tup [.int r, .int d])) rg2 (.range ((j + 2 : Nat) : Int) ((size + 1 : Nat) : Int) 1)) H4 ∧ acc = (((digs n size).drop (j + 1)).take i).map (fun (x : Nat) => V.int (x : Int)), WIter_range hh upd_same (small_ft (by lia) (by lia)), ⟨Ext.refl _, by simp⟩, fun _ _ _ _ => trivial, ?_, ?_, ?_⟩
        · rw [hrn2, hz]; lia
        · intro kc hkc i v acc mc H4 hi hv hI hcap hx
          rw [hrn2] at hi
          haveI := hkc.senv (sc := fnScope L4.fDue) (cn := cellNames (fnScope L4.fDue).names)
          obtain ⟨hE4, rfl⟩ := hI
          refine W_tests_nil ⟨rfl, ?_⟩
          rw [if_pos rfl]
          refine W_fig (n := n) (e := size - (j + i + 2)) (q := 3) (hroom.comp hkc) (by lia) (by decide) ?_
          refine W_Name (hcap.get L2.vn (by rfl)) ⟨rfl, ?_⟩
          refine W_BinOp ?_
          refine W_Name (hcap.get L2.vsize (by rfl)) ?_
          rw [hv] at hx
          refine W_Name hx (WBin_sub ⟨by congr 1; lia, ?_⟩)
          refine W_int ⟨rfl, rfl, hE4, ?_⟩
          have h1 : ((digs n size).drop (j + 1))[i]? = some (n / 3 ^ (size - (j + i + 2)) % 3) := by
            rw [List.getElem?_drop, show j + 1 + i = j + i + 1 by lia]
            exact digs_at (by lia)
          rw [List.take_add_one, h1]
          simp
        · intro a acc H4 hal hI ha
          rw [hrn2] at hI
          obtain ⟨hE4, rfl⟩ := hI
          have hdl : ((digs n size).drop (j + 1)).length = size - (j + 1) := by rw [List.length_drop, digs_len]
          rw [List.take_of_length_le (by lia)]
          refine WItems_nil ?_
          refine WCall_tupleL upd_same (by rw [List.length_map, hdl, hz]; lia) fun p hp => ?_
          have htp4 := hE4 tp _ (upd_fresh hrg2 upd_same)
          refine WBin_addT (upd_fresh hp (upd_fresh ha htp4)) upd_same (by simp only [List.length_map, List.length_cons, List.length_nil, hdl, hz]; lia) fun q H' hE' hq => ?_
          intro u hu
          refine contQ_ret (contQ_ret (hQL _ _ _ (loopQ_ret (contQ_ret (hQ0 _ _ _ (RQ_ret hu ⟨?_, ?_⟩))))))
          · exact ((ext.trans hE2).trans hE4).trans (((Ext.upd ha).trans (Ext.upd hp)).trans hE')
          · rw [way, walkP_stop hk2]
            exact ⟨q, rfl, hq⟩
      · refine W_nil (contQ_next (W_nil (hQL _ _ _ (loopQ_next ?_))))
        refine ⟨L2.vn, L2.vsize, L2.vm, L2.vseed, L2.vlists, ext.trans hE, ?_⟩
        rw [way, walkP_on (by lia) hk (by lia), hnext]
    refine ite_dec (fun k16 => ?_) (fun k16 => ?_)
    · refine W_allTrue_and (WT_Not (WT_plain ?_))
      refine W_Name L2.vlists (WTr_bool ?_)
      cases hls : lists with
      | false =>
        refine iteT (W_allTrue_nilA (iteT (iteT ?_)))
        exact none_ _ _ _ _ _ hE12 (.inr ⟨by lia, hls⟩)
      | true =>
        refine iteF (iteF (W_allTrue_nilO (iteF ?_)))
        exact on_ _ hE12 (fun q => by rw [hls] at q; exact absurd q.2 (by decide))
    · refine iteF (W_allTrue_nilO (iteF ?_))
      exact on_ _ hE12 (fun q => k16 (by lia))
  · intro m' H' hI
    rw [hrn] at hI
    obtain ⟨vn, vsize, vm, vseed, vlists, ext, way⟩ := hI
    refine contQ_next (W_cons' ?_)
    refine W_Return' ?_
    refine W_Tuple ?_
    refine WItems_cons (W_BinOp ?_)
    refine W_Name vn ?_
    refine W_Name vm ?_
    refine WBin_mod hroom (by lia) ?_
    refine WItems_nil ⟨by simp [hz], fun p hp => ?_⟩
    intro u hu
    refine contQ_ret (hQ0 _ _ _ (RQ_ret hu ⟨ext.trans (Ext.upd hp), ?_⟩))
    rw [way, Nat.sub_self, List.drop_of_length_le (by rw [digs_len]; exact Nat.le_refl _), Nat.pow_zero, Nat.div_one]
    refine ⟨p, rfl, upd_same.trans ?_⟩
    rw [Int.fmod_eq_emod_of_nonneg _ (by lia)]
    rfl
end
section
noncomputable abbrev L4.fRings : Stmt := stm L4.stmsC 6
noncomputable def nmL (t : Nat → Tok) : List V := [.str "a" (t 0), .str "a.a" (t 1), .str "" (t 2)]
theorem nmL_at {t : Nat → Tok} {d : Nat} (h : d < 3) : (nmL t)[d]? = some (.str (nm d) (t d)) := by
  have : d = 0 ∨ d = 1 ∨ d = 2 := by lia
  rcases this with rfl | rfl | rfl <;> rfl
structure L4.RV (nt ra seed mm : Nat) (m' : Loc) : Prop where
  vn : m' "names" = some (.ref nt)
  vra : m' "rings" = some (.ref ra)
  vseed : m' "seed" = some (.int seed)
  vm : m' "m" = some (.int mm)
structure L4.RI (H0 : AHeap) (first nt ra : Addr) (t : Nat → Tok) (R : List Addr) (seed mm r : Nat) (P : AHeap → Addr → Prop) (m' : Loc) (H : AHeap) : Prop where
  v : L4.RV nt ra seed mm m'
  hra : H ra = some (.list (R.map V.ref))
  hnt : H nt = some (.list (nmL t))
  X : Rings H0 first H R seed mm r (P H)
theorem WPairs_nil {k : Wk} {m : Loc} {H : AHeap} {Q : List (V × V) → Loc → AHeap → Prop} (h : Q [] m H) : WPairs k [] [] m H Q := h
theorem WPairs_cons {k : Wk} {m : Loc} {H : AHeap} {ke ve : Expr} {ks : List (Option Expr)} {vs : List Expr} {Q : List (V × V) → Loc → AHeap → Prop} (h : WV k (eval ke k.env) m H fun kv m1 H1 => WV k (eval ve k.env) m1 H1 fun vv m2 H2 => WPairs k ks vs m2 H2 fun ps => Q ((kv, vv) :: ps)) : WPairs k (some ke :: ks) (ve :: vs) m H Q := h
theorem swaps_List {es : List Expr} {p : Pos} {t : Option Expr} {n : Nat} {env : Env} : swapsWith (.List es p) t n env = pure false := rfl
theorem swaps_IfExp {a b c : Expr} {p : Pos} {t : Option Expr} {n : Nat} {env : Env} : swapsWith (.IfExp a b c p) t n env = pure false := rfl
theorem swaps_Name {x : Str} {p : Pos} {t : Option Expr} {n : Nat} {env : Env} : swapsWith (.Name x p) t n env = pure false := rfl
theorem W_Is {k : Wk} {m : Loc} {H : AHeap} {x : Str} {n : Int} {z1 z2 : Nat} {p1 p2 p3 p4 : Pos} {Q : V → Loc → AHeap → Prop} (hx : x = "is") (hn : n = 1) (h : ∀ a ep, H a = none → Q (.ref a) m (upd H a (.dict [(.inr "is", .int (-1))] ep))) :
    WV k (eval (.Dict [some (.Constant (.str x) z1 p1)] [.UnaryOp .USub (.Constant (.int n) z2 p2) p3] p4) k.env) m H Q := by
  subst hx; subst hn
  refine W_Dict (hlen := by simp) (WPairs_cons (W_str fun t1 _ => W_UnaryOp (W_int (WUn_neg ?_))))
  exact WPairs_nil ⟨[(.inr "is", .int (-1))], ⟨by simp [isKV], rfl, trivial⟩, fun a ep h0 => h a ep h0⟩
theorem L4.RV.setR {nt ra seed mm : Nat} {m' : Loc} {x : Str} {v : V} (h : L4.RV nt ra seed mm m') (h1 : x ≠ "names" := by decide +kernel) (h2 : x ≠ "rings" := by decide +kernel) (h3 : x ≠ "seed" := by decide +kernel) (h4 : x ≠ "m" := by decide +kernel) : L4.RV nt ra seed mm (setL m' x v) :=
  ⟨setL_ne h1.symm h.vn, setL_ne h2.symm h.vra, setL_ne h3.symm h.vseed, setL_ne h4.symm h.vm⟩
theorem L4.RI.ext {H0 : AHeap} {first nt ra : Addr} {t : Nat → Tok} {R : List Addr} {seed mm r : Nat} {P : AHeap → Addr → Prop} {m' : Loc} {H H' : AHeap} (h : L4.RI H0 first nt ra t R seed mm r P m' H) (hE : Ext H H') (hP : ∀ a, P H a → P H' a) : L4.RI H0 first nt ra t R seed mm r P m' H' :=
  ⟨h.v, hE _ _ h.hra, hE _ _ h.hnt, h.X.ext hE hP⟩
set_option maxHeartbeats 2000000 in
theorem L4.rings_ok {c : Cx} {A : Around} {f fK first nt : Addr} {ep0 seed mm : Nat} {t : Nat → Tok} {H : AHeap} (G : Blt c) (F : DefAt c f L4.fRings) (FK : DefAt c fK L4.fKind) (gK : Gl c "_law_kind" (.ref fK)) (hA : Room A) (hA' : A.depth ≤ 599 ∧ A.units ≤ 1997)
    (hm0 : 0 < mm) (hm : mm ≤ 9) (hf : H first = some (.dict [] ep0)) (hnt : H nt = some (.list (nmL t))) :
    FnV c A f [.ref first, .ref nt, .int seed, .int mm] [] H (fun v H' => ∃ R ra P, v = .ref ra ∧ H ra = none ∧ H' ra = some (.list (R.map V.ref)) ∧ Rings H first H' R seed mm mm P) NoX := by
  refine FnV.top F hA ["first", "names", "seed", "m"] rfl (fun fd rvs h1 h2 h3 hl => ?_) (by rfl) fun k hk => ?_
  · obtain ⟨x, y, z, u, rfl⟩ := len4 hl
    cases fd; simp only at h1 h2 h3; subst h1; subst h2; subst h3; rfl
  obtain ⟨rfl, sv, hfr, hdep, hun, hhd, hX, hhere⟩ := hk
  show W k (execs (fnBody L4.fRings) k.env) (setL (setL (setL (setL noLoc "first" (.ref first)) "names" (.ref nt)) "seed" (.int seed)) "m" (.int mm)) H _
  refine W_hide fun Q0 hQ0 => ?_
  have G0 := G
  obtain ⟨gLen, gDivmod, gIsi, gList, gDict, gStr, gRange, gZip, gKE, gIE, imp, tree⟩ := G
  have hroom : Roomy k := Roomy.of hfr (by have := hA.depth; lia) imp tree rfl rfl
  have hh : k.A.handled = none := hhd.trans hA.handled
  have hAk : Room k.A := ⟨by lia, by lia, hh⟩
  have hz : sizeLine = _ := sizeLine_eq
  obtain ⟨foK, fdK, hfK, hdK⟩ := FK.obj
  refine W_cons' (W_Assign ?_ (stor (by rfl)) (by rfl))
  refine W_BinOp (W_List ?_)
  refine WItems_cons (W_Name (by walk_at "lk") ?_)
  refine WItems_nil ⟨by simp [hz], fun l0 hl0 => ?_⟩
  refine W_ListComp (by rfl) (by rfl) (by rfl) ?_
  refine W_CallT gRange (kindS (by rfl)) ?_
  refine WItems_cons (W_BinOp (W_Name (by walk_at "lk") (W_int (WBin_sub ?_))))
  refine WItems_nil ?_
  refine WCall_range1 fun rg hrg => ?_
  rw [show (mm : Int) - 1 = ((mm - 1 : Nat) : Int) by lia]
  have hE0 := (Ext.upd (x := AObj.list [V.ref first]) hl0).trans (Ext.upd (x := AObj.range 0 ((mm - 1 : Nat) : Int) 1) hrg)
  have hl0' : upd (upd H l0 (.list [V.ref first])) rg (.range 0 ((mm - 1 : Nat) : Int) 1) l0 = some (.list [V.ref first]) := upd_fresh hrg upd_same
  refine ⟨_, _, _, fun i acc H4 => ∃ as : List Addr, acc = as.map V.ref ∧ as.length = i ∧ as.Nodup ∧ (∀ a ∈ as, H a = none ∧ H4 a = some (.dict [] 0)) ∧ Ext (upd (upd H l0 (.list [V.ref first])) rg (.range 0 ((mm - 1 : Nat) : Int) 1)) H4, WIter_range hh upd_same (small_ft (a := 0) (by lia) (by lia)), ⟨[], rfl, rfl, List.nodup_nil, fun a h => (by cases h), Ext.refl _⟩, fun _ _ _ _ => trivial, ?_, ?_, ?_⟩
  · rw [rangeN_up, hz]; lia
  · intro kc hkc i v acc mc H4 hi hv hI hcap hx
    obtain ⟨as, rfl, hl, hn, hd, hE⟩ := hI
    refine W_tests_nil ⟨rfl, ?_⟩
    rw [if_pos rfl]
    refine W_Dict0 fun D hD => ⟨rfl, as ++ [D], by simp, by simp [hl], ?_, fun a ha => ?_, hE.trans (Ext.upd hD)⟩
    · rw [List.nodup_append]
      refine ⟨hn, by simp, fun a ha b hb e => ?_⟩
      rw [List.mem_singleton.mp hb] at e
      have := (hd a ha).2
      rw [e, hD] at this; cases this
    · rcases List.mem_append.mp ha with ha | ha
      · exact ⟨(hd a ha).1, upd_fresh hD (hd a ha).2⟩
      · rw [List.mem_singleton.mp ha]
        refine ⟨?_, upd_same⟩
        cases e : H D with
        | none => rfl
        | some y => have := hE D _ (hE0 D _ e); rw [hD] at this; cases this
  · intro l1 acc H4 hal hI hl1
    obtain ⟨as, rfl, hl, hn, hd, hE⟩ := hI
    rw [rangeN_up] at hl
    refine WBin_addL (upd_fresh hl1 (hE l0 _ hl0')) upd_same (by simp [hl, hz]; lia) fun ra hra => ?_
    refine contQ_next ?_
    have hEr : Ext H (upd (upd H4 l1 (.list (as.map V.ref))) ra (.list ([V.ref first] ++ as.map V.ref))) := (hE0.trans hE).trans ((Ext.upd hl1).trans (Ext.upd hra))
    have I0 : L4.RI H first nt ra t (first :: as) seed mm 0 (fun H a => ∃ ep, H a = some (.dict [] ep)) (setL (setL (setL (setL (setL noLoc "first" (.ref first)) "names" (.ref nt)) "seed" (.int seed)) "m" (.int mm)) "rings" (.ref ra)) (upd (upd H4 l1 (.list (as.map V.ref))) ra (.list ([V.ref first] ++ as.map V.ref))) := by
      have hfd : ∀ a ∈ as, a ≠ first := fun a ha e => by
        have := (hd a ha).1
        rw [e, hf] at this; cases this
      refine ⟨⟨by walk_at "lk", by walk_at "lk", by walk_at "lk", by walk_at "lk"⟩, upd_same, hEr nt _ hnt, ?_⟩
      refine ⟨by simp [hl]; lia, List.nodup_cons.mpr ⟨fun h => hfd _ h rfl, hn⟩, rfl, fun i a hi ha => ?_, fun b y _ h => hEr b y h, fun i a hi => absurd hi (Nat.not_lt_zero _), fun a ha => ?_, fun i a hi ha => ?_⟩
      · cases i with
        | zero => exact absurd hi (Nat.lt_irrefl _)
        | succ i => exact (hd a (List.mem_of_getElem? (show as[i]? = some a from ha))).1
      · cases ha; exact ⟨_, hEr first _ hf⟩
      · cases i with
        | zero => exact absurd hi (Nat.lt_irrefl _)
        | succ i => exact ⟨0, upd_fresh hra (upd_fresh hl1 (hd a (List.mem_of_getElem? (show as[i]? = some a from ha))).2)⟩
    have hra0 : H ra = none := by
      cases e : H ra with
      | none => rfl
      | some y => have := (hE0.trans hE) ra _ e; rw [(upd_eq_none.mp hra).2] at this; cases this
    generalize setL (setL (setL (setL (setL noLoc "first" (.ref first)) "names" (.ref nt)) "seed" (.int seed)) "m" (.int mm)) "rings" (.ref ra) = m0 at I0 ⊢
    generalize upd (upd H4 l1 (.list (as.map V.ref))) ra (.list ([V.ref first] ++ as.map V.ref)) = H0 at I0 ⊢
    have hnf : nt ≠ first := fun e => by rw [e, hf] at hnt; cases hnt
    clear hE hd hn hl hal hl1 hra hl0 hl0' hrg hE0 hEr
    generalize first :: as = R at I0
    refine W_cons' (W_For ?_)
    refine W_CallT gRange (kindS (by rfl)) ?_
    refine WItems_cons (W_Name I0.v.vm (WItems_nil ?_))
    refine WCall_range1 fun rg2 hrg2 => ?_
    refine ⟨_, _, _, fun i m' H' => L4.RI H first nt ra t R seed mm i (fun H a => ∃ ep, H a = some (.dict [] ep)) m' H', WIter_range hh upd_same (small_ft (a := 0) (by lia) (by lia)), I0.ext (Ext.upd hrg2) (fun a ⟨ep, e⟩ => ⟨ep, upd_fresh hrg2 e⟩), fun _ _ _ _ => trivial, ?_, ?_⟩
    · intro r v m' H' hr hv I
      rw [rangeN_up] at hr
      have hv' : v = .int (r : Int) := by rw [hv]; congr 1; lia
      subst hv'
      refine WAs_Name (stor (by rfl)) ?_
      refine W_hide fun QL hQL => ?_
      have V := I.v.setR (x := "r") (v := .int (r : Int))
      have vr : setL m' "r" (.int (r : Int)) "r" = some (.int (r : Int)) := setL_same
      generalize setL m' "r" (.int (r : Int)) = m1 at V vr ⊢
      have hlen := I.X.len
      have hra' : R[r]? = some (R[r]'(by lia)) := List.getElem?_eq_getElem _
      generalize R[r]'(by lia) = a at hra'
      obtain ⟨ep, hae⟩ := I.X.now a hra'
      refine W_cons' (W_AssignSub ?_ swaps_Name)
      refine W_Name vr ?_
      refine W_Subscript ?_
      refine W_Name V.vra ?_
      refine W_Name vr ?_
      refine WSub_list (v := .ref a) I.hra (by lia) (by lia) (by rw [List.getElem?_map, Int.toNat_natCast, hra']; rfl) ?_
      refine W_str fun tk htk => ?_
      refine WSet_dict hae (key := .inr "is") (by simp [isKV]) (by simp) ?_
      refine contQ_next ?_
      have hP : L4.RI H first nt ra t R seed mm r (fun H a => ∃ vs ep, RowIs H R seed mm r 0 a vs ep) m1 (upd H' a (.dict (putK [] (.inr "is") (.int (r : Int))) (epK [] (.inr "is") ep))) := by
        refine ⟨V, upd_ne (fun e => ?_) I.hra, upd_ne (fun e => ?_) I.hnt, I.X.change hra' (fun b y hb h => upd_ne hb h) ⟨_, _, hae, by simp⟩ ⟨[], _, rfl, upd_same, fun i e w h1 h2 => by simp [thereTo] at h1⟩⟩
        · rw [← e, I.hra] at hae; cases hae
        · rw [← e, I.hnt] at hae; cases hae
      generalize upd H' a (.dict (putK [] (.inr "is") (.int (r : Int))) (epK [] (.inr "is") ep)) = H1 at hP
      clear hae I V
      refine W_cons' (W_For ?_)
      refine W_CallT gRange (kindS (by rfl)) ?_
      refine WItems_cons (W_int (WItems_nil ?_))
      refine WCall_range1 fun rg3 hrg3 => ?_
      refine ⟨_, _, _, fun d m' H' => m' "r" = some (.int (r : Int)) ∧ L4.RI H first nt ra t R seed mm r (fun H a => ∃ vs ep, RowIs H R seed mm r d a vs ep) m' H', WIter_range hh upd_same (small_ft (a := 0) (b := 3) (by lia) (by lia)), ⟨vr, hP.ext (Ext.upd hrg3) (fun a ⟨vs, ep, Y⟩ => ⟨vs, ep, Y.ext (Ext.upd hrg3)⟩)⟩, fun _ _ _ _ => trivial, ?_, ?_⟩
      · intro d v m' H' hd hv hI
        rw [show rangeN 0 3 1 = 3 from rangeN_up 3] at hd
        have hv' : v = .int (d : Int) := by rw [hv]; congr 1; lia
        subst hv'
        obtain ⟨vr', I⟩ := hI
        refine WAs_Name (stor (by rfl)) ?_
        refine W_hide fun QD hQD => ?_
        have V := (I.v.setR (x := "d") (v := .int (d : Int)))
        have vr1 : setL m' "d" (.int (d : Int)) "r" = some (.int (r : Int)) := by walk_at "lk"
        have vd1 : setL m' "d" (.int (d : Int)) "d" = some (.int (d : Int)) := setL_same
        generalize setL m' "d" (.int (d : Int)) = m2 at V vr1 vd1 ⊢
        obtain ⟨_, Ira, Int_, IX⟩ := I
        have hg : R[(3 * r + d) % mm]? = some (R[(3 * r + d) % mm]'(by rw [hlen]; exact Nat.mod_lt _ hm0)) := List.getElem?_eq_getElem _
        generalize R[(3 * r + d) % mm]'(by rw [hlen]; exact Nat.mod_lt _ hm0) = g at hg
        have hmod9 : (3 * r + d) % mm < 9 := Nat.lt_of_lt_of_le (Nat.mod_lt _ hm0) hm
        refine W_cons' (W_Assign ?_ (stor (by rfl)) (by rfl))
        refine W_Subscript (W_Name V.vra ?_)
        refine W_BinOp (W_BinOp (W_BinOp (W_int (W_Name vr1 (WBin_mul (small_mul (by lia)) ?_)))))
        refine W_Name vd1 (WBin_add (W_Name V.vm (WBin_mod hroom (by lia) ?_)))
        rw [show Int.fmod (3 * (r : Int) + (d : Int)) (mm : Int) = (((3 * r + d) % mm : Nat) : Int) by rw [Int.fmod_eq_emod_of_nonneg _ (by lia)]; push_cast; rfl]
        refine WSub_list (v := .ref g) Ira (by lia) (by lia) (by rw [List.getElem?_map, Int.toNat_natCast, hg]; rfl) ?_
        refine contQ_next (W_cons' (W_Assign ?_ (stor (by rfl)) (by rfl)))
        have vs2 := V.vseed
        refine W_CallF gK (kindS (by rfl)) hfK hdK ?_
        refine WItems_cons (W_Name (by walk_at "lk") ?_)
        refine WItems_cons (W_Name (by walk_at "lk") ?_)
        refine WItems_cons (W_Name (by walk_at "lk") ?_)
        refine WItems_nil ?_
        refine FnV.mono (L4.kind_ok G0 FK hAk (by lia) (by lia)) ?_ (fun _ _ _ q => q.elim)
        intro v1 H1 hv1
        obtain ⟨rfl, rfl⟩ := hv1
        refine contQ_next ?_
        have V3 := ((V.setR (x := "goal") (v := .ref g)).setR (x := "kind") (v := .int (kindOf seed r d : Nat)))
        have vr3 : setL (setL m2 "goal" (.ref g)) "kind" (.int (kindOf seed r d : Nat)) "r" = some (.int (r : Int)) := by walk_at "lk"
        have vd3 : setL (setL m2 "goal" (.ref g)) "kind" (.int (kindOf seed r d : Nat)) "d" = some (.int (d : Int)) := by walk_at "lk"
        have vg3 : setL (setL m2 "goal" (.ref g)) "kind" (.int (kindOf seed r d : Nat)) "goal" = some (.ref g) := by walk_at "lk"
        have vk3 : setL (setL m2 "goal" (.ref g)) "kind" (.int (kindOf seed r d : Nat)) "kind" = some (.int (kindOf seed r d : Nat)) := by walk_at "lk"
        generalize setL (setL m2 "goal" (.ref g)) "kind" (.int (kindOf seed r d : Nat)) = m3 at V3 vr3 vd3 vg3 vk3 ⊢
        clear V vr1 vd1
        -- a thing is put
        have put : ∀ (Q' : Loc → AHeap → Prop) (v : V) (H3 : AHeap) (p1 p2 p3 p4 p5 p6 : Pos), Ext H1 H3 → kindOf seed r d ≠ 2 → RingV H3 R seed mm r d v →
            (∀ H4, L4.RI H first nt ra t R seed mm r (fun H a => ∃ vs ep, RowIs H R seed mm r (d + 1) a vs ep) m3 H4 → Q' m3 H4) →
            WV k (eval (.Subscript (.Name "rings" p1) (.Name "r" p2) p3) k.env) m3 H3 fun ov m4 H4 => WV k (eval (.Subscript (.Name "names" p4) (.Name "d" p5) p6) k.env) m4 H4 fun iv m5 H5 => WSet k ov iv v m5 H5 Q' := by
          intro Q' v H3 p1 p2 p3 p4 p5 p6 hE hk2 hV hQ
          obtain ⟨vs, ep, Y⟩ := (IX.ext (P' := fun a => ∃ vs ep, RowIs H3 R seed mm r d a vs ep) hE (fun a ⟨vs, ep, Y⟩ => ⟨vs, ep, Y.ext hE⟩)).now a hra'
          have IX3 := IX.ext (P' := fun a => ∃ vs ep, RowIs H3 R seed mm r d a vs ep) hE (fun a ⟨vs, ep, Y⟩ => ⟨vs, ep, Y.ext hE⟩)
          refine W_Subscript (W_Name V3.vra (W_Name vr3 ?_))
          refine WSub_list (v := .ref a) (hE _ _ Ira) (by lia) (by lia) (by rw [List.getElem?_map, Int.toNat_natCast, hra']; rfl) ?_
          refine W_Subscript (W_Name V3.vn (W_Name vd3 ?_))
          refine WSub_list (v := .str (nm d) (t d)) (hE _ _ Int_) (by lia) (by lia) (by rw [Int.toNat_natCast]; exact nmL_at hd) ?_
          have hvl : vs.length ≤ 3 := by
            rw [Y.len]
            refine Nat.le_trans (List.length_filter_le _ _) ?_
            rw [List.length_range]; lia
          refine WSet_dict Y.at_ (key := .inr (nm d)) (by simp [isKV]) (by unfold rowK; simp only [List.length_cons, List.length_map, List.length_zip, hz]; lia) ?_
          rw [putK_new (Y.lacks hd)]
          refine hQ _ ⟨V3, upd_ne (fun e => ?_) (hE _ _ Ira), upd_ne (fun e => ?_) (hE _ _ Int_), IX3.put hra' Y hk2 hV rfl⟩
          · have h1 := Y.at_
            rw [← e, hE _ _ Ira] at h1; cases h1
          · have h1 := Y.at_
            rw [← e, hE _ _ Int_] at h1; cases h1
        refine W_cons' (W_If (WT_Compare (W_Name vk3 (W_int (WCmp_eq (WTr_bool ?_))))))
        refine ite_dec (fun k1 => ?_) (fun k1 => ?_)
        · have hk : kindOf seed r d = 1 := by lia
          refine W_cons' ?_
          refine W_AssignSub ?_ swaps_List
          refine W_List ?_
          refine WItems_cons ?_
          refine W_Is rfl rfl fun e1 q1 he1 => ?_
          refine WItems_cons ?_
          refine W_Is rfl rfl fun e2 q2 he2 => ?_
          refine WItems_cons (W_Name vg3 (WItems_nil ⟨by simp [hz], fun l hl' => ?_⟩))
          refine put _ _ _ _ _ _ _ _ _ ((Ext.upd he1).trans ((Ext.upd he2).trans (Ext.upd hl'))) (by lia) (RingV.k1 hg hk upd_same (upd_fresh hl' (upd_fresh he2 upd_same)) (upd_fresh hl' upd_same)) fun H4 I4 => ?_
          exact contQ_next (W_nil (contQ_next (W_nil (hQD _ _ _ (loopQ_next ⟨vr3, I4⟩)))))
        refine W_cons' (W_If (WT_Compare (W_Name vk3 (W_int (WCmp_eq (WTr_bool ?_))))))
        refine ite_dec (fun k6 => ?_) (fun k6 => ?_)
        · have hk : kindOf seed r d = 6 := by lia
          refine W_cons' (W_AssignSub ?_ swaps_List)
          refine W_List (WItems_cons (W_Name vg3 (WItems_nil ⟨by simp [hz], fun l hl' => ?_⟩)))
          refine put _ _ _ _ _ _ _ _ _ (Ext.upd hl') (by lia) (RingV.k6 hg hk upd_same) fun H4 I4 => ?_
          exact contQ_next (W_nil (contQ_next (W_nil (contQ_next (W_nil (hQD _ _ _ (loopQ_next ⟨vr3, I4⟩)))))))
        refine W_cons' (W_If (WT_Compare (W_Name vk3 (W_int (WCmp_eq (WTr_bool ?_))))))
        refine ite_dec (fun k8 => ?_) (fun k8 => ?_)
        · have hk : kindOf seed r d = 8 := by lia
          refine W_cons' (W_AssignSub ?_ swaps_List)
          refine W_List (WItems_cons (W_List ?_))
          refine WItems_cons (W_Name vg3 (WItems_nil ⟨by simp [hz], fun l2 hl2 => ?_⟩))
          refine WItems_nil ⟨by simp [hz], fun l hl' => ?_⟩
          refine put _ _ _ _ _ _ _ _ _ ((Ext.upd hl2).trans (Ext.upd hl')) (by lia) (RingV.k8 hg hk upd_same (upd_fresh hl' upd_same)) fun H4 I4 => ?_
          exact contQ_next (W_nil (contQ_next (W_nil (contQ_next (W_nil (contQ_next (W_nil (hQD _ _ _ (loopQ_next ⟨vr3, I4⟩)))))))))
        refine W_cons' (W_If (WT_Compare (W_Name vk3 (W_int (WCmp_eq (WTr_bool ?_))))))
        refine ite_dec (fun k4 => ?_) (fun k4 => ?_)
        · have hk : kindOf seed r d = 4 := by lia
          refine W_cons' (W_AssignSub ?_ swaps_IfExp)
          have leaf : ∀ (v : V) (p1 p2 p3 p4 p5 p6 : Pos), (if (3 * r + d) % mm % 2 = 1 then ∃ t, v = .str "a" t else v = .int 0) → WV k (eval (.Subscript (.Name "rings" p1) (.Name "r" p2) p3) k.env) m3 H1 fun ov m4 H4 => WV k (eval (.Subscript (.Name "names" p4) (.Name "d" p5) p6) k.env) m4 H4 fun iv m5 H5 => WSet k ov iv v m5 H5 (contQ k [] (contQ k [] (contQ k [] (contQ k [] (contQ k [] QD)))) .next) := fun v p1 p2 p3 p4 p5 p6 h => by
            refine put _ _ _ _ _ _ _ _ _ (Ext.refl _) (by lia) (RingV.k4 hg hk h) fun H4 I4 => ?_
            exact contQ_next (W_nil (contQ_next (W_nil (contQ_next (W_nil (contQ_next (W_nil (contQ_next (W_nil (hQD _ _ _ (loopQ_next ⟨vr3, I4⟩)))))))))))
          refine W_IfExp (WT_plain ?_)
          refine W_BinOp (W_BinOp (W_BinOp (W_BinOp (W_int (W_Name vr3 (WBin_mul (small_mul (by lia)) ?_))))))
          refine W_Name vd3 (WBin_add (W_Name V3.vm (WBin_mod hroom (by lia) ?_)))
          rw [show Int.fmod (3 * (r : Int) + (d : Int)) (mm : Int) = (((3 * r + d) % mm : Nat) : Int) by rw [Int.fmod_eq_emod_of_nonneg _ (by lia)]; push_cast; rfl]
          refine W_int (WBin_mod hroom (by decide) (WTr_int ?_))
          rw [show Int.fmod (((3 * r + d) % mm : Nat) : Int) 2 = (((3 * r + d) % mm % 2 : Nat) : Int) by rw [Int.fmod_eq_emod_of_nonneg _ (by decide)]; push_cast; rfl]
          refine ite_dec (fun h2 => ?_) (fun h2 => ?_)
          · refine W_str fun tk _ => ?_
            exact leaf _ _ _ _ _ _ _ (by rw [if_pos (by lia)]; exact ⟨tk, rfl⟩)
          · refine W_int ?_
            exact leaf _ _ _ _ _ _ _ (by rw [if_neg (by lia)])
        refine W_cons' (W_If (WT_Compare (W_Name vk3 (W_int (WCmp_ne (WTr_bool ?_))))))
        refine ite_dec (fun k2 => ?_) (fun k2 => ?_)
        · refine W_cons' (W_AssignSub ?_ swaps_Name)
          refine W_Name vg3 ?_
          refine put _ _ _ _ _ _ _ _ _ (Ext.refl _) (by lia) (RingV.kx hg (by lia) (by lia) (by lia) (by lia)) fun H4 I4 => ?_
          exact contQ_next (W_nil (contQ_next (W_nil (contQ_next (W_nil (contQ_next (W_nil (contQ_next (W_nil (contQ_next (W_nil (hQD _ _ _ (loopQ_next ⟨vr3, I4⟩)))))))))))))
        · refine W_nil (contQ_next (W_nil (contQ_next (W_nil (contQ_next (W_nil (contQ_next (W_nil (contQ_next (W_nil (hQD _ _ _ (loopQ_next ⟨vr3, V3, Ira, Int_, IX.ext (Ext.refl _) fun a ⟨vs, ep, Y⟩ => ⟨vs, ep, Y.skip (by lia)⟩⟩))))))))))))
      · intro m' H' hI
        rw [show rangeN 0 3 1 = 3 from rangeN_up 3] at hI
        refine contQ_next (W_nil (hQL _ _ _ (loopQ_next ?_)))
        exact ⟨hI.2.v, hI.2.hra, hI.2.hnt, hI.2.X.next⟩
    · intro m' H' hI
      rw [rangeN_up] at hI
      refine contQ_next (W_cons' (W_Return' (W_Name hI.v.vra ?_)))
      intro u hu
      exact contQ_ret (hQ0 _ _ _ (RQ_ret hu ⟨R, ra, _, rfl, hra0, hI.hra, hI.X⟩))
end
section
noncomputable abbrev L4.fLead : Stmt := stm L4.stmsC 7
noncomputable def Leads (H : AHeap) (g : Addr) : List Nat → V → Prop
  | [], v => v = .ref g
  | s :: ss, v => ∃ l pre w, v = .ref l ∧ H l = some (.list (pre ++ [w])) ∧ pre.length + 1 = s ∧ s ≤ 3 ∧ (∀ (i : Nat) u, pre[i]? = some u → ∃ e p, u = .ref e ∧ H e = some (.dict [(.inr "is", .int (-1))] p)) ∧ Leads H g ss w
theorem Leads.ext {H H' : AHeap} {g : Addr} (hE : Ext H H') : ∀ {ss : List Nat} {v : V}, Leads H g ss v → Leads H' g ss v
  | [], v, h => h
  | s :: ss, v, ⟨l, pre, w, h1, h2, h3, h4, h5, h6⟩ => ⟨l, pre, w, h1, hE _ _ h2, h3, h4, fun i u hu => (by obtain ⟨e, p, q1, q2⟩ := h5 i u hu; exact ⟨e, p, q1, hE _ _ q2⟩), h6.ext hE⟩
noncomputable def sizesOf (kd : Nat) : List Nat := if kd = 1 then [3] else if kd = 6 then [1] else if kd = 8 then [1, 1] else []
theorem RingV.leads {H : AHeap} {R : List Addr} {seed m r d : Nat} {v : V} (h : RingV H R seed m r d v) (h4 : kindOf seed r d ≠ 4) : ∃ g, R[(3 * r + d) % m]? = some g ∧ Leads H g (sizesOf (kindOf seed r d)) v := by
  refine Mine.hideG fun GG back => ?_
  obtain ⟨g, hg, h1, h6, h8, _, hx⟩ := h
  refine back ?_
  clear back
  refine ⟨g, hg, ?_⟩
  unfold sizesOf
  by_cases k1 : kindOf seed r d = 1
  · rw [if_pos k1]
    refine Mine.hideG fun GG back => ?_
    obtain ⟨l, e1, e2, p1, p2, rfl, q1, q2, q3⟩ := h1 k1
    refine back ?_
    clear back
    refine ⟨l, [.ref e1, .ref e2], .ref g, rfl, q1, rfl, by lia, fun i u hu => ?_, rfl⟩
    match i, hu with
    | 0, hu => cases hu; exact ⟨_, _, rfl, q2⟩
    | 1, hu => cases hu; exact ⟨_, _, rfl, q3⟩
  rw [if_neg k1]
  by_cases k6 : kindOf seed r d = 6
  · rw [if_pos k6]
    refine Mine.hideG fun GG back => ?_
    obtain ⟨l, rfl, q1⟩ := h6 k6
    refine back ?_
    clear back
    exact ⟨l, [], .ref g, rfl, q1, rfl, by lia, fun i u hu => by simp at hu, rfl⟩
  rw [if_neg k6]
  by_cases k8 : kindOf seed r d = 8
  · rw [if_pos k8]
    refine Mine.hideG fun GG back => ?_
    obtain ⟨l, l2, rfl, q1, q2⟩ := h8 k8
    refine back ?_
    clear back
    exact ⟨l, [], .ref l2, rfl, q1, rfl, by lia, fun i u hu => by simp at hu, l2, [], .ref g, rfl, q2, rfl, by lia, fun i u hu => by simp at hu, rfl⟩
  rw [if_neg k8]
  exact hx k1 k6 k8 h4
theorem folded_Call {f : Expr} {args : List Expr} {kws : List Keyword} {p : Pos} {env : Env} (x : Value) : foldedSetIterable (.Call f args kws p) env x = pure x := rfl
theorem clip_neg1 : ∀ n : Nat, clipAt n (-1) = n - 1
  | 0 => by decide
  | n + 1 => by
    unfold clipAt
    rw [if_pos (by decide), show (-1 : Int) + ((n + 1 : Nat) : Int) = (n : Int) by lia, Int.min_eq_left (Int.ofNat_le.mpr (Nat.le_succ n)), Int.max_eq_right (Int.natCast_nonneg n)]
    rfl
theorem sliceV_dropLast' {α : Type} (xs : List α) : sliceV xs none (some (-1)) = xs.dropLast := by
  unfold sliceV
  simp only [Option.elim, List.drop_zero, Nat.sub_zero]
  rw [List.dropLast_eq_take, clip_neg1]
theorem W_DictGet {k : Wk} {ks : List (Option Expr)} {vs : List Expr} {p ap pos : Pos} {args : List Expr} {m : Loc} {H : AHeap} {Q : V → Loc → AHeap → Prop} (h : WV k (eval (.Dict ks vs p) k.env) m H fun ov m1 H1 => MethOn k.c H1 "dict" ov ∧ WItems k args m1 H1 fun xs m2 H2 => WCall k (.builtin "dict.get") (ov :: xs) m2 H2 Q)
    (hfew : ((backTo pos (starEach args k.env)).all (fun x => !x.1) && (backToKw pos (keywordEach [] k.env)).all (fun x => x.1.isSome)
      && decide (args.length + ([] : List Keyword).length + (if ([] : List Keyword).isEmpty then 0 else 1) < 30)) = true)
    (hline : (ap.endLine == pos.line) = true) (hp : (starEach args k.env).any (·.1) = false) (hp' : (backTo pos (starEach args k.env)).any (·.1) = false) :
    WV k (eval (.Call (.Attribute (.Dict ks vs p) "get" ap) args [] pos) k.env) m H Q :=
  W_CallM' PySem.F.plainAttrs_dict PySem.F.slot_dict_get PySem.F.type_dict_get h rfl hfew hline hp hp'
theorem W_AndV {k : Wk} {m : Loc} {H : AHeap} {e1 e2 : Expr} {pos : Pos} {Q : V → Loc → AHeap → Prop} (h : WV k (eval e1 k.env) m H fun v m1 H1 => v = .bool true ∧ WV k (eval e2 k.env) m1 H1 Q) : WV k (eval (.BoolOp .And [e1, e2] pos) k.env) m H Q := fun B s st =>
  BoolOp_and (wpAny_mono (h B s st) (fun v s1 ⟨m1, H1, st1, e, q⟩ => by
    obtain rfl := er_bool e
    exact wpAny_truthy_bool (q B s1 st1)) fun _ _ x => x)
structure L4.LI (H0 : AHeap) (g : Addr) (kd goal : Nat) (i : Nat) (m' : Loc) (H : AHeap) : Prop where
  vg : m' "goal" = some (.int goal)
  ext : Ext H0 H
  val : ∃ w, m' "value" = some w ∧ Leads H g ((sizesOf kd).drop i) w
set_option maxHeartbeats 2000000 in
theorem L4.leads_ok {c : Cx} {A : Around} {f : Addr} {R : List Addr} {seed mm r d : Nat} {v : V} {H : AHeap} (G : Blt c) (gType : Gl c "type" (.type "type")) (gInt : Gl c "int" (.type "int")) (F : DefAt c f L4.fLead) (hA : Room A) (hA' : A.depth ≤ 599 ∧ A.units ≤ 1997)
    (hv : RingV H R seed mm r d v) (hg : ∀ g, R[(3 * r + d) % mm]? = some g → ∃ kvs ep, H g = some (.dict kvs ep) ∧ getK kvs (.inr "is") = some (.int ((3 * r + d) % mm : Nat))) :
    FnV c A f [v, .int (kindOf seed r d : Nat), .int ((3 * r + d) % mm : Nat)] [] H (fun u H' => u = .bool true ∧ Ext H H') NoX := by
  refine FnV.top F hA ["value", "kind", "goal"] rfl (fun fd rvs h1 h2 h3 hl => ?_) (by rfl) fun k hk => ?_
  · obtain ⟨x, y, z, rfl⟩ : ∃ x y z, rvs = [x, y, z] := by match rvs, hl with | [x, y, z], _ => exact ⟨x, y, z, rfl⟩
    cases fd; simp only at h1 h2 h3; subst h1; subst h2; subst h3; rfl
  refine Mine.hideG fun GG back => ?_
  obtain ⟨rfl, sv, hfr, hdep, hun, hhd, hX, hhere⟩ := hk
  refine back ?_
  clear back
  show W k (execs (fnBody L4.fLead) k.env) (setL (setL (setL noLoc "value" v) "kind" (.int (kindOf seed r d : Nat))) "goal" (.int ((3 * r + d) % mm : Nat))) H _
  refine W_hide fun Q0 hQ0 => ?_
  refine Mine.hideG fun GG back => ?_
  obtain ⟨gLen, gDivmod, gIsi, gList, gDict, gStr, gRange, gZip, gKE, gIE, imp, tree⟩ := G
  refine back ?_
  clear back
  have hroom : Roomy k := Roomy.of hfr (by have := hA.depth; lia) imp tree rfl rfl
  have hh : k.A.handled = none := hhd.trans hA.handled
  have hz : sizeLine = _ := sizeLine_eq
  have hu64 : k.A.units + 64 < cLine := Nat.lt_of_le_of_lt (m := 2070) (by lia) (by decide)
  refine W_cons' ?_
  refine W_If (WT_Compare ?_)
  refine W_Name (by walk_at "lk") (W_int (WCmp_eq (WTr_bool ?_)))
  refine ite_dec (fun k4 => ?_) (fun k4 => ?_)
  · have hk : kindOf seed r d = 4 := by lia
    refine Mine.hideG fun GG back => ?_
    obtain ⟨g, hgR, _, _, _, h4, _⟩ := hv
    refine back ?_
    clear back
    have h4 := h4 hk
    refine W_cons' (W_Return' ?_)
    refine W_IfExp (WT_plain ?_)
    refine W_BinOp (W_Name (by walk_at "lk") ?_)
    refine W_int (WBin_mod hroom (by decide) (WTr_int ?_))
    rw [show Int.fmod (((3 * r + d) % mm : Nat) : Int) 2 = (((3 * r + d) % mm % 2 : Nat) : Int) by rw [Int.fmod_eq_emod_of_nonneg _ (by decide)]; push_cast; rfl]
    refine ite_dec (fun h2 => ?_) (fun h2 => ?_)
    · rw [if_pos (by lia)] at h4
      refine Mine.hideG fun GG back => ?_
      obtain ⟨t, rfl⟩ := h4
      refine back ?_
      clear back
      refine W_Compare ?_
      refine W_Name (by walk_at "lk") ?_
      refine W_str fun t' _ => ?_
      refine WCmp_eqS ?_
      intro u hu
      refine contQ_ret (contQ_ret (hQ0 _ _ _ (RQ_ret hu ⟨?_, Ext.refl _⟩)))
      rw [decide_eq_true (by rfl)]
    · rw [if_neg (by lia)] at h4
      subst h4
      refine W_AndV ?_
      refine W_Compare ?_
      refine W_CallT gType (kindS (by rfl)) ?_
      refine WItems_cons (W_Name (by walk_at "lk") (WItems_nil ?_))
      refine WCall_type (Tx := "int") rfl (by simp) ?_
      refine W_NameG gInt (kindS (by rfl)) ?_
      refine WCmp_isTy ⟨by rw [decide_eq_true (by rfl)], ?_⟩
      refine W_Compare ?_
      refine W_Name (by walk_at "lk") (W_int (WCmp_eq ?_))
      intro u hu
      refine contQ_ret (contQ_ret (hQ0 _ _ _ (RQ_ret hu ⟨?_, Ext.refl _⟩)))
      rw [decide_eq_true (by rfl)]
  have hk4 : kindOf seed r d ≠ 4 := by lia
  refine Mine.hideG fun GG back => ?_
  obtain ⟨g, hgR, hL⟩ := hv.leads hk4
  obtain ⟨kvg, epg, hgd, hgi⟩ := hg g hgR
  refine back ?_
  clear back
  generalize hkd : kindOf seed r d = kd at hL ⊢
  generalize (3 * r + d) % mm = goal at hgi ⊢
  refine W_nil ?_
  refine contQ_next ?_
  refine W_cons' ?_
  refine W_For ?h ?hs
  case hs => exact folded_Call
  refine W_DictGet ?_ ?h1 ?h2 ?h3 ?h4
  case h1 => rfl
  case h2 => rfl
  case h3 => rfl
  case h4 => rfl
  refine W_Dict ?_ ?h1 ?h2 ?h3 ?h4
  case h1 => rfl
  case h2 => rfl
  case h3 => simp
  case h4 => simp
  refine WPairs_cons ?_
  refine W_int ?_
  refine W_List ?_
  refine WItems_cons ?_
  refine W_int ?_
  refine WItems_nil ⟨by simp [hz], fun a1 h1 => ?_⟩
  refine WPairs_cons ?_
  refine W_int ?_
  refine W_List ?_
  refine WItems_cons ?_
  refine W_int ?_
  refine WItems_nil ⟨by simp [hz], fun a2 h2 => ?_⟩
  refine WPairs_cons ?_
  refine W_int ?_
  refine W_List ?_
  refine WItems_cons ?_
  refine W_int ?_
  refine WItems_cons ?_
  refine W_int ?_
  refine WItems_nil ⟨by simp [hz], fun a3 h3 => ?_⟩
  refine WPairs_nil ⟨[(.inl 1, .ref a1), (.inl 6, .ref a2), (.inl 8, .ref a3)], ⟨by simp [isKV], rfl, by simp [isKV], rfl, by simp [isKV], rfl, trivial⟩, fun D eD hD => ?_⟩
  rw [show putAll [] [((.inl 1 : Key), V.ref a1), (.inl 6, .ref a2), (.inl 8, .ref a3)] = [(.inl 1, .ref a1), (.inl 6, .ref a2), (.inl 8, .ref a3)] by simp [putAll, putK]]
  refine ⟨onDict upd_same, ?_⟩
  refine WItems_cons (W_Name (by walk_at "lk") ?_)
  refine WItems_cons (W_List (WItems_nil ⟨by simp, fun a4 h4 => ?_⟩))
  refine WItems_nil ?_
  refine WCall_getD (upd_fresh h4 upd_same) (key := .inl (kd : Int)) (by simp [isKV]) ?_
  have hE : Ext H (upd (upd (upd (upd (upd H a1 (.list [.int 3])) a2 (.list [.int 1])) a3 (.list [.int 1, .int 1])) D (.dict [(.inl 1, .ref a1), (.inl 6, .ref a2), (.inl 8, .ref a3)] eD)) a4 (.list [])) :=
    (Ext.upd h1).trans ((Ext.upd h2).trans ((Ext.upd h3).trans ((Ext.upd hD).trans (Ext.upd h4))))
  obtain ⟨La, e1, e2⟩ : ∃ La, (getK [((.inl 1 : Key), V.ref a1), (.inl 6, .ref a2), (.inl 8, .ref a3)] (.inl (kd : Int))).getD (.ref a4) = .ref La ∧ upd (upd (upd (upd (upd H a1 (.list [.int 3])) a2 (.list [.int 1])) a3 (.list [.int 1, .int 1])) D (.dict [(.inl 1, .ref a1), (.inl 6, .ref a2), (.inl 8, .ref a3)] eD)) a4 (.list []) La = some (.list ((sizesOf kd).map fun (n : Nat) => V.int (n : Int))) := by
    have f2 : ∀ x y, upd H a1 (.list [.int 3]) x = some y → upd (upd (upd (upd (upd H a1 (.list [.int 3])) a2 (.list [.int 1])) a3 (.list [.int 1, .int 1])) D (.dict [(.inl 1, .ref a1), (.inl 6, .ref a2), (.inl 8, .ref a3)] eD)) a4 (.list []) x = some y := (Ext.upd h2).trans ((Ext.upd h3).trans ((Ext.upd hD).trans (Ext.upd h4)))
    unfold sizesOf
    by_cases k1 : kd = 1
    · subst k1; exact ⟨a1, by simp [getK], f2 _ _ upd_same⟩
    rw [if_neg k1]
    by_cases k6 : kd = 6
    · subst k6; exact ⟨a2, by simp [getK], upd_fresh h4 (upd_fresh hD (upd_fresh h3 upd_same))⟩
    rw [if_neg k6]
    by_cases k8 : kd = 8
    · subst k8; exact ⟨a3, by simp [getK], upd_fresh h4 (upd_fresh hD upd_same)⟩
    rw [if_neg k8]
    refine ⟨a4, ?_, upd_same⟩
    have g1 : getK [((.inl 1 : Key), V.ref a1), (.inl 6, .ref a2), (.inl 8, .ref a3)] (.inl (kd : Int)) = none := by
      simp only [getK]
      rw [if_neg (fun q => k1 (by injection q with q; lia)), if_neg (fun q => k6 (by injection q with q; lia)), if_neg (fun q => k8 (by injection q with q; lia))]
    rw [g1]; rfl
  rw [e1]
  generalize upd (upd (upd (upd (upd H a1 (.list [.int 3])) a2 (.list [.int 1])) a3 (.list [.int 1, .int 1])) D (.dict [(.inl 1, .ref a1), (.inl 6, .ref a2), (.inl 8, .ref a3)] eD)) a4 (.list []) = H0 at hE e2
  refine ⟨_, _, _, L4.LI H0 g kd goal, WIter_list hh e2, ⟨by walk_at "lk", Ext.refl _, v, by walk_at "lk", hL.ext hE⟩, fun i m' H' q => q.ext _ _ e2, ?_, ?_⟩
  · intro i sv' m' H' hi hR I
    rw [List.length_map] at hi
    obtain ⟨s, hs, rfl⟩ : ∃ s, (sizesOf kd)[i]? = some s ∧ sv' = .int (s : Int) := by
      rw [List.getElem?_map, Option.map_eq_some_iff] at hR
      refine Mine.hideG fun GG back => ?_
      obtain ⟨s, h1, h2⟩ := hR
      refine back ?_
      clear back
      exact ⟨s, h1, h2.symm⟩
    refine Mine.hideG fun GG back => ?_
    obtain ⟨vg, ext, w0, vv, hLd⟩ := I
    refine back ?_
    clear back
    have hdr : (sizesOf kd).drop i = s :: (sizesOf kd).drop (i + 1) := by
      rw [List.drop_eq_getElem_cons hi]
      rw [List.getElem?_eq_getElem hi] at hs
      rw [Option.some.inj hs]
    rw [hdr] at hLd
    refine Mine.hideG fun GG back => ?_
    obtain ⟨l, pre, w, rfl, hl, hps, hs3, hpre, hLw⟩ := hLd
    refine back ?_
    clear back
    refine WAs_Name (stor (by rfl)) ?_
    refine W_hide fun QL hQL => ?_
    have vg1 : setL m' "size" (.int (s : Int)) "goal" = some (.int goal) := by walk_at "lk"
    have vv1 : setL m' "size" (.int (s : Int)) "value" = some (.ref l) := by walk_at "lk"
    have vs1 : setL m' "size" (.int (s : Int)) "size" = some (.int (s : Int)) := setL_same
    generalize setL m' "size" (.int (s : Int)) = m1 at vg1 vv1 vs1 ⊢
    refine W_cons' ?_
    refine W_If ?_
    refine WT_Or ?_
    refine W_allTrue_or ?_
    refine WT_Compare ?_
    refine W_CallT gType (kindS (by rfl)) ?_
    refine WItems_cons ?_
    refine W_Name vv1 ?_
    refine WItems_nil ?_
    refine WCall_type (Tx := "list") (by simp [tyOf, hl]) (by simp) ?_
    refine W_NameG gList (kindS (by rfl)) ?_
    refine WCmp_isNotTy ?_
    rw [decide_eq_false (by simp)]
    refine WTr_bool ?_
    refine iteF ?_
    refine W_allTrue_or ?_
    refine WT_Compare ?_
    refine W_SubSlice ?_
    refine W_Name vv1 ?_
    refine WPart_none ?_
    refine WPart_some ?_
    refine W_UnaryOp ?_
    refine W_int ?_
    refine WUn_neg ⟨_, rfl, l, rfl, .inl ⟨_, hl, by simp [hz]; lia, fun b H5 hE5 hb0 hb => ?_⟩⟩
    rw [sliceV_dropLast', List.dropLast_concat] at hb
    refine W_BinOp ?_
    refine W_List ?_
    refine WItems_cons ?_
    refine W_Is rfl rfl fun e0 q0 he0 => ?_
    refine WItems_nil ⟨by simp [hz], fun l1 hl1 => ?_⟩
    refine W_BinOp ?_
    refine W_Name vs1 ?_
    refine W_int ?_
    refine WBin_sub ?_
    have hn : ((s : Int) - 1).toNat = pre.length := by lia
    refine WBin_mulL upd_same (by lia) (by lia) (by rw [hn]; simp; lia) (by simp) fun l2 hl2 => ?_
    rw [hn]
    have hE6 : Ext H5 (upd (upd (upd H5 e0 (.dict [(.inr "is", .int (-1))] q0)) l1 (.list [.ref e0])) l2 (.list (List.replicate pre.length [V.ref e0]).flatten)) := (Ext.upd he0).trans ((Ext.upd hl1).trans (Ext.upd hl2))
    have he06 : upd (upd (upd H5 e0 (.dict [(.inr "is", .int (-1))] q0)) l1 (.list [.ref e0])) l2 (.list (List.replicate pre.length [V.ref e0]).flatten) e0 = some (.dict [(.inr "is", .int (-1))] q0) := upd_fresh hl2 (upd_fresh hl1 upd_same)
    refine WCmp_neIs (x := "is") (i := -1) (hE6 _ _ hb) upd_same (by simp) (fun j u v hu hv => ?_) hu64 ?_
    · refine Mine.hideG fun GG back => ?_
      obtain ⟨e, p, rfl, he⟩ := hpre j u hu
      refine back ?_
      clear back
      have hv' : v = .ref e0 := by
        have := List.mem_of_getElem? hv
        simp at this
        exact this.2
      subst hv'
      have hne : e ≠ e0 := fun q => by
        rw [q] at he
        have := hE5 _ _ he
        rw [he0] at this; cases this
      exact ⟨e, e0, p, q0, rfl, rfl, hne, hE6 _ _ (hE5 _ _ he), he06⟩
    generalize upd (upd (upd H5 e0 (.dict [(.inr "is", .int (-1))] q0)) l1 (.list [.ref e0])) l2 (.list (List.replicate pre.length [V.ref e0]).flatten) = H6 at hE6
    have hE56 := hE5.trans hE6
    refine WTr_bool ?_
    refine iteF ?_
    refine W_allTrue_nilO ?_
    refine iteF ?_
    refine W_nil ?_
    refine contQ_next ?_
    refine W_cons' ?_
    refine W_Assign ?_ (stor (by rfl)) (by rfl)
    refine W_Subscript ?_
    refine W_Name vv1 ?_
    refine W_UnaryOp ?_
    refine W_int ?_
    refine WUn_neg ?_
    refine WSub_listNeg (v := w) (hE56 _ _ hl) (by lia) (by lia) (by simp; lia) ?_ ?_
    · rw [List.length_append, List.length_singleton, show ((-1 : Int) + ((pre.length + 1 : Nat) : Int)).toNat = pre.length by lia, List.getElem?_append_right (Nat.le_refl _), Nat.sub_self]
      rfl
    refine contQ_next ?_
    refine W_nil ?_
    refine hQL _ _ _ ?_
    refine loopQ_next ?_
    exact ⟨by walk_at "lk", ext.trans hE56, w, setL_same, hLw.ext hE56⟩
  · intro m' H' I
    rw [List.length_map] at I
    refine Mine.hideG fun GG back => ?_
    obtain ⟨vg, ext, w, vv, hLd⟩ := I
    refine back ?_
    clear back
    rw [List.drop_length] at hLd
    have hw : w = .ref g := hLd
    subst hw
    have hgd' := ext _ _ (hE _ _ hgd)
    refine contQ_next (W_cons' (W_Return' ?_))
    refine W_AndV ?_
    refine W_Compare ?_
    refine W_CallT gType (kindS (by rfl)) ?_
    refine WItems_cons (W_Name vv (WItems_nil ?_))
    refine WCall_type (Tx := "dict") (by simp [tyOf, hgd']) (by simp) ?_
    refine W_NameG gDict (kindS (by rfl)) ?_
    refine WCmp_isTy ⟨by rw [decide_eq_true (by rfl)], ?_⟩
    refine W_Compare ?_
    refine W_Subscript (W_Name vv ?_)
    refine W_str fun t _ => ?_
    refine WSub_dict hgd' (key := .inr "is") (by simp [isKV]) hgi ?_
    refine W_Name vg (WCmp_eq ?_)
    intro u hu
    refine contQ_ret (hQ0 _ _ _ (RQ_ret hu ⟨?_, hE.trans ext⟩))
    rw [decide_eq_true (by rfl)]
end
section
noncomputable abbrev L4.fLaw : Stmt := stm L4.stmsC 8
noncomputable abbrev L4.dealB : List Stmt := forBody (stm (fnBody L4.fLaw) 7)
theorem setL_off {m : Loc} {x y : Str} {v : V} (h : y ≠ x) : setL m x v y = m y := by simp [setL, h]
theorem L4.num_ok {k : Wk} {m : Loc} {H : AHeap} {S0 S1 S2 : Stmt} {rest : List Stmt} {xv : Int} {Q : Flow → Loc → AHeap → Prop} [sv : SEnv k (fnScope L4.fLaw) (cellNames (fnScope L4.fLaw).names)]
    (h0 : S0 = stm L4.dealB 0) (h1 : S1 = stm L4.dealB 1) (h2 : S2 = stm L4.dealB 2) (hroom : Roomy k) (gAbs : Gl k.c "abs" (.builtin "abs")) (hx : m "x" = some (.int xv))
    (h : ∀ (n size : Nat) m', n < 3 ^ size → size ≤ 40 → m' "n" = some (.int n) → m' "size" = some (.int size) → (∀ y : Str, y ≠ "n" → y ≠ "size" → m' y = m y) → W k (execs rest k.env) m' H Q) :
    W k (execs (S0 :: S1 :: S2 :: rest) k.env) m H Q := by
  subst h0; subst h1; subst h2
  refine W_cons' ?_
  refine W_Assign ?_ ?s0 ?s1
  case s0 => exact stor rfl
  case s1 => rfl
  refine W_BinOp ?_
  refine W_CallB gAbs (kindS rfl) ?_
  refine WItems_cons ?_
  refine W_Name hx ?_
  refine WItems_nil ?_
  refine WCall_abs ?_
  refine W_BinOp ?_
  refine W_int ?_
  refine W_int ?_
  refine WBin_pow (by decide) (by decide) (by decide) ?_
  refine WBin_mod hroom (by decide) ?_
  refine contQ_next ?_
  have hn0 : Int.fmod (if xv < 0 then -xv else xv) ((3 : Int) ^ (40 : Int).toNat) = ((xv.natAbs % 3 ^ 40 : Nat) : Int) := by
    rw [Int.fmod_eq_emod_of_nonneg _ (by decide)]
    have e1 : (if xv < 0 then -xv else xv) = (xv.natAbs : Int) := by split <;> lia
    rw [e1]; rfl
  rw [hn0]
  have hn : xv.natAbs % 3 ^ 40 < 3 ^ 40 := Nat.mod_lt _ (by decide)
  generalize xv.natAbs % 3 ^ 40 = n at hn ⊢
  refine W_cons' ?_
  refine W_Assign ?_ ?s0 ?s1
  case s0 => exact stor rfl
  case s1 => rfl
  refine W_int ?_
  refine contQ_next ?_
  refine W_cons' ?_
  refine W_While (fun j m' H' => H' = H ∧ ∃ sz : Nat, sz ≤ 40 ∧ j = 40 - sz ∧ m' "n" = some (.int n) ∧ m' "size" = some (.int sz) ∧ ∀ y : Str, y ≠ "n" → y ≠ "size" → m' y = m y) 40 ⟨rfl, 0, by lia, rfl, by walk_at "lk", setL_same, fun y y1 y2 => by rw [setL_off y2, setL_off y1]⟩ ?_
  intro j m1 H1 hI
  obtain ⟨rfl, sz, hsz, hj, vn, vs, hoff⟩ := hI
  refine WT_Compare ?_
  refine W_BinOp ?_
  refine W_int ?_
  refine W_Name vs ?_
  refine WBin_pow (by lia) (by lia) (by decide) ?_
  refine W_Name vn ?_
  refine WCmp_le ?_
  refine WTr_bool ?_
  have e3 : (3 : Int) ^ ((sz : Nat) : Int).toNat = ((3 ^ sz : Nat) : Int) := by rw [Int.toNat_natCast]; push_cast; rfl
  rw [e3]
  refine ite_dec (fun hle => ?_) (fun hle => ?_)
  · have hlt : sz < 40 := by
      rcases Nat.lt_or_ge sz 40 with q | q
      · exact q
      · have : 3 ^ 40 ≤ 3 ^ sz := Nat.pow_le_pow_right (by decide) q
        lia
    refine W_cons' ?_
    refine W_Aug (old := .int sz) vs ?_ ?s0
    case s0 => exact stor rfl
    refine W_int ?_
    refine WInpl_add ?_
    refine contQ_next ?_
    refine W_nil ?_
    refine loopQ_next ?_
    refine ⟨j - 1, by lia, rfl, sz + 1, by lia, by lia, by walk_at "lk", setL_same, fun y y1 y2 => ?_⟩
    rw [setL_off y2]
    exact hoff y y1 y2
  · refine contQ_next ?_
    exact h n sz m1 (by lia) hsz vn vs hoff
end
section
noncomputable def keysOf (t : Nat → Tok) (n size : Nat) : List (Str × Tok) := (digs n size).map fun d => (nm d, t d)
theorem L4.key_ok {k : Wk} {m : Loc} {H : AHeap} {S3 : Stmt} {n size : Nat} {nt : Addr} {t : Nat → Tok} {Q : Flow → Loc → AHeap → Prop} [sv : SEnv k (fnScope L4.fLaw) (cellNames (fnScope L4.fLaw).names)]
    (h3 : S3 = stm L4.dealB 3) (hroom : Roomy k) (hh : k.A.handled = none) (gTup : Gl k.c "tuple" (.type "tuple")) (gRange : Gl k.c "range" (.type "range")) (hs : size ≤ 40) (vn : m "n" = some (.int n)) (vs : m "size" = some (.int size)) (vnm : m "names" = some (.ref nt)) (hnt : H nt = some (.list (nmL t)))
    (h : ∀ kt H', Ext H H' → H' kt = some (.tup ((keysOf t n size).map fun p => .str p.1 p.2)) → Q .next (setL m "key" (.ref kt)) H') :
    W k (exec S3 k.env) m H Q := by
  subst h3
  have hz : sizeLine = _ := sizeLine_eq
  refine W_Assign ?_ ?s0 ?s1
  case s0 => exact stor rfl
  case s1 => rfl
  refine W_CallT gTup (kindS rfl) ?_
  refine WItems_cons ?_
  refine W_ListComp ?s0 ?s1 ?s2 ?_
  case s0 => rfl
  case s1 => rfl
  case s2 => rfl
  refine W_CallT gRange (kindS rfl) ?_
  refine WItems_cons ?_
  refine W_int ?_
  refine WItems_cons ?_
  refine W_BinOp ?_
  refine W_Name vs ?_
  refine W_int ?_
  refine WBin_add ?_
  refine WItems_nil ?_
  refine WCall_range2 fun rg hrg => ?_
  rw [show (size : Int) + 1 = ((size + 1 : Nat) : Int) by lia]
  have hrn : rangeN 1 ((size + 1 : Nat) : Int) 1 = size := by
    have := rangeN_ft (a := 1) (b := size + 1) (by lia)
    rw [show size + 1 - 1 = size by lia] at this
    exact this
  refine ⟨_, _, _, fun i acc H4 => Ext (upd H rg (.range 1 ((size + 1 : Nat) : Int) 1)) H4 ∧ acc = ((digs n size).take i).map (fun (d : Nat) => V.str (nm d) (t d)), WIter_range hh upd_same (small_ft (a := 1) (b := size + 1) (by lia) (by lia)), ⟨Ext.refl _, by simp⟩, fun _ _ _ _ => trivial, ?_, ?_, ?_⟩
  · rw [hrn, hz]; lia
  · intro kc hkc i v acc mc H4 hi hv hI hcap hx
    rw [hrn] at hi
    haveI := hkc.senv (sc := fnScope L4.fLaw) (cn := cellNames (fnScope L4.fLaw).names)
    obtain ⟨hE4, rfl⟩ := hI
    refine W_tests_nil ⟨rfl, ?_⟩
    rw [if_pos rfl]
    refine W_Subscript ?_
    refine W_Name (hcap.get vnm (by rfl)) ?_
    refine W_fig (n := n) (e := size - (i + 1)) (q := 3) (hroom.comp hkc) (by lia) (by decide) ?_
    refine W_Name (hcap.get vn (by rfl)) ⟨rfl, ?_⟩
    refine W_BinOp ?_
    refine W_Name (hcap.get vs (by rfl)) ?_
    rw [hv] at hx
    refine W_Name hx (WBin_sub ⟨by congr 1; lia, ?_⟩)
    refine W_int ⟨rfl, ?_⟩
    have h1 : (digs n size)[i]? = some (n / 3 ^ (size - (i + 1)) % 3) := digs_at hi
    have h3 : n / 3 ^ (size - (i + 1)) % 3 < 3 := Nat.mod_lt _ (by decide)
    generalize n / 3 ^ (size - (i + 1)) % 3 = d at h1 h3 ⊢
    refine WSub_list (v := .str (nm d) (t d)) (hE4 _ _ (upd_fresh hrg hnt)) (by lia) (by lia) (by rw [Int.toNat_natCast]; exact nmL_at h3) ⟨rfl, hE4, ?_⟩
    rw [List.take_add_one, h1]
    simp
  · intro a acc H4 hal hI ha
    rw [hrn] at hI
    obtain ⟨hE4, rfl⟩ := hI
    rw [List.take_of_length_le (by rw [digs_len]; exact Nat.le_refl _)]
    refine WItems_nil ?_
    refine WCall_tupleL upd_same (by rw [List.length_map, digs_len, hz]; lia) fun p hp => ?_
    refine h p _ (((Ext.upd hrg).trans hE4).trans ((Ext.upd ha).trans (Ext.upd hp))) ?_
    rw [upd_same]
    unfold keysOf
    rw [List.map_map]
    rfl
end
section
structure L4.Defs (c : Cx) (C fI fG fA fK fD fR fL : Addr) : Prop where
  blt : Blt c
  b4 : Blt4 c
  nest : NestAt c C fI fG fA L4.cls
  gC : Gl c "NestedDict" (.ref C)
  kind : DefAt c fK L4.fKind
  gKind : Gl c "_law_kind" (.ref fK)
  due : DefAt c fD L4.fDue
  gDue : Gl c "_law_due" (.ref fD)
  rings : DefAt c fR L4.fRings
  gRings : Gl c "_law_rings" (.ref fR)
  lead : DefAt c fL L4.fLead
  gLead : Gl c "_law_leads_on" (.ref fL)
theorem L4.where_ok {k : Wk} {m : Loc} {H : AHeap} {S4 : Stmt} {C fI fG fA fK fD fR fL : Addr} {n size seed mm : Nat} {xv : Int} {Q : Flow → Loc → AHeap → Prop} [sv : SEnv k (fnScope L4.fLaw) (cellNames (fnScope L4.fLaw).names)]
    (h4 : S4 = stm L4.dealB 4) (D : L4.Defs k.c C fI fG fA fK fD fR fL) (hA : Room k.A) (hA' : k.A.depth ≤ 500 ∧ k.A.units ≤ 1500) (hn : n < 3 ^ size) (hs : size ≤ 40) (hm0 : 0 < mm) (hm : mm ≤ 9)
    (vn : m "n" = some (.int n)) (vs : m "size" = some (.int size)) (vm : m "m" = some (.int mm)) (vseed : m "seed" = some (.int seed)) (vx : m "x" = some (.int xv))
    (h : ∀ v H', Ext H H' → DueV H' v (walkP seed mm (decide (0 ≤ xv)) 0 (digs n size)) → Q .next (setL m "where" v) H') : W k (exec S4 k.env) m H Q := by
  subst h4
  obtain ⟨fo, fd, hf, hd⟩ := D.due.obj
  refine W_Assign ?_ ?s0 ?s1
  case s0 => exact stor rfl
  case s1 => rfl
  refine W_CallF D.gDue (kindS rfl) hf hd ?_
  refine WItems_cons ?_
  refine W_Name vn ?_
  refine WItems_cons ?_
  refine W_Name vs ?_
  refine WItems_cons ?_
  refine W_Name vm ?_
  refine WItems_cons ?_
  refine W_Name vseed ?_
  refine WItems_cons ?_
  refine W_Compare ?_
  refine W_Name vx ?_
  refine W_int ?_
  refine WCmp_ge ?_
  refine WItems_nil ?_
  refine FnV.mono (L4.due_ok D.blt D.b4.tuple D.due D.kind D.gKind hA ⟨by lia, by lia⟩ hn hs hm0 hm) ?_ (fun _ _ _ q => q.elim)
  intro v H' hv
  exact h v H' hv.1 hv.2
end
section
structure L4.LV (x nt ra dA gA seed mm : Nat) (m' : Loc) : Prop where
  vnm : m' "names" = some (.ref nt)
  vseed : m' "seed" = some (.int seed)
  vm : m' "m" = some (.int mm)
  vnest : m' "nest" = some (.ref x)
  vring : m' "rings" = some (.ref ra)
  vdue : m' "due" = some (.ref dA)
  vgiv : m' "given" = some (.ref gA)
theorem L4.LV.of {x nt ra dA gA seed mm : Nat} {m m' : Loc} (h : L4.LV x nt ra dA gA seed mm m) (e : ∀ y : Str, y ∈ (["names", "seed", "m", "nest", "rings", "due", "given"] : List Str) → m' y = m y) : L4.LV x nt ra dA gA seed mm m' :=
  ⟨by rw [e _ (by decide)]; exact h.vnm, by rw [e _ (by decide)]; exact h.vseed, by rw [e _ (by decide)]; exact h.vm, by rw [e _ (by decide)]; exact h.vnest, by rw [e _ (by decide)]; exact h.vring, by rw [e _ (by decide)]; exact h.vdue, by rw [e _ (by decide)]; exact h.vgiv⟩
structure L4.LH (C x dx nt ra dA gA : Addr) (t : Nat → Tok) (R : List Addr) (seed mm : Nat) (dues : List (List Nat)) (A : List Nat → Addr) (dr : List Addr) (H : AHeap) : Prop where
  ne : dA ≠ gA
  hdue : H dA = some (.list (dr.map V.ref))
  hgiv : H gA = some (.list (dues.map fun w => V.ref (A w)))
  hx : bare dA gA H x = some (.inst C dx)
  hd : bare dA gA H dx = some (.attrs (.ref (A [0])))
  hnt : bare dA gA H nt = some (.list (nmL t))
  hra : bare dA gA H ra = some (.list (R.map V.ref))
  F : Forest (bare dA gA H) R seed mm dues A
  dl : dr.length = dues.length
  dat : ∀ (i : Nat) a w, dr[i]? = some a → dues[i]? = some w → bare dA gA H a = some (.tup (w.map fun (i : Nat) => V.int (i : Int)))
theorem L4.LH.ext {C x dx nt ra dA gA : Addr} {t : Nat → Tok} {R : List Addr} {seed mm : Nat} {dues : List (List Nat)} {A : List Nat → Addr} {dr : List Addr} {H H' : AHeap} (h : L4.LH C x dx nt ra dA gA t R seed mm dues A dr H) (hE : Ext H H') : L4.LH C x dx nt ra dA gA t R seed mm dues A dr H' :=
  have hB : Ext (bare dA gA H) (bare dA gA H') := bare_ext hE
  ⟨h.ne, hE _ _ h.hdue, hE _ _ h.hgiv, hB _ _ h.hx, hB _ _ h.hd, hB _ _ h.hnt, hB _ _ h.hra, h.F.ext hB, h.dl, fun i a w h1 h2 => hB _ _ (h.dat i a w h1 h2)⟩
noncomputable def KeepL (dA gA : Addr) (H H' : AHeap) : Prop := ∀ b y, b ≠ dA → b ≠ gA → H b = some y → (∀ kvs ep, y ≠ .dict kvs ep) → H' b = some y
noncomputable def L4.GivenQ (H : AHeap) (R : List Addr) (seed mm : Nat) (dues : List (List Nat)) (A : List Nat → Addr) (wo : Option (List Nat)) (a : Addr) (H' : AHeap) : Prop :=
  ∃ w A', wo = some w ∧ Forest H' R seed mm (dues ++ [w]) A' ∧ KeepN H H' ∧ (∀ q, IsNode mm dues q → A' q = A q) ∧ a = A' w
noncomputable def L4.GivenX (H : AHeap) (wo : Option (List Nat)) (cls : String) (xs : Option (List V)) (H' : AHeap) : Prop := cls = "KeyError" ∧ (∃ t, xs = some [.str nestMsg t]) ∧ H' = H ∧ wo = none
theorem L4.gw {H : AHeap} {R : List Addr} {seed mm n size : Nat} {t : Nat → Tok} {dues : List (List Nat)} {A : List Nat → Addr} (F : Forest H R seed mm dues A) (hm : 0 < mm) (acc : Bool) :
    Gw acc (L4.GivenQ H R seed mm dues A (walkP seed mm acc 0 (digs n size))) (L4.GivenX H (walkP seed mm acc 0 (digs n size))) ((keysOf t n size).map (·.1)) (A [0]) H := by
  have e : (keysOf t n size).map (·.1) = (digs n size).map nm := by
    unfold keysOf
    rw [List.map_map]; rfl
  rw [e]
  refine F.walk hm (digs n size) 0 hm (fun d hd => digs_lt hd) ?_
  cases hw : walkP seed mm acc 0 (digs n size) with
  | none => exact fun tk => ⟨rfl, ⟨tk, rfl⟩, rfl, rfl⟩
  | some w => exact fun H' A' F' hk hA' => ⟨w, A', rfl, F', hk, hA', rfl⟩
end
section
theorem Forest.isNode {H : AHeap} {R : List Addr} {seed m : Nat} {dues : List (List Nat)} {A : List Nat → Addr} (F : Forest H R seed m dues A) {w : List Nat} (hw : w ∈ dues) : IsNode m dues w := by
  obtain ⟨r, t, e, hr, _, _⟩ := F.good w hw
  cases t with
  | nil => exact .inl ⟨r, hr, e⟩
  | cons d t => exact .inr ⟨by rw [e]; simp, w, hw, List.prefix_refl _⟩
theorem L4.LH.more {C x dx nt ra dA gA : Addr} {t : Nat → Tok} {R : List Addr} {seed mm : Nat} {dues : List (List Nat)} {A A' : List Nat → Addr} {dr : List Addr} {H H' : AHeap} {w : List Nat} {wa : Addr} (hm : 0 < mm) (X : L4.LH C x dx nt ra dA gA t R seed mm dues A dr H)
    (h1 : H' dA = some (.list (dr.map V.ref))) (h2 : H' gA = some (.list (dues.map fun w => V.ref (A w)))) (F : Forest (bare dA gA H') R seed mm (dues ++ [w]) A') (hk : KeepN (bare dA gA H) (bare dA gA H')) (hA : ∀ q, IsNode mm dues q → A' q = A q) (hw : H wa = some (.tup (w.map fun (i : Nat) => V.int (i : Int)))) :
    L4.LH C x dx nt ra dA gA t R seed mm (dues ++ [w]) A' (dr ++ [wa]) (upd (upd H' dA (.list (dr.map V.ref ++ [.ref wa]))) gA (.list (dues.map (fun w => V.ref (A w)) ++ [.ref (A' w)]))) := by
  have hB : bare dA gA (upd (upd H' dA (.list (dr.map V.ref ++ [.ref wa]))) gA (.list (dues.map (fun w => V.ref (A w)) ++ [.ref (A' w)]))) = bare dA gA H' := by rw [bare_upd2, bare_upd1]
  have hwb : bare dA gA H wa = some (.tup (w.map fun (i : Nat) => V.int (i : Int))) := by
    refine bare_at.mpr ⟨fun e => ?_, fun e => ?_, hw⟩
    · rw [e, X.hdue] at hw; cases hw
    · rw [e, X.hgiv] at hw; cases hw
  refine ⟨X.ne, upd_ne X.ne (by rw [upd_same, List.map_append]; rfl), ?_, ?_, ?_, ?_, ?_, ?_, ?_, fun i a v g1 g2 => ?_⟩
  · rw [upd_same, List.map_append]
    congr 3
    refine List.map_congr_left fun v hv => ?_
    rw [hA v (X.F.isNode hv)]
  · rw [hB]; exact hk _ _ X.hx (by simp)
  · rw [hB, hA [0] (.inl ⟨0, hm, rfl⟩)]; exact hk _ _ X.hd (by simp)
  · rw [hB]; exact hk _ _ X.hnt (by simp)
  · rw [hB]; exact hk _ _ X.hra (by simp)
  · rw [hB]; exact F
  · simp [X.dl]
  · rw [hB]
    rw [List.getElem?_append] at g1 g2
    by_cases hi : i < dues.length
    · rw [if_pos (by rw [X.dl]; exact hi)] at g1
      rw [if_pos hi] at g2
      exact hk _ _ (X.dat i a v g1 g2) (by simp)
    · rw [if_neg (by rw [X.dl]; exact hi)] at g1
      rw [if_neg hi] at g2
      have e1 := List.mem_singleton.mp (List.mem_of_getElem? g1)
      have e2 := List.mem_singleton.mp (List.mem_of_getElem? g2)
      rw [e1, e2]
      exact hk _ _ hwb (by simp)
theorem L4.try_ok {k : Wk} {m : Loc} {H : AHeap} {S5 : Stmt} {C fI fG fA fK fD fR fL x dx nt ra dA gA kt : Addr} {t : Nat → Tok} {R : List Addr} {seed mm n size : Nat} {dues : List (List Nat)} {A : List Nat → Addr} {dr : List Addr} {xv : Int} {wv : V} {Q : Flow → Loc → AHeap → Prop} [sv : SEnv k (fnScope L4.fLaw) (cellNames (fnScope L4.fLaw).names)]
    (h5 : S5 = stm L4.dealB 5) (D : L4.Defs k.c C fI fG fA fK fD fR fL) (hA : Room k.A) (hA' : k.A.depth ≤ 500 ∧ k.A.units ≤ 1500) (hfr : k.env.frame = some k.env.locals) (hm0 : 0 < mm)
    (V0 : L4.LV x nt ra dA gA seed mm m) (X : L4.LH C x dx nt ra dA gA t R seed mm dues A dr H) (hlen : dues.length ≤ 100) (hs40 : size ≤ 40) (vx : m "x" = some (.int xv)) (vk : m "key" = some (.ref kt)) (hkt : H kt = some (.tup ((keysOf t n size).map fun p => .str p.1 p.2)))
    (vw : m "where" = some wv) (hw : DueV H wv (walkP seed mm (decide (0 ≤ xv)) 0 (digs n size)))
    (h : ∀ m' H' dues' A' dr', (∀ y : Str, y ≠ "told" → y ≠ "error" → m' y = m y) → L4.LH C x dx nt ra dA gA t R seed mm dues' A' dr' H' → dues'.length ≤ dues.length + 1 → (∀ w ∈ dues', w ∈ dues ∨ w.length ≤ 41) → KeepL dA gA H H' → Q .next m' H') : W k (exec S5 k.env) m H Q := by
  subst h5
  have hh : k.A.handled = none := hA.handled
  have hz : sizeLine = _ := sizeLine_eq
  have hun2 : k.A.units + 64 < cLine := Nat.lt_of_le_of_lt (m := 2070) (by lia) (by decide)
  obtain ⟨fdG, FG1, FG2⟩ := id D.nest.get
  have G := D.blt
  refine W_Try (fun cls xs m1 H1 => cls = "KeyError" ∧ (∃ tk, xs = some [.str nestMsg tk]) ∧ m1 = m ∧ H1 = H ∧ walkP seed mm (decide (0 ≤ xv)) 0 (digs n size) = none) hfr (fun k' hk' => ?_) fun e cls xs m1 H1 hxc => ?_
  · haveI := hk'.senv (sc := fnScope L4.fLaw) (cn := cellNames (fnScope L4.fLaw).names)
    have N' : NestAt k'.c C fI fG fA L4.cls := by rw [hk'.c]; exact D.nest
    have G' : Blt k'.c := by rw [hk'.c]; exact D.blt
    have FG' : FnAt k'.c fG fdG (fnBody (stm (fnBody L4.cls) 1)) := by rw [hk'.c]; exact FG1
    have hAk : Room k'.A := by rw [hk'.A]; exact hA
    refine W_cons' ?_
    refine W_Assign ?_ ?s0 ?s1
    case s0 => exact stor rfl
    case s1 => rfl
    refine WV_cut (fun v m1 H1 => m1 = m ∧ ∃ a, v = .ref a ∧ H1 dA = some (.list (dr.map V.ref)) ∧ H1 gA = some (.list (dues.map fun w => V.ref (A w))) ∧ L4.GivenQ (bare dA gA H) R seed mm dues A (walkP seed mm (decide (0 ≤ xv)) 0 (digs n size)) a (bare dA gA H1)) ?_ ?_
    · have hG := Gw.aside2 X.ne X.hdue X.hgiv (L4.gw (t := t) (n := n) (size := size) X.F hm0 (decide (0 ≤ xv)))
      have hXk : ∀ cls xs H', (H' dA = some (.list (dr.map V.ref)) ∧ H' gA = some (.list (dues.map fun w => V.ref (A w))) ∧ L4.GivenX (bare dA gA H) (walkP seed mm (decide (0 ≤ xv)) 0 (digs n size)) cls xs (bare dA gA H')) → k'.X cls xs m H' := fun cls xs H' q => by
        rw [hk'.X]
        obtain ⟨q1, q2, q3, q4, q5, q6⟩ := q
        refine ⟨q3, q4, rfl, ?_, q6⟩
        rw [← bare_back X.ne q1 q2, ← bare_back X.ne X.hdue X.hgiv, q5]
      refine W_IfExp ?_
      refine WT_Compare ?_
      refine W_Name vx ?_
      refine W_int ?_
      refine WCmp_ge ?_
      refine WTr_bool ?_
      cases hd : decide ((0 : Int) ≤ xv) with
      | true =>
        rw [hd] at hG hXk
        refine iteT ?_
        refine W_CallMeth N'.mG FG' ?_
        refine W_Name V0.vnest ?_
        refine ⟨x, dx, _, rfl, bare_of X.hx, bare_of X.hd, ?_⟩
        refine WItems_cons ?_
        refine W_Name vk ?_
        refine WItems_nil ?_
        refine FnV.mono (L4.nest_call G' N' hAk (bare_of X.hx) (bare_of X.hd) hkt hG) ?_ (fun a b H' q => hXk a b H' q)
        intro v H' hv
        obtain ⟨a, rfl, q1, q2, q3⟩ := hv
        exact ⟨rfl, a, rfl, q1, q2, q3⟩
      | false =>
        rw [hd] at hG hXk
        refine iteF ?_
        refine W_CallMethKw N'.mG FG' ?_
        refine W_Name V0.vnest ?_
        refine ⟨x, dx, _, rfl, bare_of X.hx, bare_of X.hd, ?_⟩
        refine WItems_cons ?_
        refine W_Name vk ?_
        refine WItems_nil ?_
        refine W_bool ?_
        refine FnV.mono (L4.nest_callF G' N' hAk (bare_of X.hx) (bare_of X.hd) hkt hG) ?_ (fun a b H' q => hXk a b H' q)
        intro v H' hv
        obtain ⟨a, rfl, q1, q2, q3⟩ := hv
        exact ⟨rfl, a, rfl, q1, q2, q3⟩
    · intro v m1 H1 hv
      obtain ⟨rfl, a, rfl, q1, q2, w, A', hwo, F', hkeep, hAA, rfl⟩ := hv
      rw [hwo] at hw
      obtain ⟨wa, rfl, hwa⟩ := hw
      have hwl : ∀ v ∈ dues ++ [w], v ∈ dues ∨ v.length ≤ 41 := fun v hv => by
        rcases List.mem_append.mp hv with hv | hv
        · exact .inl hv
        · have := walkP_len hwo
          rw [digs_len] at this
          rw [List.mem_singleton.mp hv]
          exact .inr (by lia)
      refine contQ_next ?_
      refine W_nil ?_
      show W k (execs _ k.env) _ _ Q
      obtain ⟨kvsw, epw, _, hnw⟩ := F'.node w (F'.isNode (by simp))
      have hnw := bare_of hnw
      refine W_cons' ?_
      refine W_If ?_
      refine WT_Or ?_
      refine W_allTrue_or ?_
      refine WT_Compare ?_
      refine W_Name (by walk_at "lk") ?_
      refine W_none ?_
      refine WCmp_isNone (by simp) ?_
      refine WTr_bool ?_
      rw [decide_eq_false (by simp)]
      refine iteF ?_
      refine W_allTrue_or ?_
      refine WT_Compare ?_
      refine W_CallT D.b4.type (kindS rfl) ?_
      refine WItems_cons ?_
      refine W_Name setL_same ?_
      refine WItems_nil ?_
      refine WCall_type (Tx := "dict") (by simp [tyOf, hnw]) (by simp) ?_
      refine W_NameG G.dict (kindS rfl) ?_
      refine WCmp_isNotTy ?_
      rw [decide_eq_false (by simp)]
      refine WTr_bool ?_
      refine iteF ?_
      refine W_allTrue_nilO ?_
      refine iteF ?_
      refine W_nil ?_
      refine contQ_next ?_
      refine W_cons' ?_
      refine W_ExprStmt ?_
      refine W_CallM' PySem.F.plainAttrs_list PySem.F.slot_list_append PySem.F.type_list_append ?_
      have vd := V0.vdue
      have vg := V0.vgiv
      refine W_Name (by walk_at "lk") ?_
      refine ⟨onList q1, ?_⟩
      refine WItems_cons ?_
      refine W_Name (by walk_at "lk") ?_
      refine WItems_nil ?_
      refine WCall_append q1 (by rw [List.length_map, X.dl, hz]; lia) ?_
      refine contQ_next ?_
      refine W_cons' ?_
      refine W_ExprStmt ?_
      refine W_CallM' PySem.F.plainAttrs_list PySem.F.slot_list_append PySem.F.type_list_append ?_
      have q2' : upd H1 dA (.list (dr.map V.ref ++ [.ref wa])) gA = some (.list (dues.map fun w => V.ref (A w))) := upd_ne (Ne.symm X.ne) q2
      refine W_Name (by walk_at "lk") ?_
      refine ⟨onList q2', ?_⟩
      refine WItems_cons ?_
      refine W_Name setL_same ?_
      refine WItems_nil ?_
      refine WCall_append q2' (by rw [List.length_map, hz]; lia) ?_
      refine contQ_next ?_
      refine W_nil ?_
      refine h _ _ _ _ _ (fun y y1 y2 => setL_off y1) (X.more hm0 q1 q2 F' hkeep hAA hwa) (by simp) hwl fun b y b1 b2 hb hn => ?_
      have h1 := hkeep b y (bare_at.mpr ⟨b1, b2, hb⟩) hn
      exact upd_ne b2 (upd_ne b1 (bare_of h1))
  · obtain ⟨rfl, ⟨tk, rfl⟩, rfl, rfl, hwo⟩ := hxc
    rw [hwo] at hw
    have hw : wv = .none := hw
    subst hw
    refine WH_hitAs excClass_KeyError G.keyError (kindS rfl) (kindS rfl) sub_key_key (by decide) (by decide) fun kh te hkh he hte hne => ?_
    haveI := hkh.senv (sc := fnScope L4.fLaw) (cn := cellNames (fnScope L4.fLaw).names)
    have hkhA : kh.A.units = k.A.units := by rw [hkh.A]; rfl
    have hE : Ext H1 (upd (upd H1 te (.tup [.str nestMsg tk])) e (.exc "KeyError" (some te))) := (Ext.upd hte).trans (Ext.upd (by rw [show upd H1 te (AObj.tup [.str nestMsg tk]) e = H1 e by simp [upd, Ne.symm hne]]; exact he))
    have hte' : upd (upd H1 te (.tup [.str nestMsg tk])) e (.exc "KeyError" (some te)) te = some (.tup [.str nestMsg tk]) := upd_ne hne upd_same
    refine W_cons' ?_
    refine W_If ?_
    refine WT_Or ?_
    refine W_allTrue_or ?_
    refine WT_Compare ?_
    refine W_Name (by walk_at "lk") ?_
    refine W_none ?_
    refine WCmp_isNotNone (by simp) ?_
    refine WTr_bool ?_
    rw [decide_eq_false (by simp)]
    refine iteF ?_
    refine W_allTrue_or ?_
    refine WT_Compare ?_
    refine W_getArgs excAttr_KeyError setL_same upd_same ?_
    refine W_Tuple ?_
    refine WItems_cons ?_
    refine W_str fun tk2 _ => ?_
    refine WItems_nil ⟨by simp [hz], fun t2 ht2 => ?_⟩
    refine WCmp_neD (da := .tuple [.str nestMsg]) (db := .tuple [.str nestMsg]) (r := false) ⟨te, _, rfl, upd_fresh ht2 hte', _, _, rfl, ⟨tk, rfl⟩, rfl⟩ ⟨t2, _, rfl, upd_same, _, _, rfl, ⟨tk2, rfl⟩, rfl⟩ (by decide +kernel) (by decide +kernel) (by decide) (by rw [hkhA]; exact hun2) (by simp) ?_
    refine WTr_bool ?_
    refine iteF ?_
    refine W_allTrue_nilO ?_
    refine iteF ?_
    refine W_nil ?_
    refine contQ_next ?_
    refine W_nil ?_
    refine h _ _ dues A dr (fun y y1 y2 => ?_) (X.ext (hE.trans (Ext.upd ht2))) (by lia) (fun w hw => .inl hw) fun b y b1 b2 hb hn => (hE.trans (Ext.upd ht2)) b y hb
    unfold clr
    rw [if_neg y2, setL_off y2]
end
section
theorem L4.deal_ok {k : Wk} {m : Loc} {H : AHeap} {S7 : Stmt} {C fI fG fA fK fD fR fL x dx nt ra dA gA sA : Addr} {t : Nat → Tok} {R : List Addr} {seed mm : Nat} {A : List Nat → Addr} {ns : List Int} {Q : Flow → Loc → AHeap → Prop} [sv : SEnv k (fnScope L4.fLaw) (cellNames (fnScope L4.fLaw).names)]
    (h7 : S7 = stm (fnBody L4.fLaw) 7) (D : L4.Defs k.c C fI fG fA fK fD fR fL) (hA : Room k.A) (hA' : k.A.depth ≤ 500 ∧ k.A.units ≤ 1500) (hroom : Roomy k) (hfr : k.env.frame = some k.env.locals) (hm0 : 0 < mm) (hm : mm ≤ 9)
    (V0 : L4.LV x nt ra dA gA seed mm m) (X : L4.LH C x dx nt ra dA gA t R seed mm [] A [] H) (hs : m "script" = some (.ref sA)) (hB : BaseL k.c sA (ns.map V.int)) (hn : ns.length ≤ 63)
    (h : ∀ m' H' dues A' dr, L4.LV x nt ra dA gA seed mm m' → L4.LH C x dx nt ra dA gA t R seed mm dues A' dr H' → dues.length ≤ 64 → (∀ w ∈ dues, w.length ≤ 41) → Q .next m' H') : W k (exec S7 k.env) m H Q := by
  subst h7
  have hh : k.A.handled = none := hA.handled
  have hz : sizeLine = _ := sizeLine_eq
  refine W_For ?h ?hs
  case hs => intro y; rfl
  refine W_BinOp ?_
  refine W_Name hs ?_
  refine W_List ?_
  refine WItems_cons ?_
  refine W_int ?_
  refine WItems_nil ⟨by simp [hz], fun l5 hl5 => ?_⟩
  refine WBin_addBL hB upd_same (by simp [hz]; lia) fun p hp => ?_
  have hE := (Ext.upd (x := AObj.list [V.int 5]) hl5).trans (Ext.upd (x := AObj.list (ns.map V.int ++ [V.int 5])) hp)
  have hpH : upd H l5 (.list [.int 5]) p = none := hp
  have hpd : p ≠ dA := fun e => by rw [e, upd_fresh hl5 X.hdue] at hpH; cases hpH
  have hpg : p ≠ gA := fun e => by rw [e, upd_fresh hl5 X.hgiv] at hpH; cases hpH
  refine ⟨_, _, _, fun i m' H' => L4.LV x nt ra dA gA seed mm m' ∧ H' p = some (.list (ns.map V.int ++ [V.int 5])) ∧ ∃ dues A' dr, L4.LH C x dx nt ra dA gA t R seed mm dues A' dr H' ∧ dues.length ≤ i ∧ ∀ w ∈ dues, w.length ≤ 41, WIter_list hh upd_same, ⟨V0, upd_same, [], A, [], X.ext hE, Nat.le_refl _, fun w hw => (by cases hw)⟩, fun i m' H' q => q.2.1, ?_, ?_⟩
  · intro i v m' H' hi hR hI
    obtain ⟨V, hpl, dues, A', dr, XI, hlen, hw41⟩ := hI
    rw [List.length_append, List.length_map, List.length_singleton] at hi
    obtain ⟨xv, rfl⟩ : ∃ xv : Int, v = .int xv := by
      have hm := List.mem_of_getElem? hR
      rcases List.mem_append.mp hm with hm | hm
      · obtain ⟨z, _, e⟩ := List.mem_map.mp hm
        exact ⟨z, e.symm⟩
      · exact ⟨5, List.mem_singleton.mp hm⟩
    refine WAs_Name ?s0 ?_
    case s0 => exact stor rfl
    refine W_hide fun QL hQL => ?_
    have vx : setL m' "x" (.int xv) "x" = some (.int xv) := setL_same
    have V1 : L4.LV x nt ra dA gA seed mm (setL m' "x" (.int xv)) := V.of fun y hy => setL_off (fun e => by subst e; revert hy; decide)
    generalize setL m' "x" (.int xv) = m1 at vx V1 ⊢
    refine L4.num_ok (xv := xv) ?e0 ?e1 ?e2 hroom D.b4.abs vx ?_
    case e0 => rfl
    case e1 => rfl
    case e2 => rfl
    intro n size m2 hns hs40 vn vs hoff
    have V2 : L4.LV x nt ra dA gA seed mm m2 := V1.of fun y hy => hoff y (fun e => by subst e; revert hy; decide) (fun e => by subst e; revert hy; decide)
    have vx2 : m2 "x" = some (.int xv) := by rw [hoff _ (by decide) (by decide)]; exact vx
    clear V1 vx hoff
    refine W_cons' ?_
    refine L4.key_ok (n := n) (size := size) (t := t) ?e3 hroom hh D.b4.tuple D.blt.range hs40 vn vs V2.vnm (bare_of XI.hnt) ?_
    case e3 => rfl
    intro kt H1 hE1 hkt
    refine contQ_next ?_
    have V3 : L4.LV x nt ra dA gA seed mm (setL m2 "key" (.ref kt)) := V2.of fun y hy => setL_off (fun e => by subst e; revert hy; decide)
    have vx3 : setL m2 "key" (.ref kt) "x" = some (.int xv) := by walk_at "lk"
    have vn3 : setL m2 "key" (.ref kt) "n" = some (.int n) := by walk_at "lk"
    have vs3 : setL m2 "key" (.ref kt) "size" = some (.int size) := by walk_at "lk"
    have vk3 : setL m2 "key" (.ref kt) "key" = some (.ref kt) := setL_same
    generalize setL m2 "key" (.ref kt) = m3 at V3 vx3 vn3 vs3 vk3 ⊢
    have X1 := XI.ext hE1
    refine W_cons' ?_
    refine L4.where_ok (n := n) (size := size) ?e4 D hA hA' hns hs40 hm0 hm vn3 vs3 V3.vm V3.vseed vx3 ?_
    case e4 => rfl
    intro v H2 hE2 hv
    refine contQ_next ?_
    have V4 : L4.LV x nt ra dA gA seed mm (setL m3 "where" v) := V3.of fun y hy => setL_off (fun e => by subst e; revert hy; decide)
    have vx4 : setL m3 "where" v "x" = some (.int xv) := by walk_at "lk"
    have vk4 : setL m3 "where" v "key" = some (.ref kt) := by walk_at "lk"
    have vw4 : setL m3 "where" v "where" = some v := setL_same
    generalize setL m3 "where" v = m4 at V4 vx4 vk4 vw4 ⊢
    refine W_cons' ?_
    refine L4.try_ok (n := n) (size := size) (t := t) ?e5 D hA hA' hfr hm0 V4 (X1.ext hE2) (by lia) hs40 vx4 vk4 (hE2 _ _ hkt) vw4 hv ?_
    case e5 => rfl
    intro m5 H5 dues' A5 dr5 hoff5 X5 hlen5 hw5 hK
    refine contQ_next ?_
    refine W_nil ?_
    refine hQL _ _ _ ?_
    refine loopQ_next ?_
    exact ⟨V4.of fun y hy => hoff5 y (fun e => by subst e; revert hy; decide) (fun e => by subst e; revert hy; decide), hK p _ hpd hpg (hE2 _ _ (hE1 _ _ hpl)) (by simp), dues', A5, dr5, X5, by lia, fun w hw => (hw5 w hw).elim (hw41 w) id⟩
  · intro m' H' hI
    obtain ⟨V, hpl, dues, A', dr, XI, hlen, hw41⟩ := hI
    rw [List.length_append, List.length_map, List.length_singleton] at hlen
    exact h m' H' dues A' dr V XI (by lia) hw41
end
section
theorem L4.marks_ok {k : Wk} {m : Loc} {H : AHeap} {S8 : Stmt} {C fI fG fA fK fD fR fL x dx nt ra dA gA : Addr} {t : Nat → Tok} {R : List Addr} {seed mm : Nat} {dues : List (List Nat)} {A : List Nat → Addr} {dr : List Addr} {Q : Flow → Loc → AHeap → Prop} [sv : SEnv k (fnScope L4.fLaw) (cellNames (fnScope L4.fLaw).names)]
    (h8 : S8 = stm (fnBody L4.fLaw) 8) (D : L4.Defs k.c C fI fG fA fK fD fR fL) (hA : Room k.A)
    (V0 : L4.LV x nt ra dA gA seed mm m) (X : L4.LH C x dx nt ra dA gA t R seed mm dues A dr H) (hlen : dues.length ≤ 64)
    (h : ∀ m' H' L, L4.LV x nt ra dA gA seed mm m' → MH H R seed mm dues A dues.length L H' → Q .next m' H') : W k (exec S8 k.env) m H Q := by
  subst h8
  have hh : k.A.handled = none := hA.handled
  have hz : sizeLine = _ := sizeLine_eq
  have F : Forest H R seed mm dues A := X.F.ext fun b y e => bare_of e
  refine W_For ?h ?hs
  case hs => intro y; rfl
  refine W_CallT D.blt.range (kindS rfl) ?_
  refine WItems_cons ?_
  refine W_CallB D.blt.len (kindS rfl) ?_
  refine WItems_cons ?_
  refine W_Name V0.vgiv ?_
  refine WItems_nil ?_
  refine WCall_lenL X.hgiv (by rw [List.length_map]; lia) ?_
  rw [List.length_map]
  refine WItems_nil ?_
  refine WCall_range1 fun rg hrg => ?_
  refine ⟨_, _, _, fun j m' H' => L4.LV x nt ra dA gA seed mm m' ∧ ∃ L, MH H R seed mm dues A j L H', WIter_range hh upd_same (small_ft (a := 0) (by lia) (by lia)), ⟨V0, fun _ => 0, (MH.start F).ext (Ext.upd hrg)⟩, fun _ _ _ _ => trivial, ?_, ?_⟩
  · intro j v m' H' hj hv hI
    rw [rangeN_up] at hj
    have hv' : v = .int (j : Int) := by rw [hv]; congr 1; lia
    subst hv'
    obtain ⟨VV, L, M⟩ := hI
    refine WAs_Name ?s0 ?_
    case s0 => exact stor rfl
    refine W_hide fun QL hQL => ?_
    have V1 : L4.LV x nt ra dA gA seed mm (setL m' "k" (.int (j : Int))) := VV.of fun y hy => setL_off (fun e => by subst e; revert hy; decide)
    have vk : setL m' "k" (.int (j : Int)) "k" = some (.int (j : Int)) := setL_same
    generalize setL m' "k" (.int (j : Int)) = m1 at V1 vk ⊢
    obtain ⟨w, hw⟩ : ∃ w, dues[j]? = some w := ⟨_, List.getElem?_eq_getElem hj⟩
    have hwn := F.isNode (List.mem_of_getElem? hw)
    obtain ⟨kvs, ep, hh1, hn⟩ := M.node w hwn
    have hgv : H' gA = some (.list (dues.map fun w => V.ref (A w))) := M.keep _ _ X.hgiv (by simp)
    refine W_cons' ?_
    refine W_ExprStmt ?_
    refine W_CallM' PySem.F.plainAttrs_list PySem.F.slot_list_append PySem.F.type_list_append ?_
    refine W_CallM' PySem.F.plainAttrs_dict PySem.F.slot_dict_setdefault PySem.F.type_dict_setdefault ?_
    refine W_Subscript ?_
    refine W_Name V1.vgiv ?_
    refine W_Name vk ?_
    refine WSub_list (v := .ref (A w)) hgv (by lia) (by lia) (by rw [List.getElem?_map, Int.toNat_natCast, hw]; rfl) ?_
    refine ⟨onDict hn, ?_⟩
    refine WItems_cons ?_
    refine W_str fun tk _ => ?_
    refine WItems_cons ?_
    refine W_List ?_
    refine WItems_nil ⟨by simp, fun l hl => ?_⟩
    refine WItems_nil ?_
    have hg := M.getAt hh1
    have hsz : (kvs ++ kids A w (made dues w) ++ atK L w (marksTo dues j w)).length ≤ sizeLine := by
      have a1 := hh1.small
      have a2 := nodup_lt3 (made_nodup dues w) (fun e he => (made_lt F hwn.ne_nil he).1)
      have a3 : (atK L w (marksTo dues j w)).length ≤ 1 := by unfold atK; split <;> simp
      rw [List.length_append, List.length_append, hz]
      simp only [kids, List.length_map]
      lia
    refine WCall_setdefault (upd_fresh hl hn) (key := .inr "at") (by simp [isKV]) hsz (fun u hu => ?_) (fun hnone => ?_)
    · rw [hg] at hu
      by_cases q : marksTo dues j w = []
      · rw [if_pos q] at hu; cases hu
      rw [if_neg q] at hu
      cases hu
      have hLw := M.list w hwn q
      refine ⟨onList (upd_fresh hl hLw), ?_⟩
      refine WItems_cons ?_
      refine W_Name vk ?_
      refine WItems_nil ?_
      refine WCall_append (upd_fresh hl hLw) ?_ ?_
      · rw [List.length_map, hz]
        have := List.length_filter_le (fun k => decide (dues[k]? = some w)) (List.range j)
        rw [List.length_range] at this
        unfold marksTo
        lia
      refine contQ_next ?_
      refine W_nil ?_
      refine hQL _ _ _ ?_
      refine loopQ_next ?_
      exact ⟨V1, L, M.again F hw hwn q hl⟩
    · rw [hg] at hnone
      have q : marksTo dues j w = [] := by
        by_cases q : marksTo dues j w = []
        · exact q
        · rw [if_neg q] at hnone; cases hnone
      have hlN : l ≠ A w := fun e => by rw [e, hn] at hl; cases hl
      have h2 : upd (upd H' l (.list [])) (A w) (.dict (kvs ++ kids A w (made dues w) ++ atK L w (marksTo dues j w) ++ [(.inr "at", .ref l)]) (ep + 1)) l = some (.list []) := upd_ne hlN upd_same
      refine ⟨onList h2, ?_⟩
      refine WItems_cons ?_
      refine W_Name vk ?_
      refine WItems_nil ?_
      refine WCall_append h2 (by simp) ?_
      refine contQ_next ?_
      refine W_nil ?_
      refine hQL _ _ _ ?_
      refine loopQ_next ?_
      exact ⟨V1, _, M.first F hw hwn q hl hh1 hn⟩
  · intro m' H' hI
    rw [rangeN_up] at hI
    obtain ⟨VV, L, M⟩ := hI
    exact h m' H' L VV M
end
section
noncomputable def EntryAt (H : AHeap) (A : List Nat → Addr) (p : List Nat) (v : V) : Prop := ∃ e pt, v = .ref e ∧ H e = some (.tup [.ref pt, .ref (A p)]) ∧ H pt = some (.tup (p.map fun (i : Nat) => V.int (i : Int)))
theorem EntryAt.ext {H H' : AHeap} {A : List Nat → Addr} {p : List Nat} {v : V} (h : EntryAt H A p v) (hE : Ext H H') : EntryAt H' A p v := by
  obtain ⟨e, pt, h1, h2, h3⟩ := h
  exact ⟨e, pt, h1, hE _ _ h2, hE _ _ h3⟩
structure WorkAt (H : AHeap) (A : List Nat → Addr) (es : List (List Nat)) (vs : List V) : Prop where
  len : es.length = vs.length
  at_ : ∀ (i : Nat) p v, es[i]? = some p → vs[i]? = some v → EntryAt H A p v
theorem WorkAt.ext {H H' : AHeap} {A : List Nat → Addr} {es : List (List Nat)} {vs : List V} (h : WorkAt H A es vs) (hE : Ext H H') : WorkAt H' A es vs := ⟨h.len, fun i p v h1 h2 => (h.at_ i p v h1 h2).ext hE⟩
theorem WorkAt.snoc {H : AHeap} {A : List Nat → Addr} {es : List (List Nat)} {vs : List V} {p : List Nat} {v : V} (h : WorkAt H A es vs) (hv : EntryAt H A p v) : WorkAt H A (es ++ [p]) (vs ++ [v]) := by
  refine ⟨by simp [h.len], fun i q u h1 h2 => ?_⟩
  rw [List.getElem?_append] at h1 h2
  by_cases hi : i < es.length
  · rw [if_pos hi] at h1
    rw [if_pos (by rw [← h.len]; exact hi)] at h2
    exact h.at_ i q u h1 h2
  · rw [if_neg hi] at h1
    rw [if_neg (by rw [← h.len]; exact hi)] at h2
    rw [List.mem_singleton.mp (List.mem_of_getElem? h1), List.mem_singleton.mp (List.mem_of_getElem? h2)]
    exact hv
theorem L4.work_ok {k : Wk} {m : Loc} {H : AHeap} {S9 : Stmt} {C fI fG fA fK fD fR fL x nt ra dA gA : Addr} {R : List Addr} {seed mm : Nat} {dues : List (List Nat)} {A : List Nat → Addr} {Q : Flow → Loc → AHeap → Prop} [sv : SEnv k (fnScope L4.fLaw) (cellNames (fnScope L4.fLaw).names)]
    (h9 : S9 = stm (fnBody L4.fLaw) 9) (D : L4.Defs k.c C fI fG fA fK fD fR fL) (hA : Room k.A) (hm : mm ≤ 9)
    (V0 : L4.LV x nt ra dA gA seed mm m) (hra : H ra = some (.list (R.map V.ref))) (hring : ∀ r, r < mm → R[r]? = some (A [r]))
    (h : ∀ wA H' vs, Ext H H' → H' wA = some (.list vs) → H wA = none → WorkAt H' A ((List.range mm).map fun r => [r]) vs → Q .next (setL m "work" (.ref wA)) H') : W k (exec S9 k.env) m H Q := by
  subst h9
  have hh : k.A.handled = none := hA.handled
  have hz : sizeLine = _ := sizeLine_eq
  refine W_Assign_ListComp ?s0 ?s1 ?s2 ?s3 ?s4 ?s5 ?_
  case s0 => rfl
  case s1 => rfl
  case s2 => rfl
  case s3 => rfl
  case s4 => rfl
  case s5 => rfl
  refine W_CallT D.blt.range (kindS rfl) ?_
  refine WItems_cons ?_
  refine W_Name V0.vm ?_
  refine WItems_nil ?_
  refine WCall_range1 fun rg hrg => ?_
  refine ⟨_, _, _, fun i acc H4 => Ext (upd H rg (.range 0 (mm : Int) 1)) H4 ∧ WorkAt H4 A ((List.range i).map fun r => [r]) acc, WIter_range hh upd_same (small_ft (a := 0) (by lia) (by lia)), ⟨Ext.refl _, rfl, fun i p v h1 => by simp at h1⟩, fun _ _ _ _ => trivial, ?_, ?_, ?_⟩
  · rw [rangeN_up, hz]; lia
  · intro kc hkc i v acc mc H4 hi hv hI hcap hx
    rw [rangeN_up] at hi
    haveI := hkc.senv (sc := fnScope L4.fLaw) (cn := cellNames (fnScope L4.fLaw).names)
    obtain ⟨hE4, hW⟩ := hI
    have hv' : v = .int (i : Int) := by rw [hv]; congr 1; lia
    rw [hv'] at hx
    refine W_tests_nil ⟨rfl, ?_⟩
    rw [if_pos rfl]
    refine W_Tuple ?_
    refine WItems_cons ?_
    refine W_Tuple ?_
    refine WItems_cons ?_
    refine W_Name hx ?_
    refine WItems_nil ⟨by simp [hz], fun pt hpt => ?_⟩
    refine WItems_cons ?_
    refine W_Subscript ?_
    refine W_Name (hcap.get V0.vring (by rfl)) ?_
    refine W_Name hx ?_
    refine WSub_list (v := .ref (A [i])) (upd_fresh hpt (hE4 _ _ (upd_fresh hrg hra))) (by lia) (by lia) (by rw [List.getElem?_map, Int.toNat_natCast, hring i hi]; rfl) ?_
    refine WItems_nil ⟨by simp [hz], fun e he => ⟨rfl, hE4.trans ((Ext.upd hpt).trans (Ext.upd he)), ?_⟩⟩
    rw [List.range_succ, List.map_append]
    exact (hW.ext ((Ext.upd hpt).trans (Ext.upd he))).snoc ⟨e, pt, rfl, upd_same, upd_fresh he upd_same⟩
  · intro a acc H4 hal hI ha
    rw [rangeN_up] at hI
    obtain ⟨hE4, hW⟩ := hI
    refine h a _ acc (((Ext.upd hrg).trans hE4).trans (Ext.upd ha)) upd_same ?_ (hW.ext (Ext.upd ha))
    cases e : H a with
    | none => rfl
    | some y => rw [((Ext.upd hrg).trans hE4) a y e] at ha; cases ha
end
section
noncomputable abbrev intsV (l : List Nat) : List V := l.map fun (i : Nat) => V.int (i : Int)
noncomputable abbrev pyI (l : List Nat) : List PyData := l.map fun (i : Nat) => PyData.int (i : Int)
theorem rdI {H : AHeap} : ∀ l : List Nat, RdAll H (pyI l) (intsV l)
  | [] => rfl
  | i :: r => ⟨_, _, rfl, rfl, rdI r⟩
theorem goodAllI : ∀ l : List Nat, goodAll (pyI l) = true
  | [] => rfl
  | i :: r => by simp [goodAll, good, goodAllI r]
theorem depthI : ∀ l : List Nat, PyData.depthAll (pyI l) ≤ 1
  | [] => by simp [PyData.depthAll]
  | i :: r => by
    have := depthI r
    simp [PyData.depthAll, PyData.depth] at this ⊢
    lia
theorem pyI_inj : ∀ {a b : List Nat}, pyI a = pyI b ↔ a = b
  | [], [] => by simp
  | [], _ :: _ => by simp
  | _ :: _, [] => by simp
  | x :: a, y :: b => by
    have ih := pyI_inj (a := a) (b := b)
    constructor
    · intro h
      injection h with h1 h2
      injection h1 with h1
      rw [ih.mp h2, show x = y by lia]
    · intro h; rw [h]
theorem any_intsV {l : List Nat} {d : Nat} : ((intsV l).any fun v => eqKV v (V.int (d : Int))) = decide (d ∈ l) := by
  induction l with
  | nil => rfl
  | cons x l ih =>
    have e0 : ((intsV (x :: l)).any fun v => eqKV v (V.int (d : Int))) = (((x : Int) == (d : Int)) || (intsV l).any fun v => eqKV v (V.int (d : Int))) := rfl
    rw [e0, ih]
    by_cases q : x = d
    · subst q; simp
    · have q' : ((x : Int) == (d : Int)) = false := by simp; lia
      rw [q']
      have : (d ∈ x :: l) ↔ d ∈ l := by simp [Ne.symm q]
      simp [this]
noncomputable def whBody : Stmt → List Stmt
  | .While _ b _ _ => b
  | _ => []
noncomputable abbrev L4.whB : List Stmt := whBody (stm (fnBody L4.fLaw) 10)
end
section
theorem seqIndex_nat' {i n : Nat} (h : i < n) : seqIndex? (i : Int) n = some i := by
  have h1 : (if (i : Int) < 0 then (i : Int) + n else i) = i := if_neg (by lia)
  simp only [seqIndex?, h1]
  rw [if_pos (by simp; lia)]
  simp
theorem clip_nat {n i : Nat} (h : i ≤ n) : clipAt n (i : Int) = i := by
  unfold clipAt
  rw [if_neg (Int.not_lt.mpr (Int.natCast_nonneg i)), Int.min_eq_left (Int.ofNat_le.mpr h), Int.max_eq_right (Int.natCast_nonneg i), Int.toNat_natCast]
theorem clip_big {n i : Nat} (h : n ≤ i) : clipAt n (i : Int) = n := by
  unfold clipAt
  rw [if_neg (Int.not_lt.mpr (Int.natCast_nonneg i)), Int.min_eq_right (Int.ofNat_le.mpr h), Int.max_eq_right (Int.natCast_nonneg n), Int.toNat_natCast]
theorem sliceV_take {α : Type} (xs : List α) (n : Nat) : sliceV xs none (some (n : Int)) = xs.take n := by
  unfold sliceV
  simp only [Option.elim, List.drop_zero, Nat.sub_zero]
  rcases Nat.le_total n xs.length with h | h
  · rw [clip_nat h]
  · rw [clip_big h, List.take_of_length_le (Nat.le_refl _), List.take_of_length_le h]
structure L4.DU (dA : Addr) (dues : List (List Nat)) (dr : List Addr) (H : AHeap) : Prop where
  hdue : H dA = some (.list (dr.map V.ref))
  dl : dr.length = dues.length
  dat : ∀ (i : Nat) a w, dr[i]? = some a → dues[i]? = some w → H a = some (.tup (intsV w))
theorem L4.DU.ext {dA : Addr} {dues : List (List Nat)} {dr : List Addr} {H H' : AHeap} (h : L4.DU dA dues dr H) (hE : Ext H H') : L4.DU dA dues dr H' := ⟨hE _ _ h.hdue, h.dl, fun i a w h1 h2 => hE _ _ (h.dat i a w h1 h2)⟩
theorem L4.made_ok {k : Wk} {m : Loc} {H : AHeap} {S1 S2 : Stmt} {rest : List Stmt} {C fI fG fA fK fD fR fL dA pt : Addr} {dues : List (List Nat)} {dr : List Addr} {p : List Nat} {Q : Flow → Loc → AHeap → Prop} [sv : SEnv k (fnScope L4.fLaw) (cellNames (fnScope L4.fLaw).names)]
    (h1 : S1 = stm L4.whB 1) (h2 : S2 = stm L4.whB 2) (D : L4.Defs k.c C fI fG fA fK fD fR fL) (hA : Room k.A) (hA' : k.A.depth ≤ 500 ∧ k.A.units ≤ 1500)
    (X : L4.DU dA dues dr H) (hl64 : dues.length ≤ 64) (hwl : ∀ w ∈ dues, w.length ≤ 100) (hpl : p.length ≤ 100) (vd : m "due" = some (.ref dA)) (vp : m "path" = some (.ref pt)) (hpt : H pt = some (.tup (intsV p)))
    (h : ∀ mA m' H', Ext H H' → H mA = none → H' mA = some (.list (intsV (made dues p))) → m' "made" = some (.ref mA) → (∀ y : Str, y ≠ "made" → y ≠ "where" → m' y = m y) → W k (execs rest k.env) m' H' Q) : W k (execs (S1 :: S2 :: rest) k.env) m H Q := by
  subst h1; subst h2
  have hh : k.A.handled = none := hA.handled
  have hz : sizeLine = _ := sizeLine_eq
  have hun2 : k.A.units + 64 < cLine := Nat.lt_of_le_of_lt (m := 2070) (by lia) (by decide)
  refine W_cons' ?_
  refine W_Assign ?_ ?s0 ?s1
  case s0 => exact stor rfl
  case s1 => exact swaps_List
  refine W_List ?_
  refine WItems_nil ⟨by simp, fun mA hmA => ?_⟩
  refine contQ_next ?_
  have X1 := X.ext (Ext.upd (x := AObj.list []) hmA)
  have hpt1 : upd H mA (.list []) pt = some (.tup (intsV p)) := upd_fresh hmA hpt
  have hE0 := Ext.upd (x := AObj.list []) hmA
  have hmA1 : upd H mA (.list []) mA = some (.list []) := upd_same
  have vm1 : setL m "made" (.ref mA) "made" = some (.ref mA) := setL_same
  have hoff1 : ∀ y : Str, y ≠ "made" → y ≠ "where" → setL m "made" (.ref mA) y = m y := fun y y1 _ => setL_off y1
  generalize upd H mA (.list []) = H1 at X1 hpt1 hE0 hmA1 ⊢
  generalize setL m "made" (.ref mA) = m1 at vm1 hoff1 ⊢
  have hdm : dA ≠ mA := fun e => by have := X.hdue; rw [e, hmA] at this; cases this
  refine W_cons' ?_
  refine W_For ?h ?hs
  case hs => intro y; rfl
  refine W_Name (by rw [hoff1 _ (by decide) (by decide)]; exact vd) ?_
  refine ⟨_, _, _, fun i m' H' => m' "made" = some (.ref mA) ∧ (∀ y : Str, y ≠ "made" → y ≠ "where" → m' y = m y) ∧ ExtBut mA H1 H' ∧ H' mA = some (.list (intsV (made (dues.take i) p))), WIter_list hh X1.hdue, ⟨vm1, hoff1, ExtBut.refl _ _, hmA1⟩, fun i m' H' q => q.2.2.1 _ _ hdm X1.hdue, ?_, ?_⟩
  · intro i v m' H' hi hR hI
    obtain ⟨vm, hoff, hB, hmm⟩ := hI
    rw [List.length_map] at hi
    obtain ⟨a, ha, rfl⟩ : ∃ a, dr[i]? = some a ∧ v = .ref a := by
      rw [List.getElem?_map, Option.map_eq_some_iff] at hR
      obtain ⟨a, h1, h2⟩ := hR
      exact ⟨a, h1, h2.symm⟩
    obtain ⟨w, hw⟩ : ∃ w, dues[i]? = some w := ⟨_, List.getElem?_eq_getElem (by rw [← X.dl]; exact hi)⟩
    have hwa1 := X1.dat i a w ha hw
    have ham : a ≠ mA := fun e => by have := X.dat i a w ha hw; rw [e, hmA] at this; cases this
    have hpm : pt ≠ mA := fun e => by rw [e, hmA] at hpt; cases hpt
    have hwa := hB _ _ ham hwa1
    have hpt2 := hB _ _ hpm hpt1
    have hwlen := hwl w (List.mem_of_getElem? hw)
    have htake : dues.take (i + 1) = dues.take i ++ [w] := by rw [List.take_add_one, hw]; rfl
    have hml : (made (dues.take i) p).length ≤ 64 := by
      have aux : ∀ (l : List (List Nat)) (acc : List Nat), (l.foldl (madeStep p) acc).length ≤ acc.length + l.length := fun l => by
        induction l with
        | nil => intro acc; simp
        | cons x l ih =>
          intro acc
          have := ih (madeStep p acc x)
          have h1 : (madeStep p acc x).length ≤ acc.length + 1 := by
            unfold madeStep
            split
            · split <;> simp
            · lia
          simp only [List.foldl_cons, List.length_cons]
          lia
      have := aux (dues.take i) []
      simp only [List.length_nil, List.length_take] at this
      unfold made
      lia
    refine WAs_Name ?s0 ?_
    case s0 => exact stor rfl
    refine W_hide fun QL hQL => ?_
    have vm2 : setL m' "where" (.ref a) "made" = some (.ref mA) := by walk_at "lk"
    have vw2 : setL m' "where" (.ref a) "where" = some (.ref a) := setL_same
    have vp2 : setL m' "where" (.ref a) "path" = some (.ref pt) := by rw [setL_off (by decide), hoff _ (by decide) (by decide)]; exact vp
    have hoff2 : ∀ y : Str, y ≠ "made" → y ≠ "where" → setL m' "where" (.ref a) y = m y := fun y y1 y2 => by rw [setL_off y2]; exact hoff y y1 y2
    generalize setL m' "where" (.ref a) = m2 at vm2 vw2 vp2 hoff2 ⊢
    have miss : ∀ (tl : List Stmt) H2, Ext H' H2 → madeStep p (made (dues.take i) p) w = made (dues.take i) p → W k (execs [] k.env) m2 H2 (contQ k [] QL) := fun tl H2 hE hms => by
      refine W_nil ?_
      refine contQ_next ?_
      refine W_nil ?_
      refine hQL _ _ _ ?_
      refine loopQ_next ?_
      refine ⟨vm2, hoff2, hB.trans (ExtBut.of hE), ?_⟩
      rw [htake, made_snoc, hms]
      exact hE _ _ hmm
    refine W_cons' ?_
    refine W_If ?_
    refine WT_And ?_
    refine W_allTrue_and ?_
    refine WT_Compare ?_
    refine W_CallB D.blt.len (kindS rfl) ?_
    refine WItems_cons ?_
    refine W_Name vw2 ?_
    refine WItems_nil ?_
    refine WCall_lenT hwa (by rw [List.length_map]; lia) ?_
    refine W_CallB D.blt.len (kindS rfl) ?_
    refine WItems_cons ?_
    refine W_Name vp2 ?_
    refine WItems_nil ?_
    refine WCall_lenT hpt2 (by rw [List.length_map]; lia) ?_
    refine WCmp_gt ?_
    refine WTr_bool ?_
    rw [List.length_map, List.length_map]
    refine ite_dec (fun hlt => ?_) (fun hlt => ?_)
    case refine_2 =>
      refine iteF ?_
      refine miss [] _ (Ext.refl _) ?_
      unfold madeStep
      rw [List.getElem?_eq_none (by lia)]
    have hlt' : p.length < w.length := by lia
    obtain ⟨d, hd⟩ : ∃ d, w[p.length]? = some d := ⟨_, List.getElem?_eq_getElem hlt'⟩
    have hstep : madeStep p (made (dues.take i) p) w = if w.take p.length = p ∧ d ∉ made (dues.take i) p then made (dues.take i) p ++ [d] else made (dues.take i) p := by
      unfold madeStep
      rw [hd]
    refine W_allTrue_and ?_
    refine WT_Compare ?_
    refine W_SubSlice ?_
    refine W_Name vw2 ?_
    refine WPart_none ?_
    refine WPart_some ?_
    refine W_CallB D.blt.len (kindS rfl) ?_
    refine WItems_cons ?_
    refine W_Name vp2 ?_
    refine WItems_nil ?_
    refine WCall_lenT hpt2 (by rw [List.length_map]; lia) ⟨_, rfl, a, rfl, .inr ⟨_, hwa, by rw [List.length_map, hz]; lia, fun b H2 hE2 hb => ?_⟩⟩
    rw [List.length_map, sliceV_take, ← List.map_take] at hb
    refine W_Name vp2 ?_
    refine WCmp_eqD (da := .tuple (pyI (w.take p.length))) (db := .tuple (pyI p)) (r := decide (w.take p.length = p)) ⟨b, _, rfl, hb, rdI _⟩ ⟨pt, _, rfl, hE2 _ _ hpt2, rdI _⟩ (goodAllI _) (goodAllI _) ?_ hun2 ?_ ?_
    · have := depthI p
      refine Nat.le_trans (Nat.min_le_right _ _) ?_
      simp only [PyData.depth]
      lia
    · rw [decide_eq_true_iff]
      constructor
      · intro e; rw [e]
      · intro e; injection e with e; exact pyI_inj.mp e
    refine WTr_bool ?_
    refine ite_dec (fun heq => ?_) (fun heq => ?_)
    case refine_2 =>
      refine iteF ?_
      refine miss [] _ hE2 ?_
      rw [hstep, if_neg (fun q => heq q.1)]
    refine W_allTrue_and ?_
    refine WT_Compare ?_
    refine W_Subscript ?_
    refine W_Name vw2 ?_
    refine W_CallB D.blt.len (kindS rfl) ?_
    refine WItems_cons ?_
    refine W_Name vp2 ?_
    refine WItems_nil ?_
    refine WCall_lenT (hE2 _ _ hpt2) (by rw [List.length_map]; lia) ?_
    rw [List.length_map]
    refine WSub_tup (j := p.length) (v := .int (d : Int)) (hE2 _ _ hwa) (by lia) (by lia) (by rw [List.length_map]; exact seqIndex_nat' hlt') (by rw [List.getElem?_map, hd]; rfl) ?_
    refine W_Name vm2 ?_
    have hmm2 := hE2 _ _ hmm
    refine WCmp_notInList hmm2 (fun v hv => by obtain ⟨z, _, e⟩ := List.mem_map.mp hv; rw [← e]; rfl) rfl ?_
    rw [any_intsV]
    refine WTr_bool ?_
    by_cases hin : d ∈ made (dues.take i) p
    · rw [decide_eq_true hin]
      refine iteF ?_
      refine iteF ?_
      refine miss [] _ hE2 ?_
      rw [hstep, if_neg (fun q => q.2 hin)]
    · rw [decide_eq_false hin]
      refine iteT ?_
      refine W_allTrue_nilA ?_
      refine iteT ?_
      refine W_cons' ?_
      refine W_ExprStmt ?_
      refine W_CallM' PySem.F.plainAttrs_list PySem.F.slot_list_append PySem.F.type_list_append ?_
      refine W_Name vm2 ?_
      refine ⟨onList hmm2, ?_⟩
      refine WItems_cons ?_
      refine W_Subscript ?_
      refine W_Name vw2 ?_
      refine W_CallB D.blt.len (kindS rfl) ?_
      refine WItems_cons ?_
      refine W_Name vp2 ?_
      refine WItems_nil ?_
      refine WCall_lenT (hE2 _ _ hpt2) (by rw [List.length_map]; lia) ?_
      rw [List.length_map]
      refine WSub_tup (j := p.length) (v := .int (d : Int)) (hE2 _ _ hwa) (by lia) (by lia) (by rw [List.length_map]; exact seqIndex_nat' hlt') (by rw [List.getElem?_map, hd]; rfl) ?_
      refine WItems_nil ?_
      refine WCall_append hmm2 (by rw [List.length_map, hz]; lia) ?_
      refine contQ_next ?_
      refine W_nil ?_
      refine contQ_next ?_
      refine W_nil ?_
      refine hQL _ _ _ ?_
      refine loopQ_next ?_
      refine ⟨vm2, hoff2, (hB.trans (ExtBut.of hE2)).put, ?_⟩
      rw [upd_same, htake, made_snoc, hstep, if_pos ⟨heq, hin⟩]
      simp
  · intro m' H' hI
    obtain ⟨vm, hoff, hB, hmm⟩ := hI
    rw [List.length_map, X.dl, List.take_length] at hmm
    refine contQ_next ?_
    refine h mA m' H' (fun b y e => hB _ _ (fun q => by rw [q, hmA] at e; cases e) (hE0 _ _ e)) hmA hmm vm hoff
end
section
theorem L4.marksV_ok {k : Wk} {m : Loc} {H : AHeap} {S3 : Stmt} {C fI fG fA fK fD fR fL dA pt : Addr} {dues : List (List Nat)} {dr : List Addr} {p : List Nat} {Q : Flow → Loc → AHeap → Prop} [sv : SEnv k (fnScope L4.fLaw) (cellNames (fnScope L4.fLaw).names)]
    (h3 : S3 = stm L4.whB 3) (D : L4.Defs k.c C fI fG fA fK fD fR fL) (hA : Room k.A) (hA' : k.A.depth ≤ 500 ∧ k.A.units ≤ 1500)
    (X : L4.DU dA dues dr H) (hl64 : dues.length ≤ 64) (vd : m "due" = some (.ref dA)) (vp : m "path" = some (.ref pt)) (hpt : H pt = some (.tup (intsV p)))
    (h : ∀ ks H', Ext H H' → H' ks = some (.list (intsV (marksTo dues dues.length p))) → Q .next (setL m "marks" (.ref ks)) H') : W k (exec S3 k.env) m H Q := by
  subst h3
  have hh : k.A.handled = none := hA.handled
  have hz : sizeLine = _ := sizeLine_eq
  have hun2 : k.A.units + 64 < cLine := Nat.lt_of_le_of_lt (m := 2070) (by lia) (by decide)
  refine W_Assign_ListComp ?s0 ?s1 ?s2 ?s3 ?s4 ?s5 ?_
  case s0 => rfl
  case s1 => rfl
  case s2 => rfl
  case s3 => rfl
  case s4 => rfl
  case s5 => rfl
  refine W_CallT D.blt.range (kindS rfl) ?_
  refine WItems_cons ?_
  refine W_CallB D.blt.len (kindS rfl) ?_
  refine WItems_cons ?_
  refine W_Name vd ?_
  refine WItems_nil ?_
  refine WCall_lenL X.hdue (by rw [List.length_map, X.dl]; lia) ?_
  rw [List.length_map, X.dl]
  refine WItems_nil ?_
  refine WCall_range1 fun rg hrg => ?_
  refine ⟨_, _, _, fun i acc H4 => Ext (upd H rg (.range 0 (dues.length : Int) 1)) H4 ∧ acc = intsV (marksTo dues i p), WIter_range hh upd_same (small_ft (a := 0) (by lia) (by lia)), ⟨Ext.refl _, rfl⟩, fun _ _ _ _ => trivial, ?_, ?_, ?_⟩
  · rw [rangeN_up, hz]; lia
  · intro kc hkc i v acc mc H4 hi hv hI hcap hx
    rw [rangeN_up] at hi
    haveI := hkc.senv (sc := fnScope L4.fLaw) (cn := cellNames (fnScope L4.fLaw).names)
    obtain ⟨hE4, rfl⟩ := hI
    have hv' : v = .int (i : Int) := by rw [hv]; congr 1; lia
    rw [hv'] at hx
    obtain ⟨w, hw⟩ : ∃ w, dues[i]? = some w := ⟨_, List.getElem?_eq_getElem hi⟩
    obtain ⟨a, ha⟩ : ∃ a, dr[i]? = some a := ⟨_, List.getElem?_eq_getElem (by rw [X.dl]; exact hi)⟩
    have hE := (Ext.upd (x := AObj.range 0 (dues.length : Int) 1) hrg).trans hE4
    refine W_tests_one ?_
    refine WT_Compare ?_
    refine W_Subscript ?_
    refine W_Name (hcap.get vd (by rfl)) ?_
    refine W_Name hx ?_
    refine WSub_list (v := .ref a) (hE _ _ X.hdue) (by lia) (by lia) (by rw [List.getElem?_map, Int.toNat_natCast, ha]; rfl) ?_
    refine W_Name (hcap.get vp (by rfl)) ?_
    refine WCmp_eqD (da := .tuple (pyI w)) (db := .tuple (pyI p)) (r := decide (w = p)) ⟨a, _, rfl, hE _ _ (X.dat i a w ha hw), rdI _⟩ ⟨pt, _, rfl, hE _ _ hpt, rdI _⟩ (goodAllI _) (goodAllI _) ?_ (by rw [hkc.A]; exact hun2) ?_ ?_
    · have := depthI p
      refine Nat.le_trans (Nat.min_le_right _ _) ?_
      simp only [PyData.depth]
      lia
    · rw [decide_eq_true_iff]
      constructor
      · intro e; rw [e]
      · intro e; injection e with e; exact pyI_inj.mp e
    refine WTr_bool ⟨rfl, ?_⟩
    refine ite_dec (fun heq => ?_) (fun heq => ?_)
    · refine W_Name hx ⟨rfl, hE4, ?_⟩
      rw [marksTo_hit (by rw [hw, heq])]
      simp
    · refine ⟨hE4, ?_⟩
      rw [marksTo_miss (by rw [hw]; simpa using heq)]
  · intro a acc H4 hal hI ha
    rw [rangeN_up] at hI
    obtain ⟨hE4, rfl⟩ := hI
    exact h a _ (((Ext.upd hrg).trans hE4).trans (Ext.upd ha)) upd_same
end
section
noncomputable def firstD (seed : Nat) (p : List Nat) : List PyData := match p with
  | [r] => PyData.str "is" :: (there seed r).map fun d => PyData.str (nm d)
  | _ => []
theorem RdAll.app {H : AHeap} : ∀ {a b : List PyData} {u v : List V}, RdAll H a u → RdAll H b v → RdAll H (a ++ b) (u ++ v)
  | [], b, u, v, h, h' => by
    have h : u = [] := h
    subst h; exact h'
  | x :: a, b, u, v, ⟨w, r, e, h1, h2⟩, h' => ⟨w, r ++ v, by rw [e]; rfl, h1, RdAll.app h2 h'⟩
theorem rdNm {H : AHeap} {t : Nat → Tok} : ∀ ds : List Nat, RdAll H (ds.map fun d => PyData.str (nm d)) (ds.map fun d => V.str (nm d) (t d))
  | [] => rfl
  | d :: ds => ⟨_, _, rfl, ⟨t d, rfl⟩, rdNm ds⟩
theorem L4.first_ok {k : Wk} {m : Loc} {H : AHeap} {S4 S5 : Stmt} {rest : List Stmt} {C fI fG fA fK fD fR fL x nt ra dA gA pt : Addr} {t : Nat → Tok} {seed mm : Nat} {p : List Nat} {Q : Flow → Loc → AHeap → Prop} [sv : SEnv k (fnScope L4.fLaw) (cellNames (fnScope L4.fLaw).names)]
    (h4 : S4 = stm L4.whB 4) (h5 : S5 = stm L4.whB 5) (D : L4.Defs k.c C fI fG fA fK fD fR fL) (hA : Room k.A) (hA' : k.A.depth ≤ 500 ∧ k.A.units ≤ 1500)
    (V0 : L4.LV x nt ra dA gA seed mm m) (hnt : H nt = some (.list (nmL t))) (vp : m "path" = some (.ref pt)) (hpt : H pt = some (.tup (intsV p))) (hp9 : ∀ r, p = [r] → r < 9) (hpl : p.length ≤ 100)
    (h : ∀ fA' m' H' fv, Ext H H' → m' "first" = some (.ref fA') → H' fA' = some (.list fv) → RdAll H' (firstD seed p) fv → fv.length ≤ 4 → (∀ r, p = [r] → ∃ th, m' "there" = some (.ref th) ∧ H' th = some (.list (intsV (there seed r)))) → (∀ y : Str, y ≠ "first" → y ≠ "there" → m' y = m y) → W k (execs rest k.env) m' H' Q) : W k (execs (S4 :: S5 :: rest) k.env) m H Q := by
  subst h4; subst h5
  have hh : k.A.handled = none := hA.handled
  have hz : sizeLine = _ := sizeLine_eq
  obtain ⟨foK, fdK, hfK, hdK⟩ := D.kind.obj
  refine W_cons' ?_
  refine W_Assign ?_ ?s0 ?s1
  case s0 => exact stor rfl
  case s1 => exact swaps_List
  refine W_List ?_
  refine WItems_nil ⟨by simp, fun f0 hf0 => ?_⟩
  refine contQ_next ?_
  have hE0 := Ext.upd (x := AObj.list []) hf0
  have hf0' : upd H f0 (.list []) f0 = some (.list []) := upd_same
  have hpt1 := hE0 _ _ hpt
  have hnt1 := hE0 _ _ hnt
  have vf : setL m "first" (.ref f0) "first" = some (.ref f0) := setL_same
  have vp1 : setL m "first" (.ref f0) "path" = some (.ref pt) := by walk_at "lk"
  have hoff1 : ∀ y : Str, y ≠ "first" → y ≠ "there" → setL m "first" (.ref f0) y = m y := fun y y1 _ => setL_off y1
  have V1 : L4.LV x nt ra dA gA seed mm (setL m "first" (.ref f0)) := V0.of fun y hy => setL_off (fun e => by subst e; revert hy; decide)
  generalize upd H f0 (.list []) = H1 at hE0 hf0' hpt1 hnt1 ⊢
  generalize setL m "first" (.ref f0) = m1 at vf vp1 hoff1 V1 ⊢
  refine W_cons' ?_
  refine W_If ?_
  refine WT_Compare ?_
  refine W_CallB D.blt.len (kindS rfl) ?_
  refine WItems_cons ?_
  refine W_Name vp1 ?_
  refine WItems_nil ?_
  refine WCall_lenT hpt1 (by rw [List.length_map]; lia) ?_
  refine W_int ?_
  refine WCmp_eq ?_
  refine WTr_bool ?_
  rw [List.length_map]
  refine ite_dec (fun h1 => ?_) (fun h1 => ?_)
  case refine_2 =>
    have e1 : firstD seed p = [] := by
      unfold firstD
      split
      · simp at h1
      · rfl
    refine W_nil ?_
    refine contQ_next ?_
    refine h f0 m1 H1 [] hE0 vf hf0' (by rw [e1]; rfl) (by simp) (fun r hr => ?_) hoff1
    subst hr; simp at h1
  obtain ⟨r, rfl⟩ : ∃ r, p = [r] := by
    match p, h1 with
    | [r], _ => exact ⟨r, rfl⟩
    | [], h1 => simp at h1
    | _ :: _ :: _, h1 => simp at h1; lia
  have hr9 := hp9 r rfl
  refine W_cons' ?_
  refine W_Assign_ListComp ?s0 ?s1 ?s2 ?s3 ?s4 ?s5 ?_
  case s0 => rfl
  case s1 => rfl
  case s2 => rfl
  case s3 => rfl
  case s4 => rfl
  case s5 => rfl
  refine W_CallT D.blt.range (kindS rfl) ?_
  refine WItems_cons ?_
  refine W_int ?_
  refine WItems_nil ?_
  refine WCall_range1 fun rg hrg => ?_
  refine ⟨_, _, _, fun i acc H4 => Ext (upd H1 rg (.range 0 3 1)) H4 ∧ acc = intsV (thereTo seed r i), WIter_range hh upd_same (small_ft (a := 0) (b := 3) (by lia) (by lia)), ⟨Ext.refl _, rfl⟩, fun _ _ _ _ => trivial, ?_, ?_, ?_⟩
  · rw [show rangeN 0 3 1 = 3 from rangeN_up 3, hz]; lia
  · intro kc hkc i v acc mc H4 hi hv hI hcap hx
    rw [show rangeN 0 3 1 = 3 from rangeN_up 3] at hi
    haveI := hkc.senv (sc := fnScope L4.fLaw) (cn := cellNames (fnScope L4.fLaw).names)
    obtain ⟨hE4, rfl⟩ := hI
    have hv' : v = .int (i : Int) := by rw [hv]; congr 1; lia
    rw [hv'] at hx
    have gK : Gl kc.c "_law_kind" (.ref fK) := by rw [hkc.c]; exact D.gKind
    have dK : DefAt kc.c fK L4.fKind := by rw [hkc.c]; exact D.kind
    have bK : Blt kc.c := by rw [hkc.c]; exact D.blt
    have rK : Room kc.A := by rw [hkc.A]; exact hA
    have oK : kc.c.base.get? fK = some foK := by rw [hkc.c]; exact hfK
    refine W_tests_one ?_
    refine WT_Compare ?_
    refine W_CallF gK (kindS rfl) oK hdK ?_
    refine WItems_cons ?_
    refine W_Name (hcap.get V1.vseed (by rfl)) ?_
    refine WItems_cons ?_
    refine W_Subscript ?_
    refine W_Name (hcap.get vp1 (by rfl)) ?_
    refine W_int ?_
    refine WSub_tup (j := 0) (v := .int (r : Int)) (hE4 _ _ (upd_fresh hrg hpt1)) (by decide) (by decide) (seqIndex_nat' (i := 0) (by simp)) rfl ?_
    refine WItems_cons ?_
    refine W_Name hx ?_
    refine WItems_nil ?_
    refine FnV.mono (L4.kind_ok bK dK rK (by lia) (by lia)) ?_ (fun _ _ _ q => q.elim)
    intro v1 H5 hv1
    obtain ⟨rfl, rfl⟩ := hv1
    refine W_int ?_
    refine WCmp_ne ?_
    refine WTr_bool ⟨rfl, ?_⟩
    refine ite_dec (fun hk2 => ?_) (fun hk2 => ?_)
    · refine W_Name hx ⟨rfl, hE4, ?_⟩
      rw [thereTo_put (by lia)]
      simp
    · refine ⟨hE4, ?_⟩
      rw [thereTo_skip (by lia)]
  · intro th acc H4 hal hI ha
    rw [show rangeN 0 3 1 = 3 from rangeN_up 3] at hI
    obtain ⟨hE4, rfl⟩ := hI
    rw [thereTo_3]
    have hE14 := ((Ext.upd (x := AObj.range 0 3 1) hrg).trans hE4).trans (Ext.upd (x := AObj.list (intsV (there seed r))) ha)
    have hth : upd H4 th (.list (intsV (there seed r))) th = some (.list (intsV (there seed r))) := upd_same
    generalize upd H4 th (.list (intsV (there seed r))) = H5 at hE14 hth ⊢
    have vt : setL m1 "there" (.ref th) "there" = some (.ref th) := setL_same
    have hoff2 : ∀ y : Str, y ≠ "first" → y ≠ "there" → setL m1 "there" (.ref th) y = m y := fun y y1 y2 => by rw [setL_off y2]; exact hoff1 y y1 y2
    have V2 : L4.LV x nt ra dA gA seed mm (setL m1 "there" (.ref th)) := V1.of fun y hy => setL_off (fun e => by subst e; revert hy; decide)
    generalize setL m1 "there" (.ref th) = m2 at vt hoff2 V2 ⊢
    have hnt5 := hE14 _ _ hnt1
    refine contQ_next ?_
    refine W_cons' ?_
    refine W_Assign ?_ ?s0 ?s1
    case s0 => exact stor rfl
    case s1 => rfl
    refine W_BinOp ?_
    refine W_List ?_
    refine WItems_cons ?_
    refine W_str fun tk _ => ?_
    refine WItems_nil ⟨by simp [hz], fun l1 hl1 => ?_⟩
    refine W_ListComp ?s0 ?s1 ?s2 ?_
    case s0 => rfl
    case s1 => rfl
    case s2 => rfl
    refine W_Name vt ?_
    refine ⟨_, _, _, fun i acc H6 => Ext (upd H5 l1 (.list [.str "is" tk])) H6 ∧ acc = ((there seed r).take i).map (fun d => V.str (nm d) (t d)), WIter_list hh (upd_fresh hl1 hth), ⟨Ext.refl _, by simp⟩, fun i acc H6 q => q.1 _ _ (upd_fresh hl1 hth), ?_, ?_, ?_⟩
    · rw [List.length_map, hz]
      have := List.length_filter_le (fun d => decide (kindOf seed r d ≠ 2)) (List.range 3)
      rw [List.length_range] at this
      unfold there
      lia
    · intro kc hkc i v acc mc H6 hi hv hI hcap hx
      rw [List.length_map] at hi
      haveI := hkc.senv (sc := fnScope L4.fLaw) (cn := cellNames (fnScope L4.fLaw).names)
      obtain ⟨hE6, rfl⟩ := hI
      obtain ⟨d, hd⟩ : ∃ d, (there seed r)[i]? = some d := ⟨_, List.getElem?_eq_getElem hi⟩
      have hd3 := (there_lt (List.mem_of_getElem? hd)).1
      rw [List.getElem?_map, hd] at hv
      cases hv
      refine W_tests_nil ⟨rfl, ?_⟩
      rw [if_pos rfl]
      refine W_Subscript ?_
      refine W_Name (hcap.get V2.vnm (by rfl)) ?_
      refine W_Name hx ?_
      refine WSub_list (v := .str (nm d) (t d)) (hE6 _ _ (upd_fresh hl1 hnt5)) (by lia) (by lia) (by rw [Int.toNat_natCast]; exact nmL_at hd3) ⟨rfl, hE6, ?_⟩
      rw [List.take_add_one, hd]
      simp
    · intro l2 acc H6 hal hI hl2
      obtain ⟨hE6, rfl⟩ := hI
      rw [List.length_map, List.take_length]
      have hln : (there seed r).length ≤ 3 := by
        have := List.length_filter_le (fun d => decide (kindOf seed r d ≠ 2)) (List.range 3)
        rw [List.length_range] at this
        exact this
      refine WBin_addL (upd_fresh hl2 (hE6 _ _ upd_same)) upd_same (by simp [hz]; lia) fun l3 hl3 => ?_
      refine contQ_next ?_
      refine W_nil ?_
      refine contQ_next ?_
      refine h l3 _ _ _ (hE0.trans (hE14.trans ((((Ext.upd hl1).trans hE6).trans (Ext.upd hl2)).trans (Ext.upd hl3)))) setL_same upd_same ?_ (by simp; lia) (fun r' hr' => ?_) (fun y y1 y2 => by rw [setL_off y1]; exact hoff2 y y1 y2)
      · exact ⟨_, _, rfl, ⟨tk, rfl⟩, rdNm _⟩
      · cases hr'
        exact ⟨th, by walk_at "lk", upd_fresh hl3 (upd_fresh hl2 (hE6 _ _ (upd_fresh hl1 hth)))⟩
end
section
noncomputable def keyPy : Key → PyData
  | .inl i => .int i
  | .inr x => .str x
theorem rdKeys {H : AHeap} : ∀ (kvs : List (Key × V)) (xs : List V), xs.length = kvs.length → (∀ (i : Nat) (kv : Key × V) (x : V), kvs[i]? = some kv → xs[i]? = some x → isKV kv.1 x = true) → RdAll H (kvs.map fun kv => keyPy kv.1) xs
  | [], [], _, _ => rfl
  | [], _ :: _, h, _ => by simp at h
  | _ :: _, [], h, _ => by simp at h
  | kv :: kvs, x :: xs, h, hk => by
    refine ⟨x, xs, rfl, ?_, rdKeys kvs xs (by simpa using h) fun i kv x h1 h2 => hk (i + 1) kv x h1 h2⟩
    have := hk 0 kv x rfl rfl
    obtain ⟨key, v⟩ := kv
    cases key with
    | inl i => cases x <;> simp [isKV] at this; subst this; rfl
    | inr z => cases x <;> simp [isKV] at this; subst this; exact ⟨_, rfl⟩
theorem Head.keys {H : AHeap} {R : List Addr} {seed m : Nat} {p : List Nat} {kvs : List (Key × V)} (h : Head H R seed m p kvs) : (kvs.map fun kv => keyPy kv.1) = firstD seed p := by
  unfold Head at h
  unfold firstD
  split at h
  · rename_i r
    obtain ⟨vs, hl, rfl, _⟩ := h
    have aux : ∀ (ts : List Nat) (vs : List V), vs.length = ts.length → ((ts.zip vs).map fun q => ((.inr (nm q.1) : Key), q.2)).map (fun kv => keyPy kv.1) = ts.map fun d => PyData.str (nm d) := fun ts => by
      induction ts with
      | nil => intro vs _; rfl
      | cons x ts ih =>
        intro vs h
        cases vs with
        | nil => simp at h
        | cons v vs => simp only [List.zip_cons_cons, List.map_cons]; rw [ih vs (by simpa using h)]; rfl
    rw [List.map_cons, aux _ _ hl]
    rfl
  · rename_i hne
    subst h
    first
      | rfl
      | (split
         · rename_i r; exact absurd rfl (hne r)
         · rfl)
theorem strOk_nm (d : Nat) : PyData.strOk (nm d) = true := by
  unfold nm
  split
  · decide +kernel
  · split <;> decide +kernel
theorem goodNm : ∀ ds : List Nat, goodAll (ds.map fun d => PyData.str (nm d)) = true
  | [] => rfl
  | d :: ds => by simp [goodAll, good, strOk_nm, goodNm ds]
theorem goodAll_app : ∀ {a b : List PyData}, goodAll a = true → goodAll b = true → goodAll (a ++ b) = true
  | [], b, _, h => h
  | x :: a, b, h, h' => by
    simp only [goodAll, Bool.and_eq_true, List.cons_append] at h ⊢
    exact ⟨h.1, goodAll_app h.2 h'⟩
theorem goodFirst (seed : Nat) (p : List Nat) : goodAll (firstD seed p) = true := by
  unfold firstD
  split
  · simp only [goodAll, good, goodNm, Bool.and_true]
    decide +kernel
  · rfl
theorem depth_str : ∀ {a : List PyData}, (∀ d ∈ a, ∃ x, d = PyData.str x) → PyData.depthAll a ≤ 1
  | [], _ => by simp [PyData.depthAll]
  | d :: a, h => by
    obtain ⟨x, rfl⟩ := h d List.mem_cons_self
    have := depth_str (a := a) fun d hd => h d (List.mem_cons_of_mem _ hd)
    simp [PyData.depthAll, PyData.depth]
    lia
noncomputable def keysD (seed : Nat) (dues : List (List Nat)) (p : List Nat) : List PyData := (firstD seed p ++ (made dues p).map fun d => PyData.str (nm d)) ++ if marksTo dues dues.length p = [] then [] else [PyData.str "at"]
theorem keysD_good (seed : Nat) (dues : List (List Nat)) (p : List Nat) : goodAll (keysD seed dues p) = true := by
  unfold keysD
  refine goodAll_app (goodAll_app (goodFirst _ _) (goodNm _)) ?_
  split
  · rfl
  · decide +kernel
theorem keysD_depth (seed : Nat) (dues : List (List Nat)) (p : List Nat) : PyData.depthAll (keysD seed dues p) ≤ 1 := by
  refine depth_str fun d hd => ?_
  unfold keysD at hd
  rcases List.mem_append.mp hd with hd | hd
  · rcases List.mem_append.mp hd with hd | hd
    · unfold firstD at hd
      split at hd
      · rcases List.mem_cons.mp hd with rfl | hd
        · exact ⟨_, rfl⟩
        · obtain ⟨e, _, rfl⟩ := List.mem_map.mp hd; exact ⟨_, rfl⟩
      · cases hd
    · obtain ⟨e, _, rfl⟩ := List.mem_map.mp hd; exact ⟨_, rfl⟩
  · split at hd
    · cases hd
    · exact ⟨_, List.mem_singleton.mp hd⟩
structure L4.ND (R : List Addr) (seed mm : Nat) (dues : List (List Nat)) (A L : List Nat → Addr) (p : List Nat) (kvs : List (Key × V)) (ep : Nat) (H : AHeap) : Prop where
  head : Head H R seed mm p kvs
  at_ : H (A p) = some (.dict (kvs ++ kids A p (made dues p) ++ atK L p (marksTo dues dues.length p)) ep)
  mks : marksTo dues dues.length p ≠ [] → H (L p) = some (.list (intsV (marksTo dues dues.length p)))
theorem L4.ND.ext {R : List Addr} {seed mm : Nat} {dues : List (List Nat)} {A L : List Nat → Addr} {p : List Nat} {kvs : List (Key × V)} {ep : Nat} {H H' : AHeap} (h : L4.ND R seed mm dues A L p kvs ep H) (hE : Ext H H') : L4.ND R seed mm dues A L p kvs ep H' :=
  ⟨h.head.keep (fun b y e _ => hE b y e) (fun e ep he => hE e _ he), hE _ _ h.at_, fun q => hE _ _ (h.mks q)⟩
theorem L4.ND.keys {R : List Addr} {seed mm : Nat} {dues : List (List Nat)} {A L : List Nat → Addr} {p : List Nat} {kvs : List (Key × V)} {ep : Nat} {H : AHeap} (h : L4.ND R seed mm dues A L p kvs ep H) : ((kvs ++ kids A p (made dues p) ++ atK L p (marksTo dues dues.length p)).map fun kv => keyPy kv.1) = keysD seed dues p := by
  unfold keysD
  rw [List.map_append, List.map_append, h.head.keys]
  congr 1
  · congr 1
    unfold kids
    rw [List.map_map]; rfl
  · unfold atK
    split <;> rfl
theorem L4.look_ok {k : Wk} {m : Loc} {H : AHeap} {S6 S7 : Stmt} {rest : List Stmt} {C fI fG fA fK fD fR fL x nt ra dA gA fA' mA ks : Addr} {t : Nat → Tok} {R : List Addr} {seed mm : Nat} {dues : List (List Nat)} {A L : List Nat → Addr} {p : List Nat} {kvs : List (Key × V)} {ep : Nat} {fv : List V} {Q : Flow → Loc → AHeap → Prop} [sv : SEnv k (fnScope L4.fLaw) (cellNames (fnScope L4.fLaw).names)]
    (h6 : S6 = stm L4.whB 6) (h7 : S7 = stm L4.whB 7) (D : L4.Defs k.c C fI fG fA fK fD fR fL) (hA : Room k.A) (hA' : k.A.depth ≤ 500 ∧ k.A.units ≤ 1500)
    (V0 : L4.LV x nt ra dA gA seed mm m) (hnt : H nt = some (.list (nmL t))) (N : L4.ND R seed mm dues A L p kvs ep H) (hd3 : ∀ d ∈ made dues p, d < 3) (hl64 : dues.length ≤ 64)
    (vo : m "one" = some (.ref (A p))) (vf : m "first" = some (.ref fA')) (hf : H fA' = some (.list fv)) (hfv : RdAll H (firstD seed p) fv) (hfl : fv.length ≤ 4) (vm : m "made" = some (.ref mA)) (hm : H mA = some (.list (intsV (made dues p)))) (vk : m "marks" = some (.ref ks)) (hks : H ks = some (.list (intsV (marksTo dues dues.length p))))
    (h : ∀ H', Ext H H' → W k (execs rest k.env) m H' Q) : W k (execs (S6 :: S7 :: rest) k.env) m H Q := by
  subst h6; subst h7
  have hh : k.A.handled = none := hA.handled
  have hz : sizeLine = _ := sizeLine_eq
  have hun2 : k.A.units + 64 < cLine := Nat.lt_of_le_of_lt (m := 2070) (by lia) (by decide)
  have hml := nodup_lt3 (made_nodup dues p) hd3
  have hkl := N.head.small
  have hsz : (kvs ++ kids A p (made dues p) ++ atK L p (marksTo dues dues.length p)).length ≤ 8 := by
    have a3 : (atK L p (marksTo dues dues.length p)).length ≤ 1 := by unfold atK; split <;> simp
    rw [List.length_append, List.length_append]
    simp only [kids, List.length_map]
    lia
  refine W_cons' ?_
  refine W_If ?_
  refine WT_Or ?_
  refine W_allTrue_or ?_
  refine WT_Compare ?_
  refine W_CallT D.b4.type (kindS rfl) ?_
  refine WItems_cons ?_
  refine W_Name vo ?_
  refine WItems_nil ?_
  refine WCall_type (Tx := "dict") (by simp [tyOf, N.at_]) (by simp) ?_
  refine W_NameG D.blt.dict (kindS rfl) ?_
  refine WCmp_isNotTy ?_
  rw [decide_eq_false (by simp)]
  refine WTr_bool ?_
  refine iteF ?_
  refine W_allTrue_or ?_
  refine WT_Compare ?_
  refine W_CallT D.blt.list (kindS rfl) ?_
  refine WItems_cons ?_
  refine W_Name vo ?_
  refine WItems_nil ?_
  refine WCall_listD hh N.at_ (by rw [hz]; lia) fun l1 xs hxl hxk hl1 => ?_
  have hE1 := Ext.upd (x := AObj.list xs) hl1
  have hl1' : upd H l1 (.list xs) l1 = some (.list xs) := upd_same
  generalize upd H l1 (.list xs) = H1 at hE1 hl1' ⊢
  have rd1 : RdAll H1 (keysD seed dues p) xs := by rw [← N.keys]; exact rdKeys _ _ hxl hxk
  refine W_BinOp ?_
  refine W_BinOp ?_
  refine W_Name vf ?_
  refine W_ListComp ?s0 ?s1 ?s2 ?_
  case s0 => rfl
  case s1 => rfl
  case s2 => rfl
  refine W_Name vm ?_
  refine ⟨_, _, _, fun i acc H6 => Ext H1 H6 ∧ acc = ((made dues p).take i).map (fun d => V.str (nm d) (t d)), WIter_list hh (hE1 _ _ hm), ⟨Ext.refl _, by simp⟩, fun i acc H6 q => q.1 _ _ (hE1 _ _ hm), ?_, ?_, ?_⟩
  · rw [List.length_map, hz]; lia
  · intro kc hkc i v acc mc H6 hi hv hI hcap hx
    rw [List.length_map] at hi
    haveI := hkc.senv (sc := fnScope L4.fLaw) (cn := cellNames (fnScope L4.fLaw).names)
    obtain ⟨hE6, rfl⟩ := hI
    obtain ⟨d, hd⟩ : ∃ d, (made dues p)[i]? = some d := ⟨_, List.getElem?_eq_getElem hi⟩
    have hd3' := hd3 d (List.mem_of_getElem? hd)
    rw [List.getElem?_map, hd] at hv
    cases hv
    refine W_tests_nil ⟨rfl, ?_⟩
    rw [if_pos rfl]
    refine W_Subscript ?_
    refine W_Name (hcap.get V0.vnm (by rfl)) ?_
    refine W_Name hx ?_
    refine WSub_list (v := .str (nm d) (t d)) (hE6 _ _ (hE1 _ _ hnt)) (by lia) (by lia) (by rw [Int.toNat_natCast]; exact nmL_at hd3') ⟨rfl, hE6, ?_⟩
    rw [List.take_add_one, hd]
    simp
  · intro l2 acc H6 hal hI hl2
    obtain ⟨hE6, rfl⟩ := hI
    rw [List.length_map, List.take_length]
    have hE2 := hE1.trans (hE6.trans (Ext.upd (x := AObj.list ((made dues p).map fun d => V.str (nm d) (t d))) hl2))
    have hl2' : upd H6 l2 (.list ((made dues p).map fun d => V.str (nm d) (t d))) l2 = some (.list ((made dues p).map fun d => V.str (nm d) (t d))) := upd_same
    have hE12 := hE6.trans (Ext.upd (x := AObj.list ((made dues p).map fun d => V.str (nm d) (t d))) hl2)
    generalize upd H6 l2 (.list ((made dues p).map fun d => V.str (nm d) (t d))) = H2 at hE2 hl2' hE12 ⊢
    refine WBin_addL (hE2 _ _ hf) hl2' (by simp [hz]; lia) fun l3 hl3 => ?_
    have hE3 := hE2.trans (Ext.upd (x := AObj.list (fv ++ (made dues p).map fun d => V.str (nm d) (t d))) hl3)
    have hE13 := hE12.trans (Ext.upd (x := AObj.list (fv ++ (made dues p).map fun d => V.str (nm d) (t d))) hl3)
    have hl3' : upd H2 l3 (.list (fv ++ (made dues p).map fun d => V.str (nm d) (t d))) l3 = some (.list (fv ++ (made dues p).map fun d => V.str (nm d) (t d))) := upd_same
    generalize upd H2 l3 (.list (fv ++ (made dues p).map fun d => V.str (nm d) (t d))) = H3 at hE3 hl3' hE13 ⊢
    -- the last part
    refine WV_cut (fun v m4 H4 => m4 = m ∧ Ext H3 H4 ∧ ∃ l4 lv, v = .ref l4 ∧ H4 l4 = some (.list lv) ∧ lv.length ≤ 1 ∧ RdAll H4 (if marksTo dues dues.length p = [] then [] else [PyData.str "at"]) lv) ?_ ?_
    · refine W_IfExp ?_
      refine WT_plain ?_
      refine W_Name vk ?_
      refine WTr_list (hE3 _ _ hks) (by
        rw [List.length_map]
        have := List.length_filter_le (fun k => decide (dues[k]? = some p)) (List.range dues.length)
        rw [List.length_range] at this
        unfold marksTo
        lia) ?_
      by_cases q : marksTo dues dues.length p = []
      · rw [q]
        refine iteF ?_
        refine W_List ?_
        refine WItems_nil ⟨by simp, fun l4 hl4 => ⟨rfl, Ext.upd hl4, l4, [], rfl, upd_same, by simp, ?_⟩⟩
        rw [if_pos rfl]; rfl
      · have e1 : (!(intsV (marksTo dues dues.length p)).isEmpty) = true := by
          cases hq : marksTo dues dues.length p with
          | nil => exact absurd hq q
          | cons a b => rfl
        rw [e1]
        refine iteT ?_
        refine W_List ?_
        refine WItems_cons ?_
        refine W_str fun tk _ => ?_
        refine WItems_nil ⟨by simp [hz], fun l4 hl4 => ⟨rfl, Ext.upd hl4, l4, _, rfl, upd_same, by simp, ?_⟩⟩
        rw [if_neg q]
        exact ⟨_, _, rfl, ⟨tk, rfl⟩, rfl⟩
    · intro v m4 H4 hv
      obtain ⟨rfl, hE4, l4, lv, rfl, hl4, hlv, rd4⟩ := hv
      refine WBin_addL (hE4 _ _ hl3') hl4 (by simp [hz]; lia) fun l5 hl5 => ?_
      have hE5 := Ext.upd (x := AObj.list (fv ++ ((made dues p).map fun d => V.str (nm d) (t d)) ++ lv)) hl5
      have hEall := hE3.trans (hE4.trans hE5)
      have rd5 : RdAll (upd H4 l5 (.list (fv ++ ((made dues p).map fun d => V.str (nm d) (t d)) ++ lv))) (keysD seed dues p) (fv ++ ((made dues p).map fun d => V.str (nm d) (t d)) ++ lv) := by
        unfold keysD
        exact RdAll.app (RdAll.app (RdAll.ext hEall _ _ hfv) (rdNm _)) (RdAll.ext hE5 _ _ rd4)
      have hl1'' := (hE13.trans (hE4.trans hE5)) _ _ hl1'
      refine WCmp_neD (da := .list (keysD seed dues p)) (db := .list (keysD seed dues p)) (r := false) ⟨l1, _, rfl, hl1'', RdAll.ext (hE13.trans (hE4.trans hE5)) _ _ rd1⟩ ⟨l5, _, rfl, upd_same, rd5⟩ (keysD_good _ _ _) (keysD_good _ _ _) ?_ hun2 (by simp) ?_
      · have := keysD_depth seed dues p
        refine Nat.le_trans (Nat.min_le_right _ _) ?_
        simp only [PyData.depth]
        lia
      generalize upd H4 l5 (.list (fv ++ ((made dues p).map fun d => V.str (nm d) (t d)) ++ lv)) = H5 at hEall ⊢
      refine WTr_bool ?_
      refine iteF ?_
      refine W_allTrue_nilO ?_
      refine iteF ?_
      refine W_nil ?_
      refine contQ_next ?_
      have N5 := N.ext hEall
      have hks5 := hEall _ _ hks
      refine W_cons' ?_
      refine W_If ?_
      refine WT_And ?_
      refine W_allTrue_and ?_
      refine WT_plain ?_
      refine W_Name vk ?_
      refine WTr_list hks5 (by
        rw [List.length_map]
        have := List.length_filter_le (fun k => decide (dues[k]? = some p)) (List.range dues.length)
        rw [List.length_range] at this
        unfold marksTo
        lia) ?_
      by_cases q : marksTo dues dues.length p = []
      · rw [q]
        refine iteF ?_
        refine iteF ?_
        refine W_nil ?_
        refine contQ_next ?_
        exact h _ hEall
      · have e1 : (!(intsV (marksTo dues dues.length p)).isEmpty) = true := by
          cases hq : marksTo dues dues.length p with
          | nil => exact absurd hq q
          | cons a b => rfl
        rw [e1]
        refine iteT ?_
        refine W_allTrue_and ?_
        refine WT_Compare ?_
        refine W_Subscript ?_
        refine W_Name vo ?_
        refine W_str fun tk _ => ?_
        have hga : getK (kvs ++ kids A p (made dues p) ++ atK L p (marksTo dues dues.length p)) (.inr "at") = some (.ref (L p)) := by
          rw [getK_app, getK_app, N5.head.noAt, getK_kidsIs (fun d => nm_at)]
          unfold atK
          rw [if_neg q]; rfl
        refine WSub_dict N5.at_ (key := .inr "at") (by simp [isKV]) hga ?_
        refine W_Name vk ?_
        refine WCmp_neD (da := .list (pyI (marksTo dues dues.length p))) (db := .list (pyI (marksTo dues dues.length p))) (r := false) ⟨L p, _, rfl, N5.mks q, rdI _⟩ ⟨ks, _, rfl, hks5, rdI _⟩ (goodAllI _) (goodAllI _) ?_ hun2 (by simp) ?_
        · have := depthI (marksTo dues dues.length p)
          refine Nat.le_trans (Nat.min_le_right _ _) ?_
          simp only [PyData.depth]
          lia
        refine WTr_bool ?_
        refine iteF ?_
        refine iteF ?_
        refine W_nil ?_
        refine contQ_next ?_
        exact h _ hEall
end
section
theorem Head.ringAt {H : AHeap} {R : List Addr} {seed m r d : Nat} {kvs : List (Key × V)} (h : Head H R seed m [r] kvs) (hd : d ∈ there seed r) : ∃ v, getK kvs (.inr (nm d)) = some v ∧ RingV H R seed m r d v := by
  obtain ⟨vs, h1, h2, h4⟩ : ∃ vs : List V, vs.length = (there seed r).length ∧ kvs = (.inr "is", .int (r : Int)) :: ((there seed r).zip vs).map (fun q => (.inr (nm q.1), q.2)) ∧ ∀ (i d : Nat) v, (there seed r)[i]? = some d → vs[i]? = some v → RingV H R seed m r d v := h
  obtain ⟨i, hi⟩ := List.mem_iff_getElem?.mp hd
  have hil : i < vs.length := by rw [h1]; exact (List.getElem?_eq_some_iff.mp hi).1
  have hvi : vs[i]? = some vs[i] := List.getElem?_eq_getElem hil
  refine ⟨vs[i], ?_, h4 i d _ hi hvi⟩
  rw [h2]
  show (if (Sum.inr "is" : Key) = Sum.inr (nm d) then _ else _) = _
  rw [if_neg (fun z => nm_is (Sum.inr.inj z).symm), ← hvi]
  exact (getK_ring h1 (there_lt hd).1 (fun e he => (there_lt he).1) there_nodup).1 i hi
theorem L4.leadsL_ok {k : Wk} {m : Loc} {H : AHeap} {S8 : Stmt} {C fI fG fA fK fD fR fL x nt ra dA gA pt : Addr} {t : Nat → Tok} {R : List Addr} {seed mm : Nat} {dues : List (List Nat)} {A L : List Nat → Addr} {p : List Nat} {kvs : List (Key × V)} {ep : Nat} {Q : Flow → Loc → AHeap → Prop} [sv : SEnv k (fnScope L4.fLaw) (cellNames (fnScope L4.fLaw).names)]
    (h8 : S8 = stm L4.whB 8) (D : L4.Defs k.c C fI fG fA fK fD fR fL) (hA : Room k.A) (hA' : k.A.depth ≤ 500 ∧ k.A.units ≤ 1500) (hroom : Roomy k) (hm0 : 0 < mm) (hmm : mm ≤ 9)
    (V0 : L4.LV x nt ra dA gA seed mm m) (hnt : H nt = some (.list (nmL t))) (N : L4.ND R seed mm dues A L p kvs ep H) (hp9 : ∀ r, p = [r] → r < 9) (hpl : p.length ≤ 100)
    (hgs : ∀ r' g, R[r']? = some g → ∃ kv ep, H g = some (.dict kv ep) ∧ getK kv (.inr "is") = some (.int (r' : Nat)))
    (vo : m "one" = some (.ref (A p))) (vp : m "path" = some (.ref pt)) (hpt : H pt = some (.tup (intsV p))) (vt : ∀ r, p = [r] → ∃ th, m "there" = some (.ref th) ∧ H th = some (.list (intsV (there seed r))))
    (h : ∀ m' H', Ext H H' → (∀ y : Str, y ≠ "d" → m' y = m y) → Q .next m' H') : W k (exec S8 k.env) m H Q := by
  subst h8
  have hh : k.A.handled = none := hA.handled
  have hz : sizeLine = _ := sizeLine_eq
  obtain ⟨foK, fdK, hfK, hdK⟩ := D.kind.obj
  obtain ⟨foL, fdL, hfL, hdL⟩ := D.lead.obj
  refine W_If ?_
  refine WT_Compare ?_
  refine W_CallB D.blt.len (kindS rfl) ?_
  refine WItems_cons ?_
  refine W_Name vp ?_
  refine WItems_nil ?_
  refine WCall_lenT hpt (by rw [List.length_map]; lia) ?_
  refine W_int ?_
  refine WCmp_eq ?_
  refine WTr_bool ?_
  rw [List.length_map]
  refine ite_dec (fun h1 => ?_) (fun h1 => ?_)
  case refine_2 =>
    refine W_nil ?_
    exact h m H (Ext.refl _) fun _ _ => rfl
  obtain ⟨r, rfl⟩ : ∃ r, p = [r] := by
    match p, h1 with
    | [r], _ => exact ⟨r, rfl⟩
    | [], h1 => simp at h1
    | _ :: _ :: _, h1 => simp at h1; lia
  have hr9 := hp9 r rfl
  obtain ⟨th, vth, hth⟩ := vt r rfl
  refine W_cons' ?_
  refine W_For ?h ?hs
  case hs => intro y; rfl
  refine W_Name vth ?_
  refine ⟨_, _, _, fun i m' H' => (∀ y : Str, y ≠ "d" → m' y = m y) ∧ Ext H H', WIter_list hh hth, ⟨fun _ _ => rfl, Ext.refl _⟩, fun i m' H' q => q.2 _ _ hth, ?_, ?_⟩
  · intro i v m' H' hi hR hI
    obtain ⟨hoff, hE⟩ := hI
    rw [List.length_map] at hi
    obtain ⟨d, hd⟩ : ∃ d, (there seed r)[i]? = some d := ⟨_, List.getElem?_eq_getElem hi⟩
    rw [List.getElem?_map, hd] at hR
    cases hR
    have hdm := List.mem_of_getElem? hd
    obtain ⟨hd3, hk2⟩ := there_lt hdm
    have N1 := N.ext hE
    obtain ⟨v, hgv, hV⟩ := N1.head.ringAt hdm
    have hgv' : getK (kvs ++ kids A [r] (made dues [r]) ++ atK L [r] (marksTo dues dues.length [r])) (.inr (nm d)) = some v := by
      rw [getK_app, getK_app, hgv]
    refine WAs_Name ?s0 ?_
    case s0 => exact stor rfl
    refine W_hide fun QL hQL => ?_
    have hoff1 : ∀ y : Str, y ≠ "d" → setL m' "d" (.int (d : Int)) y = m y := fun y y1 => by rw [setL_off y1]; exact hoff y y1
    have vd : setL m' "d" (.int (d : Int)) "d" = some (.int (d : Int)) := setL_same
    have V1 : L4.LV x nt ra dA gA seed mm (setL m' "d" (.int (d : Int))) := V0.of fun y hy => hoff1 y (fun e => by subst e; revert hy; decide)
    have vo1 : setL m' "d" (.int (d : Int)) "one" = some (.ref (A [r])) := by rw [hoff1 _ (by decide)]; exact vo
    have vp1 : setL m' "d" (.int (d : Int)) "path" = some (.ref pt) := by rw [hoff1 _ (by decide)]; exact vp
    generalize setL m' "d" (.int (d : Int)) = m1 at hoff1 vd V1 vo1 vp1 ⊢
    have hpt1 := hE _ _ hpt
    have hmod9 : (3 * r + d) % mm < 9 := Nat.lt_of_lt_of_le (Nat.mod_lt _ hm0) hmm
    refine W_cons' ?_
    refine W_If ?_
    refine WT_Not ?_
    refine WT_plain ?_
    refine W_CallF D.gLead (kindS rfl) hfL hdL ?_
    refine WItems_cons ?_
    refine W_Subscript ?_
    refine W_Name vo1 ?_
    refine W_Subscript ?_
    refine W_Name V1.vnm ?_
    refine W_Name vd ?_
    refine WSub_list (v := .str (nm d) (t d)) (hE _ _ hnt) (by lia) (by lia) (by rw [Int.toNat_natCast]; exact nmL_at hd3) ?_
    refine WSub_dict N1.at_ (key := .inr (nm d)) (by simp [isKV]) hgv' ?_
    refine WItems_cons ?_
    refine W_CallF D.gKind (kindS rfl) hfK hdK ?_
    refine WItems_cons ?_
    refine W_Name V1.vseed ?_
    refine WItems_cons ?_
    refine W_Subscript ?_
    refine W_Name vp1 ?_
    refine W_int ?_
    refine WSub_tup (j := 0) (v := .int (r : Int)) hpt1 (by decide) (by decide) (seqIndex_nat' (i := 0) (by simp)) rfl ?_
    refine WItems_cons ?_
    refine W_Name vd ?_
    refine WItems_nil ?_
    refine FnV.mono (L4.kind_ok D.blt D.kind hA (by lia) (by lia)) ?_ (fun _ _ _ q => q.elim)
    intro v1 H5 hv1
    obtain ⟨rfl, rfl⟩ := hv1
    refine WItems_cons ?_
    refine W_BinOp ?_
    refine W_BinOp ?_
    refine W_BinOp ?_
    refine W_int ?_
    refine W_Subscript ?_
    refine W_Name vp1 ?_
    refine W_int ?_
    refine WSub_tup (j := 0) (v := .int (r : Int)) hpt1 (by decide) (by decide) (seqIndex_nat' (i := 0) (by simp)) rfl ?_
    refine WBin_mul (small_mul (by lia)) ?_
    refine W_Name vd ?_
    refine WBin_add ?_
    refine W_Name V1.vm ?_
    refine WBin_mod hroom (by lia) ?_
    rw [show Int.fmod (3 * (r : Int) + (d : Int)) (mm : Int) = (((3 * r + d) % mm : Nat) : Int) by rw [Int.fmod_eq_emod_of_nonneg _ (by lia)]; push_cast; rfl]
    refine WItems_nil ?_
    refine FnV.mono (L4.leads_ok D.blt D.b4.type D.b4.int D.lead hA ⟨by lia, by lia⟩ hV (fun g hg => ?_)) ?_ (fun _ _ _ q => q.elim)
    · obtain ⟨kv, ep1, g1, g2⟩ := hgs _ g hg
      exact ⟨kv, ep1, hE _ _ g1, g2⟩
    intro u H6 hu
    obtain ⟨rfl, hE6⟩ := hu
    refine WTr_bool ?_
    refine iteF ?_
    refine W_nil ?_
    refine contQ_next ?_
    refine W_nil ?_
    refine hQL _ _ _ ?_
    refine loopQ_next ?_
    exact ⟨hoff1, hE.trans hE6⟩
  · intro m' H' hI
    obtain ⟨hoff, hE⟩ := hI
    refine contQ_next ?_
    refine W_nil ?_
    exact h m' H' hE hoff
end
section
theorem EntryAt.upd {H : AHeap} {A : List Nat → Addr} {p : List Nat} {v : V} {wA : Addr} {xs : List V} {y : AObj} (h : EntryAt H A p v) (hw : H wA = some (.list xs)) : EntryAt (upd H wA y) A p v := by
  refine Mine.hideG fun GG back => ?_
  obtain ⟨e, pt, h1, h2, h3⟩ := h
  refine back ?_
  clear back
  exact ⟨e, pt, h1, upd_ne (fun q => by rw [q, hw] at h2; cases h2) h2, upd_ne (fun q => by rw [q, hw] at h3; cases h3) h3⟩
theorem WorkAt.upd {H : AHeap} {A : List Nat → Addr} {es : List (List Nat)} {vs : List V} {wA : Addr} {xs : List V} {y : AObj} (h : WorkAt H A es vs) (hw : H wA = some (.list xs)) : WorkAt (upd H wA y) A es vs := ⟨h.len, fun i p v h1 h2 => (h.at_ i p v h1 h2).upd hw⟩
theorem Forest.way {H : AHeap} {R : List Addr} {seed m : Nat} {dues : List (List Nat)} {A : List Nat → Addr} (F : Forest H R seed m dues A) {p : List Nat} {d : Nat} (hp : p ≠ []) (hd : d ∈ made dues p) : Way seed m (p ++ [d]) := by
  refine Mine.hideG fun GG back => ?_
  obtain ⟨w, h1, u, h2⟩ := mem_made.mp hd
  obtain ⟨r, t, rfl, h3, h4, h5⟩ := F.good w h1
  refine back ?_
  clear back
  cases p with
  | nil => exact absurd rfl hp
  | cons x p =>
    have h2' : x :: (p ++ [d] ++ u) = r :: t := by simpa using h2
    injection h2' with e1 e2
    refine ⟨x, p ++ [d], rfl, e1 ▸ h3, fun y hy => h4 y (by rw [← e2]; exact List.mem_append_left _ hy), fun y v hv => ?_⟩
    rw [e1]
    exact h5 y (v ++ u) (by rw [← e2, hv]; rfl)
theorem L4.push_ok {k : Wk} {m : Loc} {H H0 : AHeap} {S9 : Stmt} {C fI fG fA fK fD fR fL x nt ra dA gA pt mA wA : Addr} {t : Nat → Tok} {R : List Addr} {seed mm : Nat} {dues es : List (List Nat)} {A L : List Nat → Addr} {p : List Nat} {kvs : List (Key × V)} {ep : Nat} {vs : List V} {Q : Flow → Loc → AHeap → Prop} [sv : SEnv k (fnScope L4.fLaw) (cellNames (fnScope L4.fLaw).names)]
    (h9 : S9 = stm L4.whB 9) (D : L4.Defs k.c C fI fG fA fK fD fR fL) (hA : Room k.A)
    (V0 : L4.LV x nt ra dA gA seed mm m) (hnt : H nt = some (.list (nmL t))) (hnw : nt ≠ wA) (N : L4.ND R seed mm dues A L p kvs ep H) (F : Forest H0 R seed mm dues A) (hpn : p ≠ []) (hpl : p.length ≤ 100)
    (vo : m "one" = some (.ref (A p))) (vp : m "path" = some (.ref pt)) (hpt : H pt = some (.tup (intsV p))) (vm : m "made" = some (.ref mA)) (hm : H mA = some (.list (intsV (made dues p)))) (hmw : mA ≠ wA)
    (vw : m "work" = some (.ref wA)) (hw : H wA = some (.list vs)) (W0 : WorkAt H A es vs) (hes : es.length ≤ 100000)
    (h : ∀ m' H' vs', ExtBut wA H H' → (∀ y : Str, y ≠ "d" → m' y = m y) → H' wA = some (.list vs') → WorkAt H' A (es ++ (made dues p).map fun d => p ++ [d]) vs' → Q .next m' H') : W k (exec S9 k.env) m H Q := by
  subst h9
  have hh : k.A.handled = none := hA.handled
  have hz : sizeLine = _ := sizeLine_eq
  have hd3 : ∀ d ∈ made dues p, d < 3 := fun d hd => (made_lt F hpn hd).1
  have hml := nodup_lt3 (made_nodup dues p) hd3
  have hNw : A p ≠ wA := fun e => by have := N.at_; rw [e, hw] at this; cases this
  have hpw : pt ≠ wA := fun e => by rw [e, hw] at hpt; cases hpt
  refine W_For ?h ?hs
  case hs => intro y; rfl
  refine W_Name vm ?_
  refine ⟨_, _, _, fun i m' H' => (∀ y : Str, y ≠ "d" → m' y = m y) ∧ ExtBut wA H H' ∧ ∃ vs', H' wA = some (.list vs') ∧ WorkAt H' A (es ++ ((made dues p).take i).map fun d => p ++ [d]) vs', WIter_list hh hm, ⟨fun _ _ => rfl, ExtBut.refl _ _, vs, hw, by simpa using W0⟩, fun i m' H' q => q.2.1 _ _ hmw hm, ?_, ?_⟩
  · intro i v m' H' hi hR hI
    refine Mine.hideG fun GG back => ?_
    obtain ⟨hoff, hB, vs', hw', W1⟩ := hI
    refine back ?_
    clear back
    rw [List.length_map] at hi
    obtain ⟨d, hd⟩ : ∃ d, (made dues p)[i]? = some d := ⟨_, List.getElem?_eq_getElem hi⟩
    rw [List.getElem?_map, hd] at hR
    cases hR
    have hdm := List.mem_of_getElem? hd
    have hd3' := hd3 d hdm
    have hN1 := hB _ _ hNw N.at_
    have hgv : getK (kvs ++ kids A p (made dues p) ++ atK L p (marksTo dues dues.length p)) (.inr (nm d)) = some (.ref (A (p ++ [d]))) := by
      rw [getK_app, getK_app, N.head.lacks hd3' (F.way hpn hdm), getK_kids hd3' hd3, if_pos hdm]
    have hpt1 := hB _ _ hpw hpt
    have hnt1 := hB _ _ hnw hnt
    refine WAs_Name ?s0 ?_
    case s0 => exact stor rfl
    refine W_hide fun QL hQL => ?_
    have hoff1 : ∀ y : Str, y ≠ "d" → setL m' "d" (.int (d : Int)) y = m y := fun y y1 => by rw [setL_off y1]; exact hoff y y1
    have vd : setL m' "d" (.int (d : Int)) "d" = some (.int (d : Int)) := setL_same
    have V1 : L4.LV x nt ra dA gA seed mm (setL m' "d" (.int (d : Int))) := V0.of fun y hy => hoff1 y (fun e => by subst e; revert hy; decide)
    have vo1 : setL m' "d" (.int (d : Int)) "one" = some (.ref (A p)) := by rw [hoff1 _ (by decide)]; exact vo
    have vp1 : setL m' "d" (.int (d : Int)) "path" = some (.ref pt) := by rw [hoff1 _ (by decide)]; exact vp
    have vw1 : setL m' "d" (.int (d : Int)) "work" = some (.ref wA) := by rw [hoff1 _ (by decide)]; exact vw
    generalize setL m' "d" (.int (d : Int)) = m1 at hoff1 vd V1 vo1 vp1 vw1 ⊢
    refine W_cons' ?_
    refine W_ExprStmt ?_
    refine W_CallM' PySem.F.plainAttrs_list PySem.F.slot_list_append PySem.F.type_list_append ?_
    refine W_Name vw1 ?_
    refine ⟨onList hw', ?_⟩
    refine WItems_cons ?_
    refine W_Tuple ?_
    refine WItems_cons ?_
    refine W_BinOp ?_
    refine W_Name vp1 ?_
    refine W_Tuple ?_
    refine WItems_cons ?_
    refine W_Name vd ?_
    refine WItems_nil ⟨by simp [hz], fun t1 ht1 => ?_⟩
    refine WBin_addT (upd_fresh ht1 hpt1) upd_same (by simp [hz]; lia) fun q H3 hE3 hq => ?_
    have hE := (Ext.upd (x := AObj.tup [V.int (d : Int)]) ht1).trans hE3
    refine WItems_cons ?_
    refine W_Subscript ?_
    refine W_Name vo1 ?_
    refine W_Subscript ?_
    refine W_Name V1.vnm ?_
    refine W_Name vd ?_
    refine WSub_list (v := .str (nm d) (t d)) (hE _ _ hnt1) (by lia) (by lia) (by rw [Int.toNat_natCast]; exact nmL_at hd3') ?_
    refine WSub_dict (hE _ _ hN1) (key := .inr (nm d)) (by simp [isKV]) hgv ?_
    refine WItems_nil ⟨by simp [hz], fun e he => ?_⟩
    refine WItems_nil ?_
    have hw3 := upd_fresh (x := AObj.tup [V.ref q, .ref (A (p ++ [d]))]) he (hE _ _ hw')
    have hvl : vs'.length ≤ 100003 := by
      rw [← W1.len, List.length_append, List.length_map, List.length_take]
      lia
    refine WCall_append hw3 (by rw [hz]; lia) ?_
    refine contQ_next ?_
    refine W_nil ?_
    refine hQL _ _ _ ?_
    refine loopQ_next ?_
    refine ⟨hoff1, (hB.trans (ExtBut.of (hE.trans (Ext.upd he)))).put, _, upd_same, ?_⟩
    have htk : (made dues p).take (i + 1) = (made dues p).take i ++ [d] := by rw [List.take_add_one, hd]; rfl
    rw [htk, List.map_append, ← List.append_assoc]
    refine WorkAt.upd ((W1.ext (hE.trans (Ext.upd he))).snoc ⟨e, q, rfl, upd_same, ?_⟩) hw3
    rw [upd_fresh he hq]
    simp
  · intro m' H' hI
    refine Mine.hideG fun GG back => ?_
    obtain ⟨hoff, hB, vs', hw', W1⟩ := hI
    refine back ?_
    clear back
    rw [List.length_map, List.take_length] at W1
    exact h m' H' vs' hB hoff hw' W1
end
section
theorem delA_Ext {p : Addr} {H : AHeap} : Ext (delA p H) H := fun b y e => by
  unfold delA at e
  split at e
  · cases e
  · exact e
theorem delA_extBut {p : Addr} {H H' : AHeap} (h : ExtBut p H H') : Ext (delA p H) (delA p H') := fun b y e => by
  unfold delA at e ⊢
  split at e
  · cases e
  · rename_i n; rw [if_neg n]; exact h b y n e
theorem delA_ne {p b : Addr} {H : AHeap} {y : AObj} (e : delA p H b = some y) : b ≠ p := fun q => by
  unfold delA at e
  rw [if_pos q] at e; cases e
theorem delA_upd' {p : Addr} {H : AHeap} {x : AObj} : delA p (upd H p x) = delA p H := by
  funext b
  unfold delA upd
  by_cases q : b = p <;> simp [q]
theorem WorkAt.pop {H : AHeap} {A : List Nat → Addr} {es : List (List Nat)} {vs : List V} {p : List Nat} {v : V} (h : WorkAt H A (es ++ [p]) (vs ++ [v])) : WorkAt H A es vs ∧ EntryAt H A p v := by
  have hl : es.length = vs.length := by have := h.len; simpa using this
  refine ⟨⟨hl, fun i q u h1 h2 => ?_⟩, ?_⟩
  · have hi := (List.getElem?_eq_some_iff.mp h1).1
    exact h.at_ i q u (by rw [List.getElem?_append_left hi]; exact h1) (by rw [List.getElem?_append_left (by lia)]; exact h2)
  · exact h.at_ es.length p v (by simp) (by rw [hl]; simp)
structure L4.WF (dA nt wA : Addr) (t : Nat → Tok) (R : List Addr) (seed mm : Nat) (dues : List (List Nat)) (A L : List Nat → Addr) (dr : List Addr) (H : AHeap) : Prop where
  du : L4.DU dA dues dr (delA wA H)
  hnt : delA wA H nt = some (.list (nmL t))
  nodes : ∀ p, IsNode mm dues p → ∃ kvs ep, L4.ND R seed mm dues A L p kvs ep (delA wA H)
theorem L4.WF.but {dA nt wA : Addr} {t : Nat → Tok} {R : List Addr} {seed mm : Nat} {dues : List (List Nat)} {A L : List Nat → Addr} {dr : List Addr} {H H' : AHeap} (h : L4.WF dA nt wA t R seed mm dues A L dr H) (hE : ExtBut wA H H') : L4.WF dA nt wA t R seed mm dues A L dr H' :=
  ⟨h.du.ext (delA_extBut hE), delA_extBut hE _ _ h.hnt, fun p hp => (by obtain ⟨kvs, ep, N⟩ := h.nodes p hp; exact ⟨kvs, ep, N.ext (delA_extBut hE)⟩)⟩
structure L4.WI (x nt ra dA gA wA seed mm : Nat) (t : Nat → Tok) (R : List Addr) (dues : List (List Nat)) (A L : List Nat → Addr) (dr : List Addr) (j : Nat) (m' : Loc) (H : AHeap) : Prop where
  v : L4.LV x nt ra dA gA seed mm m'
  vw : m' "work" = some (.ref wA)
  f : L4.WF dA nt wA t R seed mm dues A L dr H
  st : ∃ es vs, costs dues es = j ∧ H wA = some (.list vs) ∧ WorkAt H A es vs ∧ ∀ p ∈ es, IsNode mm dues p
  le : j ≤ 30000
theorem costs_ring {dues : List (List Nat)} {mm : Nat} (hm : mm ≤ 9) (hl : dues.length ≤ 64) (hw : ∀ w ∈ dues, w.length ≤ 41) : costs dues ((List.range mm).map fun r => [r]) ≤ 30000 := by
  have aux : ∀ l : List (List Nat), costs dues l ≤ l.length * 2625 := fun l => by
    induction l with
    | nil => simp [costs]
    | cons p l ih =>
      have h1 := cost_le (p := p) hw
      have h2 : dues.length * 41 ≤ 64 * 41 := Nat.mul_le_mul_right _ hl
      have e : costs dues (p :: l) = 1 + cost dues p + costs dues l := by simp [costs]
      rw [e, List.length_cons, Nat.add_mul]
      lia
  have := aux ((List.range mm).map fun r => [r])
  rw [List.length_map, List.length_range] at this
  have h3 : mm * 2625 ≤ 9 * 2625 := Nat.mul_le_mul_right _ hm
  lia
theorem L4.verify_ok {k : Wk} {m : Loc} {H H0 : AHeap} {S10 : Stmt} {C fI fG fA fK fD fR fL x nt ra dA gA wA : Addr} {t : Nat → Tok} {R : List Addr} {seed mm : Nat} {dues : List (List Nat)} {A L : List Nat → Addr} {dr : List Addr} {Q : Flow → Loc → AHeap → Prop} [sv : SEnv k (fnScope L4.fLaw) (cellNames (fnScope L4.fLaw).names)]
    (h10 : S10 = stm (fnBody L4.fLaw) 10) (D : L4.Defs k.c C fI fG fA fK fD fR fL) (hA : Room k.A) (hA' : k.A.depth ≤ 500 ∧ k.A.units ≤ 1500) (hroom : Roomy k) (hm0 : 0 < mm) (hmm : mm ≤ 9)
    (F : Forest H0 R seed mm dues A) (hl64 : dues.length ≤ 64) (hw41 : ∀ w ∈ dues, w.length ≤ 41) {j0 : Nat} (I0 : L4.WI x nt ra dA gA wA seed mm t R dues A L dr j0 m H)
    (h : ∀ m' H', Q .next m' H') : W k (exec S10 k.env) m H Q := by
  subst h10
  have hh : k.A.handled = none := hA.handled
  have hz : sizeLine = _ := sizeLine_eq
  refine W_While (fun j m' H' => L4.WI x nt ra dA gA wA seed mm t R dues A L dr j m' H') j0 I0 ?_
  intro j m1 H1 I
  refine Mine.hideG fun GG back => ?_
  obtain ⟨VV, vw, fF, ⟨es, vs, hj, hw, W1, hes⟩, hle⟩ := I
  refine back ?_
  clear back
  have hel : es.length ≤ 30000 := Nat.le_trans (costs_len (dues := dues)) (by lia)
  refine WT_plain ?_
  refine W_Name vw ?_
  refine WTr_list hw (by rw [← W1.len]; lia) ?_
  rcases List.eq_nil_or_concat vs with rfl | ⟨vs0, v, rfl⟩
  · refine iteF ?_
    exact h m1 H1
  have e1 : (!(vs0.concat v).isEmpty) = true := by simp
  rw [e1]
  refine iteT ?_
  rw [List.concat_eq_append] at hw W1
  obtain ⟨es0, p, rfl⟩ : ∃ es0 p, es = es0 ++ [p] := by
    rcases List.eq_nil_or_concat es with rfl | ⟨es0, p, rfl⟩
    · have := W1.len; simp at this
    · exact ⟨es0, p, List.concat_eq_append⟩
  refine Mine.hideG fun GG back => ?_
  obtain ⟨W0, e, pt, rfl, he, hpt⟩ := W1.pop
  refine back ?_
  clear back
  have hp : IsNode mm dues p := hes p (by simp)
  have hpn := hp.ne_nil
  have hpl : p.length ≤ 41 := by
    rcases hp with ⟨r, _, rfl⟩ | ⟨_, w, h1, h2⟩
    · simp
    · exact Nat.le_trans h2.length_le (hw41 w h1)
  have hp9 : ∀ r, p = [r] → r < 9 := fun r hr => by
    subst hr
    rcases hp with ⟨r', h1, h2⟩ | ⟨h1, _⟩
    · cases h2; lia
    · simp at h1
  have hew : e ≠ wA := fun q => by rw [q, hw] at he; cases he
  have hpw : pt ≠ wA := fun q => by rw [q, hw] at hpt; cases hpt
  have fF2 : L4.WF dA nt wA t R seed mm dues A L dr (upd H1 wA (.list vs0)) := ⟨by rw [delA_upd']; exact fF.du, by rw [delA_upd']; exact fF.hnt, fun q hq => by rw [delA_upd']; exact fF.nodes q hq⟩
  have he2 : upd H1 wA (.list vs0) e = some (.tup [.ref pt, .ref (A p)]) := upd_ne hew he
  have hpt2 : upd H1 wA (.list vs0) pt = some (.tup (intsV p)) := upd_ne hpw hpt
  have W2 : WorkAt (upd H1 wA (.list vs0)) A es0 vs0 := W0.upd hw
  have hw2 : upd H1 wA (.list vs0) wA = some (.list vs0) := upd_same
  have hvl : vs0.length < 16777216 := by
    rw [← W0.len]
    rw [List.length_append, List.length_singleton] at hel
    lia
  refine W_hide fun QL hQL => ?_
  refine W_cons' ?_
  refine W_AssignTup ?_ ?s0 ?s1
  case s0 => rfl
  case s1 => rfl
  refine W_CallM' PySem.F.plainAttrs_list PySem.F.slot_list_pop PySem.F.type_list_pop ?_
  refine W_Name vw ?_
  refine ⟨onList hw, ?_⟩
  refine WItems_nil ?_
  refine WCall_pop hw (by rw [hz]; exact hvl) ?_
  generalize upd H1 wA (.list vs0) = H2 at fF2 he2 hpt2 W2 hw2 ⊢
  refine WAs_Tup hh he2 rfl (by rfl) (by simp [assignEach]) ?_
  refine WAsL_cons ?_
  refine WAs_Name ?s0 ?_
  case s0 => exact stor rfl
  refine WAsL_cons ?_
  refine WAs_Name ?s0 ?_
  case s0 => exact stor rfl
  refine WAsL_nil ?_
  refine contQ_next ?_
  have V2 : L4.LV x nt ra dA gA seed mm (setL (setL m1 "path" (.ref pt)) "one" (.ref (A p))) := VV.of fun y hy => by rw [setL_off (fun e => by subst e; revert hy; decide), setL_off (fun e => by subst e; revert hy; decide)]
  have vp2 : setL (setL m1 "path" (.ref pt)) "one" (.ref (A p)) "path" = some (.ref pt) := by walk_at "lk"
  have vo2 : setL (setL m1 "path" (.ref pt)) "one" (.ref (A p)) "one" = some (.ref (A p)) := setL_same
  have vw2 : setL (setL m1 "path" (.ref pt)) "one" (.ref (A p)) "work" = some (.ref wA) := by walk_at "lk"
  generalize setL (setL m1 "path" (.ref pt)) "one" (.ref (A p)) = m2 at V2 vp2 vo2 vw2 ⊢
  -- made
  refine L4.made_ok (dues := dues) (dr := dr) (p := p) ?e1 ?e2 D hA hA' (fF2.du.ext delA_Ext) hl64 (fun w hw => Nat.le_trans (hw41 w hw) (by decide)) (by lia) V2.vdue vp2 hpt2 ?_
  case e1 => rfl
  case e2 => rfl
  intro mA m3 H3 hE3 hmA0 hmA vm3 hoff3
  have hmw : mA ≠ wA := fun q => by rw [q, hw2] at hmA0; cases hmA0
  have V3 : L4.LV x nt ra dA gA seed mm m3 := V2.of fun y hy => hoff3 y (fun e => by subst e; revert hy; decide) (fun e => by subst e; revert hy; decide)
  have vp3 : m3 "path" = some (.ref pt) := by rw [hoff3 _ (by decide) (by decide)]; exact vp2
  have vo3 : m3 "one" = some (.ref (A p)) := by rw [hoff3 _ (by decide) (by decide)]; exact vo2
  have vw3 : m3 "work" = some (.ref wA) := by rw [hoff3 _ (by decide) (by decide)]; exact vw2
  clear V2 vp2 vo2 vw2 hoff3
  have fF3 := fF2.but (ExtBut.of hE3)
  -- marks
  refine W_cons' ?_
  refine L4.marksV_ok (dues := dues) (dr := dr) (p := p) ?e3 D hA hA' (fF3.du.ext delA_Ext) hl64 V3.vdue vp3 (hE3 _ _ hpt2) ?_
  case e3 => rfl
  intro ks H4 hE4 hks
  refine contQ_next ?_
  have V4 : L4.LV x nt ra dA gA seed mm (setL m3 "marks" (.ref ks)) := V3.of fun y hy => setL_off (fun e => by subst e; revert hy; decide)
  have vp4 : setL m3 "marks" (.ref ks) "path" = some (.ref pt) := by walk_at "lk"
  have vo4 : setL m3 "marks" (.ref ks) "one" = some (.ref (A p)) := by walk_at "lk"
  have vw4 : setL m3 "marks" (.ref ks) "work" = some (.ref wA) := by walk_at "lk"
  have vm4 : setL m3 "marks" (.ref ks) "made" = some (.ref mA) := by walk_at "lk"
  have vk4 : setL m3 "marks" (.ref ks) "marks" = some (.ref ks) := setL_same
  generalize setL m3 "marks" (.ref ks) = m4 at V4 vp4 vo4 vw4 vm4 vk4 ⊢
  clear V3 vp3 vo3 vw3 vm3
  have hE24 := hE3.trans hE4
  have fF4 := fF2.but (ExtBut.of hE24)
  have hmA4 := hE4 _ _ hmA
  -- first
  refine L4.first_ok (t := t) (p := p) ?e4 ?e5 D hA hA' V4 (delA_Ext _ _ fF4.hnt) vp4 (hE24 _ _ hpt2) hp9 (by lia) ?_
  case e4 => rfl
  case e5 => rfl
  intro fA' m5 H5 fv hE5 vf5 hf5 hfv hfl hth hoff5
  have V5 : L4.LV x nt ra dA gA seed mm m5 := V4.of fun y hy => hoff5 y (fun e => by subst e; revert hy; decide) (fun e => by subst e; revert hy; decide)
  have vp5 : m5 "path" = some (.ref pt) := by rw [hoff5 _ (by decide) (by decide)]; exact vp4
  have vo5 : m5 "one" = some (.ref (A p)) := by rw [hoff5 _ (by decide) (by decide)]; exact vo4
  have vw5 : m5 "work" = some (.ref wA) := by rw [hoff5 _ (by decide) (by decide)]; exact vw4
  have vm5 : m5 "made" = some (.ref mA) := by rw [hoff5 _ (by decide) (by decide)]; exact vm4
  have vk5 : m5 "marks" = some (.ref ks) := by rw [hoff5 _ (by decide) (by decide)]; exact vk4
  clear V4 vp4 vo4 vw4 vm4 vk4 hoff5
  have hE25 := hE24.trans hE5
  have fF5 := fF2.but (ExtBut.of hE25)
  refine Mine.hideG fun GG back => ?_
  obtain ⟨kvs, ep, N5⟩ := fF5.nodes p hp
  refine back ?_
  clear back
  have hd3 : ∀ d ∈ made dues p, d < 3 := fun d hd => (made_lt F hpn hd).1
  -- the look
  refine L4.look_ok (t := t) (dues := dues) (p := p) (R := R) (A := A) (L := L) (kvs := kvs) (ep := ep) ?e6 ?e7 D hA hA' V5 (delA_Ext _ _ fF5.hnt) (N5.ext delA_Ext) hd3 hl64 vo5 vf5 hf5 hfv hfl vm5 (hE5 _ _ hmA4) vk5 (hE5 _ _ hks) ?_
  case e6 => rfl
  case e7 => rfl
  intro H6 hE6
  have hE26 := hE25.trans hE6
  have fF6 := fF2.but (ExtBut.of hE26)
  have N6 : L4.ND R seed mm dues A L p kvs ep H6 := (N5.ext delA_Ext).ext hE6
  have hgs : ∀ r' g, R[r']? = some g → ∃ kv ep, H6 g = some (.dict kv ep) ∧ getK kv (.inr "is") = some (.int (r' : Nat)) := fun r' g hg => by
    have hr : r' < mm := by rw [← F.len]; exact (List.getElem?_eq_some_iff.mp hg).1
    have hgA : g = A [r'] := by
      have := F.ring r' hr
      rw [hg] at this
      exact Option.some.inj this
    refine Mine.hideG fun GG back => ?_
    obtain ⟨kv, ep1, Nr⟩ := fF6.nodes [r'] (.inl ⟨r', hr, rfl⟩)
    refine back ?_
    clear back
    refine ⟨_, ep1, by rw [hgA]; exact delA_Ext _ _ Nr.at_, ?_⟩
    obtain ⟨vs1, _, hkv, _⟩ : ∃ vs : List V, vs.length = (there seed r').length ∧ kv = (.inr "is", .int (r' : Int)) :: ((there seed r').zip vs).map (fun q => (.inr (nm q.1), q.2)) ∧ True := by
      obtain ⟨vs1, a1, a2, _⟩ : ∃ vs : List V, vs.length = (there seed r').length ∧ kv = (.inr "is", .int (r' : Int)) :: ((there seed r').zip vs).map (fun q => (.inr (nm q.1), q.2)) ∧ ∀ (i d : Nat) v, (there seed r')[i]? = some d → vs[i]? = some v → RingV (delA wA H6) R seed mm r' d v := Nr.head
      exact ⟨vs1, a1, a2, trivial⟩
    rw [hkv]
    rfl
  -- the leads
  refine W_cons' ?_
  refine L4.leadsL_ok (t := t) (dues := dues) (p := p) (R := R) (A := A) (L := L) (kvs := kvs) (ep := ep) ?e8 D hA hA' hroom hm0 hmm V5 (delA_Ext _ _ fF6.hnt) N6 hp9 (by lia) hgs vo5 vp5 (hE26 _ _ hpt2) (fun r hr => ?_) ?_
  case e8 => rfl
  · refine Mine.hideG fun GG back => ?_
    obtain ⟨th, g1, g2⟩ := hth r hr
    refine back ?_
    clear back
    exact ⟨th, g1, hE6 _ _ g2⟩
  intro m7 H7 hE7 hoff7
  refine contQ_next ?_
  have V7 : L4.LV x nt ra dA gA seed mm m7 := V5.of fun y hy => hoff7 y (fun e => by subst e; revert hy; decide)
  have vp7 : m7 "path" = some (.ref pt) := by rw [hoff7 _ (by decide)]; exact vp5
  have vo7 : m7 "one" = some (.ref (A p)) := by rw [hoff7 _ (by decide)]; exact vo5
  have vw7 : m7 "work" = some (.ref wA) := by rw [hoff7 _ (by decide)]; exact vw5
  have vm7 : m7 "made" = some (.ref mA) := by rw [hoff7 _ (by decide)]; exact vm5
  have hE27 := hE26.trans hE7
  have fF7 := fF2.but (ExtBut.of hE27)
  -- the push
  refine W_cons' ?_
  refine L4.push_ok (t := t) (dues := dues) (p := p) (R := R) (A := A) (L := L) (kvs := kvs) (ep := ep) (es := es0) ?e9 D hA V7 (delA_Ext _ _ fF7.hnt) (delA_ne fF7.hnt) (N6.ext hE7) F hpn (by lia) vo7 vp7 (hE27 _ _ hpt2) vm7 ((hE5.trans (hE6.trans hE7)) _ _ hmA4) hmw vw7 (hE27 _ _ hw2) (W2.ext hE27) ?_ ?_
  case e9 => rfl
  · rw [List.length_append, List.length_singleton] at hel
    lia
  intro m8 H8 vs8 hB8 hoff8 hw8 W8
  refine contQ_next ?_
  refine W_nil ?_
  refine hQL _ _ _ ?_
  refine loopQ_next ?_
  have hlt := costs_step (dues := dues) (es := es0) (p := p)
  refine ⟨costs dues (es0 ++ (made dues p).map fun d => p ++ [d]), by lia, V7.of fun y hy => hoff8 y (fun e => by subst e; revert hy; decide), by rw [hoff8 _ (by decide)]; exact vw7, fF7.but hB8, ⟨_, vs8, rfl, hw8, W8, fun q hq => ?_⟩, by lia⟩
  rcases List.mem_append.mp hq with hq | hq
  · exact hes q (List.mem_append_left _ hq)
  · refine Mine.hideG fun GG back => ?_
    obtain ⟨d, hd, rfl⟩ := List.mem_map.mp hq
    refine back ?_
    clear back
    exact (made_lt F hpn hd).2
end
section
theorem L4.body_eq : fnBody L4.fLaw = [stm (fnBody L4.fLaw) 0, stm (fnBody L4.fLaw) 1, stm (fnBody L4.fLaw) 2, stm (fnBody L4.fLaw) 3, stm (fnBody L4.fLaw) 4, stm (fnBody L4.fLaw) 5, stm (fnBody L4.fLaw) 6, stm (fnBody L4.fLaw) 7, stm (fnBody L4.fLaw) 8, stm (fnBody L4.fLaw) 9, stm (fnBody L4.fLaw) 10, stm (fnBody L4.fLaw) 11] := rfl
theorem L4.start_ok {k : Wk} {m : Loc} {H : AHeap} {S0 S1 S2 S3 : Stmt} {rest : List Stmt} {C fI fG fA fK fD fR fL sa : Addr} {ns : List Int} {Q : Flow → Loc → AHeap → Prop} [sv : SEnv k (fnScope L4.fLaw) (cellNames (fnScope L4.fLaw).names)]
    (h0 : S0 = stm (fnBody L4.fLaw) 0) (h1 : S1 = stm (fnBody L4.fLaw) 1) (h2 : S2 = stm (fnBody L4.fLaw) 2) (h3 : S3 = stm (fnBody L4.fLaw) 3) (D : L4.Defs k.c C fI fG fA fK fD fR fL) (hA : Room k.A) (hA' : k.A.depth ≤ 500 ∧ k.A.units ≤ 1500) (hroom : Roomy k) (hs : m "script" = some (.ref sa)) (hsa : BaseL k.c sa (ns.map .int))
    (h : ∀ m' H' nt t seed mm x dx first, 0 < mm → mm ≤ 9 → m' "script" = some (.ref sa) → m' "names" = some (.ref nt) → m' "seed" = some (.int (seed : Nat)) → m' "m" = some (.int (mm : Nat)) → m' "nest" = some (.ref x) → H' nt = some (.list (nmL t)) → H' x = some (.inst C dx) → H' dx = some (.attrs (.ref first)) → H' first = some (.dict [] 0) → W k (execs rest k.env) m' H' Q) : W k (execs (S0 :: S1 :: S2 :: S3 :: rest) k.env) m H Q := by
  subst h0; subst h1; subst h2; subst h3
  have hh := hA.handled
  have hz : sizeLine = _ := sizeLine_eq
  refine W_cons' ?_
  refine W_Assign ?_ ?s0 ?s1
  case s0 => exact stor rfl
  case s1 => exact swaps_List
  refine W_List ?_
  refine WItems_cons ?_
  refine W_str fun t0 _ => ?_
  refine WItems_cons ?_
  refine W_str fun t1 _ => ?_
  refine WItems_cons ?_
  refine W_str fun t2 _ => ?_
  refine WItems_nil ⟨by simp [hz], fun nt hnt => ?_⟩
  refine contQ_next ?_
  refine W_cons' ?_
  refine W_Assign ?_ ?s0 ?s1
  case s0 => exact stor rfl
  case s1 => rfl
  refine W_CallB D.b4.abs (kindS rfl) ?_
  refine WItems_cons ?_
  refine W_CallB D.b4.sum (kindS rfl) ?_
  refine WItems_cons ?_
  refine W_Name (by walk_at "lk") ?_
  refine WItems_nil ?_
  refine WCall_sumB hh hsa ?_
  refine WItems_nil ?_
  refine WCall_abs ?_
  have e1 : (if ns.sum < 0 then -ns.sum else ns.sum) = (ns.sum.natAbs : Int) := by split <;> lia
  rw [e1]
  generalize ns.sum.natAbs = seed
  refine contQ_next ?_
  refine W_cons' ?_
  refine W_Assign ?_ ?s0 ?s1
  case s0 => exact stor rfl
  case s1 => rfl
  refine W_BinOp ?_
  refine W_int ?_
  refine W_BinOp ?_
  refine W_Name setL_same ?_
  refine W_int ?_
  refine WBin_mod hroom (by decide) ?_
  refine WBin_add ?_
  have e2 : (1 : Int) + Int.fmod (seed : Int) 9 = ((1 + seed % 9 : Nat) : Int) := by rw [Int.fmod_eq_emod_of_nonneg _ (by decide)]; push_cast; rfl
  rw [e2]
  have hm9 : 1 + seed % 9 ≤ 9 := by lia
  have hm0 : 0 < 1 + seed % 9 := by lia
  generalize 1 + seed % 9 = mm at hm9 hm0 ⊢
  refine contQ_next ?_
  refine W_cons' ?_
  refine W_Assign ?_ ?s0 ?s1
  case s0 => exact stor rfl
  case s1 => rfl
  refine W_NewCls D.nest.kls D.gC ?h5 fun x dx hx hdx hxd => ?_
  case h5 => exact kindS rfl
  refine Fn.mono (L4.init_ok D.nest.kls D.nest.init (A := k.A.under (.builtin "type.__call__" ⟨[.ref C], []⟩)) ?_ upd_same (upd_ne (fun q => hxd q.symm) upd_same) _ _ rfl rfl) ?_ fun _ _ _ q => q.elim
  · have hw : (Code.builtin "type.__call__" ⟨[.ref C], []⟩).weight ≤ 50 := (show (Code.builtin "type.__call__" ⟨[.ref 0], []⟩).weight ≤ 50 by decide)
    have hu : (Code.builtin "type.__call__" ⟨[.ref C], []⟩).cUnits ≤ 50 := (show (Code.builtin "type.__call__" ⟨[.ref 0], []⟩).cUnits ≤ 50 by decide)
    exact ⟨by show k.A.depth + _ ≤ 600; lia, by show k.A.units + _ ≤ 2000; lia, hA.handled⟩
  intro v H' hv
  obtain ⟨rfl, d, hd, rfl⟩ := hv
  refine ⟨rfl, ?_⟩
  refine contQ_next ?_
  simp only [upd_eq_none] at hx hdx hd
  refine h _ _ nt (fun d => if d = 0 then t0 else if d = 1 then t1 else t2) seed mm x dx d hm0 hm9 ?_ ?_ ?_ ?_ ?_ ?_ ?_ ?_ ?_
  · walk_at "lk"
  · walk_at "lk"
  · walk_at "lk"
  · walk_at "lk"
  · exact setL_same
  · exact upd_ne (Ne.symm hdx.1) (upd_ne (Ne.symm hd.2.2.1) (upd_ne (Ne.symm hx.1) (upd_ne (Ne.symm hdx.1) upd_same)))
  · exact upd_ne hxd (upd_ne (Ne.symm hd.1) upd_same)
  · exact upd_same
  · exact upd_ne hd.2.1 upd_same
theorem L4.law_ok {k : Wk} {m : Loc} {H : AHeap} {C fI fG fA fK fD fR fL sa : Addr} {ns : List Int} [sv : SEnv k (fnScope L4.fLaw) (cellNames (fnScope L4.fLaw).names)]
    (D : L4.Defs k.c C fI fG fA fK fD fR fL) (hA : Room k.A) (hA' : k.A.depth ≤ 500 ∧ k.A.units ≤ 1500) (hfr : k.env.frame = some k.env.locals) (hs : m "script" = some (.ref sa)) (hsa : BaseL k.c sa (ns.map .int)) (hl : ns.length ≤ 63) :
    W k (execs (fnBody L4.fLaw) k.env) m H (fun fl _ _ => flowV fl = .bool true) := by
  have hh := hA.handled
  have hz : sizeLine = _ := sizeLine_eq
  have hroom : Roomy k := Roomy.of hfr (by have := hA.depth; lia) D.blt.imp D.blt.tree rfl rfl
  obtain ⟨foR, fdR, hfR, hdR⟩ := D.rings.obj
  rw [L4.body_eq]
  generalize g0 : stm (fnBody L4.fLaw) 0 = S0
  generalize g1 : stm (fnBody L4.fLaw) 1 = S1
  generalize g2 : stm (fnBody L4.fLaw) 2 = S2
  generalize g3 : stm (fnBody L4.fLaw) 3 = S3
  generalize g7 : stm (fnBody L4.fLaw) 7 = S7
  generalize g8 : stm (fnBody L4.fLaw) 8 = S8
  generalize g9 : stm (fnBody L4.fLaw) 9 = S9
  generalize g10 : stm (fnBody L4.fLaw) 10 = S10
  refine L4.start_ok g0.symm g1.symm g2.symm g3.symm D hA hA' hroom hs hsa fun m1 H1 nt t seed mm x dx first hm0 hm9 vs vn vseed vm vnest hnt hx hdx hfirst => ?_
  refine W_cons' ?_
  show W k (exec (.Assign [.Name _ _] (.Call (.Name _ _) [.Attribute (.Name _ _) _ _, _, _, _] [] _) _) k.env) _ _ _
  refine W_Assign ?_ ?s0 ?s1
  case s0 => exact stor rfl
  case s1 => rfl
  refine W_CallF D.gRings (kindS rfl) hfR hdR ?_
  refine WItems_cons ?_
  refine W_getDict D.nest.kls vnest hx hdx (fun i => by simp) ?_
  refine WItems_cons ?_
  refine W_Name vn ?_
  refine WItems_cons ?_
  refine W_Name vseed ?_
  refine WItems_cons ?_
  refine W_Name vm ?_
  refine WItems_nil ?_
  refine FnV.mono (L4.rings_ok D.blt D.rings D.kind D.gKind hA ⟨by lia, by lia⟩ hm0 hm9 hfirst hnt) ?_ (fun _ _ _ q => q.elim)
  intro v H2 hv
  obtain ⟨R, ra, P, rfl, hra0, hra, X⟩ := hv
  refine contQ_next ?_
  have hnf : nt ≠ first := fun e => by rw [e, hfirst] at hnt; cases hnt
  have hxf : x ≠ first := fun e => by rw [e, hfirst] at hx; cases hx
  have hdf : dx ≠ first := fun e => by rw [e, hfirst] at hdx; cases hdx
  have hnt2 := X.keep _ _ hnf hnt
  have hx2 := X.keep _ _ hxf hx
  have hdx2 := X.keep _ _ hdf hdx
  have F := X.forest
  have hf0 : first = R.getD 0 0 := by
    rw [List.getD_eq_getElem?_getD, X.fst]; rfl
  generalize hAA : (fun p : List Nat => match p with | [r] => R.getD r 0 | _ => (0 : Addr)) = A at F
  have hA0 : A [0] = first := by rw [← hAA, hf0]
  have vring : setL m1 "rings" (.ref ra) "rings" = some (.ref ra) := setL_same
  have vs2 : setL m1 "rings" (.ref ra) "script" = some (.ref sa) := by walk_at "lk"
  have vn2 : setL m1 "rings" (.ref ra) "names" = some (.ref nt) := by walk_at "lk"
  have vseed2 : setL m1 "rings" (.ref ra) "seed" = some (.int (seed : Nat)) := by walk_at "lk"
  have vm2 : setL m1 "rings" (.ref ra) "m" = some (.int (mm : Nat)) := by walk_at "lk"
  have vnest2 : setL m1 "rings" (.ref ra) "nest" = some (.ref x) := by walk_at "lk"
  generalize setL m1 "rings" (.ref ra) = m2 at vring vs2 vn2 vseed2 vm2 vnest2 ⊢
  refine W_cons' ?_
  show W k (exec (.Assign [.Name _ _] (.List [] _) _) k.env) _ _ _
  refine W_Assign ?_ ?s0 ?s1
  case s0 => exact stor rfl
  case s1 => exact swaps_List
  refine W_List ?_
  refine WItems_nil ⟨by simp, fun dA hdA => ?_⟩
  refine contQ_next ?_
  refine W_cons' ?_
  show W k (exec (.Assign [.Name _ _] (.List [] _) _) k.env) _ _ _
  refine W_Assign ?_ ?s0 ?s1
  case s0 => exact stor rfl
  case s1 => exact swaps_List
  refine W_List ?_
  refine WItems_nil ⟨by simp, fun gA hgA => ?_⟩
  refine contQ_next ?_
  obtain ⟨hgd, hgA2⟩ := upd_eq_none.mp hgA
  have hbare : bare dA gA (upd (upd H2 dA (.list [])) gA (.list [])) = H2 := by rw [bare_upd2, bare_upd1, bare_none hdA hgA2]
  have V3 : L4.LV x nt ra dA gA seed mm (setL (setL m2 "due" (.ref dA)) "given" (.ref gA)) := ⟨by walk_at "lk", by walk_at "lk", by walk_at "lk", by walk_at "lk", by walk_at "lk", by walk_at "lk", by walk_at "lk"⟩
  have vs3 : setL (setL m2 "due" (.ref dA)) "given" (.ref gA) "script" = some (.ref sa) := by walk_at "lk"
  have X3 : L4.LH C x dx nt ra dA gA t R seed mm [] A [] (upd (upd H2 dA (.list [])) gA (.list [])) :=
    ⟨Ne.symm hgd, upd_ne (Ne.symm hgd) upd_same, upd_same, by rw [hbare]; exact hx2, by rw [hbare, hA0]; exact hdx2, by rw [hbare]; exact hnt2, by rw [hbare]; exact hra, by rw [hbare]; exact F, rfl, fun i a w h => by simp at h⟩
  generalize setL (setL m2 "due" (.ref dA)) "given" (.ref gA) = m3 at V3 vs3 ⊢
  generalize upd (upd H2 dA (.list [])) gA (.list []) = H3 at X3 ⊢
  clear hbare hAA
  refine W_cons' ?_
  refine L4.deal_ok g7.symm D hA hA' hroom hfr hm0 hm9 V3 X3 vs3 hsa hl fun m4 H4 dues A4 dr V4 X4 hl64 hw41 => ?_
  refine contQ_next ?_
  refine W_cons' ?_
  refine L4.marks_ok g8.symm D hA V4 X4 hl64 fun m5 H5 L V5 M5 => ?_
  refine contQ_next ?_
  have F4 : Forest H4 R seed mm dues A4 := X4.F.ext fun b y e => bare_of e
  have hra5 := M5.keep _ _ (bare_of X4.hra) (by simp)
  refine W_cons' ?_
  refine L4.work_ok (dues := dues) g9.symm D hA hm9 V5 hra5 F4.ring fun wA H6 vs hE6 hw6 hw0 W6 => ?_
  refine contQ_next ?_
  refine W_cons' ?_
  have V6 : L4.LV x nt ra dA gA seed mm (setL m5 "work" (.ref wA)) := V5.of fun y hy => setL_off (fun e => by subst e; revert hy; decide)
  have hE56 : Ext H5 (delA wA H6) := fun b y e => delA_at (fun q => by rw [q, hw0] at e; cases e) (hE6 b y e)
  refine L4.verify_ok g10.symm D hA hA' hroom hm0 hm9 F4 hl64 hw41 (t := t) (L := L) (dr := dr) (wA := wA) (j0 := costs dues ((List.range mm).map fun r => [r])) ⟨V6, setL_same, ⟨⟨?_, X4.dl, fun i a w h1 h2 => ?_⟩, ?_, fun p hp => ?_⟩, ⟨_, vs, rfl, hw6, W6, fun p hp => ?_⟩, costs_ring hm9 hl64 hw41⟩ fun m7 H7 => ?_
  · exact hE56 _ _ (M5.keep _ _ X4.hdue (by simp))
  · exact hE56 _ _ (M5.keep _ _ (bare_of (X4.dat i a w h1 h2)) (by simp))
  · exact hE56 _ _ (M5.keep _ _ (bare_of X4.hnt) (by simp))
  · obtain ⟨kvs, ep, q1, q2⟩ := M5.node p hp
    exact ⟨kvs, ep, (q1.keep M5.keep M5.is_).keep (fun b y e _ => hE56 b y e) (fun e ep he => hE56 e _ he), hE56 _ _ q2, fun q => hE56 _ _ (M5.list p hp q)⟩
  · obtain ⟨r, hr, rfl⟩ := List.mem_map.mp hp
    exact .inl ⟨r, List.mem_range.mp hr, rfl⟩
  refine contQ_next ?_
  refine W_cons' ?_
  show W k (exec (.Return (some (.Constant (.bool true) _ _)) _) k.env) m7 H7 _
  refine W_Return' ?_
  refine W_bool ?_
  intro u hu
  exact contQ_ret hu
end
end Mine
namespace Mine
noncomputable abbrev pw : Program := PySem.Challenge.pw_kp0043_04
theorem said : OpenLaw.wellSaid PySem.Challenge.rw_kp0043_04 = true := by
  rewrite [PySem.W.Fast.te9446332074065402090]
  kernel_rfl
noncomputable def hview : Program := { pw with main := { pw.main with body := [stm pw.main.body 0, stm pw.main.body 2, stm pw.main.body 4, stm pw.main.body 5, stm pw.main.body 6, stm pw.main.body 7, stm pw.main.body 8] } }
noncomputable def hheap (P : Params) : Frag :=
  (nat_lit 2, { cls := Value.none, data := Data.dict #[] }) ::
  (nat_lit 3, { cls := Value.type "dict", data := Data.dict #[{ hash := PyData.keyHash P (Str.ofString "__name__"), key := Value.str (Str.ofString "__name__") 165, val := Value.str (Str.ofString "law_kp0043_04") 244 }, { hash := PyData.keyHash P (Str.ofString "__doc__"), key := Value.str (Str.ofString "__doc__") 166, val := Value.none }, { hash := PyData.keyHash P (Str.ofString "__package__"), key := Value.str (Str.ofString "__package__") 167, val := Value.none }, { hash := PyData.keyHash P (Str.ofString "__loader__"), key := Value.str (Str.ofString "__loader__") 168, val := Value.builtin "__main__.__loader__#opaque" }, { hash := PyData.keyHash P (Str.ofString "__spec__"), key := Value.str (Str.ofString "__spec__") 169, val := Value.none }, { hash := PyData.keyHash P (Str.ofString "__annotations__"), key := Value.str (Str.ofString "__annotations__") 170, val := Value.ref 6 }, { hash := PyData.keyHash P (Str.ofString "__builtins__"), key := Value.str (Str.ofString "__builtins__") 171, val := Value.ref 4 }, { hash := PyData.keyHash P (Str.ofString "__file__"), key := Value.str (Str.ofString "__file__") 173, val := Value.str (Str.ofString "/claim/cut.py") 172 }, { hash := PyData.keyHash P (Str.ofString "__cached__"), key := Value.str (Str.ofString "__cached__") 174, val := Value.none }, { hash := PyData.keyHash P (Str.ofString "_wall"), key := Value.str (Str.ofString "_wall") 193, val := Value.ref 21 }, { hash := PyData.keyHash P (Str.ofString "NestedDict"), key := Value.str (Str.ofString "NestedDict") 243, val := Value.ref 53 }, { hash := PyData.keyHash P (Str.ofString "_law_kind"), key := Value.str (Str.ofString "_law_kind") 254, val := Value.ref 64 }, { hash := PyData.keyHash P (Str.ofString "_law_due"), key := Value.str (Str.ofString "_law_due") 260, val := Value.ref 69 }, { hash := PyData.keyHash P (Str.ofString "_law_rings"), key := Value.str (Str.ofString "_law_rings") 266, val := Value.ref 74 }, { hash := PyData.keyHash P (Str.ofString "_law_leads_on"), key := Value.str (Str.ofString "_law_leads_on") 276, val := Value.ref 81 }, { hash := PyData.keyHash P (Str.ofString "law"), key := Value.str (Str.ofString "law") 282, val := Value.ref 86 }] 16 }) ::
  (nat_lit 6, { cls := Value.type "dict", data := Data.dict #[] }) ::
  (nat_lit 15, { cls := Value.type "tuple", data := Data.seq #[] }) ::
  (nat_lit 17, { cls := Value.type "tuple", data := Data.seq #[Value.str (Str.ofString "k") 190] }) ::
  (nat_lit 18, { cls := Value.type "tuple", data := Data.seq #[] }) ::
  (nat_lit 20, { cls := Value.type "code", data := Data.fields #[Value.str (Str.ofString "_wall") 187, Value.str (Str.ofString "_wall") 188, Value.str (Str.ofString "/claim/cut.py") 189, Value.int 1 0, Value.int 1 0, Value.int 0 0, Value.int 0 0, Value.int 3 0, Value.ref 15, Value.bool true, Value.int 181 0, Value.ref 16, Value.none, Value.ref 17, Value.ref 18, Value.ref 19, Value.int 191 0, Value.int 1 0, Value.str (Str.ofString "/claim/cut.py") 192] }) ::
  (nat_lit 21, { cls := Value.type "function", data := Data.func { name := Str.ofString "_wall", qualname := Str.ofString "_wall", params := fnParams (stm pw.main.body 0), body := FuncBody.stmts (fnBody (stm pw.main.body 0)), scope := fnScope (stm pw.main.body 0), globals := 3, closure := [], defaults := Value.none, kwdefaults := Value.none, pyModule := Value.str (Str.ofString "__main__") 164, code := Value.ref 20 } }) ::
  (nat_lit 29, { cls := Value.type "tuple", data := Data.seq #[] }) ::
  (nat_lit 31, { cls := Value.type "tuple", data := Data.seq #[Value.str (Str.ofString "self") 211] }) ::
  (nat_lit 32, { cls := Value.type "tuple", data := Data.seq #[] }) ::
  (nat_lit 34, { cls := Value.type "code", data := Data.fields #[Value.str (Str.ofString "__init__") 208, Value.str (Str.ofString "NestedDict.__init__") 209, Value.str (Str.ofString "/claim/cut.py") 210, Value.int 7 0, Value.int 1 0, Value.int 0 0, Value.int 0 0, Value.int 3 0, Value.ref 29, Value.bool true, Value.int 181 0, Value.ref 30, Value.none, Value.ref 31, Value.ref 32, Value.ref 33, Value.int 212 0, Value.int 7 0, Value.str (Str.ofString "/claim/cut.py") 213] }) ::
  (nat_lit 35, { cls := Value.type "function", data := Data.func { name := Str.ofString "__init__", qualname := Str.ofString "NestedDict.__init__", params := fnParams (stm (fnBody (stm pw.main.body 2)) 0), body := FuncBody.stmts (fnBody (stm (fnBody (stm pw.main.body 2)) 0)), scope := fnScope (stm (fnBody (stm pw.main.body 2)) 0), globals := 3, closure := [], defaults := Value.none, kwdefaults := Value.none, pyModule := Value.str (Str.ofString "cpy313.tomllib._parser") 194, code := Value.ref 34 } }) ::
  (nat_lit 36, { cls := Value.type "dict", data := Data.dict #[{ hash := PyData.keyHash P (Str.ofString "access_lists"), key := Value.str (Str.ofString "access_lists") 215, val := Value.bool true }] 1 }) ::
  (nat_lit 37, { cls := Value.type "tuple", data := Data.seq #[] }) ::
  (nat_lit 39, { cls := Value.type "tuple", data := Data.seq #[Value.str (Str.ofString "self") 219, Value.str (Str.ofString "key") 220, Value.str (Str.ofString "access_lists") 221, Value.str (Str.ofString "cont") 222, Value.str (Str.ofString "k") 223] }) ::
  (nat_lit 40, { cls := Value.type "tuple", data := Data.seq #[] }) ::
  (nat_lit 42, { cls := Value.type "code", data := Data.fields #[Value.str (Str.ofString "get_or_create_nest") 216, Value.str (Str.ofString "NestedDict.get_or_create_nest") 217, Value.str (Str.ofString "/claim/cut.py") 218, Value.int 10 0, Value.int 2 0, Value.int 0 0, Value.int 1 0, Value.int 3 0, Value.ref 37, Value.bool true, Value.int 181 0, Value.ref 38, Value.none, Value.ref 39, Value.ref 40, Value.ref 41, Value.int 224 0, Value.int 10 0, Value.str (Str.ofString "/claim/cut.py") 225] }) ::
  (nat_lit 43, { cls := Value.type "function", data := Data.func { name := Str.ofString "get_or_create_nest", qualname := Str.ofString "NestedDict.get_or_create_nest", params := fnParams (stm (fnBody (stm pw.main.body 2)) 1), body := FuncBody.stmts (fnBody (stm (fnBody (stm pw.main.body 2)) 1)), scope := fnScope (stm (fnBody (stm pw.main.body 2)) 1), globals := 3, closure := [], defaults := Value.none, kwdefaults := Value.ref 36, pyModule := Value.str (Str.ofString "cpy313.tomllib._parser") 194, code := Value.ref 42 } }) ::
  (nat_lit 44, { cls := Value.type "tuple", data := Data.seq #[] }) ::
  (nat_lit 46, { cls := Value.type "tuple", data := Data.seq #[Value.str (Str.ofString "self") 230, Value.str (Str.ofString "key") 231] }) ::
  (nat_lit 47, { cls := Value.type "tuple", data := Data.seq #[] }) ::
  (nat_lit 49, { cls := Value.type "code", data := Data.fields #[Value.str (Str.ofString "append_nest_to_list") 227, Value.str (Str.ofString "NestedDict.append_nest_to_list") 228, Value.str (Str.ofString "/claim/cut.py") 229, Value.int 22 0, Value.int 2 0, Value.int 0 0, Value.int 0 0, Value.int 3 0, Value.ref 44, Value.bool true, Value.int 181 0, Value.ref 45, Value.none, Value.ref 46, Value.ref 47, Value.ref 48, Value.int 232 0, Value.int 22 0, Value.str (Str.ofString "/claim/cut.py") 233] }) ::
  (nat_lit 50, { cls := Value.type "function", data := Data.func { name := Str.ofString "append_nest_to_list", qualname := Str.ofString "NestedDict.append_nest_to_list", params := fnParams (stm (fnBody (stm pw.main.body 2)) 2), body := FuncBody.stmts (fnBody (stm (fnBody (stm pw.main.body 2)) 2)), scope := fnScope (stm (fnBody (stm pw.main.body 2)) 2), globals := 3, closure := [], defaults := Value.none, kwdefaults := Value.none, pyModule := Value.str (Str.ofString "cpy313.tomllib._parser") 194, code := Value.ref 49 } }) ::
  (nat_lit 51, { cls := Value.type "tuple", data := Data.seq #[Value.str (Str.ofString "dict") 235] }) ::
  (nat_lit 52, { cls := Value.type "dict", data := Data.dict #[{ hash := PyData.keyHash P (Str.ofString "__module__"), key := Value.str (Str.ofString "__module__") 203, val := Value.str (Str.ofString "cpy313.tomllib._parser") 194 }, { hash := PyData.keyHash P (Str.ofString "__firstlineno__"), key := Value.str (Str.ofString "__firstlineno__") 207, val := Value.int 5 206 }, { hash := PyData.keyHash P (Str.ofString "__init__"), key := Value.str (Str.ofString "__init__") 214, val := Value.ref 35 }, { hash := PyData.keyHash P (Str.ofString "get_or_create_nest"), key := Value.str (Str.ofString "get_or_create_nest") 226, val := Value.ref 43 }, { hash := PyData.keyHash P (Str.ofString "append_nest_to_list"), key := Value.str (Str.ofString "append_nest_to_list") 234, val := Value.ref 50 }, { hash := PyData.keyHash P (Str.ofString "__static_attributes__"), key := Value.str (Str.ofString "__static_attributes__") 236, val := Value.ref 51 }, { hash := PyData.keyHash P (Str.ofString "__dict__"), key := Value.str (Str.ofString "__dict__") 238, val := Value.ref 54 }, { hash := PyData.keyHash P (Str.ofString "__weakref__"), key := Value.str (Str.ofString "__weakref__") 240, val := Value.ref 55 }, { hash := PyData.keyHash P (Str.ofString "__doc__"), key := Value.str (Str.ofString "__doc__") 241, val := Value.none }] 4 }) ::
  (nat_lit 53, { cls := Value.type "type", data := Data.cls { name := Str.ofString "NestedDict", bases := [Value.type "object"], mro := [Value.ref 53, Value.type "object"], ns := 52, qualname := Str.ofString "NestedDict" }, slots := #[none, none, some (Value.str (Str.ofString "NestedDict") 196), some (Value.str (Str.ofString "NestedDict") 204), some (Value.builtin "object.__new__"), some (Value.bool true)] }) ::
  (nat_lit 54, { cls := Value.type "getset_descriptor", data := Data.fields #[Value.str (Str.ofString "__dict__") 237, Value.ref 53, Value.builtin "function.__dict__", Value.builtin "function.__dict__#set"] }) ::
  (nat_lit 55, { cls := Value.type "getset_descriptor", data := Data.fields #[Value.str (Str.ofString "__weakref__") 239, Value.ref 53, Value.builtin "ExceptionGroup.__weakref__", Value.none] }) ::
  (nat_lit 58, { cls := Value.type "tuple", data := Data.seq #[] }) ::
  (nat_lit 60, { cls := Value.type "tuple", data := Data.seq #[Value.str (Str.ofString "seed") 249, Value.str (Str.ofString "r") 250, Value.str (Str.ofString "d") 251] }) ::
  (nat_lit 61, { cls := Value.type "tuple", data := Data.seq #[] }) ::
  (nat_lit 63, { cls := Value.type "code", data := Data.fields #[Value.str (Str.ofString "_law_kind") 246, Value.str (Str.ofString "_law_kind") 247, Value.str (Str.ofString "/claim/cut.py") 248, Value.int 25 0, Value.int 3 0, Value.int 0 0, Value.int 0 0, Value.int 3 0, Value.ref 58, Value.bool true, Value.int 181 0, Value.ref 59, Value.none, Value.ref 60, Value.ref 61, Value.ref 62, Value.int 252 0, Value.int 25 0, Value.str (Str.ofString "/claim/cut.py") 253] }) ::
  (nat_lit 64, { cls := Value.type "function", data := Data.func { name := Str.ofString "_law_kind", qualname := Str.ofString "_law_kind", params := fnParams (stm pw.main.body 4), body := FuncBody.stmts (fnBody (stm pw.main.body 4)), scope := fnScope (stm pw.main.body 4), globals := 3, closure := [], defaults := Value.none, kwdefaults := Value.none, pyModule := Value.str (Str.ofString "law_kp0043_04") 244, code := Value.ref 63 } }) ::
  (nat_lit 65, { cls := Value.type "tuple", data := Data.seq #[] }) ::
  (nat_lit 68, { cls := Value.type "code", data := Data.fields #[Value.str (Str.ofString "_law_due") 255, Value.str (Str.ofString "_law_due") 256, Value.str (Str.ofString "/claim/cut.py") 257, Value.int 27 0, Value.int 5 0, Value.int 0 0, Value.int 0 0, Value.int 3 0, Value.ref 65, Value.bool true, Value.int 181 0, Value.ref 66, Value.none, Value.none, Value.none, Value.ref 67, Value.int 258 0, Value.int 27 0, Value.str (Str.ofString "/claim/cut.py") 259] }) ::
  (nat_lit 69, { cls := Value.type "function", data := Data.func { name := Str.ofString "_law_due", qualname := Str.ofString "_law_due", params := fnParams (stm pw.main.body 5), body := FuncBody.stmts (fnBody (stm pw.main.body 5)), scope := fnScope (stm pw.main.body 5), globals := 3, closure := [], defaults := Value.none, kwdefaults := Value.none, pyModule := Value.str (Str.ofString "law_kp0043_04") 244, code := Value.ref 68 } }) ::
  (nat_lit 70, { cls := Value.type "tuple", data := Data.seq #[] }) ::
  (nat_lit 73, { cls := Value.type "code", data := Data.fields #[Value.str (Str.ofString "_law_rings") 261, Value.str (Str.ofString "_law_rings") 262, Value.str (Str.ofString "/claim/cut.py") 263, Value.int 37 0, Value.int 4 0, Value.int 0 0, Value.int 0 0, Value.int 3 0, Value.ref 70, Value.bool true, Value.int 181 0, Value.ref 71, Value.none, Value.none, Value.none, Value.ref 72, Value.int 264 0, Value.int 37 0, Value.str (Str.ofString "/claim/cut.py") 265] }) ::
  (nat_lit 74, { cls := Value.type "function", data := Data.func { name := Str.ofString "_law_rings", qualname := Str.ofString "_law_rings", params := fnParams (stm pw.main.body 6), body := FuncBody.stmts (fnBody (stm pw.main.body 6)), scope := fnScope (stm pw.main.body 6), globals := 3, closure := [], defaults := Value.none, kwdefaults := Value.none, pyModule := Value.str (Str.ofString "law_kp0043_04") 244, code := Value.ref 73 } }) ::
  (nat_lit 75, { cls := Value.type "tuple", data := Data.seq #[] }) ::
  (nat_lit 77, { cls := Value.type "tuple", data := Data.seq #[Value.str (Str.ofString "value") 270, Value.str (Str.ofString "kind") 271, Value.str (Str.ofString "goal") 272, Value.str (Str.ofString "size") 273] }) ::
  (nat_lit 78, { cls := Value.type "tuple", data := Data.seq #[] }) ::
  (nat_lit 80, { cls := Value.type "code", data := Data.fields #[Value.str (Str.ofString "_law_leads_on") 267, Value.str (Str.ofString "_law_leads_on") 268, Value.str (Str.ofString "/claim/cut.py") 269, Value.int 55 0, Value.int 3 0, Value.int 0 0, Value.int 0 0, Value.int 3 0, Value.ref 75, Value.bool true, Value.int 181 0, Value.ref 76, Value.none, Value.ref 77, Value.ref 78, Value.ref 79, Value.int 274 0, Value.int 55 0, Value.str (Str.ofString "/claim/cut.py") 275] }) ::
  (nat_lit 81, { cls := Value.type "function", data := Data.func { name := Str.ofString "_law_leads_on", qualname := Str.ofString "_law_leads_on", params := fnParams (stm pw.main.body 7), body := FuncBody.stmts (fnBody (stm pw.main.body 7)), scope := fnScope (stm pw.main.body 7), globals := 3, closure := [], defaults := Value.none, kwdefaults := Value.none, pyModule := Value.str (Str.ofString "law_kp0043_04") 244, code := Value.ref 80 } }) ::
  (nat_lit 82, { cls := Value.type "tuple", data := Data.seq #[] }) ::
  (nat_lit 85, { cls := Value.type "code", data := Data.fields #[Value.str (Str.ofString "law") 277, Value.str (Str.ofString "law") 278, Value.str (Str.ofString "/claim/cut.py") 279, Value.int 63 0, Value.int 1 0, Value.int 0 0, Value.int 0 0, Value.int 3 0, Value.ref 82, Value.bool true, Value.int 181 0, Value.ref 83, Value.none, Value.none, Value.none, Value.ref 84, Value.int 280 0, Value.int 63 0, Value.str (Str.ofString "/claim/cut.py") 281] }) ::
  (nat_lit 86, { cls := Value.type "function", data := Data.func { name := Str.ofString "law", qualname := Str.ofString "law", params := fnParams (stm pw.main.body 8), body := FuncBody.stmts (fnBody (stm pw.main.body 8)), scope := fnScope (stm pw.main.body 8), globals := 3, closure := [], defaults := Value.none, kwdefaults := Value.none, pyModule := Value.str (Str.ofString "law_kp0043_04") 244, code := Value.ref 85 } }) ::
  []
theorem hfill : (PySem.Challenge.rw_kp0043_04, hheap) = (PySem.Challenge.rw_kp0043_04, hheap) := by k_fill; rfl
noncomputable def hplaces : List Nat := [2, 3, 6, 15, 17, 18, 20, 21, 29, 31, 32, 34, 35, 36, 37, 39, 40, 42, 43, 44, 46, 47, 49, 50, 51, 52, 53, 54, 55, 58, 60, 61, 63, 64, 65, 68, 69, 70, 73, 74, 75, 77, 78, 80, 81, 82, 85, 86]
noncomputable def hhook : Hook := kHook hheap hplaces fun P => by kernel_rfl
theorem hleft : LeftO pw hview [Str.ofString "NestedDict"] (fun s => xlAt hview [] s && recOk [] s) (Hook.obs hhook) (Hook.val hhook) 1088 := fun w => by
  delta openEnds fencedOpening topFrom
  rewrite [PySem.W.Fast.te14082659384304107361, PySem.W.Fast.te10274390034422433532, PySem.W.Fast.te14289696077712309145, PySem.W.Fast.te14364793385576792824, PySem.W.Fast.te4187177175401517315]
  kernel_rfl
theorem nsOk_of {K : Frag} {N : Addr} {oc : Value} {od : Option Addr} {es : Array DictEntry} {ep : Nat} {sl : Array (Option Value)} (h : K.lookup N = some ⟨oc, od, .dict es ep, sl⟩) (he : (es.all fun e => match e.key with | .str _ _ => true | _ => false) = true) : nsOkIn K N = true := by
  unfold nsOkIn
  rw [h]
  exact he
theorem L4.get_at (P : Params) {c : Cx} (hK : c.K = hheap P) : ∃ fd, FnAt c 43 fd (fnBody L4.mG) ∧ fd.scope = fnScope L4.mG ∧ fd.params = fnParams L4.mG ∧ fd.defaults = .none ∧
    ∃ d mk, fd.kwdefaults = .ref d ∧ c.base.Ns d mk ∧ mk "access_lists" = some (.bool true) := by
  have h : ∃ name qual doc pm cdv ct oc d an od osl, c.K.lookup 43 = some ⟨oc, od, .func (fnOf name qual (fnParams L4.mG) (fnBody L4.mG) (fnScope L4.mG) .none (.ref d) doc pm an cdv ct), osl⟩ ∧ codeIn c.K cdv qual = true ∧ nsIn c.K d "access_lists" = some (some (.bool true)) ∧ nsOkIn c.K d = true :=
    ⟨_, _, _, _, _, _, _, _, _, _, _, by rw [hK]; k_is, by rw [hK]; k_is, by rw [hK]; k_is, by rw [hK]; exact nsOk_of (by k_is) (by simp)⟩
  obtain ⟨name, qual, doc, pm, cdv, ct, oc, d, an, od, osl, h1, h2, h3, h4⟩ := h
  have G : c.base.Ns d (c.base.nsMap d) := Heap.Ns.of_isNs (isNs_of_in c.inK h4)
  exact ⟨_, fnAt_K h1 h2 (by rfl) (by rfl) (by rfl) (by decide), rfl, rfl, rfl, d, _, rfl, G, ns_at c.inK G h3⟩
set_option maxHeartbeats 4000000 in
theorem L4.defs_at (P : Params) {c : Cx} (hK : c.K = hheap P) (himp : importsNone c.p = true) (htree : c.prog.given.tree = none) : L4.Defs c 53 35 43 50 64 69 74 81 where
  blt := ⟨gl_B (by rw [hK]; k_is) rfl (by decide), gl_B (by rw [hK]; k_is) rfl (by decide), gl_B (by rw [hK]; k_is) rfl (by decide), gl_B (by rw [hK]; k_is) rfl (by decide), gl_B (by rw [hK]; k_is) rfl (by decide), gl_B (by rw [hK]; k_is) rfl (by decide), gl_B (by rw [hK]; k_is) rfl (by decide), gl_B (by rw [hK]; k_is) rfl (by decide), gl_B (by rw [hK]; k_is) rfl (by decide), gl_B (by rw [hK]; k_is) rfl (by decide), himp, htree⟩
  b4 := ⟨gl_B (by rw [hK]; k_is) rfl (by decide), gl_B (by rw [hK]; k_is) rfl (by decide), gl_B (by rw [hK]; k_is) rfl (by decide), gl_B (by rw [hK]; k_is) rfl (by decide), gl_B (by rw [hK]; k_is) rfl (by decide)⟩
  nest := {
    kls := ⟨by rw [hK]; k_is, by rw [hK]; k_is, by rw [hK]; k_is, by rw [hK]; k_is, by rw [hK]; k_is, by rw [hK]; k_is, by rw [hK]; k_is, by rw [hK]; k_is, by rw [hK]; k_is, by rw [hK]; k_is, by rw [hK]; k_is⟩
    mG := ⟨by rw [hK]; k_is, by rw [hK]; k_is, by rw [hK]; k_is, by rw [hK]; k_is, by decide⟩
    mA := ⟨by rw [hK]; k_is, by rw [hK]; k_is, by rw [hK]; k_is, by rw [hK]; k_is, by decide⟩
    init := defAt_K (by rw [hK]; k_is) (by rw [hK]; k_is) (by rfl) (by rfl) (by rfl) (by decide)
    app := defAt_K (by rw [hK]; k_is) (by rw [hK]; k_is) (by rfl) (by rfl) (by rfl) (by decide)
    get := L4.get_at P hK }
  gC := gl_K (by rw [hK]; k_is)
  kind := defAt_K (by rw [hK]; k_is) (by rw [hK]; k_is) (by rfl) (by rfl) (by rfl) (by decide)
  gKind := gl_K (by rw [hK]; k_is)
  due := defAt_K (by rw [hK]; k_is) (by rw [hK]; k_is) (by rfl) (by rfl) (by rfl) (by decide)
  gDue := gl_K (by rw [hK]; k_is)
  rings := defAt_K (by rw [hK]; k_is) (by rw [hK]; k_is) (by rfl) (by rfl) (by rfl) (by decide)
  gRings := gl_K (by rw [hK]; k_is)
  lead := defAt_K (by rw [hK]; k_is) (by rw [hK]; k_is) (by rfl) (by rfl) (by rfl) (by decide)
  gLead := gl_K (by rw [hK]; k_is)
local macro_rules | `(tactic| w_call $k $ho $hd $hcd $hD $T $F) => `(tactic| refine call_cells2 (by decide) $ho $hd (Top.nolimit $T) $hcd $hD rfl rfl rfl (by decide) fun h₁ t1 cells ht₁ $F N0 X0 => ?_)
set_option maxHeartbeats 8000000 in
theorem L4.claim : PySem.Challenge.rw_kp0043_04.Holds := by
  w_on
  refine holds_law said fun ok => ?_
  refine holds_open (q := hview) (loose := [Str.ofString "NestedDict"]) (Xt := fun s => xlAt hview [] s && recOk [] s) (XP := XL hview []) (Yf := Hook.obs hhook) (Ya := Hook.val hhook) (YP := Hook.says hhook) (N := 1088) hleft (Hook.of hhook) (Hook.keeps hhook) (fun s e => xl_of s (Bool.and_eq_true_iff.mp e).1) XL.keeps (by rfl) (by rfl) (by rfl) (fun s e => recFacts_of (Bool.and_eq_true_iff.mp e).2) (by rfl) ok (by decide +kernel) ⟨rfl, rfl, rfl, rfl, rfl, by decide +kernel⟩ ?hw ?hc
  case hw => w_witness2
  w_strict k_go0
  (with_reducible rename Top _ _ _ _ _ _ => kT)
  (with_reducible rename Frag.In _ _ => kX)
  (with_reducible rename Heap.IsList _ _ _ => kL)
  (with_reducible rename IntsAre _ _ => kI)
  (with_reducible rename Fr _ _ _ _ => kF)
  (with_reducible rename News _ _ _ _ => kN)
  (with_reducible rename CellsAre _ _ _ => kC)
  rename _ = #[] => kg
  rename 1 ≤ _ => kt1
  rename ¬ ((63 : Nat) : Int) < _ => k63
  refine fin_joinC kX kT kg kL kI kF kN kC (by rfl) (by decide) (by rfl) (by rfl) rfl rfl rfl kt1 ?_
  intro c hp hK hw hpp hb hB k hkc hke hkA
  have D := L4.defs_at _ (c := k.c) (by rw [hkc]; exact hK) (by rw [hkc, hpp]; rfl) (by rw [hkc, hp]; rfl)
  haveI : SEnv k (fnScope L4.fLaw) (cellNames (fnScope L4.fLaw).names) := ⟨by rw [hke]; rfl, by rw [hke]; exact cellsFrom_map _ _ _ _ _ rfl⟩
  have hroom : Room k.A ∧ (k.A.depth ≤ 500 ∧ k.A.units ≤ 1500) := by
    rw [hkA]
    exact ⟨⟨by show callerA.depth + 1 ≤ 600; decide, by show callerA.units + 3 ≤ 2000; decide, rfl⟩, by show callerA.depth + 1 ≤ 500; decide, by show callerA.units + 3 ≤ 1500; decide⟩
  have hl := L4.law_ok (m := setL noLoc "script" (.ref _)) (H := fun _ => none) D hroom.1 hroom.2 (by rw [hke]; rfl) setL_same (by rw [hkc]; exact hB) (by omega)
  exact hl
end Mine
theorem PySem.Challenge.cw_kp0043_04_holds : PySem.Challenge.rw_kp0043_04.Holds := by
  exact Mine.L4.claim
