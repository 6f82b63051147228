import PyProof.Rows.All
import Wide.All
import OpenK.AllK
import Wide.FinOn
import PySem.Challenge.RW_bc6012_01
set_option Elab.async false

section
/-! ## Hd -/
open PySem PySem.W PyProof.Rows
set_option Elab.async false
namespace Mine
set_option maxRecDepth 100000 in
set_option maxHeartbeats 8000000 in
open_top hd for PySem.Challenge.rw_bc6012_01
end Mine
end

section
/-! ## Led -/
open PySem PySem.W PyProof.Rows PySem.Spec PySem.Calls
set_option Elab.async false
set_option maxRecDepth 100000
namespace Mine

/-- what an object of the ledger holds -/
inductive AO where
  | ints (ns : List Int)
  | strs (ss : List Str)
  | dints (ks : List Int) (f : Int → Int)
  | drefs (ks : List Int) (f : Int → Addr)
  | cell (v : Option Value)
  | raw (o : Obj)

def AO.ok (prog : Program) (w : World) (a : Addr) : AO → Obj → Prop
  | .ints ns, o => ∃ vs n, o = listOf (List.toArray vs) n ∧ IntsAre vs ns
  | .strs ss, o => ∃ vs n, o = listOf (List.toArray vs) n ∧ StrsAre vs ss
  | .dints ks f, o => (a == sysModules) = false ∧ ∃ t : Int → Tok, o.IsDictOf (PySem.intKind prog w) (ks.map fun k => (k, Value.int (f k) (t k)))
  | .drefs ks f, o => (a == sysModules) = false ∧ o.IsDictOf (PySem.intKind prog w) (ks.map fun k => (k, Value.ref (f k)))
  | .cell v, o => o.data = .cell v
  | .raw o', o => o = o'

abbrev Led := Addr → Option (Nat × AO)
def upd (led : Led) (a : Addr) (x : Nat × AO) : Led := fun b => if b = a then some x else led b
theorem upd_same {led : Led} {a : Addr} {x : Nat × AO} : upd led a x a = some x := by simp [upd]
theorem upd_ne {led : Led} {a b : Addr} {x : Nat × AO} (h : b ≠ a) : upd led a x b = led b := by simp [upd, h]
theorem upd_at {led : Led} {a b : Addr} {x y : Nat × AO} (h : b ≠ a) (e : led b = some y) : upd led a x b = some y := by rw [upd_ne h]; exact e
theorem ne_of_tag {led : Led} {a b : Addr} {t u : Nat} {x y : AO} (ha : led a = some (t, x)) (hb : led b = some (u, y)) (h : t ≠ u) : a ≠ b := by
  intro e; subst e; rw [ha] at hb; cases hb; exact h rfl
/-- look behind a store at an object of another role -/
theorem look {led : Led} {a b : Addr} {t u : Nat} {x y : AO} {z : Nat × AO} (hb : led b = some (u, y)) (ha : led a = some (t, x)) (h : u ≠ t) : upd led a z b = some (u, y) :=
  upd_at (ne_of_tag hb ha h) hb

theorem look_new {led : Led} {D b : Addr} {y z : Nat × AO} (hb : led b = some y) (hD : led D = none) : upd led D z b = some y := upd_at (fun e => by rw [e, hD] at hb; cases hb) hb
/-- the written list of new objects covers the ledger -/
def Cov (prog : Program) (w : World) (news : List (Addr × Obj)) (led : Led) : Prop := ∀ a x, led a = some x → ∃ o, (a, o) ∈ news ∧ x.2.ok prog w a o

section
variable {prog : Program} {w : World} {news : List (Addr × Obj)} {led : Led} {h₀ h h' : Heap} {L : Addr} {m : Str → Option Value}
theorem Cov.cons (C : Cov prog w news led) (p : Addr × Obj) : Cov prog w (p :: news) led := fun a x e => let ⟨o, i, k⟩ := C a x e; ⟨o, .tail _ i, k⟩
theorem Cov.app (C : Cov prog w news led) (ps : List (Addr × Obj)) : Cov prog w (ps ++ news) led := fun a x e => let ⟨o, i, k⟩ := C a x e; ⟨o, List.mem_append_right _ i, k⟩
theorem Cov.appR (C : Cov prog w news led) (ps : List (Addr × Obj)) : Cov prog w (news ++ ps) led := fun a x e => let ⟨o, i, k⟩ := C a x e; ⟨o, List.mem_append_left _ i, k⟩
theorem Cov.put (C : Cov prog w news led) {a : Addr} {o : Obj} {x : Nat × AO} (hm : (a, o) ∈ news) (hk : x.2.ok prog w a o) : Cov prog w news (upd led a x) := fun b y e => by
  unfold upd at e
  split at e
  · rename_i q; subst q; cases e; exact ⟨o, hm, hk⟩
  · exact C b y e
theorem Cov.sub (C : Cov prog w news led) {led' : Led} (hs : ∀ a x, led' a = some x → ∃ t, led a = some (t, x.2)) : Cov prog w news led' := fun a x e => by
  obtain ⟨t, q⟩ := hs a x e
  exact C a (t, x.2) q
theorem Cov.nothing : Cov prog w news (fun _ => Option.none) := fun _ _ e => nomatch e
theorem Cov.lt (C : Cov prog w news led) (N : News h₀ L h news) {a : Addr} {x : Nat × AO} (e : led a = some x) : a < h.objs.size := let ⟨_, i, _⟩ := C a x e; Heap.lt_size (N _ i).1
theorem Cov.get (C : Cov prog w news led) (N : News h₀ L h news) {a : Addr} {t : Nat} {x : AO} (e : led a = some (t, x)) : ∃ o, h.get? a = some o ∧ x.ok prog w a o := let ⟨o, i, k⟩ := C a _ e; ⟨o, (N _ i).1, k⟩
theorem Cov.fresh (C : Cov prog w news led) (N : News h₀ L h news) : led h.objs.size = Option.none := by
  rcases q : led h.objs.size with _ | x
  · rfl
  · exact absurd (C.lt N q) (Nat.lt_irrefl _)

/-- one object of the ledger changes -/
theorem led_change (F : Fr h₀ L h m) (N : News h₀ L h news) (C : Cov prog w news led) {d : Addr} {t : Nat} {x y : AO} {o' : Obj} (hd : led d = some (t, x)) (hs : Heap.SameBut d h h') (ho : h'.get? d = some o') (hok : y.ok prog w d o') :
    ∃ news', Fr h₀ L h' m ∧ News h₀ L h' news' ∧ Cov prog w news' (upd led d (t, y)) := by
  obtain ⟨o, hm, _⟩ := C d _ hd
  have P := N _ hm
  refine ⟨news.map fun p => if p.1 = d then (d, o') else p, F.change hs P.2.1 P.2.2, ?_, ?_⟩
  · intro p hp
    obtain ⟨q, hq, rfl⟩ := List.mem_map.mp hp
    split
    · exact ⟨ho, P.2⟩
    · rename_i n
      exact ⟨(hs.2 _ n).trans (N q hq).1, (N q hq).2⟩
  · intro b z e
    unfold upd at e
    split at e
    · rename_i q; subst q; cases e
      exact ⟨o', List.mem_map.mpr ⟨_, hm, by simp⟩, hok⟩
    · rename_i n
      obtain ⟨ob, hb, hk⟩ := C b z e
      exact ⟨ob, List.mem_map.mpr ⟨_, hb, by simp [n]⟩, hk⟩

theorem led_push (F : Fr h₀ L h m) (N : News h₀ L h news) (C : Cov prog w news led) (o : Obj) (x : Nat × AO) (hok : x.2.ok prog w h.objs.size o) (hf : o.isFreed = false := by rfl) :
    Fr h₀ L (h.push o) m ∧ News h₀ L (h.push o) ((h.objs.size, o) :: news) ∧ Cov prog w ((h.objs.size, o) :: news) (upd led h.objs.size x) :=
  ⟨F.push o, N.push F o hf, (C.cons _).put (.head _) hok⟩
theorem Cov.set {D : Addr} {o : Obj} (C : Cov prog w news led) (x : Nat × AO) (hok : x.2.ok prog w D o) : Cov prog w ((D, o) :: news) (upd led D x) := (C.cons _).put (.head _) hok
end

/-! pure facts on the lists of ints and strs behind values -/
theorem intsAre_snoc {vs : List Value} {ns : List Int} (h : IntsAre vs ns) (k : Int) (t : Tok) : IntsAre (vs ++ [.int k t]) (ns ++ [k]) := IntsAre.append h (.cons k t .nil)
theorem strsAre_append : ∀ {vs us : List Value} {ns ms : List Str}, StrsAre vs ns → StrsAre us ms → StrsAre (vs ++ us) (ns ++ ms)
  | _, _, _, _, .nil, h => h
  | _, _, _, _, .cons n t r, h => .cons n t (strsAre_append r h)
theorem strsAre_length : ∀ {vs : List Value} {ns : List Str}, StrsAre vs ns → vs.length = ns.length
  | _, _, .nil => rfl
  | _, _, .cons _ _ r => by simp [strsAre_length r]
theorem intsAre_inv_snoc : ∀ {vs : List Value} {ns : List Int} {k : Int}, IntsAre vs (ns ++ [k]) → ∃ us t, vs = us ++ [.int k t] ∧ IntsAre us ns
  | vs, [], k, h => by
    cases h with
    | cons n t r => cases r with | nil => exact ⟨[], t, rfl, .nil⟩
  | vs, n :: r, k, h => by
    cases h with
    | cons n t q =>
      obtain ⟨us, u, rfl, hu⟩ := intsAre_inv_snoc q
      exact ⟨.int n t :: us, u, rfl, .cons n t hu⟩
theorem intsAre_at : ∀ {vs : List Value} {ns : List Int} (_ : IntsAre vs ns) (i : Nat) (n : Int), ns[i]? = some n → ∃ t, vs[i]? = some (.int n t)
  | _, _, .nil, i, n, h => by simp at h
  | _, _, .cons k t r, 0, n, h => by simp at h; exact ⟨t, by simp [h]⟩
  | _, _, .cons k t r, i + 1, n, h => by simpa using intsAre_at r i n (by simpa using h)
theorem strsAre_at : ∀ {vs : List Value} {ns : List Str} (_ : StrsAre vs ns) (i : Nat) (n : Str), ns[i]? = some n → ∃ t, vs[i]? = some (.str n t)
  | _, _, .nil, i, n, h => by simp at h
  | _, _, .cons k t r, 0, n, h => by simp at h; exact ⟨t, by simp [h]⟩
  | _, _, .cons k t r, i + 1, n, h => by simpa using strsAre_at r i n (by simpa using h)

/-! dicts by their keys -/
theorem valueAt_map {g : Int → Value} : ∀ {ks : List Int} {k : Int}, k ∈ ks → valueAt (ks.map fun k => (k, g k)) k = some (g k)
  | a :: r, k, h => by
    unfold valueAt
    by_cases e : a = k
    · subst e; simp
    · have : k ∈ r := by rcases List.mem_cons.mp h with q | q; exact absurd q.symm e; exact q
      have ih := valueAt_map (g := g) this
      unfold valueAt at ih
      simpa [e] using ih
theorem valueAt_none {g : Int → Value} : ∀ {ks : List Int} {k : Int}, k ∉ ks → valueAt (ks.map fun k => (k, g k)) k = none
  | [], k, _ => rfl
  | a :: r, k, h => by
    have h1 : a ≠ k := fun e => h (e ▸ .head _)
    have ih := valueAt_none (g := g) (ks := r) (k := k) fun q => h (.tail _ q)
    unfold valueAt at ih ⊢
    simpa [h1] using ih
def fset {α : Type} (f : Int → α) (k : Int) (v : α) : Int → α := fun x => if x = k then v else f x
theorem fset_same {α : Type} {f : Int → α} {k : Int} {v : α} : fset f k v k = v := by simp [fset]
theorem fset_ne {α : Type} {f : Int → α} {k x : Int} {v : α} (h : x ≠ k) : fset f k v x = f x := by simp [fset, h]
theorem stored_map {g : Int → Value} {ks : List Int} {k : Int} {v : Value} (h : k ∈ ks) : stored (ks.map fun k => (k, g k)) k v = ks.map fun x => (x, fset g k v x) := by
  unfold stored
  rw [if_pos (by simp; exact h)]
  rw [List.map_map]
  apply List.map_congr_left
  intro x _
  by_cases e : x = k
  · subst e; simp [fset]
  · simp [fset, e]
theorem stored_new {g : Int → Value} {ks : List Int} {k : Int} {v : Value} (h : k ∉ ks) : stored (ks.map fun k => (k, g k)) k v = (ks ++ [k]).map fun x => (x, fset g k v x) := by
  unfold stored
  rw [if_neg (by simpa using h), List.map_append]
  congr 1
  · apply List.map_congr_left
    intro x hx
    rw [fset_ne (fun e => h (by rw [← e]; exact hx))]
  · simp [fset]
end Mine
end

section
/-! ## Ops -/
open PySem PySem.W PyProof.Rows PySem.Spec PySem.Calls
set_option Elab.async false
set_option maxRecDepth 100000
namespace Mine

section
variable {prog : Program} {w : World} {A : Around} {E : Value → Shared → Prop} {s : Shared} {news : List (Addr × Obj)} {led : Led} {h₀ : Heap} {L d l a b : Addr} {m : Str → Option Value} {tg tg' : Nat}

theorem listAt (N : News h₀ L s.heap news) (C : Cov prog w news led) {ns : List Int} (e : led l = some (tg, .ints ns)) : ∃ vs n, s.heap.get? l = some (listOf (List.toArray vs) n) ∧ s.heap.IsList l vs.toArray ∧ IntsAre vs ns := by
  obtain ⟨o, ho, vs, n, rfl, hi⟩ := C.get N e
  exact ⟨vs, n, ho, ⟨_, ho, rfl, n, rfl⟩, hi⟩
theorem listAtS (N : News h₀ L s.heap news) (C : Cov prog w news led) {ns : List Str} (e : led l = some (tg, .strs ns)) : ∃ vs n, s.heap.get? l = some (listOf (List.toArray vs) n) ∧ s.heap.IsList l vs.toArray ∧ StrsAre vs ns := by
  obtain ⟨o, ho, vs, n, rfl, hi⟩ := C.get N e
  exact ⟨vs, n, ho, ⟨_, ho, rfl, n, rfl⟩, hi⟩
theorem dictAtI (N : News h₀ L s.heap news) (C : Cov prog w news led) {ks : List Int} {f : Int → Int} (e : led d = some (tg, .dints ks f)) :
    (d == sysModules) = false ∧ ∃ t : Int → Tok, s.heap.DictOf (PySem.intKind prog w) d (ks.map fun k => (k, Value.int (f k) (t k))) := by
  obtain ⟨o, ho, lo, t, hd⟩ := C.get N e
  exact ⟨lo, t, Heap.dictOf_iff.mpr ⟨o, ho, hd⟩⟩
theorem dictAtR (N : News h₀ L s.heap news) (C : Cov prog w news led) {ks : List Int} {f : Int → Addr} (e : led d = some (tg, .drefs ks f)) :
    (d == sysModules) = false ∧ s.heap.DictOf (PySem.intKind prog w) d (ks.map fun k => (k, Value.ref (f k))) := by
  obtain ⟨o, ho, lo, hd⟩ := C.get N e
  exact ⟨lo, Heap.dictOf_iff.mpr ⟨o, ho, hd⟩⟩
theorem keys_nodup {K : Type} [DecidableEq K] {knd : PySem.KeyKind prog w K} {h : Heap} {kvs : List (K × Value)} (x : h.DictOf knd d kvs) : (kvs.map (·.1)).Nodup := let ⟨_, _, _, _, _, _, _, _, n⟩ := x; n

/-! reads -/
theorem sub_dints {ks : List Int} {f : Int → Int} {k : Int} {t : Tok} {value slice : Expr} {Q : Value → Shared → Prop} (N : News h₀ L s.heap news) (C : Cov prog w news led) (e : led d = some (tg, .dints ks f)) (hk : k ∈ ks)
    (h : ∀ t', Q (.int (f k) t') { s with toks := s.toks + 1 })
    (hs : subscripted slice false (.ref d) (.int k t) = operate [.ref d, .int k t] (getItem (.ref d) (.int k t)) := by with_unfolding_all rfl) (hg : ∀ r, letTemporaryGo value (.ref d) r = pure () := by intro _; with_unfolding_all rfl) :
    wpAny (model prog w) A (subscriptTail value slice (.ref d) (.int k t)) Q E s := by
  obtain ⟨_, t', hD⟩ := dictAtI N C e
  exact subscriptTail_builtin hD.typeIs slot_dict_getitem.lookup (wpAny_getItem_of (PySem.intKind_is _ _ _ _) hD.mapOf (valueAt_map hk) (h _)) hs hg
theorem sub_drefs {ks : List Int} {f : Int → Addr} {k : Int} {t : Tok} {value slice : Expr} {Q : Value → Shared → Prop} (N : News h₀ L s.heap news) (C : Cov prog w news led) (e : led d = some (tg, .drefs ks f)) (hk : k ∈ ks)
    (h : Q (.ref (f k)) { s with toks := s.toks + 1 })
    (hs : subscripted slice false (.ref d) (.int k t) = operate [.ref d, .int k t] (getItem (.ref d) (.int k t)) := by with_unfolding_all rfl) (hg : ∀ r, letTemporaryGo value (.ref d) r = pure () := by intro _; with_unfolding_all rfl) :
    wpAny (model prog w) A (subscriptTail value slice (.ref d) (.int k t)) Q E s := by
  obtain ⟨_, hD⟩ := dictAtR N C e
  exact subscriptTail_builtin hD.typeIs slot_dict_getitem.lookup (wpAny_getItem_of (PySem.intKind_is _ _ _ _) hD.mapOf (valueAt_map hk) h) hs hg
theorem item_at {ns : List Int} {k : Int} {t : Tok} {n : Int} {value slice : Expr} {Q : Value → Shared → Prop} (N : News h₀ L s.heap news) (C : Cov prog w news led) (e : led l = some (tg, .ints ns))
    (h0 : 0 ≤ k) (hfit : k < 2 ^ 63) (hx : ns[k.toNat]? = some n) (h : ∀ t', Q (.int n t') s)
    (hs : subscripted slice false (.ref l) (.int k t) = operate [.ref l, .int k t] (getItem (.ref l) (.int k t)) := by with_unfolding_all rfl) :
    wpAny (model prog w) A (subscriptTail value slice (.ref l) (.int k t)) Q E s := by
  obtain ⟨vs, n', ho, hl, hi⟩ := listAt N C e
  obtain ⟨t', hv⟩ := intsAre_at hi _ _ hx
  exact tail_any hl.typeIs slot_list_getitem.lookup (wpAny_getItem_list hl h0 hfit (by simpa using hv) (h t')) hs
theorem item_last {ns : List Int} {t : Tok} {n : Int} {value slice : Expr} {Q : Value → Shared → Prop} (N : News h₀ L s.heap news) (C : Cov prog w news led) (e : led l = some (tg, .ints (ns ++ [n])))
    (h : ∀ t', Q (.int n t') s)
    (hs : subscripted slice false (.ref l) (.int (-1) t) = operate [.ref l, .int (-1) t] (getItem (.ref l) (.int (-1) t)) := by with_unfolding_all rfl) (hg : ∀ r, letTemporaryGo value (.ref l) r = pure () := by intro _; with_unfolding_all rfl) :
    wpAny (model prog w) A (subscriptTail value slice (.ref l) (.int (-1) t)) Q E s := by
  obtain ⟨vs, n', ho, hl, hi⟩ := listAt N C e
  refine item_list_ints_neg hl hi (by decide) (by simp only [List.length_append, List.length_cons, List.length_nil]; omega) (by decide) (fun t' => ?_) hs hg
  have : (ns ++ [n]).getD ((-1 : Int) + ((ns ++ [n]).length : Nat)).toNat 0 = n := getD_last ns n 0
  rw [this]; exact h t'
theorem len_led {ns : List Int} {Q : Value → Shared → Prop} (N : News h₀ L s.heap news) (C : Cov prog w news led) (e : led l = some (tg, .ints ns)) (hfit : ns.length < 2 ^ 62)
    (h : ∀ t tk, Q (.int (ns.length : Nat) t) { s with toks := tk }) : wpAny (model prog w) A (call (.builtin "len") [.ref l]) Q E s := by
  obtain ⟨vs, n', ho, hl, hi⟩ := listAt N C e
  exact len_ints_fit hl hi hfit (h _ _)
theorem any_mem {ns : List Int} {k : Int} : ns.any (· == k) = decide (k ∈ ns) := by
  rw [Bool.eq_iff_iff]; simp
theorem any_memS {ns : List Str} {k : Str} : ns.any (· == k) = decide (k ∈ ns) := by
  rw [Bool.eq_iff_iff]; simp
theorem in_led {ns : List Int} {k : Int} {t : Tok} {Q : Value → Shared → Prop} (N : News h₀ L s.heap news) (C : Cov prog w news led) (e : led l = some (tg, .ints ns))
    (h : Q (.bool (decide (k ∈ ns))) s) : wpAny (model prog w) A (compareOp .In (.int k t) (.ref l)) Q E s := by
  obtain ⟨vs, n', ho, hl, hi⟩ := listAt N C e
  exact in_list_ints hl hi (by rw [any_mem]; exact h)
theorem notin_led {ns : List Int} {k : Int} {t : Tok} {Q : Value → Shared → Prop} (N : News h₀ L s.heap news) (C : Cov prog w news led) (e : led l = some (tg, .ints ns))
    (h : Q (.bool (!decide (k ∈ ns))) s) : wpAny (model prog w) A (compareOp .NotIn (.int k t) (.ref l)) Q E s := by
  obtain ⟨vs, n', ho, hl, hi⟩ := listAt N C e
  exact notin_list_ints hl hi (by rw [any_mem]; exact h)
theorem notin_ledS {ns : List Str} {k : Str} {t : Tok} {Q : Value → Shared → Prop} (N : News h₀ L s.heap news) (C : Cov prog w news led) (e : led l = some (tg, .strs ns))
    (h : Q (.bool (!decide (k ∈ ns))) s) : wpAny (model prog w) A (compareOp .NotIn (.str k t) (.ref l)) Q E s := by
  obtain ⟨vs, n', ho, hl, hi⟩ := listAtS N C e
  exact notin_list_strs hl hi (by rw [any_memS]; exact h)
theorem get_drefs {ks : List Int} {f : Int → Addr} {k : Int} {t : Tok} {dflt : Value} {Q : Value → Shared → Prop} (N : News h₀ L s.heap news) (C : Cov prog w news led) (e : led d = some (tg, .drefs ks f)) (hk : k ∈ ks)
    (h : Q (.ref (f k)) { s with toks := s.toks + 1 }) : wpAny (model prog w) A (call (.builtin "dict.get") [.ref d, .int k t, dflt]) Q E s := by
  obtain ⟨lo, hD⟩ := dictAtR N C e
  exact call_meetsIn PySem.F.slot_dict_get hD.typeIs PySem.F.entry_dict_get (PySem.F.args_dict_get_3 _ _ _) (meets_dict_get_default (PySem.intKind prog w) d (PySem.intKind_is _ _ _ _) lo dflt) ⟨_, hD.mapOf, by rw [valueAt_map hk]; exact h⟩

/-! methods -/
theorem meth_append {x : AO} {pl : Sem Bool} {Q : Value × List Value → Shared → Prop} (N : News h₀ L s.heap news) (C : Cov prog w news led) (e : led l = some (tg, x)) (hx : (∃ ns, x = .ints ns) ∨ ∃ ns, x = .strs ns)
    (h : Q (.builtin "list.append", [.ref l]) s) : wpAny (model prog w) A (getMethod (.ref l) "append" pl) Q E s := by
  rcases hx with ⟨ns, rfl⟩ | ⟨ns, rfl⟩
  · obtain ⟨vs, n', ho, hl, hi⟩ := listAt N C e
    exact Calls.getMethod_list_append ho rfl rfl h
  · obtain ⟨vs, n', ho, hl, hi⟩ := listAtS N C e
    exact Calls.getMethod_list_append ho rfl rfl h
theorem meth_pop {ns : List Int} {pl : Sem Bool} {Q : Value × List Value → Shared → Prop} (N : News h₀ L s.heap news) (C : Cov prog w news led) (e : led l = some (tg, .ints ns))
    (h : Q (.builtin "list.pop", [.ref l]) s) : wpAny (model prog w) A (getMethod (.ref l) "pop" pl) Q E s := by
  obtain ⟨vs, n', ho, hl, hi⟩ := listAt N C e
  exact getMethod_builtin ⟨_, ho, rfl⟩ PySem.F.plainAttrs_list PySem.F.slot_list_pop PySem.F.type_list_pop (fun a e => by cases e; exact ⟨_, ho, rfl⟩) h
theorem meth_get {ks : List Int} {f : Int → Addr} {pl : Sem Bool} {Q : Value × List Value → Shared → Prop} (N : News h₀ L s.heap news) (C : Cov prog w news led) (e : led d = some (tg, .drefs ks f))
    (h : Q (.builtin "dict.get", [.ref d]) s) : wpAny (model prog w) A (getMethod (.ref d) "get" pl) Q E s := by
  obtain ⟨lo, hD⟩ := dictAtR N C e
  exact getMethod_builtin hD.typeIs PySem.F.plainAttrs_dict PySem.F.slot_dict_get PySem.F.type_dict_get hD.mapOf.noDict h

/-! stores -/
theorem set_dints {ks : List Int} {f : Int → Int} {k v : Int} {t u : Tok} {Q : Unit → Shared → Prop} (F : Fr h₀ L s.heap m) (N : News h₀ L s.heap news) (C : Cov prog w news led) (e : led d = some (tg, .dints ks f)) (hz : ks.length ≤ sizeLine)
    (h : ∀ h' news', Fr h₀ L h' m → News h₀ L h' news' → Cov prog w news' (upd led d (tg, .dints (if k ∈ ks then ks else ks ++ [k]) (fset f k v))) → Q () { s with heap := h', toks := s.toks + 1 }) :
    wpAny (model prog w) A (setItem (.ref d) (.int k t) (.int v u)) Q E s := by
  obtain ⟨lo, t', hD⟩ := dictAtI N C e
  refine wpAny_setItem_pairs (hsz := by simpa using hz) (PySem.intKind_is _ _ _ _) hD fun h' hmm hs => ?_
  obtain ⟨o', ho', hd'⟩ := Heap.dictOf_iff.mp hmm
  have key : ∀ ks' : List Int, o'.IsDictOf (PySem.intKind prog w) (ks'.map fun x => (x, fset (fun k => Value.int (f k) (t' k)) k (.int v u) x)) →
      AO.ok prog w d (.dints ks' (fset f k v)) o' := fun ks' hh => by
    refine ⟨lo, fset t' k u, ?_⟩
    have e2 : (fun x => (x, fset (fun k => Value.int (f k) (t' k)) k (.int v u) x)) = fun x => (x, Value.int (fset f k v x) (fset t' k u x)) := by
      funext x
      unfold fset
      by_cases q : x = k <;> simp [q]
    rw [← e2]; exact hh
  by_cases hk : k ∈ ks
  · rw [if_pos hk] at h
    rw [stored_map hk] at hd'
    obtain ⟨news', F', N', C'⟩ := led_change F N C e hs ho' (key ks hd')
    exact h h' news' F' N' C'
  · rw [if_neg hk] at h
    rw [stored_new hk] at hd'
    obtain ⟨news', F', N', C'⟩ := led_change F N C e hs ho' (key _ hd')
    exact h h' news' F' N' C'
theorem set_drefs {ks : List Int} {f : Int → Addr} {k : Int} {v : Addr} {t : Tok} {Q : Unit → Shared → Prop} (F : Fr h₀ L s.heap m) (N : News h₀ L s.heap news) (C : Cov prog w news led) (e : led d = some (tg, .drefs ks f)) (hz : ks.length ≤ sizeLine)
    (h : ∀ h' news', Fr h₀ L h' m → News h₀ L h' news' → Cov prog w news' (upd led d (tg, .drefs (if k ∈ ks then ks else ks ++ [k]) (fset f k v))) → Q () { s with heap := h', toks := s.toks + 1 }) :
    wpAny (model prog w) A (setItem (.ref d) (.int k t) (.ref v)) Q E s := by
  obtain ⟨lo, hD⟩ := dictAtR N C e
  refine wpAny_setItem_pairs (hsz := by simpa using hz) (PySem.intKind_is _ _ _ _) hD fun h' hmm hs => ?_
  obtain ⟨o', ho', hd'⟩ := Heap.dictOf_iff.mp hmm
  have key : ∀ ks' : List Int, o'.IsDictOf (PySem.intKind prog w) (ks'.map fun x => (x, fset (fun k => Value.ref (f k)) k (.ref v) x)) →
      AO.ok prog w d (.drefs ks' (fset f k v)) o' := fun ks' hh => by
    refine ⟨lo, ?_⟩
    have e2 : (fun x => (x, fset (fun k => Value.ref (f k)) k (.ref v) x)) = fun x => (x, Value.ref (fset f k v x)) := by
      funext x
      unfold fset
      by_cases q : x = k <;> simp [q]
    rw [← e2]; exact hh
  by_cases hk : k ∈ ks
  · rw [if_pos hk] at h
    rw [stored_map hk] at hd'
    obtain ⟨news', F', N', C'⟩ := led_change F N C e hs ho' (key ks hd')
    exact h h' news' F' N' C'
  · rw [if_neg hk] at h
    rw [stored_new hk] at hd'
    obtain ⟨news', F', N', C'⟩ := led_change F N C e hs ho' (key _ hd')
    exact h h' news' F' N' C'
theorem set_dints_old {ks : List Int} {f : Int → Int} {k v : Int} {t u : Tok} {Q : Unit → Shared → Prop} (F : Fr h₀ L s.heap m) (N : News h₀ L s.heap news) (C : Cov prog w news led) (e : led d = some (tg, .dints ks f)) (hz : ks.length ≤ sizeLine) (hk : k ∈ ks)
    (h : ∀ h' news', Fr h₀ L h' m → News h₀ L h' news' → Cov prog w news' (upd led d (tg, .dints ks (fset f k v))) → Q () { s with heap := h', toks := s.toks + 1 }) :
    wpAny (model prog w) A (setItem (.ref d) (.int k t) (.int v u)) Q E s := set_dints F N C e hz (by rw [if_pos hk]; exact h)
theorem set_drefs_old {ks : List Int} {f : Int → Addr} {k : Int} {v : Addr} {t : Tok} {Q : Unit → Shared → Prop} (F : Fr h₀ L s.heap m) (N : News h₀ L s.heap news) (C : Cov prog w news led) (e : led d = some (tg, .drefs ks f)) (hz : ks.length ≤ sizeLine) (hk : k ∈ ks)
    (h : ∀ h' news', Fr h₀ L h' m → News h₀ L h' news' → Cov prog w news' (upd led d (tg, .drefs ks (fset f k v))) → Q () { s with heap := h', toks := s.toks + 1 }) :
    wpAny (model prog w) A (setItem (.ref d) (.int k t) (.ref v)) Q E s := set_drefs F N C e hz (by rw [if_pos hk]; exact h)
theorem set_dints_new {ks : List Int} {f : Int → Int} {k v : Int} {t u : Tok} {Q : Unit → Shared → Prop} (F : Fr h₀ L s.heap m) (N : News h₀ L s.heap news) (C : Cov prog w news led) (e : led d = some (tg, .dints ks f)) (hz : ks.length ≤ sizeLine) (hk : k ∉ ks)
    (h : ∀ h' news', Fr h₀ L h' m → News h₀ L h' news' → Cov prog w news' (upd led d (tg, .dints (ks ++ [k]) (fset f k v))) → Q () { s with heap := h', toks := s.toks + 1 }) :
    wpAny (model prog w) A (setItem (.ref d) (.int k t) (.int v u)) Q E s := set_dints F N C e hz (by rw [if_neg hk]; exact h)
theorem set_drefs_new {ks : List Int} {f : Int → Addr} {k : Int} {v : Addr} {t : Tok} {Q : Unit → Shared → Prop} (F : Fr h₀ L s.heap m) (N : News h₀ L s.heap news) (C : Cov prog w news led) (e : led d = some (tg, .drefs ks f)) (hz : ks.length ≤ sizeLine) (hk : k ∉ ks)
    (h : ∀ h' news', Fr h₀ L h' m → News h₀ L h' news' → Cov prog w news' (upd led d (tg, .drefs (ks ++ [k]) (fset f k v))) → Q () { s with heap := h', toks := s.toks + 1 }) :
    wpAny (model prog w) A (setItem (.ref d) (.int k t) (.ref v)) Q E s := set_drefs F N C e hz (by rw [if_neg hk]; exact h)
theorem append_int {ns : List Int} {k : Int} {t : Tok} {Q : Value → Shared → Prop} (F : Fr h₀ L s.heap m) (N : News h₀ L s.heap news) (C : Cov prog w news led) (e : led l = some (tg, .ints ns)) (hz : ns.length ≤ sizeLine)
    (h : ∀ h' news', Fr h₀ L h' m → News h₀ L h' news' → Cov prog w news' (upd led l (tg, .ints (ns ++ [k]))) → Q .none { s with heap := h' }) :
    wpAny (model prog w) A (call (.builtin "list.append") [.ref l, .int k t]) Q E s := by
  obtain ⟨vs, n', ho, hl, hi⟩ := listAt N C e
  refine append_at (hsz := by rw [List.size_toArray, hi.length]; exact hz) ho fun h' hs ho' => ?_
  obtain ⟨news', F', N', C'⟩ := led_change F N C e hs ho' (y := .ints (ns ++ [k])) ⟨vs ++ [.int k t], n' + 1, by simp, intsAre_snoc hi k t⟩
  exact h h' news' F' N' C'
theorem append_str {ns : List Str} {k : Str} {t : Tok} {Q : Value → Shared → Prop} (F : Fr h₀ L s.heap m) (N : News h₀ L s.heap news) (C : Cov prog w news led) (e : led l = some (tg, .strs ns)) (hz : ns.length ≤ sizeLine)
    (h : ∀ h' news', Fr h₀ L h' m → News h₀ L h' news' → Cov prog w news' (upd led l (tg, .strs (ns ++ [k]))) → Q .none { s with heap := h' }) :
    wpAny (model prog w) A (call (.builtin "list.append") [.ref l, .str k t]) Q E s := by
  obtain ⟨vs, n', ho, hl, hi⟩ := listAtS N C e
  refine append_at (hsz := by rw [List.size_toArray, strsAre_length hi]; exact hz) ho fun h' hs ho' => ?_
  obtain ⟨news', F', N', C'⟩ := led_change F N C e hs ho' (y := .strs (ns ++ [k])) ⟨vs ++ [.str k t], n' + 1, by simp, strsAre_append hi (.cons k t .nil)⟩
  exact h h' news' F' N' C'
theorem pop_int {ns : List Int} {k : Int} {Q : Value → Shared → Prop} (F : Fr h₀ L s.heap m) (N : News h₀ L s.heap news) (C : Cov prog w news led) (e : led l = some (tg, .ints (ns ++ [k]))) (hz : ns.length < sizeLine)
    (h : ∀ t h' news', Fr h₀ L h' m → News h₀ L h' news' → Cov prog w news' (upd led l (tg, .ints ns)) → Q (.int k t) { s with heap := h' }) :
    wpAny (model prog w) A (call (.builtin "list.pop") [.ref l]) Q E s := by
  obtain ⟨vs, n', ho, hl, hi⟩ := listAt N C e
  obtain ⟨us, t, rfl, hu⟩ := intsAre_inv_snoc hi
  have hk : (us ++ [Value.int k t]).toArray.size - 1 = us.length := by rw [List.size_toArray, List.length_append]; rfl
  have hy : (us ++ [Value.int k t]).toArray[(us ++ [Value.int k t]).toArray.size - 1]? = some (.int k t) := by rw [hk]; simp
  have hz' : (us ++ [Value.int k t]).toArray.size ≤ sizeLine := by rw [List.size_toArray, List.length_append, hu.length]; exact hz
  refine call_meets PySem.F.slot_list_pop ⟨_, ho, rfl⟩ PySem.F.entry_list_pop (PySem.F.args_list_pop_1 _) (PySem.MeetsSeq.list_pop_last l _ n' (.int k t) hy hz') ⟨ho, ?_⟩
  have q := PySem.IsL.update ho (fun xs => xs.eraseIdxIfInBounds ((us ++ [Value.int k t]).toArray.size - 1))
  have e3 : ((us ++ [Value.int k t]).toArray).eraseIdxIfInBounds ((us ++ [Value.int k t]).toArray.size - 1) = us.toArray := by rw [hk, kl_erase, List.append_nil]
  rw [e3, if_neg (by rw [List.size_toArray, List.size_toArray, List.length_append]; simp)] at q
  obtain ⟨news', F', N', C'⟩ := led_change F N C e (Heap.SameBut.update ..) q (y := .ints ns) ⟨us, n' + 1, rfl, hu⟩
  exact h t _ news' F' N' C'

/-! new objects -/
theorem new_ints {vs : List Value} {ns : List Int} {Q : Value → Shared → Prop} (tg : Nat) (F : Fr h₀ L s.heap m) (N : News h₀ L s.heap news) (C : Cov prog w news led) (hi : IntsAre vs ns) (hz : ns.length ≤ sizeLine)
    (h : ∀ l h' news', Fr h₀ L h' m → News h₀ L h' news' → Cov prog w news' (upd led l (tg, .ints ns)) → led l = none → (∀ p ∈ news, p.1 < l) → h₀.get? l = none → Q (.ref l) { s with heap := h' }) : wpAny (model prog w) A (newList vs) Q E s := by
  refine newList_K (hsz := by rw [hi.length]; exact hz) F N fun l h' F' N' hlt => ?_
  refine h l h' _ F' N' (C.set (tg, .ints ns) ⟨vs, 0, rfl, hi⟩) ?_ hlt (N' _ (.head _)).2.2
  rcases q : led l with _ | x
  · rfl
  · obtain ⟨o, i, _⟩ := C l x q
    exact absurd (hlt _ i) (Nat.lt_irrefl _)
theorem new_strs {vs : List Value} {ns : List Str} {Q : Value → Shared → Prop} (tg : Nat) (F : Fr h₀ L s.heap m) (N : News h₀ L s.heap news) (C : Cov prog w news led) (hi : StrsAre vs ns) (hz : ns.length ≤ sizeLine)
    (h : ∀ l h' news', Fr h₀ L h' m → News h₀ L h' news' → Cov prog w news' (upd led l (tg, .strs ns)) → led l = none → (∀ p ∈ news, p.1 < l) → h₀.get? l = none → Q (.ref l) { s with heap := h' }) : wpAny (model prog w) A (newList vs) Q E s := by
  refine newList_K (hsz := by rw [strsAre_length hi]; exact hz) F N fun l h' F' N' hlt => ?_
  refine h l h' _ F' N' (C.set (tg, .strs ns) ⟨vs, 0, rfl, hi⟩) ?_ hlt (N' _ (.head _)).2.2
  rcases q : led l with _ | x
  · rfl
  · obtain ⟨o, i, _⟩ := C l x q
    exact absurd (hlt _ i) (Nat.lt_irrefl _)
theorem led_none_of_lt {l : Addr} (C : Cov prog w news led) (hlt : ∀ p ∈ news, p.1 < l) : led l = none := by
  rcases q : led l with _ | x
  · rfl
  · obtain ⟨o, i, _⟩ := C l x q
    exact absurd (hlt _ i) (Nat.lt_irrefl _)
theorem copy_ints {ns : List Int} {Q : Value → Shared → Prop} (tg' : Nat) (F : Fr h₀ L s.heap m) (N : News h₀ L s.heap news) (C : Cov prog w news led) (e : led l = some (tg, .ints ns)) (hz : ns.length ≤ sizeLine)
    (h : ∀ D h' news', Fr h₀ L h' m → News h₀ L h' news' → Cov prog w news' (upd led D (tg', .ints ns)) → led D = none → h₀.get? D = none → Q (.ref D) { s with heap := h' }) : wpAny (model prog w) A (call (.type "list") [.ref l]) Q E s := by
  obtain ⟨vs, n', ho, hl, hi⟩ := listAt N C e
  refine list_copyK F N hl (fun D c h' F' N' hlt => ?_) (by rw [List.size_toArray, hi.length]; exact hz)
  exact h D h' _ F' N' (C.set (tg', .ints ns) ⟨vs, c, rfl, hi⟩) (led_none_of_lt C hlt) (N' _ (.head _)).2.2
theorem copy_strs {ns : List Str} {Q : Value → Shared → Prop} (tg' : Nat) (F : Fr h₀ L s.heap m) (N : News h₀ L s.heap news) (C : Cov prog w news led) (e : led l = some (tg, .strs ns)) (hz : ns.length ≤ sizeLine)
    (h : ∀ D h' news', Fr h₀ L h' m → News h₀ L h' news' → Cov prog w news' (upd led D (tg', .strs ns)) → led D = none → h₀.get? D = none → Q (.ref D) { s with heap := h' }) : wpAny (model prog w) A (call (.type "list") [.ref l]) Q E s := by
  obtain ⟨vs, n', ho, hl, hi⟩ := listAtS N C e
  refine list_copyK F N hl (fun D c h' F' N' hlt => ?_) (by rw [List.size_toArray, strsAre_length hi]; exact hz)
  exact h D h' _ F' N' (C.set (tg', .strs ns) ⟨vs, c, rfl, hi⟩) (led_none_of_lt C hlt) (N' _ (.head _)).2.2
theorem add_ints {ns ms : List Int} {Q : Value → Shared → Prop} (tg₃ : Nat) (F : Fr h₀ L s.heap m) (N : News h₀ L s.heap news) (C : Cov prog w news led) (e : led a = some (tg, .ints ns)) (e' : led b = some (tg', .ints ms)) (hz : ns.length + ms.length ≤ sizeLine)
    (h : ∀ D h' news', Fr h₀ L h' m → News h₀ L h' news' → Cov prog w news' (upd led D (tg₃, .ints (ns ++ ms))) → led D = none → h₀.get? D = none → Q (.ref D) { s with heap := h' }) : wpAny (model prog w) A (binaryOp .Add (.ref a) (.ref b)) Q E s := by
  obtain ⟨vs, n', ho, hl, hi⟩ := listAt N C e
  obtain ⟨us, n'', ho', hl', hi'⟩ := listAt N C e'
  refine add_lists F N hl hl' (fun h' F' N' => ?_) (by rw [hi.length, hi'.length]; exact hz)
  exact h _ h' _ F' N' (C.set (tg₃, .ints (ns ++ ms)) ⟨vs ++ us, 0, rfl, IntsAre.append hi hi'⟩) (C.fresh N) (N' _ (.head _)).2.2
theorem add_strs {ns ms : List Str} {Q : Value → Shared → Prop} (tg₃ : Nat) (F : Fr h₀ L s.heap m) (N : News h₀ L s.heap news) (C : Cov prog w news led) (e : led a = some (tg, .strs ns)) (e' : led b = some (tg', .strs ms)) (hz : ns.length + ms.length ≤ sizeLine)
    (h : ∀ D h' news', Fr h₀ L h' m → News h₀ L h' news' → Cov prog w news' (upd led D (tg₃, .strs (ns ++ ms))) → led D = none → h₀.get? D = none → Q (.ref D) { s with heap := h' }) : wpAny (model prog w) A (binaryOp .Add (.ref a) (.ref b)) Q E s := by
  obtain ⟨vs, n', ho, hl, hi⟩ := listAtS N C e
  obtain ⟨us, n'', ho', hl', hi'⟩ := listAtS N C e'
  refine add_lists F N hl hl' (fun h' F' N' => ?_) (by rw [strsAre_length hi, strsAre_length hi']; exact hz)
  exact h _ h' _ F' N' (C.set (tg₃, .strs (ns ++ ms)) ⟨vs ++ us, 0, rfl, strsAre_append hi hi'⟩) (C.fresh N) (N' _ (.head _)).2.2
theorem sorted_ints_led {ns : List Int} {Q : Value → Shared → Prop} (tg' : Nat) (F : Fr h₀ L s.heap m) (N : News h₀ L s.heap news) (C : Cov prog w news led) (e : led l = some (tg, .ints ns)) (h64 : ns.length < 64)
    (h : ∀ D ms h' news', Fr h₀ L h' m → News h₀ L h' news' → Cov prog w news' (upd led D (tg', .ints ms)) → ms.Perm ns → ms.Pairwise (· ≤ ·) → led D = none → h₀.get? D = none → Q (.ref D) { s with heap := h' }) :
    wpAny (model prog w) A (call (.builtin "sorted") [.ref l]) Q E s := by
  obtain ⟨vs, n', ho, hl, hi⟩ := listAt N C e
  refine sorted_N F N hl hi (by rw [hi.length]; exact h64) fun h' vs' ns' ep F' N' a1 a2 a3 => ?_
  refine h _ ns' h' _ F' N' (C.set (tg', .ints ns') ⟨vs', ep, rfl, a1⟩) a2 a3 ?_ (N' _ (.head _)).2.2
  rcases q : led (s.heap.objs.size + 1) with _ | x
  · rfl
  · exact absurd (C.lt N q) (Nat.not_lt.mpr (Nat.le_succ _))
theorem sorted_strs_led {ns : List Str} {Q : Value → Shared → Prop} (tg' : Nat) (F : Fr h₀ L s.heap m) (N : News h₀ L s.heap news) (C : Cov prog w news led) (e : led l = some (tg, .strs ns)) (h64 : ns.length < 64)
    (h : ∀ D ms h' news', Fr h₀ L h' m → News h₀ L h' news' → Cov prog w news' (upd led D (tg', .strs ms)) → ms.Perm ns → sortedS ms = true → led D = none → h₀.get? D = none → Q (.ref D) { s with heap := h' }) :
    wpAny (model prog w) A (call (.builtin "sorted") [.ref l]) Q E s := by
  obtain ⟨vs, n', ho, hl, hi⟩ := listAtS N C e
  refine sorted_N_str F N hl hi (by rw [strsAre_length hi]; exact h64) fun h' vs' ns' ep F' N' a1 a2 a3 => ?_
  refine h _ ns' h' _ F' N' (C.set (tg', .strs ns') ⟨vs', ep, rfl, a1⟩) a2 a3 ?_ (N' _ (.head _)).2.2
  rcases q : led (s.heap.objs.size + 1) with _ | x
  · rfl
  · exact absurd (C.lt N q) (Nat.not_lt.mpr (Nat.le_succ _))
theorem ne_ints_led {ns ms : List Int} {Q : Value → Shared → Prop} (N : News h₀ L s.heap news) (C : Cov prog w news led) (e : led a = some (tg, .ints ns)) (e' : led b = some (tg', .ints ms)) (hu : A.units + 64 < cLine)
    (h : Q (.bool (!decide (ns = ms))) s) : wpAny (model prog w) A (compareOp .NotEq (.ref a) (.ref b)) Q E s := by
  obtain ⟨vs, n', ho, hl, hi⟩ := listAt N C e
  obtain ⟨us, n'', ho', hl', hi'⟩ := listAt N C e'
  exact ne_intsK hl hi hl' hi' hu h
end
end Mine
end

section
/-! ## Loops -/
open PySem PySem.W PyProof.Rows PySem.Spec PySem.Calls
set_option Elab.async false
set_option maxRecDepth 100000
namespace Mine

def cut (g : Nat) (led : Led) : Led := fun a => match led a with
  | some x => if x.1 < g then some x else none
  | none => none
theorem cut_some {g : Nat} {led : Led} {a : Addr} {x : Nat × AO} (e : led a = some x) (h : x.1 < g) : cut g led a = some x := by simp [cut, e, h]
theorem of_cut {g : Nat} {led : Led} {a : Addr} {x : Nat × AO} (e : cut g led a = some x) : led a = some x ∧ x.1 < g := by
  unfold cut at e
  split at e
  · rename_i y hy
    split at e
    · rename_i hl; cases e; exact ⟨hy, hl⟩
    · cases e
  · cases e
theorem Cov.cut {prog : Program} {w : World} {news : List (Addr × Obj)} {led : Led} (C : Cov prog w news led) (g : Nat) : Cov prog w news (Mine.cut g led) := fun a x e => C a x (of_cut e).1

def EndAt (prog : Program) (w : World) (h₀ : Heap) (L : Addr) (s : Shared) (P : (Str → Option Value) → Led → Prop) (s' : Shared) : Prop :=
  ∃ h' tk m' news' led', s' = { s with heap := h', toks := tk } ∧ Fr h₀ L h' m' ∧ News h₀ L h' news' ∧ Cov prog w news' led' ∧ P m' led'
theorem EndAt.intro {prog : Program} {w : World} {h₀ h' : Heap} {L : Addr} {s : Shared} {tk : Nat} {P : (Str → Option Value) → Led → Prop} {m' : Str → Option Value} {news' : List (Addr × Obj)} {led' : Led}
    (F : Fr h₀ L h' m') (N : News h₀ L h' news') (C : Cov prog w news' led') (p : P m' led') : EndAt prog w h₀ L s P { s with heap := h', toks := tk } := ⟨h', tk, m', news', led', rfl, F, N, C, p⟩
/-- what a turn of a loop hands on -/
def LoopPost (prog : Program) (w : World) (h₀ : Heap) (L : Addr) (s : Shared) (P : (Str → Option Value) → Led → Prop) (Q : Flow → Shared → Prop) : Flow → Shared → Prop
  | .ret v, s' => Q (.ret v) s'
  | .brk, s' => Q .next s'
  | _, s' => EndAt prog w h₀ L s P s'

theorem ite_yes {c : Prop} [Decidable c] {P Q : Prop} (hc : c) (h : P) : if c then P else Q := by rw [if_pos hc]; exact h
theorem ite_no {c : Prop} [Decidable c] {P Q : Prop} (hc : ¬ c) (h : Q) : if c then P else Q := by rw [if_neg hc]; exact h
section
variable {prog : Program} {w : World} {A : Around} {E : Value → Shared → Prop} {s : Shared} {h₀ : Heap} {env : Env}

/-- the iterator of a list -/
def itO (ax : Addr) (i : Nat) (o : Obj) : Prop := o.isFreed = false ∧ o.cls = .type "list_iterator" ∧ o.data = .fields #[.ref ax, .int (i : Nat) 0]

theorem For_seq {x : Str} {px pos : Pos} {iter : Expr} {body : List Stmt} {Q : Flow → Shared → Prop} {α : Type} (K : List Value → List α → Prop) (V : α → Value → Prop) (W : List α → AO)
    (hW : ∀ (ns : List α) (news : List (Addr × Obj)) (led : Led) (h : Heap) (l : Addr) (t : Nat), News h₀ env.locals h news → Cov prog w news led → led l = some (t, W ns) → ∃ vs, h.IsList l (List.toArray vs) ∧ K vs ns)
    (hKl : ∀ (vs : List Value) (ns : List α), K vs ns → vs.length = ns.length) (hKi : ∀ (vs : List Value) (ns : List α) (i : Nat) (v : Value), K vs ns → vs[i]? = some v → ∃ n, ns[i]? = some n ∧ V n v)
    (g : Nat) (hh : A.handled = none) (hx : env.kindOf x = some .local)
    (hp : (env.scope.kind == .class || (env.scope.kind == .module && env.locals != env.globals)) = false)
    (h : wpAny (model prog w) A (eval iter env) (fun xv s₁ => ∃ ax m news led tg ns h tk, ∃ I : Nat → (Str → Option Value) → Led → Prop, s₁ = { s with heap := h, toks := tk } ∧ xv = .ref ax ∧ Fr h₀ env.locals h m ∧ News h₀ env.locals h news ∧ Cov prog w news led ∧
        led ax = some (tg, W ns) ∧ tg < g ∧ I 0 m led ∧
        (∀ i m led, I i m led → led ax = some (tg, W ns)) ∧
        (∀ i m led led', I i m led → (∀ a x, led a = some x → led' a = some x) → I i m led') ∧
        (∀ i m led, I i m led → I i m (cut g led)) ∧
        (∀ (i : Nat) (n : α) v m₁ led₁ news₁ h tk IT ito E', ns[i]? = some n → V n v → i < ns.length → I i m₁ led₁ → led₁ IT = some (g, .raw ito) → (∀ a x, led₁ a = some x → x.1 ≤ g) →
          Fr h₀ env.locals h (fun y => if y = x then some v else m₁ y) → News h₀ env.locals h news₁ → Cov prog w news₁ led₁ →
          wpAny (model prog w) A (execs body env) (LoopPost prog w h₀ env.locals s (fun m' led' => led' IT = some (g, .raw ito) ∧ I (i + 1) m' led') Q) E' { s with heap := h, toks := tk }) ∧
        (∀ h tk m led news, Fr h₀ env.locals h m → News h₀ env.locals h news → Cov prog w news led → (∀ a x, led a = some x → x.1 < g) → I ns.length m led → Q .next { s with heap := h, toks := tk })) E s)
    (hs : ∀ x, foldedSetIterable iter env x = pure x := by intro _; rfl) :
    wpAny (model prog w) A (exec (.For (.Name x px) iter body [] pos) env) Q E s := by
  refine wpAny_For (wpAny_mono h (fun xv s₁ h₁ => ?_) fun _ _ e => e) hs
  obtain ⟨ax, m, news, led, tg, ns, h, tk, I, rfl, rfl, F, N, C, hax, htg, h0, hI, mono, hcut, turn, done⟩ := h₁
  obtain ⟨vs, hl, hi⟩ := hW ns news led h ax tg N C hax
  refine wpAny_pyIter_list (s := { s with heap := h, toks := tk }) hl ?_
  obtain ⟨o₀, ho₀, _⟩ := id hl
  have hnI : h₀.get? h.objs.size = none := next_is_new F
  refine codeAny_forLoop (fun k s' => ∃ h' tk' m' news' led' i, s' = { s with heap := h', toks := tk' } ∧ Fr h₀ env.locals h' m' ∧ News h₀ env.locals h' news' ∧ Cov prog w news' led' ∧ (∀ a x, led' a = some x → x.1 < g) ∧
      (∃ o, h'.get? h.objs.size = some o ∧ o.cls = .type "list_iterator" ∧ o.data = .fields #[.ref ax, .int (i : Nat) 0]) ∧ h.objs.size ≠ env.locals ∧ led' h.objs.size = none ∧ I i m' led' ∧ i ≤ ns.length ∧ k = ns.length + 1 - i) ?_ (ns.length + 1)
    ⟨_, tk, m, _, cut g led, 0, rfl, F.push _, N.push F _ rfl, (C.cut g).cons _, fun a x e => (of_cut e).2, ⟨_, Heap.get?_push_size _ rfl, rfl, rfl⟩, Nat.ne_of_gt F.ns.lt, (C.cut g).fresh N, hcut _ _ _ h0, Nat.zero_le _, rfl⟩
  rintro k s' ⟨h', tk', m', news', led', i, rfl, F', N', C', htags, ⟨oi, hoi, hci, hdi⟩, hIL, hIn, hJ, hile, rfl⟩
  obtain ⟨vs', hl', hi'⟩ := hW ns news' led' h' ax tg N' C' (hI _ _ _ hJ)
  have hne : ax ≠ h.objs.size := fun e => by rw [← e, hI _ _ _ hJ] at hIn; cases hIn
  have hit : h'.IsListIter h.objs.size ax i := ⟨oi, hoi, hci, hdi⟩
  by_cases hlt : i < ns.length
  · have hlt' : i < vs'.length := by rw [hKl _ _ hi']; exact hlt
    have hvx : vs'[i]? = some vs'[i] := List.getElem?_eq_getElem hlt'
    obtain ⟨n, hn, hV⟩ := hKi vs' ns i vs'[i] hi' hvx
    refine wpAny_pyNext_list_item (s := { s with heap := h', toks := tk' }) hit hl' (x := vs'[i]) (by simp [hlt']) fun h₁ hit₁ hs₁ => ?_
    obtain ⟨o₁, ho₁, hc₁, hd₁⟩ := hit₁
    have F₁ : Fr h₀ env.locals h₁ m' := F'.change hs₁ hIL hnI
    -- the iterator joins the ledger
    have NC : ∃ news₁, News h₀ env.locals h₁ news₁ ∧ Cov prog w news₁ (upd led' h.objs.size (g, .raw o₁)) := by
      refine ⟨(h.objs.size, o₁) :: news'.filter (fun p => p.1 ≠ h.objs.size), ?_, ?_⟩
      · intro p hp
        rcases List.mem_cons.mp hp with rfl | hp
        · exact ⟨ho₁, hIL, hnI⟩
        · have h2 := List.mem_filter.mp hp
          have h3 : p.1 ≠ h.objs.size := by simpa using h2.2
          exact ⟨(hs₁.2 _ h3).trans (N' p h2.1).1, (N' p h2.1).2⟩
      · intro b z e
        unfold upd at e
        split at e
        · rename_i q; subst q; cases e; exact ⟨o₁, .head _, rfl⟩
        · rename_i q
          obtain ⟨ob, hb, hk⟩ := C' b z e
          exact ⟨ob, .tail _ (List.mem_filter.mpr ⟨hb, by simpa using q⟩), hk⟩
    obtain ⟨news₁, N₁, C₁⟩ := NC
    have hup : ∀ a x, led' a = some x → upd led' h.objs.size (g, .raw o₁) a = some x := fun a x e => upd_at (fun q => by rw [q, hIn] at e; cases e) e
    refine wpAny_assign_Name (wpAny_storeName_local hx F₁.ns (fun h₂ hn₂ hs₂ => ?_) hp)
    refine wpAny_mono (turn i n vs'[i] m' (upd led' h.objs.size (g, .raw o₁)) news₁ h₂ _ h.objs.size o₁ _ hn hV hlt (mono _ _ _ _ hJ hup) upd_same ?_ (F₁.set hn₂ hs₂) (N₁.set hs₂) C₁) (fun f s₃ h₃ => ?_) fun _ _ e => e
    · intro a x e
      unfold upd at e
      split at e
      · cases e; exact Nat.le_refl _
      · exact Nat.le_of_lt (htags a x e)
    · have fin : EndAt prog w h₀ env.locals s (fun m' led' => led' h.objs.size = some (g, .raw o₁) ∧ I (i + 1) m' led') s₃ → ∃ m, m < ns.length + 1 - i ∧ ∃ h' tk' m' news' led' i, s₃ = { s with heap := h', toks := tk' } ∧ Fr h₀ env.locals h' m' ∧ News h₀ env.locals h' news' ∧ Cov prog w news' led' ∧ (∀ a x, led' a = some x → x.1 < g) ∧
          (∃ o, h'.get? h.objs.size = some o ∧ o.cls = .type "list_iterator" ∧ o.data = .fields #[.ref ax, .int (i : Nat) 0]) ∧ h.objs.size ≠ env.locals ∧ led' h.objs.size = none ∧ I i m' led' ∧ i ≤ ns.length ∧ m = ns.length + 1 - i := by
        rintro ⟨h₄, tk₄, m₄, news₄, led₄, rfl, F₄, N₄, C₄, hIT, hJ₄⟩
        obtain ⟨o₄, ho₄, hk₄⟩ := C₄.get N₄ hIT
        have e₄ : o₄ = o₁ := hk₄
        subst e₄
        refine ⟨_, ?_, h₄, tk₄, m₄, news₄, cut g led₄, i + 1, rfl, F₄, N₄, C₄.cut g, fun a x e => (of_cut e).2, ⟨_, ho₄, hc₁, hd₁⟩, hIL, ?_, hcut _ _ _ hJ₄, hlt, rfl⟩
        · omega
        · unfold cut; rw [hIT]; simp
      cases f with
      | ret v => exact h₃
      | brk => exact h₃
      | next => exact fin h₃
      | cont => exact fin h₃
  · have hin : i = ns.length := by omega
    subst hin
    refine wpAny_pyNext_list_end (s := { s with heap := h', toks := tk' }) hh hit hl' ?_ fun h₁ hk₁ => wpAny_execs_nil ?_
    · rw [List.getElem?_toArray]; exact List.getElem?_eq_none (Nat.le_of_eq (hKl _ _ hi'))
    · have F₁ : Fr h₀ env.locals h₁ m' := ⟨F'.ns.at' fun o e => hk₁ _ o (Ne.symm hIL) e, fun b o e => hk₁ b o (fun q => by rw [q, hnI] at e; cases e) (F'.keep b o e), F'.above⟩
      have N₁ : News h₀ env.locals h₁ (news'.filter (fun p => p.1 ≠ h.objs.size)) := fun p hp => by
        have h2 := List.mem_filter.mp hp
        have h3 : p.1 ≠ h.objs.size := by simpa using h2.2
        exact ⟨hk₁ _ _ h3 (N' p h2.1).1, (N' p h2.1).2⟩
      have C₁ : Cov prog w (news'.filter (fun p => p.1 ≠ h.objs.size)) led' := fun b z e => by
        obtain ⟨ob, hb, hk⟩ := C' b z e
        have hbn : b ≠ h.objs.size := fun q => by rw [q, hIn] at e; cases e
        exact ⟨ob, List.mem_filter.mpr ⟨hb, by simpa using hbn⟩, hk⟩
      exact done h₁ tk' m' led' _ F₁ N₁ C₁ htags hJ

theorem For_ints {x : Str} {px pos : Pos} {iter : Expr} {body : List Stmt} {Q : Flow → Shared → Prop} (g : Nat) (hh : A.handled = none) (hx : env.kindOf x = some .local)
    (hp : (env.scope.kind == .class || (env.scope.kind == .module && env.locals != env.globals)) = false)
    (h : wpAny (model prog w) A (eval iter env) (fun xv s₁ => ∃ ax m news led tg, ∃ ns : List Int, ∃ h tk, ∃ I : Nat → (Str → Option Value) → Led → Prop, s₁ = { s with heap := h, toks := tk } ∧ xv = .ref ax ∧ Fr h₀ env.locals h m ∧ News h₀ env.locals h news ∧ Cov prog w news led ∧
        led ax = some (tg, .ints ns) ∧ tg < g ∧ I 0 m led ∧
        (∀ i m led, I i m led → led ax = some (tg, .ints ns)) ∧
        (∀ i m led led', I i m led → (∀ a x, led a = some x → led' a = some x) → I i m led') ∧
        (∀ i m led, I i m led → I i m (cut g led)) ∧
        (∀ (i : Nat) (n : Int) t m₁ led₁ news₁ h tk IT ito E', ns[i]? = some n → i < ns.length → I i m₁ led₁ → led₁ IT = some (g, .raw ito) → (∀ a x, led₁ a = some x → x.1 ≤ g) →
          Fr h₀ env.locals h (fun y => if y = x then some (.int n t) else m₁ y) → News h₀ env.locals h news₁ → Cov prog w news₁ led₁ →
          wpAny (model prog w) A (execs body env) (LoopPost prog w h₀ env.locals s (fun m' led' => led' IT = some (g, .raw ito) ∧ I (i + 1) m' led') Q) E' { s with heap := h, toks := tk }) ∧
        (∀ h tk m led news, Fr h₀ env.locals h m → News h₀ env.locals h news → Cov prog w news led → (∀ a x, led a = some x → x.1 < g) → I ns.length m led → Q .next { s with heap := h, toks := tk })) E s)
    (hs : ∀ x, foldedSetIterable iter env x = pure x := by intro _; rfl) :
    wpAny (model prog w) A (exec (.For (.Name x px) iter body [] pos) env) Q E s := by
  refine For_seq (h₀ := h₀) IntsAre (fun n v => ∃ t, v = .int n t) .ints ?_ (fun vs ns => IntsAre.length) ?_ g hh hx hp (wpAny_mono h (fun xv s₁ h₁ => ?_) fun _ _ e => e) hs
  · intro ns news led h l t N C e
    obtain ⟨vs, n, ho, hl, hi⟩ := listAt (s := { s with heap := h }) N C e
    exact ⟨vs, hl, hi⟩
  · intro vs ns i v hi hv
    have hlt : i < ns.length := by rw [← hi.length]; exact (List.getElem?_eq_some_iff.mp hv).1
    obtain ⟨t, ht⟩ := intsAre_at hi i ns[i] (List.getElem?_eq_getElem hlt)
    exact ⟨ns[i], List.getElem?_eq_getElem hlt, t, Option.some.inj (hv.symm.trans ht)⟩
  · obtain ⟨ax, m, news, led, tg, ns, h, tk, I, e1, e2, F, N, C, hax, htg, h0, hI, mono, hcut, turn, done⟩ := h₁
    refine ⟨ax, m, news, led, tg, ns, h, tk, I, e1, e2, F, N, C, hax, htg, h0, hI, mono, hcut, ?_, done⟩
    rintro i n v m₁ led₁ news₁ h tk IT ito E' hn ⟨t, rfl⟩
    exact turn i n t m₁ led₁ news₁ h tk IT ito E' hn
theorem For_strs {x : Str} {px pos : Pos} {iter : Expr} {body : List Stmt} {Q : Flow → Shared → Prop} (g : Nat) (hh : A.handled = none) (hx : env.kindOf x = some .local)
    (hp : (env.scope.kind == .class || (env.scope.kind == .module && env.locals != env.globals)) = false)
    (h : wpAny (model prog w) A (eval iter env) (fun xv s₁ => ∃ ax m news led tg, ∃ ns : List Str, ∃ h tk, ∃ I : Nat → (Str → Option Value) → Led → Prop, s₁ = { s with heap := h, toks := tk } ∧ xv = .ref ax ∧ Fr h₀ env.locals h m ∧ News h₀ env.locals h news ∧ Cov prog w news led ∧
        led ax = some (tg, .strs ns) ∧ tg < g ∧ I 0 m led ∧
        (∀ i m led, I i m led → led ax = some (tg, .strs ns)) ∧
        (∀ i m led led', I i m led → (∀ a x, led a = some x → led' a = some x) → I i m led') ∧
        (∀ i m led, I i m led → I i m (cut g led)) ∧
        (∀ (i : Nat) (n : Str) t m₁ led₁ news₁ h tk IT ito E', ns[i]? = some n → i < ns.length → I i m₁ led₁ → led₁ IT = some (g, .raw ito) → (∀ a x, led₁ a = some x → x.1 ≤ g) →
          Fr h₀ env.locals h (fun y => if y = x then some (.str n t) else m₁ y) → News h₀ env.locals h news₁ → Cov prog w news₁ led₁ →
          wpAny (model prog w) A (execs body env) (LoopPost prog w h₀ env.locals s (fun m' led' => led' IT = some (g, .raw ito) ∧ I (i + 1) m' led') Q) E' { s with heap := h, toks := tk }) ∧
        (∀ h tk m led news, Fr h₀ env.locals h m → News h₀ env.locals h news → Cov prog w news led → (∀ a x, led a = some x → x.1 < g) → I ns.length m led → Q .next { s with heap := h, toks := tk })) E s)
    (hs : ∀ x, foldedSetIterable iter env x = pure x := by intro _; rfl) :
    wpAny (model prog w) A (exec (.For (.Name x px) iter body [] pos) env) Q E s := by
  refine For_seq (h₀ := h₀) StrsAre (fun n v => ∃ t, v = .str n t) .strs ?_ (fun vs ns => strsAre_length) ?_ g hh hx hp (wpAny_mono h (fun xv s₁ h₁ => ?_) fun _ _ e => e) hs
  · intro ns news led h l t N C e
    obtain ⟨vs, n, ho, hl, hi⟩ := listAtS (s := { s with heap := h }) N C e
    exact ⟨vs, hl, hi⟩
  · intro vs ns i v hi hv
    have hlt : i < ns.length := by rw [← strsAre_length hi]; exact (List.getElem?_eq_some_iff.mp hv).1
    obtain ⟨t, ht⟩ := strsAre_at hi i ns[i] (List.getElem?_eq_getElem hlt)
    exact ⟨ns[i], List.getElem?_eq_getElem hlt, t, Option.some.inj (hv.symm.trans ht)⟩
  · obtain ⟨ax, m, news, led, tg, ns, h, tk, I, e1, e2, F, N, C, hax, htg, h0, hI, mono, hcut, turn, done⟩ := h₁
    refine ⟨ax, m, news, led, tg, ns, h, tk, I, e1, e2, F, N, C, hax, htg, h0, hI, mono, hcut, ?_, done⟩
    rintro i n v m₁ led₁ news₁ h tk IT ito E' hn ⟨t, rfl⟩
    exact turn i n t m₁ led₁ news₁ h tk IT ito E' hn

/-- one statement, then the rest from what it leaves -/
theorem seq_cut {st : Stmt} {rest : List Stmt} {Q : Flow → Shared → Prop} (P : Shared → Prop) (h1 : wpAny (model prog w) A (exec st env) (fun f s' => f = .next ∧ P s') E s) (h2 : ∀ s', P s' → wpAny (model prog w) A (execs rest env) Q E s') :
    wpAny (model prog w) A (execs (st :: rest) env) Q E s := by
  refine wpAny_execs_cons (wpAny_mono h1 (fun f s' h => ?_) fun _ _ e => e)
  obtain ⟨rfl, hp⟩ := h
  exact h2 s' hp

abbrev rngIt (x left : Int) : Obj := { cls := .type "range_iterator", dict := none, data := .fields #[rawInt x, rawInt left, rawInt 1], slots := #[] }
theorem For_range {x : Str} {px pos : Pos} {iter : Expr} {body : List Stmt} {Q : Flow → Shared → Prop}
    (g : Nat) (hh : A.handled = none) (hx : env.kindOf x = some .local)
    (hp : (env.scope.kind == .class || (env.scope.kind == .module && env.locals != env.globals)) = false)
    (h : wpAny (model prog w) A (eval iter env) (fun xv s₁ => ∃ r m news led, ∃ n : Nat, ∃ t u v h tk, ∃ I : Nat → (Str → Option Value) → Led → Prop, s₁ = { s with heap := h, toks := tk } ∧ xv = .ref r ∧ Fr h₀ env.locals h m ∧ News h₀ env.locals h news ∧ Cov prog w news led ∧
        IsRange h r 0 (n : Int) 1 t u v ∧ n < 2 ^ 20 ∧ I 0 m led ∧
        (∀ i m led led', I i m led → (∀ a x, led a = some x → led' a = some x) → I i m led') ∧
        (∀ i m led, I i m led → I i m (cut g led)) ∧
        (∀ (i : Nat) t m₁ led₁ news₁ h tk IT ito E', i < n → I i m₁ led₁ → led₁ IT = some (g, .raw ito) → (∀ a x, led₁ a = some x → x.1 ≤ g) →
          Fr h₀ env.locals h (fun y => if y = x then some (.int (i : Int) t) else m₁ y) → News h₀ env.locals h news₁ → Cov prog w news₁ led₁ →
          wpAny (model prog w) A (execs body env) (LoopPost prog w h₀ env.locals s (fun m' led' => led' IT = some (g, .raw ito) ∧ I (i + 1) m' led') Q) E' { s with heap := h, toks := tk }) ∧
        (∀ h tk m led news, Fr h₀ env.locals h m → News h₀ env.locals h news → Cov prog w news led → (∀ a x, led a = some x → x.1 < g) → I n m led → Q .next { s with heap := h, toks := tk })) E s)
    (hs : ∀ x, foldedSetIterable iter env x = pure x := by intro _; rfl) :
    wpAny (model prog w) A (exec (.For (.Name x px) iter body [] pos) env) Q E s := by
  refine wpAny_For (wpAny_mono h (fun xv s₁ h₁ => ?_) fun _ _ e => e) hs
  obtain ⟨r, m, news, led, n, t, u, v, h, tk, I, rfl, rfl, F, N, C, hr, hn, h0, mono, hcut, turn, done⟩ := h₁
  have hsz : Builtin.Range.rangeSize 0 (n : Int) 1 = (n : Int) := by
    unfold Builtin.Range.rangeSize; simp; omega
  have hsm : Builtin.Range.small 0 (n : Int) 1 = true := by
    unfold Builtin.Range.small
    rw [hsz]
    simp [Builtin.Range.rangeFitsLong]
    omega
  refine wpAny_pyIter_range (s := { s with heap := h, toks := tk }) hr hsm ?_
  rw [hsz]
  have hnI : h₀.get? h.objs.size = none := next_is_new F
  refine codeAny_forLoop (fun k s' => ∃ h' tk' m' news' led' i, s' = { s with heap := h', toks := tk' } ∧ Fr h₀ env.locals h' m' ∧ News h₀ env.locals h' news' ∧ Cov prog w news' led' ∧ (∀ a x, led' a = some x → x.1 < g) ∧
      IsRangeIter h' h.objs.size (i : Nat) ((n : Int) - (i : Nat)) 1 ∧ h.objs.size ≠ env.locals ∧ led' h.objs.size = none ∧ I i m' led' ∧ i ≤ n ∧ k = n + 1 - i) ?_ (n + 1)
    ⟨_, tk, m, _, cut g led, 0, rfl, F.push _, N.push F _ rfl, (C.cut g).cons _, fun a x e => (of_cut e).2, (by simpa using Heap.get?_push_size _ rfl), Nat.ne_of_gt F.ns.lt, (C.cut g).fresh N, hcut _ _ _ h0, Nat.zero_le _, rfl⟩
  rintro k s' ⟨h', tk', m', news', led', i, rfl, F', N', C', htags, hit, hIL, hIn, hJ, hile, rfl⟩
  by_cases hlt : i < n
  · refine wpAny_pyNext_range_item (s := { s with heap := h', toks := tk' }) hit (by omega) fun h₁ hit₁ hs₁ => ?_
    have ho₁ : h₁.get? h.objs.size = some (rngIt ((i : Nat) + 1) ((n : Int) - (i : Nat) - 1)) := hit₁
    have F₁ : Fr h₀ env.locals h₁ m' := F'.change hs₁ hIL hnI
    have NC : ∃ news₁, News h₀ env.locals h₁ news₁ ∧ Cov prog w news₁ (upd led' h.objs.size (g, .raw (rngIt ((i : Nat) + 1) ((n : Int) - (i : Nat) - 1)))) := by
      refine ⟨(h.objs.size, rngIt ((i : Nat) + 1) ((n : Int) - (i : Nat) - 1)) :: news'.filter (fun p => p.1 ≠ h.objs.size), ?_, ?_⟩
      · intro p hp
        rcases List.mem_cons.mp hp with rfl | hp
        · exact ⟨ho₁, hIL, hnI⟩
        · have h2 := List.mem_filter.mp hp
          have h3 : p.1 ≠ h.objs.size := by simpa using h2.2
          exact ⟨(hs₁.2 _ h3).trans (N' p h2.1).1, (N' p h2.1).2⟩
      · intro b z e
        unfold upd at e
        split at e
        · rename_i q; subst q; cases e; exact ⟨_, .head _, rfl⟩
        · rename_i q
          obtain ⟨ob, hb, hk⟩ := C' b z e
          exact ⟨ob, .tail _ (List.mem_filter.mpr ⟨hb, by simpa using q⟩), hk⟩
    obtain ⟨news₁, N₁, C₁⟩ := NC
    have hup : ∀ a x, led' a = some x → upd led' h.objs.size (g, .raw (rngIt ((i : Nat) + 1) ((n : Int) - (i : Nat) - 1))) a = some x := fun a x e => upd_at (fun q => by rw [q, hIn] at e; cases e) e
    refine wpAny_assign_Name (wpAny_storeName_local hx F₁.ns (fun h₂ hn₂ hs₂ => ?_) hp)
    refine wpAny_mono (turn i _ m' (upd led' h.objs.size (g, .raw (rngIt ((i : Nat) + 1) ((n : Int) - (i : Nat) - 1)))) news₁ h₂ _ h.objs.size _ _ hlt (mono _ _ _ _ hJ hup) upd_same ?_ (F₁.set hn₂ hs₂) (N₁.set hs₂) C₁) (fun f s₃ h₃ => ?_) fun _ _ e => e
    · intro a x e
      unfold upd at e
      split at e
      · cases e; exact Nat.le_refl _
      · exact Nat.le_of_lt (htags a x e)
    · have fin : EndAt prog w h₀ env.locals s (fun m' led' => led' h.objs.size = some (g, .raw (rngIt ((i : Nat) + 1) ((n : Int) - (i : Nat) - 1))) ∧ I (i + 1) m' led') s₃ → ∃ m, m < n + 1 - i ∧ ∃ h' tk' m' news' led' i, s₃ = { s with heap := h', toks := tk' } ∧ Fr h₀ env.locals h' m' ∧ News h₀ env.locals h' news' ∧ Cov prog w news' led' ∧ (∀ a x, led' a = some x → x.1 < g) ∧
          IsRangeIter h' h.objs.size (i : Nat) ((n : Int) - (i : Nat)) 1 ∧ h.objs.size ≠ env.locals ∧ led' h.objs.size = none ∧ I i m' led' ∧ i ≤ n ∧ m = n + 1 - i := by
        rintro ⟨h₄, tk₄, m₄, news₄, led₄, rfl, F₄, N₄, C₄, hIT, hJ₄⟩
        obtain ⟨o₄, ho₄, hk₄⟩ := C₄.get N₄ hIT
        have e₄ : o₄ = rngIt ((i : Nat) + 1) ((n : Int) - (i : Nat) - 1) := hk₄
        subst e₄
        refine ⟨_, ?_, h₄, tk₄, m₄, news₄, cut g led₄, i + 1, rfl, F₄, N₄, C₄.cut g, fun a x e => (of_cut e).2, ?_, hIL, ?_, hcut _ _ _ hJ₄, hlt, rfl⟩
        · omega
        · have e1 : (((i + 1 : Nat) : Int)) = (i : Int) + 1 := by push_cast; rfl
          have e2 : (n : Int) - ((i + 1 : Nat) : Int) = (n : Int) - (i : Int) - 1 := by push_cast; omega
          rw [e2, e1]; exact ho₄
        · unfold cut; rw [hIT]; simp
      cases f with
      | ret v => exact h₃
      | brk => exact h₃
      | next => exact fin h₃
      | cont => exact fin h₃
  · have hin : i = n := by omega
    subst hin
    refine wpAny_pyNext_range_end (s := { s with heap := h', toks := tk' }) hh hit (by omega) fun h₁ hk₁ => wpAny_execs_nil ?_
    · have F₁ : Fr h₀ env.locals h₁ m' := ⟨F'.ns.at' fun o e => hk₁ _ o (Ne.symm hIL) e, fun b o e => hk₁ b o (fun q => by rw [q, hnI] at e; cases e) (F'.keep b o e), F'.above⟩
      have N₁ : News h₀ env.locals h₁ (news'.filter (fun p => p.1 ≠ h.objs.size)) := fun p hp => by
        have h2 := List.mem_filter.mp hp
        have h3 : p.1 ≠ h.objs.size := by simpa using h2.2
        exact ⟨hk₁ _ _ h3 (N' p h2.1).1, (N' p h2.1).2⟩
      have C₁ : Cov prog w (news'.filter (fun p => p.1 ≠ h.objs.size)) led' := fun b z e => by
        obtain ⟨ob, hb, hk⟩ := C' b z e
        have hbn : b ≠ h.objs.size := fun q => by rw [q, hIn] at e; cases e
        exact ⟨ob, List.mem_filter.mpr ⟨hb, by simpa using hbn⟩, hk⟩
      exact done h₁ tk' m' led' _ F₁ N₁ C₁ htags hJ

theorem While_led {test : Expr} {body : List Stmt} {pos : Pos} {Q : Flow → Shared → Prop} {m : Str → Option Value} {news : List (Addr × Obj)} {led : Led} (I : Nat → (Str → Option Value) → Led → Prop) (n : Nat)
    (F : Fr h₀ env.locals s.heap m) (N : News h₀ env.locals s.heap news) (C : Cov prog w news led) (h0 : I n m led)
    (turn : ∀ n m led news h tk E', Fr h₀ env.locals h m → News h₀ env.locals h news → Cov prog w news led → I n m led →
      wpAny (model prog w) A (isTrue test env (eval test env)) (fun b s₂ => if b then wpAny (model prog w) A (execs body env) (LoopPost prog w h₀ env.locals s (fun m' led' => ∃ k, k < n ∧ I k m' led') Q) E' s₂ else Q .next s₂) E' { s with heap := h, toks := tk }) :
    wpAny (model prog w) A (exec (.While test body [] pos) env) Q E s := by
  refine wpAny_While (codeAny_whileLoop (fun n s' => EndAt prog w h₀ env.locals s (I n) s') ?_ n ⟨s.heap, s.toks, m, news, led, rfl, F, N, C, h0⟩)
  rintro n s' ⟨h', tk', m', news', led', rfl, F', N', C', hJ⟩
  refine wpAny_mono (turn n m' led' news' h' tk' _ F' N' C' hJ) (fun b s₂ h₂ => ?_) fun _ _ e => e
  cases b with
  | true =>
    simp only [if_true] at h₂ ⊢
    refine wpAny_mono h₂ (fun f s₃ h₃ => ?_) fun _ _ e => e
    have fin : EndAt prog w h₀ env.locals s (fun m' led' => ∃ k, k < n ∧ I k m' led') s₃ → ∃ m, m < n ∧ EndAt prog w h₀ env.locals s (I m) s₃ := by
      rintro ⟨h₄, tk₄, m₄, news₄, led₄, rfl, F₄, N₄, C₄, k, hk, hJ₄⟩
      exact ⟨k, hk, h₄, tk₄, m₄, news₄, led₄, rfl, F₄, N₄, C₄, hJ₄⟩
    cases f with
    | ret v => exact h₃
    | brk => exact h₃
    | next => exact fin h₃
    | cont => exact fin h₃
  | false =>
    simp only [Bool.false_eq_true, if_false] at h₂ ⊢
    exact wpAny_execs_nil h₂
end
end Mine
end

section
/-! ## Enter -/
open PySem PySem.W PyProof.Rows PySem.Spec PySem.Calls
set_option Elab.async false
set_option maxRecDepth 100000
namespace Mine

structure Ctx (K : Frag) (p : Program) (loose : List Str) (mean : ExcName → Option Value) (mg mb : Str → Option Value) (A : Around) (base h₀ : Heap) (L : Addr) (env : Env) : Prop where
  hh : A.handled = none
  below : ∃ A₀ outer, Below A₀ base outer h₀ ∧ A.frames = some (env :: outer)
  hf : env.frame = some L
  hl : env.locals = L
  hk : env.scope.kind = .function
  X : K.In h₀
  T : Top p loose mean mg mb h₀

def retv : Flow → Value
  | .ret v => v
  | _ => .none

section
variable {prog : Program} {w : World} {K : Frag} {p : Program} {loose : List Str} {mean : ExcName → Option Value} {mg mb : Str → Option Value} {A : Around} {base h₀ : Heap} {L : Addr} {env : Env}
  {E : Value → Shared → Prop} {s : Shared} {m : Str → Option Value} {news : List (Addr × Obj)} {led : Led}

theorem enter_def {name qual : Str} {params : Arguments} {body : List Stmt} {scope : Scope} {dV kV doc pm cdv ct oc : Value} {an od : Option Addr} {osl : Array (Option Value)} {f : Addr} {args : List Value} {binds : List (Str × Value)} {Q : Value → Shared → Prop}
    (P : Value → Led → Prop) (cx : Ctx K p loose mean mg mb A base h₀ L env) (F : Fr h₀ L s.heap m) (N : News h₀ L s.heap news) (_C : Cov prog w news led)
    (ho : K.lookup f = some ⟨oc, od, .func (fnOf name qual params body scope dV kV doc pm an cdv ct), osl⟩) (hcd : codeIn K cdv qual = true) (hroom : A.depth < recursionLimit)
    (hbind : BindsTo s (fnOf name qual params body scope dV kV doc pm an cdv ct) ⟨args, []⟩ binds) (hloc : ∀ y ∈ binds, scope.names.lookup y.1 = some .local)
    (h : ∀ g L' h₁, Ctx K p loose mean mg mb (A.deeper (envOf qual scope L' f cdv)) base g L' (envOf qual scope L' f cdv) → Fr g L' h₁ (fun y => binds.reverse.lookup y) → News g L' h₁ news →
      wpAny (model prog w) (A.deeper (envOf qual scope L' f cdv)) (execs body (envOf qual scope L' f cdv)) (fun fl s' => EndAt prog w g L' s (fun _ led' => P (retv fl) led') s') (fun _ _ => False) { s with heap := h₁, toks := s.toks + binds.length })
    (hQ : ∀ v led' h' tk news', P v led' → Fr h₀ L h' m → News h₀ L h' news' → Cov prog w news' led' → Q v { s with heap := h', toks := tk })
    (hco : scope.isCoroutine = false) (hgen : scope.isGenerator = false) (hk : scope.kind = .function) (hcell : ∀ x ∈ scope.names, x.2 ≠ .cell) :
    wpAny (model prog w) A (call (.ref f) args) Q E s := by
  obtain ⟨A₀, outer, B, hA⟩ := cx.below
  refine wpAny_call (code_def B F cx.X N cx.T hA cx.hf cx.hk ho hcd hroom hbind hloc (fun g L' h₁ FG F' N' B' X' T' => ?_) hco hgen hk hcell)
  refine wpAny_mono (h g L' h₁ ⟨?_, ⟨_, _, B', ?_⟩, rfl, rfl, hk, X', T'⟩ F' N') (fun fl s' hl => ?_) fun _ _ e => e.elim
  · exact cx.hh
  · show A.frames.map _ = _
    rw [hA]; rfl
  · obtain ⟨h', tk', m', news', led', rfl, F'', N'', C'', hP⟩ := hl
    refine ⟨L', m', news', F'', N'', fun Fh Nh => ?_⟩
    have q := hQ (retv fl) led' h' tk' news' hP Fh Nh C''
    cases fl <;> exact q

theorem callWith_led {e : Expr} {rest : List Expr} {pos : Pos} {env : Env} {first : List Value} {f : Addr} {o : Obj} {fd : FuncData} {tg : Nat} {Q : Value → Shared → Prop} (_N : News h₀ L s.heap news) (_C : Cov prog w news led) (_e : led f = some (tg, .raw o)) (hd : o.data = .func fd)
    (h : wpAny (model prog w) A (spliced (backTo pos (starEach (e :: rest) env))) (fun vs s₁ => s₁.heap.get? f = some o ∧ wpAny (model prog w) A (call (.ref f) (first ++ vs)) Q E s₁) E s)
    (he : starEach (e :: rest) env = (false, eval e env) :: starEach rest env := by rfl) (hplain : (backTo pos (starEach rest env)).any (·.1) = false := by rfl) :
    wpAny (model prog w) A (callWith pos (.ref f) first (backTo pos (starEach (e :: rest) env)) []) Q E s := by
  rw [he] at h ⊢
  refine callWith_of (P := fun h => h.get? f = some o) (by show ((false || (backTo pos (starEach rest env)).any (·.1)) || false) = false; rw [hplain]; rfl) (fun h X => ⟨.frame, .inl rfl, ?_⟩) (evalArgs_plain h)
  refine (Looks.ld (part := none) X).andThen ?_
  rw [hd]
  exact .now
theorem Cov.raw {h : Heap} {a : Addr} {o : Obj} {tg : Nat} (N : News h₀ L h news) (C : Cov prog w news led) (e : led a = some (tg, .raw o)) : h.get? a = some o := by
  obtain ⟨o', ho, hk⟩ := C.get N e
  have : o' = o := hk
  rw [← this]; exact ho
end
end Mine
end

section
/-! ## Ops2 -/
open PySem PySem.W PyProof.Rows PySem.Spec PySem.Calls
set_option Elab.async false
set_option maxRecDepth 100000
namespace Mine
section
variable {prog : Program} {w : World} {A : Around} {E : Value → Shared → Prop} {s : Shared} {news : List (Addr × Obj)} {led : Led} {h₀ : Heap} {L d l a b : Addr} {m : Str → Option Value} {tg tg' : Nat} {env : Env}

theorem new_dictI {pos : Pos} {Q : Value → Shared → Prop} (tg : Nat) (f : Int → Int) (F : Fr h₀ L s.heap m) (N : News h₀ L s.heap news) (C : Cov prog w news led) (T : h₀.NoLimit)
    (h : ∀ D h' news', Fr h₀ L h' m → News h₀ L h' news' → Cov prog w news' (upd led D (tg, .dints [] f)) → led D = none → h₀.get? D = none → Q (.ref D) { s with heap := h' }) :
    wpAny (model prog w) A (eval (.Dict [] [] pos) env) Q E s := by
  refine wpAny_Dict_empty (h _ _ _ (F.push _) (N.push F _) (C.set (tg, .dints [] f) ⟨F.notModules (modules_low T), fun _ => 0, ?_⟩) (C.fresh N) (next_is_new F))
  obtain ⟨o, ho, hd⟩ := Heap.dictOf_iff.mp (Heap.DictOf.new (knd := PySem.intKind prog w) s.heap)
  rw [Heap.get?_push_size _ rfl] at ho
  exact (Option.some.inj ho) ▸ hd
theorem new_dictR {pos : Pos} {Q : Value → Shared → Prop} (tg : Nat) (f : Int → Addr) (F : Fr h₀ L s.heap m) (N : News h₀ L s.heap news) (C : Cov prog w news led) (T : h₀.NoLimit)
    (h : ∀ D h' news', Fr h₀ L h' m → News h₀ L h' news' → Cov prog w news' (upd led D (tg, .drefs [] f)) → led D = none → h₀.get? D = none → Q (.ref D) { s with heap := h' }) :
    wpAny (model prog w) A (eval (.Dict [] [] pos) env) Q E s := by
  refine wpAny_Dict_empty (h _ _ _ (F.push _) (N.push F _) (C.set (tg, .drefs [] f) ⟨F.notModules (modules_low T), ?_⟩) (C.fresh N) (next_is_new F))
  obtain ⟨o, ho, hd⟩ := Heap.dictOf_iff.mp (Heap.DictOf.new (knd := PySem.intKind prog w) s.heap)
  rw [Heap.get?_push_size _ rfl] at ho
  exact (Option.some.inj ho) ▸ hd
end
end Mine
end

section
/-! ## Comp -/
open PySem PySem.W PyProof.Rows PySem.Spec PySem.Calls
set_option Elab.async false
set_option maxRecDepth 100000
namespace Mine

section
variable {prog : Program} {w : World} {K : Frag} {p : Program} {loose : List Str} {mean : ExcName → Option Value} {mg mb : Str → Option Value} {A : Around} {base h₀ : Heap} {L : Addr} {env : Env}
  {E : Value → Shared → Prop} {s : Shared} {m : Str → Option Value} {news : List (Addr × Obj)} {led : Led}

theorem enter_defC {name qual : Str} {params : Arguments} {body : List Stmt} {scope : Scope} {dV kV doc pm cdv ct oc : Value} {an od : Option Addr} {osl : Array (Option Value)} {f : Addr} {args : List Value} {binds : List (Str × Value)} {Q : Value → Shared → Prop}
    (P : Value → Led → Prop) (cx : Ctx K p loose mean mg mb A base h₀ L env) (F : Fr h₀ L s.heap m) (N : News h₀ L s.heap news) (C : Cov prog w news led)
    (ho : K.lookup f = some ⟨oc, od, .func (fnOf name qual params body scope dV kV doc pm an cdv ct), osl⟩) (hcd : codeIn K cdv qual = true) (hroom : A.depth < recursionLimit)
    (hbind : BindsTo s (fnOf name qual params body scope dV kV doc pm an cdv ct) ⟨args, []⟩ binds) (hkind : (binds.all fun y => scope.names.lookup y.1 == some .local || scope.names.lookup y.1 == some .cell) = true)
    (hnd : ((cellsFrom 0 scope.names []).map (·.1)).Nodup)
    (h : ∀ g L' h₁ tk cells, Fr h₀ L g m → Ctx K p loose mean mg mb (A.deeper (envOfC qual scope L' f cdv)) base g L' (envOfC qual scope L' f cdv) → Fr g L' h₁ (bindL (envOfC qual scope L' f cdv).kindOf binds fun _ => none) → News g L' h₁ (cells ++ news) →
      CellsAre (bindC (envOfC qual scope L' f cdv).kindOf binds fun _ => none) (cellsFrom (L' + 1) scope.names []) cells → (∀ b x, led b = some x → b < L') →
      wpAny (model prog w) (A.deeper (envOfC qual scope L' f cdv)) (execs body (envOfC qual scope L' f cdv)) (fun fl s' => EndAt prog w g L' s (fun _ led' => P (retv fl) led') s') (fun _ _ => False) { s with heap := h₁, toks := tk })
    (hQ : ∀ v led' h' tk news', P v led' → Fr h₀ L h' m → News h₀ L h' news' → Cov prog w news' led' → Q v { s with heap := h', toks := tk })
    (hco : scope.isCoroutine = false) (hgen : scope.isGenerator = false) (hk : scope.kind = .function) :
    wpAny (model prog w) A (call (.ref f) args) Q E s := by
  obtain ⟨A₀, outer, B, hA⟩ := cx.below
  refine wpAny_call (code_defC B F cx.X N cx.T hA cx.hf cx.hk ho hcd hroom hbind hkind hnd (fun g L' h₁ tk cells FG F' N' Y B' X' T' hlt => ?_) hco hgen hk)
  refine wpAny_mono (h g L' h₁ tk cells FG ⟨?_, ⟨_, _, B', ?_⟩, rfl, rfl, hk, X', T'⟩ F' N' Y (fun b x e => ?_)) (fun fl s' hl => ?_) fun _ _ e => e.elim
  · exact cx.hh
  · show A.frames.map _ = _
    rw [hA]; rfl
  · obtain ⟨o, hm, _⟩ := C b x e
    exact hlt _ hm
  · obtain ⟨h', tk', m', news', led', rfl, F'', N'', C'', hP⟩ := hl
    refine ⟨L', m', news', F'', N'', fun Fh Nh => ?_⟩
    have q := hQ (retv fl) led' h' tk' news' hP Fh Nh C''
    cases fl <;> exact q
end

section
variable {prog : Program} {w : World} {A : Around} {E : Value → Shared → Prop} {s : Shared} {h₀ : Heap} {L a c : Addr} {m : Str → Option Value} {cn : Str} {cs : Scope} {ccd : Value} {cl : List (Str × Addr)} {env : Env}
  {x : Str} {pos : Pos} {v : Value} {news : List (Addr × Obj)} {led : Led} {tg : Nat}

theorem cellGet (N : News h₀ L s.heap news) (C : Cov prog w news led) {v : Option Value} (e : led c = some (tg, .cell v)) : s.heap.IsCell c v := by
  obtain ⟨o, ho, hk⟩ := C.get N e
  exact ⟨o, ho, hk⟩
theorem nameL_C {Q : Value → Shared → Prop} (N : News h₀ L s.heap news) (C : Cov prog w news led) (hc : cl.lookup x = some c) (e : led c = some (tg, .cell (some v))) (h : Q v s)
    (hk : cs.kind = .function := by rfl) (hx : (envX cn cs L a ccd cl).kindOf x = some .cell := by rfl) (hb : (x == ("__debug__" : Str)) = false := by decide) :
    wpAny (model prog w) A (eval (.Name x pos) (envX cn cs L a ccd cl)) Q E s := wpAny_Name (wpAny_loadName_cell hk hx hc (cellGet N C e) h) hb
theorem nameL_F {Q : Value → Shared → Prop} (N : News h₀ L s.heap news) (C : Cov prog w news led) (hc : cl.lookup x = some c) (e : led c = some (tg, .cell (some v))) (h : Q v s)
    (hk : cs.kind = .function := by rfl) (hx : (envX cn cs L a ccd cl).kindOf x = some .free := by rfl) (hb : (x == ("__debug__" : Str)) = false := by decide) (hn : (x == ("__classdict__" : Str)) = false := by decide) :
    wpAny (model prog w) A (eval (.Name x pos) (envX cn cs L a ccd cl)) Q E s := wpAny_Name (wpAny_loadName_free hk hx hc (cellGet N C e) h hn) hb
theorem storeL_C {Q : Unit → Shared → Prop} {v₀ : Option Value} (F : Fr h₀ L s.heap m) (N : News h₀ L s.heap news) (C : Cov prog w news led) (hc : cl.lookup x = some c) (e : led c = some (tg, .cell v₀))
    (h : ∀ h' news', Fr h₀ L h' m → News h₀ L h' news' → Cov prog w news' (upd led c (tg, .cell (some v))) → Q () { s with heap := h' })
    (hk : cs.kind = .function := by rfl) (hx : (envX cn cs L a ccd cl).kindOf x = some .cell := by rfl) : wpAny (model prog w) A (storeName (envX cn cs L a ccd cl) x v) Q E s := by
  refine wpAny_storeName_cell hk hx hc (cellGet N C e) fun h' hv hs => ?_
  obtain ⟨o', ho', hd'⟩ := hv
  obtain ⟨news', F', N', C'⟩ := led_change (y := .cell (some v)) F N C e hs ho' hd'
  exact h h' news' F' N' C'
/-- names within a comprehension -/
theorem nameQ_L {Q : Value → Shared → Prop} {scope : Scope} {D : Addr} (F : Fr h₀ D s.heap m) (hv : m x = some v) (h : Q v s) (hk : (relabel scope env).kind = .function := by rfl) (hx : (compEnvC scope cl D env).kindOf x = some .local := by rfl) (hb : (x == ("__debug__" : Str)) = false := by decide) :
    wpAny (model prog w) A (eval (.Name x pos) (compEnvC scope cl D env)) Q E s := wpAny_Name (wpAny_loadName_local hk hx F.ns hv h) hb
theorem nameQ_C {Q : Value → Shared → Prop} {scope : Scope} {D : Addr} (N : News h₀ D s.heap news) (C : Cov prog w news led) (hc : cl.lookup x = some c) (e : led c = some (tg, .cell (some v))) (h : Q v s) (hk : (relabel scope env).kind = .function := by rfl) (hx : (compEnvC scope cl D env).kindOf x = some .cell := by rfl) (hb : (x == ("__debug__" : Str)) = false := by decide) :
    wpAny (model prog w) A (eval (.Name x pos) (compEnvC scope cl D env)) Q E s := wpAny_Name (wpAny_loadName_cell hk hx hc (cellGet N C e) h) hb

/-- where a comprehension's ints come from -/
def Src (prog : Program) (w : World) (A : Around) (xv : Value) (s₁ : Shared) (ns : List Int) : Prop :=
  ∀ (Q : Value → Shared → Prop) (E : Value → Shared → Prop), (∀ fp P St h', Walks prog w A s₁.heap.objs.size fp [s₁.heap.objs.size] ns.length P St → (∀ i v, P i v → ∃ k t, v = .int k t ∧ ns[i]? = some k) → St 0 h' →
    (∀ b ∈ fp, b < h'.objs.size) → (∀ b o, s₁.heap.get? b = some o → h'.get? b = some o) → s₁.heap.objs.size < h'.objs.size → Q (.ref s₁.heap.objs.size) { s₁ with heap := h' }) → wpAny (model prog w) A (pyIter xv) Q E s₁

theorem src_ints {l : Addr} {ns : List Int} (hh : A.handled = none) (N : News h₀ L s.heap news) (C : Cov prog w news led) (e : led l = some (tg, .ints ns)) : Src prog w A (.ref l) s ns := by
  intro Q E h
  obtain ⟨vs, n, ho, hl, hi⟩ := listAt N C e
  have hlt : l < s.heap.objs.size := Heap.lt_size ho
  have hlen : (vs.toArray).size = ns.length := by simp [hi.length]
  refine wpAny_pyIter_list hl (h [s.heap.objs.size, l] _ _ _ (hlen ▸ Walks.list hh s.heap.objs.size l (Nat.ne_of_lt hlt) vs.toArray) (fun i v hv => ?_) ⟨⟨_, Heap.get?_push_size _ rfl, rfl, rfl⟩, hl.push _⟩ (fun b hb => ?_) (fun b o e => Heap.get?_push_of_some _ e) (by rw [Heap.size_push]; exact Nat.lt_succ_self _))
  · obtain ⟨k, t, e1, e2⟩ := hi.at i v (by simpa using hv)
    exact ⟨k, t, e1, e2⟩
  · rw [Heap.size_push]
    rcases List.mem_cons.mp hb with rfl | hb
    · exact Nat.lt_succ_self _
    · rw [List.mem_singleton.mp hb]; exact Nat.lt_succ_of_lt hlt
theorem src_range {r : Addr} {n : Nat} {t u v : Tok} (hh : A.handled = none) (hr : IsRange s.heap r 0 (n : Int) 1 t u v) (hn : n < 2 ^ 20) : Src prog w A (.ref r) s (rangeInts 0 1 n) := by
  intro Q E h
  have hsz : Builtin.Range.rangeSize 0 (n : Int) 1 = (n : Int) := by
    unfold Builtin.Range.rangeSize; simp; omega
  have hsm : Builtin.Range.small 0 (n : Int) 1 = true := by
    unfold Builtin.Range.small
    rw [hsz]
    simp [Builtin.Range.rangeFitsLong]
    omega
  have hlen : (rangeInts 0 1 n).length = n := rangeInts_length _ _ _
  refine wpAny_pyIter_range hr hsm (h [s.heap.objs.size] (fun i v => i < n ∧ ∃ t, v = .int (0 + (i : Nat) * 1) t) _ _ (by rw [hlen]; exact (Walks.range hh s.heap.objs.size 0 1 n).bound) (fun i v hv => ?_) ?_ (fun b hb => ?_) (fun b o e => Heap.get?_push_of_some _ e) (by rw [Heap.size_push]; exact Nat.lt_succ_self _))
  · obtain ⟨hi, t, rfl⟩ := hv
    exact ⟨_, t, rfl, rangeInts_get hi⟩
  · show IsRangeIter _ _ _ _ _
    rw [hsz]; simpa using Heap.get?_push_size _ rfl
  · rw [List.mem_singleton.mp hb, Heap.size_push]
    exact Nat.lt_succ_self _
theorem src_drefs {d : Addr} {ks : List Int} {f : Int → Addr} (hh : A.handled = none) (N : News h₀ L s.heap news) (C : Cov prog w news led) (e : led d = some (tg, .drefs ks f)) : Src prog w A (.ref d) s ks := by
  intro Q E h
  obtain ⟨lo, hD⟩ := dictAtR N C e
  obtain ⟨ep, hat⟩ := hD.dictAt
  have hlt := hat.lt_size
  have hlen : (ks.map fun k => (k, Value.ref (f k))).length = ks.length := by simp
  refine wpAny_pyIter_dict lo hat (h [s.heap.objs.size, d] (fun i v => ∃ k x, (ks.map fun k => (k, Value.ref (f k)))[i]? = some (k, x) ∧ (PySem.intKind prog w).is k v = true) (fun i h => h.IsKeyIter s.heap.objs.size d i (ks.map fun k => (k, Value.ref (f k))).length ep ∧ h.DictAt (PySem.intKind prog w) d (ks.map fun k => (k, Value.ref (f k))) ep) _ (by have W := Walks.dictKeys (prog := prog) (w := w) (A := A) (knd := PySem.intKind prog w) hh s.heap.objs.size d (Nat.ne_of_lt hlt) (ks.map fun k => (k, Value.ref (f k))) ep; simpa only [List.length_map] using W) (fun i v hv => ?_) ⟨⟨_, Heap.get?_push_size _ rfl, rfl, rfl⟩, hat.push _⟩ (fun b hb => ?_) (fun b o e => Heap.get?_push_of_some _ e) (by rw [Heap.size_push]; exact Nat.lt_succ_self _))
  · obtain ⟨k, x, hx, hk⟩ := hv
    rw [List.getElem?_map] at hx
    rcases q : ks[i]? with _ | k'
    · rw [q] at hx; cases hx
    · rw [q] at hx
      cases hx
      obtain ⟨t, rfl⟩ := Value.isInt_shape hk
      exact ⟨_, t, rfl, rfl⟩
  · rw [Heap.size_push]
    rcases List.mem_cons.mp hb with rfl | hb
    · exact Nat.lt_succ_self _
    · rw [List.mem_singleton.mp hb]; exact Nat.lt_succ_of_lt hlt

theorem places_ints : ∀ {vs : List Value} {ns : List Int}, vs.length = ns.length → (∀ (j : Nat) v, vs[j]? = some v → ∃ k t, v = .int k t ∧ ns[j]? = some k) → IntsAre vs ns
  | [], [], _, _ => .nil
  | [], _ :: _, h, _ => nomatch h
  | _ :: _, [], h, _ => nomatch h
  | v :: vs, n :: ns, h, g => by
    obtain ⟨k, t, rfl, e⟩ := g 0 v rfl
    cases e
    exact .cons n t (places_ints (Nat.succ.inj h) fun j v' hv => g (j + 1) v' hv)
def liftZ (pz : Int → Bool) : Value → Bool | .int a _ => pz a | _ => false
theorem pairedI {pz : Int → Bool} {f : Int → Int} : ∀ {vs : List Value} {ns : List Int}, IntsAre vs ns → ∀ {ys : List Value}, Paired (fun v y => ∃ a t u, v = Value.int a t ∧ y = Value.int (f a) u) (vs.filter (liftZ pz)) ys → IntsAre ys ((ns.filter pz).map f)
  | _, _, .nil, _, h => by cases h; exact .nil
  | _, _, .cons k t r, ys, h => by
    by_cases q : pz k = true
    · rw [List.filter_cons_of_pos (by exact q)] at h
      rw [List.filter_cons_of_pos q]
      cases h with
      | cons h1 h2 =>
        obtain ⟨a, t', u, e1, rfl⟩ := h1
        cases e1
        exact .cons _ u (pairedI r h2)
    · rw [List.filter_cons_of_neg (by exact q)] at h
      rw [List.filter_cons_of_neg q]
      exact pairedI r h

/-- all that a comprehension asks of what stands behind its source -/
def CompAsk (prog : Program) (w : World) (A : Around) (env : Env) (scope : Scope) (cl : List (Str × Addr)) (x : Str) (ifs : List Expr) (elt : Expr) (h₀ : Heap) (news : List (Addr × Obj)) (ns : List Int) (pz : Int → Bool) (f : Int → Int) : Prop :=
  (∀ C n t s₃ m₃ E', n ∈ ns → m₃ x = some (.int n t) → Fr h₀ C s₃.heap m₃ → News h₀ C s₃.heap news →
    wpAny (model prog w) A (forIn ifs true fun c r => if r = true then do let ok ← isTrue c (compEnvC scope cl C env) (eval c (compEnvC scope cl C env)); pure (ForInStep.yield ok) else pure (ForInStep.yield r)) (fun ok s₄ => ok = pz n ∧ Keeps s₃ s₄) E' s₃) ∧
  (∀ C n t s₃ m₃ E', n ∈ ns → pz n = true → m₃ x = some (.int n t) → Fr h₀ C s₃.heap m₃ → News h₀ C s₃.heap news → wpAny (model prog w) A (eval elt (compEnvC scope cl C env)) (fun y s₄ => (∃ u, y = .int (f n) u) ∧ Keeps s₃ s₄) E' s₃)

theorem ask_quiet {scope : Scope} {ifs : List Expr} {elt : Expr} {ns : List Int} {pz : Int → Bool} {f : Int → Int} {P : Nat → Value → Prop} {h' : Heap} (F : Fr h₀ L s.heap m) (N : News h₀ L s.heap news)
    (q : CompAsk prog w A env scope cl x ifs elt h₀ news ns pz f) (hP : ∀ i v, P i v → ∃ k t, v = .int k t ∧ ns[i]? = some k) (hk : ∀ b o, s.heap.get? b = some o → h'.get? b = some o) (hlt : s.heap.objs.size < h'.objs.size) :
    QuietOnC prog w A env scope cl x ifs elt [s.heap.objs.size] P (liftZ pz) (fun v y => ∃ a t u, v = Value.int a t ∧ y = Value.int (f a) u) { s with heap := h' } := by
  have old : ∀ (s₃ : Shared), (∀ b o, b ∉ [s.heap.objs.size] → h'.get? b = some o → s₃.heap.get? b = some o) → ∀ b o, s.heap.get? b = some o → s₃.heap.get? b = some o := fun s₃ hold b o e =>
    hold b o (fun hb => by have := List.mem_singleton.mp hb; exact Nat.ne_of_lt (Heap.lt_size e) this) (hk b o e)
  have frame : ∀ (s₃ : Shared) (C : Addr) m₃, h'.objs.size ≤ C → s₃.heap.Ns C m₃ → (∀ b o, b ∉ [s.heap.objs.size] → h'.get? b = some o → s₃.heap.get? b = some o) → Fr h₀ C s₃.heap m₃ ∧ News h₀ C s₃.heap news := fun s₃ C m₃ hC hn hold => by
    refine ⟨⟨hn, fun b o e => old s₃ hold b o (F.keep b o e), ?_⟩, fun p hp => ⟨old s₃ hold _ _ (N p hp).1, ?_, (N p hp).2.2⟩⟩
    · have h1 := F.above
      have h2 := F.ns.lt
      exact Nat.le_trans h1 (Nat.le_trans (Nat.le_of_lt h2) (Nat.le_trans (Nat.le_of_lt hlt) hC))
    · exact Nat.ne_of_lt (Nat.lt_of_lt_of_le (Heap.lt_size (N p hp).1) (Nat.le_trans (Nat.le_of_lt hlt) hC))
  refine ⟨fun C i v s₃ m₃ E' hC hPv hn hm hold _ => ?_, fun C i v s₃ m₃ E' hC hPv hp hn hm hold _ => ?_⟩
  · obtain ⟨k, t, rfl, hik⟩ := hP i v hPv
    obtain ⟨F', N'⟩ := frame s₃ C m₃ hC hn hold
    exact q.1 C k t s₃ m₃ E' (List.mem_of_getElem? hik) hm F' N'
  · obtain ⟨k, t, rfl, hik⟩ := hP i v hPv
    obtain ⟨F', N'⟩ := frame s₃ C m₃ hC hn hold
    exact wpAny_mono (q.2 C k t s₃ m₃ E' (List.mem_of_getElem? hik) hp hm F' N') (fun y s₄ h₄ => ⟨let ⟨u, e⟩ := h₄.1; ⟨k, t, u, rfl, e⟩, h₄.2⟩) fun _ _ e => e

theorem comp_led {elt iter : Expr} {px : Pos} {ifs : List Expr} {scope : Scope} {Q : Value → Shared → Prop} (td : Nat) (pz : Int → Bool) (f : Int → Int)
    (hclos : closureFor scope env = pure cl) (hcell : ∀ y ∈ scope.names, y.2 ≠ .cell) (hkind : scope.kind = .function)
    (hnames : ∀ y ∈ scope.names, y.2 = .local → scope.names.lookup y.1 = some .local) (hx : scope.names.lookup x = some .local)
    (h : wpAny (model prog w) A (eval iter env) (fun xv s₁ => ∃ ns m news led, Src prog w A xv s₁ ns ∧ ns.length ≤ sizeLine ∧ Fr h₀ L s₁.heap m ∧ News h₀ L s₁.heap news ∧ Cov prog w news led ∧
      CompAsk prog w A env scope cl x ifs elt h₀ news ns pz f ∧
      (∀ D h' tk news', led D = none → Fr h₀ L h' m → News h₀ L h' news' → Cov prog w news' (upd led D (td, .ints ((ns.filter pz).map f))) → Q (.ref D) { s₁ with heap := h', toks := tk })) E s)
    (hs : ∀ x, foldedSetIterable iter env x = pure x := by intro _; rfl) :
    wpAny (model prog w) A (eval (.ListComp elt [⟨.Name x px, iter, ifs, 0⟩] scope pos) env) Q E s := by
  refine wpAny_ListComp_free (liftZ pz) (fun v y => ∃ a t u, v = Value.int a t ∧ y = Value.int (f a) u) hclos hcell hkind hnames hx (wpAny_mono h (fun xv s₁ h₁ => ?_) fun _ _ e => e) hs
  obtain ⟨ns, m, news, led, src, hsz, F, N, C, q, hQ⟩ := h₁
  refine src _ _ fun fp P St h' W hP hst hfp hk hlt => ⟨s₁.heap.objs.size, fp, [s₁.heap.objs.size], ns.length, P, St, rfl, W, hsz, hst, hfp, ask_quiet F N q hP hk hlt, ?_⟩
  intro D h₂ tk ys vs hD hl hpl hlen hPs hpair hkeep
  have old : ∀ b o, s₁.heap.get? b = some o → h₂.get? b = some o := fun b o e => hkeep b o (fun hb => by have := List.mem_singleton.mp hb; exact Nat.ne_of_lt (Heap.lt_size e) this) (hk b o e)
  have hI : IntsAre ys.toList ((ns.filter pz).map f) := pairedI (places_ints hlen fun j v hv => hP j v (hPs j v hv)) hpair
  have hDn : ∀ o, s₁.heap.get? D ≠ some o := fun o e => by have := hk D o e; rw [this] at hD; cases hD
  have hled : led D = none := by
    rcases qq : led D with _ | y
    · rfl
    · obtain ⟨o, hm, _⟩ := C D y qq
      exact absurd (N _ hm).1 (hDn o)
  obtain ⟨n, hplain⟩ := hpl
  refine hQ D h₂ tk ((D, _) :: news) hled (F.keeps old) (fun p hp => ?_) (C.set _ ⟨ys.toList, n, by rw [Array.toArray_toList], hI⟩)
  rcases List.mem_cons.mp hp with rfl | hp
  · refine ⟨hplain, fun e => ?_, ?_⟩
    · obtain ⟨o, _, _, ho, _⟩ := F.ns
      exact hDn o ((congrArg s₁.heap.get? (show D = _ from e)).trans ho)
    · rcases qq : h₀.get? D with _ | o
      · rfl
      · exact absurd (F.keep _ _ qq) (hDn o)
  · exact ⟨old _ _ (N p hp).1, (N p hp).2⟩

theorem comp_assign {elt iter : Expr} {y : Str} {px py : Pos} {ifs : List Expr} {scope : Scope} {spos : Pos} {Q : Flow → Shared → Prop} (td : Nat) (pz : Int → Bool) (f : Int → Int)
    (hsw : swapsWith (.ListComp elt [⟨.Name x px, iter, ifs, 0⟩] scope pos) (some (.Name y py)) spos.line env = pure true)
    (hclos : closureFor scope env = pure cl) (hcell : ∀ y ∈ scope.names, y.2 ≠ .cell) (hkind : scope.kind = .function)
    (hnames : ∀ y ∈ scope.names, y.2 = .local → scope.names.lookup y.1 = some .local) (hx : scope.names.lookup x = some .local)
    (hy : env.kindOf y = some .local) (hp : (env.scope.kind == .class || (env.scope.kind == .module && env.locals != env.globals)) = false)
    (h : wpAny (model prog w) A (eval iter env) (fun xv s₁ => ∃ ns m news led, Src prog w A xv s₁ ns ∧ ns.length ≤ sizeLine ∧ Fr h₀ env.locals s₁.heap m ∧ News h₀ env.locals s₁.heap news ∧ Cov prog w news led ∧
      CompAsk prog w A env scope cl x ifs elt h₀ news ns pz f ∧
      (∀ D h' tk news', led D = none → Fr h₀ env.locals h' (fun z => if z = y then some (.ref D) else m z) → News h₀ env.locals h' news' → Cov prog w news' (upd led D (td, .ints ((ns.filter pz).map f))) → Q .next { s₁ with heap := h', toks := tk })) E s)
    (hs : ∀ x, foldedSetIterable iter env x = pure x := by intro _; rfl) :
    wpAny (model prog w) A (exec (.Assign [.Name y py] (.ListComp elt [⟨.Name x px, iter, ifs, 0⟩] scope pos) spos) env) Q E s := by
  refine wpAny_Assign_ListComp_free (liftZ pz) (fun v y => ∃ a t u, v = Value.int a t ∧ y = Value.int (f a) u) hsw hclos hcell hkind hnames hx hy hp (wpAny_mono h (fun xv s₁ h₁ => ?_) fun _ _ e => e) hs
  obtain ⟨ns, m, news, led, src, hsz, F, N, C, q, hQ⟩ := h₁
  refine src _ _ fun fp P St h' W hP hst hfp hk hlt => ⟨s₁.heap.objs.size, fp, [s₁.heap.objs.size], ns.length, P, St, m, rfl, W, hsz, hst, hfp, ?_, F.ns.keeps hk, ask_quiet F N q hP hk hlt, ?_⟩
  · intro hm
    exact Nat.ne_of_lt F.ns.lt (List.mem_singleton.mp hm)
  intro D h₂ tk ys vs hD hl hpl hlen hPs hpair hns hkeep
  have old : ∀ b o, b ≠ env.locals → s₁.heap.get? b = some o → h₂.get? b = some o := fun b o hb e => hkeep b o hb (fun hb => by have := List.mem_singleton.mp hb; exact Nat.ne_of_lt (Heap.lt_size e) this) (hk b o e)
  have hI : IntsAre ys.toList ((ns.filter pz).map f) := pairedI (places_ints hlen fun j v hv => hP j v (hPs j v hv)) hpair
  have hDn : ∀ o, s₁.heap.get? D ≠ some o := fun o e => by have := hk D o e; rw [this] at hD; cases hD
  have hled : led D = none := by
    rcases qq : led D with _ | y
    · rfl
    · obtain ⟨o, hm, _⟩ := C D y qq
      exact absurd (N _ hm).1 (hDn o)
  obtain ⟨n, hplain⟩ := hpl
  refine hQ D h₂ tk ((D, _) :: news) hled ⟨hns, fun b o e => old b o (Nat.ne_of_lt (Nat.lt_of_lt_of_le (Heap.lt_size e) F.above)) (F.keep b o e), F.above⟩ (fun p hp => ?_) (C.set _ ⟨ys.toList, n, by rw [Array.toArray_toList], hI⟩)
  rcases List.mem_cons.mp hp with rfl | hp
  · refine ⟨hplain, fun e => ?_, ?_⟩
    · obtain ⟨o, _, _, ho, _⟩ := F.ns
      exact hDn o ((congrArg s₁.heap.get? (show D = _ from e)).trans ho)
    · rcases qq : h₀.get? D with _ | o
      · rfl
      · exact absurd (F.keep _ _ qq) (hDn o)
  · exact ⟨old _ _ (N p hp).2.1 (N p hp).1, (N p hp).2⟩
end
end Mine
end

section
/-! ## Ops3 -/
open PySem PySem.W PyProof.Rows PySem.Spec PySem.Calls
set_option Elab.async false
set_option maxRecDepth 100000
namespace Mine
section
variable {prog : Program} {w : World} {A : Around} {E : Value → Shared → Prop} {s : Shared} {news : List (Addr × Obj)} {led : Led} {h₀ : Heap} {L d l a b : Addr} {m : Str → Option Value} {tg tg' : Nat} {env : Env}

theorem item_strs {ns : List Str} {k : Int} {t : Tok} {n : Str} {value slice : Expr} {Q : Value → Shared → Prop} (N : News h₀ L s.heap news) (C : Cov prog w news led) (e : led l = some (tg, .strs ns))
    (h0 : 0 ≤ k) (hfit : k < 2 ^ 63) (hx : ns[k.toNat]? = some n) (h : ∀ t', Q (.str n t') s)
    (hs : subscripted slice false (.ref l) (.int k t) = operate [.ref l, .int k t] (getItem (.ref l) (.int k t)) := by with_unfolding_all rfl) :
    wpAny (model prog w) A (subscriptTail value slice (.ref l) (.int k t)) Q E s := by
  obtain ⟨vs, n', ho, hl, hi⟩ := listAtS N C e
  obtain ⟨t', hv⟩ := strsAre_at hi _ _ hx
  exact tail_any hl.typeIs slot_list_getitem.lookup (wpAny_getItem_list hl h0 hfit (by simpa using hv) (h t')) hs

theorem strsAre_take : ∀ {vs : List Value} {ns : List Str}, StrsAre vs ns → ∀ k : Nat, StrsAre (vs.take k) (ns.take k)
  | _, _, _, 0 => .nil
  | _, _, .nil, _ + 1 => .nil
  | _, _, .cons _ _ h, k + 1 => .cons _ _ (strsAre_take h k)
theorem pick_up (vs : List Value) {y : Int} (h : 0 ≤ y) : slicePick vs.toArray none (some y) none = (vs.take y.toNat).toArray := by
  have e : sliceBounds none (some y) none vs.toArray.size = (((0 : Nat) : Int), ((min y.toNat vs.toArray.size : Nat) : Int), 1) := by
    simp only [sliceBounds, Option.getD_none, show (1 : Int) > 0 by decide, if_true, if_neg (show ¬ (y < 0) by omega)]
    congr 1
    congr 1
    omega
  rw [kmk_pick_nat _ e]
  show ((vs.drop 0).take (min y.toNat vs.toArray.size - 0)).toArray = _
  rw [List.drop_zero, Nat.sub_zero, List.size_toArray, kmk_take_min]
theorem slice_any {vs : List Value} {k : Int} {t : Tok} {value slice : Expr} {Q : Value → Shared → Prop} (F : Fr h₀ L s.heap m) (N : News h₀ L s.heap news) (hl : s.heap.IsList l vs.toArray) (h0 : 0 ≤ k) (hz : vs.length ≤ sizeLine)
    (h : ∀ D h', Fr h₀ L h' m → News h₀ L h' ((D, listOf (List.toArray (vs.take k.toNat)) 0) :: news) → (∀ p ∈ news, p.1 < D) → h₀.get? D = none → Q (.ref D) { s with heap := h' })
    (hs : ∃ ops, subscripted slice false (.ref l) (.ref s.heap.objs.size) = operate ops (getItem (.ref l) (.ref s.heap.objs.size)) := by exact ⟨_, by with_unfolding_all rfl⟩) :
    wpAny (model prog w) A (subscriptTail value slice (.ref l) (.ref s.heap.objs.size)) Q E { s with heap := s.heap.push { cls := .type "slice", data := .fields #[.none, .int k t, .none] } } := by
  obtain ⟨ops, hs⟩ := hs
  refine tail_any (Heap.IsList.typeIs (s := { s with heap := s.heap.push { cls := .type "slice", data := .fields #[.none, .int k t, .none] } }) (hl.push _)) list_getitem_lookup
    (wpAny_getItem_list_slice (hl.push _) (Heap.IsSliceOf.new ..) .none (.int k t) .none (by simp) ?_ (by rw [List.size_toArray]; exact hz)) hs
  have N1 := News.push (F.push { cls := .type "slice", data := .fields #[.none, .int k t, .none] }) (N.grown fun _ _ e => Heap.get?_push_of_some _ e) { cls := .type "list", data := .seq (slicePick vs.toArray none (some k) none) }
  have F1 := (F.push { cls := .type "slice", data := .fields #[.none, .int k t, .none] }).push { cls := .type "list", data := .seq (slicePick vs.toArray none (some k) none) }
  rw [pick_up vs h0] at N1 F1 ⊢
  exact h _ _ F1 N1 (fun p hp => by rw [Heap.size_push]; exact Nat.lt_succ_of_lt (Heap.lt_size (N p hp).1)) (N1 _ (.head _)).2.2
theorem slice_strs {ns : List Str} {k : Int} {t : Tok} {value slice : Expr} {Q : Value → Shared → Prop} (tg' : Nat) (F : Fr h₀ L s.heap m) (N : News h₀ L s.heap news) (C : Cov prog w news led) (e : led l = some (tg, .strs ns)) (h0 : 0 ≤ k) (hz : ns.length ≤ sizeLine)
    (h : ∀ D h' news', Fr h₀ L h' m → News h₀ L h' news' → Cov prog w news' (upd led D (tg', .strs (ns.take k.toNat))) → led D = none → Q (.ref D) { s with heap := h' })
    (hs : ∃ ops, subscripted slice false (.ref l) (.ref s.heap.objs.size) = operate ops (getItem (.ref l) (.ref s.heap.objs.size)) := by exact ⟨_, by with_unfolding_all rfl⟩) :
    wpAny (model prog w) A (subscriptTail value slice (.ref l) (.ref s.heap.objs.size)) Q E { s with heap := s.heap.push { cls := .type "slice", data := .fields #[.none, .int k t, .none] } } := by
  obtain ⟨vs, n', ho, hl, hi⟩ := listAtS N C e
  exact slice_any F N hl h0 (by rw [strsAre_length hi]; exact hz) (fun D h' F' N' hlt hD => h D h' _ F' N' (C.set (tg', .strs (ns.take k.toNat)) ⟨_, 0, rfl, strsAre_take hi _⟩) (led_none_of_lt C hlt)) hs
theorem slice_h0 {vs : List Value} {ns : List Int} {k : Int} {t : Tok} {value slice : Expr} {Q : Value → Shared → Prop} (tg' : Nat) (F : Fr h₀ L s.heap m) (N : News h₀ L s.heap news) (C : Cov prog w news led) (hl : h₀.IsList l vs.toArray) (hi : IntsAre vs ns) (h0 : 0 ≤ k) (hz : ns.length ≤ sizeLine)
    (h : ∀ D h' news', Fr h₀ L h' m → News h₀ L h' news' → Cov prog w news' (upd led D (tg', .ints (ns.take k.toNat))) → led D = none → Q (.ref D) { s with heap := h' })
    (hs : ∃ ops, subscripted slice false (.ref l) (.ref s.heap.objs.size) = operate ops (getItem (.ref l) (.ref s.heap.objs.size)) := by exact ⟨_, by with_unfolding_all rfl⟩) :
    wpAny (model prog w) A (subscriptTail value slice (.ref l) (.ref s.heap.objs.size)) Q E { s with heap := s.heap.push { cls := .type "slice", data := .fields #[.none, .int k t, .none] } } :=
  slice_any F N (F.lst hl) h0 (by rw [hi.length]; exact hz) (fun D h' F' N' hlt hD => h D h' _ F' N' (C.set (tg', .ints (ns.take k.toNat)) ⟨_, 0, rfl, hi.take _⟩) (led_none_of_lt C hlt)) hs

/-- the cells of a fresh call enter the ledger -/
theorem cells_led {cm : Str → Option Value} (tag : Str → Nat) : ∀ {cs : List (Str × Addr)} {cells news : List (Addr × Obj)}, CellsAre cm cs cells → Cov prog w news led → (∀ y ∈ cs, led y.2 = none) → cs.Pairwise (fun x y => x.2 ≠ y.2) →
    ∃ led', Cov prog w (cells ++ news) led' ∧ (∀ b x, led b = some x → led' b = some x) ∧ (∀ n c, cs.lookup n = some c → led' c = some (tag n, .cell (cm n))) ∧ (∀ b x, led' b = some x → led b = some x ∨ ∃ y ∈ cs, b = y.2)
  | [], _, _, .nil, C, _, _ => ⟨led, C, fun _ _ e => e, fun _ _ h => (nomatch h), fun _ _ e => .inl e⟩
  | (n₀, c₀) :: cs, _, _, .cons (o := o) (cells := cells) hd r, C, hn, hp => by
    obtain ⟨led₁, C₁, k₁, l₁, b₁⟩ := cells_led tag r C (fun y hy => hn y (.tail _ hy)) (List.pairwise_cons.mp hp).2
    have hc0 : led₁ c₀ = none := by
      rcases q : led₁ c₀ with _ | x
      · rfl
      · rcases b₁ _ _ q with e | ⟨y, hy, e⟩
        · rw [hn _ (.head _)] at e; cases e
        · exact absurd e ((List.pairwise_cons.mp hp).1 y hy)
    refine ⟨upd led₁ c₀ (tag n₀, .cell (cm n₀)), C₁.set (tag n₀, .cell (cm n₀)) hd, fun b x e => look_new (k₁ b x e) hc0, fun n c h => ?_, fun b x e => ?_⟩
    · rw [List.lookup_cons] at h
      split at h
      · rename_i q
        cases h
        have : n = n₀ := by simpa using q
        rw [this]; exact upd_same
      · exact look_new (l₁ n c h) hc0
    · by_cases q : b = c₀
      · exact .inr ⟨_, .head _, q⟩
      · rw [upd_ne q] at e
        rcases b₁ b x e with e | ⟨y, hy, e⟩
        · exact .inl e
        · exact .inr ⟨y, .tail _ hy, e⟩
theorem cellsFrom_ok {n₀ : Nat} : ∀ (names : List (Str × NameKind)) (n : Nat) (acc : List (Str × Addr)), (∀ y ∈ acc, n₀ ≤ (y.2 : Nat) ∧ (y.2 : Nat) < n) → acc.Pairwise (fun x y => x.2 ≠ y.2) → n₀ ≤ n →
    (∀ y ∈ cellsFrom n names acc, n₀ ≤ (y.2 : Nat)) ∧ (cellsFrom n names acc).Pairwise (fun x y => x.2 ≠ y.2)
  | [], n, acc, h, hp, _ => ⟨fun y hy => (h y hy).1, hp⟩
  | (x, k) :: r, n, acc, h, hp, hn => by
    unfold cellsFrom
    by_cases hk : (k == .cell) = true
    · rw [if_pos hk]
      refine cellsFrom_ok r (n + 1) ((x, n) :: acc) (fun y hy => ?_) (List.pairwise_cons.mpr ⟨fun y hy => ?_, hp⟩) (Nat.le_succ_of_le hn)
      · rcases List.mem_cons.mp hy with rfl | hy
        · exact ⟨hn, Nat.lt_succ_self _⟩
        · exact ⟨(h y hy).1, Nat.lt_succ_of_lt (h y hy).2⟩
      · exact fun e => Nat.lt_irrefl n ((show (n : Nat) = y.2 from e) ▸ (h y hy).2)
    · rw [if_neg hk]
      exact cellsFrom_ok r n acc h hp hn
end
end Mine
end

section
/-! ## Ints -/
open PySem PySem.W PyProof.Rows PySem.Spec PySem.Calls
set_option Elab.async false
set_option maxRecDepth 100000
namespace Mine
section
variable {prog : Program} {w : World} {A : Around} {E : Value → Shared → Prop} {s : Shared} {a b x : Int} {t u : Tok} {Q : Value → Shared → Prop}

theorem bits_le {a : Int} {k : Nat} (h : a.natAbs < 2 ^ k) : Builtin.Int.intBits a ≤ k := by
  unfold Builtin.Int.intBits
  split
  · exact Nat.zero_le _
  · rename_i q
    have h0 : a.natAbs ≠ 0 := by simpa using q
    exact (Nat.log2_lt h0).mpr h
theorem bits_lt {a : Int} {k : Nat} (h : Builtin.Int.intBits a ≤ k) : a.natAbs < 2 ^ k := by
  unfold Builtin.Int.intBits at h
  split at h
  · rename_i q
    have : a = 0 := by simpa using q
    subst this
    exact Nat.two_pow_pos k
  · rename_i q
    have h0 : a.natAbs ≠ 0 := by simpa using q
    exact (Nat.log2_lt h0).mp h
theorem pow3 (hx : Builtin.Int.intBits x ≤ 2 ^ 20) (h : Q (.int ((x * 2654435761 + 1013904223) ^ 3) s.toks) { s with toks := s.toks + 1 }) : wpAny (model prog w) A (binaryOp .Pow (.int (x * 2654435761 + 1013904223) t) (.int 3 u)) Q E s := by
  refine pow_int (n := 3) (by decide) ?_ h
  have h1 := bits_lt hx
  generalize hN : 2 ^ 20 = N at h1 hx
  have h2 : (x * 2654435761 + 1013904223).natAbs < 2 ^ (N + 33) := by
    rw [Nat.pow_add]
    generalize 2 ^ N = M at h1 ⊢
    have : (2 : Nat) ^ 33 = 8589934592 := by decide
    omega
  have h3 := bits_le h2
  have hN' : N = 1048576 := by rw [← hN]
  have : (2 : Int) ^ 27 = 134217728 := by decide
  omega
theorem pow_const (hb : 0 ≤ b) (hb2 : b ≤ 1000000) (ha : a.natAbs < 2 ^ 64) (h : ∀ k t', Q (.int k t') { s with toks := s.toks + 1 }) : wpAny (model prog w) A (binaryOp .Pow (.int a t) (.int b u)) Q E s := pow_int_small hb hb2 ha (h _ _)
theorem pow7 {k : Int} (h0 : 0 ≤ k) (h3 : k ≤ 3) (h : Q (.int (7 ^ (k + 1).toNat) s.toks) { s with toks := s.toks + 1 }) : wpAny (model prog w) A (binaryOp .Pow (.int 7 t) (.int (k + 1) u)) Q E s := pow_int_small (by omega) (by omega) (by decide) h
theorem seven {k : Int} (h0 : 0 ≤ k) (h3 : k ≤ 3) : ((7 : Int) ^ (k + 1).toNat) ≠ 0 ∧ ((7 : Int) ^ (k + 1).toNat).natAbs < 1073741824 := by
  have : k = 0 ∨ k = 1 ∨ k = 2 ∨ k = 3 := by omega
  rcases this with rfl | rfl | rfl | rfl <;> decide
theorem div7 {k : Int} (h0 : 0 ≤ k) (h3 : k ≤ 3) (h : Q (.int (a.fdiv (7 ^ (k + 1).toNat)) s.toks) { s with toks := s.toks + 1 }) : wpAny (model prog w) A (binaryOp .FloorDiv (.int a t) (.int (7 ^ (k + 1).toNat) u)) Q E s :=
  floordiv_int (seven h0 h3).1 h (.inl (PyProof.noPylong_small (seven h0 h3).2))
end
end Mine
end

section
/-! ## Ops4 -/
open PySem PySem.W PyProof.Rows PyProof.V PySem.Spec PySem.Calls PySem.SeqAt
set_option Elab.async false
set_option maxRecDepth 100000
namespace Mine
theorem readsAll_strsM {h : Heap} : ∀ {vs : List Value} {ns : List Str}, StrsAre vs ns → ReadsAll h vs (ns.map PyData.str) []
  | _, _, .nil => .nil
  | _, _, .cons k t r => by
    have := ReadsAll.cons (Reads.str (h := h) k t) (readsAll_strsM (h := h) r)
    simpa using this
theorem reads_strsM {h : Heap} {a : Addr} {vs : List Value} {ns : List Str} (hl : h.IsList a vs.toArray) (hi : StrsAre vs ns) : Reads h (.ref a) (.list (ns.map PyData.str)) [a] := by
  obtain ⟨o, ho, hc, n, hd⟩ := hl
  exact Reads.list ho hc hd (by simpa using readsAll_strsM hi)
theorem canLay_strsM : ∀ ns : List Str, (∀ a ∈ ns, PyData.strOk a = true) → PyData.canLayAll0 (ns.map PyData.str) = true
  | [], _ => by simp [PyData.canLayAll0]
  | n :: r, h => by simp [PyData.canLayAll0, PyData.canLay0, canLay_strsM r fun a ha => h a (.tail _ ha), h n (.head _)]
theorem depth_strsM : ∀ ns : List Str, PyData.depthAll (ns.map PyData.str) ≤ 1
  | [] => by simp [PyData.depthAll]
  | n :: r => by
    have := depth_strsM r
    simp only [List.map_cons, PyData.depthAll, PyData.depth]
    omega
theorem shaped_strsM (ns : List Str) (ho : ∀ a ∈ ns, PyData.strOk a = true) : shaped (.list (ns.map PyData.str)) = true := by
  have h1 := depth_strsM ns
  have h2 : PyData.depth (.list (ns.map PyData.str)) ≤ 64 := by simp only [PyData.depth]; omega
  show (PyData.canLay0 (.list (ns.map PyData.str)) && decide (PyData.depth (.list (ns.map PyData.str)) ≤ 64)) = true
  rw [Bool.and_eq_true]
  exact ⟨by simp only [PyData.canLay0]; exact canLay_strsM ns ho, decide_eq_true h2⟩
theorem noMix_strsM : ∀ ns ms : List Str, noMixAll (ns.map PyData.str) (ms.map PyData.str) = true
  | [], [] => by simp [noMixAll]
  | [], _ :: _ => by simp [noMixAll]
  | _ :: _, [] => by simp [noMixAll]
  | _ :: r, _ :: q => by simp [noMixAll, noMix, noMix_strsM r q]
theorem same_strsM : ∀ ns ms : List Str, PySem.Spec.sameAll (ns.map PyData.str) (ms.map PyData.str) = decide (ns = ms)
  | [], [] => by simp [PySem.Spec.sameAll]
  | [], _ :: _ => by simp [PySem.Spec.sameAll]
  | _ :: _, [] => by simp [PySem.Spec.sameAll]
  | n :: r, k :: q => by
    simp only [List.map_cons, PySem.Spec.sameAll, PySem.Spec.same, same_strsM r q]
    by_cases h : n = k <;> simp [h]
section
variable {prog : Program} {w : World} {A : Around} {E : Value → Shared → Prop} {s : Shared} {news : List (Addr × Obj)} {led : Led} {h₀ : Heap} {L a b : Addr} {tg tg' : Nat}
theorem ne_strs_led {ns ms : List Str} {Q : Value → Shared → Prop} (N : News h₀ L s.heap news) (C : Cov prog w news led) (e : led a = some (tg, .strs ns)) (e' : led b = some (tg', .strs ms)) (o1 : ∀ a ∈ ns, PyData.strOk a = true) (o2 : ∀ a ∈ ms, PyData.strOk a = true) (hu : A.units + 64 < cLine)
    (h : Q (.bool (!decide (ns = ms))) s) : wpAny (model prog w) A (compareOp .NotEq (.ref a) (.ref b)) Q E s := by
  obtain ⟨vs, n', ho, hl, hi⟩ := listAtS N C e
  obtain ⟨us, n'', ho', hl', hi'⟩ := listAtS N C e'
  exact ne_dataH_same (reads_strsM hl hi) (reads_strsM hl' hi') (shaped_strsM ns o1) (shaped_strsM ms o2) hu (by simp only [noMix]; exact noMix_strsM ns ms) (by simp only [PySem.Spec.same]; rw [same_strsM]; exact h)
end
end Mine
end

section
/-! ## Clos -/
open PySem PySem.W PyProof.Rows PySem.Spec PySem.Calls
set_option Elab.async false
set_option maxRecDepth 100000
namespace Mine
section
variable {prog : Program} {w : World} {M : Model} {A : Around} {E : Value → Shared → Prop} {s : Shared} {h₀ : Heap} {L a c P : Addr} {m mg mb : Str → Option Value} {cn : Str} {cs : Scope} {ccd : Value} {cl : List (Str × Addr)} {news : List (Addr × Obj)} {led : Led}
  {p : Program} {loose : List Str} {mean : ExcName → Option Value} {name qual : Str} {params : Arguments} {body : List Stmt} {scope : Scope} {ps : Array Value} {pos : Pos} {firstLine : Nat} {clos : List (Str × Addr)} {tg : Nat}

theorem def_led {Q : Value → Shared → Prop} (tC tF : Nat) (F : Fr h₀ L s.heap m) (N : News h₀ L s.heap news) (C : Cov prog w news led) (T : Top p loose mean mg mb h₀) (CH : CodeHd h₀ c P) (hcd : ccd = .ref c) (e : led P = some (tg, .raw (tabObj ps))) (ht : TriplesOk ps.toList) (hnf : codeAmong pos ps.toList = none)
    (hcl : closureFor scope (envX cn cs L a ccd cl) = pure clos)
    (h : ∀ f c' oc vs t ctv doc pm h' tk news', Fr h₀ L h' m → News h₀ L h' news' →
      Cov prog w news' (upd (upd (upd led P (tg, .raw (tabObj (ps ++ #[rawInt pos.line, rawInt pos.col, .ref c'])))) c' (tC, .raw oc)) f (tF, .raw (fnMade name qual params body scope clos doc pm c' ctv))) →
      oc.data = .fields vs → vs[1]? = some (.str qual t) → led c' = none → led f = none → f ≠ c' → Q (.ref f) { s with heap := h', toks := tk }) :
    wpAny M A (makeFunction name qual params (.stmts body) scope (envX cn cs L a ccd cl) [] [] [] pos firstLine) Q E s := by
  obtain ⟨o, hm, ho⟩ := C P _ e
  have ho' : o = tabObj ps := ho
  subst ho'
  have N' : News h₀ L s.heap ((P, tabObj ps) :: news.filter (fun q => q.1 ≠ P)) := fun q hq => by
    rcases List.mem_cons.mp hq with rfl | hq
    · exact N _ hm
    · exact N _ (List.mem_filter.mp hq).1
  have U : UpdF P (tabObj ps) ((P, tabObj ps) :: news.filter (fun q => q.1 ≠ P)) (fun o' => (P, o') :: news.filter (fun q => q.1 ≠ P)) := .head fun q hq => by simpa using (List.mem_filter.mp hq).2
  refine nest_K F N' T CH hcd U ht hnf hcl fun f c' oc vs t ctv doc h' tk F₁ N₁ h1 h2 h3 h4 => ?_
  have below : ∀ b x, led b = some x → b < c' := fun b x hb => by
    obtain ⟨ob, hbm, _⟩ := C b x hb
    by_cases q : b = P
    · subst q; exact h3 _ (.head _)
    · exact h3 _ (.tail _ (List.mem_filter.mpr ⟨hbm, by simpa using q⟩))
  have hc' : led c' = none := by
    rcases q : led c' with _ | x
    · rfl
    · exact absurd (below _ _ q) (Nat.lt_irrefl _)
  have hf' : led f = none := by
    rcases q : led f with _ | x
    · rfl
    · exact absurd (below _ _ q) (Nat.not_lt.mpr (Nat.le_of_lt h4))
  refine h f c' oc vs t ctv doc ((mg "__name__").getD .none) h' tk _ F₁ N₁ ?_ h1 h2 hc' hf' (Nat.ne_of_gt h4)
  have C₁ : Cov prog w ((P, tabObj (ps ++ #[rawInt pos.line, rawInt pos.col, .ref c'])) :: news.filter (fun q => q.1 ≠ P)) (upd led P (tg, .raw (tabObj (ps ++ #[rawInt pos.line, rawInt pos.col, .ref c'])))) := fun b z hb => by
    unfold upd at hb
    split at hb
    · rename_i q; subst q; cases hb; exact ⟨_, .head _, rfl⟩
    · rename_i q
      obtain ⟨ob, hbm, hk⟩ := C b z hb
      exact ⟨ob, .tail _ (List.mem_filter.mpr ⟨hbm, by simpa using q⟩), hk⟩
  exact (C₁.set (tC, .raw oc) rfl).set (tF, .raw _) rfl
end

section
variable {prog : Program} {w : World} {K : Frag} {p : Program} {loose : List Str} {mean : ExcName → Option Value} {mg mb : Str → Option Value} {A : Around} {base h₀ : Heap} {L : Addr} {env : Env}
  {E : Value → Shared → Prop} {s : Shared} {m : Str → Option Value} {news : List (Addr × Obj)} {led : Led}

theorem enter_nest {name qual : Str} {params : Arguments} {body : List Stmt} {scope : Scope} {cl : List (Str × Addr)} {doc pm ctv : Value} {c' : Addr} {f : Addr} {args : List Value} {binds : List (Str × Value)} {oc : Obj} {cvs : Array Value} {ct : Tok} {tF tC : Nat} {Q : Value → Shared → Prop}
    (P : Value → Led → Prop) (cx : Ctx K p loose mean mg mb A base h₀ L env) (F : Fr h₀ L s.heap m) (N : News h₀ L s.heap news) (C : Cov prog w news led)
    (ho : led f = some (tF, .raw (fnMade name qual params body scope cl doc pm c' ctv))) (hc : led c' = some (tC, .raw oc)) (hcd : oc.data = .fields cvs) (hcv : cvs[1]? = some (.str qual ct)) (hroom : A.depth < recursionLimit)
    (hbind : BindsTo s (fnX name qual params body scope cl .none .none doc pm none (.ref c') ctv) ⟨args, []⟩ binds) (hloc : ∀ y ∈ binds, scope.names.lookup y.1 = some .local)
    (h : ∀ g L' h₁, Ctx K p loose mean mg mb (A.deeper (envX qual scope L' f (.ref c') cl)) base g L' (envX qual scope L' f (.ref c') cl) → Fr g L' h₁ (fun y => binds.reverse.lookup y) → News g L' h₁ news →
      wpAny (model prog w) (A.deeper (envX qual scope L' f (.ref c') cl)) (execs body (envX qual scope L' f (.ref c') cl)) (fun fl s' => EndAt prog w g L' s (fun _ led' => P (retv fl) led') s') (fun _ _ => False) { s with heap := h₁, toks := s.toks + binds.length })
    (hQ : ∀ v led' h' tk news', P v led' → Fr h₀ L h' m → News h₀ L h' news' → Cov prog w news' led' → Q v { s with heap := h', toks := tk })
    (hco : scope.isCoroutine = false) (hgen : scope.isGenerator = false) (hk : scope.kind = .function) (hcell : ∀ x ∈ scope.names, x.2 ≠ .cell) :
    wpAny (model prog w) A (call (.ref f) args) Q E s := by
  obtain ⟨A₀, outer, B, hA⟩ := cx.below
  obtain ⟨o, hm, ho'⟩ := C f _ ho
  have e1 : o = fnMade name qual params body scope cl doc pm c' ctv := ho'
  subst e1
  obtain ⟨o2, hm2, ho2⟩ := C c' _ hc
  have e2 : o2 = oc := ho2
  subst e2
  refine wpAny_call (code_nest B F cx.X N cx.T hA cx.hf cx.hk hm (codeRec_news N hm2 hcd hcv) hroom hbind hloc (fun g L' h₁ FG F' N' B' X' T' => ?_) hco hgen hk hcell)
  refine wpAny_mono (h g L' h₁ ⟨?_, ⟨_, _, B', ?_⟩, rfl, rfl, hk, X', T'⟩ F' N') (fun fl s' hl => ?_) fun _ _ e => e.elim
  · exact cx.hh
  · show A.frames.map _ = _
    rw [hA]; rfl
  · obtain ⟨h', tk', m', news', led', rfl, F'', N'', C'', hP⟩ := hl
    refine ⟨L', m', news', F'', N'', fun Fh Nh => ?_⟩
    have q := hQ (retv fl) led' h' tk' news' hP Fh Nh C''
    cases fl <;> exact q
end
theorem def_keep {led led' : Led} {P c f : Addr} {tg : Nat} {x1 y : AO} {x2 x3 : Nat × AO} (e' : upd (upd (upd led P (tg, x1)) c x2) f x3 = led') (hP : led P = some (tg, y)) (hc : led c = none) (hf : led f = none) : ∀ a (t : Nat) x, led a = some (t, x) → t ≠ tg → led' a = some (t, x) := fun a t x e ht => by
  rw [← e']
  exact upd_at (fun z => by rw [z, hf] at e; cases e) (upd_at (fun z => by rw [z, hc] at e; cases e) (look e hP ht))
theorem def_P {led led' : Led} {P c f : Addr} {tg : Nat} {x1 y : AO} {x2 x3 : Nat × AO} (e' : upd (upd (upd led P (tg, x1)) c x2) f x3 = led') (hP : led P = some (tg, y)) (hc : led c = none) (hf : led f = none) : led' P = some (tg, x1) := by
  rw [← e']
  exact upd_at (fun z => by rw [z, hf] at hP; cases hP) (upd_at (fun z => by rw [z, hc] at hP; cases hP) upd_same)
theorem def_c {led led' : Led} {P c f : Addr} {x1 x2 x3 : Nat × AO} (e' : upd (upd (upd led P x1) c x2) f x3 = led') (h : f ≠ c) : led' c = some x2 := by
  rw [← e']
  exact upd_at (Ne.symm h) upd_same
theorem def_f {led led' : Led} {P c f : Addr} {x1 x2 x3 : Nat × AO} (e' : upd (upd (upd led P x1) c x2) f x3 = led') : led' f = some x3 := by
  rw [← e']
  exact upd_same
end Mine
end

section
/-! ## Pure -/
open PySem
set_option Elab.async false
namespace Mine

/-! ## the plain law of traverse -/
inductive Reach (ties : Int → List Int) : Int → Int → Prop
  | refl (x : Int) : Reach ties x x
  | step {x y z : Int} : y ∈ ties x → Reach ties y z → Reach ties x z
theorem Reach.trans {ties : Int → List Int} {x y z : Int} (h : Reach ties x y) (k : Reach ties y z) : Reach ties x z := by
  induction h with
  | refl => exact k
  | step m _ ih => exact .step m (ih k)
theorem Reach.one {ties : Int → List Int} {x y : Int} (h : y ∈ ties x) : Reach ties x y := .step h (.refl _)

structure Gr where
  pts : List Int
  ties : Int → List Int
  own : Int → List Str
  marks : List Str
structure Gr.Ok (G : Gr) : Prop where
  nodup : G.pts.Nodup
  few : G.pts.length ≤ 8
  ties : ∀ p ∈ G.pts, ∀ y ∈ G.ties p, y ∈ G.pts
  own : ∀ p ∈ G.pts, (G.own p).Nodup
  ofMarks : ∀ p ∈ G.pts, ∀ a ∈ G.own p, a ∈ G.marks
  fewMarks : G.marks.length ≤ 30
theorem Gr.Ok.reach {G : Gr} (ok : G.Ok) {v z : Int} (h : Reach G.ties v z) : v ∈ G.pts → z ∈ G.pts := by
  induction h with
  | refl => exact id
  | step m _ ih => exact fun hv => ih (ok.ties _ hv _ m)

abbrev MAX : Int := 9223372036854775807

structure PS where
  stk : List Int
  num : Int → Int
  fk : List Int
  fa : Int → Addr
  ms : Int → List Str

def pset {α : Type} (f : Int → α) (k : Int) (v : α) : Int → α := fun x => if x = k then v else f x
theorem pset_same {α : Type} {f : Int → α} {k : Int} {v : α} : pset f k v k = v := by simp [pset]
theorem pset_ne {α : Type} {f : Int → α} {k x : Int} {v : α} (h : x ≠ k) : pset f k v x = f x := by simp [pset, h]

/-- the marks of ys join those of xs -/
def mergeL (xs : List Str) : List Str → List Str
  | [] => xs
  | a :: r => mergeL (if a ∈ xs then xs else xs ++ [a]) r
theorem mem_mergeL {a : Str} : ∀ {ys xs : List Str}, a ∈ mergeL xs ys ↔ a ∈ xs ∨ a ∈ ys
  | [], xs => by simp [mergeL]
  | b :: r, xs => by
    rw [mergeL, mem_mergeL]
    by_cases h : b ∈ xs
    · rw [if_pos h, List.mem_cons]
      constructor
      · rintro (q | q); exact .inl q; exact .inr (.inr q)
      · rintro (q | q | q); exact .inl q; exact .inl (q ▸ h); exact .inr q
    · rw [if_neg h, List.mem_append, List.mem_singleton, List.mem_cons]
      constructor
      · rintro ((q | q) | q); exact .inl q; exact .inr (.inl q); exact .inr (.inr q)
      · rintro (q | q | q); exact .inl (.inl q); exact .inl (.inr q); exact .inr q
theorem nodup_mergeL : ∀ {ys xs : List Str}, xs.Nodup → (mergeL xs ys).Nodup
  | [], xs, h => h
  | b :: r, xs, h => by
    rw [mergeL]
    refine nodup_mergeL ?_
    by_cases q : b ∈ xs
    · rw [if_pos q]; exact h
    · rw [if_neg q]
      refine List.nodup_append.mpr ⟨h, by simp, fun a ha c hc e => ?_⟩
      rw [List.mem_singleton] at hc
      exact q (hc ▸ e ▸ ha)
theorem mergeL_snoc {a : Str} : ∀ {ys xs : List Str}, mergeL xs (ys ++ [a]) = if a ∈ mergeL xs ys then mergeL xs ys else mergeL xs ys ++ [a]
  | [], xs => rfl
  | b :: r, xs => by rw [List.cons_append, mergeL, mergeL_snoc]; rfl
theorem mergeL_self : ∀ {ys xs : List Str}, (∀ a ∈ ys, a ∈ xs) → mergeL xs ys = xs
  | [], _, _ => rfl
  | b :: r, xs, h => by
    rw [mergeL, if_pos (h b (.head _))]
    exact mergeL_self fun a q => h a (.tail _ q)

structure Inv (G : Gr) (σ : PS) : Prop where
  nodupS : σ.stk.Nodup
  nodupF : σ.fk.Nodup
  fkpts : ∀ v ∈ σ.fk, v ∈ G.pts
  stkfk : ∀ v ∈ σ.stk, v ∈ σ.fk
  num0 : ∀ v ∈ G.pts, v ∉ σ.fk → σ.num v = 0
  numC : ∀ v ∈ σ.fk, v ∉ σ.stk → σ.num v = MAX
  low : ∀ (i : Nat) v, σ.stk[i]? = some v → 1 ≤ σ.num v ∧ σ.num v ≤ i + 1 ∧ ∃ u, σ.stk[(σ.num v - 1).toNat]? = some u ∧ Reach G.ties v u
  closed : ∀ v ∈ σ.fk, v ∉ σ.stk → ∀ y ∈ G.ties v, y ∈ σ.fk ∧ y ∉ σ.stk
  sound : ∀ v ∈ σ.fk, ∀ a ∈ σ.ms v, ∃ z, Reach G.ties v z ∧ a ∈ G.own z
  nodupM : ∀ v ∈ σ.fk, (σ.ms v).Nodup
  full : ∀ v ∈ σ.fk, v ∉ σ.stk → ∀ z, Reach G.ties v z → ∀ a ∈ G.own z, a ∈ σ.ms v
  alone : ∀ u ∈ σ.stk, ∀ v ∈ σ.fk, σ.fa v = σ.fa u → v = u
  scc : ∀ u ∈ σ.fk, u ∉ σ.stk → ∀ v ∈ σ.fk, v ∉ σ.stk → (σ.fa u = σ.fa v ↔ Reach G.ties u v ∧ Reach G.ties v u)
  same : ∀ u ∈ σ.fk, ∀ v ∈ σ.fk, σ.fa u = σ.fa v → σ.ms u = σ.ms v

theorem Inv.closed_reach {G : Gr} {σ : PS} (I : Inv G σ) {v z : Int} (h : Reach G.ties v z) : v ∈ σ.fk → v ∉ σ.stk → z ∈ σ.fk ∧ z ∉ σ.stk := by
  induction h with
  | refl => exact fun a b => ⟨a, b⟩
  | step m _ ih => exact fun a b => let ⟨c, d⟩ := I.closed _ a b _ m; ih c d

/-- what a call of traverse upon x makes of σ -/
structure Post (G : Gr) (σ : PS) (x : Int) (σ' : PS) : Prop where
  inv : Inv G σ'
  stk : σ'.stk = σ.stk ∨ ∃ T, σ'.stk = σ.stk ++ x :: T
  grow : ∃ ws, σ'.fk = σ.fk ++ x :: ws
  keep : ∀ v ∈ σ.fk, σ'.num v = σ.num v ∧ σ'.fa v = σ.fa v ∧ σ'.ms v = σ.ms v
  new : ∀ v ∈ σ'.fk, v ∉ σ.fk → Reach G.ties x v
  left : ∀ (i : Nat) v, σ'.stk[i]? = some v → σ.stk.length ≤ i →
    v ∉ σ.fk ∧ σ'.num x ≤ σ'.num v ∧ σ'.num v ≤ i ∧ (∀ y ∈ G.ties v, y ∈ σ'.fk) ∧ (∀ (j : Nat) y, σ.stk[j]? = some y → y ∈ G.ties v → σ'.num x ≤ j + 1) ∧
    (∀ a ∈ G.own v, a ∈ σ'.ms x) ∧ (∀ y ∈ G.ties v, y ∉ σ'.stk → ∀ a ∈ σ'.ms y, a ∈ σ'.ms x)

/-- the state within the call upon x, when the ties pre are done -/
structure Mid (G : Gr) (σ : PS) (x : Int) (pre : List Int) (μ : PS) : Prop where
  inv : Inv G μ
  hx : x ∈ G.pts
  hxn : x ∉ σ.fk
  stk : ∃ T, μ.stk = σ.stk ++ x :: T
  grow : ∃ ws, μ.fk = σ.fk ++ x :: ws
  keep : ∀ v ∈ σ.fk, μ.num v = σ.num v ∧ μ.fa v = σ.fa v ∧ μ.ms v = σ.ms v
  new : ∀ v ∈ μ.fk, v ∉ σ.fk → Reach G.ties x v
  done : ∀ y ∈ pre, y ∈ μ.fk ∧ (∀ (j : Nat), σ.stk[j]? = some y → μ.num x ≤ j + 1) ∧ (y ∉ μ.stk → ∀ a ∈ μ.ms y, a ∈ μ.ms x)
  ownx : ∀ a ∈ G.own x, a ∈ μ.ms x
  left : ∀ (i : Nat) v, μ.stk[i]? = some v → σ.stk.length + 1 ≤ i →
    v ∉ σ.fk ∧ μ.num x ≤ μ.num v ∧ μ.num v ≤ i ∧ (∀ y ∈ G.ties v, y ∈ μ.fk) ∧ (∀ (j : Nat) y, σ.stk[j]? = some y → y ∈ G.ties v → μ.num x ≤ j + 1) ∧
    (∀ a ∈ G.own v, a ∈ μ.ms x) ∧ (∀ y ∈ G.ties v, y ∉ μ.stk → ∀ a ∈ μ.ms y, a ∈ μ.ms x)

theorem get_app_l {α : Type} {l r : List α} {i : Nat} {v : α} (h : l[i]? = some v) : (l ++ r)[i]? = some v := by
  have hi : i < l.length := by
    rcases Nat.lt_or_ge i l.length with q | q
    · exact q
    · rw [List.getElem?_eq_none q] at h; cases h
  rw [List.getElem?_append_left hi]; exact h
theorem get_lt {α : Type} {l : List α} {i : Nat} {v : α} (h : l[i]? = some v) : i < l.length := by
  rcases Nat.lt_or_ge i l.length with q | q
  · exact q
  · rw [List.getElem?_eq_none q] at h; cases h
theorem get_app_r {α : Type} {l r : List α} {i : Nat} {v : α} (h : (l ++ r)[i]? = some v) (hi : l.length ≤ i) : r[i - l.length]? = some v := by
  rw [List.getElem?_append_right hi] at h; exact h
theorem get_unapp {α : Type} {l r : List α} {i : Nat} {v : α} (h : (l ++ r)[i]? = some v) (hi : i < l.length) : l[i]? = some v := by
  rw [List.getElem?_append_left hi] at h; exact h

def startS (σ : PS) (x : Int) (a : Addr) (own : List Str) : PS :=
  { stk := σ.stk ++ [x], num := pset σ.num x (σ.stk.length + 1 : Nat), fk := σ.fk ++ [x], fa := pset σ.fa x a, ms := pset σ.ms x own }

theorem mid_start {G : Gr} (ok : G.Ok) {σ : PS} (I : Inv G σ) {x : Int} (hx : x ∈ G.pts) (hn : x ∉ σ.fk) {a : Addr} (ha : ∀ v ∈ σ.fk, σ.fa v ≠ a) : Mid G σ x [] (startS σ x a (G.own x)) := by
  have hxs : x ∉ σ.stk := fun h => hn (I.stkfk x h)
  have ne : ∀ v ∈ σ.fk, v ≠ x := fun v hv e => hn (e ▸ hv)
  have memF : ∀ v, v ∈ σ.fk ++ [x] ↔ v ∈ σ.fk ∨ v = x := fun v => by rw [List.mem_append, List.mem_singleton]
  have memS : ∀ v, v ∈ σ.stk ++ [x] ↔ v ∈ σ.stk ∨ v = x := fun v => by rw [List.mem_append, List.mem_singleton]
  have old : ∀ v, v ∈ σ.fk ++ [x] → v ∉ σ.stk ++ [x] → v ∈ σ.fk ∧ v ∉ σ.stk ∧ v ≠ x := fun v h k => by
    rw [memS] at k
    rcases (memF v).mp h with q | q
    · exact ⟨q, fun z => k (.inl z), ne v q⟩
    · exact absurd (.inr q) k
  refine ⟨⟨?_, ?_, ?_, ?_, ?_, ?_, ?_, ?_, ?_, ?_, ?_, ?_, ?_, ?_⟩, hx, hn, ⟨[], rfl⟩, ⟨[], rfl⟩, ?_, ?_, (fun _ h => nomatch h), ?_, ?_⟩
  · exact List.nodup_append.mpr ⟨I.nodupS, by simp, fun u hu c hc e => hxs (by rw [List.mem_singleton] at hc; exact hc ▸ e ▸ hu)⟩
  · exact List.nodup_append.mpr ⟨I.nodupF, by simp, fun u hu c hc e => hn (by rw [List.mem_singleton] at hc; exact hc ▸ e ▸ hu)⟩
  · intro v hv
    rcases (memF v).mp hv with q | q
    · exact I.fkpts v q
    · exact q ▸ hx
  · intro v hv
    rcases (memS v).mp hv with q | q
    · exact (memF v).mpr (.inl (I.stkfk v q))
    · exact (memF v).mpr (.inr q)
  · intro v hp hv
    have h1 : v ∉ σ.fk := fun q => hv ((memF v).mpr (.inl q))
    have h2 : v ≠ x := fun q => hv ((memF v).mpr (.inr q))
    show pset σ.num x _ v = 0
    rw [pset_ne h2]; exact I.num0 v hp h1
  · intro v hv hs
    obtain ⟨h1, h2, h3⟩ := old v hv hs
    show pset σ.num x _ v = MAX
    rw [pset_ne h3]; exact I.numC v h1 h2
  · intro i v h
    show 1 ≤ pset σ.num x _ v ∧ pset σ.num x _ v ≤ i + 1 ∧ ∃ u, (σ.stk ++ [x])[(pset σ.num x _ v - 1).toNat]? = some u ∧ _
    rcases Nat.lt_or_ge i σ.stk.length with q | q
    · have h' := get_unapp (show (σ.stk ++ [x])[i]? = some v from h) q
      have hv : v ≠ x := fun e => hxs (e ▸ List.mem_of_getElem? h')
      rw [pset_ne hv]
      obtain ⟨a1, a2, u, a3, a4⟩ := I.low i v h'
      exact ⟨a1, a2, u, get_app_l a3, a4⟩
    · have h' := get_app_r (show (σ.stk ++ [x])[i]? = some v from h) q
      have hi : i = σ.stk.length := by have := get_lt (show (σ.stk ++ [x])[i]? = some v from h); simp at this; omega
      subst hi
      simp at h'
      subst h'
      rw [pset_same]
      refine ⟨by omega, by omega, x, ?_, .refl _⟩
      have : ((((σ.stk.length + 1 : Nat) : Int)) - 1).toNat = σ.stk.length := by omega
      rw [this]; simp
  · intro v hv hs y hy
    obtain ⟨h1, h2, h3⟩ := old v hv hs
    obtain ⟨b1, b2⟩ := I.closed v h1 h2 y hy
    exact ⟨(memF y).mpr (.inl b1), fun q => by rcases (memS y).mp q with z | z; exact b2 z; exact ne y b1 z⟩
  · intro v hv b hb
    rcases (memF v).mp hv with q | q
    · have hb' : b ∈ σ.ms v := by rw [← pset_ne (f := σ.ms) (v := G.own x) (ne v q)]; exact hb
      exact I.sound v q b hb'
    · subst q
      have hb' : b ∈ G.own v := by rw [← pset_same (f := σ.ms) (k := v) (v := G.own v)]; exact hb
      exact ⟨v, .refl _, hb'⟩
  · intro v hv
    show (pset σ.ms x (G.own x) v).Nodup
    rcases (memF v).mp hv with q | q
    · rw [pset_ne (ne v q)]; exact I.nodupM v q
    · subst q; rw [pset_same]; exact ok.own v hx
  · intro v hv hs z hz b hb
    obtain ⟨h1, h2, h3⟩ := old v hv hs
    show b ∈ pset σ.ms x (G.own x) v
    rw [pset_ne h3]; exact I.full v h1 h2 z hz b hb
  · intro u hu v hv e
    have e' : pset σ.fa x a v = pset σ.fa x a u := e
    rcases (memS u).mp hu with q | q <;> rcases (memF v).mp hv with r | r
    · rw [pset_ne (ne v r), pset_ne (ne u (I.stkfk u q))] at e'
      exact I.alone u q v r e'
    · subst r
      rw [pset_same, pset_ne (ne u (I.stkfk u q))] at e'
      exact absurd e'.symm (ha u (I.stkfk u q))
    · subst q
      rw [pset_same, pset_ne (ne v r)] at e'
      exact absurd e' (ha v r)
    · rw [q, r]
  · intro u hu hus v hv hvs
    obtain ⟨a1, a2, a3⟩ := old u hu hus
    obtain ⟨b1, b2, b3⟩ := old v hv hvs
    show pset σ.fa x a u = pset σ.fa x a v ↔ _
    rw [pset_ne a3, pset_ne b3]
    exact I.scc u a1 a2 v b1 b2
  · intro u hu v hv e
    have e' : pset σ.fa x a u = pset σ.fa x a v := e
    show pset σ.ms x (G.own x) u = pset σ.ms x (G.own x) v
    rcases (memF u).mp hu with q | q <;> rcases (memF v).mp hv with r | r
    · rw [pset_ne (ne v r), pset_ne (ne u q)] at e'
      rw [pset_ne (ne v r), pset_ne (ne u q)]
      exact I.same u q v r e'
    · subst r
      rw [pset_same, pset_ne (ne u q)] at e'
      exact absurd e' (ha u q)
    · subst q
      rw [pset_same, pset_ne (ne v r)] at e'
      exact absurd e'.symm (ha v r)
    · rw [q, r]
  · intro v hv
    exact ⟨pset_ne (ne v hv), pset_ne (ne v hv), pset_ne (ne v hv)⟩
  · intro v hv hvn
    rcases (memF v).mp hv with q | q
    · exact absurd q hvn
    · exact q ▸ .refl _
  · intro b hb
    show b ∈ pset σ.ms x (G.own x) x
    rw [pset_same]; exact hb
  · intro i v h hi
    have := get_lt (show (σ.stk ++ [x])[i]? = some v from h)
    simp at this
    omega

/-- the tail of a turn: the number and the marks of x take in those of y -/
def stepS (μ : PS) (x y : Int) : PS := { μ with num := pset μ.num x (min (μ.num x) (μ.num y)), ms := pset μ.ms x (mergeL (μ.ms x) (μ.ms y)) }

theorem idx_unique {l : List Int} (h : l.Nodup) {i j : Nat} {v : Int} (hi : l[i]? = some v) (hj : l[j]? = some v) : i = j := by
  rcases Nat.lt_trichotomy i j with q | q | q
  · exfalso
    have h1 := get_lt hi
    have h2 := get_lt hj
    have := List.pairwise_iff_getElem.mp h i j h1 h2 q
    rw [List.getElem?_eq_getElem h1] at hi
    rw [List.getElem?_eq_getElem h2] at hj
    exact this ((Option.some.inj hi).trans (Option.some.inj hj).symm)
  · exact q
  · exfalso
    have h1 := get_lt hi
    have h2 := get_lt hj
    have := List.pairwise_iff_getElem.mp h j i h2 h1 q
    rw [List.getElem?_eq_getElem h1] at hi
    rw [List.getElem?_eq_getElem h2] at hj
    exact this ((Option.some.inj hj).trans (Option.some.inj hi).symm)

theorem nodup_le {α : Type} [DecidableEq α] : ∀ {l m : List α}, l.Nodup → (∀ a ∈ l, a ∈ m) → l.length ≤ m.length
  | [], m, _, _ => Nat.zero_le _
  | a :: r, m, h, hs => by
    have ha : a ∈ m := hs a (.head _)
    have hr : r.length ≤ (m.erase a).length := nodup_le (List.nodup_cons.mp h).2 fun b hb =>
      (List.mem_erase_of_ne (fun e => (List.nodup_cons.mp h).1 (by rw [← e]; exact hb))).mpr (hs b (.tail _ hb))
    rw [List.length_erase_of_mem ha] at hr
    have := List.length_pos_of_mem ha
    rw [List.length_cons]; omega
theorem Inv.few {G : Gr} (ok : G.Ok) {μ : PS} (I : Inv G μ) : μ.stk.length ≤ 8 := Nat.le_trans (nodup_le I.nodupS fun a h => I.fkpts a (I.stkfk a h)) ok.few
theorem Inv.fewF {G : Gr} (ok : G.Ok) {μ : PS} (I : Inv G μ) : μ.fk.length ≤ 8 := Nat.le_trans (nodup_le I.nodupF fun a h => I.fkpts a h) ok.few

theorem Inv.step {G : Gr} (ok : G.Ok) {μ : PS} (I : Inv G μ) {x y : Int} (hx : x ∈ μ.stk) (hy : y ∈ μ.fk) (ht : y ∈ G.ties x) : Inv G (stepS μ x y) := by
  have hxf := I.stkfk x hx
  have hne : ∀ v, v ∉ μ.stk → v ≠ x := fun v h e => h (e ▸ hx)
  have hfew := I.few ok
  refine ⟨I.nodupS, I.nodupF, I.fkpts, I.stkfk, ?_, ?_, ?_, I.closed, ?_, ?_, ?_, I.alone, I.scc, ?_⟩
  · intro v hp hv
    show pset μ.num x _ v = 0
    rw [pset_ne (fun e => hv (by rw [e]; exact hxf))]; exact I.num0 v hp hv
  · intro v hv hs
    show pset μ.num x _ v = MAX
    rw [pset_ne (hne v hs)]; exact I.numC v hv hs
  · intro i v h
    have h' : μ.stk[i]? = some v := h
    show 1 ≤ pset μ.num x _ v ∧ pset μ.num x _ v ≤ i + 1 ∧ ∃ u, μ.stk[(pset μ.num x _ v - 1).toNat]? = some u ∧ _
    by_cases e : v = x
    · subst e
      rw [pset_same]
      obtain ⟨a1, a2, u, a3, a4⟩ := I.low i v h'
      rcases Int.le_total (μ.num v) (μ.num y) with q | q
      · rw [Int.min_eq_left q]; exact ⟨a1, a2, u, a3, a4⟩
      · rw [Int.min_eq_right q]
        by_cases hys : y ∈ μ.stk
        · obtain ⟨j, hj⟩ := List.getElem?_of_mem hys
          obtain ⟨b1, b2, u', b3, b4⟩ := I.low j y hj
          exact ⟨b1, Int.le_trans q a2, u', b3, .step ht b4⟩
        · have hm := I.numC y hy hys
          have h64 := get_lt h'
          exfalso
          rw [hm] at q
          simp only [MAX] at q
          omega
    · rw [pset_ne e]; exact I.low i v h'
  · intro v hv a ha
    have ha' : a ∈ pset μ.ms x (mergeL (μ.ms x) (μ.ms y)) v := ha
    by_cases e : v = x
    · subst e
      rw [pset_same] at ha'
      rcases mem_mergeL.mp ha' with q | q
      · exact I.sound v hv a q
      · obtain ⟨z, h1, h2⟩ := I.sound y hy a q
        exact ⟨z, .step ht h1, h2⟩
    · rw [pset_ne e] at ha'; exact I.sound v hv a ha'
  · intro v hv
    show (pset μ.ms x (mergeL (μ.ms x) (μ.ms y)) v).Nodup
    by_cases e : v = x
    · subst e; rw [pset_same]; exact nodup_mergeL (I.nodupM v hv)
    · rw [pset_ne e]; exact I.nodupM v hv
  · intro v hv hs z hz a ha
    show a ∈ pset μ.ms x _ v
    rw [pset_ne (hne v hs)]; exact I.full v hv hs z hz a ha
  · intro u hu v hv e
    show pset μ.ms x _ u = pset μ.ms x _ v
    by_cases e1 : u = x
    · have e2 := I.alone u (e1 ▸ hx) v hv e.symm
      rw [e2]
    · by_cases e2 : v = x
      · have e3 := I.alone v (e2 ▸ hx) u hu e
        exact absurd (e3.trans e2) e1
      · rw [pset_ne e1, pset_ne e2]; exact I.same u hu v hv e

theorem Mid.mem {G : Gr} {σ μ : PS} {x : Int} {pre : List Int} (M : Mid G σ x pre μ) : x ∈ μ.stk := by
  obtain ⟨T, e⟩ := M.stk; rw [e]; simp
theorem Mid.at {G : Gr} {σ μ : PS} {x : Int} {pre : List Int} (M : Mid G σ x pre μ) : μ.stk[σ.stk.length]? = some x := by
  obtain ⟨T, e⟩ := M.stk; rw [e]; simp

/-- a tie that is met already -/
theorem mid_old {G : Gr} (ok : G.Ok) {σ μ : PS} {x : Int} {pre : List Int} (M : Mid G σ x pre μ) {y : Int} (ht : y ∈ G.ties x) (hy : y ∈ μ.fk) : Mid G σ x (pre ++ [y]) (stepS μ x y) := by
  have I := M.inv
  have hx := M.mem
  have numle : (stepS μ x y).num x ≤ μ.num x := by show pset μ.num x _ x ≤ _; rw [pset_same]; exact Int.min_le_left _ _
  have numle2 : (stepS μ x y).num x ≤ μ.num y := by show pset μ.num x _ x ≤ _; rw [pset_same]; exact Int.min_le_right _ _
  have numv : ∀ v, v ≠ x → (stepS μ x y).num v = μ.num v := fun v h => pset_ne h
  have msx : ∀ a, a ∈ μ.ms x → a ∈ (stepS μ x y).ms x := fun a h => by show a ∈ pset μ.ms x _ x; rw [pset_same]; exact mem_mergeL.mpr (.inl h)
  have msy : ∀ a, a ∈ μ.ms y → a ∈ (stepS μ x y).ms x := fun a h => by show a ∈ pset μ.ms x _ x; rw [pset_same]; exact mem_mergeL.mpr (.inr h)
  have msv : ∀ v, v ∉ μ.stk → (stepS μ x y).ms v = μ.ms v := fun v h => pset_ne (fun e => h (e ▸ hx))
  refine ⟨I.step ok hx hy ht, M.hx, M.hxn, M.stk, M.grow, ?_, M.new, ?_, fun a h => msx a (M.ownx a h), ?_⟩
  · intro v hv
    have hvx : v ≠ x := fun e => M.hxn (e ▸ hv)
    obtain ⟨a, b, c⟩ := M.keep v hv
    exact ⟨(numv v hvx).trans a, b, (pset_ne hvx).trans c⟩
  · intro z hz
    rcases List.mem_append.mp hz with q | q
    · obtain ⟨a, b, c⟩ := M.done z q
      refine ⟨a, fun j hj => Int.le_trans numle (b j hj), fun hs b' hb' => msx b' (c hs b' ?_)⟩
      rw [msv z hs] at hb'; exact hb'
    · rw [List.mem_singleton] at q
      subst q
      refine ⟨hy, fun j hj => ?_, fun hs b' hb' => msy b' ?_⟩
      · obtain ⟨T, e⟩ := M.stk
        have hj' : μ.stk[j]? = some z := by rw [e]; exact get_app_l hj
        obtain ⟨_, a2, _⟩ := I.low j z hj'
        exact Int.le_trans numle2 a2
      · rw [msv z hs] at hb'; exact hb'
  · intro i v h hi
    obtain ⟨a1, a2, a3, a4, a5, a6, a7⟩ := M.left i v h hi
    have hvx : v ≠ x := fun e => by
      subst e
      have := idx_unique I.nodupS (show μ.stk[i]? = some v from h) M.at
      omega
    rw [numv v hvx]
    refine ⟨a1, Int.le_trans numle a2, a3, a4, fun j z hj hz => Int.le_trans numle (a5 j z hj hz), fun b hb => msx b (a6 b hb), fun z hz hs b hb => msx b (a7 z hz hs b ?_)⟩
    rw [msv z hs] at hb; exact hb

theorem mid_new {G : Gr} (ok : G.Ok) {σ μ μ₁ : PS} {x : Int} {pre : List Int} (M : Mid G σ x pre μ) {y : Int} (ht : y ∈ G.ties x) (hy : y ∉ μ.fk) (P : Post G μ y μ₁) : Mid G σ x (pre ++ [y]) (stepS μ₁ x y) := by
  have I := M.inv
  have hxs := M.mem
  have hxf := I.stkfk x hxs
  have J := P.inv
  obtain ⟨T, eT⟩ := M.stk
  have hstk : ∃ T₁, μ₁.stk = μ.stk ++ T₁ := by
    rcases P.stk with e | ⟨T₁, e⟩
    · exact ⟨[], by rw [e, List.append_nil]⟩
    · exact ⟨_, e⟩
  obtain ⟨T₁, eT₁⟩ := hstk
  obtain ⟨ws, eg⟩ := P.grow
  have memf : ∀ v, v ∈ μ.fk → v ∈ μ₁.fk := fun v h => by rw [eg]; exact List.mem_append_left _ h
  have hy₁ : y ∈ μ₁.fk := by rw [eg]; simp
  have stk_old : ∀ v ∈ μ.fk, v ∉ μ₁.stk → v ∉ μ.stk := fun v _ h q => h (by rw [eT₁]; exact List.mem_append_left _ q)
  have stk_old' : ∀ v ∈ μ.fk, v ∉ μ.stk → v ∉ μ₁.stk := fun v hv h q => by
    rw [eT₁] at q
    rcases List.mem_append.mp q with z | z
    · exact h z
    · obtain ⟨i, hi⟩ := List.getElem?_of_mem z
      have : μ₁.stk[μ.stk.length + i]? = some v := by rw [eT₁, List.getElem?_append_right (by omega)]; simpa using hi
      exact (P.left _ v this (by omega)).1 hv
  -- the state behind the call, seen as a middle without the new tie
  have Mk : Mid G σ x pre { μ₁ with ms := μ₁.ms } → True := fun _ => trivial
  have hx1 : x ∈ μ₁.stk := by rw [eT₁]; exact List.mem_append_left _ hxs
  have I2 := J.step ok hx1 hy₁ ht
  obtain ⟨kn, ka, km⟩ := P.keep x hxf
  have numle : (stepS μ₁ x y).num x ≤ μ.num x := by show pset μ₁.num x _ x ≤ _; rw [pset_same, kn]; exact Int.min_le_left _ _
  have numle2 : (stepS μ₁ x y).num x ≤ μ₁.num y := by show pset μ₁.num x _ x ≤ _; rw [pset_same]; exact Int.min_le_right _ _
  have numv : ∀ v, v ≠ x → (stepS μ₁ x y).num v = μ₁.num v := fun v h => pset_ne h
  have msx : ∀ a, a ∈ μ.ms x → a ∈ (stepS μ₁ x y).ms x := fun a h => by show a ∈ pset μ₁.ms x _ x; rw [pset_same, km]; exact mem_mergeL.mpr (.inl h)
  have msy : ∀ a, a ∈ μ₁.ms y → a ∈ (stepS μ₁ x y).ms x := fun a h => by show a ∈ pset μ₁.ms x _ x; rw [pset_same]; exact mem_mergeL.mpr (.inr h)
  have msv : ∀ v, v ∉ μ₁.stk → (stepS μ₁ x y).ms v = μ₁.ms v := fun v h => pset_ne (fun e => h (e ▸ hx1))
  refine ⟨I2, M.hx, M.hxn, ⟨T ++ T₁, ?_⟩, ?_, ?_, ?_, ?_, fun a h => msx a (M.ownx a h), ?_⟩
  · show μ₁.stk = _
    rw [eT₁, eT]; simp
  · obtain ⟨ws', e'⟩ := M.grow
    exact ⟨ws' ++ y :: ws, by show μ₁.fk = _; rw [eg, e']; simp⟩
  · intro v hv
    have hvx : v ≠ x := fun e => M.hxn (e ▸ hv)
    obtain ⟨a, b, c⟩ := M.keep v hv
    have hvf : v ∈ μ.fk := by obtain ⟨ws', e'⟩ := M.grow; rw [e']; exact List.mem_append_left _ hv
    obtain ⟨a', b', c'⟩ := P.keep v hvf
    exact ⟨(numv v hvx).trans (a'.trans a), b'.trans b, (pset_ne hvx).trans (c'.trans c)⟩
  · intro v hv hn
    by_cases hvf : v ∈ μ.fk
    · exact M.new v hvf hn
    · exact .step ht (P.new v hv hvf)
  · intro z hz
    rcases List.mem_append.mp hz with q | q
    · obtain ⟨a, b, c⟩ := M.done z q
      refine ⟨memf z a, fun j hj => Int.le_trans numle (b j hj), fun hs b' hb' => msx b' (c (stk_old z a hs) b' ?_)⟩
      rw [msv z hs, (P.keep z a).2.2] at hb'; exact hb'
    · rw [List.mem_singleton] at q
      subst q
      refine ⟨hy₁, fun j hj => ?_, fun hs b' hb' => msy b' ?_⟩
      · exfalso
        have hj' : z ∈ μ.stk := by rw [eT]; exact List.mem_append_left _ (List.mem_of_getElem? hj)
        exact hy (I.stkfk z hj')
      · rw [msv z hs] at hb'; exact hb'
  · intro i v h hi
    have h1 : μ₁.stk[i]? = some v := h
    have hvx : v ≠ x := fun e => by
      subst e
      have h2 : μ₁.stk[σ.stk.length]? = some v := by rw [eT₁]; exact get_app_l M.at
      have := idx_unique J.nodupS h1 h2
      omega
    rw [numv v hvx]
    rcases Nat.lt_or_ge i μ.stk.length with q | q
    · have h0 : μ.stk[i]? = some v := by rw [eT₁] at h1; exact get_unapp h1 q
      obtain ⟨a1, a2, a3, a4, a5, a6, a7⟩ := M.left i v h0 hi
      have hvf : v ∈ μ.fk := I.stkfk v (List.mem_of_getElem? h0)
      rw [(P.keep v hvf).1]
      refine ⟨a1, Int.le_trans numle a2, a3, fun z hz => memf z (a4 z hz), fun j z hj hz => Int.le_trans numle (a5 j z hj hz), fun b hb => msx b (a6 b hb), fun z hz hs b hb => msx b (a7 z hz (stk_old z (a4 z hz) hs) b ?_)⟩
      rw [msv z hs, (P.keep z (a4 z hz)).2.2] at hb; exact hb
    · obtain ⟨a1, a2, a3, a4, a5, a6, a7⟩ := P.left i v h1 q
      refine ⟨fun z => a1 (by obtain ⟨ws', e'⟩ := M.grow; rw [e']; exact List.mem_append_left _ z), Int.le_trans numle2 a2, a3, a4, fun j z hj hz => Int.le_trans numle2 (a5 j z ?_ hz), fun b hb => msy b (a6 b hb), fun z hz hs b hb => msy b (a7 z hz hs b ?_)⟩
      · rw [eT]; exact get_app_l hj
      · rw [msv z hs] at hb; exact hb

/-- not the root of its ring: what was reckoned stays on the stack -/
theorem mid_open {G : Gr} {σ μ : PS} {x : Int} (M : Mid G σ x (G.ties x) μ) (hd : μ.num x ≠ (σ.stk.length + 1 : Nat)) : Post G σ x μ := by
  have I := M.inv
  obtain ⟨T, e⟩ := M.stk
  obtain ⟨_, a2, _⟩ := I.low _ _ M.at
  refine ⟨I, .inr ⟨T, e⟩, M.grow, M.keep, M.new, fun i v h hi => ?_⟩
  rcases Nat.lt_or_ge σ.stk.length i with q | q
  · exact M.left i v h q
  · have : i = σ.stk.length := by omega
    subst this
    have : v = x := by have := M.at; rw [h] at this; exact Option.some.inj this
    subst this
    exact ⟨M.hxn, Int.le_refl _, by omega, fun y hy => (M.done y hy).1, fun j y hj hy => (M.done y hy).2.1 j hj, M.ownx, fun y hy => (M.done y hy).2.2⟩

/-- the root of its ring: the ring is closed -/
def closeS (σ μ : PS) (x : Int) (P : List Int) : PS :=
  { stk := σ.stk, num := fun v => if v ∈ P then MAX else μ.num v, fk := μ.fk, fa := fun v => if v ∈ P then μ.fa x else μ.fa v, ms := fun v => if v ∈ P then μ.ms x else μ.ms v }

theorem mid_close {G : Gr} {σ μ : PS} {x : Int} (I₀ : Inv G σ) (M : Mid G σ x (G.ties x) μ) (hd : μ.num x = (σ.stk.length + 1 : Nat)) {T : List Int} (eT : μ.stk = σ.stk ++ x :: T) : Post G σ x (closeS σ μ x (x :: T)) := by
  have I := M.inv
  have mem : ∀ v, v ∈ μ.stk ↔ v ∈ σ.stk ∨ v ∈ x :: T := fun v => by rw [eT, List.mem_append]
  have nd := I.nodupS
  rw [eT] at nd
  have sep : ∀ v ∈ σ.stk, v ∉ x :: T := fun v h k => (List.nodup_append.mp nd).2.2 v h v k rfl
  have atP : ∀ v ∈ x :: T, ∃ i, μ.stk[i]? = some v ∧ σ.stk.length ≤ i := fun v h => by
    obtain ⟨i, hi⟩ := List.getElem?_of_mem h
    exact ⟨σ.stk.length + i, by rw [eT, List.getElem?_append_right (by omega)]; simpa using hi, by omega⟩
  -- what holds of each of the ring
  have each : ∀ (i : Nat) v, μ.stk[i]? = some v → σ.stk.length ≤ i → v ∉ σ.fk ∧ μ.num x ≤ μ.num v ∧ (∀ y ∈ G.ties v, y ∈ μ.fk) ∧ (∀ (j : Nat) y, σ.stk[j]? = some y → y ∈ G.ties v → μ.num x ≤ j + 1) ∧
      (∀ a ∈ G.own v, a ∈ μ.ms x) ∧ (∀ y ∈ G.ties v, y ∉ μ.stk → ∀ a ∈ μ.ms y, a ∈ μ.ms x) := fun i v h hi => by
    rcases Nat.lt_or_ge σ.stk.length i with q | q
    · obtain ⟨a1, a2, a3, a4, a5, a6, a7⟩ := M.left i v h q
      exact ⟨a1, a2, a4, a5, a6, a7⟩
    · have : i = σ.stk.length := by omega
      subst this
      have : v = x := by have := M.at; rw [h] at this; exact Option.some.inj this
      subst this
      exact ⟨M.hxn, Int.le_refl _, fun y hy => (M.done y hy).1, fun j y hj hy => (M.done y hy).2.1 j hj, M.ownx, fun y hy => (M.done y hy).2.2⟩
  have newP : ∀ v ∈ x :: T, v ∉ σ.fk := fun v h => by obtain ⟨i, hi, hl⟩ := atP v h; exact (each i v hi hl).1
  have fkP : ∀ v ∈ x :: T, v ∈ μ.fk := fun v h => I.stkfk v ((mem v).mpr (.inr h))
  have tiesP : ∀ v ∈ x :: T, ∀ y ∈ G.ties v, y ∈ μ.fk ∧ (y ∈ x :: T ∨ y ∉ μ.stk) := fun v h y hy => by
    obtain ⟨i, hi, hl⟩ := atP v h
    obtain ⟨_, _, a4, a5, _, _⟩ := each i v hi hl
    refine ⟨a4 y hy, ?_⟩
    by_cases hs : y ∈ μ.stk
    · rcases (mem y).mp hs with q | q
      · exfalso
        obtain ⟨j, hj⟩ := List.getElem?_of_mem q
        have h1 := a5 j y hj hy
        have h2 := get_lt hj
        omega
      · exact .inl q
    · exact .inr hs
  have fromX : ∀ v ∈ x :: T, Reach G.ties x v := fun v h => M.new v (fkP v h) (newP v h)
  -- each of the ring leads back to its root
  have toX : ∀ (n : Nat) (i : Nat) v, i ≤ n → μ.stk[i]? = some v → σ.stk.length ≤ i → Reach G.ties v x := by
    intro n
    induction n with
    | zero =>
      intro i v hin h hi
      have : i = σ.stk.length := by omega
      subst this
      have : v = x := by have := M.at; rw [h] at this; exact Option.some.inj this
      exact this ▸ .refl _
    | succ n ih =>
      intro i v hin h hi
      rcases Nat.lt_or_ge σ.stk.length i with q | q
      · obtain ⟨_, a2, a3, _⟩ := M.left i v h q
        obtain ⟨_, _, u, b3, b4⟩ := I.low i v h
        refine b4.trans (ih _ u ?_ b3 ?_)
        · omega
        · omega
      · have : i = σ.stk.length := by omega
        subst this
        have : v = x := by have := M.at; rw [h] at this; exact Option.some.inj this
        exact this ▸ .refl _
  have backX : ∀ v ∈ x :: T, Reach G.ties v x := fun v h => by obtain ⟨i, hi, hl⟩ := atP v h; exact toX i i v (Nat.le_refl _) hi hl
  -- the marks are whole
  have whole : ∀ v z, Reach G.ties v z → v ∈ x :: T → ∀ a ∈ G.own z, a ∈ μ.ms x := by
    intro v z h
    induction h with
    | refl v =>
      intro hv a ha
      obtain ⟨i, hi, hl⟩ := atP v hv
      exact (each i v hi hl).2.2.2.2.1 a ha
    | @step v y z hy hr ih =>
      intro hv a ha
      obtain ⟨b1, b2⟩ := tiesP v hv y hy
      rcases b2 with q | q
      · exact ih q a ha
      · obtain ⟨i, hi, hl⟩ := atP v hv
        exact (each i v hi hl).2.2.2.2.2 y hy q a (I.full y b1 q z hr a ha)
  have nP : ∀ v, v ∉ x :: T → (closeS σ μ x (x :: T)).num v = μ.num v := fun v h => if_neg h
  have aP : ∀ v, v ∉ x :: T → (closeS σ μ x (x :: T)).fa v = μ.fa v := fun v h => if_neg h
  have mP : ∀ v, v ∉ x :: T → (closeS σ μ x (x :: T)).ms v = μ.ms v := fun v h => if_neg h
  have nI : ∀ v, v ∈ x :: T → (closeS σ μ x (x :: T)).num v = MAX := fun v h => if_pos h
  have aI : ∀ v, v ∈ x :: T → (closeS σ μ x (x :: T)).fa v = μ.fa x := fun v h => if_pos h
  have mI : ∀ v, v ∈ x :: T → (closeS σ μ x (x :: T)).ms v = μ.ms x := fun v h => if_pos h
  have xx : x ∈ x :: T := .head _
  have hxs := M.mem
  have offS : ∀ v, v ∉ σ.stk → v ∉ x :: T → v ∉ μ.stk := fun v h k q => by rcases (mem v).mp q with z | z; exact h z; exact k z
  refine ⟨⟨I₀.nodupS, I.nodupF, I.fkpts, ?_, ?_, ?_, ?_, ?_, ?_, ?_, ?_, ?_, ?_, ?_⟩, .inl rfl, M.grow, ?_, M.new, ?_⟩
  · exact fun v h => I.stkfk v ((mem v).mpr (.inl h))
  · intro v hp hv
    rw [nP v (fun h => hv (fkP v h))]; exact I.num0 v hp hv
  · intro v hv hs
    by_cases h : v ∈ x :: T
    · exact nI v h
    · rw [nP v h]; exact I.numC v hv (offS v hs h)
  · intro i v h
    have h0 : σ.stk[i]? = some v := h
    have hvP := sep v (List.mem_of_getElem? h0)
    rw [nP v hvP]
    have hvf := I₀.stkfk v (List.mem_of_getElem? h0)
    rw [(M.keep v hvf).1]
    exact I₀.low i v h0
  · intro v hv hs y hy
    by_cases h : v ∈ x :: T
    · obtain ⟨b1, b2⟩ := tiesP v h y hy
      exact ⟨b1, fun q => by rcases b2 with z | z; exact sep y q z; exact z ((mem y).mpr (.inl q))⟩
    · obtain ⟨b1, b2⟩ := I.closed v hv (offS v hs h) y hy
      exact ⟨b1, fun q => b2 ((mem y).mpr (.inl q))⟩
  · intro v hv a ha
    by_cases h : v ∈ x :: T
    · rw [mI v h] at ha
      obtain ⟨z, h1, h2⟩ := I.sound x (I.stkfk x hxs) a ha
      exact ⟨z, (backX v h).trans h1, h2⟩
    · rw [mP v h] at ha; exact I.sound v hv a ha
  · intro v hv
    by_cases h : v ∈ x :: T
    · rw [mI v h]; exact I.nodupM x (I.stkfk x hxs)
    · rw [mP v h]; exact I.nodupM v hv
  · intro v hv hs z hz a ha
    by_cases h : v ∈ x :: T
    · rw [mI v h]; exact whole v z hz h a ha
    · rw [mP v h]; exact I.full v hv (offS v hs h) z hz a ha
  · intro u hu v hv e
    have huP := sep u hu
    rw [aP u huP] at e
    by_cases h : v ∈ x :: T
    · rw [aI v h] at e
      have := I.alone u ((mem u).mpr (.inl hu)) x (I.stkfk x hxs) e
      exact absurd (this ▸ xx) huP
    · rw [aP v h] at e
      exact I.alone u ((mem u).mpr (.inl hu)) v hv e
  · intro u hu hus v hv hvs
    by_cases h : u ∈ x :: T <;> by_cases k : v ∈ x :: T
    · rw [aI u h, aI v k]
      exact ⟨fun _ => ⟨(backX u h).trans (fromX v k), (backX v k).trans (fromX u h)⟩, fun _ => rfl⟩
    · rw [aI u h, aP v k]
      constructor
      · intro e
        exact absurd (I.alone x hxs v hv e.symm ▸ xx) k
      · rintro ⟨_, r⟩
        exact absurd ((mem u).mpr (.inr h)) (I.closed_reach r hv (offS v hvs k)).2
    · rw [aP u h, aI v k]
      constructor
      · intro e
        exact absurd (I.alone x hxs u hu e ▸ xx) h
      · rintro ⟨r, _⟩
        exact absurd ((mem v).mpr (.inr k)) (I.closed_reach r hu (offS u hus h)).2
    · rw [aP u h, aP v k]
      exact I.scc u hu (offS u hus h) v hv (offS v hvs k)
  · intro u hu v hv e
    by_cases h : u ∈ x :: T <;> by_cases k : v ∈ x :: T
    · rw [mI u h, mI v k]
    · rw [aI u h, aP v k] at e
      exact absurd (I.alone x hxs v hv e.symm ▸ xx) k
    · rw [aP u h, aI v k] at e
      exact absurd (I.alone x hxs u hu e ▸ xx) h
    · rw [aP u h, aP v k] at e
      rw [mP u h, mP v k]
      exact I.same u hu v hv e
  · intro v hv
    have hvP : v ∉ x :: T := fun h => newP v h hv
    obtain ⟨a, b, c⟩ := M.keep v hv
    exact ⟨(nP v hvP).trans a, (aP v hvP).trans b, (mP v hvP).trans c⟩
  · intro i v h hi
    have h0 : σ.stk[i]? = some v := h
    have := get_lt h0
    omega
theorem Inv.ofMarks {G : Gr} (ok : G.Ok) {σ : PS} (I : Inv G σ) {v : Int} (hv : v ∈ σ.fk) {a : Str} (ha : a ∈ σ.ms v) : a ∈ G.marks := by
  obtain ⟨z, h1, h2⟩ := I.sound v hv a ha
  exact ok.ofMarks z (ok.reach h1 (I.fkpts v hv)) a h2
theorem Inv.merge_few {G : Gr} (ok : G.Ok) {σ : PS} (I : Inv G σ) {x y : Int} (hx : x ∈ σ.fk) (hy : y ∈ σ.fk) (i : Nat) : (mergeL (σ.ms x) ((σ.ms y).take i)).length ≤ 30 := by
  refine Nat.le_trans (nodup_le (nodup_mergeL (I.nodupM x hx)) fun a ha => ?_) ok.fewMarks
  rcases mem_mergeL.mp ha with q | q
  · exact I.ofMarks ok hx q
  · exact I.ofMarks ok hy (List.mem_of_mem_take q)
end Mine
end

section
/-! ## TravA -/
open PySem PySem.W PyProof.Rows PySem.Spec PySem.Calls
set_option Elab.async false
set_option maxRecDepth 100000
namespace Mine
local macro_rules | `(tactic| walk_at "cov") => `(tactic| first | k_asm | exact Cov.cons (by walk_at "cov") _)
local macro_rules | `(tactic| walk_at "led") => `(tactic| first | assumption | exact upd_same | exact look (by walk_at "led") (by walk_at "led") (by first | decide | omega) | exact look_new (by walk_at "led") (by assumption))
local macro_rules | `(tactic| walk_at "small") => `(tactic| first | assumption | ((have hsl := sizeLine_eq); (try simp only [List.length_append, List.length_cons, List.length_nil]); omega))
local macro_rules | `(tactic| walk_at "getMethod ref") => `(tactic| first
  | (refine meth_append (by k_asm) (by walk_at "cov") (by walk_at "led") (by first | exact .inl ⟨_, rfl⟩ | exact .inr ⟨_, rfl⟩) ?_)
  | (refine meth_pop (by k_asm) (by walk_at "cov") (by walk_at "led") ?_)
  | (refine meth_get (by k_asm) (by walk_at "cov") (by walk_at "led") ?_))
local macro_rules | `(tactic| walk_at "call builtin:list.append") => `(tactic| first
  | (refine append_int (by k_asm) (by k_asm) (by walk_at "cov") (by walk_at "led") (by walk_at "small") ?_; intro h' news' F' N' C')
  | (refine append_str (by k_asm) (by k_asm) (by walk_at "cov") (by walk_at "led") (by walk_at "small") ?_; intro h' news' F' N' C'))
local macro_rules | `(tactic| walk_at "call builtin:list.pop") => `(tactic| (refine pop_int (by k_asm) (by k_asm) (by walk_at "cov") (by walk_at "led") (by walk_at "small") ?_; intro t' h' news' F' N' C'))
local macro_rules | `(tactic| walk_at "setItem ref int") => `(tactic| (first
  | refine set_dints_old (by k_asm) (by k_asm) (by walk_at "cov") (by walk_at "led") (by walk_at "small") (by assumption) ?_
  | refine set_drefs_old (by k_asm) (by k_asm) (by walk_at "cov") (by walk_at "led") (by walk_at "small") (by assumption) ?_
  | refine set_dints_new (by k_asm) (by k_asm) (by walk_at "cov") (by walk_at "led") (by walk_at "small") (by assumption) ?_
  | refine set_drefs_new (by k_asm) (by k_asm) (by walk_at "cov") (by walk_at "led") (by walk_at "small") (by assumption) ?_); intro h' news' F' N' C')
local macro_rules | `(tactic| walk_at "call builtin:len") => `(tactic| (refine len_led (by k_asm) (by walk_at "cov") (by walk_at "led") (by walk_at "small") ?_; intro t' tk'))
local macro_rules | `(tactic| walk_at "subscriptTail") => `(tactic| first
  | (refine sub_dints (by k_asm) (by walk_at "cov") (by walk_at "led") (by assumption) ?_; intro t')
  | (refine sub_drefs (by k_asm) (by walk_at "cov") (by walk_at "led") (by assumption) ?_)
  | (refine item_last (by k_asm) (by walk_at "cov") (by walk_at "led") ?_; intro t')
  | (refine item_at (by k_asm) (by walk_at "cov") (by walk_at "led") (by assumption) (by assumption) (by assumption) ?_; intro t'))
local macro_rules | `(tactic| walk_at "compareOp NotIn") => `(tactic| first
  | (refine notin_led (by k_asm) (by walk_at "cov") (by walk_at "led") ?_)
  | (refine notin_ledS (by k_asm) (by walk_at "cov") (by walk_at "led") ?_))
local macro_rules | `(tactic| walk_at "compareOp In") => `(tactic| (refine in_led (by k_asm) (by walk_at "cov") (by walk_at "led") ?_))
local macro_rules | `(tactic| walk_at "callWith ref") => `(tactic| (refine callWith_led (by k_asm) (by walk_at "cov") (by walk_at "led") (by assumption) ?_))
local macro_rules | `(tactic| walk_at "eval Name") => `(tactic| (refine' nameX_K ?F ?X ?T ?e ?_ ?a ?b ?c; (case a => rfl); (case b => rfl); (case F => k_asm); (case X => k_asm); (case T => k_asm); (case e => k_is); (case c => decide)))
local macro_rules | `(tactic| walk_at "eval Name") => `(tactic| (refine nameX_L (by k_asm) (by first | exact rfl | assumption) ?_))
local macro_rules | `(tactic| walk_at "call builtin:min") => `(tactic| (refine min_two_N (by assumption) (by k_asm) (by k_asm) ?_; intro h' tk' F' N'; (try dsimp only)))
local macro_rules | `(tactic| walk_at "call builtin:dict.get") => `(tactic| (refine get_drefs (by k_asm) (by walk_at "cov") (by walk_at "led") (by assumption) ?_))
local macro_rules | `(tactic| walk_at "dec") => `(tactic| first | assumption | ((try simp only [decide_eq_true_eq, decide_eq_false_iff_not, beq_iff_eq, bne_iff_ne, ne_eq, Bool.not_eq_true', Bool.not_eq_true, Bool.not_eq_false', Bool.not_eq_false, Decidable.not_not, Classical.not_not]); assumption))
local macro_rules | `(tactic| walk_at "ite") => `(tactic| first | refine ite_yes (by walk_at "dec") ?_ | refine ite_no (by walk_at "dec") ?_)
local macro_rules | `(tactic| walk_at "halt") => `(tactic| first
  | (with_reducible show _ ∧ _)
  | (with_reducible show Exists _)
  | (with_reducible show wpAny _ _ (exec (Stmt.For _ _ _ _ _) _) _ _ _)
  | (with_reducible show wpAny _ _ (exec (Stmt.While _ _ _ _) _) _ _ _)
  | (with_reducible show wpAny _ _ (exec (Stmt.If _ _ _ _) _) _ _ _)
  | (with_reducible show wpAny _ _ (PySem.call (Value.ref _) _) _ _ _))
local macro_rules | `(tactic| walk_at "go") => `(tactic| repeat' ((fail_if_success (walk_at "halt")); first | (k_unfold; (try dsimp only)) | walk1 | (dsimp only; walk1)))
structure Ad where
  aS : Addr
  aN : Addr
  aF : Addr
  aA : Addr
  aO : Addr
  aX : Addr
  aR : Addr
  aP : Addr
  nk : List Int
  a0 : List Int
  o0 : List Int
  tieA : Int → Addr

structure TIn (ad : Ad) (led : Led) (σ : PS) : Prop where
  S : led ad.aS = some (1, .ints σ.stk)
  N : led ad.aN = some (2, .dints ad.nk σ.num)
  F : led ad.aF = some (3, .drefs σ.fk σ.fa)
  A : led ad.aA = some (4, .ints (ad.a0 ++ σ.fk))
  O : led ad.aO = some (5, .ints (ad.o0 ++ σ.fk))
  M : ∀ v ∈ σ.fk, led (σ.fa v) = some (6, .strs (σ.ms v))
def KeepL (g : Nat) (led led' : Led) : Prop := ∀ a x, led a = some x → 10 ≤ x.1 → x.1 < g → led' a = some x
def SubL (cst led : Led) : Prop := ∀ a x, cst a = some x → led a = some x

/-- the locals that a call keeps -/
structure MF (ad : Ad) (x : Int) (t : Tok) (d : Int) (m : Str → Option Value) : Prop where
  x : m (Str.ofString "x") = some (.int x t)
  N : m (Str.ofString "N") = some (.ref ad.aN)
  S : m (Str.ofString "stack") = some (.ref ad.aS)
  F : m (Str.ofString "F") = some (.ref ad.aF)
  X : m (Str.ofString "X") = some (.ref ad.aX)
  R : m (Str.ofString "R") = some (.ref ad.aR)
  P : m (Str.ofString "FP") = some (.ref ad.aP)
  d : ∃ td, m (Str.ofString "d") = some (.int d td)
theorem MF.set {ad : Ad} {x : Int} {t : Tok} {d : Int} {m : Str → Option Value} (h : MF ad x t d m) {z : Str} {v : Option Value} (hz : (["x", "N", "stack", "F", "X", "R", "FP", "d"].map Str.ofString).contains z = false) : MF ad x t d (fun y => if y = z then v else m y) := by
  have ne : ∀ y, y ∈ ["x", "N", "stack", "F", "X", "R", "FP", "d"].map Str.ofString → y ≠ z := fun y hy e => by
    subst e
    rw [List.contains_iff_mem.mpr hy] at hz; cases hz
  obtain ⟨a, b, c, d, e, f, g, td, i⟩ := h
  refine ⟨?_, ?_, ?_, ?_, ?_, ?_, ?_, td, ?_⟩
  all_goals (rw [if_neg (ne _ (by simp))]; assumption)

theorem start_TIn {ad : Ad} {led : Led} {σ : PS} (TI : TIn ad led σ) {x : Int} (hxn : x ∉ σ.fk) {D : Addr} {own : List Str} {d : Int} (hd : d = (σ.stk.length + 1 : Nat)) {g : Nat}
    (hD : upd (upd (upd led ad.aS (1, .ints (σ.stk ++ [x]))) ad.aN (2, .dints ad.nk (fset σ.num x d))) ad.aA (4, .ints (ad.a0 ++ σ.fk ++ [x])) D = none) :
    ∃ led₁, led₁ = upd (upd (upd (upd (upd (upd led ad.aS (1, .ints (σ.stk ++ [x]))) ad.aN (2, .dints ad.nk (fset σ.num x d))) ad.aA (4, .ints (ad.a0 ++ σ.fk ++ [x]))) D (6, .strs own)) ad.aF (3, .drefs (σ.fk ++ [x]) (fset σ.fa x D))) ad.aO (5, .ints (ad.o0 ++ σ.fk ++ [x])) ∧
      TIn ad led₁ (startS σ x D own) ∧ KeepL g led led₁ ∧ ∀ v ∈ σ.fk, σ.fa v ≠ D := by
  obtain ⟨tS, tN, tF, tA, tO, tM⟩ := TI
  generalize e3 : (upd (upd (upd led ad.aS (1, .ints (σ.stk ++ [x]))) ad.aN (2, .dints ad.nk (fset σ.num x d))) ad.aA (4, .ints (ad.a0 ++ σ.fk ++ [x]))) = l3 at *
  have old : ∀ v ∈ σ.fk, l3 (σ.fa v) = some (6, .strs (σ.ms v)) := fun v hv => by
    have q := tM v hv
    rw [← e3]; walk_at "led"
  have hne : ∀ v ∈ σ.fk, σ.fa v ≠ D := fun v hv e => by have := old v hv; rw [e, hD] at this; cases this
  have aS : l3 ad.aS = some (1, .ints (σ.stk ++ [x])) := by rw [← e3]; walk_at "led"
  have aN : l3 ad.aN = some (2, .dints ad.nk (fset σ.num x d)) := by rw [← e3]; walk_at "led"
  have aA : l3 ad.aA = some (4, .ints (ad.a0 ++ σ.fk ++ [x])) := by rw [← e3]; walk_at "led"
  have aF : l3 ad.aF = some (3, .drefs σ.fk σ.fa) := by rw [← e3]; walk_at "led"
  have aO : l3 ad.aO = some (5, .ints (ad.o0 ++ σ.fk)) := by rw [← e3]; walk_at "led"
  have kp : ∀ a (ta : Nat) xa, led a = some (ta, xa) → 10 ≤ ta → l3 a = some (ta, xa) := fun a ta xa e h => by rw [← e3]; walk_at "led"
  clear e3 tS tN tF tA tO tM
  refine ⟨_, rfl, ⟨?_, ?_, ?_, ?_, ?_, ?_⟩, ?_, hne⟩
  · show _ = some (1, AO.ints (σ.stk ++ [x]))
    walk_at "led"
  · have e : (startS σ x D own).num = fset σ.num x d := by rw [hd]; rfl
    rw [e]
    walk_at "led"
  · show _ = some (3, AO.drefs (σ.fk ++ [x]) (fset σ.fa x D))
    walk_at "led"
  · rw [show ad.a0 ++ (startS σ x D own).fk = ad.a0 ++ σ.fk ++ [x] from (List.append_assoc ..).symm]
    walk_at "led"
  · rw [show ad.o0 ++ (startS σ x D own).fk = ad.o0 ++ σ.fk ++ [x] from (List.append_assoc ..).symm]
    walk_at "led"
  · intro v hv
    rcases List.mem_append.mp hv with q | q
    · have hvx : v ≠ x := fun e => hxn (e ▸ q)
      rw [show (startS σ x D own).fa v = σ.fa v from pset_ne hvx, show (startS σ x D own).ms v = σ.ms v from pset_ne hvx]
      have q := old v q
      walk_at "led"
    · rw [List.mem_singleton] at q
      subst q
      rw [show (startS σ v D own).fa v = D from pset_same, show (startS σ v D own).ms v = own from pset_same]
      walk_at "led"
  · rintro a ⟨ta, xa⟩ e h _
    have h' : 10 ≤ ta := h
    have q := kp a ta xa e h'
    walk_at "led"

theorem filter_less {l f g : List Int} {x : Int} (hs : ∀ v ∈ f, v ∈ g) (hx : x ∈ l) (hf : x ∉ f) (hg : x ∈ g) : (l.filter (· ∉ g)).length < (l.filter (· ∉ f)).length := by
  induction l with
  | nil => cases hx
  | cons a r ih =>
    have le : (r.filter (· ∉ g)).length ≤ (r.filter (· ∉ f)).length := by
      clear ih hx
      induction r with
      | nil => simp
      | cons b r ih =>
        by_cases h1 : b ∈ f
        · have h2 := hs b h1
          simpa [h1, h2] using ih
        · by_cases h2 : b ∈ g
          · simp [h1, h2] at ih ⊢; omega
          · simp [h1, h2] at ih ⊢; omega
    rcases List.mem_cons.mp hx with e | e
    · subst e
      simp [hf, hg] at le ⊢; omega
    · have := ih e
      by_cases h1 : a ∈ f
      · have h2 := hs a h1
        simpa [h1, h2] using this
      · by_cases h2 : a ∈ g
        · simp [h1, h2] at this ⊢; omega
        · simp [h1, h2] at this ⊢; omega

theorem TIn.mono {ad : Ad} {led led' : Led} {σ : PS} (T : TIn ad led σ) (h : ∀ a x, led a = some x → led' a = some x) : TIn ad led' σ :=
  ⟨h _ _ T.S, h _ _ T.N, h _ _ T.F, h _ _ T.A, h _ _ T.O, fun v hv => h _ _ (T.M v hv)⟩
theorem TIn.cut {ad : Ad} {led : Led} {σ : PS} {g : Nat} (T : TIn ad led σ) (hg : 50 ≤ g) : TIn ad (Mine.cut g led) σ :=
  ⟨cut_some T.S (by show (1 : Nat) < g; omega), cut_some T.N (by show (2 : Nat) < g; omega), cut_some T.F (by show (3 : Nat) < g; omega), cut_some T.A (by show (4 : Nat) < g; omega), cut_some T.O (by show (5 : Nat) < g; omega), fun v hv => cut_some (T.M v hv) (by show (6 : Nat) < g; omega)⟩
theorem KeepL.mono {g : Nat} {led₀ led led' : Led} (K : KeepL g led₀ led) (h : ∀ a x, led a = some x → led' a = some x) : KeepL g led₀ led' := fun a x e h1 h2 => h a x (K a x e h1 h2)
theorem KeepL.cut {g g' : Nat} {led₀ led : Led} (K : KeepL g led₀ led) (h : g ≤ g') : KeepL g led₀ (Mine.cut g' led) := fun a x e h1 h2 => cut_some (K a x e h1 h2) (by omega)
theorem KeepL.refl {g : Nat} {led : Led} : KeepL g led led := fun _ _ e _ _ => e
theorem KeepL.trans {g : Nat} {l₁ l₂ l₃ : Led} (K : KeepL g l₁ l₂) (K' : KeepL g l₂ l₃) : KeepL g l₁ l₃ := fun a x e h1 h2 => K' a x (K a x e h1 h2) h1 h2
theorem KeepL.le {g g' : Nat} {l₁ l₂ : Led} (K : KeepL g' l₁ l₂) (h : g ≤ g') : KeepL g l₁ l₂ := fun a x e h1 h2 => K a x e h1 (by omega)
theorem KeepL.upd {g : Nat} {l₁ l₂ : Led} (K : KeepL g l₁ l₂) {a : Addr} {t : Nat} {x y : AO} (e : l₂ a = some (t, x)) (h : t < 10) : KeepL g l₁ (Mine.upd l₂ a (t, y)) := fun b z e' h1 h2 => by
  obtain ⟨u, z⟩ := z
  exact look (K b (u, z) e' h1 h2) e (by have h3 : 10 ≤ u := h1; omega)
theorem KeepL.new {g : Nat} {l₁ l₂ : Led} (K : KeepL g l₁ l₂) {a : Addr} {y : Nat × AO} (e : l₂ a = none) : KeepL g l₁ (Mine.upd l₂ a y) := fun b z e' h1 h2 => look_new (K b z e' h1 h2) e
theorem SubL.keep {g : Nat} {cst l₁ l₂ : Led} (S : SubL cst l₁) (hc : ∀ a y, cst a = some y → 10 ≤ y.1 ∧ y.1 < 50) (hg : 50 ≤ g) (K : KeepL g l₁ l₂) : SubL cst l₂ := fun a x e => K a x (S a x e) (hc a x e).1 (by have := (hc a x e).2; omega)

def LI (ad : Ad) (G : Gr) (σ : PS) (x : Int) (t : Tok) (g : Nat) (led : Led) (i : Nat) (m : Str → Option Value) (led' : Led) : Prop :=
  MF ad x t ((σ.stk.length + 1 : Nat) : Int) m ∧ (∃ μ, Mid G σ x ((G.ties x).take i) μ ∧ TIn ad led' μ) ∧ KeepL g led led'
theorem LI.mono {ad : Ad} {G : Gr} {σ : PS} {x : Int} {t : Tok} {g : Nat} {led : Led} {i : Nat} {m : Str → Option Value} {l l' : Led} (h : LI ad G σ x t g led i m l) (hm : ∀ a x, l a = some x → l' a = some x) : LI ad G σ x t g led i m l' :=
  let ⟨a, ⟨μ, b, c⟩, d⟩ := h; ⟨a, ⟨μ, b, c.mono hm⟩, d.mono hm⟩
theorem LI.cut {ad : Ad} {G : Gr} {σ : PS} {x : Int} {t : Tok} {g g' : Nat} {led : Led} {i : Nat} {m : Str → Option Value} {l : Led} (h : LI ad G σ x t g led i m l) (hg : 50 ≤ g) (hgg : g ≤ g') : LI ad G σ x t g led i m (Mine.cut g' l) :=
  let ⟨a, ⟨μ, b, c⟩, d⟩ := h; ⟨a, ⟨μ, b, c.cut (Nat.le_trans hg hgg)⟩, d.cut hgg⟩
theorem Inv.num_ne {G : Gr} {σ : PS} (I : Inv G σ) {y : Int} (hy : y ∈ σ.fk) : σ.num y ≠ 0 := by
  by_cases h : y ∈ σ.stk
  · obtain ⟨i, hi⟩ := List.getElem?_of_mem h
    have := (I.low i y hi).1
    omega
  · rw [I.numC y hy h]; decide
theorem Inv.met {G : Gr} {σ : PS} (I : Inv G σ) {y : Int} (hp : y ∈ G.pts) (h : σ.num y ≠ 0) : y ∈ σ.fk := by
  by_cases q : y ∈ σ.fk
  · exact q
  · exact absurd (I.num0 y hp q) h
theorem TIn.setM {ad : Ad} {led : Led} {σ : PS} (T : TIn ad led σ) {x : Int} (hx : x ∈ σ.fk) (hal : ∀ v ∈ σ.fk, σ.fa v = σ.fa x → v = x) (l : List Str) : TIn ad (upd led (σ.fa x) (6, .strs l)) { σ with ms := pset σ.ms x l } := by
  have q := T.M x hx
  obtain ⟨tS, tN, tF, tA, tO, tM⟩ := T
  refine ⟨by walk_at "led", by walk_at "led", by walk_at "led", by walk_at "led", by walk_at "led", fun v hv => ?_⟩
  by_cases e : v = x
  · subst e
    show _ = some (6, AO.strs (pset σ.ms v l v))
    rw [pset_same]; exact upd_same
  · show _ = some (6, AO.strs (pset σ.ms x l v))
    rw [pset_ne e]
    exact upd_at (fun z => e (hal v hv z)) (tM v hv)
theorem TIn.setN {ad : Ad} {led : Led} {σ : PS} (T : TIn ad led σ) (f : Int → Int) : TIn ad (upd led ad.aN (2, .dints ad.nk f)) { σ with num := f } := by
  obtain ⟨tS, tN, tF, tA, tO, tM⟩ := T
  refine ⟨by walk_at "led", upd_same, by walk_at "led", by walk_at "led", by walk_at "led", fun v hv => ?_⟩
  have q := tM v hv
  walk_at "led"
theorem pset_id {α : Type} (f : Int → α) (k : Int) : pset f k (f k) = f := by
  funext x
  unfold pset
  split
  · rename_i h; rw [h]
  · rfl
theorem pset_pset {α : Type} (f : Int → α) (k : Int) (u v : α) : pset (pset f k u) k v = pset f k v := by
  funext x
  unfold pset
  split <;> rfl
/-- the state in the loop over the marks of y -/
def mergeS (μ : PS) (x y : Int) (j : Nat) : PS := { μ with num := pset μ.num x (min (μ.num x) (μ.num y)), ms := pset μ.ms x (mergeL (μ.ms x) ((μ.ms y).take j)) }
def LJ (ad : Ad) (σ : PS) (x y : Int) (t ty : Tok) (g : Nat) (led : Led) (IT : Addr) (ito : Obj) (μ : PS) (j : Nat) (m : Str → Option Value) (led' : Led) : Prop :=
  MF ad x t ((σ.stk.length + 1 : Nat) : Int) m ∧ m (Str.ofString "y") = some (.int y ty) ∧ led' IT = some (g, .raw ito) ∧ KeepL g led led' ∧ TIn ad led' (mergeS μ x y j)
theorem LJ.mono {ad : Ad} {σ : PS} {x y : Int} {t ty : Tok} {g : Nat} {led : Led} {IT : Addr} {ito : Obj} {μ : PS} {j : Nat} {m : Str → Option Value} {l l' : Led} (h : LJ ad σ x y t ty g led IT ito μ j m l) (hm : ∀ a x, l a = some x → l' a = some x) :
    LJ ad σ x y t ty g led IT ito μ j m l' := let ⟨a, b, c, d, e⟩ := h; ⟨a, b, hm _ _ c, d.mono hm, e.mono hm⟩
theorem LJ.cut {ad : Ad} {σ : PS} {x y : Int} {t ty : Tok} {g : Nat} {led : Led} {IT : Addr} {ito : Obj} {μ : PS} {j : Nat} {m : Str → Option Value} {l : Led} (h : LJ ad σ x y t ty g led IT ito μ j m l) (hg : 50 ≤ g) :
    LJ ad σ x y t ty g led IT ito μ j m (Mine.cut (g + 1) l) := let ⟨a, b, c, d, e⟩ := h; ⟨a, b, cut_some c (Nat.lt_succ_self g), d.cut (Nat.le_succ g), e.cut (by omega)⟩
theorem mergeS_zero {μ : PS} {x y : Int} : mergeS μ x y 0 = { μ with num := fset μ.num x (min (μ.num x) (μ.num y)) } := by
  unfold mergeS
  rw [List.take_zero, show mergeL (μ.ms x) [] = μ.ms x from rfl, pset_id]
  rfl
theorem mergeS_all {μ : PS} {x y : Int} : mergeS μ x y (μ.ms y).length = stepS μ x y := by
  unfold mergeS stepS
  rw [List.take_length]
theorem mergeS_next {μ : PS} {x y : Int} {j : Nat} {a : Str} (h : (μ.ms y)[j]? = some a) :
    mergeS μ x y (j + 1) = { mergeS μ x y j with ms := pset (mergeS μ x y j).ms x (if a ∈ mergeL (μ.ms x) ((μ.ms y).take j) then mergeL (μ.ms x) ((μ.ms y).take j) else mergeL (μ.ms x) ((μ.ms y).take j) ++ [a]) } := by
  unfold mergeS
  rw [List.take_add_one, h]
  simp only [Option.toList_some]
  rw [mergeL_snoc, pset_pset]
theorem snoc_of_cons {α : Type} : ∀ (l : List α) (x : α), ∃ r e, x :: l = r ++ [e]
  | [], x => ⟨[], x, rfl⟩
  | y :: l, x => by obtain ⟨r, e, h⟩ := snoc_of_cons l y; exact ⟨x :: r, e, by rw [h]; rfl⟩
/-- the ring half popped: P is off the stack -/
def popS (σ μ : PS) (x : Int) (T₁ P : List Int) : PS := { closeS σ μ x P with stk := σ.stk ++ T₁ }
theorem popS_nil {σ μ : PS} {x : Int} {T : List Int} (h : μ.stk = σ.stk ++ T) : popS σ μ x T [] = μ := by
  unfold popS closeS
  simp only [List.not_mem_nil, if_false]
  rw [← h]
theorem popS_all {σ μ : PS} {x : Int} {P : List Int} : popS σ μ x [] P = closeS σ μ x P := by
  unfold popS closeS
  simp only [List.append_nil]
theorem popS_fa {σ μ : PS} {x : Int} {T P : List Int} : (popS σ μ x T P).fa x = μ.fa x := by
  show (if x ∈ P then μ.fa x else μ.fa x) = _
  split <;> rfl
theorem popS_ms {σ μ : PS} {x : Int} {T P : List Int} : (popS σ μ x T P).ms x = μ.ms x := by
  show (if x ∈ P then μ.ms x else μ.ms x) = _
  split <;> rfl
theorem TIn.pop {ad : Ad} {led : Led} {σ μ : PS} {x e : Int} {T P : List Int} (TI : TIn ad led (popS σ μ x (T ++ [e]) P)) (hx : x ∈ μ.fk) :
    TIn ad (upd (upd (upd led ad.aN (2, .dints ad.nk (fset (popS σ μ x (T ++ [e]) P).num e MAX))) ad.aF (3, .drefs μ.fk (fset (popS σ μ x (T ++ [e]) P).fa e ((popS σ μ x (T ++ [e]) P).fa x)))) ad.aS (1, .ints (σ.stk ++ T))) (popS σ μ x T (e :: P)) := by
  rw [popS_fa]
  have hM := TI.M x hx
  rw [popS_fa, popS_ms] at hM
  obtain ⟨tS, tN, tF, tA, tO, tM⟩ := TI
  have eN : (popS σ μ x T (e :: P)).num = fset (popS σ μ x (T ++ [e]) P).num e MAX := by
    funext v
    show (if v ∈ e :: P then MAX else μ.num v) = if v = e then MAX else if v ∈ P then MAX else μ.num v
    by_cases h : v = e
    · subst h; simp
    · simp [h]
  have eF : (popS σ μ x T (e :: P)).fa = fset (popS σ μ x (T ++ [e]) P).fa e (μ.fa x) := by
    funext v
    show (if v ∈ e :: P then μ.fa x else μ.fa v) = if v = e then μ.fa x else if v ∈ P then μ.fa x else μ.fa v
    by_cases h : v = e
    · subst h; simp
    · simp [h]
  refine ⟨?_, ?_, ?_, ?_, ?_, ?_⟩
  · show _ = some (1, AO.ints (σ.stk ++ T))
    exact upd_same
  · rw [eN]; walk_at "led"
  · show _ = some (3, AO.drefs μ.fk (popS σ μ x T (e :: P)).fa)
    rw [eF]; walk_at "led"
  · show _ = some (4, AO.ints (ad.a0 ++ μ.fk))
    have q : led ad.aA = some (4, AO.ints (ad.a0 ++ μ.fk)) := tA
    walk_at "led"
  · show _ = some (5, AO.ints (ad.o0 ++ μ.fk))
    have q : led ad.aO = some (5, AO.ints (ad.o0 ++ μ.fk)) := tO
    walk_at "led"
  · intro v hv
    have hv' : v ∈ μ.fk := hv
    show _ = some (6, AO.strs (if v ∈ e :: P then μ.ms x else μ.ms v))
    show _ = _
    by_cases h : v = e
    · subst h
      have e1 : (popS σ μ x T (v :: P)).fa v = μ.fa x := by show (if v ∈ v :: P then μ.fa x else μ.fa v) = _; simp
      rw [e1, if_pos (List.mem_cons_self ..)]
      walk_at "led"
    · have q : led ((popS σ μ x (T ++ [e]) P).fa v) = some (6, AO.strs ((popS σ μ x (T ++ [e]) P).ms v)) := tM v hv'
      have e1 : (popS σ μ x T (e :: P)).fa v = (popS σ μ x (T ++ [e]) P).fa v := by
        show (if v ∈ e :: P then μ.fa x else μ.fa v) = if v ∈ P then μ.fa x else μ.fa v
        simp [h]
      have e2 : (if v ∈ e :: P then μ.ms x else μ.ms v) = (popS σ μ x (T ++ [e]) P).ms v := by
        show (if v ∈ e :: P then μ.ms x else μ.ms v) = if v ∈ P then μ.ms x else μ.ms v
        simp [h]
      rw [e1, e2]
      walk_at "led"
/-- the while that closes a ring -/
def LW (ad : Ad) (σ μ : PS) (x : Int) (t : Tok) (g : Nat) (led : Led) (T : List Int) (k : Nat) (m : Str → Option Value) (led' : Led) : Prop :=
  MF ad x t ((σ.stk.length + 1 : Nat) : Int) m ∧ KeepL g led led' ∧ ∃ T₁ e P te, x :: T = T₁ ++ e :: P ∧ m (Str.ofString "element") = some (.int e te) ∧ TIn ad led' (popS σ μ x T₁ (e :: P)) ∧ k = T₁.length
def KeepA (g : Nat) (led led' : Led) : Prop := ∀ a x, led a = some x → x.1 < g → led' a = some x
theorem KeepA.refl {g : Nat} {led : Led} : KeepA g led led := fun _ _ e _ => e
theorem KeepA.trans {g : Nat} {l₁ l₂ l₃ : Led} (K : KeepA g l₁ l₂) (K' : KeepA g l₂ l₃) : KeepA g l₁ l₃ := fun a x e h => K' a x (K a x e h) h
theorem KeepA.mono {g : Nat} {l₁ l₂ l₃ : Led} (K : KeepA g l₁ l₂) (h : ∀ a x, l₂ a = some x → l₃ a = some x) : KeepA g l₁ l₃ := fun a x e q => h a x (K a x e q)
theorem KeepA.cut {g g' : Nat} {l₁ l₂ : Led} (K : KeepA g l₁ l₂) (h : g ≤ g') : KeepA g l₁ (Mine.cut g' l₂) := fun a x e q => cut_some (K a x e q) (by omega)
theorem KeepA.new {g : Nat} {l₁ l₂ : Led} (K : KeepA g l₁ l₂) {D : Addr} {y : Nat × AO} (hD : l₁ D = none) : KeepA g l₁ (Mine.upd l₂ D y) := fun a x e q => upd_at (fun z => by rw [z, hD] at e; cases e) (K a x e q)
theorem KeepA.le {g g' : Nat} {l₁ l₂ : Led} (K : KeepA g' l₁ l₂) (h : g ≤ g') : KeepA g l₁ l₂ := fun a x e q => K a x e (by omega)

end Mine
end

section
/-! ## Trav -/
open PySem PySem.W PyProof.Rows PySem.Spec PySem.Calls
set_option Elab.async false
set_option maxRecDepth 100000
namespace Mine
local macro_rules | `(tactic| walk_at "cov") => `(tactic| first | k_asm | exact Cov.cons (by walk_at "cov") _)
local macro_rules | `(tactic| walk_at "led") => `(tactic| first | assumption | exact upd_same | exact look (by walk_at "led") (by walk_at "led") (by first | decide | omega) | exact look_new (by walk_at "led") (by assumption))
local macro_rules | `(tactic| walk_at "small") => `(tactic| first | assumption | ((have hsl := sizeLine_eq); (try simp only [List.length_append, List.length_cons, List.length_nil]); omega))
local macro_rules | `(tactic| walk_at "getMethod ref") => `(tactic| first
  | (refine meth_append (by k_asm) (by walk_at "cov") (by walk_at "led") (by first | exact .inl ⟨_, rfl⟩ | exact .inr ⟨_, rfl⟩) ?_)
  | (refine meth_pop (by k_asm) (by walk_at "cov") (by walk_at "led") ?_)
  | (refine meth_get (by k_asm) (by walk_at "cov") (by walk_at "led") ?_))
local macro_rules | `(tactic| walk_at "call builtin:list.append") => `(tactic| first
  | (refine append_int (by k_asm) (by k_asm) (by walk_at "cov") (by walk_at "led") (by walk_at "small") ?_; intro h' news' F' N' C')
  | (refine append_str (by k_asm) (by k_asm) (by walk_at "cov") (by walk_at "led") (by walk_at "small") ?_; intro h' news' F' N' C'))
local macro_rules | `(tactic| walk_at "call builtin:list.pop") => `(tactic| (refine pop_int (by k_asm) (by k_asm) (by walk_at "cov") (by walk_at "led") (by walk_at "small") ?_; intro t' h' news' F' N' C'))
local macro_rules | `(tactic| walk_at "setItem ref int") => `(tactic| (first
  | refine set_dints_old (by k_asm) (by k_asm) (by walk_at "cov") (by walk_at "led") (by walk_at "small") (by assumption) ?_
  | refine set_drefs_old (by k_asm) (by k_asm) (by walk_at "cov") (by walk_at "led") (by walk_at "small") (by assumption) ?_
  | refine set_dints_new (by k_asm) (by k_asm) (by walk_at "cov") (by walk_at "led") (by walk_at "small") (by assumption) ?_
  | refine set_drefs_new (by k_asm) (by k_asm) (by walk_at "cov") (by walk_at "led") (by walk_at "small") (by assumption) ?_); intro h' news' F' N' C')
local macro_rules | `(tactic| walk_at "call builtin:len") => `(tactic| (refine len_led (by k_asm) (by walk_at "cov") (by walk_at "led") (by walk_at "small") ?_; intro t' tk'))
local macro_rules | `(tactic| walk_at "subscriptTail") => `(tactic| first
  | (refine sub_dints (by k_asm) (by walk_at "cov") (by walk_at "led") (by assumption) ?_; intro t')
  | (refine sub_drefs (by k_asm) (by walk_at "cov") (by walk_at "led") (by assumption) ?_)
  | (refine item_last (by k_asm) (by walk_at "cov") (by walk_at "led") ?_; intro t')
  | (refine item_at (by k_asm) (by walk_at "cov") (by walk_at "led") (by assumption) (by assumption) (by assumption) ?_; intro t'))
local macro_rules | `(tactic| walk_at "compareOp NotIn") => `(tactic| first
  | (refine notin_led (by k_asm) (by walk_at "cov") (by walk_at "led") ?_)
  | (refine notin_ledS (by k_asm) (by walk_at "cov") (by walk_at "led") ?_))
local macro_rules | `(tactic| walk_at "compareOp In") => `(tactic| (refine in_led (by k_asm) (by walk_at "cov") (by walk_at "led") ?_))
local macro_rules | `(tactic| walk_at "callWith ref") => `(tactic| (refine callWith_led (by k_asm) (by walk_at "cov") (by walk_at "led") (by assumption) ?_))
local macro_rules | `(tactic| walk_at "eval Name") => `(tactic| (refine' nameX_K ?F ?X ?T ?e ?_ ?a ?b ?c; (case a => rfl); (case b => rfl); (case F => k_asm); (case X => k_asm); (case T => k_asm); (case e => k_is); (case c => decide)))
local macro_rules | `(tactic| walk_at "eval Name") => `(tactic| (refine nameX_L (by k_asm) (by first | exact rfl | assumption) ?_))
local macro_rules | `(tactic| walk_at "call builtin:min") => `(tactic| (refine min_two_N (by assumption) (by k_asm) (by k_asm) ?_; intro h' tk' F' N'; (try dsimp only)))
local macro_rules | `(tactic| walk_at "call builtin:dict.get") => `(tactic| (refine get_drefs (by k_asm) (by walk_at "cov") (by walk_at "led") (by assumption) ?_))
local macro_rules | `(tactic| walk_at "dec") => `(tactic| first | assumption | ((try simp only [decide_eq_true_eq, decide_eq_false_iff_not, beq_iff_eq, bne_iff_ne, ne_eq, Bool.not_eq_true', Bool.not_eq_true, Bool.not_eq_false', Bool.not_eq_false, Decidable.not_not, Classical.not_not]); assumption))
local macro_rules | `(tactic| walk_at "ite") => `(tactic| first | refine ite_yes (by walk_at "dec") ?_ | refine ite_no (by walk_at "dec") ?_)
local macro_rules | `(tactic| walk_at "halt") => `(tactic| first
  | (with_reducible show _ ∧ _)
  | (with_reducible show Exists _)
  | (with_reducible show wpAny _ _ (exec (Stmt.For _ _ _ _ _) _) _ _ _)
  | (with_reducible show wpAny _ _ (exec (Stmt.While _ _ _ _) _) _ _ _)
  | (with_reducible show wpAny _ _ (exec (Stmt.If _ _ _ _) _) _ _ _)
  | (with_reducible show wpAny _ _ (PySem.call (Value.ref _) _) _ _ _))
local macro_rules | `(tactic| walk_at "go") => `(tactic| repeat' ((fail_if_success (walk_at "halt")); first | (k_unfold; (try dsimp only)) | walk1 | (dsimp only; walk1)))

section
variable {w : World} {p : Program} {loose : List Str} {mean : ExcName → Option Value} {mg mb : Str → Option Value}

def RSpec (w : World) (p : Program) (loose : List Str) (mean : ExcName → Option Value) (mg mb : Str → Option Value) (cst : Led) (ad : Ad) (G : Gr) : Prop :=
  ∀ (A : Around) (base h₀ : Heap) (L : Addr) (env : Env) (E : Value → Shared → Prop) (s : Shared) (m : Str → Option Value) (news : List (Addr × Obj)) (led : Led) (opn : List Int) (x : Int) (t : Tok) (Q : Value → Shared → Prop),
    Ctx (Mine.hd.heap_39 w.params) p loose mean mg mb A base h₀ L env → Fr h₀ L s.heap m → News h₀ L s.heap news → Cov PySem.Challenge.rw_bc6012_01.row.prog w news led → SubL cst led → led ad.aO = some (5, .ints opn) → opn.length ≤ 100 → x ∈ G.pts →
    A.depth + 5 < recursionLimit → A.units + 100 < cLine →
    (∀ h' tk news', Fr h₀ L h' m → News h₀ L h' news' → Cov PySem.Challenge.rw_bc6012_01.row.prog w news' (upd led ad.aO (5, .ints (opn ++ [x]))) → Q (.ref (ad.tieA x)) { s with heap := h', toks := tk }) →
    wpAny (model PySem.Challenge.rw_bc6012_01.row.prog w) A (call (.ref ad.aR) [.int x t]) Q E s
def PSpec (w : World) (p : Program) (loose : List Str) (mean : ExcName → Option Value) (mg mb : Str → Option Value) (cst : Led) (ad : Ad) (G : Gr) : Prop :=
  ∀ (A : Around) (base h₀ : Heap) (L : Addr) (env : Env) (E : Value → Shared → Prop) (s : Shared) (m : Str → Option Value) (news : List (Addr × Obj)) (led : Led) (ask : List Int) (x : Int) (t : Tok) (Q : Value → Shared → Prop),
    Ctx (Mine.hd.heap_39 w.params) p loose mean mg mb A base h₀ L env → Fr h₀ L s.heap m → News h₀ L s.heap news → Cov PySem.Challenge.rw_bc6012_01.row.prog w news led → SubL cst led → led ad.aA = some (4, .ints ask) → ask.length ≤ 100 → x ∈ G.pts →
    A.depth + 5 < recursionLimit → A.units + 100 < cLine →
    (∀ D h' tk news', Fr h₀ L h' m → News h₀ L h' news' → Cov PySem.Challenge.rw_bc6012_01.row.prog w news' (upd (upd led ad.aA (4, .ints (ask ++ [x]))) D (6, .strs (G.own x))) → upd led ad.aA (4, .ints (ask ++ [x])) D = none → Q (.ref D) { s with heap := h', toks := tk }) →
    wpAny (model PySem.Challenge.rw_bc6012_01.row.prog w) A (call (.ref ad.aP) [.int x t]) Q E s

set_option maxHeartbeats 2000000 in
theorem trav {cst : Led} {ad : Ad} {G : Gr} (hR : RSpec w p loose mean mg mb cst ad G) (hP : PSpec w p loose mean mg mb cst ad G) (ok : G.Ok) (hnk : ∀ v, v ∈ G.pts → v ∈ ad.nk) (hnl : ad.nk.length ≤ 8)
    (hcst : ∀ a y, cst a = some y → 10 ≤ y.1 ∧ y.1 < 50) (hties : ∀ x ∈ G.pts, cst (ad.tieA x) = some (11, .ints (G.ties x))) {oR oP : Obj} {fR fP : FuncData} (hRo : cst ad.aR = some (20, .raw oR)) (hRd : oR.data = .func fR) (hPo : cst ad.aP = some (20, .raw oP)) (hPd : oP.data = .func fP) (h0 : ad.a0.length ≤ 50) (h1 : ad.o0.length ≤ 50) :
    ∀ (n : Nat) (A : Around) (base h₀ : Heap) (L : Addr) (env : Env) (E : Value → Shared → Prop) (s : Shared) (m : Str → Option Value) (news : List (Addr × Obj)) (led : Led) (σ : PS) (x : Int) (t : Tok) (g : Nat) (Q : Value → Shared → Prop),
      (G.pts.filter (· ∉ σ.fk)).length ≤ n → Ctx (Mine.hd.heap_39 w.params) p loose mean mg mb A base h₀ L env → Fr h₀ L s.heap m → News h₀ L s.heap news → Cov PySem.Challenge.rw_bc6012_01.row.prog w news led → TIn ad led σ → Inv G σ → x ∈ G.pts → x ∉ σ.fk → SubL cst led → 50 ≤ g →
      A.depth + n + 10 < recursionLimit → A.units + 8 * n + 150 < cLine →
      (∀ σ' led' h' tk news', Post G σ x σ' → TIn ad led' σ' → KeepL g led led' → Fr h₀ L h' m → News h₀ L h' news' → Cov PySem.Challenge.rw_bc6012_01.row.prog w news' led' → Q .none { s with heap := h', toks := tk }) →
      wpAny (model PySem.Challenge.rw_bc6012_01.row.prog w) A (call (.ref 28) [.int x t, .ref ad.aN, .ref ad.aS, .ref ad.aF, .ref ad.aX, .ref ad.aR, .ref ad.aP]) Q E s := by
  intro n
  induction n with
  | zero =>
    intro A base h₀ L env E s m news led σ x t g Q hn cx F N C TI I hx hxn
    exfalso
    have : x ∈ G.pts.filter (· ∉ σ.fk) := List.mem_filter.mpr ⟨hx, by simpa using hxn⟩
    have := List.length_pos_of_mem this
    omega
  | succ n ih =>
  intro A base h₀ L env E s m news led σ x t g Q hn cx F N C TI I hx hxn hsub hg hd hu hQ
  have X := cx.X
  revert X; k_fill; intro X
  refine' enter_def (fun v led' => v = .none ∧ ∃ σ', Post G σ x σ' ∧ TIn ad led' σ' ∧ KeepL g led led') cx F N C ?ho ?hcd ?hroom ?hbind ?hloc (fun g' L' h₁ cx' F' N' => ?_) ?hQ ?c2 ?c3 ?c4 ?c5
  case ho => k_is
  case hcd => k_is
  case hroom => omega
  case hbind => exact BindsTo.of_eq rfl
  case c5 => decide
  case hloc => exact locs rfl
  case c2 => exact rfl
  case c3 => exact rfl
  case c4 => exact rfl
  case hQ =>
    rintro v led' h' tk news' ⟨rfl, σ', h1, h2, h3⟩ F' N' C'
    exact hQ σ' led' h' tk news' h1 h2 h3 F' N' C'
  clear hQ
  have X' := cx'.X
  have T' := cx'.T
  have hh' := cx'.hh
  obtain ⟨A₀', outer', B', hA'⟩ := id cx'.below
  obtain ⟨tS, tN, tF, tA, tO, tM⟩ := id TI
  have hfew := I.few ok
  have hfewF := I.fewF ok
  have hxk := hnk x hx
  try dsimp only
  try k_fold
  have hRl := hsub _ _ hRo
  have hPl := hsub _ _ hPo
  unfold PSpec at hP
  unfold RSpec at hR
  walk_at "go"
  refine ⟨Cov.raw (by k_asm) (by k_asm) (by walk_at "led"), ?_⟩
  with_reducible refine hP _ _ _ _ _ _ _ _ _ _ _ _ _ _ cx' (by k_asm) (by k_asm) (by k_asm) ?_ (by walk_at "led") ?_ hx ?_ ?_ ?_
  rotate_left 4
  · intro D h' tk' news' F' N' C' hD
    dsimp only
    walk_at "go"
    refine ⟨Cov.raw (by k_asm) (by k_asm) (by walk_at "led"), ?_⟩
    with_reducible refine hR _ _ _ _ _ _ _ _ _ _ _ _ _ _ cx' (by k_asm) (by k_asm) (by k_asm) ?_ (by walk_at "led") ?_ hx ?_ ?_ ?_
    rotate_left 4
    · intro h' tk' news' F' N' C'
      dsimp only
      walk_at "go"
      have hdd : (((σ.stk ++ [x]).length : Nat) : Int) = ((σ.stk.length + 1 : Nat) : Int) := by simp
      obtain ⟨led₁, e₁, TI₁, K₁, hfree⟩ := start_TIn (g := g) TI hxn hdd hD
      rw [← e₁] at C'
      have M₁ := mid_start ok I hx hxn hfree
      clear e₁
      refine For_ints (h₀ := g') g cx'.hh rfl rfl ?_
      walk1
      have htie : ∀ l, KeepL g led l → l (ad.tieA x) = some (11, .ints (G.ties x)) := fun l K => K _ _ (hsub _ _ (hties x hx)) (by show 10 ≤ 11; omega) (by show 11 < g; omega)
      refine ⟨ad.tieA x, _, _, led₁, 11, G.ties x, _, _, LI ad G σ x t g led, rfl, rfl, by k_asm, by k_asm, C', htie _ K₁, (by omega), ⟨?_, ⟨_, by rw [List.take_zero]; exact M₁, TI₁⟩, K₁⟩, ?_, ?_, ?_, ?_, ?_⟩
      · rw [hdd]
        exact ⟨rfl, rfl, rfl, rfl, rfl, rfl, rfl, _, rfl⟩
      · exact fun i m l h => htie l h.2.2
      · exact fun i m l l' h hm => h.mono hm
      · exact fun i m l h => h.cut hg (Nat.le_refl _)
      · -- a turn
        rintro i y ty m₁ led₂ news₂ h₂ tk₂ IT ito E' hyi hil ⟨MFm, ⟨μ, M, TIμ⟩, Kμ⟩ hIT htg F₂ N₂ C₂
        have hyt : y ∈ G.ties x := List.mem_of_getElem? hyi
        have hyp := ok.ties x hx y hyt
        have hyk := hnk y hyp
        obtain ⟨mx, mN, mS, mF, mX, mR, mP, td, md⟩ := id MFm
        obtain ⟨uS, uN, uF, uA, uO, uM⟩ := id TIμ
        refine seq_cut (EndAt PySem.Challenge.rw_bc6012_01.row.prog w g' L' s (fun m' led' => MF ad x t ((σ.stk.length + 1 : Nat) : Int) m' ∧ m' (Str.ofString "y") = some (.int y ty) ∧ led' IT = some (g, .raw ito) ∧ KeepL g led led' ∧ ∃ μ₁, TIn ad led' μ₁ ∧ y ∈ μ₁.fk ∧ Inv G μ₁ ∧ x ∈ μ₁.stk ∧ Mid G σ x ((G.ties x).take i ++ [y]) (stepS μ₁ x y))) ?_ ?_
        · dsimp only
          walk1
          walk_at "go"
          · -- not met yet
            rename_i hz
            have hyf : y ∉ μ.fk := fun q => M.inv.num_ne q hz
            have hxμ : x ∈ μ.fk := M.inv.stkfk x M.mem
            have hsubF : ∀ v ∈ σ.fk, v ∈ μ.fk := fun v hv => by obtain ⟨ws, e⟩ := M.grow; rw [e]; exact List.mem_append_left _ hv
            have hless := filter_less hsubF hx hxn hxμ
            refine ⟨Frag.In.keeps cx'.X (Fr.keep F₂), ?_⟩
            refine ih _ _ _ _ _ _ _ _ _ led₂ μ y ty (g + 2) _ ?_ cx' (by k_asm) (by k_asm) (by k_asm) TIμ M.inv hyp hyf ?_ ?_ ?_ ?_ ?_
            · omega
            · exact hsub.keep hcst hg Kμ
            · omega
            · show A.depth + 1 + n + 10 < _
              omega
            · show A.units + 3 + 8 * n + 150 < _
              omega
            · intro σ' led' h' tk' news' P TI' K' F' N' C'
              dsimp only
              walk_at "go"
              have hyf' : y ∈ σ'.fk := by obtain ⟨ws, e⟩ := P.grow; rw [e]; simp
              have hxs' : x ∈ σ'.stk := by
                rcases P.stk with e | ⟨T, e⟩
                · rw [e]; exact M.mem
                · rw [e]; exact List.mem_append_left _ M.mem
              exact ⟨rfl, EndAt.intro F' N' C' ⟨MFm.set rfl, rfl, K' _ _ hIT (by show 10 ≤ g; omega) (by show g < g + 2; omega), Kμ.trans (K'.le (by omega)), σ', TI', hyf', P.inv, hxs', mid_new ok M hyt hyf P⟩⟩
          · rename_i hz
            have hyf : y ∈ μ.fk := M.inv.met hyp hz
            exact ⟨rfl, EndAt.intro F₂ N₂ C₂ ⟨MFm.set rfl, rfl, hIT, Kμ, μ, TIμ, hyf, M.inv, M.mem, mid_old ok M hyt hyf⟩⟩
        · -- the number and the marks
          rintro s' ⟨h₃, tk₃, m₃, news₃, led₃, rfl, F₃, N₃, C₃, MF₃, hy₃, hIT₃, K₃, μ₁, T₃, hyf, I₃, hxs, M₃⟩
          try dsimp only
          have hxf : x ∈ μ₁.fk := I₃.stkfk x hxs
          obtain ⟨nx, nN, nS, nF, nX, nR, nP, nd, nD⟩ := id MF₃
          obtain ⟨vS, vN, vF, vA, vO, vM⟩ := id T₃
          walk_at "go"
          have emin : (if μ₁.num y < μ₁.num x then μ₁.num y else μ₁.num x) = min (μ₁.num x) (μ₁.num y) := by
            rw [Int.min_def]; split <;> split <;> omega
          rename (Cov _ _ _ (upd led₃ _ _)) => C5
          rw [emin] at C5
          have T5 := T₃.setN (fset μ₁.num x (min (μ₁.num x) (μ₁.num y)))
          have hIT5 : upd led₃ ad.aN (2, AO.dints ad.nk (fset μ₁.num x (min (μ₁.num x) (μ₁.num y)))) IT = some (g, .raw ito) := look hIT₃ vN (by omega)
          have K5 : KeepL g led (upd led₃ ad.aN (2, AO.dints ad.nk (fset μ₁.num x (min (μ₁.num x) (μ₁.num y))))) := K₃.upd vN (by decide)
          generalize upd led₃ ad.aN (2, AO.dints ad.nk (fset μ₁.num x (min (μ₁.num x) (μ₁.num y)))) = led5 at C5 T5 hIT5 K5
          have w5F : led5 ad.aF = some (3, AO.drefs μ₁.fk μ₁.fa) := T5.F
          have w5M : led5 (μ₁.fa y) = some (6, AO.strs (μ₁.ms y)) := T5.M y hyf
          rw [← mergeS_zero] at T5
          refine For_strs (h₀ := g') (g + 1) hh' rfl rfl ?_
          walk_at "go"
          refine ⟨μ₁.fa y, _, _, led5, 6, μ₁.ms y, _, _, LJ ad σ x y t ty g led IT ito μ₁, rfl, rfl, by k_asm, by k_asm, by walk_at "cov", w5M, (by omega), ⟨MF₃, hy₃, hIT5, K5, T5⟩, ?_, ?_, ?_, ?_, ?_⟩
          · intro j m' l h
            have q := h.2.2.2.2.M y hyf
            have e : (mergeS μ₁ x y j).ms y = μ₁.ms y := by
              show pset μ₁.ms x (mergeL (μ₁.ms x) ((μ₁.ms y).take j)) y = μ₁.ms y
              by_cases z : y = x
              · subst z
                rw [pset_same]; exact mergeL_self fun a ha => List.mem_of_mem_take ha
              · exact pset_ne z
            rw [e] at q; exact q
          · exact fun j m' l l' h hm => h.mono hm
          · exact fun j m' l h => h.cut hg
          · -- one mark
            rintro j a ta m₆ led₆ news₆ h₆ tk₆ IT' ito' E'' haj hjl ⟨MF₆, hy₆, hIT₆, K₆, T₆⟩ hIT'₆ htg₆ F₆ N₆ C₆
            try dsimp only
            obtain ⟨ox, oN, oS, oF, oX, oR', oP', od, oD⟩ := id MF₆
            have x6F : led₆ ad.aF = some (3, AO.drefs μ₁.fk μ₁.fa) := T₆.F
            have x6M : led₆ (μ₁.fa x) = some (6, AO.strs (mergeL (μ₁.ms x) ((μ₁.ms y).take j))) := by
              have q := T₆.M x hxf
              rw [show (mergeS μ₁ x y j).ms x = mergeL (μ₁.ms x) ((μ₁.ms y).take j) from pset_same] at q
              exact q
            have hlen := I₃.merge_few ok hxf hyf j
            have halone : ∀ v ∈ μ₁.fk, μ₁.fa v = μ₁.fa x → v = x := I₃.alone x hxs
            walk1
            walk1
            walk1
            walk_at "go"
            · rename_i hna
              have hna' : a ∈ mergeL (μ₁.ms x) ((μ₁.ms y).take j) := by simpa using hna
              refine EndAt.intro F₆ N₆ C₆ ⟨hIT'₆, MF₆.set rfl, hy₆, hIT₆, K₆, ?_⟩
              have e : mergeS μ₁ x y (j + 1) = mergeS μ₁ x y j := by
                rw [mergeS_next haj, if_pos hna']
                unfold mergeS
                simp only [pset_pset]
              rw [e]; exact T₆
            · rename (¬ _ ∈ mergeL _ _) => hna
              rename (Cov _ _ _ (upd led₆ _ _)) => C8
              rename (Fr _ _ _ _) => F8
              rename (News _ _ _ _) => N8
              refine EndAt.intro F8 N8 C8 ⟨look hIT'₆ x6M (by omega), MF₆.set rfl, hy₆, look hIT₆ x6M (by omega), K₆.upd x6M (by decide), ?_⟩
              rw [mergeS_next haj, if_neg hna]
              exact T₆.setM hxf halone _
          · -- all marks
            rintro h₇ tk₇ m₇ led₇ news₇ F₇ N₇ C₇ htg₇ ⟨MF₇, hy₇, hIT₇, K₇, T₇⟩
            refine wpAny_execs_nil ?_
            rw [mergeS_all] at T₇
            have etake : (G.ties x).take (i + 1) = (G.ties x).take i ++ [y] := by rw [List.take_add_one, hyi]; rfl
            exact EndAt.intro F₇ N₇ C₇ ⟨hIT₇, MF₇, ⟨_, etake ▸ M₃, T₇⟩, K₇⟩
      · -- the end
        rintro h₇ tk₇ m₇ led₇ news₇ F₇ N₇ C₇ htg₇ ⟨MF₇, ⟨μ, M, T₇⟩, K₇⟩
        try dsimp only
        rw [List.take_length] at M
        obtain ⟨px, pN, pS, pF, pX, pR, pP, pd, pD⟩ := id MF₇
        obtain ⟨yS, yN, yF, yA, yO, yM⟩ := id T₇
        have hxf : x ∈ μ.fk := M.inv.stkfk x M.mem
        obtain ⟨T, eT⟩ := M.stk
        have hfewμ := M.inv.few ok
        have hfewFμ := M.inv.fewF ok
        walk1
        by_cases heq : μ.num x = ((σ.stk.length + 1 : Nat) : Int)
        rotate_left 1
        · walk1
          walk_at "go"
          exact EndAt.intro F₇ N₇ C₇ ⟨rfl, μ, mid_open M heq, T₇, K₇⟩
        · -- the root
          obtain ⟨T', e, eTe⟩ := snoc_of_cons T x
          have eT' : μ.stk = σ.stk ++ (T' ++ [e]) := by rw [eT, eTe]
          have yS' : led₇ ad.aS = some (1, AO.ints ((σ.stk ++ T') ++ [e])) := by rw [yS, eT', List.append_assoc]
          have hes : e ∈ μ.stk := by rw [eT']; simp
          have hef : e ∈ μ.fk := M.inv.stkfk e hes
          have hek : e ∈ ad.nk := hnk _ (M.inv.fkpts e hef)
          have hlen' : σ.stk.length + T'.length < 8 := by
            have q := hfewμ
            rw [eT'] at q
            simp only [List.length_append, List.length_cons, List.length_nil] at q
            omega
          clear yS
          have T9 := TIn.pop (by rw [popS_nil eT']; exact T₇) hxf
          rw [popS_nil eT'] at T9
          walk1
          walk_at "go"
          rename (Cov _ _ _ (upd (upd (upd led₇ _ _) _ _) _ _)) => C9
          have K9 : KeepL g led (upd (upd (upd led₇ ad.aN (2, AO.dints ad.nk (fset μ.num e MAX))) ad.aF (3, AO.drefs μ.fk (fset μ.fa e (μ.fa x)))) ad.aS (1, AO.ints (σ.stk ++ T'))) :=
            ((K₇.upd yN (by decide)).upd (look yF yN (by decide)) (by decide)).upd (look (look yS' yN (by decide)) (look yF yN (by decide)) (by decide)) (by decide)
          refine' While_led (h₀ := g') (LW ad σ μ x t g led T) T'.length ?wF ?wN C9 ?w0 ?wT
          case wF => k_asm
          case wN => k_asm
          case w0 => exact ⟨MF₇.set rfl, K9, T', e, [], _, eTe, rfl, T9, rfl⟩
          rintro k m' l' news' h' tk' E' F' N' C' ⟨MFw, Kw, T₁, e₁, P, te, eTP, hel, TIw, rfl⟩
          try dsimp only
          obtain ⟨qx, qN, qS, qF, qX, qR, qP, qd, qD⟩ := id MFw
          have hnd : (x :: T).Nodup := by
            have q := M.inv.nodupS
            rw [eT] at q
            exact (List.nodup_append.mp q).2.1
          by_cases hex : e₁ = x
          · -- the root is popped
            walk_at "go"
            have hT₁ : T₁ = [] := by
              cases T₁ with
              | nil => rfl
              | cons a r =>
                exfalso
                have e1 : x = a ∧ T = r ++ e₁ :: P := by simpa using eTP
                have := (List.nodup_cons.mp hnd).1
                exact this (by rw [e1.2, hex]; simp)
            subst hT₁
            have eTP' : x :: T = e₁ :: P := eTP
            rw [popS_all, ← eTP'] at TIw
            exact EndAt.intro F' N' C' ⟨rfl, _, mid_close I M heq eT, TIw, Kw⟩
          · -- one more
            have hT₁ : ∃ T₂ e₂, T₁ = T₂ ++ [e₂] := by
              cases T₁ with
              | nil => exact absurd (by have e1 : x = e₁ ∧ T = P := by simpa using eTP
                                        exact e1.1.symm) hex
              | cons a r => obtain ⟨T₂, e₂, h⟩ := snoc_of_cons r a; exact ⟨T₂, e₂, h⟩
            obtain ⟨T₂, e₂, rfl⟩ := hT₁
            have hes₂ : e₂ ∈ μ.stk := by rw [eT, eTP]; simp
            have hef₂ : e₂ ∈ μ.fk := M.inv.stkfk e₂ hes₂
            have hek₂ : e₂ ∈ ad.nk := hnk _ (M.inv.fkpts e₂ hef₂)
            have hlen₂ : σ.stk.length + T₂.length < 8 := by
              have q := hfewμ
              rw [eT, eTP] at q
              simp only [List.length_append, List.length_cons, List.length_nil] at q
              omega
            have zS : l' ad.aS = some (1, AO.ints ((σ.stk ++ T₂) ++ [e₂])) := by rw [TIw.S]; show some (1, AO.ints (σ.stk ++ (T₂ ++ [e₂]))) = _; rw [List.append_assoc]
            have zN := TIw.N
            have zF : l' ad.aF = some (3, AO.drefs μ.fk (popS σ μ x (T₂ ++ [e₂]) (e₁ :: P)).fa) := TIw.F
            have zT := TIn.pop TIw hxf
            walk_at "go"
            rename (Cov _ _ _ (upd (upd (upd l' _ _) _ _) _ _)) => C9
            rename (Fr _ _ _ _) => F9
            rename (News _ _ _ _) => N9
            have K9 := ((Kw.upd (y := AO.dints ad.nk (fset (popS σ μ x (T₂ ++ [e₂]) (e₁ :: P)).num e₂ MAX)) zN (by decide)).upd (y := AO.drefs μ.fk (fset (popS σ μ x (T₂ ++ [e₂]) (e₁ :: P)).fa e₂ ((popS σ μ x (T₂ ++ [e₂]) (e₁ :: P)).fa x))) (look zF zN (by decide)) (by decide)).upd (y := AO.ints (σ.stk ++ T₂)) (look (look zS zN (by decide)) (look zF zN (by decide)) (by decide)) (by decide)
            exact EndAt.intro F9 N9 C9 ⟨T₂.length, by simp, MFw.set rfl, K9, T₂, e₂, e₁ :: P, _, by rw [eTP, List.append_assoc]; rfl, rfl, zT, rfl⟩
    · intro a y e
      have q := hsub a y e
      have q1 := (hcst a y e).1
      obtain ⟨ty, yy⟩ := y
      have q2 : 10 ≤ ty := q1
      walk_at "led"
    · simp only [List.length_append]; omega
    · show A.depth + 1 + 5 < _
      omega
    · show A.units + 3 + 100 < _
      omega
  · intro a y e
    have q := hsub a y e
    have q1 := (hcst a y e).1
    obtain ⟨ty, yy⟩ := y
    have q2 : 10 ≤ ty := q1
    walk_at "led"
  · simp only [List.length_append]; omega
  · show A.depth + 1 + 5 < _
    omega
  · show A.units + 3 + 100 < _
    omega
end
end Mine
end

section
/-! ## From -/
open PySem PySem.W PyProof.Rows PySem.Spec PySem.Calls
set_option Elab.async false
set_option maxRecDepth 100000
namespace Mine
local macro_rules | `(tactic| walk_at "cov") => `(tactic| first | k_asm | exact Cov.cons (by walk_at "cov") _)
local macro_rules | `(tactic| walk_at "led") => `(tactic| first | assumption | exact upd_same | exact look (by walk_at "led") (by walk_at "led") (by first | decide | omega) | exact look_new (by walk_at "led") (by assumption))
local macro_rules | `(tactic| walk_at "small") => `(tactic| first | assumption | ((have hsl := sizeLine_eq); (try simp only [List.length_append, List.length_cons, List.length_nil]); omega))
local macro_rules | `(tactic| walk_at "getMethod ref") => `(tactic| first
  | (refine meth_append (by k_asm) (by walk_at "cov") (by walk_at "led") (by first | exact .inl ⟨_, rfl⟩ | exact .inr ⟨_, rfl⟩) ?_)
  | (refine meth_pop (by k_asm) (by walk_at "cov") (by walk_at "led") ?_)
  | (refine meth_get (by k_asm) (by walk_at "cov") (by walk_at "led") ?_))
local macro_rules | `(tactic| walk_at "call builtin:list.append") => `(tactic| first
  | (refine append_int (by k_asm) (by k_asm) (by walk_at "cov") (by walk_at "led") (by walk_at "small") ?_; intro h' news' F' N' C')
  | (refine append_str (by k_asm) (by k_asm) (by walk_at "cov") (by walk_at "led") (by walk_at "small") ?_; intro h' news' F' N' C'))
local macro_rules | `(tactic| walk_at "call builtin:list.pop") => `(tactic| (refine pop_int (by k_asm) (by k_asm) (by walk_at "cov") (by walk_at "led") (by walk_at "small") ?_; intro t' h' news' F' N' C'))
local macro_rules | `(tactic| walk_at "setItem ref int") => `(tactic| (first
  | refine set_dints_old (by k_asm) (by k_asm) (by walk_at "cov") (by walk_at "led") (by walk_at "small") (by assumption) ?_
  | refine set_drefs_old (by k_asm) (by k_asm) (by walk_at "cov") (by walk_at "led") (by walk_at "small") (by assumption) ?_
  | refine set_dints_new (by k_asm) (by k_asm) (by walk_at "cov") (by walk_at "led") (by walk_at "small") (by assumption) ?_
  | refine set_drefs_new (by k_asm) (by k_asm) (by walk_at "cov") (by walk_at "led") (by walk_at "small") (by assumption) ?_); intro h' news' F' N' C')
local macro_rules | `(tactic| walk_at "call builtin:len") => `(tactic| (refine len_led (by k_asm) (by walk_at "cov") (by walk_at "led") (by walk_at "small") ?_; intro t' tk'))
local macro_rules | `(tactic| walk_at "subscriptTail") => `(tactic| first
  | (refine sub_dints (by k_asm) (by walk_at "cov") (by walk_at "led") (by assumption) ?_; intro t')
  | (refine sub_drefs (by k_asm) (by walk_at "cov") (by walk_at "led") (by assumption) ?_)
  | (refine item_last (by k_asm) (by walk_at "cov") (by walk_at "led") ?_; intro t')
  | (refine item_at (by k_asm) (by walk_at "cov") (by walk_at "led") (by assumption) (by assumption) (by assumption) ?_; intro t'))
local macro_rules | `(tactic| walk_at "compareOp NotIn") => `(tactic| first
  | (refine notin_led (by k_asm) (by walk_at "cov") (by walk_at "led") ?_)
  | (refine notin_ledS (by k_asm) (by walk_at "cov") (by walk_at "led") ?_))
local macro_rules | `(tactic| walk_at "compareOp In") => `(tactic| (refine in_led (by k_asm) (by walk_at "cov") (by walk_at "led") ?_))
local macro_rules | `(tactic| walk_at "callWith ref") => `(tactic| (refine callWith_led (by k_asm) (by walk_at "cov") (by walk_at "led") (by assumption) ?_))
local macro_rules | `(tactic| walk_at "eval Name") => `(tactic| (refine' nameX_K ?F ?X ?T ?e ?_ ?a ?b ?c; (case a => rfl); (case b => rfl); (case F => k_asm); (case X => k_asm); (case T => k_asm); (case e => k_is); (case c => decide)))
local macro_rules | `(tactic| walk_at "eval Name") => `(tactic| (refine nameX_L (by k_asm) (by first | exact rfl | assumption) ?_))
local macro_rules | `(tactic| walk_at "call builtin:min") => `(tactic| (refine min_two_N (by assumption) (by k_asm) (by k_asm) ?_; intro h' tk' F' N'; (try dsimp only)))
local macro_rules | `(tactic| walk_at "call builtin:dict.get") => `(tactic| (refine get_drefs (by k_asm) (by walk_at "cov") (by walk_at "led") (by assumption) ?_))
local macro_rules | `(tactic| walk_at "dec") => `(tactic| first | assumption | ((try simp only [decide_eq_true_eq, decide_eq_false_iff_not, beq_iff_eq, bne_iff_ne, ne_eq, Bool.not_eq_true', Bool.not_eq_true, Bool.not_eq_false', Bool.not_eq_false, Decidable.not_not, Classical.not_not]); assumption))
local macro_rules | `(tactic| walk_at "ite") => `(tactic| first | refine ite_yes (by walk_at "dec") ?_ | refine ite_no (by walk_at "dec") ?_)
local macro_rules | `(tactic| walk_at "halt") => `(tactic| first
  | (with_reducible show _ ∧ _)
  | (with_reducible show Exists _)
  | (with_reducible show wpAny _ _ (exec (Stmt.For _ _ _ _ _) _) _ _ _)
  | (with_reducible show wpAny _ _ (exec (Stmt.While _ _ _ _) _) _ _ _)
  | (with_reducible show wpAny _ _ (exec (Stmt.If _ _ _ _) _) _ _ _)
  | (with_reducible show wpAny _ _ (PySem.call (Value.ref _) _) _ _ _))
local macro_rules | `(tactic| walk_at "go") => `(tactic| repeat' ((fail_if_success (walk_at "halt")); first | (k_unfold; (try dsimp only)) | walk1 | (dsimp only; walk1)))
local macro_rules | `(tactic| walk_at "halt") => `(tactic| (with_reducible show wpAny _ _ (newList _) _ _ _))

/-- what is found so far leads from start; the first i are looked through -/
structure Bf (G : Gr) (start : Int) (found : List Int) (i : Nat) : Prop where
  nodup : found.Nodup
  has : start ∈ found
  reach : ∀ v ∈ found, Reach G.ties start v
  done : ∀ (j : Nat) v, j < i → found[j]? = some v → ∀ y ∈ G.ties v, y ∈ found
theorem Bf.few {G : Gr} (ok : G.Ok) {start : Int} {found : List Int} {i : Nat} (B : Bf G start found i) (hs : start ∈ G.pts) : found.length ≤ 8 :=
  Nat.le_trans (nodup_le B.nodup fun a h => ok.reach (B.reach a h) hs) ok.few
theorem Bf.all {G : Gr} {start : Int} {found : List Int} {i : Nat} (B : Bf G start found i) (hi : found.length ≤ i) (v : Int) : v ∈ found ↔ Reach G.ties start v := by
  refine ⟨B.reach v, fun h => ?_⟩
  have : ∀ x v, Reach G.ties x v → x ∈ found → v ∈ found := by
    intro x v h
    induction h with
    | refl => exact id
    | step m _ ih =>
      intro hx
      obtain ⟨j, hj⟩ := List.getElem?_of_mem hx
      exact ih (B.done j _ (Nat.lt_of_lt_of_le (get_lt hj) hi) hj _ m)
  exact this _ _ h B.has

theorem Bf.add {G : Gr} {start : Int} {l : List Int} {i : Nat} (B : Bf G start l i) (hi : i ≤ l.length) {y : Int} (hy : y ∉ l) (hr : Reach G.ties start y) : Bf G start (l ++ [y]) i := by
  refine ⟨List.nodup_append.mpr ⟨B.nodup, by simp, fun a ha b hb e => hy (by rw [List.mem_singleton] at hb; rw [← hb, ← e]; exact ha)⟩, List.mem_append_left _ B.has, fun v hv => ?_, fun j v hj h z hz => ?_⟩
  · rcases List.mem_append.mp hv with q | q
    · exact B.reach v q
    · rw [List.mem_singleton] at q; exact q ▸ hr
  · exact List.mem_append_left _ (B.done j v hj (get_unapp h (by omega)) z hz)
theorem Bf.next {G : Gr} {start : Int} {l : List Int} {i : Nat} (B : Bf G start l i) {v : Int} (hv : l[i]? = some v) (h : ∀ y ∈ G.ties v, y ∈ l) : Bf G start l (i + 1) := by
  refine ⟨B.nodup, B.has, B.reach, fun j u hj hu => ?_⟩
  rcases Nat.lt_or_ge j i with q | q
  · exact B.done j u q hu
  · have : j = i := by omega
    subst this
    rw [hv] at hu
    exact Option.some.inj hu ▸ h
def FI (tA D : Addr) (g : Nat) (led : Led) (m : Str → Option Value) (led' : Led) : Prop :=
  m (Str.ofString "ties") = some (.ref tA) ∧ m (Str.ofString "found") = some (.ref D) ∧ KeepA g led led'
def WI (G : Gr) (start : Int) (tA D : Addr) (g : Nat) (led : Led) (k : Nat) (m : Str → Option Value) (led' : Led) : Prop :=
  FI tA D g led m led' ∧ ∃ found, ∃ i : Nat, ∃ a ta, led' D = some (30, .ints found) ∧ Bf G start found i ∧ i ≤ found.length ∧ m (Str.ofString "at") = some (.int a ta) ∧ a = (i : Int) ∧ k = 9 - i
def OI (G : Gr) (start : Int) (tA D : Addr) (g : Nat) (led : Led) (found : List Int) (i : Nat) (ns : List Int) (a : Int) (ta : Tok) (j : Nat) (m : Str → Option Value) (led' : Led) : Prop :=
  FI tA D g led m led' ∧ m (Str.ofString "at") = some (.int a ta) ∧ ∃ more, led' D = some (30, .ints (found ++ more)) ∧ Bf G start (found ++ more) i ∧ ∀ y ∈ ns.take j, y ∈ found ++ more

set_option maxHeartbeats 2000000 in
theorem from_c {w : World} {p : Program} {loose : List Str} {mean : ExcName → Option Value} {mg mb : Str → Option Value} {G : Gr} (ok : G.Ok) {tk : List Int} {tieA : Int → Addr} (htk : ∀ v ∈ G.pts, v ∈ tk) (A : Around) (base h₀ : Heap) (L : Addr) (env : Env) (E : Value → Shared → Prop) (s : Shared) (m : Str → Option Value) (news : List (Addr × Obj)) (led : Led)
      (tA : Addr) (start : Int) (t : Tok) (g : Nat) (Q : Value → Shared → Prop) (cx : Ctx (Mine.hd.heap_39 w.params) p loose mean mg mb A base h₀ L env) (F : Fr h₀ L s.heap m) (N : News h₀ L s.heap news) (C : Cov PySem.Challenge.rw_bc6012_01.row.prog w news led)
      (hT : led tA = some (10, .drefs tk tieA)) (hties : ∀ v ∈ G.pts, led (tieA v) = some (11, .ints (G.ties v))) (hst : start ∈ G.pts) (hg : 50 ≤ g) (hd : A.depth + 5 < recursionLimit) (hu : A.units + 100 < cLine)
      (hQ : ∀ D found led' h' tk' news', (∀ v, v ∈ found ↔ Reach G.ties start v) → found.Nodup → led' D = some (30, .ints found) → led D = none → KeepA g led led' → Fr h₀ L h' m → News h₀ L h' news' → Cov PySem.Challenge.rw_bc6012_01.row.prog w news' led' → Q (.ref D) { s with heap := h', toks := tk' }) :
      wpAny (model PySem.Challenge.rw_bc6012_01.row.prog w) A (call (.ref 35) [.ref tA, .int start t]) Q E s := by
  have X := cx.X
  revert X; k_fill; intro X
  refine' enter_def (fun v led' => ∃ D found, v = .ref D ∧ (∀ v, v ∈ found ↔ Reach G.ties start v) ∧ found.Nodup ∧ led' D = some (30, .ints found) ∧ led D = none ∧ KeepA g led led') cx F N C ?ho ?hcd ?hroom ?hbind ?hloc (fun g' L' h₁ cx' F' N' => ?_) ?hQ ?c2 ?c3 ?c4 ?c5
  case ho => k_is
  case hcd => k_is
  case hroom => omega
  case hbind => exact BindsTo.of_eq rfl
  case c5 => decide
  case hloc => exact locs rfl
  case c2 => exact rfl
  case c3 => exact rfl
  case c4 => exact rfl
  case hQ =>
    rintro v led' h' tk news' ⟨D, found, rfl, h1, h2, h3, h4, h5⟩ F' N' C'
    exact hQ D found led' h' tk news' h1 h2 h3 h4 h5 F' N' C'
  clear hQ
  have X' := cx'.X
  have T' := cx'.T
  have hh' := cx'.hh
  try dsimp only
  try k_fold
  walk_at "go"
  refine new_ints 30 (by k_asm) (by k_asm) (by walk_at "cov") (IntsAre.cons _ _ IntsAre.nil) (by walk_at "small") ?_
  intro D h' news' F' N' C' hD hD1 hD0
  try dsimp only
  walk_at "go"
  rename (Cov _ _ _ (upd led D _)) => C1
  have K1 : KeepA g led (upd led D (30, .ints [start])) := KeepA.refl.new hD
  have q1 : upd led D (30, AO.ints [start]) D = some (30, .ints [start]) := upd_same
  refine' While_led (h₀ := g') (WI G start tA D g led) 9 ?wF ?wN C1 ?w0 ?wT
  case wF => k_asm
  case wN => k_asm
  case w0 => exact ⟨⟨rfl, rfl, K1⟩, [start], 0, 0, _, q1, ⟨by simp, by simp, fun v hv => by rw [List.mem_singleton.mp hv]; exact .refl _, fun j v hj => absurd hj (Nat.not_lt_zero _)⟩, by simp, rfl, rfl, rfl⟩
  rintro k m' l' news' h' tk' E' F' N' C' ⟨⟨mt, mf, K⟩, found, i, a, ta, hf, B, hi, ha, rfl, rfl⟩
  try dsimp only
  have hfew := B.few ok hst
  by_cases hlt : (i : Int) < ((found.length : Nat) : Int)
  rotate_left 1
  · -- the end
    walk_at "go"
    have hle : found.length ≤ i := by omega
    exact EndAt.intro F' N' C' ⟨D, found, rfl, B.all hle, B.nodup, hf, hD, K⟩
  · -- a point
    have hil : i < found.length := by omega
    have hv : found[((i : Int)).toNat]? = some found[i] := by simp [hil]
    have hvm : found[i] ∈ found := List.getElem_mem hil
    have hvp : found[i] ∈ G.pts := ok.reach (B.reach _ hvm) hst
    have hvk := htk _ hvp
    have hfit : (i : Int) < 2 ^ 63 := by omega
    have h0 : (0 : Int) ≤ (i : Int) := by omega
    have hT' := K _ _ hT (by show 10 < g; omega)
    have hties' := K _ _ (hties _ hvp) (by show 11 < g; omega)
    walk_at "go"
    refine For_ints (h₀ := g') g hh' rfl rfl ?_
    walk_at "go"
    refine ⟨tieA found[i], _, _, l', 11, G.ties found[i], _, _, OI G start tA D g led found i (G.ties found[i]) (i : Int) ta, rfl, rfl, by k_asm, by k_asm, C', hties', (by omega), ⟨⟨mt, mf, K⟩, ha, [], by rw [List.append_nil]; exact hf, by rw [List.append_nil]; exact B, fun y hy => by simp at hy⟩, ?_, ?_, ?_, ?_, ?_⟩
    · exact fun j m l h => h.1.2.2 _ _ (hties _ hvp) (by show 11 < g; omega)
    · exact fun j m l l' ⟨⟨a1, a2, a3⟩, a4, more, a5, a6, a7⟩ hm => ⟨⟨a1, a2, a3.mono hm⟩, a4, more, hm _ _ a5, a6, a7⟩
    · exact fun j m l ⟨⟨a1, a2, a3⟩, a4, more, a5, a6, a7⟩ => ⟨⟨a1, a2, a3.cut (Nat.le_refl _)⟩, a4, more, cut_some a5 (by show 30 < g; omega), a6, a7⟩
    · -- one tie
      rintro j y ty m₂ led₂ news₂ h₂ tk₂ IT ito E₂ hyj hjl ⟨⟨nt, nf, K₂⟩, na, more, hf₂, B₂, hin⟩ hIT htg F₂ N₂ C₂
      try dsimp only
      have hyt : y ∈ G.ties found[i] := List.mem_of_getElem? hyj
      have hfew₂ := B₂.few ok hst
      have etake : (G.ties found[i]).take (j + 1) = (G.ties found[i]).take j ++ [y] := by rw [List.take_add_one, hyj]; rfl
      by_cases hy : y ∈ found ++ more
      · walk1
        walk1
        walk_at "go"
        refine EndAt.intro F₂ N₂ C₂ ⟨hIT, ⟨nt, nf, K₂⟩, na, more, hf₂, B₂, fun z hz => ?_⟩
        rw [etake] at hz
        rcases List.mem_append.mp hz with q | q
        · exact hin z q
        · rw [List.mem_singleton] at q; exact q ▸ hy
      · have hfew₃ : found.length + more.length ≤ 8 := by simpa using hfew₂
        walk1
        walk1
        walk_at "go"
        rename (Cov _ _ _ (upd led₂ _ _)) => C9
        rename (Fr _ _ _ _) => F9
        rename (News _ _ _ _) => N9
        refine EndAt.intro F9 N9 C9 ⟨look hIT hf₂ (by omega), ⟨nt, nf, K₂.new hD⟩, na, more ++ [y], by rw [← List.append_assoc]; exact upd_same, ?_, fun z hz => ?_⟩
        · rw [← List.append_assoc]
          exact B₂.add (by simp only [List.length_append]; omega) hy ((B.reach _ hvm).trans (.one hyt))
        · rw [etake] at hz
          rw [← List.append_assoc]
          rcases List.mem_append.mp hz with q | q
          · exact List.mem_append_left _ (hin z q)
          · exact List.mem_append_right _ q
    · -- all ties
      rintro h₃ tk₃ m₃ led₃ news₃ F₃ N₃ C₃ htg ⟨⟨nt, nf, K₃⟩, na, more, hf₃, B₃, hin⟩
      try dsimp only
      walk_at "go"
      rename (Fr _ _ _ _) => F9
      rename (News _ _ _ _) => N9
      rw [List.take_length] at hin
      refine EndAt.intro F9 N9 C₃ ⟨9 - (i + 1), by omega, ⟨nt, nf, K₃⟩, found ++ more, i + 1, _, _, hf₃, B₃.next ?_ hin, by simp only [List.length_append]; omega, rfl, by push_cast; rfl, rfl⟩
      rw [List.getElem?_append_left hil]; simp [hil]
end Mine
end

section
/-! ## Marks -/
open PySem PySem.W PyProof.Rows PySem.Spec PySem.Calls
set_option Elab.async false
set_option maxRecDepth 100000
namespace Mine
local macro_rules | `(tactic| walk_at "cov") => `(tactic| first | k_asm | exact Cov.cons (by walk_at "cov") _)
local macro_rules | `(tactic| walk_at "led") => `(tactic| first | assumption | exact upd_same | exact look (by walk_at "led") (by walk_at "led") (by first | decide | omega) | exact look_new (by walk_at "led") (by assumption))
local macro_rules | `(tactic| walk_at "small") => `(tactic| first | assumption | ((have hsl := sizeLine_eq); (try simp only [List.length_append, List.length_cons, List.length_nil]); omega))
local macro_rules | `(tactic| walk_at "getMethod ref") => `(tactic| first
  | (refine meth_append (by k_asm) (by walk_at "cov") (by walk_at "led") (by first | exact .inl ⟨_, rfl⟩ | exact .inr ⟨_, rfl⟩) ?_)
  | (refine meth_pop (by k_asm) (by walk_at "cov") (by walk_at "led") ?_)
  | (refine meth_get (by k_asm) (by walk_at "cov") (by walk_at "led") ?_))
local macro_rules | `(tactic| walk_at "call builtin:list.append") => `(tactic| first
  | (refine append_int (by k_asm) (by k_asm) (by walk_at "cov") (by walk_at "led") (by walk_at "small") ?_; intro h' news' F' N' C')
  | (refine append_str (by k_asm) (by k_asm) (by walk_at "cov") (by walk_at "led") (by walk_at "small") ?_; intro h' news' F' N' C'))
local macro_rules | `(tactic| walk_at "call builtin:list.pop") => `(tactic| (refine pop_int (by k_asm) (by k_asm) (by walk_at "cov") (by walk_at "led") (by walk_at "small") ?_; intro t' h' news' F' N' C'))
local macro_rules | `(tactic| walk_at "setItem ref int") => `(tactic| (first
  | refine set_dints_old (by k_asm) (by k_asm) (by walk_at "cov") (by walk_at "led") (by walk_at "small") (by assumption) ?_
  | refine set_drefs_old (by k_asm) (by k_asm) (by walk_at "cov") (by walk_at "led") (by walk_at "small") (by assumption) ?_
  | refine set_dints_new (by k_asm) (by k_asm) (by walk_at "cov") (by walk_at "led") (by walk_at "small") (by assumption) ?_
  | refine set_drefs_new (by k_asm) (by k_asm) (by walk_at "cov") (by walk_at "led") (by walk_at "small") (by assumption) ?_); intro h' news' F' N' C')
local macro_rules | `(tactic| walk_at "call builtin:len") => `(tactic| (refine len_led (by k_asm) (by walk_at "cov") (by walk_at "led") (by walk_at "small") ?_; intro t' tk'))
local macro_rules | `(tactic| walk_at "subscriptTail") => `(tactic| first
  | (refine sub_dints (by k_asm) (by walk_at "cov") (by walk_at "led") (by assumption) ?_; intro t')
  | (refine sub_drefs (by k_asm) (by walk_at "cov") (by walk_at "led") (by assumption) ?_)
  | (refine item_last (by k_asm) (by walk_at "cov") (by walk_at "led") ?_; intro t')
  | (refine item_at (by k_asm) (by walk_at "cov") (by walk_at "led") (by assumption) (by assumption) (by assumption) ?_; intro t'))
local macro_rules | `(tactic| walk_at "compareOp NotIn") => `(tactic| first
  | (refine notin_led (by k_asm) (by walk_at "cov") (by walk_at "led") ?_)
  | (refine notin_ledS (by k_asm) (by walk_at "cov") (by walk_at "led") ?_))
local macro_rules | `(tactic| walk_at "compareOp In") => `(tactic| (refine in_led (by k_asm) (by walk_at "cov") (by walk_at "led") ?_))
local macro_rules | `(tactic| walk_at "callWith ref") => `(tactic| (refine callWith_led (by k_asm) (by walk_at "cov") (by walk_at "led") (by assumption) ?_))
local macro_rules | `(tactic| walk_at "eval Name") => `(tactic| (refine' nameX_K ?F ?X ?T ?e ?_ ?a ?b ?c; (case a => rfl); (case b => rfl); (case F => k_asm); (case X => k_asm); (case T => k_asm); (case e => k_is); (case c => decide)))
local macro_rules | `(tactic| walk_at "eval Name") => `(tactic| (refine nameX_L (by k_asm) (by first | exact rfl | assumption) ?_))
local macro_rules | `(tactic| walk_at "call builtin:min") => `(tactic| (refine min_two_N (by assumption) (by k_asm) (by k_asm) ?_; intro h' tk' F' N'; (try dsimp only)))
local macro_rules | `(tactic| walk_at "call builtin:dict.get") => `(tactic| (refine get_drefs (by k_asm) (by walk_at "cov") (by walk_at "led") (by assumption) ?_))
local macro_rules | `(tactic| walk_at "dec") => `(tactic| first | assumption | ((try simp only [decide_eq_true_eq, decide_eq_false_iff_not, beq_iff_eq, bne_iff_ne, ne_eq, Bool.not_eq_true', Bool.not_eq_true, Bool.not_eq_false', Bool.not_eq_false, Decidable.not_not, Classical.not_not]); assumption))
local macro_rules | `(tactic| walk_at "ite") => `(tactic| first | refine ite_yes (by walk_at "dec") ?_ | refine ite_no (by walk_at "dec") ?_)
local macro_rules | `(tactic| walk_at "halt") => `(tactic| first
  | (with_reducible show _ ∧ _)
  | (with_reducible show Exists _)
  | (with_reducible show wpAny _ _ (exec (Stmt.For _ _ _ _ _) _) _ _ _)
  | (with_reducible show wpAny _ _ (exec (Stmt.While _ _ _ _) _) _ _ _)
  | (with_reducible show wpAny _ _ (exec (Stmt.If _ _ _ _) _) _ _ _)
  | (with_reducible show wpAny _ _ (PySem.call (Value.ref _) _) _ _ _))
local macro_rules | `(tactic| walk_at "go") => `(tactic| repeat' ((fail_if_success (walk_at "halt")); first | (k_unfold; (try dsimp only)) | walk1 | (dsimp only; walk1)))
local macro_rules | `(tactic| walk_at "halt") => `(tactic| (with_reducible show wpAny _ _ (newList _) _ _ _))
local macro_rules | `(tactic| walk_at "halt") => `(tactic| (with_reducible show wpAny _ _ (PySem.call (Value.builtin "sorted") _) _ _ _))

def MOI (G : Gr) (oA M Df : Addr) (g : Nat) (led : Led) (found : List Int) (i : Nat) (m : Str → Option Value) (led' : Led) : Prop :=
  m (Str.ofString "marks") = some (.ref M) ∧ m (Str.ofString "own") = some (.ref oA) ∧ KeepA g led led' ∧ led' Df = some (30, .ints found) ∧
    ∃ ms, led' M = some (31, .strs ms) ∧ ms.Nodup ∧ ∀ a, a ∈ ms ↔ ∃ z ∈ found.take i, a ∈ G.own z
def MII (G : Gr) (oA M Df : Addr) (g : Nat) (led : Led) (found : List Int) (ms : List Str) (z : Int) (IT : Addr) (ito : Obj) (j : Nat) (m : Str → Option Value) (led' : Led) : Prop :=
  m (Str.ofString "marks") = some (.ref M) ∧ m (Str.ofString "own") = some (.ref oA) ∧ KeepA g led led' ∧ led' Df = some (30, .ints found) ∧ led' IT = some (g, .raw ito) ∧ led' M = some (31, .strs (mergeL ms ((G.own z).take j)))

set_option maxHeartbeats 2000000 in
theorem marks_c {w : World} {p : Program} {loose : List Str} {mean : ExcName → Option Value} {mg mb : Str → Option Value} {G : Gr} (ok : G.Ok) {tk okk : List Int} {tieA ownA : Int → Addr} (htk : ∀ v ∈ G.pts, v ∈ tk) (hok : ∀ v ∈ G.pts, v ∈ okk) (A : Around) (base h₀ : Heap) (L : Addr) (env : Env) (E : Value → Shared → Prop) (s : Shared) (m : Str → Option Value) (news : List (Addr × Obj)) (led : Led)
      (oA tA : Addr) (start : Int) (t : Tok) (g : Nat) (Q : Value → Shared → Prop) (cx : Ctx (Mine.hd.heap_39 w.params) p loose mean mg mb A base h₀ L env) (F : Fr h₀ L s.heap m) (N : News h₀ L s.heap news) (C : Cov PySem.Challenge.rw_bc6012_01.row.prog w news led)
      (hT : led tA = some (10, .drefs tk tieA)) (hties : ∀ v ∈ G.pts, led (tieA v) = some (11, .ints (G.ties v))) (hO : led oA = some (12, .drefs okk ownA)) (hown : ∀ v ∈ G.pts, led (ownA v) = some (13, .strs (G.own v))) (hst : start ∈ G.pts) (hg : 50 ≤ g) (hd : A.depth + 8 < recursionLimit) (hu : A.units + 150 < cLine)
      (hQ : ∀ D ms led' h' tk' news', (∀ a, a ∈ ms ↔ ∃ z, Reach G.ties start z ∧ a ∈ G.own z) → ms.Nodup → sortedS ms = true → led' D = some (32, .strs ms) → KeepA g led led' → Fr h₀ L h' m → News h₀ L h' news' → Cov PySem.Challenge.rw_bc6012_01.row.prog w news' led' → Q (.ref D) { s with heap := h', toks := tk' }) :
      wpAny (model PySem.Challenge.rw_bc6012_01.row.prog w) A (call (.ref 42) [.ref oA, .ref tA, .int start t]) Q E s := by
  have X := cx.X
  revert X; k_fill; intro X
  refine' enter_def (fun v led' => ∃ D ms, v = .ref D ∧ (∀ a, a ∈ ms ↔ ∃ z, Reach G.ties start z ∧ a ∈ G.own z) ∧ ms.Nodup ∧ sortedS ms = true ∧ led' D = some (32, .strs ms) ∧ KeepA g led led') cx F N C ?ho ?hcd ?hroom ?hbind ?hloc (fun g' L' h₁ cx' F' N' => ?_) ?hQ ?c2 ?c3 ?c4 ?c5
  case ho => k_is
  case hcd => k_is
  case hroom => omega
  case hbind => exact BindsTo.of_eq rfl
  case c5 => decide
  case hloc => exact locs rfl
  case c2 => exact rfl
  case c3 => exact rfl
  case c4 => exact rfl
  case hQ =>
    rintro v led' h' tk news' ⟨D, ms, rfl, h1, h2, h3, h4, h6⟩ F' N' C'
    exact hQ D ms led' h' tk news' h1 h2 h3 h4 h6 F' N' C'
  clear hQ
  have X' := cx'.X
  have T' := cx'.T
  have hh' := cx'.hh
  try dsimp only
  try k_fold
  walk_at "go"
  refine new_strs 31 (by k_asm) (by k_asm) (by walk_at "cov") StrsAre.nil (by walk_at "small") ?_
  intro M h' news' F' N' C' hM hM1 hM0
  try dsimp only
  walk_at "go"
  refine For_ints (h₀ := g') g hh' rfl rfl ?_
  walk_at "go"
  refine ⟨Frag.In.keeps cx'.X (Fr.keep (by k_asm)), ?_⟩
  refine from_c ok htk _ _ _ _ _ _ _ _ _ _ tA start t g _ cx' (by k_asm) (by k_asm) (by walk_at "cov") (look_new hT hM) (fun v hv => look_new (hties v hv) hM) hst hg ?_ ?_ ?_
  · show A.depth + 1 + 5 < _
    omega
  · show A.units + 3 + 100 < _
    omega
  intro Df found led₂ h₂ tk₂ news₂ hfound hnd hDf hDn K₂ F₂ N₂ C₂
  try dsimp only
  have K₃ : KeepA g led led₂ := (KeepA.refl.new hM).trans K₂
  have hM₂ : led₂ M = some (31, .strs []) := K₂ _ _ upd_same (by show 31 < g; omega)
  refine ⟨Df, _, _, led₂, 30, found, _, _, MOI G oA M Df g led found, rfl, rfl, by k_asm, by k_asm, C₂, hDf, (by omega), ⟨rfl, rfl, K₃, hDf, [], hM₂, by simp, fun a => by simp⟩, ?_, ?_, ?_, ?_, ?_⟩
  · exact fun i m l h => h.2.2.2.1
  · exact fun i m l l' ⟨a1, a2, a3, a4, ms, a5, a6⟩ hm => ⟨a1, a2, a3.mono hm, hm _ _ a4, ms, hm _ _ a5, a6⟩
  · exact fun i m l ⟨a1, a2, a3, a4, ms, a5, a6⟩ => ⟨a1, a2, a3.cut (Nat.le_refl _), cut_some a4 (by show 30 < g; omega), ms, cut_some a5 (by show 31 < g; omega), a6⟩
  · -- one point
    rintro i z tz m₄ led₄ news₄ h₄ tk₄ IT ito E₄ hzi hil ⟨nm, no, K₄, hf₄, ms, hms, hnod, hmem⟩ hIT htg F₄ N₄ C₄
    try dsimp only
    have hzf : z ∈ found := List.mem_of_getElem? hzi
    have hzp : z ∈ G.pts := ok.reach ((hfound z).mp hzf) hst
    have hzk := hok _ hzp
    have hO' := K₄ _ _ hO (by show 12 < g; omega)
    have hown' := K₄ _ _ (hown _ hzp) (by show 13 < g; omega)
    walk1
    refine For_strs (h₀ := g') (g + 1) hh' rfl rfl ?_
    walk_at "go"
    refine ⟨ownA z, _, _, led₄, 13, G.own z, _, _, MII G oA M Df g led found ms z IT ito, rfl, rfl, F₄, N₄, C₄, hown', (by omega), ⟨nm, no, K₄, hf₄, hIT, by rw [List.take_zero]; exact hms⟩, ?_, ?_, ?_, ?_, ?_⟩
    · exact fun i m l h => h.2.2.1 _ _ (hown _ hzp) (by show 13 < g; omega)
    · exact fun i m l l' ⟨a1, a2, a3, a4, a5, a6⟩ hm => ⟨a1, a2, a3.mono hm, hm _ _ a4, hm _ _ a5, hm _ _ a6⟩
    · exact fun i m l ⟨a1, a2, a3, a4, a5, a6⟩ => ⟨a1, a2, a3.cut (by omega), cut_some a4 (by show 30 < g + 1; omega), cut_some a5 (Nat.lt_succ_self g), cut_some a6 (by show 31 < g + 1; omega)⟩
    · -- one mark
      rintro j a ta m₅ led₅ news₅ h₅ tk₅ IT' ito' E₅ haj hjl ⟨om, oo, K₅, hf₅, hIT₅, hm₅⟩ hIT' htg' F₅ N₅ C₅
      try dsimp only
      have hlen : (mergeL ms ((G.own z).take j)).length ≤ 30 := by
        refine Nat.le_trans (nodup_le (nodup_mergeL hnod) fun b hb => ?_) ok.fewMarks
        rcases mem_mergeL.mp hb with q | q
        · obtain ⟨u, hu, hb'⟩ := (hmem b).mp q
          have hu' : u ∈ found := List.mem_of_mem_take hu
          exact ok.ofMarks u (ok.reach ((hfound u).mp hu') hst) b hb'
        · exact ok.ofMarks z hzp b (List.mem_of_mem_take q)
      have etake : mergeL ms ((G.own z).take (j + 1)) = if a ∈ mergeL ms ((G.own z).take j) then mergeL ms ((G.own z).take j) else mergeL ms ((G.own z).take j) ++ [a] := by
        rw [List.take_add_one, haj]; exact mergeL_snoc
      by_cases ha : a ∈ mergeL ms ((G.own z).take j)
      · walk1
        walk1
        walk_at "go"
        exact EndAt.intro F₅ N₅ C₅ ⟨hIT', om, oo, K₅, hf₅, hIT₅, by rw [etake, if_pos ha]; exact hm₅⟩
      · walk1
        walk1
        walk_at "go"
        rename (Cov _ _ _ (upd led₅ _ _)) => C9
        rename (Fr _ _ _ _) => F9
        rename (News _ _ _ _) => N9
        exact EndAt.intro F9 N9 C9 ⟨look hIT' hm₅ (by omega), om, oo, K₅.new hM, look hf₅ hm₅ (by decide), look hIT₅ hm₅ (by omega), by rw [etake, if_neg ha]; exact upd_same⟩
    · -- all marks
      rintro h₆ tk₆ m₆ led₆ news₆ F₆ N₆ C₆ htg₆ ⟨om, oo, K₆, hf₆, hIT₆, hm₆⟩
      try dsimp only
      walk_at "go"
      rw [List.take_length] at hm₆
      refine EndAt.intro F₆ N₆ C₆ ⟨hIT₆, om, oo, K₆, hf₆, _, hm₆, nodup_mergeL hnod, fun a => ?_⟩
      rw [mem_mergeL, hmem, List.take_add_one, hzi]
      constructor
      · rintro (⟨u, hu, hb⟩ | q)
        · exact ⟨u, List.mem_append_left _ hu, hb⟩
        · exact ⟨z, List.mem_append_right _ (by simp), q⟩
      · rintro ⟨u, hu, hb⟩
        rcases List.mem_append.mp hu with q | q
        · exact .inl ⟨u, q, hb⟩
        · have : u = z := by simpa using q
          exact .inr (this ▸ hb)
  · -- all points
    rintro h₇ tk₇ m₇ led₇ news₇ F₇ N₇ C₇ htg₇ ⟨om, oo, K₇, hf₇, ms, hm₇, hnod, hmem⟩
    try dsimp only
    rw [List.take_length] at hmem
    have hlen : ms.length ≤ 30 := by
      refine Nat.le_trans (nodup_le hnod fun b hb => ?_) ok.fewMarks
      obtain ⟨u, hu, hb'⟩ := (hmem b).mp hb
      exact ok.ofMarks u (ok.reach ((hfound u).mp hu) hst) b hb'
    walk_at "go"
    refine sorted_strs_led 32 (by k_asm) (by k_asm) (by walk_at "cov") hm₇ (by omega) ?_
    intro D ms' h₈ news₈ F₈ N₈ C₈ hperm hsort hD hD0
    try dsimp only
    walk_at "go"
    refine EndAt.intro F₈ N₈ C₈ ⟨D, ms', rfl, fun a => ?_, hperm.nodup_iff.mpr hnod, hsort, upd_same, fun a x e h => look_new (K₇ a x e h) hD⟩
    rw [hperm.mem_iff, hmem]
    constructor
    · rintro ⟨u, hu, hb⟩
      exact ⟨u, (hfound u).mp hu, hb⟩
    · rintro ⟨u, hu, hb⟩
      exact ⟨u, (hfound u).mpr hu, hb⟩
end Mine
end

section
/-! ## Digr -/
open PySem PySem.W PyProof.Rows PySem.Spec PySem.Calls
set_option Elab.async false
set_option maxRecDepth 100000
namespace Mine
local macro_rules | `(tactic| walk_at "cov") => `(tactic| first | k_asm | exact Cov.cons (by walk_at "cov") _)
local macro_rules | `(tactic| walk_at "led") => `(tactic| first | assumption | exact upd_same | exact look (by walk_at "led") (by walk_at "led") (by first | decide | omega) | exact look_new (by walk_at "led") (by assumption))
local macro_rules | `(tactic| walk_at "small") => `(tactic| first | assumption | ((have hsl := sizeLine_eq); (try simp only [List.length_append, List.length_cons, List.length_nil]); omega))
local macro_rules | `(tactic| walk_at "getMethod ref") => `(tactic| first
  | (refine meth_append (by k_asm) (by walk_at "cov") (by walk_at "led") (by first | exact .inl ⟨_, rfl⟩ | exact .inr ⟨_, rfl⟩) ?_)
  | (refine meth_pop (by k_asm) (by walk_at "cov") (by walk_at "led") ?_)
  | (refine meth_get (by k_asm) (by walk_at "cov") (by walk_at "led") ?_))
local macro_rules | `(tactic| walk_at "call builtin:list.append") => `(tactic| first
  | (refine append_int (by k_asm) (by k_asm) (by walk_at "cov") (by walk_at "led") (by walk_at "small") ?_; intro h' news' F' N' C')
  | (refine append_str (by k_asm) (by k_asm) (by walk_at "cov") (by walk_at "led") (by walk_at "small") ?_; intro h' news' F' N' C'))
local macro_rules | `(tactic| walk_at "call builtin:list.pop") => `(tactic| (refine pop_int (by k_asm) (by k_asm) (by walk_at "cov") (by walk_at "led") (by walk_at "small") ?_; intro t' h' news' F' N' C'))
local macro_rules | `(tactic| walk_at "setItem ref int") => `(tactic| (first
  | refine set_dints_old (by k_asm) (by k_asm) (by walk_at "cov") (by walk_at "led") (by walk_at "small") (by assumption) ?_
  | refine set_drefs_old (by k_asm) (by k_asm) (by walk_at "cov") (by walk_at "led") (by walk_at "small") (by assumption) ?_
  | refine set_dints_new (by k_asm) (by k_asm) (by walk_at "cov") (by walk_at "led") (by walk_at "small") (by assumption) ?_
  | refine set_drefs_new (by k_asm) (by k_asm) (by walk_at "cov") (by walk_at "led") (by walk_at "small") (by assumption) ?_); intro h' news' F' N' C')
local macro_rules | `(tactic| walk_at "call builtin:len") => `(tactic| (refine len_led (by k_asm) (by walk_at "cov") (by walk_at "led") (by walk_at "small") ?_; intro t' tk'))
local macro_rules | `(tactic| walk_at "subscriptTail") => `(tactic| first
  | (refine sub_dints (by k_asm) (by walk_at "cov") (by walk_at "led") (by assumption) ?_; intro t')
  | (refine sub_drefs (by k_asm) (by walk_at "cov") (by walk_at "led") (by assumption) ?_)
  | (refine item_last (by k_asm) (by walk_at "cov") (by walk_at "led") ?_; intro t')
  | (refine item_at (by k_asm) (by walk_at "cov") (by walk_at "led") (by assumption) (by assumption) (by assumption) ?_; intro t'))
local macro_rules | `(tactic| walk_at "compareOp NotIn") => `(tactic| first
  | (refine notin_led (by k_asm) (by walk_at "cov") (by walk_at "led") ?_)
  | (refine notin_ledS (by k_asm) (by walk_at "cov") (by walk_at "led") ?_))
local macro_rules | `(tactic| walk_at "compareOp In") => `(tactic| (refine in_led (by k_asm) (by walk_at "cov") (by walk_at "led") ?_))
local macro_rules | `(tactic| walk_at "callWith ref") => `(tactic| (refine callWith_led (by k_asm) (by walk_at "cov") (by walk_at "led") (by assumption) ?_))
local macro_rules | `(tactic| walk_at "eval Name") => `(tactic| (refine' nameX_K ?F ?X ?T ?e ?_ ?a ?b ?c; (case a => rfl); (case b => rfl); (case F => k_asm); (case X => k_asm); (case T => k_asm); (case e => k_is); (case c => decide)))
local macro_rules | `(tactic| walk_at "eval Name") => `(tactic| (refine nameX_L (by k_asm) (by first | exact rfl | assumption) ?_))
local macro_rules | `(tactic| walk_at "call builtin:min") => `(tactic| (refine min_two_N (by assumption) (by k_asm) (by k_asm) ?_; intro h' tk' F' N'; (try dsimp only)))
local macro_rules | `(tactic| walk_at "call builtin:dict.get") => `(tactic| (refine get_drefs (by k_asm) (by walk_at "cov") (by walk_at "led") (by assumption) ?_))
local macro_rules | `(tactic| walk_at "dec") => `(tactic| first | assumption | ((try simp only [decide_eq_true_eq, decide_eq_false_iff_not, beq_iff_eq, bne_iff_ne, ne_eq, Bool.not_eq_true', Bool.not_eq_true, Bool.not_eq_false', Bool.not_eq_false, Decidable.not_not, Classical.not_not]); assumption))
local macro_rules | `(tactic| walk_at "ite") => `(tactic| first | refine ite_yes (by walk_at "dec") ?_ | refine ite_no (by walk_at "dec") ?_)
local macro_rules | `(tactic| walk_at "halt") => `(tactic| first
  | (with_reducible show _ ∧ _)
  | (with_reducible show Exists _)
  | (with_reducible show wpAny _ _ (exec (Stmt.For _ _ _ _ _) _) _ _ _)
  | (with_reducible show wpAny _ _ (exec (Stmt.While _ _ _ _) _) _ _ _)
  | (with_reducible show wpAny _ _ (exec (Stmt.If _ _ _ _) _) _ _ _)
  | (with_reducible show wpAny _ _ (PySem.call (Value.ref _) _) _ _ _))
local macro_rules | `(tactic| walk_at "go") => `(tactic| repeat' ((fail_if_success (walk_at "halt")); first | (k_unfold; (try dsimp only)) | walk1 | (dsimp only; walk1)))
local macro_rules | `(tactic| walk_at "halt") => `(tactic| (with_reducible show wpAny _ _ (newList _) _ _ _))
local macro_rules | `(tactic| walk_at "halt") => `(tactic| (with_reducible show wpAny _ _ (eval (Expr.Dict _ _ _) _) _ _ _))

/-- no point is met -/
def emptyS : PS := { stk := [], num := fun _ => 0, fk := [], fa := fun _ => 0, ms := fun _ => [] }
theorem emptyS_inv {G : Gr} : Inv G emptyS where
  nodupS := List.nodup_nil
  nodupF := List.nodup_nil
  fkpts := fun _ h => nomatch h
  stkfk := fun _ h => nomatch h
  num0 := fun _ _ _ => rfl
  numC := fun _ h => nomatch h
  low := fun i v h => by cases h
  closed := fun _ h => nomatch h
  sound := fun _ h => nomatch h
  nodupM := fun _ h => nomatch h
  full := fun _ h => nomatch h
  alone := fun _ h => nomatch h
  scc := fun _ h => nomatch h
  same := fun _ h => nomatch h
theorem Post.top {G : Gr} {σ σ' : PS} {x : Int} (P : Post G σ x σ') (h : σ.stk = []) : σ'.stk = [] := by
  rcases P.stk with e | ⟨T, e⟩
  · rw [e, h]
  · exfalso
    have hx : σ'.stk[0]? = some x := by rw [e, h]; rfl
    have h1 := (P.left 0 x hx (by rw [h]; exact Nat.le_refl _)).2.2.1
    have h2 := (P.inv.low 0 x hx).1
    omega
theorem Post.has {G : Gr} {σ σ' : PS} {x : Int} (P : Post G σ x σ') : x ∈ σ'.fk := by obtain ⟨ws, e⟩ := P.grow; rw [e]; simp
theorem Post.more {G : Gr} {σ σ' : PS} {x : Int} (P : Post G σ x σ') {v : Int} (h : v ∈ σ.fk) : v ∈ σ'.fk := by obtain ⟨ws, e⟩ := P.grow; rw [e]; exact List.mem_append_left _ h

def DF (aX aR aP aN : Addr) (m : Str → Option Value) : Prop :=
  m (Str.ofString "X") = some (.ref aX) ∧ m (Str.ofString "R") = some (.ref aR) ∧ m (Str.ofString "FP") = some (.ref aP) ∧ m (Str.ofString "N") = some (.ref aN)
def DI1 (ad : Ad) (aX aN : Addr) (order : List Int) (g : Nat) (led : Led) (i : Nat) (m : Str → Option Value) (led' : Led) : Prop :=
  DF aX ad.aR ad.aP aN m ∧ KeepA g led led' ∧ led' aN = some (2, .dints (order.take i) (fun _ => 0))
def DI2 (ad : Ad) (G : Gr) (order : List Int) (g : Nat) (led : Led) (i : Nat) (m : Str → Option Value) (led' : Led) : Prop :=
  DF ad.aX ad.aR ad.aP ad.aN m ∧ m (Str.ofString "stack") = some (.ref ad.aS) ∧ m (Str.ofString "F") = some (.ref ad.aF) ∧ KeepL g led led' ∧ ∃ σ, Inv G σ ∧ σ.stk = [] ∧ TIn ad led' σ ∧ ∀ x ∈ order.take i, x ∈ σ.fk

set_option maxHeartbeats 2000000 in
theorem digr_c {w : World} {p : Program} {loose : List Str} {mean : ExcName → Option Value} {mg mb : Str → Option Value} {cst : Led} {ad : Ad} {G : Gr} (hR : RSpec w p loose mean mg mb cst ad G) (hP : PSpec w p loose mean mg mb cst ad G) (ok : G.Ok)
    (hcst : ∀ a y, cst a = some y → 10 ≤ y.1 ∧ y.1 < 50) (hties : ∀ x ∈ G.pts, cst (ad.tieA x) = some (11, .ints (G.ties x))) {oR oP : Obj} {fR fP : FuncData} (hRo : cst ad.aR = some (20, .raw oR)) (hRd : oR.data = .func fR) (hPo : cst ad.aP = some (20, .raw oP)) (hPd : oP.data = .func fP)
    {order : List Int} (hon : order.Nodup) (hop : ∀ v, v ∈ order ↔ v ∈ G.pts)
    (A : Around) (base h₀ : Heap) (L : Addr) (env : Env) (E : Value → Shared → Prop) (s : Shared) (m : Str → Option Value) (news : List (Addr × Obj)) (led : Led) (g : Nat) (a0 o0 : List Int) (Q : Value → Shared → Prop) (h0 : a0.length ≤ 50) (h1 : o0.length ≤ 50)
    (cx : Ctx (Mine.hd.heap_39 w.params) p loose mean mg mb A base h₀ L env) (F : Fr h₀ L s.heap m) (N : News h₀ L s.heap news) (C : Cov PySem.Challenge.rw_bc6012_01.row.prog w news led) (hsub : SubL cst led) (hX : led ad.aX = some (14, .ints order))
    (hA : led ad.aA = some (4, .ints a0)) (hO : led ad.aO = some (5, .ints o0)) (hg : 50 ≤ g) (hd : A.depth + 30 < recursionLimit) (hu : A.units + 300 < cLine)
    (hQ : ∀ aF σ led' h' tk news', Inv G σ → σ.stk = [] → (∀ v, v ∈ σ.fk ↔ v ∈ G.pts) → led' aF = some (3, .drefs σ.fk σ.fa) → (∀ v ∈ σ.fk, led' (σ.fa v) = some (6, .strs (σ.ms v))) → led' ad.aA = some (4, .ints (a0 ++ σ.fk)) → KeepL g led led' →
      Fr h₀ L h' m → News h₀ L h' news' → Cov PySem.Challenge.rw_bc6012_01.row.prog w news' led' → Q (.ref aF) { s with heap := h', toks := tk }) :
    wpAny (model PySem.Challenge.rw_bc6012_01.row.prog w) A (call (.ref 21) [.ref ad.aX, .ref ad.aR, .ref ad.aP]) Q E s := by
  have X := cx.X
  revert X; k_fill; intro X
  refine' enter_def (fun v led' => ∃ aF σ, v = .ref aF ∧ Inv G σ ∧ σ.stk = [] ∧ (∀ v, v ∈ σ.fk ↔ v ∈ G.pts) ∧ led' aF = some (3, .drefs σ.fk σ.fa) ∧ (∀ v ∈ σ.fk, led' (σ.fa v) = some (6, .strs (σ.ms v))) ∧ led' ad.aA = some (4, .ints (a0 ++ σ.fk)) ∧ KeepL g led led') cx F N C ?ho ?hcd ?hroom ?hbind ?hloc (fun g' L' h₁ cx' F' N' => ?_) ?hQ ?c2 ?c3 ?c4 ?c5
  case ho => k_is
  case hcd => k_is
  case hroom => omega
  case hbind => exact BindsTo.of_eq rfl
  case c5 => decide
  case hloc => exact locs rfl
  case c2 => exact rfl
  case c3 => exact rfl
  case c4 => exact rfl
  case hQ =>
    rintro v led' h' tk news' ⟨aF, σ, rfl, h1, h2, h3, h4, h5, h6, h7⟩ F' N' C'
    exact hQ aF σ led' h' tk news' h1 h2 h3 h4 h5 h6 h7 F' N' C'
  clear hQ
  have X' := cx'.X
  have T' := cx'.T
  have hh' := cx'.hh
  have holen : order.length ≤ 8 := Nat.le_trans (nodup_le hon fun a h => (hop a).mp h) ok.few
  try dsimp only
  try k_fold
  walk_at "go"
  refine new_dictI 2 (fun _ => 0) (by k_asm) (by k_asm) (by walk_at "cov") T'.nolimit ?_
  intro aN h₂ news₂ F₂ N₂ C₂ hN hN0
  try dsimp only
  walk_at "go"
  have K₂ : KeepA g led (upd led aN (2, .dints [] (fun _ => 0))) := KeepA.refl.new hN
  refine For_ints (h₀ := g') g hh' rfl rfl ?_
  walk_at "go"
  refine ⟨ad.aX, _, _, _, 14, order, _, _, DI1 ad ad.aX aN order g led, rfl, rfl, by k_asm, by k_asm, C₂, K₂ _ _ hX (by show 14 < g; omega), (by omega), ⟨⟨rfl, rfl, rfl, rfl⟩, K₂, upd_same⟩, ?_, ?_, ?_, ?_, ?_⟩
  · exact fun i m l h => h.2.1 _ _ hX (by show 14 < g; omega)
  · exact fun i m l l' ⟨a1, a2, a3⟩ hm => ⟨a1, a2.mono hm, hm _ _ a3⟩
  · exact fun i m l ⟨a1, a2, a3⟩ => ⟨a1, a2.cut (Nat.le_refl _), cut_some a3 (by show 2 < g; omega)⟩
  · -- one point
    rintro i x tx m₃ led₃ news₃ h₃ tk₃ IT ito E₃ hxi hil ⟨⟨nX, nR, nP, nN⟩, K₃, hN₃⟩ hIT htg F₃ N₃ C₃
    try dsimp only
    have hxn : x ∉ order.take i := by
      intro q
      obtain ⟨j, hj⟩ := List.getElem?_of_mem q
      have hj' := get_lt hj
      rw [List.length_take] at hj'
      rw [List.getElem?_take] at hj
      split at hj
      · have := idx_unique hon hj hxi
        omega
      · cases hj
    have hlen : (order.take i).length ≤ 8 := Nat.le_trans (by rw [List.length_take]; omega) holen
    have etake : order.take (i + 1) = order.take i ++ [x] := by rw [List.take_add_one, hxi]; rfl
    walk_at "go"
    rename (Cov _ _ _ (upd led₃ _ _)) => C9
    rename (Fr _ _ _ _) => F9
    rename (News _ _ _ _) => N9
    refine EndAt.intro F9 N9 C9 ⟨look hIT hN₃ (by omega), ⟨nX, nR, nP, nN⟩, K₃.new hN, ?_⟩
    rw [etake, upd_same]
    have : fset (fun _ => (0 : Int)) x 0 = fun _ => 0 := by funext z; unfold fset; split <;> rfl
    rw [this]
  · -- the table is filled
    rintro h₄ tk₄ m₄ led₄ news₄ F₄ N₄ C₄ htg₄ ⟨⟨nX, nR, nP, nN⟩, K₄, hN₄⟩
    try dsimp only
    rw [List.take_length] at hN₄
    walk_at "go"
    refine new_ints 1 (by k_asm) (by k_asm) (by walk_at "cov") IntsAre.nil (by walk_at "small") ?_
    intro aS h₅ news₅ F₅ N₅ C₅ hS hS1 hS0
    try dsimp only
    walk_at "go"
    refine new_dictR 3 (fun _ => 0) (by k_asm) (by k_asm) (by walk_at "cov") T'.nolimit ?_
    intro aF h₆ news₆ F₆ N₆ C₆ hF hF0
    try dsimp only
    walk_at "go"
    have kA : led₄ ad.aA = some (4, .ints a0) := K₄ _ _ hA (by show 4 < g; omega)
    have kO : led₄ ad.aO = some (5, .ints o0) := K₄ _ _ hO (by show 5 < g; omega)
    have KL : KeepL g led (upd (upd led₄ aS (1, .ints [])) aF (3, .drefs [] (fun _ => 0))) := KeepL.new (KeepL.new (fun a x e _ h => K₄ a x e h) hS) hF
    have TI : TIn { ad with aS := aS, aN := aN, aF := aF, nk := order, a0 := a0, o0 := o0 } (upd (upd led₄ aS (1, .ints [])) aF (3, .drefs [] (fun _ => 0))) emptyS := by
      refine ⟨?_, ?_, ?_, ?_, ?_, fun _ h => nomatch h⟩
      · exact look_new upd_same hF
      · exact look_new (look_new hN₄ hS) hF
      · exact upd_same
      · show _ = some (4, AO.ints (a0 ++ []))
        rw [List.append_nil]; exact look_new (look_new kA hS) hF
      · show _ = some (5, AO.ints (o0 ++ []))
        rw [List.append_nil]; exact look_new (look_new kO hS) hF
    have hR' : RSpec w p loose mean mg mb cst { ad with aS := aS, aN := aN, aF := aF, nk := order, a0 := a0, o0 := o0 } G := hR
    have hP' : PSpec w p loose mean mg mb cst { ad with aS := aS, aN := aN, aF := aF, nk := order, a0 := a0, o0 := o0 } G := hP
    have hTR := trav hR' hP' ok (fun v h => (hop v).mpr h) holen hcst hties hRo hRd hPo hPd h0 h1 8
    refine For_ints (h₀ := g') g hh' rfl rfl ?_
    walk_at "go"
    rename (Fr _ _ _ _) => FX
    rename (News _ _ _ _) => NX
    refine ⟨ad.aX, _, _, _, 14, order, _, _, DI2 { ad with aS := aS, aN := aN, aF := aF, nk := order, a0 := a0, o0 := o0 } G order g led, rfl, rfl, FX, NX, C₆, KL _ _ hX (by show 10 ≤ 14; omega) (by show 14 < g; omega), (by omega), ⟨⟨nX, nR, nP, nN⟩, rfl, rfl, KL, emptyS, emptyS_inv, rfl, TI, by simp⟩, ?_, ?_, ?_, ?_, ?_⟩
    · exact fun i m l h => h.2.2.2.1 _ _ hX (by show 10 ≤ 14; omega) (by show 14 < g; omega)
    · exact fun i m l l' ⟨a1, a2, a3, a4, σ, a5, a6, a7, a8⟩ hm => ⟨a1, a2, a3, a4.mono hm, σ, a5, a6, a7.mono hm, a8⟩
    · exact fun i m l ⟨a1, a2, a3, a4, σ, a5, a6, a7, a8⟩ => ⟨a1, a2, a3, a4.cut (Nat.le_refl _), σ, a5, a6, a7.cut hg, a8⟩
    · -- one point
      rintro i x tx m₇ led₇ news₇ h₇ tk₇ IT ito E₇ hxi hil ⟨⟨oX, oR', oP', oN⟩, oS, oF, K₇, σ, I, hst, TI₇, hall⟩ hIT htg F₇ N₇ C₇
      try dsimp only
      have hxp : x ∈ G.pts := (hop x).mp (List.mem_of_getElem? hxi)
      have hxo : x ∈ order := List.mem_of_getElem? hxi
      have etake : order.take (i + 1) = order.take i ++ [x] := by rw [List.take_add_one, hxi]; rfl
      have wN : led₇ aN = some (2, .dints order σ.num) := TI₇.N
      by_cases hxf : x ∈ σ.fk
      · have hz := I.num_ne hxf
        walk1
        walk1
        walk_at "go"
        refine EndAt.intro F₇ N₇ C₇ ⟨hIT, ⟨oX, oR', oP', oN⟩, oS, oF, K₇, σ, I, hst, TI₇, fun y hy => ?_⟩
        rw [etake] at hy
        rcases List.mem_append.mp hy with q | q
        · exact hall y q
        · rw [List.mem_singleton] at q; exact q ▸ hxf
      · have hz := I.num0 x hxp hxf
        walk1
        walk1
        walk_at "go"
        refine ⟨Frag.In.keeps cx'.X (Fr.keep F₇), ?_⟩
        refine hTR _ _ _ _ _ _ _ _ _ led₇ σ x tx (g + 1) _ ?_ cx' (by k_asm) (by k_asm) (by k_asm) TI₇ I hxp hxf (hsub.keep hcst hg K₇) (by omega) ?_ ?_ ?_
        · exact Nat.le_trans (List.length_filter_le _ _) ok.few
        · show A.depth + 1 + 8 + 10 < _
          omega
        · show A.units + 3 + 8 * 8 + 150 < _
          omega
        intro σ' led₈ h₈ tk₈ news₈ P TI₈ K₈ F₈ N₈ C₈
        try dsimp only
        walk_at "go"
        refine EndAt.intro F₈ N₈ C₈ ⟨K₈ _ _ hIT (by show 10 ≤ g; omega) (by show g < g + 1; omega), ⟨oX, oR', oP', oN⟩, oS, oF, K₇.trans (K₈.le (by omega)), σ', P.inv, P.top hst, TI₈, fun y hy => ?_⟩
        rw [etake] at hy
        rcases List.mem_append.mp hy with q | q
        · exact P.more (hall y q)
        · rw [List.mem_singleton] at q; exact q ▸ P.has
    · -- all are met
      rintro h₇ tk₇ m₇ led₇ news₇ F₇ N₇ C₇ htg₇ ⟨⟨oX, oR', oP', oN⟩, oS, oF, K₇, σ, I, hst, TI₇, hall⟩
      try dsimp only
      rw [List.take_length] at hall
      walk_at "go"
      exact EndAt.intro F₇ N₇ C₇ ⟨aF, σ, rfl, I, hst, fun v => ⟨I.fkpts v, fun h => hall v ((hop v).mpr h)⟩, TI₇.F, TI₇.M, TI₇.A, K₇⟩
end Mine
end

section
/-! ## Ops5 -/
open PySem PySem.W PyProof.Rows PySem.Spec PySem.Calls
set_option Elab.async false
set_option maxRecDepth 100000
namespace Mine
theorem TIn.keep {ad : Ad} {led led' : Led} {σ : PS} (T : TIn ad led σ) (h : ∀ a (t : Nat) x, led a = some (t, x) → t < 10 → led' a = some (t, x)) : TIn ad led' σ :=
  ⟨h _ _ _ T.S (by decide), h _ _ _ T.N (by decide), h _ _ _ T.F (by decide), h _ _ _ T.A (by decide), h _ _ _ T.O (by decide), fun v hv => h _ _ _ (T.M v hv) (by decide)⟩
/-- the roles turned -/
def retag (f : Nat → Nat) (led : Led) : Led := fun a => (led a).map fun x => (f x.1, x.2)
theorem retag_at {f : Nat → Nat} {led : Led} {a : Addr} {t : Nat} {x : AO} (e : led a = some (t, x)) : retag f led a = some (f t, x) := by unfold retag; rw [e]; rfl
theorem Cov.retag {prog : Program} {w : World} {news : List (Addr × Obj)} {led : Led} (C : Cov prog w news led) (f : Nat → Nat) : Cov prog w news (Mine.retag f led) := C.sub fun a x e => by
  unfold Mine.retag at e
  rcases q : led a with _ | y
  · rw [q] at e; cases e
  · rw [q] at e; cases e; exact ⟨y.1, rfl⟩
def offTag (t : Nat) : Nat := if t = 1 then 37 else if t = 2 then 36 else if t = 3 then 34 else if t = 6 then 35 else t
theorem offTag_ge {t : Nat} (h : 10 ≤ t) : offTag t = t := by unfold offTag; rw [if_neg (by omega), if_neg (by omega), if_neg (by omega), if_neg (by omega)]
section
variable {prog : Program} {w : World} {A : Around} {E : Value → Shared → Prop} {s : Shared} {news : List (Addr × Obj)} {led : Led} {h₀ : Heap} {L a b d l : Addr} {m : Str → Option Value} {tg tg' : Nat}
/-- a temporary leaves the ledger -/
theorem Cov.drop {x : Nat × AO} (C : Cov prog w news (upd led d x)) (h : led d = none) : Cov prog w news led := C.sub fun b y e => ⟨y.1, look_new e h⟩
theorem Cov.back {led' : Led} (C : Cov prog w news led') (h : ∀ a x, led a = some x → led' a = some x) : Cov prog w news led := C.sub fun b y e => ⟨y.1, h b y e⟩
theorem ne_ints_same {ns ms : List Int} {Q : Value → Shared → Prop} (N : News h₀ L s.heap news) (C : Cov prog w news led) (e : led a = some (tg, .ints ns)) (e' : led b = some (tg', .ints ms)) (hu : A.units + 64 < cLine) (hs : ns = ms)
    (h : Q (.bool false) s) : wpAny (model prog w) A (compareOp .NotEq (.ref a) (.ref b)) Q E s := by
  refine ne_ints_led N C e e' hu ?_
  rw [show (!decide (ns = ms)) = false by simp [hs]]
  exact h
theorem ne_strs_same {ns ms : List Str} {Q : Value → Shared → Prop} (N : News h₀ L s.heap news) (C : Cov prog w news led) (e : led a = some (tg, .strs ns)) (e' : led b = some (tg', .strs ms)) (o1 : ∀ a ∈ ns, PyData.strOk a = true) (hu : A.units + 64 < cLine) (hs : ns = ms)
    (h : Q (.bool false) s) : wpAny (model prog w) A (compareOp .NotEq (.ref a) (.ref b)) Q E s := by
  refine ne_strs_led N C e e' o1 (hs ▸ o1) hu ?_
  rw [show (!decide (ns = ms)) = false by simp [hs]]
  exact h
theorem is_strs_led {ns ms : List Str} {Q : Value → Shared → Prop} (N : News h₀ L s.heap news) (C : Cov prog w news led) (e : led a = some (tg, .strs ns)) (e' : led b = some (tg', .strs ms)) (h : Q (.bool (decide (a = b))) s) : wpAny (model prog w) A (compareOp .Is (.ref a) (.ref b)) Q E s := by
  by_cases q : a = b
  · subst q
    refine wpAny_is_ref_self ?_
    simpa using h
  · obtain ⟨vs, n', ho, hl, hi⟩ := listAtS N C e
    obtain ⟨us, n'', ho', hl', hi'⟩ := listAtS N C e'
    refine wpAny_is_ref_other q ho ho' (by show Value.type "list" ≠ Value.type "tuple"; decide) ?_
    simpa [q] using h
end
end Mine
end

section
/-! ## LawPure -/
open PySem PyProof.Rows PySem.Spec
set_option Elab.async false
namespace Mine
theorem risingS_pairwise : ∀ (l : List Str) (p : Str), risingS p l = true → (p :: l).Pairwise (fun a b => a.cps.toList ≤ b.cps.toList)
  | [], p, _ => by simp
  | x :: r, p, h => by
    have h' : (!ltCps x.cps.toList p.cps.toList && risingS x r) = true := h
    rw [Bool.and_eq_true] at h'
    have ih := risingS_pairwise r x h'.2
    have hpx : p.cps.toList ≤ x.cps.toList := by
      have q := h'.1
      rw [ltCps_eq] at q
      simpa using q
    refine List.pairwise_cons.mpr ⟨fun y hy => ?_, ih⟩
    rcases List.mem_cons.mp hy with rfl | hy
    · exact hpx
    · exact List.le_trans hpx ((List.pairwise_cons.mp ih).1 y hy)
theorem sortedS_pairwise : ∀ (l : List Str), sortedS l = true → l.Pairwise (fun a b => a.cps.toList ≤ b.cps.toList)
  | [], _ => .nil
  | x :: r, h => risingS_pairwise r x h
theorem sortedS_unique {l₁ l₂ : List Str} (h₁ : sortedS l₁ = true) (h₂ : sortedS l₂ = true) (hp : l₁.Perm l₂) : l₁ = l₂ :=
  List.Perm.eq_of_pairwise (le := fun a b : Str => a.cps.toList ≤ b.cps.toList) (fun a b _ _ x y => by
    have e := List.le_antisymm x y
    cases a with | mk ca => cases b with | mk cb => exact congrArg Str.mk (Array.toList_inj.mp e)) (sortedS_pairwise _ h₁) (sortedS_pairwise _ h₂) hp
theorem sortedS_same {l₁ l₂ : List Str} (h₁ : sortedS l₁ = true) (h₂ : sortedS l₂ = true) (n₁ : l₁.Nodup) (n₂ : l₂.Nodup) (h : ∀ a, a ∈ l₁ ↔ a ∈ l₂) : l₁ = l₂ :=
  sortedS_unique h₁ h₂ ((List.perm_ext_iff_of_nodup n₁ n₂).mpr h)
theorem sorted_same {l₁ l₂ m₁ m₂ : List Int} (p₁ : m₁.Perm l₁) (p₂ : m₂.Perm l₂) (h₁ : m₁.Pairwise (· ≤ ·)) (h₂ : m₂.Pairwise (· ≤ ·)) (n₁ : l₁.Nodup) (n₂ : l₂.Nodup) (h : ∀ a, a ∈ l₁ ↔ a ∈ l₂) : m₁ = m₂ :=
  List.Perm.eq_of_pairwise (fun _ _ _ _ a b => Int.le_antisymm a b) h₁ h₂ (p₁.trans (((List.perm_ext_iff_of_nodup n₁ n₂).mpr h).trans p₂.symm))
/-- the marks in the table, sorted, are the law's -/
theorem marks_same {G : Gr} {σ : PS} (I : Inv G σ) (hst : σ.stk = []) {v : Int} (hv : v ∈ σ.fk) {ms ms' : List Str} (hp : ms.Perm (σ.ms v)) (hs : sortedS ms = true) (hm : ∀ a, a ∈ ms' ↔ ∃ z, Reach G.ties v z ∧ a ∈ G.own z) (hn : ms'.Nodup) (hs' : sortedS ms' = true) : ms = ms' := by
  refine sortedS_same hs hs' (hp.nodup_iff.mpr (I.nodupM v hv)) hn fun a => ?_
  rw [hp.mem_iff, hm]
  refine ⟨I.sound v hv a, fun ⟨z, hz, ha⟩ => I.full v hv (by rw [hst]; exact List.not_mem_nil) z hz a ha⟩
/-- what is done behind a call of traverse -/
theorem done_next {G : Gr} {σ σ' : PS} {x : Int} {dn found : List Int} (P : Post G σ x σ') (hst : σ'.stk = []) (hdm : ∀ v, v ∈ dn ↔ v ∈ σ.fk) (hdd : dn.Nodup) (hf : ∀ v, v ∈ found ↔ Reach G.ties x v) (hfd : found.Nodup) (hxn : x ∉ σ.fk) :
    (∀ v, v ∈ dn ++ (found.filter (fun p => !decide (p ∈ dn))).map id ↔ v ∈ σ'.fk) ∧ (dn ++ (found.filter (fun p => !decide (p ∈ dn))).map id).Nodup ∧ dn.length < (dn ++ (found.filter (fun p => !decide (p ∈ dn))).map id).length := by
  have hx : x ∈ σ'.fk := by obtain ⟨ws, e⟩ := P.grow; rw [e]; simp
  have hfil : ∀ v, v ∈ (found.filter (fun p => !decide (p ∈ dn))).map id ↔ Reach G.ties x v ∧ v ∉ dn := fun v => by
    rw [List.map_id, List.mem_filter, hf]
    simp
  refine ⟨fun v => ?_, ?_, ?_⟩
  · rw [List.mem_append, hfil, hdm]
    constructor
    · rintro (h | ⟨h, _⟩)
      · obtain ⟨ws, e⟩ := P.grow; rw [e]; exact List.mem_append_left _ h
      · exact (P.inv.closed_reach h hx (by rw [hst]; exact List.not_mem_nil)).1
    · intro h
      by_cases q : v ∈ σ.fk
      · exact .inl q
      · exact .inr ⟨P.new v h q, q⟩
  · refine List.nodup_append.mpr ⟨hdd, ?_, fun a ha b hb e => ?_⟩
    · rw [List.map_id]; exact hfd.filter _
    · exact ((hfil b).mp hb).2 (e ▸ ha)
  · have h1 : x ∈ (found.filter (fun p => !decide (p ∈ dn))).map id := (hfil x).mpr ⟨.refl x, fun h => hxn ((hdm x).mp h)⟩
    have := List.length_pos_of_mem h1
    rw [List.length_append]
    omega
theorem filt_all (l : List Int) : (l.filter (fun _ => true)).map id = l := by simp
theorem num_is {G : Gr} {σ : PS} (I : Inv G σ) (hst : σ.stk = []) {v : Int} (hv : v ∈ G.pts) : σ.num v = if v ∈ σ.fk then MAX else 0 := by
  split
  · rename_i h; exact I.numC v h (by rw [hst]; exact List.not_mem_nil)
  · rename_i h; exact I.num0 v hv h
end Mine
end

section
/-! ## Draw -/
open PySem PySem.W PyProof.Rows PySem.Spec PySem.Calls
set_option Elab.async false
set_option maxRecDepth 100000
namespace Mine
local macro_rules | `(tactic| walk_at "cov") => `(tactic| first | k_asm | exact Cov.cons (by walk_at "cov") _)
local macro_rules | `(tactic| walk_at "led") => `(tactic| first | assumption | exact upd_same | exact look (by walk_at "led") (by walk_at "led") (by first | decide | omega) | exact look_new (by walk_at "led") (by assumption))
local macro_rules | `(tactic| walk_at "small") => `(tactic| first | assumption | ((have hsl := sizeLine_eq); (try simp only [List.length_append, List.length_cons, List.length_nil]); omega))
local macro_rules | `(tactic| walk_at "getMethod ref") => `(tactic| first
  | (refine meth_append (by k_asm) (by walk_at "cov") (by walk_at "led") (by first | exact .inl ⟨_, rfl⟩ | exact .inr ⟨_, rfl⟩) ?_)
  | (refine meth_pop (by k_asm) (by walk_at "cov") (by walk_at "led") ?_)
  | (refine meth_get (by k_asm) (by walk_at "cov") (by walk_at "led") ?_))
local macro_rules | `(tactic| walk_at "call builtin:list.append") => `(tactic| first
  | (refine append_int (by k_asm) (by k_asm) (by walk_at "cov") (by walk_at "led") (by walk_at "small") ?_; intro h' news' F' N' C')
  | (refine append_str (by k_asm) (by k_asm) (by walk_at "cov") (by walk_at "led") (by walk_at "small") ?_; intro h' news' F' N' C'))
local macro_rules | `(tactic| walk_at "call builtin:list.pop") => `(tactic| (refine pop_int (by k_asm) (by k_asm) (by walk_at "cov") (by walk_at "led") (by walk_at "small") ?_; intro t' h' news' F' N' C'))
local macro_rules | `(tactic| walk_at "setItem ref int") => `(tactic| (first
  | refine set_dints_old (by k_asm) (by k_asm) (by walk_at "cov") (by walk_at "led") (by walk_at "small") (by assumption) ?_
  | refine set_drefs_old (by k_asm) (by k_asm) (by walk_at "cov") (by walk_at "led") (by walk_at "small") (by assumption) ?_
  | refine set_dints_new (by k_asm) (by k_asm) (by walk_at "cov") (by walk_at "led") (by walk_at "small") (by assumption) ?_
  | refine set_drefs_new (by k_asm) (by k_asm) (by walk_at "cov") (by walk_at "led") (by walk_at "small") (by assumption) ?_); intro h' news' F' N' C')
local macro_rules | `(tactic| walk_at "call builtin:len") => `(tactic| (refine len_led (by k_asm) (by walk_at "cov") (by walk_at "led") (by walk_at "small") ?_; intro t' tk'))
local macro_rules | `(tactic| walk_at "subscriptTail") => `(tactic| first
  | (refine sub_dints (by k_asm) (by walk_at "cov") (by walk_at "led") (by assumption) ?_; intro t')
  | (refine sub_drefs (by k_asm) (by walk_at "cov") (by walk_at "led") (by assumption) ?_)
  | (refine item_last (by k_asm) (by walk_at "cov") (by walk_at "led") ?_; intro t')
  | (refine item_at (by k_asm) (by walk_at "cov") (by walk_at "led") (by assumption) (by assumption) (by assumption) ?_; intro t'))
local macro_rules | `(tactic| walk_at "compareOp NotIn") => `(tactic| first
  | (refine notin_led (by k_asm) (by walk_at "cov") (by walk_at "led") ?_)
  | (refine notin_ledS (by k_asm) (by walk_at "cov") (by walk_at "led") ?_))
local macro_rules | `(tactic| walk_at "compareOp In") => `(tactic| (refine in_led (by k_asm) (by walk_at "cov") (by walk_at "led") ?_))
local macro_rules | `(tactic| walk_at "callWith ref") => `(tactic| (refine callWith_led (by k_asm) (by walk_at "cov") (by walk_at "led") (by assumption) ?_))
local macro_rules | `(tactic| walk_at "eval Name") => `(tactic| (refine' nameX_K ?F ?X ?T ?e ?_ ?a ?b ?c; (case a => rfl); (case b => rfl); (case F => k_asm); (case X => k_asm); (case T => k_asm); (case e => k_is); (case c => decide)))
local macro_rules | `(tactic| walk_at "eval Name") => `(tactic| (refine nameX_L (by k_asm) (by first | exact rfl | assumption) ?_))
local macro_rules | `(tactic| walk_at "call builtin:min") => `(tactic| (refine min_two_N (by assumption) (by k_asm) (by k_asm) ?_; intro h' tk' F' N'; (try dsimp only)))
local macro_rules | `(tactic| walk_at "call builtin:dict.get") => `(tactic| (refine get_drefs (by k_asm) (by walk_at "cov") (by walk_at "led") (by assumption) ?_))
local macro_rules | `(tactic| walk_at "dec") => `(tactic| first | assumption | ((try simp only [decide_eq_true_eq, decide_eq_false_iff_not, beq_iff_eq, bne_iff_ne, ne_eq, Bool.not_eq_true', Bool.not_eq_true, Bool.not_eq_false', Bool.not_eq_false, Decidable.not_not, Classical.not_not]); assumption))
local macro_rules | `(tactic| walk_at "ite") => `(tactic| first | refine ite_yes (by walk_at "dec") ?_ | refine ite_no (by walk_at "dec") ?_)
local macro_rules | `(tactic| walk_at "halt") => `(tactic| first
  | (with_reducible show _ ∧ _)
  | (with_reducible show Exists _)
  | (with_reducible show wpAny _ _ (exec (Stmt.For _ _ _ _ _) _) _ _ _)
  | (with_reducible show wpAny _ _ (exec (Stmt.While _ _ _ _) _) _ _ _)
  | (with_reducible show wpAny _ _ (exec (Stmt.If _ _ _ _) _) _ _ _)
  | (with_reducible show wpAny _ _ (PySem.call (Value.ref _) _) _ _ _))
local macro_rules | `(tactic| walk_at "go") => `(tactic| repeat' ((fail_if_success (walk_at "halt")); first | (k_unfold; (try dsimp only)) | walk1 | (dsimp only; walk1)))
local macro_rules | `(tactic| walk_at "eval Name") => `(tactic| (refine nameL_C (by k_asm) (by walk_at "cov") rfl (by walk_at "led") ?_))
local macro_rules | `(tactic| walk_at "storeName") => `(tactic| (refine storeL_C (by k_asm) (by k_asm) (by walk_at "cov") rfl (by walk_at "led") ?_; intro h' news' F' N' C'))
local macro_rules | `(tactic| walk_at "halt") => `(tactic| (with_reducible show wpAny _ _ (eval (Expr.ListComp _ _ _ _) _) _ _ _))
local macro_rules | `(tactic| walk_at "halt") => `(tactic| (with_reducible show wpAny _ _ (exec (Stmt.Assign _ (Expr.ListComp _ _ _ _) _) _) _ _ _))
local macro_rules | `(tactic| walk_at "eval Name") => `(tactic| ((with_reducible show wpAny _ _ (eval (Expr.Name _ _) (compEnvC _ _ _ _)) _ _ _); refine nameQ_L (by k_asm) (by assumption) ?_))
local macro_rules | `(tactic| walk_at "eval Name") => `(tactic| ((with_reducible show wpAny _ _ (eval (Expr.Name _ _) (compEnvC _ _ _ _)) _ _ _); refine nameQ_C (by k_asm) (by walk_at "cov") rfl (by walk_at "led") ?_))
local macro_rules | `(tactic| walk_at "halt") => `(tactic| (with_reducible show wpAny _ _ (binaryOp Operator.Add (Value.ref _) (Value.ref _)) _ _ _))
local macro_rules | `(tactic| walk_at "halt") => `(tactic| (with_reducible show wpAny _ _ (newList _) _ _ _))
local macro_rules | `(tactic| walk_at "halt") => `(tactic| (with_reducible show wpAny _ _ (PySem.call (Value.type "range") _) _ _ _))
local macro_rules | `(tactic| walk_at "halt") => `(tactic| (with_reducible show wpAny _ _ (eval (Expr.Dict _ _ _) _) _ _ _))

local macro_rules | `(tactic| walk_at "binaryOp Pow int int") => `(tactic| (refine pow_const (by decide) (by decide) (by decide) ?_; intro k' t'))
local macro_rules | `(tactic| walk_at "binaryOp Pow int int") => `(tactic| (refine pow3 (by assumption) ?_))
local macro_rules | `(tactic| walk_at "binaryOp Pow int int") => `(tactic| (refine pow7 (by omega) (by omega) ?_))
local macro_rules | `(tactic| walk_at "binaryOp FloorDiv int int") => `(tactic| (refine div7 (by omega) (by omega) ?_))

local macro_rules | `(tactic| walk_at "sub") => `(tactic| ((with_reducible show wpAny _ _ (subscriptTail _ _ (Value.ref _) (Value.int _ _)) _ _ _); first
  | (refine item_at (by k_asm) (by walk_at "cov") (by assumption) (by omega) (by omega) (by assumption) ?_; intro t')
  | (refine item_strs (by k_asm) (by walk_at "cov") (by assumption) (by omega) (by omega) (by assumption) ?_; intro t')
  | (refine sub_drefs (by k_asm) (by walk_at "cov") (by assumption) (by assumption) ?_)))
local macro_rules | `(tactic| walk_at "nm") => `(tactic| ((with_reducible show wpAny _ _ (eval (Expr.Name _ _) (envOfC _ _ _ _ _)) _ _ _); first
  | (refine nameL_C (by k_asm) (by k_asm) rfl (by assumption) ?_)
  | (refine nameX_L (by k_asm) (by first | exact rfl | assumption) ?_)))
local macro_rules | `(tactic| walk_at "nm") => `(tactic| ((with_reducible show wpAny _ _ (eval (Expr.Name _ _) (compEnvC _ _ _ _)) _ _ _); first
  | (refine nameQ_L (by k_asm) (by assumption) ?_)
  | (refine nameQ_C (by k_asm) (by k_asm) rfl (by assumption) ?_)))
local macro_rules | `(tactic| walk_at "one") => `(tactic| ((fail_if_success (walk_at "halt")); first | walk_at "sub" | walk_at "nm" | (k_unfold; (try dsimp only)) | walk1 | (dsimp only; walk1)))
local macro_rules | `(tactic| walk_at "goD") => `(tactic| repeat' ((fail_if_success (walk_at "halt")); first | walk_at "sub" | walk_at "nm" | (k_unfold; (try dsimp only)) | walk1 | (dsimp only; walk1)))
def MARKS : List Str := [Str.ofString "a", Str.ofString "b", Str.ofString "c", Str.ofString "d", Str.ofString "e", Str.ofString "z"]
theorem marks_strOk : ∀ a ∈ MARKS, PyData.strOk a = true := by decide +kernel
/-- what the draw has built of the points below i -/
def Drawn (c : Nat) (tA oA : Addr) (ks : List Int) (led : Led) (tieA ownA : Int → Addr) (tie : Int → List Int) (own : Int → List Str) : Prop :=
  led tA = some (10, .drefs ks tieA) ∧ led oA = some (12, .drefs ks ownA) ∧ ∀ v ∈ ks, led (tieA v) = some (11, .ints (tie v)) ∧ led (ownA v) = some (13, .strs (own v)) ∧ (∀ y ∈ tie v, 0 ≤ y ∧ y < (c : Int)) ∧ (tie v).length ≤ 3 ∧ (own v).Nodup ∧ ∀ a ∈ own v, a ∈ MARKS
theorem KeepA.new' {g : Nat} {l₁ l₂ : Led} (K : KeepA g l₁ l₂) {D : Addr} {y : Nat × AO} (hD : ∀ x, l₁ D = some x → g ≤ x.1) : KeepA g l₁ (Mine.upd l₂ D y) := fun a x e q => upd_at (fun z => absurd q (Nat.not_lt.mpr (hD x (z ▸ e)))) (K a x e q)
theorem Drawn.mono {c : Nat} {tA oA : Addr} {ks : List Int} {led led' : Led} {tieA ownA : Int → Addr} {tie : Int → List Int} {own : Int → List Str} (d : Drawn c tA oA ks led tieA ownA tie own) (h : ∀ a x, led a = some x → x.1 < 14 → led' a = some x) : Drawn c tA oA ks led' tieA ownA tie own := by
  obtain ⟨h1, h2, h3⟩ := d
  refine ⟨h _ _ h1 (show 10 < 14 by decide), h _ _ h2 (show 12 < 14 by decide), fun v hv => ?_⟩
  obtain ⟨a, b, r⟩ := h3 v hv
  exact ⟨h _ _ a (show 11 < 14 by decide), h _ _ b (show 13 < 14 by decide), r⟩
def DrI (g c : Nat) (led : Led) (cA tA oA nA : Addr) (tc : Tok) (nums : List Int) (i : Nat) (m : Str → Option Value) (led' : Led) : Prop :=
  m (Str.ofString "ties") = some (.ref tA) ∧ m (Str.ofString "own") = some (.ref oA) ∧ m (Str.ofString "numbers") = some (.ref nA) ∧ KeepA g led led' ∧ led' cA = some (40, .cell (some (.int (c : Int) tc))) ∧
    (∃ v, led' (cA + 1) = some (41, .cell v)) ∧ led' (cA + 1 + 1) = some (42, .cell none) ∧ led' nA = some (45, .ints nums) ∧ ∃ tieA ownA tie own, Drawn c tA oA (rangeInts 0 1 i) led' tieA ownA tie own
def tupO (vs : List Value) : Obj := { cls := .type "tuple", data := .seq vs.toArray }
local macro_rules | `(tactic| walk_at "goT") => `(tactic| repeat' ((fail_if_success (walk_at "halt")); (fail_if_success (with_reducible show wpAny _ _ (subscriptTail _ _ (Value.ref _) (Value.ref _)) _ _ _)); first | walk_at "sub" | walk_at "nm" | (k_unfold; (try dsimp only)) | walk1 | (dsimp only; walk1)))
theorem marks_ok {mk : Str} (h : mk ∈ [Str.ofString "a", Str.ofString "b", Str.ofString "c", Str.ofString "d", Str.ofString "e"]) (p q : Nat) :
    ([mk].take p ++ [Str.ofString "z"].take q).Nodup ∧ ∀ a ∈ [mk].take p ++ [Str.ofString "z"].take q, a ∈ MARKS := by
  have hz : mk ≠ Str.ofString "z" := by
    intro e
    subst e
    revert h
    decide
  have hm : mk ∈ MARKS := by
    unfold MARKS
    rcases List.mem_cons.mp h with q | h
    · subst q; decide
    rcases List.mem_cons.mp h with q | h
    · subst q; decide
    rcases List.mem_cons.mp h with q | h
    · subst q; decide
    rcases List.mem_cons.mp h with q | h
    · subst q; decide
    rcases List.mem_cons.mp h with q | h
    · subst q; decide
    · cases h
  have hzm : Str.ofString "z" ∈ MARKS := by decide
  cases p <;> cases q <;> simp [hz, hm, hzm]
def OrI (g c : Nat) (led : Led) (cA tA oA O₁ : Addr) (tc : Tok) (tieA ownA : Int → Addr) (tie : Int → List Int) (own : Int → List Str) (k : Nat) (m : Str → Option Value) (led' : Led) : Prop :=
  m (Str.ofString "ties") = some (.ref tA) ∧ m (Str.ofString "own") = some (.ref oA) ∧ (∃ r tr, m (Str.ofString "rest") = some (.int r tr)) ∧ KeepA g led led' ∧ led' cA = some (40, .cell (some (.int (c : Int) tc))) ∧
    led' (cA + 1 + 1) = some (42, .cell (some (.ref O₁))) ∧ Drawn c tA oA (rangeInts 0 1 c) led' tieA ownA tie own ∧ ∃ ord, led' O₁ = some (14, .ints ord) ∧ ord.Nodup ∧ (∀ v ∈ ord, v ∈ rangeInts 0 1 c) ∧ ord.length = k
theorem rangeInts_nodup (n : Nat) : (rangeInts 0 1 n).Nodup := by
  rw [rangeInts_zero_one]
  exact List.Pairwise.map _ (fun a b h e => h (by omega)) List.nodup_range
set_option maxHeartbeats 8000000 in
theorem draw_c {w : World} {p : Program} {loose : List Str} {mean : ExcName → Option Value} {mg mb : Str → Option Value} (A : Around) (base h₀ : Heap) (L : Addr) (env : Env) (E : Value → Shared → Prop) (s : Shared) (m : Str → Option Value) (news : List (Addr × Obj)) (led : Led)
      (sc : Addr) (vs : List Value) (ns : List Int) (Q : Value → Shared → Prop) (cx : Ctx (Mine.hd.heap_39 w.params) p loose mean mg mb A base h₀ L env) (F : Fr h₀ L s.heap m) (N : News h₀ L s.heap news) (C : Cov PySem.Challenge.rw_bc6012_01.row.prog w news led)
      (hsc : h₀.IsList sc vs.toArray) (hI : IntsAre vs ns) (hlen : ns.length ≤ 63) (hbits : ∀ n ∈ ns, Builtin.Int.intBits n ≤ 2 ^ 20) (g : Nat) (hg : 50 ≤ g) (hd : A.depth + 8 < recursionLimit) (hu : A.units + 150 < cLine)
      (hQ : ∀ tup tA oA aX tieA ownA G order led' h' tk' news', Gr.Ok G → (∀ a ∈ G.marks, PyData.strOk a = true) → (∀ v ∈ G.pts, (G.ties v).length ≤ 3) → order.Nodup → (∀ v, v ∈ order ↔ v ∈ G.pts) → led' tup = some (46, .raw (tupO [.ref tA, .ref oA, .ref aX])) → led' tA = some (10, .drefs G.pts tieA) → led' oA = some (12, .drefs G.pts ownA) →
        (∀ v ∈ G.pts, led' (tieA v) = some (11, .ints (G.ties v)) ∧ led' (ownA v) = some (13, .strs (G.own v))) → led' aX = some (14, .ints order) → KeepA g led led' → Fr h₀ L h' m → News h₀ L h' news' → Cov PySem.Challenge.rw_bc6012_01.row.prog w news' led' → Q (.ref tup) { s with heap := h', toks := tk' }) :
      wpAny (model PySem.Challenge.rw_bc6012_01.row.prog w) A (call (.ref 47) [.ref sc]) Q E s := by
  have X := cx.X
  revert X; k_fill; intro X
  refine' enter_defC (fun v led' => ∃ tup tA oA aX tieA ownA G order, v = .ref tup ∧ Gr.Ok G ∧ (∀ a ∈ G.marks, PyData.strOk a = true) ∧ (∀ v ∈ G.pts, (G.ties v).length ≤ 3) ∧ order.Nodup ∧ (∀ v, v ∈ order ↔ v ∈ G.pts) ∧ led' tup = some (46, .raw (tupO [.ref tA, .ref oA, .ref aX])) ∧ led' tA = some (10, .drefs G.pts tieA) ∧ led' oA = some (12, .drefs G.pts ownA) ∧
        (∀ v ∈ G.pts, led' (tieA v) = some (11, .ints (G.ties v)) ∧ led' (ownA v) = some (13, .strs (G.own v))) ∧ led' aX = some (14, .ints order) ∧ KeepA g led led') cx F N C ?ho ?hcd ?hroom ?hbind ?hkind ?hnd (fun g' L' h₁ tk cells FG cx' F' N' Y hlt => ?_) ?hQ ?c2 ?c3 ?c4
  case ho => k_is
  case hcd => k_is
  case hroom => omega
  case hbind => exact BindsTo.of_eq rfl
  case hkind => rfl
  case hnd => decide
  case c2 => exact rfl
  case c3 => exact rfl
  case c4 => exact rfl
  case hQ =>
    rintro v led' h' tk news' ⟨tup, tA, oA, aX, tieA, ownA, G, order, rfl, b1, b0, b2, b3, b4, b5, b6, b7, b8, b9, b10⟩ F' N' C'
    exact hQ tup tA oA aX tieA ownA G order led' h' tk news' b1 b0 b2 b3 b4 b5 b6 b7 b8 b9 b10 F' N' C'
  clear hQ
  have X' := cx'.X
  have T' := cx'.T
  have hh' := cx'.hh
  have hsc' : g'.IsList sc vs.toArray := let ⟨o, ho, r⟩ := hsc; ⟨o, FG.keep _ _ ho, r⟩
  try dsimp only
  try k_fold
  obtain ⟨ledC, C', hold, hcell, hback⟩ := cells_led (fun n => if n == Str.ofString "count" then 40 else if n == Str.ofString "number" then 41 else 42) Y C (fun y hy => by
    rcases q : led y.2 with _ | x
    · rfl
    · exfalso
      have h1 := hlt _ _ q
      have h2 := (cellsFrom_ok (n₀ := L' + 1) _ (L' + 1) [] (fun y hy => nomatch hy) .nil (Nat.le_refl _)).1 y hy
      exact Nat.lt_irrefl _ (Nat.lt_of_lt_of_le (Nat.lt_succ_of_lt h1) h2)) (cellsFrom_ok (n₀ := L' + 1) _ (L' + 1) [] (fun y hy => nomatch hy) .nil (Nat.le_refl _)).2
  have hc1 : ledC (L' + 1) = some (40, .cell none) := hcell (Str.ofString "count") (L' + 1) rfl
  have hc2 : ledC (L' + 1 + 1) = some (41, .cell none) := hcell (Str.ofString "number") (L' + 1 + 1) rfl
  have hc3 : ledC (L' + 1 + 1 + 1) = some (42, .cell none) := hcell (Str.ofString "order") (L' + 1 + 1 + 1) rfl
  clear hcell
  walk_at "go"
  refine comp_led (h₀ := g') (L := L') 45 (fun _ => true) (fun x => ((x * 2654435761 + 1013904223) ^ 3).fdiv 1000003) rfl ?_ rfl ?_ rfl ?_
  · decide
  · decide
  walk_at "go"
  rename_i D₁ ws₁ h₂ F₂ N₂ l₁ hI₁ hC₁ hL₁
  have C₂ := C'.set (45, .ints (ns.take 9)) ⟨ws₁, 0, rfl, hI₁⟩ (D := D₁)
  have hsl := sizeLine_eq
  refine ⟨ns.take 9, _, _, _, src_ints hh' N₂ C₂ upd_same, by omega, F₂, N₂, C₂, ⟨fun C n t s₃ m₃ E' hn hm F₃ N₃ => wpAny_tests_nil ⟨rfl, _, _, rfl, fun _ _ e => e⟩, fun C n t s₃ m₃ E' hn _ hm F₃ N₃ => ?_⟩, ?_⟩
  · have hb := hbits n (List.mem_of_mem_take hn)
    walk_at "go"
    exact ⟨⟨_, rfl⟩, _, _, rfl, fun _ _ e => e⟩
  clear C₂ N₂ F₂
  intro D₂ h₂ tk₂ news₂ hD₂ F₂ N₂ C₂
  walk_at "go"
  refine new_ints 46 (by k_asm) (by k_asm) (by walk_at "cov") (.cons _ _ (.cons _ _ (.cons _ _ (.cons _ _ (.cons _ _ (.cons _ _ (.cons _ _ (.cons _ _ (.cons _ _ .nil))))))))) (by walk_at "small") ?_
  intro D₃ h₃ news₃ F₃ N₃ C₃ hD₃ _ _
  try dsimp only
  walk_at "go"
  refine add_ints 45 (by k_asm) (by k_asm) (by walk_at "cov") (look_new upd_same hD₃) upd_same (by rw [List.length_map]; exact Nat.le_trans (Nat.add_le_add_right (Nat.le_trans (List.length_filter_le _ _) (List.length_take_le _ _)) _) (show 9 + 9 ≤ sizeLine by rw [hsl]; decide)) ?_
  intro D₄ h₄ news₄ F₄ N₄ C₄ hD₄ hD₄0
  generalize hN : (List.map _ _ ++ _ : List Int) = nums at C₄
  have h9 : 9 ≤ nums.length := by rw [← hN, List.length_append]; exact Nat.le_add_left _ _
  have hn0 : nums[(0 : Int).toNat]? = some nums[0] := List.getElem?_eq_getElem (by omega)
  generalize nums[0] = n0 at hn0
  clear hN
  obtain ⟨led₅, C₅, hc1, hc2, hc3, hnum, K₅⟩ : ∃ led₅, Cov PySem.Challenge.rw_bc6012_01.row.prog w news₄ led₅ ∧ led₅ (L' + 1) = some (40, .cell none) ∧ led₅ (L' + 1 + 1) = some (41, .cell none) ∧ led₅ (L' + 1 + 1 + 1) = some (42, .cell none) ∧ led₅ D₄ = some (45, .ints nums) ∧ KeepA g led led₅ := by
    have kp : ∀ a x, ledC a = some x → upd (upd (upd (upd ledC D₁ (45, .ints (ns.take 9))) D₂ (45, .ints _)) D₃ (46, .ints _)) D₄ (45, .ints nums) a = some x := fun a x e => look_new (look_new (look_new (look_new e (led_none_of_lt C' l₁)) hD₂) hD₃) hD₄
    exact ⟨_, C₄, kp _ _ hc1, kp _ _ hc2, kp _ _ hc3, upd_same, fun a x e _ => kp a x (hold a x e)⟩
  clear C₄ C₃ C₂ N₃ N₂ F₃ F₂ hD₂ hD₃ hD₄ hD₄0 C' hold hback Y
  try dsimp only
  walk_at "goD"
  rename (Cov _ _ _ (upd led₅ _ _)) => C₆
  rename (Fr _ _ _ _) => F₆
  rename (News _ _ _ _) => N₆
  obtain ⟨c, hcc, hcl, hc8⟩ : ∃ c : Nat, 1 + n0.fmod 8 = (c : Int) ∧ 1 ≤ c ∧ c ≤ 8 := by
    have h1 := Int.fmod_nonneg_of_pos n0 (show (0 : Int) < 8 by decide)
    have h2 := Int.fmod_lt_of_pos n0 (show (0 : Int) < 8 by decide)
    exact ⟨(1 + n0.fmod 8).toNat, by omega, by omega, by omega⟩
  rw [hcc] at C₆
  have hl1 : led (L' + 1) = none := by
    rcases q : led (L' + 1) with _ | x
    · rfl
    · exact absurd (hlt _ _ q) (Nat.not_lt.mpr (Nat.le_succ _))
  refine new_dictR 10 (fun _ => 0) F₆ N₆ C₆ T'.nolimit ?_
  intro tA h₇ news₇ F₇ N₇ C₇ hA₇ _
  try dsimp only
  walk_at "goD"
  refine new_dictR 12 (fun _ => 0) (by k_asm) (by k_asm) (by walk_at "cov") T'.nolimit ?_
  intro oA h₈ news₈ F₈ N₈ C₈ hA₈ _
  try dsimp only
  walk_at "goD"
  have hnl : L' + 1 + 1 ≠ L' + 1 := Nat.ne_of_gt (Nat.lt_succ_self _)
  obtain ⟨led₉, tc, C₉, hc1, hc2, hc3, hnum, hT₉, hO₉, K₉⟩ : ∃ led₉ tc, Cov PySem.Challenge.rw_bc6012_01.row.prog w news₈ led₉ ∧ led₉ (L' + 1) = some (40, .cell (some (.int (c : Int) tc))) ∧ led₉ (L' + 1 + 1) = some (41, .cell none) ∧ led₉ (L' + 1 + 1 + 1) = some (42, .cell none) ∧ led₉ D₄ = some (45, .ints nums) ∧
      led₉ tA = some (10, .drefs [] (fun _ => 0)) ∧ led₉ oA = some (12, .drefs [] (fun _ => 0)) ∧ KeepA g led led₉ := by
    refine ⟨_, _, C₈, look_new (look_new upd_same hA₇) hA₈, look_new (look_new (look hc2 hc1 (by decide)) hA₇) hA₈, look_new (look_new (look hc3 hc1 (by decide)) hA₇) hA₈, look_new (look_new (look hnum hc1 (by decide)) hA₇) hA₈, look_new upd_same hA₈, upd_same, ?_⟩
    exact ((K₅.new hl1).trans (KeepA.refl.new hA₇)).trans (KeepA.refl.new hA₈)
  have hlT : ∀ x, led tA = some x → g ≤ x.1 := fun x e => Nat.le_of_not_lt fun q => by
    cases hA₇.symm.trans (K₅.new hl1 tA x e q)
  have hlO : ∀ x, led oA = some x → g ≤ x.1 := fun x e => Nat.le_of_not_lt fun q => by
    cases hA₈.symm.trans (look_new (K₅.new hl1 oA x e q) hA₇)
  have hl3 : led (L' + 1 + 1 + 1) = none := by
    rcases q : led (L' + 1 + 1 + 1) with _ | x
    · rfl
    · exact absurd (hlt _ _ q) (Nat.not_lt.mpr (Nat.le_succ_of_le (Nat.le_succ_of_le (Nat.le_succ _))))
  clear C₈ C₇ C₆ C₅ K₅ hA₇ hA₈ hl1 hcc
  have hl2 : led (L' + 1 + 1) = none := by
    rcases q : led (L' + 1 + 1) with _ | x
    · rfl
    · exact absurd (hlt _ _ q) (Nat.not_lt.mpr (Nat.le_succ_of_le (Nat.le_succ _)))
  rename (Fr _ _ _ _) => F₉
  rename (News _ _ _ _) => N₉
  clear cx X F N C FG hsc hsc' hbits hlen hn0 l₁ hC₁ hL₁ hI₁ hI
  refine For_range (h₀ := g') g hh' rfl rfl ?_
  walk_at "goD"
  refine range1_rows (by k_asm) (by k_asm) ?_
  intro h₁₀ tk₁₀ t₁ u₁ v₁ hr F₁₀ N₁₀ kp₁₀
  try dsimp only
  refine ⟨_, _, _, led₉, c, _, _, _, _, _, DrI g c led (L' + 1) tA oA D₄ tc nums, rfl, rfl, F₁₀, N₁₀, C₉, hr, by omega, ⟨rfl, rfl, rfl, K₉, hc1, ⟨_, hc2⟩, hc3, hnum, fun _ => 0, fun _ => 0, fun _ => [], fun _ => [], hT₉, hO₉, fun v hv => nomatch hv⟩, ?_, ?_, ?_, ?_⟩
  · rintro i m l l' ⟨a1, a2, a3, a4, a5, ⟨v, a6⟩, a7, a8, tieA, ownA, tie, own, a9⟩ hm
    exact ⟨a1, a2, a3, a4.mono hm, hm _ _ a5, ⟨v, hm _ _ a6⟩, hm _ _ a7, hm _ _ a8, tieA, ownA, tie, own, a9.mono fun a x e _ => hm a x e⟩
  · rintro i m l ⟨a1, a2, a3, a4, a5, ⟨v, a6⟩, a7, a8, tieA, ownA, tie, own, a9⟩
    exact ⟨a1, a2, a3, a4.cut (Nat.le_refl _), cut_some a5 (by show 40 < g; omega), ⟨v, cut_some a6 (by show 41 < g; omega)⟩, cut_some a7 (by show 42 < g; omega), cut_some a8 (by show 45 < g; omega), tieA, ownA, tie, own, a9.mono fun a x e q => cut_some e (by omega)⟩
  · -- one point is drawn
    rintro i ti m₁ led₁ news₁ h tk₁ IT ito E' hi ⟨nt, no, nn, K₁, c1, ⟨v, c2⟩, c3, hnu, tieA, ownA, tie, own, dr⟩ hIT htg F₁ N₁ C₁
    try dsimp only
    have hix : nums[(1 + (i : Int)).toNat]? = some nums[1 + i] := by rw [show (1 + (i : Int)).toNat = 1 + i by omega]; exact List.getElem?_eq_getElem (by omega)
    generalize nums[1 + i] = number at hix
    walk_at "goD"
    walk1
    rename (Cov _ _ _ (upd led₁ _ _)) => C₂
    obtain ⟨led₂, tn, C₂, c1, c2, c3, hnu, hIT, hT, hO, K₂, kp12⟩ : ∃ led₂ tn, Cov PySem.Challenge.rw_bc6012_01.row.prog w _ led₂ ∧ led₂ (L' + 1) = some (40, .cell (some (.int (c : Int) tc))) ∧ led₂ (L' + 1 + 1) = some (41, .cell (some (.int number tn))) ∧ led₂ (L' + 1 + 1 + 1) = some (42, .cell none) ∧ led₂ D₄ = some (45, .ints nums) ∧ led₂ IT = some (g, .raw ito) ∧
        led₂ tA = some (10, .drefs (rangeInts 0 1 i) tieA) ∧ led₂ oA = some (12, .drefs (rangeInts 0 1 i) ownA) ∧ KeepA g led led₂ ∧ ∀ a x, led₁ a = some x → x.1 ≠ 41 → led₂ a = some x :=
      ⟨_, _, C₂, look c1 c2 (by decide), upd_same, look c3 c2 (by decide), look hnu c2 (by decide), look hIT c2 (by omega), look dr.1 c2 (by decide), look dr.2.1 c2 (by decide), K₁.new hl2, fun a x e q => look (y := x.2) e c2 q⟩
    obtain ⟨r, hr4, hr3⟩ : ∃ r : Nat, number.fmod 4 = (r : Int) ∧ r ≤ 3 := by
      have h1 := Int.fmod_nonneg_of_pos number (show (0 : Int) < 4 by decide)
      have h2 := Int.fmod_lt_of_pos number (show (0 : Int) < 4 by decide)
      exact ⟨(number.fmod 4).toNat, by omega, by omega⟩
    refine comp_led (h₀ := g') (L := L') 11 (fun _ => true) (fun k => (number.fdiv (7 ^ (k + 1).toNat)).fmod c) rfl (by decide) rfl (by decide) rfl ?_
    walk_at "goD"
    refine range1_rows (by k_asm) (by k_asm) ?_
    intro h₂ tk₂ t₂ u₂ v₂ hrng F₂ N₂ kp₂
    try dsimp only
    rw [hr4] at hrng
    refine ⟨_, _, _, _, src_range hh' hrng (by omega), by rw [rangeInts_length]; omega, F₂, N₂, C₂, ⟨fun C n t s₃ m₃ E' hn hm F₃ N₃ => wpAny_tests_nil ⟨rfl, _, _, rfl, fun _ _ e => e⟩, fun C n t s₃ m₃ E' hn _ hm F₃ N₃ => ?_⟩, ?_⟩
    · have hk := mem_rangeInts hn
      have hk0 : 0 ≤ n := by omega
      have hk3 : n ≤ 3 := by omega
      have hc0 : (c : Int) ≠ 0 := by omega
      walk_at "goD"
      exact ⟨⟨_, rfl⟩, _, _, rfl, fun _ _ e => e⟩
    intro D₅ h₅ tk₅ news₅ hD₅ F₅ N₅ C₅
    try dsimp only
    walk_at "goD"
    have hin : (i : Int) ∉ rangeInts 0 1 i := fun q => by have := mem_rangeInts q; omega
    have hkl : (rangeInts 0 1 i).length ≤ sizeLine := by rw [rangeInts_length, hsl]; omega
    refine set_drefs_new F₅ N₅ C₅ (look_new hT hD₅) hkl hin ?_
    intro h₆ news₆ F₆ N₆ C₆
    try dsimp only
    obtain ⟨led₆, C₆, c1, c2, c3, hnu, hIT, hT, hO, htl, K₆, kp16⟩ : ∃ led₆, Cov PySem.Challenge.rw_bc6012_01.row.prog w news₆ led₆ ∧ led₆ (L' + 1) = some (40, .cell (some (.int (c : Int) tc))) ∧ led₆ (L' + 1 + 1) = some (41, .cell (some (.int number tn))) ∧ led₆ (L' + 1 + 1 + 1) = some (42, .cell none) ∧ led₆ D₄ = some (45, .ints nums) ∧ led₆ IT = some (g, .raw ito) ∧
          led₆ tA = some (10, .drefs (rangeInts 0 1 i ++ [(i : Int)]) (fset tieA i D₅)) ∧ led₆ oA = some (12, .drefs (rangeInts 0 1 i) ownA) ∧ led₆ D₅ = some (11, .ints (((rangeInts 0 1 r).filter (fun _ => true)).map (fun k => (number.fdiv (7 ^ (k + 1).toNat)).fmod c))) ∧ KeepA g led led₆ ∧ ∀ a x, led₁ a = some x → x.1 ≠ 41 → x.1 ≠ 10 → led₆ a = some x := by
      have hT' := look_new (z := (11, .ints (((rangeInts 0 1 r).filter (fun _ => true)).map (fun k => (number.fdiv (7 ^ (k + 1).toNat)).fmod c)))) hT hD₅
      refine ⟨_, C₆, look (look_new c1 hD₅) hT' (by decide), look (look_new c2 hD₅) hT' (by decide), look (look_new c3 hD₅) hT' (by decide), look (look_new hnu hD₅) hT' (by decide), look (look_new hIT hD₅) hT' (by omega), upd_same, look (look_new hO hD₅) hT' (by decide), look upd_same hT' (by decide), (K₂.trans (KeepA.refl.new hD₅)).new' hlT, fun a x e q q' => look (y := x.2) (look_new (kp12 a x e q) hD₅) hT' q'⟩
    obtain ⟨mk, hmk, hmm⟩ : ∃ mk, [Str.ofString "a", Str.ofString "b", Str.ofString "c", Str.ofString "d", Str.ofString "e"][((number.fdiv 5).fmod 5).toNat]? = some mk ∧ mk ∈ [Str.ofString "a", Str.ofString "b", Str.ofString "c", Str.ofString "d", Str.ofString "e"] := by
      have h1 := Int.fmod_nonneg_of_pos (number.fdiv 5) (show (0 : Int) < 5 by decide)
      have h2 := Int.fmod_lt_of_pos (number.fdiv 5) (show (0 : Int) < 5 by decide)
      have hl : ((number.fdiv 5).fmod 5).toNat < [Str.ofString "a", Str.ofString "b", Str.ofString "c", Str.ofString "d", Str.ofString "e"].length := by show _ < 5; omega
      exact ⟨_, List.getElem?_eq_getElem hl, List.getElem_mem hl⟩
    have hm0 := Int.fmod_nonneg_of_pos (number.fdiv 5) (show (0 : Int) < 5 by decide)
    have hm1 := Int.fmod_lt_of_pos (number.fdiv 5) (show (0 : Int) < 5 by decide)
    have hm2 := Int.fmod_nonneg_of_pos (number.fdiv 3) (show (0 : Int) < 3 by decide)
    have hm3 := Int.fmod_lt_of_pos (number.fdiv 3) (show (0 : Int) < 3 by decide)
    have hm4 := Int.fmod_nonneg_of_pos (number.fdiv 25) (show (0 : Int) < 3 by decide)
    have hm5 := Int.fmod_lt_of_pos (number.fdiv 25) (show (0 : Int) < 3 by decide)
    have hm6 := Int.fdiv_nonneg hm4 (show (0 : Int) ≤ 2 by decide)
    clear C₅ F₅ N₅ C₁ N₁ F₁ C₉ N₉ F₉ F₁₀ N₁₀ F₂ N₂ C₂ kp₁₀ kp₂ hr hrng
    walk_at "goT"
    refine new_strs 46 (by k_asm) (by k_asm) (by walk_at "cov") (.cons _ _ (.cons _ _ (.cons _ _ (.cons _ _ (.cons _ _ .nil))))) (by walk_at "small") ?_
    intro M₁ h₇ news₇ F₇ N₇ C₇ hM₁ _ _
    try dsimp only
    have qM₁ : upd led₆ M₁ (46, .strs [Str.ofString "a", Str.ofString "b", Str.ofString "c", Str.ofString "d", Str.ofString "e"]) M₁ = some (46, .strs [Str.ofString "a", Str.ofString "b", Str.ofString "c", Str.ofString "d", Str.ofString "e"]) := upd_same
    have c2' := look_new (z := (46, .strs [Str.ofString "a", Str.ofString "b", Str.ofString "c", Str.ofString "d", Str.ofString "e"])) c2 hM₁
    walk_at "goT"
    clear qM₁
    refine new_strs 47 (by k_asm) (by k_asm) (by walk_at "cov") (.cons _ _ .nil) (by walk_at "small") ?_
    intro M₂ h₈ news₈ F₈ N₈ C₈ hM₂ _ _
    try dsimp only
    have c2'' := look_new (z := (47, .strs [mk])) c2' hM₂
    walk_at "goT"
    refine slice_strs 48 F₈ N₈ C₈ upd_same hm2 (by walk_at "small") ?_
    intro M₃ h₉ news₉ F₉ N₉ C₉ hM₃
    try dsimp only
    have c2₃ := look_new (z := (48, .strs (List.take ((number.fdiv 3).fmod 3).toNat [mk]))) c2'' hM₃
    walk_at "goT"
    refine new_strs 47 (by k_asm) (by k_asm) (by walk_at "cov") (.cons _ _ .nil) (by walk_at "small") ?_
    intro M₄ h₁₁ news₁₁ F₁₁ N₁₁ C₁₁ hM₄ _ _
    try dsimp only
    have c2₄ := look_new (z := (47, .strs [Str.ofString "z"])) c2₃ hM₄
    walk_at "goT"
    refine slice_strs 48 F₁₁ N₁₁ C₁₁ upd_same hm6 (by walk_at "small") ?_
    intro M₅ h₁₂ news₁₂ F₁₂ N₁₂ C₁₂ hM₅
    try dsimp only
    have e3 := look_new (z := (48, .strs (List.take (((number.fdiv 25).fmod 3).fdiv 2).toNat [Str.ofString "z"]))) (look_new (z := (47, .strs [Str.ofString "z"])) (upd_same (led := upd (upd led₆ M₁ (46, .strs [Str.ofString "a", Str.ofString "b", Str.ofString "c", Str.ofString "d", Str.ofString "e"])) M₂ (47, .strs [mk])) (a := M₃) (x := (48, .strs (List.take ((number.fdiv 3).fmod 3).toNat [mk])))) hM₄) hM₅
    walk_at "goT"
    refine add_strs 13 F₁₂ N₁₂ C₁₂ e3 upd_same (by rw [List.length_take, List.length_take, hsl]; simp only [List.length_cons, List.length_nil]; omega) ?_
    intro M₆ h₁₃ news₁₃ F₁₃ N₁₃ C₁₃ hM₆ _
    have kp6 : ∀ a x, led₆ a = some x → upd (upd (upd (upd (upd (upd led₆ M₁ (46, .strs [Str.ofString "a", Str.ofString "b", Str.ofString "c", Str.ofString "d", Str.ofString "e"])) M₂ (47, .strs [mk])) M₃ (48, .strs (List.take ((number.fdiv 3).fmod 3).toNat [mk]))) M₄ (47, .strs [Str.ofString "z"])) M₅ (48, .strs (List.take (((number.fdiv 25).fmod 3).fdiv 2).toNat [Str.ofString "z"]))) M₆ (13, .strs (List.take ((number.fdiv 3).fmod 3).toNat [mk] ++ List.take (((number.fdiv 25).fmod 3).fdiv 2).toNat [Str.ofString "z"])) a = some x :=
      fun a x e => look_new (look_new (look_new (look_new (look_new (look_new e hM₁) hM₂) hM₃) hM₄) hM₅) hM₆
    have hs6 := upd_same (led := upd (upd (upd (upd (upd led₆ M₁ (46, .strs [Str.ofString "a", Str.ofString "b", Str.ofString "c", Str.ofString "d", Str.ofString "e"])) M₂ (47, .strs [mk])) M₃ (48, .strs (List.take ((number.fdiv 3).fmod 3).toNat [mk]))) M₄ (47, .strs [Str.ofString "z"])) M₅ (48, .strs (List.take (((number.fdiv 25).fmod 3).fdiv 2).toNat [Str.ofString "z"]))) (a := M₆) (x := (13, .strs (List.take ((number.fdiv 3).fmod 3).toNat [mk] ++ List.take (((number.fdiv 25).fmod 3).fdiv 2).toNat [Str.ofString "z"])))
    generalize upd (upd (upd (upd (upd (upd led₆ M₁ _) M₂ _) M₃ _) M₄ _) M₅ _) M₆ _ = led₁₄ at C₁₃ kp6 hs6
    clear C₁₂ C₁₁ C₉ C₈ C₇ N₁₂ N₁₁ N₉ N₈ N₇ F₁₂ F₁₁ F₉ F₈ F₇ e3 c2' c2'' c2₃ c2₄
    have hO := kp6 _ _ hO
    try dsimp only
    walk_at "goT"
    rename (Cov _ _ _ (upd led₁₄ _ _)) => C₁₅
    rename (Fr _ _ _ _) => F₁₅
    rename (News _ _ _ _) => N₁₅
    obtain ⟨g1, g2⟩ := marks_ok hmm ((number.fdiv 3).fmod 3).toNat (((number.fdiv 25).fmod 3).fdiv 2).toNat
    have er : rangeInts 0 1 (i + 1) = rangeInts 0 1 i ++ [(i : Int)] := by rw [rangeInts_zero_one, rangeInts_zero_one, List.range_succ, List.map_append]; rfl
    refine EndAt.intro F₁₅ N₁₅ C₁₅ ⟨look (kp6 _ _ hIT) hO (by omega), nt, no, nn, (K₆.trans fun a x e _ => kp6 a x e).new' hlO, look (kp6 _ _ c1) hO (by decide), ⟨_, look (kp6 _ _ c2) hO (by decide)⟩, look (kp6 _ _ c3) hO (by decide), look (kp6 _ _ hnu) hO (by decide), fset tieA i D₅, fset ownA i M₆, fset tie i (((rangeInts 0 1 r).filter (fun _ => true)).map (fun k => (number.fdiv (7 ^ (k + 1).toNat)).fmod c)), fset own i (List.take ((number.fdiv 3).fmod 3).toNat [mk] ++ List.take (((number.fdiv 25).fmod 3).fdiv 2).toNat [Str.ofString "z"]), ?_⟩
    rw [er]
    refine ⟨look (kp6 _ _ hT) hO (by decide), upd_same, fun v hv => ?_⟩
    rcases List.mem_append.mp hv with q | q
    · have hvi : v ≠ (i : Int) := fun e => hin (e ▸ q)
      obtain ⟨b1, b2, b3⟩ := dr.2.2 v q
      rw [fset_ne hvi, fset_ne hvi, fset_ne hvi, fset_ne hvi]
      exact ⟨look (kp6 _ _ (kp16 _ _ b1 (show (11 : Nat) ≠ 41 by decide) (show (11 : Nat) ≠ 10 by decide))) hO (by decide), look (kp6 _ _ (kp16 _ _ b2 (show (13 : Nat) ≠ 41 by decide) (show (13 : Nat) ≠ 10 by decide))) hO (by decide), b3⟩
    · rw [List.mem_singleton] at q
      subst q
      rw [fset_same, fset_same, fset_same, fset_same]
      refine ⟨look (kp6 _ _ htl) hO (by decide), look hs6 hO (by decide), fun y hy => ?_, ?_, g1, g2⟩
      · obtain ⟨k, _, rfl⟩ := List.mem_map.mp hy
        exact ⟨Int.fmod_nonneg_of_pos _ (by omega), Int.fmod_lt_of_pos _ (by omega)⟩
      · rw [List.length_map]
        exact Nat.le_trans (List.length_filter_le _ _) (by rw [rangeInts_length]; exact hr3)
  · rintro h₃ tk₃ m₃ led₃ news₃ F₃ N₃ C₃ htg₃ ⟨nt, no, nn, K₃, c1, ⟨v, c2⟩, c3, hnu, tieA, ownA, tie, own, dr⟩
    try dsimp only
    have X := cx'.X
    revert X; k_fill; intro X
    clear X
    clear C₉ N₉ F₉ F₁₀ N₁₀ kp₁₀ hr htg₃
    have hn0 : nums[(0 : Int).toNat]? = some nums[0] := List.getElem?_eq_getElem (by omega)
    generalize nums[0] = n0' at hn0
    walk_at "goD"
    refine new_ints 14 (by k_asm) (by k_asm) (by walk_at "cov") .nil (by walk_at "small") ?_
    intro O₁ h₄ news₄' F₄ N₄ C₄ hO₁ _ _
    try dsimp only
    walk1
    rename (Cov _ _ _ (upd _ (L' + 1 + 1 + 1) _)) => C₅
    rename (Fr _ _ _ _) => F₅
    rename (News _ _ _ _) => N₅
    have c3' := look_new (z := (14, .ints [])) c3 hO₁
    obtain ⟨led₅, C₅, c1, c3, hnu, hOr, dr, K₅⟩ : ∃ led₅, Cov PySem.Challenge.rw_bc6012_01.row.prog w _ led₅ ∧ led₅ (L' + 1) = some (40, .cell (some (.int (c : Int) tc))) ∧ led₅ (L' + 1 + 1 + 1) = some (42, .cell (some (.ref O₁))) ∧ led₅ D₄ = some (45, .ints nums) ∧ led₅ O₁ = some (14, .ints []) ∧ Drawn c tA oA (rangeInts 0 1 c) led₅ tieA ownA tie own ∧ KeepA g led led₅ :=
      ⟨_, C₅, look (look_new c1 hO₁) c3' (by decide), upd_same, look (look_new hnu hO₁) c3' (by decide), look upd_same c3' (by decide), dr.mono fun a x e q => look (y := x.2) (look_new e hO₁) c3' (show x.1 ≠ 42 by omega), (K₃.trans (KeepA.refl.new hO₁)).new hl3⟩
    clear c3' c2 C₄ F₄ N₄ C₃ F₃ N₃
    walk_at "goD"
    have hlO1 : ∀ x, led O₁ = some x → g ≤ x.1 := fun x e => Nat.le_of_not_lt fun q => by
      cases hO₁.symm.trans (K₃ _ _ e q)
    refine For_range (h₀ := g') g hh' rfl rfl ?_
    walk_at "goD"
    refine range1_rows (by k_asm) (by k_asm) ?_
    intro h₆ tk₆ t₆ u₆ v₆ hr F₆ N₆ kp₆
    try dsimp only
    refine ⟨_, _, _, led₅, c, _, _, _, _, _, OrI g c led (L' + 1) tA oA O₁ tc tieA ownA tie own, rfl, rfl, F₆, N₆, C₅, hr, by omega, ⟨nt, no, ⟨_, _, rfl⟩, K₅, c1, c3, dr, [], hOr, .nil, by simp, rfl⟩, ?_, ?_, ?_, ?_⟩
    · rintro i m l l' ⟨a1, a2, a3, a4, a5, a6, a7, ord, a8, a9⟩ hm
      exact ⟨a1, a2, a3, a4.mono hm, hm _ _ a5, hm _ _ a6, a7.mono fun a x e _ => hm a x e, ord, hm _ _ a8, a9⟩
    · rintro i m l ⟨a1, a2, a3, a4, a5, a6, a7, ord, a8, a9⟩
      exact ⟨a1, a2, a3, a4.cut (Nat.le_refl _), cut_some a5 (by show 40 < g; omega), cut_some a6 (by show 42 < g; omega), a7.mono fun a x e q => cut_some e (by omega), ord, cut_some a8 (by show 14 < g; omega), a9⟩
    · -- one more in the order
      clear F₆ N₆ kp₆ hr C₅ dr hOr c1 c3 K₅ hnu
      rintro k tk₇ m₇ led₇ news₇ h₇ tk₇' IT ito E₇ hk ⟨nt, no, ⟨r, tr, nr⟩, K₇, c1, c3, dr, ord, hOr, hond, hom, hol⟩ hIT htg F₇ N₇ C₇
      try dsimp only
      walk_at "goD"
      refine comp_assign (h₀ := g') 43 (fun p => !decide (p ∈ ord)) id rfl rfl (by decide) rfl (by decide) rfl rfl rfl ?_
      walk_at "goD"
      refine range1_rows (by k_asm) (by k_asm) ?_
      intro h₈ tk₈ t₈ u₈ v₈ hrng F₈ N₈ kp₈
      try dsimp only
      refine ⟨_, _, _, _, src_range hh' hrng (by omega), by rw [rangeInts_length]; omega, F₈, N₈, C₇, ⟨fun C n t s₃ m₃ E' hn hm F₃ N₃ => wpAny_tests_one ?_, fun C n t s₃ m₃ E' hn _ hm F₃ N₃ => ?_⟩, ?_⟩
      · walk_at "goD"
        exact ⟨rfl, _, _, rfl, fun _ _ e => e⟩
      · walk_at "goD"
        exact ⟨⟨_, rfl⟩, _, _, rfl, fun _ _ e => e⟩
      intro D₉ h₉ tk₉ news₉ hD₉ F₉ N₉ C₉
      obtain ⟨led₈, lft, C₈, hlf, hl8, hl1, hlm, hlr, c1, c3, dr, hOr, hIT, K₈⟩ : ∃ led₈ lft, Cov PySem.Challenge.rw_bc6012_01.row.prog w news₉ led₈ ∧ led₈ D₉ = some (43, .ints lft) ∧ lft.length ≤ 8 ∧ 1 ≤ lft.length ∧ (∀ v ∈ lft, v ∉ ord) ∧ (∀ v ∈ lft, v ∈ rangeInts 0 1 c) ∧
          led₈ (L' + 1) = some (40, .cell (some (.int (c : Int) tc))) ∧ led₈ (L' + 1 + 1 + 1) = some (42, .cell (some (.ref O₁))) ∧ Drawn c tA oA (rangeInts 0 1 c) led₈ tieA ownA tie own ∧ led₈ O₁ = some (14, .ints ord) ∧ led₈ IT = some (g, .raw ito) ∧ KeepA g led led₈ := by
        refine ⟨_, _, C₉, upd_same, ?_, ?_, ?_, ?_, look_new c1 hD₉, look_new c3 hD₉, dr.mono fun a x e _ => look_new e hD₉, look_new hOr hD₉, look_new hIT hD₉, K₇.trans (KeepA.refl.new hD₉)⟩
        · rw [List.length_map]
          exact Nat.le_trans (List.length_filter_le _ _) (by rw [rangeInts_length]; exact hc8)
        · rw [List.length_map]
          refine Nat.pos_of_ne_zero fun q => ?_
          have hall : ∀ v ∈ rangeInts 0 1 c, v ∈ ord := fun v hv => by
            by_cases hq : v ∈ ord
            · exact hq
            · have := (List.mem_filter (p := fun p => !decide (p ∈ ord))).mpr ⟨hv, by simpa using hq⟩
              rw [List.length_eq_zero_iff.mp q] at this
              cases this
          have := nodup_le (rangeInts_nodup c) hall
          rw [rangeInts_length] at this
          omega
        · intro v hv
          rw [List.map_id] at hv
          simpa using (List.mem_filter.mp hv).2
        · intro v hv
          rw [List.map_id] at hv
          exact (List.mem_filter.mp hv).1
      have hne : ((lft.length : Nat) : Int) ≠ 0 := by omega
      have hq0 := Int.fmod_nonneg_of_pos r (show (0 : Int) < ((lft.length : Nat) : Int) by omega)
      have hq1 := Int.fmod_lt_of_pos r (show (0 : Int) < ((lft.length : Nat) : Int) by omega)
      obtain ⟨one, hone, hom1⟩ : ∃ one, lft[(r.fmod ((lft.length : Nat) : Int)).toNat]? = some one ∧ one ∈ lft := by
        have hl : (r.fmod ((lft.length : Nat) : Int)).toNat < lft.length := by omega
        exact ⟨_, List.getElem?_eq_getElem hl, List.getElem_mem hl⟩
      clear C₉ F₈ N₈ C₇ F₇ N₇ kp₈ hrng
      try dsimp only
      walk_at "goD"
      rename (Cov _ _ _ (upd led₈ _ _)) => C₁₀
      rename (Fr _ _ _ _) => F₁₀
      rename (News _ _ _ _) => N₁₀
      refine EndAt.intro F₁₀ N₁₀ C₁₀ ⟨look hIT hOr (by omega), nt, no, ⟨_, _, rfl⟩, K₈.new' hlO1, look c1 hOr (by decide), look c3 hOr (by decide), dr.mono fun a x e q => look (y := x.2) e hOr (show x.1 ≠ 14 by omega), ord ++ [one], upd_same, ?_, ?_, ?_⟩
      · refine List.nodup_append.mpr ⟨hond, by simp, fun a ha b hb e => ?_⟩
        rw [List.mem_singleton] at hb
        exact hlm one hom1 (by rw [← hb, ← e]; exact ha)
      · intro v hv
        rcases List.mem_append.mp hv with q | q
        · exact hom v q
        · rw [List.mem_singleton] at q; rw [q]; exact hlr one hom1
      · rw [List.length_append, hol]; rfl
    · -- the order is drawn
      rintro h₇ tk₇ m₇ led₇ news₇ F₇ N₇ C₇ htg₇ ⟨nt, no, ⟨r, tr, nr⟩, K₇, c1, c3, dr, ord, hOr, hond, hom, hol⟩
      try dsimp only
      clear F₆ N₆ kp₆ hr C₅ htg₇ K₅
      walk_at "goD"
      rename_i D₈ h₈ F₈ N₈ l₈
      have hD₈ : led₇ D₈ = none := led_none_of_lt C₇ l₈
      have C₈ := C₇.set (D := D₈) (46, .raw (tupO [.ref tA, .ref oA, .ref O₁])) rfl
      have dr' := dr.mono (fun a x e _ => look_new (z := (46, .raw (tupO [.ref tA, .ref oA, .ref O₁]))) e hD₈)
      refine EndAt.intro F₈ N₈ C₈ ⟨D₈, tA, oA, O₁, tieA, ownA, ⟨rangeInts 0 1 c, tie, own, MARKS⟩, ord, rfl, ⟨rangeInts_nodup c, by rw [rangeInts_length]; exact hc8, fun v hv y hy => ?_, fun v hv => (dr.2.2 v hv).2.2.2.2.1, fun v hv => (dr.2.2 v hv).2.2.2.2.2, show MARKS.length ≤ 30 by decide⟩, marks_strOk, fun v hv => (dr.2.2 v hv).2.2.2.1, hond, fun v => ⟨hom v, fun hv => ?_⟩, upd_same, dr'.1, dr'.2.1, fun v hv => ⟨(dr'.2.2 v hv).1, (dr'.2.2 v hv).2.1⟩, look_new hOr hD₈, K₇.trans (KeepA.refl.new hD₈)⟩
      · have := (dr.2.2 v hv).2.2.1 y hy
        show y ∈ rangeInts 0 1 c
        rw [rangeInts_zero_one]
        exact List.mem_map.mpr ⟨y.toNat, List.mem_range.mpr (by omega), by omega⟩
      · by_cases hq : v ∈ ord
        · exact hq
        · exfalso
          have h1 : (v :: ord).Nodup := List.nodup_cons.mpr ⟨hq, hond⟩
          have h2 := nodup_le h1 (m := rangeInts 0 1 c) fun a ha => by
            rcases List.mem_cons.mp ha with q | q
            · rw [q]; exact hv
            · exact hom a q
          rw [rangeInts_length, List.length_cons] at h2
          omega
end Mine
end

section
/-! ## Law -/
open PySem PySem.W PyProof.Rows PySem.Spec PySem.Calls
set_option Elab.async false
set_option maxRecDepth 100000
namespace Mine
local macro_rules | `(tactic| walk_at "cov") => `(tactic| first | k_asm | exact Cov.cons (by walk_at "cov") _)
local macro_rules | `(tactic| walk_at "led") => `(tactic| first | assumption | exact upd_same | exact look (by walk_at "led") (by walk_at "led") (by first | decide | omega) | exact look_new (by walk_at "led") (by assumption))
local macro_rules | `(tactic| walk_at "small") => `(tactic| first | assumption | ((have hsl := sizeLine_eq); (try simp only [List.length_append, List.length_cons, List.length_nil]); omega))
local macro_rules | `(tactic| walk_at "getMethod ref") => `(tactic| first
  | (refine meth_append (by k_asm) (by walk_at "cov") (by walk_at "led") (by first | exact .inl ⟨_, rfl⟩ | exact .inr ⟨_, rfl⟩) ?_)
  | (refine meth_pop (by k_asm) (by walk_at "cov") (by walk_at "led") ?_)
  | (refine meth_get (by k_asm) (by walk_at "cov") (by walk_at "led") ?_))
local macro_rules | `(tactic| walk_at "call builtin:list.append") => `(tactic| first
  | (refine append_int (by k_asm) (by k_asm) (by walk_at "cov") (by walk_at "led") (by walk_at "small") ?_; intro h' news' F' N' C')
  | (refine append_str (by k_asm) (by k_asm) (by walk_at "cov") (by walk_at "led") (by walk_at "small") ?_; intro h' news' F' N' C'))
local macro_rules | `(tactic| walk_at "call builtin:list.pop") => `(tactic| (refine pop_int (by k_asm) (by k_asm) (by walk_at "cov") (by walk_at "led") (by walk_at "small") ?_; intro t' h' news' F' N' C'))
local macro_rules | `(tactic| walk_at "setItem ref int") => `(tactic| (first
  | refine set_dints_old (by k_asm) (by k_asm) (by walk_at "cov") (by walk_at "led") (by walk_at "small") (by assumption) ?_
  | refine set_drefs_old (by k_asm) (by k_asm) (by walk_at "cov") (by walk_at "led") (by walk_at "small") (by assumption) ?_
  | refine set_dints_new (by k_asm) (by k_asm) (by walk_at "cov") (by walk_at "led") (by walk_at "small") (by assumption) ?_
  | refine set_drefs_new (by k_asm) (by k_asm) (by walk_at "cov") (by walk_at "led") (by walk_at "small") (by assumption) ?_); intro h' news' F' N' C')
local macro_rules | `(tactic| walk_at "call builtin:len") => `(tactic| (refine len_led (by k_asm) (by walk_at "cov") (by walk_at "led") (by walk_at "small") ?_; intro t' tk'))
local macro_rules | `(tactic| walk_at "subscriptTail") => `(tactic| first
  | (refine sub_dints (by k_asm) (by walk_at "cov") (by walk_at "led") (by assumption) ?_; intro t')
  | (refine sub_drefs (by k_asm) (by walk_at "cov") (by walk_at "led") (by assumption) ?_)
  | (refine item_last (by k_asm) (by walk_at "cov") (by walk_at "led") ?_; intro t')
  | (refine item_at (by k_asm) (by walk_at "cov") (by walk_at "led") (by assumption) (by assumption) (by assumption) ?_; intro t'))
local macro_rules | `(tactic| walk_at "compareOp NotIn") => `(tactic| first
  | (refine notin_led (by k_asm) (by walk_at "cov") (by walk_at "led") ?_)
  | (refine notin_ledS (by k_asm) (by walk_at "cov") (by walk_at "led") ?_))
local macro_rules | `(tactic| walk_at "compareOp In") => `(tactic| (refine in_led (by k_asm) (by walk_at "cov") (by walk_at "led") ?_))
local macro_rules | `(tactic| walk_at "callWith ref") => `(tactic| (refine callWith_led (by k_asm) (by walk_at "cov") (by walk_at "led") (by assumption) ?_))
local macro_rules | `(tactic| walk_at "eval Name") => `(tactic| (refine' nameX_K ?F ?X ?T ?e ?_ ?a ?b ?c; (case a => rfl); (case b => rfl); (case F => k_asm); (case X => k_asm); (case T => k_asm); (case e => k_is); (case c => decide)))
local macro_rules | `(tactic| walk_at "eval Name") => `(tactic| (refine nameX_L (by k_asm) (by first | exact rfl | assumption) ?_))
local macro_rules | `(tactic| walk_at "call builtin:min") => `(tactic| (refine min_two_N (by assumption) (by k_asm) (by k_asm) ?_; intro h' tk' F' N'; (try dsimp only)))
local macro_rules | `(tactic| walk_at "call builtin:dict.get") => `(tactic| (refine get_drefs (by k_asm) (by walk_at "cov") (by walk_at "led") (by assumption) ?_))
local macro_rules | `(tactic| walk_at "dec") => `(tactic| first | assumption | ((try simp only [decide_eq_true_eq, decide_eq_false_iff_not, beq_iff_eq, bne_iff_ne, ne_eq, Bool.not_eq_true', Bool.not_eq_true, Bool.not_eq_false', Bool.not_eq_false, Decidable.not_not, Classical.not_not]); assumption))
local macro_rules | `(tactic| walk_at "ite") => `(tactic| first | refine ite_yes (by walk_at "dec") ?_ | refine ite_no (by walk_at "dec") ?_)
local macro_rules | `(tactic| walk_at "halt") => `(tactic| first
  | (with_reducible show _ ∧ _)
  | (with_reducible show Exists _)
  | (with_reducible show wpAny _ _ (exec (Stmt.For _ _ _ _ _) _) _ _ _)
  | (with_reducible show wpAny _ _ (exec (Stmt.While _ _ _ _) _) _ _ _)
  | (with_reducible show wpAny _ _ (exec (Stmt.If _ _ _ _) _) _ _ _)
  | (with_reducible show wpAny _ _ (PySem.call (Value.ref _) _) _ _ _))
local macro_rules | `(tactic| walk_at "go") => `(tactic| repeat' ((fail_if_success (walk_at "halt")); first | (k_unfold; (try dsimp only)) | walk1 | (dsimp only; walk1)))
local macro_rules | `(tactic| walk_at "eval Name") => `(tactic| (refine nameL_C (by k_asm) (by walk_at "cov") rfl (by walk_at "led") ?_))
local macro_rules | `(tactic| walk_at "storeName") => `(tactic| (refine storeL_C (by k_asm) (by k_asm) (by walk_at "cov") rfl (by walk_at "led") ?_; intro h' news' F' N' C'))
local macro_rules | `(tactic| walk_at "halt") => `(tactic| (with_reducible show wpAny _ _ (eval (Expr.ListComp _ _ _ _) _) _ _ _))
local macro_rules | `(tactic| walk_at "halt") => `(tactic| (with_reducible show wpAny _ _ (exec (Stmt.Assign _ (Expr.ListComp _ _ _ _) _) _) _ _ _))
local macro_rules | `(tactic| walk_at "eval Name") => `(tactic| ((with_reducible show wpAny _ _ (eval (Expr.Name _ _) (compEnvC _ _ _ _)) _ _ _); refine nameQ_L (by k_asm) (by assumption) ?_))
local macro_rules | `(tactic| walk_at "eval Name") => `(tactic| ((with_reducible show wpAny _ _ (eval (Expr.Name _ _) (compEnvC _ _ _ _)) _ _ _); refine nameQ_C (by k_asm) (by walk_at "cov") rfl (by walk_at "led") ?_))
local macro_rules | `(tactic| walk_at "halt") => `(tactic| (with_reducible show wpAny _ _ (binaryOp Operator.Add (Value.ref _) (Value.ref _)) _ _ _))
local macro_rules | `(tactic| walk_at "halt") => `(tactic| (with_reducible show wpAny _ _ (newList _) _ _ _))
local macro_rules | `(tactic| walk_at "halt") => `(tactic| (with_reducible show wpAny _ _ (PySem.call (Value.type "range") _) _ _ _))
local macro_rules | `(tactic| walk_at "halt") => `(tactic| (with_reducible show wpAny _ _ (eval (Expr.Dict _ _ _) _) _ _ _))

local macro_rules | `(tactic| walk_at "binaryOp Pow int int") => `(tactic| (refine pow_const (by decide) (by decide) (by decide) ?_; intro k' t'))
local macro_rules | `(tactic| walk_at "binaryOp Pow int int") => `(tactic| (refine pow3 (by assumption) ?_))
local macro_rules | `(tactic| walk_at "binaryOp Pow int int") => `(tactic| (refine pow7 (by omega) (by omega) ?_))
local macro_rules | `(tactic| walk_at "binaryOp FloorDiv int int") => `(tactic| (refine div7 (by omega) (by omega) ?_))

local macro_rules | `(tactic| walk_at "sub") => `(tactic| ((with_reducible show wpAny _ _ (subscriptTail _ _ (Value.ref _) (Value.int _ _)) _ _ _); first
  | (refine item_at (by k_asm) (by walk_at "cov") (by assumption) (by omega) (by omega) (by assumption) ?_; intro t')
  | (refine item_strs (by k_asm) (by walk_at "cov") (by assumption) (by omega) (by omega) (by assumption) ?_; intro t')
  | (refine sub_drefs (by k_asm) (by walk_at "cov") (by assumption) (by assumption) ?_)))
local macro_rules | `(tactic| walk_at "nm") => `(tactic| ((with_reducible show wpAny _ _ (eval (Expr.Name _ _) (envOfC _ _ _ _ _)) _ _ _); first
  | (refine nameL_C (by k_asm) (by k_asm) rfl (by assumption) ?_)
  | (refine nameX_L (by k_asm) (by first | exact rfl | assumption) ?_)))
local macro_rules | `(tactic| walk_at "nm") => `(tactic| ((with_reducible show wpAny _ _ (eval (Expr.Name _ _) (compEnvC _ _ _ _)) _ _ _); first
  | (refine nameQ_L (by k_asm) (by assumption) ?_)
  | (refine nameQ_C (by k_asm) (by k_asm) rfl (by assumption) ?_)))
local macro_rules | `(tactic| walk_at "one") => `(tactic| ((fail_if_success (walk_at "halt")); first | walk_at "sub" | walk_at "nm" | (k_unfold; (try dsimp only)) | walk1 | (dsimp only; walk1)))
local macro_rules | `(tactic| walk_at "goD") => `(tactic| repeat' ((fail_if_success (walk_at "halt")); first | walk_at "sub" | walk_at "nm" | (k_unfold; (try dsimp only)) | walk1 | (dsimp only; walk1)))
local macro_rules | `(tactic| walk_at "halt") => `(tactic| (with_reducible show wpAny _ _ (PySem.call (Value.type "list") _) _ _ _))
local macro_rules | `(tactic| walk_at "halt") => `(tactic| (with_reducible show wpAny _ _ (exec (Stmt.FunctionDef _ _ _ _ _ _ _ _ _ _) _) _ _ _))
local macro_rules | `(tactic| walk_at "halt") => `(tactic| (with_reducible show wpAny _ _ (PySem.call (Value.builtin "sorted") _) _ _ _))
theorem take_new {order : List Int} (hon : order.Nodup) {i : Nat} {x : Int} (hxi : order[i]? = some x) : x ∉ order.take i := by
  intro q
  obtain ⟨j, hj⟩ := List.getElem?_of_mem q
  have hj' := get_lt hj
  rw [List.length_take] at hj'
  rw [List.getElem?_take] at hj
  split at hj
  · have := idx_unique hon hj hxi
    omega
  · cases hj
theorem take_next {order : List Int} {i : Nat} {x : Int} (hxi : order[i]? = some x) : order.take (i + 1) = order.take i ++ [x] := by rw [List.take_add_one, hxi]; rfl
theorem KeepA.at {g : Nat} {l l' : Led} (K : KeepA g l l') {a : Addr} {t : Nat} {x : AO} (e : l a = some (t, x)) (h : t < g) : l' a = some (t, x) := K a (t, x) e h
theorem KeepL.at {g : Nat} {l l' : Led} (K : KeepL g l l') {a : Addr} {t : Nat} {x : AO} (e : l a = some (t, x)) (h : 10 ≤ t) (h' : t < g) : l' a = some (t, x) := K a (t, x) e h h'
theorem cut_at {g : Nat} {led : Led} {a : Addr} {t : Nat} {x : AO} (e : led a = some (t, x)) (h : t < g) : cut g led a = some (t, x) := cut_some e h
local macro_rules | `(tactic| walk_at "halt") => `(tactic| (with_reducible show wpAny _ _ (compareOp CmpOp.NotEq (Value.ref _) (Value.ref _)) _ _ _))
local macro_rules | `(tactic| walk_at "halt") => `(tactic| (with_reducible show wpAny _ _ (compareOp CmpOp.Is (Value.ref _) (Value.ref _)) _ _ _))
theorem post_true (args : List WData) : PySem.Challenge.rw_bc6012_01.row.claim.post args (.bool true) args = true := by
  show (WShape.has [] (.bool true) .bool && WTm.holds [] (.eq .res (.lit (.bool true))) { args := args, res := some (.bool true), after := args }) = true
  have h1 : WShape.has [] (.bool true) .bool = true := by simp [WShape.has, WShape.arms]
  have h2 : WTm.holds [] (.eq .res (.lit (.bool true))) { args := args, res := some (.bool true), after := args } = true := by
    have : W.same (.bool true) (.bool true) = true := by first | rfl | decide | simp [W.same]
    simp [WTm.holds, WTm.value, this]
  rw [h1, h2]; rfl
theorem law_top {prog : Program} {w : World} {A : Around} {env : Env} {body : List Stmt} {s : Shared} {g0 : Heap} {L : Addr} {m : Str → Option Value} {Q : Flow → Shared → Prop} {E : Value → Shared → Prop} (_F : Fr g0 L s.heap m)
    (hQ : ∀ h' tk' m', Fr g0 L h' m' → GrownAt 49 h' → Q (.ret (.bool true)) { s with heap := h', toks := tk' })
    (h : wpAny (model prog w) A (execs body env) (fun fl s' => EndAt prog w g0 L s (fun _ led' => retv fl = .bool true ∧ ∃ ps, led' 49 = some (28, .raw (tabObj ps))) s') (fun _ _ => False) s) :
    wpAny (model prog w) A (execs body env) Q E s := by
  refine wpAny_mono h (fun fl s' hl => ?_) fun _ _ x => x.elim
  obtain ⟨h', tk', m', news', led', rfl, F', N', C', hv, ps, h49⟩ := hl
  have e : fl = .ret (.bool true) := by
    cases fl with
    | ret v => exact congrArg Flow.ret hv
    | next => cases hv
    | brk => cases hv
    | cont => cases hv
  subst e
  exact hQ h' tk' m' F' ⟨ps, Cov.raw N' C' h49⟩
theorem law_base {prog : Program} {w : World} {K : Frag} {nm : Str} {sc : Scope} {body : List Stmt} {p : Program} {loose : List Str} {mean : ExcName → Option Value} {mg mb : Str → Option Value} {base g0 : Heap} {L0 fa : Addr} {s : Shared} {m cm : Str → Option Value} {scr : Addr} {vs : List Value} {ns : List Int} {cells : List (Addr × Obj)}
    {Q : Flow → Shared → Prop} {E : Value → Shared → Prop} (X : K.In g0) (T : Top p loose mean mg mb g0) (B : Below callerA base [] g0) (hk : sc.kind = .function) (F : Fr g0 L0 s.heap m) (N : News g0 L0 s.heap (cells ++ [(49, tabObj #[])])) (Y : CellsAre cm (cellsFrom (L0 + 1) sc.names []) cells)
    (l0 : 49 < L0) (hsc : g0.IsList scr vs.toArray) (hI : IntsAre vs ns) (hlay : PyData.layable0 (PyData.list (List.map PyData.int ns)) = true) (hlen : ¬ ((63 : Nat) : Int) < ((ns.length : Nat) : Int)) (hm : m (Str.ofString "script") = some (.ref scr)) (hcd : CodeHd g0 51 49)
    (n1 : (cellsFrom (L0 + 1) sc.names []).lookup (Str.ofString "done") = some (L0 + 1)) (n2 : (cellsFrom (L0 + 1) sc.names []).lookup (Str.ofString "asked") = some (L0 + 1 + 1)) (n3 : (cellsFrom (L0 + 1) sc.names []).lookup (Str.ofString "opened") = some (L0 + 1 + 1 + 1))
    (n4 : (cellsFrom (L0 + 1) sc.names []).lookup (Str.ofString "own") = some (L0 + 1 + 1 + 1 + 1)) (n5 : (cellsFrom (L0 + 1) sc.names []).lookup (Str.ofString "ties") = some (L0 + 1 + 1 + 1 + 1 + 1))
    (k1 : cm (Str.ofString "done") = none) (k2 : cm (Str.ofString "asked") = none) (k3 : cm (Str.ofString "opened") = none) (k4 : cm (Str.ofString "own") = none) (k5 : cm (Str.ofString "ties") = none)
    (hQ : ∀ h' tk' m', Fr g0 L0 h' m' → GrownAt 49 h' → Q (.ret (.bool true)) { s with heap := h', toks := tk' })
    (h : ∀ (p : Program) (loose : List Str) (mean : ExcName → Option Value) (mg mb : Str → Option Value) (base g0 : Heap) (L0 fa : Addr) (s : Shared) (m : Str → Option Value) (scr : Addr) (vs : List Value) (ns : List Int) (news : List (Addr × Obj)) (led : Led),
      Ctx K p loose mean mg mb (callerA.deeper (envOfC nm sc L0 fa (.ref 51))) base g0 L0 (envOfC nm sc L0 fa (.ref 51)) → (callerA.deeper (envOfC nm sc L0 fa (.ref 51))).depth + 50 < recursionLimit → (callerA.deeper (envOfC nm sc L0 fa (.ref 51))).units + 500 < cLine →
      Fr g0 L0 s.heap m → News g0 L0 s.heap news → Cov prog w news led → g0.IsList scr vs.toArray → IntsAre vs ns → ns.length ≤ 63 → (∀ n ∈ ns, Builtin.Int.intBits n ≤ 2 ^ 20) → m (Str.ofString "script") = some (.ref scr) → CodeHd g0 51 49 →
      led 49 = some (28, .raw (tabObj #[])) → led (L0 + 1) = some (23, .cell none) → led (L0 + 1 + 1) = some (24, .cell none) → led (L0 + 1 + 1 + 1) = some (25, .cell none) → led (L0 + 1 + 1 + 1 + 1) = some (26, .cell none) → led (L0 + 1 + 1 + 1 + 1 + 1) = some (27, .cell none) →
      wpAny (model prog w) (callerA.deeper (envOfC nm sc L0 fa (.ref 51))) (execs body (envOfC nm sc L0 fa (.ref 51))) (fun fl s' => EndAt prog w g0 L0 s (fun _ led' => retv fl = .bool true ∧ ∃ ps, led' 49 = some (28, .raw (tabObj ps))) s') (fun _ _ => False) s) :
    wpAny (model prog w) (callerA.deeper (envOfC nm sc L0 fa (.ref 51))) (execs body (envOfC nm sc L0 fa (.ref 51))) Q E s := by
  have C0 := (Cov.nothing (prog := prog) (w := w) (news := [])).set (D := 49) (o := tabObj #[]) (28, .raw (tabObj #[])) rfl
  obtain ⟨ledC, C1, hold, hcell, hback⟩ := cells_led (fun n => if n == Str.ofString "done" then 23 else if n == Str.ofString "asked" then 24 else if n == Str.ofString "opened" then 25 else if n == Str.ofString "own" then 26 else 27) Y C0 (fun y hy => by
      have h2 := (cellsFrom_ok (n₀ := L0 + 1) _ (L0 + 1) [] (fun y hy => nomatch hy) .nil (Nat.le_refl _)).1 y hy
      have h3 : y.2 ≠ 49 := fun e => by
        rw [e] at h2
        exact Nat.lt_irrefl _ (Nat.lt_of_lt_of_le (Nat.lt_succ_of_lt l0) h2)
      exact upd_ne h3) (cellsFrom_ok (n₀ := L0 + 1) _ (L0 + 1) [] (fun y hy => nomatch hy) .nil (Nat.le_refl _)).2
  have c1 := hcell _ _ n1
  have c2 := hcell _ _ n2
  have c3 := hcell _ _ n3
  have c4 := hcell _ _ n4
  have c5 := hcell _ _ n5
  rw [k1] at c1
  rw [k2] at c2
  rw [k3] at c3
  rw [k4] at c4
  rw [k5] at c5
  refine law_top F hQ (h p loose mean mg mb base g0 L0 fa s m scr vs ns _ ledC ⟨rfl, ⟨_, _, B, rfl⟩, rfl, rfl, hk, X, T⟩ ?_ ?_ F N C1 hsc hI ?_ (fun n hn => PyData.bits_item_of_ints hlay hn) hm hcd (hold 49 _ upd_same) c1 c2 c3 c4 c5)
  · show callerA.depth + 1 + 50 < _
    decide
  · show callerA.units + 3 + 500 < _
    decide +kernel
  · omega
def KI (G : Gr) (order : List Int) (aX kA : Addr) (led : Led) (i : Nat) (m : Str → Option Value) (led' : Led) : Prop :=
  m (Str.ofString "order") = some (.ref aX) ∧ m (Str.ofString "keep") = some (.ref kA) ∧ KeepA 50 led led' ∧ ∃ keepA, led' kA = some (15, .drefs (order.take i) keepA) ∧ ∀ v ∈ order.take i, led' (keepA v) = some (16, .ints (G.ties v))
/-- what stands through the law's loops -/
structure LB (L0 tA oA aX kA : Addr) (tieA ownA keepA : Int → Addr) (G : Gr) (order : List Int) (led : Led) : Prop where
  hT : led tA = some (10, .drefs G.pts tieA)
  hO : led oA = some (12, .drefs G.pts ownA)
  hties : ∀ v ∈ G.pts, led (tieA v) = some (11, .ints (G.ties v))
  hown : ∀ v ∈ G.pts, led (ownA v) = some (13, .strs (G.own v))
  hX : led aX = some (14, .ints order)
  hk : led kA = some (15, .drefs order keepA)
  hkl : ∀ v ∈ order, led (keepA v) = some (16, .ints (G.ties v))
  c4 : led (L0 + 1 + 1 + 1 + 1) = some (26, .cell (some (.ref oA)))
  c5 : led (L0 + 1 + 1 + 1 + 1 + 1) = some (27, .cell (some (.ref tA)))
def baseTag (t : Nat) : Bool := (10 ≤ t && t ≤ 16) || t == 26 || t == 27
theorem LB.mono {L0 tA oA aX kA : Addr} {tieA ownA keepA : Int → Addr} {G : Gr} {order : List Int} {led led' : Led} (b : LB L0 tA oA aX kA tieA ownA keepA G order led)
    (h : ∀ a (t : Nat) x, led a = some (t, x) → baseTag t = true → led' a = some (t, x)) : LB L0 tA oA aX kA tieA ownA keepA G order led' :=
  ⟨h _ _ _ b.hT rfl, h _ _ _ b.hO rfl, fun v hv => h _ _ _ (b.hties v hv) rfl, fun v hv => h _ _ _ (b.hown v hv) rfl, h _ _ _ b.hX rfl, h _ _ _ b.hk rfl, fun v hv => h _ _ _ (b.hkl v hv) rfl, h _ _ _ b.c4 rfl, h _ _ _ b.c5 rfl⟩
theorem baseTag_ne {t : Nat} (h : baseTag t = true) (u : Nat) (hu : baseTag u = false) : t ≠ u := fun e => by rw [e, hu] at h; cases h
local macro_rules | `(tactic| walk_at "nmF") => `(tactic| ((with_reducible show wpAny _ _ (eval (Expr.Name _ _) (envX _ _ _ _ _ _)) _ _ _); first
  | (refine nameL_F (by k_asm) (by k_asm) rfl (by assumption) ?_)
  | (refine nameX_L (by k_asm) (by first | exact rfl | assumption) ?_)))
local macro_rules | `(tactic| walk_at "goF") => `(tactic| repeat' ((fail_if_success (walk_at "halt")); first | walk_at "sub" | walk_at "nmF" | (k_unfold; (try dsimp only)) | walk1 | (dsimp only; walk1)))
def keepTag (t : Nat) : Bool := 10 ≤ t && t < 28 && t != 23
/-- what no turn of the law's loops changes -/
def cstOf (led : Led) : Led := fun a => match led a with
  | some x => if keepTag x.1 = true then some x else none
  | none => none
theorem cstOf_some {led : Led} {a : Addr} {t : Nat} {x : AO} (e : led a = some (t, x)) (h : keepTag t = true) : cstOf led a = some (t, x) := by
  unfold cstOf; rw [e]; exact if_pos h
theorem of_cstOf {led : Led} {a : Addr} {y : Nat × AO} (e : cstOf led a = some y) : led a = some y ∧ keepTag y.1 = true := by
  unfold cstOf at e
  split at e
  · rename_i z hz
    split at e
    · rename_i hl; cases e; exact ⟨hz, hl⟩
    · cases e
  · cases e
theorem keepTag_le {t : Nat} (h : keepTag t = true) : 10 ≤ t ∧ t < 28 ∧ t ≠ 23 := by
  unfold keepTag at h
  simpa [Bool.and_eq_true, and_assoc] using h
theorem keepTag_base {t : Nat} (h : baseTag t = true) : keepTag t = true := by
  unfold baseTag at h
  unfold keepTag
  simp only [Bool.or_eq_true, Bool.and_eq_true, decide_eq_true_eq, beq_iff_eq, bne_iff_ne] at h ⊢
  omega
def NM (aX kA f1 f2 sA fA : Addr) (m : Str → Option Value) : Prop :=
  m (Str.ofString "order") = some (.ref aX) ∧ m (Str.ofString "keep") = some (.ref kA) ∧ m (Str.ofString "marks_of") = some (.ref f1) ∧ m (Str.ofString "ties_of") = some (.ref f2) ∧ m (Str.ofString "seen") = some (.ref sA) ∧ m (Str.ofString "tops") = some (.ref fA)
def SI (aX kA f1 f2 sA fA : Addr) (order : List Int) (led : Led) (i : Nat) (m : Str → Option Value) (led' : Led) : Prop :=
  NM aX kA f1 f2 sA fA m ∧ KeepA 50 led led' ∧ led' sA = some (2, .dints (order.take i) (fun _ => 0)) ∧ led' fA = some (3, .drefs [] (fun _ => 0))
/-- what stands between the turns of the law's first great loop -/
def MI (L0 aX kA f1 f2 sA fA stA : Addr) (cst : Led) (ad : Ad) (G : Gr) (order : List Int) (i : Nat) (m : Str → Option Value) (led' : Led) : Prop :=
  NM aX kA f1 f2 sA fA m ∧ m (Str.ofString "stack") = some (.ref stA) ∧ SubL cst led' ∧ (∃ ps, led' 49 = some (28, .raw (tabObj ps))) ∧ ∃ σ dn dA, Inv G σ ∧ σ.stk = [] ∧ TIn ad led' σ ∧ led' (L0 + 1) = some (23, .cell (some (.ref dA))) ∧ led' dA = some (33, .ints dn) ∧
    (∀ v, v ∈ dn ↔ v ∈ σ.fk) ∧ dn.Nodup ∧ ∀ x ∈ order.take i, x ∈ σ.fk
theorem SubL.mono {cst l l' : Led} (S : SubL cst l) (h : ∀ a x, l a = some x → l' a = some x) : SubL cst l' := fun a x e => h a x (S a x e)
def JI (aX kA f1 f2 sA fA stA : Addr) (led : Led) (_i : Nat) (m : Str → Option Value) (led' : Led) : Prop :=
  NM aX kA f1 f2 sA fA m ∧ m (Str.ofString "stack") = some (.ref stA) ∧ KeepA 51 led led'
def PI (aX kA fA fT : Addr) (led : Led) (_i : Nat) (m : Str → Option Value) (led' : Led) : Prop :=
  m (Str.ofString "order") = some (.ref aX) ∧ m (Str.ofString "keep") = some (.ref kA) ∧ m (Str.ofString "tops") = some (.ref fA) ∧ m (Str.ofString "told") = some (.ref fT) ∧ KeepA 50 led led'
def QI (aX kA fA fT : Addr) (x : Int) (tx : Tok) (led : Led) (_i : Nat) (m : Str → Option Value) (led' : Led) : Prop :=
  m (Str.ofString "order") = some (.ref aX) ∧ m (Str.ofString "keep") = some (.ref kA) ∧ m (Str.ofString "tops") = some (.ref fA) ∧ m (Str.ofString "told") = some (.ref fT) ∧ m (Str.ofString "one") = some (.int x tx) ∧ KeepA 51 led led'
set_option maxHeartbeats 40000000 in
theorem law_start : ∀ P : Prop, (PySem.Challenge.rw_bc6012_01.Holds → P) → P := by
  intro P0 hP0
  refine hP0 (Mine.hd ?_)
  clear hP0 P0
  k_go0
  all_goals (try k_fold)
  rename (Fr _ _ _ _) => F0
  rename (News _ _ _ _) => N0
  rename (CellsAre _ _ _) => Y0
  rename (Frag.In _ _) => X0
  rename (Top _ _ _ _ _ _) => T0
  rename (Below _ _ _ _) => K0
  rename (IntsAre _ _) => hI
  rename (PyData.layable0 (PyData.list (List.map PyData.int _)) = true) => hlay
  rename (¬ _ < _) => hlen
  rename (Shared.gens _ = #[]) => hgens
  rename (49 < _) => l0
  rename World => w
  rename (Heap.IsList (ghostOf _ _) _ _) => hscr
  rename (CodeHd _ _ _) => hcodeHd
  refine law_base X0 T0 K0 (by rfl) F0 N0 Y0 l0 hscr hI hlay hlen (by rfl) hcodeHd (by rfl) (by rfl) (by rfl) (by rfl) (by rfl) (by rfl) (by rfl) (by rfl) (by rfl) (by rfl) (fun h' tk' m' F' hg => ?_) ?_
  · dsimp only
    refine ⟨⟨.inl ⟨.bool true, .bool true, [], rfl, fun _ => rfl, .bool true, ?_, fun _ => ⟨.nil, fun a h => nomatch h⟩⟩, fun b o e => F'.keep b o e, rfl, hgens⟩, hg, trivial⟩
    exact post_true _
  dsimp only
  rename_i z1 z2 z3 z4 z5 z6 z7 z8 z9 z10 z11 z12 z13 z14 z15 z16 z17 z18 z19 z20 z21 z22 z23 z24 z25 z26 z27 z28 z29 z30 z31 z32 z33 z34 z35 z36 z37 z38 z39 z40 z41 z42 z43 z44 z45 z46 z47
  clear z1 z2 z3 z4 z5 z6 z7 z8 z9 z10 z11 z12 z13 z14 z15 z16 z17 z18 z19 z20 z21 z22 z23 z24 z25 z26 z27 z28 z29 z30 z31 z32 z33 z34 z35 z36 z37 z38 z39 z40 z41 z42 z43 z44 z45 z46 z47 F0 N0 Y0 X0 T0 K0 hI hlay hlen hgens l0 hscr hcodeHd hT8 hT9
  intro p loose mean mg mb base g0 L0 fa s m scr vs ns news led cx hdep hun F N C hsc hI hlen hbits hm hcd h49 c1 c2 c3 c4 c5
  have X := cx.X
  have T := cx.T
  have hh := cx.hh
  revert X; k_fill; intro X
  walk_at "goD"
  refine ⟨Frag.In.keeps cx.X (Fr.keep (by k_asm)), ?_⟩
  refine draw_c _ _ _ _ _ _ _ _ _ _ scr vs ns _ cx (by k_asm) (by k_asm) (by k_asm) hsc hI hlen hbits 50 (Nat.le_refl _) (by omega) (by omega) ?_
  intro tup tA oA aX tieA ownA G order led₁ h₁ tk₁ news₁ ok hso hties3 hond hop htup hT hO hlists hX K₁ F₁ N₁ C₁
  try dsimp only
  have c1 := K₁ _ _ c1 (by decide)
  have c2 := K₁ _ _ c2 (by decide)
  have c3 := K₁ _ _ c3 (by decide)
  have c4 := K₁ _ _ c4 (by decide)
  have c5 := K₁ _ _ c5 (by decide)
  have h49 := K₁ _ _ h49 (by decide)
  clear C N F hsc hI hbits hm
  walk_at "goD"
  obtain ⟨oT, hmT, rfl⟩ := C₁ _ _ htup
  refine unpackN_ F₁ N₁ (News.isTup N₁ hmT) hh rfl rfl fun h₂ F₂ N₂ => ?_
  clear F₁ N₁ hmT
  walk_at "goD"
  rename (Cov _ _ _ (upd (upd led₁ _ _) _ _)) => C₃
  rename (Fr _ _ _ _) => F₃
  rename (News _ _ _ _) => N₃
  obtain ⟨led₂, C₂, hT, hO, hlists, hX, c1, c2, c3, c4, c5, h49⟩ : ∃ led₂, Cov PySem.Challenge.rw_bc6012_01.row.prog w _ led₂ ∧ led₂ tA = some (10, .drefs G.pts tieA) ∧ led₂ oA = some (12, .drefs G.pts ownA) ∧ (∀ v ∈ G.pts, led₂ (tieA v) = some (11, .ints (G.ties v)) ∧ led₂ (ownA v) = some (13, .strs (G.own v))) ∧
      led₂ aX = some (14, .ints order) ∧ led₂ (L0 + 1) = some (23, .cell none) ∧ led₂ (L0 + 1 + 1) = some (24, .cell none) ∧ led₂ (L0 + 1 + 1 + 1) = some (25, .cell none) ∧ led₂ (L0 + 1 + 1 + 1 + 1) = some (26, .cell (some (.ref oA))) ∧ led₂ (L0 + 1 + 1 + 1 + 1 + 1) = some (27, .cell (some (.ref tA))) ∧ led₂ 49 = some (28, .raw (tabObj #[])) := by
    have c4' := look (z := (27, .cell (some (.ref tA)))) c4 c5 (by decide)
    have kp : ∀ a (t : Nat) x, led₁ a = some (t, x) → t ≠ 26 → t ≠ 27 → upd (upd led₁ (L0 + 1 + 1 + 1 + 1 + 1) (27, .cell (some (.ref tA)))) (L0 + 1 + 1 + 1 + 1) (26, .cell (some (.ref oA))) a = some (t, x) := fun a t x e h1 h2 => look (look e c5 h2) c4' h1
    exact ⟨_, C₃, kp _ _ _ hT (by decide) (by decide), kp _ _ _ hO (by decide) (by decide), fun v hv => ⟨kp _ _ _ (hlists v hv).1 (by decide) (by decide), kp _ _ _ (hlists v hv).2 (by decide) (by decide)⟩, kp _ _ _ hX (by decide) (by decide),
      kp _ _ _ c1 (by decide) (by decide), kp _ _ _ c2 (by decide) (by decide), kp _ _ _ c3 (by decide) (by decide), upd_same, look upd_same c4' (by decide), kp _ _ _ h49 (by decide) (by decide)⟩
  clear C₃ C₁ K₁ htup
  have hsl := sizeLine_eq
  have holen : order.length ≤ 8 := Nat.le_trans (nodup_le hond fun a h => (hop a).mp h) ok.few
  refine new_dictR 15 (fun _ => 0) F₃ N₃ C₂ T.nolimit ?_
  intro kA h₄ news₄ F₄ N₄ C₄ hK _
  try dsimp only
  have hX' := look_new (z := (15, .drefs [] (fun _ => 0))) hX hK
  walk_at "goD"
  refine For_ints (h₀ := g0) 50 hh rfl rfl ?_
  walk_at "goD"
  refine ⟨aX, _, _, _, 14, order, _, _, KI G order aX kA led₂, rfl, rfl, by k_asm, by k_asm, C₄, hX', by decide, ⟨rfl, rfl, KeepA.refl.new hK, fun _ => 0, upd_same, by simp⟩, ?_, ?_, ?_, ?_, ?_⟩
  · exact fun i m l h => h.2.2.1.at hX (by decide)
  · exact fun i m l l' ⟨a1, a2, a3, kp, a4, a5⟩ hm => ⟨a1, a2, a3.mono hm, kp, hm _ _ a4, fun v hv => hm _ _ (a5 v hv)⟩
  · exact fun i m l ⟨a1, a2, a3, kp, a4, a5⟩ => ⟨a1, a2, a3.cut (Nat.le_refl _), kp, cut_at a4 (by decide), fun v hv => cut_at (a5 v hv) (by decide)⟩
  · -- one point's ties are kept
    rintro i x tx m₅ led₅ news₅ h₅ tk₅ IT ito E₅ hxi hil ⟨n1, n2, K₅, keepA, hk₅, hkl⟩ hIT htg F₅ N₅ C₅
    try dsimp only
    have hxp : x ∈ G.pts := (hop x).mp (List.mem_of_getElem? hxi)
    have hxn := take_new hond hxi
    have etake := take_next hxi
    have c5 := K₅.at c5 (by decide)
    have hT := K₅.at hT (by decide)
    have hti := K₅.at (hlists x hxp).1 (by decide)
    have hlen3 := hties3 x hxp
    clear C₄ C₂ hX'
    walk_at "goD"
    refine copy_ints 16 (by k_asm) (by k_asm) (by k_asm) hti (by omega) ?_
    intro D h₆ news₆ F₆ N₆ C₆ hD _
    try dsimp only
    have hk' := look_new (z := (16, .ints (G.ties x))) hk₅ hD
    have htl : (order.take i).length ≤ sizeLine := by rw [List.length_take]; omega
    walk_at "goD"
    rename (Cov _ _ _ (upd (upd led₅ _ _) _ _)) => C₇
    rename (Fr _ _ _ _) => F₇
    rename (News _ _ _ _) => N₇
    have hkn : ∀ y, led₂ kA = some y → (50 : Nat) ≤ y.1 := fun y e => by rw [hK] at e; cases e
    refine EndAt.intro F₇ N₇ C₇ ⟨look (look_new hIT hD) hk' (by decide), n1, n2, (K₅.trans (KeepA.refl.new hD)).new hK, fset keepA x D, ?_, fun v hv => ?_⟩
    · rw [etake]; exact upd_same
    · rw [etake] at hv
      rcases List.mem_append.mp hv with q | q
      · have hvx : v ≠ x := fun e => hxn (e ▸ q)
        rw [fset_ne hvx]
        exact look (look_new (hkl v q) hD) hk' (by decide)
      · rw [List.mem_singleton] at q
        subst q
        rw [fset_same]
        exact look upd_same hk' (by decide)
  · -- all ties are kept
    rintro h₅ tk₅ m₅ led₅ news₅ F₅ N₅ C₅ htg₅ ⟨n1, n2, K₅, keepA, hk₅, hkl⟩
    rw [List.take_length] at hk₅ hkl
    replace hT := K₅.at hT (by decide)
    replace hO := K₅.at hO (by decide)
    have hties := fun v hv => K₅.at (hlists v hv).1 (by decide)
    have hown := fun v hv => K₅.at (hlists v hv).2 (by decide)
    replace hX := K₅.at hX (by decide)
    replace c1 := K₅.at c1 (by decide)
    replace c2 := K₅.at c2 (by decide)
    replace c3 := K₅.at c3 (by decide)
    replace c4 := K₅.at c4 (by decide)
    replace c5 := K₅.at c5 (by decide)
    replace h49 := K₅.at h49 (by decide)
    clear C₄ C₂ hX' hlists K₅
    try dsimp only
    walk_at "goD"
    have X := cx.X
    revert X; k_fill; intro X
    have b : LB L0 tA oA aX kA tieA ownA keepA G order led₅ := ⟨hT, hO, hties, hown, hX, hk₅, hkl, c4, c5⟩
    clear hT hO hties hown hX hk₅ hkl c4 c5 X
    refine new_ints 4 (by k_asm) (by k_asm) (by walk_at "cov") .nil (by walk_at "small") ?_
    intro aA h₆ news₆ F₆ N₆ C₆ hA _ _
    try dsimp only
    walk1
    rename (Cov _ _ _ (upd (upd led₅ _ _) _ _)) => C₇
    rename (Fr _ _ _ _) => F₇
    rename (News _ _ _ _) => N₇
    obtain ⟨led₇, C₇, b, c1, c2, c3, h49, hAl⟩ : ∃ led₇, Cov PySem.Challenge.rw_bc6012_01.row.prog w _ led₇ ∧ LB L0 tA oA aX kA tieA ownA keepA G order led₇ ∧ led₇ (L0 + 1) = some (23, .cell none) ∧ led₇ (L0 + 1 + 1) = some (24, .cell (some (.ref aA))) ∧ led₇ (L0 + 1 + 1 + 1) = some (25, .cell none) ∧
        led₇ 49 = some (28, .raw (tabObj #[])) ∧ led₇ aA = some (4, .ints []) := by
      have c2' := look_new (z := (4, .ints [])) c2 hA
      exact ⟨_, C₇, b.mono fun a t x e ht => look (look_new e hA) c2' (baseTag_ne ht _ rfl), look (look_new c1 hA) c2' (by decide), upd_same, look (look_new c3 hA) c2' (by decide), look (look_new h49 hA) c2' (by decide), look upd_same c2' (by decide)⟩
    clear C₆ C₅
    walk_at "goD"
    refine new_ints 5 (by k_asm) (by k_asm) (by walk_at "cov") .nil (by walk_at "small") ?_
    intro aO h₈ news₈ F₈ N₈ C₈ hA _ _
    try dsimp only
    walk1
    rename (Cov _ _ _ (upd (upd led₇ _ _) _ _)) => C₉
    rename (Fr _ _ _ _) => F₉
    rename (News _ _ _ _) => N₉
    obtain ⟨led₉, C₉, b, c1, c2, c3, h49, hAl, hOl⟩ : ∃ led₉, Cov PySem.Challenge.rw_bc6012_01.row.prog w _ led₉ ∧ LB L0 tA oA aX kA tieA ownA keepA G order led₉ ∧ led₉ (L0 + 1) = some (23, .cell none) ∧ led₉ (L0 + 1 + 1) = some (24, .cell (some (.ref aA))) ∧ led₉ (L0 + 1 + 1 + 1) = some (25, .cell (some (.ref aO))) ∧
        led₉ 49 = some (28, .raw (tabObj #[])) ∧ led₉ aA = some (4, .ints []) ∧ led₉ aO = some (5, .ints []) := by
      have c3' := look_new (z := (5, .ints [])) c3 hA
      exact ⟨_, C₉, b.mono fun a t x e ht => look (look_new e hA) c3' (baseTag_ne ht _ rfl), look (look_new c1 hA) c3' (by decide), look (look_new c2 hA) c3' (by decide), upd_same, look (look_new h49 hA) c3' (by decide), look (look_new hAl hA) c3' (by decide), look upd_same c3' (by decide)⟩
    clear C₈ C₇
    walk_at "goD"
    refine nestDef_K rfl rfl rfl ?_
    refine def_led 21 20 F₉ N₉ C₉ cx.T hcd rfl h49 trivial rfl rfl ?_
    intro f1 cd1 oc1 vs1 t1 ct1 dc1 pm1 h₁₀ tk₁₀ news₁₀ F₁₀ N₁₀ C₁₀ d1 d2 hn1 hn2 hn3
    try dsimp only
    walk1
    generalize e₁₁ : upd (upd (upd led₉ 49 _) cd1 _) f1 _ = led₁₁ at C₁₀
    have kp := def_keep e₁₁ h49 hn1 hn2
    have h49' := def_P e₁₁ h49 hn1 hn2
    have hcd1 := def_c e₁₁ hn3
    have hf1 := def_f e₁₁
    clear e₁₁
    replace b := b.mono fun a t x e ht => kp a t x e (baseTag_ne ht _ rfl)
    replace c1 := kp _ _ _ c1 (by decide)
    replace c2 := kp _ _ _ c2 (by decide)
    replace c3 := kp _ _ _ c3 (by decide)
    replace hAl := kp _ _ _ hAl (by decide)
    replace hOl := kp _ _ _ hOl (by decide)
    clear kp h49 hn1 hn2 hn3 C₉
    have h49 := h49'
    clear h49'
    rename (Fr _ _ _ _) => F₁₁
    rename (News _ _ _ _) => N₁₁
    refine wpAny_execs_cons ?_
    refine nestDef_K rfl rfl rfl ?_
    refine def_led 21 20 F₁₁ N₁₁ C₁₀ cx.T hcd rfl h49 (by kn_triples) (by kn_among) rfl ?_
    intro f2 cd2 oc2 vs2 t2 ct2 dc2 pm2 h₁₂ tk₁₂ news₁₂ F₁₂ N₁₂ C₁₂ d3 d4 hn1 hn2 hn3
    try dsimp only
    walk1
    generalize e₁₃ : upd (upd (upd led₁₁ 49 _) cd2 _) f2 _ = led₁₃ at C₁₂
    have kp := def_keep e₁₃ h49 hn1 hn2
    have h49' := def_P e₁₃ h49 hn1 hn2
    have hcd2 := def_c e₁₃ hn3
    have hf2 := def_f e₁₃
    clear e₁₃
    replace b := b.mono fun a t x e ht => kp a t x e (baseTag_ne ht _ rfl)
    replace c1 := kp _ _ _ c1 (by decide)
    replace c2 := kp _ _ _ c2 (by decide)
    replace c3 := kp _ _ _ c3 (by decide)
    replace hAl := kp _ _ _ hAl (by decide)
    replace hOl := kp _ _ _ hOl (by decide)
    replace hcd1 := kp _ _ _ hcd1 (by decide)
    replace hf1 := kp _ _ _ hf1 (by decide)
    clear kp h49 hn1 hn2 hn3 C₁₀
    rename (Fr _ _ _ _) => F₁₃
    rename (News _ _ _ _) => N₁₃
    obtain ⟨ps, h49⟩ : ∃ ps, led₁₃ 49 = some (28, .raw (tabObj ps)) := ⟨_, h49'⟩
    clear h49'
    obtain ⟨cst, hcst, hsub, bc, hf1c, hf2c, hcd1c, hcd2c, c2c, c3c⟩ : ∃ cst, (∀ a y, cst a = some y → keepTag y.1 = true) ∧ SubL cst led₁₃ ∧ LB L0 tA oA aX kA tieA ownA keepA G order cst ∧ cst f1 = _ ∧ cst f2 = _ ∧ cst cd1 = _ ∧ cst cd2 = _ ∧ cst (L0 + 1 + 1) = some (24, .cell (some (.ref aA))) ∧ cst (L0 + 1 + 1 + 1) = some (25, .cell (some (.ref aO))) :=
      ⟨cstOf led₁₃, fun a y e => (of_cstOf e).2, fun a y e => (of_cstOf e).1, b.mono fun a t x e ht => cstOf_some e (keepTag_base ht), cstOf_some hf1 rfl, cstOf_some hf2 rfl, cstOf_some hcd1 rfl, cstOf_some hcd2 rfl, cstOf_some c2 rfl, cstOf_some c3 rfl⟩
    have hsl := sizeLine_eq
    have hR : RSpec w p loose mean mg mb cst { aS := 0, aN := 0, aF := 0, aA := aA, aO := aO, aX := aX, aR := f2, aP := f1, nk := order, a0 := [], o0 := [], tieA := tieA } G := by
      clear F₁₃ N₁₃ C₁₂ hf1c hcd1c hf1 hf2 hcd1 hcd2 c1 c2 c3 hAl hOl h49 b
      intro A base' h₀ L env E s' m' news' led' opn x t Q cx F N C hs hO hl hx hd hu hQ
      have hf := hs _ _ hf2c
      have hc := hs _ _ hcd2c
      have c3 := hs _ _ c3c
      have c5 := hs _ _ bc.c5
      have hT := hs _ _ bc.hT
      clear hf2c hcd2c c3c
      refine' enter_nest (fun v l => v = .ref (tieA x) ∧ l = upd led' aO (5, .ints (opn ++ [x]))) cx F N C hf hc d3 d4 ?hroom ?hbind ?hloc (fun g' L' h₁ cx' F' N' => ?_) ?hQ ?k2 ?k3 ?k4 ?k5
      case hroom => omega
      case hbind => exact BindsTo.of_eq rfl
      case hloc => exact locs rfl
      case k2 => exact rfl
      case k3 => exact rfl
      case k4 => exact rfl
      case k5 => decide
      case hQ =>
        rintro v l h' tk n' ⟨rfl, rfl⟩ F' N' C'
        exact hQ _ _ _ F' N' C'
      clear hQ
      have hO' : led' aO = some (5, .ints opn) := hO
      have X' := cx'.X
      have T' := cx'.T
      have hh' := cx'.hh
      try dsimp only
      try k_fold
      have c5 := look (z := (5, .ints (opn ++ [x]))) c5 hO' (by decide)
      have hT2 := look (z := (5, .ints (opn ++ [x]))) hT hO' (by decide)
      walk_at "goF"
      rename (Fr _ _ _ _) => F9
      rename (News _ _ _ _) => N9
      rename (Cov _ _ _ (upd led' _ _)) => C9
      exact EndAt.intro F9 N9 C9 ⟨rfl, rfl⟩
    have hP : PSpec w p loose mean mg mb cst { aS := 0, aN := 0, aF := 0, aA := aA, aO := aO, aX := aX, aR := f2, aP := f1, nk := order, a0 := [], o0 := [], tieA := tieA } G := by
      clear F₁₃ N₁₃ C₁₂ hf2c hcd2c hf1 hf2 hcd1 hcd2 c1 c2 c3 hAl hOl h49 b hR
      intro A base' h₀ L env E s' m' news' led' ask x t Q cx F N C hs hA hl hx hd hu hQ
      have hf := hs _ _ hf1c
      have hc := hs _ _ hcd1c
      have c2 := hs _ _ c2c
      have c4 := hs _ _ bc.c4
      have hO := hs _ _ bc.hO
      have hox := hs _ _ (bc.hown x hx)
      have hol : (G.own x).length ≤ sizeLine := by
        have h1 := nodup_le (ok.own x hx) (ok.ofMarks x hx)
        have h2 := ok.fewMarks
        omega
      clear hf1c hcd1c c2c
      refine' enter_nest (fun v l => ∃ D, v = .ref D ∧ l = upd (upd led' aA (4, .ints (ask ++ [x]))) D (6, .strs (G.own x)) ∧ upd led' aA (4, .ints (ask ++ [x])) D = none) cx F N C hf hc d1 d2 ?hroom ?hbind ?hloc (fun g' L' h₁ cx' F' N' => ?_) ?hQ ?k2 ?k3 ?k4 ?k5
      case hroom => omega
      case hbind => exact BindsTo.of_eq rfl
      case hloc => exact locs rfl
      case k2 => exact rfl
      case k3 => exact rfl
      case k4 => exact rfl
      case k5 => decide
      case hQ =>
        rintro v l h' tk n' ⟨D, rfl, rfl, hD⟩ F' N' C'
        exact hQ D _ _ _ F' N' C' hD
      clear hQ
      have hA' : led' aA = some (4, .ints ask) := hA
      have X' := cx'.X
      have T' := cx'.T
      have hh' := cx'.hh
      try dsimp only
      try k_fold
      have c4 := look (z := (4, .ints (ask ++ [x]))) c4 hA' (by decide)
      have hO2 := look (z := (4, .ints (ask ++ [x]))) hO hA' (by decide)
      have hox := look (z := (4, .ints (ask ++ [x]))) hox hA' (by decide)
      walk_at "goF"
      refine copy_strs 6 (by k_asm) (by k_asm) (by k_asm) hox hol ?_
      intro D h₇ news₇ F₇ N₇ C₇ hD _
      try dsimp only
      walk_at "goF"
      rename (Fr _ _ _ _) => F9
      rename (News _ _ _ _) => N9
      exact EndAt.intro F9 N9 C₇ ⟨D, rfl, rfl, hD⟩
    obtain ⟨oR, fR, hRo, hRd⟩ : ∃ oR fR, cst f2 = some (20, .raw oR) ∧ oR.data = .func fR := ⟨_, _, hf2c, rfl⟩
    obtain ⟨oP, fP, hPo, hPd⟩ : ∃ oP fP, cst f1 = some (20, .raw oP) ∧ oP.data = .func fP := ⟨_, _, hf1c, rfl⟩
    clear hf1 hf2 hcd1 hcd2 hf1c hf2c hcd1c hcd2c d1 d2 d3 d4 hties3 hcd hlen htg₅
    have c1' := c1
    have hAl' := hAl
    have hOl' := hOl
    have h49' := h49
    repeat clear c1
    repeat clear hAl
    repeat clear hOl
    repeat clear h49
    repeat clear c2
    repeat clear c3
    repeat clear b
    repeat clear hA
    clear C₇ C₉
    have X := cx.X
    revert X; k_fill; intro X
    clear X
    have c1 := c1'
    have hAl := hAl'
    have hOl := hOl'
    have h49 := h49'
    clear c1' hAl' hOl' h49'
    walk_at "goD"
    refine new_dictI 2 (fun _ => 0) (by k_asm) (by k_asm) (by k_asm) T.nolimit ?_
    intro sA h₁₄ news₁₄ F₁₄ N₁₄ C₁₄ hS _
    try dsimp only
    walk_at "goD"
    refine new_dictR 3 (fun _ => 0) (by k_asm) (by k_asm) (by k_asm) T.nolimit ?_
    intro fA h₁₅ news₁₅ F₁₅ N₁₅ C₁₅ hF _
    try dsimp only
    walk_at "goD"
    have hFn : ∀ x, led₁₃ fA = some x → (50 : Nat) ≤ x.1 := fun x e => by cases hF.symm.trans (look_new e hS)
    have hX := hsub _ _ bc.hX
    refine For_ints (h₀ := g0) 50 hh rfl rfl ?_
    walk_at "goD"
    rename (Fr _ _ _ _) => FX
    rename (News _ _ _ _) => NX
    refine ⟨aX, _, _, _, 14, order, _, _, SI aX kA f1 f2 sA fA order led₁₃, rfl, rfl, FX, NX, C₁₅, look_new (look_new hX hS) hF, by decide, ⟨⟨n1, n2, rfl, rfl, rfl, rfl⟩, (KeepA.refl.new hS).new' hFn, look_new upd_same hF, upd_same⟩, ?_, ?_, ?_, ?_, ?_⟩
    · exact fun i m l h => h.2.1.at hX (by decide)
    · exact fun i m l l' ⟨a1, a2, a3, a4⟩ hm => ⟨a1, a2.mono hm, hm _ _ a3, hm _ _ a4⟩
    · exact fun i m l ⟨a1, a2, a3, a4⟩ => ⟨a1, a2.cut (Nat.le_refl _), cut_at a3 (by decide), cut_at a4 (by decide)⟩
    · -- one point is not seen yet
      rintro i x tx m₁₆ led₁₆ news₁₆ h₁₆ tk₁₆ IT ito E₁₆ hxi hil ⟨⟨q1, q2, q3, q4, q5, q6⟩, K, hs, hf⟩ hIT htg F₁₆ N₁₆ C₁₆
      try dsimp only
      have hxn := take_new hond hxi
      have etake := take_next hxi
      have htl : (order.take i).length ≤ sizeLine := by rw [List.length_take]; omega
      clear C₁₅ C₁₄ C₁₂
      walk_at "goD"
      rename (Cov _ _ _ (upd led₁₆ _ _)) => C9
      rename (Fr _ _ _ _) => F9
      rename (News _ _ _ _) => N9
      refine EndAt.intro F9 N9 C9 ⟨look hIT hs (by decide), ⟨q1, q2, q3, q4, q5, q6⟩, K.new hS, ?_, look hf hs (by decide)⟩
      rw [etake, upd_same]
      have : fset (fun _ => (0 : Int)) x 0 = fun _ => 0 := by funext z; unfold fset; split <;> rfl
      rw [this]
    · -- none is seen
      rintro h₁₆ tk₁₆ m₁₆ led₁₆ news₁₆ F₁₆ N₁₆ C₁₆ htg ⟨⟨q1, q2, q3, q4, q5, q6⟩, K, hs, hf⟩
      try dsimp only
      rw [List.take_length] at hs
      replace c1 := K.at c1 (by decide)
      replace hAl := K.at hAl (by decide)
      replace hOl := K.at hOl (by decide)
      replace h49 := K.at h49 (by decide)
      have hsub' : SubL cst led₁₆ := fun a x e => K a x (hsub a x e) (by have := keepTag_le (hcst a x e); omega)
      clear hsub C₁₅ C₁₄ C₁₂ hX htg K hS hF hFn
      walk_at "goD"
      refine new_ints 1 (by k_asm) (by k_asm) (by k_asm) .nil (by walk_at "small") ?_
      intro stA h₁₇ news₁₇ F₁₇ N₁₇ C₁₇ hSt _ _
      try dsimp only
      walk_at "goD"
      refine new_ints 33 (by k_asm) (by k_asm) (by k_asm) .nil (by walk_at "small") ?_
      intro dA h₁₈ news₁₈ F₁₈ N₁₈ C₁₈ hD _ _
      try dsimp only
      walk1
      rename (Cov _ _ _ (upd (upd _ _ _) _ _)) => C₁₉
      rename (Fr _ _ _ _) => F₁₉
      rename (News _ _ _ _) => N₁₉
      have c1x := look_new (z := (33, .ints [])) (look_new (z := (1, .ints [])) c1 hSt) hD
      have up : ∀ a (t : Nat) x, led₁₆ a = some (t, x) → t ≠ 23 → upd (upd (upd led₁₆ stA (1, .ints [])) dA (33, .ints [])) (L0 + 1) (23, .cell (some (.ref dA))) a = some (t, x) := fun a t x e ht => look (look_new (look_new e hSt) hD) c1x ht
      have hsub3 : SubL cst (upd (upd (upd led₁₆ stA (1, .ints [])) dA (33, .ints [])) (L0 + 1) (23, .cell (some (.ref dA)))) := fun a x e => up a x.1 x.2 (hsub' a x e) (keepTag_le (hcst a x e)).2.2
      have TI : TIn { aS := stA, aN := sA, aF := fA, aA := aA, aO := aO, aX := aX, aR := f2, aP := f1, nk := order, a0 := [], o0 := [], tieA := tieA } (upd (upd (upd led₁₆ stA (1, .ints [])) dA (33, .ints [])) (L0 + 1) (23, .cell (some (.ref dA)))) emptyS :=
        ⟨look (look_new upd_same hD) c1x (by decide), up _ _ _ hs (by decide), up _ _ _ hf (by decide), up _ _ _ hAl (by decide), up _ _ _ hOl (by decide), fun _ h => nomatch h⟩
      have MI0 : MI L0 aX kA f1 f2 sA fA stA cst { aS := stA, aN := sA, aF := fA, aA := aA, aO := aO, aX := aX, aR := f2, aP := f1, nk := order, a0 := [], o0 := [], tieA := tieA } G order 0 (fun y => if y = Str.ofString "stack" then some (Value.ref stA) else m₁₆ y) (upd (upd (upd led₁₆ stA (1, .ints [])) dA (33, .ints [])) (L0 + 1) (23, .cell (some (.ref dA)))) :=
        ⟨⟨q1, q2, q3, q4, q5, q6⟩, rfl, hsub3, ⟨_, up _ _ _ h49 (by decide)⟩, emptyS, [], dA, emptyS_inv, rfl, TI, upd_same, look upd_same c1x (by decide), fun v => Iff.rfl, .nil, by simp⟩
      have hXc := bc.hX
      clear C₁₆ C₁₇ C₁₈ up c1x hsub' TI hSt hD hs hf n1 n2
      repeat clear c1
      repeat clear hAl
      repeat clear hOl
      repeat clear h49
      walk_at "goD"
      refine For_ints (h₀ := g0) 50 hh rfl rfl ?_
      walk_at "goD"
      refine ⟨aX, _, _, _, 14, order, _, _, MI L0 aX kA f1 f2 sA fA stA cst { aS := stA, aN := sA, aF := fA, aA := aA, aO := aO, aX := aX, aR := f2, aP := f1, nk := order, a0 := [], o0 := [], tieA := tieA } G order, rfl, rfl, F₁₉, N₁₉, C₁₉, hsub3 _ _ hXc, by decide, MI0, ?_, ?_, ?_, ?_, ?_⟩
      · exact fun i m l h => h.2.2.1 _ _ hXc
      · exact fun i m l l' ⟨a1, a2, a3, ⟨ps, a4⟩, σ, dn, d, a5, a6, a7, a8, a9, a10⟩ hm => ⟨a1, a2, a3.mono hm, ⟨ps, hm _ _ a4⟩, σ, dn, d, a5, a6, a7.mono hm, hm _ _ a8, hm _ _ a9, a10⟩
      · exact fun i m l ⟨a1, a2, a3, ⟨ps, a4⟩, σ, dn, d, a5, a6, a7, a8, a9, a10⟩ => ⟨a1, a2, fun a x e => cut_some (a3 a x e) (by have := keepTag_le (hcst a x e); omega), ⟨ps, cut_at a4 (by decide)⟩, σ, dn, d, a5, a6, a7.cut (Nat.le_refl _), cut_at a8 (by decide), cut_at a9 (by decide), a10⟩
      · -- one point
        clear q1 q2 q3 q4 q5 q6 MI0 hsub3 C₁₉
        rintro i x tx m₂₀ led₂₀ news₂₀ h₂₀ tk₂₀ IT ito E₂₀ hxi hil ⟨⟨q1, q2, q3, q4, q5, q6⟩, q7, hs₂₀, ⟨ps₂₀, h49⟩, σ, dn, dA', I, hstk, TI, hdc, hdl, hdm, hdd, hall⟩ hIT htg F₂₀ N₂₀ C₂₀
        try dsimp only
        have X := cx.X
        revert X; k_fill; intro X
        clear X
        have hxp : x ∈ G.pts := (hop x).mp (List.mem_of_getElem? hxi)
        have hxo : x ∈ order := List.mem_of_getElem? hxi
        have etake := take_next hxi
        have wN : led₂₀ sA = some (2, .dints order σ.num) := TI.N
        by_cases hxf : x ∈ σ.fk
        · have hz := I.num_ne hxf
          walk1
          walk1
          walk_at "goD"
          refine EndAt.intro F₂₀ N₂₀ C₂₀ ⟨hIT, ⟨q1, q2, q3, q4, q5, q6⟩, q7, hs₂₀, ⟨_, h49⟩, σ, dn, dA', I, hstk, TI, hdc, hdl, hdm, hdd, fun y hy => ?_⟩
          rw [etake] at hy
          rcases List.mem_append.mp hy with q | q
          · exact hall y q
          · rw [List.mem_singleton] at q; exact q ▸ hxf
        · have hz := I.num0 x hxp hxf
          walk1
          walk1
          walk_at "goD"
          have hcst' : ∀ a y, cst a = some y → 10 ≤ y.1 ∧ y.1 < 50 := fun a y e => by have := keepTag_le (hcst a y e); omega
          have hTR := trav (ad := { aS := stA, aN := sA, aF := fA, aA := aA, aO := aO, aX := aX, aR := f2, aP := f1, nk := order, a0 := [], o0 := [], tieA := tieA }) hR hP ok (fun v h => (hop v).mpr h) holen hcst' bc.hties hRo hRd hPo hPd (Nat.zero_le _) (Nat.zero_le _) 8
          refine ⟨Frag.In.keeps cx.X (Fr.keep F₂₀), ?_⟩
          refine hTR _ _ _ _ _ _ _ _ _ led₂₀ σ x tx 51 _ ?_ cx (by k_asm) (by k_asm) (by k_asm) TI I hxp hxf hs₂₀ (by decide) ?_ ?_ ?_
          · exact Nat.le_trans (List.length_filter_le _ _) ok.few
          · omega
          · omega
          intro σ' led₂₁ h₂₁ tk₂₁ news₂₁ P TI' K' F₂₁ N₂₁ C₂₁
          have hstk' := P.top hstk
          have I' := P.inv
          replace hIT := K'.at hIT (by decide) (by decide)
          replace h49 := K'.at h49 (by decide) (by decide)
          replace hdc := K'.at hdc (by decide) (by decide)
          replace hdl := K'.at hdl (by decide) (by decide)
          replace hs₂₀ : SubL cst led₂₁ := fun a x e => K' a x (hs₂₀ a x e) (hcst' a x e).1 (by have := (hcst' a x e).2; omega)
          clear hTR TI wN K' hz C₂₀
          have hdlen : dn.length ≤ 8 := Nat.le_trans (nodup_le hdd fun a h => I.fkpts a ((hdm a).mp h)) ok.few
          have hT := hs₂₀ _ _ bc.hT
          have c5 := hs₂₀ _ _ bc.c5
          try dsimp only
          walk_at "goD"
          refine comp_led (h₀ := g0) (L := L0) 48 (fun p => !decide (p ∈ dn)) id rfl (by decide) rfl (by decide) rfl ?_
          walk_at "goD"
          refine ⟨Frag.In.keeps cx.X (Fr.keep (by k_asm)), ?_⟩
          refine from_c ok (fun v h => h) _ _ _ _ _ _ _ _ _ _ tA x tx 51 _ cx (by k_asm) (by k_asm) C₂₁ hT (fun v hv => hs₂₀ _ _ (bc.hties v hv)) hxp (by decide) ?_ ?_ ?_
          · omega
          · omega
          intro Df found led₂₂ h₂₂ tk₂₂ news₂₂ hfound hnd hDf hDn K₂₂ F₂₂ N₂₂ C₂₂
          have hfew : found.length ≤ 8 := Nat.le_trans (nodup_le hnd fun a h => ok.reach ((hfound a).mp h) hxp) ok.few
          have hdc2 := K₂₂.at hdc (by decide)
          have hdl2 := K₂₂.at hdl (by decide)
          try dsimp only
          refine ⟨found, _, _, led₂₂, src_ints hh N₂₂ C₂₂ hDf, by omega, F₂₂, N₂₂, C₂₂, ⟨fun C n t s₃ m₃ E' hn hm F₃ N₃ => wpAny_tests_one ?_, fun C n t s₃ m₃ E' hn _ hm F₃ N₃ => ?_⟩, ?_⟩
          · clear C₂₁ F₂₂ N₂₂
            walk_at "goD"
            exact ⟨rfl, _, _, rfl, fun _ _ e => e⟩
          · walk_at "goD"
            exact ⟨⟨_, rfl⟩, _, _, rfl, fun _ _ e => e⟩
          intro D₂₃ h₂₃ tk₂₃ news₂₃ hD₂₃ F₂₃ N₂₃ C₂₃
          try dsimp only
          obtain ⟨k1, k2, k3⟩ := done_next P hstk' hdm hdd hfound hnd hxf
          have hflen : ((found.filter (fun p => !decide (p ∈ dn))).map id).length ≤ 8 := by
            rw [List.length_map]; exact Nat.le_trans (List.length_filter_le _ _) hfew
          walk_at "goD"
          refine add_ints 33 F₂₃ N₂₃ C₂₃ (look_new hdl2 hD₂₃) upd_same (by omega) ?_
          intro dB h₂₄ news₂₄ F₂₄ N₂₄ C₂₄ hdB _
          generalize (dn ++ (found.filter (fun p => !decide (p ∈ dn))).map id) = dn' at *
          generalize ((found.filter (fun p => !decide (p ∈ dn))).map id) = fl at *
          try dsimp only
          have hdc3 := look_new (z := (33, .ints dn')) (look_new (z := (48, .ints fl)) hdc2 hD₂₃) hdB
          walk1
          rename_i h₂₅ news₂₅ F₂₅ N₂₅ C₂₅
          generalize e₂₅ : upd (upd (upd led₂₂ D₂₃ (48, AO.ints fl)) dB (33, AO.ints dn')) (L0 + 1) (23, AO.cell (some (Value.ref dB))) = led₂₅ at C₂₅
          have up : ∀ a (t : Nat) y, led₂₁ a = some (t, y) → t < 51 → t ≠ 23 → led₂₅ a = some (t, y) := fun a t y e h1 h2 => by
            rw [← e₂₅]
            exact look (look_new (look_new (K₂₂.at e h1) hD₂₃) hdB) hdc3 h2
          have hdc : led₂₅ (L0 + 1) = some (23, .cell (some (.ref dB))) := by rw [← e₂₅]; exact upd_same
          have hdl : led₂₅ dB = some (33, .ints dn') := by rw [← e₂₅]; exact look upd_same hdc3 (by decide)
          replace hIT := up _ _ _ hIT (by decide) (by decide)
          replace h49 := up _ _ _ h49 (by decide) (by decide)
          have TI := TI'.keep fun a t y e ht => up a t y e (by omega) (by omega)
          have hs₂₅ : SubL cst led₂₅ := fun a y e => up a y.1 y.2 (hs₂₀ a y e) (by have := hcst' a y e; omega) (keepTag_le (hcst a y e)).2.2
          clear up e₂₅ hdc3 C₂₄ C₂₃ C₂₂ C₂₁ K₂₂ hDf hDn hdc2 hdl2 hT c5 TI' hs₂₀ hfound hnd hflen hD₂₃ hdB I hfew htg
          repeat clear hI
          have X := cx.X
          revert X; k_fill; intro X
          clear X
          have hS : led₂₅ stA = some (1, .ints []) := by have := TI.S; rw [hstk'] at this; exact this
          have hF : led₂₅ fA = some (3, .drefs σ'.fk σ'.fa) := TI.F
          have hA : led₂₅ aA = some (4, .ints σ'.fk) := TI.A
          have hO : led₂₅ aO = some (5, .ints σ'.fk) := TI.O
          have hNm : led₂₅ sA = some (2, .dints order σ'.num) := TI.N
          have c2 := hs₂₅ _ _ c2c
          have c3 := hs₂₅ _ _ c3c
          have hk8 : σ'.fk.length ≤ 8 := I'.fewF ok
          have hd8 : dn'.length ≤ 8 := Nat.le_trans (nodup_le k2 fun a h => I'.fkpts a ((k1 a).mp h)) ok.few
          clear F₂₄ N₂₄ F₂₃ N₂₃ F₂₂ N₂₂
          walk_at "goD"
          walk1
          walk_at "goD"
          refine comp_led (h₀ := g0) (L := L0) 43 (fun _ => true) id rfl (by decide) rfl (by decide) rfl ?_
          walk_at "goD"
          refine ⟨σ'.fk, _, _, led₂₅, src_drefs hh N₂₅ C₂₅ hF, by omega, F₂₅, N₂₅, C₂₅, ⟨fun C n t s₃ m₃ E' hn hm F₃ N₃ => wpAny_tests_nil ⟨rfl, _, _, rfl, fun _ _ e => e⟩, fun C n t s₃ m₃ E' hn _ hm F₃ N₃ => ?_⟩, ?_⟩
          · clear C₂₅ N₂₅ F₂₅
            walk_at "goD"
            exact ⟨⟨_, rfl⟩, _, _, rfl, fun _ _ e => e⟩
          intro D₁ h₂₆ tk₂₆ news₂₆ hD₁ F₂₆ N₂₆ C₂₆
          rw [filt_all] at C₂₆
          try dsimp only
          walk_at "goD"
          refine sorted_ints_led 44 F₂₆ N₂₆ C₂₆ upd_same (by omega) ?_
          intro D₂ ms₁ h₂₇ news₂₇ F₂₇ N₂₇ C₂₇ hp₁ hw₁ hD₂ _
          try dsimp only
          have hdc27 := look_new (z := (44, .ints ms₁)) (look_new (z := (43, .ints σ'.fk)) hdc hD₁) hD₂
          have hdl27 := look_new (z := (44, .ints ms₁)) (look_new (z := (43, .ints σ'.fk)) hdl hD₁) hD₂
          walk_at "goD"
          refine sorted_ints_led 44 F₂₇ N₂₇ C₂₇ hdl27 (by omega) ?_
          intro D₃ ms₂ h₂₈ news₂₈ F₂₈ N₂₈ C₂₈ hp₂ hw₂ hD₃ _
          try dsimp only
          walk_at "goD"
          refine ne_ints_same N₂₈ C₂₈ (look_new upd_same hD₃) upd_same (by omega) (sorted_same hp₁ hp₂ hw₁ hw₂ I'.nodupF k2 fun a => (k1 a).symm) ?_
          have C₂₉ := C₂₈.back fun a x e => look_new (look_new (look_new e hD₁) hD₂) hD₃
          clear C₂₈ C₂₇ C₂₆ C₂₅ hdc27 hdl27
          walk_at "goD"
          clear hD₁ hD₂ hD₃ hp₁ hp₂ hw₁ hw₂ F₂₇ N₂₇ F₂₆ N₂₆
          -- asked
          walk1
          walk_at "goD"
          refine sorted_ints_led 44 F₂₈ N₂₈ C₂₉ hA (by omega) ?_
          intro D₁ ms₁ h₃₀ news₃₀ F₃₀ N₃₀ C₃₀ hp₁ hw₁ hD₁ _
          try dsimp only
          have hdc30 := look_new (z := (44, .ints ms₁)) hdc hD₁
          have hdl30 := look_new (z := (44, .ints ms₁)) hdl hD₁
          walk_at "goD"
          refine sorted_ints_led 44 F₃₀ N₃₀ C₃₀ hdl30 (by omega) ?_
          intro D₂ ms₂ h₃₁ news₃₁ F₃₁ N₃₁ C₃₁ hp₂ hw₂ hD₂ _
          try dsimp only
          walk_at "goD"
          refine ne_ints_same N₃₁ C₃₁ (look_new upd_same hD₂) upd_same (by omega) (sorted_same hp₁ hp₂ hw₁ hw₂ I'.nodupF k2 fun a => (k1 a).symm) ?_
          have C₃₂ := C₃₁.back fun a x e => look_new (look_new e hD₁) hD₂
          clear C₃₁ C₃₀ C₂₉ hdc30 hdl30 hD₁ hD₂ hp₁ hp₂ hw₁ hw₂ F₃₀ N₃₀
          -- opened
          walk_at "goD"
          refine sorted_ints_led 44 F₃₁ N₃₁ C₃₂ hO (by omega) ?_
          intro D₁ ms₁ h₃₃ news₃₃ F₃₃ N₃₃ C₃₃ hp₁ hw₁ hD₁ _
          try dsimp only
          have hdc33 := look_new (z := (44, .ints ms₁)) hdc hD₁
          have hdl33 := look_new (z := (44, .ints ms₁)) hdl hD₁
          walk_at "goD"
          refine sorted_ints_led 44 F₃₃ N₃₃ C₃₃ hdl33 (by omega) ?_
          intro D₂ ms₂ h₃₄ news₃₄ F₃₄ N₃₄ C₃₄ hp₂ hw₂ hD₂ _
          try dsimp only
          walk_at "goD"
          refine ne_ints_same N₃₄ C₃₄ (look_new upd_same hD₂) upd_same (by omega) (sorted_same hp₁ hp₂ hw₁ hw₂ I'.nodupF k2 fun a => (k1 a).symm) ?_
          have C₃₅ := C₃₄.back fun a x e => look_new (look_new e hD₁) hD₂
          clear C₃₄ C₃₃ C₃₂ hdc33 hdl33 hD₁ hD₂ hp₁ hp₂ hw₁ hw₂ F₃₃ N₃₃
          have hne : ¬ ((dn.length : Nat) : Int) = ((dn'.length : Nat) : Int) := by omega
          walk_at "goD"
          clear hne k3 hdm hdd hdlen
          have X := cx.X
          revert X; k_fill; intro X
          clear X
          refine For_ints (h₀ := g0) 51 hh rfl rfl ?_
          walk_at "goD"
          have hX := hs₂₅ _ _ bc.hX
          refine ⟨aX, _, _, _, 14, order, _, _, JI aX kA f1 f2 sA fA stA led₂₅, rfl, rfl, F₃₄, N₃₄, C₃₅, hX, by decide, ⟨⟨q1, q2, q3, q4, q5, q6⟩, q7, KeepA.refl⟩, ?_, ?_, ?_, ?_, ?_⟩
          · exact fun i m l h => h.2.2.at hX (by decide)
          · exact fun i m l l' ⟨a1, a2, a3⟩ hm => ⟨a1, a2, a3.mono hm⟩
          · exact fun i m l ⟨a1, a2, a3⟩ => ⟨a1, a2, a3.cut (Nat.le_refl _)⟩
          · -- one point is looked at
            clear C₃₅ F₃₄ N₃₄ q1 q2 q3 q4 q5 q6 q7
            rintro j y ty m₃₆ led₃₆ news₃₆ h₃₆ tk₃₆ IT' ito' E₃₆ hyj hjl ⟨⟨q1, q2, q3, q4, q5, q6⟩, q7, K⟩ hIT' htg' F₃₆ N₃₆ C₃₆
            try dsimp only
            have hyo : y ∈ order := List.mem_of_getElem? hyj
            have hyp : y ∈ G.pts := (hop y).mp hyo
            have hnum := num_is I' hstk' hyp
            have hNm' := K.at hNm (by decide)
            have hdc' := K.at hdc (by decide)
            have hdl' := K.at hdl (by decide)
            by_cases hy : y ∈ σ'.fk
            · have hyd : y ∈ dn' := (k1 y).mpr hy
              rw [if_pos hy] at hnum
              have hnum' : σ'.num y = 9223372036854775807 := hnum
              clear hnum
              have hF' := K.at hF (by decide)
              have hM' := K.at (TI.M y hy) (by decide)
              have hml : (σ'.ms y).length ≤ 30 := Nat.le_trans (nodup_le (I'.nodupM y hy) fun b hb => I'.ofMarks ok hy hb) ok.fewMarks
              walk_at "goD"
              walk1
              walk_at "goD"
              walk1
              walk_at "goD"
              refine sorted_strs_led 46 F₃₆ N₃₆ C₃₆ hM' (by omega) ?_
              intro D ms h₃₇ news₃₇ F₃₇ N₃₇ C₃₇ hp hw hD _
              try dsimp only
              have hs₃₇ : SubL cst (upd led₃₆ D (46, .strs ms)) := fun a z e => look_new (K a z (hs₂₅ a z e) (by have := hcst' a z e; omega)) hD
              have hcO := hs₃₇ _ _ bc.c4
              have hcT := hs₃₇ _ _ bc.c5
              walk_at "goD"
              refine ⟨Frag.In.keeps cx.X (Fr.keep F₃₇), ?_⟩
              refine marks_c ok (fun v h => h) (fun v h => h) _ _ _ _ _ _ _ _ _ _ oA tA y ty 52 _ cx F₃₇ N₃₇ C₃₇ (hs₃₇ _ _ bc.hT) (fun v hv => hs₃₇ _ _ (bc.hties v hv)) (hs₃₇ _ _ bc.hO) (fun v hv => hs₃₇ _ _ (bc.hown v hv)) hyp (by decide) (by omega) (by omega) ?_
              intro D' ms' led₃₈ h₃₈ tk₃₈ news₃₈ hm1 hm2 hm3 hD' K₃₈ F₃₈ N₃₈ C₃₈
              try dsimp only
              walk_at "goD"
              refine ne_strs_same N₃₈ C₃₈ (K₃₈.at upd_same (by decide)) hD' (fun a ha => hso a (I'.ofMarks ok hy (hp.mem_iff.mp ha))) (by omega) (marks_same I' hstk' hy hp hw hm1 hm2 hm3) ?_
              clear C₃₇ C₃₆ F₃₇ N₃₇
              walk_at "goD"
              exact EndAt.intro F₃₈ N₃₈ C₃₈ ⟨K₃₈.at (look_new hIT' hD) (by decide), ⟨q1, q2, q3, q4, q5, q6⟩, q7, fun a z e hz => K₃₈ a z (look_new (K a z e hz) hD) (by omega)⟩
            · have hyd : ¬ y ∈ dn' := fun q => hy ((k1 y).mp q)
              rw [if_neg hy] at hnum
              walk_at "goD"
              walk1
              walk_at "goD"
              walk1
              walk_at "goD"
              exact EndAt.intro F₃₆ N₃₆ C₃₆ ⟨hIT', ⟨q1, q2, q3, q4, q5, q6⟩, q7, K⟩
          · -- all are looked at
            clear C₃₅ F₃₄ N₃₄ q1 q2 q3 q4 q5 q6 q7
            rintro h₃₆ tk₃₆ m₃₆ led₃₆ news₃₆ F₃₆ N₃₆ C₃₆ htg' ⟨⟨q1, q2, q3, q4, q5, q6⟩, q7, K⟩
            try dsimp only
            walk_at "goD"
            refine EndAt.intro F₃₆ N₃₆ C₃₆ ⟨K.at hIT (by decide), ⟨q1, q2, q3, q4, q5, q6⟩, q7, fun a e => ?_, ⟨_, K.at h49 (by decide)⟩, σ', dn', dB, I', hstk', TI.keep fun a t x e ht => K.at e (by omega), K.at hdc (by decide), K.at hdl (by decide), k1, k2, fun z hz => ?_⟩
            · exact fun h => K _ _ (hs₂₅ _ _ h) (by have := hcst' _ _ h; omega)
            · rw [etake] at hz
              rcases List.mem_append.mp hz with q | q
              · exact P.more (hall z q)
              · rw [List.mem_singleton] at q; exact q ▸ P.has
      · -- all points
        clear q1 q2 q3 q4 q5 q6 MI0 hsub3 C₁₉
        rintro h₂₀ tk₂₀ m₂₀ led₂₀ news₂₀ F₂₀ N₂₀ C₂₀ htg₂₀ ⟨⟨q1, q2, q3, q4, q5, q6⟩, q7, hs₂₀, ⟨ps₂₀, h49⟩, σ, dn, dA', I, hstk, TI, hdc, hdl, hdm, hdd, hall⟩
        try dsimp only
        have X := cx.X
        revert X; k_fill; intro X
        clear X
        rw [List.take_length] at hall
        have hcst' : ∀ a y, cst a = some y → 10 ≤ y.1 ∧ y.1 < 50 := fun a y e => by have := keepTag_le (hcst a y e); omega
        have hfo : ∀ v, v ∈ σ.fk ↔ v ∈ order := fun v => ⟨fun h => (hop v).mpr (I.fkpts v h), hall v⟩
        have hlen : dn.length = order.length := ((List.perm_ext_iff_of_nodup hdd hond).mpr fun a => (hdm a).trans (hfo a)).length_eq
        have hlen' : ((dn.length : Nat) : Int) = ((order.length : Nat) : Int) := by omega
        have hX := hs₂₀ _ _ bc.hX
        walk_at "goD"
        walk1
        walk_at "goD"
        have hk8 : σ.fk.length ≤ 8 := I.fewF ok
        have hsr : SubL cst (retag offTag led₂₀) := fun a y e => by
          have h1 := retag_at (f := offTag) (t := y.1) (x := y.2) (hs₂₀ a y e)
          rw [offTag_ge (hcst' a y e).1] at h1
          exact h1
        have hFr : retag offTag led₂₀ fA = some (34, .drefs σ.fk σ.fa) := retag_at TI.F
        have hMr : ∀ v ∈ σ.fk, retag offTag led₂₀ (σ.fa v) = some (35, .strs (σ.ms v)) := fun v hv => retag_at (TI.M v hv)
        have hAr : retag offTag led₂₀ aA = some (4, .ints σ.fk) := retag_at TI.A
        have hOr : retag offTag led₂₀ aO = some (5, .ints σ.fk) := retag_at TI.O
        have h49r : retag offTag led₂₀ 49 = some (28, .raw (tabObj ps₂₀)) := retag_at h49
        refine ⟨Frag.In.keeps cx.X (Fr.keep F₂₀), ?_⟩
        refine digr_c hR hP ok hcst' bc.hties hRo hRd hPo hPd hond hop _ _ _ _ _ _ _ _ _ (retag offTag led₂₀) 50 σ.fk σ.fk _ (by omega) (by omega) cx F₂₀ N₂₀ (C₂₀.retag offTag) hsr (hsr _ _ bc.hX) hAr hOr (Nat.le_refl _) (by omega) (by omega) ?_
        intro fT σ₂ led₃ h₃ tk₃ news₃ I₂ hstk₂ hfk₂ hF₂ hM₂ hA₂ K₃ F₃ N₃ C₃
        have hs₃ : SubL cst led₃ := fun a y e => K₃ a y (hsr a y e) (hcst' a y e).1 (hcst' a y e).2
        have hF₃ := K₃.at hFr (by decide) (by decide)
        have hM₃ := fun v hv => K₃.at (hMr v hv) (by decide) (by decide)
        have h49₃ := K₃.at h49r (by decide) (by decide)
        have hX₃ := hs₃ _ _ bc.hX
        have hk2 : σ₂.fk.length ≤ 8 := I₂.fewF ok
        clear TI C₂₀ hs₂₀ h49 htg₂₀ hdc hdl hdm hdd hsr hFr hMr hAr hOr h49r K₃ hX hlen hlen' hall q3 q4 q5 q7 hR hP hRo hRd hPo hPd F₂₀ N₂₀
        try dsimp only
        have hA₃ : led₃ aA = some (4, .ints (σ.fk ++ σ₂.fk)) := hA₂
        clear hA₂
        walk_at "goD"
        walk1
        walk_at "goD"
        rename (Fr _ _ _ _) => F₄
        rename (News _ _ _ _) => N₄
        refine comp_led (h₀ := g0) (L := L0) 43 (fun _ => true) id rfl (by decide) rfl (by decide) rfl ?_
        walk_at "goD"
        refine ⟨σ₂.fk, _, _, led₃, src_drefs hh N₄ C₃ hF₂, by omega, F₄, N₄, C₃, ⟨fun C n t s₃ m₃ E' hn hm F₃ N₃ => wpAny_tests_nil ⟨rfl, _, _, rfl, fun _ _ e => e⟩, fun C n t s₃ m₃ E' hn _ hm F₃ N₃ => ?_⟩, ?_⟩
        · clear C₃ N₄ F₄
          walk_at "goD"
          exact ⟨⟨_, rfl⟩, _, _, rfl, fun _ _ e => e⟩
        intro D₁ h₅ tk₅ news₅ hD₁ F₅ N₅ C₅
        rw [filt_all] at C₅
        try dsimp only
        walk_at "goD"
        refine sorted_ints_led 44 F₅ N₅ C₅ upd_same (by omega) ?_
        intro D₂ ms₁ h₆ news₆ F₆ N₆ C₆ hp₁ hw₁ hD₂ _
        try dsimp only
        have hX₆ := look_new (z := (44, .ints ms₁)) (look_new (z := (43, .ints σ₂.fk)) hX₃ hD₁) hD₂
        walk_at "goD"
        refine sorted_ints_led 44 F₆ N₆ C₆ hX₆ (by omega) ?_
        intro D₃ ms₂ h₇ news₇ F₇ N₇ C₇ hp₂ hw₂ hD₃ _
        try dsimp only
        walk_at "goD"
        refine ne_ints_same N₇ C₇ (look_new upd_same hD₃) upd_same (by omega) (sorted_same hp₁ hp₂ hw₁ hw₂ I₂.nodupF hond fun a => (hfk₂ a).trans (hop a).symm) ?_
        have C₈ := C₇.back fun a x e => look_new (look_new (look_new e hD₁) hD₂) hD₃
        clear C₇ C₆ C₅ C₃ hX₆ hD₁ hD₂ hD₃ hp₁ hp₂ hw₁ hw₂ F₄ N₄ F₅ N₅ F₆ N₆
        walk_at "goD"
        refine For_ints (h₀ := g0) 50 hh rfl rfl ?_
        walk_at "goD"
        refine ⟨aX, _, _, _, 14, order, _, _, PI aX kA fA fT led₃, rfl, rfl, F₇, N₇, C₈, hX₃, by decide, ⟨q1, q2, q6, rfl, KeepA.refl⟩, ?_, ?_, ?_, ?_, ?_⟩
        · exact fun i m l h => h.2.2.2.2.at hX₃ (by decide)
        · exact fun i m l l' ⟨a1, a2, a3, a4, a5⟩ hm => ⟨a1, a2, a3, a4, a5.mono hm⟩
        · exact fun i m l ⟨a1, a2, a3, a4, a5⟩ => ⟨a1, a2, a3, a4, a5.cut (Nat.le_refl _)⟩
        · -- one point is looked at
          clear C₈ F₇ N₇ q1 q2 q6
          rintro i x tx m₉ led₉ news₉ h₉ tk₉ IT ito E₉ hxi hil ⟨q1, q2, q6, q8, K⟩ hIT htg F₉ N₉ C₉
          try dsimp only
          have X := cx.X
          revert X; k_fill; intro X
          clear X
          have hxo : x ∈ order := List.mem_of_getElem? hxi
          have hxp : x ∈ G.pts := (hop x).mp hxo
          have hx1 : x ∈ σ.fk := (hfo x).mpr hxo
          have hx2 : x ∈ σ₂.fk := (hfk₂ x).mpr hxp
          have hs₉ : SubL cst led₉ := fun a y e => K a y (hs₃ a y e) (hcst' a y e).2
          have hT₉ := K.at hF₂ (by decide)
          have hM₉ := K.at (hM₂ x hx2) (by decide)
          have hml : (σ₂.ms x).length ≤ 30 := Nat.le_trans (nodup_le (I₂.nodupM x hx2) fun b hb => I₂.ofMarks ok hx2 hb) ok.fewMarks
          walk_at "goD"
          walk1
          walk_at "goD"
          refine sorted_strs_led 46 F₉ N₉ C₉ hM₉ (by omega) ?_
          intro D ms h₁₀ news₁₀ F₁₀ N₁₀ C₁₀ hp hw hD _
          try dsimp only
          have hs₁₀ : SubL cst (upd led₉ D (46, .strs ms)) := fun a z e => look_new (hs₉ a z e) hD
          have hcO := hs₁₀ _ _ bc.c4
          have hcT := hs₁₀ _ _ bc.c5
          walk_at "goD"
          refine ⟨Frag.In.keeps cx.X (Fr.keep F₁₀), ?_⟩
          refine marks_c ok (fun v h => h) (fun v h => h) _ _ _ _ _ _ _ _ _ _ oA tA x tx 51 _ cx F₁₀ N₁₀ C₁₀ (hs₁₀ _ _ bc.hT) (fun v hv => hs₁₀ _ _ (bc.hties v hv)) (hs₁₀ _ _ bc.hO) (fun v hv => hs₁₀ _ _ (bc.hown v hv)) hxp (by decide) (by omega) (by omega) ?_
          intro D' ms' led₁₁ h₁₁ tk₁₁ news₁₁ hm1 hm2 hm3 hD' K₁₁ F₁₁ N₁₁ C₁₁
          have hs₁₁ : SubL cst led₁₁ := fun a z e => K₁₁ a z (hs₁₀ a z e) (by have := hcst' a z e; omega)
          have hcT := hs₁₁ _ _ bc.c5
          have htA := hs₁₁ _ _ bc.hT
          have hkA := hs₁₁ _ _ bc.hk
          try dsimp only
          walk_at "goD"
          refine ne_strs_same N₁₁ C₁₁ (K₁₁.at upd_same (by decide)) hD' (fun a ha => hso a (I₂.ofMarks ok hx2 (hp.mem_iff.mp ha))) (by omega) (marks_same I₂ hstk₂ hx2 hp hw hm1 hm2 hm3) ?_
          walk_at "goD"
          refine ne_ints_same N₁₁ C₁₁ (hs₁₁ _ _ (bc.hties x hxp)) (hs₁₁ _ _ (bc.hkl x hxo)) (by omega) rfl ?_
          have K₁₂ : KeepA 51 led₉ led₁₁ := fun a z e hz => K₁₁ a z (look_new e hD) hz
          clear C₁₀ C₉ F₉ N₉ F₁₀ N₁₀
          walk_at "goD"
          have hIT₁₁ := K₁₂.at hIT (by decide)
          have hX₁₁ := hs₁₁ _ _ bc.hX
          have hF₁₁ := K₁₂.at (K.at hF₃ (by decide)) (by decide)
          have hT₁₁ := K₁₂.at hT₉ (by decide)
          have hMo : ∀ v ∈ σ.fk, led₁₁ (σ.fa v) = some (35, .strs (σ.ms v)) := fun v hv => K₁₂.at (K.at (hM₃ v hv) (by decide)) (by decide)
          have hMt : ∀ v ∈ σ₂.fk, led₁₁ (σ₂.fa v) = some (6, .strs (σ₂.ms v)) := fun v hv => K₁₂.at (K.at (hM₂ v hv) (by decide)) (by decide)
          have KK : KeepA 50 led₃ led₁₁ := fun a z e hz => K₁₂ a z (K a z e hz) (by omega)
          refine For_ints (h₀ := g0) 51 hh rfl rfl ?_
          walk_at "goD"
          refine ⟨aX, _, _, _, 14, order, _, _, QI aX kA fA fT x tx led₁₁, rfl, rfl, F₁₁, N₁₁, C₁₁, hX₁₁, by decide, ⟨q1, q2, q6, q8, rfl, KeepA.refl⟩, ?_, ?_, ?_, ?_, ?_⟩
          · exact fun i m l h => h.2.2.2.2.2.at hX₁₁ (by decide)
          · exact fun i m l l' ⟨a1, a2, a3, a4, a5, a6⟩ hm => ⟨a1, a2, a3, a4, a5, a6.mono hm⟩
          · exact fun i m l ⟨a1, a2, a3, a4, a5, a6⟩ => ⟨a1, a2, a3, a4, a5, a6.cut (Nat.le_refl _)⟩
          · -- two points
            clear C₁₁ F₁₁ N₁₁ q1 q2 q6 q8 hT₉ hM₉ hs₁₀ hcO hcT K₁₁ hD' hD hs₉ htA hkA K₁₂ hp hw hm1 hm2 hm3 K
            repeat clear hcT
            rintro j y ty m₁₂ led₁₂ news₁₂ h₁₂ tk₁₂ IT' ito' E₁₂ hyj hjl ⟨q1, q2, q6, q8, q9, K⟩ hIT' htg' F₁₂ N₁₂ C₁₂
            try dsimp only
            have X := cx.X
            revert X; k_fill; intro X
            clear X
            have hyo : y ∈ order := List.mem_of_getElem? hyj
            have hyp : y ∈ G.pts := (hop y).mp hyo
            have hy1 : y ∈ σ.fk := (hfo y).mpr hyo
            have hy2 : y ∈ σ₂.fk := (hfk₂ y).mpr hyp
            have hs₁₂ : SubL cst led₁₂ := fun a z e => K a z (hs₁₁ a z e) (by have := hcst' a z e; omega)
            have hcT := hs₁₂ _ _ bc.c5
            refine seq_cut (EndAt PySem.Challenge.rw_bc6012_01.row.prog w g0 L0 s (fun m' led' => m' (Str.ofString "order") = some (.ref aX) ∧ m' (Str.ofString "keep") = some (.ref kA) ∧ m' (Str.ofString "tops") = some (.ref fA) ∧ m' (Str.ofString "told") = some (.ref fT) ∧ m' (Str.ofString "one") = some (.int x tx) ∧ m' (Str.ofString "other") = some (.int y ty) ∧
              (∃ b, m' (Str.ofString "ring") = some (.bool b) ∧ (b = true ↔ Reach G.ties x y ∧ Reach G.ties y x)) ∧ led' IT' = some (51, .raw ito') ∧ KeepA 51 led₁₁ led')) ?_ ?_
            · clear hMo hMt hF₁₁ hT₁₁
              walk_at "goD"
              refine ⟨Frag.In.keeps cx.X (Fr.keep F₁₂), ?_⟩
              refine from_c ok (fun v h => h) _ _ _ _ _ _ _ _ _ _ tA x tx 52 _ cx F₁₂ N₁₂ C₁₂ (hs₁₂ _ _ bc.hT) (fun v hv => hs₁₂ _ _ (bc.hties v hv)) hxp (by decide) (by omega) (by omega) ?_
              intro D1 fd1 led₁₃ h₁₃ tk₁₃ news₁₃ hf1 hn1 hD1 hDn1 K₁₃ F₁₃ N₁₃ C₁₃
              have hs₁₃ : SubL cst led₁₃ := fun a z e => K₁₃ a z (hs₁₂ a z e) (by have := hcst' a z e; omega)
              have hcT := hs₁₃ _ _ bc.c5
              have hIT'' := K₁₃.at hIT' (by decide)
              have KK13 : KeepA 51 led₁₁ led₁₃ := fun a z e hz => K₁₃ a z (K a z e hz) (by omega)
              clear C₁₂ F₁₂ N₁₂ hs₁₂ K₁₃ hDn1 hIT' K
              try dsimp only
              by_cases hr1 : y ∈ fd1
              · walk_at "goD"
                refine ⟨Frag.In.keeps cx.X (Fr.keep F₁₃), ?_⟩
                refine from_c ok (fun v h => h) _ _ _ _ _ _ _ _ _ _ tA y ty 52 _ cx F₁₃ N₁₃ C₁₃ (hs₁₃ _ _ bc.hT) (fun v hv => hs₁₃ _ _ (bc.hties v hv)) hyp (by decide) (by omega) (by omega) ?_
                intro D2 fd2 led₁₄ h₁₄ tk₁₄ news₁₄ hf2 hn2 hD2 hDn2 K₁₄ F₁₄ N₁₄ C₁₄
                clear C₁₃ hD1 hcT
                try dsimp only
                walk_at "goD"
                rename_i h₁₅ F₁₅ N₁₅
                exact ⟨trivial, EndAt.intro F₁₅ N₁₅ C₁₄ ⟨q1, q2, q6, q8, q9, rfl, ⟨_, rfl, by rw [decide_eq_true_eq, hf2]; exact ⟨fun h => ⟨(hf1 y).mp hr1, h⟩, fun h => h.2⟩⟩, K₁₄.at hIT'' (by decide), fun a z e hz => K₁₄ a z (KK13 a z e hz) (by omega)⟩⟩
              · walk_at "goD"
                rename_i h₁₅ F₁₅ N₁₅
                exact ⟨trivial, EndAt.intro F₁₅ N₁₅ C₁₃ ⟨q1, q2, q6, q8, q9, rfl, ⟨_, rfl, by rw [decide_eq_true_eq]; exact ⟨fun h => absurd h hr1, fun h => (hf1 y).mpr h.1⟩⟩, hIT'', KK13⟩⟩
            · rintro s' ⟨h₁₃, tk₁₃, m₁₃, news₁₃, led₁₃, rfl, F₁₃, N₁₃, C₁₃, q1, q2, q6, q8, q9, q10, ⟨b, q11, hb⟩, hIT', K⟩
              have hb1 : decide (σ.fa x = σ.fa y) = b := by
                rw [Bool.eq_iff_iff, decide_eq_true_eq, hb]
                exact I.scc x hx1 (by rw [hstk]; exact List.not_mem_nil) y hy1 (by rw [hstk]; exact List.not_mem_nil)
              have hb2 : decide (σ₂.fa x = σ₂.fa y) = b := by
                rw [Bool.eq_iff_iff, decide_eq_true_eq, hb]
                exact I₂.scc x hx2 (by rw [hstk₂]; exact List.not_mem_nil) y hy2 (by rw [hstk₂]; exact List.not_mem_nil)
              have hF₁₃ := K.at hF₁₁ (by decide)
              have hT₁₃ := K.at hT₁₁ (by decide)
              clear C₁₂ F₁₂ N₁₂ hcT hs₁₂
              try dsimp only
              walk_at "goD"
              walk1
              walk_at "goD"
              refine is_strs_led N₁₃ C₁₃ (K.at (hMo x hx1) (by decide)) (K.at (hMo y hy1) (by decide)) ?_
              rw [hb1]
              have hbn : ¬ (b != b) = true := by cases b <;> decide
              walk_at "goD"
              refine is_strs_led N₁₃ C₁₃ (K.at (hMt x hx2) (by decide)) (K.at (hMt y hy2) (by decide)) ?_
              rw [hb2]
              walk_at "goD"
              exact EndAt.intro F₁₃ N₁₃ C₁₃ ⟨hIT', q1, q2, q6, q8, q9, K⟩
          · -- all pairs of this point
            clear C₁₁ F₁₁ N₁₁ q1 q2 q6 q8 hT₉ hM₉ hs₁₀ hcO hcT K₁₁ hD' hD hs₉ htA hkA K₁₂ hp hw hm1 hm2 hm3 K
            repeat clear hcT
            rintro h₁₂ tk₁₂ m₁₂ led₁₂ news₁₂ F₁₂ N₁₂ C₁₂ htg' ⟨q1, q2, q6, q8, q9, K⟩
            try dsimp only
            walk_at "goD"
            exact EndAt.intro F₁₂ N₁₂ C₁₂ ⟨K.at hIT₁₁ (by decide), q1, q2, q6, q8, fun a z e hz => K a z (KK a z e hz) (by omega)⟩
        · -- the end
          clear C₈ F₇ N₇ q1 q2 q6
          rintro h₉ tk₉ m₉ led₉ news₉ F₉ N₉ C₉ htg ⟨q1, q2, q6, q8, K⟩
          have hA₉ := K.at hA₃ (by decide)
          have c2₉ := K.at (hs₃ _ _ c2c) (by decide)
          have hX₉ := K.at hX₃ (by decide)
          have l1 : (σ.fk ++ σ₂.fk).length = 2 * order.length := by
            have e1 := ((List.perm_ext_iff_of_nodup I.nodupF hond).mpr hfo).length_eq
            have e2 := ((List.perm_ext_iff_of_nodup I₂.nodupF hond).mpr fun a => (hfk₂ a).trans (hop a).symm).length_eq
            rw [List.length_append]
            omega
          try dsimp only
          walk_at "goD"
          refine EndAt.intro F₉ N₉ C₉ ⟨?_, _, K.at h49₃ (by decide)⟩
          refine congrArg Value.bool ?_
          rw [beq_iff_eq]
          omega
end Mine
end

theorem PySem.Challenge.cw_bc6012_01_holds : PySem.Challenge.rw_bc6012_01.Holds := by
  exact Mine.law_start _ id
