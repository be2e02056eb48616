import PyProof.Rows.All
import Wide.All
import OpenK.AllK
import Wide.FinOn
import Lean
import PySem.Challenge.RW_af5023_03
set_option Elab.async false
set_option maxRecDepth 100000
set_option maxHeartbeats 8000000
set_option autoImplicit false
set_option linter.unusedVariables false
open PySem PySem.W PyProof.Rows
open_top hd03 for PySem.Challenge.rw_af5023_03
open PySem PySem.W PyProof.Rows PySem.Calls
namespace Mine

/-- what is known of an object -/
inductive OD where
  | lst (vs : List Value)
  | tup (vs : List Value)
  | inst (C : Addr) (d : Addr)
  | ns (l : List (Str × Value))
  | fld (l : List (Str × Value))
  | dic (kvs : List (Str × Value))
  | cell (v : Option Value)
  | rcd (T : String) (vs : List Value)
  | raw (o : Obj)

abbrev PH := Addr → Option Obj

/-- the keys of a dict by strs, hashes as the world has them -/
def EntOk (P : Params) : DictEntry → Str × Value → Prop := fun e p => (∃ t, e.key = .str p.1 t) ∧ e.val = p.2 ∧ e.hash = PyData.keyHash P p.1
inductive Ents (P : Params) : List DictEntry → List (Str × Value) → Prop
  | nil : Ents P [] []
  | cons {e p es l} : EntOk P e p → Ents P es l → Ents P (e :: es) (p :: l)

def OD.ok (P : Params) : OD → Obj → Prop
  | .lst vs, o => o.cls = .type "list" ∧ (o.dict = none ∧ o.slots = #[]) ∧ ∃ n, o.data = .seq vs.toArray n
  | .tup vs, o => o.cls = .type "tuple" ∧ o.dict = none ∧ ∃ n, o.data = .seq vs.toArray n
  | .inst C d, o => o.cls = .ref C ∧ o.dict = some d ∧ o.data = .plain
  | .ns l, o => (l.map (·.1)).Nodup ∧ ∃ es n, o.data = .dict es n ∧ StrKeys es ∧ ∀ p ∈ l, nsFind es p.1 = some p.2
  | .fld l, o => o.cls = .type "dict" ∧ o.dict = none ∧ (l.map (·.1)).Nodup ∧ ∃ es n, o.data = .dict es n ∧ StrKeys es ∧ es.size ≤ l.length ∧ ∀ x, nsFind es x = l.lookup x
  | .dic kvs, o => o.ExactDict ∧ (kvs.map (·.1)).Nodup ∧ ∃ es n, o.data = .dict es n ∧ Ents P es.toList kvs
  | .cell v, o => o.data = .cell v ∧ o.slots = #[]
  | .rcd T vs, o => o.cls = .type T ∧ o.data = .fields vs.toArray
  | .raw o', o => o = o' ∧ o.isFreed = false

theorem OD.ok_live {P : Params} {D : OD} {o : Obj} (h : D.ok P o) : o.isFreed = false := by
  obtain ⟨c, d, dt, sl⟩ := o
  cases D with
  | lst => obtain ⟨_, _, _, rfl⟩ := h; rfl
  | tup => obtain ⟨_, _, _, rfl⟩ := h; rfl
  | inst => obtain ⟨_, _, rfl⟩ := h; rfl
  | ns => obtain ⟨_, _, _, rfl, _⟩ := h; rfl
  | fld => obtain ⟨_, _, _, _, _, rfl, _⟩ := h; rfl
  | dic => obtain ⟨_, _, _, _, rfl, _⟩ := h; rfl
  | cell => obtain ⟨rfl, _⟩ := h; rfl
  | rcd => obtain ⟨_, rfl⟩ := h; rfl
  | raw => exact h.1 ▸ h.2

/-- known at a heap -/
def Has (P : Params) (h : Heap) (a : Addr) (D : OD) : Prop := ∃ o, h.get? a = some o ∧ D.ok P o
/-- known for good -/
def Fz (P : Params) (F : PH) (a : Addr) (D : OD) : Prop := 2 < a ∧ ∃ o, F a = some o ∧ D.ok P o
def PH.le (F G : PH) : Prop := ∀ a o, F a = some o → G a = some o
theorem Fz.mono {P : Params} {F G : PH} {a D} (h : Fz P F a D) (k : F.le G) : Fz P G a D := let ⟨b, o, e, r⟩ := h; ⟨b, o, k _ _ e, r⟩
theorem PH.le_refl (F : PH) : F.le F := fun _ _ e => e
theorem PH.le_trans {F G H : PH} (a : F.le G) (b : G.le H) : F.le H := fun x o e => b x o (a x o e)

structure TopF (K : Frag) (mg mb : Str → Option Value) (F : PH) : Prop where
  k : ∀ a o, K.lookup a = some o → F a = some o
  g : ∃ o es ep, F mainGlobals = some o ∧ o.data = .dict es ep ∧ StrKeys es ∧ ∀ x, nsFind es x = mg x
  b : ∃ o es ep, F builtinsNs = some o ∧ o.data = .dict es ep ∧ StrKeys es ∧ ∀ x, nsFind es x = mb x
  lim : ∃ (mc : Str → Option Value) (o : Obj) (es : Array DictEntry) (ep : Nat), F cStatics = some o ∧ o.data = .dict es ep ∧ StrKeys es ∧ (∀ x, nsFind es x = mc x) ∧ mc "sys.recursionlimit" = none
  bi : ∀ x : Str, x ≠ "__name__" → mb x = bootBuiltins x
theorem TopF.mono {K mg mb} {F G : PH} (T : TopF K mg mb F) (k : F.le G) : TopF K mg mb G where
  k := fun a o e => k _ _ (T.k a o e)
  g := let ⟨o, es, ep, h, r⟩ := T.g; ⟨o, es, ep, k _ _ h, r⟩
  b := let ⟨o, es, ep, h, r⟩ := T.b; ⟨o, es, ep, k _ _ h, r⟩
  lim := let ⟨mc, o, es, ep, h, r⟩ := T.lim; ⟨mc, o, es, ep, k _ _ h, r⟩
  bi := T.bi

structure At (K : Frag) (mg mb : Str → Option Value) (P : Params) (F : PH) (N : List (Addr × OD)) (G : Array GenState) (O : OsState) (s : Shared) : Prop where
  top : TopF K mg mb F
  fz : ∀ a o, F a = some o → s.heap.get? a = some o
  nw : ∀ p ∈ N, (2 < p.1 ∧ F p.1 = none) ∧ Has P s.heap p.1 p.2
  nd : (N.map (·.1)).Nodup
  gn : s.gens = G
  os : s.os = O

section
variable {K : Frag} {mg mb : Str → Option Value} {P : Params} {F : PH} {N N' : List (Addr × OD)} {G : Array GenState} {O : OsState} {s : Shared}

theorem At.led (S : At K mg mb P F N G O s) {a D} (h : (a, D) ∈ N) : Has P s.heap a D := (S.nw _ h).2
theorem At.frz (S : At K mg mb P F N G O s) {a D} (h : Fz P F a D) : Has P s.heap a D := let ⟨_, o, e, r⟩ := h; ⟨o, S.fz _ _ e, r⟩
theorem At.inK (S : At K mg mb P F N G O s) : K.In s.heap := fun a o e => S.fz _ _ (S.top.k a o e)
theorem At.globals (S : At K mg mb P F N G O s) : s.heap.Ns mainGlobals mg := let ⟨o, es, ep, h, r⟩ := S.top.g; ⟨o, es, ep, S.fz _ _ h, r⟩
theorem At.bltins (S : At K mg mb P F N G O s) : s.heap.Ns builtinsNs mb := let ⟨o, es, ep, h, r⟩ := S.top.b; ⟨o, es, ep, S.fz _ _ h, r⟩
theorem At.nolimit (S : At K mg mb P F N G O s) : s.heap.NoLimit := let ⟨mc, o, es, ep, h, a, b, c, d⟩ := S.top.lim; ⟨mc, ⟨o, es, ep, S.fz _ _ h, a, b, c⟩, d⟩

/-- another state with the same heap -/
theorem At.same (S : At K mg mb P F N G O s) {s' : Shared} (h : s'.heap = s.heap) (g : s'.gens = s.gens) (o : s'.os = s.os) : At K mg mb P F N G O s' :=
  ⟨S.top, fun a x e => h ▸ S.fz a x e, fun p hp => ⟨(S.nw p hp).1, h ▸ (S.nw p hp).2⟩, S.nd, g.trans S.gn, o.trans S.os⟩
theorem At.sub (S : At K mg mb P F N G O s) (h : N'.Sublist N) : At K mg mb P F N' G O s :=
  ⟨S.top, S.fz, fun p hp => S.nw p (h.subset hp), (h.map _).nodup S.nd, S.gn, S.os⟩
theorem At.perm (S : At K mg mb P F N G O s) (h : N'.Perm N) : At K mg mb P F N' G O s :=
  ⟨S.top, S.fz, fun p hp => S.nw p (h.subset hp), (h.map _).nodup_iff.mpr S.nd, S.gn, S.os⟩

theorem At.fresh (S : At K mg mb P F N G O s) : F s.heap.objs.size = none ∧ s.heap.objs.size ∉ N.map (·.1) := by
  constructor
  · cases h : F s.heap.objs.size with
    | none => rfl
    | some o => exact absurd (Heap.lt_size (S.fz _ _ h)) (Nat.lt_irrefl _)
  · intro h
    obtain ⟨p, hp, e⟩ := List.mem_map.mp h
    obtain ⟨_, o, ho, _⟩ := S.nw p hp
    exact absurd (e ▸ Heap.lt_size ho) (Nat.lt_irrefl _)

theorem At.alloc (S : At K mg mb P F N G O s) {D : OD} {o : Obj} (hD : D.ok P o) {s' : Shared} (h : s'.heap = s.heap.push o) (g : s'.gens = s.gens) (os : s'.os = s.os) :
    At K mg mb P F ((s.heap.objs.size, D) :: N) G O s' := by
  have hf := OD.ok_live hD
  refine ⟨S.top, fun a x e => h ▸ Heap.get?_push_of_some _ (S.fz a x e), fun p hp => ?_, ?_, g.trans S.gn, os.trans S.os⟩
  · rcases List.mem_cons.mp hp with rfl | hp
    · have big : 2 < s.heap.objs.size := by
        obtain ⟨_, _, _, hg, _⟩ := S.top.g
        exact Nat.lt_trans (by decide) (Heap.lt_size (S.fz _ _ hg))
      exact ⟨⟨big, S.fresh.1⟩, o, h ▸ Heap.get?_push_size _ hf, hD⟩
    · obtain ⟨a, x, hx, r⟩ := S.nw p hp
      exact ⟨a, x, h ▸ Heap.get?_push_of_some _ hx, r⟩
  · rw [List.map_cons]
    exact List.nodup_cons.mpr ⟨S.fresh.2, S.nd⟩

/-- the ledger with one row turned -/
inductive LUpd : List (Addr × OD) → Addr → OD → List (Addr × OD) → Prop
  | head {a D D' r} : LUpd ((a, D) :: r) a D' ((a, D') :: r)
  | tail {a p D' r r'} : LUpd r a D' r' → LUpd (p :: r) a D' (p :: r')
theorem LUpd.keys {a D' N N'} (u : LUpd N a D' N') : N'.map (·.1) = N.map (·.1) := by
  induction u with
  | head => rfl
  | tail _ ih => rw [List.map_cons, List.map_cons, ih]
theorem LUpd.memKey {a D' N N'} (u : LUpd N a D' N') : a ∈ N.map (·.1) := by
  induction u with
  | head => exact .head _
  | tail _ ih => exact .tail _ ih
theorem LUpd.mem {a D' N N'} (u : LUpd N a D' N') (nd : (N.map (·.1)).Nodup) : ∀ p ∈ N', p = (a, D') ∨ (p ∈ N ∧ p.1 ≠ a) := by
  induction u with
  | @head a D D' r =>
    intro p hp
    rcases List.mem_cons.mp hp with rfl | hp
    · exact .inl rfl
    · refine .inr ⟨.tail _ hp, fun e => ?_⟩
      rw [List.map_cons] at nd
      have q := List.mem_map_of_mem (f := (·.1)) hp
      rw [show p.1 = a from e] at q
      exact (List.nodup_cons.mp nd).1 q
  | @tail a q D' r r' u ih =>
    intro p hp
    rw [List.map_cons] at nd
    obtain ⟨n1, n2⟩ := List.nodup_cons.mp nd
    rcases List.mem_cons.mp hp with rfl | hp
    · exact .inr ⟨.head _, fun e => n1 (e ▸ u.memKey)⟩
    · rcases ih n2 p hp with h | ⟨h, n⟩
      · exact .inl h
      · exact .inr ⟨.tail _ h, n⟩
theorem LUpd.had {a D' N N'} (u : LUpd N a D' N') : ∃ D, (a, D) ∈ N := by
  induction u with
  | head => exact ⟨_, .head _⟩
  | tail _ ih => exact ⟨ih.choose, .tail _ ih.choose_spec⟩

theorem At.upd (S : At K mg mb P F N G O s) {a : Addr} {D : OD} (u : LUpd N a D N') {h' : Heap} (hs : Heap.SameBut a s.heap h') (hD : Has P h' a D) {s' : Shared} (h : s'.heap = h') (g : s'.gens = s.gens) (os : s'.os = s.os) :
    At K mg mb P F N' G O s' := by
  subst h
  obtain ⟨D₀, hm⟩ := u.had
  have hF2 := (S.nw _ hm).1
  have hF := hF2.2
  refine ⟨S.top, fun b x e => ?_, fun p hp => ?_, by rw [u.keys]; exact S.nd, g.trans S.gn, os.trans S.os⟩
  · have ne : b ≠ a := fun z => by rw [z, hF] at e; cases e
    rw [hs.2 b ne]; exact S.fz b x e
  · rcases u.mem S.nd p hp with rfl | ⟨hp, ne⟩
    · exact ⟨hF2, hD⟩
    · obtain ⟨y, x, hx, r⟩ := S.nw p hp
      exact ⟨y, x, by rw [hs.2 _ ne]; exact hx, r⟩
end
end Mine

namespace Mine
section
variable {K : Frag} {mg mb : Str → Option Value} {F : PH} {N N' : List (Addr × OD)} {G : Array GenState} {O : OsState} {s : Shared}
variable {prog : Program} {w : World} {A : Around} {E : Value → Shared → Prop} {env : Env}

/-! names -/
theorem a_local {L : Addr} {l : List (Str × Value)} {x : Str} {v : Value} {pos : Pos} {Q : Value → Shared → Prop} (S : At K mg mb w.params F N G O s) (hN : (L, OD.ns l) ∈ N) (hv : (x, v) ∈ l) (h : Q v s)
    (hL : env.locals = L := by rfl) (hk : env.scope.kind = .function := by rfl) (hx : env.kindOf x = some .local := by rfl) (hd : (x == ("__debug__" : Str)) = false := by decide +kernel) :
    wpAny (model prog w) A (eval (.Name x pos) env) Q E s := by
  obtain ⟨o, ho, _, es, n, hdt, hs, hl⟩ := S.led hN
  subst hL
  refine wpAny_Name (wpAny_loadName_local (m := nsFind es) hk hx ⟨o, es, n, ho, hdt, hs, fun _ => rfl⟩ (hl _ hv) h) hd

theorem a_localN {L : Addr} {l : List (Str × Value)} {x : Str} {v : Value} {Q : Value → Shared → Prop} (S : At K mg mb w.params F N G O s) (hN : (L, OD.ns l) ∈ N) (hv : (x, v) ∈ l) (h : Q v s)
    (hL : env.locals = L := by rfl) (hk : env.scope.kind = .function := by rfl) (hx : env.kindOf x = some .local := by rfl) :
    wpAny (model prog w) A (loadName env x) Q E s := by
  obtain ⟨o, ho, _, es, n, hdt, hs, hl⟩ := S.led hN
  subst hL
  exact wpAny_loadName_local (m := nsFind es) hk hx ⟨o, es, n, ho, hdt, hs, fun _ => rfl⟩ (hl _ hv) h

theorem a_glob {x : Str} {v : Value} {pos : Pos} {Q : Value → Shared → Prop} (S : At K mg mb w.params F N G O s) (e : nsIn K mainGlobals x = some (some v)) (h : Q v s)
    (hg : env.globals = mainGlobals := by rfl) (hk : env.scope.kind = .function := by rfl) (hx : env.kindOf x = some .globalImplicit := by rfl) (hd : (x == ("__debug__" : Str)) = false := by decide +kernel) :
    wpAny (model prog w) A (eval (.Name x pos) env) Q E s :=
  Name_function_global hk hx (loadGlobal_global (env := env) (hg ▸ S.globals) (mg_of S.inK S.globals e) h) hd

theorem a_bltin {x : Str} {v : Value} {pos : Pos} {Q : Value → Shared → Prop} (S : At K mg mb w.params F N G O s) (e : nsIn K mainGlobals x = some none) (hv : bootBuiltins x = some v) (hn : x ≠ "__name__") (h : Q v s)
    (hg : env.globals = mainGlobals := by rfl) (hb : env.builtins = builtinsNs := by rfl) (hk : env.scope.kind = .function := by rfl) (hx : env.kindOf x = some .globalImplicit := by rfl) (hd : (x == ("__debug__" : Str)) = false := by decide +kernel) :
    wpAny (model prog w) A (eval (.Name x pos) env) Q E s :=
  Name_function_global hk hx (loadGlobal_builtin (env := env) (hg ▸ S.globals) (mg_none_of S.inK S.globals e) (hb ▸ S.bltins) ((S.top.bi x hn).trans hv) h) hd

theorem cell_of {a : Addr} {v : Option Value} {h : Heap} {P : Params} (x : Has P h a (.cell v)) : ∃ o, h.get? a = some o ∧ o.data = .cell v := let ⟨o, ho, hd, _⟩ := x; ⟨o, ho, hd⟩

/-- a name in a cell, of the own function or of an outer one -/
theorem a_cellN {c : Addr} {x : Str} {v : Value} {Q : Value → Shared → Prop} (hc : Has w.params s.heap c (.cell (some v))) (h : Q v s)
    (hcl : env.cells.lookup x = some c := by rfl) (hk : env.scope.kind = .function := by rfl) (hx : env.kindOf x = some .cell ∨ (env.kindOf x = some .free ∧ (x == ("__classdict__" : Str)) = false)) :
    wpAny (model prog w) A (loadName env x) Q E s := by
  obtain ⟨o, ho, hd⟩ := cell_of hc
  have L : ∀ Q : Option Value → Shared → Prop, Q (some v) s → wpAny (model prog w) A (cellOf env x >>= cellGet) Q E s := fun Q q => by
    refine wpAny_bind ?_
    unfold cellOf
    rw [hcl]
    refine wpAny_pure ?_
    unfold cellGet
    refine wpAny_bind (wpAny_load ho ?_)
    rw [hd]
    exact wpAny_pure q
  unfold loadName
  rcases hx with hx | ⟨hx, hn⟩
  · simp only [Env.blockKind, hk, hx, ScopeKind.isAnnotationScope, Bool.false_and, Bool.false_eq_true, if_false]
    show wpAny _ _ (cellOf env x >>= fun a => cellGet a >>= _) _ _ _
    rw [← bind_assoc]
    exact wpAny_bind (L _ (wpAny_pure h))
  · simp only [Env.blockKind, hk, hx, hn, ScopeKind.isAnnotationScope, Bool.false_and, Bool.false_eq_true, if_false]
    show wpAny _ _ (cellOf env x >>= fun a => cellGet a >>= _) _ _ _
    rw [← bind_assoc]
    exact wpAny_bind (L _ (wpAny_pure h))
theorem a_cell {c : Addr} {x : Str} {v : Value} {pos : Pos} {Q : Value → Shared → Prop} (hc : Has w.params s.heap c (.cell (some v))) (h : Q v s)
    (hcl : env.cells.lookup x = some c := by rfl) (hk : env.scope.kind = .function := by rfl) (hx : env.kindOf x = some .cell := by rfl) (hd : (x == ("__debug__" : Str)) = false := by decide +kernel) :
    wpAny (model prog w) A (eval (.Name x pos) env) Q E s := wpAny_Name (a_cellN hc h hcl hk (.inl hx)) hd
/-- the names with one of them stored -/
inductive LSet : List (Str × Value) → Str → Value → List (Str × Value) → Prop
  | nil {x v} : LSet [] x v [(x, v)]
  | head {x v u r} : LSet ((x, u) :: r) x v ((x, v) :: r)
  | tail {x v y u r r'} : y ≠ x → LSet r x v r' → LSet ((y, u) :: r) x v ((y, u) :: r')
theorem LSet.mem {l x v l'} (h : LSet l x v l') (nd : (l.map (·.1)).Nodup) : ∀ p ∈ l', p = (x, v) ∨ (p ∈ l ∧ p.1 ≠ x) := by
  induction h with
  | nil => intro p hp; rcases List.mem_singleton.mp hp with rfl; exact .inl rfl
  | @head x v u r =>
    intro p hp
    rcases List.mem_cons.mp hp with rfl | hp
    · exact .inl rfl
    · refine .inr ⟨.tail _ hp, fun e => ?_⟩
      have q := List.mem_map_of_mem (f := (·.1)) hp
      rw [show p.1 = x from e] at q
      exact (List.nodup_cons.mp nd).1 q
  | tail ne _ ih =>
    intro p hp
    rcases List.mem_cons.mp hp with rfl | hp
    · exact .inr ⟨.head _, ne⟩
    · rcases ih (List.nodup_cons.mp nd).2 p hp with h | ⟨h, n⟩
      · exact .inl h
      · exact .inr ⟨.tail _ h, n⟩
theorem LSet.keys {l x v l'} (h : LSet l x v l') : ∀ y ∈ l'.map (·.1), y = x ∨ y ∈ l.map (·.1) := by
  induction h with
  | nil => intro y hy; exact .inl (List.mem_singleton.mp hy)
  | head => intro y hy; exact .inr hy
  | tail ne _ ih =>
    intro y hy
    rcases List.mem_cons.mp hy with rfl | hy
    · exact .inr (.head _)
    · exact (ih y hy).imp id (.tail _)
theorem LSet.nodup {l x v l'} (h : LSet l x v l') (nd : (l.map (·.1)).Nodup) : (l'.map (·.1)).Nodup := by
  induction h with
  | nil => simp
  | head => exact nd
  | @tail x v y u r r' ne hh ih =>
    have n2 := List.nodup_cons.mp nd
    refine List.nodup_cons.mpr ⟨fun hy => ?_, ih n2.2⟩
    rcases hh.keys y hy with e | e
    · exact ne e
    · exact n2.1 e
theorem LSet.lookup {l x v l'} (h : LSet l x v l') (y : Str) : l'.lookup y = if y = x then some v else l.lookup y := by
  induction h with
  | @nil x v =>
    rw [List.lookup_cons]
    by_cases e : y = x
    · simp [e]
    · rw [beq_eq_false_iff_ne.mpr e, if_neg e]
  | @head x v u r =>
    simp only [List.lookup_cons]
    by_cases e : y = x
    · simp [e]
    · rw [beq_eq_false_iff_ne.mpr e, if_neg e]
  | @tail x v z u r r' ne hh ih =>
    simp only [List.lookup_cons, ih]
    by_cases e : y = z
    · subst e; simp [ne]
    · simp [beq_eq_false_iff_ne.mpr e]
theorem LSet.length {l x v l'} (h : LSet l x v l') : l'.length = if (l.lookup x).isSome then l.length else l.length + 1 := by
  induction h with
  | nil => rfl
  | head => simp [List.lookup_cons]
  | @tail x v z u r r' ne hh ih => simp only [List.length_cons, List.lookup_cons, beq_eq_false_iff_ne.mpr (Ne.symm ne), ih]; split <;> rfl
theorem lookup_of_mem {l : List (Str × Value)} (nd : (l.map (·.1)).Nodup) {x : Str} {v : Value} (h : (x, v) ∈ l) : l.lookup x = some v := by
  induction l with
  | nil => cases h
  | cons p r ih =>
    obtain ⟨y, u⟩ := p
    have n2 := List.nodup_cons.mp nd
    rcases List.mem_cons.mp h with e | h
    · cases e; simp [List.lookup_cons]
    · have : y ≠ x := fun e => by subst e; exact n2.1 (List.mem_map_of_mem (f := (·.1)) h)
      rw [List.lookup_cons, beq_eq_false_iff_ne.mpr (Ne.symm this)]
      exact ih n2.2 h
theorem lookup_none {l : List (Str × Value)} {x : Str} (h : ∀ y ∈ l.map (·.1), y ≠ x) : l.lookup x = none := by
  induction l with
  | nil => rfl
  | cons p r ih =>
    obtain ⟨y, u⟩ := p
    rw [List.lookup_cons, beq_eq_false_iff_ne.mpr (Ne.symm (h y (.head _)))]
    exact ih fun z hz => h z (.tail _ hz)

theorem a_store {L : Addr} {l l' : List (Str × Value)} {x : Str} {v : Value} {Q : Unit → Shared → Prop} (S : At K mg mb w.params F N G O s) (u : LUpd N L (.ns l') N') (hN : (L, OD.ns l) ∈ N) (hl : LSet l x v l')
    (h : ∀ s', At K mg mb w.params F N' G O s' → Q () s') (hL : env.locals = L := by rfl) (hx : env.kindOf x = some .local := by rfl)
    (hk : env.scope.kind = .function := by rfl) :
    wpAny (model prog w) A (storeName env x v) Q E s := by
  obtain ⟨o, ho, nd, es, n, hdt, hs, hf⟩ := S.led hN
  subst hL
  refine wpAny_storeName_local (m := nsFind es) hx ⟨o, es, n, ho, hdt, hs, fun _ => rfl⟩ (fun h' hn hsb => h _ (S.upd u hsb ?_ rfl rfl rfl)) (by rw [hk]; rfl)
  obtain ⟨o', es', n', ho', hd', hs', hf'⟩ := hn
  refine ⟨o', ho', hl.nodup nd, es', n', hd', hs', fun p hp => ?_⟩
  rw [hf']
  rcases hl.mem nd p hp with rfl | ⟨hp, ne⟩
  · exact if_pos rfl
  · show (if p.1 = x then _ else _) = _
    rw [if_neg ne]; exact hf p hp

theorem a_storeCell {c : Addr} {o₀ : Option Value} {x : Str} {v : Value} {Q : Unit → Shared → Prop} (S : At K mg mb w.params F N G O s) (hN : (c, OD.cell o₀) ∈ N) (u : LUpd N c (.cell (some v)) N')
    (h : ∀ s', At K mg mb w.params F N' G O s' → Q () s') (hcl : env.cells.lookup x = some c := by rfl) (hx : env.kindOf x = some .cell := by rfl) (hk : env.scope.kind = .function := by rfl) :
    wpAny (model prog w) A (storeName env x v) Q E s := by
  obtain ⟨o, ho, hd, hsl⟩ := S.led hN
  have e : storeName env x v = (cellOf env x >>= fun a => cellSet a (some v)) := by
    unfold storeName
    simp only [Env.blockKind, hk, hx]
    rfl
  rw [e]
  refine wpAny_bind ?_
  unfold cellOf
  rw [hcl]
  refine wpAny_pure ?_
  unfold cellSet
  refine wpAny_bind (wpAny_load ho ?_)
  rw [hd]
  refine wpAny_update ho (h _ (S.upd u (Heap.SameBut.update ..) ⟨_, Heap.get?_update_self _ ho rfl, rfl, hsl⟩ rfl rfl rfl))
end
end Mine

open PySem PySem.W PyProof.Rows PySem.Calls PySem.Builtin.ObjectAttr
namespace Mine
theorem lookIn_of {es : Array DictEntry} {c : Value} {d : Option Addr} {n : Nat} {sl} {x : Str} (hs : StrKeys es) : lookIn x ⟨c, d, .dict es n, sl⟩ = some (nsFind es x) := by
  unfold lookIn nsFind findBy
  dsimp only
  rw [← Array.find?_toList]
  cases h : List.find? (fun e => e.key.isStr x) es.toList with
  | some e => rfl
  | none =>
    have : es.toList.any (·.refKey) = false := by
      rw [List.any_eq_false]
      intro e he
      obtain ⟨y, t, hk⟩ := hs e (Array.mem_toList_iff.mp he)
      simp [DictEntry.refKey, hk]
    rw [this]; rfl

def fieldName (K : Frag) (C : Addr) (name : Str) : Bool := (clsIn K C).any (·.hasDict) && (findIn K (.ref C) name == some none) && (!copiedNames.contains name)
def hasGA (K : Frag) (C : Addr) : Bool := findIn K (.ref C) "__getattribute__" == some (some (.builtin "object.__getattribute__"))
/-- the name is a def of the class -/
def defName (K : Frag) (C : Addr) (name : Str) (f : Addr) : Bool :=
  (clsIn K C).any (·.hasDict) && (findIn K (.ref C) name == some (some (.ref f))) && isFn K (.ref f) && (findIn K (.ref C) "__getattr__" == some none)

section
variable {K : Frag} {mg mb : Str → Option Value} {F : PH} {N N' : List (Addr × OD)} {G : Array GenState} {O : OsState} {s : Shared}
variable {prog : Program} {w : World} {A : Around} {E : Value → Shared → Prop} {env : Env}

theorem instAt_of {P : Params} {h : Heap} {x C d : Addr} {l : List (Str × Value)} (hx : Has P h x (.inst C d)) (hd : Has P h d (.fld l)) :
    ∃ ox od, InstAt h x ox C (some od) ∧ ox.dict = some d ∧ (∀ name, lookIn name od = some (l.lookup name)) ∧ h.get? d = some od := by
  obtain ⟨ox, hox, hc, hdt, hp⟩ := hx
  obtain ⟨od, hod, hcd, hdd, nd, es, n, he, hs, hz, hl⟩ := hd
  refine ⟨ox, od, ⟨hox, hc, by unfold notCls; rw [hp], by rw [hdt]; exact hod⟩, hdt, fun name => ?_, hod⟩
  obtain ⟨c, dd, dt, sl⟩ := od
  subst he
  rw [lookIn_of hs, hl]

theorem a_field {x C d : Addr} {l : List (Str × Value)} {name : Str} {v : Value} {expr : Bool} {Q : Value → Shared → Prop} (S : At K mg mb w.params F N G O s) (hx : Has w.params s.heap x (.inst C d)) (hd : Has w.params s.heap d (.fld l))
    (hv : (name, v) ∈ l) (hf : fieldName K C name = true) (hg : hasGA K C = true) (h : ∀ s', At K mg mb w.params F N G O s' → Q v s') (hh : handedIn v = true := by rfl) : wpAny (model prog w) A (getAttr (.ref x) name expr) Q E s := by
  obtain ⟨ox, od, I, _, hl, _⟩ := instAt_of hx hd
  obtain ⟨_, _, _, _, nd, _⟩ := hd
  simp only [fieldName, Bool.and_eq_true, beq_iff_eq, Bool.not_eq_true'] at hf
  obtain ⟨⟨h1, h2⟩, h3⟩ := hf
  obtain ⟨cd, hc, hcd⟩ := any_some h1
  refine get_value (v := v) S.inK I (beq_iff_eq.mp hg) ?_ hh (h _ (S.same rfl rfl rfl))
  unfold findObj
  rw [hc, Option.bind_some, h2, Option.bind_some]
  simp only [Option.bind_some]
  unfold W.ownOf
  rw [hcd, if_pos rfl]
  dsimp only
  rw [hl, lookup_of_mem nd hv]
  rfl

/-- a value of the class through the instance -/
def clsValue (K : Frag) (C : Addr) (name : Str) (v : Value) : Bool :=
  (clsIn K C).any (·.hasDict) && (findIn K (.ref C) name == some (some v)) && (specialIn K v "__get__" == some none) && handedIn v && !(copiedNames.contains name)
theorem a_clsValue {x C d : Addr} {l : List (Str × Value)} {name : Str} {v : Value} {expr : Bool} {Q : Value → Shared → Prop} (S : At K mg mb w.params F N G O s) (hx : Has w.params s.heap x (.inst C d)) (hd : Has w.params s.heap d (.fld l))
    (hf : clsValue K C name v = true) (hg : hasGA K C = true) (hn : ∀ y ∈ l.map (·.1), y ≠ name) (h : ∀ s', At K mg mb w.params F N G O s' → Q v s') : wpAny (model prog w) A (getAttr (.ref x) name expr) Q E s := by
  obtain ⟨ox, od, I, _, hl, _⟩ := instAt_of hx hd
  simp only [clsValue, Bool.and_eq_true, beq_iff_eq, Bool.not_eq_true'] at hf
  obtain ⟨⟨⟨⟨h1, h2⟩, h3⟩, h4⟩, h5⟩ := hf
  obtain ⟨cd, hc, hcd⟩ := any_some h1
  refine get_value (v := v) S.inK I (beq_iff_eq.mp hg) ?_ h4 (h _ (S.same rfl rfl rfl))
  unfold findObj
  rw [hc, Option.bind_some, h2, Option.bind_some]
  dsimp only
  rw [h3, Option.bind_some]
  simp only [Option.bind_some]
  unfold W.ownOf
  rw [hcd, if_pos rfl]
  dsimp only
  rw [hl, lookup_none hn]
  simp only [Option.bind_some, h5, Bool.false_and, Bool.false_eq_true, if_false]
  rw [if_pos h4]

/-- a def of the class, as the callee of a call -/
theorem a_methodOf {x C d f : Addr} {l : List (Str × Value)} {name : Str} {pl : Sem Bool} {Q : Value × List Value → Shared → Prop} (S : At K mg mb w.params F N G O s) (hx : Has w.params s.heap x (.inst C d)) (hd : Has w.params s.heap d (.fld l))
    (hf : defName K C name f = true) (hg : hasGA K C = true) (hn : ∀ y ∈ l.map (·.1), y ≠ name) (h : Q (.ref f, [.ref x]) s) : wpAny (model prog w) A (getMethod (.ref x) name pl) Q E s := by
  obtain ⟨ox, od, I, hdx, hl, hod⟩ := instAt_of hx hd
  simp only [defName, Bool.and_eq_true, beq_iff_eq] at hf
  obtain ⟨⟨⟨h1, h2⟩, h3⟩, h4⟩ := hf
  have hns : s.heap.Ns d (fun y => l.lookup y) := by
    obtain ⟨o, ho, _, _, _, es, n, he, hs, _, hl⟩ := hd
    exact ⟨o, es, n, ho, he, hs, hl⟩
  unfold getMethod
  refine wpAny_bind (wpAny_bind (I.type.here ((looks_findIn S.inK (beq_iff_eq.mp hg)).here ?_)))
  dsimp only
  rw [if_neg (by decide +kernel)]
  refine wpAny_bind (wpAny_bind (I.type.here ((looks_findIn S.inK h4).here ?_)))
  simp only [Option.isSome_none, Bool.false_eq_true, if_false]
  refine wpAny_bind (wpAny_bind (I.type.here ((looks_findIn S.inK h2).here ?_)))
  dsimp only
  have tf : typeIn K (.ref f) = some (.type "function") := beq_iff_eq.mp h3
  refine wpAny_bind ((looks_typeIn S.inK tf).here ?_)
  rw [if_neg (by decide +kernel)]
  refine wpAny_bind (wpAny_loadPart I.at_ ?_)
  rw [hdx]
  refine wpAny_bind (wpAny_nsGet hns ?_)
  rw [lookup_none hn]
  simp only [Option.isSome_none, Bool.false_eq_true, if_false]
  exact wpAny_bind (wpAny_rule (wpAny_pure h))
end
end Mine

namespace Mine
/-- a step that never raises: good for every end of a raise -/
def Ok {α : Type} (M : Model) (A : Around) (t : Sem α) (Q : α → Shared → Prop) (s : Shared) : Prop := ∀ E, wpAny M A t Q E s
def flowVal : Flow → Value | .ret v => v | _ => .none

def cellNames : List (Str × NameKind) → List Str
  | [] => []
  | (n, k) :: r => if k == .cell then n :: cellNames r else cellNames r
def zipCells : List Str → List Addr → List (Str × Addr) → List (Str × Addr)
  | n :: ns, c :: cs, acc => zipCells ns cs ((n, c) :: acc)
  | _, _, acc => acc
def cellRows : List Addr → List (Addr × OD) → List (Addr × OD)
  | c :: cs, acc => cellRows cs ((c, .cell none) :: acc)
  | [], acc => acc
def BindAll (M : Model) (A : Around) (env : Env) (E : Value → Shared → Prop) (Q : Shared → Prop) : List (Str × Value) → Shared → Prop
  | [], s => Q s
  | (x, v) :: r, s => wpAny M A (storeName env x v) (fun _ s' => BindAll M A env E Q r s') E s

section
variable {K : Frag} {mg mb : Str → Option Value} {F : PH} {N N' : List (Addr × OD)} {G : Array GenState} {O : OsState} {s : Shared}
variable {prog : Program} {w : World} {A : Around} {E : Value → Shared → Prop} {env : Env}

theorem cells_loop {β : Type} (names : List (Str × NameKind)) : ∀ {N : List (Addr × OD)} {s : Shared} (cells : List (Str × Addr)) (k : List (Str × Addr) → Sem β) (Q : β → Shared → Prop), At K mg mb w.params F N G O s →
    (∀ cs s', cs.length = (cellNames names).length → At K mg mb w.params F (cellRows cs N) G O s' → wpAny (model prog w) A (k (zipCells (cellNames names) cs cells)) Q E s') →
    wpAny (model prog w) A ((forIn names cells fun x r => match x with
      | (name, kind) => if (kind == .cell) = true then do
          let __do_lift ← alloc { cls := .type "cell", data := .cell none }
          pure (ForInStep.yield ((name, __do_lift) :: r))
        else pure (ForInStep.yield r)) >>= k) Q E s := by
  induction names with
  | nil =>
    intro N s cells k Q S h
    rw [List.forIn_nil]
    exact wpAny_bind (wpAny_pure (h [] s rfl S))
  | cons p r ih =>
    obtain ⟨n, kd⟩ := p
    intro N s cells k Q S h
    rw [List.forIn_cons]
    cases hk : kd == .cell with
    | true =>
      simp only [hk, if_true, bind_assoc]
      refine wpAny_bind (wpAny_alloc (wpAny_bind (wpAny_pure ?_)))
      refine ih _ k Q (S.alloc (D := .cell none) ⟨rfl, rfl⟩ rfl rfl rfl) fun cs s' hl S' => ?_
      have := h (s.heap.objs.size :: cs) s' (by simp [cellNames, hk, hl]) S'
      simpa [cellNames, hk, zipCells] using this
    | false =>
      simp only [hk, Bool.false_eq_true, if_false]
      rw [bind_assoc]
      refine wpAny_bind (wpAny_pure ?_)
      refine ih _ k Q S fun cs s' hl S' => ?_
      have := h cs s' (by simpa [cellNames, hk] using hl) S'
      simpa [cellNames, hk] using this

theorem binds_loop {β : Type} {env : Env} (k : PUnit → Sem β) (Q : β → Shared → Prop) : ∀ (binds : List (Str × Value)) {s : Shared},
    BindAll (model prog w) A env E (fun s' => wpAny (model prog w) A (k ⟨⟩) Q E s') binds s →
    wpAny (model prog w) A ((forIn binds PUnit.unit fun x r => match x with
      | (name, v) => do storeName env name v; pure (ForInStep.yield PUnit.unit)) >>= k) Q E s
  | [], s, h => by
    rw [List.forIn_nil]
    exact wpAny_bind (wpAny_pure h)
  | (x, v) :: r, s, h => by
    rw [List.forIn_cons]
    simp only [bind_assoc]
    refine wpAny_bind (wpAny_mono h (fun _ s' z => ?_) fun _ _ y => y)
    refine wpAny_bind (wpAny_pure ?_)
    exact binds_loop k Q r z

theorem bindAll_mono {M : Model} {Q Q' : Shared → Prop} (hq : ∀ s, Q s → Q' s) : ∀ (l : List (Str × Value)) (s : Shared), BindAll M A env E Q l s → BindAll M A env E Q' l s
  | [], s, x => hq s x
  | _ :: r, s, x => wpAny_mono x (fun _ s' y => bindAll_mono hq r s' y) fun _ _ y => y

/-- the frame of a def's call -/
def envFor (fd : FuncData) (f L : Addr) (cs : List Addr) : Env :=
  { scope := fd.scope, locals := L, globals := fd.globals, cells := zipCells (cellNames fd.scope.names) cs fd.closure, qual := fd.qualname ++ ".<locals>.", func := some f, code := fd.code, frame := some L, builtins := fd.builtins }

theorem new_env {fd : FuncData} {f : Addr} {binds : List (Str × Value)} {Q : Env → Shared → Prop} (S : At K mg mb w.params F N G O s)
    (h : ∀ L cs s', cs.length = (cellNames fd.scope.names).length → At K mg mb w.params F (cellRows cs ((L, .ns []) :: N)) G O s' →
      BindAll (model prog w) A (envFor fd f L cs) E (fun s' => Q (envFor fd f L cs) s') binds s') :
    wpAny (model prog w) A (newFunctionEnv fd.scope fd.globals fd.closure binds (fd.qualname ++ ".<locals>.") (some f) fd.code none fd.builtins) Q E s := by
  unfold newFunctionEnv
  refine wpAny_bind (wpAny_alloc ?_)
  refine cells_loop (N := (s.heap.objs.size, .ns []) :: N) fd.scope.names fd.closure _ Q (S.alloc (D := .ns []) (s' := { s with heap := _ }) ?_ rfl rfl rfl) fun cs s' hl S' => ?_
  · exact ⟨List.nodup_nil, #[], 0, rfl, fun e he => by simp at he, fun p hp => nomatch hp⟩
  · exact binds_loop (β := Env) (env := envFor fd f s.heap.objs.size cs) (fun _ => pure (envFor fd f s.heap.objs.size cs)) Q binds (bindAll_mono (fun s' z => wpAny_pure z) _ _ (h _ cs s' hl S'))

theorem enter_def {f : Addr} {oc : Value} {od : Option Addr} {osl : Array (Option Value)} {fd : FuncData} {body : List Stmt} {args : Args} {binds : List (Str × Value)} {R : Result → Shared → Prop}
    (S : At K mg mb w.params F N G O s) (ho : K.lookup f = some ⟨oc, od, .func fd, osl⟩) (hcd : codeIn K fd.code fd.qualname = true) (hroom : A.depth < recursionLimit) (hbody : fd.body = .stmts body)
    (hbind : peek K ⟨prog, w.params⟩ (bindArgs fd args) = some binds)
    (h : ∀ L cs s', cs.length = (cellNames fd.scope.names).length → At K mg mb w.params F (cellRows cs ((L, .ns []) :: N)) G O s' →
      BindAll (model prog w) A.in1 (envFor fd f L cs) (fun e s' => R (.error e) s') (fun s'' => s''.heap.NoLimit ∧ Ok (model prog w) (A.deeper (envFor fd f L cs)) (execs body (envFor fd f L cs)) (fun fl s3 => R (.ok (.ret (flowVal fl))) s3) s'') binds s')
    (hco : fd.scope.isCoroutine = false := by rfl) (hgen : fd.scope.isGenerator = false := by rfl) :
    codeAny (model prog w) A (.call (.ref f) args) R s := by
  refine codeAny_call_function hroom (S.inK _ _ ho) rfl hco hgen hbody (codeRec_of S.inK hcd) ?_
  refine (Looks.of_peek (M := model prog w) S.inK hbind).here ?_
  refine new_env S fun L cs s' hl S' => ?_
  refine bindAll_mono (fun s'' hs => ⟨hs.1, ?_⟩) _ _ (h L cs s' hl S')
  refine codeAny_func (wpAny_mono (hs.2 _) (fun fl s3 z => ?_) fun _ _ z => z)
  cases fl <;> exact z
end
end Mine

namespace Mine
theorem putName_fld {P : Params} {o : Obj} {l l' : List (Str × Value)} {name : Str} {v : Value} {hs : Int} {t : Tok} (ho : (OD.fld l).ok P o) (hl : LSet l name v l') : (OD.fld l').ok P (Obj.putName name hs (.str name t) v o) := by
  obtain ⟨hc, hd, nd, es, n, he, hk, hz, hf⟩ := ho
  obtain ⟨c, d, dt, sl⟩ := o
  dsimp only at hc hd he
  subst he hc hd
  cases hi : es.findIdx? (·.key.isStr name) with
  | some i =>
    refine ⟨by simp only [Obj.putName_eq, Obj.putNameByArray, hi], by simp only [Obj.putName_eq, Obj.putNameByArray, hi], hl.nodup nd, _, n, by simp only [Obj.putName_eq, Obj.putNameByArray, hi]; rfl, hk.modify _ _, ?_, fun x => ?_⟩
    · rw [Array.size_modify, hl.length]; split <;> omega
    · rw [hl.lookup, ← hf]
      exact findBy_modify (fun n v => v.isStr n) Value.isStr_inj es name x v i hi
  | none =>
    have hn : l.lookup name = none := by
      rw [← hf, nsFind, findBy_of_findIdx?, hi]
    refine ⟨by simp only [Obj.putName_eq, Obj.putNameByArray, hi], by simp only [Obj.putName_eq, Obj.putNameByArray, hi], hl.nodup nd, _, n + 1, by simp only [Obj.putName_eq, Obj.putNameByArray, hi]; rfl, hk.push _ _ _ _, ?_, fun x => ?_⟩
    · rw [Array.size_push, hl.length, hn]; simp; omega
    · rw [hl.lookup, ← hf]
      exact findBy_push (fun n v => v.isStr n) es name x _ _ v (fun y => by
        show (name == y) = decide (y = name)
        by_cases h : y = name
        · subst h; simp
        · have : ¬ name = y := fun e => h e.symm
          simp [h, this]) hi

/-- a store of an attribute goes to the own dict -/
def setName (K : Frag) (C : Addr) (name : Str) : Bool :=
  (findIn K (.ref C) "__setattr__" == some (some (.builtin "object.__setattr__"))) && plainOver K C && (takerIn K C name == some none) && (clsIn K C).any (·.hasDict)

section
variable {K : Frag} {mg mb : Str → Option Value} {F : PH} {N N' : List (Addr × OD)} {G : Array GenState} {O : OsState} {s : Shared}
variable {prog : Program} {w : World} {A : Around} {E : Value → Shared → Prop} {env : Env}

theorem a_setattr {x C d : Addr} {l l' : List (Str × Value)} {name : Str} {v : Value} {Q : Unit → Shared → Prop} (S : At K mg mb w.params F N G O s) (hx : Has w.params s.heap x (.inst C d)) (hd : (d, OD.fld l) ∈ N)
    (hf : setName K C name = true) (hl : LSet l name v l') (u : LUpd N d (.fld l') N') (hz : l.length ≤ 1000)
    (h : ∀ s', At K mg mb w.params F N' G O s' → Q () s') : wpAny (model prog w) A (setAttr (.ref x) name v) Q E s := by
  obtain ⟨ox, od, I, hdx, hlk, hod⟩ := instAt_of hx (S.led hd)
  simp only [setName, Bool.and_eq_true, beq_iff_eq] at hf
  obtain ⟨⟨⟨h1, h2⟩, h3⟩, h4⟩ := hf
  obtain ⟨cd, hc, hcd⟩ := any_some h4
  refine set_plain S.inK I h1 ?_
  have S1 : At K mg mb w.params F N G O { s with toks := s.toks + 1 } := S.same rfl rfl rfl
  refine osa_open (s := { s with toks := s.toks + 1 }) S1.inK I h2 h3 fun b => ?_
  obtain ⟨od₂, hod₂, okd⟩ := S.led hd
  have : od₂ = od := Option.some.inj (hod₂.symm.trans hod)
  subst this
  obtain ⟨hxx, hcl, hn, -⟩ := I
  obtain ⟨oc, odi, oda, osl⟩ := ox
  dsimp only at hcl hdx
  subst hcl hdx
  refine wpAny_bind (wpAny_pure (wpAny_bind (wpAny_bind (wpAny_loadPart hxx (wpAny_bind ((looks_clsIn S1.inK hc).here ?_))))))
  rw [hcd]
  refine wpAny_pure (a := some d) (wpAny_bind (wpAny_pure (wpAny_bind ?_)))
  have hd' := hod
  have okd' := okd
  obtain ⟨hc9, hd9, nd, es, n, he, hk, hze, hff⟩ := okd'
  unfold nsSet
  refine wpAny_bind (wpAny_bind (wpAny_askSetting (wpAny_pure (wpAny_bind (wpAny_mkText (wpAny_bind (wpAny_loadPart hod ?_)))))))
  rw [he]
  have c : (!es.any (·.key.isStr name) && es.any (·.refKey)) = false := by
    have : es.any (·.refKey) = false := by
      rw [Array.any_eq_false']; intro e he; obtain ⟨n, t, h⟩ := hk e he; simp [DictEntry.refKey, h]
    rw [this, Bool.and_false]
  dsimp only
  rw [aRefKeyMayBeTheName_at, c]
  have ok2 := putName_fld (hs := PyData.keyHash w.params name) (t := s.toks + 1) okd hl
  refine wpAny_updatePart hod ?_
  have hne : (s.heap.update d (Obj.putName name (PyData.keyHash w.params name) (.str name (s.toks + 1)) v)).get? d = some _ := Heap.get?_update_self _ hod (OD.ok_live ok2)
  refine wpAny_bind (wpAny_lookBehind hne ?_ ?_)
  · obtain ⟨_, _, _, es', n', he', _, hz', _⟩ := ok2
    rw [he']
    refine pastItsLine_dict ?_
    have := hl.length
    rw [sizeLine_eq]
    split at this <;> omega
  · exact wpAny_pure (h _ (S.upd u (Heap.SameBut.update ..) ⟨_, hne, ok2⟩ rfl rfl rfl))

/-- an object of an own class is made -/
theorem a_make {C fI : Addr} {pos : List Value} {kw : List (Str × Value)} {Q : Value → Shared → Prop} (S : At K mg mb w.params F N G O s) (hm : makesIn K C = true) (hi : findIn K (.ref C) "__init__" = some (some (.ref fI))) (hf : isFn K (.ref fI) = true)
    (h : ∀ x d s', At K mg mb w.params F ((x, .inst C d) :: (d, .fld []) :: N) G O s' →
      codeAny (model prog w) (A.under (.builtin "type.__call__" ⟨.ref C :: pos, kw⟩)) (.call (.ref fI) ⟨.ref x :: pos, kw⟩) (InitBack x fun r s' => match r with | .ok (.ret v) => Q v s' | .ok _ => False | .error e => E e s') s') :
    wpAny (model prog w) A (call (.ref C) pos kw) Q E s := by
  obtain ⟨hh, g, dr, t, os⟩ := s
  refine wpAny_call (make_core (makes_of S.inK hm) (looks_findIn S.inK hi) (fun self => bind_fn S.inK self (beq_iff_eq.mp hf)) (.inl rfl) (h _ hh.objs.size _ ?_))
  have S1 := S.alloc (D := .fld []) (o := emptyDict) ⟨rfl, rfl, List.nodup_nil, #[], 0, rfl, fun e he => by simp at he, Nat.le_refl _, fun _ => rfl⟩ (s' := ⟨hh.push emptyDict, g, dr, t, os⟩) rfl rfl rfl
  have S2 := S1.alloc (D := .inst C hh.objs.size) (o := instObj C hh.objs.size) ⟨rfl, rfl, rfl⟩ (s' := ⟨(hh.push emptyDict).push (instObj C hh.objs.size), g, dr, t, os⟩) rfl rfl rfl
  rw [show (⟨hh.push emptyDict, g, dr, t, os⟩ : Shared).heap.objs.size = hh.objs.size + 1 from Heap.size_push ..] at S2
  exact S2
end
end Mine

namespace Mine
theorem At.updT {K mg mb P F G O s} {N N' : List (Addr × OD)} (S : At K mg mb P F N G O s) {a : Addr} {D : OD} (u : LUpd N a D N') {h' : Heap} (hs : Heap.SameBut a s.heap h') (hD : Has P h' a D) {dr : Drawn} {t : Nat} :
    At K mg mb P F N' G O ⟨h', s.gens, dr, t, s.os⟩ := S.upd u hs hD (s' := ⟨h', s.gens, dr, t, s.os⟩) rfl rfl rfl
theorem At.allocT {K mg mb P F G O s} {N : List (Addr × OD)} (S : At K mg mb P F N G O s) {D : OD} {o : Obj} (hD : D.ok P o) {dr : Drawn} {t : Nat} :
    At K mg mb P F ((s.heap.objs.size, D) :: N) G O ⟨s.heap.push o, s.gens, dr, t, s.os⟩ := S.alloc hD (s' := ⟨s.heap.push o, s.gens, dr, t, s.os⟩) rfl rfl rfl
structure Cx where
  K : Frag
  mg : Str → Option Value
  mb : Str → Option Value
  prog : Program
  w : World
  O : OsState
structure Led where
  F : PH
  N : List (Addr × OD)
  G : Array GenState
abbrev Cx.At (X : Cx) (l : Led) (s : Shared) : Prop := Mine.At X.K X.mg X.mb X.w.params l.F l.N l.G X.O s
abbrev Cx.M (X : Cx) : Model := model X.prog X.w
abbrev Cx.P (X : Cx) : Params := X.w.params

def Tr {α : Type} (X : Cx) (A : Around) (l : Led) (t : Sem α) (R : α → Led → Prop) : Prop :=
  ∀ s E, X.At l s → wpAny X.M A t (fun v s' => ∃ l', X.At l' s' ∧ R v l') E s
def Cl (X : Cx) (A : Around) (l : Led) (c : Code) (R : Flow → Led → Prop) : Prop :=
  ∀ s R', X.At l s → (∀ f s' l', X.At l' s' → R f l' → R' (.ok f) s') → codeAny X.M A c R' s

inductive Rem {α : Type} : List α → α → List α → Prop
  | head {a l} : Rem (a :: l) a l
  | tail {a b l l'} : Rem l a l' → Rem (b :: l) a (b :: l')
inductive Pick {α : Type} : List α → List α → Prop
  | refl {l} : Pick l l
  | drop {b l l'} : Pick l l' → Pick (b :: l) l'
  | cons {a l l' l''} : Rem l a l' → Pick l' l'' → Pick l (a :: l'')
theorem Rem.perm {α : Type} {l l' : List α} {a : α} (h : Rem l a l') : l.Perm (a :: l') := by
  induction h with
  | head => exact .refl _
  | tail _ ih => exact (ih.cons _).trans (.swap ..)
theorem At.rem {K mg mb P F G O s} {N N' : List (Addr × OD)} {p : Addr × OD} (S : At K mg mb P F N G O s) (h : Rem N p N') : At K mg mb P F (p :: N') G O s := S.perm h.perm.symm
theorem At.tl {K mg mb P F G O s} {N' : List (Addr × OD)} {p : Addr × OD} (S : At K mg mb P F (p :: N') G O s) : At K mg mb P F N' G O s := S.sub (List.sublist_cons_self ..)
theorem Rem.mem {α : Type} {l l' : List α} {a : α} (h : Rem l a l') : ∀ p ∈ a :: l', p ∈ l := fun p hp => h.perm.mem_iff.mpr hp
theorem Pick.sub {α : Type} {N N' : List α} (h : Pick N N') : ∀ p ∈ N', p ∈ N := by
  induction h with
  | refl => exact fun _ h => h
  | drop _ ih => exact fun p h => .tail _ (ih p h)
  | cons r _ ih => exact fun p h => r.mem p ((List.mem_cons.mp h).elim (fun e => List.mem_cons.mpr (.inl e)) fun h => .tail _ (ih p h))
theorem Pick.nodup {N N' : List (Addr × OD)} (h : Pick N N') : (N.map (·.1)).Nodup → (N'.map (·.1)).Nodup := by
  induction h with
  | refl => exact id
  | drop _ ih => exact fun h => ih (List.nodup_cons.mp h).2
  | @cons a l l' l'' r p ih =>
    intro h
    have h' := (r.perm.map (·.1)).nodup_iff.mp h
    rw [List.map_cons, List.nodup_cons] at h' ⊢
    refine ⟨fun q => h'.1 ?_, ih h'.2⟩
    obtain ⟨x, hx, e⟩ := List.mem_map.mp q
    exact e ▸ List.mem_map_of_mem (f := (·.1)) (p.sub x hx)
theorem At.pick {K mg mb P F G O s} {N N' : List (Addr × OD)} (S : At K mg mb P F N G O s) (h : Pick N N') : At K mg mb P F N' G O s :=
  ⟨S.top, S.fz, fun p hp => S.nw p (h.sub p hp), h.nodup S.nd, S.gn, S.os⟩

/-- good after a forgetting of rows -/
def Wk {α : Type} (R : α → Led → Prop) (v : α) (l : Led) : Prop := ∃ N, Pick l.N N ∧ R v ⟨l.F, N, l.G⟩

section
variable {α β : Type} {X : Cx} {A : Around} {l : Led} {env : Env}
variable {F : PH} {N N' : List (Addr × OD)} {G : Array GenState}

theorem Tr.use {t : Sem α} {R : α → Led → Prop} {s E} {Q : α → Shared → Prop} (h : Tr X A l t R) (S : X.At l s) (k : ∀ v s' l', X.At l' s' → R v l' → Q v s') : wpAny X.M A t Q E s :=
  wpAny_mono (h s E S) (fun v s' ⟨l', S', r⟩ => k v s' l' S' r) fun _ _ x => x
theorem Tr.mono {t : Sem α} {R R' : α → Led → Prop} (h : Tr X A l t R) (k : ∀ v l', R v l' → R' v l') : Tr X A l t R' :=
  fun s E S => h.use S fun v s' l' S' r => ⟨l', S', k v l' r⟩
theorem tr_wk {t : Sem α} {R : α → Led → Prop} (h : Tr X A l t (Wk R)) : Tr X A l t R :=
  fun s E S => h.use S fun v s' l' S' ⟨N, p, r⟩ => ⟨⟨l'.F, N, l'.G⟩, S'.pick p, r⟩
theorem tr_pick {t : Sem α} {R : α → Led → Prop} (p : Pick N N') (h : Tr X A ⟨F, N', G⟩ t R) : Tr X A ⟨F, N, G⟩ t R := fun s E S => h s E (S.pick p)
theorem cl_pick {c : Code} {R : Flow → Led → Prop} (p : Pick N N') (h : Cl X A ⟨F, N', G⟩ c R) : Cl X A ⟨F, N, G⟩ c R := fun s R' S => h s R' (S.pick p)
theorem Cl.mono {c : Code} {R R' : Flow → Led → Prop} (h : Cl X A l c R) (k : ∀ v l', R v l' → R' v l') : Cl X A l c R' :=
  fun s R'' S q => h s R'' S fun f s' l' S' r => q f s' l' S' (k _ _ r)
theorem tr_pure {v : α} {R : α → Led → Prop} (h : R v l) : Tr X A l (pure v) R := fun s E S => wpAny_pure ⟨l, S, h⟩
theorem tr_bind {m : Sem α} {f : α → Sem β} {R : β → Led → Prop} (h : Tr X A l m fun a l' => Tr X A l' (f a) R) : Tr X A l (m >>= f) R :=
  fun s E S => wpAny_bind (h.use S fun _ s' l' S' k => k s' E S')
/-- a row is frozen -/
theorem At.freeze {K mg mb P O s} {a : Addr} {D : OD} {N' : List (Addr × OD)} (S : At K mg mb P F ((a, D) :: N') G O s) : ∃ F', F.le F' ∧ Fz P F' a D ∧ At K mg mb P F' N' G O s := by
  obtain ⟨⟨hb, hn⟩, o, ho, ok⟩ := S.nw (a, D) (.head _)
  have le : F.le (fun b => if b = a then some o else F b) := fun b x e => by
    show (if b = a then _ else _) = _
    by_cases h : b = a
    · rw [h, hn] at e; cases e
    · rw [if_neg h]; exact e
  refine ⟨_, le, ⟨hb, o, if_pos rfl, ok⟩, S.top.mono le, fun b x e => ?_, fun p hp => ⟨⟨(S.nw p (.tail _ hp)).1.1, ?_⟩, (S.nw p (.tail _ hp)).2⟩, (List.nodup_cons.mp S.nd).2, S.gn, S.os⟩
  · by_cases h : b = a
    · rw [if_pos h] at e; cases e; rw [h]; exact ho
    · rw [if_neg h] at e; exact S.fz b x e
  · have : p.1 ≠ a := fun e => (List.nodup_cons.mp S.nd).1 (e ▸ List.mem_map_of_mem (f := (·.1)) hp)
    show (if p.1 = a then _ else _) = _
    rw [if_neg this]; exact (S.nw p (.tail _ hp)).1.2
theorem tr_freeze {a : Addr} {D : OD} {t : Sem α} {R : α → Led → Prop} (r : Rem N (a, D) N') (h : ∀ F', F.le F' → Fz X.P F' a D → Tr X A ⟨F', N', G⟩ t R) : Tr X A ⟨F, N, G⟩ t R :=
  fun s E S => let ⟨F', le, fz, S'⟩ := (At.rem S r).freeze; h F' le fz s E S'

/-- known in the ledger: frozen or a row -/
def Kn (X : Cx) (l : Led) (a : Addr) (D : OD) : Prop := Fz X.P l.F a D ∨ (a, D) ∈ l.N ∨ (2 < a ∧ ∃ o, X.K.lookup a = some o ∧ D.ok X.P o)
theorem Kn.has {s} {a D} (h : Kn X l a D) (S : X.At l s) : Has X.P s.heap a D := h.elim (fun f => S.frz f) fun h => h.elim (fun m => S.led m) fun ⟨_, o, e, k⟩ => ⟨o, S.inK _ _ e, k⟩

theorem Kn.big {s} {a D} (h : Kn X l a D) (S : X.At l s) : 2 < a := h.elim (fun f => f.1) fun h => h.elim (fun m => (S.nw _ m).1.1) fun h => h.1
theorem Kn.row' {F N G a D} (h : (a, D) ∈ N) : Kn X ⟨F, N, G⟩ a D := .inr (.inl h)
theorem Kn.fz' {F N G a D} (h : Fz X.P F a D) : Kn X ⟨F, N, G⟩ a D := .inl h
theorem Kn.notSys {s} {a D} (h : Kn X l a D) (S : X.At l s) : (a == sysModules) = false := beq_eq_false_iff_ne.mpr fun e => by
  have := h.big S
  rw [e] at this
  exact absurd this (by decide)

/-! calls -/
theorem tr_call {f : Value} {pos : List Value} {kw : List (Str × Value)} {R : Value → Led → Prop}
    (h : Cl X A l (.call f ⟨pos, kw⟩) fun fl l' => ∃ v, fl = .ret v ∧ R v l') : Tr X A l (call f pos kw) R :=
  fun s E S => wpAny_call (h s _ S fun f s' l' S' ⟨v, e, r⟩ => by subst e; exact ⟨l', S', r⟩)
/-- post of a call's code -/
abbrev Rv (R : Value → Led → Prop) : Flow → Led → Prop := fun fl l' => ∃ v, fl = .ret v ∧ R v l'

def TrB (X : Cx) (A : Around) (env : Env) (R : Led → Prop) : List (Str × Value) → Led → Prop
  | [], l => R l
  | (x, v) :: r, l => Tr X A l (storeName env x v) fun _ l' => TrB X A env R r l'
theorem TrB.use {R : Led → Prop} {E} {Q : Shared → Prop} : ∀ {b : List (Str × Value)} {l : Led} {s : Shared}, TrB X A env R b l → X.At l s → (∀ s' l', X.At l' s' → R l' → Q s') → BindAll X.M A env E Q b s
  | [], l, s, h, S, k => k s l S h
  | (x, v) :: r, l, s, h, S, k => Tr.use h S fun _ s' l' S' h' => TrB.use h' S' k

def allCells : Nat → (List Addr → Prop) → Prop
  | 0, P => P []
  | n + 1, P => ∀ c, allCells n fun cs => P (c :: cs)
theorem allCells_use : ∀ {n : Nat} {P : List Addr → Prop}, allCells n P → ∀ cs, cs.length = n → P cs
  | 0, _, h, [], _ => h
  | n + 1, _, h, c :: cs, e => allCells_use (h c) cs (Nat.succ.inj e)

/-- a def is entered -/
theorem cl_def {f : Addr} {oc : Value} {od : Option Addr} {osl : Array (Option Value)} {fd : FuncData} {body : List Stmt} {args : Args} {binds : List (Str × Value)} {R : Flow → Led → Prop}
    (ho : X.K.lookup f = some ⟨oc, od, .func fd, osl⟩) (hcd : codeIn X.K fd.code fd.qualname = true) (hbody : fd.body = .stmts body)
    (hbind : peek X.K ⟨X.prog, X.w.params⟩ (bindArgs fd args) = some binds) (hroom : A.depth < recursionLimit)
    (hco : fd.scope.isCoroutine = false) (hgen : fd.scope.isGenerator = false) {n : Nat} (hn : (cellNames fd.scope.names).length = n)
    (h : ∀ L, allCells n fun cs => TrB X A.in1 (envFor fd f L cs) (fun l' => Tr X (A.deeper (envFor fd f L cs)) l' (execs body (envFor fd f L cs)) fun fl l'' => Wk R (.ret (flowVal fl)) l'') binds ⟨F, cellRows cs ((L, .ns []) :: N), G⟩) :
    Cl X A ⟨F, N, G⟩ (.call (.ref f) args) R := by
  intro s R' S k
  refine enter_def S ho hcd hroom hbody hbind (fun L cs s' hl S' => ?_) hco hgen
  refine TrB.use (allCells_use (h L) cs (hl.trans hn)) S' fun s'' l' S'' h' => ⟨S''.nolimit, fun E => h'.use S'' fun fl s3 l3 S3 ⟨N3, p, r⟩ => k _ _ ⟨l3.F, N3, l3.G⟩ (S3.pick p) r⟩
end
end Mine
namespace Mine
section
variable {X : Cx} {A : Around} {F : PH} {N : List (Addr × OD)} {G : Array GenState}
def mkEnv (scope : Scope) (gl : Addr) (clo : List (Str × Addr)) (qual : Str) (code : Value) (bi : Addr) (f L : Addr) (cs : List Addr) : Env :=
  { scope := scope, locals := L, globals := gl, cells := zipCells (cellNames scope.names) cs clo, qual := qual, func := some f, code := code, frame := some L, builtins := bi }
def allC : Nat → List (Addr × OD) → (List Addr → List (Addr × OD) → Prop) → Prop
  | 0, N, P => P [] N
  | n + 1, N, P => ∀ c, allC n ((c, .cell none) :: N) fun cs N => P (c :: cs) N
theorem cells0 {N : List (Addr × OD)} {P : List Addr → List (Addr × OD) → Prop} (h : P [] N) : allC 0 N P := h
theorem cellsS {n : Nat} {N : List (Addr × OD)} {P : List Addr → List (Addr × OD) → Prop} (h : ∀ c, allC n ((c, .cell none) :: N) fun cs N => P (c :: cs) N) : allC (n + 1) N P := h
theorem allC_all : ∀ {n : Nat} {N : List (Addr × OD)} {P : List Addr → List (Addr × OD) → Prop}, allC n N P → allCells n fun cs => P cs (cellRows cs N)
  | 0, _, _, h => h
  | n + 1, N, P, h => fun c => allC_all (n := n) (N := (c, .cell none) :: N) (P := fun cs N => P (c :: cs) N) (h c)
theorem cl_def' {f : Addr} {oc : Value} {od : Option Addr} {osl : Array (Option Value)} {body : List Stmt} {args : Args} {binds : List (Str × Value)} {R : Flow → Led → Prop}
    {name qn : Str} {params : Arguments} {scope : Scope} {gl bi : Addr} {clo : List (Str × Addr)} {dfl kwd doc pm code ct : Value} {ann : Option Addr}
    (ho : X.K.lookup f = some ⟨oc, od, .func ⟨name, qn, params, .stmts body, scope, gl, clo, dfl, kwd, doc, pm, ann, code, ct, bi⟩, osl⟩) (hcd : codeIn X.K code qn = true)
    (hbind : peek X.K ⟨X.prog, X.w.params⟩ (bindArgs ⟨name, qn, params, .stmts body, scope, gl, clo, dfl, kwd, doc, pm, ann, code, ct, bi⟩ args) = some binds) (hroom : A.depth < recursionLimit)
    (hco : scope.isCoroutine = false) (hgen : scope.isGenerator = false) {n : Nat} (hn : (cellNames scope.names).length = n)
    (h : ∀ L, allC n ((L, .ns []) :: N) fun cs NN => TrB X A.in1 (mkEnv scope gl clo (qn ++ ".<locals>.") code bi f L cs) (fun l' => Tr X (A.deeper (mkEnv scope gl clo (qn ++ ".<locals>.") code bi f L cs)) l' (execs body (mkEnv scope gl clo (qn ++ ".<locals>.") code bi f L cs)) fun fl l'' => Wk R (.ret (flowVal fl)) l'') binds ⟨F, NN, G⟩) :
    Cl X A ⟨F, N, G⟩ (.call (.ref f) args) R :=
  cl_def ho hcd rfl hbind hroom hco hgen hn fun L => allC_all (h L)
end
end Mine

namespace Mine
section
variable {α β : Type} {X : Cx} {A : Around} {l : Led} {env : Env}
variable {F : PH} {N N' : List (Addr × OD)} {G : Array GenState}

/-! statements -/
def Fl (X : Cx) (A : Around) (env : Env) (rest : List Stmt) (R : Flow → Led → Prop) (f : Flow) (l : Led) : Prop :=
  match f with | .next => Tr X A l (execs rest env) R | f => R f l
theorem t_cons {st : Stmt} {rest : List Stmt} {R : Flow → Led → Prop} (h : Tr X A l (exec st env) (Fl X A env rest R)) : Tr X A l (execs (st :: rest) env) R :=
  fun s E S => wpAny_execs_cons (h.use S fun f s' l' S' r => by cases f with
    | next => exact r s' E S'
    | _ => exact ⟨l', S', r⟩)
theorem t_nil {R : Flow → Led → Prop} (h : R .next l) : Tr X A l (execs [] env) R := fun s E S => wpAny_execs_nil ⟨l, S, h⟩

theorem t_AssignName {x : Str} {p pos : Pos} {value : Expr} {R : Flow → Led → Prop} (h : Tr X A l (eval value env) fun v l1 => Tr X A l1 (storeName env x v) fun _ => R .next)
    (hs : swapsWith value (some (.Name x p)) pos.line env = pure false) : Tr X A l (exec (.Assign [.Name x p] value pos) env) R :=
  fun s E S => wpAny_Assign_Name (h.use S fun v s1 l1 S1 h1 => h1 s1 E S1) hs
theorem t_AssignAttr {o value : Expr} {attr : Str} {p pos : Pos} {R : Flow → Led → Prop}
    (h : Tr X A l (eval value env) fun v l1 => Tr X A l1 (eval o env) fun ov l2 => Tr X A l2 (setAttr ov attr v) fun _ => R .next)
    (hs : swapsWith value (some (.Attribute o attr p)) pos.line env = pure false) : Tr X A l (exec (.Assign [.Attribute o attr p] value pos) env) R :=
  fun s E S => plainObj_wpAny_Assign_Attribute (h.use S fun v s1 l1 S1 h1 => h1.use S1 fun ov s2 l2 S2 h2 => h2 s2 E S2) hs
theorem t_AssignSub {o i value : Expr} {p pos : Pos} {R : Flow → Led → Prop}
    (h : Tr X A l (eval value env) fun v l1 => Tr X A l1 (eval o env) fun ov l2 => Tr X A l2 (eval i env) fun iv l3 => Tr X A l3 (setItem ov iv v) fun _ => R .next)
    (hs : swapsWith value (some (.Subscript o i p)) pos.line env = pure false) : Tr X A l (exec (.Assign [.Subscript o i p] value pos) env) R :=
  fun s E S => wpAny_Assign_Subscript (h.use S fun v s1 l1 S1 h1 => h1.use S1 fun ov s2 l2 S2 h2 => h2.use S2 fun iv s3 l3 S3 h3 => h3 s3 E S3) hs
theorem t_AugName {x : Str} {p pos : Pos} {op : Operator} {value : Expr} {R : Flow → Led → Prop}
    (h : Tr X A l (loadName env x) fun old l1 => Tr X A l1 (eval value env) fun v l2 => Tr X A l2 (inplaceOp op old v) fun r l3 => Tr X A l3 (storeName env x r) fun _ => R .next) :
    Tr X A l (exec (.AugAssign (.Name x p) op value pos) env) R :=
  fun s E S => wpAny_AugAssign_Name (h.use S fun _ s1 l1 S1 h1 => h1.use S1 fun _ s2 l2 S2 h2 => h2.use S2 fun _ s3 l3 S3 h3 => h3 s3 E S3)
theorem t_If {test : Expr} {body orelse : List Stmt} {pos : Pos} {R : Flow → Led → Prop}
    (h : Tr X A l (isTrue test env (eval test env)) fun b l1 => if b = true then Tr X A l1 (execs body env) R else Tr X A l1 (execs orelse env) R) : Tr X A l (exec (.If test body orelse pos) env) R :=
  fun s E S => wpAny_If (h.use S fun b s1 l1 S1 h1 => by
    cases b with
    | true => exact h1 s1 E S1
    | false => exact h1 s1 E S1)
theorem t_Return {e : Expr} {pos : Pos} {R : Flow → Led → Prop} (h : Tr X A l (eval e env) fun v => R (.ret v)) : Tr X A l (exec (.Return (some e) pos) env) R :=
  fun s E S => wpAny_Return_some (h s E S)
theorem t_ExprSt {e : Expr} {pos : Pos} {R : Flow → Led → Prop} (h : Tr X A l (eval e env) fun _ => R .next) (hi : interactive env = false) (hs : swapsWith e none pos.line env = pure false) :
    Tr X A l (exec (.Expr e pos) env) R := fun s E S => wpAny_Expr_any (h s E S) hi hs
theorem t_For {target iter : Expr} {body orelse : List Stmt} {pos : Pos} {R : Flow → Led → Prop}
    (h : Tr X A l (eval iter env) fun x l1 => Tr X A l1 (pyIter x) fun it l2 => Cl X A l2 (.forLoop target it body orelse env) R)
    (hs : ∀ x, foldedSetIterable iter env x = pure x) : Tr X A l (exec (.For target iter body orelse pos) env) R :=
  fun s E S => wpAny_For (h.use S fun _ s1 l1 S1 h1 => h1.use S1 fun _ s2 l2 S2 h2 => h2 s2 _ S2 fun f s3 l3 S3 r => ⟨l3, S3, r⟩) hs
/-- the end of a loop's turn -/
def Turn (R : Flow → Led → Prop) (J : Led → Prop) (f : Flow) (l : Led) : Prop :=
  match f with | .next => J l | .cont => J l | .brk => R .next l | .ret v => R (.ret v) l

theorem t_int {i : Int} {k : Nat} {pos : Pos} {R : Value → Led → Prop} (h : ∀ t, R (.int i t) l) : Tr X A l (eval (.Constant (.int i) k pos) env) R :=
  fun s E S => wpAny_Constant_int ⟨l, S.same rfl rfl rfl, h _⟩
theorem t_str {x : Str} {k : Nat} {pos : Pos} {R : Value → Led → Prop} (h : ∀ t, R (.str x t) l) : Tr X A l (eval (.Constant (.str x) k pos) env) R :=
  fun s E S => wpAny_Constant_str ⟨l, S.same rfl rfl rfl, h _⟩
theorem t_bool {b : Bool} {k : Nat} {pos : Pos} {R : Value → Led → Prop} (h : R (.bool b) l) : Tr X A l (eval (.Constant (.bool b) k pos) env) R :=
  fun s E S => wpAny_Constant_bool ⟨l, S, h⟩
theorem t_none {k : Nat} {pos : Pos} {R : Value → Led → Prop} (h : R .none l) : Tr X A l (eval (.Constant .none k pos) env) R :=
  fun s E S => wpAny_Constant_none ⟨l, S, h⟩

theorem t_local {L : Addr} {fr : List (Str × Value)} {x : Str} {v : Value} {pos : Pos} {R : Value → Led → Prop} (hL : env.locals = L) (hN : (L, OD.ns fr) ∈ N) (hv : (x, v) ∈ fr)
    (hx : env.kindOf x = some .local) (hk : env.scope.kind = .function) (hd : (x == ("__debug__" : Str)) = false) (h : R v ⟨F, N, G⟩) : Tr X A ⟨F, N, G⟩ (eval (.Name x pos) env) R :=
  fun s E S => a_local S hN hv ⟨_, S, h⟩ hL hk hx hd
theorem t_localN {L : Addr} {fr : List (Str × Value)} {x : Str} {v : Value} {R : Value → Led → Prop} (hL : env.locals = L) (hN : (L, OD.ns fr) ∈ N) (hv : (x, v) ∈ fr)
    (hx : env.kindOf x = some .local) (hk : env.scope.kind = .function) (h : R v ⟨F, N, G⟩) : Tr X A ⟨F, N, G⟩ (loadName env x) R :=
  fun s E S => a_localN S hN hv ⟨_, S, h⟩ hL hk hx
theorem t_glob {x : Str} {v : Value} {pos : Pos} {R : Value → Led → Prop} (e : nsIn X.K mainGlobals x = some (some v)) (hg : env.globals = mainGlobals) (hk : env.scope.kind = .function) (hx : env.kindOf x = some .globalImplicit)
    (hd : (x == ("__debug__" : Str)) = false) (h : R v l) : Tr X A l (eval (.Name x pos) env) R := fun s E S => a_glob S e ⟨l, S, h⟩ hg hk hx hd
theorem t_bltin {x : Str} {v : Value} {pos : Pos} {R : Value → Led → Prop} (e : nsIn X.K mainGlobals x = some none) (hv : bootBuiltins x = some v) (hn : x ≠ "__name__") (hg : env.globals = mainGlobals) (hb : env.builtins = builtinsNs)
    (hk : env.scope.kind = .function) (hx : env.kindOf x = some .globalImplicit) (hd : (x == ("__debug__" : Str)) = false) (h : R v l) : Tr X A l (eval (.Name x pos) env) R :=
  fun s E S => a_bltin S e hv hn ⟨l, S, h⟩ hg hb hk hx hd
theorem t_cell {c : Addr} {x : Str} {v : Value} {pos : Pos} {R : Value → Led → Prop} (hc : (c, OD.cell (some v)) ∈ N) (hcl : env.cells.lookup x = some c) (hk : env.scope.kind = .function) (hx : env.kindOf x = some .cell)
    (hd : (x == ("__debug__" : Str)) = false) (h : R v ⟨F, N, G⟩) : Tr X A ⟨F, N, G⟩ (eval (.Name x pos) env) R := fun s E S => a_cell (S.led hc) ⟨_, S, h⟩ hcl hk hx hd
theorem t_store {L : Addr} {fr fr' : List (Str × Value)} {x : Str} {v : Value} {R : Unit → Led → Prop} (hL : env.locals = L) (u : LUpd N L (.ns fr') N') (hN : (L, OD.ns fr) ∈ N) (hl : LSet fr x v fr')
    (hx : env.kindOf x = some .local) (hk : env.scope.kind = .function) (h : R () ⟨F, N', G⟩) : Tr X A ⟨F, N, G⟩ (storeName env x v) R :=
  fun s E S => a_store S u hN hl (fun s' S' => ⟨_, S', h⟩) hL hx hk
theorem t_storeCell {c : Addr} {o₀ : Option Value} {x : Str} {v : Value} {R : Unit → Led → Prop} (hN : (c, OD.cell o₀) ∈ N) (u : LUpd N c (.cell (some v)) N') (hcl : env.cells.lookup x = some c) (hx : env.kindOf x = some .cell)
    (hk : env.scope.kind = .function) (h : R () ⟨F, N', G⟩) : Tr X A ⟨F, N, G⟩ (storeName env x v) R := fun s E S => a_storeCell S hN u (fun s' S' => ⟨_, S', h⟩) hcl hx hk

theorem t_Attr {value : Expr} {attr : Str} {pos : Pos} {R : Value → Led → Prop} (h : Tr X A l (eval value env) fun o l1 => Tr X A l1 (getAttr o attr true) R)
    (he : eval (.Attribute value attr pos) env = (do
      let o ← eval value env
      standAt pos.atName
      let r ← holding [o] (getAttr o attr true)
      letTemporaryGo value o r
      pure r)) : Tr X A l (eval (.Attribute value attr pos) env) R :=
  fun s E S => Attribute_any_ (h.use S fun o s1 l1 S1 h1 => h1 s1 E S1) he
theorem t_Sub {value slice : Expr} {pos : Pos} {R : Value → Led → Prop} (h : Tr X A l (eval value env) fun o l1 => Tr X A l1 (eval slice env) fun i l2 => Tr X A l2 (subscriptTail value slice o i) R) :
    Tr X A l (eval (.Subscript value slice pos) env) R := fun s E S => Subscript_ (h.use S fun _ s1 l1 S1 h1 => h1.use S1 fun _ s2 l2 S2 h2 => h2 s2 E S2)
theorem t_Tuple {elts : List Expr} {k : Nat} {pos : Pos} {R : Value → Led → Prop} (h : Tr X A l (spliced (backTo pos (starEach elts env))) fun vs l1 => Tr X A l1 (newTuple vs) R) : Tr X A l (eval (.Tuple elts k pos) env) R :=
  fun s E S => Tuple_ (h.use S fun _ s1 l1 S1 h1 => h1 s1 E S1)
theorem t_List {elts : List Expr} {pos : Pos} {R : Value → Led → Prop} (h : Tr X A l (spliced (backTo pos (starEach elts env))) fun vs l1 => Tr X A l1 (newList vs) R) : Tr X A l (eval (.List elts pos) env) R :=
  fun s E S => List_ (h.use S fun _ s1 l1 S1 h1 => h1 s1 E S1)
theorem t_args0 {pos : Pos} {R : List Value → Led → Prop} (h : R [] l) : Tr X A l (spliced (backTo pos (starEach [] env))) R := fun s E S => args_nil ⟨l, S, h⟩
theorem t_args {e : Expr} {rest : List Expr} {pos : Pos} {R : List Value → Led → Prop} (h : Tr X A l (eval e env) fun v l1 => Tr X A l1 (spliced (backTo pos (starEach rest env))) fun vs => R (v :: vs))
    (he : starEach (e :: rest) env = (false, eval e env) :: starEach rest env) : Tr X A l (spliced (backTo pos (starEach (e :: rest) env))) R :=
  fun s E S => args_cons (h.use S fun _ s1 l1 S1 h1 => h1 s1 E S1) he
theorem t_newTuple {vs : List Value} {R : Value → Led → Prop} (hz : vs.length ≤ sizeLine) (h : ∀ a, R (.ref a) ⟨F, (a, .tup vs) :: N, G⟩) : Tr X A ⟨F, N, G⟩ (newTuple vs) R :=
  fun s E S => wpAny_newTuple ⟨⟨F, (s.heap.objs.size, .tup vs) :: N, G⟩, At.alloc S (D := .tup vs) ⟨rfl, rfl, 0, rfl⟩ rfl rfl rfl, h _⟩ hz
theorem t_newList {vs : List Value} {R : Value → Led → Prop} (hz : vs.length ≤ sizeLine) (h : ∀ a, R (.ref a) ⟨F, (a, .lst vs) :: N, G⟩) : Tr X A ⟨F, N, G⟩ (newList vs) R :=
  fun s E S => wpAny_newList ⟨⟨F, (s.heap.objs.size, .lst vs) :: N, G⟩, At.alloc S (D := .lst vs) ⟨rfl, ⟨rfl, rfl⟩, 0, rfl⟩ rfl rfl rfl, h _⟩ hz

theorem t_Cmp {a b : Expr} {op : CmpOp} {pos : Pos} {R : Value → Led → Prop} (h : Tr X A l (eval a env) fun x l1 => Tr X A l1 (eval b env) fun y l2 => Tr X A l2 (compareOp op x y) R) (hb : behindInMarks op b = false) :
    Tr X A l (eval (.Compare a [op] [b] pos) env) R := fun s E S => wpAny_Compare1 (h.use S fun _ s1 l1 S1 h1 => h1.use S1 fun _ s2 l2 S2 h2 => h2 s2 E S2) hb
theorem t_isCmp {a b : Expr} {op : CmpOp} {pos : Pos} {whole : Sem Value} {R : Bool → Led → Prop}
    (h : Tr X A l (eval a env) fun x l1 => Tr X A l1 (eval b env) fun y l2 => Tr X A l2 (compareOp op x y) fun c l3 => Tr X A l3 (truthy c) R) (hb : behindInMarks op b = false) :
    Tr X A l (isTrue (.Compare a [op] [b] pos) env whole) R :=
  fun s E S => wpAny_isTrue_Compare1 (h.use S fun _ s1 l1 S1 h1 => h1.use S1 fun _ s2 l2 S2 h2 => h2.use S2 fun _ s3 l3 S3 h3 => h3 s3 E S3) hb
theorem t_isVal {e : Expr} {whole : Sem Value} {R : Bool → Led → Prop} (h : Tr X A l whole fun v l1 => Tr X A l1 (truthy v) R)
    (he : isTrue e env whole = (do let v ← whole; standAt e.pos; holding [v] (truthy v))) : Tr X A l (isTrue e env whole) R :=
  fun s E S => wpAny_isTrue_value (h.use S fun _ s1 l1 S1 h1 => h1 s1 E S1) he
theorem t_IfExp {test body orelse : Expr} {pos : Pos} {R : Value → Led → Prop}
    (h : Tr X A l (isTrue test env (eval test env)) fun b l1 => if b = true then Tr X A l1 (eval body env) R else Tr X A l1 (eval orelse env) R) : Tr X A l (eval (.IfExp test body orelse pos) env) R :=
  fun s E S => IfExp_ (h.use S fun b s1 l1 S1 h1 => by
    cases b with
    | true => exact h1 s1 E S1
    | false => exact h1 s1 E S1)
theorem t_Bin {a b : Expr} {op : Operator} {pos : Pos} {R : Value → Led → Prop} (h : Tr X A l (eval a env) fun x l1 => Tr X A l1 (eval b env) fun y l2 => Tr X A l2 (binaryOp op x y) R) :
    Tr X A l (eval (.BinOp a op b pos) env) R := fun s E S => wpAny_BinOp (h.use S fun _ s1 l1 S1 h1 => h1.use S1 fun _ s2 l2 S2 h2 => h2 s2 E S2)
theorem t_And {a b : Expr} {rest : List Expr} {pos : Pos} {R : Value → Led → Prop}
    (h : Tr X A l (eval a env) fun v l1 => Tr X A l1 (truthy v) fun c l2 => if c = true then Tr X A l2 (eval (.BoolOp .And (b :: rest) pos) env) R else R v l2) : Tr X A l (eval (.BoolOp .And (a :: b :: rest) pos) env) R :=
  fun s E S => BoolOp_and (h.use S fun v s1 l1 S1 h1 => h1.use S1 fun c s2 l2 S2 h2 => by
    cases c with
    | true => exact h2 s2 E S2
    | false => exact ⟨l2, S2, h2⟩)
theorem t_Or {a b : Expr} {rest : List Expr} {pos : Pos} {R : Value → Led → Prop}
    (h : Tr X A l (eval a env) fun v l1 => Tr X A l1 (truthy v) fun c l2 => if c = true then R v l2 else Tr X A l2 (eval (.BoolOp .Or (b :: rest) pos) env) R) : Tr X A l (eval (.BoolOp .Or (a :: b :: rest) pos) env) R :=
  fun s E S => BoolOp_or (h.use S fun v s1 l1 S1 h1 => h1.use S1 fun c s2 l2 S2 h2 => by
    cases c with
    | false => exact h2 s2 E S2
    | true => exact ⟨l2, S2, h2⟩)

/-! calls -/
theorem t_Call {f : Expr} {args : List Expr} {pos : Pos} {R : Value → Led → Prop} (h : Tr X A l (eval f env) fun fv l1 => Tr X A l1 (callWith pos fv [] (backTo pos (starEach args env)) []) R)
    (he : eval (.Call f args [] pos) env = (do callWith pos (← eval f env) [] (backTo pos (starEach args env)) (backToKw pos (keywordEach [] env)))) : Tr X A l (eval (.Call f args [] pos) env) R :=
  fun s E S => Call_ (h.use S fun _ s1 l1 S1 h1 => h1 s1 E S1) he
def MC (p : Value × List Value) (P : Value → List Value → Prop) : Prop := P p.1 p.2
theorem mc {f : Value} {first : List Value} {P : Value → List Value → Prop} (h : P f first) : MC (f, first) P := h
theorem t_MCall {o : Expr} {name : Str} {apos pos : Pos} {args : List Expr} {pl : Sem Bool} {R : Value → Led → Prop}
    (h : Tr X A l (eval o env) fun ov l1 => Tr X A l1 (getMethod ov name pl) fun fx l2 => MC fx fun f first => Tr X A l2 (callWith pos f first (backTo pos (starEach args env)) []) R)
    (he : eval (.Call (.Attribute o name apos) args [] pos) env = (do
      let ov ← eval o env
      standAt apos.atName
      let (f, first) ← holding [ov] (getMethod ov name pl)
      callWith pos f first (backTo pos (starEach args env)) [])) : Tr X A l (eval (.Call (.Attribute o name apos) args [] pos) env) R :=
  fun s E S => MethodCall_ (h.use S fun _ s1 l1 S1 h1 => h1.use S1 fun _ s2 l2 S2 h2 => h2 s2 E S2) he

/-- the callee's keeper is found quietly -/
def Callee (X : Cx) (l : Led) (f : Value) : Prop := ∀ s, X.At l s → ∀ A E (Q : Keeper → Shared → Prop), (∀ k, Q k s) → wpAny X.M A (keeperOf f) Q E s
theorem t_callWith {pos : Pos} {f : Value} {first : List Value} {args : List (Bool × Sem Value)} {R : Value → Led → Prop}
    (h : Tr X A l (evalArgs f true args []) fun a l1 => Callee X l1 f ∧ Tr X A l1 (call f (first ++ a.pos) a.kw) R) : Tr X A l (callWith pos f first args []) R := by
  intro s E S
  unfold callWith
  refine wpAny_bind (wpAny_holding (h.use S fun a s1 l1 S1 h1 => wpAny_bind (wpAny_standAt ?_)))
  obtain ⟨hc, h1⟩ := h1
  have tail : ∀ {t : Sem Value}, wpAny X.M A t (fun v s' => ∃ l', X.At l' s' ∧ R v l') E s1 → wpAny X.M A (t >>= fun r => holding [r] point >>= fun _ => pure r) (fun v s' => ∃ l', X.At l' s' ∧ R v l') E s1 :=
    fun ht => wpAny_bind (wpAny_mono ht (fun r s₂ hr => wpAny_bind (wpAny_holding (wpAny_point (wpAny_pure hr)))) fun _ _ x => x)
  have base := h1 s1 E S1
  have mk : ∀ {vs m}, wpAny X.M A m (fun v s' => ∃ l', X.At l' s' ∧ R v l') E s1 → wpAny X.M A (Sem.keep vs m) (fun v s' => ∃ l', X.At l' s' ∧ R v l') E s1 := fun h => Calls.wpAny_keep h
  refine wpAny_bind (hc s1 S1 A E _ fun k => ?_)
  dsimp only
  split
  · exact tail (by unfold callMarked; exact Calls.wpAny_keep base)
  · split
    · exact tail base
    · exact tail (by unfold callMarked; exact Calls.wpAny_keep base)
  · split
    · exact tail base
    · exact tail (by unfold callMarked; exact Calls.wpAny_keep base)
  · exact tail base
  · exact tail (wpAny_operate' base)
end
end Mine

namespace Mine
theorem ents_pairs {prog : Program} {w : World} {es : List DictEntry} {l : List (Str × Value)} (h : Ents w.params es l) :
    (∀ e ∈ es, ∃ k, (strKind prog w).is k e.key = true ∧ e.hash = (strKind prog w).hash k) ∧ Pairs (strKind prog w) es l := by
  induction h with
  | nil => exact ⟨(fun e he => nomatch he), .nil⟩
  | @cons e p es l h _ ih =>
    obtain ⟨⟨t, hk⟩, hv, hh⟩ := h
    have hi : (strKind prog w).is p.1 e.key = true := by rw [hk]; exact strKind_is prog w _ _
    refine ⟨fun e' he => ?_, .cons hi hv ih.2⟩
    rcases List.mem_cons.mp he with rfl | he
    · exact ⟨p.1, hi, hh⟩
    · exact ih.1 e' he
theorem pairs_ents {prog : Program} {w : World} {es : List DictEntry} {l : List (Str × Value)} (h1 : ∀ e ∈ es, ∃ k, (strKind prog w).is k e.key = true ∧ e.hash = (strKind prog w).hash k)
    (h2 : Pairs (strKind prog w) es l) : Ents w.params es l := by
  induction h2 with
  | nil => exact .nil
  | @cons e p es l hk hv _ ih =>
    refine .cons ⟨?_, hv, ?_⟩ (ih fun e' he => h1 e' (.tail _ he))
    · obtain ⟨t, ht⟩ := Value.isStrOf_shape (x := p.1) (v := e.key) hk
      exact ⟨t, ht⟩
    · obtain ⟨k, h3, h4⟩ := h1 e (.head _)
      have := (strKind prog w).inj e.key k p.1 h3 hk
      subst this
      exact h4
theorem Has.dictOf {prog : Program} {w : World} {h : Heap} {a : Addr} {kvs : List (Str × Value)} (x : Has w.params h a (.dic kvs)) : h.DictOf (strKind prog w) a kvs := by
  obtain ⟨o, ho, he, nd, es, n, hd, hn⟩ := x
  have q := ents_pairs (prog := prog) hn
  exact ⟨o, es, n, ho, he, hd, fun e hm => q.1 e (Array.mem_toList_iff.mpr hm), q.2, nd⟩
theorem dictOf_has {prog : Program} {w : World} {h : Heap} {a : Addr} {kvs : List (Str × Value)} (x : h.DictOf (strKind prog w) a kvs) : Has w.params h a (.dic kvs) := by
  obtain ⟨o, es, n, ho, he, hd, hk, hp, nd⟩ := x
  exact ⟨o, ho, he, nd, es, n, hd, pairs_ents (prog := prog) (fun e hm => hk e (Array.mem_toList_iff.mp hm)) hp⟩

theorem Has.isList {P : Params} {h : Heap} {a : Addr} {vs : List Value} (x : Has P h a (.lst vs)) : h.IsList a vs.toArray := let ⟨o, ho, hc, _, hd⟩ := x; ⟨o, ho, hc, hd⟩
theorem Has.isTup {P : Params} {h : Heap} {a : Addr} {vs : List Value} (x : Has P h a (.tup vs)) : h.IsTuple a vs.toArray := let ⟨o, ho, hc, _, hd⟩ := x; ⟨o, ho, hc, hd⟩

section
variable {α β : Type} {X : Cx} {A : Around} {l : Led} {env : Env}
variable {F : PH} {N N' : List (Addr × OD)} {G : Array GenState}

/-! attributes of own objects -/
theorem all_ne {fs : List (Str × Value)} {name : Str} (h : (fs.all fun p => p.1 != name) = true) : ∀ y ∈ fs.map (·.1), y ≠ name := fun y hy => by
  obtain ⟨p, hp, rfl⟩ := List.mem_map.mp hy
  simpa using List.all_eq_true.mp h p hp
theorem t_field {x C d : Addr} {fs : List (Str × Value)} {name : Str} {v : Value} {expr : Bool} {R : Value → Led → Prop} (hx : Kn X l x (.inst C d)) (hd : Kn X l d (.fld fs)) (hv : (name, v) ∈ fs)
    (hf : fieldName X.K C name = true) (hg : hasGA X.K C = true) (hh : handedIn v = true) (h : R v l) : Tr X A l (getAttr (.ref x) name expr) R :=
  fun s E S => a_field S (hx.has S) (hd.has S) hv hf hg (fun s' S' => ⟨l, S', h⟩) hh
theorem t_clsValue {x C d : Addr} {fs : List (Str × Value)} {name : Str} {v : Value} {expr : Bool} {R : Value → Led → Prop} (hx : Kn X l x (.inst C d)) (hd : Kn X l d (.fld fs))
    (hf : clsValue X.K C name v = true) (hg : hasGA X.K C = true) (hn : (fs.all fun p => p.1 != name) = true) (h : R v l) : Tr X A l (getAttr (.ref x) name expr) R :=
  fun s E S => a_clsValue S (hx.has S) (hd.has S) hf hg (all_ne hn) fun s' S' => ⟨l, S', h⟩
theorem t_methodOf {x C d f : Addr} {fs : List (Str × Value)} {name : Str} {pl : Sem Bool} {R : Value × List Value → Led → Prop} (hx : Kn X l x (.inst C d)) (hd : Kn X l d (.fld fs))
    (hf : defName X.K C name f = true) (hg : hasGA X.K C = true) (hn : (fs.all fun p => p.1 != name) = true) (h : R (.ref f, [.ref x]) l) : Tr X A l (getMethod (.ref x) name pl) R :=
  fun s E S => a_methodOf S (hx.has S) (hd.has S) hf hg (all_ne hn) ⟨l, S, h⟩
theorem t_setattr {x C d : Addr} {fs fs' : List (Str × Value)} {name : Str} {v : Value} {R : Unit → Led → Prop} (hx : Kn X ⟨F, N, G⟩ x (.inst C d)) (hd : (d, OD.fld fs) ∈ N)
    (hf : setName X.K C name = true) (hl : LSet fs name v fs') (u : LUpd N d (.fld fs') N') (hz : fs.length ≤ 1000) (h : R () ⟨F, N', G⟩) : Tr X A ⟨F, N, G⟩ (setAttr (.ref x) name v) R :=
  fun s E S => a_setattr S (hx.has S) hd hf hl u hz fun s' S' => ⟨_, S', h⟩

/-! calls -/
theorem t_evalArgs0 {pos : Pos} {f : Value} {R : Args → Led → Prop} (h : R ⟨[], []⟩ l) : Tr X A l (evalArgs f true (backTo pos (starEach [] env)) []) R := fun s E S => evalArgs_empty ⟨l, S, h⟩
theorem t_evalArgs {pos : Pos} {f : Value} {e : Expr} {rest : List Expr} {R : Args → Led → Prop} (h : Tr X A l (spliced (backTo pos (starEach (e :: rest) env))) fun vs => R ⟨vs, []⟩)
    (he : starEach (e :: rest) env = (false, eval e env) :: starEach rest env := by rfl) : Tr X A l (evalArgs f true (backTo pos (starEach (e :: rest) env)) []) R := by
  intro s E S
  have := h s E S
  rw [he] at this ⊢
  exact Calls.evalArgs_plain this

theorem callee_bltin {id : String} : Callee X l (.builtin id) := fun s S A E Q h => by unfold keeperOf; exact wpAny_pure (h _)
theorem callee_type {id : String} : Callee X l (.type id) := fun s S A E Q h => by unfold keeperOf; exact wpAny_pure (h _)
/-- an address of K is a def -/
theorem callee_fn {f : Addr} {oc : Value} {od : Option Addr} {osl : Array (Option Value)} {fd : FuncData} (ho : X.K.lookup f = some ⟨oc, od, .func fd, osl⟩) : Callee X l (.ref f) := fun s S A E Q h => by
  unfold keeperOf; exact wpAny_bind (wpAny_load (S.inK _ _ ho) (wpAny_pure (h _)))
theorem callee_cls {C : Addr} {cd : ClassData} {v : Option Value} (hc : clsIn X.K C = some cd) (hs : specialIn X.K (.ref C) "__call__" = some v) : Callee X l (.ref C) := fun s S A E Q h => by
  unfold keeperOf
  unfold clsIn at hc
  split at hc
  · rename_i ho
    exact wpAny_bind (wpAny_load (S.inK _ _ ho) (wpAny_bind ((looks_specialIn S.inK hs).here (wpAny_pure (h _)))))
  · cases hc
  /- ((looks_specialIn S.inK hs).here (wpAny_pure (h _))) -/

theorem t_make {C fI : Addr} {pos : List Value} {kw : List (Str × Value)} {R : Value → Led → Prop} (hm : makesIn X.K C = true) (hi : findIn X.K (.ref C) "__init__" = some (some (.ref fI))) (hf : isFn X.K (.ref fI) = true)
    (h : ∀ x d, Cl X (A.under (.builtin "type.__call__" ⟨.ref C :: pos, kw⟩)) ⟨F, (x, .inst C d) :: (d, .fld []) :: N, G⟩ (.call (.ref fI) ⟨.ref x :: pos, kw⟩) (Rv fun v l' => v = .none ∧ R (.ref x) l')) :
    Tr X A ⟨F, N, G⟩ (call (.ref C) pos kw) R :=
  fun s E S => a_make S hm hi hf fun x d s' S' => h x d s' _ S' fun f s2 l2 S2 ⟨v, e, hv, r⟩ => by subst e; exact ⟨hv, l2, S2, r⟩
theorem t_callMeth {q : Addr} {f self : Value} {pos : List Value} {kw : List (Str × Value)} {R : Value → Led → Prop} (hq : Kn X l q (.raw (methodObj f self)))
    (h : Cl X A l (.call f ⟨self :: pos, kw⟩) (Rv R)) : Tr X A l (call (.ref q) pos kw) R :=
  tr_call fun s R' S k => by
    obtain ⟨o, ho, e, _⟩ := hq.has S
    exact method_call (ho.trans (congrArg some e)) (h s R' S k)
theorem callee_meth {q f : Addr} {self : Value} {oc : Value} {od : Option Addr} {osl : Array (Option Value)} {fd : FuncData} (hq : Kn X l q (.raw (methodObj (.ref f) self)))
    (hf : X.K.lookup f = some ⟨oc, od, .func fd, osl⟩) : Callee X l (.ref q) := fun s S A E Q h => by
  obtain ⟨o, ho, e, _⟩ := hq.has S
  subst e
  unfold keeperOf
  refine wpAny_bind (wpAny_load ho ?_)
  exact wpAny_bind (wpAny_load (S.inK _ _ hf) (wpAny_pure (h _)))

/-! methods of built-in types -/
theorem t_methStr {x : Str} {t : Tok} {name : Str} {id : String} {pl : Sem Bool} {R : Value × List Value → Led → Prop} (slot : Slot "str" name id) (hty : typeOf (.builtin id) = pure (.type "method_descriptor"))
    (h : R (.builtin id, [.str x t]) l) : Tr X A l (getMethod (.str x t) name pl) R :=
  fun s E S => getMethod_builtin (typeIs_str s x t) PySem.F.plainAttrs_str slot hty (by intro _ e; cases e) ⟨l, S, h⟩
theorem t_methList {a : Addr} {vs : List Value} {name : Str} {id : String} {pl : Sem Bool} {R : Value × List Value → Led → Prop} (ha : Kn X l a (.lst vs)) (slot : Slot "list" name id) (hty : typeOf (.builtin id) = pure (.type "method_descriptor"))
    (h : R (.builtin id, [.ref a]) l) : Tr X A l (getMethod (.ref a) name pl) R :=
  fun s E S => getMethod_builtin (ha.has S).isList.typeIs PySem.F.plainAttrs_list slot hty (by intro b e; cases e; obtain ⟨o, ho, _, hd, _⟩ := ha.has S; exact ⟨o, ho, hd.1⟩) ⟨l, S, h⟩
theorem t_methDict {a : Addr} {kvs : List (Str × Value)} {name : Str} {id : String} {pl : Sem Bool} {R : Value × List Value → Led → Prop} (ha : Kn X l a (.dic kvs)) (slot : Slot "dict" name id) (hty : typeOf (.builtin id) = pure (.type "method_descriptor"))
    (h : R (.builtin id, [.ref a]) l) : Tr X A l (getMethod (.ref a) name pl) R :=
  fun s E S => getMethod_builtin ((ha.has S).dictOf (prog := X.prog)).typeIs PySem.F.plainAttrs_dict slot hty ((ha.has S).dictOf (prog := X.prog)).mapOf.noDict ⟨l, S, h⟩

/-! lists -/
theorem t_append {a : Addr} {vs : List Value} {x : Value} {R : Value → Led → Prop} (ha : (a, OD.lst vs) ∈ N) (u : LUpd N a (.lst (vs ++ [x])) N') (hz : vs.length ≤ sizeLine) (h : R .none ⟨F, N', G⟩) :
    Tr X A ⟨F, N, G⟩ (call (.builtin "list.append") [.ref a, x]) R := fun s E S => by
  obtain ⟨o, ho, hc, hdn, n, hd⟩ := S.led ha
  refine wpAny_call_entry slot_list_append ⟨o, ho, hc⟩ entry_list_append ?_ (args_list_append _ _)
  show wpAny _ _ (updateSeq a (·.push x) >>= fun _ => ret .none) _ _ s
  refine wpAny_bind ?_
  obtain ⟨n', hd'⟩ := Obj.data_mapSeq hd (·.push x)
  refine wpAny_updateSeq ho hd (wpAny_pure ⟨.none, rfl, ⟨F, N', G⟩, S.updT u (Heap.SameBut.update ..) ⟨_, Heap.get?_update_self _ ho (Obj.isFreed_of_seq hd'), ?_⟩, h⟩) (by simpa using hz)
  refine ⟨(Obj.cls_mapSeq ..).trans hc, ?_, n', by rw [hd']; simp⟩
  obtain ⟨c, d, dt, sl⟩ := o
  subst hd
  exact hdn

/-! dicts by strs -/
theorem t_dictGetItem {a : Addr} {kvs : List (Str × Value)} {k : Str} {t : Tok} {v : Value} {R : Value → Led → Prop} (ha : Kn X l a (.dic kvs)) (hv : valueAt kvs k = some v) (h : R v l) : Tr X A l (getItem (.ref a) (.str k t)) R :=
  fun s E S => wpAny_getItem_of (strKind_is X.prog X.w k t) (ha.has S).dictOf.mapOf hv ⟨l, S.same rfl rfl rfl, h⟩
theorem t_dictIn {a : Addr} {kvs : List (Str × Value)} {k : Str} {t : Tok} {R : Value → Led → Prop} (ha : Kn X l a (.dic kvs)) (h : R (.bool (valueAt kvs k).isSome) l) : Tr X A l (compareOp .In (.str k t) (.ref a)) R :=
  fun s E S => wpAny_in_of (strKind_is X.prog X.w k t) (ha.notSys S) (ha.has S).dictOf.mapOf ⟨l, S.same rfl rfl rfl, h⟩
theorem t_dictSet {a : Addr} {kvs : List (Str × Value)} {k : Str} {t : Tok} {v : Value} {R : Unit → Led → Prop} (ha : (a, OD.dic kvs) ∈ N) (u : LUpd N a (.dic (stored kvs k v)) N') (hz : kvs.length ≤ sizeLine) (h : R () ⟨F, N', G⟩) :
    Tr X A ⟨F, N, G⟩ (setItem (.ref a) (.str k t) v) R :=
  fun s E S => wpAny_setItem_pairs (strKind_is X.prog X.w k t) (S.led ha).dictOf (fun h' hd hs => ⟨⟨F, N', G⟩, S.updT u hs (dictOf_has (prog := X.prog) hd), h⟩) hz
end
end Mine

namespace Mine
section
variable {α β : Type} {X : Cx} {A : Around} {l : Led} {env : Env}
variable {F : PH} {N N' : List (Addr × OD)} {G : Array GenState}
variable {R : Value → Led → Prop} {RB : Bool → Led → Prop}

/-! flows -/
theorem fl_next {rest : List Stmt} {R : Flow → Led → Prop} (h : Tr X A l (execs rest env) R) : Fl X A env rest R .next l := h
theorem fl_ret {rest : List Stmt} {R : Flow → Led → Prop} {v : Value} (h : R (.ret v) l) : Fl X A env rest R (.ret v) l := h
theorem fl_cont {rest : List Stmt} {R : Flow → Led → Prop} (h : R .cont l) : Fl X A env rest R .cont l := h
theorem tu_next {R : Flow → Led → Prop} {J : Led → Prop} (h : J l) : Turn R J .next l := h
theorem tu_cont {R : Flow → Led → Prop} {J : Led → Prop} (h : J l) : Turn R J .cont l := h
theorem tu_ret {R : Flow → Led → Prop} {J : Led → Prop} {v : Value} (h : R (.ret v) l) : Turn R J (.ret v) l := h
theorem if_t {p q : Prop} (h : p) : if (true = true) then p else q := by rw [if_pos rfl]; exact h
theorem if_f {p q : Prop} (h : q) : if (false = true) then p else q := by rw [if_neg Bool.false_ne_true]; exact h
theorem if_b {b : Bool} {p q : Prop} (h1 : b = true → p) (h2 : b = false → q) : if (b = true) then p else q := by cases b with | true => rw [if_pos rfl]; exact h1 rfl | false => rw [if_neg Bool.false_ne_true]; exact h2 rfl
theorem t_Break {pos : Pos} {R : Flow → Led → Prop} (h : R .brk l) (e : exec (.Break pos) env = (standAt pos >>= fun _ => pure .brk)) : Tr X A l (exec (.Break pos) env) R :=
  fun s E S => by rw [e]; exact wpAny_bind (wpAny_standAt (wpAny_pure ⟨l, S, h⟩))
theorem t_Continue {pos : Pos} {R : Flow → Led → Prop} (h : R .cont l) (e : exec (.Continue pos) env = (standAt pos >>= fun _ => pure .cont)) : Tr X A l (exec (.Continue pos) env) R :=
  fun s E S => by rw [e]; exact wpAny_bind (wpAny_standAt (wpAny_pure ⟨l, S, h⟩))
theorem trB_cons {x : Str} {v : Value} {r : List (Str × Value)} {R : Led → Prop} (h : Tr X A l (storeName env x v) fun _ l' => TrB X A env R r l') : TrB X A env R ((x, v) :: r) l := h
theorem trB_nil {R : Led → Prop} (h : R l) : TrB X A env R [] l := h

/-! tests -/
theorem t_isNot {x : Expr} {pos : Pos} {whole : Sem Value} (h : Tr X A l (isTrue x env (eval x env)) fun c => RB (!c)) : Tr X A l (isTrue (.UnaryOp .Not x pos) env whole) RB :=
  fun s E S => isTrue_not (h s E S)
theorem t_isAnd {x : Expr} {rest : List Expr} {pos : Pos} {whole : Sem Value}
    (h : Tr X A l (isTrue x env (eval x env)) fun c l1 => if c = true then Tr X A l1 (isTrue (.BoolOp .And rest pos) env whole) RB else RB false l1) : Tr X A l (isTrue (.BoolOp .And (x :: rest) pos) env whole) RB :=
  fun s E S => isTrue_and (h.use S fun c s1 l1 S1 h1 => by
    cases c with
    | true => exact h1 s1 E S1
    | false => exact ⟨l1, S1, h1⟩)
theorem t_isAnd0 {pos : Pos} {whole : Sem Value} (h : RB true l) : Tr X A l (isTrue (.BoolOp .And [] pos) env whole) RB := fun s E S => isTrue_and_nil ⟨l, S, h⟩
theorem t_isOr {x : Expr} {rest : List Expr} {pos : Pos} {whole : Sem Value}
    (h : Tr X A l (isTrue x env (eval x env)) fun c l1 => if c = true then RB true l1 else Tr X A l1 (isTrue (.BoolOp .Or rest pos) env whole) RB) : Tr X A l (isTrue (.BoolOp .Or (x :: rest) pos) env whole) RB :=
  fun s E S => isTrue_or (h.use S fun c s1 l1 S1 h1 => by
    cases c with
    | false => exact h1 s1 E S1
    | true => exact ⟨l1, S1, h1⟩)
theorem t_isOr0 {pos : Pos} {whole : Sem Value} (h : RB false l) : Tr X A l (isTrue (.BoolOp .Or [] pos) env whole) RB := fun s E S => isTrue_or_nil ⟨l, S, h⟩
theorem t_Bool1 {op : BoolOp} {e : Expr} {pos : Pos} (h : Tr X A l (eval e env) R) (he : eval (.BoolOp op [e] pos) env = eval e env) : Tr X A l (eval (.BoolOp op [e] pos) env) R := by rw [he]; exact h

theorem tt_none (h : RB false l) : Tr X A l (truthy .none) RB := fun s E S => truthy_none ⟨l, S, h⟩
theorem tt_bool {b : Bool} (h : RB b l) : Tr X A l (truthy (.bool b)) RB := fun s E S => wpAny_truthy_bool ⟨l, S, h⟩
theorem tt_int {a : Int} {t : Tok} (h : RB (a != 0) l) : Tr X A l (truthy (.int a t)) RB := fun s E S => PySem.P.truthy_int ⟨l, S, h⟩
theorem tt_str {x : Str} {t : Tok} (hz : x.length ≤ 1000000) (h : RB ((x.length : Int) != 0) l) : Tr X A l (truthy (.str x t)) RB := fun s E S => PySem.P.truthy_str (by (clear E; omega)) ⟨l, S.same rfl rfl rfl, h⟩
theorem tt_tup {a : Addr} {vs : List Value} (ha : Kn X l a (.tup vs)) (hz : vs.length ≤ 1000000) (h : RB (!vs.isEmpty) l) : Tr X A l (truthy (.ref a)) RB :=
  fun s E S => PyProof.Rows.truthy_tuple (ha.has S).isTup (by simp; (clear E; omega)) ⟨l, S.same rfl rfl rfl, by cases vs <;> exact h⟩
theorem tt_inst {x C d : Addr} {fs : List (Str × Value)} (hx : Kn X l x (.inst C d)) (hd : Kn X l d (.fld fs)) (hb : findIn X.K (.ref C) "__bool__" = some none) (hl : findIn X.K (.ref C) "__len__" = some none) (h : RB true l) :
    Tr X A l (truthy (.ref x)) RB := fun s E S => by
  obtain ⟨ox, od, I, _⟩ := instAt_of (hx.has S) (hd.has S)
  have a1 := looks_findIn (M := X.M) S.inK hb
  have a2 := looks_findIn (M := X.M) S.inK hl
  unfold truthy
  refine wpAny_bind (m := callSpecial? (.ref x) (Str.ofString "__bool__")) (wpAny_bind (wpAny_bind (I.type.here (a1.here (wpAny_pure ?_)))))
  exact wpAny_bind (wpAny_bind (I.type.here (a2.here (wpAny_pure ⟨l, S, h⟩))))

/-! comparisons -/
variable {a b : Int} {x y : Str} {t u : Tok}
theorem tc_eqI (h : R (.bool (a == b)) l) : Tr X A l (compareOp .Eq (.int a t) (.int b u)) R := fun s E S => PySem.P.eq_int ⟨l, S, h⟩
theorem tc_ltI (h : R (.bool (decide (a < b))) l) : Tr X A l (compareOp .Lt (.int a t) (.int b u)) R := fun s E S => PySem.P.lt_int ⟨l, S, h⟩
theorem tc_geI (h : R (.bool (decide (a ≥ b))) l) : Tr X A l (compareOp .GtE (.int a t) (.int b u)) R := fun s E S => PySem.P.ge_int ⟨l, S, h⟩
theorem tc_gtI (h : R (.bool (decide (a > b))) l) : Tr X A l (compareOp .Gt (.int a t) (.int b u)) R := fun s E S => PySem.P.gt_int ⟨l, S, h⟩
theorem tc_eqS (h : R (.bool (x == y)) l) : Tr X A l (compareOp .Eq (.str x t) (.str y u)) R := fun s E S => PyProof.Rows.eq_str ⟨l, S, h⟩
theorem tc_neS (h : R (.bool (x != y)) l) : Tr X A l (compareOp .NotEq (.str x t) (.str y u)) R := fun s E S => PyProof.Rows.ne_str ⟨l, S, h⟩
theorem tc_is {v w : Value} (hp : PySem.plainIs v w = true) (h : R (.bool (v == w)) l) : Tr X A l (compareOp .Is v w) R := fun s E S => wpAny_is_plain hp ⟨l, S, h⟩
theorem tc_isNot {v w : Value} (hp : PySem.plainIs v w = true) (h : R (.bool (!(v == w))) l) : Tr X A l (compareOp .IsNot v w) R := fun s E S => wpAny_isNot_plain hp ⟨l, S, h⟩
theorem tc_isRef {c : Addr} (h : R (.bool true) l) : Tr X A l (compareOp .Is (.ref c) (.ref c)) R := fun s E S => wpAny_is_ref_self ⟨l, S, h⟩

/-! ints -/
theorem ti_add (h : ∀ t, R (.int (a + b) t) l) : Tr X A l (binaryOp .Add (.int a t) (.int b u)) R := fun s E S => PySem.AutoIntOps.add_0 ⟨l, S.same rfl rfl rfl, h _⟩
theorem ti_iadd (h : ∀ t, R (.int (a + b) t) l) : Tr X A l (inplaceOp .Add (.int a t) (.int b u)) R := fun s E S => PySem.AutoIntOps.iadd_0 ⟨l, S.same rfl rfl rfl, h _⟩
theorem ti_sub (h : ∀ t, R (.int (a - b) t) l) : Tr X A l (binaryOp .Sub (.int a t) (.int b u)) R := fun s E S => PySem.AutoIntOps.sub_0 ⟨l, S.same rfl rfl rfl, h _⟩
theorem ti_mul (hm : IntMulOk a b) (h : ∀ t, R (.int (a * b) t) l) : Tr X A l (binaryOp .Mult (.int a t) (.int b u)) R := fun s E S => PySem.AutoIntOps.mul_0 ⟨l, S.same rfl rfl rfl, h _⟩ hm
theorem ti_mod (hb : b ≠ 0) (h : ∀ t, R (.int (a.fmod b) t) l) : Tr X A l (binaryOp .Mod (.int a t) (.int b u)) R := fun s E S => PySem.AutoIntOps.mod_1 (by simpa using hb) ⟨l, S.same rfl rfl rfl, h _⟩
theorem ti_div (hb : b ≠ 0) (hp : Builtin.divisionGoesByPylong a b = false) (h : ∀ t, R (.int (a.fdiv b) t) l) : Tr X A l (binaryOp .FloorDiv (.int a t) (.int b u)) R :=
  fun s E S => PySem.AutoIntOps.floordiv_1 (by simpa using hb) (by simp [hp]) ⟨l, S.same rfl rfl rfl, h _⟩

/-! strs -/
theorem ts_add (hz : x.length + y.length ≤ sizeLine) (h : ∀ t, R (.str (x ++ y) t) l) : Tr X A l (binaryOp .Add (.str x t) (.str y u)) R := fun s E S => SB.add (fun t' k => ⟨l, S.same rfl rfl rfl, h _⟩) hz
theorem t_len (hz : x.length ≤ 1000000) (h : ∀ t, R (.int x.length t) l) : Tr X A l (call (.builtin "len") [.str x t]) R := fun s E S => PySem.P.len_str (by (clear E; omega)) ⟨l, S.same rfl rfl rfl, h _⟩
theorem t_lenL {c : Addr} {vs : List Value} (ha : Kn X l c (.lst vs)) (hz : vs.length ≤ 1000000) (h : ∀ t, R (.int vs.length t) l) : Tr X A l (call (.builtin "len") [.ref c]) R :=
  fun s E S => Calls.call_len_list (ha.has S).isList (by simp; (clear E; omega)) ⟨l, S.same rfl rfl rfl, by simpa using h _⟩

/-! subscripts -/
theorem t_subTail {value slice : Expr} {o i : Value} {T id : String} {ops : List Value} (hT : ∀ s, X.At l s → s.TypeIs o T) (hl : typeLookup (.type T) "__getitem__" = pure (some (.builtin id)))
    (hs : subscripted slice false o i = operate ops (getItem o i)) (h : Tr X A l (getItem o i) R) : Tr X A l (subscriptTail value slice o i) R := fun s E S => by
  unfold subscriptTail
  have g : ∀ Q : Bool → Shared → Prop, Q false s → wpAny X.M A (getitemInPython o) Q E s := fun Q q => by
    unfold getitemInPython
    refine wpAny_bind (wpAny_specialOf (hT s S) hl ?_)
    exact wpAny_pure q
  refine wpAny_bind (g _ ?_)
  rw [hs]
  refine wpAny_bind (wpAny_operate' (h.use S fun v s1 l1 S1 h1 => ?_))
  exact wpAny_bind (wpAny_letTemporaryGo (wpAny_pure ⟨l1, S1, h1⟩))
theorem t_subStr {value slice : Expr} {i : Value} {ops : List Value} (hs : subscripted slice false (.str x t) i = operate ops (getItem (.str x t) i)) (h : Tr X A l (getItem (.str x t) i) R) :
    Tr X A l (subscriptTail value slice (.str x t) i) R := t_subTail (fun s _ => typeIs_str s x t) PySem.F.slot_str_getitem.lookup hs h
theorem t_subList {value slice : Expr} {i : Value} {ops : List Value} {c : Addr} {vs : List Value} (ha : Kn X l c (.lst vs)) (hs : subscripted slice false (.ref c) i = operate ops (getItem (.ref c) i)) (h : Tr X A l (getItem (.ref c) i) R) :
    Tr X A l (subscriptTail value slice (.ref c) i) R := t_subTail (fun s S => (ha.has S).isList.typeIs) PySem.list_getitem_lookup hs h
theorem t_subDict {value slice : Expr} {i : Value} {ops : List Value} {c : Addr} {vs : List (Str × Value)} (ha : Kn X l c (.dic vs)) (hs : subscripted slice false (.ref c) i = operate ops (getItem (.ref c) i)) (h : Tr X A l (getItem (.ref c) i) R) :
    Tr X A l (subscriptTail value slice (.ref c) i) R := t_subTail (fun s S => ((ha.has S).dictOf (prog := X.prog)).typeIs) slot_dict_getitem.lookup hs h
theorem t_subTup {value slice : Expr} {i : Value} {ops : List Value} {c : Addr} {vs : List Value} (ha : Kn X l c (.tup vs)) (hs : subscripted slice false (.ref c) i = operate ops (getItem (.ref c) i)) (h : Tr X A l (getItem (.ref c) i) R) :
    Tr X A l (subscriptTail value slice (.ref c) i) R := t_subTail (fun s S => let ⟨o, ho, hc, _⟩ := ha.has S; ⟨o, ho, hc⟩) PySem.F.slot_tuple_getitem.lookup hs h

theorem t_itemStr {i : Int} {c : Nat} (hi : 0 ≤ i) (hz : i < 2 ^ 63) (hc : x.cps[i.toNat]? = some c) (h : ∀ t, R (.str ⟨#[c]⟩ t) l) : Tr X A l (getItem (.str x t) (.int i u)) R := fun s E S => by
  refine PySem.P.getItem_str (c := c) ?_ ?_ ⟨l, S.same rfl rfl rfl, h _⟩
  · simp; (clear E; omega)
  · have hlt : i.toNat < x.cps.size := (Array.getElem?_eq_some_iff.mp hc).1
    have : seqIndex? i x.length = some i.toNat := by
      unfold seqIndex?
      have hn : x.length = x.cps.size := rfl
      rw [hn]
      have hlt' : i < (x.cps.size : Int) := by (clear hn; clear E; clear hz; clear hi; omega)
      simp [show ¬ i < 0 by (clear hlt'; clear hn; clear hlt; clear E; clear hz; omega), hi, hlt']
    rw [this]; exact hc
theorem t_itemList {i : Int} {c : Addr} {vs : List Value} {v : Value} (ha : Kn X l c (.lst vs)) (hi : 0 ≤ i) (hz : i < 2 ^ 63) (hv : vs[i.toNat]? = some v) (h : R v l) : Tr X A l (getItem (.ref c) (.int i u)) R :=
  fun s E S => wpAny_getItem_list (ha.has S).isList hi hz (by simpa using hv) ⟨l, S, h⟩
theorem t_itemListNeg {i : Int} {c : Addr} {vs : List Value} {v : Value} (ha : Kn X l c (.lst vs)) (hi : i < 0) (hz : -(vs.length : Int) ≤ i) (hz2 : -2 ^ 63 ≤ i) (hv : vs[(i + vs.length).toNat]? = some v) (h : R v l) : Tr X A l (getItem (.ref c) (.int i u)) R :=
  fun s E S => wpAny_getItem_list_neg (ha.has S).isList hi (by simpa using hz) hz2 (by simpa using hv) ⟨l, S, h⟩

/-- x[a:b], a and b cut to the length -/
def cut (x : Str) (a b : Nat) : Str := ⟨((x.cps.toList.take b).drop a).toArray⟩
def OpnS (l : Led) (P : PH → List (Addr × OD) → Array GenState → Prop) : Prop := P l.F l.N l.G
theorem opnS {P : PH → List (Addr × OD) → Array GenState → Prop} (h : P F N G) : OpnS ⟨F, N, G⟩ P := h
theorem t_Slice {lo hi : Option Expr} {p : Pos} (h : Tr X A ⟨F, N, G⟩ (evalPart lo env) fun v l1 => Tr X A l1 (evalPart hi env) fun w l2 => OpnS l2 fun F N G => ∀ a, R (.ref a) ⟨F, (a, .raw { cls := .type "slice", data := .fields #[v, w, .none] }) :: N, G⟩) :
    Tr X A ⟨F, N, G⟩ (eval (.Slice lo hi none p) env) R := fun s E S => wpAny_Slice (h.use S fun v s1 l1 S1 h1 => h1.use S1 fun w s2 l2 S2 h2 => wpAny_pure
      ⟨⟨l2.F, (s2.heap.objs.size, .raw { cls := .type "slice", data := .fields #[v, w, .none] }) :: l2.N, l2.G⟩, At.allocT S2 (D := .raw { cls := .type "slice", data := .fields #[v, w, .none] }) ⟨rfl, rfl⟩, h2 _⟩)
theorem t_part0 (h : R .none l) : Tr X A l (evalPart none env) R := fun s E S => wpAny_pure ⟨l, S, h⟩
theorem t_part {e : Expr} (h : Tr X A l (eval e env) R) : Tr X A l (evalPart (some e) env) R := h

theorem cut_picked (x : Str) (a b : Nat) : (Builtin.Str.strSliceIndices (some (a : Int)) (some (b : Int)) 1 x.length).filterMap (x.cps[·]?) = (x.cps.toList.take b).drop a ∧
    ((Builtin.Str.strSliceIndices (some (a : Int)) (some (b : Int)) 1 x.length).length = x.length → (x.cps.toList.take b).drop a = x.cps.toList) := by
  have e : Builtin.Str.strSliceIndices (some (a : Int)) (some (b : Int)) 1 x.length = (List.range (min b x.length - min a x.length)).map fun k => min a x.length + k := by
    have e1 : max (0 : Int) (min (a : Int) (x.length : Int)) = (min a x.length : Nat) := by omega
    have e2 : max (0 : Int) (min (b : Int) (x.length : Int)) = (min b x.length : Nat) := by (clear e1; omega)
    have h1 : ¬ ((a : Int) < 0) := by (clear e2; clear e1; omega)
    have h2 : ¬ ((b : Int) < 0) := by (clear h1; clear e2; clear e1; omega)
    simp only [Builtin.Str.strSliceIndices, sliceRange, h1, h2, if_false, e1, e2, show ((1 : Int) > 0) = True from by simp, if_true]
    by_cases hlt : ((min a x.length : Nat) : Int) < (min b x.length : Nat)
    · have e3 : (((min b x.length : Nat) : Int) - (min a x.length : Nat) + 1 - 1) / 1 = ((min b x.length - min a x.length : Nat) : Int) := by rw [Int.ediv_one]; (clear h2; clear h1; clear e2; clear e1; omega)
      simp only [hlt, if_true, e3, Int.toNat_natCast]
      refine List.map_congr_left fun k _ => ?_
      (clear e3; clear hlt; clear h2; clear h1; clear e2; clear e1; omega)
    · have : min b x.length - min a x.length = 0 := by (clear h2; clear h1; clear e2; clear e1; omega)
      simp [hlt, this]
  have hl : x.cps.toList.length = x.length := by simp [Str.length]
  rw [e]
  constructor
  · have h := PySem.StrLaws.picks x.cps.toList (min b x.length - min a x.length) (min a x.length)
    have hle : min a x.length + (min b x.length - min a x.length) ≤ x.cps.toList.length ∨ min b x.length - min a x.length = 0 := by (clear h; omega)
    rcases hle with hle | h0
    · have h' := h hle
      rw [List.drop_take]
      have : (fun k : Nat => x.cps[k]?) = (fun k => x.cps.toList[k]?) := by funext k; simp
      rw [this, h']
      by_cases ha : a ≤ x.length
      · rw [Nat.min_eq_left ha]
        by_cases hb : b ≤ x.length
        · rw [Nat.min_eq_left hb]
        · rw [Nat.min_eq_right (by (clear ha; clear hle; clear h; clear hl; omega))]
          rw [List.take_of_length_le (by rw [List.length_drop, hl]; with_reducible exact Nat.le_refl _), List.take_of_length_le (by rw [List.length_drop, hl]; (clear ha; clear hle; clear h; clear hl; omega))]
      · rw [List.drop_of_length_le (by (clear hle; clear h; omega)), List.drop_of_length_le (by (clear hle; clear h; omega))]; simp
    · rw [h0]
      rw [List.drop_take]
      by_cases ha : a ≤ x.length
      · by_cases hb : b ≤ x.length
        · have : b - a = 0 := by (clear ha; clear h; clear hl; omega)
          simp [this]
        · have : x.length - a = 0 := by (clear ha; clear h; clear hl; omega)
          rw [List.drop_of_length_le (by (clear this; clear ha; clear h; omega))]; simp
      · rw [List.drop_of_length_le (by (clear h0; clear h; omega))]; simp
  · intro h
    simp only [List.length_map, List.length_range] at h
    by_cases h0 : x.length = 0
    · have : x.cps.toList = [] := List.length_eq_zero_iff.mp (hl.trans h0)
      simp [this]
    · have ha : a = 0 := by (clear hl; omega)
      have hb : x.length ≤ b := by (clear ha; clear h0; clear hl; omega)
      subst ha
      rw [List.take_of_length_le (by (clear h; clear h0; omega))]; rfl
theorem strSl {x : Str} {t : Tok} {p q : Option (Int × Tok)} {a b : Nat} (hp : (p.map (·.1)).getD 0 = (a : Int)) (hq : (q.map (·.1)).getD (x.length : Int) = (b : Int)) (hz : x.length ≤ sizeLine) {Q : Value → Shared → Prop} {s : Shared}
    (h : ∀ t' k, Q (.str (cut x a b) t') { s with toks := k }) : (sliceMade x t p q none).post Q s := by
  have e : Builtin.Str.strSliceIndices (p.map (·.1)) (q.map (·.1)) 1 x.length = Builtin.Str.strSliceIndices (some (a : Int)) (some (b : Int)) 1 x.length := by
    rcases p with _ | ⟨p, tp⟩ <;> rcases q with _ | ⟨q, tq⟩ <;> simp only [Option.map_none, Option.map_some, Option.getD_none, Option.getD_some] at hp hq ⊢
    · rw [PySem.StrLaws.sliceIdx_none_lo, PySem.StrLaws.sliceIdx_none_hi, hp, hq]
    · rw [PySem.StrLaws.sliceIdx_none_lo, hp, hq]
    · rw [PySem.StrLaws.sliceIdx_none_hi, hp, hq]
    · rw [hp, hq]
  have c := cut_picked x a b
  unfold sliceMade
  have hc : (slicePicked x p q none) = Builtin.Str.strSliceIndices (some (a : Int)) (some (b : Int)) 1 x.length := e
  rw [hc]
  have el : (cut x a b).length ≤ x.length := by
    show ((x.cps.toList.take b).drop a).toArray.size ≤ _
    simp [Str.length]; (clear c; clear hz; clear hq; clear hp; omega)
  have ed : (if ((((none : Option (Int × Tok)).map (·.1)).getD 1 == 1 && (Builtin.Str.strSliceIndices (some (a : Int)) (some (b : Int)) 1 x.length).length == x.length) = true) then x
      else (⟨((Builtin.Str.strSliceIndices (some (a : Int)) (some (b : Int)) 1 x.length).filterMap (x.cps[·]?)).toArray⟩ : Str)) = cut x a b := by
    split
    · rename_i hh
      have := c.2 (by simpa using hh)
      show x = ⟨((x.cps.toList.take b).drop a).toArray⟩
      rw [this]
    · rw [c.1]; rfl
  exact PySem.post_val_or_str ⟨by rw [ed]; (clear c; clear hq; clear hp; omega), by rw [ed]; exact h⟩
theorem t_getSlice {c : Addr} {p q : Option (Int × Tok)} {a b : Nat} (hc : Kn X l c (.raw { cls := .type "slice", data := .fields #[partValue p, partValue q, .none] })) (hp : (p.map (·.1)).getD 0 = (a : Int)) (hq : (q.map (·.1)).getD (x.length : Int) = (b : Int)) (hz : x.length ≤ 1000000)
    (h : ∀ t, R (.str (cut x a b) t) l) : Tr X A l (getItem (.str x t) (.ref c)) R := fun s E S => by
  obtain ⟨o, ho, e, _⟩ := hc.has S
  refine wpAny_getItem_str_slice (st := none) (l := p) (u := q) ⟨o, ho, e ▸ rfl, e ▸ rfl⟩ rfl (strSl hp hq (by unfold sizeLine; (clear E; clear hq; clear hp; omega)) fun t' k => ⟨l, S.same rfl rfl rfl, h _⟩)
end
end Mine

namespace Mine
theorem At.ext {K mg mb P F G O s} {N N' : List (Addr × OD)} {a : Addr} {D : OD} (S : At K mg mb P F N G O s) (r : Rem N (a, D) N') {h' : Heap} (he : Heap.ExtBut a s.heap h') {dr : Drawn} {t : Nat} : At K mg mb P F N' G O ⟨h', s.gens, dr, t, s.os⟩ := by
  have S' := At.rem S r
  have hF := (S'.nw _ (.head _)).1.2
  refine ⟨S'.top, fun b x e => ?_, fun p hp => ?_, (List.nodup_cons.mp S'.nd).2, S'.gn, S'.os⟩
  · have ne : b ≠ a := fun z => by rw [z, hF] at e; cases e
    exact he b x ne (S'.fz b x e)
  · obtain ⟨h1, x, hx, k⟩ := S'.nw p (.tail _ hp)
    have ne : p.1 ≠ a := fun e => (List.nodup_cons.mp S'.nd).1 (e ▸ List.mem_map_of_mem (f := (·.1)) hp)
    exact ⟨h1, x, he _ _ ne hx, k⟩
section
variable {α β : Type} {X : Cx} {A : Around} {l : Led} {env : Env}
variable {F : PH} {N N' : List (Addr × OD)} {G : Array GenState}
variable {R : Value → Led → Prop} {RB : Bool → Led → Prop} {RO : Option Value → Led → Prop}

/-- one turn of a for, unrolled -/
theorem cl_for1 {target : Expr} {it : Value} {body orelse : List Stmt} {R : Flow → Led → Prop}
    (h : Tr X A l (pyNext it) fun r l1 => match r with
      | none => Tr X A l1 (execs orelse env) R
      | some v => Tr X A l1 (letOwnedTupleGo target it v) fun _ l2 => Tr X A l2 (assign target env v) fun _ l3 => Tr X A l3 (execs body env) (Turn R fun l4 => Cl X A l4 (.forLoop target it body orelse env) R)) :
    Cl X A l (.forLoop target it body orelse env) R := by
  intro s R' S k
  refine codeAny_of_tree ?_
  show wpAny _ A ((forTurn target it body orelse env).onRaise (fun x => do noteFrame x env; theTreesLotGoes x)) _ _ s
  refine wpAny_noted ?_
  simp only [forTurn]
  refine wpAny_bind (wpAny_standAt (wpAny_bind (wpAny_onRaise (h.use S fun r s1 l1 S1 h1 => ?_))))
  cases r with
  | none => exact wpAny_pure ⟨rfl, codeAny_block (Tr.use h1 S1 fun f s2 l2 S2 r => k f s2 l2 S2 r)⟩
  | some v =>
    refine wpAny_bind (Tr.use h1 S1 fun _ s2 l2 S2 h2 => wpAny_bind (h2.use S2 fun _ s3 l3 S3 h3 => wpAny_bind (h3.use S3 fun f s4 l4 S4 h4 => ?_)))
    cases f with
    | next => exact wpAny_pure ⟨rfl, h4 s4 R' S4 k⟩
    | cont => exact wpAny_pure ⟨rfl, h4 s4 R' S4 k⟩
    | brk => exact wpAny_pure (k _ _ l4 S4 h4)
    | ret v => exact wpAny_pure (k _ _ l4 S4 h4)

/-- an iterator, its row by its place, what it gives; J: what holds beside it -/
structure ItOk (X : Cx) (A : Around) (it : Addr) (n : Nat) (row : Nat → OD) (el : Nat → Value → List (Addr × OD) → Prop) (J : Nat → Led → Prop) : Prop where
  item : ∀ i F N G (R : Option Value → Led → Prop), i < n → J i ⟨F, N, G⟩ → (∀ v new, el i v new → R (some v) ⟨F, (it, row (i + 1)) :: (new ++ N), G⟩) → Tr X A ⟨F, (it, row i) :: N, G⟩ (pyNext (.ref it)) R
  fin : ∀ F N G (R : Option Value → Led → Prop), J n ⟨F, N, G⟩ → R none ⟨F, N, G⟩ → Tr X A ⟨F, (it, row n) :: N, G⟩ (pyNext (.ref it)) R

abbrev itL (a : Addr) (i : Nat) : OD := .rcd "list_iterator" [.ref a, .int (i : Int) 0]
abbrev itT (a : Addr) (i : Nat) : OD := .rcd "tuple_iterator" [.ref a, .int (i : Int) 0]
theorem t_iterList {a : Addr} {vs : List Value} (ha : Kn X ⟨F, N, G⟩ a (.lst vs)) (h : ∀ it, R (.ref it) ⟨F, (it, itL a 0) :: N, G⟩) : Tr X A ⟨F, N, G⟩ (pyIter (.ref a)) R :=
  fun s E S => wpAny_pyIter_list (ha.has S).isList ⟨⟨F, (s.heap.objs.size, itL a 0) :: N, G⟩, At.allocT S (D := itL a 0) ⟨rfl, rfl⟩, h _⟩
theorem t_iterTup {a : Addr} {vs : List Value} (ha : Kn X ⟨F, N, G⟩ a (.tup vs)) (h : ∀ it, R (.ref it) ⟨F, (it, itT a 0) :: N, G⟩) : Tr X A ⟨F, N, G⟩ (pyIter (.ref a)) R :=
  fun s E S => wpAny_pyIter_tuple (ha.has S).isTup ⟨⟨F, (s.heap.objs.size, itT a 0) :: N, G⟩, At.allocT S (D := itT a 0) ⟨rfl, rfl⟩, h _⟩
theorem t_iterListIter {it a : Addr} {i : Nat} (hi : (it, itL a i) ∈ N) (h : R (.ref it) ⟨F, N, G⟩) : Tr X A ⟨F, N, G⟩ (pyIter (.ref it)) R := fun s E S => wpAny_pyIter_listiter (S.led hi) ⟨_, S, h⟩
theorem t_nextList {it a : Addr} {vs : List Value} {i : Nat} {v : Value} (hi : (it, itL a i) ∈ N) (ha : Kn X ⟨F, N, G⟩ a (.lst vs)) (hv : vs[i]? = some v)
    (u : LUpd N it (itL a (i + 1)) N') (h : RO (some v) ⟨F, N', G⟩) : Tr X A ⟨F, N, G⟩ (pyNext (.ref it)) RO := fun s E S =>
  wpAny_pyNext_list_item (i := i) (S.led hi) (ha.has S).isList (by simpa using hv) fun h' x sb => ⟨⟨F, N', G⟩, S.updT u sb x, h⟩
theorem t_nextListEnd {it a : Addr} {vs : List Value} {i : Nat} (hh : A.handled = none) (hi : (it, itL a i) ∈ N) (ha : Kn X ⟨F, N, G⟩ a (.lst vs)) (hv : vs.length ≤ i)
    (u : Rem N (it, itL a i) N') (h : RO none ⟨F, N', G⟩) : Tr X A ⟨F, N, G⟩ (pyNext (.ref it)) RO :=
  fun s E S => wpAny_pyNext_list_end hh (S.led hi) (ha.has S).isList (by simpa using hv) fun h' ex => ⟨⟨F, N', G⟩, At.ext S u ex, h⟩
theorem t_nextTup {it a : Addr} {vs : List Value} {i : Nat} {v : Value} (hi : (it, itT a i) ∈ N) (ha : Kn X ⟨F, N, G⟩ a (.tup vs)) (hv : vs[i]? = some v)
    (u : LUpd N it (itT a (i + 1)) N') (h : RO (some v) ⟨F, N', G⟩) : Tr X A ⟨F, N, G⟩ (pyNext (.ref it)) RO := fun s E S =>
  wpAny_pyNext_tuple_item (i := i) (S.led hi) (ha.has S).isTup (by simpa using hv) fun h' x sb => ⟨⟨F, N', G⟩, S.updT u sb x, h⟩
theorem t_nextTupEnd {it a : Addr} {vs : List Value} {i : Nat} (hh : A.handled = none) (hi : (it, itT a i) ∈ N) (ha : Kn X ⟨F, N, G⟩ a (.tup vs)) (hv : vs.length ≤ i)
    (u : Rem N (it, itT a i) N') (h : RO none ⟨F, N', G⟩) : Tr X A ⟨F, N, G⟩ (pyNext (.ref it)) RO :=
  fun s E S => wpAny_pyNext_tuple_end hh (S.led hi) (ha.has S).isTup (by simpa using hv) fun h' ex => ⟨⟨F, N', G⟩, At.ext S u ex, h⟩

/-- lists give their items -/
def elL (vs : List Value) (i : Nat) (v : Value) (new : List (Addr × OD)) : Prop := vs[i]? = some v ∧ new = []
theorem Kn.skip {p : Addr × OD} {a : Addr} {D : OD} (h : Kn X ⟨F, N, G⟩ a D) : Kn X ⟨F, p :: N, G⟩ a D := h.elim .inl fun h => h.elim (fun h => .inr (.inl (.tail _ h))) fun h => .inr (.inr h)
theorem t_assignName {x : Str} {p : Pos} {v : Value} {R : Unit → Led → Prop} (h : Tr X A l (storeName env x v) R) : Tr X A l (assign (.Name x p) env v) R := fun s E S => wpAny_assign_Name (h s E S)
theorem t_goName {x : Str} {p : Pos} {it v : Value} {R : Unit → Led → Prop} (h : R () l) : Tr X A l (letOwnedTupleGo (.Name x p) it v) R := fun s E S => wpAny_pure ⟨l, S, h⟩

/-! comprehensions -/
def Opn (l : Led) (P : PH → List (Addr × OD) → Array GenState → Prop) : Prop := P l.F l.N l.G
theorem opn {P : PH → List (Addr × OD) → Array GenState → Prop} (h : P F N G) : Opn ⟨F, N, G⟩ P := h
def EndC (C : Addr) (R : Led → Prop) (l : Led) : Prop := ∃ fr N', Rem l.N (C, .ns fr) N' ∧ R ⟨l.F, N', l.G⟩
theorem endC {C : Addr} {R : Led → Prop} {fr : List (Str × Value)} (r : Rem N (C, .ns fr) N') (h : R ⟨F, N', G⟩) : EndC C R ⟨F, N, G⟩ := ⟨fr, N', r, h⟩
theorem new_envC {K : Frag} {mg mb : Str → Option Value} {O : OsState} {prog : Program} {w : World} {E : Value → Shared → Prop} {s : Shared} {scope : Scope} {cl : List (Str × Addr)} {Q : Env → Shared → Prop}
    (S : At K mg mb w.params F N G O s) (hc : cellNames scope.names = []) (h : ∀ C s', At K mg mb w.params F ((C, .ns []) :: N) G O s' → Q { compEnvC scope cl C env with scope := scope } s') :
    wpAny (model prog w) A (newFunctionEnv scope env.globals cl [] env.qual none .none (some env)) Q E s := by
  unfold newFunctionEnv
  refine wpAny_bind (wpAny_alloc ?_)
  refine cells_loop (N := (s.heap.objs.size, .ns []) :: N) scope.names cl _ Q (S.alloc (D := .ns []) (s' := { s with heap := _ }) ?_ rfl rfl rfl) fun cs s' hl S' => ?_
  · exact ⟨List.nodup_nil, #[], 0, rfl, fun e he => by simp at he, fun p hp => nomatch hp⟩
  · have hcs : cs = [] := List.length_eq_zero_iff.mp (by rw [hl, hc]; rfl)
    subst hcs
    rw [hc]
    exact binds_loop (β := Env) (env := { compEnvC scope cl s.heap.objs.size env with scope := scope }) (fun _ => pure { compEnvC scope cl s.heap.objs.size env with scope := scope }) Q [] (wpAny_pure (h _ s' S'))

theorem ns_of_row {K : Frag} {mg mb : Str → Option Value} {P : Params} {O : OsState} {s : Shared} {C : Addr} {fr : List (Str × Value)} (S : At K mg mb P F N G O s) (hN : (C, OD.ns fr) ∈ N) : ∃ m, s.heap.Ns C m := by
  obtain ⟨o, ho, _, es, n, hdt, hs, hl⟩ := S.led hN
  exact ⟨nsFind es, o, es, n, ho, hdt, hs, fun _ => rfl⟩
theorem At.but {K mg mb P O s} {a : Addr} {D : OD} (S : At K mg mb P F N G O s) (r : Rem N (a, D) N') {h' : Heap} (he : Heap.SameBut a s.heap h') : At K mg mb P F N' G O { s with heap := h' } :=
  At.ext S r (fun b o hb e => by rw [he.2 b hb]; exact e)

abbrev compGo (elt : Expr) (gens : List Comprehension) (scope : Scope) (pos : Pos) : Expr := .ListComp elt gens scope pos
theorem t_comp {e : Expr} {scope : Scope} {pos : Pos} {first : Sem Value} {g : Comprehension} {gs : List Comprehension} {cl : List (Str × Addr)}
    (hcl : clausesOf e = g :: gs) (hclos : closureFor scope env = pure cl) (hkind : scope.kind = .function)
    (hnames : ∀ x ∈ scope.names, x.2 = .local → scope.names.lookup x.1 = some .local) (hc : cellNames scope.names = [])
    (h : Tr X A l first fun x l1 => Tr X A l1 (pyIter x) fun it l2 => ∀ acc C, Cl X A ⟨l2.F, (C, .ns []) :: (acc, .lst []) :: l2.N, l2.G⟩ (.compStart e 0 it (.ref acc) (compEnvC scope cl C env))
      fun _ l3 => ∃ fr N', Rem l3.N (C, .ns fr) N' ∧ R (.ref acc) ⟨l3.F, N', l3.G⟩)
    (hs : ∀ x, foldedSetIterable g.iter env x = pure x) : Tr X A l (comprehension e scope env pos (newList []) false first none) R := by
  intro s E S
  refine wpAny_comprehension_free hcl hs hclos hkind hnames (h.use S fun x s1 l1 S1 h1 => h1.use S1 fun it s2 l2 S2 h2 => ?_)
  refine wpAny_newList ?_
  refine new_envC (At.allocT S2 (D := .lst []) ⟨rfl, ⟨rfl, rfl⟩, 0, rfl⟩) hc fun C s4 S4 => ?_
  refine h2 _ C s4 _ S4 fun f s5 l5 S5 ⟨fr, N', r, q⟩ => ?_
  obtain ⟨m, hm⟩ := ns_of_row S5 (r.mem _ (.head _))
  exact ⟨m, hm, fun h' sb => ⟨⟨l5.F, N', l5.G⟩, At.but S5 r sb, q⟩⟩
theorem t_compUse {e : Expr} {scope : Scope} {pos : Pos} {first : Sem Value} {g : Comprehension} {gs : List Comprehension} {cl : List (Str × Addr)} {u : Value → Sem Unit}
    (hcl : clausesOf e = g :: gs) (hclos : closureFor scope env = pure cl) (hkind : scope.kind = .function)
    (hnames : ∀ x ∈ scope.names, x.2 = .local → scope.names.lookup x.1 = some .local) (hc : cellNames scope.names = [])
    (h : Tr X A l first fun x l1 => Tr X A l1 (pyIter x) fun it l2 => ∀ acc C, Cl X A ⟨l2.F, (C, .ns []) :: (acc, .lst []) :: l2.N, l2.G⟩ (.compStart e 0 it (.ref acc) (compEnvC scope cl C env))
      fun _ l3 => Tr X A l3 (u (.ref acc)) fun _ l4 => ∃ fr N', Rem l4.N (C, .ns fr) N' ∧ R .none ⟨l4.F, N', l4.G⟩)
    (hs : ∀ x, foldedSetIterable g.iter env x = pure x) : Tr X A l (comprehension e scope env pos (newList []) false first (some u)) R := by
  intro s E S
  refine wpAny_comprehension_free hcl hs hclos hkind hnames (h.use S fun x s1 l1 S1 h1 => h1.use S1 fun it s2 l2 S2 h2 => ?_)
  refine wpAny_newList ?_
  refine new_envC (At.allocT S2 (D := .lst []) ⟨rfl, ⟨rfl, rfl⟩, 0, rfl⟩) hc fun C s4 S4 => ?_
  refine h2 _ C s4 _ S4 fun f s5 l5 S5 h5 => ?_
  refine Tr.use h5 S5 fun _ s6 l6 S6 ⟨fr, N', r, q⟩ => ?_
  obtain ⟨m, hm⟩ := ns_of_row S6 (r.mem _ (.head _))
  exact ⟨m, hm, fun h' sb => ⟨⟨l6.F, N', l6.G⟩, At.but S6 r sb, q⟩⟩
theorem t_ListComp {elt target iter : Expr} {ifs : List Expr} {rest : List Comprehension} {scope : Scope} {pos : Pos} {cl : List (Str × Addr)}
    (hclos : closureFor scope env = pure cl) (hkind : scope.kind = .function) (hnames : ∀ x ∈ scope.names, x.2 = .local → scope.names.lookup x.1 = some .local) (hc : cellNames scope.names = [])
    (h : Tr X A l (eval iter env) fun x l1 => Tr X A l1 (pyIter x) fun it l2 => Opn l2 fun F N G => ∀ acc C, Cl X A ⟨F, (C, .ns []) :: (acc, .lst []) :: N, G⟩ (.compStart (.ListComp elt (⟨target, iter, ifs, 0⟩ :: rest) scope pos) 0 it (.ref acc) (compEnvC scope cl C env))
      fun _ l3 => EndC C (R (.ref acc)) l3)
    (hs : ∀ x, foldedSetIterable iter env x = pure x) : Tr X A l (eval (.ListComp elt (⟨target, iter, ifs, 0⟩ :: rest) scope pos) env) R := by
  rw [eval_ListComp]
  exact t_comp rfl hclos hkind hnames hc h hs
theorem t_AssignComp {elt target iter : Expr} {ifs : List Expr} {rest : List Comprehension} {scope : Scope} {pos spos p : Pos} {y : Str} {cl : List (Str × Addr)} {R : Flow → Led → Prop}
    (hsw : swapsWith (.ListComp elt (⟨target, iter, ifs, 0⟩ :: rest) scope pos) (some (.Name y p)) spos.line env = pure true)
    (hclos : closureFor scope env = pure cl) (hkind : scope.kind = .function) (hnames : ∀ x ∈ scope.names, x.2 = .local → scope.names.lookup x.1 = some .local) (hc : cellNames scope.names = [])
    (h : Tr X A l (eval iter env) fun x l1 => Tr X A l1 (pyIter x) fun it l2 => Opn l2 fun F N G => ∀ acc C, Cl X A ⟨F, (C, .ns []) :: (acc, .lst []) :: N, G⟩ (.compStart (.ListComp elt (⟨target, iter, ifs, 0⟩ :: rest) scope pos) 0 it (.ref acc) (compEnvC scope cl C env))
      fun _ l3 => Tr X A l3 (storeName env y (.ref acc)) fun _ l4 => EndC C (R .next) l4)
    (hs : ∀ x, foldedSetIterable iter env x = pure x) : Tr X A l (exec (.Assign [.Name y p] (.ListComp elt (⟨target, iter, ifs, 0⟩ :: rest) scope pos) spos) env) R := by
  rw [exec_Assign_Name_used _ _ _ _ hsw]
  refine tr_bind (m := standAt spos) fun s E S => wpAny_standAt ⟨l, S, ?_⟩
  refine tr_bind (m := evalThenUse _ _ _) ?_
  show Tr X A l (comprehension _ scope env _ (newList []) false (eval iter env) (some (assign (.Name y p) env)) >>= fun _ => pure ()) _
  refine tr_bind (t_compUse (R := fun v l' => v = .none ∧ R .next l') rfl hclos hkind hnames hc (h.mono fun x l1 h1 => h1.mono fun it l2 h2 acc C => (h2 acc C).mono fun _ l3 h3 => t_assignName (h3.mono fun _ l4 ⟨fr, N', r, q⟩ => ⟨fr, N', r, rfl, q⟩)) hs |>.mono fun v l' q => ?_)
  exact tr_pure (tr_pure q.2)

theorem cl_compStart {elt target iter : Expr} {ifs : List Expr} {rest : List Comprehension} {scope : Scope} {pos : Pos} {it acc : Value} {R : Flow → Led → Prop}
    (h0 : Cl X A l (.compLoop (.ListComp elt (⟨target, iter, ifs, 0⟩ :: rest) scope pos) 0 it acc env) R)
    (h : Tr X A l (pyIter it) fun it' l' => Cl X A l' (.compLoop (.ListComp elt (⟨target, iter, ifs, 0⟩ :: rest) scope pos) 0 it' acc env) R) :
    Cl X A l (.compStart (.ListComp elt (⟨target, iter, ifs, 0⟩ :: rest) scope pos) 0 it acc env) R :=
  fun s R' S k => codeAny_compStart_list (h0 s R' S k) (h.use S fun it' s' l' S' h' => h' s' R' S' k)
/-- one turn of a comprehension of one clause without a test -/
theorem cl_comp1 {elt target iter : Expr} {scope : Scope} {pos : Pos} {it acc : Value} {R : Flow → Led → Prop}
    (h : Tr X A l (pyNext it) fun r l1 => match r with
      | none => R .next l1
      | some v => Tr X A l1 (letOwnedTupleGo target it v) fun _ l2 => Tr X A l2 (assign target env v) fun _ l3 => Tr X A l3 (eval elt env) fun x l4 => Tr X A l4 (call (.builtin "list.append") [acc, x]) fun _ l5 =>
          Cl X A l5 (.compLoop (.ListComp elt [⟨target, iter, [], 0⟩] scope pos) 0 it acc env) R) :
    Cl X A l (.compLoop (.ListComp elt [⟨target, iter, [], 0⟩] scope pos) 0 it acc env) R := by
  intro s R' S k
  refine codeAny_of_tree ?_
  show wpAny _ _ ((compTurn (.ListComp elt [⟨target, iter, [], 0⟩] scope pos) 0 it acc env).onRaise (fun x => do noteFrame x env; theTreesLotGoes x)) _ _ s
  refine wpAny_noted ?_
  rw [compTurn_list1]
  refine wpAny_bind (wpAny_standAt (wpAny_bind (h.use S fun r s1 l1 S1 h1 => ?_)))
  cases r with
  | none => exact wpAny_pure (k _ _ l1 S1 h1)
  | some v =>
    refine wpAny_bind (Tr.use h1 S1 fun _ s2 l2 S2 h2 => wpAny_bind (h2.use S2 fun _ s3 l3 S3 h3 => wpAny_bind (wpAny_bind (h3.use S3 fun x s4 l4 S4 h4 => wpAny_bind (h4.use S4 fun _ s5 l5 S5 h5 => ?_)))))
    exact wpAny_pure (wpAny_pure ⟨rfl, h5 s5 R' S5 k⟩)
theorem compTurn_list1ifs (elt target iter : Expr) (ifs : List Expr) (scope : Scope) (pos : Pos) (it acc : Value) (env : Env) :
    compTurn (.ListComp elt [⟨target, iter, ifs, 0⟩] scope pos) 0 it acc env = (standAt iter.pos >>= fun _ => pyNext it >>= fun r => match r with
      | none => pure (.done .next)
      | some v => letOwnedTupleGo target it v >>= fun _ => assign target env v >>= fun _ =>
        (forIn ifs true fun c r => if r = true then do let ok ← isTrue c env (eval c env); pure (ForInStep.yield ok) else pure (ForInStep.yield r)) >>= fun ok =>
        if ok = true then (eval elt env >>= fun x => call (.builtin "list.append") [acc, x] >>= fun _ => pure ()) >>= fun _ =>
          again (.compLoop (.ListComp elt [⟨target, iter, ifs, 0⟩] scope pos) 0 it acc env) else again (.compLoop (.ListComp elt [⟨target, iter, ifs, 0⟩] scope pos) 0 it acc env)) := rfl
/-- one turn of a comprehension of one clause with one test -/
theorem cl_comp1if {elt target iter c : Expr} {scope : Scope} {pos : Pos} {it acc : Value} {R : Flow → Led → Prop}
    (h : Tr X A l (pyNext it) fun r l1 => match r with
      | none => R .next l1
      | some v => Tr X A l1 (letOwnedTupleGo target it v) fun _ l2 => Tr X A l2 (assign target env v) fun _ l3 => Tr X A l3 (isTrue c env (eval c env)) fun b l4 =>
          if b = true then Tr X A l4 (eval elt env) fun x l5 => Tr X A l5 (call (.builtin "list.append") [acc, x]) fun _ l6 => Cl X A l6 (.compLoop (.ListComp elt [⟨target, iter, [c], 0⟩] scope pos) 0 it acc env) R
          else Cl X A l4 (.compLoop (.ListComp elt [⟨target, iter, [c], 0⟩] scope pos) 0 it acc env) R) :
    Cl X A l (.compLoop (.ListComp elt [⟨target, iter, [c], 0⟩] scope pos) 0 it acc env) R := by
  intro s R' S k
  refine codeAny_of_tree ?_
  show wpAny _ _ ((compTurn (.ListComp elt [⟨target, iter, [c], 0⟩] scope pos) 0 it acc env).onRaise (fun x => do noteFrame x env; theTreesLotGoes x)) _ _ s
  refine wpAny_noted ?_
  rw [compTurn_list1ifs]
  refine wpAny_bind (wpAny_standAt (wpAny_bind (h.use S fun r s1 l1 S1 h1 => ?_)))
  cases r with
  | none => exact wpAny_pure (k _ _ l1 S1 h1)
  | some v =>
    refine wpAny_bind (Tr.use h1 S1 fun _ s2 l2 S2 h2 => wpAny_bind (h2.use S2 fun _ s3 l3 S3 h3 => ?_))
    simp only [List.forIn_cons, List.forIn_nil, if_true, bind_assoc, pure_bind]
    refine wpAny_bind (h3.use S3 fun b s4 l4 S4 h4 => ?_)
    cases b with
    | true =>
      rw [if_pos rfl] at h4 ⊢
      refine wpAny_bind (h4.use S4 fun x s5 l5 S5 h5 => wpAny_bind (h5.use S5 fun _ s6 l6 S6 h6 => ?_))
      exact wpAny_pure ⟨rfl, h6 s6 R' S6 k⟩
    | false =>
      rw [if_neg Bool.false_ne_true] at h4 ⊢
      exact wpAny_pure ⟨rfl, h4 s4 R' S4 k⟩
end
end Mine

namespace Mine
theorem At.keep0 {K mg mb P F G O s} {N : List (Addr × OD)} (S : At K mg mb P F N G O s) {h' : Heap} (k : ∀ b o, s.heap.get? b = some o → h'.get? b = some o) {dr : Drawn} {t : Nat} : At K mg mb P F N G O ⟨h', s.gens, dr, t, s.os⟩ :=
  ⟨S.top, fun b x e => k _ _ (S.fz b x e), fun p hp => let ⟨h1, x, hx, q⟩ := S.nw p hp; ⟨h1, x, k _ _ hx, q⟩, S.nd, S.gn, S.os⟩
theorem At.keep1 {K mg mb P F G O s} {N : List (Addr × OD)} (S : At K mg mb P F N G O s) {h' : Heap} (k : ∀ b o, s.heap.get? b = some o → h'.get? b = some o) {a : Addr} {D : OD} (ha : s.heap.objs.size ≤ a) (hD : Has P h' a D) {dr : Drawn} {t : Nat} :
    At K mg mb P F ((a, D) :: N) G O ⟨h', s.gens, dr, t, s.os⟩ := by
  have S' := S.keep0 k (dr := dr) (t := t)
  have old : ∀ b o, s.heap.get? b = some o → b ≠ a := fun b o e q => absurd (q ▸ Heap.lt_size e) (Nat.not_lt.mpr ha)
  refine ⟨S.top, S'.fz, fun p hp => ?_, ?_, S.gn, S.os⟩
  · rcases List.mem_cons.mp hp with rfl | hp
    · refine ⟨⟨?_, ?_⟩, hD⟩
      · obtain ⟨_, _, _, hg, _⟩ := S.top.g
        exact Nat.lt_of_lt_of_le (Nat.lt_trans (by decide) (Heap.lt_size (S.fz _ _ hg))) ha
      · show F a = none
        cases h : F a with
        | none => rfl
        | some o => exact absurd rfl (old a o (S.fz _ _ h))
    · exact S'.nw p hp
  · rw [List.map_cons]
    refine List.nodup_cons.mpr ⟨fun h => ?_, S.nd⟩
    obtain ⟨p, hp, e⟩ := List.mem_map.mp h
    obtain ⟨_, o, ho, _⟩ := S.nw p hp
    exact old _ _ ho e

section
variable {α β : Type} {X : Cx} {A : Around} {l : Led} {env : Env}
variable {F : PH} {N N' : List (Addr × OD)} {G : Array GenState}
variable {R : Value → Led → Prop} {RB : Bool → Led → Prop} {RO : Option Value → Led → Prop} {x y : Str} {t u : Tok}

/-- a callee and its arguments are there -/
def CallP (X : Cx) (A : Around) (l : Led) (f : Value) (first : List Value) (a : Args) (R : Value → Led → Prop) : Prop := Callee X l f ∧ Tr X A l (call f (first ++ a.pos) a.kw) R
theorem t_callWithP {pos : Pos} {f : Value} {first : List Value} {args : List (Bool × Sem Value)} (h : Tr X A l (evalArgs f true args []) fun a l1 => CallP X A l1 f first a R) : Tr X A l (callWith pos f first args []) R := t_callWith h
theorem cp0 {f : Value} {vs : List Value} {kw : List (Str × Value)} (hc : Callee X l f) (h : Tr X A l (call f vs kw) R) : CallP X A l f [] ⟨vs, kw⟩ R := ⟨hc, h⟩
theorem cp1 {f v : Value} {vs : List Value} {kw : List (Str × Value)} (hc : Callee X l f) (h : Tr X A l (call f (v :: vs) kw) R) : CallP X A l f [v] ⟨vs, kw⟩ R := ⟨hc, h⟩

/-! comprehension starts -/
section
variable {elt target iter : Expr} {ifs : List Expr} {rest : List Comprehension} {scope : Scope} {pos : Pos} {acc : Value} {RF : Flow → Led → Prop}
theorem cs_list {it a : Addr} {i : Nat} (hi : (it, itL a i) ∈ N) (h : Cl X A ⟨F, N, G⟩ (.compLoop (.ListComp elt (⟨target, iter, ifs, 0⟩ :: rest) scope pos) 0 (.ref it) acc env) RF) :
    Cl X A ⟨F, N, G⟩ (.compStart (.ListComp elt (⟨target, iter, ifs, 0⟩ :: rest) scope pos) 0 (.ref it) acc env) RF := cl_compStart h (t_iterListIter hi h)
end

/-! strs -/
/-- values that are these strs -/
inductive Strs : List Str → List Value → Prop
  | nil : Strs [] []
  | cons {x t xs vs} : Strs xs vs → Strs (x :: xs) (.str x t :: vs)
theorem Strs.toks {xs : List Str} {vs : List Value} (h : Strs xs vs) : ∃ l : List (Str × Tok), strValues l = vs ∧ l.map (·.1) = xs := by
  induction h with
  | nil => exact ⟨[], rfl, rfl⟩
  | @cons x t xs vs _ ih => obtain ⟨l, h1, h2⟩ := ih; exact ⟨(x, t) :: l, by rw [← h1]; rfl, by rw [← h2]; rfl⟩
theorem t_join {a : Addr} {vs : List Value} {xs : List Str} (ha : Kn X l a (.lst vs)) (hs : Strs xs vs) (hz : JoinOk x xs = true) (h : ∀ t, R (.str (Txt.join x xs) t) l) : Tr X A l (call (.builtin "str.join") [.str x t, .ref a]) R := by
  obtain ⟨ps, rfl, e⟩ := hs.toks
  exact fun s E S => SC.join (ha.has S).isList e hz fun t' k => ⟨l, S.same rfl rfl rfl, h _⟩
theorem tt_str1 {c : Nat} (h : RB true l) : Tr X A l (truthy (.str ⟨#[c]⟩ t)) RB := tt_str (by show 1 ≤ _; decide) h
theorem t_len1 {c : Nat} (h : ∀ t, R (.int 1 t) l) : Tr X A l (call (.builtin "len") [.str ⟨#[c]⟩ t]) R := t_len (by show 1 ≤ _; decide) h

/-! types -/
theorem tin_strF {C : Addr} (e : isNotIn X.K "str" C = true) (h : R (.bool false) l) : Tr X A l (call (.builtin "isinstance") [.str x t, .ref C]) R :=
  fun s E S => isn_call (P := fun _ => True) S.inK (fun M => Looks.of_pure rfl) e (fun q => nomatch q) trivial str_cls ⟨l, S.same rfl rfl rfl, h⟩
theorem tup_type {a : Addr} {vs : List Value} {s} (ha : Kn X l a (.tup vs)) (S : X.At l s) : s.TypeIs (.ref a) "tuple" := let ⟨o, ho, hc, _⟩ := ha.has S; ⟨o, ho, hc⟩
theorem tin_tupF {C a : Addr} {vs : List Value} (ha : Kn X l a (.tup vs)) (e : isNotIn X.K "tuple" C = true) (h : R (.bool false) l) : Tr X A l (call (.builtin "isinstance") [.ref a, .ref C]) R := fun s E S => by
  obtain ⟨o, ho, hc, _⟩ := ha.has S
  refine isn_call (P := fun h => ∃ o, h.get? a = some o ∧ o.cls = .type "tuple") S.inK (fun M => ?_) e (fun q => nomatch q) ⟨o, ho, hc⟩ tuple_cls ⟨l, S.same rfl rfl rfl, h⟩
  have q := (Looks.ld (M := M) (part := some headPart) ho).andThen (f := fun ob => pure ob.cls) (Looks.of_pure rfl)
  rw [hc] at q
  exact q
theorem tin_strstr (h : R (.bool true) l) : Tr X A l (call (.builtin "isinstance") [.str x t, .type "str"]) R :=
  fun s E S => PySem.IsiPair.str_str ⟨l, S, h⟩
theorem tin_inttup {i : Int} (h : R (.bool false) l) : Tr X A l (call (.builtin "isinstance") [.int i t, .type "tuple"]) R := fun s E S => PySem.IsiPair.int_tuple ⟨l, S.same rfl rfl rfl, h⟩
theorem tin_intint {i : Int} (h : R (.bool true) l) : Tr X A l (call (.builtin "isinstance") [.int i t, .type "int"]) R := fun s E S => PySem.IsiPair.int_int ⟨l, S, h⟩
theorem tin_tupstr {a : Addr} {vs : List Value} (ha : Kn X l a (.tup vs)) (h : R (.bool false) l) : Tr X A l (call (.builtin "isinstance") [.ref a, .type "str"]) R :=
  fun s E S => PySem.IsiPair.isTuple_str (ha.has S).isTup (fun _ _ e => e) ⟨l, S.same rfl rfl rfl, h⟩
theorem tin_tuptup {a : Addr} {vs : List Value} (ha : Kn X l a (.tup vs)) (h : R (.bool true) l) : Tr X A l (call (.builtin "isinstance") [.ref a, .type "tuple"]) R :=
  fun s E S => PySem.IsiPair.isTuple_tuple (ha.has S).isTup (fun _ _ e => e) ⟨l, S, h⟩
theorem ty_own {x C d : Addr} {fs : List (Str × Value)} (hx : Kn X l x (.inst C d)) (hd : Kn X l d (.fld fs)) (h : R (.ref C) l) : Tr X A l (call (.type "type") [.ref x]) R := fun s E S => by
  obtain ⟨ox, od, I, _⟩ := instAt_of (hx.has S) (hd.has S)
  exact kto_own I ⟨l, S, h⟩
theorem ty_tup {a : Addr} {vs : List Value} (ha : Kn X l a (.tup vs)) (h : R (.type "tuple") l) : Tr X A l (call (.type "type") [.ref a]) R :=
  fun s E S => call_type_of (tup_type ha S) (by decide) ⟨l, S, h⟩

/-! lists and tuples made -/
theorem t_listOfList {a : Addr} {vs : List Value} (ha : Kn X ⟨F, N, G⟩ a (.lst vs)) (hz : vs.length ≤ 1000000) (h : ∀ b, R (.ref b) ⟨F, (b, .lst vs) :: N, G⟩) : Tr X A ⟨F, N, G⟩ (call (.type "list") [.ref a]) R := fun s E S => by
  obtain ⟨o, ho, hc, hdn, n, hd⟩ := ha.has S
  refine call_list_seq a (.inl rfl) ho hc hd (fun h' c' k g => ?_) (by simp [sizeLine]; omega)
  exact ⟨⟨F, (s.heap.objs.size, .lst vs) :: N, G⟩, At.keep1 S k (D := .lst vs) (Nat.le_refl _) ⟨_, g, rfl, ⟨rfl, rfl⟩, c', rfl⟩, h _⟩
theorem t_listOfTup {a : Addr} {vs : List Value} (ha : Kn X ⟨F, N, G⟩ a (.tup vs)) (hz : vs.length ≤ 1000000) (h : ∀ b, R (.ref b) ⟨F, (b, .lst vs) :: N, G⟩) : Tr X A ⟨F, N, G⟩ (call (.type "list") [.ref a]) R := fun s E S => by
  obtain ⟨o, ho, hc, hdn, n, hd⟩ := ha.has S
  refine call_list_seq a (.inr rfl) ho hc hd (fun h' c' k g => ?_) (by simp [sizeLine]; omega)
  exact ⟨⟨F, (s.heap.objs.size, .lst vs) :: N, G⟩, At.keep1 S k (D := .lst vs) (Nat.le_refl _) ⟨_, g, rfl, ⟨rfl, rfl⟩, c', rfl⟩, h _⟩
theorem t_dictGet2 {a : Addr} {kvs : List (Str × Value)} {v : Value} (ha : Kn X l a (.dic kvs)) (h : R ((valueAt kvs x).getD v) l) : Tr X A l (call (.builtin "dict.get") [.ref a, .str x t, v]) R := fun s E S =>
  call_meetsIn F.slot_dict_get ((ha.has S).dictOf (prog := X.prog)).typeIs F.entry_dict_get (F.args_dict_get_3 _ _ _) (meets_dict_get_default (strKind X.prog X.w) a (strKind_is X.prog X.w x t) (ha.notSys S) v)
    ⟨_, ((ha.has S).dictOf (prog := X.prog)).mapOf, ⟨l, S.same rfl rfl rfl, h⟩⟩
theorem t_dictGet1 {a : Addr} {kvs : List (Str × Value)} (ha : Kn X l a (.dic kvs)) (h : R ((valueAt kvs x).getD .none) l) : Tr X A l (call (.builtin "dict.get") [.ref a, .str x t]) R := fun s E S =>
  call_meetsIn F.slot_dict_get ((ha.has S).dictOf (prog := X.prog)).typeIs F.entry_dict_get (F.args_dict_get_2 _ _) (meets_dict_get (strKind X.prog X.w) a (strKind_is X.prog X.w x t) (ha.notSys S))
    ⟨_, ((ha.has S).dictOf (prog := X.prog)).mapOf, ⟨l, S.same rfl rfl rfl, h⟩⟩
theorem t_newDict (h : ∀ a, R (.ref a) ⟨F, (a, .dic []) :: N, G⟩) : Tr X A ⟨F, N, G⟩ newDict R := fun s E S => by
  unfold newDict
  exact wpAny_newObj_type ⟨⟨F, (s.heap.objs.size, .dic []) :: N, G⟩, At.allocT S (D := .dic []) ⟨⟨rfl, rfl, rfl⟩, List.nodup_nil, #[], 0, rfl, .nil⟩, h _⟩
end
end Mine

namespace Mine
structure Rm (A : Around) (n : Nat) : Prop where
  hd : A.handled = none
  dep : A.depth + n < recursionLimit
  un : A.units + 10 * n < cLine
theorem Rm.dp {A : Around} {n : Nat} {env : Env} (h : Rm A (n + 1)) : Rm (A.deeper env) n := ⟨h.hd, by have := h.dep; show A.depth + 1 + n < _; omega, by have := h.un; show A.units + 3 + 10 * n < _; omega⟩
theorem Rm.mk' {A : Around} {n : Nat} {C : Addr} {vs : List Value} {kw : List (Str × Value)} (h : Rm A (n + 1)) : Rm (A.under (.builtin "type.__call__" ⟨.ref C :: vs, kw⟩)) n := by
  have hw : (Code.builtin "type.__call__" ⟨.ref C :: vs, kw⟩).weight = 1 := by rfl
  have hu : (Code.builtin "type.__call__" ⟨.ref C :: vs, kw⟩).cUnits = 1 := rfl
  exact ⟨h.hd, by have := h.dep; show A.depth + (Code.builtin "type.__call__" ⟨.ref C :: vs, kw⟩).weight + n < _; rw [hw]; omega, by have := h.un; show A.units + (Code.builtin "type.__call__" ⟨.ref C :: vs, kw⟩).cUnits + 10 * n < _; omega⟩
theorem Rm.le {A : Around} {n m : Nat} (h : Rm A n) (k : m ≤ n) : Rm A m := ⟨h.hd, by have := h.dep; omega, by have := h.un; omega⟩
theorem Rm.room {A : Around} {n : Nat} (h : Rm A n) : A.depth < recursionLimit := by have := h.dep; omega
theorem Rm.un0 {A : Around} {n : Nat} (h : Rm A n) : A.units < cLine := by have := h.un; omega
theorem bl_len : bootBuiltins "len" = some (.builtin "len") := by kernel_rfl!
theorem bl_isinstance : bootBuiltins "isinstance" = some (.builtin "isinstance") := by kernel_rfl!
theorem bl_type : bootBuiltins "type" = some (.type "type") := by kernel_rfl!
theorem bl_list : bootBuiltins "list" = some (.type "list") := by kernel_rfl!
theorem bl_tuple : bootBuiltins "tuple" = some (.type "tuple") := by kernel_rfl!
theorem bl_range : bootBuiltins "range" = some (.type "range") := by kernel_rfl!
theorem bl_str : bootBuiltins "str" = some (.type "str") := by kernel_rfl!
theorem bl_int : bootBuiltins "int" = some (.type "int") := by kernel_rfl!
theorem bl_abs : bootBuiltins "abs" = some (.builtin "abs") := by kernel_rfl!
theorem bl_enumerate : bootBuiltins "enumerate" = some (.type "enumerate") := by kernel_rfl!
theorem bl_zip : bootBuiltins "zip" = some (.type "zip") := by kernel_rfl!
theorem t_join1 {X : Cx} {A : Around} {l : Led} {t u : Tok} {x : Str} {R : Value → Led → Prop} {a : Addr} (ha : Kn X l a (.lst [.str x u])) (hz : x.length ≤ 1000000) (h : ∀ t, R (.str x t) l) : Tr X A l (call (.builtin "str.join") [.str "" t, .ref a]) R :=
  t_join ha (.cons .nil) (by
    have e : (Str.ofString "").length = 0 := rfl
    have q : (!Builtin.Str.tooLong (0 + x.length + (Str.ofString "").length)) = true := by
      rw [e]
      have : ¬ (0 + x.length + 0 > sizeLine) := by unfold sizeLine; omega
      show (!decide (0 + x.length + 0 > sizeLine)) = true
      rw [decide_eq_false this]; rfl
    exact q) fun t => h t
theorem t_join11 {X : Cx} {A : Around} {l : Led} {t u : Tok} {c : Nat} {R : Value → Led → Prop} {a : Addr} (ha : Kn X l a (.lst [.str ⟨#[c]⟩ u])) (h : ∀ t, R (.str ⟨#[c]⟩ t) l) : Tr X A l (call (.builtin "str.join") [.str "" t, .ref a]) R :=
  t_join1 ha (by show 1 ≤ _; decide) h
section
variable {X : Cx} {A : Around} {l : Led} {x : Str} {t : Tok} {pl : Sem Bool} {R : Value × List Value → Led → Prop}
theorem ms_join (h : R (.builtin "str.join", [.str x t]) l) : Tr X A l (getMethod (.str x t) "join" pl) R := by with_reducible exact t_methStr PySem.F.slot_str_join PySem.F.type_str_join h
theorem ms_split (h : R (.builtin "str.split", [.str x t]) l) : Tr X A l (getMethod (.str x t) "split" pl) R := by with_reducible exact t_methStr PySem.F.slot_str_split PySem.F.type_str_split h
theorem ms_isupper (h : R (.builtin "str.isupper", [.str x t]) l) : Tr X A l (getMethod (.str x t) "isupper" pl) R := by with_reducible exact t_methStr PySem.F.slot_str_isupper PySem.F.type_str_isupper h
theorem ml_append {a : Addr} {vs : List Value} (ha : Kn X l a (.lst vs)) (h : R (.builtin "list.append", [.ref a]) l) : Tr X A l (getMethod (.ref a) "append" pl) R := by with_reducible exact t_methList ha PySem.F.slot_list_append PySem.F.type_list_append h
theorem ml_pop {a : Addr} {vs : List Value} (ha : Kn X l a (.lst vs)) (h : R (.builtin "list.pop", [.ref a]) l) : Tr X A l (getMethod (.ref a) "pop" pl) R := by with_reducible exact t_methList ha PySem.F.slot_list_pop PySem.F.type_list_pop h
theorem md_get {a : Addr} {kvs : List (Str × Value)} (ha : Kn X l a (.dic kvs)) (h : R (.builtin "dict.get", [.ref a]) l) : Tr X A l (getMethod (.ref a) "get" pl) R := by with_reducible exact t_methDict ha PySem.F.slot_dict_get PySem.F.type_dict_get h
theorem md_items {a : Addr} {kvs : List (Str × Value)} (ha : Kn X l a (.dic kvs)) (h : R (.builtin "dict.items", [.ref a]) l) : Tr X A l (getMethod (.ref a) "items" pl) R := by with_reducible exact t_methDict ha PySem.F.slot_dict_items PySem.F.type_dict_items h
theorem t_append0 {F : PH} {N N' : List (Addr × OD)} {G : Array GenState} {R : Value → Led → Prop} {a : Addr} {x : Value} (ha : (a, OD.lst []) ∈ N) (u : LUpd N a (.lst [x]) N') (h : R .none ⟨F, N', G⟩) : Tr X A ⟨F, N, G⟩ (call (.builtin "list.append") [.ref a, x]) R := t_append ha u (by decide) h
theorem t_append1 {F : PH} {N N' : List (Addr × OD)} {G : Array GenState} {R : Value → Led → Prop} {a : Addr} {x y : Value} (ha : (a, OD.lst [y]) ∈ N) (u : LUpd N a (.lst [y, x]) N') (h : R .none ⟨F, N', G⟩) : Tr X A ⟨F, N, G⟩ (call (.builtin "list.append") [.ref a, x]) R := t_append ha u (by show 1 ≤ _; decide) h
theorem if_T {b : Bool} {p q : Prop} (e : b = true) (h : p) : if (b = true) then p else q := by rw [if_pos e]; exact h
theorem if_F {b : Bool} {p q : Prop} (e : b = false) (h : q) : if (b = true) then p else q := by rw [if_neg (by rw [e]; exact Bool.false_ne_true)]; exact h
end
section
variable {X : Cx} {A : Around} {l : Led} {x : Str} {t ti tj : Tok} {R : Value → Led → Prop} {c : Addr} {i j : Int}
theorem t_slice2 (a b : Nat) (hc : Kn X l c (.raw { cls := .type "slice", data := .fields #[.int i ti, .int j tj, .none] })) (hi : i = a) (hj : j = b) (hz : x.length ≤ 1000000) (h : ∀ t, R (.str (cut x a b) t) l) :
    Tr X A l (getItem (.str x t) (.ref c)) R := t_getSlice (p := some (i, ti)) (q := some (j, tj)) hc hi hj hz h
end
theorem cut_one (x : Str) (p c : Nat) : (cut x p (p + 1) == (⟨#[c]⟩ : Str)) = decide (x.cps[p]? = some c) := by
  have e : (x.cps.toList.take (p + 1)).drop p = (x.cps[p]?).toList := by
    rw [List.drop_take, show p + 1 - p = 1 by omega, ← Array.getElem?_toList]
    cases h : x.cps.toList[p]? with
    | none =>
      have := List.getElem?_eq_none_iff.mp h
      rw [List.drop_of_length_le this]; rfl
    | some v =>
      obtain ⟨hlt, hv⟩ := List.getElem?_eq_some_iff.mp h
      rw [List.drop_eq_getElem_cons hlt, hv]; rfl
  have hb : ∀ a b : Str, (a == b) = decide (a.cps.toList = b.cps.toList) := fun a b => by
    obtain ⟨⟨a⟩⟩ := a
    obtain ⟨⟨b⟩⟩ := b
    by_cases h : a = b
    · subst h; simp
    · have : (Str.mk ⟨a⟩ == Str.mk ⟨b⟩) = false := by simpa using h
      rw [this]; simpa using h
  rw [hb]
  show decide (((x.cps.toList.take (p + 1)).drop p) = [c]) = _
  rw [e]
  cases x.cps[p]? <;> simp
end Mine

open PySem PySem.W PySem.W.X PyProof.Rows PySem.Calls PySem.Builtin.ObjectAttr
namespace Mine
/-- a run of a generator's part to its next stop -/
def Sg (X : Cx) (A : Around) (c : Code) (t : Sem Fin) (fs : List Frame) (l : Led) (P : End → Led → Prop) : Prop :=
  ∀ s, X.At l s → SegX X.M A c t fs s fun e s' => ∃ l', X.At l' s' ∧ P e l'

section
variable {α : Type} {X : Cx} {A : Around} {l : Led} {env : Env} {c : Code} {fs : List Frame} {P : End → Led → Prop}
variable {F : PH} {N N' : List (Addr × OD)} {G : Array GenState}
variable {K : Flow → Sem Fin} {H : Value → Sem Fin} {gd : Bool → Bool} {lv : List Value → List Value}

theorem sg_wrap {m : Sem α} {K : α → Sem Fin} (h : Tr X (A.over c fs) l m fun a l1 => Sg X A c (K a) fs l1 P) : Sg X A c (m.wrap K H gd lv) fs l P := by
  intro s S
  rintro Γ p rfl hΓ
  obtain ⟨e, s', hr, hq⟩ := runs_wrap_of_wp (Φ := fun e s' => e.quiet = true ∧ ∃ l', X.At l' s' ∧ P e l') K H gd lv m (h s (fun _ _ => False) S (Γ.over fs) p (hΓ.over fs))
    (fun a p' s' ⟨l1, S1, h1⟩ => h1 s' S1 Γ p' rfl hΓ) (fun x p' s' h' => h'.elim)
  exact ⟨e, s', hr, hq⟩
theorem sg_pick {t : Sem Fin} (p : Pick N N') (h : Sg X A c t fs ⟨F, N', G⟩ P) : Sg X A c t fs ⟨F, N, G⟩ P := fun s S => h s (S.pick p)
theorem sg_eq {t t' : Sem Fin} (e : t = t') (h : Sg X A c t' fs l P) : Sg X A c t fs l P := e ▸ h
theorem sg_again {c' : Code} (hq : c'.quiet = true) (h : Sg X A c' (X.M.den c') fs l P) : Sg X A c (.pure (.again c')) fs l P := fun s S => s_again X.prog X.w A c fs _ s c' hq (h s S)
theorem sg_pop {r : Result} {t : Sem Fin} (ht : t = leafOf r) {k : Result → Sem Fin} {hd : Option Value} {g : Bool} {lv : List Value} {c₁ : Code} {p₁ : Pos} {kp} (h : Sg X A c₁ (k r) fs l P) :
    Sg X A c t (.ret k hd g lv c₁ p₁ kp :: fs) l P := fun s S => s_pop X.prog X.w A c fs _ s r t ht k hd g lv c₁ p₁ kp (h s S)
theorem sg_end {r : Result} {t : Sem Fin} (ht : t = leafOf r) (h : P (.ret r) l) : Sg X A c t [] l P := fun s S => s_end X.prog X.w A c _ s r t ht ⟨l, S, h⟩
theorem sg_call {c' : Code} {hd : Option Value} {g : Bool} {lv : List Value} {k : Result → Sem Fin} (h : ∀ p, Sg X A c' (X.M.den c') (.ret k hd g lv c p [] :: fs) l P) : Sg X A c (.call c' hd g lv k) fs l P :=
  fun s S => s_call X.prog X.w A c fs _ s c' hd g lv k fun p => h p s S

/-! statements -/
theorem sg_cons {st : Stmt} {rest : List Stmt} (h : Sg X A c ((exec st env).wrap (fun f => match f with | .next => (execs rest env).wrap K H gd lv | f => K f) H gd lv) fs l P) : Sg X A c ((execs (st :: rest) env).wrap K H gd lv) fs l P := by
  rw [execs_cons_wrap]; exact h
theorem sg_nil (h : Sg X A c (K .next) fs l P) : Sg X A c ((execs [] env).wrap K H gd lv) fs l P := h
/-- a statement without a yield -/
theorem sg_stmt {st : Stmt} (h : Tr X (A.over c fs) l (exec st env) fun f l1 => Sg X A c (K f) fs l1 P) : Sg X A c ((exec st env).wrap K H gd lv) fs l P := sg_wrap h
theorem sg_at {p' : Pos} {k : Unit → Sem Fin} (h : Sg X A c (k ()) fs l P) : Sg X A c (.at p' k) fs l P :=
  sg_eq (t' := (standAt p').wrap k .raise id id) rfl (sg_wrap fun s E S => wpAny_standAt ⟨l, S, h⟩)
theorem sg_point {lw : List Value} {k : Unit → Sem Fin} (h : Sg X A c (k ()) fs l P) : Sg X A c (.point lw k) fs l P :=
  sg_eq (t' := point.wrap k .raise id (fun _ => lw)) rfl (sg_wrap fun s E S => wpAny_point ⟨l, S, h⟩)
theorem sg_If {test : Expr} {body orelse : List Stmt} {pos : Pos}
    (h : Tr X (A.over c fs) l (isTrue test env (eval test env)) fun b l1 => if b = true then Sg X A c ((execs body env).wrap K H gd lv) fs l1 P else Sg X A c ((execs orelse env).wrap K H gd lv) fs l1 P) :
    Sg X A c ((exec (.If test body orelse pos) env).wrap K H gd lv) fs l P := by
  rw [exec_If]
  show Sg X A c (.at pos fun _ => Sem.wrap K H gd lv (isTrue test env (eval test env) >>= fun b => if b = true then execs body env else execs orelse env)) fs l P
  refine sg_at ?_
  rw [Sem.bind_eq_wrap', Sem.wrap_wrap]
  refine sg_wrap (h.mono fun b l1 h1 => ?_)
  cases b with
  | true => exact h1
  | false => exact h1
theorem sg_yield0 {v : Value} {g : Bool} {lw : List Value} {k : Resume → Sem Fin} (hfs : splitAtGen fs = none) (hg : g = false) (hfg : fs.any Frame.guarded = false) (h : ∀ p, P (.susp v false lw k c p fs) l) : Sg X A c (.yield v g lw k) fs l P :=
  fun s S => by subst hg; exact s_yield X.prog X.w A c fs _ s v lw k hfs hfg fun p => ⟨l, S, h p⟩
theorem sg_yield {e : Expr} {ypos pos : Pos} (hfs : splitAtGen fs = none) (hgd : gd false = false) (hfg : fs.any Frame.guarded = false) (hco : env.scope.isCoroutine = false) (hi : interactive env = false)
    (h : Tr X (A.over c fs) l (eval e env) fun v l1 => ∀ (lw : List Value) (k : Resume → Sem Fin) (p : Pos), (∀ A' l2 P', Sg X A' c (K .next) fs l2 P' → Sg X A' c (k (.send .none)) fs l2 P') → P (.susp v false lw k c p fs) l1) :
    Sg X A c ((exec (.Expr (.Yield (some e) ypos) pos) env).wrap K H gd lv) fs l P := by
  rw [exec_Expr env _ pos hi rfl]
  show Sg X A c (.at pos fun _ => ((eval e env >>= fun v => (standAt ypos >>= fun _ => yieldOut env v)) >>= fun x => dropValue (.Yield (some e) ypos) pos x).wrap K H gd lv) fs l P
  have hy : ∀ v, yieldOut env v = yieldValue v := fun v => by simp only [yieldOut, hco, Bool.false_eq_true, if_false]
  simp only [hy]
  refine sg_at ?_
  rw [Sem.bind_eq_wrap', Sem.bind_eq_wrap', Sem.wrap_wrap, Sem.wrap_wrap]
  refine sg_wrap (h.mono fun v l1 h1 => ?_)
  exact sg_at (sg_yield0 hfs hgd hfg fun p => h1 _ _ p fun A' l2 P' h2 => h2)

/-- the frame of a loop in a generator -/
def loopK (env : Env) (K : Flow → Sem Fin) (H : Value → Sem Fin) (gd : Bool → Bool) (lv : List Value → List Value) (r : Result) : Sem Fin :=
  ((match r with | .ok f => (.pure f : Sem Flow) | .error e => .raise e).onRaise fun (x : Value) => do
        if (← field x 1) == Value.none then unsupported "frame.own-activation:exception-without-traceback"
        setFlight x env.frame).wrap K H gd lv
theorem sg_While {test : Expr} {body orelse : List Stmt} {pos : Pos}
    (h : ∀ p, Sg X A (.whileLoop test body orelse env) (X.M.den (.whileLoop test body orelse env)) (.ret (loopK env K H gd lv) none (gd false) (lv []) c p [] :: fs) l P) :
    Sg X A c ((exec (.While test body orelse pos) env).wrap K H gd lv) fs l P := by
  show Sg X A c (.at pos fun _ => _) fs l P
  exact sg_at (sg_call h)
theorem t_holding {vs : List Value} {m : Sem α} {R : α → Led → Prop} (h : Tr X A l m R) : Tr X A l (holding vs m) R := fun s E S => wpAny_holding (h s E S)
theorem t_onRaise {m : Sem α} {f : Value → Sem Unit} {R : α → Led → Prop} (h : Tr X A l m R) : Tr X A l (m.onRaise f) R := fun s E S => wpAny_onRaise (h s _ S)
theorem sg_For {target iter : Expr} {body orelse : List Stmt} {pos : Pos}
    (h : Tr X (A.over c fs) l (eval iter env) fun x l1 => Tr X (A.over c fs) l1 (pyIter x) fun it l2 => ∀ p, Sg X A (.forLoop target it body orelse env) (X.M.den (.forLoop target it body orelse env)) (.ret (loopK env K H gd lv) none (gd false) (lv []) c p [] :: fs) l2 P)
    (hs : ∀ x, foldedSetIterable iter env x = pure x) :
    Sg X A c ((exec (.For target iter body orelse pos) env).wrap K H gd lv) fs l P := by
  rw [exec_For]
  show Sg X A c (.at pos fun _ => Sem.wrap K H gd lv (eval iter env >>= fun y => foldedSetIterable iter env y >>= fun x => standAt iter.pos >>= fun _ => holding [x] (pyIter x) >>= fun it => runOwn (.forLoop target it body orelse env) env)) fs l P
  refine sg_at ?_
  rw [Sem.bind_eq_wrap', Sem.wrap_wrap]
  refine sg_wrap (h.mono fun x l1 h1 => ?_)
  rw [hs]
  show Sg X A c (.at iter.pos fun _ => Sem.wrap K H gd lv (holding [x] (pyIter x) >>= fun it => runOwn (.forLoop target it body orelse env) env)) fs l1 P
  refine sg_at ?_
  rw [Sem.bind_eq_wrap', Sem.wrap_wrap]
  refine sg_wrap (t_holding (h1.mono fun it l2 h2 => ?_))
  exact sg_call h2
/-- a turn of a while -/
def whileK (test : Expr) (body orelse : List Stmt) (env : Env) : Flow → Sem Fin
  | .next | .cont => .pure (.again (.whileLoop test body orelse env))
  | .brk => .pure (.done .next)
  | .ret v => .pure (.done (.ret v))
def loopH (env : Env) (e : Value) : Sem Fin := (do noteFrame e env; theTreesLotGoes e : Sem Unit).wrap (fun _ => .raise e) .raise id id
theorem sg_whileTurn {test : Expr} {body orelse : List Stmt}
    (h : Tr X (A.over (.whileLoop test body orelse env) fs) l (isTrue test env (eval test env)) fun b l1 =>
      if b = true then Sg X A (.whileLoop test body orelse env) ((execs body env).wrap (whileK test body orelse env) (loopH env) id id) fs l1 P
      else Sg X A (.whileLoop test body orelse env) ((execs orelse env).wrap (fun f => .pure (.done f)) (loopH env) id id) fs l1 P) :
    Sg X A (.whileLoop test body orelse env) (X.M.den (.whileLoop test body orelse env)) fs l P := by
  show Sg X A _ ((whileTurn test body orelse env).onRaise (fun x => do noteFrame x env; theTreesLotGoes x)) fs l P
  unfold whileTurn
  rw [Sem.onRaise_eq_wrap, Sem.bind_eq_wrap', Sem.wrap_wrap]
  refine sg_wrap (h.mono fun b l1 hb => ?_)
  cases b with
  | true =>
    rw [if_pos rfl] at hb
    show Sg X A _ (Sem.wrap _ _ _ _ (if true = true then _ else _)) fs l1 P
    rw [if_pos rfl, Sem.bind_eq_wrap', Sem.wrap_wrap]
    rw [Sem.wrap_congr (execs body env) _ _ (K' := whileK test body orelse env) (H' := loopH env) (fun f => by cases f <;> rfl) (fun e => by
      first | exact Sem.bind_eq_wrap _ _ | (show (do noteFrame e env; theTreesLotGoes e : Sem Unit).bind (fun _ => .raise e) = _; rw [Sem.bind_eq_wrap]; rfl))]
    exact hb
  | false =>
    rw [if_neg Bool.false_ne_true] at hb
    show Sg X A _ (Sem.wrap _ _ _ _ (if false = true then _ else _)) fs l1 P
    rw [if_neg Bool.false_ne_true, Sem.bind_eq_wrap', Sem.wrap_wrap]
    rw [Sem.wrap_congr (execs orelse env) _ _ (K' := fun f => (.pure (.done f) : Sem Fin)) (H' := loopH env) (fun f => by rfl) (fun e => by
      first | exact Sem.bind_eq_wrap _ _ | (show (do noteFrame e env; theTreesLotGoes e : Sem Unit).bind (fun _ => .raise e) = _; rw [Sem.bind_eq_wrap]; rfl))]
    exact hb
def loopH' (env : Env) (e : Value) : Sem Fin := (do noteFrame e env; theTreesLotGoes e : Sem Unit).bind fun _ => .raise e
/-- a turn of a for -/
def forK (target : Expr) (it : Value) (body orelse : List Stmt) (env : Env) : Flow → Sem Fin
  | .next | .cont => .pure (.again (.forLoop target it body orelse env))
  | .brk => .pure (.done .next)
  | .ret v => .pure (.done (.ret v))
theorem sg_forTurn {target : Expr} {it : Value} {body orelse : List Stmt}
    (h : Tr X (A.over (.forLoop target it body orelse env) fs) l (pyNext it) fun r l1 => match r with
      | none => Sg X A (.block orelse env) (X.M.den (.block orelse env)) fs l1 P
      | some v => Tr X (A.over (.forLoop target it body orelse env) fs) l1 (letOwnedTupleGo target it v) fun _ l2 => Tr X (A.over (.forLoop target it body orelse env) fs) l2 (assign target env v) fun _ l3 =>
          Sg X A (.forLoop target it body orelse env) ((execs body env).wrap (forK target it body orelse env) (loopH env) id id) fs l3 P) :
    Sg X A (.forLoop target it body orelse env) (X.M.den (.forLoop target it body orelse env)) fs l P := by
  show Sg X A _ ((forTurn target it body orelse env).onRaise (fun x => do noteFrame x env; theTreesLotGoes x)) fs l P
  unfold forTurn
  rw [Sem.onRaise_eq_wrap]
  show Sg X A _ (.at target.pos fun _ => Sem.wrap .pure (loopH' env) id id ((pyNext it).onRaise (fun _ => standAt { target.pos with line := 0 }) >>= fun r => match r with
    | none => again (.block orelse env)
    | some v => letOwnedTupleGo target it v >>= fun _ => assign target env v >>= fun _ => execs body env >>= fun f => match f with
      | .next | .cont => again (.forLoop target it body orelse env)
      | .brk => pure (.done .next)
      | .ret v => pure (.done (.ret v)))) fs l P
  refine sg_at ?_
  rw [Sem.bind_eq_wrap', Sem.wrap_wrap]
  refine sg_wrap (t_onRaise (h.mono fun r l1 h1 => ?_))
  cases r with
  | none => exact sg_again rfl h1
  | some v =>
    show Sg X A _ (Sem.wrap _ _ _ _ (letOwnedTupleGo target it v >>= fun _ => assign target env v >>= fun _ => execs body env >>= fun f => match f with
      | .next | .cont => again (.forLoop target it body orelse env)
      | .brk => pure (.done .next)
      | .ret v => pure (.done (.ret v)))) fs l1 P
    rw [Sem.bind_eq_wrap', Sem.wrap_wrap]
    refine sg_wrap (Tr.mono h1 fun _ l2 h2 => ?_)
    rw [Sem.bind_eq_wrap', Sem.wrap_wrap]
    refine sg_wrap (h2.mono fun _ l3 h3 => ?_)
    rw [Sem.bind_eq_wrap', Sem.wrap_wrap]
    exact sg_eq (Sem.wrap_congr (K' := forK target it body orelse env) (H' := loopH env) (execs body env) _ _ (fun f => by cases f <;> rfl) (fun e => by
      show loopH' env e = loopH env e
      unfold loopH' loopH
      rw [Sem.bind_eq_wrap])) h3
theorem sg_block {stmts : List Stmt} (h : Sg X A (.block stmts env) ((execs stmts env).wrap (fun f => .pure (.done f)) (loopH env) id id) fs l P) : Sg X A (.block stmts env) (X.M.den (.block stmts env)) fs l P := by
  show Sg X A _ (((execs stmts env).onRaise (fun x => do noteFrame x env; theTreesLotGoes x)) >>= fun f => pure (.done f)) fs l P
  rw [Sem.onRaise_eq_wrap, Sem.bind_eq_wrap', Sem.wrap_wrap]
  exact sg_eq (Sem.wrap_congr (K' := fun f => (.pure (.done f) : Sem Fin)) (H' := loopH env) (execs stmts env) _ _ (fun f => rfl) (fun e => by
    show Sem.wrap _ _ _ _ ((do noteFrame e env; theTreesLotGoes e : Sem Unit).bind fun _ => .raise e) = loopH env e
    unfold loopH
    rw [Sem.bind_eq_wrap, Sem.wrap_wrap]; rfl)) h
def funcK : Flow → Sem Fin := fun f => .pure (.done (.ret (flowVal f)))
theorem sg_func {body : List Stmt} (h : Sg X A (.func body env) ((execs body env).wrap funcK (fun e => (leaving env e).wrap (fun _ => .raise e) .raise id id) id id) fs l P) :
    Sg X A (.func body env) (X.M.den (.func body env)) fs l P := by
  show Sg X A _ (.point [] fun _ => ((execs body env).onRaise (leaving env)) >>= _) fs l P
  refine sg_point ?_
  rw [Sem.onRaise_eq_wrap, Sem.bind_eq_wrap', Sem.wrap_wrap]
  rw [Sem.wrap_congr (execs body env) _ _ (K' := funcK) (H' := fun e => (leaving env e).wrap (fun _ => .raise e) .raise id id) (fun f => by cases f <;> rfl) (fun e => by rw [Sem.bind_eq_wrap, Sem.wrap_wrap]; rfl)]
  exact h
end
end Mine

namespace Mine
theorem At.gens {K mg mb P F N O s} {G : Array GenState} (S : At K mg mb P F N G O s) {g : Nat} {st : GenState} : At K mg mb P F N (G.setIfInBounds g st) O (s.setGen g st) :=
  ⟨S.top, S.fz, S.nw, S.nd, by show s.gens.setIfInBounds g st = _; rw [S.gn], S.os⟩
def genO (g : Nat) (nm qn : Str) (t u : Tok) : OD := .raw { cls := .type "generator", data := .fields #[.int g 0, .str nm t, .str qn u] }
def GRes (X : Cx) (A : Around) (gs : GenState) (l : Led) (P : End → Led → Prop) : Prop := match gs with
  | .fresh c => Sg X A c (X.M.den c) [] l P
  | .suspended k _ c _ fs _ => Sg X A c (k (.send .none)) fs l P
  | _ => False
section
variable {X : Cx} {A : Around} {F : PH} {N N' : List (Addr × OD)} {G : Array GenState}

theorem t_nextGen0 {n : Nat} {ga : Addr} {g : Nat} {gs : GenState} {nm qn : Str} {t u : Tok} {P : End → Led → Prop} {RO : Option Value → Led → Prop} (hr : Rm A n) (hrow : (ga, genO g nm qn t u) ∈ N) (hgs : G[g]? = some gs)
    (h : GRes X A.in1 gs ⟨F, N, G.setIfInBounds g .running⟩ P)
    (k : ∀ e F' N' G', P e ⟨F', N', G'⟩ → (e = .ret (.ok (.ret .none)) ∧ RO none ⟨F', N', G'.setIfInBounds g .finished⟩) ∨ (∃ v lw kk c p fs, e = .susp v false lw kk c p fs ∧ RO (some v) ⟨F', N', G'.setIfInBounds g e.genState⟩)) :
    Tr X A ⟨F, N, G⟩ (pyNext (.ref ga)) RO := by
  intro s E S
  have hg : s.heap.IsGen ga g := by
    obtain ⟨o, ho, e, _⟩ := S.led hrow
    subst e
    exact ⟨_, _, _, ho, rfl, rfl, rfl⟩
  have hgs' : s.gens[g]? = some gs := by rw [S.gn]; exact hgs
  unfold pyNext
  refine wpAny_bind (wpAny_attempt (wpAny_callSpecial?_slot (name := Str.ofString "__next__") hg.typeIs slot_gen_next
    (wpAny_call_entry slot_gen_next hg.typeIs entry_gen_next ?_ (args_gen_next _))))
  show wpAny _ _ (Builtin.Generator.genWake (.ref ga) (.send .none)) _ _ s
  unfold Builtin.Generator.genWake
  refine wpAny_bind (wpAny_holding (wpAny_genNumber hg (wpAny_bind (wpAny_genState hgs' ?_))))
  have S0 : X.At ⟨F, N, G.setIfInBounds g .running⟩ (s.setGen g .running) := At.gens S
  have main : ∀ {α : Type} {kk : GenResult → Sem α} {Q : α → Shared → Prop} {E' : Value → Shared → Prop}, (∀ e s1 l1, X.At l1 s1 → P e l1 → wpAny X.M A.in1 (kk e.result) Q E' (s1.setGen g e.genState)) → wpAny X.M A.in1 (.resume g (.send .none) [] kk) Q E' s := by
    intro α kk Q E' hk
    cases gs with
    | running => exact h.elim
    | finished => exact h.elim
    | fresh c =>
      exact wake_any α X.prog X.w hgs' (c₀ := c) (.inl ⟨rfl, rfl, rfl, rfl⟩) (fun Γ => Γ.In A.in1) (fun _ x => x) ((h _ S0).mono fun e s1 ⟨l1, S1, p1⟩ Γ p hΓ => hk e s1 l1 S1 p1 Γ p hΓ)
    | suspended k0 l0 c0 p0 fs0 cl =>
      exact wake_any α X.prog X.w hgs' (c₀ := c0) (.inr ⟨k0, l0, p0, cl, rfl, rfl⟩) (fun Γ => Γ.In A.in1) (fun _ x => x) ((h _ S0).mono fun e s1 ⟨l1, S1, p1⟩ Γ p hΓ => hk e s1 l1 S1 p1 Γ p hΓ)
  cases gs with
  | running => exact h.elim
  | finished => exact h.elim
  | _ =>
    refine wpAny_bind (wpAny_roomToWake S.nolimit hr.room ?_)
    show wpAny _ _ (.resume g (.send .none) [] _) _ _ s
    refine main fun e s1 l1 S1 p1 => ?_
    obtain ⟨F1, N1, G1⟩ := l1
    rcases k e F1 N1 G1 p1 with ⟨rfl, hR⟩ | ⟨v, lw, kk, c, p, fs, rfl, hR⟩
    · show wpAny _ _ (newExc (.type "StopIteration") [] >>= _) _ _ _
      refine wpAny_bind ?_
      simp only [newExc, newTuple]
      refine wpAny_bind (wpAny_newObj_type ?_ (by size_fits))
      refine wpAny_bind (m := firstArgMember _ _) (wpAny_of_eq (a := Value.none) (by first | rfl | (simp only [firstArgMember]; rfl)) ?_)
      refine wpAny_newObj_type ?_ (by size_fits)
      simp only [raiseNew]
      refine wpAny_bind (wpAny_bind (wpAny_handled ?_))
      rw [show A.in1.handled = none from hr.hd]
      refine wpAny_throw ?_
      refine wpAny_bind (wpAny_isInstance (T := "StopIteration") (b := true) ⟨_, Heap.get?_push_size _ rfl, rfl⟩ isSubtype_stop ?_)
      have S2 := At.gens (g := g) (st := .finished) S1
      exact wpAny_pure ⟨_, At.keep0 S2 (fun b o hb => Heap.get?_push_of_some _ (Heap.get?_push_of_some _ hb)), hR⟩
    · exact wpAny_pure ⟨v, rfl, wpAny_pure ⟨_, At.gens S1, hR⟩⟩
theorem At.newGen {K mg mb P F N O s} {G : Array GenState} (S : At K mg mb P F N G O s) {st : GenState} {dr : Drawn} {t : Nat} : At K mg mb P F N (G.push st) O ⟨s.heap, s.gens.push st, dr, t, s.os⟩ :=
  ⟨S.top, S.fz, S.nw, S.nd, by show s.gens.push st = _; rw [S.gn], S.os⟩
/-- a generator is made -/
theorem cl_gen {f : Addr} {oc : Value} {od : Option Addr} {osl : Array (Option Value)} {body : List Stmt} {args : Args} {binds : List (Str × Value)} {R : Flow → Led → Prop}
    {name qn : Str} {params : Arguments} {scope : Scope} {gl bi : Addr} {clo : List (Str × Addr)} {dfl kwd doc pm code ct : Value} {ann : Option Addr}
    (ho : X.K.lookup f = some ⟨oc, od, .func ⟨name, qn, params, .stmts body, scope, gl, clo, dfl, kwd, doc, pm, ann, code, ct, bi⟩, osl⟩) (hcd : codeIn X.K code qn = true)
    (hbind : peek X.K ⟨X.prog, X.w.params⟩ (bindArgs ⟨name, qn, params, .stmts body, scope, gl, clo, dfl, kwd, doc, pm, ann, code, ct, bi⟩ args) = some binds) (hroom : A.depth < recursionLimit)
    (hco : scope.isCoroutine = false) (hgen : scope.isGenerator = true) {n : Nat} (hn : (cellNames scope.names).length = n)
    (h : ∀ L, allC n ((L, .ns []) :: N) fun cs NN => TrB X A.in1 (mkEnv scope gl clo (qn ++ ".<locals>.") code bi f L cs)
      (fun l' => Opn l' fun F N G => ∀ ga t u, R (.ret (.ref ga)) ⟨F, (ga, genO G.size name qn t u) :: N, G.push (.fresh (.func body (mkEnv scope gl clo (qn ++ ".<locals>.") code bi f L cs)))⟩) binds ⟨F, NN, G⟩) :
    Cl X A ⟨F, N, G⟩ (.call (.ref f) args) R := by
  intro s R' S k
  refine codeAny_call_generator hroom (S.inK _ _ ho) rfl hco hgen rfl (codeRec_of S.inK hcd) ?_
  refine (Looks.of_peek (M := X.M) S.inK hbind).here ?_
  refine new_env S fun L cs s' hl S' => ?_
  refine TrB.use (allCells_use (allC_all (h L)) cs (hl.trans hn)) S' fun s2 l2 S2 h2 => ⟨S2.nolimit, ?_⟩
  obtain ⟨F2, N2, G2⟩ := l2
  have S3 := At.newGen S2 (st := .fresh (.func body (mkEnv scope gl clo (qn ++ ".<locals>.") code bi f L cs))) (dr := s2.drawn) (t := s2.toks)
  have S4 := At.allocT S3 (D := genO G2.size name qn s2.toks (s2.toks + 1)) (o := { cls := .type "generator", data := .fields #[.int s2.gens.size 0, .str name s2.toks, .str qn (s2.toks + 1)] }) ⟨by rw [S2.gn], rfl⟩ (dr := s2.drawn) (t := s2.toks + 1 + 1)
  exact k _ _ _ S4 (h2 _ _ _)
theorem t_iterGen {ga : Addr} {g : Nat} {nm qn : Str} {t u : Tok} {R : Value → Led → Prop} (hrow : (ga, genO g nm qn t u) ∈ N) (h : R (.ref ga) ⟨F, N, G⟩) : Tr X A ⟨F, N, G⟩ (pyIter (.ref ga)) R := fun s E S => by
  obtain ⟨o, ho, e, _⟩ := S.led hrow
  subst e
  exact wpAny_pyIter_gen ⟨_, _, _, ho, rfl, rfl, rfl⟩ ⟨_, S, h⟩

/-- what a reading yields: place, type, letter -/
abbrev TokE := Nat × Addr × Nat
abbrev tokT (e : TokE) (t1 t2 : Tok) : OD := .tup [.int (e.1 : Int) t1, .ref e.2.1, .str ⟨#[e.2.2]⟩ t2]
/-- a generator that yields these and ends; own: its rows -/
def GenOk (X : Cx) (n : Nat) : List TokE → PH → GenState → List (Addr × OD) → Prop
  | [], F, gs, own => ∀ F' A N G, F.le F' → Rm A n → GRes X A gs ⟨F', own ++ N, G⟩ fun e l' => e = .ret (.ok (.ret .none)) ∧ l' = ⟨F', N, G⟩
  | e₀ :: ts, F, gs, own => ∀ F' A N G, F.le F' → Rm A n → GRes X A gs ⟨F', own ++ N, G⟩ fun e l' => ∃ lw k c p fs own' a t1 t2, e = .susp (.ref a) false lw k c p fs ∧ fs.any Frame.guarded = false ∧
      l' = ⟨F', own' ++ (a, tokT e₀ t1 t2) :: N, G⟩ ∧ GenOk X n ts F' e.genState own'
theorem GenOk.mono {n : Nat} {ts : List TokE} {F F₁ : PH} {gs : GenState} {own : List (Addr × OD)} (h : GenOk X n ts F gs own) (k : F.le F₁) : GenOk X n ts F₁ gs own := by
  cases ts with
  | nil => exact fun F' A N G le => h F' A N G (PH.le_trans k le)
  | cons e ts => exact fun F' A N G le => h F' A N G (PH.le_trans k le)
theorem Rm.in1 {n : Nat} (h : Rm A (n + 1)) : Rm A.in1 n := ⟨h.hd, by have := h.dep; show A.depth + n < _; omega, by have := h.un; show A.units + 1 + 10 * n < _; omega⟩

theorem Sg.perm {c : Code} {t : Sem Fin} {fs : List Frame} {P P' : End → Led → Prop} (h : Sg X A c t fs ⟨F, N', G⟩ P) (p : N'.Perm N) (k : ∀ e F N G, P e ⟨F, N, G⟩ → ∃ N', N'.Perm N ∧ P' e ⟨F, N', G⟩) : Sg X A c t fs ⟨F, N, G⟩ P' :=
  fun s S => (h s (At.perm S p)).mono fun e s' ⟨⟨F1, N1, G1⟩, S1, r⟩ => by
    obtain ⟨N2, p2, r2⟩ := k e F1 N1 G1 r
    exact ⟨⟨F1, N2, G1⟩, At.perm S1 p2, r2⟩
theorem GRes.perm {gs : GenState} {P P' : End → Led → Prop} (h : GRes X A gs ⟨F, N', G⟩ P) (p : N'.Perm N) (k : ∀ e F N G, P e ⟨F, N, G⟩ → ∃ N', N'.Perm N ∧ P' e ⟨F, N', G⟩) : GRes X A gs ⟨F, N, G⟩ P' := by
  cases gs with
  | fresh c => exact Sg.perm h p k
  | suspended k0 l0 c0 p0 fs0 cl => exact Sg.perm h p k
  | running => exact h.elim
  | finished => exact h.elim
theorem t_nextGen {n m : Nat} {ga : Addr} {g : Nat} {gs : GenState} {nm qn : Str} {t u : Tok} {e₀ : TokE} {ts : List TokE} {own : List (Addr × OD)} {RO : Option Value → Led → Prop} (hr : Rm A m) (hm : n + 1 ≤ m) (hgs : G[g]? = some gs)
    (hok : GenOk X n (e₀ :: ts) F gs own)
    (h : ∀ own' gs' a t1 t2, gs'.bare = true → GenOk X n ts F gs' own' → RO (some (.ref a)) ⟨F, (ga, genO g nm qn t u) :: (own' ++ (a, tokT e₀ t1 t2) :: N), (G.setIfInBounds g .running).setIfInBounds g gs'⟩) :
    Tr X A ⟨F, (ga, genO g nm qn t u) :: (own ++ N), G⟩ (pyNext (.ref ga)) RO := by
  refine t_nextGen0 hr (.head _) hgs (GRes.perm (P' := fun e l' => ∃ lw k c p fs own' a t1 t2, e = .susp (.ref a) false lw k c p fs ∧ fs.any Frame.guarded = false ∧
      l' = ⟨F, (ga, genO g nm qn t u) :: (own' ++ (a, tokT e₀ t1 t2) :: N), G.setIfInBounds g .running⟩ ∧ GenOk X n ts F e.genState own') (hok F A.in1 ((ga, genO g nm qn t u) :: N) _ (PH.le_refl F) (hr.le hm).in1) List.perm_middle fun e F1 N1 G1 r => ?_) fun e F1 N1 G1 r => ?_
  · obtain ⟨lw, k, c, p, fs, own', a, t1, t2, e1, eg, e2, ok⟩ := r
    cases e2
    refine ⟨_, ?_, lw, k, c, p, fs, own', a, t1, t2, e1, eg, rfl, ok⟩
    exact (List.perm_middle.symm.trans (List.Perm.append_left _ (.swap ..)))
  · obtain ⟨lw, k, c, p, fs, own', a, t1, t2, e1, eg, e2, ok⟩ := r
    cases e2
    exact .inr ⟨_, lw, k, c, p, fs, e1, h own' _ a t1 t2 (by subst e1; show (!(false || fs.any Frame.guarded)) = true; rw [eg]; rfl) ok⟩
theorem t_nextGenEnd {n m : Nat} {ga : Addr} {g : Nat} {gs : GenState} {nm qn : Str} {t u : Tok} {own : List (Addr × OD)} {RO : Option Value → Led → Prop} (hr : Rm A m) (hm : n + 1 ≤ m) (hgs : G[g]? = some gs)
    (hok : GenOk X n [] F gs own) (h : RO none ⟨F, (ga, genO g nm qn t u) :: N, (G.setIfInBounds g .running).setIfInBounds g .finished⟩) :
    Tr X A ⟨F, (ga, genO g nm qn t u) :: (own ++ N), G⟩ (pyNext (.ref ga)) RO := by
  refine t_nextGen0 hr (.head _) hgs (GRes.perm (P' := fun e l' => e = .ret (.ok (.ret .none)) ∧ l' = ⟨F, (ga, genO g nm qn t u) :: N, G.setIfInBounds g .running⟩) (hok F A.in1 ((ga, genO g nm qn t u) :: N) _ (PH.le_refl F) (hr.le hm).in1) List.perm_middle fun e F1 N1 G1 r => ?_) fun e F1 N1 G1 r => ?_
  · obtain ⟨e1, e2⟩ := r
    cases e2
    exact ⟨_, .refl _, e1, rfl⟩
  · obtain ⟨e1, e2⟩ := r
    cases e2
    exact .inl ⟨e1, h⟩
end
end Mine

namespace Mine
section
variable {X : Cx} {A : Around} {l : Led} {env : Env} {F : PH} {N N' : List (Addr × OD)} {G : Array GenState} {R : Value → Led → Prop}
/-- targets, one by one -/
def TrA (X : Cx) (A : Around) (env : Env) (R : Led → Prop) : List Expr → List Value → Led → Prop
  | e :: es, v :: vs, l => Tr X A l (assign e env v) fun _ l' => TrA X A env R es vs l'
  | _, _, l => R l
theorem trA_cons {e : Expr} {es : List Expr} {v : Value} {vs : List Value} {R : Led → Prop} (h : Tr X A l (assign e env v) fun _ l' => TrA X A env R es vs l') : TrA X A env R (e :: es) (v :: vs) l := h
theorem trA_nil {R : Led → Prop} (h : R l) : TrA X A env R [] [] l := h
theorem trA_order {R : Unit → Led → Prop} : ∀ {es : List Expr} {vs : List Value} {l : Led}, es.length = vs.length → TrA X A env (R ()) es vs l → Tr X A l (assignInOrder (es.map fun e => assign e env) vs) R
  | [], [], l, _, h => fun s E S => wpAny_pure ⟨l, S, h⟩
  | e :: es, v :: vs, l, hl, h => fun s E S => wpAny_bind (wpAny_holding (Tr.use h S fun _ s' l' S' h' => trA_order (Nat.succ.inj hl) h' s' E S'))
theorem t_assignTup {elts : List Expr} {k : Nat} {pos : Pos} {a : Addr} {vs : List Value} {R : Unit → Led → Prop} (hh : A.handled = none) (ha : Kn X l a (.tup vs)) (he : assignEach elts env = elts.map fun e => (false, assign e env)) (hn : elts.length = vs.length)
    (h : TrA X A env (R ()) elts vs l) : Tr X A l (assign (.Tuple elts k pos) env (.ref a)) R := fun s E S => by
  have hstar : (assignEach elts env).findIdx? (·.1) = none := by rw [he, List.findIdx?_eq_none_iff]; intro x hx; obtain ⟨e, _, rfl⟩ := List.mem_map.mp hx; rfl
  refine wpAny_assign_Tuple hh (ha.has S).isTup (by rw [he]; simpa using hn) hstar fun h' ex => ?_
  have e : (assignEach elts env).map (·.2) = elts.map fun e => assign e env := by rw [he, List.map_map]; rfl
  rw [e]
  have S' : X.At l { s with heap := h' } := At.keep0 S fun b o hb => ex b o (Nat.ne_of_lt (Heap.lt_size hb)) hb
  exact trA_order (by simpa using hn) h _ E S'
theorem t_goTupL {elts : List Expr} {k : Nat} {pos : Pos} {it a v : Addr} {i : Nat} {R : Unit → Led → Prop} (hi : (it, itL a i) ∈ l.N) (h : R () l) : Tr X A l (letOwnedTupleGo (.Tuple elts k pos) (.ref it) (.ref v)) R :=
  fun s E S => wpAny_letOwnedTupleGo_listiter (S.led hi) ⟨l, S, h⟩
theorem t_pop {pos : Pos} {a : Addr} {vs : List Value} {v : Value} (ha : (a, OD.lst (vs ++ [v])) ∈ N) (u : LUpd N a (.lst vs) N') (hz : vs.length ≤ 1000000) (h : R v ⟨F, N', G⟩) :
    Tr X A ⟨F, N, G⟩ (callWith pos (.builtin "list.pop") [.ref a] (backTo pos (starEach [] env)) []) R := fun s E S => by
  obtain ⟨⟨c, d, dt, sl⟩, ho, hc, ⟨hdn, hsl⟩, n, hd⟩ := S.led ha
  dsimp only at hc hdn hsl hd
  subst hc hdn hsl hd
  obtain ⟨n', hd'⟩ := Obj.data_mapSeq (o := { cls := Value.type "list", data := Data.seq (vs ++ [v]).toArray n }) rfl (fun xs => xs.eraseIdxIfInBounds ((vs ++ [v]).toArray.size - 1))
  refine PySem.P.pop_list (items := (vs ++ [v]).toArray) (n := n) (y := v) ho (by simp) ⟨⟨F, N', G⟩, S.updT u (Heap.SameBut.update ..) ⟨_, Heap.get?_update_self _ ho rfl, rfl, ⟨rfl, rfl⟩, n', ?_⟩, h⟩ (by simp [sizeLine]; omega)
  rw [hd']
  congr 1
  have e : (vs ++ [v]).eraseIdx vs.length = vs := by
    rw [List.eraseIdx_append_of_length_le (Nat.le_refl _)]; simp
  simp [Array.eraseIdxIfInBounds, e]
end
end Mine

namespace Mine
/-- frames that lie quietly above a generator's code -/
structure FsOk (fs : List Frame) : Prop where
  gen : splitAtGen fs = none
  grd : fs.any Frame.guarded = false
  mks : ∀ h, (marksOver fs (h, h)) = (h, h)
  cnt : frameCount (fs.map Frame.where_) ≤ 2
  un : unitsOf (fs.map Frame.where_) ≤ 20
theorem Rm.over {A : Around} {n : Nat} {c : Code} {fs : List Frame} (h : Rm A (n + 5)) (f : FsOk fs) (hw : c.weight ≤ 2 := by exact Nat.le_of_ble_eq_true rfl) (hu : c.cUnits ≤ 20 := by exact Nat.le_of_ble_eq_true rfl) : Rm (A.over c fs) n := by
  refine ⟨by show (marksOver fs (A.handled, A.handled)).1 = none; rw [f.mks]; exact h.hd, ?_, ?_⟩
  · have := h.dep; have := f.cnt
    show A.depth + frameCount (fs.map Frame.where_) + c.weight + n < _
    (clear hu; omega)
  · have := h.un; have := f.un
    show A.units + unitsOf (fs.map Frame.where_) + c.cUnits + 10 * n < _
    (clear hw; omega)
theorem At.nsub {K mg mb P F G O s} {N : List (Addr × OD)} {L : Addr} {l l' : List (Str × Value)} (S : At K mg mb P F ((L, .ns l) :: N) G O s) (h : Pick l l') : At K mg mb P F ((L, .ns l') :: N) G O s := by
  refine ⟨S.top, S.fz, fun p hp => ?_, S.nd, S.gn, S.os⟩
  rcases List.mem_cons.mp hp with rfl | hp
  · obtain ⟨h1, o, ho, nd, es, n, hd, hk, hl⟩ := S.nw (L, .ns l) (.head _)
    have nd' : (l'.map (·.1)).Nodup := by
      have q : ∀ {a b : List (Str × Value)}, Pick a b → (a.map (·.1)).Nodup → (b.map (·.1)).Nodup := by
        intro a b h
        induction h with
        | refl => exact id
        | drop _ ih => exact fun h => ih (List.nodup_cons.mp h).2
        | @cons a l l' l'' r p ih =>
          intro h
          have h' := (r.perm.map (·.1)).nodup_iff.mp h
          rw [List.map_cons, List.nodup_cons] at h' ⊢
          refine ⟨fun q => h'.1 ?_, ih h'.2⟩
          obtain ⟨x, hx, e⟩ := List.mem_map.mp q
          exact e ▸ List.mem_map_of_mem (f := (·.1)) (p.sub x hx)
      exact q h nd
    exact ⟨h1, o, ho, nd', es, n, hd, hk, fun p hp => hl p (h.sub p hp)⟩
  · exact S.nw p (.tail _ hp)
section
variable {X : Cx} {A : Around} {l : Led} {env : Env} {F : PH} {N N' : List (Addr × OD)} {G : Array GenState}
theorem sg_nsub {c : Code} {t : Sem Fin} {fs : List Frame} {P : End → Led → Prop} {L : Addr} {f f' : List (Str × Value)} (p : Pick f f') (h : Sg X A c t fs ⟨F, (L, .ns f') :: N, G⟩ P) : Sg X A c t fs ⟨F, (L, .ns f) :: N, G⟩ P :=
  fun s S => h s (At.nsub S p)
theorem tr_nsub {α : Type} {t : Sem α} {R : α → Led → Prop} {L : Addr} {f f' : List (Str × Value)} (p : Pick f f') (h : Tr X A ⟨F, (L, .ns f') :: N, G⟩ t R) : Tr X A ⟨F, (L, .ns f) :: N, G⟩ t R := fun s E S => h s E (At.nsub S p)
/-- a while of a generator, by a measure -/
theorem wh_ind {test : Expr} {body orelse : List Stmt} {Inv : Nat → Around → List Frame → Led → (End → Led → Prop) → Prop}
    (step : ∀ k A fs l P, (∀ j, j < k → ∀ A fs l P, Inv j A fs l P → Sg X A (.whileLoop test body orelse env) (X.M.den (.whileLoop test body orelse env)) fs l P) → Inv k A fs l P →
      Sg X A (.whileLoop test body orelse env) (X.M.den (.whileLoop test body orelse env)) fs l P) (k : Nat) : ∀ A fs l P, Inv k A fs l P → Sg X A (.whileLoop test body orelse env) (X.M.den (.whileLoop test body orelse env)) fs l P := by
  induction k using Nat.strongRecOn with
  | ind k ih => exact fun A fs l P h => step k A fs l P ih h
theorem for_ind {target : Expr} {it : Value} {body orelse : List Stmt} {fs : List Frame} {P : End → Led → Prop} {Inv : Nat → Led → Prop}
    (step : ∀ k l, (∀ j, j < k → ∀ l, Inv j l → Sg X A (.forLoop target it body orelse env) (X.M.den (.forLoop target it body orelse env)) fs l P) → Inv k l →
      Sg X A (.forLoop target it body orelse env) (X.M.den (.forLoop target it body orelse env)) fs l P) (k : Nat) : ∀ l, Inv k l → Sg X A (.forLoop target it body orelse env) (X.M.den (.forLoop target it body orelse env)) fs l P := by
  induction k using Nat.strongRecOn with
  | ind k ih => exact fun l h => step k l ih h
theorem fsOk_ret {fs : List Frame} {k : Result → Sem Fin} {lw : List Value} {c : Code} {p : Pos} {kp} (f : FsOk fs) (hw : c.weight + frameCount (fs.map Frame.where_) ≤ 2) (hu : c.cUnits + unitsOf (fs.map Frame.where_) ≤ 20) : FsOk (.ret k none false lw c p kp :: fs) := by
  refine ⟨?_, ?_, fun h => ?_, ?_, ?_⟩
  · show (splitAtGen fs).map _ = none; rw [f.gen]; rfl
  · show (false || fs.any Frame.guarded) = false; rw [f.grd]; rfl
  · have e : marksOver (.ret k none false lw c p kp :: fs) (h, h) = Frame.marks (.ret k none false lw c p kp) (marksOver fs (h, h)) := rfl
    rw [e, f.mks]; rfl
  · show frameCount ((c, p) :: fs.map Frame.where_) ≤ 2; rw [frameCount_cons]; exact hw
  · show unitsOf ((c, p) :: fs.map Frame.where_) ≤ 20; rw [unitsOf_cons]; exact hu
theorem fsOk_nil : FsOk [] := ⟨rfl, rfl, fun _ => rfl, Nat.le_of_ble_eq_true rfl, Nat.le_of_ble_eq_true rfl⟩
end
end Mine

namespace Mine
section
variable {X : Cx} {A : Around} {l : Led} {env : Env} {F F' : PH} {N N' : List (Addr × OD)} {G : Array GenState} {R : Value → Led → Prop}
theorem t_Neg {x : Expr} {op : UnaryOp} {pos : Pos} (h : Tr X A l (eval x env) fun v l1 => Tr X A l1 (unaryOp op v) R) : Tr X A l (eval (.UnaryOp op x pos) env) R := fun s E S => wpAny_UnaryOp (h.use S fun v s1 l1 S1 h1 => h1 s1 E S1)
theorem ti_neg {a : Int} {t : Tok} (h : ∀ t, R (.int (-a) t) l) : Tr X A l (unaryOp .USub (.int a t)) R := fun s E S => PySem.P.neg_int ⟨l, S.same rfl rfl rfl, h _⟩

/-! what a lexer's table says -/
inductive Act where
  | stay
  | go (l : List Str)
  | pop
structure RuleE where
  c : Nat
  ty : Addr
  act : Act
/-- the class of token types, Plain, Plain.match -/
structure Ads where
  TT : Addr
  PL : Addr
  mt : Addr
def PatAt (D : Ads) (P : Params) (F : PH) (mo : Addr) (c : Nat) : Prop :=
  ∃ pl d r r1 t, Fz P F mo (.raw (methodObj (.ref D.mt) (.ref pl))) ∧ Fz P F pl (.inst D.PL d) ∧ Fz P F d (.fld [("rows", .ref r)]) ∧ Fz P F r (.lst [.ref r1]) ∧ Fz P F r1 (.lst [.str ⟨#[c]⟩ t])
def TyAt (D : Ads) (P : Params) (F : PH) (ty : Addr) : Prop := ∃ d fs, Fz P F ty (.inst D.TT d) ∧ Fz P F d (.fld fs)
def ActAt (P : Params) (F : PH) (v : Value) : Act → Prop
  | .stay => v = .none
  | .go l => ∃ a vs, v = .ref a ∧ Fz P F a (.tup vs) ∧ Strs l vs
  | .pop => ∃ t, v = .int (-1) t
def RuleAt (D : Ads) (P : Params) (F : PH) (v : Value) (r : RuleE) : Prop := ∃ a mo av, v = .ref a ∧ Fz P F a (.tup [.ref mo, .ref r.ty, av]) ∧ PatAt D P F mo r.c ∧ TyAt D P F r.ty ∧ ActAt P F av r.act
inductive RulesAt (D : Ads) (P : Params) (F : PH) : List Value → List RuleE → Prop
  | nil : RulesAt D P F [] []
  | cons {v r vs rs} : RuleAt D P F v r → RulesAt D P F vs rs → RulesAt D P F (v :: vs) (r :: rs)
abbrev Tbl := List (Str × List RuleE)
def TableAt (D : Ads) (P : Params) (F : PH) (td : Addr) (tb : Tbl) : Prop :=
  ∃ kvs, Fz P F td (.dic kvs) ∧ ∀ st rs, tb.lookup st = some rs → ∃ sl vs, valueAt kvs st = some (.ref sl) ∧ Fz P F sl (.lst vs) ∧ RulesAt D P F vs rs ∧ vs.length ≤ 1000
theorem PatAt.mono {D : Ads} {P : Params} {mo : Addr} {c : Nat} (h : PatAt D P F mo c) (k : F.le F') : PatAt D P F' mo c :=
  let ⟨pl, d, r, r1, t, a, b, e, f, g⟩ := h; ⟨pl, d, r, r1, t, a.mono k, b.mono k, e.mono k, f.mono k, g.mono k⟩
theorem TyAt.mono {D : Ads} {P : Params} {ty : Addr} (h : TyAt D P F ty) (k : F.le F') : TyAt D P F' ty := let ⟨d, fs, a, b⟩ := h; ⟨d, fs, a.mono k, b.mono k⟩
theorem ActAt.mono {P : Params} {v : Value} {a : Act} (h : ActAt P F v a) (k : F.le F') : ActAt P F' v a := by
  cases a with
  | stay => exact h
  | go l => obtain ⟨a, vs, e, f, g⟩ := h; exact ⟨a, vs, e, f.mono k, g⟩
  | pop => exact h
theorem RuleAt.mono {D : Ads} {P : Params} {v : Value} {r : RuleE} (h : RuleAt D P F v r) (k : F.le F') : RuleAt D P F' v r :=
  let ⟨a, mo, av, e, b, c, d, f⟩ := h; ⟨a, mo, av, e, b.mono k, c.mono k, d.mono k, f.mono k⟩
theorem RulesAt.mono {D : Ads} {P : Params} {vs : List Value} {rs : List RuleE} (h : RulesAt D P F vs rs) (k : F.le F') : RulesAt D P F' vs rs := by
  induction h with
  | nil => exact .nil
  | cons a _ ih => exact .cons (a.mono k) ih
theorem TableAt.mono {D : Ads} {P : Params} {td : Addr} {tb : Tbl} (h : TableAt D P F td tb) (k : F.le F') : TableAt D P F' td tb := by
  obtain ⟨kvs, a, b⟩ := h
  refine ⟨kvs, a.mono k, fun st rs e => ?_⟩
  obtain ⟨sl, vs, c, d, f, g⟩ := b st rs e
  exact ⟨sl, vs, c, d.mono k, f.mono k, g⟩

def topOf (st : List Str) : Str := st.getLastD ""
def step1 (st : List Str) (x : Str) : List Str := if x = "#pop" then (if 1 < st.length then st.dropLast else st) else st ++ [x]
def actOn : Act → List Str → List Str
  | .stay, st => st
  | .go l, st => l.foldl step1 st
  | .pop, st => if 1 < st.length then st.dropLast else st
/-- the reading of a text -/
def lex (tb : Tbl) (er wh : Addr) : List Nat → Nat → List Str → List TokE
  | [], _, _ => []
  | c :: cs, p, st => match ((tb.lookup (topOf st)).getD []).find? (fun r => r.c == c) with
    | some r => (p, r.ty, c) :: lex tb er wh cs (p + 1) (actOn r.act st)
    | none => if c = 10 then (p, wh, 10) :: lex tb er wh cs (p + 1) ["root"] else (p, er, c) :: lex tb er wh cs (p + 1) st
/-- a stack of the table's states -/
def StOk (tb : Tbl) (st : List Str) : Prop := st ≠ [] ∧ ∀ x ∈ st, (tb.lookup x).isSome = true
/-- the rules lead to the table's states -/
def TbOk (tb : Tbl) : Prop := (tb.lookup ("root" : Str)).isSome = true ∧ ∀ st rs, tb.lookup st = some rs → ∀ r ∈ rs, ∀ l, r.act = .go l → l.length ≤ 10 ∧ ∀ x ∈ l, x = "#pop" ∨ (x ≠ "#push" ∧ (tb.lookup x).isSome = true)
theorem StOk.step {tb : Tbl} {st : List Str} (h : StOk tb st) {x : Str} (hx : x = "#pop" ∨ (x ≠ "#push" ∧ (tb.lookup x).isSome = true)) : StOk tb (step1 st x) := by
  unfold step1
  split
  · split
    · rename_i hl
      refine ⟨fun e => ?_, fun y hy => h.2 y (List.dropLast_sublist _ |>.subset hy)⟩
      have := congrArg List.length e
      simp at this; (clear hx; omega)
    · exact h
  · rename_i hn
    refine ⟨by simp, fun y hy => ?_⟩
    rcases List.mem_append.mp hy with hy | hy
    · exact h.2 y hy
    · rw [List.mem_singleton.mp hy]; exact (hx.resolve_left hn).2
theorem StOk.act {tb : Tbl} {st : List Str} (h : StOk tb st) (a : Act) (ha : ∀ l, a = .go l → ∀ x ∈ l, x = "#pop" ∨ (x ≠ "#push" ∧ (tb.lookup x).isSome = true)) : StOk tb (actOn a st) := by
  cases a with
  | stay => exact h
  | pop =>
    have := h.step (x := "#pop") (.inl rfl)
    unfold step1 at this
    rw [if_pos rfl] at this
    exact this
  | go l =>
    have q := ha l rfl
    clear ha
    show StOk tb (l.foldl step1 st)
    induction l generalizing st with
    | nil => exact h
    | cons x l ih => exact ih (h.step (q x (.head _))) fun y hy => q y (.tail _ hy)
theorem StOk.top {tb : Tbl} {st : List Str} (h : StOk tb st) : ∃ rs, tb.lookup (topOf st) = some rs := by
  have : topOf st ∈ st := by
    unfold topOf
    rw [List.getLastD_eq_getLast?, List.getLast?_eq_some_getLast h.1]
    exact List.getLast_mem h.1
  exact Option.isSome_iff_exists.mp (h.2 _ this)
theorem step1_len (st : List Str) (x : Str) : (step1 st x).length ≤ st.length + 1 := by
  unfold step1
  split
  · split <;> simp <;> omega
  · simp
theorem actOn_len (a : Act) (st : List Str) (h : ∀ l, a = .go l → l.length ≤ 10) : (actOn a st).length ≤ st.length + 10 := by
  cases a with
  | stay => exact Nat.le_add_right ..
  | pop => show (if 1 < st.length then st.dropLast else st).length ≤ _; split <;> simp <;> omega
  | go l =>
    have q : ∀ (l : List Str) (st : List Str), (l.foldl step1 st).length ≤ st.length + l.length := by
      intro l
      induction l with
      | nil => intro st; exact Nat.le_refl _
      | cons x l ih => intro st; have := ih (step1 st x); have := step1_len st x; simp only [List.foldl_cons, List.length_cons]; omega
    have := q l st
    have := h l rfl
    show (l.foldl step1 st).length ≤ _
    omega

/-- the post of a generator's part -/
def GPost (X : Cx) (n : Nat) (ts : List TokE) (F : PH) (N : List (Addr × OD)) (G : Array GenState) (e : End) (l' : Led) : Prop := match ts with
  | [] => e = .ret (.ok (.ret .none)) ∧ l' = ⟨F, N, G⟩
  | e₀ :: ts => ∃ lw k c p fs own' a t1 t2, e = .susp (.ref a) false lw k c p fs ∧ fs.any Frame.guarded = false ∧ l' = ⟨F, own' ++ (a, tokT e₀ t1 t2) :: N, G⟩ ∧ GenOk X n ts F e.genState own'
theorem genOk_of {n : Nat} {ts : List TokE} {gs : GenState} {own : List (Addr × OD)} (h : ∀ F' A N G, F.le F' → Rm A n → GRes X A gs ⟨F', own ++ N, G⟩ (GPost X n ts F' N G)) : GenOk X n ts F gs own := by
  cases ts with
  | nil => exact h
  | cons e ts => exact h
/-- the frames above a loop end quietly -/
structure Quiet (X : Cx) (fs : List Frame) : Prop where
  ok : FsOk fs
  fin : ∀ A c l (P : End → Led → Prop), P (.ret (.ok (.ret .none))) l → Sg X A c (.pure (.done .next)) fs l P
theorem Strs.len {xs : List Str} {vs : List Value} (h : Strs xs vs) : vs.length = xs.length := by
  induction h with
  | nil => rfl
  | cons _ ih => simp [ih]
theorem Strs.last {xs : List Str} {vs : List Value} (h : Strs xs vs) (hn : xs ≠ []) : ∃ t, vs[(-1 + (vs.length : Int)).toNat]? = some (.str (topOf xs) t) := by
  have e : (-1 + (vs.length : Int)).toNat = vs.length - 1 := by (clear hn; omega)
  rw [e, ← List.getLast?_eq_getElem?]
  clear e
  unfold topOf
  rw [List.getLastD_eq_getLast?]
  induction h with
  | nil => exact absurd rfl hn
  | @cons x t xs vs h ih =>
    cases h with
    | nil => exact ⟨t, rfl⟩
    | @cons y u ys ws h' =>
      rw [List.getLast?_cons_cons, List.getLast?_cons_cons]
      exact ih (by simp)
theorem RulesAt.get {D : Ads} {P : Params} {vs : List Value} {rs : List RuleE} (h : RulesAt D P F vs rs) : ∀ {i : Nat}, i < vs.length → ∃ v r, vs[i]? = some v ∧ rs[i]? = some r ∧ RuleAt D P F v r := by
  induction h with
  | nil => intro i hi; exact absurd hi (Nat.not_lt_zero _)
  | @cons v r vs rs a _ ih =>
    intro i hi
    cases i with
    | zero => exact ⟨v, r, rfl, rfl, a⟩
    | succ i => exact ih (by simpa using hi)
theorem RulesAt.len {D : Ads} {P : Params} {vs : List Value} {rs : List RuleE} (h : RulesAt D P F vs rs) : vs.length = rs.length := by
  induction h with
  | nil => rfl
  | cons _ _ ih => simp [ih]
theorem fsOk_while {fs : List Frame} {k : Result → Sem Fin} {lw : List Value} {t : Expr} {b o : List Stmt} {e : Env} {p : Pos} {kp} (f : FsOk fs) : FsOk (.ret k none false lw (.whileLoop t b o e) p kp :: fs) := by
  have w : (Code.whileLoop t b o e).weight = 0 := rfl
  have u : (Code.whileLoop t b o e).cUnits = 0 := rfl
  exact fsOk_ret f (by rw [w]; have := f.cnt; (clear u; clear w; clear k; omega)) (by rw [u]; have := f.un; (clear u; clear w; clear k; omega))
theorem fsOk_func {k : Result → Sem Fin} {lw : List Value} {b : List Stmt} {e : Env} {p : Pos} {kp} : FsOk [.ret k none false lw (.func b e) p kp] := fsOk_ret fsOk_nil (by exact Nat.le_of_ble_eq_true rfl) (by exact Nat.le_of_ble_eq_true rfl)
theorem sg_wk {c : Code} {t : Sem Fin} {fs : List Frame} {P : End → Led → Prop} (h : Sg X A c t fs l fun e l' => ∃ N, Pick l'.N N ∧ P e ⟨l'.F, N, l'.G⟩) : Sg X A c t fs l P :=
  fun s S => (h s S).mono fun e s' ⟨l', S', N, p, r⟩ => ⟨⟨l'.F, N, l'.G⟩, At.pick S' p, r⟩
theorem sg_fix {c : Code} {t : Sem Fin} {fs : List Frame} {P : End → Led → Prop} {L : Addr} {f f' : List (Str × Value)} {N1 N2 : List (Addr × OD)} (p1 : Pick N ((L, .ns f) :: N1)) (p3 : Pick ((L, .ns f') :: N1) N2) (p2 : Pick f f')
    (h : Sg X A c t fs ⟨F, N2, G⟩ P) : Sg X A c t fs ⟨F, N, G⟩ P := sg_pick p1 (sg_nsub p2 (sg_pick p3 h))
theorem find_none {rs : List RuleE} {c : Nat} {o : Option Nat} (ho : o = some c) (h : ∀ r ∈ rs, o ≠ some r.c) : rs.find? (fun r => r.c == c) = none := by
  rw [List.find?_eq_none]
  intro r hr e
  exact h r hr (by rw [ho, beq_iff_eq.mp e])
theorem find_at {rs : List RuleE} {c i : Nat} {r : RuleE} {o : Option Nat} (ho : o = some c) (h : ∀ r ∈ rs.take i, o ≠ some r.c) (hi : rs[i]? = some r) (hc : r.c = c) : rs.find? (fun r => r.c == c) = some r := by
  obtain ⟨hlt, hv⟩ := List.getElem?_eq_some_iff.mp hi
  have e : rs = rs.take i ++ r :: rs.drop (i + 1) := by
    conv => lhs; rw [← List.take_append_drop i rs, List.drop_eq_getElem_cons hlt, hv]
  rw [e, List.find?_append, find_none ho h]
  simp [hc]
theorem cl_nsub {c : Code} {R : Flow → Led → Prop} {L : Addr} {f f' : List (Str × Value)} (p : Pick f f') (h : Cl X A ⟨F, (L, .ns f') :: N, G⟩ c R) : Cl X A ⟨F, (L, .ns f) :: N, G⟩ c R := fun s R' S k => h s R' (At.nsub S p) k
theorem cl_fix {c : Code} {R : Flow → Led → Prop} {L : Addr} {f f' : List (Str × Value)} {N1 N2 : List (Addr × OD)} (p1 : Pick N ((L, .ns f) :: N1)) (p3 : Pick ((L, .ns f') :: N1) N2) (p2 : Pick f f')
    (h : Cl X A ⟨F, N2, G⟩ c R) : Cl X A ⟨F, N, G⟩ c R := cl_pick p1 (cl_nsub p2 (cl_pick p3 h))
theorem tr_fix {α : Type} {t : Sem α} {R : α → Led → Prop} {L : Addr} {f f' : List (Str × Value)} {N1 N2 : List (Addr × OD)} (p1 : Pick N ((L, .ns f) :: N1)) (p3 : Pick ((L, .ns f') :: N1) N2) (p2 : Pick f f')
    (h : Tr X A ⟨F, N2, G⟩ t R) : Tr X A ⟨F, N, G⟩ t R := tr_pick p1 (tr_nsub p2 (tr_pick p3 h))
theorem cl_ind {target : Expr} {it : Value} {body orelse : List Stmt} {R : Flow → Led → Prop} {Inv : Nat → Led → Prop}
    (step : ∀ k l, (∀ j, j < k → ∀ l, Inv j l → Cl X A l (.forLoop target it body orelse env) R) → Inv k l → Cl X A l (.forLoop target it body orelse env) R) (k : Nat) : ∀ l, Inv k l → Cl X A l (.forLoop target it body orelse env) R := by
  induction k using Nat.strongRecOn with
  | ind k ih => exact fun l h => step k l ih h
theorem lex_hit {tb : Tbl} {er wh : Addr} {x : Str} {p c i : Nat} {st : List Str} {rs : List RuleE} {r : RuleE} (hx : x.cps[p]? = some c) (hrs : tb.lookup (topOf st) = some rs) (hno : ∀ r ∈ rs.take i, x.cps[p]? ≠ some r.c) (hi : rs[i]? = some r) (hc : r.c = c) :
    lex tb er wh (x.cps.toList.drop p) p st = (p, r.ty, c) :: lex tb er wh (x.cps.toList.drop (p + 1)) (p + 1) (actOn r.act st) := by
  obtain ⟨hlt, hv⟩ := Array.getElem?_eq_some_iff.mp hx
  have e : x.cps.toList.drop p = c :: x.cps.toList.drop (p + 1) := by
    rw [List.drop_eq_getElem_cons (by simpa using hlt)]
    simp [hv]
  rw [e]
  show (match ((tb.lookup (topOf st)).getD []).find? (fun r => r.c == c) with | some r => _ | none => _) = _
  rw [hrs, Option.getD_some, find_at hx hno hi hc]
theorem lex_miss {tb : Tbl} {er wh : Addr} {x : Str} {p c : Nat} {st : List Str} {rs : List RuleE} (hx : x.cps[p]? = some c) (hrs : tb.lookup (topOf st) = some rs) (hno : ∀ r ∈ rs, x.cps[p]? ≠ some r.c) :
    lex tb er wh (x.cps.toList.drop p) p st = if c = 10 then (p, wh, 10) :: lex tb er wh (x.cps.toList.drop (p + 1)) (p + 1) ["root"] else (p, er, c) :: lex tb er wh (x.cps.toList.drop (p + 1)) (p + 1) st := by
  obtain ⟨hlt, hv⟩ := Array.getElem?_eq_some_iff.mp hx
  have e : x.cps.toList.drop p = c :: x.cps.toList.drop (p + 1) := by
    rw [List.drop_eq_getElem_cons (by simpa using hlt)]
    simp [hv]
  rw [e]
  show (match ((tb.lookup (topOf st)).getD []).find? (fun r => r.c == c) with | some r => _ | none => _) = _
  rw [hrs, Option.getD_some, find_none hx hno]
theorem lex_end {tb : Tbl} {er wh : Addr} {x : Str} {p : Nat} {st : List Str} (hx : x.length ≤ p) : lex tb er wh (x.cps.toList.drop p) p st = [] := by
  rw [List.drop_of_length_le (by simpa [Str.length] using hx)]; rfl
theorem gpost_cons {n : Nat} {e₀ : TokE} {ts ts' : List TokE} {Nc N2 own' : List (Addr × OD)} {a : Addr} {t1 t2 : Tok} {lw : List Value} {k : Resume → Sem Fin} {c : Code} {p : Pos} {fs : List Frame} (gd : fs.any Frame.guarded = false) (et : ts' = e₀ :: ts) (e : N2 = own' ++ (a, tokT e₀ t1 t2) :: N) (pk : Pick Nc N2)
    (ok : ∀ F' A N G, F.le F' → Rm A n → Sg X A c (k (.send .none)) fs ⟨F', own' ++ N, G⟩ (GPost X n ts F' N G)) :
    ∃ N2, Pick Nc N2 ∧ GPost X n ts' F N G (.susp (.ref a) false lw k c p fs) ⟨F, N2, G⟩ := by
  subst et e
  exact ⟨_, pk, lw, k, c, p, fs, own', a, t1, t2, rfl, gd, rfl, genOk_of ok⟩
theorem Strs.get {xs : List Str} {vs : List Value} (h : Strs xs vs) : ∀ {i : Nat} {x : Str}, xs[i]? = some x → ∃ t, vs[i]? = some (.str x t) := by
  induction h with
  | nil => intro i x e; simp at e
  | @cons y t xs vs _ ih =>
    intro i x e
    cases i with
    | zero => simp at e; subst e; exact ⟨t, rfl⟩
    | succ i => exact ih (by simpa using e)
theorem Strs.snoc {xs : List Str} {vs : List Value} (h : Strs xs vs) (x : Str) (t : Tok) : Strs (xs ++ [x]) (vs ++ [.str x t]) := by
  induction h with
  | nil => exact .cons .nil
  | cons _ ih => exact .cons ih
theorem Strs.split {xs : List Str} {vs : List Value} (h : Strs xs vs) (hn : xs ≠ []) : ∃ ws v, vs = ws ++ [v] ∧ Strs xs.dropLast ws := by
  induction h with
  | nil => exact absurd rfl hn
  | @cons x t xs vs h ih =>
    cases h with
    | nil => exact ⟨[], .str x t, rfl, .nil⟩
    | @cons y u ys ws h' =>
      obtain ⟨w, v, e, k⟩ := ih (by simp)
      exact ⟨.str x t :: w, v, by rw [e]; rfl, by simpa [List.dropLast] using Strs.cons k⟩
end
end Mine

namespace Mine
section
variable {X : Cx} {A : Around} {l : Led} {env : Env} {F F' : PH} {N N' : List (Addr × OD)} {G : Array GenState} {R : Value → Led → Prop}
/-- a def is entered, its arguments bound by steps -/
theorem cl_defB {f : Addr} {oc : Value} {od : Option Addr} {osl : Array (Option Value)} {body : List Stmt} {args : Args} {R : Flow → Led → Prop}
    {name qn : Str} {params : Arguments} {scope : Scope} {gl bi : Addr} {clo : List (Str × Addr)} {dfl kwd doc pm code ct : Value} {ann : Option Addr}
    (ho : X.K.lookup f = some ⟨oc, od, .func ⟨name, qn, params, .stmts body, scope, gl, clo, dfl, kwd, doc, pm, ann, code, ct, bi⟩, osl⟩) (hcd : codeIn X.K code qn = true)
    (hroom : A.depth < recursionLimit) (hco : scope.isCoroutine = false) (hgen : scope.isGenerator = false) {n : Nat} (hn : (cellNames scope.names).length = n)
    (h : Tr X A.in1 ⟨F, N, G⟩ (bindArgs ⟨name, qn, params, .stmts body, scope, gl, clo, dfl, kwd, doc, pm, ann, code, ct, bi⟩ args) fun binds l1 => Opn l1 fun F N G => ∀ L, allC n ((L, .ns []) :: N) fun cs NN =>
      TrB X A.in1 (mkEnv scope gl clo (qn ++ ".<locals>.") code bi f L cs) (fun l' => Tr X (A.deeper (mkEnv scope gl clo (qn ++ ".<locals>.") code bi f L cs)) l' (execs body (mkEnv scope gl clo (qn ++ ".<locals>.") code bi f L cs)) fun fl l'' => Wk R (.ret (flowVal fl)) l'') binds ⟨F, NN, G⟩) :
    Cl X A ⟨F, N, G⟩ (.call (.ref f) args) R := by
  intro s R' S k
  refine codeAny_call_function hroom (S.inK _ _ ho) rfl hco hgen rfl (codeRec_of S.inK hcd) ?_
  refine h.use S fun binds s1 l1 S1 h1 => ?_
  obtain ⟨F1, N1, G1⟩ := l1
  refine new_env S1 fun L cs s' hl S' => ?_
  refine TrB.use (allCells_use (allC_all (h1 L)) cs (hl.trans hn)) S' fun s2 l2 S2 h2 => ⟨S2.nolimit, ?_⟩
  refine codeAny_func (h2.use S2 fun fl s3 l3 S3 ⟨N3, p, r⟩ => ?_)
  have q := k _ s3 ⟨l3.F, N3, l3.G⟩ (S3.pick p) r
  cases fl <;> exact q
theorem t_bindV (bs : Value → List (Str × Value)) {rest : List Value} {fd : FuncData} {args : Args} {R : List (Str × Value) → Led → Prop} (e : bindArgs fd args = (newTuple rest >>= fun t => pure (bs t))) (hz : rest.length ≤ sizeLine)
    (h : ∀ a, R (bs (.ref a)) ⟨F, (a, .tup rest) :: N, G⟩) : Tr X A ⟨F, N, G⟩ (bindArgs fd args) R := by
  rw [e]
  exact tr_bind (t_newTuple hz fun a => tr_pure (h a))
theorem t_allocDict {R : Addr → Led → Prop} (h : ∀ a, R a ⟨F, (a, .dic []) :: N, G⟩) : Tr X A ⟨F, N, G⟩ (alloc { cls := .type "dict", data := .dict #[] }) R := fun s E S =>
  wpAny_alloc ⟨⟨F, (s.heap.objs.size, .dic []) :: N, G⟩, At.allocT S (D := .dic []) ⟨⟨rfl, rfl, rfl⟩, List.nodup_nil, #[], 0, rfl, .nil⟩, h _⟩
theorem t_bindVK (bs : Value → Value → List (Str × Value)) {rest : List Value} {fd : FuncData} {args : Args} {R : List (Str × Value) → Led → Prop}
    (e : bindArgs fd args = (newTuple rest >>= fun t => alloc { cls := .type "dict", data := .dict #[] } >>= fun d => pure (bs t (.ref d)))) (hz : rest.length ≤ sizeLine)
    (h : ∀ a b, R (bs (.ref a) (.ref b)) ⟨F, (b, .dic []) :: (a, .tup rest) :: N, G⟩) : Tr X A ⟨F, N, G⟩ (bindArgs fd args) R := by
  rw [e]
  exact tr_bind (t_newTuple hz fun a => tr_bind (t_allocDict fun b => tr_pure (h a b)))
theorem t_bindK (bs : Value → List (Str × Value)) {fd : FuncData} {args : Args} {R : List (Str × Value) → Led → Prop}
    (e : bindArgs fd args = (alloc { cls := .type "dict", data := .dict #[] } >>= fun d => pure (bs (.ref d))))
    (h : ∀ b, R (bs (.ref b)) ⟨F, (b, .dic []) :: N, G⟩) : Tr X A ⟨F, N, G⟩ (bindArgs fd args) R := by
  rw [e]
  exact tr_bind (t_allocDict fun b => tr_pure (h b))
end
end Mine

namespace Mine
section
variable {X : Cx} {A : Around} {l : Led} {env : Env} {F F' : PH} {N N' : List (Addr × OD)} {G : Array GenState} {R : Value → Led → Prop} {x : Str} {t : Tok}
theorem t_isupper (h : R (.bool (Txt.isupper x)) l) : Tr X A l (call (.builtin "str.isupper") [.str x t]) R := fun s E S => PySem.SC.isupper ⟨l, S, h⟩
theorem t_argsStar {e : Expr} {p pos : Pos} {rest : List Expr} {R : List Value → Led → Prop}
    (h : Tr X A l (eval e env) fun v l1 => ∃ a vs, v = .ref a ∧ Kn X l1 a (.tup vs) ∧ vs.length ≤ 1000000 ∧ Tr X A l1 (spliced (backTo pos (starEach rest env))) fun ws => R (vs ++ ws)) :
    Tr X A l (spliced (backTo pos (starEach (.Starred e p :: rest) env))) R := fun s E S => by
  show wpAny _ A ((eval e env >>= fun v => standAt pos >>= fun _ => pure v) >>= fun v => _) _ E s
  refine wpAny_bind (wpAny_bind (h.use S fun v s1 l1 S1 h1 => wpAny_bind (wpAny_standAt (wpAny_pure ?_))))
  obtain ⟨a, vs, rfl, ha, hz, h1⟩ := h1
  have hT := tup_type ha S1
  obtain ⟨o, ho, hc, hdn, n, hd⟩ := ha.has S1
  simp only [if_true]
  refine wpAny_bind (m := notIterableAtAll (.ref a)) ?_
  unfold notIterableAtAll
  refine wpAny_bind (wpAny_specialOf hT F.slot_tuple_iter.lookup ?_)
  refine wpAny_pure ?_
  simp only [Bool.false_eq_true, if_false]
  refine wpAny_bind (wpAny_collect_seq a (.inr rfl) ho hc hd (fun h' k => ?_) (by simp [sizeLine]; omega))
  refine wpAny_bind (wpAny_holding ?_)
  refine Tr.use h1 (At.keep0 S1 k) fun ws s2 l2 S2 r => ?_
  refine wpAny_pure ⟨l2, S2, ?_⟩
  simpa using r
theorem t_evalArgsStar {pos : Pos} {f : Value} {e e2 : Expr} {p : Pos} {rest : List Expr} {R : Args → Led → Prop} (h : Tr X A l (spliced (backTo pos (starEach (.Starred e p :: e2 :: rest) env))) fun vs => R ⟨vs, []⟩)
    (he : starEach (e2 :: rest) env = (false, eval e2 env) :: starEach rest env) : Tr X A l (evalArgs f true (backTo pos (starEach (.Starred e p :: e2 :: rest) env)) []) R := fun s E S => by
  have hh := h s E S
  have e1 : starEach (.Starred e p :: e2 :: rest) env = (true, eval e env) :: (false, eval e2 env) :: starEach rest env := by
    show (true, eval e env) :: starEach (e2 :: rest) env = _
    rw [he]
  rw [e1] at hh ⊢
  unfold evalArgs
  show wpAny _ A (spliced (backTo pos ((true, eval e env) :: (false, eval e2 env) :: starEach rest env)) >>= _) _ E s
  refine wpAny_bind (wpAny_mono hh (fun vs s' h' => ?_) fun _ _ x => x)
  refine wpAny_holding ?_
  exact wpAny_bind (wpAny_pure (wpAny_bind (wpAny_pure (wpAny_pure h'))))
/-- getting a def of the class by name makes a method object -/
def boundName (K : Frag) (C : Addr) (name : Str) (f : Addr) : Bool :=
  hasDictIn K C && (findIn K (.ref C) name == some (some (.ref f))) && isFn K (.ref f) && (specialIn K (.ref f) "__get__" == some (some (.builtin "function.__get__"))) && (takesIn K (.ref f) == some false) && !(copiedNames.contains name) &&
    (findIn K (.ref C) "__getattr__" == some none)
theorem t_bound {x C d f : Addr} {fs : List (Str × Value)} {name : Str} {expr : Bool} (hx : Kn X ⟨F, N, G⟩ x (.inst C d)) (hd : Kn X ⟨F, N, G⟩ d (.fld fs)) (hf : boundName X.K C name f = true) (hg : hasGA X.K C = true) (hn : (fs.all fun p => p.1 != name) = true)
    (h : ∀ a, R (.ref a) ⟨F, (a, .raw (methodObj (.ref f) (.ref x))) :: N, G⟩) : Tr X A ⟨F, N, G⟩ (getAttr (.ref x) name expr) R := fun s E S => by
  obtain ⟨ox, od, I, _, hl, _⟩ := instAt_of (hx.has S) (hd.has S)
  simp only [boundName, Bool.and_eq_true, beq_iff_eq, Bool.not_eq_true'] at hf
  obtain ⟨⟨⟨⟨⟨⟨h1, h2⟩, h3⟩, h4⟩, h5⟩, h6⟩, h7⟩ := hf
  have hlk : lookIn name od = some none := by rw [hl, lookup_none (all_ne hn)]
  refine get_bind S.inK I (beq_iff_eq.mp hg) (findObj_fn h1 h2 h4 h5 h6 hlk) h7 ?_
  have S' : X.At ⟨F, N, G⟩ { s with toks := s.toks + 1 } := At.same S rfl rfl rfl
  exact wpAny_call (fn_get (s := { s with toks := s.toks + 1 }) S'.inK (beq_iff_eq.mp h3) (handed_on rfl ⟨⟨F, (s.heap.objs.size, .raw (methodObj (.ref f) (.ref x))) :: N, G⟩, At.allocT S (D := .raw (methodObj (.ref f) (.ref x))) ⟨rfl, rfl⟩, h _⟩))
theorem strsFrom_Strs : ∀ (tk : Nat) (xs : List Str), Strs xs (strsFrom tk xs)
  | _, [] => .nil
  | tk, x :: r => .cons (strsFrom_Strs (tk + 1) r)
open Builtin Builtin.Str in
theorem t_split {y : Str} {u : Tok} {ps : List Str} (hy : (y.length == 0) = false) (hx : x.length ≤ 1000000) (hps : Txt.split x y = ps) (hn : ps.length ≤ 1000) (h : ∀ a vs, Strs ps vs → R (.ref a) ⟨F, (a, .lst vs) :: N, G⟩) :
    Tr X A ⟨F, N, G⟩ (call (.builtin "str.split") [.str x t, .str y u]) R := fun s E S => by
  have one : ∀ s' : Shared, s' = { s with heap := s.heap.push { cls := .type "list", data := .seq [Value.str x t].toArray } } → ps = [x] → wants (fun v s' => ∃ l', X.At l' s' ∧ R v l') E (.ok (.ret (.ref s.heap.objs.size))) s' := fun s' e1 e2 => by
    subst e1 e2
    exact ⟨⟨F, (s.heap.objs.size, .lst [.str x t]) :: N, G⟩, At.allocT S (D := .lst [.str x t]) ⟨rfl, ⟨rfl, rfl⟩, 0, rfl⟩, h _ _ (.cons .nil)⟩
  unfold Txt.split at hps
  cases h1 : (decide (x.length < y.length) || decide (strKind x < strKind y))
  · rw [h1] at hps
    simp only [Bool.false_eq_true, if_false] at hps
    cases hf : (occurrences x y 0 x.length (x.length + 1)).isEmpty
    · rw [hf] at hps
      simp only [Bool.false_eq_true, if_false] at hps
      refine call_meets PySem.F.slot_str_split (typeIs_str _ _ _) PySem.F.entry_str_split (PySem.F.args_str_split_2 _ _) (meets_str_split_sep x y t u h1 hy hf (by unfold sizeLine; omega) (by rw [hps]; unfold sizeLine; omega)) ?_
      rw [hps]
      exact ⟨⟨F, (s.heap.objs.size, .lst (strsFrom s.toks ps)) :: N, G⟩, At.allocT S (D := .lst (strsFrom s.toks ps)) ⟨rfl, ⟨rfl, rfl⟩, 0, rfl⟩, h _ _ (strsFrom_Strs _ _)⟩
    · rw [hf] at hps
      simp only [if_true] at hps
      exact call_meets PySem.F.slot_str_split (typeIs_str _ _ _) PySem.F.entry_str_split (PySem.F.args_str_split_2 _ _) (meets_str_split_not_found x y t u h1 hy hf) (one _ rfl hps.symm)
  · rw [h1] at hps
    simp only [if_true] at hps
    exact call_meets PySem.F.slot_str_split (typeIs_str _ _ _) PySem.F.entry_str_split (PySem.F.args_str_split_2 _ _) (meets_str_split_cannot_occur x y t u h1) (one _ rfl hps.symm)
theorem Kn.ofK {a : Addr} {D : OD} {o : Obj} (hb : 2 < a) (e : X.K.lookup a = some o) (k : D.ok X.P o) : Kn X l a D := .inr (.inr ⟨hb, o, e, k⟩)
theorem fld1_ok {P : Params} {c : Value} {n : Nat} {x : Str} {hs : Int} {tk : Tok} {v : Value} (hc : c = .type "dict") : (OD.fld [(x, v)]).ok P ⟨c, none, .dict #[⟨hs, .str x tk, v⟩] n, #[]⟩ := by
  refine ⟨hc, rfl, by simp, _, n, rfl, fun e he => ?_, Nat.le_refl _, fun y => ?_⟩
  · have : e = ⟨hs, .str x tk, v⟩ := by simpa using he
    exact ⟨x, tk, by rw [this]⟩
  · unfold nsFind findBy
    by_cases h : y = x
    · subst h
      simp [List.lookup_cons, Value.isStr]
    · have h2 : (y == x) = false := by simpa using h
      simp [List.lookup_cons, Value.isStr, h2, Ne.symm h]
end
end Mine

namespace Mine
section
variable {X : Cx} {A : Around} {l : Led} {env : Env} {F F' : PH} {N N' : List (Addr × OD)} {G : Array GenState} {R : Value → Led → Prop} {x : Str} {t : Tok}
theorem t_callWithKw {pos : Pos} {f : Value} {first : List Value} {args : List (Bool × Sem Value)} {kws : List (Option Str × Sem Value)} {R : Value → Led → Prop}
    (h : Tr X A l (evalArgs f true args kws) fun a l1 => CallP X A l1 f first a R) : Tr X A l (callWith pos f first args kws) R := by
  intro s E S
  unfold callWith
  refine wpAny_bind (wpAny_holding (h.use S fun a s1 l1 S1 h1 => wpAny_bind (wpAny_standAt ?_)))
  obtain ⟨hc, h1⟩ := h1
  have tail : ∀ {t : Sem Value}, wpAny X.M A t (fun v s' => ∃ l', X.At l' s' ∧ R v l') E s1 → wpAny X.M A (t >>= fun r => holding [r] point >>= fun _ => pure r) (fun v s' => ∃ l', X.At l' s' ∧ R v l') E s1 :=
    fun ht => wpAny_bind (wpAny_mono ht (fun r s₂ hr => wpAny_bind (wpAny_holding (wpAny_point (wpAny_pure hr)))) fun _ _ x => x)
  have base := h1 s1 E S1
  refine wpAny_bind (hc s1 S1 A E _ fun k => ?_)
  dsimp only
  split
  · exact tail (by unfold callMarked; exact Calls.wpAny_keep base)
  · split
    · exact tail base
    · exact tail (by unfold callMarked; exact Calls.wpAny_keep base)
  · split
    · exact tail base
    · exact tail (by unfold callMarked; exact Calls.wpAny_keep base)
  · exact tail base
  · exact tail (wpAny_operate' base)
theorem dic_empty {s : Shared} {d : Addr} (S : X.At l s) (h : Kn X l d (.dic [])) : ∃ o n, s.heap.get? d = some o ∧ o.data = .dict #[] n := by
  obtain ⟨o, ho, he, _, es, n, hd, hE⟩ := h.has S
  have : es = #[] := by
    have h0 : es.toList = [] := by cases h : es.toList with | nil => rfl | cons a b => rw [h] at hE; cases hE
    simpa using h0
  exact ⟨o, n, ho, this ▸ hd⟩
theorem merge_empty {s : Shared} {d a : Addr} {E : Value → Shared → Prop} {Q : Unit → Shared → Prop} (S : X.At l s) (hd : Kn X l d (.dic [])) (ha : Kn X l a (.dic [])) (h : Q () s) : wpAny X.M A (mergeMapping d (.ref a) true) Q E s := by
  have hT := ((ha.has S).dictOf (prog := X.prog)).typeIs
  obtain ⟨o, n, ho, hdt⟩ := dic_empty S ha
  obtain ⟨od, nd, hod, hddt⟩ := dic_empty S hd
  unfold mergeMapping
  refine wpAny_bind (wpAny_isInstance hT isSubtype_dict_dict ?_)
  rw [if_pos rfl]
  refine wpAny_bind (wpAny_specialOf hT F.slot_dict_iter.lookup ?_)
  refine wpAny_bind (wpAny_pure ?_)
  rw [show ((some (Value.builtin "dict.__iter__")) == some (Value.builtin "dict.__iter__")) = true from beq_self_eq_true _]
  dsimp only
  rw [ha.notSys S]
  rw [if_neg Bool.false_ne_true]
  refine wpAny_bind (wpAny_dictEntries hod hddt ?_)
  rw [if_pos (show (#[] : Array DictEntry).isEmpty = true from rfl)]
  refine wpAny_bind (wpAny_dictEntries ho hdt ?_)
  refine wpAny_bind ?_
  rw [← Array.forIn_toList]
  refine wpAny_pure ?_
  refine wpAny_bind (wpAny_dictEntries ho hdt (wpAny_bind (wpAny_dictEpoch ho hdt (wpAny_bind ?_))))
  rw [show List.range (#[] : Array DictEntry).size = [] from rfl]
  exact wpAny_pure (wpAny_pure h)
/-- ** of an empty dict -/
theorem t_evalArgsKw0 {f : Value} {x e : Sem Value} {R : Args → Led → Prop}
    (h : Tr X A l (spliced [(false, x)]) fun vs l1 => Opn l1 fun F N G => ∀ d, Tr X A ⟨F, (d, .dic []) :: N, G⟩ e fun v l2 => ∃ a, v = .ref a ∧ Kn X l2 a (.dic []) ∧ Kn X l2 d (.dic []) ∧ R ⟨vs, []⟩ l2) :
    Tr X A l (evalArgs f true [(false, x)] [(none, e)]) R := fun s E S => by
  unfold evalArgs
  show wpAny _ A (spliced [(false, x)] >>= _) _ E s
  refine wpAny_bind (h.use S fun vs s1 l1 S1 h1 => wpAny_bind (wpAny_pure ?_))
  obtain ⟨F1, N1, G1⟩ := l1
  refine wpAny_holding ?_
  simp only [List.all_cons, Option.isSome_none, Bool.false_and, Bool.false_eq_true, if_false]
  refine wpAny_bind ?_
  unfold mergedKeywords
  refine wpAny_bind ((t_allocDict (R := fun d l2 => l2 = ⟨F1, (d, .dic []) :: N1, G1⟩) fun a => rfl).use S1 fun d s2 l2 S2 e2 => ?_)
  subst e2
  have h2 := h1 d
  refine wpAny_bind (wpAny_holding ?_)
  refine wpAny_bind ?_
  rw [List.forIn_cons]
  refine wpAny_bind ?_
  refine wpAny_bind (wpAny_pure ?_)
  refine wpAny_bind (h2.use S2 fun v s3 l3 S3 h3 => ?_)
  obtain ⟨a, rfl, ha, hd, hR⟩ := h3
  refine wpAny_bind (wpAny_onRaise (wpAny_holding (wpAny_tryCatch (wpAny_onRaise (merge_empty S3 hd ha (wpAny_pure ?_))))))
  refine wpAny_pure ?_
  refine wpAny_bind (wpAny_pure (wpAny_pure ?_))
  refine wpAny_bind (wpAny_pure ?_)
  refine wpAny_pure ?_
  refine wpAny_bind (wpAny_pure ?_)
  refine wpAny_bind (wpAny_holding ?_)
  obtain ⟨od, nd, hod, hddt⟩ := dic_empty S3 hd
  unfold keywordsIn
  refine wpAny_bind (wpAny_dictEntries hod hddt ?_)
  refine wpAny_bind ?_
  rw [← Array.forIn_toList]
  exact wpAny_pure (wpAny_pure (wpAny_pure ⟨l3, S3, hR⟩))
/-- `o.name(x, **e)`, the method fetched by attribute -/
theorem t_MCallKw {o x e : Expr} {name : Str} {apos pos kp : Pos} {R : Value → Led → Prop}
    (h : Tr X A l (eval o env) fun ov l1 => Tr X A l1 (getAttr ov name true) fun f l2 => Tr X A l2 (callWith pos f [] (backTo pos [(false, eval x env)]) (backToKw pos [(none, eval e env)])) R)
    (he : eval (.Call (.Attribute o name apos) [x] [⟨none, e, kp⟩] pos) env = (eval o env >>= fun ov => standAt apos.atName >>= fun _ => methodCall o name apos pos env ov 2 (backTo pos [(false, eval x env)]) (backToKw pos [(none, eval e env)]))) :
    Tr X A l (eval (.Call (.Attribute o name apos) [x] [⟨none, e, kp⟩] pos) env) R := fun s E S => by
  rw [he]
  refine wpAny_bind (h.use S fun ov s1 l1 S1 h1 => wpAny_bind (wpAny_standAt ?_))
  unfold methodCall
  show wpAny _ A (holding [ov] (getAttr ov name true >>= fun v => pure (v, [])) >>= _) _ E s1
  refine wpAny_bind (wpAny_holding (wpAny_bind (h1.use S1 fun f s2 l2 S2 h2 => wpAny_pure ?_)))
  exact wpAny_bind (wpAny_pure (h2 s2 E S2))
/-- an attribute of a class, as it lies there -/
theorem t_clsVal {C : Addr} {mc v : Value} {name : Str} {expr : Bool} (hr : readsIn X.K C mc = true) (e : findCls X.K (.ref C) mc name = some (.val v)) (hh : handedIn v = true) (h : R v l) : Tr X A l (getAttr (.ref C) name expr) R :=
  fun s E S => cls_value S.inK hr e hh ⟨l, At.same S rfl rfl rfl, h⟩
theorem t_dictGet0 {a : Addr} {v : Value} (ha : Kn X l a (.dic [])) (h : R v l) : Tr X A l (call (.builtin "dict.get") [.ref a, .str x t, v]) R := t_dictGet2 ha h
end
end Mine

namespace Mine
theorem At.two {K mg mb P F G O s} {N : List (Addr × OD)} {e it : Addr} {D0 D0' D D' Dn : OD} (S : At K mg mb P F ((e, D0) :: (it, D0') :: N) G O s) {h' : Heap}
    (hk : ∀ b o, b ≠ e → b ≠ it → s.heap.get? b = some o → h'.get? b = some o) (hD : Has P h' e D) (hD' : Has P h' it D') (hn : Has P h' s.heap.objs.size Dn) {dr : Drawn} {t : Nat} :
    At K mg mb P F ((s.heap.objs.size, Dn) :: (e, D) :: (it, D') :: N) G O ⟨h', s.gens, dr, t, s.os⟩ := by
  have he := (S.nw (e, D0) (.head _)).1
  have hi := (S.nw (it, D0') (.tail _ (.head _))).1
  have nd := S.nd
  simp only [List.map_cons] at nd
  obtain ⟨n1, n2⟩ := List.nodup_cons.mp nd
  obtain ⟨n3, n4⟩ := List.nodup_cons.mp n2
  refine ⟨S.top, fun b x eq => ?_, fun p hp => ?_, ?_, S.gn, S.os⟩
  · exact hk b x (fun q => by rw [q, he.2] at eq; cases eq) (fun q => by rw [q, hi.2] at eq; cases eq) (S.fz b x eq)
  · rcases List.mem_cons.mp hp with rfl | hp
    · refine ⟨⟨?_, S.fresh.1⟩, hn⟩
      obtain ⟨_, _, _, hg, _⟩ := S.top.g
      exact Nat.lt_trans (by decide) (Heap.lt_size (S.fz _ _ hg))
    · rcases List.mem_cons.mp hp with rfl | hp
      · exact ⟨he, hD⟩
      · rcases List.mem_cons.mp hp with rfl | hp
        · exact ⟨hi, hD'⟩
        · obtain ⟨y, x, hx, r⟩ := S.nw p (.tail _ (.tail _ hp))
          have hm : p.1 ∈ N.map (·.1) := List.mem_map_of_mem (f := (·.1)) hp
          exact ⟨y, x, hk _ _ (fun q => n1 (.tail _ (q ▸ hm))) (fun q => n3 (q ▸ hm)) hx, r⟩
  · simp only [List.map_cons]
    refine List.nodup_cons.mpr ⟨?_, nd⟩
    have := S.fresh.2
    simpa only [List.map_cons] using this
section
variable {X : Cx} {A : Around} {l : Led} {env : Env} {F F' : PH} {N N1 N2 N' : List (Addr × OD)} {G : Array GenState} {R : Value → Led → Prop} {RO : Option Value → Led → Prop} {RU : Unit → Led → Prop} {x : Str} {t : Tok}
/-! enumerate -/
abbrev enumO (it : Addr) (i : Nat) (old : Value) : OD := .raw { cls := .type "enumerate", dict := none, data := .fields #[.none, .bool false, .ref it, rawInt (i : Int), .none, old], slots := #[] }
abbrev enumX (a it : Addr) (i : Nat) (old : Value) : OD := .raw { cls := .type "enumerate", dict := none, data := .fields #[rawInt (a : Int), .bool false, .ref it, rawInt (i : Int), .none, old], slots := #[] }
abbrev itS (x : Str) (t : Tok) (i : Nat) : OD := .rcd (strIterType x) [.str x t, .int (i : Int) 0]
theorem enumO_is {s : Shared} (S : X.At l s) {e it : Addr} {i : Nat} {old : Value} (h : Kn X l e (enumO it i old)) : IsEnum s.heap e it i old := by
  obtain ⟨o, ho, q, _⟩ := h.has S
  rw [q] at ho; exact ho
theorem At.new2 {K mg mb P F G O s} {N : List (Addr × OD)} (S : At K mg mb P F N G O s) {h' : Heap} (k : ∀ b o, s.heap.get? b = some o → h'.get? b = some o) {D1 D2 : OD} (h1 : Has P h' s.heap.objs.size D1) (h2 : Has P h' (s.heap.objs.size + 1) D2) {dr : Drawn} {t : Nat} :
    At K mg mb P F ((s.heap.objs.size + 1, D2) :: (s.heap.objs.size, D1) :: N) G O ⟨h', s.gens, dr, t, s.os⟩ := by
  have S1 : At K mg mb P F ((s.heap.objs.size, D1) :: N) G O ⟨h', s.gens, dr, t, s.os⟩ := At.keep1 S k (Nat.le_refl _) h1
  refine ⟨S1.top, S1.fz, fun p hp => ?_, ?_, S1.gn, S1.os⟩
  · rcases List.mem_cons.mp hp with rfl | hp
    · have hb := (S1.nw _ (.head _)).1.1
      refine ⟨⟨Nat.lt_succ_of_lt hb, ?_⟩, h2⟩
      show F (s.heap.objs.size + 1) = none
      cases hF : F (s.heap.objs.size + 1) with
      | none => rfl
      | some o => exact absurd (Heap.lt_size (S.fz _ _ hF)) (Nat.not_lt.mpr (Nat.le_succ _))
    · exact S1.nw p hp
  · rw [List.map_cons]
    refine List.nodup_cons.mpr ⟨fun hm => ?_, S1.nd⟩
    rw [List.map_cons] at hm
    rcases List.mem_cons.mp hm with hm | hm
    · exact absurd hm (Nat.succ_ne_self _)
    · obtain ⟨p, hp, q⟩ := List.mem_map.mp hm
      obtain ⟨_, o, ho, _⟩ := S.nw p hp
      have := Heap.lt_size ho
      rw [q] at this
      exact absurd this (Nat.not_lt.mpr (Nat.le_succ _))
theorem t_enumList {a : Addr} {vs : List Value} (ha : Kn X ⟨F, N, G⟩ a (.lst vs)) (h : ∀ e it, R (.ref e) ⟨F, (e, enumO it 0 .none) :: (it, itL a 0) :: N, G⟩) :
    Tr X A ⟨F, N, G⟩ (call (.type "enumerate") [.ref a]) R := fun s E S =>
  call_enumerate_list (ha.has S).isList fun h' he hit hz hk =>
    ⟨⟨F, (s.heap.objs.size + 1, enumO s.heap.objs.size 0 .none) :: (s.heap.objs.size, itL a 0) :: N, G⟩, At.new2 S hk (D1 := itL a 0) (D2 := enumO s.heap.objs.size 0 .none) hit ⟨_, he, rfl, rfl⟩, h _ _⟩
theorem t_iterEnum {e it : Addr} {i : Nat} {old : Value} (he : (e, enumO it i old) ∈ N) (h : R (.ref e) ⟨F, N, G⟩) : Tr X A ⟨F, N, G⟩ (pyIter (.ref e)) R := fun s E S =>
  wpAny_pyIter_enum (enumO_is S (Kn.row' he)) ⟨_, S, h⟩
theorem At.front2 {K mg mb P F G O s} {N N1 N2 : List (Addr × OD)} {p q : Addr × OD} (S : At K mg mb P F N G O s) (r1 : Rem N p N1) (r2 : Rem N1 q N2) : At K mg mb P F (p :: q :: N2) G O s :=
  S.perm ((r1.perm.trans (r2.perm.cons _)).symm)
theorem t_nextEnumL {e it a : Addr} {i : Nat} {old v : Value} {vs : List Value} (r1 : Rem N (e, enumO it i old) N1) (r2 : Rem N1 (it, itL a i) N2) (ha : Kn X ⟨F, N, G⟩ a (.lst vs)) (hv : vs[i]? = some v)
    (h : ∀ t tk, RO (some (.ref t)) ⟨F, (t, .tup [.int (i : Int) tk, v]) :: (e, enumX t it (i + 1) v) :: (it, itL a (i + 1)) :: N2, G⟩) : Tr X A ⟨F, N, G⟩ (pyNext (.ref e)) RO := fun s E S => by
  have S2 := At.front2 S r1 r2
  have hne : e ≠ it := fun q => by
    have nd := S2.nd
    simp only [List.map_cons] at nd
    exact (List.nodup_cons.mp nd).1 (q ▸ .head _)
  refine wpAny_pyNext_enum_item (i := i) (enumO_is (l := ⟨F, N, G⟩) S (Kn.row' (r1.mem _ (.head _)))) (S2.led (a := it) (D := itL a i) (.tail _ (.head _))) (ha.has S).isList (by simpa using hv) hne fun h' hx hit ht hz hk => ?_
  exact ⟨_, At.two (D := enumX s.heap.objs.size it (i + 1) v) (D' := itL a (i + 1)) (Dn := .tup [.int (i : Int) s.toks, v]) S2 hk ⟨_, hx, rfl, rfl⟩ hit ⟨_, ht, rfl, rfl, 0, rfl⟩, h _ _⟩
theorem t_nextEnumLEnd {e it a : Addr} {i : Nat} {old : Value} {vs : List Value} (hh : A.handled = none) (r1 : Rem N (e, enumO it i old) N1) (r2 : Rem N1 (it, itL a i) N2) (ha : Kn X ⟨F, N, G⟩ a (.lst vs)) (hv : vs.length ≤ i)
    (h : RO none ⟨F, N2, G⟩) : Tr X A ⟨F, N, G⟩ (pyNext (.ref e)) RO := fun s E S => by
  have S2 := At.front2 S r1 r2
  refine wpAny_pyNext_enum_end (i := i) hh (enumO_is (l := ⟨F, N, G⟩) S (Kn.row' (r1.mem _ (.head _)))) (S2.led (a := it) (D := itL a i) (.tail _ (.head _))) (ha.has S).isList (by simpa using hv) fun h' hk => ?_
  exact ⟨⟨F, N2, G⟩, At.tl (At.ext S2 (.tail .head) hk), h⟩
theorem itS_draws (hh : A.handled = none) (it : Addr) (x : Str) (t : Tok) : Draws X.prog X.w A it [it] x.cps.size (fun i v => ∃ c u, x.cps[i]? = some c ∧ v = .str ⟨#[c]⟩ u) (fun i h => h.IsStrIter it (strIterType x) x t i) := by
  unfold strIterType
  split
  · exact Draws.strAscii hh it x t
  · exact Draws.strWide hh it x t
theorem t_goTupE {elts : List Expr} {k : Nat} {pos : Pos} {e it v : Addr} {i : Nat} {old : Value} (he : (e, enumX v it i old) ∈ N) (u : LUpd N e (enumO it i old) N') (h : RU () ⟨F, N', G⟩) :
    Tr X A ⟨F, N, G⟩ (letOwnedTupleGo (.Tuple elts k pos) (.ref e) (.ref v)) RU := fun s E S => by
  obtain ⟨o, ho, q, _⟩ := S.led he
  rw [q] at ho
  exact wpAny_letOwnedTupleGo_enum ho fun h' he' sb => ⟨⟨F, N', G⟩, S.updT u sb ⟨_, he', rfl, rfl⟩, h⟩
end
end Mine

namespace Mine
section
variable {X : Cx} {A : Around} {l : Led} {env : Env} {F F' : PH} {N N1 N2 N' : List (Addr × OD)} {G : Array GenState} {R : Value → Led → Prop} {RO : Option Value → Led → Prop} {RU : Unit → Led → Prop} {RF : Flow → Led → Prop} {x y : Str} {t u : Tok}
/-! statements -/
theorem t_Assign2 {t₁ t₂ value : Expr} {pos : Pos} (h : Tr X A l (eval value env) fun v l1 => Tr X A l1 (assign t₁ env v) fun _ l2 => Tr X A l2 (assign t₂ env v) fun _ => RF .next)
    (he : (assignEach [t₁, t₂] env).map (·.2) = [assign t₁ env, assign t₂ env]) (hw : swappedStores [t₁, t₂] value env = pure none) : Tr X A l (exec (.Assign [t₁, t₂] value pos) env) RF := fun s E S =>
  wpAny_Assign_two (h.use S fun _ s1 l1 S1 h1 => h1.use S1 fun _ s2 l2 S2 h2 => h2 s2 E S2) he hw
theorem t_AssignTup {elts : List Expr} {k : Nat} {tpos pos : Pos} {value : Expr} (h : Tr X A l (eval value env) fun v l1 => Tr X A l1 (assign (.Tuple elts k tpos) env v) fun _ => RF .next)
    (hs : swapsWithSole [.Tuple elts k tpos] value pos.line env = pure false) (hw : swappedStores [.Tuple elts k tpos] value env = pure none) : Tr X A l (exec (.Assign [.Tuple elts k tpos] value pos) env) RF := fun s E S =>
  Assign_Tuple (h.use S fun _ s1 l1 S1 h1 => h1 s1 E S1) hs hw
theorem t_AssignTupSw {elts : List Expr} {k : Nat} {tpos pos : Pos} {value : Expr} {names : List Str} (h : Tr X A l (eval value env) fun v l1 => Tr X A l1 (unpackItems v names.length none) fun items l2 => Tr X A l2 (assignInOrder (names.reverse.map fun n => bindName env n) items.reverse) fun _ => RF .next)
    (hs : swapsWithSole [.Tuple elts k tpos] value pos.line env = pure false) (hw : swappedStores [.Tuple elts k tpos] value env = pure (some names)) : Tr X A l (exec (.Assign [.Tuple elts k tpos] value pos) env) RF := fun s E S =>
  Assign_Tuple_swapped (h.use S fun _ s1 l1 S1 h1 => h1.use S1 fun _ s2 l2 S2 h2 => h2 s2 E S2) hs hw
theorem t_assignSub {o i : Expr} {p : Pos} {v : Value} (h : Tr X A l (eval o env) fun ov l1 => Tr X A l1 (eval i env) fun iv l2 => Tr X A l2 (setItem ov iv v) RU) : Tr X A l (assign (.Subscript o i p) env v) RU := fun s E S => by
  rw [assign_Subscript]
  refine wpAny_bind (wpAny_holding (h.use S fun ov s1 l1 S1 h1 => wpAny_bind (wpAny_holding (h1.use S1 fun iv s2 l2 S2 h2 => wpAny_bind (wpAny_standAt (wpAny_bind (wpAny_holding (h2.use S2 fun _ s3 l3 S3 h3 => ?_))))))))
  intro Γ p hΓ
  rw [Sem.wp_release]
  exact ⟨l3, S3, h3⟩
theorem t_Assert {test : Expr} {msg : Option Expr} {pos : Pos} (h : Tr X A l (isTrue test env (eval test env)) fun b l1 => b = true ∧ RF .next l1) : Tr X A l (exec (.Assert test msg pos) env) RF := fun s E S =>
  wpAny_Assert_holds (h.use S fun b s1 l1 S1 h1 => ⟨h1.1, l1, S1, h1.2⟩)
theorem t_Dict0 {pos : Pos} (h : ∀ d, R (.ref d) ⟨F, (d, .dic []) :: N, G⟩) : Tr X A ⟨F, N, G⟩ (eval (.Dict [] [] pos) env) R := fun s E S => by
  rw [eval_Dict_empty]
  exact wpAny_bind (wpAny_standAt (t_newDict h s E S))

/-! tuples, dicts -/
theorem tt_dict {a : Addr} {kvs : List (Str × Value)} {RB : Bool → Led → Prop} (ha : Kn X l a (.dic kvs)) (hz : kvs.length ≤ 1000000) (h : RB (!kvs.isEmpty) l) : Tr X A l (truthy (.ref a)) RB := fun s E S =>
  wpAny_truthy_dict (ha.notSys S) ((ha.has S).dictOf (prog := X.prog)) (by (clear E; omega)) ⟨l, S.same rfl rfl rfl, h⟩
theorem t_lenT {a : Addr} {vs : List Value} (ha : Kn X l a (.tup vs)) (hz : vs.length ≤ 1000000) (h : ∀ t, R (.int vs.length t) l) : Tr X A l (call (.builtin "len") [.ref a]) R := fun s E S =>
  PyProof.Rows.len_tuple (ha.has S).isTup (by simp; (clear E; omega)) ⟨l, S.same rfl rfl rfl, by simpa using h _⟩
theorem t_itemTup {i : Int} {a : Addr} {vs : List Value} {v : Value} (ha : Kn X l a (.tup vs)) (hi : 0 ≤ i) (hz : i < 2 ^ 63) (hv : vs[i.toNat]? = some v) (h : R v l) : Tr X A l (getItem (.ref a) (.int i u)) R := fun s E S => by
  have hlt : i.toNat < vs.length := (List.getElem?_eq_some_iff.mp hv).1
  refine PyProof.Rows.getItem_tuple (j := i.toNat) (ha.has S).isTup (by (clear hlt; clear E; clear hz; omega)) hz ?_ (by simpa using hv) ⟨l, S, h⟩
  unfold seqIndex?
  simp [show ¬ i < 0 by (clear hlt; clear E; clear hz; omega), hi, show i < (vs.length : Int) by (clear E; clear hz; clear hi; omega)]
/-- the keys of these pairs, as strs -/
inductive Keys : List (Str × Value) → List Value → Prop
  | nil : Keys [] []
  | cons {k v t kvs vs} : Keys kvs vs → Keys ((k, v) :: kvs) (.str k t :: vs)
theorem keys_of : ∀ {kvs : List (Str × Value)} {vs : List Value}, vs.length = kvs.length → (∀ (i : Nat) (h : i < vs.length), ∃ k x, kvs[i]? = some (k, x) ∧ ∃ t, vs[i] = Value.str k t) → Keys kvs vs
  | [], [], _, _ => .nil
  | (k, x) :: kvs, v :: vs, hl, h => by
    obtain ⟨k', x', e, t, e2⟩ := h 0 (Nat.zero_lt_succ _)
    cases Option.some.inj (show some (k, x) = some (k', x') from e)
    rw [show v = Value.str k t from e2]
    exact .cons (keys_of (Nat.succ.inj hl) fun i hi => h (i + 1) (Nat.succ_lt_succ hi))
theorem t_listOfDict {a : Addr} {kvs : List (Str × Value)} (hh : A.handled = none) (ha : Kn X ⟨F, N, G⟩ a (.dic kvs)) (hz : kvs.length ≤ 1000000) (h : ∀ b vs, Keys kvs vs → R (.ref b) ⟨F, (b, .lst vs) :: N, G⟩) :
    Tr X A ⟨F, N, G⟩ (call (.type "list") [.ref a]) R := fun s E S => by
  obtain ⟨ep, hm⟩ := ((ha.has S).dictOf (prog := X.prog)).dictAt
  refine kdl_call (kdl_dict (ha.notSys S)) hh hm (by unfold sizeLine; (clear E; omega)) fun h' tk acc' c' hk hb hit => ?_
  refine ⟨_, At.keep1 S hk (D := .lst acc'.toList) (Nat.le_refl _) ⟨_, hb, rfl, ⟨rfl, rfl⟩, c', by simp⟩, h _ _ ?_⟩
  refine keys_of (by rw [Array.length_toList]; exact hit.1) fun i hi => ?_
  obtain ⟨k, x, e, hk⟩ := hit.2 i acc'.toList[i] (by rw [← Array.getElem?_toList]; exact List.getElem?_eq_getElem hi)
  exact ⟨k, x, e, Value.isStrOf_shape hk⟩
/-! items of a dict -/
/-- a frozen dict, with its epoch -/
def FzD (P : Params) (F : PH) (a : Addr) (kvs : List (Str × Value)) (ep : Nat) : Prop := 2 < a ∧ ∃ o es, F a = some o ∧ (OD.dic kvs).ok P o ∧ o.data = .dict es ep
theorem FzD.of {P : Params} {a : Addr} {kvs : List (Str × Value)} (h : Fz P F a (.dic kvs)) : ∃ ep, FzD P F a kvs ep := by
  obtain ⟨b, o, ho, ok⟩ := h
  obtain ⟨_, _, es, n, hd, _⟩ := id ok
  exact ⟨n, b, o, es, ho, ok, hd⟩
theorem FzD.mono {P : Params} {a : Addr} {kvs : List (Str × Value)} {ep : Nat} (h : FzD P F a kvs ep) (k : F.le F') : FzD P F' a kvs ep := let ⟨b, o, es, ho, r⟩ := h; ⟨b, o, es, k _ _ ho, r⟩
theorem FzD.fz {P : Params} {a : Addr} {kvs : List (Str × Value)} {ep : Nat} (h : FzD P F a kvs ep) : Fz P F a (.dic kvs) := let ⟨b, o, es, ho, ok, _⟩ := h; ⟨b, o, ho, ok⟩
theorem FzD.dictAt {a : Addr} {kvs : List (Str × Value)} {ep : Nat} {s : Shared} (h : FzD X.P l.F a kvs ep) (S : X.At l s) : s.heap.DictAt (strKind X.prog X.w) a kvs ep := by
  obtain ⟨_, o, es, ho, ⟨he, nd, es', n', hd', hn⟩, hd⟩ := h
  rw [hd] at hd'
  cases hd'
  have q := ents_pairs (prog := X.prog) (w := X.w) hn
  exact ⟨o, es, S.fz _ _ ho, he, hd, fun e hm => q.1 e (Array.mem_toList_iff.mpr hm), q.2, nd⟩
abbrev itemsO (d : Addr) : OD := .rcd "dict_items" [.ref d]
abbrev itD (d : Addr) (i n ep : Nat) (ok ov : Value) : OD := .raw { cls := .type "dict_itemiterator", dict := none, data := .fields #[.none, .bool false, .ref d, .int i 0, .int n 0, .int ep 0, ok, ov], slots := #[] }
abbrev itDX (a d : Addr) (i n ep : Nat) (ok ov : Value) : OD := .raw { cls := .type "dict_itemiterator", dict := none, data := .fields #[rawInt a, .bool false, .ref d, .int i 0, .int n 0, .int ep 0, ok, ov], slots := #[] }
theorem t_dictItems {a : Addr} {kvs : List (Str × Value)} (ha : Kn X ⟨F, N, G⟩ a (.dic kvs)) (h : ∀ v, R (.ref v) ⟨F, (v, itemsO a) :: N, G⟩) : Tr X A ⟨F, N, G⟩ (call (.builtin "dict.items") [.ref a]) R := fun s E S =>
  call_meetsIn PySem.F.slot_dict_items ((ha.has S).dictOf (prog := X.prog)).typeIs PySem.F.entry_dict_items (PySem.F.args_dict_items_1 _) (meets_dict_items (strKind X.prog X.w) a (ha.notSys S))
    ⟨⟨_, (ha.has S).dictOf⟩, ⟨_, At.allocT S (D := itemsO a) ⟨rfl, rfl⟩, h _⟩⟩
theorem t_iterItems {a v : Addr} {kvs : List (Str × Value)} {ep : Nat} (hv : (v, itemsO a) ∈ N) (ha : FzD X.P F a kvs ep) (h : ∀ it, R (.ref it) ⟨F, (it, itD a 0 kvs.length ep .none .none) :: N, G⟩) : Tr X A ⟨F, N, G⟩ (pyIter (.ref v)) R := fun s E S =>
  wpAny_pyIter_items (S.led hv) (ha.dictAt (l := ⟨F, N, G⟩) S) ⟨⟨F, _ :: N, G⟩, At.allocT S (D := itD a 0 kvs.length ep .none .none) ⟨rfl, rfl⟩, h _⟩
theorem At.one {K mg mb P F G O s} {N : List (Addr × OD)} {it : Addr} {D0 D Dn : OD} (S : At K mg mb P F ((it, D0) :: N) G O s) {h' : Heap}
    (hk : ∀ b o, b ≠ it → s.heap.get? b = some o → h'.get? b = some o) (hD : Has P h' it D) (hn : Has P h' s.heap.objs.size Dn) {dr : Drawn} {t : Nat} :
    At K mg mb P F ((s.heap.objs.size, Dn) :: (it, D) :: N) G O ⟨h', s.gens, dr, t, s.os⟩ := by
  have he := (S.nw (it, D0) (.head _)).1
  have nd := S.nd
  simp only [List.map_cons] at nd
  obtain ⟨n1, n2⟩ := List.nodup_cons.mp nd
  refine ⟨S.top, fun b x eq => ?_, fun p hp => ?_, ?_, S.gn, S.os⟩
  · exact hk b x (fun q => by rw [q, he.2] at eq; cases eq) (S.fz b x eq)
  · rcases List.mem_cons.mp hp with rfl | hp
    · refine ⟨⟨?_, S.fresh.1⟩, hn⟩
      obtain ⟨_, _, _, hg, _⟩ := S.top.g
      exact Nat.lt_trans (by decide) (Heap.lt_size (S.fz _ _ hg))
    · rcases List.mem_cons.mp hp with rfl | hp
      · exact ⟨he, hD⟩
      · obtain ⟨y, x, hx, r⟩ := S.nw p (.tail _ hp)
        have hm : p.1 ∈ N.map (·.1) := List.mem_map_of_mem (f := (·.1)) hp
        exact ⟨y, x, hk _ _ (fun q => n1 (q ▸ hm)) hx, r⟩
  · simp only [List.map_cons]
    refine List.nodup_cons.mpr ⟨?_, nd⟩
    have := S.fresh.2
    simpa only [List.map_cons] using this
theorem t_nextItems {it a : Addr} {kvs : List (Str × Value)} {i ep : Nat} {ok ov v : Value} {k : Str} (r : Rem N (it, itD a i kvs.length ep ok ov) N1) (ha : FzD X.P F a kvs ep) (hv : kvs[i]? = some (k, v))
    (h : ∀ t tk, RO (some (.ref t)) ⟨F, (t, .tup [.str k tk, v]) :: (it, itDX t a (i + 1) kvs.length ep (.str k tk) v) :: N1, G⟩) : Tr X A ⟨F, N, G⟩ (pyNext (.ref it)) RO := fun s E S => by
  have S1 := At.rem S r
  obtain ⟨o, ho, e, _⟩ := S1.led (a := it) (.head _)
  rw [e] at ho
  refine wpAny_pyNext_items_item (knd := strKind X.prog X.w) ho (ha.dictAt (l := ⟨F, N, G⟩) S) hv fun key h' hkey hx ht hz hk => ?_
  obtain ⟨tk, rfl⟩ := Value.isStrOf_shape hkey
  exact ⟨_, At.one (D := itDX s.heap.objs.size a (i + 1) kvs.length ep (.str k tk) v) (Dn := .tup [.str k tk, v]) S1 hk ⟨_, hx, rfl, rfl⟩ ⟨_, ht, rfl, rfl, 0, rfl⟩, h _ _⟩
theorem t_nextItemsEnd {it a : Addr} {kvs : List (Str × Value)} {i ep : Nat} {ok ov : Value} (hh : A.handled = none) (r : Rem N (it, itD a i kvs.length ep ok ov) N1) (ha : FzD X.P F a kvs ep) (hv : kvs.length ≤ i)
    (h : RO none ⟨F, N1, G⟩) : Tr X A ⟨F, N, G⟩ (pyNext (.ref it)) RO := fun s E S => by
  obtain ⟨o, ho, e, _⟩ := (At.rem S r).led (a := it) (.head _)
  rw [e] at ho
  exact wpAny_pyNext_items_end (knd := strKind X.prog X.w) hh ho (ha.dictAt (l := ⟨F, N, G⟩) S) (List.getElem?_eq_none hv) fun h' ex => ⟨_, At.ext S r ex, h⟩
theorem t_goTupD {elts : List Expr} {k : Nat} {pos : Pos} {it v a : Addr} {i n ep : Nat} {ok ov : Value} (he : (it, itDX v a i n ep ok ov) ∈ N) (u : LUpd N it (itD a i n ep ok ov) N') (h : RU () ⟨F, N', G⟩) :
    Tr X A ⟨F, N, G⟩ (letOwnedTupleGo (.Tuple elts k pos) (.ref it) (.ref v)) RU := fun s E S => by
  obtain ⟨o, ho, q, _⟩ := S.led he
  rw [q] at ho
  exact wpAny_letOwnedTupleGo_items ho fun h' he' sb => ⟨⟨F, N', G⟩, S.updT u sb ⟨_, he', rfl, rfl⟩, h⟩
end
end Mine

namespace Mine
section
variable {X : Cx} {A : Around} {l : Led} {env : Env} {F F' : PH} {N N1 N2 N' : List (Addr × OD)} {G : Array GenState} {R : Value → Led → Prop} {RO : Option Value → Led → Prop} {RU : Unit → Led → Prop} {RF : Flow → Led → Prop} {x y : Str} {t u : Tok}
theorem cl_freeze {a : Addr} {D : OD} {c : Code} (r : Rem N (a, D) N') (h : ∀ F', F.le F' → Fz X.P F' a D → Cl X A ⟨F', N', G⟩ c RF) : Cl X A ⟨F, N, G⟩ c RF :=
  fun s R' S => let ⟨F', le, fz, S'⟩ := (At.rem S r).freeze; h F' le fz s R' S'
theorem Kn.le {a : Addr} {D : OD} (h : Kn X ⟨F, N, G⟩ a D) (k : F.le F') : Kn X ⟨F', N, G⟩ a D := h.elim (fun f => .inl (f.mono k)) fun h => .inr h
theorem t_dictGetN {a : Addr} {kvs : List (Str × Value)} (ha : Kn X l a (.dic kvs)) (hv : valueAt kvs x = none) (h : R .none l) : Tr X A l (call (.builtin "dict.get") [.ref a, .str x t]) R := t_dictGet1 ha (by rw [hv]; exact h)
theorem t_dictSetN {a : Addr} {kvs : List (Str × Value)} {v : Value} (ha : (a, OD.dic kvs) ∈ N) (hv : valueAt kvs x = none) (u : LUpd N a (.dic (kvs ++ [(x, v)])) N') (hz : kvs.length ≤ 1000000) (h : RU () ⟨F, N', G⟩) :
    Tr X A ⟨F, N, G⟩ (setItem (.ref a) (.str x t) v) RU := t_dictSet ha (by rw [stored_absent hv]; exact u) (by unfold sizeLine; omega) h
theorem t_dictInN {a : Addr} {kvs : List (Str × Value)} (ha : Kn X l a (.dic kvs)) (hv : valueAt kvs x = none) (h : R (.bool false) l) : Tr X A l (compareOp .In (.str x t) (.ref a)) R := t_dictIn ha (by rw [hv]; exact h)
theorem FzD.nodup {P : Params} {a : Addr} {kvs : List (Str × Value)} {ep : Nat} (h : FzD P F a kvs ep) : (kvs.map (·.1)).Nodup := let ⟨_, _, _, _, ⟨_, nd, _⟩, _⟩ := h; nd

/-- these values are frozen tuples -/
def FzT (P : Params) (F : PH) (vs : List Value) : Prop := ∀ (i : Nat) v, vs[i]? = some v → ∃ a ws, v = .ref a ∧ Fz P F a (.tup ws)
theorem FzT.mono {P : Params} {vs : List Value} (h : FzT P F vs) (k : F.le F') : FzT P F' vs := fun i v e => let ⟨a, ws, e1, f⟩ := h i v e; ⟨a, ws, e1, f.mono k⟩
/-- a table's text: lists of tuples by str, all frozen -/
def SrcOk (P : Params) (F : PH) (kvs : List (Str × Value)) : Prop := ∀ (i : Nat) k v, kvs[i]? = some (k, v) → ∃ a vs, v = .ref a ∧ Fz P F a (.lst vs) ∧ FzT P F vs ∧ vs.length ≤ 1000
/-- copies of the first lists -/
def Cop (P : Params) (F : PH) (kvs acc : List (Str × Value)) : Prop := ∀ (i : Nat) p, acc[i]? = some p → ∃ k a b vs, kvs[i]? = some (k, .ref a) ∧ p = (k, .ref b) ∧ Fz P F a (.lst vs) ∧ Fz P F b (.lst vs)
theorem Cop.mono {P : Params} {kvs acc : List (Str × Value)} (h : Cop P F kvs acc) (k : F.le F') : Cop P F' kvs acc := fun i p e =>
  let ⟨k', a, b, vs, e1, e2, f, g⟩ := h i p e; ⟨k', a, b, vs, e1, e2, f.mono k, g.mono k⟩
theorem Cop.nil {P : Params} {kvs : List (Str × Value)} : Cop P F kvs [] := fun i p e => by simp at e
theorem Cop.snoc {P : Params} {kvs acc : List (Str × Value)} {k : Str} {a b : Addr} {vs : List Value} (h : Cop P F kvs acc) (e : kvs[acc.length]? = some (k, .ref a)) (f : Fz P F a (.lst vs)) (g : Fz P F b (.lst vs)) : Cop P F kvs (acc ++ [(k, .ref b)]) := fun i p ei => by
  rcases Nat.lt_or_ge i acc.length with hi | hi
  · rw [List.getElem?_append_left hi] at ei; exact h i p ei
  · rw [List.getElem?_append_right hi] at ei
    obtain ⟨hlt, hv⟩ := List.getElem?_eq_some_iff.mp ei
    have h0 : i = acc.length := by simp at hlt; omega
    subst h0
    refine ⟨k, a, b, vs, e, ?_, f, g⟩
    simpa using hv.symm
/-- a key further on is not among the first ones -/
theorem fresh_key {kvs acc : List (Str × Value)} {i : Nat} {k : Str} {v : Value} (nd : (kvs.map (·.1)).Nodup) (hk : ∀ (j : Nat) p, acc[j]? = some p → ∃ x, kvs[j]? = some (p.1, x)) (hi : kvs[i]? = some (k, v)) (hl : acc.length ≤ i) : valueAt acc k = none := by
  refine valueAt_none_of_not_mem fun hm => ?_
  obtain ⟨p, hp, rfl⟩ := List.mem_map.mp hm
  obtain ⟨j, hj⟩ := List.getElem?_of_mem hp
  obtain ⟨x, hx⟩ := hk j p hj
  have hjl : j < acc.length := (List.getElem?_eq_some_iff.mp hj).1
  have e1 : (kvs.map (·.1))[j]? = some p.1 := by rw [List.getElem?_map, hx]; rfl
  have e2 : (kvs.map (·.1))[i]? = some p.1 := by rw [List.getElem?_map, hi]; rfl
  obtain ⟨l1, v1⟩ := List.getElem?_eq_some_iff.mp e1
  obtain ⟨l2, v2⟩ := List.getElem?_eq_some_iff.mp e2
  exact (List.pairwise_iff_getElem.mp nd) j i l1 l2 (Nat.lt_of_lt_of_le hjl hl) (v1.trans v2.symm)
theorem Cop.key {P : Params} {kvs acc : List (Str × Value)} (h : Cop P F kvs acc) : ∀ (j : Nat) p, acc[j]? = some p → ∃ x, kvs[j]? = some (p.1, x) := fun j p e => by
  obtain ⟨k, a, b, vs, e1, e2, _⟩ := h j p e
  exact ⟨.ref a, by rw [e1, e2]⟩
end
end Mine

namespace Mine
section
variable {X : Cx} {A : Around} {l : Led} {env : Env} {F F' : PH} {N N1 N2 N' : List (Addr × OD)} {G : Array GenState} {R : Value → Led → Prop} {RO : Option Value → Led → Prop} {RU : Unit → Led → Prop} {RF : Flow → Led → Prop} {x y : Str} {t u : Tok}
theorem cl_indG {c : Code} {Inv : Nat → Led → Prop} (step : ∀ k l, (∀ j, j < k → ∀ l, Inv j l → Cl X A l c RF) → Inv k l → Cl X A l c RF) (k : Nat) : ∀ l, Inv k l → Cl X A l c RF := by
  induction k using Nat.strongRecOn with
  | ind k ih => exact fun l h => step k l ih h
/-! ranges -/
abbrev rngO (a b : Int) (t u v : Tok) : OD := .raw { cls := .type "range", dict := none, data := .fields #[.int a t, .int b u, .int 1 v], slots := #[] }
abbrev itN (i n : Nat) : OD := .raw { cls := .type "range_iterator", dict := none, data := .fields #[rawInt (i : Int), rawInt ((n : Int) - (i : Int)), rawInt 1], slots := #[] }
theorem t_range1 {n : Int} (h : ∀ r t1 t2, R (.ref r) ⟨F, (r, rngO 0 n t1 t t2) :: N, G⟩) : Tr X A ⟨F, N, G⟩ (call (.type "range") [.int n t]) R := fun s E S =>
  call_range_1 ⟨⟨F, (s.heap.objs.size, rngO 0 n s.toks t (s.toks + 1)) :: N, G⟩, At.allocT S (D := rngO 0 n s.toks t (s.toks + 1)) ⟨rfl, rfl⟩, h _ _ _⟩
theorem small_range {n : Nat} (hn : n ≤ 1000000) : Builtin.Range.rangeSize 0 (n : Int) 1 = (n : Int) ∧ Builtin.Range.small 0 (n : Int) 1 = true := by
  have e : Builtin.Range.rangeSize 0 (n : Int) 1 = (n : Int) := by unfold Builtin.Range.rangeSize; simp; omega
  refine ⟨e, ?_⟩
  unfold Builtin.Range.small
  rw [e]
  simp [Builtin.Range.rangeFitsLong]
  omega
theorem t_iterRange {r : Addr} {n : Nat} {t1 t2 t3 : Tok} {b : Int} (hb : b = (n : Int)) (hr : Kn X ⟨F, N, G⟩ r (rngO 0 b t1 t2 t3)) (hn : n ≤ 1000000) (h : ∀ it, R (.ref it) ⟨F, (it, itN 0 n) :: N, G⟩) : Tr X A ⟨F, N, G⟩ (pyIter (.ref r)) R := fun s E S => by
  subst hb
  obtain ⟨o, ho, e, _⟩ := hr.has S
  rw [e] at ho
  obtain ⟨e1, e2⟩ := small_range hn
  refine wpAny_pyIter_range ho e2 ?_
  rw [e1]
  exact ⟨⟨F, (s.heap.objs.size, itN 0 n) :: N, G⟩, At.allocT S (D := itN 0 n) ⟨by simp, rfl⟩, h _⟩
theorem t_nextRange {it : Addr} {i n : Nat} (hi : (it, itN i n) ∈ N) (hlt : i < n) (u : LUpd N it (itN (i + 1) n) N') (h : ∀ t, RO (some (.int (i : Int) t)) ⟨F, N', G⟩) : Tr X A ⟨F, N, G⟩ (pyNext (.ref it)) RO := fun s E S => by
  obtain ⟨o, ho, e, _⟩ := S.led hi
  rw [e] at ho
  refine wpAny_pyNext_range_item ho (by omega) fun h' x sb => ⟨⟨F, N', G⟩, S.updT u sb ⟨_, x, ?_, rfl⟩, h _⟩
  have e1 : (i : Int) + 1 = ((i + 1 : Nat) : Int) := by omega
  have e2 : (n : Int) - (i : Int) - 1 = (n : Int) - ((i + 1 : Nat) : Int) := by omega
  rw [e1, e2]
theorem t_nextRangeEnd {it : Addr} {i n : Nat} (hh : A.handled = none) (hi : (it, itN i n) ∈ N) (hlt : n ≤ i) (u : Rem N (it, itN i n) N') (h : RO none ⟨F, N', G⟩) : Tr X A ⟨F, N, G⟩ (pyNext (.ref it)) RO := fun s E S => by
  obtain ⟨o, ho, e, _⟩ := S.led hi
  rw [e] at ho
  exact wpAny_pyNext_range_end hh ho (by omega) fun h' ex => ⟨⟨F, N', G⟩, At.ext S u ex, h⟩
theorem t_iterRangeIter {it : Addr} {i n : Nat} (hi : (it, itN i n) ∈ N) (h : R (.ref it) ⟨F, N, G⟩) : Tr X A ⟨F, N, G⟩ (pyIter (.ref it)) R := fun s E S => by
  obtain ⟨o, ho, e, _⟩ := S.led hi
  rw [e] at ho
  exact wpAny_pyIter_rangeiter ho ⟨_, S, h⟩
/-! strs, letter by letter -/
section
variable {elt target iter : Expr} {ifs : List Expr} {rest : List Comprehension} {scope : Scope} {pos : Pos} {acc : Value}
theorem cs_range {it : Addr} {i n : Nat} (hi : (it, itN i n) ∈ N) (h : Cl X A ⟨F, N, G⟩ (.compLoop (.ListComp elt (⟨target, iter, ifs, 0⟩ :: rest) scope pos) 0 (.ref it) acc env) RF) :
    Cl X A ⟨F, N, G⟩ (.compStart (.ListComp elt (⟨target, iter, ifs, 0⟩ :: rest) scope pos) 0 (.ref it) acc env) RF := cl_compStart h (t_iterRangeIter hi h)
end
/-! lists -/
theorem t_sliceL {a sl : Addr} {vs ws : List Value} {vl vu : Value} {lo hi : Option Int} (ha : Kn X ⟨F, N, G⟩ a (.lst vs)) (hs : Kn X ⟨F, N, G⟩ sl (.raw { cls := .type "slice", data := .fields #[vl, vu, .none] })) (pl : IsPart vl lo) (pu : IsPart vu hi)
    (hz : vs.length ≤ 1000000) (hw : slicePick vs.toArray lo hi none = ws.toArray) (h : ∀ c, R (.ref c) ⟨F, (c, .lst ws) :: N, G⟩) : Tr X A ⟨F, N, G⟩ (getItem (.ref a) (.ref sl)) R := fun s E S => by
  obtain ⟨o, ho, e, _⟩ := hs.has S
  subst e
  refine wpAny_getItem_list_slice (ha.has S).isList ⟨_, ho, rfl, rfl⟩ pl pu .none (by simp) ?_ (by simp [sizeLine]; omega)
  rw [hw]
  exact ⟨⟨F, (s.heap.objs.size, .lst ws) :: N, G⟩, At.allocT S (D := .lst ws) ⟨rfl, ⟨rfl, rfl⟩, 0, rfl⟩, h _⟩
theorem t_eqNil {a b : Addr} {vs : List Value} (hu : A.units < cLine) (ha : Kn X l a (.lst vs)) (hb : Kn X l b (.lst [])) (h : R (.bool vs.isEmpty) l) : Tr X A l (compareOp .Eq (.ref a) (.ref b)) R := fun s E S => by
  cases vs with
  | nil => exact SeqAt.eq_listAt (e := fun _ => true) (ha.has S).isList (hb.has S).isList rfl hu (fun j h1 => absurd h1 (by simp)) ⟨l, S, h⟩
  | cons v vs => exact SeqAt.eq_list_lengthsAt (ha.has S).isList (hb.has S).isList (by simp) hu ⟨l, S, h⟩
end
end Mine

namespace Mine
/-- values that are these ints -/
inductive Ints : List Int → List Value → Prop
  | nil : Ints [] []
  | cons {n t ns vs} : Ints ns vs → Ints (n :: ns) (.int n t :: vs)
theorem Ints.len {ns : List Int} {vs : List Value} (h : Ints ns vs) : vs.length = ns.length := by
  induction h with
  | nil => rfl
  | cons _ ih => simp [ih]
theorem Ints.get {ns : List Int} {vs : List Value} (h : Ints ns vs) : ∀ {i : Nat} {n : Int}, ns[i]? = some n → ∃ t, vs[i]? = some (.int n t) := by
  induction h with
  | nil => intro i x e; simp at e
  | @cons y t xs vs _ ih =>
    intro i x e
    cases i with
    | zero => simp at e; subst e; exact ⟨t, rfl⟩
    | succ i => exact ih (by simpa using e)
theorem Ints.append {ns ms : List Int} {vs ws : List Value} (h : Ints ns vs) (k : Ints ms ws) : Ints (ns ++ ms) (vs ++ ws) := by
  induction h with
  | nil => exact k
  | cons _ ih => exact .cons ih
/-- a list that lies there for good -/
def FzL (F : PH) (a : Addr) (vs : List Value) : Prop := ∃ o, F a = some o ∧ o.cls = .type "list" ∧ ∃ n, o.data = .seq vs.toArray n
section
variable {X : Cx} {A : Around} {l : Led} {env : Env} {F F' : PH} {N N1 N2 N' : List (Addr × OD)} {G : Array GenState} {R : Value → Led → Prop} {RO : Option Value → Led → Prop} {RU : Unit → Led → Prop} {RF : Flow → Led → Prop} {x y : Str} {t u : Tok}
theorem FzL.is {a : Addr} {vs : List Value} {s : Shared} (h : FzL l.F a vs) (S : X.At l s) : s.heap.IsList a vs.toArray := let ⟨o, ho, hc, n, hd⟩ := h; ⟨o, S.fz _ _ ho, hc, n, hd⟩
theorem t_lenF {c : Addr} {vs : List Value} (ha : FzL l.F c vs) (hz : vs.length ≤ 1000000) (h : ∀ t, R (.int vs.length t) l) : Tr X A l (call (.builtin "len") [.ref c]) R :=
  fun s E S => Calls.call_len_list (ha.is S) (by simp; omega) ⟨l, S.same rfl rfl rfl, by simpa using h _⟩
theorem t_subF {value slice : Expr} {i : Value} {ops : List Value} {c : Addr} {vs : List Value} (ha : FzL l.F c vs) (hs : subscripted slice false (.ref c) i = operate ops (getItem (.ref c) i)) (h : Tr X A l (getItem (.ref c) i) R) :
    Tr X A l (subscriptTail value slice (.ref c) i) R := t_subTail (fun s S => (ha.is S).typeIs) PySem.list_getitem_lookup hs h
theorem t_itemF {i : Int} {c : Addr} {vs : List Value} {v : Value} (ha : FzL l.F c vs) (hi : 0 ≤ i) (hz : i < 2 ^ 63) (hv : vs[i.toNat]? = some v) (h : R v l) : Tr X A l (getItem (.ref c) (.int i u)) R :=
  fun s E S => wpAny_getItem_list (ha.is S) hi hz (by simpa using hv) ⟨l, S, h⟩
end
end Mine

namespace Mine
section
variable {X : Cx} {A : Around} {l : Led} {env : Env} {F F' : PH} {N N1 N2 N' : List (Addr × OD)} {G : Array GenState} {R : Value → Led → Prop} {RO : Option Value → Led → Prop} {RU : Unit → Led → Prop} {RF : Flow → Led → Prop} {x y : Str} {t u : Tok}
theorem t_storeM {scope : Scope} {gl bi f L : Addr} {clo : List (Str × Addr)} {qual : Str} {code : Value} {cs : List Addr} {fr fr' : List (Str × Value)} {x : Str} {v : Value} {R : Unit → Led → Prop} (u : LUpd N L (.ns fr') N') (hN : (L, OD.ns fr) ∈ N) (hl : LSet fr x v fr')
    (hx : (mkEnv scope gl clo qual code bi f L cs).kindOf x = some .local) (hk : scope.kind = .function) (h : R () ⟨F, N', G⟩) : Tr X A ⟨F, N, G⟩ (storeName (mkEnv scope gl clo qual code bi f L cs) x v) R := t_store rfl u hN hl hx hk h
theorem t_localM {scope : Scope} {gl bi f L : Addr} {clo : List (Str × Addr)} {qual : Str} {code : Value} {cs : List Addr} {fr : List (Str × Value)} {x : Str} {v : Value} {pos : Pos} {R : Value → Led → Prop} (hN : (L, OD.ns fr) ∈ N) (hv : (x, v) ∈ fr)
    (hx : (mkEnv scope gl clo qual code bi f L cs).kindOf x = some .local) (hk : scope.kind = .function) (hd : (x == ("__debug__" : Str)) = false) (h : R v ⟨F, N, G⟩) : Tr X A ⟨F, N, G⟩ (eval (.Name x pos) (mkEnv scope gl clo qual code bi f L cs)) R := t_local rfl hN hv hx hk hd h
theorem t_localNM {scope : Scope} {gl bi f L : Addr} {clo : List (Str × Addr)} {qual : Str} {code : Value} {cs : List Addr} {fr : List (Str × Value)} {x : Str} {v : Value} {R : Value → Led → Prop} (hN : (L, OD.ns fr) ∈ N) (hv : (x, v) ∈ fr)
    (hx : (mkEnv scope gl clo qual code bi f L cs).kindOf x = some .local) (hk : scope.kind = .function) (h : R v ⟨F, N, G⟩) : Tr X A ⟨F, N, G⟩ (loadName (mkEnv scope gl clo qual code bi f L cs) x) R := t_localN rfl hN hv hx hk h
theorem t_goTupG {elts : List Expr} {k : Nat} {pos : Pos} {it v : Addr} {g : Nat} {nm qn : Str} {t u : Tok} (hi : (it, genO g nm qn t u) ∈ N) (h : RU () ⟨F, N, G⟩) : Tr X A ⟨F, N, G⟩ (letOwnedTupleGo (.Tuple elts k pos) (.ref it) (.ref v)) RU := fun s E S => by
  obtain ⟨o, ho, e, _⟩ := S.led hi
  subst e
  unfold letOwnedTupleGo
  refine wpAny_bind (wpAny_load ho ?_)
  show wpAny _ A (if (["enumerate", "zip", "dict_itemiterator", "dict_reverseitemiterator", "odict_iterator", "itertools.zip_longest", "itertools.pairwise"].contains "generator" && _) = true then _ else _) _ E s
  rw [if_neg (by
    intro h
    rw [show (["enumerate", "zip", "dict_itemiterator", "dict_reverseitemiterator", "odict_iterator", "itertools.zip_longest", "itertools.pairwise"].contains "generator") = false from by decide, Bool.false_and] at h
    cases h)]
  exact wpAny_pure ⟨_, S, h⟩
theorem push_set {G : Array GenState} {x y : GenState} : (G.push x).setIfInBounds G.size y = G.push y := by
  apply Array.ext'
  simp [Array.setIfInBounds]
/-- a token type of these names -/
def TyN (X : Cx) (l : Led) (ty : Addr) (C : Addr) (names : List Str) : Prop := ∃ d tn vs, Kn X l ty (.inst C d) ∧ Kn X l d (.fld [("names", .ref tn)]) ∧ Kn X l tn (.tup vs) ∧ Strs names vs
theorem TyN.le {ty C : Addr} {names : List Str} (h : TyN X ⟨F, N, G⟩ ty C names) (k : F.le F') : TyN X ⟨F', N, G⟩ ty C names := let ⟨d, tn, vs, a, b, c, e⟩ := h; ⟨d, tn, vs, a.le k, b.le k, c.le k, e⟩
end
end Mine

namespace Mine
section
variable {X : Cx} {A : Around} {l : Led} {env : Env} {F F' : PH} {N N1 N2 N' : List (Addr × OD)} {G : Array GenState} {R : Value → Led → Prop} {x y : Str} {t u : Tok}
end
end Mine

namespace Mine
section
variable {X : Cx} {A : Around} {l : Led} {env : Env} {F F' : PH} {N N1 N2 N' : List (Addr × OD)} {G : Array GenState} {R : Value → Led → Prop} {RU : Unit → Led → Prop} {RF : Flow → Led → Prop} {x y : Str} {t u : Tok}
def mySel (start stop step : Int) (i : Nat) : Bool :=
  if step > 0 then start ≤ i && i < stop && (i - start) % step == 0
  else stop < i && i ≤ start && (start - i) % (-step) == 0
theorem t_delSliceL {a sl : Addr} {vs ws : List Value} {vl vu : Value} {lo hi : Option Int} (ha : (a, OD.lst vs) ∈ N) (hs : Kn X ⟨F, N, G⟩ sl (.raw { cls := .type "slice", data := .fields #[vl, vu, .none] })) (pl : IsPart vl lo) (pu : IsPart vu hi)
    (hz : vs.length ≤ 1000000) (hw : (vs.zipIdx.filterMap fun (x, k) => if mySel (sliceBounds lo hi none vs.length).1 (sliceBounds lo hi none vs.length).2.1 (sliceBounds lo hi none vs.length).2.2 k then none else some x) = ws) (hwz : ws.length ≤ vs.length)
    (u : LUpd N a (.lst ws) N') (h : RU () ⟨F, N', G⟩) : Tr X A ⟨F, N, G⟩ (delItem (.ref a) (.ref sl)) RU := fun s E S => by
  obtain ⟨o, ho, hc, hdn, n, hd⟩ := S.led ha
  obtain ⟨os, hos, e, _⟩ := hs.has S
  subst e
  have hTs : s.TypeIs (.ref sl) "slice" := ⟨_, hos, rfl⟩
  have hTl : s.TypeIs (.ref a) "list" := ⟨o, ho, hc⟩
  refine wpAny_delItem_slot hTl (by decide) PySem.F.slot_list_delitem (wpAny_call_entry PySem.F.slot_list_delitem hTl PySem.F.entry_list_delitem ?_ (PySem.F.args_list_delitem_2 _ _))
  show wpAny _ _ (Builtin.List.listSubscript? (.ref sl) >>= _) _ _ s
  refine wpAny_bind ?_
  unfold Builtin.List.listSubscript?
  refine wpAny_bind (wpAny_specialOf hTs slice_no_index ?_)
  simp only [Option.isNone_none, if_true]
  refine wpAny_pure ?_
  show wpAny _ _ (typeOf (.ref sl) >>= _) _ _ s
  refine wpAny_bind (wpAny_typeOf hTs ?_)
  rw [if_neg (by decide)]
  rw [listSliceParts_eq]
  have hstep : ¬ ((rawPart none == rawInt 0) = true) := Bool.false_ne_true
  refine wpAny_bind (wpAny_bind (wpAny_field hos rfl (x := .none) rfl (wpAny_bind (wpAny_listPart .none ?_))))
  rw [if_neg hstep]
  refine wpAny_bind (wpAny_field hos rfl (x := vl) rfl (wpAny_bind (wpAny_listPart pl ?_)))
  refine wpAny_bind (wpAny_field hos rfl (x := vu) rfl (wpAny_bind (wpAny_listPart pu (wpAny_pure ?_))))
  refine wpAny_bind (m := Builtin.List.listItems (.ref a)) ?_
  unfold Builtin.List.listItems
  refine wpAny_bind (wpAny_seqItems ho hd (wpAny_pure ?_))
  refine wpAny_bind (wpAny_of_eq (sliceIndices_raw lo hi none vs.toArray.size (by simp)) ?_)
  refine wpAny_bind (wpAny_rule ?_)
  refine wpAny_bind (m := Builtin.List.listUpdate (.ref a) _) ?_
  show wpAny _ _ (updateSeq a fun xs => (xs.toList.zipIdx.filterMap fun (x, k) => if mySel (sliceBounds lo hi none vs.toArray.size).1 (sliceBounds lo hi none vs.toArray.size).2.1 (sliceBounds lo hi none vs.toArray.size).2.2 k then none else some x).toArray) _ _ s
  have e1 : (fun xs : Array Value => (xs.toList.zipIdx.filterMap fun (x, k) => if mySel (sliceBounds lo hi none vs.toArray.size).1 (sliceBounds lo hi none vs.toArray.size).2.1 (sliceBounds lo hi none vs.toArray.size).2.2 k then none else some x).toArray) vs.toArray = ws.toArray := by
    rw [← hw]; rfl
  obtain ⟨n', hd'⟩ := Obj.data_mapSeq hd (fun xs : Array Value => (xs.toList.zipIdx.filterMap fun (x, k) => if mySel (sliceBounds lo hi none vs.toArray.size).1 (sliceBounds lo hi none vs.toArray.size).2.1 (sliceBounds lo hi none vs.toArray.size).2.2 k then none else some x).toArray)
  refine wpAny_updateSeq ho hd ?_ (by simp [sizeLine]; omega) (Nat.le_trans (Nat.le_of_eq (congrArg Array.size e1)) (by simp [sizeLine]; omega))
  refine wpAny_bind (wpAny_letGo (wpAny_pure ⟨.none, rfl, ⟨⟨F, N', G⟩, S.updT u (Heap.SameBut.update ..) ⟨_, Heap.get?_update_self _ ho (Obj.isFreed_of_seq hd'), ?_⟩, h⟩⟩))
  have hd' := hd'.trans (congrArg (fun x => Data.seq x n') e1)
  refine ⟨(Obj.cls_mapSeq ..).trans hc, ?_, n', hd'⟩
  obtain ⟨c, d, dt, sl⟩ := o
  subst hd
  exact hdn
theorem t_Delete1 {t : Expr} {pos : Pos} (h : Tr X A l (delete t env) fun _ => RF .next) : Tr X A l (exec (.Delete [t] pos) env) RF := fun s E S =>
  wpAny_Delete (wpAny_deleteEach_cons (h.use S fun _ s1 l1 S1 h1 => wpAny_deleteEach_nil ⟨l1, S1, h1⟩))
theorem t_delSub {o i : Expr} {p : Pos} (h : Tr X A l (eval o env) fun ov l1 => Tr X A l1 (eval i env) fun iv l2 => Tr X A l2 (delItem ov iv) RU) : Tr X A l (delete (.Subscript o i p) env) RU := fun s E S => by
  rw [arm_delete_Subscript]
  refine wpAny_bind (h.use S fun ov s1 l1 S1 h1 => wpAny_bind (wpAny_holding (h1.use S1 fun iv s2 l2 S2 h2 => wpAny_bind (wpAny_standAt (wpAny_bind (wpAny_holding (h2.use S2 fun _ s3 l3 S3 h3 => ?_)))))))
  intro Γ p hΓ
  rw [Sem.wp_release]
  exact ⟨l3, S3, h3⟩
theorem t_abs {a : Int} (h : ∀ t, R (.int (if a < 0 then -a else a) t) l) : Tr X A l (call (.builtin "abs") [.int a t]) R := fun s E S => call_abs_int fun u tk => ⟨l, S.same rfl rfl rfl, h _⟩
theorem del_one (v : Value) : (([v] : List Value).zipIdx.filterMap fun (x, k) => if mySel (sliceBounds (some 1) none none [v].length).1 (sliceBounds (some 1) none none [v].length).2.1 (sliceBounds (some 1) none none [v].length).2.2 k then none else some x) = [v] := rfl
theorem sel_lt {m s : Nat} (h : s < m) : mySel (m : Int) ((m : Int) + 1) 1 s = false := by
  unfold mySel
  rw [if_pos (by decide)]
  have : ¬ ((m : Int) ≤ (s : Int)) := by omega
  simp [this]
theorem sel_eq (m : Nat) : mySel (m : Int) ((m : Int) + 1) 1 m = true := by
  unfold mySel
  rw [if_pos (by decide)]
  simp
  omega
theorem del_aux : ∀ (ws : List Value) (m s : Nat), s + ws.length ≤ m → ((ws.zipIdx s).filterMap fun (x, k) => if mySel (m : Int) ((m : Int) + 1) 1 k then none else some x) = ws
  | [], m, s, _ => rfl
  | w :: ws, m, s, h => by
    rw [List.length_cons] at h
    rw [List.zipIdx_cons, List.filterMap_cons]
    have e : mySel (m : Int) ((m : Int) + 1) 1 s = false := sel_lt (by omega)
    simp only [e, Bool.false_eq_true, if_false]
    rw [del_aux ws m (s + 1) (by omega)]
theorem del_last (ws : List Value) (v : Value) : ((ws ++ [v]).zipIdx.filterMap fun (x, k) => if mySel (sliceBounds (some (-1)) none none (ws ++ [v]).length).1 (sliceBounds (some (-1)) none none (ws ++ [v]).length).2.1 (sliceBounds (some (-1)) none none (ws ++ [v]).length).2.2 k then none else some x) = ws := by
  have e : sliceBounds (some (-1)) none none (ws ++ [v]).length = ((ws.length : Int), (ws.length : Int) + 1, 1) := by
    simp [sliceBounds]
    omega
  rw [e, List.zipIdx_append, List.filterMap_append, del_aux ws ws.length 0 (by omega)]
  simp [sel_eq]
end
end Mine

namespace Mine
/-! zip of two iterators -/
structure ZAp (z TI TO i1 i2 : Addr) (fp1 fp2 : List Addr) : Prop where
  zTI : z ≠ TI
  zTO : z ≠ TO
  zi1 : z ≠ i1
  zi2 : z ≠ i2
  TITO : TI ≠ TO
  TIi1 : TI ≠ i1
  TIi2 : TI ≠ i2
  TOi1 : TO ≠ i1
  TOi2 : TO ≠ i2
  i12 : i1 ≠ i2
  zf1 : z ∉ fp1
  zf2 : z ∉ fp2
  Tf1 : TO ∉ fp1
  Tf2 : TO ∉ fp2
  i1f2 : i1 ∉ fp2
  i2f1 : i2 ∉ fp1
section
variable {prog : Program} {w : World} {A : Around} {E : Value → Shared → Prop} {s : Shared}
theorem zip_nextD {z TI TO i1 i2 : Addr} {fp1 fp2 : List Addr} {n1 n2 k1 k2 : Nat} {P1 P2 : Nat → Value → Prop} {S1 S2 : Nat → Heap → Prop} {a b : Value} {Q : Value → Shared → Prop} (D : ZAp z TI TO i1 i2 fp1 fp2)
    (D1 : Draws prog w A i1 fp1 n1 P1 S1) (D2 : Draws prog w A i2 fp2 n2 P2 S2)
    (hz : IsZip s.heap z TI TO .none) (hTI : IsPair s.heap TI (.ref i1) (.ref i2)) (hTO : IsPair s.heap TO a b) (h1 : S1 k1 s.heap) (h2 : S2 k2 s.heap) (l1 : k1 < n1) (l2 : k2 < n2)
    (hQ : ∀ x y h' tk, P1 k1 x → P2 k2 y → IsZip h' z TI TO (rawInt s.heap.objs.size) → IsPair h' TO x y → S1 (k1 + 1) h' → S2 (k2 + 1) h' → IsPair h' s.heap.objs.size x y → h'.objs.size = s.heap.objs.size + 1 →
      (∀ c o, c ≠ z → c ≠ TO → c ≠ i1 → c ≠ i2 → s.heap.get? c = some o → h'.get? c = some o) → Q (.ref s.heap.objs.size) { s with heap := h', toks := tk }) :
    wpAny (model prog w) A (Builtin.«zip.__next__» ⟨[.ref z], []⟩) (fun fin s' => ∃ v, fin = .done (.ret v) ∧ Q v s') E s := by
  obtain ⟨hp, g, dr, tk0, os⟩ := s
  show wpAny _ _ (field (.ref z) 2 >>= _) _ _ _
  refine wpAny_bind (wpAny_field hz rfl (x := .bool false) rfl ?_)
  show wpAny _ _ (field (.ref z) 3 >>= _) _ _ _
  refine wpAny_bind (wpAny_field hz rfl (x := .ref TI) rfl ?_)
  refine wpAny_bind (wpAny_seqItems hTI rfl ?_)
  show wpAny _ _ (Builtin.SmallTypes.ownedTupleIsFree (.ref z) >>= _) _ _ _
  refine wpAny_bind ?_
  unfold Builtin.SmallTypes.ownedTupleIsFree
  refine wpAny_bind (wpAny_field hz rfl (x := .none) rfl (wpAny_pure ?_))
  simp only [if_true]
  refine wpAny_bind (wpAny_rule ?_)
  refine wpAny_bind (wpAny_field hz rfl (x := .ref TO) rfl ?_)
  refine wpAny_bind (wpAny_setField_rec hz (by simp) fun g1 hz1 hs1 => ?_)
  replace hz1 : IsZip g1 z TI TO .ellipsis := hz1
  replace hs1 : Heap.SameBut z hp g1 := hs1
  refine wpAny_bind ?_
  simp only [List.zipIdx_cons, List.zipIdx_nil, List.forIn_cons, List.forIn_nil]
  refine wpAny_bind (wpAny_bind (wpAny_onRaise ?_))
  show wpAny _ _ (Builtin.SmallTypes.nextOf (.ref i1) >>= _) _ _ _
  have a1 : S1 k1 g1 := D1.frame _ _ _ h1 fun c hc o e => hs1.extBut _ _ (fun q => D.zf1 (q ▸ hc)) e
  refine wpAny_bind (D1.item k1 ⟨g1, g, dr, tk0, os⟩ _ _ l1 a1 fun x g2 t2 px s2 hs2 => wpAny_pure ?_)
  replace hs2 : Heap.SameBut i1 g1 g2 := hs2
  have hTO2 : IsPair g2 TO a b := hs2.extBut _ _ D.TOi1 (hs1.extBut _ _ D.zTO.symm hTO)
  refine wpAny_bind (wpAny_seqItems (s := ⟨g2, g, dr, t2, os⟩) hTO2 rfl ?_)
  refine wpAny_bind (wpAny_updateSeq_pair (s := ⟨g2, g, dr, t2, os⟩) hTO2 fun g3 hTO3 hs3 => ?_)
  replace hTO3 : IsPair g3 TO x b := hTO3
  replace hs3 : Heap.SameBut TO g2 g3 := hs3
  refine wpAny_bind (wpAny_letGo (wpAny_pure ?_))
  refine wpAny_bind (wpAny_bind (wpAny_onRaise ?_))
  show wpAny _ _ (Builtin.SmallTypes.nextOf (.ref i2) >>= _) _ _ _
  have a2 : S2 k2 g3 := D2.frame _ _ _ h2 fun c hc o e => hs3.extBut _ _ (fun q => D.Tf2 (q ▸ hc)) (hs2.extBut _ _ (fun q => D.i1f2 (q ▸ hc)) (hs1.extBut _ _ (fun q => D.zf2 (q ▸ hc)) e))
  refine wpAny_bind (D2.item k2 ⟨g3, g, dr, t2, os⟩ _ _ l2 a2 fun y g4 t4 py s4 hs4 => wpAny_pure ?_)
  replace hs4 : Heap.SameBut i2 g3 g4 := hs4
  have hTO4 : IsPair g4 TO x b := hs4.extBut _ _ D.TOi2 hTO3
  refine wpAny_bind (wpAny_seqItems (s := ⟨g4, g, dr, t4, os⟩) hTO4 rfl ?_)
  refine wpAny_bind (wpAny_updateSeq_pair (s := ⟨g4, g, dr, t4, os⟩) hTO4 fun g5 hTO5 hs5 => ?_)
  replace hTO5 : IsPair g5 TO x y := hTO5
  replace hs5 : Heap.SameBut TO g4 g5 := hs5
  refine wpAny_bind (wpAny_letGo (wpAny_pure (wpAny_pure ?_)))
  refine wpAny_bind (wpAny_seqItems (s := ⟨g5, g, dr, t4, os⟩) hTO5 rfl ?_)
  refine wpAny_bind (wpAny_newTuple ?_)
  have hsz : g5.objs.size = hp.objs.size := by rw [hs5.1, hs4.1, hs3.1, hs2.1, hs1.1]
  have hz5 : IsZip g5 z TI TO .ellipsis := hs5.extBut _ _ D.zTO (hs4.extBut _ _ D.zi2 (hs3.extBut _ _ D.zTO (hs2.extBut _ _ D.zi1 hz1)))
  have hk5 : ∀ c o, c ≠ z → c ≠ TO → c ≠ i1 → c ≠ i2 → hp.get? c = some o → g5.get? c = some o := fun c o c1 c2 c3 c4 e =>
    hs5.extBut _ _ c2 (hs4.extBut _ _ c4 (hs3.extBut _ _ c2 (hs2.extBut _ _ c3 (hs1.extBut _ _ c1 e))))
  have s15 : S1 (k1 + 1) g5 := D1.frame _ _ _ s2 fun c hc o e => hs5.extBut _ _ (fun q => D.Tf1 (q ▸ hc)) (hs4.extBut _ _ (fun q => D.i2f1 (q ▸ hc)) (hs3.extBut _ _ (fun q => D.Tf1 (q ▸ hc)) e))
  have s25 : S2 (k2 + 1) g5 := D2.frame _ _ _ s4 fun c hc o e => hs5.extBut _ _ (fun q => D.Tf2 (q ▸ hc)) e
  have hzlt : z < g5.objs.size := Heap.lt_size hz5
  show wpAny _ _ (Builtin.SmallTypes.ownedTupleHandOut (.ref z) (.ref g5.objs.size) >>= _) _ _ _
  refine wpAny_bind ?_
  unfold Builtin.SmallTypes.ownedTupleHandOut
  have hz6 : IsZip (g5.push { cls := .type "tuple", data := .seq #[x, y] }) z TI TO .ellipsis := Heap.get?_push_of_some _ hz5
  refine wpAny_bind (wpAny_setField_rec hz6 (by simp) fun g7 hz7 hs7 => ?_)
  replace hz7 : IsZip g7 z TI TO (rawInt g5.objs.size) := hz7
  refine wpAny_setField_rec hz7 (by simp) fun g8 hz8 hs8 => ?_
  replace hz8 : IsZip g8 z TI TO (rawInt g5.objs.size) := hz8
  have up : ∀ c o, c ≠ z → g5.get? c = some o → g8.get? c = some o := fun c o c1 e => hs8.extBut _ _ c1 (hs7.extBut _ _ c1 (Heap.get?_push_of_some _ e))
  have hT8 : IsPair g8 g5.objs.size x y := hs8.extBut _ _ (Nat.ne_of_gt hzlt) (hs7.extBut _ _ (Nat.ne_of_gt hzlt) (Heap.get?_push_size _ rfl))
  have hs9 : g8.objs.size = g5.objs.size + 1 := by rw [hs8.1, hs7.1, Heap.size_push]
  rw [hsz] at hz8 hT8 hs9
  refine wpAny_pure ⟨_, rfl, ?_⟩
  show Q (.ref g5.objs.size) _
  rw [hsz]
  exact hQ x y g8 t4 px py hz8 (up _ _ D.zTO.symm hTO5) (D1.frame _ _ _ s15 fun c hc o e => up c o (fun q => D.zf1 (q ▸ hc)) e) (D2.frame _ _ _ s25 fun c hc o e => up c o (fun q => D.zf2 (q ▸ hc)) e) hT8 hs9 fun c o c1 c2 c3 c4 e => up c o c1 (hk5 c o c1 c2 c3 c4 e)
theorem zip_endD {z TI TO i1 i2 : Addr} {fp1 : List Addr} {n1 : Nat} {P1 : Nat → Value → Prop} {S1 : Nat → Heap → Prop} {Q : Fin → Shared → Prop} (hzi : z ≠ i1) (hzf : z ∉ fp1)
    (D1 : Draws prog w A i1 fp1 n1 P1 S1) (hz : IsZip s.heap z TI TO .none) (hTI : IsPair s.heap TI (.ref i1) (.ref i2)) (h1 : S1 n1 s.heap)
    (hE : ∀ h' e, (∀ c o, c ≠ z → c ≠ i1 → s.heap.get? c = some o → h'.get? c = some o) → (∃ o, h'.get? e = some o ∧ o.cls = .type "StopIteration") → E (.ref e) { s with heap := h' }) :
    wpAny (model prog w) A (Builtin.«zip.__next__» ⟨[.ref z], []⟩) Q E s := by
  show wpAny _ _ (field (.ref z) 2 >>= _) _ _ _
  refine wpAny_bind (wpAny_field hz rfl (x := .bool false) rfl ?_)
  show wpAny _ _ (field (.ref z) 3 >>= _) _ _ _
  refine wpAny_bind (wpAny_field hz rfl (x := .ref TI) rfl ?_)
  refine wpAny_bind (wpAny_seqItems hTI rfl ?_)
  show wpAny _ _ (Builtin.SmallTypes.ownedTupleIsFree (.ref z) >>= _) _ _ _
  refine wpAny_bind ?_
  unfold Builtin.SmallTypes.ownedTupleIsFree
  refine wpAny_bind (wpAny_field hz rfl (x := .none) rfl (wpAny_pure ?_))
  simp only [if_true]
  refine wpAny_bind (wpAny_rule ?_)
  refine wpAny_bind (wpAny_field hz rfl (x := .ref TO) rfl ?_)
  refine wpAny_bind (wpAny_setField_rec hz (by simp) fun g1 hz1 hs1 => ?_)
  replace hz1 : IsZip g1 z TI TO .ellipsis := hz1
  refine wpAny_bind ?_
  simp only [List.zipIdx_cons, List.zipIdx_nil, List.forIn_cons, List.forIn_nil]
  refine wpAny_bind (wpAny_bind (wpAny_onRaise ?_))
  show wpAny _ _ (Builtin.SmallTypes.nextOf (.ref i1) >>= _) _ _ _
  have a1 : S1 n1 g1 := D1.frame _ _ _ h1 fun c hc o e => hs1.extBut _ _ (fun q => hzf (q ▸ hc)) e
  refine wpAny_bind (D1.done { s with heap := g1 } _ _ a1 fun g2 e hs2 he => ?_)
  obtain ⟨oe, hoe, hce⟩ := he
  have hz2 : IsZip g2 z TI TO .ellipsis := hs2 _ _ hzi hz1
  have hez : e ≠ z := fun x => by subst x; rw [hz2] at hoe; cases hoe; simp at hce
  exact wpAny_setField_rec hz2 (by simp) fun g3 _ hs3 => hE g3 e (fun c o c1 c3 x => hs3.extBut _ _ c1 (hs2 _ _ c3 (hs1.extBut _ _ c1 x))) ⟨oe, hs3.extBut _ _ hez hoe, hce⟩
end
end Mine

namespace Mine
abbrev zG1 (h : Heap) (o1 : Obj) : Heap := h.push o1
abbrev zG2 (h : Heap) (o1 : Obj) (l2 : Addr) : Heap := (zG1 h o1).push { cls := .type "list_iterator", data := .fields #[.ref l2, .int 0 0] }
abbrev zG3 (h : Heap) (o1 : Obj) (l2 : Addr) : Heap := (zG2 h o1 l2).push { cls := .type "tuple", data := .seq #[.ref h.objs.size, .ref (zG1 h o1).objs.size] }
abbrev zG4 (h : Heap) (o1 : Obj) (l2 : Addr) : Heap := (zG3 h o1 l2).push { cls := .type "tuple", data := .seq #[.none, .none] }
abbrev zG5 (h : Heap) (o1 : Obj) (l2 : Addr) : Heap := (zG4 h o1 l2).push { cls := .type "zip", data := .fields #[.none, .bool false, .bool false, .ref (zG2 h o1 l2).objs.size, .ref (zG3 h o1 l2).objs.size] }
abbrev sObj (x : Str) (t : Tok) : Obj := { cls := .type (strIterType x), data := .fields #[.str x t, .int 0 0] }
theorem meets_zip_newG (v : Value) (o1 : Obj) (hit : ∀ (prog : Program) (w : World) (A : Around) (E : Value → Shared → Prop) (s : Shared) (Q : Value → Shared → Prop), Q (.ref s.heap.objs.size) { s with heap := s.heap.push o1 } → wpAny (model prog w) A (pyIter v) Q E s) (l2 : Addr) (ys : Array Value) :
    Meets (Builtin.«zip.__new__» ⟨[.type "zip", v, .ref l2], []⟩) (fun _ R s => s.heap.IsList l2 ys ∧
      R (.ok (.ret (.ref (zG4 s.heap o1 l2).objs.size))) { s with heap := zG5 s.heap o1 l2 }) :=
  .of_wp fun prog w A R s h => by
    obtain ⟨hp, g, d, tk, os⟩ := s
    obtain ⟨hl2, h⟩ := h
    have hsub := sub_zip
    have hL2 : Heap.IsList (Shared.heap ⟨hp.push o1, g, d, tk, os⟩) l2 ys := Heap.IsList.push hl2 _
    have hit1 := hit prog w
    wp_walk using hit1, wpAny_pyIter_list hL2
    exact ⟨_, rfl, h⟩
theorem meets_zip_newS (x : Str) (t : Tok) (l2 : Addr) (ys : Array Value) :
    Meets (Builtin.«zip.__new__» ⟨[.type "zip", .str x t, .ref l2], []⟩) (fun _ R s => s.heap.IsList l2 ys ∧
      R (.ok (.ret (.ref (zG4 s.heap (sObj x t) l2).objs.size))) { s with heap := zG5 s.heap (sObj x t) l2 }) := meets_zip_newG (.str x t) _ (fun prog w A E s Q h => wpAny_pyIter_strU h) l2 ys
abbrev pairO (a b : Value) : OD := .raw { cls := .type "tuple", data := .seq #[a, b] }
abbrev zipO (TI TO : Addr) : OD := .raw { cls := .type "zip", dict := none, data := .fields #[.none, .bool false, .bool false, .ref TI, .ref TO], slots := #[] }
abbrev zipX (a TI TO : Addr) : OD := .raw { cls := .type "zip", dict := none, data := .fields #[rawInt (a : Int), .bool false, .bool false, .ref TI, .ref TO], slots := #[] }
section
variable {X : Cx} {A : Around} {l : Led} {env : Env} {F F' : PH} {N N1 N2 N' : List (Addr × OD)} {G : Array GenState} {R : Value → Led → Prop} {RO : Option Value → Led → Prop} {RU : Unit → Led → Prop} {x : Str} {t : Tok}
theorem t_zipS {b : Addr} {ws : List Value} (hb : Kn X ⟨F, N, G⟩ b (.lst ws)) (h : ∀ z TO TI i2 i1, R (.ref z) ⟨F, (z, zipO TI TO) :: (TO, pairO .none .none) :: (TI, pairO (.ref i1) (.ref i2)) :: (i2, itL b 0) :: (i1, itS x t 0) :: N, G⟩) :
    Tr X A ⟨F, N, G⟩ (call (.type "zip") [.str x t, .ref b]) R := fun s E S => by
  refine callType_new PySem.F.called_zip (by decide) (PySem.F.typeCall_zip_2 _ _) (PySem.F.newCall_zip_2 _ _) (fun obj => PySem.F.args_object_init_3 obj _ _) PySem.F.entry_zip_new
    (meets_zip_newS x t b ws.toArray) ⟨(hb.has S).isList, ⟨_, Heap.get?_push_size _ rfl, rfl⟩, ?_⟩
  have a1 := At.allocT S (D := itS x t 0) (o := { cls := .type (strIterType x), data := .fields #[.str x t, .int 0 0] }) ⟨rfl, rfl⟩ (dr := s.drawn) (t := s.toks)
  have a2 := At.allocT a1 (D := itL b 0) (o := { cls := .type "list_iterator", data := .fields #[.ref b, .int 0 0] }) ⟨rfl, rfl⟩ (dr := s.drawn) (t := s.toks)
  have a3 := At.allocT a2 (D := pairO (.ref s.heap.objs.size) (.ref (zG1 s.heap (sObj x t)).objs.size)) (o := { cls := .type "tuple", data := .seq #[.ref s.heap.objs.size, .ref (zG1 s.heap (sObj x t)).objs.size] }) ⟨rfl, rfl⟩ (dr := s.drawn) (t := s.toks)
  have a4 := At.allocT a3 (D := pairO .none .none) (o := { cls := .type "tuple", data := .seq #[.none, .none] }) ⟨rfl, rfl⟩ (dr := s.drawn) (t := s.toks)
  have a5 := At.allocT a4 (D := zipO (zG2 s.heap (sObj x t) b).objs.size (zG3 s.heap (sObj x t) b).objs.size) (o := { cls := .type "zip", data := .fields #[.none, .bool false, .bool false, .ref (zG2 s.heap (sObj x t) b).objs.size, .ref (zG3 s.heap (sObj x t) b).objs.size] }) ⟨rfl, rfl⟩ (dr := s.drawn) (t := s.toks)
  exact ⟨_, a5, h _ _ _ _ _⟩
theorem t_zipL {a b : Addr} {vs ws : List Value} (ha : Kn X ⟨F, N, G⟩ a (.lst vs)) (hb : Kn X ⟨F, N, G⟩ b (.lst ws)) (h : ∀ z TO TI i2 i1, R (.ref z) ⟨F, (z, zipO TI TO) :: (TO, pairO .none .none) :: (TI, pairO (.ref i1) (.ref i2)) :: (i2, itL b 0) :: (i1, itL a 0) :: N, G⟩) :
    Tr X A ⟨F, N, G⟩ (call (.type "zip") [.ref a, .ref b]) R := fun s E S => by
  refine callType_new PySem.F.called_zip (by decide) (PySem.F.typeCall_zip_2 _ _) (PySem.F.newCall_zip_2 _ _) (fun obj => PySem.F.args_object_init_3 obj _ _) PySem.F.entry_zip_new
    (meets_zip_new a b vs.toArray ws.toArray) ⟨(ha.has S).isList, (hb.has S).isList, ⟨_, Heap.get?_push_size _ rfl, rfl⟩, ?_⟩
  have a1 := At.allocT S (D := itL a 0) (o := { cls := .type "list_iterator", data := .fields #[.ref a, .int 0 0] }) ⟨rfl, rfl⟩ (dr := s.drawn) (t := s.toks)
  have a2 := At.allocT a1 (D := itL b 0) (o := { cls := .type "list_iterator", data := .fields #[.ref b, .int 0 0] }) ⟨rfl, rfl⟩ (dr := s.drawn) (t := s.toks)
  have a3 := At.allocT a2 (D := pairO (.ref s.heap.objs.size) (.ref (zipH1 s.heap a).objs.size)) (o := { cls := .type "tuple", data := .seq #[.ref s.heap.objs.size, .ref (zipH1 s.heap a).objs.size] }) ⟨rfl, rfl⟩ (dr := s.drawn) (t := s.toks)
  have a4 := At.allocT a3 (D := pairO .none .none) (o := { cls := .type "tuple", data := .seq #[.none, .none] }) ⟨rfl, rfl⟩ (dr := s.drawn) (t := s.toks)
  have a5 := At.allocT a4 (D := zipO (zipH2 s.heap a b).objs.size (zipH3 s.heap a b).objs.size) (o := { cls := .type "zip", data := .fields #[.none, .bool false, .bool false, .ref (zipH2 s.heap a b).objs.size, .ref (zipH3 s.heap a b).objs.size] }) ⟨rfl, rfl⟩ (dr := s.drawn) (t := s.toks)
  exact ⟨_, a5, h _ _ _ _ _⟩
theorem isZip_of {s : Shared} (S : X.At l s) {z TI TO : Addr} (h : (z, zipO TI TO) ∈ l.N) : IsZip s.heap z TI TO .none := by
  obtain ⟨o, ho, e, _⟩ := S.led h
  rw [e] at ho; exact ho
theorem t_iterZip {z TI TO : Addr} (hz : (z, zipO TI TO) ∈ N) (h : R (.ref z) ⟨F, N, G⟩) : Tr X A ⟨F, N, G⟩ (pyIter (.ref z)) R := fun s E S => wpAny_pyIter_zip (isZip_of (l := ⟨F, N, G⟩) S hz) ⟨_, S, h⟩
theorem t_goTupZ {elts : List Expr} {k : Nat} {pos : Pos} {z TI TO v : Addr} (hz : (z, zipX v TI TO) ∈ N) (u : LUpd N z (zipO TI TO) N') (h : RU () ⟨F, N', G⟩) : Tr X A ⟨F, N, G⟩ (letOwnedTupleGo (.Tuple elts k pos) (.ref z) (.ref v)) RU := fun s E S => by
  obtain ⟨o, ho, q, _⟩ := S.led hz
  rw [q] at ho
  exact wpAny_letOwnedTupleGo_zip ho fun h' he' sb => ⟨⟨F, N', G⟩, S.updT u sb ⟨_, he', rfl, rfl⟩, h⟩
end
end Mine

namespace Mine
theorem At.turn {K mg mb P F G O s} {rows rows' N : List (Addr × OD)} {Dn : OD} (S : At K mg mb P F (rows ++ N) G O s) {h' : Heap} (hkeys : rows'.map (·.1) = rows.map (·.1)) (hk : ∀ b o, b ∉ rows.map (·.1) → s.heap.get? b = some o → h'.get? b = some o)
    (hr : ∀ p ∈ rows', Has P h' p.1 p.2) (hn : Has P h' s.heap.objs.size Dn) {dr : Drawn} {t : Nat} : At K mg mb P F ((s.heap.objs.size, Dn) :: (rows' ++ N)) G O ⟨h', s.gens, dr, t, s.os⟩ := by
  have nd := S.nd
  rw [List.map_append] at nd
  have hold : ∀ a, a ∈ rows.map (·.1) → 2 < a ∧ F a = none := fun a ha => by
    obtain ⟨p, hp, rfl⟩ := List.mem_map.mp ha
    exact (S.nw p (List.mem_append_left _ hp)).1
  refine ⟨S.top, fun b x eq => hk b x (fun q => by rw [(hold b q).2] at eq; cases eq) (S.fz b x eq), fun p hp => ?_, ?_, S.gn, S.os⟩
  · rcases List.mem_cons.mp hp with rfl | hp
    · refine ⟨⟨?_, S.fresh.1⟩, hn⟩
      obtain ⟨_, _, _, hg, _⟩ := S.top.g
      exact Nat.lt_trans (by decide) (Heap.lt_size (S.fz _ _ hg))
    · rcases List.mem_append.mp hp with hp | hp
      · exact ⟨hold p.1 (hkeys ▸ List.mem_map_of_mem (f := (·.1)) hp), hr p hp⟩
      · obtain ⟨y, x, hx, r⟩ := S.nw p (List.mem_append_right _ hp)
        refine ⟨y, x, hk _ _ (fun q => ?_) hx, r⟩
        exact (List.nodup_append.mp nd).2.2 _ q _ (List.mem_map_of_mem (f := (·.1)) hp) rfl
  · rw [List.map_cons, List.map_append, hkeys]
    refine List.nodup_cons.mpr ⟨?_, nd⟩
    have := S.fresh.2
    rw [List.map_append] at this
    exact this
theorem At.drop {K mg mb P F G O s} {rows N : List (Addr × OD)} (S : At K mg mb P F (rows ++ N) G O s) {h' : Heap} (hk : ∀ b o, b ∉ rows.map (·.1) → s.heap.get? b = some o → h'.get? b = some o) {dr : Drawn} {t : Nat} : At K mg mb P F N G O ⟨h', s.gens, dr, t, s.os⟩ := by
  have nd := S.nd
  rw [List.map_append] at nd
  refine ⟨S.top, fun b x eq => hk b x (fun q => ?_) (S.fz b x eq), fun p hp => ?_, (List.nodup_append.mp nd).2.1, S.gn, S.os⟩
  · obtain ⟨p, hp, rfl⟩ := List.mem_map.mp q
    rw [(S.nw p (List.mem_append_left _ hp)).1.2] at eq; cases eq
  · obtain ⟨y, x, hx, r⟩ := S.nw p (List.mem_append_right _ hp)
    refine ⟨y, x, hk _ _ (fun q => ?_) hx, r⟩
    exact (List.nodup_append.mp nd).2.2 _ q _ (List.mem_map_of_mem (f := (·.1)) hp) rfl
/-- what an iterator draws from -/
structure Src (X : Cx) (A : Around) (F : PH) (it : Addr) (n : Nat) (row : Nat → OD) (P : Nat → Value → Prop) (fp : List Addr) (St : Nat → Heap → Prop) : Prop where
  dr : Draws X.prog X.w A it fp n P St
  into : ∀ i h, (∀ a o, F a = some o → h.get? a = some o) → Has X.P h it (row i) → St i h
  out : ∀ i h, St i h → Has X.P h it (row i)
  foot : ∀ c ∈ fp, c = it ∨ ∃ o, F c = some o
theorem srcS {X : Cx} {A : Around} {F : PH} (hh : A.handled = none) (it : Addr) (x : Str) (t : Tok) : Src X A F it x.cps.size (fun i => itS x t i) (fun i v => ∃ c u, x.cps[i]? = some c ∧ v = .str ⟨#[c]⟩ u) [it] (fun i h => h.IsStrIter it (strIterType x) x t i) where
  dr := itS_draws hh it x t
  into := fun i h _ hr => hr
  out := fun i h hr => hr
  foot := fun c hc => .inl (List.mem_singleton.mp hc)
theorem srcL {X : Cx} {A : Around} {F : PH} (hh : A.handled = none) {it l : Addr} {vs : List Value} (hl : Fz X.P F l (.lst vs)) (hne : l ≠ it) : Src X A F it vs.length (fun i => itL l i) (fun i v => vs[i]? = some v) [it, l] (fun i h => h.IsListIter it l i ∧ h.IsList l vs.toArray) where
  dr := by
    have := Draws.list (prog := X.prog) (w := X.w) hh it l hne vs.toArray
    simpa using this
  into := fun i h hf hr => by
    obtain ⟨_, o, ho, ok⟩ := hl
    exact ⟨hr, Has.isList ⟨o, hf _ _ ho, ok⟩⟩
  out := fun i h hr => hr.1
  foot := fun c hc => by
    rcases List.mem_cons.mp hc with rfl | hc
    · exact .inl rfl
    · rw [List.mem_singleton.mp hc]; exact .inr (let ⟨_, o, ho, _⟩ := hl; ⟨o, ho⟩)
section
variable {X : Cx} {A : Around} {l : Led} {env : Env} {F F' : PH} {N N1 N2 N3 N4 N5 N' : List (Addr × OD)} {G : Array GenState} {R : Value → Led → Prop} {RO : Option Value → Led → Prop} {RU : Unit → Led → Prop} {x : Str} {t : Tok}
theorem zap_of {K mg mb P F G O s} {z TI TO i1 i2 : Addr} {D1 D2 D3 D4 D5 : OD} {N : List (Addr × OD)} (S : At K mg mb P F ((z, D1) :: (TO, D2) :: (TI, D3) :: (i2, D4) :: (i1, D5) :: N) G O s) {fp1 fp2 : List Addr} (f1 : ∀ c ∈ fp1, c = i1 ∨ ∃ o, F c = some o) (f2 : ∀ c ∈ fp2, c = i2 ∨ ∃ o, F c = some o) : ZAp z TI TO i1 i2 fp1 fp2 := by
  have nd := S.nd
  simp only [List.map_cons, List.nodup_cons, List.mem_cons, not_or] at nd
  obtain ⟨⟨a1, a2, a3, a4, _⟩, ⟨b1, b2, b3, _⟩, ⟨c1, c2, _⟩, ⟨d1, _⟩, _⟩ := nd
  have fz : F z = none := (S.nw (z, D1) (by simp)).1.2
  have fT : F TO = none := (S.nw (TO, D2) (by simp)).1.2
  have f2' : F i2 = none := (S.nw (i2, D4) (by simp)).1.2
  have f1' : F i1 = none := (S.nw (i1, D5) (by simp)).1.2
  have k : ∀ {c i : Addr} {fp : List Addr}, (∀ c ∈ fp, c = i ∨ ∃ o, F c = some o) → F c = none → c ≠ i → c ∉ fp := fun h hn hne hc => by
    rcases h _ hc with rfl | ⟨o, ho⟩
    · exact hne rfl
    · rw [hn] at ho; cases ho
  exact ⟨a2, a1, a4, a3, Ne.symm b1, c2, c1, b3, b2, Ne.symm d1, k f1 fz a4, k f2 fz a3, k f1 fT b3, k f2 fT b2, k f2 f1' (Ne.symm d1), k f1 f2' d1⟩
theorem raw_is {P : Params} {h : Heap} {a : Addr} {o : Obj} (x : Has P h a (.raw o)) : h.get? a = some o := by
  obtain ⟨o', ho, q, _⟩ := x
  rw [q] at ho; exact ho
theorem t_nextZip {z TO TI i1 i2 : Addr} {n1 n2 k1 k2 : Nat} {r1 r2 : Nat → OD} {P1 P2 : Nat → Value → Prop} {fp1 fp2 : List Addr} {S1 S2 : Nat → Heap → Prop} {a b : Value} (s1 : Src X A.in1 F i1 n1 r1 P1 fp1 S1) (s2 : Src X A.in1 F i2 n2 r2 P2 fp2 S2)
    (l1 : k1 < n1) (l2 : k2 < n2)
    (h : ∀ t x y, P1 k1 x → P2 k2 y → RO (some (.ref t)) ⟨F, (t, .tup [x, y]) :: (z, zipX t TI TO) :: (TO, pairO x y) :: (TI, pairO (.ref i1) (.ref i2)) :: (i2, r2 (k2 + 1)) :: (i1, r1 (k1 + 1)) :: N, G⟩) :
    Tr X A ⟨F, (z, zipO TI TO) :: (TO, pairO a b) :: (TI, pairO (.ref i1) (.ref i2)) :: (i2, r2 k2) :: (i1, r1 k1) :: N, G⟩ (pyNext (.ref z)) RO := fun s E S => by
  have D := zap_of S s1.foot s2.foot
  have hz : IsZip s.heap z TI TO .none := raw_is (S.led (a := z) (by simp))
  have hTO : IsPair s.heap TO a b := raw_is (S.led (a := TO) (by simp))
  have hTI : IsPair s.heap TI (.ref i1) (.ref i2) := raw_is (S.led (a := TI) (by simp))
  have h1 := s1.into k1 s.heap S.fz (S.led (a := i1) (by simp))
  have h2 := s2.into k2 s.heap S.fz (S.led (a := i2) (by simp))
  have hT : s.TypeIs (.ref z) "zip" := ⟨_, hz, rfl⟩
  unfold pyNext
  refine wpAny_bind (wpAny_attempt (wpAny_callSpecial?_slot (name := Str.ofString "__next__") hT PySem.F.slot_zip_next
    (wpAny_call_entry PySem.F.slot_zip_next hT PySem.F.entry_zip_next
      (zip_nextD D s1.dr s2.dr hz hTI hTO h1 h2 l1 l2 fun x y h' tk p1 p2 q1 q2 q3 q4 q5 q6 q7 => wpAny_pure ?_) (PySem.F.args_zip_next_1 _))))
  refine ⟨_, At.turn (rows := (z, zipO TI TO) :: (TO, pairO a b) :: (TI, pairO (.ref i1) (.ref i2)) :: (i2, r2 k2) :: (i1, r1 k1) :: [])
    (rows' := (z, zipX s.heap.objs.size TI TO) :: (TO, pairO x y) :: (TI, pairO (.ref i1) (.ref i2)) :: (i2, r2 (k2 + 1)) :: (i1, r1 (k1 + 1)) :: []) (Dn := .tup [x, y]) S rfl (fun c o hc e => ?_) (fun p hp => ?_) ⟨_, q5, rfl, rfl, 0, rfl⟩, h _ x y p1 p2⟩
  · simp only [List.map_cons, List.map_nil, List.mem_cons, List.not_mem_nil, or_false, not_or] at hc
    exact q7 c o hc.1 hc.2.1 hc.2.2.2.2 hc.2.2.2.1 e
  · simp only [List.mem_cons, List.not_mem_nil, or_false] at hp
    rcases hp with rfl | rfl | rfl | rfl | rfl
    · exact ⟨_, q1, rfl, rfl⟩
    · exact ⟨_, q2, rfl, rfl⟩
    · exact ⟨_, q7 _ _ (Ne.symm D.zTI) D.TITO D.TIi1 D.TIi2 hTI, rfl, rfl⟩
    · exact s2.out _ _ q4
    · exact s1.out _ _ q3
theorem t_nextZipEnd {z TO TI i1 i2 : Addr} {n1 : Nat} {r1 : Nat → OD} {P1 : Nat → Value → Prop} {fp1 : List Addr} {S1 : Nat → Heap → Prop} {a b : Value} {D4 : OD} (s1 : Src X A.in1 F i1 n1 r1 P1 fp1 S1) (h : RO none ⟨F, N, G⟩) :
    Tr X A ⟨F, (z, zipO TI TO) :: (TO, pairO a b) :: (TI, pairO (.ref i1) (.ref i2)) :: (i2, D4) :: (i1, r1 n1) :: N, G⟩ (pyNext (.ref z)) RO := fun s E S => by
  have D := zap_of (fp2 := []) S s1.foot (fun c hc => nomatch hc)
  have hz : IsZip s.heap z TI TO .none := raw_is (S.led (a := z) (by simp))
  have hTI : IsPair s.heap TI (.ref i1) (.ref i2) := raw_is (S.led (a := TI) (by simp))
  have h1 := s1.into n1 s.heap S.fz (S.led (a := i1) (by simp))
  have hT : s.TypeIs (.ref z) "zip" := ⟨_, hz, rfl⟩
  unfold pyNext
  refine wpAny_bind (wpAny_attempt (wpAny_callSpecial?_slot (name := Str.ofString "__next__") hT PySem.F.slot_zip_next
    (wpAny_call_entry PySem.F.slot_zip_next hT PySem.F.entry_zip_next (zip_endD D.zi1 D.zf1 s1.dr hz hTI h1 fun h' e hk he => ?_) (PySem.F.args_zip_next_1 _))))
  obtain ⟨o, ho, hc⟩ := he
  refine wpAny_bind (wpAny_isInstance (T := "StopIteration") (b := true) ⟨o, ho, hc⟩ isSubtype_stop ?_)
  refine wpAny_pure ⟨⟨F, N, G⟩, At.drop (rows := (z, zipO TI TO) :: (TO, pairO a b) :: (TI, pairO (.ref i1) (.ref i2)) :: (i2, D4) :: (i1, r1 n1) :: []) S fun c o hc' e => ?_, h⟩
  simp only [List.map_cons, List.map_nil, List.mem_cons, List.not_mem_nil, or_false, not_or] at hc'
  exact hk c o hc'.1 hc'.2.2.2.2 e
end
end Mine

namespace Mine
section
variable {X : Cx} {A : Around} {l : Led} {env : Env} {F F' : PH} {N N1 N2 N' : List (Addr × OD)} {G : Array GenState} {R : Value → Led → Prop} {RF : Flow → Led → Prop} {x : Str} {t : Tok}
theorem t_addT {a b : Addr} {v w : Value} {vs ws : List Value} (ha : Kn X ⟨F, N, G⟩ a (.tup (v :: vs))) (hb : Kn X ⟨F, N, G⟩ b (.tup (w :: ws))) (hz : vs.length + ws.length ≤ 1000000) (h : ∀ c, R (.ref c) ⟨F, (c, .tup ((v :: vs) ++ (w :: ws))) :: N, G⟩) :
    Tr X A ⟨F, N, G⟩ (binaryOp .Add (.ref a) (.ref b)) R := fun s E S => by
  obtain ⟨⟨cls, dd, data, sl⟩, ho, hc, n, hd⟩ := (ha.has S).isTup
  obtain ⟨⟨cls2, dd2, data2, sl2⟩, ho2, hc2, n2, hd2⟩ := (hb.has S).isTup
  simp only at hc hd hc2 hd2
  subst hc hd hc2 hd2
  have e : (v :: vs).toArray ++ (w :: ws).toArray = ((v :: vs) ++ (w :: ws)).toArray := by simp
  refine concat_meets ⟨_, ho, rfl⟩ ⟨_, ho2, rfl⟩ noFill_tuple_add seq_tuple_add PySem.F.slot_tuple_add PySem.F.entry_tuple_add (PySem.F.args_tuple_add_2 _ _)
    (tuple_addW2 a b (v :: vs).toArray (w :: ws).toArray n n2 dd dd2 sl sl2 (by simp) (by simp) (by simp [sizeLine]; omega)) ⟨ho, ho2, ?_⟩
  rw [e]
  exact ⟨⟨F, (s.heap.objs.size, .tup ((v :: vs) ++ (w :: ws))) :: N, G⟩, At.allocT S (D := .tup ((v :: vs) ++ (w :: ws))) ⟨rfl, rfl, 0, rfl⟩, h _⟩
theorem cs_gen {elt target iter : Expr} {ifs : List Expr} {rest : List Comprehension} {scope : Scope} {pos : Pos} {acc : Value} {ga : Addr} {g : Nat} {nm qn : Str} {t u : Tok} (hi : (ga, genO g nm qn t u) ∈ N) (h : Cl X A ⟨F, N, G⟩ (.compLoop (.ListComp elt (⟨target, iter, ifs, 0⟩ :: rest) scope pos) 0 (.ref ga) acc env) RF) :
    Cl X A ⟨F, N, G⟩ (.compStart (.ListComp elt (⟨target, iter, ifs, 0⟩ :: rest) scope pos) 0 (.ref ga) acc env) RF := cl_compStart h (t_iterGen hi h)
end
end Mine
namespace Mine
section
variable {X : Cx} {A : Around} {l : Led} {env : Env} {F F' : PH} {N N1 N2 N' : List (Addr × OD)} {G : Array GenState}
theorem t_unpack {a : Addr} {vs : List Value} {n : Nat} {R : List Value → Led → Prop} (hh : A.handled = none) (ha : Kn X l a (.tup vs)) (hn : n = vs.length) (h : R vs l) : Tr X A l (unpackItems (.ref a) n none) R := fun s E S => by
  subst hn
  have e : vs.length = vs.toArray.size := by simp
  rw [e]
  exact unpackItems_tuple hh (ha.has S).isTup fun h' ex => ⟨l, At.keep0 S fun b o hb => ex b o (Nat.ne_of_lt (Heap.lt_size hb)) hb, by simpa using h⟩
/-- names bound one by one -/
def TrNm (X : Cx) (A : Around) (env : Env) (R : Led → Prop) : List Str → List Value → Led → Prop
  | x :: xs, v :: vs, l => Tr X A l (storeName env x v) fun _ l' => TrNm X A env R xs vs l'
  | _, _, l => R l
theorem trNm_cons {x : Str} {xs : List Str} {v : Value} {vs : List Value} {R : Led → Prop} (h : Tr X A l (storeName env x v) fun _ l' => TrNm X A env R xs vs l') : TrNm X A env R (x :: xs) (v :: vs) l := h
theorem trNm_nil {R : Led → Prop} (h : R l) : TrNm X A env R [] [] l := h
theorem trNm_order {R : Unit → Led → Prop} : ∀ {xs : List Str} {vs : List Value} {l : Led}, xs.length = vs.length → TrNm X A env (R ()) xs vs l → Tr X A l (assignInOrder (xs.map fun n => bindName env n) vs) R
  | [], [], l, _, h => fun s E S => wpAny_pure ⟨l, S, h⟩
  | x :: xs, v :: vs, l, hl, h => fun s E S => wpAny_bind (wpAny_holding (wpAny_bindName (Tr.use h S fun _ s' l' S' h' => trNm_order (Nat.succ.inj hl) h' s' E S')))
theorem t_AssignTupSw' {elts : List Expr} {k : Nat} {tpos pos : Pos} {value : Expr} {names : List Str} {RF : Flow → Led → Prop} (hw : swappedStores [.Tuple elts k tpos] value env = pure (some names)) (hs : swapsWithSole [.Tuple elts k tpos] value pos.line env = pure false) (hh : A.handled = none)
    (h : Tr X A l (eval value env) fun v l1 => ∃ a vs, v = .ref a ∧ Kn X l1 a (.tup vs) ∧ names.length = vs.length ∧ TrNm X A env (RF .next) names.reverse vs.reverse l1) : Tr X A l (exec (.Assign [.Tuple elts k tpos] value pos) env) RF := by
  refine t_AssignTupSw (h.mono fun v l1 ⟨a, vs, e, ha, hn, h1⟩ => ?_) hs hw
  subst e
  exact t_unpack hh ha hn (trNm_order (by simpa using hn) h1)
end
end Mine

namespace Mine
variable {mg mb : Str → Option Value} {O : OsState} {A : Around} {F F' : PH} {N : List (Addr × OD)} {G : Array GenState}
theorem tr_perm {α : Type} {X : Cx} {N' : List (Addr × OD)} {t : Sem α} {R : α → Led → Prop} (p : N'.Perm N) (h : Tr X A ⟨F, N', G⟩ t R) : Tr X A ⟨F, N, G⟩ t R := fun s E S => h s E (At.perm S p)
theorem cl_perm {X : Cx} {N' : List (Addr × OD)} {c : Code} {R : Flow → Led → Prop} (p : N'.Perm N) (h : Cl X A ⟨F, N', G⟩ c R) : Cl X A ⟨F, N, G⟩ c R := fun s R' S => h s R' (At.perm S p)
theorem Kn.any {X : Cx} {G' : Array GenState} {a : Addr} {D : OD} (h : Kn X ⟨F, [], G'⟩ a D) : Kn X ⟨F, N, G⟩ a D := h.elim .inl fun h => h.elim (fun h => nomatch h) fun h => .inr (.inr h)
theorem AllBare.psh {x : GenState} (h : AllBare G) (hx : x.bare = true) : AllBare (G.push x) := AllBare.push h hx
theorem push_at {x : GenState} : (G.push x)[G.size]? = some x := by simp
theorem t_lenF' {X : Cx} {c : Addr} {vs : List Value} {R : Value → Led → Prop} (ha : FzL F c vs) (hz : vs.length ≤ 1000000) (h : ∀ t, R (.int vs.length t) ⟨F, N, G⟩) : Tr X A ⟨F, N, G⟩ (call (.builtin "len") [.ref c]) R := t_lenF ha hz h
theorem t_subF' {X : Cx} {value slice : Expr} {i : Value} {ops : List Value} {c : Addr} {vs : List Value} {R : Value → Led → Prop} (ha : FzL F c vs) (hs : subscripted slice false (.ref c) i = operate ops (getItem (.ref c) i)) (h : Tr X A ⟨F, N, G⟩ (getItem (.ref c) i) R) :
    Tr X A ⟨F, N, G⟩ (subscriptTail value slice (.ref c) i) R := t_subF ha hs h
theorem t_itemF' {X : Cx} {i : Int} {u : Tok} {c : Addr} {vs : List Value} {v : Value} {R : Value → Led → Prop} (ha : FzL F c vs) (hi : 0 ≤ i) (hz : i < 2 ^ 63) (hv : vs[i.toNat]? = some v) (h : R v ⟨F, N, G⟩) : Tr X A ⟨F, N, G⟩ (getItem (.ref c) (.int i u)) R := t_itemF ha hi hz hv h
theorem cl_freezeL {X : Cx} {c : Code} {R : Flow → Led → Prop} : ∀ {rows : List (Addr × OD)} {F : PH}, (∀ F', F.le F' → (∀ p ∈ rows, Fz X.P F' p.1 p.2) → Cl X A ⟨F', N, G⟩ c R) → Cl X A ⟨F, rows ++ N, G⟩ c R
  | [], F, h => h F (PH.le_refl F) fun p hp => nomatch hp
  | (a, D) :: rows, F, h => cl_freeze (N' := rows ++ N) .head fun F1 l1 f1 => cl_freezeL fun F2 l2 f2 => h F2 (PH.le_trans l1 l2) fun p hp => by
    rcases List.mem_cons.mp hp with rfl | hp
    · exact f1.mono l2
    · exact f2 p hp
theorem tr_freezeL {α : Type} {X : Cx} {t : Sem α} {R : α → Led → Prop} : ∀ {rows : List (Addr × OD)} {F : PH}, (∀ F', F.le F' → (∀ p ∈ rows, Fz X.P F' p.1 p.2) → Tr X A ⟨F', N, G⟩ t R) → Tr X A ⟨F, rows ++ N, G⟩ t R
  | [], F, h => h F (PH.le_refl F) fun p hp => nomatch hp
  | (a, D) :: rows, F, h => tr_freeze (N' := rows ++ N) .head fun F1 l1 f1 => tr_freezeL fun F2 l2 f2 => h F2 (PH.le_trans l1 l2) fun p hp => by
    rcases List.mem_cons.mp hp with rfl | hp
    · exact f1.mono l2
    · exact f2 p hp
theorem Ints.inv {n : Int} {ns : List Int} {vs : List Value} (h : Ints (n :: ns) vs) : ∃ t vs', vs = .int n t :: vs' ∧ Ints ns vs' := by
  cases h with
  | cons h => exact ⟨_, _, rfl, h⟩
theorem tr_get {α : Type} {X : Cx} {l : Led} {P : Prop} {t : Sem α} {R : α → Led → Prop} (hp : ∀ s, X.At l s → P) (h : P → Tr X A l t R) : Tr X A l t R := fun s E S => h (hp s S) s E S
theorem fz_ne {X : Cx} {s : Shared} {P : Params} {a b : Addr} {D D' : OD} (S : X.At ⟨F, N, G⟩ s) (ha : Fz P F a D) (hb : (b, D') ∈ N) : a ≠ b := by
  rintro rfl
  obtain ⟨_, o, ho, _⟩ := ha
  have : F a = none := (S.nw _ hb).1.2
  rw [ho] at this
  cases this
theorem t_nextZipSL {X : Cx} {RO : Option Value → Led → Prop} {z TO TI i1 i2 l : Addr} {x : Str} {tk : Tok} {vs : List Value} {j : Nat} {a b v : Value} {c : Nat} (hh : A.handled = none) (hl : Fz X.P F l (.lst vs)) (l1 : x.cps[j]? = some c) (l2 : vs[j]? = some v)
    (h : ∀ t u, RO (some (.ref t)) ⟨F, (t, .tup [.str ⟨#[c]⟩ u, v]) :: (z, zipX t TI TO) :: (TO, pairO (.str ⟨#[c]⟩ u) v) :: (TI, pairO (.ref i1) (.ref i2)) :: (i2, itL l (j + 1)) :: (i1, itS x tk (j + 1)) :: N, G⟩) :
    Tr X A ⟨F, (z, zipO TI TO) :: (TO, pairO a b) :: (TI, pairO (.ref i1) (.ref i2)) :: (i2, itL l j) :: (i1, itS x tk j) :: N, G⟩ (pyNext (.ref z)) RO :=
  tr_get (fun s S => fz_ne S hl (b := i2) (D' := itL l j) (by simp)) fun hne =>
  t_nextZip (srcS (A := A.in1) hh i1 x tk) (srcL (A := A.in1) hh hl hne) (Array.getElem?_eq_some_iff.mp l1).1 (List.getElem?_eq_some_iff.mp l2).1 fun t v1 v2 h1 h2 => by
    obtain ⟨c', u, e1, rfl⟩ := h1
    obtain rfl : c = c' := Option.some.inj (l1.symm.trans e1)
    obtain rfl : v = v2 := Option.some.inj (l2.symm.trans h2)
    exact h t u
theorem t_nextZipLL {X : Cx} {RO : Option Value → Led → Prop} {z TO TI i1 i2 l l' : Addr} {vs ws : List Value} {j : Nat} {a b v w : Value} (hh : A.handled = none) (hl' : Fz X.P F l' (.lst ws)) (hl : Fz X.P F l (.lst vs)) (l1 : ws[j]? = some w) (l2 : vs[j]? = some v)
    (h : ∀ t, RO (some (.ref t)) ⟨F, (t, .tup [w, v]) :: (z, zipX t TI TO) :: (TO, pairO w v) :: (TI, pairO (.ref i1) (.ref i2)) :: (i2, itL l (j + 1)) :: (i1, itL l' (j + 1)) :: N, G⟩) :
    Tr X A ⟨F, (z, zipO TI TO) :: (TO, pairO a b) :: (TI, pairO (.ref i1) (.ref i2)) :: (i2, itL l j) :: (i1, itL l' j) :: N, G⟩ (pyNext (.ref z)) RO :=
  tr_get (fun s S => And.intro (fz_ne S hl (b := i2) (D' := itL l j) (by simp)) (fz_ne S hl' (b := i1) (D' := itL l' j) (by simp))) fun hne =>
  t_nextZip (srcL (A := A.in1) hh hl' hne.2) (srcL (A := A.in1) hh hl hne.1) (List.getElem?_eq_some_iff.mp l1).1 (List.getElem?_eq_some_iff.mp l2).1 fun t v1 v2 h1 h2 => by
    obtain rfl : w = v1 := Option.some.inj (l1.symm.trans h1)
    obtain rfl : v = v2 := Option.some.inj (l2.symm.trans h2)
    exact h t
theorem t_nextZipEndS {X : Cx} {RO : Option Value → Led → Prop} {z TO TI i1 i2 : Addr} {x : Str} {tk : Tok} {j : Nat} {a b : Value} {D4 : OD} (hh : A.handled = none) (hj : j = x.cps.size) (h : RO none ⟨F, N, G⟩) :
    Tr X A ⟨F, (z, zipO TI TO) :: (TO, pairO a b) :: (TI, pairO (.ref i1) (.ref i2)) :: (i2, D4) :: (i1, itS x tk j) :: N, G⟩ (pyNext (.ref z)) RO := by
  subst hj
  exact t_nextZipEnd (srcS (A := A.in1) hh i1 x tk) h
theorem t_nextZipEndL {X : Cx} {RO : Option Value → Led → Prop} {z TO TI i1 i2 l' : Addr} {ws : List Value} {j : Nat} {a b : Value} {D4 : OD} (hh : A.handled = none) (hl' : Fz X.P F l' (.lst ws)) (hj : j = ws.length) (h : RO none ⟨F, N, G⟩) :
    Tr X A ⟨F, (z, zipO TI TO) :: (TO, pairO a b) :: (TI, pairO (.ref i1) (.ref i2)) :: (i2, D4) :: (i1, itL l' j) :: N, G⟩ (pyNext (.ref z)) RO := by
  subst hj
  exact tr_get (fun s S => fz_ne S hl' (b := i1) (D' := itL l' ws.length) (by simp)) fun hne => t_nextZipEnd (srcL (A := A.in1) hh hl' hne) h
end Mine

namespace Mine
variable {X : Cx} {A : Around} {l : Led} {env : Env} {F F' : PH} {N N' : List (Addr × OD)} {G : Array GenState}
/-! what a value reads as -/
def RdsIn (X : Cx) (l : Led) (v : Value) (d : PyData) : Prop := ∀ s, X.At l s → ∃ as, Reads s.heap v d as
theorem t_eqRd {v w : Value} {d e : PyData} {R : Value → Led → Prop} (hv : RdsIn X l v d) (hw : RdsIn X l w e) (c1 : d.canLay0 = true) (c2 : e.canLay0 = true) (hu : A.units + min d.depth e.depth < cLine) (h : R (.bool (PyData.eqv d e)) l) : Tr X A l (compareOp .Eq v w) R := fun s E S => by
  obtain ⟨as, ra⟩ := hv s S
  obtain ⟨bs, rb⟩ := hw s S
  exact SeqAt.rcAt_reads ra rb c1 c2 hu _ _ E _ ⟨l, S, h⟩
theorem t_notInRd {v w : Value} {xs : List PyData} {d : PyData} {R : Value → Led → Prop} (hw : RdsIn X l w (.list xs)) (hv : RdsIn X l v d) (c1 : PyData.canLayAll0 xs = true) (c2 : d.canLay0 = true) (hu : A.units + 1 + min (PyData.depthAll xs) d.depth < cLine)
    (h : R (.bool (!xs.any fun y => PyData.eqv y d)) l) : Tr X A l (compareOp .NotIn v w) R := fun s E S => by
  obtain ⟨as, ra⟩ := hv s S
  obtain ⟨bs, rb⟩ := hw s S
  exact SeqAt.notIn_list_reads rb ra c1 c2 hu ⟨l, S, h⟩
theorem t_pow {a b : Int} {t u : Tok} {R : Value → Led → Prop} (ha : a = 2 ∨ a = 3) (hb : 0 ≤ b) (hz : b ≤ 1000) (h : ∀ t, R (.int (a ^ b.toNat) t) l) : Tr X A l (binaryOp .Pow (.int a t) (.int b u)) R := fun s E S => by
  by_cases h0 : b = 0
  · subst h0
    exact PySem.AutoIntOps.pow_0 (by decide) (by decide) ⟨l, S.same rfl rfl rfl, by have := h s.toks; simpa using this⟩
  · refine PySem.AutoIntOps.pow_4 hb (by simpa using h0) (by rcases ha with rfl | rfl <;> decide) (by rcases ha with rfl | rfl <;> decide) ?_ ⟨l, S.same rfl rfl rfl, h _⟩
    have e : Builtin.Int.intBits a = 2 := by rcases ha with rfl | rfl <;> decide +kernel
    have hl : (bitsLine : Int) = 134217728 := by decide
    rw [e]
    unfold Builtin.Int.intTooBig
    simp only [decide_eq_true_eq]
    omega
def RdsAll (X : Cx) (l : Led) (vs : List Value) (ds : List PyData) : Prop := ∀ s, X.At l s → ∃ as, ReadsAll s.heap vs ds as
theorem rds_int {i : Int} {t : Tok} : RdsIn X l (.int i t) (.int i) := fun s S => ⟨_, .int i t⟩
theorem rds_str {x : Str} {t : Tok} : RdsIn X l (.str x t) (.str x) := fun s S => ⟨_, .str x t⟩
theorem rdsA_nil : RdsAll X l [] [] := fun s S => ⟨_, .nil⟩
theorem rdsA_cons {v : Value} {d : PyData} {vs : List Value} {ds : List PyData} (a : RdsIn X l v d) (b : RdsAll X l vs ds) : RdsAll X l (v :: vs) (d :: ds) := fun s S => let ⟨_, x⟩ := a s S; let ⟨_, y⟩ := b s S; ⟨_, .cons x y⟩
theorem rds_tup {a : Addr} {vs : List Value} {ds : List PyData} (ha : Kn X l a (.tup vs)) (h : RdsAll X l vs ds) : RdsIn X l (.ref a) (.tuple ds) := fun s S => by
  obtain ⟨o, ho, hc, _, n, hd⟩ := ha.has S
  obtain ⟨as, r⟩ := h s S
  exact ⟨_, .tuple ho hc hd (by simpa using r)⟩
theorem rds_lst {a : Addr} {vs : List Value} {ds : List PyData} (ha : Kn X l a (.lst vs)) (h : RdsAll X l vs ds) : RdsIn X l (.ref a) (.list ds) := fun s S => by
  obtain ⟨o, ho, hc, _, n, hd⟩ := ha.has S
  obtain ⟨as, r⟩ := h s S
  exact ⟨_, .list ho hc hd (by simpa using r)⟩
theorem rdsA_strs {xs : List Str} {vs : List Value} (h : Strs xs vs) : RdsAll X l vs (xs.map .str) := by
  induction h with
  | nil => exact rdsA_nil
  | cons _ ih => exact rdsA_cons rds_str ih
theorem t_setItemL {a : Addr} {vs : List Value} {i : Int} {t : Tok} {v : Value} {R : Unit → Led → Prop} (ha : (a, OD.lst vs) ∈ N) (h0 : 0 ≤ i) (hz : i < 2 ^ 63) (hn : i < vs.length) (u : LUpd N a (.lst (vs.set i.toNat v)) N') (h : R () ⟨F, N', G⟩) :
    Tr X A ⟨F, N, G⟩ (setItem (.ref a) (.int i t) v) R := fun s E S => by
  obtain ⟨o, ho, hc, hdn, n, hd⟩ := S.led ha
  have hl : s.heap.IsList a vs.toArray := ⟨o, ho, hc, n, hd⟩
  obtain ⟨n', hd'⟩ := Obj.data_mapSeq hd (·.setIfInBounds i.toNat v)
  have fin : ∃ l' : Led, X.At l' { s with heap := s.heap.update a (Obj.mapSeq (·.setIfInBounds i.toNat v)) } ∧ R () l' := by
    refine ⟨⟨F, N', G⟩, S.updT u (Heap.SameBut.update ..) ⟨_, Heap.get?_update_self _ ho (Obj.isFreed_of_seq hd'), ?_⟩, h⟩
    refine ⟨(Obj.cls_mapSeq ..).trans hc, ?_, n', by rw [hd']; simp⟩
    obtain ⟨c, d, dt, sl⟩ := o
    subst hd
    exact hdn
  unfold setItem
  with_reducible refine wpAny_holding ?_
  first | refine wpAny_bind (wpAny_pure ?_) | skip
  refine wpAny_bind (wpAny_sequenceKey hl.typeIs (by decide) ?_)
  refine wpAny_bind (wpAny_callSpecial?_slot (name := Str.ofString "__setitem__") hl.typeIs slot_list_setitem (wpAny_call_entry slot_list_setitem hl.typeIs entry_list_setitem ?_ (args_list_setitem _ _ _)))
  show wpAny _ _ (Builtin.List.listSubscript? (.int i t) >>= _) _ _ s
  refine wpAny_bind (wpAny_listSubscript_int (fitsIndex_of h0 hz) ?_)
  clear hz
  obtain ⟨j, rfl⟩ := Int.eq_ofNat_of_zero_le h0
  have hj : j < vs.toArray.size := by simp; omega
  show wpAny _ _ ((seqItemAt a j >>= fun r => pure (r.map (j, ·))) >>= _) _ _ s
  refine wpAny_bind (wpAny_bind (wpAny_seqItemAt ho hd (wpAny_pure ?_)))
  rw [Array.getElem?_eq_getElem hj]
  show wpAny _ _ (setSeqItemAt a j v >>= _) _ _ s
  refine wpAny_bind (wpAny_setSeqItemAt ho hd ?_)
  first
    | exact wpAny_bind (wpAny_pure (wpAny_pure ⟨.none, rfl, wpAny_pure fin⟩))
    | exact wpAny_pure ⟨.none, rfl, wpAny_pure fin⟩
end Mine

namespace Mine
variable {X : Cx} {A : Around} {l : Led} {env : Env} {F F' : PH} {N N' : List (Addr × OD)} {G : Array GenState}
theorem compTurn_two0 (elt t1 i1 t2 i2 : Expr) (scope : Scope) (pos : Pos) (it acc : Value) (env : Env) :
    compTurn (.ListComp elt [⟨t1, i1, [], 0⟩, ⟨t2, i2, [], 0⟩] scope pos) 0 it acc env = (standAt i1.pos >>= fun _ => pyNext it >>= fun r => match r with
      | none => pure (.done .next)
      | some v => letOwnedTupleGo t1 it v >>= fun _ => assign t1 env v >>= fun _ =>
        (eval i2 env >>= fun x => standAt i2.pos >>= fun _ => foldedSetIterable i2 env x >>= fun x => holding [x] (pyIter x) >>= fun y =>
          runOwn (.compStart (.ListComp elt [⟨t1, i1, [], 0⟩, ⟨t2, i2, [], 0⟩] scope pos) 1 y acc env) env >>= fun _ => again (.compLoop (.ListComp elt [⟨t1, i1, [], 0⟩, ⟨t2, i2, [], 0⟩] scope pos) 0 it acc env))) := by rfl
theorem compTurn_two1 (elt t1 i1 t2 i2 : Expr) (scope : Scope) (pos : Pos) (it acc : Value) (env : Env) :
    compTurn (.ListComp elt [⟨t1, i1, [], 0⟩, ⟨t2, i2, [], 0⟩] scope pos) 1 it acc env = (standAt i2.pos >>= fun _ => pyNext it >>= fun r => match r with
      | none => pure (.done .next)
      | some v => letOwnedTupleGo t2 it v >>= fun _ => assign t2 env v >>= fun _ =>
        (eval elt env >>= fun x => call (.builtin "list.append") [acc, x] >>= fun _ => pure ()) >>= fun _ =>
          again (.compLoop (.ListComp elt [⟨t1, i1, [], 0⟩, ⟨t2, i2, [], 0⟩] scope pos) 1 it acc env)) := by rfl
/-- the outer clause -/
theorem cl_two0 {elt t1 i1 t2 i2 : Expr} {scope : Scope} {pos : Pos} {it acc : Value} {R : Flow → Led → Prop} (hs : ∀ x, foldedSetIterable i2 env x = pure x)
    (h : Tr X A l (pyNext it) fun r l1 => match r with
      | none => R .next l1
      | some v => Tr X A l1 (letOwnedTupleGo t1 it v) fun _ l2 => Tr X A l2 (assign t1 env v) fun _ l3 => Tr X A l3 (eval i2 env) fun x l4 => Tr X A l4 (pyIter x) fun y l5 =>
          Cl X A l5 (.compStart (.ListComp elt [⟨t1, i1, [], 0⟩, ⟨t2, i2, [], 0⟩] scope pos) 1 y acc env) fun _ l6 => Cl X A l6 (.compLoop (.ListComp elt [⟨t1, i1, [], 0⟩, ⟨t2, i2, [], 0⟩] scope pos) 0 it acc env) R) :
    Cl X A l (.compLoop (.ListComp elt [⟨t1, i1, [], 0⟩, ⟨t2, i2, [], 0⟩] scope pos) 0 it acc env) R := by
  intro s R' S k
  refine codeAny_of_tree ?_
  show wpAny _ _ ((compTurn (.ListComp elt [⟨t1, i1, [], 0⟩, ⟨t2, i2, [], 0⟩] scope pos) 0 it acc env).onRaise (fun x => do noteFrame x env; theTreesLotGoes x)) _ _ s
  refine wpAny_noted ?_
  rw [compTurn_two0]
  refine wpAny_bind (wpAny_standAt (wpAny_bind (h.use S fun r s1 l1 S1 h1 => ?_)))
  cases r with
  | none => exact wpAny_pure (k _ _ l1 S1 h1)
  | some v =>
    refine wpAny_bind (Tr.use h1 S1 fun _ s2 l2 S2 h2 => wpAny_bind (h2.use S2 fun _ s3 l3 S3 h3 => wpAny_bind (h3.use S3 fun x s4 l4 S4 h4 => wpAny_bind (wpAny_standAt ?_))))
    rw [hs]
    refine wpAny_bind (wpAny_pure (wpAny_bind (wpAny_holding (h4.use S4 fun y s5 l5 S5 h5 => wpAny_bind (wpAny_runOwn ?_)))))
    exact h5 s5 _ S5 fun f s6 l6 S6 h6 => wpAny_pure ⟨rfl, h6 s6 R' S6 k⟩
/-- the inner clause -/
theorem cl_two1 {elt t1 i1 t2 i2 : Expr} {scope : Scope} {pos : Pos} {it acc : Value} {R : Flow → Led → Prop}
    (h : Tr X A l (pyNext it) fun r l1 => match r with
      | none => R .next l1
      | some v => Tr X A l1 (letOwnedTupleGo t2 it v) fun _ l2 => Tr X A l2 (assign t2 env v) fun _ l3 => Tr X A l3 (eval elt env) fun x l4 => Tr X A l4 (call (.builtin "list.append") [acc, x]) fun _ l5 =>
          Cl X A l5 (.compLoop (.ListComp elt [⟨t1, i1, [], 0⟩, ⟨t2, i2, [], 0⟩] scope pos) 1 it acc env) R) :
    Cl X A l (.compLoop (.ListComp elt [⟨t1, i1, [], 0⟩, ⟨t2, i2, [], 0⟩] scope pos) 1 it acc env) R := by
  intro s R' S k
  refine codeAny_of_tree ?_
  show wpAny _ _ ((compTurn (.ListComp elt [⟨t1, i1, [], 0⟩, ⟨t2, i2, [], 0⟩] scope pos) 1 it acc env).onRaise (fun x => do noteFrame x env; theTreesLotGoes x)) _ _ s
  refine wpAny_noted ?_
  rw [compTurn_two1]
  refine wpAny_bind (wpAny_standAt (wpAny_bind (h.use S fun r s1 l1 S1 h1 => ?_)))
  cases r with
  | none => exact wpAny_pure (k _ _ l1 S1 h1)
  | some v =>
    refine wpAny_bind (Tr.use h1 S1 fun _ s2 l2 S2 h2 => wpAny_bind (h2.use S2 fun _ s3 l3 S3 h3 => wpAny_bind (wpAny_bind (h3.use S3 fun x s4 l4 S4 h4 => wpAny_bind (h4.use S4 fun _ s5 l5 S5 h5 => ?_)))))
    exact wpAny_pure (wpAny_pure ⟨rfl, h5 s5 R' S5 k⟩)
theorem cl_start2 {elt t1 i1 t2 i2 : Expr} {scope : Scope} {pos : Pos} {it acc : Value} {R : Flow → Led → Prop}
    (h0 : Cl X A l (.compLoop (.ListComp elt [⟨t1, i1, [], 0⟩, ⟨t2, i2, [], 0⟩] scope pos) 1 it acc env) R)
    (h : Tr X A l (pyIter it) fun it' l' => Cl X A l' (.compLoop (.ListComp elt [⟨t1, i1, [], 0⟩, ⟨t2, i2, [], 0⟩] scope pos) 1 it' acc env) R) :
    Cl X A l (.compStart (.ListComp elt [⟨t1, i1, [], 0⟩, ⟨t2, i2, [], 0⟩] scope pos) 1 it acc env) R := by
  intro s R' S k
  refine codeAny_of_tree ?_
  show wpAny _ _ ((compStart (.ListComp elt [⟨t1, i1, [], 0⟩, ⟨t2, i2, [], 0⟩] scope pos) 1 it acc env).onRaise (fun x => do noteFrame x env; standAt theWindowsPlace)) _ _ s
  refine wpAny_notedAt ?_
  unfold compStart
  show wpAny _ _ (ask >>= _) _ _ s
  refine wpAny_bind (wpAny_askSetting (wpAny_ite ?_))
  have hh := h.use S (E := fun x s' => notedBy X.M A env (fun x s' => R' (.error x) s') x s') (Q := fun it' s' => codeAny X.M A (.compLoop (.ListComp elt [⟨t1, i1, [], 0⟩, ⟨t2, i2, [], 0⟩] scope pos) 1 it' acc env) R' s') fun it' s' l' S' h' => h' s' R' S' k
  have h0 := h0 s R' S k
  split
  · first
      | exact wpAny_bind (wpAny_pure (wpAny_pure (And.intro rfl h0)))
      | exact wpAny_pure (And.intro rfl h0)
  · first
      | exact wpAny_bind (wpAny_rule (wpAny_bind (wpAny_standAt (wpAny_bind (wpAny_mono hh (fun it' s' h' => wpAny_pure (And.intro rfl h')) fun _ _ x => x)))))
      | (refine wpAny_bind (wpAny_rule ?_); show wpAny _ _ (standAt i2.pos >>= _) _ _ s; exact wpAny_bind (wpAny_standAt (wpAny_bind (wpAny_mono hh (fun it' s' h' => wpAny_pure (And.intro rfl h')) fun _ _ x => x))))
/-! a comprehension whose names are caught -/
theorem new_envK {K : Frag} {mg mb : Str → Option Value} {O : OsState} {prog : Program} {w : World} {E : Value → Shared → Prop} {s : Shared} {scope : Scope} {cl : List (Str × Addr)} {Q : Env → Shared → Prop}
    (S : At K mg mb w.params F N G O s) (h : ∀ C cs s', cs.length = (cellNames scope.names).length → At K mg mb w.params F (cellRows cs ((C, .ns []) :: N)) G O s' → Q { compEnvC scope (zipCells (cellNames scope.names) cs cl) C env with scope := scope } s') :
    wpAny (model prog w) A (newFunctionEnv scope env.globals cl [] env.qual none .none (some env)) Q E s := by
  unfold newFunctionEnv
  refine wpAny_bind (wpAny_alloc ?_)
  refine cells_loop (N := (s.heap.objs.size, .ns []) :: N) scope.names cl _ Q (S.alloc (D := .ns []) (s' := { s with heap := _ }) ?_ rfl rfl rfl) fun cs s' hl S' => ?_
  · exact ⟨List.nodup_nil, #[], 0, rfl, fun e he => by simp at he, fun p hp => nomatch hp⟩
  · exact binds_loop (β := Env) (env := { compEnvC scope (zipCells (cellNames scope.names) cs cl) s.heap.objs.size env with scope := scope }) (fun _ => pure { compEnvC scope (zipCells (cellNames scope.names) cs cl) s.heap.objs.size env with scope := scope }) Q [] (wpAny_pure (h _ cs s' hl S'))
theorem t_ListCompK {elt target iter : Expr} {ifs : List Expr} {rest : List Comprehension} {scope : Scope} {pos : Pos} {cl : List (Str × Addr)} {n : Nat} {R : Value → Led → Prop}
    (hclos : closureFor scope env = pure cl) (hkind : scope.kind = .function) (hnames : ∀ x ∈ scope.names, x.2 = .local → scope.names.lookup x.1 = some .local) (hc : (cellNames scope.names).length = n)
    (h : Tr X A l (eval iter env) fun x l1 => Tr X A l1 (pyIter x) fun it l2 => Opn l2 fun F N G => ∀ acc C, allC n ((C, .ns []) :: (acc, .lst []) :: N) fun cs N' => Cl X A ⟨F, N', G⟩ (.compStart (.ListComp elt (⟨target, iter, ifs, 0⟩ :: rest) scope pos) 0 it (.ref acc) (compEnvC scope (zipCells (cellNames scope.names) cs cl) C env))
      fun _ l3 => EndC C (R (.ref acc)) l3)
    (hs : ∀ x, foldedSetIterable iter env x = pure x) : Tr X A l (eval (.ListComp elt (⟨target, iter, ifs, 0⟩ :: rest) scope pos) env) R := by
  rw [eval_ListComp]
  intro s E S
  refine wpAny_comprehension_free (g := ⟨target, iter, ifs, 0⟩) rfl hs hclos hkind hnames (h.use S fun x s1 l1 S1 h1 => h1.use S1 fun it s2 l2 S2 h2 => ?_)
  refine wpAny_newList ?_
  refine new_envK (At.allocT S2 (D := .lst []) ⟨rfl, ⟨rfl, rfl⟩, 0, rfl⟩) fun C cs s4 hl S4 => ?_
  refine allCells_use (allC_all (h2 _ C)) cs (hl.trans hc) s4 _ S4 fun f s5 l5 S5 ⟨fr, N', r, q⟩ => ?_
  obtain ⟨m, hm⟩ := ns_of_row S5 (r.mem _ (.head _))
  exact ⟨m, hm, fun h' sb => ⟨⟨l5.F, N', l5.G⟩, At.but S5 r sb, q⟩⟩
theorem tc_neB {a b : Bool} {R : Value → Led → Prop} (h : R (.bool (a != b)) l) : Tr X A l (compareOp .NotEq (.bool a) (.bool b)) R := fun s E S => PyProof.Rows.ne_bool ⟨l, S, h⟩
end Mine
namespace Mine
theorem t_not {X : Cx} {A : Around} {l : Led} {v : Value} {R : Value → Led → Prop} (h : Tr X A l (truthy v) fun c l' => R (.bool (!c)) l') : Tr X A l (unaryOp .Not v) R := fun s E S => PyProof.Rows.not_of (h.use S fun c s' l' S' r => ⟨l', S', r⟩)
end Mine
namespace Mine
theorem cs2_range {X : Cx} {A : Around} {env : Env} {F : PH} {N : List (Addr × OD)} {G : Array GenState} {elt t1 i1 t2 i2 : Expr} {scope : Scope} {pos : Pos} {it : Addr} {acc : Value} {i n : Nat} {R : Flow → Led → Prop} (hi : (it, itN i n) ∈ N)
    (h : Cl X A ⟨F, N, G⟩ (.compLoop (.ListComp elt [⟨t1, i1, [], 0⟩, ⟨t2, i2, [], 0⟩] scope pos) 1 (.ref it) acc env) R) : Cl X A ⟨F, N, G⟩ (.compStart (.ListComp elt [⟨t1, i1, [], 0⟩, ⟨t2, i2, [], 0⟩] scope pos) 1 (.ref it) acc env) R :=
  cl_start2 h (t_iterRangeIter hi h)
end Mine

namespace Mine
/-! functions that a call makes -/
def BMain (mg : Str → Option Value) (F : PH) : Prop := ∃ bm ob, mg "__builtins__" = some (.ref bm) ∧ bm ≠ builtinsNs ∧ bm ≠ mainGlobals ∧ F bm = some ob ∧ ob.cls = .type "module" ∧ ob.dict = some builtinsNs ∧ ob.data = .plain
def CodeFz (F : PH) (c : Addr) (q : Str) : Prop := ∃ o vs t, F c = some o ∧ o.data = .fields vs ∧ vs[1]? = some (.str q t)
/-- the table of a def's codes -/
def TabSt (F : PH) (pos : Pos) (qual : Str) (ps : Array Value) : Prop := ps = #[] ∨ ∃ c', ps = #[rawInt pos.line, rawInt pos.col, .ref c'] ∧ CodeFz F c' qual
variable {X : Cx} {A : Around} {l : Led} {env : Env} {F F' : PH} {N N' : List (Addr × OD)} {G : Array GenState}
end Mine

namespace Mine
variable {X : Cx} {A : Around} {l : Led} {env : Env} {F F' : PH} {N N' : List (Addr × OD)} {G : Array GenState} {R : Value → Led → Prop} {t u : Tok}
/-- a number's digits -/
def dS (n : Nat) : Str := Str.ofString (toString (n : Int))
end Mine
namespace Mine
section
variable {X : Cx} {A : Around} {l : Led} {env : Env} {F F' : PH} {N N' : List (Addr × OD)} {G : Array GenState} {R : Value → Led → Prop} {t u : Tok}
def DUpd (d : Addr) (k : Str) (v : Value) (N : List (Addr × OD)) (P : List (Addr × OD) → Prop) : Prop := ∃ N3, (d, OD.dic []) ∈ N ∧ LUpd N d (.dic [(k, v)]) N3 ∧ P N3
end
end Mine

namespace Mine
noncomputable abbrev HK := hd03.heap_39
noncomputable abbrev pg := PySem.Challenge.pw_af5023_03
@[reducible] noncomputable def cx (w : World) (mg mb : Str → Option Value) (O : OsState) : Cx := ⟨HK w.params, mg, mb, pg, w, O⟩
variable {w : World} {mg mb : Str → Option Value} {O : OsState}
theorem g_TokenType_ : nsIn (cx w mg mb O).K mainGlobals "_TokenType" = some (some (.ref 83)) := by kernel_rfl!
theorem g_Token : nsIn (cx w mg mb O).K mainGlobals "Token" = some (some (.ref 89)) := by kernel_rfl!
theorem g_Whitespace : nsIn (cx w mg mb O).K mainGlobals "Whitespace" = some (some (.ref 93)) := by kernel_rfl!
theorem g_Error : nsIn (cx w mg mb O).K mainGlobals "Error" = some (some (.ref 97)) := by kernel_rfl!
theorem g_ALIASES_ : nsIn (cx w mg mb O).K mainGlobals "_ALIASES" = some (some (.ref 108)) := by kernel_rfl!
theorem g_string_to_tokentype : nsIn (cx w mg mb O).K mainGlobals "string_to_tokentype" = some (some (.ref 115)) := by kernel_rfl!
theorem g_Lexer : nsIn (cx w mg mb O).K mainGlobals "Lexer" = some (some (.ref 310)) := by kernel_rfl!
theorem g_include : nsIn (cx w mg mb O).K mainGlobals "include" = some (some (.ref 324)) := by kernel_rfl!
theorem g_inherit_ : nsIn (cx w mg mb O).K mainGlobals "_inherit" = some (some (.ref 345)) := by kernel_rfl!
theorem g_combined : nsIn (cx w mg mb O).K mainGlobals "combined" = some (some (.ref 366)) := by kernel_rfl!
theorem g_default : nsIn (cx w mg mb O).K mainGlobals "default" = some (some (.ref 446)) := by kernel_rfl!
theorem g_inherit_place : nsIn (cx w mg mb O).K mainGlobals "inherit_place" = some (some (.ref 494)) := by kernel_rfl!
theorem g_merged_tokendefs : nsIn (cx w mg mb O).K mainGlobals "merged_tokendefs" = some (some (.ref 501)) := by kernel_rfl!
theorem g_PlainMatch : nsIn (cx w mg mb O).K mainGlobals "PlainMatch" = some (some (.ref 624)) := by kernel_rfl!
theorem g_Plain : nsIn (cx w mg mb O).K mainGlobals "Plain" = some (some (.ref 651)) := by kernel_rfl!
theorem g_PlainLexer : nsIn (cx w mg mb O).K mainGlobals "PlainLexer" = some (some (.ref 672)) := by kernel_rfl!
theorem g_law_rest_ : nsIn (cx w mg mb O).K mainGlobals "_law_rest" = some (some (.ref 675)) := by kernel_rfl!
theorem g_law_told_ : nsIn (cx w mg mb O).K mainGlobals "_law_told" = some (some (.ref 680)) := by kernel_rfl!
theorem g_law : nsIn (cx w mg mb O).K mainGlobals "law" = some (some (.ref 685)) := by kernel_rfl!
theorem bn_len : nsIn (cx w mg mb O).K mainGlobals "len" = some none := by kernel_rfl!
theorem bn_isinstance : nsIn (cx w mg mb O).K mainGlobals "isinstance" = some none := by kernel_rfl!
theorem bn_type : nsIn (cx w mg mb O).K mainGlobals "type" = some none := by kernel_rfl!
theorem bn_list : nsIn (cx w mg mb O).K mainGlobals "list" = some none := by kernel_rfl!
theorem bn_tuple : nsIn (cx w mg mb O).K mainGlobals "tuple" = some none := by kernel_rfl!
theorem bn_range : nsIn (cx w mg mb O).K mainGlobals "range" = some none := by kernel_rfl!
theorem bn_str : nsIn (cx w mg mb O).K mainGlobals "str" = some none := by kernel_rfl!
theorem bn_int : nsIn (cx w mg mb O).K mainGlobals "int" = some none := by kernel_rfl!
theorem bn_abs : nsIn (cx w mg mb O).K mainGlobals "abs" = some none := by kernel_rfl!
theorem bn_enumerate : nsIn (cx w mg mb O).K mainGlobals "enumerate" = some none := by kernel_rfl!
theorem bn_zip : nsIn (cx w mg mb O).K mainGlobals "zip" = some none := by kernel_rfl!
theorem ga_83 : hasGA (cx w mg mb O).K 83 = true := by kernel_rfl!
theorem mk_83 : makesIn (cx w mg mb O).K 83 = true := by kernel_rfl!
theorem fl_83_names : fieldName (cx w mg mb O).K 83 "names" = true := by kernel_rfl!
theorem st_83_names : setName (cx w mg mb O).K 83 "names" = true := by kernel_rfl!
theorem ga_624 : hasGA (cx w mg mb O).K 624 = true := by kernel_rfl!
theorem mk_624 : makesIn (cx w mg mb O).K 624 = true := by kernel_rfl!
theorem bo_624 : findIn (cx w mg mb O).K (.ref 624) "__bool__" = some none := by kernel_rfl!
theorem le_624 : findIn (cx w mg mb O).K (.ref 624) "__len__" = some none := by kernel_rfl!
theorem fl_624_place : fieldName (cx w mg mb O).K 624 "place" = true := by kernel_rfl!
theorem st_624_place : setName (cx w mg mb O).K 624 "place" = true := by kernel_rfl!
theorem fl_624_pieces : fieldName (cx w mg mb O).K 624 "pieces" = true := by kernel_rfl!
theorem st_624_pieces : setName (cx w mg mb O).K 624 "pieces" = true := by kernel_rfl!
theorem ga_651 : hasGA (cx w mg mb O).K 651 = true := by kernel_rfl!
theorem mk_651 : makesIn (cx w mg mb O).K 651 = true := by kernel_rfl!
theorem fl_651_rows : fieldName (cx w mg mb O).K 651 "rows" = true := by kernel_rfl!
theorem st_651_rows : setName (cx w mg mb O).K 651 "rows" = true := by kernel_rfl!
theorem ga_672 : hasGA (cx w mg mb O).K 672 = true := by kernel_rfl!
theorem mk_672 : makesIn (cx w mg mb O).K 672 = true := by kernel_rfl!
theorem st_672_options : setName (cx w mg mb O).K 672 "options" = true := by kernel_rfl!
theorem st_672_stripnl : setName (cx w mg mb O).K 672 "stripnl" = true := by kernel_rfl!
theorem st_672_stripall : setName (cx w mg mb O).K 672 "stripall" = true := by kernel_rfl!
theorem st_672_ensurenl : setName (cx w mg mb O).K 672 "ensurenl" = true := by kernel_rfl!
theorem st_672_filters : setName (cx w mg mb O).K 672 "filters" = true := by kernel_rfl!
theorem fl_672_tables : fieldName (cx w mg mb O).K 672 "tables" = true := by kernel_rfl!
theorem st_672_tables : setName (cx w mg mb O).K 672 "tables" = true := by kernel_rfl!
theorem fl_672_all_tokens_ : fieldName (cx w mg mb O).K 672 "_all_tokens" = true := by kernel_rfl!
theorem st_672_all_tokens_ : setName (cx w mg mb O).K 672 "_all_tokens" = true := by kernel_rfl!
theorem st_672_tmpname_ : setName (cx w mg mb O).K 672 "_tmpname" = true := by kernel_rfl!
theorem fl_672_tokens_ : fieldName (cx w mg mb O).K 672 "_tokens" = true := by kernel_rfl!
theorem st_672_tokens_ : setName (cx w mg mb O).K 672 "_tokens" = true := by kernel_rfl!
theorem in_83 : findIn (cx w mg mb O).K (.ref 83) "__init__" = some (some (.ref 52)) := by kernel_rfl!
theorem if_83 : isFn (cx w mg mb O).K (.ref 52) = true := by kernel_rfl!
theorem cal_83 {l : Led} : Callee (cx w mg mb O) l (.ref 83) := callee_cls rfl rfl
theorem in_624 : findIn (cx w mg mb O).K (.ref 624) "__init__" = some (some (.ref 599)) := by kernel_rfl!
theorem if_624 : isFn (cx w mg mb O).K (.ref 599) = true := by kernel_rfl!
theorem cal_624 {l : Led} : Callee (cx w mg mb O) l (.ref 624) := callee_cls rfl rfl
theorem in_651 : findIn (cx w mg mb O).K (.ref 651) "__init__" = some (some (.ref 642)) := by kernel_rfl!
theorem if_651 : isFn (cx w mg mb O).K (.ref 642) = true := by kernel_rfl!
theorem cal_651 {l : Led} : Callee (cx w mg mb O) l (.ref 651) := callee_cls rfl rfl
theorem in_672 : findIn (cx w mg mb O).K (.ref 672) "__init__" = some (some (.ref 571)) := by kernel_rfl!
theorem if_672 : isFn (cx w mg mb O).K (.ref 571) = true := by kernel_rfl!
theorem cal_672 {l : Led} : Callee (cx w mg mb O) l (.ref 672) := callee_cls rfl rfl
theorem df_672_get_tokendefs : defName (cx w mg mb O).K 672 "get_tokendefs" 551 = true := by kernel_rfl!
theorem df_672_process_tokendef : defName (cx w mg mb O).K 672 "process_tokendef" 544 = true := by kernel_rfl!
theorem df_672_process_state_ : defName (cx w mg mb O).K 672 "_process_state" 536 = true := by kernel_rfl!
theorem df_672_process_regex_ : defName (cx w mg mb O).K 672 "_process_regex" 669 = true := by kernel_rfl!
theorem df_672_process_token_ : defName (cx w mg mb O).K 672 "_process_token" 522 = true := by kernel_rfl!
theorem df_672_process_new_state_ : defName (cx w mg mb O).K 672 "_process_new_state" 529 = true := by kernel_rfl!
theorem df_672_get_tokens_unprocessed : defName (cx w mg mb O).K 672 "get_tokens_unprocessed" 580 = true := by kernel_rfl!
theorem df_624_group : defName (cx w mg mb O).K 624 "group" 621 = true := by kernel_rfl!
theorem df_624_end : defName (cx w mg mb O).K 624 "end" 615 = true := by kernel_rfl!
theorem df_83_child : defName (cx w mg mb O).K 83 "child" 73 = true := by kernel_rfl!
theorem ni_str_TokenType_ : isNotIn (cx w mg mb O).K "str" 83 = true := by kernel_rfl!
theorem ni_tuple_inherit_ : isNotIn (cx w mg mb O).K "tuple" 345 = true := by kernel_rfl!
theorem ni_tuple_include : isNotIn (cx w mg mb O).K "tuple" 324 = true := by kernel_rfl!
theorem ni_tuple_default : isNotIn (cx w mg mb O).K "tuple" 446 = true := by kernel_rfl!
theorem ni_tuple_combined : isNotIn (cx w mg mb O).K "tuple" 366 = true := by kernel_rfl!
theorem cal_621 {l : Led} : Callee (cx w mg mb O) l (.ref 621) := callee_fn rfl
theorem cal_615 {l : Led} : Callee (cx w mg mb O) l (.ref 615) := callee_fn rfl
theorem cal_73 {l : Led} : Callee (cx w mg mb O) l (.ref 73) := callee_fn rfl
theorem cal_115 {l : Led} : Callee (cx w mg mb O) l (.ref 115) := callee_fn rfl
theorem cal_494 {l : Led} : Callee (cx w mg mb O) l (.ref 494) := callee_fn rfl
theorem cal_501 {l : Led} : Callee (cx w mg mb O) l (.ref 501) := callee_fn rfl
theorem cal_551 {l : Led} : Callee (cx w mg mb O) l (.ref 551) := callee_fn rfl
theorem cal_544 {l : Led} : Callee (cx w mg mb O) l (.ref 544) := callee_fn rfl
theorem cal_536 {l : Led} : Callee (cx w mg mb O) l (.ref 536) := callee_fn rfl
theorem cal_669 {l : Led} : Callee (cx w mg mb O) l (.ref 669) := callee_fn rfl
theorem cal_522 {l : Led} : Callee (cx w mg mb O) l (.ref 522) := callee_fn rfl
theorem cal_529 {l : Led} : Callee (cx w mg mb O) l (.ref 529) := callee_fn rfl
theorem cal_580 {l : Led} : Callee (cx w mg mb O) l (.ref 580) := callee_fn rfl
theorem cal_278 {l : Led} : Callee (cx w mg mb O) l (.ref 278) := callee_fn rfl
theorem cal_680 {l : Led} : Callee (cx w mg mb O) l (.ref 680) := callee_fn rfl
end Mine

namespace Mine
variable {w : World} {mg mb : Str → Option Value} {O : OsState} {A : Around} {F : PH} {N : List (Addr × OD)} {G : Array GenState}
theorem kn_89 {l : Led} : Kn (cx w mg mb O) l 89 (.inst 83 88) := Kn.ofK (o := ⟨.ref 83, some 88, .plain, #[]⟩) (by decide) (by kernel_rfl!) ⟨rfl, rfl, rfl⟩
theorem kn_90 {l : Led} : Kn (cx w mg mb O) l 90 (.tup []) := Kn.ofK (o := ⟨.type "tuple", none, .seq #[] 0, #[]⟩) (by decide) (by kernel_rfl!) ⟨rfl, rfl, 0, rfl⟩
theorem kn_88 {l : Led} : Kn (cx w mg mb O) l 88 (.fld [("names", .ref 90)]) := Kn.ofK (by decide) (by rfl) (fld1_ok rfl)
theorem kn_108 {l : Led} : Kn (cx w mg mb O) l 108 (.dic [("Token", .ref 89), ("String", .ref 101), ("Number", .ref 105)]) := by
  refine Kn.ofK (by decide) (by rfl) ⟨⟨rfl, rfl, rfl⟩, by decide, _, _, rfl, ?_⟩
  exact .cons ⟨⟨_, rfl⟩, rfl, rfl⟩ (.cons ⟨⟨_, rfl⟩, rfl, rfl⟩ (.cons ⟨⟨_, rfl⟩, rfl, rfl⟩ .nil))
theorem rd_310 : readsIn (cx w mg mb O).K 310 (.type "type") = true := by kernel_rfl!
theorem fc_310_init : findCls (cx w mg mb O).K (.ref 310) (.type "type") "__init__" = some (.val (.ref 278)) := by kernel_rfl!
end Mine

namespace Mine
variable {w : World} {mg mb : Str → Option Value} {O : OsState} {A : Around} {F : PH} {N : List (Addr × OD)} {G : Array GenState}
theorem cv_flags : clsValue (cx w mg mb O).K 672 "flags" (.int 8 1197) = true := by kernel_rfl!
theorem bd_match : boundName (cx w mg mb O).K 651 "match" 648 = true := by kernel_rfl!
section
variable {X : Cx} {l : Led} {R : Value → Led → Prop} {x : Str} {t : Tok}
theorem t_tupIn2 {a : Addr} {y1 y2 : Str} {t1 t2 : Tok} (ha : Kn X l a (.tup [.str y1 t1, .str y2 t2])) (h : R (.bool (decide (x = y1) || decide (x = y2))) l) : Tr X A l (compareOp .In (.str x t) (.ref a)) R := fun s E S => by
  refine PySem.SeqAt.in_tupleAt (fun v => match v with | .str y _ => y.cps.toList == x.cps.toList | _ => false) (ha.has S).isTup (fun y hy => ?_) ⟨l, S, ?_⟩
  · rcases (by simpa using hy : y = .str y1 t1 ∨ y = .str y2 t2) with rfl | rfl
    · exact MeetsSeq.EqGives.at (SeqRoads2.EqGives.str _ _ _ _) _ _
    · exact MeetsSeq.EqGives.at (SeqRoads2.EqGives.str _ _ _ _) _ _
  · have e : ∀ a b : Str, (a.cps.toList == b.cps.toList) = decide (b = a) := fun a b => by
      obtain ⟨⟨a⟩⟩ := a
      obtain ⟨⟨b⟩⟩ := b
      by_cases h : b = a
      · subst h; simp
      · have : ¬ (Str.mk ⟨b⟩ = Str.mk ⟨a⟩) := by simpa using h
        rw [decide_eq_false this]
        simpa using fun q => h q.symm
    have q : ([Value.str y1 t1, Value.str y2 t2].toArray.any fun v => match v with | .str y _ => y.cps.toList == x.cps.toList | _ => false) = (decide (x = y1) || decide (x = y2)) := by
      simp [e]
    rw [q]; exact h
end
end Mine

namespace Mine
local macro_rules | `(tactic| top_name) => `(tactic| first | (with_reducible exact List.mem_cons_self) | (with_reducible refine List.mem_cons_of_mem _ ?_; top_name) | (with_reducible assumption))
local macro_rules | `(tactic| k_caught0) => `(tactic| first
  | (with_reducible exact LUpd.head) | (with_reducible exact LSet.nil) | (with_reducible exact LSet.head) | (with_reducible exact Rem.head) | (with_reducible exact Pick.refl)
  | ((with_reducible apply LUpd.tail); (k_caught0))
  | ((with_reducible apply LSet.tail); (· (decide +kernel)); (k_caught0))
  | ((with_reducible apply Rem.tail); (k_caught0))
  | ((with_reducible apply Pick.cons); (· k_caught0); (k_caught0))
  | ((with_reducible apply Pick.drop); (k_caught0)))
local macro_rules | `(tactic| top_raise) => `(tactic| first | (with_reducible refine Kn.row' ?_; top_name) | (with_reducible refine Kn.fz' ?_; with_reducible assumption) | (with_reducible assumption) | ((with_reducible refine Kn.skip ?_); top_raise))
local macro_rules | `(tactic| k_caughtN0) => `(tactic| first | assumption | (exact Rm.le (by assumption) (by decide)) | ((refine Rm.dp ?_); k_caughtN0) | ((refine Rm.mk' ?_); k_caughtN0) | (refine Rm.le (Rm.over (n := 40) (Rm.le (by assumption) (by decide)) (by first | exact Quiet.ok (by assumption) | exact fsOk_while (Quiet.ok (by assumption)))) (by decide)))
local macro_rules | `(tactic| k_caughtB) => `(tactic| first | exact Strs.nil | ((apply Strs.cons); k_caughtB) | assumption)
local macro_rules | `(tactic| top_strB) => `(tactic| with_reducible first | exact bl_len | exact bl_isinstance | exact bl_type | exact bl_list | exact bl_tuple | exact bl_range | exact bl_str | exact bl_int | exact bl_abs | exact bl_sum | exact bl_enumerate | exact bl_zip | exact bl_max | exact bl_min | exact bl_divmod | exact bl_callable)
local macro_rules | `(tactic| top_raise0) => `(tactic| with_reducible first | exact g_wall_ | exact g_TokenType_ | exact g_Token | exact g_Whitespace | exact g_Error | exact g_String | exact g_Number | exact g_ALIASES_ | exact g_string_to_tokentype | exact g_CS_ESCAPE | exact g_commonprefix | exact g_make_charset | exact g_pull_ | exact g_same_ | exact g_groupby | exact g_grouper_ | exact g_special_chars_map_ | exact g_escape | exact g_regex_opt_inner | exact g_regex_opt | exact g_Lexer | exact g_include | exact g_inherit_ | exact g_combined | exact g_PseudoMatch_ | exact g_default | exact g_words | exact g_nothing_ | exact g_inherit_place | exact g_merged_tokendefs | exact g_RegexLexerMeta | exact g_RegexLexer | exact g_PlainMatch | exact g_Plain | exact g_PlainLexer | exact g_law_rest_ | exact g_law_reads_ | exact g_law)
local macro_rules | `(tactic| top_argsB) => `(tactic| with_reducible first | exact bn_len | exact bn_isinstance | exact bn_type | exact bn_list | exact bn_tuple | exact bn_range | exact bn_str | exact bn_int | exact bn_abs | exact bn_sum | exact bn_enumerate | exact bn_zip | exact bn_max | exact bn_min | exact bn_divmod | exact bn_callable)
local macro_rules | `(tactic| top_reprB) => `(tactic| with_reducible first | exact ga_83 | exact mk_83 | exact bo_83 | exact le_83 | exact ga_624 | exact mk_624 | exact bo_624 | exact le_624 | exact ga_651 | exact mk_651 | exact bo_651 | exact le_651 | exact ga_672 | exact mk_672 | exact bo_672 | exact le_672 | exact in_83 | exact if_83 | exact in_624 | exact if_624 | exact in_651 | exact if_651 | exact in_672 | exact if_672 | exact df_672_get_tokendefs | exact df_672_process_tokendef | exact df_672_process_state_ | exact df_672_process_regex_ | exact df_672_process_token_ | exact df_672_process_new_state_ | exact df_672_get_tokens_unprocessed | exact df_624_group | exact df_624_end | exact df_83_child | exact ni_str_TokenType_ | exact ni_str_combined | exact ni_tuple_inherit_ | exact ni_tuple_include | exact ni_tuple_default | exact ni_tuple_combined | exact ni_int_combined)
local macro_rules | `(tactic| top_caughtB) => `(tactic| with_reducible first | exact fl_83_names | exact fl_624_place | exact fl_624_pieces | exact fl_651_rows | exact fl_672_options | exact fl_672_stripnl | exact fl_672_stripall | exact fl_672_ensurenl | exact fl_672_filters | exact fl_672_tables | exact fl_672_all_tokens_ | exact fl_672_tmpname_ | exact fl_672_tokens_)
local macro_rules | `(tactic| top_raiseB) => `(tactic| with_reducible first | exact st_83_names | exact st_624_place | exact st_624_pieces | exact st_651_rows | exact st_672_options | exact st_672_stripnl | exact st_672_stripall | exact st_672_ensurenl | exact st_672_filters | exact st_672_tables | exact st_672_all_tokens_ | exact st_672_tmpname_ | exact st_672_tokens_)
local macro_rules | `(tactic| k_caughtNB) => `(tactic| with_reducible first | exact callee_bltin | exact callee_type | exact cal_83 | exact cal_624 | exact cal_651 | exact cal_672 | exact cal_621 | exact cal_615 | exact cal_648 | exact cal_73 | exact cal_115 | exact cal_494 | exact cal_501 | exact cal_551 | exact cal_544 | exact cal_536 | exact cal_669 | exact cal_522 | exact cal_529 | exact cal_580 | exact cal_278 | exact cal_682 | exact cal_687)

variable {w : World} {mg mb : Str → Option Value} {O : OsState} {A : Around} {F : PH} {N : List (Addr × OD)} {G : Array GenState}

theorem sp_PMinit (p : Addr) (pl pc : Value) (d : Addr) (hA : Rm A 20) (R : Value → Led → Prop) (h : R .none ⟨F, (p, .inst 624 d) :: (d, .fld [("place", pl), ("pieces", pc)]) :: N, G⟩) :
   Cl (cx w mg mb O) A ⟨F, (p, .inst 624 d) :: (d, .fld []) :: N, G⟩ (.call (.ref 599) ⟨[.ref p, pl, pc], []⟩) (Rv R) := by
  refine cl_def' (binds := [("self", .ref p), ("place", pl), ("pieces", pc)]) rfl (by kernel_rfl!) (by kernel_rfl!) hA.room rfl rfl (n := 0) (by rfl) ?_
  intro L
  with_reducible refine cells0 ?_
  with_reducible refine trB_cons ?_
  ((with_reducible refine' t_store ?zhL ?zu ?zhN ?zhl ?zhx ?zhk ?_); (case zhx => kernel_rfl!); (case zhN => top_name); (case zhL => rfl); (case zhl => k_caught0); (case zu => k_caught0); (case zhk => rfl))
  with_reducible refine trB_cons ?_
  ((with_reducible refine' t_store ?zhL ?zu ?zhN ?zhl ?zhx ?zhk ?_); (case zhx => kernel_rfl!); (case zhN => top_name); (case zhL => rfl); (case zhl => k_caught0); (case zu => k_caught0); (case zhk => rfl))
  with_reducible refine trB_cons ?_
  ((with_reducible refine' t_store ?zhL ?zu ?zhN ?zhl ?zhx ?zhk ?_); (case zhx => kernel_rfl!); (case zhN => top_name); (case zhL => rfl); (case zhl => k_caught0); (case zu => k_caught0); (case zhk => rfl))
  with_reducible refine trB_nil ?_
  with_reducible refine t_cons ?_
  ((with_reducible refine t_AssignAttr ?_ ?zhs); (case zhs => rfl))
  ((with_reducible refine' t_local ?zhL ?zhN ?zhv ?zhx ?zhk ?zhd ?_); (case zhx => kernel_rfl!); (case zhN => top_name); (case zhL => rfl); (case zhv => top_name); (case zhk => rfl); (case zhd => decide +kernel))
  ((with_reducible refine' t_local ?zhL ?zhN ?zhv ?zhx ?zhk ?zhd ?_); (case zhx => kernel_rfl!); (case zhN => top_name); (case zhL => rfl); (case zhv => top_name); (case zhk => rfl); (case zhd => decide +kernel))
  ((with_reducible refine' t_setattr ?zhx ?zhd ?zhf ?zhl ?zu ?zhz ?_); (case zhx => top_raise); (case zhd => top_name); (case zhl => k_caught0); (case zu => k_caught0); (case zhf => top_raiseB); (case zhz => simp))
  with_reducible refine fl_next ?_
  with_reducible refine t_cons ?_
  ((with_reducible refine t_AssignAttr ?_ ?zhs); (case zhs => rfl))
  ((with_reducible refine' t_local ?zhL ?zhN ?zhv ?zhx ?zhk ?zhd ?_); (case zhx => kernel_rfl!); (case zhN => top_name); (case zhL => rfl); (case zhv => top_name); (case zhk => rfl); (case zhd => decide +kernel))
  ((with_reducible refine' t_local ?zhL ?zhN ?zhv ?zhx ?zhk ?zhd ?_); (case zhx => kernel_rfl!); (case zhN => top_name); (case zhL => rfl); (case zhv => top_name); (case zhk => rfl); (case zhd => decide +kernel))
  ((with_reducible refine' t_setattr ?zhx ?zhd ?zhf ?zhl ?zu ?zhz ?_); (case zhx => top_raise); (case zhd => top_name); (case zhl => k_caught0); (case zu => k_caught0); (case zhf => top_raiseB); (case zhz => simp))
  with_reducible refine fl_next ?_
  with_reducible refine t_nil ?_
  exact ⟨_, by k_caught0, _, rfl, h⟩

theorem sp_PMgroup {p d r : Addr} {pl : Value} {c : Nat} {t : Tok} (hp : Kn (cx w mg mb O) ⟨F, N, G⟩ p (.inst 624 d)) (hd : Kn (cx w mg mb O) ⟨F, N, G⟩ d (.fld [("place", pl), ("pieces", .ref r)])) (hr : Kn (cx w mg mb O) ⟨F, N, G⟩ r (.lst [.str ⟨#[c]⟩ t]))
   (hA : Rm A 20) (R : Value → Led → Prop) (h : ∀ t, R (.str ⟨#[c]⟩ t) ⟨F, N, G⟩) :
   Cl (cx w mg mb O) A ⟨F, N, G⟩ (.call (.ref 621) ⟨[.ref p], []⟩) (Rv R) := by
  refine cl_def' (binds := [("self", .ref p), ("arg", .int 0 _)]) rfl (by kernel_rfl!) (by rfl) hA.room rfl rfl (n := 0) (by rfl) ?_
  intro L
  with_reducible refine cells0 ?_
  with_reducible refine trB_cons ?_
  ((with_reducible refine' t_store ?zhL ?zu ?zhN ?zhl ?zhx ?zhk ?_); (case zhx => kernel_rfl!); (case zhN => top_name); (case zhL => rfl); (case zhl => k_caught0); (case zu => k_caught0); (case zhk => rfl))
  with_reducible refine trB_cons ?_
  ((with_reducible refine' t_store ?zhL ?zu ?zhN ?zhl ?zhx ?zhk ?_); (case zhx => kernel_rfl!); (case zhN => top_name); (case zhL => rfl); (case zhl => k_caught0); (case zu => k_caught0); (case zhk => rfl))
  with_reducible refine trB_nil ?_
  with_reducible refine t_cons ?_
  with_reducible refine t_If ?_
  ((with_reducible refine t_isVal ?_ ?zhe); (case zhe => rfl))
  ((with_reducible refine' t_local ?zhL ?zhN ?zhv ?zhx ?zhk ?zhd ?_); (case zhx => kernel_rfl!); (case zhN => top_name); (case zhL => rfl); (case zhv => top_name); (case zhk => rfl); (case zhd => decide +kernel))
  with_reducible refine tt_int ?_
  ((with_reducible refine if_F ?ze ?_); (case ze => (first | rfl | decide)))
  with_reducible refine t_nil ?_
  with_reducible refine fl_next ?_
  with_reducible refine t_cons ?_
  with_reducible refine t_Return ?_
  ((with_reducible refine' t_MCall ?_ ?zhe); (case zhe => rfl))
  ((with_reducible refine t_str ?_); (intro _))
  with_reducible refine ms_join ?_
  with_reducible refine mc ?_
  with_reducible refine t_callWithP ?_
  ((with_reducible refine t_evalArgs ?_ ?zhe); (case zhe => rfl))
  ((with_reducible refine t_args ?_ ?zhe); (case zhe => rfl))
  ((with_reducible refine' t_ListComp ?zhclos ?zhkind ?zhnames ?zhc ?_ ?zhs); (case zhclos => rfl); (case zhkind => rfl); (case zhnames => decide +kernel); (case zhc => rfl); (case zhs => exact fun _ => rfl))
  ((with_reducible refine t_Attr ?_ ?zhe); (case zhe => rfl))
  ((with_reducible refine' t_local ?zhL ?zhN ?zhv ?zhx ?zhk ?zhd ?_); (case zhx => kernel_rfl!); (case zhN => top_name); (case zhL => rfl); (case zhv => top_name); (case zhk => rfl); (case zhd => decide +kernel))
  ((with_reducible refine' t_field ?zhx ?zhd ?zhv ?zhf ?zhg ?zhh ?_); (case zhx => top_raise); (case zhd => top_raise); (case zhv => top_name); (case zhf => top_caughtB); (case zhg => top_reprB); (case zhh => rfl))
  ((with_reducible refine' t_iterList ?zha ?_); (case zha => top_raise); (intro _))
  with_reducible refine opn ?_
  intro _
  intro _
  ((with_reducible refine' cs_list ?zhi ?_); (case zhi => top_name))
  with_reducible refine cl_comp1 ?_
  ((with_reducible refine' t_nextList ?zhi ?zha ?zhv ?zu ?_); (case zhi => top_name); (case zha => top_raise); (case zhv => rfl); (case zu => k_caught0))
  with_reducible refine t_goName ?_
  with_reducible refine t_assignName ?_
  ((with_reducible refine' t_store ?zhL ?zu ?zhN ?zhl ?zhx ?zhk ?_); (case zhx => kernel_rfl!); (case zhN => top_name); (case zhL => rfl); (case zhl => k_caught0); (case zu => k_caught0); (case zhk => rfl))
  with_reducible refine t_Or ?_
  ((with_reducible refine' t_local ?zhL ?zhN ?zhv ?zhx ?zhk ?zhd ?_); (case zhx => kernel_rfl!); (case zhN => top_name); (case zhL => rfl); (case zhv => top_name); (case zhk => rfl); (case zhd => decide +kernel))
  with_reducible refine tt_str1 ?_
  with_reducible refine if_t ?_
  ((with_reducible refine' t_append0 ?zha ?zu ?_); (case zha => top_name); (case zu => k_caught0))
  with_reducible refine cl_comp1 ?_
  ((with_reducible refine' t_nextListEnd ?zhh ?zhi ?zha ?zhv ?zu ?_); (case zhh => (refine Rm.hd (n := 0) ?_; k_caughtN0)); (case zhi => top_name); (case zha => top_raise); (case zhv => simp); (case zu => k_caught0))
  ((with_reducible refine' endC ?zr ?_); (case zr => k_caught0))
  with_reducible refine t_args0 ?_
  ((with_reducible refine cp1 ?zhc ?_); (case zhc => k_caughtNB))
  ((with_reducible refine' t_join11 ?zha ?_); (case zha => top_raise); (intro _))
  with_reducible refine fl_ret ?_
  exact ⟨_, by k_caught0, _, rfl, h _⟩

theorem sp_PMend {p d r : Addr} {pl : Int} {tp : Tok} {c : Nat} {t : Tok} (hp : Kn (cx w mg mb O) ⟨F, N, G⟩ p (.inst 624 d)) (hd : Kn (cx w mg mb O) ⟨F, N, G⟩ d (.fld [("place", .int pl tp), ("pieces", .ref r)])) (hr : Kn (cx w mg mb O) ⟨F, N, G⟩ r (.lst [.str ⟨#[c]⟩ t]))
   (hA : Rm A 21) (R : Value → Led → Prop) (h : ∀ t, R (.int (pl + 1) t) ⟨F, N, G⟩) :
   Cl (cx w mg mb O) A ⟨F, N, G⟩ (.call (.ref 615) ⟨[.ref p], []⟩) (Rv R) := by
  refine cl_def' (binds := [("self", .ref p), ("arg", .int 0 _)]) rfl (by kernel_rfl!) (by rfl) hA.room rfl rfl (n := 0) (by rfl) ?_
  intro L
  with_reducible refine cells0 ?_
  with_reducible refine trB_cons ?_
  ((with_reducible refine' t_store ?zhL ?zu ?zhN ?zhl ?zhx ?zhk ?_); (case zhx => kernel_rfl!); (case zhN => top_name); (case zhL => rfl); (case zhl => k_caught0); (case zu => k_caught0); (case zhk => rfl))
  with_reducible refine trB_cons ?_
  ((with_reducible refine' t_store ?zhL ?zu ?zhN ?zhl ?zhx ?zhk ?_); (case zhx => kernel_rfl!); (case zhN => top_name); (case zhL => rfl); (case zhl => k_caught0); (case zu => k_caught0); (case zhk => rfl))
  with_reducible refine trB_nil ?_
  with_reducible refine t_cons ?_
  with_reducible refine t_If ?_
  ((with_reducible refine t_isVal ?_ ?zhe); (case zhe => rfl))
  ((with_reducible refine' t_local ?zhL ?zhN ?zhv ?zhx ?zhk ?zhd ?_); (case zhx => kernel_rfl!); (case zhN => top_name); (case zhL => rfl); (case zhv => top_name); (case zhk => rfl); (case zhd => decide +kernel))
  with_reducible refine tt_int ?_
  ((with_reducible refine if_F ?ze ?_); (case ze => (first | rfl | decide)))
  with_reducible refine t_nil ?_
  with_reducible refine fl_next ?_
  with_reducible refine t_cons ?_
  with_reducible refine t_Return ?_
  with_reducible refine t_Bin ?_
  ((with_reducible refine t_Attr ?_ ?zhe); (case zhe => rfl))
  ((with_reducible refine' t_local ?zhL ?zhN ?zhv ?zhx ?zhk ?zhd ?_); (case zhx => kernel_rfl!); (case zhN => top_name); (case zhL => rfl); (case zhv => top_name); (case zhk => rfl); (case zhd => decide +kernel))
  ((with_reducible refine' t_field ?zhx ?zhd ?zhv ?zhf ?zhg ?zhh ?_); (case zhx => top_raise); (case zhd => top_raise); (case zhv => top_name); (case zhf => top_caughtB); (case zhg => top_reprB); (case zhh => rfl))
  ((with_reducible refine t_Call ?_ ?zhe); (case zhe => rfl))
  ((with_reducible refine' t_bltin ?ze ?zhv ?zhn ?zhg ?zhb ?zhk ?zhx ?zhd ?_); (case zhv => top_strB); (case ze => top_argsB); (case zhn => decide +kernel); (case zhg => rfl); (case zhb => rfl); (case zhk => rfl); (case zhx => kernel_rfl!); (case zhd => decide +kernel))
  with_reducible refine t_callWithP ?_
  ((with_reducible refine t_evalArgs ?_ ?zhe); (case zhe => rfl))
  ((with_reducible refine t_args ?_ ?zhe); (case zhe => rfl))
  ((with_reducible refine' t_MCall ?_ ?zhe); (case zhe => rfl))
  ((with_reducible refine' t_local ?zhL ?zhN ?zhv ?zhx ?zhk ?zhd ?_); (case zhx => kernel_rfl!); (case zhN => top_name); (case zhL => rfl); (case zhv => top_name); (case zhk => rfl); (case zhd => decide +kernel))
  ((with_reducible refine' t_methodOf (f := 621) ?zhx ?zhd ?zhf ?zhg ?zhn ?_); (case zhx => top_raise); (case zhd => top_raise); (case zhf => top_reprB); (case zhg => top_reprB); (case zhn => kernel_rfl!))
  with_reducible refine mc ?_
  with_reducible refine t_callWithP ?_
  with_reducible refine t_evalArgs0 ?_
  ((with_reducible refine cp1 ?zhc ?_); (case zhc => k_caughtNB))
  ((with_reducible refine' tr_call (sp_PMgroup ?zhp ?zhd ?zhr ?zhA _ ?_)); (case zhp => top_raise); (case zhd => top_raise); (case zhr => top_raise); (case zhA => k_caughtN0); (intro _))
  with_reducible refine t_args0 ?_
  ((with_reducible refine cp0 ?zhc ?_); (case zhc => k_caughtNB))
  ((with_reducible refine t_len1 ?_); (intro _))
  ((with_reducible refine ti_add ?_); (intro _))
  with_reducible refine fl_ret ?_
  exact ⟨_, by k_caught0, _, rfl, h _⟩

/-- a pattern of one letter -/
theorem sp_match {p d r r1 : Addr} {c : Nat} {tc : Tok} (hp : Kn (cx w mg mb O) ⟨F, N, G⟩ p (.inst 651 d)) (hd : Kn (cx w mg mb O) ⟨F, N, G⟩ d (.fld [("rows", .ref r)])) (hr : Kn (cx w mg mb O) ⟨F, N, G⟩ r (.lst [.ref r1]))
   (hr1 : Kn (cx w mg mb O) ⟨F, N, G⟩ r1 (.lst [.str ⟨#[c]⟩ tc])) {text : Str} {tt tp : Tok} {pos : Nat} (hz : text.length ≤ 1000000) (hpos : pos ≤ 1000000)
   (hA : Rm A 30) (R : Value → Led → Prop) (h0 : text.cps[pos]? ≠ some c → R .none ⟨F, N, G⟩)
   (h1 : text.cps[pos]? = some c → ∀ m dm tk, R (.ref m) ⟨F, (m, .inst 624 dm) :: (dm, .fld [("place", .int pos tk), ("pieces", .ref r1)]) :: N, G⟩) :
   Cl (cx w mg mb O) A ⟨F, N, G⟩ (.call (.ref 648) ⟨[.ref p, .str text tt, .int pos tp], []⟩) (Rv R) := by
  refine cl_def' (binds := [("self", .ref p), ("text", .str text tt), ("pos", .int pos tp), ("endpos", .none)]) rfl (by kernel_rfl!) (by rfl) hA.room rfl rfl (n := 0) (by rfl) ?_
  intro L
  with_reducible refine cells0 ?_
  with_reducible refine trB_cons ?_
  ((with_reducible refine' t_store ?zhL ?zu ?zhN ?zhl ?zhx ?zhk ?_); (case zhx => kernel_rfl!); (case zhN => top_name); (case zhL => rfl); (case zhl => k_caught0); (case zu => k_caught0); (case zhk => rfl))
  with_reducible refine trB_cons ?_
  ((with_reducible refine' t_store ?zhL ?zu ?zhN ?zhl ?zhx ?zhk ?_); (case zhx => kernel_rfl!); (case zhN => top_name); (case zhL => rfl); (case zhl => k_caught0); (case zu => k_caught0); (case zhk => rfl))
  with_reducible refine trB_cons ?_
  ((with_reducible refine' t_store ?zhL ?zu ?zhN ?zhl ?zhx ?zhk ?_); (case zhx => kernel_rfl!); (case zhN => top_name); (case zhL => rfl); (case zhl => k_caught0); (case zu => k_caught0); (case zhk => rfl))
  with_reducible refine trB_cons ?_
  ((with_reducible refine' t_store ?zhL ?zu ?zhN ?zhl ?zhx ?zhk ?_); (case zhx => kernel_rfl!); (case zhN => top_name); (case zhL => rfl); (case zhl => k_caught0); (case zu => k_caught0); (case zhk => rfl))
  with_reducible refine trB_nil ?_
  with_reducible refine t_cons ?_
  ((with_reducible refine t_For ?_ ?zhs); (case zhs => exact fun _ => rfl))
  ((with_reducible refine t_Attr ?_ ?zhe); (case zhe => rfl))
  ((with_reducible refine' t_local ?zhL ?zhN ?zhv ?zhx ?zhk ?zhd ?_); (case zhx => kernel_rfl!); (case zhN => top_name); (case zhL => rfl); (case zhv => top_name); (case zhk => rfl); (case zhd => decide +kernel))
  ((with_reducible refine' t_field ?zhx ?zhd ?zhv ?zhf ?zhg ?zhh ?_); (case zhx => top_raise); (case zhd => top_raise); (case zhv => top_name); (case zhf => top_caughtB); (case zhg => top_reprB); (case zhh => rfl))
  ((with_reducible refine' t_iterList ?zha ?_); (case zha => top_raise); (intro _))
  refine cl_for1 ?_
  ((with_reducible refine' t_nextList ?zhi ?zha ?zhv ?zu ?_); (case zhi => top_name); (case zha => top_raise); (case zhv => rfl); (case zu => k_caught0))
  with_reducible refine t_goName ?_
  with_reducible refine t_assignName ?_
  ((with_reducible refine' t_store ?zhL ?zu ?zhN ?zhl ?zhx ?zhk ?_); (case zhx => kernel_rfl!); (case zhN => top_name); (case zhL => rfl); (case zhl => k_caught0); (case zu => k_caught0); (case zhk => rfl))
  with_reducible refine t_cons ?_
  ((with_reducible refine t_AssignName ?_ ?zhs); (case zhs => rfl))
  ((with_reducible refine' t_MCall ?_ ?zhe); (case zhe => rfl))
  ((with_reducible refine t_str ?_); (intro _))
  with_reducible refine ms_join ?_
  with_reducible refine mc ?_
  with_reducible refine t_callWithP ?_
  ((with_reducible refine t_evalArgs ?_ ?zhe); (case zhe => rfl))
  ((with_reducible refine t_args ?_ ?zhe); (case zhe => rfl))
  ((with_reducible refine' t_ListComp ?zhclos ?zhkind ?zhnames ?zhc ?_ ?zhs); (case zhclos => rfl); (case zhkind => rfl); (case zhnames => decide +kernel); (case zhc => rfl); (case zhs => exact fun _ => rfl))
  ((with_reducible refine' t_local ?zhL ?zhN ?zhv ?zhx ?zhk ?zhd ?_); (case zhx => kernel_rfl!); (case zhN => top_name); (case zhL => rfl); (case zhv => top_name); (case zhk => rfl); (case zhd => decide +kernel))
  ((with_reducible refine' t_iterList ?zha ?_); (case zha => top_raise); (intro _))
  with_reducible refine opn ?_
  intro _
  intro _
  ((with_reducible refine' cs_list ?zhi ?_); (case zhi => top_name))
  with_reducible refine cl_comp1 ?_
  ((with_reducible refine' t_nextList ?zhi ?zha ?zhv ?zu ?_); (case zhi => top_name); (case zha => top_raise); (case zhv => rfl); (case zu => k_caught0))
  with_reducible refine t_goName ?_
  with_reducible refine t_assignName ?_
  ((with_reducible refine' t_store ?zhL ?zu ?zhN ?zhl ?zhx ?zhk ?_); (case zhx => kernel_rfl!); (case zhN => top_name); (case zhL => rfl); (case zhl => k_caught0); (case zu => k_caught0); (case zhk => rfl))
  with_reducible refine t_Or ?_
  ((with_reducible refine' t_local ?zhL ?zhN ?zhv ?zhx ?zhk ?zhd ?_); (case zhx => kernel_rfl!); (case zhN => top_name); (case zhL => rfl); (case zhv => top_name); (case zhk => rfl); (case zhd => decide +kernel))
  with_reducible refine tt_str1 ?_
  with_reducible refine if_t ?_
  ((with_reducible refine' t_append0 ?zha ?zu ?_); (case zha => top_name); (case zu => k_caught0))
  with_reducible refine cl_comp1 ?_
  ((with_reducible refine' t_nextListEnd ?zhh ?zhi ?zha ?zhv ?zu ?_); (case zhh => (refine Rm.hd (n := 0) ?_; k_caughtN0)); (case zhi => top_name); (case zha => top_raise); (case zhv => simp); (case zu => k_caught0))
  ((with_reducible refine' endC ?zr ?_); (case zr => k_caught0))
  with_reducible refine t_args0 ?_
  ((with_reducible refine cp1 ?zhc ?_); (case zhc => k_caughtNB))
  ((with_reducible refine' t_join11 ?zha ?_); (case zha => top_raise); (intro _))
  ((with_reducible refine' t_store ?zhL ?zu ?zhN ?zhl ?zhx ?zhk ?_); (case zhx => kernel_rfl!); (case zhN => top_name); (case zhL => rfl); (case zhl => k_caught0); (case zu => k_caught0); (case zhk => rfl))
  with_reducible refine fl_next ?_
  with_reducible refine t_cons ?_
  with_reducible refine t_If ?_
  with_reducible refine t_isAnd ?_
  ((with_reducible refine t_isCmp ?_ ?zhb); (case zhb => rfl))
  with_reducible refine t_Sub ?_
  ((with_reducible refine' t_local ?zhL ?zhN ?zhv ?zhx ?zhk ?zhd ?_); (case zhx => kernel_rfl!); (case zhN => top_name); (case zhL => rfl); (case zhv => top_name); (case zhk => rfl); (case zhd => decide +kernel))
  with_reducible refine t_Slice ?_
  with_reducible refine t_part ?_
  ((with_reducible refine' t_local ?zhL ?zhN ?zhv ?zhx ?zhk ?zhd ?_); (case zhx => kernel_rfl!); (case zhN => top_name); (case zhL => rfl); (case zhv => top_name); (case zhk => rfl); (case zhd => decide +kernel))
  with_reducible refine t_part ?_
  with_reducible refine t_Bin ?_
  ((with_reducible refine' t_local ?zhL ?zhN ?zhv ?zhx ?zhk ?zhd ?_); (case zhx => kernel_rfl!); (case zhN => top_name); (case zhL => rfl); (case zhv => top_name); (case zhk => rfl); (case zhd => decide +kernel))
  ((with_reducible refine t_Call ?_ ?zhe); (case zhe => rfl))
  ((with_reducible refine' t_bltin ?ze ?zhv ?zhn ?zhg ?zhb ?zhk ?zhx ?zhd ?_); (case zhv => top_strB); (case ze => top_argsB); (case zhn => decide +kernel); (case zhg => rfl); (case zhb => rfl); (case zhk => rfl); (case zhx => kernel_rfl!); (case zhd => decide +kernel))
  with_reducible refine t_callWithP ?_
  ((with_reducible refine t_evalArgs ?_ ?zhe); (case zhe => rfl))
  ((with_reducible refine t_args ?_ ?zhe); (case zhe => rfl))
  ((with_reducible refine' t_local ?zhL ?zhN ?zhv ?zhx ?zhk ?zhd ?_); (case zhx => kernel_rfl!); (case zhN => top_name); (case zhL => rfl); (case zhv => top_name); (case zhk => rfl); (case zhd => decide +kernel))
  with_reducible refine t_args0 ?_
  ((with_reducible refine cp0 ?zhc ?_); (case zhc => k_caughtNB))
  ((with_reducible refine t_len1 ?_); (intro _))
  ((with_reducible refine ti_add ?_); (intro _))
  with_reducible refine opnS ?_
  intro _
  ((with_reducible refine' t_subStr ?zhs ?_); (case zhs => rfl))
  ((with_reducible refine' t_slice2 pos (pos + 1) ?zhc ?zhi ?zhj ?zhz ?_); (case zhc => top_raise); (case zhi => rfl); (case zhj => rfl); (case zhz => exact hz); (intro _))
  ((with_reducible refine' t_local ?zhL ?zhN ?zhv ?zhx ?zhk ?zhd ?_); (case zhx => kernel_rfl!); (case zhN => top_name); (case zhL => rfl); (case zhv => top_name); (case zhk => rfl); (case zhd => decide +kernel))
  with_reducible refine tc_eqS ?_
  with_reducible refine tt_bool ?_
  refine if_b (fun hb => ?_) (fun hb => ?_)
  · rw [cut_one] at hb
    have hb := of_decide_eq_true hb
    with_reducible refine t_isAnd ?_
    with_reducible refine t_isOr ?_
    ((with_reducible refine t_isCmp ?_ ?zhb); (case zhb => rfl))
    ((with_reducible refine' t_local ?zhL ?zhN ?zhv ?zhx ?zhk ?zhd ?_); (case zhx => kernel_rfl!); (case zhN => top_name); (case zhL => rfl); (case zhv => top_name); (case zhk => rfl); (case zhd => decide +kernel))
    with_reducible refine t_none ?_
    ((with_reducible refine tc_is ?zhp ?_); (case zhp => rfl))
    with_reducible refine tt_bool ?_
    ((with_reducible refine if_T ?ze ?_); (case ze => (first | rfl | decide)))
    with_reducible refine if_t ?_
    with_reducible refine t_isAnd0 ?_
    with_reducible refine if_t ?_
    with_reducible refine t_cons ?_
    with_reducible refine t_Return ?_
    ((with_reducible refine t_Call ?_ ?zhe); (case zhe => rfl))
    ((with_reducible refine' t_glob ?ze ?zhg ?zhk ?zhx ?zhd ?_); (case ze => top_raise0); (case zhg => rfl); (case zhk => rfl); (case zhx => kernel_rfl!); (case zhd => decide +kernel))
    with_reducible refine t_callWithP ?_
    ((with_reducible refine t_evalArgs ?_ ?zhe); (case zhe => rfl))
    ((with_reducible refine t_args ?_ ?zhe); (case zhe => rfl))
    ((with_reducible refine' t_local ?zhL ?zhN ?zhv ?zhx ?zhk ?zhd ?_); (case zhx => kernel_rfl!); (case zhN => top_name); (case zhL => rfl); (case zhv => top_name); (case zhk => rfl); (case zhd => decide +kernel))
    ((with_reducible refine t_args ?_ ?zhe); (case zhe => rfl))
    ((with_reducible refine' t_local ?zhL ?zhN ?zhv ?zhx ?zhk ?zhd ?_); (case zhx => kernel_rfl!); (case zhN => top_name); (case zhL => rfl); (case zhv => top_name); (case zhk => rfl); (case zhd => decide +kernel))
    with_reducible refine t_args0 ?_
    ((with_reducible refine cp0 ?zhc ?_); (case zhc => k_caughtNB))
    ((with_reducible refine' t_make (fI := 599) ?zhm ?zhi ?zhf ?_); (case zhm => top_reprB); (case zhi => top_reprB); (case zhf => top_reprB); (intro _ _); (with_reducible refine' sp_PMinit _ _ _ _ ?zhA _ ?_); (case zhA => k_caughtN0); (refine And.intro rfl ?_))
    with_reducible refine fl_ret ?_
    with_reducible refine fl_ret ?_
    with_reducible refine tu_ret ?_
    with_reducible refine fl_ret ?_
    exact ⟨_, by k_caught0, _, rfl, h1 hb _ _ _⟩
  · rw [cut_one] at hb
    have hb := of_decide_eq_false hb
    with_reducible refine if_f ?_
    with_reducible refine t_nil ?_
    with_reducible refine fl_next ?_
    with_reducible refine t_nil ?_
    with_reducible refine tu_next ?_
    refine cl_for1 ?_
    ((with_reducible refine' t_nextListEnd ?zhh ?zhi ?zha ?zhv ?zu ?_); (case zhh => (refine Rm.hd (n := 0) ?_; k_caughtN0)); (case zhi => top_name); (case zha => top_raise); (case zhv => simp); (case zu => k_caught0))
    with_reducible refine t_nil ?_
    with_reducible refine fl_next ?_
    with_reducible refine t_cons ?_
    with_reducible refine t_Return ?_
    with_reducible refine t_none ?_
    with_reducible refine fl_ret ?_
    exact ⟨_, by k_caught0, _, rfl, h0 hb⟩
end Mine

namespace Mine
local macro_rules | `(tactic| top_name) => `(tactic| first | (with_reducible exact List.mem_cons_self) | (with_reducible refine List.mem_cons_of_mem _ ?_; top_name) | (with_reducible assumption))
local macro_rules | `(tactic| k_caught0) => `(tactic| first
  | (with_reducible exact LUpd.head) | (with_reducible exact LSet.nil) | (with_reducible exact LSet.head) | (with_reducible exact Rem.head) | (with_reducible exact Pick.refl)
  | ((with_reducible apply LUpd.tail); (k_caught0))
  | ((with_reducible apply LSet.tail); (· (decide +kernel)); (k_caught0))
  | ((with_reducible apply Rem.tail); (k_caught0))
  | ((with_reducible apply Pick.cons); (· k_caught0); (k_caught0))
  | ((with_reducible apply Pick.drop); (k_caught0)))
local macro_rules | `(tactic| top_raise) => `(tactic| first | (with_reducible refine Kn.row' ?_; top_name) | (with_reducible refine Kn.fz' ?_; with_reducible assumption) | (with_reducible assumption) | ((with_reducible refine Kn.skip ?_); top_raise))
local macro_rules | `(tactic| k_caughtN0) => `(tactic| first | assumption | (exact Rm.le (by assumption) (by decide)) | ((refine Rm.dp ?_); k_caughtN0) | ((refine Rm.mk' ?_); k_caughtN0) | (refine Rm.le (Rm.over (n := 40) (Rm.le (by assumption) (by decide)) (by first | exact Quiet.ok (by assumption) | exact fsOk_while (Quiet.ok (by assumption)))) (by decide)))
local macro_rules | `(tactic| k_caughtB) => `(tactic| first | exact Strs.nil | ((apply Strs.cons); k_caughtB) | assumption)
local macro_rules | `(tactic| top_strB) => `(tactic| with_reducible first | exact bl_len | exact bl_isinstance | exact bl_type | exact bl_list | exact bl_tuple | exact bl_range | exact bl_str | exact bl_int | exact bl_abs | exact bl_sum | exact bl_enumerate | exact bl_zip | exact bl_max | exact bl_min | exact bl_divmod | exact bl_callable)
local macro_rules | `(tactic| top_raise0) => `(tactic| with_reducible first | exact g_wall_ | exact g_TokenType_ | exact g_Token | exact g_Whitespace | exact g_Error | exact g_String | exact g_Number | exact g_ALIASES_ | exact g_string_to_tokentype | exact g_CS_ESCAPE | exact g_commonprefix | exact g_make_charset | exact g_pull_ | exact g_same_ | exact g_groupby | exact g_grouper_ | exact g_special_chars_map_ | exact g_escape | exact g_regex_opt_inner | exact g_regex_opt | exact g_Lexer | exact g_include | exact g_inherit_ | exact g_combined | exact g_PseudoMatch_ | exact g_default | exact g_words | exact g_nothing_ | exact g_inherit_place | exact g_merged_tokendefs | exact g_RegexLexerMeta | exact g_RegexLexer | exact g_PlainMatch | exact g_Plain | exact g_PlainLexer | exact g_law_rest_ | exact g_law_reads_ | exact g_law)
local macro_rules | `(tactic| top_argsB) => `(tactic| with_reducible first | exact bn_len | exact bn_isinstance | exact bn_type | exact bn_list | exact bn_tuple | exact bn_range | exact bn_str | exact bn_int | exact bn_abs | exact bn_sum | exact bn_enumerate | exact bn_zip | exact bn_max | exact bn_min | exact bn_divmod | exact bn_callable)
local macro_rules | `(tactic| top_reprB) => `(tactic| with_reducible first | exact ga_83 | exact mk_83 | exact bo_83 | exact le_83 | exact ga_624 | exact mk_624 | exact bo_624 | exact le_624 | exact ga_651 | exact mk_651 | exact bo_651 | exact le_651 | exact ga_672 | exact mk_672 | exact bo_672 | exact le_672 | exact in_83 | exact if_83 | exact in_624 | exact if_624 | exact in_651 | exact if_651 | exact in_672 | exact if_672 | exact df_672_get_tokendefs | exact df_672_process_tokendef | exact df_672_process_state_ | exact df_672_process_regex_ | exact df_672_process_token_ | exact df_672_process_new_state_ | exact df_672_get_tokens_unprocessed | exact df_624_group | exact df_624_end | exact df_83_child | exact ni_str_TokenType_ | exact ni_str_combined | exact ni_tuple_inherit_ | exact ni_tuple_include | exact ni_tuple_default | exact ni_tuple_combined | exact ni_int_combined)
local macro_rules | `(tactic| top_caughtB) => `(tactic| with_reducible first | exact fl_83_names | exact fl_624_place | exact fl_624_pieces | exact fl_651_rows | exact fl_672_options | exact fl_672_stripnl | exact fl_672_stripall | exact fl_672_ensurenl | exact fl_672_filters | exact fl_672_tables | exact fl_672_all_tokens_ | exact fl_672_tmpname_ | exact fl_672_tokens_)
local macro_rules | `(tactic| top_raiseB) => `(tactic| with_reducible first | exact st_83_names | exact st_624_place | exact st_624_pieces | exact st_651_rows | exact st_672_options | exact st_672_stripnl | exact st_672_stripall | exact st_672_ensurenl | exact st_672_filters | exact st_672_tables | exact st_672_all_tokens_ | exact st_672_tmpname_ | exact st_672_tokens_)
local macro_rules | `(tactic| k_caughtNB) => `(tactic| with_reducible first | exact callee_bltin | exact callee_type | exact cal_83 | exact cal_624 | exact cal_651 | exact cal_672 | exact cal_621 | exact cal_615 | exact cal_648 | exact cal_73 | exact cal_115 | exact cal_494 | exact cal_501 | exact cal_551 | exact cal_544 | exact cal_536 | exact cal_669 | exact cal_522 | exact cal_529 | exact cal_580 | exact cal_278 | exact cal_682 | exact cal_687)

local macro_rules | `(tactic| top_raise) => `(tactic| with_reducible first | exact kn_89 | exact kn_88 | exact kn_90 | exact kn_108)

variable {w : World} {mg mb : Str → Option Value} {O : OsState} {A : Around} {F : PH} {N : List (Addr × OD)} {G : Array GenState}
abbrev ads : Ads := ⟨83, 651, 648⟩

end Mine

namespace Mine
local macro_rules | `(tactic| top_name) => `(tactic| first | (with_reducible exact List.mem_cons_self) | (with_reducible refine List.mem_cons_of_mem _ ?_; top_name) | (with_reducible assumption))
local macro_rules | `(tactic| k_caught0) => `(tactic| first
  | (with_reducible exact LUpd.head) | (with_reducible exact LSet.nil) | (with_reducible exact LSet.head) | (with_reducible exact Rem.head) | (with_reducible exact Pick.refl)
  | ((with_reducible apply LUpd.tail); (k_caught0))
  | ((with_reducible apply LSet.tail); (· (decide +kernel)); (k_caught0))
  | ((with_reducible apply Rem.tail); (k_caught0))
  | ((with_reducible apply Pick.cons); (· k_caught0); (k_caught0))
  | ((with_reducible apply Pick.drop); (k_caught0)))
local macro_rules | `(tactic| top_raise) => `(tactic| first | (with_reducible refine Kn.row' ?_; top_name) | (with_reducible refine Kn.fz' ?_; with_reducible assumption) | (with_reducible assumption) | ((with_reducible refine Kn.skip ?_); top_raise))
local macro_rules | `(tactic| k_caughtN0) => `(tactic| first | assumption | (exact Rm.le (by assumption) (by decide)) | ((refine Rm.dp ?_); k_caughtN0) | ((refine Rm.mk' ?_); k_caughtN0) | (refine Rm.le (Rm.over (n := 40) (Rm.le (by assumption) (by decide)) (by first | exact Quiet.ok (by assumption) | exact fsOk_while (Quiet.ok (by assumption)))) (by decide)))
local macro_rules | `(tactic| k_caughtB) => `(tactic| first | exact Strs.nil | ((apply Strs.cons); k_caughtB) | assumption)
local macro_rules | `(tactic| top_strB) => `(tactic| with_reducible first | exact bl_len | exact bl_isinstance | exact bl_type | exact bl_list | exact bl_tuple | exact bl_range | exact bl_str | exact bl_int | exact bl_abs | exact bl_sum | exact bl_enumerate | exact bl_zip | exact bl_max | exact bl_min | exact bl_divmod | exact bl_callable)
local macro_rules | `(tactic| top_raise0) => `(tactic| with_reducible first | exact g_wall_ | exact g_TokenType_ | exact g_Token | exact g_Whitespace | exact g_Error | exact g_String | exact g_Number | exact g_ALIASES_ | exact g_string_to_tokentype | exact g_CS_ESCAPE | exact g_commonprefix | exact g_make_charset | exact g_pull_ | exact g_same_ | exact g_groupby | exact g_grouper_ | exact g_special_chars_map_ | exact g_escape | exact g_regex_opt_inner | exact g_regex_opt | exact g_Lexer | exact g_include | exact g_inherit_ | exact g_combined | exact g_PseudoMatch_ | exact g_default | exact g_words | exact g_nothing_ | exact g_inherit_place | exact g_merged_tokendefs | exact g_RegexLexerMeta | exact g_RegexLexer | exact g_PlainMatch | exact g_Plain | exact g_PlainLexer | exact g_law_rest_ | exact g_law_reads_ | exact g_law)
local macro_rules | `(tactic| top_argsB) => `(tactic| with_reducible first | exact bn_len | exact bn_isinstance | exact bn_type | exact bn_list | exact bn_tuple | exact bn_range | exact bn_str | exact bn_int | exact bn_abs | exact bn_sum | exact bn_enumerate | exact bn_zip | exact bn_max | exact bn_min | exact bn_divmod | exact bn_callable)
local macro_rules | `(tactic| top_reprB) => `(tactic| with_reducible first | exact ga_83 | exact mk_83 | exact bo_83 | exact le_83 | exact ga_624 | exact mk_624 | exact bo_624 | exact le_624 | exact ga_651 | exact mk_651 | exact bo_651 | exact le_651 | exact ga_672 | exact mk_672 | exact bo_672 | exact le_672 | exact in_83 | exact if_83 | exact in_624 | exact if_624 | exact in_651 | exact if_651 | exact in_672 | exact if_672 | exact df_672_get_tokendefs | exact df_672_process_tokendef | exact df_672_process_state_ | exact df_672_process_regex_ | exact df_672_process_token_ | exact df_672_process_new_state_ | exact df_672_get_tokens_unprocessed | exact df_624_group | exact df_624_end | exact df_83_child | exact ni_str_TokenType_ | exact ni_str_combined | exact ni_tuple_inherit_ | exact ni_tuple_include | exact ni_tuple_default | exact ni_tuple_combined | exact ni_int_combined)
local macro_rules | `(tactic| top_caughtB) => `(tactic| with_reducible first | exact fl_83_names | exact fl_624_place | exact fl_624_pieces | exact fl_651_rows | exact fl_672_options | exact fl_672_stripnl | exact fl_672_stripall | exact fl_672_ensurenl | exact fl_672_filters | exact fl_672_tables | exact fl_672_all_tokens_ | exact fl_672_tmpname_ | exact fl_672_tokens_)
local macro_rules | `(tactic| top_raiseB) => `(tactic| with_reducible first | exact st_83_names | exact st_624_place | exact st_624_pieces | exact st_651_rows | exact st_672_options | exact st_672_stripnl | exact st_672_stripall | exact st_672_ensurenl | exact st_672_filters | exact st_672_tables | exact st_672_all_tokens_ | exact st_672_tmpname_ | exact st_672_tokens_)
local macro_rules | `(tactic| k_caughtNB) => `(tactic| with_reducible first | exact callee_bltin | exact callee_type | exact cal_83 | exact cal_624 | exact cal_651 | exact cal_672 | exact cal_621 | exact cal_615 | exact cal_648 | exact cal_73 | exact cal_115 | exact cal_494 | exact cal_501 | exact cal_551 | exact cal_544 | exact cal_536 | exact cal_669 | exact cal_522 | exact cal_529 | exact cal_580 | exact cal_278 | exact cal_682 | exact cal_687)

local macro_rules | `(tactic| top_raise) => `(tactic| with_reducible first | exact kn_89 | exact kn_88 | exact kn_90 | exact kn_108)

variable {w : World} {mg mb : Str → Option Value} {O : OsState} {A : Around} {F : PH} {N : List (Addr × OD)} {G : Array GenState}

theorem sp_TTinit (x d : Addr) (vs : List Value) (hz : vs.length ≤ 2) (hA : Rm A 20) (R : Value → Led → Prop) (h : ∀ a, R .none ⟨F, (x, .inst 83 d) :: (d, .fld [("names", .ref a)]) :: (a, .tup vs) :: N, G⟩) :
   Cl (cx w mg mb O) A ⟨F, (x, .inst 83 d) :: (d, .fld []) :: N, G⟩ (.call (.ref 52) ⟨.ref x :: vs, []⟩) (Rv R) := by
  refine cl_defB rfl (by kernel_rfl!) hA.room rfl rfl (n := 0) (by rfl) ?_
  refine t_bindV (fun t => [("self", .ref x), ("names", t)]) (rest := vs) (by
    rcases vs with _ | ⟨v1, _ | ⟨v2, _ | ⟨v3, vs⟩⟩⟩
    · rfl
    · rfl
    · rfl
    · simp at hz) (by unfold sizeLine; omega) fun a => ?_
  with_reducible refine opn ?_
  intro _
  with_reducible refine cells0 ?_
  with_reducible refine trB_cons ?_
  ((with_reducible refine' t_store ?zhL ?zu ?zhN ?zhl ?zhx ?zhk ?_); (case zhx => kernel_rfl!); (case zhN => top_name); (case zhL => rfl); (case zhl => k_caught0); (case zu => k_caught0); (case zhk => rfl))
  with_reducible refine trB_cons ?_
  ((with_reducible refine' t_store ?zhL ?zu ?zhN ?zhl ?zhx ?zhk ?_); (case zhx => kernel_rfl!); (case zhN => top_name); (case zhL => rfl); (case zhl => k_caught0); (case zu => k_caught0); (case zhk => rfl))
  with_reducible refine trB_nil ?_
  with_reducible refine t_cons ?_
  ((with_reducible refine t_AssignAttr ?_ ?zhs); (case zhs => rfl))
  ((with_reducible refine' t_local ?zhL ?zhN ?zhv ?zhx ?zhk ?zhd ?_); (case zhx => kernel_rfl!); (case zhN => top_name); (case zhL => rfl); (case zhv => top_name); (case zhk => rfl); (case zhd => decide +kernel))
  ((with_reducible refine' t_local ?zhL ?zhN ?zhv ?zhx ?zhk ?zhd ?_); (case zhx => kernel_rfl!); (case zhN => top_name); (case zhL => rfl); (case zhv => top_name); (case zhk => rfl); (case zhd => decide +kernel))
  ((with_reducible refine' t_setattr ?zhx ?zhd ?zhf ?zhl ?zu ?zhz ?_); (case zhx => top_raise); (case zhd => top_name); (case zhl => k_caught0); (case zu => k_caught0); (case zhf => top_raiseB); (case zhz => simp))
  with_reducible refine fl_next ?_
  with_reducible refine t_nil ?_
  exact ⟨_, by k_caught0, _, rfl, h a⟩

theorem sp_Pinit (p d : Addr) (v : Value) (hA : Rm A 20) (R : Value → Led → Prop) (h : R .none ⟨F, (p, .inst 651 d) :: (d, .fld [("rows", v)]) :: N, G⟩) :
   Cl (cx w mg mb O) A ⟨F, (p, .inst 651 d) :: (d, .fld []) :: N, G⟩ (.call (.ref 642) ⟨[.ref p, v], []⟩) (Rv R) := by
  refine cl_def' (binds := [("self", .ref p), ("rows", v)]) rfl (by kernel_rfl!) (by kernel_rfl!) hA.room rfl rfl (n := 0) (by rfl) ?_
  intro L
  with_reducible refine cells0 ?_
  with_reducible refine trB_cons ?_
  ((with_reducible refine' t_store ?zhL ?zu ?zhN ?zhl ?zhx ?zhk ?_); (case zhx => kernel_rfl!); (case zhN => top_name); (case zhL => rfl); (case zhl => k_caught0); (case zu => k_caught0); (case zhk => rfl))
  with_reducible refine trB_cons ?_
  ((with_reducible refine' t_store ?zhL ?zu ?zhN ?zhl ?zhx ?zhk ?_); (case zhx => kernel_rfl!); (case zhN => top_name); (case zhL => rfl); (case zhl => k_caught0); (case zu => k_caught0); (case zhk => rfl))
  with_reducible refine trB_nil ?_
  with_reducible refine t_cons ?_
  ((with_reducible refine t_AssignAttr ?_ ?zhs); (case zhs => rfl))
  ((with_reducible refine' t_local ?zhL ?zhN ?zhv ?zhx ?zhk ?zhd ?_); (case zhx => kernel_rfl!); (case zhN => top_name); (case zhL => rfl); (case zhv => top_name); (case zhk => rfl); (case zhd => decide +kernel))
  ((with_reducible refine' t_local ?zhL ?zhN ?zhv ?zhx ?zhk ?zhd ?_); (case zhx => kernel_rfl!); (case zhN => top_name); (case zhL => rfl); (case zhv => top_name); (case zhk => rfl); (case zhd => decide +kernel))
  ((with_reducible refine' t_setattr ?zhx ?zhd ?zhf ?zhl ?zu ?zhz ?_); (case zhx => top_raise); (case zhd => top_name); (case zhl => k_caught0); (case zu => k_caught0); (case zhf => top_raiseB); (case zhz => simp))
  with_reducible refine fl_next ?_
  with_reducible refine t_nil ?_
  exact ⟨_, by k_caught0, _, rfl, h⟩

theorem sp_child {x d tn : Addr} {nvs : List Value} {val : Str} {c : Nat} {tv : Tok} (hx : Kn (cx w mg mb O) ⟨F, N, G⟩ x (.inst 83 d)) (hd : Kn (cx w mg mb O) ⟨F, N, G⟩ d (.fld [("names", .ref tn)])) (htn : Kn (cx w mg mb O) ⟨F, N, G⟩ tn (.tup nvs))
   (hv : val.cps[0]? = some c) (hup : Txt.isupper ⟨#[c]⟩ = true) (hz : val.length ≤ 100) (hnv : nvs.length ≤ 1) (hal : Kn (cx w mg mb O) ⟨F, N, G⟩ 108 (.dic [("Token", .ref 89), ("String", .ref 101), ("Number", .ref 105)]))
   (hno : nvs = [] → (valueAt [(("Token" : Str), Value.ref 89), ("String", .ref 101), ("Number", .ref 105)] val).isSome = false)
   (hA : Rm A 30) (R : Value → Led → Prop) (h : ∀ y dy ty, R (.ref y) ⟨F, (y, .inst 83 dy) :: (dy, .fld [("names", .ref ty)]) :: (ty, .tup (nvs ++ [.str val tv])) :: N, G⟩) :
   Cl (cx w mg mb O) A ⟨F, N, G⟩ (.call (.ref 73) ⟨[.ref x, .str val tv], []⟩) (Rv R) := by
  have hl : val.length ≠ 0 := by
    obtain ⟨hlt, _⟩ := Array.getElem?_eq_some_iff.mp hv
    have e : val.length = val.cps.size := rfl
    omega
  refine cl_def' (binds := [("self", .ref x), ("val", .str val tv)]) rfl (by kernel_rfl!) (by kernel_rfl!) hA.room rfl rfl (n := 0) (by rfl) ?_
  intro L
  with_reducible refine cells0 ?_
  with_reducible refine trB_cons ?_
  ((with_reducible refine' t_store ?zhL ?zu ?zhN ?zhl ?zhx ?zhk ?_); (case zhx => kernel_rfl!); (case zhN => top_name); (case zhL => rfl); (case zhl => k_caught0); (case zu => k_caught0); (case zhk => rfl))
  with_reducible refine trB_cons ?_
  ((with_reducible refine' t_store ?zhL ?zu ?zhN ?zhl ?zhx ?zhk ?_); (case zhx => kernel_rfl!); (case zhN => top_name); (case zhL => rfl); (case zhl => k_caught0); (case zu => k_caught0); (case zhk => rfl))
  with_reducible refine trB_nil ?_
  with_reducible refine t_cons ?_
  with_reducible refine t_If ?_
  with_reducible refine t_isOr ?_
  with_reducible refine t_isNot ?_
  ((with_reducible refine t_isVal ?_ ?zhe); (case zhe => rfl))
  ((with_reducible refine' t_local ?zhL ?zhN ?zhv ?zhx ?zhk ?zhd ?_); (case zhx => kernel_rfl!); (case zhN => top_name); (case zhL => rfl); (case zhv => top_name); (case zhk => rfl); (case zhd => decide +kernel))
  ((with_reducible refine tt_str ?zhz ?_); (case zhz => omega))
  refine if_F (by simp; omega) ?_
  with_reducible refine t_isOr ?_
  with_reducible refine t_isNot ?_
  ((with_reducible refine t_isVal ?_ ?zhe); (case zhe => rfl))
  ((with_reducible refine' t_MCall ?_ ?zhe); (case zhe => rfl))
  with_reducible refine t_Sub ?_
  ((with_reducible refine' t_local ?zhL ?zhN ?zhv ?zhx ?zhk ?zhd ?_); (case zhx => kernel_rfl!); (case zhN => top_name); (case zhL => rfl); (case zhv => top_name); (case zhk => rfl); (case zhd => decide +kernel))
  ((with_reducible refine t_int ?_); (intro _))
  ((with_reducible refine' t_subStr ?zhs ?_); (case zhs => rfl))
  ((with_reducible refine' t_itemStr ?zhi ?zhz ?zhc ?_); (case zhi => decide); (case zhz => decide); (case zhc => exact hv); (intro _))
  with_reducible refine ms_isupper ?_
  with_reducible refine mc ?_
  with_reducible refine t_callWithP ?_
  with_reducible refine t_evalArgs0 ?_
  ((with_reducible refine cp1 ?zhc ?_); (case zhc => k_caughtNB))
  with_reducible refine t_isupper ?_
  with_reducible refine tt_bool ?_
  refine if_F (by rw [hup]; rfl) ?_
  with_reducible refine t_isOr0 ?_
  with_reducible refine if_f ?_
  with_reducible refine t_nil ?_
  with_reducible refine fl_next ?_
  with_reducible refine t_cons ?_
  with_reducible refine t_If ?_
  with_reducible refine t_isAnd ?_
  with_reducible refine t_isNot ?_
  ((with_reducible refine t_isVal ?_ ?zhe); (case zhe => rfl))
  ((with_reducible refine t_Attr ?_ ?zhe); (case zhe => rfl))
  ((with_reducible refine' t_local ?zhL ?zhN ?zhv ?zhx ?zhk ?zhd ?_); (case zhx => kernel_rfl!); (case zhN => top_name); (case zhL => rfl); (case zhv => top_name); (case zhk => rfl); (case zhd => decide +kernel))
  ((with_reducible refine' t_field ?zhx ?zhd ?zhv ?zhf ?zhg ?zhh ?_); (case zhx => top_raise); (case zhd => top_raise); (case zhv => top_name); (case zhf => top_caughtB); (case zhg => top_reprB); (case zhh => rfl))
  ((with_reducible refine' tt_tup ?zha ?zhz ?_); (case zha => top_raise); (case zhz => omega))
  refine if_b (fun hb => ?_) (fun hb => ?_)
  · have hnil : nvs = [] := by cases nvs with | nil => rfl | cons a b => simp at hb
    with_reducible refine t_isAnd ?_
    ((with_reducible refine t_isCmp ?_ ?zhb); (case zhb => rfl))
    ((with_reducible refine' t_local ?zhL ?zhN ?zhv ?zhx ?zhk ?zhd ?_); (case zhx => kernel_rfl!); (case zhN => top_name); (case zhL => rfl); (case zhv => top_name); (case zhk => rfl); (case zhd => decide +kernel))
    ((with_reducible refine' t_glob ?ze ?zhg ?zhk ?zhx ?zhd ?_); (case ze => top_raise0); (case zhg => rfl); (case zhk => rfl); (case zhx => kernel_rfl!); (case zhd => decide +kernel))
    ((with_reducible refine' t_dictIn ?zha ?_); (case zha => top_raise))
    with_reducible refine tt_bool ?_
    refine if_F (hno hnil) ?_
    with_reducible refine if_f ?_
    with_reducible refine t_nil ?_
    with_reducible refine fl_next ?_
    with_reducible refine t_cons ?_
    ((with_reducible refine t_AssignName ?_ ?zhs); (case zhs => rfl))
    ((with_reducible refine t_Call ?_ ?zhe); (case zhe => rfl))
    ((with_reducible refine' t_glob ?ze ?zhg ?zhk ?zhx ?zhd ?_); (case ze => top_raise0); (case zhg => rfl); (case zhk => rfl); (case zhx => kernel_rfl!); (case zhd => decide +kernel))
    with_reducible refine t_callWithP ?_
    ((with_reducible refine t_evalArgsStar ?_ ?zhe); (case zhe => rfl))
    with_reducible refine t_argsStar ?_
    ((with_reducible refine t_Attr ?_ ?zhe); (case zhe => rfl))
    ((with_reducible refine' t_local ?zhL ?zhN ?zhv ?zhx ?zhk ?zhd ?_); (case zhx => kernel_rfl!); (case zhN => top_name); (case zhL => rfl); (case zhv => top_name); (case zhk => rfl); (case zhd => decide +kernel))
    ((with_reducible refine' t_field ?zhx ?zhd ?zhv ?zhf ?zhg ?zhh ?_); (case zhx => top_raise); (case zhd => top_raise); (case zhv => top_name); (case zhf => top_caughtB); (case zhg => top_reprB); (case zhh => rfl))
    refine ⟨tn, nvs, rfl, Kn.skip htn, by omega, ?_⟩
    ((with_reducible refine t_args ?_ ?zhe); (case zhe => rfl))
    ((with_reducible refine' t_local ?zhL ?zhN ?zhv ?zhx ?zhk ?zhd ?_); (case zhx => kernel_rfl!); (case zhN => top_name); (case zhL => rfl); (case zhv => top_name); (case zhk => rfl); (case zhd => decide +kernel))
    with_reducible refine t_args0 ?_
    ((with_reducible refine cp0 ?zhc ?_); (case zhc => k_caughtNB))
    ((with_reducible refine' t_make (fI := 52) ?zhm ?zhi ?zhf ?_); (case zhm => top_reprB); (case zhi => top_reprB); (case zhf => top_reprB); (intro _ _); (with_reducible refine' sp_TTinit _ _ _ ?zhz ?zhA _ ?_); (case zhz => (first | decide | (simp; done) | (simp; omega))); (case zhA => k_caughtN0); (intro _); (refine And.intro rfl ?_))
    ((with_reducible refine' t_store ?zhL ?zu ?zhN ?zhl ?zhx ?zhk ?_); (case zhx => kernel_rfl!); (case zhN => top_name); (case zhL => rfl); (case zhl => k_caught0); (case zu => k_caught0); (case zhk => rfl))
    with_reducible refine fl_next ?_
    with_reducible refine t_cons ?_
    with_reducible refine t_Return ?_
    ((with_reducible refine' t_local ?zhL ?zhN ?zhv ?zhx ?zhk ?zhd ?_); (case zhx => kernel_rfl!); (case zhN => top_name); (case zhL => rfl); (case zhv => top_name); (case zhk => rfl); (case zhd => decide +kernel))
    with_reducible refine fl_ret ?_
    exact ⟨_, by k_caught0, _, rfl, h _ _ _⟩
  · with_reducible refine if_f ?_
    with_reducible refine t_nil ?_
    with_reducible refine fl_next ?_
    with_reducible refine t_cons ?_
    ((with_reducible refine t_AssignName ?_ ?zhs); (case zhs => rfl))
    ((with_reducible refine t_Call ?_ ?zhe); (case zhe => rfl))
    ((with_reducible refine' t_glob ?ze ?zhg ?zhk ?zhx ?zhd ?_); (case ze => top_raise0); (case zhg => rfl); (case zhk => rfl); (case zhx => kernel_rfl!); (case zhd => decide +kernel))
    with_reducible refine t_callWithP ?_
    ((with_reducible refine t_evalArgsStar ?_ ?zhe); (case zhe => rfl))
    with_reducible refine t_argsStar ?_
    ((with_reducible refine t_Attr ?_ ?zhe); (case zhe => rfl))
    ((with_reducible refine' t_local ?zhL ?zhN ?zhv ?zhx ?zhk ?zhd ?_); (case zhx => kernel_rfl!); (case zhN => top_name); (case zhL => rfl); (case zhv => top_name); (case zhk => rfl); (case zhd => decide +kernel))
    ((with_reducible refine' t_field ?zhx ?zhd ?zhv ?zhf ?zhg ?zhh ?_); (case zhx => top_raise); (case zhd => top_raise); (case zhv => top_name); (case zhf => top_caughtB); (case zhg => top_reprB); (case zhh => rfl))
    refine ⟨tn, nvs, rfl, Kn.skip htn, by omega, ?_⟩
    ((with_reducible refine t_args ?_ ?zhe); (case zhe => rfl))
    ((with_reducible refine' t_local ?zhL ?zhN ?zhv ?zhx ?zhk ?zhd ?_); (case zhx => kernel_rfl!); (case zhN => top_name); (case zhL => rfl); (case zhv => top_name); (case zhk => rfl); (case zhd => decide +kernel))
    with_reducible refine t_args0 ?_
    ((with_reducible refine cp0 ?zhc ?_); (case zhc => k_caughtNB))
    ((with_reducible refine' t_make (fI := 52) ?zhm ?zhi ?zhf ?_); (case zhm => top_reprB); (case zhi => top_reprB); (case zhf => top_reprB); (intro _ _); (with_reducible refine' sp_TTinit _ _ _ ?zhz ?zhA _ ?_); (case zhz => (first | decide | (simp; done) | (simp; omega))); (case zhA => k_caughtN0); (intro _); (refine And.intro rfl ?_))
    ((with_reducible refine' t_store ?zhL ?zu ?zhN ?zhl ?zhx ?zhk ?_); (case zhx => kernel_rfl!); (case zhN => top_name); (case zhL => rfl); (case zhl => k_caught0); (case zu => k_caught0); (case zhk => rfl))
    with_reducible refine fl_next ?_
    with_reducible refine t_cons ?_
    with_reducible refine t_Return ?_
    ((with_reducible refine' t_local ?zhL ?zhN ?zhv ?zhx ?zhk ?zhd ?_); (case zhx => kernel_rfl!); (case zhN => top_name); (case zhL => rfl); (case zhv => top_name); (case zhk => rfl); (case zhd => decide +kernel))
    with_reducible refine fl_ret ?_
    exact ⟨_, by k_caught0, _, rfl, h _ _ _⟩
end Mine

namespace Mine
local macro_rules | `(tactic| top_name) => `(tactic| first | (with_reducible exact List.mem_cons_self) | (with_reducible refine List.mem_cons_of_mem _ ?_; top_name) | (with_reducible assumption))
local macro_rules | `(tactic| k_caught0) => `(tactic| first
  | (with_reducible exact LUpd.head) | (with_reducible exact LSet.nil) | (with_reducible exact LSet.head) | (with_reducible exact Rem.head) | (with_reducible exact Pick.refl)
  | ((with_reducible apply LUpd.tail); (k_caught0))
  | ((with_reducible apply LSet.tail); (· (decide +kernel)); (k_caught0))
  | ((with_reducible apply Rem.tail); (k_caught0))
  | ((with_reducible apply Pick.cons); (· k_caught0); (k_caught0))
  | ((with_reducible apply Pick.drop); (k_caught0)))
local macro_rules | `(tactic| top_raise) => `(tactic| first | (with_reducible refine Kn.row' ?_; top_name) | (with_reducible refine Kn.fz' ?_; with_reducible assumption) | (with_reducible assumption) | ((with_reducible refine Kn.skip ?_); top_raise))
local macro_rules | `(tactic| k_caughtN0) => `(tactic| first | assumption | (exact Rm.le (by assumption) (by decide)) | ((refine Rm.dp ?_); k_caughtN0) | ((refine Rm.mk' ?_); k_caughtN0) | (refine Rm.le (Rm.over (n := 40) (Rm.le (by assumption) (by decide)) (by first | exact Quiet.ok (by assumption) | exact fsOk_while (Quiet.ok (by assumption)))) (by decide)))
local macro_rules | `(tactic| k_caughtB) => `(tactic| first | exact Strs.nil | ((apply Strs.cons); k_caughtB) | assumption)
local macro_rules | `(tactic| top_strB) => `(tactic| with_reducible first | exact bl_len | exact bl_isinstance | exact bl_type | exact bl_list | exact bl_tuple | exact bl_range | exact bl_str | exact bl_int | exact bl_abs | exact bl_sum | exact bl_enumerate | exact bl_zip | exact bl_max | exact bl_min | exact bl_divmod | exact bl_callable)
local macro_rules | `(tactic| top_raise0) => `(tactic| with_reducible first | exact g_wall_ | exact g_TokenType_ | exact g_Token | exact g_Whitespace | exact g_Error | exact g_String | exact g_Number | exact g_ALIASES_ | exact g_string_to_tokentype | exact g_CS_ESCAPE | exact g_commonprefix | exact g_make_charset | exact g_pull_ | exact g_same_ | exact g_groupby | exact g_grouper_ | exact g_special_chars_map_ | exact g_escape | exact g_regex_opt_inner | exact g_regex_opt | exact g_Lexer | exact g_include | exact g_inherit_ | exact g_combined | exact g_PseudoMatch_ | exact g_default | exact g_words | exact g_nothing_ | exact g_inherit_place | exact g_merged_tokendefs | exact g_RegexLexerMeta | exact g_RegexLexer | exact g_PlainMatch | exact g_Plain | exact g_PlainLexer | exact g_law_rest_ | exact g_law_reads_ | exact g_law)
local macro_rules | `(tactic| top_argsB) => `(tactic| with_reducible first | exact bn_len | exact bn_isinstance | exact bn_type | exact bn_list | exact bn_tuple | exact bn_range | exact bn_str | exact bn_int | exact bn_abs | exact bn_sum | exact bn_enumerate | exact bn_zip | exact bn_max | exact bn_min | exact bn_divmod | exact bn_callable)
local macro_rules | `(tactic| top_reprB) => `(tactic| with_reducible first | exact ga_83 | exact mk_83 | exact bo_83 | exact le_83 | exact ga_624 | exact mk_624 | exact bo_624 | exact le_624 | exact ga_651 | exact mk_651 | exact bo_651 | exact le_651 | exact ga_672 | exact mk_672 | exact bo_672 | exact le_672 | exact in_83 | exact if_83 | exact in_624 | exact if_624 | exact in_651 | exact if_651 | exact in_672 | exact if_672 | exact df_672_get_tokendefs | exact df_672_process_tokendef | exact df_672_process_state_ | exact df_672_process_regex_ | exact df_672_process_token_ | exact df_672_process_new_state_ | exact df_672_get_tokens_unprocessed | exact df_624_group | exact df_624_end | exact df_83_child | exact ni_str_TokenType_ | exact ni_str_combined | exact ni_tuple_inherit_ | exact ni_tuple_include | exact ni_tuple_default | exact ni_tuple_combined | exact ni_int_combined)
local macro_rules | `(tactic| top_caughtB) => `(tactic| with_reducible first | exact fl_83_names | exact fl_624_place | exact fl_624_pieces | exact fl_651_rows | exact fl_672_options | exact fl_672_stripnl | exact fl_672_stripall | exact fl_672_ensurenl | exact fl_672_filters | exact fl_672_tables | exact fl_672_all_tokens_ | exact fl_672_tmpname_ | exact fl_672_tokens_)
local macro_rules | `(tactic| top_raiseB) => `(tactic| with_reducible first | exact st_83_names | exact st_624_place | exact st_624_pieces | exact st_651_rows | exact st_672_options | exact st_672_stripnl | exact st_672_stripall | exact st_672_ensurenl | exact st_672_filters | exact st_672_tables | exact st_672_all_tokens_ | exact st_672_tmpname_ | exact st_672_tokens_)
local macro_rules | `(tactic| k_caughtNB) => `(tactic| with_reducible first | exact callee_bltin | exact callee_type | exact cal_83 | exact cal_624 | exact cal_651 | exact cal_672 | exact cal_621 | exact cal_615 | exact cal_648 | exact cal_73 | exact cal_115 | exact cal_494 | exact cal_501 | exact cal_551 | exact cal_544 | exact cal_536 | exact cal_669 | exact cal_522 | exact cal_529 | exact cal_580 | exact cal_278 | exact cal_682 | exact cal_687)

local macro_rules | `(tactic| top_raise) => `(tactic| with_reducible first | exact kn_89 | exact kn_88 | exact kn_90 | exact kn_108)

variable {w : World} {mg mb : Str → Option Value} {O : OsState} {A : Around} {F : PH} {N : List (Addr × OD)} {G : Array GenState}


theorem strs1 {p : Str} {vs : List Value} (h : Strs [p] vs) : ∃ t1, vs = [.str p t1] := by
  cases h with | cons h => cases h; exact ⟨_, rfl⟩
theorem sp_stt1 {s p : Str} {c : Nat} {tk : Tok} (hps : Txt.split s "." = [p]) (hl0 : s.length ≠ 0) (hl : s.length ≤ 100) (hpv : p.cps[0]? = some c) (hpu : Txt.isupper ⟨#[c]⟩ = true) (hpl : p.length ≤ 100)
   (hno : (valueAt [(("Token" : Str), Value.ref 89), ("String", .ref 101), ("Number", .ref 105)] p).isSome = false)
   (hA : Rm A 60) (R : Value → Led → Prop) (h : ∀ y dy ty t1, R (.ref y) ⟨F, (y, .inst 83 dy) :: (dy, .fld [("names", .ref ty)]) :: (ty, .tup [.str p t1]) :: N, G⟩) :
   Cl (cx w mg mb O) A ⟨F, N, G⟩ (.call (.ref 115) ⟨[.str s tk], []⟩) (Rv R) := by
  refine cl_def' (binds := [("s", .str s tk)]) rfl (by kernel_rfl!) (by kernel_rfl!) hA.room rfl rfl (n := 0) (by rfl) ?_
  intro L
  with_reducible refine cells0 ?_
  with_reducible refine trB_cons ?_
  ((with_reducible refine' t_store ?zhL ?zu ?zhN ?zhl ?zhx ?zhk ?_); (case zhx => kernel_rfl!); (case zhN => top_name); (case zhL => rfl); (case zhl => k_caught0); (case zu => k_caught0); (case zhk => rfl))
  with_reducible refine trB_nil ?_
  with_reducible refine t_cons ?_
  with_reducible refine t_If ?_
  ((with_reducible refine t_isVal ?_ ?zhe); (case zhe => rfl))
  ((with_reducible refine t_Call ?_ ?zhe); (case zhe => rfl))
  ((with_reducible refine' t_bltin ?ze ?zhv ?zhn ?zhg ?zhb ?zhk ?zhx ?zhd ?_); (case zhv => top_strB); (case ze => top_argsB); (case zhn => decide +kernel); (case zhg => rfl); (case zhb => rfl); (case zhk => rfl); (case zhx => kernel_rfl!); (case zhd => decide +kernel))
  with_reducible refine t_callWithP ?_
  ((with_reducible refine t_evalArgs ?_ ?zhe); (case zhe => rfl))
  ((with_reducible refine t_args ?_ ?zhe); (case zhe => rfl))
  ((with_reducible refine' t_local ?zhL ?zhN ?zhv ?zhx ?zhk ?zhd ?_); (case zhx => kernel_rfl!); (case zhN => top_name); (case zhL => rfl); (case zhv => top_name); (case zhk => rfl); (case zhd => decide +kernel))
  ((with_reducible refine t_args ?_ ?zhe); (case zhe => rfl))
  ((with_reducible refine' t_glob ?ze ?zhg ?zhk ?zhx ?zhd ?_); (case ze => top_raise0); (case zhg => rfl); (case zhk => rfl); (case zhx => kernel_rfl!); (case zhd => decide +kernel))
  with_reducible refine t_args0 ?_
  ((with_reducible refine cp0 ?zhc ?_); (case zhc => k_caughtNB))
  ((with_reducible refine tin_strF ?zhe ?_); (case zhe => top_reprB))
  with_reducible refine tt_bool ?_
  with_reducible refine if_f ?_
  with_reducible refine t_nil ?_
  with_reducible refine fl_next ?_
  with_reducible refine t_cons ?_
  with_reducible refine t_If ?_
  with_reducible refine t_isNot ?_
  ((with_reducible refine t_isVal ?_ ?zhe); (case zhe => rfl))
  ((with_reducible refine' t_local ?zhL ?zhN ?zhv ?zhx ?zhk ?zhd ?_); (case zhx => kernel_rfl!); (case zhN => top_name); (case zhL => rfl); (case zhv => top_name); (case zhk => rfl); (case zhd => decide +kernel))
  ((with_reducible refine tt_str ?zhz ?_); (case zhz => omega))
  refine if_F (by simp; omega) ?_
  with_reducible refine t_nil ?_
  with_reducible refine fl_next ?_
  with_reducible refine t_cons ?_
  ((with_reducible refine t_AssignName ?_ ?zhs); (case zhs => rfl))
  ((with_reducible refine' t_glob ?ze ?zhg ?zhk ?zhx ?zhd ?_); (case ze => top_raise0); (case zhg => rfl); (case zhk => rfl); (case zhx => kernel_rfl!); (case zhd => decide +kernel))
  ((with_reducible refine' t_store ?zhL ?zu ?zhN ?zhl ?zhx ?zhk ?_); (case zhx => kernel_rfl!); (case zhN => top_name); (case zhL => rfl); (case zhl => k_caught0); (case zu => k_caught0); (case zhk => rfl))
  with_reducible refine fl_next ?_
  with_reducible refine t_cons ?_
  ((with_reducible refine t_For ?_ ?zhs); (case zhs => exact fun _ => rfl))
  ((with_reducible refine' t_MCall ?_ ?zhe); (case zhe => rfl))
  ((with_reducible refine' t_local ?zhL ?zhN ?zhv ?zhx ?zhk ?zhd ?_); (case zhx => kernel_rfl!); (case zhN => top_name); (case zhL => rfl); (case zhv => top_name); (case zhk => rfl); (case zhd => decide +kernel))
  with_reducible refine ms_split ?_
  with_reducible refine mc ?_
  with_reducible refine t_callWithP ?_
  ((with_reducible refine t_evalArgs ?_ ?zhe); (case zhe => rfl))
  ((with_reducible refine t_args ?_ ?zhe); (case zhe => rfl))
  ((with_reducible refine t_str ?_); (intro _))
  with_reducible refine t_args0 ?_
  ((with_reducible refine cp1 ?zhc ?_); (case zhc => k_caughtNB))
  ((with_reducible refine' t_split ?zhy ?zhx ?zhp ?zhn ?_); (case zhy => rfl); (case zhx => omega); (case zhp => assumption); (case zhn => (simp; done)); (intro _ _ _))
  ((with_reducible refine' t_iterList ?zha ?_); (case zha => top_raise); (intro _))
  with_reducible refine cl_for1 ?_
  obtain ⟨t1, rfl⟩ := strs1 (by assumption)
  ((with_reducible refine' t_nextList ?zhi ?zha ?zhv ?zu ?_); (case zhi => top_name); (case zha => top_raise); (case zhv => rfl); (case zu => k_caught0))
  with_reducible refine t_goName ?_
  with_reducible refine t_assignName ?_
  ((with_reducible refine' t_store ?zhL ?zu ?zhN ?zhl ?zhx ?zhk ?_); (case zhx => kernel_rfl!); (case zhN => top_name); (case zhL => rfl); (case zhl => k_caught0); (case zu => k_caught0); (case zhk => rfl))
  with_reducible refine t_cons ?_
  ((with_reducible refine t_AssignName ?_ ?zhs); (case zhs => rfl))
  ((with_reducible refine' t_MCall ?_ ?zhe); (case zhe => rfl))
  ((with_reducible refine' t_local ?zhL ?zhN ?zhv ?zhx ?zhk ?zhd ?_); (case zhx => kernel_rfl!); (case zhN => top_name); (case zhL => rfl); (case zhv => top_name); (case zhk => rfl); (case zhd => decide +kernel))
  ((with_reducible refine' t_methodOf (f := 73) ?zhx ?zhd ?zhf ?zhg ?zhn ?_); (case zhx => top_raise); (case zhd => top_raise); (case zhf => top_reprB); (case zhg => top_reprB); (case zhn => kernel_rfl!))
  with_reducible refine mc ?_
  with_reducible refine t_callWithP ?_
  ((with_reducible refine t_evalArgs ?_ ?zhe); (case zhe => rfl))
  ((with_reducible refine t_args ?_ ?zhe); (case zhe => rfl))
  ((with_reducible refine' t_local ?zhL ?zhN ?zhv ?zhx ?zhk ?zhd ?_); (case zhx => kernel_rfl!); (case zhN => top_name); (case zhL => rfl); (case zhv => top_name); (case zhk => rfl); (case zhd => decide +kernel))
  with_reducible refine t_args0 ?_
  ((with_reducible refine cp1 ?zhc ?_); (case zhc => k_caughtNB))
  ((with_reducible refine' tr_call (sp_child ?zhx ?zhd ?zht ?zhv ?zhu ?zhl ?zhn ?zha ?zhno ?zhA _ ?_)); (case zhx => (first | top_raise | exact kn_89)); (case zhd => (first | top_raise | exact kn_88)); (case zht => (first | top_raise | exact kn_90)); (case zhv => assumption); (case zhu => assumption); (case zhl => assumption); (case zhn => (first | decide | (simp; done))); (case zha => exact kn_108); (case zhno => (first | exact fun _ => by assumption | exact fun e => nomatch e)); (case zhA => k_caughtN0); (intro _ _ _))
  ((with_reducible refine' t_store ?zhL ?zu ?zhN ?zhl ?zhx ?zhk ?_); (case zhx => kernel_rfl!); (case zhN => top_name); (case zhL => rfl); (case zhl => k_caught0); (case zu => k_caught0); (case zhk => rfl))
  with_reducible refine fl_next ?_
  with_reducible refine t_nil ?_
  with_reducible refine tu_next ?_
  with_reducible refine cl_for1 ?_
  ((with_reducible refine' t_nextListEnd ?zhh ?zhi ?zha ?zhv ?zu ?_); (case zhh => (refine Rm.hd (n := 0) ?_; k_caughtN0)); (case zhi => top_name); (case zha => top_raise); (case zhv => simp); (case zu => k_caught0))
  with_reducible refine t_nil ?_
  with_reducible refine fl_next ?_
  with_reducible refine t_cons ?_
  with_reducible refine t_Return ?_
  ((with_reducible refine' t_local ?zhL ?zhN ?zhv ?zhx ?zhk ?zhd ?_); (case zhx => kernel_rfl!); (case zhN => top_name); (case zhL => rfl); (case zhv => top_name); (case zhk => rfl); (case zhd => decide +kernel))
  with_reducible refine fl_ret ?_
  simp only [List.nil_append, List.cons_append]
  exact ⟨_, by k_caught0, _, rfl, h _ _ _ _⟩
end Mine
namespace Mine
local macro_rules | `(tactic| top_name) => `(tactic| first | (with_reducible exact List.mem_cons_self) | (with_reducible refine List.mem_cons_of_mem _ ?_; top_name) | (with_reducible assumption))
local macro_rules | `(tactic| k_caught0) => `(tactic| first
  | (with_reducible exact LUpd.head) | (with_reducible exact LSet.nil) | (with_reducible exact LSet.head) | (with_reducible exact Rem.head) | (with_reducible exact Pick.refl)
  | ((with_reducible apply LUpd.tail); (k_caught0))
  | ((with_reducible apply LSet.tail); (· (decide +kernel)); (k_caught0))
  | ((with_reducible apply Rem.tail); (k_caught0))
  | ((with_reducible apply Pick.cons); (· k_caught0); (k_caught0))
  | ((with_reducible apply Pick.drop); (k_caught0)))
local macro_rules | `(tactic| top_raise) => `(tactic| first | (with_reducible refine Kn.row' ?_; top_name) | (with_reducible refine Kn.fz' ?_; with_reducible assumption) | (with_reducible assumption) | ((with_reducible refine Kn.skip ?_); top_raise))
local macro_rules | `(tactic| k_caughtN0) => `(tactic| first | assumption | (exact Rm.le (by assumption) (by decide)) | ((refine Rm.dp ?_); k_caughtN0) | ((refine Rm.mk' ?_); k_caughtN0) | (refine Rm.le (Rm.over (n := 40) (Rm.le (by assumption) (by decide)) (by first | exact Quiet.ok (by assumption) | exact fsOk_while (Quiet.ok (by assumption)))) (by decide)))
local macro_rules | `(tactic| k_caughtB) => `(tactic| first | exact Strs.nil | ((apply Strs.cons); k_caughtB) | assumption)
local macro_rules | `(tactic| top_strB) => `(tactic| with_reducible first | exact bl_len | exact bl_isinstance | exact bl_type | exact bl_list | exact bl_tuple | exact bl_range | exact bl_str | exact bl_int | exact bl_abs | exact bl_sum | exact bl_enumerate | exact bl_zip | exact bl_max | exact bl_min | exact bl_divmod | exact bl_callable)
local macro_rules | `(tactic| top_raise0) => `(tactic| with_reducible first | exact g_wall_ | exact g_TokenType_ | exact g_Token | exact g_Whitespace | exact g_Error | exact g_String | exact g_Number | exact g_ALIASES_ | exact g_string_to_tokentype | exact g_CS_ESCAPE | exact g_commonprefix | exact g_make_charset | exact g_pull_ | exact g_same_ | exact g_groupby | exact g_grouper_ | exact g_special_chars_map_ | exact g_escape | exact g_regex_opt_inner | exact g_regex_opt | exact g_Lexer | exact g_include | exact g_inherit_ | exact g_combined | exact g_PseudoMatch_ | exact g_default | exact g_words | exact g_nothing_ | exact g_inherit_place | exact g_merged_tokendefs | exact g_RegexLexerMeta | exact g_RegexLexer | exact g_PlainMatch | exact g_Plain | exact g_PlainLexer | exact g_law_rest_ | exact g_law_reads_ | exact g_law)
local macro_rules | `(tactic| top_argsB) => `(tactic| with_reducible first | exact bn_len | exact bn_isinstance | exact bn_type | exact bn_list | exact bn_tuple | exact bn_range | exact bn_str | exact bn_int | exact bn_abs | exact bn_sum | exact bn_enumerate | exact bn_zip | exact bn_max | exact bn_min | exact bn_divmod | exact bn_callable)
local macro_rules | `(tactic| top_reprB) => `(tactic| with_reducible first | exact ga_83 | exact mk_83 | exact bo_83 | exact le_83 | exact ga_624 | exact mk_624 | exact bo_624 | exact le_624 | exact ga_651 | exact mk_651 | exact bo_651 | exact le_651 | exact ga_672 | exact mk_672 | exact bo_672 | exact le_672 | exact in_83 | exact if_83 | exact in_624 | exact if_624 | exact in_651 | exact if_651 | exact in_672 | exact if_672 | exact df_672_get_tokendefs | exact df_672_process_tokendef | exact df_672_process_state_ | exact df_672_process_regex_ | exact df_672_process_token_ | exact df_672_process_new_state_ | exact df_672_get_tokens_unprocessed | exact df_624_group | exact df_624_end | exact df_83_child | exact ni_str_TokenType_ | exact ni_str_combined | exact ni_tuple_inherit_ | exact ni_tuple_include | exact ni_tuple_default | exact ni_tuple_combined | exact ni_int_combined)
local macro_rules | `(tactic| top_caughtB) => `(tactic| with_reducible first | exact fl_83_names | exact fl_624_place | exact fl_624_pieces | exact fl_651_rows | exact fl_672_options | exact fl_672_stripnl | exact fl_672_stripall | exact fl_672_ensurenl | exact fl_672_filters | exact fl_672_tables | exact fl_672_all_tokens_ | exact fl_672_tmpname_ | exact fl_672_tokens_)
local macro_rules | `(tactic| top_raiseB) => `(tactic| with_reducible first | exact st_83_names | exact st_624_place | exact st_624_pieces | exact st_651_rows | exact st_672_options | exact st_672_stripnl | exact st_672_stripall | exact st_672_ensurenl | exact st_672_filters | exact st_672_tables | exact st_672_all_tokens_ | exact st_672_tmpname_ | exact st_672_tokens_)
local macro_rules | `(tactic| k_caughtNB) => `(tactic| with_reducible first | exact callee_bltin | exact callee_type | exact cal_83 | exact cal_624 | exact cal_651 | exact cal_672 | exact cal_621 | exact cal_615 | exact cal_648 | exact cal_73 | exact cal_115 | exact cal_494 | exact cal_501 | exact cal_551 | exact cal_544 | exact cal_536 | exact cal_669 | exact cal_522 | exact cal_529 | exact cal_580 | exact cal_278 | exact cal_682 | exact cal_687)

local macro_rules | `(tactic| top_raise) => `(tactic| with_reducible first | exact kn_89 | exact kn_88 | exact kn_90 | exact kn_108)

variable {w : World} {mg mb : Str → Option Value} {O : OsState} {A : Around} {F : PH} {N : List (Addr × OD)} {G : Array GenState}


theorem sp_LexInit {x d : Addr} (hA : Rm A 30) (R : Value → Led → Prop) (h : ∀ o fl, R .none ⟨F, (x, .inst 672 d) :: (d, .fld [("options", .ref o), ("stripnl", .bool true), ("stripall", .bool false), ("ensurenl", .bool true), ("filters", .ref fl)]) :: (o, .dic []) :: (fl, .lst []) :: N, G⟩) :
   Cl (cx w mg mb O) A ⟨F, (x, .inst 672 d) :: (d, .fld []) :: N, G⟩ (.call (.ref 278) ⟨[.ref x], []⟩) (Rv R) := by
  refine cl_defB rfl (by kernel_rfl!) hA.room rfl rfl (n := 0) (by rfl) ?_
  refine t_bindK (fun t => [("self", .ref x), ("options", t)]) (by rfl) fun o => ?_
  with_reducible refine opn ?_
  intro _
  with_reducible refine cells0 ?_
  with_reducible refine trB_cons ?_
  ((with_reducible refine' t_store ?zhL ?zu ?zhN ?zhl ?zhx ?zhk ?_); (case zhx => kernel_rfl!); (case zhN => top_name); (case zhL => rfl); (case zhl => k_caught0); (case zu => k_caught0); (case zhk => rfl))
  with_reducible refine trB_cons ?_
  ((with_reducible refine' t_store ?zhL ?zu ?zhN ?zhl ?zhx ?zhk ?_); (case zhx => kernel_rfl!); (case zhN => top_name); (case zhL => rfl); (case zhl => k_caught0); (case zu => k_caught0); (case zhk => rfl))
  with_reducible refine trB_nil ?_
  with_reducible refine t_cons ?_
  ((with_reducible refine t_AssignAttr ?_ ?zhs); (case zhs => rfl))
  ((with_reducible refine' t_local ?zhL ?zhN ?zhv ?zhx ?zhk ?zhd ?_); (case zhx => kernel_rfl!); (case zhN => top_name); (case zhL => rfl); (case zhv => top_name); (case zhk => rfl); (case zhd => decide +kernel))
  ((with_reducible refine' t_local ?zhL ?zhN ?zhv ?zhx ?zhk ?zhd ?_); (case zhx => kernel_rfl!); (case zhN => top_name); (case zhL => rfl); (case zhv => top_name); (case zhk => rfl); (case zhd => decide +kernel))
  ((with_reducible refine' t_setattr ?zhx ?zhd ?zhf ?zhl ?zu ?zhz ?_); (case zhx => top_raise); (case zhd => top_name); (case zhl => k_caught0); (case zu => k_caught0); (case zhf => top_raiseB); (case zhz => simp))
  with_reducible refine fl_next ?_
  with_reducible refine t_cons ?_
  ((with_reducible refine t_AssignAttr ?_ ?zhs); (case zhs => rfl))
  ((with_reducible refine' t_MCall ?_ ?zhe); (case zhe => rfl))
  ((with_reducible refine' t_local ?zhL ?zhN ?zhv ?zhx ?zhk ?zhd ?_); (case zhx => kernel_rfl!); (case zhN => top_name); (case zhL => rfl); (case zhv => top_name); (case zhk => rfl); (case zhd => decide +kernel))
  ((with_reducible refine' md_get ?zha ?_); (case zha => top_raise))
  with_reducible refine mc ?_
  with_reducible refine t_callWithP ?_
  ((with_reducible refine t_evalArgs ?_ ?zhe); (case zhe => rfl))
  ((with_reducible refine t_args ?_ ?zhe); (case zhe => rfl))
  ((with_reducible refine t_str ?_); (intro _))
  ((with_reducible refine t_args ?_ ?zhe); (case zhe => rfl))
  with_reducible refine t_bool ?_
  with_reducible refine t_args0 ?_
  ((with_reducible refine cp1 ?zhc ?_); (case zhc => k_caughtNB))
  ((with_reducible refine' t_dictGet0 ?zha ?_); (case zha => top_raise))
  ((with_reducible refine' t_local ?zhL ?zhN ?zhv ?zhx ?zhk ?zhd ?_); (case zhx => kernel_rfl!); (case zhN => top_name); (case zhL => rfl); (case zhv => top_name); (case zhk => rfl); (case zhd => decide +kernel))
  ((with_reducible refine' t_setattr ?zhx ?zhd ?zhf ?zhl ?zu ?zhz ?_); (case zhx => top_raise); (case zhd => top_name); (case zhl => k_caught0); (case zu => k_caught0); (case zhf => top_raiseB); (case zhz => simp))
  with_reducible refine fl_next ?_
  with_reducible refine t_cons ?_
  ((with_reducible refine t_AssignAttr ?_ ?zhs); (case zhs => rfl))
  ((with_reducible refine' t_MCall ?_ ?zhe); (case zhe => rfl))
  ((with_reducible refine' t_local ?zhL ?zhN ?zhv ?zhx ?zhk ?zhd ?_); (case zhx => kernel_rfl!); (case zhN => top_name); (case zhL => rfl); (case zhv => top_name); (case zhk => rfl); (case zhd => decide +kernel))
  ((with_reducible refine' md_get ?zha ?_); (case zha => top_raise))
  with_reducible refine mc ?_
  with_reducible refine t_callWithP ?_
  ((with_reducible refine t_evalArgs ?_ ?zhe); (case zhe => rfl))
  ((with_reducible refine t_args ?_ ?zhe); (case zhe => rfl))
  ((with_reducible refine t_str ?_); (intro _))
  ((with_reducible refine t_args ?_ ?zhe); (case zhe => rfl))
  with_reducible refine t_bool ?_
  with_reducible refine t_args0 ?_
  ((with_reducible refine cp1 ?zhc ?_); (case zhc => k_caughtNB))
  ((with_reducible refine' t_dictGet0 ?zha ?_); (case zha => top_raise))
  ((with_reducible refine' t_local ?zhL ?zhN ?zhv ?zhx ?zhk ?zhd ?_); (case zhx => kernel_rfl!); (case zhN => top_name); (case zhL => rfl); (case zhv => top_name); (case zhk => rfl); (case zhd => decide +kernel))
  ((with_reducible refine' t_setattr ?zhx ?zhd ?zhf ?zhl ?zu ?zhz ?_); (case zhx => top_raise); (case zhd => top_name); (case zhl => k_caught0); (case zu => k_caught0); (case zhf => top_raiseB); (case zhz => simp))
  with_reducible refine fl_next ?_
  with_reducible refine t_cons ?_
  ((with_reducible refine t_AssignAttr ?_ ?zhs); (case zhs => rfl))
  ((with_reducible refine' t_MCall ?_ ?zhe); (case zhe => rfl))
  ((with_reducible refine' t_local ?zhL ?zhN ?zhv ?zhx ?zhk ?zhd ?_); (case zhx => kernel_rfl!); (case zhN => top_name); (case zhL => rfl); (case zhv => top_name); (case zhk => rfl); (case zhd => decide +kernel))
  ((with_reducible refine' md_get ?zha ?_); (case zha => top_raise))
  with_reducible refine mc ?_
  with_reducible refine t_callWithP ?_
  ((with_reducible refine t_evalArgs ?_ ?zhe); (case zhe => rfl))
  ((with_reducible refine t_args ?_ ?zhe); (case zhe => rfl))
  ((with_reducible refine t_str ?_); (intro _))
  ((with_reducible refine t_args ?_ ?zhe); (case zhe => rfl))
  with_reducible refine t_bool ?_
  with_reducible refine t_args0 ?_
  ((with_reducible refine cp1 ?zhc ?_); (case zhc => k_caughtNB))
  ((with_reducible refine' t_dictGet0 ?zha ?_); (case zha => top_raise))
  ((with_reducible refine' t_local ?zhL ?zhN ?zhv ?zhx ?zhk ?zhd ?_); (case zhx => kernel_rfl!); (case zhN => top_name); (case zhL => rfl); (case zhv => top_name); (case zhk => rfl); (case zhd => decide +kernel))
  ((with_reducible refine' t_setattr ?zhx ?zhd ?zhf ?zhl ?zu ?zhz ?_); (case zhx => top_raise); (case zhd => top_name); (case zhl => k_caught0); (case zu => k_caught0); (case zhf => top_raiseB); (case zhz => simp))
  with_reducible refine fl_next ?_
  with_reducible refine t_cons ?_
  ((with_reducible refine t_AssignAttr ?_ ?zhs); (case zhs => rfl))
  with_reducible refine t_List ?_
  with_reducible refine t_args0 ?_
  ((with_reducible refine t_newList ?zhz ?_); (case zhz => simp [sizeLine]))
  intro _
  ((with_reducible refine' t_local ?zhL ?zhN ?zhv ?zhx ?zhk ?zhd ?_); (case zhx => kernel_rfl!); (case zhN => top_name); (case zhL => rfl); (case zhv => top_name); (case zhk => rfl); (case zhd => decide +kernel))
  ((with_reducible refine' t_setattr ?zhx ?zhd ?zhf ?zhl ?zu ?zhz ?_); (case zhx => top_raise); (case zhd => top_name); (case zhl => k_caught0); (case zu => k_caught0); (case zhf => top_raiseB); (case zhz => simp))
  with_reducible refine fl_next ?_
  with_reducible refine t_cons ?_
  ((with_reducible refine t_For ?_ ?zhs); (case zhs => exact fun _ => rfl))
  ((with_reducible refine' t_MCall ?_ ?zhe); (case zhe => rfl))
  ((with_reducible refine' t_local ?zhL ?zhN ?zhv ?zhx ?zhk ?zhd ?_); (case zhx => kernel_rfl!); (case zhN => top_name); (case zhL => rfl); (case zhv => top_name); (case zhk => rfl); (case zhd => decide +kernel))
  ((with_reducible refine' md_get ?zha ?_); (case zha => top_raise))
  with_reducible refine mc ?_
  with_reducible refine t_callWithP ?_
  ((with_reducible refine t_evalArgs ?_ ?zhe); (case zhe => rfl))
  ((with_reducible refine t_args ?_ ?zhe); (case zhe => rfl))
  ((with_reducible refine t_str ?_); (intro _))
  ((with_reducible refine t_args ?_ ?zhe); (case zhe => rfl))
  with_reducible refine t_Tuple ?_
  with_reducible refine t_args0 ?_
  ((with_reducible refine t_newTuple ?zhz ?_); (case zhz => decide))
  intro _
  with_reducible refine t_args0 ?_
  ((with_reducible refine cp1 ?zhc ?_); (case zhc => k_caughtNB))
  ((with_reducible refine' t_dictGet0 ?zha ?_); (case zha => top_raise))
  ((with_reducible refine' t_iterTup ?zha ?_); (case zha => top_raise); (intro _))
  with_reducible refine cl_for1 ?_
  ((with_reducible refine' t_nextTupEnd ?zhh ?zhi ?zha ?zhv ?zu ?_); (case zhh => (refine Rm.hd (n := 0) ?_; k_caughtN0)); (case zhi => top_name); (case zha => top_raise); (case zhv => simp); (case zu => k_caught0))
  with_reducible refine t_nil ?_
  with_reducible refine fl_next ?_
  with_reducible refine t_nil ?_
  exact ⟨_, by k_caught0, _, rfl, h _ _⟩
end Mine
namespace Mine
local macro_rules | `(tactic| top_name) => `(tactic| first | (with_reducible exact List.mem_cons_self) | (with_reducible refine List.mem_cons_of_mem _ ?_; top_name) | (with_reducible assumption))
local macro_rules | `(tactic| k_caught0) => `(tactic| first
  | (with_reducible exact LUpd.head) | (with_reducible exact LSet.nil) | (with_reducible exact LSet.head) | (with_reducible exact Rem.head) | (with_reducible exact Pick.refl)
  | ((with_reducible apply LUpd.tail); (k_caught0))
  | ((with_reducible apply LSet.tail); (· (decide +kernel)); (k_caught0))
  | ((with_reducible apply Rem.tail); (k_caught0))
  | ((with_reducible apply Pick.cons); (· k_caught0); (k_caught0))
  | ((with_reducible apply Pick.drop); (k_caught0)))
local macro_rules | `(tactic| top_raise) => `(tactic| first | (with_reducible refine Kn.row' ?_; top_name) | (with_reducible refine Kn.fz' ?_; with_reducible assumption) | (with_reducible assumption) | ((with_reducible refine Kn.skip ?_); top_raise))
local macro_rules | `(tactic| k_caughtN0) => `(tactic| first | assumption | (exact Rm.le (by assumption) (by decide)) | ((refine Rm.dp ?_); k_caughtN0) | ((refine Rm.mk' ?_); k_caughtN0) | (refine Rm.le (Rm.over (n := 40) (Rm.le (by assumption) (by decide)) (by first | exact Quiet.ok (by assumption) | exact fsOk_while (Quiet.ok (by assumption)))) (by decide)))
local macro_rules | `(tactic| k_caughtB) => `(tactic| first | exact Strs.nil | ((apply Strs.cons); k_caughtB) | assumption)
local macro_rules | `(tactic| top_strB) => `(tactic| with_reducible first | exact bl_len | exact bl_isinstance | exact bl_type | exact bl_list | exact bl_tuple | exact bl_range | exact bl_str | exact bl_int | exact bl_abs | exact bl_sum | exact bl_enumerate | exact bl_zip | exact bl_max | exact bl_min | exact bl_divmod | exact bl_callable)
local macro_rules | `(tactic| top_raise0) => `(tactic| with_reducible first | exact g_wall_ | exact g_TokenType_ | exact g_Token | exact g_Whitespace | exact g_Error | exact g_String | exact g_Number | exact g_ALIASES_ | exact g_string_to_tokentype | exact g_CS_ESCAPE | exact g_commonprefix | exact g_make_charset | exact g_pull_ | exact g_same_ | exact g_groupby | exact g_grouper_ | exact g_special_chars_map_ | exact g_escape | exact g_regex_opt_inner | exact g_regex_opt | exact g_Lexer | exact g_include | exact g_inherit_ | exact g_combined | exact g_PseudoMatch_ | exact g_default | exact g_words | exact g_nothing_ | exact g_inherit_place | exact g_merged_tokendefs | exact g_RegexLexerMeta | exact g_RegexLexer | exact g_PlainMatch | exact g_Plain | exact g_PlainLexer | exact g_law_rest_ | exact g_law_reads_ | exact g_law)
local macro_rules | `(tactic| top_argsB) => `(tactic| with_reducible first | exact bn_len | exact bn_isinstance | exact bn_type | exact bn_list | exact bn_tuple | exact bn_range | exact bn_str | exact bn_int | exact bn_abs | exact bn_sum | exact bn_enumerate | exact bn_zip | exact bn_max | exact bn_min | exact bn_divmod | exact bn_callable)
local macro_rules | `(tactic| top_reprB) => `(tactic| with_reducible first | exact ga_83 | exact mk_83 | exact bo_83 | exact le_83 | exact ga_624 | exact mk_624 | exact bo_624 | exact le_624 | exact ga_651 | exact mk_651 | exact bo_651 | exact le_651 | exact ga_672 | exact mk_672 | exact bo_672 | exact le_672 | exact in_83 | exact if_83 | exact in_624 | exact if_624 | exact in_651 | exact if_651 | exact in_672 | exact if_672 | exact df_672_get_tokendefs | exact df_672_process_tokendef | exact df_672_process_state_ | exact df_672_process_regex_ | exact df_672_process_token_ | exact df_672_process_new_state_ | exact df_672_get_tokens_unprocessed | exact df_624_group | exact df_624_end | exact df_83_child | exact ni_str_TokenType_ | exact ni_str_combined | exact ni_tuple_inherit_ | exact ni_tuple_include | exact ni_tuple_default | exact ni_tuple_combined | exact ni_int_combined)
local macro_rules | `(tactic| top_caughtB) => `(tactic| with_reducible first | exact fl_83_names | exact fl_624_place | exact fl_624_pieces | exact fl_651_rows | exact fl_672_options | exact fl_672_stripnl | exact fl_672_stripall | exact fl_672_ensurenl | exact fl_672_filters | exact fl_672_tables | exact fl_672_all_tokens_ | exact fl_672_tmpname_ | exact fl_672_tokens_)
local macro_rules | `(tactic| top_raiseB) => `(tactic| with_reducible first | exact st_83_names | exact st_624_place | exact st_624_pieces | exact st_651_rows | exact st_672_options | exact st_672_stripnl | exact st_672_stripall | exact st_672_ensurenl | exact st_672_filters | exact st_672_tables | exact st_672_all_tokens_ | exact st_672_tmpname_ | exact st_672_tokens_)
local macro_rules | `(tactic| k_caughtNB) => `(tactic| with_reducible first | exact callee_bltin | exact callee_type | exact cal_83 | exact cal_624 | exact cal_651 | exact cal_672 | exact cal_621 | exact cal_615 | exact cal_648 | exact cal_73 | exact cal_115 | exact cal_494 | exact cal_501 | exact cal_551 | exact cal_544 | exact cal_536 | exact cal_669 | exact cal_522 | exact cal_529 | exact cal_580 | exact cal_278 | exact cal_682 | exact cal_687)

local macro_rules | `(tactic| top_raise) => `(tactic| with_reducible first | exact kn_89 | exact kn_88 | exact kn_90 | exact kn_108)

variable {w : World} {mg mb : Str → Option Value} {O : OsState} {A : Around} {F : PH} {N : List (Addr × OD)} {G : Array GenState}

theorem sp_inh {ls : Addr} {vs : List Value} (hls : Kn (cx w mg mb O) ⟨F, N, G⟩ ls (.lst vs)) (hvs : FzT w.params F vs) (hA : Rm A 30) (R : Value → Led → Prop) (h : R .none ⟨F, N, G⟩) :
   Cl (cx w mg mb O) A ⟨F, N, G⟩ (.call (.ref 494) ⟨[.ref ls], []⟩) (Rv R) := by
  refine cl_def' (binds := [("items", .ref ls)]) rfl (by kernel_rfl!) (by kernel_rfl!) hA.room rfl rfl (n := 0) (by rfl) ?_
  intro L
  with_reducible refine cells0 ?_
  with_reducible refine trB_cons ?_
  ((with_reducible refine' t_store ?zhL ?zu ?zhN ?zhl ?zhx ?zhk ?_); (case zhx => kernel_rfl!); (case zhN => top_name); (case zhL => rfl); (case zhl => k_caught0); (case zu => k_caught0); (case zhk => rfl))
  with_reducible refine trB_nil ?_
  with_reducible refine t_cons ?_
  ((with_reducible refine t_For ?_ ?zhs); (case zhs => exact fun _ => rfl))
  ((with_reducible refine t_Call ?_ ?zhe); (case zhe => rfl))
  ((with_reducible refine' t_bltin ?ze ?zhv ?zhn ?zhg ?zhb ?zhk ?zhx ?zhd ?_); (case zhv => top_strB); (case ze => top_argsB); (case zhn => decide +kernel); (case zhg => rfl); (case zhb => rfl); (case zhk => rfl); (case zhx => kernel_rfl!); (case zhd => decide +kernel))
  with_reducible refine t_callWithP ?_
  ((with_reducible refine t_evalArgs ?_ ?zhe); (case zhe => rfl))
  ((with_reducible refine t_args ?_ ?zhe); (case zhe => rfl))
  ((with_reducible refine' t_local ?zhL ?zhN ?zhv ?zhx ?zhk ?zhd ?_); (case zhx => kernel_rfl!); (case zhN => top_name); (case zhL => rfl); (case zhv => top_name); (case zhk => rfl); (case zhd => decide +kernel))
  with_reducible refine t_args0 ?_
  ((with_reducible refine cp0 ?zhc ?_); (case zhc => k_caughtNB))
  ((with_reducible refine' t_enumList ?zha ?_); (case zha => top_raise); (intro _ _))
  ((with_reducible refine' t_iterEnum ?zhe ?_); (case zhe => top_name))
  rename_i e it
  refine cl_ind (Inv := fun j l => ∃ (i : Nat) (old : Value), l = ⟨F, (e, enumO it i old) :: (it, itL ls i) :: (L, .ns [("items", .ref ls)]) :: N, G⟩ ∧ i + j = vs.length) ?_ vs.length _ ⟨0, .none, rfl, by omega⟩
  rintro j l IH ⟨i, old, rfl, hij⟩
  refine cl_for1 ?_
  rcases Nat.lt_or_ge i vs.length with hi | hi
  · obtain ⟨a, ws, hv, ha⟩ := hvs i _ (List.getElem?_eq_getElem hi)
    have hv' := List.getElem?_eq_getElem hi
    rw [hv] at hv'
    ((with_reducible refine' t_nextEnumL ?zr1 ?zr2 ?zha ?zhv ?_); (case zr1 => k_caught0); (case zr2 => k_caught0); (case zha => top_raise); (case zhv => exact hv'); (intro _ _))
    ((with_reducible refine' t_goTupE ?zhe ?zu ?_); (case zhe => top_name); (case zu => k_caught0))
    ((with_reducible refine' t_assignTup ?zhh ?zha ?zhe ?zhn ?_); (case zhh => (refine Rm.hd (n := 0) ?_; k_caughtN0)); (case zha => top_raise); (case zhe => rfl); (case zhn => rfl))
    with_reducible refine trA_cons ?_
    with_reducible refine t_assignName ?_
    ((with_reducible refine' t_store ?zhL ?zu ?zhN ?zhl ?zhx ?zhk ?_); (case zhx => kernel_rfl!); (case zhN => top_name); (case zhL => rfl); (case zhl => k_caught0); (case zu => k_caught0); (case zhk => rfl))
    with_reducible refine trA_cons ?_
    with_reducible refine t_assignName ?_
    ((with_reducible refine' t_store ?zhL ?zu ?zhN ?zhl ?zhx ?zhk ?_); (case zhx => kernel_rfl!); (case zhN => top_name); (case zhL => rfl); (case zhl => k_caught0); (case zu => k_caught0); (case zhk => rfl))
    with_reducible refine trA_nil ?_
    with_reducible refine t_cons ?_
    with_reducible refine t_If ?_
    ((with_reducible refine t_isVal ?_ ?zhe); (case zhe => rfl))
    ((with_reducible refine t_Call ?_ ?zhe); (case zhe => rfl))
    ((with_reducible refine' t_bltin ?ze ?zhv ?zhn ?zhg ?zhb ?zhk ?zhx ?zhd ?_); (case zhv => top_strB); (case ze => top_argsB); (case zhn => decide +kernel); (case zhg => rfl); (case zhb => rfl); (case zhk => rfl); (case zhx => kernel_rfl!); (case zhd => decide +kernel))
    with_reducible refine t_callWithP ?_
    ((with_reducible refine t_evalArgs ?_ ?zhe); (case zhe => rfl))
    ((with_reducible refine t_args ?_ ?zhe); (case zhe => rfl))
    ((with_reducible refine' t_local ?zhL ?zhN ?zhv ?zhx ?zhk ?zhd ?_); (case zhx => kernel_rfl!); (case zhN => top_name); (case zhL => rfl); (case zhv => top_name); (case zhk => rfl); (case zhd => decide +kernel))
    ((with_reducible refine t_args ?_ ?zhe); (case zhe => rfl))
    ((with_reducible refine' t_glob ?ze ?zhg ?zhk ?zhx ?zhd ?_); (case ze => top_raise0); (case zhg => rfl); (case zhk => rfl); (case zhx => kernel_rfl!); (case zhd => decide +kernel))
    with_reducible refine t_args0 ?_
    ((with_reducible refine cp0 ?zhc ?_); (case zhc => k_caughtNB))
    ((with_reducible refine' tin_tupF ?zha ?zhe ?_); (case zha => top_raise); (case zhe => top_reprB))
    with_reducible refine tt_bool ?_
    with_reducible refine if_f ?_
    with_reducible refine t_nil ?_
    with_reducible refine fl_next ?_
    with_reducible refine t_nil ?_
    with_reducible refine tu_next ?_
    exact cl_fix (by k_caught0) (by k_caught0) (by k_caught0) (IH (vs.length - (i + 1)) (by omega) _ ⟨i + 1, _, rfl, by omega⟩)
  · ((with_reducible refine' t_nextEnumLEnd ?zhh ?zr1 ?zr2 ?zha ?zhv ?_); (case zhh => (refine Rm.hd (n := 0) ?_; k_caughtN0)); (case zr1 => k_caught0); (case zr2 => k_caught0); (case zha => top_raise); (case zhv => exact hi))
    with_reducible refine t_nil ?_
    with_reducible refine fl_next ?_
    with_reducible refine t_cons ?_
    with_reducible refine t_Return ?_
    with_reducible refine t_none ?_
    with_reducible refine fl_ret ?_
    exact ⟨_, by k_caught0, _, rfl, h⟩
theorem sp_merge {tt td : Addr} {kvs : List (Str × Value)} {ep : Nat} (htt : Kn (cx w mg mb O) ⟨F, N, G⟩ tt (.tup [.ref td])) (htd : FzD w.params F td kvs ep) (hsrc : SrcOk w.params F kvs) (hz : kvs.length ≤ 1000) (hA : Rm A 60) (R : Value → Led → Prop)
    (h : ∀ F' tk acc, F.le F' → acc.length = kvs.length → Cop w.params F' kvs acc → R (.ref tk) ⟨F', (tk, .dic acc) :: N, G⟩) :
   Cl (cx w mg mb O) A ⟨F, N, G⟩ (.call (.ref 501) ⟨[.ref tt], []⟩) (Rv R) := by
  refine cl_def' (binds := [("tables", .ref tt)]) rfl (by kernel_rfl!) (by kernel_rfl!) hA.room rfl rfl (n := 0) (by rfl) ?_
  intro L
  have htd' := htd.fz
  with_reducible refine cells0 ?_
  with_reducible refine trB_cons ?_
  ((with_reducible refine' t_store ?zhL ?zu ?zhN ?zhl ?zhx ?zhk ?_); (case zhx => kernel_rfl!); (case zhN => top_name); (case zhL => rfl); (case zhl => k_caught0); (case zu => k_caught0); (case zhk => rfl))
  with_reducible refine trB_nil ?_
  with_reducible refine t_cons ?_
  ((with_reducible refine t_AssignName ?_ ?zhs); (case zhs => rfl))
  ((with_reducible refine t_Dict0 ?_); (intro _))
  ((with_reducible refine' t_store ?zhL ?zu ?zhN ?zhl ?zhx ?zhk ?_); (case zhx => kernel_rfl!); (case zhN => top_name); (case zhL => rfl); (case zhl => k_caught0); (case zu => k_caught0); (case zhk => rfl))
  with_reducible refine fl_next ?_
  with_reducible refine t_cons ?_
  ((with_reducible refine t_AssignName ?_ ?zhs); (case zhs => rfl))
  ((with_reducible refine t_Dict0 ?_); (intro _))
  ((with_reducible refine' t_store ?zhL ?zu ?zhN ?zhl ?zhx ?zhk ?_); (case zhx => kernel_rfl!); (case zhN => top_name); (case zhL => rfl); (case zhl => k_caught0); (case zu => k_caught0); (case zhk => rfl))
  with_reducible refine fl_next ?_
  with_reducible refine t_cons ?_
  ((with_reducible refine t_For ?_ ?zhs); (case zhs => exact fun _ => rfl))
  ((with_reducible refine' t_local ?zhL ?zhN ?zhv ?zhx ?zhk ?zhd ?_); (case zhx => kernel_rfl!); (case zhN => top_name); (case zhL => rfl); (case zhv => top_name); (case zhk => rfl); (case zhd => decide +kernel))
  ((with_reducible refine' t_iterTup ?zha ?_); (case zha => top_raise); (intro _))
  rename_i tks inh it
  refine cl_for1 ?_
  ((with_reducible refine' t_nextTup ?zhi ?zha ?zhv ?zu ?_); (case zhi => top_name); (case zha => top_raise); (case zhv => rfl); (case zu => k_caught0))
  with_reducible refine t_goName ?_
  with_reducible refine t_assignName ?_
  ((with_reducible refine' t_store ?zhL ?zu ?zhN ?zhl ?zhx ?zhk ?_); (case zhx => kernel_rfl!); (case zhN => top_name); (case zhL => rfl); (case zhl => k_caught0); (case zu => k_caught0); (case zhk => rfl))
  with_reducible refine t_cons ?_
  ((with_reducible refine t_For ?_ ?zhs); (case zhs => exact fun _ => rfl))
  ((with_reducible refine' t_MCall ?_ ?zhe); (case zhe => rfl))
  ((with_reducible refine' t_local ?zhL ?zhN ?zhv ?zhx ?zhk ?zhd ?_); (case zhx => kernel_rfl!); (case zhN => top_name); (case zhL => rfl); (case zhv => top_name); (case zhk => rfl); (case zhd => decide +kernel))
  ((with_reducible refine' md_items ?zha ?_); (case zha => top_raise))
  with_reducible refine mc ?_
  with_reducible refine t_callWithP ?_
  with_reducible refine t_evalArgs0 ?_
  ((with_reducible refine cp1 ?zhc ?_); (case zhc => k_caughtNB))
  ((with_reducible refine' t_dictItems ?zha ?_); (case zha => top_raise); (intro _))
  ((with_reducible refine' t_iterItems ?zhv ?zha ?_); (case zhv => top_name); (case zha => assumption); (intro _))
  rename_i vw itd
  refine cl_fix (N2 := (itd, itD td 0 kvs.length ep .none .none) :: (it, itT tt 1) :: (tks, .dic []) :: (inh, .dic []) :: (L, .ns [("tables", .ref tt), ("tokens", .ref tks), ("inheritable", .ref inh), ("toks", .ref td)]) :: N) (by k_caught0) (by k_caught0) (by k_caught0) ?_
  refine cl_ind (Inv := fun j l => ∃ (F' : PH) (acc : List (Str × Value)) (ok ov : Value), l = ⟨F', (itd, itD td acc.length kvs.length ep ok ov) :: (it, itT tt 1) :: (tks, .dic acc) :: (inh, .dic []) :: (L, .ns [("tables", .ref tt), ("tokens", .ref tks), ("inheritable", .ref inh), ("toks", .ref td)]) :: N, G⟩ ∧ F.le F' ∧ acc.length + j = kvs.length ∧ Cop w.params F' kvs acc) ?_ kvs.length _ ⟨F, [], .none, .none, rfl, PH.le_refl F, by simp, Cop.nil⟩
  rintro j l IH ⟨F1, acc, ok, ov, rfl, hF1, hj, hcop⟩
  have htt1 := htt.le hF1
  refine cl_for1 ?_
  rcases Nat.lt_or_ge acc.length kvs.length with hi | hi
  · obtain ⟨k, v, hkv⟩ : ∃ k v, kvs[acc.length]? = some (k, v) := ⟨_, _, List.getElem?_eq_getElem hi⟩
    obtain ⟨a, vs, rfl, ha, hvs, hvz⟩ := hsrc _ _ _ hkv
    have ha1 := ha.mono hF1
    have hvs1 := hvs.mono hF1
    have hfr := fresh_key htd.nodup hcop.key hkv (Nat.le_refl _)
    have haz : acc.length ≤ 1000 := by omega
    ((with_reducible refine' t_nextItems ?zr ?zha ?zhv ?_); (case zr => k_caught0); (case zha => exact htd.mono hF1); (case zhv => exact hkv); (intro _ _))
    ((with_reducible refine' t_goTupD ?zhe ?zu ?_); (case zhe => top_name); (case zu => k_caught0))
    ((with_reducible refine' t_assignTup ?zhh ?zha ?zhe ?zhn ?_); (case zhh => (refine Rm.hd (n := 0) ?_; k_caughtN0)); (case zha => top_raise); (case zhe => rfl); (case zhn => rfl))
    with_reducible refine trA_cons ?_
    with_reducible refine t_assignName ?_
    ((with_reducible refine' t_store ?zhL ?zu ?zhN ?zhl ?zhx ?zhk ?_); (case zhx => kernel_rfl!); (case zhN => top_name); (case zhL => rfl); (case zhl => k_caught0); (case zu => k_caught0); (case zhk => rfl))
    with_reducible refine trA_cons ?_
    with_reducible refine t_assignName ?_
    ((with_reducible refine' t_store ?zhL ?zu ?zhN ?zhl ?zhx ?zhk ?_); (case zhx => kernel_rfl!); (case zhN => top_name); (case zhL => rfl); (case zhl => k_caught0); (case zu => k_caught0); (case zhk => rfl))
    with_reducible refine trA_nil ?_
    with_reducible refine t_cons ?_
    ((with_reducible refine t_AssignName ?_ ?zhs); (case zhs => rfl))
    ((with_reducible refine' t_MCall ?_ ?zhe); (case zhe => rfl))
    ((with_reducible refine' t_local ?zhL ?zhN ?zhv ?zhx ?zhk ?zhd ?_); (case zhx => kernel_rfl!); (case zhN => top_name); (case zhL => rfl); (case zhv => top_name); (case zhk => rfl); (case zhd => decide +kernel))
    ((with_reducible refine' md_get ?zha ?_); (case zha => top_raise))
    with_reducible refine mc ?_
    with_reducible refine t_callWithP ?_
    ((with_reducible refine t_evalArgs ?_ ?zhe); (case zhe => rfl))
    ((with_reducible refine t_args ?_ ?zhe); (case zhe => rfl))
    ((with_reducible refine' t_local ?zhL ?zhN ?zhv ?zhx ?zhk ?zhd ?_); (case zhx => kernel_rfl!); (case zhN => top_name); (case zhL => rfl); (case zhv => top_name); (case zhk => rfl); (case zhd => decide +kernel))
    with_reducible refine t_args0 ?_
    ((with_reducible refine cp1 ?zhc ?_); (case zhc => k_caughtNB))
    ((with_reducible refine' t_dictGetN ?zha ?zhv ?_); (case zha => top_raise); (case zhv => assumption))
    ((with_reducible refine' t_store ?zhL ?zu ?zhN ?zhl ?zhx ?zhk ?_); (case zhx => kernel_rfl!); (case zhN => top_name); (case zhL => rfl); (case zhl => k_caught0); (case zu => k_caught0); (case zhk => rfl))
    with_reducible refine fl_next ?_
    with_reducible refine t_cons ?_
    with_reducible refine t_If ?_
    ((with_reducible refine t_isCmp ?_ ?zhb); (case zhb => rfl))
    ((with_reducible refine' t_local ?zhL ?zhN ?zhv ?zhx ?zhk ?zhd ?_); (case zhx => kernel_rfl!); (case zhN => top_name); (case zhL => rfl); (case zhv => top_name); (case zhk => rfl); (case zhd => decide +kernel))
    with_reducible refine t_none ?_
    ((with_reducible refine tc_is ?zhp ?_); (case zhp => rfl))
    with_reducible refine tt_bool ?_
    ((with_reducible refine if_T ?ze ?_); (case ze => (first | rfl | decide)))
    with_reducible refine t_cons ?_
    ((with_reducible refine t_AssignSub ?_ ?zhs); (case zhs => rfl))
    ((with_reducible refine t_Call ?_ ?zhe); (case zhe => rfl))
    ((with_reducible refine' t_bltin ?ze ?zhv ?zhn ?zhg ?zhb ?zhk ?zhx ?zhd ?_); (case zhv => top_strB); (case ze => top_argsB); (case zhn => decide +kernel); (case zhg => rfl); (case zhb => rfl); (case zhk => rfl); (case zhx => kernel_rfl!); (case zhd => decide +kernel))
    with_reducible refine t_callWithP ?_
    ((with_reducible refine t_evalArgs ?_ ?zhe); (case zhe => rfl))
    ((with_reducible refine t_args ?_ ?zhe); (case zhe => rfl))
    ((with_reducible refine' t_local ?zhL ?zhN ?zhv ?zhx ?zhk ?zhd ?_); (case zhx => kernel_rfl!); (case zhN => top_name); (case zhL => rfl); (case zhv => top_name); (case zhk => rfl); (case zhd => decide +kernel))
    with_reducible refine t_args0 ?_
    ((with_reducible refine cp0 ?zhc ?_); (case zhc => k_caughtNB))
    ((with_reducible refine' t_listOfList ?zha ?zhz ?_); (case zha => top_raise); (case zhz => omega); (intro _))
    ((with_reducible refine' t_local ?zhL ?zhN ?zhv ?zhx ?zhk ?zhd ?_); (case zhx => kernel_rfl!); (case zhN => top_name); (case zhL => rfl); (case zhv => top_name); (case zhk => rfl); (case zhd => decide +kernel))
    ((with_reducible refine' t_local ?zhL ?zhN ?zhv ?zhx ?zhk ?zhd ?_); (case zhx => kernel_rfl!); (case zhN => top_name); (case zhL => rfl); (case zhv => top_name); (case zhk => rfl); (case zhd => decide +kernel))
    ((with_reducible refine' t_dictSetN ?zha ?zhv ?zu ?zhz ?_); (case zha => top_name); (case zhv => (first | assumption | rfl)); (case zu => k_caught0); (case zhz => (first | decide | (simp; done) | omega)))
    with_reducible refine fl_next ?_
    with_reducible refine t_cons ?_
    ((with_reducible refine t_AssignName ?_ ?zhs); (case zhs => rfl))
    ((with_reducible refine t_Call ?_ ?zhe); (case zhe => rfl))
    ((with_reducible refine' t_glob ?ze ?zhg ?zhk ?zhx ?zhd ?_); (case ze => top_raise0); (case zhg => rfl); (case zhk => rfl); (case zhx => kernel_rfl!); (case zhd => decide +kernel))
    with_reducible refine t_callWithP ?_
    ((with_reducible refine t_evalArgs ?_ ?zhe); (case zhe => rfl))
    ((with_reducible refine t_args ?_ ?zhe); (case zhe => rfl))
    ((with_reducible refine' t_local ?zhL ?zhN ?zhv ?zhx ?zhk ?zhd ?_); (case zhx => kernel_rfl!); (case zhN => top_name); (case zhL => rfl); (case zhv => top_name); (case zhk => rfl); (case zhd => decide +kernel))
    with_reducible refine t_args0 ?_
    ((with_reducible refine cp0 ?zhc ?_); (case zhc => k_caughtNB))
    ((with_reducible refine' tr_call (sp_inh ?zhl ?zhv ?zhA _ ?_)); (case zhl => top_raise); (case zhv => assumption); (case zhA => k_caughtN0))
    ((with_reducible refine' t_store ?zhL ?zu ?zhN ?zhl ?zhx ?zhk ?_); (case zhx => kernel_rfl!); (case zhN => top_name); (case zhL => rfl); (case zhl => k_caught0); (case zu => k_caught0); (case zhk => rfl))
    with_reducible refine fl_next ?_
    with_reducible refine t_cons ?_
    with_reducible refine t_If ?_
    ((with_reducible refine t_isCmp ?_ ?zhb); (case zhb => rfl))
    ((with_reducible refine' t_local ?zhL ?zhN ?zhv ?zhx ?zhk ?zhd ?_); (case zhx => kernel_rfl!); (case zhN => top_name); (case zhL => rfl); (case zhv => top_name); (case zhk => rfl); (case zhd => decide +kernel))
    with_reducible refine t_none ?_
    ((with_reducible refine tc_is ?zhp ?_); (case zhp => rfl))
    with_reducible refine tt_bool ?_
    ((with_reducible refine if_T ?ze ?_); (case ze => (first | rfl | decide)))
    with_reducible refine t_cons ?_
    ((with_reducible refine t_Continue ?_ ?zhs); (case zhs => rfl))
    with_reducible refine fl_cont ?_
    with_reducible refine fl_cont ?_
    with_reducible refine fl_cont ?_
    with_reducible refine tu_cont ?_
    rename_i tp tkk c
    refine cl_fix (N2 := (c, .lst vs) :: (itd, itD td (acc.length + 1) kvs.length ep (.str k tkk) (.ref a)) :: (it, itT tt 1) :: (tks, .dic (acc ++ [(k, .ref c)])) :: (inh, .dic []) :: (L, .ns [("tables", .ref tt), ("tokens", .ref tks), ("inheritable", .ref inh), ("toks", .ref td)]) :: N) (by k_caught0) (by k_caught0) (by k_caught0) ?_
    refine cl_freeze (by k_caught0) fun F2 hF2 hc => ?_
    have e : acc.length + 1 = (acc ++ [(k, Value.ref c)]).length := by simp
    rw [e]
    exact IH (kvs.length - (acc.length + 1)) (by omega) _ ⟨F2, _, _, _, rfl, PH.le_trans hF1 hF2, by simp; omega, (hcop.mono hF2).snoc hkv (ha1.mono hF2) hc⟩
  · ((with_reducible refine' t_nextItemsEnd ?zhh ?zr ?zha ?zhv ?_); (case zhh => (refine Rm.hd (n := 0) ?_; k_caughtN0)); (case zr => k_caught0); (case zha => exact htd.mono hF1); (case zhv => omega))
    with_reducible refine t_nil ?_
    with_reducible refine fl_next ?_
    with_reducible refine t_nil ?_
    with_reducible refine tu_next ?_
    refine cl_for1 ?_
    ((with_reducible refine' t_nextTupEnd ?zhh ?zhi ?zha ?zhv ?zu ?_); (case zhh => (refine Rm.hd (n := 0) ?_; k_caughtN0)); (case zhi => top_name); (case zha => top_raise); (case zhv => simp); (case zu => k_caught0))
    with_reducible refine t_nil ?_
    with_reducible refine fl_next ?_
    with_reducible refine t_cons ?_
    with_reducible refine t_Return ?_
    ((with_reducible refine' t_local ?zhL ?zhN ?zhv ?zhx ?zhk ?zhd ?_); (case zhx => kernel_rfl!); (case zhN => top_name); (case zhL => rfl); (case zhv => top_name); (case zhk => rfl); (case zhd => decide +kernel))
    with_reducible refine fl_ret ?_
    exact ⟨_, by k_caught0, _, rfl, h _ _ _ hF1 (by omega) hcop⟩
end Mine

namespace Mine
local macro_rules | `(tactic| top_name) => `(tactic| first | (with_reducible exact List.mem_cons_self) | (with_reducible refine List.mem_cons_of_mem _ ?_; top_name) | (with_reducible assumption))
local macro_rules | `(tactic| k_caught0) => `(tactic| first
  | (with_reducible exact LUpd.head) | (with_reducible exact LSet.nil) | (with_reducible exact LSet.head) | (with_reducible exact Rem.head) | (with_reducible exact Pick.refl)
  | ((with_reducible apply LUpd.tail); (k_caught0))
  | ((with_reducible apply LSet.tail); (· (decide +kernel)); (k_caught0))
  | ((with_reducible apply Rem.tail); (k_caught0))
  | ((with_reducible apply Pick.cons); (· k_caught0); (k_caught0))
  | ((with_reducible apply Pick.drop); (k_caught0)))
local macro_rules | `(tactic| top_raise) => `(tactic| first | (with_reducible refine Kn.row' ?_; top_name) | (with_reducible refine Kn.fz' ?_; with_reducible assumption) | (with_reducible assumption) | ((with_reducible refine Kn.skip ?_); top_raise))
local macro_rules | `(tactic| k_caughtN0) => `(tactic| first | assumption | (exact Rm.le (by assumption) (by decide)) | ((refine Rm.dp ?_); k_caughtN0) | ((refine Rm.mk' ?_); k_caughtN0) | (refine Rm.le (Rm.over (n := 40) (Rm.le (by assumption) (by decide)) (by first | exact Quiet.ok (by assumption) | exact fsOk_while (Quiet.ok (by assumption)))) (by decide)))
local macro_rules | `(tactic| k_caughtB) => `(tactic| first | exact Strs.nil | ((apply Strs.cons); k_caughtB) | assumption)
local macro_rules | `(tactic| top_strB) => `(tactic| with_reducible first | exact bl_len | exact bl_isinstance | exact bl_type | exact bl_list | exact bl_tuple | exact bl_range | exact bl_str | exact bl_int | exact bl_abs | exact bl_sum | exact bl_enumerate | exact bl_zip | exact bl_max | exact bl_min | exact bl_divmod | exact bl_callable)
local macro_rules | `(tactic| top_raise0) => `(tactic| with_reducible first | exact g_wall_ | exact g_TokenType_ | exact g_Token | exact g_Whitespace | exact g_Error | exact g_String | exact g_Number | exact g_ALIASES_ | exact g_string_to_tokentype | exact g_CS_ESCAPE | exact g_commonprefix | exact g_make_charset | exact g_pull_ | exact g_same_ | exact g_groupby | exact g_grouper_ | exact g_special_chars_map_ | exact g_escape | exact g_regex_opt_inner | exact g_regex_opt | exact g_Lexer | exact g_include | exact g_inherit_ | exact g_combined | exact g_PseudoMatch_ | exact g_default | exact g_words | exact g_nothing_ | exact g_inherit_place | exact g_merged_tokendefs | exact g_RegexLexerMeta | exact g_RegexLexer | exact g_PlainMatch | exact g_Plain | exact g_PlainLexer | exact g_law_rest_ | exact g_law_reads_ | exact g_law)
local macro_rules | `(tactic| top_argsB) => `(tactic| with_reducible first | exact bn_len | exact bn_isinstance | exact bn_type | exact bn_list | exact bn_tuple | exact bn_range | exact bn_str | exact bn_int | exact bn_abs | exact bn_sum | exact bn_enumerate | exact bn_zip | exact bn_max | exact bn_min | exact bn_divmod | exact bn_callable)
local macro_rules | `(tactic| top_reprB) => `(tactic| with_reducible first | exact ga_83 | exact mk_83 | exact bo_83 | exact le_83 | exact ga_624 | exact mk_624 | exact bo_624 | exact le_624 | exact ga_651 | exact mk_651 | exact bo_651 | exact le_651 | exact ga_672 | exact mk_672 | exact bo_672 | exact le_672 | exact in_83 | exact if_83 | exact in_624 | exact if_624 | exact in_651 | exact if_651 | exact in_672 | exact if_672 | exact df_672_get_tokendefs | exact df_672_process_tokendef | exact df_672_process_state_ | exact df_672_process_regex_ | exact df_672_process_token_ | exact df_672_process_new_state_ | exact df_672_get_tokens_unprocessed | exact df_624_group | exact df_624_end | exact df_83_child | exact ni_str_TokenType_ | exact ni_str_combined | exact ni_tuple_inherit_ | exact ni_tuple_include | exact ni_tuple_default | exact ni_tuple_combined | exact ni_int_combined)
local macro_rules | `(tactic| top_caughtB) => `(tactic| with_reducible first | exact fl_83_names | exact fl_624_place | exact fl_624_pieces | exact fl_651_rows | exact fl_672_options | exact fl_672_stripnl | exact fl_672_stripall | exact fl_672_ensurenl | exact fl_672_filters | exact fl_672_tables | exact fl_672_all_tokens_ | exact fl_672_tmpname_ | exact fl_672_tokens_)
local macro_rules | `(tactic| top_raiseB) => `(tactic| with_reducible first | exact st_83_names | exact st_624_place | exact st_624_pieces | exact st_651_rows | exact st_672_options | exact st_672_stripnl | exact st_672_stripall | exact st_672_ensurenl | exact st_672_filters | exact st_672_tables | exact st_672_all_tokens_ | exact st_672_tmpname_ | exact st_672_tokens_)
local macro_rules | `(tactic| k_caughtNB) => `(tactic| with_reducible first | exact callee_bltin | exact callee_type | exact cal_83 | exact cal_624 | exact cal_651 | exact cal_672 | exact cal_621 | exact cal_615 | exact cal_648 | exact cal_73 | exact cal_115 | exact cal_494 | exact cal_501 | exact cal_551 | exact cal_544 | exact cal_536 | exact cal_669 | exact cal_522 | exact cal_529 | exact cal_580 | exact cal_278 | exact cal_682 | exact cal_687)

local macro_rules | `(tactic| top_raise) => `(tactic| with_reducible first | exact kn_89 | exact kn_88 | exact kn_90 | exact kn_108)

variable {w : World} {mg mb : Str → Option Value} {O : OsState} {A : Around} {F : PH} {N : List (Addr × OD)} {G : Array GenState}
/-- a lexer's fields while its table is made -/
abbrev lxF (o fl tt at_ : Addr) (tn : Tok) : List (Str × Value) := [("options", .ref o), ("stripnl", .bool true), ("stripall", .bool false), ("ensurenl", .bool true), ("filters", .ref fl), ("tables", .ref tt), ("_all_tokens", .ref at_), ("_tmpname", .int 0 tn)]
theorem sp_pregex {x pl d : Addr} {rf st rv : Value} (hpl : Kn (cx w mg mb O) ⟨F, N, G⟩ pl (.inst 651 d)) (hd : Kn (cx w mg mb O) ⟨F, N, G⟩ d (.fld [("rows", rv)])) (hA : Rm A 20) (R : Value → Led → Prop)
    (h : ∀ a, R (.ref a) ⟨F, (a, .raw (methodObj (.ref 648) (.ref pl))) :: N, G⟩) :
   Cl (cx w mg mb O) A ⟨F, N, G⟩ (.call (.ref 669) ⟨[.ref x, .ref pl, rf, st], []⟩) (Rv R) := by
  refine cl_def' (binds := [("cls", .ref x), ("regex", .ref pl), ("rflags", rf), ("state", st)]) rfl (by kernel_rfl!) (by kernel_rfl!) hA.room rfl rfl (n := 0) (by rfl) ?_
  intro L
  with_reducible refine cells0 ?_
  with_reducible refine trB_cons ?_
  ((with_reducible refine' t_store ?zhL ?zu ?zhN ?zhl ?zhx ?zhk ?_); (case zhx => kernel_rfl!); (case zhN => top_name); (case zhL => rfl); (case zhl => k_caught0); (case zu => k_caught0); (case zhk => rfl))
  with_reducible refine trB_cons ?_
  ((with_reducible refine' t_store ?zhL ?zu ?zhN ?zhl ?zhx ?zhk ?_); (case zhx => kernel_rfl!); (case zhN => top_name); (case zhL => rfl); (case zhl => k_caught0); (case zu => k_caught0); (case zhk => rfl))
  with_reducible refine trB_cons ?_
  ((with_reducible refine' t_store ?zhL ?zu ?zhN ?zhl ?zhx ?zhk ?_); (case zhx => kernel_rfl!); (case zhN => top_name); (case zhL => rfl); (case zhl => k_caught0); (case zu => k_caught0); (case zhk => rfl))
  with_reducible refine trB_cons ?_
  ((with_reducible refine' t_store ?zhL ?zu ?zhN ?zhl ?zhx ?zhk ?_); (case zhx => kernel_rfl!); (case zhN => top_name); (case zhL => rfl); (case zhl => k_caught0); (case zu => k_caught0); (case zhk => rfl))
  with_reducible refine trB_nil ?_
  with_reducible refine t_cons ?_
  with_reducible refine t_Return ?_
  ((with_reducible refine t_Attr ?_ ?zhe); (case zhe => rfl))
  ((with_reducible refine' t_local ?zhL ?zhN ?zhv ?zhx ?zhk ?zhd ?_); (case zhx => kernel_rfl!); (case zhN => top_name); (case zhL => rfl); (case zhv => top_name); (case zhk => rfl); (case zhd => decide +kernel))
  ((with_reducible refine' t_bound ?zhx ?zhd ?zhf ?zhg ?zhn ?_); (case zhx => top_raise); (case zhd => top_raise); (case zhf => exact bd_match); (case zhg => top_reprB); (case zhn => kernel_rfl!); (intro _))
  with_reducible refine fl_ret ?_
  exact ⟨_, by k_caught0, _, rfl, h _⟩
theorem sp_ptoken {x ty d : Addr} {fs : List (Str × Value)} (hty : Kn (cx w mg mb O) ⟨F, N, G⟩ ty (.inst 83 d)) (hd : Kn (cx w mg mb O) ⟨F, N, G⟩ d (.fld fs)) (hA : Rm A 20) (R : Value → Led → Prop)
    (h : R (.ref ty) ⟨F, N, G⟩) :
   Cl (cx w mg mb O) A ⟨F, N, G⟩ (.call (.ref 522) ⟨[.ref x, .ref ty], []⟩) (Rv R) := by
  refine cl_def' (binds := [("cls", .ref x), ("token", .ref ty)]) rfl (by kernel_rfl!) (by kernel_rfl!) hA.room rfl rfl (n := 0) (by rfl) ?_
  intro L
  with_reducible refine cells0 ?_
  with_reducible refine trB_cons ?_
  ((with_reducible refine' t_store ?zhL ?zu ?zhN ?zhl ?zhx ?zhk ?_); (case zhx => kernel_rfl!); (case zhN => top_name); (case zhL => rfl); (case zhl => k_caught0); (case zu => k_caught0); (case zhk => rfl))
  with_reducible refine trB_cons ?_
  ((with_reducible refine' t_store ?zhL ?zu ?zhN ?zhl ?zhx ?zhk ?_); (case zhx => kernel_rfl!); (case zhN => top_name); (case zhL => rfl); (case zhl => k_caught0); (case zu => k_caught0); (case zhk => rfl))
  with_reducible refine trB_nil ?_
  with_reducible refine t_cons ?_
  with_reducible refine t_Assert ?_
  with_reducible refine t_isOr ?_
  ((with_reducible refine t_isCmp ?_ ?zhb); (case zhb => rfl))
  ((with_reducible refine t_Call ?_ ?zhe); (case zhe => rfl))
  ((with_reducible refine' t_bltin ?ze ?zhv ?zhn ?zhg ?zhb ?zhk ?zhx ?zhd ?_); (case zhv => top_strB); (case ze => top_argsB); (case zhn => decide +kernel); (case zhg => rfl); (case zhb => rfl); (case zhk => rfl); (case zhx => kernel_rfl!); (case zhd => decide +kernel))
  with_reducible refine t_callWithP ?_
  ((with_reducible refine t_evalArgs ?_ ?zhe); (case zhe => rfl))
  ((with_reducible refine t_args ?_ ?zhe); (case zhe => rfl))
  ((with_reducible refine' t_local ?zhL ?zhN ?zhv ?zhx ?zhk ?zhd ?_); (case zhx => kernel_rfl!); (case zhN => top_name); (case zhL => rfl); (case zhv => top_name); (case zhk => rfl); (case zhd => decide +kernel))
  with_reducible refine t_args0 ?_
  ((with_reducible refine cp0 ?zhc ?_); (case zhc => k_caughtNB))
  ((with_reducible refine' ty_own ?zhx ?zhd ?_); (case zhx => top_raise); (case zhd => top_raise))
  ((with_reducible refine' t_glob ?ze ?zhg ?zhk ?zhx ?zhd ?_); (case ze => top_raise0); (case zhg => rfl); (case zhk => rfl); (case zhx => kernel_rfl!); (case zhd => decide +kernel))
  with_reducible refine tc_isRef ?_
  with_reducible refine tt_bool ?_
  with_reducible refine if_t ?_
  refine And.intro (by first | rfl | decide) ?_
  with_reducible refine fl_next ?_
  with_reducible refine t_cons ?_
  with_reducible refine t_Return ?_
  ((with_reducible refine' t_local ?zhL ?zhN ?zhv ?zhx ?zhk ?zhd ?_); (case zhx => kernel_rfl!); (case zhN => top_name); (case zhL => rfl); (case zhv => top_name); (case zhk => rfl); (case zhd => decide +kernel))
  with_reducible refine fl_ret ?_
  exact ⟨_, by k_caught0, _, rfl, h⟩
theorem sp_getdefs {x d tt td o fl at_ : Addr} {tn : Tok} {kvs : List (Str × Value)} {ep : Nat} (hx : Kn (cx w mg mb O) ⟨F, N, G⟩ x (.inst 672 d)) (hd : Kn (cx w mg mb O) ⟨F, N, G⟩ d (.fld (lxF o fl tt at_ tn))) (htt : Kn (cx w mg mb O) ⟨F, N, G⟩ tt (.tup [.ref td])) (htd : FzD w.params F td kvs ep) (hsrc : SrcOk w.params F kvs) (hz : kvs.length ≤ 1000) (hA : Rm A 70) (R : Value → Led → Prop)
    (h : ∀ F' tk acc, F.le F' → acc.length = kvs.length → Cop w.params F' kvs acc → R (.ref tk) ⟨F', (tk, .dic acc) :: N, G⟩) :
   Cl (cx w mg mb O) A ⟨F, N, G⟩ (.call (.ref 551) ⟨[.ref x], []⟩) (Rv R) := by
  refine cl_def' (binds := [("cls", .ref x)]) rfl (by kernel_rfl!) (by kernel_rfl!) hA.room rfl rfl (n := 0) (by rfl) ?_
  intro L
  with_reducible refine cells0 ?_
  with_reducible refine trB_cons ?_
  ((with_reducible refine' t_store ?zhL ?zu ?zhN ?zhl ?zhx ?zhk ?_); (case zhx => kernel_rfl!); (case zhN => top_name); (case zhL => rfl); (case zhl => k_caught0); (case zu => k_caught0); (case zhk => rfl))
  with_reducible refine trB_nil ?_
  with_reducible refine t_cons ?_
  with_reducible refine t_Return ?_
  ((with_reducible refine t_Call ?_ ?zhe); (case zhe => rfl))
  ((with_reducible refine' t_glob ?ze ?zhg ?zhk ?zhx ?zhd ?_); (case ze => top_raise0); (case zhg => rfl); (case zhk => rfl); (case zhx => kernel_rfl!); (case zhd => decide +kernel))
  with_reducible refine t_callWithP ?_
  ((with_reducible refine t_evalArgs ?_ ?zhe); (case zhe => rfl))
  ((with_reducible refine t_args ?_ ?zhe); (case zhe => rfl))
  ((with_reducible refine t_Attr ?_ ?zhe); (case zhe => rfl))
  ((with_reducible refine' t_local ?zhL ?zhN ?zhv ?zhx ?zhk ?zhd ?_); (case zhx => kernel_rfl!); (case zhN => top_name); (case zhL => rfl); (case zhv => top_name); (case zhk => rfl); (case zhd => decide +kernel))
  ((with_reducible refine' t_field ?zhx ?zhd ?zhv ?zhf ?zhg ?zhh ?_); (case zhx => top_raise); (case zhd => top_raise); (case zhv => top_name); (case zhf => top_caughtB); (case zhg => top_reprB); (case zhh => rfl))
  with_reducible refine t_args0 ?_
  ((with_reducible refine cp0 ?zhc ?_); (case zhc => k_caughtNB))
  ((with_reducible refine' tr_call (sp_merge ?zht ?zhd ?zhs ?zhz ?zhA _ ?_)); (case zht => top_raise); (case zhd => assumption); (case zhs => assumption); (case zhz => assumption); (case zhA => k_caughtN0); (intro _ _ _ _ _ _))
  with_reducible refine fl_ret ?_
  exact ⟨_, by k_caught0, _, rfl, h _ _ _ (by assumption) (by assumption) (by assumption)⟩
/-- what a rule's third part says -/
def SActT (P : Params) (F : PH) (kvs : List (Str × Value)) (v : Value) (ls : List Str) : Prop := ∃ a vs, v = .ref a ∧ Fz P F a (.tup vs) ∧ Strs ls vs ∧ ls.length ≤ 10 ∧ ∀ x ∈ ls, x = "#pop" ∨ (valueAt kvs x).isSome = true
theorem sp_pnsT {x up pr : Addr} {kvs : List (Str × Value)} {v : Value} {ls : List Str} (hup : Kn (cx w mg mb O) ⟨F, N, G⟩ up (.dic kvs)) (hv : SActT w.params F kvs v ls) (hA : Rm A 30) (R : Value → Led → Prop)
    (h : ActAt w.params F v (.go ls) → R v ⟨F, N, G⟩) :
   Cl (cx w mg mb O) A ⟨F, N, G⟩ (.call (.ref 529) ⟨[.ref x, v, .ref up, .ref pr], []⟩) (Rv R) := by
  obtain ⟨ta, tvs, rfl, hta, htv, hlz, hls⟩ := hv
  refine cl_def' (binds := [("cls", .ref x), ("new_state", .ref ta), ("unprocessed", .ref up), ("processed", .ref pr)]) rfl (by kernel_rfl!) (by kernel_rfl!) hA.room rfl rfl (n := 0) (by rfl) ?_
  intro L
  with_reducible refine cells0 ?_
  with_reducible refine trB_cons ?_
  ((with_reducible refine' t_store ?zhL ?zu ?zhN ?zhl ?zhx ?zhk ?_); (case zhx => kernel_rfl!); (case zhN => top_name); (case zhL => rfl); (case zhl => k_caught0); (case zu => k_caught0); (case zhk => rfl))
  with_reducible refine trB_cons ?_
  ((with_reducible refine' t_store ?zhL ?zu ?zhN ?zhl ?zhx ?zhk ?_); (case zhx => kernel_rfl!); (case zhN => top_name); (case zhL => rfl); (case zhl => k_caught0); (case zu => k_caught0); (case zhk => rfl))
  with_reducible refine trB_cons ?_
  ((with_reducible refine' t_store ?zhL ?zu ?zhN ?zhl ?zhx ?zhk ?_); (case zhx => kernel_rfl!); (case zhN => top_name); (case zhL => rfl); (case zhl => k_caught0); (case zu => k_caught0); (case zhk => rfl))
  with_reducible refine trB_cons ?_
  ((with_reducible refine' t_store ?zhL ?zu ?zhN ?zhl ?zhx ?zhk ?_); (case zhx => kernel_rfl!); (case zhN => top_name); (case zhL => rfl); (case zhl => k_caught0); (case zu => k_caught0); (case zhk => rfl))
  with_reducible refine trB_nil ?_
  with_reducible refine t_cons ?_
  with_reducible refine t_If ?_
  ((with_reducible refine t_isVal ?_ ?zhe); (case zhe => rfl))
  ((with_reducible refine t_Call ?_ ?zhe); (case zhe => rfl))
  ((with_reducible refine' t_bltin ?ze ?zhv ?zhn ?zhg ?zhb ?zhk ?zhx ?zhd ?_); (case zhv => top_strB); (case ze => top_argsB); (case zhn => decide +kernel); (case zhg => rfl); (case zhb => rfl); (case zhk => rfl); (case zhx => kernel_rfl!); (case zhd => decide +kernel))
  with_reducible refine t_callWithP ?_
  ((with_reducible refine t_evalArgs ?_ ?zhe); (case zhe => rfl))
  ((with_reducible refine t_args ?_ ?zhe); (case zhe => rfl))
  ((with_reducible refine' t_local ?zhL ?zhN ?zhv ?zhx ?zhk ?zhd ?_); (case zhx => kernel_rfl!); (case zhN => top_name); (case zhL => rfl); (case zhv => top_name); (case zhk => rfl); (case zhd => decide +kernel))
  ((with_reducible refine t_args ?_ ?zhe); (case zhe => rfl))
  ((with_reducible refine' t_bltin ?ze ?zhv ?zhn ?zhg ?zhb ?zhk ?zhx ?zhd ?_); (case zhv => top_strB); (case ze => top_argsB); (case zhn => decide +kernel); (case zhg => rfl); (case zhb => rfl); (case zhk => rfl); (case zhx => kernel_rfl!); (case zhd => decide +kernel))
  with_reducible refine t_args0 ?_
  ((with_reducible refine cp0 ?zhc ?_); (case zhc => k_caughtNB))
  ((with_reducible refine' tin_tupstr ?zha ?_); (case zha => top_raise))
  with_reducible refine tt_bool ?_
  with_reducible refine if_f ?_
  with_reducible refine t_cons ?_
  with_reducible refine t_If ?_
  ((with_reducible refine t_isVal ?_ ?zhe); (case zhe => rfl))
  ((with_reducible refine t_Call ?_ ?zhe); (case zhe => rfl))
  ((with_reducible refine' t_bltin ?ze ?zhv ?zhn ?zhg ?zhb ?zhk ?zhx ?zhd ?_); (case zhv => top_strB); (case ze => top_argsB); (case zhn => decide +kernel); (case zhg => rfl); (case zhb => rfl); (case zhk => rfl); (case zhx => kernel_rfl!); (case zhd => decide +kernel))
  with_reducible refine t_callWithP ?_
  ((with_reducible refine t_evalArgs ?_ ?zhe); (case zhe => rfl))
  ((with_reducible refine t_args ?_ ?zhe); (case zhe => rfl))
  ((with_reducible refine' t_local ?zhL ?zhN ?zhv ?zhx ?zhk ?zhd ?_); (case zhx => kernel_rfl!); (case zhN => top_name); (case zhL => rfl); (case zhv => top_name); (case zhk => rfl); (case zhd => decide +kernel))
  ((with_reducible refine t_args ?_ ?zhe); (case zhe => rfl))
  ((with_reducible refine' t_glob ?ze ?zhg ?zhk ?zhx ?zhd ?_); (case ze => top_raise0); (case zhg => rfl); (case zhk => rfl); (case zhx => kernel_rfl!); (case zhd => decide +kernel))
  with_reducible refine t_args0 ?_
  ((with_reducible refine cp0 ?zhc ?_); (case zhc => k_caughtNB))
  ((with_reducible refine' tin_tupF ?zha ?zhe ?_); (case zha => top_raise); (case zhe => top_reprB))
  with_reducible refine tt_bool ?_
  with_reducible refine if_f ?_
  with_reducible refine t_cons ?_
  with_reducible refine t_If ?_
  ((with_reducible refine t_isVal ?_ ?zhe); (case zhe => rfl))
  ((with_reducible refine t_Call ?_ ?zhe); (case zhe => rfl))
  ((with_reducible refine' t_bltin ?ze ?zhv ?zhn ?zhg ?zhb ?zhk ?zhx ?zhd ?_); (case zhv => top_strB); (case ze => top_argsB); (case zhn => decide +kernel); (case zhg => rfl); (case zhb => rfl); (case zhk => rfl); (case zhx => kernel_rfl!); (case zhd => decide +kernel))
  with_reducible refine t_callWithP ?_
  ((with_reducible refine t_evalArgs ?_ ?zhe); (case zhe => rfl))
  ((with_reducible refine t_args ?_ ?zhe); (case zhe => rfl))
  ((with_reducible refine' t_local ?zhL ?zhN ?zhv ?zhx ?zhk ?zhd ?_); (case zhx => kernel_rfl!); (case zhN => top_name); (case zhL => rfl); (case zhv => top_name); (case zhk => rfl); (case zhd => decide +kernel))
  ((with_reducible refine t_args ?_ ?zhe); (case zhe => rfl))
  ((with_reducible refine' t_bltin ?ze ?zhv ?zhn ?zhg ?zhb ?zhk ?zhx ?zhd ?_); (case zhv => top_strB); (case ze => top_argsB); (case zhn => decide +kernel); (case zhg => rfl); (case zhb => rfl); (case zhk => rfl); (case zhx => kernel_rfl!); (case zhd => decide +kernel))
  with_reducible refine t_args0 ?_
  ((with_reducible refine cp0 ?zhc ?_); (case zhc => k_caughtNB))
  ((with_reducible refine' tin_tuptup ?zha ?_); (case zha => top_raise))
  with_reducible refine tt_bool ?_
  with_reducible refine if_t ?_
  with_reducible refine t_cons ?_
  ((with_reducible refine t_For ?_ ?zhs); (case zhs => exact fun _ => rfl))
  ((with_reducible refine' t_local ?zhL ?zhN ?zhv ?zhx ?zhk ?zhd ?_); (case zhx => kernel_rfl!); (case zhN => top_name); (case zhL => rfl); (case zhv => top_name); (case zhk => rfl); (case zhd => decide +kernel))
  ((with_reducible refine' t_iterTup ?zha ?_); (case zha => top_raise); (intro _))
  rename_i it
  refine cl_ind (Inv := fun j l => ∃ (n : Nat), l = ⟨F, (it, itT ta n) :: (L, .ns [("cls", .ref x), ("new_state", .ref ta), ("unprocessed", .ref up), ("processed", .ref pr)]) :: N, G⟩ ∧ n + j = ls.length) ?_ ls.length _ ⟨0, rfl, by omega⟩
  rintro j l IH ⟨n, rfl, hnj⟩
  refine cl_for1 ?_
  rcases Nat.lt_or_ge n ls.length with hn1 | hn1
  · have hxn := hls ls[n] (List.getElem_mem hn1)
    obtain ⟨tx, htx⟩ := htv.get (List.getElem?_eq_getElem hn1)
    ((with_reducible refine' t_nextTup ?zhi ?zha ?zhv ?zu ?_); (case zhi => top_name); (case zha => exact Kn.fz' hta); (case zhv => exact htx); (case zu => k_caught0))
    with_reducible refine t_goName ?_
    with_reducible refine t_assignName ?_
    ((with_reducible refine' t_store ?zhL ?zu ?zhN ?zhl ?zhx ?zhk ?_); (case zhx => kernel_rfl!); (case zhN => top_name); (case zhL => rfl); (case zhl => k_caught0); (case zu => k_caught0); (case zhk => rfl))
    with_reducible refine t_cons ?_
    with_reducible refine t_Assert ?_
    with_reducible refine t_isOr ?_
    ((with_reducible refine t_isCmp ?_ ?zhb); (case zhb => rfl))
    ((with_reducible refine' t_local ?zhL ?zhN ?zhv ?zhx ?zhk ?zhd ?_); (case zhx => kernel_rfl!); (case zhN => top_name); (case zhL => rfl); (case zhv => top_name); (case zhk => rfl); (case zhd => decide +kernel))
    ((with_reducible refine' t_local ?zhL ?zhN ?zhv ?zhx ?zhk ?zhd ?_); (case zhx => kernel_rfl!); (case zhN => top_name); (case zhL => rfl); (case zhv => top_name); (case zhk => rfl); (case zhd => decide +kernel))
    ((with_reducible refine' t_dictIn ?zha ?_); (case zha => top_raise))
    with_reducible refine tt_bool ?_
    refine if_b (fun hb => ?_) (fun hb => ?_)
    · refine And.intro (by first | rfl | decide) ?_
      with_reducible refine fl_next ?_
      with_reducible refine t_nil ?_
      with_reducible refine tu_next ?_
      exact cl_fix (by k_caught0) (by k_caught0) (by k_caught0) (IH (ls.length - (n + 1)) (by omega) _ ⟨n + 1, rfl, by omega⟩)
    · have hp : ls[n] = "#pop" := hxn.resolve_right (by rw [hb]; exact Bool.false_ne_true)
      with_reducible refine t_isOr ?_
      ((with_reducible refine t_isCmp ?_ ?zhb); (case zhb => rfl))
      ((with_reducible refine' t_local ?zhL ?zhN ?zhv ?zhx ?zhk ?zhd ?_); (case zhx => kernel_rfl!); (case zhN => top_name); (case zhL => rfl); (case zhv => top_name); (case zhk => rfl); (case zhd => decide +kernel))
      with_reducible refine t_Tuple ?_
      ((with_reducible refine t_args ?_ ?zhe); (case zhe => rfl))
      ((with_reducible refine t_str ?_); (intro _))
      ((with_reducible refine t_args ?_ ?zhe); (case zhe => rfl))
      ((with_reducible refine t_str ?_); (intro _))
      with_reducible refine t_args0 ?_
      ((with_reducible refine t_newTuple ?zhz ?_); (case zhz => simp [sizeLine]))
      intro _
      refine t_tupIn2 (by top_raise) ?_
      with_reducible refine tt_bool ?_
      refine if_T (by rw [hp]; decide) ?_
      refine And.intro (by first | rfl | decide) ?_
      with_reducible refine fl_next ?_
      with_reducible refine t_nil ?_
      with_reducible refine tu_next ?_
      exact cl_fix (by k_caught0) (by k_caught0) (by k_caught0) (IH (ls.length - (n + 1)) (by omega) _ ⟨n + 1, rfl, by omega⟩)
  · ((with_reducible refine' t_nextTupEnd ?zhh ?zhi ?zha ?zhv ?zu ?_); (case zhh => (refine Rm.hd (n := 0) ?_; k_caughtN0)); (case zhi => top_name); (case zha => exact Kn.fz' hta); (case zhv => (rw [htv.len]; omega)); (case zu => k_caught0))
    with_reducible refine t_nil ?_
    with_reducible refine fl_next ?_
    with_reducible refine t_cons ?_
    with_reducible refine t_Return ?_
    ((with_reducible refine' t_local ?zhL ?zhN ?zhv ?zhx ?zhk ?zhd ?_); (case zhx => kernel_rfl!); (case zhN => top_name); (case zhL => rfl); (case zhv => top_name); (case zhk => rfl); (case zhd => decide +kernel))
    with_reducible refine fl_ret ?_
    with_reducible refine fl_ret ?_
    with_reducible refine fl_ret ?_
    with_reducible refine fl_ret ?_
    exact ⟨_, by k_caught0, _, rfl, h ⟨ta, tvs, rfl, hta, htv⟩⟩
theorem sp_pnsPop {x up pr : Addr} {t : Tok} (hA : Rm A 30) (R : Value → Led → Prop) (h : ∀ t, R (.int (-1) t) ⟨F, N, G⟩) :
   Cl (cx w mg mb O) A ⟨F, N, G⟩ (.call (.ref 529) ⟨[.ref x, .str "#pop" t, .ref up, .ref pr], []⟩) (Rv R) := by
  refine cl_def' (binds := [("cls", .ref x), ("new_state", .str "#pop" t), ("unprocessed", .ref up), ("processed", .ref pr)]) rfl (by kernel_rfl!) (by kernel_rfl!) hA.room rfl rfl (n := 0) (by rfl) ?_
  intro L
  with_reducible refine cells0 ?_
  with_reducible refine trB_cons ?_
  ((with_reducible refine' t_store ?zhL ?zu ?zhN ?zhl ?zhx ?zhk ?_); (case zhx => kernel_rfl!); (case zhN => top_name); (case zhL => rfl); (case zhl => k_caught0); (case zu => k_caught0); (case zhk => rfl))
  with_reducible refine trB_cons ?_
  ((with_reducible refine' t_store ?zhL ?zu ?zhN ?zhl ?zhx ?zhk ?_); (case zhx => kernel_rfl!); (case zhN => top_name); (case zhL => rfl); (case zhl => k_caught0); (case zu => k_caught0); (case zhk => rfl))
  with_reducible refine trB_cons ?_
  ((with_reducible refine' t_store ?zhL ?zu ?zhN ?zhl ?zhx ?zhk ?_); (case zhx => kernel_rfl!); (case zhN => top_name); (case zhL => rfl); (case zhl => k_caught0); (case zu => k_caught0); (case zhk => rfl))
  with_reducible refine trB_cons ?_
  ((with_reducible refine' t_store ?zhL ?zu ?zhN ?zhl ?zhx ?zhk ?_); (case zhx => kernel_rfl!); (case zhN => top_name); (case zhL => rfl); (case zhl => k_caught0); (case zu => k_caught0); (case zhk => rfl))
  with_reducible refine trB_nil ?_
  with_reducible refine t_cons ?_
  with_reducible refine t_If ?_
  ((with_reducible refine t_isVal ?_ ?zhe); (case zhe => rfl))
  ((with_reducible refine t_Call ?_ ?zhe); (case zhe => rfl))
  ((with_reducible refine' t_bltin ?ze ?zhv ?zhn ?zhg ?zhb ?zhk ?zhx ?zhd ?_); (case zhv => top_strB); (case ze => top_argsB); (case zhn => decide +kernel); (case zhg => rfl); (case zhb => rfl); (case zhk => rfl); (case zhx => kernel_rfl!); (case zhd => decide +kernel))
  with_reducible refine t_callWithP ?_
  ((with_reducible refine t_evalArgs ?_ ?zhe); (case zhe => rfl))
  ((with_reducible refine t_args ?_ ?zhe); (case zhe => rfl))
  ((with_reducible refine' t_local ?zhL ?zhN ?zhv ?zhx ?zhk ?zhd ?_); (case zhx => kernel_rfl!); (case zhN => top_name); (case zhL => rfl); (case zhv => top_name); (case zhk => rfl); (case zhd => decide +kernel))
  ((with_reducible refine t_args ?_ ?zhe); (case zhe => rfl))
  ((with_reducible refine' t_bltin ?ze ?zhv ?zhn ?zhg ?zhb ?zhk ?zhx ?zhd ?_); (case zhv => top_strB); (case ze => top_argsB); (case zhn => decide +kernel); (case zhg => rfl); (case zhb => rfl); (case zhk => rfl); (case zhx => kernel_rfl!); (case zhd => decide +kernel))
  with_reducible refine t_args0 ?_
  ((with_reducible refine cp0 ?zhc ?_); (case zhc => k_caughtNB))
  with_reducible refine tin_strstr ?_
  with_reducible refine tt_bool ?_
  with_reducible refine if_t ?_
  with_reducible refine t_cons ?_
  with_reducible refine t_If ?_
  ((with_reducible refine t_isCmp ?_ ?zhb); (case zhb => rfl))
  ((with_reducible refine' t_local ?zhL ?zhN ?zhv ?zhx ?zhk ?zhd ?_); (case zhx => kernel_rfl!); (case zhN => top_name); (case zhL => rfl); (case zhv => top_name); (case zhk => rfl); (case zhd => decide +kernel))
  ((with_reducible refine t_str ?_); (intro _))
  with_reducible refine tc_eqS ?_
  with_reducible refine tt_bool ?_
  ((with_reducible refine if_T ?ze ?_); (case ze => (first | rfl | decide)))
  with_reducible refine t_cons ?_
  with_reducible refine t_Return ?_
  with_reducible refine t_Neg ?_
  ((with_reducible refine t_int ?_); (intro _))
  ((with_reducible refine ti_neg ?_); (intro _))
  with_reducible refine fl_ret ?_
  with_reducible refine fl_ret ?_
  with_reducible refine fl_ret ?_
  exact ⟨_, by k_caught0, _, rfl, h _⟩
theorem sp_pnsS {x up pr : Addr} {kvs : List (Str × Value)} {y : Str} {t : Tok} (hup : Kn (cx w mg mb O) ⟨F, N, G⟩ up (.dic kvs)) (hy : y ≠ "#pop") (hk : (valueAt kvs y).isSome = true) (hA : Rm A 30) (R : Value → Led → Prop)
    (h : ∀ a t, R (.ref a) ⟨F, (a, .tup [.str y t]) :: N, G⟩) :
   Cl (cx w mg mb O) A ⟨F, N, G⟩ (.call (.ref 529) ⟨[.ref x, .str y t, .ref up, .ref pr], []⟩) (Rv R) := by
  refine cl_def' (binds := [("cls", .ref x), ("new_state", .str y t), ("unprocessed", .ref up), ("processed", .ref pr)]) rfl (by kernel_rfl!) (by kernel_rfl!) hA.room rfl rfl (n := 0) (by rfl) ?_
  intro L
  with_reducible refine cells0 ?_
  with_reducible refine trB_cons ?_
  ((with_reducible refine' t_store ?zhL ?zu ?zhN ?zhl ?zhx ?zhk ?_); (case zhx => kernel_rfl!); (case zhN => top_name); (case zhL => rfl); (case zhl => k_caught0); (case zu => k_caught0); (case zhk => rfl))
  with_reducible refine trB_cons ?_
  ((with_reducible refine' t_store ?zhL ?zu ?zhN ?zhl ?zhx ?zhk ?_); (case zhx => kernel_rfl!); (case zhN => top_name); (case zhL => rfl); (case zhl => k_caught0); (case zu => k_caught0); (case zhk => rfl))
  with_reducible refine trB_cons ?_
  ((with_reducible refine' t_store ?zhL ?zu ?zhN ?zhl ?zhx ?zhk ?_); (case zhx => kernel_rfl!); (case zhN => top_name); (case zhL => rfl); (case zhl => k_caught0); (case zu => k_caught0); (case zhk => rfl))
  with_reducible refine trB_cons ?_
  ((with_reducible refine' t_store ?zhL ?zu ?zhN ?zhl ?zhx ?zhk ?_); (case zhx => kernel_rfl!); (case zhN => top_name); (case zhL => rfl); (case zhl => k_caught0); (case zu => k_caught0); (case zhk => rfl))
  with_reducible refine trB_nil ?_
  with_reducible refine t_cons ?_
  with_reducible refine t_If ?_
  ((with_reducible refine t_isVal ?_ ?zhe); (case zhe => rfl))
  ((with_reducible refine t_Call ?_ ?zhe); (case zhe => rfl))
  ((with_reducible refine' t_bltin ?ze ?zhv ?zhn ?zhg ?zhb ?zhk ?zhx ?zhd ?_); (case zhv => top_strB); (case ze => top_argsB); (case zhn => decide +kernel); (case zhg => rfl); (case zhb => rfl); (case zhk => rfl); (case zhx => kernel_rfl!); (case zhd => decide +kernel))
  with_reducible refine t_callWithP ?_
  ((with_reducible refine t_evalArgs ?_ ?zhe); (case zhe => rfl))
  ((with_reducible refine t_args ?_ ?zhe); (case zhe => rfl))
  ((with_reducible refine' t_local ?zhL ?zhN ?zhv ?zhx ?zhk ?zhd ?_); (case zhx => kernel_rfl!); (case zhN => top_name); (case zhL => rfl); (case zhv => top_name); (case zhk => rfl); (case zhd => decide +kernel))
  ((with_reducible refine t_args ?_ ?zhe); (case zhe => rfl))
  ((with_reducible refine' t_bltin ?ze ?zhv ?zhn ?zhg ?zhb ?zhk ?zhx ?zhd ?_); (case zhv => top_strB); (case ze => top_argsB); (case zhn => decide +kernel); (case zhg => rfl); (case zhb => rfl); (case zhk => rfl); (case zhx => kernel_rfl!); (case zhd => decide +kernel))
  with_reducible refine t_args0 ?_
  ((with_reducible refine cp0 ?zhc ?_); (case zhc => k_caughtNB))
  with_reducible refine tin_strstr ?_
  with_reducible refine tt_bool ?_
  with_reducible refine if_t ?_
  with_reducible refine t_cons ?_
  with_reducible refine t_If ?_
  ((with_reducible refine t_isCmp ?_ ?zhb); (case zhb => rfl))
  ((with_reducible refine' t_local ?zhL ?zhN ?zhv ?zhx ?zhk ?zhd ?_); (case zhx => kernel_rfl!); (case zhN => top_name); (case zhL => rfl); (case zhv => top_name); (case zhk => rfl); (case zhd => decide +kernel))
  ((with_reducible refine t_str ?_); (intro _))
  with_reducible refine tc_eqS ?_
  with_reducible refine tt_bool ?_
  refine if_F (by simpa using hy) ?_
  with_reducible refine t_cons ?_
  with_reducible refine t_If ?_
  ((with_reducible refine t_isCmp ?_ ?zhb); (case zhb => rfl))
  ((with_reducible refine' t_local ?zhL ?zhN ?zhv ?zhx ?zhk ?zhd ?_); (case zhx => kernel_rfl!); (case zhN => top_name); (case zhL => rfl); (case zhv => top_name); (case zhk => rfl); (case zhd => decide +kernel))
  ((with_reducible refine' t_local ?zhL ?zhN ?zhv ?zhx ?zhk ?zhd ?_); (case zhx => kernel_rfl!); (case zhN => top_name); (case zhL => rfl); (case zhv => top_name); (case zhk => rfl); (case zhd => decide +kernel))
  ((with_reducible refine' t_dictIn ?zha ?_); (case zha => top_raise))
  with_reducible refine tt_bool ?_
  refine if_T hk ?_
  with_reducible refine t_cons ?_
  with_reducible refine t_Return ?_
  with_reducible refine t_Tuple ?_
  ((with_reducible refine t_args ?_ ?zhe); (case zhe => rfl))
  ((with_reducible refine' t_local ?zhL ?zhN ?zhv ?zhx ?zhk ?zhd ?_); (case zhx => kernel_rfl!); (case zhN => top_name); (case zhL => rfl); (case zhv => top_name); (case zhk => rfl); (case zhd => decide +kernel))
  with_reducible refine t_args0 ?_
  ((with_reducible refine t_newTuple ?zhz ?_); (case zhz => simp [sizeLine]))
  intro _
  with_reducible refine fl_ret ?_
  with_reducible refine fl_ret ?_
  with_reducible refine fl_ret ?_
  with_reducible refine fl_ret ?_
  exact ⟨_, by k_caught0, _, rfl, h _ _⟩
end Mine

namespace Mine
local macro_rules | `(tactic| top_name) => `(tactic| first | (with_reducible exact List.mem_cons_self) | (with_reducible refine List.mem_cons_of_mem _ ?_; top_name) | (with_reducible assumption))
local macro_rules | `(tactic| k_caught0) => `(tactic| first
  | (with_reducible exact LUpd.head) | (with_reducible exact LSet.nil) | (with_reducible exact LSet.head) | (with_reducible exact Rem.head) | (with_reducible exact Pick.refl)
  | ((with_reducible apply LUpd.tail); (k_caught0))
  | ((with_reducible apply LSet.tail); (· (decide +kernel)); (k_caught0))
  | ((with_reducible apply Rem.tail); (k_caught0))
  | ((with_reducible apply Pick.cons); (· k_caught0); (k_caught0))
  | ((with_reducible apply Pick.drop); (k_caught0)))
local macro_rules | `(tactic| top_raise) => `(tactic| first | (with_reducible refine Kn.row' ?_; top_name) | (with_reducible refine Kn.fz' ?_; with_reducible assumption) | (with_reducible assumption) | ((with_reducible refine Kn.skip ?_); top_raise))
local macro_rules | `(tactic| k_caughtN0) => `(tactic| first | assumption | (exact Rm.le (by assumption) (by decide)) | ((refine Rm.dp ?_); k_caughtN0) | ((refine Rm.mk' ?_); k_caughtN0) | (refine Rm.le (Rm.over (n := 40) (Rm.le (by assumption) (by decide)) (by first | exact Quiet.ok (by assumption) | exact fsOk_while (Quiet.ok (by assumption)))) (by decide)))
local macro_rules | `(tactic| k_caughtB) => `(tactic| first | exact Strs.nil | ((apply Strs.cons); k_caughtB) | assumption)
local macro_rules | `(tactic| top_strB) => `(tactic| with_reducible first | exact bl_len | exact bl_isinstance | exact bl_type | exact bl_list | exact bl_tuple | exact bl_range | exact bl_str | exact bl_int | exact bl_abs | exact bl_sum | exact bl_enumerate | exact bl_zip | exact bl_max | exact bl_min | exact bl_divmod | exact bl_callable)
local macro_rules | `(tactic| top_raise0) => `(tactic| with_reducible first | exact g_wall_ | exact g_TokenType_ | exact g_Token | exact g_Whitespace | exact g_Error | exact g_String | exact g_Number | exact g_ALIASES_ | exact g_string_to_tokentype | exact g_CS_ESCAPE | exact g_commonprefix | exact g_make_charset | exact g_pull_ | exact g_same_ | exact g_groupby | exact g_grouper_ | exact g_special_chars_map_ | exact g_escape | exact g_regex_opt_inner | exact g_regex_opt | exact g_Lexer | exact g_include | exact g_inherit_ | exact g_combined | exact g_PseudoMatch_ | exact g_default | exact g_words | exact g_nothing_ | exact g_inherit_place | exact g_merged_tokendefs | exact g_RegexLexerMeta | exact g_RegexLexer | exact g_PlainMatch | exact g_Plain | exact g_PlainLexer | exact g_law_rest_ | exact g_law_reads_ | exact g_law)
local macro_rules | `(tactic| top_argsB) => `(tactic| with_reducible first | exact bn_len | exact bn_isinstance | exact bn_type | exact bn_list | exact bn_tuple | exact bn_range | exact bn_str | exact bn_int | exact bn_abs | exact bn_sum | exact bn_enumerate | exact bn_zip | exact bn_max | exact bn_min | exact bn_divmod | exact bn_callable)
local macro_rules | `(tactic| top_reprB) => `(tactic| with_reducible first | exact ga_83 | exact mk_83 | exact bo_83 | exact le_83 | exact ga_624 | exact mk_624 | exact bo_624 | exact le_624 | exact ga_651 | exact mk_651 | exact bo_651 | exact le_651 | exact ga_672 | exact mk_672 | exact bo_672 | exact le_672 | exact in_83 | exact if_83 | exact in_624 | exact if_624 | exact in_651 | exact if_651 | exact in_672 | exact if_672 | exact df_672_get_tokendefs | exact df_672_process_tokendef | exact df_672_process_state_ | exact df_672_process_regex_ | exact df_672_process_token_ | exact df_672_process_new_state_ | exact df_672_get_tokens_unprocessed | exact df_624_group | exact df_624_end | exact df_83_child | exact ni_str_TokenType_ | exact ni_str_combined | exact ni_tuple_inherit_ | exact ni_tuple_include | exact ni_tuple_default | exact ni_tuple_combined | exact ni_int_combined)
local macro_rules | `(tactic| top_caughtB) => `(tactic| with_reducible first | exact fl_83_names | exact fl_624_place | exact fl_624_pieces | exact fl_651_rows | exact fl_672_options | exact fl_672_stripnl | exact fl_672_stripall | exact fl_672_ensurenl | exact fl_672_filters | exact fl_672_tables | exact fl_672_all_tokens_ | exact fl_672_tmpname_ | exact fl_672_tokens_)
local macro_rules | `(tactic| top_raiseB) => `(tactic| with_reducible first | exact st_83_names | exact st_624_place | exact st_624_pieces | exact st_651_rows | exact st_672_options | exact st_672_stripnl | exact st_672_stripall | exact st_672_ensurenl | exact st_672_filters | exact st_672_tables | exact st_672_all_tokens_ | exact st_672_tmpname_ | exact st_672_tokens_)
local macro_rules | `(tactic| k_caughtNB) => `(tactic| with_reducible first | exact callee_bltin | exact callee_type | exact cal_83 | exact cal_624 | exact cal_651 | exact cal_672 | exact cal_621 | exact cal_615 | exact cal_648 | exact cal_73 | exact cal_115 | exact cal_494 | exact cal_501 | exact cal_551 | exact cal_544 | exact cal_536 | exact cal_669 | exact cal_522 | exact cal_529 | exact cal_580 | exact cal_278 | exact cal_682 | exact cal_687)

local macro_rules | `(tactic| top_raise) => `(tactic| with_reducible first | exact kn_89 | exact kn_88 | exact kn_90 | exact kn_108)

variable {w : World} {mg mb : Str → Option Value} {O : OsState} {A : Around} {F : PH} {N : List (Addr × OD)} {G : Array GenState}
def SAct (P : Params) (F : PH) (kvs : List (Str × Value)) (rest : List Value) : Act → Prop
  | .stay => rest = []
  | .go ls => ∃ v, rest = [v] ∧ (SActT P F kvs v ls ∨ ∃ y t, v = .str y t ∧ ls = [y] ∧ y ≠ "#pop" ∧ (valueAt kvs y).isSome = true)
  | .pop => ∃ t, rest = [.str "#pop" t]
def SRule (P : Params) (F : PH) (kvs : List (Str × Value)) (v : Value) (r : RuleE) : Prop := ∃ a pl d rw r1 t dy fy rest, v = .ref a ∧ Fz P F a (.tup (.ref pl :: .ref r.ty :: rest)) ∧ Fz P F pl (.inst 651 d) ∧ Fz P F d (.fld [("rows", .ref rw)]) ∧ Fz P F rw (.lst [.ref r1]) ∧ Fz P F r1 (.lst [.str ⟨#[r.c]⟩ t]) ∧
  Fz P F r.ty (.inst 83 dy) ∧ Fz P F dy (.fld fy) ∧ SAct P F kvs rest r.act
inductive SRules (P : Params) (F : PH) (kvs : List (Str × Value)) : List Value → List RuleE → Prop
  | nil : SRules P F kvs [] []
  | cons {v r vs rs} : SRule P F kvs v r → SRules P F kvs vs rs → SRules P F kvs (v :: vs) (r :: rs)
theorem SRules.get {P : Params} {kvs : List (Str × Value)} {vs : List Value} {rs : List RuleE} (h : SRules P F kvs vs rs) : ∀ {i : Nat}, i < vs.length → ∃ v r, vs[i]? = some v ∧ rs[i]? = some r ∧ SRule P F kvs v r := by
  induction h with
  | nil => intro i hi; exact absurd hi (Nat.not_lt_zero _)
  | @cons v r vs rs a _ ih =>
    intro i hi
    cases i with
    | zero => exact ⟨v, r, rfl, rfl, a⟩
    | succ i => exact ih (by simpa using hi)
theorem SRules.len {P : Params} {kvs : List (Str × Value)} {vs : List Value} {rs : List RuleE} (h : SRules P F kvs vs rs) : vs.length = rs.length := by
  induction h with
  | nil => rfl
  | cons _ _ ih => simp [ih]
theorem SActT.mono {F' : PH} {P : Params} {kvs : List (Str × Value)} {v : Value} {ls : List Str} (h : SActT P F kvs v ls) (k : F.le F') : SActT P F' kvs v ls := let ⟨a, vs, e, f, g⟩ := h; ⟨a, vs, e, f.mono k, g⟩
theorem SAct.mono {F' : PH} {P : Params} {kvs : List (Str × Value)} {rest : List Value} {a : Act} (h : SAct P F kvs rest a) (k : F.le F') : SAct P F' kvs rest a := by
  cases a with
  | stay => exact h
  | pop => exact h
  | go ls =>
    obtain ⟨v, e, h⟩ := h
    exact ⟨v, e, h.imp (fun h => h.mono k) id⟩
theorem SRule.mono {F' : PH} {P : Params} {kvs : List (Str × Value)} {v : Value} {r : RuleE} (h : SRule P F kvs v r) (k : F.le F') : SRule P F' kvs v r :=
  let ⟨a, pl, d, rw, r1, t, dy, fy, rest, e, h1, h2, h3, h4, h5, h6, h7, h8⟩ := h
  ⟨a, pl, d, rw, r1, t, dy, fy, rest, e, h1.mono k, h2.mono k, h3.mono k, h4.mono k, h5.mono k, h6.mono k, h7.mono k, h8.mono k⟩
theorem SRules.mono {F' : PH} {P : Params} {kvs : List (Str × Value)} {vs : List Value} {rs : List RuleE} (h : SRules P F kvs vs rs) (k : F.le F') : SRules P F' kvs vs rs := by
  induction h with
  | nil => exact .nil
  | cons a _ ih => exact .cons (a.mono k) ih
theorem RulesAt.snoc {D : Ads} {P : Params} {vs : List Value} {rs : List RuleE} {v : Value} {r : RuleE} (h : RulesAt D P F vs rs) (a : RuleAt D P F v r) : RulesAt D P F (vs ++ [v]) (rs ++ [r]) := by
  induction h with
  | nil => exact .cons a .nil
  | cons b _ ih => exact .cons b ih
theorem cl_freeze2 {X : Cx} {F : PH} {N : List (Addr × OD)} {G : Array GenState} {A : Around} {a b : Addr} {D E : OD} {c : Code} {R : Flow → Led → Prop} (h : ∀ F', F.le F' → Fz X.P F' a D → Fz X.P F' b E → Cl X A ⟨F', N, G⟩ c R) : Cl X A ⟨F, (a, D) :: (b, E) :: N, G⟩ c R :=
  cl_freeze .head fun F1 l1 f1 => cl_freeze .head fun F2 l2 f2 => h F2 (PH.le_trans l1 l2) (f1.mono l2) f2
theorem sp_pstate {x d up pr ls o fl tt at_ : Addr} {tn t : Tok} {kvs acc : List (Str × Value)} {k : Str} {c : Nat} {vs : List Value} {rs : List RuleE}
   (hx : Kn (cx w mg mb O) ⟨F, N, G⟩ x (.inst 672 d)) (hd : Kn (cx w mg mb O) ⟨F, N, G⟩ d (.fld (lxF o fl tt at_ tn))) (hup : Fz w.params F up (.dic kvs)) (hk : valueAt kvs k = some (.ref ls)) (hls : Fz w.params F ls (.lst vs)) (hr : SRules w.params F kvs vs rs)
   (hz : vs.length ≤ 1000) (hkc : k.cps[0]? = some c) (hc : c ≠ 35) (hacc : valueAt acc k = none) (haz : acc.length ≤ 1000) (hA : Rm A 60) (R : Value → Led → Prop)
   (h : ∀ F' sl vs', F.le F' → RulesAt ads w.params F' vs' rs → R (.ref sl) ⟨F', (sl, .lst vs') :: (pr, .dic (acc ++ [(k, .ref sl)])) :: N, G⟩) :
   Cl (cx w mg mb O) A ⟨F, (pr, .dic acc) :: N, G⟩ (.call (.ref 536) ⟨[.ref x, .ref up, .ref pr, .str k t], []⟩) (Rv R) := by
  refine cl_def' (binds := [("cls", .ref x), ("unprocessed", .ref up), ("processed", .ref pr), ("state", .str k t)]) rfl (by kernel_rfl!) (by kernel_rfl!) hA.room rfl rfl (n := 0) (by rfl) ?_
  intro L
  with_reducible refine cells0 ?_
  with_reducible refine trB_cons ?_
  ((with_reducible refine' t_store ?zhL ?zu ?zhN ?zhl ?zhx ?zhk ?_); (case zhx => kernel_rfl!); (case zhN => top_name); (case zhL => rfl); (case zhl => k_caught0); (case zu => k_caught0); (case zhk => rfl))
  with_reducible refine trB_cons ?_
  ((with_reducible refine' t_store ?zhL ?zu ?zhN ?zhl ?zhx ?zhk ?_); (case zhx => kernel_rfl!); (case zhN => top_name); (case zhL => rfl); (case zhl => k_caught0); (case zu => k_caught0); (case zhk => rfl))
  with_reducible refine trB_cons ?_
  ((with_reducible refine' t_store ?zhL ?zu ?zhN ?zhl ?zhx ?zhk ?_); (case zhx => kernel_rfl!); (case zhN => top_name); (case zhL => rfl); (case zhl => k_caught0); (case zu => k_caught0); (case zhk => rfl))
  with_reducible refine trB_cons ?_
  ((with_reducible refine' t_store ?zhL ?zu ?zhN ?zhl ?zhx ?zhk ?_); (case zhx => kernel_rfl!); (case zhN => top_name); (case zhL => rfl); (case zhl => k_caught0); (case zu => k_caught0); (case zhk => rfl))
  with_reducible refine trB_nil ?_
  with_reducible refine t_cons ?_
  with_reducible refine t_Assert ?_
  ((with_reducible refine t_isVal ?_ ?zhe); (case zhe => rfl))
  ((with_reducible refine t_Call ?_ ?zhe); (case zhe => rfl))
  ((with_reducible refine' t_bltin ?ze ?zhv ?zhn ?zhg ?zhb ?zhk ?zhx ?zhd ?_); (case zhv => top_strB); (case ze => top_argsB); (case zhn => decide +kernel); (case zhg => rfl); (case zhb => rfl); (case zhk => rfl); (case zhx => kernel_rfl!); (case zhd => decide +kernel))
  with_reducible refine t_callWithP ?_
  ((with_reducible refine t_evalArgs ?_ ?zhe); (case zhe => rfl))
  ((with_reducible refine t_args ?_ ?zhe); (case zhe => rfl))
  ((with_reducible refine' t_local ?zhL ?zhN ?zhv ?zhx ?zhk ?zhd ?_); (case zhx => kernel_rfl!); (case zhN => top_name); (case zhL => rfl); (case zhv => top_name); (case zhk => rfl); (case zhd => decide +kernel))
  ((with_reducible refine t_args ?_ ?zhe); (case zhe => rfl))
  ((with_reducible refine' t_bltin ?ze ?zhv ?zhn ?zhg ?zhb ?zhk ?zhx ?zhd ?_); (case zhv => top_strB); (case ze => top_argsB); (case zhn => decide +kernel); (case zhg => rfl); (case zhb => rfl); (case zhk => rfl); (case zhx => kernel_rfl!); (case zhd => decide +kernel))
  with_reducible refine t_args0 ?_
  ((with_reducible refine cp0 ?zhc ?_); (case zhc => k_caughtNB))
  with_reducible refine tin_strstr ?_
  with_reducible refine tt_bool ?_
  refine And.intro (by first | rfl | decide) ?_
  with_reducible refine fl_next ?_
  with_reducible refine t_cons ?_
  with_reducible refine t_Assert ?_
  ((with_reducible refine t_isCmp ?_ ?zhb); (case zhb => rfl))
  with_reducible refine t_Sub ?_
  ((with_reducible refine' t_local ?zhL ?zhN ?zhv ?zhx ?zhk ?zhd ?_); (case zhx => kernel_rfl!); (case zhN => top_name); (case zhL => rfl); (case zhv => top_name); (case zhk => rfl); (case zhd => decide +kernel))
  ((with_reducible refine t_int ?_); (intro _))
  ((with_reducible refine' t_subStr ?zhs ?_); (case zhs => rfl))
  ((with_reducible refine' t_itemStr ?zhi ?zhz ?zhc ?_); (case zhi => decide); (case zhz => decide); (case zhc => exact hkc); (intro _))
  ((with_reducible refine t_str ?_); (intro _))
  with_reducible refine tc_neS ?_
  with_reducible refine tt_bool ?_
  refine And.intro ?_ ?_
  · have : (⟨#[c]⟩ : Str) ≠ Str.ofString "#" := fun e => hc (by
      have e' : (⟨#[c]⟩ : Str) = (⟨#[35]⟩ : Str) := e
      simpa using e')
    simpa using this
  with_reducible refine fl_next ?_
  with_reducible refine t_cons ?_
  with_reducible refine t_If ?_
  ((with_reducible refine t_isCmp ?_ ?zhb); (case zhb => rfl))
  ((with_reducible refine' t_local ?zhL ?zhN ?zhv ?zhx ?zhk ?zhd ?_); (case zhx => kernel_rfl!); (case zhN => top_name); (case zhL => rfl); (case zhv => top_name); (case zhk => rfl); (case zhd => decide +kernel))
  ((with_reducible refine' t_local ?zhL ?zhN ?zhv ?zhx ?zhk ?zhd ?_); (case zhx => kernel_rfl!); (case zhN => top_name); (case zhL => rfl); (case zhv => top_name); (case zhk => rfl); (case zhd => decide +kernel))
  ((with_reducible refine' t_dictInN ?zha ?zhv ?_); (case zha => top_raise); (case zhv => assumption))
  with_reducible refine tt_bool ?_
  with_reducible refine if_f ?_
  with_reducible refine t_nil ?_
  with_reducible refine fl_next ?_
  with_reducible refine t_cons ?_
  ((with_reducible refine' t_Assign2 ?_ ?zhe ?zhw); (case zhe => rfl); (case zhw => rfl))
  with_reducible refine t_List ?_
  with_reducible refine t_args0 ?_
  ((with_reducible refine t_newList ?zhz ?_); (case zhz => simp [sizeLine]))
  intro _
  with_reducible refine t_assignName ?_
  ((with_reducible refine' t_store ?zhL ?zu ?zhN ?zhl ?zhx ?zhk ?_); (case zhx => kernel_rfl!); (case zhN => top_name); (case zhL => rfl); (case zhl => k_caught0); (case zu => k_caught0); (case zhk => rfl))
  with_reducible refine t_assignSub ?_
  ((with_reducible refine' t_local ?zhL ?zhN ?zhv ?zhx ?zhk ?zhd ?_); (case zhx => kernel_rfl!); (case zhN => top_name); (case zhL => rfl); (case zhv => top_name); (case zhk => rfl); (case zhd => decide +kernel))
  ((with_reducible refine' t_local ?zhL ?zhN ?zhv ?zhx ?zhk ?zhd ?_); (case zhx => kernel_rfl!); (case zhN => top_name); (case zhL => rfl); (case zhv => top_name); (case zhk => rfl); (case zhd => decide +kernel))
  ((with_reducible refine' t_dictSetN ?zha ?zhv ?zu ?zhz ?_); (case zha => top_name); (case zhv => (first | assumption | rfl)); (case zu => k_caught0); (case zhz => (first | decide | (simp; done) | omega)))
  with_reducible refine fl_next ?_
  with_reducible refine t_cons ?_
  ((with_reducible refine t_AssignName ?_ ?zhs); (case zhs => rfl))
  ((with_reducible refine t_Attr ?_ ?zhe); (case zhe => rfl))
  ((with_reducible refine' t_local ?zhL ?zhN ?zhv ?zhx ?zhk ?zhd ?_); (case zhx => kernel_rfl!); (case zhN => top_name); (case zhL => rfl); (case zhv => top_name); (case zhk => rfl); (case zhd => decide +kernel))
  ((with_reducible refine' t_clsValue ?zhx ?zhd ?zhf ?zhg ?zhn ?_); (case zhx => top_raise); (case zhd => top_raise); (case zhf => exact cv_flags); (case zhg => top_reprB); (case zhn => kernel_rfl!))
  ((with_reducible refine' t_store ?zhL ?zu ?zhN ?zhl ?zhx ?zhk ?_); (case zhx => kernel_rfl!); (case zhN => top_name); (case zhL => rfl); (case zhl => k_caught0); (case zu => k_caught0); (case zhk => rfl))
  with_reducible refine fl_next ?_
  with_reducible refine t_cons ?_
  ((with_reducible refine t_For ?_ ?zhs); (case zhs => exact fun _ => rfl))
  with_reducible refine t_Sub ?_
  ((with_reducible refine' t_local ?zhL ?zhN ?zhv ?zhx ?zhk ?zhd ?_); (case zhx => kernel_rfl!); (case zhN => top_name); (case zhL => rfl); (case zhv => top_name); (case zhk => rfl); (case zhd => decide +kernel))
  ((with_reducible refine' t_local ?zhL ?zhN ?zhv ?zhx ?zhk ?zhd ?_); (case zhx => kernel_rfl!); (case zhN => top_name); (case zhL => rfl); (case zhv => top_name); (case zhk => rfl); (case zhd => decide +kernel))
  ((with_reducible refine' t_subDict ?zha ?zhs ?_); (case zha => top_raise); (case zhs => rfl))
  refine t_dictGetItem (Kn.fz' hup) hk ?_
  ((with_reducible refine' t_iterList ?zha ?_); (case zha => top_raise); (intro _))
  rename_i tk0 tk1 tk2 tl it
  refine cl_fix (N2 := (it, itL ls 0) :: (tl, .lst []) :: (pr, .dic (acc ++ [(k, .ref tl)])) :: (L, .ns [("cls", .ref x), ("unprocessed", .ref up), ("processed", .ref pr), ("state", .str k t), ("tokens", .ref tl), ("rflags", .int 8 1197)]) :: N) (by k_caught0) (by k_caught0) (by k_caught0) ?_
  refine cl_ind (Inv := fun j l => ∃ (F' : PH) (i : Nat) (ws : List Value), l = ⟨F', (it, itL ls i) :: (tl, .lst ws) :: (pr, .dic (acc ++ [(k, .ref tl)])) :: (L, .ns [("cls", .ref x), ("unprocessed", .ref up), ("processed", .ref pr), ("state", .str k t), ("tokens", .ref tl), ("rflags", .int 8 1197)]) :: N, G⟩ ∧ F.le F' ∧ i + j = vs.length ∧ RulesAt ads w.params F' ws (rs.take i)) ?_ vs.length _ ⟨F, 0, [], rfl, PH.le_refl F, by omega, .nil⟩
  rintro j l IH ⟨F1, i, ws, rfl, hF1, hij, hws⟩
  have hx1 := hx.le hF1
  have hd1 := hd.le hF1
  have hup1 := hup.mono hF1
  have hls1 := hls.mono hF1
  have hwl := hws.len
  have hrl := hr.len
  refine cl_for1 ?_
  rcases Nat.lt_or_ge i vs.length with hi | hi
  · obtain ⟨v, r, hv, hri, a, pl, dp, rw_, r1, tr, dy, fy, rest, rfl, ha, hpl, hdp, hrw, hr1, hty, hdy, hact⟩ := hr.get hi
    have ha1 := ha.mono hF1
    have hpl1 := hpl.mono hF1
    have hdp1 := hdp.mono hF1
    have hty1 := hty.mono hF1
    have hdy1 := hdy.mono hF1
    have hact1 := hact.mono hF1
    have hwz : ws.length ≤ 1000 := by rw [hwl, List.length_take]; omega
    ((with_reducible refine' t_nextList ?zhi ?zha ?zhv ?zu ?_); (case zhi => top_name); (case zha => exact Kn.fz' hls1); (case zhv => exact hv); (case zu => k_caught0))
    with_reducible refine t_goName ?_
    with_reducible refine t_assignName ?_
    ((with_reducible refine' t_store ?zhL ?zu ?zhN ?zhl ?zhx ?zhk ?_); (case zhx => kernel_rfl!); (case zhN => top_name); (case zhL => rfl); (case zhl => k_caught0); (case zu => k_caught0); (case zhk => rfl))
    with_reducible refine t_cons ?_
    with_reducible refine t_If ?_
    ((with_reducible refine t_isVal ?_ ?zhe); (case zhe => rfl))
    ((with_reducible refine t_Call ?_ ?zhe); (case zhe => rfl))
    ((with_reducible refine' t_bltin ?ze ?zhv ?zhn ?zhg ?zhb ?zhk ?zhx ?zhd ?_); (case zhv => top_strB); (case ze => top_argsB); (case zhn => decide +kernel); (case zhg => rfl); (case zhb => rfl); (case zhk => rfl); (case zhx => kernel_rfl!); (case zhd => decide +kernel))
    with_reducible refine t_callWithP ?_
    ((with_reducible refine t_evalArgs ?_ ?zhe); (case zhe => rfl))
    ((with_reducible refine t_args ?_ ?zhe); (case zhe => rfl))
    ((with_reducible refine' t_local ?zhL ?zhN ?zhv ?zhx ?zhk ?zhd ?_); (case zhx => kernel_rfl!); (case zhN => top_name); (case zhL => rfl); (case zhv => top_name); (case zhk => rfl); (case zhd => decide +kernel))
    ((with_reducible refine t_args ?_ ?zhe); (case zhe => rfl))
    ((with_reducible refine' t_glob ?ze ?zhg ?zhk ?zhx ?zhd ?_); (case ze => top_raise0); (case zhg => rfl); (case zhk => rfl); (case zhx => kernel_rfl!); (case zhd => decide +kernel))
    with_reducible refine t_args0 ?_
    ((with_reducible refine cp0 ?zhc ?_); (case zhc => k_caughtNB))
    ((with_reducible refine' tin_tupF ?zha ?zhe ?_); (case zha => top_raise); (case zhe => top_reprB))
    with_reducible refine tt_bool ?_
    with_reducible refine if_f ?_
    with_reducible refine t_nil ?_
    with_reducible refine fl_next ?_
    with_reducible refine t_cons ?_
    with_reducible refine t_If ?_
    ((with_reducible refine t_isVal ?_ ?zhe); (case zhe => rfl))
    ((with_reducible refine t_Call ?_ ?zhe); (case zhe => rfl))
    ((with_reducible refine' t_bltin ?ze ?zhv ?zhn ?zhg ?zhb ?zhk ?zhx ?zhd ?_); (case zhv => top_strB); (case ze => top_argsB); (case zhn => decide +kernel); (case zhg => rfl); (case zhb => rfl); (case zhk => rfl); (case zhx => kernel_rfl!); (case zhd => decide +kernel))
    with_reducible refine t_callWithP ?_
    ((with_reducible refine t_evalArgs ?_ ?zhe); (case zhe => rfl))
    ((with_reducible refine t_args ?_ ?zhe); (case zhe => rfl))
    ((with_reducible refine' t_local ?zhL ?zhN ?zhv ?zhx ?zhk ?zhd ?_); (case zhx => kernel_rfl!); (case zhN => top_name); (case zhL => rfl); (case zhv => top_name); (case zhk => rfl); (case zhd => decide +kernel))
    ((with_reducible refine t_args ?_ ?zhe); (case zhe => rfl))
    ((with_reducible refine' t_glob ?ze ?zhg ?zhk ?zhx ?zhd ?_); (case ze => top_raise0); (case zhg => rfl); (case zhk => rfl); (case zhx => kernel_rfl!); (case zhd => decide +kernel))
    with_reducible refine t_args0 ?_
    ((with_reducible refine cp0 ?zhc ?_); (case zhc => k_caughtNB))
    ((with_reducible refine' tin_tupF ?zha ?zhe ?_); (case zha => top_raise); (case zhe => top_reprB))
    with_reducible refine tt_bool ?_
    with_reducible refine if_f ?_
    with_reducible refine t_nil ?_
    with_reducible refine fl_next ?_
    with_reducible refine t_cons ?_
    with_reducible refine t_If ?_
    ((with_reducible refine t_isVal ?_ ?zhe); (case zhe => rfl))
    ((with_reducible refine t_Call ?_ ?zhe); (case zhe => rfl))
    ((with_reducible refine' t_bltin ?ze ?zhv ?zhn ?zhg ?zhb ?zhk ?zhx ?zhd ?_); (case zhv => top_strB); (case ze => top_argsB); (case zhn => decide +kernel); (case zhg => rfl); (case zhb => rfl); (case zhk => rfl); (case zhx => kernel_rfl!); (case zhd => decide +kernel))
    with_reducible refine t_callWithP ?_
    ((with_reducible refine t_evalArgs ?_ ?zhe); (case zhe => rfl))
    ((with_reducible refine t_args ?_ ?zhe); (case zhe => rfl))
    ((with_reducible refine' t_local ?zhL ?zhN ?zhv ?zhx ?zhk ?zhd ?_); (case zhx => kernel_rfl!); (case zhN => top_name); (case zhL => rfl); (case zhv => top_name); (case zhk => rfl); (case zhd => decide +kernel))
    ((with_reducible refine t_args ?_ ?zhe); (case zhe => rfl))
    ((with_reducible refine' t_glob ?ze ?zhg ?zhk ?zhx ?zhd ?_); (case ze => top_raise0); (case zhg => rfl); (case zhk => rfl); (case zhx => kernel_rfl!); (case zhd => decide +kernel))
    with_reducible refine t_args0 ?_
    ((with_reducible refine cp0 ?zhc ?_); (case zhc => k_caughtNB))
    ((with_reducible refine' tin_tupF ?zha ?zhe ?_); (case zha => top_raise); (case zhe => top_reprB))
    with_reducible refine tt_bool ?_
    with_reducible refine if_f ?_
    with_reducible refine t_nil ?_
    with_reducible refine fl_next ?_
    with_reducible refine t_cons ?_
    with_reducible refine t_Assert ?_
    ((with_reducible refine t_isCmp ?_ ?zhb); (case zhb => rfl))
    ((with_reducible refine t_Call ?_ ?zhe); (case zhe => rfl))
    ((with_reducible refine' t_bltin ?ze ?zhv ?zhn ?zhg ?zhb ?zhk ?zhx ?zhd ?_); (case zhv => top_strB); (case ze => top_argsB); (case zhn => decide +kernel); (case zhg => rfl); (case zhb => rfl); (case zhk => rfl); (case zhx => kernel_rfl!); (case zhd => decide +kernel))
    with_reducible refine t_callWithP ?_
    ((with_reducible refine t_evalArgs ?_ ?zhe); (case zhe => rfl))
    ((with_reducible refine t_args ?_ ?zhe); (case zhe => rfl))
    ((with_reducible refine' t_local ?zhL ?zhN ?zhv ?zhx ?zhk ?zhd ?_); (case zhx => kernel_rfl!); (case zhN => top_name); (case zhL => rfl); (case zhv => top_name); (case zhk => rfl); (case zhd => decide +kernel))
    with_reducible refine t_args0 ?_
    ((with_reducible refine cp0 ?zhc ?_); (case zhc => k_caughtNB))
    ((with_reducible refine' ty_tup ?zha ?_); (case zha => top_raise))
    ((with_reducible refine' t_bltin ?ze ?zhv ?zhn ?zhg ?zhb ?zhk ?zhx ?zhd ?_); (case zhv => top_strB); (case ze => top_argsB); (case zhn => decide +kernel); (case zhg => rfl); (case zhb => rfl); (case zhk => rfl); (case zhx => kernel_rfl!); (case zhd => decide +kernel))
    ((with_reducible refine tc_is ?zhp ?_); (case zhp => rfl))
    with_reducible refine tt_bool ?_
    refine And.intro (by first | rfl | decide) ?_
    with_reducible refine fl_next ?_
    with_reducible refine t_cons ?_
    ((with_reducible refine t_AssignName ?_ ?zhs); (case zhs => rfl))
    ((with_reducible refine' t_MCall ?_ ?zhe); (case zhe => rfl))
    ((with_reducible refine' t_local ?zhL ?zhN ?zhv ?zhx ?zhk ?zhd ?_); (case zhx => kernel_rfl!); (case zhN => top_name); (case zhL => rfl); (case zhv => top_name); (case zhk => rfl); (case zhd => decide +kernel))
    ((with_reducible refine' t_methodOf (f := 669) ?zhx ?zhd ?zhf ?zhg ?zhn ?_); (case zhx => top_raise); (case zhd => top_raise); (case zhf => top_reprB); (case zhg => top_reprB); (case zhn => kernel_rfl!))
    with_reducible refine mc ?_
    with_reducible refine t_callWithP ?_
    ((with_reducible refine t_evalArgs ?_ ?zhe); (case zhe => rfl))
    ((with_reducible refine t_args ?_ ?zhe); (case zhe => rfl))
    with_reducible refine t_Sub ?_
    ((with_reducible refine' t_local ?zhL ?zhN ?zhv ?zhx ?zhk ?zhd ?_); (case zhx => kernel_rfl!); (case zhN => top_name); (case zhL => rfl); (case zhv => top_name); (case zhk => rfl); (case zhd => decide +kernel))
    ((with_reducible refine t_int ?_); (intro _))
    ((with_reducible refine' t_subTup ?zha ?zhs ?_); (case zha => top_raise); (case zhs => rfl))
    ((with_reducible refine' t_itemTup ?zha ?zhi ?zhz ?zhv ?_); (case zha => top_raise); (case zhi => decide); (case zhz => decide); (case zhv => rfl))
    ((with_reducible refine t_args ?_ ?zhe); (case zhe => rfl))
    ((with_reducible refine' t_local ?zhL ?zhN ?zhv ?zhx ?zhk ?zhd ?_); (case zhx => kernel_rfl!); (case zhN => top_name); (case zhL => rfl); (case zhv => top_name); (case zhk => rfl); (case zhd => decide +kernel))
    ((with_reducible refine t_args ?_ ?zhe); (case zhe => rfl))
    ((with_reducible refine' t_local ?zhL ?zhN ?zhv ?zhx ?zhk ?zhd ?_); (case zhx => kernel_rfl!); (case zhN => top_name); (case zhL => rfl); (case zhv => top_name); (case zhk => rfl); (case zhd => decide +kernel))
    with_reducible refine t_args0 ?_
    ((with_reducible refine cp1 ?zhc ?_); (case zhc => k_caughtNB))
    ((with_reducible refine' tr_call (sp_pregex ?zhp ?zhd ?zhA _ ?_)); (case zhp => top_raise); (case zhd => top_raise); (case zhA => k_caughtN0); (intro _))
    ((with_reducible refine' t_store ?zhL ?zu ?zhN ?zhl ?zhx ?zhk ?_); (case zhx => kernel_rfl!); (case zhN => top_name); (case zhL => rfl); (case zhl => k_caught0); (case zu => k_caught0); (case zhk => rfl))
    with_reducible refine fl_next ?_
    with_reducible refine t_cons ?_
    ((with_reducible refine t_AssignName ?_ ?zhs); (case zhs => rfl))
    ((with_reducible refine' t_MCall ?_ ?zhe); (case zhe => rfl))
    ((with_reducible refine' t_local ?zhL ?zhN ?zhv ?zhx ?zhk ?zhd ?_); (case zhx => kernel_rfl!); (case zhN => top_name); (case zhL => rfl); (case zhv => top_name); (case zhk => rfl); (case zhd => decide +kernel))
    ((with_reducible refine' t_methodOf (f := 522) ?zhx ?zhd ?zhf ?zhg ?zhn ?_); (case zhx => top_raise); (case zhd => top_raise); (case zhf => top_reprB); (case zhg => top_reprB); (case zhn => kernel_rfl!))
    with_reducible refine mc ?_
    with_reducible refine t_callWithP ?_
    ((with_reducible refine t_evalArgs ?_ ?zhe); (case zhe => rfl))
    ((with_reducible refine t_args ?_ ?zhe); (case zhe => rfl))
    with_reducible refine t_Sub ?_
    ((with_reducible refine' t_local ?zhL ?zhN ?zhv ?zhx ?zhk ?zhd ?_); (case zhx => kernel_rfl!); (case zhN => top_name); (case zhL => rfl); (case zhv => top_name); (case zhk => rfl); (case zhd => decide +kernel))
    ((with_reducible refine t_int ?_); (intro _))
    ((with_reducible refine' t_subTup ?zha ?zhs ?_); (case zha => top_raise); (case zhs => rfl))
    ((with_reducible refine' t_itemTup ?zha ?zhi ?zhz ?zhv ?_); (case zha => top_raise); (case zhi => decide); (case zhz => decide); (case zhv => rfl))
    with_reducible refine t_args0 ?_
    ((with_reducible refine cp1 ?zhc ?_); (case zhc => k_caughtNB))
    ((with_reducible refine' tr_call (sp_ptoken ?zht ?zhd ?zhA _ ?_)); (case zht => top_raise); (case zhd => top_raise); (case zhA => k_caughtN0))
    ((with_reducible refine' t_store ?zhL ?zu ?zhN ?zhl ?zhx ?zhk ?_); (case zhx => kernel_rfl!); (case zhN => top_name); (case zhL => rfl); (case zhl => k_caught0); (case zu => k_caught0); (case zhk => rfl))
    with_reducible refine fl_next ?_
    with_reducible refine t_cons ?_
    with_reducible refine t_If ?_
    ((with_reducible refine t_isCmp ?_ ?zhb); (case zhb => rfl))
    ((with_reducible refine t_Call ?_ ?zhe); (case zhe => rfl))
    ((with_reducible refine' t_bltin ?ze ?zhv ?zhn ?zhg ?zhb ?zhk ?zhx ?zhd ?_); (case zhv => top_strB); (case ze => top_argsB); (case zhn => decide +kernel); (case zhg => rfl); (case zhb => rfl); (case zhk => rfl); (case zhx => kernel_rfl!); (case zhd => decide +kernel))
    with_reducible refine t_callWithP ?_
    ((with_reducible refine t_evalArgs ?_ ?zhe); (case zhe => rfl))
    ((with_reducible refine t_args ?_ ?zhe); (case zhe => rfl))
    ((with_reducible refine' t_local ?zhL ?zhN ?zhv ?zhx ?zhk ?zhd ?_); (case zhx => kernel_rfl!); (case zhN => top_name); (case zhL => rfl); (case zhv => top_name); (case zhk => rfl); (case zhd => decide +kernel))
    with_reducible refine t_args0 ?_
    ((with_reducible refine cp0 ?zhc ?_); (case zhc => k_caughtNB))
    rename_i mo tki
    have fin : ∀ F3 nt av, F1.le F3 → Fz w.params F3 nt (.tup [.ref mo, .ref r.ty, av]) → Fz w.params F3 mo (.raw (methodObj (.ref 648) (.ref pl))) → ActAt w.params F3 av r.act → RulesAt ads w.params F3 (ws ++ [.ref nt]) (rs.take (i + 1)) := fun F3 nt av le h1 h2 h3 => by
      rw [List.take_add_one, hri]
      exact (hws.mono le).snoc ⟨nt, mo, av, rfl, h1, ⟨pl, dp, rw_, r1, tr, h2, hpl1.mono le, hdp1.mono le, (hrw.mono hF1).mono le, (hr1.mono hF1).mono le⟩, ⟨dy, fy, hty1.mono le, hdy1.mono le⟩, h3⟩
    cases hra : r.act with
    | stay =>
      rw [hra] at hact1
      obtain rfl := hact1
      ((with_reducible refine' t_lenT ?zha ?zhz ?_); (case zha => top_raise); (case zhz => simp); (intro _))
      ((with_reducible refine t_int ?_); (intro _))
      with_reducible refine tc_eqI ?_
      with_reducible refine tt_bool ?_
      ((with_reducible refine if_T ?ze ?_); (case ze => (first | rfl | decide)))
      with_reducible refine t_cons ?_
      ((with_reducible refine t_AssignName ?_ ?zhs); (case zhs => rfl))
      with_reducible refine t_none ?_
      ((with_reducible refine' t_store ?zhL ?zu ?zhN ?zhl ?zhx ?zhk ?_); (case zhx => kernel_rfl!); (case zhN => top_name); (case zhL => rfl); (case zhl => k_caught0); (case zu => k_caught0); (case zhk => rfl))
      with_reducible refine fl_next ?_
      with_reducible refine t_nil ?_
      with_reducible refine fl_next ?_
      with_reducible refine t_cons ?_
      ((with_reducible refine t_ExprSt ?_ ?zhi ?zhs); (case zhi => rfl); (case zhs => rfl))
      ((with_reducible refine' t_MCall ?_ ?zhe); (case zhe => rfl))
      ((with_reducible refine' t_local ?zhL ?zhN ?zhv ?zhx ?zhk ?zhd ?_); (case zhx => kernel_rfl!); (case zhN => top_name); (case zhL => rfl); (case zhv => top_name); (case zhk => rfl); (case zhd => decide +kernel))
      ((with_reducible refine' ml_append ?zha ?_); (case zha => top_raise))
      with_reducible refine mc ?_
      with_reducible refine t_callWithP ?_
      ((with_reducible refine t_evalArgs ?_ ?zhe); (case zhe => rfl))
      ((with_reducible refine t_args ?_ ?zhe); (case zhe => rfl))
      with_reducible refine t_Tuple ?_
      ((with_reducible refine t_args ?_ ?zhe); (case zhe => rfl))
      ((with_reducible refine' t_local ?zhL ?zhN ?zhv ?zhx ?zhk ?zhd ?_); (case zhx => kernel_rfl!); (case zhN => top_name); (case zhL => rfl); (case zhv => top_name); (case zhk => rfl); (case zhd => decide +kernel))
      ((with_reducible refine t_args ?_ ?zhe); (case zhe => rfl))
      ((with_reducible refine' t_local ?zhL ?zhN ?zhv ?zhx ?zhk ?zhd ?_); (case zhx => kernel_rfl!); (case zhN => top_name); (case zhL => rfl); (case zhv => top_name); (case zhk => rfl); (case zhd => decide +kernel))
      ((with_reducible refine t_args ?_ ?zhe); (case zhe => rfl))
      ((with_reducible refine' t_local ?zhL ?zhN ?zhv ?zhx ?zhk ?zhd ?_); (case zhx => kernel_rfl!); (case zhN => top_name); (case zhL => rfl); (case zhv => top_name); (case zhk => rfl); (case zhd => decide +kernel))
      with_reducible refine t_args0 ?_
      ((with_reducible refine t_newTuple ?zhz ?_); (case zhz => simp [sizeLine]))
      intro _
      with_reducible refine t_args0 ?_
      ((with_reducible refine cp1 ?zhc ?_); (case zhc => k_caughtNB))
      ((with_reducible refine' t_append ?zha ?zu ?zhz ?_); (case zha => top_name); (case zu => k_caught0); (case zhz => (unfold sizeLine; omega)))
      with_reducible refine fl_next ?_
      with_reducible refine t_nil ?_
      with_reducible refine tu_next ?_
      rename_i tz nt
      refine cl_fix (N2 := (nt, .tup [.ref mo, .ref r.ty, .none]) :: (mo, .raw (methodObj (.ref 648) (.ref pl))) :: (it, itL ls (i + 1)) :: (tl, .lst (ws ++ [.ref nt])) :: (pr, .dic (acc ++ [(k, .ref tl)])) :: (L, .ns [("cls", .ref x), ("unprocessed", .ref up), ("processed", .ref pr), ("state", .str k t), ("tokens", .ref tl), ("rflags", .int 8 1197)]) :: N) (by k_caught0) (by k_caught0) (by k_caught0) ?_
      refine cl_freeze2 fun F3 hF3 h1 h2 => ?_
      exact IH (vs.length - (i + 1)) (by omega) _ ⟨F3, i + 1, _, rfl, PH.le_trans hF1 hF3, by omega, fin F3 _ _ hF3 h1 h2 (by rw [hra]; rfl)⟩
    | go ll =>
      rw [hra] at hact1
      obtain ⟨vv, rfl, ht | ⟨y, ty, rfl, rfl, hy, hyk⟩⟩ := hact1
      · ((with_reducible refine' t_lenT ?zha ?zhz ?_); (case zha => top_raise); (case zhz => simp); (intro _))
        ((with_reducible refine t_int ?_); (intro _))
        with_reducible refine tc_eqI ?_
        with_reducible refine tt_bool ?_
        ((with_reducible refine if_F ?ze ?_); (case ze => (first | rfl | decide)))
        with_reducible refine t_cons ?_
        ((with_reducible refine t_AssignName ?_ ?zhs); (case zhs => rfl))
        ((with_reducible refine' t_MCall ?_ ?zhe); (case zhe => rfl))
        ((with_reducible refine' t_local ?zhL ?zhN ?zhv ?zhx ?zhk ?zhd ?_); (case zhx => kernel_rfl!); (case zhN => top_name); (case zhL => rfl); (case zhv => top_name); (case zhk => rfl); (case zhd => decide +kernel))
        ((with_reducible refine' t_methodOf (f := 529) ?zhx ?zhd ?zhf ?zhg ?zhn ?_); (case zhx => top_raise); (case zhd => top_raise); (case zhf => top_reprB); (case zhg => top_reprB); (case zhn => kernel_rfl!))
        with_reducible refine mc ?_
        with_reducible refine t_callWithP ?_
        ((with_reducible refine t_evalArgs ?_ ?zhe); (case zhe => rfl))
        ((with_reducible refine t_args ?_ ?zhe); (case zhe => rfl))
        with_reducible refine t_Sub ?_
        ((with_reducible refine' t_local ?zhL ?zhN ?zhv ?zhx ?zhk ?zhd ?_); (case zhx => kernel_rfl!); (case zhN => top_name); (case zhL => rfl); (case zhv => top_name); (case zhk => rfl); (case zhd => decide +kernel))
        ((with_reducible refine t_int ?_); (intro _))
        ((with_reducible refine' t_subTup ?zha ?zhs ?_); (case zha => top_raise); (case zhs => rfl))
        ((with_reducible refine' t_itemTup ?zha ?zhi ?zhz ?zhv ?_); (case zha => top_raise); (case zhi => decide); (case zhz => decide); (case zhv => rfl))
        ((with_reducible refine t_args ?_ ?zhe); (case zhe => rfl))
        ((with_reducible refine' t_local ?zhL ?zhN ?zhv ?zhx ?zhk ?zhd ?_); (case zhx => kernel_rfl!); (case zhN => top_name); (case zhL => rfl); (case zhv => top_name); (case zhk => rfl); (case zhd => decide +kernel))
        ((with_reducible refine t_args ?_ ?zhe); (case zhe => rfl))
        ((with_reducible refine' t_local ?zhL ?zhN ?zhv ?zhx ?zhk ?zhd ?_); (case zhx => kernel_rfl!); (case zhN => top_name); (case zhL => rfl); (case zhv => top_name); (case zhk => rfl); (case zhd => decide +kernel))
        with_reducible refine t_args0 ?_
        ((with_reducible refine cp1 ?zhc ?_); (case zhc => k_caughtNB))
        refine tr_call (sp_pnsT (Kn.fz' hup1) ht (by k_caughtN0) _ fun hav => ?_)
        ((with_reducible refine' t_store ?zhL ?zu ?zhN ?zhl ?zhx ?zhk ?_); (case zhx => kernel_rfl!); (case zhN => top_name); (case zhL => rfl); (case zhl => k_caught0); (case zu => k_caught0); (case zhk => rfl))
        with_reducible refine fl_next ?_
        with_reducible refine t_nil ?_
        with_reducible refine fl_next ?_
        with_reducible refine t_cons ?_
        ((with_reducible refine t_ExprSt ?_ ?zhi ?zhs); (case zhi => rfl); (case zhs => rfl))
        ((with_reducible refine' t_MCall ?_ ?zhe); (case zhe => rfl))
        ((with_reducible refine' t_local ?zhL ?zhN ?zhv ?zhx ?zhk ?zhd ?_); (case zhx => kernel_rfl!); (case zhN => top_name); (case zhL => rfl); (case zhv => top_name); (case zhk => rfl); (case zhd => decide +kernel))
        ((with_reducible refine' ml_append ?zha ?_); (case zha => top_raise))
        with_reducible refine mc ?_
        with_reducible refine t_callWithP ?_
        ((with_reducible refine t_evalArgs ?_ ?zhe); (case zhe => rfl))
        ((with_reducible refine t_args ?_ ?zhe); (case zhe => rfl))
        with_reducible refine t_Tuple ?_
        ((with_reducible refine t_args ?_ ?zhe); (case zhe => rfl))
        ((with_reducible refine' t_local ?zhL ?zhN ?zhv ?zhx ?zhk ?zhd ?_); (case zhx => kernel_rfl!); (case zhN => top_name); (case zhL => rfl); (case zhv => top_name); (case zhk => rfl); (case zhd => decide +kernel))
        ((with_reducible refine t_args ?_ ?zhe); (case zhe => rfl))
        ((with_reducible refine' t_local ?zhL ?zhN ?zhv ?zhx ?zhk ?zhd ?_); (case zhx => kernel_rfl!); (case zhN => top_name); (case zhL => rfl); (case zhv => top_name); (case zhk => rfl); (case zhd => decide +kernel))
        ((with_reducible refine t_args ?_ ?zhe); (case zhe => rfl))
        ((with_reducible refine' t_local ?zhL ?zhN ?zhv ?zhx ?zhk ?zhd ?_); (case zhx => kernel_rfl!); (case zhN => top_name); (case zhL => rfl); (case zhv => top_name); (case zhk => rfl); (case zhd => decide +kernel))
        with_reducible refine t_args0 ?_
        ((with_reducible refine t_newTuple ?zhz ?_); (case zhz => simp [sizeLine]))
        intro _
        with_reducible refine t_args0 ?_
        ((with_reducible refine cp1 ?zhc ?_); (case zhc => k_caughtNB))
        ((with_reducible refine' t_append ?zha ?zu ?zhz ?_); (case zha => top_name); (case zu => k_caught0); (case zhz => (unfold sizeLine; omega)))
        with_reducible refine fl_next ?_
        with_reducible refine t_nil ?_
        with_reducible refine tu_next ?_
        rename_i tz nt
        refine cl_fix (N2 := (nt, .tup [.ref mo, .ref r.ty, vv]) :: (mo, .raw (methodObj (.ref 648) (.ref pl))) :: (it, itL ls (i + 1)) :: (tl, .lst (ws ++ [.ref nt])) :: (pr, .dic (acc ++ [(k, .ref tl)])) :: (L, .ns [("cls", .ref x), ("unprocessed", .ref up), ("processed", .ref pr), ("state", .str k t), ("tokens", .ref tl), ("rflags", .int 8 1197)]) :: N) (by k_caught0) (by k_caught0) (by k_caught0) ?_
        refine cl_freeze2 fun F3 hF3 h1 h2 => ?_
        exact IH (vs.length - (i + 1)) (by omega) _ ⟨F3, i + 1, _, rfl, PH.le_trans hF1 hF3, by omega, fin F3 _ _ hF3 h1 h2 (by rw [hra]; exact hav.mono hF3)⟩
      · ((with_reducible refine' t_lenT ?zha ?zhz ?_); (case zha => top_raise); (case zhz => simp); (intro _))
        ((with_reducible refine t_int ?_); (intro _))
        with_reducible refine tc_eqI ?_
        with_reducible refine tt_bool ?_
        ((with_reducible refine if_F ?ze ?_); (case ze => (first | rfl | decide)))
        with_reducible refine t_cons ?_
        ((with_reducible refine t_AssignName ?_ ?zhs); (case zhs => rfl))
        ((with_reducible refine' t_MCall ?_ ?zhe); (case zhe => rfl))
        ((with_reducible refine' t_local ?zhL ?zhN ?zhv ?zhx ?zhk ?zhd ?_); (case zhx => kernel_rfl!); (case zhN => top_name); (case zhL => rfl); (case zhv => top_name); (case zhk => rfl); (case zhd => decide +kernel))
        ((with_reducible refine' t_methodOf (f := 529) ?zhx ?zhd ?zhf ?zhg ?zhn ?_); (case zhx => top_raise); (case zhd => top_raise); (case zhf => top_reprB); (case zhg => top_reprB); (case zhn => kernel_rfl!))
        with_reducible refine mc ?_
        with_reducible refine t_callWithP ?_
        ((with_reducible refine t_evalArgs ?_ ?zhe); (case zhe => rfl))
        ((with_reducible refine t_args ?_ ?zhe); (case zhe => rfl))
        with_reducible refine t_Sub ?_
        ((with_reducible refine' t_local ?zhL ?zhN ?zhv ?zhx ?zhk ?zhd ?_); (case zhx => kernel_rfl!); (case zhN => top_name); (case zhL => rfl); (case zhv => top_name); (case zhk => rfl); (case zhd => decide +kernel))
        ((with_reducible refine t_int ?_); (intro _))
        ((with_reducible refine' t_subTup ?zha ?zhs ?_); (case zha => top_raise); (case zhs => rfl))
        ((with_reducible refine' t_itemTup ?zha ?zhi ?zhz ?zhv ?_); (case zha => top_raise); (case zhi => decide); (case zhz => decide); (case zhv => rfl))
        ((with_reducible refine t_args ?_ ?zhe); (case zhe => rfl))
        ((with_reducible refine' t_local ?zhL ?zhN ?zhv ?zhx ?zhk ?zhd ?_); (case zhx => kernel_rfl!); (case zhN => top_name); (case zhL => rfl); (case zhv => top_name); (case zhk => rfl); (case zhd => decide +kernel))
        ((with_reducible refine t_args ?_ ?zhe); (case zhe => rfl))
        ((with_reducible refine' t_local ?zhL ?zhN ?zhv ?zhx ?zhk ?zhd ?_); (case zhx => kernel_rfl!); (case zhN => top_name); (case zhL => rfl); (case zhv => top_name); (case zhk => rfl); (case zhd => decide +kernel))
        with_reducible refine t_args0 ?_
        ((with_reducible refine cp1 ?zhc ?_); (case zhc => k_caughtNB))
        refine tr_call (sp_pnsS (Kn.fz' hup1) hy hyk (by k_caughtN0) _ fun na ta => ?_)
        ((with_reducible refine' t_store ?zhL ?zu ?zhN ?zhl ?zhx ?zhk ?_); (case zhx => kernel_rfl!); (case zhN => top_name); (case zhL => rfl); (case zhl => k_caught0); (case zu => k_caught0); (case zhk => rfl))
        with_reducible refine fl_next ?_
        with_reducible refine t_nil ?_
        with_reducible refine fl_next ?_
        with_reducible refine t_cons ?_
        ((with_reducible refine t_ExprSt ?_ ?zhi ?zhs); (case zhi => rfl); (case zhs => rfl))
        ((with_reducible refine' t_MCall ?_ ?zhe); (case zhe => rfl))
        ((with_reducible refine' t_local ?zhL ?zhN ?zhv ?zhx ?zhk ?zhd ?_); (case zhx => kernel_rfl!); (case zhN => top_name); (case zhL => rfl); (case zhv => top_name); (case zhk => rfl); (case zhd => decide +kernel))
        ((with_reducible refine' ml_append ?zha ?_); (case zha => top_raise))
        with_reducible refine mc ?_
        with_reducible refine t_callWithP ?_
        ((with_reducible refine t_evalArgs ?_ ?zhe); (case zhe => rfl))
        ((with_reducible refine t_args ?_ ?zhe); (case zhe => rfl))
        with_reducible refine t_Tuple ?_
        ((with_reducible refine t_args ?_ ?zhe); (case zhe => rfl))
        ((with_reducible refine' t_local ?zhL ?zhN ?zhv ?zhx ?zhk ?zhd ?_); (case zhx => kernel_rfl!); (case zhN => top_name); (case zhL => rfl); (case zhv => top_name); (case zhk => rfl); (case zhd => decide +kernel))
        ((with_reducible refine t_args ?_ ?zhe); (case zhe => rfl))
        ((with_reducible refine' t_local ?zhL ?zhN ?zhv ?zhx ?zhk ?zhd ?_); (case zhx => kernel_rfl!); (case zhN => top_name); (case zhL => rfl); (case zhv => top_name); (case zhk => rfl); (case zhd => decide +kernel))
        ((with_reducible refine t_args ?_ ?zhe); (case zhe => rfl))
        ((with_reducible refine' t_local ?zhL ?zhN ?zhv ?zhx ?zhk ?zhd ?_); (case zhx => kernel_rfl!); (case zhN => top_name); (case zhL => rfl); (case zhv => top_name); (case zhk => rfl); (case zhd => decide +kernel))
        with_reducible refine t_args0 ?_
        ((with_reducible refine t_newTuple ?zhz ?_); (case zhz => simp [sizeLine]))
        intro _
        with_reducible refine t_args0 ?_
        ((with_reducible refine cp1 ?zhc ?_); (case zhc => k_caughtNB))
        ((with_reducible refine' t_append ?zha ?zu ?zhz ?_); (case zha => top_name); (case zu => k_caught0); (case zhz => (unfold sizeLine; omega)))
        with_reducible refine fl_next ?_
        with_reducible refine t_nil ?_
        with_reducible refine tu_next ?_
        rename_i tz nt
        refine cl_fix (N2 := (na, .tup [.str y ta]) :: (nt, .tup [.ref mo, .ref r.ty, .ref na]) :: (mo, .raw (methodObj (.ref 648) (.ref pl))) :: (it, itL ls (i + 1)) :: (tl, .lst (ws ++ [.ref nt])) :: (pr, .dic (acc ++ [(k, .ref tl)])) :: (L, .ns [("cls", .ref x), ("unprocessed", .ref up), ("processed", .ref pr), ("state", .str k t), ("tokens", .ref tl), ("rflags", .int 8 1197)]) :: N) (by k_caught0) (by k_caught0) (by k_caught0) ?_
        refine cl_freeze .head fun F2 hF2 h0 => ?_
        refine cl_freeze2 fun F3 hF3 h1 h2 => ?_
        have hF := PH.le_trans hF2 hF3
        exact IH (vs.length - (i + 1)) (by omega) _ ⟨F3, i + 1, _, rfl, PH.le_trans hF1 hF, by omega, fin F3 _ _ hF h1 h2 (by rw [hra]; exact ⟨na, _, rfl, h0.mono hF3, .cons .nil⟩)⟩
    | pop =>
      rw [hra] at hact1
      obtain ⟨ty, rfl⟩ := hact1
      ((with_reducible refine' t_lenT ?zha ?zhz ?_); (case zha => top_raise); (case zhz => simp); (intro _))
      ((with_reducible refine t_int ?_); (intro _))
      with_reducible refine tc_eqI ?_
      with_reducible refine tt_bool ?_
      ((with_reducible refine if_F ?ze ?_); (case ze => (first | rfl | decide)))
      with_reducible refine t_cons ?_
      ((with_reducible refine t_AssignName ?_ ?zhs); (case zhs => rfl))
      ((with_reducible refine' t_MCall ?_ ?zhe); (case zhe => rfl))
      ((with_reducible refine' t_local ?zhL ?zhN ?zhv ?zhx ?zhk ?zhd ?_); (case zhx => kernel_rfl!); (case zhN => top_name); (case zhL => rfl); (case zhv => top_name); (case zhk => rfl); (case zhd => decide +kernel))
      ((with_reducible refine' t_methodOf (f := 529) ?zhx ?zhd ?zhf ?zhg ?zhn ?_); (case zhx => top_raise); (case zhd => top_raise); (case zhf => top_reprB); (case zhg => top_reprB); (case zhn => kernel_rfl!))
      with_reducible refine mc ?_
      with_reducible refine t_callWithP ?_
      ((with_reducible refine t_evalArgs ?_ ?zhe); (case zhe => rfl))
      ((with_reducible refine t_args ?_ ?zhe); (case zhe => rfl))
      with_reducible refine t_Sub ?_
      ((with_reducible refine' t_local ?zhL ?zhN ?zhv ?zhx ?zhk ?zhd ?_); (case zhx => kernel_rfl!); (case zhN => top_name); (case zhL => rfl); (case zhv => top_name); (case zhk => rfl); (case zhd => decide +kernel))
      ((with_reducible refine t_int ?_); (intro _))
      ((with_reducible refine' t_subTup ?zha ?zhs ?_); (case zha => top_raise); (case zhs => rfl))
      ((with_reducible refine' t_itemTup ?zha ?zhi ?zhz ?zhv ?_); (case zha => top_raise); (case zhi => decide); (case zhz => decide); (case zhv => rfl))
      ((with_reducible refine t_args ?_ ?zhe); (case zhe => rfl))
      ((with_reducible refine' t_local ?zhL ?zhN ?zhv ?zhx ?zhk ?zhd ?_); (case zhx => kernel_rfl!); (case zhN => top_name); (case zhL => rfl); (case zhv => top_name); (case zhk => rfl); (case zhd => decide +kernel))
      ((with_reducible refine t_args ?_ ?zhe); (case zhe => rfl))
      ((with_reducible refine' t_local ?zhL ?zhN ?zhv ?zhx ?zhk ?zhd ?_); (case zhx => kernel_rfl!); (case zhN => top_name); (case zhL => rfl); (case zhv => top_name); (case zhk => rfl); (case zhd => decide +kernel))
      with_reducible refine t_args0 ?_
      ((with_reducible refine cp1 ?zhc ?_); (case zhc => k_caughtNB))
      refine tr_call (sp_pnsPop (by k_caughtN0) _ fun tv => ?_)
      ((with_reducible refine' t_store ?zhL ?zu ?zhN ?zhl ?zhx ?zhk ?_); (case zhx => kernel_rfl!); (case zhN => top_name); (case zhL => rfl); (case zhl => k_caught0); (case zu => k_caught0); (case zhk => rfl))
      with_reducible refine fl_next ?_
      with_reducible refine t_nil ?_
      with_reducible refine fl_next ?_
      with_reducible refine t_cons ?_
      ((with_reducible refine t_ExprSt ?_ ?zhi ?zhs); (case zhi => rfl); (case zhs => rfl))
      ((with_reducible refine' t_MCall ?_ ?zhe); (case zhe => rfl))
      ((with_reducible refine' t_local ?zhL ?zhN ?zhv ?zhx ?zhk ?zhd ?_); (case zhx => kernel_rfl!); (case zhN => top_name); (case zhL => rfl); (case zhv => top_name); (case zhk => rfl); (case zhd => decide +kernel))
      ((with_reducible refine' ml_append ?zha ?_); (case zha => top_raise))
      with_reducible refine mc ?_
      with_reducible refine t_callWithP ?_
      ((with_reducible refine t_evalArgs ?_ ?zhe); (case zhe => rfl))
      ((with_reducible refine t_args ?_ ?zhe); (case zhe => rfl))
      with_reducible refine t_Tuple ?_
      ((with_reducible refine t_args ?_ ?zhe); (case zhe => rfl))
      ((with_reducible refine' t_local ?zhL ?zhN ?zhv ?zhx ?zhk ?zhd ?_); (case zhx => kernel_rfl!); (case zhN => top_name); (case zhL => rfl); (case zhv => top_name); (case zhk => rfl); (case zhd => decide +kernel))
      ((with_reducible refine t_args ?_ ?zhe); (case zhe => rfl))
      ((with_reducible refine' t_local ?zhL ?zhN ?zhv ?zhx ?zhk ?zhd ?_); (case zhx => kernel_rfl!); (case zhN => top_name); (case zhL => rfl); (case zhv => top_name); (case zhk => rfl); (case zhd => decide +kernel))
      ((with_reducible refine t_args ?_ ?zhe); (case zhe => rfl))
      ((with_reducible refine' t_local ?zhL ?zhN ?zhv ?zhx ?zhk ?zhd ?_); (case zhx => kernel_rfl!); (case zhN => top_name); (case zhL => rfl); (case zhv => top_name); (case zhk => rfl); (case zhd => decide +kernel))
      with_reducible refine t_args0 ?_
      ((with_reducible refine t_newTuple ?zhz ?_); (case zhz => simp [sizeLine]))
      intro _
      with_reducible refine t_args0 ?_
      ((with_reducible refine cp1 ?zhc ?_); (case zhc => k_caughtNB))
      ((with_reducible refine' t_append ?zha ?zu ?zhz ?_); (case zha => top_name); (case zu => k_caught0); (case zhz => (unfold sizeLine; omega)))
      with_reducible refine fl_next ?_
      with_reducible refine t_nil ?_
      with_reducible refine tu_next ?_
      rename_i tz nt
      refine cl_fix (N2 := (nt, .tup [.ref mo, .ref r.ty, .int (-1) tv]) :: (mo, .raw (methodObj (.ref 648) (.ref pl))) :: (it, itL ls (i + 1)) :: (tl, .lst (ws ++ [.ref nt])) :: (pr, .dic (acc ++ [(k, .ref tl)])) :: (L, .ns [("cls", .ref x), ("unprocessed", .ref up), ("processed", .ref pr), ("state", .str k t), ("tokens", .ref tl), ("rflags", .int 8 1197)]) :: N) (by k_caught0) (by k_caught0) (by k_caught0) ?_
      refine cl_freeze2 fun F3 hF3 h1 h2 => ?_
      exact IH (vs.length - (i + 1)) (by omega) _ ⟨F3, i + 1, _, rfl, PH.le_trans hF1 hF3, by omega, fin F3 _ _ hF3 h1 h2 (by rw [hra]; exact ⟨_, rfl⟩)⟩
  · ((with_reducible refine' t_nextListEnd ?zhh ?zhi ?zha ?zhv ?zu ?_); (case zhh => (refine Rm.hd (n := 0) ?_; k_caughtN0)); (case zhi => top_name); (case zha => exact Kn.fz' hls1); (case zhv => exact hi); (case zu => k_caught0))
    with_reducible refine t_nil ?_
    with_reducible refine fl_next ?_
    with_reducible refine t_cons ?_
    with_reducible refine t_Return ?_
    ((with_reducible refine' t_local ?zhL ?zhN ?zhv ?zhx ?zhk ?zhd ?_); (case zhx => kernel_rfl!); (case zhN => top_name); (case zhL => rfl); (case zhv => top_name); (case zhk => rfl); (case zhd => decide +kernel))
    with_reducible refine fl_ret ?_
    rw [List.take_of_length_le (by omega)] at hws
    exact ⟨_, by k_caught0, _, rfl, h _ _ _ hF1 hws⟩
end Mine

namespace Mine
local macro_rules | `(tactic| top_name) => `(tactic| first | (with_reducible exact List.mem_cons_self) | (with_reducible refine List.mem_cons_of_mem _ ?_; top_name) | (with_reducible assumption))
local macro_rules | `(tactic| k_caught0) => `(tactic| first
  | (with_reducible exact LUpd.head) | (with_reducible exact LSet.nil) | (with_reducible exact LSet.head) | (with_reducible exact Rem.head) | (with_reducible exact Pick.refl)
  | ((with_reducible apply LUpd.tail); (k_caught0))
  | ((with_reducible apply LSet.tail); (· (decide +kernel)); (k_caught0))
  | ((with_reducible apply Rem.tail); (k_caught0))
  | ((with_reducible apply Pick.cons); (· k_caught0); (k_caught0))
  | ((with_reducible apply Pick.drop); (k_caught0)))
local macro_rules | `(tactic| top_raise) => `(tactic| first | (with_reducible refine Kn.row' ?_; top_name) | (with_reducible refine Kn.fz' ?_; with_reducible assumption) | (with_reducible assumption) | ((with_reducible refine Kn.skip ?_); top_raise))
local macro_rules | `(tactic| k_caughtN0) => `(tactic| first | assumption | (exact Rm.le (by assumption) (by decide)) | ((refine Rm.dp ?_); k_caughtN0) | ((refine Rm.mk' ?_); k_caughtN0) | (refine Rm.le (Rm.over (n := 40) (Rm.le (by assumption) (by decide)) (by first | exact Quiet.ok (by assumption) | exact fsOk_while (Quiet.ok (by assumption)))) (by decide)))
local macro_rules | `(tactic| k_caughtB) => `(tactic| first | exact Strs.nil | ((apply Strs.cons); k_caughtB) | assumption)
local macro_rules | `(tactic| top_strB) => `(tactic| with_reducible first | exact bl_len | exact bl_isinstance | exact bl_type | exact bl_list | exact bl_tuple | exact bl_range | exact bl_str | exact bl_int | exact bl_abs | exact bl_sum | exact bl_enumerate | exact bl_zip | exact bl_max | exact bl_min | exact bl_divmod | exact bl_callable)
local macro_rules | `(tactic| top_raise0) => `(tactic| with_reducible first | exact g_wall_ | exact g_TokenType_ | exact g_Token | exact g_Whitespace | exact g_Error | exact g_String | exact g_Number | exact g_ALIASES_ | exact g_string_to_tokentype | exact g_CS_ESCAPE | exact g_commonprefix | exact g_make_charset | exact g_pull_ | exact g_same_ | exact g_groupby | exact g_grouper_ | exact g_special_chars_map_ | exact g_escape | exact g_regex_opt_inner | exact g_regex_opt | exact g_Lexer | exact g_include | exact g_inherit_ | exact g_combined | exact g_PseudoMatch_ | exact g_default | exact g_words | exact g_nothing_ | exact g_inherit_place | exact g_merged_tokendefs | exact g_RegexLexerMeta | exact g_RegexLexer | exact g_PlainMatch | exact g_Plain | exact g_PlainLexer | exact g_law_rest_ | exact g_law_reads_ | exact g_law)
local macro_rules | `(tactic| top_argsB) => `(tactic| with_reducible first | exact bn_len | exact bn_isinstance | exact bn_type | exact bn_list | exact bn_tuple | exact bn_range | exact bn_str | exact bn_int | exact bn_abs | exact bn_sum | exact bn_enumerate | exact bn_zip | exact bn_max | exact bn_min | exact bn_divmod | exact bn_callable)
local macro_rules | `(tactic| top_reprB) => `(tactic| with_reducible first | exact ga_83 | exact mk_83 | exact bo_83 | exact le_83 | exact ga_624 | exact mk_624 | exact bo_624 | exact le_624 | exact ga_651 | exact mk_651 | exact bo_651 | exact le_651 | exact ga_672 | exact mk_672 | exact bo_672 | exact le_672 | exact in_83 | exact if_83 | exact in_624 | exact if_624 | exact in_651 | exact if_651 | exact in_672 | exact if_672 | exact df_672_get_tokendefs | exact df_672_process_tokendef | exact df_672_process_state_ | exact df_672_process_regex_ | exact df_672_process_token_ | exact df_672_process_new_state_ | exact df_672_get_tokens_unprocessed | exact df_624_group | exact df_624_end | exact df_83_child | exact ni_str_TokenType_ | exact ni_str_combined | exact ni_tuple_inherit_ | exact ni_tuple_include | exact ni_tuple_default | exact ni_tuple_combined | exact ni_int_combined)
local macro_rules | `(tactic| top_caughtB) => `(tactic| with_reducible first | exact fl_83_names | exact fl_624_place | exact fl_624_pieces | exact fl_651_rows | exact fl_672_options | exact fl_672_stripnl | exact fl_672_stripall | exact fl_672_ensurenl | exact fl_672_filters | exact fl_672_tables | exact fl_672_all_tokens_ | exact fl_672_tmpname_ | exact fl_672_tokens_)
local macro_rules | `(tactic| top_raiseB) => `(tactic| with_reducible first | exact st_83_names | exact st_624_place | exact st_624_pieces | exact st_651_rows | exact st_672_options | exact st_672_stripnl | exact st_672_stripall | exact st_672_ensurenl | exact st_672_filters | exact st_672_tables | exact st_672_all_tokens_ | exact st_672_tmpname_ | exact st_672_tokens_)
local macro_rules | `(tactic| k_caughtNB) => `(tactic| with_reducible first | exact callee_bltin | exact callee_type | exact cal_83 | exact cal_624 | exact cal_651 | exact cal_672 | exact cal_621 | exact cal_615 | exact cal_648 | exact cal_73 | exact cal_115 | exact cal_494 | exact cal_501 | exact cal_551 | exact cal_544 | exact cal_536 | exact cal_669 | exact cal_522 | exact cal_529 | exact cal_580 | exact cal_278 | exact cal_682 | exact cal_687)

local macro_rules | `(tactic| top_raise) => `(tactic| with_reducible first | exact kn_89 | exact kn_88 | exact kn_90 | exact kn_108)

variable {w : World} {mg mb : Str → Option Value} {O : OsState} {A : Around} {F F' : PH} {N : List (Addr × OD)} {G : Array GenState}
/-- a table's text and what it says -/
structure STbl (P : Params) (F : PH) (kvs : List (Str × Value)) (tb : Tbl) : Prop where
  len : tb.length = kvs.length
  at' : ∀ (i : Nat) k v, kvs[i]? = some (k, v) → ∃ ls vs rs c, v = .ref ls ∧ tb[i]? = some (k, rs) ∧ Fz P F ls (.lst vs) ∧ SRules P F kvs vs rs ∧ vs.length ≤ 1000 ∧ k.cps[0]? = some c ∧ c ≠ 35
theorem SRules.fzT {P : Params} {kvs : List (Str × Value)} {vs : List Value} {rs : List RuleE} (h : SRules P F kvs vs rs) : FzT P F vs := fun i v e => by
  obtain ⟨v', r, h1, h2, a, pl, d, rw_, r1, t, dy, fy, rest, rfl, ha, _⟩ := h.get (List.getElem?_eq_some_iff.mp e).1
  exact ⟨a, _, Option.some.inj (e.symm.trans h1), ha⟩
theorem STbl.src {P : Params} {kvs : List (Str × Value)} {tb : Tbl} (h : STbl P F kvs tb) : SrcOk P F kvs := fun i k v e =>
  let ⟨ls, vs, rs, c, e1, e2, f, g, z, _⟩ := h.at' i k v e; ⟨ls, vs, e1, f, g.fzT, z⟩
theorem SAct.keys {P : Params} {kvs kvs' : List (Str × Value)} {rest : List Value} {a : Act} (h : SAct P F kvs rest a) (k : ∀ x, (valueAt kvs x).isSome = true → (valueAt kvs' x).isSome = true) : SAct P F kvs' rest a := by
  cases a with
  | stay => exact h
  | pop => exact h
  | go ls =>
    obtain ⟨v, e, h⟩ := h
    refine ⟨v, e, h.imp (fun ⟨a, vs, e1, f, s, z, q⟩ => ⟨a, vs, e1, f, s, z, fun x hx => (q x hx).imp id (k x)⟩) fun ⟨y, t, e1, e2, e3, e4⟩ => ⟨y, t, e1, e2, e3, k y e4⟩⟩
theorem SRules.keys {P : Params} {kvs kvs' : List (Str × Value)} {vs : List Value} {rs : List RuleE} (h : SRules P F kvs vs rs) (k : ∀ x, (valueAt kvs x).isSome = true → (valueAt kvs' x).isSome = true) : SRules P F kvs' vs rs := by
  induction h with
  | nil => exact .nil
  | cons a _ ih =>
    obtain ⟨a, pl, d, rw, r1, t, dy, fy, rest, e, h1, h2, h3, h4, h5, h6, h7, h8⟩ := a
    exact .cons ⟨a, pl, d, rw, r1, t, dy, fy, rest, e, h1, h2, h3, h4, h5, h6, h7, h8.keys k⟩ ih
theorem isSome_keys {kvs kvs' : List (Str × Value)} (h : kvs.map (·.1) = kvs'.map (·.1)) (x : Str) (hx : (valueAt kvs x).isSome = true) : (valueAt kvs' x).isSome = true := by
  rw [valueAt_isSome_eq_any] at hx ⊢
  obtain ⟨p, hp, e⟩ := List.any_eq_true.mp hx
  have : p.1 ∈ kvs'.map (·.1) := h ▸ List.mem_map_of_mem (f := (·.1)) hp
  obtain ⟨q, hq, e2⟩ := List.mem_map.mp this
  exact List.any_eq_true.mpr ⟨q, hq, by rw [e2]; exact e⟩
theorem STbl.copy {P : Params} {kvs acc : List (Str × Value)} {tb : Tbl} (h : STbl P F kvs tb) (le : F.le F') (hl : acc.length = kvs.length) (hc : Cop P F' kvs acc) : STbl P F' acc tb := by
  have hk : kvs.map (·.1) = acc.map (·.1) := by
    refine List.ext_getElem? fun i => ?_
    rw [List.getElem?_map, List.getElem?_map]
    rcases Nat.lt_or_ge i acc.length with hi | hi
    · obtain ⟨k, a, b, vs, e1, e2, _⟩ := hc i _ (List.getElem?_eq_getElem hi)
      rw [e1, List.getElem?_eq_getElem hi, e2]; rfl
    · rw [List.getElem?_eq_none hi, List.getElem?_eq_none (by omega)]
  refine ⟨h.len.trans hl.symm, fun i k v e => ?_⟩
  obtain ⟨k', a, b, vs, e1, e2, f, g⟩ := hc i _ e
  cases e2
  obtain ⟨ls, vs', rs, c, e3, e4, f', sr, z, hc1, hc2⟩ := h.at' i _ _ e1
  cases e3
  obtain ⟨_, o1, p1, q1⟩ := f
  obtain ⟨_, o2, p2, q2⟩ := f'.mono le
  obtain rfl : o1 = o2 := Option.some.inj (p1.symm.trans p2)
  have ev : vs = vs' := by
    obtain ⟨_, _, n1, d1⟩ := q1
    obtain ⟨_, _, n2, d2⟩ := q2
    rw [d1] at d2
    injection d2 with d3
    simpa using d3
  subst ev
  exact ⟨b, vs, rs, c, rfl, e4, g, (sr.mono le).keys (isSome_keys hk), z, hc1, hc2⟩
/-- the table as it stands, up to some state -/
def Done (P : Params) (F : PH) (tb : Tbl) (acc : List (Str × Value)) : Prop := ∀ (i : Nat) p, acc[i]? = some p → ∃ k rs sl vs, tb[i]? = some (k, rs) ∧ p = (k, .ref sl) ∧ Fz P F sl (.lst vs) ∧ RulesAt ads P F vs rs ∧ vs.length ≤ 1000
theorem Done.nil {P : Params} {tb : Tbl} : Done P F tb [] := fun i p e => by simp at e
theorem Done.mono {P : Params} {tb : Tbl} {acc : List (Str × Value)} (h : Done P F tb acc) (le : F.le F') : Done P F' tb acc := fun i p e =>
  let ⟨k, rs, sl, vs, e1, e2, f, g, z⟩ := h i p e; ⟨k, rs, sl, vs, e1, e2, f.mono le, g.mono le, z⟩
theorem Done.snoc {P : Params} {tb : Tbl} {acc : List (Str × Value)} {k : Str} {rs : List RuleE} {sl : Addr} {vs : List Value} (h : Done P F tb acc) (e : tb[acc.length]? = some (k, rs)) (f : Fz P F sl (.lst vs)) (g : RulesAt ads P F vs rs) (z : vs.length ≤ 1000) :
    Done P F tb (acc ++ [(k, .ref sl)]) := fun i p ei => by
  rcases Nat.lt_or_ge i acc.length with hi | hi
  · rw [List.getElem?_append_left hi] at ei; exact h i p ei
  · rw [List.getElem?_append_right hi] at ei
    obtain ⟨hlt, hv⟩ := List.getElem?_eq_some_iff.mp ei
    have h0 : i = acc.length := by simp at hlt; omega
    subst h0
    exact ⟨k, rs, sl, vs, e, by simpa using hv.symm, f, g, z⟩
theorem lookup_at : ∀ {tb : Tbl} {st : Str} {rs : List RuleE}, tb.lookup st = some rs → ∃ i : Nat, tb[i]? = some (st, rs)
  | [], st, rs, h => by simp at h
  | (k, r) :: tb, st, rs, h => by
    rw [List.lookup_cons] at h
    by_cases e : st = k
    · subst e
      simp only [beq_self_eq_true] at h
      exact ⟨0, by rw [← Option.some.inj h]; rfl⟩
    · rw [beq_eq_false_iff_ne.mpr e] at h
      obtain ⟨i, hi⟩ := lookup_at h
      exact ⟨i + 1, hi⟩
theorem Done.table {P : Params} {tb : Tbl} {acc : List (Str × Value)} {pr : Addr} (h : Done P F tb acc) (hl : acc.length = tb.length) (hp : Fz P F pr (.dic acc)) : TableAt ads P F pr tb := by
  refine ⟨acc, hp, fun st rs e => ?_⟩
  obtain ⟨_, _, _, _, nd, _⟩ := id hp
  obtain ⟨i, hi⟩ := lookup_at e
  have hlt : i < acc.length := by rw [hl]; exact (List.getElem?_eq_some_iff.mp hi).1
  obtain ⟨k, rs', sl, vs, e1, e2, f, g, z⟩ := h i _ (List.getElem?_eq_getElem hlt)
  cases hi.symm.trans e1
  refine ⟨sl, vs, valueAt_of_get nd (i := i) (by rw [List.getElem?_eq_getElem hlt, e2]), f, g, z⟩
theorem t_dictSet0 {X : Cx} {a : Addr} {x : Str} {t : Tok} {N' : List (Addr × OD)} {v : Value} {RU : Unit → Led → Prop} (ha : (a, OD.dic []) ∈ N) (u : LUpd N a (.dic [(x, v)]) N') (h : RU () ⟨F, N', G⟩) :
    Tr X A ⟨F, N, G⟩ (setItem (.ref a) (.str x t) v) RU := t_dictSetN ha rfl u (by decide) h
theorem Keys.len {kvs : List (Str × Value)} {vs : List Value} (h : Keys kvs vs) : vs.length = kvs.length := by
  induction h with
  | nil => rfl
  | cons _ ih => simp [ih]
theorem Keys.get {kvs : List (Str × Value)} {vs : List Value} (h : Keys kvs vs) : ∀ {i : Nat} {k : Str} {v : Value}, kvs[i]? = some (k, v) → ∃ t, vs[i]? = some (.str k t) := by
  induction h with
  | nil => intro i k v e; simp at e
  | @cons k' v' t' kvs vs _ ih =>
    intro i k v e
    cases i with
    | zero => cases Option.some.inj (show some (k', v') = some (k, v) from e); exact ⟨t', rfl⟩
    | succ i => exact ih (by simpa using e)
theorem Done.key {P : Params} {kvs acc : List (Str × Value)} {tb : Tbl} {F0 : PH} (h : Done P F tb acc) (ht : STbl P F0 kvs tb) : ∀ (j : Nat) p, acc[j]? = some p → ∃ x, kvs[j]? = some (p.1, x) := fun j p e => by
  obtain ⟨k, rs, sl, vs, e1, rfl, _⟩ := h j p e
  have hlt : j < kvs.length := by rw [← ht.len]; exact (List.getElem?_eq_some_iff.mp e1).1
  obtain ⟨ls, vs, rs', c, _, e2, _⟩ := ht.at' j _ _ (List.getElem?_eq_getElem hlt)
  have : (kvs[j]).1 = k := by
    have := e2.symm.trans e1
    simpa using congrArg (fun o => o.map Prod.fst) this
  exact ⟨kvs[j].2, by rw [List.getElem?_eq_getElem hlt, ← this]⟩
theorem sp_pdef {x d up o fl tt at_ : Addr} {tn t : Tok} {kvs : List (Str × Value)} {tb : Tbl}
   (hx : Kn (cx w mg mb O) ⟨F, N, G⟩ x (.inst 672 d)) (hd : Kn (cx w mg mb O) ⟨F, N, G⟩ d (.fld (lxF o fl tt at_ tn))) (hup : Fz w.params F up (.dic kvs)) (ht : STbl w.params F kvs tb) (hne : kvs ≠ []) (hz : kvs.length ≤ 1000) (hA : Rm A 70) (R : Value → Led → Prop)
   (h : ∀ F' pr acc, F.le F' → acc.length = tb.length → Done w.params F' tb acc → R (.ref pr) ⟨F', (pr, .dic acc) :: (at_, .dic [("", .ref pr)]) :: N, G⟩) :
   Cl (cx w mg mb O) A ⟨F, (at_, .dic []) :: N, G⟩ (.call (.ref 544) ⟨[.ref x, .str "" t, .ref up], []⟩) (Rv R) := by
  refine cl_def' (binds := [("cls", .ref x), ("name", .str "" t), ("tokendefs", .ref up)]) rfl (by kernel_rfl!) (by kernel_rfl!) hA.room rfl rfl (n := 0) (by rfl) ?_
  intro L
  with_reducible refine cells0 ?_
  with_reducible refine trB_cons ?_
  ((with_reducible refine' t_store ?zhL ?zu ?zhN ?zhl ?zhx ?zhk ?_); (case zhx => kernel_rfl!); (case zhN => top_name); (case zhL => rfl); (case zhl => k_caught0); (case zu => k_caught0); (case zhk => rfl))
  with_reducible refine trB_cons ?_
  ((with_reducible refine' t_store ?zhL ?zu ?zhN ?zhl ?zhx ?zhk ?_); (case zhx => kernel_rfl!); (case zhN => top_name); (case zhL => rfl); (case zhl => k_caught0); (case zu => k_caught0); (case zhk => rfl))
  with_reducible refine trB_cons ?_
  ((with_reducible refine' t_store ?zhL ?zu ?zhN ?zhl ?zhx ?zhk ?_); (case zhx => kernel_rfl!); (case zhN => top_name); (case zhL => rfl); (case zhl => k_caught0); (case zu => k_caught0); (case zhk => rfl))
  with_reducible refine trB_nil ?_
  with_reducible refine t_cons ?_
  ((with_reducible refine' t_Assign2 ?_ ?zhe ?zhw); (case zhe => rfl); (case zhw => rfl))
  ((with_reducible refine t_Dict0 ?_); (intro _))
  with_reducible refine t_assignName ?_
  ((with_reducible refine' t_store ?zhL ?zu ?zhN ?zhl ?zhx ?zhk ?_); (case zhx => kernel_rfl!); (case zhN => top_name); (case zhL => rfl); (case zhl => k_caught0); (case zu => k_caught0); (case zhk => rfl))
  with_reducible refine t_assignSub ?_
  ((with_reducible refine t_Attr ?_ ?zhe); (case zhe => rfl))
  ((with_reducible refine' t_local ?zhL ?zhN ?zhv ?zhx ?zhk ?zhd ?_); (case zhx => kernel_rfl!); (case zhN => top_name); (case zhL => rfl); (case zhv => top_name); (case zhk => rfl); (case zhd => decide +kernel))
  ((with_reducible refine' t_field ?zhx ?zhd ?zhv ?zhf ?zhg ?zhh ?_); (case zhx => top_raise); (case zhd => top_raise); (case zhv => top_name); (case zhf => top_caughtB); (case zhg => top_reprB); (case zhh => rfl))
  ((with_reducible refine' t_local ?zhL ?zhN ?zhv ?zhx ?zhk ?zhd ?_); (case zhx => kernel_rfl!); (case zhN => top_name); (case zhL => rfl); (case zhv => top_name); (case zhk => rfl); (case zhd => decide +kernel))
  ((with_reducible refine' t_dictSet0 ?zha ?zu ?_); (case zha => top_name); (case zu => k_caught0))
  with_reducible refine fl_next ?_
  with_reducible refine t_cons ?_
  ((with_reducible refine t_AssignName ?_ ?zhs); (case zhs => rfl))
  with_reducible refine t_Or ?_
  ((with_reducible refine' t_local ?zhL ?zhN ?zhv ?zhx ?zhk ?zhd ?_); (case zhx => kernel_rfl!); (case zhN => top_name); (case zhL => rfl); (case zhv => top_name); (case zhk => rfl); (case zhd => decide +kernel))
  ((with_reducible refine' tt_dict ?zha ?zhz ?_); (case zha => top_raise); (case zhz => (first | (simp; done) | omega)))
  refine if_T (by cases kvs with | nil => exact absurd rfl hne | cons a b => rfl) ?_
  ((with_reducible refine' t_store ?zhL ?zu ?zhN ?zhl ?zhx ?zhk ?_); (case zhx => kernel_rfl!); (case zhN => top_name); (case zhL => rfl); (case zhl => k_caught0); (case zu => k_caught0); (case zhk => rfl))
  with_reducible refine fl_next ?_
  with_reducible refine t_cons ?_
  ((with_reducible refine t_For ?_ ?zhs); (case zhs => exact fun _ => rfl))
  ((with_reducible refine t_Call ?_ ?zhe); (case zhe => rfl))
  ((with_reducible refine' t_bltin ?ze ?zhv ?zhn ?zhg ?zhb ?zhk ?zhx ?zhd ?_); (case zhv => top_strB); (case ze => top_argsB); (case zhn => decide +kernel); (case zhg => rfl); (case zhb => rfl); (case zhk => rfl); (case zhx => kernel_rfl!); (case zhd => decide +kernel))
  with_reducible refine t_callWithP ?_
  ((with_reducible refine t_evalArgs ?_ ?zhe); (case zhe => rfl))
  ((with_reducible refine t_args ?_ ?zhe); (case zhe => rfl))
  ((with_reducible refine' t_local ?zhL ?zhN ?zhv ?zhx ?zhk ?zhd ?_); (case zhx => kernel_rfl!); (case zhN => top_name); (case zhL => rfl); (case zhv => top_name); (case zhk => rfl); (case zhd => decide +kernel))
  with_reducible refine t_args0 ?_
  ((with_reducible refine cp0 ?zhc ?_); (case zhc => k_caughtNB))
  ((with_reducible refine' t_listOfDict ?zhh ?zha ?zhz ?_); (case zhh => (refine Rm.hd (n := 0) ?_; k_caughtN0)); (case zha => top_raise); (case zhz => omega); (intro _ _ _))
  ((with_reducible refine' t_iterList ?zha ?_); (case zha => top_raise); (intro _))
  rename_i pr lk ks hks it
  refine cl_fix (N2 := (it, itL lk 0) :: (lk, .lst ks) :: (pr, .dic []) :: (L, .ns [("cls", .ref x), ("name", .str "" t), ("tokendefs", .ref up), ("processed", .ref pr)]) :: (at_, .dic [("", .ref pr)]) :: N) (by k_caught0) (by k_caught0) (by k_caught0) ?_
  refine cl_ind (Inv := fun j l => ∃ (F' : PH) (acc : List (Str × Value)), l = ⟨F', (it, itL lk acc.length) :: (lk, .lst ks) :: (pr, .dic acc) :: (L, .ns [("cls", .ref x), ("name", .str "" t), ("tokendefs", .ref up), ("processed", .ref pr)]) :: (at_, .dic [("", .ref pr)]) :: N, G⟩ ∧ F.le F' ∧ acc.length + j = kvs.length ∧ Done w.params F' tb acc) ?_ kvs.length _ ⟨F, [], rfl, PH.le_refl F, by simp, Done.nil⟩
  rintro j l IH ⟨F1, acc, rfl, hF1, hj, hdn⟩
  have hx1 := hx.le hF1
  have hd1 := hd.le hF1
  have hup1 := hup.mono hF1
  have hkl := hks.len
  refine cl_for1 ?_
  rcases Nat.lt_or_ge acc.length kvs.length with hi | hi
  · obtain ⟨k, v, hkv⟩ : ∃ k v, kvs[acc.length]? = some (k, v) := ⟨_, _, List.getElem?_eq_getElem hi⟩
    obtain ⟨ls, vs, rs, c, rfl, htb, hls, hsr, hvz, hkc, hc⟩ := ht.at' _ _ _ hkv
    obtain ⟨tk, htk⟩ := hks.get hkv
    obtain ⟨_, _, _, _, nd, _⟩ := id hup
    have hfr := fresh_key nd (hdn.key ht) hkv (Nat.le_refl _)
    ((with_reducible refine' t_nextList ?zhi ?zha ?zhv ?zu ?_); (case zhi => top_name); (case zha => top_raise); (case zhv => exact htk); (case zu => k_caught0))
    with_reducible refine t_goName ?_
    with_reducible refine t_assignName ?_
    ((with_reducible refine' t_store ?zhL ?zu ?zhN ?zhl ?zhx ?zhk ?_); (case zhx => kernel_rfl!); (case zhN => top_name); (case zhL => rfl); (case zhl => k_caught0); (case zu => k_caught0); (case zhk => rfl))
    with_reducible refine t_cons ?_
    ((with_reducible refine t_ExprSt ?_ ?zhi ?zhs); (case zhi => rfl); (case zhs => rfl))
    ((with_reducible refine' t_MCall ?_ ?zhe); (case zhe => rfl))
    ((with_reducible refine' t_local ?zhL ?zhN ?zhv ?zhx ?zhk ?zhd ?_); (case zhx => kernel_rfl!); (case zhN => top_name); (case zhL => rfl); (case zhv => top_name); (case zhk => rfl); (case zhd => decide +kernel))
    ((with_reducible refine' t_methodOf (f := 536) ?zhx ?zhd ?zhf ?zhg ?zhn ?_); (case zhx => top_raise); (case zhd => top_raise); (case zhf => top_reprB); (case zhg => top_reprB); (case zhn => kernel_rfl!))
    with_reducible refine mc ?_
    with_reducible refine t_callWithP ?_
    ((with_reducible refine t_evalArgs ?_ ?zhe); (case zhe => rfl))
    ((with_reducible refine t_args ?_ ?zhe); (case zhe => rfl))
    ((with_reducible refine' t_local ?zhL ?zhN ?zhv ?zhx ?zhk ?zhd ?_); (case zhx => kernel_rfl!); (case zhN => top_name); (case zhL => rfl); (case zhv => top_name); (case zhk => rfl); (case zhd => decide +kernel))
    ((with_reducible refine t_args ?_ ?zhe); (case zhe => rfl))
    ((with_reducible refine' t_local ?zhL ?zhN ?zhv ?zhx ?zhk ?zhd ?_); (case zhx => kernel_rfl!); (case zhN => top_name); (case zhL => rfl); (case zhv => top_name); (case zhk => rfl); (case zhd => decide +kernel))
    ((with_reducible refine t_args ?_ ?zhe); (case zhe => rfl))
    ((with_reducible refine' t_local ?zhL ?zhN ?zhv ?zhx ?zhk ?zhd ?_); (case zhx => kernel_rfl!); (case zhN => top_name); (case zhL => rfl); (case zhv => top_name); (case zhk => rfl); (case zhd => decide +kernel))
    with_reducible refine t_args0 ?_
    ((with_reducible refine cp1 ?zhc ?_); (case zhc => k_caughtNB))
    refine tr_pick (N' := (pr, .dic acc) :: (it, itL lk (acc.length + 1)) :: (lk, .lst ks) :: (L, .ns [("cls", .ref x), ("name", .str "" t), ("tokendefs", .ref up), ("processed", .ref pr), ("state", .str k tk)]) :: (at_, .dic [("", .ref pr)]) :: N) (by k_caught0) ?_
    refine tr_call (sp_pstate (by top_raise) (by top_raise) hup1 (valueAt_of_get nd hkv) (hls.mono hF1) (hsr.mono hF1) hvz hkc hc hfr (by omega) (by k_caughtN0) _ fun F2 sl vs' hF2 hws => ?_)
    with_reducible refine fl_next ?_
    with_reducible refine t_nil ?_
    with_reducible refine tu_next ?_
    refine cl_fix (N2 := (sl, .lst vs') :: (it, itL lk (acc.length + 1)) :: (lk, .lst ks) :: (pr, .dic (acc ++ [(k, .ref sl)])) :: (L, .ns [("cls", .ref x), ("name", .str "" t), ("tokendefs", .ref up), ("processed", .ref pr)]) :: (at_, .dic [("", .ref pr)]) :: N) (by k_caught0) (by k_caught0) (by k_caught0) ?_
    refine cl_freeze .head fun F3 hF3 hsl => ?_
    have e : acc.length + 1 = (acc ++ [(k, Value.ref sl)]).length := by simp
    rw [e]
    have hwz : vs'.length ≤ 1000 := by rw [hws.len, ← hsr.len]; exact hvz
    exact IH (kvs.length - (acc.length + 1)) (by omega) _ ⟨F3, _, rfl, PH.le_trans hF1 (PH.le_trans hF2 hF3), by simp; omega, (hdn.mono (PH.le_trans hF2 hF3)).snoc htb hsl (hws.mono hF3) hwz⟩
  · ((with_reducible refine' t_nextListEnd ?zhh ?zhi ?zha ?zhv ?zu ?_); (case zhh => (refine Rm.hd (n := 0) ?_; k_caughtN0)); (case zhi => top_name); (case zha => top_raise); (case zhv => omega); (case zu => k_caught0))
    with_reducible refine t_nil ?_
    with_reducible refine fl_next ?_
    with_reducible refine t_cons ?_
    with_reducible refine t_Return ?_
    ((with_reducible refine' t_local ?zhL ?zhN ?zhv ?zhx ?zhk ?zhd ?_); (case zhx => kernel_rfl!); (case zhN => top_name); (case zhL => rfl); (case zhv => top_name); (case zhk => rfl); (case zhd => decide +kernel))
    with_reducible refine fl_ret ?_
    exact ⟨_, by k_caught0, _, rfl, h _ _ _ hF1 (by have := ht.len; omega) hdn⟩
end Mine

namespace Mine
local macro_rules | `(tactic| top_name) => `(tactic| first | (with_reducible exact List.mem_cons_self) | (with_reducible refine List.mem_cons_of_mem _ ?_; top_name) | (with_reducible assumption))
local macro_rules | `(tactic| k_caught0) => `(tactic| first
  | (with_reducible exact LUpd.head) | (with_reducible exact LSet.nil) | (with_reducible exact LSet.head) | (with_reducible exact Rem.head) | (with_reducible exact Pick.refl)
  | ((with_reducible apply LUpd.tail); (k_caught0))
  | ((with_reducible apply LSet.tail); (· (decide +kernel)); (k_caught0))
  | ((with_reducible apply Rem.tail); (k_caught0))
  | ((with_reducible apply Pick.cons); (· k_caught0); (k_caught0))
  | ((with_reducible apply Pick.drop); (k_caught0)))
local macro_rules | `(tactic| top_raise) => `(tactic| first | (with_reducible refine Kn.row' ?_; top_name) | (with_reducible refine Kn.fz' ?_; with_reducible assumption) | (with_reducible assumption) | ((with_reducible refine Kn.skip ?_); top_raise))
local macro_rules | `(tactic| k_caughtN0) => `(tactic| first | assumption | (exact Rm.le (by assumption) (by decide)) | ((refine Rm.dp ?_); k_caughtN0) | ((refine Rm.mk' ?_); k_caughtN0) | (refine Rm.le (Rm.over (n := 40) (Rm.le (by assumption) (by decide)) (by first | exact Quiet.ok (by assumption) | exact fsOk_while (Quiet.ok (by assumption)))) (by decide)))
local macro_rules | `(tactic| k_caughtB) => `(tactic| first | exact Strs.nil | ((apply Strs.cons); k_caughtB) | assumption)
local macro_rules | `(tactic| top_strB) => `(tactic| with_reducible first | exact bl_len | exact bl_isinstance | exact bl_type | exact bl_list | exact bl_tuple | exact bl_range | exact bl_str | exact bl_int | exact bl_abs | exact bl_sum | exact bl_enumerate | exact bl_zip | exact bl_max | exact bl_min | exact bl_divmod | exact bl_callable)
local macro_rules | `(tactic| top_raise0) => `(tactic| with_reducible first | exact g_wall_ | exact g_TokenType_ | exact g_Token | exact g_Whitespace | exact g_Error | exact g_String | exact g_Number | exact g_ALIASES_ | exact g_string_to_tokentype | exact g_CS_ESCAPE | exact g_commonprefix | exact g_make_charset | exact g_pull_ | exact g_same_ | exact g_groupby | exact g_grouper_ | exact g_special_chars_map_ | exact g_escape | exact g_regex_opt_inner | exact g_regex_opt | exact g_Lexer | exact g_include | exact g_inherit_ | exact g_combined | exact g_PseudoMatch_ | exact g_default | exact g_words | exact g_nothing_ | exact g_inherit_place | exact g_merged_tokendefs | exact g_RegexLexerMeta | exact g_RegexLexer | exact g_PlainMatch | exact g_Plain | exact g_PlainLexer | exact g_law_rest_ | exact g_law_reads_ | exact g_law)
local macro_rules | `(tactic| top_argsB) => `(tactic| with_reducible first | exact bn_len | exact bn_isinstance | exact bn_type | exact bn_list | exact bn_tuple | exact bn_range | exact bn_str | exact bn_int | exact bn_abs | exact bn_sum | exact bn_enumerate | exact bn_zip | exact bn_max | exact bn_min | exact bn_divmod | exact bn_callable)
local macro_rules | `(tactic| top_reprB) => `(tactic| with_reducible first | exact ga_83 | exact mk_83 | exact bo_83 | exact le_83 | exact ga_624 | exact mk_624 | exact bo_624 | exact le_624 | exact ga_651 | exact mk_651 | exact bo_651 | exact le_651 | exact ga_672 | exact mk_672 | exact bo_672 | exact le_672 | exact in_83 | exact if_83 | exact in_624 | exact if_624 | exact in_651 | exact if_651 | exact in_672 | exact if_672 | exact df_672_get_tokendefs | exact df_672_process_tokendef | exact df_672_process_state_ | exact df_672_process_regex_ | exact df_672_process_token_ | exact df_672_process_new_state_ | exact df_672_get_tokens_unprocessed | exact df_624_group | exact df_624_end | exact df_83_child | exact ni_str_TokenType_ | exact ni_str_combined | exact ni_tuple_inherit_ | exact ni_tuple_include | exact ni_tuple_default | exact ni_tuple_combined | exact ni_int_combined)
local macro_rules | `(tactic| top_caughtB) => `(tactic| with_reducible first | exact fl_83_names | exact fl_624_place | exact fl_624_pieces | exact fl_651_rows | exact fl_672_options | exact fl_672_stripnl | exact fl_672_stripall | exact fl_672_ensurenl | exact fl_672_filters | exact fl_672_tables | exact fl_672_all_tokens_ | exact fl_672_tmpname_ | exact fl_672_tokens_)
local macro_rules | `(tactic| top_raiseB) => `(tactic| with_reducible first | exact st_83_names | exact st_624_place | exact st_624_pieces | exact st_651_rows | exact st_672_options | exact st_672_stripnl | exact st_672_stripall | exact st_672_ensurenl | exact st_672_filters | exact st_672_tables | exact st_672_all_tokens_ | exact st_672_tmpname_ | exact st_672_tokens_)
local macro_rules | `(tactic| k_caughtNB) => `(tactic| with_reducible first | exact callee_bltin | exact callee_type | exact cal_83 | exact cal_624 | exact cal_651 | exact cal_672 | exact cal_621 | exact cal_615 | exact cal_648 | exact cal_73 | exact cal_115 | exact cal_494 | exact cal_501 | exact cal_551 | exact cal_544 | exact cal_536 | exact cal_669 | exact cal_522 | exact cal_529 | exact cal_580 | exact cal_278 | exact cal_682 | exact cal_687)

local macro_rules | `(tactic| top_raise) => `(tactic| with_reducible first | exact kn_89 | exact kn_88 | exact kn_90 | exact kn_108)

variable {w : World} {mg mb : Str → Option Value} {O : OsState} {A : Around} {F F' : PH} {N : List (Addr × OD)} {G : Array GenState}
/-- a made lexer's fields -/
abbrev lxT (o fl tt at_ : Addr) (tn : Tok) (pr : Addr) : List (Str × Value) := [("options", .ref o), ("stripnl", .bool true), ("stripall", .bool false), ("ensurenl", .bool true), ("filters", .ref fl), ("tables", .ref tt), ("_all_tokens", .ref at_), ("_tmpname", .int 0 tn), ("_tokens", .ref pr)]
theorem t_evalArgsKw1 {X : Cx} {l : Led} {A : Around} {env : Env} {pos : Pos} {f : Value} {x e : Expr} {R : Args → Led → Prop}
    (h : Tr X A l (eval x env) fun v l1 => Opn l1 fun F N G => ∀ d, Tr X A ⟨F, (d, .dic []) :: N, G⟩ (eval e env) fun v2 l2 => ∃ a, v2 = .ref a ∧ Kn X l2 a (.dic []) ∧ Kn X l2 d (.dic []) ∧ R ⟨[v], []⟩ l2) (he : starEach [x] env = (false, eval x env) :: starEach [] env) (he0 : starEach [] env = []) :
    Tr X A l (evalArgs f true (backTo pos [(false, eval x env)]) (backToKw pos [(none, eval e env)])) R := by
  refine t_evalArgsKw0 ?_
  have q : Tr X A l (spliced (backTo pos (starEach [x] env))) (fun vs l1 => Opn l1 fun F N G => ∀ d, Tr X A ⟨F, (d, .dic []) :: N, G⟩ (eval e env) fun v2 l2 => ∃ a, v2 = .ref a ∧ Kn X l2 a (.dic []) ∧ Kn X l2 d (.dic []) ∧ R ⟨vs, []⟩ l2) :=
    t_args (h.mono fun v l1 h1 => t_args0 h1) he
  rw [he, he0] at q
  refine Tr.mono q fun vs l1 h1 d => ?_
  refine tr_bind ((h1 d).mono fun v l2 r => ?_)
  refine tr_bind (m := standAt pos) fun s E S => wpAny_standAt ⟨l2, S, tr_pure r⟩
theorem sp_RLinit {x d td : Addr} {kvs : List (Str × Value)} {tb : Tbl} (htd : Fz w.params F td (.dic kvs)) (ht : STbl w.params F kvs tb) (hne : kvs ≠ []) (hz : kvs.length ≤ 1000) (hA : Rm A 100) (R : Value → Led → Prop)
   (h : ∀ F' pr acc o fl tt at_ tn, F.le F' → acc.length = tb.length → Done w.params F' tb acc → R .none ⟨F', (x, .inst 672 d) :: (d, .fld (lxT o fl tt at_ tn pr)) :: (pr, .dic acc) :: N, G⟩) :
   Cl (cx w mg mb O) A ⟨F, (x, .inst 672 d) :: (d, .fld []) :: N, G⟩ (.call (.ref 571) ⟨[.ref x, .ref td], []⟩) (Rv R) := by
  obtain ⟨ep, htd2⟩ := FzD.of htd
  have hsrc := ht.src
  refine cl_defB rfl (by kernel_rfl!) hA.room rfl rfl (n := 0) (by rfl) ?_
  refine t_bindVK (fun t o => [("self", .ref x), ("tables", t), ("options", o)]) (rest := [.ref td]) (by rfl) (by unfold sizeLine; simp) fun tt o => ?_
  with_reducible refine opn ?_
  intro _
  with_reducible refine cells0 ?_
  with_reducible refine trB_cons ?_
  ((with_reducible refine' t_store ?zhL ?zu ?zhN ?zhl ?zhx ?zhk ?_); (case zhx => kernel_rfl!); (case zhN => top_name); (case zhL => rfl); (case zhl => k_caught0); (case zu => k_caught0); (case zhk => rfl))
  with_reducible refine trB_cons ?_
  ((with_reducible refine' t_store ?zhL ?zu ?zhN ?zhl ?zhx ?zhk ?_); (case zhx => kernel_rfl!); (case zhN => top_name); (case zhL => rfl); (case zhl => k_caught0); (case zu => k_caught0); (case zhk => rfl))
  with_reducible refine trB_cons ?_
  ((with_reducible refine' t_store ?zhL ?zu ?zhN ?zhl ?zhx ?zhk ?_); (case zhx => kernel_rfl!); (case zhN => top_name); (case zhL => rfl); (case zhl => k_caught0); (case zu => k_caught0); (case zhk => rfl))
  with_reducible refine trB_nil ?_
  with_reducible refine t_cons ?_
  ((with_reducible refine t_ExprSt ?_ ?zhi ?zhs); (case zhi => rfl); (case zhs => rfl))
  refine t_MCallKw ?_ rfl
  ((with_reducible refine' t_glob ?ze ?zhg ?zhk ?zhx ?zhd ?_); (case ze => top_raise0); (case zhg => rfl); (case zhk => rfl); (case zhx => kernel_rfl!); (case zhd => decide +kernel))
  refine t_clsVal rd_310 fc_310_init rfl ?_
  refine t_callWithKw ?_
  refine t_evalArgsKw1 ?_ rfl rfl
  ((with_reducible refine' t_local ?zhL ?zhN ?zhv ?zhx ?zhk ?zhd ?_); (case zhx => kernel_rfl!); (case zhN => top_name); (case zhL => rfl); (case zhv => top_name); (case zhk => rfl); (case zhd => decide +kernel))
  with_reducible refine opn ?_
  intro _
  ((with_reducible refine' t_local ?zhL ?zhN ?zhv ?zhx ?zhk ?zhd ?_); (case zhx => kernel_rfl!); (case zhN => top_name); (case zhL => rfl); (case zhv => top_name); (case zhk => rfl); (case zhd => decide +kernel))
  refine ⟨_, rfl, by top_raise, by top_raise, ?_⟩
  ((with_reducible refine cp0 ?zhc ?_); (case zhc => k_caughtNB))
  rename_i L dd
  refine tr_pick (N' := (x, .inst 672 d) :: (d, .fld []) :: (L, .ns [("self", .ref x), ("tables", .ref tt), ("options", .ref o)]) :: (tt, .tup [.ref td]) :: N) (by k_caught0) ?_
  refine tr_call (sp_LexInit (by k_caughtN0) _ fun o2 fl => ?_)
  with_reducible refine fl_next ?_
  with_reducible refine t_cons ?_
  ((with_reducible refine t_AssignAttr ?_ ?zhs); (case zhs => rfl))
  ((with_reducible refine' t_local ?zhL ?zhN ?zhv ?zhx ?zhk ?zhd ?_); (case zhx => kernel_rfl!); (case zhN => top_name); (case zhL => rfl); (case zhv => top_name); (case zhk => rfl); (case zhd => decide +kernel))
  ((with_reducible refine' t_local ?zhL ?zhN ?zhv ?zhx ?zhk ?zhd ?_); (case zhx => kernel_rfl!); (case zhN => top_name); (case zhL => rfl); (case zhv => top_name); (case zhk => rfl); (case zhd => decide +kernel))
  ((with_reducible refine' t_setattr ?zhx ?zhd ?zhf ?zhl ?zu ?zhz ?_); (case zhx => top_raise); (case zhd => top_name); (case zhl => k_caught0); (case zu => k_caught0); (case zhf => top_raiseB); (case zhz => simp))
  with_reducible refine fl_next ?_
  with_reducible refine t_cons ?_
  ((with_reducible refine t_AssignAttr ?_ ?zhs); (case zhs => rfl))
  ((with_reducible refine t_Dict0 ?_); (intro _))
  ((with_reducible refine' t_local ?zhL ?zhN ?zhv ?zhx ?zhk ?zhd ?_); (case zhx => kernel_rfl!); (case zhN => top_name); (case zhL => rfl); (case zhv => top_name); (case zhk => rfl); (case zhd => decide +kernel))
  ((with_reducible refine' t_setattr ?zhx ?zhd ?zhf ?zhl ?zu ?zhz ?_); (case zhx => top_raise); (case zhd => top_name); (case zhl => k_caught0); (case zu => k_caught0); (case zhf => top_raiseB); (case zhz => simp))
  with_reducible refine fl_next ?_
  with_reducible refine t_cons ?_
  ((with_reducible refine t_AssignAttr ?_ ?zhs); (case zhs => rfl))
  ((with_reducible refine t_int ?_); (intro _))
  ((with_reducible refine' t_local ?zhL ?zhN ?zhv ?zhx ?zhk ?zhd ?_); (case zhx => kernel_rfl!); (case zhN => top_name); (case zhL => rfl); (case zhv => top_name); (case zhk => rfl); (case zhd => decide +kernel))
  ((with_reducible refine' t_setattr ?zhx ?zhd ?zhf ?zhl ?zu ?zhz ?_); (case zhx => top_raise); (case zhd => top_name); (case zhl => k_caught0); (case zu => k_caught0); (case zhf => top_raiseB); (case zhz => simp))
  with_reducible refine fl_next ?_
  with_reducible refine t_cons ?_
  ((with_reducible refine t_AssignAttr ?_ ?zhs); (case zhs => rfl))
  ((with_reducible refine' t_MCall ?_ ?zhe); (case zhe => rfl))
  ((with_reducible refine' t_local ?zhL ?zhN ?zhv ?zhx ?zhk ?zhd ?_); (case zhx => kernel_rfl!); (case zhN => top_name); (case zhL => rfl); (case zhv => top_name); (case zhk => rfl); (case zhd => decide +kernel))
  ((with_reducible refine' t_methodOf (f := 544) ?zhx ?zhd ?zhf ?zhg ?zhn ?_); (case zhx => top_raise); (case zhd => top_raise); (case zhf => top_reprB); (case zhg => top_reprB); (case zhn => kernel_rfl!))
  with_reducible refine mc ?_
  with_reducible refine t_callWithP ?_
  ((with_reducible refine t_evalArgs ?_ ?zhe); (case zhe => rfl))
  ((with_reducible refine t_args ?_ ?zhe); (case zhe => rfl))
  ((with_reducible refine t_str ?_); (intro _))
  ((with_reducible refine t_args ?_ ?zhe); (case zhe => rfl))
  ((with_reducible refine' t_MCall ?_ ?zhe); (case zhe => rfl))
  ((with_reducible refine' t_local ?zhL ?zhN ?zhv ?zhx ?zhk ?zhd ?_); (case zhx => kernel_rfl!); (case zhN => top_name); (case zhL => rfl); (case zhv => top_name); (case zhk => rfl); (case zhd => decide +kernel))
  ((with_reducible refine' t_methodOf (f := 551) ?zhx ?zhd ?zhf ?zhg ?zhn ?_); (case zhx => top_raise); (case zhd => top_raise); (case zhf => top_reprB); (case zhg => top_reprB); (case zhn => kernel_rfl!))
  with_reducible refine mc ?_
  with_reducible refine t_callWithP ?_
  with_reducible refine t_evalArgs0 ?_
  ((with_reducible refine cp1 ?zhc ?_); (case zhc => k_caughtNB))
  ((with_reducible refine' tr_call (sp_getdefs ?zhx ?zhe ?zht ?zhd ?zhs ?zhz ?zhA _ ?_)); (case zhx => top_raise); (case zhe => top_raise); (case zht => top_raise); (case zhd => assumption); (case zhs => assumption); (case zhz => assumption); (case zhA => k_caughtN0); (intro _ _ _ _ _ _))
  with_reducible refine t_args0 ?_
  ((with_reducible refine cp1 ?zhc ?_); (case zhc => k_caughtNB))
  rename_i at_ tn _ F1 up acc hF1 hl hcop
  refine tr_freeze (by k_caught0) fun F2 hF2 hup => ?_
  have ht2 := ht.copy (PH.le_trans hF1 hF2) hl (hcop.mono hF2)
  refine tr_pick (N' := (at_, .dic []) :: (x, .inst 672 d) :: (d, .fld (lxF o2 fl tt at_ tn)) :: (L, .ns [("self", .ref x), ("tables", .ref tt), ("options", .ref o)]) :: N) (by k_caught0) ?_
  refine tr_call (sp_pdef (by top_raise) (by top_raise) hup ht2 (fun e => hne (List.length_eq_zero_iff.mp (by rw [← hl, e]; rfl))) (by omega) (by k_caughtN0) _ fun F3 pr acc3 hF3 hl3 hdn => ?_)
  ((with_reducible refine' t_local ?zhL ?zhN ?zhv ?zhx ?zhk ?zhd ?_); (case zhx => kernel_rfl!); (case zhN => top_name); (case zhL => rfl); (case zhv => top_name); (case zhk => rfl); (case zhd => decide +kernel))
  ((with_reducible refine' t_setattr ?zhx ?zhd ?zhf ?zhl ?zu ?zhz ?_); (case zhx => top_raise); (case zhd => top_name); (case zhl => k_caught0); (case zu => k_caught0); (case zhf => top_raiseB); (case zhz => simp))
  with_reducible refine fl_next ?_
  with_reducible refine t_nil ?_
  exact ⟨_, by k_caught0, _, rfl, h _ pr _ o2 fl tt at_ tn (PH.le_trans hF1 (PH.le_trans hF2 hF3)) hl3 hdn⟩
end Mine

namespace Mine
local macro_rules | `(tactic| top_name) => `(tactic| first | (with_reducible exact List.mem_cons_self) | (with_reducible refine List.mem_cons_of_mem _ ?_; top_name) | (with_reducible assumption))
local macro_rules | `(tactic| k_caught0) => `(tactic| first
  | (with_reducible exact LUpd.head) | (with_reducible exact LSet.nil) | (with_reducible exact LSet.head) | (with_reducible exact Rem.head) | (with_reducible exact Pick.refl)
  | ((with_reducible apply LUpd.tail); (k_caught0))
  | ((with_reducible apply LSet.tail); (· (decide +kernel)); (k_caught0))
  | ((with_reducible apply Rem.tail); (k_caught0))
  | ((with_reducible apply Pick.cons); (· k_caught0); (k_caught0))
  | ((with_reducible apply Pick.drop); (k_caught0)))
local macro_rules | `(tactic| top_raise) => `(tactic| first | (with_reducible refine Kn.row' ?_; top_name) | (with_reducible refine Kn.fz' ?_; with_reducible assumption) | (with_reducible assumption) | ((with_reducible refine Kn.skip ?_); top_raise))
local macro_rules | `(tactic| k_caughtN0) => `(tactic| first | assumption | (exact Rm.le (by assumption) (by decide)) | ((refine Rm.dp ?_); k_caughtN0) | ((refine Rm.mk' ?_); k_caughtN0) | (refine Rm.le (Rm.over (n := 40) (Rm.le (by assumption) (by decide)) (by first | exact Quiet.ok (by assumption) | exact fsOk_while (Quiet.ok (by assumption)))) (by decide)))
local macro_rules | `(tactic| k_caughtB) => `(tactic| first | exact Strs.nil | ((apply Strs.cons); k_caughtB) | assumption)
local macro_rules | `(tactic| top_strB) => `(tactic| with_reducible first | exact bl_len | exact bl_isinstance | exact bl_type | exact bl_list | exact bl_tuple | exact bl_range | exact bl_str | exact bl_int | exact bl_abs | exact bl_sum | exact bl_enumerate | exact bl_zip | exact bl_max | exact bl_min | exact bl_divmod | exact bl_callable)
local macro_rules | `(tactic| top_raise0) => `(tactic| with_reducible first | exact g_wall_ | exact g_TokenType_ | exact g_Token | exact g_Whitespace | exact g_Error | exact g_String | exact g_Number | exact g_ALIASES_ | exact g_string_to_tokentype | exact g_CS_ESCAPE | exact g_commonprefix | exact g_make_charset | exact g_pull_ | exact g_same_ | exact g_groupby | exact g_grouper_ | exact g_special_chars_map_ | exact g_escape | exact g_regex_opt_inner | exact g_regex_opt | exact g_Lexer | exact g_include | exact g_inherit_ | exact g_combined | exact g_PseudoMatch_ | exact g_default | exact g_words | exact g_nothing_ | exact g_inherit_place | exact g_merged_tokendefs | exact g_RegexLexerMeta | exact g_RegexLexer | exact g_PlainMatch | exact g_Plain | exact g_PlainLexer | exact g_law_rest_ | exact g_law_reads_ | exact g_law)
local macro_rules | `(tactic| top_argsB) => `(tactic| with_reducible first | exact bn_len | exact bn_isinstance | exact bn_type | exact bn_list | exact bn_tuple | exact bn_range | exact bn_str | exact bn_int | exact bn_abs | exact bn_sum | exact bn_enumerate | exact bn_zip | exact bn_max | exact bn_min | exact bn_divmod | exact bn_callable)
local macro_rules | `(tactic| top_reprB) => `(tactic| with_reducible first | exact ga_83 | exact mk_83 | exact bo_83 | exact le_83 | exact ga_624 | exact mk_624 | exact bo_624 | exact le_624 | exact ga_651 | exact mk_651 | exact bo_651 | exact le_651 | exact ga_672 | exact mk_672 | exact bo_672 | exact le_672 | exact in_83 | exact if_83 | exact in_624 | exact if_624 | exact in_651 | exact if_651 | exact in_672 | exact if_672 | exact df_672_get_tokendefs | exact df_672_process_tokendef | exact df_672_process_state_ | exact df_672_process_regex_ | exact df_672_process_token_ | exact df_672_process_new_state_ | exact df_672_get_tokens_unprocessed | exact df_624_group | exact df_624_end | exact df_83_child | exact ni_str_TokenType_ | exact ni_str_combined | exact ni_tuple_inherit_ | exact ni_tuple_include | exact ni_tuple_default | exact ni_tuple_combined | exact ni_int_combined)
local macro_rules | `(tactic| top_caughtB) => `(tactic| with_reducible first | exact fl_83_names | exact fl_624_place | exact fl_624_pieces | exact fl_651_rows | exact fl_672_options | exact fl_672_stripnl | exact fl_672_stripall | exact fl_672_ensurenl | exact fl_672_filters | exact fl_672_tables | exact fl_672_all_tokens_ | exact fl_672_tmpname_ | exact fl_672_tokens_)
local macro_rules | `(tactic| top_raiseB) => `(tactic| with_reducible first | exact st_83_names | exact st_624_place | exact st_624_pieces | exact st_651_rows | exact st_672_options | exact st_672_stripnl | exact st_672_stripall | exact st_672_ensurenl | exact st_672_filters | exact st_672_tables | exact st_672_all_tokens_ | exact st_672_tmpname_ | exact st_672_tokens_)
local macro_rules | `(tactic| k_caughtNB) => `(tactic| with_reducible first | exact callee_bltin | exact callee_type | exact cal_83 | exact cal_624 | exact cal_651 | exact cal_672 | exact cal_621 | exact cal_615 | exact cal_648 | exact cal_73 | exact cal_115 | exact cal_494 | exact cal_501 | exact cal_551 | exact cal_544 | exact cal_536 | exact cal_669 | exact cal_522 | exact cal_529 | exact cal_580 | exact cal_278 | exact cal_682 | exact cal_687)

local macro_rules | `(tactic| top_raise) => `(tactic| with_reducible first | exact kn_89 | exact kn_88 | exact kn_90 | exact kn_108)

variable {w : World} {mg mb : Str → Option Value} {O : OsState} {A : Around} {F : PH} {N : List (Addr × OD)} {G : Array GenState}
theorem kn_572 : ∃ t : Tok, ∀ l : Led, Kn (cx w mg mb O) l 572 (.tup [.str "root" t]) := ⟨_, fun l => Kn.ofK (by decide) (by rfl) ⟨rfl, rfl, 0, rfl⟩⟩
theorem sp_gtuD {tb : Tbl} {td lx dx : Addr} {fs : List (Str × Value)} {text : Str} {tt : Tok}
    (hlx : Fz w.params F lx (.inst 672 dx)) (hdx : Fz w.params F dx (.fld fs)) (hfs : (("_tokens" : Str), Value.ref td) ∈ fs) (hT : TableAt ads w.params F td tb) (hok : TbOk tb)
    (hz : text.length ≤ 1000) (hso : StOk tb ["root"]) (hA : Rm A 60) {R : Value → Led → Prop}
    (h : ∀ ga gs own t u, GenOk (cx w mg mb O) 60 (lex tb 97 93 text.cps.toList 0 ["root"]) F gs own → R (.ref ga) ⟨F, (ga, genO G.size "get_tokens_unprocessed" "RegexLexer.get_tokens_unprocessed" t u) :: (own ++ N), G.push gs⟩) :
    Cl (cx w mg mb O) A ⟨F, N, G⟩ (.call (.ref 580) ⟨[.ref lx, .str text tt], []⟩) (Rv R) := by
  obtain ⟨st, hsteq⟩ : ∃ st : List Str, st = [("root" : Str)] := ⟨_, rfl⟩
  obtain ⟨tk, hk⟩ := kn_572 (w := w) (mg := mg) (mb := mb) (O := O)
  obtain ⟨svs, hsv⟩ : ∃ svs : List Value, svs = [.str "root" tk] := ⟨_, rfl⟩
  obtain ⟨sa, hsa0⟩ : ∃ sa : Addr, sa = 572 := ⟨_, rfl⟩
  have hst : Strs st svs := by subst hsteq hsv; exact .cons .nil
  have hsl : st.length ≤ 100 := by subst hsteq; decide
  rw [← hsteq] at hso h
  refine cl_gen (binds := [("self", .ref lx), ("text", .str text tt), ("stack", .ref 572)]) rfl (by kernel_rfl!) (by kernel_rfl!) hA.room rfl rfl (n := 0) (by rfl) ?_
  intro L
  with_reducible refine cells0 ?_
  with_reducible refine trB_cons ?_
  ((with_reducible refine' t_storeM ?zu ?zhN ?zhl ?zhx ?zhk ?_); (case zhx => kernel_rfl!); (case zhN => top_name); (case zhl => k_caught0); (case zu => k_caught0); (case zhk => rfl))
  with_reducible refine trB_cons ?_
  ((with_reducible refine' t_storeM ?zu ?zhN ?zhl ?zhx ?zhk ?_); (case zhx => kernel_rfl!); (case zhN => top_name); (case zhl => k_caught0); (case zu => k_caught0); (case zhk => rfl))
  with_reducible refine trB_cons ?_
  ((with_reducible refine' t_storeM ?zu ?zhN ?zhl ?zhx ?zhk ?_); (case zhx => kernel_rfl!); (case zhN => top_name); (case zhl => k_caught0); (case zu => k_caught0); (case zhk => rfl))
  with_reducible refine trB_nil ?_
  with_reducible refine opn ?_
  intro _
  intro _
  intro _
  refine ⟨_, rfl, h _ _ [(L, _)] _ _ (genOk_of ?_)⟩
  intro F' A' N' G' hF hA'
  have hlx := hlx.mono hF
  have hdx := hdx.mono hF
  have hT := hT.mono hF
  have hsa : ∀ l : Led, Kn (cx w mg mb O) l 572 (.tup svs) := fun l => hsv ▸ hk l
  have hsvl : svs.length ≤ 1000000 := by rw [hst.len]; (clear hsa0; clear hz; omega)
  have hn := hst.len
  obtain ⟨kvs, hkv, hst'⟩ := hT
  obtain ⟨rs, hrs⟩ := hso.top
  obtain ⟨sl, vs, hsl1, hsl2, hsl3, hsl4⟩ := hst' _ _ hrs
  obtain ⟨tl, hlast⟩ := hst.last hso.1
  have hpos : st.length ≠ 0 := fun e => hso.1 (List.length_eq_zero_iff.mp e)
  show Sg _ _ _ _ _ ⟨F', (L, _) :: N', G'⟩ _
  refine sg_func ?_
  with_reducible refine sg_cons ?_
  with_reducible refine sg_stmt ?_
  ((with_reducible refine t_AssignName ?_ ?zhs); (case zhs => rfl))
  ((with_reducible refine t_int ?_); (intro _))
  ((with_reducible refine' t_storeM ?zu ?zhN ?zhl ?zhx ?zhk ?_); (case zhx => kernel_rfl!); (case zhN => top_name); (case zhl => k_caught0); (case zu => k_caught0); (case zhk => rfl))
  with_reducible refine sg_cons ?_
  with_reducible refine sg_stmt ?_
  ((with_reducible refine t_AssignName ?_ ?zhs); (case zhs => rfl))
  ((with_reducible refine t_Attr ?_ ?zhe); (case zhe => rfl))
  ((with_reducible refine' t_localM ?zhN ?zhv ?zhx ?zhk ?zhd ?_); (case zhx => kernel_rfl!); (case zhN => top_name); (case zhv => top_name); (case zhk => rfl); (case zhd => decide +kernel))
  ((with_reducible refine' t_field ?zhx ?zhd ?zhv ?zhf ?zhg ?zhh ?_); (case zhx => top_raise); (case zhd => top_raise); (case zhv => top_name); (case zhf => top_caughtB); (case zhg => top_reprB); (case zhh => rfl))
  ((with_reducible refine' t_storeM ?zu ?zhN ?zhl ?zhx ?zhk ?_); (case zhx => kernel_rfl!); (case zhN => top_name); (case zhl => k_caught0); (case zu => k_caught0); (case zhk => rfl))
  with_reducible refine sg_cons ?_
  with_reducible refine sg_stmt ?_
  ((with_reducible refine t_AssignName ?_ ?zhs); (case zhs => rfl))
  ((with_reducible refine t_Call ?_ ?zhe); (case zhe => rfl))
  ((with_reducible refine' t_bltin ?ze ?zhv ?zhn ?zhg ?zhb ?zhk ?zhx ?zhd ?_); (case zhv => top_strB); (case ze => top_argsB); (case zhn => decide +kernel); (case zhg => rfl); (case zhb => rfl); (case zhk => rfl); (case zhx => kernel_rfl!); (case zhd => decide +kernel))
  with_reducible refine t_callWithP ?_
  ((with_reducible refine t_evalArgs ?_ ?zhe); (case zhe => rfl))
  ((with_reducible refine t_args ?_ ?zhe); (case zhe => rfl))
  ((with_reducible refine' t_localM ?zhN ?zhv ?zhx ?zhk ?zhd ?_); (case zhx => kernel_rfl!); (case zhN => top_name); (case zhv => top_name); (case zhk => rfl); (case zhd => decide +kernel))
  with_reducible refine t_args0 ?_
  ((with_reducible refine cp0 ?zhc ?_); (case zhc => k_caughtNB))
  ((with_reducible refine' t_listOfTup ?zha ?zhz ?_); (case zha => exact hsa _); (case zhz => with_reducible assumption); (intro _))
  ((with_reducible refine' t_storeM ?zu ?zhN ?zhl ?zhx ?zhk ?_); (case zhx => kernel_rfl!); (case zhN => top_name); (case zhl => k_caught0); (case zu => k_caught0); (case zhk => rfl))
  with_reducible refine sg_cons ?_
  with_reducible refine sg_stmt ?_
  ((with_reducible refine t_AssignName ?_ ?zhs); (case zhs => rfl))
  with_reducible refine t_Sub ?_
  ((with_reducible refine' t_localM ?zhN ?zhv ?zhx ?zhk ?zhd ?_); (case zhx => kernel_rfl!); (case zhN => top_name); (case zhv => top_name); (case zhk => rfl); (case zhd => decide +kernel))
  with_reducible refine t_Sub ?_
  ((with_reducible refine' t_localM ?zhN ?zhv ?zhx ?zhk ?zhd ?_); (case zhx => kernel_rfl!); (case zhN => top_name); (case zhv => top_name); (case zhk => rfl); (case zhd => decide +kernel))
  with_reducible refine t_Neg ?_
  ((with_reducible refine t_int ?_); (intro _))
  ((with_reducible refine ti_neg ?_); (intro _))
  ((with_reducible refine' t_subList ?zha ?zhs ?_); (case zha => top_raise); (case zhs => rfl))
  ((with_reducible refine' t_itemListNeg ?zha ?zh0 ?zhz ?zh2 ?zhv ?_); (case zha => top_raise); (case zh0 => decide); (case zhz => (clear hsl4; clear hsvl; clear hsl; clear hsa0; clear hz; omega)); (case zh2 => decide); (case zhv => exact hlast))
  ((with_reducible refine' t_subDict ?zha ?zhs ?_); (case zha => top_raise); (case zhs => rfl))
  refine t_dictGetItem (Kn.fz' hkv) hsl1 ?_
  ((with_reducible refine' t_storeM ?zu ?zhN ?zhl ?zhx ?zhk ?_); (case zhx => kernel_rfl!); (case zhN => top_name); (case zhl => k_caught0); (case zu => k_caught0); (case zhk => rfl))
  with_reducible refine sg_cons ?_
  refine sg_While fun p => ?_
  rename_i tp0 b0 t8 t9
  refine sg_fix (N2 := (L, .ns [("text", .str text tt), ("pos", .int 0 tp0), ("tokendefs", .ref td), ("statestack", .ref b0), ("statetokens", .ref sl)]) :: (b0, .lst svs) :: N') (by k_caught0) (by k_caught0) (by k_caught0) ?_
  refine wh_ind (Inv := fun k A fs l P => ∃ (F : PH) (N : List (Addr × OD)) (G : Array GenState) (pos : Nat) (pi : Int) (st : List Str) (svs : List Value) (sl ss : Addr) (tp : Tok) (vs : List Value) (rs : List RuleE),
      Rm A 60 ∧ Quiet (cx w mg mb O) fs ∧ pi = (pos : Int) ∧ l = ⟨F, (L, .ns [("text", .str text tt), ("pos", .int pi tp), ("tokendefs", .ref td), ("statestack", .ref ss), ("statetokens", .ref sl)]) :: (ss, .lst svs) :: N, G⟩ ∧
      Strs st svs ∧ StOk tb st ∧ st.length ≤ 100 + 10 * pos ∧ pos + k = text.length ∧ TableAt ads w.params F td tb ∧ tb.lookup (topOf st) = some rs ∧ Fz w.params F sl (.lst vs) ∧ RulesAt ads w.params F vs rs ∧ vs.length ≤ 1000 ∧
      P = GPost (cx w mg mb O) 60 (lex tb 97 93 (text.cps.toList.drop pos) pos st) F N G) ?_ text.length A' _ _ _ ?_
  · rintro k A fs l P IH ⟨F, N, G, pos, pi, st, svs, sl, ss, tp, vs, rs, hA, hQ, rfl, rfl, hst, hso, hsl, hpos, hT, hrs, hsl2, hsl3, hsl4, rfl⟩
    refine sg_whileTurn ?_
    ((with_reducible refine t_isVal ?_ ?zhe); (case zhe => rfl))
    ((with_reducible refine t_int ?_); (intro _))
    with_reducible refine tt_int ?_
    ((with_reducible refine if_T ?ze ?_); (case ze => (first | rfl | decide)))
    with_reducible refine sg_cons ?_
    refine sg_For ?_ (fun _ => rfl)
    ((with_reducible refine' t_localM ?zhN ?zhv ?zhx ?zhk ?zhd ?_); (case zhx => kernel_rfl!); (case zhN => top_name); (case zhv => top_name); (case zhk => rfl); (case zhd => decide +kernel))
    ((with_reducible refine' t_iterList ?zha ?_); (case zha => top_raise); (intro _))
    intro _
    rename_i it pf
    refine for_ind (Inv := fun j l => ∃ i, l = ⟨F, (it, itL sl i) :: (L, .ns [("text", .str text tt), ("pos", .int (pos : Int) tp), ("tokendefs", .ref td), ("statestack", .ref ss), ("statetokens", .ref sl)]) :: (ss, .lst svs) :: N, G⟩ ∧
      i + j = vs.length ∧ ∀ r ∈ rs.take i, text.cps[pos]? ≠ some r.c) ?_ vs.length _ ⟨0, rfl, by (clear hsl4; clear hpos; clear hsl; clear hpos; clear hsl4; clear hn; clear hsvl; clear hsl; clear hsa0; clear hz; omega), by simp⟩
    rintro j l IHf ⟨i, rfl, hij, hno⟩
    rcases Nat.lt_or_ge i vs.length with hi | hi
    · obtain ⟨v, r, hv, hr, ra, mo, av, rfl, hrt, hpat, hty, hact⟩ := hsl3.get hi
      obtain ⟨pl, pd, pr, pr1, pt, h1, h2, h3, h4, h5⟩ := hpat
      refine sg_forTurn ?_
      ((with_reducible refine' t_nextList ?zhi ?zha ?zhv ?zu ?_); (case zhi => top_name); (case zha => top_raise); (case zhv => exact hv); (case zu => k_caught0))
      ((with_reducible refine' t_goTupL ?zhi ?_); (case zhi => top_name))
      ((with_reducible refine' t_assignTup ?zhh ?zha ?zhe ?zhn ?_); (case zhh => (refine Rm.hd (n := 0) ?_; k_caughtN0)); (case zha => top_raise); (case zhe => rfl); (case zhn => rfl))
      with_reducible refine trA_cons ?_
      with_reducible refine t_assignName ?_
      ((with_reducible refine' t_storeM ?zu ?zhN ?zhl ?zhx ?zhk ?_); (case zhx => kernel_rfl!); (case zhN => top_name); (case zhl => k_caught0); (case zu => k_caught0); (case zhk => rfl))
      with_reducible refine trA_cons ?_
      with_reducible refine t_assignName ?_
      ((with_reducible refine' t_storeM ?zu ?zhN ?zhl ?zhx ?zhk ?_); (case zhx => kernel_rfl!); (case zhN => top_name); (case zhl => k_caught0); (case zu => k_caught0); (case zhk => rfl))
      with_reducible refine trA_cons ?_
      with_reducible refine t_assignName ?_
      ((with_reducible refine' t_storeM ?zu ?zhN ?zhl ?zhx ?zhk ?_); (case zhx => kernel_rfl!); (case zhN => top_name); (case zhl => k_caught0); (case zu => k_caught0); (case zhk => rfl))
      with_reducible refine trA_nil ?_
      with_reducible refine sg_cons ?_
      with_reducible refine sg_stmt ?_
      ((with_reducible refine t_AssignName ?_ ?zhs); (case zhs => rfl))
      ((with_reducible refine t_Call ?_ ?zhe); (case zhe => rfl))
      ((with_reducible refine' t_localM ?zhN ?zhv ?zhx ?zhk ?zhd ?_); (case zhx => kernel_rfl!); (case zhN => top_name); (case zhv => top_name); (case zhk => rfl); (case zhd => decide +kernel))
      with_reducible refine t_callWithP ?_
      ((with_reducible refine t_evalArgs ?_ ?zhe); (case zhe => rfl))
      ((with_reducible refine t_args ?_ ?zhe); (case zhe => rfl))
      ((with_reducible refine' t_localM ?zhN ?zhv ?zhx ?zhk ?zhd ?_); (case zhx => kernel_rfl!); (case zhN => top_name); (case zhv => top_name); (case zhk => rfl); (case zhd => decide +kernel))
      ((with_reducible refine t_args ?_ ?zhe); (case zhe => rfl))
      ((with_reducible refine' t_localM ?zhN ?zhv ?zhx ?zhk ?zhd ?_); (case zhx => kernel_rfl!); (case zhN => top_name); (case zhv => top_name); (case zhk => rfl); (case zhd => decide +kernel))
      with_reducible refine t_args0 ?_
      refine cp0 (callee_meth (Kn.fz' h1) (show (cx w mg mb O).K.lookup 648 = _ from rfl)) ?_
      refine t_callMeth (Kn.fz' h1) ?_
      refine sp_match (Kn.fz' h2) (Kn.fz' h3) (Kn.fz' h4) (Kn.fz' h5) (by (clear hi; clear hij; clear hsl4; clear hpos; clear hsl; clear hpos; clear hsl4; clear hn; clear hsvl; clear hsl; clear hsa0; omega)) (by (clear hi; clear hij; clear hsl4; clear hsl; clear hsl4; clear hn; clear hsvl; clear hsl; clear hsa0; omega)) (by k_caughtN0) _ (fun hm => ?_) (fun hm m dm tk => ?_)
      · ((with_reducible refine' t_storeM ?zu ?zhN ?zhl ?zhx ?zhk ?_); (case zhx => kernel_rfl!); (case zhN => top_name); (case zhl => k_caught0); (case zu => k_caught0); (case zhk => rfl))
        with_reducible refine sg_cons ?_
        with_reducible refine sg_If ?_
        ((with_reducible refine t_isVal ?_ ?zhe); (case zhe => rfl))
        ((with_reducible refine' t_localM ?zhN ?zhv ?zhx ?zhk ?zhd ?_); (case zhx => kernel_rfl!); (case zhN => top_name); (case zhv => top_name); (case zhk => rfl); (case zhd => decide +kernel))
        with_reducible refine tt_none ?_
        with_reducible refine if_f ?_
        with_reducible refine sg_nil ?_
        with_reducible refine sg_nil ?_
        refine sg_again rfl ?_
        refine sg_fix (by k_caught0) (by k_caught0) (by k_caught0) (IHf (vs.length - (i + 1)) (by (clear hm; clear hsl4; clear hpos; clear hsl; clear hpos; clear hsl4; clear hn; clear hsvl; clear hsl; clear hsa0; clear hz; omega)) _ ⟨i + 1, rfl, by (clear hm; clear hij; clear hsl4; clear hpos; clear hsl; clear hpos; clear hsl4; clear hn; clear hsvl; clear hsl; clear hsa0; clear hz; omega), ?_⟩)
        rw [List.take_add_one, hr]
        intro r' hr'
        rcases List.mem_append.mp hr' with h' | h'
        · exact hno r' h'
        · have e : r' = r := by simpa using h'
          rw [e]; exact hm
      · obtain ⟨dy, fy, hty1, hty2⟩ := hty
        ((with_reducible refine' t_storeM ?zu ?zhN ?zhl ?zhx ?zhk ?_); (case zhx => kernel_rfl!); (case zhN => top_name); (case zhl => k_caught0); (case zu => k_caught0); (case zhk => rfl))
        with_reducible refine sg_cons ?_
        with_reducible refine sg_If ?_
        ((with_reducible refine t_isVal ?_ ?zhe); (case zhe => rfl))
        ((with_reducible refine' t_localM ?zhN ?zhv ?zhx ?zhk ?zhd ?_); (case zhx => kernel_rfl!); (case zhN => top_name); (case zhv => top_name); (case zhk => rfl); (case zhd => decide +kernel))
        ((with_reducible refine' tt_inst ?zhx ?zhd ?zhb ?zhl ?_); (case zhx => top_raise); (case zhd => top_raise); (case zhb => top_reprB); (case zhl => top_reprB))
        with_reducible refine if_t ?_
        with_reducible refine sg_cons ?_
        with_reducible refine sg_If ?_
        ((with_reducible refine t_isCmp ?_ ?zhb); (case zhb => rfl))
        ((with_reducible refine' t_localM ?zhN ?zhv ?zhx ?zhk ?zhd ?_); (case zhx => kernel_rfl!); (case zhN => top_name); (case zhv => top_name); (case zhk => rfl); (case zhd => decide +kernel))
        with_reducible refine t_none ?_
        ((with_reducible refine tc_isNot ?zhp ?_); (case zhp => rfl))
        with_reducible refine tt_bool ?_
        ((with_reducible refine if_T ?ze ?_); (case ze => (first | rfl | decide)))
        with_reducible refine sg_cons ?_
        with_reducible refine sg_If ?_
        ((with_reducible refine t_isCmp ?_ ?zhb); (case zhb => rfl))
        ((with_reducible refine t_Call ?_ ?zhe); (case zhe => rfl))
        ((with_reducible refine' t_bltin ?ze ?zhv ?zhn ?zhg ?zhb ?zhk ?zhx ?zhd ?_); (case zhv => top_strB); (case ze => top_argsB); (case zhn => decide +kernel); (case zhg => rfl); (case zhb => rfl); (case zhk => rfl); (case zhx => kernel_rfl!); (case zhd => decide +kernel))
        with_reducible refine t_callWithP ?_
        ((with_reducible refine t_evalArgs ?_ ?zhe); (case zhe => rfl))
        ((with_reducible refine t_args ?_ ?zhe); (case zhe => rfl))
        ((with_reducible refine' t_localM ?zhN ?zhv ?zhx ?zhk ?zhd ?_); (case zhx => kernel_rfl!); (case zhN => top_name); (case zhv => top_name); (case zhk => rfl); (case zhd => decide +kernel))
        with_reducible refine t_args0 ?_
        ((with_reducible refine cp0 ?zhc ?_); (case zhc => k_caughtNB))
        ((with_reducible refine' ty_own ?zhx ?zhd ?_); (case zhx => top_raise); (case zhd => top_raise))
        ((with_reducible refine' t_glob ?ze ?zhg ?zhk ?zhx ?zhd ?_); (case ze => top_raise0); (case zhg => rfl); (case zhk => rfl); (case zhx => kernel_rfl!); (case zhd => decide +kernel))
        with_reducible refine tc_isRef ?_
        with_reducible refine tt_bool ?_
        with_reducible refine if_t ?_
        with_reducible refine sg_cons ?_
        refine sg_wk ?_
        refine sg_yield (fsOk_while hQ.ok).gen rfl (fsOk_while hQ.ok).grd rfl rfl ?_
        with_reducible refine t_Tuple ?_
        ((with_reducible refine t_args ?_ ?zhe); (case zhe => rfl))
        ((with_reducible refine' t_localM ?zhN ?zhv ?zhx ?zhk ?zhd ?_); (case zhx => kernel_rfl!); (case zhN => top_name); (case zhv => top_name); (case zhk => rfl); (case zhd => decide +kernel))
        ((with_reducible refine t_args ?_ ?zhe); (case zhe => rfl))
        ((with_reducible refine' t_localM ?zhN ?zhv ?zhx ?zhk ?zhd ?_); (case zhx => kernel_rfl!); (case zhN => top_name); (case zhv => top_name); (case zhk => rfl); (case zhd => decide +kernel))
        ((with_reducible refine t_args ?_ ?zhe); (case zhe => rfl))
        ((with_reducible refine' t_MCall ?_ ?zhe); (case zhe => rfl))
        ((with_reducible refine' t_localM ?zhN ?zhv ?zhx ?zhk ?zhd ?_); (case zhx => kernel_rfl!); (case zhN => top_name); (case zhv => top_name); (case zhk => rfl); (case zhd => decide +kernel))
        ((with_reducible refine' t_methodOf (f := 621) ?zhx ?zhd ?zhf ?zhg ?zhn ?_); (case zhx => top_raise); (case zhd => top_raise); (case zhf => top_reprB); (case zhg => top_reprB); (case zhn => kernel_rfl!))
        with_reducible refine mc ?_
        with_reducible refine t_callWithP ?_
        with_reducible refine t_evalArgs0 ?_
        ((with_reducible refine cp1 ?zhc ?_); (case zhc => k_caughtNB))
        ((with_reducible refine' tr_call (sp_PMgroup ?zhp ?zhd ?zhr ?zhA _ ?_)); (case zhp => top_raise); (case zhd => top_raise); (case zhr => top_raise); (case zhA => k_caughtN0); (intro _))
        with_reducible refine t_args0 ?_
        ((with_reducible refine t_newTuple ?zhz ?_); (case zhz => simp [sizeLine]))
        intro _
        intro _
        intro _
        intro _
        intro _
        rename_i a lw kk pp hk
        refine gpost_cons (gd := (fsOk_while hQ.ok).grd) (own' := [(L, .ns [("text", .str text tt), ("pos", .int (pos : Int) tp), ("tokendefs", .ref td), ("statestack", .ref ss), ("statetokens", .ref sl), ("rexmatch", .ref mo), ("action", .ref r.ty), ("new_state", av), ("m", .ref m)]), (ss, .lst svs), (it, itL sl (i + 1)), (m, .inst 624 dm), (dm, .fld [("place", .int (pos : Int) tk), ("pieces", .ref pr1)])]) (lex_hit hm hrs hno hr rfl) rfl (by show Pick _ (_ :: _ :: _ :: _ :: _ :: _ :: _); k_caught0) ?_
        intro F2 A2 N2 G2 hF2 hA2
        have h5 := h5.mono hF2
        have hact := hact.mono hF2
        show Sg _ _ _ (kk (.send .none)) _ ⟨F2, (L, _) :: (ss, _) :: (it, _) :: (m, _) :: (dm, _) :: N2, G2⟩ _
        refine hk _ _ _ ?_
        with_reducible refine sg_nil ?_
        with_reducible refine sg_nil ?_
        with_reducible refine sg_cons ?_
        with_reducible refine sg_stmt ?_
        ((with_reducible refine t_AssignName ?_ ?zhs); (case zhs => rfl))
        ((with_reducible refine' t_MCall ?_ ?zhe); (case zhe => rfl))
        ((with_reducible refine' t_localM ?zhN ?zhv ?zhx ?zhk ?zhd ?_); (case zhx => kernel_rfl!); (case zhN => top_name); (case zhv => top_name); (case zhk => rfl); (case zhd => decide +kernel))
        ((with_reducible refine' t_methodOf (f := 615) ?zhx ?zhd ?zhf ?zhg ?zhn ?_); (case zhx => top_raise); (case zhd => top_raise); (case zhf => top_reprB); (case zhg => top_reprB); (case zhn => kernel_rfl!))
        with_reducible refine mc ?_
        with_reducible refine t_callWithP ?_
        with_reducible refine t_evalArgs0 ?_
        ((with_reducible refine cp1 ?zhc ?_); (case zhc => k_caughtNB))
        ((with_reducible refine' tr_call (sp_PMend ?zhp ?zhd ?zhr ?zhA _ ?_)); (case zhp => top_raise); (case zhd => top_raise); (case zhr => top_raise); (case zhA => k_caughtN0); (intro _))
        ((with_reducible refine' t_storeM ?zu ?zhN ?zhl ?zhx ?zhk ?_); (case zhx => kernel_rfl!); (case zhN => top_name); (case zhl => k_caught0); (case zu => k_caught0); (case zhk => rfl))
        with_reducible refine sg_cons ?_
        with_reducible refine sg_If ?_
        ((with_reducible refine t_isCmp ?_ ?zhb); (case zhb => rfl))
        ((with_reducible refine' t_localM ?zhN ?zhv ?zhx ?zhk ?zhd ?_); (case zhx => kernel_rfl!); (case zhN => top_name); (case zhv => top_name); (case zhk => rfl); (case zhd => decide +kernel))
        with_reducible refine t_none ?_
        have hlt : pos < text.length := by
          obtain ⟨hlt, _⟩ := Array.getElem?_eq_some_iff.mp hm
          exact hlt
        have hact' := hact
        cases hra : r.act with
        | stay =>
          rw [hra] at hact'
          obtain rfl := hact'
          ((with_reducible refine tc_isNot ?zhp ?_); (case zhp => rfl))
          with_reducible refine tt_bool ?_
          ((with_reducible refine if_F ?ze ?_); (case ze => (first | rfl | decide)))
          with_reducible refine sg_nil ?_
          with_reducible refine sg_cons ?_
          with_reducible refine sg_stmt ?_
          ((with_reducible refine t_Break ?_ ?zhs); (case zhs => rfl))
          refine sg_pop (r := .ok .next) rfl ?_
          show Sg _ _ _ (whileK _ _ _ _ .next) _ _ _
          refine sg_again rfl ?_
          exact sg_fix (by k_caught0) (by k_caught0) (by k_caught0) (IH (k - 1) (by (clear hi; clear hij; clear hsl4; clear hsl; clear hsl4; clear hn; clear hsvl; clear hsl; clear hsa0; clear hz; omega)) A2 fs _ _ ⟨F2, N2, G2, pos + 1, (pos : Int) + 1, st, svs, sl, ss, _, vs, rs, hA2, hQ, rfl, rfl, hst, hso, by (clear hlt; clear hi; clear hij; clear hsl4; clear hpos; clear hpos; clear hsl4; clear hn; clear hsvl; clear hsa0; clear hz; omega), by (clear hi; clear hij; clear hsl4; clear hsl; clear hsl4; clear hn; clear hsvl; clear hsl; clear hsa0; clear hz; omega), hT.mono hF2, hrs, hsl2.mono hF2, hsl3.mono hF2, hsl4, rfl⟩)
        | pop =>
          rw [hra] at hact'
          obtain ⟨tv, rfl⟩ := hact'
          have hlen := hst.len
          have hpos1 : st.length ≠ 0 := fun e => hso.1 (List.length_eq_zero_iff.mp e)
          ((with_reducible refine tc_isNot ?zhp ?_); (case zhp => rfl))
          with_reducible refine tt_bool ?_
          ((with_reducible refine if_T ?ze ?_); (case ze => (first | rfl | decide)))
          with_reducible refine sg_cons ?_
          with_reducible refine sg_If ?_
          ((with_reducible refine t_isVal ?_ ?zhe); (case zhe => rfl))
          ((with_reducible refine t_Call ?_ ?zhe); (case zhe => rfl))
          ((with_reducible refine' t_bltin ?ze ?zhv ?zhn ?zhg ?zhb ?zhk ?zhx ?zhd ?_); (case zhv => top_strB); (case ze => top_argsB); (case zhn => decide +kernel); (case zhg => rfl); (case zhb => rfl); (case zhk => rfl); (case zhx => kernel_rfl!); (case zhd => decide +kernel))
          with_reducible refine t_callWithP ?_
          ((with_reducible refine t_evalArgs ?_ ?zhe); (case zhe => rfl))
          ((with_reducible refine t_args ?_ ?zhe); (case zhe => rfl))
          ((with_reducible refine' t_localM ?zhN ?zhv ?zhx ?zhk ?zhd ?_); (case zhx => kernel_rfl!); (case zhN => top_name); (case zhv => top_name); (case zhk => rfl); (case zhd => decide +kernel))
          ((with_reducible refine t_args ?_ ?zhe); (case zhe => rfl))
          ((with_reducible refine' t_bltin ?ze ?zhv ?zhn ?zhg ?zhb ?zhk ?zhx ?zhd ?_); (case zhv => top_strB); (case ze => top_argsB); (case zhn => decide +kernel); (case zhg => rfl); (case zhb => rfl); (case zhk => rfl); (case zhx => kernel_rfl!); (case zhd => decide +kernel))
          with_reducible refine t_args0 ?_
          ((with_reducible refine cp0 ?zhc ?_); (case zhc => k_caughtNB))
          with_reducible refine tin_inttup ?_
          with_reducible refine tt_bool ?_
          with_reducible refine if_f ?_
          with_reducible refine sg_cons ?_
          with_reducible refine sg_If ?_
          ((with_reducible refine t_isVal ?_ ?zhe); (case zhe => rfl))
          ((with_reducible refine t_Call ?_ ?zhe); (case zhe => rfl))
          ((with_reducible refine' t_bltin ?ze ?zhv ?zhn ?zhg ?zhb ?zhk ?zhx ?zhd ?_); (case zhv => top_strB); (case ze => top_argsB); (case zhn => decide +kernel); (case zhg => rfl); (case zhb => rfl); (case zhk => rfl); (case zhx => kernel_rfl!); (case zhd => decide +kernel))
          with_reducible refine t_callWithP ?_
          ((with_reducible refine t_evalArgs ?_ ?zhe); (case zhe => rfl))
          ((with_reducible refine t_args ?_ ?zhe); (case zhe => rfl))
          ((with_reducible refine' t_localM ?zhN ?zhv ?zhx ?zhk ?zhd ?_); (case zhx => kernel_rfl!); (case zhN => top_name); (case zhv => top_name); (case zhk => rfl); (case zhd => decide +kernel))
          ((with_reducible refine t_args ?_ ?zhe); (case zhe => rfl))
          ((with_reducible refine' t_bltin ?ze ?zhv ?zhn ?zhg ?zhb ?zhk ?zhx ?zhd ?_); (case zhv => top_strB); (case ze => top_argsB); (case zhn => decide +kernel); (case zhg => rfl); (case zhb => rfl); (case zhk => rfl); (case zhx => kernel_rfl!); (case zhd => decide +kernel))
          with_reducible refine t_args0 ?_
          ((with_reducible refine cp0 ?zhc ?_); (case zhc => k_caughtNB))
          with_reducible refine tin_intint ?_
          with_reducible refine tt_bool ?_
          with_reducible refine if_t ?_
          with_reducible refine sg_cons ?_
          with_reducible refine sg_If ?_
          ((with_reducible refine t_isCmp ?_ ?zhb); (case zhb => rfl))
          ((with_reducible refine t_Call ?_ ?zhe); (case zhe => rfl))
          ((with_reducible refine' t_bltin ?ze ?zhv ?zhn ?zhg ?zhb ?zhk ?zhx ?zhd ?_); (case zhv => top_strB); (case ze => top_argsB); (case zhn => decide +kernel); (case zhg => rfl); (case zhb => rfl); (case zhk => rfl); (case zhx => kernel_rfl!); (case zhd => decide +kernel))
          with_reducible refine t_callWithP ?_
          ((with_reducible refine t_evalArgs ?_ ?zhe); (case zhe => rfl))
          ((with_reducible refine t_args ?_ ?zhe); (case zhe => rfl))
          ((with_reducible refine' t_localM ?zhN ?zhv ?zhx ?zhk ?zhd ?_); (case zhx => kernel_rfl!); (case zhN => top_name); (case zhv => top_name); (case zhk => rfl); (case zhd => decide +kernel))
          with_reducible refine t_args0 ?_
          ((with_reducible refine cp0 ?zhc ?_); (case zhc => k_caughtNB))
          ((with_reducible refine t_abs ?_); (intro _))
          ((with_reducible refine t_Call ?_ ?zhe); (case zhe => rfl))
          ((with_reducible refine' t_bltin ?ze ?zhv ?zhn ?zhg ?zhb ?zhk ?zhx ?zhd ?_); (case zhv => top_strB); (case ze => top_argsB); (case zhn => decide +kernel); (case zhg => rfl); (case zhb => rfl); (case zhk => rfl); (case zhx => kernel_rfl!); (case zhd => decide +kernel))
          with_reducible refine t_callWithP ?_
          ((with_reducible refine t_evalArgs ?_ ?zhe); (case zhe => rfl))
          ((with_reducible refine t_args ?_ ?zhe); (case zhe => rfl))
          ((with_reducible refine' t_localM ?zhN ?zhv ?zhx ?zhk ?zhd ?_); (case zhx => kernel_rfl!); (case zhN => top_name); (case zhv => top_name); (case zhk => rfl); (case zhd => decide +kernel))
          with_reducible refine t_args0 ?_
          ((with_reducible refine cp0 ?zhc ?_); (case zhc => k_caughtNB))
          ((with_reducible refine' t_lenL ?zha ?zhz ?_); (case zha => top_raise); (case zhz => (clear hpos1; clear hlt; clear hi; clear hij; clear hsl4; clear hsl4; clear hn; clear hsvl; clear hsa0; omega)); (intro _))
          with_reducible refine tc_geI ?_
          with_reducible refine tt_bool ?_
          refine if_b (fun hb => ?_) (fun hb => ?_)
          · have h1 : st.length = 1 := by
              have := of_decide_eq_true hb
              have e : (if (-1 : Int) < 0 then -(-1 : Int) else -1) = 1 := rfl
              (clear e; clear hlt; clear hi; clear hij; clear hsl4; clear hpos; clear hsl; clear hpos; clear hsl4; clear hn; clear hsvl; clear hsl; clear hsa0; clear hz; omega)
            have hfin : actOn .pop st = st := by show (if 1 < st.length then st.dropLast else st) = st; rw [if_neg (by (clear hpos1; clear hlen; clear hlt; clear hi; clear hij; clear hsl4; clear hpos; clear hsl; clear hpos; clear hsl4; clear hn; clear hsvl; clear hsl; clear hsa0; clear hz; omega))]
            obtain ⟨v1, rfl⟩ : ∃ v1, svs = [v1] := List.length_eq_one_iff.mp (by (clear hpos1; clear hlt; clear hi; clear hij; clear hsl4; clear hpos; clear hsl; clear hpos; clear hsl4; clear hn; clear hsvl; clear hsl; clear hsa0; clear hz; omega))
            have hst2 := hst
            have hso2 := hso
            with_reducible refine sg_cons ?_
            with_reducible refine sg_stmt ?_
            with_reducible refine t_Delete1 ?_
            with_reducible refine t_delSub ?_
            ((with_reducible refine' t_localM ?zhN ?zhv ?zhx ?zhk ?zhd ?_); (case zhx => kernel_rfl!); (case zhN => top_name); (case zhv => top_name); (case zhk => rfl); (case zhd => decide +kernel))
            with_reducible refine t_Slice ?_
            with_reducible refine t_part ?_
            ((with_reducible refine t_int ?_); (intro _))
            with_reducible refine t_part0 ?_
            with_reducible refine opnS ?_
            intro _
            refine t_delSliceL (by top_name) (by top_raise) (.int 1 _) .none (by simp) (del_one v1) (Nat.le_refl _) (by k_caught0) ?_
            obtain ⟨kvs2, hkv2, hst'2⟩ := hT.mono hF2
            obtain ⟨rs2, hrs2⟩ := hso2.top
            obtain ⟨sl2, vs2, hs1, hs2, hs3, hs4⟩ := hst'2 _ _ hrs2
            obtain ⟨tl2, hlast2⟩ := hst2.last hso2.1
            have hlen2 := hst2.len
            have hpos2 : (st).length ≠ 0 := fun e => hso2.1 (List.length_eq_zero_iff.mp e)
            with_reducible refine sg_nil ?_
            with_reducible refine sg_nil ?_
            with_reducible refine sg_nil ?_
            with_reducible refine sg_cons ?_
            with_reducible refine sg_stmt ?_
            ((with_reducible refine t_AssignName ?_ ?zhs); (case zhs => rfl))
            with_reducible refine t_Sub ?_
            ((with_reducible refine' t_localM ?zhN ?zhv ?zhx ?zhk ?zhd ?_); (case zhx => kernel_rfl!); (case zhN => top_name); (case zhv => top_name); (case zhk => rfl); (case zhd => decide +kernel))
            with_reducible refine t_Sub ?_
            ((with_reducible refine' t_localM ?zhN ?zhv ?zhx ?zhk ?zhd ?_); (case zhx => kernel_rfl!); (case zhN => top_name); (case zhv => top_name); (case zhk => rfl); (case zhd => decide +kernel))
            with_reducible refine t_Neg ?_
            ((with_reducible refine t_int ?_); (intro _))
            ((with_reducible refine ti_neg ?_); (intro _))
            ((with_reducible refine' t_subList ?zha ?zhs ?_); (case zha => top_raise); (case zhs => rfl))
            ((with_reducible refine' t_itemListNeg ?zha ?zh0 ?zhz ?zh2 ?zhv ?_); (case zha => top_raise); (case zh0 => decide); (case zhz => (clear hpos2; clear hlen2; clear hs4; clear h1; clear hlt; clear hi; clear hij; clear hsl4; clear hpos; clear hsl; clear hpos; clear hsl4; clear hn; clear hsvl; clear hsl; clear hsa0; clear hz; omega)); (case zh2 => decide); (case zhv => exact hlast2))
            ((with_reducible refine' t_subDict ?zha ?zhs ?_); (case zha => top_raise); (case zhs => rfl))
            refine t_dictGetItem (Kn.fz' hkv2) hs1 ?_
            ((with_reducible refine' t_storeM ?zu ?zhN ?zhl ?zhx ?zhk ?_); (case zhx => kernel_rfl!); (case zhN => top_name); (case zhl => k_caught0); (case zu => k_caught0); (case zhk => rfl))
            with_reducible refine sg_nil ?_
            with_reducible refine sg_cons ?_
            with_reducible refine sg_stmt ?_
            ((with_reducible refine t_Break ?_ ?zhs); (case zhs => rfl))
            refine sg_pop (r := .ok .next) rfl ?_
            show Sg _ _ _ (whileK _ _ _ _ .next) _ _ _
            refine sg_again rfl ?_
            rw [hfin]
            exact sg_fix (by k_caught0) (by k_caught0) (by k_caught0) (IH (k - 1) (by (clear hpos2; clear hlen2; clear hs4; clear hlen; clear h1; clear hpos1; clear hi; clear hij; clear hsl4; clear hsl; clear hsl4; clear hn; clear hsvl; clear hsl; clear hsa0; clear hz; omega)) A2 fs _ _ ⟨F2, N2, G2, pos + 1, (pos : Int) + 1, st, _, sl2, ss, _, vs2, rs2, hA2, hQ, rfl, rfl, hst2, hso2, by (clear hpos2; clear hlen2; clear hs4; clear hlen; clear h1; clear hpos1; clear hlt; clear hi; clear hij; clear hsl4; clear hpos; clear hpos; clear hsl4; clear hn; clear hsvl; clear hsa0; clear hz; omega), by (clear hpos2; clear hlen2; clear hs4; clear hlen; clear h1; clear hpos1; clear hi; clear hij; clear hsl4; clear hsl; clear hsl4; clear hn; clear hsvl; clear hsl; clear hsa0; clear hz; omega), hT.mono hF2, hrs2, hs2, hs3, hs4, rfl⟩)
          · have h1 : 1 < st.length := by
              have := of_decide_eq_false hb
              have e : (if (-1 : Int) < 0 then -(-1 : Int) else -1) = 1 := rfl
              (clear e; clear hpos1; clear hlt; clear hi; clear hij; clear hsl4; clear hpos; clear hsl; clear hpos; clear hsl4; clear hn; clear hsvl; clear hsl; clear hsa0; clear hz; omega)
            have hfin : actOn .pop st = st.dropLast := by show (if 1 < st.length then st.dropLast else st) = _; rw [if_pos h1]
            have hso2 : StOk tb st.dropLast := hfin ▸ hso.act .pop (fun l hl => nomatch hl)
            obtain ⟨ws, v1, rfl, hst2⟩ := hst.split hso.1
            have hdl : st.dropLast.length ≤ st.length := by simp
            with_reducible refine sg_cons ?_
            with_reducible refine sg_stmt ?_
            with_reducible refine t_Delete1 ?_
            with_reducible refine t_delSub ?_
            ((with_reducible refine' t_localM ?zhN ?zhv ?zhx ?zhk ?zhd ?_); (case zhx => kernel_rfl!); (case zhN => top_name); (case zhv => top_name); (case zhk => rfl); (case zhd => decide +kernel))
            with_reducible refine t_Slice ?_
            with_reducible refine t_part ?_
            ((with_reducible refine' t_localM ?zhN ?zhv ?zhx ?zhk ?zhd ?_); (case zhx => kernel_rfl!); (case zhN => top_name); (case zhv => top_name); (case zhk => rfl); (case zhd => decide +kernel))
            with_reducible refine t_part0 ?_
            with_reducible refine opnS ?_
            intro _
            refine t_delSliceL (by top_name) (by top_raise) (.int (-1) _) .none (by rw [hlen]; (clear hdl; clear hlen; clear h1; clear hpos1; clear hlt; clear hi; clear hij; clear hsl4; clear hsl4; clear hn; clear hsvl; clear hsa0; omega)) (del_last ws v1) (by simp) (by k_caught0) ?_
            obtain ⟨kvs2, hkv2, hst'2⟩ := hT.mono hF2
            obtain ⟨rs2, hrs2⟩ := hso2.top
            obtain ⟨sl2, vs2, hs1, hs2, hs3, hs4⟩ := hst'2 _ _ hrs2
            obtain ⟨tl2, hlast2⟩ := hst2.last hso2.1
            have hlen2 := hst2.len
            have hpos2 : (st.dropLast).length ≠ 0 := fun e => hso2.1 (List.length_eq_zero_iff.mp e)
            with_reducible refine sg_nil ?_
            with_reducible refine sg_nil ?_
            with_reducible refine sg_nil ?_
            with_reducible refine sg_cons ?_
            with_reducible refine sg_stmt ?_
            ((with_reducible refine t_AssignName ?_ ?zhs); (case zhs => rfl))
            with_reducible refine t_Sub ?_
            ((with_reducible refine' t_localM ?zhN ?zhv ?zhx ?zhk ?zhd ?_); (case zhx => kernel_rfl!); (case zhN => top_name); (case zhv => top_name); (case zhk => rfl); (case zhd => decide +kernel))
            with_reducible refine t_Sub ?_
            ((with_reducible refine' t_localM ?zhN ?zhv ?zhx ?zhk ?zhd ?_); (case zhx => kernel_rfl!); (case zhN => top_name); (case zhv => top_name); (case zhk => rfl); (case zhd => decide +kernel))
            with_reducible refine t_Neg ?_
            ((with_reducible refine t_int ?_); (intro _))
            ((with_reducible refine ti_neg ?_); (intro _))
            ((with_reducible refine' t_subList ?zha ?zhs ?_); (case zha => top_raise); (case zhs => rfl))
            ((with_reducible refine' t_itemListNeg ?zha ?zh0 ?zhz ?zh2 ?zhv ?_); (case zha => top_raise); (case zh0 => decide); (case zhz => (clear hs4; clear hdl; clear hlen; clear h1; clear hpos1; clear hlt; clear hi; clear hij; clear hsl4; clear hpos; clear hsl; clear hpos; clear hsl4; clear hn; clear hsvl; clear hsl; clear hsa0; clear hz; omega)); (case zh2 => decide); (case zhv => exact hlast2))
            ((with_reducible refine' t_subDict ?zha ?zhs ?_); (case zha => top_raise); (case zhs => rfl))
            refine t_dictGetItem (Kn.fz' hkv2) hs1 ?_
            ((with_reducible refine' t_storeM ?zu ?zhN ?zhl ?zhx ?zhk ?_); (case zhx => kernel_rfl!); (case zhN => top_name); (case zhl => k_caught0); (case zu => k_caught0); (case zhk => rfl))
            with_reducible refine sg_nil ?_
            with_reducible refine sg_cons ?_
            with_reducible refine sg_stmt ?_
            ((with_reducible refine t_Break ?_ ?zhs); (case zhs => rfl))
            refine sg_pop (r := .ok .next) rfl ?_
            show Sg _ _ _ (whileK _ _ _ _ .next) _ _ _
            refine sg_again rfl ?_
            rw [hfin]
            exact sg_fix (by k_caught0) (by k_caught0) (by k_caught0) (IH (k - 1) (by (clear hpos2; clear hlen2; clear hs4; clear hdl; clear hlen; clear h1; clear hpos1; clear hi; clear hij; clear hsl4; clear hsl; clear hsl4; clear hn; clear hsvl; clear hsl; clear hsa0; clear hz; omega)) A2 fs _ _ ⟨F2, N2, G2, pos + 1, (pos : Int) + 1, st.dropLast, _, sl2, ss, _, vs2, rs2, hA2, hQ, rfl, rfl, hst2, hso2, by (clear hpos2; clear hlen2; clear hs4; clear hlen; clear h1; clear hpos1; clear hlt; clear hi; clear hij; clear hsl4; clear hpos; clear hpos; clear hsl4; clear hn; clear hsvl; clear hsa0; clear hz; omega), by (clear hpos2; clear hlen2; clear hs4; clear hdl; clear hlen; clear h1; clear hpos1; clear hi; clear hij; clear hsl4; clear hsl; clear hsl4; clear hn; clear hsvl; clear hsl; clear hsa0; clear hz; omega), hT.mono hF2, hrs2, hs2, hs3, hs4, rfl⟩)
        | go ls =>
          rw [hra] at hact'
          obtain ⟨ta, tvs, rfl, hta, htv⟩ := hact'
          ((with_reducible refine tc_isNot ?zhp ?_); (case zhp => rfl))
          with_reducible refine tt_bool ?_
          ((with_reducible refine if_T ?ze ?_); (case ze => (first | rfl | decide)))
          with_reducible refine sg_cons ?_
          with_reducible refine sg_If ?_
          ((with_reducible refine t_isVal ?_ ?zhe); (case zhe => rfl))
          ((with_reducible refine t_Call ?_ ?zhe); (case zhe => rfl))
          ((with_reducible refine' t_bltin ?ze ?zhv ?zhn ?zhg ?zhb ?zhk ?zhx ?zhd ?_); (case zhv => top_strB); (case ze => top_argsB); (case zhn => decide +kernel); (case zhg => rfl); (case zhb => rfl); (case zhk => rfl); (case zhx => kernel_rfl!); (case zhd => decide +kernel))
          with_reducible refine t_callWithP ?_
          ((with_reducible refine t_evalArgs ?_ ?zhe); (case zhe => rfl))
          ((with_reducible refine t_args ?_ ?zhe); (case zhe => rfl))
          ((with_reducible refine' t_localM ?zhN ?zhv ?zhx ?zhk ?zhd ?_); (case zhx => kernel_rfl!); (case zhN => top_name); (case zhv => top_name); (case zhk => rfl); (case zhd => decide +kernel))
          ((with_reducible refine t_args ?_ ?zhe); (case zhe => rfl))
          ((with_reducible refine' t_bltin ?ze ?zhv ?zhn ?zhg ?zhb ?zhk ?zhx ?zhd ?_); (case zhv => top_strB); (case ze => top_argsB); (case zhn => decide +kernel); (case zhg => rfl); (case zhb => rfl); (case zhk => rfl); (case zhx => kernel_rfl!); (case zhd => decide +kernel))
          with_reducible refine t_args0 ?_
          ((with_reducible refine cp0 ?zhc ?_); (case zhc => k_caughtNB))
          ((with_reducible refine' tin_tuptup ?zha ?_); (case zha => top_raise))
          with_reducible refine tt_bool ?_
          with_reducible refine if_t ?_
          with_reducible refine sg_cons ?_
          refine sg_stmt ?_
          ((with_reducible refine t_For ?_ ?zhs); (case zhs => exact fun _ => rfl))
          ((with_reducible refine' t_localM ?zhN ?zhv ?zhx ?zhk ?zhd ?_); (case zhx => kernel_rfl!); (case zhN => top_name); (case zhv => top_name); (case zhk => rfl); (case zhd => decide +kernel))
          ((with_reducible refine' t_iterTup ?zha ?_); (case zha => top_raise); (intro _))
          rename_i tp2 hact0 itn
          refine cl_fix (N2 := (itn, itT ta 0) :: (L, .ns [("text", .str text tt), ("pos", .int ((pos : Int) + 1) tp2), ("tokendefs", .ref td), ("statestack", .ref ss), ("statetokens", .ref sl), ("new_state", .ref ta)]) :: (ss, .lst svs) :: N2) (by k_caught0) (by k_caught0) (by k_caught0) ?_
          refine cl_ind (Inv := fun j l => ∃ (n : Nat) (st' : List Str) (svs' : List Value), l = ⟨F2, (itn, itT ta n) :: (L, .ns [("text", .str text tt), ("pos", .int ((pos : Int) + 1) tp2), ("tokendefs", .ref td), ("statestack", .ref ss), ("statetokens", .ref sl), ("new_state", .ref ta)]) :: (ss, .lst svs') :: N2, G2⟩ ∧ n + j = ls.length ∧ Strs st' svs' ∧ StOk tb st' ∧ st'.length ≤ st.length + n ∧ (ls.drop n).foldl step1 st' = ls.foldl step1 st) ?_ ls.length _ ⟨0, st, svs, rfl, by (clear hlt; clear hi; clear hij; clear hsl4; clear hpos; clear hsl; clear hpos; clear hsl4; clear hn; clear hsvl; clear hsl; clear hsa0; clear hz; omega), hst, hso, by (clear hlt; clear hi; clear hij; clear hsl4; clear hpos; clear hsl; clear hpos; clear hsl4; clear hn; clear hsvl; clear hsl; clear hsa0; clear hz; omega), rfl⟩
          rintro j l IHl ⟨n, st', svs', rfl, hnj, hst2, hso2, hsl', hfold⟩
          have hls := (hok.2 _ _ hrs r (List.mem_of_getElem? hr)) ls hra
          rcases Nat.lt_or_ge n ls.length with hn1 | hn1
          · have hxn := hls.2 ls[n] (List.getElem_mem hn1)
            obtain ⟨tx, htx⟩ := htv.get (List.getElem?_eq_getElem hn1)
            have hdr : (ls.drop (n + 1)).foldl step1 (step1 st' ls[n]) = ls.foldl step1 st := by rw [← hfold, List.drop_eq_getElem_cons hn1]; rfl
            have hlen := hst2.len
            refine cl_for1 ?_
            ((with_reducible refine' t_nextTup ?zhi ?zha ?zhv ?zu ?_); (case zhi => top_name); (case zha => exact Kn.fz' hta); (case zhv => exact htx); (case zu => k_caught0))
            with_reducible refine t_goName ?_
            with_reducible refine t_assignName ?_
            ((with_reducible refine' t_storeM ?zu ?zhN ?zhl ?zhx ?zhk ?_); (case zhx => kernel_rfl!); (case zhN => top_name); (case zhl => k_caught0); (case zu => k_caught0); (case zhk => rfl))
            with_reducible refine t_cons ?_
            with_reducible refine t_If ?_
            ((with_reducible refine t_isCmp ?_ ?zhb); (case zhb => rfl))
            ((with_reducible refine' t_localM ?zhN ?zhv ?zhx ?zhk ?zhd ?_); (case zhx => kernel_rfl!); (case zhN => top_name); (case zhv => top_name); (case zhk => rfl); (case zhd => decide +kernel))
            ((with_reducible refine t_str ?_); (intro _))
            with_reducible refine tc_eqS ?_
            with_reducible refine tt_bool ?_
            refine if_b (fun hb => ?_) (fun hb => ?_)
            · have hp : ls[n] = "#pop" := by simpa using hb
              with_reducible refine t_cons ?_
              with_reducible refine t_If ?_
              ((with_reducible refine t_isCmp ?_ ?zhb); (case zhb => rfl))
              ((with_reducible refine t_Call ?_ ?zhe); (case zhe => rfl))
              ((with_reducible refine' t_bltin ?ze ?zhv ?zhn ?zhg ?zhb ?zhk ?zhx ?zhd ?_); (case zhv => top_strB); (case ze => top_argsB); (case zhn => decide +kernel); (case zhg => rfl); (case zhb => rfl); (case zhk => rfl); (case zhx => kernel_rfl!); (case zhd => decide +kernel))
              with_reducible refine t_callWithP ?_
              ((with_reducible refine t_evalArgs ?_ ?zhe); (case zhe => rfl))
              ((with_reducible refine t_args ?_ ?zhe); (case zhe => rfl))
              ((with_reducible refine' t_localM ?zhN ?zhv ?zhx ?zhk ?zhd ?_); (case zhx => kernel_rfl!); (case zhN => top_name); (case zhv => top_name); (case zhk => rfl); (case zhd => decide +kernel))
              with_reducible refine t_args0 ?_
              ((with_reducible refine cp0 ?zhc ?_); (case zhc => k_caughtNB))
              ((with_reducible refine' t_lenL ?zha ?zhz ?_); (case zha => top_raise); (case zhz => (clear hxn; clear hnj; clear hlt; clear hi; clear hij; clear hsl4; clear hsl4; clear hn; clear hsvl; clear hsa0; omega)); (intro _))
              ((with_reducible refine t_int ?_); (intro _))
              with_reducible refine tc_gtI ?_
              with_reducible refine tt_bool ?_
              refine if_b (fun hb => ?_) (fun hb => ?_)
              · obtain ⟨ws, v, rfl, hws⟩ := hst2.split hso2.1
                have hwl : ws.length ≤ 1000000 := by simp at hlen; (clear hxn; clear hnj; clear hlt; clear hi; clear hij; clear hsl4; clear hsl4; clear hn; clear hsvl; clear hsa0; omega)
                have hgt : 1 < st'.length := by have := of_decide_eq_true hb; (clear hwl; clear hxn; clear hls; clear hsl'; clear hnj; clear hlt; clear hi; clear hij; clear hsl4; clear hpos; clear hsl; clear hpos; clear hsl4; clear hn; clear hsvl; clear hsl; clear hsa0; clear hz; omega)
                have he : step1 st' ls[n] = st'.dropLast := by unfold step1; rw [if_pos hp, if_pos hgt]
                with_reducible refine t_cons ?_
                ((with_reducible refine t_ExprSt ?_ ?zhi ?zhs); (case zhi => rfl); (case zhs => rfl))
                ((with_reducible refine' t_MCall ?_ ?zhe); (case zhe => rfl))
                ((with_reducible refine' t_localM ?zhN ?zhv ?zhx ?zhk ?zhd ?_); (case zhx => kernel_rfl!); (case zhN => top_name); (case zhv => top_name); (case zhk => rfl); (case zhd => decide +kernel))
                ((with_reducible refine' ml_pop ?zha ?_); (case zha => top_raise))
                with_reducible refine mc ?_
                ((with_reducible refine' t_pop ?zha ?zu ?zhz ?_); (case zha => top_name); (case zu => k_caught0); (case zhz => with_reducible assumption))
                with_reducible refine fl_next ?_
                with_reducible refine t_nil ?_
                with_reducible refine fl_next ?_
                with_reducible refine t_nil ?_
                with_reducible refine fl_next ?_
                with_reducible refine t_nil ?_
                with_reducible refine tu_next ?_
                exact cl_fix (by k_caught0) (by k_caught0) (by k_caught0) (IHl (ls.length - (n + 1)) (by (clear hgt; clear hwl; clear hlen; clear hxn; clear hls; clear hsl'; clear hlt; clear hi; clear hij; clear hsl4; clear hpos; clear hsl; clear hpos; clear hsl4; clear hn; clear hsvl; clear hsl; clear hsa0; clear hz; omega)) _ ⟨n + 1, step1 st' ls[n], ws, rfl, by (clear hgt; clear hwl; clear hlen; clear hxn; clear hls; clear hsl'; clear hnj; clear hlt; clear hi; clear hij; clear hsl4; clear hpos; clear hsl; clear hpos; clear hsl4; clear hn; clear hsvl; clear hsl; clear hsa0; clear hz; omega), he ▸ hws, hso2.step hxn, by have := step1_len st' ls[n]; (clear hgt; clear hwl; clear hlen; clear hxn; clear hls; clear hnj; clear hlt; clear hi; clear hij; clear hsl4; clear hpos; clear hsl; clear hpos; clear hsl4; clear hn; clear hsvl; clear hsl; clear hsa0; clear hz; omega), hdr⟩)
              · have hgt : ¬ 1 < st'.length := by have := of_decide_eq_false hb; (clear hxn; clear hls; clear hsl'; clear hnj; clear hlt; clear hi; clear hij; clear hsl4; clear hpos; clear hsl; clear hpos; clear hsl4; clear hn; clear hsvl; clear hsl; clear hsa0; clear hz; omega)
                have he : step1 st' ls[n] = st' := by unfold step1; rw [if_pos hp, if_neg hgt]
                with_reducible refine t_nil ?_
                with_reducible refine fl_next ?_
                with_reducible refine t_nil ?_
                with_reducible refine fl_next ?_
                with_reducible refine t_nil ?_
                with_reducible refine tu_next ?_
                exact cl_fix (by k_caught0) (by k_caught0) (by k_caught0) (IHl (ls.length - (n + 1)) (by (clear hgt; clear hlen; clear hxn; clear hls; clear hsl'; clear hlt; clear hi; clear hij; clear hsl4; clear hpos; clear hsl; clear hpos; clear hsl4; clear hn; clear hsvl; clear hsl; clear hsa0; clear hz; omega)) _ ⟨n + 1, step1 st' ls[n], svs', rfl, by (clear hgt; clear hlen; clear hxn; clear hls; clear hsl'; clear hnj; clear hlt; clear hi; clear hij; clear hsl4; clear hpos; clear hsl; clear hpos; clear hsl4; clear hn; clear hsvl; clear hsl; clear hsa0; clear hz; omega), he.symm ▸ hst2, hso2.step hxn, by have := step1_len st' ls[n]; (clear hgt; clear hlen; clear hxn; clear hls; clear hnj; clear hlt; clear hi; clear hij; clear hsl4; clear hpos; clear hsl; clear hpos; clear hsl4; clear hn; clear hsvl; clear hsl; clear hsa0; clear hz; omega), hdr⟩)
            · have hp : ls[n] ≠ "#pop" := by simpa using hb
              have hq : (ls[n] == ("#push" : Str)) = false := by simpa using (hxn.resolve_left hp).1
              have he : step1 st' ls[n] = st' ++ [ls[n]] := by unfold step1; rw [if_neg hp]
              with_reducible refine t_cons ?_
              with_reducible refine t_If ?_
              ((with_reducible refine t_isCmp ?_ ?zhb); (case zhb => rfl))
              ((with_reducible refine' t_localM ?zhN ?zhv ?zhx ?zhk ?zhd ?_); (case zhx => kernel_rfl!); (case zhN => top_name); (case zhv => top_name); (case zhk => rfl); (case zhd => decide +kernel))
              ((with_reducible refine t_str ?_); (intro _))
              with_reducible refine tc_eqS ?_
              with_reducible refine tt_bool ?_
              refine if_F hq ?_
              with_reducible refine t_cons ?_
              ((with_reducible refine t_ExprSt ?_ ?zhi ?zhs); (case zhi => rfl); (case zhs => rfl))
              ((with_reducible refine' t_MCall ?_ ?zhe); (case zhe => rfl))
              ((with_reducible refine' t_localM ?zhN ?zhv ?zhx ?zhk ?zhd ?_); (case zhx => kernel_rfl!); (case zhN => top_name); (case zhv => top_name); (case zhk => rfl); (case zhd => decide +kernel))
              ((with_reducible refine' ml_append ?zha ?_); (case zha => top_raise))
              with_reducible refine mc ?_
              with_reducible refine t_callWithP ?_
              ((with_reducible refine t_evalArgs ?_ ?zhe); (case zhe => rfl))
              ((with_reducible refine t_args ?_ ?zhe); (case zhe => rfl))
              ((with_reducible refine' t_localM ?zhN ?zhv ?zhx ?zhk ?zhd ?_); (case zhx => kernel_rfl!); (case zhN => top_name); (case zhv => top_name); (case zhk => rfl); (case zhd => decide +kernel))
              with_reducible refine t_args0 ?_
              ((with_reducible refine cp1 ?zhc ?_); (case zhc => k_caughtNB))
              ((with_reducible refine' t_append ?zha ?zu ?zhz ?_); (case zha => top_name); (case zu => k_caught0); (case zhz => (unfold sizeLine; (clear hp; clear hxn; clear hnj; clear hlt; clear hi; clear hij; clear hsl4; clear hsl4; clear hn; clear hsvl; clear hsa0; omega))))
              with_reducible refine fl_next ?_
              with_reducible refine t_nil ?_
              with_reducible refine fl_next ?_
              with_reducible refine t_nil ?_
              with_reducible refine fl_next ?_
              with_reducible refine t_nil ?_
              with_reducible refine tu_next ?_
              exact cl_fix (by k_caught0) (by k_caught0) (by k_caught0) (IHl (ls.length - (n + 1)) (by (clear hp; clear hlen; clear hxn; clear hls; clear hsl'; clear hlt; clear hi; clear hij; clear hsl4; clear hpos; clear hsl; clear hpos; clear hsl4; clear hn; clear hsvl; clear hsl; clear hsa0; clear hz; omega)) _ ⟨n + 1, step1 st' ls[n], _, rfl, by (clear hp; clear hlen; clear hxn; clear hls; clear hsl'; clear hnj; clear hlt; clear hi; clear hij; clear hsl4; clear hpos; clear hsl; clear hpos; clear hsl4; clear hn; clear hsvl; clear hsl; clear hsa0; clear hz; omega), he.symm ▸ hst2.snoc _ _, hso2.step hxn, by have := step1_len st' ls[n]; (clear hp; clear hlen; clear hxn; clear hls; clear hnj; clear hlt; clear hi; clear hij; clear hsl4; clear hpos; clear hsl; clear hpos; clear hsl4; clear hn; clear hsvl; clear hsl; clear hsa0; clear hz; omega), hdr⟩)
          · refine cl_for1 ?_
            have hlen := hst2.len
            have hfin : st' = actOn (.go ls) st := by rw [List.drop_of_length_le hn1] at hfold; exact hfold
            obtain ⟨kvs2, hkv2, hst'2⟩ := hT.mono hF2
            obtain ⟨rs2, hrs2⟩ := hso2.top
            obtain ⟨sl2, vs2, hs1, hs2, hs3, hs4⟩ := hst'2 _ _ hrs2
            obtain ⟨tl2, hlast2⟩ := hst2.last hso2.1
            have hpos2 : st'.length ≠ 0 := fun e => hso2.1 (List.length_eq_zero_iff.mp e)
            have hal : st'.length ≤ st.length + 10 := by rw [hfin]; exact actOn_len _ _ fun l hl => by cases hl; exact hls.1
            ((with_reducible refine' t_nextTupEnd ?zhh ?zhi ?zha ?zhv ?zu ?_); (case zhh => (refine Rm.hd (n := 0) ?_; k_caughtN0)); (case zhi => top_name); (case zha => exact Kn.fz' hta); (case zhv => (rw [htv.len]; with_reducible assumption)); (case zu => k_caught0))
            with_reducible refine t_nil ?_
            with_reducible refine sg_nil ?_
            with_reducible refine sg_cons ?_
            with_reducible refine sg_stmt ?_
            ((with_reducible refine t_AssignName ?_ ?zhs); (case zhs => rfl))
            with_reducible refine t_Sub ?_
            ((with_reducible refine' t_localM ?zhN ?zhv ?zhx ?zhk ?zhd ?_); (case zhx => kernel_rfl!); (case zhN => top_name); (case zhv => top_name); (case zhk => rfl); (case zhd => decide +kernel))
            with_reducible refine t_Sub ?_
            ((with_reducible refine' t_localM ?zhN ?zhv ?zhx ?zhk ?zhd ?_); (case zhx => kernel_rfl!); (case zhN => top_name); (case zhv => top_name); (case zhk => rfl); (case zhd => decide +kernel))
            with_reducible refine t_Neg ?_
            ((with_reducible refine t_int ?_); (intro _))
            ((with_reducible refine ti_neg ?_); (intro _))
            ((with_reducible refine' t_subList ?zha ?zhs ?_); (case zha => top_raise); (case zhs => rfl))
            ((with_reducible refine' t_itemListNeg ?zha ?zh0 ?zhz ?zh2 ?zhv ?_); (case zha => top_raise); (case zh0 => decide); (case zhz => (clear hal; clear hs4; clear hn1; clear hls; clear hsl'; clear hnj; clear hlt; clear hi; clear hij; clear hsl4; clear hpos; clear hsl; clear hpos; clear hsl4; clear hn; clear hsvl; clear hsl; clear hsa0; clear hz; omega)); (case zh2 => decide); (case zhv => exact hlast2))
            ((with_reducible refine' t_subDict ?zha ?zhs ?_); (case zha => top_raise); (case zhs => rfl))
            refine t_dictGetItem (Kn.fz' hkv2) hs1 ?_
            ((with_reducible refine' t_storeM ?zu ?zhN ?zhl ?zhx ?zhk ?_); (case zhx => kernel_rfl!); (case zhN => top_name); (case zhl => k_caught0); (case zu => k_caught0); (case zhk => rfl))
            with_reducible refine sg_nil ?_
            with_reducible refine sg_cons ?_
            with_reducible refine sg_stmt ?_
            ((with_reducible refine t_Break ?_ ?zhs); (case zhs => rfl))
            refine sg_pop (r := .ok .next) rfl ?_
            show Sg _ _ _ (whileK _ _ _ _ .next) _ _ _
            refine sg_again rfl ?_
            rw [← hfin]
            exact sg_fix (by k_caught0) (by k_caught0) (by k_caught0) (IH (k - 1) (by (clear hal; clear hpos2; clear hs4; clear hlen; clear hn1; clear hls; clear hsl'; clear hnj; clear hi; clear hij; clear hsl4; clear hsl; clear hsl4; clear hn; clear hsvl; clear hsl; clear hsa0; clear hz; omega)) A2 fs _ _ ⟨F2, N2, G2, pos + 1, (pos : Int) + 1, st', svs', sl2, ss, _, vs2, rs2, hA2, hQ, rfl, rfl, hst2, hso2, by (clear hal; clear hpos2; clear hs4; clear hlen; clear hn1; clear hlt; clear hi; clear hij; clear hsl4; clear hpos; clear hpos; clear hsl4; clear hn; clear hsvl; clear hsa0; clear hz; omega), by (clear hal; clear hpos2; clear hs4; clear hlen; clear hn1; clear hls; clear hsl'; clear hnj; clear hi; clear hij; clear hsl4; clear hsl; clear hsl4; clear hn; clear hsvl; clear hsl; clear hsa0; clear hz; omega), hT.mono hF2, hrs2, hs2, hs3, hs4, rfl⟩)
    · -- no rule takes the letter
      have hno' : ∀ r ∈ rs, text.cps[pos]? ≠ some r.c := by
        rw [List.take_of_length_le (by rw [← hsl3.len]; exact hi)] at hno
        exact hno
      refine sg_forTurn ?_
      ((with_reducible refine' t_nextListEnd ?zhh ?zhi ?zha ?zhv ?zu ?_); (case zhh => (refine Rm.hd (n := 0) ?_; k_caughtN0)); (case zhi => top_name); (case zha => exact Kn.fz' hsl2); (case zhv => exact hi); (case zu => k_caught0))
      refine sg_block ?_
      with_reducible refine sg_cons ?_
      with_reducible refine sg_If ?_
      ((with_reducible refine t_isCmp ?_ ?zhb); (case zhb => rfl))
      ((with_reducible refine' t_localM ?zhN ?zhv ?zhx ?zhk ?zhd ?_); (case zhx => kernel_rfl!); (case zhN => top_name); (case zhv => top_name); (case zhk => rfl); (case zhd => decide +kernel))
      ((with_reducible refine t_Call ?_ ?zhe); (case zhe => rfl))
      ((with_reducible refine' t_bltin ?ze ?zhv ?zhn ?zhg ?zhb ?zhk ?zhx ?zhd ?_); (case zhv => top_strB); (case ze => top_argsB); (case zhn => decide +kernel); (case zhg => rfl); (case zhb => rfl); (case zhk => rfl); (case zhx => kernel_rfl!); (case zhd => decide +kernel))
      with_reducible refine t_callWithP ?_
      ((with_reducible refine t_evalArgs ?_ ?zhe); (case zhe => rfl))
      ((with_reducible refine t_args ?_ ?zhe); (case zhe => rfl))
      ((with_reducible refine' t_localM ?zhN ?zhv ?zhx ?zhk ?zhd ?_); (case zhx => kernel_rfl!); (case zhN => top_name); (case zhv => top_name); (case zhk => rfl); (case zhd => decide +kernel))
      with_reducible refine t_args0 ?_
      ((with_reducible refine cp0 ?zhc ?_); (case zhc => k_caughtNB))
      ((with_reducible refine t_len ?zhz ?_); (case zhz => (clear hi; clear hij; clear hsl4; clear hpos; clear hsl; clear hpos; clear hsl4; clear hn; clear hsvl; clear hsl; clear hsa0; omega)); (intro _))
      with_reducible refine tc_geI ?_
      with_reducible refine tt_bool ?_
      refine if_b (fun hb => ?_) (fun hb => ?_)
      · have hle : text.length ≤ pos := by have := of_decide_eq_true hb; (clear hi; clear hij; clear hsl4; clear hpos; clear hsl; clear hpos; clear hsl4; clear hn; clear hsvl; clear hsl; clear hsa0; clear hz; omega)
        with_reducible refine sg_cons ?_
        with_reducible refine sg_stmt ?_
        ((with_reducible refine t_Break ?_ ?zhs); (case zhs => rfl))
        refine sg_pop (r := .ok .brk) rfl ?_
        show Sg _ _ _ (.pure (.done .next)) _ _ _
        refine sg_pick (N' := N) (by k_caught0) (hQ.fin _ _ _ _ ?_)
        rw [lex_end hle]
        exact ⟨rfl, rfl⟩
      · have hlt : pos < text.cps.size := by have := of_decide_eq_false hb; have e : text.length = text.cps.size := rfl; (clear hi; clear hij; clear hsl4; clear hpos; clear hsl; clear hpos; clear hsl4; clear hn; clear hsvl; clear hsl; clear hsa0; clear hz; omega)
        have hlt' : pos < text.length := hlt
        obtain ⟨c, hc⟩ : ∃ c, text.cps[pos]? = some c := ⟨_, Array.getElem?_eq_getElem hlt⟩
        with_reducible refine sg_nil ?_
        with_reducible refine sg_cons ?_
        with_reducible refine sg_If ?_
        ((with_reducible refine t_isCmp ?_ ?zhb); (case zhb => rfl))
        with_reducible refine t_Sub ?_
        ((with_reducible refine' t_localM ?zhN ?zhv ?zhx ?zhk ?zhd ?_); (case zhx => kernel_rfl!); (case zhN => top_name); (case zhv => top_name); (case zhk => rfl); (case zhd => decide +kernel))
        ((with_reducible refine' t_localM ?zhN ?zhv ?zhx ?zhk ?zhd ?_); (case zhx => kernel_rfl!); (case zhN => top_name); (case zhv => top_name); (case zhk => rfl); (case zhd => decide +kernel))
        ((with_reducible refine' t_subStr ?zhs ?_); (case zhs => rfl))
        ((with_reducible refine' t_itemStr ?zhi ?zhz ?zhc ?_); (case zhi => with_reducible exact Int.natCast_nonneg _); (case zhz => (clear hlt'; clear hlt; clear hi; clear hij; clear hsl4; clear hsl; clear hsl4; clear hn; clear hsvl; clear hsl; clear hsa0; omega)); (case zhc => exact hc); (intro _))
        ((with_reducible refine t_str ?_); (intro _))
        with_reducible refine tc_eqS ?_
        with_reducible refine tt_bool ?_
        refine if_b (fun hb => ?_) (fun hb => ?_)
        · have hc10 : c = 10 := by
            have e : (⟨#[c]⟩ : Str) = (⟨#[10]⟩ : Str) := by
              have : (⟨#[c]⟩ : Str) = Str.ofString "\n" := by simpa using hb
              rw [this]; rfl
            simpa using e
          subst hc10
          obtain ⟨kvs2, hkv2, hst'2⟩ := id hT
          obtain ⟨rs2, hrs2⟩ := Option.isSome_iff_exists.mp hok.1
          obtain ⟨sl2, vs2, hs1, hs2, hs3, hs4⟩ := hst'2 _ _ hrs2
          with_reducible refine sg_cons ?_
          with_reducible refine sg_stmt ?_
          ((with_reducible refine t_AssignName ?_ ?zhs); (case zhs => rfl))
          with_reducible refine t_List ?_
          ((with_reducible refine t_args ?_ ?zhe); (case zhe => rfl))
          ((with_reducible refine t_str ?_); (intro _))
          with_reducible refine t_args0 ?_
          ((with_reducible refine t_newList ?zhz ?_); (case zhz => simp [sizeLine]))
          intro _
          ((with_reducible refine' t_storeM ?zu ?zhN ?zhl ?zhx ?zhk ?_); (case zhx => kernel_rfl!); (case zhN => top_name); (case zhl => k_caught0); (case zu => k_caught0); (case zhk => rfl))
          with_reducible refine sg_cons ?_
          with_reducible refine sg_stmt ?_
          ((with_reducible refine t_AssignName ?_ ?zhs); (case zhs => rfl))
          with_reducible refine t_Sub ?_
          ((with_reducible refine' t_localM ?zhN ?zhv ?zhx ?zhk ?zhd ?_); (case zhx => kernel_rfl!); (case zhN => top_name); (case zhv => top_name); (case zhk => rfl); (case zhd => decide +kernel))
          ((with_reducible refine t_str ?_); (intro _))
          ((with_reducible refine' t_subDict ?zha ?zhs ?_); (case zha => top_raise); (case zhs => rfl))
          refine t_dictGetItem (Kn.fz' hkv2) hs1 ?_
          ((with_reducible refine' t_storeM ?zu ?zhN ?zhl ?zhx ?zhk ?_); (case zhx => kernel_rfl!); (case zhN => top_name); (case zhl => k_caught0); (case zu => k_caught0); (case zhk => rfl))
          with_reducible refine sg_cons ?_
          rename_i tc1 tc2 tr ss2 tk2
          refine sg_fix (N2 := (L, .ns [("text", .str text tt), ("pos", .int (pos : Int) tp), ("tokendefs", .ref td), ("statestack", .ref ss2), ("statetokens", .ref sl2)]) :: (ss2, .lst [.str "root" tr]) :: N) (by k_caught0) (by k_caught0) (by k_caught0) ?_
          refine sg_wk ?_
          refine sg_yield (fsOk_while hQ.ok).gen rfl (fsOk_while hQ.ok).grd rfl rfl ?_
          with_reducible refine t_Tuple ?_
          ((with_reducible refine t_args ?_ ?zhe); (case zhe => rfl))
          ((with_reducible refine' t_localM ?zhN ?zhv ?zhx ?zhk ?zhd ?_); (case zhx => kernel_rfl!); (case zhN => top_name); (case zhv => top_name); (case zhk => rfl); (case zhd => decide +kernel))
          ((with_reducible refine t_args ?_ ?zhe); (case zhe => rfl))
          ((with_reducible refine' t_glob ?ze ?zhg ?zhk ?zhx ?zhd ?_); (case ze => top_raise0); (case zhg => rfl); (case zhk => rfl); (case zhx => kernel_rfl!); (case zhd => decide +kernel))
          ((with_reducible refine t_args ?_ ?zhe); (case zhe => rfl))
          ((with_reducible refine t_str ?_); (intro _))
          with_reducible refine t_args0 ?_
          ((with_reducible refine t_newTuple ?zhz ?_); (case zhz => simp [sizeLine]))
          intro _
          intro _
          intro _
          intro _
          intro _
          rename_i tn a lw kk pp hk
          refine gpost_cons (gd := (fsOk_while hQ.ok).grd) (N2 := (L, .ns [("text", .str text tt), ("pos", .int (pos : Int) tp), ("tokendefs", .ref td), ("statestack", .ref ss2), ("statetokens", .ref sl2)]) :: (ss2, .lst [.str "root" tr]) :: (a, .tup [.int (pos : Int) tp, .ref 93, .str "\n" tn]) :: N) (own' := [(L, .ns [("text", .str text tt), ("pos", .int (pos : Int) tp), ("tokendefs", .ref td), ("statestack", .ref ss2), ("statetokens", .ref sl2)]), (ss2, .lst [.str "root" tr])]) (t1 := tp) (t2 := tn) ((lex_miss hc hrs hno').trans (if_pos rfl)) rfl (by k_caught0) ?_
          intro F2 A2 N2 G2 hF2 hA2
          show Sg _ _ _ (kk (.send .none)) _ ⟨F2, (L, _) :: (ss2, _) :: N2, G2⟩ _
          refine hk _ _ _ ?_
          with_reducible refine sg_cons ?_
          with_reducible refine sg_stmt ?_
          with_reducible refine t_AugName ?_
          ((with_reducible refine' t_localNM ?zhN ?zhv ?zhx ?zhk ?_); (case zhx => kernel_rfl!); (case zhN => top_name); (case zhv => top_name); (case zhk => rfl))
          ((with_reducible refine t_int ?_); (intro _))
          ((with_reducible refine ti_iadd ?_); (intro _))
          ((with_reducible refine' t_storeM ?zu ?zhN ?zhl ?zhx ?zhk ?_); (case zhx => kernel_rfl!); (case zhN => top_name); (case zhl => k_caught0); (case zu => k_caught0); (case zhk => rfl))
          with_reducible refine sg_cons ?_
          with_reducible refine sg_stmt ?_
          ((with_reducible refine t_Continue ?_ ?zhs); (case zhs => rfl))
          refine sg_pop (r := .ok .cont) rfl ?_
          show Sg _ _ _ (whileK _ _ _ _ .cont) _ _ _
          refine sg_again rfl ?_
          exact sg_fix (by k_caught0) (by k_caught0) (by k_caught0) (IH (k - 1) (by (clear hs4; clear hlt; clear hi; clear hij; clear hsl4; clear hsl; clear hsl4; clear hn; clear hsvl; clear hsl; clear hsa0; clear hz; omega)) A2 fs _ _ ⟨F2, N2, G2, pos + 1, (pos : Int) + 1, ["root"], _, sl2, ss2, _, vs2, rs2, hA2, hQ, rfl, rfl, .cons .nil, ⟨by simp, by simpa using hok.1⟩, by simp; (clear hs4; clear hlt'; clear hlt; clear hi; clear hij; clear hsl4; clear hpos; clear hsl; clear hpos; clear hsl4; clear hn; clear hsvl; clear hsl; clear hsa0; clear hz; omega), by (clear hs4; clear hlt; clear hi; clear hij; clear hsl4; clear hsl; clear hsl4; clear hn; clear hsvl; clear hsl; clear hsa0; clear hz; omega), hT.mono hF2, hrs2, hs2.mono hF2, hs3.mono hF2, hs4, rfl⟩)
        · have hc10 : c ≠ 10 := by
            rintro rfl
            have : ((⟨#[10]⟩ : Str) == Str.ofString "\n") = true := rfl
            rw [this] at hb
            cases hb
          with_reducible refine sg_nil ?_
          with_reducible refine sg_cons ?_
          refine sg_wk ?_
          refine sg_yield (fsOk_while hQ.ok).gen rfl (fsOk_while hQ.ok).grd rfl rfl ?_
          with_reducible refine t_Tuple ?_
          ((with_reducible refine t_args ?_ ?zhe); (case zhe => rfl))
          ((with_reducible refine' t_localM ?zhN ?zhv ?zhx ?zhk ?zhd ?_); (case zhx => kernel_rfl!); (case zhN => top_name); (case zhv => top_name); (case zhk => rfl); (case zhd => decide +kernel))
          ((with_reducible refine t_args ?_ ?zhe); (case zhe => rfl))
          ((with_reducible refine' t_glob ?ze ?zhg ?zhk ?zhx ?zhd ?_); (case ze => top_raise0); (case zhg => rfl); (case zhk => rfl); (case zhx => kernel_rfl!); (case zhd => decide +kernel))
          ((with_reducible refine t_args ?_ ?zhe); (case zhe => rfl))
          with_reducible refine t_Sub ?_
          ((with_reducible refine' t_localM ?zhN ?zhv ?zhx ?zhk ?zhd ?_); (case zhx => kernel_rfl!); (case zhN => top_name); (case zhv => top_name); (case zhk => rfl); (case zhd => decide +kernel))
          ((with_reducible refine' t_localM ?zhN ?zhv ?zhx ?zhk ?zhd ?_); (case zhx => kernel_rfl!); (case zhN => top_name); (case zhv => top_name); (case zhk => rfl); (case zhd => decide +kernel))
          ((with_reducible refine' t_subStr ?zhs ?_); (case zhs => rfl))
          ((with_reducible refine' t_itemStr ?zhi ?zhz ?zhc ?_); (case zhi => with_reducible exact Int.natCast_nonneg _); (case zhz => (clear hc10; clear hlt'; clear hlt; clear hi; clear hij; clear hsl4; clear hsl; clear hsl4; clear hn; clear hsvl; clear hsl; clear hsa0; omega)); (case zhc => exact hc); (intro _))
          with_reducible refine t_args0 ?_
          ((with_reducible refine t_newTuple ?zhz ?_); (case zhz => simp [sizeLine]))
          intro _
          intro _
          intro _
          intro _
          intro _
          rename_i tn a lw kk pp hk
          refine gpost_cons (gd := (fsOk_while hQ.ok).grd) (N2 := (L, .ns [("text", .str text tt), ("pos", .int (pos : Int) tp), ("tokendefs", .ref td), ("statestack", .ref ss), ("statetokens", .ref sl)]) :: (ss, .lst svs) :: (a, .tup [.int (pos : Int) tp, .ref 97, .str ⟨#[c]⟩ tn]) :: N) (own' := [(L, .ns [("text", .str text tt), ("pos", .int (pos : Int) tp), ("tokendefs", .ref td), ("statestack", .ref ss), ("statetokens", .ref sl)]), (ss, .lst svs)]) (t1 := tp) (t2 := tn) ((lex_miss hc hrs hno').trans (if_neg hc10)) rfl (by k_caught0) ?_
          intro F2 A2 N2 G2 hF2 hA2
          show Sg _ _ _ (kk (.send .none)) _ ⟨F2, (L, _) :: (ss, _) :: N2, G2⟩ _
          refine hk _ _ _ ?_
          with_reducible refine sg_cons ?_
          with_reducible refine sg_stmt ?_
          with_reducible refine t_AugName ?_
          ((with_reducible refine' t_localNM ?zhN ?zhv ?zhx ?zhk ?_); (case zhx => kernel_rfl!); (case zhN => top_name); (case zhv => top_name); (case zhk => rfl))
          ((with_reducible refine t_int ?_); (intro _))
          ((with_reducible refine ti_iadd ?_); (intro _))
          ((with_reducible refine' t_storeM ?zu ?zhN ?zhl ?zhx ?zhk ?_); (case zhx => kernel_rfl!); (case zhN => top_name); (case zhl => k_caught0); (case zu => k_caught0); (case zhk => rfl))
          with_reducible refine sg_nil ?_
          refine sg_pop (r := .ok .next) rfl ?_
          show Sg _ _ _ (whileK _ _ _ _ .next) _ _ _
          refine sg_again rfl ?_
          exact sg_fix (by k_caught0) (by k_caught0) (by k_caught0) (IH (k - 1) (by (clear hc10; clear hlt; clear hi; clear hij; clear hsl4; clear hsl; clear hsl4; clear hn; clear hsvl; clear hsl; clear hsa0; clear hz; omega)) A2 fs _ _ ⟨F2, N2, G2, pos + 1, (pos : Int) + 1, st, svs, sl, ss, _, vs, rs, hA2, hQ, rfl, rfl, hst, hso, by (clear hc10; clear hlt'; clear hlt; clear hi; clear hij; clear hsl4; clear hpos; clear hpos; clear hsl4; clear hn; clear hsvl; clear hsa0; clear hz; omega), by (clear hc10; clear hlt; clear hi; clear hij; clear hsl4; clear hsl; clear hsl4; clear hn; clear hsvl; clear hsl; clear hsa0; clear hz; omega), hT.mono hF2, hrs, hsl2.mono hF2, hsl3.mono hF2, hsl4, rfl⟩)
  · exact ⟨F', N', G', 0, 0, st, svs, sl, b0, tp0, vs, rs, hA', ⟨fsOk_func, fun A c l P h => sg_pop (r := .ok .next) rfl (sg_end (r := .ok (.ret .none)) rfl h)⟩, rfl, rfl, hst, hso, by with_reducible assumption, by (clear hpos; clear hsl4; clear hn; clear hsvl; clear hsl; clear hsa0; clear hz; omega), ⟨kvs, hkv, hst'⟩, hrs, hsl2, hsl3, hsl4, rfl⟩
end Mine

namespace Mine
variable {w : World} {mg mb : Str → Option Value} {O : OsState} {A : Around} {F F' : PH} {N : List (Addr × OD)} {G : Array GenState}
/-- a machine: for each state and letter the next state and what is told -/
abbrev Mch := List (List (Nat × Nat))
def PairAt (P : Params) (F : PH) (v : Value) (p : Nat × Nat) : Prop := ∃ a t1 t2, v = .ref a ∧ Fz P F a (.tup [.int (p.1 : Int) t1, .int (p.2 : Int) t2])
def RowAt (P : Params) (F : PH) (v : Value) (r : List (Nat × Nat)) : Prop := ∃ a vs, v = .ref a ∧ Fz P F a (.lst vs) ∧ vs.length = r.length ∧ ∀ (i : Nat) p, r[i]? = some p → ∃ v, vs[i]? = some v ∧ PairAt P F v p
def MchAt (P : Params) (F : PH) (ma : Addr) (M : Mch) : Prop := ∃ vs, Fz P F ma (.lst vs) ∧ vs.length = M.length ∧ ∀ (i : Nat) r, M[i]? = some r → ∃ v, vs[i]? = some v ∧ RowAt P F v r
/-- a machine is sound -/
structure MchOk (M : Mch) : Prop where
  pos : 1 ≤ M.length
  len : M.length ≤ 3
  row : ∀ r ∈ M, r.length = 2 ∧ ∀ p ∈ r, p.1 < M.length ∧ p.2 < 2
def nmS (i : Nat) : Str := if i = 0 then "root" else if i = 1 then "first" else "second"
def tyS (t : Nat) : Str := if t = 0 then "Ta" else "Tb"
def actS (s o : Nat) : Act := if s = 0 then (if o = 0 then .stay else .go [nmS o]) else if o = 0 then .pop else .go ["#pop", nmS o]
abbrev KV (n : Nat) : List (Str × Value) := (List.range n).map fun i => (nmS i, .none)
def RowSo (X : Cx) (F : PH) (s : Nat) (row : List (Nat × Nat)) (rs : List RuleE) : Prop := ∀ (j : Nat) r, rs[j]? = some r → ∃ p, row[j]? = some p ∧ r.c = 120 + j ∧ r.act = actS s p.1 ∧ TyN X ⟨F, [], #[]⟩ r.ty 83 [tyS p.2]
def TblSo (P : Params) (X : Cx) (F : PH) (M : Mch) (kvs : List (Str × Value)) (tb : Tbl) : Prop := tb.length = kvs.length ∧ ∀ (i : Nat) k v, kvs[i]? = some (k, v) → k = nmS i ∧ ∃ sl vs rs row, v = .ref sl ∧ tb[i]? = some (k, rs) ∧ M[i]? = some row ∧ Fz P F sl (.lst vs) ∧ SRules P F (KV M.length) vs rs ∧ RowSo X F i row rs ∧ rs.length = 2
/-- what is told: place, the type's names, the letter -/
abbrev Told := List (Nat × List Str × Nat)
def mget (M : Mch) (s j : Nat) : Nat × Nat := (((M[s]?).getD [])[j]?).getD (0, 0)
def toldM (M : Mch) : List Nat → Nat → Nat → Told
  | [], _, _ => []
  | c :: cs, p, s => if c = 120 ∨ c = 121 then (p, [tyS (mget M s (c - 120)).2], c) :: toldM M cs (p + 1) (mget M s (c - 120)).1 else if c = 10 then (p, ["Text", "Whitespace"], 10) :: toldM M cs (p + 1) 0 else (p, ["Error"], c) :: toldM M cs (p + 1) s
inductive ToldV (P : Params) (X : Cx) (F : PH) : List Value → Told → Prop
  | nil : ToldV P X F [] []
  | cons {a : Addr} {t1 : Tok} {nt : Addr} {ns : List Value} {t2 : Tok} {vs : List Value} {p : Nat} {n : List Str} {c : Nat} {ds : Told} : Fz P F a (.tup [.int p t1, .ref nt, .str ⟨#[c]⟩ t2]) → Kn X ⟨F, [], #[]⟩ nt (.tup ns) → Strs n ns → ToldV P X F vs ds → ToldV P X F (.ref a :: vs) ((p, n, c) :: ds)
def ToldAt (P : Params) (X : Cx) (F : PH) (a : Addr) (ds : Told) : Prop := ∃ vs, Fz P F a (.lst vs) ∧ ToldV P X F vs ds
theorem nm_at {i : Nat} {t1 t2 t3 : Tok} (h : i < 3) : ∃ t, [Value.str "root" t1, .str "first" t2, .str "second" t3][i]? = some (.str (nmS i) t) := by
  obtain rfl | rfl | rfl : i = 0 ∨ i = 1 ∨ i = 2 := by omega
  · exact ⟨_, rfl⟩
  · exact ⟨_, rfl⟩
  · exact ⟨_, rfl⟩
theorem SRules.snoc {P : Params} {kvs : List (Str × Value)} {vs : List Value} {rs : List RuleE} {v : Value} {r : RuleE} (h : SRules P F kvs vs rs) (a : SRule P F kvs v r) : SRules P F kvs (vs ++ [v]) (rs ++ [r]) := by
  induction h with
  | nil => exact .cons a .nil
  | cons b _ ih => exact .cons b ih
theorem RowSo.mono {X : Cx} {s : Nat} {row : List (Nat × Nat)} {rs : List RuleE} (h : RowSo X F s row rs) (k : F.le F') : RowSo X F' s row rs := fun j r e => let ⟨p, a, b, c, d⟩ := h j r e; ⟨p, a, b, c, d.le k⟩
theorem kv_key {n o : Nat} (hn : n ≤ 3) (ho : o < n) : (valueAt (KV n) (nmS o)).isSome = true ∧ nmS o ≠ "#pop" := by
  obtain rfl | rfl | rfl : n = 1 ∨ n = 2 ∨ n = 3 := by omega
  all_goals
    obtain rfl | rfl | rfl : o = 0 ∨ o = 1 ∨ o = 2 := by (clear hn; omega)
    all_goals first | (clear hn; omega) | exact ⟨by decide +kernel, by decide +kernel⟩
theorem rule_ok {F2 : PH} {n i j : Nat} {row : List (Nat × Nat)} {p : Nat × Nat} {vs : List Value} {rs : List RuleE} {rc r1 rw px pd ty dty nty : Addr} {tu3 tn : Tok} {rest : List Value} {act : Act} (le : F.le F2) (hv : SRules w.params F (KV n) vs rs) (hr : RowSo (cx w mg mb O) F i row rs) (hl : rs.length = j) (hp : row[j]? = some p)
    (f1 : Fz w.params F2 rc (.tup (.ref px :: .ref ty :: rest))) (f2 : Fz w.params F2 ty (.inst 83 dty)) (f3 : Fz w.params F2 dty (.fld [("names", .ref nty)])) (f4 : Fz w.params F2 nty (.tup [.str (tyS p.2) tn])) (f5 : Fz w.params F2 px (.inst 651 pd)) (f6 : Fz w.params F2 pd (.fld [("rows", .ref rw)])) (f7 : Fz w.params F2 rw (.lst [.ref r1]))
    (f8 : Fz w.params F2 r1 (.lst [.str ⟨#[120 + j]⟩ tu3])) (ha : SAct w.params F2 (KV n) rest act) (hact : act = actS i p.1) :
    SRules w.params F2 (KV n) (vs ++ [.ref rc]) (rs ++ [⟨120 + j, ty, act⟩]) ∧ RowSo (cx w mg mb O) F2 i row (rs ++ [⟨120 + j, ty, act⟩]) ∧ (rs ++ [(⟨120 + j, ty, act⟩ : RuleE)]).length = j + 1 := by
  refine ⟨(hv.mono le).snoc ⟨rc, px, pd, rw, r1, tu3, dty, _, rest, rfl, f1, f5, f6, f7, f8, f2, f3, ha⟩, fun k r e => ?_, by simp [hl]⟩
  rcases Nat.lt_or_ge k rs.length with hk | hk
  · rw [List.getElem?_append_left hk] at e
    exact hr.mono le k r e
  · rw [List.getElem?_append_right hk] at e
    obtain ⟨h0, rfl⟩ : k - rs.length = 0 ∧ r = ⟨120 + j, ty, act⟩ := by
      have : k - rs.length = 0 := by have := (List.getElem?_eq_some_iff.mp e).1; simpa using this
      rw [this] at e
      exact ⟨this, by simpa using e.symm⟩
    obtain rfl : k = j := by omega
    exact ⟨p, hp, rfl, hact, dty, nty, _, .inl f2, .inl f3, .inl f4, .cons .nil⟩
theorem TblSo.mono {P : Params} {X : Cx} {F2 : PH} {M : Mch} {kvs : List (Str × Value)} {tb : Tbl} (h : TblSo P X F M kvs tb) (le : F.le F2) : TblSo P X F2 M kvs tb := ⟨h.1, fun i k v e => by
  obtain ⟨e1, sl, vs, rs, row, e2, e3, e4, f, g, r, z⟩ := h.2 i k v e
  exact ⟨e1, sl, vs, rs, row, e2, e3, e4, f.mono le, g.mono le, r.mono le, z⟩⟩
theorem TblSo.snoc {P : Params} {X : Cx} {M : Mch} {kvs : List (Str × Value)} {tb : Tbl} {i : Nat} {row : List (Nat × Nat)} {rl : Addr} {vs : List Value} {rs : List RuleE} (h : TblSo P X F M kvs tb) (hi : kvs.length = i) (hM : M[i]? = some row) (hf : Fz P F rl (.lst vs))
    (hv : SRules P F (KV M.length) vs rs) (hr : RowSo X F i row rs) (hl : rs.length = 2) : TblSo P X F M (kvs ++ [(nmS i, .ref rl)]) (tb ++ [(nmS i, rs)]) := by
  refine ⟨by simp [h.1], fun j k v e => ?_⟩
  rcases Nat.lt_or_ge j kvs.length with hj | hj
  · rw [List.getElem?_append_left hj] at e
    obtain ⟨e1, sl, vs, rs, row, e2, e3, q⟩ := h.2 j k v e
    exact ⟨e1, sl, vs, rs, row, e2, by rw [List.getElem?_append_left (by rw [h.1]; exact hj)]; exact e3, q⟩
  · rw [List.getElem?_append_right hj] at e
    have h0 : j - kvs.length = 0 := by have := (List.getElem?_eq_some_iff.mp e).1; simpa using this
    rw [h0] at e
    obtain ⟨rfl, rfl⟩ : nmS i = k ∧ Value.ref rl = v := by simpa using e
    obtain rfl : j = i := by (clear hl; omega)
    exact ⟨rfl, rl, vs, rs, row, rfl, by rw [List.getElem?_append_right (by rw [h.1]; exact hj), h.1, h0]; rfl, hM, hf, hv, hr, hl⟩
theorem TblSo.fresh {P : Params} {X : Cx} {M : Mch} {kvs : List (Str × Value)} {tb : Tbl} {i : Nat} (h : TblSo P X F M kvs tb) (hi : kvs.length = i) (hi3 : i < 3) : valueAt kvs (nmS i) = none := by
  have kv3 : ∀ j, j < 3 → (KV 3)[j]? = some (nmS j, Value.none) := fun j hj => by
    obtain rfl | rfl | rfl : j = 0 ∨ j = 1 ∨ j = 2 := by (clear hi3; clear hi; omega)
    all_goals rfl
  refine fresh_key (kvs := KV 3) (by decide +kernel) (fun j p e => ?_) (kv3 i hi3) (by (clear hi3; omega))
  have hj := (List.getElem?_eq_some_iff.mp e).1
  exact ⟨.none, by rw [(h.2 j p.1 p.2 e).1]; exact kv3 j (by omega)⟩
theorem xy_size : (Str.ofString "xy").cps.size = 2 := by decide +kernel
theorem xy_at {j : Nat} (h : j < 2) : (Str.ofString "xy").cps[j]? = some (120 + j) := by
  obtain rfl | rfl : j = 0 ∨ j = 1 := by omega
  · decide +kernel
  · decide +kernel
theorem ab_at {j : Nat} (h : j < 2) : (Str.ofString "ab").cps[j]? = some (97 + j) := by
  obtain rfl | rfl : j = 0 ∨ j = 1 := by omega
  · decide +kernel
  · decide +kernel
theorem ty_sp {j : Nat} (h : j < 2) : Txt.split (("T" : Str) ++ (⟨#[97 + j]⟩ : Str)) "." = [tyS j] ∧ (("T" : Str) ++ (⟨#[97 + j]⟩ : Str)).length = 2 ∧ (tyS j).cps[0]? = some 84 ∧ (tyS j).length = 2 ∧ (valueAt [(("Token" : Str), Value.ref 89), ("String", .ref 101), ("Number", .ref 105)] (tyS j)).isSome = false := by
  obtain rfl | rfl : j = 0 ∨ j = 1 := by omega
  · decide +kernel
  · decide +kernel
theorem tyN_97 {l : Led} : TyN (cx w mg mb O) l 97 83 ["Error"] := ⟨96, 98, _, Kn.ofK (o := ⟨.ref 83, some 96, .plain, #[]⟩) (by decide) (by kernel_rfl!) ⟨rfl, rfl, rfl⟩, Kn.ofK (by decide) (by rfl) (fld1_ok rfl), Kn.ofK (by decide) (by rfl) ⟨rfl, rfl, 0, rfl⟩, .cons .nil⟩
theorem tyN_93 {l : Led} : TyN (cx w mg mb O) l 93 83 ["Text", "Whitespace"] := ⟨92, 94, _, Kn.ofK (o := ⟨.ref 83, some 92, .plain, #[]⟩) (by decide) (by kernel_rfl!) ⟨rfl, rfl, rfl⟩, Kn.ofK (by decide) (by rfl) (fld1_ok rfl), Kn.ofK (by decide) (by rfl) ⟨rfl, rfl, 0, rfl⟩, .cons (.cons .nil)⟩
def stk (s : Nat) : List Str := if s = 0 then ["root"] else ["root", nmS s]
theorem TblSo.lookup {P : Params} {X : Cx} {M : Mch} {kvs : List (Str × Value)} {tb : Tbl} {i : Nat} (h : TblSo P X F M kvs tb) (h3 : kvs.length ≤ 3) (hi : i < kvs.length) :
    ∃ rs row, tb.lookup (nmS i) = some rs ∧ M[i]? = some row ∧ RowSo X F i row rs ∧ rs.length = 2 := by
  have q : ∀ j, j < kvs.length → ∃ rs row, tb[j]? = some (nmS j, rs) ∧ M[j]? = some row ∧ RowSo X F j row rs ∧ rs.length = 2 := fun j hj => by
    obtain ⟨e1, sl, vs, rs, row, e2, e3, e4, f, g, r, z⟩ := h.2 j _ _ (List.getElem?_eq_getElem hj)
    exact ⟨rs, row, by rw [e3, e1], e4, r, z⟩
  obtain ⟨rs, row, e, e4, r, z⟩ := q i hi
  refine ⟨rs, row, ?_, e4, r, z⟩
  have hl := h.1
  match i, hi, e with
  | 0, _, e =>
    obtain ⟨p, tb', rfl⟩ : ∃ p tb', tb = p :: tb' := List.exists_cons_of_length_pos (by (clear z; clear hi; clear h3; omega))
    obtain rfl : p = _ := Option.some.inj e
    simp [List.lookup_cons]
  | 1, _, e =>
    obtain ⟨p, tb', rfl⟩ : ∃ p tb', tb = p :: tb' := List.exists_cons_of_length_pos (by (clear z; clear hi; clear h3; omega))
    obtain ⟨p1, tb', rfl⟩ : ∃ p tb'', tb' = p :: tb'' := List.exists_cons_of_length_pos (by simp at hl; (clear z; clear hi; clear h3; omega))
    obtain ⟨_, _, e0, _⟩ := q 0 (by (clear hl; clear z; clear hi; clear h3; omega))
    obtain rfl : p = _ := Option.some.inj e0
    obtain rfl : p1 = _ := Option.some.inj e
    have : ((nmS 1 : Str) == nmS 0) = false := by decide +kernel
    simp [List.lookup_cons, this]
  | 2, _, e =>
    obtain ⟨p, tb', rfl⟩ : ∃ p tb', tb = p :: tb' := List.exists_cons_of_length_pos (by (clear z; clear hi; clear h3; omega))
    obtain ⟨p1, tb', rfl⟩ : ∃ p tb'', tb' = p :: tb'' := List.exists_cons_of_length_pos (by simp at hl; (clear z; clear hi; clear h3; omega))
    obtain ⟨p2, tb', rfl⟩ : ∃ p tb'', tb' = p :: tb'' := List.exists_cons_of_length_pos (by simp at hl; (clear z; clear hi; clear h3; omega))
    obtain ⟨_, _, e0, _⟩ := q 0 (by (clear hl; clear z; clear hi; clear h3; omega))
    obtain ⟨_, _, e1, _⟩ := q 1 (by (clear hl; clear z; clear hi; clear h3; omega))
    obtain rfl : p = _ := Option.some.inj e0
    obtain rfl : p1 = _ := Option.some.inj e1
    obtain rfl : p2 = _ := Option.some.inj e
    have h0 : ((nmS 2 : Str) == nmS 0) = false := by decide +kernel
    have h1 : ((nmS 2 : Str) == nmS 1) = false := by decide +kernel
    simp [List.lookup_cons, h0, h1]
  | i + 3, hi, _ => omega
theorem TblSo.keys {P : Params} {X : Cx} {M : Mch} {kvs : List (Str × Value)} {tb : Tbl} (h : TblSo P X F M kvs tb) (hn : kvs.length = M.length) : (KV M.length).map (·.1) = kvs.map (·.1) := by
  apply List.ext_getElem?
  intro i
  rw [List.getElem?_map, List.getElem?_map]
  rcases Nat.lt_or_ge i kvs.length with hi | hi
  · have e := (h.2 i _ _ (List.getElem?_eq_getElem hi)).1
    rw [List.getElem?_map, List.getElem?_range (by omega), List.getElem?_eq_getElem hi, Option.map_some, Option.map_some, Option.map_some]
    exact congrArg some e.symm
  · rw [List.getElem?_eq_none (l := kvs.map _) (by simpa using hi), List.getElem?_eq_none (by simp; omega)]
    rfl
theorem TblSo.stbl {P : Params} {X : Cx} {M : Mch} {kvs : List (Str × Value)} {tb : Tbl} (h : TblSo P X F M kvs tb) (hn : kvs.length = M.length) (h3 : kvs.length ≤ 3) : STbl P F kvs tb where
  len := h.1
  at' := fun i k v e => by
    obtain ⟨e1, sl, vs, rs, row, e2, e3, e4, f, g, r, z⟩ := h.2 i k v e
    have hi := (List.getElem?_eq_some_iff.mp e).1
    have hc : ∃ c, k.cps[0]? = some c ∧ c ≠ 35 := by
      rw [e1]
      obtain rfl | rfl | rfl : i = 0 ∨ i = 1 ∨ i = 2 := by (clear z; clear hn; omega)
      · exact ⟨114, by decide +kernel⟩
      · exact ⟨102, by decide +kernel⟩
      · exact ⟨115, by decide +kernel⟩
    obtain ⟨c, hc1, hc2⟩ := hc
    exact ⟨sl, vs, rs, c, e2, e3, f, g.keys (fun x hx => isSome_keys (h.keys hn) x hx), by rw [g.len, z]; decide, hc1, hc2⟩
theorem TblSo.row {P : Params} {X : Cx} {M : Mch} {kvs : List (Str × Value)} {tb : Tbl} (h : TblSo P X F M kvs tb) {st : Str} {rs : List RuleE} (e : tb.lookup st = some rs) : ∃ i row, i < kvs.length ∧ M[i]? = some row ∧ RowSo X F i row rs := by
  obtain ⟨i, hi⟩ := lookup_at e
  have hl : i < kvs.length := by rw [← h.1]; exact (List.getElem?_eq_some_iff.mp hi).1
  obtain ⟨e1, sl, vs, rs', row, e2, e3, e4, f, g, r, z⟩ := h.2 i _ _ (List.getElem?_eq_getElem hl)
  rw [hi] at e3
  obtain ⟨_, rfl⟩ : _ ∧ rs = rs' := by simpa using e3
  exact ⟨i, row, hl, e4, r⟩
theorem TblSo.tbok {P : Params} {X : Cx} {M : Mch} {kvs : List (Str × Value)} {tb : Tbl} (h : TblSo P X F M kvs tb) (hn : kvs.length = M.length) (ok : MchOk M) : TbOk tb := by
  have hk : ∀ o, o < M.length → (tb.lookup (nmS o)).isSome = true := fun o ho => by
    obtain ⟨rs, row, e, _⟩ := h.lookup (i := o) (by have := ok.len; (clear ho; omega)) (by omega)
    rw [e]; rfl
  have hp : ∀ o, nmS o ≠ "#push" := fun o => by unfold nmS; split <;> (try split) <;> decide +kernel
  refine ⟨hk 0 ok.pos, fun st rs e r hr l hl => ?_⟩
  obtain ⟨i, row, hi, hrow, hr2⟩ := h.row e
  obtain ⟨j, hj⟩ := List.getElem?_of_mem hr
  obtain ⟨p, h1, h2, h3, h4⟩ := hr2 j r hj
  have hpo := ((ok.row row (List.mem_of_getElem? hrow)).2 p (List.mem_of_getElem? h1)).1
  rw [h3] at hl
  unfold actS at hl
  split at hl
  · split at hl
    · cases hl
    · cases hl
      exact ⟨by simp, fun x hx => .inr (by rw [List.mem_singleton.mp hx]; exact ⟨hp _, hk _ hpo⟩)⟩
  · split at hl
    · cases hl
    · cases hl
      refine ⟨by simp, fun x hx => ?_⟩
      rcases List.mem_cons.mp hx with rfl | hx
      · exact .inl rfl
      · exact .inr (by rw [List.mem_singleton.mp hx]; exact ⟨hp _, hk _ hpo⟩)
inductive TkN (X : Cx) (F : PH) : List TokE → Told → Prop
  | nil : TkN X F [] []
  | cons {p ty c n es ds} : TyN X ⟨F, [], #[]⟩ ty 83 n → TkN X F es ds → TkN X F ((p, ty, c) :: es) ((p, n, c) :: ds)
theorem stk_top (s : Nat) : topOf (stk s) = nmS s := by
  unfold stk
  split
  · rename_i h; rw [h]; rfl
  · rfl
theorem stk_act (s o : Nat) (hs : s < 3) (ho : o < 3) : actOn (actS s o) (stk s) = stk o := by
  obtain rfl | rfl | rfl : s = 0 ∨ s = 1 ∨ s = 2 := by (clear ho; omega)
  all_goals
    obtain rfl | rfl | rfl : o = 0 ∨ o = 1 ∨ o = 2 := by (clear hs; omega)
    all_goals decide +kernel
theorem lexM {P : Params} {M : Mch} {kvs : List (Str × Value)} {tb : Tbl} (h : TblSo P (cx w mg mb O) F M kvs tb) (hn : kvs.length = M.length) (ok : MchOk M) : ∀ (l : List Nat) (p s : Nat), s < M.length → TkN (cx w mg mb O) F (lex tb 97 93 l p (stk s)) (toldM M l p s)
  | [], p, s, _ => .nil
  | c :: l, p, s, hs => by
    have h3 := ok.len
    obtain ⟨rs, row, e1, e2, e3, e4⟩ := h.lookup (i := s) (by (clear hs; omega)) (by (clear h3; omega))
    have e1' : (tb.lookup (topOf (stk s))).getD [] = rs := by rw [stk_top, e1]; rfl
    match rs, e4, e3, e1' with
    | [r0, r1], _, e3, e1' =>
      obtain ⟨p0, a1, a2, a3, a4⟩ := e3 0 r0 rfl
      obtain ⟨p1, b1, b2, b3, b4⟩ := e3 1 r1 rfl
      have hrw := ok.row row (List.mem_of_getElem? e2)
      have g0 : mget M s 0 = p0 := by unfold mget; rw [e2, Option.getD_some, a1]; rfl
      have g1 : mget M s 1 = p1 := by unfold mget; rw [e2, Option.getD_some, b1]; rfl
      have o0 := (hrw.2 p0 (List.mem_of_getElem? a1)).1
      have o1 := (hrw.2 p1 (List.mem_of_getElem? b1)).1
      by_cases hc0 : c = 120
      · subst hc0
        have hf : ([r0, r1] : List RuleE).find? (fun r => r.c == 120) = some r0 := by rw [List.find?_cons, a2]; rfl
        rw [show toldM M (120 :: l) p s = (p, [tyS (mget M s (120 - 120)).2], 120) :: toldM M l (p + 1) (mget M s (120 - 120)).1 from by rw [toldM, if_pos (.inl rfl)], lex, e1', hf]
        show TkN _ _ ((p, r0.ty, 120) :: lex tb 97 93 l (p + 1) (actOn r0.act (stk s))) ((p, [tyS (mget M s 0).2], 120) :: toldM M l (p + 1) (mget M s 0).1)
        rw [g0, a3, stk_act s p0.1 (by (clear o1; clear o0; clear hrw; clear b2; clear a2; clear e4; clear hn; omega)) (by (clear o1; clear hrw; clear b2; clear a2; clear e4; clear hs; clear hn; omega))]
        exact .cons a4 (lexM h hn ok l _ _ o0)
      · by_cases hc1 : c = 121
        · subst hc1
          have hf : ([r0, r1] : List RuleE).find? (fun r => r.c == 121) = some r1 := by rw [List.find?_cons, a2, List.find?_cons, b2]; rfl
          rw [show toldM M (121 :: l) p s = (p, [tyS (mget M s (121 - 120)).2], 121) :: toldM M l (p + 1) (mget M s (121 - 120)).1 from by rw [toldM, if_pos (.inr rfl)], lex, e1', hf]
          show TkN _ _ ((p, r1.ty, 121) :: lex tb 97 93 l (p + 1) (actOn r1.act (stk s))) ((p, [tyS (mget M s 1).2], 121) :: toldM M l (p + 1) (mget M s 1).1)
          rw [g1, b3, stk_act s p1.1 (by (clear hc0; clear o1; clear o0; clear hrw; clear b2; clear a2; clear e4; clear hn; omega)) (by (clear hc0; clear o0; clear hrw; clear b2; clear a2; clear e4; clear hs; clear hn; omega))]
          exact .cons b4 (lexM h hn ok l _ _ o1)
        · have hf : ([r0, r1] : List RuleE).find? (fun r => r.c == c) = none := by
            rw [List.find?_eq_none]
            intro r hr
            rcases List.mem_cons.mp hr with rfl | hr
            · rw [a2]; simp; (clear a2; clear hc1; clear o1; clear o0; clear hrw; clear b2; clear e4; clear h3; clear hs; clear hn; omega)
            · rw [List.mem_singleton.mp hr, b2]; simp; (clear hc0; clear o1; clear o0; clear hrw; clear b2; clear a2; clear e4; clear h3; clear hs; clear hn; omega)
          rw [lex, e1', hf]
          dsimp only
          have hx : ¬ (c = 120 ∨ c = 121) := by (clear o1; clear o0; clear hrw; clear b2; clear a2; clear e4; clear h3; clear hs; clear hn; omega)
          by_cases h10 : c = 10
          · rw [if_pos h10, toldM, if_neg hx, if_pos h10]
            exact .cons tyN_93 (lexM h hn ok l _ 0 ok.pos)
          · rw [if_neg h10, toldM, if_neg hx, if_neg h10]
            exact .cons tyN_97 (lexM h hn ok l _ _ hs)
theorem TkN.mono {X : Cx} {ts : List TokE} {ds : Told} (h : TkN X F ts ds) (k : F.le F') : TkN X F' ts ds := by
  induction h with
  | nil => exact .nil
  | cons a _ ih => exact .cons (a.le k) ih
theorem ToldV.mono {P : Params} {X : Cx} {vs : List Value} {ds : Told} (h : ToldV P X F vs ds) (k : F.le F') : ToldV P X F' vs ds := by
  induction h with
  | nil => exact .nil
  | cons a b c _ ih => exact .cons (a.mono k) (b.le k) c ih
theorem ToldV.snoc {P : Params} {X : Cx} {vs : List Value} {ds : Told} {a : Addr} {t1 : Tok} {nt : Addr} {ns : List Value} {t2 : Tok} {p : Nat} {n : List Str} {c : Nat} (h : ToldV P X F vs ds) (ha : Fz P F a (.tup [.int p t1, .ref nt, .str ⟨#[c]⟩ t2])) (hn : Kn X ⟨F, [], #[]⟩ nt (.tup ns)) (hs : Strs n ns) :
    ToldV P X F (vs ++ [.ref a]) (ds ++ [(p, n, c)]) := by
  induction h with
  | nil => exact .cons ha hn hs .nil
  | cons a b c _ ih => exact .cons a b c ih
theorem perm_own2 {a b g : Addr × OD} {own rest : List (Addr × OD)} : (g :: (own ++ a :: b :: rest)).Perm (a :: b :: g :: (own ++ rest)) :=
  (List.Perm.cons g (List.perm_middle.trans (List.Perm.cons a List.perm_middle))).trans ((List.Perm.swap a g _).trans (List.Perm.cons a (List.Perm.swap b g _)))
theorem perm_own3 {x y z : Addr × OD} {own rest : List (Addr × OD)} : (x :: y :: z :: (own ++ rest)).Perm (own ++ x :: y :: z :: rest) :=
  (List.perm_middle.trans (.cons _ (List.perm_middle.trans (.cons _ List.perm_middle)))).symm
theorem perm_own2' {x y : Addr × OD} {own rest : List (Addr × OD)} : (own ++ x :: y :: rest).Perm (x :: y :: (own ++ rest)) :=
  List.perm_middle.trans (.cons _ List.perm_middle)
theorem rem_app {own N N' : List (Addr × OD)} {p : Addr × OD} (h : Rem N p N') : Rem (own ++ N) p (own ++ N') := by
  induction own with
  | nil => exact h
  | cons q own ih => exact .tail ih
theorem ToldV.len {P : Params} {X : Cx} {vs : List Value} {ds : Told} (h : ToldV P X F vs ds) : vs.length = ds.length := by
  induction h with
  | nil => rfl
  | cons _ _ _ _ ih => simp [ih]
theorem toldM_len (M : Mch) : ∀ (l : List Nat) (p s : Nat), (toldM M l p s).length = l.length
  | [], _, _ => rfl
  | c :: l, p, s => by
    rw [toldM]
    split
    · simp [toldM_len M l]
    · split <;> simp [toldM_len M l]
end Mine

namespace Mine
local macro_rules | `(tactic| top_name) => `(tactic| first | (with_reducible exact List.mem_cons_self) | (with_reducible refine List.mem_cons_of_mem _ ?_; top_name) | (with_reducible assumption))
local macro_rules | `(tactic| k_caught0) => `(tactic| first
  | (with_reducible exact LUpd.head) | (with_reducible exact LSet.nil) | (with_reducible exact LSet.head) | (with_reducible exact Rem.head) | (with_reducible exact Pick.refl)
  | ((with_reducible apply LUpd.tail); (k_caught0))
  | ((with_reducible apply LSet.tail); (· (decide +kernel)); (k_caught0))
  | ((with_reducible apply Rem.tail); (k_caught0))
  | ((with_reducible apply Pick.cons); (· k_caught0); (k_caught0))
  | ((with_reducible apply Pick.drop); (k_caught0)))
local macro_rules | `(tactic| top_raise) => `(tactic| first | (with_reducible refine Kn.row' ?_; top_name) | (with_reducible refine Kn.fz' ?_; with_reducible assumption) | (with_reducible assumption) | ((with_reducible refine Kn.skip ?_); top_raise))
local macro_rules | `(tactic| k_caughtN0) => `(tactic| first | assumption | (exact Rm.le (by assumption) (by decide)) | ((refine Rm.dp ?_); k_caughtN0) | ((refine Rm.mk' ?_); k_caughtN0) | (refine Rm.le (Rm.over (n := 40) (Rm.le (by assumption) (by decide)) (by first | exact Quiet.ok (by assumption) | exact fsOk_while (Quiet.ok (by assumption)))) (by decide)))
local macro_rules | `(tactic| k_caughtB) => `(tactic| first | exact Strs.nil | ((apply Strs.cons); k_caughtB) | assumption)
local macro_rules | `(tactic| top_strB) => `(tactic| with_reducible first | exact bl_len | exact bl_isinstance | exact bl_type | exact bl_list | exact bl_tuple | exact bl_range | exact bl_str | exact bl_int | exact bl_abs | exact bl_sum | exact bl_enumerate | exact bl_zip | exact bl_max | exact bl_min | exact bl_divmod | exact bl_callable)
local macro_rules | `(tactic| top_raise0) => `(tactic| with_reducible first | exact g_wall_ | exact g_TokenType_ | exact g_Token | exact g_Whitespace | exact g_Error | exact g_String | exact g_Number | exact g_ALIASES_ | exact g_string_to_tokentype | exact g_CS_ESCAPE | exact g_commonprefix | exact g_make_charset | exact g_pull_ | exact g_same_ | exact g_groupby | exact g_grouper_ | exact g_special_chars_map_ | exact g_escape | exact g_regex_opt_inner | exact g_regex_opt | exact g_Lexer | exact g_include | exact g_inherit_ | exact g_combined | exact g_PseudoMatch_ | exact g_default | exact g_words | exact g_nothing_ | exact g_inherit_place | exact g_merged_tokendefs | exact g_RegexLexerMeta | exact g_RegexLexer | exact g_PlainMatch | exact g_Plain | exact g_PlainLexer | exact g_law_rest_ | exact g_law_told_ | exact g_law)
local macro_rules | `(tactic| top_argsB) => `(tactic| with_reducible first | exact bn_len | exact bn_isinstance | exact bn_type | exact bn_list | exact bn_tuple | exact bn_range | exact bn_str | exact bn_int | exact bn_abs | exact bn_sum | exact bn_enumerate | exact bn_zip | exact bn_max | exact bn_min | exact bn_divmod | exact bn_callable)
local macro_rules | `(tactic| top_reprB) => `(tactic| with_reducible first | exact ga_83 | exact mk_83 | exact bo_83 | exact le_83 | exact ga_624 | exact mk_624 | exact bo_624 | exact le_624 | exact ga_651 | exact mk_651 | exact bo_651 | exact le_651 | exact ga_672 | exact mk_672 | exact bo_672 | exact le_672 | exact in_83 | exact if_83 | exact in_624 | exact if_624 | exact in_651 | exact if_651 | exact in_672 | exact if_672 | exact df_672_get_tokendefs | exact df_672_process_tokendef | exact df_672_process_state_ | exact df_672_process_regex_ | exact df_672_process_token_ | exact df_672_process_new_state_ | exact df_672_get_tokens_unprocessed | exact df_624_group | exact df_624_end | exact df_83_child | exact ni_str_TokenType_ | exact ni_str_combined | exact ni_tuple_inherit_ | exact ni_tuple_include | exact ni_tuple_default | exact ni_tuple_combined | exact ni_int_combined)
local macro_rules | `(tactic| top_caughtB) => `(tactic| with_reducible first | exact fl_83_names | exact fl_624_place | exact fl_624_pieces | exact fl_651_rows | exact fl_672_options | exact fl_672_stripnl | exact fl_672_stripall | exact fl_672_ensurenl | exact fl_672_filters | exact fl_672_tables | exact fl_672_all_tokens_ | exact fl_672_tmpname_ | exact fl_672_tokens_)
local macro_rules | `(tactic| top_raiseB) => `(tactic| with_reducible first | exact st_83_names | exact st_624_place | exact st_624_pieces | exact st_651_rows | exact st_672_options | exact st_672_stripnl | exact st_672_stripall | exact st_672_ensurenl | exact st_672_filters | exact st_672_tables | exact st_672_all_tokens_ | exact st_672_tmpname_ | exact st_672_tokens_)
local macro_rules | `(tactic| k_caughtNB) => `(tactic| with_reducible first | exact callee_bltin | exact callee_type | exact cal_83 | exact cal_624 | exact cal_651 | exact cal_672 | exact cal_621 | exact cal_615 | exact cal_648 | exact cal_73 | exact cal_115 | exact cal_494 | exact cal_501 | exact cal_551 | exact cal_544 | exact cal_536 | exact cal_669 | exact cal_522 | exact cal_529 | exact cal_580 | exact cal_278 | exact cal_680 | exact cal_685)

local macro_rules | `(tactic| top_raise) => `(tactic| with_reducible first | exact kn_89 | exact kn_88 | exact kn_90 | exact kn_108)

variable {w : World} {mg mb : Str → Option Value} {O : OsState} {A : Around} {F F' : PH} {N : List (Addr × OD)} {G : Array GenState}
theorem sp_told {ma : Addr} {M : Mch} {text : Str} {tt : Tok} (hM : MchAt w.params F ma M) (hok : MchOk M) (hz : text.length ≤ 1000) (hA : Rm A 150) (hG : AllBare G) (R : Value → Led → Prop)
    (h : ∀ F' G' a, F.le F' → AllBare G' → ToldAt w.params (cx w mg mb O) F' a (toldM M text.cps.toList 0 0) → R (.ref a) ⟨F', N, G'⟩) : Cl (cx w mg mb O) A ⟨F, N, G⟩ (.call (.ref 680) ⟨[.ref ma, .str text tt], []⟩) (Rv R) := by
  obtain ⟨mvs, hmc, hml, hmr⟩ := hM
  refine cl_def' (binds := [("machine", .ref ma), ("text", .str text tt)]) rfl (by kernel_rfl!) (by kernel_rfl!) hA.room rfl rfl (n := 0) (by rfl) ?_
  intro L
  with_reducible refine cells0 ?_
  with_reducible refine trB_cons ?_
  ((with_reducible refine' t_storeM ?zu ?zhN ?zhl ?zhx ?zhk ?_); (case zhx => kernel_rfl!); (case zhN => top_name); (case zhl => k_caught0); (case zu => k_caught0); (case zhk => rfl))
  with_reducible refine trB_cons ?_
  ((with_reducible refine' t_storeM ?zu ?zhN ?zhl ?zhx ?zhk ?_); (case zhx => kernel_rfl!); (case zhN => top_name); (case zhl => k_caught0); (case zu => k_caught0); (case zhk => rfl))
  with_reducible refine trB_nil ?_
  with_reducible refine t_cons ?_
  refine t_AssignTupSw' (names := ["names", "table"]) rfl rfl (Rm.hd (n := 0) (by k_caughtN0)) ?_
  with_reducible refine t_Tuple ?_
  ((with_reducible refine t_args ?_ ?zhe); (case zhe => rfl))
  with_reducible refine t_List ?_
  ((with_reducible refine t_args ?_ ?zhe); (case zhe => rfl))
  ((with_reducible refine t_str ?_); (intro _))
  ((with_reducible refine t_args ?_ ?zhe); (case zhe => rfl))
  ((with_reducible refine t_str ?_); (intro _))
  ((with_reducible refine t_args ?_ ?zhe); (case zhe => rfl))
  ((with_reducible refine t_str ?_); (intro _))
  with_reducible refine t_args0 ?_
  ((with_reducible refine t_newList ?zhz ?_); (case zhz => simp [sizeLine]))
  intro _
  ((with_reducible refine t_args ?_ ?zhe); (case zhe => rfl))
  ((with_reducible refine t_Dict0 ?_); (intro _))
  with_reducible refine t_args0 ?_
  ((with_reducible refine t_newTuple ?zhz ?_); (case zhz => simp [sizeLine]))
  intro _
  ((refine' ⟨_, _, rfl, ?zk, ?zl, ?_⟩); (case zk => top_raise); (case zl => rfl))
  refine trNm_cons ?_
  ((with_reducible refine' t_storeM ?zu ?zhN ?zhl ?zhx ?zhk ?_); (case zhx => kernel_rfl!); (case zhN => top_name); (case zhl => k_caught0); (case zu => k_caught0); (case zhk => rfl))
  refine trNm_cons ?_
  ((with_reducible refine' t_storeM ?zu ?zhN ?zhl ?zhx ?zhk ?_); (case zhx => kernel_rfl!); (case zhN => top_name); (case zhl => k_caught0); (case zu => k_caught0); (case zhk => rfl))
  refine trNm_nil ?_
  with_reducible refine fl_next ?_
  with_reducible refine t_cons ?_
  ((with_reducible refine t_For ?_ ?zhs); (case zhs => exact fun _ => rfl))
  ((with_reducible refine t_Call ?_ ?zhe); (case zhe => rfl))
  ((with_reducible refine' t_bltin ?ze ?zhv ?zhn ?zhg ?zhb ?zhk ?zhx ?zhd ?_); (case zhv => top_strB); (case ze => top_argsB); (case zhn => decide +kernel); (case zhg => rfl); (case zhb => rfl); (case zhk => rfl); (case zhx => kernel_rfl!); (case zhd => decide +kernel))
  with_reducible refine t_callWithP ?_
  ((with_reducible refine t_evalArgs ?_ ?zhe); (case zhe => rfl))
  ((with_reducible refine t_args ?_ ?zhe); (case zhe => rfl))
  ((with_reducible refine' t_localM ?zhN ?zhv ?zhx ?zhk ?zhd ?_); (case zhx => kernel_rfl!); (case zhN => top_name); (case zhv => top_name); (case zhk => rfl); (case zhd => decide +kernel))
  with_reducible refine t_args0 ?_
  ((with_reducible refine cp0 ?zhc ?_); (case zhc => k_caughtNB))
  ((with_reducible refine' t_enumList ?zha ?_); (case zha => top_raise); (intro _ _))
  ((with_reducible refine' t_iterEnum ?zhe ?_); (case zhe => top_name))
  rename_i tn1 tn2 tn3 ls d tu e it
  refine cl_fix (N2 := (ls, .lst [.str "root" tn1, .str "first" tn2, .str "second" tn3]) :: (e, enumO it 0 .none) :: (it, itL ma 0) :: (d, .dic []) :: (L, .ns [("machine", .ref ma), ("text", .str text tt), ("names", .ref ls), ("table", .ref d)]) :: N) (by k_caught0) (by k_caught0) (by k_caught0) ?_
  refine cl_freeze (by k_caught0) fun F1 l1 hls => ?_
  refine cl_ind (Inv := fun k l => ∃ (i : Nat) (old : Value) (Fx : PH) (kvs : List (Str × Value)) (tb : Tbl), F1.le Fx ∧ l = ⟨Fx, (e, enumO it i old) :: (it, itL ma i) :: (d, .dic kvs) :: (L, .ns [("machine", .ref ma), ("text", .str text tt), ("names", .ref ls), ("table", .ref d)]) :: N, G⟩ ∧ i + k = M.length ∧ kvs.length = i ∧ TblSo w.params (cx w mg mb O) Fx M kvs tb) ?_ M.length _
    ⟨0, .none, F1, [], [], PH.le_refl _, rfl, by (clear hml; clear hz; omega), rfl, rfl, fun i k v e => by simp at e⟩
  rintro k l IH ⟨i, old, Fx, kvs, tb, l2, rfl, hik, hkl, htb⟩
  have hmc' := hmc.mono (PH.le_trans l1 l2)
  have hls' := hls.mono l2
  refine cl_for1 ?_
  rcases Nat.lt_or_ge i M.length with hi | hi
  · obtain ⟨rv, hrv, ra, rvs, rfl, hra, hrl, hrp⟩ := hmr i _ (List.getElem?_eq_getElem hi)
    have hrow := hok.row _ (List.getElem_mem hi)
    generalize hrw : M[i] = row at hrl hrp hrow
    have hra' := hra.mono (PH.le_trans l1 l2)
    ((with_reducible refine' t_nextEnumL ?zr1 ?zr2 ?zha ?zhv ?_); (case zr1 => k_caught0); (case zr2 => k_caught0); (case zha => top_raise); (case zhv => exact hrv); (intro _ _))
    ((with_reducible refine' t_goTupE ?zhe ?zu ?_); (case zhe => top_name); (case zu => k_caught0))
    ((with_reducible refine' t_assignTup ?zhh ?zha ?zhe ?zhn ?_); (case zhh => (refine Rm.hd (n := 0) ?_; k_caughtN0)); (case zha => top_raise); (case zhe => rfl); (case zhn => rfl))
    with_reducible refine trA_cons ?_
    with_reducible refine t_assignName ?_
    ((with_reducible refine' t_storeM ?zu ?zhN ?zhl ?zhx ?zhk ?_); (case zhx => kernel_rfl!); (case zhN => top_name); (case zhl => k_caught0); (case zu => k_caught0); (case zhk => rfl))
    with_reducible refine trA_cons ?_
    with_reducible refine t_assignName ?_
    ((with_reducible refine' t_storeM ?zu ?zhN ?zhl ?zhx ?zhk ?_); (case zhx => kernel_rfl!); (case zhN => top_name); (case zhl => k_caught0); (case zu => k_caught0); (case zhk => rfl))
    with_reducible refine trA_nil ?_
    with_reducible refine t_cons ?_
    ((with_reducible refine t_AssignName ?_ ?zhs); (case zhs => rfl))
    with_reducible refine t_List ?_
    with_reducible refine t_args0 ?_
    ((with_reducible refine t_newList ?zhz ?_); (case zhz => simp [sizeLine]))
    intro _
    ((with_reducible refine' t_storeM ?zu ?zhN ?zhl ?zhx ?zhk ?_); (case zhx => kernel_rfl!); (case zhN => top_name); (case zhl => k_caught0); (case zu => k_caught0); (case zhk => rfl))
    with_reducible refine fl_next ?_
    with_reducible refine t_cons ?_
    ((with_reducible refine t_For ?_ ?zhs); (case zhs => exact fun _ => rfl))
    ((with_reducible refine t_Call ?_ ?zhe); (case zhe => rfl))
    ((with_reducible refine' t_bltin ?ze ?zhv ?zhn ?zhg ?zhb ?zhk ?zhx ?zhd ?_); (case zhv => top_strB); (case ze => top_argsB); (case zhn => decide +kernel); (case zhg => rfl); (case zhb => rfl); (case zhk => rfl); (case zhx => kernel_rfl!); (case zhd => decide +kernel))
    with_reducible refine t_callWithP ?_
    ((with_reducible refine t_evalArgs ?_ ?zhe); (case zhe => rfl))
    ((with_reducible refine t_args ?_ ?zhe); (case zhe => rfl))
    ((with_reducible refine t_str ?_); (intro _))
    ((with_reducible refine t_args ?_ ?zhe); (case zhe => rfl))
    ((with_reducible refine' t_localM ?zhN ?zhv ?zhx ?zhk ?zhd ?_); (case zhx => kernel_rfl!); (case zhN => top_name); (case zhv => top_name); (case zhk => rfl); (case zhd => decide +kernel))
    with_reducible refine t_args0 ?_
    ((with_reducible refine cp0 ?zhc ?_); (case zhc => k_caughtNB))
    ((with_reducible refine' t_zipS ?zhb ?_); (case zhb => top_raise); (intro _ _ _ _ _))
    ((with_reducible refine' t_iterZip ?zhz ?_); (case zhz => top_name))
    rename_i tu2 tk0 rl txy z TO TI i2 i1
    refine cl_fix (N2 := (z, zipO TI TO) :: (TO, pairO .none .none) :: (TI, pairO (.ref i1) (.ref i2)) :: (i2, itL ra 0) :: (i1, itS "xy" txy 0) :: (rl, .lst []) :: (L, .ns [("machine", .ref ma), ("text", .str text tt), ("names", .ref ls), ("table", .ref d), ("state", .int (i : Int) tk0), ("row", .ref ra), ("rules", .ref rl)]) :: (e, enumO it (i + 1) (.ref ra)) :: (it, itL ma (i + 1)) :: (d, .dic kvs) :: N) (by k_caught0) (by k_caught0) (by k_caught0) ?_
    refine cl_ind (Inv := fun k l => ∃ (j : Nat) (Fy : PH) (vs : List Value) (rs : List RuleE) (a b : Value), Fx.le Fy ∧ l = ⟨Fy, (z, zipO TI TO) :: (TO, pairO a b) :: (TI, pairO (.ref i1) (.ref i2)) :: (i2, itL ra j) :: (i1, itS "xy" txy j) :: (rl, .lst vs) :: (L, .ns [("machine", .ref ma), ("text", .str text tt), ("names", .ref ls), ("table", .ref d), ("state", .int (i : Int) tk0), ("row", .ref ra), ("rules", .ref rl)]) :: (e, enumO it (i + 1) (.ref ra)) :: (it, itL ma (i + 1)) :: (d, .dic kvs) :: N, G⟩ ∧ j + k = 2 ∧ SRules w.params Fy (KV M.length) vs rs ∧ RowSo (cx w mg mb O) Fy i row rs ∧ rs.length = j) ?_ 2 _
      ⟨0, Fx, [], [], .none, .none, PH.le_refl _, rfl, rfl, .nil, fun j r e => by simp at e, rfl⟩
    rintro k2 l IH2 ⟨j, Fy, vs, rs, a, b, l3, rfl, hjk, hvs, hrs, hjl⟩
    refine cl_for1 ?_
    rcases Nat.lt_or_ge j 2 with hj | hj
    · obtain ⟨p, hp⟩ : ∃ p, row[j]? = some p := ⟨_, List.getElem?_eq_getElem (by rw [hrow.1]; exact hj)⟩
      obtain ⟨v, hv, pa, pt1, pt2, rfl, hpa⟩ := hrp j p hp
      have hpok := hrow.2 p (List.mem_of_getElem? hp)
      have hpa' := hpa.mono (PH.le_trans (PH.le_trans l1 l2) l3)
      have hls2 := hls'.mono l3
      refine t_nextZipSL (c := 120 + j) (Rm.hd (n := 0) (by k_caughtN0)) (hra'.mono l3) (xy_at hj) hv fun zt tu3 => ?_
      ((with_reducible refine' t_goTupZ ?zhz ?zu ?_); (case zhz => top_name); (case zu => k_caught0))
      ((with_reducible refine' t_assignTup ?zhh ?zha ?zhe ?zhn ?_); (case zhh => (refine Rm.hd (n := 0) ?_; k_caughtN0)); (case zha => top_raise); (case zhe => rfl); (case zhn => rfl))
      with_reducible refine trA_cons ?_
      with_reducible refine t_assignName ?_
      ((with_reducible refine' t_storeM ?zu ?zhN ?zhl ?zhx ?zhk ?_); (case zhx => kernel_rfl!); (case zhN => top_name); (case zhl => k_caught0); (case zu => k_caught0); (case zhk => rfl))
      with_reducible refine trA_cons ?_
      ((with_reducible refine' t_assignTup ?zhh ?zha ?zhe ?zhn ?_); (case zhh => (refine Rm.hd (n := 0) ?_; k_caughtN0)); (case zha => top_raise); (case zhe => rfl); (case zhn => rfl))
      with_reducible refine trA_cons ?_
      with_reducible refine t_assignName ?_
      ((with_reducible refine' t_storeM ?zu ?zhN ?zhl ?zhx ?zhk ?_); (case zhx => kernel_rfl!); (case zhN => top_name); (case zhl => k_caught0); (case zu => k_caught0); (case zhk => rfl))
      with_reducible refine trA_cons ?_
      with_reducible refine t_assignName ?_
      ((with_reducible refine' t_storeM ?zu ?zhN ?zhl ?zhx ?zhk ?_); (case zhx => kernel_rfl!); (case zhN => top_name); (case zhl => k_caught0); (case zu => k_caught0); (case zhk => rfl))
      with_reducible refine trA_nil ?_
      with_reducible refine trA_nil ?_
      with_reducible refine t_cons ?_
      ((with_reducible refine t_AssignName ?_ ?zhs); (case zhs => rfl))
      with_reducible refine t_Tuple ?_
      ((with_reducible refine t_args ?_ ?zhe); (case zhe => rfl))
      ((with_reducible refine t_Call ?_ ?zhe); (case zhe => rfl))
      ((with_reducible refine' t_glob ?ze ?zhg ?zhk ?zhx ?zhd ?_); (case ze => top_raise0); (case zhg => rfl); (case zhk => rfl); (case zhx => kernel_rfl!); (case zhd => decide +kernel))
      with_reducible refine t_callWithP ?_
      ((with_reducible refine t_evalArgs ?_ ?zhe); (case zhe => rfl))
      ((with_reducible refine t_args ?_ ?zhe); (case zhe => rfl))
      with_reducible refine t_List ?_
      ((with_reducible refine t_args ?_ ?zhe); (case zhe => rfl))
      with_reducible refine t_List ?_
      ((with_reducible refine t_args ?_ ?zhe); (case zhe => rfl))
      ((with_reducible refine' t_localM ?zhN ?zhv ?zhx ?zhk ?zhd ?_); (case zhx => kernel_rfl!); (case zhN => top_name); (case zhv => top_name); (case zhk => rfl); (case zhd => decide +kernel))
      with_reducible refine t_args0 ?_
      ((with_reducible refine t_newList ?zhz ?_); (case zhz => simp [sizeLine]))
      intro _
      with_reducible refine t_args0 ?_
      ((with_reducible refine t_newList ?zhz ?_); (case zhz => simp [sizeLine]))
      intro _
      with_reducible refine t_args0 ?_
      ((with_reducible refine cp0 ?zhc ?_); (case zhc => k_caughtNB))
      ((with_reducible refine' t_make (fI := 642) ?zhm ?zhi ?zhf ?_); (case zhm => top_reprB); (case zhi => top_reprB); (case zhf => top_reprB); (intro _ _); (with_reducible refine' sp_Pinit _ _ _ ?zhA _ ?_); (case zhA => k_caughtN0); (refine And.intro rfl ?_))
      ((with_reducible refine t_args ?_ ?zhe); (case zhe => rfl))
      ((with_reducible refine t_Call ?_ ?zhe); (case zhe => rfl))
      ((with_reducible refine' t_glob ?ze ?zhg ?zhk ?zhx ?zhd ?_); (case ze => top_raise0); (case zhg => rfl); (case zhk => rfl); (case zhx => kernel_rfl!); (case zhd => decide +kernel))
      with_reducible refine t_callWithP ?_
      ((with_reducible refine t_evalArgs ?_ ?zhe); (case zhe => rfl))
      ((with_reducible refine t_args ?_ ?zhe); (case zhe => rfl))
      with_reducible refine t_Bin ?_
      ((with_reducible refine t_str ?_); (intro _))
      with_reducible refine t_Sub ?_
      ((with_reducible refine t_str ?_); (intro _))
      ((with_reducible refine' t_localM ?zhN ?zhv ?zhx ?zhk ?zhd ?_); (case zhx => kernel_rfl!); (case zhN => top_name); (case zhv => top_name); (case zhk => rfl); (case zhd => decide +kernel))
      ((with_reducible refine' t_subStr ?zhs ?_); (case zhs => rfl))
      obtain ⟨y1, y2, y3, y4, y5⟩ := ty_sp hpok.2
      refine t_itemStr (c := 97 + p.2) (by with_reducible exact Int.natCast_nonneg _) (by (clear y4; clear y2; clear hj; clear hjl; clear hjk; clear hrow; clear hrl; clear hkl; clear hik; clear hml; clear hz; omega)) (ab_at hpok.2) fun tl => ?_
      skip
      refine ts_add (Nat.le_of_ble_eq_true rfl) fun tq => ?_
      with_reducible refine t_args0 ?_
      ((with_reducible refine cp0 ?zhc ?_); (case zhc => k_caughtNB))
      refine tr_call (sp_stt1 (p := tyS p.2) (c := 84) y1 (by rw [y2]; decide) (by rw [y2]; decide) y3 (by decide +kernel) (by rw [y4]; decide) y5 (by k_caughtN0) _ fun ty dty nty tn => ?_)
      with_reducible refine t_args0 ?_
      ((with_reducible refine t_newTuple ?zhz ?_); (case zhz => simp [sizeLine]))
      intro _
      ((with_reducible refine' t_storeM ?zu ?zhN ?zhl ?zhx ?zhk ?_); (case zhx => kernel_rfl!); (case zhN => top_name); (case zhl => k_caught0); (case zu => k_caught0); (case zhk => rfl))
      with_reducible refine fl_next ?_
      with_reducible refine t_cons ?_
      with_reducible refine t_If ?_
      with_reducible refine t_isAnd ?_
      ((with_reducible refine t_isCmp ?_ ?zhb); (case zhb => rfl))
      ((with_reducible refine' t_localM ?zhN ?zhv ?zhx ?zhk ?zhd ?_); (case zhx => kernel_rfl!); (case zhN => top_name); (case zhv => top_name); (case zhk => rfl); (case zhd => decide +kernel))
      ((with_reducible refine t_int ?_); (intro _))
      with_reducible refine tc_eqI ?_
      with_reducible refine tt_bool ?_
      rename_i r1 rw px pd u1 u2 ru u3
      have hvl := hvs.len
      refine if_b (fun hb => ?_) (fun hb => ?_)
      · have hi0 : i = 0 := by have := beq_iff_eq.mp hb; (clear hvl; clear y4; clear y2; clear hpok; clear hj; clear hjl; clear hjk; clear hrow; clear hrl; clear hkl; clear hik; clear hml; clear hz; omega)
        with_reducible refine t_isAnd ?_
        ((with_reducible refine t_isCmp ?_ ?zhb); (case zhb => rfl))
        ((with_reducible refine' t_localM ?zhN ?zhv ?zhx ?zhk ?zhd ?_); (case zhx => kernel_rfl!); (case zhN => top_name); (case zhv => top_name); (case zhk => rfl); (case zhd => decide +kernel))
        ((with_reducible refine t_int ?_); (intro _))
        with_reducible refine tc_gtI ?_
        with_reducible refine tt_bool ?_
        refine if_b (fun hb2 => ?_) (fun hb2 => ?_)
        · have ho : 0 < p.1 := by have := of_decide_eq_true hb2; (clear hi0; clear hvl; clear y4; clear y2; clear hpok; clear hj; clear hjl; clear hjk; clear hrow; clear hrl; clear hkl; clear hik; clear hml; clear hz; omega)
          obtain ⟨tm, htm⟩ := nm_at (t1 := tn1) (t2 := tn2) (t3 := tn3) (i := p.1) (by have := hpok.1; have := hok.len; (clear ho; clear hi0; clear hvl; clear y4; clear y2; clear hpok; clear hj; clear hjl; clear hjk; clear hrow; clear hrl; clear hkl; clear hik; clear hml; clear hz; omega))
          with_reducible refine t_isAnd0 ?_
          with_reducible refine if_t ?_
          with_reducible refine t_cons ?_
          ((with_reducible refine t_AssignName ?_ ?zhs); (case zhs => rfl))
          with_reducible refine t_Bin ?_
          ((with_reducible refine' t_localM ?zhN ?zhv ?zhx ?zhk ?zhd ?_); (case zhx => kernel_rfl!); (case zhN => top_name); (case zhv => top_name); (case zhk => rfl); (case zhd => decide +kernel))
          with_reducible refine t_Tuple ?_
          ((with_reducible refine t_args ?_ ?zhe); (case zhe => rfl))
          with_reducible refine t_Sub ?_
          ((with_reducible refine' t_localM ?zhN ?zhv ?zhx ?zhk ?zhd ?_); (case zhx => kernel_rfl!); (case zhN => top_name); (case zhv => top_name); (case zhk => rfl); (case zhd => decide +kernel))
          ((with_reducible refine' t_localM ?zhN ?zhv ?zhx ?zhk ?zhd ?_); (case zhx => kernel_rfl!); (case zhN => top_name); (case zhv => top_name); (case zhk => rfl); (case zhd => decide +kernel))
          ((with_reducible refine' t_subList ?zha ?zhs ?_); (case zha => top_raise); (case zhs => rfl))
          refine t_itemList (by top_raise) (by with_reducible exact Int.natCast_nonneg _) (by have := hok.len; (clear ho; clear hi0; clear hvl; clear y4; clear y2; clear hj; clear hjl; clear hjk; clear hrow; clear hrl; clear hkl; clear hik; clear hml; clear hz; omega)) htm ?_
          with_reducible refine t_args0 ?_
          ((with_reducible refine t_newTuple ?zhz ?_); (case zhz => simp [sizeLine]))
          intro _
          ((with_reducible refine' t_addT ?zha ?zhb ?zhz ?_); (case zha => top_raise); (case zhb => top_raise); (case zhz => (first | decide | (simp; done) | (simp; omega))); (intro _))
          ((with_reducible refine' t_storeM ?zu ?zhN ?zhl ?zhx ?zhk ?_); (case zhx => kernel_rfl!); (case zhN => top_name); (case zhl => k_caught0); (case zu => k_caught0); (case zhk => rfl))
          with_reducible refine fl_next ?_
          with_reducible refine t_nil ?_
          with_reducible refine fl_next ?_
          with_reducible refine t_cons ?_
          ((with_reducible refine t_ExprSt ?_ ?zhi ?zhs); (case zhi => rfl); (case zhs => rfl))
          ((with_reducible refine' t_MCall ?_ ?zhe); (case zhe => rfl))
          ((with_reducible refine' t_localM ?zhN ?zhv ?zhx ?zhk ?zhd ?_); (case zhx => kernel_rfl!); (case zhN => top_name); (case zhv => top_name); (case zhk => rfl); (case zhd => decide +kernel))
          ((with_reducible refine' ml_append ?zha ?_); (case zha => top_raise))
          with_reducible refine mc ?_
          with_reducible refine t_callWithP ?_
          ((with_reducible refine t_evalArgs ?_ ?zhe); (case zhe => rfl))
          ((with_reducible refine t_args ?_ ?zhe); (case zhe => rfl))
          ((with_reducible refine' t_localM ?zhN ?zhv ?zhx ?zhk ?zhd ?_); (case zhx => kernel_rfl!); (case zhN => top_name); (case zhv => top_name); (case zhk => rfl); (case zhd => decide +kernel))
          with_reducible refine t_args0 ?_
          ((with_reducible refine cp1 ?zhc ?_); (case zhc => k_caughtNB))
          ((with_reducible refine' t_append ?zha ?zu ?zhz ?_); (case zha => top_name); (case zu => k_caught0); (case zhz => (unfold sizeLine; (clear ho; clear hi0; clear y4; clear y2; clear hpok; clear hj; clear hrow; clear hrl; clear hkl; clear hik; clear hml; clear hz; omega))))
          with_reducible refine fl_next ?_
          with_reducible refine t_nil ?_
          with_reducible refine tu_next ?_
          rename_i _ rc
          refine cl_fix (N2 := (rc, .tup ([.ref px, .ref ty] ++ [.str (nmS p.1) tm])) :: (ty, .inst 83 dty) :: (dty, .fld [("names", .ref nty)]) :: (nty, .tup [.str (tyS p.2) tn]) :: (px, .inst 651 pd) :: (pd, .fld [("rows", .ref rw)]) :: (rw, .lst [.ref r1]) :: (r1, .lst [.str ⟨#[120 + j]⟩ tu3]) :: (z, zipO TI TO) :: (TO, pairO (.str ⟨#[120 + j]⟩ tu3) (.ref pa)) :: (TI, pairO (.ref i1) (.ref i2)) :: (i2, itL ra (j + 1)) :: (i1, itS "xy" txy (j + 1)) :: (rl, .lst (vs ++ [.ref rc])) :: (L, .ns [("machine", .ref ma), ("text", .str text tt), ("names", .ref ls), ("table", .ref d), ("state", .int (i : Int) tk0), ("row", .ref ra), ("rules", .ref rl)]) :: (e, enumO it (i + 1) (.ref ra)) :: (it, itL ma (i + 1)) :: (d, .dic kvs) :: N) (by k_caught0) (by k_caught0) (by k_caught0) ?_
          refine cl_freezeL (rows := (rc, .tup ([.ref px, .ref ty] ++ [.str (nmS p.1) tm])) :: (ty, .inst 83 dty) :: (dty, .fld [("names", .ref nty)]) :: (nty, .tup [.str (tyS p.2) tn]) :: (px, .inst 651 pd) :: (pd, .fld [("rows", .ref rw)]) :: (rw, .lst [.ref r1]) :: (r1, .lst [.str ⟨#[120 + j]⟩ tu3]) :: []) fun F2 l4 hF => ?_
          obtain ⟨q1, q2, q3⟩ := rule_ok (act := .go [nmS p.1]) l4 hvs hrs hjl hp (hF _ (.head _)) (hF _ (.tail _ (.head _))) (hF _ (.tail _ (.tail _ (.head _)))) (hF _ (.tail _ (.tail _ (.tail _ (.head _))))) (hF _ (.tail _ (.tail _ (.tail _ (.tail _ (.head _)))))) (hF _ (.tail _ (.tail _ (.tail _ (.tail _ (.tail _ (.head _))))))) (hF _ (.tail _ (.tail _ (.tail _ (.tail _ (.tail _ (.tail _ (.head _)))))))) (hF _ (.tail _ (.tail _ (.tail _ (.tail _ (.tail _ (.tail _ (.tail _ (.head _))))))))) (rest := [.str (nmS p.1) tm]) ⟨_, rfl, .inr ⟨_, tm, rfl, rfl, (kv_key hok.len hpok.1).2, (kv_key hok.len hpok.1).1⟩⟩ (by unfold actS; rw [if_pos hi0, if_neg (by (clear hi0; clear hvl; clear y4; clear y2; clear hpok; clear hj; clear hjl; clear hjk; clear hrow; clear hrl; clear hkl; clear hik; clear hml; clear hz; omega))])
          exact IH2 (2 - (j + 1)) (by (clear q3; clear ho; clear hi0; clear hvl; clear y4; clear y2; clear hpok; clear hjl; clear hrow; clear hrl; clear hkl; clear hik; clear hml; clear hz; omega)) _ ⟨j + 1, F2, _, _, _, _, PH.le_trans l3 l4, rfl, by (clear q3; clear ho; clear hi0; clear hvl; clear y4; clear y2; clear hpok; clear hjl; clear hjk; clear hrow; clear hrl; clear hkl; clear hik; clear hml; clear hz; omega), q1, q2, q3⟩
        · have ho : p.1 = 0 := by have := of_decide_eq_false hb2; (clear hi0; clear hvl; clear y4; clear y2; clear hpok; clear hj; clear hjl; clear hjk; clear hrow; clear hrl; clear hkl; clear hik; clear hml; clear hz; omega)
          with_reducible refine if_f ?_
          with_reducible refine t_cons ?_
          with_reducible refine t_If ?_
          ((with_reducible refine t_isCmp ?_ ?zhb); (case zhb => rfl))
          ((with_reducible refine' t_localM ?zhN ?zhv ?zhx ?zhk ?zhd ?_); (case zhx => kernel_rfl!); (case zhN => top_name); (case zhv => top_name); (case zhk => rfl); (case zhd => decide +kernel))
          ((with_reducible refine t_int ?_); (intro _))
          with_reducible refine tc_gtI ?_
          with_reducible refine tt_bool ?_
          refine if_F (decide_eq_false (by (clear ho; clear hvl; clear y4; clear y2; clear hpok; clear hj; clear hjl; clear hjk; clear hrow; clear hrl; clear hkl; clear hik; clear hml; clear hz; omega))) ?_
          with_reducible refine t_nil ?_
          with_reducible refine fl_next ?_
          with_reducible refine t_nil ?_
          with_reducible refine fl_next ?_
          with_reducible refine t_cons ?_
          ((with_reducible refine t_ExprSt ?_ ?zhi ?zhs); (case zhi => rfl); (case zhs => rfl))
          ((with_reducible refine' t_MCall ?_ ?zhe); (case zhe => rfl))
          ((with_reducible refine' t_localM ?zhN ?zhv ?zhx ?zhk ?zhd ?_); (case zhx => kernel_rfl!); (case zhN => top_name); (case zhv => top_name); (case zhk => rfl); (case zhd => decide +kernel))
          ((with_reducible refine' ml_append ?zha ?_); (case zha => top_raise))
          with_reducible refine mc ?_
          with_reducible refine t_callWithP ?_
          ((with_reducible refine t_evalArgs ?_ ?zhe); (case zhe => rfl))
          ((with_reducible refine t_args ?_ ?zhe); (case zhe => rfl))
          ((with_reducible refine' t_localM ?zhN ?zhv ?zhx ?zhk ?zhd ?_); (case zhx => kernel_rfl!); (case zhN => top_name); (case zhv => top_name); (case zhk => rfl); (case zhd => decide +kernel))
          with_reducible refine t_args0 ?_
          ((with_reducible refine cp1 ?zhc ?_); (case zhc => k_caughtNB))
          ((with_reducible refine' t_append ?zha ?zu ?zhz ?_); (case zha => top_name); (case zu => k_caught0); (case zhz => (unfold sizeLine; (clear ho; clear hi0; clear y4; clear y2; clear hpok; clear hj; clear hrow; clear hrl; clear hkl; clear hik; clear hml; clear hz; omega))))
          with_reducible refine fl_next ?_
          with_reducible refine t_nil ?_
          with_reducible refine tu_next ?_
          refine cl_fix (N2 := (ru, .tup [.ref px, .ref ty]) :: (ty, .inst 83 dty) :: (dty, .fld [("names", .ref nty)]) :: (nty, .tup [.str (tyS p.2) tn]) :: (px, .inst 651 pd) :: (pd, .fld [("rows", .ref rw)]) :: (rw, .lst [.ref r1]) :: (r1, .lst [.str ⟨#[120 + j]⟩ tu3]) :: (z, zipO TI TO) :: (TO, pairO (.str ⟨#[120 + j]⟩ tu3) (.ref pa)) :: (TI, pairO (.ref i1) (.ref i2)) :: (i2, itL ra (j + 1)) :: (i1, itS "xy" txy (j + 1)) :: (rl, .lst (vs ++ [.ref ru])) :: (L, .ns [("machine", .ref ma), ("text", .str text tt), ("names", .ref ls), ("table", .ref d), ("state", .int (i : Int) tk0), ("row", .ref ra), ("rules", .ref rl)]) :: (e, enumO it (i + 1) (.ref ra)) :: (it, itL ma (i + 1)) :: (d, .dic kvs) :: N) (by k_caught0) (by k_caught0) (by k_caught0) ?_
          refine cl_freezeL (rows := (ru, .tup [.ref px, .ref ty]) :: (ty, .inst 83 dty) :: (dty, .fld [("names", .ref nty)]) :: (nty, .tup [.str (tyS p.2) tn]) :: (px, .inst 651 pd) :: (pd, .fld [("rows", .ref rw)]) :: (rw, .lst [.ref r1]) :: (r1, .lst [.str ⟨#[120 + j]⟩ tu3]) :: []) fun F2 l4 hF => ?_
          obtain ⟨q1, q2, q3⟩ := rule_ok (act := .stay) l4 hvs hrs hjl hp (hF _ (.head _)) (hF _ (.tail _ (.head _))) (hF _ (.tail _ (.tail _ (.head _)))) (hF _ (.tail _ (.tail _ (.tail _ (.head _))))) (hF _ (.tail _ (.tail _ (.tail _ (.tail _ (.head _)))))) (hF _ (.tail _ (.tail _ (.tail _ (.tail _ (.tail _ (.head _))))))) (hF _ (.tail _ (.tail _ (.tail _ (.tail _ (.tail _ (.tail _ (.head _)))))))) (hF _ (.tail _ (.tail _ (.tail _ (.tail _ (.tail _ (.tail _ (.tail _ (.head _))))))))) (rest := []) rfl (by unfold actS; rw [if_pos hi0, if_pos ho])
          exact IH2 (2 - (j + 1)) (by (clear q3; clear ho; clear hi0; clear hvl; clear y4; clear y2; clear hpok; clear hjl; clear hrow; clear hrl; clear hkl; clear hik; clear hml; clear hz; omega)) _ ⟨j + 1, F2, _, _, _, _, PH.le_trans l3 l4, rfl, by (clear q3; clear ho; clear hi0; clear hvl; clear y4; clear y2; clear hpok; clear hjl; clear hjk; clear hrow; clear hrl; clear hkl; clear hik; clear hml; clear hz; omega), q1, q2, q3⟩
      · have hi0 : i ≠ 0 := by have := beq_eq_false_iff_ne.mp hb; (clear hvl; clear y4; clear y2; clear hpok; clear hj; clear hjl; clear hjk; clear hrow; clear hrl; clear hkl; clear hik; clear hml; clear hz; omega)
        with_reducible refine if_f ?_
        with_reducible refine t_cons ?_
        with_reducible refine t_If ?_
        ((with_reducible refine t_isCmp ?_ ?zhb); (case zhb => rfl))
        ((with_reducible refine' t_localM ?zhN ?zhv ?zhx ?zhk ?zhd ?_); (case zhx => kernel_rfl!); (case zhN => top_name); (case zhv => top_name); (case zhk => rfl); (case zhd => decide +kernel))
        ((with_reducible refine t_int ?_); (intro _))
        with_reducible refine tc_gtI ?_
        with_reducible refine tt_bool ?_
        refine if_T (decide_eq_true (by (clear hvl; clear y4; clear y2; clear hpok; clear hj; clear hjl; clear hjk; clear hrow; clear hrl; clear hkl; clear hik; clear hml; clear hz; omega))) ?_
        with_reducible refine t_cons ?_
        ((with_reducible refine t_AssignName ?_ ?zhs); (case zhs => rfl))
        with_reducible refine t_Bin ?_
        ((with_reducible refine' t_localM ?zhN ?zhv ?zhx ?zhk ?zhd ?_); (case zhx => kernel_rfl!); (case zhN => top_name); (case zhv => top_name); (case zhk => rfl); (case zhd => decide +kernel))
        with_reducible refine t_Tuple ?_
        ((with_reducible refine t_args ?_ ?zhe); (case zhe => rfl))
        with_reducible refine t_IfExp ?_
        ((with_reducible refine t_isCmp ?_ ?zhb); (case zhb => rfl))
        ((with_reducible refine' t_localM ?zhN ?zhv ?zhx ?zhk ?zhd ?_); (case zhx => kernel_rfl!); (case zhN => top_name); (case zhv => top_name); (case zhk => rfl); (case zhd => decide +kernel))
        ((with_reducible refine t_int ?_); (intro _))
        with_reducible refine tc_gtI ?_
        with_reducible refine tt_bool ?_
        refine if_b (fun hb2 => ?_) (fun hb2 => ?_)
        · have ho : 0 < p.1 := by have := of_decide_eq_true hb2; (clear hi0; clear hvl; clear y4; clear y2; clear hpok; clear hj; clear hjl; clear hjk; clear hrow; clear hrl; clear hkl; clear hik; clear hml; clear hz; omega)
          obtain ⟨tm, htm⟩ := nm_at (t1 := tn1) (t2 := tn2) (t3 := tn3) (i := p.1) (by have := hpok.1; have := hok.len; (clear ho; clear hi0; clear hvl; clear y4; clear y2; clear hpok; clear hj; clear hjl; clear hjk; clear hrow; clear hrl; clear hkl; clear hik; clear hml; clear hz; omega))
          with_reducible refine t_Tuple ?_
          ((with_reducible refine t_args ?_ ?zhe); (case zhe => rfl))
          ((with_reducible refine t_str ?_); (intro _))
          ((with_reducible refine t_args ?_ ?zhe); (case zhe => rfl))
          with_reducible refine t_Sub ?_
          ((with_reducible refine' t_localM ?zhN ?zhv ?zhx ?zhk ?zhd ?_); (case zhx => kernel_rfl!); (case zhN => top_name); (case zhv => top_name); (case zhk => rfl); (case zhd => decide +kernel))
          ((with_reducible refine' t_localM ?zhN ?zhv ?zhx ?zhk ?zhd ?_); (case zhx => kernel_rfl!); (case zhN => top_name); (case zhv => top_name); (case zhk => rfl); (case zhd => decide +kernel))
          ((with_reducible refine' t_subList ?zha ?zhs ?_); (case zha => top_raise); (case zhs => rfl))
          refine t_itemList (by top_raise) (by with_reducible exact Int.natCast_nonneg _) (by have := hok.len; (clear ho; clear hi0; clear hvl; clear y4; clear y2; clear hj; clear hjl; clear hjk; clear hrow; clear hrl; clear hkl; clear hik; clear hml; clear hz; omega)) htm ?_
          with_reducible refine t_args0 ?_
          ((with_reducible refine t_newTuple ?zhz ?_); (case zhz => simp [sizeLine]))
          intro _
          with_reducible refine t_args0 ?_
          ((with_reducible refine t_newTuple ?zhz ?_); (case zhz => simp [sizeLine]))
          intro _
          ((with_reducible refine' t_addT ?zha ?zhb ?zhz ?_); (case zha => top_raise); (case zhb => top_raise); (case zhz => (first | decide | (simp; done) | (simp; omega))); (intro _))
          ((with_reducible refine' t_storeM ?zu ?zhN ?zhl ?zhx ?zhk ?_); (case zhx => kernel_rfl!); (case zhN => top_name); (case zhl => k_caught0); (case zu => k_caught0); (case zhk => rfl))
          with_reducible refine fl_next ?_
          with_reducible refine t_nil ?_
          with_reducible refine fl_next ?_
          with_reducible refine t_nil ?_
          with_reducible refine fl_next ?_
          with_reducible refine t_cons ?_
          ((with_reducible refine t_ExprSt ?_ ?zhi ?zhs); (case zhi => rfl); (case zhs => rfl))
          ((with_reducible refine' t_MCall ?_ ?zhe); (case zhe => rfl))
          ((with_reducible refine' t_localM ?zhN ?zhv ?zhx ?zhk ?zhd ?_); (case zhx => kernel_rfl!); (case zhN => top_name); (case zhv => top_name); (case zhk => rfl); (case zhd => decide +kernel))
          ((with_reducible refine' ml_append ?zha ?_); (case zha => top_raise))
          with_reducible refine mc ?_
          with_reducible refine t_callWithP ?_
          ((with_reducible refine t_evalArgs ?_ ?zhe); (case zhe => rfl))
          ((with_reducible refine t_args ?_ ?zhe); (case zhe => rfl))
          ((with_reducible refine' t_localM ?zhN ?zhv ?zhx ?zhk ?zhd ?_); (case zhx => kernel_rfl!); (case zhN => top_name); (case zhv => top_name); (case zhk => rfl); (case zhd => decide +kernel))
          with_reducible refine t_args0 ?_
          ((with_reducible refine cp1 ?zhc ?_); (case zhc => k_caughtNB))
          ((with_reducible refine' t_append ?zha ?zu ?zhz ?_); (case zha => top_name); (case zu => k_caught0); (case zhz => (unfold sizeLine; (clear ho; clear hi0; clear y4; clear y2; clear hpok; clear hj; clear hrow; clear hrl; clear hkl; clear hik; clear hml; clear hz; omega))))
          with_reducible refine fl_next ?_
          with_reducible refine t_nil ?_
          with_reducible refine tu_next ?_
          rename_i tpop tp _ rc
          refine cl_fix (N2 := (rc, .tup ([.ref px, .ref ty] ++ [.ref tp])) :: (ty, .inst 83 dty) :: (dty, .fld [("names", .ref nty)]) :: (nty, .tup [.str (tyS p.2) tn]) :: (px, .inst 651 pd) :: (pd, .fld [("rows", .ref rw)]) :: (rw, .lst [.ref r1]) :: (r1, .lst [.str ⟨#[120 + j]⟩ tu3]) :: (tp, .tup [.str "#pop" tpop, .str (nmS p.1) tm]) :: (z, zipO TI TO) :: (TO, pairO (.str ⟨#[120 + j]⟩ tu3) (.ref pa)) :: (TI, pairO (.ref i1) (.ref i2)) :: (i2, itL ra (j + 1)) :: (i1, itS "xy" txy (j + 1)) :: (rl, .lst (vs ++ [.ref rc])) :: (L, .ns [("machine", .ref ma), ("text", .str text tt), ("names", .ref ls), ("table", .ref d), ("state", .int (i : Int) tk0), ("row", .ref ra), ("rules", .ref rl)]) :: (e, enumO it (i + 1) (.ref ra)) :: (it, itL ma (i + 1)) :: (d, .dic kvs) :: N) (by k_caught0) (by k_caught0) (by k_caught0) ?_
          refine cl_freezeL (rows := (rc, .tup ([.ref px, .ref ty] ++ [.ref tp])) :: (ty, .inst 83 dty) :: (dty, .fld [("names", .ref nty)]) :: (nty, .tup [.str (tyS p.2) tn]) :: (px, .inst 651 pd) :: (pd, .fld [("rows", .ref rw)]) :: (rw, .lst [.ref r1]) :: (r1, .lst [.str ⟨#[120 + j]⟩ tu3]) :: (tp, .tup [.str "#pop" tpop, .str (nmS p.1) tm]) :: []) fun F2 l4 hF => ?_
          obtain ⟨q1, q2, q3⟩ := rule_ok (act := .go ["#pop", nmS p.1]) l4 hvs hrs hjl hp (hF _ (.head _)) (hF _ (.tail _ (.head _))) (hF _ (.tail _ (.tail _ (.head _)))) (hF _ (.tail _ (.tail _ (.tail _ (.head _))))) (hF _ (.tail _ (.tail _ (.tail _ (.tail _ (.head _)))))) (hF _ (.tail _ (.tail _ (.tail _ (.tail _ (.tail _ (.head _))))))) (hF _ (.tail _ (.tail _ (.tail _ (.tail _ (.tail _ (.tail _ (.head _)))))))) (hF _ (.tail _ (.tail _ (.tail _ (.tail _ (.tail _ (.tail _ (.tail _ (.head _))))))))) (rest := [.ref tp]) ⟨_, rfl, .inl ⟨tp, _, rfl, hF (tp, .tup [.str "#pop" tpop, .str (nmS p.1) tm]) (by simp), .cons (.cons .nil), by simp, fun x hx => (List.mem_cons.mp hx).elim (fun e => .inl e) fun hx => .inr (by rw [List.mem_singleton.mp hx]; exact (kv_key hok.len hpok.1).1)⟩⟩ (by unfold actS; rw [if_neg hi0, if_neg (by (clear hi0; clear hvl; clear y4; clear y2; clear hpok; clear hj; clear hjl; clear hjk; clear hrow; clear hrl; clear hkl; clear hik; clear hml; clear hz; omega))])
          exact IH2 (2 - (j + 1)) (by (clear q3; clear ho; clear hi0; clear hvl; clear y4; clear y2; clear hpok; clear hjl; clear hrow; clear hrl; clear hkl; clear hik; clear hml; clear hz; omega)) _ ⟨j + 1, F2, _, _, _, _, PH.le_trans l3 l4, rfl, by (clear q3; clear ho; clear hi0; clear hvl; clear y4; clear y2; clear hpok; clear hjl; clear hjk; clear hrow; clear hrl; clear hkl; clear hik; clear hml; clear hz; omega), q1, q2, q3⟩
        · have ho : p.1 = 0 := by have := of_decide_eq_false hb2; (clear hi0; clear hvl; clear y4; clear y2; clear hpok; clear hj; clear hjl; clear hjk; clear hrow; clear hrl; clear hkl; clear hik; clear hml; clear hz; omega)
          ((with_reducible refine t_str ?_); (intro _))
          with_reducible refine t_args0 ?_
          ((with_reducible refine t_newTuple ?zhz ?_); (case zhz => simp [sizeLine]))
          intro _
          ((with_reducible refine' t_addT ?zha ?zhb ?zhz ?_); (case zha => top_raise); (case zhb => top_raise); (case zhz => (first | decide | (simp; done) | (simp; omega))); (intro _))
          ((with_reducible refine' t_storeM ?zu ?zhN ?zhl ?zhx ?zhk ?_); (case zhx => kernel_rfl!); (case zhN => top_name); (case zhl => k_caught0); (case zu => k_caught0); (case zhk => rfl))
          with_reducible refine fl_next ?_
          with_reducible refine t_nil ?_
          with_reducible refine fl_next ?_
          with_reducible refine t_nil ?_
          with_reducible refine fl_next ?_
          with_reducible refine t_cons ?_
          ((with_reducible refine t_ExprSt ?_ ?zhi ?zhs); (case zhi => rfl); (case zhs => rfl))
          ((with_reducible refine' t_MCall ?_ ?zhe); (case zhe => rfl))
          ((with_reducible refine' t_localM ?zhN ?zhv ?zhx ?zhk ?zhd ?_); (case zhx => kernel_rfl!); (case zhN => top_name); (case zhv => top_name); (case zhk => rfl); (case zhd => decide +kernel))
          ((with_reducible refine' ml_append ?zha ?_); (case zha => top_raise))
          with_reducible refine mc ?_
          with_reducible refine t_callWithP ?_
          ((with_reducible refine t_evalArgs ?_ ?zhe); (case zhe => rfl))
          ((with_reducible refine t_args ?_ ?zhe); (case zhe => rfl))
          ((with_reducible refine' t_localM ?zhN ?zhv ?zhx ?zhk ?zhd ?_); (case zhx => kernel_rfl!); (case zhN => top_name); (case zhv => top_name); (case zhk => rfl); (case zhd => decide +kernel))
          with_reducible refine t_args0 ?_
          ((with_reducible refine cp1 ?zhc ?_); (case zhc => k_caughtNB))
          ((with_reducible refine' t_append ?zha ?zu ?zhz ?_); (case zha => top_name); (case zu => k_caught0); (case zhz => (unfold sizeLine; (clear ho; clear hi0; clear y4; clear y2; clear hpok; clear hj; clear hrow; clear hrl; clear hkl; clear hik; clear hml; clear hz; omega))))
          with_reducible refine fl_next ?_
          with_reducible refine t_nil ?_
          with_reducible refine tu_next ?_
          rename_i tpop _ rc
          refine cl_fix (N2 := (rc, .tup ([.ref px, .ref ty] ++ [.str "#pop" tpop])) :: (ty, .inst 83 dty) :: (dty, .fld [("names", .ref nty)]) :: (nty, .tup [.str (tyS p.2) tn]) :: (px, .inst 651 pd) :: (pd, .fld [("rows", .ref rw)]) :: (rw, .lst [.ref r1]) :: (r1, .lst [.str ⟨#[120 + j]⟩ tu3]) :: (z, zipO TI TO) :: (TO, pairO (.str ⟨#[120 + j]⟩ tu3) (.ref pa)) :: (TI, pairO (.ref i1) (.ref i2)) :: (i2, itL ra (j + 1)) :: (i1, itS "xy" txy (j + 1)) :: (rl, .lst (vs ++ [.ref rc])) :: (L, .ns [("machine", .ref ma), ("text", .str text tt), ("names", .ref ls), ("table", .ref d), ("state", .int (i : Int) tk0), ("row", .ref ra), ("rules", .ref rl)]) :: (e, enumO it (i + 1) (.ref ra)) :: (it, itL ma (i + 1)) :: (d, .dic kvs) :: N) (by k_caught0) (by k_caught0) (by k_caught0) ?_
          refine cl_freezeL (rows := (rc, .tup ([.ref px, .ref ty] ++ [.str "#pop" tpop])) :: (ty, .inst 83 dty) :: (dty, .fld [("names", .ref nty)]) :: (nty, .tup [.str (tyS p.2) tn]) :: (px, .inst 651 pd) :: (pd, .fld [("rows", .ref rw)]) :: (rw, .lst [.ref r1]) :: (r1, .lst [.str ⟨#[120 + j]⟩ tu3]) :: []) fun F2 l4 hF => ?_
          obtain ⟨q1, q2, q3⟩ := rule_ok (act := .pop) l4 hvs hrs hjl hp (hF _ (.head _)) (hF _ (.tail _ (.head _))) (hF _ (.tail _ (.tail _ (.head _)))) (hF _ (.tail _ (.tail _ (.tail _ (.head _))))) (hF _ (.tail _ (.tail _ (.tail _ (.tail _ (.head _)))))) (hF _ (.tail _ (.tail _ (.tail _ (.tail _ (.tail _ (.head _))))))) (hF _ (.tail _ (.tail _ (.tail _ (.tail _ (.tail _ (.tail _ (.head _)))))))) (hF _ (.tail _ (.tail _ (.tail _ (.tail _ (.tail _ (.tail _ (.tail _ (.head _))))))))) (rest := [.str "#pop" tpop]) ⟨tpop, rfl⟩ (by unfold actS; rw [if_neg hi0, if_pos ho])
          exact IH2 (2 - (j + 1)) (by (clear q3; clear ho; clear hi0; clear hvl; clear y4; clear y2; clear hpok; clear hjl; clear hrow; clear hrl; clear hkl; clear hik; clear hml; clear hz; omega)) _ ⟨j + 1, F2, _, _, _, _, PH.le_trans l3 l4, rfl, by (clear q3; clear ho; clear hi0; clear hvl; clear y4; clear y2; clear hpok; clear hjl; clear hjk; clear hrow; clear hrl; clear hkl; clear hik; clear hml; clear hz; omega), q1, q2, q3⟩
    · obtain rfl : j = 2 := by (clear hjl; clear hrow; clear hrl; clear hkl; clear hik; clear hml; clear hz; omega)
      have hls2 := hls'.mono l3
      refine t_nextZipEndS (Rm.hd (n := 0) (by k_caughtN0)) xy_size.symm ?_
      with_reducible refine t_nil ?_
      with_reducible refine fl_next ?_
      with_reducible refine t_cons ?_
      ((with_reducible refine t_AssignSub ?_ ?zhs); (case zhs => rfl))
      ((with_reducible refine' t_localM ?zhN ?zhv ?zhx ?zhk ?zhd ?_); (case zhx => kernel_rfl!); (case zhN => top_name); (case zhv => top_name); (case zhk => rfl); (case zhd => decide +kernel))
      ((with_reducible refine' t_localM ?zhN ?zhv ?zhx ?zhk ?zhd ?_); (case zhx => kernel_rfl!); (case zhN => top_name); (case zhv => top_name); (case zhk => rfl); (case zhd => decide +kernel))
      with_reducible refine t_Sub ?_
      ((with_reducible refine' t_localM ?zhN ?zhv ?zhx ?zhk ?zhd ?_); (case zhx => kernel_rfl!); (case zhN => top_name); (case zhv => top_name); (case zhk => rfl); (case zhd => decide +kernel))
      ((with_reducible refine' t_localM ?zhN ?zhv ?zhx ?zhk ?zhd ?_); (case zhx => kernel_rfl!); (case zhN => top_name); (case zhv => top_name); (case zhk => rfl); (case zhd => decide +kernel))
      obtain ⟨tm, htm⟩ := nm_at (t1 := tn1) (t2 := tn2) (t3 := tn3) (i := i) (by have := hok.len; (clear hj; clear hjl; clear hjk; clear hrow; clear hrl; clear hkl; clear hik; clear hml; clear hz; omega))
      ((with_reducible refine' t_subList ?zha ?zhs ?_); (case zha => top_raise); (case zhs => rfl))
      refine t_itemList (by top_raise) (by with_reducible exact Int.natCast_nonneg _) (by have := hok.len; (clear hj; clear hjl; clear hjk; clear hrow; clear hrl; clear hkl; clear hik; clear hml; clear hz; omega)) htm ?_
      refine t_dictSetN (by top_name) (htb.fresh hkl (by have := hok.len; (clear hj; clear hjl; clear hjk; clear hrow; clear hrl; clear hkl; clear hik; clear hml; clear hz; omega))) (by k_caught0) (by have := hok.len; (clear hj; clear hjl; clear hjk; clear hrow; clear hrl; clear hik; clear hml; clear hz; omega)) ?_
      with_reducible refine fl_next ?_
      with_reducible refine t_nil ?_
      with_reducible refine tu_next ?_
      refine cl_fix (N2 := (rl, .lst vs) :: (e, enumO it (i + 1) (.ref ra)) :: (it, itL ma (i + 1)) :: (d, .dic (kvs ++ [(nmS i, .ref rl)])) :: (L, .ns [("machine", .ref ma), ("text", .str text tt), ("names", .ref ls), ("table", .ref d)]) :: N) (by k_caught0) (by k_caught0) (by k_caught0) ?_
      refine cl_freeze .head fun F2 l4 hF => ?_
      exact IH (M.length - (i + 1)) (by (clear hj; clear hjl; clear hjk; clear hrow; clear hrl; clear hkl; clear hml; clear hz; omega)) _ ⟨i + 1, _, F2, _, tb ++ [(nmS i, rs)], PH.le_trans l2 (PH.le_trans l3 l4), rfl, by (clear hj; clear hjl; clear hjk; clear hrow; clear hrl; clear hkl; clear hik; clear hml; clear hz; omega), by simp; with_reducible assumption, (htb.mono (PH.le_trans l3 l4)).snoc hkl (by rw [List.getElem?_eq_getElem hi, hrw]) hF (hvs.mono l4) (hrs.mono l4) hjl⟩
  · have hiM : i = M.length := by (clear hkl; clear hml; clear hz; omega)
    ((with_reducible refine' t_nextEnumLEnd ?zhh ?zr1 ?zr2 ?zha ?zhv ?_); (case zhh => (refine Rm.hd (n := 0) ?_; k_caughtN0)); (case zr1 => k_caught0); (case zr2 => k_caught0); (case zha => top_raise); (case zhv => (clear hiM; clear hkl; clear hik; clear hz; omega)))
    with_reducible refine t_nil ?_
    with_reducible refine fl_next ?_
    with_reducible refine t_cons ?_
    with_reducible refine t_Return ?_
    ((with_reducible refine' t_ListComp ?zhclos ?zhkind ?zhnames ?zhc ?_ ?zhs); (case zhclos => rfl); (case zhkind => rfl); (case zhnames => decide +kernel); (case zhc => rfl); (case zhs => exact fun _ => rfl))
    ((with_reducible refine' t_MCall ?_ ?zhe); (case zhe => rfl))
    ((with_reducible refine t_Call ?_ ?zhe); (case zhe => rfl))
    ((with_reducible refine' t_glob ?ze ?zhg ?zhk ?zhx ?zhd ?_); (case ze => top_raise0); (case zhg => rfl); (case zhk => rfl); (case zhx => kernel_rfl!); (case zhd => decide +kernel))
    with_reducible refine t_callWithP ?_
    ((with_reducible refine t_evalArgs ?_ ?zhe); (case zhe => rfl))
    ((with_reducible refine t_args ?_ ?zhe); (case zhe => rfl))
    ((with_reducible refine' t_localM ?zhN ?zhv ?zhx ?zhk ?zhd ?_); (case zhx => kernel_rfl!); (case zhN => top_name); (case zhv => top_name); (case zhk => rfl); (case zhd => decide +kernel))
    with_reducible refine t_args0 ?_
    ((with_reducible refine cp0 ?zhc ?_); (case zhc => k_caughtNB))
    refine tr_freeze .head fun F2 l4 hd => ?_
    have hkn : kvs.length = M.length := by (clear hiM; clear hml; clear hz; omega)
    have h3 := hok.len
    have htb2 := htb.mono l4
    refine t_make (fI := 571) ?zhm ?zhi ?zhf fun lx dx => ?_
    case zhm => top_reprB
    case zhi => top_reprB
    case zhf => top_reprB
    refine sp_RLinit hd (htb2.stbl hkn (by (clear hkn; clear hiM; clear hi; clear hml; clear hz; omega))) (by rintro rfl; have := hok.pos; simp at hkn; (clear hkl; clear h3; clear hiM; clear hi; clear hik; clear hml; clear hz; omega)) (by (clear hkn; clear hiM; clear hi; clear hml; clear hz; omega)) (by k_caughtN0) _ fun F3 pr acc3 o fl tt2 at_ tnn hF3 hl3 hdn => ?_
    refine And.intro rfl ?_
    refine tr_freezeL (rows := (lx, .inst 672 dx) :: (dx, .fld (lxT o fl tt2 at_ tnn pr)) :: (pr, .dic acc3) :: []) fun F4 hF4 hfz => ?_
    have p1 := hfz (lx, .inst 672 dx) (by top_name)
    have p2 := hfz (dx, .fld (lxT o fl tt2 at_ tnn pr)) (by top_name)
    have p3 := hfz (pr, .dic acc3) (by top_name)
    have hTab := (hdn.mono hF4).table hl3 p3
    have hF34 := PH.le_trans hF3 hF4
    have hbok := htb2.tbok hkn hok
    ((with_reducible refine' t_methodOf (f := 580) ?zhx ?zhd ?zhf ?zhg ?zhn ?_); (case zhx => top_raise); (case zhd => top_raise); (case zhf => top_reprB); (case zhg => top_reprB); (case zhn => (first | assumption | kernel_rfl!)))
    with_reducible refine mc ?_
    with_reducible refine t_callWithP ?_
    ((with_reducible refine t_evalArgs ?_ ?zhe); (case zhe => rfl))
    ((with_reducible refine t_args ?_ ?zhe); (case zhe => rfl))
    ((with_reducible refine' t_localM ?zhN ?zhv ?zhx ?zhk ?zhd ?_); (case zhx => kernel_rfl!); (case zhN => top_name); (case zhv => top_name); (case zhk => rfl); (case zhd => decide +kernel))
    with_reducible refine t_args0 ?_
    ((with_reducible refine cp1 ?zhc ?_); (case zhc => k_caughtNB))
    refine tr_call (sp_gtuD p1 p2 (by simp) hTab hbok hz ⟨by simp, fun x hx => by rw [List.mem_singleton.mp hx]; exact hbok.1⟩ (by k_caughtN0) fun ga gs own tg ug hgen => ?_)
    ((with_reducible refine' t_iterGen ?zhi ?_); (case zhi => top_name))
    with_reducible refine opn ?_
    intro _
    intro _
    ((with_reducible refine' cs_gen ?zhi ?_); (case zhi => top_name))
    rename_i acc C
    have htk : TkN (cx w mg mb O) F4 (lex tb 97 93 text.cps.toList 0 ["root"]) (toldM M text.cps.toList 0 0) := lexM (htb2.mono hF34) hkn hok text.cps.toList 0 0 hok.pos
    have lF4 : F.le F4 := PH.le_trans (PH.le_trans l1 l2) (PH.le_trans l4 hF34)
    generalize hds : toldM M text.cps.toList 0 0 = ds0 at htk h
    refine cl_perm (N' := (ga, genO G.size "get_tokens_unprocessed" "RegexLexer.get_tokens_unprocessed" tg ug) :: (own ++ (C, .ns []) :: (acc, .lst []) :: (L, .ns [("machine", .ref ma), ("text", .str text tt), ("names", .ref ls), ("table", .ref d)]) :: N)) perm_own2 ?_
    refine cl_indG (Inv := fun k l => ∃ (ts : List TokE) (gs : GenState) (own : List (Addr × OD)) (Fx : PH) (vs : List Value) (ds da : Told), F4.le Fx ∧ l = ⟨Fx, (ga, genO G.size "get_tokens_unprocessed" "RegexLexer.get_tokens_unprocessed" tg ug) :: (own ++ (C, .ns []) :: (acc, .lst vs) :: (L, .ns [("machine", .ref ma), ("text", .str text tt), ("names", .ref ls), ("table", .ref d)]) :: N), G.push gs⟩ ∧ GenOk (cx w mg mb O) 60 ts Fx gs own ∧
      ts.length = k ∧ TkN (cx w mg mb O) Fx ts ds ∧ da ++ ds = ds0 ∧ ToldV w.params (cx w mg mb O) Fx vs da) ?_ _ _ ⟨_, gs, own, F4, [], _, [], PH.le_refl _, rfl, hgen, rfl, htk, rfl, .nil⟩
    rintro k l IH2 ⟨ts, gs, own, Fx2, vs, ds, da, l6, rfl, hgen, rfl, htk, hda, hvs⟩
    cases htk with
    | nil =>
      refine cl_freeze (.tail (rem_app (.tail .head))) fun F5 l7 hacc => ?_
      refine cl_comp1 ?_
      refine t_nextGenEnd (m := 61) (by k_caughtN0) (Nat.le_refl _) push_at (hgen.mono l7) ?_
      rw [push_set, push_set]
      ((with_reducible refine' endC ?zr ?_); (case zr => k_caught0))
      with_reducible refine fl_ret ?_
      exact ⟨N, by k_caught0, _, rfl, h _ _ _ (PH.le_trans lF4 (PH.le_trans l6 l7)) (AllBare.psh hG rfl) ⟨vs, hacc, by rw [← hda, List.append_nil]; exact hvs.mono l7⟩⟩
    | @cons p ty c n es ds hty htk =>
      refine cl_comp1 ?_
      refine t_nextGen (m := 61) (by k_caughtN0) (Nat.le_refl _) push_at hgen fun own' gs' a t1' t2' hb hgen' => ?_
      rw [push_set, push_set]
      obtain ⟨dd, tnm, nvs, k1, k2, k3, k4⟩ := hty
      have hvl : vs.length ≤ 1000 := by
        have e1 := hvs.len
        have e2 := congrArg List.length hds
        rw [toldM_len, ← hda] at e2
        simp only [List.length_append, List.length_cons, Array.length_toList] at e2
        unfold Str.length at hz
        (clear hl3; clear h3; clear hkn; clear hiM; clear hi; clear hkl; clear hik; clear hml; omega)
      have q1 : Kn (cx w mg mb O) ⟨Fx2, own' ++ (L, .ns [("machine", .ref ma), ("text", .str text tt), ("names", .ref ls), ("table", .ref d)]) :: N, G.push gs'⟩ _ _ := k1.any
      have q2 : Kn (cx w mg mb O) ⟨Fx2, own' ++ (L, .ns [("machine", .ref ma), ("text", .str text tt), ("names", .ref ls), ("table", .ref d)]) :: N, G.push gs'⟩ _ _ := k2.any
      have q3 : Kn (cx w mg mb O) ⟨Fx2, own' ++ (L, .ns [("machine", .ref ma), ("text", .str text tt), ("names", .ref ls), ("table", .ref d)]) :: N, G.push gs'⟩ _ _ := k3.any
      refine tr_perm (N' := (ga, genO G.size "get_tokens_unprocessed" "RegexLexer.get_tokens_unprocessed" tg ug) :: (a, tokT (p, ty, c) t1' t2') :: (C, .ns []) :: (acc, .lst vs) :: (own' ++ (L, .ns [("machine", .ref ma), ("text", .str text tt), ("names", .ref ls), ("table", .ref d)]) :: N)) (List.Perm.cons _ perm_own3) ?_
      ((with_reducible refine' t_goTupG ?zhi ?_); (case zhi => top_name))
      ((with_reducible refine' t_assignTup ?zhh ?zha ?zhe ?zhn ?_); (case zhh => (refine Rm.hd (n := 0) ?_; k_caughtN0)); (case zha => top_raise); (case zhe => rfl); (case zhn => rfl))
      with_reducible refine trA_cons ?_
      with_reducible refine t_assignName ?_
      ((with_reducible refine' t_store ?zhL ?zu ?zhN ?zhl ?zhx ?zhk ?_); (case zhx => kernel_rfl!); (case zhN => top_name); (case zhL => rfl); (case zhl => k_caught0); (case zu => k_caught0); (case zhk => rfl))
      with_reducible refine trA_cons ?_
      with_reducible refine t_assignName ?_
      ((with_reducible refine' t_store ?zhL ?zu ?zhN ?zhl ?zhx ?zhk ?_); (case zhx => kernel_rfl!); (case zhN => top_name); (case zhL => rfl); (case zhl => k_caught0); (case zu => k_caught0); (case zhk => rfl))
      with_reducible refine trA_cons ?_
      with_reducible refine t_assignName ?_
      ((with_reducible refine' t_store ?zhL ?zu ?zhN ?zhl ?zhx ?zhk ?_); (case zhx => kernel_rfl!); (case zhN => top_name); (case zhL => rfl); (case zhl => k_caught0); (case zu => k_caught0); (case zhk => rfl))
      with_reducible refine trA_nil ?_
      with_reducible refine t_Tuple ?_
      ((with_reducible refine t_args ?_ ?zhe); (case zhe => rfl))
      ((with_reducible refine' t_local ?zhL ?zhN ?zhv ?zhx ?zhk ?zhd ?_); (case zhx => kernel_rfl!); (case zhN => top_name); (case zhL => rfl); (case zhv => top_name); (case zhk => rfl); (case zhd => decide +kernel))
      ((with_reducible refine t_args ?_ ?zhe); (case zhe => rfl))
      ((with_reducible refine t_Attr ?_ ?zhe); (case zhe => rfl))
      ((with_reducible refine' t_local ?zhL ?zhN ?zhv ?zhx ?zhk ?zhd ?_); (case zhx => kernel_rfl!); (case zhN => top_name); (case zhL => rfl); (case zhv => top_name); (case zhk => rfl); (case zhd => decide +kernel))
      ((with_reducible refine' t_field ?zhx ?zhd ?zhv ?zhf ?zhg ?zhh ?_); (case zhx => top_raise); (case zhd => top_raise); (case zhv => top_name); (case zhf => top_caughtB); (case zhg => top_reprB); (case zhh => rfl))
      ((with_reducible refine t_args ?_ ?zhe); (case zhe => rfl))
      ((with_reducible refine' t_local ?zhL ?zhN ?zhv ?zhx ?zhk ?zhd ?_); (case zhx => kernel_rfl!); (case zhN => top_name); (case zhL => rfl); (case zhv => top_name); (case zhk => rfl); (case zhd => decide +kernel))
      with_reducible refine t_args0 ?_
      ((with_reducible refine t_newTuple ?zhz ?_); (case zhz => simp [sizeLine]))
      intro _
      ((with_reducible refine' t_append ?zha ?zu ?zhz ?_); (case zha => top_name); (case zu => k_caught0); (case zhz => (unfold sizeLine; (clear hl3; clear h3; clear hkn; clear hiM; clear hi; clear hkl; clear hik; clear hml; clear hz; omega))))
      rename_i a2
      refine cl_fix (N2 := (a2, .tup [.int p t1', .ref tnm, .str ⟨#[c]⟩ t2']) :: (ga, genO G.size "get_tokens_unprocessed" "RegexLexer.get_tokens_unprocessed" tg ug) :: (C, .ns []) :: (acc, .lst (vs ++ [.ref a2])) :: (own' ++ (L, .ns [("machine", .ref ma), ("text", .str text tt), ("names", .ref ls), ("table", .ref d)]) :: N)) (by k_caught0) (by k_caught0) (by k_caught0) ?_
      refine cl_freeze .head fun F5 l7 hf => ?_
      refine cl_perm (N' := (ga, genO G.size "get_tokens_unprocessed" "RegexLexer.get_tokens_unprocessed" tg ug) :: (own' ++ (C, .ns []) :: (acc, .lst (vs ++ [.ref a2])) :: (L, .ns [("machine", .ref ma), ("text", .str text tt), ("names", .ref ls), ("table", .ref d)]) :: N)) (List.Perm.cons _ perm_own2') ?_
      exact IH2 es.length (Nat.lt_succ_self _) _ ⟨es, gs', own', F5, _, ds, da ++ [(p, n, c)], PH.le_trans l6 l7, rfl, hgen'.mono l7, rfl, htk.mono l7, by simpa using hda, (hvs.mono l7).snoc hf (k3.le l7) k4⟩
end Mine

namespace Mine
variable {w : World} {mg mb : Str → Option Value} {O : OsState} {A : Around} {F F' : PH} {N : List (Addr × OD)} {G : Array GenState}
def rest03 : List Int := [5, 1, 3, 5, 0, 4, 0, 0, 1, 0, 726, 341]
/-- the drawn numbers -/
def dr03 (sc : List Int) (k : Nat) : Int := (if k < sc.length then (sc[k]?).getD 0 else (rest03[k]?).getD 0).fmod 1000003
theorem dr03_bd (sc : List Int) (k : Nat) : 0 ≤ dr03 sc k ∧ dr03 sc k < 1000003 := ⟨Int.fmod_nonneg_of_pos _ (by decide), Int.fmod_lt_of_pos _ (by decide)⟩
theorem rest03_get (i : Nat) (h : i < 12) : ∃ t, [Value.int 5 1359, .int 1 1360, .int 3 1361, .int 5 1362, .int 0 1363, .int 4 1364, .int 0 1365, .int 0 1366, .int 1 1367, .int 0 1368, .int 726 1369, .int 341 1370][i]? = some (.int ((rest03[i]?).getD 0) t) := by
  match i, h with
  | 0, _ => exact ⟨_, rfl⟩
  | 1, _ => exact ⟨_, rfl⟩
  | 2, _ => exact ⟨_, rfl⟩
  | 3, _ => exact ⟨_, rfl⟩
  | 4, _ => exact ⟨_, rfl⟩
  | 5, _ => exact ⟨_, rfl⟩
  | 6, _ => exact ⟨_, rfl⟩
  | 7, _ => exact ⟨_, rfl⟩
  | 8, _ => exact ⟨_, rfl⟩
  | 9, _ => exact ⟨_, rfl⟩
  | 10, _ => exact ⟨_, rfl⟩
  | 11, _ => exact ⟨_, rfl⟩
theorem kn_675 {l : Led} : Kn (cx w mg mb O) l 675 (.tup [.int 5 1359, .int 1 1360, .int 3 1361, .int 5 1362, .int 0 1363, .int 4 1364, .int 0 1365, .int 0 1366, .int 1 1367, .int 0 1368, .int 726 1369, .int 341 1370]) := Kn.ofK (o := ⟨.type "tuple", none, .seq #[.int 5 1359, .int 1 1360, .int 3 1361, .int 5 1362, .int 0 1363, .int 4 1364, .int 0 1365, .int 0 1366, .int 1 1367, .int 0 1368, .int 726 1369, .int 341 1370] 0, #[]⟩) (by decide) (by kernel_rfl!) ⟨rfl, rfl, 0, rfl⟩
abbrev DLs (d : Nat → Int) (t : Nat → Tok) : List Value := (List.range 12).map fun k => .int (d k) (t k)
theorem DLs_get {d : Nat → Int} {t : Nat → Tok} {k : Nat} (h : k < 12) : (DLs d t)[k]? = some (.int (d k) (t k)) := by
  rw [List.getElem?_map, List.getElem?_range h]; rfl
theorem DLs_slice {d : Nat → Int} {t : Nat → Tok} {s : Nat} (h : s < 3) : slicePick (DLs d t).toArray (some (1 + 2 * (s : Int))) (some (3 + 2 * (s : Int))) none = [Value.int (d (1 + 2 * s)) (t (1 + 2 * s)), .int (d (2 + 2 * s)) (t (2 + 2 * s))].toArray := by
  obtain rfl | rfl | rfl : s = 0 ∨ s = 1 ∨ s = 2 := by (clear t; clear d; omega)
  all_goals rfl
theorem DLs_tail {d : Nat → Int} {t : Nat → Tok} : slicePick (DLs d t).toArray (some 10) none none = [Value.int (d 10) (t 10), .int (d 11) (t 11)].toArray := by simp [slicePick, sliceBounds, sliceRange]; rfl
def RowOk (n : Nat) (r : List (Nat × Nat)) : Prop := r.length = 2 ∧ ∀ p ∈ r, p.1 < n ∧ p.2 < 2
def RowsAt (P : Params) (F : PH) (n : Nat) (ws : List Value) (M : Mch) : Prop := ws.length = M.length ∧ ∀ (i : Nat) r, M[i]? = some r → RowOk n r ∧ ∃ v, ws[i]? = some v ∧ RowAt P F v r
theorem PairAt.mono {P : Params} {v : Value} {p : Nat × Nat} (h : PairAt P F v p) (k : F.le F') : PairAt P F' v p := let ⟨a, t1, t2, e, f⟩ := h; ⟨a, t1, t2, e, f.mono k⟩
theorem RowAt.mono {P : Params} {v : Value} {r : List (Nat × Nat)} (h : RowAt P F v r) (k : F.le F') : RowAt P F' v r :=
  let ⟨a, vs, e, f, l, g⟩ := h; ⟨a, vs, e, f.mono k, l, fun i p e => let ⟨v, x, y⟩ := g i p e; ⟨v, x, y.mono k⟩⟩
theorem RowsAt.mono {P : Params} {n : Nat} {ws : List Value} {M : Mch} (h : RowsAt P F n ws M) (k : F.le F') : RowsAt P F' n ws M :=
  ⟨h.1, fun i r e => let ⟨o, v, a, b⟩ := h.2 i r e; ⟨o, v, a, b.mono k⟩⟩
theorem RowsAt.nil {P : Params} {n : Nat} : RowsAt P F n [] [] := ⟨rfl, fun i r e => by simp at e⟩
theorem RowsAt.snoc {P : Params} {n : Nat} {ws : List Value} {M : Mch} {v : Value} {r : List (Nat × Nat)} (h : RowsAt P F n ws M) (o : RowOk n r) (a : RowAt P F v r) : RowsAt P F n (ws ++ [v]) (M ++ [r]) := by
  refine ⟨by simp [h.1], fun i q e => ?_⟩
  rcases Nat.lt_or_ge i M.length with hi | hi
  · rw [List.getElem?_append_left hi] at e
    obtain ⟨o, v, e2, b⟩ := h.2 i q e
    exact ⟨o, v, by rw [List.getElem?_append_left (by rw [h.1]; exact hi)]; exact e2, b⟩
  · rw [List.getElem?_append_right hi] at e
    have h0 : i - M.length = 0 := by have := (List.getElem?_eq_some_iff.mp e).1; simpa using this
    rw [h0] at e
    obtain rfl : r = q := by simpa using e
    exact ⟨o, v, by rw [List.getElem?_append_right (by rw [h.1]; exact hi), h.1, h0]; rfl, a⟩
theorem RowsAt.mch {P : Params} {n : Nat} {ws : List Value} {M : Mch} {mc : Addr} (h : RowsAt P F n ws M) (hf : Fz P F mc (.lst ws)) : MchAt P F mc M := ⟨ws, hf, h.1, fun i r e => (h.2 i r e).2⟩
theorem RowsAt.ok {P : Params} {ws : List Value} {M : Mch} (h : RowsAt P F M.length ws M) (h1 : 1 ≤ M.length) (h3 : M.length ≤ 3) : MchOk M := ⟨h1, h3, fun r hr => by
  obtain ⟨i, hi⟩ := List.getElem?_of_mem hr
  exact (h.2 i r hi).1⟩
/-- a row of two pairs, made -/
theorem row2_at {P : Params} {ra pa pb : Addr} {p q : Nat × Nat} {t1 t2 t3 t4 : Tok} (hr : Fz P F ra (.lst [.ref pa, .ref pb])) (h1 : Fz P F pa (.tup [.int (p.1 : Int) t1, .int (p.2 : Int) t2])) (h2 : Fz P F pb (.tup [.int (q.1 : Int) t3, .int (q.2 : Int) t4])) : RowAt P F (.ref ra) [p, q] :=
  ⟨ra, _, rfl, hr, rfl, fun i x e => by
    match i, e with
    | 0, e =>
      obtain rfl : p = x := by simpa using e
      exact ⟨_, rfl, pa, t1, t2, rfl, h1⟩
    | 1, e =>
      obtain rfl : q = x := by simpa using e
      exact ⟨_, rfl, pb, t3, t4, rfl, h2⟩
    | i + 2, e => simp at e⟩
theorem row2_ok {n : Nat} {p q : Nat × Nat} (h1 : p.1 < n) (h2 : p.2 < 2) (h3 : q.1 < n) (h4 : q.2 < 2) : RowOk n [p, q] := ⟨rfl, fun x hx => by
  rcases List.mem_cons.mp hx with rfl | hx
  · exact ⟨h1, h2⟩
  · rw [List.mem_singleton.mp hx]; exact ⟨h3, h4⟩⟩
theorem fmod_nat {a : Int} {n : Nat} (hn : 0 < n) : ∃ x : Nat, a.fmod (n : Int) = (x : Int) ∧ x < n := by
  have h1 := Int.fmod_nonneg_of_pos a (b := (n : Int)) (by omega)
  have h2 := Int.fmod_lt_of_pos a (b := (n : Int)) (by (clear h1; omega))
  exact ⟨(a.fmod n).toNat, by (clear h2; clear hn; omega), by (clear h1; omega)⟩
theorem t_sliceStands {X : Cx} {a sl : Addr} {x q m : Nat} {ta tb tq : Tok} {R : Value → Led → Prop} (ha : Kn X ⟨F, N, G⟩ a (.lst [.int 0 ta, .int (x : Int) tb])) (hs : Kn X ⟨F, N, G⟩ sl (.raw { cls := .type "slice", data := .fields #[.none, .int (q : Int) tq, .none] }))
    (hx : x < m) (hq1 : 1 ≤ q) (hq2 : q ≤ 2) (h : ∀ c SV, SV.length = q → (∀ j, j < q → ∃ (y : Nat) (t : Tok), SV[j]? = some (Value.int (y : Int) t) ∧ y < m) → R (.ref c) ⟨F, (c, .lst SV) :: N, G⟩) : Tr X A ⟨F, N, G⟩ (getItem (.ref a) (.ref sl)) R := by
  obtain rfl | rfl : q = 1 ∨ q = 2 := by (clear hx; omega)
  · refine t_sliceL (ws := [.int 0 ta]) ha hs .none (.int ..) (by simp) (by rfl) fun c => h c _ rfl fun j hj => ?_
    obtain rfl : j = 0 := by (clear hq2; clear hq1; clear hx; omega)
    exact ⟨0, ta, rfl, by (clear hj; clear hq2; clear hq1; omega)⟩
  · refine t_sliceL (ws := [.int 0 ta, .int (x : Int) tb]) ha hs .none (.int ..) (by simp) (by rfl) fun c => h c _ rfl fun j hj => ?_
    obtain rfl | rfl : j = 0 ∨ j = 1 := by (clear hq2; clear hq1; clear hx; omega)
    · exact ⟨0, ta, rfl, by (clear hj; clear hq2; clear hq1; omega)⟩
    · exact ⟨x, tb, rfl, hx⟩
end Mine

namespace Mine
/-! Moore -/
def eqk (o x : Nat → Nat → Nat) : Nat → Nat → Nat → Bool
  | 0, _, _ => true
  | k + 1, a, b => (o a 0 == o b 0 && o a 1 == o b 1) && (eqk o x k (x a 0) (x b 0) && eqk o x k (x a 1) (x b 1))
theorem eqk_succ {o x : Nat → Nat → Nat} {k a b : Nat} : eqk o x (k + 1) a b = true ↔ (o a 0 = o b 0 ∧ o a 1 = o b 1) ∧ (eqk o x k (x a 0) (x b 0) = true ∧ eqk o x k (x a 1) (x b 1) = true) := by
  simp [eqk, Bool.and_eq_true]
theorem eqk_le {o x : Nat → Nat → Nat} : ∀ {k a b : Nat}, eqk o x (k + 1) a b = true → eqk o x k a b = true
  | 0, _, _, _ => rfl
  | k + 1, a, b, h => by
    have h := eqk_succ.mp h
    exact eqk_succ.mpr ⟨h.1, eqk_le h.2.1, eqk_le h.2.2⟩
theorem eqk_mono {o x : Nat → Nat → Nat} {k m a b : Nat} (h : eqk o x (k + m) a b = true) : eqk o x k a b = true := by
  induction m with
  | zero => exact h
  | succ m ih => exact ih (eqk_le h)
theorem eqk_refl {o x : Nat → Nat → Nat} : ∀ (k a : Nat), eqk o x k a a = true
  | 0, _ => rfl
  | k + 1, a => eqk_succ.mpr ⟨⟨rfl, rfl⟩, eqk_refl k _, eqk_refl k _⟩
theorem eqk_symm {o x : Nat → Nat → Nat} : ∀ {k a b : Nat}, eqk o x k a b = true → eqk o x k b a = true
  | 0, _, _, _ => rfl
  | k + 1, a, b, h => by
    have h := eqk_succ.mp h
    exact eqk_succ.mpr ⟨⟨h.1.1.symm, h.1.2.symm⟩, eqk_symm h.2.1, eqk_symm h.2.2⟩
theorem eqk_trans {o x : Nat → Nat → Nat} : ∀ {k a b c : Nat}, eqk o x k a b = true → eqk o x k b c = true → eqk o x k a c = true
  | 0, _, _, _, _, _ => rfl
  | k + 1, a, b, c, h, g => by
    have h := eqk_succ.mp h
    have g := eqk_succ.mp g
    exact eqk_succ.mpr ⟨⟨h.1.1.trans g.1.1, h.1.2.trans g.1.2⟩, eqk_trans h.2.1 g.2.1, eqk_trans h.2.2 g.2.2⟩
def cntk (o x : Nat → Nat → Nat) (n k : Nat) : Nat := ((List.range n).filter fun a => (List.range a).all fun b => !eqk o x k a b).length
theorem filter_lt {α : Type} {p q : α → Bool} : ∀ {l : List α}, (∀ x ∈ l, p x = true → q x = true) → (l.filter p).length ≤ (l.filter q).length ∧ ((∃ x ∈ l, q x = true ∧ p x = false) → (l.filter p).length < (l.filter q).length)
  | [], _ => ⟨Nat.le_refl _, fun ⟨x, h, _⟩ => nomatch h⟩
  | a :: l, h => by
    have ih := filter_lt (l := l) fun x hx => h x (.tail _ hx)
    have ha := h a (.head _)
    refine ⟨?_, fun ⟨x, hx, hq, hp⟩ => ?_⟩
    · rw [List.filter_cons, List.filter_cons]
      cases e : p a with
      | true => rw [if_pos rfl, if_pos (ha e)]; simp [ih.1]
      | false =>
        rw [if_neg (by simp)]
        split
        · simp; have := ih.1; (clear this; clear ha; omega)
        · exact ih.1
    · rw [List.filter_cons, List.filter_cons]
      rcases List.mem_cons.mp hx with rfl | hx
      · rw [if_neg (by simp [hp]), if_pos hq]; simp; have := ih.1; (clear this; clear ha; omega)
      · have ih2 := ih.2 ⟨x, hx, hq, hp⟩
        cases e : p a with
        | true => rw [if_pos rfl, if_pos (ha e)]; simp [ih2]
        | false =>
          rw [if_neg (by simp)]
          split
          · simp; (clear ih2; clear ha; omega)
          · exact ih2
theorem rep_of {o x : Nat → Nat → Nat} (k : Nat) : ∀ a : Nat, ∃ r, r ≤ a ∧ eqk o x k r a = true ∧ ((List.range r).all fun b => !eqk o x k r b) = true := by
  intro a
  induction a using Nat.strongRecOn with
  | _ a ih =>
    by_cases h : ((List.range a).all fun b => !eqk o x k a b) = true
    · exact ⟨a, Nat.le_refl _, eqk_refl k a, h⟩
    · have h' : ∃ b, b < a ∧ eqk o x k a b = true := by
        have h2 : ((List.range a).all fun b => !eqk o x k a b) = false := by simpa using h
        rw [List.all_eq_false] at h2
        obtain ⟨b, hb, e⟩ := h2
        exact ⟨b, List.mem_range.mp hb, by simpa using e⟩
      obtain ⟨b, hb, e⟩ := h'
      obtain ⟨r, hr, er, hall⟩ := ih b hb
      exact ⟨r, by (clear h; omega), eqk_trans er (eqk_symm e), hall⟩
theorem cnt_lt {o x : Nat → Nat → Nat} {n k a b : Nat} (ha : a < n) (hb : b < n) (h1 : eqk o x k a b = true) (h2 : eqk o x (k + 1) a b = false) : cntk o x n k < cntk o x n (k + 1) := by
  refine (filter_lt (fun c hc h => ?_)).2 ?_
  · rw [List.all_eq_true] at h ⊢
    intro d hd
    have := h d hd
    cases e : eqk o x (k + 1) c d with
    | false => rfl
    | true => rw [eqk_le e] at this; cases this
  · obtain ⟨r, hr, er, hall⟩ := rep_of (o := o) (x := x) (k + 1) a
    obtain ⟨r', hr', er', hall'⟩ := rep_of (o := o) (x := x) (k + 1) b
    have hne : r ≠ r' := fun e => by
      subst e
      rw [eqk_trans (eqk_symm er) er'] at h2
      cases h2
    have hk : eqk o x k r r' = true := eqk_trans (eqk_le er) (eqk_trans h1 (eqk_symm (eqk_le er')))
    rcases Nat.lt_or_gt_of_ne hne with hlt | hlt
    · refine ⟨r', List.mem_range.mpr (by (clear hlt; clear hne; clear hr; clear ha; omega)), hall', ?_⟩
      rw [List.all_eq_false]
      exact ⟨r, List.mem_range.mpr hlt, by simp [eqk_symm hk]⟩
    · refine ⟨r, List.mem_range.mpr (by (clear hlt; clear hne; clear hr'; clear hb; omega)), hall, ?_⟩
      rw [List.all_eq_false]
      exact ⟨r', List.mem_range.mpr hlt, by simp [hk]⟩
theorem cnt_le (o x : Nat → Nat → Nat) (n k : Nat) : cntk o x n k ≤ n := by
  have := List.length_filter_le (fun a => (List.range a).all fun b => !eqk o x k a b) (List.range n)
  simpa [cntk] using this
theorem cnt_pos (o x : Nat → Nat → Nat) {n : Nat} (hn : 0 < n) (k : Nat) : 1 ≤ cntk o x n k := by
  unfold cntk
  exact List.length_pos_of_mem (a := 0) (List.mem_filter.mpr ⟨List.mem_range.mpr hn, rfl⟩)
theorem moore {o x : Nat → Nat → Nat} {n a b : Nat} (hx : ∀ s j, s < n → x s j < n) (ha : a < n) (hb : b < n) (h : eqk o x (n - 1) a b = true) (m : Nat) : eqk o x m a b = true := by
  have hst : ∃ k, k < n ∧ ∀ a b, a < n → b < n → eqk o x k a b = true → eqk o x (k + 1) a b = true := by
    refine Classical.byContradiction fun hc => ?_
    have hcnt : ∀ k, k ≤ n → k + 1 ≤ cntk o x n k := by
      intro k
      induction k with
      | zero => intro _; exact cnt_pos o x (by omega) 0
      | succ k ih =>
        intro hk
        have h1 := ih (by (clear ih; clear hc; clear hb; clear ha; omega))
        have : ∃ a b, a < n ∧ b < n ∧ eqk o x k a b = true ∧ eqk o x (k + 1) a b = false := Classical.byContradiction fun hn => hc ⟨k, by (clear hn; clear h1; clear ih; clear hc; clear hb; clear ha; omega), fun a b ha hb e => by
          cases e2 : eqk o x (k + 1) a b with
          | true => rfl
          | false => exact absurd ⟨a, b, ha, hb, e, e2⟩ hn⟩
        obtain ⟨a, b, ha, hb, e1, e2⟩ := this
        have := cnt_lt ha hb e1 e2
        (clear hb; clear ha; clear h1; clear hc; clear hb; clear ha; omega)
    have h1 := hcnt n (Nat.le_refl _)
    have h2 := cnt_le o x n n
    (clear hc; clear hb; clear ha; omega)
  obtain ⟨k, hk, st⟩ := hst
  have up : ∀ m a b, a < n → b < n → eqk o x k a b = true → eqk o x (k + m) a b = true := by
    intro m
    induction m with
    | zero => intro a b _ _ e; exact e
    | succ m ih =>
      intro a b ha hb e
      have e1 := eqk_succ.mp (st a b ha hb e)
      exact eqk_succ.mpr ⟨e1.1, ih _ _ (hx a 0 ha) (hx b 0 hb) e1.2.1, ih _ _ (hx a 1 ha) (hx b 1 hb) e1.2.2⟩
  have hk' : eqk o x k a b = true := eqk_mono (m := n - 1 - k) (by rw [show k + (n - 1 - k) = n - 1 by (clear hb; clear ha; omega)]; exact h)
  have := up m a b ha hb hk'
  rw [Nat.add_comm] at this
  exact eqk_mono this
/-! two machines -/
def eq2 (M1 M2 : Mch) : Nat → Nat → Nat → Prop
  | 0, _, _ => True
  | k + 1, a, b => ∀ j, j < 2 → (mget M1 a j).2 = (mget M2 b j).2 ∧ eq2 M1 M2 k (mget M1 a j).1 (mget M2 b j).1
theorem eq2_eqk {M1 M2 : Mch} (h1 : ∀ s j, s < M1.length → (mget M1 s j).1 < M1.length) (h2 : ∀ s j, s < M2.length → (mget M2 s j).1 < M2.length) : ∀ (k a b : Nat), a < M1.length → b < M2.length →
    (eq2 M1 M2 k a b ↔ eqk (fun s j => if s < M1.length then (mget M1 s j).2 else (mget M2 (s - M1.length) j).2) (fun s j => if s < M1.length then (mget M1 s j).1 else M1.length + (mget M2 (s - M1.length) j).1) k a (M1.length + b) = true)
  | 0, _, _, _, _ => by simp [eq2, eqk]
  | k + 1, a, b, ha, hb => by
    have hb' : ¬ M1.length + b < M1.length := by (clear hb; clear ha; omega)
    have e : M1.length + b - M1.length = b := by (clear hb'; clear hb; clear ha; omega)
    rw [eqk_succ, eq2]
    simp only [if_pos ha, if_neg hb', e]
    rw [← eq2_eqk h1 h2 k _ _ (h1 a 0 ha) (h2 b 0 hb), ← eq2_eqk h1 h2 k _ _ (h1 a 1 ha) (h2 b 1 hb)]
    constructor
    · intro h
      exact ⟨⟨(h 0 (by decide)).1, (h 1 (by decide)).1⟩, (h 0 (by decide)).2, (h 1 (by decide)).2⟩
    · rintro ⟨⟨a1, a2⟩, a3, a4⟩ j hj
      obtain rfl | rfl : j = 0 ∨ j = 1 := by (clear a2; clear a1; clear e; clear hb'; clear hb; clear ha; omega)
      · exact ⟨a1, a3⟩
      · exact ⟨a2, a4⟩
theorem mget_ok {M : Mch} (ok : MchOk M) (s j : Nat) (hs : s < M.length) : (mget M s j).1 < M.length ∧ (mget M s j).2 < 2 := by
  unfold mget
  cases e : (((M[s]?).getD [])[j]?) with
  | none => exact ⟨ok.pos, by decide⟩
  | some p =>
    have hr : M[s] ∈ M := List.getElem_mem _
    rw [List.getElem?_eq_getElem hs, Option.getD_some] at e
    exact (ok.row _ hr).2 p (List.mem_of_getElem? e)
theorem eq2_all {M1 M2 : Mch} (o1 : MchOk M1) (o2 : MchOk M2) {a b : Nat} (ha : a < M1.length) (hb : b < M2.length) (h : eq2 M1 M2 (M1.length + M2.length - 1) a b) (m : Nat) : eq2 M1 M2 m a b := by
  have k1 := fun s j hs => (mget_ok o1 s j hs).1
  have k2 := fun s j hs => (mget_ok o2 s j hs).1
  rw [eq2_eqk k1 k2 _ _ _ ha hb] at h ⊢
  refine moore (fun s j hs => ?_) (by (clear hb; omega)) (by (clear ha; omega)) h m
  split
  · have := k1 s j ‹_›; (clear hs; clear hb; clear ha; omega)
  · have := k2 (s - M1.length) j (by (clear hb; clear ha; omega)); (clear hs; clear hb; clear ha; omega)
/-! the pairs of states -/
structure PInv (M1 M2 : Mch) (c : Nat) (ps : List (Nat × Nat)) (al : Bool) : Prop where
  st : (0, 0) ∈ ps
  nd : ps.Nodup
  rng : ∀ p ∈ ps, p.1 < M1.length ∧ p.2 < M2.length
  rch : (∀ m, eq2 M1 M2 m 0 0) → ∀ p ∈ ps, ∀ m, eq2 M1 M2 m p.1 p.2
  cl : ∀ k p j, ps[k]? = some p → j < 2 → 2 * k + j < c → ((mget M1 p.1 j).1, (mget M2 p.2 j).1) ∈ ps
  ak : al = true ↔ ∀ k p j, ps[k]? = some p → j < 2 → 2 * k + j < c → (mget M1 p.1 j).2 = (mget M2 p.2 j).2
theorem PInv.init {M1 M2 : Mch} (o1 : MchOk M1) (o2 : MchOk M2) : PInv M1 M2 0 [(0, 0)] true where
  st := by simp
  nd := by simp
  rng := by simp; exact ⟨o1.pos, o2.pos⟩
  rch := fun h p hp m => by rw [List.mem_singleton.mp hp]; exact h m
  cl := fun k p j _ _ h => by omega
  ak := ⟨fun _ k p j _ _ h => by omega, fun _ => rfl⟩
theorem PInv.step {M1 M2 : Mch} {c k j : Nat} {ps qs : List (Nat × Nat)} {al : Bool} (o1 : MchOk M1) (o2 : MchOk M2) (h : PInv M1 M2 c ps al) (hc : c = 2 * k + j) (hj : j < 2) {p : Nat × Nat} (hp : ps[k]? = some p)
    (hq : qs = if ((mget M1 p.1 j).1, (mget M2 p.2 j).1) ∈ ps then ps else ps ++ [((mget M1 p.1 j).1, (mget M2 p.2 j).1)]) :
    PInv M1 M2 (c + 1) qs (al && decide ((mget M1 p.1 j).2 = (mget M2 p.2 j).2)) ∧ qs[k]? = some p := by
  have hpm := List.mem_of_getElem? hp
  have hkl := (List.getElem?_eq_some_iff.mp hp).1
  have hr := h.rng p hpm
  have hsub : ∀ p ∈ ps, p ∈ qs := fun x hx => by rw [hq]; split; exact hx; exact List.mem_append_left _ hx
  have hin : ((mget M1 p.1 j).1, (mget M2 p.2 j).1) ∈ qs := by rw [hq]; split; assumption; simp
  have hmem : ∀ x ∈ qs, x ∈ ps ∨ x = ((mget M1 p.1 j).1, (mget M2 p.2 j).1) := fun x hx => by
    rw [hq] at hx
    split at hx
    · exact .inl hx
    · rcases List.mem_append.mp hx with h | h
      · exact .inl h
      · exact .inr (List.mem_singleton.mp h)
  have hget : ∀ i, i < ps.length → qs[i]? = ps[i]? := fun i hi => by
    rw [hq]; split
    · rfl
    · rw [List.getElem?_append_left hi]
  have hlow : ∀ i x, qs[i]? = some x → ∀ j', j' < 2 → 2 * i + j' < c + 1 → ps[i]? = some x := fun i x e j' hj' hlt => by
    rw [← hget i (by (clear hj'; clear hr; omega))]; exact e
  refine ⟨⟨hsub _ h.st, ?_, ?_, ?_, ?_, ?_⟩, by rw [hget k hkl]; exact hp⟩
  · rw [hq]
    split
    · exact h.nd
    · rename_i hn
      rw [List.nodup_append]
      exact ⟨h.nd, by simp, fun a ha b hb => by rw [List.mem_singleton.mp hb]; rintro rfl; exact hn ha⟩
  · intro x hx
    rcases hmem x hx with hx | rfl
    · exact h.rng x hx
    · exact ⟨(mget_ok o1 _ _ hr.1).1, (mget_ok o2 _ _ hr.2).1⟩
  · intro h0 x hx m
    rcases hmem x hx with hx | rfl
    · exact h.rch h0 x hx m
    · have := h.rch h0 p hpm (m + 1)
      exact (this j hj).2
  · intro i x j' e hj' hlt
    have e' := hlow i x e j' hj' hlt
    by_cases hc' : 2 * i + j' < c
    · exact hsub _ (h.cl i x j' e' hj' hc')
    · obtain ⟨rfl, rfl⟩ : i = k ∧ j' = j := by (clear hr; clear hkl; omega)
      obtain rfl : p = x := by rw [hp] at e'; exact Option.some.inj e'
      exact hin
  · rw [Bool.and_eq_true, h.ak, decide_eq_true_iff]
    constructor
    · rintro ⟨ha, hb⟩ i x j' e hj' hlt
      have e' := hlow i x e j' hj' hlt
      by_cases hc' : 2 * i + j' < c
      · exact ha i x j' e' hj' hc'
      · obtain ⟨rfl, rfl⟩ : i = k ∧ j' = j := by (clear hb; clear hr; clear hkl; omega)
        obtain rfl : p = x := by rw [hp] at e'; exact Option.some.inj e'
        exact hb
    · intro ha
      refine ⟨fun i x j' e hj' hlt => ha i x j' ?_ hj' (by (clear hj'; clear hr; clear hkl; clear hj; clear hc; omega)), ha k p j (by rw [hget k hkl]; exact hp) hj (by (clear hr; clear hkl; clear hj; omega))⟩
      rw [hget i (List.getElem?_eq_some_iff.mp e).1]; exact e
theorem nodup_lt : ∀ (n : Nat) (l : List Nat), l.Nodup → (∀ x ∈ l, x < n) → l.length ≤ n
  | 0, l, _, h => by
    cases l with
    | nil => exact Nat.le_refl _
    | cons a l => exact absurd (h a (.head _)) (Nat.not_lt_zero _)
  | n + 1, l, nd, h => by
    by_cases hn : n ∈ l
    · have := nodup_lt n (l.erase n) (nd.erase n) fun x hx => by
        have h1 := (List.Nodup.mem_erase_iff nd).mp hx
        have := h x h1.2
        have := h1.1
        (clear this; omega)
      rw [List.length_erase_of_mem hn] at this
      omega
    · have := nodup_lt n l nd fun x hx => by
        have := h x hx
        have : x ≠ n := fun e => hn (e ▸ hx)
        (clear hn; omega)
      (clear hn; omega)
theorem PInv.len {M1 M2 : Mch} {c : Nat} {ps : List (Nat × Nat)} {al : Bool} (o1 : MchOk M1) (o2 : MchOk M2) (h : PInv M1 M2 c ps al) : ps.length ≤ 9 := by
  have := nodup_lt 9 (ps.map fun p => p.1 * 3 + p.2) ?_ ?_
  · simpa using this
  · rw [List.Nodup, List.pairwise_map]
    refine List.Pairwise.imp_of_mem ?_ h.nd
    intro a b ha hb hne e
    have r1 := h.rng a ha
    have r2 := h.rng b hb
    have := o2.len
    exact hne (Prod.ext (by (clear hne; omega)) (by (clear hne; omega)))
  · intro x hx
    obtain ⟨p, hp, rfl⟩ := List.mem_map.mp hx
    have r1 := h.rng p hp
    have := o1.len
    have := o2.len
    omega
/-! what is told -/
def Bin (w : List Nat) : Prop := ∀ c ∈ w, c = 120 ∨ c = 121
theorem told_same {M1 M2 : Mch} {c : Nat} {ps : List (Nat × Nat)} (h : PInv M1 M2 c ps true) (hc : c = 2 * ps.length) : ∀ (l : List Nat) (p s t : Nat), (s, t) ∈ ps → toldM M1 l p s = toldM M2 l p t
  | [], _, _, _, _ => rfl
  | c' :: l, p, s, t, hst => by
    rw [toldM, toldM]
    obtain ⟨k, hk⟩ := List.getElem?_of_mem hst
    have hkl := (List.getElem?_eq_some_iff.mp hk).1
    split
    · rename_i hx
      have hj : c' - 120 < 2 := by (clear hkl; clear hc; omega)
      have e1 := h.ak.mp rfl k _ (c' - 120) hk hj (by (clear hj; omega))
      have e2 := h.cl k _ (c' - 120) hk hj (by (clear e1; clear hj; omega))
      dsimp only at e1 e2
      rw [e1, told_same h hc l _ _ _ e2]
    · split
      · rw [told_same h hc l _ 0 0 h.st]
      · rw [told_same h hc l _ _ _ hst]
def runM (M : Mch) : List Nat → Nat → Nat
  | [], s => s
  | c :: cs, s => runM M cs (if c = 120 ∨ c = 121 then (mget M s (c - 120)).1 else if c = 10 then 0 else s)
theorem toldM_app (M : Mch) : ∀ (w v : List Nat) (p s : Nat), toldM M (w ++ v) p s = toldM M w p s ++ toldM M v (p + w.length) (runM M w s)
  | [], v, p, s => rfl
  | c :: w, v, p, s => by
    rw [List.cons_append, toldM, toldM, runM]
    split
    · rw [toldM_app M w v, List.cons_append, List.length_cons]; congr 3; omega
    · split
      · rw [toldM_app M w v, List.cons_append, List.length_cons]; congr 3; omega
      · rw [toldM_app M w v, List.cons_append, List.length_cons]; congr 3; omega
theorem tyS_inj {a b : Nat} (ha : a < 2) (hb : b < 2) (h : tyS a = tyS b) : a = b := by
  obtain rfl | rfl : a = 0 ∨ a = 1 := by (clear hb; omega)
  · obtain rfl | rfl : b = 0 ∨ b = 1 := by (clear ha; omega)
    · rfl
    · exact absurd h (by decide +kernel)
  · obtain rfl | rfl : b = 0 ∨ b = 1 := by (clear ha; omega)
    · exact absurd h (by decide +kernel)
    · rfl
theorem told_eq2 {M1 M2 : Mch} (o1 : MchOk M1) (o2 : MchOk M2) : ∀ (k s t : Nat), s < M1.length → t < M2.length → (∀ w : List Nat, w.length = k → Bin w → ∃ p, toldM M1 w p s = toldM M2 w p t) → eq2 M1 M2 k s t
  | 0, _, _, _, _, _ => trivial
  | k + 1, s, t, hs, ht, h => by
    intro j hj
    have key : ∀ w : List Nat, w.length = k → Bin w → (mget M1 s j).2 = (mget M2 t j).2 ∧ ∃ p, toldM M1 w p (mget M1 s j).1 = toldM M2 w p (mget M2 t j).1 := fun w hw hb => by
      have hx : 120 + j = 120 ∨ 120 + j = 121 := by (clear hw; clear ht; clear hs; omega)
      obtain ⟨p, e⟩ := h ((120 + j) :: w) (by simp [hw]) (fun c hc => by
        rcases List.mem_cons.mp hc with rfl | hc
        · exact hx
        · exact hb c hc)
      rw [toldM, toldM, if_pos hx, if_pos hx] at e
      have hsub : 120 + j - 120 = j := by (clear hx; clear hw; clear hj; clear ht; clear hs; omega)
      rw [hsub] at e
      have e1 := List.cons.inj e
      refine ⟨tyS_inj (mget_ok o1 s j hs).2 (mget_ok o2 t j ht).2 ?_, p + 1, e1.2⟩
      have := congrArg (fun x : Nat × List Str × Nat => x.2.1) e1.1
      simpa using this
    refine ⟨(key (List.replicate k 120) (by simp) (fun c hc => .inl (List.eq_of_mem_replicate hc))).1, ?_⟩
    exact told_eq2 o1 o2 k _ _ (mget_ok o1 s j hs).1 (mget_ok o2 t j ht).1 fun w hw hb => (key w hw hb).2
/-- lines, one behind the other -/
def linesOf : List (List Nat) → List Nat
  | [] => []
  | [w] => w
  | w :: v :: r => w ++ 10 :: linesOf (v :: r)
theorem told_lines {M1 M2 : Mch} : ∀ (ws : List (List Nat)) (p : Nat), toldM M1 (linesOf ws) p 0 = toldM M2 (linesOf ws) p 0 → ∀ w ∈ ws, ∃ p, toldM M1 w p 0 = toldM M2 w p 0
  | [], _, _, w, hw => nomatch hw
  | [v], p, h, w, hw => by rw [List.mem_singleton.mp hw]; exact ⟨p, h⟩
  | v :: u :: r, p, h, w, hw => by
    rw [linesOf, toldM_app, toldM_app] at h
    obtain ⟨e1, e2⟩ := List.append_inj h (by rw [toldM_len, toldM_len])
    rcases List.mem_cons.mp hw with rfl | hw
    · exact ⟨p, e1⟩
    · have hn : ¬ ((10 : Nat) = 120 ∨ (10 : Nat) = 121) := by omega
      rw [toldM, toldM, if_neg hn, if_neg hn, if_pos rfl, if_pos rfl] at e2
      exact told_lines (u :: r) _ (List.cons.inj e2).2 w hw
/-- the law -/
theorem law03 {M1 M2 : Mch} {ps : List (Nat × Nat)} {al : Bool} {c : Nat} (o1 : MchOk M1) (o2 : MchOk M2) (h : PInv M1 M2 c ps al) (hc : c = 2 * ps.length) {ws : List (List Nat)}
    (hw : ∀ w : List Nat, w.length = M1.length + M2.length - 1 → Bin w → w ∈ ws) :
    decide (toldM M1 (linesOf ws) 0 0 = toldM M2 (linesOf ws) 0 0) = al ∧ (al = true → ∀ l p, toldM M1 l p 0 = toldM M2 l p 0) := by
  cases al with
  | true =>
    have q := fun l p => told_same h hc l p 0 0 h.st
    exact ⟨decide_eq_true (q _ _), fun _ => q⟩
  | false =>
    refine ⟨decide_eq_false fun e => ?_, fun e => nomatch e⟩
    have e1 := told_lines ws 0 e
    have e2 := told_eq2 o1 o2 (M1.length + M2.length - 1) 0 0 o1.pos o2.pos fun w hl hb => e1 w (hw w hl hb)
    have e3 := h.rch fun m => eq2_all o1 o2 o1.pos o2.pos e2 m
    have := h.ak.mpr fun k p j hk hj _ => (e3 p (List.mem_of_getElem? hk) 1 j hj).1
    cases this
/-- the words, by their numbers -/
def wordN (n k : Nat) : List Nat := (List.range n).map fun i => 120 + k / 2 ^ i % 2
theorem wordN_all : ∀ (n : Nat) (w : List Nat), w.length = n → Bin w → ∃ k, k < 2 ^ n ∧ wordN n k = w
  | 0, w, h, _ => ⟨0, by simp, by rw [List.length_eq_zero_iff.mp h]; rfl⟩
  | n + 1, [], h, _ => by simp at h
  | n + 1, c :: w, h, hb => by
    obtain ⟨k, hk, e⟩ := wordN_all n w (by simpa using h) fun x hx => hb x (.tail _ hx)
    have hc : c = 120 ∨ c = 121 := hb c (.head _)
    refine ⟨2 * k + (c - 120), by rw [Nat.pow_succ]; (clear h; omega), ?_⟩
    rw [wordN, List.range_succ_eq_map, List.map_cons, List.map_map, ← e]
    congr 1
    · simp; (clear hk; clear h; omega)
    · refine List.map_congr_left fun i _ => ?_
      show 120 + (2 * k + (c - 120)) / 2 ^ (i + 1) % 2 = 120 + k / 2 ^ i % 2
      rw [Nat.pow_succ, Nat.mul_comm (2 ^ i) 2, ← Nat.div_div_eq_div_mul, show (2 * k + (c - 120)) / 2 = k by (clear hk; clear h; omega)]
theorem words_all (n : Nat) (w : List Nat) (h : w.length = n) (hb : Bin w) : w ∈ (List.range (2 ^ n)).map (wordN n) := by
  obtain ⟨k, hk, e⟩ := wordN_all n w h hb
  exact List.mem_map.mpr ⟨k, List.mem_range.mpr hk, e⟩
end Mine

namespace Mine
variable {X : Cx} {A : Around} {F F' : PH} {N : List (Addr × OD)} {G : Array GenState}
def tdD (x : Nat × List Str × Nat) : PyData := .tuple [.int x.1, .tuple (x.2.1.map .str), .str ⟨#[x.2.2]⟩]
theorem ToldV.rds {vs : List Value} {ds : Told} (h : ToldV X.P X F vs ds) : RdsAll X ⟨F, N, G⟩ vs (ds.map tdD) := by
  induction h with
  | nil => exact rdsA_nil
  | cons a b c _ ih => exact rdsA_cons (rds_tup (.fz' a) (rdsA_cons rds_int (rdsA_cons (rds_tup (Kn.any b) (rdsA_strs c)) (rdsA_cons rds_str rdsA_nil)))) ih
theorem ToldAt.rds {a : Addr} {ds : Told} (h : ToldAt X.P X F a ds) : RdsIn X ⟨F, N, G⟩ (.ref a) (.list (ds.map tdD)) := let ⟨_, hf, hv⟩ := h; rds_lst (.fz' hf) hv.rds
theorem ToldAt.mono {P : Params} {a : Addr} {ds : Told} (h : ToldAt P X F a ds) (k : F.le F') : ToldAt P X F' a ds := let ⟨vs, hf, hv⟩ := h; ⟨vs, hf.mono k, hv.mono k⟩
def TdOk (x : Nat × List Str × Nat) : Prop := (∀ n ∈ x.2.1, PyData.strOk n = true) ∧ PyData.strOk ⟨#[x.2.2]⟩ = true
theorem lay_strs : ∀ n : List Str, (∀ x ∈ n, PyData.strOk x = true) → PyData.canLayAll0 (n.map .str) = true ∧ PyData.depthAll (n.map .str) ≤ 1
  | [], _ => ⟨rfl, by simp [PyData.depthAll]⟩
  | x :: n, h => by
    have ih := lay_strs n fun y hy => h y (.tail _ hy)
    refine ⟨by simp [PyData.canLayAll0, PyData.canLay0, ih.1, h x (.head _)], ?_⟩
    simp only [List.map_cons, PyData.depthAll, PyData.depth]
    have := ih.2; (clear this; omega)
theorem lay_tdD {x : Nat × List Str × Nat} (h : TdOk x) : (tdD x).canLay0 = true ∧ (tdD x).depth ≤ 4 := by
  have := lay_strs x.2.1 h.1
  refine ⟨by simp [tdD, PyData.canLayAll0, PyData.canLay0, this.1, h.2], ?_⟩
  simp only [tdD, PyData.depthAll, PyData.depth]
  omega
theorem lay_told : ∀ ds : Told, (∀ x ∈ ds, TdOk x) → PyData.canLayAll0 (ds.map tdD) = true ∧ PyData.depthAll (ds.map tdD) ≤ 5
  | [], _ => ⟨rfl, by simp [PyData.depthAll]⟩
  | x :: ds, k => by
    have ih := lay_told ds fun y hy => k y (.tail _ hy)
    have h := lay_tdD (k x (.head _))
    refine ⟨by simp [PyData.canLayAll0, ih.1, h.1], ?_⟩
    simp only [List.map_cons, PyData.depthAll]
    omega
theorem lay_toldL {ds : Told} (k : ∀ x ∈ ds, TdOk x) : (PyData.list (ds.map tdD)).canLay0 = true ∧ (PyData.list (ds.map tdD)).depth ≤ 6 := by
  have := lay_told ds k
  exact ⟨by simp [PyData.canLay0, this.1], by simp only [PyData.depth]; omega⟩
theorem toldM_ok (M : Mch) : ∀ (l : List Nat) (p s : Nat), (∀ c ∈ l, c < 1114112) → ∀ x ∈ toldM M l p s, TdOk x
  | [], _, _, _ => fun x hx => nomatch hx
  | c :: l, p, s, h => by
    have hc : PyData.strOk ⟨#[c]⟩ = true := by
      have := h c (.head _)
      simp [PyData.strOk]; exact this
    have ht : ∀ t, PyData.strOk (tyS t) = true := fun t => by
      unfold tyS
      split <;> decide +kernel
    have ih := fun p s => toldM_ok M l p s fun d hd => h d (.tail _ hd)
    rw [toldM]
    split
    · intro x hx
      rcases List.mem_cons.mp hx with rfl | hx
      · exact ⟨fun n hn => by rw [List.mem_singleton.mp hn]; exact ht _, hc⟩
      · exact ih _ _ x hx
    · split
      · rename_i e
        subst e
        intro x hx
        rcases List.mem_cons.mp hx with rfl | hx
        · refine ⟨fun n hn => ?_, hc⟩
          rcases List.mem_cons.mp hn with rfl | hn
          · decide +kernel
          · rw [List.mem_singleton.mp hn]; decide +kernel
        · exact ih _ _ x hx
      · intro x hx
        rcases List.mem_cons.mp hx with rfl | hx
        · exact ⟨fun n hn => by rw [List.mem_singleton.mp hn]; decide +kernel, hc⟩
        · exact ih _ _ x hx
theorem eqv_strs : ∀ n m : List Str, PyData.eqvAll (n.map .str) (m.map .str) = decide (n = m)
  | [], [] => by simp [PyData.eqvAll]
  | [], _ :: _ => by simp [PyData.eqvAll]
  | _ :: _, [] => by simp [PyData.eqvAll]
  | x :: n, y :: m => by
    rw [List.map_cons, List.map_cons, PyData.eqvAll, eqv_strs n m, PyData.eqv, Bool.eq_iff_iff]
    simp
theorem eqv_tdD (x y : Nat × List Str × Nat) : PyData.eqv (tdD x) (tdD y) = decide (x = y) := by
  obtain ⟨p, n, c⟩ := x
  obtain ⟨q, m, d⟩ := y
  simp only [tdD, PyData.eqv, PyData.eqvAll, eqv_strs]
  rw [Bool.eq_iff_iff]
  simp
  intro _ _
  exact ⟨fun e => Int.ofNat.inj e, fun e => e ▸ rfl⟩
theorem eqv_told : ∀ ds es : Told, PyData.eqvAll (ds.map tdD) (es.map tdD) = decide (ds = es)
  | [], [] => by simp [PyData.eqvAll]
  | [], _ :: _ => by simp [PyData.eqvAll]
  | _ :: _, [] => by simp [PyData.eqvAll]
  | x :: n, y :: m => by
    rw [List.map_cons, List.map_cons, PyData.eqvAll, eqv_told n m, eqv_tdD, Bool.eq_iff_iff]
    simp
theorem t_eqTold {a b : Addr} {ds es : Told} {R : Value → Led → Prop} (ha : ToldAt X.P X F a ds) (hb : ToldAt X.P X F b es) (k1 : ∀ x ∈ ds, TdOk x) (k2 : ∀ x ∈ es, TdOk x) (hA : Rm A 20) (h : R (.bool (decide (ds = es))) ⟨F, N, G⟩) : Tr X A ⟨F, N, G⟩ (compareOp .Eq (.ref a) (.ref b)) R := by
  refine t_eqRd ha.rds hb.rds (lay_toldL k1).1 (lay_toldL k2).1 ?_ ?_
  · have := hA.un
    have := (lay_toldL k1).2
    omega
  · rw [PyData.eqv, eqv_told]; exact h
/-! pairs of ints -/
def prD (x : Nat × Nat) : PyData := .tuple [.int x.1, .int x.2]
def PairsAt (P : Params) (F : PH) (vs : List Value) (ps : List (Nat × Nat)) : Prop := vs.length = ps.length ∧ ∀ (i : Nat) p, ps[i]? = some p → ∃ v, vs[i]? = some v ∧ PairAt P F v p
theorem PairsAt.mono {P : Params} {vs : List Value} {ps : List (Nat × Nat)} (h : PairsAt P F vs ps) (k : F.le F') : PairsAt P F' vs ps := ⟨h.1, fun i p e => let ⟨v, a, b⟩ := h.2 i p e; ⟨v, a, b.mono k⟩⟩
theorem PairsAt.snoc {P : Params} {vs : List Value} {ps : List (Nat × Nat)} {v : Value} {p : Nat × Nat} (h : PairsAt P F vs ps) (a : PairAt P F v p) : PairsAt P F (vs ++ [v]) (ps ++ [p]) := by
  refine ⟨by simp [h.1], fun i q e => ?_⟩
  rcases Nat.lt_or_ge i ps.length with hi | hi
  · rw [List.getElem?_append_left hi] at e
    obtain ⟨v, e2, b⟩ := h.2 i q e
    exact ⟨v, by rw [List.getElem?_append_left (by rw [h.1]; exact hi)]; exact e2, b⟩
  · rw [List.getElem?_append_right hi] at e
    have h0 : i - ps.length = 0 := by have := (List.getElem?_eq_some_iff.mp e).1; simpa using this
    rw [h0] at e
    obtain rfl : p = q := by simpa using e
    exact ⟨v, by rw [List.getElem?_append_right (by rw [h.1]; exact hi), h.1, h0]; rfl, a⟩
theorem PairsAt.cons_inv {P : Params} {vs : List Value} {p : Nat × Nat} {ps : List (Nat × Nat)} (h : PairsAt P F vs (p :: ps)) : ∃ v vs', vs = v :: vs' ∧ PairAt P F v p ∧ PairsAt P F vs' ps := by
  obtain ⟨hl, hg⟩ := h
  match vs, hl, hg with
  | v :: vs, hl, hg =>
    obtain ⟨u, e, k⟩ := hg 0 p rfl
    obtain rfl : v = u := by simpa using e
    exact ⟨v, vs, rfl, k, by simpa using hl, fun i q e => hg (i + 1) q (by simpa using e)⟩
theorem PairAt.rds {v : Value} {p : Nat × Nat} (h : PairAt X.P F v p) : RdsIn X ⟨F, N, G⟩ v (prD p) := by
  obtain ⟨a, t1, t2, rfl, f⟩ := h
  exact rds_tup (.fz' f) (rdsA_cons rds_int (rdsA_cons rds_int rdsA_nil))
theorem PairsAt.rds : ∀ {ps : List (Nat × Nat)} {vs : List Value}, PairsAt X.P F vs ps → RdsAll X ⟨F, N, G⟩ vs (ps.map prD)
  | [], vs, h => by
    obtain rfl := List.length_eq_zero_iff.mp h.1
    exact rdsA_nil
  | p :: ps, vs, h => by
    obtain ⟨v, vs, rfl, a, b⟩ := h.cons_inv
    exact rdsA_cons a.rds b.rds
theorem lay_prD : ∀ ps : List (Nat × Nat), PyData.canLayAll0 (ps.map prD) = true ∧ PyData.depthAll (ps.map prD) ≤ 4
  | [] => ⟨rfl, by simp [PyData.depthAll]⟩
  | x :: ds => by
    have ih := lay_prD ds
    refine ⟨by simp [prD, PyData.canLayAll0, PyData.canLay0, ih.1], ?_⟩
    simp only [List.map_cons, prD, PyData.depthAll, PyData.depth]
    omega
theorem any_prD (p : Nat × Nat) : ∀ ps : List (Nat × Nat), ((ps.map prD).any fun y => PyData.eqv y (prD p)) = decide (p ∈ ps)
  | [] => by simp
  | x :: ps => by
    rw [List.map_cons, List.any_cons, any_prD p ps, Bool.eq_iff_iff]
    obtain ⟨a, b⟩ := p
    obtain ⟨c, d⟩ := x
    simp only [prD, PyData.eqv, PyData.eqvAll, Bool.or_eq_true, Bool.and_eq_true, decide_eq_true_iff, List.mem_cons, beq_iff_eq, Prod.mk.injEq, and_true]
    constructor
    · rintro (⟨h1, h2⟩ | h)
      · exact .inl ⟨(Int.ofNat.inj h1).symm, (Int.ofNat.inj h2).symm⟩
      · exact .inr h
    · rintro (⟨h1, h2⟩ | h)
      · exact .inl ⟨congrArg _ h1.symm, congrArg _ h2.symm⟩
      · exact .inr h
theorem t_notInPairs {a b : Addr} {vs : List Value} {ps : List (Nat × Nat)} {p : Nat × Nat} {t1 t2 : Tok} {R : Value → Led → Prop} (ha : Kn X ⟨F, N, G⟩ a (.lst vs)) (hv : PairsAt X.P F vs ps) (hb : Kn X ⟨F, N, G⟩ b (.tup [.int (p.1 : Int) t1, .int (p.2 : Int) t2])) (hA : Rm A 20)
    (h : R (.bool (!decide (p ∈ ps))) ⟨F, N, G⟩) : Tr X A ⟨F, N, G⟩ (compareOp .NotIn (.ref b) (.ref a)) R := by
  refine t_notInRd (d := prD p) (rds_lst ha hv.rds) (rds_tup hb (rdsA_cons rds_int (rdsA_cons rds_int rdsA_nil))) (lay_prD ps).1 (by simp [prD, PyData.canLayAll0, PyData.canLay0]) ?_ ?_
  · have := hA.un
    have := (lay_prD ps).2
    omega
  · rw [any_prD]; exact h
end Mine

namespace Mine
variable {w : World} {mg mb : Str → Option Value} {O : OsState} {A : Around} {F F' : PH} {N : List (Addr × OD)} {G : Array GenState}
/-- rows not frozen yet -/
inductive RL (P : Params) (F : PH) (n : Nat) : List (Addr × OD) → List Value → Mch → Prop
  | nil : RL P F n [] [] []
  | snoc {L ws M a vs r} : RL P F n L ws M → PairsAt P F vs r → RowOk n r → RL P F n ((a, .lst vs) :: L) (ws ++ [.ref a]) (M ++ [r])
theorem RL.mono {P : Params} {n : Nat} {L : List (Addr × OD)} {ws : List Value} {M : Mch} (h : RL P F n L ws M) (k : F.le F') : RL P F' n L ws M := by
  induction h with
  | nil => exact .nil
  | snoc _ a b ih => exact .snoc ih (a.mono k) b
theorem RL.len {P : Params} {n : Nat} {L : List (Addr × OD)} {ws : List Value} {M : Mch} (h : RL P F n L ws M) : ws.length = M.length := by
  induction h with
  | nil => rfl
  | snoc _ a b ih => simp [ih]
theorem row_of {P : Params} {a : Addr} {vs : List Value} {r : List (Nat × Nat)} (hf : Fz P F a (.lst vs)) (h : PairsAt P F vs r) : RowAt P F (.ref a) r := ⟨a, vs, rfl, hf, h.1, h.2⟩
theorem RL.all {P : Params} {n : Nat} {L : List (Addr × OD)} {ws : List Value} {M : Mch} (h : RL P F n L ws M) (k : F.le F') (hL : ∀ p ∈ L, Fz P F' p.1 p.2) : RowsAt P F' n ws M := by
  induction h with
  | nil => exact .nil
  | snoc _ a b ih => exact (ih fun p hp => hL p (.tail _ hp)).snoc b (row_of (hL _ (.head _)) (a.mono k))
theorem RL.turn {P : Params} {n : Nat} {L : List (Addr × OD)} {ws : List Value} {M : Mch} (h : RL P F n L ws M) {t : Nat} (ht : t < M.length) :
    ∃ a vs r L', L.Perm ((a, .lst vs) :: L') ∧ ws[t]? = some (.ref a) ∧ M[t]? = some r ∧ PairsAt P F vs r ∧ RowOk n r ∧
      ∀ F' vs' r', F.le F' → (∀ p ∈ L', Fz P F' p.1 p.2) → Fz P F' a (.lst vs') → PairsAt P F' vs' r' → RowOk n r' → RowsAt P F' n ws (M.set t r') := by
  induction h with
  | nil => simp at ht
  | @snoc L ws M b us r h0 a1 b1 ih =>
    have hl := h0.len
    rcases Nat.lt_or_ge t M.length with hlt | hge
    · obtain ⟨a, vs, r0, L', p1, p2, p3, p4, p5, p6⟩ := ih hlt
      refine ⟨a, vs, r0, (b, .lst us) :: L', (p1.cons _).trans (.swap ..), by rw [List.getElem?_append_left (by (clear ht; clear ih; omega))]; exact p2, by rw [List.getElem?_append_left hlt]; exact p3, p4, p5, fun F' vs' r' k hL ha hp ho => ?_⟩
      rw [List.set_append_left _ _ hlt]
      exact (p6 F' vs' r' k (fun p hp => hL p (.tail _ hp)) ha hp ho).snoc b1 (row_of (hL _ (.head _)) (a1.mono k))
    · obtain rfl : t = M.length := by simp at ht; (clear hl; clear ih; omega)
      refine ⟨b, us, r, L, .refl _, by rw [List.getElem?_append_right (by (clear hge; clear ht; clear ih; omega)), hl]; simp, by rw [List.getElem?_append_right (by with_reducible assumption)]; simp, a1, b1, fun F' vs' r' k hL ha hp ho => ?_⟩
      rw [List.set_append_right _ _ (Nat.le_refl _)]
      simp only [Nat.sub_self, List.set_cons_zero]
      exact (h0.all k hL).snoc ho (row_of ha hp)
/-- small numbers -/
def NatsLt (q : Nat) (vs : List Value) : Prop := ∀ (i : Nat) v, vs[i]? = some v → ∃ (j : Nat) (t : Tok), v = .int (j : Int) t ∧ j < q
theorem NatsLt.nil {q : Nat} : NatsLt q [] := fun i v e => by simp at e
theorem NatsLt.snoc {q j : Nat} {vs : List Value} {t : Tok} (h : NatsLt q vs) (hj : j < q) : NatsLt q (vs ++ [.int (j : Int) t]) := fun i v e => by
  rcases Nat.lt_or_ge i vs.length with hi | hi
  · rw [List.getElem?_append_left hi] at e; exact h i v e
  · rw [List.getElem?_append_right hi] at e
    have h0 : i - vs.length = 0 := by have := (List.getElem?_eq_some_iff.mp e).1; simpa using this
    rw [h0] at e
    exact ⟨j, t, (by simpa using e.symm), hj⟩
end Mine
namespace Mine
theorem tr_join {α : Type} {X : Cx} {A : Around} {l : Led} {t : Sem α} {R : α → Led → Prop} (R0 : α → Led → Prop) (h : Tr X A l t (Wk R0)) (k : ∀ v l', R0 v l' → R v l') : Tr X A l t R := (tr_wk h).mono k
theorem pow3_small {j : Nat} (h : j < 2) : ((3 : Int) ^ ((j : Int) + 1).toNat) ≠ 0 ∧ ((3 : Int) ^ ((j : Int) + 1).toNat).natAbs < 1073741824 := by
  obtain rfl | rfl : j = 0 ∨ j = 1 := by omega
  · decide
  · decide
end Mine
namespace Mine
theorem wk_next {α : Type} {F : PH} {N N' : List (Addr × OD)} {G : Array GenState} {R0 : α → Led → Prop} {v : α} (h : R0 v ⟨F, N', G⟩) (p : Pick N N') : Wk R0 v ⟨F, N, G⟩ := ⟨N', p, h⟩
end Mine
namespace Mine
theorem perm_rl {α : Type} {A Lr Lr' N : List α} {x : α} (h : Lr.Perm (x :: Lr')) : (Lr' ++ (x :: (A ++ N))).Perm (A ++ (Lr ++ N)) := by
  have h1 : (A ++ (Lr ++ N)).Perm (Lr ++ (A ++ N)) := by
    rw [← List.append_assoc, ← List.append_assoc]
    exact (List.perm_append_comm (l₁ := A) (l₂ := Lr)).append_right N
  exact (List.perm_middle.trans ((h.symm.append_right (A ++ N)))).trans h1.symm
theorem PairsAt.set {P : Params} {F : PH} {vs : List Value} {ps : List (Nat × Nat)} {i : Nat} {v : Value} {p : Nat × Nat} (h : PairsAt P F vs ps) (a : PairAt P F v p) : PairsAt P F (vs.set i v) (ps.set i p) := by
  refine ⟨by simp [h.1], fun j q e => ?_⟩
  rw [List.getElem?_set] at e ⊢
  by_cases hij : i = j
  · rw [if_pos hij] at e ⊢
    split at e
    · rw [if_pos (by rw [h.1]; assumption)]
      obtain rfl : p = q := by simpa using e
      exact ⟨v, rfl, a⟩
    · cases e
  · rw [if_neg hij] at e ⊢
    exact h.2 j q e
theorem RowOk.set {n i : Nat} {r : List (Nat × Nat)} {p : Nat × Nat} (h : RowOk n r) (hp : p.1 < n ∧ p.2 < 2) : RowOk n (r.set i p) :=
  ⟨by simp [h.1], fun x hx => by
    rcases List.mem_or_eq_of_mem_set hx with hx | rfl
    · exact h.2 x hx
    · exact hp⟩
end Mine
namespace Mine
theorem mget_eq {M : Mch} {s j : Nat} {r : List (Nat × Nat)} {p : Nat × Nat} (h1 : M[s]? = some r) (h2 : r[j]? = some p) : mget M s j = p := by
  unfold mget
  rw [h1, Option.getD_some, h2]; rfl
theorem pairs0 {P : Params} {F : PH} {a : Addr} {t1 t2 : Tok} (h : Fz P F a (.tup [.int 0 t1, .int 0 t2])) : PairsAt P F [.ref a] [(0, 0)] := by
  refine ⟨rfl, fun i p e => ?_⟩
  have hi := (List.getElem?_eq_some_iff.mp e).1
  obtain rfl : i = 0 := by simpa using hi
  obtain rfl : (0, 0) = p := by simpa using e
  exact ⟨_, rfl, a, t1, t2, rfl, h⟩
end Mine
namespace Mine
theorem pow2_small {j : Nat} (h : j < 10) : ((2 : Int) ^ (j : Int).toNat) ≠ 0 ∧ ((2 : Int) ^ (j : Int).toNat).natAbs < 1073741824 := by
  have : ∀ j : Nat, j < 10 → ((2 : Int) ^ j) ≠ 0 ∧ ((2 : Int) ^ j).natAbs < 1073741824 := by decide
  exact this j h
theorem bit_nat (i j : Nat) : ((i : Int).fdiv (2 ^ (j : Int).toNat)).fmod 2 = ((i / 2 ^ j % 2 : Nat) : Int) := by
  rw [Int.toNat_natCast, Int.fmod_eq_emod_of_nonneg _ (by decide), Int.fdiv_eq_ediv_of_nonneg _ (Int.le_of_lt (Int.pow_pos (by decide)))]
  simp
theorem xy_bit {b : Nat} (h : b < 2) : (Str.ofString "xy").cps[(b : Int).toNat]? = some (120 + b) := xy_at h
theorem cps_app (a b : Str) : (a ++ b).cps = a.cps ++ b.cps := rfl
theorem join_singles (f : Nat → Nat) (l : List Nat) : Txt.join "" (l.map fun b => (⟨#[f b]⟩ : Str)) = ⟨(l.map f).toArray⟩ := by
  show Builtin.Str.glued "" _ = _
  rw [StrLaws.glued_eq_join]
  have : ∀ l : List Nat, (Str.join "" (l.map fun b => (⟨#[f b]⟩ : Str))).cps = (l.map f).toArray := by
    intro l
    induction l with
    | nil => rfl
    | cons x l ih =>
      cases l with
      | nil => rfl
      | cons y l =>
        rw [List.map_cons, List.map_cons] at ih ⊢
        rw [Str.join, cps_app, cps_app, ih, show ("" : Str).cps = #[] from rfl]
        simp
        intro h; cases h
  have h := this l
  generalize Str.join "" (l.map fun b => (⟨#[f b]⟩ : Str)) = z at h ⊢
  cases z
  exact congrArg _ h
theorem sjoin2 (sep a b : Str) (r : List Str) : Str.join sep (a :: b :: r) = a ++ sep ++ Str.join sep (b :: r) := rfl
theorem lines_join (ws : List (List Nat)) : (Txt.join "\n" (ws.map fun w => (⟨w.toArray⟩ : Str))).cps.toList = linesOf ws := by
  show (Builtin.Str.glued "\n" _).cps.toList = _
  rw [StrLaws.glued_eq_join]
  induction ws with
  | nil => rfl
  | cons w l ih =>
    cases l with
    | nil => simp [Str.join, linesOf]
    | cons v l =>
      simp only [List.map_cons] at ih ⊢
      rw [sjoin2, cps_app, cps_app, Array.toList_append, Array.toList_append, ih, linesOf, show ("\n" : Str).cps.toList = [10] by decide +kernel]
      · simp
end Mine
namespace Mine
theorem joinOk_small {sep : Str} {ys : List Str} (hl : ∀ y ∈ ys, y.length ≤ 100) (hn : ys.length ≤ 100) (hs : sep.length ≤ 100) : JoinOk sep ys = true := by
  refine joinOk_of ?_
  have h1 : (ys.map (·.length)).sum ≤ ys.length * 100 := by
    clear hn
    induction ys with
    | nil => simp
    | cons y ys ih =>
      have := ih fun z hz => hl z (.tail _ hz)
      have := hl y (.head _)
      simp only [List.map_cons, List.sum_cons, List.length_cons]
      (clear ih; clear hs; omega)
  have h2 := Nat.mul_le_mul hn hs
  (clear hs; omega)
theorem linesOf_len {n : Nat} : ∀ {ws : List (List Nat)}, (∀ w ∈ ws, w.length ≤ n) → (linesOf ws).length ≤ ws.length * (n + 1)
  | [], _ => by simp [linesOf]
  | [w], h => by have := h w (.head _); simp [linesOf]; omega
  | w :: v :: l, h => by
    have h1 := linesOf_len (ws := v :: l) fun x hx => h x (.tail _ hx)
    have h2 := h w (.head _)
    rw [linesOf, List.length_append, List.length_cons, List.length_cons (a := w), Nat.succ_mul]
    omega
theorem linesOf_let : ∀ {ws : List (List Nat)}, (∀ w ∈ ws, ∀ c ∈ w, c < 1114112) → ∀ c ∈ linesOf ws, c < 1114112
  | [], _, c, hc => nomatch hc
  | [w], h, c, hc => h w (.head _) c hc
  | w :: v :: l, h, c, hc => by
    rw [linesOf] at hc
    rcases List.mem_append.mp hc with hc | hc
    · exact h w (.head _) c hc
    · rcases List.mem_cons.mp hc with rfl | hc
      · decide
      · exact linesOf_let (ws := v :: l) (fun x hx => h x (.tail _ hx)) c hc
theorem wordN_len (n k : Nat) : (wordN n k).length = n := by simp [wordN]
theorem wordN_let (n k : Nat) : ∀ c ∈ wordN n k, c < 1114112 := fun c hc => by
  obtain ⟨i, _, rfl⟩ := List.mem_map.mp hc
  have := Nat.mod_lt (k / 2 ^ i) (show 0 < 2 by decide)
  (clear this; omega)
theorem words_text {sz pw : Nat} (hs : sz ≤ 4) (hp : pw ≤ 16) : ∃ T : Str, Txt.join "\n" ((List.range pw).map fun k => (⟨(wordN sz k).toArray⟩ : Str)) = T ∧ T.cps.toList = linesOf ((List.range pw).map (wordN sz)) ∧ T.length ≤ 1000 ∧ ∀ c ∈ T.cps.toList, c < 1114112 := by
  refine ⟨_, rfl, ?_⟩
  have e : (Txt.join "\n" ((List.range pw).map fun k => (⟨(wordN sz k).toArray⟩ : Str))).cps.toList = linesOf ((List.range pw).map (wordN sz)) := by
    rw [← lines_join, List.map_map]; rfl
  refine ⟨e, ?_, ?_⟩
  · have h1 : (linesOf ((List.range pw).map (wordN sz))).length ≤ ((List.range pw).map (wordN sz)).length * (4 + 1) := linesOf_len fun w hw => by
      obtain ⟨k, _, rfl⟩ := List.mem_map.mp hw
      rw [wordN_len]; exact hs
    rw [← e] at h1
    simp at h1
    show (Txt.join "\n" ((List.range pw).map fun k => (⟨(wordN sz k).toArray⟩ : Str))).cps.size ≤ 1000
    (clear hs; omega)
  · rw [e]
    refine linesOf_let fun w hw => ?_
    obtain ⟨k, _, rfl⟩ := List.mem_map.mp hw
    exact wordN_let sz k
end Mine
namespace Mine
theorem singles_text {cs : List Nat} (h : ∀ c ∈ cs, c < 200) (hn : cs.length ≤ 1000) : ∃ T : Str, Txt.join "" (cs.map fun b => (⟨#[b]⟩ : Str)) = T ∧ T.cps.toList = cs ∧ T.length ≤ 1000 ∧ ∀ c ∈ T.cps.toList, c < 1114112 := by
  refine ⟨⟨cs.toArray⟩, ?_, rfl, by simpa [Str.length] using hn, fun c hc => by have := h c hc; (clear hn; omega)⟩
  rw [join_singles (fun b => b)]
  simp
end Mine

namespace Mine
local macro_rules | `(tactic| top_name) => `(tactic| first | (with_reducible exact List.mem_cons_self) | (with_reducible refine List.mem_cons_of_mem _ ?_; top_name) | (with_reducible assumption))
local macro_rules | `(tactic| k_caught0) => `(tactic| first
  | (with_reducible exact LUpd.head) | (with_reducible exact LSet.nil) | (with_reducible exact LSet.head) | (with_reducible exact Rem.head) | (with_reducible exact Pick.refl)
  | ((with_reducible apply LUpd.tail); (k_caught0))
  | ((with_reducible apply LSet.tail); (· (decide +kernel)); (k_caught0))
  | ((with_reducible apply Rem.tail); (k_caught0))
  | ((with_reducible apply Pick.cons); (· k_caught0); (k_caught0))
  | ((with_reducible apply Pick.drop); (k_caught0)))
local macro_rules | `(tactic| top_raise) => `(tactic| first | (with_reducible refine Kn.row' ?_; top_name) | (with_reducible refine Kn.fz' ?_; with_reducible assumption) | (with_reducible assumption) | ((with_reducible refine Kn.skip ?_); top_raise))
local macro_rules | `(tactic| k_caughtN0) => `(tactic| first | assumption | (exact Rm.le (by assumption) (by decide)) | ((refine Rm.dp ?_); k_caughtN0) | ((refine Rm.mk' ?_); k_caughtN0) | (refine Rm.le (Rm.over (n := 40) (Rm.le (by assumption) (by decide)) (by first | exact Quiet.ok (by assumption) | exact fsOk_while (Quiet.ok (by assumption)))) (by decide)))
local macro_rules | `(tactic| k_caughtB) => `(tactic| first | exact Strs.nil | ((apply Strs.cons); k_caughtB) | assumption)
local macro_rules | `(tactic| top_strB) => `(tactic| with_reducible first | exact bl_len | exact bl_isinstance | exact bl_type | exact bl_list | exact bl_tuple | exact bl_range | exact bl_str | exact bl_int | exact bl_abs | exact bl_sum | exact bl_enumerate | exact bl_zip | exact bl_max | exact bl_min | exact bl_divmod | exact bl_callable)
local macro_rules | `(tactic| top_raise0) => `(tactic| with_reducible first | exact g_wall_ | exact g_TokenType_ | exact g_Token | exact g_Whitespace | exact g_Error | exact g_String | exact g_Number | exact g_ALIASES_ | exact g_string_to_tokentype | exact g_CS_ESCAPE | exact g_commonprefix | exact g_make_charset | exact g_pull_ | exact g_same_ | exact g_groupby | exact g_grouper_ | exact g_special_chars_map_ | exact g_escape | exact g_regex_opt_inner | exact g_regex_opt | exact g_Lexer | exact g_include | exact g_inherit_ | exact g_combined | exact g_PseudoMatch_ | exact g_default | exact g_words | exact g_nothing_ | exact g_inherit_place | exact g_merged_tokendefs | exact g_RegexLexerMeta | exact g_RegexLexer | exact g_PlainMatch | exact g_Plain | exact g_PlainLexer | exact g_law_rest_ | exact g_law_told_ | exact g_law)
local macro_rules | `(tactic| top_argsB) => `(tactic| with_reducible first | exact bn_len | exact bn_isinstance | exact bn_type | exact bn_list | exact bn_tuple | exact bn_range | exact bn_str | exact bn_int | exact bn_abs | exact bn_sum | exact bn_enumerate | exact bn_zip | exact bn_max | exact bn_min | exact bn_divmod | exact bn_callable)
local macro_rules | `(tactic| top_reprB) => `(tactic| with_reducible first | exact ga_83 | exact mk_83 | exact bo_83 | exact le_83 | exact ga_624 | exact mk_624 | exact bo_624 | exact le_624 | exact ga_651 | exact mk_651 | exact bo_651 | exact le_651 | exact ga_672 | exact mk_672 | exact bo_672 | exact le_672 | exact in_83 | exact if_83 | exact in_624 | exact if_624 | exact in_651 | exact if_651 | exact in_672 | exact if_672 | exact df_672_get_tokendefs | exact df_672_process_tokendef | exact df_672_process_state_ | exact df_672_process_regex_ | exact df_672_process_token_ | exact df_672_process_new_state_ | exact df_672_get_tokens_unprocessed | exact df_624_group | exact df_624_end | exact df_83_child | exact ni_str_TokenType_ | exact ni_str_combined | exact ni_tuple_inherit_ | exact ni_tuple_include | exact ni_tuple_default | exact ni_tuple_combined | exact ni_int_combined)
local macro_rules | `(tactic| top_caughtB) => `(tactic| with_reducible first | exact fl_83_names | exact fl_624_place | exact fl_624_pieces | exact fl_651_rows | exact fl_672_options | exact fl_672_stripnl | exact fl_672_stripall | exact fl_672_ensurenl | exact fl_672_filters | exact fl_672_tables | exact fl_672_all_tokens_ | exact fl_672_tmpname_ | exact fl_672_tokens_)
local macro_rules | `(tactic| top_raiseB) => `(tactic| with_reducible first | exact st_83_names | exact st_624_place | exact st_624_pieces | exact st_651_rows | exact st_672_options | exact st_672_stripnl | exact st_672_stripall | exact st_672_ensurenl | exact st_672_filters | exact st_672_tables | exact st_672_all_tokens_ | exact st_672_tmpname_ | exact st_672_tokens_)
local macro_rules | `(tactic| k_caughtNB) => `(tactic| with_reducible first | exact callee_bltin | exact callee_type | exact cal_83 | exact cal_624 | exact cal_651 | exact cal_672 | exact cal_621 | exact cal_615 | exact cal_648 | exact cal_73 | exact cal_115 | exact cal_494 | exact cal_501 | exact cal_551 | exact cal_544 | exact cal_536 | exact cal_669 | exact cal_522 | exact cal_529 | exact cal_580 | exact cal_278 | exact cal_680 | exact cal_685)

local macro_rules | `(tactic| top_raise) => `(tactic| with_reducible first | exact kn_89 | exact kn_88 | exact kn_90 | exact kn_108)

variable {w : World} {mg mb : Str → Option Value} {O : OsState} {A : Around} {F F' : PH} {N : List (Addr × OD)} {G : Array GenState}
local macro_rules | `(tactic| top_raise) => `(tactic| with_reducible exact kn_675)
theorem sp_law {sl : Addr} {sc : List Int} {svs : List Value} (hs : FzL F sl svs) (hi : Ints sc svs) (hz : sc.length ≤ 63) (hA : Rm A 200) (hG : AllBare G) (R : Value → Led → Prop)
    (h : ∀ F' G', F.le F' → AllBare G' → R (.bool true) ⟨F', N, G'⟩) : Cl (cx w mg mb O) A ⟨F, N, G⟩ (.call (.ref 685) ⟨[.ref sl], []⟩) (Rv R) := by
  refine cl_def' (binds := [("script", .ref sl)]) rfl (by kernel_rfl!) (by kernel_rfl!) hA.room rfl rfl (n := 6) (by rfl) ?_
  intro L
  with_reducible refine cellsS ?_
  intro _
  with_reducible refine cellsS ?_
  intro _
  with_reducible refine cellsS ?_
  intro _
  with_reducible refine cellsS ?_
  intro _
  with_reducible refine cellsS ?_
  intro _
  with_reducible refine cellsS ?_
  intro _
  with_reducible refine cells0 ?_
  with_reducible refine trB_cons ?_
  ((with_reducible refine' t_storeCell ?zhN ?zu ?zhcl ?zhx ?zhk ?_); (case zhx => kernel_rfl!); (case zhcl => rfl); (case zhN => top_name); (case zu => k_caught0); (case zhk => rfl))
  with_reducible refine trB_nil ?_
  with_reducible refine t_cons ?_
  ((with_reducible refine t_AssignName ?_ ?zhs); (case zhs => rfl))
  ((with_reducible refine' t_ListComp ?zhclos ?zhkind ?zhnames ?zhc ?_ ?zhs); (case zhclos => rfl); (case zhkind => rfl); (case zhnames => decide +kernel); (case zhc => rfl); (case zhs => exact fun _ => rfl))
  ((with_reducible refine t_Call ?_ ?zhe); (case zhe => rfl))
  ((with_reducible refine' t_bltin ?ze ?zhv ?zhn ?zhg ?zhb ?zhk ?zhx ?zhd ?_); (case zhv => top_strB); (case ze => top_argsB); (case zhn => decide +kernel); (case zhg => rfl); (case zhb => rfl); (case zhk => rfl); (case zhx => kernel_rfl!); (case zhd => decide +kernel))
  with_reducible refine t_callWithP ?_
  ((with_reducible refine t_evalArgs ?_ ?zhe); (case zhe => rfl))
  ((with_reducible refine t_args ?_ ?zhe); (case zhe => rfl))
  ((with_reducible refine t_int ?_); (intro _))
  with_reducible refine t_args0 ?_
  ((with_reducible refine cp0 ?zhc ?_); (case zhc => k_caughtNB))
  ((with_reducible refine' t_range1 ?_); (intro _ _ _))
  refine t_iterRange (n := 12) (b := 12) rfl (by top_raise) (by decide) fun it => ?_
  with_reducible refine opn ?_
  intro _
  intro _
  ((with_reducible refine' cs_range ?zhi ?_); (case zhi => top_name))
  rename_i cSc cDr cMa cSt cOt cSz t7 r t1 t2 acc C
  refine cl_fix (N2 := (it, itN 0 12) :: (C, .ns []) :: (acc, .lst []) :: (cSz, .cell none) :: (cOt, .cell none) :: (cSt, .cell none) :: (cMa, .cell none) :: (cDr, .cell none) :: (cSc, .cell (some (.ref sl))) :: (L, .ns []) :: N) (by k_caught0) (by k_caught0) (by k_caught0) ?_
  refine cl_indG (Inv := fun k l => ∃ (i : Nat) (vs : List Value), l = ⟨F, (it, itN i 12) :: (C, .ns []) :: (acc, .lst vs) :: (cSz, .cell none) :: (cOt, .cell none) :: (cSt, .cell none) :: (cMa, .cell none) :: (cDr, .cell none) :: (cSc, .cell (some (.ref sl))) :: (L, .ns []) :: N, G⟩ ∧ i + k = 12 ∧
    Ints ((List.range i).map (dr03 sc)) vs) ?_ 12 _ ⟨0, [], rfl, by (clear hz; omega), .nil⟩
  rintro k l IH ⟨i, vs, rfl, hik, hvs⟩
  have hsl := hi.len
  have hvl := hvs.len
  rw [List.length_map, List.length_range] at hvl
  refine cl_comp1 ?_
  rcases Nat.lt_or_ge i 12 with hi7 | hi7
  · ((with_reducible refine' t_nextRange ?zhi ?zhl ?zu ?_); (case zhi => top_name); (case zhl => exact hi7); (case zu => k_caught0); (intro _))
    with_reducible refine t_goName ?_
    with_reducible refine t_assignName ?_
    ((with_reducible refine' t_store ?zhL ?zu ?zhN ?zhl ?zhx ?zhk ?_); (case zhx => kernel_rfl!); (case zhN => top_name); (case zhL => rfl); (case zhl => k_caught0); (case zu => k_caught0); (case zhk => rfl))
    with_reducible refine t_Bin ?_
    with_reducible refine t_IfExp ?_
    ((with_reducible refine t_isCmp ?_ ?zhb); (case zhb => rfl))
    ((with_reducible refine' t_local ?zhL ?zhN ?zhv ?zhx ?zhk ?zhd ?_); (case zhx => kernel_rfl!); (case zhN => top_name); (case zhL => rfl); (case zhv => top_name); (case zhk => rfl); (case zhd => decide +kernel))
    ((with_reducible refine t_Call ?_ ?zhe); (case zhe => rfl))
    ((with_reducible refine' t_bltin ?ze ?zhv ?zhn ?zhg ?zhb ?zhk ?zhx ?zhd ?_); (case zhv => top_strB); (case ze => top_argsB); (case zhn => decide +kernel); (case zhg => rfl); (case zhb => rfl); (case zhk => rfl); (case zhx => kernel_rfl!); (case zhd => decide +kernel))
    with_reducible refine t_callWithP ?_
    ((with_reducible refine t_evalArgs ?_ ?zhe); (case zhe => rfl))
    ((with_reducible refine t_args ?_ ?zhe); (case zhe => rfl))
    ((with_reducible refine' t_cell ?zhc ?zhcl ?zhk ?zhx ?zhd ?_); (case zhx => kernel_rfl!); (case zhcl => rfl); (case zhc => top_name); (case zhk => rfl); (case zhd => decide +kernel))
    with_reducible refine t_args0 ?_
    ((with_reducible refine cp0 ?zhc ?_); (case zhc => k_caughtNB))
    ((with_reducible refine' t_lenF' ?zha ?zhz ?_); (case zha => assumption); (case zhz => (clear hi7; clear hvl; clear hik; omega)); (intro _))
    with_reducible refine tc_ltI ?_
    with_reducible refine tt_bool ?_
    refine if_b (fun hb => ?_) (fun hb => ?_)
    · have hlt : i < sc.length := by have := of_decide_eq_true hb; (clear hi7; clear hvl; clear hik; clear hz; omega)
      obtain ⟨tv, htv⟩ := hi.get (List.getElem?_eq_getElem hlt)
      have e : dr03 sc i = (sc[i]).fmod 1000003 := by simp [dr03, hlt]
      with_reducible refine t_Sub ?_
      ((with_reducible refine' t_cell ?zhc ?zhcl ?zhk ?zhx ?zhd ?_); (case zhx => kernel_rfl!); (case zhcl => rfl); (case zhc => top_name); (case zhk => rfl); (case zhd => decide +kernel))
      ((with_reducible refine' t_local ?zhL ?zhN ?zhv ?zhx ?zhk ?zhd ?_); (case zhx => kernel_rfl!); (case zhN => top_name); (case zhL => rfl); (case zhv => top_name); (case zhk => rfl); (case zhd => decide +kernel))
      ((with_reducible refine' t_subF' ?zha ?zhs ?_); (case zha => assumption); (case zhs => rfl))
      refine t_itemF' hs (by with_reducible exact Int.natCast_nonneg _) (by (clear e; clear hi7; clear hvl; clear hsl; clear hik; omega)) (v := .int sc[i] tv) (by simpa using htv) ?_
      ((with_reducible refine t_int ?_); (intro _))
      ((with_reducible refine ti_mod ?zhb ?_); (case zhb => decide); (intro _))
      ((with_reducible refine' t_append ?zha ?zu ?zhz ?_); (case zha => top_name); (case zu => k_caught0); (case zhz => (unfold sizeLine; (clear e; clear hi7; clear hsl; clear hik; omega))))
      refine cl_fix (by k_caught0) (by k_caught0) (by k_caught0) (IH (12 - (i + 1)) (by (clear e; clear hvl; clear hsl; clear hz; omega)) _ ⟨i + 1, _, rfl, by (clear e; clear hvl; clear hsl; clear hik; clear hz; omega), ?_⟩)
      rw [List.range_succ, List.map_append]
      exact hvs.append (by rw [List.map_cons, e]; exact .cons .nil)
    · have hlt : ¬ i < sc.length := by have := of_decide_eq_false hb; (clear hi7; clear hvl; clear hik; clear hz; omega)
      obtain ⟨tv, htv⟩ := rest03_get i hi7
      have e : dr03 sc i = ((rest03[i]?).getD 0).fmod 1000003 := by simp [dr03, hlt]
      with_reducible refine t_Sub ?_
      ((with_reducible refine' t_glob ?ze ?zhg ?zhk ?zhx ?zhd ?_); (case ze => top_raise0); (case zhg => rfl); (case zhk => rfl); (case zhx => kernel_rfl!); (case zhd => decide +kernel))
      ((with_reducible refine' t_local ?zhL ?zhN ?zhv ?zhx ?zhk ?zhd ?_); (case zhx => kernel_rfl!); (case zhN => top_name); (case zhL => rfl); (case zhv => top_name); (case zhk => rfl); (case zhd => decide +kernel))
      ((with_reducible refine' t_subTup ?zha ?zhs ?_); (case zha => top_raise); (case zhs => rfl))
      refine t_itemTup kn_675 (by with_reducible exact Int.natCast_nonneg _) (by (clear e; clear hlt; clear hi7; clear hvl; clear hsl; clear hz; omega)) (v := .int ((rest03[i]?).getD 0) tv) (by simpa using htv) ?_
      ((with_reducible refine t_int ?_); (intro _))
      ((with_reducible refine ti_mod ?zhb ?_); (case zhb => decide); (intro _))
      ((with_reducible refine' t_append ?zha ?zu ?zhz ?_); (case zha => top_name); (case zu => k_caught0); (case zhz => (unfold sizeLine; (clear e; clear hlt; clear hi7; clear hsl; clear hz; omega))))
      refine cl_fix (by k_caught0) (by k_caught0) (by k_caught0) (IH (12 - (i + 1)) (by (clear e; clear hlt; clear hvl; clear hsl; clear hz; omega)) _ ⟨i + 1, _, rfl, by (clear e; clear hlt; clear hvl; clear hsl; clear hik; clear hz; omega), ?_⟩)
      rw [List.range_succ, List.map_append]
      exact hvs.append (by rw [List.map_cons, e]; exact .cons .nil)
  · ((with_reducible refine' t_nextRangeEnd ?zhh ?zhi ?zhl ?zu ?_); (case zhh => (refine Rm.hd (n := 0) ?_; k_caughtN0)); (case zhi => top_name); (case zhl => exact hi7); (case zu => k_caught0))
    obtain rfl : i = 12 := by (clear hvl; clear hsl; clear hz; omega)
    have hvs : Ints [dr03 sc 0, dr03 sc 1, dr03 sc 2, dr03 sc 3, dr03 sc 4, dr03 sc 5, dr03 sc 6, dr03 sc 7, dr03 sc 8, dr03 sc 9, dr03 sc 10, dr03 sc 11] vs := hvs
    have hd := dr03_bd sc
    generalize dr03 sc = d at hvs hd
    obtain ⟨t0, w0, e0, hv1⟩ := hvs.inv
    obtain ⟨t1, w1, e1, hv2⟩ := hv1.inv
    obtain ⟨t2, w2, e2, hv3⟩ := hv2.inv
    obtain ⟨t3, w3, e3, hv4⟩ := hv3.inv
    obtain ⟨t4, w4, e4, hv5⟩ := hv4.inv
    obtain ⟨t5, w5, e5, hv6⟩ := hv5.inv
    obtain ⟨t6, w6, e6, hv7⟩ := hv6.inv
    obtain ⟨t7, w7, e7, hv8⟩ := hv7.inv
    obtain ⟨t8, w8, e8, hv9⟩ := hv8.inv
    obtain ⟨t9, w9, e9, hv10⟩ := hv9.inv
    obtain ⟨t10, w10, e10, hv11⟩ := hv10.inv
    obtain ⟨t11, w11, e11, hv12⟩ := hv11.inv
    cases hv12
    subst e11 e10 e9 e8 e7 e6 e5 e4 e3 e2 e1 e0
    ((with_reducible refine' endC ?zr ?_); (case zr => k_caught0))
    ((with_reducible refine' t_storeCell ?zhN ?zu ?zhcl ?zhx ?zhk ?_); (case zhx => kernel_rfl!); (case zhcl => rfl); (case zhN => top_name); (case zu => k_caught0); (case zhk => rfl))
    with_reducible refine fl_next ?_
    with_reducible refine t_cons ?_
    ((with_reducible refine' t_AssignTup ?_ ?zhs ?zhw); (case zhs => rfl); (case zhw => rfl))
    with_reducible refine t_Tuple ?_
    ((with_reducible refine t_args ?_ ?zhe); (case zhe => rfl))
    with_reducible refine t_Bin ?_
    ((with_reducible refine t_int ?_); (intro _))
    with_reducible refine t_Bin ?_
    with_reducible refine t_Sub ?_
    ((with_reducible refine' t_cell ?zhc ?zhcl ?zhk ?zhx ?zhd ?_); (case zhx => kernel_rfl!); (case zhcl => rfl); (case zhc => top_name); (case zhk => rfl); (case zhd => decide +kernel))
    ((with_reducible refine t_int ?_); (intro _))
    ((with_reducible refine' t_subList ?zha ?zhs ?_); (case zha => top_raise); (case zhs => rfl))
    ((with_reducible refine' t_itemList ?zha ?zhi ?zhz ?zhv ?_); (case zha => top_raise); (case zhi => decide); (case zhz => decide); (case zhv => rfl))
    ((with_reducible refine t_int ?_); (intro _))
    ((with_reducible refine ti_mod ?zhb ?_); (case zhb => decide); (intro _))
    ((with_reducible refine ti_add ?_); (intro _))
    ((with_reducible refine t_args ?_ ?zhe); (case zhe => rfl))
    with_reducible refine t_Bin ?_
    ((with_reducible refine t_int ?_); (intro _))
    with_reducible refine t_Bin ?_
    with_reducible refine t_Bin ?_
    with_reducible refine t_Sub ?_
    ((with_reducible refine' t_cell ?zhc ?zhcl ?zhk ?zhx ?zhd ?_); (case zhx => kernel_rfl!); (case zhcl => rfl); (case zhc => top_name); (case zhk => rfl); (case zhd => decide +kernel))
    ((with_reducible refine t_int ?_); (intro _))
    ((with_reducible refine' t_subList ?zha ?zhs ?_); (case zha => top_raise); (case zhs => rfl))
    ((with_reducible refine' t_itemList ?zha ?zhi ?zhz ?zhv ?_); (case zha => top_raise); (case zhi => decide); (case zhz => decide); (case zhv => rfl))
    ((with_reducible refine t_int ?_); (intro _))
    ((with_reducible refine ti_div ?zhb ?zhp ?_); (case zhb => decide); (case zhp => exact PyProof.noPylong_small (by decide)); (intro _))
    ((with_reducible refine t_int ?_); (intro _))
    ((with_reducible refine ti_mod ?zhb ?_); (case zhb => decide); (intro _))
    ((with_reducible refine ti_add ?_); (intro _))
    with_reducible refine t_args0 ?_
    ((with_reducible refine t_newTuple ?zhz ?_); (case zhz => simp [sizeLine]))
    intro _
    ((with_reducible refine' t_assignTup ?zhh ?zha ?zhe ?zhn ?_); (case zhh => (refine Rm.hd (n := 0) ?_; k_caughtN0)); (case zha => top_raise); (case zhe => rfl); (case zhn => rfl))
    with_reducible refine trA_cons ?_
    with_reducible refine t_assignName ?_
    ((with_reducible refine' t_storeCell ?zhN ?zu ?zhcl ?zhx ?zhk ?_); (case zhx => kernel_rfl!); (case zhcl => rfl); (case zhN => top_name); (case zu => k_caught0); (case zhk => rfl))
    with_reducible refine trA_cons ?_
    with_reducible refine t_assignName ?_
    ((with_reducible refine' t_storeM ?zu ?zhN ?zhl ?zhx ?zhk ?_); (case zhx => kernel_rfl!); (case zhN => top_name); (case zhl => k_caught0); (case zu => k_caught0); (case zhk => rfl))
    with_reducible refine trA_nil ?_
    with_reducible refine fl_next ?_
    with_reducible refine t_cons ?_
    ((with_reducible refine' t_AssignComp ?zhsw ?zhclos ?zhkind ?zhnames ?zhc ?_ ?zhs); (case zhsw => rfl); (case zhclos => rfl); (case zhkind => rfl); (case zhnames => decide +kernel); (case zhc => rfl); (case zhs => exact fun _ => rfl))
    ((with_reducible refine t_Call ?_ ?zhe); (case zhe => rfl))
    ((with_reducible refine' t_bltin ?ze ?zhv ?zhn ?zhg ?zhb ?zhk ?zhx ?zhd ?_); (case zhv => top_strB); (case ze => top_argsB); (case zhn => decide +kernel); (case zhg => rfl); (case zhb => rfl); (case zhk => rfl); (case zhx => kernel_rfl!); (case zhd => decide +kernel))
    with_reducible refine t_callWithP ?_
    ((with_reducible refine t_evalArgs ?_ ?zhe); (case zhe => rfl))
    ((with_reducible refine t_args ?_ ?zhe); (case zhe => rfl))
    ((with_reducible refine' t_cell ?zhc ?zhcl ?zhk ?zhx ?zhd ?_); (case zhx => kernel_rfl!); (case zhcl => rfl); (case zhc => top_name); (case zhk => rfl); (case zhd => decide +kernel))
    with_reducible refine t_args0 ?_
    ((with_reducible refine cp0 ?zhc ?_); (case zhc => k_caughtNB))
    ((with_reducible refine' t_range1 ?_); (intro _ _ _))
    obtain ⟨fm, hfm, hfm3⟩ := fmod_nat (a := d 0) (n := 3) (by decide)
    obtain ⟨fq, hfq, hfq2⟩ := fmod_nat (a := (d 0).fdiv 3) (n := 2) (by decide)
    have hfm : (d 0).fmod 3 = (fm : Int) := hfm
    have hfq : ((d 0).fdiv 3).fmod 2 = (fq : Int) := hfq
    obtain ⟨m, hm⟩ : ∃ m, m = 1 + fm := ⟨_, rfl⟩
    obtain ⟨q, hq⟩ : ∃ q, q = 1 + fq := ⟨_, rfl⟩
    rw [show 1 + (d 0).fmod 3 = (m : Int) by rw [hm, hfm]; (clear hq; clear hm; clear hfq; clear hfm; clear hfq2; clear hfq; clear hfm3; clear hfm; clear hvl; clear hi7; clear hik; clear hsl; clear hz; omega), show 1 + ((d 0).fdiv 3).fmod 2 = (q : Int) by rw [hq, hfq]; (clear hq; clear hm; clear hfq; clear hfm; clear hfq2; clear hfq; clear hfm3; clear hfm; clear hvl; clear hi7; clear hik; clear hsl; clear hz; omega)]
    have hm1 : 1 ≤ m := by (clear hq; clear hfq; clear hfm; clear hfq2; clear hfq; clear hfm3; clear hfm; clear hvl; clear hi7; clear hik; clear hsl; clear hz; omega)
    have hm3 : m ≤ 3 := by (clear hm1; clear hq; clear hfq; clear hfm; clear hfq2; clear hfq; clear hfm; clear hvl; clear hi7; clear hik; clear hsl; clear hz; omega)
    have hq1 : 1 ≤ q := by (clear hm3; clear hm1; clear hm; clear hfq; clear hfm; clear hfq2; clear hfq; clear hfm3; clear hfm; clear hvl; clear hi7; clear hik; clear hsl; clear hz; omega)
    have hq2 : q ≤ 2 := by (clear hq1; clear hm3; clear hm1; clear hm; clear hfq; clear hfm; clear hfq; clear hfm3; clear hfm; clear hvl; clear hi7; clear hik; clear hsl; clear hz; omega)
    clear hfm hfq hm hq
    rename_i tm x1 x2 x3 x4 x5 x6 tq mt rg y1 y2
    refine t_iterRange (n := m) (b := (m : Int)) rfl (by top_raise) (by (clear hq2; clear hq1; clear hm1; clear hfq2; clear hfq; clear hfm3; clear hfm; clear hvl; clear hi7; clear hik; clear hsl; clear hz; omega)) fun it => ?_
    with_reducible refine opn ?_
    intro _
    intro _
    ((with_reducible refine' cs_range ?zhi ?_); (case zhi => top_name))
    rename_i fa C1
    obtain ⟨T, hT⟩ : ∃ T : Nat → Tok, T = fun k => ([t0, t1, t2, t3, t4, t5, t6, t7, t8, t9, t10, t11][k]?).getD 0 := ⟨_, rfl⟩
    rw [show [Value.int (d 0) t0, .int (d 1) t1, .int (d 2) t2, .int (d 3) t3, .int (d 4) t4, .int (d 5) t5, .int (d 6) t6, .int (d 7) t7, .int (d 8) t8, .int (d 9) t9, .int (d 10) t10, .int (d 11) t11] = DLs d T from by rw [hT]; rfl]
    clear hT
    refine cl_fix (N2 := (acc, .lst (DLs d T)) :: (it, itN 0 m) :: (C1, .ns []) :: (fa, .lst []) :: (cSz, .cell none) :: (cOt, .cell none) :: (cSt, .cell none) :: (cMa, .cell (some (.int (m : Int) tm))) :: (cDr, .cell (some (.ref acc))) :: (cSc, .cell (some (.ref sl))) :: (L, .ns [("others", .int (q : Int) tq)]) :: N) (by k_caught0) (by k_caught0) (by k_caught0) ?_
    refine cl_freeze .head fun F1 l1 hD => ?_
    have hDn : (DLs d T).length = 12 := by simp
    refine cl_indG (Inv := fun k l => ∃ (i : Nat) (Fx : PH) (ws : List Value) (M : Mch), F1.le Fx ∧ l = ⟨Fx, (it, itN i m) :: (C1, .ns []) :: (fa, .lst ws) :: (cSz, .cell none) :: (cOt, .cell none) :: (cSt, .cell none) :: (cMa, .cell (some (.int (m : Int) tm))) :: (cDr, .cell (some (.ref acc))) :: (cSc, .cell (some (.ref sl))) :: (L, .ns [("others", .int (q : Int) tq)]) :: N, G⟩ ∧ i + k = m ∧ RowsAt w.params Fx m ws M ∧ M.length = i) ?_ m _
      ⟨0, F1, [], [], PH.le_refl _, rfl, by (clear hDn; clear hq2; clear hq1; clear hm3; clear hm1; clear hfq2; clear hfq; clear hfm3; clear hfm; clear hvl; clear hi7; clear hik; clear hsl; clear hz; omega), RowsAt.nil, rfl⟩
    rintro k l IH2 ⟨i, Fx, ws, M, l2, rfl, hik, hws, hMl⟩
    have hD2 := hD.mono l2
    have hwl := hws.1
    refine cl_comp1 ?_
    rcases Nat.lt_or_ge i m with him | him
    · ((with_reducible refine' t_nextRange ?zhi ?zhl ?zu ?_); (case zhi => top_name); (case zhl => exact him); (case zu => k_caught0); (intro _))
      with_reducible refine t_goName ?_
      with_reducible refine t_assignName ?_
      ((with_reducible refine' t_store ?zhL ?zu ?zhN ?zhl ?zhx ?zhk ?_); (case zhx => kernel_rfl!); (case zhN => top_name); (case zhL => rfl); (case zhl => k_caught0); (case zu => k_caught0); (case zhk => rfl))
      ((with_reducible refine' t_ListComp ?zhclos ?zhkind ?zhnames ?zhc ?_ ?zhs); (case zhclos => rfl); (case zhkind => rfl); (case zhnames => decide +kernel); (case zhc => rfl); (case zhs => exact fun _ => rfl))
      with_reducible refine t_Sub ?_
      ((with_reducible refine' t_cell ?zhc ?zhcl ?zhk ?zhx ?zhd ?_); (case zhx => kernel_rfl!); (case zhcl => rfl); (case zhc => top_name); (case zhk => rfl); (case zhd => decide +kernel))
      with_reducible refine t_Slice ?_
      with_reducible refine t_part ?_
      with_reducible refine t_Bin ?_
      ((with_reducible refine t_int ?_); (intro _))
      with_reducible refine t_Bin ?_
      ((with_reducible refine t_int ?_); (intro _))
      ((with_reducible refine' t_local ?zhL ?zhN ?zhv ?zhx ?zhk ?zhd ?_); (case zhx => kernel_rfl!); (case zhN => top_name); (case zhL => rfl); (case zhv => top_name); (case zhk => rfl); (case zhd => decide +kernel))
      ((with_reducible refine ti_mul ?zhm ?_); (case zhm => exact IntMulOk.of_left (by decide)); (intro _))
      ((with_reducible refine ti_add ?_); (intro _))
      with_reducible refine t_part ?_
      with_reducible refine t_Bin ?_
      ((with_reducible refine t_int ?_); (intro _))
      with_reducible refine t_Bin ?_
      ((with_reducible refine t_int ?_); (intro _))
      ((with_reducible refine' t_local ?zhL ?zhN ?zhv ?zhx ?zhk ?zhd ?_); (case zhx => kernel_rfl!); (case zhN => top_name); (case zhL => rfl); (case zhv => top_name); (case zhk => rfl); (case zhd => decide +kernel))
      ((with_reducible refine ti_mul ?zhm ?_); (case zhm => exact IntMulOk.of_left (by decide)); (intro _))
      ((with_reducible refine ti_add ?_); (intro _))
      with_reducible refine opnS ?_
      intro _
      ((with_reducible refine' t_subList ?zha ?zhs ?_); (case zha => top_raise); (case zhs => rfl))
      refine t_sliceL (ws := [.int (d (1 + 2 * i)) (T (1 + 2 * i)), .int (d (2 + 2 * i)) (T (2 + 2 * i))]) (by top_raise) (by top_raise) (.int ..) (.int ..) (by (clear him; clear hwl; clear hMl; clear hik; clear hq2; clear hq1; clear hm3; clear hm1; clear hfq2; clear hfq; clear hfm3; clear hfm; clear hvl; clear hi7; clear hik; clear hsl; clear hz; omega)) (DLs_slice (by (clear hwl; clear hMl; clear hik; clear hDn; clear hq2; clear hq1; clear hm1; clear hfq2; clear hfq; clear hfm3; clear hfm; clear hvl; clear hi7; clear hik; clear hsl; clear hz; omega))) fun c1 => ?_
      ((with_reducible refine' t_iterList ?zha ?_); (case zha => top_raise); (intro _))
      with_reducible refine opn ?_
      intro _
      intro _
      ((with_reducible refine' cs_list ?zhi ?_); (case zhi => top_name))
      refine cl_comp1 ?_
      ((with_reducible refine' t_nextList ?zhi ?zha ?zhv ?zu ?_); (case zhi => top_name); (case zha => top_raise); (case zhv => rfl); (case zu => k_caught0))
      with_reducible refine t_goName ?_
      with_reducible refine t_assignName ?_
      ((with_reducible refine' t_store ?zhL ?zu ?zhN ?zhl ?zhx ?zhk ?_); (case zhx => kernel_rfl!); (case zhN => top_name); (case zhL => rfl); (case zhl => k_caught0); (case zu => k_caught0); (case zhk => rfl))
      with_reducible refine t_Tuple ?_
      ((with_reducible refine t_args ?_ ?zhe); (case zhe => rfl))
      with_reducible refine t_Bin ?_
      ((with_reducible refine' t_local ?zhL ?zhN ?zhv ?zhx ?zhk ?zhd ?_); (case zhx => kernel_rfl!); (case zhN => top_name); (case zhL => rfl); (case zhv => top_name); (case zhk => rfl); (case zhd => decide +kernel))
      ((with_reducible refine' t_cell ?zhc ?zhcl ?zhk ?zhx ?zhd ?_); (case zhx => kernel_rfl!); (case zhcl => rfl); (case zhc => top_name); (case zhk => rfl); (case zhd => decide +kernel))
      ((with_reducible refine ti_mod ?zhb ?_); (case zhb => (clear him; clear hwl; clear hMl; clear hik; clear hDn; clear hq2; clear hq1; clear hm3; clear hfq2; clear hfq; clear hfm3; clear hfm; clear hvl; clear hi7; clear hik; clear hsl; clear hz; omega)); (intro _))
      ((with_reducible refine t_args ?_ ?zhe); (case zhe => rfl))
      with_reducible refine t_Bin ?_
      with_reducible refine t_Bin ?_
      ((with_reducible refine' t_local ?zhL ?zhN ?zhv ?zhx ?zhk ?zhd ?_); (case zhx => kernel_rfl!); (case zhN => top_name); (case zhL => rfl); (case zhv => top_name); (case zhk => rfl); (case zhd => decide +kernel))
      ((with_reducible refine t_int ?_); (intro _))
      ((with_reducible refine ti_div ?zhb ?zhp ?_); (case zhb => decide); (case zhp => exact PyProof.noPylong_small (by decide)); (intro _))
      ((with_reducible refine t_int ?_); (intro _))
      ((with_reducible refine ti_mod ?zhb ?_); (case zhb => decide); (intro _))
      with_reducible refine t_args0 ?_
      ((with_reducible refine t_newTuple ?zhz ?_); (case zhz => simp [sizeLine]))
      intro _
      ((with_reducible refine' t_append0 ?zha ?zu ?_); (case zha => top_name); (case zu => k_caught0))
      refine cl_comp1 ?_
      ((with_reducible refine' t_nextList ?zhi ?zha ?zhv ?zu ?_); (case zhi => top_name); (case zha => top_raise); (case zhv => rfl); (case zu => k_caught0))
      with_reducible refine t_goName ?_
      with_reducible refine t_assignName ?_
      ((with_reducible refine' t_store ?zhL ?zu ?zhN ?zhl ?zhx ?zhk ?_); (case zhx => kernel_rfl!); (case zhN => top_name); (case zhL => rfl); (case zhl => k_caught0); (case zu => k_caught0); (case zhk => rfl))
      with_reducible refine t_Tuple ?_
      ((with_reducible refine t_args ?_ ?zhe); (case zhe => rfl))
      with_reducible refine t_Bin ?_
      ((with_reducible refine' t_local ?zhL ?zhN ?zhv ?zhx ?zhk ?zhd ?_); (case zhx => kernel_rfl!); (case zhN => top_name); (case zhL => rfl); (case zhv => top_name); (case zhk => rfl); (case zhd => decide +kernel))
      ((with_reducible refine' t_cell ?zhc ?zhcl ?zhk ?zhx ?zhd ?_); (case zhx => kernel_rfl!); (case zhcl => rfl); (case zhc => top_name); (case zhk => rfl); (case zhd => decide +kernel))
      ((with_reducible refine ti_mod ?zhb ?_); (case zhb => (clear him; clear hwl; clear hMl; clear hik; clear hDn; clear hq2; clear hq1; clear hm3; clear hfq2; clear hfq; clear hfm3; clear hfm; clear hvl; clear hi7; clear hik; clear hsl; clear hz; omega)); (intro _))
      ((with_reducible refine t_args ?_ ?zhe); (case zhe => rfl))
      with_reducible refine t_Bin ?_
      with_reducible refine t_Bin ?_
      ((with_reducible refine' t_local ?zhL ?zhN ?zhv ?zhx ?zhk ?zhd ?_); (case zhx => kernel_rfl!); (case zhN => top_name); (case zhL => rfl); (case zhv => top_name); (case zhk => rfl); (case zhd => decide +kernel))
      ((with_reducible refine t_int ?_); (intro _))
      ((with_reducible refine ti_div ?zhb ?zhp ?_); (case zhb => decide); (case zhp => exact PyProof.noPylong_small (by decide)); (intro _))
      ((with_reducible refine t_int ?_); (intro _))
      ((with_reducible refine ti_mod ?zhb ?_); (case zhb => decide); (intro _))
      with_reducible refine t_args0 ?_
      ((with_reducible refine t_newTuple ?zhz ?_); (case zhz => simp [sizeLine]))
      intro _
      ((with_reducible refine' t_append1 ?zha ?zu ?_); (case zha => top_name); (case zu => k_caught0))
      refine cl_comp1 ?_
      ((with_reducible refine' t_nextListEnd ?zhh ?zhi ?zha ?zhv ?zu ?_); (case zhh => (refine Rm.hd (n := 0) ?_; k_caughtN0)); (case zhi => top_name); (case zha => top_raise); (case zhv => simp); (case zu => k_caught0))
      ((with_reducible refine' endC ?zr ?_); (case zr => k_caught0))
      ((with_reducible refine' t_append ?zha ?zu ?zhz ?_); (case zha => top_name); (case zu => k_caught0); (case zhz => (unfold sizeLine; (clear him; clear hDn; clear hq2; clear hq1; clear hm1; clear hfq2; clear hfq; clear hfm3; clear hfm; clear hvl; clear hi7; clear hsl; clear hz; omega))))
      obtain ⟨x1, hx1, bx1⟩ := fmod_nat (a := d (1 + 2 * i)) (n := m) (by (clear him; clear hwl; clear hMl; clear hik; clear hDn; clear hq2; clear hq1; clear hm3; clear hfq2; clear hfq; clear hfm3; clear hfm; clear hvl; clear hi7; clear hik; clear hsl; clear hz; omega))
      obtain ⟨x2, hx2, bx2⟩ := fmod_nat (a := d (2 + 2 * i)) (n := m) (by (clear bx1; clear hx1; clear him; clear hwl; clear hMl; clear hik; clear hDn; clear hq2; clear hq1; clear hm3; clear hfq2; clear hfq; clear hfm3; clear hfm; clear hvl; clear hi7; clear hik; clear hsl; clear hz; omega))
      obtain ⟨y1, hy1, by1⟩ : ∃ y : Nat, ((d (1 + 2 * i)).fdiv 3).fmod 2 = (y : Int) ∧ y < 2 := fmod_nat (n := 2) (by decide)
      obtain ⟨y2, hy2, by2⟩ : ∃ y : Nat, ((d (2 + 2 * i)).fdiv 3).fmod 2 = (y : Int) ∧ y < 2 := fmod_nat (n := 2) (by decide)
      rw [hx1, hx2, hy1, hy2]
      refine cl_fix (N2 := (_, .tup [.int (x1 : Int) _, .int (y1 : Int) _]) :: (_, .tup [.int (x2 : Int) _, .int (y2 : Int) _]) :: (_, .lst [.ref _, .ref _]) :: (it, itN (i + 1) m) :: (C1, .ns []) :: (fa, .lst (ws ++ [.ref _])) :: (cSz, .cell none) :: (cOt, .cell none) :: (cSt, .cell none) :: (cMa, .cell (some (.int (m : Int) tm))) :: (cDr, .cell (some (.ref acc))) :: (cSc, .cell (some (.ref sl))) :: (L, .ns [("others", .int (q : Int) tq)]) :: N) (by k_caught0) (by k_caught0) (by k_caught0) ?_
      refine cl_freeze .head fun F2 l3 f1 => ?_
      refine cl_freeze .head fun F3 l4 f2 => ?_
      refine cl_freeze .head fun F4 l5 f3 => ?_
      have l45 := PH.le_trans l4 l5
      exact IH2 (m - (i + 1)) (by (clear by2; clear hy2; clear by1; clear hy1; clear bx2; clear hx2; clear bx1; clear hx1; clear hwl; clear hMl; clear hDn; clear hq2; clear hq1; clear hm3; clear hm1; clear hfq2; clear hfq; clear hfm3; clear hfm; clear hvl; clear hi7; clear hsl; clear hz; omega)) _ ⟨i + 1, F4, _, M ++ [[(x1, y1), (x2, y2)]], PH.le_trans l2 (PH.le_trans l3 l45), rfl, by (clear by2; clear hy2; clear by1; clear hy1; clear bx2; clear hx2; clear bx1; clear hx1; clear hwl; clear hMl; clear hik; clear hDn; clear hq2; clear hq1; clear hm3; clear hm1; clear hfq2; clear hfq; clear hfm3; clear hfm; clear hvl; clear hi7; clear hik; clear hsl; clear hz; omega), (hws.mono (PH.le_trans l3 l45)).snoc (row2_ok bx1 by1 bx2 by2) (row2_at f3 (f1.mono l45) (f2.mono l5)), by simp; with_reducible assumption⟩
    · ((with_reducible refine' t_nextRangeEnd ?zhh ?zhi ?zhl ?zu ?_); (case zhh => (refine Rm.hd (n := 0) ?_; k_caughtN0)); (case zhi => top_name); (case zhl => exact him); (case zu => k_caught0))
      ((with_reducible refine' t_storeM ?zu ?zhN ?zhl ?zhx ?zhk ?_); (case zhx => kernel_rfl!); (case zhN => top_name); (case zhl => k_caught0); (case zu => k_caught0); (case zhk => rfl))
      ((with_reducible refine' endC ?zr ?_); (case zr => k_caught0))
      with_reducible refine fl_next ?_
      with_reducible refine t_cons ?_
      ((with_reducible refine' t_AssignTup ?_ ?zhs ?zhw); (case zhs => rfl); (case zhw => rfl))
      with_reducible refine t_Tuple ?_
      ((with_reducible refine t_args ?_ ?zhe); (case zhe => rfl))
      with_reducible refine t_Sub ?_
      with_reducible refine t_List ?_
      ((with_reducible refine t_args ?_ ?zhe); (case zhe => rfl))
      ((with_reducible refine t_int ?_); (intro _))
      ((with_reducible refine t_args ?_ ?zhe); (case zhe => rfl))
      with_reducible refine t_Bin ?_
      with_reducible refine t_Sub ?_
      ((with_reducible refine' t_cell ?zhc ?zhcl ?zhk ?zhx ?zhd ?_); (case zhx => kernel_rfl!); (case zhcl => rfl); (case zhc => top_name); (case zhk => rfl); (case zhd => decide +kernel))
      ((with_reducible refine t_int ?_); (intro _))
      ((with_reducible refine' t_subList ?zha ?zhs ?_); (case zha => top_raise); (case zhs => rfl))
      ((with_reducible refine' t_itemList ?zha ?zhi ?zhz ?zhv ?_); (case zha => top_raise); (case zhi => decide); (case zhz => decide); (case zhv => rfl))
      ((with_reducible refine' t_cell ?zhc ?zhcl ?zhk ?zhx ?zhd ?_); (case zhx => kernel_rfl!); (case zhcl => rfl); (case zhc => top_name); (case zhk => rfl); (case zhd => decide +kernel))
      ((with_reducible refine ti_mod ?zhb ?_); (case zhb => (clear him; clear hwl; clear hMl; clear hik; clear hDn; clear hq2; clear hq1; clear hm3; clear hfq2; clear hfq; clear hfm3; clear hfm; clear hvl; clear hi7; clear hik; clear hsl; clear hz; omega)); (intro _))
      with_reducible refine t_args0 ?_
      ((with_reducible refine t_newList ?zhz ?_); (case zhz => simp [sizeLine]))
      intro _
      with_reducible refine t_Slice ?_
      with_reducible refine t_part0 ?_
      with_reducible refine t_part ?_
      ((with_reducible refine' t_localM ?zhN ?zhv ?zhx ?zhk ?zhd ?_); (case zhx => kernel_rfl!); (case zhN => top_name); (case zhv => top_name); (case zhk => rfl); (case zhd => decide +kernel))
      with_reducible refine opnS ?_
      intro _
      ((with_reducible refine' t_subList ?zha ?zhs ?_); (case zha => top_raise); (case zhs => rfl))
      obtain ⟨x8, hx8, bx8⟩ := fmod_nat (a := d 8) (n := m) (by (clear him; clear hwl; clear hMl; clear hik; clear hDn; clear hq2; clear hq1; clear hm3; clear hfq2; clear hfq; clear hfm3; clear hfm; clear hvl; clear hi7; clear hik; clear hsl; clear hz; omega))
      rw [hx8]
      refine t_sliceStands (by top_raise) (by top_raise) bx8 hq1 hq2 fun stl SV hSl hSx => ?_
      ((with_reducible refine t_args ?_ ?zhe); (case zhe => rfl))
      with_reducible refine t_List ?_
      with_reducible refine t_args0 ?_
      ((with_reducible refine t_newList ?zhz ?_); (case zhz => simp [sizeLine]))
      intro _
      with_reducible refine t_args0 ?_
      ((with_reducible refine t_newTuple ?zhz ?_); (case zhz => simp [sizeLine]))
      intro _
      ((with_reducible refine' t_assignTup ?zhh ?zha ?zhe ?zhn ?_); (case zhh => (refine Rm.hd (n := 0) ?_; k_caughtN0)); (case zha => top_raise); (case zhe => rfl); (case zhn => rfl))
      with_reducible refine trA_cons ?_
      with_reducible refine t_assignName ?_
      ((with_reducible refine' t_storeCell ?zhN ?zu ?zhcl ?zhx ?zhk ?_); (case zhx => kernel_rfl!); (case zhcl => rfl); (case zhN => top_name); (case zu => k_caught0); (case zhk => rfl))
      with_reducible refine trA_cons ?_
      with_reducible refine t_assignName ?_
      ((with_reducible refine' t_storeM ?zu ?zhN ?zhl ?zhx ?zhk ?_); (case zhx => kernel_rfl!); (case zhN => top_name); (case zhl => k_caught0); (case zu => k_caught0); (case zhk => rfl))
      with_reducible refine trA_nil ?_
      with_reducible refine fl_next ?_
      with_reducible refine t_cons ?_
      ((with_reducible refine t_For ?_ ?zhs); (case zhs => exact fun _ => rfl))
      ((with_reducible refine t_Call ?_ ?zhe); (case zhe => rfl))
      ((with_reducible refine' t_bltin ?ze ?zhv ?zhn ?zhg ?zhb ?zhk ?zhx ?zhd ?_); (case zhv => top_strB); (case ze => top_argsB); (case zhn => decide +kernel); (case zhg => rfl); (case zhb => rfl); (case zhk => rfl); (case zhx => kernel_rfl!); (case zhd => decide +kernel))
      with_reducible refine t_callWithP ?_
      ((with_reducible refine t_evalArgs ?_ ?zhe); (case zhe => rfl))
      ((with_reducible refine t_args ?_ ?zhe); (case zhe => rfl))
      ((with_reducible refine' t_localM ?zhN ?zhv ?zhx ?zhk ?zhd ?_); (case zhx => kernel_rfl!); (case zhN => top_name); (case zhv => top_name); (case zhk => rfl); (case zhd => decide +kernel))
      with_reducible refine t_args0 ?_
      ((with_reducible refine cp0 ?zhc ?_); (case zhc => k_caughtNB))
      ((with_reducible refine' t_range1 ?_); (intro _ _ _))
      refine t_iterRange (n := q) (b := (q : Int)) rfl (by top_raise) (by (clear hSl; clear bx8; clear hx8; clear him; clear hwl; clear hMl; clear hik; clear hDn; clear hq1; clear hm3; clear hm1; clear hfq2; clear hfq; clear hfm3; clear hfm; clear hvl; clear hi7; clear hik; clear hsl; clear hz; omega)) fun it3 => ?_
      rename_i sl1 sec aT rg3 u1 u2
      clear IH IH2 hv1 hv2 hv3 hv4 hv5 hv6 hv7 hv8 hv9 hv10 hv11 hvl hvs
      refine cl_fix (N2 := (it3, itN 0 q) :: (sec, .lst []) :: (stl, .lst SV) :: (fa, .lst ws) :: (cSz, .cell none) :: (cOt, .cell none) :: (cSt, .cell (some (.ref stl))) :: (cMa, .cell (some (.int (m : Int) tm))) :: (cDr, .cell (some (.ref acc))) :: (cSc, .cell (some (.ref sl))) :: (L, .ns [("others", .int (q : Int) tq), ("first", .ref fa), ("second", .ref sec)]) :: N) (by k_caught0) (by k_caught0) (by k_caught0) ?_
      refine cl_freeze (.tail (.tail .head)) fun F3 l3 hst => ?_
      refine cl_freeze (.tail (.tail .head)) fun F4 l4 hfa => ?_
      have hst := hst.mono l4
      have hws := hws.mono (PH.le_trans l3 l4)
      have hD4 := hD2.mono (PH.le_trans l3 l4)
      have hok1 : MchOk M := RowsAt.ok (hMl.symm ▸ (show m = i by (clear hSl; clear bx8; clear hx8; clear hwl; clear hMl; clear hDn; clear hq2; clear hq1; clear hm3; clear hm1; clear hfq2; clear hfq; clear hfm3; clear hfm; clear hi7; clear hsl; clear hz; omega)) ▸ hws) (by (clear hSl; clear bx8; clear hx8; clear hwl; clear hik; clear hDn; clear hq2; clear hq1; clear hm3; clear hfq2; clear hfq; clear hfm3; clear hfm; clear hi7; clear hik; clear hsl; clear hz; omega)) (by (clear hSl; clear bx8; clear hx8; clear him; clear hwl; clear hDn; clear hq2; clear hq1; clear hm1; clear hfq2; clear hfq; clear hfm3; clear hfm; clear hi7; clear hsl; clear hz; omega))
      refine cl_ind (Inv := fun k l => ∃ (i : Nat) (Fy : PH) (Lr : List (Addr × OD)) (ss : List Value) (M2 : Mch) (oc : Option Value), F4.le Fy ∧ l = ⟨Fy, (it3, itN i q) :: (sec, .lst ss) :: (cSz, .cell none) :: (cOt, .cell oc) :: (cSt, .cell (some (.ref stl))) :: (cMa, .cell (some (.int (m : Int) tm))) :: (cDr, .cell (some (.ref acc))) :: (cSc, .cell (some (.ref sl))) :: (L, .ns [("others", .int (q : Int) tq), ("first", .ref fa), ("second", .ref sec)]) :: (Lr ++ N), G⟩ ∧ i + k = q ∧ RL w.params Fy q Lr ss M2 ∧ M2.length = i) ?_ q _ ⟨0, F4, [], [], [], none, PH.le_refl _, rfl, by (clear hSl; clear bx8; clear hx8; clear him; clear hwl; clear hMl; clear hik; clear hDn; clear hq2; clear hq1; clear hm3; clear hm1; clear hfq2; clear hfq; clear hfm3; clear hfm; clear hi7; clear hik; clear hsl; clear hz; omega), .nil, rfl⟩
      rintro k l IH3 ⟨i2, Fy, Lr, ss, M2, oc, l5, rfl, hik2, hRL, hM2⟩
      refine cl_for1 ?_
      rcases Nat.lt_or_ge i2 q with hi2 | hi2
      · ((with_reducible refine' t_nextRange ?zhi ?zhl ?zu ?_); (case zhi => top_name); (case zhl => exact hi2); (case zu => k_caught0); (intro _))
        have hst := hst.mono l5
        have hfa := hfa.mono l5
        have hws := hws.mono l5
        have hD5 := hD4.mono l5
        obtain ⟨y, ty, hy, hym⟩ := hSx i2 hi2
        obtain ⟨r, hr⟩ : ∃ r, M[y]? = some r := ⟨_, List.getElem?_eq_getElem (by (clear hi2; clear hM2; clear hik2; clear hSl; clear bx8; clear hx8; clear hwl; clear hik; clear hDn; clear hq2; clear hq1; clear hm3; clear hm1; clear hfq2; clear hfq; clear hfm3; clear hfm; clear hi7; clear hik; clear hsl; clear hz; omega))⟩
        obtain ⟨hro, vr, hvr, ra, rvs, rfl, hra, hrl, hrg⟩ := hws.2 y r hr
        with_reducible refine t_goName ?_
        with_reducible refine t_assignName ?_
        ((with_reducible refine' t_storeM ?zu ?zhN ?zhl ?zhx ?zhk ?_); (case zhx => kernel_rfl!); (case zhN => top_name); (case zhl => k_caught0); (case zu => k_caught0); (case zhk => rfl))
        with_reducible refine t_cons ?_
        ((with_reducible refine t_AssignName ?_ ?zhs); (case zhs => rfl))
        with_reducible refine t_List ?_
        with_reducible refine t_args0 ?_
        ((with_reducible refine t_newList ?zhz ?_); (case zhz => simp [sizeLine]))
        intro _
        ((with_reducible refine' t_storeM ?zu ?zhN ?zhl ?zhx ?zhk ?_); (case zhx => kernel_rfl!); (case zhN => top_name); (case zhl => k_caught0); (case zu => k_caught0); (case zhk => rfl))
        with_reducible refine fl_next ?_
        with_reducible refine t_cons ?_
        ((with_reducible refine t_For ?_ ?zhs); (case zhs => exact fun _ => rfl))
        ((with_reducible refine t_Call ?_ ?zhe); (case zhe => rfl))
        ((with_reducible refine' t_bltin ?ze ?zhv ?zhn ?zhg ?zhb ?zhk ?zhx ?zhd ?_); (case zhv => top_strB); (case ze => top_argsB); (case zhn => decide +kernel); (case zhg => rfl); (case zhb => rfl); (case zhk => rfl); (case zhx => kernel_rfl!); (case zhd => decide +kernel))
        with_reducible refine t_callWithP ?_
        ((with_reducible refine t_evalArgs ?_ ?zhe); (case zhe => rfl))
        ((with_reducible refine t_args ?_ ?zhe); (case zhe => rfl))
        with_reducible refine t_Sub ?_
        ((with_reducible refine' t_localM ?zhN ?zhv ?zhx ?zhk ?zhd ?_); (case zhx => kernel_rfl!); (case zhN => top_name); (case zhv => top_name); (case zhk => rfl); (case zhd => decide +kernel))
        with_reducible refine t_Sub ?_
        ((with_reducible refine' t_cell ?zhc ?zhcl ?zhk ?zhx ?zhd ?_); (case zhx => kernel_rfl!); (case zhcl => rfl); (case zhc => top_name); (case zhk => rfl); (case zhd => decide +kernel))
        ((with_reducible refine' t_localM ?zhN ?zhv ?zhx ?zhk ?zhd ?_); (case zhx => kernel_rfl!); (case zhN => top_name); (case zhv => top_name); (case zhk => rfl); (case zhd => decide +kernel))
        ((with_reducible refine' t_subList ?zha ?zhs ?_); (case zha => top_raise); (case zhs => rfl))
        refine t_itemList (by top_raise) (by with_reducible exact Int.natCast_nonneg _) (by (clear hrl; clear hym; clear hi2; clear hM2; clear hSl; clear bx8; clear hx8; clear him; clear hwl; clear hMl; clear hik; clear hDn; clear hq1; clear hm3; clear hm1; clear hfq2; clear hfq; clear hfm3; clear hfm; clear hi7; clear hik; clear hsl; clear hz; omega)) (v := .int (y : Int) ty) (by simpa using hy) ?_
        ((with_reducible refine' t_subList ?zha ?zhs ?_); (case zha => top_raise); (case zhs => rfl))
        refine t_itemList (by top_raise) (by with_reducible exact Int.natCast_nonneg _) (by (clear hrl; clear hi2; clear hM2; clear hik2; clear hSl; clear bx8; clear hx8; clear him; clear hwl; clear hMl; clear hik; clear hDn; clear hq2; clear hq1; clear hm1; clear hfq2; clear hfq; clear hfm3; clear hfm; clear hi7; clear hik; clear hsl; clear hz; omega)) (v := .ref ra) (by simpa using hvr) ?_
        with_reducible refine t_args0 ?_
        ((with_reducible refine cp0 ?zhc ?_); (case zhc => k_caughtNB))
        ((with_reducible refine' t_enumList ?zha ?_); (case zha => top_raise); (intro _ _))
        ((with_reducible refine' t_iterEnum ?zhe ?_); (case zhe => top_name))
        rename_i tst rw e4 it4
        refine cl_fix (N2 := (e4, enumO it4 0 .none) :: (it4, itL ra 0) :: (rw, .lst []) :: (it3, itN (i2 + 1) q) :: (sec, .lst ss) :: (cSz, .cell none) :: (cOt, .cell oc) :: (cSt, .cell (some (.ref stl))) :: (cMa, .cell (some (.int (m : Int) tm))) :: (cDr, .cell (some (.ref acc))) :: (cSc, .cell (some (.ref sl))) :: (L, .ns [("others", .int (q : Int) tq), ("first", .ref fa), ("second", .ref sec), ("state", .int (i2 : Int) tst), ("row", .ref rw)]) :: (Lr ++ N)) (by k_caught0) (by k_caught0) (by k_caught0) ?_
        refine cl_ind (Inv := fun k l => ∃ (j : Nat) (Fz' : PH) (vs : List Value) (pr : List (Nat × Nat)) (oc : Option Value) (old : Value), Fy.le Fz' ∧ l = ⟨Fz', (e4, enumO it4 j old) :: (it4, itL ra j) :: (rw, .lst vs) :: (it3, itN (i2 + 1) q) :: (sec, .lst ss) :: (cSz, .cell none) :: (cOt, .cell oc) :: (cSt, .cell (some (.ref stl))) :: (cMa, .cell (some (.int (m : Int) tm))) :: (cDr, .cell (some (.ref acc))) :: (cSc, .cell (some (.ref sl))) :: (L, .ns [("others", .int (q : Int) tq), ("first", .ref fa), ("second", .ref sec), ("state", .int (i2 : Int) tst), ("row", .ref rw)]) :: (Lr ++ N), G⟩ ∧ j + k = 2 ∧ PairsAt w.params Fz' vs pr ∧ pr.length = j ∧ ∀ p ∈ pr, p.1 < q ∧ p.2 < 2) ?_ 2 _ ⟨0, Fy, [], [], oc, .none, PH.le_refl _, rfl, rfl, ⟨rfl, fun i p e => by simp at e⟩, rfl, fun p hp => nomatch hp⟩
        clear oc
        rintro k l IH4 ⟨j, Fz', vs, pr, oc, old, l6, rfl, hjk, hpr, hprl, hprb⟩
        have hst := hst.mono l6
        have hra := hra.mono l6
        have hD6 := hD5.mono l6
        refine cl_for1 ?_
        rcases Nat.lt_or_ge j 2 with hj | hj
        · obtain ⟨p, hp⟩ : ∃ p, r[j]? = some p := ⟨_, List.getElem?_eq_getElem (by have := hro.1; (clear hprl; clear hjk; clear hrl; clear hym; clear hi2; clear hM2; clear hik2; clear hSl; clear bx8; clear hx8; clear him; clear hwl; clear hMl; clear hik; clear hDn; clear hq2; clear hq1; clear hm3; clear hm1; clear hfq2; clear hfq; clear hfm3; clear hfm; clear hi7; clear hik; clear hsl; clear hz; omega))⟩
          obtain ⟨vp, hvp, pa, tp1, tp2, rfl, hpa⟩ := hrg j p hp
          have hpa := hpa.mono l6
          have hpb := hro.2 p (List.mem_of_getElem? hp)
          ((with_reducible refine' t_nextEnumL ?zr1 ?zr2 ?zha ?zhv ?_); (case zr1 => k_caught0); (case zr2 => k_caught0); (case zha => top_raise); (case zhv => exact hvp); (intro _ _))
          ((with_reducible refine' t_goTupE ?zhe ?zu ?_); (case zhe => top_name); (case zu => k_caught0))
          ((with_reducible refine' t_assignTup ?zhh ?zha ?zhe ?zhn ?_); (case zhh => (refine Rm.hd (n := 0) ?_; k_caughtN0)); (case zha => top_raise); (case zhe => rfl); (case zhn => rfl))
          with_reducible refine trA_cons ?_
          with_reducible refine t_assignName ?_
          ((with_reducible refine' t_storeM ?zu ?zhN ?zhl ?zhx ?zhk ?_); (case zhx => kernel_rfl!); (case zhN => top_name); (case zhl => k_caught0); (case zu => k_caught0); (case zhk => rfl))
          with_reducible refine trA_cons ?_
          ((with_reducible refine' t_assignTup ?zhh ?zha ?zhe ?zhn ?_); (case zhh => (refine Rm.hd (n := 0) ?_; k_caughtN0)); (case zha => top_raise); (case zhe => rfl); (case zhn => rfl))
          with_reducible refine trA_cons ?_
          with_reducible refine t_assignName ?_
          ((with_reducible refine' t_storeCell ?zhN ?zu ?zhcl ?zhx ?zhk ?_); (case zhx => kernel_rfl!); (case zhcl => rfl); (case zhN => top_name); (case zu => k_caught0); (case zhk => rfl))
          with_reducible refine trA_cons ?_
          with_reducible refine t_assignName ?_
          ((with_reducible refine' t_storeM ?zu ?zhN ?zhl ?zhx ?zhk ?_); (case zhx => kernel_rfl!); (case zhN => top_name); (case zhl => k_caught0); (case zu => k_caught0); (case zhk => rfl))
          with_reducible refine trA_nil ?_
          with_reducible refine trA_nil ?_
          with_reducible refine t_cons ?_
          ((with_reducible refine' t_AssignComp ?zhsw ?zhclos ?zhkind ?zhnames ?zhc ?_ ?zhs); (case zhsw => rfl); (case zhclos => rfl); (case zhkind => rfl); (case zhnames => decide +kernel); (case zhc => rfl); (case zhs => exact fun _ => rfl))
          ((with_reducible refine t_Call ?_ ?zhe); (case zhe => rfl))
          ((with_reducible refine' t_bltin ?ze ?zhv ?zhn ?zhg ?zhb ?zhk ?zhx ?zhd ?_); (case zhv => top_strB); (case ze => top_argsB); (case zhn => decide +kernel); (case zhg => rfl); (case zhb => rfl); (case zhk => rfl); (case zhx => kernel_rfl!); (case zhd => decide +kernel))
          with_reducible refine t_callWithP ?_
          ((with_reducible refine t_evalArgs ?_ ?zhe); (case zhe => rfl))
          ((with_reducible refine t_args ?_ ?zhe); (case zhe => rfl))
          ((with_reducible refine' t_localM ?zhN ?zhv ?zhx ?zhk ?zhd ?_); (case zhx => kernel_rfl!); (case zhN => top_name); (case zhv => top_name); (case zhk => rfl); (case zhd => decide +kernel))
          with_reducible refine t_args0 ?_
          ((with_reducible refine cp0 ?zhc ?_); (case zhc => k_caughtNB))
          ((with_reducible refine' t_range1 ?_); (intro _ _ _))
          refine t_iterRange (n := q) (b := (q : Int)) rfl (by top_raise) (by (clear hpb; clear hj; clear hprl; clear hjk; clear hrl; clear hym; clear hi2; clear hM2; clear hik2; clear hSl; clear bx8; clear hx8; clear him; clear hwl; clear hMl; clear hik; clear hDn; clear hq1; clear hm3; clear hm1; clear hfq2; clear hfq; clear hfm3; clear hfm; clear hi7; clear hik; clear hsl; clear hz; omega)) fun it5 => ?_
          with_reducible refine opn ?_
          intro _
          intro _
          ((with_reducible refine' cs_range ?zhi ?_); (case zhi => top_name))
          rename_i tE tkE rE uE1 uE2 rds C5
          refine cl_fix (N2 := (it5, itN 0 q) :: (C5, .ns []) :: (rds, .lst []) :: (e4, enumO it4 (j + 1) (.ref pa)) :: (it4, itL ra (j + 1)) :: (rw, .lst vs) :: (it3, itN (i2 + 1) q) :: (sec, .lst ss) :: (cSz, .cell none) :: (cOt, .cell (some (.int (p.1 : Int) tp1))) :: (cSt, .cell (some (.ref stl))) :: (cMa, .cell (some (.int (m : Int) tm))) :: (cDr, .cell (some (.ref acc))) :: (cSc, .cell (some (.ref sl))) :: (L, .ns [("others", .int (q : Int) tq), ("first", .ref fa), ("second", .ref sec), ("state", .int (i2 : Int) tst), ("row", .ref rw), ("k", .int (j : Int) tkE), ("told", .int (p.2 : Int) tp2)]) :: (Lr ++ N)) (by k_caught0) (by k_caught0) (by k_caught0) ?_
          refine cl_indG (Inv := fun k l => ∃ (j5 : Nat) (vs5 : List Value), l = ⟨Fz', (it5, itN j5 q) :: (C5, .ns []) :: (rds, .lst vs5) :: (e4, enumO it4 (j + 1) (.ref pa)) :: (it4, itL ra (j + 1)) :: (rw, .lst vs) :: (it3, itN (i2 + 1) q) :: (sec, .lst ss) :: (cSz, .cell none) :: (cOt, .cell (some (.int (p.1 : Int) tp1))) :: (cSt, .cell (some (.ref stl))) :: (cMa, .cell (some (.int (m : Int) tm))) :: (cDr, .cell (some (.ref acc))) :: (cSc, .cell (some (.ref sl))) :: (L, .ns [("others", .int (q : Int) tq), ("first", .ref fa), ("second", .ref sec), ("state", .int (i2 : Int) tst), ("row", .ref rw), ("k", .int (j : Int) tkE), ("told", .int (p.2 : Int) tp2)]) :: (Lr ++ N), G⟩ ∧ j5 + k = q ∧ NatsLt q vs5 ∧ vs5.length ≤ j5) ?_ q _ ⟨0, [], rfl, by (clear hpb; clear hj; clear hprl; clear hjk; clear hrl; clear hym; clear hi2; clear hM2; clear hik2; clear hSl; clear bx8; clear hx8; clear him; clear hwl; clear hMl; clear hik; clear hDn; clear hq2; clear hq1; clear hm3; clear hm1; clear hfq2; clear hfq; clear hfm3; clear hfm; clear hi7; clear hik; clear hsl; clear hz; omega), .nil, Nat.le_refl _⟩
          rintro k l IH5 ⟨j5, vs5, rfl, hjk5, hn5, hl5⟩
          refine cl_comp1if ?_
          rcases Nat.lt_or_ge j5 q with hj5 | hj5
          · ((with_reducible refine' t_nextRange ?zhi ?zhl ?zu ?_); (case zhi => top_name); (case zhl => exact hj5); (case zu => k_caught0); (intro _))
            with_reducible refine t_goName ?_
            with_reducible refine t_assignName ?_
            ((with_reducible refine' t_store ?zhL ?zu ?zhN ?zhl ?zhx ?zhk ?_); (case zhx => kernel_rfl!); (case zhN => top_name); (case zhL => rfl); (case zhl => k_caught0); (case zu => k_caught0); (case zhk => rfl))
            ((with_reducible refine t_isCmp ?_ ?zhb); (case zhb => rfl))
            with_reducible refine t_Sub ?_
            ((with_reducible refine' t_cell ?zhc ?zhcl ?zhk ?zhx ?zhd ?_); (case zhx => kernel_rfl!); (case zhcl => rfl); (case zhc => top_name); (case zhk => rfl); (case zhd => decide +kernel))
            ((with_reducible refine' t_local ?zhL ?zhN ?zhv ?zhx ?zhk ?zhd ?_); (case zhx => kernel_rfl!); (case zhN => top_name); (case zhL => rfl); (case zhv => top_name); (case zhk => rfl); (case zhd => decide +kernel))
            ((with_reducible refine' t_subList ?zha ?zhs ?_); (case zha => top_raise); (case zhs => rfl))
            obtain ⟨y5, ty5, hy5, hym5⟩ := hSx j5 hj5
            refine t_itemList (by top_raise) (by with_reducible exact Int.natCast_nonneg _) (by (clear hym5; clear hj5; clear hl5; clear hpb; clear hj; clear hprl; clear hjk; clear hrl; clear hym; clear hi2; clear hM2; clear hik2; clear hSl; clear bx8; clear hx8; clear him; clear hwl; clear hMl; clear hik; clear hDn; clear hq1; clear hm3; clear hm1; clear hfq2; clear hfq; clear hfm3; clear hfm; clear hi7; clear hik; clear hsl; clear hz; omega)) (v := .int (y5 : Int) ty5) (by simpa using hy5) ?_
            ((with_reducible refine' t_cell ?zhc ?zhcl ?zhk ?zhx ?zhd ?_); (case zhx => kernel_rfl!); (case zhcl => rfl); (case zhc => top_name); (case zhk => rfl); (case zhd => decide +kernel))
            with_reducible refine tc_eqI ?_
            with_reducible refine tt_bool ?_
            refine if_b (fun hb => ?_) (fun hb => ?_)
            · ((with_reducible refine' t_local ?zhL ?zhN ?zhv ?zhx ?zhk ?zhd ?_); (case zhx => kernel_rfl!); (case zhN => top_name); (case zhL => rfl); (case zhv => top_name); (case zhk => rfl); (case zhd => decide +kernel))
              ((with_reducible refine' t_append ?zha ?zu ?zhz ?_); (case zha => top_name); (case zu => k_caught0); (case zhz => (unfold sizeLine; (clear hym5; clear hj5; clear hpb; clear hj; clear hprl; clear hjk; clear hrl; clear hym; clear hi2; clear hM2; clear hik2; clear hSl; clear bx8; clear hx8; clear him; clear hwl; clear hMl; clear hik; clear hDn; clear hq1; clear hm3; clear hm1; clear hfq2; clear hfq; clear hfm3; clear hfm; clear hi7; clear hik; clear hsl; clear hz; omega))))
              refine cl_fix (by k_caught0) (by k_caught0) (by k_caught0) (IH5 (q - (j5 + 1)) (by (clear hym5; clear hl5; clear hpb; clear hj; clear hprl; clear hjk; clear hrl; clear hym; clear hi2; clear hM2; clear hik2; clear hSl; clear bx8; clear hx8; clear him; clear hwl; clear hMl; clear hik; clear hDn; clear hq2; clear hq1; clear hm3; clear hm1; clear hfq2; clear hfq; clear hfm3; clear hfm; clear hi7; clear hik; clear hsl; clear hz; omega)) _ ⟨j5 + 1, _, rfl, by (clear hym5; clear hl5; clear hjk5; clear hpb; clear hj; clear hprl; clear hjk; clear hrl; clear hym; clear hi2; clear hM2; clear hik2; clear hSl; clear bx8; clear hx8; clear him; clear hwl; clear hMl; clear hik; clear hDn; clear hq2; clear hq1; clear hm3; clear hm1; clear hfq2; clear hfq; clear hfm3; clear hfm; clear hi7; clear hik; clear hsl; clear hz; omega), hn5.snoc hj5, by simp; with_reducible assumption⟩)
            · refine cl_fix (by k_caught0) (by k_caught0) (by k_caught0) (IH5 (q - (j5 + 1)) (by (clear hym5; clear hl5; clear hpb; clear hj; clear hprl; clear hjk; clear hrl; clear hym; clear hi2; clear hM2; clear hik2; clear hSl; clear bx8; clear hx8; clear him; clear hwl; clear hMl; clear hik; clear hDn; clear hq2; clear hq1; clear hm3; clear hm1; clear hfq2; clear hfq; clear hfm3; clear hfm; clear hi7; clear hik; clear hsl; clear hz; omega)) _ ⟨j5 + 1, vs5, rfl, by (clear hym5; clear hl5; clear hjk5; clear hpb; clear hj; clear hprl; clear hjk; clear hrl; clear hym; clear hi2; clear hM2; clear hik2; clear hSl; clear bx8; clear hx8; clear him; clear hwl; clear hMl; clear hik; clear hDn; clear hq2; clear hq1; clear hm3; clear hm1; clear hfq2; clear hfq; clear hfm3; clear hfm; clear hi7; clear hik; clear hsl; clear hz; omega), hn5, by (clear hym5; clear hj5; clear hjk5; clear hpb; clear hj; clear hprl; clear hjk; clear hrl; clear hym; clear hi2; clear hM2; clear hik2; clear hSl; clear bx8; clear hx8; clear him; clear hwl; clear hMl; clear hik; clear hDn; clear hq2; clear hq1; clear hm3; clear hm1; clear hfq2; clear hfq; clear hfm3; clear hfm; clear hi7; clear hik; clear hsl; clear hz; omega)⟩)
          · ((with_reducible refine' t_nextRangeEnd ?zhh ?zhi ?zhl ?zu ?_); (case zhh => (refine Rm.hd (n := 0) ?_; k_caughtN0)); (case zhi => top_name); (case zhl => exact hj5); (case zu => k_caught0))
            ((with_reducible refine' t_storeM ?zu ?zhN ?zhl ?zhx ?zhk ?_); (case zhx => kernel_rfl!); (case zhN => top_name); (case zhl => k_caught0); (case zu => k_caught0); (case zhk => rfl))
            ((with_reducible refine' endC ?zr ?_); (case zr => k_caught0))
            with_reducible refine fl_next ?_
            with_reducible refine t_cons ?_
            refine tr_join (fun (f : Flow) (l' : Led) => f = Flow.next ∧ ∃ (rds : Addr) (vs5 : List Value), l' = ⟨Fz', (rds, .lst vs5) :: (e4, enumO it4 (j + 1) (.ref pa)) :: (it4, itL ra (j + 1)) :: (rw, .lst vs) :: (it3, itN (i2 + 1) q) :: (sec, .lst ss) :: (cSz, .cell none) :: (cOt, .cell (some (.int (p.1 : Int) tp1))) :: (cSt, .cell (some (.ref stl))) :: (cMa, .cell (some (.int (m : Int) tm))) :: (cDr, .cell (some (.ref acc))) :: (cSc, .cell (some (.ref sl))) :: (L, .ns [("others", .int (q : Int) tq), ("first", .ref fa), ("second", .ref sec), ("state", .int (i2 : Int) tst), ("row", .ref rw), ("k", .int (j : Int) tkE), ("told", .int (p.2 : Int) tp2), ("roads", .ref rds)]) :: (Lr ++ N), G⟩ ∧ NatsLt q vs5 ∧ 1 ≤ vs5.length ∧ vs5.length ≤ 2) ?_ ?_
            · with_reducible refine t_If ?_
              ((with_reducible refine t_isCmp ?_ ?zhb); (case zhb => rfl))
              ((with_reducible refine' t_localM ?zhN ?zhv ?zhx ?zhk ?zhd ?_); (case zhx => kernel_rfl!); (case zhN => top_name); (case zhv => top_name); (case zhk => rfl); (case zhd => decide +kernel))
              with_reducible refine t_List ?_
              with_reducible refine t_args0 ?_
              ((with_reducible refine t_newList ?zhz ?_); (case zhz => simp [sizeLine]))
              intro _
              ((with_reducible refine' t_eqNil ?zu ?zha ?zhb ?_); (case zha => top_raise); (case zhb => top_raise); (case zu => exact Rm.un0 (n := 10) (by k_caughtN0)))
              with_reducible refine tt_bool ?_
              refine if_b (fun hb => ?_) (fun hb => ?_)
              · obtain ⟨x9, hx9, bx9⟩ := fmod_nat (a := (p.1 : Int) + (i2 : Int)) (n := q) (by (clear hj5; clear hl5; clear hjk5; clear hpb; clear hj; clear hprl; clear hjk; clear hrl; clear hym; clear hi2; clear hM2; clear hik2; clear hSl; clear bx8; clear hx8; clear him; clear hwl; clear hMl; clear hik; clear hDn; clear hq2; clear hm3; clear hm1; clear hfq2; clear hfq; clear hfm3; clear hfm; clear hi7; clear hik; clear hsl; clear hz; omega))
                with_reducible refine t_cons ?_
                ((with_reducible refine t_AssignName ?_ ?zhs); (case zhs => rfl))
                with_reducible refine t_List ?_
                ((with_reducible refine t_args ?_ ?zhe); (case zhe => rfl))
                with_reducible refine t_Bin ?_
                with_reducible refine t_Bin ?_
                ((with_reducible refine' t_cell ?zhc ?zhcl ?zhk ?zhx ?zhd ?_); (case zhx => kernel_rfl!); (case zhcl => rfl); (case zhc => top_name); (case zhk => rfl); (case zhd => decide +kernel))
                ((with_reducible refine' t_localM ?zhN ?zhv ?zhx ?zhk ?zhd ?_); (case zhx => kernel_rfl!); (case zhN => top_name); (case zhv => top_name); (case zhk => rfl); (case zhd => decide +kernel))
                ((with_reducible refine ti_add ?_); (intro _))
                ((with_reducible refine' t_localM ?zhN ?zhv ?zhx ?zhk ?zhd ?_); (case zhx => kernel_rfl!); (case zhN => top_name); (case zhv => top_name); (case zhk => rfl); (case zhd => decide +kernel))
                ((with_reducible refine ti_mod ?zhb ?_); (case zhb => (clear bx9; clear hx9; clear hj5; clear hl5; clear hjk5; clear hpb; clear hj; clear hprl; clear hjk; clear hrl; clear hym; clear hi2; clear hM2; clear hik2; clear hSl; clear bx8; clear hx8; clear him; clear hwl; clear hMl; clear hik; clear hDn; clear hq2; clear hm3; clear hm1; clear hfq2; clear hfq; clear hfm3; clear hfm; clear hi7; clear hik; clear hsl; clear hz; omega)); (intro _))
                with_reducible refine t_args0 ?_
                ((with_reducible refine t_newList ?zhz ?_); (case zhz => simp [sizeLine]))
                intro _
                ((with_reducible refine' t_storeM ?zu ?zhN ?zhl ?zhx ?zhk ?_); (case zhx => kernel_rfl!); (case zhN => top_name); (case zhl => k_caught0); (case zu => k_caught0); (case zhk => rfl))
                with_reducible refine fl_next ?_
                with_reducible refine t_nil ?_
                rw [hx9]
                rename_i t91 rd9
                exact wk_next (N' := (rd9, .lst [.int (x9 : Int) _]) :: (e4, enumO it4 (j + 1) (.ref pa)) :: (it4, itL ra (j + 1)) :: (rw, .lst vs) :: (it3, itN (i2 + 1) q) :: (sec, .lst ss) :: (cSz, .cell none) :: (cOt, .cell (some (.int (p.1 : Int) tp1))) :: (cSt, .cell (some (.ref stl))) :: (cMa, .cell (some (.int (m : Int) tm))) :: (cDr, .cell (some (.ref acc))) :: (cSc, .cell (some (.ref sl))) :: (L, .ns [("others", .int (q : Int) tq), ("first", .ref fa), ("second", .ref sec), ("state", .int (i2 : Int) tst), ("row", .ref rw), ("k", .int (j : Int) tkE), ("told", .int (p.2 : Int) tp2), ("roads", .ref rd9)]) :: (Lr ++ N)) ⟨rfl, _, _, rfl, NatsLt.nil.snoc bx9, by simp, by simp⟩ (by k_caught0)
              · have hne : 1 ≤ vs5.length := by cases vs5 <;> simp_all
                with_reducible refine t_nil ?_
                exact wk_next (N' := (rds, .lst vs5) :: (e4, enumO it4 (j + 1) (.ref pa)) :: (it4, itL ra (j + 1)) :: (rw, .lst vs) :: (it3, itN (i2 + 1) q) :: (sec, .lst ss) :: (cSz, .cell none) :: (cOt, .cell (some (.int (p.1 : Int) tp1))) :: (cSt, .cell (some (.ref stl))) :: (cMa, .cell (some (.int (m : Int) tm))) :: (cDr, .cell (some (.ref acc))) :: (cSc, .cell (some (.ref sl))) :: (L, .ns [("others", .int (q : Int) tq), ("first", .ref fa), ("second", .ref sec), ("state", .int (i2 : Int) tst), ("row", .ref rw), ("k", .int (j : Int) tkE), ("told", .int (p.2 : Int) tp2), ("roads", .ref rds)]) :: (Lr ++ N)) ⟨rfl, _, _, rfl, hn5, hne, by (clear hne; clear hj5; clear hpb; clear hj; clear hprl; clear hjk; clear hrl; clear hym; clear hi2; clear hM2; clear hik2; clear hSl; clear bx8; clear hx8; clear him; clear hwl; clear hMl; clear hik; clear hDn; clear hq1; clear hm3; clear hm1; clear hfq2; clear hfq; clear hfm3; clear hfm; clear hi7; clear hik; clear hsl; clear hz; omega)⟩ (by k_caught0)
            · rintro _ _ ⟨rfl, rds, vs5, rfl, hn5, hl5, hl6⟩
              with_reducible refine fl_next ?_
              with_reducible refine t_cons ?_
              ((with_reducible refine t_ExprSt ?_ ?zhi ?zhs); (case zhi => rfl); (case zhs => rfl))
              ((with_reducible refine' t_MCall ?_ ?zhe); (case zhe => rfl))
              ((with_reducible refine' t_localM ?zhN ?zhv ?zhx ?zhk ?zhd ?_); (case zhx => kernel_rfl!); (case zhN => top_name); (case zhv => top_name); (case zhk => rfl); (case zhd => decide +kernel))
              ((with_reducible refine' ml_append ?zha ?_); (case zha => top_raise))
              with_reducible refine mc ?_
              with_reducible refine t_callWithP ?_
              ((with_reducible refine t_evalArgs ?_ ?zhe); (case zhe => rfl))
              ((with_reducible refine t_args ?_ ?zhe); (case zhe => rfl))
              with_reducible refine t_Tuple ?_
              ((with_reducible refine t_args ?_ ?zhe); (case zhe => rfl))
              with_reducible refine t_Sub ?_
              ((with_reducible refine' t_localM ?zhN ?zhv ?zhx ?zhk ?zhd ?_); (case zhx => kernel_rfl!); (case zhN => top_name); (case zhv => top_name); (case zhk => rfl); (case zhd => decide +kernel))
              with_reducible refine t_Bin ?_
              with_reducible refine t_Bin ?_
              with_reducible refine t_Bin ?_
              with_reducible refine t_Sub ?_
              ((with_reducible refine' t_cell ?zhc ?zhcl ?zhk ?zhx ?zhd ?_); (case zhx => kernel_rfl!); (case zhcl => rfl); (case zhc => top_name); (case zhk => rfl); (case zhd => decide +kernel))
              with_reducible refine t_Bin ?_
              ((with_reducible refine t_int ?_); (intro _))
              ((with_reducible refine' t_localM ?zhN ?zhv ?zhx ?zhk ?zhd ?_); (case zhx => kernel_rfl!); (case zhN => top_name); (case zhv => top_name); (case zhk => rfl); (case zhd => decide +kernel))
              ((with_reducible refine ti_add ?_); (intro _))
              ((with_reducible refine' t_subList ?zha ?zhs ?_); (case zha => top_raise); (case zhs => rfl))
              have hvl6 := hpr.1
              refine t_itemList (by top_raise) (by (clear hvl6; clear hl6; clear hl5; clear hj5; clear hl5; clear hjk5; clear hpb; clear hj; clear hprl; clear hjk; clear hrl; clear hym; clear hi2; clear hM2; clear hik2; clear hSl; clear bx8; clear hx8; clear him; clear hwl; clear hMl; clear hik; clear hDn; clear hq2; clear hq1; clear hm3; clear hm1; clear hfq2; clear hfq; clear hfm3; clear hfm; clear hi7; clear hik; clear hsl; clear hz; omega)) (by (clear hvl6; clear hl6; clear hl5; clear hj5; clear hl5; clear hjk5; clear hpb; clear hj; clear hprl; clear hjk; clear hrl; clear hym; clear hi2; clear hM2; clear hSl; clear bx8; clear hx8; clear him; clear hwl; clear hMl; clear hik; clear hDn; clear hq1; clear hm3; clear hm1; clear hfq2; clear hfq; clear hfm3; clear hfm; clear hi7; clear hik; clear hsl; clear hz; omega)) (v := .int (d (7 + i2)) (T (7 + i2))) (by rw [show ((7 : Int) + (i2 : Int)).toNat = 7 + i2 by (clear hvl6; clear hl6; clear hl5; clear hj5; clear hl5; clear hjk5; clear hpb; clear hj; clear hprl; clear hjk; clear hrl; clear hym; clear hi2; clear hM2; clear hik2; clear hSl; clear bx8; clear hx8; clear him; clear hwl; clear hMl; clear hik; clear hDn; clear hq2; clear hq1; clear hm3; clear hm1; clear hfq2; clear hfq; clear hfm3; clear hfm; clear hi7; clear hik; clear hsl; clear hz; omega)]; exact DLs_get (by (clear hvl6; clear hl6; clear hl5; clear hj5; clear hl5; clear hjk5; clear hpb; clear hj; clear hprl; clear hjk; clear hrl; clear hym; clear hi2; clear hM2; clear hSl; clear bx8; clear hx8; clear him; clear hwl; clear hMl; clear hik; clear hDn; clear hq1; clear hm3; clear hm1; clear hfq2; clear hfq; clear hfm3; clear hfm; clear hi7; clear hik; clear hsl; clear hz; omega))) ?_
              with_reducible refine t_Bin ?_
              ((with_reducible refine t_int ?_); (intro _))
              with_reducible refine t_Bin ?_
              ((with_reducible refine' t_localM ?zhN ?zhv ?zhx ?zhk ?zhd ?_); (case zhx => kernel_rfl!); (case zhN => top_name); (case zhv => top_name); (case zhk => rfl); (case zhd => decide +kernel))
              ((with_reducible refine t_int ?_); (intro _))
              ((with_reducible refine ti_add ?_); (intro _))
              ((with_reducible refine t_pow ?zha ?zhb ?zhz ?_); (case zha => (clear hvl6; clear hl6; clear hl5; clear hj5; clear hl5; clear hjk5; clear hpb; clear hj; clear hprl; clear hjk; clear hrl; clear hym; clear hi2; clear hM2; clear hik2; clear hSl; clear bx8; clear hx8; clear him; clear hwl; clear hMl; clear hik; clear hDn; clear hq2; clear hq1; clear hm3; clear hm1; clear hfq2; clear hfq; clear hfm3; clear hfm; clear hi7; clear hik; clear hsl; clear hz; omega)); (case zhb => (clear hvl6; clear hl6; clear hl5; clear hj5; clear hl5; clear hjk5; clear hpb; clear hj; clear hprl; clear hjk; clear hrl; clear hym; clear hi2; clear hM2; clear hik2; clear hSl; clear bx8; clear hx8; clear him; clear hwl; clear hMl; clear hik; clear hDn; clear hq2; clear hq1; clear hm3; clear hm1; clear hfq2; clear hfq; clear hfm3; clear hfm; clear hi7; clear hik; clear hsl; clear hz; omega)); (case zhz => (clear hvl6; clear hl6; clear hl5; clear hj5; clear hl5; clear hjk5; clear hpb; clear hj; clear hprl; clear hrl; clear hym; clear hi2; clear hM2; clear hik2; clear hSl; clear bx8; clear hx8; clear him; clear hwl; clear hMl; clear hik; clear hDn; clear hq2; clear hq1; clear hm3; clear hm1; clear hfq2; clear hfq; clear hfm3; clear hfm; clear hi7; clear hik; clear hsl; clear hz; omega)); (intro _))
              ((with_reducible refine ti_div ?zhb ?zhp ?_); (case zhb => exact (pow3_small (by with_reducible assumption)).1); (case zhp => exact PyProof.noPylong_small (pow3_small (by with_reducible assumption)).2); (intro _))
              ((with_reducible refine t_int ?_); (intro _))
              ((with_reducible refine ti_mod ?zhb ?_); (case zhb => decide); (intro _))
              ((with_reducible refine t_Call ?_ ?zhe); (case zhe => rfl))
              ((with_reducible refine' t_bltin ?ze ?zhv ?zhn ?zhg ?zhb ?zhk ?zhx ?zhd ?_); (case zhv => top_strB); (case ze => top_argsB); (case zhn => decide +kernel); (case zhg => rfl); (case zhb => rfl); (case zhk => rfl); (case zhx => kernel_rfl!); (case zhd => decide +kernel))
              with_reducible refine t_callWithP ?_
              ((with_reducible refine t_evalArgs ?_ ?zhe); (case zhe => rfl))
              ((with_reducible refine t_args ?_ ?zhe); (case zhe => rfl))
              ((with_reducible refine' t_localM ?zhN ?zhv ?zhx ?zhk ?zhd ?_); (case zhx => kernel_rfl!); (case zhN => top_name); (case zhv => top_name); (case zhk => rfl); (case zhd => decide +kernel))
              with_reducible refine t_args0 ?_
              ((with_reducible refine cp0 ?zhc ?_); (case zhc => k_caughtNB))
              ((with_reducible refine' t_lenL ?zha ?zhz ?_); (case zha => top_raise); (case zhz => (clear hvl6; clear hl5; clear hj5; clear hl5; clear hjk5; clear hpb; clear hj; clear hprl; clear hjk; clear hrl; clear hym; clear hi2; clear hM2; clear hik2; clear hSl; clear bx8; clear hx8; clear him; clear hwl; clear hMl; clear hik; clear hDn; clear hq2; clear hq1; clear hm3; clear hm1; clear hfq2; clear hfq; clear hfm3; clear hfm; clear hi7; clear hik; clear hsl; clear hz; omega)); (intro _))
              ((with_reducible refine ti_mod ?zhb ?_); (case zhb => (clear hvl6; clear hl6; clear hj5; clear hjk5; clear hpb; clear hj; clear hprl; clear hjk; clear hrl; clear hym; clear hi2; clear hM2; clear hik2; clear hSl; clear bx8; clear hx8; clear him; clear hwl; clear hMl; clear hik; clear hDn; clear hq2; clear hq1; clear hm3; clear hm1; clear hfq2; clear hfq; clear hfm3; clear hfm; clear hi7; clear hik; clear hsl; clear hz; omega)); (intro _))
              ((with_reducible refine' t_subList ?zha ?zhs ?_); (case zha => top_raise); (case zhs => rfl))
              obtain ⟨e, he, hel⟩ := fmod_nat (a := (((d (7 + i2)).fdiv (3 ^ ((j : Int) + 1).toNat)).fmod 3)) (n := vs5.length) (by (clear hvl6; clear hl6; clear hj5; clear hjk5; clear hpb; clear hj; clear hprl; clear hjk; clear hrl; clear hym; clear hi2; clear hM2; clear hik2; clear hSl; clear bx8; clear hx8; clear him; clear hwl; clear hMl; clear hik; clear hDn; clear hq2; clear hq1; clear hm3; clear hm1; clear hfq2; clear hfq; clear hfm3; clear hfm; clear hi7; clear hik; clear hsl; clear hz; omega))
              rw [he]
              obtain ⟨z, tz, hz, hzq⟩ := hn5 e vs5[e] (List.getElem?_eq_getElem hel)
              refine t_itemList (by top_raise) (by with_reducible exact Int.natCast_nonneg _) (by (clear hzq; clear he; clear hvl6; clear hl5; clear hj5; clear hl5; clear hjk5; clear hpb; clear hj; clear hprl; clear hjk; clear hrl; clear hym; clear hi2; clear hM2; clear hik2; clear hSl; clear bx8; clear hx8; clear him; clear hwl; clear hMl; clear hik; clear hDn; clear hq2; clear hq1; clear hm3; clear hm1; clear hfq2; clear hfq; clear hfm3; clear hfm; clear hi7; clear hik; clear hsl; omega)) (v := .int (z : Int) tz) (by rw [← hz]; exact List.getElem?_eq_getElem hel) ?_
              ((with_reducible refine t_args ?_ ?zhe); (case zhe => rfl))
              ((with_reducible refine' t_localM ?zhN ?zhv ?zhx ?zhk ?zhd ?_); (case zhx => kernel_rfl!); (case zhN => top_name); (case zhv => top_name); (case zhk => rfl); (case zhd => decide +kernel))
              with_reducible refine t_args0 ?_
              ((with_reducible refine t_newTuple ?zhz ?_); (case zhz => simp [sizeLine]))
              intro _
              with_reducible refine t_args0 ?_
              ((with_reducible refine cp1 ?zhc ?_); (case zhc => k_caughtNB))
              ((with_reducible refine' t_append ?zha ?zu ?zhz ?_); (case zha => top_name); (case zu => k_caught0); (case zhz => (unfold sizeLine; (clear hzq; clear he; clear hl6; clear hl5; clear hj5; clear hl5; clear hjk5; clear hpb; clear hj; clear hrl; clear hym; clear hi2; clear hM2; clear hik2; clear hSl; clear bx8; clear hx8; clear him; clear hwl; clear hMl; clear hik; clear hDn; clear hq2; clear hq1; clear hm3; clear hm1; clear hfq2; clear hfq; clear hfm3; clear hfm; clear hi7; clear hik; clear hsl; omega))))
              with_reducible refine fl_next ?_
              with_reducible refine t_nil ?_
              with_reducible refine tu_next ?_
              rename_i tp
              refine cl_fix (N2 := (tp, .tup [.int (z : Int) tz, .int (p.2 : Int) tp2]) :: (e4, enumO it4 (j + 1) (.ref pa)) :: (it4, itL ra (j + 1)) :: (rw, .lst (vs ++ [.ref tp])) :: (it3, itN (i2 + 1) q) :: (sec, .lst ss) :: (cSz, .cell none) :: (cOt, .cell (some (.int (p.1 : Int) tp1))) :: (cSt, .cell (some (.ref stl))) :: (cMa, .cell (some (.int (m : Int) tm))) :: (cDr, .cell (some (.ref acc))) :: (cSc, .cell (some (.ref sl))) :: (L, .ns [("others", .int (q : Int) tq), ("first", .ref fa), ("second", .ref sec), ("state", .int (i2 : Int) tst), ("row", .ref rw)]) :: (Lr ++ N)) (by k_caught0) (by k_caught0) (by k_caught0) ?_
              refine cl_freeze .head fun F7 l7 htp => ?_
              exact IH4 (2 - (j + 1)) (by (clear hzq; clear he; clear hvl6; clear hl6; clear hl5; clear hj5; clear hl5; clear hjk5; clear hpb; clear hprl; clear hrl; clear hym; clear hi2; clear hM2; clear hik2; clear hSl; clear bx8; clear hx8; clear him; clear hwl; clear hMl; clear hik; clear hDn; clear hq2; clear hq1; clear hm3; clear hm1; clear hfq2; clear hfq; clear hfm3; clear hfm; clear hi7; clear hik; clear hsl; omega)) _ ⟨j + 1, F7, _, pr ++ [(z, p.2)], _, _, PH.le_trans l6 l7, rfl, by (clear hzq; clear he; clear hvl6; clear hl6; clear hl5; clear hj5; clear hl5; clear hjk5; clear hpb; clear hprl; clear hjk; clear hrl; clear hym; clear hi2; clear hM2; clear hik2; clear hSl; clear bx8; clear hx8; clear him; clear hwl; clear hMl; clear hik; clear hDn; clear hq2; clear hq1; clear hm3; clear hm1; clear hfq2; clear hfq; clear hfm3; clear hfm; clear hi7; clear hik; clear hsl; omega), (hpr.mono l7).snoc ⟨tp, tz, tp2, rfl, htp⟩, by simp; with_reducible assumption, fun x hx => by
                rcases List.mem_append.mp hx with hx | hx
                · exact hprb x hx
                · rw [List.mem_singleton.mp hx]; exact ⟨hzq, hpb.2⟩⟩
        · ((with_reducible refine' t_nextEnumLEnd ?zhh ?zr1 ?zr2 ?zha ?zhv ?_); (case zhh => (refine Rm.hd (n := 0) ?_; k_caughtN0)); (case zr1 => k_caught0); (case zr2 => k_caught0); (case zha => top_raise); (case zhv => (have := hro.1; (clear hprl; clear hjk; clear hym; clear hi2; clear hM2; clear hik2; clear hSl; clear bx8; clear hx8; clear him; clear hwl; clear hMl; clear hik; clear hDn; clear hq2; clear hq1; clear hm3; clear hm1; clear hfq2; clear hfq; clear hfm3; clear hfm; clear hi7; clear hik; clear hsl; clear hz; omega))))
          have hssl := hRL.len
          with_reducible refine t_nil ?_
          with_reducible refine fl_next ?_
          with_reducible refine t_cons ?_
          ((with_reducible refine t_ExprSt ?_ ?zhi ?zhs); (case zhi => rfl); (case zhs => rfl))
          ((with_reducible refine' t_MCall ?_ ?zhe); (case zhe => rfl))
          ((with_reducible refine' t_localM ?zhN ?zhv ?zhx ?zhk ?zhd ?_); (case zhx => kernel_rfl!); (case zhN => top_name); (case zhv => top_name); (case zhk => rfl); (case zhd => decide +kernel))
          ((with_reducible refine' ml_append ?zha ?_); (case zha => top_raise))
          with_reducible refine mc ?_
          with_reducible refine t_callWithP ?_
          ((with_reducible refine t_evalArgs ?_ ?zhe); (case zhe => rfl))
          ((with_reducible refine t_args ?_ ?zhe); (case zhe => rfl))
          ((with_reducible refine' t_localM ?zhN ?zhv ?zhx ?zhk ?zhd ?_); (case zhx => kernel_rfl!); (case zhN => top_name); (case zhv => top_name); (case zhk => rfl); (case zhd => decide +kernel))
          with_reducible refine t_args0 ?_
          ((with_reducible refine cp1 ?zhc ?_); (case zhc => k_caughtNB))
          ((with_reducible refine' t_append ?zha ?zu ?zhz ?_); (case zha => top_name); (case zu => k_caught0); (case zhz => (unfold sizeLine; (clear hj; clear hprl; clear hjk; clear hrl; clear hym; clear hi2; clear hSl; clear bx8; clear hx8; clear him; clear hwl; clear hMl; clear hik; clear hDn; clear hq1; clear hm3; clear hm1; clear hfq2; clear hfq; clear hfm3; clear hfm; clear hi7; clear hik; clear hsl; clear hz; omega))))
          with_reducible refine fl_next ?_
          with_reducible refine t_nil ?_
          with_reducible refine tu_next ?_
          refine cl_fix (N2 := (it3, itN (i2 + 1) q) :: (sec, .lst (ss ++ [.ref rw])) :: (cSz, .cell none) :: (cOt, .cell oc) :: (cSt, .cell (some (.ref stl))) :: (cMa, .cell (some (.int (m : Int) tm))) :: (cDr, .cell (some (.ref acc))) :: (cSc, .cell (some (.ref sl))) :: (L, .ns [("others", .int (q : Int) tq), ("first", .ref fa), ("second", .ref sec)]) :: (rw, .lst vs) :: (Lr ++ N)) (by k_caught0) (by k_caught0) (by k_caught0) ?_
          exact IH3 (q - (i2 + 1)) (by (clear hssl; clear hj; clear hprl; clear hjk; clear hrl; clear hym; clear hM2; clear hSl; clear bx8; clear hx8; clear him; clear hwl; clear hMl; clear hik; clear hDn; clear hq2; clear hq1; clear hm3; clear hm1; clear hfq2; clear hfq; clear hfm3; clear hfm; clear hi7; clear hik; clear hsl; clear hz; omega)) _ ⟨i2 + 1, Fz', (rw, .lst vs) :: Lr, _, M2 ++ [pr], oc, PH.le_trans l5 l6, rfl, by (clear hssl; clear hj; clear hprl; clear hjk; clear hrl; clear hym; clear hM2; clear hik2; clear hSl; clear bx8; clear hx8; clear him; clear hwl; clear hMl; clear hik; clear hDn; clear hq2; clear hq1; clear hm3; clear hm1; clear hfq2; clear hfq; clear hfm3; clear hfm; clear hi7; clear hik; clear hsl; clear hz; omega), (hRL.mono l6).snoc hpr ⟨by (clear hssl; clear hrl; clear hym; clear hi2; clear hM2; clear hik2; clear hSl; clear bx8; clear hx8; clear him; clear hwl; clear hMl; clear hik; clear hDn; clear hq2; clear hq1; clear hm3; clear hm1; clear hfq2; clear hfq; clear hfm3; clear hfm; clear hi7; clear hik; clear hsl; clear hz; omega), hprb⟩, by simp; with_reducible assumption⟩
      · ((with_reducible refine' t_nextRangeEnd ?zhh ?zhi ?zhl ?zu ?_); (case zhh => (refine Rm.hd (n := 0) ?_; k_caughtN0)); (case zhi => top_name); (case zhl => exact hi2); (case zu => k_caught0))
        obtain rfl : q = i2 := by (clear hM2; clear hSl; clear bx8; clear hx8; clear him; clear hwl; clear hMl; clear hik; clear hDn; clear hq2; clear hq1; clear hm3; clear hm1; clear hfq2; clear hfq; clear hfm3; clear hfm; clear hi7; clear hik; clear hsl; clear hz; omega)
        have hst := hst.mono l5
        have hfa := hfa.mono l5
        have hws := hws.mono l5
        have hD5 := hD4.mono l5
        with_reducible refine t_nil ?_
        with_reducible refine fl_next ?_
        with_reducible refine t_cons ?_
        refine t_AssignTupSw' (names := ["turned", "letter"]) rfl rfl (Rm.hd (n := 0) (by k_caughtN0)) ?_
        with_reducible refine t_Tuple ?_
        ((with_reducible refine t_args ?_ ?zhe); (case zhe => rfl))
        with_reducible refine t_Bin ?_
        with_reducible refine t_Bin ?_
        with_reducible refine t_Sub ?_
        ((with_reducible refine' t_cell ?zhc ?zhcl ?zhk ?zhx ?zhd ?_); (case zhx => kernel_rfl!); (case zhcl => rfl); (case zhc => top_name); (case zhk => rfl); (case zhd => decide +kernel))
        ((with_reducible refine t_int ?_); (intro _))
        ((with_reducible refine' t_subList ?zha ?zhs ?_); (case zha => top_raise); (case zhs => rfl))
        ((with_reducible refine' t_itemList ?zha ?zhi ?zhz ?zhv ?_); (case zha => top_raise); (case zhi => decide); (case zhz => decide); (case zhv => rfl))
        ((with_reducible refine t_int ?_); (intro _))
        ((with_reducible refine ti_div ?zhb ?zhp ?_); (case zhb => decide); (case zhp => exact PyProof.noPylong_small (by decide)); (intro _))
        ((with_reducible refine' t_localM ?zhN ?zhv ?zhx ?zhk ?zhd ?_); (case zhx => kernel_rfl!); (case zhN => top_name); (case zhv => top_name); (case zhk => rfl); (case zhd => decide +kernel))
        ((with_reducible refine ti_mod ?zhb ?_); (case zhb => (clear hi2; clear hM2; clear hik2; clear hSl; clear bx8; clear hx8; clear him; clear hwl; clear hMl; clear hik; clear hDn; clear hq2; clear hm3; clear hm1; clear hfq2; clear hfq; clear hfm3; clear hfm; clear hi7; clear hik; clear hsl; clear hz; omega)); (intro _))
        ((with_reducible refine t_args ?_ ?zhe); (case zhe => rfl))
        with_reducible refine t_Bin ?_
        with_reducible refine t_Bin ?_
        with_reducible refine t_Sub ?_
        ((with_reducible refine' t_cell ?zhc ?zhcl ?zhk ?zhx ?zhd ?_); (case zhx => kernel_rfl!); (case zhcl => rfl); (case zhc => top_name); (case zhk => rfl); (case zhd => decide +kernel))
        ((with_reducible refine t_int ?_); (intro _))
        ((with_reducible refine' t_subList ?zha ?zhs ?_); (case zha => top_raise); (case zhs => rfl))
        ((with_reducible refine' t_itemList ?zha ?zhi ?zhz ?zhv ?_); (case zha => top_raise); (case zhi => decide); (case zhz => decide); (case zhv => rfl))
        ((with_reducible refine t_int ?_); (intro _))
        ((with_reducible refine ti_div ?zhb ?zhp ?_); (case zhb => decide); (case zhp => exact PyProof.noPylong_small (by decide)); (intro _))
        ((with_reducible refine t_int ?_); (intro _))
        ((with_reducible refine ti_mod ?zhb ?_); (case zhb => decide); (intro _))
        with_reducible refine t_args0 ?_
        ((with_reducible refine t_newTuple ?zhz ?_); (case zhz => simp [sizeLine]))
        intro _
        ((refine' ⟨_, _, rfl, ?zk, ?zl, ?_⟩); (case zk => top_raise); (case zl => rfl))
        refine trNm_cons ?_
        ((with_reducible refine' t_storeM ?zu ?zhN ?zhl ?zhx ?zhk ?_); (case zhx => kernel_rfl!); (case zhN => top_name); (case zhl => k_caught0); (case zu => k_caught0); (case zhk => rfl))
        refine trNm_cons ?_
        ((with_reducible refine' t_storeM ?zu ?zhN ?zhl ?zhx ?zhk ?_); (case zhx => kernel_rfl!); (case zhN => top_name); (case zhl => k_caught0); (case zu => k_caught0); (case zhk => rfl))
        refine trNm_nil ?_
        with_reducible refine fl_next ?_
        obtain ⟨tt, htt, btt⟩ := fmod_nat (a := (d 9).fdiv 3) (n := q) (by (clear hi2; clear hM2; clear hik2; clear hSl; clear bx8; clear hx8; clear him; clear hwl; clear hMl; clear hik; clear hDn; clear hq2; clear hm3; clear hm1; clear hfq2; clear hfq; clear hfm3; clear hfm; clear hi7; clear hik; clear hsl; clear hz; omega))
        obtain ⟨lt, hlt, blt⟩ : ∃ x : Nat, ((d 9).fdiv 6).fmod 2 = (x : Int) ∧ x < 2 := fmod_nat (n := 2) (by decide)
        rw [htt, hlt]
        rename_i ttt y1 y2 y3 y4 tlt tpp
        obtain ⟨ta, tvs, tr, Lr', hperm, hsta, htr, htp, hto, hfin⟩ := hRL.turn (t := tt) (by (clear blt; clear hlt; clear htt; clear hi2; clear hik2; clear hSl; clear bx8; clear hx8; clear him; clear hwl; clear hMl; clear hik; clear hDn; clear hq2; clear hq1; clear hm3; clear hm1; clear hfq2; clear hfq; clear hfm3; clear hfm; clear hi7; clear hik; clear hsl; clear hz; omega))
        have htl : tvs.length = 2 := htp.1.trans hto.1
        refine tr_pick (N' := (sec, .lst ss) :: (cSz, .cell none) :: (cOt, .cell oc) :: (cSt, .cell (some (.ref stl))) :: (cMa, .cell (some (.int (m : Int) tm))) :: (cDr, .cell (some (.ref acc))) :: (cSc, .cell (some (.ref sl))) :: (L, .ns [("others", .int (q : Int) tq), ("first", .ref fa), ("second", .ref sec), ("letter", .int (lt : Int) tlt), ("turned", .int (tt : Int) ttt)]) :: (Lr ++ N)) (by k_caught0) ?_
        refine tr_perm (N' := Lr' ++ ((ta, .lst tvs) :: (sec, .lst ss) :: (cSz, .cell none) :: (cOt, .cell oc) :: (cSt, .cell (some (.ref stl))) :: (cMa, .cell (some (.int (m : Int) tm))) :: (cDr, .cell (some (.ref acc))) :: (cSc, .cell (some (.ref sl))) :: (L, .ns [("others", .int (q : Int) tq), ("first", .ref fa), ("second", .ref sec), ("letter", .int (lt : Int) tlt), ("turned", .int (tt : Int) ttt)]) :: N)) (perm_rl (A := (sec, .lst ss) :: (cSz, .cell none) :: (cOt, .cell oc) :: (cSt, .cell (some (.ref stl))) :: (cMa, .cell (some (.int (m : Int) tm))) :: (cDr, .cell (some (.ref acc))) :: (cSc, .cell (some (.ref sl))) :: (L, .ns [("others", .int (q : Int) tq), ("first", .ref fa), ("second", .ref sec), ("letter", .int (lt : Int) tlt), ("turned", .int (tt : Int) ttt)]) :: []) hperm) ?_
        refine tr_freezeL fun F8 l8 hLr => ?_
        refine tr_freeze (.tail .head) fun F9 l9 hsec => ?_
        have l89 := PH.le_trans l8 l9
        obtain ⟨pT, hpT⟩ : ∃ p, tr[lt]? = some p := ⟨_, List.getElem?_eq_getElem (by have := hto.1; (clear htl; clear hlt; clear btt; clear htt; clear hi2; clear hM2; clear hik2; clear hSl; clear bx8; clear hx8; clear him; clear hwl; clear hMl; clear hik; clear hDn; clear hq2; clear hq1; clear hm3; clear hm1; clear hfq2; clear hfq; clear hfm3; clear hfm; clear hi7; clear hik; clear hsl; clear hz; omega))⟩
        have hpTb := hto.2 pT (List.mem_of_getElem? hpT)
        obtain ⟨vT, hvT, pTa, tT1, tT2, rfl, hpTa⟩ := htp.2 lt pT hpT
        have hpTa := hpTa.mono l89
        have hD9 := hD5.mono l89
        with_reducible refine t_cons ?_
        ((with_reducible refine' t_AssignTup ?_ ?zhs ?zhw); (case zhs => rfl); (case zhw => rfl))
        with_reducible refine t_Sub ?_
        with_reducible refine t_Sub ?_
        ((with_reducible refine' t_localM ?zhN ?zhv ?zhx ?zhk ?zhd ?_); (case zhx => kernel_rfl!); (case zhN => top_name); (case zhv => top_name); (case zhk => rfl); (case zhd => decide +kernel))
        ((with_reducible refine' t_localM ?zhN ?zhv ?zhx ?zhk ?zhd ?_); (case zhx => kernel_rfl!); (case zhN => top_name); (case zhv => top_name); (case zhk => rfl); (case zhd => decide +kernel))
        ((with_reducible refine' t_subList ?zha ?zhs ?_); (case zha => top_raise); (case zhs => rfl))
        refine t_itemList (by top_raise) (by with_reducible exact Int.natCast_nonneg _) (by (clear hpTb; clear htl; clear blt; clear hlt; clear htt; clear hi2; clear hM2; clear hik2; clear hSl; clear bx8; clear hx8; clear him; clear hwl; clear hMl; clear hik; clear hDn; clear hq1; clear hm3; clear hm1; clear hfq2; clear hfq; clear hfm3; clear hfm; clear hi7; clear hik; clear hsl; clear hz; omega)) (v := .ref ta) (by simpa using hsta) ?_
        ((with_reducible refine' t_localM ?zhN ?zhv ?zhx ?zhk ?zhd ?_); (case zhx => kernel_rfl!); (case zhN => top_name); (case zhv => top_name); (case zhk => rfl); (case zhd => decide +kernel))
        ((with_reducible refine' t_subList ?zha ?zhs ?_); (case zha => top_raise); (case zhs => rfl))
        refine t_itemList (by top_raise) (by with_reducible exact Int.natCast_nonneg _) (by (clear hpTb; clear htl; clear hlt; clear btt; clear htt; clear hi2; clear hM2; clear hik2; clear hSl; clear bx8; clear hx8; clear him; clear hwl; clear hMl; clear hik; clear hDn; clear hq2; clear hq1; clear hm3; clear hm1; clear hfq2; clear hfq; clear hfm3; clear hfm; clear hi7; clear hik; clear hsl; clear hz; omega)) (v := .ref pTa) (by simpa using hvT) ?_
        ((with_reducible refine' t_assignTup ?zhh ?zha ?zhe ?zhn ?_); (case zhh => (refine Rm.hd (n := 0) ?_; k_caughtN0)); (case zha => top_raise); (case zhe => rfl); (case zhn => rfl))
        with_reducible refine trA_cons ?_
        with_reducible refine t_assignName ?_
        ((with_reducible refine' t_storeCell ?zhN ?zu ?zhcl ?zhx ?zhk ?_); (case zhx => kernel_rfl!); (case zhcl => rfl); (case zhN => top_name); (case zu => k_caught0); (case zhk => rfl))
        with_reducible refine trA_cons ?_
        with_reducible refine t_assignName ?_
        ((with_reducible refine' t_storeM ?zu ?zhN ?zhl ?zhx ?zhk ?_); (case zhx => kernel_rfl!); (case zhN => top_name); (case zhl => k_caught0); (case zu => k_caught0); (case zhk => rfl))
        with_reducible refine trA_nil ?_
        with_reducible refine fl_next ?_
        with_reducible refine t_cons ?_
        refine tr_join (fun (f : Flow) (l' : Led) => f = Flow.next ∧ ∃ (F' : PH) (vs' : List Value) (r' : List (Nat × Nat)), F9.le F' ∧ l' = ⟨F', (ta, .lst vs') :: (cSz, .cell none) :: (cOt, .cell (some (.int (pT.1 : Int) tT1))) :: (cSt, .cell (some (.ref stl))) :: (cMa, .cell (some (.int (m : Int) tm))) :: (cDr, .cell (some (.ref acc))) :: (cSc, .cell (some (.ref sl))) :: (L, .ns [("others", .int (q : Int) tq), ("first", .ref fa), ("second", .ref sec), ("letter", .int (lt : Int) tlt), ("turned", .int (tt : Int) ttt), ("told", .int (pT.2 : Int) tT2)]) :: N, G⟩ ∧ PairsAt w.params F' vs' r' ∧ RowOk q r') ?_ ?_
        · with_reducible refine t_If ?_
          ((with_reducible refine t_isCmp ?_ ?zhb); (case zhb => rfl))
          with_reducible refine t_Bin ?_
          with_reducible refine t_Sub ?_
          ((with_reducible refine' t_cell ?zhc ?zhcl ?zhk ?zhx ?zhd ?_); (case zhx => kernel_rfl!); (case zhcl => rfl); (case zhc => top_name); (case zhk => rfl); (case zhd => decide +kernel))
          ((with_reducible refine t_int ?_); (intro _))
          ((with_reducible refine' t_subList ?zha ?zhs ?_); (case zha => top_raise); (case zhs => rfl))
          ((with_reducible refine' t_itemList ?zha ?zhi ?zhz ?zhv ?_); (case zha => top_raise); (case zhi => decide); (case zhz => decide); (case zhv => rfl))
          ((with_reducible refine t_int ?_); (intro _))
          ((with_reducible refine ti_mod ?zhb ?_); (case zhb => decide); (intro _))
          ((with_reducible refine t_int ?_); (intro _))
          with_reducible refine tc_eqI ?_
          with_reducible refine tt_bool ?_
          refine if_b (fun hb => ?_) (fun hb => ?_)
          · with_reducible refine t_cons ?_
            ((with_reducible refine t_AssignSub ?_ ?zhs); (case zhs => rfl))
            with_reducible refine t_Tuple ?_
            ((with_reducible refine t_args ?_ ?zhe); (case zhe => rfl))
            ((with_reducible refine' t_cell ?zhc ?zhcl ?zhk ?zhx ?zhd ?_); (case zhx => kernel_rfl!); (case zhcl => rfl); (case zhc => top_name); (case zhk => rfl); (case zhd => decide +kernel))
            ((with_reducible refine t_args ?_ ?zhe); (case zhe => rfl))
            with_reducible refine t_Bin ?_
            ((with_reducible refine t_int ?_); (intro _))
            ((with_reducible refine' t_localM ?zhN ?zhv ?zhx ?zhk ?zhd ?_); (case zhx => kernel_rfl!); (case zhN => top_name); (case zhv => top_name); (case zhk => rfl); (case zhd => decide +kernel))
            ((with_reducible refine ti_sub ?_); (intro _))
            with_reducible refine t_args0 ?_
            ((with_reducible refine t_newTuple ?zhz ?_); (case zhz => simp [sizeLine]))
            intro _
            with_reducible refine t_Sub ?_
            ((with_reducible refine' t_localM ?zhN ?zhv ?zhx ?zhk ?zhd ?_); (case zhx => kernel_rfl!); (case zhN => top_name); (case zhv => top_name); (case zhk => rfl); (case zhd => decide +kernel))
            ((with_reducible refine' t_localM ?zhN ?zhv ?zhx ?zhk ?zhd ?_); (case zhx => kernel_rfl!); (case zhN => top_name); (case zhv => top_name); (case zhk => rfl); (case zhd => decide +kernel))
            ((with_reducible refine' t_subList ?zha ?zhs ?_); (case zha => top_raise); (case zhs => rfl))
            rw [show (1 : Int) - (pT.2 : Int) = ((1 - pT.2 : Nat) : Int) by (clear htl; clear blt; clear hlt; clear btt; clear htt; clear hi2; clear hM2; clear hik2; clear hSl; clear bx8; clear hx8; clear him; clear hwl; clear hMl; clear hik; clear hDn; clear hq2; clear hq1; clear hm3; clear hm1; clear hfq2; clear hfq; clear hfm3; clear hfm; clear hi7; clear hik; clear hsl; clear hz; omega)]
            rename_i y7 np
            refine tr_freeze .head fun F10 l10 hnp => ?_
            have hsec := hsec.mono l10
            skip
            refine t_itemList (by top_raise) (by with_reducible exact Int.natCast_nonneg _) (by (clear hpTb; clear htl; clear blt; clear hlt; clear htt; clear hi2; clear hM2; clear hik2; clear hSl; clear bx8; clear hx8; clear him; clear hwl; clear hMl; clear hik; clear hDn; clear hq1; clear hm3; clear hm1; clear hfq2; clear hfq; clear hfm3; clear hfm; clear hi7; clear hik; clear hsl; clear hz; omega)) (v := .ref ta) (by simpa using hsta) ?_
            ((with_reducible refine' t_localM ?zhN ?zhv ?zhx ?zhk ?zhd ?_); (case zhx => kernel_rfl!); (case zhN => top_name); (case zhv => top_name); (case zhk => rfl); (case zhd => decide +kernel))
            ((with_reducible refine' t_setItemL ?zha ?zh0 ?zhz ?zhn ?zu ?_); (case zha => top_name); (case zh0 => with_reducible exact Int.natCast_nonneg _); (case zhz => (clear hpTb; clear htl; clear hlt; clear btt; clear htt; clear hi2; clear hM2; clear hik2; clear hSl; clear bx8; clear hx8; clear him; clear hwl; clear hMl; clear hik; clear hDn; clear hq2; clear hq1; clear hm3; clear hm1; clear hfq2; clear hfq; clear hfm3; clear hfm; clear hi7; clear hik; clear hsl; clear hz; omega)); (case zhn => (clear hpTb; clear hlt; clear btt; clear htt; clear hi2; clear hM2; clear hik2; clear hSl; clear bx8; clear hx8; clear him; clear hwl; clear hMl; clear hik; clear hDn; clear hq2; clear hq1; clear hm3; clear hm1; clear hfq2; clear hfq; clear hfm3; clear hfm; clear hi7; clear hik; clear hsl; clear hz; omega)); (case zu => k_caught0))
            with_reducible refine fl_next ?_
            with_reducible refine t_nil ?_
            exact wk_next (N' := (ta, .lst (tvs.set (lt : Int).toNat (.ref np))) :: (cSz, .cell none) :: (cOt, .cell (some (.int (pT.1 : Int) tT1))) :: (cSt, .cell (some (.ref stl))) :: (cMa, .cell (some (.int (m : Int) tm))) :: (cDr, .cell (some (.ref acc))) :: (cSc, .cell (some (.ref sl))) :: (L, .ns [("others", .int (q : Int) tq), ("first", .ref fa), ("second", .ref sec), ("letter", .int (lt : Int) tlt), ("turned", .int (tt : Int) ttt), ("told", .int (pT.2 : Int) tT2)]) :: N) ⟨rfl, F10, _, tr.set lt (pT.1, 1 - pT.2), l10, rfl, (htp.mono (PH.le_trans l89 l10)).set ⟨np, _, _, rfl, hnp⟩, hto.set ⟨hpTb.1, by (clear hpTb; clear htl; clear blt; clear hlt; clear btt; clear htt; clear hi2; clear hM2; clear hik2; clear hSl; clear bx8; clear hx8; clear him; clear hwl; clear hMl; clear hik; clear hDn; clear hq2; clear hq1; clear hm3; clear hm1; clear hfq2; clear hfq; clear hfm3; clear hfm; clear hi7; clear hik; clear hsl; clear hz; omega)⟩⟩ (by k_caught0)
          · with_reducible refine t_cons ?_
            with_reducible refine t_If ?_
            ((with_reducible refine t_isCmp ?_ ?zhb); (case zhb => rfl))
            with_reducible refine t_Bin ?_
            with_reducible refine t_Sub ?_
            ((with_reducible refine' t_cell ?zhc ?zhcl ?zhk ?zhx ?zhd ?_); (case zhx => kernel_rfl!); (case zhcl => rfl); (case zhc => top_name); (case zhk => rfl); (case zhd => decide +kernel))
            ((with_reducible refine t_int ?_); (intro _))
            ((with_reducible refine' t_subList ?zha ?zhs ?_); (case zha => top_raise); (case zhs => rfl))
            ((with_reducible refine' t_itemList ?zha ?zhi ?zhz ?zhv ?_); (case zha => top_raise); (case zhi => decide); (case zhz => decide); (case zhv => rfl))
            ((with_reducible refine t_int ?_); (intro _))
            ((with_reducible refine ti_mod ?zhb ?_); (case zhb => decide); (intro _))
            ((with_reducible refine t_int ?_); (intro _))
            with_reducible refine tc_eqI ?_
            with_reducible refine tt_bool ?_
            refine if_b (fun hb => ?_) (fun hb => ?_)
            · with_reducible refine t_cons ?_
              ((with_reducible refine t_AssignSub ?_ ?zhs); (case zhs => rfl))
              with_reducible refine t_Tuple ?_
              ((with_reducible refine t_args ?_ ?zhe); (case zhe => rfl))
              with_reducible refine t_Bin ?_
              with_reducible refine t_Bin ?_
              ((with_reducible refine' t_cell ?zhc ?zhcl ?zhk ?zhx ?zhd ?_); (case zhx => kernel_rfl!); (case zhcl => rfl); (case zhc => top_name); (case zhk => rfl); (case zhd => decide +kernel))
              ((with_reducible refine t_int ?_); (intro _))
              ((with_reducible refine ti_add ?_); (intro _))
              ((with_reducible refine' t_localM ?zhN ?zhv ?zhx ?zhk ?zhd ?_); (case zhx => kernel_rfl!); (case zhN => top_name); (case zhv => top_name); (case zhk => rfl); (case zhd => decide +kernel))
              ((with_reducible refine ti_mod ?zhb ?_); (case zhb => (clear hpTb; clear htl; clear blt; clear hlt; clear btt; clear htt; clear hi2; clear hM2; clear hik2; clear hSl; clear bx8; clear hx8; clear him; clear hwl; clear hMl; clear hik; clear hDn; clear hq2; clear hm3; clear hm1; clear hfq2; clear hfq; clear hfm3; clear hfm; clear hi7; clear hik; clear hsl; clear hz; omega)); (intro _))
              ((with_reducible refine t_args ?_ ?zhe); (case zhe => rfl))
              ((with_reducible refine' t_localM ?zhN ?zhv ?zhx ?zhk ?zhd ?_); (case zhx => kernel_rfl!); (case zhN => top_name); (case zhv => top_name); (case zhk => rfl); (case zhd => decide +kernel))
              with_reducible refine t_args0 ?_
              ((with_reducible refine t_newTuple ?zhz ?_); (case zhz => simp [sizeLine]))
              intro _
              with_reducible refine t_Sub ?_
              ((with_reducible refine' t_localM ?zhN ?zhv ?zhx ?zhk ?zhd ?_); (case zhx => kernel_rfl!); (case zhN => top_name); (case zhv => top_name); (case zhk => rfl); (case zhd => decide +kernel))
              ((with_reducible refine' t_localM ?zhN ?zhv ?zhx ?zhk ?zhd ?_); (case zhx => kernel_rfl!); (case zhN => top_name); (case zhv => top_name); (case zhk => rfl); (case zhd => decide +kernel))
              ((with_reducible refine' t_subList ?zha ?zhs ?_); (case zha => top_raise); (case zhs => rfl))
              obtain ⟨x9, hx9, bx9⟩ := fmod_nat (a := (pT.1 : Int) + 1) (n := q) (by (clear hpTb; clear htl; clear blt; clear hlt; clear btt; clear htt; clear hi2; clear hM2; clear hik2; clear hSl; clear bx8; clear hx8; clear him; clear hwl; clear hMl; clear hik; clear hDn; clear hq2; clear hm3; clear hm1; clear hfq2; clear hfq; clear hfm3; clear hfm; clear hi7; clear hik; clear hsl; clear hz; omega))
              rw [hx9]
              rename_i y7 np
              refine tr_freeze .head fun F10 l10 hnp => ?_
              have hsec := hsec.mono l10
              skip
              refine t_itemList (by top_raise) (by with_reducible exact Int.natCast_nonneg _) (by (clear bx9; clear hx9; clear hpTb; clear htl; clear blt; clear hlt; clear htt; clear hi2; clear hM2; clear hik2; clear hSl; clear bx8; clear hx8; clear him; clear hwl; clear hMl; clear hik; clear hDn; clear hq1; clear hm3; clear hm1; clear hfq2; clear hfq; clear hfm3; clear hfm; clear hi7; clear hik; clear hsl; clear hz; omega)) (v := .ref ta) (by simpa using hsta) ?_
              ((with_reducible refine' t_localM ?zhN ?zhv ?zhx ?zhk ?zhd ?_); (case zhx => kernel_rfl!); (case zhN => top_name); (case zhv => top_name); (case zhk => rfl); (case zhd => decide +kernel))
              ((with_reducible refine' t_setItemL ?zha ?zh0 ?zhz ?zhn ?zu ?_); (case zha => top_name); (case zh0 => with_reducible exact Int.natCast_nonneg _); (case zhz => (clear bx9; clear hx9; clear hpTb; clear htl; clear hlt; clear btt; clear htt; clear hi2; clear hM2; clear hik2; clear hSl; clear bx8; clear hx8; clear him; clear hwl; clear hMl; clear hik; clear hDn; clear hq2; clear hq1; clear hm3; clear hm1; clear hfq2; clear hfq; clear hfm3; clear hfm; clear hi7; clear hik; clear hsl; clear hz; omega)); (case zhn => (clear bx9; clear hx9; clear hpTb; clear hlt; clear btt; clear htt; clear hi2; clear hM2; clear hik2; clear hSl; clear bx8; clear hx8; clear him; clear hwl; clear hMl; clear hik; clear hDn; clear hq2; clear hq1; clear hm3; clear hm1; clear hfq2; clear hfq; clear hfm3; clear hfm; clear hi7; clear hik; clear hsl; clear hz; omega)); (case zu => k_caught0))
              with_reducible refine fl_next ?_
              with_reducible refine t_nil ?_
              with_reducible refine fl_next ?_
              with_reducible refine t_nil ?_
              exact wk_next (N' := (ta, .lst (tvs.set (lt : Int).toNat (.ref np))) :: (cSz, .cell none) :: (cOt, .cell (some (.int (pT.1 : Int) tT1))) :: (cSt, .cell (some (.ref stl))) :: (cMa, .cell (some (.int (m : Int) tm))) :: (cDr, .cell (some (.ref acc))) :: (cSc, .cell (some (.ref sl))) :: (L, .ns [("others", .int (q : Int) tq), ("first", .ref fa), ("second", .ref sec), ("letter", .int (lt : Int) tlt), ("turned", .int (tt : Int) ttt), ("told", .int (pT.2 : Int) tT2)]) :: N) ⟨rfl, F10, _, tr.set lt (x9, pT.2), l10, rfl, (htp.mono (PH.le_trans l89 l10)).set ⟨np, _, _, rfl, hnp⟩, hto.set ⟨bx9, hpTb.2⟩⟩ (by k_caught0)
            · with_reducible refine t_nil ?_
              with_reducible refine fl_next ?_
              with_reducible refine t_nil ?_
              exact wk_next (N' := (ta, .lst tvs) :: (cSz, .cell none) :: (cOt, .cell (some (.int (pT.1 : Int) tT1))) :: (cSt, .cell (some (.ref stl))) :: (cMa, .cell (some (.int (m : Int) tm))) :: (cDr, .cell (some (.ref acc))) :: (cSc, .cell (some (.ref sl))) :: (L, .ns [("others", .int (q : Int) tq), ("first", .ref fa), ("second", .ref sec), ("letter", .int (lt : Int) tlt), ("turned", .int (tt : Int) ttt), ("told", .int (pT.2 : Int) tT2)]) :: N) ⟨rfl, F9, tvs, tr, PH.le_refl _, rfl, htp.mono l89, hto⟩ (by k_caught0)
        · rintro _ _ ⟨rfl, F10, vs', r', l10, rfl, hr', hro'⟩
          show Tr _ _ _ _ _
          refine tr_freeze .head fun F11 l11 hta => ?_
          have hRA := hfin F11 vs' r' (PH.le_trans l89 (PH.le_trans l10 l11)) (fun p hp => (hLr p hp).mono (PH.le_trans l9 (PH.le_trans l10 l11))) hta (hr'.mono l11) hro'
          have hD11 := hD9.mono (PH.le_trans l10 l11)
          have hsec := hsec.mono (PH.le_trans l10 l11)
          have hM1 := hws.mono (PH.le_trans l89 (PH.le_trans l10 l11))
          have hM2l : (M2.set tt r').length = q := by simp; with_reducible assumption
          have hok2 : MchOk (M2.set tt r') := RowsAt.ok (hM2l.symm ▸ hRA) (by (clear hpTb; clear htl; clear blt; clear hlt; clear btt; clear htt; clear hi2; clear hM2; clear hik2; clear hSl; clear bx8; clear hx8; clear him; clear hwl; clear hMl; clear hik; clear hDn; clear hq2; clear hm3; clear hm1; clear hfq2; clear hfq; clear hfm3; clear hfm; clear hi7; clear hik; clear hsl; clear hz; omega)) (by (clear hpTb; clear htl; clear blt; clear hlt; clear btt; clear htt; clear hi2; clear hM2; clear hik2; clear hSl; clear bx8; clear hx8; clear him; clear hwl; clear hMl; clear hik; clear hDn; clear hq1; clear hm3; clear hm1; clear hfq2; clear hfq; clear hfm3; clear hfm; clear hi7; clear hik; clear hsl; clear hz; omega))
          have hMm : M.length = m := by (clear hM2l; clear hpTb; clear htl; clear blt; clear hlt; clear btt; clear htt; clear hi2; clear hM2; clear hik2; clear hSl; clear bx8; clear hx8; clear hwl; clear hDn; clear hq2; clear hq1; clear hm3; clear hm1; clear hfq2; clear hfq; clear hfm3; clear hfm; clear hi7; clear hsl; clear hz; omega)
          skip
          have hfa := hfa.mono (PH.le_trans l89 (PH.le_trans l10 l11))
          refine tr_fix (N2 := (cSz, .cell none) :: (cMa, .cell (some (.int (m : Int) tm))) :: (cDr, .cell (some (.ref acc))) :: (L, .ns [("others", .int (q : Int) tq), ("first", .ref fa), ("second", .ref sec)]) :: N) (by k_caught0) (by k_caught0) (by k_caught0) ?_
          generalize hM2e : M2.set tt r' = MB at hRA hok2 hM2l
          have hle11 : F.le F11 := PH.le_trans l1 (PH.le_trans l2 (PH.le_trans l3 (PH.le_trans l4 (PH.le_trans l5 (PH.le_trans l89 (PH.le_trans l10 l11))))))
          (try clear hfin); (try clear hro'); (try clear hr'); (try clear hta); (try clear hLr); (try clear hvT); (try clear hpTb); (try clear hpT); (try clear htl); (try clear hto); (try clear htp); (try clear htr); (try clear hsta); (try clear hperm); (try clear blt); (try clear hlt); (try clear btt); (try clear htt); (try clear hM2e); (try clear hM2); (try clear hRL); (try clear hi2); (try clear hik2); (try clear hSx); (try clear hSl); (try clear bx8); (try clear hx8); (try clear him); (try clear hwl); (try clear hMl); (try clear hik); (try clear hD); (try clear hD2); (try clear hD4); (try clear hD5); (try clear hD9); (try clear hfq2); (try clear hfq); (try clear hfm3); (try clear hfm); (try clear hsl); (try clear hik); (try clear hi7); (try clear hik)
          with_reducible refine t_cons ?_
          refine t_AssignTupSw' (names := ["pairs", "alike"]) rfl rfl (Rm.hd (n := 0) (by k_caughtN0)) ?_
          with_reducible refine t_Tuple ?_
          ((with_reducible refine t_args ?_ ?zhe); (case zhe => rfl))
          with_reducible refine t_List ?_
          ((with_reducible refine t_args ?_ ?zhe); (case zhe => rfl))
          with_reducible refine t_Tuple ?_
          ((with_reducible refine t_args ?_ ?zhe); (case zhe => rfl))
          ((with_reducible refine t_int ?_); (intro _))
          ((with_reducible refine t_args ?_ ?zhe); (case zhe => rfl))
          ((with_reducible refine t_int ?_); (intro _))
          with_reducible refine t_args0 ?_
          ((with_reducible refine t_newTuple ?zhz ?_); (case zhz => simp [sizeLine]))
          intro _
          with_reducible refine t_args0 ?_
          ((with_reducible refine t_newList ?zhz ?_); (case zhz => simp [sizeLine]))
          intro _
          ((with_reducible refine t_args ?_ ?zhe); (case zhe => rfl))
          with_reducible refine t_bool ?_
          with_reducible refine t_args0 ?_
          ((with_reducible refine t_newTuple ?zhz ?_); (case zhz => simp [sizeLine]))
          intro _
          ((refine' ⟨_, _, rfl, ?zk, ?zl, ?_⟩); (case zk => top_raise); (case zl => rfl))
          refine trNm_cons ?_
          ((with_reducible refine' t_storeM ?zu ?zhN ?zhl ?zhx ?zhk ?_); (case zhx => kernel_rfl!); (case zhN => top_name); (case zhl => k_caught0); (case zu => k_caught0); (case zhk => rfl))
          refine trNm_cons ?_
          ((with_reducible refine' t_storeM ?zu ?zhN ?zhl ?zhx ?zhk ?_); (case zhx => kernel_rfl!); (case zhN => top_name); (case zhl => k_caught0); (case zu => k_caught0); (case zhk => rfl))
          refine trNm_nil ?_
          with_reducible refine fl_next ?_
          rename_i tz1 tz2 p0 pl ptt
          refine tr_freeze (.tail (.tail .head)) fun F12 l12 hp0 => ?_
          have hM1 := hM1.mono l12
          have hRA := hRA.mono l12
          have hfa := hfa.mono l12
          have hsec := hsec.mono l12
          have hD12 := hD11.mono l12
          have hle12 := PH.le_trans hle11 l12
          rw [← hMm] at hM1
          rw [← hM2l] at hRA
          with_reducible refine t_cons ?_
          ((with_reducible refine t_For ?_ ?zhs); (case zhs => exact fun _ => rfl))
          ((with_reducible refine' t_localM ?zhN ?zhv ?zhx ?zhk ?zhd ?_); (case zhx => kernel_rfl!); (case zhN => top_name); (case zhv => top_name); (case zhk => rfl); (case zhd => decide +kernel))
          ((with_reducible refine' t_iterList ?zha ?_); (case zha => top_raise); (intro _))
          rename_i it6
          refine cl_pick (N' := (it6, itL pl 0) :: (pl, .lst [.ref p0]) :: (cSz, .cell none) :: (cMa, .cell (some (.int (m : Int) tm))) :: (cDr, .cell (some (.ref acc))) :: (L, .ns [("others", .int (q : Int) tq), ("first", .ref fa), ("second", .ref sec), ("alike", .bool true), ("pairs", .ref pl)]) :: N) (by k_caught0) ?_
          refine cl_ind (Inv := fun k l => ∃ (i : Nat) (Fy : PH) (pvs : List Value) (ps : List (Nat × Nat)) (al : Bool), F12.le Fy ∧ l = ⟨Fy, (it6, itL pl i) :: (pl, .lst pvs) :: (cSz, .cell none) :: (cMa, .cell (some (.int (m : Int) tm))) :: (cDr, .cell (some (.ref acc))) :: (L, .ns [("others", .int (q : Int) tq), ("first", .ref fa), ("second", .ref sec), ("alike", .bool al), ("pairs", .ref pl)]) :: N, G⟩ ∧ i + k = 10 ∧ PairsAt w.params Fy pvs ps ∧ PInv M MB (2 * i) ps al ∧ i ≤ ps.length) ?_ 10 _ ⟨0, F12, _, [(0, 0)], true, PH.le_refl _, rfl, rfl, pairs0 hp0, PInv.init hok1 hok2, by simp⟩
          rintro k l IH6 ⟨i6, Fy6, pvs, ps, al, l13, rfl, hik6, hps, hpi, hi6⟩
          have hM1 := hM1.mono l13
          have hRA := hRA.mono l13
          have hfa := hfa.mono l13
          have hsec := hsec.mono l13
          have hD12 := hD12.mono l13
          have hpl9 := hpi.len hok1 hok2
          refine cl_for1 ?_
          rcases Nat.lt_or_ge i6 ps.length with hi6 | hi6
          · obtain ⟨p6, hp6⟩ : ∃ p, ps[i6]? = some p := ⟨_, List.getElem?_eq_getElem hi6⟩
            obtain ⟨v6, hv6, pa6, t61, t62, rfl, hpa6⟩ := hps.2 i6 p6 hp6
            have hr6 := hpi.rng p6 (List.mem_of_getElem? hp6)
            ((with_reducible refine' t_nextList ?zhi ?zha ?zhv ?zu ?_); (case zhi => top_name); (case zha => top_raise); (case zhv => exact hv6); (case zu => k_caught0))
            ((with_reducible refine' t_goTupL ?zhi ?_); (case zhi => top_name))
            ((with_reducible refine' t_assignTup ?zhh ?zha ?zhe ?zhn ?_); (case zhh => (refine Rm.hd (n := 0) ?_; k_caughtN0)); (case zha => top_raise); (case zhe => rfl); (case zhn => rfl))
            with_reducible refine trA_cons ?_
            with_reducible refine t_assignName ?_
            ((with_reducible refine' t_storeM ?zu ?zhN ?zhl ?zhx ?zhk ?_); (case zhx => kernel_rfl!); (case zhN => top_name); (case zhl => k_caught0); (case zu => k_caught0); (case zhk => rfl))
            with_reducible refine trA_cons ?_
            with_reducible refine t_assignName ?_
            ((with_reducible refine' t_storeM ?zu ?zhN ?zhl ?zhx ?zhk ?_); (case zhx => kernel_rfl!); (case zhN => top_name); (case zhl => k_caught0); (case zu => k_caught0); (case zhk => rfl))
            with_reducible refine trA_nil ?_
            with_reducible refine t_cons ?_
            ((with_reducible refine t_For ?_ ?zhs); (case zhs => exact fun _ => rfl))
            ((with_reducible refine t_Call ?_ ?zhe); (case zhe => rfl))
            ((with_reducible refine' t_bltin ?ze ?zhv ?zhn ?zhg ?zhb ?zhk ?zhx ?zhd ?_); (case zhv => top_strB); (case ze => top_argsB); (case zhn => decide +kernel); (case zhg => rfl); (case zhb => rfl); (case zhk => rfl); (case zhx => kernel_rfl!); (case zhd => decide +kernel))
            with_reducible refine t_callWithP ?_
            ((with_reducible refine t_evalArgs ?_ ?zhe); (case zhe => rfl))
            ((with_reducible refine t_args ?_ ?zhe); (case zhe => rfl))
            with_reducible refine t_Sub ?_
            ((with_reducible refine' t_localM ?zhN ?zhv ?zhx ?zhk ?zhd ?_); (case zhx => kernel_rfl!); (case zhN => top_name); (case zhv => top_name); (case zhk => rfl); (case zhd => decide +kernel))
            ((with_reducible refine' t_localM ?zhN ?zhv ?zhx ?zhk ?zhd ?_); (case zhx => kernel_rfl!); (case zhN => top_name); (case zhv => top_name); (case zhk => rfl); (case zhd => decide +kernel))
            ((with_reducible refine' t_subList ?zha ?zhs ?_); (case zha => top_raise); (case zhs => rfl))
            obtain ⟨r1, hr1⟩ : ∃ r, M[p6.1]? = some r := ⟨_, List.getElem?_eq_getElem hr6.1⟩
            obtain ⟨hro1, vr1, hvr1, ra1, rvs1, rfl, hra1, hrl1, hrg1⟩ := hM1.2 p6.1 r1 hr1
            refine t_itemList (by top_raise) (by with_reducible exact Int.natCast_nonneg _) (by (clear hrl1; clear hi6; clear hpl9; clear hi6; clear hik6; clear hM2l; clear hDn; clear hq2; clear hq1; clear hm1; clear hz; omega)) (v := .ref ra1) (by simpa using hvr1) ?_
            ((with_reducible refine t_args ?_ ?zhe); (case zhe => rfl))
            with_reducible refine t_Sub ?_
            ((with_reducible refine' t_localM ?zhN ?zhv ?zhx ?zhk ?zhd ?_); (case zhx => kernel_rfl!); (case zhN => top_name); (case zhv => top_name); (case zhk => rfl); (case zhd => decide +kernel))
            ((with_reducible refine' t_localM ?zhN ?zhv ?zhx ?zhk ?zhd ?_); (case zhx => kernel_rfl!); (case zhN => top_name); (case zhv => top_name); (case zhk => rfl); (case zhd => decide +kernel))
            ((with_reducible refine' t_subList ?zha ?zhs ?_); (case zha => top_raise); (case zhs => rfl))
            obtain ⟨r2, hr2⟩ : ∃ r, MB[p6.2]? = some r := ⟨_, List.getElem?_eq_getElem hr6.2⟩
            obtain ⟨hro2, vr2, hvr2, ra2, rvs2, rfl, hra2, hrl2, hrg2⟩ := hRA.2 p6.2 r2 hr2
            refine t_itemList (by top_raise) (by with_reducible exact Int.natCast_nonneg _) (by (clear hrl2; clear hrl1; clear hi6; clear hpl9; clear hi6; clear hik6; clear hMm; clear hDn; clear hq1; clear hm3; clear hm1; clear hz; omega)) (v := .ref ra2) (by simpa using hvr2) ?_
            with_reducible refine t_args0 ?_
            ((with_reducible refine cp0 ?zhc ?_); (case zhc => k_caughtNB))
            ((with_reducible refine' t_zipL ?zha ?zhb ?_); (case zha => top_raise); (case zhb => top_raise); (intro _ _ _ _ _))
            ((with_reducible refine' t_iterZip ?zhz ?_); (case zhz => top_name))
            rename_i zz zTO zTI zi2 zi1
            refine cl_fix (N2 := (zz, zipO zTI zTO) :: (zTO, pairO .none .none) :: (zTI, pairO (.ref zi1) (.ref zi2)) :: (zi2, itL ra2 0) :: (zi1, itL ra1 0) :: (it6, itL pl (i6 + 1)) :: (pl, .lst pvs) :: (cSz, .cell none) :: (cMa, .cell (some (.int (m : Int) tm))) :: (cDr, .cell (some (.ref acc))) :: (L, .ns [("others", .int (q : Int) tq), ("first", .ref fa), ("second", .ref sec), ("alike", .bool al), ("pairs", .ref pl)]) :: N) (by k_caught0) (by k_caught0) (by k_caught0) ?_
            refine cl_ind (Inv := fun k l => ∃ (j : Nat) (Fz : PH) (pvs : List Value) (ps : List (Nat × Nat)) (al : Bool) (a b : Value), Fy6.le Fz ∧ l = ⟨Fz, (zz, zipO zTI zTO) :: (zTO, pairO a b) :: (zTI, pairO (.ref zi1) (.ref zi2)) :: (zi2, itL ra2 j) :: (zi1, itL ra1 j) :: (it6, itL pl (i6 + 1)) :: (pl, .lst pvs) :: (cSz, .cell none) :: (cMa, .cell (some (.int (m : Int) tm))) :: (cDr, .cell (some (.ref acc))) :: (L, .ns [("others", .int (q : Int) tq), ("first", .ref fa), ("second", .ref sec), ("alike", .bool al), ("pairs", .ref pl)]) :: N, G⟩ ∧ j + k = 2 ∧ PairsAt w.params Fz pvs ps ∧ PInv M MB (2 * i6 + j) ps al ∧ ps[i6]? = some p6) ?_ 2 _ ⟨0, Fy6, pvs, ps, al, .none, .none, PH.le_refl _, rfl, rfl, hps, hpi, hp6⟩
            rintro k l IH7 ⟨j7, Fz7, pvs, ps, al, a7, b7, l14, rfl, hjk7, hps, hpi, hp6⟩
            have hra1 := hra1.mono l14
            have hra2 := hra2.mono l14
            have hpl9 := hpi.len hok1 hok2
            refine cl_for1 ?_
            rcases Nat.lt_or_ge j7 2 with hj7 | hj7
            · obtain ⟨q1, hq1⟩ : ∃ p, r1[j7]? = some p := ⟨_, List.getElem?_eq_getElem (by have := hro1.1; (clear hpl9; clear hjk7; clear hrl2; clear hrl1; clear hr6; clear hi6; clear hpl9; clear hi6; clear hik6; clear hM2l; clear hMm; clear hDn; clear hq2; clear hq1; clear hm3; clear hm1; clear hz; omega))⟩
              obtain ⟨q2, hq2⟩ : ∃ p, r2[j7]? = some p := ⟨_, List.getElem?_eq_getElem (by have := hro2.1; (clear hpl9; clear hjk7; clear hrl2; clear hrl1; clear hr6; clear hi6; clear hpl9; clear hi6; clear hik6; clear hM2l; clear hMm; clear hDn; clear hq2; clear hm3; clear hm1; clear hz; omega))⟩
              obtain ⟨v71, hv71, qa1, t71, t72, rfl, hqa1⟩ := hrg1 j7 q1 hq1
              obtain ⟨v72, hv72, qa2, t73, t74, rfl, hqa2⟩ := hrg2 j7 q2 hq2
              have hqa1 := hqa1.mono l14
              have hqa2 := hqa2.mono l14
              have g1 : mget M p6.1 j7 = q1 := mget_eq hr1 hq1
              have g2 : mget MB p6.2 j7 = q2 := mget_eq hr2 hq2
              refine t_nextZipLL (Rm.hd (n := 0) (by k_caughtN0)) hra1 hra2 hv71 hv72 fun zt => ?_
              ((with_reducible refine' t_goTupZ ?zhz ?zu ?_); (case zhz => top_name); (case zu => k_caught0))
              ((with_reducible refine' t_assignTup ?zhh ?zha ?zhe ?zhn ?_); (case zhh => (refine Rm.hd (n := 0) ?_; k_caughtN0)); (case zha => top_raise); (case zhe => rfl); (case zhn => rfl))
              with_reducible refine trA_cons ?_
              ((with_reducible refine' t_assignTup ?zhh ?zha ?zhe ?zhn ?_); (case zhh => (refine Rm.hd (n := 0) ?_; k_caughtN0)); (case zha => top_raise); (case zhe => rfl); (case zhn => rfl))
              with_reducible refine trA_cons ?_
              with_reducible refine t_assignName ?_
              ((with_reducible refine' t_storeM ?zu ?zhN ?zhl ?zhx ?zhk ?_); (case zhx => kernel_rfl!); (case zhN => top_name); (case zhl => k_caught0); (case zu => k_caught0); (case zhk => rfl))
              with_reducible refine trA_cons ?_
              with_reducible refine t_assignName ?_
              ((with_reducible refine' t_storeM ?zu ?zhN ?zhl ?zhx ?zhk ?_); (case zhx => kernel_rfl!); (case zhN => top_name); (case zhl => k_caught0); (case zu => k_caught0); (case zhk => rfl))
              with_reducible refine trA_nil ?_
              with_reducible refine trA_cons ?_
              ((with_reducible refine' t_assignTup ?zhh ?zha ?zhe ?zhn ?_); (case zhh => (refine Rm.hd (n := 0) ?_; k_caughtN0)); (case zha => top_raise); (case zhe => rfl); (case zhn => rfl))
              with_reducible refine trA_cons ?_
              with_reducible refine t_assignName ?_
              ((with_reducible refine' t_storeM ?zu ?zhN ?zhl ?zhx ?zhk ?_); (case zhx => kernel_rfl!); (case zhN => top_name); (case zhl => k_caught0); (case zu => k_caught0); (case zhk => rfl))
              with_reducible refine trA_cons ?_
              with_reducible refine t_assignName ?_
              ((with_reducible refine' t_storeM ?zu ?zhN ?zhl ?zhx ?zhk ?_); (case zhx => kernel_rfl!); (case zhN => top_name); (case zhl => k_caught0); (case zu => k_caught0); (case zhk => rfl))
              with_reducible refine trA_nil ?_
              with_reducible refine trA_nil ?_
              with_reducible refine t_cons ?_
              refine tr_join (fun (f : Flow) (l' : Led) => f = Flow.next ∧ l' = ⟨Fz7, (zt, .tup [.ref qa1, .ref qa2]) :: (zz, zipO zTI zTO) :: (zTO, pairO (.ref qa1) (.ref qa2)) :: (zTI, pairO (.ref zi1) (.ref zi2)) :: (zi2, itL ra2 (j7 + 1)) :: (zi1, itL ra1 (j7 + 1)) :: (it6, itL pl (i6 + 1)) :: (pl, .lst pvs) :: (cSz, .cell none) :: (cMa, .cell (some (.int (m : Int) tm))) :: (cDr, .cell (some (.ref acc))) :: (L, .ns [("others", .int (q : Int) tq), ("first", .ref fa), ("second", .ref sec), ("alike", .bool (al && decide (q1.2 = q2.2))), ("pairs", .ref pl), ("road", .int (q1.1 : Int) t71), ("sign", .int (q1.2 : Int) t72), ("way", .int (q2.1 : Int) t73), ("mark", .int (q2.2 : Int) t74)]) :: N, G⟩) ?_ ?_
              · ((with_reducible refine t_AssignName ?_ ?zhs); (case zhs => rfl))
                with_reducible refine t_And ?_
                ((with_reducible refine' t_localM ?zhN ?zhv ?zhx ?zhk ?zhd ?_); (case zhx => kernel_rfl!); (case zhN => top_name); (case zhv => top_name); (case zhk => rfl); (case zhd => decide +kernel))
                with_reducible refine tt_bool ?_
                refine if_b (fun hb => ?_) (fun hb => ?_)
                · ((with_reducible refine t_Bool1 ?_ ?zhe); (case zhe => rfl))
                  ((with_reducible refine t_Cmp ?_ ?zhb); (case zhb => rfl))
                  ((with_reducible refine' t_localM ?zhN ?zhv ?zhx ?zhk ?zhd ?_); (case zhx => kernel_rfl!); (case zhN => top_name); (case zhv => top_name); (case zhk => rfl); (case zhd => decide +kernel))
                  ((with_reducible refine' t_localM ?zhN ?zhv ?zhx ?zhk ?zhd ?_); (case zhx => kernel_rfl!); (case zhN => top_name); (case zhv => top_name); (case zhk => rfl); (case zhd => decide +kernel))
                  with_reducible refine tc_eqI ?_
                  ((with_reducible refine' t_storeM ?zu ?zhN ?zhl ?zhx ?zhk ?_); (case zhx => kernel_rfl!); (case zhN => top_name); (case zhl => k_caught0); (case zu => k_caught0); (case zhk => rfl))
                  rw [show (al && decide (q1.2 = q2.2)) = ((q1.2 : Int) == (q2.2 : Int)) by rw [hb, Bool.true_and, Bool.eq_iff_iff]; simp; exact ⟨fun e => e ▸ rfl, fun e => Int.ofNat.inj e⟩]
                  exact wk_next ⟨rfl, rfl⟩ (by k_caught0)
                · ((with_reducible refine' t_storeM ?zu ?zhN ?zhl ?zhx ?zhk ?_); (case zhx => kernel_rfl!); (case zhN => top_name); (case zhl => k_caught0); (case zu => k_caught0); (case zhk => rfl))
                  rw [show (al && decide (q1.2 = q2.2)) = al by rw [hb, Bool.false_and]]
                  exact wk_next ⟨rfl, rfl⟩ (by k_caught0)
              · rintro _ _ ⟨rfl, rfl⟩
                with_reducible refine fl_next ?_
                with_reducible refine t_cons ?_
                with_reducible refine t_If ?_
                ((with_reducible refine t_isCmp ?_ ?zhb); (case zhb => rfl))
                with_reducible refine t_Tuple ?_
                ((with_reducible refine t_args ?_ ?zhe); (case zhe => rfl))
                ((with_reducible refine' t_localM ?zhN ?zhv ?zhx ?zhk ?zhd ?_); (case zhx => kernel_rfl!); (case zhN => top_name); (case zhv => top_name); (case zhk => rfl); (case zhd => decide +kernel))
                ((with_reducible refine t_args ?_ ?zhe); (case zhe => rfl))
                ((with_reducible refine' t_localM ?zhN ?zhv ?zhx ?zhk ?zhd ?_); (case zhx => kernel_rfl!); (case zhN => top_name); (case zhv => top_name); (case zhk => rfl); (case zhd => decide +kernel))
                with_reducible refine t_args0 ?_
                ((with_reducible refine t_newTuple ?zhz ?_); (case zhz => simp [sizeLine]))
                intro _
                ((with_reducible refine' t_localM ?zhN ?zhv ?zhx ?zhk ?zhd ?_); (case zhx => kernel_rfl!); (case zhN => top_name); (case zhv => top_name); (case zhk => rfl); (case zhd => decide +kernel))
                refine t_notInPairs (p := (q1.1, q2.1)) (by top_raise) hps (by top_raise) (by k_caughtN0) ?_
                have hpsl := hps.1
                with_reducible refine tt_bool ?_
                refine if_b (fun hb => ?_) (fun hb => ?_)
                · have hn : (q1.1, q2.1) ∉ ps := by simpa using hb
                  with_reducible refine t_cons ?_
                  ((with_reducible refine t_ExprSt ?_ ?zhi ?zhs); (case zhi => rfl); (case zhs => rfl))
                  ((with_reducible refine' t_MCall ?_ ?zhe); (case zhe => rfl))
                  ((with_reducible refine' t_localM ?zhN ?zhv ?zhx ?zhk ?zhd ?_); (case zhx => kernel_rfl!); (case zhN => top_name); (case zhv => top_name); (case zhk => rfl); (case zhd => decide +kernel))
                  ((with_reducible refine' ml_append ?zha ?_); (case zha => top_raise))
                  with_reducible refine mc ?_
                  with_reducible refine t_callWithP ?_
                  ((with_reducible refine t_evalArgs ?_ ?zhe); (case zhe => rfl))
                  ((with_reducible refine t_args ?_ ?zhe); (case zhe => rfl))
                  with_reducible refine t_Tuple ?_
                  ((with_reducible refine t_args ?_ ?zhe); (case zhe => rfl))
                  ((with_reducible refine' t_localM ?zhN ?zhv ?zhx ?zhk ?zhd ?_); (case zhx => kernel_rfl!); (case zhN => top_name); (case zhv => top_name); (case zhk => rfl); (case zhd => decide +kernel))
                  ((with_reducible refine t_args ?_ ?zhe); (case zhe => rfl))
                  ((with_reducible refine' t_localM ?zhN ?zhv ?zhx ?zhk ?zhd ?_); (case zhx => kernel_rfl!); (case zhN => top_name); (case zhv => top_name); (case zhk => rfl); (case zhd => decide +kernel))
                  with_reducible refine t_args0 ?_
                  ((with_reducible refine t_newTuple ?zhz ?_); (case zhz => simp [sizeLine]))
                  intro _
                  with_reducible refine t_args0 ?_
                  ((with_reducible refine cp1 ?zhc ?_); (case zhc => k_caughtNB))
                  ((with_reducible refine' t_append ?zha ?zu ?zhz ?_); (case zha => top_name); (case zu => k_caught0); (case zhz => (unfold sizeLine; (clear hn; clear hj7; clear hjk7; clear hrl2; clear hrl1; clear hr6; clear hi6; clear hi6; clear hik6; clear hM2l; clear hMm; clear hDn; clear hm3; clear hm1; clear hz; omega))))
                  with_reducible refine fl_next ?_
                  with_reducible refine t_nil ?_
                  with_reducible refine fl_next ?_
                  with_reducible refine t_nil ?_
                  with_reducible refine tu_next ?_
                  rename_i np
                  refine cl_fix (N2 := (np, .tup [.int (q1.1 : Int) t71, .int (q2.1 : Int) t73]) :: (zz, zipO zTI zTO) :: (zTO, pairO (.ref qa1) (.ref qa2)) :: (zTI, pairO (.ref zi1) (.ref zi2)) :: (zi2, itL ra2 (j7 + 1)) :: (zi1, itL ra1 (j7 + 1)) :: (it6, itL pl (i6 + 1)) :: (pl, .lst (pvs ++ [.ref np])) :: (cSz, .cell none) :: (cMa, .cell (some (.int (m : Int) tm))) :: (cDr, .cell (some (.ref acc))) :: (L, .ns [("others", .int (q : Int) tq), ("first", .ref fa), ("second", .ref sec), ("alike", .bool (al && decide (q1.2 = q2.2))), ("pairs", .ref pl)]) :: N) (by k_caught0) (by k_caught0) (by k_caught0) ?_
                  refine cl_freeze .head fun F15 l15 hnp => ?_
                  have st := PInv.step (qs := ps ++ [(q1.1, q2.1)]) hok1 hok2 hpi rfl hj7 hp6 (by rw [g1, g2, if_neg hn])
                  rw [g1, g2] at st
                  exact IH7 (2 - (j7 + 1)) (by (clear st; clear hn; clear hpsl; clear hpl9; clear hrl2; clear hrl1; clear hr6; clear hi6; clear hpl9; clear hi6; clear hik6; clear hM2l; clear hMm; clear hDn; clear hm3; clear hm1; clear hz; omega)) _ ⟨j7 + 1, F15, _, ps ++ [(q1.1, q2.1)], _, _, _, PH.le_trans l14 l15, rfl, by (clear st; clear hn; clear hpsl; clear hpl9; clear hjk7; clear hrl2; clear hrl1; clear hr6; clear hi6; clear hpl9; clear hi6; clear hik6; clear hM2l; clear hMm; clear hDn; clear hm3; clear hm1; clear hz; omega), (hps.mono l15).snoc ⟨np, _, _, rfl, hnp⟩, st.1, st.2⟩
                · have hn : (q1.1, q2.1) ∈ ps := by simpa using hb
                  with_reducible refine t_nil ?_
                  with_reducible refine fl_next ?_
                  with_reducible refine t_nil ?_
                  with_reducible refine tu_next ?_
                  refine cl_fix (N2 := (zz, zipO zTI zTO) :: (zTO, pairO (.ref qa1) (.ref qa2)) :: (zTI, pairO (.ref zi1) (.ref zi2)) :: (zi2, itL ra2 (j7 + 1)) :: (zi1, itL ra1 (j7 + 1)) :: (it6, itL pl (i6 + 1)) :: (pl, .lst pvs) :: (cSz, .cell none) :: (cMa, .cell (some (.int (m : Int) tm))) :: (cDr, .cell (some (.ref acc))) :: (L, .ns [("others", .int (q : Int) tq), ("first", .ref fa), ("second", .ref sec), ("alike", .bool (al && decide (q1.2 = q2.2))), ("pairs", .ref pl)]) :: N) (by k_caught0) (by k_caught0) (by k_caught0) ?_
                  have st := PInv.step (qs := ps) hok1 hok2 hpi rfl hj7 hp6 (by rw [g1, g2, if_pos hn])
                  rw [g1, g2] at st
                  exact IH7 (2 - (j7 + 1)) (by (clear st; clear hpsl; clear hpl9; clear hrl2; clear hrl1; clear hr6; clear hi6; clear hpl9; clear hi6; clear hik6; clear hM2l; clear hMm; clear hDn; clear hm3; clear hm1; clear hz; omega)) _ ⟨j7 + 1, Fz7, _, ps, _, _, _, l14, rfl, by (clear st; clear hpsl; clear hpl9; clear hjk7; clear hrl2; clear hrl1; clear hr6; clear hi6; clear hpl9; clear hi6; clear hik6; clear hM2l; clear hMm; clear hDn; clear hm3; clear hm1; clear hz; omega), hps, st.1, st.2⟩
            · obtain rfl : j7 = 2 := by (clear hpl9; clear hrl2; clear hrl1; clear hr6; clear hi6; clear hpl9; clear hi6; clear hik6; clear hM2l; clear hMm; clear hDn; clear hq2; clear hq1; clear hm3; clear hm1; clear hz; omega)
              refine t_nextZipEndL (Rm.hd (n := 0) (by k_caughtN0)) hra1 (by have := hro1.1; (clear hj7; clear hjk7; clear hpl9; clear hrl2; clear hr6; clear hi6; clear hpl9; clear hi6; clear hik6; clear hM2l; clear hMm; clear hDn; clear hq2; clear hq1; clear hm3; clear hm1; clear hz; omega)) ?_
              with_reducible refine t_nil ?_
              with_reducible refine fl_next ?_
              with_reducible refine t_nil ?_
              with_reducible refine tu_next ?_
              exact IH6 (10 - (i6 + 1)) (by have := (List.getElem?_eq_some_iff.mp hp6).1; (clear this; clear hj7; clear hjk7; clear hpl9; clear hrl2; clear hrl1; clear hr6; clear hi6; clear hM2l; clear hMm; clear hDn; clear hq2; clear hq1; clear hm3; clear hm1; clear hz; omega)) _ ⟨i6 + 1, Fz7, pvs, ps, al, PH.le_trans l13 l14, rfl, by have := (List.getElem?_eq_some_iff.mp hp6).1; (clear this; clear hj7; clear hjk7; clear hpl9; clear hrl2; clear hrl1; clear hr6; clear hi6; clear hik6; clear hM2l; clear hMm; clear hDn; clear hq2; clear hq1; clear hm3; clear hm1; clear hz; omega), hps, hpi, (List.getElem?_eq_some_iff.mp hp6).1⟩
          · have hpsl := hps.1
            ((with_reducible refine' t_nextListEnd ?zhh ?zhi ?zha ?zhv ?zu ?_); (case zhh => (refine Rm.hd (n := 0) ?_; k_caughtN0)); (case zhi => top_name); (case zha => top_raise); (case zhv => (clear hpl9; clear hik6; clear hM2l; clear hMm; clear hDn; clear hq2; clear hq1; clear hm3; clear hm1; clear hz; omega)); (case zu => k_caught0))
            have hile : i6 = ps.length := by (clear hpsl; clear hpl9; clear hik6; clear hM2l; clear hMm; clear hDn; clear hq2; clear hq1; clear hm3; clear hm1; clear hz; omega)
            with_reducible refine t_nil ?_
            with_reducible refine fl_next ?_
            refine tr_fix (N2 := (cSz, .cell none) :: (cMa, .cell (some (.int (m : Int) tm))) :: (cDr, .cell (some (.ref acc))) :: (L, .ns [("others", .int (q : Int) tq), ("first", .ref fa), ("second", .ref sec), ("alike", .bool al)]) :: N) (by k_caught0) (by k_caught0) (by k_caught0) ?_
            with_reducible refine t_cons ?_
            ((with_reducible refine t_AssignName ?_ ?zhs); (case zhs => rfl))
            with_reducible refine t_Bin ?_
            with_reducible refine t_Bin ?_
            ((with_reducible refine' t_cell ?zhc ?zhcl ?zhk ?zhx ?zhd ?_); (case zhx => kernel_rfl!); (case zhcl => rfl); (case zhc => top_name); (case zhk => rfl); (case zhd => decide +kernel))
            ((with_reducible refine' t_localM ?zhN ?zhv ?zhx ?zhk ?zhd ?_); (case zhx => kernel_rfl!); (case zhN => top_name); (case zhv => top_name); (case zhk => rfl); (case zhd => decide +kernel))
            ((with_reducible refine ti_add ?_); (intro _))
            ((with_reducible refine t_int ?_); (intro _))
            ((with_reducible refine ti_sub ?_); (intro _))
            ((with_reducible refine' t_storeCell ?zhN ?zu ?zhcl ?zhx ?zhk ?_); (case zhx => kernel_rfl!); (case zhcl => rfl); (case zhN => top_name); (case zu => k_caught0); (case zhk => rfl))
            with_reducible refine fl_next ?_
            obtain ⟨sz, hsz⟩ : ∃ sz, sz = m + q - 1 := ⟨_, rfl⟩
            rw [show (m : Int) + (q : Int) - 1 = (sz : Int) by (clear hile; clear hpsl; clear hi6; clear hpl9; clear hi6; clear hik6; clear hM2l; clear hMm; clear hDn; clear hq2; clear hq1; clear hm3; clear hz; omega)]
            with_reducible refine t_cons ?_
            ((with_reducible refine t_AssignName ?_ ?zhs); (case zhs => rfl))
            ((with_reducible refine' t_MCall ?_ ?zhe); (case zhe => rfl))
            ((with_reducible refine t_str ?_); (intro _))
            with_reducible refine ms_join ?_
            with_reducible refine mc ?_
            with_reducible refine t_callWithP ?_
            ((with_reducible refine t_evalArgs ?_ ?zhe); (case zhe => rfl))
            ((with_reducible refine t_args ?_ ?zhe); (case zhe => rfl))
            ((with_reducible refine' t_ListCompK (n := 1) ?zhclos ?zhkind ?zhnames ?zhc ?_ ?zhs); (case zhclos => rfl); (case zhkind => rfl); (case zhnames => decide +kernel); (case zhc => rfl); (case zhs => exact fun _ => rfl))
            ((with_reducible refine t_Call ?_ ?zhe); (case zhe => rfl))
            ((with_reducible refine' t_bltin ?ze ?zhv ?zhn ?zhg ?zhb ?zhk ?zhx ?zhd ?_); (case zhv => top_strB); (case ze => top_argsB); (case zhn => decide +kernel); (case zhg => rfl); (case zhb => rfl); (case zhk => rfl); (case zhx => kernel_rfl!); (case zhd => decide +kernel))
            with_reducible refine t_callWithP ?_
            ((with_reducible refine t_evalArgs ?_ ?zhe); (case zhe => rfl))
            ((with_reducible refine t_args ?_ ?zhe); (case zhe => rfl))
            with_reducible refine t_Bin ?_
            ((with_reducible refine t_int ?_); (intro _))
            ((with_reducible refine' t_cell ?zhc ?zhcl ?zhk ?zhx ?zhd ?_); (case zhx => kernel_rfl!); (case zhcl => rfl); (case zhc => top_name); (case zhk => rfl); (case zhd => decide +kernel))
            ((with_reducible refine t_pow ?zha ?zhb ?zhz ?_); (case zha => (clear hsz; clear hile; clear hpsl; clear hi6; clear hpl9; clear hi6; clear hik6; clear hM2l; clear hMm; clear hDn; clear hq2; clear hq1; clear hm3; clear hm1; clear hz; omega)); (case zhb => with_reducible exact Int.natCast_nonneg _); (case zhz => (clear hile; clear hpsl; clear hi6; clear hpl9; clear hi6; clear hik6; clear hM2l; clear hMm; clear hDn; clear hq1; clear hm1; clear hz; omega)); (intro _))
            with_reducible refine t_args0 ?_
            ((with_reducible refine cp0 ?zhc ?_); (case zhc => k_caughtNB))
            ((with_reducible refine' t_range1 ?_); (intro _ _ _))
            obtain ⟨pw, hpw⟩ : ∃ pw, pw = 2 ^ sz := ⟨_, rfl⟩
            have hpw16 : pw ≤ 16 := by rw [hpw]; exact Nat.pow_le_pow_right (n := 2) (j := 4) (by decide) (by (clear hpw; clear hile; clear hpsl; clear hi6; clear hpl9; clear hi6; clear hik6; clear hM2l; clear hMm; clear hDn; clear hq1; clear hm1; clear hz; omega))
            refine t_iterRange (n := pw) (b := (2 : Int) ^ (sz : Int).toNat) (by rw [hpw, Int.toNat_natCast]; exact (Int.natCast_pow 2 sz).symm) (by top_raise) (by (clear hpw; clear hsz; clear hile; clear hpsl; clear hi6; clear hpl9; clear hi6; clear hik6; clear hM2l; clear hMm; clear hDn; clear hq2; clear hq1; clear hm3; clear hm1; clear hz; omega)) fun it8 => ?_
            with_reducible refine opn ?_
            intro _
            intro _
            with_reducible refine cellsS ?_
            intro _
            with_reducible refine cells0 ?_
            ((with_reducible refine' cs_range ?zhi ?_); (case zhi => top_name))
            rename_i tsz x81 x82 x83 x84 x85 x86 ac8 C8 cN
            refine cl_fix (N2 := (it8, itN 0 pw) :: (cN, .cell none) :: (C8, .ns []) :: (ac8, .lst []) :: (cSz, .cell (some (.int (sz : Int) tsz))) :: (cMa, .cell (some (.int (m : Int) tm))) :: (cDr, .cell (some (.ref acc))) :: (L, .ns [("others", .int (q : Int) tq), ("first", .ref fa), ("second", .ref sec), ("alike", .bool al)]) :: N) (by k_caught0) (by k_caught0) (by k_caught0) ?_
            refine cl_indG (Inv := fun k l => ∃ (i : Nat) (vs : List Value) (oc : Option Value), l = ⟨Fy6, (it8, itN i pw) :: (cN, .cell oc) :: (C8, .ns []) :: (ac8, .lst vs) :: (cSz, .cell (some (.int (sz : Int) tsz))) :: (cMa, .cell (some (.int (m : Int) tm))) :: (cDr, .cell (some (.ref acc))) :: (L, .ns [("others", .int (q : Int) tq), ("first", .ref fa), ("second", .ref sec), ("alike", .bool al)]) :: N, G⟩ ∧ i + k = pw ∧ Strs ((List.range i).map fun k => (⟨(wordN sz k).toArray⟩ : Str)) vs) ?_ pw _ ⟨0, [], none, rfl, by (clear hpw16; clear hpw; clear hsz; clear hile; clear hpsl; clear hi6; clear hpl9; clear hi6; clear hik6; clear hM2l; clear hMm; clear hDn; clear hq2; clear hq1; clear hm3; clear hm1; clear hz; omega), .nil⟩
            rintro k l IH8 ⟨i8, vs8, oc8, rfl, hik8, hvs8⟩
            have hvl8 := hvs8.len
            rw [List.length_map, List.length_range] at hvl8
            refine cl_comp1 ?_
            rcases Nat.lt_or_ge i8 pw with hi8 | hi8
            · ((with_reducible refine' t_nextRange ?zhi ?zhl ?zu ?_); (case zhi => top_name); (case zhl => exact hi8); (case zu => k_caught0); (intro _))
              with_reducible refine t_goName ?_
              with_reducible refine t_assignName ?_
              ((with_reducible refine' t_storeCell ?zhN ?zu ?zhcl ?zhx ?zhk ?_); (case zhx => kernel_rfl!); (case zhcl => rfl); (case zhN => top_name); (case zu => k_caught0); (case zhk => rfl))
              ((with_reducible refine' t_MCall ?_ ?zhe); (case zhe => rfl))
              ((with_reducible refine t_str ?_); (intro _))
              with_reducible refine ms_join ?_
              with_reducible refine mc ?_
              with_reducible refine t_callWithP ?_
              ((with_reducible refine t_evalArgs ?_ ?zhe); (case zhe => rfl))
              ((with_reducible refine t_args ?_ ?zhe); (case zhe => rfl))
              ((with_reducible refine' t_ListComp ?zhclos ?zhkind ?zhnames ?zhc ?_ ?zhs); (case zhclos => rfl); (case zhkind => rfl); (case zhnames => decide +kernel); (case zhc => rfl); (case zhs => exact fun _ => rfl))
              ((with_reducible refine t_Call ?_ ?zhe); (case zhe => rfl))
              ((with_reducible refine' t_bltin ?ze ?zhv ?zhn ?zhg ?zhb ?zhk ?zhx ?zhd ?_); (case zhv => top_strB); (case ze => top_argsB); (case zhn => decide +kernel); (case zhg => rfl); (case zhb => rfl); (case zhk => rfl); (case zhx => kernel_rfl!); (case zhd => decide +kernel))
              with_reducible refine t_callWithP ?_
              ((with_reducible refine t_evalArgs ?_ ?zhe); (case zhe => rfl))
              ((with_reducible refine t_args ?_ ?zhe); (case zhe => rfl))
              ((with_reducible refine' t_cell ?zhc ?zhcl ?zhk ?zhx ?zhd ?_); (case zhx => kernel_rfl!); (case zhcl => rfl); (case zhc => top_name); (case zhk => rfl); (case zhd => decide +kernel))
              with_reducible refine t_args0 ?_
              ((with_reducible refine cp0 ?zhc ?_); (case zhc => k_caughtNB))
              ((with_reducible refine' t_range1 ?_); (intro _ _ _))
              refine t_iterRange (n := sz) (b := (sz : Int)) rfl (by top_raise) (by (clear hi8; clear hvl8; clear hik8; clear hpw16; clear hpw; clear hile; clear hpsl; clear hi6; clear hpl9; clear hi6; clear hik6; clear hM2l; clear hMm; clear hDn; clear hq1; clear hm1; clear hz; omega)) fun it9 => ?_
              with_reducible refine opn ?_
              intro _
              intro _
              ((with_reducible refine' cs_range ?zhi ?_); (case zhi => top_name))
              rename_i t8 x91 x92 x93 x94 ac9 C9
              refine cl_fix (N2 := (it9, itN 0 sz) :: (C9, .ns []) :: (ac9, .lst []) :: (it8, itN (i8 + 1) pw) :: (cN, .cell (some (.int (i8 : Int) t8))) :: (C8, .ns []) :: (ac8, .lst vs8) :: (cSz, .cell (some (.int (sz : Int) tsz))) :: (cMa, .cell (some (.int (m : Int) tm))) :: (cDr, .cell (some (.ref acc))) :: (L, .ns [("others", .int (q : Int) tq), ("first", .ref fa), ("second", .ref sec), ("alike", .bool al)]) :: N) (by k_caught0) (by k_caught0) (by k_caught0) ?_
              refine cl_indG (Inv := fun k l => ∃ (j : Nat) (vs : List Value), l = ⟨Fy6, (it9, itN j sz) :: (C9, .ns []) :: (ac9, .lst vs) :: (it8, itN (i8 + 1) pw) :: (cN, .cell (some (.int (i8 : Int) t8))) :: (C8, .ns []) :: (ac8, .lst vs8) :: (cSz, .cell (some (.int (sz : Int) tsz))) :: (cMa, .cell (some (.int (m : Int) tm))) :: (cDr, .cell (some (.ref acc))) :: (L, .ns [("others", .int (q : Int) tq), ("first", .ref fa), ("second", .ref sec), ("alike", .bool al)]) :: N, G⟩ ∧ j + k = sz ∧ Strs ((List.range j).map fun b => (⟨#[120 + i8 / 2 ^ b % 2]⟩ : Str)) vs) ?_ sz _ ⟨0, [], rfl, by (clear hi8; clear hvl8; clear hik8; clear hpw16; clear hpw; clear hsz; clear hile; clear hpsl; clear hi6; clear hpl9; clear hi6; clear hik6; clear hM2l; clear hMm; clear hDn; clear hq2; clear hq1; clear hm3; clear hm1; clear hz; omega), .nil⟩
              rintro k l IH9 ⟨j9, vs9, rfl, hjk9, hvs9⟩
              have hvl9 := hvs9.len
              rw [List.length_map, List.length_range] at hvl9
              refine cl_comp1 ?_
              rcases Nat.lt_or_ge j9 sz with hj9 | hj9
              · ((with_reducible refine' t_nextRange ?zhi ?zhl ?zu ?_); (case zhi => top_name); (case zhl => exact hj9); (case zu => k_caught0); (intro _))
                with_reducible refine t_goName ?_
                with_reducible refine t_assignName ?_
                ((with_reducible refine' t_store ?zhL ?zu ?zhN ?zhl ?zhx ?zhk ?_); (case zhx => kernel_rfl!); (case zhN => top_name); (case zhL => rfl); (case zhl => k_caught0); (case zu => k_caught0); (case zhk => rfl))
                with_reducible refine t_Sub ?_
                ((with_reducible refine t_str ?_); (intro _))
                with_reducible refine t_Bin ?_
                with_reducible refine t_Bin ?_
                ((with_reducible refine' t_cell ?zhc ?zhcl ?zhk ?zhx ?zhd ?_); (case zhx => kernel_rfl!); (case zhcl => rfl); (case zhc => top_name); (case zhk => rfl); (case zhd => decide +kernel))
                with_reducible refine t_Bin ?_
                ((with_reducible refine t_int ?_); (intro _))
                ((with_reducible refine' t_local ?zhL ?zhN ?zhv ?zhx ?zhk ?zhd ?_); (case zhx => kernel_rfl!); (case zhN => top_name); (case zhL => rfl); (case zhv => top_name); (case zhk => rfl); (case zhd => decide +kernel))
                ((with_reducible refine t_pow ?zha ?zhb ?zhz ?_); (case zha => (clear hj9; clear hvl9; clear hjk9; clear hi8; clear hvl8; clear hik8; clear hpw16; clear hpw; clear hsz; clear hile; clear hpsl; clear hi6; clear hpl9; clear hi6; clear hik6; clear hM2l; clear hMm; clear hDn; clear hq2; clear hq1; clear hm3; clear hm1; clear hz; omega)); (case zhb => with_reducible exact Int.natCast_nonneg _); (case zhz => (clear hj9; clear hvl9; clear hi8; clear hvl8; clear hik8; clear hpw16; clear hpw; clear hile; clear hpsl; clear hi6; clear hpl9; clear hi6; clear hik6; clear hM2l; clear hMm; clear hDn; clear hq1; clear hm1; clear hz; omega)); (intro _))
                ((with_reducible refine ti_div ?zhb ?zhp ?_); (case zhb => exact (pow2_small (by (clear hj9; clear hvl9; clear hi8; clear hvl8; clear hik8; clear hpw16; clear hpw; clear hile; clear hpsl; clear hi6; clear hpl9; clear hi6; clear hik6; clear hM2l; clear hMm; clear hDn; clear hq1; clear hm1; clear hz; omega))).1); (case zhp => exact PyProof.noPylong_small (pow2_small (by (clear hj9; clear hvl9; clear hi8; clear hvl8; clear hik8; clear hpw16; clear hpw; clear hile; clear hpsl; clear hi6; clear hpl9; clear hi6; clear hik6; clear hM2l; clear hMm; clear hDn; clear hq1; clear hm1; clear hz; omega))).2); (intro _))
                ((with_reducible refine t_int ?_); (intro _))
                ((with_reducible refine ti_mod ?zhb ?_); (case zhb => decide); (intro _))
                ((with_reducible refine' t_subStr ?zhs ?_); (case zhs => rfl))
                obtain ⟨bb, hbb⟩ : ∃ bb, bb = i8 / 2 ^ j9 % 2 := ⟨_, rfl⟩
                have hb2 : bb < 2 := by rw [hbb]; exact Nat.mod_lt _ (by decide)
                rw [bit_nat, ← hbb]
                refine t_itemStr (c := 120 + bb) (by with_reducible exact Int.natCast_nonneg _) (by (clear hb2; clear hj9; clear hvl9; clear hjk9; clear hi8; clear hvl8; clear hik8; clear hpw16; clear hpw; clear hsz; clear hile; clear hpsl; clear hi6; clear hpl9; clear hi6; clear hik6; clear hM2l; clear hMm; clear hDn; clear hq2; clear hq1; clear hm3; clear hm1; clear hz; omega)) (xy_bit hb2) fun tl => ?_
                ((with_reducible refine' t_append ?zha ?zu ?zhz ?_); (case zha => top_name); (case zu => k_caught0); (case zhz => (unfold sizeLine; (clear hb2; clear hbb; clear hj9; clear hi8; clear hvl8; clear hik8; clear hpw16; clear hpw; clear hile; clear hpsl; clear hi6; clear hpl9; clear hi6; clear hik6; clear hM2l; clear hMm; clear hDn; clear hq1; clear hm1; clear hz; omega))))
                refine cl_fix (by k_caught0) (by k_caught0) (by k_caught0) (IH9 (sz - (j9 + 1)) (by (clear hb2; clear hbb; clear hvl9; clear hi8; clear hvl8; clear hik8; clear hpw16; clear hpw; clear hsz; clear hile; clear hpsl; clear hi6; clear hpl9; clear hi6; clear hik6; clear hM2l; clear hMm; clear hDn; clear hq2; clear hq1; clear hm3; clear hm1; clear hz; omega)) _ ⟨j9 + 1, _, rfl, by (clear hb2; clear hbb; clear hvl9; clear hjk9; clear hi8; clear hvl8; clear hik8; clear hpw16; clear hpw; clear hsz; clear hile; clear hpsl; clear hi6; clear hpl9; clear hi6; clear hik6; clear hM2l; clear hMm; clear hDn; clear hq2; clear hq1; clear hm3; clear hm1; clear hz; omega), ?_⟩)
                rw [List.range_succ, List.map_append, List.map_singleton, ← hbb]
                exact hvs9.snoc _ _
              · ((with_reducible refine' t_nextRangeEnd ?zhh ?zhi ?zhl ?zu ?_); (case zhh => (refine Rm.hd (n := 0) ?_; k_caughtN0)); (case zhi => top_name); (case zhl => exact hj9); (case zu => k_caught0))
                obtain rfl : j9 = sz := by (clear hvl9; clear hi8; clear hvl8; clear hik8; clear hpw16; clear hpw; clear hsz; clear hile; clear hpsl; clear hi6; clear hpl9; clear hi6; clear hik6; clear hM2l; clear hMm; clear hDn; clear hq2; clear hq1; clear hm3; clear hm1; clear hz; omega)
                ((with_reducible refine' endC ?zr ?_); (case zr => k_caught0))
                with_reducible refine t_args0 ?_
                ((with_reducible refine cp1 ?zhc ?_); (case zhc => k_caughtNB))
                refine t_join (by top_raise) hvs9 (joinOk_small (fun y hy => by obtain ⟨b, _, rfl⟩ := List.mem_map.mp hy; exact (by decide : 1 ≤ 100)) (by simp; (clear hj9; clear hjk9; clear hpw; clear hvl9; clear hi8; clear hvl8; clear hik8; clear hpw16; clear hile; clear hpsl; clear hi6; clear hpl9; clear hi6; clear hik6; clear hM2l; clear hMm; clear hDn; clear hq1; clear hm1; clear hz; omega)) (by decide)) fun tj => ?_
                rw [join_singles (fun b => 120 + i8 / 2 ^ b % 2)]
                ((with_reducible refine' t_append ?zha ?zu ?zhz ?_); (case zha => top_name); (case zu => k_caught0); (case zhz => (unfold sizeLine; (clear hj9; clear hjk9; clear hpw; clear hsz; clear hvl9; clear hi8; clear hile; clear hpsl; clear hi6; clear hpl9; clear hi6; clear hik6; clear hM2l; clear hMm; clear hDn; clear hq2; clear hq1; clear hm3; clear hm1; clear hz; omega))))
                refine cl_fix (by k_caught0) (by k_caught0) (by k_caught0) (IH8 (pw - (i8 + 1)) (by (clear hj9; clear hjk9; clear hpw; clear hsz; clear hvl9; clear hvl8; clear hpw16; clear hile; clear hpsl; clear hi6; clear hpl9; clear hi6; clear hik6; clear hM2l; clear hMm; clear hDn; clear hq2; clear hq1; clear hm3; clear hm1; clear hz; omega)) _ ⟨i8 + 1, _, _, rfl, by (clear hj9; clear hjk9; clear hpw; clear hsz; clear hvl9; clear hvl8; clear hik8; clear hpw16; clear hile; clear hpsl; clear hi6; clear hpl9; clear hi6; clear hik6; clear hM2l; clear hMm; clear hDn; clear hq2; clear hq1; clear hm3; clear hm1; clear hz; omega), ?_⟩)
                rw [List.range_succ, List.map_append, List.map_singleton]
                exact hvs8.snoc _ _
            · ((with_reducible refine' t_nextRangeEnd ?zhh ?zhi ?zhl ?zu ?_); (case zhh => (refine Rm.hd (n := 0) ?_; k_caughtN0)); (case zhi => top_name); (case zhl => exact hi8); (case zu => k_caught0))
              obtain rfl : i8 = pw := by (clear hvl8; clear hpw16; clear hpw; clear hsz; clear hile; clear hpsl; clear hi6; clear hpl9; clear hi6; clear hik6; clear hM2l; clear hMm; clear hDn; clear hq2; clear hq1; clear hm3; clear hm1; clear hz; omega)
              ((with_reducible refine' endC ?zr ?_); (case zr => k_caught0))
              with_reducible refine t_args0 ?_
              ((with_reducible refine cp1 ?zhc ?_); (case zhc => k_caughtNB))
              refine t_join (by top_raise) hvs8 (joinOk_small (fun y hy => by obtain ⟨b, _, rfl⟩ := List.mem_map.mp hy; simp [Str.length, wordN]; (clear hi8; clear hik8; clear hpw16; clear hpw; clear hvl8; clear hile; clear hpsl; clear hi6; clear hpl9; clear hi6; clear hik6; clear hM2l; clear hMm; clear hDn; clear hq1; clear hm1; clear hz; omega)) (by simp; (clear hi8; clear hik8; clear hpw; clear hvl8; clear hsz; clear hile; clear hpsl; clear hi6; clear hpl9; clear hi6; clear hik6; clear hM2l; clear hMm; clear hDn; clear hq2; clear hq1; clear hm3; clear hm1; clear hz; omega)) (by decide)) fun tj => ?_
              obtain ⟨TX, hTX, hTc, hTl, hTo⟩ := words_text (sz := sz) (pw := i8) (by (clear hi8; clear hik8; clear hpw16; clear hpw; clear hvl8; clear hile; clear hpsl; clear hi6; clear hpl9; clear hi6; clear hik6; clear hM2l; clear hMm; clear hDn; clear hq1; clear hm1; clear hz; omega)) hpw16
              rw [hTX]
              ((with_reducible refine' t_storeM ?zu ?zhN ?zhl ?zhx ?zhk ?_); (case zhx => kernel_rfl!); (case zhN => top_name); (case zhl => k_caught0); (case zu => k_caught0); (case zhk => rfl))
              with_reducible refine fl_next ?_
              with_reducible refine t_cons ?_
              with_reducible refine t_If ?_
              ((with_reducible refine t_isCmp ?_ ?zhb); (case zhb => rfl))
              ((with_reducible refine t_Cmp ?_ ?zhb); (case zhb => rfl))
              ((with_reducible refine t_Call ?_ ?zhe); (case zhe => rfl))
              ((with_reducible refine' t_glob ?ze ?zhg ?zhk ?zhx ?zhd ?_); (case ze => top_raise0); (case zhg => rfl); (case zhk => rfl); (case zhx => kernel_rfl!); (case zhd => decide +kernel))
              with_reducible refine t_callWithP ?_
              ((with_reducible refine t_evalArgs ?_ ?zhe); (case zhe => rfl))
              ((with_reducible refine t_args ?_ ?zhe); (case zhe => rfl))
              ((with_reducible refine' t_localM ?zhN ?zhv ?zhx ?zhk ?zhd ?_); (case zhx => kernel_rfl!); (case zhN => top_name); (case zhv => top_name); (case zhk => rfl); (case zhd => decide +kernel))
              ((with_reducible refine t_args ?_ ?zhe); (case zhe => rfl))
              ((with_reducible refine' t_localM ?zhN ?zhv ?zhx ?zhk ?zhd ?_); (case zhx => kernel_rfl!); (case zhN => top_name); (case zhv => top_name); (case zhk => rfl); (case zhd => decide +kernel))
              with_reducible refine t_args0 ?_
              ((with_reducible refine cp0 ?zhc ?_); (case zhc => k_caughtNB))
              refine tr_call (sp_told (hM1.mch hfa) hok1 hTl (by k_caughtN0) hG _ fun F20 G20 a20 hF20 hG20 hTA1 => ?_)
              have hfa := hfa.mono hF20
              have hsec := hsec.mono hF20
              have hRA := hRA.mono hF20
              have hM1 := hM1.mono hF20
              have hD20 := hD12.mono hF20
              ((with_reducible refine t_Call ?_ ?zhe); (case zhe => rfl))
              ((with_reducible refine' t_glob ?ze ?zhg ?zhk ?zhx ?zhd ?_); (case ze => top_raise0); (case zhg => rfl); (case zhk => rfl); (case zhx => kernel_rfl!); (case zhd => decide +kernel))
              with_reducible refine t_callWithP ?_
              ((with_reducible refine t_evalArgs ?_ ?zhe); (case zhe => rfl))
              ((with_reducible refine t_args ?_ ?zhe); (case zhe => rfl))
              ((with_reducible refine' t_localM ?zhN ?zhv ?zhx ?zhk ?zhd ?_); (case zhx => kernel_rfl!); (case zhN => top_name); (case zhv => top_name); (case zhk => rfl); (case zhd => decide +kernel))
              ((with_reducible refine t_args ?_ ?zhe); (case zhe => rfl))
              ((with_reducible refine' t_localM ?zhN ?zhv ?zhx ?zhk ?zhd ?_); (case zhx => kernel_rfl!); (case zhN => top_name); (case zhv => top_name); (case zhk => rfl); (case zhd => decide +kernel))
              with_reducible refine t_args0 ?_
              ((with_reducible refine cp0 ?zhc ?_); (case zhc => k_caughtNB))
              refine tr_call (sp_told (hRA.mch hsec) hok2 hTl (by k_caughtN0) hG20 _ fun F21 G21 a21 hF21 hG21 hTA2 => ?_)
              have hfa := hfa.mono hF21
              have hsec := hsec.mono hF21
              have hRA := hRA.mono hF21
              have hM1 := hM1.mono hF21
              have hD21 := hD20.mono hF21
              have hle21 := PH.le_trans (PH.le_trans (PH.le_trans hle12 l13) hF20) hF21
              refine t_eqTold (hTA1.mono hF21) hTA2 (toldM_ok _ _ _ _ hTo) (toldM_ok _ _ _ _ hTo) (by k_caughtN0) ?_
              have hlaw := law03 (c := 2 * i6) hok1 hok2 hpi (by rw [hile]) (ws := (List.range i8).map (wordN sz)) (fun w hw hb => by
                have := words_all sz w (by rw [hw, hMm, hM2l]; (clear hw; clear hTl; clear hi8; clear hik8; clear hpw16; clear hpw; clear hvl8; clear hile; clear hpsl; clear hi6; clear hpl9; clear hi6; clear hik6; clear hM2l; clear hMm; clear hDn; clear hq2; clear hq1; clear hm3; clear hm1; clear hz; omega)) hb
                rw [← hpw] at this
                exact this)
              rw [← hTc] at hlaw
              rw [hlaw.1]
              ((with_reducible refine' t_localM ?zhN ?zhv ?zhx ?zhk ?zhd ?_); (case zhx => kernel_rfl!); (case zhN => top_name); (case zhv => top_name); (case zhk => rfl); (case zhd => decide +kernel))
              with_reducible refine tc_neB ?_
              with_reducible refine tt_bool ?_
              rw [bne_self_eq_false]
              with_reducible refine if_f ?_
              with_reducible refine t_nil ?_
              with_reducible refine fl_next ?_
              with_reducible refine t_cons ?_
              ((with_reducible refine t_AssignName ?_ ?zhs); (case zhs => rfl))
              ((with_reducible refine' t_MCall ?_ ?zhe); (case zhe => rfl))
              ((with_reducible refine t_str ?_); (intro _))
              with_reducible refine ms_join ?_
              with_reducible refine mc ?_
              with_reducible refine t_callWithP ?_
              ((with_reducible refine t_evalArgs ?_ ?zhe); (case zhe => rfl))
              ((with_reducible refine t_args ?_ ?zhe); (case zhe => rfl))
              ((with_reducible refine' t_ListComp ?zhclos ?zhkind ?zhnames ?zhc ?_ ?zhs); (case zhclos => rfl); (case zhkind => rfl); (case zhnames => decide +kernel); (case zhc => rfl); (case zhs => exact fun _ => rfl))
              with_reducible refine t_Sub ?_
              ((with_reducible refine' t_cell ?zhc ?zhcl ?zhk ?zhx ?zhd ?_); (case zhx => kernel_rfl!); (case zhcl => rfl); (case zhc => top_name); (case zhk => rfl); (case zhd => decide +kernel))
              with_reducible refine t_Slice ?_
              with_reducible refine t_part ?_
              ((with_reducible refine t_int ?_); (intro _))
              with_reducible refine t_part0 ?_
              with_reducible refine opnS ?_
              intro _
              ((with_reducible refine' t_subList ?zha ?zhs ?_); (case zha => top_raise); (case zhs => rfl))
              refine t_sliceL (ws := [.int (d 10) (T 10), .int (d 11) (T 11)]) (by top_raise) (by top_raise) (.int ..) .none (by (clear hlaw; clear hTl; clear hi8; clear hik8; clear hpw16; clear hpw; clear hvl8; clear hsz; clear hile; clear hpsl; clear hi6; clear hpl9; clear hi6; clear hik6; clear hM2l; clear hMm; clear hq2; clear hq1; clear hm3; clear hm1; clear hz; omega)) DLs_tail fun c22 => ?_
              ((with_reducible refine' t_iterList ?zha ?_); (case zha => top_raise); (intro _))
              with_reducible refine opn ?_
              intro _
              intro _
              ((with_reducible refine' cs_list ?zhi ?_); (case zhi => top_name))
              rename_i x20 a20s it22 ac22 C22
              refine cl_fix (N2 := (it22, itL c22 0) :: (c22, .lst [.int (d 10) (T 10), .int (d 11) (T 11)]) :: (C22, .ns []) :: (ac22, .lst []) :: (L, .ns [("others", .int (q : Int) tq), ("first", .ref fa), ("second", .ref sec), ("alike", .bool al), ("lines", .str TX tj)]) :: N) (by k_caught0) (by k_caught0) (by k_caught0) ?_
              refine cl_freeze (.tail .head) fun F22 l22 hc22 => ?_
              have hle22 := PH.le_trans hle21 l22
              have hfa := hfa.mono l22
              have hsec := hsec.mono l22
              have hRA := hRA.mono l22
              have hM1 := hM1.mono l22
              refine cl_indG (Inv := fun k l => ∃ (i : Nat) (vs : List Value) (cs : List Nat), l = ⟨F22, (it22, itL c22 i) :: (C22, .ns []) :: (ac22, .lst vs) :: (L, .ns [("others", .int (q : Int) tq), ("first", .ref fa), ("second", .ref sec), ("alike", .bool al), ("lines", .str TX tj)]) :: N, G21⟩ ∧ i + k = 2 ∧ Strs (cs.map fun b => (⟨#[b]⟩ : Str)) vs ∧ cs.length = 10 * i ∧ ∀ c ∈ cs, c < 200) ?_ 2 _ ⟨0, [], [], rfl, rfl, .nil, rfl, fun c hc => nomatch hc⟩
              rintro k l IH22 ⟨i22, vs22, cs, rfl, hik22, hvs22, hcl, hcs⟩
              refine cl_two0 (fun _ => rfl) ?_
              rcases Nat.lt_or_ge i22 2 with hi22 | hi22
              · obtain ⟨dd, td, hdv, hd0⟩ : ∃ dd td, [Value.int (d 10) (T 10), .int (d 11) (T 11)][i22]? = some (.int dd td) ∧ 0 ≤ dd := by
                  obtain rfl | rfl : i22 = 0 ∨ i22 = 1 := by (clear hcl; clear hik22; clear hlaw; clear hTl; clear hi8; clear hik8; clear hpw16; clear hpw; clear hvl8; clear hsz; clear hile; clear hpsl; clear hi6; clear hpl9; clear hi6; clear hik6; clear hM2l; clear hMm; clear hDn; clear hq2; clear hq1; clear hm3; clear hm1; clear hz; omega)
                  · exact ⟨_, _, rfl, (hd 10).1⟩
                  · exact ⟨_, _, rfl, (hd 11).1⟩
                ((with_reducible refine' t_nextList ?zhi ?zha ?zhv ?zu ?_); (case zhi => top_name); (case zha => top_raise); (case zhv => exact hdv); (case zu => k_caught0))
                with_reducible refine t_goName ?_
                with_reducible refine t_assignName ?_
                ((with_reducible refine' t_store ?zhL ?zu ?zhN ?zhl ?zhx ?zhk ?_); (case zhx => kernel_rfl!); (case zhN => top_name); (case zhL => rfl); (case zhl => k_caught0); (case zu => k_caught0); (case zhk => rfl))
                ((with_reducible refine t_Call ?_ ?zhe); (case zhe => rfl))
                ((with_reducible refine' t_bltin ?ze ?zhv ?zhn ?zhg ?zhb ?zhk ?zhx ?zhd ?_); (case zhv => top_strB); (case ze => top_argsB); (case zhn => decide +kernel); (case zhg => rfl); (case zhb => rfl); (case zhk => rfl); (case zhx => kernel_rfl!); (case zhd => decide +kernel))
                with_reducible refine t_callWithP ?_
                ((with_reducible refine t_evalArgs ?_ ?zhe); (case zhe => rfl))
                ((with_reducible refine t_args ?_ ?zhe); (case zhe => rfl))
                ((with_reducible refine t_int ?_); (intro _))
                with_reducible refine t_args0 ?_
                ((with_reducible refine cp0 ?zhc ?_); (case zhc => k_caughtNB))
                ((with_reducible refine' t_range1 ?_); (intro _ _ _))
                refine t_iterRange (n := 10) (b := 10) rfl (by top_raise) (by decide) fun it23 => ?_
                refine cs2_range (by top_name) ?_
                refine cl_fix (N2 := (it23, itN 0 10) :: (it22, itL c22 (i22 + 1)) :: (C22, .ns [("number", .int dd td)]) :: (ac22, .lst vs22) :: (L, .ns [("others", .int (q : Int) tq), ("first", .ref fa), ("second", .ref sec), ("alike", .bool al), ("lines", .str TX tj)]) :: N) (by k_caught0) (by k_caught0) (by k_caught0) ?_
                refine cl_indG (Inv := fun k l => ∃ (j : Nat) (vs : List Value) (cs : List Nat), l = ⟨F22, (it23, itN j 10) :: (it22, itL c22 (i22 + 1)) :: (C22, .ns [("number", .int dd td)]) :: (ac22, .lst vs) :: (L, .ns [("others", .int (q : Int) tq), ("first", .ref fa), ("second", .ref sec), ("alike", .bool al), ("lines", .str TX tj)]) :: N, G21⟩ ∧ j + k = 10 ∧ Strs (cs.map fun b => (⟨#[b]⟩ : Str)) vs ∧ cs.length = 10 * i22 + j ∧ ∀ c ∈ cs, c < 200) ?_ 10 _ ⟨0, vs22, cs, rfl, rfl, hvs22, hcl, hcs⟩
                rintro k l IH23 ⟨j23, vs23, cs, rfl, hjk23, hvs23, hcl, hcs⟩
                have hvl23 := hvs23.len
                rw [List.length_map] at hvl23
                refine cl_two1 ?_
                rcases Nat.lt_or_ge j23 10 with hj23 | hj23
                · ((with_reducible refine' t_nextRange ?zhi ?zhl ?zu ?_); (case zhi => top_name); (case zhl => exact hj23); (case zu => k_caught0); (intro _))
                  with_reducible refine t_goName ?_
                  with_reducible refine t_assignName ?_
                  ((with_reducible refine' t_store ?zhL ?zu ?zhN ?zhl ?zhx ?zhk ?_); (case zhx => kernel_rfl!); (case zhN => top_name); (case zhL => rfl); (case zhl => k_caught0); (case zu => k_caught0); (case zhk => rfl))
                  with_reducible refine t_Sub ?_
                  ((with_reducible refine t_str ?_); (intro _))
                  with_reducible refine t_Bin ?_
                  with_reducible refine t_Bin ?_
                  ((with_reducible refine' t_local ?zhL ?zhN ?zhv ?zhx ?zhk ?zhd ?_); (case zhx => kernel_rfl!); (case zhN => top_name); (case zhL => rfl); (case zhv => top_name); (case zhk => rfl); (case zhd => decide +kernel))
                  with_reducible refine t_Bin ?_
                  ((with_reducible refine t_int ?_); (intro _))
                  ((with_reducible refine' t_local ?zhL ?zhN ?zhv ?zhx ?zhk ?zhd ?_); (case zhx => kernel_rfl!); (case zhN => top_name); (case zhL => rfl); (case zhv => top_name); (case zhk => rfl); (case zhd => decide +kernel))
                  ((with_reducible refine t_pow ?zha ?zhb ?zhz ?_); (case zha => (clear hj23; clear hvl23; clear hcl; clear hjk23; clear hd0; clear hi22; clear hcl; clear hik22; clear hlaw; clear hTl; clear hi8; clear hik8; clear hpw16; clear hpw; clear hvl8; clear hsz; clear hile; clear hpsl; clear hi6; clear hpl9; clear hi6; clear hik6; clear hM2l; clear hMm; clear hDn; clear hq2; clear hq1; clear hm3; clear hm1; clear hz; omega)); (case zhb => with_reducible exact Int.natCast_nonneg _); (case zhz => (clear hj23; clear hvl23; clear hcl; clear hd0; clear hi22; clear hcl; clear hik22; clear hlaw; clear hTl; clear hi8; clear hik8; clear hpw16; clear hpw; clear hvl8; clear hsz; clear hile; clear hpsl; clear hi6; clear hpl9; clear hi6; clear hik6; clear hM2l; clear hMm; clear hDn; clear hq2; clear hq1; clear hm3; clear hm1; clear hz; omega)); (intro _))
                  ((with_reducible refine ti_div ?zhb ?zhp ?_); (case zhb => exact (pow2_small (by with_reducible assumption)).1); (case zhp => exact PyProof.noPylong_small (pow2_small (by with_reducible assumption)).2); (intro _))
                  ((with_reducible refine t_int ?_); (intro _))
                  ((with_reducible refine ti_mod ?zhb ?_); (case zhb => decide); (intro _))
                  ((with_reducible refine' t_subStr ?zhs ?_); (case zhs => rfl))
                  obtain ⟨bb, hbb, hb2⟩ : ∃ x : Nat, (dd.fdiv (2 ^ (j23 : Int).toNat)).fmod 2 = (x : Int) ∧ x < 2 := fmod_nat (n := 2) (by decide)
                  rw [hbb]
                  refine t_itemStr (c := 120 + bb) (by with_reducible exact Int.natCast_nonneg _) (by (clear hbb; clear hj23; clear hvl23; clear hcl; clear hjk23; clear hd0; clear hi22; clear hcl; clear hik22; clear hlaw; clear hTl; clear hi8; clear hik8; clear hpw16; clear hpw; clear hvl8; clear hsz; clear hile; clear hpsl; clear hi6; clear hpl9; clear hi6; clear hik6; clear hM2l; clear hMm; clear hDn; clear hq2; clear hq1; clear hm3; clear hm1; clear hz; omega)) (xy_bit hb2) fun tl => ?_
                  ((with_reducible refine' t_append ?zha ?zu ?zhz ?_); (case zha => top_name); (case zu => k_caught0); (case zhz => (unfold sizeLine; (clear hb2; clear hbb; clear hj23; clear hd0; clear hi22; clear hlaw; clear hTl; clear hi8; clear hik8; clear hpw16; clear hpw; clear hvl8; clear hsz; clear hile; clear hpsl; clear hi6; clear hpl9; clear hi6; clear hik6; clear hM2l; clear hMm; clear hDn; clear hq2; clear hq1; clear hm3; clear hm1; clear hz; omega))))
                  refine cl_fix (by k_caught0) (by k_caught0) (by k_caught0) (IH23 (10 - (j23 + 1)) (by (clear hb2; clear hbb; clear hvl23; clear hcl; clear hd0; clear hi22; clear hcl; clear hik22; clear hlaw; clear hTl; clear hi8; clear hik8; clear hpw16; clear hpw; clear hvl8; clear hsz; clear hile; clear hpsl; clear hi6; clear hpl9; clear hi6; clear hik6; clear hM2l; clear hMm; clear hDn; clear hq2; clear hq1; clear hm3; clear hm1; clear hz; omega)) _ ⟨j23 + 1, _, cs ++ [120 + bb], rfl, by (clear hb2; clear hbb; clear hvl23; clear hcl; clear hjk23; clear hd0; clear hi22; clear hcl; clear hik22; clear hlaw; clear hTl; clear hi8; clear hik8; clear hpw16; clear hpw; clear hvl8; clear hsz; clear hile; clear hpsl; clear hi6; clear hpl9; clear hi6; clear hik6; clear hM2l; clear hMm; clear hDn; clear hq2; clear hq1; clear hm3; clear hm1; clear hz; omega), by rw [List.map_append]; exact hvs23.snoc _ _, by simp; (clear hb2; clear hbb; clear hj23; clear hvl23; clear hjk23; clear hd0; clear hi22; clear hik22; clear hlaw; clear hTl; clear hi8; clear hik8; clear hpw16; clear hpw; clear hvl8; clear hsz; clear hile; clear hpsl; clear hi6; clear hpl9; clear hi6; clear hik6; clear hM2l; clear hMm; clear hDn; clear hq2; clear hq1; clear hm3; clear hm1; clear hz; omega), fun c hc => ?_⟩)
                  rcases List.mem_append.mp hc with hc | hc
                  · exact hcs c hc
                  · rw [List.mem_singleton.mp hc]; (clear hbb; clear hj23; clear hvl23; clear hcl; clear hjk23; clear hd0; clear hi22; clear hcl; clear hik22; clear hlaw; clear hTl; clear hi8; clear hik8; clear hpw16; clear hpw; clear hvl8; clear hsz; clear hile; clear hpsl; clear hi6; clear hpl9; clear hi6; clear hik6; clear hM2l; clear hMm; clear hDn; clear hq2; clear hq1; clear hm3; clear hm1; clear hz; omega)
                · ((with_reducible refine' t_nextRangeEnd ?zhh ?zhi ?zhl ?zu ?_); (case zhh => (refine Rm.hd (n := 0) ?_; k_caughtN0)); (case zhi => top_name); (case zhl => exact hj23); (case zu => k_caught0))
                  refine cl_fix (N2 := (it22, itL c22 (i22 + 1)) :: (C22, .ns []) :: (ac22, .lst vs23) :: (L, .ns [("others", .int (q : Int) tq), ("first", .ref fa), ("second", .ref sec), ("alike", .bool al), ("lines", .str TX tj)]) :: N) (by k_caught0) (by k_caught0) (by k_caught0) ?_
                  exact IH22 (2 - (i22 + 1)) (by (clear hj23; clear hvl23; clear hcl; clear hjk23; clear hd0; clear hcl; clear hlaw; clear hTl; clear hi8; clear hik8; clear hpw16; clear hpw; clear hvl8; clear hsz; clear hile; clear hpsl; clear hi6; clear hpl9; clear hi6; clear hik6; clear hM2l; clear hMm; clear hDn; clear hq2; clear hq1; clear hm3; clear hm1; clear hz; omega)) _ ⟨i22 + 1, vs23, cs, rfl, by (clear hj23; clear hvl23; clear hcl; clear hjk23; clear hd0; clear hcl; clear hik22; clear hlaw; clear hTl; clear hi8; clear hik8; clear hpw16; clear hpw; clear hvl8; clear hsz; clear hile; clear hpsl; clear hi6; clear hpl9; clear hi6; clear hik6; clear hM2l; clear hMm; clear hDn; clear hq2; clear hq1; clear hm3; clear hm1; clear hz; omega), hvs23, by (clear hvl23; clear hd0; clear hi22; clear hik22; clear hlaw; clear hTl; clear hi8; clear hik8; clear hpw16; clear hpw; clear hvl8; clear hsz; clear hile; clear hpsl; clear hi6; clear hpl9; clear hi6; clear hik6; clear hM2l; clear hMm; clear hDn; clear hq2; clear hq1; clear hm3; clear hm1; clear hz; omega), hcs⟩
              · ((with_reducible refine' t_nextListEnd ?zhh ?zhi ?zha ?zhv ?zu ?_); (case zhh => (refine Rm.hd (n := 0) ?_; k_caughtN0)); (case zhi => top_name); (case zha => top_raise); (case zhv => exact hi22); (case zu => k_caught0))
                obtain rfl : i22 = 2 := by (clear hcl; clear hlaw; clear hTl; clear hi8; clear hik8; clear hpw16; clear hpw; clear hvl8; clear hsz; clear hile; clear hpsl; clear hi6; clear hpl9; clear hi6; clear hik6; clear hM2l; clear hMm; clear hDn; clear hq2; clear hq1; clear hm3; clear hm1; clear hz; omega)
                ((with_reducible refine' endC ?zr ?_); (case zr => k_caught0))
                with_reducible refine t_args0 ?_
                ((with_reducible refine cp1 ?zhc ?_); (case zhc => k_caughtNB))
                refine t_join (by top_raise) hvs22 (joinOk_small (fun y hy => by obtain ⟨b, _, rfl⟩ := List.mem_map.mp hy; exact (by decide : 1 ≤ 100)) (by simp; (clear hi22; clear hik22; clear hlaw; clear hTl; clear hi8; clear hik8; clear hpw16; clear hpw; clear hvl8; clear hsz; clear hile; clear hpsl; clear hi6; clear hpl9; clear hi6; clear hik6; clear hM2l; clear hMm; clear hDn; clear hq2; clear hq1; clear hm3; clear hm1; clear hz; omega)) (by decide)) fun tj2 => ?_
                obtain ⟨TL, hTL, hTLc, hTLl, hTLo⟩ := singles_text hcs (by (clear hi22; clear hik22; clear hlaw; clear hTl; clear hi8; clear hik8; clear hpw16; clear hpw; clear hvl8; clear hsz; clear hile; clear hpsl; clear hi6; clear hpl9; clear hi6; clear hik6; clear hM2l; clear hMm; clear hDn; clear hq2; clear hq1; clear hm3; clear hm1; clear hz; omega))
                rw [hTL]
                ((with_reducible refine' t_storeM ?zu ?zhN ?zhl ?zhx ?zhk ?_); (case zhx => kernel_rfl!); (case zhN => top_name); (case zhl => k_caught0); (case zu => k_caught0); (case zhk => rfl))
                with_reducible refine fl_next ?_
                with_reducible refine t_cons ?_
                with_reducible refine t_Return ?_
                with_reducible refine t_Or ?_
                with_reducible refine t_Neg ?_
                ((with_reducible refine' t_localM ?zhN ?zhv ?zhx ?zhk ?zhd ?_); (case zhx => kernel_rfl!); (case zhN => top_name); (case zhv => top_name); (case zhk => rfl); (case zhd => decide +kernel))
                with_reducible refine t_not ?_
                with_reducible refine tt_bool ?_
                with_reducible refine tt_bool ?_
                refine if_b (fun hb => ?_) (fun hb => ?_)
                · rw [hb]
                  with_reducible refine fl_ret ?_
                  exact ⟨N, by k_caught0, _, rfl, h _ _ hle22 hG21⟩
                · have hal : al = true := by simpa using hb
                  ((with_reducible refine t_Bool1 ?_ ?zhe); (case zhe => rfl))
                  ((with_reducible refine t_Cmp ?_ ?zhb); (case zhb => rfl))
                  ((with_reducible refine t_Call ?_ ?zhe); (case zhe => rfl))
                  ((with_reducible refine' t_glob ?ze ?zhg ?zhk ?zhx ?zhd ?_); (case ze => top_raise0); (case zhg => rfl); (case zhk => rfl); (case zhx => kernel_rfl!); (case zhd => decide +kernel))
                  with_reducible refine t_callWithP ?_
                  ((with_reducible refine t_evalArgs ?_ ?zhe); (case zhe => rfl))
                  ((with_reducible refine t_args ?_ ?zhe); (case zhe => rfl))
                  ((with_reducible refine' t_localM ?zhN ?zhv ?zhx ?zhk ?zhd ?_); (case zhx => kernel_rfl!); (case zhN => top_name); (case zhv => top_name); (case zhk => rfl); (case zhd => decide +kernel))
                  ((with_reducible refine t_args ?_ ?zhe); (case zhe => rfl))
                  ((with_reducible refine' t_localM ?zhN ?zhv ?zhx ?zhk ?zhd ?_); (case zhx => kernel_rfl!); (case zhN => top_name); (case zhv => top_name); (case zhk => rfl); (case zhd => decide +kernel))
                  with_reducible refine t_args0 ?_
                  ((with_reducible refine cp0 ?zhc ?_); (case zhc => k_caughtNB))
                  refine tr_call (sp_told (hM1.mch hfa) hok1 hTLl (by k_caughtN0) hG21 _ fun F24 G24 a24 hF24 hG24 hTA3 => ?_)
                  have hsec := hsec.mono hF24
                  have hRA := hRA.mono hF24
                  ((with_reducible refine t_Call ?_ ?zhe); (case zhe => rfl))
                  ((with_reducible refine' t_glob ?ze ?zhg ?zhk ?zhx ?zhd ?_); (case ze => top_raise0); (case zhg => rfl); (case zhk => rfl); (case zhx => kernel_rfl!); (case zhd => decide +kernel))
                  with_reducible refine t_callWithP ?_
                  ((with_reducible refine t_evalArgs ?_ ?zhe); (case zhe => rfl))
                  ((with_reducible refine t_args ?_ ?zhe); (case zhe => rfl))
                  ((with_reducible refine' t_localM ?zhN ?zhv ?zhx ?zhk ?zhd ?_); (case zhx => kernel_rfl!); (case zhN => top_name); (case zhv => top_name); (case zhk => rfl); (case zhd => decide +kernel))
                  ((with_reducible refine t_args ?_ ?zhe); (case zhe => rfl))
                  ((with_reducible refine' t_localM ?zhN ?zhv ?zhx ?zhk ?zhd ?_); (case zhx => kernel_rfl!); (case zhN => top_name); (case zhv => top_name); (case zhk => rfl); (case zhd => decide +kernel))
                  with_reducible refine t_args0 ?_
                  ((with_reducible refine cp0 ?zhc ?_); (case zhc => k_caughtNB))
                  refine tr_call (sp_told (hRA.mch hsec) hok2 hTLl (by k_caughtN0) hG24 _ fun F25 G25 a25 hF25 hG25 hTA4 => ?_)
                  refine t_eqTold (hTA3.mono hF25) hTA4 (toldM_ok _ _ _ _ hTLo) (toldM_ok _ _ _ _ hTLo) (by k_caughtN0) ?_
                  rw [show decide (toldM M TL.cps.toList 0 0 = toldM MB TL.cps.toList 0 0) = true from decide_eq_true (hlaw.2 hal _ _)]
                  with_reducible refine fl_ret ?_
                  exact ⟨N, by k_caught0, _, rfl, h _ _ (PH.le_trans hle22 (PH.le_trans hF24 hF25)) hG25⟩
end Mine
namespace Mine
theorem Ints.of {vs : List Value} {ns : List Int} (h : IntsAre vs ns) : Ints ns vs := by
  induction h with
  | nil => exact .nil
  | cons n t _ ih => exact .cons ih
theorem rm_callerA : Rm callerA 250 := ⟨rfl, by show 1 + claimMargin + 250 < recursionLimit; decide, by show 4 + 10 * 250 < cLine; decide⟩
theorem law_post (r : OpenLaw) (l : List WData) : r.row.claim.post l (.bool true) l = true := by
  delta OpenLaw.row RowW.claim
  dsimp only
  rw [Bool.and_eq_true]
  refine ⟨?_, ?_⟩
  · simp [WShape.has, WShape.arms]
  · simp only [WTm.holds, WTm.value, Option.bind_some, bind, pure]
    first | rw [PySem.W.same_self] | simp [PySem.W.same_self]
theorem at_head {w : World} {mg mb : Str → Option Value} {s : Shared} {p : Program} {loose : List Str} {mean : ExcName → Option Value} (KX : (HK w.params).In s.heap) (T : Top p loose mean mg mb s.heap) (hg : s.gens = #[]) :
    (cx w mg mb s.os).At ⟨fun a => s.heap.get? a, [], #[]⟩ s where
  top := ⟨fun a o e => KX a o e, let ⟨o, es, ep, h1, h2, h3, h4⟩ := T.g; ⟨o, es, ep, h1, h2, h3, h4⟩, let ⟨o, es, ep, h1, h2, h3, h4⟩ := T.b; ⟨o, es, ep, h1, h2, h3, h4⟩,
    let ⟨mc, ⟨o, es, ep, h1, h2, h3, h4⟩, h5⟩ := T.nolimit; ⟨mc, o, es, ep, h1, h2, h3, h4, h5⟩, T.builtins⟩
  fz := fun a o e => e
  nw := fun p hp => nomatch hp
  nd := List.nodup_nil
  gn := hg
  os := rfl
end Mine
theorem PySem.Challenge.cw_af5023_03_holds : PySem.Challenge.rw_af5023_03.Holds :=
  hd03 (by
  k_fill
  intro w s₀ s₁ mg mb G Y fa o pm cd doc dV kV ho hd hcd hD hmg hg args vals as hpre hlay hrd hwl hlo
  have KX := km_in_of Y
  refine Ground.open G ?_
  intro T B D TE TW
  wrow_args hpre hlay hrd hwl hlo
  rename s₁.heap.IsList _ _ => hL
  rename IntsAre _ _ => hI
  rename ¬ _ => hc
  have S := Mine.at_head KX T hg
  have hfa : some (Value.ref fa) = some (Value.ref 685) := hmg.symm.trans (mg_of S.inK S.globals Mine.g_law)
  obtain rfl : fa = 685 := by injection hfa with h; injection h
  refine Mine.Tr.use (R := fun v l' => v = .bool true ∧ Mine.PH.le (fun a => s₁.heap.get? a) l'.F ∧ AllBare l'.G) (Mine.tr_call (Mine.sp_law (N := []) (G := #[]) (F := fun a => s₁.heap.get? a) ?_ (Mine.Ints.of hI) ?_ (Mine.rm_callerA.le (by decide)) AllBare.empty _ fun F' G' hF hG => ⟨rfl, hF, hG⟩)) S fun v s' l' S' hv => ?_
  · obtain ⟨o, ho, hc, n, hd⟩ := hL
    exact ⟨o, ho, hc, n, hd⟩
  · omega
  · obtain ⟨rfl, hF, hG⟩ := hv
    exact ⟨.inl ⟨.bool true, .bool true, [], rfl, fun _ => rfl, .bool true, Mine.law_post _ _, fun _ => ⟨.nil, fun _ h => nomatch h⟩⟩, .of_keep fun b o e => S'.fz b o (hF b o e), S'.os, by rw [S'.gn]; exact hG⟩)

