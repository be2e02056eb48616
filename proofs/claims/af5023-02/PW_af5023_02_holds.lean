import PyProof.Rows.All
import Wide.All
import OpenK.AllK
import Wide.FinOn
import Lean
import PySem.Challenge.RW_af5023_02
set_option Elab.async false
set_option maxRecDepth 100000
set_option maxHeartbeats 8000000
set_option autoImplicit false
set_option linter.unusedVariables false
open PySem PySem.W PyProof.Rows
open_top hd02 for PySem.Challenge.rw_af5023_02
open PySem PySem.W PyProof.Rows PySem.Calls
set_option maxRecDepth 100000
set_option Elab.async false
set_option autoImplicit false
set_option linter.unusedVariables false
namespace Mine

/-- what is known of an object -/
inductive OD where
  | lst (vs : List Value)
  | tup (vs : List Value)
  | inst (C : Addr) (d : Addr)
  | ns (l : List (Str × Value))
  | fld (l : List (Str × Value))
  | dic (kvs : List (Str × Value))
  | cell (v : Option Value)
  | rcd (T : String) (vs : List Value)
  | raw (o : Obj)

abbrev PH := Addr → Option Obj

/-- the keys of a dict by strs, hashes as the world has them -/
def EntOk (P : Params) : DictEntry → Str × Value → Prop := fun e p => (∃ t, e.key = .str p.1 t) ∧ e.val = p.2 ∧ e.hash = PyData.keyHash P p.1
inductive Ents (P : Params) : List DictEntry → List (Str × Value) → Prop
  | nil : Ents P [] []
  | cons {e p es l} : EntOk P e p → Ents P es l → Ents P (e :: es) (p :: l)

def OD.ok (P : Params) : OD → Obj → Prop
  | .lst vs, o => o.cls = .type "list" ∧ (o.dict = none ∧ o.slots = #[]) ∧ ∃ n, o.data = .seq vs.toArray n
  | .tup vs, o => o.cls = .type "tuple" ∧ o.dict = none ∧ ∃ n, o.data = .seq vs.toArray n
  | .inst C d, o => o.cls = .ref C ∧ o.dict = some d ∧ o.data = .plain
  | .ns l, o => (l.map (·.1)).Nodup ∧ ∃ es n, o.data = .dict es n ∧ StrKeys es ∧ ∀ p ∈ l, nsFind es p.1 = some p.2
  | .fld l, o => o.cls = .type "dict" ∧ o.dict = none ∧ (l.map (·.1)).Nodup ∧ ∃ es n, o.data = .dict es n ∧ StrKeys es ∧ es.size ≤ l.length ∧ ∀ x, nsFind es x = l.lookup x
  | .dic kvs, o => o.ExactDict ∧ (kvs.map (·.1)).Nodup ∧ ∃ es n, o.data = .dict es n ∧ Ents P es.toList kvs
  | .cell v, o => o.data = .cell v ∧ o.slots = #[]
  | .rcd T vs, o => o.cls = .type T ∧ o.data = .fields vs.toArray
  | .raw o', o => o = o' ∧ o.isFreed = false

theorem OD.ok_live {P : Params} {D : OD} {o : Obj} (h : D.ok P o) : o.isFreed = false := by
  obtain ⟨c, d, dt, sl⟩ := o
  cases D with
  | lst => obtain ⟨_, _, _, rfl⟩ := h; rfl
  | tup => obtain ⟨_, _, _, rfl⟩ := h; rfl
  | inst => obtain ⟨_, _, rfl⟩ := h; rfl
  | ns => obtain ⟨_, _, _, rfl, _⟩ := h; rfl
  | fld => obtain ⟨_, _, _, _, _, rfl, _⟩ := h; rfl
  | dic => obtain ⟨_, _, _, _, rfl, _⟩ := h; rfl
  | cell => obtain ⟨rfl, _⟩ := h; rfl
  | rcd => obtain ⟨_, rfl⟩ := h; rfl
  | raw => exact h.1 ▸ h.2

/-- known at a heap -/
def Has (P : Params) (h : Heap) (a : Addr) (D : OD) : Prop := ∃ o, h.get? a = some o ∧ D.ok P o
/-- known for good -/
def Fz (P : Params) (F : PH) (a : Addr) (D : OD) : Prop := 2 < a ∧ ∃ o, F a = some o ∧ D.ok P o
def PH.le (F G : PH) : Prop := ∀ a o, F a = some o → G a = some o
theorem Fz.mono {P : Params} {F G : PH} {a D} (h : Fz P F a D) (k : F.le G) : Fz P G a D := let ⟨b, o, e, r⟩ := h; ⟨b, o, k _ _ e, r⟩
theorem PH.le_refl (F : PH) : F.le F := fun _ _ e => e
theorem PH.le_trans {F G H : PH} (a : F.le G) (b : G.le H) : F.le H := fun x o e => b x o (a x o e)

structure TopF (K : Frag) (mg mb : Str → Option Value) (F : PH) : Prop where
  k : ∀ a o, K.lookup a = some o → F a = some o
  g : ∃ o es ep, F mainGlobals = some o ∧ o.data = .dict es ep ∧ StrKeys es ∧ ∀ x, nsFind es x = mg x
  b : ∃ o es ep, F builtinsNs = some o ∧ o.data = .dict es ep ∧ StrKeys es ∧ ∀ x, nsFind es x = mb x
  lim : ∃ (mc : Str → Option Value) (o : Obj) (es : Array DictEntry) (ep : Nat), F cStatics = some o ∧ o.data = .dict es ep ∧ StrKeys es ∧ (∀ x, nsFind es x = mc x) ∧ mc "sys.recursionlimit" = none
  bi : ∀ x : Str, x ≠ "__name__" → mb x = bootBuiltins x
theorem TopF.mono {K mg mb} {F G : PH} (T : TopF K mg mb F) (k : F.le G) : TopF K mg mb G where
  k := fun a o e => k _ _ (T.k a o e)
  g := let ⟨o, es, ep, h, r⟩ := T.g; ⟨o, es, ep, k _ _ h, r⟩
  b := let ⟨o, es, ep, h, r⟩ := T.b; ⟨o, es, ep, k _ _ h, r⟩
  lim := let ⟨mc, o, es, ep, h, r⟩ := T.lim; ⟨mc, o, es, ep, k _ _ h, r⟩
  bi := T.bi

structure At (K : Frag) (mg mb : Str → Option Value) (P : Params) (F : PH) (N : List (Addr × OD)) (G : Array GenState) (O : OsState) (s : Shared) : Prop where
  top : TopF K mg mb F
  fz : ∀ a o, F a = some o → s.heap.get? a = some o
  nw : ∀ p ∈ N, (2 < p.1 ∧ F p.1 = none) ∧ Has P s.heap p.1 p.2
  nd : (N.map (·.1)).Nodup
  gn : s.gens = G
  os : s.os = O

section
variable {K : Frag} {mg mb : Str → Option Value} {P : Params} {F : PH} {N N' : List (Addr × OD)} {G : Array GenState} {O : OsState} {s : Shared}

theorem At.led (S : At K mg mb P F N G O s) {a D} (h : (a, D) ∈ N) : Has P s.heap a D := (S.nw _ h).2
theorem At.frz (S : At K mg mb P F N G O s) {a D} (h : Fz P F a D) : Has P s.heap a D := let ⟨_, o, e, r⟩ := h; ⟨o, S.fz _ _ e, r⟩
theorem At.inK (S : At K mg mb P F N G O s) : K.In s.heap := fun a o e => S.fz _ _ (S.top.k a o e)
theorem At.globals (S : At K mg mb P F N G O s) : s.heap.Ns mainGlobals mg := let ⟨o, es, ep, h, r⟩ := S.top.g; ⟨o, es, ep, S.fz _ _ h, r⟩
theorem At.bltins (S : At K mg mb P F N G O s) : s.heap.Ns builtinsNs mb := let ⟨o, es, ep, h, r⟩ := S.top.b; ⟨o, es, ep, S.fz _ _ h, r⟩
theorem At.nolimit (S : At K mg mb P F N G O s) : s.heap.NoLimit := let ⟨mc, o, es, ep, h, a, b, c, d⟩ := S.top.lim; ⟨mc, ⟨o, es, ep, S.fz _ _ h, a, b, c⟩, d⟩

/-- another state with the same heap -/
theorem At.same (S : At K mg mb P F N G O s) {s' : Shared} (h : s'.heap = s.heap) (g : s'.gens = s.gens) (o : s'.os = s.os) : At K mg mb P F N G O s' :=
  ⟨S.top, fun a x e => h ▸ S.fz a x e, fun p hp => ⟨(S.nw p hp).1, h ▸ (S.nw p hp).2⟩, S.nd, g.trans S.gn, o.trans S.os⟩
theorem At.sub (S : At K mg mb P F N G O s) (h : N'.Sublist N) : At K mg mb P F N' G O s :=
  ⟨S.top, S.fz, fun p hp => S.nw p (h.subset hp), (h.map _).nodup S.nd, S.gn, S.os⟩
theorem At.perm (S : At K mg mb P F N G O s) (h : N'.Perm N) : At K mg mb P F N' G O s :=
  ⟨S.top, S.fz, fun p hp => S.nw p (h.subset hp), (h.map _).nodup_iff.mpr S.nd, S.gn, S.os⟩

theorem At.fresh (S : At K mg mb P F N G O s) : F s.heap.objs.size = none ∧ s.heap.objs.size ∉ N.map (·.1) := by
  constructor
  · cases h : F s.heap.objs.size with
    | none => rfl
    | some o => exact absurd (Heap.lt_size (S.fz _ _ h)) (Nat.lt_irrefl _)
  · intro h
    obtain ⟨p, hp, e⟩ := List.mem_map.mp h
    obtain ⟨_, o, ho, _⟩ := S.nw p hp
    exact absurd (e ▸ Heap.lt_size ho) (Nat.lt_irrefl _)

theorem At.alloc (S : At K mg mb P F N G O s) {D : OD} {o : Obj} (hD : D.ok P o) {s' : Shared} (h : s'.heap = s.heap.push o) (g : s'.gens = s.gens) (os : s'.os = s.os) :
    At K mg mb P F ((s.heap.objs.size, D) :: N) G O s' := by
  have hf := OD.ok_live hD
  refine ⟨S.top, fun a x e => h ▸ Heap.get?_push_of_some _ (S.fz a x e), fun p hp => ?_, ?_, g.trans S.gn, os.trans S.os⟩
  · rcases List.mem_cons.mp hp with rfl | hp
    · have big : 2 < s.heap.objs.size := by
        obtain ⟨_, _, _, hg, _⟩ := S.top.g
        exact Nat.lt_trans (by decide) (Heap.lt_size (S.fz _ _ hg))
      exact ⟨⟨big, S.fresh.1⟩, o, h ▸ Heap.get?_push_size _ hf, hD⟩
    · obtain ⟨a, x, hx, r⟩ := S.nw p hp
      exact ⟨a, x, h ▸ Heap.get?_push_of_some _ hx, r⟩
  · rw [List.map_cons]
    exact List.nodup_cons.mpr ⟨S.fresh.2, S.nd⟩

/-- the ledger with one row turned -/
inductive LUpd : List (Addr × OD) → Addr → OD → List (Addr × OD) → Prop
  | head {a D D' r} : LUpd ((a, D) :: r) a D' ((a, D') :: r)
  | tail {a p D' r r'} : LUpd r a D' r' → LUpd (p :: r) a D' (p :: r')
theorem LUpd.keys {a D' N N'} (u : LUpd N a D' N') : N'.map (·.1) = N.map (·.1) := by
  induction u with
  | head => rfl
  | tail _ ih => rw [List.map_cons, List.map_cons, ih]
theorem LUpd.memKey {a D' N N'} (u : LUpd N a D' N') : a ∈ N.map (·.1) := by
  induction u with
  | head => exact .head _
  | tail _ ih => exact .tail _ ih
theorem LUpd.mem {a D' N N'} (u : LUpd N a D' N') (nd : (N.map (·.1)).Nodup) : ∀ p ∈ N', p = (a, D') ∨ (p ∈ N ∧ p.1 ≠ a) := by
  induction u with
  | @head a D D' r =>
    intro p hp
    rcases List.mem_cons.mp hp with rfl | hp
    · exact .inl rfl
    · refine .inr ⟨.tail _ hp, fun e => ?_⟩
      rw [List.map_cons] at nd
      have q := List.mem_map_of_mem (f := (·.1)) hp
      rw [show p.1 = a from e] at q
      exact (List.nodup_cons.mp nd).1 q
  | @tail a q D' r r' u ih =>
    intro p hp
    rw [List.map_cons] at nd
    obtain ⟨n1, n2⟩ := List.nodup_cons.mp nd
    rcases List.mem_cons.mp hp with rfl | hp
    · exact .inr ⟨.head _, fun e => n1 (e ▸ u.memKey)⟩
    · rcases ih n2 p hp with h | ⟨h, n⟩
      · exact .inl h
      · exact .inr ⟨.tail _ h, n⟩
theorem LUpd.had {a D' N N'} (u : LUpd N a D' N') : ∃ D, (a, D) ∈ N := by
  induction u with
  | head => exact ⟨_, .head _⟩
  | tail _ ih => exact ⟨ih.choose, .tail _ ih.choose_spec⟩

theorem At.upd (S : At K mg mb P F N G O s) {a : Addr} {D : OD} (u : LUpd N a D N') {h' : Heap} (hs : Heap.SameBut a s.heap h') (hD : Has P h' a D) {s' : Shared} (h : s'.heap = h') (g : s'.gens = s.gens) (os : s'.os = s.os) :
    At K mg mb P F N' G O s' := by
  subst h
  obtain ⟨D₀, hm⟩ := u.had
  have hF2 := (S.nw _ hm).1
  have hF := hF2.2
  refine ⟨S.top, fun b x e => ?_, fun p hp => ?_, by rw [u.keys]; exact S.nd, g.trans S.gn, os.trans S.os⟩
  · have ne : b ≠ a := fun z => by rw [z, hF] at e; cases e
    rw [hs.2 b ne]; exact S.fz b x e
  · rcases u.mem S.nd p hp with rfl | ⟨hp, ne⟩
    · exact ⟨hF2, hD⟩
    · obtain ⟨y, x, hx, r⟩ := S.nw p hp
      exact ⟨y, x, by rw [hs.2 _ ne]; exact hx, r⟩
end
end Mine

open PySem PySem.W PyProof.Rows PySem.Calls
set_option maxRecDepth 100000
set_option Elab.async false
set_option autoImplicit false
set_option linter.unusedVariables false
namespace Mine
section
variable {K : Frag} {mg mb : Str → Option Value} {F : PH} {N N' : List (Addr × OD)} {G : Array GenState} {O : OsState} {s : Shared}
variable {prog : Program} {w : World} {A : Around} {E : Value → Shared → Prop} {env : Env}

/-! names -/
theorem a_local {L : Addr} {l : List (Str × Value)} {x : Str} {v : Value} {pos : Pos} {Q : Value → Shared → Prop} (S : At K mg mb w.params F N G O s) (hN : (L, OD.ns l) ∈ N) (hv : (x, v) ∈ l) (h : Q v s)
    (hL : env.locals = L := by rfl) (hk : env.scope.kind = .function := by rfl) (hx : env.kindOf x = some .local := by rfl) (hd : (x == ("__debug__" : Str)) = false := by decide +kernel) :
    wpAny (model prog w) A (eval (.Name x pos) env) Q E s := by
  obtain ⟨o, ho, _, es, n, hdt, hs, hl⟩ := S.led hN
  subst hL
  refine wpAny_Name (wpAny_loadName_local (m := nsFind es) hk hx ⟨o, es, n, ho, hdt, hs, fun _ => rfl⟩ (hl _ hv) h) hd

theorem a_localN {L : Addr} {l : List (Str × Value)} {x : Str} {v : Value} {Q : Value → Shared → Prop} (S : At K mg mb w.params F N G O s) (hN : (L, OD.ns l) ∈ N) (hv : (x, v) ∈ l) (h : Q v s)
    (hL : env.locals = L := by rfl) (hk : env.scope.kind = .function := by rfl) (hx : env.kindOf x = some .local := by rfl) :
    wpAny (model prog w) A (loadName env x) Q E s := by
  obtain ⟨o, ho, _, es, n, hdt, hs, hl⟩ := S.led hN
  subst hL
  exact wpAny_loadName_local (m := nsFind es) hk hx ⟨o, es, n, ho, hdt, hs, fun _ => rfl⟩ (hl _ hv) h

theorem a_glob {x : Str} {v : Value} {pos : Pos} {Q : Value → Shared → Prop} (S : At K mg mb w.params F N G O s) (e : nsIn K mainGlobals x = some (some v)) (h : Q v s)
    (hg : env.globals = mainGlobals := by rfl) (hk : env.scope.kind = .function := by rfl) (hx : env.kindOf x = some .globalImplicit := by rfl) (hd : (x == ("__debug__" : Str)) = false := by decide +kernel) :
    wpAny (model prog w) A (eval (.Name x pos) env) Q E s :=
  Name_function_global hk hx (loadGlobal_global (env := env) (hg ▸ S.globals) (mg_of S.inK S.globals e) h) hd

theorem a_bltin {x : Str} {v : Value} {pos : Pos} {Q : Value → Shared → Prop} (S : At K mg mb w.params F N G O s) (e : nsIn K mainGlobals x = some none) (hv : bootBuiltins x = some v) (hn : x ≠ "__name__") (h : Q v s)
    (hg : env.globals = mainGlobals := by rfl) (hb : env.builtins = builtinsNs := by rfl) (hk : env.scope.kind = .function := by rfl) (hx : env.kindOf x = some .globalImplicit := by rfl) (hd : (x == ("__debug__" : Str)) = false := by decide +kernel) :
    wpAny (model prog w) A (eval (.Name x pos) env) Q E s :=
  Name_function_global hk hx (loadGlobal_builtin (env := env) (hg ▸ S.globals) (mg_none_of S.inK S.globals e) (hb ▸ S.bltins) ((S.top.bi x hn).trans hv) h) hd

theorem cell_of {a : Addr} {v : Option Value} {h : Heap} {P : Params} (x : Has P h a (.cell v)) : ∃ o, h.get? a = some o ∧ o.data = .cell v := let ⟨o, ho, hd, _⟩ := x; ⟨o, ho, hd⟩

/-- a name in a cell, of the own function or of an outer one -/
theorem a_cellN {c : Addr} {x : Str} {v : Value} {Q : Value → Shared → Prop} (hc : Has w.params s.heap c (.cell (some v))) (h : Q v s)
    (hcl : env.cells.lookup x = some c := by rfl) (hk : env.scope.kind = .function := by rfl) (hx : env.kindOf x = some .cell ∨ (env.kindOf x = some .free ∧ (x == ("__classdict__" : Str)) = false)) :
    wpAny (model prog w) A (loadName env x) Q E s := by
  obtain ⟨o, ho, hd⟩ := cell_of hc
  have L : ∀ Q : Option Value → Shared → Prop, Q (some v) s → wpAny (model prog w) A (cellOf env x >>= cellGet) Q E s := fun Q q => by
    refine wpAny_bind ?_
    unfold cellOf
    rw [hcl]
    refine wpAny_pure ?_
    unfold cellGet
    refine wpAny_bind (wpAny_load ho ?_)
    rw [hd]
    exact wpAny_pure q
  unfold loadName
  rcases hx with hx | ⟨hx, hn⟩
  · simp only [Env.blockKind, hk, hx, ScopeKind.isAnnotationScope, Bool.false_and, Bool.false_eq_true, if_false]
    show wpAny _ _ (cellOf env x >>= fun a => cellGet a >>= _) _ _ _
    rw [← bind_assoc]
    exact wpAny_bind (L _ (wpAny_pure h))
  · simp only [Env.blockKind, hk, hx, hn, ScopeKind.isAnnotationScope, Bool.false_and, Bool.false_eq_true, if_false]
    show wpAny _ _ (cellOf env x >>= fun a => cellGet a >>= _) _ _ _
    rw [← bind_assoc]
    exact wpAny_bind (L _ (wpAny_pure h))
theorem a_cell {c : Addr} {x : Str} {v : Value} {pos : Pos} {Q : Value → Shared → Prop} (hc : Has w.params s.heap c (.cell (some v))) (h : Q v s)
    (hcl : env.cells.lookup x = some c := by rfl) (hk : env.scope.kind = .function := by rfl) (hx : env.kindOf x = some .cell := by rfl) (hd : (x == ("__debug__" : Str)) = false := by decide +kernel) :
    wpAny (model prog w) A (eval (.Name x pos) env) Q E s := wpAny_Name (a_cellN hc h hcl hk (.inl hx)) hd
theorem a_free {c : Addr} {x : Str} {v : Value} {pos : Pos} {Q : Value → Shared → Prop} (hc : Has w.params s.heap c (.cell (some v))) (h : Q v s)
    (hcl : env.cells.lookup x = some c := by rfl) (hk : env.scope.kind = .function := by rfl) (hx : env.kindOf x = some .free := by rfl) (hcd : (x == ("__classdict__" : Str)) = false := by decide +kernel) (hd : (x == ("__debug__" : Str)) = false := by decide +kernel) :
    wpAny (model prog w) A (eval (.Name x pos) env) Q E s := wpAny_Name (a_cellN hc h hcl hk (.inr ⟨hx, hcd⟩)) hd

/-! stores -/
/-- the names with one of them stored -/
inductive LSet : List (Str × Value) → Str → Value → List (Str × Value) → Prop
  | nil {x v} : LSet [] x v [(x, v)]
  | head {x v u r} : LSet ((x, u) :: r) x v ((x, v) :: r)
  | tail {x v y u r r'} : y ≠ x → LSet r x v r' → LSet ((y, u) :: r) x v ((y, u) :: r')
theorem LSet.mem {l x v l'} (h : LSet l x v l') (nd : (l.map (·.1)).Nodup) : ∀ p ∈ l', p = (x, v) ∨ (p ∈ l ∧ p.1 ≠ x) := by
  induction h with
  | nil => intro p hp; rcases List.mem_singleton.mp hp with rfl; exact .inl rfl
  | @head x v u r =>
    intro p hp
    rcases List.mem_cons.mp hp with rfl | hp
    · exact .inl rfl
    · refine .inr ⟨.tail _ hp, fun e => ?_⟩
      have q := List.mem_map_of_mem (f := (·.1)) hp
      rw [show p.1 = x from e] at q
      exact (List.nodup_cons.mp nd).1 q
  | tail ne _ ih =>
    intro p hp
    rcases List.mem_cons.mp hp with rfl | hp
    · exact .inr ⟨.head _, ne⟩
    · rcases ih (List.nodup_cons.mp nd).2 p hp with h | ⟨h, n⟩
      · exact .inl h
      · exact .inr ⟨.tail _ h, n⟩
theorem LSet.keys {l x v l'} (h : LSet l x v l') : ∀ y ∈ l'.map (·.1), y = x ∨ y ∈ l.map (·.1) := by
  induction h with
  | nil => intro y hy; exact .inl (List.mem_singleton.mp hy)
  | head => intro y hy; exact .inr hy
  | tail ne _ ih =>
    intro y hy
    rcases List.mem_cons.mp hy with rfl | hy
    · exact .inr (.head _)
    · exact (ih y hy).imp id (.tail _)
theorem LSet.nodup {l x v l'} (h : LSet l x v l') (nd : (l.map (·.1)).Nodup) : (l'.map (·.1)).Nodup := by
  induction h with
  | nil => simp
  | head => exact nd
  | @tail x v y u r r' ne hh ih =>
    have n2 := List.nodup_cons.mp nd
    refine List.nodup_cons.mpr ⟨fun hy => ?_, ih n2.2⟩
    rcases hh.keys y hy with e | e
    · exact ne e
    · exact n2.1 e
theorem LSet.lookup {l x v l'} (h : LSet l x v l') (y : Str) : l'.lookup y = if y = x then some v else l.lookup y := by
  induction h with
  | @nil x v =>
    rw [List.lookup_cons]
    by_cases e : y = x
    · simp [e]
    · rw [beq_eq_false_iff_ne.mpr e, if_neg e]
  | @head x v u r =>
    simp only [List.lookup_cons]
    by_cases e : y = x
    · simp [e]
    · rw [beq_eq_false_iff_ne.mpr e, if_neg e]
  | @tail x v z u r r' ne hh ih =>
    simp only [List.lookup_cons, ih]
    by_cases e : y = z
    · subst e; simp [ne]
    · simp [beq_eq_false_iff_ne.mpr e]
theorem LSet.length {l x v l'} (h : LSet l x v l') : l'.length = if (l.lookup x).isSome then l.length else l.length + 1 := by
  induction h with
  | nil => rfl
  | head => simp [List.lookup_cons]
  | @tail x v z u r r' ne hh ih => simp only [List.length_cons, List.lookup_cons, beq_eq_false_iff_ne.mpr (Ne.symm ne), ih]; split <;> rfl
theorem lookup_of_mem {l : List (Str × Value)} (nd : (l.map (·.1)).Nodup) {x : Str} {v : Value} (h : (x, v) ∈ l) : l.lookup x = some v := by
  induction l with
  | nil => cases h
  | cons p r ih =>
    obtain ⟨y, u⟩ := p
    have n2 := List.nodup_cons.mp nd
    rcases List.mem_cons.mp h with e | h
    · cases e; simp [List.lookup_cons]
    · have : y ≠ x := fun e => by subst e; exact n2.1 (List.mem_map_of_mem (f := (·.1)) h)
      rw [List.lookup_cons, beq_eq_false_iff_ne.mpr (Ne.symm this)]
      exact ih n2.2 h
theorem lookup_none {l : List (Str × Value)} {x : Str} (h : ∀ y ∈ l.map (·.1), y ≠ x) : l.lookup x = none := by
  induction l with
  | nil => rfl
  | cons p r ih =>
    obtain ⟨y, u⟩ := p
    rw [List.lookup_cons, beq_eq_false_iff_ne.mpr (Ne.symm (h y (.head _)))]
    exact ih fun z hz => h z (.tail _ hz)

theorem a_store {L : Addr} {l l' : List (Str × Value)} {x : Str} {v : Value} {Q : Unit → Shared → Prop} (S : At K mg mb w.params F N G O s) (u : LUpd N L (.ns l') N') (hN : (L, OD.ns l) ∈ N) (hl : LSet l x v l')
    (h : ∀ s', At K mg mb w.params F N' G O s' → Q () s') (hL : env.locals = L := by rfl) (hx : env.kindOf x = some .local := by rfl)
    (hk : env.scope.kind = .function := by rfl) :
    wpAny (model prog w) A (storeName env x v) Q E s := by
  obtain ⟨o, ho, nd, es, n, hdt, hs, hf⟩ := S.led hN
  subst hL
  refine wpAny_storeName_local (m := nsFind es) hx ⟨o, es, n, ho, hdt, hs, fun _ => rfl⟩ (fun h' hn hsb => h _ (S.upd u hsb ?_ rfl rfl rfl)) (by rw [hk]; rfl)
  obtain ⟨o', es', n', ho', hd', hs', hf'⟩ := hn
  refine ⟨o', ho', hl.nodup nd, es', n', hd', hs', fun p hp => ?_⟩
  rw [hf']
  rcases hl.mem nd p hp with rfl | ⟨hp, ne⟩
  · exact if_pos rfl
  · show (if p.1 = x then _ else _) = _
    rw [if_neg ne]; exact hf p hp

theorem a_storeCell {c : Addr} {o₀ : Option Value} {x : Str} {v : Value} {Q : Unit → Shared → Prop} (S : At K mg mb w.params F N G O s) (hN : (c, OD.cell o₀) ∈ N) (u : LUpd N c (.cell (some v)) N')
    (h : ∀ s', At K mg mb w.params F N' G O s' → Q () s') (hcl : env.cells.lookup x = some c := by rfl) (hx : env.kindOf x = some .cell := by rfl) (hk : env.scope.kind = .function := by rfl) :
    wpAny (model prog w) A (storeName env x v) Q E s := by
  obtain ⟨o, ho, hd, hsl⟩ := S.led hN
  have e : storeName env x v = (cellOf env x >>= fun a => cellSet a (some v)) := by
    unfold storeName
    simp only [Env.blockKind, hk, hx]
    rfl
  rw [e]
  refine wpAny_bind ?_
  unfold cellOf
  rw [hcl]
  refine wpAny_pure ?_
  unfold cellSet
  refine wpAny_bind (wpAny_load ho ?_)
  rw [hd]
  refine wpAny_update ho (h _ (S.upd u (Heap.SameBut.update ..) ⟨_, Heap.get?_update_self _ ho rfl, rfl, hsl⟩ rfl rfl rfl))
end
end Mine

open PySem PySem.W PyProof.Rows PySem.Calls PySem.Builtin.ObjectAttr
set_option maxRecDepth 100000
set_option Elab.async false
set_option autoImplicit false
set_option linter.unusedVariables false
namespace Mine
theorem lookIn_of {es : Array DictEntry} {c : Value} {d : Option Addr} {n : Nat} {sl} {x : Str} (hs : StrKeys es) : lookIn x ⟨c, d, .dict es n, sl⟩ = some (nsFind es x) := by
  unfold lookIn nsFind findBy
  dsimp only
  rw [← Array.find?_toList]
  cases h : List.find? (fun e => e.key.isStr x) es.toList with
  | some e => rfl
  | none =>
    have : es.toList.any (·.refKey) = false := by
      rw [List.any_eq_false]
      intro e he
      obtain ⟨y, t, hk⟩ := hs e (Array.mem_toList_iff.mp he)
      simp [DictEntry.refKey, hk]
    rw [this]; rfl

def fieldName (K : Frag) (C : Addr) (name : Str) : Bool := (clsIn K C).any (·.hasDict) && (findIn K (.ref C) name == some none) && (!copiedNames.contains name)
def hasGA (K : Frag) (C : Addr) : Bool := findIn K (.ref C) "__getattribute__" == some (some (.builtin "object.__getattribute__"))
/-- the name is a def of the class -/
def defName (K : Frag) (C : Addr) (name : Str) (f : Addr) : Bool :=
  (clsIn K C).any (·.hasDict) && (findIn K (.ref C) name == some (some (.ref f))) && isFn K (.ref f) && (findIn K (.ref C) "__getattr__" == some none)

section
variable {K : Frag} {mg mb : Str → Option Value} {F : PH} {N N' : List (Addr × OD)} {G : Array GenState} {O : OsState} {s : Shared}
variable {prog : Program} {w : World} {A : Around} {E : Value → Shared → Prop} {env : Env}

theorem instAt_of {P : Params} {h : Heap} {x C d : Addr} {l : List (Str × Value)} (hx : Has P h x (.inst C d)) (hd : Has P h d (.fld l)) :
    ∃ ox od, InstAt h x ox C (some od) ∧ ox.dict = some d ∧ (∀ name, lookIn name od = some (l.lookup name)) ∧ h.get? d = some od := by
  obtain ⟨ox, hox, hc, hdt, hp⟩ := hx
  obtain ⟨od, hod, hcd, hdd, nd, es, n, he, hs, hz, hl⟩ := hd
  refine ⟨ox, od, ⟨hox, hc, by unfold notCls; rw [hp], by rw [hdt]; exact hod⟩, hdt, fun name => ?_, hod⟩
  obtain ⟨c, dd, dt, sl⟩ := od
  subst he
  rw [lookIn_of hs, hl]

theorem a_field {x C d : Addr} {l : List (Str × Value)} {name : Str} {v : Value} {expr : Bool} {Q : Value → Shared → Prop} (S : At K mg mb w.params F N G O s) (hx : Has w.params s.heap x (.inst C d)) (hd : Has w.params s.heap d (.fld l))
    (hv : (name, v) ∈ l) (hf : fieldName K C name = true) (hg : hasGA K C = true) (h : ∀ s', At K mg mb w.params F N G O s' → Q v s') (hh : handedIn v = true := by rfl) : wpAny (model prog w) A (getAttr (.ref x) name expr) Q E s := by
  obtain ⟨ox, od, I, _, hl, _⟩ := instAt_of hx hd
  obtain ⟨_, _, _, _, nd, _⟩ := hd
  simp only [fieldName, Bool.and_eq_true, beq_iff_eq, Bool.not_eq_true'] at hf
  obtain ⟨⟨h1, h2⟩, h3⟩ := hf
  obtain ⟨cd, hc, hcd⟩ := any_some h1
  refine get_value (v := v) S.inK I (beq_iff_eq.mp hg) ?_ hh (h _ (S.same rfl rfl rfl))
  unfold findObj
  rw [hc, Option.bind_some, h2, Option.bind_some]
  simp only [Option.bind_some]
  unfold W.ownOf
  rw [hcd, if_pos rfl]
  dsimp only
  rw [hl, lookup_of_mem nd hv]
  rfl

/-- a value of the class through the instance -/
def clsValue (K : Frag) (C : Addr) (name : Str) (v : Value) : Bool :=
  (clsIn K C).any (·.hasDict) && (findIn K (.ref C) name == some (some v)) && (specialIn K v "__get__" == some none) && handedIn v && !(copiedNames.contains name)
theorem a_clsValue {x C d : Addr} {l : List (Str × Value)} {name : Str} {v : Value} {expr : Bool} {Q : Value → Shared → Prop} (S : At K mg mb w.params F N G O s) (hx : Has w.params s.heap x (.inst C d)) (hd : Has w.params s.heap d (.fld l))
    (hf : clsValue K C name v = true) (hg : hasGA K C = true) (hn : ∀ y ∈ l.map (·.1), y ≠ name) (h : ∀ s', At K mg mb w.params F N G O s' → Q v s') : wpAny (model prog w) A (getAttr (.ref x) name expr) Q E s := by
  obtain ⟨ox, od, I, _, hl, _⟩ := instAt_of hx hd
  simp only [clsValue, Bool.and_eq_true, beq_iff_eq, Bool.not_eq_true'] at hf
  obtain ⟨⟨⟨⟨h1, h2⟩, h3⟩, h4⟩, h5⟩ := hf
  obtain ⟨cd, hc, hcd⟩ := any_some h1
  refine get_value (v := v) S.inK I (beq_iff_eq.mp hg) ?_ h4 (h _ (S.same rfl rfl rfl))
  unfold findObj
  rw [hc, Option.bind_some, h2, Option.bind_some]
  dsimp only
  rw [h3, Option.bind_some]
  simp only [Option.bind_some]
  unfold W.ownOf
  rw [hcd, if_pos rfl]
  dsimp only
  rw [hl, lookup_none hn]
  simp only [Option.bind_some, h5, Bool.false_and, Bool.false_eq_true, if_false]
  rw [if_pos h4]

/-- a def of the class, as the callee of a call -/
theorem a_methodOf {x C d f : Addr} {l : List (Str × Value)} {name : Str} {pl : Sem Bool} {Q : Value × List Value → Shared → Prop} (S : At K mg mb w.params F N G O s) (hx : Has w.params s.heap x (.inst C d)) (hd : Has w.params s.heap d (.fld l))
    (hf : defName K C name f = true) (hg : hasGA K C = true) (hn : ∀ y ∈ l.map (·.1), y ≠ name) (h : Q (.ref f, [.ref x]) s) : wpAny (model prog w) A (getMethod (.ref x) name pl) Q E s := by
  obtain ⟨ox, od, I, hdx, hl, hod⟩ := instAt_of hx hd
  simp only [defName, Bool.and_eq_true, beq_iff_eq] at hf
  obtain ⟨⟨⟨h1, h2⟩, h3⟩, h4⟩ := hf
  have hns : s.heap.Ns d (fun y => l.lookup y) := by
    obtain ⟨o, ho, _, _, _, es, n, he, hs, _, hl⟩ := hd
    exact ⟨o, es, n, ho, he, hs, hl⟩
  unfold getMethod
  refine wpAny_bind (wpAny_bind (I.type.here ((looks_findIn S.inK (beq_iff_eq.mp hg)).here ?_)))
  dsimp only
  rw [if_neg (by decide +kernel)]
  refine wpAny_bind (wpAny_bind (I.type.here ((looks_findIn S.inK h4).here ?_)))
  simp only [Option.isSome_none, Bool.false_eq_true, if_false]
  refine wpAny_bind (wpAny_bind (I.type.here ((looks_findIn S.inK h2).here ?_)))
  dsimp only
  have tf : typeIn K (.ref f) = some (.type "function") := beq_iff_eq.mp h3
  refine wpAny_bind ((looks_typeIn S.inK tf).here ?_)
  rw [if_neg (by decide +kernel)]
  refine wpAny_bind (wpAny_loadPart I.at_ ?_)
  rw [hdx]
  refine wpAny_bind (wpAny_nsGet hns ?_)
  rw [lookup_none hn]
  simp only [Option.isSome_none, Bool.false_eq_true, if_false]
  exact wpAny_bind (wpAny_rule (wpAny_pure h))
end
end Mine

open PySem PySem.W PyProof.Rows PySem.Calls PySem.Builtin.ObjectAttr
set_option maxRecDepth 100000
set_option Elab.async false
set_option autoImplicit false
set_option linter.unusedVariables false
namespace Mine
/-- a step that never raises: good for every end of a raise -/
def Ok {α : Type} (M : Model) (A : Around) (t : Sem α) (Q : α → Shared → Prop) (s : Shared) : Prop := ∀ E, wpAny M A t Q E s
def flowVal : Flow → Value | .ret v => v | _ => .none

def cellNames : List (Str × NameKind) → List Str
  | [] => []
  | (n, k) :: r => if k == .cell then n :: cellNames r else cellNames r
def zipCells : List Str → List Addr → List (Str × Addr) → List (Str × Addr)
  | n :: ns, c :: cs, acc => zipCells ns cs ((n, c) :: acc)
  | _, _, acc => acc
def cellRows : List Addr → List (Addr × OD) → List (Addr × OD)
  | c :: cs, acc => cellRows cs ((c, .cell none) :: acc)
  | [], acc => acc
def BindAll (M : Model) (A : Around) (env : Env) (E : Value → Shared → Prop) (Q : Shared → Prop) : List (Str × Value) → Shared → Prop
  | [], s => Q s
  | (x, v) :: r, s => wpAny M A (storeName env x v) (fun _ s' => BindAll M A env E Q r s') E s

section
variable {K : Frag} {mg mb : Str → Option Value} {F : PH} {N N' : List (Addr × OD)} {G : Array GenState} {O : OsState} {s : Shared}
variable {prog : Program} {w : World} {A : Around} {E : Value → Shared → Prop} {env : Env}

theorem cells_loop {β : Type} (names : List (Str × NameKind)) : ∀ {N : List (Addr × OD)} {s : Shared} (cells : List (Str × Addr)) (k : List (Str × Addr) → Sem β) (Q : β → Shared → Prop), At K mg mb w.params F N G O s →
    (∀ cs s', cs.length = (cellNames names).length → At K mg mb w.params F (cellRows cs N) G O s' → wpAny (model prog w) A (k (zipCells (cellNames names) cs cells)) Q E s') →
    wpAny (model prog w) A ((forIn names cells fun x r => match x with
      | (name, kind) => if (kind == .cell) = true then do
          let __do_lift ← alloc { cls := .type "cell", data := .cell none }
          pure (ForInStep.yield ((name, __do_lift) :: r))
        else pure (ForInStep.yield r)) >>= k) Q E s := by
  induction names with
  | nil =>
    intro N s cells k Q S h
    rw [List.forIn_nil]
    exact wpAny_bind (wpAny_pure (h [] s rfl S))
  | cons p r ih =>
    obtain ⟨n, kd⟩ := p
    intro N s cells k Q S h
    rw [List.forIn_cons]
    cases hk : kd == .cell with
    | true =>
      simp only [hk, if_true, bind_assoc]
      refine wpAny_bind (wpAny_alloc (wpAny_bind (wpAny_pure ?_)))
      refine ih _ k Q (S.alloc (D := .cell none) ⟨rfl, rfl⟩ rfl rfl rfl) fun cs s' hl S' => ?_
      have := h (s.heap.objs.size :: cs) s' (by simp [cellNames, hk, hl]) S'
      simpa [cellNames, hk, zipCells] using this
    | false =>
      simp only [hk, Bool.false_eq_true, if_false]
      rw [bind_assoc]
      refine wpAny_bind (wpAny_pure ?_)
      refine ih _ k Q S fun cs s' hl S' => ?_
      have := h cs s' (by simpa [cellNames, hk] using hl) S'
      simpa [cellNames, hk] using this

theorem binds_loop {β : Type} {env : Env} (k : PUnit → Sem β) (Q : β → Shared → Prop) : ∀ (binds : List (Str × Value)) {s : Shared},
    BindAll (model prog w) A env E (fun s' => wpAny (model prog w) A (k ⟨⟩) Q E s') binds s →
    wpAny (model prog w) A ((forIn binds PUnit.unit fun x r => match x with
      | (name, v) => do storeName env name v; pure (ForInStep.yield PUnit.unit)) >>= k) Q E s
  | [], s, h => by
    rw [List.forIn_nil]
    exact wpAny_bind (wpAny_pure h)
  | (x, v) :: r, s, h => by
    rw [List.forIn_cons]
    simp only [bind_assoc]
    refine wpAny_bind (wpAny_mono h (fun _ s' z => ?_) fun _ _ y => y)
    refine wpAny_bind (wpAny_pure ?_)
    exact binds_loop k Q r z

theorem bindAll_mono {M : Model} {Q Q' : Shared → Prop} (hq : ∀ s, Q s → Q' s) : ∀ (l : List (Str × Value)) (s : Shared), BindAll M A env E Q l s → BindAll M A env E Q' l s
  | [], s, x => hq s x
  | _ :: r, s, x => wpAny_mono x (fun _ s' y => bindAll_mono hq r s' y) fun _ _ y => y

/-- the frame of a def's call -/
def envFor (fd : FuncData) (f L : Addr) (cs : List Addr) : Env :=
  { scope := fd.scope, locals := L, globals := fd.globals, cells := zipCells (cellNames fd.scope.names) cs fd.closure, qual := fd.qualname ++ ".<locals>.", func := some f, code := fd.code, frame := some L, builtins := fd.builtins }

theorem new_env {fd : FuncData} {f : Addr} {binds : List (Str × Value)} {Q : Env → Shared → Prop} (S : At K mg mb w.params F N G O s)
    (h : ∀ L cs s', cs.length = (cellNames fd.scope.names).length → At K mg mb w.params F (cellRows cs ((L, .ns []) :: N)) G O s' →
      BindAll (model prog w) A (envFor fd f L cs) E (fun s' => Q (envFor fd f L cs) s') binds s') :
    wpAny (model prog w) A (newFunctionEnv fd.scope fd.globals fd.closure binds (fd.qualname ++ ".<locals>.") (some f) fd.code none fd.builtins) Q E s := by
  unfold newFunctionEnv
  refine wpAny_bind (wpAny_alloc ?_)
  refine cells_loop (N := (s.heap.objs.size, .ns []) :: N) fd.scope.names fd.closure _ Q (S.alloc (D := .ns []) (s' := { s with heap := _ }) ?_ rfl rfl rfl) fun cs s' hl S' => ?_
  · exact ⟨List.nodup_nil, #[], 0, rfl, fun e he => by simp at he, fun p hp => nomatch hp⟩
  · exact binds_loop (β := Env) (env := envFor fd f s.heap.objs.size cs) (fun _ => pure (envFor fd f s.heap.objs.size cs)) Q binds (bindAll_mono (fun s' z => wpAny_pure z) _ _ (h _ cs s' hl S'))

theorem enter_def {f : Addr} {oc : Value} {od : Option Addr} {osl : Array (Option Value)} {fd : FuncData} {body : List Stmt} {args : Args} {binds : List (Str × Value)} {R : Result → Shared → Prop}
    (S : At K mg mb w.params F N G O s) (ho : K.lookup f = some ⟨oc, od, .func fd, osl⟩) (hcd : codeIn K fd.code fd.qualname = true) (hroom : A.depth < recursionLimit) (hbody : fd.body = .stmts body)
    (hbind : peek K ⟨prog, w.params⟩ (bindArgs fd args) = some binds)
    (h : ∀ L cs s', cs.length = (cellNames fd.scope.names).length → At K mg mb w.params F (cellRows cs ((L, .ns []) :: N)) G O s' →
      BindAll (model prog w) A.in1 (envFor fd f L cs) (fun e s' => R (.error e) s') (fun s'' => s''.heap.NoLimit ∧ Ok (model prog w) (A.deeper (envFor fd f L cs)) (execs body (envFor fd f L cs)) (fun fl s3 => R (.ok (.ret (flowVal fl))) s3) s'') binds s')
    (hco : fd.scope.isCoroutine = false := by rfl) (hgen : fd.scope.isGenerator = false := by rfl) :
    codeAny (model prog w) A (.call (.ref f) args) R s := by
  refine codeAny_call_function hroom (S.inK _ _ ho) rfl hco hgen hbody (codeRec_of S.inK hcd) ?_
  refine (Looks.of_peek (M := model prog w) S.inK hbind).here ?_
  refine new_env S fun L cs s' hl S' => ?_
  refine bindAll_mono (fun s'' hs => ⟨hs.1, ?_⟩) _ _ (h L cs s' hl S')
  refine codeAny_func (wpAny_mono (hs.2 _) (fun fl s3 z => ?_) fun _ _ z => z)
  cases fl <;> exact z
end
end Mine

open PySem PySem.W PyProof.Rows PySem.Calls PySem.Builtin.ObjectAttr
set_option maxRecDepth 100000
set_option Elab.async false
set_option autoImplicit false
set_option linter.unusedVariables false
namespace Mine
theorem putName_fld {P : Params} {o : Obj} {l l' : List (Str × Value)} {name : Str} {v : Value} {hs : Int} {t : Tok} (ho : (OD.fld l).ok P o) (hl : LSet l name v l') : (OD.fld l').ok P (Obj.putName name hs (.str name t) v o) := by
  obtain ⟨hc, hd, nd, es, n, he, hk, hz, hf⟩ := ho
  obtain ⟨c, d, dt, sl⟩ := o
  dsimp only at hc hd he
  subst he hc hd
  cases hi : es.findIdx? (·.key.isStr name) with
  | some i =>
    refine ⟨by simp only [Obj.putName_eq, Obj.putNameByArray, hi], by simp only [Obj.putName_eq, Obj.putNameByArray, hi], hl.nodup nd, _, n, by simp only [Obj.putName_eq, Obj.putNameByArray, hi]; rfl, hk.modify _ _, ?_, fun x => ?_⟩
    · rw [Array.size_modify, hl.length]; split <;> omega
    · rw [hl.lookup, ← hf]
      exact findBy_modify (fun n v => v.isStr n) Value.isStr_inj es name x v i hi
  | none =>
    have hn : l.lookup name = none := by
      rw [← hf, nsFind, findBy_of_findIdx?, hi]
    refine ⟨by simp only [Obj.putName_eq, Obj.putNameByArray, hi], by simp only [Obj.putName_eq, Obj.putNameByArray, hi], hl.nodup nd, _, n + 1, by simp only [Obj.putName_eq, Obj.putNameByArray, hi]; rfl, hk.push _ _ _ _, ?_, fun x => ?_⟩
    · rw [Array.size_push, hl.length, hn]; simp; omega
    · rw [hl.lookup, ← hf]
      exact findBy_push (fun n v => v.isStr n) es name x _ _ v (fun y => by
        show (name == y) = decide (y = name)
        by_cases h : y = name
        · subst h; simp
        · have : ¬ name = y := fun e => h e.symm
          simp [h, this]) hi

/-- a store of an attribute goes to the own dict -/
def setName (K : Frag) (C : Addr) (name : Str) : Bool :=
  (findIn K (.ref C) "__setattr__" == some (some (.builtin "object.__setattr__"))) && plainOver K C && (takerIn K C name == some none) && (clsIn K C).any (·.hasDict)

section
variable {K : Frag} {mg mb : Str → Option Value} {F : PH} {N N' : List (Addr × OD)} {G : Array GenState} {O : OsState} {s : Shared}
variable {prog : Program} {w : World} {A : Around} {E : Value → Shared → Prop} {env : Env}

theorem a_setattr {x C d : Addr} {l l' : List (Str × Value)} {name : Str} {v : Value} {Q : Unit → Shared → Prop} (S : At K mg mb w.params F N G O s) (hx : Has w.params s.heap x (.inst C d)) (hd : (d, OD.fld l) ∈ N)
    (hf : setName K C name = true) (hl : LSet l name v l') (u : LUpd N d (.fld l') N') (hz : l.length ≤ 1000)
    (h : ∀ s', At K mg mb w.params F N' G O s' → Q () s') : wpAny (model prog w) A (setAttr (.ref x) name v) Q E s := by
  obtain ⟨ox, od, I, hdx, hlk, hod⟩ := instAt_of hx (S.led hd)
  simp only [setName, Bool.and_eq_true, beq_iff_eq] at hf
  obtain ⟨⟨⟨h1, h2⟩, h3⟩, h4⟩ := hf
  obtain ⟨cd, hc, hcd⟩ := any_some h4
  refine set_plain S.inK I h1 ?_
  have S1 : At K mg mb w.params F N G O { s with toks := s.toks + 1 } := S.same rfl rfl rfl
  refine osa_open (s := { s with toks := s.toks + 1 }) S1.inK I h2 h3 fun b => ?_
  obtain ⟨od₂, hod₂, okd⟩ := S.led hd
  have : od₂ = od := Option.some.inj (hod₂.symm.trans hod)
  subst this
  obtain ⟨hxx, hcl, hn, -⟩ := I
  obtain ⟨oc, odi, oda, osl⟩ := ox
  dsimp only at hcl hdx
  subst hcl hdx
  refine wpAny_bind (wpAny_pure (wpAny_bind (wpAny_bind (wpAny_loadPart hxx (wpAny_bind ((looks_clsIn S1.inK hc).here ?_))))))
  rw [hcd]
  refine wpAny_pure (a := some d) (wpAny_bind (wpAny_pure (wpAny_bind ?_)))
  have hd' := hod
  have okd' := okd
  obtain ⟨hc9, hd9, nd, es, n, he, hk, hze, hff⟩ := okd'
  unfold nsSet
  refine wpAny_bind (wpAny_bind (wpAny_askSetting (wpAny_pure (wpAny_bind (wpAny_mkText (wpAny_bind (wpAny_loadPart hod ?_)))))))
  rw [he]
  have c : (!es.any (·.key.isStr name) && es.any (·.refKey)) = false := by
    have : es.any (·.refKey) = false := by
      rw [Array.any_eq_false']; intro e he; obtain ⟨n, t, h⟩ := hk e he; simp [DictEntry.refKey, h]
    rw [this, Bool.and_false]
  dsimp only
  rw [aRefKeyMayBeTheName_at, c]
  have ok2 := putName_fld (hs := PyData.keyHash w.params name) (t := s.toks + 1) okd hl
  refine wpAny_updatePart hod ?_
  have hne : (s.heap.update d (Obj.putName name (PyData.keyHash w.params name) (.str name (s.toks + 1)) v)).get? d = some _ := Heap.get?_update_self _ hod (OD.ok_live ok2)
  refine wpAny_bind (wpAny_lookBehind hne ?_ ?_)
  · obtain ⟨_, _, _, es', n', he', _, hz', _⟩ := ok2
    rw [he']
    refine pastItsLine_dict ?_
    have := hl.length
    rw [sizeLine_eq]
    split at this <;> omega
  · exact wpAny_pure (h _ (S.upd u (Heap.SameBut.update ..) ⟨_, hne, ok2⟩ rfl rfl rfl))

/-- an object of an own class is made -/
theorem a_make {C fI : Addr} {pos : List Value} {kw : List (Str × Value)} {Q : Value → Shared → Prop} (S : At K mg mb w.params F N G O s) (hm : makesIn K C = true) (hi : findIn K (.ref C) "__init__" = some (some (.ref fI))) (hf : isFn K (.ref fI) = true)
    (h : ∀ x d s', At K mg mb w.params F ((x, .inst C d) :: (d, .fld []) :: N) G O s' →
      codeAny (model prog w) (A.under (.builtin "type.__call__" ⟨.ref C :: pos, kw⟩)) (.call (.ref fI) ⟨.ref x :: pos, kw⟩) (InitBack x fun r s' => match r with | .ok (.ret v) => Q v s' | .ok _ => False | .error e => E e s') s') :
    wpAny (model prog w) A (call (.ref C) pos kw) Q E s := by
  obtain ⟨hh, g, dr, t, os⟩ := s
  refine wpAny_call (make_core (makes_of S.inK hm) (looks_findIn S.inK hi) (fun self => bind_fn S.inK self (beq_iff_eq.mp hf)) (.inl rfl) (h _ hh.objs.size _ ?_))
  have S1 := S.alloc (D := .fld []) (o := emptyDict) ⟨rfl, rfl, List.nodup_nil, #[], 0, rfl, fun e he => by simp at he, Nat.le_refl _, fun _ => rfl⟩ (s' := ⟨hh.push emptyDict, g, dr, t, os⟩) rfl rfl rfl
  have S2 := S1.alloc (D := .inst C hh.objs.size) (o := instObj C hh.objs.size) ⟨rfl, rfl, rfl⟩ (s' := ⟨(hh.push emptyDict).push (instObj C hh.objs.size), g, dr, t, os⟩) rfl rfl rfl
  rw [show (⟨hh.push emptyDict, g, dr, t, os⟩ : Shared).heap.objs.size = hh.objs.size + 1 from Heap.size_push ..] at S2
  exact S2
end
end Mine

open PySem PySem.W PyProof.Rows PySem.Calls PySem.Builtin.ObjectAttr
set_option maxRecDepth 100000
set_option Elab.async false
set_option autoImplicit false
set_option linter.unusedVariables false
namespace Mine
theorem At.updT {K mg mb P F G O s} {N N' : List (Addr × OD)} (S : At K mg mb P F N G O s) {a : Addr} {D : OD} (u : LUpd N a D N') {h' : Heap} (hs : Heap.SameBut a s.heap h') (hD : Has P h' a D) {dr : Drawn} {t : Nat} :
    At K mg mb P F N' G O ⟨h', s.gens, dr, t, s.os⟩ := S.upd u hs hD (s' := ⟨h', s.gens, dr, t, s.os⟩) rfl rfl rfl
theorem At.allocT {K mg mb P F G O s} {N : List (Addr × OD)} (S : At K mg mb P F N G O s) {D : OD} {o : Obj} (hD : D.ok P o) {dr : Drawn} {t : Nat} :
    At K mg mb P F ((s.heap.objs.size, D) :: N) G O ⟨s.heap.push o, s.gens, dr, t, s.os⟩ := S.alloc hD (s' := ⟨s.heap.push o, s.gens, dr, t, s.os⟩) rfl rfl rfl
structure Cx where
  K : Frag
  mg : Str → Option Value
  mb : Str → Option Value
  prog : Program
  w : World
  O : OsState
structure Led where
  F : PH
  N : List (Addr × OD)
  G : Array GenState
abbrev Cx.At (X : Cx) (l : Led) (s : Shared) : Prop := Mine.At X.K X.mg X.mb X.w.params l.F l.N l.G X.O s
abbrev Cx.M (X : Cx) : Model := model X.prog X.w
abbrev Cx.P (X : Cx) : Params := X.w.params

def Tr {α : Type} (X : Cx) (A : Around) (l : Led) (t : Sem α) (R : α → Led → Prop) : Prop :=
  ∀ s E, X.At l s → wpAny X.M A t (fun v s' => ∃ l', X.At l' s' ∧ R v l') E s
def Cl (X : Cx) (A : Around) (l : Led) (c : Code) (R : Flow → Led → Prop) : Prop :=
  ∀ s R', X.At l s → (∀ f s' l', X.At l' s' → R f l' → R' (.ok f) s') → codeAny X.M A c R' s

inductive Rem {α : Type} : List α → α → List α → Prop
  | head {a l} : Rem (a :: l) a l
  | tail {a b l l'} : Rem l a l' → Rem (b :: l) a (b :: l')
inductive Pick {α : Type} : List α → List α → Prop
  | refl {l} : Pick l l
  | drop {b l l'} : Pick l l' → Pick (b :: l) l'
  | cons {a l l' l''} : Rem l a l' → Pick l' l'' → Pick l (a :: l'')
theorem Rem.perm {α : Type} {l l' : List α} {a : α} (h : Rem l a l') : l.Perm (a :: l') := by
  induction h with
  | head => exact .refl _
  | tail _ ih => exact (ih.cons _).trans (.swap ..)
theorem At.rem {K mg mb P F G O s} {N N' : List (Addr × OD)} {p : Addr × OD} (S : At K mg mb P F N G O s) (h : Rem N p N') : At K mg mb P F (p :: N') G O s := S.perm h.perm.symm
theorem At.tl {K mg mb P F G O s} {N' : List (Addr × OD)} {p : Addr × OD} (S : At K mg mb P F (p :: N') G O s) : At K mg mb P F N' G O s := S.sub (List.sublist_cons_self ..)
theorem Rem.mem {α : Type} {l l' : List α} {a : α} (h : Rem l a l') : ∀ p ∈ a :: l', p ∈ l := fun p hp => h.perm.mem_iff.mpr hp
theorem Pick.sub {α : Type} {N N' : List α} (h : Pick N N') : ∀ p ∈ N', p ∈ N := by
  induction h with
  | refl => exact fun _ h => h
  | drop _ ih => exact fun p h => .tail _ (ih p h)
  | cons r _ ih => exact fun p h => r.mem p ((List.mem_cons.mp h).elim (fun e => List.mem_cons.mpr (.inl e)) fun h => .tail _ (ih p h))
theorem Pick.nodup {N N' : List (Addr × OD)} (h : Pick N N') : (N.map (·.1)).Nodup → (N'.map (·.1)).Nodup := by
  induction h with
  | refl => exact id
  | drop _ ih => exact fun h => ih (List.nodup_cons.mp h).2
  | @cons a l l' l'' r p ih =>
    intro h
    have h' := (r.perm.map (·.1)).nodup_iff.mp h
    rw [List.map_cons, List.nodup_cons] at h' ⊢
    refine ⟨fun q => h'.1 ?_, ih h'.2⟩
    obtain ⟨x, hx, e⟩ := List.mem_map.mp q
    exact e ▸ List.mem_map_of_mem (f := (·.1)) (p.sub x hx)
theorem At.pick {K mg mb P F G O s} {N N' : List (Addr × OD)} (S : At K mg mb P F N G O s) (h : Pick N N') : At K mg mb P F N' G O s :=
  ⟨S.top, S.fz, fun p hp => S.nw p (h.sub p hp), h.nodup S.nd, S.gn, S.os⟩

/-- good after a forgetting of rows -/
def Wk {α : Type} (R : α → Led → Prop) (v : α) (l : Led) : Prop := ∃ N, Pick l.N N ∧ R v ⟨l.F, N, l.G⟩

section
variable {α β : Type} {X : Cx} {A : Around} {l : Led} {env : Env}
variable {F : PH} {N N' : List (Addr × OD)} {G : Array GenState}

theorem tr_of {t : Sem α} {R : α → Led → Prop} (h : ∀ s E (Q : α → Shared → Prop), X.At l s → (∀ v s' l', X.At l' s' → R v l' → Q v s') → wpAny X.M A t Q E s) : Tr X A l t R :=
  fun s E S => h s E _ S fun _ _ l' S' r => ⟨l', S', r⟩
theorem Tr.use {t : Sem α} {R : α → Led → Prop} {s E} {Q : α → Shared → Prop} (h : Tr X A l t R) (S : X.At l s) (k : ∀ v s' l', X.At l' s' → R v l' → Q v s') : wpAny X.M A t Q E s :=
  wpAny_mono (h s E S) (fun v s' ⟨l', S', r⟩ => k v s' l' S' r) fun _ _ x => x
theorem Tr.mono {t : Sem α} {R R' : α → Led → Prop} (h : Tr X A l t R) (k : ∀ v l', R v l' → R' v l') : Tr X A l t R' :=
  fun s E S => h.use S fun v s' l' S' r => ⟨l', S', k v l' r⟩
theorem tr_wk {t : Sem α} {R : α → Led → Prop} (h : Tr X A l t (Wk R)) : Tr X A l t R :=
  fun s E S => h.use S fun v s' l' S' ⟨N, p, r⟩ => ⟨⟨l'.F, N, l'.G⟩, S'.pick p, r⟩
theorem tr_pick {t : Sem α} {R : α → Led → Prop} (p : Pick N N') (h : Tr X A ⟨F, N', G⟩ t R) : Tr X A ⟨F, N, G⟩ t R := fun s E S => h s E (S.pick p)
theorem cl_pick {c : Code} {R : Flow → Led → Prop} (p : Pick N N') (h : Cl X A ⟨F, N', G⟩ c R) : Cl X A ⟨F, N, G⟩ c R := fun s R' S => h s R' (S.pick p)
theorem Cl.mono {c : Code} {R R' : Flow → Led → Prop} (h : Cl X A l c R) (k : ∀ v l', R v l' → R' v l') : Cl X A l c R' :=
  fun s R'' S q => h s R'' S fun f s' l' S' r => q f s' l' S' (k _ _ r)
theorem cl_wk {c : Code} {R : Flow → Led → Prop} (h : Cl X A l c (Wk R)) : Cl X A l c R :=
  fun s R' S q => h s R' S fun v s' l' S' ⟨N, p, r⟩ => q v s' ⟨l'.F, N, l'.G⟩ (S'.pick p) r
theorem tr_pure {v : α} {R : α → Led → Prop} (h : R v l) : Tr X A l (pure v) R := fun s E S => wpAny_pure ⟨l, S, h⟩
theorem tr_bind {m : Sem α} {f : α → Sem β} {R : β → Led → Prop} (h : Tr X A l m fun a l' => Tr X A l' (f a) R) : Tr X A l (m >>= f) R :=
  fun s E S => wpAny_bind (h.use S fun _ s' l' S' k => k s' E S')
theorem tr_eq {t t' : Sem α} {R : α → Led → Prop} (e : t = t') (h : Tr X A l t' R) : Tr X A l t R := e ▸ h

/-- a row is frozen -/
theorem At.freeze {K mg mb P O s} {a : Addr} {D : OD} {N' : List (Addr × OD)} (S : At K mg mb P F ((a, D) :: N') G O s) : ∃ F', F.le F' ∧ Fz P F' a D ∧ At K mg mb P F' N' G O s := by
  obtain ⟨⟨hb, hn⟩, o, ho, ok⟩ := S.nw (a, D) (.head _)
  have le : F.le (fun b => if b = a then some o else F b) := fun b x e => by
    show (if b = a then _ else _) = _
    by_cases h : b = a
    · rw [h, hn] at e; cases e
    · rw [if_neg h]; exact e
  refine ⟨_, le, ⟨hb, o, if_pos rfl, ok⟩, S.top.mono le, fun b x e => ?_, fun p hp => ⟨⟨(S.nw p (.tail _ hp)).1.1, ?_⟩, (S.nw p (.tail _ hp)).2⟩, (List.nodup_cons.mp S.nd).2, S.gn, S.os⟩
  · by_cases h : b = a
    · rw [if_pos h] at e; cases e; rw [h]; exact ho
    · rw [if_neg h] at e; exact S.fz b x e
  · have : p.1 ≠ a := fun e => (List.nodup_cons.mp S.nd).1 (e ▸ List.mem_map_of_mem (f := (·.1)) hp)
    show (if p.1 = a then _ else _) = _
    rw [if_neg this]; exact (S.nw p (.tail _ hp)).1.2
theorem tr_freeze {a : Addr} {D : OD} {t : Sem α} {R : α → Led → Prop} (r : Rem N (a, D) N') (h : ∀ F', F.le F' → Fz X.P F' a D → Tr X A ⟨F', N', G⟩ t R) : Tr X A ⟨F, N, G⟩ t R :=
  fun s E S => let ⟨F', le, fz, S'⟩ := (At.rem S r).freeze; h F' le fz s E S'

/-- known in the ledger: frozen or a row -/
def Kn (X : Cx) (l : Led) (a : Addr) (D : OD) : Prop := Fz X.P l.F a D ∨ (a, D) ∈ l.N ∨ (2 < a ∧ ∃ o, X.K.lookup a = some o ∧ D.ok X.P o)
theorem Kn.has {s} {a D} (h : Kn X l a D) (S : X.At l s) : Has X.P s.heap a D := h.elim (fun f => S.frz f) fun h => h.elim (fun m => S.led m) fun ⟨_, o, e, k⟩ => ⟨o, S.inK _ _ e, k⟩

theorem Kn.big {s} {a D} (h : Kn X l a D) (S : X.At l s) : 2 < a := h.elim (fun f => f.1) fun h => h.elim (fun m => (S.nw _ m).1.1) fun h => h.1
theorem Kn.fz {a D} (h : Fz X.P l.F a D) : Kn X l a D := .inl h
theorem Kn.row {a D} (h : (a, D) ∈ l.N) : Kn X l a D := .inr (.inl h)
theorem Kn.row' {F N G a D} (h : (a, D) ∈ N) : Kn X ⟨F, N, G⟩ a D := .inr (.inl h)
theorem Kn.fz' {F N G a D} (h : Fz X.P F a D) : Kn X ⟨F, N, G⟩ a D := .inl h
theorem Kn.notSys {s} {a D} (h : Kn X l a D) (S : X.At l s) : (a == sysModules) = false := beq_eq_false_iff_ne.mpr fun e => by
  have := h.big S
  rw [e] at this
  exact absurd this (by decide)

/-! calls -/
theorem tr_call {f : Value} {pos : List Value} {kw : List (Str × Value)} {R : Value → Led → Prop}
    (h : Cl X A l (.call f ⟨pos, kw⟩) fun fl l' => ∃ v, fl = .ret v ∧ R v l') : Tr X A l (call f pos kw) R :=
  fun s E S => wpAny_call (h s _ S fun f s' l' S' ⟨v, e, r⟩ => by subst e; exact ⟨l', S', r⟩)
/-- post of a call's code -/
abbrev Rv (R : Value → Led → Prop) : Flow → Led → Prop := fun fl l' => ∃ v, fl = .ret v ∧ R v l'

def TrB (X : Cx) (A : Around) (env : Env) (R : Led → Prop) : List (Str × Value) → Led → Prop
  | [], l => R l
  | (x, v) :: r, l => Tr X A l (storeName env x v) fun _ l' => TrB X A env R r l'
theorem TrB.use {R : Led → Prop} {E} {Q : Shared → Prop} : ∀ {b : List (Str × Value)} {l : Led} {s : Shared}, TrB X A env R b l → X.At l s → (∀ s' l', X.At l' s' → R l' → Q s') → BindAll X.M A env E Q b s
  | [], l, s, h, S, k => k s l S h
  | (x, v) :: r, l, s, h, S, k => Tr.use h S fun _ s' l' S' h' => TrB.use h' S' k

def allCells : Nat → (List Addr → Prop) → Prop
  | 0, P => P []
  | n + 1, P => ∀ c, allCells n fun cs => P (c :: cs)
theorem allCells_use : ∀ {n : Nat} {P : List Addr → Prop}, allCells n P → ∀ cs, cs.length = n → P cs
  | 0, _, h, [], _ => h
  | n + 1, _, h, c :: cs, e => allCells_use (h c) cs (Nat.succ.inj e)

/-- a def is entered -/
theorem cl_def {f : Addr} {oc : Value} {od : Option Addr} {osl : Array (Option Value)} {fd : FuncData} {body : List Stmt} {args : Args} {binds : List (Str × Value)} {R : Flow → Led → Prop}
    (ho : X.K.lookup f = some ⟨oc, od, .func fd, osl⟩) (hcd : codeIn X.K fd.code fd.qualname = true) (hbody : fd.body = .stmts body)
    (hbind : peek X.K ⟨X.prog, X.w.params⟩ (bindArgs fd args) = some binds) (hroom : A.depth < recursionLimit)
    (hco : fd.scope.isCoroutine = false) (hgen : fd.scope.isGenerator = false) {n : Nat} (hn : (cellNames fd.scope.names).length = n)
    (h : ∀ L, allCells n fun cs => TrB X A.in1 (envFor fd f L cs) (fun l' => Tr X (A.deeper (envFor fd f L cs)) l' (execs body (envFor fd f L cs)) fun fl l'' => Wk R (.ret (flowVal fl)) l'') binds ⟨F, cellRows cs ((L, .ns []) :: N), G⟩) :
    Cl X A ⟨F, N, G⟩ (.call (.ref f) args) R := by
  intro s R' S k
  refine enter_def S ho hcd hroom hbody hbind (fun L cs s' hl S' => ?_) hco hgen
  refine TrB.use (allCells_use (h L) cs (hl.trans hn)) S' fun s'' l' S'' h' => ⟨S''.nolimit, fun E => h'.use S'' fun fl s3 l3 S3 ⟨N3, p, r⟩ => k _ _ ⟨l3.F, N3, l3.G⟩ (S3.pick p) r⟩
end
end Mine
namespace Mine
section
variable {X : Cx} {A : Around} {F : PH} {N : List (Addr × OD)} {G : Array GenState}
def mkEnv (scope : Scope) (gl : Addr) (clo : List (Str × Addr)) (qual : Str) (code : Value) (bi : Addr) (f L : Addr) (cs : List Addr) : Env :=
  { scope := scope, locals := L, globals := gl, cells := zipCells (cellNames scope.names) cs clo, qual := qual, func := some f, code := code, frame := some L, builtins := bi }
def allC : Nat → List (Addr × OD) → (List Addr → List (Addr × OD) → Prop) → Prop
  | 0, N, P => P [] N
  | n + 1, N, P => ∀ c, allC n ((c, .cell none) :: N) fun cs N => P (c :: cs) N
theorem cells0 {N : List (Addr × OD)} {P : List Addr → List (Addr × OD) → Prop} (h : P [] N) : allC 0 N P := h
theorem cellsS {n : Nat} {N : List (Addr × OD)} {P : List Addr → List (Addr × OD) → Prop} (h : ∀ c, allC n ((c, .cell none) :: N) fun cs N => P (c :: cs) N) : allC (n + 1) N P := h
theorem allC_all : ∀ {n : Nat} {N : List (Addr × OD)} {P : List Addr → List (Addr × OD) → Prop}, allC n N P → allCells n fun cs => P cs (cellRows cs N)
  | 0, _, _, h => h
  | n + 1, N, P, h => fun c => allC_all (n := n) (N := (c, .cell none) :: N) (P := fun cs N => P (c :: cs) N) (h c)
theorem cl_def' {f : Addr} {oc : Value} {od : Option Addr} {osl : Array (Option Value)} {body : List Stmt} {args : Args} {binds : List (Str × Value)} {R : Flow → Led → Prop}
    {name qn : Str} {params : Arguments} {scope : Scope} {gl bi : Addr} {clo : List (Str × Addr)} {dfl kwd doc pm code ct : Value} {ann : Option Addr}
    (ho : X.K.lookup f = some ⟨oc, od, .func ⟨name, qn, params, .stmts body, scope, gl, clo, dfl, kwd, doc, pm, ann, code, ct, bi⟩, osl⟩) (hcd : codeIn X.K code qn = true)
    (hbind : peek X.K ⟨X.prog, X.w.params⟩ (bindArgs ⟨name, qn, params, .stmts body, scope, gl, clo, dfl, kwd, doc, pm, ann, code, ct, bi⟩ args) = some binds) (hroom : A.depth < recursionLimit)
    (hco : scope.isCoroutine = false) (hgen : scope.isGenerator = false) {n : Nat} (hn : (cellNames scope.names).length = n)
    (h : ∀ L, allC n ((L, .ns []) :: N) fun cs NN => TrB X A.in1 (mkEnv scope gl clo (qn ++ ".<locals>.") code bi f L cs) (fun l' => Tr X (A.deeper (mkEnv scope gl clo (qn ++ ".<locals>.") code bi f L cs)) l' (execs body (mkEnv scope gl clo (qn ++ ".<locals>.") code bi f L cs)) fun fl l'' => Wk R (.ret (flowVal fl)) l'') binds ⟨F, NN, G⟩) :
    Cl X A ⟨F, N, G⟩ (.call (.ref f) args) R :=
  cl_def ho hcd rfl hbind hroom hco hgen hn fun L => allC_all (h L)
end
end Mine

open PySem PySem.W PyProof.Rows PySem.Calls PySem.Builtin.ObjectAttr
set_option maxRecDepth 100000
set_option Elab.async false
set_option autoImplicit false
set_option linter.unusedVariables false
namespace Mine
section
variable {α β : Type} {X : Cx} {A : Around} {l : Led} {env : Env}
variable {F : PH} {N N' : List (Addr × OD)} {G : Array GenState}

/-! statements -/
def Fl (X : Cx) (A : Around) (env : Env) (rest : List Stmt) (R : Flow → Led → Prop) (f : Flow) (l : Led) : Prop :=
  match f with | .next => Tr X A l (execs rest env) R | f => R f l
theorem t_cons {st : Stmt} {rest : List Stmt} {R : Flow → Led → Prop} (h : Tr X A l (exec st env) (Fl X A env rest R)) : Tr X A l (execs (st :: rest) env) R :=
  fun s E S => wpAny_execs_cons (h.use S fun f s' l' S' r => by cases f with
    | next => exact r s' E S'
    | _ => exact ⟨l', S', r⟩)
theorem t_nil {R : Flow → Led → Prop} (h : R .next l) : Tr X A l (execs [] env) R := fun s E S => wpAny_execs_nil ⟨l, S, h⟩

theorem t_AssignName {x : Str} {p pos : Pos} {value : Expr} {R : Flow → Led → Prop} (h : Tr X A l (eval value env) fun v l1 => Tr X A l1 (storeName env x v) fun _ => R .next)
    (hs : swapsWith value (some (.Name x p)) pos.line env = pure false) : Tr X A l (exec (.Assign [.Name x p] value pos) env) R :=
  fun s E S => wpAny_Assign_Name (h.use S fun v s1 l1 S1 h1 => h1 s1 E S1) hs
theorem t_AssignAttr {o value : Expr} {attr : Str} {p pos : Pos} {R : Flow → Led → Prop}
    (h : Tr X A l (eval value env) fun v l1 => Tr X A l1 (eval o env) fun ov l2 => Tr X A l2 (setAttr ov attr v) fun _ => R .next)
    (hs : swapsWith value (some (.Attribute o attr p)) pos.line env = pure false) : Tr X A l (exec (.Assign [.Attribute o attr p] value pos) env) R :=
  fun s E S => plainObj_wpAny_Assign_Attribute (h.use S fun v s1 l1 S1 h1 => h1.use S1 fun ov s2 l2 S2 h2 => h2 s2 E S2) hs
theorem t_AssignSub {o i value : Expr} {p pos : Pos} {R : Flow → Led → Prop}
    (h : Tr X A l (eval value env) fun v l1 => Tr X A l1 (eval o env) fun ov l2 => Tr X A l2 (eval i env) fun iv l3 => Tr X A l3 (setItem ov iv v) fun _ => R .next)
    (hs : swapsWith value (some (.Subscript o i p)) pos.line env = pure false) : Tr X A l (exec (.Assign [.Subscript o i p] value pos) env) R :=
  fun s E S => wpAny_Assign_Subscript (h.use S fun v s1 l1 S1 h1 => h1.use S1 fun ov s2 l2 S2 h2 => h2.use S2 fun iv s3 l3 S3 h3 => h3 s3 E S3) hs
theorem t_AugName {x : Str} {p pos : Pos} {op : Operator} {value : Expr} {R : Flow → Led → Prop}
    (h : Tr X A l (loadName env x) fun old l1 => Tr X A l1 (eval value env) fun v l2 => Tr X A l2 (inplaceOp op old v) fun r l3 => Tr X A l3 (storeName env x r) fun _ => R .next) :
    Tr X A l (exec (.AugAssign (.Name x p) op value pos) env) R :=
  fun s E S => wpAny_AugAssign_Name (h.use S fun _ s1 l1 S1 h1 => h1.use S1 fun _ s2 l2 S2 h2 => h2.use S2 fun _ s3 l3 S3 h3 => h3 s3 E S3)
theorem t_If {test : Expr} {body orelse : List Stmt} {pos : Pos} {R : Flow → Led → Prop}
    (h : Tr X A l (isTrue test env (eval test env)) fun b l1 => if b = true then Tr X A l1 (execs body env) R else Tr X A l1 (execs orelse env) R) : Tr X A l (exec (.If test body orelse pos) env) R :=
  fun s E S => wpAny_If (h.use S fun b s1 l1 S1 h1 => by
    cases b with
    | true => exact h1 s1 E S1
    | false => exact h1 s1 E S1)
theorem t_Return {e : Expr} {pos : Pos} {R : Flow → Led → Prop} (h : Tr X A l (eval e env) fun v => R (.ret v)) : Tr X A l (exec (.Return (some e) pos) env) R :=
  fun s E S => wpAny_Return_some (h s E S)
theorem t_ExprSt {e : Expr} {pos : Pos} {R : Flow → Led → Prop} (h : Tr X A l (eval e env) fun _ => R .next) (hi : interactive env = false) (hs : swapsWith e none pos.line env = pure false) :
    Tr X A l (exec (.Expr e pos) env) R := fun s E S => wpAny_Expr_any (h s E S) hi hs
theorem t_Pass {pos : Pos} {R : Flow → Led → Prop} (h : R .next l) (e : exec (.Pass pos) env = (standAt pos >>= fun _ => pure .next)) : Tr X A l (exec (.Pass pos) env) R :=
  fun s E S => by rw [e]; exact wpAny_bind (wpAny_standAt (wpAny_pure ⟨l, S, h⟩))
theorem t_For {target iter : Expr} {body orelse : List Stmt} {pos : Pos} {R : Flow → Led → Prop}
    (h : Tr X A l (eval iter env) fun x l1 => Tr X A l1 (pyIter x) fun it l2 => Cl X A l2 (.forLoop target it body orelse env) R)
    (hs : ∀ x, foldedSetIterable iter env x = pure x) : Tr X A l (exec (.For target iter body orelse pos) env) R :=
  fun s E S => wpAny_For (h.use S fun _ s1 l1 S1 h1 => h1.use S1 fun _ s2 l2 S2 h2 => h2 s2 _ S2 fun f s3 l3 S3 r => ⟨l3, S3, r⟩) hs
theorem t_While {test : Expr} {body orelse : List Stmt} {pos : Pos} {R : Flow → Led → Prop} (h : Cl X A l (.whileLoop test body orelse env) R) : Tr X A l (exec (.While test body orelse pos) env) R :=
  fun s E S => wpAny_While (h s _ S fun f s3 l3 S3 r => ⟨l3, S3, r⟩)

/-- the end of a loop's turn -/
def Turn (R : Flow → Led → Prop) (J : Led → Prop) (f : Flow) (l : Led) : Prop :=
  match f with | .next => J l | .cont => J l | .brk => R .next l | .ret v => R (.ret v) l

theorem cl_for {target : Expr} {it : Value} {body orelse : List Stmt} {R : Flow → Led → Prop} (I : Nat → Led → Prop)
    (turn : ∀ n l, I n l → Tr X A l (pyNext it) fun r l1 => match r with
      | none => Tr X A l1 (execs orelse env) R
      | some v => Tr X A l1 (letOwnedTupleGo target it v) fun _ l2 => Tr X A l2 (assign target env v) fun _ l3 => Tr X A l3 (execs body env) (Turn R fun l4 => ∃ m, m < n ∧ I m l4))
    (n : Nat) (h : I n l) : Cl X A l (.forLoop target it body orelse env) R := by
  intro s R' S k
  refine codeAny_forLoop_any (fun n s => ∃ l, X.At l s ∧ I n l) (fun n s ⟨l, S, hI⟩ => ?_) n ⟨l, S, h⟩
  refine (turn n l hI).use S fun r s1 l1 S1 h1 => ?_
  cases r with
  | none => exact h1.use S1 fun f s2 l2 S2 r => k f s2 l2 S2 r
  | some v =>
    refine h1.use S1 fun _ s2 l2 S2 h2 => h2.use S2 fun _ s3 l3 S3 h3 => h3.use S3 fun f s4 l4 S4 h4 => ?_
    · cases f with
      | next => obtain ⟨m, hm, hI⟩ := h4; exact ⟨m, hm, l4, S4, hI⟩
      | cont => obtain ⟨m, hm, hI⟩ := h4; exact ⟨m, hm, l4, S4, hI⟩
      | brk => exact k _ _ l4 S4 h4
      | ret v => exact k _ _ l4 S4 h4
theorem cl_while {test : Expr} {body orelse : List Stmt} {R : Flow → Led → Prop} (I : Nat → Led → Prop)
    (turn : ∀ n l, I n l → Tr X A l (isTrue test env (eval test env)) fun b l1 => if b = true then Tr X A l1 (execs body env) (Turn R fun l4 => ∃ m, m < n ∧ I m l4) else Tr X A l1 (execs orelse env) R)
    (n : Nat) (h : I n l) : Cl X A l (.whileLoop test body orelse env) R := by
  intro s R' S k
  refine codeAny_whileLoop (fun n s => ∃ l, X.At l s ∧ I n l) (fun n s ⟨l, S, hI⟩ => ?_) n ⟨l, S, h⟩
  refine (turn n l hI).use S fun b s1 l1 S1 h1 => ?_
  cases b with
  | false => exact Tr.use h1 S1 fun f s2 l2 S2 r => k f s2 l2 S2 r
  | true =>
    refine Tr.use h1 S1 fun f s4 l4 S4 h4 => ?_
    · cases f with
      | next => obtain ⟨m, hm, hI⟩ := h4; exact ⟨m, hm, l4, S4, hI⟩
      | cont => obtain ⟨m, hm, hI⟩ := h4; exact ⟨m, hm, l4, S4, hI⟩
      | brk => exact k _ _ l4 S4 h4
      | ret v => exact k _ _ l4 S4 h4

/-! expressions -/
theorem t_int {i : Int} {k : Nat} {pos : Pos} {R : Value → Led → Prop} (h : ∀ t, R (.int i t) l) : Tr X A l (eval (.Constant (.int i) k pos) env) R :=
  fun s E S => wpAny_Constant_int ⟨l, S.same rfl rfl rfl, h _⟩
theorem t_str {x : Str} {k : Nat} {pos : Pos} {R : Value → Led → Prop} (h : ∀ t, R (.str x t) l) : Tr X A l (eval (.Constant (.str x) k pos) env) R :=
  fun s E S => wpAny_Constant_str ⟨l, S.same rfl rfl rfl, h _⟩
theorem t_bool {b : Bool} {k : Nat} {pos : Pos} {R : Value → Led → Prop} (h : R (.bool b) l) : Tr X A l (eval (.Constant (.bool b) k pos) env) R :=
  fun s E S => wpAny_Constant_bool ⟨l, S, h⟩
theorem t_none {k : Nat} {pos : Pos} {R : Value → Led → Prop} (h : R .none l) : Tr X A l (eval (.Constant .none k pos) env) R :=
  fun s E S => wpAny_Constant_none ⟨l, S, h⟩

theorem t_local {L : Addr} {fr : List (Str × Value)} {x : Str} {v : Value} {pos : Pos} {R : Value → Led → Prop} (hL : env.locals = L) (hN : (L, OD.ns fr) ∈ N) (hv : (x, v) ∈ fr)
    (hx : env.kindOf x = some .local) (hk : env.scope.kind = .function) (hd : (x == ("__debug__" : Str)) = false) (h : R v ⟨F, N, G⟩) : Tr X A ⟨F, N, G⟩ (eval (.Name x pos) env) R :=
  fun s E S => a_local S hN hv ⟨_, S, h⟩ hL hk hx hd
theorem t_localN {L : Addr} {fr : List (Str × Value)} {x : Str} {v : Value} {R : Value → Led → Prop} (hL : env.locals = L) (hN : (L, OD.ns fr) ∈ N) (hv : (x, v) ∈ fr)
    (hx : env.kindOf x = some .local) (hk : env.scope.kind = .function) (h : R v ⟨F, N, G⟩) : Tr X A ⟨F, N, G⟩ (loadName env x) R :=
  fun s E S => a_localN S hN hv ⟨_, S, h⟩ hL hk hx
theorem t_glob {x : Str} {v : Value} {pos : Pos} {R : Value → Led → Prop} (e : nsIn X.K mainGlobals x = some (some v)) (hg : env.globals = mainGlobals) (hk : env.scope.kind = .function) (hx : env.kindOf x = some .globalImplicit)
    (hd : (x == ("__debug__" : Str)) = false) (h : R v l) : Tr X A l (eval (.Name x pos) env) R := fun s E S => a_glob S e ⟨l, S, h⟩ hg hk hx hd
theorem t_bltin {x : Str} {v : Value} {pos : Pos} {R : Value → Led → Prop} (e : nsIn X.K mainGlobals x = some none) (hv : bootBuiltins x = some v) (hn : x ≠ "__name__") (hg : env.globals = mainGlobals) (hb : env.builtins = builtinsNs)
    (hk : env.scope.kind = .function) (hx : env.kindOf x = some .globalImplicit) (hd : (x == ("__debug__" : Str)) = false) (h : R v l) : Tr X A l (eval (.Name x pos) env) R :=
  fun s E S => a_bltin S e hv hn ⟨l, S, h⟩ hg hb hk hx hd
theorem t_cell {c : Addr} {x : Str} {v : Value} {pos : Pos} {R : Value → Led → Prop} (hc : (c, OD.cell (some v)) ∈ N) (hcl : env.cells.lookup x = some c) (hk : env.scope.kind = .function) (hx : env.kindOf x = some .cell)
    (hd : (x == ("__debug__" : Str)) = false) (h : R v ⟨F, N, G⟩) : Tr X A ⟨F, N, G⟩ (eval (.Name x pos) env) R := fun s E S => a_cell (S.led hc) ⟨_, S, h⟩ hcl hk hx hd
theorem t_cellN {c : Addr} {x : Str} {v : Value} {R : Value → Led → Prop} (hc : (c, OD.cell (some v)) ∈ N) (hcl : env.cells.lookup x = some c) (hk : env.scope.kind = .function) (hx : env.kindOf x = some .cell)
    (h : R v ⟨F, N, G⟩) : Tr X A ⟨F, N, G⟩ (loadName env x) R := fun s E S => a_cellN (S.led hc) ⟨_, S, h⟩ hcl hk (.inl hx)
theorem t_free {c : Addr} {x : Str} {v : Value} {pos : Pos} {R : Value → Led → Prop} (hc : Kn X l c (.cell (some v))) (hcl : env.cells.lookup x = some c) (hk : env.scope.kind = .function) (hx : env.kindOf x = some .free)
    (hcd : (x == ("__classdict__" : Str)) = false) (hd : (x == ("__debug__" : Str)) = false) (h : R v l) : Tr X A l (eval (.Name x pos) env) R := fun s E S => a_free (hc.has S) ⟨l, S, h⟩ hcl hk hx hcd hd

theorem t_store {L : Addr} {fr fr' : List (Str × Value)} {x : Str} {v : Value} {R : Unit → Led → Prop} (hL : env.locals = L) (u : LUpd N L (.ns fr') N') (hN : (L, OD.ns fr) ∈ N) (hl : LSet fr x v fr')
    (hx : env.kindOf x = some .local) (hk : env.scope.kind = .function) (h : R () ⟨F, N', G⟩) : Tr X A ⟨F, N, G⟩ (storeName env x v) R :=
  fun s E S => a_store S u hN hl (fun s' S' => ⟨_, S', h⟩) hL hx hk
theorem t_storeCell {c : Addr} {o₀ : Option Value} {x : Str} {v : Value} {R : Unit → Led → Prop} (hN : (c, OD.cell o₀) ∈ N) (u : LUpd N c (.cell (some v)) N') (hcl : env.cells.lookup x = some c) (hx : env.kindOf x = some .cell)
    (hk : env.scope.kind = .function) (h : R () ⟨F, N', G⟩) : Tr X A ⟨F, N, G⟩ (storeName env x v) R := fun s E S => a_storeCell S hN u (fun s' S' => ⟨_, S', h⟩) hcl hx hk

theorem t_Attr {value : Expr} {attr : Str} {pos : Pos} {R : Value → Led → Prop} (h : Tr X A l (eval value env) fun o l1 => Tr X A l1 (getAttr o attr true) R)
    (he : eval (.Attribute value attr pos) env = (do
      let o ← eval value env
      standAt pos.atName
      let r ← holding [o] (getAttr o attr true)
      letTemporaryGo value o r
      pure r)) : Tr X A l (eval (.Attribute value attr pos) env) R :=
  fun s E S => Attribute_any_ (h.use S fun o s1 l1 S1 h1 => h1 s1 E S1) he
theorem t_Sub {value slice : Expr} {pos : Pos} {R : Value → Led → Prop} (h : Tr X A l (eval value env) fun o l1 => Tr X A l1 (eval slice env) fun i l2 => Tr X A l2 (subscriptTail value slice o i) R) :
    Tr X A l (eval (.Subscript value slice pos) env) R := fun s E S => Subscript_ (h.use S fun _ s1 l1 S1 h1 => h1.use S1 fun _ s2 l2 S2 h2 => h2 s2 E S2)
theorem t_Tuple {elts : List Expr} {k : Nat} {pos : Pos} {R : Value → Led → Prop} (h : Tr X A l (spliced (backTo pos (starEach elts env))) fun vs l1 => Tr X A l1 (newTuple vs) R) : Tr X A l (eval (.Tuple elts k pos) env) R :=
  fun s E S => Tuple_ (h.use S fun _ s1 l1 S1 h1 => h1 s1 E S1)
theorem t_List {elts : List Expr} {pos : Pos} {R : Value → Led → Prop} (h : Tr X A l (spliced (backTo pos (starEach elts env))) fun vs l1 => Tr X A l1 (newList vs) R) : Tr X A l (eval (.List elts pos) env) R :=
  fun s E S => List_ (h.use S fun _ s1 l1 S1 h1 => h1 s1 E S1)
theorem t_args0 {pos : Pos} {R : List Value → Led → Prop} (h : R [] l) : Tr X A l (spliced (backTo pos (starEach [] env))) R := fun s E S => args_nil ⟨l, S, h⟩
theorem t_args {e : Expr} {rest : List Expr} {pos : Pos} {R : List Value → Led → Prop} (h : Tr X A l (eval e env) fun v l1 => Tr X A l1 (spliced (backTo pos (starEach rest env))) fun vs => R (v :: vs))
    (he : starEach (e :: rest) env = (false, eval e env) :: starEach rest env) : Tr X A l (spliced (backTo pos (starEach (e :: rest) env))) R :=
  fun s E S => args_cons (h.use S fun _ s1 l1 S1 h1 => h1 s1 E S1) he
theorem t_newTuple {vs : List Value} {R : Value → Led → Prop} (hz : vs.length ≤ sizeLine) (h : ∀ a, R (.ref a) ⟨F, (a, .tup vs) :: N, G⟩) : Tr X A ⟨F, N, G⟩ (newTuple vs) R :=
  fun s E S => wpAny_newTuple ⟨⟨F, (s.heap.objs.size, .tup vs) :: N, G⟩, At.alloc S (D := .tup vs) ⟨rfl, rfl, 0, rfl⟩ rfl rfl rfl, h _⟩ hz
theorem t_newList {vs : List Value} {R : Value → Led → Prop} (hz : vs.length ≤ sizeLine) (h : ∀ a, R (.ref a) ⟨F, (a, .lst vs) :: N, G⟩) : Tr X A ⟨F, N, G⟩ (newList vs) R :=
  fun s E S => wpAny_newList ⟨⟨F, (s.heap.objs.size, .lst vs) :: N, G⟩, At.alloc S (D := .lst vs) ⟨rfl, ⟨rfl, rfl⟩, 0, rfl⟩ rfl rfl rfl, h _⟩ hz

theorem t_Cmp {a b : Expr} {op : CmpOp} {pos : Pos} {R : Value → Led → Prop} (h : Tr X A l (eval a env) fun x l1 => Tr X A l1 (eval b env) fun y l2 => Tr X A l2 (compareOp op x y) R) (hb : behindInMarks op b = false) :
    Tr X A l (eval (.Compare a [op] [b] pos) env) R := fun s E S => wpAny_Compare1 (h.use S fun _ s1 l1 S1 h1 => h1.use S1 fun _ s2 l2 S2 h2 => h2 s2 E S2) hb
theorem t_isCmp {a b : Expr} {op : CmpOp} {pos : Pos} {whole : Sem Value} {R : Bool → Led → Prop}
    (h : Tr X A l (eval a env) fun x l1 => Tr X A l1 (eval b env) fun y l2 => Tr X A l2 (compareOp op x y) fun c l3 => Tr X A l3 (truthy c) R) (hb : behindInMarks op b = false) :
    Tr X A l (isTrue (.Compare a [op] [b] pos) env whole) R :=
  fun s E S => wpAny_isTrue_Compare1 (h.use S fun _ s1 l1 S1 h1 => h1.use S1 fun _ s2 l2 S2 h2 => h2.use S2 fun _ s3 l3 S3 h3 => h3 s3 E S3) hb
theorem t_isVal {e : Expr} {whole : Sem Value} {R : Bool → Led → Prop} (h : Tr X A l whole fun v l1 => Tr X A l1 (truthy v) R)
    (he : isTrue e env whole = (do let v ← whole; standAt e.pos; holding [v] (truthy v))) : Tr X A l (isTrue e env whole) R :=
  fun s E S => wpAny_isTrue_value (h.use S fun _ s1 l1 S1 h1 => h1 s1 E S1) he
theorem t_IfExp {test body orelse : Expr} {pos : Pos} {R : Value → Led → Prop}
    (h : Tr X A l (isTrue test env (eval test env)) fun b l1 => if b = true then Tr X A l1 (eval body env) R else Tr X A l1 (eval orelse env) R) : Tr X A l (eval (.IfExp test body orelse pos) env) R :=
  fun s E S => IfExp_ (h.use S fun b s1 l1 S1 h1 => by
    cases b with
    | true => exact h1 s1 E S1
    | false => exact h1 s1 E S1)
theorem t_Bin {a b : Expr} {op : Operator} {pos : Pos} {R : Value → Led → Prop} (h : Tr X A l (eval a env) fun x l1 => Tr X A l1 (eval b env) fun y l2 => Tr X A l2 (binaryOp op x y) R) :
    Tr X A l (eval (.BinOp a op b pos) env) R := fun s E S => wpAny_BinOp (h.use S fun _ s1 l1 S1 h1 => h1.use S1 fun _ s2 l2 S2 h2 => h2 s2 E S2)
theorem t_And {a b : Expr} {rest : List Expr} {pos : Pos} {R : Value → Led → Prop}
    (h : Tr X A l (eval a env) fun v l1 => Tr X A l1 (truthy v) fun c l2 => if c = true then Tr X A l2 (eval (.BoolOp .And (b :: rest) pos) env) R else R v l2) : Tr X A l (eval (.BoolOp .And (a :: b :: rest) pos) env) R :=
  fun s E S => BoolOp_and (h.use S fun v s1 l1 S1 h1 => h1.use S1 fun c s2 l2 S2 h2 => by
    cases c with
    | true => exact h2 s2 E S2
    | false => exact ⟨l2, S2, h2⟩)
theorem t_Or {a b : Expr} {rest : List Expr} {pos : Pos} {R : Value → Led → Prop}
    (h : Tr X A l (eval a env) fun v l1 => Tr X A l1 (truthy v) fun c l2 => if c = true then R v l2 else Tr X A l2 (eval (.BoolOp .Or (b :: rest) pos) env) R) : Tr X A l (eval (.BoolOp .Or (a :: b :: rest) pos) env) R :=
  fun s E S => BoolOp_or (h.use S fun v s1 l1 S1 h1 => h1.use S1 fun c s2 l2 S2 h2 => by
    cases c with
    | false => exact h2 s2 E S2
    | true => exact ⟨l2, S2, h2⟩)

/-! calls -/
theorem t_Call {f : Expr} {args : List Expr} {pos : Pos} {R : Value → Led → Prop} (h : Tr X A l (eval f env) fun fv l1 => Tr X A l1 (callWith pos fv [] (backTo pos (starEach args env)) []) R)
    (he : eval (.Call f args [] pos) env = (do callWith pos (← eval f env) [] (backTo pos (starEach args env)) (backToKw pos (keywordEach [] env)))) : Tr X A l (eval (.Call f args [] pos) env) R :=
  fun s E S => Call_ (h.use S fun _ s1 l1 S1 h1 => h1 s1 E S1) he
def MC (p : Value × List Value) (P : Value → List Value → Prop) : Prop := P p.1 p.2
theorem mc {f : Value} {first : List Value} {P : Value → List Value → Prop} (h : P f first) : MC (f, first) P := h
theorem t_MCall {o : Expr} {name : Str} {apos pos : Pos} {args : List Expr} {pl : Sem Bool} {R : Value → Led → Prop}
    (h : Tr X A l (eval o env) fun ov l1 => Tr X A l1 (getMethod ov name pl) fun fx l2 => MC fx fun f first => Tr X A l2 (callWith pos f first (backTo pos (starEach args env)) []) R)
    (he : eval (.Call (.Attribute o name apos) args [] pos) env = (do
      let ov ← eval o env
      standAt apos.atName
      let (f, first) ← holding [ov] (getMethod ov name pl)
      callWith pos f first (backTo pos (starEach args env)) [])) : Tr X A l (eval (.Call (.Attribute o name apos) args [] pos) env) R :=
  fun s E S => MethodCall_ (h.use S fun _ s1 l1 S1 h1 => h1.use S1 fun _ s2 l2 S2 h2 => h2 s2 E S2) he

/-- the callee's keeper is found quietly -/
def Callee (X : Cx) (l : Led) (f : Value) : Prop := ∀ s, X.At l s → ∀ A E (Q : Keeper → Shared → Prop), (∀ k, Q k s) → wpAny X.M A (keeperOf f) Q E s
theorem t_callWith {pos : Pos} {f : Value} {first : List Value} {args : List (Bool × Sem Value)} {R : Value → Led → Prop}
    (h : Tr X A l (evalArgs f true args []) fun a l1 => Callee X l1 f ∧ Tr X A l1 (call f (first ++ a.pos) a.kw) R) : Tr X A l (callWith pos f first args []) R := by
  intro s E S
  unfold callWith
  refine wpAny_bind (wpAny_holding (h.use S fun a s1 l1 S1 h1 => wpAny_bind (wpAny_standAt ?_)))
  obtain ⟨hc, h1⟩ := h1
  have tail : ∀ {t : Sem Value}, wpAny X.M A t (fun v s' => ∃ l', X.At l' s' ∧ R v l') E s1 → wpAny X.M A (t >>= fun r => holding [r] point >>= fun _ => pure r) (fun v s' => ∃ l', X.At l' s' ∧ R v l') E s1 :=
    fun ht => wpAny_bind (wpAny_mono ht (fun r s₂ hr => wpAny_bind (wpAny_holding (wpAny_point (wpAny_pure hr)))) fun _ _ x => x)
  have base := h1 s1 E S1
  have mk : ∀ {vs m}, wpAny X.M A m (fun v s' => ∃ l', X.At l' s' ∧ R v l') E s1 → wpAny X.M A (Sem.keep vs m) (fun v s' => ∃ l', X.At l' s' ∧ R v l') E s1 := fun h => Calls.wpAny_keep h
  refine wpAny_bind (hc s1 S1 A E _ fun k => ?_)
  dsimp only
  split
  · exact tail (by unfold callMarked; exact Calls.wpAny_keep base)
  · split
    · exact tail base
    · exact tail (by unfold callMarked; exact Calls.wpAny_keep base)
  · split
    · exact tail base
    · exact tail (by unfold callMarked; exact Calls.wpAny_keep base)
  · exact tail base
  · exact tail (wpAny_operate' base)
end
end Mine

open PySem PySem.W PyProof.Rows PySem.Calls PySem.Builtin.ObjectAttr
set_option maxRecDepth 100000
set_option Elab.async false
set_option autoImplicit false
set_option linter.unusedVariables false
namespace Mine
theorem ents_pairs {prog : Program} {w : World} {es : List DictEntry} {l : List (Str × Value)} (h : Ents w.params es l) :
    (∀ e ∈ es, ∃ k, (strKind prog w).is k e.key = true ∧ e.hash = (strKind prog w).hash k) ∧ Pairs (strKind prog w) es l := by
  induction h with
  | nil => exact ⟨(fun e he => nomatch he), .nil⟩
  | @cons e p es l h _ ih =>
    obtain ⟨⟨t, hk⟩, hv, hh⟩ := h
    have hi : (strKind prog w).is p.1 e.key = true := by rw [hk]; exact strKind_is prog w _ _
    refine ⟨fun e' he => ?_, .cons hi hv ih.2⟩
    rcases List.mem_cons.mp he with rfl | he
    · exact ⟨p.1, hi, hh⟩
    · exact ih.1 e' he
theorem pairs_ents {prog : Program} {w : World} {es : List DictEntry} {l : List (Str × Value)} (h1 : ∀ e ∈ es, ∃ k, (strKind prog w).is k e.key = true ∧ e.hash = (strKind prog w).hash k)
    (h2 : Pairs (strKind prog w) es l) : Ents w.params es l := by
  induction h2 with
  | nil => exact .nil
  | @cons e p es l hk hv _ ih =>
    refine .cons ⟨?_, hv, ?_⟩ (ih fun e' he => h1 e' (.tail _ he))
    · obtain ⟨t, ht⟩ := Value.isStrOf_shape (x := p.1) (v := e.key) hk
      exact ⟨t, ht⟩
    · obtain ⟨k, h3, h4⟩ := h1 e (.head _)
      have := (strKind prog w).inj e.key k p.1 h3 hk
      subst this
      exact h4
theorem Has.dictOf {prog : Program} {w : World} {h : Heap} {a : Addr} {kvs : List (Str × Value)} (x : Has w.params h a (.dic kvs)) : h.DictOf (strKind prog w) a kvs := by
  obtain ⟨o, ho, he, nd, es, n, hd, hn⟩ := x
  have q := ents_pairs (prog := prog) hn
  exact ⟨o, es, n, ho, he, hd, fun e hm => q.1 e (Array.mem_toList_iff.mpr hm), q.2, nd⟩
theorem dictOf_has {prog : Program} {w : World} {h : Heap} {a : Addr} {kvs : List (Str × Value)} (x : h.DictOf (strKind prog w) a kvs) : Has w.params h a (.dic kvs) := by
  obtain ⟨o, es, n, ho, he, hd, hk, hp, nd⟩ := x
  exact ⟨o, ho, he, nd, es, n, hd, pairs_ents (prog := prog) (fun e hm => hk e (Array.mem_toList_iff.mp hm)) hp⟩

theorem Has.isList {P : Params} {h : Heap} {a : Addr} {vs : List Value} (x : Has P h a (.lst vs)) : h.IsList a vs.toArray := let ⟨o, ho, hc, _, hd⟩ := x; ⟨o, ho, hc, hd⟩
theorem Has.isTup {P : Params} {h : Heap} {a : Addr} {vs : List Value} (x : Has P h a (.tup vs)) : h.IsTuple a vs.toArray := let ⟨o, ho, hc, _, hd⟩ := x; ⟨o, ho, hc, hd⟩

section
variable {α β : Type} {X : Cx} {A : Around} {l : Led} {env : Env}
variable {F : PH} {N N' : List (Addr × OD)} {G : Array GenState}

/-! attributes of own objects -/
theorem all_ne {fs : List (Str × Value)} {name : Str} (h : (fs.all fun p => p.1 != name) = true) : ∀ y ∈ fs.map (·.1), y ≠ name := fun y hy => by
  obtain ⟨p, hp, rfl⟩ := List.mem_map.mp hy
  simpa using List.all_eq_true.mp h p hp
theorem t_field {x C d : Addr} {fs : List (Str × Value)} {name : Str} {v : Value} {expr : Bool} {R : Value → Led → Prop} (hx : Kn X l x (.inst C d)) (hd : Kn X l d (.fld fs)) (hv : (name, v) ∈ fs)
    (hf : fieldName X.K C name = true) (hg : hasGA X.K C = true) (hh : handedIn v = true) (h : R v l) : Tr X A l (getAttr (.ref x) name expr) R :=
  fun s E S => a_field S (hx.has S) (hd.has S) hv hf hg (fun s' S' => ⟨l, S', h⟩) hh
theorem t_clsValue {x C d : Addr} {fs : List (Str × Value)} {name : Str} {v : Value} {expr : Bool} {R : Value → Led → Prop} (hx : Kn X l x (.inst C d)) (hd : Kn X l d (.fld fs))
    (hf : clsValue X.K C name v = true) (hg : hasGA X.K C = true) (hn : (fs.all fun p => p.1 != name) = true) (h : R v l) : Tr X A l (getAttr (.ref x) name expr) R :=
  fun s E S => a_clsValue S (hx.has S) (hd.has S) hf hg (all_ne hn) fun s' S' => ⟨l, S', h⟩
theorem t_methodOf {x C d f : Addr} {fs : List (Str × Value)} {name : Str} {pl : Sem Bool} {R : Value × List Value → Led → Prop} (hx : Kn X l x (.inst C d)) (hd : Kn X l d (.fld fs))
    (hf : defName X.K C name f = true) (hg : hasGA X.K C = true) (hn : (fs.all fun p => p.1 != name) = true) (h : R (.ref f, [.ref x]) l) : Tr X A l (getMethod (.ref x) name pl) R :=
  fun s E S => a_methodOf S (hx.has S) (hd.has S) hf hg (all_ne hn) ⟨l, S, h⟩
theorem t_setattr {x C d : Addr} {fs fs' : List (Str × Value)} {name : Str} {v : Value} {R : Unit → Led → Prop} (hx : Kn X ⟨F, N, G⟩ x (.inst C d)) (hd : (d, OD.fld fs) ∈ N)
    (hf : setName X.K C name = true) (hl : LSet fs name v fs') (u : LUpd N d (.fld fs') N') (hz : fs.length ≤ 1000) (h : R () ⟨F, N', G⟩) : Tr X A ⟨F, N, G⟩ (setAttr (.ref x) name v) R :=
  fun s E S => a_setattr S (hx.has S) hd hf hl u hz fun s' S' => ⟨_, S', h⟩

/-! calls -/
theorem t_evalArgs0 {pos : Pos} {f : Value} {R : Args → Led → Prop} (h : R ⟨[], []⟩ l) : Tr X A l (evalArgs f true (backTo pos (starEach [] env)) []) R := fun s E S => evalArgs_empty ⟨l, S, h⟩
theorem t_evalArgs {pos : Pos} {f : Value} {e : Expr} {rest : List Expr} {R : Args → Led → Prop} (h : Tr X A l (spliced (backTo pos (starEach (e :: rest) env))) fun vs => R ⟨vs, []⟩)
    (he : starEach (e :: rest) env = (false, eval e env) :: starEach rest env := by rfl) : Tr X A l (evalArgs f true (backTo pos (starEach (e :: rest) env)) []) R := by
  intro s E S
  have := h s E S
  rw [he] at this ⊢
  exact Calls.evalArgs_plain this

theorem callee_bltin {id : String} : Callee X l (.builtin id) := fun s S A E Q h => by unfold keeperOf; exact wpAny_pure (h _)
theorem callee_type {id : String} : Callee X l (.type id) := fun s S A E Q h => by unfold keeperOf; exact wpAny_pure (h _)
/-- an address of K is a def -/
theorem callee_fn {f : Addr} {oc : Value} {od : Option Addr} {osl : Array (Option Value)} {fd : FuncData} (ho : X.K.lookup f = some ⟨oc, od, .func fd, osl⟩) : Callee X l (.ref f) := fun s S A E Q h => by
  unfold keeperOf; exact wpAny_bind (wpAny_load (S.inK _ _ ho) (wpAny_pure (h _)))
theorem callee_cls {C : Addr} {cd : ClassData} {v : Option Value} (hc : clsIn X.K C = some cd) (hs : specialIn X.K (.ref C) "__call__" = some v) : Callee X l (.ref C) := fun s S A E Q h => by
  unfold keeperOf
  unfold clsIn at hc
  split at hc
  · rename_i ho
    exact wpAny_bind (wpAny_load (S.inK _ _ ho) (wpAny_bind ((looks_specialIn S.inK hs).here (wpAny_pure (h _)))))
  · cases hc
  /- ((looks_specialIn S.inK hs).here (wpAny_pure (h _))) -/

theorem t_make {C fI : Addr} {pos : List Value} {kw : List (Str × Value)} {R : Value → Led → Prop} (hm : makesIn X.K C = true) (hi : findIn X.K (.ref C) "__init__" = some (some (.ref fI))) (hf : isFn X.K (.ref fI) = true)
    (h : ∀ x d, Cl X (A.under (.builtin "type.__call__" ⟨.ref C :: pos, kw⟩)) ⟨F, (x, .inst C d) :: (d, .fld []) :: N, G⟩ (.call (.ref fI) ⟨.ref x :: pos, kw⟩) (Rv fun v l' => v = .none ∧ R (.ref x) l')) :
    Tr X A ⟨F, N, G⟩ (call (.ref C) pos kw) R :=
  fun s E S => a_make S hm hi hf fun x d s' S' => h x d s' _ S' fun f s2 l2 S2 ⟨v, e, hv, r⟩ => by subst e; exact ⟨hv, l2, S2, r⟩
theorem t_callMeth {q : Addr} {f self : Value} {pos : List Value} {kw : List (Str × Value)} {R : Value → Led → Prop} (hq : Kn X l q (.raw (methodObj f self)))
    (h : Cl X A l (.call f ⟨self :: pos, kw⟩) (Rv R)) : Tr X A l (call (.ref q) pos kw) R :=
  tr_call fun s R' S k => by
    obtain ⟨o, ho, e, _⟩ := hq.has S
    exact method_call (ho.trans (congrArg some e)) (h s R' S k)
theorem callee_meth {q f : Addr} {self : Value} {oc : Value} {od : Option Addr} {osl : Array (Option Value)} {fd : FuncData} (hq : Kn X l q (.raw (methodObj (.ref f) self)))
    (hf : X.K.lookup f = some ⟨oc, od, .func fd, osl⟩) : Callee X l (.ref q) := fun s S A E Q h => by
  obtain ⟨o, ho, e, _⟩ := hq.has S
  subst e
  unfold keeperOf
  refine wpAny_bind (wpAny_load ho ?_)
  exact wpAny_bind (wpAny_load (S.inK _ _ hf) (wpAny_pure (h _)))

/-! methods of built-in types -/
theorem t_methStr {x : Str} {t : Tok} {name : Str} {id : String} {pl : Sem Bool} {R : Value × List Value → Led → Prop} (slot : Slot "str" name id) (hty : typeOf (.builtin id) = pure (.type "method_descriptor"))
    (h : R (.builtin id, [.str x t]) l) : Tr X A l (getMethod (.str x t) name pl) R :=
  fun s E S => getMethod_builtin (typeIs_str s x t) PySem.F.plainAttrs_str slot hty (by intro _ e; cases e) ⟨l, S, h⟩
theorem t_methList {a : Addr} {vs : List Value} {name : Str} {id : String} {pl : Sem Bool} {R : Value × List Value → Led → Prop} (ha : Kn X l a (.lst vs)) (slot : Slot "list" name id) (hty : typeOf (.builtin id) = pure (.type "method_descriptor"))
    (h : R (.builtin id, [.ref a]) l) : Tr X A l (getMethod (.ref a) name pl) R :=
  fun s E S => getMethod_builtin (ha.has S).isList.typeIs PySem.F.plainAttrs_list slot hty (by intro b e; cases e; obtain ⟨o, ho, _, hd, _⟩ := ha.has S; exact ⟨o, ho, hd.1⟩) ⟨l, S, h⟩
theorem t_methDict {a : Addr} {kvs : List (Str × Value)} {name : Str} {id : String} {pl : Sem Bool} {R : Value × List Value → Led → Prop} (ha : Kn X l a (.dic kvs)) (slot : Slot "dict" name id) (hty : typeOf (.builtin id) = pure (.type "method_descriptor"))
    (h : R (.builtin id, [.ref a]) l) : Tr X A l (getMethod (.ref a) name pl) R :=
  fun s E S => getMethod_builtin ((ha.has S).dictOf (prog := X.prog)).typeIs PySem.F.plainAttrs_dict slot hty ((ha.has S).dictOf (prog := X.prog)).mapOf.noDict ⟨l, S, h⟩

/-! lists -/
theorem t_append {a : Addr} {vs : List Value} {x : Value} {R : Value → Led → Prop} (ha : (a, OD.lst vs) ∈ N) (u : LUpd N a (.lst (vs ++ [x])) N') (hz : vs.length ≤ sizeLine) (h : R .none ⟨F, N', G⟩) :
    Tr X A ⟨F, N, G⟩ (call (.builtin "list.append") [.ref a, x]) R := fun s E S => by
  obtain ⟨o, ho, hc, hdn, n, hd⟩ := S.led ha
  refine wpAny_call_entry slot_list_append ⟨o, ho, hc⟩ entry_list_append ?_ (args_list_append _ _)
  show wpAny _ _ (updateSeq a (·.push x) >>= fun _ => ret .none) _ _ s
  refine wpAny_bind ?_
  obtain ⟨n', hd'⟩ := Obj.data_mapSeq hd (·.push x)
  refine wpAny_updateSeq ho hd (wpAny_pure ⟨.none, rfl, ⟨F, N', G⟩, S.updT u (Heap.SameBut.update ..) ⟨_, Heap.get?_update_self _ ho (Obj.isFreed_of_seq hd'), ?_⟩, h⟩) (by simpa using hz)
  refine ⟨(Obj.cls_mapSeq ..).trans hc, ?_, n', by rw [hd']; simp⟩
  obtain ⟨c, d, dt, sl⟩ := o
  subst hd
  exact hdn

/-! dicts by strs -/
theorem t_dictGetItem {a : Addr} {kvs : List (Str × Value)} {k : Str} {t : Tok} {v : Value} {R : Value → Led → Prop} (ha : Kn X l a (.dic kvs)) (hv : valueAt kvs k = some v) (h : R v l) : Tr X A l (getItem (.ref a) (.str k t)) R :=
  fun s E S => wpAny_getItem_of (strKind_is X.prog X.w k t) (ha.has S).dictOf.mapOf hv ⟨l, S.same rfl rfl rfl, h⟩
theorem t_dictIn {a : Addr} {kvs : List (Str × Value)} {k : Str} {t : Tok} {R : Value → Led → Prop} (ha : Kn X l a (.dic kvs)) (h : R (.bool (valueAt kvs k).isSome) l) : Tr X A l (compareOp .In (.str k t) (.ref a)) R :=
  fun s E S => wpAny_in_of (strKind_is X.prog X.w k t) (ha.notSys S) (ha.has S).dictOf.mapOf ⟨l, S.same rfl rfl rfl, h⟩
theorem t_dictSet {a : Addr} {kvs : List (Str × Value)} {k : Str} {t : Tok} {v : Value} {R : Unit → Led → Prop} (ha : (a, OD.dic kvs) ∈ N) (u : LUpd N a (.dic (stored kvs k v)) N') (hz : kvs.length ≤ sizeLine) (h : R () ⟨F, N', G⟩) :
    Tr X A ⟨F, N, G⟩ (setItem (.ref a) (.str k t) v) R :=
  fun s E S => wpAny_setItem_pairs (strKind_is X.prog X.w k t) (S.led ha).dictOf (fun h' hd hs => ⟨⟨F, N', G⟩, S.updT u hs (dictOf_has (prog := X.prog) hd), h⟩) hz
end
end Mine

open PySem PySem.W PyProof.Rows PySem.Calls PySem.Builtin.ObjectAttr
set_option maxRecDepth 100000
set_option Elab.async false
set_option autoImplicit false
set_option linter.unusedVariables false
namespace Mine
section
variable {α β : Type} {X : Cx} {A : Around} {l : Led} {env : Env}
variable {F : PH} {N N' : List (Addr × OD)} {G : Array GenState}
variable {R : Value → Led → Prop} {RB : Bool → Led → Prop}

/-! flows -/
theorem fl_next {rest : List Stmt} {R : Flow → Led → Prop} (h : Tr X A l (execs rest env) R) : Fl X A env rest R .next l := h
theorem fl_ret {rest : List Stmt} {R : Flow → Led → Prop} {v : Value} (h : R (.ret v) l) : Fl X A env rest R (.ret v) l := h
theorem fl_brk {rest : List Stmt} {R : Flow → Led → Prop} (h : R .brk l) : Fl X A env rest R .brk l := h
theorem fl_cont {rest : List Stmt} {R : Flow → Led → Prop} (h : R .cont l) : Fl X A env rest R .cont l := h
theorem tu_next {R : Flow → Led → Prop} {J : Led → Prop} (h : J l) : Turn R J .next l := h
theorem tu_cont {R : Flow → Led → Prop} {J : Led → Prop} (h : J l) : Turn R J .cont l := h
theorem tu_brk {R : Flow → Led → Prop} {J : Led → Prop} (h : R .next l) : Turn R J .brk l := h
theorem tu_ret {R : Flow → Led → Prop} {J : Led → Prop} {v : Value} (h : R (.ret v) l) : Turn R J (.ret v) l := h
theorem if_t {p q : Prop} (h : p) : if (true = true) then p else q := by rw [if_pos rfl]; exact h
theorem if_f {p q : Prop} (h : q) : if (false = true) then p else q := by rw [if_neg Bool.false_ne_true]; exact h
theorem if_b {b : Bool} {p q : Prop} (h1 : b = true → p) (h2 : b = false → q) : if (b = true) then p else q := by cases b with | true => rw [if_pos rfl]; exact h1 rfl | false => rw [if_neg Bool.false_ne_true]; exact h2 rfl
theorem t_Break {pos : Pos} {R : Flow → Led → Prop} (h : R .brk l) (e : exec (.Break pos) env = (standAt pos >>= fun _ => pure .brk)) : Tr X A l (exec (.Break pos) env) R :=
  fun s E S => by rw [e]; exact wpAny_bind (wpAny_standAt (wpAny_pure ⟨l, S, h⟩))
theorem t_Continue {pos : Pos} {R : Flow → Led → Prop} (h : R .cont l) (e : exec (.Continue pos) env = (standAt pos >>= fun _ => pure .cont)) : Tr X A l (exec (.Continue pos) env) R :=
  fun s E S => by rw [e]; exact wpAny_bind (wpAny_standAt (wpAny_pure ⟨l, S, h⟩))
theorem trB_cons {x : Str} {v : Value} {r : List (Str × Value)} {R : Led → Prop} (h : Tr X A l (storeName env x v) fun _ l' => TrB X A env R r l') : TrB X A env R ((x, v) :: r) l := h
theorem trB_nil {R : Led → Prop} (h : R l) : TrB X A env R [] l := h

/-! tests -/
theorem t_isNot {x : Expr} {pos : Pos} {whole : Sem Value} (h : Tr X A l (isTrue x env (eval x env)) fun c => RB (!c)) : Tr X A l (isTrue (.UnaryOp .Not x pos) env whole) RB :=
  fun s E S => isTrue_not (h s E S)
theorem t_isAnd {x : Expr} {rest : List Expr} {pos : Pos} {whole : Sem Value}
    (h : Tr X A l (isTrue x env (eval x env)) fun c l1 => if c = true then Tr X A l1 (isTrue (.BoolOp .And rest pos) env whole) RB else RB false l1) : Tr X A l (isTrue (.BoolOp .And (x :: rest) pos) env whole) RB :=
  fun s E S => isTrue_and (h.use S fun c s1 l1 S1 h1 => by
    cases c with
    | true => exact h1 s1 E S1
    | false => exact ⟨l1, S1, h1⟩)
theorem t_isAnd0 {pos : Pos} {whole : Sem Value} (h : RB true l) : Tr X A l (isTrue (.BoolOp .And [] pos) env whole) RB := fun s E S => isTrue_and_nil ⟨l, S, h⟩
theorem t_isOr {x : Expr} {rest : List Expr} {pos : Pos} {whole : Sem Value}
    (h : Tr X A l (isTrue x env (eval x env)) fun c l1 => if c = true then RB true l1 else Tr X A l1 (isTrue (.BoolOp .Or rest pos) env whole) RB) : Tr X A l (isTrue (.BoolOp .Or (x :: rest) pos) env whole) RB :=
  fun s E S => isTrue_or (h.use S fun c s1 l1 S1 h1 => by
    cases c with
    | false => exact h1 s1 E S1
    | true => exact ⟨l1, S1, h1⟩)
theorem t_isOr0 {pos : Pos} {whole : Sem Value} (h : RB false l) : Tr X A l (isTrue (.BoolOp .Or [] pos) env whole) RB := fun s E S => isTrue_or_nil ⟨l, S, h⟩
theorem t_Bool1 {op : BoolOp} {e : Expr} {pos : Pos} (h : Tr X A l (eval e env) R) (he : eval (.BoolOp op [e] pos) env = eval e env) : Tr X A l (eval (.BoolOp op [e] pos) env) R := by rw [he]; exact h

theorem tt_none (h : RB false l) : Tr X A l (truthy .none) RB := fun s E S => truthy_none ⟨l, S, h⟩
theorem tt_bool {b : Bool} (h : RB b l) : Tr X A l (truthy (.bool b)) RB := fun s E S => wpAny_truthy_bool ⟨l, S, h⟩
theorem tt_int {a : Int} {t : Tok} (h : RB (a != 0) l) : Tr X A l (truthy (.int a t)) RB := fun s E S => PySem.P.truthy_int ⟨l, S, h⟩
theorem tt_str {x : Str} {t : Tok} (hz : x.length ≤ 1000000) (h : RB ((x.length : Int) != 0) l) : Tr X A l (truthy (.str x t)) RB := fun s E S => PySem.P.truthy_str (by omega) ⟨l, S.same rfl rfl rfl, h⟩
theorem tt_list {a : Addr} {vs : List Value} (ha : Kn X l a (.lst vs)) (hz : vs.length ≤ 1000000) (h : RB (!vs.isEmpty) l) : Tr X A l (truthy (.ref a)) RB :=
  fun s E S => wpAny_truthy_list (ha.has S).isList (by simp; omega) ⟨l, S.same rfl rfl rfl, by cases vs <;> exact h⟩
theorem tt_tup {a : Addr} {vs : List Value} (ha : Kn X l a (.tup vs)) (hz : vs.length ≤ 1000000) (h : RB (!vs.isEmpty) l) : Tr X A l (truthy (.ref a)) RB :=
  fun s E S => PyProof.Rows.truthy_tuple (ha.has S).isTup (by simp; omega) ⟨l, S.same rfl rfl rfl, by cases vs <;> exact h⟩
theorem tt_inst {x C d : Addr} {fs : List (Str × Value)} (hx : Kn X l x (.inst C d)) (hd : Kn X l d (.fld fs)) (hb : findIn X.K (.ref C) "__bool__" = some none) (hl : findIn X.K (.ref C) "__len__" = some none) (h : RB true l) :
    Tr X A l (truthy (.ref x)) RB := fun s E S => by
  obtain ⟨ox, od, I, _⟩ := instAt_of (hx.has S) (hd.has S)
  have a1 := looks_findIn (M := X.M) S.inK hb
  have a2 := looks_findIn (M := X.M) S.inK hl
  unfold truthy
  refine wpAny_bind (m := callSpecial? (.ref x) (Str.ofString "__bool__")) (wpAny_bind (wpAny_bind (I.type.here (a1.here (wpAny_pure ?_)))))
  exact wpAny_bind (wpAny_bind (I.type.here (a2.here (wpAny_pure ⟨l, S, h⟩))))

/-! comparisons -/
variable {a b : Int} {x y : Str} {t u : Tok}
theorem tc_eqI (h : R (.bool (a == b)) l) : Tr X A l (compareOp .Eq (.int a t) (.int b u)) R := fun s E S => PySem.P.eq_int ⟨l, S, h⟩
theorem tc_neI (h : R (.bool (a != b)) l) : Tr X A l (compareOp .NotEq (.int a t) (.int b u)) R := fun s E S => PySem.P.ne_int ⟨l, S, h⟩
theorem tc_leI (h : R (.bool (decide (a ≤ b))) l) : Tr X A l (compareOp .LtE (.int a t) (.int b u)) R := fun s E S => PySem.P.le_int ⟨l, S, h⟩
theorem tc_ltI (h : R (.bool (decide (a < b))) l) : Tr X A l (compareOp .Lt (.int a t) (.int b u)) R := fun s E S => PySem.P.lt_int ⟨l, S, h⟩
theorem tc_geI (h : R (.bool (decide (a ≥ b))) l) : Tr X A l (compareOp .GtE (.int a t) (.int b u)) R := fun s E S => PySem.P.ge_int ⟨l, S, h⟩
theorem tc_gtI (h : R (.bool (decide (a > b))) l) : Tr X A l (compareOp .Gt (.int a t) (.int b u)) R := fun s E S => PySem.P.gt_int ⟨l, S, h⟩
theorem tc_eqS (h : R (.bool (x == y)) l) : Tr X A l (compareOp .Eq (.str x t) (.str y u)) R := fun s E S => PyProof.Rows.eq_str ⟨l, S, h⟩
theorem tc_neS (h : R (.bool (x != y)) l) : Tr X A l (compareOp .NotEq (.str x t) (.str y u)) R := fun s E S => PyProof.Rows.ne_str ⟨l, S, h⟩
theorem tc_is {v w : Value} (hp : PySem.plainIs v w = true) (h : R (.bool (v == w)) l) : Tr X A l (compareOp .Is v w) R := fun s E S => wpAny_is_plain hp ⟨l, S, h⟩
theorem tc_isNot {v w : Value} (hp : PySem.plainIs v w = true) (h : R (.bool (!(v == w))) l) : Tr X A l (compareOp .IsNot v w) R := fun s E S => wpAny_isNot_plain hp ⟨l, S, h⟩
theorem tc_isRef {c : Addr} (h : R (.bool true) l) : Tr X A l (compareOp .Is (.ref c) (.ref c)) R := fun s E S => wpAny_is_ref_self ⟨l, S, h⟩

/-! ints -/
theorem ti_add (h : ∀ t, R (.int (a + b) t) l) : Tr X A l (binaryOp .Add (.int a t) (.int b u)) R := fun s E S => PySem.AutoIntOps.add_0 ⟨l, S.same rfl rfl rfl, h _⟩
theorem ti_iadd (h : ∀ t, R (.int (a + b) t) l) : Tr X A l (inplaceOp .Add (.int a t) (.int b u)) R := fun s E S => PySem.AutoIntOps.iadd_0 ⟨l, S.same rfl rfl rfl, h _⟩
theorem ti_sub (h : ∀ t, R (.int (a - b) t) l) : Tr X A l (binaryOp .Sub (.int a t) (.int b u)) R := fun s E S => PySem.AutoIntOps.sub_0 ⟨l, S.same rfl rfl rfl, h _⟩
theorem ti_mul (hm : IntMulOk a b) (h : ∀ t, R (.int (a * b) t) l) : Tr X A l (binaryOp .Mult (.int a t) (.int b u)) R := fun s E S => PySem.AutoIntOps.mul_0 ⟨l, S.same rfl rfl rfl, h _⟩ hm
theorem ti_mod (hb : b ≠ 0) (h : ∀ t, R (.int (a.fmod b) t) l) : Tr X A l (binaryOp .Mod (.int a t) (.int b u)) R := fun s E S => PySem.AutoIntOps.mod_1 (by simpa using hb) ⟨l, S.same rfl rfl rfl, h _⟩
theorem ti_div (hb : b ≠ 0) (hp : Builtin.divisionGoesByPylong a b = false) (h : ∀ t, R (.int (a.fdiv b) t) l) : Tr X A l (binaryOp .FloorDiv (.int a t) (.int b u)) R :=
  fun s E S => PySem.AutoIntOps.floordiv_1 (by simpa using hb) (by simp [hp]) ⟨l, S.same rfl rfl rfl, h _⟩

/-! strs -/
theorem ts_add (hz : x.length + y.length ≤ sizeLine) (h : ∀ t, R (.str (x ++ y) t) l) : Tr X A l (binaryOp .Add (.str x t) (.str y u)) R := fun s E S => SB.add (fun t' k => ⟨l, S.same rfl rfl rfl, h _⟩) hz
theorem t_len (hz : x.length ≤ 1000000) (h : ∀ t, R (.int x.length t) l) : Tr X A l (call (.builtin "len") [.str x t]) R := fun s E S => PySem.P.len_str (by omega) ⟨l, S.same rfl rfl rfl, h _⟩
theorem t_lenL {c : Addr} {vs : List Value} (ha : Kn X l c (.lst vs)) (hz : vs.length ≤ 1000000) (h : ∀ t, R (.int vs.length t) l) : Tr X A l (call (.builtin "len") [.ref c]) R :=
  fun s E S => Calls.call_len_list (ha.has S).isList (by simp; omega) ⟨l, S.same rfl rfl rfl, by simpa using h _⟩

/-! subscripts -/
theorem t_subTail {value slice : Expr} {o i : Value} {T id : String} {ops : List Value} (hT : ∀ s, X.At l s → s.TypeIs o T) (hl : typeLookup (.type T) "__getitem__" = pure (some (.builtin id)))
    (hs : subscripted slice false o i = operate ops (getItem o i)) (h : Tr X A l (getItem o i) R) : Tr X A l (subscriptTail value slice o i) R := fun s E S => by
  unfold subscriptTail
  have g : ∀ Q : Bool → Shared → Prop, Q false s → wpAny X.M A (getitemInPython o) Q E s := fun Q q => by
    unfold getitemInPython
    refine wpAny_bind (wpAny_specialOf (hT s S) hl ?_)
    exact wpAny_pure q
  refine wpAny_bind (g _ ?_)
  rw [hs]
  refine wpAny_bind (wpAny_operate' (h.use S fun v s1 l1 S1 h1 => ?_))
  exact wpAny_bind (wpAny_letTemporaryGo (wpAny_pure ⟨l1, S1, h1⟩))
theorem t_subStr {value slice : Expr} {i : Value} {ops : List Value} (hs : subscripted slice false (.str x t) i = operate ops (getItem (.str x t) i)) (h : Tr X A l (getItem (.str x t) i) R) :
    Tr X A l (subscriptTail value slice (.str x t) i) R := t_subTail (fun s _ => typeIs_str s x t) PySem.F.slot_str_getitem.lookup hs h
theorem t_subList {value slice : Expr} {i : Value} {ops : List Value} {c : Addr} {vs : List Value} (ha : Kn X l c (.lst vs)) (hs : subscripted slice false (.ref c) i = operate ops (getItem (.ref c) i)) (h : Tr X A l (getItem (.ref c) i) R) :
    Tr X A l (subscriptTail value slice (.ref c) i) R := t_subTail (fun s S => (ha.has S).isList.typeIs) PySem.list_getitem_lookup hs h
theorem t_subDict {value slice : Expr} {i : Value} {ops : List Value} {c : Addr} {vs : List (Str × Value)} (ha : Kn X l c (.dic vs)) (hs : subscripted slice false (.ref c) i = operate ops (getItem (.ref c) i)) (h : Tr X A l (getItem (.ref c) i) R) :
    Tr X A l (subscriptTail value slice (.ref c) i) R := t_subTail (fun s S => ((ha.has S).dictOf (prog := X.prog)).typeIs) slot_dict_getitem.lookup hs h
theorem t_subTup {value slice : Expr} {i : Value} {ops : List Value} {c : Addr} {vs : List Value} (ha : Kn X l c (.tup vs)) (hs : subscripted slice false (.ref c) i = operate ops (getItem (.ref c) i)) (h : Tr X A l (getItem (.ref c) i) R) :
    Tr X A l (subscriptTail value slice (.ref c) i) R := t_subTail (fun s S => let ⟨o, ho, hc, _⟩ := ha.has S; ⟨o, ho, hc⟩) PySem.F.slot_tuple_getitem.lookup hs h

theorem t_itemStr {i : Int} {c : Nat} (hi : 0 ≤ i) (hz : i < 2 ^ 63) (hc : x.cps[i.toNat]? = some c) (h : ∀ t, R (.str ⟨#[c]⟩ t) l) : Tr X A l (getItem (.str x t) (.int i u)) R := fun s E S => by
  refine PySem.P.getItem_str (c := c) ?_ ?_ ⟨l, S.same rfl rfl rfl, h _⟩
  · simp; omega
  · have hlt : i.toNat < x.cps.size := (Array.getElem?_eq_some_iff.mp hc).1
    have : seqIndex? i x.length = some i.toNat := by
      unfold seqIndex?
      have hn : x.length = x.cps.size := rfl
      rw [hn]
      have hlt' : i < (x.cps.size : Int) := by omega
      simp [show ¬ i < 0 by omega, hi, hlt']
    rw [this]; exact hc
theorem t_itemList {i : Int} {c : Addr} {vs : List Value} {v : Value} (ha : Kn X l c (.lst vs)) (hi : 0 ≤ i) (hz : i < 2 ^ 63) (hv : vs[i.toNat]? = some v) (h : R v l) : Tr X A l (getItem (.ref c) (.int i u)) R :=
  fun s E S => wpAny_getItem_list (ha.has S).isList hi hz (by simpa using hv) ⟨l, S, h⟩
theorem t_itemListNeg {i : Int} {c : Addr} {vs : List Value} {v : Value} (ha : Kn X l c (.lst vs)) (hi : i < 0) (hz : -(vs.length : Int) ≤ i) (hz2 : -2 ^ 63 ≤ i) (hv : vs[(i + vs.length).toNat]? = some v) (h : R v l) : Tr X A l (getItem (.ref c) (.int i u)) R :=
  fun s E S => wpAny_getItem_list_neg (ha.has S).isList hi (by simpa using hz) hz2 (by simpa using hv) ⟨l, S, h⟩

/-- x[a:b], a and b cut to the length -/
def cut (x : Str) (a b : Nat) : Str := ⟨((x.cps.toList.take b).drop a).toArray⟩
def OpnS (l : Led) (P : PH → List (Addr × OD) → Array GenState → Prop) : Prop := P l.F l.N l.G
theorem opnS {P : PH → List (Addr × OD) → Array GenState → Prop} (h : P F N G) : OpnS ⟨F, N, G⟩ P := h
theorem t_Slice {lo hi : Option Expr} {p : Pos} (h : Tr X A ⟨F, N, G⟩ (evalPart lo env) fun v l1 => Tr X A l1 (evalPart hi env) fun w l2 => OpnS l2 fun F N G => ∀ a, R (.ref a) ⟨F, (a, .raw { cls := .type "slice", data := .fields #[v, w, .none] }) :: N, G⟩) :
    Tr X A ⟨F, N, G⟩ (eval (.Slice lo hi none p) env) R := fun s E S => wpAny_Slice (h.use S fun v s1 l1 S1 h1 => h1.use S1 fun w s2 l2 S2 h2 => wpAny_pure
      ⟨⟨l2.F, (s2.heap.objs.size, .raw { cls := .type "slice", data := .fields #[v, w, .none] }) :: l2.N, l2.G⟩, At.allocT S2 (D := .raw { cls := .type "slice", data := .fields #[v, w, .none] }) ⟨rfl, rfl⟩, h2 _⟩)
theorem t_part0 (h : R .none l) : Tr X A l (evalPart none env) R := fun s E S => wpAny_pure ⟨l, S, h⟩
theorem t_part {e : Expr} (h : Tr X A l (eval e env) R) : Tr X A l (evalPart (some e) env) R := h

theorem cut_picked (x : Str) (a b : Nat) : (Builtin.Str.strSliceIndices (some (a : Int)) (some (b : Int)) 1 x.length).filterMap (x.cps[·]?) = (x.cps.toList.take b).drop a ∧
    ((Builtin.Str.strSliceIndices (some (a : Int)) (some (b : Int)) 1 x.length).length = x.length → (x.cps.toList.take b).drop a = x.cps.toList) := by
  have e : Builtin.Str.strSliceIndices (some (a : Int)) (some (b : Int)) 1 x.length = (List.range (min b x.length - min a x.length)).map fun k => min a x.length + k := by
    have e1 : max (0 : Int) (min (a : Int) (x.length : Int)) = (min a x.length : Nat) := by omega
    have e2 : max (0 : Int) (min (b : Int) (x.length : Int)) = (min b x.length : Nat) := by omega
    have h1 : ¬ ((a : Int) < 0) := by omega
    have h2 : ¬ ((b : Int) < 0) := by omega
    simp only [Builtin.Str.strSliceIndices, sliceRange, h1, h2, if_false, e1, e2, show ((1 : Int) > 0) = True from by simp, if_true]
    by_cases hlt : ((min a x.length : Nat) : Int) < (min b x.length : Nat)
    · have e3 : (((min b x.length : Nat) : Int) - (min a x.length : Nat) + 1 - 1) / 1 = ((min b x.length - min a x.length : Nat) : Int) := by rw [Int.ediv_one]; omega
      simp only [hlt, if_true, e3, Int.toNat_natCast]
      refine List.map_congr_left fun k _ => ?_
      omega
    · have : min b x.length - min a x.length = 0 := by omega
      simp [hlt, this]
  have hl : x.cps.toList.length = x.length := by simp [Str.length]
  rw [e]
  constructor
  · have h := PySem.StrLaws.picks x.cps.toList (min b x.length - min a x.length) (min a x.length)
    have hle : min a x.length + (min b x.length - min a x.length) ≤ x.cps.toList.length ∨ min b x.length - min a x.length = 0 := by omega
    rcases hle with hle | h0
    · have h' := h hle
      rw [List.drop_take]
      have : (fun k : Nat => x.cps[k]?) = (fun k => x.cps.toList[k]?) := by funext k; simp
      rw [this, h']
      by_cases ha : a ≤ x.length
      · rw [Nat.min_eq_left ha]
        by_cases hb : b ≤ x.length
        · rw [Nat.min_eq_left hb]
        · rw [Nat.min_eq_right (by omega)]
          rw [List.take_of_length_le (by rw [List.length_drop, hl]; omega), List.take_of_length_le (by rw [List.length_drop, hl]; omega)]
      · rw [List.drop_of_length_le (by omega), List.drop_of_length_le (by omega)]; simp
    · rw [h0]
      rw [List.drop_take]
      by_cases ha : a ≤ x.length
      · by_cases hb : b ≤ x.length
        · have : b - a = 0 := by omega
          simp [this]
        · have : x.length - a = 0 := by omega
          rw [List.drop_of_length_le (by omega)]; simp
      · rw [List.drop_of_length_le (by omega)]; simp
  · intro h
    simp only [List.length_map, List.length_range] at h
    by_cases h0 : x.length = 0
    · have : x.cps.toList = [] := List.length_eq_zero_iff.mp (hl.trans h0)
      simp [this]
    · have ha : a = 0 := by omega
      have hb : x.length ≤ b := by omega
      subst ha
      rw [List.take_of_length_le (by omega)]; rfl
theorem strSl {x : Str} {t : Tok} {p q : Option (Int × Tok)} {a b : Nat} (hp : (p.map (·.1)).getD 0 = (a : Int)) (hq : (q.map (·.1)).getD (x.length : Int) = (b : Int)) (hz : x.length ≤ sizeLine) {Q : Value → Shared → Prop} {s : Shared}
    (h : ∀ t' k, Q (.str (cut x a b) t') { s with toks := k }) : (sliceMade x t p q none).post Q s := by
  have e : Builtin.Str.strSliceIndices (p.map (·.1)) (q.map (·.1)) 1 x.length = Builtin.Str.strSliceIndices (some (a : Int)) (some (b : Int)) 1 x.length := by
    rcases p with _ | ⟨p, tp⟩ <;> rcases q with _ | ⟨q, tq⟩ <;> simp only [Option.map_none, Option.map_some, Option.getD_none, Option.getD_some] at hp hq ⊢
    · rw [PySem.StrLaws.sliceIdx_none_lo, PySem.StrLaws.sliceIdx_none_hi, hp, hq]
    · rw [PySem.StrLaws.sliceIdx_none_lo, hp, hq]
    · rw [PySem.StrLaws.sliceIdx_none_hi, hp, hq]
    · rw [hp, hq]
  have c := cut_picked x a b
  unfold sliceMade
  have hc : (slicePicked x p q none) = Builtin.Str.strSliceIndices (some (a : Int)) (some (b : Int)) 1 x.length := e
  rw [hc]
  have el : (cut x a b).length ≤ x.length := by
    show ((x.cps.toList.take b).drop a).toArray.size ≤ _
    simp [Str.length]; omega
  have ed : (if ((((none : Option (Int × Tok)).map (·.1)).getD 1 == 1 && (Builtin.Str.strSliceIndices (some (a : Int)) (some (b : Int)) 1 x.length).length == x.length) = true) then x
      else (⟨((Builtin.Str.strSliceIndices (some (a : Int)) (some (b : Int)) 1 x.length).filterMap (x.cps[·]?)).toArray⟩ : Str)) = cut x a b := by
    split
    · rename_i hh
      have := c.2 (by simpa using hh)
      show x = ⟨((x.cps.toList.take b).drop a).toArray⟩
      rw [this]
    · rw [c.1]; rfl
  exact PySem.post_val_or_str ⟨by rw [ed]; omega, by rw [ed]; exact h⟩
theorem t_getSlice {c : Addr} {p q : Option (Int × Tok)} {a b : Nat} (hc : Kn X l c (.raw { cls := .type "slice", data := .fields #[partValue p, partValue q, .none] })) (hp : (p.map (·.1)).getD 0 = (a : Int)) (hq : (q.map (·.1)).getD (x.length : Int) = (b : Int)) (hz : x.length ≤ 1000000)
    (h : ∀ t, R (.str (cut x a b) t) l) : Tr X A l (getItem (.str x t) (.ref c)) R := fun s E S => by
  obtain ⟨o, ho, e, _⟩ := hc.has S
  refine wpAny_getItem_str_slice (st := none) (l := p) (u := q) ⟨o, ho, e ▸ rfl, e ▸ rfl⟩ rfl (strSl hp hq (by unfold sizeLine; omega) fun t' k => ⟨l, S.same rfl rfl rfl, h _⟩)
end
end Mine

open PySem PySem.W PyProof.Rows PySem.Calls PySem.Builtin.ObjectAttr
set_option maxRecDepth 100000
set_option Elab.async false
set_option autoImplicit false
set_option linter.unusedVariables false
namespace Mine
theorem At.ext {K mg mb P F G O s} {N N' : List (Addr × OD)} {a : Addr} {D : OD} (S : At K mg mb P F N G O s) (r : Rem N (a, D) N') {h' : Heap} (he : Heap.ExtBut a s.heap h') {dr : Drawn} {t : Nat} : At K mg mb P F N' G O ⟨h', s.gens, dr, t, s.os⟩ := by
  have S' := At.rem S r
  have hF := (S'.nw _ (.head _)).1.2
  refine ⟨S'.top, fun b x e => ?_, fun p hp => ?_, (List.nodup_cons.mp S'.nd).2, S'.gn, S'.os⟩
  · have ne : b ≠ a := fun z => by rw [z, hF] at e; cases e
    exact he b x ne (S'.fz b x e)
  · obtain ⟨h1, x, hx, k⟩ := S'.nw p (.tail _ hp)
    have ne : p.1 ≠ a := fun e => (List.nodup_cons.mp S'.nd).1 (e ▸ List.mem_map_of_mem (f := (·.1)) hp)
    exact ⟨h1, x, he _ _ ne hx, k⟩
theorem Has.rcd {P : Params} {h : Heap} {a : Addr} {T : String} {vs : List Value} (x : Has P h a (.rcd T vs)) : ∃ o, h.get? a = some o ∧ o.cls = .type T ∧ o.data = .fields vs.toArray := x

section
variable {α β : Type} {X : Cx} {A : Around} {l : Led} {env : Env}
variable {F : PH} {N N' : List (Addr × OD)} {G : Array GenState}
variable {R : Value → Led → Prop} {RB : Bool → Led → Prop} {RO : Option Value → Led → Prop}

/-- one turn of a for, unrolled -/
theorem cl_for1 {target : Expr} {it : Value} {body orelse : List Stmt} {R : Flow → Led → Prop}
    (h : Tr X A l (pyNext it) fun r l1 => match r with
      | none => Tr X A l1 (execs orelse env) R
      | some v => Tr X A l1 (letOwnedTupleGo target it v) fun _ l2 => Tr X A l2 (assign target env v) fun _ l3 => Tr X A l3 (execs body env) (Turn R fun l4 => Cl X A l4 (.forLoop target it body orelse env) R)) :
    Cl X A l (.forLoop target it body orelse env) R := by
  intro s R' S k
  refine codeAny_of_tree ?_
  show wpAny _ A ((forTurn target it body orelse env).onRaise (fun x => do noteFrame x env; theTreesLotGoes x)) _ _ s
  refine wpAny_noted ?_
  simp only [forTurn]
  refine wpAny_bind (wpAny_standAt (wpAny_bind (wpAny_onRaise (h.use S fun r s1 l1 S1 h1 => ?_))))
  cases r with
  | none => exact wpAny_pure ⟨rfl, codeAny_block (Tr.use h1 S1 fun f s2 l2 S2 r => k f s2 l2 S2 r)⟩
  | some v =>
    refine wpAny_bind (Tr.use h1 S1 fun _ s2 l2 S2 h2 => wpAny_bind (h2.use S2 fun _ s3 l3 S3 h3 => wpAny_bind (h3.use S3 fun f s4 l4 S4 h4 => ?_)))
    cases f with
    | next => exact wpAny_pure ⟨rfl, h4 s4 R' S4 k⟩
    | cont => exact wpAny_pure ⟨rfl, h4 s4 R' S4 k⟩
    | brk => exact wpAny_pure (k _ _ l4 S4 h4)
    | ret v => exact wpAny_pure (k _ _ l4 S4 h4)

/-- an iterator, its row by its place, what it gives; J: what holds beside it -/
structure ItOk (X : Cx) (A : Around) (it : Addr) (n : Nat) (row : Nat → OD) (el : Nat → Value → List (Addr × OD) → Prop) (J : Nat → Led → Prop) : Prop where
  item : ∀ i F N G (R : Option Value → Led → Prop), i < n → J i ⟨F, N, G⟩ → (∀ v new, el i v new → R (some v) ⟨F, (it, row (i + 1)) :: (new ++ N), G⟩) → Tr X A ⟨F, (it, row i) :: N, G⟩ (pyNext (.ref it)) R
  fin : ∀ F N G (R : Option Value → Led → Prop), J n ⟨F, N, G⟩ → R none ⟨F, N, G⟩ → Tr X A ⟨F, (it, row n) :: N, G⟩ (pyNext (.ref it)) R

theorem cl_forJ {target : Expr} {it : Addr} {body orelse : List Stmt} {R : Flow → Led → Prop} {n : Nat} {row : Nat → OD} {el : Nat → Value → List (Addr × OD) → Prop} {J : Nat → Led → Prop} (ok : ItOk X A it n row el J)
    (turn : ∀ i v new F N G, i < n → J i ⟨F, N, G⟩ → el i v new → Tr X A ⟨F, (it, row (i + 1)) :: (new ++ N), G⟩ (letOwnedTupleGo target (.ref it) v) fun _ l2 => Tr X A l2 (assign target env v) fun _ l3 => Tr X A l3 (execs body env)
      (Turn R fun l4 => ∃ N4, Pick l4.N ((it, row (i + 1)) :: N4) ∧ J (i + 1) ⟨l4.F, N4, l4.G⟩))
    (fin : ∀ F N G, J n ⟨F, N, G⟩ → Tr X A ⟨F, N, G⟩ (execs orelse env) R) : ∀ k i F N G, i + k = n → J i ⟨F, N, G⟩ → Cl X A ⟨F, (it, row i) :: N, G⟩ (.forLoop target (.ref it) body orelse env) R
  | 0, i, F, N, G, e, hJ => by
    obtain rfl : i = n := e
    exact cl_for1 (ok.fin F N G _ hJ (fin F N G hJ))
  | k + 1, i, F, N, G, e, hJ => by
    refine cl_for1 (ok.item i F N G _ (by omega) hJ fun v new hv => ?_)
    refine (turn i v new F N G (by omega) hJ hv).mono fun _ l2 h2 => h2.mono fun _ l3 h3 => h3.mono fun f l4 h4 => ?_
    cases f with
    | next => obtain ⟨N4, p, h⟩ := h4; exact cl_pick p (cl_forJ ok turn fin k (i + 1) _ _ _ (by omega) h)
    | cont => obtain ⟨N4, p, h⟩ := h4; exact cl_pick p (cl_forJ ok turn fin k (i + 1) _ _ _ (by omega) h)
    | brk => exact h4
    | ret v => exact h4

/-! iterators -/
abbrev itL (a : Addr) (i : Nat) : OD := .rcd "list_iterator" [.ref a, .int (i : Int) 0]
abbrev itT (a : Addr) (i : Nat) : OD := .rcd "tuple_iterator" [.ref a, .int (i : Int) 0]
theorem t_iterList {a : Addr} {vs : List Value} (ha : Kn X ⟨F, N, G⟩ a (.lst vs)) (h : ∀ it, R (.ref it) ⟨F, (it, itL a 0) :: N, G⟩) : Tr X A ⟨F, N, G⟩ (pyIter (.ref a)) R :=
  fun s E S => wpAny_pyIter_list (ha.has S).isList ⟨⟨F, (s.heap.objs.size, itL a 0) :: N, G⟩, At.allocT S (D := itL a 0) ⟨rfl, rfl⟩, h _⟩
theorem t_iterTup {a : Addr} {vs : List Value} (ha : Kn X ⟨F, N, G⟩ a (.tup vs)) (h : ∀ it, R (.ref it) ⟨F, (it, itT a 0) :: N, G⟩) : Tr X A ⟨F, N, G⟩ (pyIter (.ref a)) R :=
  fun s E S => wpAny_pyIter_tuple (ha.has S).isTup ⟨⟨F, (s.heap.objs.size, itT a 0) :: N, G⟩, At.allocT S (D := itT a 0) ⟨rfl, rfl⟩, h _⟩
theorem t_iterListIter {it a : Addr} {i : Nat} (hi : (it, itL a i) ∈ N) (h : R (.ref it) ⟨F, N, G⟩) : Tr X A ⟨F, N, G⟩ (pyIter (.ref it)) R := fun s E S => wpAny_pyIter_listiter (S.led hi) ⟨_, S, h⟩
theorem t_iterTupIter {it a : Addr} {i : Nat} (hi : (it, itT a i) ∈ N) (h : R (.ref it) ⟨F, N, G⟩) : Tr X A ⟨F, N, G⟩ (pyIter (.ref it)) R := fun s E S => wpAny_pyIter_tupleiter (S.led hi) ⟨_, S, h⟩
theorem t_nextList {it a : Addr} {vs : List Value} {i : Nat} {v : Value} (hi : (it, itL a i) ∈ N) (ha : Kn X ⟨F, N, G⟩ a (.lst vs)) (hv : vs[i]? = some v)
    (u : LUpd N it (itL a (i + 1)) N') (h : RO (some v) ⟨F, N', G⟩) : Tr X A ⟨F, N, G⟩ (pyNext (.ref it)) RO := fun s E S =>
  wpAny_pyNext_list_item (i := i) (S.led hi) (ha.has S).isList (by simpa using hv) fun h' x sb => ⟨⟨F, N', G⟩, S.updT u sb x, h⟩
theorem t_nextListEnd {it a : Addr} {vs : List Value} {i : Nat} (hh : A.handled = none) (hi : (it, itL a i) ∈ N) (ha : Kn X ⟨F, N, G⟩ a (.lst vs)) (hv : vs.length ≤ i)
    (u : Rem N (it, itL a i) N') (h : RO none ⟨F, N', G⟩) : Tr X A ⟨F, N, G⟩ (pyNext (.ref it)) RO :=
  fun s E S => wpAny_pyNext_list_end hh (S.led hi) (ha.has S).isList (by simpa using hv) fun h' ex => ⟨⟨F, N', G⟩, At.ext S u ex, h⟩
theorem t_nextTup {it a : Addr} {vs : List Value} {i : Nat} {v : Value} (hi : (it, itT a i) ∈ N) (ha : Kn X ⟨F, N, G⟩ a (.tup vs)) (hv : vs[i]? = some v)
    (u : LUpd N it (itT a (i + 1)) N') (h : RO (some v) ⟨F, N', G⟩) : Tr X A ⟨F, N, G⟩ (pyNext (.ref it)) RO := fun s E S =>
  wpAny_pyNext_tuple_item (i := i) (S.led hi) (ha.has S).isTup (by simpa using hv) fun h' x sb => ⟨⟨F, N', G⟩, S.updT u sb x, h⟩
theorem t_nextTupEnd {it a : Addr} {vs : List Value} {i : Nat} (hh : A.handled = none) (hi : (it, itT a i) ∈ N) (ha : Kn X ⟨F, N, G⟩ a (.tup vs)) (hv : vs.length ≤ i)
    (u : Rem N (it, itT a i) N') (h : RO none ⟨F, N', G⟩) : Tr X A ⟨F, N, G⟩ (pyNext (.ref it)) RO :=
  fun s E S => wpAny_pyNext_tuple_end hh (S.led hi) (ha.has S).isTup (by simpa using hv) fun h' ex => ⟨⟨F, N', G⟩, At.ext S u ex, h⟩

/-- lists give their items -/
def elL (vs : List Value) (i : Nat) (v : Value) (new : List (Addr × OD)) : Prop := vs[i]? = some v ∧ new = []
theorem Kn.skip {p : Addr × OD} {a : Addr} {D : OD} (h : Kn X ⟨F, N, G⟩ a D) : Kn X ⟨F, p :: N, G⟩ a D := h.elim .inl fun h => h.elim (fun h => .inr (.inl (.tail _ h))) fun h => .inr (.inr h)
theorem itOk_list {it a : Addr} {vs : List Value} {J : Nat → Led → Prop} (hh : A.handled = none) (hk : ∀ i F N G, J i ⟨F, N, G⟩ → Kn X ⟨F, N, G⟩ a (.lst vs)) : ItOk X A it vs.length (itL a) (elL vs) J where
  item i F N G R hi hJ h := t_nextList (.head _) (hk i F N G hJ).skip (List.getElem?_eq_getElem hi) .head (h _ _ ⟨List.getElem?_eq_getElem hi, rfl⟩)
  fin F N G R hJ h := t_nextListEnd hh (.head _) (hk _ F N G hJ).skip (Nat.le_refl _) .head h
theorem itOk_tup {it a : Addr} {vs : List Value} {J : Nat → Led → Prop} (hh : A.handled = none) (hk : ∀ i F N G, J i ⟨F, N, G⟩ → Kn X ⟨F, N, G⟩ a (.tup vs)) : ItOk X A it vs.length (itT a) (elL vs) J where
  item i F N G R hi hJ h := t_nextTup (.head _) (hk i F N G hJ).skip (List.getElem?_eq_getElem hi) .head (h _ _ ⟨List.getElem?_eq_getElem hi, rfl⟩)
  fin F N G R hJ h := t_nextTupEnd hh (.head _) (hk _ F N G hJ).skip (Nat.le_refl _) .head h

/-! assignment of targets -/
theorem t_assignName {x : Str} {p : Pos} {v : Value} {R : Unit → Led → Prop} (h : Tr X A l (storeName env x v) R) : Tr X A l (assign (.Name x p) env v) R := fun s E S => wpAny_assign_Name (h s E S)
theorem t_goName {x : Str} {p : Pos} {it v : Value} {R : Unit → Led → Prop} (h : R () l) : Tr X A l (letOwnedTupleGo (.Name x p) it v) R := fun s E S => wpAny_pure ⟨l, S, h⟩

/-! comprehensions -/
def Opn (l : Led) (P : PH → List (Addr × OD) → Array GenState → Prop) : Prop := P l.F l.N l.G
theorem opn {P : PH → List (Addr × OD) → Array GenState → Prop} (h : P F N G) : Opn ⟨F, N, G⟩ P := h
def EndC (C : Addr) (R : Led → Prop) (l : Led) : Prop := ∃ fr N', Rem l.N (C, .ns fr) N' ∧ R ⟨l.F, N', l.G⟩
theorem endC {C : Addr} {R : Led → Prop} {fr : List (Str × Value)} (r : Rem N (C, .ns fr) N') (h : R ⟨F, N', G⟩) : EndC C R ⟨F, N, G⟩ := ⟨fr, N', r, h⟩
theorem new_envC {K : Frag} {mg mb : Str → Option Value} {O : OsState} {prog : Program} {w : World} {E : Value → Shared → Prop} {s : Shared} {scope : Scope} {cl : List (Str × Addr)} {Q : Env → Shared → Prop}
    (S : At K mg mb w.params F N G O s) (hc : cellNames scope.names = []) (h : ∀ C s', At K mg mb w.params F ((C, .ns []) :: N) G O s' → Q { compEnvC scope cl C env with scope := scope } s') :
    wpAny (model prog w) A (newFunctionEnv scope env.globals cl [] env.qual none .none (some env)) Q E s := by
  unfold newFunctionEnv
  refine wpAny_bind (wpAny_alloc ?_)
  refine cells_loop (N := (s.heap.objs.size, .ns []) :: N) scope.names cl _ Q (S.alloc (D := .ns []) (s' := { s with heap := _ }) ?_ rfl rfl rfl) fun cs s' hl S' => ?_
  · exact ⟨List.nodup_nil, #[], 0, rfl, fun e he => by simp at he, fun p hp => nomatch hp⟩
  · have hcs : cs = [] := List.length_eq_zero_iff.mp (by rw [hl, hc]; rfl)
    subst hcs
    rw [hc]
    exact binds_loop (β := Env) (env := { compEnvC scope cl s.heap.objs.size env with scope := scope }) (fun _ => pure { compEnvC scope cl s.heap.objs.size env with scope := scope }) Q [] (wpAny_pure (h _ s' S'))

theorem ns_of_row {K : Frag} {mg mb : Str → Option Value} {P : Params} {O : OsState} {s : Shared} {C : Addr} {fr : List (Str × Value)} (S : At K mg mb P F N G O s) (hN : (C, OD.ns fr) ∈ N) : ∃ m, s.heap.Ns C m := by
  obtain ⟨o, ho, _, es, n, hdt, hs, hl⟩ := S.led hN
  exact ⟨nsFind es, o, es, n, ho, hdt, hs, fun _ => rfl⟩
theorem At.but {K mg mb P O s} {a : Addr} {D : OD} (S : At K mg mb P F N G O s) (r : Rem N (a, D) N') {h' : Heap} (he : Heap.SameBut a s.heap h') : At K mg mb P F N' G O { s with heap := h' } :=
  At.ext S r (fun b o hb e => by rw [he.2 b hb]; exact e)

abbrev compGo (elt : Expr) (gens : List Comprehension) (scope : Scope) (pos : Pos) : Expr := .ListComp elt gens scope pos
theorem t_comp {e : Expr} {scope : Scope} {pos : Pos} {first : Sem Value} {g : Comprehension} {gs : List Comprehension} {cl : List (Str × Addr)}
    (hcl : clausesOf e = g :: gs) (hclos : closureFor scope env = pure cl) (hkind : scope.kind = .function)
    (hnames : ∀ x ∈ scope.names, x.2 = .local → scope.names.lookup x.1 = some .local) (hc : cellNames scope.names = [])
    (h : Tr X A l first fun x l1 => Tr X A l1 (pyIter x) fun it l2 => ∀ acc C, Cl X A ⟨l2.F, (C, .ns []) :: (acc, .lst []) :: l2.N, l2.G⟩ (.compStart e 0 it (.ref acc) (compEnvC scope cl C env))
      fun _ l3 => ∃ fr N', Rem l3.N (C, .ns fr) N' ∧ R (.ref acc) ⟨l3.F, N', l3.G⟩)
    (hs : ∀ x, foldedSetIterable g.iter env x = pure x) : Tr X A l (comprehension e scope env pos (newList []) false first none) R := by
  intro s E S
  refine wpAny_comprehension_free hcl hs hclos hkind hnames (h.use S fun x s1 l1 S1 h1 => h1.use S1 fun it s2 l2 S2 h2 => ?_)
  refine wpAny_newList ?_
  refine new_envC (At.allocT S2 (D := .lst []) ⟨rfl, ⟨rfl, rfl⟩, 0, rfl⟩) hc fun C s4 S4 => ?_
  refine h2 _ C s4 _ S4 fun f s5 l5 S5 ⟨fr, N', r, q⟩ => ?_
  obtain ⟨m, hm⟩ := ns_of_row S5 (r.mem _ (.head _))
  exact ⟨m, hm, fun h' sb => ⟨⟨l5.F, N', l5.G⟩, At.but S5 r sb, q⟩⟩
theorem t_compUse {e : Expr} {scope : Scope} {pos : Pos} {first : Sem Value} {g : Comprehension} {gs : List Comprehension} {cl : List (Str × Addr)} {u : Value → Sem Unit}
    (hcl : clausesOf e = g :: gs) (hclos : closureFor scope env = pure cl) (hkind : scope.kind = .function)
    (hnames : ∀ x ∈ scope.names, x.2 = .local → scope.names.lookup x.1 = some .local) (hc : cellNames scope.names = [])
    (h : Tr X A l first fun x l1 => Tr X A l1 (pyIter x) fun it l2 => ∀ acc C, Cl X A ⟨l2.F, (C, .ns []) :: (acc, .lst []) :: l2.N, l2.G⟩ (.compStart e 0 it (.ref acc) (compEnvC scope cl C env))
      fun _ l3 => Tr X A l3 (u (.ref acc)) fun _ l4 => ∃ fr N', Rem l4.N (C, .ns fr) N' ∧ R .none ⟨l4.F, N', l4.G⟩)
    (hs : ∀ x, foldedSetIterable g.iter env x = pure x) : Tr X A l (comprehension e scope env pos (newList []) false first (some u)) R := by
  intro s E S
  refine wpAny_comprehension_free hcl hs hclos hkind hnames (h.use S fun x s1 l1 S1 h1 => h1.use S1 fun it s2 l2 S2 h2 => ?_)
  refine wpAny_newList ?_
  refine new_envC (At.allocT S2 (D := .lst []) ⟨rfl, ⟨rfl, rfl⟩, 0, rfl⟩) hc fun C s4 S4 => ?_
  refine h2 _ C s4 _ S4 fun f s5 l5 S5 h5 => ?_
  refine Tr.use h5 S5 fun _ s6 l6 S6 ⟨fr, N', r, q⟩ => ?_
  obtain ⟨m, hm⟩ := ns_of_row S6 (r.mem _ (.head _))
  exact ⟨m, hm, fun h' sb => ⟨⟨l6.F, N', l6.G⟩, At.but S6 r sb, q⟩⟩
theorem t_ListComp {elt target iter : Expr} {ifs : List Expr} {rest : List Comprehension} {scope : Scope} {pos : Pos} {cl : List (Str × Addr)}
    (hclos : closureFor scope env = pure cl) (hkind : scope.kind = .function) (hnames : ∀ x ∈ scope.names, x.2 = .local → scope.names.lookup x.1 = some .local) (hc : cellNames scope.names = [])
    (h : Tr X A l (eval iter env) fun x l1 => Tr X A l1 (pyIter x) fun it l2 => Opn l2 fun F N G => ∀ acc C, Cl X A ⟨F, (C, .ns []) :: (acc, .lst []) :: N, G⟩ (.compStart (.ListComp elt (⟨target, iter, ifs, 0⟩ :: rest) scope pos) 0 it (.ref acc) (compEnvC scope cl C env))
      fun _ l3 => EndC C (R (.ref acc)) l3)
    (hs : ∀ x, foldedSetIterable iter env x = pure x) : Tr X A l (eval (.ListComp elt (⟨target, iter, ifs, 0⟩ :: rest) scope pos) env) R := by
  rw [eval_ListComp]
  exact t_comp rfl hclos hkind hnames hc h hs
theorem t_AssignComp {elt target iter : Expr} {ifs : List Expr} {rest : List Comprehension} {scope : Scope} {pos spos p : Pos} {y : Str} {cl : List (Str × Addr)} {R : Flow → Led → Prop}
    (hsw : swapsWith (.ListComp elt (⟨target, iter, ifs, 0⟩ :: rest) scope pos) (some (.Name y p)) spos.line env = pure true)
    (hclos : closureFor scope env = pure cl) (hkind : scope.kind = .function) (hnames : ∀ x ∈ scope.names, x.2 = .local → scope.names.lookup x.1 = some .local) (hc : cellNames scope.names = [])
    (h : Tr X A l (eval iter env) fun x l1 => Tr X A l1 (pyIter x) fun it l2 => Opn l2 fun F N G => ∀ acc C, Cl X A ⟨F, (C, .ns []) :: (acc, .lst []) :: N, G⟩ (.compStart (.ListComp elt (⟨target, iter, ifs, 0⟩ :: rest) scope pos) 0 it (.ref acc) (compEnvC scope cl C env))
      fun _ l3 => Tr X A l3 (storeName env y (.ref acc)) fun _ l4 => EndC C (R .next) l4)
    (hs : ∀ x, foldedSetIterable iter env x = pure x) : Tr X A l (exec (.Assign [.Name y p] (.ListComp elt (⟨target, iter, ifs, 0⟩ :: rest) scope pos) spos) env) R := by
  rw [exec_Assign_Name_used _ _ _ _ hsw]
  refine tr_bind (m := standAt spos) fun s E S => wpAny_standAt ⟨l, S, ?_⟩
  refine tr_bind (m := evalThenUse _ _ _) ?_
  show Tr X A l (comprehension _ scope env _ (newList []) false (eval iter env) (some (assign (.Name y p) env)) >>= fun _ => pure ()) _
  refine tr_bind (t_compUse (R := fun v l' => v = .none ∧ R .next l') rfl hclos hkind hnames hc (h.mono fun x l1 h1 => h1.mono fun it l2 h2 acc C => (h2 acc C).mono fun _ l3 h3 => t_assignName (h3.mono fun _ l4 ⟨fr, N', r, q⟩ => ⟨fr, N', r, rfl, q⟩)) hs |>.mono fun v l' q => ?_)
  exact tr_pure (tr_pure q.2)

theorem cl_compStart {elt target iter : Expr} {ifs : List Expr} {rest : List Comprehension} {scope : Scope} {pos : Pos} {it acc : Value} {R : Flow → Led → Prop}
    (h0 : Cl X A l (.compLoop (.ListComp elt (⟨target, iter, ifs, 0⟩ :: rest) scope pos) 0 it acc env) R)
    (h : Tr X A l (pyIter it) fun it' l' => Cl X A l' (.compLoop (.ListComp elt (⟨target, iter, ifs, 0⟩ :: rest) scope pos) 0 it' acc env) R) :
    Cl X A l (.compStart (.ListComp elt (⟨target, iter, ifs, 0⟩ :: rest) scope pos) 0 it acc env) R :=
  fun s R' S k => codeAny_compStart_list (h0 s R' S k) (h.use S fun it' s' l' S' h' => h' s' R' S' k)
/-- one turn of a comprehension of one clause without a test -/
theorem cl_comp1 {elt target iter : Expr} {scope : Scope} {pos : Pos} {it acc : Value} {R : Flow → Led → Prop}
    (h : Tr X A l (pyNext it) fun r l1 => match r with
      | none => R .next l1
      | some v => Tr X A l1 (letOwnedTupleGo target it v) fun _ l2 => Tr X A l2 (assign target env v) fun _ l3 => Tr X A l3 (eval elt env) fun x l4 => Tr X A l4 (call (.builtin "list.append") [acc, x]) fun _ l5 =>
          Cl X A l5 (.compLoop (.ListComp elt [⟨target, iter, [], 0⟩] scope pos) 0 it acc env) R) :
    Cl X A l (.compLoop (.ListComp elt [⟨target, iter, [], 0⟩] scope pos) 0 it acc env) R := by
  intro s R' S k
  refine codeAny_of_tree ?_
  show wpAny _ _ ((compTurn (.ListComp elt [⟨target, iter, [], 0⟩] scope pos) 0 it acc env).onRaise (fun x => do noteFrame x env; theTreesLotGoes x)) _ _ s
  refine wpAny_noted ?_
  rw [compTurn_list1]
  refine wpAny_bind (wpAny_standAt (wpAny_bind (h.use S fun r s1 l1 S1 h1 => ?_)))
  cases r with
  | none => exact wpAny_pure (k _ _ l1 S1 h1)
  | some v =>
    refine wpAny_bind (Tr.use h1 S1 fun _ s2 l2 S2 h2 => wpAny_bind (h2.use S2 fun _ s3 l3 S3 h3 => wpAny_bind (wpAny_bind (h3.use S3 fun x s4 l4 S4 h4 => wpAny_bind (h4.use S4 fun _ s5 l5 S5 h5 => ?_)))))
    exact wpAny_pure (wpAny_pure ⟨rfl, h5 s5 R' S5 k⟩)
theorem compTurn_list1ifs (elt target iter : Expr) (ifs : List Expr) (scope : Scope) (pos : Pos) (it acc : Value) (env : Env) :
    compTurn (.ListComp elt [⟨target, iter, ifs, 0⟩] scope pos) 0 it acc env = (standAt iter.pos >>= fun _ => pyNext it >>= fun r => match r with
      | none => pure (.done .next)
      | some v => letOwnedTupleGo target it v >>= fun _ => assign target env v >>= fun _ =>
        (forIn ifs true fun c r => if r = true then do let ok ← isTrue c env (eval c env); pure (ForInStep.yield ok) else pure (ForInStep.yield r)) >>= fun ok =>
        if ok = true then (eval elt env >>= fun x => call (.builtin "list.append") [acc, x] >>= fun _ => pure ()) >>= fun _ =>
          again (.compLoop (.ListComp elt [⟨target, iter, ifs, 0⟩] scope pos) 0 it acc env) else again (.compLoop (.ListComp elt [⟨target, iter, ifs, 0⟩] scope pos) 0 it acc env)) := rfl
/-- one turn of a comprehension of one clause with one test -/
theorem cl_comp1if {elt target iter c : Expr} {scope : Scope} {pos : Pos} {it acc : Value} {R : Flow → Led → Prop}
    (h : Tr X A l (pyNext it) fun r l1 => match r with
      | none => R .next l1
      | some v => Tr X A l1 (letOwnedTupleGo target it v) fun _ l2 => Tr X A l2 (assign target env v) fun _ l3 => Tr X A l3 (isTrue c env (eval c env)) fun b l4 =>
          if b = true then Tr X A l4 (eval elt env) fun x l5 => Tr X A l5 (call (.builtin "list.append") [acc, x]) fun _ l6 => Cl X A l6 (.compLoop (.ListComp elt [⟨target, iter, [c], 0⟩] scope pos) 0 it acc env) R
          else Cl X A l4 (.compLoop (.ListComp elt [⟨target, iter, [c], 0⟩] scope pos) 0 it acc env) R) :
    Cl X A l (.compLoop (.ListComp elt [⟨target, iter, [c], 0⟩] scope pos) 0 it acc env) R := by
  intro s R' S k
  refine codeAny_of_tree ?_
  show wpAny _ _ ((compTurn (.ListComp elt [⟨target, iter, [c], 0⟩] scope pos) 0 it acc env).onRaise (fun x => do noteFrame x env; theTreesLotGoes x)) _ _ s
  refine wpAny_noted ?_
  rw [compTurn_list1ifs]
  refine wpAny_bind (wpAny_standAt (wpAny_bind (h.use S fun r s1 l1 S1 h1 => ?_)))
  cases r with
  | none => exact wpAny_pure (k _ _ l1 S1 h1)
  | some v =>
    refine wpAny_bind (Tr.use h1 S1 fun _ s2 l2 S2 h2 => wpAny_bind (h2.use S2 fun _ s3 l3 S3 h3 => ?_))
    simp only [List.forIn_cons, List.forIn_nil, if_true, bind_assoc, pure_bind]
    refine wpAny_bind (h3.use S3 fun b s4 l4 S4 h4 => ?_)
    cases b with
    | true =>
      rw [if_pos rfl] at h4 ⊢
      refine wpAny_bind (h4.use S4 fun x s5 l5 S5 h5 => wpAny_bind (h5.use S5 fun _ s6 l6 S6 h6 => ?_))
      exact wpAny_pure ⟨rfl, h6 s6 R' S6 k⟩
    | false =>
      rw [if_neg Bool.false_ne_true] at h4 ⊢
      exact wpAny_pure ⟨rfl, h4 s4 R' S4 k⟩
theorem compTurn_list2 (elt t0 i0 t1 i1 : Expr) (scope : Scope) (pos : Pos) (it acc : Value) (env : Env) :
    compTurn (.ListComp elt [⟨t0, i0, [], 0⟩, ⟨t1, i1, [], 0⟩] scope pos) 0 it acc env = (standAt i0.pos >>= fun _ => pyNext it >>= fun r => match r with
      | none => pure (.done .next)
      | some v => letOwnedTupleGo t0 it v >>= fun _ => assign t0 env v >>= fun _ => eval i1 env >>= fun x => standAt i1.pos >>= fun _ => foldedSetIterable i1 env x >>= fun x => holding [x] (pyIter x) >>= fun it' =>
        runOwn (.compStart (.ListComp elt [⟨t0, i0, [], 0⟩, ⟨t1, i1, [], 0⟩] scope pos) 1 it' acc env) env >>= fun _ => again (.compLoop (.ListComp elt [⟨t0, i0, [], 0⟩, ⟨t1, i1, [], 0⟩] scope pos) 0 it acc env)) := rfl
theorem compTurn_list21 (elt t0 i0 t1 i1 : Expr) (scope : Scope) (pos : Pos) (it acc : Value) (env : Env) :
    compTurn (.ListComp elt [⟨t0, i0, [], 0⟩, ⟨t1, i1, [], 0⟩] scope pos) 1 it acc env = (standAt i1.pos >>= fun _ => pyNext it >>= fun r => match r with
      | none => pure (.done .next)
      | some v => letOwnedTupleGo t1 it v >>= fun _ => assign t1 env v >>= fun _ => (eval elt env >>= fun x => call (.builtin "list.append") [acc, x] >>= fun _ => pure ()) >>= fun _ =>
        again (.compLoop (.ListComp elt [⟨t0, i0, [], 0⟩, ⟨t1, i1, [], 0⟩] scope pos) 1 it acc env)) := rfl
end
end Mine

open PySem PySem.W PyProof.Rows PySem.Calls PySem.Builtin.ObjectAttr
set_option maxRecDepth 100000
set_option Elab.async false
set_option autoImplicit false
set_option linter.unusedVariables false
namespace Mine
theorem At.keep0 {K mg mb P F G O s} {N : List (Addr × OD)} (S : At K mg mb P F N G O s) {h' : Heap} (k : ∀ b o, s.heap.get? b = some o → h'.get? b = some o) {dr : Drawn} {t : Nat} : At K mg mb P F N G O ⟨h', s.gens, dr, t, s.os⟩ :=
  ⟨S.top, fun b x e => k _ _ (S.fz b x e), fun p hp => let ⟨h1, x, hx, q⟩ := S.nw p hp; ⟨h1, x, k _ _ hx, q⟩, S.nd, S.gn, S.os⟩
theorem At.keep1 {K mg mb P F G O s} {N : List (Addr × OD)} (S : At K mg mb P F N G O s) {h' : Heap} (k : ∀ b o, s.heap.get? b = some o → h'.get? b = some o) {a : Addr} {D : OD} (ha : s.heap.objs.size ≤ a) (hD : Has P h' a D) {dr : Drawn} {t : Nat} :
    At K mg mb P F ((a, D) :: N) G O ⟨h', s.gens, dr, t, s.os⟩ := by
  have S' := S.keep0 k (dr := dr) (t := t)
  have old : ∀ b o, s.heap.get? b = some o → b ≠ a := fun b o e q => absurd (q ▸ Heap.lt_size e) (Nat.not_lt.mpr ha)
  refine ⟨S.top, S'.fz, fun p hp => ?_, ?_, S.gn, S.os⟩
  · rcases List.mem_cons.mp hp with rfl | hp
    · refine ⟨⟨?_, ?_⟩, hD⟩
      · obtain ⟨_, _, _, hg, _⟩ := S.top.g
        exact Nat.lt_of_lt_of_le (Nat.lt_trans (by decide) (Heap.lt_size (S.fz _ _ hg))) ha
      · show F a = none
        cases h : F a with
        | none => rfl
        | some o => exact absurd rfl (old a o (S.fz _ _ h))
    · exact S'.nw p hp
  · rw [List.map_cons]
    refine List.nodup_cons.mpr ⟨fun h => ?_, S.nd⟩
    obtain ⟨p, hp, e⟩ := List.mem_map.mp h
    obtain ⟨_, o, ho, _⟩ := S.nw p hp
    exact old _ _ ho e

section
variable {α β : Type} {X : Cx} {A : Around} {l : Led} {env : Env}
variable {F : PH} {N N' : List (Addr × OD)} {G : Array GenState}
variable {R : Value → Led → Prop} {RB : Bool → Led → Prop} {RO : Option Value → Led → Prop} {x y : Str} {t u : Tok}

/-- a callee and its arguments are there -/
def CallP (X : Cx) (A : Around) (l : Led) (f : Value) (first : List Value) (a : Args) (R : Value → Led → Prop) : Prop := Callee X l f ∧ Tr X A l (call f (first ++ a.pos) a.kw) R
theorem t_callWithP {pos : Pos} {f : Value} {first : List Value} {args : List (Bool × Sem Value)} (h : Tr X A l (evalArgs f true args []) fun a l1 => CallP X A l1 f first a R) : Tr X A l (callWith pos f first args []) R := t_callWith h
theorem cp0 {f : Value} {vs : List Value} {kw : List (Str × Value)} (hc : Callee X l f) (h : Tr X A l (call f vs kw) R) : CallP X A l f [] ⟨vs, kw⟩ R := ⟨hc, h⟩
theorem cp1 {f v : Value} {vs : List Value} {kw : List (Str × Value)} (hc : Callee X l f) (h : Tr X A l (call f (v :: vs) kw) R) : CallP X A l f [v] ⟨vs, kw⟩ R := ⟨hc, h⟩

/-! comprehension starts -/
section
variable {elt target iter : Expr} {ifs : List Expr} {rest : List Comprehension} {scope : Scope} {pos : Pos} {acc : Value} {RF : Flow → Led → Prop}
theorem cs_list {it a : Addr} {i : Nat} (hi : (it, itL a i) ∈ N) (h : Cl X A ⟨F, N, G⟩ (.compLoop (.ListComp elt (⟨target, iter, ifs, 0⟩ :: rest) scope pos) 0 (.ref it) acc env) RF) :
    Cl X A ⟨F, N, G⟩ (.compStart (.ListComp elt (⟨target, iter, ifs, 0⟩ :: rest) scope pos) 0 (.ref it) acc env) RF := cl_compStart h (t_iterListIter hi h)
theorem cs_tup {it a : Addr} {i : Nat} (hi : (it, itT a i) ∈ N) (h : Cl X A ⟨F, N, G⟩ (.compLoop (.ListComp elt (⟨target, iter, ifs, 0⟩ :: rest) scope pos) 0 (.ref it) acc env) RF) :
    Cl X A ⟨F, N, G⟩ (.compStart (.ListComp elt (⟨target, iter, ifs, 0⟩ :: rest) scope pos) 0 (.ref it) acc env) RF := cl_compStart h (t_iterTupIter hi h)
end

/-! strs -/
/-- values that are these strs -/
inductive Strs : List Str → List Value → Prop
  | nil : Strs [] []
  | cons {x t xs vs} : Strs xs vs → Strs (x :: xs) (.str x t :: vs)
theorem Strs.toks {xs : List Str} {vs : List Value} (h : Strs xs vs) : ∃ l : List (Str × Tok), strValues l = vs ∧ l.map (·.1) = xs := by
  induction h with
  | nil => exact ⟨[], rfl, rfl⟩
  | @cons x t xs vs _ ih => obtain ⟨l, h1, h2⟩ := ih; exact ⟨(x, t) :: l, by rw [← h1]; rfl, by rw [← h2]; rfl⟩
theorem t_join {a : Addr} {vs : List Value} {xs : List Str} (ha : Kn X l a (.lst vs)) (hs : Strs xs vs) (hz : JoinOk x xs = true) (h : ∀ t, R (.str (Txt.join x xs) t) l) : Tr X A l (call (.builtin "str.join") [.str x t, .ref a]) R := by
  obtain ⟨ps, rfl, e⟩ := hs.toks
  exact fun s E S => SC.join (ha.has S).isList e hz fun t' k => ⟨l, S.same rfl rfl rfl, h _⟩
theorem tt_str1 {c : Nat} (h : RB true l) : Tr X A l (truthy (.str ⟨#[c]⟩ t)) RB := tt_str (by show 1 ≤ _; decide) h
theorem t_len1 {c : Nat} (h : ∀ t, R (.int 1 t) l) : Tr X A l (call (.builtin "len") [.str ⟨#[c]⟩ t]) R := t_len (by show 1 ≤ _; decide) h

/-! types -/
theorem typ_str {x : Str} {t : Tok} : ∀ (M : Model) (h : Heap), Looks M h (typeOf (.str x t)) (.type "str") := fun M h => Looks.of_pure rfl
theorem tin_strF {C : Addr} (e : isNotIn X.K "str" C = true) (h : R (.bool false) l) : Tr X A l (call (.builtin "isinstance") [.str x t, .ref C]) R :=
  fun s E S => isn_call (P := fun _ => True) S.inK (fun M => Looks.of_pure rfl) e (fun q => nomatch q) trivial str_cls ⟨l, S.same rfl rfl rfl, h⟩
theorem tin_intF {C : Addr} {i : Int} (e : isNotIn X.K "int" C = true) (h : R (.bool false) l) : Tr X A l (call (.builtin "isinstance") [.int i t, .ref C]) R :=
  fun s E S => isn_call (P := fun _ => True) S.inK (fun M => Looks.of_pure rfl) e (fun q => nomatch q) trivial int_cls ⟨l, S.same rfl rfl rfl, h⟩
theorem tup_type {a : Addr} {vs : List Value} {s} (ha : Kn X l a (.tup vs)) (S : X.At l s) : s.TypeIs (.ref a) "tuple" := let ⟨o, ho, hc, _⟩ := ha.has S; ⟨o, ho, hc⟩
theorem tin_tupF {C a : Addr} {vs : List Value} (ha : Kn X l a (.tup vs)) (e : isNotIn X.K "tuple" C = true) (h : R (.bool false) l) : Tr X A l (call (.builtin "isinstance") [.ref a, .ref C]) R := fun s E S => by
  obtain ⟨o, ho, hc, _⟩ := ha.has S
  refine isn_call (P := fun h => ∃ o, h.get? a = some o ∧ o.cls = .type "tuple") S.inK (fun M => ?_) e (fun q => nomatch q) ⟨o, ho, hc⟩ tuple_cls ⟨l, S.same rfl rfl rfl, h⟩
  have q := (Looks.ld (M := M) (part := some headPart) ho).andThen (f := fun ob => pure ob.cls) (Looks.of_pure rfl)
  rw [hc] at q
  exact q
theorem tin_strstr (h : R (.bool true) l) : Tr X A l (call (.builtin "isinstance") [.str x t, .type "str"]) R :=
  fun s E S => PySem.IsiPair.str_str ⟨l, S, h⟩
theorem tin_inttup {i : Int} (h : R (.bool false) l) : Tr X A l (call (.builtin "isinstance") [.int i t, .type "tuple"]) R := fun s E S => PySem.IsiPair.int_tuple ⟨l, S.same rfl rfl rfl, h⟩
theorem tin_intint {i : Int} (h : R (.bool true) l) : Tr X A l (call (.builtin "isinstance") [.int i t, .type "int"]) R := fun s E S => PySem.IsiPair.int_int ⟨l, S, h⟩
theorem tin_tupstr {a : Addr} {vs : List Value} (ha : Kn X l a (.tup vs)) (h : R (.bool false) l) : Tr X A l (call (.builtin "isinstance") [.ref a, .type "str"]) R :=
  fun s E S => PySem.IsiPair.isTuple_str (ha.has S).isTup (fun _ _ e => e) ⟨l, S.same rfl rfl rfl, h⟩
theorem tin_tuptup {a : Addr} {vs : List Value} (ha : Kn X l a (.tup vs)) (h : R (.bool true) l) : Tr X A l (call (.builtin "isinstance") [.ref a, .type "tuple"]) R :=
  fun s E S => PySem.IsiPair.isTuple_tuple (ha.has S).isTup (fun _ _ e => e) ⟨l, S, h⟩
theorem ty_own {x C d : Addr} {fs : List (Str × Value)} (hx : Kn X l x (.inst C d)) (hd : Kn X l d (.fld fs)) (h : R (.ref C) l) : Tr X A l (call (.type "type") [.ref x]) R := fun s E S => by
  obtain ⟨ox, od, I, _⟩ := instAt_of (hx.has S) (hd.has S)
  exact kto_own I ⟨l, S, h⟩
theorem ty_tup {a : Addr} {vs : List Value} (ha : Kn X l a (.tup vs)) (h : R (.type "tuple") l) : Tr X A l (call (.type "type") [.ref a]) R :=
  fun s E S => call_type_of (tup_type ha S) (by decide) ⟨l, S, h⟩

/-! lists and tuples made -/
theorem t_listOfList {a : Addr} {vs : List Value} (ha : Kn X ⟨F, N, G⟩ a (.lst vs)) (hz : vs.length ≤ 1000000) (h : ∀ b, R (.ref b) ⟨F, (b, .lst vs) :: N, G⟩) : Tr X A ⟨F, N, G⟩ (call (.type "list") [.ref a]) R := fun s E S => by
  obtain ⟨o, ho, hc, hdn, n, hd⟩ := ha.has S
  refine call_list_seq a (.inl rfl) ho hc hd (fun h' c' k g => ?_) (by simp [sizeLine]; omega)
  exact ⟨⟨F, (s.heap.objs.size, .lst vs) :: N, G⟩, At.keep1 S k (D := .lst vs) (Nat.le_refl _) ⟨_, g, rfl, ⟨rfl, rfl⟩, c', rfl⟩, h _⟩
theorem t_listOfTup {a : Addr} {vs : List Value} (ha : Kn X ⟨F, N, G⟩ a (.tup vs)) (hz : vs.length ≤ 1000000) (h : ∀ b, R (.ref b) ⟨F, (b, .lst vs) :: N, G⟩) : Tr X A ⟨F, N, G⟩ (call (.type "list") [.ref a]) R := fun s E S => by
  obtain ⟨o, ho, hc, hdn, n, hd⟩ := ha.has S
  refine call_list_seq a (.inr rfl) ho hc hd (fun h' c' k g => ?_) (by simp [sizeLine]; omega)
  exact ⟨⟨F, (s.heap.objs.size, .lst vs) :: N, G⟩, At.keep1 S k (D := .lst vs) (Nat.le_refl _) ⟨_, g, rfl, ⟨rfl, rfl⟩, c', rfl⟩, h _⟩
theorem t_tupOfList {a : Addr} {vs : List Value} (ha : Kn X ⟨F, N, G⟩ a (.lst vs)) (hz : vs.length ≤ 1000000) (h : ∀ b, R (.ref b) ⟨F, (b, .tup vs) :: N, G⟩) : Tr X A ⟨F, N, G⟩ (call (.type "tuple") [.ref a]) R := fun s E S => by
  refine call_tuple_list (ha.has S).isList (fun h' k => ?_) (by simp [sizeLine]; omega)
  have S' := At.keep0 S k (dr := s.drawn) (t := s.toks)
  exact ⟨⟨F, (h'.objs.size, .tup vs) :: N, G⟩, At.allocT S' (D := .tup vs) ⟨rfl, rfl, 0, rfl⟩, h _⟩

/-! dicts -/
theorem t_dictGet2 {a : Addr} {kvs : List (Str × Value)} {v : Value} (ha : Kn X l a (.dic kvs)) (h : R ((valueAt kvs x).getD v) l) : Tr X A l (call (.builtin "dict.get") [.ref a, .str x t, v]) R := fun s E S =>
  call_meetsIn F.slot_dict_get ((ha.has S).dictOf (prog := X.prog)).typeIs F.entry_dict_get (F.args_dict_get_3 _ _ _) (meets_dict_get_default (strKind X.prog X.w) a (strKind_is X.prog X.w x t) (ha.notSys S) v)
    ⟨_, ((ha.has S).dictOf (prog := X.prog)).mapOf, ⟨l, S.same rfl rfl rfl, h⟩⟩
theorem t_dictGet1 {a : Addr} {kvs : List (Str × Value)} (ha : Kn X l a (.dic kvs)) (h : R ((valueAt kvs x).getD .none) l) : Tr X A l (call (.builtin "dict.get") [.ref a, .str x t]) R := fun s E S =>
  call_meetsIn F.slot_dict_get ((ha.has S).dictOf (prog := X.prog)).typeIs F.entry_dict_get (F.args_dict_get_2 _ _) (meets_dict_get (strKind X.prog X.w) a (strKind_is X.prog X.w x t) (ha.notSys S))
    ⟨_, ((ha.has S).dictOf (prog := X.prog)).mapOf, ⟨l, S.same rfl rfl rfl, h⟩⟩
theorem t_newDict (h : ∀ a, R (.ref a) ⟨F, (a, .dic []) :: N, G⟩) : Tr X A ⟨F, N, G⟩ newDict R := fun s E S => by
  unfold newDict
  exact wpAny_newObj_type ⟨⟨F, (s.heap.objs.size, .dic []) :: N, G⟩, At.allocT S (D := .dic []) ⟨⟨rfl, rfl, rfl⟩, List.nodup_nil, #[], 0, rfl, .nil⟩, h _⟩
end
end Mine

open PySem PySem.W PyProof.Rows PySem.Calls PySem.Builtin.ObjectAttr
set_option maxRecDepth 100000
set_option Elab.async false
set_option autoImplicit false
set_option linter.unusedVariables false
namespace Mine
structure Rm (A : Around) (n : Nat) : Prop where
  hd : A.handled = none
  dep : A.depth + n < recursionLimit
  un : A.units + 10 * n < cLine
theorem Rm.dp {A : Around} {n : Nat} {env : Env} (h : Rm A (n + 1)) : Rm (A.deeper env) n := ⟨h.hd, by have := h.dep; show A.depth + 1 + n < _; omega, by have := h.un; show A.units + 3 + 10 * n < _; omega⟩
theorem Rm.mk' {A : Around} {n : Nat} {C : Addr} {vs : List Value} {kw : List (Str × Value)} (h : Rm A (n + 1)) : Rm (A.under (.builtin "type.__call__" ⟨.ref C :: vs, kw⟩)) n := by
  have hw : (Code.builtin "type.__call__" ⟨.ref C :: vs, kw⟩).weight = 1 := by rfl
  have hu : (Code.builtin "type.__call__" ⟨.ref C :: vs, kw⟩).cUnits = 1 := rfl
  exact ⟨h.hd, by have := h.dep; show A.depth + (Code.builtin "type.__call__" ⟨.ref C :: vs, kw⟩).weight + n < _; rw [hw]; omega, by have := h.un; show A.units + (Code.builtin "type.__call__" ⟨.ref C :: vs, kw⟩).cUnits + 10 * n < _; omega⟩
theorem Rm.le {A : Around} {n m : Nat} (h : Rm A n) (k : m ≤ n) : Rm A m := ⟨h.hd, by have := h.dep; omega, by have := h.un; omega⟩
theorem Rm.room {A : Around} {n : Nat} (h : Rm A n) : A.depth < recursionLimit := by have := h.dep; omega
theorem Rm.un0 {A : Around} {n : Nat} (h : Rm A n) : A.units < cLine := by have := h.un; omega
theorem rm_caller (env : Env) : Rm (callerA.deeper env) 500 := ⟨rfl, by show 1 + claimMargin + 1 + 500 < recursionLimit; decide, by show 4 + 3 + 10 * 500 < cLine; decide⟩
theorem bl_len : bootBuiltins "len" = some (.builtin "len") := by kernel_rfl!
theorem bl_isinstance : bootBuiltins "isinstance" = some (.builtin "isinstance") := by kernel_rfl!
theorem bl_type : bootBuiltins "type" = some (.type "type") := by kernel_rfl!
theorem bl_list : bootBuiltins "list" = some (.type "list") := by kernel_rfl!
theorem bl_tuple : bootBuiltins "tuple" = some (.type "tuple") := by kernel_rfl!
theorem bl_range : bootBuiltins "range" = some (.type "range") := by kernel_rfl!
theorem bl_str : bootBuiltins "str" = some (.type "str") := by kernel_rfl!
theorem bl_int : bootBuiltins "int" = some (.type "int") := by kernel_rfl!
theorem bl_abs : bootBuiltins "abs" = some (.builtin "abs") := by kernel_rfl!
theorem bl_sum : bootBuiltins "sum" = some (.builtin "sum") := by kernel_rfl!
theorem bl_enumerate : bootBuiltins "enumerate" = some (.type "enumerate") := by kernel_rfl!
theorem bl_zip : bootBuiltins "zip" = some (.type "zip") := by kernel_rfl!
theorem bl_max : bootBuiltins "max" = some (.builtin "max") := by kernel_rfl!
theorem bl_min : bootBuiltins "min" = some (.builtin "min") := by kernel_rfl!
theorem bl_divmod : bootBuiltins "divmod" = some (.builtin "divmod") := by kernel_rfl!
theorem bl_callable : bootBuiltins "callable" = some (.builtin "callable") := by kernel_rfl!
theorem join1 (x : Str) : Txt.join "" [x] = x := rfl
theorem t_join1 {X : Cx} {A : Around} {l : Led} {t u : Tok} {x : Str} {R : Value → Led → Prop} {a : Addr} (ha : Kn X l a (.lst [.str x u])) (hz : x.length ≤ 1000000) (h : ∀ t, R (.str x t) l) : Tr X A l (call (.builtin "str.join") [.str "" t, .ref a]) R :=
  t_join ha (.cons .nil) (by
    have e : (Str.ofString "").length = 0 := rfl
    have q : (!Builtin.Str.tooLong (0 + x.length + (Str.ofString "").length)) = true := by
      rw [e]
      have : ¬ (0 + x.length + 0 > sizeLine) := by unfold sizeLine; omega
      show (!decide (0 + x.length + 0 > sizeLine)) = true
      rw [decide_eq_false this]; rfl
    exact q) fun t => h t
theorem t_join11 {X : Cx} {A : Around} {l : Led} {t u : Tok} {c : Nat} {R : Value → Led → Prop} {a : Addr} (ha : Kn X l a (.lst [.str ⟨#[c]⟩ u])) (h : ∀ t, R (.str ⟨#[c]⟩ t) l) : Tr X A l (call (.builtin "str.join") [.str "" t, .ref a]) R :=
  t_join1 ha (by show 1 ≤ _; decide) h
section
variable {X : Cx} {A : Around} {l : Led} {x : Str} {t : Tok} {pl : Sem Bool} {R : Value × List Value → Led → Prop}
theorem ms_join (h : R (.builtin "str.join", [.str x t]) l) : Tr X A l (getMethod (.str x t) "join" pl) R := by with_reducible exact t_methStr PySem.F.slot_str_join PySem.F.type_str_join h
theorem ms_split (h : R (.builtin "str.split", [.str x t]) l) : Tr X A l (getMethod (.str x t) "split" pl) R := by with_reducible exact t_methStr PySem.F.slot_str_split PySem.F.type_str_split h
theorem ms_index (h : R (.builtin "str.index", [.str x t]) l) : Tr X A l (getMethod (.str x t) "index" pl) R := by with_reducible exact t_methStr PySem.F.slot_str_index PySem.F.type_str_index h
theorem ms_upper (h : R (.builtin "str.upper", [.str x t]) l) : Tr X A l (getMethod (.str x t) "upper" pl) R := by with_reducible exact t_methStr PySem.F.slot_str_upper PySem.F.type_str_upper h
theorem ms_isupper (h : R (.builtin "str.isupper", [.str x t]) l) : Tr X A l (getMethod (.str x t) "isupper" pl) R := by with_reducible exact t_methStr PySem.F.slot_str_isupper PySem.F.type_str_isupper h
theorem ml_append {a : Addr} {vs : List Value} (ha : Kn X l a (.lst vs)) (h : R (.builtin "list.append", [.ref a]) l) : Tr X A l (getMethod (.ref a) "append" pl) R := by with_reducible exact t_methList ha PySem.F.slot_list_append PySem.F.type_list_append h
theorem ml_pop {a : Addr} {vs : List Value} (ha : Kn X l a (.lst vs)) (h : R (.builtin "list.pop", [.ref a]) l) : Tr X A l (getMethod (.ref a) "pop" pl) R := by with_reducible exact t_methList ha PySem.F.slot_list_pop PySem.F.type_list_pop h
theorem md_get {a : Addr} {kvs : List (Str × Value)} (ha : Kn X l a (.dic kvs)) (h : R (.builtin "dict.get", [.ref a]) l) : Tr X A l (getMethod (.ref a) "get" pl) R := by with_reducible exact t_methDict ha PySem.F.slot_dict_get PySem.F.type_dict_get h
theorem md_items {a : Addr} {kvs : List (Str × Value)} (ha : Kn X l a (.dic kvs)) (h : R (.builtin "dict.items", [.ref a]) l) : Tr X A l (getMethod (.ref a) "items" pl) R := by with_reducible exact t_methDict ha PySem.F.slot_dict_items PySem.F.type_dict_items h
theorem t_append0 {F : PH} {N N' : List (Addr × OD)} {G : Array GenState} {R : Value → Led → Prop} {a : Addr} {x : Value} (ha : (a, OD.lst []) ∈ N) (u : LUpd N a (.lst [x]) N') (h : R .none ⟨F, N', G⟩) : Tr X A ⟨F, N, G⟩ (call (.builtin "list.append") [.ref a, x]) R := t_append ha u (by decide) h
theorem t_append1 {F : PH} {N N' : List (Addr × OD)} {G : Array GenState} {R : Value → Led → Prop} {a : Addr} {x y : Value} (ha : (a, OD.lst [y]) ∈ N) (u : LUpd N a (.lst [y, x]) N') (h : R .none ⟨F, N', G⟩) : Tr X A ⟨F, N, G⟩ (call (.builtin "list.append") [.ref a, x]) R := t_append ha u (by show 1 ≤ _; decide) h
theorem t_append2 {F : PH} {N N' : List (Addr × OD)} {G : Array GenState} {R : Value → Led → Prop} {a : Addr} {x y z : Value} (ha : (a, OD.lst [z, y]) ∈ N) (u : LUpd N a (.lst [z, y, x]) N') (h : R .none ⟨F, N', G⟩) : Tr X A ⟨F, N, G⟩ (call (.builtin "list.append") [.ref a, x]) R := t_append ha u (by show 2 ≤ _; decide) h
theorem if_T {b : Bool} {p q : Prop} (e : b = true) (h : p) : if (b = true) then p else q := by rw [if_pos e]; exact h
theorem if_F {b : Bool} {p q : Prop} (e : b = false) (h : q) : if (b = true) then p else q := by rw [if_neg (by rw [e]; exact Bool.false_ne_true)]; exact h
end
section
variable {X : Cx} {A : Around} {l : Led} {x : Str} {t ti tj : Tok} {R : Value → Led → Prop} {c : Addr} {i j : Int}
theorem t_slice2 (a b : Nat) (hc : Kn X l c (.raw { cls := .type "slice", data := .fields #[.int i ti, .int j tj, .none] })) (hi : i = a) (hj : j = b) (hz : x.length ≤ 1000000) (h : ∀ t, R (.str (cut x a b) t) l) :
    Tr X A l (getItem (.str x t) (.ref c)) R := t_getSlice (p := some (i, ti)) (q := some (j, tj)) hc hi hj hz h
theorem t_sliceLo (a : Nat) (hc : Kn X l c (.raw { cls := .type "slice", data := .fields #[.int i ti, .none, .none] })) (hi : i = a) (hz : x.length ≤ 1000000) (h : ∀ t, R (.str (cut x a x.length) t) l) :
    Tr X A l (getItem (.str x t) (.ref c)) R := t_getSlice (p := some (i, ti)) (q := none) hc hi rfl hz h
theorem t_sliceHi (b : Nat) (hc : Kn X l c (.raw { cls := .type "slice", data := .fields #[.none, .int j tj, .none] })) (hj : j = b) (hz : x.length ≤ 1000000) (h : ∀ t, R (.str (cut x 0 b) t) l) :
    Tr X A l (getItem (.str x t) (.ref c)) R := t_getSlice (p := none) (q := some (j, tj)) hc rfl hj hz h
end
theorem cut_one (x : Str) (p c : Nat) : (cut x p (p + 1) == (⟨#[c]⟩ : Str)) = decide (x.cps[p]? = some c) := by
  have e : (x.cps.toList.take (p + 1)).drop p = (x.cps[p]?).toList := by
    rw [List.drop_take, show p + 1 - p = 1 by omega, ← Array.getElem?_toList]
    cases h : x.cps.toList[p]? with
    | none =>
      have := List.getElem?_eq_none_iff.mp h
      rw [List.drop_of_length_le this]; rfl
    | some v =>
      obtain ⟨hlt, hv⟩ := List.getElem?_eq_some_iff.mp h
      rw [List.drop_eq_getElem_cons hlt, hv]; rfl
  have hb : ∀ a b : Str, (a == b) = decide (a.cps.toList = b.cps.toList) := fun a b => by
    obtain ⟨⟨a⟩⟩ := a
    obtain ⟨⟨b⟩⟩ := b
    by_cases h : a = b
    · subst h; simp
    · have : (Str.mk ⟨a⟩ == Str.mk ⟨b⟩) = false := by simpa using h
      rw [this]; simpa using h
  rw [hb]
  show decide (((x.cps.toList.take (p + 1)).drop p) = [c]) = _
  rw [e]
  cases x.cps[p]? <;> simp
end Mine

open PySem PySem.W PySem.W.X PyProof.Rows PySem.Calls PySem.Builtin.ObjectAttr
set_option maxRecDepth 100000
set_option Elab.async false
set_option autoImplicit false
set_option linter.unusedVariables false
namespace Mine
/-- a run of a generator's part to its next stop -/
def Sg (X : Cx) (A : Around) (c : Code) (t : Sem Fin) (fs : List Frame) (l : Led) (P : End → Led → Prop) : Prop :=
  ∀ s, X.At l s → SegX X.M A c t fs s fun e s' => ∃ l', X.At l' s' ∧ P e l'

section
variable {α : Type} {X : Cx} {A : Around} {l : Led} {env : Env} {c : Code} {fs : List Frame} {P : End → Led → Prop}
variable {F : PH} {N N' : List (Addr × OD)} {G : Array GenState}
variable {K : Flow → Sem Fin} {H : Value → Sem Fin} {gd : Bool → Bool} {lv : List Value → List Value}

theorem sg_wrap {m : Sem α} {K : α → Sem Fin} (h : Tr X (A.over c fs) l m fun a l1 => Sg X A c (K a) fs l1 P) : Sg X A c (m.wrap K H gd lv) fs l P := by
  intro s S
  rintro Γ p rfl hΓ
  obtain ⟨e, s', hr, hq⟩ := runs_wrap_of_wp (Φ := fun e s' => e.quiet = true ∧ ∃ l', X.At l' s' ∧ P e l') K H gd lv m (h s (fun _ _ => False) S (Γ.over fs) p (hΓ.over fs))
    (fun a p' s' ⟨l1, S1, h1⟩ => h1 s' S1 Γ p' rfl hΓ) (fun x p' s' h' => h'.elim)
  exact ⟨e, s', hr, hq⟩
theorem sg_bind {m : Sem α} {K : α → Sem Fin} (h : Tr X (A.over c fs) l m fun a l1 => Sg X A c (K a) fs l1 P) : Sg X A c (m >>= K) fs l P := by
  rw [Sem.bind_eq_wrap']; exact sg_wrap h
theorem sg_pick {t : Sem Fin} (p : Pick N N') (h : Sg X A c t fs ⟨F, N', G⟩ P) : Sg X A c t fs ⟨F, N, G⟩ P := fun s S => h s (S.pick p)
theorem Sg.mono {t : Sem Fin} {P' : End → Led → Prop} (h : Sg X A c t fs l P) (k : ∀ e l', P e l' → P' e l') : Sg X A c t fs l P' :=
  fun s S => (h s S).mono fun e s' ⟨l', S', r⟩ => ⟨l', S', k e l' r⟩
theorem sg_eq {t t' : Sem Fin} (e : t = t') (h : Sg X A c t' fs l P) : Sg X A c t fs l P := e ▸ h
theorem sg_again {c' : Code} (hq : c'.quiet = true) (h : Sg X A c' (X.M.den c') fs l P) : Sg X A c (.pure (.again c')) fs l P := fun s S => s_again X.prog X.w A c fs _ s c' hq (h s S)
theorem sg_pop {r : Result} {t : Sem Fin} (ht : t = leafOf r) {k : Result → Sem Fin} {hd : Option Value} {g : Bool} {lv : List Value} {c₁ : Code} {p₁ : Pos} {kp} (h : Sg X A c₁ (k r) fs l P) :
    Sg X A c t (.ret k hd g lv c₁ p₁ kp :: fs) l P := fun s S => s_pop X.prog X.w A c fs _ s r t ht k hd g lv c₁ p₁ kp (h s S)
theorem sg_end {r : Result} {t : Sem Fin} (ht : t = leafOf r) (h : P (.ret r) l) : Sg X A c t [] l P := fun s S => s_end X.prog X.w A c _ s r t ht ⟨l, S, h⟩
theorem sg_call {c' : Code} {hd : Option Value} {g : Bool} {lv : List Value} {k : Result → Sem Fin} (h : ∀ p, Sg X A c' (X.M.den c') (.ret k hd g lv c p [] :: fs) l P) : Sg X A c (.call c' hd g lv k) fs l P :=
  fun s S => s_call X.prog X.w A c fs _ s c' hd g lv k fun p => h p s S

/-! statements -/
theorem sg_cons {st : Stmt} {rest : List Stmt} (h : Sg X A c ((exec st env).wrap (fun f => match f with | .next => (execs rest env).wrap K H gd lv | f => K f) H gd lv) fs l P) : Sg X A c ((execs (st :: rest) env).wrap K H gd lv) fs l P := by
  rw [execs_cons_wrap]; exact h
theorem sg_nil (h : Sg X A c (K .next) fs l P) : Sg X A c ((execs [] env).wrap K H gd lv) fs l P := h
/-- a statement without a yield -/
theorem sg_stmt {st : Stmt} (h : Tr X (A.over c fs) l (exec st env) fun f l1 => Sg X A c (K f) fs l1 P) : Sg X A c ((exec st env).wrap K H gd lv) fs l P := sg_wrap h
theorem sg_at {p' : Pos} {k : Unit → Sem Fin} (h : Sg X A c (k ()) fs l P) : Sg X A c (.at p' k) fs l P :=
  sg_eq (t' := (standAt p').wrap k .raise id id) rfl (sg_wrap fun s E S => wpAny_standAt ⟨l, S, h⟩)
theorem sg_point {lw : List Value} {k : Unit → Sem Fin} (h : Sg X A c (k ()) fs l P) : Sg X A c (.point lw k) fs l P :=
  sg_eq (t' := point.wrap k .raise id (fun _ => lw)) rfl (sg_wrap fun s E S => wpAny_point ⟨l, S, h⟩)
theorem sg_If {test : Expr} {body orelse : List Stmt} {pos : Pos}
    (h : Tr X (A.over c fs) l (isTrue test env (eval test env)) fun b l1 => if b = true then Sg X A c ((execs body env).wrap K H gd lv) fs l1 P else Sg X A c ((execs orelse env).wrap K H gd lv) fs l1 P) :
    Sg X A c ((exec (.If test body orelse pos) env).wrap K H gd lv) fs l P := by
  rw [exec_If]
  show Sg X A c (.at pos fun _ => Sem.wrap K H gd lv (isTrue test env (eval test env) >>= fun b => if b = true then execs body env else execs orelse env)) fs l P
  refine sg_at ?_
  rw [Sem.bind_eq_wrap', Sem.wrap_wrap]
  refine sg_wrap (h.mono fun b l1 h1 => ?_)
  cases b with
  | true => exact h1
  | false => exact h1
theorem sg_yield0 {v : Value} {g : Bool} {lw : List Value} {k : Resume → Sem Fin} (hfs : splitAtGen fs = none) (hg : g = false) (hfg : fs.any Frame.guarded = false) (h : ∀ p, P (.susp v false lw k c p fs) l) : Sg X A c (.yield v g lw k) fs l P :=
  fun s S => by subst hg; exact s_yield X.prog X.w A c fs _ s v lw k hfs hfg fun p => ⟨l, S, h p⟩
theorem sg_yield {e : Expr} {ypos pos : Pos} (hfs : splitAtGen fs = none) (hgd : gd false = false) (hfg : fs.any Frame.guarded = false) (hco : env.scope.isCoroutine = false) (hi : interactive env = false)
    (h : Tr X (A.over c fs) l (eval e env) fun v l1 => ∀ (lw : List Value) (k : Resume → Sem Fin) (p : Pos), (∀ A' l2 P', Sg X A' c (K .next) fs l2 P' → Sg X A' c (k (.send .none)) fs l2 P') → P (.susp v false lw k c p fs) l1) :
    Sg X A c ((exec (.Expr (.Yield (some e) ypos) pos) env).wrap K H gd lv) fs l P := by
  rw [exec_Expr env _ pos hi rfl]
  show Sg X A c (.at pos fun _ => ((eval e env >>= fun v => (standAt ypos >>= fun _ => yieldOut env v)) >>= fun x => dropValue (.Yield (some e) ypos) pos x).wrap K H gd lv) fs l P
  have hy : ∀ v, yieldOut env v = yieldValue v := fun v => by simp only [yieldOut, hco, Bool.false_eq_true, if_false]
  simp only [hy]
  refine sg_at ?_
  rw [Sem.bind_eq_wrap', Sem.bind_eq_wrap', Sem.wrap_wrap, Sem.wrap_wrap]
  refine sg_wrap (h.mono fun v l1 h1 => ?_)
  exact sg_at (sg_yield0 hfs hgd hfg fun p => h1 _ _ p fun A' l2 P' h2 => h2)

/-- the frame of a loop in a generator -/
def loopK (env : Env) (K : Flow → Sem Fin) (H : Value → Sem Fin) (gd : Bool → Bool) (lv : List Value → List Value) (r : Result) : Sem Fin :=
  ((match r with | .ok f => (.pure f : Sem Flow) | .error e => .raise e).onRaise fun (x : Value) => do
        if (← field x 1) == Value.none then unsupported "frame.own-activation:exception-without-traceback"
        setFlight x env.frame).wrap K H gd lv
theorem loopK_ok {f : Flow} : loopK env K H gd lv (.ok f) = K f := rfl
theorem sg_While {test : Expr} {body orelse : List Stmt} {pos : Pos}
    (h : ∀ p, Sg X A (.whileLoop test body orelse env) (X.M.den (.whileLoop test body orelse env)) (.ret (loopK env K H gd lv) none (gd false) (lv []) c p [] :: fs) l P) :
    Sg X A c ((exec (.While test body orelse pos) env).wrap K H gd lv) fs l P := by
  show Sg X A c (.at pos fun _ => _) fs l P
  exact sg_at (sg_call h)
theorem t_holding {vs : List Value} {m : Sem α} {R : α → Led → Prop} (h : Tr X A l m R) : Tr X A l (holding vs m) R := fun s E S => wpAny_holding (h s E S)
theorem t_onRaise {m : Sem α} {f : Value → Sem Unit} {R : α → Led → Prop} (h : Tr X A l m R) : Tr X A l (m.onRaise f) R := fun s E S => wpAny_onRaise (h s _ S)
theorem sg_For {target iter : Expr} {body orelse : List Stmt} {pos : Pos}
    (h : Tr X (A.over c fs) l (eval iter env) fun x l1 => Tr X (A.over c fs) l1 (pyIter x) fun it l2 => ∀ p, Sg X A (.forLoop target it body orelse env) (X.M.den (.forLoop target it body orelse env)) (.ret (loopK env K H gd lv) none (gd false) (lv []) c p [] :: fs) l2 P)
    (hs : ∀ x, foldedSetIterable iter env x = pure x) :
    Sg X A c ((exec (.For target iter body orelse pos) env).wrap K H gd lv) fs l P := by
  rw [exec_For]
  show Sg X A c (.at pos fun _ => Sem.wrap K H gd lv (eval iter env >>= fun y => foldedSetIterable iter env y >>= fun x => standAt iter.pos >>= fun _ => holding [x] (pyIter x) >>= fun it => runOwn (.forLoop target it body orelse env) env)) fs l P
  refine sg_at ?_
  rw [Sem.bind_eq_wrap', Sem.wrap_wrap]
  refine sg_wrap (h.mono fun x l1 h1 => ?_)
  rw [hs]
  show Sg X A c (.at iter.pos fun _ => Sem.wrap K H gd lv (holding [x] (pyIter x) >>= fun it => runOwn (.forLoop target it body orelse env) env)) fs l1 P
  refine sg_at ?_
  rw [Sem.bind_eq_wrap', Sem.wrap_wrap]
  refine sg_wrap (t_holding (h1.mono fun it l2 h2 => ?_))
  exact sg_call h2
/-- a turn of a while -/
def whileK (test : Expr) (body orelse : List Stmt) (env : Env) : Flow → Sem Fin
  | .next | .cont => .pure (.again (.whileLoop test body orelse env))
  | .brk => .pure (.done .next)
  | .ret v => .pure (.done (.ret v))
def loopH (env : Env) (e : Value) : Sem Fin := (do noteFrame e env; theTreesLotGoes e : Sem Unit).wrap (fun _ => .raise e) .raise id id
theorem sg_whileTurn {test : Expr} {body orelse : List Stmt}
    (h : Tr X (A.over (.whileLoop test body orelse env) fs) l (isTrue test env (eval test env)) fun b l1 =>
      if b = true then Sg X A (.whileLoop test body orelse env) ((execs body env).wrap (whileK test body orelse env) (loopH env) id id) fs l1 P
      else Sg X A (.whileLoop test body orelse env) ((execs orelse env).wrap (fun f => .pure (.done f)) (loopH env) id id) fs l1 P) :
    Sg X A (.whileLoop test body orelse env) (X.M.den (.whileLoop test body orelse env)) fs l P := by
  show Sg X A _ ((whileTurn test body orelse env).onRaise (fun x => do noteFrame x env; theTreesLotGoes x)) fs l P
  unfold whileTurn
  rw [Sem.onRaise_eq_wrap, Sem.bind_eq_wrap', Sem.wrap_wrap]
  refine sg_wrap (h.mono fun b l1 hb => ?_)
  cases b with
  | true =>
    rw [if_pos rfl] at hb
    show Sg X A _ (Sem.wrap _ _ _ _ (if true = true then _ else _)) fs l1 P
    rw [if_pos rfl, Sem.bind_eq_wrap', Sem.wrap_wrap]
    rw [Sem.wrap_congr (execs body env) _ _ (K' := whileK test body orelse env) (H' := loopH env) (fun f => by cases f <;> rfl) (fun e => by
      first | exact Sem.bind_eq_wrap _ _ | (show (do noteFrame e env; theTreesLotGoes e : Sem Unit).bind (fun _ => .raise e) = _; rw [Sem.bind_eq_wrap]; rfl))]
    exact hb
  | false =>
    rw [if_neg Bool.false_ne_true] at hb
    show Sg X A _ (Sem.wrap _ _ _ _ (if false = true then _ else _)) fs l1 P
    rw [if_neg Bool.false_ne_true, Sem.bind_eq_wrap', Sem.wrap_wrap]
    rw [Sem.wrap_congr (execs orelse env) _ _ (K' := fun f => (.pure (.done f) : Sem Fin)) (H' := loopH env) (fun f => by rfl) (fun e => by
      first | exact Sem.bind_eq_wrap _ _ | (show (do noteFrame e env; theTreesLotGoes e : Sem Unit).bind (fun _ => .raise e) = _; rw [Sem.bind_eq_wrap]; rfl))]
    exact hb
def loopH' (env : Env) (e : Value) : Sem Fin := (do noteFrame e env; theTreesLotGoes e : Sem Unit).bind fun _ => .raise e
/-- a turn of a for -/
def forK (target : Expr) (it : Value) (body orelse : List Stmt) (env : Env) : Flow → Sem Fin
  | .next | .cont => .pure (.again (.forLoop target it body orelse env))
  | .brk => .pure (.done .next)
  | .ret v => .pure (.done (.ret v))
theorem sg_forTurn {target : Expr} {it : Value} {body orelse : List Stmt}
    (h : Tr X (A.over (.forLoop target it body orelse env) fs) l (pyNext it) fun r l1 => match r with
      | none => Sg X A (.block orelse env) (X.M.den (.block orelse env)) fs l1 P
      | some v => Tr X (A.over (.forLoop target it body orelse env) fs) l1 (letOwnedTupleGo target it v) fun _ l2 => Tr X (A.over (.forLoop target it body orelse env) fs) l2 (assign target env v) fun _ l3 =>
          Sg X A (.forLoop target it body orelse env) ((execs body env).wrap (forK target it body orelse env) (loopH env) id id) fs l3 P) :
    Sg X A (.forLoop target it body orelse env) (X.M.den (.forLoop target it body orelse env)) fs l P := by
  show Sg X A _ ((forTurn target it body orelse env).onRaise (fun x => do noteFrame x env; theTreesLotGoes x)) fs l P
  unfold forTurn
  rw [Sem.onRaise_eq_wrap]
  show Sg X A _ (.at target.pos fun _ => Sem.wrap .pure (loopH' env) id id ((pyNext it).onRaise (fun _ => standAt { target.pos with line := 0 }) >>= fun r => match r with
    | none => again (.block orelse env)
    | some v => letOwnedTupleGo target it v >>= fun _ => assign target env v >>= fun _ => execs body env >>= fun f => match f with
      | .next | .cont => again (.forLoop target it body orelse env)
      | .brk => pure (.done .next)
      | .ret v => pure (.done (.ret v)))) fs l P
  refine sg_at ?_
  rw [Sem.bind_eq_wrap', Sem.wrap_wrap]
  refine sg_wrap (t_onRaise (h.mono fun r l1 h1 => ?_))
  cases r with
  | none => exact sg_again rfl h1
  | some v =>
    show Sg X A _ (Sem.wrap _ _ _ _ (letOwnedTupleGo target it v >>= fun _ => assign target env v >>= fun _ => execs body env >>= fun f => match f with
      | .next | .cont => again (.forLoop target it body orelse env)
      | .brk => pure (.done .next)
      | .ret v => pure (.done (.ret v)))) fs l1 P
    rw [Sem.bind_eq_wrap', Sem.wrap_wrap]
    refine sg_wrap (Tr.mono h1 fun _ l2 h2 => ?_)
    rw [Sem.bind_eq_wrap', Sem.wrap_wrap]
    refine sg_wrap (h2.mono fun _ l3 h3 => ?_)
    rw [Sem.bind_eq_wrap', Sem.wrap_wrap]
    exact sg_eq (Sem.wrap_congr (K' := forK target it body orelse env) (H' := loopH env) (execs body env) _ _ (fun f => by cases f <;> rfl) (fun e => by
      show loopH' env e = loopH env e
      unfold loopH' loopH
      rw [Sem.bind_eq_wrap])) h3
theorem sg_block {stmts : List Stmt} (h : Sg X A (.block stmts env) ((execs stmts env).wrap (fun f => .pure (.done f)) (loopH env) id id) fs l P) : Sg X A (.block stmts env) (X.M.den (.block stmts env)) fs l P := by
  show Sg X A _ (((execs stmts env).onRaise (fun x => do noteFrame x env; theTreesLotGoes x)) >>= fun f => pure (.done f)) fs l P
  rw [Sem.onRaise_eq_wrap, Sem.bind_eq_wrap', Sem.wrap_wrap]
  exact sg_eq (Sem.wrap_congr (K' := fun f => (.pure (.done f) : Sem Fin)) (H' := loopH env) (execs stmts env) _ _ (fun f => rfl) (fun e => by
    show Sem.wrap _ _ _ _ ((do noteFrame e env; theTreesLotGoes e : Sem Unit).bind fun _ => .raise e) = loopH env e
    unfold loopH
    rw [Sem.bind_eq_wrap, Sem.wrap_wrap]; rfl)) h
def funcK : Flow → Sem Fin := fun f => .pure (.done (.ret (flowVal f)))
theorem sg_func {body : List Stmt} (h : Sg X A (.func body env) ((execs body env).wrap funcK (fun e => (leaving env e).wrap (fun _ => .raise e) .raise id id) id id) fs l P) :
    Sg X A (.func body env) (X.M.den (.func body env)) fs l P := by
  show Sg X A _ (.point [] fun _ => ((execs body env).onRaise (leaving env)) >>= _) fs l P
  refine sg_point ?_
  rw [Sem.onRaise_eq_wrap, Sem.bind_eq_wrap', Sem.wrap_wrap]
  rw [Sem.wrap_congr (execs body env) _ _ (K' := funcK) (H' := fun e => (leaving env e).wrap (fun _ => .raise e) .raise id id) (fun f => by cases f <;> rfl) (fun e => by rw [Sem.bind_eq_wrap, Sem.wrap_wrap]; rfl)]
  exact h
end
end Mine

open PySem PySem.W PySem.W.X PyProof.Rows PySem.Calls PySem.Builtin.ObjectAttr
set_option maxRecDepth 100000
set_option Elab.async false
set_option autoImplicit false
set_option linter.unusedVariables false
namespace Mine
theorem At.gens {K mg mb P F N O s} {G : Array GenState} (S : At K mg mb P F N G O s) {g : Nat} {st : GenState} : At K mg mb P F N (G.setIfInBounds g st) O (s.setGen g st) :=
  ⟨S.top, S.fz, S.nw, S.nd, by show s.gens.setIfInBounds g st = _; rw [S.gn], S.os⟩
def genO (g : Nat) (nm qn : Str) (t u : Tok) : OD := .raw { cls := .type "generator", data := .fields #[.int g 0, .str nm t, .str qn u] }
def GRes (X : Cx) (A : Around) (gs : GenState) (l : Led) (P : End → Led → Prop) : Prop := match gs with
  | .fresh c => Sg X A c (X.M.den c) [] l P
  | .suspended k _ c _ fs _ => Sg X A c (k (.send .none)) fs l P
  | _ => False
section
variable {X : Cx} {A : Around} {F : PH} {N N' : List (Addr × OD)} {G : Array GenState}

theorem t_nextGen0 {n : Nat} {ga : Addr} {g : Nat} {gs : GenState} {nm qn : Str} {t u : Tok} {P : End → Led → Prop} {RO : Option Value → Led → Prop} (hr : Rm A n) (hrow : (ga, genO g nm qn t u) ∈ N) (hgs : G[g]? = some gs)
    (h : GRes X A.in1 gs ⟨F, N, G.setIfInBounds g .running⟩ P)
    (k : ∀ e F' N' G', P e ⟨F', N', G'⟩ → (e = .ret (.ok (.ret .none)) ∧ RO none ⟨F', N', G'.setIfInBounds g .finished⟩) ∨ (∃ v lw kk c p fs, e = .susp v false lw kk c p fs ∧ RO (some v) ⟨F', N', G'.setIfInBounds g e.genState⟩)) :
    Tr X A ⟨F, N, G⟩ (pyNext (.ref ga)) RO := by
  intro s E S
  have hg : s.heap.IsGen ga g := by
    obtain ⟨o, ho, e, _⟩ := S.led hrow
    subst e
    exact ⟨_, _, _, ho, rfl, rfl, rfl⟩
  have hgs' : s.gens[g]? = some gs := by rw [S.gn]; exact hgs
  unfold pyNext
  refine wpAny_bind (wpAny_attempt (wpAny_callSpecial?_slot (name := Str.ofString "__next__") hg.typeIs slot_gen_next
    (wpAny_call_entry slot_gen_next hg.typeIs entry_gen_next ?_ (args_gen_next _))))
  show wpAny _ _ (Builtin.Generator.genWake (.ref ga) (.send .none)) _ _ s
  unfold Builtin.Generator.genWake
  refine wpAny_bind (wpAny_holding (wpAny_genNumber hg (wpAny_bind (wpAny_genState hgs' ?_))))
  have S0 : X.At ⟨F, N, G.setIfInBounds g .running⟩ (s.setGen g .running) := At.gens S
  have main : ∀ {α : Type} {kk : GenResult → Sem α} {Q : α → Shared → Prop} {E' : Value → Shared → Prop}, (∀ e s1 l1, X.At l1 s1 → P e l1 → wpAny X.M A.in1 (kk e.result) Q E' (s1.setGen g e.genState)) → wpAny X.M A.in1 (.resume g (.send .none) [] kk) Q E' s := by
    intro α kk Q E' hk
    cases gs with
    | running => exact h.elim
    | finished => exact h.elim
    | fresh c =>
      exact wake_any α X.prog X.w hgs' (c₀ := c) (.inl ⟨rfl, rfl, rfl, rfl⟩) (fun Γ => Γ.In A.in1) (fun _ x => x) ((h _ S0).mono fun e s1 ⟨l1, S1, p1⟩ Γ p hΓ => hk e s1 l1 S1 p1 Γ p hΓ)
    | suspended k0 l0 c0 p0 fs0 cl =>
      exact wake_any α X.prog X.w hgs' (c₀ := c0) (.inr ⟨k0, l0, p0, cl, rfl, rfl⟩) (fun Γ => Γ.In A.in1) (fun _ x => x) ((h _ S0).mono fun e s1 ⟨l1, S1, p1⟩ Γ p hΓ => hk e s1 l1 S1 p1 Γ p hΓ)
  cases gs with
  | running => exact h.elim
  | finished => exact h.elim
  | _ =>
    refine wpAny_bind (wpAny_roomToWake S.nolimit hr.room ?_)
    show wpAny _ _ (.resume g (.send .none) [] _) _ _ s
    refine main fun e s1 l1 S1 p1 => ?_
    obtain ⟨F1, N1, G1⟩ := l1
    rcases k e F1 N1 G1 p1 with ⟨rfl, hR⟩ | ⟨v, lw, kk, c, p, fs, rfl, hR⟩
    · show wpAny _ _ (newExc (.type "StopIteration") [] >>= _) _ _ _
      refine wpAny_bind ?_
      simp only [newExc, newTuple]
      refine wpAny_bind (wpAny_newObj_type ?_ (by size_fits))
      refine wpAny_bind (m := firstArgMember _ _) (wpAny_of_eq (a := Value.none) (by first | rfl | (simp only [firstArgMember]; rfl)) ?_)
      refine wpAny_newObj_type ?_ (by size_fits)
      simp only [raiseNew]
      refine wpAny_bind (wpAny_bind (wpAny_handled ?_))
      rw [show A.in1.handled = none from hr.hd]
      refine wpAny_throw ?_
      refine wpAny_bind (wpAny_isInstance (T := "StopIteration") (b := true) ⟨_, Heap.get?_push_size _ rfl, rfl⟩ isSubtype_stop ?_)
      have S2 := At.gens (g := g) (st := .finished) S1
      exact wpAny_pure ⟨_, At.keep0 S2 (fun b o hb => Heap.get?_push_of_some _ (Heap.get?_push_of_some _ hb)), hR⟩
    · exact wpAny_pure ⟨v, rfl, wpAny_pure ⟨_, At.gens S1, hR⟩⟩
theorem At.newGen {K mg mb P F N O s} {G : Array GenState} (S : At K mg mb P F N G O s) {st : GenState} {dr : Drawn} {t : Nat} : At K mg mb P F N (G.push st) O ⟨s.heap, s.gens.push st, dr, t, s.os⟩ :=
  ⟨S.top, S.fz, S.nw, S.nd, by show s.gens.push st = _; rw [S.gn], S.os⟩
/-- a generator is made -/
theorem cl_gen {f : Addr} {oc : Value} {od : Option Addr} {osl : Array (Option Value)} {body : List Stmt} {args : Args} {binds : List (Str × Value)} {R : Flow → Led → Prop}
    {name qn : Str} {params : Arguments} {scope : Scope} {gl bi : Addr} {clo : List (Str × Addr)} {dfl kwd doc pm code ct : Value} {ann : Option Addr}
    (ho : X.K.lookup f = some ⟨oc, od, .func ⟨name, qn, params, .stmts body, scope, gl, clo, dfl, kwd, doc, pm, ann, code, ct, bi⟩, osl⟩) (hcd : codeIn X.K code qn = true)
    (hbind : peek X.K ⟨X.prog, X.w.params⟩ (bindArgs ⟨name, qn, params, .stmts body, scope, gl, clo, dfl, kwd, doc, pm, ann, code, ct, bi⟩ args) = some binds) (hroom : A.depth < recursionLimit)
    (hco : scope.isCoroutine = false) (hgen : scope.isGenerator = true) {n : Nat} (hn : (cellNames scope.names).length = n)
    (h : ∀ L, allC n ((L, .ns []) :: N) fun cs NN => TrB X A.in1 (mkEnv scope gl clo (qn ++ ".<locals>.") code bi f L cs)
      (fun l' => Opn l' fun F N G => ∀ ga t u, R (.ret (.ref ga)) ⟨F, (ga, genO G.size name qn t u) :: N, G.push (.fresh (.func body (mkEnv scope gl clo (qn ++ ".<locals>.") code bi f L cs)))⟩) binds ⟨F, NN, G⟩) :
    Cl X A ⟨F, N, G⟩ (.call (.ref f) args) R := by
  intro s R' S k
  refine codeAny_call_generator hroom (S.inK _ _ ho) rfl hco hgen rfl (codeRec_of S.inK hcd) ?_
  refine (Looks.of_peek (M := X.M) S.inK hbind).here ?_
  refine new_env S fun L cs s' hl S' => ?_
  refine TrB.use (allCells_use (allC_all (h L)) cs (hl.trans hn)) S' fun s2 l2 S2 h2 => ⟨S2.nolimit, ?_⟩
  obtain ⟨F2, N2, G2⟩ := l2
  have S3 := At.newGen S2 (st := .fresh (.func body (mkEnv scope gl clo (qn ++ ".<locals>.") code bi f L cs))) (dr := s2.drawn) (t := s2.toks)
  have S4 := At.allocT S3 (D := genO G2.size name qn s2.toks (s2.toks + 1)) (o := { cls := .type "generator", data := .fields #[.int s2.gens.size 0, .str name s2.toks, .str qn (s2.toks + 1)] }) ⟨by rw [S2.gn], rfl⟩ (dr := s2.drawn) (t := s2.toks + 1 + 1)
  exact k _ _ _ S4 (h2 _ _ _)
theorem t_iterGen {ga : Addr} {g : Nat} {nm qn : Str} {t u : Tok} {R : Value → Led → Prop} (hrow : (ga, genO g nm qn t u) ∈ N) (h : R (.ref ga) ⟨F, N, G⟩) : Tr X A ⟨F, N, G⟩ (pyIter (.ref ga)) R := fun s E S => by
  obtain ⟨o, ho, e, _⟩ := S.led hrow
  subst e
  exact wpAny_pyIter_gen ⟨_, _, _, ho, rfl, rfl, rfl⟩ ⟨_, S, h⟩

/-- what a reading yields: place, type, letter -/
abbrev TokE := Nat × Addr × Nat
abbrev tokT (e : TokE) (t1 t2 : Tok) : OD := .tup [.int (e.1 : Int) t1, .ref e.2.1, .str ⟨#[e.2.2]⟩ t2]
/-- a generator that yields these and ends; own: its rows -/
def GenOk (X : Cx) (n : Nat) : List TokE → PH → GenState → List (Addr × OD) → Prop
  | [], F, gs, own => ∀ F' A N G, F.le F' → Rm A n → GRes X A gs ⟨F', own ++ N, G⟩ fun e l' => e = .ret (.ok (.ret .none)) ∧ l' = ⟨F', N, G⟩
  | e₀ :: ts, F, gs, own => ∀ F' A N G, F.le F' → Rm A n → GRes X A gs ⟨F', own ++ N, G⟩ fun e l' => ∃ lw k c p fs own' a t1 t2, e = .susp (.ref a) false lw k c p fs ∧ fs.any Frame.guarded = false ∧
      l' = ⟨F', own' ++ (a, tokT e₀ t1 t2) :: N, G⟩ ∧ GenOk X n ts F' e.genState own'
theorem GenOk.mono {n : Nat} {ts : List TokE} {F F₁ : PH} {gs : GenState} {own : List (Addr × OD)} (h : GenOk X n ts F gs own) (k : F.le F₁) : GenOk X n ts F₁ gs own := by
  cases ts with
  | nil => exact fun F' A N G le => h F' A N G (PH.le_trans k le)
  | cons e ts => exact fun F' A N G le => h F' A N G (PH.le_trans k le)
theorem Rm.in1 {n : Nat} (h : Rm A (n + 1)) : Rm A.in1 n := ⟨h.hd, by have := h.dep; show A.depth + n < _; omega, by have := h.un; show A.units + 1 + 10 * n < _; omega⟩

theorem Sg.perm {c : Code} {t : Sem Fin} {fs : List Frame} {P P' : End → Led → Prop} (h : Sg X A c t fs ⟨F, N', G⟩ P) (p : N'.Perm N) (k : ∀ e F N G, P e ⟨F, N, G⟩ → ∃ N', N'.Perm N ∧ P' e ⟨F, N', G⟩) : Sg X A c t fs ⟨F, N, G⟩ P' :=
  fun s S => (h s (At.perm S p)).mono fun e s' ⟨⟨F1, N1, G1⟩, S1, r⟩ => by
    obtain ⟨N2, p2, r2⟩ := k e F1 N1 G1 r
    exact ⟨⟨F1, N2, G1⟩, At.perm S1 p2, r2⟩
theorem GRes.perm {gs : GenState} {P P' : End → Led → Prop} (h : GRes X A gs ⟨F, N', G⟩ P) (p : N'.Perm N) (k : ∀ e F N G, P e ⟨F, N, G⟩ → ∃ N', N'.Perm N ∧ P' e ⟨F, N', G⟩) : GRes X A gs ⟨F, N, G⟩ P' := by
  cases gs with
  | fresh c => exact Sg.perm h p k
  | suspended k0 l0 c0 p0 fs0 cl => exact Sg.perm h p k
  | running => exact h.elim
  | finished => exact h.elim
theorem t_nextGen {n m : Nat} {ga : Addr} {g : Nat} {gs : GenState} {nm qn : Str} {t u : Tok} {e₀ : TokE} {ts : List TokE} {own : List (Addr × OD)} {RO : Option Value → Led → Prop} (hr : Rm A m) (hm : n + 1 ≤ m) (hgs : G[g]? = some gs)
    (hok : GenOk X n (e₀ :: ts) F gs own)
    (h : ∀ own' gs' a t1 t2, gs'.bare = true → GenOk X n ts F gs' own' → RO (some (.ref a)) ⟨F, (ga, genO g nm qn t u) :: (own' ++ (a, tokT e₀ t1 t2) :: N), (G.setIfInBounds g .running).setIfInBounds g gs'⟩) :
    Tr X A ⟨F, (ga, genO g nm qn t u) :: (own ++ N), G⟩ (pyNext (.ref ga)) RO := by
  refine t_nextGen0 hr (.head _) hgs (GRes.perm (P' := fun e l' => ∃ lw k c p fs own' a t1 t2, e = .susp (.ref a) false lw k c p fs ∧ fs.any Frame.guarded = false ∧
      l' = ⟨F, (ga, genO g nm qn t u) :: (own' ++ (a, tokT e₀ t1 t2) :: N), G.setIfInBounds g .running⟩ ∧ GenOk X n ts F e.genState own') (hok F A.in1 ((ga, genO g nm qn t u) :: N) _ (PH.le_refl F) (hr.le hm).in1) List.perm_middle fun e F1 N1 G1 r => ?_) fun e F1 N1 G1 r => ?_
  · obtain ⟨lw, k, c, p, fs, own', a, t1, t2, e1, eg, e2, ok⟩ := r
    cases e2
    refine ⟨_, ?_, lw, k, c, p, fs, own', a, t1, t2, e1, eg, rfl, ok⟩
    exact (List.perm_middle.symm.trans (List.Perm.append_left _ (.swap ..)))
  · obtain ⟨lw, k, c, p, fs, own', a, t1, t2, e1, eg, e2, ok⟩ := r
    cases e2
    exact .inr ⟨_, lw, k, c, p, fs, e1, h own' _ a t1 t2 (by subst e1; show (!(false || fs.any Frame.guarded)) = true; rw [eg]; rfl) ok⟩
theorem t_nextGenEnd {n m : Nat} {ga : Addr} {g : Nat} {gs : GenState} {nm qn : Str} {t u : Tok} {own : List (Addr × OD)} {RO : Option Value → Led → Prop} (hr : Rm A m) (hm : n + 1 ≤ m) (hgs : G[g]? = some gs)
    (hok : GenOk X n [] F gs own) (h : RO none ⟨F, (ga, genO g nm qn t u) :: N, (G.setIfInBounds g .running).setIfInBounds g .finished⟩) :
    Tr X A ⟨F, (ga, genO g nm qn t u) :: (own ++ N), G⟩ (pyNext (.ref ga)) RO := by
  refine t_nextGen0 hr (.head _) hgs (GRes.perm (P' := fun e l' => e = .ret (.ok (.ret .none)) ∧ l' = ⟨F, (ga, genO g nm qn t u) :: N, G.setIfInBounds g .running⟩) (hok F A.in1 ((ga, genO g nm qn t u) :: N) _ (PH.le_refl F) (hr.le hm).in1) List.perm_middle fun e F1 N1 G1 r => ?_) fun e F1 N1 G1 r => ?_
  · obtain ⟨e1, e2⟩ := r
    cases e2
    exact ⟨_, .refl _, e1, rfl⟩
  · obtain ⟨e1, e2⟩ := r
    cases e2
    exact .inl ⟨e1, h⟩
end
end Mine

open PySem PySem.W PyProof.Rows PySem.Calls PySem.Builtin.ObjectAttr
set_option maxRecDepth 100000
set_option Elab.async false
set_option autoImplicit false
set_option linter.unusedVariables false
namespace Mine
section
variable {X : Cx} {A : Around} {l : Led} {env : Env} {F : PH} {N N' : List (Addr × OD)} {G : Array GenState} {R : Value → Led → Prop}
/-- targets, one by one -/
def TrA (X : Cx) (A : Around) (env : Env) (R : Led → Prop) : List Expr → List Value → Led → Prop
  | e :: es, v :: vs, l => Tr X A l (assign e env v) fun _ l' => TrA X A env R es vs l'
  | _, _, l => R l
theorem trA_cons {e : Expr} {es : List Expr} {v : Value} {vs : List Value} {R : Led → Prop} (h : Tr X A l (assign e env v) fun _ l' => TrA X A env R es vs l') : TrA X A env R (e :: es) (v :: vs) l := h
theorem trA_nil {R : Led → Prop} (h : R l) : TrA X A env R [] [] l := h
theorem trA_order {R : Unit → Led → Prop} : ∀ {es : List Expr} {vs : List Value} {l : Led}, es.length = vs.length → TrA X A env (R ()) es vs l → Tr X A l (assignInOrder (es.map fun e => assign e env) vs) R
  | [], [], l, _, h => fun s E S => wpAny_pure ⟨l, S, h⟩
  | e :: es, v :: vs, l, hl, h => fun s E S => wpAny_bind (wpAny_holding (Tr.use h S fun _ s' l' S' h' => trA_order (Nat.succ.inj hl) h' s' E S'))
theorem t_assignTup {elts : List Expr} {k : Nat} {pos : Pos} {a : Addr} {vs : List Value} {R : Unit → Led → Prop} (hh : A.handled = none) (ha : Kn X l a (.tup vs)) (he : assignEach elts env = elts.map fun e => (false, assign e env)) (hn : elts.length = vs.length)
    (h : TrA X A env (R ()) elts vs l) : Tr X A l (assign (.Tuple elts k pos) env (.ref a)) R := fun s E S => by
  have hstar : (assignEach elts env).findIdx? (·.1) = none := by rw [he, List.findIdx?_eq_none_iff]; intro x hx; obtain ⟨e, _, rfl⟩ := List.mem_map.mp hx; rfl
  refine wpAny_assign_Tuple hh (ha.has S).isTup (by rw [he]; simpa using hn) hstar fun h' ex => ?_
  have e : (assignEach elts env).map (·.2) = elts.map fun e => assign e env := by rw [he, List.map_map]; rfl
  rw [e]
  have S' : X.At l { s with heap := h' } := At.keep0 S fun b o hb => ex b o (Nat.ne_of_lt (Heap.lt_size hb)) hb
  exact trA_order (by simpa using hn) h _ E S'
theorem t_goTupL {elts : List Expr} {k : Nat} {pos : Pos} {it a v : Addr} {i : Nat} {R : Unit → Led → Prop} (hi : (it, itL a i) ∈ l.N) (h : R () l) : Tr X A l (letOwnedTupleGo (.Tuple elts k pos) (.ref it) (.ref v)) R :=
  fun s E S => wpAny_letOwnedTupleGo_listiter (S.led hi) ⟨l, S, h⟩
theorem t_goTupT {elts : List Expr} {k : Nat} {pos : Pos} {it a v : Addr} {i : Nat} {R : Unit → Led → Prop} (hi : (it, itT a i) ∈ l.N) (h : R () l) : Tr X A l (letOwnedTupleGo (.Tuple elts k pos) (.ref it) (.ref v)) R := fun s E S => by
  obtain ⟨o, ho, hc, hd⟩ := S.led hi
  unfold letOwnedTupleGo
  refine wpAny_bind (wpAny_load ho ?_)
  rw [hc, hd]
  show wpAny _ A (if (["enumerate", "zip", "dict_itemiterator", "dict_reverseitemiterator", "odict_iterator", "itertools.zip_longest", "itertools.pairwise"].contains "tuple_iterator" && _) = true then _ else _) _ E s
  rw [if_neg (by
    intro h
    rw [show (["enumerate", "zip", "dict_itemiterator", "dict_reverseitemiterator", "odict_iterator", "itertools.zip_longest", "itertools.pairwise"].contains "tuple_iterator") = false from by decide, Bool.false_and] at h
    cases h)]
  exact wpAny_pure ⟨l, S, h⟩
theorem t_pop {pos : Pos} {a : Addr} {vs : List Value} {v : Value} (ha : (a, OD.lst (vs ++ [v])) ∈ N) (u : LUpd N a (.lst vs) N') (hz : vs.length ≤ 1000000) (h : R v ⟨F, N', G⟩) :
    Tr X A ⟨F, N, G⟩ (callWith pos (.builtin "list.pop") [.ref a] (backTo pos (starEach [] env)) []) R := fun s E S => by
  obtain ⟨⟨c, d, dt, sl⟩, ho, hc, ⟨hdn, hsl⟩, n, hd⟩ := S.led ha
  dsimp only at hc hdn hsl hd
  subst hc hdn hsl hd
  obtain ⟨n', hd'⟩ := Obj.data_mapSeq (o := { cls := Value.type "list", data := Data.seq (vs ++ [v]).toArray n }) rfl (fun xs => xs.eraseIdxIfInBounds ((vs ++ [v]).toArray.size - 1))
  refine PySem.P.pop_list (items := (vs ++ [v]).toArray) (n := n) (y := v) ho (by simp) ⟨⟨F, N', G⟩, S.updT u (Heap.SameBut.update ..) ⟨_, Heap.get?_update_self _ ho rfl, rfl, ⟨rfl, rfl⟩, n', ?_⟩, h⟩ (by simp [sizeLine]; omega)
  rw [hd']
  congr 1
  have e : (vs ++ [v]).eraseIdx vs.length = vs := by
    rw [List.eraseIdx_append_of_length_le (Nat.le_refl _)]; simp
  simp [Array.eraseIdxIfInBounds, e]
end
end Mine

open PySem PySem.W PySem.W.X PyProof.Rows PySem.Calls PySem.Builtin.ObjectAttr
set_option maxRecDepth 100000
set_option Elab.async false
set_option autoImplicit false
set_option linter.unusedVariables false
namespace Mine
/-- frames that lie quietly above a generator's code -/
structure FsOk (fs : List Frame) : Prop where
  gen : splitAtGen fs = none
  grd : fs.any Frame.guarded = false
  mks : ∀ h, (marksOver fs (h, h)) = (h, h)
  cnt : frameCount (fs.map Frame.where_) ≤ 2
  un : unitsOf (fs.map Frame.where_) ≤ 20
theorem Rm.over {A : Around} {n : Nat} {c : Code} {fs : List Frame} (h : Rm A (n + 5)) (f : FsOk fs) (hw : c.weight ≤ 2 := by exact Nat.le_of_ble_eq_true rfl) (hu : c.cUnits ≤ 20 := by exact Nat.le_of_ble_eq_true rfl) : Rm (A.over c fs) n := by
  refine ⟨by show (marksOver fs (A.handled, A.handled)).1 = none; rw [f.mks]; exact h.hd, ?_, ?_⟩
  · have := h.dep; have := f.cnt
    show A.depth + frameCount (fs.map Frame.where_) + c.weight + n < _
    omega
  · have := h.un; have := f.un
    show A.units + unitsOf (fs.map Frame.where_) + c.cUnits + 10 * n < _
    omega
theorem At.nsub {K mg mb P F G O s} {N : List (Addr × OD)} {L : Addr} {l l' : List (Str × Value)} (S : At K mg mb P F ((L, .ns l) :: N) G O s) (h : Pick l l') : At K mg mb P F ((L, .ns l') :: N) G O s := by
  refine ⟨S.top, S.fz, fun p hp => ?_, S.nd, S.gn, S.os⟩
  rcases List.mem_cons.mp hp with rfl | hp
  · obtain ⟨h1, o, ho, nd, es, n, hd, hk, hl⟩ := S.nw (L, .ns l) (.head _)
    have nd' : (l'.map (·.1)).Nodup := by
      have q : ∀ {a b : List (Str × Value)}, Pick a b → (a.map (·.1)).Nodup → (b.map (·.1)).Nodup := by
        intro a b h
        induction h with
        | refl => exact id
        | drop _ ih => exact fun h => ih (List.nodup_cons.mp h).2
        | @cons a l l' l'' r p ih =>
          intro h
          have h' := (r.perm.map (·.1)).nodup_iff.mp h
          rw [List.map_cons, List.nodup_cons] at h' ⊢
          refine ⟨fun q => h'.1 ?_, ih h'.2⟩
          obtain ⟨x, hx, e⟩ := List.mem_map.mp q
          exact e ▸ List.mem_map_of_mem (f := (·.1)) (p.sub x hx)
      exact q h nd
    exact ⟨h1, o, ho, nd', es, n, hd, hk, fun p hp => hl p (h.sub p hp)⟩
  · exact S.nw p (.tail _ hp)
section
variable {X : Cx} {A : Around} {l : Led} {env : Env} {F : PH} {N N' : List (Addr × OD)} {G : Array GenState}
theorem sg_nsub {c : Code} {t : Sem Fin} {fs : List Frame} {P : End → Led → Prop} {L : Addr} {f f' : List (Str × Value)} (p : Pick f f') (h : Sg X A c t fs ⟨F, (L, .ns f') :: N, G⟩ P) : Sg X A c t fs ⟨F, (L, .ns f) :: N, G⟩ P :=
  fun s S => h s (At.nsub S p)
theorem tr_nsub {α : Type} {t : Sem α} {R : α → Led → Prop} {L : Addr} {f f' : List (Str × Value)} (p : Pick f f') (h : Tr X A ⟨F, (L, .ns f') :: N, G⟩ t R) : Tr X A ⟨F, (L, .ns f) :: N, G⟩ t R := fun s E S => h s E (At.nsub S p)
/-- a while of a generator, by a measure -/
theorem wh_ind {test : Expr} {body orelse : List Stmt} {Inv : Nat → Around → List Frame → Led → (End → Led → Prop) → Prop}
    (step : ∀ k A fs l P, (∀ j, j < k → ∀ A fs l P, Inv j A fs l P → Sg X A (.whileLoop test body orelse env) (X.M.den (.whileLoop test body orelse env)) fs l P) → Inv k A fs l P →
      Sg X A (.whileLoop test body orelse env) (X.M.den (.whileLoop test body orelse env)) fs l P) (k : Nat) : ∀ A fs l P, Inv k A fs l P → Sg X A (.whileLoop test body orelse env) (X.M.den (.whileLoop test body orelse env)) fs l P := by
  induction k using Nat.strongRecOn with
  | ind k ih => exact fun A fs l P h => step k A fs l P ih h
theorem for_ind {target : Expr} {it : Value} {body orelse : List Stmt} {fs : List Frame} {P : End → Led → Prop} {Inv : Nat → Led → Prop}
    (step : ∀ k l, (∀ j, j < k → ∀ l, Inv j l → Sg X A (.forLoop target it body orelse env) (X.M.den (.forLoop target it body orelse env)) fs l P) → Inv k l →
      Sg X A (.forLoop target it body orelse env) (X.M.den (.forLoop target it body orelse env)) fs l P) (k : Nat) : ∀ l, Inv k l → Sg X A (.forLoop target it body orelse env) (X.M.den (.forLoop target it body orelse env)) fs l P := by
  induction k using Nat.strongRecOn with
  | ind k ih => exact fun l h => step k l ih h
theorem fsOk_ret {fs : List Frame} {k : Result → Sem Fin} {lw : List Value} {c : Code} {p : Pos} {kp} (f : FsOk fs) (hw : c.weight + frameCount (fs.map Frame.where_) ≤ 2) (hu : c.cUnits + unitsOf (fs.map Frame.where_) ≤ 20) : FsOk (.ret k none false lw c p kp :: fs) := by
  refine ⟨?_, ?_, fun h => ?_, ?_, ?_⟩
  · show (splitAtGen fs).map _ = none; rw [f.gen]; rfl
  · show (false || fs.any Frame.guarded) = false; rw [f.grd]; rfl
  · have e : marksOver (.ret k none false lw c p kp :: fs) (h, h) = Frame.marks (.ret k none false lw c p kp) (marksOver fs (h, h)) := rfl
    rw [e, f.mks]; rfl
  · show frameCount ((c, p) :: fs.map Frame.where_) ≤ 2; rw [frameCount_cons]; exact hw
  · show unitsOf ((c, p) :: fs.map Frame.where_) ≤ 20; rw [unitsOf_cons]; exact hu
theorem fsOk_nil : FsOk [] := ⟨rfl, rfl, fun _ => rfl, Nat.le_of_ble_eq_true rfl, Nat.le_of_ble_eq_true rfl⟩
end
end Mine

open PySem PySem.W PySem.W.X PyProof.Rows PySem.Calls PySem.Builtin.ObjectAttr
set_option maxRecDepth 100000
set_option Elab.async false
set_option autoImplicit false
set_option linter.unusedVariables false
namespace Mine
section
variable {X : Cx} {A : Around} {l : Led} {env : Env} {F F' : PH} {N N' : List (Addr × OD)} {G : Array GenState} {R : Value → Led → Prop}
theorem t_Neg {x : Expr} {op : UnaryOp} {pos : Pos} (h : Tr X A l (eval x env) fun v l1 => Tr X A l1 (unaryOp op v) R) : Tr X A l (eval (.UnaryOp op x pos) env) R := fun s E S => wpAny_UnaryOp (h.use S fun v s1 l1 S1 h1 => h1 s1 E S1)
theorem ti_neg {a : Int} {t : Tok} (h : ∀ t, R (.int (-a) t) l) : Tr X A l (unaryOp .USub (.int a t)) R := fun s E S => PySem.P.neg_int ⟨l, S.same rfl rfl rfl, h _⟩

/-! what a lexer's table says -/
inductive Act where
  | stay
  | go (l : List Str)
  | pop
structure RuleE where
  c : Nat
  ty : Addr
  act : Act
/-- the class of token types, Plain, Plain.match -/
structure Ads where
  TT : Addr
  PL : Addr
  mt : Addr
def PatAt (D : Ads) (P : Params) (F : PH) (mo : Addr) (c : Nat) : Prop :=
  ∃ pl d r r1 t, Fz P F mo (.raw (methodObj (.ref D.mt) (.ref pl))) ∧ Fz P F pl (.inst D.PL d) ∧ Fz P F d (.fld [("rows", .ref r)]) ∧ Fz P F r (.lst [.ref r1]) ∧ Fz P F r1 (.lst [.str ⟨#[c]⟩ t])
def TyAt (D : Ads) (P : Params) (F : PH) (ty : Addr) : Prop := ∃ d fs, Fz P F ty (.inst D.TT d) ∧ Fz P F d (.fld fs)
def ActAt (P : Params) (F : PH) (v : Value) : Act → Prop
  | .stay => v = .none
  | .go l => ∃ a vs, v = .ref a ∧ Fz P F a (.tup vs) ∧ Strs l vs
  | .pop => ∃ t, v = .int (-1) t
def RuleAt (D : Ads) (P : Params) (F : PH) (v : Value) (r : RuleE) : Prop := ∃ a mo av, v = .ref a ∧ Fz P F a (.tup [.ref mo, .ref r.ty, av]) ∧ PatAt D P F mo r.c ∧ TyAt D P F r.ty ∧ ActAt P F av r.act
inductive RulesAt (D : Ads) (P : Params) (F : PH) : List Value → List RuleE → Prop
  | nil : RulesAt D P F [] []
  | cons {v r vs rs} : RuleAt D P F v r → RulesAt D P F vs rs → RulesAt D P F (v :: vs) (r :: rs)
abbrev Tbl := List (Str × List RuleE)
def TableAt (D : Ads) (P : Params) (F : PH) (td : Addr) (tb : Tbl) : Prop :=
  ∃ kvs, Fz P F td (.dic kvs) ∧ ∀ st rs, tb.lookup st = some rs → ∃ sl vs, valueAt kvs st = some (.ref sl) ∧ Fz P F sl (.lst vs) ∧ RulesAt D P F vs rs ∧ vs.length ≤ 1000
theorem PatAt.mono {D : Ads} {P : Params} {mo : Addr} {c : Nat} (h : PatAt D P F mo c) (k : F.le F') : PatAt D P F' mo c :=
  let ⟨pl, d, r, r1, t, a, b, e, f, g⟩ := h; ⟨pl, d, r, r1, t, a.mono k, b.mono k, e.mono k, f.mono k, g.mono k⟩
theorem TyAt.mono {D : Ads} {P : Params} {ty : Addr} (h : TyAt D P F ty) (k : F.le F') : TyAt D P F' ty := let ⟨d, fs, a, b⟩ := h; ⟨d, fs, a.mono k, b.mono k⟩
theorem ActAt.mono {P : Params} {v : Value} {a : Act} (h : ActAt P F v a) (k : F.le F') : ActAt P F' v a := by
  cases a with
  | stay => exact h
  | go l => obtain ⟨a, vs, e, f, g⟩ := h; exact ⟨a, vs, e, f.mono k, g⟩
  | pop => exact h
theorem RuleAt.mono {D : Ads} {P : Params} {v : Value} {r : RuleE} (h : RuleAt D P F v r) (k : F.le F') : RuleAt D P F' v r :=
  let ⟨a, mo, av, e, b, c, d, f⟩ := h; ⟨a, mo, av, e, b.mono k, c.mono k, d.mono k, f.mono k⟩
theorem RulesAt.mono {D : Ads} {P : Params} {vs : List Value} {rs : List RuleE} (h : RulesAt D P F vs rs) (k : F.le F') : RulesAt D P F' vs rs := by
  induction h with
  | nil => exact .nil
  | cons a _ ih => exact .cons (a.mono k) ih
theorem TableAt.mono {D : Ads} {P : Params} {td : Addr} {tb : Tbl} (h : TableAt D P F td tb) (k : F.le F') : TableAt D P F' td tb := by
  obtain ⟨kvs, a, b⟩ := h
  refine ⟨kvs, a.mono k, fun st rs e => ?_⟩
  obtain ⟨sl, vs, c, d, f, g⟩ := b st rs e
  exact ⟨sl, vs, c, d.mono k, f.mono k, g⟩

def topOf (st : List Str) : Str := st.getLastD ""
def step1 (st : List Str) (x : Str) : List Str := if x = "#pop" then (if 1 < st.length then st.dropLast else st) else st ++ [x]
def actOn : Act → List Str → List Str
  | .stay, st => st
  | .go l, st => l.foldl step1 st
  | .pop, st => if 1 < st.length then st.dropLast else st
/-- the reading of a text -/
def lex (tb : Tbl) (er wh : Addr) : List Nat → Nat → List Str → List TokE
  | [], _, _ => []
  | c :: cs, p, st => match ((tb.lookup (topOf st)).getD []).find? (fun r => r.c == c) with
    | some r => (p, r.ty, c) :: lex tb er wh cs (p + 1) (actOn r.act st)
    | none => if c = 10 then (p, wh, 10) :: lex tb er wh cs (p + 1) ["root"] else (p, er, c) :: lex tb er wh cs (p + 1) st
/-- a stack of the table's states -/
def StOk (tb : Tbl) (st : List Str) : Prop := st ≠ [] ∧ ∀ x ∈ st, (tb.lookup x).isSome = true
/-- the rules lead to the table's states -/
def TbOk (tb : Tbl) : Prop := (tb.lookup ("root" : Str)).isSome = true ∧ ∀ st rs, tb.lookup st = some rs → ∀ r ∈ rs, r.act ≠ .pop ∧ ∀ l, r.act = .go l → l.length ≤ 10 ∧ ∀ x ∈ l, x = "#pop" ∨ (x ≠ "#push" ∧ (tb.lookup x).isSome = true)
theorem StOk.step {tb : Tbl} {st : List Str} (h : StOk tb st) {x : Str} (hx : x = "#pop" ∨ (x ≠ "#push" ∧ (tb.lookup x).isSome = true)) : StOk tb (step1 st x) := by
  unfold step1
  split
  · split
    · rename_i hl
      refine ⟨fun e => ?_, fun y hy => h.2 y (List.dropLast_sublist _ |>.subset hy)⟩
      have := congrArg List.length e
      simp at this; omega
    · exact h
  · rename_i hn
    refine ⟨by simp, fun y hy => ?_⟩
    rcases List.mem_append.mp hy with hy | hy
    · exact h.2 y hy
    · rw [List.mem_singleton.mp hy]; exact (hx.resolve_left hn).2
theorem StOk.act {tb : Tbl} {st : List Str} (h : StOk tb st) (a : Act) (ha : ∀ l, a = .go l → ∀ x ∈ l, x = "#pop" ∨ (x ≠ "#push" ∧ (tb.lookup x).isSome = true)) : StOk tb (actOn a st) := by
  cases a with
  | stay => exact h
  | pop =>
    have := h.step (x := "#pop") (.inl rfl)
    unfold step1 at this
    rw [if_pos rfl] at this
    exact this
  | go l =>
    have q := ha l rfl
    clear ha
    show StOk tb (l.foldl step1 st)
    induction l generalizing st with
    | nil => exact h
    | cons x l ih => exact ih (h.step (q x (.head _))) fun y hy => q y (.tail _ hy)
theorem StOk.top {tb : Tbl} {st : List Str} (h : StOk tb st) : ∃ rs, tb.lookup (topOf st) = some rs := by
  have : topOf st ∈ st := by
    unfold topOf
    rw [List.getLastD_eq_getLast?, List.getLast?_eq_some_getLast h.1]
    exact List.getLast_mem h.1
  exact Option.isSome_iff_exists.mp (h.2 _ this)
theorem step1_len (st : List Str) (x : Str) : (step1 st x).length ≤ st.length + 1 := by
  unfold step1
  split
  · split <;> simp <;> omega
  · simp
theorem actOn_len (a : Act) (st : List Str) (h : ∀ l, a = .go l → l.length ≤ 10) : (actOn a st).length ≤ st.length + 10 := by
  cases a with
  | stay => exact Nat.le_add_right ..
  | pop => show (if 1 < st.length then st.dropLast else st).length ≤ _; split <;> simp <;> omega
  | go l =>
    have q : ∀ (l : List Str) (st : List Str), (l.foldl step1 st).length ≤ st.length + l.length := by
      intro l
      induction l with
      | nil => intro st; exact Nat.le_refl _
      | cons x l ih => intro st; have := ih (step1 st x); have := step1_len st x; simp only [List.foldl_cons, List.length_cons]; omega
    have := q l st
    have := h l rfl
    show (l.foldl step1 st).length ≤ _
    omega

/-- the post of a generator's part -/
def GPost (X : Cx) (n : Nat) (ts : List TokE) (F : PH) (N : List (Addr × OD)) (G : Array GenState) (e : End) (l' : Led) : Prop := match ts with
  | [] => e = .ret (.ok (.ret .none)) ∧ l' = ⟨F, N, G⟩
  | e₀ :: ts => ∃ lw k c p fs own' a t1 t2, e = .susp (.ref a) false lw k c p fs ∧ fs.any Frame.guarded = false ∧ l' = ⟨F, own' ++ (a, tokT e₀ t1 t2) :: N, G⟩ ∧ GenOk X n ts F e.genState own'
theorem genOk_of {n : Nat} {ts : List TokE} {gs : GenState} {own : List (Addr × OD)} (h : ∀ F' A N G, F.le F' → Rm A n → GRes X A gs ⟨F', own ++ N, G⟩ (GPost X n ts F' N G)) : GenOk X n ts F gs own := by
  cases ts with
  | nil => exact h
  | cons e ts => exact h
/-- the frames above a loop end quietly -/
structure Quiet (X : Cx) (fs : List Frame) : Prop where
  ok : FsOk fs
  fin : ∀ A c l (P : End → Led → Prop), P (.ret (.ok (.ret .none))) l → Sg X A c (.pure (.done .next)) fs l P
theorem Strs.len {xs : List Str} {vs : List Value} (h : Strs xs vs) : vs.length = xs.length := by
  induction h with
  | nil => rfl
  | cons _ ih => simp [ih]
theorem Strs.last {xs : List Str} {vs : List Value} (h : Strs xs vs) (hn : xs ≠ []) : ∃ t, vs[(-1 + (vs.length : Int)).toNat]? = some (.str (topOf xs) t) := by
  have e : (-1 + (vs.length : Int)).toNat = vs.length - 1 := by omega
  rw [e, ← List.getLast?_eq_getElem?]
  clear e
  unfold topOf
  rw [List.getLastD_eq_getLast?]
  induction h with
  | nil => exact absurd rfl hn
  | @cons x t xs vs h ih =>
    cases h with
    | nil => exact ⟨t, rfl⟩
    | @cons y u ys ws h' =>
      rw [List.getLast?_cons_cons, List.getLast?_cons_cons]
      exact ih (by simp)
theorem RulesAt.get {D : Ads} {P : Params} {vs : List Value} {rs : List RuleE} (h : RulesAt D P F vs rs) : ∀ {i : Nat}, i < vs.length → ∃ v r, vs[i]? = some v ∧ rs[i]? = some r ∧ RuleAt D P F v r := by
  induction h with
  | nil => intro i hi; exact absurd hi (Nat.not_lt_zero _)
  | @cons v r vs rs a _ ih =>
    intro i hi
    cases i with
    | zero => exact ⟨v, r, rfl, rfl, a⟩
    | succ i => exact ih (by simpa using hi)
theorem RulesAt.len {D : Ads} {P : Params} {vs : List Value} {rs : List RuleE} (h : RulesAt D P F vs rs) : vs.length = rs.length := by
  induction h with
  | nil => rfl
  | cons _ _ ih => simp [ih]
theorem fsOk_while {fs : List Frame} {k : Result → Sem Fin} {lw : List Value} {t : Expr} {b o : List Stmt} {e : Env} {p : Pos} {kp} (f : FsOk fs) : FsOk (.ret k none false lw (.whileLoop t b o e) p kp :: fs) := by
  have w : (Code.whileLoop t b o e).weight = 0 := rfl
  have u : (Code.whileLoop t b o e).cUnits = 0 := rfl
  exact fsOk_ret f (by rw [w]; have := f.cnt; omega) (by rw [u]; have := f.un; omega)
theorem fsOk_func {k : Result → Sem Fin} {lw : List Value} {b : List Stmt} {e : Env} {p : Pos} {kp} : FsOk [.ret k none false lw (.func b e) p kp] := fsOk_ret fsOk_nil (by exact Nat.le_of_ble_eq_true rfl) (by exact Nat.le_of_ble_eq_true rfl)
theorem sg_wk {c : Code} {t : Sem Fin} {fs : List Frame} {P : End → Led → Prop} (h : Sg X A c t fs l fun e l' => ∃ N, Pick l'.N N ∧ P e ⟨l'.F, N, l'.G⟩) : Sg X A c t fs l P :=
  fun s S => (h s S).mono fun e s' ⟨l', S', N, p, r⟩ => ⟨⟨l'.F, N, l'.G⟩, At.pick S' p, r⟩
theorem sg_fix {c : Code} {t : Sem Fin} {fs : List Frame} {P : End → Led → Prop} {L : Addr} {f f' : List (Str × Value)} {N1 N2 : List (Addr × OD)} (p1 : Pick N ((L, .ns f) :: N1)) (p3 : Pick ((L, .ns f') :: N1) N2) (p2 : Pick f f')
    (h : Sg X A c t fs ⟨F, N2, G⟩ P) : Sg X A c t fs ⟨F, N, G⟩ P := sg_pick p1 (sg_nsub p2 (sg_pick p3 h))
theorem find_none {rs : List RuleE} {c : Nat} {o : Option Nat} (ho : o = some c) (h : ∀ r ∈ rs, o ≠ some r.c) : rs.find? (fun r => r.c == c) = none := by
  rw [List.find?_eq_none]
  intro r hr e
  exact h r hr (by rw [ho, beq_iff_eq.mp e])
theorem find_at {rs : List RuleE} {c i : Nat} {r : RuleE} {o : Option Nat} (ho : o = some c) (h : ∀ r ∈ rs.take i, o ≠ some r.c) (hi : rs[i]? = some r) (hc : r.c = c) : rs.find? (fun r => r.c == c) = some r := by
  obtain ⟨hlt, hv⟩ := List.getElem?_eq_some_iff.mp hi
  have e : rs = rs.take i ++ r :: rs.drop (i + 1) := by
    conv => lhs; rw [← List.take_append_drop i rs, List.drop_eq_getElem_cons hlt, hv]
  rw [e, List.find?_append, find_none ho h]
  simp [hc]
theorem cl_nsub {c : Code} {R : Flow → Led → Prop} {L : Addr} {f f' : List (Str × Value)} (p : Pick f f') (h : Cl X A ⟨F, (L, .ns f') :: N, G⟩ c R) : Cl X A ⟨F, (L, .ns f) :: N, G⟩ c R := fun s R' S k => h s R' (At.nsub S p) k
theorem cl_fix {c : Code} {R : Flow → Led → Prop} {L : Addr} {f f' : List (Str × Value)} {N1 N2 : List (Addr × OD)} (p1 : Pick N ((L, .ns f) :: N1)) (p3 : Pick ((L, .ns f') :: N1) N2) (p2 : Pick f f')
    (h : Cl X A ⟨F, N2, G⟩ c R) : Cl X A ⟨F, N, G⟩ c R := cl_pick p1 (cl_nsub p2 (cl_pick p3 h))
theorem tr_fix {α : Type} {t : Sem α} {R : α → Led → Prop} {L : Addr} {f f' : List (Str × Value)} {N1 N2 : List (Addr × OD)} (p1 : Pick N ((L, .ns f) :: N1)) (p3 : Pick ((L, .ns f') :: N1) N2) (p2 : Pick f f')
    (h : Tr X A ⟨F, N2, G⟩ t R) : Tr X A ⟨F, N, G⟩ t R := tr_pick p1 (tr_nsub p2 (tr_pick p3 h))
theorem cl_ind {target : Expr} {it : Value} {body orelse : List Stmt} {R : Flow → Led → Prop} {Inv : Nat → Led → Prop}
    (step : ∀ k l, (∀ j, j < k → ∀ l, Inv j l → Cl X A l (.forLoop target it body orelse env) R) → Inv k l → Cl X A l (.forLoop target it body orelse env) R) (k : Nat) : ∀ l, Inv k l → Cl X A l (.forLoop target it body orelse env) R := by
  induction k using Nat.strongRecOn with
  | ind k ih => exact fun l h => step k l ih h
theorem lex_hit {tb : Tbl} {er wh : Addr} {x : Str} {p c i : Nat} {st : List Str} {rs : List RuleE} {r : RuleE} (hx : x.cps[p]? = some c) (hrs : tb.lookup (topOf st) = some rs) (hno : ∀ r ∈ rs.take i, x.cps[p]? ≠ some r.c) (hi : rs[i]? = some r) (hc : r.c = c) :
    lex tb er wh (x.cps.toList.drop p) p st = (p, r.ty, c) :: lex tb er wh (x.cps.toList.drop (p + 1)) (p + 1) (actOn r.act st) := by
  obtain ⟨hlt, hv⟩ := Array.getElem?_eq_some_iff.mp hx
  have e : x.cps.toList.drop p = c :: x.cps.toList.drop (p + 1) := by
    rw [List.drop_eq_getElem_cons (by simpa using hlt)]
    simp [hv]
  rw [e]
  show (match ((tb.lookup (topOf st)).getD []).find? (fun r => r.c == c) with | some r => _ | none => _) = _
  rw [hrs, Option.getD_some, find_at hx hno hi hc]
theorem lex_miss {tb : Tbl} {er wh : Addr} {x : Str} {p c : Nat} {st : List Str} {rs : List RuleE} (hx : x.cps[p]? = some c) (hrs : tb.lookup (topOf st) = some rs) (hno : ∀ r ∈ rs, x.cps[p]? ≠ some r.c) :
    lex tb er wh (x.cps.toList.drop p) p st = if c = 10 then (p, wh, 10) :: lex tb er wh (x.cps.toList.drop (p + 1)) (p + 1) ["root"] else (p, er, c) :: lex tb er wh (x.cps.toList.drop (p + 1)) (p + 1) st := by
  obtain ⟨hlt, hv⟩ := Array.getElem?_eq_some_iff.mp hx
  have e : x.cps.toList.drop p = c :: x.cps.toList.drop (p + 1) := by
    rw [List.drop_eq_getElem_cons (by simpa using hlt)]
    simp [hv]
  rw [e]
  show (match ((tb.lookup (topOf st)).getD []).find? (fun r => r.c == c) with | some r => _ | none => _) = _
  rw [hrs, Option.getD_some, find_none hx hno]
theorem lex_end {tb : Tbl} {er wh : Addr} {x : Str} {p : Nat} {st : List Str} (hx : x.length ≤ p) : lex tb er wh (x.cps.toList.drop p) p st = [] := by
  rw [List.drop_of_length_le (by simpa [Str.length] using hx)]; rfl
theorem gpost_cons {n : Nat} {e₀ : TokE} {ts ts' : List TokE} {Nc N2 own' : List (Addr × OD)} {a : Addr} {t1 t2 : Tok} {lw : List Value} {k : Resume → Sem Fin} {c : Code} {p : Pos} {fs : List Frame} (gd : fs.any Frame.guarded = false) (et : ts' = e₀ :: ts) (e : N2 = own' ++ (a, tokT e₀ t1 t2) :: N) (pk : Pick Nc N2)
    (ok : ∀ F' A N G, F.le F' → Rm A n → Sg X A c (k (.send .none)) fs ⟨F', own' ++ N, G⟩ (GPost X n ts F' N G)) :
    ∃ N2, Pick Nc N2 ∧ GPost X n ts' F N G (.susp (.ref a) false lw k c p fs) ⟨F, N2, G⟩ := by
  subst et e
  exact ⟨_, pk, lw, k, c, p, fs, own', a, t1, t2, rfl, gd, rfl, genOk_of ok⟩
theorem Strs.get {xs : List Str} {vs : List Value} (h : Strs xs vs) : ∀ {i : Nat} {x : Str}, xs[i]? = some x → ∃ t, vs[i]? = some (.str x t) := by
  induction h with
  | nil => intro i x e; simp at e
  | @cons y t xs vs _ ih =>
    intro i x e
    cases i with
    | zero => simp at e; subst e; exact ⟨t, rfl⟩
    | succ i => exact ih (by simpa using e)
theorem Strs.snoc {xs : List Str} {vs : List Value} (h : Strs xs vs) (x : Str) (t : Tok) : Strs (xs ++ [x]) (vs ++ [.str x t]) := by
  induction h with
  | nil => exact .cons .nil
  | cons _ ih => exact .cons ih
theorem Strs.split {xs : List Str} {vs : List Value} (h : Strs xs vs) (hn : xs ≠ []) : ∃ ws v, vs = ws ++ [v] ∧ Strs xs.dropLast ws := by
  induction h with
  | nil => exact absurd rfl hn
  | @cons x t xs vs h ih =>
    cases h with
    | nil => exact ⟨[], .str x t, rfl, .nil⟩
    | @cons y u ys ws h' =>
      obtain ⟨w, v, e, k⟩ := ih (by simp)
      exact ⟨.str x t :: w, v, by rw [e]; rfl, by simpa [List.dropLast] using Strs.cons k⟩
end
end Mine

open PySem PySem.W PySem.W.X PyProof.Rows PySem.Calls PySem.Builtin.ObjectAttr
set_option maxRecDepth 100000
set_option Elab.async false
set_option autoImplicit false
set_option linter.unusedVariables false
namespace Mine
section
variable {X : Cx} {A : Around} {l : Led} {env : Env} {F F' : PH} {N N' : List (Addr × OD)} {G : Array GenState} {R : Value → Led → Prop}
/-- a def is entered, its arguments bound by steps -/
theorem cl_defB {f : Addr} {oc : Value} {od : Option Addr} {osl : Array (Option Value)} {body : List Stmt} {args : Args} {R : Flow → Led → Prop}
    {name qn : Str} {params : Arguments} {scope : Scope} {gl bi : Addr} {clo : List (Str × Addr)} {dfl kwd doc pm code ct : Value} {ann : Option Addr}
    (ho : X.K.lookup f = some ⟨oc, od, .func ⟨name, qn, params, .stmts body, scope, gl, clo, dfl, kwd, doc, pm, ann, code, ct, bi⟩, osl⟩) (hcd : codeIn X.K code qn = true)
    (hroom : A.depth < recursionLimit) (hco : scope.isCoroutine = false) (hgen : scope.isGenerator = false) {n : Nat} (hn : (cellNames scope.names).length = n)
    (h : Tr X A.in1 ⟨F, N, G⟩ (bindArgs ⟨name, qn, params, .stmts body, scope, gl, clo, dfl, kwd, doc, pm, ann, code, ct, bi⟩ args) fun binds l1 => Opn l1 fun F N G => ∀ L, allC n ((L, .ns []) :: N) fun cs NN =>
      TrB X A.in1 (mkEnv scope gl clo (qn ++ ".<locals>.") code bi f L cs) (fun l' => Tr X (A.deeper (mkEnv scope gl clo (qn ++ ".<locals>.") code bi f L cs)) l' (execs body (mkEnv scope gl clo (qn ++ ".<locals>.") code bi f L cs)) fun fl l'' => Wk R (.ret (flowVal fl)) l'') binds ⟨F, NN, G⟩) :
    Cl X A ⟨F, N, G⟩ (.call (.ref f) args) R := by
  intro s R' S k
  refine codeAny_call_function hroom (S.inK _ _ ho) rfl hco hgen rfl (codeRec_of S.inK hcd) ?_
  refine h.use S fun binds s1 l1 S1 h1 => ?_
  obtain ⟨F1, N1, G1⟩ := l1
  refine new_env S1 fun L cs s' hl S' => ?_
  refine TrB.use (allCells_use (allC_all (h1 L)) cs (hl.trans hn)) S' fun s2 l2 S2 h2 => ⟨S2.nolimit, ?_⟩
  refine codeAny_func (h2.use S2 fun fl s3 l3 S3 ⟨N3, p, r⟩ => ?_)
  have q := k _ s3 ⟨l3.F, N3, l3.G⟩ (S3.pick p) r
  cases fl <;> exact q
theorem t_bindV (bs : Value → List (Str × Value)) {rest : List Value} {fd : FuncData} {args : Args} {R : List (Str × Value) → Led → Prop} (e : bindArgs fd args = (newTuple rest >>= fun t => pure (bs t))) (hz : rest.length ≤ sizeLine)
    (h : ∀ a, R (bs (.ref a)) ⟨F, (a, .tup rest) :: N, G⟩) : Tr X A ⟨F, N, G⟩ (bindArgs fd args) R := by
  rw [e]
  exact tr_bind (t_newTuple hz fun a => tr_pure (h a))
theorem t_allocDict {R : Addr → Led → Prop} (h : ∀ a, R a ⟨F, (a, .dic []) :: N, G⟩) : Tr X A ⟨F, N, G⟩ (alloc { cls := .type "dict", data := .dict #[] }) R := fun s E S =>
  wpAny_alloc ⟨⟨F, (s.heap.objs.size, .dic []) :: N, G⟩, At.allocT S (D := .dic []) ⟨⟨rfl, rfl, rfl⟩, List.nodup_nil, #[], 0, rfl, .nil⟩, h _⟩
theorem t_bindVK (bs : Value → Value → List (Str × Value)) {rest : List Value} {fd : FuncData} {args : Args} {R : List (Str × Value) → Led → Prop}
    (e : bindArgs fd args = (newTuple rest >>= fun t => alloc { cls := .type "dict", data := .dict #[] } >>= fun d => pure (bs t (.ref d)))) (hz : rest.length ≤ sizeLine)
    (h : ∀ a b, R (bs (.ref a) (.ref b)) ⟨F, (b, .dic []) :: (a, .tup rest) :: N, G⟩) : Tr X A ⟨F, N, G⟩ (bindArgs fd args) R := by
  rw [e]
  exact tr_bind (t_newTuple hz fun a => tr_bind (t_allocDict fun b => tr_pure (h a b)))
theorem t_bindK (bs : Value → List (Str × Value)) {fd : FuncData} {args : Args} {R : List (Str × Value) → Led → Prop}
    (e : bindArgs fd args = (alloc { cls := .type "dict", data := .dict #[] } >>= fun d => pure (bs (.ref d))))
    (h : ∀ b, R (bs (.ref b)) ⟨F, (b, .dic []) :: N, G⟩) : Tr X A ⟨F, N, G⟩ (bindArgs fd args) R := by
  rw [e]
  exact tr_bind (t_allocDict fun b => tr_pure (h b))
end
end Mine

open PySem PySem.W PySem.W.X PyProof.Rows PySem.Calls PySem.Builtin.ObjectAttr
set_option maxRecDepth 100000
set_option Elab.async false
set_option autoImplicit false
set_option linter.unusedVariables false
namespace Mine
section
variable {X : Cx} {A : Around} {l : Led} {env : Env} {F F' : PH} {N N' : List (Addr × OD)} {G : Array GenState} {R : Value → Led → Prop} {x : Str} {t : Tok}
theorem t_isupper (h : R (.bool (Txt.isupper x)) l) : Tr X A l (call (.builtin "str.isupper") [.str x t]) R := fun s E S => PySem.SC.isupper ⟨l, S, h⟩
theorem t_argsStar {e : Expr} {p pos : Pos} {rest : List Expr} {R : List Value → Led → Prop}
    (h : Tr X A l (eval e env) fun v l1 => ∃ a vs, v = .ref a ∧ Kn X l1 a (.tup vs) ∧ vs.length ≤ 1000000 ∧ Tr X A l1 (spliced (backTo pos (starEach rest env))) fun ws => R (vs ++ ws)) :
    Tr X A l (spliced (backTo pos (starEach (.Starred e p :: rest) env))) R := fun s E S => by
  show wpAny _ A ((eval e env >>= fun v => standAt pos >>= fun _ => pure v) >>= fun v => _) _ E s
  refine wpAny_bind (wpAny_bind (h.use S fun v s1 l1 S1 h1 => wpAny_bind (wpAny_standAt (wpAny_pure ?_))))
  obtain ⟨a, vs, rfl, ha, hz, h1⟩ := h1
  have hT := tup_type ha S1
  obtain ⟨o, ho, hc, hdn, n, hd⟩ := ha.has S1
  simp only [if_true]
  refine wpAny_bind (m := notIterableAtAll (.ref a)) ?_
  unfold notIterableAtAll
  refine wpAny_bind (wpAny_specialOf hT F.slot_tuple_iter.lookup ?_)
  refine wpAny_pure ?_
  simp only [Bool.false_eq_true, if_false]
  refine wpAny_bind (wpAny_collect_seq a (.inr rfl) ho hc hd (fun h' k => ?_) (by simp [sizeLine]; omega))
  refine wpAny_bind (wpAny_holding ?_)
  refine Tr.use h1 (At.keep0 S1 k) fun ws s2 l2 S2 r => ?_
  refine wpAny_pure ⟨l2, S2, ?_⟩
  simpa using r
theorem t_evalArgsStar {pos : Pos} {f : Value} {e e2 : Expr} {p : Pos} {rest : List Expr} {R : Args → Led → Prop} (h : Tr X A l (spliced (backTo pos (starEach (.Starred e p :: e2 :: rest) env))) fun vs => R ⟨vs, []⟩)
    (he : starEach (e2 :: rest) env = (false, eval e2 env) :: starEach rest env) : Tr X A l (evalArgs f true (backTo pos (starEach (.Starred e p :: e2 :: rest) env)) []) R := fun s E S => by
  have hh := h s E S
  have e1 : starEach (.Starred e p :: e2 :: rest) env = (true, eval e env) :: (false, eval e2 env) :: starEach rest env := by
    show (true, eval e env) :: starEach (e2 :: rest) env = _
    rw [he]
  rw [e1] at hh ⊢
  unfold evalArgs
  show wpAny _ A (spliced (backTo pos ((true, eval e env) :: (false, eval e2 env) :: starEach rest env)) >>= _) _ E s
  refine wpAny_bind (wpAny_mono hh (fun vs s' h' => ?_) fun _ _ x => x)
  refine wpAny_holding ?_
  exact wpAny_bind (wpAny_pure (wpAny_bind (wpAny_pure (wpAny_pure h'))))
/-- getting a def of the class by name makes a method object -/
def boundName (K : Frag) (C : Addr) (name : Str) (f : Addr) : Bool :=
  hasDictIn K C && (findIn K (.ref C) name == some (some (.ref f))) && isFn K (.ref f) && (specialIn K (.ref f) "__get__" == some (some (.builtin "function.__get__"))) && (takesIn K (.ref f) == some false) && !(copiedNames.contains name) &&
    (findIn K (.ref C) "__getattr__" == some none)
theorem t_bound {x C d f : Addr} {fs : List (Str × Value)} {name : Str} {expr : Bool} (hx : Kn X ⟨F, N, G⟩ x (.inst C d)) (hd : Kn X ⟨F, N, G⟩ d (.fld fs)) (hf : boundName X.K C name f = true) (hg : hasGA X.K C = true) (hn : (fs.all fun p => p.1 != name) = true)
    (h : ∀ a, R (.ref a) ⟨F, (a, .raw (methodObj (.ref f) (.ref x))) :: N, G⟩) : Tr X A ⟨F, N, G⟩ (getAttr (.ref x) name expr) R := fun s E S => by
  obtain ⟨ox, od, I, _, hl, _⟩ := instAt_of (hx.has S) (hd.has S)
  simp only [boundName, Bool.and_eq_true, beq_iff_eq, Bool.not_eq_true'] at hf
  obtain ⟨⟨⟨⟨⟨⟨h1, h2⟩, h3⟩, h4⟩, h5⟩, h6⟩, h7⟩ := hf
  have hlk : lookIn name od = some none := by rw [hl, lookup_none (all_ne hn)]
  refine get_bind S.inK I (beq_iff_eq.mp hg) (findObj_fn h1 h2 h4 h5 h6 hlk) h7 ?_
  have S' : X.At ⟨F, N, G⟩ { s with toks := s.toks + 1 } := At.same S rfl rfl rfl
  exact wpAny_call (fn_get (s := { s with toks := s.toks + 1 }) S'.inK (beq_iff_eq.mp h3) (handed_on rfl ⟨⟨F, (s.heap.objs.size, .raw (methodObj (.ref f) (.ref x))) :: N, G⟩, At.allocT S (D := .raw (methodObj (.ref f) (.ref x))) ⟨rfl, rfl⟩, h _⟩))
theorem strsFrom_Strs : ∀ (tk : Nat) (xs : List Str), Strs xs (strsFrom tk xs)
  | _, [] => .nil
  | tk, x :: r => .cons (strsFrom_Strs (tk + 1) r)
open Builtin Builtin.Str in
theorem t_split {y : Str} {u : Tok} {ps : List Str} (hy : (y.length == 0) = false) (hx : x.length ≤ 1000000) (hps : Txt.split x y = ps) (hn : ps.length ≤ 1000) (h : ∀ a vs, Strs ps vs → R (.ref a) ⟨F, (a, .lst vs) :: N, G⟩) :
    Tr X A ⟨F, N, G⟩ (call (.builtin "str.split") [.str x t, .str y u]) R := fun s E S => by
  have one : ∀ s' : Shared, s' = { s with heap := s.heap.push { cls := .type "list", data := .seq [Value.str x t].toArray } } → ps = [x] → wants (fun v s' => ∃ l', X.At l' s' ∧ R v l') E (.ok (.ret (.ref s.heap.objs.size))) s' := fun s' e1 e2 => by
    subst e1 e2
    exact ⟨⟨F, (s.heap.objs.size, .lst [.str x t]) :: N, G⟩, At.allocT S (D := .lst [.str x t]) ⟨rfl, ⟨rfl, rfl⟩, 0, rfl⟩, h _ _ (.cons .nil)⟩
  unfold Txt.split at hps
  cases h1 : (decide (x.length < y.length) || decide (strKind x < strKind y))
  · rw [h1] at hps
    simp only [Bool.false_eq_true, if_false] at hps
    cases hf : (occurrences x y 0 x.length (x.length + 1)).isEmpty
    · rw [hf] at hps
      simp only [Bool.false_eq_true, if_false] at hps
      refine call_meets PySem.F.slot_str_split (typeIs_str _ _ _) PySem.F.entry_str_split (PySem.F.args_str_split_2 _ _) (meets_str_split_sep x y t u h1 hy hf (by unfold sizeLine; omega) (by rw [hps]; unfold sizeLine; omega)) ?_
      rw [hps]
      exact ⟨⟨F, (s.heap.objs.size, .lst (strsFrom s.toks ps)) :: N, G⟩, At.allocT S (D := .lst (strsFrom s.toks ps)) ⟨rfl, ⟨rfl, rfl⟩, 0, rfl⟩, h _ _ (strsFrom_Strs _ _)⟩
    · rw [hf] at hps
      simp only [if_true] at hps
      exact call_meets PySem.F.slot_str_split (typeIs_str _ _ _) PySem.F.entry_str_split (PySem.F.args_str_split_2 _ _) (meets_str_split_not_found x y t u h1 hy hf) (one _ rfl hps.symm)
  · rw [h1] at hps
    simp only [if_true] at hps
    exact call_meets PySem.F.slot_str_split (typeIs_str _ _ _) PySem.F.entry_str_split (PySem.F.args_str_split_2 _ _) (meets_str_split_cannot_occur x y t u h1) (one _ rfl hps.symm)
theorem Kn.ofK {a : Addr} {D : OD} {o : Obj} (hb : 2 < a) (e : X.K.lookup a = some o) (k : D.ok X.P o) : Kn X l a D := .inr (.inr ⟨hb, o, e, k⟩)
theorem fld1_ok {P : Params} {c : Value} {n : Nat} {x : Str} {hs : Int} {tk : Tok} {v : Value} (hc : c = .type "dict") : (OD.fld [(x, v)]).ok P ⟨c, none, .dict #[⟨hs, .str x tk, v⟩] n, #[]⟩ := by
  refine ⟨hc, rfl, by simp, _, n, rfl, fun e he => ?_, Nat.le_refl _, fun y => ?_⟩
  · have : e = ⟨hs, .str x tk, v⟩ := by simpa using he
    exact ⟨x, tk, by rw [this]⟩
  · unfold nsFind findBy
    by_cases h : y = x
    · subst h
      simp [List.lookup_cons, Value.isStr]
    · have h2 : (y == x) = false := by simpa using h
      simp [List.lookup_cons, Value.isStr, h2, Ne.symm h]
end
end Mine

open PySem PySem.W PySem.W.X PyProof.Rows PySem.Calls PySem.Builtin.ObjectAttr
set_option maxRecDepth 100000
set_option Elab.async false
set_option autoImplicit false
set_option linter.unusedVariables false
namespace Mine
section
variable {X : Cx} {A : Around} {l : Led} {env : Env} {F F' : PH} {N N' : List (Addr × OD)} {G : Array GenState} {R : Value → Led → Prop} {x : Str} {t : Tok}
theorem t_callWithKw {pos : Pos} {f : Value} {first : List Value} {args : List (Bool × Sem Value)} {kws : List (Option Str × Sem Value)} {R : Value → Led → Prop}
    (h : Tr X A l (evalArgs f true args kws) fun a l1 => CallP X A l1 f first a R) : Tr X A l (callWith pos f first args kws) R := by
  intro s E S
  unfold callWith
  refine wpAny_bind (wpAny_holding (h.use S fun a s1 l1 S1 h1 => wpAny_bind (wpAny_standAt ?_)))
  obtain ⟨hc, h1⟩ := h1
  have tail : ∀ {t : Sem Value}, wpAny X.M A t (fun v s' => ∃ l', X.At l' s' ∧ R v l') E s1 → wpAny X.M A (t >>= fun r => holding [r] point >>= fun _ => pure r) (fun v s' => ∃ l', X.At l' s' ∧ R v l') E s1 :=
    fun ht => wpAny_bind (wpAny_mono ht (fun r s₂ hr => wpAny_bind (wpAny_holding (wpAny_point (wpAny_pure hr)))) fun _ _ x => x)
  have base := h1 s1 E S1
  refine wpAny_bind (hc s1 S1 A E _ fun k => ?_)
  dsimp only
  split
  · exact tail (by unfold callMarked; exact Calls.wpAny_keep base)
  · split
    · exact tail base
    · exact tail (by unfold callMarked; exact Calls.wpAny_keep base)
  · split
    · exact tail base
    · exact tail (by unfold callMarked; exact Calls.wpAny_keep base)
  · exact tail base
  · exact tail (wpAny_operate' base)
theorem dic_empty {s : Shared} {d : Addr} (S : X.At l s) (h : Kn X l d (.dic [])) : ∃ o n, s.heap.get? d = some o ∧ o.data = .dict #[] n := by
  obtain ⟨o, ho, he, _, es, n, hd, hE⟩ := h.has S
  have : es = #[] := by
    have h0 : es.toList = [] := by cases h : es.toList with | nil => rfl | cons a b => rw [h] at hE; cases hE
    simpa using h0
  exact ⟨o, n, ho, this ▸ hd⟩
theorem merge_empty {s : Shared} {d a : Addr} {E : Value → Shared → Prop} {Q : Unit → Shared → Prop} (S : X.At l s) (hd : Kn X l d (.dic [])) (ha : Kn X l a (.dic [])) (h : Q () s) : wpAny X.M A (mergeMapping d (.ref a) true) Q E s := by
  have hT := ((ha.has S).dictOf (prog := X.prog)).typeIs
  obtain ⟨o, n, ho, hdt⟩ := dic_empty S ha
  obtain ⟨od, nd, hod, hddt⟩ := dic_empty S hd
  unfold mergeMapping
  refine wpAny_bind (wpAny_isInstance hT isSubtype_dict_dict ?_)
  rw [if_pos rfl]
  refine wpAny_bind (wpAny_specialOf hT F.slot_dict_iter.lookup ?_)
  refine wpAny_bind (wpAny_pure ?_)
  rw [show ((some (Value.builtin "dict.__iter__")) == some (Value.builtin "dict.__iter__")) = true from beq_self_eq_true _]
  dsimp only
  rw [ha.notSys S]
  rw [if_neg Bool.false_ne_true]
  refine wpAny_bind (wpAny_dictEntries hod hddt ?_)
  rw [if_pos (show (#[] : Array DictEntry).isEmpty = true from rfl)]
  refine wpAny_bind (wpAny_dictEntries ho hdt ?_)
  refine wpAny_bind ?_
  rw [← Array.forIn_toList]
  refine wpAny_pure ?_
  refine wpAny_bind (wpAny_dictEntries ho hdt (wpAny_bind (wpAny_dictEpoch ho hdt (wpAny_bind ?_))))
  rw [show List.range (#[] : Array DictEntry).size = [] from rfl]
  exact wpAny_pure (wpAny_pure h)
/-- ** of an empty dict -/
theorem t_evalArgsKw0 {f : Value} {x e : Sem Value} {R : Args → Led → Prop}
    (h : Tr X A l (spliced [(false, x)]) fun vs l1 => Opn l1 fun F N G => ∀ d, Tr X A ⟨F, (d, .dic []) :: N, G⟩ e fun v l2 => ∃ a, v = .ref a ∧ Kn X l2 a (.dic []) ∧ Kn X l2 d (.dic []) ∧ R ⟨vs, []⟩ l2) :
    Tr X A l (evalArgs f true [(false, x)] [(none, e)]) R := fun s E S => by
  unfold evalArgs
  show wpAny _ A (spliced [(false, x)] >>= _) _ E s
  refine wpAny_bind (h.use S fun vs s1 l1 S1 h1 => wpAny_bind (wpAny_pure ?_))
  obtain ⟨F1, N1, G1⟩ := l1
  refine wpAny_holding ?_
  simp only [List.all_cons, Option.isSome_none, Bool.false_and, Bool.false_eq_true, if_false]
  refine wpAny_bind ?_
  unfold mergedKeywords
  refine wpAny_bind ((t_allocDict (R := fun d l2 => l2 = ⟨F1, (d, .dic []) :: N1, G1⟩) fun a => rfl).use S1 fun d s2 l2 S2 e2 => ?_)
  subst e2
  have h2 := h1 d
  refine wpAny_bind (wpAny_holding ?_)
  refine wpAny_bind ?_
  rw [List.forIn_cons]
  refine wpAny_bind ?_
  refine wpAny_bind (wpAny_pure ?_)
  refine wpAny_bind (h2.use S2 fun v s3 l3 S3 h3 => ?_)
  obtain ⟨a, rfl, ha, hd, hR⟩ := h3
  refine wpAny_bind (wpAny_onRaise (wpAny_holding (wpAny_tryCatch (wpAny_onRaise (merge_empty S3 hd ha (wpAny_pure ?_))))))
  refine wpAny_pure ?_
  refine wpAny_bind (wpAny_pure (wpAny_pure ?_))
  refine wpAny_bind (wpAny_pure ?_)
  refine wpAny_pure ?_
  refine wpAny_bind (wpAny_pure ?_)
  refine wpAny_bind (wpAny_holding ?_)
  obtain ⟨od, nd, hod, hddt⟩ := dic_empty S3 hd
  unfold keywordsIn
  refine wpAny_bind (wpAny_dictEntries hod hddt ?_)
  refine wpAny_bind ?_
  rw [← Array.forIn_toList]
  exact wpAny_pure (wpAny_pure (wpAny_pure ⟨l3, S3, hR⟩))
/-- `o.name(x, **e)`, the method fetched by attribute -/
theorem t_MCallKw {o x e : Expr} {name : Str} {apos pos kp : Pos} {R : Value → Led → Prop}
    (h : Tr X A l (eval o env) fun ov l1 => Tr X A l1 (getAttr ov name true) fun f l2 => Tr X A l2 (callWith pos f [] (backTo pos [(false, eval x env)]) (backToKw pos [(none, eval e env)])) R)
    (he : eval (.Call (.Attribute o name apos) [x] [⟨none, e, kp⟩] pos) env = (eval o env >>= fun ov => standAt apos.atName >>= fun _ => methodCall o name apos pos env ov 2 (backTo pos [(false, eval x env)]) (backToKw pos [(none, eval e env)]))) :
    Tr X A l (eval (.Call (.Attribute o name apos) [x] [⟨none, e, kp⟩] pos) env) R := fun s E S => by
  rw [he]
  refine wpAny_bind (h.use S fun ov s1 l1 S1 h1 => wpAny_bind (wpAny_standAt ?_))
  unfold methodCall
  show wpAny _ A (holding [ov] (getAttr ov name true >>= fun v => pure (v, [])) >>= _) _ E s1
  refine wpAny_bind (wpAny_holding (wpAny_bind (h1.use S1 fun f s2 l2 S2 h2 => wpAny_pure ?_)))
  exact wpAny_bind (wpAny_pure (h2 s2 E S2))
/-- an attribute of a class, as it lies there -/
theorem t_clsVal {C : Addr} {mc v : Value} {name : Str} {expr : Bool} (hr : readsIn X.K C mc = true) (e : findCls X.K (.ref C) mc name = some (.val v)) (hh : handedIn v = true) (h : R v l) : Tr X A l (getAttr (.ref C) name expr) R :=
  fun s E S => cls_value S.inK hr e hh ⟨l, At.same S rfl rfl rfl, h⟩
theorem t_dictGet0 {a : Addr} {v : Value} (ha : Kn X l a (.dic [])) (h : R v l) : Tr X A l (call (.builtin "dict.get") [.ref a, .str x t, v]) R := t_dictGet2 ha h
end
end Mine

open PySem PySem.W PySem.W.X PyProof.Rows PySem.Calls PySem.Builtin.ObjectAttr
set_option maxRecDepth 100000
set_option Elab.async false
set_option autoImplicit false
set_option linter.unusedVariables false
namespace Mine
theorem At.two {K mg mb P F G O s} {N : List (Addr × OD)} {e it : Addr} {D0 D0' D D' Dn : OD} (S : At K mg mb P F ((e, D0) :: (it, D0') :: N) G O s) {h' : Heap}
    (hk : ∀ b o, b ≠ e → b ≠ it → s.heap.get? b = some o → h'.get? b = some o) (hD : Has P h' e D) (hD' : Has P h' it D') (hn : Has P h' s.heap.objs.size Dn) {dr : Drawn} {t : Nat} :
    At K mg mb P F ((s.heap.objs.size, Dn) :: (e, D) :: (it, D') :: N) G O ⟨h', s.gens, dr, t, s.os⟩ := by
  have he := (S.nw (e, D0) (.head _)).1
  have hi := (S.nw (it, D0') (.tail _ (.head _))).1
  have nd := S.nd
  simp only [List.map_cons] at nd
  obtain ⟨n1, n2⟩ := List.nodup_cons.mp nd
  obtain ⟨n3, n4⟩ := List.nodup_cons.mp n2
  refine ⟨S.top, fun b x eq => ?_, fun p hp => ?_, ?_, S.gn, S.os⟩
  · exact hk b x (fun q => by rw [q, he.2] at eq; cases eq) (fun q => by rw [q, hi.2] at eq; cases eq) (S.fz b x eq)
  · rcases List.mem_cons.mp hp with rfl | hp
    · refine ⟨⟨?_, S.fresh.1⟩, hn⟩
      obtain ⟨_, _, _, hg, _⟩ := S.top.g
      exact Nat.lt_trans (by decide) (Heap.lt_size (S.fz _ _ hg))
    · rcases List.mem_cons.mp hp with rfl | hp
      · exact ⟨he, hD⟩
      · rcases List.mem_cons.mp hp with rfl | hp
        · exact ⟨hi, hD'⟩
        · obtain ⟨y, x, hx, r⟩ := S.nw p (.tail _ (.tail _ hp))
          have hm : p.1 ∈ N.map (·.1) := List.mem_map_of_mem (f := (·.1)) hp
          exact ⟨y, x, hk _ _ (fun q => n1 (.tail _ (q ▸ hm))) (fun q => n3 (q ▸ hm)) hx, r⟩
  · simp only [List.map_cons]
    refine List.nodup_cons.mpr ⟨?_, nd⟩
    have := S.fresh.2
    simpa only [List.map_cons] using this
section
variable {X : Cx} {A : Around} {l : Led} {env : Env} {F F' : PH} {N N1 N2 N' : List (Addr × OD)} {G : Array GenState} {R : Value → Led → Prop} {RO : Option Value → Led → Prop} {RU : Unit → Led → Prop} {x : Str} {t : Tok}
/-! enumerate -/
abbrev enumO (it : Addr) (i : Nat) (old : Value) : OD := .raw { cls := .type "enumerate", dict := none, data := .fields #[.none, .bool false, .ref it, rawInt (i : Int), .none, old], slots := #[] }
abbrev enumX (a it : Addr) (i : Nat) (old : Value) : OD := .raw { cls := .type "enumerate", dict := none, data := .fields #[rawInt (a : Int), .bool false, .ref it, rawInt (i : Int), .none, old], slots := #[] }
abbrev itS (x : Str) (t : Tok) (i : Nat) : OD := .rcd (strIterType x) [.str x t, .int (i : Int) 0]
theorem enumO_is {s : Shared} (S : X.At l s) {e it : Addr} {i : Nat} {old : Value} (h : Kn X l e (enumO it i old)) : IsEnum s.heap e it i old := by
  obtain ⟨o, ho, q, _⟩ := h.has S
  rw [q] at ho; exact ho
theorem At.new2 {K mg mb P F G O s} {N : List (Addr × OD)} (S : At K mg mb P F N G O s) {h' : Heap} (k : ∀ b o, s.heap.get? b = some o → h'.get? b = some o) {D1 D2 : OD} (h1 : Has P h' s.heap.objs.size D1) (h2 : Has P h' (s.heap.objs.size + 1) D2) {dr : Drawn} {t : Nat} :
    At K mg mb P F ((s.heap.objs.size + 1, D2) :: (s.heap.objs.size, D1) :: N) G O ⟨h', s.gens, dr, t, s.os⟩ := by
  have S1 : At K mg mb P F ((s.heap.objs.size, D1) :: N) G O ⟨h', s.gens, dr, t, s.os⟩ := At.keep1 S k (Nat.le_refl _) h1
  refine ⟨S1.top, S1.fz, fun p hp => ?_, ?_, S1.gn, S1.os⟩
  · rcases List.mem_cons.mp hp with rfl | hp
    · have hb := (S1.nw _ (.head _)).1.1
      refine ⟨⟨Nat.lt_succ_of_lt hb, ?_⟩, h2⟩
      show F (s.heap.objs.size + 1) = none
      cases hF : F (s.heap.objs.size + 1) with
      | none => rfl
      | some o => exact absurd (Heap.lt_size (S.fz _ _ hF)) (Nat.not_lt.mpr (Nat.le_succ _))
    · exact S1.nw p hp
  · rw [List.map_cons]
    refine List.nodup_cons.mpr ⟨fun hm => ?_, S1.nd⟩
    rw [List.map_cons] at hm
    rcases List.mem_cons.mp hm with hm | hm
    · exact absurd hm (Nat.succ_ne_self _)
    · obtain ⟨p, hp, q⟩ := List.mem_map.mp hm
      obtain ⟨_, o, ho, _⟩ := S.nw p hp
      have := Heap.lt_size ho
      rw [q] at this
      exact absurd this (Nat.not_lt.mpr (Nat.le_succ _))
theorem t_enumList {a : Addr} {vs : List Value} (ha : Kn X ⟨F, N, G⟩ a (.lst vs)) (h : ∀ e it, R (.ref e) ⟨F, (e, enumO it 0 .none) :: (it, itL a 0) :: N, G⟩) :
    Tr X A ⟨F, N, G⟩ (call (.type "enumerate") [.ref a]) R := fun s E S =>
  call_enumerate_list (ha.has S).isList fun h' he hit hz hk =>
    ⟨⟨F, (s.heap.objs.size + 1, enumO s.heap.objs.size 0 .none) :: (s.heap.objs.size, itL a 0) :: N, G⟩, At.new2 S hk (D1 := itL a 0) (D2 := enumO s.heap.objs.size 0 .none) hit ⟨_, he, rfl, rfl⟩, h _ _⟩
theorem t_enumStr (h : ∀ e it, R (.ref e) ⟨F, (e, enumO it 0 .none) :: (it, itS x t 0) :: N, G⟩) :
    Tr X A ⟨F, N, G⟩ (call (.type "enumerate") [.str x t]) R := fun s E S =>
  call_enumerate_str fun h' he hit hz hk =>
    ⟨⟨F, (s.heap.objs.size + 1, enumO s.heap.objs.size 0 .none) :: (s.heap.objs.size, itS x t 0) :: N, G⟩, At.new2 S hk (D1 := itS x t 0) (D2 := enumO s.heap.objs.size 0 .none) hit ⟨_, he, rfl, rfl⟩, h _ _⟩
theorem t_iterEnum {e it : Addr} {i : Nat} {old : Value} (he : (e, enumO it i old) ∈ N) (h : R (.ref e) ⟨F, N, G⟩) : Tr X A ⟨F, N, G⟩ (pyIter (.ref e)) R := fun s E S =>
  wpAny_pyIter_enum (enumO_is S (Kn.row' he)) ⟨_, S, h⟩
theorem At.front2 {K mg mb P F G O s} {N N1 N2 : List (Addr × OD)} {p q : Addr × OD} (S : At K mg mb P F N G O s) (r1 : Rem N p N1) (r2 : Rem N1 q N2) : At K mg mb P F (p :: q :: N2) G O s :=
  S.perm ((r1.perm.trans (r2.perm.cons _)).symm)
theorem t_nextEnumL {e it a : Addr} {i : Nat} {old v : Value} {vs : List Value} (r1 : Rem N (e, enumO it i old) N1) (r2 : Rem N1 (it, itL a i) N2) (ha : Kn X ⟨F, N, G⟩ a (.lst vs)) (hv : vs[i]? = some v)
    (h : ∀ t tk, RO (some (.ref t)) ⟨F, (t, .tup [.int (i : Int) tk, v]) :: (e, enumX t it (i + 1) v) :: (it, itL a (i + 1)) :: N2, G⟩) : Tr X A ⟨F, N, G⟩ (pyNext (.ref e)) RO := fun s E S => by
  have S2 := At.front2 S r1 r2
  have hne : e ≠ it := fun q => by
    have nd := S2.nd
    simp only [List.map_cons] at nd
    exact (List.nodup_cons.mp nd).1 (q ▸ .head _)
  refine wpAny_pyNext_enum_item (i := i) (enumO_is (l := ⟨F, N, G⟩) S (Kn.row' (r1.mem _ (.head _)))) (S2.led (a := it) (D := itL a i) (.tail _ (.head _))) (ha.has S).isList (by simpa using hv) hne fun h' hx hit ht hz hk => ?_
  exact ⟨_, At.two (D := enumX s.heap.objs.size it (i + 1) v) (D' := itL a (i + 1)) (Dn := .tup [.int (i : Int) s.toks, v]) S2 hk ⟨_, hx, rfl, rfl⟩ hit ⟨_, ht, rfl, rfl, 0, rfl⟩, h _ _⟩
theorem t_nextEnumLEnd {e it a : Addr} {i : Nat} {old : Value} {vs : List Value} (hh : A.handled = none) (r1 : Rem N (e, enumO it i old) N1) (r2 : Rem N1 (it, itL a i) N2) (ha : Kn X ⟨F, N, G⟩ a (.lst vs)) (hv : vs.length ≤ i)
    (h : RO none ⟨F, N2, G⟩) : Tr X A ⟨F, N, G⟩ (pyNext (.ref e)) RO := fun s E S => by
  have S2 := At.front2 S r1 r2
  refine wpAny_pyNext_enum_end (i := i) hh (enumO_is (l := ⟨F, N, G⟩) S (Kn.row' (r1.mem _ (.head _)))) (S2.led (a := it) (D := itL a i) (.tail _ (.head _))) (ha.has S).isList (by simpa using hv) fun h' hk => ?_
  exact ⟨⟨F, N2, G⟩, At.tl (At.ext S2 (.tail .head) hk), h⟩
theorem itS_draws (hh : A.handled = none) (it : Addr) (x : Str) (t : Tok) : Draws X.prog X.w A it [it] x.cps.size (fun i v => ∃ c u, x.cps[i]? = some c ∧ v = .str ⟨#[c]⟩ u) (fun i h => h.IsStrIter it (strIterType x) x t i) := by
  unfold strIterType
  split
  · exact Draws.strAscii hh it x t
  · exact Draws.strWide hh it x t
theorem t_nextEnumS {e it : Addr} {i c : Nat} {old : Value} (hh : A.handled = none) (r1 : Rem N (e, enumO it i old) N1) (r2 : Rem N1 (it, itS x t i) N2) (hv : x.cps[i]? = some c)
    (h : ∀ t' tk u, RO (some (.ref t')) ⟨F, (t', .tup [.int (i : Int) tk, .str ⟨#[c]⟩ u]) :: (e, enumX t' it (i + 1) (.str ⟨#[c]⟩ u)) :: (it, itS x t (i + 1)) :: N2, G⟩) : Tr X A ⟨F, N, G⟩ (pyNext (.ref e)) RO := fun s E S => by
  have S2 := At.front2 S r1 r2
  have hne : e ≠ it := fun q => by
    have nd := S2.nd
    simp only [List.map_cons] at nd
    exact (List.nodup_cons.mp nd).1 (q ▸ .head _)
  have hlt : i < x.cps.size := (Array.getElem?_eq_some_iff.mp hv).1
  have hst : s.heap.IsStrIter it (strIterType x) x t i := S2.led (a := it) (D := itS x t i) (.tail _ (.head _))
  refine wpAny_pyNext_enum_itemD (St := fun i h => h.IsStrIter it (strIterType x) x t i) (fp := [it]) (itS_draws (X := X) (A := A.in1) hh it x t) (i := i) (enumO_is (l := ⟨F, N, G⟩) S (Kn.row' (r1.mem _ (.head _)))) hst hlt hne (by simpa using hne) fun v h' tk hP hx hit ht hz hk => ?_
  obtain ⟨c', u, hc', rfl⟩ := hP
  obtain rfl : c = c' := Option.some.inj (hv.symm.trans hc')
  obtain ⟨oi, hoi, hci, hdi⟩ := hit
  exact ⟨_, At.two (D := enumX s.heap.objs.size it (i + 1) (.str ⟨#[c]⟩ u)) (D' := itS x t (i + 1)) (Dn := .tup [.int (i : Int) tk, .str ⟨#[c]⟩ u]) S2 hk ⟨_, hx, rfl, rfl⟩ ⟨oi, hoi, hci, hdi⟩ ⟨_, ht, rfl, rfl, 0, rfl⟩, h _ _ _⟩
theorem t_nextEnumSEnd {e it : Addr} {i : Nat} {old : Value} (hh : A.handled = none) (r1 : Rem N (e, enumO it i old) N1) (r2 : Rem N1 (it, itS x t i) N2) (hv : i = x.cps.size)
    (h : RO none ⟨F, N2, G⟩) : Tr X A ⟨F, N, G⟩ (pyNext (.ref e)) RO := fun s E S => by
  have S2 := At.front2 S r1 r2
  subst hv
  have hst : s.heap.IsStrIter it (strIterType x) x t x.cps.size := S2.led (a := it) (D := itS x t x.cps.size) (.tail _ (.head _))
  refine wpAny_pyNext_enum_endD (St := fun i h => h.IsStrIter it (strIterType x) x t i) (fp := [it]) (itS_draws (X := X) (A := A.in1) hh it x t) (enumO_is (l := ⟨F, N, G⟩) S (Kn.row' (r1.mem _ (.head _)))) hst fun h' hk => ?_
  exact ⟨⟨F, N2, G⟩, At.tl (At.ext S2 (.tail .head) hk), h⟩
theorem t_goTupE {elts : List Expr} {k : Nat} {pos : Pos} {e it v : Addr} {i : Nat} {old : Value} (he : (e, enumX v it i old) ∈ N) (u : LUpd N e (enumO it i old) N') (h : RU () ⟨F, N', G⟩) :
    Tr X A ⟨F, N, G⟩ (letOwnedTupleGo (.Tuple elts k pos) (.ref e) (.ref v)) RU := fun s E S => by
  obtain ⟨o, ho, q, _⟩ := S.led he
  rw [q] at ho
  exact wpAny_letOwnedTupleGo_enum ho fun h' he' sb => ⟨⟨F, N', G⟩, S.updT u sb ⟨_, he', rfl, rfl⟩, h⟩
end
end Mine

open PySem PySem.W PySem.W.X PyProof.Rows PySem.Calls PySem.Builtin.ObjectAttr
set_option maxRecDepth 100000
set_option Elab.async false
set_option autoImplicit false
set_option linter.unusedVariables false
namespace Mine
section
variable {X : Cx} {A : Around} {l : Led} {env : Env} {F F' : PH} {N N1 N2 N' : List (Addr × OD)} {G : Array GenState} {R : Value → Led → Prop} {RO : Option Value → Led → Prop} {RU : Unit → Led → Prop} {RF : Flow → Led → Prop} {x y : Str} {t u : Tok}
/-! statements -/
theorem t_Assign2 {t₁ t₂ value : Expr} {pos : Pos} (h : Tr X A l (eval value env) fun v l1 => Tr X A l1 (assign t₁ env v) fun _ l2 => Tr X A l2 (assign t₂ env v) fun _ => RF .next)
    (he : (assignEach [t₁, t₂] env).map (·.2) = [assign t₁ env, assign t₂ env]) (hw : swappedStores [t₁, t₂] value env = pure none) : Tr X A l (exec (.Assign [t₁, t₂] value pos) env) RF := fun s E S =>
  wpAny_Assign_two (h.use S fun _ s1 l1 S1 h1 => h1.use S1 fun _ s2 l2 S2 h2 => h2 s2 E S2) he hw
theorem t_AssignTup {elts : List Expr} {k : Nat} {tpos pos : Pos} {value : Expr} (h : Tr X A l (eval value env) fun v l1 => Tr X A l1 (assign (.Tuple elts k tpos) env v) fun _ => RF .next)
    (hs : swapsWithSole [.Tuple elts k tpos] value pos.line env = pure false) (hw : swappedStores [.Tuple elts k tpos] value env = pure none) : Tr X A l (exec (.Assign [.Tuple elts k tpos] value pos) env) RF := fun s E S =>
  Assign_Tuple (h.use S fun _ s1 l1 S1 h1 => h1 s1 E S1) hs hw
theorem t_AssignTupSw {elts : List Expr} {k : Nat} {tpos pos : Pos} {value : Expr} {names : List Str} (h : Tr X A l (eval value env) fun v l1 => Tr X A l1 (unpackItems v names.length none) fun items l2 => Tr X A l2 (assignInOrder (names.reverse.map fun n => bindName env n) items.reverse) fun _ => RF .next)
    (hs : swapsWithSole [.Tuple elts k tpos] value pos.line env = pure false) (hw : swappedStores [.Tuple elts k tpos] value env = pure (some names)) : Tr X A l (exec (.Assign [.Tuple elts k tpos] value pos) env) RF := fun s E S =>
  Assign_Tuple_swapped (h.use S fun _ s1 l1 S1 h1 => h1.use S1 fun _ s2 l2 S2 h2 => h2 s2 E S2) hs hw
theorem t_assignSub {o i : Expr} {p : Pos} {v : Value} (h : Tr X A l (eval o env) fun ov l1 => Tr X A l1 (eval i env) fun iv l2 => Tr X A l2 (setItem ov iv v) RU) : Tr X A l (assign (.Subscript o i p) env v) RU := fun s E S => by
  rw [assign_Subscript]
  refine wpAny_bind (wpAny_holding (h.use S fun ov s1 l1 S1 h1 => wpAny_bind (wpAny_holding (h1.use S1 fun iv s2 l2 S2 h2 => wpAny_bind (wpAny_standAt (wpAny_bind (wpAny_holding (h2.use S2 fun _ s3 l3 S3 h3 => ?_))))))))
  intro Γ p hΓ
  rw [Sem.wp_release]
  exact ⟨l3, S3, h3⟩
theorem t_Assert {test : Expr} {msg : Option Expr} {pos : Pos} (h : Tr X A l (isTrue test env (eval test env)) fun b l1 => b = true ∧ RF .next l1) : Tr X A l (exec (.Assert test msg pos) env) RF := fun s E S =>
  wpAny_Assert_holds (h.use S fun b s1 l1 S1 h1 => ⟨h1.1, l1, S1, h1.2⟩)
theorem t_Dict0 {pos : Pos} (h : ∀ d, R (.ref d) ⟨F, (d, .dic []) :: N, G⟩) : Tr X A ⟨F, N, G⟩ (eval (.Dict [] [] pos) env) R := fun s E S => by
  rw [eval_Dict_empty]
  exact wpAny_bind (wpAny_standAt (t_newDict h s E S))

/-! tuples, dicts -/
theorem tt_dict {a : Addr} {kvs : List (Str × Value)} {RB : Bool → Led → Prop} (ha : Kn X l a (.dic kvs)) (hz : kvs.length ≤ 1000000) (h : RB (!kvs.isEmpty) l) : Tr X A l (truthy (.ref a)) RB := fun s E S =>
  wpAny_truthy_dict (ha.notSys S) ((ha.has S).dictOf (prog := X.prog)) (by omega) ⟨l, S.same rfl rfl rfl, h⟩
theorem t_lenT {a : Addr} {vs : List Value} (ha : Kn X l a (.tup vs)) (hz : vs.length ≤ 1000000) (h : ∀ t, R (.int vs.length t) l) : Tr X A l (call (.builtin "len") [.ref a]) R := fun s E S =>
  PyProof.Rows.len_tuple (ha.has S).isTup (by simp; omega) ⟨l, S.same rfl rfl rfl, by simpa using h _⟩
theorem t_itemTup {i : Int} {a : Addr} {vs : List Value} {v : Value} (ha : Kn X l a (.tup vs)) (hi : 0 ≤ i) (hz : i < 2 ^ 63) (hv : vs[i.toNat]? = some v) (h : R v l) : Tr X A l (getItem (.ref a) (.int i u)) R := fun s E S => by
  have hlt : i.toNat < vs.length := (List.getElem?_eq_some_iff.mp hv).1
  refine PyProof.Rows.getItem_tuple (j := i.toNat) (ha.has S).isTup (by omega) hz ?_ (by simpa using hv) ⟨l, S, h⟩
  unfold seqIndex?
  simp [show ¬ i < 0 by omega, hi, show i < (vs.length : Int) by omega]
/-- the keys of these pairs, as strs -/
inductive Keys : List (Str × Value) → List Value → Prop
  | nil : Keys [] []
  | cons {k v t kvs vs} : Keys kvs vs → Keys ((k, v) :: kvs) (.str k t :: vs)
theorem keys_of : ∀ {kvs : List (Str × Value)} {vs : List Value}, vs.length = kvs.length → (∀ (i : Nat) (h : i < vs.length), ∃ k x, kvs[i]? = some (k, x) ∧ ∃ t, vs[i] = Value.str k t) → Keys kvs vs
  | [], [], _, _ => .nil
  | (k, x) :: kvs, v :: vs, hl, h => by
    obtain ⟨k', x', e, t, e2⟩ := h 0 (Nat.zero_lt_succ _)
    cases Option.some.inj (show some (k, x) = some (k', x') from e)
    rw [show v = Value.str k t from e2]
    exact .cons (keys_of (Nat.succ.inj hl) fun i hi => h (i + 1) (Nat.succ_lt_succ hi))
theorem t_listOfDict {a : Addr} {kvs : List (Str × Value)} (hh : A.handled = none) (ha : Kn X ⟨F, N, G⟩ a (.dic kvs)) (hz : kvs.length ≤ 1000000) (h : ∀ b vs, Keys kvs vs → R (.ref b) ⟨F, (b, .lst vs) :: N, G⟩) :
    Tr X A ⟨F, N, G⟩ (call (.type "list") [.ref a]) R := fun s E S => by
  obtain ⟨ep, hm⟩ := ((ha.has S).dictOf (prog := X.prog)).dictAt
  refine kdl_call (kdl_dict (ha.notSys S)) hh hm (by unfold sizeLine; omega) fun h' tk acc' c' hk hb hit => ?_
  refine ⟨_, At.keep1 S hk (D := .lst acc'.toList) (Nat.le_refl _) ⟨_, hb, rfl, ⟨rfl, rfl⟩, c', by simp⟩, h _ _ ?_⟩
  refine keys_of (by rw [Array.length_toList]; exact hit.1) fun i hi => ?_
  obtain ⟨k, x, e, hk⟩ := hit.2 i acc'.toList[i] (by rw [← Array.getElem?_toList]; exact List.getElem?_eq_getElem hi)
  exact ⟨k, x, e, Value.isStrOf_shape hk⟩
/-! items of a dict -/
/-- a frozen dict, with its epoch -/
def FzD (P : Params) (F : PH) (a : Addr) (kvs : List (Str × Value)) (ep : Nat) : Prop := 2 < a ∧ ∃ o es, F a = some o ∧ (OD.dic kvs).ok P o ∧ o.data = .dict es ep
theorem FzD.of {P : Params} {a : Addr} {kvs : List (Str × Value)} (h : Fz P F a (.dic kvs)) : ∃ ep, FzD P F a kvs ep := by
  obtain ⟨b, o, ho, ok⟩ := h
  obtain ⟨_, _, es, n, hd, _⟩ := id ok
  exact ⟨n, b, o, es, ho, ok, hd⟩
theorem FzD.mono {P : Params} {a : Addr} {kvs : List (Str × Value)} {ep : Nat} (h : FzD P F a kvs ep) (k : F.le F') : FzD P F' a kvs ep := let ⟨b, o, es, ho, r⟩ := h; ⟨b, o, es, k _ _ ho, r⟩
theorem FzD.fz {P : Params} {a : Addr} {kvs : List (Str × Value)} {ep : Nat} (h : FzD P F a kvs ep) : Fz P F a (.dic kvs) := let ⟨b, o, es, ho, ok, _⟩ := h; ⟨b, o, ho, ok⟩
theorem FzD.dictAt {a : Addr} {kvs : List (Str × Value)} {ep : Nat} {s : Shared} (h : FzD X.P l.F a kvs ep) (S : X.At l s) : s.heap.DictAt (strKind X.prog X.w) a kvs ep := by
  obtain ⟨_, o, es, ho, ⟨he, nd, es', n', hd', hn⟩, hd⟩ := h
  rw [hd] at hd'
  cases hd'
  have q := ents_pairs (prog := X.prog) (w := X.w) hn
  exact ⟨o, es, S.fz _ _ ho, he, hd, fun e hm => q.1 e (Array.mem_toList_iff.mpr hm), q.2, nd⟩
abbrev itemsO (d : Addr) : OD := .rcd "dict_items" [.ref d]
abbrev itD (d : Addr) (i n ep : Nat) (ok ov : Value) : OD := .raw { cls := .type "dict_itemiterator", dict := none, data := .fields #[.none, .bool false, .ref d, .int i 0, .int n 0, .int ep 0, ok, ov], slots := #[] }
abbrev itDX (a d : Addr) (i n ep : Nat) (ok ov : Value) : OD := .raw { cls := .type "dict_itemiterator", dict := none, data := .fields #[rawInt a, .bool false, .ref d, .int i 0, .int n 0, .int ep 0, ok, ov], slots := #[] }
theorem t_dictItems {a : Addr} {kvs : List (Str × Value)} (ha : Kn X ⟨F, N, G⟩ a (.dic kvs)) (h : ∀ v, R (.ref v) ⟨F, (v, itemsO a) :: N, G⟩) : Tr X A ⟨F, N, G⟩ (call (.builtin "dict.items") [.ref a]) R := fun s E S =>
  call_meetsIn PySem.F.slot_dict_items ((ha.has S).dictOf (prog := X.prog)).typeIs PySem.F.entry_dict_items (PySem.F.args_dict_items_1 _) (meets_dict_items (strKind X.prog X.w) a (ha.notSys S))
    ⟨⟨_, (ha.has S).dictOf⟩, ⟨_, At.allocT S (D := itemsO a) ⟨rfl, rfl⟩, h _⟩⟩
theorem t_iterItems {a v : Addr} {kvs : List (Str × Value)} {ep : Nat} (hv : (v, itemsO a) ∈ N) (ha : FzD X.P F a kvs ep) (h : ∀ it, R (.ref it) ⟨F, (it, itD a 0 kvs.length ep .none .none) :: N, G⟩) : Tr X A ⟨F, N, G⟩ (pyIter (.ref v)) R := fun s E S =>
  wpAny_pyIter_items (S.led hv) (ha.dictAt (l := ⟨F, N, G⟩) S) ⟨⟨F, _ :: N, G⟩, At.allocT S (D := itD a 0 kvs.length ep .none .none) ⟨rfl, rfl⟩, h _⟩
theorem At.one {K mg mb P F G O s} {N : List (Addr × OD)} {it : Addr} {D0 D Dn : OD} (S : At K mg mb P F ((it, D0) :: N) G O s) {h' : Heap}
    (hk : ∀ b o, b ≠ it → s.heap.get? b = some o → h'.get? b = some o) (hD : Has P h' it D) (hn : Has P h' s.heap.objs.size Dn) {dr : Drawn} {t : Nat} :
    At K mg mb P F ((s.heap.objs.size, Dn) :: (it, D) :: N) G O ⟨h', s.gens, dr, t, s.os⟩ := by
  have he := (S.nw (it, D0) (.head _)).1
  have nd := S.nd
  simp only [List.map_cons] at nd
  obtain ⟨n1, n2⟩ := List.nodup_cons.mp nd
  refine ⟨S.top, fun b x eq => ?_, fun p hp => ?_, ?_, S.gn, S.os⟩
  · exact hk b x (fun q => by rw [q, he.2] at eq; cases eq) (S.fz b x eq)
  · rcases List.mem_cons.mp hp with rfl | hp
    · refine ⟨⟨?_, S.fresh.1⟩, hn⟩
      obtain ⟨_, _, _, hg, _⟩ := S.top.g
      exact Nat.lt_trans (by decide) (Heap.lt_size (S.fz _ _ hg))
    · rcases List.mem_cons.mp hp with rfl | hp
      · exact ⟨he, hD⟩
      · obtain ⟨y, x, hx, r⟩ := S.nw p (.tail _ hp)
        have hm : p.1 ∈ N.map (·.1) := List.mem_map_of_mem (f := (·.1)) hp
        exact ⟨y, x, hk _ _ (fun q => n1 (q ▸ hm)) hx, r⟩
  · simp only [List.map_cons]
    refine List.nodup_cons.mpr ⟨?_, nd⟩
    have := S.fresh.2
    simpa only [List.map_cons] using this
theorem t_nextItems {it a : Addr} {kvs : List (Str × Value)} {i ep : Nat} {ok ov v : Value} {k : Str} (r : Rem N (it, itD a i kvs.length ep ok ov) N1) (ha : FzD X.P F a kvs ep) (hv : kvs[i]? = some (k, v))
    (h : ∀ t tk, RO (some (.ref t)) ⟨F, (t, .tup [.str k tk, v]) :: (it, itDX t a (i + 1) kvs.length ep (.str k tk) v) :: N1, G⟩) : Tr X A ⟨F, N, G⟩ (pyNext (.ref it)) RO := fun s E S => by
  have S1 := At.rem S r
  obtain ⟨o, ho, e, _⟩ := S1.led (a := it) (.head _)
  rw [e] at ho
  refine wpAny_pyNext_items_item (knd := strKind X.prog X.w) ho (ha.dictAt (l := ⟨F, N, G⟩) S) hv fun key h' hkey hx ht hz hk => ?_
  obtain ⟨tk, rfl⟩ := Value.isStrOf_shape hkey
  exact ⟨_, At.one (D := itDX s.heap.objs.size a (i + 1) kvs.length ep (.str k tk) v) (Dn := .tup [.str k tk, v]) S1 hk ⟨_, hx, rfl, rfl⟩ ⟨_, ht, rfl, rfl, 0, rfl⟩, h _ _⟩
theorem t_nextItemsEnd {it a : Addr} {kvs : List (Str × Value)} {i ep : Nat} {ok ov : Value} (hh : A.handled = none) (r : Rem N (it, itD a i kvs.length ep ok ov) N1) (ha : FzD X.P F a kvs ep) (hv : kvs.length ≤ i)
    (h : RO none ⟨F, N1, G⟩) : Tr X A ⟨F, N, G⟩ (pyNext (.ref it)) RO := fun s E S => by
  obtain ⟨o, ho, e, _⟩ := (At.rem S r).led (a := it) (.head _)
  rw [e] at ho
  exact wpAny_pyNext_items_end (knd := strKind X.prog X.w) hh ho (ha.dictAt (l := ⟨F, N, G⟩) S) (List.getElem?_eq_none hv) fun h' ex => ⟨_, At.ext S r ex, h⟩
theorem t_goTupD {elts : List Expr} {k : Nat} {pos : Pos} {it v a : Addr} {i n ep : Nat} {ok ov : Value} (he : (it, itDX v a i n ep ok ov) ∈ N) (u : LUpd N it (itD a i n ep ok ov) N') (h : RU () ⟨F, N', G⟩) :
    Tr X A ⟨F, N, G⟩ (letOwnedTupleGo (.Tuple elts k pos) (.ref it) (.ref v)) RU := fun s E S => by
  obtain ⟨o, ho, q, _⟩ := S.led he
  rw [q] at ho
  exact wpAny_letOwnedTupleGo_items ho fun h' he' sb => ⟨⟨F, N', G⟩, S.updT u sb ⟨_, he', rfl, rfl⟩, h⟩
end
end Mine

open PySem PySem.W PySem.W.X PyProof.Rows PySem.Calls PySem.Builtin.ObjectAttr
set_option maxRecDepth 100000
set_option Elab.async false
set_option autoImplicit false
set_option linter.unusedVariables false
namespace Mine
section
variable {X : Cx} {A : Around} {l : Led} {env : Env} {F F' : PH} {N N1 N2 N' : List (Addr × OD)} {G : Array GenState} {R : Value → Led → Prop} {RO : Option Value → Led → Prop} {RU : Unit → Led → Prop} {RF : Flow → Led → Prop} {x y : Str} {t u : Tok}
theorem cl_freeze {a : Addr} {D : OD} {c : Code} (r : Rem N (a, D) N') (h : ∀ F', F.le F' → Fz X.P F' a D → Cl X A ⟨F', N', G⟩ c RF) : Cl X A ⟨F, N, G⟩ c RF :=
  fun s R' S => let ⟨F', le, fz, S'⟩ := (At.rem S r).freeze; h F' le fz s R' S'
theorem Kn.le {a : Addr} {D : OD} (h : Kn X ⟨F, N, G⟩ a D) (k : F.le F') : Kn X ⟨F', N, G⟩ a D := h.elim (fun f => .inl (f.mono k)) fun h => .inr h
theorem t_dictGetN {a : Addr} {kvs : List (Str × Value)} (ha : Kn X l a (.dic kvs)) (hv : valueAt kvs x = none) (h : R .none l) : Tr X A l (call (.builtin "dict.get") [.ref a, .str x t]) R := t_dictGet1 ha (by rw [hv]; exact h)
theorem t_dictSetN {a : Addr} {kvs : List (Str × Value)} {v : Value} (ha : (a, OD.dic kvs) ∈ N) (hv : valueAt kvs x = none) (u : LUpd N a (.dic (kvs ++ [(x, v)])) N') (hz : kvs.length ≤ 1000000) (h : RU () ⟨F, N', G⟩) :
    Tr X A ⟨F, N, G⟩ (setItem (.ref a) (.str x t) v) RU := t_dictSet ha (by rw [stored_absent hv]; exact u) (by unfold sizeLine; omega) h
theorem t_dictInN {a : Addr} {kvs : List (Str × Value)} (ha : Kn X l a (.dic kvs)) (hv : valueAt kvs x = none) (h : R (.bool false) l) : Tr X A l (compareOp .In (.str x t) (.ref a)) R := t_dictIn ha (by rw [hv]; exact h)
theorem FzD.nodup {P : Params} {a : Addr} {kvs : List (Str × Value)} {ep : Nat} (h : FzD P F a kvs ep) : (kvs.map (·.1)).Nodup := let ⟨_, _, _, _, ⟨_, nd, _⟩, _⟩ := h; nd

/-- these values are frozen tuples -/
def FzT (P : Params) (F : PH) (vs : List Value) : Prop := ∀ (i : Nat) v, vs[i]? = some v → ∃ a ws, v = .ref a ∧ Fz P F a (.tup ws)
theorem FzT.mono {P : Params} {vs : List Value} (h : FzT P F vs) (k : F.le F') : FzT P F' vs := fun i v e => let ⟨a, ws, e1, f⟩ := h i v e; ⟨a, ws, e1, f.mono k⟩
/-- a table's text: lists of tuples by str, all frozen -/
def SrcOk (P : Params) (F : PH) (kvs : List (Str × Value)) : Prop := ∀ (i : Nat) k v, kvs[i]? = some (k, v) → ∃ a vs, v = .ref a ∧ Fz P F a (.lst vs) ∧ FzT P F vs ∧ vs.length ≤ 1000
theorem SrcOk.mono {P : Params} {kvs : List (Str × Value)} (h : SrcOk P F kvs) (k : F.le F') : SrcOk P F' kvs := fun i k' v e =>
  let ⟨a, vs, e1, f, g, z⟩ := h i k' v e; ⟨a, vs, e1, f.mono k, g.mono k, z⟩
/-- copies of the first lists -/
def Cop (P : Params) (F : PH) (kvs acc : List (Str × Value)) : Prop := ∀ (i : Nat) p, acc[i]? = some p → ∃ k a b vs, kvs[i]? = some (k, .ref a) ∧ p = (k, .ref b) ∧ Fz P F a (.lst vs) ∧ Fz P F b (.lst vs)
theorem Cop.mono {P : Params} {kvs acc : List (Str × Value)} (h : Cop P F kvs acc) (k : F.le F') : Cop P F' kvs acc := fun i p e =>
  let ⟨k', a, b, vs, e1, e2, f, g⟩ := h i p e; ⟨k', a, b, vs, e1, e2, f.mono k, g.mono k⟩
theorem Cop.nil {P : Params} {kvs : List (Str × Value)} : Cop P F kvs [] := fun i p e => by simp at e
theorem Cop.snoc {P : Params} {kvs acc : List (Str × Value)} {k : Str} {a b : Addr} {vs : List Value} (h : Cop P F kvs acc) (e : kvs[acc.length]? = some (k, .ref a)) (f : Fz P F a (.lst vs)) (g : Fz P F b (.lst vs)) : Cop P F kvs (acc ++ [(k, .ref b)]) := fun i p ei => by
  rcases Nat.lt_or_ge i acc.length with hi | hi
  · rw [List.getElem?_append_left hi] at ei; exact h i p ei
  · rw [List.getElem?_append_right hi] at ei
    obtain ⟨hlt, hv⟩ := List.getElem?_eq_some_iff.mp ei
    have h0 : i = acc.length := by simp at hlt; omega
    subst h0
    refine ⟨k, a, b, vs, e, ?_, f, g⟩
    simpa using hv.symm
/-- a key further on is not among the first ones -/
theorem fresh_key {kvs acc : List (Str × Value)} {i : Nat} {k : Str} {v : Value} (nd : (kvs.map (·.1)).Nodup) (hk : ∀ (j : Nat) p, acc[j]? = some p → ∃ x, kvs[j]? = some (p.1, x)) (hi : kvs[i]? = some (k, v)) (hl : acc.length ≤ i) : valueAt acc k = none := by
  refine valueAt_none_of_not_mem fun hm => ?_
  obtain ⟨p, hp, rfl⟩ := List.mem_map.mp hm
  obtain ⟨j, hj⟩ := List.getElem?_of_mem hp
  obtain ⟨x, hx⟩ := hk j p hj
  have hjl : j < acc.length := (List.getElem?_eq_some_iff.mp hj).1
  have e1 : (kvs.map (·.1))[j]? = some p.1 := by rw [List.getElem?_map, hx]; rfl
  have e2 : (kvs.map (·.1))[i]? = some p.1 := by rw [List.getElem?_map, hi]; rfl
  obtain ⟨l1, v1⟩ := List.getElem?_eq_some_iff.mp e1
  obtain ⟨l2, v2⟩ := List.getElem?_eq_some_iff.mp e2
  exact (List.pairwise_iff_getElem.mp nd) j i l1 l2 (Nat.lt_of_lt_of_le hjl hl) (v1.trans v2.symm)
theorem Cop.key {P : Params} {kvs acc : List (Str × Value)} (h : Cop P F kvs acc) : ∀ (j : Nat) p, acc[j]? = some p → ∃ x, kvs[j]? = some (p.1, x) := fun j p e => by
  obtain ⟨k, a, b, vs, e1, e2, _⟩ := h j p e
  exact ⟨.ref a, by rw [e1, e2]⟩
end
end Mine

open PySem PySem.W PySem.W.X PyProof.Rows PySem.Calls PySem.Builtin.ObjectAttr
set_option maxRecDepth 100000
set_option Elab.async false
set_option autoImplicit false
set_option linter.unusedVariables false
namespace Mine
section
variable {X : Cx} {A : Around} {l : Led} {env : Env} {F F' : PH} {N N1 N2 N' : List (Addr × OD)} {G : Array GenState} {R : Value → Led → Prop} {RO : Option Value → Led → Prop} {RU : Unit → Led → Prop} {RF : Flow → Led → Prop} {x y : Str} {t u : Tok}
theorem cl_indG {c : Code} {Inv : Nat → Led → Prop} (step : ∀ k l, (∀ j, j < k → ∀ l, Inv j l → Cl X A l c RF) → Inv k l → Cl X A l c RF) (k : Nat) : ∀ l, Inv k l → Cl X A l c RF := by
  induction k using Nat.strongRecOn with
  | ind k ih => exact fun l h => step k l ih h
/-! ranges -/
abbrev rngO (a b : Int) (t u v : Tok) : OD := .raw { cls := .type "range", dict := none, data := .fields #[.int a t, .int b u, .int 1 v], slots := #[] }
abbrev itN (i n : Nat) : OD := .raw { cls := .type "range_iterator", dict := none, data := .fields #[rawInt (i : Int), rawInt ((n : Int) - (i : Int)), rawInt 1], slots := #[] }
theorem t_range1 {n : Int} (h : ∀ r t1 t2, R (.ref r) ⟨F, (r, rngO 0 n t1 t t2) :: N, G⟩) : Tr X A ⟨F, N, G⟩ (call (.type "range") [.int n t]) R := fun s E S =>
  call_range_1 ⟨⟨F, (s.heap.objs.size, rngO 0 n s.toks t (s.toks + 1)) :: N, G⟩, At.allocT S (D := rngO 0 n s.toks t (s.toks + 1)) ⟨rfl, rfl⟩, h _ _ _⟩
theorem small_range {n : Nat} (hn : n ≤ 1000000) : Builtin.Range.rangeSize 0 (n : Int) 1 = (n : Int) ∧ Builtin.Range.small 0 (n : Int) 1 = true := by
  have e : Builtin.Range.rangeSize 0 (n : Int) 1 = (n : Int) := by unfold Builtin.Range.rangeSize; simp; omega
  refine ⟨e, ?_⟩
  unfold Builtin.Range.small
  rw [e]
  simp [Builtin.Range.rangeFitsLong]
  omega
theorem t_iterRange {r : Addr} {n : Nat} {t1 t2 t3 : Tok} {b : Int} (hb : b = (n : Int)) (hr : Kn X ⟨F, N, G⟩ r (rngO 0 b t1 t2 t3)) (hn : n ≤ 1000000) (h : ∀ it, R (.ref it) ⟨F, (it, itN 0 n) :: N, G⟩) : Tr X A ⟨F, N, G⟩ (pyIter (.ref r)) R := fun s E S => by
  subst hb
  obtain ⟨o, ho, e, _⟩ := hr.has S
  rw [e] at ho
  obtain ⟨e1, e2⟩ := small_range hn
  refine wpAny_pyIter_range ho e2 ?_
  rw [e1]
  exact ⟨⟨F, (s.heap.objs.size, itN 0 n) :: N, G⟩, At.allocT S (D := itN 0 n) ⟨by simp, rfl⟩, h _⟩
theorem t_nextRange {it : Addr} {i n : Nat} (hi : (it, itN i n) ∈ N) (hlt : i < n) (u : LUpd N it (itN (i + 1) n) N') (h : ∀ t, RO (some (.int (i : Int) t)) ⟨F, N', G⟩) : Tr X A ⟨F, N, G⟩ (pyNext (.ref it)) RO := fun s E S => by
  obtain ⟨o, ho, e, _⟩ := S.led hi
  rw [e] at ho
  refine wpAny_pyNext_range_item ho (by omega) fun h' x sb => ⟨⟨F, N', G⟩, S.updT u sb ⟨_, x, ?_, rfl⟩, h _⟩
  have e1 : (i : Int) + 1 = ((i + 1 : Nat) : Int) := by omega
  have e2 : (n : Int) - (i : Int) - 1 = (n : Int) - ((i + 1 : Nat) : Int) := by omega
  rw [e1, e2]
theorem t_nextRangeEnd {it : Addr} {i n : Nat} (hh : A.handled = none) (hi : (it, itN i n) ∈ N) (hlt : n ≤ i) (u : Rem N (it, itN i n) N') (h : RO none ⟨F, N', G⟩) : Tr X A ⟨F, N, G⟩ (pyNext (.ref it)) RO := fun s E S => by
  obtain ⟨o, ho, e, _⟩ := S.led hi
  rw [e] at ho
  exact wpAny_pyNext_range_end hh ho (by omega) fun h' ex => ⟨⟨F, N', G⟩, At.ext S u ex, h⟩
theorem t_iterRangeIter {it : Addr} {i n : Nat} (hi : (it, itN i n) ∈ N) (h : R (.ref it) ⟨F, N, G⟩) : Tr X A ⟨F, N, G⟩ (pyIter (.ref it)) R := fun s E S => by
  obtain ⟨o, ho, e, _⟩ := S.led hi
  rw [e] at ho
  exact wpAny_pyIter_rangeiter ho ⟨_, S, h⟩
/-! strs, letter by letter -/
theorem t_iterStr (h : ∀ it, R (.ref it) ⟨F, (it, itS x t 0) :: N, G⟩) : Tr X A ⟨F, N, G⟩ (pyIter (.str x t)) R := fun s E S =>
  wpAny_pyIter_strU ⟨⟨F, (s.heap.objs.size, itS x t 0) :: N, G⟩, At.allocT S (D := itS x t 0) ⟨rfl, rfl⟩, h _⟩
theorem t_nextStr {it : Addr} {i c : Nat} (hi : (it, itS x t i) ∈ N) (hc : x.cps[i]? = some c) (u : LUpd N it (itS x t (i + 1)) N') (h : ∀ t, RO (some (.str ⟨#[c]⟩ t)) ⟨F, N', G⟩) : Tr X A ⟨F, N, G⟩ (pyNext (.ref it)) RO := fun s E S => by
  have hst : s.heap.IsStrIter it (strIterType x) x t i := S.led hi
  have key : ∀ {ty : String}, strIterType x = ty → ∀ h', h'.IsStrIter it ty x t (i + 1) → Has X.P h' it (itS x t (i + 1)) := fun e h' hh => by subst e; exact hh
  cases ha : x.cps.all (· < 128)
  · have e : strIterType x = "str_iterator" := by simp [strIterType, ha]
    exact wpAny_pyNext_wide_item (e ▸ hst) hc fun h' hit sb => ⟨⟨F, N', G⟩, S.updT u sb (key e h' hit), h _⟩
  · have e : strIterType x = "str_ascii_iterator" := by simp [strIterType, ha]
    exact wpAny_pyNext_ascii_item (e ▸ hst) hc fun h' hit sb => ⟨⟨F, N', G⟩, S.updT u sb (key e h' hit), h _⟩
theorem t_nextStrEnd {it : Addr} {i : Nat} (hh : A.handled = none) (hi : (it, itS x t i) ∈ N) (hc : x.length ≤ i) (u : Rem N (it, itS x t i) N') (h : RO none ⟨F, N', G⟩) : Tr X A ⟨F, N, G⟩ (pyNext (.ref it)) RO := fun s E S => by
  have hst : s.heap.IsStrIter it (strIterType x) x t i := S.led hi
  have hx : x.cps[i]? = none := Array.getElem?_eq_none hc
  cases ha : x.cps.all (· < 128)
  · have e : strIterType x = "str_iterator" := by simp [strIterType, ha]
    exact wpAny_pyNext_wide_end hh (e ▸ hst) hx fun h' ex => ⟨⟨F, N', G⟩, At.ext S u ex, h⟩
  · have e : strIterType x = "str_ascii_iterator" := by simp [strIterType, ha]
    exact wpAny_pyNext_ascii_end hh (e ▸ hst) hx fun h' ex => ⟨⟨F, N', G⟩, At.ext S u ex, h⟩
theorem t_iterStrIter {it : Addr} {i : Nat} (hi : (it, itS x t i) ∈ N) (h : R (.ref it) ⟨F, N, G⟩) : Tr X A ⟨F, N, G⟩ (pyIter (.ref it)) R := fun s E S => by
  have hst : s.heap.IsStrIter it (strIterType x) x t i := S.led hi
  cases ha : x.cps.all (· < 128)
  · have e : strIterType x = "str_iterator" := by simp [strIterType, ha]
    exact wpAny_pyIter_striter_wide (e ▸ hst) ⟨_, S, h⟩
  · have e : strIterType x = "str_ascii_iterator" := by simp [strIterType, ha]
    exact wpAny_pyIter_striter_ascii (e ▸ hst) ⟨_, S, h⟩
section
variable {elt target iter : Expr} {ifs : List Expr} {rest : List Comprehension} {scope : Scope} {pos : Pos} {acc : Value}
theorem cs_range {it : Addr} {i n : Nat} (hi : (it, itN i n) ∈ N) (h : Cl X A ⟨F, N, G⟩ (.compLoop (.ListComp elt (⟨target, iter, ifs, 0⟩ :: rest) scope pos) 0 (.ref it) acc env) RF) :
    Cl X A ⟨F, N, G⟩ (.compStart (.ListComp elt (⟨target, iter, ifs, 0⟩ :: rest) scope pos) 0 (.ref it) acc env) RF := cl_compStart h (t_iterRangeIter hi h)
theorem cs_str {it : Addr} {i : Nat} (hi : (it, itS x t i) ∈ N) (h : Cl X A ⟨F, N, G⟩ (.compLoop (.ListComp elt (⟨target, iter, ifs, 0⟩ :: rest) scope pos) 0 (.ref it) acc env) RF) :
    Cl X A ⟨F, N, G⟩ (.compStart (.ListComp elt (⟨target, iter, ifs, 0⟩ :: rest) scope pos) 0 (.ref it) acc env) RF := cl_compStart h (t_iterStrIter hi h)
theorem cs_enum {e it : Addr} {i : Nat} {old : Value} (hi : (e, enumO it i old) ∈ N) (h : Cl X A ⟨F, N, G⟩ (.compLoop (.ListComp elt (⟨target, iter, ifs, 0⟩ :: rest) scope pos) 0 (.ref e) acc env) RF) :
    Cl X A ⟨F, N, G⟩ (.compStart (.ListComp elt (⟨target, iter, ifs, 0⟩ :: rest) scope pos) 0 (.ref e) acc env) RF := cl_compStart h (t_iterEnum hi h)
end
/-! lists -/
theorem t_addL {a b : Addr} {vs ws : List Value} (ha : Kn X ⟨F, N, G⟩ a (.lst vs)) (hb : Kn X ⟨F, N, G⟩ b (.lst ws)) (hz : vs.length + ws.length ≤ 1000000) (h : ∀ c, R (.ref c) ⟨F, (c, .lst (vs ++ ws)) :: N, G⟩) :
    Tr X A ⟨F, N, G⟩ (binaryOp .Add (.ref a) (.ref b)) R := fun s E S => by
  obtain ⟨⟨cls, dd, data, sl⟩, ho, hc, n, hd⟩ := (ha.has S).isList
  obtain ⟨⟨cls2, dd2, data2, sl2⟩, ho2, hc2, n2, hd2⟩ := (hb.has S).isList
  simp only at hc hd hc2 hd2
  subst hc hd hc2 hd2
  have e : vs.toArray ++ ws.toArray = (vs ++ ws).toArray := by simp
  refine concat_meets ⟨_, ho, rfl⟩ ⟨_, ho2, rfl⟩ noFill_list_add seq_list_add PySem.F.slot_list_add PySem.F.entry_list_add (PySem.F.args_list_add_2 _ _) (list_addW a b vs.toArray ws.toArray n n2 dd dd2 sl sl2 (by simp [sizeLine]; omega)) ⟨ho, ho2, ?_⟩
  rw [e]
  exact ⟨⟨F, (s.heap.objs.size, .lst (vs ++ ws)) :: N, G⟩, At.allocT S (D := .lst (vs ++ ws)) ⟨rfl, ⟨rfl, rfl⟩, 0, rfl⟩, h _⟩
theorem t_sliceL {a sl : Addr} {vs ws : List Value} {vl vu : Value} {lo hi : Option Int} (ha : Kn X ⟨F, N, G⟩ a (.lst vs)) (hs : Kn X ⟨F, N, G⟩ sl (.raw { cls := .type "slice", data := .fields #[vl, vu, .none] })) (pl : IsPart vl lo) (pu : IsPart vu hi)
    (hz : vs.length ≤ 1000000) (hw : slicePick vs.toArray lo hi none = ws.toArray) (h : ∀ c, R (.ref c) ⟨F, (c, .lst ws) :: N, G⟩) : Tr X A ⟨F, N, G⟩ (getItem (.ref a) (.ref sl)) R := fun s E S => by
  obtain ⟨o, ho, e, _⟩ := hs.has S
  subst e
  refine wpAny_getItem_list_slice (ha.has S).isList ⟨_, ho, rfl, rfl⟩ pl pu .none (by simp) ?_ (by simp [sizeLine]; omega)
  rw [hw]
  exact ⟨⟨F, (s.heap.objs.size, .lst ws) :: N, G⟩, At.allocT S (D := .lst ws) ⟨rfl, ⟨rfl, rfl⟩, 0, rfl⟩, h _⟩
theorem t_mulL {a : Addr} {vs ws : List Value} {i : Int} (ha : Kn X ⟨F, N, G⟩ a (.lst vs)) (hlo : -(2 ^ 63 : Int) ≤ i) (hhi : i < 2 ^ 63) (hz : vs.length * i.toNat ≤ 2 ^ 24)
    (hw : List.foldl (fun x1 x2 => x1 ++ x2) #[] (List.replicate (if vs.toArray.isEmpty = true then 0 else i.toNat) vs.toArray) = ws.toArray) (h : ∀ c, R (.ref c) ⟨F, (c, .lst ws) :: N, G⟩) : Tr X A ⟨F, N, G⟩ (binaryOp .Mult (.ref a) (.int i t)) R := fun s E S => by
  obtain ⟨⟨cls, dd, data, sl⟩, ho, hc, ⟨h1, h2⟩, n, hd⟩ := ha.has S
  simp only at hc hd h1 h2
  subst hc hd h1 h2
  refine wpAny_binaryOp_repeat_ref (T := "list") (U := "int") (by decide) ⟨_, ho, rfl⟩ (fun s' => typeIs_int s' i t) noFill_list_mul PySem.F.fills_int_mul PySem.F.slot_int_rmul repeat_list PySem.F.slot_int_index.lookup
    (call_meets PySem.F.slot_int_rmul (typeIs_int s i t) PySem.F.entry_int_rmul (PySem.F.args_int_rmul_2 _ _) (int___rmul___int_list i t a vs.toArray n)
      ⟨ho, rfl, ⟨_, ho, rfl⟩, call_meets PySem.F.slot_list_mul ⟨_, ho, rfl⟩ PySem.F.entry_list_mul (PySem.F.args_list_mul_2 _ _)
        (AutoListH.list___mul___list_int_3 a vs.toArray n i t (by simp [Builtin.List.listFitsIndex]; omega) (by simp; omega) (by simp [Builtin.List.listTooLong, sizeLine]; omega))
        ⟨ho, ?_⟩⟩)
  rw [hw]
  exact ⟨⟨F, (s.heap.objs.size, .lst ws) :: N, G⟩, At.allocT S (D := .lst ws) ⟨rfl, ⟨rfl, rfl⟩, 0, rfl⟩, h _⟩
theorem t_eqNil {a b : Addr} {vs : List Value} (hu : A.units < cLine) (ha : Kn X l a (.lst vs)) (hb : Kn X l b (.lst [])) (h : R (.bool vs.isEmpty) l) : Tr X A l (compareOp .Eq (.ref a) (.ref b)) R := fun s E S => by
  cases vs with
  | nil => exact SeqAt.eq_listAt (e := fun _ => true) (ha.has S).isList (hb.has S).isList rfl hu (fun j h1 => absurd h1 (by simp)) ⟨l, S, h⟩
  | cons v vs => exact SeqAt.eq_list_lengthsAt (ha.has S).isList (hb.has S).isList (by simp) hu ⟨l, S, h⟩
end
end Mine

open PySem PySem.W PySem.W.X PyProof.Rows PySem.Calls PySem.Builtin.ObjectAttr
set_option maxRecDepth 100000
set_option Elab.async false
set_option autoImplicit false
set_option linter.unusedVariables false
namespace Mine
/-- values that are these ints -/
inductive Ints : List Int → List Value → Prop
  | nil : Ints [] []
  | cons {n t ns vs} : Ints ns vs → Ints (n :: ns) (.int n t :: vs)
theorem Ints.len {ns : List Int} {vs : List Value} (h : Ints ns vs) : vs.length = ns.length := by
  induction h with
  | nil => rfl
  | cons _ ih => simp [ih]
theorem Ints.get {ns : List Int} {vs : List Value} (h : Ints ns vs) : ∀ {i : Nat} {n : Int}, ns[i]? = some n → ∃ t, vs[i]? = some (.int n t) := by
  induction h with
  | nil => intro i x e; simp at e
  | @cons y t xs vs _ ih =>
    intro i x e
    cases i with
    | zero => simp at e; subst e; exact ⟨t, rfl⟩
    | succ i => exact ih (by simpa using e)
theorem Ints.append {ns ms : List Int} {vs ws : List Value} (h : Ints ns vs) (k : Ints ms ws) : Ints (ns ++ ms) (vs ++ ws) := by
  induction h with
  | nil => exact k
  | cons _ ih => exact .cons ih
theorem Ints.snoc {ns : List Int} {vs : List Value} {n : Int} {t : Tok} (h : Ints ns vs) : Ints (ns ++ [n]) (vs ++ [.int n t]) := h.append (.cons .nil)
theorem Ints.isEmpty {ns : List Int} {vs : List Value} (h : Ints ns vs) : vs.isEmpty = ns.isEmpty := by cases h <;> rfl
/-- a list that lies there for good -/
def FzL (F : PH) (a : Addr) (vs : List Value) : Prop := ∃ o, F a = some o ∧ o.cls = .type "list" ∧ ∃ n, o.data = .seq vs.toArray n
section
variable {X : Cx} {A : Around} {l : Led} {env : Env} {F F' : PH} {N N1 N2 N' : List (Addr × OD)} {G : Array GenState} {R : Value → Led → Prop} {RO : Option Value → Led → Prop} {RU : Unit → Led → Prop} {RF : Flow → Led → Prop} {x y : Str} {t u : Tok}
theorem FzL.is {a : Addr} {vs : List Value} {s : Shared} (h : FzL l.F a vs) (S : X.At l s) : s.heap.IsList a vs.toArray := let ⟨o, ho, hc, n, hd⟩ := h; ⟨o, S.fz _ _ ho, hc, n, hd⟩
theorem FzL.mono {a : Addr} {vs : List Value} (h : FzL F a vs) (k : F.le F') : FzL F' a vs := let ⟨o, ho, r⟩ := h; ⟨o, k _ _ ho, r⟩
theorem t_lenF {c : Addr} {vs : List Value} (ha : FzL l.F c vs) (hz : vs.length ≤ 1000000) (h : ∀ t, R (.int vs.length t) l) : Tr X A l (call (.builtin "len") [.ref c]) R :=
  fun s E S => Calls.call_len_list (ha.is S) (by simp; omega) ⟨l, S.same rfl rfl rfl, by simpa using h _⟩
theorem t_subF {value slice : Expr} {i : Value} {ops : List Value} {c : Addr} {vs : List Value} (ha : FzL l.F c vs) (hs : subscripted slice false (.ref c) i = operate ops (getItem (.ref c) i)) (h : Tr X A l (getItem (.ref c) i) R) :
    Tr X A l (subscriptTail value slice (.ref c) i) R := t_subTail (fun s S => (ha.is S).typeIs) PySem.list_getitem_lookup hs h
theorem t_itemF {i : Int} {c : Addr} {vs : List Value} {v : Value} (ha : FzL l.F c vs) (hi : 0 ≤ i) (hz : i < 2 ^ 63) (hv : vs[i.toNat]? = some v) (h : R v l) : Tr X A l (getItem (.ref c) (.int i u)) R :=
  fun s E S => wpAny_getItem_list (ha.is S) hi hz (by simpa using hv) ⟨l, S, h⟩
theorem preSum_ints (ns : List Int) (hb : ∀ n ∈ ns, -1000000 ≤ n ∧ n ≤ 1000000) (hz : ns.length ≤ 1000000) : ∀ j, j ≤ ns.length → preSum (fun i => (ns[i]?).getD 0) j = (ns.take j).sum ∧ -(1000000 * (j : Int)) ≤ preSum (fun i => (ns[i]?).getD 0) j ∧ preSum (fun i => (ns[i]?).getD 0) j ≤ 1000000 * (j : Int)
  | 0, _ => by simp [preSum]
  | j + 1, h => by
    obtain ⟨h1, h2, h3⟩ := preSum_ints ns hb hz j (by omega)
    have hj : ns[j]? = some ns[j] := List.getElem?_eq_getElem (by omega)
    have := hb ns[j] (List.getElem_mem (by omega))
    refine ⟨?_, ?_, ?_⟩
    · have e : ns.take (j + 1) = ns.take j ++ [ns[j]] := by rw [List.take_add_one, hj]; rfl
      rw [e, List.sum_append]
      show preSum _ j + (ns[j]?).getD 0 = _
      rw [h1, hj]
      simp
    · show _ ≤ preSum _ j + (ns[j]?).getD 0
      rw [hj]; simp only [Option.getD_some]; omega
    · show preSum _ j + (ns[j]?).getD 0 ≤ _
      rw [hj]; simp only [Option.getD_some]; omega
theorem t_sum {a : Addr} {ns : List Int} {vs : List Value} (hh : A.handled = none) (ha : Kn X l a (.lst vs)) (hi : Ints ns vs) (hb : ∀ n ∈ ns, -1000000 ≤ n ∧ n ≤ 1000000) (hz : ns.length ≤ 1000000) (h : ∀ t, R (.int ns.sum t) l) :
    Tr X A l (call (.builtin "sum") [.ref a]) R := fun s E S => by
  refine call_sum_walk ?_
  refine wpAny_pyIter_list (ha.has S).isList ?_
  have hlt : a < s.heap.objs.size := by obtain ⟨o, ho, _⟩ := (ha.has S).isList; exact Heap.lt_size ho
  have hz' := hi.len
  refine ⟨_, _, _, vs.toArray.size, _, _, fun i => (ns[i]?).getD 0, rfl, Walks.list (A := A.in1) hh s.heap.objs.size a (Nat.ne_of_lt hlt) vs.toArray, ⟨⟨_, Heap.get?_push_size _ rfl, rfl, rfl⟩, (ha.has S).isList.push _⟩, ?_, ?_, ?_, ?_⟩
  · intro b hb'
    simp at hb'
    rw [Heap.size_push]
    rcases hb' with rfl | rfl
    · exact Nat.lt_succ_self _
    · exact Nat.lt_succ_of_lt hlt
  · intro i v hv
    have hv' : vs[i]? = some v := by simpa using hv
    have hil : i < ns.length := by rw [← hz']; exact (List.getElem?_eq_some_iff.mp hv').1
    obtain ⟨t, ht⟩ := hi.get (List.getElem?_eq_getElem hil)
    refine ⟨t, ?_⟩
    show v = .int ((ns[i]?).getD 0) t
    rw [List.getElem?_eq_getElem hil]
    exact Option.some.inj (hv'.symm.trans ht)
  · intro j hj
    have hj' : j < ns.length := by rw [← hz']; simpa using hj
    have := hb ns[j] (List.getElem_mem hj')
    obtain ⟨_, p2, p3⟩ := preSum_ints ns hb hz (j + 1) (by omega)
    refine ⟨?_, ?_⟩
    · show InLong ((ns[j]?).getD 0)
      rw [List.getElem?_eq_getElem hj']; exact ⟨by simp only [Option.getD_some]; omega, by simp only [Option.getD_some]; omega⟩
    · exact ⟨by omega, by omega⟩
  · intro h' tk t' hk
    have e : preSum (fun i => (ns[i]?).getD 0) vs.toArray.size = ns.sum := by
      rw [show vs.toArray.size = ns.length from by simpa using hz', (preSum_ints ns hb hz ns.length (Nat.le_refl _)).1, List.take_length]
    rw [e]
    refine ⟨l, At.keep0 S fun b o hb' => hk b o (fun hm => absurd (List.mem_singleton.mp hm) (Nat.ne_of_lt (Heap.lt_size hb'))) (Heap.get?_push_of_some _ hb'), h _⟩
/-! strs -/
theorem t_mulStr1 {c n : Nat} {i : Int} (hi : i = (n : Int)) (hz : n ≤ 1000000) (h : ∀ t, R (.str ⟨(List.replicate n c).toArray⟩ t) l) : Tr X A l (binaryOp .Mult (.str ⟨#[c]⟩ t) (.int i u)) R := fun s E S => by
  subst hi
  have e1 : (⟨#[c]⟩ : Str).length = 1 := rfl
  refine PySem.P.mul_str (by simp; omega) (fun h1 h2 => ?_) (fun h1 h2 => ?_) ?_
  · rw [e1]
    have : (1 : Int) ≤ (2 ^ 63 - 1) / (n : Int) := by
      rw [Int.le_ediv_iff_mul_le (by omega)]; omega
    omega
  · rw [e1]; simp [Builtin.Str.tooLong, sizeLine]; omega
  · have hlen : ∀ k : Nat, ((List.replicate k #[c]).foldl (· ++ ·) #[] : Array Nat) = (List.replicate k c).toArray := fun k => by
      have g : ∀ (k : Nat) (a : Array Nat), (List.replicate k #[c]).foldl (· ++ ·) a = a ++ (List.replicate k c).toArray := by
        intro k
        induction k with
        | zero => intro a; simp
        | succ k ih => intro a; rw [List.replicate_succ, List.foldl_cons, ih, List.replicate_succ]; apply Array.ext'; simp
      simpa using g k #[]
    by_cases hn : (n : Int) < 1
    · rw [if_pos hn]
      obtain rfl : n = 0 := by omega
      exact ⟨by decide, l, S.same rfl rfl rfl, h _⟩
    · rw [if_neg hn, e1]
      by_cases h1 : n = 1
      · subst h1
        exact ⟨l, S, h _⟩
      · have : ((n : Int) == 1 || (1 : Nat) == 0) = false := by simp; omega
        rw [this, if_neg Bool.false_ne_true]
        refine ⟨?_, l, S.same rfl rfl rfl, ?_⟩
        · show Array.size _ ≤ _
          rw [hlen]; simp [sizeLine]; omega
        · have e := hlen (n : Int).toNat
          rw [e]
          simpa using h _
theorem t_index {i : Nat} {rest : List Nat} (ho : Builtin.Str.occurrences x y 0 x.length 1 = i :: rest) (h : ∀ t, R (.int (i : Int) t) l) : Tr X A l (call (.builtin "str.index") [.str x t, .str y u]) R := fun s E S =>
  call_gives PySem.F.slot_str_index (typeIs_str s x t) PySem.F.entry_str_index (PySem.F.args_str_index_2 _ _) (PySem.gives_str_index x y t u i rest ho) ⟨l, S.same rfl rfl rfl, h _⟩
theorem t_upper {y : Str} (hy : (⟨PySem.placed x fun _ c => Unicode.upperOf c⟩ : Str) = y) (hz : y.length ≤ 1000000) (h : ∀ t, R (.str y t) l) : Tr X A l (call (.builtin "str.upper") [.str x t]) R := fun s E S => by
  subst hy
  exact call_gives PySem.F.slot_str_upper (typeIs_str s x t) PySem.F.entry_str_upper (PySem.F.args_str_upper_1 _) (PySem.gives_str_upper x t (by simp [Builtin.Str.tooLong, sizeLine]; exact Nat.le_trans hz (by decide))) ⟨Nat.le_trans hz (by decide), l, S.same rfl rfl rfl, h _⟩
end
end Mine

open PySem PySem.W PySem.W.X PyProof.Rows PySem.Calls PySem.Builtin.ObjectAttr
set_option maxRecDepth 100000
set_option Elab.async false
set_option autoImplicit false
set_option linter.unusedVariables false
namespace Mine
section
variable {X : Cx} {A : Around} {l : Led} {env : Env} {F F' : PH} {N N1 N2 N' : List (Addr × OD)} {G : Array GenState} {R : Value → Led → Prop} {RO : Option Value → Led → Prop} {RU : Unit → Led → Prop} {RF : Flow → Led → Prop} {x y : Str} {t u : Tok}
theorem t_storeM {scope : Scope} {gl bi f L : Addr} {clo : List (Str × Addr)} {qual : Str} {code : Value} {cs : List Addr} {fr fr' : List (Str × Value)} {x : Str} {v : Value} {R : Unit → Led → Prop} (u : LUpd N L (.ns fr') N') (hN : (L, OD.ns fr) ∈ N) (hl : LSet fr x v fr')
    (hx : (mkEnv scope gl clo qual code bi f L cs).kindOf x = some .local) (hk : scope.kind = .function) (h : R () ⟨F, N', G⟩) : Tr X A ⟨F, N, G⟩ (storeName (mkEnv scope gl clo qual code bi f L cs) x v) R := t_store rfl u hN hl hx hk h
theorem t_localM {scope : Scope} {gl bi f L : Addr} {clo : List (Str × Addr)} {qual : Str} {code : Value} {cs : List Addr} {fr : List (Str × Value)} {x : Str} {v : Value} {pos : Pos} {R : Value → Led → Prop} (hN : (L, OD.ns fr) ∈ N) (hv : (x, v) ∈ fr)
    (hx : (mkEnv scope gl clo qual code bi f L cs).kindOf x = some .local) (hk : scope.kind = .function) (hd : (x == ("__debug__" : Str)) = false) (h : R v ⟨F, N, G⟩) : Tr X A ⟨F, N, G⟩ (eval (.Name x pos) (mkEnv scope gl clo qual code bi f L cs)) R := t_local rfl hN hv hx hk hd h
theorem t_localNM {scope : Scope} {gl bi f L : Addr} {clo : List (Str × Addr)} {qual : Str} {code : Value} {cs : List Addr} {fr : List (Str × Value)} {x : Str} {v : Value} {R : Value → Led → Prop} (hN : (L, OD.ns fr) ∈ N) (hv : (x, v) ∈ fr)
    (hx : (mkEnv scope gl clo qual code bi f L cs).kindOf x = some .local) (hk : scope.kind = .function) (h : R v ⟨F, N, G⟩) : Tr X A ⟨F, N, G⟩ (loadName (mkEnv scope gl clo qual code bi f L cs) x) R := t_localN rfl hN hv hx hk h
theorem t_goTupG {elts : List Expr} {k : Nat} {pos : Pos} {it v : Addr} {g : Nat} {nm qn : Str} {t u : Tok} (hi : (it, genO g nm qn t u) ∈ N) (h : RU () ⟨F, N, G⟩) : Tr X A ⟨F, N, G⟩ (letOwnedTupleGo (.Tuple elts k pos) (.ref it) (.ref v)) RU := fun s E S => by
  obtain ⟨o, ho, e, _⟩ := S.led hi
  subst e
  unfold letOwnedTupleGo
  refine wpAny_bind (wpAny_load ho ?_)
  show wpAny _ A (if (["enumerate", "zip", "dict_itemiterator", "dict_reverseitemiterator", "odict_iterator", "itertools.zip_longest", "itertools.pairwise"].contains "generator" && _) = true then _ else _) _ E s
  rw [if_neg (by
    intro h
    rw [show (["enumerate", "zip", "dict_itemiterator", "dict_reverseitemiterator", "odict_iterator", "itertools.zip_longest", "itertools.pairwise"].contains "generator") = false from by decide, Bool.false_and] at h
    cases h)]
  exact wpAny_pure ⟨_, S, h⟩
theorem strs_eqAt {xs ys : List Str} {vs ws : List Value} (hx : Strs xs vs) (hy : Strs ys ws) (A : Around) (s : Shared) : ∀ (j : Nat) (h1 : j < vs.length) (h2 : j < ws.length), SeqAt.EqAt A s vs[j] ws[j] (decide (xs[j]? = ys[j]?)) := by
  induction hx generalizing ys ws with
  | nil => intro j h1; exact absurd h1 (Nat.not_lt_zero _)
  | @cons x t xs vs hx ih =>
    intro j h1 h2
    cases hy with
    | nil => exact absurd h2 (Nat.not_lt_zero _)
    | @cons y u ys ws hy =>
      cases j with
      | zero =>
        have e : decide ((x :: xs)[0]? = (y :: ys)[0]?) = (x.cps.toList == y.cps.toList) := by
          obtain ⟨⟨x⟩⟩ := x
          obtain ⟨⟨y⟩⟩ := y
          by_cases h : x = y
          · subst h; simp
          · simp [h]
        rw [e]
        exact MeetsSeq.EqGives.at (SeqRoads2.EqGives.str _ _ _ _) _ _
      | succ j => exact ih hy j (Nat.lt_of_succ_lt_succ h1) (Nat.lt_of_succ_lt_succ h2)
theorem list_eq_all {xs ys : List Str} : ((List.range (min xs.length ys.length)).all (fun j => decide (xs[j]? = ys[j]?)) && xs.length == ys.length) = decide (xs = ys) := by
  by_cases h : xs = ys
  · subst h; simp
  · rw [decide_eq_false h, Bool.and_eq_false_iff]
    by_cases hl : xs.length = ys.length
    · left
      rw [List.all_eq_false]
      refine Classical.byContradiction fun hn => h ?_
      refine List.ext_getElem? fun j => ?_
      rcases Nat.lt_or_ge j xs.length with hj | hj
      · refine Classical.byContradiction fun hne => hn ⟨j, ?_, ?_⟩
        · simp; omega
        · simpa using hne
      · rw [List.getElem?_eq_none hj, List.getElem?_eq_none (by omega)]
    · right; simpa using hl
theorem t_eqTupS {a b : Addr} {xs ys : List Str} {vs ws : List Value} (hu : A.units < cLine) (ha : Kn X l a (.tup vs)) (hb : Kn X l b (.tup ws)) (hx : Strs xs vs) (hy : Strs ys ws) (h : R (.bool (decide (xs = ys))) l) : Tr X A l (compareOp .Eq (.ref a) (.ref b)) R := fun s E S => by
  refine SeqAt.eq_tupleAt (e := fun j => decide (xs[j]? = ys[j]?)) (ha.has S).isTup (hb.has S).isTup hu (fun j h1 h2 => ?_) ⟨l, S, ?_⟩
  · have := strs_eqAt hx hy A.in1 s j (by simpa using h1) (by simpa using h2)
    simpa using this
  · have e : ((List.range (min vs.toArray.size ws.toArray.size)).all (fun j => decide (xs[j]? = ys[j]?)) && vs.toArray.size == ws.toArray.size) = decide (xs = ys) := by
      rw [← list_eq_all, List.size_toArray, List.size_toArray, hx.len, hy.len]
    rw [e]; exact h
theorem push_set {G : Array GenState} {x y : GenState} : (G.push x).setIfInBounds G.size y = G.push y := by
  apply Array.ext'
  simp [Array.setIfInBounds]
/-- a token type of these names -/
def TyN (X : Cx) (l : Led) (ty : Addr) (C : Addr) (names : List Str) : Prop := ∃ d tn vs, Kn X l ty (.inst C d) ∧ Kn X l d (.fld [("names", .ref tn)]) ∧ Kn X l tn (.tup vs) ∧ Strs names vs
theorem TyN.skip {p : Addr × OD} {ty C : Addr} {names : List Str} (h : TyN X ⟨F, N, G⟩ ty C names) : TyN X ⟨F, p :: N, G⟩ ty C names := let ⟨d, tn, vs, a, b, c, e⟩ := h; ⟨d, tn, vs, a.skip, b.skip, c.skip, e⟩
theorem TyN.le {ty C : Addr} {names : List Str} (h : TyN X ⟨F, N, G⟩ ty C names) (k : F.le F') : TyN X ⟨F', N, G⟩ ty C names := let ⟨d, tn, vs, a, b, c, e⟩ := h; ⟨d, tn, vs, a.le k, b.le k, c.le k, e⟩
theorem Kn.gens {G' : Array GenState} {a : Addr} {D : OD} (h : Kn X ⟨F, N, G⟩ a D) : Kn X ⟨F, N, G'⟩ a D := h
theorem Kn.none {a : Addr} {D : OD} (h : Kn X ⟨F, [], G⟩ a D) : Kn X ⟨F, N, G⟩ a D := h.elim .inl fun h => h.elim (fun h => nomatch h) fun h => .inr (.inr h)
theorem TyN.none {G' : Array GenState} {ty C : Addr} {names : List Str} (h : TyN X ⟨F, [], G⟩ ty C names) : TyN X ⟨F, N, G'⟩ ty C names := let ⟨d, tn, vs, a, b, c, e⟩ := h; ⟨d, tn, vs, a.none, b.none, c.none, e⟩
end
end Mine

open PySem PySem.W PySem.W.X PyProof.Rows PySem.Calls PySem.Builtin.ObjectAttr
set_option maxRecDepth 100000
set_option Elab.async false
set_option autoImplicit false
set_option linter.unusedVariables false
namespace Mine
section
variable {X : Cx} {A : Around} {l : Led} {env : Env} {F F' : PH} {N N1 N2 N' : List (Addr × OD)} {G : Array GenState} {R : Value → Led → Prop} {x y : Str} {t u : Tok}
theorem t_standAt {α : Type} {p : Pos} {f : Sem α} {R : α → Led → Prop} (h : Tr X A l f R) : Tr X A l (standAt p >>= fun _ => f) R := fun s E S => wpAny_bind (wpAny_standAt (h s E S))
theorem t_Dict2 {k1 k2 : Str} {c1 c2 : Nat} {p1 p2 pos : Pos} {e1 e2 : Expr} (hne : k1 ≠ k2)
    (h : ∀ d, Tr X A ⟨F, (d, .dic []) :: N, G⟩ (eval e1 env) fun v1 l1 => Tr X A l1 (eval e2 env) fun v2 l2 => ∃ N', (d, OD.dic []) ∈ l2.N ∧ LUpd l2.N d (.dic [(k1, v1), (k2, v2)]) N' ∧ R (.ref d) ⟨l2.F, N', l2.G⟩)
    (hshape : (evalEachOpt [some (.Constant (.str k1) c1 p1), some (.Constant (.str k2) c2 p2)] env).zip ((evalEach [e1, e2] env).map fun v => do let x ← v; standAt pos; pure x) =
      ([(eval (.Constant (.str k1) c1 p1) env, eval e1 env >>= fun x => standAt pos >>= fun _ => pure x), (eval (.Constant (.str k2) c2 p2) env, eval e2 env >>= fun x => standAt pos >>= fun _ => pure x)] : List (Sem Value × Sem Value)).map fun p => (some p.1, p.2)) :
    Tr X A ⟨F, N, G⟩ (eval (.Dict [some (.Constant (.str k1) c1 p1), some (.Constant (.str k2) c2 p2)] [e1, e2] pos) env) R := fun s E S => by
  refine wpAny_Dict_pairs (knd := strKind X.prog X.w) hshape (by simp) (by simp) ?_
  have S0 : X.At ⟨F, (s.heap.objs.size, .dic []) :: N, G⟩ { s with heap := s.heap.push { cls := .type "dict", data := .dict #[] } } := At.allocT S (D := .dic []) ⟨⟨rfl, rfl, rfl⟩, List.nodup_nil, #[], 0, rfl, .nil⟩
  refine evalPairs_cons ((t_str (R := fun v l' => ∃ t, v = .str k1 t ∧ l' = ⟨F, (s.heap.objs.size, .dic []) :: N, G⟩) fun t => ⟨t, rfl, rfl⟩).use S0 fun v s1 l1 S1 ⟨ta, ea, eb⟩ => ?_)
  subst ea eb
  refine wpAny_bind ((h s.heap.objs.size).use S1 fun v1 s2 l2 S2 h2 => wpAny_bind (wpAny_standAt (wpAny_pure ?_)))
  refine evalPairs_cons ((t_str (R := fun v l' => ∃ t, v = .str k2 t ∧ l' = l2) fun t => ⟨t, rfl, rfl⟩).use S2 fun v s3 l3 S3 ⟨tb, ea, eb⟩ => ?_)
  subst ea eb
  refine wpAny_bind (h2.use S3 fun v2 s4 l4 S4 h4 => wpAny_bind (wpAny_standAt (wpAny_pure (evalPairs_nil ?_))))
  obtain ⟨N', hm, hu, hR⟩ := h4
  have hi : ∀ (k : Str) (t : Tok), (strKind X.prog X.w).is k (.str k t) = true := fun k t => by simp [PySem.strKind, Value.isStrOf]
  refine ⟨[(k1, v1), (k2, v2)], ⟨hi _ _, rfl, hi _ _, rfl, trivial⟩, (S4.led hm).dictOf, fun h' hd hs => ⟨⟨l4.F, N', l4.G⟩, S4.updT hu hs (dictOf_has (prog := X.prog) ?_), hR⟩⟩
  have e : merged [] [(k1, v1), (k2, v2)] = [(k1, v1), (k2, v2)] := by simp [merged, stored, hne]
  rw [e] at hd
  exact hd
end
end Mine

open PySem PySem.W PyProof.Rows PySem.Calls PySem.Builtin.ObjectAttr
set_option maxRecDepth 100000
set_option Elab.async false
set_option autoImplicit false
set_option linter.unusedVariables false
set_option maxHeartbeats 4000000
namespace Mine
noncomputable abbrev HK := hd02.heap_39
noncomputable abbrev pg := PySem.Challenge.pw_af5023_02
@[reducible] noncomputable def cx (w : World) (mg mb : Str → Option Value) (O : OsState) : Cx := ⟨HK w.params, mg, mb, pg, w, O⟩
variable {w : World} {mg mb : Str → Option Value} {O : OsState}
theorem g_wall_ : nsIn (cx w mg mb O).K mainGlobals "_wall" = some (some (.ref 38)) := by kernel_rfl!
theorem g_TokenType_ : nsIn (cx w mg mb O).K mainGlobals "_TokenType" = some (some (.ref 83)) := by kernel_rfl!
theorem g_Token : nsIn (cx w mg mb O).K mainGlobals "Token" = some (some (.ref 89)) := by kernel_rfl!
theorem g_Whitespace : nsIn (cx w mg mb O).K mainGlobals "Whitespace" = some (some (.ref 93)) := by kernel_rfl!
theorem g_Error : nsIn (cx w mg mb O).K mainGlobals "Error" = some (some (.ref 97)) := by kernel_rfl!
theorem g_String : nsIn (cx w mg mb O).K mainGlobals "String" = some (some (.ref 101)) := by kernel_rfl!
theorem g_Number : nsIn (cx w mg mb O).K mainGlobals "Number" = some (some (.ref 105)) := by kernel_rfl!
theorem g_ALIASES_ : nsIn (cx w mg mb O).K mainGlobals "_ALIASES" = some (some (.ref 108)) := by kernel_rfl!
theorem g_string_to_tokentype : nsIn (cx w mg mb O).K mainGlobals "string_to_tokentype" = some (some (.ref 115)) := by kernel_rfl!
theorem g_CS_ESCAPE : nsIn (cx w mg mb O).K mainGlobals "CS_ESCAPE" = some (some (.ref 120)) := by kernel_rfl!
theorem g_commonprefix : nsIn (cx w mg mb O).K mainGlobals "commonprefix" = some (some (.ref 127)) := by kernel_rfl!
theorem g_make_charset : nsIn (cx w mg mb O).K mainGlobals "make_charset" = some (some (.ref 134)) := by kernel_rfl!
theorem g_pull_ : nsIn (cx w mg mb O).K mainGlobals "_pull" = some (some (.ref 141)) := by kernel_rfl!
theorem g_same_ : nsIn (cx w mg mb O).K mainGlobals "_same" = some (some (.ref 148)) := by kernel_rfl!
theorem g_groupby : nsIn (cx w mg mb O).K mainGlobals "groupby" = some (some (.ref 189)) := by kernel_rfl!
theorem g_grouper_ : nsIn (cx w mg mb O).K mainGlobals "_grouper" = some (some (.ref 234)) := by kernel_rfl!
theorem g_special_chars_map_ : nsIn (cx w mg mb O).K mainGlobals "_special_chars_map" = some (some (.ref 241)) := by kernel_rfl!
theorem g_escape : nsIn (cx w mg mb O).K mainGlobals "escape" = some (some (.ref 251)) := by kernel_rfl!
theorem g_regex_opt_inner : nsIn (cx w mg mb O).K mainGlobals "regex_opt_inner" = some (some (.ref 256)) := by kernel_rfl!
theorem g_regex_opt : nsIn (cx w mg mb O).K mainGlobals "regex_opt" = some (some (.ref 264)) := by kernel_rfl!
theorem g_Lexer : nsIn (cx w mg mb O).K mainGlobals "Lexer" = some (some (.ref 310)) := by kernel_rfl!
theorem g_include : nsIn (cx w mg mb O).K mainGlobals "include" = some (some (.ref 324)) := by kernel_rfl!
theorem g_inherit_ : nsIn (cx w mg mb O).K mainGlobals "_inherit" = some (some (.ref 345)) := by kernel_rfl!
theorem g_combined : nsIn (cx w mg mb O).K mainGlobals "combined" = some (some (.ref 366)) := by kernel_rfl!
theorem g_PseudoMatch_ : nsIn (cx w mg mb O).K mainGlobals "_PseudoMatch" = some (some (.ref 425)) := by kernel_rfl!
theorem g_default : nsIn (cx w mg mb O).K mainGlobals "default" = some (some (.ref 446)) := by kernel_rfl!
theorem g_words : nsIn (cx w mg mb O).K mainGlobals "words" = some (some (.ref 475)) := by kernel_rfl!
theorem g_nothing_ : nsIn (cx w mg mb O).K mainGlobals "_nothing" = some (some (.ref 487)) := by kernel_rfl!
theorem g_inherit_place : nsIn (cx w mg mb O).K mainGlobals "inherit_place" = some (some (.ref 494)) := by kernel_rfl!
theorem g_merged_tokendefs : nsIn (cx w mg mb O).K mainGlobals "merged_tokendefs" = some (some (.ref 501)) := by kernel_rfl!
theorem g_RegexLexerMeta : nsIn (cx w mg mb O).K mainGlobals "RegexLexerMeta" = some (some (.ref 554)) := by kernel_rfl!
theorem g_RegexLexer : nsIn (cx w mg mb O).K mainGlobals "RegexLexer" = some (some (.ref 583)) := by kernel_rfl!
theorem g_PlainMatch : nsIn (cx w mg mb O).K mainGlobals "PlainMatch" = some (some (.ref 624)) := by kernel_rfl!
theorem g_Plain : nsIn (cx w mg mb O).K mainGlobals "Plain" = some (some (.ref 651)) := by kernel_rfl!
theorem g_PlainLexer : nsIn (cx w mg mb O).K mainGlobals "PlainLexer" = some (some (.ref 672)) := by kernel_rfl!
theorem g_law_rest_ : nsIn (cx w mg mb O).K mainGlobals "_law_rest" = some (some (.ref 675)) := by kernel_rfl!
theorem g_law_reads_ : nsIn (cx w mg mb O).K mainGlobals "_law_reads" = some (some (.ref 682)) := by kernel_rfl!
theorem g_law : nsIn (cx w mg mb O).K mainGlobals "law" = some (some (.ref 687)) := by kernel_rfl!
theorem bn_len : nsIn (cx w mg mb O).K mainGlobals "len" = some none := by kernel_rfl!
theorem bn_isinstance : nsIn (cx w mg mb O).K mainGlobals "isinstance" = some none := by kernel_rfl!
theorem bn_type : nsIn (cx w mg mb O).K mainGlobals "type" = some none := by kernel_rfl!
theorem bn_list : nsIn (cx w mg mb O).K mainGlobals "list" = some none := by kernel_rfl!
theorem bn_tuple : nsIn (cx w mg mb O).K mainGlobals "tuple" = some none := by kernel_rfl!
theorem bn_range : nsIn (cx w mg mb O).K mainGlobals "range" = some none := by kernel_rfl!
theorem bn_str : nsIn (cx w mg mb O).K mainGlobals "str" = some none := by kernel_rfl!
theorem bn_int : nsIn (cx w mg mb O).K mainGlobals "int" = some none := by kernel_rfl!
theorem bn_abs : nsIn (cx w mg mb O).K mainGlobals "abs" = some none := by kernel_rfl!
theorem bn_sum : nsIn (cx w mg mb O).K mainGlobals "sum" = some none := by kernel_rfl!
theorem bn_enumerate : nsIn (cx w mg mb O).K mainGlobals "enumerate" = some none := by kernel_rfl!
theorem bn_zip : nsIn (cx w mg mb O).K mainGlobals "zip" = some none := by kernel_rfl!
theorem bn_max : nsIn (cx w mg mb O).K mainGlobals "max" = some none := by kernel_rfl!
theorem bn_min : nsIn (cx w mg mb O).K mainGlobals "min" = some none := by kernel_rfl!
theorem bn_divmod : nsIn (cx w mg mb O).K mainGlobals "divmod" = some none := by kernel_rfl!
theorem bn_callable : nsIn (cx w mg mb O).K mainGlobals "callable" = some none := by kernel_rfl!
theorem ga_83 : hasGA (cx w mg mb O).K 83 = true := by kernel_rfl!
theorem mk_83 : makesIn (cx w mg mb O).K 83 = true := by kernel_rfl!
theorem bo_83 : findIn (cx w mg mb O).K (.ref 83) "__bool__" = some none := by kernel_rfl!
theorem le_83 : findIn (cx w mg mb O).K (.ref 83) "__len__" = some none := by kernel_rfl!
theorem fl_83_names : fieldName (cx w mg mb O).K 83 "names" = true := by kernel_rfl!
theorem st_83_names : setName (cx w mg mb O).K 83 "names" = true := by kernel_rfl!
theorem ga_624 : hasGA (cx w mg mb O).K 624 = true := by kernel_rfl!
theorem mk_624 : makesIn (cx w mg mb O).K 624 = true := by kernel_rfl!
theorem bo_624 : findIn (cx w mg mb O).K (.ref 624) "__bool__" = some none := by kernel_rfl!
theorem le_624 : findIn (cx w mg mb O).K (.ref 624) "__len__" = some none := by kernel_rfl!
theorem fl_624_place : fieldName (cx w mg mb O).K 624 "place" = true := by kernel_rfl!
theorem st_624_place : setName (cx w mg mb O).K 624 "place" = true := by kernel_rfl!
theorem fl_624_pieces : fieldName (cx w mg mb O).K 624 "pieces" = true := by kernel_rfl!
theorem st_624_pieces : setName (cx w mg mb O).K 624 "pieces" = true := by kernel_rfl!
theorem ga_651 : hasGA (cx w mg mb O).K 651 = true := by kernel_rfl!
theorem mk_651 : makesIn (cx w mg mb O).K 651 = true := by kernel_rfl!
theorem bo_651 : findIn (cx w mg mb O).K (.ref 651) "__bool__" = some none := by kernel_rfl!
theorem le_651 : findIn (cx w mg mb O).K (.ref 651) "__len__" = some none := by kernel_rfl!
theorem fl_651_rows : fieldName (cx w mg mb O).K 651 "rows" = true := by kernel_rfl!
theorem st_651_rows : setName (cx w mg mb O).K 651 "rows" = true := by kernel_rfl!
theorem ga_672 : hasGA (cx w mg mb O).K 672 = true := by kernel_rfl!
theorem mk_672 : makesIn (cx w mg mb O).K 672 = true := by kernel_rfl!
theorem bo_672 : findIn (cx w mg mb O).K (.ref 672) "__bool__" = some none := by kernel_rfl!
theorem le_672 : findIn (cx w mg mb O).K (.ref 672) "__len__" = some none := by kernel_rfl!
theorem fl_672_options : fieldName (cx w mg mb O).K 672 "options" = true := by kernel_rfl!
theorem st_672_options : setName (cx w mg mb O).K 672 "options" = true := by kernel_rfl!
theorem fl_672_stripnl : fieldName (cx w mg mb O).K 672 "stripnl" = true := by kernel_rfl!
theorem st_672_stripnl : setName (cx w mg mb O).K 672 "stripnl" = true := by kernel_rfl!
theorem fl_672_stripall : fieldName (cx w mg mb O).K 672 "stripall" = true := by kernel_rfl!
theorem st_672_stripall : setName (cx w mg mb O).K 672 "stripall" = true := by kernel_rfl!
theorem fl_672_ensurenl : fieldName (cx w mg mb O).K 672 "ensurenl" = true := by kernel_rfl!
theorem st_672_ensurenl : setName (cx w mg mb O).K 672 "ensurenl" = true := by kernel_rfl!
theorem fl_672_filters : fieldName (cx w mg mb O).K 672 "filters" = true := by kernel_rfl!
theorem st_672_filters : setName (cx w mg mb O).K 672 "filters" = true := by kernel_rfl!
theorem fl_672_tables : fieldName (cx w mg mb O).K 672 "tables" = true := by kernel_rfl!
theorem st_672_tables : setName (cx w mg mb O).K 672 "tables" = true := by kernel_rfl!
theorem fl_672_all_tokens_ : fieldName (cx w mg mb O).K 672 "_all_tokens" = true := by kernel_rfl!
theorem st_672_all_tokens_ : setName (cx w mg mb O).K 672 "_all_tokens" = true := by kernel_rfl!
theorem fl_672_tmpname_ : fieldName (cx w mg mb O).K 672 "_tmpname" = true := by kernel_rfl!
theorem st_672_tmpname_ : setName (cx w mg mb O).K 672 "_tmpname" = true := by kernel_rfl!
theorem fl_672_tokens_ : fieldName (cx w mg mb O).K 672 "_tokens" = true := by kernel_rfl!
theorem st_672_tokens_ : setName (cx w mg mb O).K 672 "_tokens" = true := by kernel_rfl!
theorem in_83 : findIn (cx w mg mb O).K (.ref 83) "__init__" = some (some (.ref 52)) := by kernel_rfl!
theorem if_83 : isFn (cx w mg mb O).K (.ref 52) = true := by kernel_rfl!
theorem cal_83 {l : Led} : Callee (cx w mg mb O) l (.ref 83) := callee_cls rfl rfl
theorem in_624 : findIn (cx w mg mb O).K (.ref 624) "__init__" = some (some (.ref 599)) := by kernel_rfl!
theorem if_624 : isFn (cx w mg mb O).K (.ref 599) = true := by kernel_rfl!
theorem cal_624 {l : Led} : Callee (cx w mg mb O) l (.ref 624) := callee_cls rfl rfl
theorem in_651 : findIn (cx w mg mb O).K (.ref 651) "__init__" = some (some (.ref 642)) := by kernel_rfl!
theorem if_651 : isFn (cx w mg mb O).K (.ref 642) = true := by kernel_rfl!
theorem cal_651 {l : Led} : Callee (cx w mg mb O) l (.ref 651) := callee_cls rfl rfl
theorem in_672 : findIn (cx w mg mb O).K (.ref 672) "__init__" = some (some (.ref 571)) := by kernel_rfl!
theorem if_672 : isFn (cx w mg mb O).K (.ref 571) = true := by kernel_rfl!
theorem cal_672 {l : Led} : Callee (cx w mg mb O) l (.ref 672) := callee_cls rfl rfl
theorem df_672_get_tokendefs : defName (cx w mg mb O).K 672 "get_tokendefs" 551 = true := by kernel_rfl!
theorem df_672_process_tokendef : defName (cx w mg mb O).K 672 "process_tokendef" 544 = true := by kernel_rfl!
theorem df_672_process_state_ : defName (cx w mg mb O).K 672 "_process_state" 536 = true := by kernel_rfl!
theorem df_672_process_regex_ : defName (cx w mg mb O).K 672 "_process_regex" 669 = true := by kernel_rfl!
theorem df_672_process_token_ : defName (cx w mg mb O).K 672 "_process_token" 522 = true := by kernel_rfl!
theorem df_672_process_new_state_ : defName (cx w mg mb O).K 672 "_process_new_state" 529 = true := by kernel_rfl!
theorem df_672_get_tokens_unprocessed : defName (cx w mg mb O).K 672 "get_tokens_unprocessed" 580 = true := by kernel_rfl!
theorem df_624_group : defName (cx w mg mb O).K 624 "group" 621 = true := by kernel_rfl!
theorem df_624_end : defName (cx w mg mb O).K 624 "end" 615 = true := by kernel_rfl!
theorem df_83_child : defName (cx w mg mb O).K 83 "child" 73 = true := by kernel_rfl!
theorem ni_str_TokenType_ : isNotIn (cx w mg mb O).K "str" 83 = true := by kernel_rfl!
theorem ni_str_combined : isNotIn (cx w mg mb O).K "str" 366 = true := by kernel_rfl!
theorem ni_tuple_inherit_ : isNotIn (cx w mg mb O).K "tuple" 345 = true := by kernel_rfl!
theorem ni_tuple_include : isNotIn (cx w mg mb O).K "tuple" 324 = true := by kernel_rfl!
theorem ni_tuple_default : isNotIn (cx w mg mb O).K "tuple" 446 = true := by kernel_rfl!
theorem ni_tuple_combined : isNotIn (cx w mg mb O).K "tuple" 366 = true := by kernel_rfl!
theorem ni_int_combined : isNotIn (cx w mg mb O).K "int" 366 = true := by kernel_rfl!
theorem cal_621 {l : Led} : Callee (cx w mg mb O) l (.ref 621) := callee_fn rfl
theorem cal_615 {l : Led} : Callee (cx w mg mb O) l (.ref 615) := callee_fn rfl
theorem cal_648 {l : Led} : Callee (cx w mg mb O) l (.ref 648) := callee_fn rfl
theorem cal_73 {l : Led} : Callee (cx w mg mb O) l (.ref 73) := callee_fn rfl
theorem cal_115 {l : Led} : Callee (cx w mg mb O) l (.ref 115) := callee_fn rfl
theorem cal_494 {l : Led} : Callee (cx w mg mb O) l (.ref 494) := callee_fn rfl
theorem cal_501 {l : Led} : Callee (cx w mg mb O) l (.ref 501) := callee_fn rfl
theorem cal_551 {l : Led} : Callee (cx w mg mb O) l (.ref 551) := callee_fn rfl
theorem cal_544 {l : Led} : Callee (cx w mg mb O) l (.ref 544) := callee_fn rfl
theorem cal_536 {l : Led} : Callee (cx w mg mb O) l (.ref 536) := callee_fn rfl
theorem cal_669 {l : Led} : Callee (cx w mg mb O) l (.ref 669) := callee_fn rfl
theorem cal_522 {l : Led} : Callee (cx w mg mb O) l (.ref 522) := callee_fn rfl
theorem cal_529 {l : Led} : Callee (cx w mg mb O) l (.ref 529) := callee_fn rfl
theorem cal_580 {l : Led} : Callee (cx w mg mb O) l (.ref 580) := callee_fn rfl
theorem cal_278 {l : Led} : Callee (cx w mg mb O) l (.ref 278) := callee_fn rfl
theorem cal_682 {l : Led} : Callee (cx w mg mb O) l (.ref 682) := callee_fn rfl
theorem cal_687 {l : Led} : Callee (cx w mg mb O) l (.ref 687) := callee_fn rfl

end Mine

open PySem PySem.W PySem.W.X PyProof.Rows PySem.Calls PySem.Builtin.ObjectAttr
set_option maxRecDepth 100000
set_option Elab.async false
set_option autoImplicit false
set_option linter.unusedVariables false
set_option maxHeartbeats 4000000
namespace Mine
variable {w : World} {mg mb : Str → Option Value} {O : OsState} {A : Around} {F : PH} {N : List (Addr × OD)} {G : Array GenState}
theorem kn_89 {l : Led} : Kn (cx w mg mb O) l 89 (.inst 83 88) := Kn.ofK (o := ⟨.ref 83, some 88, .plain, #[]⟩) (by decide) (by kernel_rfl!) ⟨rfl, rfl, rfl⟩
theorem kn_90 {l : Led} : Kn (cx w mg mb O) l 90 (.tup []) := Kn.ofK (o := ⟨.type "tuple", none, .seq #[] 0, #[]⟩) (by decide) (by kernel_rfl!) ⟨rfl, rfl, 0, rfl⟩
theorem kn_88 {l : Led} : Kn (cx w mg mb O) l 88 (.fld [("names", .ref 90)]) := Kn.ofK (by decide) (by rfl) (fld1_ok rfl)
theorem kn_108 {l : Led} : Kn (cx w mg mb O) l 108 (.dic [("Token", .ref 89), ("String", .ref 101), ("Number", .ref 105)]) := by
  refine Kn.ofK (by decide) (by rfl) ⟨⟨rfl, rfl, rfl⟩, by decide, _, _, rfl, ?_⟩
  exact .cons ⟨⟨_, rfl⟩, rfl, rfl⟩ (.cons ⟨⟨_, rfl⟩, rfl, rfl⟩ (.cons ⟨⟨_, rfl⟩, rfl, rfl⟩ .nil))
theorem rd_310 : readsIn (cx w mg mb O).K 310 (.type "type") = true := by kernel_rfl!
theorem fc_310_init : findCls (cx w mg mb O).K (.ref 310) (.type "type") "__init__" = some (.val (.ref 278)) := by kernel_rfl!
end Mine

open PySem PySem.W PySem.W.X PyProof.Rows PySem.Calls PySem.Builtin.ObjectAttr
set_option maxRecDepth 100000
set_option Elab.async false
set_option autoImplicit false
set_option linter.unusedVariables false
set_option maxHeartbeats 4000000
namespace Mine
variable {w : World} {mg mb : Str → Option Value} {O : OsState} {A : Around} {F : PH} {N : List (Addr × OD)} {G : Array GenState}
theorem cv_flags : clsValue (cx w mg mb O).K 672 "flags" (.int 8 1197) = true := by kernel_rfl!
theorem bd_match : boundName (cx w mg mb O).K 651 "match" 648 = true := by kernel_rfl!
section
variable {X : Cx} {l : Led} {R : Value → Led → Prop} {x : Str} {t : Tok}
theorem t_tupIn2 {a : Addr} {y1 y2 : Str} {t1 t2 : Tok} (ha : Kn X l a (.tup [.str y1 t1, .str y2 t2])) (h : R (.bool (decide (x = y1) || decide (x = y2))) l) : Tr X A l (compareOp .In (.str x t) (.ref a)) R := fun s E S => by
  refine PySem.SeqAt.in_tupleAt (fun v => match v with | .str y _ => y.cps.toList == x.cps.toList | _ => false) (ha.has S).isTup (fun y hy => ?_) ⟨l, S, ?_⟩
  · rcases (by simpa using hy : y = .str y1 t1 ∨ y = .str y2 t2) with rfl | rfl
    · exact MeetsSeq.EqGives.at (SeqRoads2.EqGives.str _ _ _ _) _ _
    · exact MeetsSeq.EqGives.at (SeqRoads2.EqGives.str _ _ _ _) _ _
  · have e : ∀ a b : Str, (a.cps.toList == b.cps.toList) = decide (b = a) := fun a b => by
      obtain ⟨⟨a⟩⟩ := a
      obtain ⟨⟨b⟩⟩ := b
      by_cases h : b = a
      · subst h; simp
      · have : ¬ (Str.mk ⟨b⟩ = Str.mk ⟨a⟩) := by simpa using h
        rw [decide_eq_false this]
        simpa using fun q => h q.symm
    have q : ([Value.str y1 t1, Value.str y2 t2].toArray.any fun v => match v with | .str y _ => y.cps.toList == x.cps.toList | _ => false) = (decide (x = y1) || decide (x = y2)) := by
      simp [e]
    rw [q]; exact h
end
end Mine

open PySem PySem.W PyProof.Rows PySem.Calls PySem.Builtin.ObjectAttr
set_option maxRecDepth 100000
set_option Elab.async false
set_option autoImplicit false
set_option linter.unusedVariables false
set_option maxHeartbeats 4000000
namespace Mine
local macro_rules | `(tactic| top_name) => `(tactic| first | (with_reducible exact List.mem_cons_self) | (with_reducible refine List.mem_cons_of_mem _ ?_; top_name) | (with_reducible assumption))
local macro_rules | `(tactic| k_caught0) => `(tactic| first
  | (with_reducible exact LUpd.head) | (with_reducible exact LSet.nil) | (with_reducible exact LSet.head) | (with_reducible exact Rem.head) | (with_reducible exact Pick.refl)
  | ((with_reducible apply LUpd.tail); (k_caught0))
  | ((with_reducible apply LSet.tail); (· (decide +kernel)); (k_caught0))
  | ((with_reducible apply Rem.tail); (k_caught0))
  | ((with_reducible apply Pick.cons); (· k_caught0); (k_caught0))
  | ((with_reducible apply Pick.drop); (k_caught0)))
local macro_rules | `(tactic| top_raise) => `(tactic| first | (with_reducible refine Kn.row' ?_; top_name) | (with_reducible refine Kn.fz' ?_; with_reducible assumption) | (with_reducible assumption) | ((with_reducible refine Kn.skip ?_); top_raise))
local macro_rules | `(tactic| k_caughtN0) => `(tactic| first | assumption | (exact Rm.le (by assumption) (by decide)) | ((refine Rm.dp ?_); k_caughtN0) | ((refine Rm.mk' ?_); k_caughtN0) | (refine Rm.le (Rm.over (n := 40) (Rm.le (by assumption) (by decide)) (by first | exact Quiet.ok (by assumption) | exact fsOk_while (Quiet.ok (by assumption)))) (by decide)))
local macro_rules | `(tactic| k_caughtB) => `(tactic| first | exact Strs.nil | ((apply Strs.cons); k_caughtB) | assumption)
local macro_rules | `(tactic| top_strB) => `(tactic| with_reducible first | exact bl_len | exact bl_isinstance | exact bl_type | exact bl_list | exact bl_tuple | exact bl_range | exact bl_str | exact bl_int | exact bl_abs | exact bl_sum | exact bl_enumerate | exact bl_zip | exact bl_max | exact bl_min | exact bl_divmod | exact bl_callable)
local macro_rules | `(tactic| top_raise0) => `(tactic| with_reducible first | exact g_wall_ | exact g_TokenType_ | exact g_Token | exact g_Whitespace | exact g_Error | exact g_String | exact g_Number | exact g_ALIASES_ | exact g_string_to_tokentype | exact g_CS_ESCAPE | exact g_commonprefix | exact g_make_charset | exact g_pull_ | exact g_same_ | exact g_groupby | exact g_grouper_ | exact g_special_chars_map_ | exact g_escape | exact g_regex_opt_inner | exact g_regex_opt | exact g_Lexer | exact g_include | exact g_inherit_ | exact g_combined | exact g_PseudoMatch_ | exact g_default | exact g_words | exact g_nothing_ | exact g_inherit_place | exact g_merged_tokendefs | exact g_RegexLexerMeta | exact g_RegexLexer | exact g_PlainMatch | exact g_Plain | exact g_PlainLexer | exact g_law_rest_ | exact g_law_reads_ | exact g_law)
local macro_rules | `(tactic| top_argsB) => `(tactic| with_reducible first | exact bn_len | exact bn_isinstance | exact bn_type | exact bn_list | exact bn_tuple | exact bn_range | exact bn_str | exact bn_int | exact bn_abs | exact bn_sum | exact bn_enumerate | exact bn_zip | exact bn_max | exact bn_min | exact bn_divmod | exact bn_callable)
local macro_rules | `(tactic| top_reprB) => `(tactic| with_reducible first | exact ga_83 | exact mk_83 | exact bo_83 | exact le_83 | exact ga_624 | exact mk_624 | exact bo_624 | exact le_624 | exact ga_651 | exact mk_651 | exact bo_651 | exact le_651 | exact ga_672 | exact mk_672 | exact bo_672 | exact le_672 | exact in_83 | exact if_83 | exact in_624 | exact if_624 | exact in_651 | exact if_651 | exact in_672 | exact if_672 | exact df_672_get_tokendefs | exact df_672_process_tokendef | exact df_672_process_state_ | exact df_672_process_regex_ | exact df_672_process_token_ | exact df_672_process_new_state_ | exact df_672_get_tokens_unprocessed | exact df_624_group | exact df_624_end | exact df_83_child | exact ni_str_TokenType_ | exact ni_str_combined | exact ni_tuple_inherit_ | exact ni_tuple_include | exact ni_tuple_default | exact ni_tuple_combined | exact ni_int_combined)
local macro_rules | `(tactic| top_caughtB) => `(tactic| with_reducible first | exact fl_83_names | exact fl_624_place | exact fl_624_pieces | exact fl_651_rows | exact fl_672_options | exact fl_672_stripnl | exact fl_672_stripall | exact fl_672_ensurenl | exact fl_672_filters | exact fl_672_tables | exact fl_672_all_tokens_ | exact fl_672_tmpname_ | exact fl_672_tokens_)
local macro_rules | `(tactic| top_raiseB) => `(tactic| with_reducible first | exact st_83_names | exact st_624_place | exact st_624_pieces | exact st_651_rows | exact st_672_options | exact st_672_stripnl | exact st_672_stripall | exact st_672_ensurenl | exact st_672_filters | exact st_672_tables | exact st_672_all_tokens_ | exact st_672_tmpname_ | exact st_672_tokens_)
local macro_rules | `(tactic| k_caughtNB) => `(tactic| with_reducible first | exact callee_bltin | exact callee_type | exact cal_83 | exact cal_624 | exact cal_651 | exact cal_672 | exact cal_621 | exact cal_615 | exact cal_648 | exact cal_73 | exact cal_115 | exact cal_494 | exact cal_501 | exact cal_551 | exact cal_544 | exact cal_536 | exact cal_669 | exact cal_522 | exact cal_529 | exact cal_580 | exact cal_278 | exact cal_682 | exact cal_687)

variable {w : World} {mg mb : Str → Option Value} {O : OsState} {A : Around} {F : PH} {N : List (Addr × OD)} {G : Array GenState}

theorem sp_PMinit (p : Addr) (pl pc : Value) (d : Addr) (hA : Rm A 20) (R : Value → Led → Prop) (h : R .none ⟨F, (p, .inst 624 d) :: (d, .fld [("place", pl), ("pieces", pc)]) :: N, G⟩) :
   Cl (cx w mg mb O) A ⟨F, (p, .inst 624 d) :: (d, .fld []) :: N, G⟩ (.call (.ref 599) ⟨[.ref p, pl, pc], []⟩) (Rv R) := by
  refine cl_def' (binds := [("self", .ref p), ("place", pl), ("pieces", pc)]) rfl (by kernel_rfl!) (by kernel_rfl!) hA.room rfl rfl (n := 0) (by rfl) ?_
  intro L
  with_reducible refine cells0 ?_
  with_reducible refine trB_cons ?_
  ((with_reducible refine' t_store ?zhL ?zu ?zhN ?zhl ?zhx ?zhk ?_); (case zhx => kernel_rfl!); (case zhN => top_name); (case zhL => rfl); (case zhl => k_caught0); (case zu => k_caught0); (case zhk => rfl))
  with_reducible refine trB_cons ?_
  ((with_reducible refine' t_store ?zhL ?zu ?zhN ?zhl ?zhx ?zhk ?_); (case zhx => kernel_rfl!); (case zhN => top_name); (case zhL => rfl); (case zhl => k_caught0); (case zu => k_caught0); (case zhk => rfl))
  with_reducible refine trB_cons ?_
  ((with_reducible refine' t_store ?zhL ?zu ?zhN ?zhl ?zhx ?zhk ?_); (case zhx => kernel_rfl!); (case zhN => top_name); (case zhL => rfl); (case zhl => k_caught0); (case zu => k_caught0); (case zhk => rfl))
  with_reducible refine trB_nil ?_
  with_reducible refine t_cons ?_
  ((with_reducible refine t_AssignAttr ?_ ?zhs); (case zhs => rfl))
  ((with_reducible refine' t_local ?zhL ?zhN ?zhv ?zhx ?zhk ?zhd ?_); (case zhx => kernel_rfl!); (case zhN => top_name); (case zhL => rfl); (case zhv => top_name); (case zhk => rfl); (case zhd => decide +kernel))
  ((with_reducible refine' t_local ?zhL ?zhN ?zhv ?zhx ?zhk ?zhd ?_); (case zhx => kernel_rfl!); (case zhN => top_name); (case zhL => rfl); (case zhv => top_name); (case zhk => rfl); (case zhd => decide +kernel))
  ((with_reducible refine' t_setattr ?zhx ?zhd ?zhf ?zhl ?zu ?zhz ?_); (case zhx => top_raise); (case zhd => top_name); (case zhl => k_caught0); (case zu => k_caught0); (case zhf => top_raiseB); (case zhz => simp))
  with_reducible refine fl_next ?_
  with_reducible refine t_cons ?_
  ((with_reducible refine t_AssignAttr ?_ ?zhs); (case zhs => rfl))
  ((with_reducible refine' t_local ?zhL ?zhN ?zhv ?zhx ?zhk ?zhd ?_); (case zhx => kernel_rfl!); (case zhN => top_name); (case zhL => rfl); (case zhv => top_name); (case zhk => rfl); (case zhd => decide +kernel))
  ((with_reducible refine' t_local ?zhL ?zhN ?zhv ?zhx ?zhk ?zhd ?_); (case zhx => kernel_rfl!); (case zhN => top_name); (case zhL => rfl); (case zhv => top_name); (case zhk => rfl); (case zhd => decide +kernel))
  ((with_reducible refine' t_setattr ?zhx ?zhd ?zhf ?zhl ?zu ?zhz ?_); (case zhx => top_raise); (case zhd => top_name); (case zhl => k_caught0); (case zu => k_caught0); (case zhf => top_raiseB); (case zhz => simp))
  with_reducible refine fl_next ?_
  with_reducible refine t_nil ?_
  exact ⟨_, by k_caught0, _, rfl, h⟩

theorem sp_PMgroup {p d r : Addr} {pl : Value} {c : Nat} {t : Tok} (hp : Kn (cx w mg mb O) ⟨F, N, G⟩ p (.inst 624 d)) (hd : Kn (cx w mg mb O) ⟨F, N, G⟩ d (.fld [("place", pl), ("pieces", .ref r)])) (hr : Kn (cx w mg mb O) ⟨F, N, G⟩ r (.lst [.str ⟨#[c]⟩ t]))
   (hA : Rm A 20) (R : Value → Led → Prop) (h : ∀ t, R (.str ⟨#[c]⟩ t) ⟨F, N, G⟩) :
   Cl (cx w mg mb O) A ⟨F, N, G⟩ (.call (.ref 621) ⟨[.ref p], []⟩) (Rv R) := by
  refine cl_def' (binds := [("self", .ref p), ("arg", .int 0 _)]) rfl (by kernel_rfl!) (by rfl) hA.room rfl rfl (n := 0) (by rfl) ?_
  intro L
  with_reducible refine cells0 ?_
  with_reducible refine trB_cons ?_
  ((with_reducible refine' t_store ?zhL ?zu ?zhN ?zhl ?zhx ?zhk ?_); (case zhx => kernel_rfl!); (case zhN => top_name); (case zhL => rfl); (case zhl => k_caught0); (case zu => k_caught0); (case zhk => rfl))
  with_reducible refine trB_cons ?_
  ((with_reducible refine' t_store ?zhL ?zu ?zhN ?zhl ?zhx ?zhk ?_); (case zhx => kernel_rfl!); (case zhN => top_name); (case zhL => rfl); (case zhl => k_caught0); (case zu => k_caught0); (case zhk => rfl))
  with_reducible refine trB_nil ?_
  with_reducible refine t_cons ?_
  with_reducible refine t_If ?_
  ((with_reducible refine t_isVal ?_ ?zhe); (case zhe => rfl))
  ((with_reducible refine' t_local ?zhL ?zhN ?zhv ?zhx ?zhk ?zhd ?_); (case zhx => kernel_rfl!); (case zhN => top_name); (case zhL => rfl); (case zhv => top_name); (case zhk => rfl); (case zhd => decide +kernel))
  with_reducible refine tt_int ?_
  ((with_reducible refine if_F ?ze ?_); (case ze => (first | rfl | decide)))
  with_reducible refine t_nil ?_
  with_reducible refine fl_next ?_
  with_reducible refine t_cons ?_
  with_reducible refine t_Return ?_
  ((with_reducible refine' t_MCall ?_ ?zhe); (case zhe => rfl))
  ((with_reducible refine t_str ?_); (intro _))
  with_reducible refine ms_join ?_
  with_reducible refine mc ?_
  with_reducible refine t_callWithP ?_
  ((with_reducible refine t_evalArgs ?_ ?zhe); (case zhe => rfl))
  ((with_reducible refine t_args ?_ ?zhe); (case zhe => rfl))
  ((with_reducible refine' t_ListComp ?zhclos ?zhkind ?zhnames ?zhc ?_ ?zhs); (case zhclos => rfl); (case zhkind => rfl); (case zhnames => decide +kernel); (case zhc => rfl); (case zhs => exact fun _ => rfl))
  ((with_reducible refine t_Attr ?_ ?zhe); (case zhe => rfl))
  ((with_reducible refine' t_local ?zhL ?zhN ?zhv ?zhx ?zhk ?zhd ?_); (case zhx => kernel_rfl!); (case zhN => top_name); (case zhL => rfl); (case zhv => top_name); (case zhk => rfl); (case zhd => decide +kernel))
  ((with_reducible refine' t_field ?zhx ?zhd ?zhv ?zhf ?zhg ?zhh ?_); (case zhx => top_raise); (case zhd => top_raise); (case zhv => top_name); (case zhf => top_caughtB); (case zhg => top_reprB); (case zhh => rfl))
  ((with_reducible refine' t_iterList ?zha ?_); (case zha => top_raise); (intro _))
  with_reducible refine opn ?_
  intro _
  intro _
  ((with_reducible refine' cs_list ?zhi ?_); (case zhi => top_name))
  with_reducible refine cl_comp1 ?_
  ((with_reducible refine' t_nextList ?zhi ?zha ?zhv ?zu ?_); (case zhi => top_name); (case zha => top_raise); (case zhv => rfl); (case zu => k_caught0))
  with_reducible refine t_goName ?_
  with_reducible refine t_assignName ?_
  ((with_reducible refine' t_store ?zhL ?zu ?zhN ?zhl ?zhx ?zhk ?_); (case zhx => kernel_rfl!); (case zhN => top_name); (case zhL => rfl); (case zhl => k_caught0); (case zu => k_caught0); (case zhk => rfl))
  with_reducible refine t_Or ?_
  ((with_reducible refine' t_local ?zhL ?zhN ?zhv ?zhx ?zhk ?zhd ?_); (case zhx => kernel_rfl!); (case zhN => top_name); (case zhL => rfl); (case zhv => top_name); (case zhk => rfl); (case zhd => decide +kernel))
  with_reducible refine tt_str1 ?_
  with_reducible refine if_t ?_
  ((with_reducible refine' t_append0 ?zha ?zu ?_); (case zha => top_name); (case zu => k_caught0))
  with_reducible refine cl_comp1 ?_
  ((with_reducible refine' t_nextListEnd ?zhh ?zhi ?zha ?zhv ?zu ?_); (case zhh => (refine Rm.hd (n := 0) ?_; k_caughtN0)); (case zhi => top_name); (case zha => top_raise); (case zhv => simp); (case zu => k_caught0))
  ((with_reducible refine' endC ?zr ?_); (case zr => k_caught0))
  with_reducible refine t_args0 ?_
  ((with_reducible refine cp1 ?zhc ?_); (case zhc => k_caughtNB))
  ((with_reducible refine' t_join11 ?zha ?_); (case zha => top_raise); (intro _))
  with_reducible refine fl_ret ?_
  exact ⟨_, by k_caught0, _, rfl, h _⟩

theorem sp_PMend {p d r : Addr} {pl : Int} {tp : Tok} {c : Nat} {t : Tok} (hp : Kn (cx w mg mb O) ⟨F, N, G⟩ p (.inst 624 d)) (hd : Kn (cx w mg mb O) ⟨F, N, G⟩ d (.fld [("place", .int pl tp), ("pieces", .ref r)])) (hr : Kn (cx w mg mb O) ⟨F, N, G⟩ r (.lst [.str ⟨#[c]⟩ t]))
   (hA : Rm A 21) (R : Value → Led → Prop) (h : ∀ t, R (.int (pl + 1) t) ⟨F, N, G⟩) :
   Cl (cx w mg mb O) A ⟨F, N, G⟩ (.call (.ref 615) ⟨[.ref p], []⟩) (Rv R) := by
  refine cl_def' (binds := [("self", .ref p), ("arg", .int 0 _)]) rfl (by kernel_rfl!) (by rfl) hA.room rfl rfl (n := 0) (by rfl) ?_
  intro L
  with_reducible refine cells0 ?_
  with_reducible refine trB_cons ?_
  ((with_reducible refine' t_store ?zhL ?zu ?zhN ?zhl ?zhx ?zhk ?_); (case zhx => kernel_rfl!); (case zhN => top_name); (case zhL => rfl); (case zhl => k_caught0); (case zu => k_caught0); (case zhk => rfl))
  with_reducible refine trB_cons ?_
  ((with_reducible refine' t_store ?zhL ?zu ?zhN ?zhl ?zhx ?zhk ?_); (case zhx => kernel_rfl!); (case zhN => top_name); (case zhL => rfl); (case zhl => k_caught0); (case zu => k_caught0); (case zhk => rfl))
  with_reducible refine trB_nil ?_
  with_reducible refine t_cons ?_
  with_reducible refine t_If ?_
  ((with_reducible refine t_isVal ?_ ?zhe); (case zhe => rfl))
  ((with_reducible refine' t_local ?zhL ?zhN ?zhv ?zhx ?zhk ?zhd ?_); (case zhx => kernel_rfl!); (case zhN => top_name); (case zhL => rfl); (case zhv => top_name); (case zhk => rfl); (case zhd => decide +kernel))
  with_reducible refine tt_int ?_
  ((with_reducible refine if_F ?ze ?_); (case ze => (first | rfl | decide)))
  with_reducible refine t_nil ?_
  with_reducible refine fl_next ?_
  with_reducible refine t_cons ?_
  with_reducible refine t_Return ?_
  with_reducible refine t_Bin ?_
  ((with_reducible refine t_Attr ?_ ?zhe); (case zhe => rfl))
  ((with_reducible refine' t_local ?zhL ?zhN ?zhv ?zhx ?zhk ?zhd ?_); (case zhx => kernel_rfl!); (case zhN => top_name); (case zhL => rfl); (case zhv => top_name); (case zhk => rfl); (case zhd => decide +kernel))
  ((with_reducible refine' t_field ?zhx ?zhd ?zhv ?zhf ?zhg ?zhh ?_); (case zhx => top_raise); (case zhd => top_raise); (case zhv => top_name); (case zhf => top_caughtB); (case zhg => top_reprB); (case zhh => rfl))
  ((with_reducible refine t_Call ?_ ?zhe); (case zhe => rfl))
  ((with_reducible refine' t_bltin ?ze ?zhv ?zhn ?zhg ?zhb ?zhk ?zhx ?zhd ?_); (case zhv => top_strB); (case ze => top_argsB); (case zhn => decide +kernel); (case zhg => rfl); (case zhb => rfl); (case zhk => rfl); (case zhx => kernel_rfl!); (case zhd => decide +kernel))
  with_reducible refine t_callWithP ?_
  ((with_reducible refine t_evalArgs ?_ ?zhe); (case zhe => rfl))
  ((with_reducible refine t_args ?_ ?zhe); (case zhe => rfl))
  ((with_reducible refine' t_MCall ?_ ?zhe); (case zhe => rfl))
  ((with_reducible refine' t_local ?zhL ?zhN ?zhv ?zhx ?zhk ?zhd ?_); (case zhx => kernel_rfl!); (case zhN => top_name); (case zhL => rfl); (case zhv => top_name); (case zhk => rfl); (case zhd => decide +kernel))
  ((with_reducible refine' t_methodOf (f := 621) ?zhx ?zhd ?zhf ?zhg ?zhn ?_); (case zhx => top_raise); (case zhd => top_raise); (case zhf => top_reprB); (case zhg => top_reprB); (case zhn => kernel_rfl!))
  with_reducible refine mc ?_
  with_reducible refine t_callWithP ?_
  with_reducible refine t_evalArgs0 ?_
  ((with_reducible refine cp1 ?zhc ?_); (case zhc => k_caughtNB))
  ((with_reducible refine' tr_call (sp_PMgroup ?zhp ?zhd ?zhr ?zhA _ ?_)); (case zhp => top_raise); (case zhd => top_raise); (case zhr => top_raise); (case zhA => k_caughtN0); (intro _))
  with_reducible refine t_args0 ?_
  ((with_reducible refine cp0 ?zhc ?_); (case zhc => k_caughtNB))
  ((with_reducible refine t_len1 ?_); (intro _))
  ((with_reducible refine ti_add ?_); (intro _))
  with_reducible refine fl_ret ?_
  exact ⟨_, by k_caught0, _, rfl, h _⟩

/-- a pattern of one letter -/
theorem sp_match {p d r r1 : Addr} {c : Nat} {tc : Tok} (hp : Kn (cx w mg mb O) ⟨F, N, G⟩ p (.inst 651 d)) (hd : Kn (cx w mg mb O) ⟨F, N, G⟩ d (.fld [("rows", .ref r)])) (hr : Kn (cx w mg mb O) ⟨F, N, G⟩ r (.lst [.ref r1]))
   (hr1 : Kn (cx w mg mb O) ⟨F, N, G⟩ r1 (.lst [.str ⟨#[c]⟩ tc])) {text : Str} {tt tp : Tok} {pos : Nat} (hz : text.length ≤ 1000000) (hpos : pos ≤ 1000000)
   (hA : Rm A 30) (R : Value → Led → Prop) (h0 : text.cps[pos]? ≠ some c → R .none ⟨F, N, G⟩)
   (h1 : text.cps[pos]? = some c → ∀ m dm tk, R (.ref m) ⟨F, (m, .inst 624 dm) :: (dm, .fld [("place", .int pos tk), ("pieces", .ref r1)]) :: N, G⟩) :
   Cl (cx w mg mb O) A ⟨F, N, G⟩ (.call (.ref 648) ⟨[.ref p, .str text tt, .int pos tp], []⟩) (Rv R) := by
  refine cl_def' (binds := [("self", .ref p), ("text", .str text tt), ("pos", .int pos tp), ("endpos", .none)]) rfl (by kernel_rfl!) (by rfl) hA.room rfl rfl (n := 0) (by rfl) ?_
  intro L
  with_reducible refine cells0 ?_
  with_reducible refine trB_cons ?_
  ((with_reducible refine' t_store ?zhL ?zu ?zhN ?zhl ?zhx ?zhk ?_); (case zhx => kernel_rfl!); (case zhN => top_name); (case zhL => rfl); (case zhl => k_caught0); (case zu => k_caught0); (case zhk => rfl))
  with_reducible refine trB_cons ?_
  ((with_reducible refine' t_store ?zhL ?zu ?zhN ?zhl ?zhx ?zhk ?_); (case zhx => kernel_rfl!); (case zhN => top_name); (case zhL => rfl); (case zhl => k_caught0); (case zu => k_caught0); (case zhk => rfl))
  with_reducible refine trB_cons ?_
  ((with_reducible refine' t_store ?zhL ?zu ?zhN ?zhl ?zhx ?zhk ?_); (case zhx => kernel_rfl!); (case zhN => top_name); (case zhL => rfl); (case zhl => k_caught0); (case zu => k_caught0); (case zhk => rfl))
  with_reducible refine trB_cons ?_
  ((with_reducible refine' t_store ?zhL ?zu ?zhN ?zhl ?zhx ?zhk ?_); (case zhx => kernel_rfl!); (case zhN => top_name); (case zhL => rfl); (case zhl => k_caught0); (case zu => k_caught0); (case zhk => rfl))
  with_reducible refine trB_nil ?_
  with_reducible refine t_cons ?_
  ((with_reducible refine t_For ?_ ?zhs); (case zhs => exact fun _ => rfl))
  ((with_reducible refine t_Attr ?_ ?zhe); (case zhe => rfl))
  ((with_reducible refine' t_local ?zhL ?zhN ?zhv ?zhx ?zhk ?zhd ?_); (case zhx => kernel_rfl!); (case zhN => top_name); (case zhL => rfl); (case zhv => top_name); (case zhk => rfl); (case zhd => decide +kernel))
  ((with_reducible refine' t_field ?zhx ?zhd ?zhv ?zhf ?zhg ?zhh ?_); (case zhx => top_raise); (case zhd => top_raise); (case zhv => top_name); (case zhf => top_caughtB); (case zhg => top_reprB); (case zhh => rfl))
  ((with_reducible refine' t_iterList ?zha ?_); (case zha => top_raise); (intro _))
  refine cl_for1 ?_
  ((with_reducible refine' t_nextList ?zhi ?zha ?zhv ?zu ?_); (case zhi => top_name); (case zha => top_raise); (case zhv => rfl); (case zu => k_caught0))
  with_reducible refine t_goName ?_
  with_reducible refine t_assignName ?_
  ((with_reducible refine' t_store ?zhL ?zu ?zhN ?zhl ?zhx ?zhk ?_); (case zhx => kernel_rfl!); (case zhN => top_name); (case zhL => rfl); (case zhl => k_caught0); (case zu => k_caught0); (case zhk => rfl))
  with_reducible refine t_cons ?_
  ((with_reducible refine t_AssignName ?_ ?zhs); (case zhs => rfl))
  ((with_reducible refine' t_MCall ?_ ?zhe); (case zhe => rfl))
  ((with_reducible refine t_str ?_); (intro _))
  with_reducible refine ms_join ?_
  with_reducible refine mc ?_
  with_reducible refine t_callWithP ?_
  ((with_reducible refine t_evalArgs ?_ ?zhe); (case zhe => rfl))
  ((with_reducible refine t_args ?_ ?zhe); (case zhe => rfl))
  ((with_reducible refine' t_ListComp ?zhclos ?zhkind ?zhnames ?zhc ?_ ?zhs); (case zhclos => rfl); (case zhkind => rfl); (case zhnames => decide +kernel); (case zhc => rfl); (case zhs => exact fun _ => rfl))
  ((with_reducible refine' t_local ?zhL ?zhN ?zhv ?zhx ?zhk ?zhd ?_); (case zhx => kernel_rfl!); (case zhN => top_name); (case zhL => rfl); (case zhv => top_name); (case zhk => rfl); (case zhd => decide +kernel))
  ((with_reducible refine' t_iterList ?zha ?_); (case zha => top_raise); (intro _))
  with_reducible refine opn ?_
  intro _
  intro _
  ((with_reducible refine' cs_list ?zhi ?_); (case zhi => top_name))
  with_reducible refine cl_comp1 ?_
  ((with_reducible refine' t_nextList ?zhi ?zha ?zhv ?zu ?_); (case zhi => top_name); (case zha => top_raise); (case zhv => rfl); (case zu => k_caught0))
  with_reducible refine t_goName ?_
  with_reducible refine t_assignName ?_
  ((with_reducible refine' t_store ?zhL ?zu ?zhN ?zhl ?zhx ?zhk ?_); (case zhx => kernel_rfl!); (case zhN => top_name); (case zhL => rfl); (case zhl => k_caught0); (case zu => k_caught0); (case zhk => rfl))
  with_reducible refine t_Or ?_
  ((with_reducible refine' t_local ?zhL ?zhN ?zhv ?zhx ?zhk ?zhd ?_); (case zhx => kernel_rfl!); (case zhN => top_name); (case zhL => rfl); (case zhv => top_name); (case zhk => rfl); (case zhd => decide +kernel))
  with_reducible refine tt_str1 ?_
  with_reducible refine if_t ?_
  ((with_reducible refine' t_append0 ?zha ?zu ?_); (case zha => top_name); (case zu => k_caught0))
  with_reducible refine cl_comp1 ?_
  ((with_reducible refine' t_nextListEnd ?zhh ?zhi ?zha ?zhv ?zu ?_); (case zhh => (refine Rm.hd (n := 0) ?_; k_caughtN0)); (case zhi => top_name); (case zha => top_raise); (case zhv => simp); (case zu => k_caught0))
  ((with_reducible refine' endC ?zr ?_); (case zr => k_caught0))
  with_reducible refine t_args0 ?_
  ((with_reducible refine cp1 ?zhc ?_); (case zhc => k_caughtNB))
  ((with_reducible refine' t_join11 ?zha ?_); (case zha => top_raise); (intro _))
  ((with_reducible refine' t_store ?zhL ?zu ?zhN ?zhl ?zhx ?zhk ?_); (case zhx => kernel_rfl!); (case zhN => top_name); (case zhL => rfl); (case zhl => k_caught0); (case zu => k_caught0); (case zhk => rfl))
  with_reducible refine fl_next ?_
  with_reducible refine t_cons ?_
  with_reducible refine t_If ?_
  with_reducible refine t_isAnd ?_
  ((with_reducible refine t_isCmp ?_ ?zhb); (case zhb => rfl))
  with_reducible refine t_Sub ?_
  ((with_reducible refine' t_local ?zhL ?zhN ?zhv ?zhx ?zhk ?zhd ?_); (case zhx => kernel_rfl!); (case zhN => top_name); (case zhL => rfl); (case zhv => top_name); (case zhk => rfl); (case zhd => decide +kernel))
  with_reducible refine t_Slice ?_
  with_reducible refine t_part ?_
  ((with_reducible refine' t_local ?zhL ?zhN ?zhv ?zhx ?zhk ?zhd ?_); (case zhx => kernel_rfl!); (case zhN => top_name); (case zhL => rfl); (case zhv => top_name); (case zhk => rfl); (case zhd => decide +kernel))
  with_reducible refine t_part ?_
  with_reducible refine t_Bin ?_
  ((with_reducible refine' t_local ?zhL ?zhN ?zhv ?zhx ?zhk ?zhd ?_); (case zhx => kernel_rfl!); (case zhN => top_name); (case zhL => rfl); (case zhv => top_name); (case zhk => rfl); (case zhd => decide +kernel))
  ((with_reducible refine t_Call ?_ ?zhe); (case zhe => rfl))
  ((with_reducible refine' t_bltin ?ze ?zhv ?zhn ?zhg ?zhb ?zhk ?zhx ?zhd ?_); (case zhv => top_strB); (case ze => top_argsB); (case zhn => decide +kernel); (case zhg => rfl); (case zhb => rfl); (case zhk => rfl); (case zhx => kernel_rfl!); (case zhd => decide +kernel))
  with_reducible refine t_callWithP ?_
  ((with_reducible refine t_evalArgs ?_ ?zhe); (case zhe => rfl))
  ((with_reducible refine t_args ?_ ?zhe); (case zhe => rfl))
  ((with_reducible refine' t_local ?zhL ?zhN ?zhv ?zhx ?zhk ?zhd ?_); (case zhx => kernel_rfl!); (case zhN => top_name); (case zhL => rfl); (case zhv => top_name); (case zhk => rfl); (case zhd => decide +kernel))
  with_reducible refine t_args0 ?_
  ((with_reducible refine cp0 ?zhc ?_); (case zhc => k_caughtNB))
  ((with_reducible refine t_len1 ?_); (intro _))
  ((with_reducible refine ti_add ?_); (intro _))
  with_reducible refine opnS ?_
  intro _
  ((with_reducible refine' t_subStr ?zhs ?_); (case zhs => rfl))
  ((with_reducible refine' t_slice2 pos (pos + 1) ?zhc ?zhi ?zhj ?zhz ?_); (case zhc => top_raise); (case zhi => rfl); (case zhj => rfl); (case zhz => exact hz); (intro _))
  ((with_reducible refine' t_local ?zhL ?zhN ?zhv ?zhx ?zhk ?zhd ?_); (case zhx => kernel_rfl!); (case zhN => top_name); (case zhL => rfl); (case zhv => top_name); (case zhk => rfl); (case zhd => decide +kernel))
  with_reducible refine tc_eqS ?_
  with_reducible refine tt_bool ?_
  refine if_b (fun hb => ?_) (fun hb => ?_)
  · rw [cut_one] at hb
    have hb := of_decide_eq_true hb
    with_reducible refine t_isAnd ?_
    with_reducible refine t_isOr ?_
    ((with_reducible refine t_isCmp ?_ ?zhb); (case zhb => rfl))
    ((with_reducible refine' t_local ?zhL ?zhN ?zhv ?zhx ?zhk ?zhd ?_); (case zhx => kernel_rfl!); (case zhN => top_name); (case zhL => rfl); (case zhv => top_name); (case zhk => rfl); (case zhd => decide +kernel))
    with_reducible refine t_none ?_
    ((with_reducible refine tc_is ?zhp ?_); (case zhp => rfl))
    with_reducible refine tt_bool ?_
    ((with_reducible refine if_T ?ze ?_); (case ze => (first | rfl | decide)))
    with_reducible refine if_t ?_
    with_reducible refine t_isAnd0 ?_
    with_reducible refine if_t ?_
    with_reducible refine t_cons ?_
    with_reducible refine t_Return ?_
    ((with_reducible refine t_Call ?_ ?zhe); (case zhe => rfl))
    ((with_reducible refine' t_glob ?ze ?zhg ?zhk ?zhx ?zhd ?_); (case ze => top_raise0); (case zhg => rfl); (case zhk => rfl); (case zhx => kernel_rfl!); (case zhd => decide +kernel))
    with_reducible refine t_callWithP ?_
    ((with_reducible refine t_evalArgs ?_ ?zhe); (case zhe => rfl))
    ((with_reducible refine t_args ?_ ?zhe); (case zhe => rfl))
    ((with_reducible refine' t_local ?zhL ?zhN ?zhv ?zhx ?zhk ?zhd ?_); (case zhx => kernel_rfl!); (case zhN => top_name); (case zhL => rfl); (case zhv => top_name); (case zhk => rfl); (case zhd => decide +kernel))
    ((with_reducible refine t_args ?_ ?zhe); (case zhe => rfl))
    ((with_reducible refine' t_local ?zhL ?zhN ?zhv ?zhx ?zhk ?zhd ?_); (case zhx => kernel_rfl!); (case zhN => top_name); (case zhL => rfl); (case zhv => top_name); (case zhk => rfl); (case zhd => decide +kernel))
    with_reducible refine t_args0 ?_
    ((with_reducible refine cp0 ?zhc ?_); (case zhc => k_caughtNB))
    ((with_reducible refine' t_make (fI := 599) ?zhm ?zhi ?zhf ?_); (case zhm => top_reprB); (case zhi => top_reprB); (case zhf => top_reprB); (intro _ _); (with_reducible refine' sp_PMinit _ _ _ _ ?zhA _ ?_); (case zhA => k_caughtN0); (refine And.intro rfl ?_))
    with_reducible refine fl_ret ?_
    with_reducible refine fl_ret ?_
    with_reducible refine tu_ret ?_
    with_reducible refine fl_ret ?_
    exact ⟨_, by k_caught0, _, rfl, h1 hb _ _ _⟩
  · rw [cut_one] at hb
    have hb := of_decide_eq_false hb
    with_reducible refine if_f ?_
    with_reducible refine t_nil ?_
    with_reducible refine fl_next ?_
    with_reducible refine t_nil ?_
    with_reducible refine tu_next ?_
    refine cl_for1 ?_
    ((with_reducible refine' t_nextListEnd ?zhh ?zhi ?zha ?zhv ?zu ?_); (case zhh => (refine Rm.hd (n := 0) ?_; k_caughtN0)); (case zhi => top_name); (case zha => top_raise); (case zhv => simp); (case zu => k_caught0))
    with_reducible refine t_nil ?_
    with_reducible refine fl_next ?_
    with_reducible refine t_cons ?_
    with_reducible refine t_Return ?_
    with_reducible refine t_none ?_
    with_reducible refine fl_ret ?_
    exact ⟨_, by k_caught0, _, rfl, h0 hb⟩
end Mine

open PySem PySem.W PySem.W.X PyProof.Rows PySem.Calls PySem.Builtin.ObjectAttr
set_option maxRecDepth 100000
set_option Elab.async false
set_option autoImplicit false
set_option linter.unusedVariables false
set_option maxHeartbeats 4000000
namespace Mine
local macro_rules | `(tactic| top_name) => `(tactic| first | (with_reducible exact List.mem_cons_self) | (with_reducible refine List.mem_cons_of_mem _ ?_; top_name) | (with_reducible assumption))
local macro_rules | `(tactic| k_caught0) => `(tactic| first
  | (with_reducible exact LUpd.head) | (with_reducible exact LSet.nil) | (with_reducible exact LSet.head) | (with_reducible exact Rem.head) | (with_reducible exact Pick.refl)
  | ((with_reducible apply LUpd.tail); (k_caught0))
  | ((with_reducible apply LSet.tail); (· (decide +kernel)); (k_caught0))
  | ((with_reducible apply Rem.tail); (k_caught0))
  | ((with_reducible apply Pick.cons); (· k_caught0); (k_caught0))
  | ((with_reducible apply Pick.drop); (k_caught0)))
local macro_rules | `(tactic| top_raise) => `(tactic| first | (with_reducible refine Kn.row' ?_; top_name) | (with_reducible refine Kn.fz' ?_; with_reducible assumption) | (with_reducible assumption) | ((with_reducible refine Kn.skip ?_); top_raise))
local macro_rules | `(tactic| k_caughtN0) => `(tactic| first | assumption | (exact Rm.le (by assumption) (by decide)) | ((refine Rm.dp ?_); k_caughtN0) | ((refine Rm.mk' ?_); k_caughtN0) | (refine Rm.le (Rm.over (n := 40) (Rm.le (by assumption) (by decide)) (by first | exact Quiet.ok (by assumption) | exact fsOk_while (Quiet.ok (by assumption)))) (by decide)))
local macro_rules | `(tactic| k_caughtB) => `(tactic| first | exact Strs.nil | ((apply Strs.cons); k_caughtB) | assumption)
local macro_rules | `(tactic| top_strB) => `(tactic| with_reducible first | exact bl_len | exact bl_isinstance | exact bl_type | exact bl_list | exact bl_tuple | exact bl_range | exact bl_str | exact bl_int | exact bl_abs | exact bl_sum | exact bl_enumerate | exact bl_zip | exact bl_max | exact bl_min | exact bl_divmod | exact bl_callable)
local macro_rules | `(tactic| top_raise0) => `(tactic| with_reducible first | exact g_wall_ | exact g_TokenType_ | exact g_Token | exact g_Whitespace | exact g_Error | exact g_String | exact g_Number | exact g_ALIASES_ | exact g_string_to_tokentype | exact g_CS_ESCAPE | exact g_commonprefix | exact g_make_charset | exact g_pull_ | exact g_same_ | exact g_groupby | exact g_grouper_ | exact g_special_chars_map_ | exact g_escape | exact g_regex_opt_inner | exact g_regex_opt | exact g_Lexer | exact g_include | exact g_inherit_ | exact g_combined | exact g_PseudoMatch_ | exact g_default | exact g_words | exact g_nothing_ | exact g_inherit_place | exact g_merged_tokendefs | exact g_RegexLexerMeta | exact g_RegexLexer | exact g_PlainMatch | exact g_Plain | exact g_PlainLexer | exact g_law_rest_ | exact g_law_reads_ | exact g_law)
local macro_rules | `(tactic| top_argsB) => `(tactic| with_reducible first | exact bn_len | exact bn_isinstance | exact bn_type | exact bn_list | exact bn_tuple | exact bn_range | exact bn_str | exact bn_int | exact bn_abs | exact bn_sum | exact bn_enumerate | exact bn_zip | exact bn_max | exact bn_min | exact bn_divmod | exact bn_callable)
local macro_rules | `(tactic| top_reprB) => `(tactic| with_reducible first | exact ga_83 | exact mk_83 | exact bo_83 | exact le_83 | exact ga_624 | exact mk_624 | exact bo_624 | exact le_624 | exact ga_651 | exact mk_651 | exact bo_651 | exact le_651 | exact ga_672 | exact mk_672 | exact bo_672 | exact le_672 | exact in_83 | exact if_83 | exact in_624 | exact if_624 | exact in_651 | exact if_651 | exact in_672 | exact if_672 | exact df_672_get_tokendefs | exact df_672_process_tokendef | exact df_672_process_state_ | exact df_672_process_regex_ | exact df_672_process_token_ | exact df_672_process_new_state_ | exact df_672_get_tokens_unprocessed | exact df_624_group | exact df_624_end | exact df_83_child | exact ni_str_TokenType_ | exact ni_str_combined | exact ni_tuple_inherit_ | exact ni_tuple_include | exact ni_tuple_default | exact ni_tuple_combined | exact ni_int_combined)
local macro_rules | `(tactic| top_caughtB) => `(tactic| with_reducible first | exact fl_83_names | exact fl_624_place | exact fl_624_pieces | exact fl_651_rows | exact fl_672_options | exact fl_672_stripnl | exact fl_672_stripall | exact fl_672_ensurenl | exact fl_672_filters | exact fl_672_tables | exact fl_672_all_tokens_ | exact fl_672_tmpname_ | exact fl_672_tokens_)
local macro_rules | `(tactic| top_raiseB) => `(tactic| with_reducible first | exact st_83_names | exact st_624_place | exact st_624_pieces | exact st_651_rows | exact st_672_options | exact st_672_stripnl | exact st_672_stripall | exact st_672_ensurenl | exact st_672_filters | exact st_672_tables | exact st_672_all_tokens_ | exact st_672_tmpname_ | exact st_672_tokens_)
local macro_rules | `(tactic| k_caughtNB) => `(tactic| with_reducible first | exact callee_bltin | exact callee_type | exact cal_83 | exact cal_624 | exact cal_651 | exact cal_672 | exact cal_621 | exact cal_615 | exact cal_648 | exact cal_73 | exact cal_115 | exact cal_494 | exact cal_501 | exact cal_551 | exact cal_544 | exact cal_536 | exact cal_669 | exact cal_522 | exact cal_529 | exact cal_580 | exact cal_278 | exact cal_682 | exact cal_687)

local macro_rules | `(tactic| top_raise) => `(tactic| with_reducible first | exact kn_89 | exact kn_88 | exact kn_90 | exact kn_108)

variable {w : World} {mg mb : Str → Option Value} {O : OsState} {A : Around} {F : PH} {N : List (Addr × OD)} {G : Array GenState}
abbrev ads : Ads := ⟨83, 651, 648⟩

theorem sp_gtu {tb : Tbl} {td lx dx sa : Addr} {fs : List (Str × Value)} {text : Str} {tt : Tok} {st : List Str} {svs : List Value}
    (hlx : Fz w.params F lx (.inst 672 dx)) (hdx : Fz w.params F dx (.fld fs)) (hfs : (("_tokens" : Str), Value.ref td) ∈ fs) (hT : TableAt ads w.params F td tb) (hok : TbOk tb)
    (hz : text.length ≤ 1000) (hsa : Fz w.params F sa (.tup svs)) (hst : Strs st svs) (hso : StOk tb st) (hsl : st.length ≤ 100) (hA : Rm A 60) {R : Value → Led → Prop}
    (h : ∀ ga gs own t u, GenOk (cx w mg mb O) 60 (lex tb 97 93 text.cps.toList 0 st) F gs own → R (.ref ga) ⟨F, (ga, genO G.size "get_tokens_unprocessed" "RegexLexer.get_tokens_unprocessed" t u) :: (own ++ N), G.push gs⟩) :
    Cl (cx w mg mb O) A ⟨F, N, G⟩ (.call (.ref 580) ⟨[.ref lx, .str text tt, .ref sa], []⟩) (Rv R) := by
  refine cl_gen (binds := [("self", .ref lx), ("text", .str text tt), ("stack", .ref sa)]) rfl (by kernel_rfl!) (by kernel_rfl!) hA.room rfl rfl (n := 0) (by rfl) ?_
  intro L
  with_reducible refine cells0 ?_
  with_reducible refine trB_cons ?_
  ((with_reducible refine' t_store ?zhL ?zu ?zhN ?zhl ?zhx ?zhk ?_); (case zhx => kernel_rfl!); (case zhN => top_name); (case zhL => rfl); (case zhl => k_caught0); (case zu => k_caught0); (case zhk => rfl))
  with_reducible refine trB_cons ?_
  ((with_reducible refine' t_store ?zhL ?zu ?zhN ?zhl ?zhx ?zhk ?_); (case zhx => kernel_rfl!); (case zhN => top_name); (case zhL => rfl); (case zhl => k_caught0); (case zu => k_caught0); (case zhk => rfl))
  with_reducible refine trB_cons ?_
  ((with_reducible refine' t_store ?zhL ?zu ?zhN ?zhl ?zhx ?zhk ?_); (case zhx => kernel_rfl!); (case zhN => top_name); (case zhL => rfl); (case zhl => k_caught0); (case zu => k_caught0); (case zhk => rfl))
  with_reducible refine trB_nil ?_
  with_reducible refine opn ?_
  intro _
  intro _
  intro _
  refine ⟨_, rfl, h _ _ [(L, _)] _ _ (genOk_of ?_)⟩
  intro F' A' N' G' hF hA'
  have hlx := hlx.mono hF
  have hdx := hdx.mono hF
  have hT := hT.mono hF
  have hsa := hsa.mono hF
  have hsvl : svs.length ≤ 1000000 := by rw [hst.len]; omega
  have hn := hst.len
  obtain ⟨kvs, hkv, hst'⟩ := hT
  obtain ⟨rs, hrs⟩ := hso.top
  obtain ⟨sl, vs, hsl1, hsl2, hsl3, hsl4⟩ := hst' _ _ hrs
  obtain ⟨tl, hlast⟩ := hst.last hso.1
  have hpos : st.length ≠ 0 := fun e => hso.1 (List.length_eq_zero_iff.mp e)
  show Sg _ _ _ _ _ ⟨F', (L, _) :: N', G'⟩ _
  refine sg_func ?_
  with_reducible refine sg_cons ?_
  with_reducible refine sg_stmt ?_
  ((with_reducible refine t_AssignName ?_ ?zhs); (case zhs => rfl))
  ((with_reducible refine t_int ?_); (intro _))
  ((with_reducible refine' t_store ?zhL ?zu ?zhN ?zhl ?zhx ?zhk ?_); (case zhx => kernel_rfl!); (case zhN => top_name); (case zhL => rfl); (case zhl => k_caught0); (case zu => k_caught0); (case zhk => rfl))
  with_reducible refine sg_cons ?_
  with_reducible refine sg_stmt ?_
  ((with_reducible refine t_AssignName ?_ ?zhs); (case zhs => rfl))
  ((with_reducible refine t_Attr ?_ ?zhe); (case zhe => rfl))
  ((with_reducible refine' t_local ?zhL ?zhN ?zhv ?zhx ?zhk ?zhd ?_); (case zhx => kernel_rfl!); (case zhN => top_name); (case zhL => rfl); (case zhv => top_name); (case zhk => rfl); (case zhd => decide +kernel))
  ((with_reducible refine' t_field ?zhx ?zhd ?zhv ?zhf ?zhg ?zhh ?_); (case zhx => top_raise); (case zhd => top_raise); (case zhv => top_name); (case zhf => top_caughtB); (case zhg => top_reprB); (case zhh => rfl))
  ((with_reducible refine' t_store ?zhL ?zu ?zhN ?zhl ?zhx ?zhk ?_); (case zhx => kernel_rfl!); (case zhN => top_name); (case zhL => rfl); (case zhl => k_caught0); (case zu => k_caught0); (case zhk => rfl))
  with_reducible refine sg_cons ?_
  with_reducible refine sg_stmt ?_
  ((with_reducible refine t_AssignName ?_ ?zhs); (case zhs => rfl))
  ((with_reducible refine t_Call ?_ ?zhe); (case zhe => rfl))
  ((with_reducible refine' t_bltin ?ze ?zhv ?zhn ?zhg ?zhb ?zhk ?zhx ?zhd ?_); (case zhv => top_strB); (case ze => top_argsB); (case zhn => decide +kernel); (case zhg => rfl); (case zhb => rfl); (case zhk => rfl); (case zhx => kernel_rfl!); (case zhd => decide +kernel))
  with_reducible refine t_callWithP ?_
  ((with_reducible refine t_evalArgs ?_ ?zhe); (case zhe => rfl))
  ((with_reducible refine t_args ?_ ?zhe); (case zhe => rfl))
  ((with_reducible refine' t_local ?zhL ?zhN ?zhv ?zhx ?zhk ?zhd ?_); (case zhx => kernel_rfl!); (case zhN => top_name); (case zhL => rfl); (case zhv => top_name); (case zhk => rfl); (case zhd => decide +kernel))
  with_reducible refine t_args0 ?_
  ((with_reducible refine cp0 ?zhc ?_); (case zhc => k_caughtNB))
  ((with_reducible refine' t_listOfTup ?zha ?zhz ?_); (case zha => top_raise); (case zhz => omega); (intro _))
  ((with_reducible refine' t_store ?zhL ?zu ?zhN ?zhl ?zhx ?zhk ?_); (case zhx => kernel_rfl!); (case zhN => top_name); (case zhL => rfl); (case zhl => k_caught0); (case zu => k_caught0); (case zhk => rfl))
  with_reducible refine sg_cons ?_
  with_reducible refine sg_stmt ?_
  ((with_reducible refine t_AssignName ?_ ?zhs); (case zhs => rfl))
  with_reducible refine t_Sub ?_
  ((with_reducible refine' t_local ?zhL ?zhN ?zhv ?zhx ?zhk ?zhd ?_); (case zhx => kernel_rfl!); (case zhN => top_name); (case zhL => rfl); (case zhv => top_name); (case zhk => rfl); (case zhd => decide +kernel))
  with_reducible refine t_Sub ?_
  ((with_reducible refine' t_local ?zhL ?zhN ?zhv ?zhx ?zhk ?zhd ?_); (case zhx => kernel_rfl!); (case zhN => top_name); (case zhL => rfl); (case zhv => top_name); (case zhk => rfl); (case zhd => decide +kernel))
  with_reducible refine t_Neg ?_
  ((with_reducible refine t_int ?_); (intro _))
  ((with_reducible refine ti_neg ?_); (intro _))
  ((with_reducible refine' t_subList ?zha ?zhs ?_); (case zha => top_raise); (case zhs => rfl))
  ((with_reducible refine' t_itemListNeg ?zha ?zh0 ?zhz ?zh2 ?zhv ?_); (case zha => top_raise); (case zh0 => decide); (case zhz => omega); (case zh2 => decide); (case zhv => exact hlast))
  ((with_reducible refine' t_subDict ?zha ?zhs ?_); (case zha => top_raise); (case zhs => rfl))
  refine t_dictGetItem (Kn.fz' hkv) hsl1 ?_
  ((with_reducible refine' t_store ?zhL ?zu ?zhN ?zhl ?zhx ?zhk ?_); (case zhx => kernel_rfl!); (case zhN => top_name); (case zhL => rfl); (case zhl => k_caught0); (case zu => k_caught0); (case zhk => rfl))
  with_reducible refine sg_cons ?_
  refine sg_While fun p => ?_
  rename_i tp0 b0 t8 t9
  refine sg_fix (N2 := (L, .ns [("text", .str text tt), ("pos", .int 0 tp0), ("tokendefs", .ref td), ("statestack", .ref b0), ("statetokens", .ref sl)]) :: (b0, .lst svs) :: N') (by k_caught0) (by k_caught0) (by k_caught0) ?_
  refine wh_ind (Inv := fun k A fs l P => ∃ (F : PH) (N : List (Addr × OD)) (G : Array GenState) (pos : Nat) (pi : Int) (st : List Str) (svs : List Value) (sl ss : Addr) (tp : Tok) (vs : List Value) (rs : List RuleE),
      Rm A 60 ∧ Quiet (cx w mg mb O) fs ∧ pi = (pos : Int) ∧ l = ⟨F, (L, .ns [("text", .str text tt), ("pos", .int pi tp), ("tokendefs", .ref td), ("statestack", .ref ss), ("statetokens", .ref sl)]) :: (ss, .lst svs) :: N, G⟩ ∧
      Strs st svs ∧ StOk tb st ∧ st.length ≤ 100 + 10 * pos ∧ pos + k = text.length ∧ TableAt ads w.params F td tb ∧ tb.lookup (topOf st) = some rs ∧ Fz w.params F sl (.lst vs) ∧ RulesAt ads w.params F vs rs ∧ vs.length ≤ 1000 ∧
      P = GPost (cx w mg mb O) 60 (lex tb 97 93 (text.cps.toList.drop pos) pos st) F N G) ?_ text.length A' _ _ _ ?_
  · rintro k A fs l P IH ⟨F, N, G, pos, pi, st, svs, sl, ss, tp, vs, rs, hA, hQ, rfl, rfl, hst, hso, hsl, hpos, hT, hrs, hsl2, hsl3, hsl4, rfl⟩
    refine sg_whileTurn ?_
    ((with_reducible refine t_isVal ?_ ?zhe); (case zhe => rfl))
    ((with_reducible refine t_int ?_); (intro _))
    with_reducible refine tt_int ?_
    ((with_reducible refine if_T ?ze ?_); (case ze => (first | rfl | decide)))
    with_reducible refine sg_cons ?_
    refine sg_For ?_ (fun _ => rfl)
    ((with_reducible refine' t_local ?zhL ?zhN ?zhv ?zhx ?zhk ?zhd ?_); (case zhx => kernel_rfl!); (case zhN => top_name); (case zhL => rfl); (case zhv => top_name); (case zhk => rfl); (case zhd => decide +kernel))
    ((with_reducible refine' t_iterList ?zha ?_); (case zha => top_raise); (intro _))
    intro _
    rename_i it pf
    refine for_ind (Inv := fun j l => ∃ i, l = ⟨F, (it, itL sl i) :: (L, .ns [("text", .str text tt), ("pos", .int (pos : Int) tp), ("tokendefs", .ref td), ("statestack", .ref ss), ("statetokens", .ref sl)]) :: (ss, .lst svs) :: N, G⟩ ∧
      i + j = vs.length ∧ ∀ r ∈ rs.take i, text.cps[pos]? ≠ some r.c) ?_ vs.length _ ⟨0, rfl, by omega, by simp⟩
    rintro j l IHf ⟨i, rfl, hij, hno⟩
    rcases Nat.lt_or_ge i vs.length with hi | hi
    · obtain ⟨v, r, hv, hr, ra, mo, av, rfl, hrt, hpat, hty, hact⟩ := hsl3.get hi
      obtain ⟨pl, pd, pr, pr1, pt, h1, h2, h3, h4, h5⟩ := hpat
      refine sg_forTurn ?_
      ((with_reducible refine' t_nextList ?zhi ?zha ?zhv ?zu ?_); (case zhi => top_name); (case zha => top_raise); (case zhv => exact hv); (case zu => k_caught0))
      ((with_reducible refine' t_goTupL ?zhi ?_); (case zhi => top_name))
      ((with_reducible refine' t_assignTup ?zhh ?zha ?zhe ?zhn ?_); (case zhh => (refine Rm.hd (n := 0) ?_; k_caughtN0)); (case zha => top_raise); (case zhe => rfl); (case zhn => rfl))
      with_reducible refine trA_cons ?_
      with_reducible refine t_assignName ?_
      ((with_reducible refine' t_store ?zhL ?zu ?zhN ?zhl ?zhx ?zhk ?_); (case zhx => kernel_rfl!); (case zhN => top_name); (case zhL => rfl); (case zhl => k_caught0); (case zu => k_caught0); (case zhk => rfl))
      with_reducible refine trA_cons ?_
      with_reducible refine t_assignName ?_
      ((with_reducible refine' t_store ?zhL ?zu ?zhN ?zhl ?zhx ?zhk ?_); (case zhx => kernel_rfl!); (case zhN => top_name); (case zhL => rfl); (case zhl => k_caught0); (case zu => k_caught0); (case zhk => rfl))
      with_reducible refine trA_cons ?_
      with_reducible refine t_assignName ?_
      ((with_reducible refine' t_store ?zhL ?zu ?zhN ?zhl ?zhx ?zhk ?_); (case zhx => kernel_rfl!); (case zhN => top_name); (case zhL => rfl); (case zhl => k_caught0); (case zu => k_caught0); (case zhk => rfl))
      with_reducible refine trA_nil ?_
      with_reducible refine sg_cons ?_
      with_reducible refine sg_stmt ?_
      ((with_reducible refine t_AssignName ?_ ?zhs); (case zhs => rfl))
      ((with_reducible refine t_Call ?_ ?zhe); (case zhe => rfl))
      ((with_reducible refine' t_local ?zhL ?zhN ?zhv ?zhx ?zhk ?zhd ?_); (case zhx => kernel_rfl!); (case zhN => top_name); (case zhL => rfl); (case zhv => top_name); (case zhk => rfl); (case zhd => decide +kernel))
      with_reducible refine t_callWithP ?_
      ((with_reducible refine t_evalArgs ?_ ?zhe); (case zhe => rfl))
      ((with_reducible refine t_args ?_ ?zhe); (case zhe => rfl))
      ((with_reducible refine' t_local ?zhL ?zhN ?zhv ?zhx ?zhk ?zhd ?_); (case zhx => kernel_rfl!); (case zhN => top_name); (case zhL => rfl); (case zhv => top_name); (case zhk => rfl); (case zhd => decide +kernel))
      ((with_reducible refine t_args ?_ ?zhe); (case zhe => rfl))
      ((with_reducible refine' t_local ?zhL ?zhN ?zhv ?zhx ?zhk ?zhd ?_); (case zhx => kernel_rfl!); (case zhN => top_name); (case zhL => rfl); (case zhv => top_name); (case zhk => rfl); (case zhd => decide +kernel))
      with_reducible refine t_args0 ?_
      refine cp0 (callee_meth (Kn.fz' h1) (show (cx w mg mb O).K.lookup 648 = _ from rfl)) ?_
      refine t_callMeth (Kn.fz' h1) ?_
      refine sp_match (Kn.fz' h2) (Kn.fz' h3) (Kn.fz' h4) (Kn.fz' h5) (by omega) (by omega) (by k_caughtN0) _ (fun hm => ?_) (fun hm m dm tk => ?_)
      · ((with_reducible refine' t_store ?zhL ?zu ?zhN ?zhl ?zhx ?zhk ?_); (case zhx => kernel_rfl!); (case zhN => top_name); (case zhL => rfl); (case zhl => k_caught0); (case zu => k_caught0); (case zhk => rfl))
        with_reducible refine sg_cons ?_
        with_reducible refine sg_If ?_
        ((with_reducible refine t_isVal ?_ ?zhe); (case zhe => rfl))
        ((with_reducible refine' t_local ?zhL ?zhN ?zhv ?zhx ?zhk ?zhd ?_); (case zhx => kernel_rfl!); (case zhN => top_name); (case zhL => rfl); (case zhv => top_name); (case zhk => rfl); (case zhd => decide +kernel))
        with_reducible refine tt_none ?_
        with_reducible refine if_f ?_
        with_reducible refine sg_nil ?_
        with_reducible refine sg_nil ?_
        refine sg_again rfl ?_
        refine sg_fix (by k_caught0) (by k_caught0) (by k_caught0) (IHf (vs.length - (i + 1)) (by omega) _ ⟨i + 1, rfl, by omega, ?_⟩)
        rw [List.take_add_one, hr]
        intro r' hr'
        rcases List.mem_append.mp hr' with h' | h'
        · exact hno r' h'
        · have e : r' = r := by simpa using h'
          rw [e]; exact hm
      · obtain ⟨dy, fy, hty1, hty2⟩ := hty
        ((with_reducible refine' t_store ?zhL ?zu ?zhN ?zhl ?zhx ?zhk ?_); (case zhx => kernel_rfl!); (case zhN => top_name); (case zhL => rfl); (case zhl => k_caught0); (case zu => k_caught0); (case zhk => rfl))
        with_reducible refine sg_cons ?_
        with_reducible refine sg_If ?_
        ((with_reducible refine t_isVal ?_ ?zhe); (case zhe => rfl))
        ((with_reducible refine' t_local ?zhL ?zhN ?zhv ?zhx ?zhk ?zhd ?_); (case zhx => kernel_rfl!); (case zhN => top_name); (case zhL => rfl); (case zhv => top_name); (case zhk => rfl); (case zhd => decide +kernel))
        ((with_reducible refine' tt_inst ?zhx ?zhd ?zhb ?zhl ?_); (case zhx => top_raise); (case zhd => top_raise); (case zhb => top_reprB); (case zhl => top_reprB))
        with_reducible refine if_t ?_
        with_reducible refine sg_cons ?_
        with_reducible refine sg_If ?_
        ((with_reducible refine t_isCmp ?_ ?zhb); (case zhb => rfl))
        ((with_reducible refine' t_local ?zhL ?zhN ?zhv ?zhx ?zhk ?zhd ?_); (case zhx => kernel_rfl!); (case zhN => top_name); (case zhL => rfl); (case zhv => top_name); (case zhk => rfl); (case zhd => decide +kernel))
        with_reducible refine t_none ?_
        ((with_reducible refine tc_isNot ?zhp ?_); (case zhp => rfl))
        with_reducible refine tt_bool ?_
        ((with_reducible refine if_T ?ze ?_); (case ze => (first | rfl | decide)))
        with_reducible refine sg_cons ?_
        with_reducible refine sg_If ?_
        ((with_reducible refine t_isCmp ?_ ?zhb); (case zhb => rfl))
        ((with_reducible refine t_Call ?_ ?zhe); (case zhe => rfl))
        ((with_reducible refine' t_bltin ?ze ?zhv ?zhn ?zhg ?zhb ?zhk ?zhx ?zhd ?_); (case zhv => top_strB); (case ze => top_argsB); (case zhn => decide +kernel); (case zhg => rfl); (case zhb => rfl); (case zhk => rfl); (case zhx => kernel_rfl!); (case zhd => decide +kernel))
        with_reducible refine t_callWithP ?_
        ((with_reducible refine t_evalArgs ?_ ?zhe); (case zhe => rfl))
        ((with_reducible refine t_args ?_ ?zhe); (case zhe => rfl))
        ((with_reducible refine' t_local ?zhL ?zhN ?zhv ?zhx ?zhk ?zhd ?_); (case zhx => kernel_rfl!); (case zhN => top_name); (case zhL => rfl); (case zhv => top_name); (case zhk => rfl); (case zhd => decide +kernel))
        with_reducible refine t_args0 ?_
        ((with_reducible refine cp0 ?zhc ?_); (case zhc => k_caughtNB))
        ((with_reducible refine' ty_own ?zhx ?zhd ?_); (case zhx => top_raise); (case zhd => top_raise))
        ((with_reducible refine' t_glob ?ze ?zhg ?zhk ?zhx ?zhd ?_); (case ze => top_raise0); (case zhg => rfl); (case zhk => rfl); (case zhx => kernel_rfl!); (case zhd => decide +kernel))
        with_reducible refine tc_isRef ?_
        with_reducible refine tt_bool ?_
        with_reducible refine if_t ?_
        with_reducible refine sg_cons ?_
        refine sg_wk ?_
        refine sg_yield (fsOk_while hQ.ok).gen rfl (fsOk_while hQ.ok).grd rfl rfl ?_
        with_reducible refine t_Tuple ?_
        ((with_reducible refine t_args ?_ ?zhe); (case zhe => rfl))
        ((with_reducible refine' t_local ?zhL ?zhN ?zhv ?zhx ?zhk ?zhd ?_); (case zhx => kernel_rfl!); (case zhN => top_name); (case zhL => rfl); (case zhv => top_name); (case zhk => rfl); (case zhd => decide +kernel))
        ((with_reducible refine t_args ?_ ?zhe); (case zhe => rfl))
        ((with_reducible refine' t_local ?zhL ?zhN ?zhv ?zhx ?zhk ?zhd ?_); (case zhx => kernel_rfl!); (case zhN => top_name); (case zhL => rfl); (case zhv => top_name); (case zhk => rfl); (case zhd => decide +kernel))
        ((with_reducible refine t_args ?_ ?zhe); (case zhe => rfl))
        ((with_reducible refine' t_MCall ?_ ?zhe); (case zhe => rfl))
        ((with_reducible refine' t_local ?zhL ?zhN ?zhv ?zhx ?zhk ?zhd ?_); (case zhx => kernel_rfl!); (case zhN => top_name); (case zhL => rfl); (case zhv => top_name); (case zhk => rfl); (case zhd => decide +kernel))
        ((with_reducible refine' t_methodOf (f := 621) ?zhx ?zhd ?zhf ?zhg ?zhn ?_); (case zhx => top_raise); (case zhd => top_raise); (case zhf => top_reprB); (case zhg => top_reprB); (case zhn => kernel_rfl!))
        with_reducible refine mc ?_
        with_reducible refine t_callWithP ?_
        with_reducible refine t_evalArgs0 ?_
        ((with_reducible refine cp1 ?zhc ?_); (case zhc => k_caughtNB))
        ((with_reducible refine' tr_call (sp_PMgroup ?zhp ?zhd ?zhr ?zhA _ ?_)); (case zhp => top_raise); (case zhd => top_raise); (case zhr => top_raise); (case zhA => k_caughtN0); (intro _))
        with_reducible refine t_args0 ?_
        ((with_reducible refine t_newTuple ?zhz ?_); (case zhz => simp [sizeLine]))
        intro _
        intro _
        intro _
        intro _
        intro _
        rename_i a lw kk pp hk
        refine gpost_cons (gd := (fsOk_while hQ.ok).grd) (own' := [(L, .ns [("text", .str text tt), ("pos", .int (pos : Int) tp), ("tokendefs", .ref td), ("statestack", .ref ss), ("statetokens", .ref sl), ("rexmatch", .ref mo), ("action", .ref r.ty), ("new_state", av), ("m", .ref m)]), (ss, .lst svs), (it, itL sl (i + 1)), (m, .inst 624 dm), (dm, .fld [("place", .int (pos : Int) tk), ("pieces", .ref pr1)])]) (lex_hit hm hrs hno hr rfl) rfl (by show Pick _ (_ :: _ :: _ :: _ :: _ :: _ :: _); k_caught0) ?_
        intro F2 A2 N2 G2 hF2 hA2
        have h5 := h5.mono hF2
        have hact := hact.mono hF2
        show Sg _ _ _ (kk (.send .none)) _ ⟨F2, (L, _) :: (ss, _) :: (it, _) :: (m, _) :: (dm, _) :: N2, G2⟩ _
        refine hk _ _ _ ?_
        with_reducible refine sg_nil ?_
        with_reducible refine sg_nil ?_
        with_reducible refine sg_cons ?_
        with_reducible refine sg_stmt ?_
        ((with_reducible refine t_AssignName ?_ ?zhs); (case zhs => rfl))
        ((with_reducible refine' t_MCall ?_ ?zhe); (case zhe => rfl))
        ((with_reducible refine' t_local ?zhL ?zhN ?zhv ?zhx ?zhk ?zhd ?_); (case zhx => kernel_rfl!); (case zhN => top_name); (case zhL => rfl); (case zhv => top_name); (case zhk => rfl); (case zhd => decide +kernel))
        ((with_reducible refine' t_methodOf (f := 615) ?zhx ?zhd ?zhf ?zhg ?zhn ?_); (case zhx => top_raise); (case zhd => top_raise); (case zhf => top_reprB); (case zhg => top_reprB); (case zhn => kernel_rfl!))
        with_reducible refine mc ?_
        with_reducible refine t_callWithP ?_
        with_reducible refine t_evalArgs0 ?_
        ((with_reducible refine cp1 ?zhc ?_); (case zhc => k_caughtNB))
        ((with_reducible refine' tr_call (sp_PMend ?zhp ?zhd ?zhr ?zhA _ ?_)); (case zhp => top_raise); (case zhd => top_raise); (case zhr => top_raise); (case zhA => k_caughtN0); (intro _))
        ((with_reducible refine' t_store ?zhL ?zu ?zhN ?zhl ?zhx ?zhk ?_); (case zhx => kernel_rfl!); (case zhN => top_name); (case zhL => rfl); (case zhl => k_caught0); (case zu => k_caught0); (case zhk => rfl))
        with_reducible refine sg_cons ?_
        with_reducible refine sg_If ?_
        ((with_reducible refine t_isCmp ?_ ?zhb); (case zhb => rfl))
        ((with_reducible refine' t_local ?zhL ?zhN ?zhv ?zhx ?zhk ?zhd ?_); (case zhx => kernel_rfl!); (case zhN => top_name); (case zhL => rfl); (case zhv => top_name); (case zhk => rfl); (case zhd => decide +kernel))
        with_reducible refine t_none ?_
        have hlt : pos < text.length := by
          obtain ⟨hlt, _⟩ := Array.getElem?_eq_some_iff.mp hm
          exact hlt
        have hact' := hact
        cases hra : r.act with
        | stay =>
          rw [hra] at hact'
          obtain rfl := hact'
          ((with_reducible refine tc_isNot ?zhp ?_); (case zhp => rfl))
          with_reducible refine tt_bool ?_
          ((with_reducible refine if_F ?ze ?_); (case ze => (first | rfl | decide)))
          with_reducible refine sg_nil ?_
          with_reducible refine sg_cons ?_
          with_reducible refine sg_stmt ?_
          ((with_reducible refine t_Break ?_ ?zhs); (case zhs => rfl))
          refine sg_pop (r := .ok .next) rfl ?_
          show Sg _ _ _ (whileK _ _ _ _ .next) _ _ _
          refine sg_again rfl ?_
          exact sg_fix (by k_caught0) (by k_caught0) (by k_caught0) (IH (k - 1) (by omega) A2 fs _ _ ⟨F2, N2, G2, pos + 1, (pos : Int) + 1, st, svs, sl, ss, _, vs, rs, hA2, hQ, rfl, rfl, hst, hso, by omega, by omega, hT.mono hF2, hrs, hsl2.mono hF2, hsl3.mono hF2, hsl4, rfl⟩)
        | pop => exact absurd hra (hok.2 _ _ hrs r (List.mem_of_getElem? hr)).1
        | go ls =>
          rw [hra] at hact'
          obtain ⟨ta, tvs, rfl, hta, htv⟩ := hact'
          ((with_reducible refine tc_isNot ?zhp ?_); (case zhp => rfl))
          with_reducible refine tt_bool ?_
          ((with_reducible refine if_T ?ze ?_); (case ze => (first | rfl | decide)))
          with_reducible refine sg_cons ?_
          with_reducible refine sg_If ?_
          ((with_reducible refine t_isVal ?_ ?zhe); (case zhe => rfl))
          ((with_reducible refine t_Call ?_ ?zhe); (case zhe => rfl))
          ((with_reducible refine' t_bltin ?ze ?zhv ?zhn ?zhg ?zhb ?zhk ?zhx ?zhd ?_); (case zhv => top_strB); (case ze => top_argsB); (case zhn => decide +kernel); (case zhg => rfl); (case zhb => rfl); (case zhk => rfl); (case zhx => kernel_rfl!); (case zhd => decide +kernel))
          with_reducible refine t_callWithP ?_
          ((with_reducible refine t_evalArgs ?_ ?zhe); (case zhe => rfl))
          ((with_reducible refine t_args ?_ ?zhe); (case zhe => rfl))
          ((with_reducible refine' t_local ?zhL ?zhN ?zhv ?zhx ?zhk ?zhd ?_); (case zhx => kernel_rfl!); (case zhN => top_name); (case zhL => rfl); (case zhv => top_name); (case zhk => rfl); (case zhd => decide +kernel))
          ((with_reducible refine t_args ?_ ?zhe); (case zhe => rfl))
          ((with_reducible refine' t_bltin ?ze ?zhv ?zhn ?zhg ?zhb ?zhk ?zhx ?zhd ?_); (case zhv => top_strB); (case ze => top_argsB); (case zhn => decide +kernel); (case zhg => rfl); (case zhb => rfl); (case zhk => rfl); (case zhx => kernel_rfl!); (case zhd => decide +kernel))
          with_reducible refine t_args0 ?_
          ((with_reducible refine cp0 ?zhc ?_); (case zhc => k_caughtNB))
          ((with_reducible refine' tin_tuptup ?zha ?_); (case zha => top_raise))
          with_reducible refine tt_bool ?_
          with_reducible refine if_t ?_
          with_reducible refine sg_cons ?_
          refine sg_stmt ?_
          ((with_reducible refine t_For ?_ ?zhs); (case zhs => exact fun _ => rfl))
          ((with_reducible refine' t_local ?zhL ?zhN ?zhv ?zhx ?zhk ?zhd ?_); (case zhx => kernel_rfl!); (case zhN => top_name); (case zhL => rfl); (case zhv => top_name); (case zhk => rfl); (case zhd => decide +kernel))
          ((with_reducible refine' t_iterTup ?zha ?_); (case zha => top_raise); (intro _))
          rename_i tp2 hact0 itn
          refine cl_fix (N2 := (itn, itT ta 0) :: (L, .ns [("text", .str text tt), ("pos", .int ((pos : Int) + 1) tp2), ("tokendefs", .ref td), ("statestack", .ref ss), ("statetokens", .ref sl), ("new_state", .ref ta)]) :: (ss, .lst svs) :: N2) (by k_caught0) (by k_caught0) (by k_caught0) ?_
          refine cl_ind (Inv := fun j l => ∃ (n : Nat) (st' : List Str) (svs' : List Value), l = ⟨F2, (itn, itT ta n) :: (L, .ns [("text", .str text tt), ("pos", .int ((pos : Int) + 1) tp2), ("tokendefs", .ref td), ("statestack", .ref ss), ("statetokens", .ref sl), ("new_state", .ref ta)]) :: (ss, .lst svs') :: N2, G2⟩ ∧ n + j = ls.length ∧ Strs st' svs' ∧ StOk tb st' ∧ st'.length ≤ st.length + n ∧ (ls.drop n).foldl step1 st' = ls.foldl step1 st) ?_ ls.length _ ⟨0, st, svs, rfl, by omega, hst, hso, by omega, rfl⟩
          rintro j l IHl ⟨n, st', svs', rfl, hnj, hst2, hso2, hsl', hfold⟩
          have hls := (hok.2 _ _ hrs r (List.mem_of_getElem? hr)).2 ls hra
          rcases Nat.lt_or_ge n ls.length with hn1 | hn1
          · have hxn := hls.2 ls[n] (List.getElem_mem hn1)
            obtain ⟨tx, htx⟩ := htv.get (List.getElem?_eq_getElem hn1)
            have hdr : (ls.drop (n + 1)).foldl step1 (step1 st' ls[n]) = ls.foldl step1 st := by rw [← hfold, List.drop_eq_getElem_cons hn1]; rfl
            have hlen := hst2.len
            refine cl_for1 ?_
            ((with_reducible refine' t_nextTup ?zhi ?zha ?zhv ?zu ?_); (case zhi => top_name); (case zha => exact Kn.fz' hta); (case zhv => exact htx); (case zu => k_caught0))
            with_reducible refine t_goName ?_
            with_reducible refine t_assignName ?_
            ((with_reducible refine' t_store ?zhL ?zu ?zhN ?zhl ?zhx ?zhk ?_); (case zhx => kernel_rfl!); (case zhN => top_name); (case zhL => rfl); (case zhl => k_caught0); (case zu => k_caught0); (case zhk => rfl))
            with_reducible refine t_cons ?_
            with_reducible refine t_If ?_
            ((with_reducible refine t_isCmp ?_ ?zhb); (case zhb => rfl))
            ((with_reducible refine' t_local ?zhL ?zhN ?zhv ?zhx ?zhk ?zhd ?_); (case zhx => kernel_rfl!); (case zhN => top_name); (case zhL => rfl); (case zhv => top_name); (case zhk => rfl); (case zhd => decide +kernel))
            ((with_reducible refine t_str ?_); (intro _))
            with_reducible refine tc_eqS ?_
            with_reducible refine tt_bool ?_
            refine if_b (fun hb => ?_) (fun hb => ?_)
            · have hp : ls[n] = "#pop" := by simpa using hb
              with_reducible refine t_cons ?_
              with_reducible refine t_If ?_
              ((with_reducible refine t_isCmp ?_ ?zhb); (case zhb => rfl))
              ((with_reducible refine t_Call ?_ ?zhe); (case zhe => rfl))
              ((with_reducible refine' t_bltin ?ze ?zhv ?zhn ?zhg ?zhb ?zhk ?zhx ?zhd ?_); (case zhv => top_strB); (case ze => top_argsB); (case zhn => decide +kernel); (case zhg => rfl); (case zhb => rfl); (case zhk => rfl); (case zhx => kernel_rfl!); (case zhd => decide +kernel))
              with_reducible refine t_callWithP ?_
              ((with_reducible refine t_evalArgs ?_ ?zhe); (case zhe => rfl))
              ((with_reducible refine t_args ?_ ?zhe); (case zhe => rfl))
              ((with_reducible refine' t_local ?zhL ?zhN ?zhv ?zhx ?zhk ?zhd ?_); (case zhx => kernel_rfl!); (case zhN => top_name); (case zhL => rfl); (case zhv => top_name); (case zhk => rfl); (case zhd => decide +kernel))
              with_reducible refine t_args0 ?_
              ((with_reducible refine cp0 ?zhc ?_); (case zhc => k_caughtNB))
              ((with_reducible refine' t_lenL ?zha ?zhz ?_); (case zha => top_raise); (case zhz => omega); (intro _))
              ((with_reducible refine t_int ?_); (intro _))
              with_reducible refine tc_gtI ?_
              with_reducible refine tt_bool ?_
              refine if_b (fun hb => ?_) (fun hb => ?_)
              · obtain ⟨ws, v, rfl, hws⟩ := hst2.split hso2.1
                have hwl : ws.length ≤ 1000000 := by simp at hlen; omega
                have hgt : 1 < st'.length := by have := of_decide_eq_true hb; omega
                have he : step1 st' ls[n] = st'.dropLast := by unfold step1; rw [if_pos hp, if_pos hgt]
                with_reducible refine t_cons ?_
                ((with_reducible refine t_ExprSt ?_ ?zhi ?zhs); (case zhi => rfl); (case zhs => rfl))
                ((with_reducible refine' t_MCall ?_ ?zhe); (case zhe => rfl))
                ((with_reducible refine' t_local ?zhL ?zhN ?zhv ?zhx ?zhk ?zhd ?_); (case zhx => kernel_rfl!); (case zhN => top_name); (case zhL => rfl); (case zhv => top_name); (case zhk => rfl); (case zhd => decide +kernel))
                ((with_reducible refine' ml_pop ?zha ?_); (case zha => top_raise))
                with_reducible refine mc ?_
                ((with_reducible refine' t_pop ?zha ?zu ?zhz ?_); (case zha => top_name); (case zu => k_caught0); (case zhz => omega))
                with_reducible refine fl_next ?_
                with_reducible refine t_nil ?_
                with_reducible refine fl_next ?_
                with_reducible refine t_nil ?_
                with_reducible refine fl_next ?_
                with_reducible refine t_nil ?_
                with_reducible refine tu_next ?_
                exact cl_fix (by k_caught0) (by k_caught0) (by k_caught0) (IHl (ls.length - (n + 1)) (by omega) _ ⟨n + 1, step1 st' ls[n], ws, rfl, by omega, he ▸ hws, hso2.step hxn, by have := step1_len st' ls[n]; omega, hdr⟩)
              · have hgt : ¬ 1 < st'.length := by have := of_decide_eq_false hb; omega
                have he : step1 st' ls[n] = st' := by unfold step1; rw [if_pos hp, if_neg hgt]
                with_reducible refine t_nil ?_
                with_reducible refine fl_next ?_
                with_reducible refine t_nil ?_
                with_reducible refine fl_next ?_
                with_reducible refine t_nil ?_
                with_reducible refine tu_next ?_
                exact cl_fix (by k_caught0) (by k_caught0) (by k_caught0) (IHl (ls.length - (n + 1)) (by omega) _ ⟨n + 1, step1 st' ls[n], svs', rfl, by omega, he.symm ▸ hst2, hso2.step hxn, by have := step1_len st' ls[n]; omega, hdr⟩)
            · have hp : ls[n] ≠ "#pop" := by simpa using hb
              have hq : (ls[n] == ("#push" : Str)) = false := by simpa using (hxn.resolve_left hp).1
              have he : step1 st' ls[n] = st' ++ [ls[n]] := by unfold step1; rw [if_neg hp]
              with_reducible refine t_cons ?_
              with_reducible refine t_If ?_
              ((with_reducible refine t_isCmp ?_ ?zhb); (case zhb => rfl))
              ((with_reducible refine' t_local ?zhL ?zhN ?zhv ?zhx ?zhk ?zhd ?_); (case zhx => kernel_rfl!); (case zhN => top_name); (case zhL => rfl); (case zhv => top_name); (case zhk => rfl); (case zhd => decide +kernel))
              ((with_reducible refine t_str ?_); (intro _))
              with_reducible refine tc_eqS ?_
              with_reducible refine tt_bool ?_
              refine if_F hq ?_
              with_reducible refine t_cons ?_
              ((with_reducible refine t_ExprSt ?_ ?zhi ?zhs); (case zhi => rfl); (case zhs => rfl))
              ((with_reducible refine' t_MCall ?_ ?zhe); (case zhe => rfl))
              ((with_reducible refine' t_local ?zhL ?zhN ?zhv ?zhx ?zhk ?zhd ?_); (case zhx => kernel_rfl!); (case zhN => top_name); (case zhL => rfl); (case zhv => top_name); (case zhk => rfl); (case zhd => decide +kernel))
              ((with_reducible refine' ml_append ?zha ?_); (case zha => top_raise))
              with_reducible refine mc ?_
              with_reducible refine t_callWithP ?_
              ((with_reducible refine t_evalArgs ?_ ?zhe); (case zhe => rfl))
              ((with_reducible refine t_args ?_ ?zhe); (case zhe => rfl))
              ((with_reducible refine' t_local ?zhL ?zhN ?zhv ?zhx ?zhk ?zhd ?_); (case zhx => kernel_rfl!); (case zhN => top_name); (case zhL => rfl); (case zhv => top_name); (case zhk => rfl); (case zhd => decide +kernel))
              with_reducible refine t_args0 ?_
              ((with_reducible refine cp1 ?zhc ?_); (case zhc => k_caughtNB))
              ((with_reducible refine' t_append ?zha ?zu ?zhz ?_); (case zha => top_name); (case zu => k_caught0); (case zhz => (unfold sizeLine; omega)))
              with_reducible refine fl_next ?_
              with_reducible refine t_nil ?_
              with_reducible refine fl_next ?_
              with_reducible refine t_nil ?_
              with_reducible refine fl_next ?_
              with_reducible refine t_nil ?_
              with_reducible refine tu_next ?_
              exact cl_fix (by k_caught0) (by k_caught0) (by k_caught0) (IHl (ls.length - (n + 1)) (by omega) _ ⟨n + 1, step1 st' ls[n], _, rfl, by omega, he.symm ▸ hst2.snoc _ _, hso2.step hxn, by have := step1_len st' ls[n]; omega, hdr⟩)
          · refine cl_for1 ?_
            have hlen := hst2.len
            have hfin : st' = actOn (.go ls) st := by rw [List.drop_of_length_le hn1] at hfold; exact hfold
            obtain ⟨kvs2, hkv2, hst'2⟩ := hT.mono hF2
            obtain ⟨rs2, hrs2⟩ := hso2.top
            obtain ⟨sl2, vs2, hs1, hs2, hs3, hs4⟩ := hst'2 _ _ hrs2
            obtain ⟨tl2, hlast2⟩ := hst2.last hso2.1
            have hpos2 : st'.length ≠ 0 := fun e => hso2.1 (List.length_eq_zero_iff.mp e)
            have hal : st'.length ≤ st.length + 10 := by rw [hfin]; exact actOn_len _ _ fun l hl => by cases hl; exact hls.1
            ((with_reducible refine' t_nextTupEnd ?zhh ?zhi ?zha ?zhv ?zu ?_); (case zhh => (refine Rm.hd (n := 0) ?_; k_caughtN0)); (case zhi => top_name); (case zha => exact Kn.fz' hta); (case zhv => (rw [htv.len]; omega)); (case zu => k_caught0))
            with_reducible refine t_nil ?_
            with_reducible refine sg_nil ?_
            with_reducible refine sg_cons ?_
            with_reducible refine sg_stmt ?_
            ((with_reducible refine t_AssignName ?_ ?zhs); (case zhs => rfl))
            with_reducible refine t_Sub ?_
            ((with_reducible refine' t_local ?zhL ?zhN ?zhv ?zhx ?zhk ?zhd ?_); (case zhx => kernel_rfl!); (case zhN => top_name); (case zhL => rfl); (case zhv => top_name); (case zhk => rfl); (case zhd => decide +kernel))
            with_reducible refine t_Sub ?_
            ((with_reducible refine' t_local ?zhL ?zhN ?zhv ?zhx ?zhk ?zhd ?_); (case zhx => kernel_rfl!); (case zhN => top_name); (case zhL => rfl); (case zhv => top_name); (case zhk => rfl); (case zhd => decide +kernel))
            with_reducible refine t_Neg ?_
            ((with_reducible refine t_int ?_); (intro _))
            ((with_reducible refine ti_neg ?_); (intro _))
            ((with_reducible refine' t_subList ?zha ?zhs ?_); (case zha => top_raise); (case zhs => rfl))
            ((with_reducible refine' t_itemListNeg ?zha ?zh0 ?zhz ?zh2 ?zhv ?_); (case zha => top_raise); (case zh0 => decide); (case zhz => omega); (case zh2 => decide); (case zhv => exact hlast2))
            ((with_reducible refine' t_subDict ?zha ?zhs ?_); (case zha => top_raise); (case zhs => rfl))
            refine t_dictGetItem (Kn.fz' hkv2) hs1 ?_
            ((with_reducible refine' t_store ?zhL ?zu ?zhN ?zhl ?zhx ?zhk ?_); (case zhx => kernel_rfl!); (case zhN => top_name); (case zhL => rfl); (case zhl => k_caught0); (case zu => k_caught0); (case zhk => rfl))
            with_reducible refine sg_nil ?_
            with_reducible refine sg_cons ?_
            with_reducible refine sg_stmt ?_
            ((with_reducible refine t_Break ?_ ?zhs); (case zhs => rfl))
            refine sg_pop (r := .ok .next) rfl ?_
            show Sg _ _ _ (whileK _ _ _ _ .next) _ _ _
            refine sg_again rfl ?_
            rw [← hfin]
            exact sg_fix (by k_caught0) (by k_caught0) (by k_caught0) (IH (k - 1) (by omega) A2 fs _ _ ⟨F2, N2, G2, pos + 1, (pos : Int) + 1, st', svs', sl2, ss, _, vs2, rs2, hA2, hQ, rfl, rfl, hst2, hso2, by omega, by omega, hT.mono hF2, hrs2, hs2, hs3, hs4, rfl⟩)
    · -- no rule takes the letter
      have hno' : ∀ r ∈ rs, text.cps[pos]? ≠ some r.c := by
        rw [List.take_of_length_le (by rw [← hsl3.len]; exact hi)] at hno
        exact hno
      refine sg_forTurn ?_
      ((with_reducible refine' t_nextListEnd ?zhh ?zhi ?zha ?zhv ?zu ?_); (case zhh => (refine Rm.hd (n := 0) ?_; k_caughtN0)); (case zhi => top_name); (case zha => exact Kn.fz' hsl2); (case zhv => exact hi); (case zu => k_caught0))
      refine sg_block ?_
      with_reducible refine sg_cons ?_
      with_reducible refine sg_If ?_
      ((with_reducible refine t_isCmp ?_ ?zhb); (case zhb => rfl))
      ((with_reducible refine' t_local ?zhL ?zhN ?zhv ?zhx ?zhk ?zhd ?_); (case zhx => kernel_rfl!); (case zhN => top_name); (case zhL => rfl); (case zhv => top_name); (case zhk => rfl); (case zhd => decide +kernel))
      ((with_reducible refine t_Call ?_ ?zhe); (case zhe => rfl))
      ((with_reducible refine' t_bltin ?ze ?zhv ?zhn ?zhg ?zhb ?zhk ?zhx ?zhd ?_); (case zhv => top_strB); (case ze => top_argsB); (case zhn => decide +kernel); (case zhg => rfl); (case zhb => rfl); (case zhk => rfl); (case zhx => kernel_rfl!); (case zhd => decide +kernel))
      with_reducible refine t_callWithP ?_
      ((with_reducible refine t_evalArgs ?_ ?zhe); (case zhe => rfl))
      ((with_reducible refine t_args ?_ ?zhe); (case zhe => rfl))
      ((with_reducible refine' t_local ?zhL ?zhN ?zhv ?zhx ?zhk ?zhd ?_); (case zhx => kernel_rfl!); (case zhN => top_name); (case zhL => rfl); (case zhv => top_name); (case zhk => rfl); (case zhd => decide +kernel))
      with_reducible refine t_args0 ?_
      ((with_reducible refine cp0 ?zhc ?_); (case zhc => k_caughtNB))
      ((with_reducible refine t_len ?zhz ?_); (case zhz => omega); (intro _))
      with_reducible refine tc_geI ?_
      with_reducible refine tt_bool ?_
      refine if_b (fun hb => ?_) (fun hb => ?_)
      · have hle : text.length ≤ pos := by have := of_decide_eq_true hb; omega
        with_reducible refine sg_cons ?_
        with_reducible refine sg_stmt ?_
        ((with_reducible refine t_Break ?_ ?zhs); (case zhs => rfl))
        refine sg_pop (r := .ok .brk) rfl ?_
        show Sg _ _ _ (.pure (.done .next)) _ _ _
        refine sg_pick (N' := N) (by k_caught0) (hQ.fin _ _ _ _ ?_)
        rw [lex_end hle]
        exact ⟨rfl, rfl⟩
      · have hlt : pos < text.cps.size := by have := of_decide_eq_false hb; have e : text.length = text.cps.size := rfl; omega
        have hlt' : pos < text.length := hlt
        obtain ⟨c, hc⟩ : ∃ c, text.cps[pos]? = some c := ⟨_, Array.getElem?_eq_getElem hlt⟩
        with_reducible refine sg_nil ?_
        with_reducible refine sg_cons ?_
        with_reducible refine sg_If ?_
        ((with_reducible refine t_isCmp ?_ ?zhb); (case zhb => rfl))
        with_reducible refine t_Sub ?_
        ((with_reducible refine' t_local ?zhL ?zhN ?zhv ?zhx ?zhk ?zhd ?_); (case zhx => kernel_rfl!); (case zhN => top_name); (case zhL => rfl); (case zhv => top_name); (case zhk => rfl); (case zhd => decide +kernel))
        ((with_reducible refine' t_local ?zhL ?zhN ?zhv ?zhx ?zhk ?zhd ?_); (case zhx => kernel_rfl!); (case zhN => top_name); (case zhL => rfl); (case zhv => top_name); (case zhk => rfl); (case zhd => decide +kernel))
        ((with_reducible refine' t_subStr ?zhs ?_); (case zhs => rfl))
        ((with_reducible refine' t_itemStr ?zhi ?zhz ?zhc ?_); (case zhi => omega); (case zhz => omega); (case zhc => exact hc); (intro _))
        ((with_reducible refine t_str ?_); (intro _))
        with_reducible refine tc_eqS ?_
        with_reducible refine tt_bool ?_
        refine if_b (fun hb => ?_) (fun hb => ?_)
        · have hc10 : c = 10 := by
            have e : (⟨#[c]⟩ : Str) = (⟨#[10]⟩ : Str) := by
              have : (⟨#[c]⟩ : Str) = Str.ofString "\n" := by simpa using hb
              rw [this]; rfl
            simpa using e
          subst hc10
          obtain ⟨kvs2, hkv2, hst'2⟩ := id hT
          obtain ⟨rs2, hrs2⟩ := Option.isSome_iff_exists.mp hok.1
          obtain ⟨sl2, vs2, hs1, hs2, hs3, hs4⟩ := hst'2 _ _ hrs2
          with_reducible refine sg_cons ?_
          with_reducible refine sg_stmt ?_
          ((with_reducible refine t_AssignName ?_ ?zhs); (case zhs => rfl))
          with_reducible refine t_List ?_
          ((with_reducible refine t_args ?_ ?zhe); (case zhe => rfl))
          ((with_reducible refine t_str ?_); (intro _))
          with_reducible refine t_args0 ?_
          ((with_reducible refine t_newList ?zhz ?_); (case zhz => simp [sizeLine]))
          intro _
          ((with_reducible refine' t_store ?zhL ?zu ?zhN ?zhl ?zhx ?zhk ?_); (case zhx => kernel_rfl!); (case zhN => top_name); (case zhL => rfl); (case zhl => k_caught0); (case zu => k_caught0); (case zhk => rfl))
          with_reducible refine sg_cons ?_
          with_reducible refine sg_stmt ?_
          ((with_reducible refine t_AssignName ?_ ?zhs); (case zhs => rfl))
          with_reducible refine t_Sub ?_
          ((with_reducible refine' t_local ?zhL ?zhN ?zhv ?zhx ?zhk ?zhd ?_); (case zhx => kernel_rfl!); (case zhN => top_name); (case zhL => rfl); (case zhv => top_name); (case zhk => rfl); (case zhd => decide +kernel))
          ((with_reducible refine t_str ?_); (intro _))
          ((with_reducible refine' t_subDict ?zha ?zhs ?_); (case zha => top_raise); (case zhs => rfl))
          refine t_dictGetItem (Kn.fz' hkv2) hs1 ?_
          ((with_reducible refine' t_store ?zhL ?zu ?zhN ?zhl ?zhx ?zhk ?_); (case zhx => kernel_rfl!); (case zhN => top_name); (case zhL => rfl); (case zhl => k_caught0); (case zu => k_caught0); (case zhk => rfl))
          with_reducible refine sg_cons ?_
          rename_i tc1 tc2 tr ss2 tk2
          refine sg_fix (N2 := (L, .ns [("text", .str text tt), ("pos", .int (pos : Int) tp), ("tokendefs", .ref td), ("statestack", .ref ss2), ("statetokens", .ref sl2)]) :: (ss2, .lst [.str "root" tr]) :: N) (by k_caught0) (by k_caught0) (by k_caught0) ?_
          refine sg_wk ?_
          refine sg_yield (fsOk_while hQ.ok).gen rfl (fsOk_while hQ.ok).grd rfl rfl ?_
          with_reducible refine t_Tuple ?_
          ((with_reducible refine t_args ?_ ?zhe); (case zhe => rfl))
          ((with_reducible refine' t_local ?zhL ?zhN ?zhv ?zhx ?zhk ?zhd ?_); (case zhx => kernel_rfl!); (case zhN => top_name); (case zhL => rfl); (case zhv => top_name); (case zhk => rfl); (case zhd => decide +kernel))
          ((with_reducible refine t_args ?_ ?zhe); (case zhe => rfl))
          ((with_reducible refine' t_glob ?ze ?zhg ?zhk ?zhx ?zhd ?_); (case ze => top_raise0); (case zhg => rfl); (case zhk => rfl); (case zhx => kernel_rfl!); (case zhd => decide +kernel))
          ((with_reducible refine t_args ?_ ?zhe); (case zhe => rfl))
          ((with_reducible refine t_str ?_); (intro _))
          with_reducible refine t_args0 ?_
          ((with_reducible refine t_newTuple ?zhz ?_); (case zhz => simp [sizeLine]))
          intro _
          intro _
          intro _
          intro _
          intro _
          rename_i tn a lw kk pp hk
          refine gpost_cons (gd := (fsOk_while hQ.ok).grd) (N2 := (L, .ns [("text", .str text tt), ("pos", .int (pos : Int) tp), ("tokendefs", .ref td), ("statestack", .ref ss2), ("statetokens", .ref sl2)]) :: (ss2, .lst [.str "root" tr]) :: (a, .tup [.int (pos : Int) tp, .ref 93, .str "\n" tn]) :: N) (own' := [(L, .ns [("text", .str text tt), ("pos", .int (pos : Int) tp), ("tokendefs", .ref td), ("statestack", .ref ss2), ("statetokens", .ref sl2)]), (ss2, .lst [.str "root" tr])]) (t1 := tp) (t2 := tn) ((lex_miss hc hrs hno').trans (if_pos rfl)) rfl (by k_caught0) ?_
          intro F2 A2 N2 G2 hF2 hA2
          show Sg _ _ _ (kk (.send .none)) _ ⟨F2, (L, _) :: (ss2, _) :: N2, G2⟩ _
          refine hk _ _ _ ?_
          with_reducible refine sg_cons ?_
          with_reducible refine sg_stmt ?_
          with_reducible refine t_AugName ?_
          ((with_reducible refine' t_localN ?zhL ?zhN ?zhv ?zhx ?zhk ?_); (case zhx => kernel_rfl!); (case zhN => top_name); (case zhL => rfl); (case zhv => top_name); (case zhk => rfl))
          ((with_reducible refine t_int ?_); (intro _))
          ((with_reducible refine ti_iadd ?_); (intro _))
          ((with_reducible refine' t_store ?zhL ?zu ?zhN ?zhl ?zhx ?zhk ?_); (case zhx => kernel_rfl!); (case zhN => top_name); (case zhL => rfl); (case zhl => k_caught0); (case zu => k_caught0); (case zhk => rfl))
          with_reducible refine sg_cons ?_
          with_reducible refine sg_stmt ?_
          ((with_reducible refine t_Continue ?_ ?zhs); (case zhs => rfl))
          refine sg_pop (r := .ok .cont) rfl ?_
          show Sg _ _ _ (whileK _ _ _ _ .cont) _ _ _
          refine sg_again rfl ?_
          exact sg_fix (by k_caught0) (by k_caught0) (by k_caught0) (IH (k - 1) (by omega) A2 fs _ _ ⟨F2, N2, G2, pos + 1, (pos : Int) + 1, ["root"], _, sl2, ss2, _, vs2, rs2, hA2, hQ, rfl, rfl, .cons .nil, ⟨by simp, by simpa using hok.1⟩, by simp; omega, by omega, hT.mono hF2, hrs2, hs2.mono hF2, hs3.mono hF2, hs4, rfl⟩)
        · have hc10 : c ≠ 10 := by
            rintro rfl
            have : ((⟨#[10]⟩ : Str) == Str.ofString "\n") = true := rfl
            rw [this] at hb
            cases hb
          with_reducible refine sg_nil ?_
          with_reducible refine sg_cons ?_
          refine sg_wk ?_
          refine sg_yield (fsOk_while hQ.ok).gen rfl (fsOk_while hQ.ok).grd rfl rfl ?_
          with_reducible refine t_Tuple ?_
          ((with_reducible refine t_args ?_ ?zhe); (case zhe => rfl))
          ((with_reducible refine' t_local ?zhL ?zhN ?zhv ?zhx ?zhk ?zhd ?_); (case zhx => kernel_rfl!); (case zhN => top_name); (case zhL => rfl); (case zhv => top_name); (case zhk => rfl); (case zhd => decide +kernel))
          ((with_reducible refine t_args ?_ ?zhe); (case zhe => rfl))
          ((with_reducible refine' t_glob ?ze ?zhg ?zhk ?zhx ?zhd ?_); (case ze => top_raise0); (case zhg => rfl); (case zhk => rfl); (case zhx => kernel_rfl!); (case zhd => decide +kernel))
          ((with_reducible refine t_args ?_ ?zhe); (case zhe => rfl))
          with_reducible refine t_Sub ?_
          ((with_reducible refine' t_local ?zhL ?zhN ?zhv ?zhx ?zhk ?zhd ?_); (case zhx => kernel_rfl!); (case zhN => top_name); (case zhL => rfl); (case zhv => top_name); (case zhk => rfl); (case zhd => decide +kernel))
          ((with_reducible refine' t_local ?zhL ?zhN ?zhv ?zhx ?zhk ?zhd ?_); (case zhx => kernel_rfl!); (case zhN => top_name); (case zhL => rfl); (case zhv => top_name); (case zhk => rfl); (case zhd => decide +kernel))
          ((with_reducible refine' t_subStr ?zhs ?_); (case zhs => rfl))
          ((with_reducible refine' t_itemStr ?zhi ?zhz ?zhc ?_); (case zhi => omega); (case zhz => omega); (case zhc => exact hc); (intro _))
          with_reducible refine t_args0 ?_
          ((with_reducible refine t_newTuple ?zhz ?_); (case zhz => simp [sizeLine]))
          intro _
          intro _
          intro _
          intro _
          intro _
          rename_i tn a lw kk pp hk
          refine gpost_cons (gd := (fsOk_while hQ.ok).grd) (N2 := (L, .ns [("text", .str text tt), ("pos", .int (pos : Int) tp), ("tokendefs", .ref td), ("statestack", .ref ss), ("statetokens", .ref sl)]) :: (ss, .lst svs) :: (a, .tup [.int (pos : Int) tp, .ref 97, .str ⟨#[c]⟩ tn]) :: N) (own' := [(L, .ns [("text", .str text tt), ("pos", .int (pos : Int) tp), ("tokendefs", .ref td), ("statestack", .ref ss), ("statetokens", .ref sl)]), (ss, .lst svs)]) (t1 := tp) (t2 := tn) ((lex_miss hc hrs hno').trans (if_neg hc10)) rfl (by k_caught0) ?_
          intro F2 A2 N2 G2 hF2 hA2
          show Sg _ _ _ (kk (.send .none)) _ ⟨F2, (L, _) :: (ss, _) :: N2, G2⟩ _
          refine hk _ _ _ ?_
          with_reducible refine sg_cons ?_
          with_reducible refine sg_stmt ?_
          with_reducible refine t_AugName ?_
          ((with_reducible refine' t_localN ?zhL ?zhN ?zhv ?zhx ?zhk ?_); (case zhx => kernel_rfl!); (case zhN => top_name); (case zhL => rfl); (case zhv => top_name); (case zhk => rfl))
          ((with_reducible refine t_int ?_); (intro _))
          ((with_reducible refine ti_iadd ?_); (intro _))
          ((with_reducible refine' t_store ?zhL ?zu ?zhN ?zhl ?zhx ?zhk ?_); (case zhx => kernel_rfl!); (case zhN => top_name); (case zhL => rfl); (case zhl => k_caught0); (case zu => k_caught0); (case zhk => rfl))
          with_reducible refine sg_nil ?_
          refine sg_pop (r := .ok .next) rfl ?_
          show Sg _ _ _ (whileK _ _ _ _ .next) _ _ _
          refine sg_again rfl ?_
          exact sg_fix (by k_caught0) (by k_caught0) (by k_caught0) (IH (k - 1) (by omega) A2 fs _ _ ⟨F2, N2, G2, pos + 1, (pos : Int) + 1, st, svs, sl, ss, _, vs, rs, hA2, hQ, rfl, rfl, hst, hso, by omega, by omega, hT.mono hF2, hrs, hsl2.mono hF2, hsl3.mono hF2, hsl4, rfl⟩)
  · exact ⟨F', N', G', 0, 0, st, svs, sl, b0, tp0, vs, rs, hA', ⟨fsOk_func, fun A c l P h => sg_pop (r := .ok .next) rfl (sg_end (r := .ok (.ret .none)) rfl h)⟩, rfl, rfl, hst, hso, by omega, by omega, ⟨kvs, hkv, hst'⟩, hrs, hsl2, hsl3, hsl4, rfl⟩
end Mine

open PySem PySem.W PySem.W.X PyProof.Rows PySem.Calls PySem.Builtin.ObjectAttr
set_option maxRecDepth 100000
set_option Elab.async false
set_option autoImplicit false
set_option linter.unusedVariables false
set_option maxHeartbeats 4000000
namespace Mine
local macro_rules | `(tactic| top_name) => `(tactic| first | (with_reducible exact List.mem_cons_self) | (with_reducible refine List.mem_cons_of_mem _ ?_; top_name) | (with_reducible assumption))
local macro_rules | `(tactic| k_caught0) => `(tactic| first
  | (with_reducible exact LUpd.head) | (with_reducible exact LSet.nil) | (with_reducible exact LSet.head) | (with_reducible exact Rem.head) | (with_reducible exact Pick.refl)
  | ((with_reducible apply LUpd.tail); (k_caught0))
  | ((with_reducible apply LSet.tail); (· (decide +kernel)); (k_caught0))
  | ((with_reducible apply Rem.tail); (k_caught0))
  | ((with_reducible apply Pick.cons); (· k_caught0); (k_caught0))
  | ((with_reducible apply Pick.drop); (k_caught0)))
local macro_rules | `(tactic| top_raise) => `(tactic| first | (with_reducible refine Kn.row' ?_; top_name) | (with_reducible refine Kn.fz' ?_; with_reducible assumption) | (with_reducible assumption) | ((with_reducible refine Kn.skip ?_); top_raise))
local macro_rules | `(tactic| k_caughtN0) => `(tactic| first | assumption | (exact Rm.le (by assumption) (by decide)) | ((refine Rm.dp ?_); k_caughtN0) | ((refine Rm.mk' ?_); k_caughtN0) | (refine Rm.le (Rm.over (n := 40) (Rm.le (by assumption) (by decide)) (by first | exact Quiet.ok (by assumption) | exact fsOk_while (Quiet.ok (by assumption)))) (by decide)))
local macro_rules | `(tactic| k_caughtB) => `(tactic| first | exact Strs.nil | ((apply Strs.cons); k_caughtB) | assumption)
local macro_rules | `(tactic| top_strB) => `(tactic| with_reducible first | exact bl_len | exact bl_isinstance | exact bl_type | exact bl_list | exact bl_tuple | exact bl_range | exact bl_str | exact bl_int | exact bl_abs | exact bl_sum | exact bl_enumerate | exact bl_zip | exact bl_max | exact bl_min | exact bl_divmod | exact bl_callable)
local macro_rules | `(tactic| top_raise0) => `(tactic| with_reducible first | exact g_wall_ | exact g_TokenType_ | exact g_Token | exact g_Whitespace | exact g_Error | exact g_String | exact g_Number | exact g_ALIASES_ | exact g_string_to_tokentype | exact g_CS_ESCAPE | exact g_commonprefix | exact g_make_charset | exact g_pull_ | exact g_same_ | exact g_groupby | exact g_grouper_ | exact g_special_chars_map_ | exact g_escape | exact g_regex_opt_inner | exact g_regex_opt | exact g_Lexer | exact g_include | exact g_inherit_ | exact g_combined | exact g_PseudoMatch_ | exact g_default | exact g_words | exact g_nothing_ | exact g_inherit_place | exact g_merged_tokendefs | exact g_RegexLexerMeta | exact g_RegexLexer | exact g_PlainMatch | exact g_Plain | exact g_PlainLexer | exact g_law_rest_ | exact g_law_reads_ | exact g_law)
local macro_rules | `(tactic| top_argsB) => `(tactic| with_reducible first | exact bn_len | exact bn_isinstance | exact bn_type | exact bn_list | exact bn_tuple | exact bn_range | exact bn_str | exact bn_int | exact bn_abs | exact bn_sum | exact bn_enumerate | exact bn_zip | exact bn_max | exact bn_min | exact bn_divmod | exact bn_callable)
local macro_rules | `(tactic| top_reprB) => `(tactic| with_reducible first | exact ga_83 | exact mk_83 | exact bo_83 | exact le_83 | exact ga_624 | exact mk_624 | exact bo_624 | exact le_624 | exact ga_651 | exact mk_651 | exact bo_651 | exact le_651 | exact ga_672 | exact mk_672 | exact bo_672 | exact le_672 | exact in_83 | exact if_83 | exact in_624 | exact if_624 | exact in_651 | exact if_651 | exact in_672 | exact if_672 | exact df_672_get_tokendefs | exact df_672_process_tokendef | exact df_672_process_state_ | exact df_672_process_regex_ | exact df_672_process_token_ | exact df_672_process_new_state_ | exact df_672_get_tokens_unprocessed | exact df_624_group | exact df_624_end | exact df_83_child | exact ni_str_TokenType_ | exact ni_str_combined | exact ni_tuple_inherit_ | exact ni_tuple_include | exact ni_tuple_default | exact ni_tuple_combined | exact ni_int_combined)
local macro_rules | `(tactic| top_caughtB) => `(tactic| with_reducible first | exact fl_83_names | exact fl_624_place | exact fl_624_pieces | exact fl_651_rows | exact fl_672_options | exact fl_672_stripnl | exact fl_672_stripall | exact fl_672_ensurenl | exact fl_672_filters | exact fl_672_tables | exact fl_672_all_tokens_ | exact fl_672_tmpname_ | exact fl_672_tokens_)
local macro_rules | `(tactic| top_raiseB) => `(tactic| with_reducible first | exact st_83_names | exact st_624_place | exact st_624_pieces | exact st_651_rows | exact st_672_options | exact st_672_stripnl | exact st_672_stripall | exact st_672_ensurenl | exact st_672_filters | exact st_672_tables | exact st_672_all_tokens_ | exact st_672_tmpname_ | exact st_672_tokens_)
local macro_rules | `(tactic| k_caughtNB) => `(tactic| with_reducible first | exact callee_bltin | exact callee_type | exact cal_83 | exact cal_624 | exact cal_651 | exact cal_672 | exact cal_621 | exact cal_615 | exact cal_648 | exact cal_73 | exact cal_115 | exact cal_494 | exact cal_501 | exact cal_551 | exact cal_544 | exact cal_536 | exact cal_669 | exact cal_522 | exact cal_529 | exact cal_580 | exact cal_278 | exact cal_682 | exact cal_687)

local macro_rules | `(tactic| top_raise) => `(tactic| with_reducible first | exact kn_89 | exact kn_88 | exact kn_90 | exact kn_108)

variable {w : World} {mg mb : Str → Option Value} {O : OsState} {A : Around} {F : PH} {N : List (Addr × OD)} {G : Array GenState}

theorem sp_TTinit (x d : Addr) (vs : List Value) (hz : vs.length ≤ 2) (hA : Rm A 20) (R : Value → Led → Prop) (h : ∀ a, R .none ⟨F, (x, .inst 83 d) :: (d, .fld [("names", .ref a)]) :: (a, .tup vs) :: N, G⟩) :
   Cl (cx w mg mb O) A ⟨F, (x, .inst 83 d) :: (d, .fld []) :: N, G⟩ (.call (.ref 52) ⟨.ref x :: vs, []⟩) (Rv R) := by
  refine cl_defB rfl (by kernel_rfl!) hA.room rfl rfl (n := 0) (by rfl) ?_
  refine t_bindV (fun t => [("self", .ref x), ("names", t)]) (rest := vs) (by
    rcases vs with _ | ⟨v1, _ | ⟨v2, _ | ⟨v3, vs⟩⟩⟩
    · rfl
    · rfl
    · rfl
    · simp at hz) (by unfold sizeLine; omega) fun a => ?_
  with_reducible refine opn ?_
  intro _
  with_reducible refine cells0 ?_
  with_reducible refine trB_cons ?_
  ((with_reducible refine' t_store ?zhL ?zu ?zhN ?zhl ?zhx ?zhk ?_); (case zhx => kernel_rfl!); (case zhN => top_name); (case zhL => rfl); (case zhl => k_caught0); (case zu => k_caught0); (case zhk => rfl))
  with_reducible refine trB_cons ?_
  ((with_reducible refine' t_store ?zhL ?zu ?zhN ?zhl ?zhx ?zhk ?_); (case zhx => kernel_rfl!); (case zhN => top_name); (case zhL => rfl); (case zhl => k_caught0); (case zu => k_caught0); (case zhk => rfl))
  with_reducible refine trB_nil ?_
  with_reducible refine t_cons ?_
  ((with_reducible refine t_AssignAttr ?_ ?zhs); (case zhs => rfl))
  ((with_reducible refine' t_local ?zhL ?zhN ?zhv ?zhx ?zhk ?zhd ?_); (case zhx => kernel_rfl!); (case zhN => top_name); (case zhL => rfl); (case zhv => top_name); (case zhk => rfl); (case zhd => decide +kernel))
  ((with_reducible refine' t_local ?zhL ?zhN ?zhv ?zhx ?zhk ?zhd ?_); (case zhx => kernel_rfl!); (case zhN => top_name); (case zhL => rfl); (case zhv => top_name); (case zhk => rfl); (case zhd => decide +kernel))
  ((with_reducible refine' t_setattr ?zhx ?zhd ?zhf ?zhl ?zu ?zhz ?_); (case zhx => top_raise); (case zhd => top_name); (case zhl => k_caught0); (case zu => k_caught0); (case zhf => top_raiseB); (case zhz => simp))
  with_reducible refine fl_next ?_
  with_reducible refine t_nil ?_
  exact ⟨_, by k_caught0, _, rfl, h a⟩

theorem sp_Pinit (p d : Addr) (v : Value) (hA : Rm A 20) (R : Value → Led → Prop) (h : R .none ⟨F, (p, .inst 651 d) :: (d, .fld [("rows", v)]) :: N, G⟩) :
   Cl (cx w mg mb O) A ⟨F, (p, .inst 651 d) :: (d, .fld []) :: N, G⟩ (.call (.ref 642) ⟨[.ref p, v], []⟩) (Rv R) := by
  refine cl_def' (binds := [("self", .ref p), ("rows", v)]) rfl (by kernel_rfl!) (by kernel_rfl!) hA.room rfl rfl (n := 0) (by rfl) ?_
  intro L
  with_reducible refine cells0 ?_
  with_reducible refine trB_cons ?_
  ((with_reducible refine' t_store ?zhL ?zu ?zhN ?zhl ?zhx ?zhk ?_); (case zhx => kernel_rfl!); (case zhN => top_name); (case zhL => rfl); (case zhl => k_caught0); (case zu => k_caught0); (case zhk => rfl))
  with_reducible refine trB_cons ?_
  ((with_reducible refine' t_store ?zhL ?zu ?zhN ?zhl ?zhx ?zhk ?_); (case zhx => kernel_rfl!); (case zhN => top_name); (case zhL => rfl); (case zhl => k_caught0); (case zu => k_caught0); (case zhk => rfl))
  with_reducible refine trB_nil ?_
  with_reducible refine t_cons ?_
  ((with_reducible refine t_AssignAttr ?_ ?zhs); (case zhs => rfl))
  ((with_reducible refine' t_local ?zhL ?zhN ?zhv ?zhx ?zhk ?zhd ?_); (case zhx => kernel_rfl!); (case zhN => top_name); (case zhL => rfl); (case zhv => top_name); (case zhk => rfl); (case zhd => decide +kernel))
  ((with_reducible refine' t_local ?zhL ?zhN ?zhv ?zhx ?zhk ?zhd ?_); (case zhx => kernel_rfl!); (case zhN => top_name); (case zhL => rfl); (case zhv => top_name); (case zhk => rfl); (case zhd => decide +kernel))
  ((with_reducible refine' t_setattr ?zhx ?zhd ?zhf ?zhl ?zu ?zhz ?_); (case zhx => top_raise); (case zhd => top_name); (case zhl => k_caught0); (case zu => k_caught0); (case zhf => top_raiseB); (case zhz => simp))
  with_reducible refine fl_next ?_
  with_reducible refine t_nil ?_
  exact ⟨_, by k_caught0, _, rfl, h⟩

theorem sp_child {x d tn : Addr} {nvs : List Value} {val : Str} {c : Nat} {tv : Tok} (hx : Kn (cx w mg mb O) ⟨F, N, G⟩ x (.inst 83 d)) (hd : Kn (cx w mg mb O) ⟨F, N, G⟩ d (.fld [("names", .ref tn)])) (htn : Kn (cx w mg mb O) ⟨F, N, G⟩ tn (.tup nvs))
   (hv : val.cps[0]? = some c) (hup : Txt.isupper ⟨#[c]⟩ = true) (hz : val.length ≤ 100) (hnv : nvs.length ≤ 1) (hal : Kn (cx w mg mb O) ⟨F, N, G⟩ 108 (.dic [("Token", .ref 89), ("String", .ref 101), ("Number", .ref 105)]))
   (hno : nvs = [] → (valueAt [(("Token" : Str), Value.ref 89), ("String", .ref 101), ("Number", .ref 105)] val).isSome = false)
   (hA : Rm A 30) (R : Value → Led → Prop) (h : ∀ y dy ty, R (.ref y) ⟨F, (y, .inst 83 dy) :: (dy, .fld [("names", .ref ty)]) :: (ty, .tup (nvs ++ [.str val tv])) :: N, G⟩) :
   Cl (cx w mg mb O) A ⟨F, N, G⟩ (.call (.ref 73) ⟨[.ref x, .str val tv], []⟩) (Rv R) := by
  have hl : val.length ≠ 0 := by
    obtain ⟨hlt, _⟩ := Array.getElem?_eq_some_iff.mp hv
    have e : val.length = val.cps.size := rfl
    omega
  refine cl_def' (binds := [("self", .ref x), ("val", .str val tv)]) rfl (by kernel_rfl!) (by kernel_rfl!) hA.room rfl rfl (n := 0) (by rfl) ?_
  intro L
  with_reducible refine cells0 ?_
  with_reducible refine trB_cons ?_
  ((with_reducible refine' t_store ?zhL ?zu ?zhN ?zhl ?zhx ?zhk ?_); (case zhx => kernel_rfl!); (case zhN => top_name); (case zhL => rfl); (case zhl => k_caught0); (case zu => k_caught0); (case zhk => rfl))
  with_reducible refine trB_cons ?_
  ((with_reducible refine' t_store ?zhL ?zu ?zhN ?zhl ?zhx ?zhk ?_); (case zhx => kernel_rfl!); (case zhN => top_name); (case zhL => rfl); (case zhl => k_caught0); (case zu => k_caught0); (case zhk => rfl))
  with_reducible refine trB_nil ?_
  with_reducible refine t_cons ?_
  with_reducible refine t_If ?_
  with_reducible refine t_isOr ?_
  with_reducible refine t_isNot ?_
  ((with_reducible refine t_isVal ?_ ?zhe); (case zhe => rfl))
  ((with_reducible refine' t_local ?zhL ?zhN ?zhv ?zhx ?zhk ?zhd ?_); (case zhx => kernel_rfl!); (case zhN => top_name); (case zhL => rfl); (case zhv => top_name); (case zhk => rfl); (case zhd => decide +kernel))
  ((with_reducible refine tt_str ?zhz ?_); (case zhz => omega))
  refine if_F (by simp; omega) ?_
  with_reducible refine t_isOr ?_
  with_reducible refine t_isNot ?_
  ((with_reducible refine t_isVal ?_ ?zhe); (case zhe => rfl))
  ((with_reducible refine' t_MCall ?_ ?zhe); (case zhe => rfl))
  with_reducible refine t_Sub ?_
  ((with_reducible refine' t_local ?zhL ?zhN ?zhv ?zhx ?zhk ?zhd ?_); (case zhx => kernel_rfl!); (case zhN => top_name); (case zhL => rfl); (case zhv => top_name); (case zhk => rfl); (case zhd => decide +kernel))
  ((with_reducible refine t_int ?_); (intro _))
  ((with_reducible refine' t_subStr ?zhs ?_); (case zhs => rfl))
  ((with_reducible refine' t_itemStr ?zhi ?zhz ?zhc ?_); (case zhi => decide); (case zhz => decide); (case zhc => exact hv); (intro _))
  with_reducible refine ms_isupper ?_
  with_reducible refine mc ?_
  with_reducible refine t_callWithP ?_
  with_reducible refine t_evalArgs0 ?_
  ((with_reducible refine cp1 ?zhc ?_); (case zhc => k_caughtNB))
  with_reducible refine t_isupper ?_
  with_reducible refine tt_bool ?_
  refine if_F (by rw [hup]; rfl) ?_
  with_reducible refine t_isOr0 ?_
  with_reducible refine if_f ?_
  with_reducible refine t_nil ?_
  with_reducible refine fl_next ?_
  with_reducible refine t_cons ?_
  with_reducible refine t_If ?_
  with_reducible refine t_isAnd ?_
  with_reducible refine t_isNot ?_
  ((with_reducible refine t_isVal ?_ ?zhe); (case zhe => rfl))
  ((with_reducible refine t_Attr ?_ ?zhe); (case zhe => rfl))
  ((with_reducible refine' t_local ?zhL ?zhN ?zhv ?zhx ?zhk ?zhd ?_); (case zhx => kernel_rfl!); (case zhN => top_name); (case zhL => rfl); (case zhv => top_name); (case zhk => rfl); (case zhd => decide +kernel))
  ((with_reducible refine' t_field ?zhx ?zhd ?zhv ?zhf ?zhg ?zhh ?_); (case zhx => top_raise); (case zhd => top_raise); (case zhv => top_name); (case zhf => top_caughtB); (case zhg => top_reprB); (case zhh => rfl))
  ((with_reducible refine' tt_tup ?zha ?zhz ?_); (case zha => top_raise); (case zhz => omega))
  refine if_b (fun hb => ?_) (fun hb => ?_)
  · have hnil : nvs = [] := by cases nvs with | nil => rfl | cons a b => simp at hb
    with_reducible refine t_isAnd ?_
    ((with_reducible refine t_isCmp ?_ ?zhb); (case zhb => rfl))
    ((with_reducible refine' t_local ?zhL ?zhN ?zhv ?zhx ?zhk ?zhd ?_); (case zhx => kernel_rfl!); (case zhN => top_name); (case zhL => rfl); (case zhv => top_name); (case zhk => rfl); (case zhd => decide +kernel))
    ((with_reducible refine' t_glob ?ze ?zhg ?zhk ?zhx ?zhd ?_); (case ze => top_raise0); (case zhg => rfl); (case zhk => rfl); (case zhx => kernel_rfl!); (case zhd => decide +kernel))
    ((with_reducible refine' t_dictIn ?zha ?_); (case zha => top_raise))
    with_reducible refine tt_bool ?_
    refine if_F (hno hnil) ?_
    with_reducible refine if_f ?_
    with_reducible refine t_nil ?_
    with_reducible refine fl_next ?_
    with_reducible refine t_cons ?_
    ((with_reducible refine t_AssignName ?_ ?zhs); (case zhs => rfl))
    ((with_reducible refine t_Call ?_ ?zhe); (case zhe => rfl))
    ((with_reducible refine' t_glob ?ze ?zhg ?zhk ?zhx ?zhd ?_); (case ze => top_raise0); (case zhg => rfl); (case zhk => rfl); (case zhx => kernel_rfl!); (case zhd => decide +kernel))
    with_reducible refine t_callWithP ?_
    ((with_reducible refine t_evalArgsStar ?_ ?zhe); (case zhe => rfl))
    with_reducible refine t_argsStar ?_
    ((with_reducible refine t_Attr ?_ ?zhe); (case zhe => rfl))
    ((with_reducible refine' t_local ?zhL ?zhN ?zhv ?zhx ?zhk ?zhd ?_); (case zhx => kernel_rfl!); (case zhN => top_name); (case zhL => rfl); (case zhv => top_name); (case zhk => rfl); (case zhd => decide +kernel))
    ((with_reducible refine' t_field ?zhx ?zhd ?zhv ?zhf ?zhg ?zhh ?_); (case zhx => top_raise); (case zhd => top_raise); (case zhv => top_name); (case zhf => top_caughtB); (case zhg => top_reprB); (case zhh => rfl))
    refine ⟨tn, nvs, rfl, Kn.skip htn, by omega, ?_⟩
    ((with_reducible refine t_args ?_ ?zhe); (case zhe => rfl))
    ((with_reducible refine' t_local ?zhL ?zhN ?zhv ?zhx ?zhk ?zhd ?_); (case zhx => kernel_rfl!); (case zhN => top_name); (case zhL => rfl); (case zhv => top_name); (case zhk => rfl); (case zhd => decide +kernel))
    with_reducible refine t_args0 ?_
    ((with_reducible refine cp0 ?zhc ?_); (case zhc => k_caughtNB))
    ((with_reducible refine' t_make (fI := 52) ?zhm ?zhi ?zhf ?_); (case zhm => top_reprB); (case zhi => top_reprB); (case zhf => top_reprB); (intro _ _); (with_reducible refine' sp_TTinit _ _ _ ?zhz ?zhA _ ?_); (case zhz => (first | decide | (simp; done) | (simp; omega))); (case zhA => k_caughtN0); (intro _); (refine And.intro rfl ?_))
    ((with_reducible refine' t_store ?zhL ?zu ?zhN ?zhl ?zhx ?zhk ?_); (case zhx => kernel_rfl!); (case zhN => top_name); (case zhL => rfl); (case zhl => k_caught0); (case zu => k_caught0); (case zhk => rfl))
    with_reducible refine fl_next ?_
    with_reducible refine t_cons ?_
    with_reducible refine t_Return ?_
    ((with_reducible refine' t_local ?zhL ?zhN ?zhv ?zhx ?zhk ?zhd ?_); (case zhx => kernel_rfl!); (case zhN => top_name); (case zhL => rfl); (case zhv => top_name); (case zhk => rfl); (case zhd => decide +kernel))
    with_reducible refine fl_ret ?_
    exact ⟨_, by k_caught0, _, rfl, h _ _ _⟩
  · with_reducible refine if_f ?_
    with_reducible refine t_nil ?_
    with_reducible refine fl_next ?_
    with_reducible refine t_cons ?_
    ((with_reducible refine t_AssignName ?_ ?zhs); (case zhs => rfl))
    ((with_reducible refine t_Call ?_ ?zhe); (case zhe => rfl))
    ((with_reducible refine' t_glob ?ze ?zhg ?zhk ?zhx ?zhd ?_); (case ze => top_raise0); (case zhg => rfl); (case zhk => rfl); (case zhx => kernel_rfl!); (case zhd => decide +kernel))
    with_reducible refine t_callWithP ?_
    ((with_reducible refine t_evalArgsStar ?_ ?zhe); (case zhe => rfl))
    with_reducible refine t_argsStar ?_
    ((with_reducible refine t_Attr ?_ ?zhe); (case zhe => rfl))
    ((with_reducible refine' t_local ?zhL ?zhN ?zhv ?zhx ?zhk ?zhd ?_); (case zhx => kernel_rfl!); (case zhN => top_name); (case zhL => rfl); (case zhv => top_name); (case zhk => rfl); (case zhd => decide +kernel))
    ((with_reducible refine' t_field ?zhx ?zhd ?zhv ?zhf ?zhg ?zhh ?_); (case zhx => top_raise); (case zhd => top_raise); (case zhv => top_name); (case zhf => top_caughtB); (case zhg => top_reprB); (case zhh => rfl))
    refine ⟨tn, nvs, rfl, Kn.skip htn, by omega, ?_⟩
    ((with_reducible refine t_args ?_ ?zhe); (case zhe => rfl))
    ((with_reducible refine' t_local ?zhL ?zhN ?zhv ?zhx ?zhk ?zhd ?_); (case zhx => kernel_rfl!); (case zhN => top_name); (case zhL => rfl); (case zhv => top_name); (case zhk => rfl); (case zhd => decide +kernel))
    with_reducible refine t_args0 ?_
    ((with_reducible refine cp0 ?zhc ?_); (case zhc => k_caughtNB))
    ((with_reducible refine' t_make (fI := 52) ?zhm ?zhi ?zhf ?_); (case zhm => top_reprB); (case zhi => top_reprB); (case zhf => top_reprB); (intro _ _); (with_reducible refine' sp_TTinit _ _ _ ?zhz ?zhA _ ?_); (case zhz => (first | decide | (simp; done) | (simp; omega))); (case zhA => k_caughtN0); (intro _); (refine And.intro rfl ?_))
    ((with_reducible refine' t_store ?zhL ?zu ?zhN ?zhl ?zhx ?zhk ?_); (case zhx => kernel_rfl!); (case zhN => top_name); (case zhL => rfl); (case zhl => k_caught0); (case zu => k_caught0); (case zhk => rfl))
    with_reducible refine fl_next ?_
    with_reducible refine t_cons ?_
    with_reducible refine t_Return ?_
    ((with_reducible refine' t_local ?zhL ?zhN ?zhv ?zhx ?zhk ?zhd ?_); (case zhx => kernel_rfl!); (case zhN => top_name); (case zhL => rfl); (case zhv => top_name); (case zhk => rfl); (case zhd => decide +kernel))
    with_reducible refine fl_ret ?_
    exact ⟨_, by k_caught0, _, rfl, h _ _ _⟩
end Mine

open PySem PySem.W PySem.W.X PyProof.Rows PySem.Calls PySem.Builtin.ObjectAttr
set_option maxRecDepth 100000
set_option Elab.async false
set_option autoImplicit false
set_option linter.unusedVariables false
set_option maxHeartbeats 4000000
namespace Mine
local macro_rules | `(tactic| top_name) => `(tactic| first | (with_reducible exact List.mem_cons_self) | (with_reducible refine List.mem_cons_of_mem _ ?_; top_name) | (with_reducible assumption))
local macro_rules | `(tactic| k_caught0) => `(tactic| first
  | (with_reducible exact LUpd.head) | (with_reducible exact LSet.nil) | (with_reducible exact LSet.head) | (with_reducible exact Rem.head) | (with_reducible exact Pick.refl)
  | ((with_reducible apply LUpd.tail); (k_caught0))
  | ((with_reducible apply LSet.tail); (· (decide +kernel)); (k_caught0))
  | ((with_reducible apply Rem.tail); (k_caught0))
  | ((with_reducible apply Pick.cons); (· k_caught0); (k_caught0))
  | ((with_reducible apply Pick.drop); (k_caught0)))
local macro_rules | `(tactic| top_raise) => `(tactic| first | (with_reducible refine Kn.row' ?_; top_name) | (with_reducible refine Kn.fz' ?_; with_reducible assumption) | (with_reducible assumption) | ((with_reducible refine Kn.skip ?_); top_raise))
local macro_rules | `(tactic| k_caughtN0) => `(tactic| first | assumption | (exact Rm.le (by assumption) (by decide)) | ((refine Rm.dp ?_); k_caughtN0) | ((refine Rm.mk' ?_); k_caughtN0) | (refine Rm.le (Rm.over (n := 40) (Rm.le (by assumption) (by decide)) (by first | exact Quiet.ok (by assumption) | exact fsOk_while (Quiet.ok (by assumption)))) (by decide)))
local macro_rules | `(tactic| k_caughtB) => `(tactic| first | exact Strs.nil | ((apply Strs.cons); k_caughtB) | assumption)
local macro_rules | `(tactic| top_strB) => `(tactic| with_reducible first | exact bl_len | exact bl_isinstance | exact bl_type | exact bl_list | exact bl_tuple | exact bl_range | exact bl_str | exact bl_int | exact bl_abs | exact bl_sum | exact bl_enumerate | exact bl_zip | exact bl_max | exact bl_min | exact bl_divmod | exact bl_callable)
local macro_rules | `(tactic| top_raise0) => `(tactic| with_reducible first | exact g_wall_ | exact g_TokenType_ | exact g_Token | exact g_Whitespace | exact g_Error | exact g_String | exact g_Number | exact g_ALIASES_ | exact g_string_to_tokentype | exact g_CS_ESCAPE | exact g_commonprefix | exact g_make_charset | exact g_pull_ | exact g_same_ | exact g_groupby | exact g_grouper_ | exact g_special_chars_map_ | exact g_escape | exact g_regex_opt_inner | exact g_regex_opt | exact g_Lexer | exact g_include | exact g_inherit_ | exact g_combined | exact g_PseudoMatch_ | exact g_default | exact g_words | exact g_nothing_ | exact g_inherit_place | exact g_merged_tokendefs | exact g_RegexLexerMeta | exact g_RegexLexer | exact g_PlainMatch | exact g_Plain | exact g_PlainLexer | exact g_law_rest_ | exact g_law_reads_ | exact g_law)
local macro_rules | `(tactic| top_argsB) => `(tactic| with_reducible first | exact bn_len | exact bn_isinstance | exact bn_type | exact bn_list | exact bn_tuple | exact bn_range | exact bn_str | exact bn_int | exact bn_abs | exact bn_sum | exact bn_enumerate | exact bn_zip | exact bn_max | exact bn_min | exact bn_divmod | exact bn_callable)
local macro_rules | `(tactic| top_reprB) => `(tactic| with_reducible first | exact ga_83 | exact mk_83 | exact bo_83 | exact le_83 | exact ga_624 | exact mk_624 | exact bo_624 | exact le_624 | exact ga_651 | exact mk_651 | exact bo_651 | exact le_651 | exact ga_672 | exact mk_672 | exact bo_672 | exact le_672 | exact in_83 | exact if_83 | exact in_624 | exact if_624 | exact in_651 | exact if_651 | exact in_672 | exact if_672 | exact df_672_get_tokendefs | exact df_672_process_tokendef | exact df_672_process_state_ | exact df_672_process_regex_ | exact df_672_process_token_ | exact df_672_process_new_state_ | exact df_672_get_tokens_unprocessed | exact df_624_group | exact df_624_end | exact df_83_child | exact ni_str_TokenType_ | exact ni_str_combined | exact ni_tuple_inherit_ | exact ni_tuple_include | exact ni_tuple_default | exact ni_tuple_combined | exact ni_int_combined)
local macro_rules | `(tactic| top_caughtB) => `(tactic| with_reducible first | exact fl_83_names | exact fl_624_place | exact fl_624_pieces | exact fl_651_rows | exact fl_672_options | exact fl_672_stripnl | exact fl_672_stripall | exact fl_672_ensurenl | exact fl_672_filters | exact fl_672_tables | exact fl_672_all_tokens_ | exact fl_672_tmpname_ | exact fl_672_tokens_)
local macro_rules | `(tactic| top_raiseB) => `(tactic| with_reducible first | exact st_83_names | exact st_624_place | exact st_624_pieces | exact st_651_rows | exact st_672_options | exact st_672_stripnl | exact st_672_stripall | exact st_672_ensurenl | exact st_672_filters | exact st_672_tables | exact st_672_all_tokens_ | exact st_672_tmpname_ | exact st_672_tokens_)
local macro_rules | `(tactic| k_caughtNB) => `(tactic| with_reducible first | exact callee_bltin | exact callee_type | exact cal_83 | exact cal_624 | exact cal_651 | exact cal_672 | exact cal_621 | exact cal_615 | exact cal_648 | exact cal_73 | exact cal_115 | exact cal_494 | exact cal_501 | exact cal_551 | exact cal_544 | exact cal_536 | exact cal_669 | exact cal_522 | exact cal_529 | exact cal_580 | exact cal_278 | exact cal_682 | exact cal_687)

local macro_rules | `(tactic| top_raise) => `(tactic| with_reducible first | exact kn_89 | exact kn_88 | exact kn_90 | exact kn_108)

variable {w : World} {mg mb : Str → Option Value} {O : OsState} {A : Around} {F : PH} {N : List (Addr × OD)} {G : Array GenState}


theorem strs2 {p q : Str} {vs : List Value} (h : Strs [p, q] vs) : ∃ t1 t2, vs = [.str p t1, .str q t2] := by
  cases h with | cons h => cases h with | cons h => cases h; exact ⟨_, _, rfl⟩
theorem strs1 {p : Str} {vs : List Value} (h : Strs [p] vs) : ∃ t1, vs = [.str p t1] := by
  cases h with | cons h => cases h; exact ⟨_, rfl⟩
theorem sp_stt2 {s p q : Str} {c c' : Nat} {tk : Tok} (hps : Txt.split s "." = [p, q]) (hl0 : s.length ≠ 0) (hl : s.length ≤ 100) (hpv : p.cps[0]? = some c) (hpu : Txt.isupper ⟨#[c]⟩ = true) (hpl : p.length ≤ 100)
   (hqv : q.cps[0]? = some c') (hqu : Txt.isupper ⟨#[c']⟩ = true) (hql : q.length ≤ 100)
   (hno : (valueAt [(("Token" : Str), Value.ref 89), ("String", .ref 101), ("Number", .ref 105)] p).isSome = false)
   (hA : Rm A 60) (R : Value → Led → Prop) (h : ∀ y dy ty t1 t2, R (.ref y) ⟨F, (y, .inst 83 dy) :: (dy, .fld [("names", .ref ty)]) :: (ty, .tup [.str p t1, .str q t2]) :: N, G⟩) :
   Cl (cx w mg mb O) A ⟨F, N, G⟩ (.call (.ref 115) ⟨[.str s tk], []⟩) (Rv R) := by
  refine cl_def' (binds := [("s", .str s tk)]) rfl (by kernel_rfl!) (by kernel_rfl!) hA.room rfl rfl (n := 0) (by rfl) ?_
  intro L
  with_reducible refine cells0 ?_
  with_reducible refine trB_cons ?_
  ((with_reducible refine' t_store ?zhL ?zu ?zhN ?zhl ?zhx ?zhk ?_); (case zhx => kernel_rfl!); (case zhN => top_name); (case zhL => rfl); (case zhl => k_caught0); (case zu => k_caught0); (case zhk => rfl))
  with_reducible refine trB_nil ?_
  with_reducible refine t_cons ?_
  with_reducible refine t_If ?_
  ((with_reducible refine t_isVal ?_ ?zhe); (case zhe => rfl))
  ((with_reducible refine t_Call ?_ ?zhe); (case zhe => rfl))
  ((with_reducible refine' t_bltin ?ze ?zhv ?zhn ?zhg ?zhb ?zhk ?zhx ?zhd ?_); (case zhv => top_strB); (case ze => top_argsB); (case zhn => decide +kernel); (case zhg => rfl); (case zhb => rfl); (case zhk => rfl); (case zhx => kernel_rfl!); (case zhd => decide +kernel))
  with_reducible refine t_callWithP ?_
  ((with_reducible refine t_evalArgs ?_ ?zhe); (case zhe => rfl))
  ((with_reducible refine t_args ?_ ?zhe); (case zhe => rfl))
  ((with_reducible refine' t_local ?zhL ?zhN ?zhv ?zhx ?zhk ?zhd ?_); (case zhx => kernel_rfl!); (case zhN => top_name); (case zhL => rfl); (case zhv => top_name); (case zhk => rfl); (case zhd => decide +kernel))
  ((with_reducible refine t_args ?_ ?zhe); (case zhe => rfl))
  ((with_reducible refine' t_glob ?ze ?zhg ?zhk ?zhx ?zhd ?_); (case ze => top_raise0); (case zhg => rfl); (case zhk => rfl); (case zhx => kernel_rfl!); (case zhd => decide +kernel))
  with_reducible refine t_args0 ?_
  ((with_reducible refine cp0 ?zhc ?_); (case zhc => k_caughtNB))
  ((with_reducible refine tin_strF ?zhe ?_); (case zhe => top_reprB))
  with_reducible refine tt_bool ?_
  with_reducible refine if_f ?_
  with_reducible refine t_nil ?_
  with_reducible refine fl_next ?_
  with_reducible refine t_cons ?_
  with_reducible refine t_If ?_
  with_reducible refine t_isNot ?_
  ((with_reducible refine t_isVal ?_ ?zhe); (case zhe => rfl))
  ((with_reducible refine' t_local ?zhL ?zhN ?zhv ?zhx ?zhk ?zhd ?_); (case zhx => kernel_rfl!); (case zhN => top_name); (case zhL => rfl); (case zhv => top_name); (case zhk => rfl); (case zhd => decide +kernel))
  ((with_reducible refine tt_str ?zhz ?_); (case zhz => omega))
  refine if_F (by simp; omega) ?_
  with_reducible refine t_nil ?_
  with_reducible refine fl_next ?_
  with_reducible refine t_cons ?_
  ((with_reducible refine t_AssignName ?_ ?zhs); (case zhs => rfl))
  ((with_reducible refine' t_glob ?ze ?zhg ?zhk ?zhx ?zhd ?_); (case ze => top_raise0); (case zhg => rfl); (case zhk => rfl); (case zhx => kernel_rfl!); (case zhd => decide +kernel))
  ((with_reducible refine' t_store ?zhL ?zu ?zhN ?zhl ?zhx ?zhk ?_); (case zhx => kernel_rfl!); (case zhN => top_name); (case zhL => rfl); (case zhl => k_caught0); (case zu => k_caught0); (case zhk => rfl))
  with_reducible refine fl_next ?_
  with_reducible refine t_cons ?_
  ((with_reducible refine t_For ?_ ?zhs); (case zhs => exact fun _ => rfl))
  ((with_reducible refine' t_MCall ?_ ?zhe); (case zhe => rfl))
  ((with_reducible refine' t_local ?zhL ?zhN ?zhv ?zhx ?zhk ?zhd ?_); (case zhx => kernel_rfl!); (case zhN => top_name); (case zhL => rfl); (case zhv => top_name); (case zhk => rfl); (case zhd => decide +kernel))
  with_reducible refine ms_split ?_
  with_reducible refine mc ?_
  with_reducible refine t_callWithP ?_
  ((with_reducible refine t_evalArgs ?_ ?zhe); (case zhe => rfl))
  ((with_reducible refine t_args ?_ ?zhe); (case zhe => rfl))
  ((with_reducible refine t_str ?_); (intro _))
  with_reducible refine t_args0 ?_
  ((with_reducible refine cp1 ?zhc ?_); (case zhc => k_caughtNB))
  ((with_reducible refine' t_split ?zhy ?zhx ?zhp ?zhn ?_); (case zhy => rfl); (case zhx => omega); (case zhp => assumption); (case zhn => (simp; done)); (intro _ _ _))
  ((with_reducible refine' t_iterList ?zha ?_); (case zha => top_raise); (intro _))
  with_reducible refine cl_for1 ?_
  obtain ⟨t1, t2, rfl⟩ := strs2 (by assumption)
  ((with_reducible refine' t_nextList ?zhi ?zha ?zhv ?zu ?_); (case zhi => top_name); (case zha => top_raise); (case zhv => rfl); (case zu => k_caught0))
  with_reducible refine t_goName ?_
  with_reducible refine t_assignName ?_
  ((with_reducible refine' t_store ?zhL ?zu ?zhN ?zhl ?zhx ?zhk ?_); (case zhx => kernel_rfl!); (case zhN => top_name); (case zhL => rfl); (case zhl => k_caught0); (case zu => k_caught0); (case zhk => rfl))
  with_reducible refine t_cons ?_
  ((with_reducible refine t_AssignName ?_ ?zhs); (case zhs => rfl))
  ((with_reducible refine' t_MCall ?_ ?zhe); (case zhe => rfl))
  ((with_reducible refine' t_local ?zhL ?zhN ?zhv ?zhx ?zhk ?zhd ?_); (case zhx => kernel_rfl!); (case zhN => top_name); (case zhL => rfl); (case zhv => top_name); (case zhk => rfl); (case zhd => decide +kernel))
  ((with_reducible refine' t_methodOf (f := 73) ?zhx ?zhd ?zhf ?zhg ?zhn ?_); (case zhx => top_raise); (case zhd => top_raise); (case zhf => top_reprB); (case zhg => top_reprB); (case zhn => kernel_rfl!))
  with_reducible refine mc ?_
  with_reducible refine t_callWithP ?_
  ((with_reducible refine t_evalArgs ?_ ?zhe); (case zhe => rfl))
  ((with_reducible refine t_args ?_ ?zhe); (case zhe => rfl))
  ((with_reducible refine' t_local ?zhL ?zhN ?zhv ?zhx ?zhk ?zhd ?_); (case zhx => kernel_rfl!); (case zhN => top_name); (case zhL => rfl); (case zhv => top_name); (case zhk => rfl); (case zhd => decide +kernel))
  with_reducible refine t_args0 ?_
  ((with_reducible refine cp1 ?zhc ?_); (case zhc => k_caughtNB))
  ((with_reducible refine' tr_call (sp_child ?zhx ?zhd ?zht ?zhv ?zhu ?zhl ?zhn ?zha ?zhno ?zhA _ ?_)); (case zhx => (first | top_raise | exact kn_89)); (case zhd => (first | top_raise | exact kn_88)); (case zht => (first | top_raise | exact kn_90)); (case zhv => assumption); (case zhu => assumption); (case zhl => assumption); (case zhn => (first | decide | (simp; done))); (case zha => exact kn_108); (case zhno => (first | exact fun _ => by assumption | exact fun e => nomatch e)); (case zhA => k_caughtN0); (intro _ _ _))
  ((with_reducible refine' t_store ?zhL ?zu ?zhN ?zhl ?zhx ?zhk ?_); (case zhx => kernel_rfl!); (case zhN => top_name); (case zhL => rfl); (case zhl => k_caught0); (case zu => k_caught0); (case zhk => rfl))
  with_reducible refine fl_next ?_
  with_reducible refine t_nil ?_
  with_reducible refine tu_next ?_
  with_reducible refine cl_for1 ?_
  ((with_reducible refine' t_nextList ?zhi ?zha ?zhv ?zu ?_); (case zhi => top_name); (case zha => top_raise); (case zhv => rfl); (case zu => k_caught0))
  with_reducible refine t_goName ?_
  with_reducible refine t_assignName ?_
  ((with_reducible refine' t_store ?zhL ?zu ?zhN ?zhl ?zhx ?zhk ?_); (case zhx => kernel_rfl!); (case zhN => top_name); (case zhL => rfl); (case zhl => k_caught0); (case zu => k_caught0); (case zhk => rfl))
  with_reducible refine t_cons ?_
  ((with_reducible refine t_AssignName ?_ ?zhs); (case zhs => rfl))
  ((with_reducible refine' t_MCall ?_ ?zhe); (case zhe => rfl))
  ((with_reducible refine' t_local ?zhL ?zhN ?zhv ?zhx ?zhk ?zhd ?_); (case zhx => kernel_rfl!); (case zhN => top_name); (case zhL => rfl); (case zhv => top_name); (case zhk => rfl); (case zhd => decide +kernel))
  ((with_reducible refine' t_methodOf (f := 73) ?zhx ?zhd ?zhf ?zhg ?zhn ?_); (case zhx => top_raise); (case zhd => top_raise); (case zhf => top_reprB); (case zhg => top_reprB); (case zhn => kernel_rfl!))
  with_reducible refine mc ?_
  with_reducible refine t_callWithP ?_
  ((with_reducible refine t_evalArgs ?_ ?zhe); (case zhe => rfl))
  ((with_reducible refine t_args ?_ ?zhe); (case zhe => rfl))
  ((with_reducible refine' t_local ?zhL ?zhN ?zhv ?zhx ?zhk ?zhd ?_); (case zhx => kernel_rfl!); (case zhN => top_name); (case zhL => rfl); (case zhv => top_name); (case zhk => rfl); (case zhd => decide +kernel))
  with_reducible refine t_args0 ?_
  ((with_reducible refine cp1 ?zhc ?_); (case zhc => k_caughtNB))
  ((with_reducible refine' tr_call (sp_child ?zhx ?zhd ?zht ?zhv ?zhu ?zhl ?zhn ?zha ?zhno ?zhA _ ?_)); (case zhx => (first | top_raise | exact kn_89)); (case zhd => (first | top_raise | exact kn_88)); (case zht => (first | top_raise | exact kn_90)); (case zhv => assumption); (case zhu => assumption); (case zhl => assumption); (case zhn => (first | decide | (simp; done))); (case zha => exact kn_108); (case zhno => (first | exact fun _ => by assumption | exact fun e => nomatch e)); (case zhA => k_caughtN0); (intro _ _ _))
  ((with_reducible refine' t_store ?zhL ?zu ?zhN ?zhl ?zhx ?zhk ?_); (case zhx => kernel_rfl!); (case zhN => top_name); (case zhL => rfl); (case zhl => k_caught0); (case zu => k_caught0); (case zhk => rfl))
  with_reducible refine fl_next ?_
  with_reducible refine t_nil ?_
  with_reducible refine tu_next ?_
  with_reducible refine cl_for1 ?_
  ((with_reducible refine' t_nextListEnd ?zhh ?zhi ?zha ?zhv ?zu ?_); (case zhh => (refine Rm.hd (n := 0) ?_; k_caughtN0)); (case zhi => top_name); (case zha => top_raise); (case zhv => simp); (case zu => k_caught0))
  with_reducible refine t_nil ?_
  with_reducible refine fl_next ?_
  with_reducible refine t_cons ?_
  with_reducible refine t_Return ?_
  ((with_reducible refine' t_local ?zhL ?zhN ?zhv ?zhx ?zhk ?zhd ?_); (case zhx => kernel_rfl!); (case zhN => top_name); (case zhL => rfl); (case zhv => top_name); (case zhk => rfl); (case zhd => decide +kernel))
  with_reducible refine fl_ret ?_
  simp only [List.nil_append, List.cons_append]
  exact ⟨_, by k_caught0, _, rfl, h _ _ _ _ _⟩
theorem sp_stt1 {s p : Str} {c : Nat} {tk : Tok} (hps : Txt.split s "." = [p]) (hl0 : s.length ≠ 0) (hl : s.length ≤ 100) (hpv : p.cps[0]? = some c) (hpu : Txt.isupper ⟨#[c]⟩ = true) (hpl : p.length ≤ 100)
   (hno : (valueAt [(("Token" : Str), Value.ref 89), ("String", .ref 101), ("Number", .ref 105)] p).isSome = false)
   (hA : Rm A 60) (R : Value → Led → Prop) (h : ∀ y dy ty t1, R (.ref y) ⟨F, (y, .inst 83 dy) :: (dy, .fld [("names", .ref ty)]) :: (ty, .tup [.str p t1]) :: N, G⟩) :
   Cl (cx w mg mb O) A ⟨F, N, G⟩ (.call (.ref 115) ⟨[.str s tk], []⟩) (Rv R) := by
  refine cl_def' (binds := [("s", .str s tk)]) rfl (by kernel_rfl!) (by kernel_rfl!) hA.room rfl rfl (n := 0) (by rfl) ?_
  intro L
  with_reducible refine cells0 ?_
  with_reducible refine trB_cons ?_
  ((with_reducible refine' t_store ?zhL ?zu ?zhN ?zhl ?zhx ?zhk ?_); (case zhx => kernel_rfl!); (case zhN => top_name); (case zhL => rfl); (case zhl => k_caught0); (case zu => k_caught0); (case zhk => rfl))
  with_reducible refine trB_nil ?_
  with_reducible refine t_cons ?_
  with_reducible refine t_If ?_
  ((with_reducible refine t_isVal ?_ ?zhe); (case zhe => rfl))
  ((with_reducible refine t_Call ?_ ?zhe); (case zhe => rfl))
  ((with_reducible refine' t_bltin ?ze ?zhv ?zhn ?zhg ?zhb ?zhk ?zhx ?zhd ?_); (case zhv => top_strB); (case ze => top_argsB); (case zhn => decide +kernel); (case zhg => rfl); (case zhb => rfl); (case zhk => rfl); (case zhx => kernel_rfl!); (case zhd => decide +kernel))
  with_reducible refine t_callWithP ?_
  ((with_reducible refine t_evalArgs ?_ ?zhe); (case zhe => rfl))
  ((with_reducible refine t_args ?_ ?zhe); (case zhe => rfl))
  ((with_reducible refine' t_local ?zhL ?zhN ?zhv ?zhx ?zhk ?zhd ?_); (case zhx => kernel_rfl!); (case zhN => top_name); (case zhL => rfl); (case zhv => top_name); (case zhk => rfl); (case zhd => decide +kernel))
  ((with_reducible refine t_args ?_ ?zhe); (case zhe => rfl))
  ((with_reducible refine' t_glob ?ze ?zhg ?zhk ?zhx ?zhd ?_); (case ze => top_raise0); (case zhg => rfl); (case zhk => rfl); (case zhx => kernel_rfl!); (case zhd => decide +kernel))
  with_reducible refine t_args0 ?_
  ((with_reducible refine cp0 ?zhc ?_); (case zhc => k_caughtNB))
  ((with_reducible refine tin_strF ?zhe ?_); (case zhe => top_reprB))
  with_reducible refine tt_bool ?_
  with_reducible refine if_f ?_
  with_reducible refine t_nil ?_
  with_reducible refine fl_next ?_
  with_reducible refine t_cons ?_
  with_reducible refine t_If ?_
  with_reducible refine t_isNot ?_
  ((with_reducible refine t_isVal ?_ ?zhe); (case zhe => rfl))
  ((with_reducible refine' t_local ?zhL ?zhN ?zhv ?zhx ?zhk ?zhd ?_); (case zhx => kernel_rfl!); (case zhN => top_name); (case zhL => rfl); (case zhv => top_name); (case zhk => rfl); (case zhd => decide +kernel))
  ((with_reducible refine tt_str ?zhz ?_); (case zhz => omega))
  refine if_F (by simp; omega) ?_
  with_reducible refine t_nil ?_
  with_reducible refine fl_next ?_
  with_reducible refine t_cons ?_
  ((with_reducible refine t_AssignName ?_ ?zhs); (case zhs => rfl))
  ((with_reducible refine' t_glob ?ze ?zhg ?zhk ?zhx ?zhd ?_); (case ze => top_raise0); (case zhg => rfl); (case zhk => rfl); (case zhx => kernel_rfl!); (case zhd => decide +kernel))
  ((with_reducible refine' t_store ?zhL ?zu ?zhN ?zhl ?zhx ?zhk ?_); (case zhx => kernel_rfl!); (case zhN => top_name); (case zhL => rfl); (case zhl => k_caught0); (case zu => k_caught0); (case zhk => rfl))
  with_reducible refine fl_next ?_
  with_reducible refine t_cons ?_
  ((with_reducible refine t_For ?_ ?zhs); (case zhs => exact fun _ => rfl))
  ((with_reducible refine' t_MCall ?_ ?zhe); (case zhe => rfl))
  ((with_reducible refine' t_local ?zhL ?zhN ?zhv ?zhx ?zhk ?zhd ?_); (case zhx => kernel_rfl!); (case zhN => top_name); (case zhL => rfl); (case zhv => top_name); (case zhk => rfl); (case zhd => decide +kernel))
  with_reducible refine ms_split ?_
  with_reducible refine mc ?_
  with_reducible refine t_callWithP ?_
  ((with_reducible refine t_evalArgs ?_ ?zhe); (case zhe => rfl))
  ((with_reducible refine t_args ?_ ?zhe); (case zhe => rfl))
  ((with_reducible refine t_str ?_); (intro _))
  with_reducible refine t_args0 ?_
  ((with_reducible refine cp1 ?zhc ?_); (case zhc => k_caughtNB))
  ((with_reducible refine' t_split ?zhy ?zhx ?zhp ?zhn ?_); (case zhy => rfl); (case zhx => omega); (case zhp => assumption); (case zhn => (simp; done)); (intro _ _ _))
  ((with_reducible refine' t_iterList ?zha ?_); (case zha => top_raise); (intro _))
  with_reducible refine cl_for1 ?_
  obtain ⟨t1, rfl⟩ := strs1 (by assumption)
  ((with_reducible refine' t_nextList ?zhi ?zha ?zhv ?zu ?_); (case zhi => top_name); (case zha => top_raise); (case zhv => rfl); (case zu => k_caught0))
  with_reducible refine t_goName ?_
  with_reducible refine t_assignName ?_
  ((with_reducible refine' t_store ?zhL ?zu ?zhN ?zhl ?zhx ?zhk ?_); (case zhx => kernel_rfl!); (case zhN => top_name); (case zhL => rfl); (case zhl => k_caught0); (case zu => k_caught0); (case zhk => rfl))
  with_reducible refine t_cons ?_
  ((with_reducible refine t_AssignName ?_ ?zhs); (case zhs => rfl))
  ((with_reducible refine' t_MCall ?_ ?zhe); (case zhe => rfl))
  ((with_reducible refine' t_local ?zhL ?zhN ?zhv ?zhx ?zhk ?zhd ?_); (case zhx => kernel_rfl!); (case zhN => top_name); (case zhL => rfl); (case zhv => top_name); (case zhk => rfl); (case zhd => decide +kernel))
  ((with_reducible refine' t_methodOf (f := 73) ?zhx ?zhd ?zhf ?zhg ?zhn ?_); (case zhx => top_raise); (case zhd => top_raise); (case zhf => top_reprB); (case zhg => top_reprB); (case zhn => kernel_rfl!))
  with_reducible refine mc ?_
  with_reducible refine t_callWithP ?_
  ((with_reducible refine t_evalArgs ?_ ?zhe); (case zhe => rfl))
  ((with_reducible refine t_args ?_ ?zhe); (case zhe => rfl))
  ((with_reducible refine' t_local ?zhL ?zhN ?zhv ?zhx ?zhk ?zhd ?_); (case zhx => kernel_rfl!); (case zhN => top_name); (case zhL => rfl); (case zhv => top_name); (case zhk => rfl); (case zhd => decide +kernel))
  with_reducible refine t_args0 ?_
  ((with_reducible refine cp1 ?zhc ?_); (case zhc => k_caughtNB))
  ((with_reducible refine' tr_call (sp_child ?zhx ?zhd ?zht ?zhv ?zhu ?zhl ?zhn ?zha ?zhno ?zhA _ ?_)); (case zhx => (first | top_raise | exact kn_89)); (case zhd => (first | top_raise | exact kn_88)); (case zht => (first | top_raise | exact kn_90)); (case zhv => assumption); (case zhu => assumption); (case zhl => assumption); (case zhn => (first | decide | (simp; done))); (case zha => exact kn_108); (case zhno => (first | exact fun _ => by assumption | exact fun e => nomatch e)); (case zhA => k_caughtN0); (intro _ _ _))
  ((with_reducible refine' t_store ?zhL ?zu ?zhN ?zhl ?zhx ?zhk ?_); (case zhx => kernel_rfl!); (case zhN => top_name); (case zhL => rfl); (case zhl => k_caught0); (case zu => k_caught0); (case zhk => rfl))
  with_reducible refine fl_next ?_
  with_reducible refine t_nil ?_
  with_reducible refine tu_next ?_
  with_reducible refine cl_for1 ?_
  ((with_reducible refine' t_nextListEnd ?zhh ?zhi ?zha ?zhv ?zu ?_); (case zhh => (refine Rm.hd (n := 0) ?_; k_caughtN0)); (case zhi => top_name); (case zha => top_raise); (case zhv => simp); (case zu => k_caught0))
  with_reducible refine t_nil ?_
  with_reducible refine fl_next ?_
  with_reducible refine t_cons ?_
  with_reducible refine t_Return ?_
  ((with_reducible refine' t_local ?zhL ?zhN ?zhv ?zhx ?zhk ?zhd ?_); (case zhx => kernel_rfl!); (case zhN => top_name); (case zhL => rfl); (case zhv => top_name); (case zhk => rfl); (case zhd => decide +kernel))
  with_reducible refine fl_ret ?_
  simp only [List.nil_append, List.cons_append]
  exact ⟨_, by k_caught0, _, rfl, h _ _ _ _⟩
end Mine
open PySem PySem.W PySem.W.X PyProof.Rows PySem.Calls PySem.Builtin.ObjectAttr
set_option maxRecDepth 100000
set_option Elab.async false
set_option autoImplicit false
set_option linter.unusedVariables false
set_option maxHeartbeats 4000000
namespace Mine
local macro_rules | `(tactic| top_name) => `(tactic| first | (with_reducible exact List.mem_cons_self) | (with_reducible refine List.mem_cons_of_mem _ ?_; top_name) | (with_reducible assumption))
local macro_rules | `(tactic| k_caught0) => `(tactic| first
  | (with_reducible exact LUpd.head) | (with_reducible exact LSet.nil) | (with_reducible exact LSet.head) | (with_reducible exact Rem.head) | (with_reducible exact Pick.refl)
  | ((with_reducible apply LUpd.tail); (k_caught0))
  | ((with_reducible apply LSet.tail); (· (decide +kernel)); (k_caught0))
  | ((with_reducible apply Rem.tail); (k_caught0))
  | ((with_reducible apply Pick.cons); (· k_caught0); (k_caught0))
  | ((with_reducible apply Pick.drop); (k_caught0)))
local macro_rules | `(tactic| top_raise) => `(tactic| first | (with_reducible refine Kn.row' ?_; top_name) | (with_reducible refine Kn.fz' ?_; with_reducible assumption) | (with_reducible assumption) | ((with_reducible refine Kn.skip ?_); top_raise))
local macro_rules | `(tactic| k_caughtN0) => `(tactic| first | assumption | (exact Rm.le (by assumption) (by decide)) | ((refine Rm.dp ?_); k_caughtN0) | ((refine Rm.mk' ?_); k_caughtN0) | (refine Rm.le (Rm.over (n := 40) (Rm.le (by assumption) (by decide)) (by first | exact Quiet.ok (by assumption) | exact fsOk_while (Quiet.ok (by assumption)))) (by decide)))
local macro_rules | `(tactic| k_caughtB) => `(tactic| first | exact Strs.nil | ((apply Strs.cons); k_caughtB) | assumption)
local macro_rules | `(tactic| top_strB) => `(tactic| with_reducible first | exact bl_len | exact bl_isinstance | exact bl_type | exact bl_list | exact bl_tuple | exact bl_range | exact bl_str | exact bl_int | exact bl_abs | exact bl_sum | exact bl_enumerate | exact bl_zip | exact bl_max | exact bl_min | exact bl_divmod | exact bl_callable)
local macro_rules | `(tactic| top_raise0) => `(tactic| with_reducible first | exact g_wall_ | exact g_TokenType_ | exact g_Token | exact g_Whitespace | exact g_Error | exact g_String | exact g_Number | exact g_ALIASES_ | exact g_string_to_tokentype | exact g_CS_ESCAPE | exact g_commonprefix | exact g_make_charset | exact g_pull_ | exact g_same_ | exact g_groupby | exact g_grouper_ | exact g_special_chars_map_ | exact g_escape | exact g_regex_opt_inner | exact g_regex_opt | exact g_Lexer | exact g_include | exact g_inherit_ | exact g_combined | exact g_PseudoMatch_ | exact g_default | exact g_words | exact g_nothing_ | exact g_inherit_place | exact g_merged_tokendefs | exact g_RegexLexerMeta | exact g_RegexLexer | exact g_PlainMatch | exact g_Plain | exact g_PlainLexer | exact g_law_rest_ | exact g_law_reads_ | exact g_law)
local macro_rules | `(tactic| top_argsB) => `(tactic| with_reducible first | exact bn_len | exact bn_isinstance | exact bn_type | exact bn_list | exact bn_tuple | exact bn_range | exact bn_str | exact bn_int | exact bn_abs | exact bn_sum | exact bn_enumerate | exact bn_zip | exact bn_max | exact bn_min | exact bn_divmod | exact bn_callable)
local macro_rules | `(tactic| top_reprB) => `(tactic| with_reducible first | exact ga_83 | exact mk_83 | exact bo_83 | exact le_83 | exact ga_624 | exact mk_624 | exact bo_624 | exact le_624 | exact ga_651 | exact mk_651 | exact bo_651 | exact le_651 | exact ga_672 | exact mk_672 | exact bo_672 | exact le_672 | exact in_83 | exact if_83 | exact in_624 | exact if_624 | exact in_651 | exact if_651 | exact in_672 | exact if_672 | exact df_672_get_tokendefs | exact df_672_process_tokendef | exact df_672_process_state_ | exact df_672_process_regex_ | exact df_672_process_token_ | exact df_672_process_new_state_ | exact df_672_get_tokens_unprocessed | exact df_624_group | exact df_624_end | exact df_83_child | exact ni_str_TokenType_ | exact ni_str_combined | exact ni_tuple_inherit_ | exact ni_tuple_include | exact ni_tuple_default | exact ni_tuple_combined | exact ni_int_combined)
local macro_rules | `(tactic| top_caughtB) => `(tactic| with_reducible first | exact fl_83_names | exact fl_624_place | exact fl_624_pieces | exact fl_651_rows | exact fl_672_options | exact fl_672_stripnl | exact fl_672_stripall | exact fl_672_ensurenl | exact fl_672_filters | exact fl_672_tables | exact fl_672_all_tokens_ | exact fl_672_tmpname_ | exact fl_672_tokens_)
local macro_rules | `(tactic| top_raiseB) => `(tactic| with_reducible first | exact st_83_names | exact st_624_place | exact st_624_pieces | exact st_651_rows | exact st_672_options | exact st_672_stripnl | exact st_672_stripall | exact st_672_ensurenl | exact st_672_filters | exact st_672_tables | exact st_672_all_tokens_ | exact st_672_tmpname_ | exact st_672_tokens_)
local macro_rules | `(tactic| k_caughtNB) => `(tactic| with_reducible first | exact callee_bltin | exact callee_type | exact cal_83 | exact cal_624 | exact cal_651 | exact cal_672 | exact cal_621 | exact cal_615 | exact cal_648 | exact cal_73 | exact cal_115 | exact cal_494 | exact cal_501 | exact cal_551 | exact cal_544 | exact cal_536 | exact cal_669 | exact cal_522 | exact cal_529 | exact cal_580 | exact cal_278 | exact cal_682 | exact cal_687)

local macro_rules | `(tactic| top_raise) => `(tactic| with_reducible first | exact kn_89 | exact kn_88 | exact kn_90 | exact kn_108)

variable {w : World} {mg mb : Str → Option Value} {O : OsState} {A : Around} {F : PH} {N : List (Addr × OD)} {G : Array GenState}


theorem sp_LexInit {x d : Addr} (hA : Rm A 30) (R : Value → Led → Prop) (h : ∀ o fl, R .none ⟨F, (x, .inst 672 d) :: (d, .fld [("options", .ref o), ("stripnl", .bool true), ("stripall", .bool false), ("ensurenl", .bool true), ("filters", .ref fl)]) :: (o, .dic []) :: (fl, .lst []) :: N, G⟩) :
   Cl (cx w mg mb O) A ⟨F, (x, .inst 672 d) :: (d, .fld []) :: N, G⟩ (.call (.ref 278) ⟨[.ref x], []⟩) (Rv R) := by
  refine cl_defB rfl (by kernel_rfl!) hA.room rfl rfl (n := 0) (by rfl) ?_
  refine t_bindK (fun t => [("self", .ref x), ("options", t)]) (by rfl) fun o => ?_
  with_reducible refine opn ?_
  intro _
  with_reducible refine cells0 ?_
  with_reducible refine trB_cons ?_
  ((with_reducible refine' t_store ?zhL ?zu ?zhN ?zhl ?zhx ?zhk ?_); (case zhx => kernel_rfl!); (case zhN => top_name); (case zhL => rfl); (case zhl => k_caught0); (case zu => k_caught0); (case zhk => rfl))
  with_reducible refine trB_cons ?_
  ((with_reducible refine' t_store ?zhL ?zu ?zhN ?zhl ?zhx ?zhk ?_); (case zhx => kernel_rfl!); (case zhN => top_name); (case zhL => rfl); (case zhl => k_caught0); (case zu => k_caught0); (case zhk => rfl))
  with_reducible refine trB_nil ?_
  with_reducible refine t_cons ?_
  ((with_reducible refine t_AssignAttr ?_ ?zhs); (case zhs => rfl))
  ((with_reducible refine' t_local ?zhL ?zhN ?zhv ?zhx ?zhk ?zhd ?_); (case zhx => kernel_rfl!); (case zhN => top_name); (case zhL => rfl); (case zhv => top_name); (case zhk => rfl); (case zhd => decide +kernel))
  ((with_reducible refine' t_local ?zhL ?zhN ?zhv ?zhx ?zhk ?zhd ?_); (case zhx => kernel_rfl!); (case zhN => top_name); (case zhL => rfl); (case zhv => top_name); (case zhk => rfl); (case zhd => decide +kernel))
  ((with_reducible refine' t_setattr ?zhx ?zhd ?zhf ?zhl ?zu ?zhz ?_); (case zhx => top_raise); (case zhd => top_name); (case zhl => k_caught0); (case zu => k_caught0); (case zhf => top_raiseB); (case zhz => simp))
  with_reducible refine fl_next ?_
  with_reducible refine t_cons ?_
  ((with_reducible refine t_AssignAttr ?_ ?zhs); (case zhs => rfl))
  ((with_reducible refine' t_MCall ?_ ?zhe); (case zhe => rfl))
  ((with_reducible refine' t_local ?zhL ?zhN ?zhv ?zhx ?zhk ?zhd ?_); (case zhx => kernel_rfl!); (case zhN => top_name); (case zhL => rfl); (case zhv => top_name); (case zhk => rfl); (case zhd => decide +kernel))
  ((with_reducible refine' md_get ?zha ?_); (case zha => top_raise))
  with_reducible refine mc ?_
  with_reducible refine t_callWithP ?_
  ((with_reducible refine t_evalArgs ?_ ?zhe); (case zhe => rfl))
  ((with_reducible refine t_args ?_ ?zhe); (case zhe => rfl))
  ((with_reducible refine t_str ?_); (intro _))
  ((with_reducible refine t_args ?_ ?zhe); (case zhe => rfl))
  with_reducible refine t_bool ?_
  with_reducible refine t_args0 ?_
  ((with_reducible refine cp1 ?zhc ?_); (case zhc => k_caughtNB))
  ((with_reducible refine' t_dictGet0 ?zha ?_); (case zha => top_raise))
  ((with_reducible refine' t_local ?zhL ?zhN ?zhv ?zhx ?zhk ?zhd ?_); (case zhx => kernel_rfl!); (case zhN => top_name); (case zhL => rfl); (case zhv => top_name); (case zhk => rfl); (case zhd => decide +kernel))
  ((with_reducible refine' t_setattr ?zhx ?zhd ?zhf ?zhl ?zu ?zhz ?_); (case zhx => top_raise); (case zhd => top_name); (case zhl => k_caught0); (case zu => k_caught0); (case zhf => top_raiseB); (case zhz => simp))
  with_reducible refine fl_next ?_
  with_reducible refine t_cons ?_
  ((with_reducible refine t_AssignAttr ?_ ?zhs); (case zhs => rfl))
  ((with_reducible refine' t_MCall ?_ ?zhe); (case zhe => rfl))
  ((with_reducible refine' t_local ?zhL ?zhN ?zhv ?zhx ?zhk ?zhd ?_); (case zhx => kernel_rfl!); (case zhN => top_name); (case zhL => rfl); (case zhv => top_name); (case zhk => rfl); (case zhd => decide +kernel))
  ((with_reducible refine' md_get ?zha ?_); (case zha => top_raise))
  with_reducible refine mc ?_
  with_reducible refine t_callWithP ?_
  ((with_reducible refine t_evalArgs ?_ ?zhe); (case zhe => rfl))
  ((with_reducible refine t_args ?_ ?zhe); (case zhe => rfl))
  ((with_reducible refine t_str ?_); (intro _))
  ((with_reducible refine t_args ?_ ?zhe); (case zhe => rfl))
  with_reducible refine t_bool ?_
  with_reducible refine t_args0 ?_
  ((with_reducible refine cp1 ?zhc ?_); (case zhc => k_caughtNB))
  ((with_reducible refine' t_dictGet0 ?zha ?_); (case zha => top_raise))
  ((with_reducible refine' t_local ?zhL ?zhN ?zhv ?zhx ?zhk ?zhd ?_); (case zhx => kernel_rfl!); (case zhN => top_name); (case zhL => rfl); (case zhv => top_name); (case zhk => rfl); (case zhd => decide +kernel))
  ((with_reducible refine' t_setattr ?zhx ?zhd ?zhf ?zhl ?zu ?zhz ?_); (case zhx => top_raise); (case zhd => top_name); (case zhl => k_caught0); (case zu => k_caught0); (case zhf => top_raiseB); (case zhz => simp))
  with_reducible refine fl_next ?_
  with_reducible refine t_cons ?_
  ((with_reducible refine t_AssignAttr ?_ ?zhs); (case zhs => rfl))
  ((with_reducible refine' t_MCall ?_ ?zhe); (case zhe => rfl))
  ((with_reducible refine' t_local ?zhL ?zhN ?zhv ?zhx ?zhk ?zhd ?_); (case zhx => kernel_rfl!); (case zhN => top_name); (case zhL => rfl); (case zhv => top_name); (case zhk => rfl); (case zhd => decide +kernel))
  ((with_reducible refine' md_get ?zha ?_); (case zha => top_raise))
  with_reducible refine mc ?_
  with_reducible refine t_callWithP ?_
  ((with_reducible refine t_evalArgs ?_ ?zhe); (case zhe => rfl))
  ((with_reducible refine t_args ?_ ?zhe); (case zhe => rfl))
  ((with_reducible refine t_str ?_); (intro _))
  ((with_reducible refine t_args ?_ ?zhe); (case zhe => rfl))
  with_reducible refine t_bool ?_
  with_reducible refine t_args0 ?_
  ((with_reducible refine cp1 ?zhc ?_); (case zhc => k_caughtNB))
  ((with_reducible refine' t_dictGet0 ?zha ?_); (case zha => top_raise))
  ((with_reducible refine' t_local ?zhL ?zhN ?zhv ?zhx ?zhk ?zhd ?_); (case zhx => kernel_rfl!); (case zhN => top_name); (case zhL => rfl); (case zhv => top_name); (case zhk => rfl); (case zhd => decide +kernel))
  ((with_reducible refine' t_setattr ?zhx ?zhd ?zhf ?zhl ?zu ?zhz ?_); (case zhx => top_raise); (case zhd => top_name); (case zhl => k_caught0); (case zu => k_caught0); (case zhf => top_raiseB); (case zhz => simp))
  with_reducible refine fl_next ?_
  with_reducible refine t_cons ?_
  ((with_reducible refine t_AssignAttr ?_ ?zhs); (case zhs => rfl))
  with_reducible refine t_List ?_
  with_reducible refine t_args0 ?_
  ((with_reducible refine t_newList ?zhz ?_); (case zhz => simp [sizeLine]))
  intro _
  ((with_reducible refine' t_local ?zhL ?zhN ?zhv ?zhx ?zhk ?zhd ?_); (case zhx => kernel_rfl!); (case zhN => top_name); (case zhL => rfl); (case zhv => top_name); (case zhk => rfl); (case zhd => decide +kernel))
  ((with_reducible refine' t_setattr ?zhx ?zhd ?zhf ?zhl ?zu ?zhz ?_); (case zhx => top_raise); (case zhd => top_name); (case zhl => k_caught0); (case zu => k_caught0); (case zhf => top_raiseB); (case zhz => simp))
  with_reducible refine fl_next ?_
  with_reducible refine t_cons ?_
  ((with_reducible refine t_For ?_ ?zhs); (case zhs => exact fun _ => rfl))
  ((with_reducible refine' t_MCall ?_ ?zhe); (case zhe => rfl))
  ((with_reducible refine' t_local ?zhL ?zhN ?zhv ?zhx ?zhk ?zhd ?_); (case zhx => kernel_rfl!); (case zhN => top_name); (case zhL => rfl); (case zhv => top_name); (case zhk => rfl); (case zhd => decide +kernel))
  ((with_reducible refine' md_get ?zha ?_); (case zha => top_raise))
  with_reducible refine mc ?_
  with_reducible refine t_callWithP ?_
  ((with_reducible refine t_evalArgs ?_ ?zhe); (case zhe => rfl))
  ((with_reducible refine t_args ?_ ?zhe); (case zhe => rfl))
  ((with_reducible refine t_str ?_); (intro _))
  ((with_reducible refine t_args ?_ ?zhe); (case zhe => rfl))
  with_reducible refine t_Tuple ?_
  with_reducible refine t_args0 ?_
  ((with_reducible refine t_newTuple ?zhz ?_); (case zhz => decide))
  intro _
  with_reducible refine t_args0 ?_
  ((with_reducible refine cp1 ?zhc ?_); (case zhc => k_caughtNB))
  ((with_reducible refine' t_dictGet0 ?zha ?_); (case zha => top_raise))
  ((with_reducible refine' t_iterTup ?zha ?_); (case zha => top_raise); (intro _))
  with_reducible refine cl_for1 ?_
  ((with_reducible refine' t_nextTupEnd ?zhh ?zhi ?zha ?zhv ?zu ?_); (case zhh => (refine Rm.hd (n := 0) ?_; k_caughtN0)); (case zhi => top_name); (case zha => top_raise); (case zhv => simp); (case zu => k_caught0))
  with_reducible refine t_nil ?_
  with_reducible refine fl_next ?_
  with_reducible refine t_nil ?_
  exact ⟨_, by k_caught0, _, rfl, h _ _⟩
end Mine
open PySem PySem.W PySem.W.X PyProof.Rows PySem.Calls PySem.Builtin.ObjectAttr
set_option maxRecDepth 100000
set_option Elab.async false
set_option autoImplicit false
set_option linter.unusedVariables false
set_option maxHeartbeats 4000000
namespace Mine
local macro_rules | `(tactic| top_name) => `(tactic| first | (with_reducible exact List.mem_cons_self) | (with_reducible refine List.mem_cons_of_mem _ ?_; top_name) | (with_reducible assumption))
local macro_rules | `(tactic| k_caught0) => `(tactic| first
  | (with_reducible exact LUpd.head) | (with_reducible exact LSet.nil) | (with_reducible exact LSet.head) | (with_reducible exact Rem.head) | (with_reducible exact Pick.refl)
  | ((with_reducible apply LUpd.tail); (k_caught0))
  | ((with_reducible apply LSet.tail); (· (decide +kernel)); (k_caught0))
  | ((with_reducible apply Rem.tail); (k_caught0))
  | ((with_reducible apply Pick.cons); (· k_caught0); (k_caught0))
  | ((with_reducible apply Pick.drop); (k_caught0)))
local macro_rules | `(tactic| top_raise) => `(tactic| first | (with_reducible refine Kn.row' ?_; top_name) | (with_reducible refine Kn.fz' ?_; with_reducible assumption) | (with_reducible assumption) | ((with_reducible refine Kn.skip ?_); top_raise))
local macro_rules | `(tactic| k_caughtN0) => `(tactic| first | assumption | (exact Rm.le (by assumption) (by decide)) | ((refine Rm.dp ?_); k_caughtN0) | ((refine Rm.mk' ?_); k_caughtN0) | (refine Rm.le (Rm.over (n := 40) (Rm.le (by assumption) (by decide)) (by first | exact Quiet.ok (by assumption) | exact fsOk_while (Quiet.ok (by assumption)))) (by decide)))
local macro_rules | `(tactic| k_caughtB) => `(tactic| first | exact Strs.nil | ((apply Strs.cons); k_caughtB) | assumption)
local macro_rules | `(tactic| top_strB) => `(tactic| with_reducible first | exact bl_len | exact bl_isinstance | exact bl_type | exact bl_list | exact bl_tuple | exact bl_range | exact bl_str | exact bl_int | exact bl_abs | exact bl_sum | exact bl_enumerate | exact bl_zip | exact bl_max | exact bl_min | exact bl_divmod | exact bl_callable)
local macro_rules | `(tactic| top_raise0) => `(tactic| with_reducible first | exact g_wall_ | exact g_TokenType_ | exact g_Token | exact g_Whitespace | exact g_Error | exact g_String | exact g_Number | exact g_ALIASES_ | exact g_string_to_tokentype | exact g_CS_ESCAPE | exact g_commonprefix | exact g_make_charset | exact g_pull_ | exact g_same_ | exact g_groupby | exact g_grouper_ | exact g_special_chars_map_ | exact g_escape | exact g_regex_opt_inner | exact g_regex_opt | exact g_Lexer | exact g_include | exact g_inherit_ | exact g_combined | exact g_PseudoMatch_ | exact g_default | exact g_words | exact g_nothing_ | exact g_inherit_place | exact g_merged_tokendefs | exact g_RegexLexerMeta | exact g_RegexLexer | exact g_PlainMatch | exact g_Plain | exact g_PlainLexer | exact g_law_rest_ | exact g_law_reads_ | exact g_law)
local macro_rules | `(tactic| top_argsB) => `(tactic| with_reducible first | exact bn_len | exact bn_isinstance | exact bn_type | exact bn_list | exact bn_tuple | exact bn_range | exact bn_str | exact bn_int | exact bn_abs | exact bn_sum | exact bn_enumerate | exact bn_zip | exact bn_max | exact bn_min | exact bn_divmod | exact bn_callable)
local macro_rules | `(tactic| top_reprB) => `(tactic| with_reducible first | exact ga_83 | exact mk_83 | exact bo_83 | exact le_83 | exact ga_624 | exact mk_624 | exact bo_624 | exact le_624 | exact ga_651 | exact mk_651 | exact bo_651 | exact le_651 | exact ga_672 | exact mk_672 | exact bo_672 | exact le_672 | exact in_83 | exact if_83 | exact in_624 | exact if_624 | exact in_651 | exact if_651 | exact in_672 | exact if_672 | exact df_672_get_tokendefs | exact df_672_process_tokendef | exact df_672_process_state_ | exact df_672_process_regex_ | exact df_672_process_token_ | exact df_672_process_new_state_ | exact df_672_get_tokens_unprocessed | exact df_624_group | exact df_624_end | exact df_83_child | exact ni_str_TokenType_ | exact ni_str_combined | exact ni_tuple_inherit_ | exact ni_tuple_include | exact ni_tuple_default | exact ni_tuple_combined | exact ni_int_combined)
local macro_rules | `(tactic| top_caughtB) => `(tactic| with_reducible first | exact fl_83_names | exact fl_624_place | exact fl_624_pieces | exact fl_651_rows | exact fl_672_options | exact fl_672_stripnl | exact fl_672_stripall | exact fl_672_ensurenl | exact fl_672_filters | exact fl_672_tables | exact fl_672_all_tokens_ | exact fl_672_tmpname_ | exact fl_672_tokens_)
local macro_rules | `(tactic| top_raiseB) => `(tactic| with_reducible first | exact st_83_names | exact st_624_place | exact st_624_pieces | exact st_651_rows | exact st_672_options | exact st_672_stripnl | exact st_672_stripall | exact st_672_ensurenl | exact st_672_filters | exact st_672_tables | exact st_672_all_tokens_ | exact st_672_tmpname_ | exact st_672_tokens_)
local macro_rules | `(tactic| k_caughtNB) => `(tactic| with_reducible first | exact callee_bltin | exact callee_type | exact cal_83 | exact cal_624 | exact cal_651 | exact cal_672 | exact cal_621 | exact cal_615 | exact cal_648 | exact cal_73 | exact cal_115 | exact cal_494 | exact cal_501 | exact cal_551 | exact cal_544 | exact cal_536 | exact cal_669 | exact cal_522 | exact cal_529 | exact cal_580 | exact cal_278 | exact cal_682 | exact cal_687)

local macro_rules | `(tactic| top_raise) => `(tactic| with_reducible first | exact kn_89 | exact kn_88 | exact kn_90 | exact kn_108)

variable {w : World} {mg mb : Str → Option Value} {O : OsState} {A : Around} {F : PH} {N : List (Addr × OD)} {G : Array GenState}

theorem sp_inh {ls : Addr} {vs : List Value} (hls : Kn (cx w mg mb O) ⟨F, N, G⟩ ls (.lst vs)) (hvs : FzT w.params F vs) (hA : Rm A 30) (R : Value → Led → Prop) (h : R .none ⟨F, N, G⟩) :
   Cl (cx w mg mb O) A ⟨F, N, G⟩ (.call (.ref 494) ⟨[.ref ls], []⟩) (Rv R) := by
  refine cl_def' (binds := [("items", .ref ls)]) rfl (by kernel_rfl!) (by kernel_rfl!) hA.room rfl rfl (n := 0) (by rfl) ?_
  intro L
  with_reducible refine cells0 ?_
  with_reducible refine trB_cons ?_
  ((with_reducible refine' t_store ?zhL ?zu ?zhN ?zhl ?zhx ?zhk ?_); (case zhx => kernel_rfl!); (case zhN => top_name); (case zhL => rfl); (case zhl => k_caught0); (case zu => k_caught0); (case zhk => rfl))
  with_reducible refine trB_nil ?_
  with_reducible refine t_cons ?_
  ((with_reducible refine t_For ?_ ?zhs); (case zhs => exact fun _ => rfl))
  ((with_reducible refine t_Call ?_ ?zhe); (case zhe => rfl))
  ((with_reducible refine' t_bltin ?ze ?zhv ?zhn ?zhg ?zhb ?zhk ?zhx ?zhd ?_); (case zhv => top_strB); (case ze => top_argsB); (case zhn => decide +kernel); (case zhg => rfl); (case zhb => rfl); (case zhk => rfl); (case zhx => kernel_rfl!); (case zhd => decide +kernel))
  with_reducible refine t_callWithP ?_
  ((with_reducible refine t_evalArgs ?_ ?zhe); (case zhe => rfl))
  ((with_reducible refine t_args ?_ ?zhe); (case zhe => rfl))
  ((with_reducible refine' t_local ?zhL ?zhN ?zhv ?zhx ?zhk ?zhd ?_); (case zhx => kernel_rfl!); (case zhN => top_name); (case zhL => rfl); (case zhv => top_name); (case zhk => rfl); (case zhd => decide +kernel))
  with_reducible refine t_args0 ?_
  ((with_reducible refine cp0 ?zhc ?_); (case zhc => k_caughtNB))
  ((with_reducible refine' t_enumList ?zha ?_); (case zha => top_raise); (intro _ _))
  ((with_reducible refine' t_iterEnum ?zhe ?_); (case zhe => top_name))
  rename_i e it
  refine cl_ind (Inv := fun j l => ∃ (i : Nat) (old : Value), l = ⟨F, (e, enumO it i old) :: (it, itL ls i) :: (L, .ns [("items", .ref ls)]) :: N, G⟩ ∧ i + j = vs.length) ?_ vs.length _ ⟨0, .none, rfl, by omega⟩
  rintro j l IH ⟨i, old, rfl, hij⟩
  refine cl_for1 ?_
  rcases Nat.lt_or_ge i vs.length with hi | hi
  · obtain ⟨a, ws, hv, ha⟩ := hvs i _ (List.getElem?_eq_getElem hi)
    have hv' := List.getElem?_eq_getElem hi
    rw [hv] at hv'
    ((with_reducible refine' t_nextEnumL ?zr1 ?zr2 ?zha ?zhv ?_); (case zr1 => k_caught0); (case zr2 => k_caught0); (case zha => top_raise); (case zhv => exact hv'); (intro _ _))
    ((with_reducible refine' t_goTupE ?zhe ?zu ?_); (case zhe => top_name); (case zu => k_caught0))
    ((with_reducible refine' t_assignTup ?zhh ?zha ?zhe ?zhn ?_); (case zhh => (refine Rm.hd (n := 0) ?_; k_caughtN0)); (case zha => top_raise); (case zhe => rfl); (case zhn => rfl))
    with_reducible refine trA_cons ?_
    with_reducible refine t_assignName ?_
    ((with_reducible refine' t_store ?zhL ?zu ?zhN ?zhl ?zhx ?zhk ?_); (case zhx => kernel_rfl!); (case zhN => top_name); (case zhL => rfl); (case zhl => k_caught0); (case zu => k_caught0); (case zhk => rfl))
    with_reducible refine trA_cons ?_
    with_reducible refine t_assignName ?_
    ((with_reducible refine' t_store ?zhL ?zu ?zhN ?zhl ?zhx ?zhk ?_); (case zhx => kernel_rfl!); (case zhN => top_name); (case zhL => rfl); (case zhl => k_caught0); (case zu => k_caught0); (case zhk => rfl))
    with_reducible refine trA_nil ?_
    with_reducible refine t_cons ?_
    with_reducible refine t_If ?_
    ((with_reducible refine t_isVal ?_ ?zhe); (case zhe => rfl))
    ((with_reducible refine t_Call ?_ ?zhe); (case zhe => rfl))
    ((with_reducible refine' t_bltin ?ze ?zhv ?zhn ?zhg ?zhb ?zhk ?zhx ?zhd ?_); (case zhv => top_strB); (case ze => top_argsB); (case zhn => decide +kernel); (case zhg => rfl); (case zhb => rfl); (case zhk => rfl); (case zhx => kernel_rfl!); (case zhd => decide +kernel))
    with_reducible refine t_callWithP ?_
    ((with_reducible refine t_evalArgs ?_ ?zhe); (case zhe => rfl))
    ((with_reducible refine t_args ?_ ?zhe); (case zhe => rfl))
    ((with_reducible refine' t_local ?zhL ?zhN ?zhv ?zhx ?zhk ?zhd ?_); (case zhx => kernel_rfl!); (case zhN => top_name); (case zhL => rfl); (case zhv => top_name); (case zhk => rfl); (case zhd => decide +kernel))
    ((with_reducible refine t_args ?_ ?zhe); (case zhe => rfl))
    ((with_reducible refine' t_glob ?ze ?zhg ?zhk ?zhx ?zhd ?_); (case ze => top_raise0); (case zhg => rfl); (case zhk => rfl); (case zhx => kernel_rfl!); (case zhd => decide +kernel))
    with_reducible refine t_args0 ?_
    ((with_reducible refine cp0 ?zhc ?_); (case zhc => k_caughtNB))
    ((with_reducible refine' tin_tupF ?zha ?zhe ?_); (case zha => top_raise); (case zhe => top_reprB))
    with_reducible refine tt_bool ?_
    with_reducible refine if_f ?_
    with_reducible refine t_nil ?_
    with_reducible refine fl_next ?_
    with_reducible refine t_nil ?_
    with_reducible refine tu_next ?_
    exact cl_fix (by k_caught0) (by k_caught0) (by k_caught0) (IH (vs.length - (i + 1)) (by omega) _ ⟨i + 1, _, rfl, by omega⟩)
  · ((with_reducible refine' t_nextEnumLEnd ?zhh ?zr1 ?zr2 ?zha ?zhv ?_); (case zhh => (refine Rm.hd (n := 0) ?_; k_caughtN0)); (case zr1 => k_caught0); (case zr2 => k_caught0); (case zha => top_raise); (case zhv => exact hi))
    with_reducible refine t_nil ?_
    with_reducible refine fl_next ?_
    with_reducible refine t_cons ?_
    with_reducible refine t_Return ?_
    with_reducible refine t_none ?_
    with_reducible refine fl_ret ?_
    exact ⟨_, by k_caught0, _, rfl, h⟩
theorem sp_merge {tt td : Addr} {kvs : List (Str × Value)} {ep : Nat} (htt : Kn (cx w mg mb O) ⟨F, N, G⟩ tt (.tup [.ref td])) (htd : FzD w.params F td kvs ep) (hsrc : SrcOk w.params F kvs) (hz : kvs.length ≤ 1000) (hA : Rm A 60) (R : Value → Led → Prop)
    (h : ∀ F' tk acc, F.le F' → acc.length = kvs.length → Cop w.params F' kvs acc → R (.ref tk) ⟨F', (tk, .dic acc) :: N, G⟩) :
   Cl (cx w mg mb O) A ⟨F, N, G⟩ (.call (.ref 501) ⟨[.ref tt], []⟩) (Rv R) := by
  refine cl_def' (binds := [("tables", .ref tt)]) rfl (by kernel_rfl!) (by kernel_rfl!) hA.room rfl rfl (n := 0) (by rfl) ?_
  intro L
  have htd' := htd.fz
  with_reducible refine cells0 ?_
  with_reducible refine trB_cons ?_
  ((with_reducible refine' t_store ?zhL ?zu ?zhN ?zhl ?zhx ?zhk ?_); (case zhx => kernel_rfl!); (case zhN => top_name); (case zhL => rfl); (case zhl => k_caught0); (case zu => k_caught0); (case zhk => rfl))
  with_reducible refine trB_nil ?_
  with_reducible refine t_cons ?_
  ((with_reducible refine t_AssignName ?_ ?zhs); (case zhs => rfl))
  ((with_reducible refine t_Dict0 ?_); (intro _))
  ((with_reducible refine' t_store ?zhL ?zu ?zhN ?zhl ?zhx ?zhk ?_); (case zhx => kernel_rfl!); (case zhN => top_name); (case zhL => rfl); (case zhl => k_caught0); (case zu => k_caught0); (case zhk => rfl))
  with_reducible refine fl_next ?_
  with_reducible refine t_cons ?_
  ((with_reducible refine t_AssignName ?_ ?zhs); (case zhs => rfl))
  ((with_reducible refine t_Dict0 ?_); (intro _))
  ((with_reducible refine' t_store ?zhL ?zu ?zhN ?zhl ?zhx ?zhk ?_); (case zhx => kernel_rfl!); (case zhN => top_name); (case zhL => rfl); (case zhl => k_caught0); (case zu => k_caught0); (case zhk => rfl))
  with_reducible refine fl_next ?_
  with_reducible refine t_cons ?_
  ((with_reducible refine t_For ?_ ?zhs); (case zhs => exact fun _ => rfl))
  ((with_reducible refine' t_local ?zhL ?zhN ?zhv ?zhx ?zhk ?zhd ?_); (case zhx => kernel_rfl!); (case zhN => top_name); (case zhL => rfl); (case zhv => top_name); (case zhk => rfl); (case zhd => decide +kernel))
  ((with_reducible refine' t_iterTup ?zha ?_); (case zha => top_raise); (intro _))
  rename_i tks inh it
  refine cl_for1 ?_
  ((with_reducible refine' t_nextTup ?zhi ?zha ?zhv ?zu ?_); (case zhi => top_name); (case zha => top_raise); (case zhv => rfl); (case zu => k_caught0))
  with_reducible refine t_goName ?_
  with_reducible refine t_assignName ?_
  ((with_reducible refine' t_store ?zhL ?zu ?zhN ?zhl ?zhx ?zhk ?_); (case zhx => kernel_rfl!); (case zhN => top_name); (case zhL => rfl); (case zhl => k_caught0); (case zu => k_caught0); (case zhk => rfl))
  with_reducible refine t_cons ?_
  ((with_reducible refine t_For ?_ ?zhs); (case zhs => exact fun _ => rfl))
  ((with_reducible refine' t_MCall ?_ ?zhe); (case zhe => rfl))
  ((with_reducible refine' t_local ?zhL ?zhN ?zhv ?zhx ?zhk ?zhd ?_); (case zhx => kernel_rfl!); (case zhN => top_name); (case zhL => rfl); (case zhv => top_name); (case zhk => rfl); (case zhd => decide +kernel))
  ((with_reducible refine' md_items ?zha ?_); (case zha => top_raise))
  with_reducible refine mc ?_
  with_reducible refine t_callWithP ?_
  with_reducible refine t_evalArgs0 ?_
  ((with_reducible refine cp1 ?zhc ?_); (case zhc => k_caughtNB))
  ((with_reducible refine' t_dictItems ?zha ?_); (case zha => top_raise); (intro _))
  ((with_reducible refine' t_iterItems ?zhv ?zha ?_); (case zhv => top_name); (case zha => assumption); (intro _))
  rename_i vw itd
  refine cl_fix (N2 := (itd, itD td 0 kvs.length ep .none .none) :: (it, itT tt 1) :: (tks, .dic []) :: (inh, .dic []) :: (L, .ns [("tables", .ref tt), ("tokens", .ref tks), ("inheritable", .ref inh), ("toks", .ref td)]) :: N) (by k_caught0) (by k_caught0) (by k_caught0) ?_
  refine cl_ind (Inv := fun j l => ∃ (F' : PH) (acc : List (Str × Value)) (ok ov : Value), l = ⟨F', (itd, itD td acc.length kvs.length ep ok ov) :: (it, itT tt 1) :: (tks, .dic acc) :: (inh, .dic []) :: (L, .ns [("tables", .ref tt), ("tokens", .ref tks), ("inheritable", .ref inh), ("toks", .ref td)]) :: N, G⟩ ∧ F.le F' ∧ acc.length + j = kvs.length ∧ Cop w.params F' kvs acc) ?_ kvs.length _ ⟨F, [], .none, .none, rfl, PH.le_refl F, by simp, Cop.nil⟩
  rintro j l IH ⟨F1, acc, ok, ov, rfl, hF1, hj, hcop⟩
  have htt1 := htt.le hF1
  refine cl_for1 ?_
  rcases Nat.lt_or_ge acc.length kvs.length with hi | hi
  · obtain ⟨k, v, hkv⟩ : ∃ k v, kvs[acc.length]? = some (k, v) := ⟨_, _, List.getElem?_eq_getElem hi⟩
    obtain ⟨a, vs, rfl, ha, hvs, hvz⟩ := hsrc _ _ _ hkv
    have ha1 := ha.mono hF1
    have hvs1 := hvs.mono hF1
    have hfr := fresh_key htd.nodup hcop.key hkv (Nat.le_refl _)
    have haz : acc.length ≤ 1000 := by omega
    ((with_reducible refine' t_nextItems ?zr ?zha ?zhv ?_); (case zr => k_caught0); (case zha => exact htd.mono hF1); (case zhv => exact hkv); (intro _ _))
    ((with_reducible refine' t_goTupD ?zhe ?zu ?_); (case zhe => top_name); (case zu => k_caught0))
    ((with_reducible refine' t_assignTup ?zhh ?zha ?zhe ?zhn ?_); (case zhh => (refine Rm.hd (n := 0) ?_; k_caughtN0)); (case zha => top_raise); (case zhe => rfl); (case zhn => rfl))
    with_reducible refine trA_cons ?_
    with_reducible refine t_assignName ?_
    ((with_reducible refine' t_store ?zhL ?zu ?zhN ?zhl ?zhx ?zhk ?_); (case zhx => kernel_rfl!); (case zhN => top_name); (case zhL => rfl); (case zhl => k_caught0); (case zu => k_caught0); (case zhk => rfl))
    with_reducible refine trA_cons ?_
    with_reducible refine t_assignName ?_
    ((with_reducible refine' t_store ?zhL ?zu ?zhN ?zhl ?zhx ?zhk ?_); (case zhx => kernel_rfl!); (case zhN => top_name); (case zhL => rfl); (case zhl => k_caught0); (case zu => k_caught0); (case zhk => rfl))
    with_reducible refine trA_nil ?_
    with_reducible refine t_cons ?_
    ((with_reducible refine t_AssignName ?_ ?zhs); (case zhs => rfl))
    ((with_reducible refine' t_MCall ?_ ?zhe); (case zhe => rfl))
    ((with_reducible refine' t_local ?zhL ?zhN ?zhv ?zhx ?zhk ?zhd ?_); (case zhx => kernel_rfl!); (case zhN => top_name); (case zhL => rfl); (case zhv => top_name); (case zhk => rfl); (case zhd => decide +kernel))
    ((with_reducible refine' md_get ?zha ?_); (case zha => top_raise))
    with_reducible refine mc ?_
    with_reducible refine t_callWithP ?_
    ((with_reducible refine t_evalArgs ?_ ?zhe); (case zhe => rfl))
    ((with_reducible refine t_args ?_ ?zhe); (case zhe => rfl))
    ((with_reducible refine' t_local ?zhL ?zhN ?zhv ?zhx ?zhk ?zhd ?_); (case zhx => kernel_rfl!); (case zhN => top_name); (case zhL => rfl); (case zhv => top_name); (case zhk => rfl); (case zhd => decide +kernel))
    with_reducible refine t_args0 ?_
    ((with_reducible refine cp1 ?zhc ?_); (case zhc => k_caughtNB))
    ((with_reducible refine' t_dictGetN ?zha ?zhv ?_); (case zha => top_raise); (case zhv => assumption))
    ((with_reducible refine' t_store ?zhL ?zu ?zhN ?zhl ?zhx ?zhk ?_); (case zhx => kernel_rfl!); (case zhN => top_name); (case zhL => rfl); (case zhl => k_caught0); (case zu => k_caught0); (case zhk => rfl))
    with_reducible refine fl_next ?_
    with_reducible refine t_cons ?_
    with_reducible refine t_If ?_
    ((with_reducible refine t_isCmp ?_ ?zhb); (case zhb => rfl))
    ((with_reducible refine' t_local ?zhL ?zhN ?zhv ?zhx ?zhk ?zhd ?_); (case zhx => kernel_rfl!); (case zhN => top_name); (case zhL => rfl); (case zhv => top_name); (case zhk => rfl); (case zhd => decide +kernel))
    with_reducible refine t_none ?_
    ((with_reducible refine tc_is ?zhp ?_); (case zhp => rfl))
    with_reducible refine tt_bool ?_
    ((with_reducible refine if_T ?ze ?_); (case ze => (first | rfl | decide)))
    with_reducible refine t_cons ?_
    ((with_reducible refine t_AssignSub ?_ ?zhs); (case zhs => rfl))
    ((with_reducible refine t_Call ?_ ?zhe); (case zhe => rfl))
    ((with_reducible refine' t_bltin ?ze ?zhv ?zhn ?zhg ?zhb ?zhk ?zhx ?zhd ?_); (case zhv => top_strB); (case ze => top_argsB); (case zhn => decide +kernel); (case zhg => rfl); (case zhb => rfl); (case zhk => rfl); (case zhx => kernel_rfl!); (case zhd => decide +kernel))
    with_reducible refine t_callWithP ?_
    ((with_reducible refine t_evalArgs ?_ ?zhe); (case zhe => rfl))
    ((with_reducible refine t_args ?_ ?zhe); (case zhe => rfl))
    ((with_reducible refine' t_local ?zhL ?zhN ?zhv ?zhx ?zhk ?zhd ?_); (case zhx => kernel_rfl!); (case zhN => top_name); (case zhL => rfl); (case zhv => top_name); (case zhk => rfl); (case zhd => decide +kernel))
    with_reducible refine t_args0 ?_
    ((with_reducible refine cp0 ?zhc ?_); (case zhc => k_caughtNB))
    ((with_reducible refine' t_listOfList ?zha ?zhz ?_); (case zha => top_raise); (case zhz => omega); (intro _))
    ((with_reducible refine' t_local ?zhL ?zhN ?zhv ?zhx ?zhk ?zhd ?_); (case zhx => kernel_rfl!); (case zhN => top_name); (case zhL => rfl); (case zhv => top_name); (case zhk => rfl); (case zhd => decide +kernel))
    ((with_reducible refine' t_local ?zhL ?zhN ?zhv ?zhx ?zhk ?zhd ?_); (case zhx => kernel_rfl!); (case zhN => top_name); (case zhL => rfl); (case zhv => top_name); (case zhk => rfl); (case zhd => decide +kernel))
    ((with_reducible refine' t_dictSetN ?zha ?zhv ?zu ?zhz ?_); (case zha => top_name); (case zhv => (first | assumption | rfl)); (case zu => k_caught0); (case zhz => (first | decide | (simp; done) | omega)))
    with_reducible refine fl_next ?_
    with_reducible refine t_cons ?_
    ((with_reducible refine t_AssignName ?_ ?zhs); (case zhs => rfl))
    ((with_reducible refine t_Call ?_ ?zhe); (case zhe => rfl))
    ((with_reducible refine' t_glob ?ze ?zhg ?zhk ?zhx ?zhd ?_); (case ze => top_raise0); (case zhg => rfl); (case zhk => rfl); (case zhx => kernel_rfl!); (case zhd => decide +kernel))
    with_reducible refine t_callWithP ?_
    ((with_reducible refine t_evalArgs ?_ ?zhe); (case zhe => rfl))
    ((with_reducible refine t_args ?_ ?zhe); (case zhe => rfl))
    ((with_reducible refine' t_local ?zhL ?zhN ?zhv ?zhx ?zhk ?zhd ?_); (case zhx => kernel_rfl!); (case zhN => top_name); (case zhL => rfl); (case zhv => top_name); (case zhk => rfl); (case zhd => decide +kernel))
    with_reducible refine t_args0 ?_
    ((with_reducible refine cp0 ?zhc ?_); (case zhc => k_caughtNB))
    ((with_reducible refine' tr_call (sp_inh ?zhl ?zhv ?zhA _ ?_)); (case zhl => top_raise); (case zhv => assumption); (case zhA => k_caughtN0))
    ((with_reducible refine' t_store ?zhL ?zu ?zhN ?zhl ?zhx ?zhk ?_); (case zhx => kernel_rfl!); (case zhN => top_name); (case zhL => rfl); (case zhl => k_caught0); (case zu => k_caught0); (case zhk => rfl))
    with_reducible refine fl_next ?_
    with_reducible refine t_cons ?_
    with_reducible refine t_If ?_
    ((with_reducible refine t_isCmp ?_ ?zhb); (case zhb => rfl))
    ((with_reducible refine' t_local ?zhL ?zhN ?zhv ?zhx ?zhk ?zhd ?_); (case zhx => kernel_rfl!); (case zhN => top_name); (case zhL => rfl); (case zhv => top_name); (case zhk => rfl); (case zhd => decide +kernel))
    with_reducible refine t_none ?_
    ((with_reducible refine tc_is ?zhp ?_); (case zhp => rfl))
    with_reducible refine tt_bool ?_
    ((with_reducible refine if_T ?ze ?_); (case ze => (first | rfl | decide)))
    with_reducible refine t_cons ?_
    ((with_reducible refine t_Continue ?_ ?zhs); (case zhs => rfl))
    with_reducible refine fl_cont ?_
    with_reducible refine fl_cont ?_
    with_reducible refine fl_cont ?_
    with_reducible refine tu_cont ?_
    rename_i tp tkk c
    refine cl_fix (N2 := (c, .lst vs) :: (itd, itD td (acc.length + 1) kvs.length ep (.str k tkk) (.ref a)) :: (it, itT tt 1) :: (tks, .dic (acc ++ [(k, .ref c)])) :: (inh, .dic []) :: (L, .ns [("tables", .ref tt), ("tokens", .ref tks), ("inheritable", .ref inh), ("toks", .ref td)]) :: N) (by k_caught0) (by k_caught0) (by k_caught0) ?_
    refine cl_freeze (by k_caught0) fun F2 hF2 hc => ?_
    have e : acc.length + 1 = (acc ++ [(k, Value.ref c)]).length := by simp
    rw [e]
    exact IH (kvs.length - (acc.length + 1)) (by omega) _ ⟨F2, _, _, _, rfl, PH.le_trans hF1 hF2, by simp; omega, (hcop.mono hF2).snoc hkv (ha1.mono hF2) hc⟩
  · ((with_reducible refine' t_nextItemsEnd ?zhh ?zr ?zha ?zhv ?_); (case zhh => (refine Rm.hd (n := 0) ?_; k_caughtN0)); (case zr => k_caught0); (case zha => exact htd.mono hF1); (case zhv => omega))
    with_reducible refine t_nil ?_
    with_reducible refine fl_next ?_
    with_reducible refine t_nil ?_
    with_reducible refine tu_next ?_
    refine cl_for1 ?_
    ((with_reducible refine' t_nextTupEnd ?zhh ?zhi ?zha ?zhv ?zu ?_); (case zhh => (refine Rm.hd (n := 0) ?_; k_caughtN0)); (case zhi => top_name); (case zha => top_raise); (case zhv => simp); (case zu => k_caught0))
    with_reducible refine t_nil ?_
    with_reducible refine fl_next ?_
    with_reducible refine t_cons ?_
    with_reducible refine t_Return ?_
    ((with_reducible refine' t_local ?zhL ?zhN ?zhv ?zhx ?zhk ?zhd ?_); (case zhx => kernel_rfl!); (case zhN => top_name); (case zhL => rfl); (case zhv => top_name); (case zhk => rfl); (case zhd => decide +kernel))
    with_reducible refine fl_ret ?_
    exact ⟨_, by k_caught0, _, rfl, h _ _ _ hF1 (by omega) hcop⟩
end Mine

open PySem PySem.W PySem.W.X PyProof.Rows PySem.Calls PySem.Builtin.ObjectAttr
set_option maxRecDepth 100000
set_option Elab.async false
set_option autoImplicit false
set_option linter.unusedVariables false
set_option maxHeartbeats 4000000
namespace Mine
local macro_rules | `(tactic| top_name) => `(tactic| first | (with_reducible exact List.mem_cons_self) | (with_reducible refine List.mem_cons_of_mem _ ?_; top_name) | (with_reducible assumption))
local macro_rules | `(tactic| k_caught0) => `(tactic| first
  | (with_reducible exact LUpd.head) | (with_reducible exact LSet.nil) | (with_reducible exact LSet.head) | (with_reducible exact Rem.head) | (with_reducible exact Pick.refl)
  | ((with_reducible apply LUpd.tail); (k_caught0))
  | ((with_reducible apply LSet.tail); (· (decide +kernel)); (k_caught0))
  | ((with_reducible apply Rem.tail); (k_caught0))
  | ((with_reducible apply Pick.cons); (· k_caught0); (k_caught0))
  | ((with_reducible apply Pick.drop); (k_caught0)))
local macro_rules | `(tactic| top_raise) => `(tactic| first | (with_reducible refine Kn.row' ?_; top_name) | (with_reducible refine Kn.fz' ?_; with_reducible assumption) | (with_reducible assumption) | ((with_reducible refine Kn.skip ?_); top_raise))
local macro_rules | `(tactic| k_caughtN0) => `(tactic| first | assumption | (exact Rm.le (by assumption) (by decide)) | ((refine Rm.dp ?_); k_caughtN0) | ((refine Rm.mk' ?_); k_caughtN0) | (refine Rm.le (Rm.over (n := 40) (Rm.le (by assumption) (by decide)) (by first | exact Quiet.ok (by assumption) | exact fsOk_while (Quiet.ok (by assumption)))) (by decide)))
local macro_rules | `(tactic| k_caughtB) => `(tactic| first | exact Strs.nil | ((apply Strs.cons); k_caughtB) | assumption)
local macro_rules | `(tactic| top_strB) => `(tactic| with_reducible first | exact bl_len | exact bl_isinstance | exact bl_type | exact bl_list | exact bl_tuple | exact bl_range | exact bl_str | exact bl_int | exact bl_abs | exact bl_sum | exact bl_enumerate | exact bl_zip | exact bl_max | exact bl_min | exact bl_divmod | exact bl_callable)
local macro_rules | `(tactic| top_raise0) => `(tactic| with_reducible first | exact g_wall_ | exact g_TokenType_ | exact g_Token | exact g_Whitespace | exact g_Error | exact g_String | exact g_Number | exact g_ALIASES_ | exact g_string_to_tokentype | exact g_CS_ESCAPE | exact g_commonprefix | exact g_make_charset | exact g_pull_ | exact g_same_ | exact g_groupby | exact g_grouper_ | exact g_special_chars_map_ | exact g_escape | exact g_regex_opt_inner | exact g_regex_opt | exact g_Lexer | exact g_include | exact g_inherit_ | exact g_combined | exact g_PseudoMatch_ | exact g_default | exact g_words | exact g_nothing_ | exact g_inherit_place | exact g_merged_tokendefs | exact g_RegexLexerMeta | exact g_RegexLexer | exact g_PlainMatch | exact g_Plain | exact g_PlainLexer | exact g_law_rest_ | exact g_law_reads_ | exact g_law)
local macro_rules | `(tactic| top_argsB) => `(tactic| with_reducible first | exact bn_len | exact bn_isinstance | exact bn_type | exact bn_list | exact bn_tuple | exact bn_range | exact bn_str | exact bn_int | exact bn_abs | exact bn_sum | exact bn_enumerate | exact bn_zip | exact bn_max | exact bn_min | exact bn_divmod | exact bn_callable)
local macro_rules | `(tactic| top_reprB) => `(tactic| with_reducible first | exact ga_83 | exact mk_83 | exact bo_83 | exact le_83 | exact ga_624 | exact mk_624 | exact bo_624 | exact le_624 | exact ga_651 | exact mk_651 | exact bo_651 | exact le_651 | exact ga_672 | exact mk_672 | exact bo_672 | exact le_672 | exact in_83 | exact if_83 | exact in_624 | exact if_624 | exact in_651 | exact if_651 | exact in_672 | exact if_672 | exact df_672_get_tokendefs | exact df_672_process_tokendef | exact df_672_process_state_ | exact df_672_process_regex_ | exact df_672_process_token_ | exact df_672_process_new_state_ | exact df_672_get_tokens_unprocessed | exact df_624_group | exact df_624_end | exact df_83_child | exact ni_str_TokenType_ | exact ni_str_combined | exact ni_tuple_inherit_ | exact ni_tuple_include | exact ni_tuple_default | exact ni_tuple_combined | exact ni_int_combined)
local macro_rules | `(tactic| top_caughtB) => `(tactic| with_reducible first | exact fl_83_names | exact fl_624_place | exact fl_624_pieces | exact fl_651_rows | exact fl_672_options | exact fl_672_stripnl | exact fl_672_stripall | exact fl_672_ensurenl | exact fl_672_filters | exact fl_672_tables | exact fl_672_all_tokens_ | exact fl_672_tmpname_ | exact fl_672_tokens_)
local macro_rules | `(tactic| top_raiseB) => `(tactic| with_reducible first | exact st_83_names | exact st_624_place | exact st_624_pieces | exact st_651_rows | exact st_672_options | exact st_672_stripnl | exact st_672_stripall | exact st_672_ensurenl | exact st_672_filters | exact st_672_tables | exact st_672_all_tokens_ | exact st_672_tmpname_ | exact st_672_tokens_)
local macro_rules | `(tactic| k_caughtNB) => `(tactic| with_reducible first | exact callee_bltin | exact callee_type | exact cal_83 | exact cal_624 | exact cal_651 | exact cal_672 | exact cal_621 | exact cal_615 | exact cal_648 | exact cal_73 | exact cal_115 | exact cal_494 | exact cal_501 | exact cal_551 | exact cal_544 | exact cal_536 | exact cal_669 | exact cal_522 | exact cal_529 | exact cal_580 | exact cal_278 | exact cal_682 | exact cal_687)

local macro_rules | `(tactic| top_raise) => `(tactic| with_reducible first | exact kn_89 | exact kn_88 | exact kn_90 | exact kn_108)

variable {w : World} {mg mb : Str → Option Value} {O : OsState} {A : Around} {F : PH} {N : List (Addr × OD)} {G : Array GenState}
/-- a lexer's fields while its table is made -/
abbrev lxF (o fl tt at_ : Addr) (tn : Tok) : List (Str × Value) := [("options", .ref o), ("stripnl", .bool true), ("stripall", .bool false), ("ensurenl", .bool true), ("filters", .ref fl), ("tables", .ref tt), ("_all_tokens", .ref at_), ("_tmpname", .int 0 tn)]
theorem sp_pregex {x pl d : Addr} {rf st rv : Value} (hpl : Kn (cx w mg mb O) ⟨F, N, G⟩ pl (.inst 651 d)) (hd : Kn (cx w mg mb O) ⟨F, N, G⟩ d (.fld [("rows", rv)])) (hA : Rm A 20) (R : Value → Led → Prop)
    (h : ∀ a, R (.ref a) ⟨F, (a, .raw (methodObj (.ref 648) (.ref pl))) :: N, G⟩) :
   Cl (cx w mg mb O) A ⟨F, N, G⟩ (.call (.ref 669) ⟨[.ref x, .ref pl, rf, st], []⟩) (Rv R) := by
  refine cl_def' (binds := [("cls", .ref x), ("regex", .ref pl), ("rflags", rf), ("state", st)]) rfl (by kernel_rfl!) (by kernel_rfl!) hA.room rfl rfl (n := 0) (by rfl) ?_
  intro L
  with_reducible refine cells0 ?_
  with_reducible refine trB_cons ?_
  ((with_reducible refine' t_store ?zhL ?zu ?zhN ?zhl ?zhx ?zhk ?_); (case zhx => kernel_rfl!); (case zhN => top_name); (case zhL => rfl); (case zhl => k_caught0); (case zu => k_caught0); (case zhk => rfl))
  with_reducible refine trB_cons ?_
  ((with_reducible refine' t_store ?zhL ?zu ?zhN ?zhl ?zhx ?zhk ?_); (case zhx => kernel_rfl!); (case zhN => top_name); (case zhL => rfl); (case zhl => k_caught0); (case zu => k_caught0); (case zhk => rfl))
  with_reducible refine trB_cons ?_
  ((with_reducible refine' t_store ?zhL ?zu ?zhN ?zhl ?zhx ?zhk ?_); (case zhx => kernel_rfl!); (case zhN => top_name); (case zhL => rfl); (case zhl => k_caught0); (case zu => k_caught0); (case zhk => rfl))
  with_reducible refine trB_cons ?_
  ((with_reducible refine' t_store ?zhL ?zu ?zhN ?zhl ?zhx ?zhk ?_); (case zhx => kernel_rfl!); (case zhN => top_name); (case zhL => rfl); (case zhl => k_caught0); (case zu => k_caught0); (case zhk => rfl))
  with_reducible refine trB_nil ?_
  with_reducible refine t_cons ?_
  with_reducible refine t_Return ?_
  ((with_reducible refine t_Attr ?_ ?zhe); (case zhe => rfl))
  ((with_reducible refine' t_local ?zhL ?zhN ?zhv ?zhx ?zhk ?zhd ?_); (case zhx => kernel_rfl!); (case zhN => top_name); (case zhL => rfl); (case zhv => top_name); (case zhk => rfl); (case zhd => decide +kernel))
  ((with_reducible refine' t_bound ?zhx ?zhd ?zhf ?zhg ?zhn ?_); (case zhx => top_raise); (case zhd => top_raise); (case zhf => exact bd_match); (case zhg => top_reprB); (case zhn => kernel_rfl!); (intro _))
  with_reducible refine fl_ret ?_
  exact ⟨_, by k_caught0, _, rfl, h _⟩
theorem sp_ptoken {x ty d : Addr} {fs : List (Str × Value)} (hty : Kn (cx w mg mb O) ⟨F, N, G⟩ ty (.inst 83 d)) (hd : Kn (cx w mg mb O) ⟨F, N, G⟩ d (.fld fs)) (hA : Rm A 20) (R : Value → Led → Prop)
    (h : R (.ref ty) ⟨F, N, G⟩) :
   Cl (cx w mg mb O) A ⟨F, N, G⟩ (.call (.ref 522) ⟨[.ref x, .ref ty], []⟩) (Rv R) := by
  refine cl_def' (binds := [("cls", .ref x), ("token", .ref ty)]) rfl (by kernel_rfl!) (by kernel_rfl!) hA.room rfl rfl (n := 0) (by rfl) ?_
  intro L
  with_reducible refine cells0 ?_
  with_reducible refine trB_cons ?_
  ((with_reducible refine' t_store ?zhL ?zu ?zhN ?zhl ?zhx ?zhk ?_); (case zhx => kernel_rfl!); (case zhN => top_name); (case zhL => rfl); (case zhl => k_caught0); (case zu => k_caught0); (case zhk => rfl))
  with_reducible refine trB_cons ?_
  ((with_reducible refine' t_store ?zhL ?zu ?zhN ?zhl ?zhx ?zhk ?_); (case zhx => kernel_rfl!); (case zhN => top_name); (case zhL => rfl); (case zhl => k_caught0); (case zu => k_caught0); (case zhk => rfl))
  with_reducible refine trB_nil ?_
  with_reducible refine t_cons ?_
  with_reducible refine t_Assert ?_
  with_reducible refine t_isOr ?_
  ((with_reducible refine t_isCmp ?_ ?zhb); (case zhb => rfl))
  ((with_reducible refine t_Call ?_ ?zhe); (case zhe => rfl))
  ((with_reducible refine' t_bltin ?ze ?zhv ?zhn ?zhg ?zhb ?zhk ?zhx ?zhd ?_); (case zhv => top_strB); (case ze => top_argsB); (case zhn => decide +kernel); (case zhg => rfl); (case zhb => rfl); (case zhk => rfl); (case zhx => kernel_rfl!); (case zhd => decide +kernel))
  with_reducible refine t_callWithP ?_
  ((with_reducible refine t_evalArgs ?_ ?zhe); (case zhe => rfl))
  ((with_reducible refine t_args ?_ ?zhe); (case zhe => rfl))
  ((with_reducible refine' t_local ?zhL ?zhN ?zhv ?zhx ?zhk ?zhd ?_); (case zhx => kernel_rfl!); (case zhN => top_name); (case zhL => rfl); (case zhv => top_name); (case zhk => rfl); (case zhd => decide +kernel))
  with_reducible refine t_args0 ?_
  ((with_reducible refine cp0 ?zhc ?_); (case zhc => k_caughtNB))
  ((with_reducible refine' ty_own ?zhx ?zhd ?_); (case zhx => top_raise); (case zhd => top_raise))
  ((with_reducible refine' t_glob ?ze ?zhg ?zhk ?zhx ?zhd ?_); (case ze => top_raise0); (case zhg => rfl); (case zhk => rfl); (case zhx => kernel_rfl!); (case zhd => decide +kernel))
  with_reducible refine tc_isRef ?_
  with_reducible refine tt_bool ?_
  with_reducible refine if_t ?_
  refine And.intro (by first | rfl | decide) ?_
  with_reducible refine fl_next ?_
  with_reducible refine t_cons ?_
  with_reducible refine t_Return ?_
  ((with_reducible refine' t_local ?zhL ?zhN ?zhv ?zhx ?zhk ?zhd ?_); (case zhx => kernel_rfl!); (case zhN => top_name); (case zhL => rfl); (case zhv => top_name); (case zhk => rfl); (case zhd => decide +kernel))
  with_reducible refine fl_ret ?_
  exact ⟨_, by k_caught0, _, rfl, h⟩
theorem sp_getdefs {x d tt td o fl at_ : Addr} {tn : Tok} {kvs : List (Str × Value)} {ep : Nat} (hx : Kn (cx w mg mb O) ⟨F, N, G⟩ x (.inst 672 d)) (hd : Kn (cx w mg mb O) ⟨F, N, G⟩ d (.fld (lxF o fl tt at_ tn))) (htt : Kn (cx w mg mb O) ⟨F, N, G⟩ tt (.tup [.ref td])) (htd : FzD w.params F td kvs ep) (hsrc : SrcOk w.params F kvs) (hz : kvs.length ≤ 1000) (hA : Rm A 70) (R : Value → Led → Prop)
    (h : ∀ F' tk acc, F.le F' → acc.length = kvs.length → Cop w.params F' kvs acc → R (.ref tk) ⟨F', (tk, .dic acc) :: N, G⟩) :
   Cl (cx w mg mb O) A ⟨F, N, G⟩ (.call (.ref 551) ⟨[.ref x], []⟩) (Rv R) := by
  refine cl_def' (binds := [("cls", .ref x)]) rfl (by kernel_rfl!) (by kernel_rfl!) hA.room rfl rfl (n := 0) (by rfl) ?_
  intro L
  with_reducible refine cells0 ?_
  with_reducible refine trB_cons ?_
  ((with_reducible refine' t_store ?zhL ?zu ?zhN ?zhl ?zhx ?zhk ?_); (case zhx => kernel_rfl!); (case zhN => top_name); (case zhL => rfl); (case zhl => k_caught0); (case zu => k_caught0); (case zhk => rfl))
  with_reducible refine trB_nil ?_
  with_reducible refine t_cons ?_
  with_reducible refine t_Return ?_
  ((with_reducible refine t_Call ?_ ?zhe); (case zhe => rfl))
  ((with_reducible refine' t_glob ?ze ?zhg ?zhk ?zhx ?zhd ?_); (case ze => top_raise0); (case zhg => rfl); (case zhk => rfl); (case zhx => kernel_rfl!); (case zhd => decide +kernel))
  with_reducible refine t_callWithP ?_
  ((with_reducible refine t_evalArgs ?_ ?zhe); (case zhe => rfl))
  ((with_reducible refine t_args ?_ ?zhe); (case zhe => rfl))
  ((with_reducible refine t_Attr ?_ ?zhe); (case zhe => rfl))
  ((with_reducible refine' t_local ?zhL ?zhN ?zhv ?zhx ?zhk ?zhd ?_); (case zhx => kernel_rfl!); (case zhN => top_name); (case zhL => rfl); (case zhv => top_name); (case zhk => rfl); (case zhd => decide +kernel))
  ((with_reducible refine' t_field ?zhx ?zhd ?zhv ?zhf ?zhg ?zhh ?_); (case zhx => top_raise); (case zhd => top_raise); (case zhv => top_name); (case zhf => top_caughtB); (case zhg => top_reprB); (case zhh => rfl))
  with_reducible refine t_args0 ?_
  ((with_reducible refine cp0 ?zhc ?_); (case zhc => k_caughtNB))
  ((with_reducible refine' tr_call (sp_merge ?zht ?zhd ?zhs ?zhz ?zhA _ ?_)); (case zht => top_raise); (case zhd => assumption); (case zhs => assumption); (case zhz => assumption); (case zhA => k_caughtN0); (intro _ _ _ _ _ _))
  with_reducible refine fl_ret ?_
  exact ⟨_, by k_caught0, _, rfl, h _ _ _ (by assumption) (by assumption) (by assumption)⟩
/-- what a rule's third part says -/
def SActT (P : Params) (F : PH) (kvs : List (Str × Value)) (v : Value) (ls : List Str) : Prop := ∃ a vs, v = .ref a ∧ Fz P F a (.tup vs) ∧ Strs ls vs ∧ ls.length ≤ 10 ∧ ∀ x ∈ ls, x = "#pop" ∨ (valueAt kvs x).isSome = true
theorem sp_pnsT {x up pr : Addr} {kvs : List (Str × Value)} {v : Value} {ls : List Str} (hup : Kn (cx w mg mb O) ⟨F, N, G⟩ up (.dic kvs)) (hv : SActT w.params F kvs v ls) (hA : Rm A 30) (R : Value → Led → Prop)
    (h : ActAt w.params F v (.go ls) → R v ⟨F, N, G⟩) :
   Cl (cx w mg mb O) A ⟨F, N, G⟩ (.call (.ref 529) ⟨[.ref x, v, .ref up, .ref pr], []⟩) (Rv R) := by
  obtain ⟨ta, tvs, rfl, hta, htv, hlz, hls⟩ := hv
  refine cl_def' (binds := [("cls", .ref x), ("new_state", .ref ta), ("unprocessed", .ref up), ("processed", .ref pr)]) rfl (by kernel_rfl!) (by kernel_rfl!) hA.room rfl rfl (n := 0) (by rfl) ?_
  intro L
  with_reducible refine cells0 ?_
  with_reducible refine trB_cons ?_
  ((with_reducible refine' t_store ?zhL ?zu ?zhN ?zhl ?zhx ?zhk ?_); (case zhx => kernel_rfl!); (case zhN => top_name); (case zhL => rfl); (case zhl => k_caught0); (case zu => k_caught0); (case zhk => rfl))
  with_reducible refine trB_cons ?_
  ((with_reducible refine' t_store ?zhL ?zu ?zhN ?zhl ?zhx ?zhk ?_); (case zhx => kernel_rfl!); (case zhN => top_name); (case zhL => rfl); (case zhl => k_caught0); (case zu => k_caught0); (case zhk => rfl))
  with_reducible refine trB_cons ?_
  ((with_reducible refine' t_store ?zhL ?zu ?zhN ?zhl ?zhx ?zhk ?_); (case zhx => kernel_rfl!); (case zhN => top_name); (case zhL => rfl); (case zhl => k_caught0); (case zu => k_caught0); (case zhk => rfl))
  with_reducible refine trB_cons ?_
  ((with_reducible refine' t_store ?zhL ?zu ?zhN ?zhl ?zhx ?zhk ?_); (case zhx => kernel_rfl!); (case zhN => top_name); (case zhL => rfl); (case zhl => k_caught0); (case zu => k_caught0); (case zhk => rfl))
  with_reducible refine trB_nil ?_
  with_reducible refine t_cons ?_
  with_reducible refine t_If ?_
  ((with_reducible refine t_isVal ?_ ?zhe); (case zhe => rfl))
  ((with_reducible refine t_Call ?_ ?zhe); (case zhe => rfl))
  ((with_reducible refine' t_bltin ?ze ?zhv ?zhn ?zhg ?zhb ?zhk ?zhx ?zhd ?_); (case zhv => top_strB); (case ze => top_argsB); (case zhn => decide +kernel); (case zhg => rfl); (case zhb => rfl); (case zhk => rfl); (case zhx => kernel_rfl!); (case zhd => decide +kernel))
  with_reducible refine t_callWithP ?_
  ((with_reducible refine t_evalArgs ?_ ?zhe); (case zhe => rfl))
  ((with_reducible refine t_args ?_ ?zhe); (case zhe => rfl))
  ((with_reducible refine' t_local ?zhL ?zhN ?zhv ?zhx ?zhk ?zhd ?_); (case zhx => kernel_rfl!); (case zhN => top_name); (case zhL => rfl); (case zhv => top_name); (case zhk => rfl); (case zhd => decide +kernel))
  ((with_reducible refine t_args ?_ ?zhe); (case zhe => rfl))
  ((with_reducible refine' t_bltin ?ze ?zhv ?zhn ?zhg ?zhb ?zhk ?zhx ?zhd ?_); (case zhv => top_strB); (case ze => top_argsB); (case zhn => decide +kernel); (case zhg => rfl); (case zhb => rfl); (case zhk => rfl); (case zhx => kernel_rfl!); (case zhd => decide +kernel))
  with_reducible refine t_args0 ?_
  ((with_reducible refine cp0 ?zhc ?_); (case zhc => k_caughtNB))
  ((with_reducible refine' tin_tupstr ?zha ?_); (case zha => top_raise))
  with_reducible refine tt_bool ?_
  with_reducible refine if_f ?_
  with_reducible refine t_cons ?_
  with_reducible refine t_If ?_
  ((with_reducible refine t_isVal ?_ ?zhe); (case zhe => rfl))
  ((with_reducible refine t_Call ?_ ?zhe); (case zhe => rfl))
  ((with_reducible refine' t_bltin ?ze ?zhv ?zhn ?zhg ?zhb ?zhk ?zhx ?zhd ?_); (case zhv => top_strB); (case ze => top_argsB); (case zhn => decide +kernel); (case zhg => rfl); (case zhb => rfl); (case zhk => rfl); (case zhx => kernel_rfl!); (case zhd => decide +kernel))
  with_reducible refine t_callWithP ?_
  ((with_reducible refine t_evalArgs ?_ ?zhe); (case zhe => rfl))
  ((with_reducible refine t_args ?_ ?zhe); (case zhe => rfl))
  ((with_reducible refine' t_local ?zhL ?zhN ?zhv ?zhx ?zhk ?zhd ?_); (case zhx => kernel_rfl!); (case zhN => top_name); (case zhL => rfl); (case zhv => top_name); (case zhk => rfl); (case zhd => decide +kernel))
  ((with_reducible refine t_args ?_ ?zhe); (case zhe => rfl))
  ((with_reducible refine' t_glob ?ze ?zhg ?zhk ?zhx ?zhd ?_); (case ze => top_raise0); (case zhg => rfl); (case zhk => rfl); (case zhx => kernel_rfl!); (case zhd => decide +kernel))
  with_reducible refine t_args0 ?_
  ((with_reducible refine cp0 ?zhc ?_); (case zhc => k_caughtNB))
  ((with_reducible refine' tin_tupF ?zha ?zhe ?_); (case zha => top_raise); (case zhe => top_reprB))
  with_reducible refine tt_bool ?_
  with_reducible refine if_f ?_
  with_reducible refine t_cons ?_
  with_reducible refine t_If ?_
  ((with_reducible refine t_isVal ?_ ?zhe); (case zhe => rfl))
  ((with_reducible refine t_Call ?_ ?zhe); (case zhe => rfl))
  ((with_reducible refine' t_bltin ?ze ?zhv ?zhn ?zhg ?zhb ?zhk ?zhx ?zhd ?_); (case zhv => top_strB); (case ze => top_argsB); (case zhn => decide +kernel); (case zhg => rfl); (case zhb => rfl); (case zhk => rfl); (case zhx => kernel_rfl!); (case zhd => decide +kernel))
  with_reducible refine t_callWithP ?_
  ((with_reducible refine t_evalArgs ?_ ?zhe); (case zhe => rfl))
  ((with_reducible refine t_args ?_ ?zhe); (case zhe => rfl))
  ((with_reducible refine' t_local ?zhL ?zhN ?zhv ?zhx ?zhk ?zhd ?_); (case zhx => kernel_rfl!); (case zhN => top_name); (case zhL => rfl); (case zhv => top_name); (case zhk => rfl); (case zhd => decide +kernel))
  ((with_reducible refine t_args ?_ ?zhe); (case zhe => rfl))
  ((with_reducible refine' t_bltin ?ze ?zhv ?zhn ?zhg ?zhb ?zhk ?zhx ?zhd ?_); (case zhv => top_strB); (case ze => top_argsB); (case zhn => decide +kernel); (case zhg => rfl); (case zhb => rfl); (case zhk => rfl); (case zhx => kernel_rfl!); (case zhd => decide +kernel))
  with_reducible refine t_args0 ?_
  ((with_reducible refine cp0 ?zhc ?_); (case zhc => k_caughtNB))
  ((with_reducible refine' tin_tuptup ?zha ?_); (case zha => top_raise))
  with_reducible refine tt_bool ?_
  with_reducible refine if_t ?_
  with_reducible refine t_cons ?_
  ((with_reducible refine t_For ?_ ?zhs); (case zhs => exact fun _ => rfl))
  ((with_reducible refine' t_local ?zhL ?zhN ?zhv ?zhx ?zhk ?zhd ?_); (case zhx => kernel_rfl!); (case zhN => top_name); (case zhL => rfl); (case zhv => top_name); (case zhk => rfl); (case zhd => decide +kernel))
  ((with_reducible refine' t_iterTup ?zha ?_); (case zha => top_raise); (intro _))
  rename_i it
  refine cl_ind (Inv := fun j l => ∃ (n : Nat), l = ⟨F, (it, itT ta n) :: (L, .ns [("cls", .ref x), ("new_state", .ref ta), ("unprocessed", .ref up), ("processed", .ref pr)]) :: N, G⟩ ∧ n + j = ls.length) ?_ ls.length _ ⟨0, rfl, by omega⟩
  rintro j l IH ⟨n, rfl, hnj⟩
  refine cl_for1 ?_
  rcases Nat.lt_or_ge n ls.length with hn1 | hn1
  · have hxn := hls ls[n] (List.getElem_mem hn1)
    obtain ⟨tx, htx⟩ := htv.get (List.getElem?_eq_getElem hn1)
    ((with_reducible refine' t_nextTup ?zhi ?zha ?zhv ?zu ?_); (case zhi => top_name); (case zha => exact Kn.fz' hta); (case zhv => exact htx); (case zu => k_caught0))
    with_reducible refine t_goName ?_
    with_reducible refine t_assignName ?_
    ((with_reducible refine' t_store ?zhL ?zu ?zhN ?zhl ?zhx ?zhk ?_); (case zhx => kernel_rfl!); (case zhN => top_name); (case zhL => rfl); (case zhl => k_caught0); (case zu => k_caught0); (case zhk => rfl))
    with_reducible refine t_cons ?_
    with_reducible refine t_Assert ?_
    with_reducible refine t_isOr ?_
    ((with_reducible refine t_isCmp ?_ ?zhb); (case zhb => rfl))
    ((with_reducible refine' t_local ?zhL ?zhN ?zhv ?zhx ?zhk ?zhd ?_); (case zhx => kernel_rfl!); (case zhN => top_name); (case zhL => rfl); (case zhv => top_name); (case zhk => rfl); (case zhd => decide +kernel))
    ((with_reducible refine' t_local ?zhL ?zhN ?zhv ?zhx ?zhk ?zhd ?_); (case zhx => kernel_rfl!); (case zhN => top_name); (case zhL => rfl); (case zhv => top_name); (case zhk => rfl); (case zhd => decide +kernel))
    ((with_reducible refine' t_dictIn ?zha ?_); (case zha => top_raise))
    with_reducible refine tt_bool ?_
    refine if_b (fun hb => ?_) (fun hb => ?_)
    · refine And.intro (by first | rfl | decide) ?_
      with_reducible refine fl_next ?_
      with_reducible refine t_nil ?_
      with_reducible refine tu_next ?_
      exact cl_fix (by k_caught0) (by k_caught0) (by k_caught0) (IH (ls.length - (n + 1)) (by omega) _ ⟨n + 1, rfl, by omega⟩)
    · have hp : ls[n] = "#pop" := hxn.resolve_right (by rw [hb]; exact Bool.false_ne_true)
      with_reducible refine t_isOr ?_
      ((with_reducible refine t_isCmp ?_ ?zhb); (case zhb => rfl))
      ((with_reducible refine' t_local ?zhL ?zhN ?zhv ?zhx ?zhk ?zhd ?_); (case zhx => kernel_rfl!); (case zhN => top_name); (case zhL => rfl); (case zhv => top_name); (case zhk => rfl); (case zhd => decide +kernel))
      with_reducible refine t_Tuple ?_
      ((with_reducible refine t_args ?_ ?zhe); (case zhe => rfl))
      ((with_reducible refine t_str ?_); (intro _))
      ((with_reducible refine t_args ?_ ?zhe); (case zhe => rfl))
      ((with_reducible refine t_str ?_); (intro _))
      with_reducible refine t_args0 ?_
      ((with_reducible refine t_newTuple ?zhz ?_); (case zhz => simp [sizeLine]))
      intro _
      refine t_tupIn2 (by top_raise) ?_
      with_reducible refine tt_bool ?_
      refine if_T (by rw [hp]; decide) ?_
      refine And.intro (by first | rfl | decide) ?_
      with_reducible refine fl_next ?_
      with_reducible refine t_nil ?_
      with_reducible refine tu_next ?_
      exact cl_fix (by k_caught0) (by k_caught0) (by k_caught0) (IH (ls.length - (n + 1)) (by omega) _ ⟨n + 1, rfl, by omega⟩)
  · ((with_reducible refine' t_nextTupEnd ?zhh ?zhi ?zha ?zhv ?zu ?_); (case zhh => (refine Rm.hd (n := 0) ?_; k_caughtN0)); (case zhi => top_name); (case zha => exact Kn.fz' hta); (case zhv => (rw [htv.len]; omega)); (case zu => k_caught0))
    with_reducible refine t_nil ?_
    with_reducible refine fl_next ?_
    with_reducible refine t_cons ?_
    with_reducible refine t_Return ?_
    ((with_reducible refine' t_local ?zhL ?zhN ?zhv ?zhx ?zhk ?zhd ?_); (case zhx => kernel_rfl!); (case zhN => top_name); (case zhL => rfl); (case zhv => top_name); (case zhk => rfl); (case zhd => decide +kernel))
    with_reducible refine fl_ret ?_
    with_reducible refine fl_ret ?_
    with_reducible refine fl_ret ?_
    with_reducible refine fl_ret ?_
    exact ⟨_, by k_caught0, _, rfl, h ⟨ta, tvs, rfl, hta, htv⟩⟩
theorem sp_pnsPop {x up pr : Addr} {t : Tok} (hA : Rm A 30) (R : Value → Led → Prop) (h : ∀ t, R (.int (-1) t) ⟨F, N, G⟩) :
   Cl (cx w mg mb O) A ⟨F, N, G⟩ (.call (.ref 529) ⟨[.ref x, .str "#pop" t, .ref up, .ref pr], []⟩) (Rv R) := by
  refine cl_def' (binds := [("cls", .ref x), ("new_state", .str "#pop" t), ("unprocessed", .ref up), ("processed", .ref pr)]) rfl (by kernel_rfl!) (by kernel_rfl!) hA.room rfl rfl (n := 0) (by rfl) ?_
  intro L
  with_reducible refine cells0 ?_
  with_reducible refine trB_cons ?_
  ((with_reducible refine' t_store ?zhL ?zu ?zhN ?zhl ?zhx ?zhk ?_); (case zhx => kernel_rfl!); (case zhN => top_name); (case zhL => rfl); (case zhl => k_caught0); (case zu => k_caught0); (case zhk => rfl))
  with_reducible refine trB_cons ?_
  ((with_reducible refine' t_store ?zhL ?zu ?zhN ?zhl ?zhx ?zhk ?_); (case zhx => kernel_rfl!); (case zhN => top_name); (case zhL => rfl); (case zhl => k_caught0); (case zu => k_caught0); (case zhk => rfl))
  with_reducible refine trB_cons ?_
  ((with_reducible refine' t_store ?zhL ?zu ?zhN ?zhl ?zhx ?zhk ?_); (case zhx => kernel_rfl!); (case zhN => top_name); (case zhL => rfl); (case zhl => k_caught0); (case zu => k_caught0); (case zhk => rfl))
  with_reducible refine trB_cons ?_
  ((with_reducible refine' t_store ?zhL ?zu ?zhN ?zhl ?zhx ?zhk ?_); (case zhx => kernel_rfl!); (case zhN => top_name); (case zhL => rfl); (case zhl => k_caught0); (case zu => k_caught0); (case zhk => rfl))
  with_reducible refine trB_nil ?_
  with_reducible refine t_cons ?_
  with_reducible refine t_If ?_
  ((with_reducible refine t_isVal ?_ ?zhe); (case zhe => rfl))
  ((with_reducible refine t_Call ?_ ?zhe); (case zhe => rfl))
  ((with_reducible refine' t_bltin ?ze ?zhv ?zhn ?zhg ?zhb ?zhk ?zhx ?zhd ?_); (case zhv => top_strB); (case ze => top_argsB); (case zhn => decide +kernel); (case zhg => rfl); (case zhb => rfl); (case zhk => rfl); (case zhx => kernel_rfl!); (case zhd => decide +kernel))
  with_reducible refine t_callWithP ?_
  ((with_reducible refine t_evalArgs ?_ ?zhe); (case zhe => rfl))
  ((with_reducible refine t_args ?_ ?zhe); (case zhe => rfl))
  ((with_reducible refine' t_local ?zhL ?zhN ?zhv ?zhx ?zhk ?zhd ?_); (case zhx => kernel_rfl!); (case zhN => top_name); (case zhL => rfl); (case zhv => top_name); (case zhk => rfl); (case zhd => decide +kernel))
  ((with_reducible refine t_args ?_ ?zhe); (case zhe => rfl))
  ((with_reducible refine' t_bltin ?ze ?zhv ?zhn ?zhg ?zhb ?zhk ?zhx ?zhd ?_); (case zhv => top_strB); (case ze => top_argsB); (case zhn => decide +kernel); (case zhg => rfl); (case zhb => rfl); (case zhk => rfl); (case zhx => kernel_rfl!); (case zhd => decide +kernel))
  with_reducible refine t_args0 ?_
  ((with_reducible refine cp0 ?zhc ?_); (case zhc => k_caughtNB))
  with_reducible refine tin_strstr ?_
  with_reducible refine tt_bool ?_
  with_reducible refine if_t ?_
  with_reducible refine t_cons ?_
  with_reducible refine t_If ?_
  ((with_reducible refine t_isCmp ?_ ?zhb); (case zhb => rfl))
  ((with_reducible refine' t_local ?zhL ?zhN ?zhv ?zhx ?zhk ?zhd ?_); (case zhx => kernel_rfl!); (case zhN => top_name); (case zhL => rfl); (case zhv => top_name); (case zhk => rfl); (case zhd => decide +kernel))
  ((with_reducible refine t_str ?_); (intro _))
  with_reducible refine tc_eqS ?_
  with_reducible refine tt_bool ?_
  ((with_reducible refine if_T ?ze ?_); (case ze => (first | rfl | decide)))
  with_reducible refine t_cons ?_
  with_reducible refine t_Return ?_
  with_reducible refine t_Neg ?_
  ((with_reducible refine t_int ?_); (intro _))
  ((with_reducible refine ti_neg ?_); (intro _))
  with_reducible refine fl_ret ?_
  with_reducible refine fl_ret ?_
  with_reducible refine fl_ret ?_
  exact ⟨_, by k_caught0, _, rfl, h _⟩
theorem sp_pnsS {x up pr : Addr} {kvs : List (Str × Value)} {y : Str} {t : Tok} (hup : Kn (cx w mg mb O) ⟨F, N, G⟩ up (.dic kvs)) (hy : y ≠ "#pop") (hk : (valueAt kvs y).isSome = true) (hA : Rm A 30) (R : Value → Led → Prop)
    (h : ∀ a t, R (.ref a) ⟨F, (a, .tup [.str y t]) :: N, G⟩) :
   Cl (cx w mg mb O) A ⟨F, N, G⟩ (.call (.ref 529) ⟨[.ref x, .str y t, .ref up, .ref pr], []⟩) (Rv R) := by
  refine cl_def' (binds := [("cls", .ref x), ("new_state", .str y t), ("unprocessed", .ref up), ("processed", .ref pr)]) rfl (by kernel_rfl!) (by kernel_rfl!) hA.room rfl rfl (n := 0) (by rfl) ?_
  intro L
  with_reducible refine cells0 ?_
  with_reducible refine trB_cons ?_
  ((with_reducible refine' t_store ?zhL ?zu ?zhN ?zhl ?zhx ?zhk ?_); (case zhx => kernel_rfl!); (case zhN => top_name); (case zhL => rfl); (case zhl => k_caught0); (case zu => k_caught0); (case zhk => rfl))
  with_reducible refine trB_cons ?_
  ((with_reducible refine' t_store ?zhL ?zu ?zhN ?zhl ?zhx ?zhk ?_); (case zhx => kernel_rfl!); (case zhN => top_name); (case zhL => rfl); (case zhl => k_caught0); (case zu => k_caught0); (case zhk => rfl))
  with_reducible refine trB_cons ?_
  ((with_reducible refine' t_store ?zhL ?zu ?zhN ?zhl ?zhx ?zhk ?_); (case zhx => kernel_rfl!); (case zhN => top_name); (case zhL => rfl); (case zhl => k_caught0); (case zu => k_caught0); (case zhk => rfl))
  with_reducible refine trB_cons ?_
  ((with_reducible refine' t_store ?zhL ?zu ?zhN ?zhl ?zhx ?zhk ?_); (case zhx => kernel_rfl!); (case zhN => top_name); (case zhL => rfl); (case zhl => k_caught0); (case zu => k_caught0); (case zhk => rfl))
  with_reducible refine trB_nil ?_
  with_reducible refine t_cons ?_
  with_reducible refine t_If ?_
  ((with_reducible refine t_isVal ?_ ?zhe); (case zhe => rfl))
  ((with_reducible refine t_Call ?_ ?zhe); (case zhe => rfl))
  ((with_reducible refine' t_bltin ?ze ?zhv ?zhn ?zhg ?zhb ?zhk ?zhx ?zhd ?_); (case zhv => top_strB); (case ze => top_argsB); (case zhn => decide +kernel); (case zhg => rfl); (case zhb => rfl); (case zhk => rfl); (case zhx => kernel_rfl!); (case zhd => decide +kernel))
  with_reducible refine t_callWithP ?_
  ((with_reducible refine t_evalArgs ?_ ?zhe); (case zhe => rfl))
  ((with_reducible refine t_args ?_ ?zhe); (case zhe => rfl))
  ((with_reducible refine' t_local ?zhL ?zhN ?zhv ?zhx ?zhk ?zhd ?_); (case zhx => kernel_rfl!); (case zhN => top_name); (case zhL => rfl); (case zhv => top_name); (case zhk => rfl); (case zhd => decide +kernel))
  ((with_reducible refine t_args ?_ ?zhe); (case zhe => rfl))
  ((with_reducible refine' t_bltin ?ze ?zhv ?zhn ?zhg ?zhb ?zhk ?zhx ?zhd ?_); (case zhv => top_strB); (case ze => top_argsB); (case zhn => decide +kernel); (case zhg => rfl); (case zhb => rfl); (case zhk => rfl); (case zhx => kernel_rfl!); (case zhd => decide +kernel))
  with_reducible refine t_args0 ?_
  ((with_reducible refine cp0 ?zhc ?_); (case zhc => k_caughtNB))
  with_reducible refine tin_strstr ?_
  with_reducible refine tt_bool ?_
  with_reducible refine if_t ?_
  with_reducible refine t_cons ?_
  with_reducible refine t_If ?_
  ((with_reducible refine t_isCmp ?_ ?zhb); (case zhb => rfl))
  ((with_reducible refine' t_local ?zhL ?zhN ?zhv ?zhx ?zhk ?zhd ?_); (case zhx => kernel_rfl!); (case zhN => top_name); (case zhL => rfl); (case zhv => top_name); (case zhk => rfl); (case zhd => decide +kernel))
  ((with_reducible refine t_str ?_); (intro _))
  with_reducible refine tc_eqS ?_
  with_reducible refine tt_bool ?_
  refine if_F (by simpa using hy) ?_
  with_reducible refine t_cons ?_
  with_reducible refine t_If ?_
  ((with_reducible refine t_isCmp ?_ ?zhb); (case zhb => rfl))
  ((with_reducible refine' t_local ?zhL ?zhN ?zhv ?zhx ?zhk ?zhd ?_); (case zhx => kernel_rfl!); (case zhN => top_name); (case zhL => rfl); (case zhv => top_name); (case zhk => rfl); (case zhd => decide +kernel))
  ((with_reducible refine' t_local ?zhL ?zhN ?zhv ?zhx ?zhk ?zhd ?_); (case zhx => kernel_rfl!); (case zhN => top_name); (case zhL => rfl); (case zhv => top_name); (case zhk => rfl); (case zhd => decide +kernel))
  ((with_reducible refine' t_dictIn ?zha ?_); (case zha => top_raise))
  with_reducible refine tt_bool ?_
  refine if_T hk ?_
  with_reducible refine t_cons ?_
  with_reducible refine t_Return ?_
  with_reducible refine t_Tuple ?_
  ((with_reducible refine t_args ?_ ?zhe); (case zhe => rfl))
  ((with_reducible refine' t_local ?zhL ?zhN ?zhv ?zhx ?zhk ?zhd ?_); (case zhx => kernel_rfl!); (case zhN => top_name); (case zhL => rfl); (case zhv => top_name); (case zhk => rfl); (case zhd => decide +kernel))
  with_reducible refine t_args0 ?_
  ((with_reducible refine t_newTuple ?zhz ?_); (case zhz => simp [sizeLine]))
  intro _
  with_reducible refine fl_ret ?_
  with_reducible refine fl_ret ?_
  with_reducible refine fl_ret ?_
  with_reducible refine fl_ret ?_
  exact ⟨_, by k_caught0, _, rfl, h _ _⟩
end Mine

open PySem PySem.W PySem.W.X PyProof.Rows PySem.Calls PySem.Builtin.ObjectAttr
set_option maxRecDepth 100000
set_option Elab.async false
set_option autoImplicit false
set_option linter.unusedVariables false
set_option maxHeartbeats 4000000
namespace Mine
local macro_rules | `(tactic| top_name) => `(tactic| first | (with_reducible exact List.mem_cons_self) | (with_reducible refine List.mem_cons_of_mem _ ?_; top_name) | (with_reducible assumption))
local macro_rules | `(tactic| k_caught0) => `(tactic| first
  | (with_reducible exact LUpd.head) | (with_reducible exact LSet.nil) | (with_reducible exact LSet.head) | (with_reducible exact Rem.head) | (with_reducible exact Pick.refl)
  | ((with_reducible apply LUpd.tail); (k_caught0))
  | ((with_reducible apply LSet.tail); (· (decide +kernel)); (k_caught0))
  | ((with_reducible apply Rem.tail); (k_caught0))
  | ((with_reducible apply Pick.cons); (· k_caught0); (k_caught0))
  | ((with_reducible apply Pick.drop); (k_caught0)))
local macro_rules | `(tactic| top_raise) => `(tactic| first | (with_reducible refine Kn.row' ?_; top_name) | (with_reducible refine Kn.fz' ?_; with_reducible assumption) | (with_reducible assumption) | ((with_reducible refine Kn.skip ?_); top_raise))
local macro_rules | `(tactic| k_caughtN0) => `(tactic| first | assumption | (exact Rm.le (by assumption) (by decide)) | ((refine Rm.dp ?_); k_caughtN0) | ((refine Rm.mk' ?_); k_caughtN0) | (refine Rm.le (Rm.over (n := 40) (Rm.le (by assumption) (by decide)) (by first | exact Quiet.ok (by assumption) | exact fsOk_while (Quiet.ok (by assumption)))) (by decide)))
local macro_rules | `(tactic| k_caughtB) => `(tactic| first | exact Strs.nil | ((apply Strs.cons); k_caughtB) | assumption)
local macro_rules | `(tactic| top_strB) => `(tactic| with_reducible first | exact bl_len | exact bl_isinstance | exact bl_type | exact bl_list | exact bl_tuple | exact bl_range | exact bl_str | exact bl_int | exact bl_abs | exact bl_sum | exact bl_enumerate | exact bl_zip | exact bl_max | exact bl_min | exact bl_divmod | exact bl_callable)
local macro_rules | `(tactic| top_raise0) => `(tactic| with_reducible first | exact g_wall_ | exact g_TokenType_ | exact g_Token | exact g_Whitespace | exact g_Error | exact g_String | exact g_Number | exact g_ALIASES_ | exact g_string_to_tokentype | exact g_CS_ESCAPE | exact g_commonprefix | exact g_make_charset | exact g_pull_ | exact g_same_ | exact g_groupby | exact g_grouper_ | exact g_special_chars_map_ | exact g_escape | exact g_regex_opt_inner | exact g_regex_opt | exact g_Lexer | exact g_include | exact g_inherit_ | exact g_combined | exact g_PseudoMatch_ | exact g_default | exact g_words | exact g_nothing_ | exact g_inherit_place | exact g_merged_tokendefs | exact g_RegexLexerMeta | exact g_RegexLexer | exact g_PlainMatch | exact g_Plain | exact g_PlainLexer | exact g_law_rest_ | exact g_law_reads_ | exact g_law)
local macro_rules | `(tactic| top_argsB) => `(tactic| with_reducible first | exact bn_len | exact bn_isinstance | exact bn_type | exact bn_list | exact bn_tuple | exact bn_range | exact bn_str | exact bn_int | exact bn_abs | exact bn_sum | exact bn_enumerate | exact bn_zip | exact bn_max | exact bn_min | exact bn_divmod | exact bn_callable)
local macro_rules | `(tactic| top_reprB) => `(tactic| with_reducible first | exact ga_83 | exact mk_83 | exact bo_83 | exact le_83 | exact ga_624 | exact mk_624 | exact bo_624 | exact le_624 | exact ga_651 | exact mk_651 | exact bo_651 | exact le_651 | exact ga_672 | exact mk_672 | exact bo_672 | exact le_672 | exact in_83 | exact if_83 | exact in_624 | exact if_624 | exact in_651 | exact if_651 | exact in_672 | exact if_672 | exact df_672_get_tokendefs | exact df_672_process_tokendef | exact df_672_process_state_ | exact df_672_process_regex_ | exact df_672_process_token_ | exact df_672_process_new_state_ | exact df_672_get_tokens_unprocessed | exact df_624_group | exact df_624_end | exact df_83_child | exact ni_str_TokenType_ | exact ni_str_combined | exact ni_tuple_inherit_ | exact ni_tuple_include | exact ni_tuple_default | exact ni_tuple_combined | exact ni_int_combined)
local macro_rules | `(tactic| top_caughtB) => `(tactic| with_reducible first | exact fl_83_names | exact fl_624_place | exact fl_624_pieces | exact fl_651_rows | exact fl_672_options | exact fl_672_stripnl | exact fl_672_stripall | exact fl_672_ensurenl | exact fl_672_filters | exact fl_672_tables | exact fl_672_all_tokens_ | exact fl_672_tmpname_ | exact fl_672_tokens_)
local macro_rules | `(tactic| top_raiseB) => `(tactic| with_reducible first | exact st_83_names | exact st_624_place | exact st_624_pieces | exact st_651_rows | exact st_672_options | exact st_672_stripnl | exact st_672_stripall | exact st_672_ensurenl | exact st_672_filters | exact st_672_tables | exact st_672_all_tokens_ | exact st_672_tmpname_ | exact st_672_tokens_)
local macro_rules | `(tactic| k_caughtNB) => `(tactic| with_reducible first | exact callee_bltin | exact callee_type | exact cal_83 | exact cal_624 | exact cal_651 | exact cal_672 | exact cal_621 | exact cal_615 | exact cal_648 | exact cal_73 | exact cal_115 | exact cal_494 | exact cal_501 | exact cal_551 | exact cal_544 | exact cal_536 | exact cal_669 | exact cal_522 | exact cal_529 | exact cal_580 | exact cal_278 | exact cal_682 | exact cal_687)

local macro_rules | `(tactic| top_raise) => `(tactic| with_reducible first | exact kn_89 | exact kn_88 | exact kn_90 | exact kn_108)

variable {w : World} {mg mb : Str → Option Value} {O : OsState} {A : Around} {F : PH} {N : List (Addr × OD)} {G : Array GenState}
def SAct (P : Params) (F : PH) (kvs : List (Str × Value)) (rest : List Value) : Act → Prop
  | .stay => rest = []
  | .go ls => ∃ v, rest = [v] ∧ (SActT P F kvs v ls ∨ ∃ y t, v = .str y t ∧ ls = [y] ∧ y ≠ "#pop" ∧ (valueAt kvs y).isSome = true)
  | .pop => ∃ t, rest = [.str "#pop" t]
def SRule (P : Params) (F : PH) (kvs : List (Str × Value)) (v : Value) (r : RuleE) : Prop := ∃ a pl d rw r1 t dy fy rest, v = .ref a ∧ Fz P F a (.tup (.ref pl :: .ref r.ty :: rest)) ∧ Fz P F pl (.inst 651 d) ∧ Fz P F d (.fld [("rows", .ref rw)]) ∧ Fz P F rw (.lst [.ref r1]) ∧ Fz P F r1 (.lst [.str ⟨#[r.c]⟩ t]) ∧
  Fz P F r.ty (.inst 83 dy) ∧ Fz P F dy (.fld fy) ∧ SAct P F kvs rest r.act
inductive SRules (P : Params) (F : PH) (kvs : List (Str × Value)) : List Value → List RuleE → Prop
  | nil : SRules P F kvs [] []
  | cons {v r vs rs} : SRule P F kvs v r → SRules P F kvs vs rs → SRules P F kvs (v :: vs) (r :: rs)
theorem SRules.get {P : Params} {kvs : List (Str × Value)} {vs : List Value} {rs : List RuleE} (h : SRules P F kvs vs rs) : ∀ {i : Nat}, i < vs.length → ∃ v r, vs[i]? = some v ∧ rs[i]? = some r ∧ SRule P F kvs v r := by
  induction h with
  | nil => intro i hi; exact absurd hi (Nat.not_lt_zero _)
  | @cons v r vs rs a _ ih =>
    intro i hi
    cases i with
    | zero => exact ⟨v, r, rfl, rfl, a⟩
    | succ i => exact ih (by simpa using hi)
theorem SRules.len {P : Params} {kvs : List (Str × Value)} {vs : List Value} {rs : List RuleE} (h : SRules P F kvs vs rs) : vs.length = rs.length := by
  induction h with
  | nil => rfl
  | cons _ _ ih => simp [ih]
theorem SActT.mono {F' : PH} {P : Params} {kvs : List (Str × Value)} {v : Value} {ls : List Str} (h : SActT P F kvs v ls) (k : F.le F') : SActT P F' kvs v ls := let ⟨a, vs, e, f, g⟩ := h; ⟨a, vs, e, f.mono k, g⟩
theorem SAct.mono {F' : PH} {P : Params} {kvs : List (Str × Value)} {rest : List Value} {a : Act} (h : SAct P F kvs rest a) (k : F.le F') : SAct P F' kvs rest a := by
  cases a with
  | stay => exact h
  | pop => exact h
  | go ls =>
    obtain ⟨v, e, h⟩ := h
    exact ⟨v, e, h.imp (fun h => h.mono k) id⟩
theorem SRule.mono {F' : PH} {P : Params} {kvs : List (Str × Value)} {v : Value} {r : RuleE} (h : SRule P F kvs v r) (k : F.le F') : SRule P F' kvs v r :=
  let ⟨a, pl, d, rw, r1, t, dy, fy, rest, e, h1, h2, h3, h4, h5, h6, h7, h8⟩ := h
  ⟨a, pl, d, rw, r1, t, dy, fy, rest, e, h1.mono k, h2.mono k, h3.mono k, h4.mono k, h5.mono k, h6.mono k, h7.mono k, h8.mono k⟩
theorem SRules.mono {F' : PH} {P : Params} {kvs : List (Str × Value)} {vs : List Value} {rs : List RuleE} (h : SRules P F kvs vs rs) (k : F.le F') : SRules P F' kvs vs rs := by
  induction h with
  | nil => exact .nil
  | cons a _ ih => exact .cons (a.mono k) ih
theorem RulesAt.snoc {D : Ads} {P : Params} {vs : List Value} {rs : List RuleE} {v : Value} {r : RuleE} (h : RulesAt D P F vs rs) (a : RuleAt D P F v r) : RulesAt D P F (vs ++ [v]) (rs ++ [r]) := by
  induction h with
  | nil => exact .cons a .nil
  | cons b _ ih => exact .cons b ih
theorem cl_eqL {X : Cx} {l l' : Led} {c : Code} {R : Flow → Led → Prop} (e : l = l') (h : Cl X A l' c R) : Cl X A l c R := e ▸ h

theorem cl_freeze2 {X : Cx} {F : PH} {N : List (Addr × OD)} {G : Array GenState} {A : Around} {a b : Addr} {D E : OD} {c : Code} {R : Flow → Led → Prop} (h : ∀ F', F.le F' → Fz X.P F' a D → Fz X.P F' b E → Cl X A ⟨F', N, G⟩ c R) : Cl X A ⟨F, (a, D) :: (b, E) :: N, G⟩ c R :=
  cl_freeze .head fun F1 l1 f1 => cl_freeze .head fun F2 l2 f2 => h F2 (PH.le_trans l1 l2) (f1.mono l2) f2
theorem sp_pstate {x d up pr ls o fl tt at_ : Addr} {tn t : Tok} {kvs acc : List (Str × Value)} {k : Str} {c : Nat} {vs : List Value} {rs : List RuleE}
   (hx : Kn (cx w mg mb O) ⟨F, N, G⟩ x (.inst 672 d)) (hd : Kn (cx w mg mb O) ⟨F, N, G⟩ d (.fld (lxF o fl tt at_ tn))) (hup : Fz w.params F up (.dic kvs)) (hk : valueAt kvs k = some (.ref ls)) (hls : Fz w.params F ls (.lst vs)) (hr : SRules w.params F kvs vs rs)
   (hz : vs.length ≤ 1000) (hkc : k.cps[0]? = some c) (hc : c ≠ 35) (hacc : valueAt acc k = none) (haz : acc.length ≤ 1000) (hA : Rm A 60) (R : Value → Led → Prop)
   (h : ∀ F' sl vs', F.le F' → RulesAt ads w.params F' vs' rs → R (.ref sl) ⟨F', (sl, .lst vs') :: (pr, .dic (acc ++ [(k, .ref sl)])) :: N, G⟩) :
   Cl (cx w mg mb O) A ⟨F, (pr, .dic acc) :: N, G⟩ (.call (.ref 536) ⟨[.ref x, .ref up, .ref pr, .str k t], []⟩) (Rv R) := by
  refine cl_def' (binds := [("cls", .ref x), ("unprocessed", .ref up), ("processed", .ref pr), ("state", .str k t)]) rfl (by kernel_rfl!) (by kernel_rfl!) hA.room rfl rfl (n := 0) (by rfl) ?_
  intro L
  with_reducible refine cells0 ?_
  with_reducible refine trB_cons ?_
  ((with_reducible refine' t_store ?zhL ?zu ?zhN ?zhl ?zhx ?zhk ?_); (case zhx => kernel_rfl!); (case zhN => top_name); (case zhL => rfl); (case zhl => k_caught0); (case zu => k_caught0); (case zhk => rfl))
  with_reducible refine trB_cons ?_
  ((with_reducible refine' t_store ?zhL ?zu ?zhN ?zhl ?zhx ?zhk ?_); (case zhx => kernel_rfl!); (case zhN => top_name); (case zhL => rfl); (case zhl => k_caught0); (case zu => k_caught0); (case zhk => rfl))
  with_reducible refine trB_cons ?_
  ((with_reducible refine' t_store ?zhL ?zu ?zhN ?zhl ?zhx ?zhk ?_); (case zhx => kernel_rfl!); (case zhN => top_name); (case zhL => rfl); (case zhl => k_caught0); (case zu => k_caught0); (case zhk => rfl))
  with_reducible refine trB_cons ?_
  ((with_reducible refine' t_store ?zhL ?zu ?zhN ?zhl ?zhx ?zhk ?_); (case zhx => kernel_rfl!); (case zhN => top_name); (case zhL => rfl); (case zhl => k_caught0); (case zu => k_caught0); (case zhk => rfl))
  with_reducible refine trB_nil ?_
  with_reducible refine t_cons ?_
  with_reducible refine t_Assert ?_
  ((with_reducible refine t_isVal ?_ ?zhe); (case zhe => rfl))
  ((with_reducible refine t_Call ?_ ?zhe); (case zhe => rfl))
  ((with_reducible refine' t_bltin ?ze ?zhv ?zhn ?zhg ?zhb ?zhk ?zhx ?zhd ?_); (case zhv => top_strB); (case ze => top_argsB); (case zhn => decide +kernel); (case zhg => rfl); (case zhb => rfl); (case zhk => rfl); (case zhx => kernel_rfl!); (case zhd => decide +kernel))
  with_reducible refine t_callWithP ?_
  ((with_reducible refine t_evalArgs ?_ ?zhe); (case zhe => rfl))
  ((with_reducible refine t_args ?_ ?zhe); (case zhe => rfl))
  ((with_reducible refine' t_local ?zhL ?zhN ?zhv ?zhx ?zhk ?zhd ?_); (case zhx => kernel_rfl!); (case zhN => top_name); (case zhL => rfl); (case zhv => top_name); (case zhk => rfl); (case zhd => decide +kernel))
  ((with_reducible refine t_args ?_ ?zhe); (case zhe => rfl))
  ((with_reducible refine' t_bltin ?ze ?zhv ?zhn ?zhg ?zhb ?zhk ?zhx ?zhd ?_); (case zhv => top_strB); (case ze => top_argsB); (case zhn => decide +kernel); (case zhg => rfl); (case zhb => rfl); (case zhk => rfl); (case zhx => kernel_rfl!); (case zhd => decide +kernel))
  with_reducible refine t_args0 ?_
  ((with_reducible refine cp0 ?zhc ?_); (case zhc => k_caughtNB))
  with_reducible refine tin_strstr ?_
  with_reducible refine tt_bool ?_
  refine And.intro (by first | rfl | decide) ?_
  with_reducible refine fl_next ?_
  with_reducible refine t_cons ?_
  with_reducible refine t_Assert ?_
  ((with_reducible refine t_isCmp ?_ ?zhb); (case zhb => rfl))
  with_reducible refine t_Sub ?_
  ((with_reducible refine' t_local ?zhL ?zhN ?zhv ?zhx ?zhk ?zhd ?_); (case zhx => kernel_rfl!); (case zhN => top_name); (case zhL => rfl); (case zhv => top_name); (case zhk => rfl); (case zhd => decide +kernel))
  ((with_reducible refine t_int ?_); (intro _))
  ((with_reducible refine' t_subStr ?zhs ?_); (case zhs => rfl))
  ((with_reducible refine' t_itemStr ?zhi ?zhz ?zhc ?_); (case zhi => decide); (case zhz => decide); (case zhc => exact hkc); (intro _))
  ((with_reducible refine t_str ?_); (intro _))
  with_reducible refine tc_neS ?_
  with_reducible refine tt_bool ?_
  refine And.intro ?_ ?_
  · have : (⟨#[c]⟩ : Str) ≠ Str.ofString "#" := fun e => hc (by
      have e' : (⟨#[c]⟩ : Str) = (⟨#[35]⟩ : Str) := e
      simpa using e')
    simpa using this
  with_reducible refine fl_next ?_
  with_reducible refine t_cons ?_
  with_reducible refine t_If ?_
  ((with_reducible refine t_isCmp ?_ ?zhb); (case zhb => rfl))
  ((with_reducible refine' t_local ?zhL ?zhN ?zhv ?zhx ?zhk ?zhd ?_); (case zhx => kernel_rfl!); (case zhN => top_name); (case zhL => rfl); (case zhv => top_name); (case zhk => rfl); (case zhd => decide +kernel))
  ((with_reducible refine' t_local ?zhL ?zhN ?zhv ?zhx ?zhk ?zhd ?_); (case zhx => kernel_rfl!); (case zhN => top_name); (case zhL => rfl); (case zhv => top_name); (case zhk => rfl); (case zhd => decide +kernel))
  ((with_reducible refine' t_dictInN ?zha ?zhv ?_); (case zha => top_raise); (case zhv => assumption))
  with_reducible refine tt_bool ?_
  with_reducible refine if_f ?_
  with_reducible refine t_nil ?_
  with_reducible refine fl_next ?_
  with_reducible refine t_cons ?_
  ((with_reducible refine' t_Assign2 ?_ ?zhe ?zhw); (case zhe => rfl); (case zhw => rfl))
  with_reducible refine t_List ?_
  with_reducible refine t_args0 ?_
  ((with_reducible refine t_newList ?zhz ?_); (case zhz => simp [sizeLine]))
  intro _
  with_reducible refine t_assignName ?_
  ((with_reducible refine' t_store ?zhL ?zu ?zhN ?zhl ?zhx ?zhk ?_); (case zhx => kernel_rfl!); (case zhN => top_name); (case zhL => rfl); (case zhl => k_caught0); (case zu => k_caught0); (case zhk => rfl))
  with_reducible refine t_assignSub ?_
  ((with_reducible refine' t_local ?zhL ?zhN ?zhv ?zhx ?zhk ?zhd ?_); (case zhx => kernel_rfl!); (case zhN => top_name); (case zhL => rfl); (case zhv => top_name); (case zhk => rfl); (case zhd => decide +kernel))
  ((with_reducible refine' t_local ?zhL ?zhN ?zhv ?zhx ?zhk ?zhd ?_); (case zhx => kernel_rfl!); (case zhN => top_name); (case zhL => rfl); (case zhv => top_name); (case zhk => rfl); (case zhd => decide +kernel))
  ((with_reducible refine' t_dictSetN ?zha ?zhv ?zu ?zhz ?_); (case zha => top_name); (case zhv => (first | assumption | rfl)); (case zu => k_caught0); (case zhz => (first | decide | (simp; done) | omega)))
  with_reducible refine fl_next ?_
  with_reducible refine t_cons ?_
  ((with_reducible refine t_AssignName ?_ ?zhs); (case zhs => rfl))
  ((with_reducible refine t_Attr ?_ ?zhe); (case zhe => rfl))
  ((with_reducible refine' t_local ?zhL ?zhN ?zhv ?zhx ?zhk ?zhd ?_); (case zhx => kernel_rfl!); (case zhN => top_name); (case zhL => rfl); (case zhv => top_name); (case zhk => rfl); (case zhd => decide +kernel))
  ((with_reducible refine' t_clsValue ?zhx ?zhd ?zhf ?zhg ?zhn ?_); (case zhx => top_raise); (case zhd => top_raise); (case zhf => exact cv_flags); (case zhg => top_reprB); (case zhn => kernel_rfl!))
  ((with_reducible refine' t_store ?zhL ?zu ?zhN ?zhl ?zhx ?zhk ?_); (case zhx => kernel_rfl!); (case zhN => top_name); (case zhL => rfl); (case zhl => k_caught0); (case zu => k_caught0); (case zhk => rfl))
  with_reducible refine fl_next ?_
  with_reducible refine t_cons ?_
  ((with_reducible refine t_For ?_ ?zhs); (case zhs => exact fun _ => rfl))
  with_reducible refine t_Sub ?_
  ((with_reducible refine' t_local ?zhL ?zhN ?zhv ?zhx ?zhk ?zhd ?_); (case zhx => kernel_rfl!); (case zhN => top_name); (case zhL => rfl); (case zhv => top_name); (case zhk => rfl); (case zhd => decide +kernel))
  ((with_reducible refine' t_local ?zhL ?zhN ?zhv ?zhx ?zhk ?zhd ?_); (case zhx => kernel_rfl!); (case zhN => top_name); (case zhL => rfl); (case zhv => top_name); (case zhk => rfl); (case zhd => decide +kernel))
  ((with_reducible refine' t_subDict ?zha ?zhs ?_); (case zha => top_raise); (case zhs => rfl))
  refine t_dictGetItem (Kn.fz' hup) hk ?_
  ((with_reducible refine' t_iterList ?zha ?_); (case zha => top_raise); (intro _))
  rename_i tk0 tk1 tk2 tl it
  refine cl_fix (N2 := (it, itL ls 0) :: (tl, .lst []) :: (pr, .dic (acc ++ [(k, .ref tl)])) :: (L, .ns [("cls", .ref x), ("unprocessed", .ref up), ("processed", .ref pr), ("state", .str k t), ("tokens", .ref tl), ("rflags", .int 8 1197)]) :: N) (by k_caught0) (by k_caught0) (by k_caught0) ?_
  refine cl_ind (Inv := fun j l => ∃ (F' : PH) (i : Nat) (ws : List Value), l = ⟨F', (it, itL ls i) :: (tl, .lst ws) :: (pr, .dic (acc ++ [(k, .ref tl)])) :: (L, .ns [("cls", .ref x), ("unprocessed", .ref up), ("processed", .ref pr), ("state", .str k t), ("tokens", .ref tl), ("rflags", .int 8 1197)]) :: N, G⟩ ∧ F.le F' ∧ i + j = vs.length ∧ RulesAt ads w.params F' ws (rs.take i)) ?_ vs.length _ ⟨F, 0, [], rfl, PH.le_refl F, by omega, .nil⟩
  rintro j l IH ⟨F1, i, ws, rfl, hF1, hij, hws⟩
  have hx1 := hx.le hF1
  have hd1 := hd.le hF1
  have hup1 := hup.mono hF1
  have hls1 := hls.mono hF1
  have hwl := hws.len
  have hrl := hr.len
  refine cl_for1 ?_
  rcases Nat.lt_or_ge i vs.length with hi | hi
  · obtain ⟨v, r, hv, hri, a, pl, dp, rw_, r1, tr, dy, fy, rest, rfl, ha, hpl, hdp, hrw, hr1, hty, hdy, hact⟩ := hr.get hi
    have ha1 := ha.mono hF1
    have hpl1 := hpl.mono hF1
    have hdp1 := hdp.mono hF1
    have hty1 := hty.mono hF1
    have hdy1 := hdy.mono hF1
    have hact1 := hact.mono hF1
    have hwz : ws.length ≤ 1000 := by rw [hwl, List.length_take]; omega
    ((with_reducible refine' t_nextList ?zhi ?zha ?zhv ?zu ?_); (case zhi => top_name); (case zha => exact Kn.fz' hls1); (case zhv => exact hv); (case zu => k_caught0))
    with_reducible refine t_goName ?_
    with_reducible refine t_assignName ?_
    ((with_reducible refine' t_store ?zhL ?zu ?zhN ?zhl ?zhx ?zhk ?_); (case zhx => kernel_rfl!); (case zhN => top_name); (case zhL => rfl); (case zhl => k_caught0); (case zu => k_caught0); (case zhk => rfl))
    with_reducible refine t_cons ?_
    with_reducible refine t_If ?_
    ((with_reducible refine t_isVal ?_ ?zhe); (case zhe => rfl))
    ((with_reducible refine t_Call ?_ ?zhe); (case zhe => rfl))
    ((with_reducible refine' t_bltin ?ze ?zhv ?zhn ?zhg ?zhb ?zhk ?zhx ?zhd ?_); (case zhv => top_strB); (case ze => top_argsB); (case zhn => decide +kernel); (case zhg => rfl); (case zhb => rfl); (case zhk => rfl); (case zhx => kernel_rfl!); (case zhd => decide +kernel))
    with_reducible refine t_callWithP ?_
    ((with_reducible refine t_evalArgs ?_ ?zhe); (case zhe => rfl))
    ((with_reducible refine t_args ?_ ?zhe); (case zhe => rfl))
    ((with_reducible refine' t_local ?zhL ?zhN ?zhv ?zhx ?zhk ?zhd ?_); (case zhx => kernel_rfl!); (case zhN => top_name); (case zhL => rfl); (case zhv => top_name); (case zhk => rfl); (case zhd => decide +kernel))
    ((with_reducible refine t_args ?_ ?zhe); (case zhe => rfl))
    ((with_reducible refine' t_glob ?ze ?zhg ?zhk ?zhx ?zhd ?_); (case ze => top_raise0); (case zhg => rfl); (case zhk => rfl); (case zhx => kernel_rfl!); (case zhd => decide +kernel))
    with_reducible refine t_args0 ?_
    ((with_reducible refine cp0 ?zhc ?_); (case zhc => k_caughtNB))
    ((with_reducible refine' tin_tupF ?zha ?zhe ?_); (case zha => top_raise); (case zhe => top_reprB))
    with_reducible refine tt_bool ?_
    with_reducible refine if_f ?_
    with_reducible refine t_nil ?_
    with_reducible refine fl_next ?_
    with_reducible refine t_cons ?_
    with_reducible refine t_If ?_
    ((with_reducible refine t_isVal ?_ ?zhe); (case zhe => rfl))
    ((with_reducible refine t_Call ?_ ?zhe); (case zhe => rfl))
    ((with_reducible refine' t_bltin ?ze ?zhv ?zhn ?zhg ?zhb ?zhk ?zhx ?zhd ?_); (case zhv => top_strB); (case ze => top_argsB); (case zhn => decide +kernel); (case zhg => rfl); (case zhb => rfl); (case zhk => rfl); (case zhx => kernel_rfl!); (case zhd => decide +kernel))
    with_reducible refine t_callWithP ?_
    ((with_reducible refine t_evalArgs ?_ ?zhe); (case zhe => rfl))
    ((with_reducible refine t_args ?_ ?zhe); (case zhe => rfl))
    ((with_reducible refine' t_local ?zhL ?zhN ?zhv ?zhx ?zhk ?zhd ?_); (case zhx => kernel_rfl!); (case zhN => top_name); (case zhL => rfl); (case zhv => top_name); (case zhk => rfl); (case zhd => decide +kernel))
    ((with_reducible refine t_args ?_ ?zhe); (case zhe => rfl))
    ((with_reducible refine' t_glob ?ze ?zhg ?zhk ?zhx ?zhd ?_); (case ze => top_raise0); (case zhg => rfl); (case zhk => rfl); (case zhx => kernel_rfl!); (case zhd => decide +kernel))
    with_reducible refine t_args0 ?_
    ((with_reducible refine cp0 ?zhc ?_); (case zhc => k_caughtNB))
    ((with_reducible refine' tin_tupF ?zha ?zhe ?_); (case zha => top_raise); (case zhe => top_reprB))
    with_reducible refine tt_bool ?_
    with_reducible refine if_f ?_
    with_reducible refine t_nil ?_
    with_reducible refine fl_next ?_
    with_reducible refine t_cons ?_
    with_reducible refine t_If ?_
    ((with_reducible refine t_isVal ?_ ?zhe); (case zhe => rfl))
    ((with_reducible refine t_Call ?_ ?zhe); (case zhe => rfl))
    ((with_reducible refine' t_bltin ?ze ?zhv ?zhn ?zhg ?zhb ?zhk ?zhx ?zhd ?_); (case zhv => top_strB); (case ze => top_argsB); (case zhn => decide +kernel); (case zhg => rfl); (case zhb => rfl); (case zhk => rfl); (case zhx => kernel_rfl!); (case zhd => decide +kernel))
    with_reducible refine t_callWithP ?_
    ((with_reducible refine t_evalArgs ?_ ?zhe); (case zhe => rfl))
    ((with_reducible refine t_args ?_ ?zhe); (case zhe => rfl))
    ((with_reducible refine' t_local ?zhL ?zhN ?zhv ?zhx ?zhk ?zhd ?_); (case zhx => kernel_rfl!); (case zhN => top_name); (case zhL => rfl); (case zhv => top_name); (case zhk => rfl); (case zhd => decide +kernel))
    ((with_reducible refine t_args ?_ ?zhe); (case zhe => rfl))
    ((with_reducible refine' t_glob ?ze ?zhg ?zhk ?zhx ?zhd ?_); (case ze => top_raise0); (case zhg => rfl); (case zhk => rfl); (case zhx => kernel_rfl!); (case zhd => decide +kernel))
    with_reducible refine t_args0 ?_
    ((with_reducible refine cp0 ?zhc ?_); (case zhc => k_caughtNB))
    ((with_reducible refine' tin_tupF ?zha ?zhe ?_); (case zha => top_raise); (case zhe => top_reprB))
    with_reducible refine tt_bool ?_
    with_reducible refine if_f ?_
    with_reducible refine t_nil ?_
    with_reducible refine fl_next ?_
    with_reducible refine t_cons ?_
    with_reducible refine t_Assert ?_
    ((with_reducible refine t_isCmp ?_ ?zhb); (case zhb => rfl))
    ((with_reducible refine t_Call ?_ ?zhe); (case zhe => rfl))
    ((with_reducible refine' t_bltin ?ze ?zhv ?zhn ?zhg ?zhb ?zhk ?zhx ?zhd ?_); (case zhv => top_strB); (case ze => top_argsB); (case zhn => decide +kernel); (case zhg => rfl); (case zhb => rfl); (case zhk => rfl); (case zhx => kernel_rfl!); (case zhd => decide +kernel))
    with_reducible refine t_callWithP ?_
    ((with_reducible refine t_evalArgs ?_ ?zhe); (case zhe => rfl))
    ((with_reducible refine t_args ?_ ?zhe); (case zhe => rfl))
    ((with_reducible refine' t_local ?zhL ?zhN ?zhv ?zhx ?zhk ?zhd ?_); (case zhx => kernel_rfl!); (case zhN => top_name); (case zhL => rfl); (case zhv => top_name); (case zhk => rfl); (case zhd => decide +kernel))
    with_reducible refine t_args0 ?_
    ((with_reducible refine cp0 ?zhc ?_); (case zhc => k_caughtNB))
    ((with_reducible refine' ty_tup ?zha ?_); (case zha => top_raise))
    ((with_reducible refine' t_bltin ?ze ?zhv ?zhn ?zhg ?zhb ?zhk ?zhx ?zhd ?_); (case zhv => top_strB); (case ze => top_argsB); (case zhn => decide +kernel); (case zhg => rfl); (case zhb => rfl); (case zhk => rfl); (case zhx => kernel_rfl!); (case zhd => decide +kernel))
    ((with_reducible refine tc_is ?zhp ?_); (case zhp => rfl))
    with_reducible refine tt_bool ?_
    refine And.intro (by first | rfl | decide) ?_
    with_reducible refine fl_next ?_
    with_reducible refine t_cons ?_
    ((with_reducible refine t_AssignName ?_ ?zhs); (case zhs => rfl))
    ((with_reducible refine' t_MCall ?_ ?zhe); (case zhe => rfl))
    ((with_reducible refine' t_local ?zhL ?zhN ?zhv ?zhx ?zhk ?zhd ?_); (case zhx => kernel_rfl!); (case zhN => top_name); (case zhL => rfl); (case zhv => top_name); (case zhk => rfl); (case zhd => decide +kernel))
    ((with_reducible refine' t_methodOf (f := 669) ?zhx ?zhd ?zhf ?zhg ?zhn ?_); (case zhx => top_raise); (case zhd => top_raise); (case zhf => top_reprB); (case zhg => top_reprB); (case zhn => kernel_rfl!))
    with_reducible refine mc ?_
    with_reducible refine t_callWithP ?_
    ((with_reducible refine t_evalArgs ?_ ?zhe); (case zhe => rfl))
    ((with_reducible refine t_args ?_ ?zhe); (case zhe => rfl))
    with_reducible refine t_Sub ?_
    ((with_reducible refine' t_local ?zhL ?zhN ?zhv ?zhx ?zhk ?zhd ?_); (case zhx => kernel_rfl!); (case zhN => top_name); (case zhL => rfl); (case zhv => top_name); (case zhk => rfl); (case zhd => decide +kernel))
    ((with_reducible refine t_int ?_); (intro _))
    ((with_reducible refine' t_subTup ?zha ?zhs ?_); (case zha => top_raise); (case zhs => rfl))
    ((with_reducible refine' t_itemTup ?zha ?zhi ?zhz ?zhv ?_); (case zha => top_raise); (case zhi => decide); (case zhz => decide); (case zhv => rfl))
    ((with_reducible refine t_args ?_ ?zhe); (case zhe => rfl))
    ((with_reducible refine' t_local ?zhL ?zhN ?zhv ?zhx ?zhk ?zhd ?_); (case zhx => kernel_rfl!); (case zhN => top_name); (case zhL => rfl); (case zhv => top_name); (case zhk => rfl); (case zhd => decide +kernel))
    ((with_reducible refine t_args ?_ ?zhe); (case zhe => rfl))
    ((with_reducible refine' t_local ?zhL ?zhN ?zhv ?zhx ?zhk ?zhd ?_); (case zhx => kernel_rfl!); (case zhN => top_name); (case zhL => rfl); (case zhv => top_name); (case zhk => rfl); (case zhd => decide +kernel))
    with_reducible refine t_args0 ?_
    ((with_reducible refine cp1 ?zhc ?_); (case zhc => k_caughtNB))
    ((with_reducible refine' tr_call (sp_pregex ?zhp ?zhd ?zhA _ ?_)); (case zhp => top_raise); (case zhd => top_raise); (case zhA => k_caughtN0); (intro _))
    ((with_reducible refine' t_store ?zhL ?zu ?zhN ?zhl ?zhx ?zhk ?_); (case zhx => kernel_rfl!); (case zhN => top_name); (case zhL => rfl); (case zhl => k_caught0); (case zu => k_caught0); (case zhk => rfl))
    with_reducible refine fl_next ?_
    with_reducible refine t_cons ?_
    ((with_reducible refine t_AssignName ?_ ?zhs); (case zhs => rfl))
    ((with_reducible refine' t_MCall ?_ ?zhe); (case zhe => rfl))
    ((with_reducible refine' t_local ?zhL ?zhN ?zhv ?zhx ?zhk ?zhd ?_); (case zhx => kernel_rfl!); (case zhN => top_name); (case zhL => rfl); (case zhv => top_name); (case zhk => rfl); (case zhd => decide +kernel))
    ((with_reducible refine' t_methodOf (f := 522) ?zhx ?zhd ?zhf ?zhg ?zhn ?_); (case zhx => top_raise); (case zhd => top_raise); (case zhf => top_reprB); (case zhg => top_reprB); (case zhn => kernel_rfl!))
    with_reducible refine mc ?_
    with_reducible refine t_callWithP ?_
    ((with_reducible refine t_evalArgs ?_ ?zhe); (case zhe => rfl))
    ((with_reducible refine t_args ?_ ?zhe); (case zhe => rfl))
    with_reducible refine t_Sub ?_
    ((with_reducible refine' t_local ?zhL ?zhN ?zhv ?zhx ?zhk ?zhd ?_); (case zhx => kernel_rfl!); (case zhN => top_name); (case zhL => rfl); (case zhv => top_name); (case zhk => rfl); (case zhd => decide +kernel))
    ((with_reducible refine t_int ?_); (intro _))
    ((with_reducible refine' t_subTup ?zha ?zhs ?_); (case zha => top_raise); (case zhs => rfl))
    ((with_reducible refine' t_itemTup ?zha ?zhi ?zhz ?zhv ?_); (case zha => top_raise); (case zhi => decide); (case zhz => decide); (case zhv => rfl))
    with_reducible refine t_args0 ?_
    ((with_reducible refine cp1 ?zhc ?_); (case zhc => k_caughtNB))
    ((with_reducible refine' tr_call (sp_ptoken ?zht ?zhd ?zhA _ ?_)); (case zht => top_raise); (case zhd => top_raise); (case zhA => k_caughtN0))
    ((with_reducible refine' t_store ?zhL ?zu ?zhN ?zhl ?zhx ?zhk ?_); (case zhx => kernel_rfl!); (case zhN => top_name); (case zhL => rfl); (case zhl => k_caught0); (case zu => k_caught0); (case zhk => rfl))
    with_reducible refine fl_next ?_
    with_reducible refine t_cons ?_
    with_reducible refine t_If ?_
    ((with_reducible refine t_isCmp ?_ ?zhb); (case zhb => rfl))
    ((with_reducible refine t_Call ?_ ?zhe); (case zhe => rfl))
    ((with_reducible refine' t_bltin ?ze ?zhv ?zhn ?zhg ?zhb ?zhk ?zhx ?zhd ?_); (case zhv => top_strB); (case ze => top_argsB); (case zhn => decide +kernel); (case zhg => rfl); (case zhb => rfl); (case zhk => rfl); (case zhx => kernel_rfl!); (case zhd => decide +kernel))
    with_reducible refine t_callWithP ?_
    ((with_reducible refine t_evalArgs ?_ ?zhe); (case zhe => rfl))
    ((with_reducible refine t_args ?_ ?zhe); (case zhe => rfl))
    ((with_reducible refine' t_local ?zhL ?zhN ?zhv ?zhx ?zhk ?zhd ?_); (case zhx => kernel_rfl!); (case zhN => top_name); (case zhL => rfl); (case zhv => top_name); (case zhk => rfl); (case zhd => decide +kernel))
    with_reducible refine t_args0 ?_
    ((with_reducible refine cp0 ?zhc ?_); (case zhc => k_caughtNB))
    rename_i mo tki
    have fin : ∀ F3 nt av, F1.le F3 → Fz w.params F3 nt (.tup [.ref mo, .ref r.ty, av]) → Fz w.params F3 mo (.raw (methodObj (.ref 648) (.ref pl))) → ActAt w.params F3 av r.act → RulesAt ads w.params F3 (ws ++ [.ref nt]) (rs.take (i + 1)) := fun F3 nt av le h1 h2 h3 => by
      rw [List.take_add_one, hri]
      exact (hws.mono le).snoc ⟨nt, mo, av, rfl, h1, ⟨pl, dp, rw_, r1, tr, h2, hpl1.mono le, hdp1.mono le, (hrw.mono hF1).mono le, (hr1.mono hF1).mono le⟩, ⟨dy, fy, hty1.mono le, hdy1.mono le⟩, h3⟩
    cases hra : r.act with
    | stay =>
      rw [hra] at hact1
      obtain rfl := hact1
      ((with_reducible refine' t_lenT ?zha ?zhz ?_); (case zha => top_raise); (case zhz => simp); (intro _))
      ((with_reducible refine t_int ?_); (intro _))
      with_reducible refine tc_eqI ?_
      with_reducible refine tt_bool ?_
      ((with_reducible refine if_T ?ze ?_); (case ze => (first | rfl | decide)))
      with_reducible refine t_cons ?_
      ((with_reducible refine t_AssignName ?_ ?zhs); (case zhs => rfl))
      with_reducible refine t_none ?_
      ((with_reducible refine' t_store ?zhL ?zu ?zhN ?zhl ?zhx ?zhk ?_); (case zhx => kernel_rfl!); (case zhN => top_name); (case zhL => rfl); (case zhl => k_caught0); (case zu => k_caught0); (case zhk => rfl))
      with_reducible refine fl_next ?_
      with_reducible refine t_nil ?_
      with_reducible refine fl_next ?_
      with_reducible refine t_cons ?_
      ((with_reducible refine t_ExprSt ?_ ?zhi ?zhs); (case zhi => rfl); (case zhs => rfl))
      ((with_reducible refine' t_MCall ?_ ?zhe); (case zhe => rfl))
      ((with_reducible refine' t_local ?zhL ?zhN ?zhv ?zhx ?zhk ?zhd ?_); (case zhx => kernel_rfl!); (case zhN => top_name); (case zhL => rfl); (case zhv => top_name); (case zhk => rfl); (case zhd => decide +kernel))
      ((with_reducible refine' ml_append ?zha ?_); (case zha => top_raise))
      with_reducible refine mc ?_
      with_reducible refine t_callWithP ?_
      ((with_reducible refine t_evalArgs ?_ ?zhe); (case zhe => rfl))
      ((with_reducible refine t_args ?_ ?zhe); (case zhe => rfl))
      with_reducible refine t_Tuple ?_
      ((with_reducible refine t_args ?_ ?zhe); (case zhe => rfl))
      ((with_reducible refine' t_local ?zhL ?zhN ?zhv ?zhx ?zhk ?zhd ?_); (case zhx => kernel_rfl!); (case zhN => top_name); (case zhL => rfl); (case zhv => top_name); (case zhk => rfl); (case zhd => decide +kernel))
      ((with_reducible refine t_args ?_ ?zhe); (case zhe => rfl))
      ((with_reducible refine' t_local ?zhL ?zhN ?zhv ?zhx ?zhk ?zhd ?_); (case zhx => kernel_rfl!); (case zhN => top_name); (case zhL => rfl); (case zhv => top_name); (case zhk => rfl); (case zhd => decide +kernel))
      ((with_reducible refine t_args ?_ ?zhe); (case zhe => rfl))
      ((with_reducible refine' t_local ?zhL ?zhN ?zhv ?zhx ?zhk ?zhd ?_); (case zhx => kernel_rfl!); (case zhN => top_name); (case zhL => rfl); (case zhv => top_name); (case zhk => rfl); (case zhd => decide +kernel))
      with_reducible refine t_args0 ?_
      ((with_reducible refine t_newTuple ?zhz ?_); (case zhz => simp [sizeLine]))
      intro _
      with_reducible refine t_args0 ?_
      ((with_reducible refine cp1 ?zhc ?_); (case zhc => k_caughtNB))
      ((with_reducible refine' t_append ?zha ?zu ?zhz ?_); (case zha => top_name); (case zu => k_caught0); (case zhz => (unfold sizeLine; omega)))
      with_reducible refine fl_next ?_
      with_reducible refine t_nil ?_
      with_reducible refine tu_next ?_
      rename_i tz nt
      refine cl_fix (N2 := (nt, .tup [.ref mo, .ref r.ty, .none]) :: (mo, .raw (methodObj (.ref 648) (.ref pl))) :: (it, itL ls (i + 1)) :: (tl, .lst (ws ++ [.ref nt])) :: (pr, .dic (acc ++ [(k, .ref tl)])) :: (L, .ns [("cls", .ref x), ("unprocessed", .ref up), ("processed", .ref pr), ("state", .str k t), ("tokens", .ref tl), ("rflags", .int 8 1197)]) :: N) (by k_caught0) (by k_caught0) (by k_caught0) ?_
      refine cl_freeze2 fun F3 hF3 h1 h2 => ?_
      exact IH (vs.length - (i + 1)) (by omega) _ ⟨F3, i + 1, _, rfl, PH.le_trans hF1 hF3, by omega, fin F3 _ _ hF3 h1 h2 (by rw [hra]; rfl)⟩
    | go ll =>
      rw [hra] at hact1
      obtain ⟨vv, rfl, ht | ⟨y, ty, rfl, rfl, hy, hyk⟩⟩ := hact1
      · ((with_reducible refine' t_lenT ?zha ?zhz ?_); (case zha => top_raise); (case zhz => simp); (intro _))
        ((with_reducible refine t_int ?_); (intro _))
        with_reducible refine tc_eqI ?_
        with_reducible refine tt_bool ?_
        ((with_reducible refine if_F ?ze ?_); (case ze => (first | rfl | decide)))
        with_reducible refine t_cons ?_
        ((with_reducible refine t_AssignName ?_ ?zhs); (case zhs => rfl))
        ((with_reducible refine' t_MCall ?_ ?zhe); (case zhe => rfl))
        ((with_reducible refine' t_local ?zhL ?zhN ?zhv ?zhx ?zhk ?zhd ?_); (case zhx => kernel_rfl!); (case zhN => top_name); (case zhL => rfl); (case zhv => top_name); (case zhk => rfl); (case zhd => decide +kernel))
        ((with_reducible refine' t_methodOf (f := 529) ?zhx ?zhd ?zhf ?zhg ?zhn ?_); (case zhx => top_raise); (case zhd => top_raise); (case zhf => top_reprB); (case zhg => top_reprB); (case zhn => kernel_rfl!))
        with_reducible refine mc ?_
        with_reducible refine t_callWithP ?_
        ((with_reducible refine t_evalArgs ?_ ?zhe); (case zhe => rfl))
        ((with_reducible refine t_args ?_ ?zhe); (case zhe => rfl))
        with_reducible refine t_Sub ?_
        ((with_reducible refine' t_local ?zhL ?zhN ?zhv ?zhx ?zhk ?zhd ?_); (case zhx => kernel_rfl!); (case zhN => top_name); (case zhL => rfl); (case zhv => top_name); (case zhk => rfl); (case zhd => decide +kernel))
        ((with_reducible refine t_int ?_); (intro _))
        ((with_reducible refine' t_subTup ?zha ?zhs ?_); (case zha => top_raise); (case zhs => rfl))
        ((with_reducible refine' t_itemTup ?zha ?zhi ?zhz ?zhv ?_); (case zha => top_raise); (case zhi => decide); (case zhz => decide); (case zhv => rfl))
        ((with_reducible refine t_args ?_ ?zhe); (case zhe => rfl))
        ((with_reducible refine' t_local ?zhL ?zhN ?zhv ?zhx ?zhk ?zhd ?_); (case zhx => kernel_rfl!); (case zhN => top_name); (case zhL => rfl); (case zhv => top_name); (case zhk => rfl); (case zhd => decide +kernel))
        ((with_reducible refine t_args ?_ ?zhe); (case zhe => rfl))
        ((with_reducible refine' t_local ?zhL ?zhN ?zhv ?zhx ?zhk ?zhd ?_); (case zhx => kernel_rfl!); (case zhN => top_name); (case zhL => rfl); (case zhv => top_name); (case zhk => rfl); (case zhd => decide +kernel))
        with_reducible refine t_args0 ?_
        ((with_reducible refine cp1 ?zhc ?_); (case zhc => k_caughtNB))
        refine tr_call (sp_pnsT (Kn.fz' hup1) ht (by k_caughtN0) _ fun hav => ?_)
        ((with_reducible refine' t_store ?zhL ?zu ?zhN ?zhl ?zhx ?zhk ?_); (case zhx => kernel_rfl!); (case zhN => top_name); (case zhL => rfl); (case zhl => k_caught0); (case zu => k_caught0); (case zhk => rfl))
        with_reducible refine fl_next ?_
        with_reducible refine t_nil ?_
        with_reducible refine fl_next ?_
        with_reducible refine t_cons ?_
        ((with_reducible refine t_ExprSt ?_ ?zhi ?zhs); (case zhi => rfl); (case zhs => rfl))
        ((with_reducible refine' t_MCall ?_ ?zhe); (case zhe => rfl))
        ((with_reducible refine' t_local ?zhL ?zhN ?zhv ?zhx ?zhk ?zhd ?_); (case zhx => kernel_rfl!); (case zhN => top_name); (case zhL => rfl); (case zhv => top_name); (case zhk => rfl); (case zhd => decide +kernel))
        ((with_reducible refine' ml_append ?zha ?_); (case zha => top_raise))
        with_reducible refine mc ?_
        with_reducible refine t_callWithP ?_
        ((with_reducible refine t_evalArgs ?_ ?zhe); (case zhe => rfl))
        ((with_reducible refine t_args ?_ ?zhe); (case zhe => rfl))
        with_reducible refine t_Tuple ?_
        ((with_reducible refine t_args ?_ ?zhe); (case zhe => rfl))
        ((with_reducible refine' t_local ?zhL ?zhN ?zhv ?zhx ?zhk ?zhd ?_); (case zhx => kernel_rfl!); (case zhN => top_name); (case zhL => rfl); (case zhv => top_name); (case zhk => rfl); (case zhd => decide +kernel))
        ((with_reducible refine t_args ?_ ?zhe); (case zhe => rfl))
        ((with_reducible refine' t_local ?zhL ?zhN ?zhv ?zhx ?zhk ?zhd ?_); (case zhx => kernel_rfl!); (case zhN => top_name); (case zhL => rfl); (case zhv => top_name); (case zhk => rfl); (case zhd => decide +kernel))
        ((with_reducible refine t_args ?_ ?zhe); (case zhe => rfl))
        ((with_reducible refine' t_local ?zhL ?zhN ?zhv ?zhx ?zhk ?zhd ?_); (case zhx => kernel_rfl!); (case zhN => top_name); (case zhL => rfl); (case zhv => top_name); (case zhk => rfl); (case zhd => decide +kernel))
        with_reducible refine t_args0 ?_
        ((with_reducible refine t_newTuple ?zhz ?_); (case zhz => simp [sizeLine]))
        intro _
        with_reducible refine t_args0 ?_
        ((with_reducible refine cp1 ?zhc ?_); (case zhc => k_caughtNB))
        ((with_reducible refine' t_append ?zha ?zu ?zhz ?_); (case zha => top_name); (case zu => k_caught0); (case zhz => (unfold sizeLine; omega)))
        with_reducible refine fl_next ?_
        with_reducible refine t_nil ?_
        with_reducible refine tu_next ?_
        rename_i tz nt
        refine cl_fix (N2 := (nt, .tup [.ref mo, .ref r.ty, vv]) :: (mo, .raw (methodObj (.ref 648) (.ref pl))) :: (it, itL ls (i + 1)) :: (tl, .lst (ws ++ [.ref nt])) :: (pr, .dic (acc ++ [(k, .ref tl)])) :: (L, .ns [("cls", .ref x), ("unprocessed", .ref up), ("processed", .ref pr), ("state", .str k t), ("tokens", .ref tl), ("rflags", .int 8 1197)]) :: N) (by k_caught0) (by k_caught0) (by k_caught0) ?_
        refine cl_freeze2 fun F3 hF3 h1 h2 => ?_
        exact IH (vs.length - (i + 1)) (by omega) _ ⟨F3, i + 1, _, rfl, PH.le_trans hF1 hF3, by omega, fin F3 _ _ hF3 h1 h2 (by rw [hra]; exact hav.mono hF3)⟩
      · ((with_reducible refine' t_lenT ?zha ?zhz ?_); (case zha => top_raise); (case zhz => simp); (intro _))
        ((with_reducible refine t_int ?_); (intro _))
        with_reducible refine tc_eqI ?_
        with_reducible refine tt_bool ?_
        ((with_reducible refine if_F ?ze ?_); (case ze => (first | rfl | decide)))
        with_reducible refine t_cons ?_
        ((with_reducible refine t_AssignName ?_ ?zhs); (case zhs => rfl))
        ((with_reducible refine' t_MCall ?_ ?zhe); (case zhe => rfl))
        ((with_reducible refine' t_local ?zhL ?zhN ?zhv ?zhx ?zhk ?zhd ?_); (case zhx => kernel_rfl!); (case zhN => top_name); (case zhL => rfl); (case zhv => top_name); (case zhk => rfl); (case zhd => decide +kernel))
        ((with_reducible refine' t_methodOf (f := 529) ?zhx ?zhd ?zhf ?zhg ?zhn ?_); (case zhx => top_raise); (case zhd => top_raise); (case zhf => top_reprB); (case zhg => top_reprB); (case zhn => kernel_rfl!))
        with_reducible refine mc ?_
        with_reducible refine t_callWithP ?_
        ((with_reducible refine t_evalArgs ?_ ?zhe); (case zhe => rfl))
        ((with_reducible refine t_args ?_ ?zhe); (case zhe => rfl))
        with_reducible refine t_Sub ?_
        ((with_reducible refine' t_local ?zhL ?zhN ?zhv ?zhx ?zhk ?zhd ?_); (case zhx => kernel_rfl!); (case zhN => top_name); (case zhL => rfl); (case zhv => top_name); (case zhk => rfl); (case zhd => decide +kernel))
        ((with_reducible refine t_int ?_); (intro _))
        ((with_reducible refine' t_subTup ?zha ?zhs ?_); (case zha => top_raise); (case zhs => rfl))
        ((with_reducible refine' t_itemTup ?zha ?zhi ?zhz ?zhv ?_); (case zha => top_raise); (case zhi => decide); (case zhz => decide); (case zhv => rfl))
        ((with_reducible refine t_args ?_ ?zhe); (case zhe => rfl))
        ((with_reducible refine' t_local ?zhL ?zhN ?zhv ?zhx ?zhk ?zhd ?_); (case zhx => kernel_rfl!); (case zhN => top_name); (case zhL => rfl); (case zhv => top_name); (case zhk => rfl); (case zhd => decide +kernel))
        ((with_reducible refine t_args ?_ ?zhe); (case zhe => rfl))
        ((with_reducible refine' t_local ?zhL ?zhN ?zhv ?zhx ?zhk ?zhd ?_); (case zhx => kernel_rfl!); (case zhN => top_name); (case zhL => rfl); (case zhv => top_name); (case zhk => rfl); (case zhd => decide +kernel))
        with_reducible refine t_args0 ?_
        ((with_reducible refine cp1 ?zhc ?_); (case zhc => k_caughtNB))
        refine tr_call (sp_pnsS (Kn.fz' hup1) hy hyk (by k_caughtN0) _ fun na ta => ?_)
        ((with_reducible refine' t_store ?zhL ?zu ?zhN ?zhl ?zhx ?zhk ?_); (case zhx => kernel_rfl!); (case zhN => top_name); (case zhL => rfl); (case zhl => k_caught0); (case zu => k_caught0); (case zhk => rfl))
        with_reducible refine fl_next ?_
        with_reducible refine t_nil ?_
        with_reducible refine fl_next ?_
        with_reducible refine t_cons ?_
        ((with_reducible refine t_ExprSt ?_ ?zhi ?zhs); (case zhi => rfl); (case zhs => rfl))
        ((with_reducible refine' t_MCall ?_ ?zhe); (case zhe => rfl))
        ((with_reducible refine' t_local ?zhL ?zhN ?zhv ?zhx ?zhk ?zhd ?_); (case zhx => kernel_rfl!); (case zhN => top_name); (case zhL => rfl); (case zhv => top_name); (case zhk => rfl); (case zhd => decide +kernel))
        ((with_reducible refine' ml_append ?zha ?_); (case zha => top_raise))
        with_reducible refine mc ?_
        with_reducible refine t_callWithP ?_
        ((with_reducible refine t_evalArgs ?_ ?zhe); (case zhe => rfl))
        ((with_reducible refine t_args ?_ ?zhe); (case zhe => rfl))
        with_reducible refine t_Tuple ?_
        ((with_reducible refine t_args ?_ ?zhe); (case zhe => rfl))
        ((with_reducible refine' t_local ?zhL ?zhN ?zhv ?zhx ?zhk ?zhd ?_); (case zhx => kernel_rfl!); (case zhN => top_name); (case zhL => rfl); (case zhv => top_name); (case zhk => rfl); (case zhd => decide +kernel))
        ((with_reducible refine t_args ?_ ?zhe); (case zhe => rfl))
        ((with_reducible refine' t_local ?zhL ?zhN ?zhv ?zhx ?zhk ?zhd ?_); (case zhx => kernel_rfl!); (case zhN => top_name); (case zhL => rfl); (case zhv => top_name); (case zhk => rfl); (case zhd => decide +kernel))
        ((with_reducible refine t_args ?_ ?zhe); (case zhe => rfl))
        ((with_reducible refine' t_local ?zhL ?zhN ?zhv ?zhx ?zhk ?zhd ?_); (case zhx => kernel_rfl!); (case zhN => top_name); (case zhL => rfl); (case zhv => top_name); (case zhk => rfl); (case zhd => decide +kernel))
        with_reducible refine t_args0 ?_
        ((with_reducible refine t_newTuple ?zhz ?_); (case zhz => simp [sizeLine]))
        intro _
        with_reducible refine t_args0 ?_
        ((with_reducible refine cp1 ?zhc ?_); (case zhc => k_caughtNB))
        ((with_reducible refine' t_append ?zha ?zu ?zhz ?_); (case zha => top_name); (case zu => k_caught0); (case zhz => (unfold sizeLine; omega)))
        with_reducible refine fl_next ?_
        with_reducible refine t_nil ?_
        with_reducible refine tu_next ?_
        rename_i tz nt
        refine cl_fix (N2 := (na, .tup [.str y ta]) :: (nt, .tup [.ref mo, .ref r.ty, .ref na]) :: (mo, .raw (methodObj (.ref 648) (.ref pl))) :: (it, itL ls (i + 1)) :: (tl, .lst (ws ++ [.ref nt])) :: (pr, .dic (acc ++ [(k, .ref tl)])) :: (L, .ns [("cls", .ref x), ("unprocessed", .ref up), ("processed", .ref pr), ("state", .str k t), ("tokens", .ref tl), ("rflags", .int 8 1197)]) :: N) (by k_caught0) (by k_caught0) (by k_caught0) ?_
        refine cl_freeze .head fun F2 hF2 h0 => ?_
        refine cl_freeze2 fun F3 hF3 h1 h2 => ?_
        have hF := PH.le_trans hF2 hF3
        exact IH (vs.length - (i + 1)) (by omega) _ ⟨F3, i + 1, _, rfl, PH.le_trans hF1 hF, by omega, fin F3 _ _ hF h1 h2 (by rw [hra]; exact ⟨na, _, rfl, h0.mono hF3, .cons .nil⟩)⟩
    | pop =>
      rw [hra] at hact1
      obtain ⟨ty, rfl⟩ := hact1
      ((with_reducible refine' t_lenT ?zha ?zhz ?_); (case zha => top_raise); (case zhz => simp); (intro _))
      ((with_reducible refine t_int ?_); (intro _))
      with_reducible refine tc_eqI ?_
      with_reducible refine tt_bool ?_
      ((with_reducible refine if_F ?ze ?_); (case ze => (first | rfl | decide)))
      with_reducible refine t_cons ?_
      ((with_reducible refine t_AssignName ?_ ?zhs); (case zhs => rfl))
      ((with_reducible refine' t_MCall ?_ ?zhe); (case zhe => rfl))
      ((with_reducible refine' t_local ?zhL ?zhN ?zhv ?zhx ?zhk ?zhd ?_); (case zhx => kernel_rfl!); (case zhN => top_name); (case zhL => rfl); (case zhv => top_name); (case zhk => rfl); (case zhd => decide +kernel))
      ((with_reducible refine' t_methodOf (f := 529) ?zhx ?zhd ?zhf ?zhg ?zhn ?_); (case zhx => top_raise); (case zhd => top_raise); (case zhf => top_reprB); (case zhg => top_reprB); (case zhn => kernel_rfl!))
      with_reducible refine mc ?_
      with_reducible refine t_callWithP ?_
      ((with_reducible refine t_evalArgs ?_ ?zhe); (case zhe => rfl))
      ((with_reducible refine t_args ?_ ?zhe); (case zhe => rfl))
      with_reducible refine t_Sub ?_
      ((with_reducible refine' t_local ?zhL ?zhN ?zhv ?zhx ?zhk ?zhd ?_); (case zhx => kernel_rfl!); (case zhN => top_name); (case zhL => rfl); (case zhv => top_name); (case zhk => rfl); (case zhd => decide +kernel))
      ((with_reducible refine t_int ?_); (intro _))
      ((with_reducible refine' t_subTup ?zha ?zhs ?_); (case zha => top_raise); (case zhs => rfl))
      ((with_reducible refine' t_itemTup ?zha ?zhi ?zhz ?zhv ?_); (case zha => top_raise); (case zhi => decide); (case zhz => decide); (case zhv => rfl))
      ((with_reducible refine t_args ?_ ?zhe); (case zhe => rfl))
      ((with_reducible refine' t_local ?zhL ?zhN ?zhv ?zhx ?zhk ?zhd ?_); (case zhx => kernel_rfl!); (case zhN => top_name); (case zhL => rfl); (case zhv => top_name); (case zhk => rfl); (case zhd => decide +kernel))
      ((with_reducible refine t_args ?_ ?zhe); (case zhe => rfl))
      ((with_reducible refine' t_local ?zhL ?zhN ?zhv ?zhx ?zhk ?zhd ?_); (case zhx => kernel_rfl!); (case zhN => top_name); (case zhL => rfl); (case zhv => top_name); (case zhk => rfl); (case zhd => decide +kernel))
      with_reducible refine t_args0 ?_
      ((with_reducible refine cp1 ?zhc ?_); (case zhc => k_caughtNB))
      refine tr_call (sp_pnsPop (by k_caughtN0) _ fun tv => ?_)
      ((with_reducible refine' t_store ?zhL ?zu ?zhN ?zhl ?zhx ?zhk ?_); (case zhx => kernel_rfl!); (case zhN => top_name); (case zhL => rfl); (case zhl => k_caught0); (case zu => k_caught0); (case zhk => rfl))
      with_reducible refine fl_next ?_
      with_reducible refine t_nil ?_
      with_reducible refine fl_next ?_
      with_reducible refine t_cons ?_
      ((with_reducible refine t_ExprSt ?_ ?zhi ?zhs); (case zhi => rfl); (case zhs => rfl))
      ((with_reducible refine' t_MCall ?_ ?zhe); (case zhe => rfl))
      ((with_reducible refine' t_local ?zhL ?zhN ?zhv ?zhx ?zhk ?zhd ?_); (case zhx => kernel_rfl!); (case zhN => top_name); (case zhL => rfl); (case zhv => top_name); (case zhk => rfl); (case zhd => decide +kernel))
      ((with_reducible refine' ml_append ?zha ?_); (case zha => top_raise))
      with_reducible refine mc ?_
      with_reducible refine t_callWithP ?_
      ((with_reducible refine t_evalArgs ?_ ?zhe); (case zhe => rfl))
      ((with_reducible refine t_args ?_ ?zhe); (case zhe => rfl))
      with_reducible refine t_Tuple ?_
      ((with_reducible refine t_args ?_ ?zhe); (case zhe => rfl))
      ((with_reducible refine' t_local ?zhL ?zhN ?zhv ?zhx ?zhk ?zhd ?_); (case zhx => kernel_rfl!); (case zhN => top_name); (case zhL => rfl); (case zhv => top_name); (case zhk => rfl); (case zhd => decide +kernel))
      ((with_reducible refine t_args ?_ ?zhe); (case zhe => rfl))
      ((with_reducible refine' t_local ?zhL ?zhN ?zhv ?zhx ?zhk ?zhd ?_); (case zhx => kernel_rfl!); (case zhN => top_name); (case zhL => rfl); (case zhv => top_name); (case zhk => rfl); (case zhd => decide +kernel))
      ((with_reducible refine t_args ?_ ?zhe); (case zhe => rfl))
      ((with_reducible refine' t_local ?zhL ?zhN ?zhv ?zhx ?zhk ?zhd ?_); (case zhx => kernel_rfl!); (case zhN => top_name); (case zhL => rfl); (case zhv => top_name); (case zhk => rfl); (case zhd => decide +kernel))
      with_reducible refine t_args0 ?_
      ((with_reducible refine t_newTuple ?zhz ?_); (case zhz => simp [sizeLine]))
      intro _
      with_reducible refine t_args0 ?_
      ((with_reducible refine cp1 ?zhc ?_); (case zhc => k_caughtNB))
      ((with_reducible refine' t_append ?zha ?zu ?zhz ?_); (case zha => top_name); (case zu => k_caught0); (case zhz => (unfold sizeLine; omega)))
      with_reducible refine fl_next ?_
      with_reducible refine t_nil ?_
      with_reducible refine tu_next ?_
      rename_i tz nt
      refine cl_fix (N2 := (nt, .tup [.ref mo, .ref r.ty, .int (-1) tv]) :: (mo, .raw (methodObj (.ref 648) (.ref pl))) :: (it, itL ls (i + 1)) :: (tl, .lst (ws ++ [.ref nt])) :: (pr, .dic (acc ++ [(k, .ref tl)])) :: (L, .ns [("cls", .ref x), ("unprocessed", .ref up), ("processed", .ref pr), ("state", .str k t), ("tokens", .ref tl), ("rflags", .int 8 1197)]) :: N) (by k_caught0) (by k_caught0) (by k_caught0) ?_
      refine cl_freeze2 fun F3 hF3 h1 h2 => ?_
      exact IH (vs.length - (i + 1)) (by omega) _ ⟨F3, i + 1, _, rfl, PH.le_trans hF1 hF3, by omega, fin F3 _ _ hF3 h1 h2 (by rw [hra]; exact ⟨_, rfl⟩)⟩
  · ((with_reducible refine' t_nextListEnd ?zhh ?zhi ?zha ?zhv ?zu ?_); (case zhh => (refine Rm.hd (n := 0) ?_; k_caughtN0)); (case zhi => top_name); (case zha => exact Kn.fz' hls1); (case zhv => exact hi); (case zu => k_caught0))
    with_reducible refine t_nil ?_
    with_reducible refine fl_next ?_
    with_reducible refine t_cons ?_
    with_reducible refine t_Return ?_
    ((with_reducible refine' t_local ?zhL ?zhN ?zhv ?zhx ?zhk ?zhd ?_); (case zhx => kernel_rfl!); (case zhN => top_name); (case zhL => rfl); (case zhv => top_name); (case zhk => rfl); (case zhd => decide +kernel))
    with_reducible refine fl_ret ?_
    rw [List.take_of_length_le (by omega)] at hws
    exact ⟨_, by k_caught0, _, rfl, h _ _ _ hF1 hws⟩
end Mine

open PySem PySem.W PySem.W.X PyProof.Rows PySem.Calls PySem.Builtin.ObjectAttr
set_option maxRecDepth 100000
set_option Elab.async false
set_option autoImplicit false
set_option linter.unusedVariables false
set_option maxHeartbeats 4000000
namespace Mine
local macro_rules | `(tactic| top_name) => `(tactic| first | (with_reducible exact List.mem_cons_self) | (with_reducible refine List.mem_cons_of_mem _ ?_; top_name) | (with_reducible assumption))
local macro_rules | `(tactic| k_caught0) => `(tactic| first
  | (with_reducible exact LUpd.head) | (with_reducible exact LSet.nil) | (with_reducible exact LSet.head) | (with_reducible exact Rem.head) | (with_reducible exact Pick.refl)
  | ((with_reducible apply LUpd.tail); (k_caught0))
  | ((with_reducible apply LSet.tail); (· (decide +kernel)); (k_caught0))
  | ((with_reducible apply Rem.tail); (k_caught0))
  | ((with_reducible apply Pick.cons); (· k_caught0); (k_caught0))
  | ((with_reducible apply Pick.drop); (k_caught0)))
local macro_rules | `(tactic| top_raise) => `(tactic| first | (with_reducible refine Kn.row' ?_; top_name) | (with_reducible refine Kn.fz' ?_; with_reducible assumption) | (with_reducible assumption) | ((with_reducible refine Kn.skip ?_); top_raise))
local macro_rules | `(tactic| k_caughtN0) => `(tactic| first | assumption | (exact Rm.le (by assumption) (by decide)) | ((refine Rm.dp ?_); k_caughtN0) | ((refine Rm.mk' ?_); k_caughtN0) | (refine Rm.le (Rm.over (n := 40) (Rm.le (by assumption) (by decide)) (by first | exact Quiet.ok (by assumption) | exact fsOk_while (Quiet.ok (by assumption)))) (by decide)))
local macro_rules | `(tactic| k_caughtB) => `(tactic| first | exact Strs.nil | ((apply Strs.cons); k_caughtB) | assumption)
local macro_rules | `(tactic| top_strB) => `(tactic| with_reducible first | exact bl_len | exact bl_isinstance | exact bl_type | exact bl_list | exact bl_tuple | exact bl_range | exact bl_str | exact bl_int | exact bl_abs | exact bl_sum | exact bl_enumerate | exact bl_zip | exact bl_max | exact bl_min | exact bl_divmod | exact bl_callable)
local macro_rules | `(tactic| top_raise0) => `(tactic| with_reducible first | exact g_wall_ | exact g_TokenType_ | exact g_Token | exact g_Whitespace | exact g_Error | exact g_String | exact g_Number | exact g_ALIASES_ | exact g_string_to_tokentype | exact g_CS_ESCAPE | exact g_commonprefix | exact g_make_charset | exact g_pull_ | exact g_same_ | exact g_groupby | exact g_grouper_ | exact g_special_chars_map_ | exact g_escape | exact g_regex_opt_inner | exact g_regex_opt | exact g_Lexer | exact g_include | exact g_inherit_ | exact g_combined | exact g_PseudoMatch_ | exact g_default | exact g_words | exact g_nothing_ | exact g_inherit_place | exact g_merged_tokendefs | exact g_RegexLexerMeta | exact g_RegexLexer | exact g_PlainMatch | exact g_Plain | exact g_PlainLexer | exact g_law_rest_ | exact g_law_reads_ | exact g_law)
local macro_rules | `(tactic| top_argsB) => `(tactic| with_reducible first | exact bn_len | exact bn_isinstance | exact bn_type | exact bn_list | exact bn_tuple | exact bn_range | exact bn_str | exact bn_int | exact bn_abs | exact bn_sum | exact bn_enumerate | exact bn_zip | exact bn_max | exact bn_min | exact bn_divmod | exact bn_callable)
local macro_rules | `(tactic| top_reprB) => `(tactic| with_reducible first | exact ga_83 | exact mk_83 | exact bo_83 | exact le_83 | exact ga_624 | exact mk_624 | exact bo_624 | exact le_624 | exact ga_651 | exact mk_651 | exact bo_651 | exact le_651 | exact ga_672 | exact mk_672 | exact bo_672 | exact le_672 | exact in_83 | exact if_83 | exact in_624 | exact if_624 | exact in_651 | exact if_651 | exact in_672 | exact if_672 | exact df_672_get_tokendefs | exact df_672_process_tokendef | exact df_672_process_state_ | exact df_672_process_regex_ | exact df_672_process_token_ | exact df_672_process_new_state_ | exact df_672_get_tokens_unprocessed | exact df_624_group | exact df_624_end | exact df_83_child | exact ni_str_TokenType_ | exact ni_str_combined | exact ni_tuple_inherit_ | exact ni_tuple_include | exact ni_tuple_default | exact ni_tuple_combined | exact ni_int_combined)
local macro_rules | `(tactic| top_caughtB) => `(tactic| with_reducible first | exact fl_83_names | exact fl_624_place | exact fl_624_pieces | exact fl_651_rows | exact fl_672_options | exact fl_672_stripnl | exact fl_672_stripall | exact fl_672_ensurenl | exact fl_672_filters | exact fl_672_tables | exact fl_672_all_tokens_ | exact fl_672_tmpname_ | exact fl_672_tokens_)
local macro_rules | `(tactic| top_raiseB) => `(tactic| with_reducible first | exact st_83_names | exact st_624_place | exact st_624_pieces | exact st_651_rows | exact st_672_options | exact st_672_stripnl | exact st_672_stripall | exact st_672_ensurenl | exact st_672_filters | exact st_672_tables | exact st_672_all_tokens_ | exact st_672_tmpname_ | exact st_672_tokens_)
local macro_rules | `(tactic| k_caughtNB) => `(tactic| with_reducible first | exact callee_bltin | exact callee_type | exact cal_83 | exact cal_624 | exact cal_651 | exact cal_672 | exact cal_621 | exact cal_615 | exact cal_648 | exact cal_73 | exact cal_115 | exact cal_494 | exact cal_501 | exact cal_551 | exact cal_544 | exact cal_536 | exact cal_669 | exact cal_522 | exact cal_529 | exact cal_580 | exact cal_278 | exact cal_682 | exact cal_687)

local macro_rules | `(tactic| top_raise) => `(tactic| with_reducible first | exact kn_89 | exact kn_88 | exact kn_90 | exact kn_108)

variable {w : World} {mg mb : Str → Option Value} {O : OsState} {A : Around} {F F' : PH} {N : List (Addr × OD)} {G : Array GenState}
/-- a table's text and what it says -/
structure STbl (P : Params) (F : PH) (kvs : List (Str × Value)) (tb : Tbl) : Prop where
  len : tb.length = kvs.length
  at' : ∀ (i : Nat) k v, kvs[i]? = some (k, v) → ∃ ls vs rs c, v = .ref ls ∧ tb[i]? = some (k, rs) ∧ Fz P F ls (.lst vs) ∧ SRules P F kvs vs rs ∧ vs.length ≤ 1000 ∧ k.cps[0]? = some c ∧ c ≠ 35
theorem SRules.fzT {P : Params} {kvs : List (Str × Value)} {vs : List Value} {rs : List RuleE} (h : SRules P F kvs vs rs) : FzT P F vs := fun i v e => by
  obtain ⟨v', r, h1, h2, a, pl, d, rw_, r1, t, dy, fy, rest, rfl, ha, _⟩ := h.get (List.getElem?_eq_some_iff.mp e).1
  exact ⟨a, _, Option.some.inj (e.symm.trans h1), ha⟩
theorem STbl.src {P : Params} {kvs : List (Str × Value)} {tb : Tbl} (h : STbl P F kvs tb) : SrcOk P F kvs := fun i k v e =>
  let ⟨ls, vs, rs, c, e1, e2, f, g, z, _⟩ := h.at' i k v e; ⟨ls, vs, e1, f, g.fzT, z⟩
theorem SAct.keys {P : Params} {kvs kvs' : List (Str × Value)} {rest : List Value} {a : Act} (h : SAct P F kvs rest a) (k : ∀ x, (valueAt kvs x).isSome = true → (valueAt kvs' x).isSome = true) : SAct P F kvs' rest a := by
  cases a with
  | stay => exact h
  | pop => exact h
  | go ls =>
    obtain ⟨v, e, h⟩ := h
    refine ⟨v, e, h.imp (fun ⟨a, vs, e1, f, s, z, q⟩ => ⟨a, vs, e1, f, s, z, fun x hx => (q x hx).imp id (k x)⟩) fun ⟨y, t, e1, e2, e3, e4⟩ => ⟨y, t, e1, e2, e3, k y e4⟩⟩
theorem SRules.keys {P : Params} {kvs kvs' : List (Str × Value)} {vs : List Value} {rs : List RuleE} (h : SRules P F kvs vs rs) (k : ∀ x, (valueAt kvs x).isSome = true → (valueAt kvs' x).isSome = true) : SRules P F kvs' vs rs := by
  induction h with
  | nil => exact .nil
  | cons a _ ih =>
    obtain ⟨a, pl, d, rw, r1, t, dy, fy, rest, e, h1, h2, h3, h4, h5, h6, h7, h8⟩ := a
    exact .cons ⟨a, pl, d, rw, r1, t, dy, fy, rest, e, h1, h2, h3, h4, h5, h6, h7, h8.keys k⟩ ih
theorem isSome_keys {kvs kvs' : List (Str × Value)} (h : kvs.map (·.1) = kvs'.map (·.1)) (x : Str) (hx : (valueAt kvs x).isSome = true) : (valueAt kvs' x).isSome = true := by
  rw [valueAt_isSome_eq_any] at hx ⊢
  obtain ⟨p, hp, e⟩ := List.any_eq_true.mp hx
  have : p.1 ∈ kvs'.map (·.1) := h ▸ List.mem_map_of_mem (f := (·.1)) hp
  obtain ⟨q, hq, e2⟩ := List.mem_map.mp this
  exact List.any_eq_true.mpr ⟨q, hq, by rw [e2]; exact e⟩
theorem STbl.copy {P : Params} {kvs acc : List (Str × Value)} {tb : Tbl} (h : STbl P F kvs tb) (le : F.le F') (hl : acc.length = kvs.length) (hc : Cop P F' kvs acc) : STbl P F' acc tb := by
  have hk : kvs.map (·.1) = acc.map (·.1) := by
    refine List.ext_getElem? fun i => ?_
    rw [List.getElem?_map, List.getElem?_map]
    rcases Nat.lt_or_ge i acc.length with hi | hi
    · obtain ⟨k, a, b, vs, e1, e2, _⟩ := hc i _ (List.getElem?_eq_getElem hi)
      rw [e1, List.getElem?_eq_getElem hi, e2]; rfl
    · rw [List.getElem?_eq_none hi, List.getElem?_eq_none (by omega)]
  refine ⟨h.len.trans hl.symm, fun i k v e => ?_⟩
  obtain ⟨k', a, b, vs, e1, e2, f, g⟩ := hc i _ e
  cases e2
  obtain ⟨ls, vs', rs, c, e3, e4, f', sr, z, hc1, hc2⟩ := h.at' i _ _ e1
  cases e3
  obtain ⟨_, o1, p1, q1⟩ := f
  obtain ⟨_, o2, p2, q2⟩ := f'.mono le
  obtain rfl : o1 = o2 := Option.some.inj (p1.symm.trans p2)
  have ev : vs = vs' := by
    obtain ⟨_, _, n1, d1⟩ := q1
    obtain ⟨_, _, n2, d2⟩ := q2
    rw [d1] at d2
    injection d2 with d3
    simpa using d3
  subst ev
  exact ⟨b, vs, rs, c, rfl, e4, g, (sr.mono le).keys (isSome_keys hk), z, hc1, hc2⟩
/-- the table as it stands, up to some state -/
def Done (P : Params) (F : PH) (tb : Tbl) (acc : List (Str × Value)) : Prop := ∀ (i : Nat) p, acc[i]? = some p → ∃ k rs sl vs, tb[i]? = some (k, rs) ∧ p = (k, .ref sl) ∧ Fz P F sl (.lst vs) ∧ RulesAt ads P F vs rs ∧ vs.length ≤ 1000
theorem Done.nil {P : Params} {tb : Tbl} : Done P F tb [] := fun i p e => by simp at e
theorem Done.mono {P : Params} {tb : Tbl} {acc : List (Str × Value)} (h : Done P F tb acc) (le : F.le F') : Done P F' tb acc := fun i p e =>
  let ⟨k, rs, sl, vs, e1, e2, f, g, z⟩ := h i p e; ⟨k, rs, sl, vs, e1, e2, f.mono le, g.mono le, z⟩
theorem Done.snoc {P : Params} {tb : Tbl} {acc : List (Str × Value)} {k : Str} {rs : List RuleE} {sl : Addr} {vs : List Value} (h : Done P F tb acc) (e : tb[acc.length]? = some (k, rs)) (f : Fz P F sl (.lst vs)) (g : RulesAt ads P F vs rs) (z : vs.length ≤ 1000) :
    Done P F tb (acc ++ [(k, .ref sl)]) := fun i p ei => by
  rcases Nat.lt_or_ge i acc.length with hi | hi
  · rw [List.getElem?_append_left hi] at ei; exact h i p ei
  · rw [List.getElem?_append_right hi] at ei
    obtain ⟨hlt, hv⟩ := List.getElem?_eq_some_iff.mp ei
    have h0 : i = acc.length := by simp at hlt; omega
    subst h0
    exact ⟨k, rs, sl, vs, e, by simpa using hv.symm, f, g, z⟩
theorem lookup_at : ∀ {tb : Tbl} {st : Str} {rs : List RuleE}, tb.lookup st = some rs → ∃ i : Nat, tb[i]? = some (st, rs)
  | [], st, rs, h => by simp at h
  | (k, r) :: tb, st, rs, h => by
    rw [List.lookup_cons] at h
    by_cases e : st = k
    · subst e
      simp only [beq_self_eq_true] at h
      exact ⟨0, by rw [← Option.some.inj h]; rfl⟩
    · rw [beq_eq_false_iff_ne.mpr e] at h
      obtain ⟨i, hi⟩ := lookup_at h
      exact ⟨i + 1, hi⟩
theorem Done.table {P : Params} {tb : Tbl} {acc : List (Str × Value)} {pr : Addr} (h : Done P F tb acc) (hl : acc.length = tb.length) (hp : Fz P F pr (.dic acc)) : TableAt ads P F pr tb := by
  refine ⟨acc, hp, fun st rs e => ?_⟩
  obtain ⟨_, _, _, _, nd, _⟩ := id hp
  obtain ⟨i, hi⟩ := lookup_at e
  have hlt : i < acc.length := by rw [hl]; exact (List.getElem?_eq_some_iff.mp hi).1
  obtain ⟨k, rs', sl, vs, e1, e2, f, g, z⟩ := h i _ (List.getElem?_eq_getElem hlt)
  cases hi.symm.trans e1
  refine ⟨sl, vs, valueAt_of_get nd (i := i) (by rw [List.getElem?_eq_getElem hlt, e2]), f, g, z⟩
theorem t_dictSet0 {X : Cx} {a : Addr} {x : Str} {t : Tok} {N' : List (Addr × OD)} {v : Value} {RU : Unit → Led → Prop} (ha : (a, OD.dic []) ∈ N) (u : LUpd N a (.dic [(x, v)]) N') (h : RU () ⟨F, N', G⟩) :
    Tr X A ⟨F, N, G⟩ (setItem (.ref a) (.str x t) v) RU := t_dictSetN ha rfl u (by decide) h
theorem Keys.len {kvs : List (Str × Value)} {vs : List Value} (h : Keys kvs vs) : vs.length = kvs.length := by
  induction h with
  | nil => rfl
  | cons _ ih => simp [ih]
theorem Keys.get {kvs : List (Str × Value)} {vs : List Value} (h : Keys kvs vs) : ∀ {i : Nat} {k : Str} {v : Value}, kvs[i]? = some (k, v) → ∃ t, vs[i]? = some (.str k t) := by
  induction h with
  | nil => intro i k v e; simp at e
  | @cons k' v' t' kvs vs _ ih =>
    intro i k v e
    cases i with
    | zero => cases Option.some.inj (show some (k', v') = some (k, v) from e); exact ⟨t', rfl⟩
    | succ i => exact ih (by simpa using e)
theorem Done.key {P : Params} {kvs acc : List (Str × Value)} {tb : Tbl} {F0 : PH} (h : Done P F tb acc) (ht : STbl P F0 kvs tb) : ∀ (j : Nat) p, acc[j]? = some p → ∃ x, kvs[j]? = some (p.1, x) := fun j p e => by
  obtain ⟨k, rs, sl, vs, e1, rfl, _⟩ := h j p e
  have hlt : j < kvs.length := by rw [← ht.len]; exact (List.getElem?_eq_some_iff.mp e1).1
  obtain ⟨ls, vs, rs', c, _, e2, _⟩ := ht.at' j _ _ (List.getElem?_eq_getElem hlt)
  have : (kvs[j]).1 = k := by
    have := e2.symm.trans e1
    simpa using congrArg (fun o => o.map Prod.fst) this
  exact ⟨kvs[j].2, by rw [List.getElem?_eq_getElem hlt, ← this]⟩
theorem sp_pdef {x d up o fl tt at_ : Addr} {tn t : Tok} {kvs : List (Str × Value)} {tb : Tbl}
   (hx : Kn (cx w mg mb O) ⟨F, N, G⟩ x (.inst 672 d)) (hd : Kn (cx w mg mb O) ⟨F, N, G⟩ d (.fld (lxF o fl tt at_ tn))) (hup : Fz w.params F up (.dic kvs)) (ht : STbl w.params F kvs tb) (hne : kvs ≠ []) (hz : kvs.length ≤ 1000) (hA : Rm A 70) (R : Value → Led → Prop)
   (h : ∀ F' pr acc, F.le F' → acc.length = tb.length → Done w.params F' tb acc → R (.ref pr) ⟨F', (pr, .dic acc) :: (at_, .dic [("", .ref pr)]) :: N, G⟩) :
   Cl (cx w mg mb O) A ⟨F, (at_, .dic []) :: N, G⟩ (.call (.ref 544) ⟨[.ref x, .str "" t, .ref up], []⟩) (Rv R) := by
  refine cl_def' (binds := [("cls", .ref x), ("name", .str "" t), ("tokendefs", .ref up)]) rfl (by kernel_rfl!) (by kernel_rfl!) hA.room rfl rfl (n := 0) (by rfl) ?_
  intro L
  with_reducible refine cells0 ?_
  with_reducible refine trB_cons ?_
  ((with_reducible refine' t_store ?zhL ?zu ?zhN ?zhl ?zhx ?zhk ?_); (case zhx => kernel_rfl!); (case zhN => top_name); (case zhL => rfl); (case zhl => k_caught0); (case zu => k_caught0); (case zhk => rfl))
  with_reducible refine trB_cons ?_
  ((with_reducible refine' t_store ?zhL ?zu ?zhN ?zhl ?zhx ?zhk ?_); (case zhx => kernel_rfl!); (case zhN => top_name); (case zhL => rfl); (case zhl => k_caught0); (case zu => k_caught0); (case zhk => rfl))
  with_reducible refine trB_cons ?_
  ((with_reducible refine' t_store ?zhL ?zu ?zhN ?zhl ?zhx ?zhk ?_); (case zhx => kernel_rfl!); (case zhN => top_name); (case zhL => rfl); (case zhl => k_caught0); (case zu => k_caught0); (case zhk => rfl))
  with_reducible refine trB_nil ?_
  with_reducible refine t_cons ?_
  ((with_reducible refine' t_Assign2 ?_ ?zhe ?zhw); (case zhe => rfl); (case zhw => rfl))
  ((with_reducible refine t_Dict0 ?_); (intro _))
  with_reducible refine t_assignName ?_
  ((with_reducible refine' t_store ?zhL ?zu ?zhN ?zhl ?zhx ?zhk ?_); (case zhx => kernel_rfl!); (case zhN => top_name); (case zhL => rfl); (case zhl => k_caught0); (case zu => k_caught0); (case zhk => rfl))
  with_reducible refine t_assignSub ?_
  ((with_reducible refine t_Attr ?_ ?zhe); (case zhe => rfl))
  ((with_reducible refine' t_local ?zhL ?zhN ?zhv ?zhx ?zhk ?zhd ?_); (case zhx => kernel_rfl!); (case zhN => top_name); (case zhL => rfl); (case zhv => top_name); (case zhk => rfl); (case zhd => decide +kernel))
  ((with_reducible refine' t_field ?zhx ?zhd ?zhv ?zhf ?zhg ?zhh ?_); (case zhx => top_raise); (case zhd => top_raise); (case zhv => top_name); (case zhf => top_caughtB); (case zhg => top_reprB); (case zhh => rfl))
  ((with_reducible refine' t_local ?zhL ?zhN ?zhv ?zhx ?zhk ?zhd ?_); (case zhx => kernel_rfl!); (case zhN => top_name); (case zhL => rfl); (case zhv => top_name); (case zhk => rfl); (case zhd => decide +kernel))
  ((with_reducible refine' t_dictSet0 ?zha ?zu ?_); (case zha => top_name); (case zu => k_caught0))
  with_reducible refine fl_next ?_
  with_reducible refine t_cons ?_
  ((with_reducible refine t_AssignName ?_ ?zhs); (case zhs => rfl))
  with_reducible refine t_Or ?_
  ((with_reducible refine' t_local ?zhL ?zhN ?zhv ?zhx ?zhk ?zhd ?_); (case zhx => kernel_rfl!); (case zhN => top_name); (case zhL => rfl); (case zhv => top_name); (case zhk => rfl); (case zhd => decide +kernel))
  ((with_reducible refine' tt_dict ?zha ?zhz ?_); (case zha => top_raise); (case zhz => (first | (simp; done) | omega)))
  refine if_T (by cases kvs with | nil => exact absurd rfl hne | cons a b => rfl) ?_
  ((with_reducible refine' t_store ?zhL ?zu ?zhN ?zhl ?zhx ?zhk ?_); (case zhx => kernel_rfl!); (case zhN => top_name); (case zhL => rfl); (case zhl => k_caught0); (case zu => k_caught0); (case zhk => rfl))
  with_reducible refine fl_next ?_
  with_reducible refine t_cons ?_
  ((with_reducible refine t_For ?_ ?zhs); (case zhs => exact fun _ => rfl))
  ((with_reducible refine t_Call ?_ ?zhe); (case zhe => rfl))
  ((with_reducible refine' t_bltin ?ze ?zhv ?zhn ?zhg ?zhb ?zhk ?zhx ?zhd ?_); (case zhv => top_strB); (case ze => top_argsB); (case zhn => decide +kernel); (case zhg => rfl); (case zhb => rfl); (case zhk => rfl); (case zhx => kernel_rfl!); (case zhd => decide +kernel))
  with_reducible refine t_callWithP ?_
  ((with_reducible refine t_evalArgs ?_ ?zhe); (case zhe => rfl))
  ((with_reducible refine t_args ?_ ?zhe); (case zhe => rfl))
  ((with_reducible refine' t_local ?zhL ?zhN ?zhv ?zhx ?zhk ?zhd ?_); (case zhx => kernel_rfl!); (case zhN => top_name); (case zhL => rfl); (case zhv => top_name); (case zhk => rfl); (case zhd => decide +kernel))
  with_reducible refine t_args0 ?_
  ((with_reducible refine cp0 ?zhc ?_); (case zhc => k_caughtNB))
  ((with_reducible refine' t_listOfDict ?zhh ?zha ?zhz ?_); (case zhh => (refine Rm.hd (n := 0) ?_; k_caughtN0)); (case zha => top_raise); (case zhz => omega); (intro _ _ _))
  ((with_reducible refine' t_iterList ?zha ?_); (case zha => top_raise); (intro _))
  rename_i pr lk ks hks it
  refine cl_fix (N2 := (it, itL lk 0) :: (lk, .lst ks) :: (pr, .dic []) :: (L, .ns [("cls", .ref x), ("name", .str "" t), ("tokendefs", .ref up), ("processed", .ref pr)]) :: (at_, .dic [("", .ref pr)]) :: N) (by k_caught0) (by k_caught0) (by k_caught0) ?_
  refine cl_ind (Inv := fun j l => ∃ (F' : PH) (acc : List (Str × Value)), l = ⟨F', (it, itL lk acc.length) :: (lk, .lst ks) :: (pr, .dic acc) :: (L, .ns [("cls", .ref x), ("name", .str "" t), ("tokendefs", .ref up), ("processed", .ref pr)]) :: (at_, .dic [("", .ref pr)]) :: N, G⟩ ∧ F.le F' ∧ acc.length + j = kvs.length ∧ Done w.params F' tb acc) ?_ kvs.length _ ⟨F, [], rfl, PH.le_refl F, by simp, Done.nil⟩
  rintro j l IH ⟨F1, acc, rfl, hF1, hj, hdn⟩
  have hx1 := hx.le hF1
  have hd1 := hd.le hF1
  have hup1 := hup.mono hF1
  have hkl := hks.len
  refine cl_for1 ?_
  rcases Nat.lt_or_ge acc.length kvs.length with hi | hi
  · obtain ⟨k, v, hkv⟩ : ∃ k v, kvs[acc.length]? = some (k, v) := ⟨_, _, List.getElem?_eq_getElem hi⟩
    obtain ⟨ls, vs, rs, c, rfl, htb, hls, hsr, hvz, hkc, hc⟩ := ht.at' _ _ _ hkv
    obtain ⟨tk, htk⟩ := hks.get hkv
    obtain ⟨_, _, _, _, nd, _⟩ := id hup
    have hfr := fresh_key nd (hdn.key ht) hkv (Nat.le_refl _)
    ((with_reducible refine' t_nextList ?zhi ?zha ?zhv ?zu ?_); (case zhi => top_name); (case zha => top_raise); (case zhv => exact htk); (case zu => k_caught0))
    with_reducible refine t_goName ?_
    with_reducible refine t_assignName ?_
    ((with_reducible refine' t_store ?zhL ?zu ?zhN ?zhl ?zhx ?zhk ?_); (case zhx => kernel_rfl!); (case zhN => top_name); (case zhL => rfl); (case zhl => k_caught0); (case zu => k_caught0); (case zhk => rfl))
    with_reducible refine t_cons ?_
    ((with_reducible refine t_ExprSt ?_ ?zhi ?zhs); (case zhi => rfl); (case zhs => rfl))
    ((with_reducible refine' t_MCall ?_ ?zhe); (case zhe => rfl))
    ((with_reducible refine' t_local ?zhL ?zhN ?zhv ?zhx ?zhk ?zhd ?_); (case zhx => kernel_rfl!); (case zhN => top_name); (case zhL => rfl); (case zhv => top_name); (case zhk => rfl); (case zhd => decide +kernel))
    ((with_reducible refine' t_methodOf (f := 536) ?zhx ?zhd ?zhf ?zhg ?zhn ?_); (case zhx => top_raise); (case zhd => top_raise); (case zhf => top_reprB); (case zhg => top_reprB); (case zhn => kernel_rfl!))
    with_reducible refine mc ?_
    with_reducible refine t_callWithP ?_
    ((with_reducible refine t_evalArgs ?_ ?zhe); (case zhe => rfl))
    ((with_reducible refine t_args ?_ ?zhe); (case zhe => rfl))
    ((with_reducible refine' t_local ?zhL ?zhN ?zhv ?zhx ?zhk ?zhd ?_); (case zhx => kernel_rfl!); (case zhN => top_name); (case zhL => rfl); (case zhv => top_name); (case zhk => rfl); (case zhd => decide +kernel))
    ((with_reducible refine t_args ?_ ?zhe); (case zhe => rfl))
    ((with_reducible refine' t_local ?zhL ?zhN ?zhv ?zhx ?zhk ?zhd ?_); (case zhx => kernel_rfl!); (case zhN => top_name); (case zhL => rfl); (case zhv => top_name); (case zhk => rfl); (case zhd => decide +kernel))
    ((with_reducible refine t_args ?_ ?zhe); (case zhe => rfl))
    ((with_reducible refine' t_local ?zhL ?zhN ?zhv ?zhx ?zhk ?zhd ?_); (case zhx => kernel_rfl!); (case zhN => top_name); (case zhL => rfl); (case zhv => top_name); (case zhk => rfl); (case zhd => decide +kernel))
    with_reducible refine t_args0 ?_
    ((with_reducible refine cp1 ?zhc ?_); (case zhc => k_caughtNB))
    refine tr_pick (N' := (pr, .dic acc) :: (it, itL lk (acc.length + 1)) :: (lk, .lst ks) :: (L, .ns [("cls", .ref x), ("name", .str "" t), ("tokendefs", .ref up), ("processed", .ref pr), ("state", .str k tk)]) :: (at_, .dic [("", .ref pr)]) :: N) (by k_caught0) ?_
    refine tr_call (sp_pstate (by top_raise) (by top_raise) hup1 (valueAt_of_get nd hkv) (hls.mono hF1) (hsr.mono hF1) hvz hkc hc hfr (by omega) (by k_caughtN0) _ fun F2 sl vs' hF2 hws => ?_)
    with_reducible refine fl_next ?_
    with_reducible refine t_nil ?_
    with_reducible refine tu_next ?_
    refine cl_fix (N2 := (sl, .lst vs') :: (it, itL lk (acc.length + 1)) :: (lk, .lst ks) :: (pr, .dic (acc ++ [(k, .ref sl)])) :: (L, .ns [("cls", .ref x), ("name", .str "" t), ("tokendefs", .ref up), ("processed", .ref pr)]) :: (at_, .dic [("", .ref pr)]) :: N) (by k_caught0) (by k_caught0) (by k_caught0) ?_
    refine cl_freeze .head fun F3 hF3 hsl => ?_
    have e : acc.length + 1 = (acc ++ [(k, Value.ref sl)]).length := by simp
    rw [e]
    have hwz : vs'.length ≤ 1000 := by rw [hws.len, ← hsr.len]; exact hvz
    exact IH (kvs.length - (acc.length + 1)) (by omega) _ ⟨F3, _, rfl, PH.le_trans hF1 (PH.le_trans hF2 hF3), by simp; omega, (hdn.mono (PH.le_trans hF2 hF3)).snoc htb hsl (hws.mono hF3) hwz⟩
  · ((with_reducible refine' t_nextListEnd ?zhh ?zhi ?zha ?zhv ?zu ?_); (case zhh => (refine Rm.hd (n := 0) ?_; k_caughtN0)); (case zhi => top_name); (case zha => top_raise); (case zhv => omega); (case zu => k_caught0))
    with_reducible refine t_nil ?_
    with_reducible refine fl_next ?_
    with_reducible refine t_cons ?_
    with_reducible refine t_Return ?_
    ((with_reducible refine' t_local ?zhL ?zhN ?zhv ?zhx ?zhk ?zhd ?_); (case zhx => kernel_rfl!); (case zhN => top_name); (case zhL => rfl); (case zhv => top_name); (case zhk => rfl); (case zhd => decide +kernel))
    with_reducible refine fl_ret ?_
    exact ⟨_, by k_caught0, _, rfl, h _ _ _ hF1 (by have := ht.len; omega) hdn⟩
end Mine

open PySem PySem.W PySem.W.X PyProof.Rows PySem.Calls PySem.Builtin.ObjectAttr
set_option maxRecDepth 100000
set_option Elab.async false
set_option autoImplicit false
set_option linter.unusedVariables false
set_option maxHeartbeats 4000000
namespace Mine
local macro_rules | `(tactic| top_name) => `(tactic| first | (with_reducible exact List.mem_cons_self) | (with_reducible refine List.mem_cons_of_mem _ ?_; top_name) | (with_reducible assumption))
local macro_rules | `(tactic| k_caught0) => `(tactic| first
  | (with_reducible exact LUpd.head) | (with_reducible exact LSet.nil) | (with_reducible exact LSet.head) | (with_reducible exact Rem.head) | (with_reducible exact Pick.refl)
  | ((with_reducible apply LUpd.tail); (k_caught0))
  | ((with_reducible apply LSet.tail); (· (decide +kernel)); (k_caught0))
  | ((with_reducible apply Rem.tail); (k_caught0))
  | ((with_reducible apply Pick.cons); (· k_caught0); (k_caught0))
  | ((with_reducible apply Pick.drop); (k_caught0)))
local macro_rules | `(tactic| top_raise) => `(tactic| first | (with_reducible refine Kn.row' ?_; top_name) | (with_reducible refine Kn.fz' ?_; with_reducible assumption) | (with_reducible assumption) | ((with_reducible refine Kn.skip ?_); top_raise))
local macro_rules | `(tactic| k_caughtN0) => `(tactic| first | assumption | (exact Rm.le (by assumption) (by decide)) | ((refine Rm.dp ?_); k_caughtN0) | ((refine Rm.mk' ?_); k_caughtN0) | (refine Rm.le (Rm.over (n := 40) (Rm.le (by assumption) (by decide)) (by first | exact Quiet.ok (by assumption) | exact fsOk_while (Quiet.ok (by assumption)))) (by decide)))
local macro_rules | `(tactic| k_caughtB) => `(tactic| first | exact Strs.nil | ((apply Strs.cons); k_caughtB) | assumption)
local macro_rules | `(tactic| top_strB) => `(tactic| with_reducible first | exact bl_len | exact bl_isinstance | exact bl_type | exact bl_list | exact bl_tuple | exact bl_range | exact bl_str | exact bl_int | exact bl_abs | exact bl_sum | exact bl_enumerate | exact bl_zip | exact bl_max | exact bl_min | exact bl_divmod | exact bl_callable)
local macro_rules | `(tactic| top_raise0) => `(tactic| with_reducible first | exact g_wall_ | exact g_TokenType_ | exact g_Token | exact g_Whitespace | exact g_Error | exact g_String | exact g_Number | exact g_ALIASES_ | exact g_string_to_tokentype | exact g_CS_ESCAPE | exact g_commonprefix | exact g_make_charset | exact g_pull_ | exact g_same_ | exact g_groupby | exact g_grouper_ | exact g_special_chars_map_ | exact g_escape | exact g_regex_opt_inner | exact g_regex_opt | exact g_Lexer | exact g_include | exact g_inherit_ | exact g_combined | exact g_PseudoMatch_ | exact g_default | exact g_words | exact g_nothing_ | exact g_inherit_place | exact g_merged_tokendefs | exact g_RegexLexerMeta | exact g_RegexLexer | exact g_PlainMatch | exact g_Plain | exact g_PlainLexer | exact g_law_rest_ | exact g_law_reads_ | exact g_law)
local macro_rules | `(tactic| top_argsB) => `(tactic| with_reducible first | exact bn_len | exact bn_isinstance | exact bn_type | exact bn_list | exact bn_tuple | exact bn_range | exact bn_str | exact bn_int | exact bn_abs | exact bn_sum | exact bn_enumerate | exact bn_zip | exact bn_max | exact bn_min | exact bn_divmod | exact bn_callable)
local macro_rules | `(tactic| top_reprB) => `(tactic| with_reducible first | exact ga_83 | exact mk_83 | exact bo_83 | exact le_83 | exact ga_624 | exact mk_624 | exact bo_624 | exact le_624 | exact ga_651 | exact mk_651 | exact bo_651 | exact le_651 | exact ga_672 | exact mk_672 | exact bo_672 | exact le_672 | exact in_83 | exact if_83 | exact in_624 | exact if_624 | exact in_651 | exact if_651 | exact in_672 | exact if_672 | exact df_672_get_tokendefs | exact df_672_process_tokendef | exact df_672_process_state_ | exact df_672_process_regex_ | exact df_672_process_token_ | exact df_672_process_new_state_ | exact df_672_get_tokens_unprocessed | exact df_624_group | exact df_624_end | exact df_83_child | exact ni_str_TokenType_ | exact ni_str_combined | exact ni_tuple_inherit_ | exact ni_tuple_include | exact ni_tuple_default | exact ni_tuple_combined | exact ni_int_combined)
local macro_rules | `(tactic| top_caughtB) => `(tactic| with_reducible first | exact fl_83_names | exact fl_624_place | exact fl_624_pieces | exact fl_651_rows | exact fl_672_options | exact fl_672_stripnl | exact fl_672_stripall | exact fl_672_ensurenl | exact fl_672_filters | exact fl_672_tables | exact fl_672_all_tokens_ | exact fl_672_tmpname_ | exact fl_672_tokens_)
local macro_rules | `(tactic| top_raiseB) => `(tactic| with_reducible first | exact st_83_names | exact st_624_place | exact st_624_pieces | exact st_651_rows | exact st_672_options | exact st_672_stripnl | exact st_672_stripall | exact st_672_ensurenl | exact st_672_filters | exact st_672_tables | exact st_672_all_tokens_ | exact st_672_tmpname_ | exact st_672_tokens_)
local macro_rules | `(tactic| k_caughtNB) => `(tactic| with_reducible first | exact callee_bltin | exact callee_type | exact cal_83 | exact cal_624 | exact cal_651 | exact cal_672 | exact cal_621 | exact cal_615 | exact cal_648 | exact cal_73 | exact cal_115 | exact cal_494 | exact cal_501 | exact cal_551 | exact cal_544 | exact cal_536 | exact cal_669 | exact cal_522 | exact cal_529 | exact cal_580 | exact cal_278 | exact cal_682 | exact cal_687)

local macro_rules | `(tactic| top_raise) => `(tactic| with_reducible first | exact kn_89 | exact kn_88 | exact kn_90 | exact kn_108)

variable {w : World} {mg mb : Str → Option Value} {O : OsState} {A : Around} {F F' : PH} {N : List (Addr × OD)} {G : Array GenState}
/-- a made lexer's fields -/
abbrev lxT (o fl tt at_ : Addr) (tn : Tok) (pr : Addr) : List (Str × Value) := [("options", .ref o), ("stripnl", .bool true), ("stripall", .bool false), ("ensurenl", .bool true), ("filters", .ref fl), ("tables", .ref tt), ("_all_tokens", .ref at_), ("_tmpname", .int 0 tn), ("_tokens", .ref pr)]
theorem t_evalArgsKw1 {X : Cx} {l : Led} {A : Around} {env : Env} {pos : Pos} {f : Value} {x e : Expr} {R : Args → Led → Prop}
    (h : Tr X A l (eval x env) fun v l1 => Opn l1 fun F N G => ∀ d, Tr X A ⟨F, (d, .dic []) :: N, G⟩ (eval e env) fun v2 l2 => ∃ a, v2 = .ref a ∧ Kn X l2 a (.dic []) ∧ Kn X l2 d (.dic []) ∧ R ⟨[v], []⟩ l2) (he : starEach [x] env = (false, eval x env) :: starEach [] env) (he0 : starEach [] env = []) :
    Tr X A l (evalArgs f true (backTo pos [(false, eval x env)]) (backToKw pos [(none, eval e env)])) R := by
  refine t_evalArgsKw0 ?_
  have q : Tr X A l (spliced (backTo pos (starEach [x] env))) (fun vs l1 => Opn l1 fun F N G => ∀ d, Tr X A ⟨F, (d, .dic []) :: N, G⟩ (eval e env) fun v2 l2 => ∃ a, v2 = .ref a ∧ Kn X l2 a (.dic []) ∧ Kn X l2 d (.dic []) ∧ R ⟨vs, []⟩ l2) :=
    t_args (h.mono fun v l1 h1 => t_args0 h1) he
  rw [he, he0] at q
  refine Tr.mono q fun vs l1 h1 d => ?_
  refine tr_bind ((h1 d).mono fun v l2 r => ?_)
  refine tr_bind (m := standAt pos) fun s E S => wpAny_standAt ⟨l2, S, tr_pure r⟩
theorem sp_RLinit {x d td : Addr} {kvs : List (Str × Value)} {tb : Tbl} (htd : Fz w.params F td (.dic kvs)) (ht : STbl w.params F kvs tb) (hne : kvs ≠ []) (hz : kvs.length ≤ 1000) (hA : Rm A 100) (R : Value → Led → Prop)
   (h : ∀ F' pr acc o fl tt at_ tn, F.le F' → acc.length = tb.length → Done w.params F' tb acc → R .none ⟨F', (x, .inst 672 d) :: (d, .fld (lxT o fl tt at_ tn pr)) :: (pr, .dic acc) :: N, G⟩) :
   Cl (cx w mg mb O) A ⟨F, (x, .inst 672 d) :: (d, .fld []) :: N, G⟩ (.call (.ref 571) ⟨[.ref x, .ref td], []⟩) (Rv R) := by
  obtain ⟨ep, htd2⟩ := FzD.of htd
  have hsrc := ht.src
  refine cl_defB rfl (by kernel_rfl!) hA.room rfl rfl (n := 0) (by rfl) ?_
  refine t_bindVK (fun t o => [("self", .ref x), ("tables", t), ("options", o)]) (rest := [.ref td]) (by rfl) (by unfold sizeLine; simp) fun tt o => ?_
  with_reducible refine opn ?_
  intro _
  with_reducible refine cells0 ?_
  with_reducible refine trB_cons ?_
  ((with_reducible refine' t_store ?zhL ?zu ?zhN ?zhl ?zhx ?zhk ?_); (case zhx => kernel_rfl!); (case zhN => top_name); (case zhL => rfl); (case zhl => k_caught0); (case zu => k_caught0); (case zhk => rfl))
  with_reducible refine trB_cons ?_
  ((with_reducible refine' t_store ?zhL ?zu ?zhN ?zhl ?zhx ?zhk ?_); (case zhx => kernel_rfl!); (case zhN => top_name); (case zhL => rfl); (case zhl => k_caught0); (case zu => k_caught0); (case zhk => rfl))
  with_reducible refine trB_cons ?_
  ((with_reducible refine' t_store ?zhL ?zu ?zhN ?zhl ?zhx ?zhk ?_); (case zhx => kernel_rfl!); (case zhN => top_name); (case zhL => rfl); (case zhl => k_caught0); (case zu => k_caught0); (case zhk => rfl))
  with_reducible refine trB_nil ?_
  with_reducible refine t_cons ?_
  ((with_reducible refine t_ExprSt ?_ ?zhi ?zhs); (case zhi => rfl); (case zhs => rfl))
  refine t_MCallKw ?_ rfl
  ((with_reducible refine' t_glob ?ze ?zhg ?zhk ?zhx ?zhd ?_); (case ze => top_raise0); (case zhg => rfl); (case zhk => rfl); (case zhx => kernel_rfl!); (case zhd => decide +kernel))
  refine t_clsVal rd_310 fc_310_init rfl ?_
  refine t_callWithKw ?_
  refine t_evalArgsKw1 ?_ rfl rfl
  ((with_reducible refine' t_local ?zhL ?zhN ?zhv ?zhx ?zhk ?zhd ?_); (case zhx => kernel_rfl!); (case zhN => top_name); (case zhL => rfl); (case zhv => top_name); (case zhk => rfl); (case zhd => decide +kernel))
  with_reducible refine opn ?_
  intro _
  ((with_reducible refine' t_local ?zhL ?zhN ?zhv ?zhx ?zhk ?zhd ?_); (case zhx => kernel_rfl!); (case zhN => top_name); (case zhL => rfl); (case zhv => top_name); (case zhk => rfl); (case zhd => decide +kernel))
  refine ⟨_, rfl, by top_raise, by top_raise, ?_⟩
  ((with_reducible refine cp0 ?zhc ?_); (case zhc => k_caughtNB))
  rename_i L dd
  refine tr_pick (N' := (x, .inst 672 d) :: (d, .fld []) :: (L, .ns [("self", .ref x), ("tables", .ref tt), ("options", .ref o)]) :: (tt, .tup [.ref td]) :: N) (by k_caught0) ?_
  refine tr_call (sp_LexInit (by k_caughtN0) _ fun o2 fl => ?_)
  with_reducible refine fl_next ?_
  with_reducible refine t_cons ?_
  ((with_reducible refine t_AssignAttr ?_ ?zhs); (case zhs => rfl))
  ((with_reducible refine' t_local ?zhL ?zhN ?zhv ?zhx ?zhk ?zhd ?_); (case zhx => kernel_rfl!); (case zhN => top_name); (case zhL => rfl); (case zhv => top_name); (case zhk => rfl); (case zhd => decide +kernel))
  ((with_reducible refine' t_local ?zhL ?zhN ?zhv ?zhx ?zhk ?zhd ?_); (case zhx => kernel_rfl!); (case zhN => top_name); (case zhL => rfl); (case zhv => top_name); (case zhk => rfl); (case zhd => decide +kernel))
  ((with_reducible refine' t_setattr ?zhx ?zhd ?zhf ?zhl ?zu ?zhz ?_); (case zhx => top_raise); (case zhd => top_name); (case zhl => k_caught0); (case zu => k_caught0); (case zhf => top_raiseB); (case zhz => simp))
  with_reducible refine fl_next ?_
  with_reducible refine t_cons ?_
  ((with_reducible refine t_AssignAttr ?_ ?zhs); (case zhs => rfl))
  ((with_reducible refine t_Dict0 ?_); (intro _))
  ((with_reducible refine' t_local ?zhL ?zhN ?zhv ?zhx ?zhk ?zhd ?_); (case zhx => kernel_rfl!); (case zhN => top_name); (case zhL => rfl); (case zhv => top_name); (case zhk => rfl); (case zhd => decide +kernel))
  ((with_reducible refine' t_setattr ?zhx ?zhd ?zhf ?zhl ?zu ?zhz ?_); (case zhx => top_raise); (case zhd => top_name); (case zhl => k_caught0); (case zu => k_caught0); (case zhf => top_raiseB); (case zhz => simp))
  with_reducible refine fl_next ?_
  with_reducible refine t_cons ?_
  ((with_reducible refine t_AssignAttr ?_ ?zhs); (case zhs => rfl))
  ((with_reducible refine t_int ?_); (intro _))
  ((with_reducible refine' t_local ?zhL ?zhN ?zhv ?zhx ?zhk ?zhd ?_); (case zhx => kernel_rfl!); (case zhN => top_name); (case zhL => rfl); (case zhv => top_name); (case zhk => rfl); (case zhd => decide +kernel))
  ((with_reducible refine' t_setattr ?zhx ?zhd ?zhf ?zhl ?zu ?zhz ?_); (case zhx => top_raise); (case zhd => top_name); (case zhl => k_caught0); (case zu => k_caught0); (case zhf => top_raiseB); (case zhz => simp))
  with_reducible refine fl_next ?_
  with_reducible refine t_cons ?_
  ((with_reducible refine t_AssignAttr ?_ ?zhs); (case zhs => rfl))
  ((with_reducible refine' t_MCall ?_ ?zhe); (case zhe => rfl))
  ((with_reducible refine' t_local ?zhL ?zhN ?zhv ?zhx ?zhk ?zhd ?_); (case zhx => kernel_rfl!); (case zhN => top_name); (case zhL => rfl); (case zhv => top_name); (case zhk => rfl); (case zhd => decide +kernel))
  ((with_reducible refine' t_methodOf (f := 544) ?zhx ?zhd ?zhf ?zhg ?zhn ?_); (case zhx => top_raise); (case zhd => top_raise); (case zhf => top_reprB); (case zhg => top_reprB); (case zhn => kernel_rfl!))
  with_reducible refine mc ?_
  with_reducible refine t_callWithP ?_
  ((with_reducible refine t_evalArgs ?_ ?zhe); (case zhe => rfl))
  ((with_reducible refine t_args ?_ ?zhe); (case zhe => rfl))
  ((with_reducible refine t_str ?_); (intro _))
  ((with_reducible refine t_args ?_ ?zhe); (case zhe => rfl))
  ((with_reducible refine' t_MCall ?_ ?zhe); (case zhe => rfl))
  ((with_reducible refine' t_local ?zhL ?zhN ?zhv ?zhx ?zhk ?zhd ?_); (case zhx => kernel_rfl!); (case zhN => top_name); (case zhL => rfl); (case zhv => top_name); (case zhk => rfl); (case zhd => decide +kernel))
  ((with_reducible refine' t_methodOf (f := 551) ?zhx ?zhd ?zhf ?zhg ?zhn ?_); (case zhx => top_raise); (case zhd => top_raise); (case zhf => top_reprB); (case zhg => top_reprB); (case zhn => kernel_rfl!))
  with_reducible refine mc ?_
  with_reducible refine t_callWithP ?_
  with_reducible refine t_evalArgs0 ?_
  ((with_reducible refine cp1 ?zhc ?_); (case zhc => k_caughtNB))
  ((with_reducible refine' tr_call (sp_getdefs ?zhx ?zhe ?zht ?zhd ?zhs ?zhz ?zhA _ ?_)); (case zhx => top_raise); (case zhe => top_raise); (case zht => top_raise); (case zhd => assumption); (case zhs => assumption); (case zhz => assumption); (case zhA => k_caughtN0); (intro _ _ _ _ _ _))
  with_reducible refine t_args0 ?_
  ((with_reducible refine cp1 ?zhc ?_); (case zhc => k_caughtNB))
  rename_i at_ tn _ F1 up acc hF1 hl hcop
  refine tr_freeze (by k_caught0) fun F2 hF2 hup => ?_
  have ht2 := ht.copy (PH.le_trans hF1 hF2) hl (hcop.mono hF2)
  refine tr_pick (N' := (at_, .dic []) :: (x, .inst 672 d) :: (d, .fld (lxF o2 fl tt at_ tn)) :: (L, .ns [("self", .ref x), ("tables", .ref tt), ("options", .ref o)]) :: N) (by k_caught0) ?_
  refine tr_call (sp_pdef (by top_raise) (by top_raise) hup ht2 (fun e => hne (List.length_eq_zero_iff.mp (by rw [← hl, e]; rfl))) (by omega) (by k_caughtN0) _ fun F3 pr acc3 hF3 hl3 hdn => ?_)
  ((with_reducible refine' t_local ?zhL ?zhN ?zhv ?zhx ?zhk ?zhd ?_); (case zhx => kernel_rfl!); (case zhN => top_name); (case zhL => rfl); (case zhv => top_name); (case zhk => rfl); (case zhd => decide +kernel))
  ((with_reducible refine' t_setattr ?zhx ?zhd ?zhf ?zhl ?zu ?zhz ?_); (case zhx => top_raise); (case zhd => top_name); (case zhl => k_caught0); (case zu => k_caught0); (case zhf => top_raiseB); (case zhz => simp))
  with_reducible refine fl_next ?_
  with_reducible refine t_nil ?_
  exact ⟨_, by k_caught0, _, rfl, h _ pr _ o2 fl tt at_ tn (PH.le_trans hF1 (PH.le_trans hF2 hF3)) hl3 hdn⟩
end Mine

open PySem PySem.W PySem.W.X PyProof.Rows PySem.Calls PySem.Builtin.ObjectAttr
set_option maxRecDepth 100000
set_option Elab.async false
set_option autoImplicit false
set_option linter.unusedVariables false
set_option maxHeartbeats 4000000
namespace Mine
local macro_rules | `(tactic| top_name) => `(tactic| first | (with_reducible exact List.mem_cons_self) | (with_reducible refine List.mem_cons_of_mem _ ?_; top_name) | (with_reducible assumption))
local macro_rules | `(tactic| k_caught0) => `(tactic| first
  | (with_reducible exact LUpd.head) | (with_reducible exact LSet.nil) | (with_reducible exact LSet.head) | (with_reducible exact Rem.head) | (with_reducible exact Pick.refl)
  | ((with_reducible apply LUpd.tail); (k_caught0))
  | ((with_reducible apply LSet.tail); (· (decide +kernel)); (k_caught0))
  | ((with_reducible apply Rem.tail); (k_caught0))
  | ((with_reducible apply Pick.cons); (· k_caught0); (k_caught0))
  | ((with_reducible apply Pick.drop); (k_caught0)))
local macro_rules | `(tactic| top_raise) => `(tactic| first | (with_reducible refine Kn.row' ?_; top_name) | (with_reducible refine Kn.fz' ?_; with_reducible assumption) | (with_reducible assumption) | ((with_reducible refine Kn.skip ?_); top_raise))
local macro_rules | `(tactic| k_caughtN0) => `(tactic| first | assumption | (exact Rm.le (by assumption) (by decide)) | ((refine Rm.dp ?_); k_caughtN0) | ((refine Rm.mk' ?_); k_caughtN0) | (refine Rm.le (Rm.over (n := 40) (Rm.le (by assumption) (by decide)) (by first | exact Quiet.ok (by assumption) | exact fsOk_while (Quiet.ok (by assumption)))) (by decide)))
local macro_rules | `(tactic| k_caughtB) => `(tactic| first | exact Strs.nil | ((apply Strs.cons); k_caughtB) | assumption)
local macro_rules | `(tactic| top_strB) => `(tactic| with_reducible first | exact bl_len | exact bl_isinstance | exact bl_type | exact bl_list | exact bl_tuple | exact bl_range | exact bl_str | exact bl_int | exact bl_abs | exact bl_sum | exact bl_enumerate | exact bl_zip | exact bl_max | exact bl_min | exact bl_divmod | exact bl_callable)
local macro_rules | `(tactic| top_raise0) => `(tactic| with_reducible first | exact g_wall_ | exact g_TokenType_ | exact g_Token | exact g_Whitespace | exact g_Error | exact g_String | exact g_Number | exact g_ALIASES_ | exact g_string_to_tokentype | exact g_CS_ESCAPE | exact g_commonprefix | exact g_make_charset | exact g_pull_ | exact g_same_ | exact g_groupby | exact g_grouper_ | exact g_special_chars_map_ | exact g_escape | exact g_regex_opt_inner | exact g_regex_opt | exact g_Lexer | exact g_include | exact g_inherit_ | exact g_combined | exact g_PseudoMatch_ | exact g_default | exact g_words | exact g_nothing_ | exact g_inherit_place | exact g_merged_tokendefs | exact g_RegexLexerMeta | exact g_RegexLexer | exact g_PlainMatch | exact g_Plain | exact g_PlainLexer | exact g_law_rest_ | exact g_law_reads_ | exact g_law)
local macro_rules | `(tactic| top_argsB) => `(tactic| with_reducible first | exact bn_len | exact bn_isinstance | exact bn_type | exact bn_list | exact bn_tuple | exact bn_range | exact bn_str | exact bn_int | exact bn_abs | exact bn_sum | exact bn_enumerate | exact bn_zip | exact bn_max | exact bn_min | exact bn_divmod | exact bn_callable)
local macro_rules | `(tactic| top_reprB) => `(tactic| with_reducible first | exact ga_83 | exact mk_83 | exact bo_83 | exact le_83 | exact ga_624 | exact mk_624 | exact bo_624 | exact le_624 | exact ga_651 | exact mk_651 | exact bo_651 | exact le_651 | exact ga_672 | exact mk_672 | exact bo_672 | exact le_672 | exact in_83 | exact if_83 | exact in_624 | exact if_624 | exact in_651 | exact if_651 | exact in_672 | exact if_672 | exact df_672_get_tokendefs | exact df_672_process_tokendef | exact df_672_process_state_ | exact df_672_process_regex_ | exact df_672_process_token_ | exact df_672_process_new_state_ | exact df_672_get_tokens_unprocessed | exact df_624_group | exact df_624_end | exact df_83_child | exact ni_str_TokenType_ | exact ni_str_combined | exact ni_tuple_inherit_ | exact ni_tuple_include | exact ni_tuple_default | exact ni_tuple_combined | exact ni_int_combined)
local macro_rules | `(tactic| top_caughtB) => `(tactic| with_reducible first | exact fl_83_names | exact fl_624_place | exact fl_624_pieces | exact fl_651_rows | exact fl_672_options | exact fl_672_stripnl | exact fl_672_stripall | exact fl_672_ensurenl | exact fl_672_filters | exact fl_672_tables | exact fl_672_all_tokens_ | exact fl_672_tmpname_ | exact fl_672_tokens_)
local macro_rules | `(tactic| top_raiseB) => `(tactic| with_reducible first | exact st_83_names | exact st_624_place | exact st_624_pieces | exact st_651_rows | exact st_672_options | exact st_672_stripnl | exact st_672_stripall | exact st_672_ensurenl | exact st_672_filters | exact st_672_tables | exact st_672_all_tokens_ | exact st_672_tmpname_ | exact st_672_tokens_)
local macro_rules | `(tactic| k_caughtNB) => `(tactic| with_reducible first | exact callee_bltin | exact callee_type | exact cal_83 | exact cal_624 | exact cal_651 | exact cal_672 | exact cal_621 | exact cal_615 | exact cal_648 | exact cal_73 | exact cal_115 | exact cal_494 | exact cal_501 | exact cal_551 | exact cal_544 | exact cal_536 | exact cal_669 | exact cal_522 | exact cal_529 | exact cal_580 | exact cal_278 | exact cal_682 | exact cal_687)

local macro_rules | `(tactic| top_raise) => `(tactic| with_reducible first | exact kn_89 | exact kn_88 | exact kn_90 | exact kn_108)

variable {w : World} {mg mb : Str → Option Value} {O : OsState} {A : Around} {F F' : PH} {N : List (Addr × OD)} {G : Array GenState}
theorem mul_one_list (x : Value) (n : Nat) : List.foldl (fun x1 x2 => x1 ++ x2) #[] (List.replicate (if [x].toArray.isEmpty = true then 0 else (n : Int).toNat) [x].toArray) = (List.replicate n x).toArray := by
  have g : ∀ (k : Nat) (a : Array Value), (List.replicate k #[x]).foldl (fun x1 x2 => x1 ++ x2) a = a ++ (List.replicate k x).toArray := by
    intro k
    induction k with
    | zero => intro a; simp
    | succ k ih => intro a; rw [List.replicate_succ, List.foldl_cons, ih, List.replicate_succ]; apply Array.ext'; simp
  have := g n #[]
  simpa using this
theorem Strs.replicate {x : Str} {t : Tok} : ∀ n : Nat, Strs (List.replicate n x) (List.replicate n (.str x t))
  | 0 => .nil
  | n + 1 => .cons (Strs.replicate n)
theorem tr_perm {α : Type} {X : Cx} {N' : List (Addr × OD)} {t : Sem α} {R : α → Led → Prop} (p : N'.Perm N) (h : Tr X A ⟨F, N', G⟩ t R) : Tr X A ⟨F, N, G⟩ t R := fun s E S => h s E (At.perm S p)
theorem cl_perm {X : Cx} {N' : List (Addr × OD)} {c : Code} {R : Flow → Led → Prop} (p : N'.Perm N) (h : Cl X A ⟨F, N', G⟩ c R) : Cl X A ⟨F, N, G⟩ c R := fun s R' S => h s R' (At.perm S p)
theorem Kn.any {X : Cx} {G' : Array GenState} {a : Addr} {D : OD} (h : Kn X ⟨F, [], G'⟩ a D) : Kn X ⟨F, N, G⟩ a D := h.elim .inl fun h => h.elim (fun h => nomatch h) fun h => .inr (.inr h)
theorem pick_app {own N N' : List (Addr × OD)} (h : Pick N N') : Pick (own ++ N) (own ++ N') := by
  induction own with
  | nil => exact h
  | cons p own ih => exact .cons .head ih
theorem pick_off {own N : List (Addr × OD)} : Pick (own ++ N) N := by
  induction own with
  | nil => exact .refl
  | cons p own ih => exact .drop ih
theorem AllBare.psh {x : GenState} (h : AllBare G) (hx : x.bare = true) : AllBare (G.push x) := AllBare.push h hx
theorem push_at {x : GenState} : (G.push x)[G.size]? = some x := by simp
/-- a text is read without an Error -/
def readsOk (tb : Tbl) (nm : Addr → List Str) (x : Str) (n : Nat) : Bool := (lex tb 97 93 x.cps.toList 0 ("root" :: List.replicate n "term")).all fun e => decide (nm e.2.1 ≠ [("Error" : Str)])
theorem sp_reads {tb : Tbl} {td lx dx : Addr} {fs : List (Str × Value)} {text : Str} {tt tn : Tok} {n : Nat} {nm : Addr → List Str} (hlx : Fz w.params F lx (.inst 672 dx)) (hdx : Fz w.params F dx (.fld fs)) (hfs : (("_tokens" : Str), Value.ref td) ∈ fs)
    (hgx : (fs.all fun p => p.1 != "get_tokens_unprocessed") = true) (hT : TableAt ads w.params F td tb) (hok : TbOk tb)
    (hz : text.length ≤ 1000) (hn : n = 1 ∨ n = 2 ∨ n = 3) (hso : StOk tb ("root" :: List.replicate n "term")) (hnm : ∀ e ∈ lex tb 97 93 text.cps.toList 0 ("root" :: List.replicate n "term"), TyN (cx w mg mb O) ⟨F, [], #[]⟩ e.2.1 83 (nm e.2.1)) (hA : Rm A 80) (hG : AllBare G) (R : Value → Led → Prop)
    (h : ∀ F' G', F.le F' → AllBare G' → R (.bool (readsOk tb nm text n)) ⟨F', N, G'⟩) : Cl (cx w mg mb O) A ⟨F, N, G⟩ (.call (.ref 682) ⟨[.ref lx, .str text tt, .int (n : Int) tn], []⟩) (Rv R) := by
  refine cl_def' (binds := [("lexer", .ref lx), ("text", .str text tt), ("terms", .int (n : Int) tn)]) rfl (by kernel_rfl!) (by kernel_rfl!) hA.room rfl rfl (n := 0) (by rfl) ?_
  intro L
  have hnz : n ≤ 3 := by omega
  with_reducible refine cells0 ?_
  with_reducible refine trB_cons ?_
  ((with_reducible refine' t_storeM ?zu ?zhN ?zhl ?zhx ?zhk ?_); (case zhx => kernel_rfl!); (case zhN => top_name); (case zhl => k_caught0); (case zu => k_caught0); (case zhk => rfl))
  with_reducible refine trB_cons ?_
  ((with_reducible refine' t_storeM ?zu ?zhN ?zhl ?zhx ?zhk ?_); (case zhx => kernel_rfl!); (case zhN => top_name); (case zhl => k_caught0); (case zu => k_caught0); (case zhk => rfl))
  with_reducible refine trB_cons ?_
  ((with_reducible refine' t_storeM ?zu ?zhN ?zhl ?zhx ?zhk ?_); (case zhx => kernel_rfl!); (case zhN => top_name); (case zhl => k_caught0); (case zu => k_caught0); (case zhk => rfl))
  with_reducible refine trB_nil ?_
  with_reducible refine t_cons ?_
  ((with_reducible refine t_For ?_ ?zhs); (case zhs => exact fun _ => rfl))
  ((with_reducible refine' t_MCall ?_ ?zhe); (case zhe => rfl))
  ((with_reducible refine' t_localM ?zhN ?zhv ?zhx ?zhk ?zhd ?_); (case zhx => kernel_rfl!); (case zhN => top_name); (case zhv => top_name); (case zhk => rfl); (case zhd => decide +kernel))
  ((with_reducible refine' t_methodOf (f := 580) ?zhx ?zhd ?zhf ?zhg ?zhn ?_); (case zhx => top_raise); (case zhd => top_raise); (case zhf => top_reprB); (case zhg => top_reprB); (case zhn => (first | assumption | kernel_rfl!)))
  with_reducible refine mc ?_
  with_reducible refine t_callWithP ?_
  ((with_reducible refine t_evalArgs ?_ ?zhe); (case zhe => rfl))
  ((with_reducible refine t_args ?_ ?zhe); (case zhe => rfl))
  ((with_reducible refine' t_localM ?zhN ?zhv ?zhx ?zhk ?zhd ?_); (case zhx => kernel_rfl!); (case zhN => top_name); (case zhv => top_name); (case zhk => rfl); (case zhd => decide +kernel))
  ((with_reducible refine t_args ?_ ?zhe); (case zhe => rfl))
  ((with_reducible refine t_Call ?_ ?zhe); (case zhe => rfl))
  ((with_reducible refine' t_bltin ?ze ?zhv ?zhn ?zhg ?zhb ?zhk ?zhx ?zhd ?_); (case zhv => top_strB); (case ze => top_argsB); (case zhn => decide +kernel); (case zhg => rfl); (case zhb => rfl); (case zhk => rfl); (case zhx => kernel_rfl!); (case zhd => decide +kernel))
  with_reducible refine t_callWithP ?_
  ((with_reducible refine t_evalArgs ?_ ?zhe); (case zhe => rfl))
  ((with_reducible refine t_args ?_ ?zhe); (case zhe => rfl))
  with_reducible refine t_Bin ?_
  with_reducible refine t_List ?_
  ((with_reducible refine t_args ?_ ?zhe); (case zhe => rfl))
  ((with_reducible refine t_str ?_); (intro _))
  with_reducible refine t_args0 ?_
  ((with_reducible refine t_newList ?zhz ?_); (case zhz => simp [sizeLine]))
  intro _
  with_reducible refine t_Bin ?_
  with_reducible refine t_List ?_
  ((with_reducible refine t_args ?_ ?zhe); (case zhe => rfl))
  ((with_reducible refine t_str ?_); (intro _))
  with_reducible refine t_args0 ?_
  ((with_reducible refine t_newList ?zhz ?_); (case zhz => simp [sizeLine]))
  intro _
  ((with_reducible refine' t_localM ?zhN ?zhv ?zhx ?zhk ?zhd ?_); (case zhx => kernel_rfl!); (case zhN => top_name); (case zhv => top_name); (case zhk => rfl); (case zhd => decide +kernel))
  ((with_reducible refine' t_mulL ?zha ?zhl ?zhh ?zhz ?zhw ?_); (case zha => top_raise); (case zhl => omega); (case zhh => omega); (case zhz => (simp; omega)); (case zhw => exact mul_one_list _ _); (intro _))
  ((with_reducible refine' t_addL ?zha ?zhb ?zhz ?_); (case zha => top_raise); (case zhb => top_raise); (case zhz => (first | decide | (simp; done) | (simp; omega))); (intro _))
  with_reducible refine t_args0 ?_
  ((with_reducible refine cp0 ?zhc ?_); (case zhc => k_caughtNB))
  ((with_reducible refine' t_tupOfList ?zha ?zhz ?_); (case zha => top_raise); (case zhz => (first | decide | (simp; done) | (simp; omega))); (intro _))
  with_reducible refine t_args0 ?_
  ((with_reducible refine cp1 ?zhc ?_); (case zhc => k_caughtNB))
  rename_i t1 a1 t2 a2 a3 a4 sa
  refine tr_freeze (by k_caught0) fun F1 hF1 hsa => ?_
  refine tr_call (sp_gtu (hlx.mono hF1) (hdx.mono hF1) hfs (hT.mono hF1) hok hz hsa (.cons (Strs.replicate n)) hso (by simp; omega) (by k_caughtN0) fun ga gs own tg ug hgen => ?_)
  ((with_reducible refine' t_iterGen ?zhi ?_); (case zhi => top_name))
  refine cl_pick (N' := (ga, genO G.size "get_tokens_unprocessed" "RegexLexer.get_tokens_unprocessed" tg ug) :: (own ++ (L, .ns [("lexer", .ref lx), ("text", .str text tt), ("terms", .int (n : Int) tn)]) :: N)) ?_ ?_
  · exact .cons .head (pick_app (by k_caught0))
  refine cl_ind (Inv := fun k l => ∃ ts gs own, l = ⟨F1, (ga, genO G.size "get_tokens_unprocessed" "RegexLexer.get_tokens_unprocessed" tg ug) :: (own ++ (L, .ns [("lexer", .ref lx), ("text", .str text tt), ("terms", .int (n : Int) tn)]) :: N), G.push gs⟩ ∧
     GenOk (cx w mg mb O) 60 ts F1 gs own ∧ ts.length = k ∧ (∀ e ∈ ts, TyN (cx w mg mb O) ⟨F, [], #[]⟩ e.2.1 83 (nm e.2.1)) ∧ (ts.all fun e => decide (nm e.2.1 ≠ [("Error" : Str)])) = readsOk tb nm text n) ?_ _ _ ⟨_, gs, own, rfl, hgen, rfl, hnm, rfl⟩
  rintro k l IH ⟨ts, gs, own, rfl, hgen, rfl, hnm, hall⟩
  rw [← hall] at h
  refine cl_for1 ?_
  cases ts with
  | nil =>
    refine t_nextGenEnd (m := 61) (by k_caughtN0) (Nat.le_refl _) push_at hgen ?_
    rw [push_set, push_set]
    with_reducible refine t_nil ?_
    with_reducible refine fl_next ?_
    with_reducible refine t_cons ?_
    with_reducible refine t_Return ?_
    with_reducible refine t_bool ?_
    with_reducible refine fl_ret ?_
    exact ⟨N, by k_caught0, _, rfl, h _ _ hF1 (AllBare.psh hG rfl)⟩
  | cons e₀ ts =>
    refine t_nextGen (m := 61) (by k_caughtN0) (Nat.le_refl _) push_at hgen fun own' gs' a t1' t2' hb hgen' => ?_
    rw [push_set, push_set]
    obtain ⟨d, tnm, vs, h1, h2, h3, h4⟩ := hnm e₀ (.head _)
    have h1 : Kn (cx w mg mb O) ⟨F1, own' ++ N, G.push gs'⟩ _ _ := (h1.le hF1).any
    have h2 : Kn (cx w mg mb O) ⟨F1, own' ++ N, G.push gs'⟩ _ _ := (h2.le hF1).any
    have h3 : Kn (cx w mg mb O) ⟨F1, own' ++ N, G.push gs'⟩ _ _ := (h3.le hF1).any
    refine tr_perm (N' := (ga, genO G.size "get_tokens_unprocessed" "RegexLexer.get_tokens_unprocessed" tg ug) :: (a, tokT e₀ t1' t2') :: (L, .ns [("lexer", .ref lx), ("text", .str text tt), ("terms", .int (n : Int) tn)]) :: (own' ++ N)) (List.Perm.cons _ ((List.Perm.cons _ List.perm_middle.symm).trans List.perm_middle.symm)) ?_
    ((with_reducible refine' t_goTupG ?zhi ?_); (case zhi => top_name))
    ((with_reducible refine' t_assignTup ?zhh ?zha ?zhe ?zhn ?_); (case zhh => (refine Rm.hd (n := 0) ?_; k_caughtN0)); (case zha => top_raise); (case zhe => rfl); (case zhn => rfl))
    with_reducible refine trA_cons ?_
    with_reducible refine t_assignName ?_
    ((with_reducible refine' t_storeM ?zu ?zhN ?zhl ?zhx ?zhk ?_); (case zhx => kernel_rfl!); (case zhN => top_name); (case zhl => k_caught0); (case zu => k_caught0); (case zhk => rfl))
    with_reducible refine trA_cons ?_
    with_reducible refine t_assignName ?_
    ((with_reducible refine' t_storeM ?zu ?zhN ?zhl ?zhx ?zhk ?_); (case zhx => kernel_rfl!); (case zhN => top_name); (case zhl => k_caught0); (case zu => k_caught0); (case zhk => rfl))
    with_reducible refine trA_cons ?_
    with_reducible refine t_assignName ?_
    ((with_reducible refine' t_storeM ?zu ?zhN ?zhl ?zhx ?zhk ?_); (case zhx => kernel_rfl!); (case zhN => top_name); (case zhl => k_caught0); (case zu => k_caught0); (case zhk => rfl))
    with_reducible refine trA_nil ?_
    with_reducible refine t_cons ?_
    with_reducible refine t_If ?_
    ((with_reducible refine t_isCmp ?_ ?zhb); (case zhb => rfl))
    ((with_reducible refine t_Attr ?_ ?zhe); (case zhe => rfl))
    ((with_reducible refine' t_localM ?zhN ?zhv ?zhx ?zhk ?zhd ?_); (case zhx => kernel_rfl!); (case zhN => top_name); (case zhv => top_name); (case zhk => rfl); (case zhd => decide +kernel))
    ((with_reducible refine' t_field ?zhx ?zhd ?zhv ?zhf ?zhg ?zhh ?_); (case zhx => top_raise); (case zhd => top_raise); (case zhv => top_name); (case zhf => top_caughtB); (case zhg => top_reprB); (case zhh => rfl))
    with_reducible refine t_Tuple ?_
    ((with_reducible refine t_args ?_ ?zhe); (case zhe => rfl))
    ((with_reducible refine t_str ?_); (intro _))
    with_reducible refine t_args0 ?_
    ((with_reducible refine t_newTuple ?zhz ?_); (case zhz => simp [sizeLine]))
    intro _
    refine t_eqTupS (Rm.un0 (n := 0) (by k_caughtN0)) (by top_raise) (by top_raise) h4 (.cons .nil) ?_
    with_reducible refine tt_bool ?_
    refine if_b (fun hb2 => ?_) (fun hb2 => ?_)
    · have he : nm e₀.2.1 = [("Error" : Str)] := of_decide_eq_true hb2
      have hf : ((e₀ :: ts).all fun e => decide (nm e.2.1 ≠ [("Error" : Str)])) = false := by simp [he]
      rw [hf] at h
      with_reducible refine t_cons ?_
      with_reducible refine t_Return ?_
      with_reducible refine t_bool ?_
      with_reducible refine fl_ret ?_
      with_reducible refine fl_ret ?_
      with_reducible refine tu_ret ?_
      with_reducible refine fl_ret ?_
      exact ⟨N, .drop (.drop (.drop (.drop pick_off))), _, rfl, h _ _ hF1 (AllBare.psh hG hb)⟩
    · have he : nm e₀.2.1 ≠ [("Error" : Str)] := of_decide_eq_false hb2
      have hf : ((e₀ :: ts).all fun e => decide (nm e.2.1 ≠ [("Error" : Str)])) = (ts.all fun e => decide (nm e.2.1 ≠ [("Error" : Str)])) := by simp [he]
      rw [hf] at hall
      with_reducible refine t_nil ?_
      with_reducible refine fl_next ?_
      with_reducible refine t_nil ?_
      with_reducible refine tu_next ?_
      refine cl_fix (N2 := (ga, genO G.size "get_tokens_unprocessed" "RegexLexer.get_tokens_unprocessed" tg ug) :: (L, .ns [("lexer", .ref lx), ("text", .str text tt), ("terms", .int (n : Int) tn)]) :: (own' ++ N)) (by k_caught0) (by k_caught0) (by k_caught0) ?_
      refine cl_perm (N' := (ga, genO G.size "get_tokens_unprocessed" "RegexLexer.get_tokens_unprocessed" tg ug) :: (own' ++ (L, .ns [("lexer", .ref lx), ("text", .str text tt), ("terms", .int (n : Int) tn)]) :: N)) (List.Perm.cons _ List.perm_middle) ?_
      exact IH ts.length (Nat.lt_succ_self _) _ ⟨ts, gs', own', rfl, hgen', rfl, fun e he => hnm e (.tail _ he), hall⟩
end Mine

open PySem PySem.W PySem.W.X PyProof.Rows PySem.Calls PySem.Builtin.ObjectAttr
set_option maxRecDepth 100000
set_option Elab.async false
set_option autoImplicit false
set_option linter.unusedVariables false
set_option maxHeartbeats 4000000
namespace Mine
variable {w : World} {mg mb : Str → Option Value} {O : OsState} {A : Around} {F F' : PH} {N : List (Addr × OD)} {G : Array GenState}
theorem tr_done {α : Type} {X : Cx} {l : Led} {v : α} {R : α → Led → Prop} (h : R v l) : R v l := h
theorem t_lenF' {X : Cx} {c : Addr} {vs : List Value} {R : Value → Led → Prop} (ha : FzL F c vs) (hz : vs.length ≤ 1000000) (h : ∀ t, R (.int vs.length t) ⟨F, N, G⟩) : Tr X A ⟨F, N, G⟩ (call (.builtin "len") [.ref c]) R := t_lenF ha hz h
theorem t_subF' {X : Cx} {value slice : Expr} {i : Value} {ops : List Value} {c : Addr} {vs : List Value} {R : Value → Led → Prop} (ha : FzL F c vs) (hs : subscripted slice false (.ref c) i = operate ops (getItem (.ref c) i)) (h : Tr X A ⟨F, N, G⟩ (getItem (.ref c) i) R) :
    Tr X A ⟨F, N, G⟩ (subscriptTail value slice (.ref c) i) R := t_subF ha hs h
theorem t_itemF' {X : Cx} {i : Int} {u : Tok} {c : Addr} {vs : List Value} {v : Value} {R : Value → Led → Prop} (ha : FzL F c vs) (hi : 0 ≤ i) (hz : i < 2 ^ 63) (hv : vs[i.toNat]? = some v) (h : R v ⟨F, N, G⟩) : Tr X A ⟨F, N, G⟩ (getItem (.ref c) (.int i u)) R := t_itemF ha hi hz hv h
theorem t_letter {X : Cx} {l : Led} {x : Str} {t u : Tok} {k a : Int} {R : Value → Led → Prop} (hk : 0 < k) (hk2 : k < 1000) (hx : ∀ j : Nat, j < k.toNat → x.cps[j]? = some (97 + j)) (h : ∀ t, R (.str ⟨#[97 + (a.fmod k).toNat]⟩ t) l) : Tr X A l (getItem (.str x t) (.int (a.fmod k) u)) R := by
  have h1 := Int.fmod_nonneg_of_pos a hk
  have h2 := Int.fmod_lt_of_pos a hk
  exact t_itemStr h1 (by omega) (hx _ (by omega)) h
theorem t_sliceHiE {X : Cx} {l : Led} {x rg : Str} {t tj : Tok} {j : Int} {c : Addr} {R : Value → Led → Prop} (b : Nat) (hc : Kn X l c (.raw { cls := .type "slice", data := .fields #[.none, .int j tj, .none] })) (hj : j = b) (hz : x.length ≤ 1000000) (e : cut x 0 b = rg) (h : ∀ t, R (.str rg t) l) :
    Tr X A l (getItem (.str x t) (.ref c)) R := t_sliceHi b hc hj hz (e ▸ h)
/-- the ring as drawn -/
def ringS (d : Nat → Int) : Str := cut (Txt.join "" [⟨#[97 + ((d 1).fmod 4).toNat]⟩, ⟨#[97 + ((d 2).fmod 4).toNat]⟩, ⟨#[97 + ((d 3).fmod 4).toNat]⟩, ⟨#[97 + ((d 4).fmod 3).toNat]⟩, ⟨#[97 + ((d 5).fmod 3).toNat]⟩, ⟨#[97 + ((d 6).fmod 3).toNat]⟩]) 0 (((d 0).fdiv 3).fmod 7).toNat
theorem ringS_ok (d : Nat → Int) : (ringS d).cps.toList.length ≤ 6 ∧ ∀ c ∈ (ringS d).cps.toList, 97 ≤ c ∧ c ≤ 100 := by
  have e : (ringS d).cps.toList = ([97 + ((d 1).fmod 4).toNat, 97 + ((d 2).fmod 4).toNat, 97 + ((d 3).fmod 4).toNat, 97 + ((d 4).fmod 3).toNat, 97 + ((d 5).fmod 3).toNat, 97 + ((d 6).fmod 3).toNat].take (((d 0).fdiv 3).fmod 7).toNat).drop 0 := rfl
  rw [e, List.drop_zero]
  have q : ∀ a : Int, ∀ k : Int, 0 < k → k ≤ 4 → 97 ≤ 97 + (a.fmod k).toNat ∧ 97 + (a.fmod k).toNat ≤ 100 := fun a k h1 h2 => by
    have := Int.fmod_nonneg_of_pos a h1
    have := Int.fmod_lt_of_pos a h1
    omega
  refine ⟨by rw [List.length_take]; exact Nat.le_trans (Nat.min_le_right ..) (Nat.le_refl _), fun c hc => ?_⟩
  have hc := List.mem_of_mem_take hc
  simp only [List.mem_cons, List.not_mem_nil, or_false] at hc
  rcases hc with rfl | rfl | rfl | rfl | rfl | rfl
  · exact q _ 4 (by decide) (by decide)
  · exact q _ 4 (by decide) (by decide)
  · exact q _ 4 (by decide) (by decide)
  · exact q _ 3 (by decide) (by decide)
  · exact q _ 3 (by decide) (by decide)
  · exact q _ 3 (by decide) (by decide)
/-- how many parts a letter has, less one -/
def arity (c : Nat) : Int := (c : Int) - 98
theorem occ_abcd {c : Nat} (h1 : 97 ≤ c) (h2 : c ≤ 100) : Builtin.Str.occurrences "abcd" ⟨#[c]⟩ 0 (Str.ofString "abcd").length 1 = [c - 97] := by
  obtain rfl | rfl | rfl | rfl : c = 97 ∨ c = 98 ∨ c = 99 ∨ c = 100 := by omega
  all_goals decide +kernel
theorem if_merge {X : Cx} {l : Led} {b : Bool} {u v : Sem Value} {K : Value → Led → Prop} (P : Value → Prop) (h1 : b = true → Tr X A l u fun v l' => P v ∧ l' = l) (h2 : b = false → Tr X A l v fun v l' => P v ∧ l' = l) (h : ∀ v, P v → K v l) : if b = true then Tr X A l u K else Tr X A l v K := by
  cases b with
  | true => rw [if_pos rfl]; exact (h1 rfl).mono fun v l' ⟨p, e⟩ => e ▸ h v p
  | false => rw [if_neg Bool.false_ne_true]; exact (h2 rfl).mono fun v l' ⟨p, e⟩ => e ▸ h v p
/-- what the ring lacks -/
def fillS (k : Int) : Str := if 0 ≤ k then ⟨(List.replicate k.toNat 97).toArray⟩ else ⟨(List.replicate (-k).toNat 99).toArray⟩
theorem arity_sum {l : List Nat} (h : ∀ c ∈ l, 97 ≤ c ∧ c ≤ 100) : -(l.length : Int) ≤ (l.map arity).sum ∧ (l.map arity).sum ≤ 2 * l.length := by
  induction l with
  | nil => simp
  | cons c l ih =>
    have h1 := ih fun c hc => h c (.tail _ hc)
    have h2 := h c (.head _)
    have e : ((c :: l).map arity).sum = arity c + (l.map arity).sum := by simp
    rw [e, List.length_cons]
    unfold arity at *
    omega
theorem arity_rep (n c : Nat) : ((List.replicate n c).map arity).sum = (n : Int) * arity c := by
  induction n with
  | zero => simp
  | succ n ih =>
    rw [List.replicate_succ, List.map_cons, List.sum_cons, ih]
    have : ((n + 1 : Nat) : Int) * arity c = (n : Int) * arity c + arity c := by rw [Int.natCast_succ, Int.add_mul, Int.one_mul]
    omega
theorem fill_sum (k : Int) : ((fillS k).cps.toList.map arity).sum = -k ∧ (∀ c ∈ (fillS k).cps.toList, 97 ≤ c ∧ c ≤ 100) ∧ (fillS k).cps.toList.length = k.natAbs := by
  unfold fillS
  split
  · refine ⟨?_, fun c hc => ?_, ?_⟩
    · rw [List.toList_toArray, arity_rep]; unfold arity; omega
    · obtain ⟨_, rfl⟩ : _ ∧ c = _ := by simpa using hc
      omega
    · simp; omega
  · refine ⟨?_, fun c hc => ?_, ?_⟩
    · rw [List.toList_toArray, arity_rep]; unfold arity; omega
    · obtain ⟨_, rfl⟩ : _ ∧ c = _ := by simpa using hc
      omega
    · simp; omega
theorem up4 {i : Nat} (h : i < 4) : (⟨PySem.placed ⟨#[97 + i]⟩ fun _ c => Unicode.upperOf c⟩ : Str) = ⟨#[65 + i]⟩ := by
  obtain rfl | rfl | rfl | rfl : i = 0 ∨ i = 1 ∨ i = 2 ∨ i = 3 := by omega
  all_goals decide +kernel
theorem sp4 {i : Nat} (h : i < 4) : Txt.split (("Sign." : Str) ++ (⟨#[65 + i]⟩ : Str)) "." = [("Sign" : Str), (⟨#[65 + i]⟩ : Str)] := by
  obtain rfl | rfl | rfl | rfl : i = 0 ∨ i = 1 ∨ i = 2 ∨ i = 3 := by omega
  all_goals decide +kernel
theorem iu4 {i : Nat} (h : i < 4) : Txt.isupper ⟨#[65 + i]⟩ = true := by
  obtain rfl | rfl | rfl | rfl : i = 0 ∨ i = 1 ∨ i = 2 ∨ i = 3 := by omega
  all_goals decide +kernel
theorem cp4 {i : Nat} (h : i < 4) : (Str.ofString "abcd").cps[i]? = some (97 + i) := by
  obtain rfl | rfl | rfl | rfl : i = 0 ∨ i = 1 ∨ i = 2 ∨ i = 3 := by omega
  all_goals rfl
theorem ln4 {i : Nat} (h : i < 4) : (("Sign." : Str) ++ (⟨#[65 + i]⟩ : Str)).length = 6 := by
  obtain rfl | rfl | rfl | rfl : i = 0 ∨ i = 1 ∨ i = 2 ∨ i = 3 := by omega
  all_goals decide +kernel
theorem cl_freezeL {X : Cx} {c : Code} {R : Flow → Led → Prop} : ∀ {rows : List (Addr × OD)} {F : PH}, (∀ F', F.le F' → (∀ p ∈ rows, Fz X.P F' p.1 p.2) → Cl X A ⟨F', N, G⟩ c R) → Cl X A ⟨F, rows ++ N, G⟩ c R
  | [], F, h => h F (PH.le_refl F) fun p hp => nomatch hp
  | (a, D) :: rows, F, h => cl_freeze (N' := rows ++ N) .head fun F1 l1 f1 => cl_freezeL fun F2 l2 f2 => h F2 (PH.le_trans l1 l2) fun p hp => by
    rcases List.mem_cons.mp hp with rfl | hp
    · exact f1.mono l2
    · exact f2 p hp
theorem tr_freezeL {α : Type} {X : Cx} {t : Sem α} {R : α → Led → Prop} : ∀ {rows : List (Addr × OD)} {F : PH}, (∀ F', F.le F' → (∀ p ∈ rows, Fz X.P F' p.1 p.2) → Tr X A ⟨F', N, G⟩ t R) → Tr X A ⟨F, rows ++ N, G⟩ t R
  | [], F, h => h F (PH.le_refl F) fun p hp => nomatch hp
  | (a, D) :: rows, F, h => tr_freeze (N' := rows ++ N) .head fun F1 l1 f1 => tr_freezeL fun F2 l2 f2 => h F2 (PH.le_trans l1 l2) fun p hp => by
    rcases List.mem_cons.mp hp with rfl | hp
    · exact f1.mono l2
    · exact f2 p hp
/-- the rules so far -/
def RulesSo (X : Cx) (F : PH) (vs : List Value) (rs : List RuleE) : Prop := SRules X.P F [("root", .none), ("term", .none)] vs rs ∧ ∀ (j : Nat) r, rs[j]? = some r → r.c = 97 + j ∧ r.act = .go ("#pop" :: List.replicate j "term") ∧ TyN X ⟨F, [], #[]⟩ r.ty 83 ["Sign", ⟨#[65 + j]⟩]
theorem SRules.snoc {P : Params} {kvs : List (Str × Value)} {vs : List Value} {rs : List RuleE} {v : Value} {r : RuleE} (h : SRules P F kvs vs rs) (a : SRule P F kvs v r) : SRules P F kvs (vs ++ [v]) (rs ++ [r]) := by
  induction h with
  | nil => exact .cons a .nil
  | cons b _ ih => exact .cons b ih
def rest02 : List Int := [19, 2, 0, 3, 1, 0, 2]
/-- the drawn numbers -/
def dr02 (sc : List Int) (k : Nat) : Int := (if k < sc.length then (sc[k]?).getD 0 else (rest02[k]?).getD 0).fmod 10007
theorem Ints.inv {n : Int} {ns : List Int} {vs : List Value} (h : Ints (n :: ns) vs) : ∃ t vs', vs = .int n t :: vs' ∧ Ints ns vs' := by
  cases h with
  | cons h => exact ⟨_, _, rfl, h⟩
theorem dr02_bd (sc : List Int) (k : Nat) : 0 ≤ dr02 sc k ∧ dr02 sc k < 10007 := ⟨Int.fmod_nonneg_of_pos _ (by decide), Int.fmod_lt_of_pos _ (by decide)⟩
theorem rest02_get (i : Nat) (h : i < 7) : ∃ t, [Value.int 19 1359, .int 2 1360, .int 0 1361, .int 3 1362, .int 1 1363, .int 0 1364, .int 2 1365][i]? = some (.int ((rest02[i]?).getD 0) t) := by
  match i, h with
  | 0, _ => exact ⟨_, rfl⟩
  | 1, _ => exact ⟨_, rfl⟩
  | 2, _ => exact ⟨_, rfl⟩
  | 3, _ => exact ⟨_, rfl⟩
  | 4, _ => exact ⟨_, rfl⟩
  | 5, _ => exact ⟨_, rfl⟩
  | 6, _ => exact ⟨_, rfl⟩
theorem kn_675 {l : Led} : Kn (cx w mg mb O) l 675 (.tup [.int 19 1359, .int 2 1360, .int 0 1361, .int 3 1362, .int 1 1363, .int 0 1364, .int 2 1365]) := Kn.ofK (o := ⟨.type "tuple", none, .seq #[.int 19 1359, .int 2 1360, .int 0 1361, .int 3 1362, .int 1 1363, .int 0 1364, .int 2 1365] 0, #[]⟩) (by decide) (by kernel_rfl!) ⟨rfl, rfl, 0, rfl⟩

theorem tyN_97 {l : Led} : TyN (cx w mg mb O) l 97 83 ["Error"] := ⟨96, 98, _, Kn.ofK (o := ⟨.ref 83, some 96, .plain, #[]⟩) (by decide) (by kernel_rfl!) ⟨rfl, rfl, rfl⟩, Kn.ofK (by decide) (by rfl) (fld1_ok rfl), Kn.ofK (by decide) (by rfl) ⟨rfl, rfl, 0, rfl⟩, .cons .nil⟩
theorem tyN_93 {l : Led} : TyN (cx w mg mb O) l 93 83 ["Text", "Whitespace"] := ⟨92, 94, _, Kn.ofK (o := ⟨.ref 83, some 92, .plain, #[]⟩) (by decide) (by kernel_rfl!) ⟨rfl, rfl, rfl⟩, Kn.ofK (by decide) (by rfl) (fld1_ok rfl), Kn.ofK (by decide) (by rfl) ⟨rfl, rfl, 0, rfl⟩, .cons (.cons .nil)⟩
theorem Strs.inj {xs ys : List Str} {vs : List Value} (h : Strs xs vs) (k : Strs ys vs) : xs = ys := by
  induction h generalizing ys with
  | nil => cases k; rfl
  | cons _ ih => cases k with | cons k => rw [ih k]
theorem TyN.uniq {X : Cx} {l : Led} {s : Shared} {ty C : Addr} {n1 n2 : List Str} (S : X.At l s) (h1 : TyN X l ty C n1) (h2 : TyN X l ty C n2) : n1 = n2 := by
  obtain ⟨d1, t1, v1, a1, b1, c1, e1⟩ := h1
  obtain ⟨d2, t2, v2, a2, b2, c2, e2⟩ := h2
  obtain ⟨o, ho, _, hd, _⟩ := a1.has S
  obtain ⟨o', ho', _, hd', _⟩ := a2.has S
  obtain rfl : o = o' := Option.some.inj (ho.symm.trans ho')
  obtain rfl : d1 = d2 := Option.some.inj (hd.symm.trans hd')
  obtain ⟨q, hq, _, _, _, es, n, hdt, _, _, hl⟩ := b1.has S
  obtain ⟨q', hq', _, _, _, es', n', hdt', _, _, hl'⟩ := b2.has S
  obtain rfl : q = q' := Option.some.inj (hq.symm.trans hq')
  rw [hdt] at hdt'
  injection hdt' with hes hn
  subst hes
  have := (hl ("names" : Str)).symm.trans (hl' "names")
  simp only [List.lookup_cons, beq_self_eq_true] at this
  obtain rfl : t1 = t2 := by simpa using this
  obtain ⟨p, hp, _, _, m, hm⟩ := c1.has S
  obtain ⟨p', hp', _, _, m', hm'⟩ := c2.has S
  obtain rfl : p = p' := Option.some.inj (hp.symm.trans hp')
  rw [hm] at hm'
  injection hm' with hv
  have hv : v1 = v2 := by simpa using hv
  subst hv
  exact e1.inj e2
theorem tr_get {α : Type} {X : Cx} {l : Led} {P : Prop} {t : Sem α} {R : α → Led → Prop} (hp : ∀ s, X.At l s → P) (h : P → Tr X A l t R) : Tr X A l t R := fun s E S => h (hp s S) s E S
theorem cl_get {X : Cx} {l : Led} {P : Prop} {c : Code} {R : Flow → Led → Prop} (hp : ∀ s, X.At l s → P) (h : P → Cl X A l c R) : Cl X A l c R := fun s R' S => h (hp s S) s R' S

/-! the table of law 02 -/
abbrev tms (n : Nat) : List Str := "root" :: List.replicate n "term"
def RP (rs : List RuleE) : Prop := rs.length = 4 ∧ ∀ (j : Nat) r, rs[j]? = some r → r.c = 97 + j ∧ r.act = .go ("#pop" :: List.replicate j "term")
abbrev tb02 (rs : List RuleE) : Tbl := [("root", []), ("term", rs)]
def nm02 (rs : List RuleE) (a : Addr) : List Str := if a = 97 then ["Error"] else if a = 93 then ["Text", "Whitespace"] else match rs.find? (fun r => r.ty == a) with | some r => ["Sign", ⟨#[r.c - 32]⟩] | none => []
theorem tbok02 {rs : List RuleE} (h : RP rs) : TbOk (tb02 rs) := by
  refine ⟨rfl, fun st rs' e r hr => ?_⟩
  have hmem : r ∈ rs := by
    rw [List.lookup_cons] at e
    split at e
    · cases e; exact absurd hr (by simp)
    · rw [List.lookup_cons] at e
      split at e
      · cases e; exact hr
      · simp at e
  obtain ⟨j, hj⟩ := List.getElem?_of_mem hmem
  obtain ⟨h1, h2⟩ := h.2 j r hj
  have hjl : j < 4 := by rw [← h.1]; exact (List.getElem?_eq_some_iff.mp hj).1
  refine ⟨by rw [h2]; simp, fun l hl => ?_⟩
  rw [h2] at hl
  injection hl with hl
  subst hl
  refine ⟨by simp; omega, fun x hx => ?_⟩
  rcases List.mem_cons.mp hx with rfl | hx
  · exact .inl rfl
  · rw [List.eq_of_mem_replicate hx]
    exact .inr ⟨by decide, rfl⟩
theorem stok02 {rs : List RuleE} (n : Nat) : StOk (tb02 rs) (tms n) := ⟨by simp, fun x hx => by
  rcases List.mem_cons.mp hx with rfl | hx
  · rfl
  · rw [List.eq_of_mem_replicate hx]; rfl⟩
/-- the letters are read -/
def okR : List Nat → Int → Bool
  | [], _ => true
  | c :: cs, n => decide (1 ≤ n) && okR cs (n + arity c)
theorem top_terms (n : Nat) : topOf (tms (n + 1)) = "term" := by
  have : (tms (n + 1)) = (tms n) ++ [("term" : Str)] := by
    unfold tms
    rw [List.replicate_succ', List.cons_append]
  unfold topOf
  rw [this, List.getLastD_eq_getLast?, List.getLast?_append]; rfl
theorem step_terms (n : Nat) : ∀ j : Nat, (List.replicate j ("term" : Str)).foldl step1 (tms n) = tms (n + j)
  | 0 => rfl
  | j + 1 => by
    rw [List.replicate_succ', List.foldl_append, step_terms n j]
    show step1 (tms (n + j)) "term" = _
    unfold step1 tms
    rw [if_neg (by decide), ← Nat.add_assoc, List.replicate_succ', List.cons_append]
theorem act_terms (n j : Nat) : actOn (.go ("#pop" :: List.replicate j "term")) (tms (n + 1)) = tms (n + j) := by
  show (List.replicate j ("term" : Str)).foldl step1 (step1 (tms (n + 1)) "#pop") = _
  have e : step1 (tms (n + 1)) "#pop" = tms n := by
    unfold step1 tms
    rw [if_pos rfl, if_pos (by simp), List.replicate_succ', ← List.cons_append, List.dropLast_concat]
  rw [e, step_terms]
theorem find02 {rs : List RuleE} (h : RP rs) {c : Nat} (h1 : 97 ≤ c) (h2 : c ≤ 100) : ∃ r, rs.find? (fun r => r.c == c) = some r ∧ r ∈ rs ∧ r.act = .go ("#pop" :: List.replicate (c - 97) "term") := by
  have hl : c - 97 < rs.length := by rw [h.1]; omega
  obtain ⟨e1, _⟩ := h.2 (c - 97) _ (List.getElem?_eq_getElem hl)
  have hex : ∃ r, rs.find? (fun r => r.c == c) = some r := by
    cases hf : rs.find? (fun r => r.c == c) with
    | some r => exact ⟨r, rfl⟩
    | none =>
      have := List.find?_eq_none.mp hf _ (List.getElem_mem hl)
      exact absurd (by simpa using (show (rs[c - 97]).c = c by omega)) this
  obtain ⟨r, hr⟩ := hex
  have hm := List.mem_of_find?_eq_some hr
  have hc : r.c = c := by simpa using List.find?_some hr
  obtain ⟨j, hj⟩ := List.getElem?_of_mem hm
  obtain ⟨p1, p2⟩ := h.2 j r hj
  exact ⟨r, hr, hm, by rw [p2, show j = c - 97 by omega]⟩
theorem lex02 {rs : List RuleE} (h : RP rs) (ht : ∀ r ∈ rs, r.ty ≠ 97 ∧ r.ty ≠ 93) : ∀ (l : List Nat) (p n : Nat), (∀ c ∈ l, 97 ≤ c ∧ c ≤ 100) →
    ((lex (tb02 rs) 97 93 l p (tms n)).all fun e => decide (nm02 rs e.2.1 ≠ [("Error" : Str)])) = okR l n
  | [], p, n, _ => rfl
  | c :: l, p, n, hl => by
    obtain ⟨h1, h2⟩ := hl c (.head _)
    have hl' : ∀ c ∈ l, 97 ≤ c ∧ c ≤ 100 := fun c hc => hl c (.tail _ hc)
    cases n with
    | zero =>
      have e : (((tb02 rs).lookup (topOf (tms 0))).getD []).find? (fun r => r.c == c) = none := rfl
      have e2 : lex (tb02 rs) 97 93 (c :: l) p (tms 0) = (p, 97, c) :: lex (tb02 rs) 97 93 l (p + 1) (tms 0) := by
        rw [lex, e]
        exact if_neg (by omega)
      rw [e2, List.all_cons]
      have : nm02 rs 97 = [("Error" : Str)] := rfl
      simp [this, okR]
    | succ n =>
      obtain ⟨r, hr, hm, ha⟩ := find02 h h1 h2
      have e : (((tb02 rs).lookup (topOf (tms (n + 1)))).getD []).find? (fun r => r.c == c) = some r := by
        rw [top_terms]; exact hr
      have e2 : lex (tb02 rs) 97 93 (c :: l) p (tms (n + 1)) = (p, r.ty, c) :: lex (tb02 rs) 97 93 l (p + 1) ("root" :: List.replicate (n + (c - 97)) "term") := by
        rw [lex, e]
        show (p, r.ty, c) :: lex _ _ _ _ _ (actOn r.act _) = _
        rw [ha, act_terms]
      rw [e2, List.all_cons, lex02 h ht l _ _ hl', okR]
      have hn : nm02 rs r.ty ≠ [("Error" : Str)] := by
        unfold nm02
        rw [if_neg (ht r hm).1, if_neg (ht r hm).2]
        split <;> simp
      have e3 : ((n + 1 : Nat) : Int) + arity c = ((n + (c - 97) : Nat) : Int) := by unfold arity; omega
      rw [e3]
      have : decide (1 ≤ ((n + 1 : Nat) : Int)) = true := decide_eq_true (by omega)
      rw [this]
      simp [hn]
theorem lex02_ty {rs : List RuleE} (h : RP rs) : ∀ (l : List Nat) (p : Nat) (st : List Str), ∀ e ∈ lex (tb02 rs) 97 93 l p st, e.2.1 = 97 ∨ e.2.1 = 93 ∨ ∃ r ∈ rs, e.2.1 = r.ty
  | [], p, st, e, he => by simp [lex] at he
  | c :: l, p, st, e, he => by
    rw [lex] at he
    cases hf : (((tb02 rs).lookup (topOf st)).getD []).find? (fun r => r.c == c) with
    | some r =>
      rw [hf] at he
      rcases List.mem_cons.mp he with rfl | he
      · refine .inr (.inr ⟨r, ?_, rfl⟩)
        have hm := List.mem_of_find?_eq_some hf
        rw [List.lookup_cons] at hm
        split at hm
        · simp at hm
        · rw [List.lookup_cons] at hm
          split at hm
          · exact hm
          · simp at hm
      · exact lex02_ty h l _ _ e he
    | none =>
      rw [hf] at he
      dsimp only at he
      split at he
      · rcases List.mem_cons.mp he with rfl | he
        · exact .inr (.inl rfl)
        · exact lex02_ty h l _ _ e he
      · rcases List.mem_cons.mp he with rfl | he
        · exact .inl rfl
        · exact lex02_ty h l _ _ e he
end Mine

open PySem PySem.W PySem.W.X PyProof.Rows
set_option autoImplicit false
namespace Mine
/-! a ring's sums -/
def mnP (P : Nat → Int) : Nat → Int
  | 0 => P 0
  | e + 1 => min (mnP P e) (P e)
theorem mnP_le (P : Nat → Int) : ∀ e q, q < e → mnP P e ≤ P q
  | e + 1, q, h => by
    show min (mnP P e) (P e) ≤ P q
    rcases Nat.lt_or_ge q e with h1 | h1
    · have := mnP_le P e q h1; omega
    · obtain rfl : q = e := by omega
      omega
theorem mnP_ex (P : Nat → Int) : ∀ e, 1 ≤ e → ∃ q, q < e ∧ mnP P e = P q
  | 0, h => by omega
  | 1, _ => ⟨0, by omega, by show min (P 0) (P 0) = P 0; omega⟩
  | e + 2, _ => by
    obtain ⟨q, hq, hm⟩ := mnP_ex P (e + 1) (by omega)
    show ∃ q, q < e + 2 ∧ min (mnP P (e + 1)) (P (e + 1)) = P q
    rcases Int.le_total (mnP P (e + 1)) (P (e + 1)) with h | h
    · exact ⟨q, by omega, by omega⟩
    · exact ⟨e + 1, by omega, by omega⟩
section
variable {P : Nat → Int} {L T : Nat} {ok : Nat → Bool}
theorem cyc_rec (h2 : ∀ i, i ≤ L → P (i + L) = P i - T) (hT : 1 ≤ T) (hL : 1 ≤ L) (hok : ∀ p, p < L → (ok p = true ↔ ∀ i, i < L → P p - T < P (p + i))) (p : Nat) (hp : p < L) : ok p = true ↔ P (L + p) < mnP P (L + p) := by
  rw [hok p hp]
  have hpL : P (L + p) = P p - T := by rw [Nat.add_comm]; exact h2 p (by omega)
  constructor
  · intro h
    obtain ⟨q, hq, hm⟩ := mnP_ex P (L + p) (by omega)
    rw [hm, hpL]
    rcases Nat.lt_or_ge q p with hqp | hqp
    · have h3 := h2 q (by omega)
      have h4 := mnP_le P (L + p) (q + L) (by omega)
      omega
    · have := h (q - p) (by omega)
      rw [show p + (q - p) = q by omega] at this
      exact this
  · intro h i hi
    have := mnP_le P (L + p) (p + i) (by omega)
    omega
theorem cyc_step (h1 : ∀ i, i < 2 * L → P i - 1 ≤ P (i + 1)) (h2 : ∀ i, i ≤ L → P (i + L) = P i - T) (hT : 1 ≤ T) (hL : 1 ≤ L) (hok : ∀ p, p < L → (ok p = true ↔ ∀ i, i < L → P p - T < P (p + i))) :
    ∀ k, k ≤ L → mnP P (L + k) = mnP P L - (((List.range k).filter ok).length : Int)
  | 0, _ => by simp
  | k + 1, hk => by
    have ih := cyc_step h1 h2 hT hL hok k (by omega)
    have hr := cyc_rec h2 hT hL hok k (by omega)
    have hprev : mnP P (L + k) ≤ P (L + k - 1) := mnP_le P (L + k) (L + k - 1) (by omega)
    have hst := h1 (L + k - 1) (by omega)
    rw [show L + k - 1 + 1 = L + k by omega] at hst
    show min (mnP P (L + k)) (P (L + k)) = _
    rw [List.range_succ, List.filter_append, List.length_append]
    cases hb : ok k with
    | true =>
      have hlt := hr.mp hb
      have e : ([k].filter ok).length = 1 := by rw [List.filter_cons, if_pos hb]; rfl
      rw [e]; omega
    | false =>
      have hge : ¬ P (L + k) < mnP P (L + k) := fun h => by rw [hr.mpr h] at hb; cases hb
      have e : ([k].filter ok).length = 0 := by rw [List.filter_cons, if_neg (by rw [hb]; exact Bool.false_ne_true)]; rfl
      rw [e]; omega
theorem cyc_count (h1 : ∀ i, i < 2 * L → P i - 1 ≤ P (i + 1)) (h2 : ∀ i, i ≤ L → P (i + L) = P i - T) (hT : 1 ≤ T) (hL : 1 ≤ L) (hok : ∀ p, p < L → (ok p = true ↔ ∀ i, i < L → P p - T < P (p + i))) : ((List.range L).filter ok).length = T := by
  have h3 := cyc_step h1 h2 hT hL hok L (Nat.le_refl _)
  have h4 : mnP P (L + L) = mnP P L - T := by
    obtain ⟨q, hq, hm⟩ := mnP_ex P (L + L) (by omega)
    obtain ⟨q', hq', hm'⟩ := mnP_ex P L hL
    have a := mnP_le P (L + L) (q' + L) (by omega)
    have b := h2 q' (by omega)
    rcases Nat.lt_or_ge q L with h | h
    · have c := h2 q (by omega)
      have d := mnP_le P (L + L) (q + L) (by omega)
      omega
    · have c := h2 (q - L) (by omega)
      rw [show q - L + L = q by omega] at c
      have d := mnP_le P L (q - L) (by omega)
      omega
  omega
theorem cyc_terms (h2 : ∀ i, i ≤ L → P (i + L) = P i - T) (hT : 1 ≤ T) (hok : ∀ p, p < L → (ok p = true ↔ ∀ i, i < L → P p - T < P (p + i))) (hcount : ((List.range L).filter ok).length = T) {b0 : Nat} (h0 : ((List.range L).filter ok)[0]? = some b0)
    {k b e : Nat} (hb : ((List.range L).filter ok ++ [b0 + L])[k]? = some b) (he : ((List.range L).filter ok ++ [b0 + L])[k + 1]? = some e) :
    b < L ∧ b ≤ e ∧ e ≤ b0 + L ∧ b0 < L ∧ ∀ j, b ≤ j → j < e → P b ≤ P j := by
  have hs : ((List.range L).filter ok).Pairwise (· < ·) := List.Pairwise.filter _ List.pairwise_lt_range
  have hmem : ∀ p, p ∈ (List.range L).filter ok ↔ p < L ∧ ok p = true := fun p => by simp
  generalize hbs : (List.range L).filter ok = bs at *
  have hkl : k + 1 < T + 1 := by
    have := (List.getElem?_eq_some_iff.mp he).1
    rw [List.length_append, hcount] at this
    exact this
  have hkb : bs[k]? = some b := by rw [List.getElem?_append_left (by omega)] at hb; exact hb
  have hin : ∀ (m : Nat) p, bs[m]? = some p → p < L ∧ ok p = true := fun m p hp => (hmem p).mp (List.mem_of_getElem? hp)
  have hord : ∀ {m n p q : Nat}, bs[m]? = some p → bs[n]? = some q → m < n → p < q := fun {m n p q} hp hq hmn => by
    obtain ⟨l1, v1⟩ := List.getElem?_eq_some_iff.mp hp
    obtain ⟨l2, v2⟩ := List.getElem?_eq_some_iff.mp hq
    have := (List.pairwise_iff_getElem.mp hs) m n l1 l2 hmn
    rw [v1, v2] at this; exact this
  obtain ⟨hbL, hbo⟩ := hin k b hkb
  obtain ⟨h0L, h0o⟩ := hin 0 b0 h0
  have hbok := (hok b hbL).mp hbo
  have hcase : (k + 1 < T ∧ bs[k + 1]? = some e) ∨ (k + 1 = T ∧ e = b0 + L) := by
    rcases Nat.lt_or_ge (k + 1) T with h | h
    · exact .inl ⟨h, by rw [List.getElem?_append_left (by omega)] at he; exact he⟩
    · refine .inr ⟨by omega, ?_⟩
      rw [List.getElem?_append_right (by omega), show k + 1 - bs.length = 0 by omega] at he
      simpa using he.symm
  have hbe : b ≤ e := by
    rcases hcase with ⟨_, h⟩ | ⟨_, h⟩
    · exact Nat.le_of_lt (hord hkb h (Nat.lt_succ_self k))
    · omega
  have heL : e ≤ b0 + L := by
    rcases hcase with ⟨_, h⟩ | ⟨_, h⟩
    · have := (hin _ _ h).1; omega
    · omega
  refine ⟨hbL, hbe, heL, h0L, ?_⟩
  have noMem : ∀ j, j ∈ bs → b < j → j < e → False := fun j hj h1 h2' => by
    obtain ⟨m, hm⟩ := List.getElem?_of_mem hj
    have hml : m < T := by rw [← hcount]; exact (List.getElem?_eq_some_iff.mp hm).1
    have hkm : k < m := by
      rcases Nat.lt_trichotomy k m with h | h | h
      · exact h
      · subst h; have := hkb.symm.trans hm; injection this; omega
      · have := hord hm hkb h; omega
    rcases hcase with ⟨h, h'⟩ | ⟨h, h'⟩
    · rcases Nat.lt_trichotomy m (k + 1) with q | q | q
      · omega
      · subst q; have := h'.symm.trans hm; injection this; omega
      · have := hord h' hm q; omega
    · omega
  intro j
  induction j using Nat.strongRecOn with
  | ind j ih =>
    intro hbj hje
    refine Classical.byContradiction fun hn => ?_
    have hlt : P j < P b := by omega
    have hne : b < j := by
      rcases Nat.lt_or_ge b j with h | h
      · exact h
      · obtain rfl : b = j := by omega
        omega
    rcases Nat.lt_or_ge j L with hjL | hjL
    · refine noMem j ((hmem j).mpr ⟨hjL, (hok j hjL).mpr fun i hi => ?_⟩) hne hje
      rcases Nat.lt_or_ge (j + i) (b + L) with h | h
      · have := hbok (j + i - b) (by omega)
        rw [show b + (j + i - b) = j + i by omega] at this
        omega
      · have h3 := ih (j + i - L) (by omega) (by omega) (by omega)
        have h4 := h2 (j + i - L) (by omega)
        rw [show j + i - L + L = j + i by omega] at h4
        omega
    · have hj0 : j - L < b0 := by omega
      have h5 := h2 (j - L) (by omega)
      rw [show j - L + L = j by omega] at h5
      have hm : j - L ∈ bs := (hmem _).mpr ⟨by omega, (hok _ (by omega)).mpr fun i hi => by
        rcases Nat.lt_or_ge (j - L + i) b with h | h
        · have h6 := hbok (j - L + i + L - b) (by omega)
          rw [show b + (j - L + i + L - b) = j - L + i + L by omega] at h6
          have h7 := h2 (j - L + i) (by omega)
          omega
        · have h6 := ih (j - L + i) (by omega) h (by omega)
          omega⟩
      obtain ⟨m, hm⟩ := List.getElem?_of_mem hm
      rcases Nat.eq_zero_or_pos m with h | h
      · subst h; have := h0.symm.trans hm; injection this; omega
      · have := hord h0 hm h; omega
end
/-! letters -/
theorem okR_iff : ∀ (l : List Nat) (n : Int), okR l n = true ↔ ∀ i, i < l.length → 1 ≤ n + ((l.take i).map arity).sum
  | [], n => by simp [okR]
  | c :: l, n => by
    rw [okR, Bool.and_eq_true, okR_iff l, decide_eq_true_eq]
    constructor
    · rintro ⟨h1, h2⟩ i hi
      cases i with
      | zero => simpa using h1
      | succ i =>
        have := h2 i (by simpa using hi)
        rw [List.take_succ_cons, List.map_cons, List.sum_cons]; omega
    · intro h
      refine ⟨by simpa using h 0 (by simp), fun i hi => ?_⟩
      have := h (i + 1) (by simpa using hi)
      rw [List.take_succ_cons, List.map_cons, List.sum_cons] at this; omega
def sumP (l : List Nat) (i : Nat) : Int := (((l ++ l).take i).map arity).sum
theorem sumP_mid (l : List Nat) (p i : Nat) : ((((l ++ l).drop p).take i).map arity).sum = sumP l (p + i) - sumP l p := by
  unfold sumP
  rw [List.take_add, List.map_append, List.sum_append]; omega
theorem sumP_step {l : List Nat} (hl : ∀ c ∈ l, 97 ≤ c ∧ c ≤ 100) (i : Nat) (hi : i < 2 * l.length) : sumP l i - 1 ≤ sumP l (i + 1) := by
  have hlt : i < (l ++ l).length := by rw [List.length_append]; omega
  have hc := hl ((l ++ l)[i]) ((List.mem_append.mp (List.getElem_mem hlt)).elim id id)
  unfold sumP
  rw [List.take_add_one, List.getElem?_eq_getElem hlt, List.map_append, List.sum_append]
  show _ ≤ _ + ((([(l ++ l)[i]] : List Nat)).map arity).sum
  rw [List.map_cons, List.sum_cons, List.map_nil, List.sum_nil]
  unfold arity
  omega
theorem sumP_ring {l : List Nat} {T : Nat} (hs : (l.map arity).sum = -(T : Int)) (i : Nat) (hi : i ≤ l.length) : sumP l (i + l.length) = sumP l i - T := by
  unfold sumP
  have e1 : (l ++ l).take (i + l.length) = l ++ l.take i := by
    rw [Nat.add_comm, List.take_length_add_append]
  have e2 : (l ++ l).take i = l.take i := List.take_append_of_le_length hi
  rw [e1, e2, List.map_append, List.sum_append, hs]; omega
theorem rot_ok {l : List Nat} {T : Nat} (p : Nat) (hp : p < l.length) : okR (l.drop p ++ l.take p) T = true ↔ ∀ i, i < l.length → sumP l p - T < sumP l (p + i) := by
  have e : l.drop p ++ l.take p = ((l ++ l).drop p).take l.length := by
    have a : (l ++ l).drop p = l.drop p ++ l := List.drop_append_of_le_length (by omega)
    have b : (l.drop p ++ l).take l.length = (l.drop p).take l.length ++ l.take (l.length - (l.drop p).length) := List.take_append ..
    have c : (l.drop p).take l.length = l.drop p := List.take_of_length_le (by rw [List.length_drop]; omega)
    rw [a, b, c, List.length_drop, show l.length - (l.length - p) = p by omega]
  rw [e, okR_iff]
  have hlen : (((l ++ l).drop p).take l.length).length = l.length := by
    rw [List.length_take, List.length_drop, List.length_append]; omega
  rw [hlen]
  refine forall_congr' fun i => forall_congr' fun hi => ?_
  rw [List.take_take, show min i l.length = i by omega, sumP_mid]
  omega
/-- the places where a reading may begin -/
def begs (l : List Nat) (T : Nat) : List Nat := (List.range l.length).filter fun p => okR (l.drop p ++ l.take p) T
theorem ring_pos {l : List Nat} {T : Nat} (hs : (l.map arity).sum = -(T : Int)) (hT : 1 ≤ T) : 1 ≤ l.length := by
  cases l with
  | nil => simp at hs; omega
  | cons c l => simp
theorem c02_count {l : List Nat} {T : Nat} (hl : ∀ c ∈ l, 97 ≤ c ∧ c ≤ 100) (hs : (l.map arity).sum = -(T : Int)) (hT : 1 ≤ T) : (begs l T).length = T :=
  cyc_count (P := sumP l) (sumP_step hl) (sumP_ring hs) hT (ring_pos hs hT) fun p hp => rot_ok p hp
theorem c02_terms {l : List Nat} {T b0 : Nat} (hl : ∀ c ∈ l, 97 ≤ c ∧ c ≤ 100) (hs : (l.map arity).sum = -(T : Int)) (hT : 1 ≤ T) (h0 : (begs l T)[0]? = some b0) {k b e : Nat} (hb : (begs l T ++ [b0 + l.length])[k]? = some b) (he : (begs l T ++ [b0 + l.length])[k + 1]? = some e) :
    okR (((l ++ l).take e).drop b) 1 = true := by
  obtain ⟨hbL, hbe, heL, h0L, hj⟩ := cyc_terms (P := sumP l) (sumP_ring hs) hT (fun p hp => rot_ok p hp) (c02_count hl hs hT) h0 hb he
  rw [okR_iff]
  intro i hi
  rw [List.length_drop, List.length_take, List.length_append] at hi
  have e1 : ((((l ++ l).take e).drop b).take i) = ((l ++ l).drop b).take i := by
    rw [List.drop_take, List.take_take, show min i (e - b) = i by omega]
  rw [e1, sumP_mid]
  have := hj (b + i) (by omega) (by omega)
  omega
end Mine

open PySem PySem.W PySem.W.X PyProof.Rows PySem.Calls PySem.Builtin.ObjectAttr
set_option maxRecDepth 100000
set_option Elab.async false
set_option autoImplicit false
set_option linter.unusedVariables false
set_option maxHeartbeats 4000000
namespace Mine
local macro_rules | `(tactic| top_name) => `(tactic| first | (with_reducible exact List.mem_cons_self) | (with_reducible refine List.mem_cons_of_mem _ ?_; top_name) | (with_reducible assumption))
local macro_rules | `(tactic| k_caught0) => `(tactic| first
  | (with_reducible exact LUpd.head) | (with_reducible exact LSet.nil) | (with_reducible exact LSet.head) | (with_reducible exact Rem.head) | (with_reducible exact Pick.refl)
  | ((with_reducible apply LUpd.tail); (k_caught0))
  | ((with_reducible apply LSet.tail); (· (decide +kernel)); (k_caught0))
  | ((with_reducible apply Rem.tail); (k_caught0))
  | ((with_reducible apply Pick.cons); (· k_caught0); (k_caught0))
  | ((with_reducible apply Pick.drop); (k_caught0)))
local macro_rules | `(tactic| top_raise) => `(tactic| first | (with_reducible refine Kn.row' ?_; top_name) | (with_reducible refine Kn.fz' ?_; with_reducible assumption) | (with_reducible assumption) | ((with_reducible refine Kn.skip ?_); top_raise))
local macro_rules | `(tactic| k_caughtN0) => `(tactic| first | assumption | (exact Rm.le (by assumption) (by decide)) | ((refine Rm.dp ?_); k_caughtN0) | ((refine Rm.mk' ?_); k_caughtN0) | (refine Rm.le (Rm.over (n := 40) (Rm.le (by assumption) (by decide)) (by first | exact Quiet.ok (by assumption) | exact fsOk_while (Quiet.ok (by assumption)))) (by decide)))
local macro_rules | `(tactic| k_caughtB) => `(tactic| first | exact Strs.nil | ((apply Strs.cons); k_caughtB) | assumption)
local macro_rules | `(tactic| top_strB) => `(tactic| with_reducible first | exact bl_len | exact bl_isinstance | exact bl_type | exact bl_list | exact bl_tuple | exact bl_range | exact bl_str | exact bl_int | exact bl_abs | exact bl_sum | exact bl_enumerate | exact bl_zip | exact bl_max | exact bl_min | exact bl_divmod | exact bl_callable)
local macro_rules | `(tactic| top_raise0) => `(tactic| with_reducible first | exact g_wall_ | exact g_TokenType_ | exact g_Token | exact g_Whitespace | exact g_Error | exact g_String | exact g_Number | exact g_ALIASES_ | exact g_string_to_tokentype | exact g_CS_ESCAPE | exact g_commonprefix | exact g_make_charset | exact g_pull_ | exact g_same_ | exact g_groupby | exact g_grouper_ | exact g_special_chars_map_ | exact g_escape | exact g_regex_opt_inner | exact g_regex_opt | exact g_Lexer | exact g_include | exact g_inherit_ | exact g_combined | exact g_PseudoMatch_ | exact g_default | exact g_words | exact g_nothing_ | exact g_inherit_place | exact g_merged_tokendefs | exact g_RegexLexerMeta | exact g_RegexLexer | exact g_PlainMatch | exact g_Plain | exact g_PlainLexer | exact g_law_rest_ | exact g_law_reads_ | exact g_law)
local macro_rules | `(tactic| top_argsB) => `(tactic| with_reducible first | exact bn_len | exact bn_isinstance | exact bn_type | exact bn_list | exact bn_tuple | exact bn_range | exact bn_str | exact bn_int | exact bn_abs | exact bn_sum | exact bn_enumerate | exact bn_zip | exact bn_max | exact bn_min | exact bn_divmod | exact bn_callable)
local macro_rules | `(tactic| top_reprB) => `(tactic| with_reducible first | exact ga_83 | exact mk_83 | exact bo_83 | exact le_83 | exact ga_624 | exact mk_624 | exact bo_624 | exact le_624 | exact ga_651 | exact mk_651 | exact bo_651 | exact le_651 | exact ga_672 | exact mk_672 | exact bo_672 | exact le_672 | exact in_83 | exact if_83 | exact in_624 | exact if_624 | exact in_651 | exact if_651 | exact in_672 | exact if_672 | exact df_672_get_tokendefs | exact df_672_process_tokendef | exact df_672_process_state_ | exact df_672_process_regex_ | exact df_672_process_token_ | exact df_672_process_new_state_ | exact df_672_get_tokens_unprocessed | exact df_624_group | exact df_624_end | exact df_83_child | exact ni_str_TokenType_ | exact ni_str_combined | exact ni_tuple_inherit_ | exact ni_tuple_include | exact ni_tuple_default | exact ni_tuple_combined | exact ni_int_combined)
local macro_rules | `(tactic| top_caughtB) => `(tactic| with_reducible first | exact fl_83_names | exact fl_624_place | exact fl_624_pieces | exact fl_651_rows | exact fl_672_options | exact fl_672_stripnl | exact fl_672_stripall | exact fl_672_ensurenl | exact fl_672_filters | exact fl_672_tables | exact fl_672_all_tokens_ | exact fl_672_tmpname_ | exact fl_672_tokens_)
local macro_rules | `(tactic| top_raiseB) => `(tactic| with_reducible first | exact st_83_names | exact st_624_place | exact st_624_pieces | exact st_651_rows | exact st_672_options | exact st_672_stripnl | exact st_672_stripall | exact st_672_ensurenl | exact st_672_filters | exact st_672_tables | exact st_672_all_tokens_ | exact st_672_tmpname_ | exact st_672_tokens_)
local macro_rules | `(tactic| k_caughtNB) => `(tactic| with_reducible first | exact callee_bltin | exact callee_type | exact cal_83 | exact cal_624 | exact cal_651 | exact cal_672 | exact cal_621 | exact cal_615 | exact cal_648 | exact cal_73 | exact cal_115 | exact cal_494 | exact cal_501 | exact cal_551 | exact cal_544 | exact cal_536 | exact cal_669 | exact cal_522 | exact cal_529 | exact cal_580 | exact cal_278 | exact cal_682 | exact cal_687)

local macro_rules | `(tactic| top_raise) => `(tactic| with_reducible first | exact kn_89 | exact kn_88 | exact kn_90 | exact kn_108)

variable {w : World} {mg mb : Str → Option Value} {O : OsState} {A : Around} {F F' : PH} {N : List (Addr × OD)} {G : Array GenState}
local macro_rules | `(tactic| top_raise) => `(tactic| with_reducible exact kn_675)
theorem pick_nil {N : List (Addr × OD)} : Pick N [] := by
  induction N with
  | nil => exact .refl
  | cons p N ih => exact .drop ih
theorem cut_len (x : Str) (i j : Nat) : (cut x i j).length ≤ x.length := by
  show ((x.cps.toList.take j).drop i).toArray.size ≤ x.cps.size
  simp; omega
theorem rot_cps (x : Str) (i : Nat) : (cut x i x.length ++ cut x 0 i).cps.toList = x.cps.toList.drop i ++ x.cps.toList.take i := by
  show ((cut x i x.length).cps ++ (cut x 0 i).cps).toList = _
  rw [Array.toList_append]
  show ((x.cps.toList.take x.length).drop i) ++ ((x.cps.toList.take i).drop 0) = _
  rw [List.drop_zero, List.take_of_length_le (by simp [Str.length])]
theorem sp_law {sl : Addr} {sc : List Int} {svs : List Value} (hs : FzL F sl svs) (hi : Ints sc svs) (hz : sc.length ≤ 63) (hA : Rm A 200) (hG : AllBare G) (R : Value → Led → Prop)
    (h : ∀ F' G', F.le F' → AllBare G' → R (.bool true) ⟨F', N, G'⟩) : Cl (cx w mg mb O) A ⟨F, N, G⟩ (.call (.ref 687) ⟨[.ref sl], []⟩) (Rv R) := by
  refine cl_def' (binds := [("script", .ref sl)]) rfl (by kernel_rfl!) (by kernel_rfl!) hA.room rfl rfl (n := 6) (by rfl) ?_
  intro L
  with_reducible refine cellsS ?_
  intro _
  with_reducible refine cellsS ?_
  intro _
  with_reducible refine cellsS ?_
  intro _
  with_reducible refine cellsS ?_
  intro _
  with_reducible refine cellsS ?_
  intro _
  with_reducible refine cellsS ?_
  intro _
  with_reducible refine cells0 ?_
  with_reducible refine trB_cons ?_
  ((with_reducible refine' t_storeCell ?zhN ?zu ?zhcl ?zhx ?zhk ?_); (case zhx => kernel_rfl!); (case zhcl => rfl); (case zhN => top_name); (case zu => k_caught0); (case zhk => rfl))
  with_reducible refine trB_nil ?_
  with_reducible refine t_cons ?_
  ((with_reducible refine' t_AssignComp ?zhsw ?zhclos ?zhkind ?zhnames ?zhc ?_ ?zhs); (case zhsw => rfl); (case zhclos => rfl); (case zhkind => rfl); (case zhnames => decide +kernel); (case zhc => rfl); (case zhs => exact fun _ => rfl))
  ((with_reducible refine t_Call ?_ ?zhe); (case zhe => rfl))
  ((with_reducible refine' t_bltin ?ze ?zhv ?zhn ?zhg ?zhb ?zhk ?zhx ?zhd ?_); (case zhv => top_strB); (case ze => top_argsB); (case zhn => decide +kernel); (case zhg => rfl); (case zhb => rfl); (case zhk => rfl); (case zhx => kernel_rfl!); (case zhd => decide +kernel))
  with_reducible refine t_callWithP ?_
  ((with_reducible refine t_evalArgs ?_ ?zhe); (case zhe => rfl))
  ((with_reducible refine t_args ?_ ?zhe); (case zhe => rfl))
  ((with_reducible refine t_int ?_); (intro _))
  with_reducible refine t_args0 ?_
  ((with_reducible refine cp0 ?zhc ?_); (case zhc => k_caughtNB))
  ((with_reducible refine' t_range1 ?_); (intro _ _ _))
  refine t_iterRange (n := 7) (b := 7) rfl (by top_raise) (by decide) fun it => ?_
  with_reducible refine opn ?_
  intro _
  intro _
  ((with_reducible refine' cs_range ?zhi ?_); (case zhi => top_name))
  rename_i cSc cTe cRi cLx cBe cTw t7 r t1 t2 acc C
  refine cl_fix (N2 := (it, itN 0 7) :: (C, .ns []) :: (acc, .lst []) :: (cTw, .cell none) :: (cBe, .cell none) :: (cLx, .cell none) :: (cRi, .cell none) :: (cTe, .cell none) :: (cSc, .cell (some (.ref sl))) :: (L, .ns []) :: N) (by k_caught0) (by k_caught0) (by k_caught0) ?_
  refine cl_indG (Inv := fun k l => ∃ (i : Nat) (vs : List Value), l = ⟨F, (it, itN i 7) :: (C, .ns []) :: (acc, .lst vs) :: (cTw, .cell none) :: (cBe, .cell none) :: (cLx, .cell none) :: (cRi, .cell none) :: (cTe, .cell none) :: (cSc, .cell (some (.ref sl))) :: (L, .ns []) :: N, G⟩ ∧ i + k = 7 ∧
    Ints ((List.range i).map (dr02 sc)) vs) ?_ 7 _ ⟨0, [], rfl, by omega, .nil⟩
  rintro k l IH ⟨i, vs, rfl, hik, hvs⟩
  have hsl := hi.len
  have hvl := hvs.len
  rw [List.length_map, List.length_range] at hvl
  refine cl_comp1 ?_
  rcases Nat.lt_or_ge i 7 with hi7 | hi7
  · ((with_reducible refine' t_nextRange ?zhi ?zhl ?zu ?_); (case zhi => top_name); (case zhl => exact hi7); (case zu => k_caught0); (intro _))
    with_reducible refine t_goName ?_
    with_reducible refine t_assignName ?_
    ((with_reducible refine' t_store ?zhL ?zu ?zhN ?zhl ?zhx ?zhk ?_); (case zhx => kernel_rfl!); (case zhN => top_name); (case zhL => rfl); (case zhl => k_caught0); (case zu => k_caught0); (case zhk => rfl))
    with_reducible refine t_Bin ?_
    with_reducible refine t_IfExp ?_
    ((with_reducible refine t_isCmp ?_ ?zhb); (case zhb => rfl))
    ((with_reducible refine' t_local ?zhL ?zhN ?zhv ?zhx ?zhk ?zhd ?_); (case zhx => kernel_rfl!); (case zhN => top_name); (case zhL => rfl); (case zhv => top_name); (case zhk => rfl); (case zhd => decide +kernel))
    ((with_reducible refine t_Call ?_ ?zhe); (case zhe => rfl))
    ((with_reducible refine' t_bltin ?ze ?zhv ?zhn ?zhg ?zhb ?zhk ?zhx ?zhd ?_); (case zhv => top_strB); (case ze => top_argsB); (case zhn => decide +kernel); (case zhg => rfl); (case zhb => rfl); (case zhk => rfl); (case zhx => kernel_rfl!); (case zhd => decide +kernel))
    with_reducible refine t_callWithP ?_
    ((with_reducible refine t_evalArgs ?_ ?zhe); (case zhe => rfl))
    ((with_reducible refine t_args ?_ ?zhe); (case zhe => rfl))
    ((with_reducible refine' t_cell ?zhc ?zhcl ?zhk ?zhx ?zhd ?_); (case zhx => kernel_rfl!); (case zhcl => rfl); (case zhc => top_name); (case zhk => rfl); (case zhd => decide +kernel))
    with_reducible refine t_args0 ?_
    ((with_reducible refine cp0 ?zhc ?_); (case zhc => k_caughtNB))
    ((with_reducible refine' t_lenF' ?zha ?zhz ?_); (case zha => assumption); (case zhz => omega); (intro _))
    with_reducible refine tc_ltI ?_
    with_reducible refine tt_bool ?_
    refine if_b (fun hb => ?_) (fun hb => ?_)
    · have hlt : i < sc.length := by have := of_decide_eq_true hb; omega
      obtain ⟨tv, htv⟩ := hi.get (List.getElem?_eq_getElem hlt)
      have e : dr02 sc i = (sc[i]).fmod 10007 := by simp [dr02, hlt]
      with_reducible refine t_Sub ?_
      ((with_reducible refine' t_cell ?zhc ?zhcl ?zhk ?zhx ?zhd ?_); (case zhx => kernel_rfl!); (case zhcl => rfl); (case zhc => top_name); (case zhk => rfl); (case zhd => decide +kernel))
      ((with_reducible refine' t_local ?zhL ?zhN ?zhv ?zhx ?zhk ?zhd ?_); (case zhx => kernel_rfl!); (case zhN => top_name); (case zhL => rfl); (case zhv => top_name); (case zhk => rfl); (case zhd => decide +kernel))
      ((with_reducible refine' t_subF' ?zha ?zhs ?_); (case zha => assumption); (case zhs => rfl))
      refine t_itemF' hs (by omega) (by omega) (v := .int sc[i] tv) (by simpa using htv) ?_
      ((with_reducible refine t_int ?_); (intro _))
      ((with_reducible refine ti_mod ?zhb ?_); (case zhb => decide); (intro _))
      ((with_reducible refine' t_append ?zha ?zu ?zhz ?_); (case zha => top_name); (case zu => k_caught0); (case zhz => (unfold sizeLine; omega)))
      refine cl_fix (by k_caught0) (by k_caught0) (by k_caught0) (IH (7 - (i + 1)) (by omega) _ ⟨i + 1, _, rfl, by omega, ?_⟩)
      rw [List.range_succ, List.map_append]
      exact hvs.append (by rw [List.map_cons, e]; exact .cons .nil)
    · have hlt : ¬ i < sc.length := by have := of_decide_eq_false hb; omega
      obtain ⟨tv, htv⟩ := rest02_get i hi7
      have e : dr02 sc i = ((rest02[i]?).getD 0).fmod 10007 := by simp [dr02, hlt]
      with_reducible refine t_Sub ?_
      ((with_reducible refine' t_glob ?ze ?zhg ?zhk ?zhx ?zhd ?_); (case ze => top_raise0); (case zhg => rfl); (case zhk => rfl); (case zhx => kernel_rfl!); (case zhd => decide +kernel))
      ((with_reducible refine' t_local ?zhL ?zhN ?zhv ?zhx ?zhk ?zhd ?_); (case zhx => kernel_rfl!); (case zhN => top_name); (case zhL => rfl); (case zhv => top_name); (case zhk => rfl); (case zhd => decide +kernel))
      ((with_reducible refine' t_subTup ?zha ?zhs ?_); (case zha => top_raise); (case zhs => rfl))
      refine t_itemTup kn_675 (by omega) (by omega) (v := .int ((rest02[i]?).getD 0) tv) (by simpa using htv) ?_
      ((with_reducible refine t_int ?_); (intro _))
      ((with_reducible refine ti_mod ?zhb ?_); (case zhb => decide); (intro _))
      ((with_reducible refine' t_append ?zha ?zu ?zhz ?_); (case zha => top_name); (case zu => k_caught0); (case zhz => (unfold sizeLine; omega)))
      refine cl_fix (by k_caught0) (by k_caught0) (by k_caught0) (IH (7 - (i + 1)) (by omega) _ ⟨i + 1, _, rfl, by omega, ?_⟩)
      rw [List.range_succ, List.map_append]
      exact hvs.append (by rw [List.map_cons, e]; exact .cons .nil)
  · ((with_reducible refine' t_nextRangeEnd ?zhh ?zhi ?zhl ?zu ?_); (case zhh => (refine Rm.hd (n := 0) ?_; k_caughtN0)); (case zhi => top_name); (case zhl => exact hi7); (case zu => k_caught0))
    obtain rfl : i = 7 := by omega
    have hvs : Ints [dr02 sc 0, dr02 sc 1, dr02 sc 2, dr02 sc 3, dr02 sc 4, dr02 sc 5, dr02 sc 6] vs := hvs
    have hd := dr02_bd sc
    generalize dr02 sc = d at hvs hd
    obtain ⟨t0, w0, e0, hv1⟩ := hvs.inv
    obtain ⟨t1, w1, e1, hv2⟩ := hv1.inv
    obtain ⟨t2, w2, e2, hv3⟩ := hv2.inv
    obtain ⟨t3, w3, e3, hv4⟩ := hv3.inv
    obtain ⟨t4, w4, e4, hv5⟩ := hv4.inv
    obtain ⟨t5, w5, e5, hv6⟩ := hv5.inv
    obtain ⟨t6, w6, e6, hv7⟩ := hv6.inv
    cases hv7
    subst e6 e5 e4 e3 e2 e1 e0
    ((with_reducible refine' t_storeM ?zu ?zhN ?zhl ?zhx ?zhk ?_); (case zhx => kernel_rfl!); (case zhN => top_name); (case zhl => k_caught0); (case zu => k_caught0); (case zhk => rfl))
    ((with_reducible refine' endC ?zr ?_); (case zr => k_caught0))
    with_reducible refine fl_next ?_
    with_reducible refine t_cons ?_
    ((with_reducible refine t_AssignName ?_ ?zhs); (case zhs => rfl))
    with_reducible refine t_Bin ?_
    ((with_reducible refine t_int ?_); (intro _))
    with_reducible refine t_Bin ?_
    with_reducible refine t_Sub ?_
    ((with_reducible refine' t_localM ?zhN ?zhv ?zhx ?zhk ?zhd ?_); (case zhx => kernel_rfl!); (case zhN => top_name); (case zhv => top_name); (case zhk => rfl); (case zhd => decide +kernel))
    ((with_reducible refine t_int ?_); (intro _))
    ((with_reducible refine' t_subList ?zha ?zhs ?_); (case zha => top_raise); (case zhs => rfl))
    ((with_reducible refine' t_itemList ?zha ?zhi ?zhz ?zhv ?_); (case zha => top_raise); (case zhi => decide); (case zhz => decide); (case zhv => rfl))
    ((with_reducible refine t_int ?_); (intro _))
    ((with_reducible refine ti_mod ?zhb ?_); (case zhb => decide); (intro _))
    ((with_reducible refine ti_add ?_); (intro tq))
    ((with_reducible refine' t_storeCell ?zhN ?zu ?zhcl ?zhx ?zhk ?_); (case zhx => kernel_rfl!); (case zhcl => rfl); (case zhN => top_name); (case zu => k_caught0); (case zhk => rfl))
    with_reducible refine fl_next ?_
    with_reducible refine t_cons ?_
    ((with_reducible refine t_AssignName ?_ ?zhs); (case zhs => rfl))
    with_reducible refine t_Sub ?_
    ((with_reducible refine' t_MCall ?_ ?zhe); (case zhe => rfl))
    ((with_reducible refine t_str ?_); (intro _))
    with_reducible refine ms_join ?_
    with_reducible refine mc ?_
    with_reducible refine t_callWithP ?_
    ((with_reducible refine t_evalArgs ?_ ?zhe); (case zhe => rfl))
    ((with_reducible refine t_args ?_ ?zhe); (case zhe => rfl))
    with_reducible refine t_Bin ?_
    ((with_reducible refine' t_ListComp ?zhclos ?zhkind ?zhnames ?zhc ?_ ?zhs); (case zhclos => rfl); (case zhkind => rfl); (case zhnames => decide +kernel); (case zhc => rfl); (case zhs => exact fun _ => rfl))
    with_reducible refine t_Sub ?_
    ((with_reducible refine' t_localM ?zhN ?zhv ?zhx ?zhk ?zhd ?_); (case zhx => kernel_rfl!); (case zhN => top_name); (case zhv => top_name); (case zhk => rfl); (case zhd => decide +kernel))
    with_reducible refine t_Slice ?_
    with_reducible refine t_part ?_
    ((with_reducible refine t_int ?_); (intro _))
    with_reducible refine t_part ?_
    ((with_reducible refine t_int ?_); (intro _))
    with_reducible refine opnS ?_
    intro _
    ((with_reducible refine' t_subList ?zha ?zhs ?_); (case zha => top_raise); (case zhs => rfl))
    refine t_sliceL (ws := [.int (d 1) t1, .int (d 2) t2, .int (d 3) t3]) (by top_raise) (by top_raise) (.int ..) (.int ..) (by simp) (by rfl) fun c1 => ?_
    ((with_reducible refine' t_iterList ?zha ?_); (case zha => top_raise); (intro _))
    with_reducible refine opn ?_
    intro _
    intro _
    ((with_reducible refine' cs_list ?zhi ?_); (case zhi => top_name))
    refine cl_comp1 ?_
    ((with_reducible refine' t_nextList ?zhi ?zha ?zhv ?zu ?_); (case zhi => top_name); (case zha => top_raise); (case zhv => rfl); (case zu => k_caught0))
    with_reducible refine t_goName ?_
    with_reducible refine t_assignName ?_
    ((with_reducible refine' t_store ?zhL ?zu ?zhN ?zhl ?zhx ?zhk ?_); (case zhx => kernel_rfl!); (case zhN => top_name); (case zhL => rfl); (case zhl => k_caught0); (case zu => k_caught0); (case zhk => rfl))
    with_reducible refine t_Sub ?_
    ((with_reducible refine t_str ?_); (intro _))
    with_reducible refine t_Bin ?_
    ((with_reducible refine' t_local ?zhL ?zhN ?zhv ?zhx ?zhk ?zhd ?_); (case zhx => kernel_rfl!); (case zhN => top_name); (case zhL => rfl); (case zhv => top_name); (case zhk => rfl); (case zhd => decide +kernel))
    ((with_reducible refine t_int ?_); (intro _))
    ((with_reducible refine ti_mod ?zhb ?_); (case zhb => decide); (intro _))
    ((with_reducible refine' t_subStr ?zhs ?_); (case zhs => rfl))
    ((with_reducible refine' t_letter ?zhk ?zh2 ?zhx ?_); (case zhk => decide); (case zh2 => decide); (case zhx => decide); (intro _))
    ((with_reducible refine' t_append0 ?zha ?zu ?_); (case zha => top_name); (case zu => k_caught0))
    refine cl_comp1 ?_
    ((with_reducible refine' t_nextList ?zhi ?zha ?zhv ?zu ?_); (case zhi => top_name); (case zha => top_raise); (case zhv => rfl); (case zu => k_caught0))
    with_reducible refine t_goName ?_
    with_reducible refine t_assignName ?_
    ((with_reducible refine' t_store ?zhL ?zu ?zhN ?zhl ?zhx ?zhk ?_); (case zhx => kernel_rfl!); (case zhN => top_name); (case zhL => rfl); (case zhl => k_caught0); (case zu => k_caught0); (case zhk => rfl))
    with_reducible refine t_Sub ?_
    ((with_reducible refine t_str ?_); (intro _))
    with_reducible refine t_Bin ?_
    ((with_reducible refine' t_local ?zhL ?zhN ?zhv ?zhx ?zhk ?zhd ?_); (case zhx => kernel_rfl!); (case zhN => top_name); (case zhL => rfl); (case zhv => top_name); (case zhk => rfl); (case zhd => decide +kernel))
    ((with_reducible refine t_int ?_); (intro _))
    ((with_reducible refine ti_mod ?zhb ?_); (case zhb => decide); (intro _))
    ((with_reducible refine' t_subStr ?zhs ?_); (case zhs => rfl))
    ((with_reducible refine' t_letter ?zhk ?zh2 ?zhx ?_); (case zhk => decide); (case zh2 => decide); (case zhx => decide); (intro _))
    ((with_reducible refine' t_append1 ?zha ?zu ?_); (case zha => top_name); (case zu => k_caught0))
    refine cl_comp1 ?_
    ((with_reducible refine' t_nextList ?zhi ?zha ?zhv ?zu ?_); (case zhi => top_name); (case zha => top_raise); (case zhv => rfl); (case zu => k_caught0))
    with_reducible refine t_goName ?_
    with_reducible refine t_assignName ?_
    ((with_reducible refine' t_store ?zhL ?zu ?zhN ?zhl ?zhx ?zhk ?_); (case zhx => kernel_rfl!); (case zhN => top_name); (case zhL => rfl); (case zhl => k_caught0); (case zu => k_caught0); (case zhk => rfl))
    with_reducible refine t_Sub ?_
    ((with_reducible refine t_str ?_); (intro _))
    with_reducible refine t_Bin ?_
    ((with_reducible refine' t_local ?zhL ?zhN ?zhv ?zhx ?zhk ?zhd ?_); (case zhx => kernel_rfl!); (case zhN => top_name); (case zhL => rfl); (case zhv => top_name); (case zhk => rfl); (case zhd => decide +kernel))
    ((with_reducible refine t_int ?_); (intro _))
    ((with_reducible refine ti_mod ?zhb ?_); (case zhb => decide); (intro _))
    ((with_reducible refine' t_subStr ?zhs ?_); (case zhs => rfl))
    ((with_reducible refine' t_letter ?zhk ?zh2 ?zhx ?_); (case zhk => decide); (case zh2 => decide); (case zhx => decide); (intro _))
    ((with_reducible refine' t_append2 ?zha ?zu ?_); (case zha => top_name); (case zu => k_caught0))
    refine cl_comp1 ?_
    ((with_reducible refine' t_nextListEnd ?zhh ?zhi ?zha ?zhv ?zu ?_); (case zhh => (refine Rm.hd (n := 0) ?_; k_caughtN0)); (case zhi => top_name); (case zha => top_raise); (case zhv => simp); (case zu => k_caught0))
    ((with_reducible refine' endC ?zr ?_); (case zr => k_caught0))
    ((with_reducible refine' t_ListComp ?zhclos ?zhkind ?zhnames ?zhc ?_ ?zhs); (case zhclos => rfl); (case zhkind => rfl); (case zhnames => decide +kernel); (case zhc => rfl); (case zhs => exact fun _ => rfl))
    with_reducible refine t_Sub ?_
    ((with_reducible refine' t_localM ?zhN ?zhv ?zhx ?zhk ?zhd ?_); (case zhx => kernel_rfl!); (case zhN => top_name); (case zhv => top_name); (case zhk => rfl); (case zhd => decide +kernel))
    with_reducible refine t_Slice ?_
    with_reducible refine t_part ?_
    ((with_reducible refine t_int ?_); (intro _))
    with_reducible refine t_part0 ?_
    with_reducible refine opnS ?_
    intro _
    ((with_reducible refine' t_subList ?zha ?zhs ?_); (case zha => top_raise); (case zhs => rfl))
    refine t_sliceL (ws := [.int (d 4) t4, .int (d 5) t5, .int (d 6) t6]) (by top_raise) (by top_raise) (.int ..) .none (by simp) (by simp [slicePick, sliceBounds, sliceRange]; rfl) fun c2 => ?_
    ((with_reducible refine' t_iterList ?zha ?_); (case zha => top_raise); (intro _))
    with_reducible refine opn ?_
    intro _
    intro _
    ((with_reducible refine' cs_list ?zhi ?_); (case zhi => top_name))
    refine cl_comp1 ?_
    ((with_reducible refine' t_nextList ?zhi ?zha ?zhv ?zu ?_); (case zhi => top_name); (case zha => top_raise); (case zhv => rfl); (case zu => k_caught0))
    with_reducible refine t_goName ?_
    with_reducible refine t_assignName ?_
    ((with_reducible refine' t_store ?zhL ?zu ?zhN ?zhl ?zhx ?zhk ?_); (case zhx => kernel_rfl!); (case zhN => top_name); (case zhL => rfl); (case zhl => k_caught0); (case zu => k_caught0); (case zhk => rfl))
    with_reducible refine t_Sub ?_
    ((with_reducible refine t_str ?_); (intro _))
    with_reducible refine t_Bin ?_
    ((with_reducible refine' t_local ?zhL ?zhN ?zhv ?zhx ?zhk ?zhd ?_); (case zhx => kernel_rfl!); (case zhN => top_name); (case zhL => rfl); (case zhv => top_name); (case zhk => rfl); (case zhd => decide +kernel))
    ((with_reducible refine t_int ?_); (intro _))
    ((with_reducible refine ti_mod ?zhb ?_); (case zhb => decide); (intro _))
    ((with_reducible refine' t_subStr ?zhs ?_); (case zhs => rfl))
    ((with_reducible refine' t_letter ?zhk ?zh2 ?zhx ?_); (case zhk => decide); (case zh2 => decide); (case zhx => decide); (intro _))
    ((with_reducible refine' t_append0 ?zha ?zu ?_); (case zha => top_name); (case zu => k_caught0))
    refine cl_comp1 ?_
    ((with_reducible refine' t_nextList ?zhi ?zha ?zhv ?zu ?_); (case zhi => top_name); (case zha => top_raise); (case zhv => rfl); (case zu => k_caught0))
    with_reducible refine t_goName ?_
    with_reducible refine t_assignName ?_
    ((with_reducible refine' t_store ?zhL ?zu ?zhN ?zhl ?zhx ?zhk ?_); (case zhx => kernel_rfl!); (case zhN => top_name); (case zhL => rfl); (case zhl => k_caught0); (case zu => k_caught0); (case zhk => rfl))
    with_reducible refine t_Sub ?_
    ((with_reducible refine t_str ?_); (intro _))
    with_reducible refine t_Bin ?_
    ((with_reducible refine' t_local ?zhL ?zhN ?zhv ?zhx ?zhk ?zhd ?_); (case zhx => kernel_rfl!); (case zhN => top_name); (case zhL => rfl); (case zhv => top_name); (case zhk => rfl); (case zhd => decide +kernel))
    ((with_reducible refine t_int ?_); (intro _))
    ((with_reducible refine ti_mod ?zhb ?_); (case zhb => decide); (intro _))
    ((with_reducible refine' t_subStr ?zhs ?_); (case zhs => rfl))
    ((with_reducible refine' t_letter ?zhk ?zh2 ?zhx ?_); (case zhk => decide); (case zh2 => decide); (case zhx => decide); (intro _))
    ((with_reducible refine' t_append1 ?zha ?zu ?_); (case zha => top_name); (case zu => k_caught0))
    refine cl_comp1 ?_
    ((with_reducible refine' t_nextList ?zhi ?zha ?zhv ?zu ?_); (case zhi => top_name); (case zha => top_raise); (case zhv => rfl); (case zu => k_caught0))
    with_reducible refine t_goName ?_
    with_reducible refine t_assignName ?_
    ((with_reducible refine' t_store ?zhL ?zu ?zhN ?zhl ?zhx ?zhk ?_); (case zhx => kernel_rfl!); (case zhN => top_name); (case zhL => rfl); (case zhl => k_caught0); (case zu => k_caught0); (case zhk => rfl))
    with_reducible refine t_Sub ?_
    ((with_reducible refine t_str ?_); (intro _))
    with_reducible refine t_Bin ?_
    ((with_reducible refine' t_local ?zhL ?zhN ?zhv ?zhx ?zhk ?zhd ?_); (case zhx => kernel_rfl!); (case zhN => top_name); (case zhL => rfl); (case zhv => top_name); (case zhk => rfl); (case zhd => decide +kernel))
    ((with_reducible refine t_int ?_); (intro _))
    ((with_reducible refine ti_mod ?zhb ?_); (case zhb => decide); (intro _))
    ((with_reducible refine' t_subStr ?zhs ?_); (case zhs => rfl))
    ((with_reducible refine' t_letter ?zhk ?zh2 ?zhx ?_); (case zhk => decide); (case zh2 => decide); (case zhx => decide); (intro _))
    ((with_reducible refine' t_append2 ?zha ?zu ?_); (case zha => top_name); (case zu => k_caught0))
    refine cl_comp1 ?_
    ((with_reducible refine' t_nextListEnd ?zhh ?zhi ?zha ?zhv ?zu ?_); (case zhh => (refine Rm.hd (n := 0) ?_; k_caughtN0)); (case zhi => top_name); (case zha => top_raise); (case zhv => simp); (case zu => k_caught0))
    ((with_reducible refine' endC ?zr ?_); (case zr => k_caught0))
    ((with_reducible refine' t_addL ?zha ?zhb ?zhz ?_); (case zha => top_raise); (case zhb => top_raise); (case zhz => (first | decide | (simp; done) | (simp; omega))); (intro _))
    with_reducible refine t_args0 ?_
    ((with_reducible refine cp1 ?zhc ?_); (case zhc => k_caughtNB))
    ((with_reducible refine' t_join ?zha ?zhs ?zhz ?_); (case zha => top_raise); (case zhs => k_caughtB); (case zhz => rfl); (intro _))
    with_reducible refine t_Slice ?_
    with_reducible refine t_part0 ?_
    with_reducible refine t_part ?_
    with_reducible refine t_Bin ?_
    with_reducible refine t_Bin ?_
    with_reducible refine t_Sub ?_
    ((with_reducible refine' t_localM ?zhN ?zhv ?zhx ?zhk ?zhd ?_); (case zhx => kernel_rfl!); (case zhN => top_name); (case zhv => top_name); (case zhk => rfl); (case zhd => decide +kernel))
    ((with_reducible refine t_int ?_); (intro _))
    ((with_reducible refine' t_subList ?zha ?zhs ?_); (case zha => top_raise); (case zhs => rfl))
    ((with_reducible refine' t_itemList ?zha ?zhi ?zhz ?zhv ?_); (case zha => top_raise); (case zhi => decide); (case zhz => decide); (case zhv => rfl))
    ((with_reducible refine t_int ?_); (intro _))
    ((with_reducible refine ti_div ?zhb ?zhp ?_); (case zhb => decide); (case zhp => exact PyProof.noPylong_small (by decide)); (intro _))
    ((with_reducible refine t_int ?_); (intro _))
    ((with_reducible refine ti_mod ?zhb ?_); (case zhb => decide); (intro _))
    with_reducible refine opnS ?_
    intro _
    ((with_reducible refine' t_subStr ?zhs ?_); (case zhs => rfl))
    refine t_sliceHiE (((d 0).fdiv 3).fmod 7).toNat (by top_raise) (Int.toNat_of_nonneg (Int.fmod_nonneg_of_pos _ (by decide))).symm (by show (6 : Nat) ≤ _; decide) (rg := ringS d) (by rfl) fun tr => ?_
    obtain ⟨hr1, hr2⟩ := ringS_ok d
    generalize ringS d = rg at hr1 hr2 ⊢
    ((with_reducible refine' t_storeCell ?zhN ?zu ?zhcl ?zhx ?zhk ?_); (case zhx => kernel_rfl!); (case zhcl => rfl); (case zhN => top_name); (case zu => k_caught0); (case zhk => rfl))
    with_reducible refine fl_next ?_
    with_reducible refine t_cons ?_
    ((with_reducible refine t_AssignName ?_ ?zhs); (case zhs => rfl))
    with_reducible refine t_Bin ?_
    ((with_reducible refine' t_cell ?zhc ?zhcl ?zhk ?zhx ?zhd ?_); (case zhx => kernel_rfl!); (case zhcl => rfl); (case zhc => top_name); (case zhk => rfl); (case zhd => decide +kernel))
    ((with_reducible refine t_Call ?_ ?zhe); (case zhe => rfl))
    ((with_reducible refine' t_bltin ?ze ?zhv ?zhn ?zhg ?zhb ?zhk ?zhx ?zhd ?_); (case zhv => top_strB); (case ze => top_argsB); (case zhn => decide +kernel); (case zhg => rfl); (case zhb => rfl); (case zhk => rfl); (case zhx => kernel_rfl!); (case zhd => decide +kernel))
    with_reducible refine t_callWithP ?_
    ((with_reducible refine t_evalArgs ?_ ?zhe); (case zhe => rfl))
    ((with_reducible refine t_args ?_ ?zhe); (case zhe => rfl))
    ((with_reducible refine' t_ListComp ?zhclos ?zhkind ?zhnames ?zhc ?_ ?zhs); (case zhclos => rfl); (case zhkind => rfl); (case zhnames => decide +kernel); (case zhc => rfl); (case zhs => exact fun _ => rfl))
    ((with_reducible refine' t_cell ?zhc ?zhcl ?zhk ?zhx ?zhd ?_); (case zhx => kernel_rfl!); (case zhcl => rfl); (case zhc => top_name); (case zhk => rfl); (case zhd => decide +kernel))
    ((with_reducible refine' t_iterStr ?_); (intro _))
    with_reducible refine opn ?_
    intro _
    intro _
    ((with_reducible refine' cs_str ?zhi ?_); (case zhi => top_name))
    rename_i its acc1 C1
    have hacc0 := acc
    refine cl_fix (N2 := (its, itS rg tr 0) :: (C1, .ns []) :: (acc1, .lst []) :: (cTw, .cell none) :: (cBe, .cell none) :: (cLx, .cell none) :: (cRi, .cell (some (.str rg tr))) :: (cTe, .cell (some (.int (1 + (d 0).fmod 3) tq))) :: (cSc, .cell (some (.ref sl))) :: (L, .ns [("draw", .ref acc)]) :: N) (by k_caught0) (by k_caught0) (by k_caught0) ?_
    refine cl_indG (Inv := fun k l => ∃ (i : Nat) (vs : List Value), l = ⟨F, (its, itS rg tr i) :: (C1, .ns []) :: (acc1, .lst vs) :: (cTw, .cell none) :: (cBe, .cell none) :: (cLx, .cell none) :: (cRi, .cell (some (.str rg tr))) :: (cTe, .cell (some (.int (1 + (d 0).fmod 3) tq))) :: (cSc, .cell (some (.ref sl))) :: (L, .ns [("draw", .ref acc)]) :: N, G⟩ ∧ i + k = rg.cps.toList.length ∧
      Ints ((rg.cps.toList.take i).map arity) vs) ?_ rg.cps.toList.length _ ⟨0, [], rfl, by omega, .nil⟩
    rintro k l IH ⟨i, vs, rfl, hik, hvs⟩
    have hvl := hvs.len
    rw [List.length_map, List.length_take] at hvl
    refine cl_comp1 ?_
    rcases Nat.lt_or_ge i rg.cps.toList.length with hi7 | hi7
    · have hg : rg.cps[i]? = some (rg.cps.toList[i]) := by rw [← Array.getElem?_toList, List.getElem?_eq_getElem hi7]
      have hcb := hr2 _ (List.getElem_mem hi7)
      ((with_reducible refine' t_nextStr ?zhi ?zhc ?zu ?_); (case zhi => top_name); (case zhc => exact hg); (case zu => k_caught0); (intro _))
      with_reducible refine t_goName ?_
      with_reducible refine t_assignName ?_
      ((with_reducible refine' t_store ?zhL ?zu ?zhN ?zhl ?zhx ?zhk ?_); (case zhx => kernel_rfl!); (case zhN => top_name); (case zhL => rfl); (case zhl => k_caught0); (case zu => k_caught0); (case zhk => rfl))
      with_reducible refine t_Bin ?_
      ((with_reducible refine' t_MCall ?_ ?zhe); (case zhe => rfl))
      ((with_reducible refine t_str ?_); (intro _))
      with_reducible refine ms_index ?_
      with_reducible refine mc ?_
      with_reducible refine t_callWithP ?_
      ((with_reducible refine t_evalArgs ?_ ?zhe); (case zhe => rfl))
      ((with_reducible refine t_args ?_ ?zhe); (case zhe => rfl))
      ((with_reducible refine' t_local ?zhL ?zhN ?zhv ?zhx ?zhk ?zhd ?_); (case zhx => kernel_rfl!); (case zhN => top_name); (case zhL => rfl); (case zhv => top_name); (case zhk => rfl); (case zhd => decide +kernel))
      with_reducible refine t_args0 ?_
      ((with_reducible refine cp1 ?zhc ?_); (case zhc => k_caughtNB))
      refine t_index (occ_abcd hcb.1 hcb.2) fun tix => ?_
      ((with_reducible refine t_int ?_); (intro _))
      ((with_reducible refine ti_sub ?_); (intro _))
      ((with_reducible refine' t_append ?zha ?zu ?zhz ?_); (case zha => top_name); (case zu => k_caught0); (case zhz => (unfold sizeLine; omega)))
      refine cl_fix (by k_caught0) (by k_caught0) (by k_caught0) (IH (rg.cps.toList.length - (i + 1)) (by omega) _ ⟨i + 1, _, rfl, by omega, ?_⟩)
      have e : arity (rg.cps.toList[i]) = ((rg.cps.toList[i] - 97 : Nat) : Int) - 1 := by unfold arity; omega
      rw [List.take_add_one, List.getElem?_eq_getElem hi7, List.map_append]
      exact hvs.append (by rw [show (some rg.cps.toList[i]).toList = [rg.cps.toList[i]] from rfl, List.map_cons, e]; exact .cons .nil)
    · ((with_reducible refine' t_nextStrEnd ?zhh ?zhi ?zhc ?zu ?_); (case zhh => (refine Rm.hd (n := 0) ?_; k_caughtN0)); (case zhi => top_name); (case zhc => exact hi7); (case zu => k_caught0))
      ((with_reducible refine' endC ?zr ?_); (case zr => k_caught0))
      with_reducible refine t_args0 ?_
      ((with_reducible refine cp0 ?zhc ?_); (case zhc => k_caughtNB))
      rw [List.take_of_length_le hi7] at hvs
      refine t_sum ?_ (by top_raise) hvs ?_ ?_ fun tsm => ?_
      · exact Rm.hd (n := 0) (by k_caughtN0)
      · intro n hn
        obtain ⟨c, hc, rfl⟩ := List.mem_map.mp hn
        have := hr2 c hc
        unfold arity; omega
      · rw [List.length_map]; omega
      ((with_reducible refine ti_add ?_); (intro _))
      ((with_reducible refine' t_storeM ?zu ?zhN ?zhl ?zhx ?zhk ?_); (case zhx => kernel_rfl!); (case zhN => top_name); (case zhl => k_caught0); (case zu => k_caught0); (case zhk => rfl))
      with_reducible refine fl_next ?_
      with_reducible refine t_cons ?_
      ((with_reducible refine t_AssignName ?_ ?zhs); (case zhs => rfl))
      with_reducible refine t_Bin ?_
      ((with_reducible refine' t_cell ?zhc ?zhcl ?zhk ?zhx ?zhd ?_); (case zhx => kernel_rfl!); (case zhcl => rfl); (case zhc => top_name); (case zhk => rfl); (case zhd => decide +kernel))
      with_reducible refine t_IfExp ?_
      ((with_reducible refine t_isCmp ?_ ?zhb); (case zhb => rfl))
      ((with_reducible refine' t_localM ?zhN ?zhv ?zhx ?zhk ?zhd ?_); (case zhx => kernel_rfl!); (case zhN => top_name); (case zhv => top_name); (case zhk => rfl); (case zhd => decide +kernel))
      ((with_reducible refine t_int ?_); (intro _))
      with_reducible refine tc_geI ?_
      with_reducible refine tt_bool ?_
      have hab := arity_sum hr2
      have hd0 := Int.fmod_nonneg_of_pos (d 0) (b := 3) (by decide)
      have hd1 := Int.fmod_lt_of_pos (d 0) (b := 3) (by decide)
      have hT1 : 1 ≤ 1 + (d 0).fmod 3 := by omega
      have hT3 : 1 + (d 0).fmod 3 ≤ 3 := by omega
      generalize 1 + (d 0).fmod 3 = T at hT1 hT3 ⊢
      generalize hS : (rg.cps.toList.map arity).sum = S0 at hab ⊢
      refine if_merge (P := fun v => ∃ tf, v = .str (fillS (T + S0)) tf) (fun hb => ?_) (fun hb => ?_) ?_
      · have hb := of_decide_eq_true hb
        with_reducible refine t_Bin ?_
        ((with_reducible refine t_str ?_); (intro _))
        ((with_reducible refine' t_localM ?zhN ?zhv ?zhx ?zhk ?zhd ?_); (case zhx => kernel_rfl!); (case zhN => top_name); (case zhv => top_name); (case zhk => rfl); (case zhd => decide +kernel))
        refine t_mulStr1 (c := 97) (n := (T + S0).toNat) (by omega) (by omega) fun tf => ?_
        refine ⟨⟨tf, ?_⟩, rfl⟩
        rw [show fillS (T + S0) = ⟨(List.replicate (T + S0).toNat 97).toArray⟩ from if_pos hb]
      · have hb := of_decide_eq_false hb
        with_reducible refine t_Bin ?_
        ((with_reducible refine t_str ?_); (intro _))
        with_reducible refine t_Neg ?_
        ((with_reducible refine' t_localM ?zhN ?zhv ?zhx ?zhk ?zhd ?_); (case zhx => kernel_rfl!); (case zhN => top_name); (case zhv => top_name); (case zhk => rfl); (case zhd => decide +kernel))
        ((with_reducible refine ti_neg ?_); (intro _))
        refine t_mulStr1 (c := 99) (n := (-(T + S0)).toNat) (by omega) (by omega) fun tf => ?_
        refine ⟨⟨tf, ?_⟩, rfl⟩
        rw [show fillS (T + S0) = ⟨(List.replicate (-(T + S0)).toNat 99).toArray⟩ from if_neg hb]
      rintro _ ⟨tf, rfl⟩
      obtain ⟨hf1, hf2, hf3⟩ := fill_sum (T + S0)
      skip
      have hrl : rg.length = rg.cps.toList.length := by simp [Str.length]
      have hfl : (fillS (T + S0)).length = (fillS (T + S0)).cps.toList.length := by simp [Str.length]
      refine ts_add (by rw [hrl, hfl, hf3]; unfold sizeLine; omega) fun tR => ?_
      obtain ⟨x, hx, hx1, hx2, hx3⟩ : ∃ x : Str, rg ++ fillS (T + S0) = x ∧ x.cps.toList.length ≤ 30 ∧ (∀ c ∈ x.cps.toList, 97 ≤ c ∧ c ≤ 100) ∧ (x.cps.toList.map arity).sum = -T := by
        have e : (rg ++ fillS (T + S0)).cps.toList = rg.cps.toList ++ (fillS (T + S0)).cps.toList := by
          show (rg.cps ++ (fillS (T + S0)).cps).toList = _
          simp
        refine ⟨_, rfl, ?_, ?_, ?_⟩
        · rw [e, List.length_append]; omega
        · intro c hc
          rw [e] at hc
          exact (List.mem_append.mp hc).elim (hr2 c) (hf2 c)
        · rw [e, List.map_append, List.sum_append]; omega
      rw [hx]
      clear hx hf1 hf2 hf3 hab hrl hfl hr1 hr2 hvs hvl hik hi7 IH hd hd0 hd1 hS
      ((with_reducible refine' t_storeCell ?zhN ?zu ?zhcl ?zhx ?zhk ?_); (case zhx => kernel_rfl!); (case zhcl => rfl); (case zhN => top_name); (case zu => k_caught0); (case zhk => rfl))
      with_reducible refine fl_next ?_
      with_reducible refine t_cons ?_
      ((with_reducible refine t_AssignName ?_ ?zhs); (case zhs => rfl))
      with_reducible refine t_List ?_
      with_reducible refine t_args0 ?_
      ((with_reducible refine t_newList ?zhz ?_); (case zhz => simp [sizeLine]))
      intro _
      ((with_reducible refine' t_storeM ?zu ?zhN ?zhl ?zhx ?zhk ?_); (case zhx => kernel_rfl!); (case zhN => top_name); (case zhl => k_caught0); (case zu => k_caught0); (case zhk => rfl))
      with_reducible refine fl_next ?_
      with_reducible refine t_cons ?_
      ((with_reducible refine t_For ?_ ?zhs); (case zhs => exact fun _ => rfl))
      ((with_reducible refine t_Call ?_ ?zhe); (case zhe => rfl))
      ((with_reducible refine' t_bltin ?ze ?zhv ?zhn ?zhg ?zhb ?zhk ?zhx ?zhd ?_); (case zhv => top_strB); (case ze => top_argsB); (case zhn => decide +kernel); (case zhg => rfl); (case zhb => rfl); (case zhk => rfl); (case zhx => kernel_rfl!); (case zhd => decide +kernel))
      with_reducible refine t_callWithP ?_
      ((with_reducible refine t_evalArgs ?_ ?zhe); (case zhe => rfl))
      ((with_reducible refine t_args ?_ ?zhe); (case zhe => rfl))
      ((with_reducible refine t_str ?_); (intro _))
      with_reducible refine t_args0 ?_
      ((with_reducible refine cp0 ?zhc ?_); (case zhc => k_caughtNB))
      ((with_reducible refine' t_enumStr ?_); (intro _ _))
      ((with_reducible refine' t_iterEnum ?zhe ?_); (case zhe => top_name))
      rename_i tlk a tab e its2
      refine cl_fix (N2 := (e, enumO its2 0 .none) :: (its2, itS "abcd" tab 0) :: (a, .lst []) :: (cTw, .cell none) :: (cBe, .cell none) :: (cLx, .cell none) :: (cRi, .cell (some (.str x tR))) :: (cTe, .cell (some (.int T tq))) :: (L, .ns [("rules", .ref a)]) :: N) (by k_caught0) (by k_caught0) (by k_caught0) ?_
      refine cl_ind (Inv := fun k l => ∃ (F' : PH) (i : Nat) (old : Value) (vs : List Value) (rs : List RuleE), l = ⟨F', (e, enumO its2 i old) :: (its2, itS "abcd" tab i) :: (a, .lst vs) :: (cTw, .cell none) :: (cBe, .cell none) :: (cLx, .cell none) :: (cRi, .cell (some (.str x tR))) :: (cTe, .cell (some (.int T tq))) :: (L, .ns [("rules", .ref a)]) :: N, G⟩ ∧
        F.le F' ∧ i + k = 4 ∧ rs.length = i ∧ RulesSo (cx w mg mb O) F' vs rs) ?_ 4 _ ⟨F, 0, .none, [], [], rfl, PH.le_refl F, by omega, rfl, .nil, fun j r hr => by simp at hr⟩
      rintro k l IH ⟨F1, i, old, vs, rs, rfl, hF1, hik, hrl, hrs, hrp⟩
      have hvl := hrs.len
      refine cl_for1 ?_
      rcases Nat.lt_or_ge i 4 with hi4 | hi4
      · ((with_reducible refine' t_nextEnumS ?zhh ?zr1 ?zr2 ?zhv ?_); (case zhh => (refine Rm.hd (n := 0) ?_; k_caughtN0)); (case zr1 => k_caught0); (case zr2 => k_caught0); (case zhv => exact cp4 hi4); (intro _ _ _))
        ((with_reducible refine' t_goTupE ?zhe ?zu ?_); (case zhe => top_name); (case zu => k_caught0))
        ((with_reducible refine' t_assignTup ?zhh ?zha ?zhe ?zhn ?_); (case zhh => (refine Rm.hd (n := 0) ?_; k_caughtN0)); (case zha => top_raise); (case zhe => rfl); (case zhn => rfl))
        with_reducible refine trA_cons ?_
        with_reducible refine t_assignName ?_
        ((with_reducible refine' t_storeM ?zu ?zhN ?zhl ?zhx ?zhk ?_); (case zhx => kernel_rfl!); (case zhN => top_name); (case zhl => k_caught0); (case zu => k_caught0); (case zhk => rfl))
        with_reducible refine trA_cons ?_
        with_reducible refine t_assignName ?_
        ((with_reducible refine' t_storeM ?zu ?zhN ?zhl ?zhx ?zhk ?_); (case zhx => kernel_rfl!); (case zhN => top_name); (case zhl => k_caught0); (case zu => k_caught0); (case zhk => rfl))
        with_reducible refine trA_nil ?_
        with_reducible refine t_cons ?_
        ((with_reducible refine t_ExprSt ?_ ?zhi ?zhs); (case zhi => rfl); (case zhs => rfl))
        ((with_reducible refine' t_MCall ?_ ?zhe); (case zhe => rfl))
        ((with_reducible refine' t_localM ?zhN ?zhv ?zhx ?zhk ?zhd ?_); (case zhx => kernel_rfl!); (case zhN => top_name); (case zhv => top_name); (case zhk => rfl); (case zhd => decide +kernel))
        ((with_reducible refine' ml_append ?zha ?_); (case zha => top_raise))
        with_reducible refine mc ?_
        with_reducible refine t_callWithP ?_
        ((with_reducible refine t_evalArgs ?_ ?zhe); (case zhe => rfl))
        ((with_reducible refine t_args ?_ ?zhe); (case zhe => rfl))
        with_reducible refine t_Tuple ?_
        ((with_reducible refine t_args ?_ ?zhe); (case zhe => rfl))
        ((with_reducible refine t_Call ?_ ?zhe); (case zhe => rfl))
        ((with_reducible refine' t_glob ?ze ?zhg ?zhk ?zhx ?zhd ?_); (case ze => top_raise0); (case zhg => rfl); (case zhk => rfl); (case zhx => kernel_rfl!); (case zhd => decide +kernel))
        with_reducible refine t_callWithP ?_
        ((with_reducible refine t_evalArgs ?_ ?zhe); (case zhe => rfl))
        ((with_reducible refine t_args ?_ ?zhe); (case zhe => rfl))
        with_reducible refine t_List ?_
        ((with_reducible refine t_args ?_ ?zhe); (case zhe => rfl))
        with_reducible refine t_List ?_
        ((with_reducible refine t_args ?_ ?zhe); (case zhe => rfl))
        ((with_reducible refine' t_localM ?zhN ?zhv ?zhx ?zhk ?zhd ?_); (case zhx => kernel_rfl!); (case zhN => top_name); (case zhv => top_name); (case zhk => rfl); (case zhd => decide +kernel))
        with_reducible refine t_args0 ?_
        ((with_reducible refine t_newList ?zhz ?_); (case zhz => simp [sizeLine]))
        intro _
        with_reducible refine t_args0 ?_
        ((with_reducible refine t_newList ?zhz ?_); (case zhz => simp [sizeLine]))
        intro _
        with_reducible refine t_args0 ?_
        ((with_reducible refine cp0 ?zhc ?_); (case zhc => k_caughtNB))
        ((with_reducible refine' t_make (fI := 642) ?zhm ?zhi ?zhf ?_); (case zhm => top_reprB); (case zhi => top_reprB); (case zhf => top_reprB); (intro _ _); (with_reducible refine' sp_Pinit _ _ _ ?zhA _ ?_); (case zhA => k_caughtN0); (refine And.intro rfl ?_))
        ((with_reducible refine t_args ?_ ?zhe); (case zhe => rfl))
        ((with_reducible refine t_Call ?_ ?zhe); (case zhe => rfl))
        ((with_reducible refine' t_glob ?ze ?zhg ?zhk ?zhx ?zhd ?_); (case ze => top_raise0); (case zhg => rfl); (case zhk => rfl); (case zhx => kernel_rfl!); (case zhd => decide +kernel))
        with_reducible refine t_callWithP ?_
        ((with_reducible refine t_evalArgs ?_ ?zhe); (case zhe => rfl))
        ((with_reducible refine t_args ?_ ?zhe); (case zhe => rfl))
        with_reducible refine t_Bin ?_
        ((with_reducible refine t_str ?_); (intro _))
        ((with_reducible refine' t_MCall ?_ ?zhe); (case zhe => rfl))
        ((with_reducible refine' t_localM ?zhN ?zhv ?zhx ?zhk ?zhd ?_); (case zhx => kernel_rfl!); (case zhN => top_name); (case zhv => top_name); (case zhk => rfl); (case zhd => decide +kernel))
        with_reducible refine ms_upper ?_
        with_reducible refine mc ?_
        with_reducible refine t_callWithP ?_
        with_reducible refine t_evalArgs0 ?_
        ((with_reducible refine cp1 ?zhc ?_); (case zhc => k_caughtNB))
        rename_i tp tk u r1 rw_ pl dp ts
        refine t_upper (up4 hi4) (by show 1 ≤ _; decide) fun tu => ?_
        skip
        refine ts_add (by show 6 ≤ _; decide) fun tz => ?_
        with_reducible refine t_args0 ?_
        ((with_reducible refine cp0 ?zhc ?_); (case zhc => k_caughtNB))
        refine tr_call (sp_stt2 (sp4 hi4) (by rw [ln4 hi4]; decide) (by rw [ln4 hi4]; decide) (c := 83) (by rfl) (by decide +kernel) (by decide +kernel) (c' := 65 + i) (by rfl) (iu4 hi4) (by show 1 ≤ _; decide) (by decide +kernel) (by k_caughtN0) _ fun y dy ty ty1 ty2 => ?_)
        ((with_reducible refine t_args ?_ ?zhe); (case zhe => rfl))
        ((with_reducible refine t_Call ?_ ?zhe); (case zhe => rfl))
        ((with_reducible refine' t_bltin ?ze ?zhv ?zhn ?zhg ?zhb ?zhk ?zhx ?zhd ?_); (case zhv => top_strB); (case ze => top_argsB); (case zhn => decide +kernel); (case zhg => rfl); (case zhb => rfl); (case zhk => rfl); (case zhx => kernel_rfl!); (case zhd => decide +kernel))
        with_reducible refine t_callWithP ?_
        ((with_reducible refine t_evalArgs ?_ ?zhe); (case zhe => rfl))
        ((with_reducible refine t_args ?_ ?zhe); (case zhe => rfl))
        with_reducible refine t_Bin ?_
        with_reducible refine t_List ?_
        ((with_reducible refine t_args ?_ ?zhe); (case zhe => rfl))
        ((with_reducible refine t_str ?_); (intro _))
        with_reducible refine t_args0 ?_
        ((with_reducible refine t_newList ?zhz ?_); (case zhz => simp [sizeLine]))
        intro _
        with_reducible refine t_Bin ?_
        with_reducible refine t_List ?_
        ((with_reducible refine t_args ?_ ?zhe); (case zhe => rfl))
        ((with_reducible refine t_str ?_); (intro _))
        with_reducible refine t_args0 ?_
        ((with_reducible refine t_newList ?zhz ?_); (case zhz => simp [sizeLine]))
        intro _
        ((with_reducible refine' t_localM ?zhN ?zhv ?zhx ?zhk ?zhd ?_); (case zhx => kernel_rfl!); (case zhN => top_name); (case zhv => top_name); (case zhk => rfl); (case zhd => decide +kernel))
        ((with_reducible refine' t_mulL ?zha ?zhl ?zhh ?zhz ?zhw ?_); (case zha => top_raise); (case zhl => omega); (case zhh => omega); (case zhz => (simp; omega)); (case zhw => exact mul_one_list _ _); (intro _))
        ((with_reducible refine' t_addL ?zha ?zhb ?zhz ?_); (case zha => top_raise); (case zhb => top_raise); (case zhz => (first | decide | (simp; done) | (simp; omega))); (intro _))
        with_reducible refine t_args0 ?_
        ((with_reducible refine cp0 ?zhc ?_); (case zhc => k_caughtNB))
        ((with_reducible refine' t_tupOfList ?zha ?zhz ?_); (case zha => top_raise); (case zhz => (first | decide | (simp; done) | (simp; omega))); (intro _))
        with_reducible refine t_args0 ?_
        ((with_reducible refine t_newTuple ?zhz ?_); (case zhz => simp [sizeLine]))
        intro _
        with_reducible refine t_args0 ?_
        ((with_reducible refine cp1 ?zhc ?_); (case zhc => k_caughtNB))
        ((with_reducible refine' t_append ?zha ?zu ?zhz ?_); (case zha => top_name); (case zu => k_caught0); (case zhz => (unfold sizeLine; omega)))
        with_reducible refine fl_next ?_
        with_reducible refine t_nil ?_
        with_reducible refine tu_next ?_
        rename_i tpo al1 tte al2 al3 al4 tb_ nt
        refine cl_fix (N2 := (nt, .tup [.ref pl, .ref y, .ref tb_]) :: (tb_, .tup ([.str "#pop" tpo] ++ List.replicate i (.str "term" tte))) :: (y, .inst 83 dy) :: (dy, .fld [("names", .ref ty)]) :: (ty, .tup [.str "Sign" ty1, .str ⟨#[65 + i]⟩ ty2]) :: (pl, .inst 651 dp) :: (dp, .fld [("rows", .ref rw_)]) :: (rw_, .lst [.ref r1]) :: (r1, .lst [.str ⟨#[97 + i]⟩ u]) :: (e, enumO its2 (i + 1) (.str ⟨#[97 + i]⟩ u)) :: (its2, itS "abcd" tab (i + 1)) :: (a, .lst (vs ++ [.ref nt])) :: (cTw, .cell none) :: (cBe, .cell none) :: (cLx, .cell none) :: (cRi, .cell (some (.str x tR))) :: (cTe, .cell (some (.int T tq))) :: (L, .ns [("rules", .ref a)]) :: N) (by k_caught0) (by k_caught0) (by k_caught0) ?_
        refine cl_freezeL (rows := (nt, .tup [.ref pl, .ref y, .ref tb_]) :: (tb_, .tup ([.str "#pop" tpo] ++ List.replicate i (.str "term" tte))) :: (y, .inst 83 dy) :: (dy, .fld [("names", .ref ty)]) :: (ty, .tup [.str "Sign" ty1, .str ⟨#[65 + i]⟩ ty2]) :: (pl, .inst 651 dp) :: (dp, .fld [("rows", .ref rw_)]) :: (rw_, .lst [.ref r1]) :: (r1, .lst [.str ⟨#[97 + i]⟩ u]) :: []) fun F2 hF2 hfz => ?_
        have q1 := hfz (nt, .tup [.ref pl, .ref y, .ref tb_]) (by top_name)
        have q2 := hfz (tb_, .tup ([.str "#pop" tpo] ++ List.replicate i (.str "term" tte))) (by top_name)
        have q3 := hfz (y, .inst 83 dy) (by top_name)
        have q4 := hfz (dy, .fld [("names", .ref ty)]) (by top_name)
        have q5 := hfz (ty, .tup [.str "Sign" ty1, .str ⟨#[65 + i]⟩ ty2]) (by top_name)
        have q6 := hfz (pl, .inst 651 dp) (by top_name)
        have q7 := hfz (dp, .fld [("rows", .ref rw_)]) (by top_name)
        have q8 := hfz (rw_, .lst [.ref r1]) (by top_name)
        have q9 := hfz (r1, .lst [.str ⟨#[97 + i]⟩ u]) (by top_name)
        refine IH (4 - (i + 1)) (by omega) _ ⟨F2, i + 1, _, _, rs ++ [⟨97 + i, y, .go ("#pop" :: List.replicate i "term")⟩], rfl, PH.le_trans hF1 hF2, by omega, by simp; omega, ?_, ?_⟩
        · refine SRules.snoc (hrs.mono hF2) ⟨nt, pl, dp, rw_, r1, u, dy, _, [.ref tb_], rfl, q1, q6, q7, q8, q9, q3, q4, .ref tb_, rfl, .inl ⟨tb_, _, rfl, q2, .cons (Strs.replicate i), by simp; omega, fun z hz => ?_⟩⟩
          rcases List.mem_cons.mp hz with rfl | hz
          · exact .inl rfl
          · rw [List.eq_of_mem_replicate hz]; exact .inr (by decide)
        · intro j r hr
          rcases Nat.lt_or_ge j rs.length with hj | hj
          · rw [List.getElem?_append_left hj] at hr
            obtain ⟨p1, p2, p3⟩ := hrp j r hr
            exact ⟨p1, p2, p3.le hF2⟩
          · rw [List.getElem?_append_right hj] at hr
            obtain ⟨hlt, hv⟩ := List.getElem?_eq_some_iff.mp hr
            obtain rfl : j = i := by simp at hlt; omega
            have hv : (⟨97 + j, y, .go ("#pop" :: List.replicate j "term")⟩ : RuleE) = r := by simpa using hv
            subst hv
            exact ⟨rfl, rfl, dy, ty, _, Kn.fz' q3, Kn.fz' q4, Kn.fz' q5, .cons (.cons .nil)⟩
      · have hi4 : i = 4 := by omega
        subst hi4
        ((with_reducible refine' t_nextEnumSEnd ?zhh ?zr1 ?zr2 ?zhv ?_); (case zhh => (refine Rm.hd (n := 0) ?_; k_caughtN0)); (case zr1 => k_caught0); (case zr2 => k_caught0); (case zhv => rfl))
        with_reducible refine t_nil ?_
        with_reducible refine fl_next ?_
        with_reducible refine t_cons ?_
        ((with_reducible refine t_AssignName ?_ ?zhs); (case zhs => rfl))
        ((with_reducible refine t_Call ?_ ?zhe); (case zhe => rfl))
        ((with_reducible refine' t_glob ?ze ?zhg ?zhk ?zhx ?zhd ?_); (case ze => top_raise0); (case zhg => rfl); (case zhk => rfl); (case zhx => kernel_rfl!); (case zhd => decide +kernel))
        with_reducible refine t_callWithP ?_
        ((with_reducible refine t_evalArgs ?_ ?zhe); (case zhe => rfl))
        ((with_reducible refine t_args ?_ ?zhe); (case zhe => rfl))
        refine t_Dict2 (by decide) (fun dd => ?_) rfl
        with_reducible refine t_List ?_
        with_reducible refine t_args0 ?_
        ((with_reducible refine t_newList ?zhz ?_); (case zhz => simp [sizeLine]))
        intro _
        ((with_reducible refine' t_localM ?zhN ?zhv ?zhx ?zhk ?zhd ?_); (case zhx => kernel_rfl!); (case zhN => top_name); (case zhv => top_name); (case zhk => rfl); (case zhd => decide +kernel))
        rename_i al
        refine ⟨_, by top_name, by k_caught0, ?_⟩
        with_reducible refine t_args0 ?_
        ((with_reducible refine cp0 ?zhc ?_); (case zhc => k_caughtNB))
        refine tr_pick (N' := (al, .lst []) :: (dd, .dic [("root", .ref al), ("term", .ref a)]) :: (a, .lst vs) :: (cTw, .cell none) :: (cBe, .cell none) :: (cLx, .cell none) :: (cRi, .cell (some (.str x tR))) :: (cTe, .cell (some (.int T tq))) :: (L, .ns [("rules", .ref a)]) :: N) (by k_caught0) ?_
        refine tr_freezeL (rows := (al, .lst []) :: (dd, .dic [("root", .ref al), ("term", .ref a)]) :: (a, .lst vs) :: []) fun F2 hF2 hfz => ?_
        have q1 := hfz (al, .lst []) (by top_name)
        have q2 := hfz (dd, .dic [("root", .ref al), ("term", .ref a)]) (by top_name)
        have q3 := hfz (a, .lst vs) (by top_name)
        have hF12 := PH.le_trans hF1 hF2
        have hst : STbl w.params F2 [("root", .ref al), ("term", .ref a)] [("root", []), ("term", rs)] := by
          refine ⟨rfl, fun i k v e => ?_⟩
          match i, e with
          | 0, e =>
            obtain ⟨rfl, rfl⟩ : ("root" : Str) = k ∧ Value.ref al = v := by simpa using e
            exact ⟨al, [], [], 114, rfl, rfl, q1, .nil, by simp, rfl, by decide⟩
          | 1, e =>
            obtain ⟨rfl, rfl⟩ : ("term" : Str) = k ∧ Value.ref a = v := by simpa using e
            exact ⟨a, vs, rs, 116, rfl, rfl, q3, (hrs.mono hF2).keys (fun x hx => isSome_keys (kvs := [(("root" : Str), Value.none), ("term", .none)]) (kvs' := [("root", .ref al), ("term", .ref a)]) rfl x hx), by omega, rfl, by decide⟩
          | i + 2, e => simp at e
        refine t_make (fI := 571) ?zhm ?zhi ?zhf fun lx dx => ?_
        case zhm => top_reprB
        case zhi => top_reprB
        case zhf => top_reprB
        refine sp_RLinit q2 hst (by simp) (by simp) (by k_caughtN0) _ fun F3 pr acc3 o fl tt at_ tnn hF3 hl3 hdn => ?_
        refine And.intro rfl ?_
        refine tr_freezeL (rows := (lx, .inst 672 dx) :: (dx, .fld (lxT o fl tt at_ tnn pr)) :: (pr, .dic acc3) :: []) fun F4 hF4 hfz => ?_
        have p1 := hfz (lx, .inst 672 dx) (by top_name)
        have p2 := hfz (dx, .fld (lxT o fl tt at_ tnn pr)) (by top_name)
        have p3 := hfz (pr, .dic acc3) (by top_name)
        have hTab := (hdn.mono hF4).table hl3 p3
        have hF34 := PH.le_trans hF3 hF4
        have hFF := PH.le_trans hF12 hF34
        have hxl : x.length ≤ 30 := by simpa [Str.length] using hx1
        ((with_reducible refine' t_storeCell ?zhN ?zu ?zhcl ?zhx ?zhk ?_); (case zhx => kernel_rfl!); (case zhcl => rfl); (case zhN => top_name); (case zu => k_caught0); (case zhk => rfl))
        with_reducible refine fl_next ?_
        with_reducible refine t_cons ?_
        ((with_reducible refine t_AssignName ?_ ?zhs); (case zhs => rfl))
        ((with_reducible refine' t_ListComp ?zhclos ?zhkind ?zhnames ?zhc ?_ ?zhs); (case zhclos => rfl); (case zhkind => rfl); (case zhnames => decide +kernel); (case zhc => rfl); (case zhs => exact fun _ => rfl))
        ((with_reducible refine t_Call ?_ ?zhe); (case zhe => rfl))
        ((with_reducible refine' t_bltin ?ze ?zhv ?zhn ?zhg ?zhb ?zhk ?zhx ?zhd ?_); (case zhv => top_strB); (case ze => top_argsB); (case zhn => decide +kernel); (case zhg => rfl); (case zhb => rfl); (case zhk => rfl); (case zhx => kernel_rfl!); (case zhd => decide +kernel))
        with_reducible refine t_callWithP ?_
        ((with_reducible refine t_evalArgs ?_ ?zhe); (case zhe => rfl))
        ((with_reducible refine t_args ?_ ?zhe); (case zhe => rfl))
        ((with_reducible refine t_Call ?_ ?zhe); (case zhe => rfl))
        ((with_reducible refine' t_bltin ?ze ?zhv ?zhn ?zhg ?zhb ?zhk ?zhx ?zhd ?_); (case zhv => top_strB); (case ze => top_argsB); (case zhn => decide +kernel); (case zhg => rfl); (case zhb => rfl); (case zhk => rfl); (case zhx => kernel_rfl!); (case zhd => decide +kernel))
        with_reducible refine t_callWithP ?_
        ((with_reducible refine t_evalArgs ?_ ?zhe); (case zhe => rfl))
        ((with_reducible refine t_args ?_ ?zhe); (case zhe => rfl))
        ((with_reducible refine' t_cell ?zhc ?zhcl ?zhk ?zhx ?zhd ?_); (case zhx => kernel_rfl!); (case zhcl => rfl); (case zhc => top_name); (case zhk => rfl); (case zhd => decide +kernel))
        with_reducible refine t_args0 ?_
        ((with_reducible refine cp0 ?zhc ?_); (case zhc => k_caughtNB))
        ((with_reducible refine t_len ?zhz ?_); (case zhz => omega); (intro _))
        with_reducible refine t_args0 ?_
        ((with_reducible refine cp0 ?zhc ?_); (case zhc => k_caughtNB))
        ((with_reducible refine' t_range1 ?_); (intro _ _ _))
        refine t_iterRange (n := x.length) (b := (x.length : Int)) rfl (by top_raise) (by omega) fun itb => ?_
        with_reducible refine opn ?_
        intro _
        intro _
        ((with_reducible refine' cs_range ?zhi ?_); (case zhi => top_name))
        rename_i tln rr tr1 tr2 ac2 C2
        have hFall := PH.le_trans hF2 hF34
        have hRP : RP rs := ⟨hrl, fun j r hr => ⟨(hrp j r hr).1, (hrp j r hr).2.1⟩⟩
        have hty : ∀ r ∈ rs, TyN (cx w mg mb O) ⟨F4, [], #[]⟩ r.ty 83 ["Sign", ⟨#[r.c - 32]⟩] := fun r hr => by
          obtain ⟨j, hj⟩ := List.getElem?_of_mem hr
          obtain ⟨h1, h2, h3⟩ := hrp j r hj
          rw [show r.c - 32 = 65 + j by omega]
          exact h3.le hFall
        refine cl_get (P := ∀ r ∈ rs, r.ty ≠ 97 ∧ r.ty ≠ 93) (fun s S r hr => ⟨fun e => ?_, fun e => ?_⟩) fun hne => ?_
        · have h1 := TyN.uniq (l := ⟨F4, [], _⟩) (n1 := ["Sign", ⟨#[r.c - 32]⟩]) (At.pick S ?_) (hty r hr) (e ▸ tyN_97)
          · simp at h1
          · exact pick_nil
        · have h1 := TyN.uniq (l := ⟨F4, [], _⟩) (n1 := ["Sign", ⟨#[r.c - 32]⟩]) (At.pick S ?_) (hty r hr) (e ▸ tyN_93)
          · simp at h1
            exact absurd h1.1 (by decide)
          · exact pick_nil
        have hnm : ∀ (l : List Nat) (st : List Str), ∀ e ∈ lex (tb02 rs) 97 93 l 0 st, TyN (cx w mg mb O) ⟨F4, [], #[]⟩ e.2.1 83 (nm02 rs e.2.1) := fun l st e he => by
          rcases lex02_ty hRP l 0 st e he with h | h | ⟨r, hr, h⟩
          · rw [h]; exact tyN_97
          · rw [h]; exact tyN_93
          · have hne' := hne r hr
            rw [h]
            unfold nm02
            rw [if_neg hne'.1, if_neg hne'.2]
            cases hf : rs.find? (fun r' => r'.ty == r.ty) with
            | some r' =>
              have h1 := List.find?_some hf
              have h2 : r'.ty = r.ty := by simpa using h1
              rw [← h2]
              exact hty r' (List.mem_of_find?_eq_some hf)
            | none => exact absurd (List.find?_eq_none.mp hf r hr) (by simp)
        obtain ⟨Tn, rfl⟩ : ∃ Tn : Nat, T = (Tn : Int) := ⟨T.toNat, (Int.toNat_of_nonneg (by omega)).symm⟩
        have hTn : Tn = 1 ∨ Tn = 2 ∨ Tn = 3 := by omega
        refine cl_fix (N2 := (itb, itN 0 x.length) :: (C2, .ns []) :: (ac2, .lst []) :: (cTw, .cell none) :: (cBe, .cell none) :: (cLx, .cell (some (.ref lx))) :: (cRi, .cell (some (.str x tR))) :: (cTe, .cell (some (.int (Tn : Int) tq))) :: (L, .ns [("rules", .ref a)]) :: N) (by k_caught0) (by k_caught0) (by k_caught0) ?_
        refine cl_indG (Inv := fun k l => ∃ (F' : PH) (G' : Array GenState) (i : Nat) (ws : List Value), l = ⟨F', (itb, itN i x.length) :: (C2, .ns []) :: (ac2, .lst ws) :: (cTw, .cell none) :: (cBe, .cell none) :: (cLx, .cell (some (.ref lx))) :: (cRi, .cell (some (.str x tR))) :: (cTe, .cell (some (.int (Tn : Int) tq))) :: (L, .ns [("rules", .ref a)]) :: N, G'⟩ ∧ F4.le F' ∧ AllBare G' ∧ i + k = x.length ∧
          Ints (((List.range i).filter fun p => okR (x.cps.toList.drop p ++ x.cps.toList.take p) Tn).map fun (n : Nat) => (n : Int)) ws) ?_ x.length _ ⟨F4, _, 0, [], rfl, PH.le_refl F4, hG, by omega, .nil⟩
        rintro k l IH ⟨F5, G5, i, ws, rfl, hF5, hG5, hik, hws⟩
        have p1' := p1.mono hF5
        have hwl : ws.length ≤ 30 := by rw [hws.len, List.length_map]; exact Nat.le_trans (List.length_filter_le _ _) (by simp; omega)
        have p2' := p2.mono hF5
        refine cl_comp1if ?_
        rcases Nat.lt_or_ge i x.length with hi7 | hi7
        · ((with_reducible refine' t_nextRange ?zhi ?zhl ?zu ?_); (case zhi => top_name); (case zhl => exact hi7); (case zu => k_caught0); (intro _))
          with_reducible refine t_goName ?_
          with_reducible refine t_assignName ?_
          ((with_reducible refine' t_store ?zhL ?zu ?zhN ?zhl ?zhx ?zhk ?_); (case zhx => kernel_rfl!); (case zhN => top_name); (case zhL => rfl); (case zhl => k_caught0); (case zu => k_caught0); (case zhk => rfl))
          ((with_reducible refine t_isVal ?_ ?zhe); (case zhe => rfl))
          ((with_reducible refine t_Call ?_ ?zhe); (case zhe => rfl))
          ((with_reducible refine' t_glob ?ze ?zhg ?zhk ?zhx ?zhd ?_); (case ze => top_raise0); (case zhg => rfl); (case zhk => rfl); (case zhx => kernel_rfl!); (case zhd => decide +kernel))
          with_reducible refine t_callWithP ?_
          ((with_reducible refine t_evalArgs ?_ ?zhe); (case zhe => rfl))
          ((with_reducible refine t_args ?_ ?zhe); (case zhe => rfl))
          ((with_reducible refine' t_cell ?zhc ?zhcl ?zhk ?zhx ?zhd ?_); (case zhx => kernel_rfl!); (case zhcl => rfl); (case zhc => top_name); (case zhk => rfl); (case zhd => decide +kernel))
          ((with_reducible refine t_args ?_ ?zhe); (case zhe => rfl))
          with_reducible refine t_Bin ?_
          with_reducible refine t_Sub ?_
          ((with_reducible refine' t_cell ?zhc ?zhcl ?zhk ?zhx ?zhd ?_); (case zhx => kernel_rfl!); (case zhcl => rfl); (case zhc => top_name); (case zhk => rfl); (case zhd => decide +kernel))
          with_reducible refine t_Slice ?_
          with_reducible refine t_part ?_
          ((with_reducible refine' t_local ?zhL ?zhN ?zhv ?zhx ?zhk ?zhd ?_); (case zhx => kernel_rfl!); (case zhN => top_name); (case zhL => rfl); (case zhv => top_name); (case zhk => rfl); (case zhd => decide +kernel))
          with_reducible refine t_part0 ?_
          with_reducible refine opnS ?_
          intro _
          ((with_reducible refine' t_subStr ?zhs ?_); (case zhs => rfl))
          refine t_sliceLo i (by top_raise) rfl (by omega) fun u1 => ?_
          with_reducible refine t_Sub ?_
          ((with_reducible refine' t_cell ?zhc ?zhcl ?zhk ?zhx ?zhd ?_); (case zhx => kernel_rfl!); (case zhcl => rfl); (case zhc => top_name); (case zhk => rfl); (case zhd => decide +kernel))
          with_reducible refine t_Slice ?_
          with_reducible refine t_part0 ?_
          with_reducible refine t_part ?_
          ((with_reducible refine' t_local ?zhL ?zhN ?zhv ?zhx ?zhk ?zhd ?_); (case zhx => kernel_rfl!); (case zhN => top_name); (case zhL => rfl); (case zhv => top_name); (case zhk => rfl); (case zhd => decide +kernel))
          with_reducible refine opnS ?_
          intro _
          ((with_reducible refine' t_subStr ?zhs ?_); (case zhs => rfl))
          refine t_sliceHi i (by top_raise) rfl (by omega) fun u2 => ?_
          skip
          have hrot := rot_cps x i
          have hrl2 : (cut x i x.length ++ cut x 0 i).length ≤ 100 := by
            have : (cut x i x.length ++ cut x 0 i).length = (cut x i x.length ++ cut x 0 i).cps.toList.length := by simp [Str.length]
            rw [this, hrot, List.length_append, List.length_drop, List.length_take]; omega
          refine ts_add (by have := cut_len x i x.length; have := cut_len x 0 i; unfold sizeLine; omega) fun u3 => ?_
          ((with_reducible refine t_args ?_ ?zhe); (case zhe => rfl))
          ((with_reducible refine' t_cell ?zhc ?zhcl ?zhk ?zhx ?zhd ?_); (case zhx => kernel_rfl!); (case zhcl => rfl); (case zhc => top_name); (case zhk => rfl); (case zhd => decide +kernel))
          with_reducible refine t_args0 ?_
          ((with_reducible refine cp0 ?zhc ?_); (case zhc => k_caughtNB))
          refine tr_call (sp_reads p1' p2' (by top_name) (by kernel_rfl!) (hTab.mono hF5) (tbok02 hRP) (by omega) hTn (stok02 Tn) (fun e he => (hnm _ _ e he).le hF5) (by k_caughtN0) hG5 _ fun F6 G6 hF6 hG6 => ?_)
          have hrd : readsOk (tb02 rs) (nm02 rs) (cut x i x.length ++ cut x 0 i) Tn = okR (x.cps.toList.drop i ++ x.cps.toList.take i) Tn := by
            unfold readsOk
            rw [hrot]
            exact lex02 hRP hne _ 0 Tn fun c hc => hx2 c ((List.mem_append.mp hc).elim List.mem_of_mem_drop List.mem_of_mem_take)
          rw [hrd]
          with_reducible refine tt_bool ?_
          refine if_b (fun hb => ?_) (fun hb => ?_)
          · ((with_reducible refine' t_local ?zhL ?zhN ?zhv ?zhx ?zhk ?zhd ?_); (case zhx => kernel_rfl!); (case zhN => top_name); (case zhL => rfl); (case zhv => top_name); (case zhk => rfl); (case zhd => decide +kernel))
            ((with_reducible refine' t_append ?zha ?zu ?zhz ?_); (case zha => top_name); (case zu => k_caught0); (case zhz => (unfold sizeLine; omega)))
            refine cl_fix (by k_caught0) (by k_caught0) (by k_caught0) (IH (x.length - (i + 1)) (by omega) _ ⟨F6, G6, i + 1, _, rfl, PH.le_trans hF5 hF6, hG6, by omega, ?_⟩)
            rw [List.range_succ, List.filter_append, List.map_append]
            refine hws.append ?_
            rw [List.filter_cons, if_pos hb]
            exact .cons .nil
          · refine cl_fix (by k_caught0) (by k_caught0) (by k_caught0) (IH (x.length - (i + 1)) (by omega) _ ⟨F6, G6, i + 1, _, rfl, PH.le_trans hF5 hF6, hG6, by omega, ?_⟩)
            rw [List.range_succ, List.filter_append, List.map_append]
            have e : [i].filter (fun p => okR (x.cps.toList.drop p ++ x.cps.toList.take p) Tn) = [] := by rw [List.filter_cons, if_neg (by rw [hb]; exact Bool.false_ne_true)]; rfl
            rw [e]
            simpa using hws
        · ((with_reducible refine' t_nextRangeEnd ?zhh ?zhi ?zhl ?zu ?_); (case zhh => (refine Rm.hd (n := 0) ?_; k_caughtN0)); (case zhi => top_name); (case zhl => exact hi7); (case zu => k_caught0))
          ((with_reducible refine' endC ?zr ?_); (case zr => k_caught0))
          ((with_reducible refine' t_storeCell ?zhN ?zu ?zhcl ?zhx ?zhk ?_); (case zhx => kernel_rfl!); (case zhcl => rfl); (case zhN => top_name); (case zu => k_caught0); (case zhk => rfl))
          with_reducible refine fl_next ?_
          with_reducible refine t_cons ?_
          with_reducible refine t_If ?_
          ((with_reducible refine t_isCmp ?_ ?zhb); (case zhb => rfl))
          ((with_reducible refine t_Call ?_ ?zhe); (case zhe => rfl))
          ((with_reducible refine' t_bltin ?ze ?zhv ?zhn ?zhg ?zhb ?zhk ?zhx ?zhd ?_); (case zhv => top_strB); (case ze => top_argsB); (case zhn => decide +kernel); (case zhg => rfl); (case zhb => rfl); (case zhk => rfl); (case zhx => kernel_rfl!); (case zhd => decide +kernel))
          with_reducible refine t_callWithP ?_
          ((with_reducible refine t_evalArgs ?_ ?zhe); (case zhe => rfl))
          ((with_reducible refine t_args ?_ ?zhe); (case zhe => rfl))
          ((with_reducible refine' t_cell ?zhc ?zhcl ?zhk ?zhx ?zhd ?_); (case zhx => kernel_rfl!); (case zhcl => rfl); (case zhc => top_name); (case zhk => rfl); (case zhd => decide +kernel))
          with_reducible refine t_args0 ?_
          ((with_reducible refine cp0 ?zhc ?_); (case zhc => k_caughtNB))
          have hxl2 : x.length = x.cps.toList.length := by simp [Str.length]
          have hix : i = x.cps.toList.length := by omega
          subst hix
          have hws : Ints ((begs x.cps.toList Tn).map fun (n : Nat) => (n : Int)) ws := hws
          have hcnt : (begs x.cps.toList Tn).length = Tn := c02_count hx2 hx3 (by omega)
          have hwn : ws.length = Tn := by rw [hws.len, List.length_map, hcnt]
          ((with_reducible refine' t_lenL ?zha ?zhz ?_); (case zha => top_raise); (case zhz => omega); (intro _))
          ((with_reducible refine' t_cell ?zhc ?zhcl ?zhk ?zhx ?zhd ?_); (case zhx => kernel_rfl!); (case zhcl => rfl); (case zhc => top_name); (case zhk => rfl); (case zhd => decide +kernel))
          with_reducible refine tc_neI ?_
          with_reducible refine tt_bool ?_
          refine if_F (by rw [hwn]; simp) ?_
          with_reducible refine t_nil ?_
          with_reducible refine fl_next ?_
          with_reducible refine t_cons ?_
          ((with_reducible refine' t_AssignTup ?_ ?zhs ?zhw); (case zhs => rfl); (case zhw => rfl))
          with_reducible refine t_Tuple ?_
          ((with_reducible refine t_args ?_ ?zhe); (case zhe => rfl))
          with_reducible refine t_Bin ?_
          ((with_reducible refine' t_cell ?zhc ?zhcl ?zhk ?zhx ?zhd ?_); (case zhx => kernel_rfl!); (case zhcl => rfl); (case zhc => top_name); (case zhk => rfl); (case zhd => decide +kernel))
          ((with_reducible refine' t_cell ?zhc ?zhcl ?zhk ?zhx ?zhd ?_); (case zhx => kernel_rfl!); (case zhcl => rfl); (case zhc => top_name); (case zhk => rfl); (case zhd => decide +kernel))
          refine ts_add (by unfold sizeLine; omega) fun t2x => ?_
          ((with_reducible refine t_args ?_ ?zhe); (case zhe => rfl))
          with_reducible refine t_Bin ?_
          ((with_reducible refine' t_cell ?zhc ?zhcl ?zhk ?zhx ?zhd ?_); (case zhx => kernel_rfl!); (case zhcl => rfl); (case zhc => top_name); (case zhk => rfl); (case zhd => decide +kernel))
          with_reducible refine t_List ?_
          ((with_reducible refine t_args ?_ ?zhe); (case zhe => rfl))
          with_reducible refine t_Bin ?_
          with_reducible refine t_Sub ?_
          ((with_reducible refine' t_cell ?zhc ?zhcl ?zhk ?zhx ?zhd ?_); (case zhx => kernel_rfl!); (case zhcl => rfl); (case zhc => top_name); (case zhk => rfl); (case zhd => decide +kernel))
          ((with_reducible refine t_int ?_); (intro _))
          ((with_reducible refine' t_subList ?zha ?zhs ?_); (case zha => top_raise); (case zhs => rfl))
          obtain ⟨b0, hb0⟩ : ∃ b0, (begs x.cps.toList Tn)[0]? = some b0 := ⟨_, List.getElem?_eq_getElem (by omega)⟩
          obtain ⟨tb0, htb0⟩ := hws.get (i := 0) (n := (b0 : Int)) (by rw [List.getElem?_map, hb0]; rfl)
          refine t_itemList (by top_raise) (by decide) (by decide) htb0 ?_
          ((with_reducible refine t_Call ?_ ?zhe); (case zhe => rfl))
          ((with_reducible refine' t_bltin ?ze ?zhv ?zhn ?zhg ?zhb ?zhk ?zhx ?zhd ?_); (case zhv => top_strB); (case ze => top_argsB); (case zhn => decide +kernel); (case zhg => rfl); (case zhb => rfl); (case zhk => rfl); (case zhx => kernel_rfl!); (case zhd => decide +kernel))
          with_reducible refine t_callWithP ?_
          ((with_reducible refine t_evalArgs ?_ ?zhe); (case zhe => rfl))
          ((with_reducible refine t_args ?_ ?zhe); (case zhe => rfl))
          ((with_reducible refine' t_cell ?zhc ?zhcl ?zhk ?zhx ?zhd ?_); (case zhx => kernel_rfl!); (case zhcl => rfl); (case zhc => top_name); (case zhk => rfl); (case zhd => decide +kernel))
          with_reducible refine t_args0 ?_
          ((with_reducible refine cp0 ?zhc ?_); (case zhc => k_caughtNB))
          ((with_reducible refine t_len ?zhz ?_); (case zhz => omega); (intro _))
          ((with_reducible refine ti_add ?_); (intro _))
          with_reducible refine t_args0 ?_
          ((with_reducible refine t_newList ?zhz ?_); (case zhz => simp [sizeLine]))
          intro _
          ((with_reducible refine' t_addL ?zha ?zhb ?zhz ?_); (case zha => top_raise); (case zhb => top_raise); (case zhz => (first | decide | (simp; done) | (simp; omega))); (intro _))
          with_reducible refine t_args0 ?_
          ((with_reducible refine t_newTuple ?zhz ?_); (case zhz => simp [sizeLine]))
          intro _
          ((with_reducible refine' t_assignTup ?zhh ?zha ?zhe ?zhn ?_); (case zhh => (refine Rm.hd (n := 0) ?_; k_caughtN0)); (case zha => top_raise); (case zhe => rfl); (case zhn => rfl))
          with_reducible refine trA_cons ?_
          with_reducible refine t_assignName ?_
          ((with_reducible refine' t_storeCell ?zhN ?zu ?zhcl ?zhx ?zhk ?_); (case zhx => kernel_rfl!); (case zhcl => rfl); (case zhN => top_name); (case zu => k_caught0); (case zhk => rfl))
          with_reducible refine trA_cons ?_
          with_reducible refine t_assignName ?_
          ((with_reducible refine' t_storeCell ?zhN ?zu ?zhcl ?zhx ?zhk ?_); (case zhx => kernel_rfl!); (case zhcl => rfl); (case zhN => top_name); (case zu => k_caught0); (case zhk => rfl))
          with_reducible refine trA_nil ?_
          with_reducible refine fl_next ?_
          with_reducible refine t_cons ?_
          with_reducible refine t_Return ?_
          ((with_reducible refine t_Cmp ?_ ?zhb); (case zhb => rfl))
          ((with_reducible refine' t_ListComp ?zhclos ?zhkind ?zhnames ?zhc ?_ ?zhs); (case zhclos => rfl); (case zhkind => rfl); (case zhnames => decide +kernel); (case zhc => rfl); (case zhs => exact fun _ => rfl))
          ((with_reducible refine t_Call ?_ ?zhe); (case zhe => rfl))
          ((with_reducible refine' t_bltin ?ze ?zhv ?zhn ?zhg ?zhb ?zhk ?zhx ?zhd ?_); (case zhv => top_strB); (case ze => top_argsB); (case zhn => decide +kernel); (case zhg => rfl); (case zhb => rfl); (case zhk => rfl); (case zhx => kernel_rfl!); (case zhd => decide +kernel))
          with_reducible refine t_callWithP ?_
          ((with_reducible refine t_evalArgs ?_ ?zhe); (case zhe => rfl))
          ((with_reducible refine t_args ?_ ?zhe); (case zhe => rfl))
          ((with_reducible refine' t_cell ?zhc ?zhcl ?zhk ?zhx ?zhd ?_); (case zhx => kernel_rfl!); (case zhcl => rfl); (case zhc => top_name); (case zhk => rfl); (case zhd => decide +kernel))
          with_reducible refine t_args0 ?_
          ((with_reducible refine cp0 ?zhc ?_); (case zhc => k_caughtNB))
          ((with_reducible refine' t_range1 ?_); (intro _ _ _))
          rename_i tS aS cS aT rS tS1 tS2
          have hws2 : Ints ((begs x.cps.toList Tn ++ [b0 + x.cps.toList.length]).map fun (n : Nat) => (n : Int)) (ws ++ [.int ((b0 : Int) + (x.length : Int)) tS]) := by
            rw [List.map_append]
            refine hws.append ?_
            have e : ((b0 + x.cps.toList.length : Nat) : Int) = (b0 : Int) + (x.length : Int) := by rw [hxl2, Int.natCast_add]
            rw [List.map_cons, e]
            exact .cons .nil
          have hxx : (x ++ x).cps.toList = x.cps.toList ++ x.cps.toList := by
            show (x.cps ++ x.cps).toList = _
            simp
          have hxxl : (x ++ x).length ≤ 60 := by
            have : (x ++ x).length = (x ++ x).cps.toList.length := by simp [Str.length]
            rw [this, hxx, List.length_append]; omega
          refine t_iterRange (n := Tn) (b := (Tn : Int)) rfl (by top_raise) (by omega) fun itc => ?_
          with_reducible refine opn ?_
          intro _
          intro _
          ((with_reducible refine' cs_range ?zhi ?_); (case zhi => top_name))
          rename_i ac3 C3
          refine cl_fix (N2 := (itc, itN 0 Tn) :: (C3, .ns []) :: (ac3, .lst []) :: (cS, .lst (ws ++ [.int ((b0 : Int) + (x.length : Int)) tS])) :: (cTw, .cell (some (.str (x ++ x) t2x))) :: (cBe, .cell (some (.ref cS))) :: (cLx, .cell (some (.ref lx))) :: N) (by k_caught0) (by k_caught0) (by k_caught0) ?_
          refine cl_indG (Inv := fun k l => ∃ (F' : PH) (G' : Array GenState) (i : Nat), l = ⟨F', (itc, itN i Tn) :: (C3, .ns []) :: (ac3, .lst []) :: (cS, .lst (ws ++ [.int ((b0 : Int) + (x.length : Int)) tS])) :: (cTw, .cell (some (.str (x ++ x) t2x))) :: (cBe, .cell (some (.ref cS))) :: (cLx, .cell (some (.ref lx))) :: N, G'⟩ ∧
            F4.le F' ∧ AllBare G' ∧ i + k = Tn) ?_ Tn _ ⟨F5, G5, 0, rfl, hF5, hG5, by omega⟩
          rintro k l IH ⟨F6, G6, i, rfl, hF6, hG6, hik⟩
          have p1' := p1.mono hF6
          have p2' := p2.mono hF6
          refine cl_comp1if ?_
          rcases Nat.lt_or_ge i Tn with hi7 | hi7
          · have hbl : (begs x.cps.toList Tn ++ [b0 + x.cps.toList.length]).length = Tn + 1 := by rw [List.length_append, hcnt]; rfl
            obtain ⟨b, hb⟩ : ∃ b, (begs x.cps.toList Tn ++ [b0 + x.cps.toList.length])[i]? = some b := ⟨_, List.getElem?_eq_getElem (by omega)⟩
            obtain ⟨e, he⟩ : ∃ e, (begs x.cps.toList Tn ++ [b0 + x.cps.toList.length])[i + 1]? = some e := ⟨_, List.getElem?_eq_getElem (by omega)⟩
            obtain ⟨tb, htb⟩ := hws2.get (i := i) (n := (b : Int)) (by rw [List.getElem?_map, hb]; rfl)
            obtain ⟨te, hte⟩ := hws2.get (i := i + 1) (n := (e : Int)) (by rw [List.getElem?_map, he]; rfl)
            have hok := c02_terms hx2 hx3 (by omega) hb0 hb he
            ((with_reducible refine' t_nextRange ?zhi ?zhl ?zu ?_); (case zhi => top_name); (case zhl => exact hi7); (case zu => k_caught0); (intro _))
            with_reducible refine t_goName ?_
            with_reducible refine t_assignName ?_
            ((with_reducible refine' t_store ?zhL ?zu ?zhN ?zhl ?zhx ?zhk ?_); (case zhx => kernel_rfl!); (case zhN => top_name); (case zhL => rfl); (case zhl => k_caught0); (case zu => k_caught0); (case zhk => rfl))
            with_reducible refine t_isNot ?_
            ((with_reducible refine t_isVal ?_ ?zhe); (case zhe => rfl))
            ((with_reducible refine t_Call ?_ ?zhe); (case zhe => rfl))
            ((with_reducible refine' t_glob ?ze ?zhg ?zhk ?zhx ?zhd ?_); (case ze => top_raise0); (case zhg => rfl); (case zhk => rfl); (case zhx => kernel_rfl!); (case zhd => decide +kernel))
            with_reducible refine t_callWithP ?_
            ((with_reducible refine t_evalArgs ?_ ?zhe); (case zhe => rfl))
            ((with_reducible refine t_args ?_ ?zhe); (case zhe => rfl))
            ((with_reducible refine' t_cell ?zhc ?zhcl ?zhk ?zhx ?zhd ?_); (case zhx => kernel_rfl!); (case zhcl => rfl); (case zhc => top_name); (case zhk => rfl); (case zhd => decide +kernel))
            ((with_reducible refine t_args ?_ ?zhe); (case zhe => rfl))
            with_reducible refine t_Sub ?_
            ((with_reducible refine' t_cell ?zhc ?zhcl ?zhk ?zhx ?zhd ?_); (case zhx => kernel_rfl!); (case zhcl => rfl); (case zhc => top_name); (case zhk => rfl); (case zhd => decide +kernel))
            with_reducible refine t_Slice ?_
            with_reducible refine t_part ?_
            with_reducible refine t_Sub ?_
            ((with_reducible refine' t_cell ?zhc ?zhcl ?zhk ?zhx ?zhd ?_); (case zhx => kernel_rfl!); (case zhcl => rfl); (case zhc => top_name); (case zhk => rfl); (case zhd => decide +kernel))
            ((with_reducible refine' t_local ?zhL ?zhN ?zhv ?zhx ?zhk ?zhd ?_); (case zhx => kernel_rfl!); (case zhN => top_name); (case zhL => rfl); (case zhv => top_name); (case zhk => rfl); (case zhd => decide +kernel))
            ((with_reducible refine' t_subList ?zha ?zhs ?_); (case zha => top_raise); (case zhs => rfl))
            refine t_itemList (by top_raise) (by omega) (by omega) (by simpa using htb) ?_
            with_reducible refine t_part ?_
            with_reducible refine t_Sub ?_
            ((with_reducible refine' t_cell ?zhc ?zhcl ?zhk ?zhx ?zhd ?_); (case zhx => kernel_rfl!); (case zhcl => rfl); (case zhc => top_name); (case zhk => rfl); (case zhd => decide +kernel))
            with_reducible refine t_Bin ?_
            ((with_reducible refine' t_local ?zhL ?zhN ?zhv ?zhx ?zhk ?zhd ?_); (case zhx => kernel_rfl!); (case zhN => top_name); (case zhL => rfl); (case zhv => top_name); (case zhk => rfl); (case zhd => decide +kernel))
            ((with_reducible refine t_int ?_); (intro _))
            ((with_reducible refine ti_add ?_); (intro _))
            ((with_reducible refine' t_subList ?zha ?zhs ?_); (case zha => top_raise); (case zhs => rfl))
            refine t_itemList (by top_raise) (by omega) (by omega) (by rw [show ((i : Int) + 1).toNat = i + 1 by omega]; exact hte) ?_
            with_reducible refine opnS ?_
            intro _
            ((with_reducible refine' t_subStr ?zhs ?_); (case zhs => rfl))
            refine t_slice2 b e (by top_raise) rfl rfl (by omega) fun u1 => ?_
            ((with_reducible refine t_args ?_ ?zhe); (case zhe => rfl))
            ((with_reducible refine t_int ?_); (intro _))
            with_reducible refine t_args0 ?_
            ((with_reducible refine cp0 ?zhc ?_); (case zhc => k_caughtNB))
            have hcps : (cut (x ++ x) b e).cps.toList = ((x.cps.toList ++ x.cps.toList).take e).drop b := by
              show (((x ++ x).cps.toList.take e).drop b) = _
              rw [hxx]
            have hcl := cut_len (x ++ x) b e
            refine tr_call (sp_reads (n := 1) p1' p2' (by top_name) (by kernel_rfl!) (hTab.mono hF6) (tbok02 hRP) (by omega) (.inl rfl) (stok02 1) (fun e he => (hnm _ _ e he).le hF6) (by k_caughtN0) hG6 _ fun F7 G7 hF7 hG7 => ?_)
            have hrd : readsOk (tb02 rs) (nm02 rs) (cut (x ++ x) b e) 1 = true := by
              unfold readsOk
              rw [hcps]
              refine (lex02 hRP hne _ 0 1 fun c hc => ?_).trans hok
              have hc := List.mem_of_mem_take (List.mem_of_mem_drop hc)
              exact hx2 c ((List.mem_append.mp hc).elim id id)
            rw [hrd]
            with_reducible refine tt_bool ?_
            ((with_reducible refine if_F ?ze ?_); (case ze => (first | rfl | decide)))
            exact cl_fix (by k_caught0) (by k_caught0) (by k_caught0) (IH (Tn - (i + 1)) (by omega) _ ⟨F7, G7, i + 1, rfl, PH.le_trans hF6 hF7, hG7, by omega⟩)
          · ((with_reducible refine' t_nextRangeEnd ?zhh ?zhi ?zhl ?zu ?_); (case zhh => (refine Rm.hd (n := 0) ?_; k_caughtN0)); (case zhi => top_name); (case zhl => exact hi7); (case zu => k_caught0))
            ((with_reducible refine' endC ?zr ?_); (case zr => k_caught0))
            with_reducible refine t_List ?_
            with_reducible refine t_args0 ?_
            ((with_reducible refine t_newList ?zhz ?_); (case zhz => simp [sizeLine]))
            intro _
            refine t_eqNil (Rm.un0 (n := 0) (by k_caughtN0)) (by top_raise) (by top_raise) ?_
            with_reducible refine fl_ret ?_
            exact ⟨N, by k_caught0, _, rfl, h _ _ (PH.le_trans hFF hF6) hG6⟩
end Mine
open PySem PySem.W PySem.W.X PyProof.Rows PySem.Calls PySem.Builtin.ObjectAttr
set_option maxRecDepth 100000
set_option Elab.async false
set_option autoImplicit false
set_option linter.unusedVariables false
set_option maxHeartbeats 4000000
namespace Mine
theorem Ints.of {vs : List Value} {ns : List Int} (h : IntsAre vs ns) : Ints ns vs := by
  induction h with
  | nil => exact .nil
  | cons n t _ ih => exact .cons ih
theorem rm_callerA : Rm callerA 250 := ⟨rfl, by show 1 + claimMargin + 250 < recursionLimit; decide, by show 4 + 10 * 250 < cLine; decide⟩
theorem law_post (r : OpenLaw) (l : List WData) : r.row.claim.post l (.bool true) l = true := by
  delta OpenLaw.row RowW.claim
  dsimp only
  rw [Bool.and_eq_true]
  refine ⟨?_, ?_⟩
  · simp [WShape.has, WShape.arms]
  · simp only [WTm.holds, WTm.value, Option.bind_some, bind, pure]
    first | rw [PySem.W.same_self] | simp [PySem.W.same_self]
theorem at_head {w : World} {mg mb : Str → Option Value} {s : Shared} {p : Program} {loose : List Str} {mean : ExcName → Option Value} (KX : (HK w.params).In s.heap) (T : Top p loose mean mg mb s.heap) (hg : s.gens = #[]) :
    (cx w mg mb s.os).At ⟨fun a => s.heap.get? a, [], #[]⟩ s where
  top := ⟨fun a o e => KX a o e, let ⟨o, es, ep, h1, h2, h3, h4⟩ := T.g; ⟨o, es, ep, h1, h2, h3, h4⟩, let ⟨o, es, ep, h1, h2, h3, h4⟩ := T.b; ⟨o, es, ep, h1, h2, h3, h4⟩,
    let ⟨mc, ⟨o, es, ep, h1, h2, h3, h4⟩, h5⟩ := T.nolimit; ⟨mc, o, es, ep, h1, h2, h3, h4, h5⟩, T.builtins⟩
  fz := fun a o e => e
  nw := fun p hp => nomatch hp
  nd := List.nodup_nil
  gn := hg
  os := rfl
end Mine
theorem PySem.Challenge.cw_af5023_02_holds : PySem.Challenge.rw_af5023_02.Holds :=
  hd02 (by
  k_fill
  intro w s₀ s₁ mg mb G Y fa o pm cd doc dV kV ho hd hcd hD hmg hg args vals as hpre hlay hrd hwl hlo
  have KX := km_in_of Y
  refine Ground.open G ?_
  intro T B D TE TW
  wrow_args hpre hlay hrd hwl hlo
  rename s₁.heap.IsList _ _ => hL
  rename IntsAre _ _ => hI
  rename ¬ _ => hc
  have S := Mine.at_head KX T hg
  have hfa : some (Value.ref fa) = some (Value.ref 687) := hmg.symm.trans (mg_of S.inK S.globals Mine.g_law)
  obtain rfl : fa = 687 := by injection hfa with h; injection h
  refine Mine.Tr.use (R := fun v l' => v = .bool true ∧ Mine.PH.le (fun a => s₁.heap.get? a) l'.F ∧ AllBare l'.G) (Mine.tr_call (Mine.sp_law (N := []) (G := #[]) (F := fun a => s₁.heap.get? a) ?_ (Mine.Ints.of hI) ?_ (Mine.rm_callerA.le (by decide)) AllBare.empty _ fun F' G' hF hG => ⟨rfl, hF, hG⟩)) S fun v s' l' S' hv => ?_
  · obtain ⟨o, ho, hc, n, hd⟩ := hL
    exact ⟨o, ho, hc, n, hd⟩
  · omega
  · obtain ⟨rfl, hF, hG⟩ := hv
    exact ⟨.inl ⟨.bool true, .bool true, [], rfl, fun _ => rfl, .bool true, Mine.law_post _ _, fun _ => ⟨.nil, fun _ h => nomatch h⟩⟩, .of_keep fun b o e => S'.fz b o (hF b o e), S'.os, by rw [S'.gn]; exact hG⟩)

