import PyProof.Rows.All
import Wide.All
import OpenK.AllK
import Wide.FinOn
import PySem.Challenge.RW_te0070_01
open PySem PySem.W PyProof.Rows
set_option Elab.async false
set_option maxRecDepth 100000
set_option linter.unusedVariables false
namespace Mine
set_option maxHeartbeats 8000000 in
open_top hd for PySem.Challenge.rw_te0070_01
section TMA
/-! The heap: `Z` is what is frozen, `l` is what may still turn (an address and what is known of its object). -/

abbrev Ent := Addr × (Obj → Prop)

structure Hp (Z : Heap) (l : List Ent) (h : Heap) : Prop where
  keep : ∀ b o, Z.get? b = some o → h.get? b = some o
  here : ∀ p ∈ l, ∃ o, h.get? p.1 = some o ∧ p.2 o
  off : ∀ p ∈ l, Z.get? p.1 = none
  nd : (l.map (·.1)).Nodup

def IsFr (m : Str → Option Value) : Obj → Prop := fun o => ∃ es ep, o.data = .dict es ep ∧ StrKeys es ∧ ∀ name, nsFind es name = m name
def IsCe (v : Option Value) : Obj → Prop := fun o => o.data = .cell v
def IsLs (vs : List Value) : Obj → Prop := fun o => ∃ n, o = { cls := .type "list", data := .seq vs.toArray n }
def IsTp (vs : List Value) : Obj → Prop := fun o => ∃ n, o = { cls := .type "tuple", data := .seq vs.toArray n }

/-- `Z'` has all of `Z`. -/
def Sub (Z Z' : Heap) : Prop := ∀ b o, Z.get? b = some o → Z'.get? b = some o
theorem Sub.refl (Z : Heap) : Sub Z Z := fun _ _ e => e
theorem Sub.trans {Z Z' Z'' : Heap} (x : Sub Z Z') (y : Sub Z' Z'') : Sub Z Z'' := fun b o e => y b o (x b o e)

section
variable {Z Z' h h' : Heap} {l l' : List Ent} {a : Addr} {p p' : Obj → Prop} {o o' : Obj} {i : Nat}

theorem Hp.at (H : Hp Z l h) (i : Nat) (e : l[i]? = some (a, p)) : ∃ o, h.get? a = some o ∧ p o := H.here _ (List.mem_of_getElem? e)
theorem Hp.lt (H : Hp Z l h) (hm : (a, p) ∈ l) : a < h.objs.size := let ⟨_, e, _⟩ := H.here _ hm; Heap.lt_size e
theorem Hp.grow (H : Hp Z l h) (k : ∀ b o, h.get? b = some o → h'.get? b = some o) : Hp Z l h' :=
  ⟨fun b o e => k b o (H.keep b o e), fun q hq => let ⟨o, e, hp⟩ := H.here q hq; ⟨o, k _ _ e, hp⟩, H.off, H.nd⟩
theorem Hp.size (H : Hp Z l h) : ∀ q ∈ l, q.1 ≠ h.objs.size := fun q hq e => by
  obtain ⟨o, ho, _⟩ := H.here q hq
  exact absurd (e ▸ Heap.lt_size ho) (Nat.lt_irrefl _)
theorem Hp.none (H : Hp Z l h) (ha : h.objs.size ≤ a) : Z.get? a = none := by
  cases e : Z.get? a with
  | none => rfl
  | some o => exact absurd (Heap.lt_size (H.keep _ _ e)) (Nat.not_lt.mpr ha)
/-- A new address joins the ledger. -/
theorem Hp.add (H : Hp Z l h) (k : ∀ b o, h.get? b = some o → h'.get? b = some o) (ha : h.objs.size ≤ a) (e : h'.get? a = some o) (hp : p o) : Hp Z ((a, p) :: l) h' := by
  refine ⟨fun b o e => k b o (H.keep b o e), fun q hq => ?_, fun q hq => ?_, ?_⟩
  · rcases List.mem_cons.mp hq with rfl | hq
    · exact ⟨o, e, hp⟩
    · exact (H.grow k).here q hq
  · rcases List.mem_cons.mp hq with rfl | hq
    · exact H.none ha
    · exact H.off q hq
  · rw [List.map_cons, List.nodup_cons]
    refine ⟨fun hm => ?_, H.nd⟩
    obtain ⟨q, hq, e'⟩ := List.mem_map.mp hm
    obtain ⟨o', ho', _⟩ := H.here q hq
    exact absurd (show a < h.objs.size from (show q.1 = a from e') ▸ Heap.lt_size ho') (Nat.not_lt.mpr ha)
theorem Hp.push (H : Hp Z l h) (o : Obj) (hp : p o) (hf : o.isFreed = false := by rfl) : Hp Z ((h.objs.size, p) :: l) (h.push o) :=
  H.add (fun _ _ e => Heap.get?_push_of_some _ e) (Nat.le_refl _) (Heap.get?_push_size _ hf) hp
theorem mem_of_map {q : Ent} (hq : q ∈ l) : q.1 ∈ l.map (·.1) := List.mem_map.mpr ⟨q, hq, rfl⟩
/-- One entry turns, all else stays. -/
theorem Hp.turn (H : Hp Z l h) (i : Nat) (e : l[i]? = some (a, p)) (k : ∀ b o, b ≠ a → h.get? b = some o → h'.get? b = some o) (ho : h'.get? a = some o') (hp : p' o') : Hp Z (l.set i (a, p')) h' := by
  obtain ⟨hi, ei⟩ := List.getElem?_eq_some_iff.mp e
  have hmap : (l.set i (a, p')).map (·.1) = l.map (·.1) := by
    rw [List.map_set]
    refine List.ext_getElem? fun j => ?_
    rw [List.getElem?_set]
    split
    · rename_i hj
      subst hj
      split
      · simp [e]
      · rename_i hz; simp at hz; omega
    · rfl
  refine ⟨fun b o eb => k b o (fun q => ?_) (H.keep b o eb), fun q hq => ?_, fun q hq => ?_, hmap ▸ H.nd⟩
  · have := H.off _ (List.mem_of_getElem? e)
    rw [← q, eb] at this; cases this
  · obtain ⟨j, hj⟩ := List.mem_iff_getElem?.mp hq
    rw [List.getElem?_set] at hj
    by_cases hne : i = j
    · rw [if_pos hne, if_pos hi] at hj
      cases hj; exact ⟨o', ho, hp⟩
    · rw [if_neg hne] at hj
      have hm := List.mem_of_getElem? hj
      obtain ⟨o, e1, e2⟩ := H.here q hm
      refine ⟨o, k _ _ (fun q' => hne ?_) e1, e2⟩
      have nd := H.nd
      have h1 : (l.map (·.1))[i]? = some a := by rw [List.getElem?_map, e]; rfl
      have h2 : (l.map (·.1))[j]? = some a := by rw [List.getElem?_map, hj]; exact congrArg some q'
      obtain ⟨hi', e1'⟩ := List.getElem?_eq_some_iff.mp h1
      obtain ⟨hj', e2'⟩ := List.getElem?_eq_some_iff.mp h2
      exact (List.getElem_inj nd).mp (e1'.trans e2'.symm)
  · have : q.1 ∈ l.map (·.1) := hmap ▸ mem_of_map hq
    obtain ⟨q', hq', e'⟩ := List.mem_map.mp this
    rw [← e']; exact H.off q' hq'
theorem Hp.same (H : Hp Z l h) (i : Nat) (e : l[i]? = some (a, p)) (hs : Heap.SameBut a h h') (ho : h'.get? a = some o') (hp : p' o') : Hp Z (l.set i (a, p')) h' :=
  H.turn i e (fun b o hb eb => (hs.2 b hb).trans eb) ho hp
/-- Fewer entries, in any order. -/
theorem Hp.part (H : Hp Z l h) (s : l' ⊆ l) (nd : (l'.map (·.1)).Nodup) : Hp Z l' h :=
  ⟨H.keep, fun q hq => H.here q (s hq), fun q hq => H.off q (s hq), nd⟩
theorem Hp.sublist (H : Hp Z l h) (s : List.Sublist l' l) : Hp Z l' h := H.part s.subset (H.nd.sublist (s.map _))
theorem Hp.perm (H : Hp Z l h) (s : List.Perm l' l) : Hp Z l' h := H.part s.subset ((s.map (·.1)).nodup_iff.mpr H.nd)
theorem Hp.tail {q : Ent} (H : Hp Z (q :: l) h) : Hp Z l h := H.sublist (List.sublist_cons_self _ _)
theorem Hp.drop (H : Hp Z l h) (k : Nat) : Hp Z (l.drop k) h := H.sublist (List.drop_sublist _ _)
theorem Hp.weak {q q' : Obj → Prop} (H : Hp Z ((a, q) :: l) h) (w : ∀ o, q o → q' o) : Hp Z ((a, q') :: l) h := by
  refine ⟨H.keep, fun r hr => ?_, fun r hr => ?_, H.nd⟩
  · rcases List.mem_cons.mp hr with rfl | hr
    · obtain ⟨o, e1, e2⟩ := H.here _ (.head _); exact ⟨o, e1, w _ e2⟩
    · exact H.here r (.tail _ hr)
  · rcases List.mem_cons.mp hr with rfl | hr
    · exact H.off (a, q) (.head _)
    · exact H.off r (.tail _ hr)
/-- What is no longer told is frozen with all the rest. -/
theorem Hp.freeze (H : Hp Z l h) (s : l' ⊆ l) (nd : (l'.map (·.1)).Nodup) :
    ∃ Z', Sub Z Z' ∧ Hp Z' l' h ∧ ∀ b o, h.get? b = some o → b ∉ l'.map (·.1) → Z'.get? b = some o := by
  have key : ∀ b o, h.get? b = some o → b ∉ l'.map (·.1) → (hideAll h (l'.map (·.1))).get? b = some o := fun b o e n => hideAll_get _ e n
  refine ⟨hideAll h (l'.map (·.1)), fun b o e => key b o (H.keep b o e) fun hm => ?_, ⟨fun b o e => of_hideAll _ e, fun q hq => H.here q (s hq), fun q hq => hideAll_none _ (mem_of_map hq), nd⟩, key⟩
  obtain ⟨q, hq, rfl⟩ := List.mem_map.mp hm
  rw [H.off q (s hq)] at e; cases e
theorem Hp.zget (H : Hp Z l h) (e : Z.get? a = some o) : h.get? a = some o := H.keep _ _ e
theorem Hp.ne (H : Hp Z l h) {q : Ent} (hq : q ∈ l) (e : Z.get? a = some o) : a ≠ q.1 := fun c => by
  have := H.off q hq; rw [← c, e] at this; cases this
end


/-- one entry of a ledger turns -/
inductive Turn (a : Addr) (p p' : Obj → Prop) : List Ent → List Ent → Prop
  | head {r : List Ent} : Turn a p p' ((a, p) :: r) ((a, p') :: r)
  | tail {q : Ent} {r r' : List Ent} : Turn a p p' r r' → Turn a p p' (q :: r) (q :: r')
theorem Turn.idx {a : Addr} {p p' : Obj → Prop} : ∀ {l l' : List Ent}, Turn a p p' l l' → ∃ i, l[i]? = some (a, p) ∧ l' = l.set i (a, p')
  | _, _, .head => ⟨0, rfl, rfl⟩
  | _, _, .tail t => let ⟨i, e1, e2⟩ := t.idx; ⟨i + 1, e1, by rw [e2]; rfl⟩
theorem Hp.turns {Z h h' : Heap} {l l' : List Ent} {a : Addr} {p p' : Obj → Prop} {o' : Obj} (H : Hp Z l h) (T : Turn a p p' l l') (k : ∀ b o, b ≠ a → h.get? b = some o → h'.get? b = some o) (ho : h'.get? a = some o') (hp : p' o') : Hp Z l' h' := by
  obtain ⟨i, e1, rfl⟩ := T.idx; exact H.turn i e1 k ho hp
theorem Hp.sames {Z h h' : Heap} {l l' : List Ent} {a : Addr} {p p' : Obj → Prop} {o' : Obj} (H : Hp Z l h) (T : Turn a p p' l l') (hs : Heap.SameBut a h h') (ho : h'.get? a = some o') (hp : p' o') : Hp Z l' h' :=
  H.turns T (fun b o hb eb => (hs.2 b hb).trans eb) ho hp
theorem Turn.mem {a : Addr} {p p' : Obj → Prop} : ∀ {l l' : List Ent}, Turn a p p' l l' → (a, p) ∈ l
  | _, _, .head => .head _
  | _, _, .tail t => .tail _ t.mem

theorem Turn.via {a : Addr} {p p' : Obj → Prop} (q : Obj → Prop) : ∀ {l l' : List Ent}, Turn a p p' l l' → ∃ lq, Turn a p q l lq ∧ Turn a q p' lq l'
  | _, _, .head => ⟨_, .head, .head⟩
  | _, _, .tail t => let ⟨_, x, y⟩ := t.via q; ⟨_, x.tail, y.tail⟩
theorem Hp.see {Z h : Heap} {l l' : List Ent} {a : Addr} {p q : Obj → Prop} (H : Hp Z l h) (T : Turn a p q l l') (f : ∀ o, p o → q o) : Hp Z l' h :=
  let ⟨_, e, hp⟩ := H.here _ T.mem; H.turns T (fun _ _ _ e => e) e (f _ hp)
theorem Turn.id {a : Addr} {p : Obj → Prop} : ∀ {l : List Ent}, (a, p) ∈ l → Turn a p p l l
  | _, .head _ => .head
  | _, .tail _ m => (Turn.id m).tail
theorem Turn.mem' {a : Addr} {p p' : Obj → Prop} : ∀ {l l' : List Ent}, Turn a p p' l l' → (a, p') ∈ l'
  | _, _, .head => .head _
  | _, _, .tail t => .tail _ t.mem'

theorem IsFr.ns {h : Heap} {L : Addr} {m : Str → Option Value} {o : Obj} (e : h.get? L = some o) (f : IsFr m o) : h.Ns L m := let ⟨es, ep, a, b, c⟩ := f; ⟨o, es, ep, e, a, b, c⟩
theorem IsFr.of_ns {h : Heap} {L : Addr} {m : Str → Option Value} (n : h.Ns L m) : ∃ o, h.get? L = some o ∧ IsFr m o := let ⟨o, es, ep, e, a, b, c⟩ := n; ⟨o, e, es, ep, a, b, c⟩
theorem Hp.ns {Z h : Heap} {l : List Ent} {L : Addr} {m : Str → Option Value} (H : Hp Z l h) (e : (L, IsFr m) ∈ l) : h.Ns L m := let ⟨_, e, f⟩ := H.here _ e; f.ns e
theorem Hp.isList {Z h : Heap} {l : List Ent} {L : Addr} {vs : List Value} (H : Hp Z l h) (e : (L, IsLs vs) ∈ l) : h.IsList L vs.toArray := let ⟨o, e, n, x⟩ := H.here _ e; ⟨o, e, by rw [x], n, by rw [x]⟩

/-- a name is stored -/
def upd (m : Str → Option Value) (x : Str) (v : Value) : Str → Option Value := fun y => if y = x then some v else m y

section
variable {M : Model} {A : Around} {E : Value → Shared → Prop} {Z h : Heap} {g : Array GenState} {d : Drawn} {t : Nat} {o : OsState} {l l' : List Ent} {env : Env} {x : Str} {v : Value} {m : Str → Option Value} {L : Addr}

theorem ln_local {Q : Value → Shared → Prop} (hl : env.kindOf x = some .local) (hk : env.scope.kind = .function) (hL : env.locals = L) (H : Hp Z l h) (e : (L, IsFr m) ∈ l) (hv : m x = some v)
    (hq : Q v ⟨h, g, d, t, o⟩) : wpAny M A (loadName env x) Q E ⟨h, g, d, t, o⟩ := wpAny_loadName_local hk hl (hL ▸ H.ns e) hv hq
theorem ln_cell {Q : Value → Shared → Prop} {c : Addr} (hl : env.kindOf x = some .cell) (hk : env.scope.kind = .function) (hc : env.cells.lookup x = some c) (H : Hp Z l h) (e : (c, IsCe (some v)) ∈ l)
    (hq : Q v ⟨h, g, d, t, o⟩) : wpAny M A (loadName env x) Q E ⟨h, g, d, t, o⟩ := wpAny_loadName_cell hk hl hc (H.here _ e) hq
theorem n_local {pos : Pos} {Q : Value → Shared → Prop} (hl : env.kindOf x = some .local) (hk : env.scope.kind = .function) (hL : env.locals = L) (H : Hp Z l h) (e : (L, IsFr m) ∈ l) (hv : m x = some v)
    (hd : (x == ("__debug__" : Str)) = false) (hq : Q v ⟨h, g, d, t, o⟩) : wpAny M A (eval (.Name x pos) env) Q E ⟨h, g, d, t, o⟩ := wpAny_Name (ln_local hl hk hL H e hv hq) hd
theorem n_cell {pos : Pos} {Q : Value → Shared → Prop} {c : Addr} (hl : env.kindOf x = some .cell) (hk : env.scope.kind = .function) (hc : env.cells.lookup x = some c) (H : Hp Z l h) (e : (c, IsCe (some v)) ∈ l)
    (hd : (x == ("__debug__" : Str)) = false) (hq : Q v ⟨h, g, d, t, o⟩) : wpAny M A (eval (.Name x pos) env) Q E ⟨h, g, d, t, o⟩ := wpAny_Name (ln_cell hl hk hc H e hq) hd
theorem s_local {Q : Unit → Shared → Prop} (hl : env.kindOf x = some .local) (hk : env.scope.kind = .function) (hL : env.locals = L) (H : Hp Z l h) (T : Turn L (IsFr m) (IsFr (upd m x v)) l l')
    (hq : ∀ h' t', Hp Z l' h' → Q () ⟨h', g, d, t', o⟩) : wpAny M A (storeName env x v) Q E ⟨h, g, d, t, o⟩ :=
  wpAny_storeName_local hl (hL ▸ H.ns T.mem) (fun h' hn hs => by
    obtain ⟨o', e', f⟩ := IsFr.of_ns hn
    exact hq h' _ (H.sames T (hL ▸ hs) (hL ▸ e') f)) (by rw [hk]; rfl)
theorem s_cell {Q : Unit → Shared → Prop} {c : Addr} {w : Option Value} (hl : env.kindOf x = some .cell) (hk : env.scope.kind = .function) (hc : env.cells.lookup x = some c) (H : Hp Z l h) (T : Turn c (IsCe w) (IsCe (some v)) l l')
    (hq : ∀ h' t', Hp Z l' h' → Q () ⟨h', g, d, t', o⟩) : wpAny M A (storeName env x v) Q E ⟨h, g, d, t, o⟩ :=
  wpAny_storeName_cell hk hl hc (H.here _ T.mem) fun h' hv hs => by
    obtain ⟨o', e', f⟩ := hv
    exact hq h' _ (H.sames T hs e' f)
end
end TMA
section TMB
/-- what stands at the top -/
noncomputable abbrev KK : Params → Frag := hd.heap_39

structure Gd (w : World) (Z : Heap) : Prop where
  K : (KK w.params).In Z
  g : ∃ mg, Z.Ns mainGlobals mg
  b : ∃ mb, Z.Ns builtinsNs mb ∧ ∀ x : Str, x ≠ "__name__" → mb x = bootBuiltins x
  lim : Z.NoLimit
theorem Gd.keeps {w : World} {Z Z' : Heap} (G : Gd w Z) (k : Sub Z Z') : Gd w Z' :=
  ⟨G.K.keeps k, let ⟨mg, a⟩ := G.g; ⟨mg, a.keeps k⟩, let ⟨mb, a, b⟩ := G.b; ⟨mb, a.keeps k, b⟩, G.lim.keeps k⟩
theorem Gd.at {w : World} {Z h : Heap} {l : List Ent} (G : Gd w Z) (H : Hp Z l h) : Gd w h := G.keeps H.keep

/-- room on the stack -/
structure Ok (n : Nat) (A : Around) : Prop where
  h : A.handled = none
  d : A.depth ≤ 301 + n
  u : A.units ≤ 4 + 8 * n
theorem Ok.mono {n m : Nat} {A : Around} (x : Ok n A) (h : n ≤ m) : Ok m A := ⟨x.h, by have := x.d; omega, by have := x.u; omega⟩
theorem Ok.in1 {n : Nat} {A : Around} (x : Ok n A) : Ok (n + 1) A.in1 := ⟨x.h, by have := x.d; show A.depth ≤ _; omega, by have := x.u; show A.units + 1 ≤ _; omega⟩
theorem Ok.deeper {n : Nat} {A : Around} {env : Env} (x : Ok n A) : Ok (n + 1) (A.deeper env) := ⟨x.h, by have := x.d; show A.depth + 1 ≤ _; omega, by have := x.u; show A.units + 3 ≤ _; omega⟩
theorem Ok.room {n : Nat} {A : Around} (x : Ok n A) (h : n ≤ 600 := by decide) : A.depth < recursionLimit := by have := x.d; show A.depth < 1000; omega
theorem Ok.units {n : Nat} {A : Around} (x : Ok n A) (h : n ≤ 1000 := by decide) : A.units + 64 < cLine := by have := x.u; show A.units + 64 < 9900; omega
theorem Ok.caller : Ok 0 callerA := ⟨rfl, by decide, by decide⟩

section
variable {prog : Program} {w : World} {A : Around} {E : Value → Shared → Prop} {Z h : Heap} {g : Array GenState} {d : Drawn} {t : Nat} {o : OsState} {l : List Ent} {env : Env} {x : Str} {v : Value} {m : Str → Option Value}

theorem n_glob {pos : Pos} {Q : Value → Shared → Prop} (G : Gd w Z) (H : Hp Z l h) (e : nsIn (KK w.params) mainGlobals x = some (some v)) (hq : Q v ⟨h, g, d, t, o⟩)
    (hg : env.globals = mainGlobals := by rfl) (hk : env.scope.kind = .function := by rfl) (hx : env.kindOf x = some .globalImplicit := by rfl) (hd : (x == ("__debug__" : Str)) = false := by decide) :
    wpAny (model prog w) A (eval (.Name x pos) env) Q E ⟨h, g, d, t, o⟩ :=
  have ⟨mg, ng⟩ := (G.at H).g
  Calls.Name_function_global hk hx (Calls.loadGlobal_global (env := env) (by rw [hg]; exact ng) (mg_of (G.at H).K ng e) hq) hd
theorem n_boot {pos : Pos} {Q : Value → Shared → Prop} (G : Gd w Z) (H : Hp Z l h) (e : nsIn (KK w.params) mainGlobals x = some none) (hv : bootBuiltins x = some v) (hn : x ≠ "__name__") (hq : Q v ⟨h, g, d, t, o⟩)
    (hg : env.globals = mainGlobals := by rfl) (hb : env.builtins = builtinsNs := by rfl) (hk : env.scope.kind = .function := by rfl) (hx : env.kindOf x = some .globalImplicit := by rfl) (hd : (x == ("__debug__" : Str)) = false := by decide) :
    wpAny (model prog w) A (eval (.Name x pos) env) Q E ⟨h, g, d, t, o⟩ :=
  have ⟨mg, ng⟩ := (G.at H).g
  have ⟨mb, nb, bb⟩ := (G.at H).b
  Calls.Name_function_global hk hx (Calls.loadGlobal_builtin (env := env) (by rw [hg]; exact ng) (mg_none_of (G.at H).K ng e) (by rw [hb]; exact nb) ((bb x hn).trans hv) hq) hd
end

section
variable {prog : Program} {w : World} {A : Around} {R : Result → Shared → Prop} {Z h : Heap} {g : Array GenState} {d : Drawn} {t : Nat} {o : OsState} {l : List Ent}
  {name qual : Str} {params : Arguments} {body : List Stmt} {scope : Scope} {dV kV doc pm cdv ct oc : Value} {an od : Option Addr} {osl : Array (Option Value)} {f : Addr} {args : Args} {binds : List (Str × Value)} {n : Nat}

theorem enter (ok : Ok n A) (G : Gd w Z) (H : Hp Z l h) (ho : (KK w.params).lookup f = some ⟨oc, od, .func (fnOf name qual params body scope dV kV doc pm an cdv ct), osl⟩) (hcd : codeIn (KK w.params) cdv qual = true)
    (hbind : BindsTo ⟨h, g, d, t, o⟩ (fnOf name qual params body scope dV kV doc pm an cdv ct) args binds) (hloc : ∀ y ∈ binds, scope.names.lookup y.1 = some .local)
    (hcell : ∀ x ∈ scope.names, x.2 ≠ .cell)
    (hq : ∀ L h₁ t₁ A', Ok (n + 1) A' → Hp Z ((L, IsFr fun y => binds.reverse.lookup y) :: l) h₁ →
      wpAny (model prog w) A' (execs body (envOf qual scope L f cdv)) (fun fl s' => R (.ok (.ret (match fl with | .ret v => v | _ => .none))) s') (fun _ _ => False) ⟨h₁, g, d, t₁, o⟩)
    (hn : n ≤ 600 := by decide) (hco : scope.isCoroutine = false := by rfl) (hgen : scope.isGenerator = false := by rfl) (hk : scope.kind = .function := by rfl) :
    codeAny (model prog w) A (.call (.ref f) args) R ⟨h, g, d, t, o⟩ := by
  have Gh := G.at H
  refine codeAny_call_def (fd := fnOf name qual params body scope dV kV doc pm an cdv ct) (body := body) (binds := binds) (ok.room hn) (Gh.K _ _ ho) rfl Gh.lim (codeRec_of Gh.K hcd) rfl hbind hcell hloc (fun h₁ hns hk₁ => ?_) hco hgen hk
  obtain ⟨o', e', f'⟩ := IsFr.of_ns hns
  exact wpAny_mono (hq _ h₁ _ _ ok.deeper (H.add hk₁ (Nat.le_refl _) e' f')) (fun _ _ x => x) fun _ _ x => x.elim
end

/-- the cells of a frame -/
def ceEnts (cm : Str → Option Value) (cs : List (Str × Addr)) : List Ent := cs.map fun nc => (nc.2, IsCe (cm nc.1))

theorem InCallC.hp {Z : Heap} {l : List Ent} {s₀ s : Shared} {L : Addr} {m cm : Str → Option Value} {cs : List (Str × Addr)} (x : InCallC s₀ L m cs cm s) (H : Hp Z l s₀.heap) (hL : L = s₀.heap.objs.size)
    (nd : (cs.map (·.1)).Nodup) : Hp Z ((L, IsFr m) :: (ceEnts cm cs ++ l)) s.heap := by
  obtain ⟨o', e', f'⟩ := IsFr.of_ns x.toInCall.ns
  have hk := x.toInCall.keep
  have lts : ∀ q ∈ l, q.1 < s₀.heap.objs.size := fun q hq => by obtain ⟨_, e, _⟩ := H.here q hq; exact Heap.lt_size e
  have ab : ∀ nc ∈ cs, L < nc.2 := fun nc hm => x.above nc.1 nc.2 hm
  have at_ : ∀ nc ∈ cs, ∃ o, s.heap.get? nc.2 = some o ∧ IsCe (cm nc.1) o := fun nc hm => by
    obtain ⟨o, e1, e2⟩ := x.cell nc.1 nc.2 (lookup_of_mem_nodup nd hm)
    exact ⟨o, e1, e2⟩
  have zn : ∀ a, s₀.heap.objs.size ≤ a → Z.get? a = none := fun a ha => H.none ha
  refine ⟨fun b o e => hk b o (H.keep b o e), fun q hq => ?_, fun q hq => ?_, ?_⟩
  · rcases List.mem_cons.mp hq with rfl | hq
    · exact ⟨o', e', f'⟩
    · rcases List.mem_append.mp hq with hq | hq
      · obtain ⟨nc, hm, rfl⟩ := List.mem_map.mp hq
        exact at_ nc hm
      · obtain ⟨o, e1, e2⟩ := H.here q hq
        exact ⟨o, hk _ _ e1, e2⟩
  · rcases List.mem_cons.mp hq with rfl | hq
    · exact zn _ (Nat.le_of_eq hL.symm)
    · rcases List.mem_append.mp hq with hq | hq
      · obtain ⟨nc, hm, rfl⟩ := List.mem_map.mp hq
        exact zn _ (hL ▸ Nat.le_of_lt (ab nc hm))
      · exact H.off q hq
  · have e1 : ((L, IsFr m) :: (ceEnts cm cs ++ l)).map (·.1) = L :: (cs.map (·.2) ++ l.map (·.1)) := by
      simp [ceEnts, List.map_map, Function.comp_def]
    rw [e1, List.nodup_cons]
    refine ⟨fun hm => ?_, List.nodup_append.mpr ⟨?_, H.nd, fun a ha b hb => ?_⟩⟩
    · rcases List.mem_append.mp hm with hm | hm
      · obtain ⟨nc, hm, e⟩ := List.mem_map.mp hm
        exact absurd (e ▸ ab nc hm) (Nat.lt_irrefl _)
      · obtain ⟨q, hm, e⟩ := List.mem_map.mp hm
        exact absurd (hL ▸ e ▸ lts q hm) (Nat.lt_irrefl _)
    · exact List.pairwise_map.mpr x.apart
    · obtain ⟨nc, hm, rfl⟩ := List.mem_map.mp ha
      obtain ⟨q, hm', rfl⟩ := List.mem_map.mp hb
      exact fun e => absurd (Nat.lt_trans (hL ▸ ab nc hm) (e ▸ lts q hm')) (Nat.lt_irrefl _)

section
variable {prog : Program} {w : World} {A : Around} {R : Result → Shared → Prop} {Z h : Heap} {g : Array GenState} {d : Drawn} {t : Nat} {o : OsState} {l : List Ent}
  {name qual : Str} {params : Arguments} {body : List Stmt} {scope : Scope} {dV kV doc pm cdv ct oc : Value} {an od : Option Addr} {osl : Array (Option Value)} {f : Addr} {args : Args} {binds : List (Str × Value)} {n : Nat}

theorem enterC (ok : Ok n A) (G : Gd w Z) (H : Hp Z l h) (ho : (KK w.params).lookup f = some ⟨oc, od, .func (fnOf name qual params body scope dV kV doc pm an cdv ct), osl⟩) (hcd : codeIn (KK w.params) cdv qual = true)
    (hbind : BindsTo ⟨h, g, d, t, o⟩ (fnOf name qual params body scope dV kV doc pm an cdv ct) args binds) (hkind : (binds.all fun y => scope.names.lookup y.1 == some .local || scope.names.lookup y.1 == some .cell) = true)
    (hnd : ((cellsFrom 0 scope.names []).map (·.1)).Nodup)
    (hq : ∀ L h₁ t₁ A', Ok (n + 1) A' → Hp Z ((L, IsFr (bindL (envOfC qual scope L f cdv).kindOf binds fun _ => none)) ::
        (ceEnts (bindC (envOfC qual scope L f cdv).kindOf binds fun _ => none) (cellsFrom (L + 1) scope.names []) ++ l)) h₁ →
      wpAny (model prog w) A' (execs body (envOfC qual scope L f cdv)) (fun fl s' => R (.ok (.ret (match fl with | .ret v => v | _ => .none))) s') (fun _ _ => False) ⟨h₁, g, d, t₁, o⟩)
    (hn : n ≤ 600 := by decide) (hco : scope.isCoroutine = false := by rfl) (hgen : scope.isGenerator = false := by rfl) (hk : scope.kind = .function := by rfl) :
    codeAny (model prog w) A (.call (.ref f) args) R ⟨h, g, d, t, o⟩ := by
  have Gh := G.at H
  refine codeAny_call_function (ok.room hn) (Gh.K _ _ ho) rfl hco hgen rfl (codeRec_of Gh.K hcd) (hbind _ _ _ _ ?_)
  refine wpAny_newFunctionEnv_cells hk (kindsX hkind _) fun env' he s' x => ?_
  subst he
  refine ⟨Gh.lim.keeps x.toInCall.keep, codeAny_func ?_⟩
  obtain ⟨h₁, tk, e, _⟩ := x.done
  subst e
  have nd : ((cellsFrom (h.objs.size + 1) scope.names []).map (·.1)).Nodup := cellsFrom_names scope.names 0 (h.objs.size + 1) [] [] rfl ▸ hnd
  exact wpAny_mono (hq h.objs.size h₁ tk _ ok.deeper (InCallC.hp x H rfl nd)) (fun _ _ x => x) fun _ _ x => x.elim
end
end TMB
section TMD
section
variable {prog : Program} {w : World} {A : Around} {E : Value → Shared → Prop} {Z h : Heap} {g : Array GenState} {d : Drawn} {t : Nat} {o : OsState} {l l' : List Ent} {env : Env} {a : Addr} {vs : List Value} {v : Value}

theorem Hp.isTup (H : Hp Z l h) (e : (a, IsTp vs) ∈ l) : IsTup h a vs.toArray := let ⟨o, e, n, x⟩ := H.here _ e; ⟨o, e, by rw [x], n, by rw [x]⟩
theorem Hp.isL (H : Hp Z l h) (e : (a, IsLs vs) ∈ l) : ∃ n, IsL h a vs.toArray n := by
  obtain ⟨_, e', n, rfl⟩ := H.here _ e
  exact ⟨n, e'⟩
theorem isLs_of {o : Obj} {n : Nat} (e : o = { cls := .type "list", data := .seq vs.toArray n }) : IsLs vs o := ⟨n, e⟩

theorem o_tuple {Q : Value → Shared → Prop} (H : Hp Z l h) (hq : ∀ a h', Hp Z ((a, IsTp vs) :: l) h' → Q (.ref a) ⟨h', g, d, t, o⟩) (hz : vs.length ≤ sizeLine) :
    wpAny (model prog w) A (newTuple vs) Q E ⟨h, g, d, t, o⟩ :=
  wpAny_newObj_type (hq _ _ (H.push _ ⟨0, rfl⟩)) (by show vs.toArray.size ≤ sizeLine; rw [List.size_toArray]; exact hz)
theorem o_list {Q : Value → Shared → Prop} (H : Hp Z l h) (hq : ∀ a h', Hp Z ((a, IsLs vs) :: l) h' → Q (.ref a) ⟨h', g, d, t, o⟩) (hz : vs.length ≤ sizeLine) :
    wpAny (model prog w) A (newList vs) Q E ⟨h, g, d, t, o⟩ :=
  wpAny_newObj_type (hq _ _ (H.push _ ⟨0, rfl⟩)) (by show vs.toArray.size ≤ sizeLine; rw [List.size_toArray]; exact hz)
theorem o_unpack {elts : List Expr} {x1 : Nat} {pos : Pos} {Q : Unit → Shared → Prop} (hh : A.handled = none) (H : Hp Z l h) (e : (a, IsTp vs) ∈ l) (hlen : (assignEach elts env).length = vs.length)
    (hst : List.findIdx? (fun x => x.1) (assignEach elts env) = none) (hq : ∀ h', Hp Z l h' → wpAny (model prog w) A (assignInOrder ((assignEach elts env).map (·.2)) vs) Q E ⟨h', g, d, t, o⟩) :
    wpAny (model prog w) A (assign (.Tuple elts x1 pos) env (.ref a)) Q E ⟨h, g, d, t, o⟩ :=
  wpAny_assign_Tuple hh (H.isTup e) (by rw [hlen, List.size_toArray]) hst fun h' x => hq h' (H.grow fun b o' eb => x b o' (fun c => absurd (c ▸ Heap.lt_size eb) (Nat.lt_irrefl _)) eb)
theorem o_items {n : Nat} {Q : List Value → Shared → Prop} (hh : A.handled = none) (H : Hp Z l h) (e : (a, IsTp vs) ∈ l) (hlen : n = vs.length) (hq : ∀ h', Hp Z l h' → Q vs ⟨h', g, d, t, o⟩) :
    wpAny (model prog w) A (unpackItems (.ref a) n none) Q E ⟨h, g, d, t, o⟩ := by
  have e1 : n = vs.toArray.size := by rw [hlen, List.size_toArray]
  rw [e1]
  exact wpAny_unpackItems_tuple hh (H.isTup e) fun h' x => hq h' (H.grow fun b o' eb => x b o' (fun c => absurd (c ▸ Heap.lt_size eb) (Nat.lt_irrefl _)) eb)

theorem o_append {Q : Value → Shared → Prop} (H : Hp Z l h) (T : Turn a (IsLs vs) (IsLs (vs ++ [v])) l l') (hq : ∀ h', Hp Z l' h' → Q .none ⟨h', g, d, t, o⟩) (hz : vs.length ≤ sizeLine) :
    wpAny (model prog w) A (call (.builtin "list.append") [.ref a, v]) Q E ⟨h, g, d, t, o⟩ := by
  obtain ⟨n, hl⟩ := H.isL T.mem
  refine append_at (hsz := by rw [List.size_toArray]; exact hz) hl fun h' hs ho' => hq h' (H.sames T hs ho' (isLs_of (n := n + 1) (by rw [List.push_toArray])))
theorem o_pop0 {u : Tok} {Q : Value → Shared → Prop} (H : Hp Z l h) (T : Turn a (IsLs (v :: vs)) (IsLs vs) l l') (hq : ∀ h', Hp Z l' h' → Q v ⟨h', g, d, t, o⟩) (hz : vs.length < sizeLine) :
    wpAny (model prog w) A (call (.builtin "list.pop") [.ref a, .int 0 u]) Q E ⟨h, g, d, t, o⟩ := by
  obtain ⟨n, hl⟩ := H.isL T.mem
  refine call_meets F.slot_list_pop ⟨_, hl, rfl⟩ F.entry_list_pop (F.args_list_pop_2 _ _) (MeetsSeq.list_pop_at a _ n 0 u 0 v (by decide) (by simp [seqIndex?]) (by simp) (by rw [List.size_toArray]; exact hz)) ⟨hl, ?_⟩
  have U := hl.update fun xs => xs.eraseIdxIfInBounds 0
  have e1 : (v :: vs).toArray.eraseIdxIfInBounds 0 = vs.toArray := by simp [Array.eraseIdxIfInBounds]
  unfold IsL at U
  simp only [e1] at U
  exact hq _ (H.sames T (Heap.SameBut.update ..) U ⟨_, rfl⟩)
theorem o_truth {Q : Bool → Shared → Prop} (H : Hp Z l h) (e : (a, IsLs vs) ∈ l) (hz : vs.length ≤ sizeLine) (hq : ∀ t', Q (!vs.isEmpty) ⟨h, g, d, t', o⟩) : wpAny (model prog w) A (truthy (.ref a)) Q E ⟨h, g, d, t, o⟩ :=
  wpAny_truthy_list (H.isList e) (by rw [List.size_toArray]; have : sizeLine = 2 ^ 24 := rfl; omega) (by rw [List.isEmpty_toArray]; exact hq _)
theorem o_len {Q : Value → Shared → Prop} (H : Hp Z l h) (e : (a, IsLs vs) ∈ l) (hz : vs.length ≤ sizeLine) (hq : ∀ t' t'', Q (.int vs.length t'') ⟨h, g, d, t', o⟩) : wpAny (model prog w) A (call (.builtin "len") [.ref a]) Q E ⟨h, g, d, t, o⟩ :=
  len_list (H.isList e) (by rw [List.size_toArray]; have : sizeLine = 2 ^ 24 := rfl; omega) (by rw [List.size_toArray]; exact hq _ _)
theorem o_method {name : Str} {id : String} {pl : Sem Bool} {Q : Value × List Value → Shared → Prop} (H : Hp Z l h) (e : (a, IsLs vs) ∈ l) (slot : Slot "list" name id) (hty : typeOf (.builtin id) = pure (.type "method_descriptor"))
    (hq : Q (.builtin id, [.ref a]) ⟨h, g, d, t, o⟩) : wpAny (model prog w) A (getMethod (.ref a) name pl) Q E ⟨h, g, d, t, o⟩ := by
  obtain ⟨n, hl⟩ := H.isL e
  exact getMethod_builtin ⟨_, hl, rfl⟩ PySem.F.plainAttrs_list slot hty (fun b e => by cases e; exact ⟨_, hl, rfl⟩) hq
end
/-! plain values: the tokens are whatever they are -/
section
variable {prog : Program} {w : World} {A : Around} {E : Value → Shared → Prop} {h : Heap} {g : Array GenState} {d : Drawn} {t : Nat} {o : OsState} {env : Env} {x y : Int} {t₁ t₂ : Tok} {a b : Str} {Q : Value → Shared → Prop}
theorem v_int {i : Int} {k : Nat} {pos : Pos} (hq : ∀ u t', Q (.int i u) ⟨h, g, d, t', o⟩) : wpAny (model prog w) A (eval (.Constant (.int i) k pos) env) Q E ⟨h, g, d, t, o⟩ := wpAny_Constant_int (hq _ _)
theorem v_str {k : Nat} {pos : Pos} (hq : ∀ u t', Q (.str a u) ⟨h, g, d, t', o⟩) : wpAny (model prog w) A (eval (.Constant (.str a) k pos) env) Q E ⟨h, g, d, t, o⟩ := Calls.Constant_str (hq _ _)
theorem v_add (hq : ∀ u t', Q (.int (x + y) u) ⟨h, g, d, t', o⟩) : wpAny (model prog w) A (binaryOp .Add (.int x t₁) (.int y t₂)) Q E ⟨h, g, d, t, o⟩ := PyProof.Rows.add_int (hq _ _)
theorem v_iadd (hq : ∀ u t', Q (.int (x + y) u) ⟨h, g, d, t', o⟩) : wpAny (model prog w) A (inplaceOp .Add (.int x t₁) (.int y t₂)) Q E ⟨h, g, d, t, o⟩ := PyProof.Rows.iadd_int (hq _ _)
theorem v_sub (hq : ∀ u t', Q (.int (x - y) u) ⟨h, g, d, t', o⟩) : wpAny (model prog w) A (binaryOp .Sub (.int x t₁) (.int y t₂)) Q E ⟨h, g, d, t, o⟩ := PyProof.Rows.sub_int (hq _ _)
theorem v_mod (hb : y ≠ 0) (hq : ∀ u t', Q (.int (x.fmod y) u) ⟨h, g, d, t', o⟩) : wpAny (model prog w) A (binaryOp .Mod (.int x t₁) (.int y t₂)) Q E ⟨h, g, d, t, o⟩ := mod_int' hb (hq _ _)
theorem v_div (hb : y ≠ 0) (hp : Builtin.divisionGoesByPylong x y = false) (hq : ∀ u t', Q (.int (x.fdiv y) u) ⟨h, g, d, t', o⟩) : wpAny (model prog w) A (binaryOp .FloorDiv (.int x t₁) (.int y t₂)) Q E ⟨h, g, d, t, o⟩ := floordiv_int hb (hq _ _) (.inl hp)
theorem v_addS (hz : a.length + b.length ≤ sizeLine) (hq : ∀ u t', Q (.str (a ++ b) u) ⟨h, g, d, t', o⟩) : wpAny (model prog w) A (binaryOp .Add (.str a t₁) (.str b t₂)) Q E ⟨h, g, d, t, o⟩ := SB.add (fun _ _ => hq _ _) hz
theorem v_iaddS (hz : a.length + b.length ≤ sizeLine) (hq : ∀ u t', Q (.str (a ++ b) u) ⟨h, g, d, t', o⟩) : wpAny (model prog w) A (inplaceOp .Add (.str a t₁) (.str b t₂)) Q E ⟨h, g, d, t, o⟩ := SB.iadd (fun _ _ => hq _ _) hz
theorem v_count (hq : ∀ u t', Q (.int (Txt.count a b) u) ⟨h, g, d, t', o⟩) : wpAny (model prog w) A (call (.builtin "str.count") [.str a t₁, .str b t₂]) Q E ⟨h, g, d, t, o⟩ := SC.count (hq _ _)
theorem v_itemS {value slice : Expr} (hr : fitsSsize x = true) (h1 : -(a.length : Int) ≤ x) (h2 : x < a.length) (hq : ∀ u t', Q (.str (Txt.item a x) u) ⟨h, g, d, t', o⟩)
    (hs : subscripted slice false (.str a t₁) (.int x t₂) = operate [.str a t₁, .int x t₂] (getItem (.str a t₁) (.int x t₂)) := by with_unfolding_all rfl)
    (ht : ∀ r, letTemporaryGo value (.str a t₁) r = pure () := by intro _; with_unfolding_all rfl) :
    wpAny (model prog w) A (subscriptTail value slice (.str a t₁) (.int x t₂)) Q E ⟨h, g, d, t, o⟩ := item_str hr h1 h2 (fun _ => hq _ _) hs ht
end
section
variable {M : Model} {A : Around} {E : Value → Shared → Prop} {s : Shared} {env : Env}
theorem Assign_swap2 {x y : Str} {px py : Pos} {k : Nat} {tpos pos : Pos} {value : Expr} {Q : Flow → Shared → Prop}
    (h : wpAny M A (eval value env) (fun v s₁ => wpAny M A (unpackItems v 2 none) (fun items s₂ => ∃ a b, items = [a, b] ∧
      wpAny M A (storeName env y b) (fun _ s₃ => wpAny M A (storeName env x a) (fun _ => Q .next) E s₃) E s₂) E s₁) E s)
    (hs : swapsWithSole [.Tuple [.Name x px, .Name y py] k tpos] value pos.line env = pure false)
    (hw : swappedStores [.Tuple [.Name x px, .Name y py] k tpos] value env = pure (some [x, y])) :
    wpAny M A (exec (.Assign [.Tuple [.Name x px, .Name y py] k tpos] value pos) env) Q E s := by
  refine Assign_Tuple_swapped (names := [x, y]) (wpAny_mono h (fun v s₁ h₁ => wpAny_mono h₁ (fun items s₂ h₂ => ?_) fun _ _ x => x) fun _ _ x => x) hs hw
  obtain ⟨a, b, rfl, h₂⟩ := h₂
  exact wpAny_assignInOrder_more (wpAny_bindName (wpAny_mono h₂ (fun _ s₃ h₃ => wpAny_assignInOrder_more (wpAny_bindName (wpAny_mono h₃ (fun _ _ h₄ => wpAny_assignInOrder_none h₄) fun _ _ x => x))) fun _ _ x => x))
/-- a target that is a pair of names -/
theorem assign_two {prog : Program} {w : World} {x y : Str} {px py : Pos} {k : Nat} {tpos : Pos} {Z h : Heap} {g : Array GenState} {d : Drawn} {t : Nat} {o : OsState} {l : List Ent} {a : Addr} {v₁ v₂ : Value} {Q : Unit → Shared → Prop}
    (hh : A.handled = none) (H : Hp Z l h) (e : (a, IsTp [v₁, v₂]) ∈ l)
    (hq : ∀ h', Hp Z l h' → wpAny (model prog w) A (storeName env x v₁) (fun _ s₃ => wpAny (model prog w) A (storeName env y v₂) Q E s₃) E ⟨h', g, d, t, o⟩) :
    wpAny (model prog w) A (assign (.Tuple [.Name x px, .Name y py] k tpos) env (.ref a)) Q E ⟨h, g, d, t, o⟩ := by
  refine o_unpack hh H e rfl rfl fun h' H' => ?_
  exact wpAny_assignInOrder_more (wpAny_assign_Name (wpAny_mono (hq h' H') (fun _ _ x => wpAny_assignInOrder_more (wpAny_assign_Name (wpAny_mono x (fun _ _ x => wpAny_assignInOrder_none x) fun _ _ x => x))) fun _ _ x => x))
end
theorem ite_t {P Q : Prop} (h : P) : if true = true then P else Q := h
theorem ite_f {P Q : Prop} (h : Q) : if false = true then P else Q := h
end TMD
section TME
def ItL (a : Addr) (i : Nat) : Obj → Prop := fun o => o.cls = .type "list_iterator" ∧ o.data = .fields #[.ref a, .int i 0]
def ItS (x : Str) (t : Tok) (i : Nat) : Obj → Prop := fun o => o.cls = .type (strIterType x) ∧ o.data = .fields #[.str x t, .int i 0]
def ItR (x left step : Int) : Obj → Prop := fun o => o = { cls := .type "range_iterator", dict := none, data := .fields #[rawInt x, rawInt left, rawInt step], slots := #[] }
def ItE (it : Addr) (i : Int) : Obj → Prop := fun o => ∃ old, o = { cls := .type "enumerate", dict := none, data := .fields #[.none, .bool false, .ref it, rawInt i, .none, old], slots := #[] }
def ItEO (it : Addr) (i : Int) (a : Addr) : Obj → Prop := fun o => ∃ old, o = { cls := .type "enumerate", dict := none, data := .fields #[rawInt a, .bool false, .ref it, rawInt i, .none, old], slots := #[] }
def IsAny : Obj → Prop := fun _ => True

/-- all but one entry is kept, its object is lost -/
theorem Hp.lost {Z h h' : Heap} {l : List Ent} {a : Addr} {p : Obj → Prop} (H : Hp Z ((a, p) :: l) h) (k : ∀ b o, b ≠ a → h.get? b = some o → h'.get? b = some o) : Hp Z l h' := by
  have nd := H.nd
  rw [List.map_cons, List.nodup_cons] at nd
  refine ⟨fun b o e => k b o (fun c => ?_) (H.keep b o e), fun q hq => ?_, fun q hq => H.off q (.tail _ hq), nd.2⟩
  · have := H.off _ (.head _); rw [show (a, p).1 = a from rfl, ← c, e] at this; cases this
  · obtain ⟨o, e, x⟩ := H.here q (.tail _ hq)
    exact ⟨o, k _ _ (fun c => nd.1 (List.mem_map.mpr ⟨q, hq, c⟩)) e, x⟩
theorem Hp.lost2 {Z h h' : Heap} {l : List Ent} {a : Addr} {p : Obj → Prop} {q : Ent} (H : Hp Z (q :: (a, p) :: l) h) (k : ∀ b o, b ≠ a → h.get? b = some o → h'.get? b = some o) : Hp Z (q :: l) h' :=
  Hp.lost (H.perm (List.Perm.swap _ _ _)) k

section
variable {prog : Program} {w : World} {A : Around} {E : Value → Shared → Prop} {s : Shared} {Z h : Heap} {g : Array GenState} {d : Drawn} {t : Nat} {o : OsState} {l l' : List Ent} {a it e : Addr} {vs : List Value} {v : Value} {i : Nat}

theorem nextOf_ascii_item {x : Str} {t : Tok} {i c : Nat} {Q : Value → Shared → Prop} (hit : s.heap.IsStrIter it "str_ascii_iterator" x t i) (hx : x.cps[i]? = some c)
    (hQ : ∀ h', h'.IsStrIter it "str_ascii_iterator" x t (i + 1) → Heap.SameBut it s.heap h' → Q (.str ⟨#[c]⟩ s.toks) { s with heap := h', toks := s.toks + 1 }) :
    wpAny (model prog w) A (Builtin.SmallTypes.nextOf (.ref it)) Q E s := by
  obtain ⟨o, ho, hc, hd⟩ := id hit
  unfold Builtin.SmallTypes.nextOf
  refine wpAny_bind (wpAny_callSpecial?_slot (name := Str.ofString "__next__") hit.typeIs PySem.F.slot_str_ascii_iterator_next
    (wpAny_call_entry PySem.F.slot_str_ascii_iterator_next hit.typeIs PySem.F.entry_str_ascii_iterator_next ?_ (PySem.F.args_str_ascii_iterator_next_1 _)))
  show wpAny _ _ (field (.ref it) 0 >>= _) _ _ s
  refine wpAny_bind (wpAny_field ho hd (x := .str x t) rfl ?_)
  show wpAny _ _ (field (.ref it) 1 >>= _) _ _ s
  refine wpAny_bind (wpAny_field ho hd (x := .int i 0) rfl ?_)
  simp only [Int.toNat_natCast, hx]
  refine wpAny_bind (wpAny_setField ho hd (by simp) (wpAny_bind (wpAny_mkStr (wpAny_pure ⟨_, rfl, wpAny_pure (hQ _ ?_ (Heap.SameBut.update ..))⟩) (by show 1 ≤ sizeLine; decide))))
  exact ⟨_, Heap.get?_update_self _ ho (Obj.isFreed_of_fields (Obj.data_mapFields hd _)), (Obj.cls_mapFields ..).trans hc, by
    rw [Obj.data_mapFields hd]; simp [rawInt]⟩
theorem nextOf_wide_item {x : Str} {t : Tok} {i c : Nat} {Q : Value → Shared → Prop} (hit : s.heap.IsStrIter it "str_iterator" x t i) (hx : x.cps[i]? = some c)
    (hQ : ∀ h', h'.IsStrIter it "str_iterator" x t (i + 1) → Heap.SameBut it s.heap h' → Q (.str ⟨#[c]⟩ s.toks) { s with heap := h', toks := s.toks + 1 }) :
    wpAny (model prog w) A (Builtin.SmallTypes.nextOf (.ref it)) Q E s := by
  obtain ⟨o, ho, hc, hd⟩ := id hit
  unfold Builtin.SmallTypes.nextOf
  refine wpAny_bind (wpAny_callSpecial?_slot (name := Str.ofString "__next__") hit.typeIs PySem.F.slot_str_iterator_next
    (wpAny_call_entry PySem.F.slot_str_iterator_next hit.typeIs PySem.F.entry_str_iterator_next ?_ (PySem.F.args_str_iterator_next_1 _)))
  show wpAny _ _ (field (.ref it) 0 >>= _) _ _ s
  refine wpAny_bind (wpAny_field ho hd (x := .str x t) rfl ?_)
  show wpAny _ _ (field (.ref it) 1 >>= _) _ _ s
  refine wpAny_bind (wpAny_field ho hd (x := .int i 0) rfl ?_)
  simp only [Int.toNat_natCast, hx]
  refine wpAny_bind (wpAny_setField ho hd (by simp) (wpAny_bind (wpAny_mkStr (wpAny_pure ⟨_, rfl, wpAny_pure (hQ _ ?_ (Heap.SameBut.update ..))⟩) (by show 1 ≤ sizeLine; decide))))
  exact ⟨_, Heap.get?_update_self _ ho (Obj.isFreed_of_fields (Obj.data_mapFields hd _)), (Obj.cls_mapFields ..).trans hc, by
    rw [Obj.data_mapFields hd]; simp [rawInt]⟩
theorem nextOf_ascii_end {x : Str} {t : Tok} {i : Nat} {Q : Value → Shared → Prop} (hh : A.handled = none)
    (hit : s.heap.IsStrIter it "str_ascii_iterator" x t i) (hx : x.cps[i]? = none)
    (hE : ∀ h' e, Heap.ExtBut it s.heap h' → (∃ o, h'.get? e = some o ∧ o.cls = .type "StopIteration") → E (.ref e) { s with heap := h' }) :
    wpAny (model prog w) A (Builtin.SmallTypes.nextOf (.ref it)) Q E s := by
  obtain ⟨o, ho, hc, hd⟩ := id hit
  unfold Builtin.SmallTypes.nextOf
  refine wpAny_bind (wpAny_callSpecial?_slot (name := Str.ofString "__next__") hit.typeIs PySem.F.slot_str_ascii_iterator_next
    (wpAny_call_entry PySem.F.slot_str_ascii_iterator_next hit.typeIs PySem.F.entry_str_ascii_iterator_next ?_ (PySem.F.args_str_ascii_iterator_next_1 _)))
  show wpAny _ _ (field (.ref it) 0 >>= _) _ _ s
  refine wpAny_bind (wpAny_field ho hd (x := .str x t) rfl ?_)
  show wpAny _ _ (field (.ref it) 1 >>= _) _ _ s
  refine wpAny_bind (wpAny_field ho hd (x := .int i 0) rfl ?_)
  simp only [Int.toNat_natCast, hx]
  refine wpAny_bind (wpAny_rule (wpAny_bind (wpAny_setField ho hd (by simp) (wpAny_bind (wpAny_letGo ?_)))))
  show wpAny _ _ (newExc (.type "StopIteration") [] >>= _) _ _ _
  refine wpAny_bind ?_
  simp only [newExc, newTuple]
  refine wpAny_bind (wpAny_newObj_type ?_ (by size_fits))
  refine wpAny_bind (m := firstArgMember _ _) (wpAny_of_eq (a := Value.none) (by first | rfl | (simp only [firstArgMember]; rfl)) ?_)
  refine wpAny_newObj_type ?_ (by size_fits)
  simp only [raiseNew]
  refine wpAny_bind (wpAny_handled ?_)
  first | rw [show A.in1.handled = none from hh] | rw [hh]
  refine wpAny_bind (wpAny_pure (wpAny_throw ?_))
  exact hE _ _ (((Heap.SameBut.update ..).extBut.push _).push _) ⟨_, Heap.get?_push_size _ rfl, rfl⟩
theorem nextOf_wide_end {x : Str} {t : Tok} {i : Nat} {Q : Value → Shared → Prop} (hh : A.handled = none)
    (hit : s.heap.IsStrIter it "str_iterator" x t i) (hx : x.cps[i]? = none)
    (hE : ∀ h' e, Heap.ExtBut it s.heap h' → (∃ o, h'.get? e = some o ∧ o.cls = .type "StopIteration") → E (.ref e) { s with heap := h' }) :
    wpAny (model prog w) A (Builtin.SmallTypes.nextOf (.ref it)) Q E s := by
  obtain ⟨o, ho, hc, hd⟩ := id hit
  unfold Builtin.SmallTypes.nextOf
  refine wpAny_bind (wpAny_callSpecial?_slot (name := Str.ofString "__next__") hit.typeIs PySem.F.slot_str_iterator_next
    (wpAny_call_entry PySem.F.slot_str_iterator_next hit.typeIs PySem.F.entry_str_iterator_next ?_ (PySem.F.args_str_iterator_next_1 _)))
  show wpAny _ _ (field (.ref it) 0 >>= _) _ _ s
  refine wpAny_bind (wpAny_field ho hd (x := .str x t) rfl ?_)
  show wpAny _ _ (field (.ref it) 1 >>= _) _ _ s
  refine wpAny_bind (wpAny_field ho hd (x := .int i 0) rfl ?_)
  simp only [Int.toNat_natCast, hx]
  refine wpAny_bind (wpAny_rule (wpAny_bind (wpAny_setField ho hd (by simp) (wpAny_bind (wpAny_letGo ?_)))))
  show wpAny _ _ (newExc (.type "StopIteration") [] >>= _) _ _ _
  refine wpAny_bind ?_
  simp only [newExc, newTuple]
  refine wpAny_bind (wpAny_newObj_type ?_ (by size_fits))
  refine wpAny_bind (m := firstArgMember _ _) (wpAny_of_eq (a := Value.none) (by first | rfl | (simp only [firstArgMember]; rfl)) ?_)
  refine wpAny_newObj_type ?_ (by size_fits)
  simp only [raiseNew]
  refine wpAny_bind (wpAny_handled ?_)
  first | rw [show A.in1.handled = none from hh] | rw [hh]
  refine wpAny_bind (wpAny_pure (wpAny_throw ?_))
  exact hE _ _ (((Heap.SameBut.update ..).extBut.push _).push _) ⟨_, Heap.get?_push_size _ rfl, rfl⟩

/-! steps of iterators, on the ledger -/
theorem n_list_item {Q : Option Value → Shared → Prop} (H : Hp Z ((it, ItL a i) :: l) h) (hl : Z.IsList a vs.toArray) (hx : vs[i]? = some v)
    (hQ : ∀ h', Hp Z ((it, ItL a (i + 1)) :: l) h' → Q (some v) ⟨h', g, d, t, o⟩) : wpAny (model prog w) A (pyNext (.ref it)) Q E ⟨h, g, d, t, o⟩ := by
  obtain ⟨ob, eo, p⟩ := H.here _ (.head _)
  refine wpAny_pyNext_list_item (l := a) (items := vs.toArray) (i := i) ⟨ob, eo, p.1, p.2⟩ (hl.at fun _ e => H.keep _ _ e) (by simpa using hx) fun h' hit hs => ?_
  obtain ⟨o', e', p'⟩ := hit
  exact hQ h' (H.sames .head hs e' p')
theorem n_list_end {Q : Option Value → Shared → Prop} (hh : A.handled = none) (H : Hp Z ((it, ItL a vs.length) :: l) h) (hl : Z.IsList a vs.toArray)
    (hQ : ∀ h', Hp Z l h' → Q none ⟨h', g, d, t, o⟩) : wpAny (model prog w) A (pyNext (.ref it)) Q E ⟨h, g, d, t, o⟩ := by
  obtain ⟨ob, eo, p⟩ := H.here _ (.head _)
  refine wpAny_pyNext_list_end hh (l := a) (items := vs.toArray) (i := vs.length) ⟨ob, eo, p.1, p.2⟩ (hl.at fun _ e => H.keep _ _ e) (by simp) fun h' hs => ?_
  exact hQ h' (H.lost fun b o hb e => hs b o hb e)
theorem n_str_item {x : Str} {k : Tok} {c : Nat} {Q : Option Value → Shared → Prop} (H : Hp Z ((it, ItS x k i) :: l) h) (hx : x.cps[i]? = some c)
    (hQ : ∀ h' t' k', Hp Z ((it, ItS x k (i + 1)) :: l) h' → Q (some (.str ⟨#[c]⟩ k')) ⟨h', g, d, t', o⟩) : wpAny (model prog w) A (pyNext (.ref it)) Q E ⟨h, g, d, t, o⟩ := by
  obtain ⟨ob, eo, p⟩ := H.here _ (.head _)
  cases ha : x.cps.all (· < 128)
  · have hT : strIterType x = "str_iterator" := by rw [strIterType, ha]; rfl
    unfold ItS at p
    rw [hT] at p
    refine wpAny_pyNext_wide_item (x := x) (t := k) (i := i) ⟨ob, eo, p.1, p.2⟩ hx fun h' hit hs => ?_
    obtain ⟨o', e', p'⟩ := hit
    exact hQ h' _ _ (H.sames .head hs e' ⟨by rw [hT]; exact p'.1, p'.2⟩)
  · have hT : strIterType x = "str_ascii_iterator" := by rw [strIterType, ha]; rfl
    unfold ItS at p
    rw [hT] at p
    refine wpAny_pyNext_ascii_item (x := x) (t := k) (i := i) ⟨ob, eo, p.1, p.2⟩ hx fun h' hit hs => ?_
    obtain ⟨o', e', p'⟩ := hit
    exact hQ h' _ _ (H.sames .head hs e' ⟨by rw [hT]; exact p'.1, p'.2⟩)
theorem n_str_end {x : Str} {k : Tok} {Q : Option Value → Shared → Prop} (hh : A.handled = none) (H : Hp Z ((it, ItS x k x.cps.size) :: l) h)
    (hQ : ∀ h', Hp Z l h' → Q none ⟨h', g, d, t, o⟩) : wpAny (model prog w) A (pyNext (.ref it)) Q E ⟨h, g, d, t, o⟩ := by
  obtain ⟨ob, eo, p⟩ := H.here _ (.head _)
  cases ha : x.cps.all (· < 128)
  · have hT : strIterType x = "str_iterator" := by rw [strIterType, ha]; rfl
    unfold ItS at p
    rw [hT] at p
    exact wpAny_pyNext_wide_end hh (x := x) (t := k) ⟨ob, eo, p.1, p.2⟩ (by simp) fun h' hs => hQ h' (H.lost fun b o hb e => hs b o hb e)
  · have hT : strIterType x = "str_ascii_iterator" := by rw [strIterType, ha]; rfl
    unfold ItS at p
    rw [hT] at p
    exact wpAny_pyNext_ascii_end hh (x := x) (t := k) ⟨ob, eo, p.1, p.2⟩ (by simp) fun h' hs => hQ h' (H.lost fun b o hb e => hs b o hb e)
theorem n_range_item {x left step : Int} {Q : Option Value → Shared → Prop} (H : Hp Z ((it, ItR x left step) :: l) h) (hl : 0 < left)
    (hQ : ∀ h' t' k', Hp Z ((it, ItR (x + step) (left - 1) step) :: l) h' → Q (some (.int x k')) ⟨h', g, d, t', o⟩) : wpAny (model prog w) A (pyNext (.ref it)) Q E ⟨h, g, d, t, o⟩ := by
  obtain ⟨ob, eo, p⟩ := H.here _ (.head _)
  refine wpAny_pyNext_range_item (x := x) (left := left) (step := step) (eo.trans (congrArg some p)) hl fun h' hit hs => ?_
  exact hQ h' _ _ (H.sames .head hs hit rfl)
theorem n_range_end {x left step : Int} {Q : Option Value → Shared → Prop} (hh : A.handled = none) (H : Hp Z ((it, ItR x left step) :: l) h) (hl : left ≤ 0)
    (hQ : ∀ h', Hp Z l h' → Q none ⟨h', g, d, t, o⟩) : wpAny (model prog w) A (pyNext (.ref it)) Q E ⟨h, g, d, t, o⟩ := by
  obtain ⟨ob, eo, p⟩ := H.here _ (.head _)
  exact wpAny_pyNext_range_end hh (x := x) (left := left) (step := step) (eo.trans (congrArg some p)) hl fun h' hs => hQ h' (H.lost fun b o hb e => hs b o hb e)

/-! the step of enumerate, over any iterator -/
theorem e_next {i : Int} {p p' : Obj → Prop} {Q : Value → Shared → Prop} (H : Hp Z ((e, ItE it i) :: (it, p) :: l) h) {item : Value → Prop}
    (hin : ∀ (Q' : Value → Shared → Prop), (∀ v h' t', item v → Hp Z ((e, ItE it i) :: (it, p') :: l) h' → Q' v ⟨h', g, d, t', o⟩) → wpAny (model prog w) A (Builtin.SmallTypes.nextOf (.ref it)) Q' E ⟨h, g, d, t, o⟩)
    (hQ : ∀ a v k h' t', item v → Hp Z ((a, IsTp [.int i k, v]) :: (e, ItEO it (i + 1) a) :: (it, p') :: l) h' → Q (.ref a) ⟨h', g, d, t', o⟩) :
    wpAny (model prog w) A (Builtin.«enumerate.__next__» ⟨[.ref e], []⟩) (fun fin s' => ∃ v, fin = .done (.ret v) ∧ Q v s') E ⟨h, g, d, t, o⟩ := by
  obtain ⟨_, he, old, rfl⟩ := H.here _ (.head _)
  show wpAny _ _ (field (.ref e) 2 >>= _) _ _ _
  refine wpAny_bind (wpAny_field he rfl (x := .ref it) rfl ?_)
  refine wpAny_bind (hin _ fun v h₁ t₁ hv H₁ => ?_)
  obtain ⟨_, he₁, old₁, rfl⟩ := H₁.here _ (.head _)
  show wpAny _ _ (field (.ref e) 3 >>= _) _ _ ⟨h₁, g, d, t₁, o⟩
  refine wpAny_bind (wpAny_field he₁ rfl (x := rawInt i) rfl ?_)
  show wpAny _ _ (field (.ref e) 4 >>= _) _ _ ⟨h₁, g, d, t₁, o⟩
  refine wpAny_bind (wpAny_field he₁ rfl (x := .none) rfl ?_)
  show wpAny _ _ (mkInt i >>= _) _ _ ⟨h₁, g, d, t₁, o⟩
  refine wpAny_bind (wpAny_mkInt ?_)
  show wpAny _ _ (setField (.ref e) 3 (rawInt (i + 1)) >>= _) _ _ ⟨h₁, g, d, t₁ + 1, o⟩
  refine wpAny_bind (wpAny_setField_rec he₁ (by simp) fun h₂ he₂ hs₂ => ?_)
  have H₂ : Hp Z ((e, ItE it (i + 1)) :: (it, p') :: l) h₂ := H₁.sames .head hs₂ he₂ ⟨old₁, rfl⟩
  show wpAny _ _ (setField (.ref e) 4 .none >>= _) _ _ ⟨h₂, g, d, t₁ + 1, o⟩
  refine wpAny_bind (wpAny_setField_rec he₂ (by simp) fun h₃ he₃ hs₃ => ?_)
  have H₃ : Hp Z ((e, ItE it (i + 1)) :: (it, p') :: l) h₃ := H₂.sames .head hs₃ he₃ ⟨old₁, rfl⟩
  show wpAny _ _ (newTuple [.int i t₁, v] >>= _) _ _ ⟨h₃, g, d, t₁ + 1, o⟩
  refine wpAny_bind (o_tuple H₃ (fun a h₄ H₄ => ?_) (by show 2 ≤ sizeLine; decide))
  clear he he₁ he₂ he₃ hs₂ hs₃
  obtain ⟨_, he₄, old₄, rfl⟩ := H₄.here _ (.tail _ (.head _))
  show wpAny _ _ (Builtin.SmallTypes.ownedTupleIsFree (.ref e) >>= _) _ _ ⟨h₄, g, d, t₁ + 1, o⟩
  refine wpAny_bind ?_
  unfold Builtin.SmallTypes.ownedTupleIsFree
  refine wpAny_bind (wpAny_field he₄ rfl (x := .none) rfl (wpAny_pure ?_))
  simp only [if_true]
  refine wpAny_bind (wpAny_rule ?_)
  refine wpAny_bind (wpAny_field he₄ rfl (x := old₄) rfl ?_)
  refine wpAny_bind (wpAny_setField_rec he₄ (by simp) fun h₅ he₅ hs₅ => ?_)
  have H₅ : Hp Z ((a, IsTp [.int i t₁, v]) :: (e, ItE it (i + 1)) :: (it, p') :: l) h₅ := H₄.sames (.tail .head) hs₅ he₅ ⟨_, rfl⟩
  show wpAny _ _ (Builtin.SmallTypes.ownedTupleHandOut (.ref e) (.ref a) >>= _) _ _ ⟨h₅, g, d, t₁ + 1, o⟩
  refine wpAny_bind ?_
  unfold Builtin.SmallTypes.ownedTupleHandOut
  refine wpAny_bind (wpAny_setField_rec he₅ (by simp) fun h₆ he₆ hs₆ => ?_)
  have H₆ : Hp Z ((a, IsTp [.int i t₁, v]) :: (e, ItEO it (i + 1) a) :: (it, p') :: l) h₆ := H₅.sames (.tail .head) hs₆ he₆ ⟨_, rfl⟩
  refine wpAny_setField_rec he₆ (by simp) fun h₇ he₇ hs₇ => ?_
  have H₇ : Hp Z ((a, IsTp [.int i t₁, v]) :: (e, ItEO it (i + 1) a) :: (it, p') :: l) h₇ := H₆.sames (.tail .head) hs₇ he₇ ⟨_, rfl⟩
  exact wpAny_bind (wpAny_letGo (wpAny_pure ⟨_, rfl, hQ a v t₁ h₇ _ hv H₇⟩))

theorem e_item {i : Int} {p p' : Obj → Prop} {Q : Option Value → Shared → Prop} (H : Hp Z ((e, ItE it i) :: (it, p) :: l) h) {item : Value → Prop}
    (hin : ∀ (A : Around) (E Q' : Value → Shared → Prop), (∀ v h' t', item v → Hp Z ((e, ItE it i) :: (it, p') :: l) h' → Q' v ⟨h', g, d, t', o⟩) → wpAny (model prog w) A (Builtin.SmallTypes.nextOf (.ref it)) Q' E ⟨h, g, d, t, o⟩)
    (hQ : ∀ a v k h' t', item v → Hp Z ((a, IsTp [.int i k, v]) :: (e, ItEO it (i + 1) a) :: (it, p') :: l) h' → Q (some (.ref a)) ⟨h', g, d, t', o⟩) :
    wpAny (model prog w) A (pyNext (.ref e)) Q E ⟨h, g, d, t, o⟩ := by
  obtain ⟨_, he, old, eq⟩ := H.here _ (.head _)
  have hT : (⟨h, g, d, t, o⟩ : Shared).TypeIs (.ref e) "enumerate" := ⟨_, he, by rw [eq]⟩
  unfold pyNext
  exact wpAny_bind (wpAny_attempt (wpAny_callSpecial?_slot (name := Str.ofString "__next__") hT PySem.F.slot_enumerate_next
    (wpAny_call_entry PySem.F.slot_enumerate_next hT PySem.F.entry_enumerate_next
      (e_next H (hin _ _) fun a v k h' t' hv H' => wpAny_pure (hQ a v k h' t' hv H')) (PySem.F.args_enumerate_next_1 _))))
theorem e_end {i : Int} {p : Obj → Prop} {Q : Option Value → Shared → Prop} (H : Hp Z ((e, ItE it i) :: (it, p) :: l) h)
    (hin : ∀ (A' : Around) (E Q' : Value → Shared → Prop), A'.handled = A.handled → (∀ h' x, Heap.ExtBut it h h' → (∃ o, h'.get? x = some o ∧ o.cls = .type "StopIteration") → E (.ref x) ⟨h', g, d, t, o⟩) → wpAny (model prog w) A' (Builtin.SmallTypes.nextOf (.ref it)) Q' E ⟨h, g, d, t, o⟩)
    (hQ : ∀ h', Hp Z l h' → Q none ⟨h', g, d, t, o⟩) : wpAny (model prog w) A (pyNext (.ref e)) Q E ⟨h, g, d, t, o⟩ := by
  obtain ⟨_, he, old, rfl⟩ := H.here _ (.head _)
  have hT : (⟨h, g, d, t, o⟩ : Shared).TypeIs (.ref e) "enumerate" := ⟨_, he, rfl⟩
  unfold pyNext
  refine wpAny_bind (wpAny_attempt (wpAny_callSpecial?_slot (name := Str.ofString "__next__") hT PySem.F.slot_enumerate_next
    (wpAny_call_entry PySem.F.slot_enumerate_next hT PySem.F.entry_enumerate_next ?_ (PySem.F.args_enumerate_next_1 _))))
  show wpAny _ _ (field (.ref e) 2 >>= _) _ _ _
  refine wpAny_bind (wpAny_field he rfl (x := .ref it) rfl ?_)
  refine wpAny_bind (hin _ _ _ rfl fun h' x he' hx' => ?_)
  obtain ⟨o, ho, hc⟩ := hx'
  refine wpAny_bind (wpAny_isInstance (T := "StopIteration") (b := true) ⟨o, ho, hc⟩ isSubtype_stop ?_)
  exact wpAny_pure (hQ _ (H.lost2 fun b o hb e => he' b o hb e).tail)
theorem e_go {i : Int} {elts : List Expr} {x1} {pos : Pos} {q : Ent} {Q : Unit → Shared → Prop} (H : Hp Z (q :: (e, ItEO it i a) :: l) h) (hQ : ∀ h', Hp Z (q :: (e, ItE it i) :: l) h' → Q () ⟨h', g, d, t, o⟩) :
    wpAny (model prog w) A (letOwnedTupleGo (.Tuple elts x1 pos) (.ref e) (.ref a)) Q E ⟨h, g, d, t, o⟩ := by
  obtain ⟨_, he, old, rfl⟩ := H.here _ (.tail _ (.head _))
  exact wpAny_letOwnedTupleGo_enum he fun h' he' hs => hQ h' (H.sames (.tail .head) hs he' ⟨_, rfl⟩)
end
end TME
section TMG
/-- where a loop stands after a turn -/
def Next (Z₀ : Heap) (J : Nat → Heap → List Ent → Array GenState → Prop) (q : Nat → List Ent) (d : Drawn) (o : OsState) (i : Nat) (s : Shared) : Prop :=
  ∃ Z l h g t, s = ⟨h, g, d, t, o⟩ ∧ Sub Z₀ Z ∧ J i Z l g ∧ Hp Z (q i ++ l) h

section
variable {prog : Program} {w : World} {A : Around} {E : Value → Shared → Prop} {Z h : Heap} {g : Array GenState} {d : Drawn} {t : Nat} {o : OsState} {l l' : List Ent} {a it e : Addr} {vs : List Value} {v : Value} {i : Nat}
  {R : Result → Shared → Prop} {target : Expr} {body : List Stmt} {env : Env}

theorem loop_any {it : Value} (q : Nat → List Ent) (n : Nat) (J : Nat → Heap → List Ent → Array GenState → Prop)
    (H : Hp Z (q 0 ++ l) h) (j0 : J 0 Z l g)
    (turn : ∀ i Z' l h g t, i < n → Sub Z Z' → J i Z' l g → Hp Z' (q i ++ l) h →
      wpAny (model prog w) A (pyNext it) (fun r s₁ => ∃ v, r = some v ∧ wpAny (model prog w) A (letOwnedTupleGo target it v) (fun _ s₁' =>
          wpAny (model prog w) A (assign target env v) (fun _ s₂ => wpAny (model prog w) A (execs body env) (fun f s₃ => match f with
            | .next | .cont => Next Z J q d o (i + 1) s₃
            | .brk => R (.ok .next) s₃
            | .ret v => R (.ok (.ret v)) s₃) (notedBy (model prog w) A env fun e s' => R (.error e) s') s₂) (notedBy (model prog w) A env fun e s' => R (.error e) s') s₁') (notedBy (model prog w) A env fun e s' => R (.error e) s') s₁)
        (notedBy (model prog w) A env fun e s' => R (.error e) s') ⟨h, g, d, t, o⟩)
    (last : ∀ Z' l h g t, Sub Z Z' → J n Z' l g → Hp Z' (q n ++ l) h →
      wpAny (model prog w) A (pyNext it) (fun r s₁ => r = none ∧ R (.ok .next) s₁) (notedBy (model prog w) A env fun e s' => R (.error e) s') ⟨h, g, d, t, o⟩) :
    codeAny (model prog w) A (.forLoop target it body [] env) R ⟨h, g, d, t, o⟩ := by
  refine codeAny_forLoop_any (fun k s => ∃ i, k = n - i ∧ i ≤ n ∧ Next Z J q d o i s) ?_ n ⟨0, rfl, Nat.zero_le _, Z, l, h, g, t, rfl, Sub.refl _, j0, H⟩
  rintro k s ⟨i, rfl, hi, Z', l', h', g', t', rfl, sub, j, H'⟩
  by_cases hlt : i < n
  · refine wpAny_mono (turn i Z' l' h' g' t' hlt sub j H') (fun r s₁ => ?_) fun _ _ x => x
    rintro ⟨v, rfl, x⟩
    refine wpAny_mono x (fun _ s₂ x => wpAny_mono x (fun _ s₃ x => wpAny_mono x (fun f s₄ x => ?_) fun _ _ x => x) fun _ _ x => x) fun _ _ x => x
    cases f with
    | next => exact ⟨n - (i + 1), by omega, i + 1, rfl, hlt, x⟩
    | cont => exact ⟨n - (i + 1), by omega, i + 1, rfl, hlt, x⟩
    | brk => exact x
    | ret v => exact x
  · obtain rfl : i = n := by omega
    refine wpAny_mono (last Z' l' h' g' t' sub j H') (fun r s₁ => ?_) fun _ _ x => x
    rintro ⟨rfl, x⟩
    exact wpAny_execs_nil x
end

section
variable {prog : Program} {w : World} {A : Around} {E : Value → Shared → Prop} {Z h : Heap} {g : Array GenState} {d : Drawn} {t : Nat} {o : OsState} {l l' : List Ent} {a it e : Addr} {vs : List Value} {v : Value} {i : Nat}
  {R : Result → Shared → Prop} {target : Expr} {body : List Stmt} {env : Env}

/-- what a turn owes: the target takes `v`, then the body, then the loop stands one further on -/
@[reducible] def Turns (prog : Program) (w : World) (A : Around) (R : Result → Shared → Prop) (target : Expr) (body : List Stmt) (env : Env) (v : Value) (N : Shared → Prop) (s : Shared) : Prop :=
  wpAny (model prog w) A (assign target env v) (fun _ s₂ => wpAny (model prog w) A (execs body env) (fun f s₃ => match f with
            | .next | .cont => N s₃
            | .brk => R (.ok .next) s₃
            | .ret v => R (.ok (.ret v)) s₃) (notedBy (model prog w) A env fun e s' => R (.error e) s') s₂) (notedBy (model prog w) A env fun e s' => R (.error e) s') s

theorem loop_list {x : Str} {pos : Pos} (J : Nat → Heap → List Ent → Array GenState → Prop) (hh : A.handled = none) (H : Hp Z ((it, ItL a 0) :: l) h) (hl : Z.IsList a vs.toArray) (j0 : J 0 Z l g)
    (turn : ∀ i v Z' l h g t, vs[i]? = some v → Sub Z Z' → J i Z' l g → Hp Z' ((it, ItL a (i + 1)) :: l) h →
      Turns prog w A R (.Name x pos) body env v (Next Z J (fun i => [(it, ItL a i)]) d o (i + 1)) ⟨h, g, d, t, o⟩)
    (last : ∀ Z' l h g t, Sub Z Z' → J vs.length Z' l g → Hp Z' l h → R (.ok .next) ⟨h, g, d, t, o⟩) :
    codeAny (model prog w) A (.forLoop (.Name x pos) (.ref it) body [] env) R ⟨h, g, d, t, o⟩ := by
  refine loop_any (fun i => [(it, ItL a i)]) vs.length J H j0 (fun i Z' l h g t hi sub j H => ?_) fun Z' l h g t sub j H => ?_
  · obtain ⟨v, hv⟩ : ∃ v, vs[i]? = some v := ⟨_, List.getElem?_eq_getElem hi⟩
    refine n_list_item H (hl.at fun _ e => sub _ _ e) hv fun h' H' => ⟨v, rfl, wpAny_pure ?_⟩
    exact turn i v Z' l h' g t hv sub j H'
  · exact n_list_end hh H (hl.at fun _ e => sub _ _ e) fun h' H' => ⟨rfl, last Z' l h' g t sub j H'⟩

theorem loop_str {x y : Str} {k : Tok} {pos : Pos} (J : Nat → Heap → List Ent → Array GenState → Prop) (hh : A.handled = none) (H : Hp Z ((it, ItS y k 0) :: l) h) (j0 : J 0 Z l g)
    (turn : ∀ i c k' Z' l h g t, y.cps[i]? = some c → Sub Z Z' → J i Z' l g → Hp Z' ((it, ItS y k (i + 1)) :: l) h →
      Turns prog w A R (.Name x pos) body env (.str ⟨#[c]⟩ k') (Next Z J (fun i => [(it, ItS y k i)]) d o (i + 1)) ⟨h, g, d, t, o⟩)
    (last : ∀ Z' l h g t, Sub Z Z' → J y.cps.size Z' l g → Hp Z' l h → R (.ok .next) ⟨h, g, d, t, o⟩) :
    codeAny (model prog w) A (.forLoop (.Name x pos) (.ref it) body [] env) R ⟨h, g, d, t, o⟩ := by
  refine loop_any (fun i => [(it, ItS y k i)]) y.cps.size J H j0 (fun i Z' l h g t hi sub j H => ?_) fun Z' l h g t sub j H => ?_
  · obtain ⟨c, hc⟩ : ∃ c, y.cps[i]? = some c := ⟨_, Array.getElem?_eq_getElem hi⟩
    refine n_str_item H hc fun h' t' k' H' => ⟨_, rfl, wpAny_pure ?_⟩
    exact turn i c k' Z' l h' g t' hc sub j H'
  · exact n_str_end hh H fun h' H' => ⟨rfl, last Z' l h' g t sub j H'⟩

theorem loop_range {x : Str} {n : Nat} {pos : Pos} (J : Nat → Heap → List Ent → Array GenState → Prop) (hh : A.handled = none) (H : Hp Z ((it, ItR 0 n 1) :: l) h) (j0 : J 0 Z l g)
    (turn : ∀ i k' Z' l h g t, i < n → Sub Z Z' → J i Z' l g → Hp Z' ((it, ItR ((i + 1 : Nat) : Int) (n - (i + 1 : Nat)) 1) :: l) h →
      Turns prog w A R (.Name x pos) body env (.int i k') (Next Z J (fun i => [(it, ItR (i : Int) (n - i) 1)]) d o (i + 1)) ⟨h, g, d, t, o⟩)
    (last : ∀ Z' l h g t, Sub Z Z' → J n Z' l g → Hp Z' l h → R (.ok .next) ⟨h, g, d, t, o⟩) :
    codeAny (model prog w) A (.forLoop (.Name x pos) (.ref it) body [] env) R ⟨h, g, d, t, o⟩ := by
  refine loop_any (fun i => [(it, ItR (i : Int) (n - i) 1)]) n J (by simpa using H) j0 (fun i Z' l h g t hi sub j H => ?_) fun Z' l h g t sub j H => ?_
  · refine n_range_item H (by omega) fun h' t' k' H' => ⟨_, rfl, wpAny_pure ?_⟩
    refine turn i k' Z' l h' g t' hi sub j ?_
    have e1 : ((i + 1 : Nat) : Int) = (i : Int) + 1 := by push_cast; rfl
    have e2 : (n : Int) - ((i : Int) + 1) = (n : Int) - i - 1 := by omega
    rw [e1, e2]
    exact H'
  · exact n_range_end hh H (by omega) fun h' H' => ⟨rfl, last Z' l h' g t sub j H'⟩

theorem loop_enum {elts : List Expr} {k : Nat} {pos : Pos} {b : Int} (J : Nat → Heap → List Ent → Array GenState → Prop) (hh : A.handled = none) (H : Hp Z ((e, ItE it b) :: (it, ItL a 0) :: l) h) (hl : Z.IsList a vs.toArray) (j0 : J 0 Z l g)
    (turn : ∀ i v c k' Z' l h g t, vs[i]? = some v → Sub Z Z' → J i Z' l g → Hp Z' ((c, IsTp [.int (b + i) k', v]) :: (e, ItE it (b + (i + 1 : Nat))) :: (it, ItL a (i + 1)) :: l) h →
      Turns prog w A R (.Tuple elts k pos) body env (.ref c) (Next Z J (fun i => [(e, ItE it (b + i)), (it, ItL a i)]) d o (i + 1)) ⟨h, g, d, t, o⟩)
    (last : ∀ Z' l h g t, Sub Z Z' → J vs.length Z' l g → Hp Z' l h → R (.ok .next) ⟨h, g, d, t, o⟩) :
    codeAny (model prog w) A (.forLoop (.Tuple elts k pos) (.ref e) body [] env) R ⟨h, g, d, t, o⟩ := by
  refine loop_any (fun i => [(e, ItE it (b + i)), (it, ItL a i)]) vs.length J (by simpa using H) j0 (fun i Z' l h g t hi sub j H => ?_) fun Z' l h g t sub j H => ?_
  · obtain ⟨v, hv⟩ : ∃ v, vs[i]? = some v := ⟨_, List.getElem?_eq_getElem hi⟩
    refine e_item (p' := ItL a (i + 1)) (item := fun x => x = v) H (fun A E Q' hQ' => ?_) fun c v' k' h' t' hv' H' => ⟨_, rfl, ?_⟩
    · obtain ⟨ob, eo, p⟩ := H.here _ (.tail _ (.head _))
      refine wpAny_nextOf_list_item (l := a) (items := vs.toArray) (i := i) ⟨ob, eo, p.1, p.2⟩ (hl.at fun _ e => H.keep _ _ (sub _ _ e)) (by simpa using hv) fun h' hit hs => ?_
      obtain ⟨o', e', p'⟩ := hit
      exact hQ' v h' _ rfl (H.sames (.tail .head) hs e' p')
    · subst hv'
      refine e_go H' fun h'' H'' => ?_
      refine turn i _ c k' Z' l h'' g t' hv sub j ?_
      have e1 : b + ((i + 1 : Nat) : Int) = b + (i : Int) + 1 := by push_cast; omega
      rw [e1]
      exact H''
  · refine e_end H (fun A' E Q' hA hE => ?_) fun h' H' => ⟨rfl, last Z' l h' g t sub j H'⟩
    obtain ⟨ob, eo, p⟩ := H.here _ (.tail _ (.head _))
    exact wpAny_nextOf_list_end (hA.trans hh) (l := a) (items := vs.toArray) (i := vs.length) ⟨ob, eo, p.1, p.2⟩ (hl.at fun _ e => H.keep _ _ (sub _ _ e)) (by simp) hE

/-! iter(..) -/
theorem i_list {Q : Value → Shared → Prop} (H : Hp Z l h) (hl : h.IsList a vs.toArray) (hq : ∀ it h', Hp Z ((it, ItL a 0) :: l) h' → Q (.ref it) ⟨h', g, d, t, o⟩) :
    wpAny (model prog w) A (pyIter (.ref a)) Q E ⟨h, g, d, t, o⟩ := wpAny_pyIter_list hl (hq _ _ (H.push _ ⟨rfl, rfl⟩))
theorem i_str {y : Str} {k : Tok} {Q : Value → Shared → Prop} (H : Hp Z l h) (hq : ∀ it h', Hp Z ((it, ItS y k 0) :: l) h' → Q (.ref it) ⟨h', g, d, t, o⟩) :
    wpAny (model prog w) A (pyIter (.str y k)) Q E ⟨h, g, d, t, o⟩ := wpAny_pyIter_strU (hq _ _ (H.push _ ⟨rfl, rfl⟩))
theorem i_enum {i : Int} {Q : Value → Shared → Prop} (H : Hp Z l h) (hm : (e, ItE it i) ∈ l) (hq : Q (.ref e) ⟨h, g, d, t, o⟩) :
    wpAny (model prog w) A (pyIter (.ref e)) Q E ⟨h, g, d, t, o⟩ := by
  obtain ⟨_, he, old, rfl⟩ := H.here _ hm
  exact wpAny_pyIter_enum he hq
end
section
variable {prog : Program} {w : World} {A : Around} {E : Value → Shared → Prop} {Z h : Heap} {g : Array GenState} {d : Drawn} {t : Nat} {o : OsState} {l l' : List Ent}

def IsRg (n : Int) : Obj → Prop := fun ob => ∃ u v x, ob = { cls := .type "range", dict := none, data := .fields #[.int 0 u, .int n v, .int 1 x], slots := #[] }
theorem o_range {n : Int} {u : Tok} {Q : Value → Shared → Prop} (H : Hp Z l h) (hq : ∀ a h' t', Hp Z ((a, IsRg n) :: l) h' → Q (.ref a) ⟨h', g, d, t', o⟩) :
    wpAny (model prog w) A (call (.type "range") [.int n u]) Q E ⟨h, g, d, t, o⟩ := call_range_1 (hq _ _ _ (H.push _ ⟨_, _, _, rfl⟩))
theorem i_range {n : Nat} {a : Addr} {Q : Value → Shared → Prop} (H : Hp Z l h) (hm : (a, IsRg n) ∈ l) (hn : n ≤ 1000000) (hq : ∀ it h', Hp Z ((it, ItR 0 n 1) :: l) h' → Q (.ref it) ⟨h', g, d, t, o⟩) :
    wpAny (model prog w) A (pyIter (.ref a)) Q E ⟨h, g, d, t, o⟩ := by
  obtain ⟨_, he, u, v, x, rfl⟩ := H.here _ hm
  refine wpAny_pyIter_range he (small_one (by decide) (by decide) (by omega) (by omega)) ?_
  rw [rangeSize_nat]
  exact hq _ _ (H.push _ (by show _ = _; rw [show ((((n : Int) - 0).toNat : Nat) : Int) = (n : Int) by omega]))
theorem cut_val {α : Type} {M : Model} {m : Sem α} {Q : α → Shared → Prop} (P : α → Prop) (h1 : wpAny M A m (fun v s' => ∃ t', s' = ⟨h, g, d, t', o⟩ ∧ P v) E ⟨h, g, d, t, o⟩) (h2 : ∀ v t', P v → Q v ⟨h, g, d, t', o⟩) :
    wpAny M A m Q E ⟨h, g, d, t, o⟩ := wpAny_mono h1 (fun v s' ⟨t', e, p⟩ => e ▸ h2 v t' p) fun _ _ x => x
theorem Next.mk {Z₀ : Heap} {J : Nat → Heap → List Ent → Array GenState → Prop} {q : Nat → List Ent} {i : Nat} (H : Hp Z (q i ++ l) h) (sub : Sub Z₀ Z) (j : J i Z l g) : Next Z₀ J q d o i ⟨h, g, d, t, o⟩ :=
  ⟨Z, l, h, g, t, rfl, sub, j, H⟩
theorem fmod_nat (a : Int) (b : Nat) (hb : 0 < b) : ∃ N : Nat, a.fmod b = N ∧ N < b := by
  have h1 := Int.fmod_nonneg_of_pos a (show (0 : Int) < b by omega)
  have h2 := Int.fmod_lt_of_pos a (show (0 : Int) < b by omega)
  exact ⟨(a.fmod b).toNat, by omega, by omega⟩
end
end TMG
section TML
section
variable {prog : Program} {w : World} {A : Around} {E : Value → Shared → Prop} {Z h : Heap} {g : Array GenState} {d : Drawn} {t : Nat} {o : OsState} {l l' : List Ent} {a it e : Addr} {vs : List Value} {v : Value} {i : Nat}
  {R : Result → Shared → Prop} {target elt iter : Expr} {ifs : List Expr} {scope : Scope} {pos : Pos} {env : Env} {acc : Value}

/-- what a turn of a list comprehension owes -/
@[reducible] def CTurns (prog : Program) (w : World) (A : Around) (R : Result → Shared → Prop) (target elt : Expr) (ifs : List Expr) (env : Env) (acc v : Value) (N : Shared → Prop) (s : Shared) : Prop :=
  wpAny (model prog w) A (assign target env v) (fun _ s₂ =>
    wpAny (model prog w) A (forIn ifs true fun c r => if r = true then do let ok ← isTrue c env (eval c env); pure (ForInStep.yield ok) else pure (ForInStep.yield r)) (fun ok s₃ =>
      if ok = true then wpAny (model prog w) A (eval elt env) (fun x s₄ =>
        wpAny (model prog w) A (call (.builtin "list.append") [acc, x]) (fun _ s₅ => N s₅) (notedBy (model prog w) A env fun e s' => R (.error e) s') s₄) (notedBy (model prog w) A env fun e s' => R (.error e) s') s₃
      else N s₃) (notedBy (model prog w) A env fun e s' => R (.error e) s') s₂) (notedBy (model prog w) A env fun e s' => R (.error e) s') s

theorem comp_any {it : Value} (q : Nat → List Ent) (n : Nat) (J : Nat → Heap → List Ent → Array GenState → Prop)
    (H : Hp Z (q 0 ++ l) h) (j0 : J 0 Z l g)
    (turn : ∀ i Z' l h g t, i < n → Sub Z Z' → J i Z' l g → Hp Z' (q i ++ l) h →
      wpAny (model prog w) A (pyNext it) (fun r s₁ => ∃ v, r = some v ∧ wpAny (model prog w) A (letOwnedTupleGo target it v) (fun _ s₂ => CTurns prog w A R target elt ifs env acc v (Next Z J q d o (i + 1)) s₂)
        (notedBy (model prog w) A env fun e s' => R (.error e) s') s₁) (notedBy (model prog w) A env fun e s' => R (.error e) s') ⟨h, g, d, t, o⟩)
    (last : ∀ Z' l h g t, Sub Z Z' → J n Z' l g → Hp Z' (q n ++ l) h →
      wpAny (model prog w) A (pyNext it) (fun r s₁ => r = none ∧ R (.ok .next) s₁) (notedBy (model prog w) A env fun e s' => R (.error e) s') ⟨h, g, d, t, o⟩) :
    codeAny (model prog w) A (.compLoop (.ListComp elt [⟨target, iter, ifs, 0⟩] scope pos) 0 it acc env) R ⟨h, g, d, t, o⟩ := by
  refine codeAny_loop rfl (fun k s => ∃ i, k = n - i ∧ i ≤ n ∧ Next Z J q d o i s) (fun k s hI => ?_) n ⟨0, rfl, Nat.zero_le _, Z, l, h, g, t, rfl, Sub.refl _, j0, H⟩
  show wpAny _ A ((compTurn (.ListComp elt [⟨target, iter, ifs, 0⟩] scope pos) 0 it acc env).onRaise (fun x => do noteFrame x env; theTreesLotGoes x)) _ _ s
  refine wpAny_noted ?_
  rw [compTurn_list]
  obtain ⟨i, rfl, hi, Z', l', h', g', t', rfl, sub, j, H'⟩ := hI
  by_cases hlt : i < n
  · refine wpAny_bind (wpAny_standAt (wpAny_bind (wpAny_mono (turn i Z' l' h' g' t' hlt sub j H') (fun r s₁ h₁ => ?_) fun _ _ h' => h')))
    obtain ⟨v, rfl, h₁⟩ := h₁
    refine wpAny_bind (wpAny_mono h₁ (fun _ s₂ h₂ => ?_) fun _ _ h' => h')
    refine wpAny_bind (wpAny_mono h₂ (fun _ s₂ h₂ => wpAny_bind (wpAny_mono h₂ (fun ok s₃ h₃ => ?_) fun _ _ h' => h')) fun _ _ h' => h')
    cases ok with
    | false => exact wpAny_pure ⟨rfl, n - (i + 1), by omega, i + 1, rfl, hlt, h₃⟩
    | true =>
      exact wpAny_bind (wpAny_bind (wpAny_mono h₃ (fun x s₄ h₄ => wpAny_bind (wpAny_mono h₄ (fun _ s₅ h₅ => wpAny_pure (wpAny_pure ⟨rfl, n - (i + 1), by omega, i + 1, rfl, hlt, h₅⟩)) fun _ _ h' => h')) fun _ _ h' => h'))
  · obtain rfl : i = n := by omega
    refine wpAny_bind (wpAny_standAt (wpAny_bind (wpAny_mono (last Z' l' h' g' t' sub j H') (fun r s₁ h₁ => ?_) fun _ _ h' => h')))
    obtain ⟨rfl, h₁⟩ := h₁
    exact wpAny_pure h₁

theorem comp_list {x : Str} {px : Pos} (J : Nat → Heap → List Ent → Array GenState → Prop) (hh : A.handled = none) (H : Hp Z ((it, ItL a 0) :: l) h) (hl : Z.IsList a vs.toArray) (j0 : J 0 Z l g)
    (turn : ∀ i v Z' l h g t, vs[i]? = some v → Sub Z Z' → J i Z' l g → Hp Z' ((it, ItL a (i + 1)) :: l) h →
      CTurns prog w A R (.Name x px) elt ifs env acc v (Next Z J (fun i => [(it, ItL a i)]) d o (i + 1)) ⟨h, g, d, t, o⟩)
    (last : ∀ Z' l h g t, Sub Z Z' → J vs.length Z' l g → Hp Z' l h → R (.ok .next) ⟨h, g, d, t, o⟩) :
    codeAny (model prog w) A (.compStart (.ListComp elt [⟨.Name x px, iter, ifs, 0⟩] scope pos) 0 (.ref it) acc env) R ⟨h, g, d, t, o⟩ := by
  have loop : codeAny (model prog w) A (.compLoop (.ListComp elt [⟨.Name x px, iter, ifs, 0⟩] scope pos) 0 (.ref it) acc env) R ⟨h, g, d, t, o⟩ := by
    refine comp_any (fun i => [(it, ItL a i)]) vs.length J H j0 (fun i Z' l h g t hi sub j H => ?_) fun Z' l h g t sub j H => ?_
    · obtain ⟨v, hv⟩ : ∃ v, vs[i]? = some v := ⟨_, List.getElem?_eq_getElem hi⟩
      refine n_list_item H (hl.at fun _ e => sub _ _ e) hv fun h' H' => ⟨v, rfl, wpAny_pure ?_⟩
      exact turn i v Z' l h' g t hv sub j H'
    · exact n_list_end hh H (hl.at fun _ e => sub _ _ e) fun h' H' => ⟨rfl, last Z' l h' g t sub j H'⟩
  obtain ⟨ob, eo, p⟩ := H.here _ (.head _)
  exact codeAny_compStart_list loop (wpAny_pyIter_listiter ⟨ob, eo, p.1, p.2⟩ loop)

theorem comp_tups {elts : List Expr} {k : Nat} {px : Pos} (J : Nat → Heap → List Ent → Array GenState → Prop) (hh : A.handled = none) (H : Hp Z ((it, ItL a 0) :: l) h) (hl : Z.IsList a vs.toArray) (j0 : J 0 Z l g)
    (turn : ∀ i v Z' l h g t, vs[i]? = some v → Sub Z Z' → J i Z' l g → Hp Z' ((it, ItL a (i + 1)) :: l) h →
      CTurns prog w A R (.Tuple elts k px) elt ifs env acc v (Next Z J (fun i => [(it, ItL a i)]) d o (i + 1)) ⟨h, g, d, t, o⟩)
    (ht : ∀ v ∈ vs, ∃ b, v = .ref b)
    (last : ∀ Z' l h g t, Sub Z Z' → J vs.length Z' l g → Hp Z' l h → R (.ok .next) ⟨h, g, d, t, o⟩) :
    codeAny (model prog w) A (.compStart (.ListComp elt [⟨.Tuple elts k px, iter, ifs, 0⟩] scope pos) 0 (.ref it) acc env) R ⟨h, g, d, t, o⟩ := by
  have loop : codeAny (model prog w) A (.compLoop (.ListComp elt [⟨.Tuple elts k px, iter, ifs, 0⟩] scope pos) 0 (.ref it) acc env) R ⟨h, g, d, t, o⟩ := by
    refine comp_any (fun i => [(it, ItL a i)]) vs.length J H j0 (fun i Z' l h g t hi sub j H => ?_) fun Z' l h g t sub j H => ?_
    · obtain ⟨v, hv⟩ : ∃ v, vs[i]? = some v := ⟨_, List.getElem?_eq_getElem hi⟩
      obtain ⟨b, rfl⟩ := ht v (List.mem_of_getElem? hv)
      refine n_list_item H (hl.at fun _ e => sub _ _ e) hv fun h' H' => ⟨_, rfl, ?_⟩
      obtain ⟨ob, eo, p⟩ := H'.here _ (.head _)
      exact wpAny_letOwnedTupleGo_listiter ⟨ob, eo, p.1, p.2⟩ (turn i _ Z' l h' g t hv sub j H')
    · exact n_list_end hh H (hl.at fun _ e => sub _ _ e) fun h' H' => ⟨rfl, last Z' l h' g t sub j H'⟩
  obtain ⟨ob, eo, p⟩ := H.here _ (.head _)
  exact codeAny_compStart_list loop (wpAny_pyIter_listiter ⟨ob, eo, p.1, p.2⟩ loop)

theorem comp_range {x : Str} {n : Nat} {px : Pos} (J : Nat → Heap → List Ent → Array GenState → Prop) (hh : A.handled = none) (H : Hp Z ((it, ItR 0 n 1) :: l) h) (j0 : J 0 Z l g)
    (turn : ∀ i k' Z' l h g t, i < n → Sub Z Z' → J i Z' l g → Hp Z' ((it, ItR ((i + 1 : Nat) : Int) (n - (i + 1 : Nat)) 1) :: l) h →
      CTurns prog w A R (.Name x px) elt ifs env acc (.int i k') (Next Z J (fun i => [(it, ItR (i : Int) (n - i) 1)]) d o (i + 1)) ⟨h, g, d, t, o⟩)
    (last : ∀ Z' l h g t, Sub Z Z' → J n Z' l g → Hp Z' l h → R (.ok .next) ⟨h, g, d, t, o⟩) :
    codeAny (model prog w) A (.compStart (.ListComp elt [⟨.Name x px, iter, ifs, 0⟩] scope pos) 0 (.ref it) acc env) R ⟨h, g, d, t, o⟩ := by
  have loop : codeAny (model prog w) A (.compLoop (.ListComp elt [⟨.Name x px, iter, ifs, 0⟩] scope pos) 0 (.ref it) acc env) R ⟨h, g, d, t, o⟩ := by
    refine comp_any (fun i => [(it, ItR (i : Int) (n - i) 1)]) n J (by simpa using H) j0 (fun i Z' l h g t hi sub j H => ?_) fun Z' l h g t sub j H => ?_
    · refine n_range_item H (by omega) fun h' t' k' H' => ⟨_, rfl, wpAny_pure ?_⟩
      refine turn i k' Z' l h' g t' hi sub j ?_
      have e1 : ((i + 1 : Nat) : Int) = (i : Int) + 1 := by push_cast; rfl
      have e2 : (n : Int) - ((i : Int) + 1) = (n : Int) - i - 1 := by omega
      rw [e1, e2]
      exact H'
    · exact n_range_end hh H (by omega) fun h' H' => ⟨rfl, last Z' l h' g t sub j H'⟩
  obtain ⟨ob, eo, p⟩ := H.here _ (.head _)
  exact codeAny_compStart_list loop (wpAny_pyIter_rangeiter (x := 0) (left := n) (step := 1) (eo.trans (congrArg some p)) loop)

/-! the comprehension around its loop -/
theorem comp_env {ex : Expr} {it acc : Value} {cl : List (Str × Addr)} {use : Option (Value → Sem Unit)} {Q : Value → Shared → Prop} (hcell : ∀ x ∈ scope.names, x.2 ≠ .cell) (hkind : scope.kind = .function) (H : Hp Z l h)
    (hq : ∀ C h' t', Hp Z ((C, IsFr fun _ => none) :: l) h' → codeAny (model prog w) A (.compStart ex 0 it acc (compEnvC scope cl C env)) (compPost (model prog w) A E use Q acc C) ⟨h', g, d, t', o⟩) :
    wpAny (model prog w) A (newFunctionEnv scope env.globals cl [] env.qual none .none (some env)) (fun cenv s₄ =>
        codeAny (model prog w) A (.compStart ex 0 it acc { cenv with scope := relabel scope env }) (compPost (model prog w) A E use Q acc cenv.locals) s₄) E ⟨h, g, d, t, o⟩ := by
  refine wpAny_newFunctionEnv hcell (by intro x hx; cases hx) (fun h' hn hs => ?_) hkind
  obtain ⟨o', e', f'⟩ := IsFr.of_ns hn
  refine hq _ _ _ (H.add (fun b o e => ?_) (Nat.le_refl _) e' f')
  have hb : b ≠ h.objs.size := Nat.ne_of_lt (Heap.lt_size e)
  exact (hs.2 b hb).trans (Heap.get?_push_of_some _ e)
theorem post_none {C : Addr} {m : Str → Option Value} {f : Flow} {Q : Value → Shared → Prop} {M : Model} (H : Hp Z ((C, IsFr m) :: l) h) (hq : ∀ h', Hp Z l h' → Q acc ⟨h', g, d, t, o⟩) : compPost M A E none Q acc C (.ok f) ⟨h, g, d, t, o⟩ :=
  ⟨m, H.ns (.head _), fun h' hs => hq h' (H.lost fun b o hb e => (hs.2 b hb).trans e)⟩
theorem post_some {C : Addr} {m : Str → Option Value} {u : Value → Sem Unit} {f : Flow} {Q : Value → Shared → Prop} {M : Model}
    (hu : wpAny M A (u acc) (fun _ s => ∃ h g d t o l Z, s = ⟨h, g, d, t, o⟩ ∧ Hp Z ((C, IsFr m) :: l) h ∧ ∀ h', Hp Z l h' → Q .none ⟨h', g, d, t, o⟩) E ⟨h, g, d, t, o⟩) : compPost M A E (some u) Q acc C (.ok f) ⟨h, g, d, t, o⟩ :=
  wpAny_mono hu (fun _ s ⟨_, _, _, _, _, _, _, es, H, hq⟩ => by subst es; exact ⟨m, H.ns (.head _), fun h' hs => hq h' (H.lost fun b o hb e => (hs.2 b hb).trans e)⟩) fun _ _ x => x
theorem Assign_used {y : Str} {py spos : Pos} {M : Model} {s : Shared} {Q : Flow → Shared → Prop} (hsw : swapsWith (.ListComp elt [⟨target, iter, ifs, 0⟩] scope pos) (some (.Name y py)) spos.line env = pure true)
    (h : wpAny M A (comprehension (.ListComp elt [⟨target, iter, ifs, 0⟩] scope pos) scope env (firstIterPos [⟨target, iter, ifs, 0⟩] pos) (newList []) false (eval iter env) (some (assign (.Name y py) env))) (fun _ s' => Q .next s') E s) :
    wpAny M A (exec (.Assign [.Name y py] (.ListComp elt [⟨target, iter, ifs, 0⟩] scope pos) spos) env) Q E s := by
  rw [exec_Assign_Name_used _ _ _ _ hsw]
  refine wpAny_bind (wpAny_standAt (wpAny_bind ?_))
  show wpAny _ A (do let _ ← comprehension (.ListComp elt [⟨target, iter, ifs, 0⟩] scope pos) scope env _ (newList []) false (eval iter env) (some (assign (.Name y py) env))) _ _ s
  exact wpAny_bind (wpAny_mono h (fun _ s' hq => wpAny_pure (wpAny_pure hq)) fun _ _ e => e)
theorem ListComp_ {M : Model} {s : Shared} {Q : Value → Shared → Prop}
    (h : wpAny M A (comprehension (.ListComp elt [⟨target, iter, ifs, 0⟩] scope pos) scope env (firstIterPos [⟨target, iter, ifs, 0⟩] pos) (newList []) false (eval iter env) none) Q E s) :
    wpAny M A (eval (.ListComp elt [⟨target, iter, ifs, 0⟩] scope pos) env) Q E s := h
end

section
variable {prog : Program} {w : World} {A : Around} {E : Value → Shared → Prop} {Z h : Heap} {g : Array GenState} {d : Drawn} {t : Nat} {o : OsState} {l l' : List Ent} {a b : Addr} {xs ys : List Value}
theorem inplace_seq {M : Model} {s : Shared} {a b : Value} {T id : String} {Q : Value → Shared → Prop} (ha : s.TypeIs a T) (hb : s.TypeIs b T)
    (hI : typeLookup (.type T) (dunderI "add") = pure (some (.builtin id))) (hq : isSeqSlot (some (.builtin id)) = true) (hfill : fillsNumberSlot (.type T) "add" = pure false)
    (hc : wpAny M A (call (.builtin id) [a, b]) Q E s) : wpAny M A (inplaceOp .Add a b) Q E s := by
  unfold inplaceOp
  refine wpAny_holding ?_
  have hfi : fillsInplaceSlot (.type T) "add" (Operator.Add == .Add) = pure false := by
    unfold fillsInplaceSlot
    show (typeLookup (.type T) (dunderI "add") >>= fun fi => pure (fi.isSome && !isSeqSlot fi)) = pure false
    rw [hI]
    show (pure (true && !isSeqSlot (some (.builtin id))) : Sem Bool) = pure false
    rw [hq]; rfl
  refine wpAny_bind (wpAny_typeOf ha (wpAny_bind (wpAny_of_eq hfi ?_)))
  show wpAny M A (if false = true then _ else _) Q E s
  rw [if_neg Bool.false_ne_true]
  refine wpAny_bind (wpAny_binaryOp1_none (nm := "add") ha hb hfill ?_)
  refine wpAny_bind (wpAny_of_eq (PySem.seqSlot_of hI hq) ?_)
  exact wpAny_bind (wpAny_rule hc)
/-- `xs += ys` -/
theorem o_extend {Q : Value → Shared → Prop} (H : Hp Z l h) (T : Turn a (IsLs xs) (IsLs (xs ++ ys)) l l') (hb : (b, IsLs ys) ∈ l) (hq : ∀ h', Hp Z l' h' → Q (.ref a) ⟨h', g, d, t, o⟩) (hz : xs.length + ys.length ≤ 1000000) :
    wpAny (model prog w) A (inplaceOp .Add (.ref a) (.ref b)) Q E ⟨h, g, d, t, o⟩ := by
  have hs : sizeLine = 2 ^ 24 := rfl
  obtain ⟨n, hl⟩ := H.isL T.mem
  obtain ⟨n2, hl2⟩ := H.isL hb
  refine inplace_seq ⟨_, hl, rfl⟩ ⟨_, hl2, rfl⟩ PySem.F.slot_list_iadd.lookup (by decide +kernel) noFill_list_add ?_
  refine call_meets PySem.F.slot_list_iadd ⟨_, hl, rfl⟩ PySem.F.entry_list_iadd (PySem.F.args_list_iadd_2 _ _) (AutoSeq1.list___iadd___list_list_0 a xs.toArray n b ys.toArray n2 (by
      simp only [List.size_toArray, Bool.and_eq_true, not_and]
      intro _ e
      simp only [Builtin.List.listTooLong] at e
      first | (have := of_decide_eq_true e; omega) | (simp at e; omega)) (by rw [List.size_toArray]; omega) (by rw [List.size_toArray, List.size_toArray]; omega)) ⟨hl, hl2, ?_⟩
  have U := hl.update fun x => x ++ ys.toArray
  rw [List.append_toArray] at U
  exact hq _ (H.sames T (Heap.SameBut.update ..) U ⟨_, rfl⟩)
/-- the head of the ledger is frozen -/
theorem Hp.frz {p : Obj → Prop} (H : Hp Z ((a, p) :: l) h) : ∃ Z', Sub Z Z' ∧ Hp Z' l h ∧ ∃ o, Z'.get? a = some o ∧ p o := by
  have nd := H.nd
  rw [List.map_cons, List.nodup_cons] at nd
  obtain ⟨Z', s, H', k⟩ := H.freeze (l' := l) (List.subset_cons_self _ _) nd.2
  obtain ⟨o, e, hp⟩ := H.here _ (.head _)
  exact ⟨Z', s, H', o, k _ _ e nd.1, hp⟩
theorem Hp.frzT {vs : List Value} (H : Hp Z ((a, IsTp vs) :: l) h) : ∃ Z', Sub Z Z' ∧ Hp Z' l h ∧ IsTup Z' a vs.toArray := by
  obtain ⟨Z', s, H', o, e, n, x⟩ := H.frz
  exact ⟨Z', s, H', o, e, by rw [x], n, by rw [x]⟩
theorem Hp.frzL {vs : List Value} (H : Hp Z ((a, IsLs vs) :: l) h) : ∃ Z', Sub Z Z' ∧ Hp Z' l h ∧ Z'.IsList a vs.toArray := by
  obtain ⟨Z', s, H', o, e, n, x⟩ := H.frz
  exact ⟨Z', s, H', o, e, by rw [x], n, by rw [x]⟩
end
end TML
section TMN
open AutoSeq1 (wpAny_loadPart')
set_option maxHeartbeats 2000000 in
theorem meets_enum2L (l : Addr) (items : Array Value) (n : Nat) (u : Tok) (dct : Option Addr) (sl : Array (Option Value)) :
    Meets (Builtin.«enumerate.__new__» ⟨[.type "enumerate", .ref l, .int 1 u], []⟩) (fun _ R s => s.heap.get? l = some { cls := .type "list", dict := dct, data := .seq items n, slots := sl } ∧
      R (.ok (.ret (.ref (s.heap.push { cls := .type "list_iterator", data := .fields #[.ref l, .int 0 0] }).objs.size)))
        { s with heap := (s.heap.push { cls := .type "list_iterator", data := .fields #[.ref l, .int 0 0] }).push { cls := .type "enumerate", data := .fields #[.none, .bool false, .ref s.heap.objs.size, rawInt 1, .none, .none] } }) :=
  .of_wp fun prog w A R s h => by
    obtain ⟨hp, g, d, tk, os⟩ := s; obtain ⟨hl, h⟩ := h
    have hsub := sub_enumerate
    have hL : Heap.IsList (Shared.heap ⟨hp, g, d, tk, os⟩) l items := ⟨_, hl, rfl, n, rfl⟩
    wp_walk using wpAny_loadPart' hl
    refine wpAny_stack_any fun st => wpAny_pure ?_
    split
    · rename_i c _ _ _ _ _
      cases (c == Value.type "enumerate")
      · wp_walk using wpAny_loadPart' hl, wpAny_pyIter_list hL
        exact ⟨_, rfl, h⟩
      · wp_walk using wpAny_loadPart' hl, wpAny_pyIter_list hL
        exact ⟨_, rfl, h⟩
    · wp_walk using wpAny_loadPart' hl, wpAny_pyIter_list hL
      exact ⟨_, rfl, h⟩

set_option maxHeartbeats 2000000 in
theorem meets_enum2S (x : Str) (t u : Tok) :
    Meets (Builtin.«enumerate.__new__» ⟨[.type "enumerate", .str x t, .int 1 u], []⟩) (fun _ R s =>
      R (.ok (.ret (.ref (s.heap.push { cls := .type (strIterType x), data := .fields #[.str x t, .int 0 0] }).objs.size)))
        { s with heap := (s.heap.push { cls := .type (strIterType x), data := .fields #[.str x t, .int 0 0] }).push { cls := .type "enumerate", data := .fields #[.none, .bool false, .ref s.heap.objs.size, rawInt 1, .none, .none] } }) :=
  .of_wp fun prog w A R s h => by
    obtain ⟨hp, g, d, tk, os⟩ := s
    have hsub := sub_enumerate
    wp_walk
    refine wpAny_stack_any fun st => wpAny_pure ?_
    split
    · rename_i c _ _ _ _ _
      cases (c == Value.type "enumerate")
      · wp_walk using wpAny_pyIter_strU
        exact ⟨_, rfl, h⟩
      · wp_walk using wpAny_pyIter_strU
        exact ⟨_, rfl, h⟩
    · wp_walk using wpAny_pyIter_strU
      exact ⟨_, rfl, h⟩
end TMN
section TMO
theorem typeCall_enumerate_2 (a b : Value) : checkTypeCall "enumerate" ⟨[a, b], []⟩ = pure () := by kernel_rfl
theorem newCall_enumerate_2 (a b : Value) : checkBuiltinCall "enumerate.__new__" ⟨[.type "enumerate", a, b], []⟩ = pure () := by kernel_rfl

/-- two new entries at once -/
theorem Hp.add2 {Z h h' : Heap} {l : List Ent} {a b : Addr} {p q : Obj → Prop} (H : Hp Z l h) (k : ∀ b o, h.get? b = some o → h'.get? b = some o) (ha : h.objs.size ≤ a) (hb : h.objs.size ≤ b) (hab : a ≠ b)
    (pa : ∃ o, h'.get? a = some o ∧ p o) (qb : ∃ o, h'.get? b = some o ∧ q o) : Hp Z ((a, p) :: (b, q) :: l) h' := by
  obtain ⟨ob, eb, hq⟩ := qb
  have H1 := H.add k hb eb hq
  refine ⟨H1.keep, fun r hr => ?_, fun r hr => ?_, ?_⟩
  · rcases List.mem_cons.mp hr with rfl | hr
    · exact pa
    · exact H1.here r hr
  · rcases List.mem_cons.mp hr with rfl | hr
    · exact H.none ha
    · exact H1.off r hr
  · rw [List.map_cons, List.nodup_cons]
    refine ⟨fun hm => ?_, H1.nd⟩
    obtain ⟨r, hr, e⟩ := List.mem_map.mp hm
    rcases List.mem_cons.mp hr with rfl | hr
    · exact hab e.symm
    · have := H.lt hr
      exact absurd (show a < h.objs.size from (show r.1 = a from e) ▸ this) (Nat.not_lt.mpr ha)

section
variable {prog : Program} {w : World} {A : Around} {E : Value → Shared → Prop} {Z h : Heap} {g : Array GenState} {d : Drawn} {t : Nat} {o : OsState} {l l' : List Ent} {a : Addr} {vs : List Value}
theorem o_enum {Q : Value → Shared → Prop} (H : Hp Z l h) (hl : h.IsList a vs.toArray) (hq : ∀ e it h', Hp Z ((e, ItE it 0) :: (it, ItL a 0) :: l) h' → Q (.ref e) ⟨h', g, d, t, o⟩) :
    wpAny (model prog w) A (call (.type "enumerate") [.ref a]) Q E ⟨h, g, d, t, o⟩ := by
  refine call_enumerate_list hl fun h' he hit hz hk => hq _ _ h' (H.add2 hk (Nat.le_succ _) (Nat.le_refl _) (Nat.succ_ne_self _) ⟨_, he, _, rfl⟩ ?_)
  obtain ⟨o', e', x⟩ := hit
  exact ⟨o', e', x⟩
theorem o_enum1 {u : Tok} {Q : Value → Shared → Prop} (H : Hp Z l h) (hl : h.IsList a vs.toArray) (hq : ∀ e it h', Hp Z ((e, ItE it 1) :: (it, ItL a 0) :: l) h' → Q (.ref e) ⟨h', g, d, t, o⟩) :
    wpAny (model prog w) A (call (.type "enumerate") [.ref a, .int 1 u]) Q E ⟨h, g, d, t, o⟩ := by
  obtain ⟨⟨c, dct, dt, sl⟩, hl, hc, n, hd⟩ := hl
  replace hc : c = .type "list" := hc
  replace hd : dt = .seq vs.toArray n := hd
  subst hc hd
  refine callType_new PySem.F.called_enumerate (by decide) (typeCall_enumerate_2 _ _) (newCall_enumerate_2 _ _) (fun obj => PySem.F.initArgs_range_2 obj _ _) PySem.F.entry_enumerate_new
    (meets_enum2L a vs.toArray n u dct sl) ⟨hl, ?_⟩
  have hz : (h.push { cls := .type "list_iterator", data := .fields #[.ref a, .int 0 0] }).objs.size = h.objs.size + 1 := Heap.size_push ..
  show _ ∧ _
  have e1 := Heap.get?_push_size (h.push { cls := .type "list_iterator", data := .fields #[.ref a, .int 0 0] }) (o := { cls := .type "enumerate", data := .fields #[.none, .bool false, .ref h.objs.size, rawInt 1, .none, .none] }) rfl
  refine ⟨⟨_, e1, rfl⟩, hq _ h.objs.size _ (H.add2 (fun b o x => Heap.get?_push_of_some _ (Heap.get?_push_of_some _ x)) (by rw [hz]; exact Nat.le_succ _) (Nat.le_refl _) (by rw [hz]; exact Nat.succ_ne_self _) ⟨_, e1, _, rfl⟩ ⟨_, Heap.get?_push_of_some _ (Heap.get?_push_size _ rfl), rfl, rfl⟩)⟩
theorem o_enum1S {x : Str} {k u : Tok} {Q : Value → Shared → Prop} (H : Hp Z l h) (hq : ∀ e it h', Hp Z ((e, ItE it 1) :: (it, ItS x k 0) :: l) h' → Q (.ref e) ⟨h', g, d, t, o⟩) :
    wpAny (model prog w) A (call (.type "enumerate") [.str x k, .int 1 u]) Q E ⟨h, g, d, t, o⟩ := by
  refine callType_new PySem.F.called_enumerate (by decide) (typeCall_enumerate_2 _ _) (newCall_enumerate_2 _ _) (fun obj => PySem.F.initArgs_range_2 obj _ _) PySem.F.entry_enumerate_new
    (meets_enum2S x k u) ?_
  have hz : (h.push { cls := .type (strIterType x), data := .fields #[.str x k, .int 0 0] }).objs.size = h.objs.size + 1 := Heap.size_push ..
  show _ ∧ _
  have e1 := Heap.get?_push_size (h.push { cls := .type (strIterType x), data := .fields #[.str x k, .int 0 0] }) (o := { cls := .type "enumerate", data := .fields #[.none, .bool false, .ref h.objs.size, rawInt 1, .none, .none] }) rfl
  refine ⟨⟨_, e1, rfl⟩, hq _ h.objs.size _ (H.add2 (fun b o x => Heap.get?_push_of_some _ (Heap.get?_push_of_some _ x)) (by rw [hz]; exact Nat.le_succ _) (Nat.le_refl _) (by rw [hz]; exact Nat.succ_ne_self _) ⟨_, e1, _, rfl⟩ ⟨_, Heap.get?_push_of_some _ (Heap.get?_push_size _ rfl), rfl, rfl⟩)⟩
end

/-- an entry of the ledger and the rest -/
inductive Pick (q : Ent) : List Ent → List Ent → Prop
  | head {r : List Ent} : Pick q (q :: r) r
  | tail {p : Ent} {r r' : List Ent} : Pick q r r' → Pick q (p :: r) (p :: r')
theorem Pick.perm {q : Ent} : ∀ {l l' : List Ent}, Pick q l l' → List.Perm (q :: l') l
  | _, _, .head => .refl _
  | _, _, .tail t => (List.Perm.swap _ _ _).trans (t.perm.cons _)
theorem Hp.pick {Z h : Heap} {l l' : List Ent} {q : Ent} (H : Hp Z l h) (P : Pick q l l') : Hp Z (q :: l') h := H.perm P.perm

theorem Paired.mono {α β : Type} {F G : α → β → Prop} (w : ∀ a b, F a b → G a b) : ∀ {l₁ : List α} {l₂ : List β}, Paired F l₁ l₂ → Paired G l₁ l₂
  | _, _, .nil => .nil
  | _, _, .cons h t => .cons (w _ _ h) (Paired.mono w t)
theorem Paired.append {α β : Type} {F : α → β → Prop} : ∀ {l₁ m₁ : List α} {l₂ m₂ : List β}, Paired F l₁ l₂ → Paired F m₁ m₂ → Paired F (l₁ ++ m₁) (l₂ ++ m₂)
  | _, _, _, _, .nil, y => y
  | _, _, _, _, .cons h t, y => .cons h (Paired.append t y)
theorem Paired.get {α β : Type} {F : α → β → Prop} {v : β} : ∀ {l₁ : List α} {l₂ : List β} {i : Nat}, Paired F l₁ l₂ → l₂[i]? = some v → ∃ x, l₁[i]? = some x ∧ F x v
  | _, _, _, .nil, e => by simp at e
  | _, _, 0, .cons h _, e => by simp at e; subst e; exact ⟨_, rfl, h⟩
  | _, _, i + 1, .cons _ t, e => by
    obtain ⟨x, e', f⟩ := Paired.get (i := i) t (by simpa using e)
    exact ⟨x, by simpa using e', f⟩
theorem IsTup.keeps {Z Z' : Heap} {a : Addr} {xs : Array Value} (x : IsTup Z a xs) (s : Sub Z Z') : IsTup Z' a xs := let ⟨o, e, r⟩ := x; ⟨o, s _ _ e, r⟩
end TMO
section TMP
/-! what the law computes, in plain lists -/
def wideOf (col c : Nat) : Nat := if c = 9 then 8 - (col - 1) % 8 else 1
def showOf (c : Nat) : Nat := if c = 9 then 32 else c
def blockOf (col c : Nat) : List (Nat × Nat) := (List.range (wideOf col c)).map fun k => (col + k, showOf c)
def colEnd : List Nat → Nat → Nat
  | [], col => col
  | c :: cs, col => colEnd cs (col + wideOf col c)
def laidLine : List Nat → Nat → List (Nat × Nat)
  | [], _ => []
  | c :: cs, col => blockOf col c ++ laidLine cs (col + wideOf col c)
def laid : List (List Nat) → Nat → List (Nat × Nat × Nat)
  | [], _ => []
  | ln :: r, p => (laidLine ln 1).map (fun x => (p, x)) ++ laid r (p + 1)

theorem wideOf_le (col c : Nat) : wideOf col c ≤ 8 := by unfold wideOf; split <;> omega
theorem colEnd_ge : ∀ (cs : List Nat) (col : Nat), col ≤ colEnd cs col
  | [], _ => Nat.le_refl _
  | c :: cs, col => Nat.le_trans (Nat.le_add_right _ _) (colEnd_ge cs _)
theorem colEnd_append (c : Nat) : ∀ (cs : List Nat) (col : Nat), colEnd (cs ++ [c]) col = colEnd cs col + wideOf (colEnd cs col) c
  | [], _ => rfl
  | x :: cs, col => colEnd_append c cs _
theorem laidLine_append (c : Nat) : ∀ (cs : List Nat) (col : Nat), laidLine (cs ++ [c]) col = laidLine cs col ++ blockOf (colEnd cs col) c
  | [], col => by simp [laidLine, colEnd]
  | x :: cs, col => by
    show blockOf col x ++ laidLine (cs ++ [c]) _ = (blockOf col x ++ laidLine cs _) ++ _
    rw [laidLine_append c cs, List.append_assoc]; rfl
theorem laid_append (ln : List Nat) : ∀ (ls : List (List Nat)) (p : Nat), laid (ls ++ [ln]) p = laid ls p ++ (laidLine ln 1).map fun x => (p + ls.length, x)
  | [], p => by simp [laid]
  | x :: ls, p => by
    show (laidLine x 1).map (fun y => (p, y)) ++ laid (ls ++ [ln]) (p + 1) = ((laidLine x 1).map (fun y => (p, y)) ++ laid ls (p + 1)) ++ _
    rw [laid_append ln ls, List.append_assoc, List.length_cons, show p + 1 + ls.length = p + (ls.length + 1) by omega]
theorem laidLine_length : ∀ (cs : List Nat) (col : Nat), (laidLine cs col).length ≤ 8 * cs.length
  | [], _ => Nat.le_refl _
  | c :: cs, col => by
    have h := laidLine_length cs (col + wideOf col c)
    have h2 := wideOf_le col c
    show (blockOf col c ++ laidLine cs _).length ≤ _
    rw [List.length_append, blockOf, List.length_map, List.length_range, List.length_cons]
    omega
theorem laid_length (K : Nat) : ∀ (ls : List (List Nat)) (p : Nat), (∀ x ∈ ls, x.length ≤ K) → (laid ls p).length ≤ 8 * K * ls.length
  | [], _, _ => Nat.le_refl _
  | x :: ls, p, hk => by
    have h := laid_length K ls (p + 1) fun y hy => hk y (.tail _ hy)
    have h1 := laidLine_length x 1
    have h2 := hk x (.head _)
    have h3 : 8 * x.length ≤ 8 * K := Nat.mul_le_mul_left 8 h2
    show ((laidLine x 1).map _ ++ laid ls _).length ≤ _
    rw [List.length_append, List.length_map, List.length_cons, Nat.mul_succ]
    omega

/-! how they stand on the heap -/
def LineV (ln : List Nat) (v : Value) : Prop := ∃ k, v = .str ⟨ln.toArray⟩ k
def SignV (Z : Heap) (x : Nat × Nat × Nat) (v : Value) : Prop := ∃ b k₁ k₂ k₃, v = .ref b ∧ IsTup Z b [Value.int (x.1 : Int) k₁, .int (x.2.1 : Int) k₂, .str ⟨#[x.2.2]⟩ k₃].toArray
theorem SignV.keeps {Z Z' : Heap} (s : Sub Z Z') : ∀ (x : Nat × Nat × Nat) (v : Value), SignV Z x v → SignV Z' x v := fun _ _ ⟨b, k₁, k₂, k₃, e, t⟩ => ⟨b, k₁, k₂, k₃, e, t.keeps s⟩

theorem tab_iff (c : Nat) : ((⟨#[c]⟩ : Str) == Str.ofString "\t") = true ↔ c = 9 := by
  have e : Str.ofString "\t" = ⟨#[9]⟩ := by decide
  rw [e]
  constructor
  · intro h
    have h1 := eq_of_beq h
    injection h1 with h2
    injection h2 with h3
    injection h3
  · rintro rfl
    exact beq_self_eq_true _
theorem wide_tab {col : Nat} (h : 1 ≤ col) : (8 : Int) - ((col : Int) - 1).fmod 8 = (wideOf col 9 : Nat) := by
  rw [Int.fmod_eq_emod_of_nonneg _ (by decide)]
  unfold wideOf
  rw [if_pos rfl]
  omega
end TMP
section TMQ
/-! a dict whose keys are ints -/
def IsDc (prog : Program) (w : World) (kvs : List (Int × Value)) : Obj → Prop := fun o => Obj.IsDictOf (intKind prog w) o kvs

theorem not_sys {w : World} {Z h : Heap} {l : List Ent} (G : Gd w Z) (H : Hp Z l h) : (h.objs.size == sysModules) = false := by
  obtain ⟨ob, e⟩ : ∃ ob, (KK w.params).lookup 111 = some ob := ⟨_, by exact rfl⟩
  have h1 := Heap.lt_size (H.zget (G.K _ _ e))
  have : sysModules = 1 := rfl
  rw [beq_eq_false_iff_ne]
  intro c
  rw [this] at c
  rw [c] at h1
  exact absurd h1 (by decide)

section
variable {prog : Program} {w : World} {A : Around} {E : Value → Shared → Prop} {Z h : Heap} {g : Array GenState} {d : Drawn} {t : Nat} {o : OsState} {l l' : List Ent} {a : Addr} {kvs : List (Int × Value)} {k : Int} {u : Tok} {v : Value} {env : Env}

theorem o_dict {pos : Pos} {M : Model} {Q : Value → Shared → Prop} (G : Gd w Z) (H : Hp Z l h) (hq : ∀ a h', (a == sysModules) = false → Hp Z ((a, IsDc prog w []) :: l) h' → Q (.ref a) ⟨h', g, d, t, o⟩) :
    wpAny M A (eval (.Dict [] [] pos) env) Q E ⟨h, g, d, t, o⟩ :=
  wpAny_Dict_empty (hq _ _ (not_sys G H) (H.push _ ⟨#[], _, ⟨rfl, rfl, rfl⟩, rfl, fun e he => absurd he (by simp), .nil, List.nodup_nil⟩))
theorem Hp.dictOf (H : Hp Z l h) (e : (a, IsDc prog w kvs) ∈ l) : h.DictOf (intKind prog w) a kvs := Heap.dictOf_iff.mpr (H.here _ e)
theorem o_put {Q : Unit → Shared → Prop} (H : Hp Z l h) (T : Turn a (IsDc prog w kvs) (IsDc prog w (stored kvs k v)) l l') (hz : kvs.length ≤ sizeLine) (hq : ∀ h' t', Hp Z l' h' → Q () ⟨h', g, d, t', o⟩) :
    wpAny (model prog w) A (setItem (.ref a) (.int k u) v) Q E ⟨h, g, d, t, o⟩ :=
  wpAny_setItem_pairs (hsz := hz) (intKind_is prog w k u) (H.dictOf T.mem) fun h' hd hs => by
    obtain ⟨o', e', x⟩ := Heap.dictOf_iff.mp hd
    exact hq h' _ (H.sames T hs e' x)
theorem o_in {Q : Value → Shared → Prop} (hd : h.DictOf (intKind prog w) a kvs) (hs : (a == sysModules) = false) (hq : ∀ t', Q (.bool (valueAt kvs k).isSome) ⟨h, g, d, t', o⟩) :
    wpAny (model prog w) A (compareOp .In (.int k u) (.ref a)) Q E ⟨h, g, d, t, o⟩ := wpAny_in_of (intKind_is prog w k u) hs hd.mapOf (hq _)
theorem o_get {Q : Value → Shared → Prop} (hd : h.DictOf (intKind prog w) a kvs) (hv : valueAt kvs k = some v) (hq : ∀ t', Q v ⟨h, g, d, t', o⟩) :
    wpAny (model prog w) A (getItem (.ref a) (.int k u)) Q E ⟨h, g, d, t, o⟩ := wpAny_getItem_of (intKind_is prog w k u) hd.mapOf hv (hq _)

theorem ints_of_items {prog : Program} {w : World} : ∀ (acc : List Value) (ks : List Int), acc.length = ks.length → (∀ (j : Nat) (v : Value), acc[j]? = some v → ∃ k : Int, ks[j]? = some k ∧ (intKind prog w).is k v = true) → IntsAre acc ks
  | [], [], _, _ => .nil
  | v :: vs, k :: ks, hl, hv => by
    obtain ⟨k', e, hk⟩ := hv 0 v rfl
    have e' : k = k' := by simpa using e
    subst e'
    obtain ⟨t, rfl⟩ := Value.isInt_shape hk
    exact .cons k t (ints_of_items vs ks (by simpa using hl) fun j v' hj => hv (j + 1) v' (by simpa using hj))

theorem o_sorted {Q : Value → Shared → Prop} (hh : A.handled = none) (H : Hp Z l h) (hd : h.DictOf (intKind prog w) a kvs) (hs : (a == sysModules) = false) (h64 : kvs.length < 64)
    (hq : ∀ b h' t' vs ns, IntsAre vs ns → ns.Perm (kvs.map (·.1)) → ns.Pairwise (· ≤ ·) → Hp Z ((b, IsLs vs) :: l) h' → Q (.ref b) ⟨h', g, d, t', o⟩) :
    wpAny (model prog w) A (call (.builtin "sorted") [.ref a]) Q E ⟨h, g, d, t, o⟩ := by
  have hz : sizeLine = 2 ^ 24 := rfl
  obtain ⟨ep, hat⟩ := hd.dictAt
  refine Calls.call_function_entry kind_sorted plain_sorted entry_sorted (args_sorted1 _) ?_
  unfold Builtin.«sorted»
  refine wpAny_bind (m := checkCount "sorted" 1 1 _) (wpAny_pure ?_)
  refine wpAny_bind (kdu_collect (A := A.in1) (kdl_dict (knd := intKind prog w) (kvs := kvs) (ep := ep) hs) hh hat (by omega) fun h₁ t₁ acc hk hacc => ?_)
  have hI : IntsAre acc.toList (kvs.map (·.1)) := ints_of_items (prog := prog) (w := w) _ _ (by rw [Array.length_toList, hacc.1, List.length_map]) fun j v hj => by
    obtain ⟨k, x, e1, e2⟩ := hacc.2 j v (by rw [← Array.getElem?_toList]; exact hj)
    exact ⟨k, by rw [List.getElem?_map, e1]; rfl, e2⟩
  have hl : acc.toList.length = kvs.length := by rw [Array.length_toList]; exact hacc.1
  refine wpAny_bind (wpAny_newList ?_ (by rw [hl]; omega))
  have hoL : (h₁.push (seqObj "list" acc.toList.toArray 0)).get? h₁.objs.size = some (seqObj "list" acc.toList.toArray 0) := Heap.get?_push_size _ rfl
  have H₁ : Hp Z ((h₁.objs.size, IsAny) :: l) (h₁.push (seqObj "list" acc.toList.toArray 0)) := (H.grow hk).push _ trivial
  refine wpAny_bind (wpAny_holding (wpAny_call_entry PyProof.Rows.slot_list_sort ⟨_, hoL, rfl⟩ PyProof.Rows.entry_list_sort (list_sort_tree hoL hI (by rw [hl]; exact h64) fun out ns a1 a2 a3 => ⟨_, rfl, ?_⟩) (PyProof.Rows.args_list_sort _)))
  refine wpAny_pure ⟨_, rfl, ?_⟩
  obtain ⟨e, he⟩ := sortedHeap_at (out := out) hoL
  exact hq _ _ _ out.toList ns a1 a2 a3 (H₁.turns (.head) (fun b o hb eb => by rw [sortedHeap_old hb (Heap.lt_size eb)]; exact eb) he ⟨e, by simp [seqObj]⟩)
end
end TMQ
section TMR
def passedAt (signs : List (Nat × Nat × Nat)) (j : Nat) : Nat := ((signs[j]?).map (·.1)).getD 0
def moveAt (mv : List (Nat × Int × Str)) (k : Nat) : Option (Int × Str) := (mv.find? fun x => x.1 = k).map (·.2)
/-- name and row less what has passed, as the reader of the sign `j` must find them -/
def cur (signs : List (Nat × Nat × Nat)) (mv : List (Nat × Int × Str)) (b : Int) : Nat → Str × Int
  | 0 => ("t.c", b)
  | j + 1 => match moveAt mv j with
    | some x => (x.2, x.1 - passedAt signs j)
    | none => cur signs mv b j
def MoveV (Z : Heap) (x : Nat × Int × Str) (kv : Int × Value) : Prop := kv.1 = (x.1 : Int) ∧ ∃ b k₁ k₂, kv.2 = .ref b ∧ IsTup Z b [Value.int x.2.1 k₁, .str x.2.2 k₂].toArray
theorem MoveV.keeps {Z Z' : Heap} (s : Sub Z Z') : ∀ (x : Nat × Int × Str) (v : Int × Value), MoveV Z x v → MoveV Z' x v := fun _ _ ⟨e, b, k₁, k₂, e', t⟩ => ⟨e, b, k₁, k₂, e', t.keeps s⟩

theorem cur_none {signs : List (Nat × Nat × Nat)} {mv : List (Nat × Int × Str)} {b : Int} : ∀ {n : Nat}, (∀ k, k < n → moveAt mv k = none) → cur signs mv b n = ((Str.ofString "t.c", b) : Str × Int)
  | 0, _ => rfl
  | n + 1, h => by
    show (match moveAt mv n with | some x => (x.2, x.1 - passedAt signs n) | none => cur signs mv b n) = _
    rw [h n (Nat.lt_succ_self _)]
    exact cur_none fun k hk => h k (Nat.lt_succ_of_lt hk)
theorem cur_last {signs : List (Nat × Nat × Nat)} {mv : List (Nat × Int × Str)} {b : Int} {K : Nat} {x : Int × Str} (hK : moveAt mv K = some x) : ∀ {n : Nat}, K < n → (∀ k, K < k → k < n → moveAt mv k = none) → cur signs mv b n = ((x.2, x.1 - passedAt signs K) : Str × Int)
  | 0, h, _ => absurd h (Nat.not_lt_zero _)
  | n + 1, h, hn => by
    show (match moveAt mv n with | some x => (x.2, x.1 - passedAt signs n) | none => cur signs mv b n) = _
    by_cases e : K = n
    · subst e; rw [hK]
    · rw [hn n (by omega) (Nat.lt_succ_self _)]
      exact cur_last hK (by omega) fun k h1 h2 => hn k h1 (Nat.lt_succ_of_lt h2)

theorem value_move {Z : Heap} (k : Nat) : ∀ {mv : List (Nat × Int × Str)} {kvs : List (Int × Value)}, Paired (MoveV Z) mv kvs →
    (moveAt mv k = none ∧ valueAt kvs (k : Int) = none) ∨ ∃ x v, moveAt mv k = some x ∧ valueAt kvs (k : Int) = some v ∧ MoveV Z (k, x) ((k : Int), v)
  | _, _, .nil => .inl ⟨rfl, rfl⟩
  | _, _, .cons (a := x) (b := kv) (l₁ := mv) (l₂ := kvs) h t => by
    obtain ⟨k', x⟩ := x
    obtain ⟨ki, v⟩ := kv
    have e : ki = (k' : Int) := h.1
    subst e
    by_cases hk : k' = k
    · subst hk
      exact .inr ⟨x, v, by simp [moveAt], by simp [valueAt], h⟩
    · have hk2 : ¬ ((k' : Int) = (k : Int)) := fun c => hk (by omega)
      have e1 : moveAt ((k', x) :: mv) k = moveAt mv k := by simp [moveAt, hk]
      have e2 : valueAt (((k' : Int), v) :: kvs) (k : Int) = valueAt kvs (k : Int) := by simp [valueAt, hk2]
      rw [e1, e2]
      exact value_move k t
theorem move_key {Z : Heap} (k : Int) : ∀ {mv : List (Nat × Int × Str)} {kvs : List (Int × Value)}, Paired (MoveV Z) mv kvs → k ∈ kvs.map (·.1) → ∃ j : Nat, k = j ∧ (∃ x, (j, x) ∈ mv) ∧ (moveAt mv j).isSome
  | _, _, .cons (a := x) (b := kv) (l₁ := mv) (l₂ := kvs) h t, hm => by
    obtain ⟨k', x⟩ := x
    obtain ⟨ki, v⟩ := kv
    have e : ki = (k' : Int) := h.1
    subst e
    rcases List.mem_cons.mp hm with rfl | hm
    · exact ⟨k', rfl, ⟨x, .head _⟩, by simp [moveAt]⟩
    · obtain ⟨j, e, ⟨x', hx⟩, hs⟩ := move_key k t hm
      refine ⟨j, e, ⟨x', .tail _ hx⟩, ?_⟩
      by_cases hk : k' = j
      · subst hk; simp [moveAt]
      · have e1 : moveAt ((k', x) :: mv) j = moveAt mv j := by simp [moveAt, hk]
        rw [e1]; exact hs
theorem key_move {Z : Heap} (j : Nat) : ∀ {mv : List (Nat × Int × Str)} {kvs : List (Int × Value)}, Paired (MoveV Z) mv kvs → (moveAt mv j).isSome → (j : Int) ∈ kvs.map (·.1)
  | _, _, .nil, hm => by simp [moveAt] at hm
  | _, _, .cons (a := x) (b := kv) (l₁ := mv) (l₂ := kvs) h t, hm => by
    obtain ⟨k', x⟩ := x
    obtain ⟨ki, v⟩ := kv
    have e : ki = (k' : Int) := h.1
    subst e
    by_cases hk : k' = j
    · subst hk; exact .head _
    · have e1 : moveAt ((k', x) :: mv) j = moveAt mv j := by simp [moveAt, hk]
      rw [e1] at hm
      exact .tail _ (key_move j t hm)
theorem stored_move {Z : Heap} (k : Nat) (x : Int × Str) {v : Value} (hv : MoveV Z (k, x) ((k : Int), v)) {mv : List (Nat × Int × Str)} {kvs : List (Int × Value)} (h : Paired (MoveV Z) mv kvs) :
    ∃ mv', Paired (MoveV Z) mv' (stored kvs (k : Int) v) ∧ (∀ y ∈ mv', y = (k, x) ∨ y ∈ mv) ∧ (stored kvs (k : Int) v).length ≤ kvs.length + 1 := by
  unfold stored
  split
  · refine ⟨mv.map fun y => if y.1 = k then (k, x) else y, ?_, ?_, by rw [List.length_map]; omega⟩
    · rename_i hx
      clear hx
      induction h with
      | nil => exact .nil
      | @cons a b l₁ l₂ h t ih =>
        refine .cons ?_ ih
        obtain ⟨k', x'⟩ := a
        obtain ⟨ki, v'⟩ := b
        have e : ki = (k' : Int) := h.1
        subst e
        by_cases hk : k' = k
        · subst hk; simpa using hv
        · have hk2 : ¬ ((k' : Int) = (k : Int)) := fun c => hk (by omega)
          simpa [hk, hk2] using h
    · intro y hy
      obtain ⟨z, hz, rfl⟩ := List.mem_map.mp hy
      by_cases hk : z.1 = k
      · rw [if_pos hk]; exact .inl rfl
      · rw [if_neg hk]; exact .inr hz
  · refine ⟨mv ++ [(k, x)], Paired.append h (.cons hv .nil), ?_, by rw [List.length_append]; exact Nat.le_refl _⟩
    intro y hy
    rcases List.mem_append.mp hy with hy | hy
    · exact .inr hy
    · rw [List.mem_singleton.mp hy]; exact .inl rfl

section
variable {M : Model} {A : Around} {E : Value → Shared → Prop} {s : Shared} {env : Env}
theorem callWith_bi {pos : Pos} {id : String} {e : Expr} {rest : List Expr} {Q : Value → Shared → Prop}
    (h : wpAny M A (spliced (backTo pos (starEach (e :: rest) env))) (fun vs s₁ => wpAny M A (call (.builtin id) vs) Q E s₁) E s)
    (he : starEach (e :: rest) env = (false, eval e env) :: starEach rest env)
    (hplain : (backTo pos (starEach rest env)).any (·.1) = false) :
    wpAny M A (callWith pos (.builtin id) [] (backTo pos (starEach (e :: rest) env)) []) Q E s := by
  rw [he] at h ⊢
  exact Calls.callWith_builtin (by show (false || (backTo pos (starEach rest env)).any (·.1)) = false; rw [hplain]; rfl) (Calls.evalArgs_plain h)
end
/-- what `x == []` asks of a list of ints -/
theorem eqv_ints (ns : List Int) : PyData.eqv (.list (ns.map .int)) (.list []) = ns.isEmpty := by
  cases ns with
  | nil => simp [PyData.eqv, PyData.eqvAll]
  | cons n ns => simp [PyData.eqv, PyData.eqvAll]
theorem canLay_ints : ∀ ns : List Int, PyData.canLayAll0 (ns.map .int) = true
  | [] => rfl
  | n :: ns => by simp [PyData.canLayAll0, PyData.canLay0, canLay_ints ns]
theorem depth_ints : ∀ ns : List Int, PyData.depthAll (ns.map .int) ≤ 1
  | [] => by simp [PyData.depthAll]
  | n :: ns => by
    have := depth_ints ns
    simp only [List.map_cons, PyData.depthAll, PyData.depth]
    omega
theorem shaped_ints (ns : List Int) : PySem.SeqAt.shaped (.list (ns.map .int)) = true := by
  have h2 := depth_ints ns
  unfold PySem.SeqAt.shaped
  rw [PyData.canLay0, canLay_ints, PyData.depth, Bool.true_and]
  exact decide_eq_true (by omega)

theorem Hp.readsL {Z h : Heap} {l : List Ent} {a : Addr} {vs : List Value} {xs : List PyData} {as : List Addr} (H : Hp Z l h) (e : (a, IsLs vs) ∈ l) (r : ReadsAll h vs xs as) : Reads h (.ref a) (.list xs) (a :: as) := by
  obtain ⟨n, hl⟩ := H.isL e
  exact .list hl rfl rfl (by simpa using r)
theorem filter_snoc {p : Int → Bool} {l : List Int} {k : Int} : (l ++ [k]).filter p = l.filter p ++ (if p k = true then [k] else []) := by
  rw [List.filter_append]
  cases h : p k <;> simp [h]
/-- the last of the keys ahead -/
theorem last_key {ns : List Int} {place : Int} (hs : ns.Pairwise (· ≤ ·)) (x : Int) (ah : List Int) (he : ns.filter (fun k => decide (k < place)) = ah ++ [x]) : x ∈ ns ∧ x < place ∧ ∀ k ∈ ns, k < place → k ≤ x := by
  have hm : x ∈ ns.filter (fun k => decide (k < place)) := by rw [he]; simp
  rw [List.mem_filter] at hm
  refine ⟨hm.1, of_decide_eq_true hm.2, fun k hk hlt => ?_⟩
  have hk' : k ∈ ah ++ [x] := by rw [← he, List.mem_filter]; exact ⟨hk, decide_eq_true hlt⟩
  have hp : (ah ++ [x]).Pairwise (· ≤ ·) := by rw [← he]; exact hs.filter _
  rcases List.mem_append.mp hk' with h | h
  · exact (List.pairwise_append.mp hp).2.2 k h x (by simp)
  · rw [List.mem_singleton.mp h]; exact Int.le_refl _

section
variable {prog : Program} {w : World} {A : Around} {E : Value → Shared → Prop} {h : Heap} {g : Array GenState} {d : Drawn} {t : Nat} {o : OsState} {a : Addr} {vs : List Value} {k : Int} {u : Tok} {v : Value} {value slice : Expr} {kvs : List (Int × Value)}
theorem v_neg {x : Int} {t₁ : Tok} {Q : Value → Shared → Prop} (hq : ∀ u t', Q (.int (-x) u) ⟨h, g, d, t', o⟩) : wpAny (model prog w) A (unaryOp .USub (.int x t₁)) Q E ⟨h, g, d, t, o⟩ := by first | exact PySem.P.neg_int (hq _ _) | exact PyProof.Rows.neg_int (hq _ _) | exact neg_int (hq _ _)
/-- `xs[k]`, `k` from the front -/
theorem sub_list {Q : Value → Shared → Prop} (hl : h.IsList a vs.toArray) (h0 : 0 ≤ k) (hfit : k < 2 ^ 63) (hx : vs[k.toNat]? = some v) (hq : Q v ⟨h, g, d, t, o⟩)
    (hs : subscripted slice false (.ref a) (.int k u) = operate [.ref a, .int k u] (getItem (.ref a) (.int k u)) := by with_unfolding_all rfl) :
    wpAny (model prog w) A (subscriptTail value slice (.ref a) (.int k u)) Q E ⟨h, g, d, t, o⟩ :=
  tail_any hl.typeIs PySem.slot_list_getitem.lookup (wpAny_getItem_list hl h0 hfit (by simpa using hx) hq) hs
theorem sub_listN {Q : Value → Shared → Prop} (hl : h.IsList a vs.toArray) (h0 : k < 0) (h1 : -(vs.length : Int) ≤ k) (hfit : -(2 ^ 63) ≤ k) (hx : vs[(k + vs.length).toNat]? = some v) (hq : Q v ⟨h, g, d, t, o⟩)
    (hs : subscripted slice false (.ref a) (.int k u) = operate [.ref a, .int k u] (getItem (.ref a) (.int k u)) := by with_unfolding_all rfl) :
    wpAny (model prog w) A (subscriptTail value slice (.ref a) (.int k u)) Q E ⟨h, g, d, t, o⟩ :=
  tail_any hl.typeIs PySem.slot_list_getitem.lookup (wpAny_getItem_list_neg hl h0 (by simpa using h1) hfit (by simpa using hx) hq) hs
theorem sub_tup {Q : Value → Shared → Prop} (ht : IsTup h a vs.toArray) {j : Nat} (hlo : -(2 ^ 63) ≤ k) (hhi : k < 2 ^ 63) (hj : seqIndex? k vs.length = some j) (hx : vs[j]? = some v) (hq : Q v ⟨h, g, d, t, o⟩)
    (hs : subscripted slice false (.ref a) (.int k u) = operate [.ref a, .int k u] (getItem (.ref a) (.int k u)) := by with_unfolding_all rfl) :
    wpAny (model prog w) A (subscriptTail value slice (.ref a) (.int k u)) Q E ⟨h, g, d, t, o⟩ := item_tupleT ht hlo hhi hj hx hq hs
theorem sub_dict {Q : Value → Shared → Prop} (hd : h.DictOf (intKind prog w) a kvs) (hv : valueAt kvs k = some v) (hq : ∀ t', Q v ⟨h, g, d, t', o⟩)
    (hs : subscripted slice false (.ref a) (.int k u) = operate [.ref a, .int k u] (getItem (.ref a) (.int k u)) := by with_unfolding_all rfl) :
    wpAny (model prog w) A (subscriptTail value slice (.ref a) (.int k u)) Q E ⟨h, g, d, t, o⟩ :=
  tail_any hd.typeIs PySem.slot_dict_getitem.lookup (o_get hd hv hq) hs
/-- unpacking a pair that is frozen -/
theorem assign_twoZ {env : Env} {x y : Str} {px py : Pos} {n : Nat} {tpos : Pos} {Z : Heap} {l : List Ent} {v₁ v₂ : Value} {Q : Unit → Shared → Prop}
    (hh : A.handled = none) (H : Hp Z l h) (e : IsTup Z a [v₁, v₂].toArray)
    (hq : ∀ h', Hp Z l h' → wpAny (model prog w) A (storeName env x v₁) (fun _ s₃ => wpAny (model prog w) A (storeName env y v₂) Q E s₃) E ⟨h', g, d, t, o⟩) :
    wpAny (model prog w) A (assign (.Tuple [.Name x px, .Name y py] n tpos) env (.ref a)) Q E ⟨h, g, d, t, o⟩ := by
  have e' : IsTup h a [v₁, v₂].toArray := e.keeps H.keep
  refine wpAny_assign_Tuple hh e' rfl rfl fun h' x => ?_
  have H' : Hp Z l h' := H.grow fun b o' eb => x b o' (fun c => absurd (c ▸ Heap.lt_size eb) (Nat.lt_irrefl _)) eb
  exact wpAny_assignInOrder_more (wpAny_assign_Name (wpAny_mono (hq h' H') (fun _ _ x => wpAny_assignInOrder_more (wpAny_assign_Name (wpAny_mono x (fun _ _ x => wpAny_assignInOrder_none x) fun _ _ x => x))) fun _ _ x => x))
end
end TMR
section TMT
/-! instances and what they hold -/
def IsIn (C dx : Addr) (sl : List (Option Value)) : Obj → Prop := fun o => o = { cls := .ref C, dict := some dx, data := .plain, slots := sl.toArray }
inductive SdEnts (P : Params) : List DictEntry → List (Str × Value) → Prop
  | nil : SdEnts P [] []
  | cons (x : Str) (t : Tok) (v : Value) {es : List DictEntry} {kvs : List (Str × Value)} : SdEnts P es kvs → SdEnts P (⟨PyData.keyHash P x, .str x t, v⟩ :: es) ((x, v) :: kvs)
def IsSd (P : Params) (kvs : List (Str × Value)) : Obj → Prop := fun o => ∃ es ep, o = { cls := .type "dict", data := .dict es.toArray ep } ∧ SdEnts P es kvs
def putS : List (Str × Value) → Str → Value → List (Str × Value)
  | [], x, v => [(x, v)]
  | (y, u) :: r, x, v => if y = x then (y, v) :: r else (y, u) :: putS r x v

theorem IsSd.look {P : Params} {kvs : List (Str × Value)} {x : Str} {v : Value} {o : Obj} (h : IsSd P kvs o) (e : kvs.lookup x = some v) : lookIn x o = some (some v) := by
  obtain ⟨es, ep, rfl, hs⟩ := h
  have key : ∃ en, es.find? (·.key.isStr x) = some en ∧ en.val = v := by
    clear ep
    induction hs with
    | nil => simp at e
    | @cons y t u es kvs hs ih =>
      by_cases hy : y = x
      · subst hy
        refine ⟨_, List.find?_cons_of_pos (by simp [Value.isStr]), ?_⟩
        simpa using e
      · have hb : (x == y) = false := by rw [beq_eq_false_iff_ne]; exact fun c => hy c.symm
        rw [List.lookup_cons, hb] at e
        obtain ⟨en, h1, h2⟩ := ih e
        exact ⟨en, by rw [List.find?_cons_of_neg (by simpa [Value.isStr] using hy)]; exact h1, h2⟩
  obtain ⟨en, h1, h2⟩ := key
  unfold lookIn
  simp only []
  rw [h1]
  simp [h2]
theorem SdEnts.put {P : Params} {x : Str} {t : Tok} {v : Value} : ∀ {es : List DictEntry} {kvs : List (Str × Value)}, SdEnts P es kvs →
    SdEnts P (nsPutIn x.cps.size x.cps.toList (fun | some e => { e with val := v } | none => ⟨PyData.keyHash P x, .str x t, v⟩) es).1 (putS kvs x v) ∧
    (nsPutIn x.cps.size x.cps.toList (fun | some e => { e with val := v } | none => ⟨PyData.keyHash P x, .str x t, v⟩) es).1.length ≤ es.length + 1
  | _, _, .nil => ⟨.cons x t v .nil, Nat.le_refl _⟩
  | _, _, .cons y t' u (es := es) (kvs := kvs) hs => by
    obtain ⟨ih, ih2⟩ := SdEnts.put (t := t) (v := v) hs
    unfold nsPutIn
    rw [Value.isStrByCps_eq]
    by_cases hy : y = x
    · have hb : (Value.str y t').isStr x = true := by simp [Value.isStr, hy]
      simp only [hb, if_true, putS, if_pos hy]
      exact ⟨.cons y t' v hs, by simp⟩
    · have hb : (Value.str y t').isStr x = false := by simp [Value.isStr, hy]
      simp only [hb, putS, if_neg hy]
      exact ⟨.cons y t' u ih, by simpa using ih2⟩
theorem IsSd.put {P : Params} {kvs : List (Str × Value)} {x : Str} {t : Tok} {v : Value} {o : Obj} (h : IsSd P kvs o) : ∃ es ep, Obj.putName x (PyData.keyHash P x) (.str x t) v o = { cls := .type "dict", data := .dict es.toArray ep } ∧ SdEnts P es (putS kvs x v) := by
  obtain ⟨es, ep, rfl, hs⟩ := h
  have hp := (hs.put (x := x) (t := t) (v := v)).1
  unfold Obj.putName
  simp only []
  generalize nsPutIn _ _ _ es = r at hp
  obtain ⟨r1, r2⟩ := r
  cases r2 with
  | true => exact ⟨_, _, rfl, hp⟩
  | false => exact ⟨_, _, rfl, hp⟩
theorem SdEnts.length {P : Params} : ∀ {es : List DictEntry} {kvs : List (Str × Value)}, SdEnts P es kvs → es.length = kvs.length
  | _, _, .nil => rfl
  | _, _, .cons _ _ _ h => by simp [h.length]

/-! the ledger of another book: all that stands but `x` and the frame -/
theorem book {Z h : Heap} {l : List Ent} {L x : Addr} {m : Str → Option Value} {ox : Obj} (H : Hp Z l h) (hL : (L, IsFr m) ∈ l) (hx : h.get? x = some ox) (hxL : x ≠ L) :
    ∃ pre : List (Addr × Obj), (∀ p ∈ pre, p.1 ≠ x) ∧ Fr {} L h m ∧ News {} L h (pre ++ (x, ox) :: []) ∧ ∀ b o, b ≠ x → b ≠ L → h.get? b = some o → (b, o) ∈ pre := by
  have none_ : ∀ b, ({} : Heap).get? b = none := fun b => by rfl
  refine ⟨(List.range h.objs.size).filterMap fun b => (h.get? b).bind fun o => if b = x ∨ b = L then none else some (b, o), fun p hp => ?_, ⟨H.ns hL, fun b o e => (by rw [none_] at e; cases e), Nat.zero_le _⟩, fun p hp => ?_, fun b o h1 h2 e => ?_⟩
  · obtain ⟨b, _, e⟩ := List.mem_filterMap.mp hp
    obtain ⟨o, e1, e2⟩ := Option.bind_eq_some_iff.mp e
    split at e2
    · cases e2
    · rename_i hn; cases e2; exact fun c => hn (.inl c)
  · rcases List.mem_append.mp hp with hp | hp
    · obtain ⟨b, _, e⟩ := List.mem_filterMap.mp hp
      obtain ⟨o, e1, e2⟩ := Option.bind_eq_some_iff.mp e
      split at e2
      · cases e2
      · rename_i hn; cases e2; exact ⟨e1, fun c => hn (.inr c), none_ _⟩
    · rw [List.mem_singleton.mp hp]; exact ⟨hx, hxL, none_ _⟩
  · refine List.mem_filterMap.mpr ⟨b, List.mem_range.mpr (Heap.lt_size e), ?_⟩
    rw [e]
    simp [h1, h2]
theorem ent_unique {l : List Ent} (nd : (l.map (·.1)).Nodup) {p q : Ent} (hp : p ∈ l) (hq : q ∈ l) (e : p.1 = q.1) : p = q := by
  induction l with
  | nil => cases hp
  | cons r l ih =>
    rw [List.map_cons, List.nodup_cons] at nd
    rcases List.mem_cons.mp hp with h1 | h1
    · rcases List.mem_cons.mp hq with h2 | h2
      · rw [h1, h2]
      · exact absurd (List.mem_map.mpr ⟨q, h2, by rw [← e, h1]⟩) nd.1
    · rcases List.mem_cons.mp hq with h2 | h2
      · exact absurd (List.mem_map.mpr ⟨p, h1, by rw [e, h2]⟩) nd.1
      · exact ih nd.2 h1 h2
theorem Hp.back {Z h h' : Heap} {l l' : List Ent} {L x : Addr} {m : Str → Option Value} {p p' : Obj → Prop} {ox' : Obj} {pre : List (Addr × Obj)} (H : Hp Z l h) (T : Turn x p p' l l') (hL : (L, IsFr m) ∈ l) (hxL : x ≠ L)
    (F : Fr {} L h' m) (N : News {} L h' (pre ++ (x, ox') :: [])) (all : ∀ b o, b ≠ x → b ≠ L → h.get? b = some o → (b, o) ∈ pre) (hp : p' ox') : Hp Z l' h' := by
  have ox : h'.get? x = some ox' := (N (x, ox') (by simp)).1
  have k : ∀ b o, b ≠ x → b ≠ L → h.get? b = some o → h'.get? b = some o := fun b o h1 h2 e => (N (b, o) (List.mem_append_left _ (all b o h1 h2 e))).1
  obtain ⟨oL, eL, fL⟩ := IsFr.of_ns F.ns
  have hz : ∀ q ∈ l, Z.get? q.1 = Option.none := H.off
  obtain ⟨i, e1, rfl⟩ := T.idx
  have mx : (x, p) ∈ l := List.mem_of_getElem? e1
  have hmap : (l.set i (x, p')).map (·.1) = l.map (·.1) := by
    rw [List.map_set]
    refine List.ext_getElem? fun j => ?_
    rw [List.getElem?_set]
    split
    · rename_i hj
      subst hj
      split
      · rw [List.getElem?_map, e1]; rfl
      · rename_i hz'; rw [List.length_map] at hz'; exact absurd (List.getElem?_eq_some_iff.mp e1).1 hz'
    · rfl
  have nd' : ((l.set i (x, p')).map (·.1)).Nodup := hmap ▸ H.nd
  have mx' : (x, p') ∈ l.set i (x, p') := List.mem_of_getElem? (i := i) (by rw [List.getElem?_set_self (List.getElem?_eq_some_iff.mp e1).1])
  refine ⟨fun b o e => k b o (fun c => ?_) (fun c => ?_) (H.keep b o e), fun q hq => ?_, fun q hq => ?_, nd'⟩
  · have := hz _ mx; rw [← c, e] at this; cases this
  · have := hz _ hL; rw [← c, e] at this; cases this
  · by_cases hqx : q.1 = x
    · rw [ent_unique nd' hq mx' hqx]; exact ⟨ox', ox, hp⟩
    · rcases List.mem_or_eq_of_mem_set hq with hq | hq
      · by_cases hqL : q.1 = L
        · rw [ent_unique H.nd hq hL hqL]; exact ⟨oL, eL, fL⟩
        · obtain ⟨o, e, f⟩ := H.here q hq
          exact ⟨o, k _ _ hqx hqL e, f⟩
      · rw [hq] at hqx; exact absurd rfl hqx
  · have : q.1 ∈ l.map (·.1) := hmap ▸ mem_of_map hq
    obtain ⟨q', hq', e'⟩ := List.mem_map.mp this
    rw [← e']; exact hz q' hq'
end TMT
section TMU
theorem Ok.under {n : Nat} {A : Around} {C : Addr} {rest : List Value} {kw : List (Str × Value)} (x : Ok n A) : Ok (n + 1) (A.under (.builtin "type.__call__" ⟨.ref C :: rest, kw⟩)) := by
  have w1 : (Code.builtin "type.__call__" ⟨.ref C :: rest, kw⟩).weight = 1 := by rfl
  have w2 : (Code.builtin "type.__call__" ⟨.ref C :: rest, kw⟩).cUnits = 1 := by rfl
  refine ⟨x.h, ?_, ?_⟩
  · have := x.d; show A.depth + (Code.builtin "type.__call__" ⟨.ref C :: rest, kw⟩).weight ≤ _; rw [w1]; omega
  · have := x.u; show A.units + (Code.builtin "type.__call__" ⟨.ref C :: rest, kw⟩).cUnits ≤ _; rw [w2]; omega

theorem SdEnts.noRef {P : Params} {es : List DictEntry} {kvs : List (Str × Value)} (h0 : SdEnts P es kvs) : es.any (·.refKey) = false := by
  induction h0 with
  | nil => rfl
  | cons y t' u hs ih => simp only [List.any_cons, ih, Bool.or_false]; rfl
theorem putS_length {name : Str} {v : Value} : ∀ kvs : List (Str × Value), (putS kvs name v).length ≤ kvs.length + 1
  | [] => Nat.le_refl _
  | (y, u) :: r => by
    have ih := putS_length (name := name) (v := v) r
    unfold putS
    split
    · simp
    · simp only [List.length_cons]; omega

theorem Hp.apart {Z h : Heap} {l r : List Ent} {p q : Ent} (H : Hp Z l h) (P : Pick p l r) (m : q ∈ r) : p.1 ≠ q.1 := fun c => by
  have nd := (H.pick P).nd
  rw [List.map_cons, List.nodup_cons] at nd
  exact nd.1 (List.mem_map.mpr ⟨q, m, c.symm⟩)

section
variable {prog : Program} {w : World} {A : Around} {E : Value → Shared → Prop} {R : Result → Shared → Prop} {Z h : Heap} {g : Array GenState} {d : Drawn} {t : Nat} {o : OsState} {l l' : List Ent} {x dx C L : Addr} {m : Str → Option Value} {sl : List (Option Value)}
  {name : Str} {v : Value} {kvs : List (Str × Value)} {attr : Option Value} {expr : Bool}

theorem inst_at {od : Obj} (hx : ∃ ob, h.get? x = some ob ∧ IsIn C dx sl ob) (hd : h.get? dx = some od) : InstAt h x { cls := .ref C, dict := some dx, data := .plain, slots := sl.toArray } C (some od) := by
  obtain ⟨_, e, rfl⟩ := hx
  exact ⟨e, rfl, rfl, hd⟩
theorem get_dictH {Q : Value → Shared → Prop} (X : (KK w.params).In h) (hx : ∃ ob, h.get? x = some ob ∧ IsIn C dx sl ob) (hd : ∃ od, h.get? dx = some od ∧ IsSd w.params kvs od) (hv : kvs.lookup name = some v)
    (hg : plainGet (KK w.params) C name = true) (hh : hasDictIn (KK w.params) C = true) (ha : findIn (KK w.params) (.ref C) name = some attr) (hn : noGet (KK w.params) attr = true) (hi : handedIn v = true)
    (hq : ∀ t', Q v ⟨h, g, d, t', o⟩) : wpAny (model prog w) A (getAttr (.ref x) name expr) Q E ⟨h, g, d, t, o⟩ := by
  obtain ⟨od, ed, hs⟩ := hd
  exact get_value (s := ⟨h, g, d, t, o⟩) X (inst_at hx ed) (plainGet_of hg).1 (findObj_own hh ha hn (hs.look hv)) hi (hq _)
theorem get_slotH {Q : Value → Shared → Prop} {od : Obj} {p : Addr} {i : Nat} (X : (KK w.params).In h) (hx : ∃ ob, h.get? x = some ob ∧ IsIn C dx sl ob) (hd : h.get? dx = some od)
    (hg : plainGet (KK w.params) C name = true) (hc : isClsIn (KK w.params) C = true) (ha : findIn (KK w.params) (.ref C) name = some (some (.ref p))) (hn : specialIn (KK w.params) (.ref p) "__get__" = some (some (.builtin "member_descriptor.__get__")))
    (ht : takesIn (KK w.params) (.ref p) = some true) (hp : slotIn (KK w.params) p C = some i) (hv : sl[i]? = some (some v)) (hi : handedIn v = true)
    (hq : ∀ t', Q v ⟨h, g, d, t', o⟩) : wpAny (model prog w) A (getAttr (.ref x) name expr) Q E ⟨h, g, d, t, o⟩ := by
  have I := inst_at hx hd
  exact get_bind (s := ⟨h, g, d, t, o⟩) X I (plainGet_of hg).1 (findObj_data hc ha hn ht) (plainGet_of hg).2 (wpAny_call (slot_get (s := ⟨h, g, d, t + 1, o⟩) X I hp (v := v) (by simp [hv]) (handed_on hi (hq _))))
theorem set_dictH {Q : Unit → Shared → Prop} (X : (KK w.params).In h) (H : Hp Z l h) (hL : (L, IsFr m) ∈ l) (hx : ∃ ob, h.get? x = some ob ∧ IsIn C dx sl ob) (T : Turn dx (IsSd w.params kvs) (IsSd w.params (putS kvs name v)) l l') (hdL : dx ≠ L)
    (hs : findIn (KK w.params) (.ref C) "__setattr__" = some (some (.builtin "object.__setattr__"))) (hp : plainOver (KK w.params) C = true) (ht : takerIn (KK w.params) C name = some none) (hh : (clsIn (KK w.params) C).any (·.hasDict) = true)
    (hz : kvs.length ≤ 100) (hq : ∀ h' t', Hp Z l' h' → Q () ⟨h', g, d, t', o⟩) : wpAny (model prog w) A (setAttr (.ref x) name v) Q E ⟨h, g, d, t, o⟩ := by
  obtain ⟨od, ed, hsd⟩ := H.here _ T.mem
  have I := inst_at hx ed
  obtain ⟨pre, a1, F, N, all⟩ := book H hL ed hdL
  obtain ⟨es, ep, e1, e2⟩ := hsd.put (x := name) (t := t + 1) (v := v)
  have hl : (lookIn name od).isSome = true := by
    obtain ⟨es₀, ep₀, rfl, h0⟩ := hsd
    have hnr := h0.noRef
    unfold lookIn
    simp only []
    split
    · rfl
    · rw [hnr]; rfl
  have hlen : es.length ≤ 101 := by
    rw [e2.length]
    exact Nat.le_trans (putS_length kvs) (by omega)
  refine set_plain (s := ⟨h, g, d, t, o⟩) X I hs ?_
  refine osa_dict (s := ⟨h, g, d, t + 1, o⟩) (pre := pre) (post := []) (n := ep) F N X I rfl hp ht hh hl a1 (fun _ hm => by cases hm) e1 rfl (by omega) fun h' F' N' => ?_
  exact hq h' _ (H.back T hL hdL F' N' all ⟨es, ep, rfl, e2⟩)
theorem set_slotH {Q : Unit → Shared → Prop} {od : Obj} {p : Addr} {i : Nat} {sl' : List (Option Value)} (X : (KK w.params).In h) (H : Hp Z l h) (hL : (L, IsFr m) ∈ l) (T : Turn x (IsIn C dx sl) (IsIn C dx sl') l l') (hxL : x ≠ L) (hd : h.get? dx = some od)
    (hs : findIn (KK w.params) (.ref C) "__setattr__" = some (some (.builtin "object.__setattr__"))) (hp : plainOver (KK w.params) C = true) (ht : takerIn (KK w.params) C name = some (some (.ref p))) (hT : typeIn (KK w.params) (.ref p) = some (.type "member_descriptor")) (hi : slotIn (KK w.params) p C = some i) (hz : i < 1000)
    (e : (sl.toArray ++ Array.replicate (i + 1 - sl.toArray.size) none).setIfInBounds i (some v) = sl'.toArray)
    (hq : ∀ h' t', Hp Z l' h' → Q () ⟨h', g, d, t', o⟩) : wpAny (model prog w) A (setAttr (.ref x) name v) Q E ⟨h, g, d, t, o⟩ := by
  obtain ⟨ob, eo, hob⟩ := H.here _ T.mem
  have I := inst_at ⟨ob, eo, hob⟩ hd
  subst hob
  obtain ⟨pre, a1, F, N, all⟩ := book H hL eo hxL
  refine set_plain (s := ⟨h, g, d, t, o⟩) X I hs ?_
  refine osa_descr (s := ⟨h, g, d, t + 1, o⟩) KF.slot_mset X I hp ht hT (slot_set (s := ⟨h, g, d, t + 1, o⟩) (pre := pre) (post := []) F N X I hi hz a1 (fun _ hm => by cases hm) (by rw [e]) rfl fun h' F' N' => ?_)
  exact hq h' _ (H.back T hL hxL F' N' all rfl)

/-- a class is called: the new object and its dict join the ledger -/
theorem make_inst {rest : List Value} {fI : Addr} (X : (KK w.params).In h) (H : Hp Z l h) (hm : makesIn (KK w.params) C = true)
    (hi : findIn (KK w.params) (.ref C) "__init__" = some (some (.ref fI))) (hf : typeIn (KK w.params) (.ref fI) = some (.type "function"))
    (hq : ∀ x dx h', Hp Z ((x, IsIn C dx []) :: (dx, IsSd w.params []) :: l) h' →
      codeAny (model prog w) (A.under (.builtin "type.__call__" ⟨.ref C :: rest, []⟩)) (.call (.ref fI) ⟨.ref x :: rest, []⟩) (InitBack x R) ⟨h', g, d, t, o⟩) :
    codeAny (model prog w) A (.call (.ref C) ⟨rest, []⟩) R ⟨h, g, d, t, o⟩ := by
  refine make_core (makes_of X hm) (looks_findIn X hi) (fun self => bind_fn X self hf) (.inl rfl) (hq (h.objs.size + 1) h.objs.size _ ?_)
  have e1 := Heap.get?_push_size (h.push emptyDict) (o := instObj C h.objs.size) rfl
  rw [Heap.size_push] at e1
  exact H.add2 (fun b o x => Heap.get?_push_of_some _ (Heap.get?_push_of_some _ x)) (Nat.le_succ _) (Nat.le_refl _) (Nat.succ_ne_self _) ⟨_, e1, rfl⟩ ⟨_, Heap.get?_push_of_some _ (Heap.get?_push_size _ rfl), [], _, rfl, .nil⟩
end
end TMU
section TMV
/-! tabs widened: in plain lists, and then the method -/
def stepX (c : Nat) (x : Array Nat × Nat) : Array Nat × Nat := if c = 9 then (x.1 ++ Array.replicate (8 - x.2 % 8) 32, x.2 + (8 - x.2 % 8)) else (x.1.push c, if (c == 10 || c == 13) = true then 0 else x.2 + 1)
def expandTo (cs : List Nat) (x : Array Nat × Nat) : Array Nat × Nat := cs.foldl (fun x c => stepX c x) x
theorem stepX_size (c : Nat) (x : Array Nat × Nat) : (stepX c x).1.size ≤ x.1.size + 8 := by
  unfold stepX; split
  · rw [Array.size_append, Array.size_replicate]; omega
  · rw [Array.size_push]; omega

theorem forIn_expand {M : Model} {A : Around} {E : Value → Shared → Prop} {s : Shared} {f : Nat → Array Nat × Nat → Sem (ForInStep (Array Nat × Nat))}
    (hf : ∀ c x (Q : ForInStep (Array Nat × Nat) → Shared → Prop), x.1.size ≤ 1000 → Q (.yield (stepX c x)) s → wpAny M A (f c x) Q E s) :
    ∀ (cs : List Nat) (x : Array Nat × Nat) (Q : Array Nat × Nat → Shared → Prop), x.1.size + 8 * cs.length ≤ 1000 → Q (expandTo cs x) s → wpAny M A (forIn cs x f) Q E s
  | [], x, Q, _, hq => by rw [List.forIn_nil]; exact wpAny_pure hq
  | c :: cs, x, Q, hz, hq => by
    rw [List.forIn_cons]
    rw [List.length_cons] at hz
    refine wpAny_bind (hf c x _ (by omega) ?_)
    exact forIn_expand hf cs _ Q (by have := stepX_size c x; omega) hq

def expandS (x : Str) : Str := if x.cps.contains 9 then ⟨(expandTo x.cps.toList (#[], 0)).1⟩ else x

theorem expandTo_size : ∀ (cs : List Nat) (x : Array Nat × Nat), (expandTo cs x).1.size ≤ x.1.size + 8 * cs.length
  | [], _ => Nat.le_refl _
  | c :: cs, x => by
    have h1 := expandTo_size cs (stepX c x)
    have h2 := stepX_size c x
    show (expandTo cs (stepX c x)).1.size ≤ _
    rw [List.length_cons]; omega

set_option maxHeartbeats 1000000 in
theorem meets_expand (x : Str) (t : Tok) (hz : x.cps.size ≤ 100) : Meets (Builtin.«str.expandtabs» ⟨[.str x t], []⟩) (fun _ R s => ∀ u tk, R (.ok (.ret (.str (expandS x) u))) { s with toks := tk }) :=
  .of_wp fun prog w A R s h => by
    obtain ⟨hp, g, d, tk, os⟩ := s
    have hs : sizeLine = 2 ^ 24 := rfl
    wp_walk
    cases hc : x.cps.contains 9 with
    | false =>
      have e : expandS x = x := by unfold expandS; rw [hc]; rfl
      rw [e] at h
      simp only [Bool.not_false, if_true]
      wp_walk
      exact ⟨_, rfl, h t tk⟩
    | true =>
      have e : expandS x = ⟨(expandTo x.cps.toList (#[], 0)).1⟩ := by unfold expandS; rw [hc]; rfl
      rw [e] at h
      simp only [Bool.not_true, Bool.false_eq_true, if_false]
      rw [← Array.forIn_toList]
      have hl : x.cps.toList.length ≤ 100 := by simpa using hz
      refine wpAny_bind (forIn_expand (fun c x Q hx hq => ?_) _ _ _ (by show 0 + _ ≤ _; omega) ?_)
      · obtain ⟨out, col⟩ := x
        by_cases h9 : c = 9
        · subst h9
          rw [if_pos (by rfl)]
          have ht : Builtin.Str.tooLong (out.size + (8 - col % 8)) = false := by
            unfold Builtin.Str.tooLong
            exact decide_eq_false (by show ¬ (out.size + (8 - col % 8) > sizeLine); have : out.size ≤ 1000 := hx; omega)
          rw [if_neg (by show ¬ (Builtin.Str.tooLong (out.size + (8 - col % 8)) = true); rw [ht]; exact Bool.false_ne_true)]
          exact wpAny_pure hq
        · rw [if_neg (by simpa using h9)]
          have e2 : stepX c (out, col) = (out.push c, if (c == 10 || c == 13) = true then 0 else col + 1) := by unfold stepX; rw [if_neg h9]
          rw [e2] at hq
          exact wpAny_pure hq
      · have h1 := expandTo_size x.cps.toList (#[], 0)
        have h2 : (#[] : Array Nat).size = 0 := rfl
        show wpAny _ _ (mkStr _ >>= fun v => ret v) _ _ _
        exact wpAny_bind (wpAny_mkStr (wpAny_pure ⟨_, rfl, h _ _⟩) (by show (expandTo x.cps.toList (#[], 0)).1.size ≤ sizeLine; simp only [] at h1; omega))

section
variable {prog : Program} {w : World} {A : Around} {E : Value → Shared → Prop} {h : Heap} {g : Array GenState} {d : Drawn} {t : Nat} {o : OsState} {x : Str} {u : Tok}
theorem v_expand {Q : Value → Shared → Prop} (hz : x.cps.size ≤ 100) (hq : ∀ u t', Q (.str (expandS x) u) ⟨h, g, d, t', o⟩) : wpAny (model prog w) A (call (.builtin "str.expandtabs") [.str x u]) Q E ⟨h, g, d, t, o⟩ :=
  call_meets PySem.F.slot_str_expandtabs (typeIs_str _ _ _) PySem.F.entry_str_expandtabs (PySem.F.args_str_expandtabs_1 _) (meets_expand x u hz) (fun u' tk => hq u' tk)
theorem m_expand {M : Model} {pl : Sem Bool} {Q : Value × List Value → Shared → Prop} (hq : Q (.builtin "str.expandtabs", [.str x u]) ⟨h, g, d, t, o⟩) : wpAny M A (getMethod (.str x u) "expandtabs" pl) Q E ⟨h, g, d, t, o⟩ := by
  with_reducible exact PySem.GM.of (.str x u) (typeIs_str _ _ _) PySem.F.slot_str_expandtabs PySem.F.type_str_expandtabs PySem.GM.noRef hq
end
end TMV
section TMW
/-- a line as the law makes one, as a list -/
def LnOk (ln : List Nat) : Prop := ∃ body nl, ln = body ++ nl ∧ body.length ≤ 4 ∧ (∀ c ∈ body, c ≠ 10 ∧ c ≠ 13 ∧ c < 0x110000) ∧ (nl = [] ∨ nl = [10])
theorem LnOk.length {ln : List Nat} (h : LnOk ln) : ln.length ≤ 5 := by
  obtain ⟨body, nl, rfl, h1, _, h2⟩ := h
  rw [List.length_append]
  rcases h2 with rfl | rfl
  · simp; omega
  · simp; omega

theorem expandTo_append (cs : List Nat) (c : Nat) (x : Array Nat × Nat) : expandTo (cs ++ [c]) x = stepX c (expandTo cs x) := by
  unfold expandTo; rw [List.foldl_append]; rfl
theorem expandTo_laid : ∀ (cs : List Nat) (out : Array Nat) (col : Nat), (∀ c ∈ cs, c ≠ 10 ∧ c ≠ 13) →
    expandTo cs (out, col) = ((out.toList ++ (laidLine cs (col + 1)).map (·.2)).toArray, colEnd cs (col + 1) - 1)
  | [], out, col, _ => by simp [expandTo, laidLine, colEnd]
  | c :: cs, out, col, h => by
    have ih := fun out col => expandTo_laid cs out col fun y hy => h y (.tail _ hy)
    have hc := h c (.head _)
    show expandTo cs (stepX c (out, col)) = _
    by_cases h9 : c = 9
    · subst h9
      have e1 : stepX 9 (out, col) = (out ++ Array.replicate (8 - col % 8) 32, col + (8 - col % 8)) := by unfold stepX; rw [if_pos rfl]
      have e2 : wideOf (col + 1) 9 = 8 - col % 8 := by unfold wideOf; rw [if_pos rfl]; rfl
      have e3 : (blockOf (col + 1) 9).map (·.2) = List.replicate (8 - col % 8) 32 := by
        unfold blockOf; rw [e2, List.map_map]
        refine List.ext_getElem (by simp) fun i h1 h2 => by simp [showOf]
      rw [e1, ih]
      show _ = ((out.toList ++ (blockOf (col + 1) 9 ++ laidLine cs (col + 1 + wideOf (col + 1) 9)).map (·.2)).toArray, colEnd cs (col + 1 + wideOf (col + 1) 9) - 1)
      rw [List.map_append, e3, e2, show col + 1 + (8 - col % 8) = col + (8 - col % 8) + 1 by omega]
      simp
    · have e1 : stepX c (out, col) = (out.push c, col + 1) := by unfold stepX; rw [if_neg h9]; simp [hc.1, hc.2]
      have e2 : wideOf (col + 1) c = 1 := by unfold wideOf; rw [if_neg h9]
      have e3 : (blockOf (col + 1) c).map (·.2) = [c] := by unfold blockOf; rw [e2]; simp [showOf, h9]
      rw [e1, ih]
      show _ = ((out.toList ++ (blockOf (col + 1) c ++ laidLine cs (col + 1 + wideOf (col + 1) c)).map (·.2)).toArray, colEnd cs (col + 1 + wideOf (col + 1) c) - 1)
      rw [List.map_append, e3, e2]
      simp
theorem laid_noTab : ∀ (cs : List Nat) (col : Nat), 9 ∉ cs → (laidLine cs col).map (·.2) = cs
  | [], _, _ => rfl
  | c :: cs, col, h => by
    have h9 : c ≠ 9 := fun e => h (e ▸ .head _)
    have e2 : wideOf col c = 1 := by unfold wideOf; rw [if_neg h9]
    have e3 : (blockOf col c).map (·.2) = [c] := by unfold blockOf; rw [e2]; simp [showOf, h9]
    show (blockOf col c ++ laidLine cs _).map (·.2) = _
    rw [List.map_append, e3, laid_noTab cs _ fun hm => h (.tail _ hm)]; rfl
theorem expand_ln {ln : List Nat} (h : LnOk ln) : expandS ⟨ln.toArray⟩ = ⟨((laidLine ln 1).map (·.2)).toArray⟩ := by
  unfold expandS
  cases hc : (⟨ln.toArray⟩ : Str).cps.contains 9 with
  | false =>
    have hn : 9 ∉ ln := by intro hm; have : (⟨ln.toArray⟩ : Str).cps.contains 9 = true := by simpa using hm
                           rw [this] at hc; cases hc
    rw [if_neg Bool.false_ne_true, laid_noTab _ _ hn]
  | true =>
    rw [if_pos rfl]
    obtain ⟨body, nl, rfl, h1, h2, h3⟩ := h
    have h2' : ∀ c ∈ body, c ≠ 10 ∧ c ≠ 13 := fun c hc => ⟨(h2 c hc).1, (h2 c hc).2.1⟩
    congr 1
    show (expandTo (body ++ nl) (#[], 0)).1 = _
    rcases h3 with rfl | rfl
    · rw [List.append_nil, expandTo_laid _ _ _ h2']; simp
    · rw [expandTo_append, expandTo_laid _ _ _ h2', laidLine_append]
      have e2 : ∀ k, wideOf k 10 = 1 := fun k => by unfold wideOf; rw [if_neg (by decide)]
      have e3 : ∀ k, (blockOf k 10).map (·.2) = [10] := fun k => by unfold blockOf; rw [e2]; simp [showOf]
      rw [List.map_append, e3]
      unfold stepX
      rw [if_neg (by decide)]
      simp
theorem laid_col : ∀ (cs : List Nat) (col i : Nat) (x : Nat × Nat), (laidLine cs col)[i]? = some x → x.1 = col + i
  | [], _, _, _, h => by simp [laidLine] at h
  | c :: cs, col, i, x, h => by
    have hb : (blockOf col c).length = wideOf col c := by unfold blockOf; simp
    have h' : (blockOf col c ++ laidLine cs (col + wideOf col c))[i]? = some x := h
    by_cases hi : i < (blockOf col c).length
    · rw [List.getElem?_append_left hi] at h'
      unfold blockOf at h'
      rw [List.getElem?_map] at h'
      obtain ⟨k, e1, e2⟩ := Option.map_eq_some_iff.mp h'
      have hik : i < wideOf col c := hb ▸ hi
      rw [List.getElem?_range hik] at e1
      cases e1
      rw [← e2]
    · rw [List.getElem?_append_right (Nat.le_of_not_lt hi)] at h'
      have := laid_col cs (col + wideOf col c) (i - (blockOf col c).length) x h'
      rw [this, hb]
      have : wideOf col c ≤ i := by rw [← hb]; exact Nat.le_of_not_lt hi
      omega
end TMW
section TMX
open PySem.W.X
/-! a generator's body: structural rules over SegX -/
section
variable {prog : Program} {w : World} {A : Around} {c : Code} {fs : List Frame} {P : End → Shared → Prop} {s : Shared} {env : Env}
  {K : Flow → Sem Fin} {H : Value → Sem Fin} {gd : Bool → Bool} {lv : List Value → List Value}

theorem g_wrap {α : Type} {m : Sem α} {K : α → Sem Fin} {H : Value → Sem Fin} {gd : Bool → Bool} {lv : List Value → List Value}
    (h : wpAny (model prog w) (A.over c fs) m (fun a s' => SegX (model prog w) A c (K a) fs s' P) (fun _ _ => False) s) : SegX (model prog w) A c (m.wrap K H gd lv) fs s P := by
  rintro Γ p rfl hΓ
  obtain ⟨e, s', hr, hq⟩ := runs_wrap_of_wp (Φ := fun e s' => e.quiet = true ∧ P e s') K H gd lv m (h (Γ.over fs) p (hΓ.over fs)) (fun a p' s' h' => h' Γ p' rfl hΓ) (fun x p' s' h' => h'.elim)
  exact ⟨e, s', hr, hq⟩
theorem g_bind {α β : Type} {m : Sem α} {f : α → Sem β} {K : β → Sem Fin}
    (h : wpAny (model prog w) (A.over c fs) m (fun a s' => SegX (model prog w) A c ((f a).wrap K H gd lv) fs s' P) (fun _ _ => False) s) : SegX (model prog w) A c ((m >>= f).wrap K H gd lv) fs s P := by
  rw [Sem.bind_eq_wrap', Sem.wrap_wrap]; exact g_wrap h
theorem g_execs_cons {st : Stmt} {rest : List Stmt}
    (h : SegX (model prog w) A c ((exec st env).wrap (fun f => match f with | .next => (execs rest env).wrap K H gd lv | f => K f) H gd lv) fs s P) :
    SegX (model prog w) A c ((execs (st :: rest) env).wrap K H gd lv) fs s P := by rw [execs_cons_wrap]; exact h
theorem g_at {p' : Pos} {k : Unit → Sem Fin} (h : SegX (model prog w) A c (k ()) fs s P) : SegX (model prog w) A c (.at p' k) fs s P :=
  g_wrap (m := standAt p') (K := k) (H := .raise) (gd := id) (lv := id) (wpAny_standAt h)
theorem g_point {l : List Value} {k : Unit → Sem Fin} (h : SegX (model prog w) A c (k ()) fs s P) : SegX (model prog w) A c (.point l k) fs s P :=
  g_wrap (m := point) (K := k) (H := .raise) (gd := id) (lv := fun _ => l) (wpAny_point h)

theorem g_Expr_Yield {e : Expr} {ypos pos : Pos} (hfs : splitAtGen fs = none) (hgd : gd false = false) (hfg : fs.any Frame.guarded = false)
    (h : wpAny (model prog w) (A.over c fs) (eval e env) (fun v s' => ∀ l k p, (∀ A' s'' P', SegX (model prog w) A' c (K .next) fs s'' P' → SegX (model prog w) A' c (k (.send .none)) fs s'' P') → P (.susp v false l k c p fs) s')
      (fun _ _ => False) s) (hco : env.scope.isCoroutine = false := by rfl) (hi : interactive env = false := by rfl) :
    SegX (model prog w) A c ((exec (.Expr (.Yield (some e) ypos) pos) env).wrap K H gd lv) fs s P := by
  rw [exec_Expr env _ pos hi rfl]
  show SegX _ A c (.at pos fun _ => ((eval e env >>= fun v => (standAt ypos >>= fun _ => yieldOut env v)) >>= fun x =>
    dropValue (.Yield (some e) ypos) pos x).wrap K H gd lv) fs s P
  have hy : ∀ v, yieldOut env v = yieldValue v := fun v => by simp only [yieldOut, hco, Bool.false_eq_true, if_false]
  simp only [hy]
  refine g_at ?_
  rw [Sem.bind_eq_wrap', Sem.bind_eq_wrap', Sem.wrap_wrap, Sem.wrap_wrap]
  refine g_wrap (wpAny_mono h (fun v s' h' => ?_) fun _ _ x => x)
  refine g_at ?_
  have hg : (gd false) = false := hgd
  show SegX _ A c (.yield v (gd false) _ _) fs s' P
  rw [hg]
  refine s_yield prog w A c fs P s' v _ _ hfs hfg fun p => ?_
  exact h' _ _ p (fun A' s'' P' x => x)
end

section
variable {prog : Program} {w : World} {A : Around} {c : Code} {fs : List Frame} {P : End → Shared → Prop} {s : Shared} {env : Env}
  {K : Flow → Sem Fin} {H : Value → Sem Fin} {gd : Bool → Bool} {lv : List Value → List Value} {target iter : Expr} {body : List Stmt} {pos : Pos} {it : Value}

/-- the frame that a `for` leaves below its loop -/
def forFrame (c : Code) (p : Pos) (env : Env) (K : Flow → Sem Fin) (H : Value → Sem Fin) (gd : Bool → Bool) (lv : List Value → List Value) : Frame :=
  .ret (fun r => ((match r with | .ok f => (.pure f : Sem Flow) | .error e => .raise e).onRaise fun (x : Value) => do
        if (← field x 1) == Value.none then unsupported "frame.own-activation:exception-without-traceback"
        setFlight x env.frame).wrap K H gd lv) none (gd false) (lv []) c p []

theorem g_For
    (h : wpAny (model prog w) (A.over c fs) (eval iter env) (fun x s₁ => wpAny (model prog w) (A.over c fs) (pyIter x) (fun it s₂ =>
      ∀ p, SegX (model prog w) A (.forLoop target it body [] env) (denote table (.forLoop target it body [] env)) (forFrame c p env K H gd lv :: fs) s₂ P) (fun _ _ => False) s₁) (fun _ _ => False) s)
    (hs : ∀ x, foldedSetIterable iter env x = pure x) :
    SegX (model prog w) A c ((exec (.For target iter body [] pos) env).wrap K H gd lv) fs s P := by
  rw [exec_For]
  refine g_bind (wpAny_standAt ?_)
  refine g_bind (wpAny_mono h (fun x s₁ h₁ => ?_) fun _ _ x => x)
  refine g_bind (wpAny_of_eq (hs x) ?_)
  refine g_bind (wpAny_standAt ?_)
  refine g_bind (wpAny_holding (wpAny_mono h₁ (fun it s₂ h₂ => ?_) fun _ _ x => x))
  exact s_call prog w A c fs P s₂ _ _ _ _ _ fun p => h₂ p

/-- one turn of a `for` in a generator -/
theorem g_forLoop
    (h : wpAny (model prog w) (A.over (.forLoop target it body [] env) fs) (pyNext it) (fun r s₁ => match r with
      | none => SegX (model prog w) A (.forLoop target it body [] env) (.pure (.again (.block [] env))) fs s₁ P
      | some v => wpAny (model prog w) (A.over (.forLoop target it body [] env) fs) (letOwnedTupleGo target it v) (fun _ s₂ =>
          wpAny (model prog w) (A.over (.forLoop target it body [] env) fs) (assign target env v) (fun _ s₃ =>
            SegX (model prog w) A (.forLoop target it body [] env) ((execs body env).wrap (fun f => match f with
              | .next | .cont => .pure (.again (.forLoop target it body [] env))
              | .brk => .pure (.done .next)
              | .ret v => .pure (.done (.ret v))) (fun e => (do noteFrame e env; theTreesLotGoes e : Sem Unit).wrap (fun _ => .raise e) .raise id id) id id) fs s₃ P) (fun _ _ => False) s₂) (fun _ _ => False) s₁) (fun _ _ => False) s) :
    SegX (model prog w) A (.forLoop target it body [] env) (denote table (.forLoop target it body [] env)) fs s P := by
  show SegX _ A _ ((forTurn target it body [] env).onRaise (fun x => do noteFrame x env; theTreesLotGoes x)) fs s P
  unfold forTurn
  rw [Sem.onRaise_eq_wrap]
  refine g_bind (wpAny_standAt ?_)
  refine g_bind (wpAny_onRaise (wpAny_mono h (fun r s₁ h₁ => ?_) fun _ _ x => x.elim))
  cases r with
  | none => exact h₁
  | some v =>
    refine g_bind (wpAny_mono h₁ (fun _ s₂ h₂ => ?_) fun _ _ x => x)
    refine g_bind (wpAny_mono h₂ (fun _ s₃ h₃ => ?_) fun _ _ x => x)
    rw [Sem.bind_eq_wrap', Sem.wrap_wrap]
    rw [Sem.wrap_congr (execs body env) _ _ (K' := fun f => match f with
              | .next | .cont => .pure (.again (.forLoop target it body [] env))
              | .brk => .pure (.done .next)
              | .ret v => .pure (.done (.ret v))) (H' := (fun e => (do noteFrame e env; theTreesLotGoes e : Sem Unit).wrap (fun _ => .raise e) .raise id id))
        (fun f => by cases f <;> rfl)
        (fun e => by first | exact Sem.bind_eq_wrap _ _ | (show (do noteFrame e env; theTreesLotGoes e : Sem Unit).bind (fun _ => .raise e) = _; rw [Sem.bind_eq_wrap]))]
    exact h₃
/-- the loop is through: what comes after the `for` goes on -/
theorem g_forEnd {p : Pos} (h : SegX (model prog w) A c (K .next) fs s P) :
    SegX (model prog w) A (.forLoop target it body [] env) (.pure (.again (.block [] env))) (forFrame c p env K H gd lv :: fs) s P := by
  refine s_again prog w A _ _ P s _ (by first | rfl | decide) ?_
  refine s_pop prog w A _ fs P s (.ok .next) _ ?_ _ _ _ _ _ _ _ ?_
  · rfl
  · exact h
theorem g_func
    (h : SegX (model prog w) A (.func body env) ((execs body env).wrap (fun f => .pure (.done (.ret (match f with | .ret v => v | _ => .none))))
      (fun e => (leaving env e).wrap (fun _ => .raise e) .raise id id) id id) fs s P) :
    SegX (model prog w) A (.func body env) (denote table (.func body env)) fs s P := by
  show SegX _ A _ (.point [] fun _ => ((execs body env).onRaise (leaving env)) >>= _) fs s P
  refine g_point ?_
  rw [Sem.onRaise_eq_wrap, Sem.bind_eq_wrap', Sem.wrap_wrap]
  rw [Sem.wrap_congr (execs body env) _ _ (K' := fun f => .pure (.done (.ret (match f with | .ret v => v | _ => .none))))
    (H' := fun e => (leaving env e).wrap (fun _ => .raise e) .raise id id) (fun f => by cases f <;> rfl)
    (fun e => by rw [Sem.bind_eq_wrap, Sem.wrap_wrap]; rfl)]
  exact h
end
end TMX
/-- a list of ints -/
def IsTape (ns : List Int) : Obj → Prop := fun o => ∃ vs, IntsAre vs ns ∧ IsLs vs o

def signsOf : List Nat := [97, 98, 9, 32, 233, 35]
/-- a line as the law makes one -/
def LineOk (x : Str) : Prop := ∃ body nl, x.cps.toList = body ++ nl ∧ body.length ≤ 4 ∧ (∀ c ∈ body, c ∈ signsOf) ∧ (nl = [] ∨ nl = [10])

theorem item_sign {SG : Str} (e : SG.cps.toList = signsOf) (N : Nat) (h : N < 6) : ∃ c ∈ signsOf, Txt.item SG N = ⟨#[c]⟩ := by
  obtain ⟨cps⟩ := SG
  obtain ⟨l⟩ := cps
  have e' : l = signsOf := e
  subst e'
  rcases (by omega : N = 0 ∨ N = 1 ∨ N = 2 ∨ N = 3 ∨ N = 4 ∨ N = 5) with rfl | rfl | rfl | rfl | rfl | rfl
  · exact ⟨97, by decide, rfl⟩
  · exact ⟨98, by decide, rfl⟩
  · exact ⟨9, by decide, rfl⟩
  · exact ⟨32, by decide, rfl⟩
  · exact ⟨233, by decide, rfl⟩
  · exact ⟨35, by decide, rfl⟩

/-- a Char that is frozen -/
def CharAt (P : Params) (Z : Heap) (x : Addr) (f r c n₀ ch : Value) : Prop := ∃ dx lx ldx, (∃ o, Z.get? x = some o ∧ IsIn 72 dx [] o) ∧ (∃ o, Z.get? dx = some o ∧ IsSd P [("char", ch), ("loc", .ref lx)] o) ∧
  (∃ o, Z.get? lx = some o ∧ IsIn 41 ldx [some c, some f, some n₀, some r, some .none] o) ∧ ∃ o, Z.get? ldx = some o
theorem CharAt.keeps {P : Params} {Z Z' : Heap} {x : Addr} {f r c n₀ ch : Value} (s : Sub Z Z') : CharAt P Z x f r c n₀ ch → CharAt P Z' x f r c n₀ ch := fun ⟨dx, lx, ldx, ⟨o₁, e₁, p₁⟩, ⟨o₂, e₂, p₂⟩, ⟨o₃, e₃, p₃⟩, o₄, e₄⟩ =>
  ⟨dx, lx, ldx, ⟨o₁, s _ _ e₁, p₁⟩, ⟨o₂, s _ _ e₂, p₂⟩, ⟨o₃, s _ _ e₃, p₃⟩, o₄, s _ _ e₄⟩
/-- name, row, col, sign of a Char -/
def CharV (P : Params) (Z : Heap) (y : Str × Int × Nat × Nat) (v : Value) : Prop := ∃ x k₁ k₂ k₃ k₄ k₅, v = .ref x ∧ CharAt P Z x (.str y.1 k₁) (.int y.2.1 k₂) (.int (y.2.2.1 : Int) k₃) (.int 1 k₄) (.str ⟨#[y.2.2.2]⟩ k₅)
theorem CharV.keeps {P : Params} {Z Z' : Heap} (s : Sub Z Z') : ∀ (y : Str × Int × Nat × Nat) (v : Value), CharV P Z y v → CharV P Z' y v := fun _ _ ⟨x, a, b, c, d, e, h1, h2⟩ => ⟨x, a, b, c, d, e, h1, h2.keeps s⟩
section TMY
open PySem.W.X
def Row (P : Params) (nm : Str) (row : Int) : Obj → Prop := fun o => ∃ k k', IsSd P [("filename", .str nm k), ("row", .int row k')] o
def GoesX (M : Model) (A : Around) (gs : GenState) (P : End → Shared → Prop) (s : Shared) : Prop := match gs with
  | .fresh c => SegX M A c (denote table c) [] s P
  | .suspended k _ c _ fs _ => SegX M A c (k (.send .none)) fs s P
  | _ => False
/-- what a waking of the reader ends in: the next sign, or the end -/
def PostC (w : World) (sdx : Addr) (N : Nat) (Z : Heap) (rest : List Ent) (g : Array GenState) (d : Drawn) (o : OsState) (nm : Str) (row : Int) (p0 : Nat) (nx : Option ((Nat × Nat × Nat) × (Nat → List Ent → GenState → Prop))) (e : End) (s' : Shared) : Prop :=
  match nx with
  | none => e = .ret (.ok (.ret .none)) ∧ ∃ h t Z', s' = ⟨h, g, d, t, o⟩ ∧ Sub Z Z' ∧ Hp Z' ((sdx, Row w.params nm (row + (N - p0 : Nat))) :: rest) h
  | some (x, lv) => ∃ v l k c pp fs, e = .susp v false l k c pp fs ∧ ∃ h t Z' own, s' = ⟨h, g, d, t, o⟩ ∧ Sub Z Z' ∧ Hp Z' ((sdx, Row w.params nm (row + (x.1 - p0 : Nat))) :: (own ++ rest)) h ∧
      CharV w.params Z' (nm, row + (x.1 - p0 : Nat), x.2.1, x.2.2) v ∧ lv x.1 own e.genState
def LiveAt (prog : Program) (w : World) (n : Nat) (Z₀ : Heap) (sdx : Addr) (N : Nat) (nx : Option ((Nat × Nat × Nat) × (Nat → List Ent → GenState → Prop))) (p0 : Nat) (own : List Ent) (gs : GenState) : Prop :=
  ∀ A Z rest h g d t o nm row, Ok n A → Sub Z₀ Z → Hp Z ((sdx, Row w.params nm row) :: (own ++ rest)) h → GoesX (model prog w) A gs (PostC w sdx N Z rest g d o nm row p0 nx) ⟨h, g, d, t, o⟩
/-- a reader that has `rem` before it -/
def Live (prog : Program) (w : World) (n : Nat) (Z₀ : Heap) (sdx : Addr) (N : Nat) : List (Nat × Nat × Nat) → Nat → List Ent → GenState → Prop
  | [] => LiveAt prog w n Z₀ sdx N none
  | x :: r => LiveAt prog w n Z₀ sdx N (some (x, Live prog w n Z₀ sdx N r))
def nxOf (prog : Program) (w : World) (n : Nat) (Z₀ : Heap) (sdx : Addr) (N : Nat) : List (Nat × Nat × Nat) → Option ((Nat × Nat × Nat) × (Nat → List Ent → GenState → Prop))
  | [] => none
  | x :: r => some (x, Live prog w n Z₀ sdx N r)
theorem Live.at {prog : Program} {w : World} {n : Nat} {Z₀ : Heap} {sdx : Addr} {N : Nat} : ∀ (rem : List (Nat × Nat × Nat)), Live prog w n Z₀ sdx N rem = LiveAt prog w n Z₀ sdx N (nxOf prog w n Z₀ sdx N rem)
  | [] => rfl
  | _ :: _ => rfl

theorem over_func {n : Nat} {A : Around} {b : List Stmt} {env : Env} (x : Ok n A) : Ok (n + 2) (A.over (.func b env) []) := by
  refine ⟨x.h, ?_, ?_⟩
  · have := x.d; have e : (Code.func b env).weight ≤ 2 := by first | exact Nat.le_of_ble_eq_true rfl | (unfold Code.weight; decide)
    show A.depth + 0 + (Code.func b env).weight ≤ _; omega
  · have := x.u; have e : (Code.func b env).cUnits ≤ 6 := by first | exact Nat.le_of_ble_eq_true rfl | (unfold Code.cUnits; decide)
    show A.units + 0 + (Code.func b env).cUnits ≤ _; omega
theorem over_for1 {n : Nat} {A : Around} {b : List Stmt} {env : Env} {t : Expr} {it : Value} {bb : List Stmt} {p : Pos} {K H gd lv} (x : Ok n A) : Ok (n + 3) (A.over (.forLoop t it bb [] env) [forFrame (.func b env) p env K H gd lv]) := by
  have e1 : (Code.func b env).weight ≤ 2 := by first | exact Nat.le_of_ble_eq_true rfl | (unfold Code.weight; decide)
  have e2 : (Code.func b env).cUnits ≤ 6 := by first | exact Nat.le_of_ble_eq_true rfl | (unfold Code.cUnits; decide)
  have e3 : (Code.forLoop t it bb [] env).weight = 0 := by rfl
  have e4 : (Code.forLoop t it bb [] env).cUnits = 0 := by rfl
  refine ⟨x.h, ?_, ?_⟩
  · have := x.d; show A.depth + ((Code.func b env).weight + 0) + (Code.forLoop t it bb [] env).weight ≤ _; omega
  · have := x.u; show A.units + ((Code.func b env).cUnits + 0) + (Code.forLoop t it bb [] env).cUnits ≤ _; omega
theorem over_for2 {n : Nat} {A : Around} {b : List Stmt} {env : Env} {t t2 : Expr} {it it2 : Value} {bb b2 : List Stmt} {p p2 : Pos} {K H gd lv K2 H2 gd2 lv2} (x : Ok n A) :
    Ok (n + 3) (A.over (.forLoop t2 it2 b2 [] env) [forFrame (.forLoop t it bb [] env) p2 env K2 H2 gd2 lv2, forFrame (.func b env) p env K H gd lv]) := by
  have e1 : (Code.func b env).weight ≤ 2 := by first | exact Nat.le_of_ble_eq_true rfl | (unfold Code.weight; decide)
  have e2 : (Code.func b env).cUnits ≤ 6 := by first | exact Nat.le_of_ble_eq_true rfl | (unfold Code.cUnits; decide)
  have e3 : (Code.forLoop t it bb [] env).weight = 0 := by rfl
  have e4 : (Code.forLoop t it bb [] env).cUnits = 0 := by rfl
  have e5 : (Code.forLoop t2 it2 b2 [] env).weight = 0 := by rfl
  have e6 : (Code.forLoop t2 it2 b2 [] env).cUnits = 0 := by rfl
  refine ⟨x.h, ?_, ?_⟩
  · have := x.d; show A.depth + ((Code.forLoop t it bb [] env).weight + ((Code.func b env).weight + 0)) + (Code.forLoop t2 it2 b2 [] env).weight ≤ _; omega
  · have := x.u; show A.units + ((Code.forLoop t it bb [] env).cUnits + ((Code.func b env).cUnits + 0)) + (Code.forLoop t2 it2 b2 [] env).cUnits ≤ _; omega
end TMY
section TMZ
open PySem.W.X
def FrOk (fa sx : Addr) (m : Str → Option Value) : Prop := m "f" = some (.ref fa) ∧ m "source_file" = some (.ref sx)
def LocAt (Z : Heap) (lx : Addr) (nm : Str) (row col : Int) : Prop := ∃ ldx k₁ k₂ k₃ k₄, (∃ o, Z.get? lx = some o ∧ IsIn 41 ldx [some (.int col k₃), some (.str nm k₁), some (.int 1 k₄), some (.int row k₂), some .none] o) ∧ ∃ o, Z.get? ldx = some o
abbrev Fl : Value → Shared → Prop := fun _ _ => False

/-- what the lines of the reader do, each by itself -/
structure GenW (prog : Program) (w : World) (n : Nat) (Z₀ : Heap) (C fa sx sdx : Addr) (env : Env) (T1 iter1 : Expr) (S0 : Stmt) (T2 iter2 : Expr) (S1 : Stmt) (ex : Expr) (S3 : Stmt) : Prop where
  co : env.scope.isCoroutine = false
  ia : interactive env = false
  f1 : ∀ x, foldedSetIterable iter1 env x = pure x
  f2 : ∀ x, foldedSetIterable iter2 env x = pure x
  iter1 : ∀ A Z l h g d t o m (Q : Value → Shared → Prop), Ok (n + 5) A → Sub Z₀ Z → FrOk fa sx m → Hp Z ((C, IsFr m) :: l) h →
    (∀ e it h' t', Hp Z ((e, ItE it 1) :: (it, ItL fa 0) :: (C, IsFr m) :: l) h' → Q (.ref e) ⟨h', g, d, t', o⟩) → wpAny (model prog w) A (eval iter1 env) Q Fl ⟨h, g, d, t, o⟩
  t1 : ∀ A Z l h g d t o m a v x k (Q : Unit → Shared → Prop), Ok (n + 5) A → FrOk fa sx m → Hp Z ((a, IsTp [v, .str x k]) :: (C, IsFr m) :: l) h →
    (∀ m' h' t', FrOk fa sx m' → m' "line" = some (.str x k) → Hp Z ((C, IsFr m') :: l) h' → Q () ⟨h', g, d, t', o⟩) → wpAny (model prog w) A (assign T1 env (.ref a)) Q Fl ⟨h, g, d, t, o⟩
  s0 : ∀ A Z l h g d t o m x k (Q : Flow → Shared → Prop), Ok (n + 5) A → Sub Z₀ Z → FrOk fa sx m → m "line" = some (.str x k) → x.cps.size ≤ 100 → Hp Z ((C, IsFr m) :: l) h →
    (∀ m' h' t' k', FrOk fa sx m' → m' "line" = some (.str (expandS x) k') → Hp Z ((C, IsFr m') :: l) h' → Q .next ⟨h', g, d, t', o⟩) → wpAny (model prog w) A (exec S0 env) Q Fl ⟨h, g, d, t, o⟩
  iter2 : ∀ A Z l h g d t o m x k (Q : Value → Shared → Prop), Ok (n + 5) A → Sub Z₀ Z → FrOk fa sx m → m "line" = some (.str x k) → Hp Z ((C, IsFr m) :: l) h →
    (∀ e it h' t', Hp Z ((e, ItE it 1) :: (it, ItS x k 0) :: (C, IsFr m) :: l) h' → Q (.ref e) ⟨h', g, d, t', o⟩) → wpAny (model prog w) A (eval iter2 env) Q Fl ⟨h, g, d, t, o⟩
  t2 : ∀ A Z l h g d t o m a i k₁ x k (Q : Unit → Shared → Prop), Ok (n + 5) A → FrOk fa sx m → Hp Z ((a, IsTp [.int i k₁, .str x k]) :: (C, IsFr m) :: l) h →
    (∀ m' h' t', FrOk fa sx m' → m' "col" = some (.int i k₁) → m' "char" = some (.str x k) → Hp Z ((C, IsFr m') :: l) h' → Q () ⟨h', g, d, t', o⟩) → wpAny (model prog w) A (assign T2 env (.ref a)) Q Fl ⟨h, g, d, t, o⟩
  s1 : ∀ A Z l h g d t o m nm row col y k₁ k₂ (Q : Flow → Shared → Prop), Ok (n + 5) A → Sub Z₀ Z → FrOk fa sx m → m "col" = some (.int col k₁) → m "char" = some (.str y k₂) → Hp Z ((C, IsFr m) :: (sdx, Row w.params nm row) :: l) h →
    (∀ m' h' t' Z' lx, Sub Z Z' → FrOk fa sx m' → m' "char" = some (.str y k₂) → m' "loc" = some (.ref lx) → LocAt Z' lx nm row col → Hp Z' ((C, IsFr m') :: (sdx, Row w.params nm row) :: l) h' → Q .next ⟨h', g, d, t', o⟩) →
    wpAny (model prog w) A (exec S1 env) Q Fl ⟨h, g, d, t, o⟩
  ex : ∀ A Z l h g d t o m nm row col y k₂ lx (Q : Value → Shared → Prop), Ok (n + 5) A → Sub Z₀ Z → FrOk fa sx m → m "char" = some (.str y k₂) → m "loc" = some (.ref lx) → LocAt Z lx nm row col → Hp Z ((C, IsFr m) :: l) h →
    (∀ h' t' Z' x k₁ k₂ k₃ k₄ k₅, Sub Z Z' → Hp Z' ((C, IsFr m) :: l) h' → CharAt w.params Z' x (.str nm k₁) (.int row k₂) (.int col k₃) (.int 1 k₄) (.str y k₅) → Q (.ref x) ⟨h', g, d, t', o⟩) →
    wpAny (model prog w) A (eval ex env) Q Fl ⟨h, g, d, t, o⟩
  s3 : ∀ A Z l h g d t o m nm row (Q : Flow → Shared → Prop), Ok (n + 5) A → Sub Z₀ Z → FrOk fa sx m → Hp Z ((C, IsFr m) :: (sdx, Row w.params nm row) :: l) h →
    (∀ h' t', Hp Z ((C, IsFr m) :: (sdx, Row w.params nm (row + 1)) :: l) h' → Q .next ⟨h', g, d, t', o⟩) → wpAny (model prog w) A (exec S3 env) Q Fl ⟨h, g, d, t, o⟩

section
variable {prog : Program} {w : World} {n : Nat} {Z₀ : Heap} {C fa sx sdx : Addr} {env : Env} {elts1 elts2 : List Expr} {q1 q2 : Nat} {p1 p2 : Pos} {iter1 iter2 ex : Expr} {S0 S1 S3 : Stmt} {pos1 pos2 yp px : Pos}
  {lines : List (List Nat)} {lvs : List Value}

/-- the inner loop, from the sign `j` of a line on -/
theorem gen_in (W : GenW prog w n Z₀ C fa sx sdx env (.Tuple elts1 q1 p1) iter1 S0 (.Tuple elts2 q2 p2) iter2 S1 ex S3)
    {c₁ : Code} {F1 : Frame} {pp : Pos} {K2 : Flow → Sem Fin} {H2 : Value → Sem Fin} {gd2 : Bool → Bool} {lv2 : List Value → List Value} {rem : List (Nat × Nat × Nat)} {N i : Nat} {ln : List Nat} {kx : Tok} {ea ia e2a i2a : Addr}
    (hov : ∀ A, Ok n A → Ok (n + 3) (A.over (.forLoop (.Tuple elts2 q2 p2) (.ref e2a) [S1, .Expr (.Yield (some ex) yp) px] [] env) [forFrame c₁ pp env K2 H2 gd2 lv2, F1]))
    (hsp : splitAtGen [forFrame c₁ pp env K2 H2 gd2 lv2, F1] = none) (hgu : [forFrame c₁ pp env K2 H2 gd2 lv2, F1].any Frame.guarded = false)
    (hend : ∀ A Z Zc rest h g d t o nm row p0 m, Ok n A → Sub Z₀ Zc → Sub Zc Z → p0 ≤ i → FrOk fa sx m →
      Hp Z ((sdx, Row w.params nm (row + (i - p0 : Nat))) :: (C, IsFr m) :: (ea, ItE ia (1 + (i + 1 : Nat))) :: (ia, ItL fa (i + 1)) :: rest) h →
      SegX (model prog w) A c₁ (K2 .next) [F1] ⟨h, g, d, t, o⟩ (PostC w sdx N Zc rest g d o nm row p0 (nxOf prog w n Z₀ sdx N rem))) :
    ∀ q j, (laidLine ln 1).length - j = q → j ≤ (laidLine ln 1).length → ∀ A Z Zc rest h g d t o nm row p0 m, Ok n A → Sub Z₀ Zc → Sub Zc Z → p0 ≤ i → FrOk fa sx m →
      Hp Z ((sdx, Row w.params nm (row + (i - p0 : Nat))) :: (C, IsFr m) :: (e2a, ItE i2a (1 + (j : Nat))) :: (i2a, ItS ⟨((laidLine ln 1).map (·.2)).toArray⟩ kx j) :: (ea, ItE ia (1 + (i + 1 : Nat))) :: (ia, ItL fa (i + 1)) :: rest) h →
      SegX (model prog w) A (.forLoop (.Tuple elts2 q2 p2) (.ref e2a) [S1, .Expr (.Yield (some ex) yp) px] [] env) (denote table (.forLoop (.Tuple elts2 q2 p2) (.ref e2a) [S1, .Expr (.Yield (some ex) yp) px] [] env))
        [forFrame c₁ pp env K2 H2 gd2 lv2, F1] ⟨h, g, d, t, o⟩ (PostC w sdx N Zc rest g d o nm row p0 (nxOf prog w n Z₀ sdx N (((laidLine ln 1).drop j).map (fun x => (i, x)) ++ rem))) := by
  intro q
  induction q with
  | zero =>
    intro j hq hj A Z Zc rest h g d t o nm row p0 m ok s1 s2 hp0 hfr H
    have hjl : j = (laidLine ln 1).length := by omega
    refine g_forLoop ?_
    have Hx := ((H.pick (.tail (.tail (.tail .head)))).pick (.tail (.tail (.tail .head))))
    refine e_end Hx (fun A' E Q' hA hE => ?_) fun h' H' => ?_
    · obtain ⟨ob, eo, p⟩ := Hx.here _ (.tail _ (.head _))
      have hnone : (⟨((laidLine ln 1).map (·.2)).toArray⟩ : Str).cps[j]? = none := by simp [hjl]
      have hA' : A'.handled = none := hA.trans (hov A ok).h
      cases ha : (⟨((laidLine ln 1).map (·.2)).toArray⟩ : Str).cps.all (· < 128)
      · have hT : strIterType ⟨((laidLine ln 1).map (·.2)).toArray⟩ = "str_iterator" := by rw [strIterType, ha]; rfl
        unfold ItS at p
        rw [hT] at p
        exact nextOf_wide_end hA' (t := kx) ⟨ob, eo, p.1, p.2⟩ hnone hE
      · have hT : strIterType ⟨((laidLine ln 1).map (·.2)).toArray⟩ = "str_ascii_iterator" := by rw [strIterType, ha]; rfl
        unfold ItS at p
        rw [hT] at p
        exact nextOf_ascii_end hA' (t := kx) ⟨ob, eo, p.1, p.2⟩ hnone hE
    · have hd : (laidLine ln 1).drop j = [] := by rw [hjl]; exact List.drop_length
      rw [hd]
      exact g_forEnd (hend A Z Zc rest h' g d t o nm row p0 m ok s1 s2 hp0 hfr H')
  | succ q ih =>
    intro j hq hj A Z Zc rest h g d t o nm row p0 m ok s1 s2 hp0 hfr H
    have hlt : j < (laidLine ln 1).length := by omega
    have sub := s1.trans s2
    have okv := (hov A ok).mono (show n + 3 ≤ n + 5 by omega)
    obtain ⟨x, hx⟩ : ∃ x, (laidLine ln 1)[j]? = some x := ⟨_, List.getElem?_eq_getElem hlt⟩
    have hcol := laid_col ln 1 j x hx
    have hd : (laidLine ln 1).drop j = x :: (laidLine ln 1).drop (j + 1) := by
      rw [List.drop_eq_getElem_cons hlt]; rw [List.getElem?_eq_getElem hlt] at hx; cases hx; rfl
    have hc : (⟨((laidLine ln 1).map (·.2)).toArray⟩ : Str).cps[j]? = some x.2 := by
      show (((laidLine ln 1).map (·.2)).toArray)[j]? = _
      rw [List.getElem?_toArray, List.getElem?_map, hx]; rfl
    refine g_forLoop ?_
    have Hx := ((H.pick (.tail (.tail (.tail .head)))).pick (.tail (.tail (.tail .head))))
    refine e_item (p' := ItS ⟨((laidLine ln 1).map (·.2)).toArray⟩ kx (j + 1)) (item := fun v => ∃ k, v = .str ⟨#[x.2]⟩ k) Hx (fun A E Q' hQ' => ?_) fun a v' k' h₁ t₁ hv' H₁ => ?_
    · obtain ⟨ob, eo, p⟩ := Hx.here _ (.tail _ (.head _))
      cases ha : (⟨((laidLine ln 1).map (·.2)).toArray⟩ : Str).cps.all (· < 128)
      · have hT : strIterType ⟨((laidLine ln 1).map (·.2)).toArray⟩ = "str_iterator" := by rw [strIterType, ha]; rfl
        unfold ItS at p
        rw [hT] at p
        refine nextOf_wide_item (t := kx) (i := j) ⟨ob, eo, p.1, p.2⟩ hc fun h' hit hs => ?_
        obtain ⟨o', e', p'⟩ := hit
        exact hQ' _ h' _ ⟨_, rfl⟩ (Hx.sames (.tail .head) hs e' ⟨by rw [hT]; exact p'.1, p'.2⟩)
      · have hT : strIterType ⟨((laidLine ln 1).map (·.2)).toArray⟩ = "str_ascii_iterator" := by rw [strIterType, ha]; rfl
        unfold ItS at p
        rw [hT] at p
        refine nextOf_ascii_item (t := kx) (i := j) ⟨ob, eo, p.1, p.2⟩ hc fun h' hit hs => ?_
        obtain ⟨o', e', p'⟩ := hit
        exact hQ' _ h' _ ⟨_, rfl⟩ (Hx.sames (.tail .head) hs e' ⟨by rw [hT]; exact p'.1, p'.2⟩)
    · obtain ⟨k₂, rfl⟩ := hv'
      refine e_go H₁ fun h₂ H₂ => ?_
      have H₂' := (H₂.pick (.tail (.tail (.tail (.tail .head))))).pick (.tail .head)
      refine W.t2 _ Z _ h₂ g d t₁ o m a _ k' _ k₂ _ okv hfr H₂' fun m₁ h₃ t₃ hfr₁ hc1 hc2 H₃ => ?_
      refine g_execs_cons (g_wrap ?_)
      have H₃' := (H₃.pick (.tail (.tail (.tail .head)))).pick (.tail .head)
      refine W.s1 _ Z _ h₃ g d t₃ o m₁ nm _ _ _ k' k₂ _ okv sub hfr₁ hc1 hc2 H₃' fun m₂ h₄ t₄ Z₁ lx sub₁ hfr₂ hc3 hc4 hloc H₄ => ?_
      show SegX _ A _ ((execs [.Expr (.Yield (some ex) yp) px] env).wrap _ _ _ _) _ _ _
      refine g_execs_cons (g_Expr_Yield hsp rfl hgu ?_ W.co W.ia)
      refine W.ex _ Z₁ _ h₄ g d t₄ o m₂ nm _ _ _ k₂ lx _ okv (sub.trans sub₁) hfr₂ hc3 hc4 hloc H₄ fun h₅ t₅ Z₂ xx a₁ a₂ a₃ a₄ a₅ sub₂ H₅ hch => ?_
      intro l k pq hk
      have hnx : nxOf prog w n Z₀ sdx N (((laidLine ln 1).drop j).map (fun x => (i, x)) ++ rem) = some ((i, x), Live prog w n Z₀ sdx N (((laidLine ln 1).drop (j + 1)).map (fun x => (i, x)) ++ rem)) := by rw [hd]; rfl
      rw [hnx]
      refine ⟨_, _, _, _, _, _, rfl, h₅, t₅, Z₂, [(C, IsFr m₂), (e2a, ItE i2a (1 + (j : Nat) + 1)), (i2a, ItS ⟨((laidLine ln 1).map (·.2)).toArray⟩ kx (j + 1)), (ea, ItE ia (1 + (i + 1 : Nat))), (ia, ItL fa (i + 1))], rfl, s2.trans (sub₁.trans sub₂), ?_, ?_, ?_⟩
      · exact H₅.pick (.tail .head)
      · refine ⟨xx, a₁, a₂, a₃, a₄, a₅, rfl, ?_⟩
        have e1 : ((x.1 : Nat) : Int) = 1 + (j : Int) := by rw [hcol]; push_cast; rfl
        show CharAt w.params Z₂ xx (.str nm a₁) (.int (row + ((i - p0 : Nat) : Int)) a₂) (.int ((x.1 : Nat) : Int) a₃) (.int 1 a₄) (.str ⟨#[x.2]⟩ a₅)
        rw [e1]
        exact hch
      · rw [Live.at]
        intro A'' Z'' rest'' h'' g'' d'' t'' o'' nm'' row'' ok'' sub'' H''
        show SegX _ A'' _ (k (.send .none)) _ _ _
        refine hk A'' _ _ ?_
        show SegX _ A'' _ (.pure (.again (.forLoop (.Tuple elts2 q2 p2) (.ref e2a) [S1, .Expr (.Yield (some ex) yp) px] [] env))) _ _ _
        refine s_again prog w A'' _ _ _ _ _ rfl ?_
        have e2 : (1 : Int) + ((j + 1 : Nat) : Int) = 1 + (j : Int) + 1 := by push_cast; omega
        refine ih (j + 1) (by omega) hlt A'' Z'' Z'' rest'' h'' g'' d'' t'' o'' nm'' row'' i m₂ ok'' sub'' (Sub.refl _) (Nat.le_refl _) hfr₂ ?_
        rw [e2, Nat.sub_self, show row'' + ((0 : Nat) : Int) = row'' by simp]
        exact H''

/-- the outer loop, from the line `i` on -/
theorem gen_out (W : GenW prog w n Z₀ C fa sx sdx env (.Tuple elts1 q1 p1) iter1 S0 (.Tuple elts2 q2 p2) iter2 S1 ex S3) (hl : Z₀.IsList fa lvs.toArray) (hp : Paired LineV lines lvs) (hk : ∀ x ∈ lines, LnOk x)
    {fbody : List Stmt} {pp : Pos} {K1 : Flow → Sem Fin} {H1 : Value → Sem Fin} {gd1 : Bool → Bool} {lv1 : List Value → List Value} {ea ia : Addr} (hgd : gd1 false = false)
    (hK : ∀ A s P, P (.ret (.ok (.ret .none))) s → SegX (model prog w) A (.func fbody env) (K1 .next) [] s P) :
    ∀ r i, lines.length - i = r → i ≤ lines.length → ∀ A Z Zc rest h g d t o nm row p0 m, Ok n A → Sub Z₀ Zc → Sub Zc Z → p0 ≤ i → FrOk fa sx m →
      Hp Z ((sdx, Row w.params nm (row + (i - p0 : Nat))) :: (C, IsFr m) :: (ea, ItE ia (1 + (i : Nat))) :: (ia, ItL fa i) :: rest) h →
      SegX (model prog w) A (.forLoop (.Tuple elts1 q1 p1) (.ref ea) [S0, .For (.Tuple elts2 q2 p2) iter2 [S1, .Expr (.Yield (some ex) yp) px] [] pos2, S3] [] env)
        (denote table (.forLoop (.Tuple elts1 q1 p1) (.ref ea) [S0, .For (.Tuple elts2 q2 p2) iter2 [S1, .Expr (.Yield (some ex) yp) px] [] pos2, S3] [] env))
        [forFrame (.func fbody env) pp env K1 H1 gd1 lv1] ⟨h, g, d, t, o⟩ (PostC w sdx lines.length Zc rest g d o nm row p0 (nxOf prog w n Z₀ sdx lines.length (laid (lines.drop i) i))) := by
  intro r
  induction r with
  | zero =>
    intro i hr hi A Z Zc rest h g d t o nm row p0 m ok s1 s2 hp0 hfr H
    have hil : i = lines.length := by omega
    subst hil
    refine g_forLoop ?_
    have Hx := ((H.pick (.tail (.tail (.tail .head)))).pick (.tail (.tail (.tail .head))))
    have hlen : lines.length = lvs.length := hp.length
    refine e_end Hx (fun A' E Q' hA hE => ?_) fun h' H' => ?_
    · obtain ⟨ob, eo, p⟩ := Hx.here _ (.tail _ (.head _))
      exact wpAny_nextOf_list_end (hA.trans (over_for1 ok).h) (l := fa) (items := lvs.toArray) (i := lines.length) ⟨ob, eo, p.1, p.2⟩ (hl.at fun _ e => Hx.keep _ _ (s2 _ _ (s1 _ _ e))) (by simp [hlen]) hE
    · rw [List.drop_length]
      refine g_forEnd (hK A _ _ ?_)
      exact ⟨rfl, h', t, Z, rfl, s2, H'.sublist (.cons_cons _ (.cons _ (.refl _)))⟩
  | succ r ih =>
    intro i hr hi A Z Zc rest h g d t o nm row p0 m ok s1 s2 hp0 hfr H
    have hlt : i < lines.length := by omega
    have sub := s1.trans s2
    have okv := (over_for1 (b := fbody) (env := env) (t := .Tuple elts1 q1 p1) (it := .ref ea) (bb := [S0, .For (.Tuple elts2 q2 p2) iter2 [S1, .Expr (.Yield (some ex) yp) px] [] pos2, S3]) (p := pp) (K := K1) (H := H1) (gd := gd1) (lv := lv1) ok).mono (show n + 3 ≤ n + 5 by omega)
    obtain ⟨v, hv⟩ : ∃ v, lvs[i]? = some v := ⟨_, List.getElem?_eq_getElem (by rw [← hp.length]; exact hlt)⟩
    obtain ⟨ln, hln, kl, rfl⟩ := Paired.get hp hv
    have hok := hk ln (List.mem_of_getElem? hln)
    have hdr : lines.drop i = ln :: lines.drop (i + 1) := by
      rw [List.drop_eq_getElem_cons hlt]; rw [List.getElem?_eq_getElem hlt] at hln; cases hln; rfl
    refine g_forLoop ?_
    have Hx := ((H.pick (.tail (.tail (.tail .head)))).pick (.tail (.tail (.tail .head))))
    refine e_item (p' := ItL fa (i + 1)) (item := fun x => x = .str ⟨ln.toArray⟩ kl) Hx (fun A E Q' hQ' => ?_) fun a v' k' h₁ t₁ hv' H₁ => ?_
    · obtain ⟨ob, eo, p⟩ := Hx.here _ (.tail _ (.head _))
      refine wpAny_nextOf_list_item (l := fa) (items := lvs.toArray) (i := i) ⟨ob, eo, p.1, p.2⟩ (hl.at fun _ e => Hx.keep _ _ (sub _ _ e)) (by simpa using hv) fun h' hit hs => ?_
      obtain ⟨o', e', p'⟩ := hit
      exact hQ' _ h' _ rfl (Hx.sames (.tail .head) hs e' p')
    · subst hv'
      refine e_go H₁ fun h₂ H₂ => ?_
      have H₂' := (H₂.pick (.tail (.tail (.tail (.tail .head))))).pick (.tail .head)
      refine W.t1 _ Z _ h₂ g d t₁ o m a _ _ kl _ okv hfr H₂' fun m₁ h₃ t₃ hfr₁ hc1 H₃ => ?_
      refine g_execs_cons (g_wrap ?_)
      refine W.s0 _ Z _ h₃ g d t₃ o m₁ _ kl _ okv sub hfr₁ hc1 (by show ln.length ≤ 100; have := hok.length; omega) H₃ fun m₂ h₄ t₄ kx hfr₂ hc2 H₄ => ?_
      rw [expand_ln hok] at hc2
      show SegX _ A _ ((execs [.For (.Tuple elts2 q2 p2) iter2 [S1, .Expr (.Yield (some ex) yp) px] [] pos2, S3] env).wrap _ _ _ _) _ _ _
      refine g_execs_cons (g_For ?_ W.f2)
      refine W.iter2 _ Z _ h₄ g d t₄ o m₂ _ kx _ okv sub hfr₂ hc2 H₄ fun e2 i2 h₅ t₅ H₅ => ?_
      refine i_enum H₅ (.head _) fun p' => ?_
      have e1 : (1 : Int) + ((i + 1 : Nat) : Int) = 1 + (i : Int) + 1 := by push_cast; omega
      have hrem : laid (lines.drop i) i = ((laidLine ln 1).drop 0).map (fun x => (i, x)) ++ laid (lines.drop (i + 1)) (i + 1) := by rw [hdr]; rfl
      rw [hrem]
      refine gen_in W (N := lines.length) (rem := laid (lines.drop (i + 1)) (i + 1)) (i := i) (ln := ln) (kx := kx) (ea := ea) (ia := ia) (e2a := e2) (i2a := i2) (fun A ok => over_for2 ok) rfl ?_ ?_ _ 0 rfl (Nat.zero_le _) A Z Zc rest h₅ g d t₅ o nm row p0 m₂ ok s1 s2 hp0 hfr₂ ?_
      · show (false || (gd1 false || false)) = false
        rw [hgd]; rfl
      · intro A Z Zc rest h g d t o nm row p0 m ok s1 s2 hp0 hfr H
        have okv := (over_for1 (b := fbody) (env := env) (t := .Tuple elts1 q1 p1) (it := .ref ea) (bb := [S0, .For (.Tuple elts2 q2 p2) iter2 [S1, .Expr (.Yield (some ex) yp) px] [] pos2, S3]) (p := pp) (K := K1) (H := H1) (gd := gd1) (lv := lv1) ok).mono (show n + 3 ≤ n + 5 by omega)
        show SegX _ A _ ((execs [S3] env).wrap _ _ _ _) _ _ _
        refine g_execs_cons (g_wrap ?_)
        refine W.s3 _ Z _ h g d t o m nm _ _ okv (s1.trans s2) hfr (H.pick (.tail .head)) fun h₁ t₁ H₁ => ?_
        show SegX _ A _ (.pure (.again _)) _ _ _
        refine s_again prog w A _ _ _ _ _ rfl ?_
        refine ih (i + 1) (by omega) hlt A Z Zc rest h₁ g d t₁ o nm row p0 m ok s1 s2 (by omega) hfr ?_
        have e3 : row + ((i + 1 - p0 : Nat) : Int) = row + ((i - p0 : Nat) : Int) + 1 := by rw [show i + 1 - p0 = (i - p0) + 1 by omega]; push_cast; omega
        rw [e3]
        exact H₁.pick (.tail .head)
      · rw [e1]
        exact (H₅.pick (.tail (.tail (.tail (.tail (.tail .head)))))).perm (by
          refine List.Perm.cons _ ?_
          exact (Pick.perm (.tail (.tail .head))))

theorem gen_core (W : GenW prog w n Z₀ C fa sx sdx env (.Tuple elts1 q1 p1) iter1 S0 (.Tuple elts2 q2 p2) iter2 S1 ex S3) (hl : Z₀.IsList fa lvs.toArray) (hp : Paired LineV lines lvs) (hk : ∀ x ∈ lines, LnOk x) {m : Str → Option Value} (hfr : FrOk fa sx m) :
    Live prog w n Z₀ sdx lines.length (laid lines 0) 0 [(C, IsFr m)] (.fresh (.func [.For (.Tuple elts1 q1 p1) iter1 [S0, .For (.Tuple elts2 q2 p2) iter2 [S1, .Expr (.Yield (some ex) yp) px] [] pos2, S3] [] pos1] env)) := by
  rw [Live.at]
  intro A Z rest h g d t o nm row ok sub H
  refine g_func (g_execs_cons (g_For ?_ W.f1))
  refine W.iter1 _ Z _ h g d t o m _ ((over_func ok).mono (by omega)) sub hfr (H.pick (.tail .head)) fun e it h' t' H' => ?_
  refine i_enum H' (.head _) fun p' => ?_
  refine gen_out W hl hp hk (ea := e) (ia := it) (hgd := rfl) (hK := fun A s P hP => ?_) _ 0 rfl (Nat.zero_le _) A Z Z rest h' g d t' o nm row 0 m ok sub (Sub.refl _) (Nat.le_refl _) hfr ?_
  · exact s_end prog w A _ P s (.ok (.ret .none)) _ rfl hP
  · have e0 : row + ((0 - 0 : Nat) : Int) = row := by simp
    rw [e0]
    exact (H'.pick (.tail (.tail (.tail .head)))).perm (by
      refine List.Perm.cons _ ?_
      exact (Pick.perm (.tail (.tail .head))))
end
end TMZ
section TNA
open PySem.W.X
def SetAt (g : Array GenState) (k : Nat) (gs : GenState) (g' : Array GenState) : Prop := g'.size = g.size ∧ g'[k]? = some gs ∧ ∀ j, j ≠ k → g'[j]? = g[j]?
theorem SetAt.mk2 {g : Array GenState} {k : Nat} {a b x : GenState} (h : g[k]? = some x) : SetAt g k b ((g.setIfInBounds k a).setIfInBounds k b) := by
  have hk : k < g.size := (Array.getElem?_eq_some_iff.mp h).1
  refine ⟨by simp, by simp [hk], fun j hj => ?_⟩
  rw [Array.getElem?_setIfInBounds_ne (Ne.symm hj), Array.getElem?_setIfInBounds_ne (Ne.symm hj)]

theorem wake_fin {prog : Program} {w : World} {A : Around} {E : Value → Shared → Prop} {Q : Fin → Shared → Prop} {s : Shared} {g : Nat} {r : Resume} {l : List Value} {k : GenResult → Sem Fin} (hg : s.gens[g]? = some .finished)
    (h : wpAny (model prog w) A (k .finished) Q E s) : wpAny (model prog w) A (.resume g r l k) Q E s := by
  intro Γ p hΓ
  rw [Sem.wp_resume]
  refine ⟨.finished, s, ?_, h Γ p hΓ⟩
  unfold Wakes
  rw [hg]
  first | exact ⟨rfl, rfl⟩ | simp

def IsGn (k : Nat) : Obj → Prop := fun o => ∃ nm qn, o = { cls := .type "generator", dict := none, data := .fields #[.int k 0, nm, qn], slots := #[] }
theorem Hp.isGen {Z h : Heap} {l : List Ent} {r : Addr} {k : Nat} (H : Hp Z l h) (m : (r, IsGn k) ∈ l) : h.IsGen r k := by
  obtain ⟨_, e, nm, qn, rfl⟩ := H.here _ m
  exact ⟨_, nm, qn, e, rfl, rfl, rfl⟩

/-- a reader, on its way or through -/
def Rd (prog : Program) (w : World) (n : Nat) (Z₀ : Heap) (sdx : Addr) (N : Nat) (rem : List (Nat × Nat × Nat)) (p0 : Nat) (own : List Ent) (gs : GenState) : Prop :=
  Live prog w n Z₀ sdx N rem p0 own gs ∨ (gs = .finished ∧ rem = [] ∧ p0 = N ∧ own = [])

section
variable {prog : Program} {w : World} {A : Around} {E : Value → Shared → Prop} {Z₀ Z h : Heap} {g : Array GenState} {d : Drawn} {t : Nat} {o : OsState} {rest own : List Ent} {r sdx : Addr} {n k N p0 : Nat} {nm : Str} {row : Int} {rem : List (Nat × Nat × Nat)} {gs : GenState}

theorem n_rd {Q : Option Value → Shared → Prop} (hn : n ≤ 500) (ok : Ok n A.in1) (hh : A.handled = none) (hroom : A.depth < recursionLimit) (G : Gd w Z) (sub : Sub Z₀ Z) (H : Hp Z ((sdx, Row w.params nm row) :: (own ++ rest)) h) (hr : (r, IsGn k) ∈ rest) (hg : g[k]? = some gs)
    (hrd : Rd prog w n Z₀ sdx N rem p0 own gs)
    (hend : rem = [] → ∀ h' t' g' Z', Sub Z Z' → SetAt g k .finished g' → Hp Z' ((sdx, Row w.params nm (row + (N - p0 : Nat))) :: rest) h' → Q none ⟨h', g', d, t', o⟩)
    (hitem : ∀ x rem', rem = x :: rem' → ∀ v h' t' g' Z' own' gs', Sub Z Z' → SetAt g k gs' g' → Hp Z' ((sdx, Row w.params nm (row + (x.1 - p0 : Nat))) :: (own' ++ rest)) h' → CharV w.params Z' (nm, row + (x.1 - p0 : Nat), x.2.1, x.2.2) v →
      Rd prog w n Z₀ sdx N rem' x.1 own' gs' → Q (some v) ⟨h', g', d, t', o⟩) :
    wpAny (model prog w) A (pyNext (.ref r)) Q E ⟨h, g, d, t, o⟩ := by
  have hgen : h.IsGen r k := H.isGen (.tail _ (List.mem_append_right _ hr))
  unfold pyNext
  refine wpAny_bind (wpAny_attempt (wpAny_callSpecial?_slot (name := Str.ofString "__next__") hgen.typeIs slot_gen_next
    (wpAny_call_entry slot_gen_next hgen.typeIs entry_gen_next ?_ (args_gen_next _))))
  show wpAny _ A.in1 (Builtin.Generator.genWake (.ref r) (.send .none)) _ _ _
  unfold Builtin.Generator.genWake
  refine wpAny_bind (wpAny_holding (wpAny_genNumber hgen (wpAny_bind (wpAny_genState hg ?_))))
  have hl := (G.at H).lim
  rcases hrd with hlive | ⟨rfl, rfl, rfl, rfl⟩
  · rw [Live.at] at hlive
    have go := hlive A.in1 Z rest h (g.setIfInBounds k .running) d t o nm row ok sub H
    cases gs with
    | running => exact go.elim
    | finished => exact go.elim
    | fresh c =>
      refine wpAny_bind (wpAny_roomToWake hl hroom ?_)
      show wpAny _ A.in1 (.resume k (.send .none) [] _) _ _ _
      intro Γ p hΓ
      refine wake_any _ prog w hg (.inl ⟨rfl, rfl, rfl, rfl⟩) (fun Γ => Γ.In A.in1) (fun _ h => h) ?_ Γ p hΓ
      refine SegX.mono go fun e s' hP => ?_
      clear hΓ Γ p
      cases rem with
      | nil =>
        obtain ⟨rfl, h', t', Z', rfl, sub', H'⟩ := hP
        show wpAny _ A.in1 (newExc (.type "StopIteration") [] >>= _) _ _ _
        refine wpAny_bind ?_
        simp only [newExc, newTuple]
        refine wpAny_bind (wpAny_newObj_type ?_ (by size_fits))
        refine wpAny_bind (m := firstArgMember _ _) (wpAny_of_eq (a := Value.none) (by first | rfl | (simp only [firstArgMember]; rfl)) ?_)
        refine wpAny_newObj_type ?_ (by size_fits)
        simp only [raiseNew]
        refine wpAny_bind (wpAny_bind (wpAny_handled ?_))
        first | rw [show A.in1.handled = none from hh] | rw [hh]
        refine wpAny_throw ?_
        refine wpAny_bind (wpAny_isInstance (T := "StopIteration") (b := true) ⟨_, Heap.get?_push_size _ rfl, rfl⟩ isSubtype_stop ?_)
        exact wpAny_pure (hend rfl _ _ _ Z' sub' (SetAt.mk2 hg) ((H'.grow fun b o e => Heap.get?_push_of_some _ e).grow fun b o e => Heap.get?_push_of_some _ e))
      | cons x rem' =>
        obtain ⟨v, l, kk, c', pp, fs, rfl, h', t', Z', own', rfl, sub', H', hv, hlv⟩ := hP
        exact wpAny_pure ⟨v, rfl, wpAny_pure (hitem x rem' rfl v h' t' _ Z' own' _ sub' (SetAt.mk2 hg) H' hv (.inl hlv))⟩
    | suspended k₀ l₀ c p₀ fs₀ cl =>
      refine wpAny_bind (wpAny_roomToWake hl hroom ?_)
      show wpAny _ A.in1 (.resume k (.send .none) [] _) _ _ _
      intro Γ p hΓ
      refine wake_any _ prog w hg (.inr ⟨_, _, _, _, rfl, rfl⟩) (fun Γ => Γ.In A.in1) (fun _ h => h) ?_ Γ p hΓ
      refine SegX.mono go fun e s' hP => ?_
      clear hΓ Γ p
      cases rem with
      | nil =>
        obtain ⟨rfl, h', t', Z', rfl, sub', H'⟩ := hP
        show wpAny _ A.in1 (newExc (.type "StopIteration") [] >>= _) _ _ _
        refine wpAny_bind ?_
        simp only [newExc, newTuple]
        refine wpAny_bind (wpAny_newObj_type ?_ (by size_fits))
        refine wpAny_bind (m := firstArgMember _ _) (wpAny_of_eq (a := Value.none) (by first | rfl | (simp only [firstArgMember]; rfl)) ?_)
        refine wpAny_newObj_type ?_ (by size_fits)
        simp only [raiseNew]
        refine wpAny_bind (wpAny_bind (wpAny_handled ?_))
        first | rw [show A.in1.handled = none from hh] | rw [hh]
        refine wpAny_throw ?_
        refine wpAny_bind (wpAny_isInstance (T := "StopIteration") (b := true) ⟨_, Heap.get?_push_size _ rfl, rfl⟩ isSubtype_stop ?_)
        exact wpAny_pure (hend rfl _ _ _ Z' sub' (SetAt.mk2 hg) ((H'.grow fun b o e => Heap.get?_push_of_some _ e).grow fun b o e => Heap.get?_push_of_some _ e))
      | cons x rem' =>
        obtain ⟨v, l, kk, c', pp, fs, rfl, h', t', Z', own', rfl, sub', H', hv, hlv⟩ := hP
        exact wpAny_pure ⟨v, rfl, wpAny_pure (hitem x rem' rfl v h' t' _ Z' own' _ sub' (SetAt.mk2 hg) H' hv (.inl hlv))⟩
  · show wpAny _ A.in1 (.resume k (.send .none) [] _) _ _ _
    refine wake_fin hg ?_
    show wpAny _ A.in1 (newExc (.type "StopIteration") [] >>= _) _ _ _
    refine wpAny_bind ?_
    simp only [newExc, newTuple]
    refine wpAny_bind (wpAny_newObj_type ?_ (by size_fits))
    refine wpAny_bind (m := firstArgMember _ _) (wpAny_of_eq (a := Value.none) (by first | rfl | (simp only [firstArgMember]; rfl)) ?_)
    refine wpAny_newObj_type ?_ (by size_fits)
    simp only [raiseNew]
    refine wpAny_bind (wpAny_handled ?_)
    first | rw [show A.in1.handled = none from hh] | rw [hh]
    refine wpAny_bind (wpAny_pure (wpAny_throw ?_))
    refine wpAny_bind (wpAny_isInstance (T := "StopIteration") (b := true) ⟨_, Heap.get?_push_size _ rfl, rfl⟩ isSubtype_stop ?_)
    have hk : SetAt g k .finished g := ⟨rfl, hg, fun _ _ => rfl⟩
    have e0 : row + ((p0 - p0 : Nat) : Int) = row := by simp
    refine wpAny_pure (hend rfl _ _ _ Z (Sub.refl _) hk ?_)
    rw [e0]
    exact (H.grow fun b o e => Heap.get?_push_of_some _ e).grow fun b o e => Heap.get?_push_of_some _ e
end
end TNA
section TNB
section
variable {prog : Program} {w : World} {A : Around} {E : Value → Shared → Prop} {Z h : Heap} {g : Array GenState} {d : Drawn} {t : Nat} {o : OsState} {l l' : List Ent} {a b : Addr} {vs : List Value} {env : Env}

def IsSl (k : Int) : Obj → Prop := fun o => ∃ u, o = { cls := .type "slice", data := .fields #[.none, .int k u, .none] }
theorem ev_slice {k : Int} {q : Nat} {p1 p : Pos} {Q : Value → Shared → Prop} (H : Hp Z l h) (hq : ∀ a h' t', Hp Z ((a, IsSl k) :: l) h' → Q (.ref a) ⟨h', g, d, t', o⟩) :
    wpAny (model prog w) A (eval (.Slice none (some (.Constant (.int k) q p1)) none p) env) Q E ⟨h, g, d, t, o⟩ := by
  refine wpAny_Slice ?_
  rw [evalPart_none]
  refine wpAny_pure ?_
  show wpAny _ _ (eval (.Constant (.int k) q p1) env) _ _ _
  refine v_int fun u t' => ?_
  exact wpAny_pure (hq _ _ _ (H.push _ ⟨u, rfl⟩))
theorem sub_slice {k : Int} {value slice : Expr} {Q : Value → Shared → Prop} (H : Hp Z l h) (hl : h.IsList a vs.toArray) (hb : (b, IsSl k) ∈ l) (hz : vs.length ≤ 1000000)
    (hq : ∀ c h', Hp Z ((c, IsLs (slicePick vs.toArray none (some k) none).toList) :: l) h' → Q (.ref c) ⟨h', g, d, t, o⟩)
    (hs : subscripted slice false (.ref a) (.ref b) = operate [.ref b, .ref a] (getItem (.ref a) (.ref b)) := by with_unfolding_all rfl) :
    wpAny (model prog w) A (subscriptTail value slice (.ref a) (.ref b)) Q E ⟨h, g, d, t, o⟩ := by
  have hsz : sizeLine = 2 ^ 24 := rfl
  obtain ⟨_, eb, u, rfl⟩ := H.here _ hb
  refine tail_any hl.typeIs PySem.slot_list_getitem.lookup (wpAny_getItem_list_slice hl ⟨_, eb, rfl, rfl⟩ .none (.int k u) .none (by simp) ?_ (by rw [List.size_toArray]; omega)) hs
  exact hq _ _ (H.push _ ⟨0, by simp⟩)
theorem o_listCopy {Q : Value → Shared → Prop} (H : Hp Z l h) (ha : (a, IsLs vs) ∈ l) (hz : vs.length ≤ 1000000) (hq : ∀ c h', Hp Z ((c, IsLs vs) :: l) h' → Q (.ref c) ⟨h', g, d, t, o⟩) :
    wpAny (model prog w) A (call (.type "list") [.ref a]) Q E ⟨h, g, d, t, o⟩ := by
  have hsz : sizeLine = 2 ^ 24 := rfl
  obtain ⟨n, hl⟩ := H.isL ha
  exact call_list_seq a (.inl rfl) hl rfl rfl (fun h' c' hk hD => hq _ h' (H.add hk (Nat.le_refl _) hD ⟨c', rfl⟩)) (by rw [List.size_toArray]; omega)
end

theorem slice_ints_any {vs : List Value} {xs : List Int} (hi : IntsAre vs xs) (lo hi' st : Option Int) : ∃ ns, IntsAre (slicePick vs.toArray lo hi' st).toList ns ∧ ns.length ≤ xs.length := by
  have hall := hi.all
  have hm : ∀ v ∈ (slicePick vs.toArray lo hi' st).toList, ∃ n t, v = Value.int n t := fun v hv => by
    unfold slicePick at hv
    rw [List.toList_toArray] at hv
    obtain ⟨i, _, e⟩ := List.mem_filterMap.mp hv
    refine hall v (List.mem_of_getElem? (i := i) (by simpa using e))
  have h2 := slicePick_size_le vs.toArray lo hi' st
  refine ⟨_, intsAre_map _ hm, ?_⟩
  rw [List.length_map, Array.length_toList, ← hi.length]
  simpa using h2
theorem lineV_of {x : Str} {k : Tok} (h : LineOk x) : LineV x.cps.toList (.str x k) ∧ LnOk x.cps.toList := by
  obtain ⟨body, nl, e, h1, h2, h3⟩ := h
  refine ⟨⟨k, by rw [Array.toArray_toList]⟩, body, nl, e, h1, fun c hc => ?_, h3⟩
  have := h2 c hc
  unfold signsOf at this
  have h' : c = 97 ∨ c = 98 ∨ c = 9 ∨ c = 32 ∨ c = 233 ∨ c = 35 := by simpa using this
  rcases h' with rfl | rfl | rfl | rfl | rfl | rfl <;> decide
end TNB
section TNC
def ZL (Z : Heap) (a : Addr) (vs : List Value) : Prop := ∃ n, IsL Z a vs.toArray n
theorem ZL.keeps {Z Z' : Heap} {a : Addr} {vs : List Value} (s : Sub Z Z') (x : ZL Z a vs) : ZL Z' a vs := let ⟨n, e⟩ := x; ⟨n, s _ _ e⟩
theorem ZL.isList {Z : Heap} {a : Addr} {vs : List Value} (x : ZL Z a vs) : Z.IsList a vs.toArray := let ⟨n, e⟩ := x; ⟨_, e, rfl, n, rfl⟩
theorem Hp.frzX {Z h : Heap} {l : List Ent} {a : Addr} {vs : List Value} (H : Hp Z ((a, IsLs vs) :: l) h) : ∃ Z', Sub Z Z' ∧ Hp Z' l h ∧ ZL Z' a vs := by
  obtain ⟨Z', s, H', o, e, n, x⟩ := H.frz
  exact ⟨Z', s, H', n, e.trans (congrArg some x)⟩

section
variable {prog : Program} {w : World} {A : Around} {E : Value → Shared → Prop} {Z h : Heap} {g : Array GenState} {d : Drawn} {t : Nat} {o : OsState} {l l' : List Ent} {a b : Addr} {vs xs ys : List Value} {env : Env}
theorem o_concat {Q : Value → Shared → Prop} (H : Hp Z l h) (ha : ZL Z a xs) (hb : ZL Z b ys) (hz : xs.length + ys.length ≤ 1000000) (hq : ∀ c h', Hp Z ((c, IsLs (xs ++ ys)) :: l) h' → Q (.ref c) ⟨h', g, d, t, o⟩) :
    wpAny (model prog w) A (binaryOp .Add (.ref a) (.ref b)) Q E ⟨h, g, d, t, o⟩ := by
  have hs : sizeLine = 2 ^ 24 := rfl
  obtain ⟨n, ea⟩ := ha
  obtain ⟨n2, eb⟩ := hb
  exact P.add_list (H.keep _ _ ea) (H.keep _ _ eb) (hq _ _ (H.push _ ⟨0, by rw [List.append_toArray]⟩)) (by rw [List.size_toArray, List.size_toArray]; omega)
theorem o_truthZ {Q : Bool → Shared → Prop} (H : Hp Z l h) (e : Z.IsList a vs.toArray) (hz : vs.length ≤ sizeLine) (hq : ∀ t', Q (!vs.isEmpty) ⟨h, g, d, t', o⟩) : wpAny (model prog w) A (truthy (.ref a)) Q E ⟨h, g, d, t, o⟩ :=
  wpAny_truthy_list (e.at fun _ x => H.keep _ _ x) (by rw [List.size_toArray]; have : sizeLine = 2 ^ 24 := rfl; omega) (by rw [List.isEmpty_toArray]; exact hq _)
theorem o_lenZ {Q : Value → Shared → Prop} (H : Hp Z l h) (e : Z.IsList a vs.toArray) (hz : vs.length ≤ sizeLine) (hq : ∀ t' t'', Q (.int vs.length t'') ⟨h, g, d, t', o⟩) : wpAny (model prog w) A (call (.builtin "len") [.ref a]) Q E ⟨h, g, d, t, o⟩ :=
  PyProof.Rows.len_list (e.at fun _ x => H.keep _ _ x) (by rw [List.size_toArray]; have : sizeLine = 2 ^ 24 := rfl; omega) (by rw [List.size_toArray]; exact hq _ _)
end
theorem laid_lns {lines : List (List Nat)} (h : ∀ x ∈ lines, LnOk x) : ∀ x ∈ lines, x.length ≤ 5 := fun x hx => (h x hx).length

/-- what the frame of the law holds -/
structure LawFr (m : Str → Option Value) (begin : Int) (kb : Tok) (D1 D2 D3 sg ma : Addr) : Prop where
  fb : m "begin" = some (.int begin kb)
  fl : m "lines" = some (.ref D1)
  ff : m "further" = some (.ref D2)
  fs : m "beside" = some (.ref D3)
  fg : m "signs" = some (.ref sg)
  fm : m "moves" = some (.ref ma)
theorem three {k₁ k₂ k₃ : Tok} {N : Nat} (h : N < 3) : ∃ nm k, [Value.str "u.h" k₁, .str "" k₂, .str "t.c" k₃][N]? = some (.str nm k) ∧ PyData.strOk nm = true := by
  rcases (by omega : N = 0 ∨ N = 1 ∨ N = 2) with rfl | rfl | rfl
  · exact ⟨_, _, rfl, by decide +kernel⟩
  · exact ⟨_, _, rfl, by decide +kernel⟩
  · exact ⟨_, _, rfl, by decide +kernel⟩
end TNC
section TND
theorem laid_cat : ∀ (a b : List (List Nat)) (p : Nat), laid (a ++ b) p = laid a p ++ laid b (p + a.length)
  | [], b, p => by simp [laid]
  | x :: a, b, p => by
    show (laidLine x 1).map _ ++ laid (a ++ b) (p + 1) = ((laidLine x 1).map _ ++ laid a (p + 1)) ++ _
    rw [laid_cat a b, List.append_assoc, List.length_cons, show p + 1 + a.length = p + (a.length + 1) by omega]
theorem laid_shift (q : Nat) : ∀ (a : List (List Nat)) (p : Nat), laid a (p + q) = (laid a p).map fun x => (x.1 + q, x.2)
  | [], p => rfl
  | x :: a, p => by
    show (laidLine x 1).map _ ++ laid a (p + q + 1) = ((laidLine x 1).map _ ++ laid a (p + 1)).map _
    rw [List.map_append, List.map_map, ← laid_shift q a (p + 1), show p + q + 1 = p + 1 + q by omega]; rfl
theorem laid_bounds : ∀ (a : List (List Nat)) (p : Nat) (x : Nat × Nat × Nat), x ∈ laid a p → p ≤ x.1 ∧ x.1 < p + a.length
  | [], p, x, h => by cases h
  | l :: a, p, x, h => by
    rcases List.mem_append.mp (show x ∈ (laidLine l 1).map (fun y => (p, y)) ++ laid a (p + 1) from h) with h | h
    · obtain ⟨y, _, rfl⟩ := List.mem_map.mp h
      exact ⟨Nat.le_refl _, by rw [List.length_cons]; show p < _; omega⟩
    · have := laid_bounds a (p + 1) x h
      rw [List.length_cons]; omega
theorem laid_sorted : ∀ (a : List (List Nat)) (p : Nat), (laid a p).Pairwise fun x y => x.1 ≤ y.1
  | [], p => .nil
  | l :: a, p => by
    show ((laidLine l 1).map (fun y => (p, y)) ++ laid a (p + 1)).Pairwise _
    refine List.pairwise_append.mpr ⟨?_, laid_sorted a (p + 1), fun x hx y hy => ?_⟩
    · exact List.pairwise_map.mpr (List.pairwise_iff_getElem.mpr fun i j _ _ _ => Nat.le_refl _)
    · obtain ⟨z, _, rfl⟩ := List.mem_map.mp hx
      have := (laid_bounds a (p + 1) y hy).1
      show p ≤ y.1; omega

/-- what is told of the sign `j`: name, row, col, sign -/
def toldAt (sgs : List (Nat × Nat × Nat)) (mv : List (Nat × Int × Str)) (b : Int) (j : Nat) (x : Nat × Nat × Nat) : Str × Int × Nat × Nat := ((cur sgs mv b j).1, (cur sgs mv b j).2 + (x.1 : Int), x.2.1, x.2.2)
def told (sgs : List (Nat × Nat × Nat)) (mv : List (Nat × Int × Str)) (b : Int) : Nat → List (Nat × Nat × Nat) → List (Str × Int × Nat × Nat)
  | _, [] => []
  | j, x :: r => toldAt sgs mv b j x :: told sgs mv b (j + 1) r
theorem told_append {sgs : List (Nat × Nat × Nat)} {mv : List (Nat × Int × Str)} {b : Int} (x : Nat × Nat × Nat) : ∀ (l : List (Nat × Nat × Nat)) (j : Nat), told sgs mv b j (l ++ [x]) = told sgs mv b j l ++ [toldAt sgs mv b (j + l.length) x]
  | [], j => rfl
  | y :: l, j => by
    show toldAt sgs mv b j y :: told sgs mv b (j + 1) (l ++ [x]) = _
    rw [told_append x l (j + 1), List.length_cons, show j + 1 + l.length = j + (l.length + 1) by omega]; rfl
def asideOf (x : Nat × Nat × Nat) : Str × Int × Nat × Nat := ("own.c", 1 + (x.1 : Int), x.2.1, x.2.2)

section
variable {prog : Program} {w : World} {A : Around} {R : Result → Shared → Prop} {body : List Stmt} {env : Env} {x : Str} {px : Pos} {it : Value} {s : Shared}
/-- a `for` whose turns go down in some measure -/
theorem loop_dec {α : Type} (len : α → Nat) (I : α → Shared → Prop)
    (turn : ∀ a s, I a s → wpAny (model prog w) A (pyNext it) (fun r s₁ => match r with
      | none => R (.ok .next) s₁
      | some v => wpAny (model prog w) A (assign (.Name x px) env v) (fun _ s₂ => wpAny (model prog w) A (execs body env) (fun f s₃ => match f with
            | .next | .cont => ∃ a', len a' < len a ∧ I a' s₃
            | .brk => R (.ok .next) s₃
            | .ret v => R (.ok (.ret v)) s₃) (notedBy (model prog w) A env fun e s' => R (.error e) s') s₂) (notedBy (model prog w) A env fun e s' => R (.error e) s') s₁)
      (notedBy (model prog w) A env fun e s' => R (.error e) s') s) (a : α) (h : I a s) :
    codeAny (model prog w) A (.forLoop (.Name x px) it body [] env) R s := by
  refine codeAny_forLoop_any (fun n s => ∃ a, len a = n ∧ I a s) (fun n s hI => ?_) (len a) ⟨a, rfl, h⟩
  obtain ⟨a, rfl, hI⟩ := hI
  refine wpAny_mono (turn a s hI) (fun r s₁ h₁ => ?_) fun _ _ x => x
  cases r with
  | none => exact wpAny_execs_nil h₁
  | some v =>
    refine wpAny_pure (wpAny_mono h₁ (fun _ s₂ h₂ => wpAny_mono h₂ (fun f s₃ h₃ => ?_) fun _ _ x => x) fun _ _ x => x)
    cases f with
    | next => obtain ⟨a', h1, h2⟩ := h₃; exact ⟨_, h1, a', rfl, h2⟩
    | cont => obtain ⟨a', h1, h2⟩ := h₃; exact ⟨_, h1, a', rfl, h2⟩
    | brk => exact h₃
    | ret v => exact h₃
theorem i_gen {Z h : Heap} {g : Array GenState} {d : Drawn} {t : Nat} {o : OsState} {l : List Ent} {r : Addr} {k : Nat} {E : Value → Shared → Prop} {Q : Value → Shared → Prop} (H : Hp Z l h) (m : (r, IsGn k) ∈ l) (hq : Q (.ref r) ⟨h, g, d, t, o⟩) :
    wpAny (model prog w) A (pyIter (.ref r)) Q E ⟨h, g, d, t, o⟩ := wpAny_pyIter_gen (H.isGen m) hq
end
/-- the generators: some alive, the rest through -/
def Gs (g : Array GenState) (live : List (Nat × GenState)) : Prop := (∀ p ∈ live, g[p.1]? = some p.2) ∧ ∀ (k : Nat) y, g[k]? = some y → y = .finished ∨ ∃ p ∈ live, p.1 = k
theorem Gs.push {g : Array GenState} {live : List (Nat × GenState)} (x : Gs g live) (f : GenState) : Gs (g.push f) ((g.size, f) :: live) := by
  refine ⟨fun p hp => ?_, fun k y hy => ?_⟩
  · rcases List.mem_cons.mp hp with rfl | hp
    · simp
    · have := x.1 p hp
      have hlt := (Array.getElem?_eq_some_iff.mp this).1
      rw [Array.getElem?_push, if_neg (Nat.ne_of_lt hlt)]; exact this
  · rw [Array.getElem?_push] at hy
    split at hy
    · rename_i e; exact .inr ⟨_, .head _, e.symm⟩
    · rcases x.2 k y hy with h | ⟨p, hp, e⟩
      · exact .inl h
      · exact .inr ⟨p, .tail _ hp, e⟩
theorem Gs.first {g g' : Array GenState} {k : Nat} {gs gs' : GenState} {live : List (Nat × GenState)} (x : Gs g ((k, gs) :: live)) (hn : ∀ p ∈ live, p.1 ≠ k) (s : SetAt g k gs' g') : Gs g' ((k, gs') :: live) := by
  refine ⟨fun p hp => ?_, fun j y hy => ?_⟩
  · rcases List.mem_cons.mp hp with rfl | hp
    · exact s.2.1
    · rw [s.2.2 _ (hn p hp)]; exact x.1 p (.tail _ hp)
  · by_cases e : j = k
    · exact .inr ⟨_, .head _, e.symm⟩
    · rw [s.2.2 _ e] at hy
      rcases x.2 j y hy with h | ⟨p, hp, e'⟩
      · exact .inl h
      · rcases List.mem_cons.mp hp with rfl | hp
        · exact absurd e'.symm e
        · exact .inr ⟨p, .tail _ hp, e'⟩
theorem Gs.swap {g : Array GenState} {p q : Nat × GenState} {live : List (Nat × GenState)} (x : Gs g (p :: q :: live)) : Gs g (q :: p :: live) := by
  have m : ∀ r : Nat × GenState, r ∈ q :: p :: live ↔ r ∈ p :: q :: live := fun r => by simp [or_left_comm]
  exact ⟨fun r hr => x.1 r ((m r).mp hr), fun k y hy => (x.2 k y hy).imp id fun ⟨r, hr, e⟩ => ⟨r, (m r).mpr hr, e⟩⟩
theorem Gs.done {g g' : Array GenState} {k : Nat} {gs : GenState} {live : List (Nat × GenState)} (x : Gs g ((k, gs) :: live)) (hn : ∀ p ∈ live, p.1 ≠ k) (s : SetAt g k .finished g') : Gs g' live := by
  refine ⟨fun p hp => ?_, fun j y hy => ?_⟩
  · rw [s.2.2 _ (hn p hp)]; exact x.1 p (.tail _ hp)
  · by_cases e : j = k
    · subst e; rw [s.2.1] at hy; cases hy; exact .inl rfl
    · rw [s.2.2 _ e] at hy
      rcases x.2 j y hy with h | ⟨p, hp, e'⟩
      · exact .inl h
      · rcases List.mem_cons.mp hp with rfl | hp
        · exact absurd e'.symm e
        · exact .inr ⟨p, hp, e'⟩

/-- the frame of the law in its loops -/
structure LawF2 (m : Str → Option Value) (begin : Int) (kb : Tok) (D1 D2 D3 sg ma x y rr gt as : Addr) : Prop where
  F : LawFr m begin kb D1 D2 D3 sg ma
  fx : m "source" = some (.ref x)
  fy : m "own" = some (.ref y)
  fr : m "reader" = some (.ref rr)
  fgt : m "got" = some (.ref gt)
  fas : m "aside" = some (.ref as)
/-- the ledger in the loops of the law -/
abbrev LoopL (P : Params) (dx dy rr gt as L tp : Addr) (nm : Str) (row rowo : Int) (gvs avs : List Value) (m : Str → Option Value) (T : List Ent) : List Ent :=
  (dx, Row P nm row) :: (dy, Row P "own.c" rowo) :: (rr, IsGn 0) :: (gt, IsLs gvs) :: (as, IsLs avs) :: (L, IsFr m) :: (L + 1, IsCe (some (.ref tp))) :: T
/-- the state of the reader `beside`: `k` signs are drawn -/
def Bs (prog : Program) (w : World) (Z₁ Z : Heap) (dy : Addr) (N : Nat) (all : List (Nat × Nat × Nat)) (k p0 : Nat) (own : List Ent) (gs : GenState) (avs : List Value) : Prop :=
  Rd prog w 40 Z₁ dy N (all.drop k) p0 own gs ∧ k ≤ all.length ∧ (∀ x ∈ all.drop k, p0 ≤ x.1) ∧ p0 ≤ N ∧ Paired (CharV w.params Z) ((all.take k).map asideOf) avs
theorem Bs.keeps {prog : Program} {w : World} {Z₁ Z Z' : Heap} {dy : Addr} {N : Nat} {all : List (Nat × Nat × Nat)} {k p0 : Nat} {own : List Ent} {gs : GenState} {avs : List Value} (s : Sub Z Z') (x : Bs prog w Z₁ Z dy N all k p0 own gs avs) : Bs prog w Z₁ Z' dy N all k p0 own gs avs :=
  ⟨x.1, x.2.1, x.2.2.1, x.2.2.2.1, Paired.mono (CharV.keeps s) x.2.2.2.2⟩
end TND
section TNE
/-- what the lines of the two loops do, each by itself -/
structure LawW (prog : Program) (w : World) (A : Around) (d : Drawn) (o : OsState) (Z₁ : Heap) (env : Env) (begin : Int) (kb : Tok) (D1 D2 D3 sg ma x y rr gt as dx dy L tp : Addr) (mv : List (Nat × Int × Str)) (N : Nat) (all : List (Nat × Nat × Nat))
    (tpart tchar : Expr) (iterC : Expr) (S1 S2 S3 : Stmt) : Prop where
  part : ∀ E Z h g t nm row rowo gvs avs m T v (Q : Unit → Shared → Prop), LawF2 m begin kb D1 D2 D3 sg ma x y rr gt as → Hp Z (LoopL w.params dx dy rr gt as L tp nm row rowo gvs avs m T) h →
    (∀ m' h' t', LawF2 m' begin kb D1 D2 D3 sg ma x y rr gt as → m' "part" = some v → Hp Z (LoopL w.params dx dy rr gt as L tp nm row rowo gvs avs m' T) h' → Q () ⟨h', g, d, t', o⟩) → wpAny (model prog w) A (assign tpart env v) Q E ⟨h, g, d, t, o⟩
  char : ∀ E Z h g t nm row rowo gvs avs m T v (Q : Unit → Shared → Prop), LawF2 m begin kb D1 D2 D3 sg ma x y rr gt as → Hp Z (LoopL w.params dx dy rr gt as L tp nm row rowo gvs avs m T) h →
    (∀ m' h' t', LawF2 m' begin kb D1 D2 D3 sg ma x y rr gt as → m' "char" = some v → Hp Z (LoopL w.params dx dy rr gt as L tp nm row rowo gvs avs m' T) h' → Q () ⟨h', g, d, t', o⟩) → wpAny (model prog w) A (assign tchar env v) Q E ⟨h, g, d, t, o⟩
  iter : ∀ E Z h g t nm row rowo gvs avs m T Dp lines lvs (Q : Value → Shared → Prop), Sub Z₁ Z → LawF2 m begin kb D1 D2 D3 sg ma x y rr gt as → m "part" = some (.ref Dp) → Z.IsList Dp lvs.toArray → Paired LineV lines lvs → (∀ x ∈ lines, LnOk x) →
    Hp Z (LoopL w.params dx dy rr gt as L tp nm row rowo gvs avs m T) h →
    (∀ rg h' t' C mC code, Hp Z ((rg, IsGn g.size) :: (C, IsFr mC) :: LoopL w.params dx dy rr gt as L tp nm row rowo gvs avs m T) h' → Live prog w 40 Z dx lines.length (laid lines 0) 0 [(C, IsFr mC)] (.fresh code) → Q (.ref rg) ⟨h', g.push (.fresh code), d, t', o⟩) →
    wpAny (model prog w) A (eval iterC env) Q E ⟨h, g, d, t, o⟩
  fold : ∀ x, foldedSetIterable iterC env x = pure x
  s1 : ∀ E Z h g t nm row rowo gvs avs m T v (Q : Flow → Shared → Prop), Sub Z₁ Z → LawF2 m begin kb D1 D2 D3 sg ma x y rr gt as → m "char" = some v → gvs.length ≤ 1000 → Hp Z (LoopL w.params dx dy rr gt as L tp nm row rowo gvs avs m T) h →
    (∀ h' t', Hp Z (LoopL w.params dx dy rr gt as L tp nm row rowo (gvs ++ [v]) avs m T) h' → Q .next ⟨h', g, d, t', o⟩) → wpAny (model prog w) A (exec S1 env) Q E ⟨h, g, d, t, o⟩
  s2 : ∀ E Z h g t nm row rowo gvs avs m T j (Q : Flow → Shared → Prop), Sub Z₁ Z → LawF2 m begin kb D1 D2 D3 sg ma x y rr gt as → gvs.length = j + 1 → j ≤ 1000 → Hp Z (LoopL w.params dx dy rr gt as L tp nm row rowo gvs avs m T) h →
    (∀ h' t' nm' row', (moveAt mv j = none → nm' = nm ∧ row' = row) → (∀ z, moveAt mv j = some z → nm' = z.2 ∧ row' = z.1) → Hp Z (LoopL w.params dx dy rr gt as L tp nm' row' rowo gvs avs m T) h' → Q .next ⟨h', g, d, t', o⟩) →
    wpAny (model prog w) A (exec S2 env) Q E ⟨h, g, d, t, o⟩
  s3 : ∀ E Z h g t nm row gvs avs m T k p0 own gs live (Q : Flow → Shared → Prop), Sub Z₁ Z → LawF2 m begin kb D1 D2 D3 sg ma x y rr gt as → Bs prog w Z₁ Z dy N all k p0 own gs avs → Gs g ((0, gs) :: live) → (∀ p ∈ live, p.1 ≠ 0) →
    Hp Z (LoopL w.params dx dy rr gt as L tp nm row (1 + (p0 : Int)) gvs avs m (own ++ T)) h →
    (∀ h' t' g' Z' k' p0' own' gs' avs' m', Sub Z Z' → LawF2 m' begin kb D1 D2 D3 sg ma x y rr gt as → Bs prog w Z₁ Z' dy N all k' p0' own' gs' avs' → Gs g' ((0, gs') :: live) →
      Hp Z' (LoopL w.params dx dy rr gt as L tp nm row (1 + (p0' : Int)) gvs avs' m' (own' ++ T)) h' → Q .next ⟨h', g', d, t', o⟩) →
    wpAny (model prog w) A (exec S3 env) Q E ⟨h, g, d, t, o⟩

section
variable {prog : Program} {w : World} {A : Around} {d : Drawn} {o : OsState} {Z₁ : Heap} {env : Env} {begin : Int} {kb : Tok} {D1 D2 D3 sg ma x y rr gt as dx dy L tp : Addr} {mv : List (Nat × Int × Str)} {N : Nat} {all : List (Nat × Nat × Nat)}
  {xp xc : Str} {pp pc : Pos} {iterC : Expr} {S1 S2 S3 : Stmt} {R : Result → Shared → Prop} {n : Nat} {l : List Ent} {sgs : List (Nat × Nat × Nat)}

theorem inner_loop (W : LawW prog w A d o Z₁ env begin kb D1 D2 D3 sg ma x y rr gt as dx dy L tp mv N all (.Name xp pp) (.Name xc pc) iterC S1 S2 S3) (ok : Ok n A) (hn : n ≤ 20) (G₁ : Gd w Z₁)
    {ps : List (List Nat)} {b c : Nat} (hsg : ∀ (i : Nat) z, (laid ps 0)[i]? = some z → sgs[c + i]? = some (z.1 + b, z.2)) (hsl : sgs.length ≤ 1000) {Zp : Heap} {rg kc : Nat} (hkc : kc ≠ 0) (hZ : Sub Z₁ Zp)
    (hend : ∀ Z h g t gvs avs m k p0 own gs, Sub Zp Z → LawF2 m begin kb D1 D2 D3 sg ma x y rr gt as → Bs prog w Z₁ Z dy N all k p0 own gs avs → Gs g [(0, gs)] →
      Paired (CharV w.params Z) (told sgs mv begin 0 (sgs.take (c + (laid ps 0).length))) gvs →
      Hp Z (LoopL w.params dx dy rr gt as L tp (cur sgs mv begin (c + (laid ps 0).length)).1 ((cur sgs mv begin (c + (laid ps 0).length)).2 + (b : Int) + (ps.length : Int)) (1 + (p0 : Int)) gvs avs m (own ++ l)) h → R (.ok .next) ⟨h, g, d, t, o⟩)
    {Z h : Heap} {g : Array GenState} {t : Nat} {gvs avs : List Value} {m : Str → Option Value} {k p0 : Nat} {own ownc : List Ent} {gs gsc : GenState} (sub : Sub Zp Z) (hF : LawF2 m begin kb D1 D2 D3 sg ma x y rr gt as) (hB : Bs prog w Z₁ Z dy N all k p0 own gs avs)
    (hG : Gs g [(kc, gsc), (0, gs)]) (hR : Rd prog w 40 Zp dx ps.length (laid ps 0) 0 ownc gsc) (hgv : Paired (CharV w.params Z) (told sgs mv begin 0 (sgs.take c)) gvs)
    (H : Hp Z (LoopL w.params dx dy rr gt as L tp (cur sgs mv begin c).1 ((cur sgs mv begin c).2 + (b : Int)) (1 + (p0 : Int)) gvs avs m ((rg, IsGn kc) :: (ownc ++ (own ++ l)))) h) :
    codeAny (model prog w) A (.forLoop (.Name xc pc) (.ref rg) [S1, S2, S3] [] env) R ⟨h, g, d, t, o⟩ := by
  refine loop_dec (α := Nat) (fun i => (laid ps 0).length - i) (fun i s => i ≤ (laid ps 0).length ∧ ∃ Z h g t gvs avs m k p0 own gs q ownc gsc, s = ⟨h, g, d, t, o⟩ ∧ Sub Zp Z ∧ LawF2 m begin kb D1 D2 D3 sg ma x y rr gt as ∧ Bs prog w Z₁ Z dy N all k p0 own gs avs ∧
    Gs g [(kc, gsc), (0, gs)] ∧ Rd prog w 40 Zp dx ps.length ((laid ps 0).drop i) q ownc gsc ∧ (∀ z ∈ (laid ps 0).drop i, q ≤ z.1) ∧ q ≤ ps.length ∧ Paired (CharV w.params Z) (told sgs mv begin 0 (sgs.take (c + i))) gvs ∧
    Hp Z (LoopL w.params dx dy rr gt as L tp (cur sgs mv begin (c + i)).1 ((cur sgs mv begin (c + i)).2 + (b : Int) + (q : Int)) (1 + (p0 : Int)) gvs avs m ((rg, IsGn kc) :: (ownc ++ (own ++ l)))) h) ?_ 0
    ⟨Nat.zero_le _, Z, h, g, t, gvs, avs, m, k, p0, own, gs, 0, ownc, gsc, rfl, sub, hF, hB, hG, hR, fun _ _ => Nat.zero_le _, Nat.zero_le _, hgv, by simpa using H⟩
  clear hF hB hG hR hgv H sub
  rintro i _ ⟨hi, Z, h, g, t, gvs, avs, m, k, p0, own, gs, q, ownc, gsc, rfl, sub, hF, hB, hG, hR, hq, hqN, hgv, H⟩
  have G := G₁.keeps (hZ.trans sub)
  have H1 : Hp Z ((dx, Row w.params (cur sgs mv begin (c + i)).1 ((cur sgs mv begin (c + i)).2 + (b : Int) + (q : Int))) :: (ownc ++ ([(dy, Row w.params "own.c" (1 + (p0 : Int))), (rr, IsGn 0), (gt, IsLs gvs), (as, IsLs avs), (L, IsFr m), (L + 1, IsCe (some (.ref tp))), (rg, IsGn kc)] ++ (own ++ l)))) h :=
    H.perm (List.Perm.cons _ (List.perm_append_comm_assoc _ _ _))
  have hg1 : g[kc]? = some gsc := hG.1 (kc, gsc) (.head _)
  have hnk : ∀ p ∈ [((0 : Nat), gs)], p.1 ≠ kc := fun p hp => by rw [List.mem_singleton.mp hp]; exact Ne.symm hkc
  refine n_rd (by decide) (ok.in1.mono (by omega)) ok.h (ok.room (by omega)) G sub H1 (by simp) hg1 hR (fun hnil h' t' g' Z' s' hset H2 => ?_) (fun z rem' hcons v h' t' g' Z' own' gs' s' hset H2 hch hR' => ?_)
  · have hil : i = (laid ps 0).length := by
      have := congrArg List.length hnil
      rw [List.length_drop, List.length_nil] at this
      omega
    subst hil
    refine hend Z' h' g' t' gvs avs m k p0 own gs (sub.trans s') hF (hB.keeps s') (hG.done hnk hset) (Paired.mono (CharV.keeps s') hgv) ?_
    have e1 : (cur sgs mv begin (c + (laid ps 0).length)).2 + (b : Int) + (q : Int) + ((ps.length - q : Nat) : Int) = (cur sgs mv begin (c + (laid ps 0).length)).2 + (b : Int) + (ps.length : Int) := by omega
    rw [e1] at H2
    exact H2.sublist (.cons_cons _ (.cons_cons _ (.cons_cons _ (.cons_cons _ (.cons_cons _ (.cons_cons _ (.cons_cons _ (.cons _ (.refl _)))))))))
  · have hil : i < (laid ps 0).length := by
      have := congrArg List.length hcons
      rw [List.length_drop, List.length_cons] at this
      omega
    have hz : (laid ps 0)[i]? = some z := by
      have e := congrArg (fun l => l[0]?) hcons
      simpa [List.getElem?_drop] using e
    have hrem : (laid ps 0).drop (i + 1) = rem' := by
      have e := congrArg List.tail hcons
      rw [List.tail_drop] at e; exact e
    have hsz := hsg i z hz
    have hqz : q ≤ z.1 := hq z (by rw [hcons]; exact .head _)
    have hzb := laid_bounds ps 0 z (List.mem_of_getElem? hz)
    have hjl : c + i < sgs.length := (List.getElem?_eq_some_iff.mp hsz).1
    have htk : sgs.take (c + i + 1) = sgs.take (c + i) ++ [(z.1 + b, z.2)] := by rw [List.take_add_one, hsz, Option.toList_some]
    have hgl : gvs.length = c + i := by
      have e := hgv.length
      have et : ∀ (l : List (Nat × Nat × Nat)) (j : Nat), (told sgs mv begin j l).length = l.length := fun l => by
        induction l with
        | nil => intro j; rfl
        | cons y l ih => intro j; show (told sgs mv begin (j + 1) l).length + 1 = _; rw [ih, List.length_cons]
      rw [et, List.length_take] at e
      omega
    have hsrt : ∀ u ∈ rem', z.1 ≤ u.1 := by
      have hp := (laid_sorted ps 0).sublist (List.drop_sublist i _)
      rw [hcons] at hp
      exact (List.pairwise_cons.mp hp).1
    have e1 : (cur sgs mv begin (c + i)).2 + (b : Int) + (q : Int) + ((z.1 - q : Nat) : Int) = (cur sgs mv begin (c + i)).2 + (b : Int) + (z.1 : Int) := by omega
    rw [e1] at H2 hch
    have H3 : Hp Z' (LoopL w.params dx dy rr gt as L tp (cur sgs mv begin (c + i)).1 ((cur sgs mv begin (c + i)).2 + (b : Int) + (z.1 : Int)) (1 + (p0 : Int)) gvs avs m ((rg, IsGn kc) :: (own' ++ (own ++ l)))) h' :=
      H2.perm (List.Perm.cons _ (List.perm_append_comm_assoc own' [(dy, Row w.params "own.c" (1 + (p0 : Int))), (rr, IsGn 0), (gt, IsLs gvs), (as, IsLs avs), (L, IsFr m), (L + 1, IsCe (some (.ref tp))), (rg, IsGn kc)] (own ++ l)).symm)
    have subA := hZ.trans (sub.trans s')
    refine W.char _ Z' h' g' t' _ _ _ gvs avs m _ v _ hF H3 fun m₁ h₁ t₁ hF₁ hc₁ H₄ => ?_
    refine wpAny_execs_cons (W.s1 _ Z' h₁ g' t₁ _ _ _ gvs avs m₁ _ v _ subA hF₁ hc₁ (by omega) H₄ fun h₂ t₂ H₅ => ?_)
    refine wpAny_execs_cons (W.s2 _ Z' h₂ g' t₂ _ _ _ (gvs ++ [v]) avs m₁ _ (c + i) _ subA hF₁ (by rw [List.length_append, hgl]; rfl) (by omega) H₅ fun h₃ t₃ nm' row' hm1 hm2 H₆ => ?_)
    have H₇ : Hp Z' (LoopL w.params dx dy rr gt as L tp nm' row' (1 + (p0 : Int)) (gvs ++ [v]) avs m₁ (own ++ ((rg, IsGn kc) :: (own' ++ l)))) h₃ :=
      H₆.perm (List.Perm.cons _ (List.Perm.cons _ (List.Perm.cons _ (List.Perm.cons _ (List.Perm.cons _ (List.Perm.cons _ (List.Perm.cons _ (List.perm_append_comm_assoc own ((rg, IsGn kc) :: own') l))))))))
    have hG' : Gs g' [(0, gs), (kc, gs')] := (hG.first hnk hset).swap
    refine wpAny_execs_cons (W.s3 _ Z' h₃ g' t₃ _ _ (gvs ++ [v]) avs m₁ _ k p0 own gs [(kc, gs')] _ subA hF₁ (hB.keeps s') hG' (fun p hp => by rw [List.mem_singleton.mp hp]; exact hkc) H₇ fun h₄ t₄ g₄ Z₄ k₄ p₄ own₄ gs₄ avs₄ m₄ s₄ hF₄ hB₄ hG₄ H₈ => ?_)
    refine wpAny_execs_nil ?_
    refine ⟨i + 1, by omega, hil, Z₄, h₄, g₄, t₄, gvs ++ [v], avs₄, m₄, k₄, p₄, own₄, gs₄, z.1, own', gs', rfl, sub.trans (s'.trans s₄), hF₄, hB₄, hG₄.swap, by rw [hrem]; exact hR', by rw [hrem]; exact hsrt, by omega, ?_, ?_⟩
    · rw [show c + (i + 1) = c + i + 1 by omega, htk, told_append]
      refine Paired.append (Paired.mono (CharV.keeps (s'.trans s₄)) hgv) (.cons ?_ .nil)
      have hl0 : 0 + (sgs.take (c + i)).length = c + i := by rw [List.length_take]; omega
      rw [hl0]
      have := CharV.keeps s₄ _ _ hch
      unfold toldAt
      have e2 : (cur sgs mv begin (c + i)).2 + ((z.1 + b : Nat) : Int) = (cur sgs mv begin (c + i)).2 + (b : Int) + (z.1 : Int) := by push_cast; omega
      show CharV w.params Z₄ ((cur sgs mv begin (c + i)).1, (cur sgs mv begin (c + i)).2 + ((z.1 + b : Nat) : Int), z.2.1, z.2.2) v
      rw [e2]
      exact this
    · have hpa : passedAt sgs (c + i) = z.1 + b := by unfold passedAt; rw [hsz]; rfl
      have hcur : (cur sgs mv begin (c + (i + 1))).1 = nm' ∧ (cur sgs mv begin (c + (i + 1))).2 + (b : Int) + (z.1 : Int) = row' := by
        show (match moveAt mv (c + i) with | some x => ((x.2, x.1 - passedAt sgs (c + i)) : Str × Int) | none => cur sgs mv begin (c + i)).1 = nm' ∧ (match moveAt mv (c + i) with | some x => ((x.2, x.1 - passedAt sgs (c + i)) : Str × Int) | none => cur sgs mv begin (c + i)).2 + (b : Int) + (z.1 : Int) = row'
        cases e : moveAt mv (c + i) with
        | none => obtain ⟨r1, r2⟩ := hm1 e; exact ⟨r1.symm, r2.symm⟩
        | some u =>
          obtain ⟨r1, r2⟩ := hm2 u e
          refine ⟨r1.symm, ?_⟩
          rw [hpa, r2]; push_cast; show u.1 - ((z.1 : Int) + (b : Int)) + (b : Int) + (z.1 : Int) = u.1; omega
      rw [hcur.1, hcur.2]
      exact H₈.perm (List.Perm.cons _ (List.Perm.cons _ (List.Perm.cons _ (List.Perm.cons _ (List.Perm.cons _ (List.Perm.cons _ (List.Perm.cons _ (List.perm_append_comm_assoc own₄ ((rg, IsGn kc) :: own') l).symm)))))))

/-- where the loop over the two parts stands -/
def PartJ (prog : Program) (w : World) (Z₁ : Heap) (begin : Int) (kb : Tok) (D1 D2 D3 sg ma x y rr gt as dx dy L tp : Addr) (mv : List (Nat × Int × Str)) (N : Nat) (all sgs : List (Nat × Nat × Nat)) (lines further : List (List Nat)) (l : List Ent)
    (i : Nat) (Z' : Heap) (l' : List Ent) (g' : Array GenState) : Prop := ∃ (gvs avs : List Value) (m : Str → Option Value) (k p0 : Nat) (own : List Ent) (gs : GenState), l' = LoopL w.params dx dy rr gt as L tp (cur sgs mv begin (if i = 0 then 0 else if i = 1 then (laid lines 0).length else sgs.length)).1
      ((cur sgs mv begin (if i = 0 then 0 else if i = 1 then (laid lines 0).length else sgs.length)).2 + ((if i = 0 then 0 else if i = 1 then lines.length else lines.length + further.length : Nat) : Int)) (1 + (p0 : Int)) gvs avs m (own ++ l) ∧
      LawF2 m begin kb D1 D2 D3 sg ma x y rr gt as ∧ Bs prog w Z₁ Z' dy N all k p0 own gs avs ∧ Gs g' [(0, gs)] ∧ Paired (CharV w.params Z') (told sgs mv begin 0 (sgs.take (if i = 0 then 0 else if i = 1 then (laid lines 0).length else sgs.length))) gvs

theorem main_loop (W : LawW prog w A d o Z₁ env begin kb D1 D2 D3 sg ma x y rr gt as dx dy L tp mv N all (.Name xp pp) (.Name xc pc) iterC S1 S2 S3) (ok : Ok n A) (hn : n ≤ 20) (G₁ : Gd w Z₁)
    {lines further : List (List Nat)} {lvs fvs : List Value} {pl it : Addr} {pf : Pos} (hsgs : sgs = laid (lines ++ further) 0) (hsl : sgs.length ≤ 1000) (h1 : Z₁.IsList D1 lvs.toArray) (p1 : Paired LineV lines lvs) (k1 : ∀ x ∈ lines, LnOk x)
    (h2 : Z₁.IsList D2 fvs.toArray) (p2 : Paired LineV further fvs) (k2 : ∀ x ∈ further, LnOk x) (hpl : Z₁.IsList pl [Value.ref D1, .ref D2].toArray)
    {h : Heap} {g : Array GenState} {t : Nat} {gvs avs : List Value} {m : Str → Option Value} {own : List Ent} {gs : GenState} (hF : LawF2 m begin kb D1 D2 D3 sg ma x y rr gt as) (hB : Bs prog w Z₁ Z₁ dy N all 0 0 own gs []) (hG : Gs g [(0, gs)])
    (H : Hp Z₁ ((it, ItL pl 0) :: LoopL w.params dx dy rr gt as L tp "t.c" begin 1 [] [] m (own ++ l)) h)
    (hend : ∀ Z h g t gvs avs m k p0 own gs, Sub Z₁ Z → LawF2 m begin kb D1 D2 D3 sg ma x y rr gt as → Bs prog w Z₁ Z dy N all k p0 own gs avs → Gs g [(0, gs)] → Paired (CharV w.params Z) (told sgs mv begin 0 sgs) gvs →
      Hp Z (LoopL w.params dx dy rr gt as L tp (cur sgs mv begin sgs.length).1 ((cur sgs mv begin sgs.length).2 + ((lines.length + further.length : Nat) : Int)) (1 + (p0 : Int)) gvs avs m (own ++ l)) h → R (.ok .next) ⟨h, g, d, t, o⟩) :
    codeAny (model prog w) A (.forLoop (.Name xp pp) (.ref it) [.For (.Name xc pc) iterC [S1, S2, S3] [] pf] [] env) R ⟨h, g, d, t, o⟩ := by
  have hs2 : sgs = laid lines 0 ++ (laid further 0).map fun x => (x.1 + lines.length, x.2) := by rw [hsgs, laid_cat, laid_shift]
  have hlen : sgs.length = (laid lines 0).length + (laid further 0).length := by rw [hs2, List.length_append, List.length_map]
  refine loop_list (PartJ prog w Z₁ begin kb D1 D2 D3 sg ma x y rr gt as dx dy L tp mv N all sgs lines further l) ok.h H hpl
    ⟨[], [], m, 0, 0, own, gs, by simp [cur], hF, hB, hG, by simpa [told] using Paired.nil⟩ ?_ ?_
  · rintro i v Z l' h g t hv sub ⟨gvs, avs, m, k, p0, own, gs, rfl, hF, hB, hG, hgv⟩ H
    have hi : i = 0 ∨ i = 1 := by
      have := (List.getElem?_eq_some_iff.mp hv).1
      simp at this; omega
    have Hx := H.perm (List.perm_append_comm_assoc [(it, ItL pl (i + 1))] [_, _, _, _, _, _, _] (own ++ l)).symm
    refine W.part _ Z h g t _ _ _ gvs avs m _ v _ hF Hx fun m₁ h₁ t₁ hF₁ hpart H₁ => ?_
    have hg0 : g.size ≠ 0 := by
      have := (Array.getElem?_eq_some_iff.mp (hG.1 (0, gs) (.head _))).1
      omega
    have step : ∀ (Dp : Addr) (ps : List (List Nat)) (pvs : List Value) (b c : Nat), v = .ref Dp → Z₁.IsList Dp pvs.toArray → Paired LineV ps pvs → (∀ x ∈ ps, LnOk x) →
        c = (if i = 0 then 0 else if i = 1 then (laid lines 0).length else sgs.length) → b = (if i = 0 then 0 else if i = 1 then lines.length else lines.length + further.length) →
        c + (laid ps 0).length = (if i + 1 = 0 then 0 else if i + 1 = 1 then (laid lines 0).length else sgs.length) → b + ps.length = (if i + 1 = 0 then 0 else if i + 1 = 1 then lines.length else lines.length + further.length) →
        (∀ (j : Nat) z, (laid ps 0)[j]? = some z → sgs[c + j]? = some (z.1 + b, z.2)) →
        wpAny (model prog w) A (execs [.For (.Name xc pc) iterC [S1, S2, S3] [] pf] env) (fun f s₃ => match f with
            | .next | .cont => Next Z₁ (PartJ prog w Z₁ begin kb D1 D2 D3 sg ma x y rr gt as dx dy L tp mv N all sgs lines further l) (fun i => [(it, ItL pl i)]) d o (i + 1) s₃
            | .brk => R (.ok .next) s₃
            | .ret v => R (.ok (.ret v)) s₃) (notedBy (model prog w) A env fun e s' => R (.error e) s') ⟨h₁, g, d, t₁, o⟩ := by
      intro Dp ps pvs b c ev hl hp hk ec eb ec' eb' hsg
      subst ev
      rw [← ec, ← eb] at H₁
      rw [← ec] at hgv
      refine wpAny_execs_cons (wpAny_For (W.iter _ Z h₁ g t₁ _ _ _ gvs avs m₁ _ Dp ps pvs _ sub hF₁ hpart (hl.at fun _ e => sub _ _ e) hp hk H₁ fun rg h₂ t₂ C mC code H₂ hlive => ?_) W.fold)
      refine i_gen H₂ (.head _) ?_
      have H₃ := H₂.perm ((List.perm_append_comm_assoc [(rg, IsGn g.size), (C, IsFr mC)] [_, _, _, _, _, _, _] ((it, ItL pl (i + 1)) :: (own ++ l))).trans
        (List.Perm.append_left _ (List.Perm.append_left [(rg, IsGn g.size), (C, IsFr mC)] (List.perm_middle (l₁ := own) (a := (it, ItL pl (i + 1))) (l₂ := l)).symm)) |>.symm)
      refine inner_loop W ok hn G₁ (l := (it, ItL pl (i + 1)) :: l) (ps := ps) (b := b) (c := c) hsg hsl (Zp := Z) (rg := rg) hg0 sub ?_ (Sub.refl _) hF₁ hB (hG.push _) (.inl hlive) hgv H₃
      intro Z₄ h₄ g₄ t₄ gvs₄ avs₄ m₄ k₄ p₄ own₄ gs₄ s₄ hF₄ hB₄ hG₄ hgv₄ H₄
      refine wpAny_execs_nil ?_
      rw [ec'] at hgv₄ H₄
      have e2 : (cur sgs mv begin (if i + 1 = 0 then 0 else if i + 1 = 1 then (laid lines 0).length else sgs.length)).2 + (b : Int) + (ps.length : Int) = (cur sgs mv begin (if i + 1 = 0 then 0 else if i + 1 = 1 then (laid lines 0).length else sgs.length)).2 + ((b + ps.length : Nat) : Int) := by push_cast; omega
      rw [e2, eb'] at H₄
      refine ⟨Z₄, _, h₄, g₄, t₄, rfl, sub.trans s₄, ⟨gvs₄, avs₄, m₄, k₄, p₄, own₄, gs₄, rfl, hF₄, hB₄, hG₄, hgv₄⟩, ?_⟩
      refine H₄.perm ?_
      exact ((List.Perm.append_left _ (List.perm_middle (l₁ := own₄) (a := (it, ItL pl (i + 1))) (l₂ := l))).trans (List.perm_append_comm_assoc [_, _, _, _, _, _, _] [(it, ItL pl (i + 1))] (own₄ ++ l))).symm
    rcases hi with rfl | rfl
    · have ev : v = .ref D1 := by simpa using hv.symm
      refine step D1 lines lvs 0 0 ev h1 p1 k1 rfl rfl (by simp) (by simp) fun j z hz => ?_
      rw [hs2, Nat.zero_add, List.getElem?_append_left (List.getElem?_eq_some_iff.mp hz).1]; exact hz
    · have ev : v = .ref D2 := by simpa using hv.symm
      refine step D2 further fvs lines.length (laid lines 0).length ev h2 p2 k2 rfl rfl (by simp [hlen]) (by simp) fun j z hz => ?_
      rw [hs2, List.getElem?_append_right (Nat.le_add_right _ _), Nat.add_sub_cancel_left, List.getElem?_map, hz]; rfl
  · rintro Z l' h g t sub ⟨gvs, avs, m, k, p0, own, gs, rfl, hF, hB, hG, hgv⟩ H
    have e2 : ([Value.ref D1, .ref D2] : List Value).length = 2 := rfl
    simp only [e2, show ¬ (2 : Nat) = 0 by decide, show ¬ (2 : Nat) = 1 by decide, if_false] at hgv H
    rw [List.take_length] at hgv
    exact hend Z h g t gvs avs m k p0 own gs sub hF hB hG hgv H
end
end TNE
section TNF
open PySem.W.X
theorem GoesX.mono {M : Model} {A : Around} {gs : GenState} {P P' : End → Shared → Prop} {s : Shared} (x : GoesX M A gs P s) (h : ∀ e s', P e s' → P' e s') : GoesX M A gs P' s := by
  cases gs with
  | fresh c => exact SegX.mono x h
  | suspended k l c p fs cl => exact SegX.mono x h
  | running => exact x
  | finished => exact x
theorem Live.up {prog : Program} {w : World} {n : Nat} {Z₀ Z₁ : Heap} {sdx : Addr} {N : Nat} (s : Sub Z₀ Z₁) : ∀ (rem : List (Nat × Nat × Nat)) (p0 : Nat) (own : List Ent) (gs : GenState), Live prog w n Z₀ sdx N rem p0 own gs → Live prog w n Z₁ sdx N rem p0 own gs
  | [], p0, own, gs, h => fun A Z rest hh g d t o nm row ok sub H => h A Z rest hh g d t o nm row ok (s.trans sub) H
  | x :: r, p0, own, gs, h => fun A Z rest hh g d t o nm row ok sub H => by
    refine GoesX.mono (h A Z rest hh g d t o nm row ok (s.trans sub) H) fun e s' hP => ?_
    obtain ⟨v, l, k, c, pp, fs, e1, h', t', Z', own', e2, s2, H', hv, hl⟩ := hP
    exact ⟨v, l, k, c, pp, fs, e1, h', t', Z', own', e2, s2, H', hv, Live.up s r _ _ _ hl⟩

section
variable {M : Model} {A : Around} {E : Value → Shared → Prop} {s : Shared} {env : Env}
theorem assign_Attr {ob : Expr} {attr : Str} {pos : Pos} {v : Value} {Q : Unit → Shared → Prop}
    (h : wpAny M A (eval ob env) (fun ov s₂ => wpAny M A (setAttr ov attr v) (fun _ s' => Q () s') E s₂) E s) : wpAny M A (assign (.Attribute ob attr pos) env v) Q E s := fun Γ p hΓ => by
  simp only [assign_Attribute, Sem.wp_bind', Sem.wp_holding, Sem.wp_cmd_standAt, Sem.wp_release, Sem.wp_pure']
  exact Sem.wp_mono M Γ _ (fun ov _ s₂ h₂ => h₂ Γ _ hΓ) (fun _ _ _ h' => h') _ _ (h Γ _ hΓ)
end
section
variable {prog : Program} {w : World} {A : Around} {E : Value → Shared → Prop} {Z h : Heap} {g : Array GenState} {d : Drawn} {t : Nat} {o : OsState} {l : List Ent} {a : Addr} {env : Env}
theorem assign_twoA {e₁ e₂ : Expr} {n : Nat} {tpos : Pos} {v₁ v₂ : Value} {Q : Unit → Shared → Prop}
    (hh : A.handled = none) (H : Hp Z l h) (e : IsTup Z a [v₁, v₂].toArray) (h1 : List.findIdx? (fun x => x.1) (assignEach [e₁, e₂] env) = none) (h2 : (assignEach [e₁, e₂] env).map (·.2) = [assign e₁ env, assign e₂ env])
    (hq : ∀ h', Hp Z l h' → wpAny (model prog w) A (assign e₁ env v₁) (fun _ s₃ => wpAny (model prog w) A (assign e₂ env v₂) Q E s₃) E ⟨h', g, d, t, o⟩) :
    wpAny (model prog w) A (assign (.Tuple [e₁, e₂] n tpos) env (.ref a)) Q E ⟨h, g, d, t, o⟩ := by
  have e' : IsTup h a [v₁, v₂].toArray := e.keeps H.keep
  have hl : (assignEach [e₁, e₂] env).length = 2 := by have := congrArg List.length h2; simpa using this
  refine wpAny_assign_Tuple hh e' hl h1 fun h' x => ?_
  have H' : Hp Z l h' := H.grow fun b o' eb => x b o' (fun c => absurd (c ▸ Heap.lt_size eb) (Nat.lt_irrefl _)) eb
  rw [h2]
  exact wpAny_assignInOrder_more (wpAny_mono (hq h' H') (fun _ _ x => wpAny_assignInOrder_more (wpAny_mono x (fun _ _ x => wpAny_assignInOrder_none x) fun _ _ x => x)) fun _ _ x => x)
end

section
variable {prog : Program} {w : World} {A : Around} {E : Value → Shared → Prop} {Z₁ Z h : Heap} {g : Array GenState} {d : Drawn} {t : Nat} {o : OsState} {dx dy rr gt as L tp : Addr} {nm : Str} {row : Int} {gvs avs : List Value} {m : Str → Option Value} {T own : List Ent} {k p0 N n : Nat}
  {all : List (Nat × Nat × Nat)} {gs : GenState} {live : List (Nat × GenState)}
/-- one more sign from the reader beside -/
theorem n_bs {Q : Option Value → Shared → Prop} (ok : Ok n A) (hn : n ≤ 30) (G : Gd w Z) (sub : Sub Z₁ Z) (hB : Bs prog w Z₁ Z dy N all k p0 own gs avs) (hG : Gs g ((0, gs) :: live)) (hl : ∀ p ∈ live, p.1 ≠ 0)
    (H : Hp Z (LoopL w.params dx dy rr gt as L tp nm row (1 + (p0 : Int)) gvs avs m (own ++ T)) h)
    (hnone : ∀ h' t' g' Z', Sub Z Z' → k = all.length → Bs prog w Z₁ Z' dy N all k N [] .finished avs → Gs g' ((0, .finished) :: live) → Hp Z' (LoopL w.params dx dy rr gt as L tp nm row (1 + (N : Int)) gvs avs m ([] ++ T)) h' → Q none ⟨h', g', d, t', o⟩)
    (hsome : ∀ v h' t' g' Z' own' gs' p', Sub Z Z' → k < all.length → Bs prog w Z₁ Z' dy N all (k + 1) p' own' gs' (avs ++ [v]) → Gs g' ((0, gs') :: live) → Hp Z' (LoopL w.params dx dy rr gt as L tp nm row (1 + (p' : Int)) gvs avs m (own' ++ T)) h' → Q (some v) ⟨h', g', d, t', o⟩)
    (hb : ∀ x ∈ all, x.1 ≤ N) (hsrt : all.Pairwise fun x y => x.1 ≤ y.1) :
    wpAny (model prog w) A (pyNext (.ref rr)) Q E ⟨h, g, d, t, o⟩ := by
  obtain ⟨hR, hk, hq, hqN, hp⟩ := hB
  have H1 : Hp Z ((dy, Row w.params "own.c" (1 + (p0 : Int))) :: (own ++ ([(dx, Row w.params nm row), (rr, IsGn 0), (gt, IsLs gvs), (as, IsLs avs), (L, IsFr m), (L + 1, IsCe (some (.ref tp)))] ++ T))) h :=
    H.perm ((List.Perm.cons _ (List.perm_append_comm_assoc own [(dx, Row w.params nm row), (rr, IsGn 0), (gt, IsLs gvs), (as, IsLs avs), (L, IsFr m), (L + 1, IsCe (some (.ref tp)))] T)).trans (List.Perm.swap _ _ _))
  refine n_rd (by decide) (ok.in1.mono (by omega)) ok.h (ok.room (by omega)) G sub H1 (by simp) (hG.1 (0, gs) (.head _)) hR (fun hnil h' t' g' Z' s' hset H2 => ?_) (fun z rem' hcons v h' t' g' Z' own' gs' s' hset H2 hch hR' => ?_)
  · have hkl : k = all.length := by
      have := congrArg List.length hnil
      rw [List.length_drop, List.length_nil] at this
      omega
    have e1 : 1 + (p0 : Int) + ((N - p0 : Nat) : Int) = 1 + (N : Int) := by omega
    rw [e1] at H2
    exact hnone h' t' g' Z' s' hkl ⟨.inr ⟨rfl, hnil, rfl, rfl⟩, hk, (by rw [hnil]; intro x hx; cases hx), Nat.le_refl _, Paired.mono (CharV.keeps s') hp⟩ (hG.first hl hset) (H2.perm (List.Perm.swap _ _ _))
  · have hil : k < all.length := by
      have := congrArg List.length hcons
      rw [List.length_drop, List.length_cons] at this
      omega
    have hz : all[k]? = some z := by
      have e := congrArg (fun l => l[0]?) hcons
      simpa [List.getElem?_drop] using e
    have hrem : all.drop (k + 1) = rem' := by
      have e := congrArg List.tail hcons
      rw [List.tail_drop] at e; exact e
    have hqz : p0 ≤ z.1 := hq z (by rw [hcons]; exact .head _)
    have hs : ∀ u ∈ rem', z.1 ≤ u.1 := by
      have hp := hsrt.sublist (List.drop_sublist k _)
      rw [hcons] at hp
      exact (List.pairwise_cons.mp hp).1
    have e1 : 1 + (p0 : Int) + ((z.1 - p0 : Nat) : Int) = 1 + (z.1 : Int) := by omega
    rw [e1] at H2 hch
    refine hsome v h' t' g' Z' own' gs' z.1 s' hil ⟨by rw [hrem]; exact hR', hil, by rw [hrem]; exact hs, hb z (List.mem_of_getElem? hz), ?_⟩ (hG.first hl hset) (H2.perm ?_)
    · rw [List.take_add_one, hz, Option.toList_some, List.map_append]
      exact Paired.append (Paired.mono (CharV.keeps s') hp) (.cons hch .nil)
    · exact ((List.Perm.swap _ _ _).trans (List.Perm.cons _ (List.perm_append_comm_assoc own' [(dx, Row w.params nm row), (rr, IsGn 0), (gt, IsLs gvs), (as, IsLs avs), (L, IsFr m), (L + 1, IsCe (some (.ref tp)))] T).symm))
end

section
variable {prog : Program} {w : World} {A : Around} {E : Value → Shared → Prop} {Z h : Heap} {g : Array GenState} {d : Drawn} {t : Nat} {o : OsState} {l : List Ent} {a : Addr} {env : Env}
theorem assign_twoL {e₁ e₂ : Expr} {n : Nat} {tpos : Pos} {v₁ v₂ : Value} {Q : Unit → Shared → Prop}
    (hh : A.handled = none) (H : Hp Z l h) (e : (a, IsTp [v₁, v₂]) ∈ l) (h1 : List.findIdx? (fun x => x.1) (assignEach [e₁, e₂] env) = none) (h2 : (assignEach [e₁, e₂] env).map (·.2) = [assign e₁ env, assign e₂ env])
    (hq : ∀ h', Hp Z l h' → wpAny (model prog w) A (assign e₁ env v₁) (fun _ s₃ => wpAny (model prog w) A (assign e₂ env v₂) Q E s₃) E ⟨h', g, d, t, o⟩) :
    wpAny (model prog w) A (assign (.Tuple [e₁, e₂] n tpos) env (.ref a)) Q E ⟨h, g, d, t, o⟩ := by
  have hl : (assignEach [e₁, e₂] env).length = [v₁, v₂].length := by have := congrArg List.length h2; simpa using this
  refine o_unpack hh H e hl h1 fun h' H' => ?_
  rw [h2]
  exact wpAny_assignInOrder_more (wpAny_mono (hq h' H') (fun _ _ x => wpAny_assignInOrder_more (wpAny_mono x (fun _ _ x => wpAny_assignInOrder_none x) fun _ _ x => x)) fun _ _ x => x)
theorem assign_threeZ {e₁ e₂ e₃ : Expr} {n : Nat} {tpos : Pos} {v₁ v₂ v₃ : Value} {Q : Unit → Shared → Prop}
    (hh : A.handled = none) (H : Hp Z l h) (e : IsTup Z a [v₁, v₂, v₃].toArray) (h1 : List.findIdx? (fun x => x.1) (assignEach [e₁, e₂, e₃] env) = none) (h2 : (assignEach [e₁, e₂, e₃] env).map (·.2) = [assign e₁ env, assign e₂ env, assign e₃ env])
    (hq : ∀ h', Hp Z l h' → wpAny (model prog w) A (assign e₁ env v₁) (fun _ s₃ => wpAny (model prog w) A (assign e₂ env v₂) (fun _ s₄ => wpAny (model prog w) A (assign e₃ env v₃) Q E s₄) E s₃) E ⟨h', g, d, t, o⟩) :
    wpAny (model prog w) A (assign (.Tuple [e₁, e₂, e₃] n tpos) env (.ref a)) Q E ⟨h, g, d, t, o⟩ := by
  have e' : IsTup h a [v₁, v₂, v₃].toArray := e.keeps H.keep
  have hl : (assignEach [e₁, e₂, e₃] env).length = 3 := by have := congrArg List.length h2; simpa using this
  refine wpAny_assign_Tuple hh e' hl h1 fun h' x => ?_
  have H' : Hp Z l h' := H.grow fun b o' eb => x b o' (fun c => absurd (c ▸ Heap.lt_size eb) (Nat.lt_irrefl _)) eb
  rw [h2]
  exact wpAny_assignInOrder_more (wpAny_mono (hq h' H') (fun _ _ x => wpAny_assignInOrder_more (wpAny_mono x (fun _ _ x => wpAny_assignInOrder_more (wpAny_mono x (fun _ _ x => wpAny_assignInOrder_none x) fun _ _ x => x)) fun _ _ x => x)) fun _ _ x => x)
end
/-- a told sign as a tuple that is frozen -/
def TupV (Z : Heap) (y : Str × Int × Nat × Nat) (v : Value) : Prop := ∃ b k₁ k₂ k₃ k₄ k₅, v = .ref b ∧ IsTup Z b [Value.str y.1 k₁, .int y.2.1 k₂, .int (y.2.2.1 : Int) k₃, .int 1 k₄, .str ⟨#[y.2.2.2]⟩ k₅].toArray
theorem TupV.keeps {Z Z' : Heap} (s : Sub Z Z') : ∀ (y : Str × Int × Nat × Nat) (v : Value), TupV Z y v → TupV Z' y v := fun _ _ ⟨b, k₁, k₂, k₃, k₄, k₅, e, t⟩ => ⟨b, k₁, k₂, k₃, k₄, k₅, e, t.keeps s⟩
end TNF
section TNG
/-! told signs as data, for the comparisons -/
def datOf (y : Str × Int × Nat × Nat) : PyData := .tuple [.str y.1, .int y.2.1, .int (y.2.2.1 : Int), .int 1, .str ⟨#[y.2.2.2]⟩]
theorem reads_tup {Z h : Heap} (k : ∀ b o, Z.get? b = some o → h.get? b = some o) {y : Str × Int × Nat × Nat} {v : Value} (x : TupV Z y v) : Reads h v (datOf y) [] := by
  obtain ⟨b, k₁, k₂, k₃, k₄, k₅, rfl, o, e, hc, n, hd⟩ := x
  refine .tuple (as := []) (k _ _ e) hc hd ?_
  exact .cons (as := []) (bs := []) (.str _ _) (.cons (as := []) (bs := []) (.int _ _) (.cons (as := []) (bs := []) (.int _ _) (.cons (as := []) (bs := []) (.int _ _) (.cons (as := []) (bs := []) (.str _ _) .nil))))
theorem readsAll_tups {Z h : Heap} (k : ∀ b o, Z.get? b = some o → h.get? b = some o) : ∀ {Y : List (Str × Int × Nat × Nat)} {vs : List Value}, Paired (TupV Z) Y vs → ReadsAll h vs (Y.map datOf) []
  | _, _, .nil => .nil
  | _, _, .cons x t => .cons (as := []) (bs := []) (reads_tup k x) (readsAll_tups k t)
def YOk (Y : List (Str × Int × Nat × Nat)) : Prop := ∀ y ∈ Y, PyData.strOk y.1 = true ∧ y.2.2.2 < 0x110000
theorem canLay_tups : ∀ {Y : List (Str × Int × Nat × Nat)}, YOk Y → PyData.canLayAll0 (Y.map datOf) = true
  | [], _ => rfl
  | y :: Y, h => by
    have h1 := (h y (.head _)).1
    have h2 : PyData.strOk ⟨#[y.2.2.2]⟩ = true := by have := (h y (.head _)).2; simp [PyData.strOk, this]
    simp [PyData.canLayAll0, PyData.canLay0, datOf, h1, h2, canLay_tups fun z hz => h z (.tail _ hz)]
theorem depth_tups : ∀ (Y : List (Str × Int × Nat × Nat)), PyData.depthAll (Y.map datOf) ≤ 1
  | [] => by simp [PyData.depthAll]
  | y :: Y => by
    have := depth_tups Y
    simp only [List.map_cons, PyData.depthAll, PyData.depth, datOf]
    omega
theorem shaped_tups {Y : List (Str × Int × Nat × Nat)} (h : YOk Y) : SeqAt.shaped (.list (Y.map datOf)) = true := by
  have h2 := depth_tups Y
  unfold SeqAt.shaped
  rw [PyData.canLay0, canLay_tups h, PyData.depth, Bool.true_and]
  exact decide_eq_true (by omega)
theorem eqv_tups {Y : List (Str × Int × Nat × Nat)} (h : YOk Y) : PyData.eqv (.list (Y.map datOf)) (.list (Y.map datOf)) = true := by
  refine PySem.SeqAt.eqv_refl _ ?_
  rw [PyData.canLay0]; exact canLay_tups h
theorem laid_chars : ∀ (a : List (List Nat)) (p : Nat), (∀ x ∈ a, LnOk x) → ∀ z ∈ laid a p, z.2.2 < 0x110000 := by
  have line : ∀ (cs : List Nat) (col : Nat), (∀ c ∈ cs, c < 0x110000) → ∀ z ∈ laidLine cs col, z.2 < 0x110000 := fun cs => by
    induction cs with
    | nil => intro col _ z hz; cases hz
    | cons c cs ih =>
      intro col hc z hz
      rcases List.mem_append.mp (show z ∈ blockOf col c ++ laidLine cs (col + wideOf col c) from hz) with hz | hz
      · obtain ⟨k, _, rfl⟩ := List.mem_map.mp hz
        show showOf c < _
        unfold showOf; split
        · decide
        · exact hc c (.head _)
      · exact ih _ (fun c hc' => hc c (.tail _ hc')) z hz
  intro a
  induction a with
  | nil => intro p _ z hz; cases hz
  | cons l a ih =>
    intro p h z hz
    rcases List.mem_append.mp (show z ∈ (laidLine l 1).map (fun y => (p, y)) ++ laid a (p + 1) from hz) with hz | hz
    · obtain ⟨y, hy, rfl⟩ := List.mem_map.mp hz
      obtain ⟨body, nl, rfl, _, h2, h3⟩ := h l (.head _)
      refine line _ _ (fun c hc => ?_) y hy
      rcases List.mem_append.mp hc with hc | hc
      · exact (h2 c hc).2.2
      · rcases h3 with rfl | rfl
        · cases hc
        · rw [List.mem_singleton.mp hc]; decide
    · exact ih _ (fun x hx => h x (.tail _ hx)) z hz
theorem cur_ok {sgs : List (Nat × Nat × Nat)} {mv : List (Nat × Int × Str)} {b : Int} (h : ∀ z ∈ mv, PyData.strOk z.2.2 = true) : ∀ j, PyData.strOk (cur sgs mv b j).1 = true
  | 0 => by show PyData.strOk (Str.ofString "t.c") = true; decide +kernel
  | j + 1 => by
    show PyData.strOk (match moveAt mv j with | some x => ((x.2, x.1 - passedAt sgs j) : Str × Int) | none => cur sgs mv b j).1 = true
    cases e : moveAt mv j with
    | none => exact cur_ok h j
    | some x =>
      unfold moveAt at e
      obtain ⟨y, hy, rfl⟩ := Option.map_eq_some_iff.mp e
      exact h y (List.mem_of_find?_eq_some hy)
theorem told_ok {sgs : List (Nat × Nat × Nat)} {mv : List (Nat × Int × Str)} {b : Int} (h : ∀ z ∈ mv, PyData.strOk z.2.2 = true) : ∀ (l : List (Nat × Nat × Nat)) (j : Nat), (∀ z ∈ l, z.2.2 < 0x110000) → YOk (told sgs mv b j l)
  | [], _, _ => fun y hy => by cases hy
  | x :: l, j, hl => fun y hy => by
    rcases List.mem_cons.mp (show y ∈ toldAt sgs mv b j x :: told sgs mv b (j + 1) l from hy) with rfl | hy
    · exact ⟨cur_ok h j, hl x (.head _)⟩
    · exact told_ok h l (j + 1) (fun z hz => hl z (.tail _ hz)) y hy
theorem aside_ok : ∀ (l : List (Nat × Nat × Nat)), (∀ z ∈ l, z.2.2 < 0x110000) → YOk (l.map asideOf) := fun l hl y hy => by
  obtain ⟨x, hx, rfl⟩ := List.mem_map.mp hy
  exact ⟨by show PyData.strOk (Str.ofString "own.c") = true; decide +kernel, hl x hx⟩

/-! a name and a row as data -/
theorem reads_pair {Z h : Heap} (k : ∀ b o, Z.get? b = some o → h.get? b = some o) {a : Addr} {nm : Str} {row : Int} {k₁ k₂ : Tok} (x : IsTup Z a [Value.str nm k₁, .int row k₂].toArray) : Reads h (.ref a) (.tuple [.str nm, .int row]) [] := by
  obtain ⟨o, e, hc, n, hd⟩ := x
  refine .tuple (as := []) (k _ _ e) hc hd ?_
  exact .cons (as := []) (bs := []) (.str _ _) (.cons (as := []) (bs := []) (.int _ _) .nil)
theorem canLay_pair {nm : Str} {row : Int} (h : PyData.strOk nm = true) : PyData.canLay0 (.tuple [.str nm, .int row]) = true := by
  simp [PyData.canLay0, PyData.canLayAll0, h]
theorem shaped_pair {nm : Str} {row : Int} (h : PyData.strOk nm = true) : SeqAt.shaped (.tuple [.str nm, .int row]) = true := by
  unfold SeqAt.shaped
  rw [canLay_pair h, Bool.true_and]
  simp [PyData.depth, PyData.depthAll]
theorem eqv_pair {nm : Str} {row : Int} (h : PyData.strOk nm = true) : PyData.eqv (.tuple [.str nm, .int row]) (.tuple [.str nm, .int row]) = true := PySem.SeqAt.eqv_refl _ (canLay_pair h)
end TNG
section W
set_option compiler.extract_closed false
local macro_rules | `(tactic| walk_at "locals") => `(tactic| first | ((with_reducible show (envOf _ _ _ _ _).locals = _); dsimp only [envOf]; try exact rfl) | ((with_reducible show (envOfC _ _ _ _ _).locals = _); dsimp only [envOfC]; try exact rfl) | ((with_reducible show (compEnvC _ _ _ _).locals = _); dsimp only [compEnvC]; try exact rfl) | exact rfl)
local macro_rules | `(tactic| walk_at "mem") => `(tactic| first | assumption | exact List.Mem.head _ | (refine' List.Mem.tail _ ?_; walk_at "mem"))
local macro_rules | `(tactic| walk_at "turn") => `(tactic| first | exact Turn.head | (apply Turn.tail; walk_at "turn"))
local macro_rules | `(tactic| walk_at "sub") => `(tactic| first | exact List.Sublist.refl _ | (refine' List.Sublist.cons₂ _ ?_; walk_at "sub") | (refine' List.Sublist.cons _ ?_; walk_at "sub"))
local macro_rules | `(tactic| walk_at "val") => `(tactic| first | assumption | exact rfl)
local macro_rules | `(tactic| walk_at "name") => `(tactic| first
  | (refine' n_local ?k1 ?k2 ?k3 ?k4 ?k5 ?k6 ?k7 ?_; (case k1 | k2 => exact rfl); (case k3 => walk_at "locals"); (case k4 => assumption); (case k5 => walk_at "mem"); (case k6 => walk_at "val"); (case k7 => decide))
  | (refine' n_cell ?k1 ?k2 ?k3 ?k4 ?k5 ?k7 ?_; (case k1 | k2 => exact rfl); (case k3 => walk_at "locals"); (case k4 => assumption); (case k5 => walk_at "mem"); (case k7 => decide))
  | (refine' n_glob ?k1 ?k2 ?k3 ?_ ?k5 ?k6 ?k7 ?k8; (case k7 | k5 | k6 => exact rfl); (case k1 | k2 => assumption); (case k3 => exact rfl); (case k8 => decide))
  | (refine' n_boot ?k1 ?k2 ?k3 ?k4 ?k5 ?_ ?k6 ?k7 ?k8 ?k9 ?k10; (case k9 | k8 | k6 | k7 => exact rfl); (case k1 | k2 => assumption); (case k3 => exact rfl); (case k4 => boot_by_name); (case k5 | k10 => decide)))
local macro_rules | `(tactic| walk_at "store") => `(tactic| first
  | (refine' s_local ?k1 ?k2 ?k3 ?k4 ?k5 ?_; (case k1 | k2 => exact rfl); (case k3 => walk_at "locals"); (case k4 => assumption); (case k5 => walk_at "turn"); intro _ _ _)
  | (refine' s_cell ?k1 ?k2 ?k3 ?k4 ?k5 ?_; (case k1 | k2 => exact rfl); (case k3 => walk_at "locals"); (case k4 => assumption); (case k5 => walk_at "turn"); intro _ _ _))
local macro_rules | `(tactic| walk_at "m") => `(tactic| first
  | (with_reducible first | refine' wpAny_execs_nil ?_ | refine' wpAny_execs_cons ?_ | refine' ite_t ?_ | refine' ite_f ?_ | refine' wpAny_Return_some ?_ | refine' wpAny_Break ?_ | refine' assign_Attr ?_ | refine' wpAny_AugAssign_Name ?_ | refine' wpAny_If ?_ | refine' wpAny_bindName ?_ | refine' wpAny_AugAssign_AttributeAny ?_ | refine' wpAny_UnaryOp ?_ | refine' wpAny_BinOp ?_ | refine' PySem.GM.count ?_ | refine' isTrue_and ?_ | refine' isTrue_and_nil ?_ | refine' isTrue_or ?_ | refine' isTrue_or_nil ?_ | refine' wpAny_truthy_bool ?_ | refine' Tuple_ ?_ | refine' List_ ?_ | refine' spliced_none ?_ | refine' Subscript_ ?_ | refine' PyProof.Rows.eq_int ?_ | refine' PyProof.Rows.lt_int ?_ | refine' PyProof.Rows.eq_str ?_ | refine' wpAny_assign_Name ?_ | refine' wpAny_assignInOrder_more ?_ | refine' wpAny_assignInOrder_none ?_)
  | ((with_reducible first | refine' plainObj_wpAny_Assign_Attribute ?_ ?ma | refine' wpAny_Assign_Subscript ?_ ?ma | refine' wpAny_Assign_Name ?_ ?ma | refine' spliced_more ?_ ?ma | refine' MethodCall_ ?_ ?ma | refine' Call_ ?_ ?ma); (case ma => exact rfl))
  | ((with_reducible first | refine' v_neg ?_ | refine' v_int ?_ | refine' v_str ?_ | refine' v_add ?_ | refine' v_iadd ?_ | refine' v_sub ?_); intro _ _)
  | ((with_reducible first | refine' wpAny_isTrue_Compare1 ?_ ?ma | refine' wpAny_Compare1 ?_ ?ma); (case ma => with_unfolding_all exact rfl))
  | ((with_reducible first | refine' v_addS ?ma ?_ | refine' v_iaddS ?ma ?_); (case ma => walk_at "side"); intro _ _)
  | ((with_reducible refine' Assign_used ?ma ?_); (case ma => exact rfl))
  | ((with_reducible refine' wpAny_Expr_any ?_ ?ma ?mb); (case ma | mb => exact rfl))
  | ((with_reducible refine' callWith_K0 ?k1 ?k2 ?_); (case k1 => exact (Gd.at (by assumption) (by assumption)).K); (case k2 => exact rfl))
  | ((with_reducible refine' Assign_Tuple ?_ ?ma ?mb); (case ma | mb => exact rfl))
  | ((with_reducible show wpAny _ _ (eval (Expr.Name _ _) _) _ _ _); walk_at "name")
  | ((with_reducible show wpAny _ _ (loadName _ _) _ _ _); walk_at "lname")
  | ((with_reducible show wpAny _ _ (storeName _ _ _) _ _ _); walk_at "store")
  | ((with_reducible refine' wpAny_For ?_ ?ma); (case ma => intro _; exact rfl))
  | ((with_reducible refine' PySem.Pv.callWith_type1 ?_ ?ma ?mb); (case ma | mb => exact rfl))
  | ((with_reducible refine' callWith_K ?k1 ?k2 ?_ ?k3 ?k4); (case k1 => exact (Gd.at (by assumption) (by assumption)).K); (case k2 | k3 | k4 => exact rfl))
  | ((with_reducible show Frag.In _ _ ∧ _); refine' And.intro (Gd.at (by assumption) (by assumption)).K ?_)
  | ((with_reducible refine' callWith_bi ?_ ?ma ?mb); (case ma | mb => exact rfl))
  | ((with_reducible refine' PyProof.Rows.Attribute_any_ ?_ ?ma); (case ma => with_unfolding_all exact rfl))
  | ((with_reducible refine' o_range ?ma ?_); (case ma => assumption); intro _ _ _ _)
  | ((with_reducible show wpAny _ _ (call (Value.builtin "str.count") _ _) _ _ _); refine' v_count ?_; intro _ _)
  | ((with_reducible refine' v_itemS ?ma ?mb ?mc ?_ ?md ?me); (case ma | mb | mc => walk_at "side"); (case md => with_unfolding_all exact rfl); (case me => intro _; with_unfolding_all exact rfl); intro _ _)
  | ((with_reducible refine' v_mod ?ma ?_); (case ma => decide); intro _ _)
  | ((with_reducible refine' v_div ?ma ?mb ?_); (case ma => decide); (case mb => exact PyProof.noPylong_of_log2 (by decide +kernel)); intro _ _)
  | ((with_reducible refine' Assign_swap2 ?_ ?ma ?mb); (case ma | mb => exact rfl))
  | ((with_reducible show wpAny _ _ (newTuple _) _ _ _); (refine' o_tuple ?k1 ?_ ?k2); (case k1 => assumption); (case k2 => exact Nat.le_of_ble_eq_true rfl); intro _ _ _)
  | ((with_reducible show wpAny _ _ (newList _) _ _ _); (refine' o_list ?k1 ?_ ?k2); (case k1 => assumption); (case k2 => exact Nat.le_of_ble_eq_true rfl); intro _ _ _)
  | ((with_reducible show wpAny _ _ (unpackItems _ _ _) _ _ _); (refine' o_items ?k0 ?k1 ?k2 ?k3 ?_); (case k1 => assumption); (case k2 => walk_at "mem"); (case k0 => first | assumption | exact Ok.h (by assumption)); (case k3 => exact rfl); intro _ _; refine' Exists.intro _ (Exists.intro _ (And.intro rfl ?_)))
  | ((with_reducible refine' isTrue_plain ?_ ?ma); (case ma => exact rfl))
  | ((with_reducible refine' callWith_method0 ?_))
  | ((with_reducible refine' callWith_method1 ?_ ?ma ?mb); (case ma | mb => exact rfl)))
local macro_rules | `(tactic| walk_at "lname") => `(tactic| first
  | (refine' ln_local ?k1 ?k2 ?k3 ?k4 ?k5 ?k6 ?_; (case k1 | k2 => exact rfl); (case k3 => walk_at "locals"); (case k4 => assumption); (case k5 => walk_at "mem"); (case k6 => walk_at "val"))
  | (refine' ln_cell ?k1 ?k2 ?k3 ?k4 ?k5 ?_; (case k1 | k2 => exact rfl); (case k3 => walk_at "locals"); (case k4 => assumption); (case k5 => walk_at "mem")))
local macro_rules | `(tactic| walk_at "side") => `(tactic| assumption)
local macro_rules | `(tactic| walk_at "ife") => `(tactic| with_reducible refine' IfExp_ ?_)
local macro_rules | `(tactic| walk_at "pick") => `(tactic| first | exact Pick.head | (apply Pick.tail; walk_at "pick"))
section TMF1
section
variable {prog : Program} {w : World} {A : Around} {R : Result → Shared → Prop} {Z h : Heap} {g : Array GenState} {d : Drawn} {t : Nat} {o : OsState} {l l' : List Ent} {n : Nat} {a : Addr} {ns : List Int}

set_option maxHeartbeats 1000000 in
theorem c_next (ok : Ok n A) (G : Gd w Z) (H : Hp Z l h) (T : Turn a (IsTape ns) (IsTape ns.tail) l l') (hz : ns.length < 64)
    (hq : ∀ h' t' k, Hp Z l' h' → R (.ok (.ret (.int (ns.headD 0) k))) ⟨h', g, d, t', o⟩) (hn : n ≤ 600 := by decide) :
    codeAny (model prog w) A (.call (.ref 125) ⟨[.ref a], []⟩) R ⟨h, g, d, t, o⟩ := by
  obtain ⟨vs, hi, hv⟩ : ∃ vs, IntsAre vs ns ∧ ∃ o, h.get? a = some o ∧ IsLs vs o := by
    obtain ⟨o, e, vs, hi, hv⟩ := H.here _ T.mem
    exact ⟨vs, hi, o, e, hv⟩
  obtain ⟨lq, T1, T2⟩ := T.via (IsLs vs)
  have H1 : Hp Z lq h := by
    obtain ⟨o, e, x⟩ := hv
    exact H.turns T1 (fun _ _ _ e => e) e x
  have hlen : vs.length = ns.length := hi.length
  have hl : vs.length ≤ sizeLine := by have : sizeLine = 2 ^ 24 := rfl; omega
  refine enter (binds := [("tape", .ref a)]) ok G H1 (by exact rfl) (by rfl) (BindsTo.of_eq rfl) (locs rfl) (by decide) ?_ hn
  intro L h₁ t₁ A' ok' H'
  repeat walk_at "m"
  walk_at "ife"
  repeat walk_at "m"
  refine o_truth H' (.tail _ T1.mem') hl fun t' => ?_
  cases hi with
  | nil =>
    rw [if_neg (by simp)]
    walk_at "m"
    exact hq _ _ _ (H'.tail.see T2 fun o x => ⟨[], .nil, x⟩)
  | cons k t hi =>
    rw [if_pos (by simp)]
    walk_at "m"
    walk_at "m"
    refine o_method H' (.tail _ T1.mem') F.slot_list_pop F.type_list_pop ?_
    iterate 4 (walk_at "m")
    obtain ⟨l2, T3, T4⟩ := T2.via (IsLs _)
    refine o_pop0 H' (.tail T3) (fun h2 H2 => ?_) (by have : sizeLine = 2 ^ 24 := rfl; simp at hl; omega)
    exact hq _ _ _ (H2.tail.see T4 fun o x => ⟨_, hi, x⟩)
end
end TMF1
section TMF2
section
variable {prog : Program} {w : World} {A : Around} {R : Result → Shared → Prop} {Z h : Heap} {g : Array GenState} {d : Drawn} {t : Nat} {o : OsState} {l l' : List Ent} {n : Nat} {a : Addr} {ns : List Int}

set_option maxHeartbeats 1000000 in
theorem c_line {k : Int} {tk : Tok} (ok : Ok n A) (G : Gd w Z) (H : Hp Z l h)
    (hq : ∀ h' t' x k, LineOk x → Hp Z l h' → R (.ok (.ret (.str x k))) ⟨h', g, d, t', o⟩) (hn : n ≤ 600 := by decide) :
    codeAny (model prog w) A (.call (.ref 132) ⟨[.int k tk], []⟩) R ⟨h, g, d, t, o⟩ := by
  refine enter (binds := [("n", .int k tk)]) ok G H (by exact rfl) (by rfl) (BindsTo.of_eq rfl) (locs rfl) (by decide) ?_ hn
  intro L h₁ t₁ A' ok' H'
  obtain ⟨N, hN, hN5⟩ := fmod_nat (k.fdiv 3 + 3) 5 (by decide)
  rw [show ((5 : Nat) : Int) = 5 from rfl] at hN
  repeat walk_at "m"
  refine cut_val (fun v : Value => ∃ (N : Nat) (u : Tok), v = .int N u ∧ N ≤ 4) ?_ ?_
  · walk_at "ife"
    repeat walk_at "m"
    split
    · repeat walk_at "m"
      exact ⟨_, rfl, 0, _, rfl, by decide⟩
    · repeat walk_at "m"
      exact ⟨_, rfl, N, _, by rw [hN], by omega⟩
  rintro _ t' ⟨S, uS, rfl, hS⟩
  repeat walk_at "m"
  refine i_range (by assumption) (by walk_at "mem") (by omega) fun it h₂ H₂ => ?_
  have H₃ := H₂.sublist (.cons₂ _ (.cons _ (.cons _ (.cons _ (.refl _)))))
  refine loop_range (n := S) (fun (i : Nat) Z' l' g' => g' = g ∧ Z' = Z ∧ ∃ m u r ur b ub kd, l' = (L, IsFr m) :: l ∧ m "kind" = some (.int kd u) ∧ m "rest" = some (.int r ur) ∧ m "line" = some (.str b ub) ∧
    b.cps.size = i ∧ ∀ c ∈ b.cps.toList, c ∈ signsOf) ok'.h H₃ ⟨rfl, rfl, _, _, _, _, _, _, _, rfl, rfl, rfl, rfl, rfl, by intro c hc; cases hc⟩ ?_ ?_
  · rintro i k' Z' l' h₄ g' t₄ hi sub ⟨rfl, rfl, m, u, r, ur, b, ub, kd, rfl, hkd, hr, hb, hbs, hbc⟩ H₄
    obtain ⟨M, hM, hM6⟩ := fmod_nat (r + i) 6 (by decide)
    rw [show ((6 : Nat) : Int) = 6 from rfl] at hM
    have f1 : fitsSsize ((r + i).fmod 6) = true := by rw [hM]; unfold fitsSsize; simp; omega
    repeat walk_at "m"
    refine v_itemS f1 (by rw [hM]; exact Int.le_trans (by decide : -((Str.ofString "ab\t é#").length : Int) ≤ 0) (by omega)) (by rw [hM]; exact (by omega : (M : Int) < 6)) (fun u₁ t₅ => ?_) (by with_unfolding_all exact rfl) (by intro _; with_unfolding_all exact rfl)
    obtain ⟨c, hc, hc'⟩ := item_sign (SG := Str.ofString "ab\t é#") (by decide) M hM6
    rw [hM]
    rw [show Txt.item _ (M : Int) = ⟨#[c]⟩ from hc']
    repeat walk_at "m"
    refine cut_val (fun v : Value => ∃ c ∈ signsOf, ∃ u, v = .str ⟨#[c]⟩ u) ?_ ?_
    · walk_at "ife"
      repeat walk_at "m"
      split
      · repeat walk_at "m"
        split
        · repeat walk_at "m"
          exact ⟨_, rfl, 32, by decide, _, rfl⟩
        · repeat walk_at "m"
          exact ⟨_, rfl, c, hc, _, rfl⟩
      · repeat walk_at "m"
        exact ⟨_, rfl, c, hc, _, rfl⟩
    rintro _ t' ⟨c, hc, u, rfl⟩
    refine v_iaddS (by show b.cps.size + 1 ≤ sizeLine; rw [hbs]; exact Nat.le_trans (by omega : i + 1 ≤ 5) (by decide)) fun u₂ t₆ => ?_
    repeat walk_at "m"
    refine' Next.mk ?H (Sub.refl _) ?J
    case H => assumption
    refine ⟨rfl, rfl, _, _, _, _, _, _, _, rfl, hkd, rfl, rfl, ?_, ?_⟩
    · show (b.cps ++ #[c]).size = _
      rw [Array.size_append, hbs]; rfl
    · intro c' hc'
      have e : (b ++ (⟨#[c]⟩ : Str)).cps.toList = b.cps.toList ++ [c] := by show (b.cps ++ #[c]).toList = _; simp
      rw [e] at hc'
      rcases List.mem_append.mp hc' with hc' | hc'
      · exact hbc c' hc'
      · rw [List.mem_singleton.mp hc']; exact hc
  · rintro Z' l' h₄ g' t₄ sub ⟨rfl, rfl, m, u, r, ur, b, ub, kd, rfl, hkd, hr, hb, hbs, hbc⟩ H₄
    repeat walk_at "m"
    have hb4 : b.cps.toList.length ≤ 4 := by show b.cps.size ≤ 4; omega
    have hz : sizeLine = 2 ^ 24 := rfl
    refine cut_val (fun v : Value => ∃ nl : Str, ∃ u, v = .str nl u ∧ (nl.cps.toList = [] ∨ nl.cps.toList = [10])) ?_ ?_
    · walk_at "ife"
      repeat walk_at "m"
      split
      · repeat walk_at "m"
        exact ⟨_, rfl, _, _, rfl, .inr (by decide)⟩
      · repeat walk_at "m"
        exact ⟨_, rfl, _, _, rfl, .inl (by decide)⟩
    rintro _ t' ⟨nl, u, rfl, hnl⟩
    have hnl1 : nl.cps.toList.length ≤ 1 := by rcases hnl with e | e <;> rw [e] <;> decide
    refine v_addS (by show b.cps.toList.length + nl.cps.toList.length ≤ sizeLine; omega) fun u₃ t₆ => ?_
    refine hq _ _ _ _ ⟨b.cps.toList, nl.cps.toList, ?_, hb4, hbc, hnl⟩ H₄.tail
    show (b.cps ++ nl.cps).toList = _
    simp
end
end TMF2
section TMF3
section
variable {prog : Program} {w : World} {A : Around} {R : Result → Shared → Prop} {Z h : Heap} {g : Array GenState} {d : Drawn} {t : Nat} {o : OsState} {l l' : List Ent} {n : Nat} {a : Addr} {ns : List Int}

set_option maxHeartbeats 4000000 in
theorem c_laid {lines : List (List Nat)} {lvs : List Value} (ok : Ok n A) (G : Gd w Z) (H : Hp Z l h) (hl : Z.IsList a lvs.toArray) (hp : Paired LineV lines lvs) (hk : ∀ x ∈ lines, x.length ≤ 5) (hk2 : lines.length ≤ 20)
    (hq : ∀ Z' h' t' b vs, Sub Z Z' → Hp Z' l h' → Z'.IsList b vs.toArray → Paired (SignV Z') (laid lines 0) vs → R (.ok (.ret (.ref b))) ⟨h', g, d, t', o⟩) (hn : n ≤ 600 := by decide) :
    codeAny (model prog w) A (.call (.ref 137) ⟨[.ref a], []⟩) R ⟨h, g, d, t, o⟩ := by
  refine enterC (binds := [("lines", .ref a)]) ok G H (by exact rfl) (by rfl) (BindsTo.of_eq rfl) (by exact rfl) (by decide) ?_ hn
  intro L h₁ t₁ A' ok' H'
  replace H' : Hp Z ((L, IsFr _) :: (L + 3, IsCe none) :: (L + 2, IsCe none) :: (L + 1, IsCe none) :: l) h₁ := H'
  repeat walk_at "m"
  refine o_enum (by assumption) (hl.at fun _ e => Hp.keep (by assumption) _ _ e) fun e it h₂ H₂ => ?_
  refine i_enum H₂ (.head _) ?_
  obtain ⟨J₁, hJ₁⟩ : ∃ J : Nat → Heap → List Ent → Array GenState → Prop, J = fun (i : Nat) Z' l' g' => g' = g ∧ ∃ m S v₁ v₂ v₃ vs, l' = (S, IsLs vs) :: (L, IsFr m) :: (L + 3, IsCe v₃) :: (L + 2, IsCe v₂) :: (L + 1, IsCe v₁) :: l ∧ m "signs" = some (.ref S) ∧
    Paired (SignV Z') (laid (lines.take i) 0) vs := ⟨_, rfl⟩
  refine loop_enum (b := 0) J₁ ok'.h H₂ hl (by rw [hJ₁]; exact ⟨rfl, _, _, _, _, _, _, rfl, rfl, .nil⟩) ?_ ?_
  · rintro i v c k' Z₁ l₁ h₃ g' t₃ hv sub₁ hj₁ H₃
    rw [hJ₁] at hj₁
    obtain ⟨rfl, m, S, v₁, v₂, v₃, vs, rfl, hS, hvs⟩ := hj₁
    have G₁ := G.keeps sub₁
    obtain ⟨ln, hln, kl, rfl⟩ := Paired.get hp hv
    refine assign_two ok'.h H₃ (.head _) fun h₄ H₄ => ?_
    repeat walk_at "m"
    refine i_str (by assumption) fun it₂ h₅ H₅ => ?_
    replace H₅ := H₅.sublist (.cons_cons _ (.cons _ (.refl _)))
    obtain ⟨J₂, hJ₂⟩ : ∃ J : Nat → Heap → List Ent → Array GenState → Prop, J = fun (j : Nat) Z' l' g'' => g'' = g' ∧ ∃ m v₃ vs₂ kc, l' = (e, ItE it (0 + (i + 1 : Nat))) :: (it, ItL a (i + 1)) :: (S, IsLs vs₂) :: (L, IsFr m) :: (L + 3, IsCe v₃) ::
      (L + 2, IsCe (some (.int (colEnd (ln.take j) 1 : Nat) kc))) :: (L + 1, IsCe (some (.int (0 + i) k'))) :: l ∧ m "signs" = some (.ref S) ∧
      Paired (SignV Z') (laid (lines.take i) 0 ++ (laidLine (ln.take j) 1).map fun x => (i, x)) vs₂ := ⟨_, rfl⟩
    refine loop_str J₂ ok'.h H₅ (by rw [hJ₂]; exact ⟨rfl, _, _, _, _, rfl, hS, by simpa [laidLine] using hvs⟩) ?_ ?_
    · rintro j ch kch Z₂ l₂ h₆ g'' t₆ hch sub₂ hj₂ H₆
      rw [hJ₂] at hj₂
      obtain ⟨rfl, m₂, v₃, vs₂, kc, rfl, hS₂, hvs₂⟩ := hj₂
      have G₂ := G₁.keeps sub₂
      repeat walk_at "m"
      refine cut_val (fun v : Value => ∃ u, v = .int (wideOf (colEnd (ln.take j) 1) ch : Nat) u) ?_ ?_
      · walk_at "ife"
        repeat walk_at "m"
        split
        · rename_i hc
          rw [tab_iff] at hc
          subst hc
          repeat walk_at "m"
          exact ⟨_, rfl, _, by rw [wide_tab (colEnd_ge _ _)]⟩
        · rename_i hc
          rw [tab_iff] at hc
          repeat walk_at "m"
          exact ⟨_, rfl, _, by unfold wideOf; rw [if_neg hc]; rfl⟩
      rintro _ t₇ ⟨u, rfl⟩
      repeat walk_at "m"
      refine ListComp_ (wpAny_comprehension_free (cl := [("sign", L + 3), ("passed", L + 1), ("col", L + 2)]) rfl (by intro _; exact rfl) (by exact rfl) rfl (by decide) ?_)
      repeat walk_at "m"
      refine i_range (by assumption) (by walk_at "mem") (Nat.le_trans (wideOf_le _ _) (by decide)) fun it₃ h₇ H₇ => ?_
      refine o_list H₇ (fun D h₇' H₇' => ?_) (Nat.le_of_ble_eq_true rfl)
      refine comp_env (by decide) rfl (by assumption) fun C h₈ t₈ H₈ => ?_
      obtain ⟨J₃, hJ₃⟩ : ∃ J : Nat → Heap → List Ent → Array GenState → Prop, J = fun (k : Nat) Z' l' g₃ => g₃ = g'' ∧ ∃ mC vs₃ u r, l' = (C, IsFr mC) :: (D, IsLs vs₃) :: (r, IsRg (wideOf (colEnd (ln.take j) 1) ch : Nat)) :: (it₂, ItS ⟨ln.toArray⟩ kl (j + 1)) :: (e, ItE it (0 + (i + 1 : Nat))) :: (it, ItL a (i + 1)) :: (S, IsLs vs₂) :: (L, IsFr (upd m₂ "wide" (.int (wideOf (colEnd (ln.take j) 1) ch : Nat) u))) :: (L + 3, IsCe (some (.str ⟨#[ch]⟩ kch))) ::
        (L + 2, IsCe (some (.int (colEnd (ln.take j) 1 : Nat) kc))) :: (L + 1, IsCe (some (.int (0 + i) k'))) :: l ∧ Paired (SignV Z') ((List.range k).map fun k => (i, colEnd (ln.take j) 1 + k, showOf ch)) vs₃ := ⟨_, rfl⟩
      refine comp_range (n := wideOf (colEnd (ln.take j) 1) ch) J₃ ok'.h (H₈.pick (.tail (.tail .head))) ?j0 ?turn ?last
      case j0 => rw [hJ₃]; exact ⟨rfl, _, _, _, _, rfl, .nil⟩
      case turn =>
        rintro q k₂ Z₃ l₃ h₉ g₃ t₉ hq' sub₃ hj₃ H₉
        rw [hJ₃] at hj₃
        obtain ⟨rfl, mC, vs₃, u₃, r, rfl, hvs₃⟩ := hj₃
        repeat walk_at "m"
        refine wpAny_tests_nil ?_
        repeat walk_at "m"
        refine cut_val (fun v : Value => ∃ u, v = .str ⟨#[showOf ch]⟩ u) ?_ ?_
        · walk_at "ife"
          repeat walk_at "m"
          split
          · rename_i hc
            rw [tab_iff] at hc
            subst hc
            repeat walk_at "m"
            exact ⟨_, rfl, _, rfl⟩
          · rename_i hc
            rw [tab_iff] at hc
            repeat walk_at "m"
            exact ⟨_, rfl, _, by unfold showOf; rw [if_neg hc]⟩
        rintro _ t₁₀ ⟨u₄, rfl⟩
        repeat walk_at "m"
        rename_i T h₁₁ H₁₁
        obtain ⟨Z₄, sub₄, H₁₂, hT⟩ := H₁₁.frzT
        refine o_append H₁₂ (by walk_at "turn") (fun h₁₃ H₁₃ => ?_) (by rw [← hvs₃.length, List.length_map, List.length_range]; exact Nat.le_trans (Nat.le_of_lt hq') (Nat.le_trans (wideOf_le _ _) (by decide)))
        refine' Next.mk ?H1 (sub₃.trans sub₄) ?J1
        case H1 => exact H₁₃
        rw [hJ₃]
        refine ⟨rfl, _, _, _, _, rfl, ?_⟩
        rw [List.range_succ, List.map_append]
        rw [Int.zero_add] at hT
        have hs4 : SignV Z₄ (i, colEnd (ln.take j) 1 + q, showOf ch) (.ref T) := ⟨T, _, _, _, rfl, hT⟩
        exact Paired.append (Paired.mono (SignV.keeps sub₄) hvs₃) (.cons hs4 .nil)
      case last =>
        rintro Z₃ l₃ h₉ g₃ t₉ sub₃ hj₃ H₉
        rw [hJ₃] at hj₃
        obtain ⟨rfl, mC, vs₃, u₃, r, rfl, hvs₃⟩ := hj₃
        refine post_none H₉ fun h₁₀ H₁₀ => ?_
        have hi : i < lines.length := (List.getElem?_eq_some_iff.mp hln).1
        have hln5 : ln.length ≤ 5 := hk ln (List.mem_of_getElem? hln)
        have hj : ln[j]? = some ch := by simpa using hch
        have e0 : ln.take (j + 1) = ln.take j ++ [ch] := by rw [List.take_add_one, hj, Option.toList_some]
        have e1 : vs₂.length ≤ 1000 := by
          have x1 := laid_length 5 (lines.take i) 0 fun x hx => hk x (List.mem_of_mem_take hx)
          have x2 := laidLine_length (ln.take j) 1
          have x3 : (lines.take i).length ≤ 20 := Nat.le_trans (List.length_take_le _ _) (by omega)
          have x4 : (ln.take j).length ≤ 5 := Nat.le_trans (List.length_take_le' _ _) hln5
          rw [← hvs₂.length, List.length_append, List.length_map]
          omega
        have e2 : vs₃.length ≤ 8 := by rw [← hvs₃.length, List.length_map, List.length_range]; exact wideOf_le _ _
        refine o_extend H₁₀ (by walk_at "turn") (by walk_at "mem") (fun h₁₁ H₁₁ => ?_) (by omega)
        repeat walk_at "m"
        rename_i H₁₄
        have e3 : ((colEnd (ln.take j) 1 : Nat) : Int) + (wideOf (colEnd (ln.take j) 1) ch : Nat) = (colEnd (ln.take (j + 1)) 1 : Nat) := by
          rw [e0, colEnd_append]; rfl
        rw [e3] at H₁₄
        refine' Next.mk ?H2 (sub₂.trans sub₃) ?J2
        case H2 => exact H₁₄.sublist (by walk_at "sub")
        rw [hJ₂]
        refine ⟨rfl, _, _, _, _, rfl, ?_, ?_⟩
        · exact rfl
        rw [e0, laidLine_append, List.map_append, ← List.append_assoc]
        refine Paired.append (Paired.mono (SignV.keeps sub₃) hvs₂) ?_
        unfold blockOf
        rw [List.map_map]
        exact hvs₃
    · rintro Z₂ l₂ h₆ g'' t₆ sub₂ hj₂ H₆
      rw [hJ₂] at hj₂
      obtain ⟨rfl, m₂, v₃, vs₂, kc, rfl, hS₂, hvs₂⟩ := hj₂
      show wpAny _ _ (execs [] _) _ _ _
      repeat walk_at "m"
      refine' Next.mk ?H3 (sub₁.trans sub₂) ?J3
      case H3 => exact H₆
      rw [hJ₁]
      refine ⟨rfl, _, _, _, _, _, _, rfl, hS₂, ?_⟩
      rw [List.take_add_one, hln, Option.toList_some, laid_append]
      rw [List.take_of_length_le (show ln.length ≤ ln.toArray.size from Nat.le_refl _)] at hvs₂
      have hi : i < lines.length := (List.getElem?_eq_some_iff.mp hln).1
      rw [List.length_take, Nat.min_eq_left (Nat.le_of_lt hi), Nat.zero_add]
      exact hvs₂
  · rintro Z' l' h₃ g' t₃ sub hj₁ H₃
    rw [hJ₁] at hj₁
    obtain ⟨rfl, m, S, v₁, v₂, v₃, vs, rfl, hS, hvs⟩ := hj₁
    repeat walk_at "m"
    obtain ⟨Z₂, sub₂, H₄, hL⟩ := H₃.frzL
    rw [List.take_of_length_le (by rw [hp.length]; exact Nat.le_refl _)] at hvs
    exact hq Z₂ h₃ _ S vs (sub.trans sub₂) (H₄.drop 4) hL (Paired.mono (SignV.keeps sub₂) hvs)
end
end TMF3
section TMF4
section
variable {prog : Program} {w : World} {A : Around} {R : Result → Shared → Prop} {Z h : Heap} {g : Array GenState} {d : Drawn} {t : Nat} {o : OsState} {l l' : List Ent} {n : Nat} {a : Addr} {ns : List Int}

set_option maxHeartbeats 4000000 in
theorem c_names (ok : Ok n A) (G : Gd w Z) (H : Hp Z l h)
    (hq : ∀ h' t' b k₁ k₂ k₃, Hp Z ((b, IsLs [.str "u.h" k₁, .str "" k₂, .str "t.c" k₃]) :: l) h' → R (.ok (.ret (.ref b))) ⟨h', g, d, t', o⟩) (hn : n ≤ 600 := by decide) :
    codeAny (model prog w) A (.call (.ref 118) ⟨[], []⟩) R ⟨h, g, d, t, o⟩ := by
  refine enter (binds := []) ok G H (by exact rfl) (by rfl) (BindsTo.of_eq rfl) (locs rfl) (by decide) ?_ hn
  intro L h₁ t₁ A' ok' H'
  repeat walk_at "m"
  rename_i b h₂ H₂
  exact hq _ _ _ _ _ _ (H₂.sublist (.cons_cons _ (.cons _ (.refl _))))

set_option maxHeartbeats 4000000 in
theorem c_stand {signs : List (Nat × Nat × Nat)} {svs : List Value} {mv : List (Nat × Int × Str)} {kvs : List (Int × Value)} {sa ma : Addr} {begin : Int} {place passed : Nat} {kb kp kq : Tok}
    (ok : Ok n A) (G : Gd w Z) (H : Hp Z l h) (hs : Z.IsList sa svs.toArray) (hsv : Paired (SignV Z) signs svs) (hm : Z.DictOf (intKind prog w) ma kvs) (hmv : Paired (MoveV Z) mv kvs) (hsys : (ma == sysModules) = false)
    (hkeys : ∀ x ∈ mv, x.1 < signs.length) (hsl : signs.length ≤ 100000) (h64 : kvs.length < 64)
    (hq : ∀ Z' h' t' b k₁ k₂, Sub Z Z' → Hp Z' l h' → IsTup Z' b [.str (cur signs mv begin place).1 k₁, Value.int ((cur signs mv begin place).2 + (passed : Int)) k₂].toArray → R (.ok (.ret (.ref b))) ⟨h', g, d, t', o⟩) (hn : n ≤ 600 := by decide) :
    codeAny (model prog w) A (.call (.ref 142) ⟨[.ref sa, .ref ma, .int begin kb, .int place kp, .int passed kq], []⟩) R ⟨h, g, d, t, o⟩ := by
  refine enterC (binds := [("signs", .ref sa), ("moves", .ref ma), ("begin", .int begin kb), ("place", .int place kp), ("passed", .int passed kq)]) ok G H (by exact rfl) (by rfl) (BindsTo.of_eq rfl) (by exact rfl) (by decide) ?_ hn
  intro L h₁ t₁ A' ok' H'
  obtain ⟨m₀, H', f1, f2, f3, f4⟩ : ∃ m₀, Hp Z ((L, IsFr m₀) :: (L + 1, IsCe (some (.int place kp))) :: l) h₁ ∧ m₀ "signs" = some (.ref sa) ∧ m₀ "moves" = some (.ref ma) ∧ m₀ "begin" = some (.int begin kb) ∧ m₀ "passed" = some (.int passed kq) := by
    refine ⟨_, H', ?_, ?_, ?_, ?_⟩ <;> exact rfl
  repeat walk_at "m"
  refine wpAny_comprehension_free (cl := [("place", L + 1)]) rfl (by intro _; exact rfl) (by exact rfl) rfl (by decide) ?_
  repeat walk_at "m"
  have Hm : h₁.DictOf (intKind prog w) ma kvs := hm.keep H'.keep
  refine o_sorted ok'.h H' Hm hsys h64 fun b h₂ t₂ vs ns hvs hperm hsort H₂ => ?_
  obtain ⟨Z₂, sub₂, H₂, hb⟩ := H₂.frzL
  refine i_list H₂ (hb.at fun _ e => H₂.keep _ _ e) fun it h₃ H₃ => ?_
  refine o_list H₃ (fun D h₄ H₄ => ?_) (Nat.le_of_ble_eq_true rfl)
  refine comp_env (by decide) rfl H₄ fun C h₅ t₅ H₅ => ?_
  have hlen : vs.length < 64 := by rw [hvs.length, hperm.length_eq, List.length_map]; exact h64
  refine comp_list ?JJ ok'.h (H₅.pick (.tail (.tail .head))) hb ?j0 ?turn ?last
  case JJ => exact fun (i : Nat) Z' l' g₃ => g₃ = g ∧ Z' = Z₂ ∧ ∃ mC ys, l' = (C, IsFr mC) :: (D, IsLs ys) :: (L, IsFr m₀) :: (L + 1, IsCe (some (.int place kp))) :: l ∧ IntsAre ys ((ns.take i).filter fun k => decide (k < place))
  case j0 => exact ⟨rfl, rfl, _, _, rfl, .nil⟩
  case turn =>
    rintro i v Z' l' h₆ g₃ t₆ hv sub ⟨rfl, rfl, mC, ys, rfl, hys⟩ H₆
    have hi : i < ns.length := by rw [← hvs.length]; exact (List.getElem?_eq_some_iff.mp hv).1
    obtain ⟨kk, tk, rfl, hk⟩ := hvs.at i v hv
    have ht : ns.take (i + 1) = ns.take i ++ [kk] := by rw [List.take_add_one, hk, Option.toList_some]
    have hyl : ys.length ≤ 64 := by
      rw [hys.length]
      exact Nat.le_trans (List.length_filter_le _ _) (Nat.le_trans (List.length_take_le' _ _) (by rw [← hvs.length]; omega))
    repeat walk_at "m"
    refine wpAny_tests_one ?_
    repeat walk_at "m"
    split
    · rename_i hlt
      repeat walk_at "m"
      rename_i H₇
      refine o_append H₇ (by walk_at "turn") (fun h₈ H₈ => ?_) (Nat.le_trans hyl (by decide))
      refine' Next.mk ?H1 sub ?J1
      case H1 => exact H₈
      refine ⟨rfl, rfl, _, _, rfl, ?_⟩
      rw [ht, filter_snoc, if_pos hlt]
      exact hys.append (.cons kk tk .nil)
    · rename_i hlt
      rename_i H₇
      refine' Next.mk ?H2 sub ?J2
      case H2 => exact H₇
      refine ⟨rfl, rfl, _, _, rfl, ?_⟩
      rw [ht, filter_snoc, if_neg hlt, List.append_nil]
      exact hys
  case last =>
    rintro Z' l' h₆ g₃ t₆ sub ⟨rfl, rfl, mC, ys, rfl, hys⟩ H₆
    refine post_some (m := mC) ?_
    repeat walk_at "m"
    rename_i h₇ t₇ H₇
    refine ⟨_, _, _, _, _, _, _, rfl, H₇, fun h₈ H₈ => ?_⟩
    repeat walk_at "m"
    rename_i E' h₉ H₉
    rw [List.take_of_length_le (by rw [hvs.length]; exact Nat.le_refl _)] at hys
    refine eq_dataH (H₉.readsL (by walk_at "mem") (hys.reads h₉)) (H₉.readsL (vs := []) (by walk_at "mem") .nil) (shaped_ints _) (shaped_ints []) (ok'.units (by omega)) ?_
    rw [eqv_ints]
    have hmem : ∀ k : Nat, (moveAt mv k).isSome → (k : Int) ∈ ns := fun k hk => hperm.mem_iff.mpr (key_move k hmv hk)
    repeat walk_at "m"
    split
    · rename_i hemp
      repeat walk_at "m"
      rename_i T h₁₁ H₁₁
      obtain ⟨Z₃, sub₃, H₁₂, hT⟩ := H₁₁.frzT
      have hc : cur signs mv begin place = ((Str.ofString "t.c", begin) : Str × Int) := by
        refine cur_none fun k hk => ?_
        cases e : moveAt mv k with
        | none => rfl
        | some x =>
          have h1 := hmem k (by rw [e]; rfl)
          have h2 : (k : Int) ∈ ns.filter fun k => decide (k < (place : Int)) := List.mem_filter.mpr ⟨h1, decide_eq_true (by omega)⟩
          rw [List.isEmpty_iff.mp hemp] at h2
          cases h2
      rw [hc] at hq
      exact hq Z₃ _ _ T _ _ (sub₂.trans sub₃) (H₁₂.drop 4) hT
    · rename_i hemp
      have hne : (ns.filter fun k => decide (k < (place : Int))) ≠ [] := fun c => hemp (by rw [c]; rfl)
      obtain ⟨ini, x, hx⟩ : ∃ ini x, (ns.filter fun k => decide (k < (place : Int))) = ini ++ [x] := ⟨_, _, (List.dropLast_concat_getLast hne).symm⟩
      obtain ⟨hx1, hx2, hx3⟩ := last_key hsort x ini hx
      obtain ⟨j, rfl, ⟨x', hj1⟩, hj2⟩ := move_key x hmv (hperm.mem_iff.mp hx1)
      have hjlen := hkeys _ hj1
      rw [hx] at hys
      have hyl : ys.length = ini.length + 1 := by rw [hys.length]; simp
      obtain ⟨tx, hy⟩ := hys.get ini.length (j : Int) (by simp)
      rcases value_move j hmv with ⟨e1, _⟩ | ⟨y, v, e1, e2, e3, bv, k₁, k₂, rfl, hbv⟩
      · rw [e1] at hj2; cases hj2
      have hc : cur signs mv begin place = ((y.2, y.1 - passedAt signs j) : Str × Int) := by
        refine cur_last e1 (by omega) fun k h1 h2 => ?_
        cases e : moveAt mv k with
        | none => rfl
        | some x =>
          have h3 := hx3 k (hmem k (by rw [e]; rfl)) (by omega)
          omega
      obtain ⟨sv, hsv1⟩ : ∃ sv, svs[j]? = some sv := ⟨_, List.getElem?_eq_getElem (by rw [← hsv.length]; exact hjlen)⟩
      obtain ⟨sg, hsg, bs, q₁, q₂, q₃, rfl, hbs⟩ := Paired.get hsv hsv1
      have hp : passedAt signs j = sg.1 := by unfold passedAt; rw [hsg]; rfl
      repeat walk_at "m"
      refine sub_listN (vs := ys) (H₉.isList (by walk_at "mem")) (by decide) (by omega) (by decide) (by rw [show ((-1 : Int) + ys.length).toNat = ini.length by omega]; exact hy) ?_
      repeat walk_at "m"
      refine sub_dict (hm.keep fun b o e => H₉.keep _ _ (sub₂ _ _ e)) e2 fun t₁₀ => ?_
      refine assign_twoZ ok'.h H₉ (hbv.keeps sub₂) fun h₁₀ H₁₀ => ?_
      repeat walk_at "m"
      rename_i H₁₁ _ _ _ _ _ _
      refine sub_listN (vs := ys) (H₁₁.isList (by walk_at "mem")) (by decide) (by omega) (by decide) (by rw [show ((-1 : Int) + ys.length).toNat = ini.length by omega]; exact hy) ?_
      refine sub_list (hs.at fun _ e => H₁₁.keep _ _ (sub₂ _ _ e)) (by omega) (by omega) (by simpa using hsv1) ?_
      repeat walk_at "m"
      refine sub_tup ((hbs.keeps sub₂).keeps H₁₁.keep) (j := 0) (by decide) (by decide) rfl rfl ?_
      repeat walk_at "m"
      rename_i T h₁₂ H₁₂
      obtain ⟨Z₃, sub₃, H₁₃, hT⟩ := H₁₂.frzT
      rw [hc, hp] at hq
      have e5 : y.1 + (passed : Int) - (sg.1 : Int) = y.1 - (sg.1 : Int) + (passed : Int) := by omega
      rw [e5] at hT
      exact hq Z₃ _ _ T _ _ (sub₂.trans sub₃) (H₁₃.drop 4) hT
end
end TMF4
section TMF5
section
variable {prog : Program} {w : World} {A : Around} {R : Result → Shared → Prop} {Z h : Heap} {g : Array GenState} {d : Drawn} {t : Nat} {o : OsState} {l l' : List Ent} {n : Nat} {a : Addr} {ns : List Int}

set_option maxHeartbeats 4000000 in
theorem c_char {u v : Value} (ok : Ok n A) (G : Gd w Z) (H : Hp Z l h)
    (hq : ∀ x dx h' t', Hp Z ((x, IsIn 72 dx []) :: (dx, IsSd w.params [("char", u), ("loc", v)]) :: l) h' → R (.ok (.ret (.ref x))) ⟨h', g, d, t', o⟩) (hn : n ≤ 500 := by decide) :
    codeAny (model prog w) A (.call (.ref 72) ⟨[u, v], []⟩) R ⟨h, g, d, t, o⟩ := by
  refine make_inst (G.at H).K H (by kernel_rfl) (by exact rfl) (by kernel_rfl) fun x dx h₁ H₁ => ?_
  refine enter (binds := [("self", .ref x), ("char", u), ("loc", v)]) ok.under G H₁ (by exact rfl) (by rfl) (BindsTo.of_eq rfl) (locs rfl) (by decide) ?_ (by omega)
  intro L h₂ t₁ A' ok' H₂
  repeat walk_at "m"
  refine set_dictH (C := 72) (G.at H₂).K H₂ (by walk_at "mem") (H₂.here (x, IsIn _ dx []) (by walk_at "mem")) (by walk_at "turn") (by have := H₂.apart (p := (dx, _)) (by walk_at "pick") (q := (L, _)) (by walk_at "mem"); exact this) (by kernel_rfl) (by kernel_rfl) (by kernel_rfl) (by kernel_rfl) (Nat.le_of_ble_eq_true rfl) fun h₃ t₃ H₃ => ?_
  repeat walk_at "m"
  refine set_dictH (C := 72) (G.at H₃).K H₃ (by walk_at "mem") (H₃.here (x, IsIn _ dx []) (by walk_at "mem")) (by walk_at "turn") (by have := H₃.apart (p := (dx, _)) (by walk_at "pick") (q := (L, _)) (by walk_at "mem"); exact this) (by kernel_rfl) (by kernel_rfl) (by kernel_rfl) (by kernel_rfl) (Nat.le_of_ble_eq_true rfl) fun h₄ t₄ H₄ => ?_
  repeat walk_at "m"
  exact ⟨rfl, hq x dx _ _ H₄.tail⟩

set_option maxHeartbeats 4000000 in
theorem c_source {u : Value} (ok : Ok n A) (G : Gd w Z) (H : Hp Z l h)
    (hq : ∀ x dx h' t' k, Hp Z ((x, IsIn 100 dx []) :: (dx, IsSd w.params [("filename", u), ("row", .int 1 k)]) :: l) h' → R (.ok (.ret (.ref x))) ⟨h', g, d, t', o⟩) (hn : n ≤ 500 := by decide) :
    codeAny (model prog w) A (.call (.ref 100) ⟨[u], []⟩) R ⟨h, g, d, t, o⟩ := by
  refine make_inst (G.at H).K H (by kernel_rfl) (by exact rfl) (by kernel_rfl) fun x dx h₁ H₁ => ?_
  refine enter (binds := [("self", .ref x), ("name", u)]) ok.under G H₁ (by exact rfl) (by rfl) (BindsTo.of_eq rfl) (locs rfl) (by decide) ?_ (by omega)
  intro L h₂ t₁ A' ok' H₂
  repeat walk_at "m"
  refine set_dictH (C := 100) (G.at H₂).K H₂ (by walk_at "mem") (H₂.here (x, IsIn _ dx []) (by walk_at "mem")) (by walk_at "turn") (by have := H₂.apart (p := (dx, _)) (by walk_at "pick") (q := (L, _)) (by walk_at "mem"); exact this) (by kernel_rfl) (by kernel_rfl) (by kernel_rfl) (by kernel_rfl) (Nat.le_of_ble_eq_true rfl) fun h₃ t₃ H₃ => ?_
  repeat walk_at "m"
  refine set_dictH (C := 100) (G.at H₃).K H₃ (by walk_at "mem") (H₃.here (x, IsIn _ dx []) (by walk_at "mem")) (by walk_at "turn") (by have := H₃.apart (p := (dx, _)) (by walk_at "pick") (q := (L, _)) (by walk_at "mem"); exact this) (by kernel_rfl) (by kernel_rfl) (by kernel_rfl) (by kernel_rfl) (Nat.le_of_ble_eq_true rfl) fun h₄ t₄ H₄ => ?_
  repeat walk_at "m"
  exact ⟨rfl, hq x dx _ _ _ H₄.tail⟩

set_option maxHeartbeats 4000000 in
theorem c_loc {f r c n₀ : Value} (ok : Ok n A) (G : Gd w Z) (H : Hp Z l h)
    (hq : ∀ x dx h' t', Hp Z ((x, IsIn 41 dx [some c, some f, some n₀, some r, some .none]) :: (dx, IsSd w.params []) :: l) h' → R (.ok (.ret (.ref x))) ⟨h', g, d, t', o⟩) (hn : n ≤ 500 := by decide) :
    codeAny (model prog w) A (.call (.ref 41) ⟨[f, r, c, n₀], []⟩) R ⟨h, g, d, t, o⟩ := by
  refine make_inst (G.at H).K H (by kernel_rfl) (by exact rfl) (by kernel_rfl) fun x dx h₁ H₁ => ?_
  refine enter (binds := [("self", .ref x), ("filename", f), ("row", r), ("col", c), ("ln", n₀), ("source", .none)]) ok.under G H₁ (by exact rfl) (by rfl) (binds_K (G.at H₁).K rfl (by exact rfl) rfl (by exact rfl) (by exact rfl)) (locs rfl) (by decide) ?_ (by omega)
  intro L h₂ t₁ A' ok' H2
  repeat walk_at "m"
  have D0 := H2.here (dx, IsSd w.params []) (by walk_at "mem")
  obtain ⟨od0, ed0, -⟩ := D0
  refine set_slotH (C := 41) (p := 43) (i := 1) (sl := []) (sl' := [none, some f]) (L := L) (G.at H2).K H2 (.head _) (by walk_at "turn") (by have := H2.apart (p := (x, _)) (by walk_at "pick") (q := (dx, _)) (by walk_at "mem"); exact fun c => absurd c (by have nd := H2.nd; rw [List.map_cons, List.nodup_cons] at nd; exact fun e => nd.1 (e ▸ (.head _)))) ed0 (by kernel_rfl) (by kernel_rfl) (by kernel_rfl) (by kernel_rfl) (by kernel_rfl) (by decide) (by first | rfl | simp) fun _ _ H3 => ?_
  repeat walk_at "m"
  have D1 := H3.here (dx, IsSd w.params []) (by walk_at "mem")
  obtain ⟨od1, ed1, -⟩ := D1
  refine set_slotH (C := 41) (p := 45) (i := 3) (sl := [none, some f]) (sl' := [none, some f, none, some r]) (L := L) (G.at H3).K H3 (.head _) (by walk_at "turn") (by have := H3.apart (p := (x, _)) (by walk_at "pick") (q := (dx, _)) (by walk_at "mem"); exact fun c => absurd c (by have nd := H3.nd; rw [List.map_cons, List.nodup_cons] at nd; exact fun e => nd.1 (e ▸ (.head _)))) ed1 (by kernel_rfl) (by kernel_rfl) (by kernel_rfl) (by kernel_rfl) (by kernel_rfl) (by decide) (by first | rfl | simp) fun _ _ H4 => ?_
  repeat walk_at "m"
  have D2 := H4.here (dx, IsSd w.params []) (by walk_at "mem")
  obtain ⟨od2, ed2, -⟩ := D2
  refine set_slotH (C := 41) (p := 42) (i := 0) (sl := [none, some f, none, some r]) (sl' := [some c, some f, none, some r]) (L := L) (G.at H4).K H4 (.head _) (by walk_at "turn") (by have := H4.apart (p := (x, _)) (by walk_at "pick") (q := (dx, _)) (by walk_at "mem"); exact fun c => absurd c (by have nd := H4.nd; rw [List.map_cons, List.nodup_cons] at nd; exact fun e => nd.1 (e ▸ (.head _)))) ed2 (by kernel_rfl) (by kernel_rfl) (by kernel_rfl) (by kernel_rfl) (by kernel_rfl) (by decide) (by first | rfl | simp) fun _ _ H5 => ?_
  repeat walk_at "m"
  have D3 := H5.here (dx, IsSd w.params []) (by walk_at "mem")
  obtain ⟨od3, ed3, -⟩ := D3
  refine set_slotH (C := 41) (p := 44) (i := 2) (sl := [some c, some f, none, some r]) (sl' := [some c, some f, some n₀, some r]) (L := L) (G.at H5).K H5 (.head _) (by walk_at "turn") (by have := H5.apart (p := (x, _)) (by walk_at "pick") (q := (dx, _)) (by walk_at "mem"); exact fun c => absurd c (by have nd := H5.nd; rw [List.map_cons, List.nodup_cons] at nd; exact fun e => nd.1 (e ▸ (.head _)))) ed3 (by kernel_rfl) (by kernel_rfl) (by kernel_rfl) (by kernel_rfl) (by kernel_rfl) (by decide) (by first | rfl | simp) fun _ _ H6 => ?_
  repeat walk_at "m"
  have D4 := H6.here (dx, IsSd w.params []) (by walk_at "mem")
  obtain ⟨od4, ed4, -⟩ := D4
  refine set_slotH (C := 41) (p := 46) (i := 4) (sl := [some c, some f, some n₀, some r]) (sl' := [some c, some f, some n₀, some r, some .none]) (L := L) (G.at H6).K H6 (.head _) (by walk_at "turn") (by have := H6.apart (p := (x, _)) (by walk_at "pick") (q := (dx, _)) (by walk_at "mem"); exact fun c => absurd c (by have nd := H6.nd; rw [List.map_cons, List.nodup_cons] at nd; exact fun e => nd.1 (e ▸ (.head _)))) ed4 (by kernel_rfl) (by kernel_rfl) (by kernel_rfl) (by kernel_rfl) (by kernel_rfl) (by decide) (by first | rfl | simp) fun _ _ H7 => ?_
  repeat walk_at "m"
  exact ⟨rfl, hq x dx _ _ H7.tail⟩

end
section
variable {prog : Program} {w : World} {A : Around} {R : Result → Shared → Prop} {Z h : Heap} {g : Array GenState} {d : Drawn} {t : Nat} {o : OsState} {l l' : List Ent} {n : Nat} {a : Addr} {ns : List Int}
set_option maxHeartbeats 4000000 in
theorem c_told {x : Addr} {nm : Str} {row col ln₀ : Int} {ch : Str} {k₁ k₂ k₃ k₄ k₅ : Tok} (ok : Ok n A) (G : Gd w Z) (H : Hp Z l h) (hx : CharAt w.params Z x (.str nm k₁) (.int row k₂) (.int col k₃) (.int ln₀ k₄) (.str ch k₅))
    (hq : ∀ b h' t', Hp Z ((b, IsTp [.str nm k₁, .int row k₂, .int col k₃, .int ln₀ k₄, .str ch k₅]) :: l) h' → R (.ok (.ret (.ref b))) ⟨h', g, d, t', o⟩) (hn : n ≤ 500 := by decide) :
    codeAny (model prog w) A (.call (.ref 149) ⟨[.ref x], []⟩) R ⟨h, g, d, t, o⟩ := by
  refine enter (binds := [("char", .ref x)]) ok G H (by exact rfl) (by rfl) (BindsTo.of_eq rfl) (locs rfl) (by decide) ?_ (by omega)
  intro L h₂ t₁ A' ok' H₂
  obtain ⟨dx, lx, ldx, ⟨o₁, e₁, p₁⟩, ⟨o₂, e₂, p₂⟩, ⟨o₃, e₃, p₃⟩, o₄, e₄⟩ := hx
  have K₂ := (G.at H₂).K
  have i₁ : ∃ ob, h₂.get? x = some ob ∧ IsIn 72 dx [] ob := ⟨o₁, H₂.keep _ _ e₁, p₁⟩
  have i₂ : ∃ ob, h₂.get? dx = some ob ∧ IsSd w.params _ ob := ⟨o₂, H₂.keep _ _ e₂, p₂⟩
  have i₃ : ∃ ob, h₂.get? lx = some ob ∧ IsIn 41 ldx _ ob := ⟨o₃, H₂.keep _ _ e₃, p₃⟩
  have i₄ := H₂.keep _ _ e₄
  repeat walk_at "m"
  refine get_dictH K₂ i₁ i₂ (by exact rfl) (by kernel_rfl) (by kernel_rfl) (by exact rfl) (by kernel_rfl) (by rfl) fun _ => ?_
  repeat walk_at "m"
  refine get_slotH (p := 43) (i := 1) K₂ i₃ i₄ (by kernel_rfl) (by kernel_rfl) (by kernel_rfl) (by kernel_rfl) (by kernel_rfl) (by kernel_rfl) (by exact rfl) (by rfl) fun _ => ?_
  repeat walk_at "m"
  refine get_dictH K₂ i₁ i₂ (by exact rfl) (by kernel_rfl) (by kernel_rfl) (by exact rfl) (by kernel_rfl) (by rfl) fun _ => ?_
  repeat walk_at "m"
  refine get_slotH (p := 45) (i := 3) K₂ i₃ i₄ (by kernel_rfl) (by kernel_rfl) (by kernel_rfl) (by kernel_rfl) (by kernel_rfl) (by kernel_rfl) (by exact rfl) (by rfl) fun _ => ?_
  repeat walk_at "m"
  refine get_dictH K₂ i₁ i₂ (by exact rfl) (by kernel_rfl) (by kernel_rfl) (by exact rfl) (by kernel_rfl) (by rfl) fun _ => ?_
  repeat walk_at "m"
  refine get_slotH (p := 42) (i := 0) K₂ i₃ i₄ (by kernel_rfl) (by kernel_rfl) (by kernel_rfl) (by kernel_rfl) (by kernel_rfl) (by kernel_rfl) (by exact rfl) (by rfl) fun _ => ?_
  repeat walk_at "m"
  refine get_dictH K₂ i₁ i₂ (by exact rfl) (by kernel_rfl) (by kernel_rfl) (by exact rfl) (by kernel_rfl) (by rfl) fun _ => ?_
  repeat walk_at "m"
  refine get_slotH (p := 44) (i := 2) K₂ i₃ i₄ (by kernel_rfl) (by kernel_rfl) (by kernel_rfl) (by kernel_rfl) (by kernel_rfl) (by kernel_rfl) (by exact rfl) (by rfl) fun _ => ?_
  repeat walk_at "m"
  refine get_dictH K₂ i₁ i₂ (by exact rfl) (by kernel_rfl) (by kernel_rfl) (by exact rfl) (by kernel_rfl) (by rfl) fun _ => ?_
  repeat walk_at "m"
  rename_i b h₃ H₃
  exact hq b _ _ (H₃.sublist (.cons_cons _ (.cons _ (.refl _))))
end
end TMF5
section TMF6
section
variable {prog : Program} {w : World} {A : Around} {R : Result → Shared → Prop} {Z h : Heap} {g : Array GenState} {d : Drawn} {t : Nat} {o : OsState} {l : List Ent}
  {name qual : Str} {params : Arguments} {body : List Stmt} {scope : Scope} {dV kV doc pm cdv ct oc : Value} {an od : Option Addr} {osl : Array (Option Value)} {f : Addr} {args : Args} {binds : List (Str × Value)} {n : Nat}

theorem enterG (ok : Ok n A) (G : Gd w Z) (H : Hp Z l h) (ho : (KK w.params).lookup f = some ⟨oc, od, .func (fnOf name qual params body scope dV kV doc pm an cdv ct), osl⟩) (hcd : codeIn (KK w.params) cdv qual = true)
    (hbind : BindsTo ⟨h, g, d, t, o⟩ (fnOf name qual params body scope dV kV doc pm an cdv ct) args binds) (hloc : ∀ y ∈ binds, scope.names.lookup y.1 = some .local)
    (hcell : ∀ x ∈ scope.names, x.2 ≠ .cell)
    (hq : ∀ C r h' t', Hp Z ((r, IsGn g.size) :: (C, IsFr fun y => binds.reverse.lookup y) :: l) h' → R (.ok (.ret (.ref r))) ⟨h', g.push (.fresh (.func body (envOf qual scope C f cdv))), d, t', o⟩)
    (hn : n ≤ 600 := by decide) (hco : scope.isCoroutine = false := by rfl) (hgen : scope.isGenerator = true := by rfl) (hk : scope.kind = .function := by rfl) :
    codeAny (model prog w) A (.call (.ref f) args) R ⟨h, g, d, t, o⟩ := by
  have Gh := G.at H
  refine codeAny_call_generator (fd := fnOf name qual params body scope dV kV doc pm an cdv ct) (body := body) (ok.room hn) (Gh.K _ _ ho) rfl hco hgen rfl (codeRec_of Gh.K hcd) (hbind _ _ _ _ ?_)
  refine wpAny_newFunctionEnv hcell hloc (fun h' hns hsb => ?_) hk
  obtain ⟨o', e', f'⟩ := IsFr.of_ns hns
  have keep : ∀ b o, h.get? b = some o → h'.get? b = some o := fun b o e => by
    have hb : b ≠ h.objs.size := Nat.ne_of_lt (Heap.lt_size e)
    exact (hsb.2 b hb).trans (Heap.get?_push_of_some _ e)
  have H' := H.add keep (Nat.le_refl _) e' f'
  refine ⟨Gh.lim.keeps keep, ?_⟩
  exact hq _ _ _ _ (H'.push _ ⟨_, _, rfl⟩)
end

section
variable {prog : Program} {w : World} {A : Around} {R : Result → Shared → Prop} {Z h : Heap} {g : Array GenState} {d : Drawn} {t : Nat} {o : OsState} {l l' : List Ent} {n : Nat} {a : Addr} {ns : List Int}

set_option maxHeartbeats 8000000 in
theorem c_reader {lines : List (List Nat)} {lvs : List Value} {fa sx sdx : Addr} (ok : Ok n A) (G : Gd w Z) (H : Hp Z l h) (hl : Z.IsList fa lvs.toArray) (hp : Paired LineV lines lvs) (hk : ∀ x ∈ lines, LnOk x) (hsx : ∃ o, Z.get? sx = some o ∧ IsIn 100 sdx [] o)
    (hq : ∀ r h' t' C m code, Hp Z ((r, IsGn g.size) :: (C, IsFr m) :: l) h' → Live prog w 40 Z sdx lines.length (laid lines 0) 0 [(C, IsFr m)] (.fresh code) → R (.ok (.ret (.ref r))) ⟨h', g.push (.fresh code), d, t', o⟩) (hn : n ≤ 600 := by decide) :
    codeAny (model prog w) A (.call (.ref 111) ⟨[.ref fa, .ref sx], []⟩) R ⟨h, g, d, t, o⟩ := by
  refine enterG (binds := [("f", .ref fa), ("source_file", .ref sx)]) ok G H (by exact rfl) (by rfl) (BindsTo.of_eq rfl) (locs rfl) (by decide) ?_ hn
  intro C r h₁ t₁ H₁
  refine hq r h₁ t₁ C _ _ H₁ (gen_core (fa := fa) (sx := sx) ⟨rfl, rfl, by intro _; exact rfl, by intro _; exact rfl, ?iter1, ?t1, ?s0, ?iter2, ?t2, ?s1, ?ex, ?s3⟩ hl hp hk ⟨rfl, rfl⟩)
  case iter1 =>
    intro A Z₁ l h g d t o m Q ok sub hfr H hQ
    obtain ⟨hf, hs⟩ := hfr
    have G₁ := G.keeps sub
    repeat walk_at "m"
    exact o_enum1 H (hl.at fun _ e => H.keep _ _ (sub _ _ e)) fun e it h' H' => hQ e it h' _ H'
  case t1 =>
    intro A Z₁ l h g d t o m a v x k Q ok hfr H hQ
    obtain ⟨hf, hs⟩ := hfr
    refine assign_two ok.h H (.head _) fun h₁ H₁ => ?_
    repeat walk_at "m"
    rename_i h₂ t₂ H₂
    exact hQ _ _ _ ⟨by first | exact hf | exact rfl, by first | exact hs | exact rfl⟩ rfl H₂.tail
  case s0 =>
    intro A Z₁ l h g d t o m x k Q ok sub hfr hln hx H hQ
    obtain ⟨hf, hs⟩ := hfr
    have G₁ := G.keeps sub
    repeat walk_at "m"
    refine m_expand ?_
    repeat walk_at "m"
    refine v_expand hx fun u₁ t₁ => ?_
    repeat walk_at "m"
    rename_i h₂ t₂ H₂
    exact hQ _ _ _ _ ⟨by first | exact hf | exact rfl, by first | exact hs | exact rfl⟩ rfl H₂
  case iter2 =>
    intro A Z₁ l h g d t o m x k Q ok sub hfr hln H hQ
    obtain ⟨hf, hs⟩ := hfr
    have G₁ := G.keeps sub
    repeat walk_at "m"
    exact o_enum1S H fun e it h' H' => hQ e it h' _ H'
  case t2 =>
    intro A Z₁ l h g d t o m a i k₁ x k Q ok hfr H hQ
    obtain ⟨hf, hs⟩ := hfr
    refine assign_two ok.h H (.head _) fun h₁ H₁ => ?_
    repeat walk_at "m"
    rename_i h₂ t₂ H₂
    exact hQ _ _ _ ⟨by first | exact hf | exact rfl, by first | exact hs | exact rfl⟩ rfl rfl H₂.tail
  case s1 =>
    intro A Z₁ l h g d t o m nm row col y k₁ k₂ Q ok sub hfr hc1 hc2 H hQ
    obtain ⟨hf, hs⟩ := hfr
    have G₁ := G.keeps sub
    repeat walk_at "m"
    obtain ⟨ob, eob, hob⟩ := hsx
    obtain ⟨od, ed, kf, kr, hsd⟩ := H.here (sdx, Row w.params nm row) (by walk_at "mem")
    have K₂ := (G₁.at H).K
    have i₁ : ∃ ob, h.get? sx = some ob ∧ IsIn 100 sdx [] ob := ⟨ob, H.keep _ _ (sub _ _ eob), hob⟩
    refine get_dictH K₂ i₁ ⟨od, ed, hsd⟩ (by exact rfl) (by kernel_rfl) (by kernel_rfl) (by exact rfl) (by kernel_rfl) (by rfl) fun _ => ?_
    repeat walk_at "m"
    refine get_dictH K₂ i₁ ⟨od, ed, hsd⟩ (by exact rfl) (by kernel_rfl) (by kernel_rfl) (by exact rfl) (by kernel_rfl) (by rfl) fun _ => ?_
    repeat walk_at "m"
    refine wpAny_call (c_loc ok G₁ H fun x dx h₂ t₂ H₂ => ?_)
    show wpAny _ _ _ _ _ _
    repeat walk_at "m"
    rename_i h₃ t₃ H₃
    obtain ⟨Z₂, sub₂, H₄, o₁, e₁, p₁⟩ := H₃.frz
    obtain ⟨Z₃, sub₃, H₅, o₂, e₂, p₂⟩ := H₄.frz
    exact hQ _ _ _ Z₃ x (sub₂.trans sub₃) ⟨by first | exact hf | exact rfl, by first | exact hs | exact rfl⟩ (by exact hc2) (by exact rfl) ⟨dx, _, _, _, _, ⟨o₁, sub₃ _ _ e₁, p₁⟩, o₂, e₂⟩ H₅
  case ex =>
    intro A Z₁ l h g d t o m nm row col y k₂ lx Q ok sub hfr hc1 hc2 hloc H hQ
    obtain ⟨hf, hs⟩ := hfr
    have G₁ := G.keeps sub
    repeat walk_at "m"
    obtain ⟨ldx, a₁, a₂, a₃, a₄, ⟨lo, le, lp⟩, lo', le'⟩ := hloc
    refine wpAny_call (c_char ok G₁ H fun x dx h₂ t₂ H₂ => ?_)
    obtain ⟨Z₂, sub₂, H₄, o₁, e₁, p₁⟩ := H₂.frz
    obtain ⟨Z₃, sub₃, H₅, o₂, e₂, p₂⟩ := H₄.frz
    have s23 := sub₂.trans sub₃
    exact hQ _ _ Z₃ x _ _ _ _ _ s23 H₅ ⟨dx, lx, ldx, ⟨o₁, sub₃ _ _ e₁, p₁⟩, ⟨o₂, e₂, p₂⟩, ⟨lo, s23 _ _ le, lp⟩, lo', s23 _ _ le'⟩
  case s3 =>
    intro A Z₁ l h g d t o m nm row Q ok sub hfr H hQ
    obtain ⟨hf, hs⟩ := hfr
    have G₁ := G.keeps sub
    repeat walk_at "m"
    obtain ⟨ob, eob, hob⟩ := hsx
    obtain ⟨od, ed, kf, kr, hsd⟩ := H.here (sdx, Row w.params nm row) (by walk_at "mem")
    have K₂ := (G₁.at H).K
    have i₁ : ∃ ob, h.get? sx = some ob ∧ IsIn 100 sdx [] ob := ⟨ob, H.keep _ _ (sub _ _ eob), hob⟩
    refine get_dictH K₂ i₁ ⟨od, ed, hsd⟩ (by exact rfl) (by kernel_rfl) (by kernel_rfl) (by exact rfl) (by kernel_rfl) (by rfl) fun _ => ?_
    have H₁ : Hp Z₁ ((C, IsFr m) :: (sdx, IsSd w.params [("filename", .str nm kf), ("row", .int row kr)]) :: l) h := H.turns (.tail .head) (fun _ _ _ e => e) ed hsd
    repeat walk_at "m"
    have hne : sdx ≠ C := H₁.apart (p := (sdx, _)) (.tail .head) (q := (C, _)) (.head _)
    refine set_dictH (C := 100) K₂ H₁ (.head _) i₁ (by walk_at "turn") hne (by kernel_rfl) (by kernel_rfl) (by kernel_rfl) (by kernel_rfl) (Nat.le_of_ble_eq_true rfl) fun h₂ t₂ H₂ => ?_
    exact hQ _ _ (H₂.see (.tail .head) fun o x => ⟨kf, _, x⟩)
end
end TMF6
section TMF7
section
variable {prog : Program} {w : World} {A : Around} {R : Result → Shared → Prop} {Z h : Heap} {g : Array GenState} {d : Drawn} {t : Nat} {o : OsState} {l l' : List Ent} {n : Nat} {a : Addr} {ns : List Int}

set_option maxHeartbeats 16000000 in
theorem c_law {sc : Addr} {svs : List Value} {xs : List Int} (ok : Ok n A) (G : Gd w Z) (H : Hp Z l h) (hs : Z.IsList sc svs.toArray) (hi : IntsAre svs xs) (hz : xs.length < 64) (hg : g = #[])
    (hq : ∀ Z' h' t' g', Sub Z Z' → Hp Z' l h' → (∀ (k : Nat) y, g'[k]? = some y → y = .finished) → R (.ok (.ret (.bool true))) ⟨h', g', d, t', o⟩) (hn : n ≤ 10 := by decide) :
    codeAny (model prog w) A (.call (.ref 154) ⟨[.ref sc], []⟩) R ⟨h, g, d, t, o⟩ := by
  subst hg
  refine enterC (binds := [("script", .ref sc)]) ok G H (by exact rfl) (by rfl) (BindsTo.of_eq rfl) (by exact rfl) (by decide) ?_ (by omega)
  intro L h₁ t₁ A' ok' H'
  obtain ⟨m₀, H', f1⟩ : ∃ m₀, Hp Z ((L, IsFr m₀) :: (L + 1, IsCe none) :: l) h₁ ∧ m₀ "script" = some (.ref sc) := by
    refine ⟨_, H', ?_⟩ <;> exact rfl
  repeat walk_at "m"
  refine ev_slice H' fun sl h₂ t₂ H₂ => ?_
  have hsv : svs.length < 64 := by rw [hi.length]; exact hz
  refine sub_slice H₂ (hs.at fun _ e => H₂.keep _ _ e) (by walk_at "mem") (by omega) fun c h₃ H₃ => ?_
  obtain ⟨ns, hns, hnl⟩ := slice_ints_any hi none (some 24) none
  have hsl : (slicePick svs.toArray none (some 24) none).toList.length ≤ 1000000 := by rw [hns.length]; omega
  repeat walk_at "m"
  refine o_listCopy H₃ (.head _) hsl fun tp h₄ H₄ => ?_
  repeat walk_at "m"
  rename_i h₅ t₅ H₅
  replace H₅ := (H₅.see (q := IsTape ns) .head fun o x => ⟨_, hns, x⟩).sublist (.cons_cons _ (.cons _ (.cons _ (.refl _))))
  have hnz : ns.length < 64 := by omega
  refine wpAny_call (c_next ok' G H₅ (by walk_at "turn") hnz (fun h₆ t₆ kb H₆ => ?_) (by omega))
  show wpAny _ _ _ _ _ _
  repeat walk_at "m"
  refine wpAny_call (c_next ok' G H₆ (by walk_at "turn") (by rw [List.length_tail]; omega) (fun h₇ t₇ kc H₇ => ?_) (by omega))
  show wpAny _ _ _ _ _ _
  repeat walk_at "m"
  rename_i h₈ t₈ H₈
  obtain ⟨m₁, begin, c₀, ns₂, H₉, fb, fc, hns2⟩ : ∃ m₁ begin c₀ ns₂, Hp Z ((tp, IsTape ns₂) :: (L, IsFr m₁) :: (L + 1, IsCe (some (.ref tp))) :: l) h₈ ∧ m₁ "begin" = some (.int begin kb) ∧ m₁ "c" = some (.int c₀ kc) ∧ ns₂.length < 64 := by
    refine ⟨_, ns.headD 0, ns.tail.headD 0, _, H₈.sublist (.cons _ (.refl _)), ?_, ?_, ?_⟩
    · exact rfl
    · exact rfl
    · rw [List.length_tail, List.length_tail]; omega
  clear H' H₂ H₃ H₄ H₅ H₆ H₇ H₈ f1
  obtain ⟨N1, hN1, hN1'⟩ := fmod_nat c₀ 5 (by decide)
  obtain ⟨N2, hN2, hN2'⟩ := fmod_nat (c₀.fdiv 5) 3 (by decide)
  obtain ⟨N3, hN3, hN3'⟩ := fmod_nat (c₀.fdiv 15) 3 (by decide)
  have e1 : (1 : Int) + c₀.fmod 5 = ((1 + N1 : Nat) : Int) := by rw [show ((5 : Nat) : Int) = 5 from rfl] at hN1; rw [hN1]; push_cast; rfl
  have e2 : (c₀.fdiv 5).fmod 3 = (N2 : Int) := hN2
  have e3 : (c₀.fdiv 15).fmod 3 = (N3 : Int) := hN3
  repeat walk_at "m"
  -- comprehension 1: lines
  refine wpAny_comprehension_free (cl := [("tape", L + 1)]) rfl (by intro _; exact rfl) (by exact rfl) rfl (by decide) ?_
  repeat walk_at "m"
  rename_i rr1 hr1 tr1 Hr1
  rw [e1] at Hr1
  refine i_range (n := 1 + N1) Hr1 (.head _) (by omega) fun it1 ha1 Ha1 => ?_
  refine o_list Ha1 (fun D1 hb1 Hb1 => ?_) (Nat.le_of_ble_eq_true rfl)
  refine comp_env (by decide) rfl Hb1 fun C1 hc1 tc1 Hc1 => ?_
  obtain ⟨JJ1, hJJ1⟩ : ∃ J : Nat → Heap → List Ent → Array GenState → Prop, J = fun (k : Nat) Z' l' g₃ => g₃ = #[] ∧ Z' = Z ∧ ∃ mC ns' vs lns, l' = (C1, IsFr mC) :: (D1, IsLs vs) :: (rr1, IsRg (1 + N1 : Nat)) :: (tp, IsTape ns') :: (L, IsFr m₁) :: (L + 1, IsCe (some (.ref tp))) :: l ∧
    ns'.length < 64 ∧ Paired LineV lns vs ∧ lns.length = k ∧ ∀ x ∈ lns, LnOk x := ⟨_, rfl⟩
  refine comp_range (n := 1 + N1) JJ1 ok'.h (Hc1.pick (.tail (.tail .head))) ?j01 ?turn1 ?last1
  case j01 => rw [hJJ1]; exact ⟨rfl, rfl, _, _, _, [], rfl, hns2, .nil, rfl, by intro x hx; cases hx⟩
  case turn1 =>
    rintro q k₂ Z' l' h' g₃ t' hqn sub hj1 Ht
    rw [hJJ1] at hj1
    obtain ⟨rfl, rfl, mC, ns', vs', lns', rfl, hn', hp', hlen, hok⟩ := hj1
    repeat walk_at "m"
    refine wpAny_tests_nil ?_
    repeat walk_at "m"
    rename_i Hu
    refine wpAny_call (c_next ok' G Hu (by walk_at "turn") hn' (fun h₁' t₁' k₁' Hv => ?_) (by omega))
    show wpAny _ _ _ _ _ _
    repeat walk_at "m"
    refine wpAny_call (c_line ok' G Hv (fun h₂' t₂' x k₂' hx Hw => ?_) (by omega))
    show wpAny _ _ _ _ _ _
    repeat walk_at "m"
    refine o_append Hw (by walk_at "turn") (fun h₃' Hx => ?_) (by rw [← hp'.length, hlen]; exact Nat.le_trans (Nat.le_of_lt hqn) (Nat.le_trans (by omega : 1 + N1 ≤ 5) (by decide)))
    refine' Next.mk ?Ht1 sub ?Jt1
    case Ht1 => exact Hx
    rw [hJJ1]
    refine ⟨rfl, rfl, _, _, _, lns' ++ [x.cps.toList], rfl, by rw [List.length_tail]; omega, Paired.append hp' (.cons (lineV_of hx).1 .nil), by rw [List.length_append, hlen]; rfl, ?_⟩
    intro y hy
    rcases List.mem_append.mp hy with hy | hy
    · exact hok y hy
    · rw [List.mem_singleton.mp hy]; exact (lineV_of (k := k₂') hx).2
  case last1 =>
  rintro Z' l' hd1 g₃ td1 - hj1 Hd1
  rw [hJJ1] at hj1
  obtain ⟨rfl, rfl, mC1, ns₃, lvs, lines, rfl, hns3, hp1, hlen1, hok1⟩ := hj1
  refine post_some (m := mC1) ?_
  repeat walk_at "m"
  rename_i he1 te1 He1
  refine ⟨_, _, _, _, _, _, _, rfl, He1, fun hf1 Hf1 => ?_⟩
  obtain ⟨Z₂, s1, Hg1, hl1⟩ := Hf1.frzX
  have G₂ := G.keeps s1
  obtain ⟨m₂, H₁₀, fb2, fc2, fn1⟩ : ∃ m_, Hp Z₂ ((tp, IsTape ns₃) :: (L, IsFr m_) :: (L + 1, IsCe (some (.ref tp))) :: l) hf1 ∧ m_ "begin" = some (.int begin kb) ∧ m_ "c" = some (.int c₀ kc) ∧ m_ "lines" = some (.ref D1) := by
    refine ⟨_, Hg1.sublist (.cons _ (.refl _)), ?_, ?_, ?_⟩
    all_goals first | assumption | exact rfl
  clear Hr1 Ha1 Hb1 Hc1 Hd1 He1 Hf1 Hg1
  repeat walk_at "m"
  -- comprehension 2: further
  refine wpAny_comprehension_free (cl := [("tape", L + 1)]) rfl (by intro _; exact rfl) (by exact rfl) rfl (by decide) ?_
  repeat walk_at "m"
  rename_i rr2 hr2 tr2 Hr2
  rw [e2] at Hr2
  refine i_range (n := N2) Hr2 (.head _) (by omega) fun it2 ha2 Ha2 => ?_
  refine o_list Ha2 (fun D2 hb2 Hb2 => ?_) (Nat.le_of_ble_eq_true rfl)
  refine comp_env (by decide) rfl Hb2 fun C2 hc2 tc2 Hc2 => ?_
  obtain ⟨JJ2, hJJ2⟩ : ∃ J : Nat → Heap → List Ent → Array GenState → Prop, J = fun (k : Nat) Z' l' g₃ => g₃ = #[] ∧ Z' = Z₂ ∧ ∃ mC ns' vs lns, l' = (C2, IsFr mC) :: (D2, IsLs vs) :: (rr2, IsRg (N2 : Nat)) :: (tp, IsTape ns') :: (L, IsFr m₂) :: (L + 1, IsCe (some (.ref tp))) :: l ∧
    ns'.length < 64 ∧ Paired LineV lns vs ∧ lns.length = k ∧ ∀ x ∈ lns, LnOk x := ⟨_, rfl⟩
  refine comp_range (n := N2) JJ2 ok'.h (Hc2.pick (.tail (.tail .head))) ?j02 ?turn2 ?last2
  case j02 => rw [hJJ2]; exact ⟨rfl, rfl, _, _, _, [], rfl, hns3, .nil, rfl, by intro x hx; cases hx⟩
  case turn2 =>
    rintro q k₂ Z' l' h' g₃ t' hqn sub hj2 Ht
    rw [hJJ2] at hj2
    obtain ⟨rfl, rfl, mC, ns', vs', lns', rfl, hn', hp', hlen, hok⟩ := hj2
    repeat walk_at "m"
    refine wpAny_tests_nil ?_
    repeat walk_at "m"
    rename_i Hu
    refine wpAny_call (c_next ok' G₂ Hu (by walk_at "turn") hn' (fun h₁' t₁' k₁' Hv => ?_) (by omega))
    show wpAny _ _ _ _ _ _
    repeat walk_at "m"
    refine wpAny_call (c_line ok' G₂ Hv (fun h₂' t₂' x k₂' hx Hw => ?_) (by omega))
    show wpAny _ _ _ _ _ _
    repeat walk_at "m"
    refine o_append Hw (by walk_at "turn") (fun h₃' Hx => ?_) (by rw [← hp'.length, hlen]; exact Nat.le_trans (Nat.le_of_lt hqn) (Nat.le_trans (by omega : N2 ≤ 3) (by decide)))
    refine' Next.mk ?Ht2 sub ?Jt2
    case Ht2 => exact Hx
    rw [hJJ2]
    refine ⟨rfl, rfl, _, _, _, lns' ++ [x.cps.toList], rfl, by rw [List.length_tail]; omega, Paired.append hp' (.cons (lineV_of hx).1 .nil), by rw [List.length_append, hlen]; rfl, ?_⟩
    intro y hy
    rcases List.mem_append.mp hy with hy | hy
    · exact hok y hy
    · rw [List.mem_singleton.mp hy]; exact (lineV_of (k := k₂') hx).2
  case last2 =>
  rintro Z' l' hd2 g₃ td2 - hj2 Hd2
  rw [hJJ2] at hj2
  obtain ⟨rfl, rfl, mC2, ns₄, fvs, further, rfl, hns4, hp2, hlen2, hok2⟩ := hj2
  refine post_some (m := mC2) ?_
  repeat walk_at "m"
  rename_i he2 te2 He2
  refine ⟨_, _, _, _, _, _, _, rfl, He2, fun hf2 Hf2 => ?_⟩
  obtain ⟨Z₃, s2, Hg2, hl2⟩ := Hf2.frzX
  have G₃ := G₂.keeps s2
  obtain ⟨m₃, H₁₁, fb3, fc3, fl3, fn2⟩ : ∃ m_, Hp Z₃ ((tp, IsTape ns₄) :: (L, IsFr m_) :: (L + 1, IsCe (some (.ref tp))) :: l) hf2 ∧ m_ "begin" = some (.int begin kb) ∧ m_ "c" = some (.int c₀ kc) ∧ m_ "lines" = some (.ref D1) ∧ m_ "further" = some (.ref D2) := by
    refine ⟨_, Hg2.sublist (.cons _ (.refl _)), ?_, ?_, ?_, ?_⟩
    all_goals first | assumption | exact rfl
  clear Hr2 Ha2 Hb2 Hc2 Hd2 He2 Hf2 Hg2
  repeat walk_at "m"
  -- comprehension 3: beside
  refine wpAny_comprehension_free (cl := [("tape", L + 1)]) rfl (by intro _; exact rfl) (by exact rfl) rfl (by decide) ?_
  repeat walk_at "m"
  rename_i rr3 hr3 tr3 Hr3
  rw [e3] at Hr3
  refine i_range (n := N3) Hr3 (.head _) (by omega) fun it3 ha3 Ha3 => ?_
  refine o_list Ha3 (fun D3 hb3 Hb3 => ?_) (Nat.le_of_ble_eq_true rfl)
  refine comp_env (by decide) rfl Hb3 fun C3 hc3 tc3 Hc3 => ?_
  obtain ⟨JJ3, hJJ3⟩ : ∃ J : Nat → Heap → List Ent → Array GenState → Prop, J = fun (k : Nat) Z' l' g₃ => g₃ = #[] ∧ Z' = Z₃ ∧ ∃ mC ns' vs lns, l' = (C3, IsFr mC) :: (D3, IsLs vs) :: (rr3, IsRg (N3 : Nat)) :: (tp, IsTape ns') :: (L, IsFr m₃) :: (L + 1, IsCe (some (.ref tp))) :: l ∧
    ns'.length < 64 ∧ Paired LineV lns vs ∧ lns.length = k ∧ ∀ x ∈ lns, LnOk x := ⟨_, rfl⟩
  refine comp_range (n := N3) JJ3 ok'.h (Hc3.pick (.tail (.tail .head))) ?j03 ?turn3 ?last3
  case j03 => rw [hJJ3]; exact ⟨rfl, rfl, _, _, _, [], rfl, hns4, .nil, rfl, by intro x hx; cases hx⟩
  case turn3 =>
    rintro q k₂ Z' l' h' g₃ t' hqn sub hj3 Ht
    rw [hJJ3] at hj3
    obtain ⟨rfl, rfl, mC, ns', vs', lns', rfl, hn', hp', hlen, hok⟩ := hj3
    repeat walk_at "m"
    refine wpAny_tests_nil ?_
    repeat walk_at "m"
    rename_i Hu
    refine wpAny_call (c_next ok' G₃ Hu (by walk_at "turn") hn' (fun h₁' t₁' k₁' Hv => ?_) (by omega))
    show wpAny _ _ _ _ _ _
    repeat walk_at "m"
    refine wpAny_call (c_line ok' G₃ Hv (fun h₂' t₂' x k₂' hx Hw => ?_) (by omega))
    show wpAny _ _ _ _ _ _
    repeat walk_at "m"
    refine o_append Hw (by walk_at "turn") (fun h₃' Hx => ?_) (by rw [← hp'.length, hlen]; exact Nat.le_trans (Nat.le_of_lt hqn) (Nat.le_trans (by omega : N3 ≤ 3) (by decide)))
    refine' Next.mk ?Ht3 sub ?Jt3
    case Ht3 => exact Hx
    rw [hJJ3]
    refine ⟨rfl, rfl, _, _, _, lns' ++ [x.cps.toList], rfl, by rw [List.length_tail]; omega, Paired.append hp' (.cons (lineV_of hx).1 .nil), by rw [List.length_append, hlen]; rfl, ?_⟩
    intro y hy
    rcases List.mem_append.mp hy with hy | hy
    · exact hok y hy
    · rw [List.mem_singleton.mp hy]; exact (lineV_of (k := k₂') hx).2
  case last3 =>
  rintro Z' l' hd3 g₃ td3 - hj3 Hd3
  rw [hJJ3] at hj3
  obtain ⟨rfl, rfl, mC3, ns₅, bvs, beside, rfl, hns5, hp3, hlen3, hok3⟩ := hj3
  refine post_some (m := mC3) ?_
  repeat walk_at "m"
  rename_i he3 te3 He3
  refine ⟨_, _, _, _, _, _, _, rfl, He3, fun hf3 Hf3 => ?_⟩
  obtain ⟨Z₄, s3, Hg3, hl3⟩ := Hf3.frzX
  have G₄ := G₃.keeps s3
  obtain ⟨m₄, H₁₂, fb4, fc4, fl4, ff4, fn3⟩ : ∃ m_, Hp Z₄ ((tp, IsTape ns₅) :: (L, IsFr m_) :: (L + 1, IsCe (some (.ref tp))) :: l) hf3 ∧ m_ "begin" = some (.int begin kb) ∧ m_ "c" = some (.int c₀ kc) ∧ m_ "lines" = some (.ref D1) ∧ m_ "further" = some (.ref D2) ∧ m_ "beside" = some (.ref D3) := by
    refine ⟨_, Hg3.sublist (.cons _ (.refl _)), ?_, ?_, ?_, ?_, ?_⟩
    all_goals first | assumption | exact rfl
  clear Hr3 Ha3 Hb3 Hc3 Hd3 He3 Hf3 Hg3
  repeat walk_at "m"
  obtain ⟨N4, hN4, hN4'⟩ := fmod_nat (c₀.fdiv 45 + 1) 4 (by decide)
  have hll : lvs.length = 1 + N1 := by rw [← hp1.length]; exact hlen1
  have hfl : fvs.length = N2 := by rw [← hp2.length]; exact hlen2
  have hbl : bvs.length = N3 := by rw [← hp3.length]; exact hlen3
  have zl1 : ZL Z₄ D1 lvs := (hl1.keeps s2).keeps s3
  have zl2 : ZL Z₄ D2 fvs := hl2.keeps s3
  refine o_concat H₁₂ zl1 zl2 (by omega) fun cc h₁₃ H₁₃ => ?_
  obtain ⟨Z₅, s5, H₁₄, zlc⟩ := H₁₃.frzX
  have G₅ := G₄.keeps s5
  repeat walk_at "m"
  have hpp : Paired LineV (lines ++ further) (lvs ++ fvs) := Paired.append hp1 hp2
  have hall : ∀ x ∈ lines ++ further, LnOk x := fun x hx => (List.mem_append.mp hx).elim (hok1 x) (hok2 x)
  refine wpAny_call (c_laid ok' G₅ H₁₄ zlc.isList hpp (laid_lns hall) (by rw [List.length_append, hlen1, hlen2]; omega) (fun Z₆ h₁₅ t₁₅ sg svs' s6 H₁₅ hsl' hsv' => ?_) (by omega))
  show wpAny _ _ _ _ _ _
  have G₆ := G₅.keeps s6
  repeat walk_at "m"
  rename_i h₁₆ t₁₆ H₁₆
  have e4 : (c₀.fdiv 45 + 1).fmod 4 = (N4 : Int) := hN4
  refine o_dict (prog := prog) G₆ H₁₆ fun ma h₁₇ hsys H₁₇ => ?_
  repeat walk_at "m"
  rename_i rr h₁₈ t₁₈ H₁₈
  rw [e4] at H₁₈
  obtain ⟨m₅, H₁₉, F₅⟩ : ∃ m_, Hp Z₆ ((rr, IsRg (N4 : Nat)) :: (ma, IsDc prog w []) :: (tp, IsTape ns₅) :: (L, IsFr m_) :: (L + 1, IsCe (some (.ref tp))) :: l) h₁₈ ∧ LawFr m_ begin kb D1 D2 D3 sg ma := by
    refine ⟨_, H₁₈, ⟨?_, ?_, ?_, ?_, ?_, ?_⟩⟩
    all_goals first | assumption | exact rfl
  clear H₁₂ H₁₃ H₁₄ H₁₅ H₁₆ H₁₇ H₁₈
  refine i_range (n := N4) H₁₉ (.head _) (by omega) fun itm h₂₀ H₂₀ => ?_
  have hsl6 : svs'.length ≤ 1000 := by
    rw [← hsv'.length]
    have := laid_length 5 (lines ++ further) 0 (laid_lns hall)
    rw [List.length_append, hlen1, hlen2] at this
    omega
  obtain ⟨JM, hJM⟩ : ∃ J : Nat → Heap → List Ent → Array GenState → Prop, J = fun (i : Nat) Z' l' g' => g' = #[] ∧ ∃ m ns' kvs mv, l' = (ma, IsDc prog w kvs) :: (tp, IsTape ns') :: (L, IsFr m) :: (L + 1, IsCe (some (.ref tp))) :: l ∧ ns'.length < 64 ∧
    LawFr m begin kb D1 D2 D3 sg ma ∧ Paired (MoveV Z') mv kvs ∧ (∀ x ∈ mv, x.1 < svs'.length ∧ PyData.strOk x.2.2 = true) ∧ kvs.length ≤ i := ⟨_, rfl⟩
  refine loop_range (n := N4) JM ok'.h (H₂₀.sublist (.cons_cons _ (.cons _ (.refl _)))) (by rw [hJM]; exact ⟨rfl, _, _, _, [], rfl, hns5, F₅, .nil, (by intro x hx; cases hx), Nat.zero_le _⟩) ?_ ?_
  · rintro q k₂ Z' l' h' g₃ t' hqn sub hjM Ht
    rw [hJM] at hjM
    obtain ⟨rfl, m', ns', kvs, mv, rfl, hn', ⟨gb, gl, gf, gs, gg, gm⟩, hmv, hkeys, hkl⟩ := hjM
    have G' := G₆.keeps sub
    repeat walk_at "m"
    rename_i Hu
    refine wpAny_call (c_next ok' G' Hu (by walk_at "turn") hn' (fun h₁' t₁' k₁' Hv => ?_) (by omega))
    show wpAny _ _ _ _ _ _
    repeat walk_at "m"
    refine wpAny_call (c_next ok' G' Hv (by walk_at "turn") (by rw [List.length_tail]; omega) (fun h₂' t₂' k₂' Hw => ?_) (by omega))
    show wpAny _ _ _ _ _ _
    repeat walk_at "m"
    rename_i hx' tx' Hx
    generalize hpl : ns'.headD 0 = place at Hx
    generalize hro : ns'.tail.headD 0 = row at Hx
    refine o_truthZ Hx (hsl'.at fun _ e => sub _ _ e) (Nat.le_trans hsl6 (by decide)) fun t₄' => ?_
    split
    · rename_i hne
      have hpos : 0 < svs'.length := by
        cases svs' with
        | nil => exact absurd hne (by decide)
        | cons x r => exact Nat.succ_pos _
      have hlz : (svs'.length : Int) ≠ 0 := by omega
      obtain ⟨M6, hM6, hM6'⟩ := fmod_nat place svs'.length hpos
      obtain ⟨M5, hM5, hM5'⟩ := fmod_nat (place.fdiv svs'.length) 3 (by decide)
      rw [show ((3 : Nat) : Int) = 3 from rfl] at hM5
      repeat walk_at "m"
      refine wpAny_call (c_names ok' G' Hx (fun h₃' t₃' b' q₁ q₂ q₃ Hy => ?_) (by omega))
      show wpAny _ _ _ _ _ _
      repeat walk_at "m"
      refine o_lenZ Hy (hsl'.at fun _ e => sub _ _ e) (Nat.le_trans hsl6 (by decide)) fun t₅' u₅ => ?_
      refine v_div hlz (PyProof.noPylong_small (by omega)) fun u₆ t₆' => ?_
      repeat walk_at "m"
      rw [hM5]
      obtain ⟨nm5, k5, h5, ho5⟩ := three (k₁ := q₁) (k₂ := q₂) (k₃ := q₃) hM5'
      refine sub_list (Hy.isList (.head _)) (by omega) (by omega) (by simpa using h5) ?_
      repeat walk_at "m"
      rename_i T hz' Hz
      refine o_lenZ Hz (hsl'.at fun _ e => sub _ _ e) (Nat.le_trans hsl6 (by decide)) fun t₇' u₇ => ?_
      refine v_mod hlz fun u₈ t₈' => ?_
      rw [hM6]
      obtain ⟨Z₇, s7, Hz1, hT⟩ := Hz.frzT
      obtain ⟨mv', hmv', hk', hlen'⟩ := stored_move M6 (row, nm5) (v := .ref T) ⟨rfl, T, _, _, rfl, hT⟩ (Paired.mono (MoveV.keeps s7) hmv)
      refine o_put Hz1 (by walk_at "turn") (Nat.le_trans (by omega : kvs.length ≤ 4) (by decide)) fun h₉' t₉' Hz2 => ?_
      repeat walk_at "m"
      refine' Next.mk ?Hm1 (sub.trans s7) ?Jm1
      case Hm1 => exact Hz2.sublist (by walk_at "sub")
      rw [hJM]
      refine ⟨rfl, _, _, _, mv', rfl, by rw [List.length_tail, List.length_tail]; omega, ⟨?_, ?_, ?_, ?_, ?_, ?_⟩, hmv', ?_, by omega⟩
      all_goals first | assumption | exact rfl | skip
      intro x hx
      rcases hk' x hx with rfl | hz'
      · exact ⟨hM6', ho5⟩
      · exact hkeys x hz'
    · repeat walk_at "m"
      refine' Next.mk ?Hm2 sub ?Jm2
      case Hm2 => exact Hx.sublist (by walk_at "sub")
      rw [hJM]
      refine ⟨rfl, _, _, _, mv, rfl, by rw [List.length_tail, List.length_tail]; omega, ⟨?_, ?_, ?_, ?_, ?_, ?_⟩, hmv, hkeys, by omega⟩
      all_goals first | assumption | exact rfl | skip
  rintro Z₇ l' h₂₁ g₃ t₂₁ s7 hjM H₂₁
  rw [hJM] at hjM
  obtain ⟨rfl, m₆, ns₆, kvs, mv, rfl, -, ⟨gb, gl, gf, gs, gg, gm⟩, hmv, hkeys, hkl⟩ := hjM
  have G₇ := G₆.keeps s7
  obtain ⟨Z₈, s8, H₂₂, odc, edc, hdc⟩ := H₂₁.frz
  replace H₂₂ := H₂₂.tail
  have G₈ := G₇.keeps s8
  have hdict : Z₈.DictOf (intKind prog w) ma kvs := Heap.dictOf_iff.mpr ⟨odc, edc, hdc⟩
  have hmv8 := Paired.mono (MoveV.keeps s8) hmv
  have hN4k : kvs.length ≤ 4 := by omega
  have hnames : ∀ z ∈ mv, PyData.strOk z.2.2 = true := fun z hz => (hkeys z hz).2
  repeat walk_at "m"
  refine wpAny_call (c_source ok' G₈ H₂₂ (fun x dx h₂₃ t₂₃ k₂₃ H₂₃ => ?_) (by omega))
  show wpAny _ _ _ _ _ _
  repeat walk_at "m"
  refine wpAny_call (c_source ok' G₈ H₂₃ (fun y dy h₂₄ t₂₄ k₂₄ H₂₄ => ?_) (by omega))
  show wpAny _ _ _ _ _ _
  repeat walk_at "m"
  rename_i h₂₅ t₂₅ H₂₅
  replace H₂₅ := H₂₅.tail
  obtain ⟨Z₉, s9, H₂₆, hyi⟩ := H₂₅.frz
  obtain ⟨Z₁₀, s10, H₂₇, hxi⟩ := (H₂₆.pick (.tail .head)).frz
  have G₁₀ := (G₈.keeps s9).keeps s10
  have hyi' : ∃ o, Z₁₀.get? y = some o ∧ IsIn 100 dy [] o := let ⟨o, e, p⟩ := hyi; ⟨o, s10 _ _ e, p⟩
  have hxh : ∃ o, h₂₅.get? x = some o ∧ IsIn 100 dx [] o := let ⟨o, e, p⟩ := hxi; ⟨o, H₂₇.keep _ _ e, p⟩
  have hdxL : dx ≠ L := H₂₇.apart (p := (dx, _)) (.tail .head) (q := (L, _)) (by walk_at "mem")
  refine set_dictH (C := 100) (G₁₀.at H₂₇).K H₂₇ (by walk_at "mem") hxh (by walk_at "turn") hdxL (by kernel_rfl) (by kernel_rfl) (by kernel_rfl) (by kernel_rfl) (Nat.le_of_ble_eq_true rfl) fun h₂₈ t₂₈ H₂₈ => ?_
  replace H₂₈ := (H₂₈.see (q := Row w.params "t.c" begin) (.tail .head) fun o x => ⟨_, _, x⟩).see (q := Row w.params "own.c" 1) .head fun o x => ⟨_, _, x⟩
  have s4_10 : Sub Z₄ Z₁₀ := s5.trans (s6.trans (s7.trans (s8.trans (s9.trans s10))))
  repeat walk_at "m"
  refine wpAny_call (c_reader ok' G₁₀ H₂₈ (hl3.keeps s4_10).isList hp3 hok3 hyi' (fun rr h₂₉ t₂₉ C₀ mC₀ code₀ H₂₉ hlive₀ => ?_) (by omega))
  show wpAny _ _ _ _ _ _
  repeat walk_at "m"
  rename_i pl h₃₀ H₃₀
  obtain ⟨m₇, gt, as, H₃₁, F₇⟩ : ∃ m_ gt as, Hp Z₁₀ ((pl, IsLs [Value.ref D1, .ref D2]) :: LoopL w.params dx dy rr gt as L tp "t.c" begin 1 [] [] m_ ([(C₀, IsFr mC₀)] ++ l)) h₃₀ ∧ LawF2 m_ begin kb D1 D2 D3 sg ma x y rr gt as := by
    refine ⟨_, _, _, (((((((((H₃₀.sublist (.cons_cons _ (.cons _ (.refl _)))).pick (.tail (.tail (.tail (.tail (.tail (.tail (.tail (.tail .head))))))))).pick (.tail (.tail (.tail (.tail (.tail (.tail (.tail (.tail .head))))))))).pick (.tail (.tail (.tail .head)))).pick (.tail (.tail (.tail (.tail .head))))).pick (.tail (.tail (.tail (.tail (.tail .head)))))).pick (.tail (.tail (.tail (.tail (.tail (.tail (.tail .head)))))))).pick (.tail (.tail (.tail (.tail (.tail (.tail (.tail (.tail .head))))))))).pick (.tail (.tail (.tail (.tail (.tail (.tail (.tail .head)))))))), ⟨⟨by first | assumption | exact rfl, by first | assumption | exact rfl, by first | assumption | exact rfl, by first | assumption | exact rfl, by first | assumption | exact rfl, by first | assumption | exact rfl⟩, by first | assumption | exact rfl, by first | assumption | exact rfl, by first | assumption | exact rfl, by first | assumption | exact rfl, by first | assumption | exact rfl⟩⟩
  clear H₂₂ H₂₃ H₂₄ H₂₅ H₂₆ H₂₇ H₂₈ H₂₉ H₃₀
  obtain ⟨Z₁₁, s11, H₃₂, hpl⟩ := H₃₁.frzX
  have G₁₁ := G₁₀.keeps s11
  have s8_11 : Sub Z₈ Z₁₁ := (s9.trans s10).trans s11
  have s6_11 : Sub Z₆ Z₁₁ := s7.trans (s8.trans s8_11)
  have s4_11 : Sub Z₄ Z₁₁ := s4_10.trans s11
  have hx11 : ∃ o, Z₁₁.get? x = some o ∧ IsIn 100 dx [] o := let ⟨o, e, p⟩ := hxi; ⟨o, s11 _ _ e, p⟩
  have hdict11 : Z₁₁.DictOf (intKind prog w) ma kvs := hdict.keep fun b o e => s8_11 b o e
  have hmv11 := Paired.mono (MoveV.keeps s8_11) hmv8
  have hsgl : (laid (lines ++ further) 0).length ≤ 1000 := by rw [hsv'.length]; exact hsl6
  refine i_list H₃₂ (hpl.isList.at fun _ e => H₃₂.keep _ _ e) fun itp h₃₃ H₃₃ => ?_
  refine main_loop (gvs := []) (avs := []) (mv := mv) (all := laid beside 0) (N := beside.length) ⟨?wpart, ?wchar, ?witer, by intro _; exact rfl, ?ws1, ?ws2, ?ws3⟩ ok' (n := n + 1) ?wn G₁₁ rfl hsgl (zl1.keeps s4_11).isList hp1 hok1 (zl2.keeps s4_11).isList hp2 hok2 hpl.isList
    F₇ ⟨.inl (Live.up s11 _ _ _ _ hlive₀), Nat.zero_le _, fun _ _ => Nat.zero_le _, Nat.zero_le _, .nil⟩ ?wG H₃₃ ?wend
  case wn => omega
  case wG => exact Gs.push (g := #[]) (live := []) ⟨(by intro p hp; cases hp), (by intro k y hy; simp at hy)⟩ _
  case wpart =>
    intro E Z' h' g' t' nm row rowo gvs avs m T v Q hF hH hQ
    obtain ⟨⟨a1, a2, a3, a4, a5, a6⟩, b1, b2, b3, b4, b5⟩ := hF
    repeat walk_at "m"
    rename_i h'' t'' hH'
    exact hQ _ _ _ ⟨⟨by first | assumption | exact rfl, by first | assumption | exact rfl, by first | assumption | exact rfl, by first | assumption | exact rfl, by first | assumption | exact rfl, by first | assumption | exact rfl⟩, by first | assumption | exact rfl, by first | assumption | exact rfl, by first | assumption | exact rfl, by first | assumption | exact rfl, by first | assumption | exact rfl⟩ (by exact rfl) hH'
  case wchar =>
    intro E Z' h' g' t' nm row rowo gvs avs m T v Q hF hH hQ
    obtain ⟨⟨a1, a2, a3, a4, a5, a6⟩, b1, b2, b3, b4, b5⟩ := hF
    repeat walk_at "m"
    rename_i h'' t'' hH'
    exact hQ _ _ _ ⟨⟨by first | assumption | exact rfl, by first | assumption | exact rfl, by first | assumption | exact rfl, by first | assumption | exact rfl, by first | assumption | exact rfl, by first | assumption | exact rfl⟩, by first | assumption | exact rfl, by first | assumption | exact rfl, by first | assumption | exact rfl, by first | assumption | exact rfl, by first | assumption | exact rfl⟩ (by exact rfl) hH'
  case witer =>
    intro E Z' h' g' t' nm row rowo gvs avs m T Dp ls' lvs' Q sub hF hpt hl hp hk hH hQ
    have G' := G₁₁.keeps sub
    obtain ⟨⟨a1, a2, a3, a4, a5, a6⟩, b1, b2, b3, b4, b5⟩ := hF
    repeat walk_at "m"
    have hx' : ∃ o, Z'.get? x = some o ∧ IsIn 100 dx [] o := let ⟨o, e, p⟩ := hx11; ⟨o, sub _ _ e, p⟩
    refine wpAny_call (c_reader ok' G' hH hl hp hk hx' (fun rg h'' t'' C mC code hH' hlive => ?_) (by omega))
    exact hQ _ _ _ _ _ _ hH' hlive
  case ws1 =>
    intro E Z' h' g' t' nm row rowo gvs avs m T v Q sub hF hc hlen hH hQ
    have G' := G₁₁.keeps sub
    obtain ⟨⟨a1, a2, a3, a4, a5, a6⟩, b1, b2, b3, b4, b5⟩ := hF
    repeat walk_at "m"
    refine o_method hH (by walk_at "mem") PySem.F.slot_list_append PySem.F.type_list_append ?_
    repeat walk_at "m"
    refine o_append hH (by walk_at "turn") (fun h'' hH' => ?_) (Nat.le_trans hlen (by decide))
    exact hQ _ _ hH'
  case ws2 =>
    intro E Z' h' g' t' nm row rowo gvs avs m T j Q sub hF hj hj2 hH hQ
    have G' := G₁₁.keeps sub
    obtain ⟨⟨a1, a2, a3, a4, a5, a6⟩, b1, b2, b3, b4, b5⟩ := hF
    repeat walk_at "m"
    have hjv : ((gvs.length : Nat) : Int) - 1 = (j : Int) := by rw [hj]; push_cast; omega
    have hgl : gvs.length ≤ sizeLine := Nat.le_trans (by omega : gvs.length ≤ 1001) (by decide)
    refine o_len hH (by walk_at "mem") hgl fun t₁' t₂' => ?_
    repeat walk_at "m"
    rw [hjv]
    refine o_in (hdict11.keep fun b o e => hH.keep _ _ (sub _ _ e)) hsys fun t₃' => ?_
    rcases value_move j (Paired.mono (MoveV.keeps sub) hmv11) with ⟨e1, e2⟩ | ⟨z, v, e1, e2, -, bv, q₁, q₂, rfl, hbv⟩
    · rw [e2, Option.isSome_none]
      repeat walk_at "m"
      exact hQ _ _ nm row (fun _ => ⟨rfl, rfl⟩) (fun z hz => by rw [e1] at hz; cases hz) hH
    · rw [e2, Option.isSome_some]
      repeat walk_at "m"
      refine o_len hH (by walk_at "mem") hgl fun t₄' t₅' => ?_
      repeat walk_at "m"
      rw [hjv]
      refine sub_dict (hdict11.keep fun b o e => hH.keep _ _ (sub _ _ e)) e2 fun t₆' => ?_
      refine assign_twoA ok'.h hH hbv rfl rfl fun h₁' hH₁ => ?_
      have hxh' : ∃ o, h₁'.get? x = some o ∧ IsIn 100 dx [] o := let ⟨o, e, p⟩ := hx11; ⟨o, hH₁.keep _ _ (sub _ _ e), p⟩
      obtain ⟨od, ed, kf, kr, hsd⟩ := hH₁.here (dx, Row w.params nm row) (.head _)
      have hH₂ := hH₁.turns (p' := IsSd w.params [("filename", .str nm kf), ("row", .int row kr)]) .head (fun _ _ _ e => e) ed hsd
      have hne : dx ≠ L := hH₂.apart (p := (dx, _)) .head (q := (L, _)) (by walk_at "mem")
      repeat walk_at "m"
      refine set_dictH (C := 100) (G'.at hH₂).K hH₂ (by walk_at "mem") hxh' (by walk_at "turn") hne (by kernel_rfl) (by kernel_rfl) (by kernel_rfl) (by kernel_rfl) (Nat.le_of_ble_eq_true rfl) fun h₃' t₇' hH₃ => ?_
      have hxh3 : ∃ o, h₃'.get? x = some o ∧ IsIn 100 dx [] o := let ⟨o, e, p⟩ := hx11; ⟨o, hH₃.keep _ _ (sub _ _ e), p⟩
      repeat walk_at "m"
      refine set_dictH (C := 100) (G'.at hH₃).K hH₃ (by walk_at "mem") hxh3 (by walk_at "turn") hne (by kernel_rfl) (by kernel_rfl) (by kernel_rfl) (by kernel_rfl) (Nat.le_of_ble_eq_true rfl) fun h₄' t₈' hH₄ => ?_
      have hH₅ := hH₄.see (q := Row w.params z.2 z.1) .head fun o x => ⟨q₂, q₁, x⟩
      repeat walk_at "m"
      exact hQ _ _ z.2 z.1 (fun hz => by rw [e1] at hz; cases hz) (fun u hu => by rw [e1] at hu; cases hu; exact ⟨rfl, rfl⟩) hH₅
  case ws3 =>
    intro E Z' h' g' t' nm row gvs avs m T k p0 own gs live Q sub hF hB hG hlv hH hQ
    have G' := G₁₁.keeps sub
    have hF' := hF
    obtain ⟨⟨a1, a2, a3, a4, a5, a6⟩, b1, b2, b3, b4, b5⟩ := hF
    repeat walk_at "m"
    refine i_gen hH (by walk_at "mem") ?_
    refine loop_dec (α := Unit) (fun _ => 0) (fun _ s => s = ⟨h', g', d, t', o⟩) ?_ () rfl
    rintro _ _ rfl
    refine n_bs ok' (by omega) G' sub hB hG hlv hH (fun h₁' t₁' g₁' Z₁' s₁' hk₁ hB₁ hG₁ hH₁ => ?_) (fun v h₁' t₁' g₁' Z₁' own' gs' p' s₁' hk₁ hB₁ hG₁ hH₁ => ?_) (fun x hx => by have := laid_bounds beside 0 x hx; omega) (laid_sorted _ _)
    · exact hQ _ _ _ _ _ _ _ _ _ _ s₁' hF' hB₁ hG₁ hH₁
    · repeat walk_at "m"
      rename_i h₂' t₂' hH₂
      refine o_method hH₂ (by walk_at "mem") PySem.F.slot_list_append PySem.F.type_list_append ?_
      repeat walk_at "m"
      have hal : avs.length ≤ sizeLine := by
        have e := hB.2.2.2.2.length
        rw [List.length_map, List.length_take] at e
        have e2 := laid_length 5 beside 0 (laid_lns hok3)
        rw [hlen3] at e2
        have hz : sizeLine = 2 ^ 24 := rfl
        omega
      refine o_append hH₂ (by walk_at "turn") (fun h₃' hH₃ => ?_) hal
      repeat walk_at "m"
      exact hQ _ _ _ _ _ _ _ _ _ _ s₁' ⟨⟨by first | assumption | exact rfl, by first | assumption | exact rfl, by first | assumption | exact rfl, by first | assumption | exact rfl, by first | assumption | exact rfl, by first | assumption | exact rfl⟩, by first | assumption | exact rfl, by first | assumption | exact rfl, by first | assumption | exact rfl, by first | assumption | exact rfl, by first | assumption | exact rfl⟩ hB₁ hG₁ hH₃
  case wend =>
  intro Z₁₂ h₃₄ g₃₄ t₃₄ gvs avs m₈ k p0 own gs s12 hF hB hG hgv H₃₄
  have G₁₂ := G₁₁.keeps s12
  have hF' := hF
  obtain ⟨⟨a1, a2, a3, a4, a5, a6⟩, b1, b2, b3, b4, b5⟩ := hF
  show wpAny _ _ _ _ _ _
  repeat walk_at "m"
  refine i_gen H₃₄ (by walk_at "mem") ?_
  obtain ⟨I6, hI6⟩ : ∃ J : Nat → Shared → Prop, J = fun k s => ∃ (Z : Heap) (h : Heap) (g : Array GenState) (t : Nat) (avs : List Value) (m : Str → Option Value) (p0 : Nat) (own : List Ent) (gs : GenState), s = ⟨h, g, d, t, o⟩ ∧ Sub Z₁₂ Z ∧
    LawF2 m begin kb D1 D2 D3 sg ma x y rr gt as ∧ Bs prog w Z₁₁ Z dy beside.length (laid beside 0) k p0 own gs avs ∧ Gs g [(0, gs)] ∧
    Hp Z (LoopL w.params dx dy rr gt as L tp (cur (laid (lines ++ further) 0) mv begin (laid (lines ++ further) 0).length).1 ((cur (laid (lines ++ further) 0) mv begin (laid (lines ++ further) 0).length).2 + ((lines.length + further.length : Nat) : Int)) (1 + (p0 : Int)) gvs avs m (own ++ l)) h := ⟨_, rfl⟩
  refine loop_dec (α := Nat) (fun k => (laid beside 0).length - k) I6 ?_ k
    (by rw [hI6]; exact ⟨Z₁₂, h₃₄, g₃₄, t₃₄, avs, m₈, p0, own, gs, rfl, Sub.refl _, hF', hB, hG, H₃₄⟩)
  clear hB hG H₃₄ hF' a1 a2 a3 a4 a5 a6 b1 b2 b3 b4 b5
  intro k s6_ hi6
  rw [hI6] at hi6
  obtain ⟨Z₁₃, h₃₅, g₃₅, t₃₅, avs, m₉, p0, own, gs, rfl, s13, hF, hB, hG, H₃₅⟩ := hi6
  have G₁₃ := G₁₂.keeps s13
  have hF' := hF
  obtain ⟨⟨a1, a2, a3, a4, a5, a6⟩, b1, b2, b3, b4, b5⟩ := hF
  have hal : avs.length ≤ 1000 := by
    have e := hB.2.2.2.2.length
    rw [List.length_map, List.length_take] at e
    have e2 := laid_length 5 beside 0 (laid_lns hok3)
    rw [hlen3] at e2
    omega
  refine n_bs ok' (by omega) G₁₃ (s12.trans s13) hB hG (by intro p hp; cases hp) H₃₅ (fun h₃₆ t₃₆ g₃₆ Z₁₄ s14 hkl hB₂ hG₂ H₃₆ => ?_) (fun v h₁' t₁' g₁' Z₁' own' gs' p' s₁' hk₁ hB₁ hG₁ hH₁ => ?_) (fun x hx => by have := laid_bounds beside 0 x hx; omega) (laid_sorted _ _)
  rotate_left
  · repeat walk_at "m"
    rename_i h₂' t₂' hH₂
    refine o_method hH₂ (by walk_at "mem") PySem.F.slot_list_append PySem.F.type_list_append ?_
    repeat walk_at "m"
    refine o_append hH₂ (by walk_at "turn") (fun h₃' hH₃ => ?_) (Nat.le_trans hal (by decide))
    repeat walk_at "m"
    refine ⟨k + 1, by omega, ?_⟩
    rw [hI6]
    exact ⟨Z₁', h₃', g₁', _, avs ++ [v], _, p', own', gs', rfl, s13.trans s₁', ⟨⟨by first | assumption | exact rfl, by first | assumption | exact rfl, by first | assumption | exact rfl, by first | assumption | exact rfl, by first | assumption | exact rfl, by first | assumption | exact rfl⟩, by first | assumption | exact rfl, by first | assumption | exact rfl, by first | assumption | exact rfl, by first | assumption | exact rfl, by first | assumption | exact rfl⟩, hB₁, hG₁, hH₃⟩
  have G₁₄ := G₁₃.keeps s14
  subst hkl
  obtain ⟨-, -, -, -, hav⟩ := hB₂
  rw [List.take_length] at hav
  have hgv14 := Paired.mono (CharV.keeps (s13.trans s14)) hgv
  have s11_14 : Sub Z₁₁ Z₁₄ := (s12.trans s13).trans s14
  show wpAny _ _ _ _ _ _
  repeat walk_at "m"
  -- the list `due`
  rename_i h₃₇ t₃₇ H₃₇
  obtain ⟨m₁₀, du, H₃₈, hF₁₀, hdu⟩ : ∃ m_ du, Hp Z₁₄ ((du, IsLs []) :: LoopL w.params dx dy rr gt as L tp (cur (laid (lines ++ further) 0) mv begin (laid (lines ++ further) 0).length).1 ((cur (laid (lines ++ further) 0) mv begin (laid (lines ++ further) 0).length).2 + ((lines.length + further.length : Nat) : Int)) (1 + (beside.length : Int)) gvs avs m_ ([] ++ l)) h₃₇ ∧
      LawF2 m_ begin kb D1 D2 D3 sg ma x y rr gt as ∧ m_ "due" = some (.ref du) := by
    refine ⟨_, _, H₃₇, ⟨⟨by first | assumption | exact rfl, by first | assumption | exact rfl, by first | assumption | exact rfl, by first | assumption | exact rfl, by first | assumption | exact rfl, by first | assumption | exact rfl⟩, by first | assumption | exact rfl, by first | assumption | exact rfl, by first | assumption | exact rfl, by first | assumption | exact rfl, by first | assumption | exact rfl⟩, by exact rfl⟩
  clear H₃₅ H₃₆ H₃₇ hF'
  have hsg14 : Z₁₄.IsList sg svs'.toArray := hsl'.at fun _ e => s11_14 _ _ (s6_11 _ _ e)
  refine o_enum H₃₈ (hsg14.at fun _ e => H₃₈.keep _ _ e) fun ed itd h₃₉ H₃₉ => ?_
  refine i_enum H₃₉ (.head _) ?_
  have hdict14 : Z₁₄.DictOf (intKind prog w) ma kvs := hdict11.keep fun b o e => s11_14 b o e
  have hmv14 := Paired.mono (MoveV.keeps s11_14) hmv11
  have hsv14 := Paired.mono (SignV.keeps (s6_11.trans s11_14)) hsv'
  have hkeys' : ∀ z ∈ mv, z.1 < (laid (lines ++ further) 0).length := fun z hz => by rw [hsv'.length]; exact (hkeys z hz).1
  obtain ⟨JD, hJD⟩ : ∃ J : Nat → Heap → List Ent → Array GenState → Prop, J = fun (i : Nat) Z' l' g' => g' = g₃₆ ∧ ∃ (m : Str → Option Value) (dvs : List Value), l' = (du, IsLs dvs) :: LoopL w.params dx dy rr gt as L tp (cur (laid (lines ++ further) 0) mv begin (laid (lines ++ further) 0).length).1 ((cur (laid (lines ++ further) 0) mv begin (laid (lines ++ further) 0).length).2 + ((lines.length + further.length : Nat) : Int)) (1 + (beside.length : Int)) gvs avs m ([] ++ l) ∧
    LawF2 m begin kb D1 D2 D3 sg ma x y rr gt as ∧ m "due" = some (.ref du) ∧ Paired (TupV Z') (told (laid (lines ++ further) 0) mv begin 0 ((laid (lines ++ further) 0).take i)) dvs := ⟨_, rfl⟩
  refine loop_enum (b := 0) JD ok'.h H₃₉ hsg14 (by rw [hJD]; exact ⟨rfl, m₁₀, [], rfl, hF₁₀, hdu, .nil⟩) ?dturn ?dlast
  case dturn =>
    rintro i v c' k' Z' l' h' g' t' hv sub hjD Ht
    rw [hJD] at hjD
    obtain ⟨rfl, m', dvs, rfl, hF, hdu', hdv⟩ := hjD
    have G' := G₁₄.keeps sub
    obtain ⟨⟨a1, a2, a3, a4, a5, a6⟩, b1, b2, b3, b4, b5⟩ := hF
    rw [Int.zero_add (i : Int)] at Ht
    obtain ⟨z, hz, sb, q₁, q₂, q₃, rfl, hsb⟩ := Paired.get hsv14 hv
    refine assign_twoL ok'.h Ht (.head _) rfl rfl fun h₁' Hu => ?_
    repeat walk_at "m"
    rename_i h₂' t₂' Hv
    refine assign_threeZ ok'.h Hv (hsb.keeps sub) rfl rfl fun h₃' Hw => ?_
    repeat walk_at "m"
    rename_i Hx
    refine wpAny_call (c_stand ok' G' Hx (hsg14.at fun _ e => sub _ _ e) (Paired.mono (SignV.keeps sub) hsv14) (hdict14.keep fun b o e => sub b o e) (Paired.mono (MoveV.keeps sub) hmv14) hsys hkeys' (by omega) (by omega) (fun Z₁' h₄' t₄' rb r₁ r₂ s₁' Hy hrb => ?_) (by omega))
    show wpAny _ _ _ _ _ _
    have G₁' := G'.keeps s₁'
    refine assign_twoZ ok'.h Hy hrb fun h₅' Hz => ?_
    repeat walk_at "m"
    rename_i Hz1
    refine o_method Hz1 (by walk_at "mem") PySem.F.slot_list_append PySem.F.type_list_append ?_
    repeat walk_at "m"
    rename_i tb hz2 Hz2
    obtain ⟨Z₂', s₂', Hz3, hT⟩ := Hz2.frzT
    have htl : ∀ (l : List (Nat × Nat × Nat)) (j : Nat), (told (laid (lines ++ further) 0) mv begin j l).length = l.length := fun l => by
      induction l with
      | nil => intro j; rfl
      | cons y l ih => intro j; show (told (laid (lines ++ further) 0) mv begin (j + 1) l).length + 1 = _; rw [ih, List.length_cons]
    have hdl : dvs.length ≤ 1000 := by
      have e := hdv.length
      rw [htl, List.length_take] at e
      omega
    refine o_append Hz3 (by walk_at "turn") (fun h₆' Hz4 => ?_) (Nat.le_trans hdl (by decide))
    repeat walk_at "m"
    refine' Next.mk ?Hd1 (sub.trans (s₁'.trans s₂')) ?Jd1
    case Hd1 => exact Hz4.sublist (by walk_at "sub")
    rw [hJD]
    refine ⟨rfl, _, _, rfl, ⟨⟨by first | assumption | exact rfl, by first | assumption | exact rfl, by first | assumption | exact rfl, by first | assumption | exact rfl, by first | assumption | exact rfl, by first | assumption | exact rfl⟩, by first | assumption | exact rfl, by first | assumption | exact rfl, by first | assumption | exact rfl, by first | assumption | exact rfl, by first | assumption | exact rfl⟩, by first | assumption | exact rfl, ?_⟩
    rw [List.take_add_one, hz, Option.toList_some, told_append]
    have hil : i < (laid (lines ++ further) 0).length := (List.getElem?_eq_some_iff.mp hz).1
    rw [List.length_take, Nat.min_eq_left (Nat.le_of_lt hil), Nat.zero_add]
    have hs12' := s₁'.trans s₂'
    have htv : TupV Z₂' (toldAt (laid (lines ++ further) 0) mv begin i z) (.ref tb) := ⟨tb, _, _, _, _, _, rfl, hT⟩
    exact Paired.append (Paired.mono (TupV.keeps hs12') hdv) (.cons htv .nil)
  case dlast =>
  rintro Z₁₅ l' h₄₀ g' t₄₀ s15 hjD H₄₀
  rw [hJD] at hjD
  obtain ⟨rfl, m₁₁, dvs, rfl, hF, hdu', hdv⟩ := hjD
  have G₁₅ := G₁₄.keeps s15
  obtain ⟨⟨a1, a2, a3, a4, a5, a6⟩, b1, b2, b3, b4, b5⟩ := hF
  repeat walk_at "m"
  refine o_lenZ H₄₀ (hsg14.at fun _ e => s15 _ _ e) (Nat.le_trans hsl6 (by decide)) fun t₁' t₂' => ?_
  repeat walk_at "m"
  have s4_15 : Sub Z₄ Z₁₅ := s4_11.trans (s11_14.trans s15)
  refine o_lenZ H₄₀ (zl1.keeps s4_15).isList (Nat.le_trans (by omega : lvs.length ≤ 10) (by decide)) fun t₃' t₄' => ?_
  repeat walk_at "m"
  refine o_lenZ H₄₀ (zl2.keeps s4_15).isList (Nat.le_trans (by omega : fvs.length ≤ 10) (by decide)) fun t₅' t₆' => ?_
  repeat walk_at "m"
  refine wpAny_call (c_stand (place := svs'.length) (passed := lvs.length + fvs.length) ok' G₁₅ H₄₀ (hsg14.at fun _ e => s15 _ _ e) (Paired.mono (SignV.keeps s15) hsv14) (hdict14.keep fun b o e => s15 b o e) (Paired.mono (MoveV.keeps s15) hmv14) hsys hkeys' (by omega) (by omega) (fun Z₁₆ h₄₁ t₄₁ en r₁ r₂ s16 H₄₁ hen => ?_) (by omega))
  show wpAny _ _ _ _ _ _
  have G₁₆ := G₁₅.keeps s16
  repeat walk_at "m"
  rename_i h₄₂ t₄₂ H₄₂
  obtain ⟨m₁₂, H₄₃, hF₁₂, hdu₁₂, hen₁₂⟩ : ∃ m_, Hp Z₁₆ ((du, IsLs dvs) :: LoopL w.params dx dy rr gt as L tp (cur (laid (lines ++ further) 0) mv begin (laid (lines ++ further) 0).length).1 ((cur (laid (lines ++ further) 0) mv begin (laid (lines ++ further) 0).length).2 + ((lines.length + further.length : Nat) : Int)) (1 + (beside.length : Int)) gvs avs m_ ([] ++ l)) h₄₂ ∧
      LawF2 m_ begin kb D1 D2 D3 sg ma x y rr gt as ∧ m_ "due" = some (.ref du) ∧ m_ "end" = some (.ref en) := by
    refine ⟨_, H₄₂, ⟨⟨by first | assumption | exact rfl, by first | assumption | exact rfl, by first | assumption | exact rfl, by first | assumption | exact rfl, by first | assumption | exact rfl, by first | assumption | exact rfl⟩, by first | assumption | exact rfl, by first | assumption | exact rfl, by first | assumption | exact rfl, by first | assumption | exact rfl, by first | assumption | exact rfl⟩, by first | assumption | exact rfl, by exact rfl⟩
  obtain ⟨Z₁₇, s17, H₄₄, zdu⟩ := H₄₃.frzX
  obtain ⟨Z₁₈, s18, H₄₅, zgt⟩ := (H₄₄.pick (.tail (.tail (.tail .head)))).frzX
  obtain ⟨Z₁₉, s19, H₄₆, zas⟩ := (H₄₅.pick (.tail (.tail (.tail .head)))).frzX
  have G₁₉ := ((G₁₆.keeps s17).keeps s18).keeps s19
  have zgt19 := zgt.keeps s19
  have s15_19 : Sub Z₁₅ Z₁₉ := s16.trans (s17.trans (s18.trans s19))
  have hgv19 := Paired.mono (CharV.keeps (s15.trans s15_19)) hgv14
  have hav19 := Paired.mono (CharV.keeps (s15.trans s15_19)) hav
  have hdv19 := Paired.mono (TupV.keeps s15_19) hdv
  rw [show (laid (lines ++ further) 0).take svs'.length = laid (lines ++ further) 0 by rw [← hsv'.length, List.take_length]] at hdv19
  clear H₄₀ H₄₁ H₄₂ H₄₃ H₄₄ H₄₅ a1 a2 a3 a4 a5 a6 b1 b2 b3 b4 b5
  obtain ⟨⟨a1, a2, a3, a4, a5, a6⟩, b1, b2, b3, b4, b5⟩ := hF₁₂
  have hgl19 : gvs.length ≤ 1000 := by
    have htl : ∀ (l : List (Nat × Nat × Nat)) (j : Nat), (told (laid (lines ++ further) 0) mv begin j l).length = l.length := fun l => by
      induction l with
      | nil => intro j; rfl
      | cons y l ih => intro j; show (told (laid (lines ++ further) 0) mv begin (j + 1) l).length + 1 = _; rw [ih, List.length_cons]
    rw [← hgv19.length, htl]; exact hsgl
  refine ListComp_ (wpAny_comprehension_free (cl := []) rfl (by intro _; exact rfl) (by exact rfl) rfl (by decide) ?_)
  repeat walk_at "m"
  refine i_list H₄₆ (zgt19.isList.at fun _ e => H₄₆.keep _ _ e) fun itg h₄₇ H₄₇ => ?_
  refine o_list H₄₇ (fun D₄ h₄₈ H₄₈ => ?_) (Nat.le_of_ble_eq_true rfl)
  refine comp_env (by decide) rfl H₄₈ fun C₄ h₄₉ t₄₉ H₄₉ => ?_
  obtain ⟨JJ4, hJJ4⟩ : ∃ J : Nat → Heap → List Ent → Array GenState → Prop, J = fun (k : Nat) Z' l' g₃ => g₃ = g' ∧ ∃ mC ys, l' = (C₄, IsFr mC) :: (D₄, IsLs ys) :: (dx, Row w.params (cur (laid (lines ++ further) 0) mv begin (laid (lines ++ further) 0).length).1 ((cur (laid (lines ++ further) 0) mv begin (laid (lines ++ further) 0).length).2 + ((lines.length + further.length : Nat) : Int))) :: (dy, Row w.params "own.c" (1 + (beside.length : Int))) :: (rr, IsGn 0) :: (L, IsFr m₁₂) :: (L + 1, IsCe (some (.ref tp))) :: ([] ++ l) ∧ Paired (TupV Z') ((told (laid (lines ++ further) 0) mv begin 0 (laid (lines ++ further) 0)).take k) ys := ⟨_, rfl⟩
  refine comp_list JJ4 ok'.h (H₄₉.pick (.tail (.tail .head))) zgt19.isList ?j04 ?turn4 ?last4
  case j04 => rw [hJJ4]; exact ⟨rfl, _, _, rfl, .nil⟩
  case turn4 =>
    rintro i v Z' l' h' gx t' hv sub hj4 Ht
    rw [hJJ4] at hj4
    obtain ⟨rfl, mC, ys, rfl, hys⟩ := hj4
    have G' := G₁₉.keeps sub
    obtain ⟨z, hz, xx, q₁, q₂, q₃, q₄, q₅, rfl, hch⟩ := Paired.get hgv19 hv
    repeat walk_at "m"
    refine wpAny_tests_nil ?_
    repeat walk_at "m"
    rename_i Hu
    refine wpAny_call (c_told ok' G' Hu (hch.keeps sub) (fun b' h₁' t₁' Hv => ?_) (by omega))
    show wpAny _ _ _ _ _ _
    obtain ⟨Z₂', s₂', Hw, hT⟩ := Hv.frzT
    repeat walk_at "m"
    have hyl : ys.length ≤ 1000 := by rw [← hys.length]; exact Nat.le_trans (List.length_take_le' _ _) (by rw [hgv19.length]; exact hgl19)
    refine o_append Hw (by walk_at "turn") (fun h₂' Hx => ?_) (Nat.le_trans hyl (by decide))
    refine' Next.mk ?He1 (sub.trans s₂') ?Je1
    case He1 => exact Hx
    rw [hJJ4]
    refine ⟨rfl, _, _, rfl, ?_⟩
    rw [List.take_add_one, hz, Option.toList_some]
    have htv : TupV Z₂' z (.ref b') := ⟨b', _, _, _, _, _, rfl, hT⟩
    exact Paired.append (Paired.mono (TupV.keeps s₂') hys) (.cons htv .nil)
  case last4 =>
  rintro Z₂₀ l' h₅₀ gx t₅₀ s20 hj4 H₅₀
  rw [hJJ4] at hj4
  obtain ⟨rfl, mC, ys, rfl, hys⟩ := hj4
  refine post_none H₅₀ fun h₅₁ H₅₁ => ?_
  rw [List.take_of_length_le (by rw [hgv19.length]; exact Nat.le_refl _)] at hys
  have G₂₀ := G₁₉.keeps s20
  repeat walk_at "m"
  have hyok : YOk (told (laid (lines ++ further) 0) mv begin 0 (laid (lines ++ further) 0)) := told_ok hnames _ _ (laid_chars _ _ hall)
  obtain ⟨ndu, edu⟩ := zdu
  have hrd := H₅₁.readsL (a := D₄) (by walk_at "mem") (readsAll_tups (fun b o e => H₅₁.keep _ _ e) hys)
  have hrdu : Reads h₅₁ (.ref du) (.list ((told (laid (lines ++ further) 0) mv begin 0 (laid (lines ++ further) 0)).map datOf)) (du :: []) :=
    .list (H₅₁.keep _ _ (s20 _ _ (s19 _ _ (s18 _ _ edu)))) rfl rfl (by simpa using readsAll_tups (fun b o e => H₅₁.keep _ _ (s20 _ _ e)) hdv19)
  refine ne_dataH hrd hrdu (shaped_tups hyok) (shaped_tups hyok) (ok'.units (by omega)) ?_
  rw [eqv_tups hyok, Bool.not_true]
  repeat walk_at "m"
  obtain ⟨od5, ed5, kf5, kr5, hsd5⟩ := H₅₁.here _ (.tail _ (.head _))
  have hx20 : ∃ o, h₅₁.get? x = some o ∧ IsIn 100 dx [] o := let ⟨o, e, p⟩ := hx11; ⟨o, H₅₁.keep _ _ (s20 _ _ (s15_19 _ _ (s15 _ _ (s11_14 _ _ e)))), p⟩
  have K20 := (G₂₀.at H₅₁).K
  refine get_dictH K20 hx20 ⟨od5, ed5, hsd5⟩ (by exact rfl) (by kernel_rfl) (by kernel_rfl) (by exact rfl) (by kernel_rfl) (by rfl) fun _ => ?_
  repeat walk_at "m"
  refine get_dictH K20 hx20 ⟨od5, ed5, hsd5⟩ (by exact rfl) (by kernel_rfl) (by kernel_rfl) (by exact rfl) (by kernel_rfl) (by rfl) fun _ => ?_
  repeat walk_at "m"
  rename_i T₅ h₅₂ H₅₂
  obtain ⟨Z₂₁, s21, H₅₃, hT5⟩ := H₅₂.frzT
  have G₂₁ := G₂₀.keeps s21
  have s16_21 : Sub Z₁₆ Z₂₁ := s17.trans (s18.trans (s19.trans (s20.trans s21)))
  rw [← hsv'.length, ← hp1.length, ← hp2.length] at hen
  have hok5 := cur_ok (sgs := laid (lines ++ further) 0) (b := begin) hnames (laid (lines ++ further) 0).length
  refine ne_dataH (reads_pair (fun b o e => H₅₃.keep _ _ e) hT5) (reads_pair (fun b o e => H₅₃.keep _ _ (s16_21 _ _ e)) hen) (shaped_pair hok5) (shaped_pair hok5) (ok'.units (by omega)) ?_
  rw [eqv_pair hok5, Bool.not_true]
  repeat walk_at "m"
  -- the return
  change wpAny _ _ _ (fun v s => R (.ok (.ret v)) s) _ _
  refine BoolOp_and ?_
  repeat walk_at "m"
  replace H₅₃ := H₅₃.tail
  have zas21 := zas.keeps (s20.trans s21)
  have hav21 := Paired.mono (CharV.keeps (s20.trans s21)) hav19
  have hasl : ((laid beside 0).map asideOf).length ≤ 1000 := by rw [hav21.length]; exact hal
  refine ListComp_ (wpAny_comprehension_free (cl := []) rfl (by intro _; exact rfl) (by exact rfl) rfl (by decide) ?_)
  repeat walk_at "m"
  refine i_list H₅₃ (zas21.isList.at fun _ e => H₅₃.keep _ _ e) fun ita h₅₄ H₅₄ => ?_
  refine o_list H₅₄ (fun D₅ h₅₅ H₅₅ => ?_) (Nat.le_of_ble_eq_true rfl)
  refine comp_env (by decide) rfl H₅₅ fun C₅ h₅₆ t₅₆ H₅₆ => ?_
  obtain ⟨JJ5, hJJ5⟩ : ∃ J : Nat → Heap → List Ent → Array GenState → Prop, J = fun (k : Nat) Z' l' g₃ => g₃ = gx ∧ ∃ mC ys, l' = (C₅, IsFr mC) :: (D₅, IsLs ys) :: (dx, Row w.params (cur (laid (lines ++ further) 0) mv begin (laid (lines ++ further) 0).length).1 ((cur (laid (lines ++ further) 0) mv begin (laid (lines ++ further) 0).length).2 + ((lines.length + further.length : Nat) : Int))) :: (dy, Row w.params "own.c" (1 + (beside.length : Int))) :: (rr, IsGn 0) :: (L, IsFr m₁₂) :: (L + 1, IsCe (some (.ref tp))) :: ([] ++ l) ∧ Paired (TupV Z') (((laid beside 0).map asideOf).take k) ys := ⟨_, rfl⟩
  refine comp_list JJ5 ok'.h (H₅₆.pick (.tail (.tail .head))) zas21.isList ?j05 ?turn5 ?last5
  case j05 => rw [hJJ5]; exact ⟨rfl, _, _, rfl, .nil⟩
  case turn5 =>
    rintro i v Z' l' h' gy t' hv sub hj5 Ht
    rw [hJJ5] at hj5
    obtain ⟨rfl, mC, ys, rfl, hys⟩ := hj5
    have G' := G₂₁.keeps sub
    obtain ⟨z, hz, xx, q₁, q₂, q₃, q₄, q₅, rfl, hch⟩ := Paired.get hav21 hv
    repeat walk_at "m"
    refine wpAny_tests_nil ?_
    repeat walk_at "m"
    rename_i Hu
    refine wpAny_call (c_told ok' G' Hu (hch.keeps sub) (fun b' h₁' t₁' Hv => ?_) (by omega))
    show wpAny _ _ _ _ _ _
    obtain ⟨Z₂', s₂', Hw, hT⟩ := Hv.frzT
    repeat walk_at "m"
    have hyl : ys.length ≤ 1000 := by rw [← hys.length]; exact Nat.le_trans (List.length_take_le' _ _) hasl
    refine o_append Hw (by walk_at "turn") (fun h₂' Hx => ?_) (Nat.le_trans hyl (by decide))
    refine' Next.mk ?Hf1 (sub.trans s₂') ?Jf1
    case Hf1 => exact Hx
    rw [hJJ5]
    refine ⟨rfl, _, _, rfl, ?_⟩
    rw [List.take_add_one, hz, Option.toList_some]
    have htv : TupV Z₂' z (.ref b') := ⟨b', _, _, _, _, _, rfl, hT⟩
    exact Paired.append (Paired.mono (TupV.keeps s₂') hys) (.cons htv .nil)
  case last5 =>
  rintro Z₂₂ l' h₅₇ gy t₅₇ s22 hj5 H₅₇
  rw [hJJ5] at hj5
  obtain ⟨rfl, mC5, ys5, rfl, hys5⟩ := hj5
  refine post_none H₅₇ fun h₅₈ H₅₈ => ?_
  rw [List.take_of_length_le (by rw [hav21.length]; exact Nat.le_refl _)] at hys5
  have G₂₂ := G₂₁.keeps s22
  repeat walk_at "m"
  refine ListComp_ (wpAny_comprehension_free (cl := []) rfl (by intro _; exact rfl) (by exact rfl) rfl (by decide) ?_)
  repeat walk_at "m"
  have zl22 := (hl3.keeps s4_15).keeps ((s16.trans s16_21).trans s22)
  refine wpAny_call (c_laid ok' G₂₂ H₅₈ zl22.isList hp3 (laid_lns hok3) (by omega) (fun Z₂₃ h₆₀ t₆₀ sg2 svs2 s23 H₆₀ hsl2 hsv2 => ?_) (by omega))
  show wpAny _ _ _ _ _ _
  have G₂₃ := G₂₂.keeps s23
  repeat walk_at "m"
  refine i_list H₆₀ (hsl2.at fun _ e => H₆₀.keep _ _ e) fun itb h₆₁ H₆₁ => ?_
  refine o_list H₆₁ (fun D₆ h₆₂ H₆₂ => ?_) (Nat.le_of_ble_eq_true rfl)
  refine comp_env (by decide) rfl H₆₂ fun C₆ h₆₃ t₆₃ H₆₃ => ?_
  obtain ⟨JJ6, hJJ6⟩ : ∃ J : Nat → Heap → List Ent → Array GenState → Prop, J = fun (k : Nat) Z' l' g₃ => g₃ = gy ∧ ∃ mC ys, l' = (C₆, IsFr mC) :: (D₆, IsLs ys) :: (D₅, IsLs ys5) :: (dx, Row w.params (cur (laid (lines ++ further) 0) mv begin (laid (lines ++ further) 0).length).1 ((cur (laid (lines ++ further) 0) mv begin (laid (lines ++ further) 0).length).2 + ((lines.length + further.length : Nat) : Int))) :: (dy, Row w.params "own.c" (1 + (beside.length : Int))) :: (rr, IsGn 0) :: (L, IsFr m₁₂) :: (L + 1, IsCe (some (.ref tp))) :: ([] ++ l) ∧ Paired (TupV Z') (((laid beside 0).map asideOf).take k) ys := ⟨_, rfl⟩
  refine comp_tups JJ6 ok'.h (H₆₃.pick (.tail (.tail .head))) hsl2 ?j06 ?turn6 ?ht6 ?last6
  case j06 => rw [hJJ6]; exact ⟨rfl, _, _, rfl, .nil⟩
  case ht6 =>
    intro v hv
    obtain ⟨i, hi⟩ := List.getElem?_of_mem hv
    obtain ⟨z, hz, sb, q₁, q₂, q₃, rfl, hsb⟩ := Paired.get hsv2 hi
    exact ⟨_, rfl⟩
  case turn6 =>
    rintro i v Z' l' h' gz t' hv sub hj6 Ht
    rw [hJJ6] at hj6
    obtain ⟨rfl, mC, ys, rfl, hys⟩ := hj6
    have G' := G₂₃.keeps sub
    obtain ⟨z, hz, sb, q₁, q₂, q₃, rfl, hsb⟩ := Paired.get hsv2 hv
    refine assign_threeZ ok'.h Ht (hsb.keeps sub) rfl rfl fun h₁' Hu => ?_
    repeat walk_at "m"
    refine wpAny_tests_nil ?_
    repeat walk_at "m"
    rename_i T h₂' Hv
    obtain ⟨Z₂', s₂', Hw, hT⟩ := Hv.frzT
    have hyl : ys.length ≤ 1000 := by rw [← hys.length]; exact Nat.le_trans (List.length_take_le' _ _) hasl
    refine o_append Hw (by walk_at "turn") (fun h₃' Hx => ?_) (Nat.le_trans hyl (by decide))
    refine' Next.mk ?Hg1 (sub.trans s₂') ?Jg1
    case Hg1 => exact Hx
    rw [hJJ6]
    refine ⟨rfl, _, _, rfl, ?_⟩
    rw [List.take_add_one, List.getElem?_map, hz, Option.map_some, Option.toList_some]
    have htv : TupV Z₂' (asideOf z) (.ref T) := ⟨T, _, _, _, _, _, rfl, hT⟩
    exact Paired.append (Paired.mono (TupV.keeps s₂') hys) (.cons htv .nil)
  case last6 =>
  rintro Z₂₄ l' h₆₄ gz t₆₄ s24 hj6 H₆₄
  rw [hJJ6] at hj6
  obtain ⟨rfl, mC6, ys6, rfl, hys6⟩ := hj6
  refine post_none H₆₄ fun h₆₅ H₆₅ => ?_
  rw [List.take_of_length_le (by rw [List.length_map, hsv2.length]; exact Nat.le_refl _)] at hys6
  have G₂₄ := G₂₃.keeps s24
  repeat walk_at "m"
  have hsok : YOk ((laid beside 0).map asideOf) := aside_ok _ (laid_chars _ _ hok3)
  have hr5 := H₆₅.readsL (a := D₅) (by walk_at "mem") (readsAll_tups (fun b o e => H₆₅.keep _ _ (s24 _ _ (s23 _ _ e))) hys5)
  have hr6 := H₆₅.readsL (a := D₆) (by walk_at "mem") (readsAll_tups (fun b o e => H₆₅.keep _ _ e) hys6)
  refine eq_dataH hr5 hr6 (shaped_tups hsok) (shaped_tups hsok) (ok'.units (by omega)) ?_
  rw [eqv_tups hsok]
  repeat walk_at "m"
  refine BoolOp_one ?_
  repeat walk_at "m"
  obtain ⟨od6, ed6, kf6, kr6, hsd6⟩ := H₆₅.here _ (.tail _ (.tail _ (.tail _ (.head _))))
  have s4_24 : Sub Z₄ Z₂₄ := s4_15.trans (s15_19.trans (s20.trans (s21.trans (s22.trans (s23.trans s24)))))
  have hy24 : ∃ o, h₆₅.get? y = some o ∧ IsIn 100 dy [] o := let ⟨o, e, p⟩ := hyi'; ⟨o, H₆₅.keep _ _ (s24 _ _ (s23 _ _ (s22 _ _ (s21 _ _ (s20 _ _ (s15_19 _ _ (s15 _ _ (s11_14 _ _ (s11 _ _ e))))))))), p⟩
  have K24 := (G₂₄.at H₆₅).K
  refine get_dictH K24 hy24 ⟨od6, ed6, hsd6⟩ (by exact rfl) (by kernel_rfl) (by kernel_rfl) (by exact rfl) (by kernel_rfl) (by rfl) fun _ => ?_
  repeat walk_at "m"
  refine get_dictH K24 hy24 ⟨od6, ed6, hsd6⟩ (by exact rfl) (by kernel_rfl) (by kernel_rfl) (by exact rfl) (by kernel_rfl) (by rfl) fun _ => ?_
  repeat walk_at "m"
  rename_i T₆ h₆₆ H₆₆ u₆ t₆ u₇ t₇
  obtain ⟨Z₂₅, s25, H₆₇, hT6⟩ := H₆₆.frzT
  have G₂₅ := G₂₄.keeps s25
  refine o_lenZ H₆₇ (hl3.keeps (s4_24.trans s25)).isList (Nat.le_trans (by omega : bvs.length ≤ 10) (by decide)) fun t₈ t₉ => ?_
  rw [show (bvs.length : Int) = (beside.length : Int) by rw [hp3.length]]
  repeat walk_at "m"
  rename_i T₇ h₆₈ H₆₈
  obtain ⟨Z₂₆, s26, H₆₉, hT7⟩ := H₆₈.frzT
  have hown : PyData.strOk (Str.ofString "own.c") = true := by decide +kernel
  refine eq_dataH (reads_pair (fun b o e => H₆₉.keep _ _ (s26 _ _ e)) hT6) (reads_pair (fun b o e => H₆₉.keep _ _ e) hT7) (shaped_pair hown) (shaped_pair hown) (ok'.units (by omega)) ?_
  rw [eqv_pair hown]
  refine hq _ _ _ _ (s1.trans (s2.trans (s3.trans (s4_24.trans (s25.trans s26))))) (H₆₉.drop 7) fun k y hk => ?_
  rcases hG₂.2 k y hk with h | ⟨p, hp, e⟩
  · exact h
  · rw [List.mem_singleton.mp hp] at e
    subst e
    exact Option.some.inj (hk.symm.trans (hG₂.1 _ (.head _)))
end
end TMF7
end W
end Mine
set_option maxHeartbeats 8000000 in
theorem PySem.Challenge.cw_te0070_01_holds : PySem.Challenge.rw_te0070_01.Holds := by
  refine Mine.hd (by
    intro w s₀ s₁ mg mb G Y fa o pm cd doc dV kV ho hod hcd hD hmg hg args vals as hpre hlay hrd hwl hlo
    have KX : (Mine.KK w.params).In s₁.heap := kIn_of Y
    have T := topRead_of G.T
    have hfa : (some (Value.ref fa) : Option Value) = some (.ref 154) := hmg.symm.trans (mg_of KX T.g (by exact rfl))
    obtain rfl : fa = 154 := Value.ref.inj (Option.some.inj hfa)
    have Gz : Mine.Gd w s₁.heap := ⟨KX, ⟨_, T.g⟩, ⟨_, T.b, T.builtins⟩, T.nolimit⟩
    clear ho hod hcd hD hmg hfa T KX G Y
    wrow_args hpre hlay hrd hwl hlo
    rename_i xs h1 h2 h3 h4 h5 a4 a3 sc svs a0 hL ra w1 r0 hI hr hc1 hc2
    obtain ⟨h, g, d, t, o⟩ := s₁
    show wpAny _ _ (call (.ref 154) [.ref sc]) _ _ _
    refine wpAny_call (Mine.c_law (l := []) Mine.Ok.caller Gz ⟨fun _ _ e => e, (by intro q hq; cases hq), (by intro q hq; cases hq), List.nodup_nil⟩ hL hI (by omega) hg (fun Z' h' t' g' s H hfin => ?_) (by decide))
    refine ⟨.inl ⟨_, .bool true, [], rfl, ?hr, .bool true, ?hp, ?hu⟩, .of_keep fun b o e => H.keep _ _ (s _ _ e), rfl, fun y hy => ?hb⟩
    case hr => intro cls; rfl
    case hu => intro _; exact ⟨.nil, by intro a ha; cases ha⟩
    case hb =>
      obtain ⟨i, hi⟩ := Array.mem_iff_getElem?.mp hy
      rw [hfin i y hi]; rfl
    case hp => wrow_post)
