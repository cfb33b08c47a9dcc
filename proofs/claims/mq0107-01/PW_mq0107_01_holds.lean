import PyProof.Rows.All
import Wide.All
import OpenK.AllK
import Wide.FinOn
import Lean
import PySem.Challenge.RW_mq0107_01
open PySem PySem.W PyProof.Rows
set_option Elab.async false
set_option maxRecDepth 100000
set_option maxHeartbeats 4000000
set_option autoImplicit false
namespace Mine
open PySem.Calls
open_top hd for PySem.Challenge.rw_mq0107_01
abbrev PG : Program := PySem.Challenge.rw_mq0107_01.prog
noncomputable abbrev KK (w : World) : Frag := hd.heap_39 w.params
abbrev Own := List (Addr × Obj)
def Sub (g g' : Heap) : Prop := ∀ b o, g.get? b = some o → g'.get? b = some o
theorem Sub.refl (g : Heap) : Sub g g := fun _ _ e => e
theorem Sub.trans {a b c : Heap} (h : Sub a b) (k : Sub b c) : Sub a c := fun x o e => k x o (h x o e)

/-- the names' table at L holds m, and perhaps more -/
def NsP (h : Heap) (L : Addr) (m : Str → Option Value) : Prop := ∃ m₀, h.Ns L m₀ ∧ ∀ x v, m x = some v → m₀ x = some v
theorem NsP.of {h : Heap} {L : Addr} {m : Str → Option Value} (n : h.Ns L m) : NsP h L m := ⟨m, n, fun _ _ e => e⟩
theorem NsP.keeps {h h' : Heap} {L : Addr} {m : Str → Option Value} (n : NsP h L m) (hs : Sub h h') : NsP h' L m := let ⟨m₀, a, b⟩ := n; ⟨m₀, a.keeps hs, b⟩
theorem NsP.lt {h : Heap} {L : Addr} {m : Str → Option Value} (n : NsP h L m) : L < h.objs.size := let ⟨_, a, _⟩ := n; a.lt
/-- the frame at L with the locals m; g: what never turns; own: what may turn (mine first, the callers' behind) -/
structure Fx (g : Heap) (L : Addr) (h : Heap) (m : Str → Option Value) (own : Own) : Prop where
  ns : NsP h L m
  keep : Sub g h
  hid : g.get? L = none
  ow : ∀ p ∈ own, h.get? p.1 = some p.2 ∧ p.1 ≠ L ∧ g.get? p.1 = none
  nd : (own.map (·.1)).Nodup

section
variable {g g' h h' : Heap} {L : Addr} {m m' : Str → Option Value} {own r : Own} {p q : Addr × Obj} {a : Addr} {o o' : Obj}
theorem Fx.set (F : Fx g L h m own) (hn : NsP h' L m') (hs : Heap.SameBut L h h') : Fx g L h' m' own :=
  ⟨hn, fun b o e => (hs.2 b (fun z => by subst z; rw [F.hid] at e; cases e)).trans (F.keep b o e), F.hid,
    fun p hp => ⟨(hs.2 p.1 (F.ow p hp).2.1).trans (F.ow p hp).1, (F.ow p hp).2⟩, F.nd⟩
theorem Fx.ext (F : Fx g L h m own) (hs : Sub h h') : Fx g L h' m own :=
  ⟨F.ns.keeps hs, F.keep.trans hs, F.hid, fun p hp => ⟨hs _ _ (F.ow p hp).1, (F.ow p hp).2⟩, F.nd⟩
theorem Fx.push (F : Fx g L h m own) (o : Obj) : Fx g L (h.push o) m own := F.ext fun _ _ e => Heap.get?_push_of_some _ e
theorem Fx.lt (F : Fx g L h m own) : L < h.objs.size := F.ns.lt
theorem Fx.glt (F : Fx g L h m own) {b : Addr} {o : Obj} (e : g.get? b = some o) : b < h.objs.size := Heap.lt_size (F.keep b o e)
theorem Fx.new (F : Fx g L h m own) : g.get? h.objs.size = none := by
  cases q : g.get? h.objs.size with
  | none => rfl
  | some o => exact absurd (F.glt q) (Nat.lt_irrefl _)
theorem Fx.pushOwn (F : Fx g L h m own) (o : Obj) (hf : o.isFreed = false := by rfl) : Fx g L (h.push o) m ((h.objs.size, o) :: own) := by
  refine ⟨(F.push o).ns, (F.push o).keep, F.hid, fun p hp => ?_, ?_⟩
  · rcases List.mem_cons.mp hp with rfl | hp
    · exact ⟨Heap.get?_push_size _ hf, Nat.ne_of_gt F.lt, F.new⟩
    · exact (F.push o).ow p hp
  · rw [List.map_cons]
    refine List.nodup_cons.mpr ⟨fun hm => ?_, F.nd⟩
    obtain ⟨p, hp, e⟩ := List.mem_map.mp hm
    have := Heap.lt_size (F.ow p hp).1
    rw [e] at this
    exact Nat.lt_irrefl _ this
theorem Fx.weak (F : Fx g L h m own) (hm : ∀ x v, m' x = some v → m x = some v) : Fx g L h m' own :=
  ⟨let ⟨m₀, a, b⟩ := F.ns; ⟨m₀, a, fun x v e => b x v (hm x v e)⟩, F.keep, F.hid, F.ow, F.nd⟩
theorem Fx.drop (F : Fx g L h m (p :: own)) : Fx g L h m own :=
  ⟨F.ns, F.keep, F.hid, fun q hq => F.ow q (.tail _ hq), (List.nodup_cons.mp F.nd).2⟩
theorem Fx.perm (F : Fx g L h m own) (e : own.Perm r) : Fx g L h m r :=
  ⟨F.ns, F.keep, F.hid, fun q hq => F.ow q (e.mem_iff.mpr hq), (e.map (·.1)).nodup_iff.mp F.nd⟩
theorem Fx.swap (F : Fx g L h m (p :: q :: own)) : Fx g L h m (q :: p :: own) := F.perm (.swap ..)
theorem Fx.rot3 {x : Addr × Obj} (F : Fx g L h m (p :: q :: x :: own)) : Fx g L h m (x :: p :: q :: own) :=
  F.perm ((List.Perm.cons p (.swap ..)).trans (.swap ..))
theorem Fx.head (F : Fx g L h m ((a, o) :: own)) : h.get? a = some o := (F.ow _ (.head _)).1
theorem Fx.at (F : Fx g L h m own) (hp : (a, o) ∈ own) : h.get? a = some o := (F.ow _ hp).1
theorem Fx.upd (F : Fx g L h m ((a, o) :: own)) (hs : Heap.SameBut a h h') (e : h'.get? a = some o') : Fx g L h' m ((a, o') :: own) := by
  have H := F.ow _ (.head _)
  refine ⟨?_, fun b x q => (hs.2 b fun z => ?_).trans (F.keep b x q), F.hid, fun p hp => ?_, F.nd⟩
  · obtain ⟨m₀, n1, n2⟩ := F.ns
    exact ⟨m₀, n1.sameBut hs (Ne.symm H.2.1), n2⟩
  · subst z; rw [H.2.2] at q; cases q
  · rcases List.mem_cons.mp hp with rfl | hp
    · exact ⟨e, H.2⟩
    · have P := F.ow p (.tail _ hp)
      refine ⟨(hs.2 p.1 fun z => ?_).trans P.1, P.2⟩
      have hm : p.1 ∈ own.map (·.1) := List.mem_map_of_mem hp
      rw [z] at hm
      exact (List.nodup_cons.mp F.nd).1 hm
/-- the world without what may turn -/
theorem Fx.snap (F : Fx g L h m own) : ∃ g', Sub g g' ∧ Fx g' L h m own ∧ (∀ b o, h.get? b = some o → b ≠ L → b ∉ own.map (·.1) → g'.get? b = some o) := by
  refine ⟨hideAll h (L :: own.map (·.1)), fun b o e => ?_, ⟨F.ns, fun b o e => of_hideAll _ e, hideAll_none _ (.head _), fun p hp => ?_, F.nd⟩, fun b o e h1 h2 => ?_⟩
  · refine hideAll_get _ (F.keep b o e) fun q => ?_
    rcases List.mem_cons.mp q with rfl | q
    · rw [F.hid] at e; cases e
    · obtain ⟨p, hp, rfl⟩ := List.mem_map.mp q
      rw [(F.ow p hp).2.2] at e; cases e
  · exact ⟨(F.ow p hp).1, (F.ow p hp).2.1, hideAll_none _ (.tail _ (List.mem_map_of_mem hp))⟩
  · exact hideAll_get _ e fun q => by
      rcases List.mem_cons.mp q with rfl | q
      · exact h1 rfl
      · exact h2 q
/-- what turned so far and turns no more -/
theorem Fx.freeze (F : Fx g L h m (p :: own)) : ∃ g', Sub g g' ∧ Fx g' L h m own ∧ g'.get? p.1 = some p.2 := by
  obtain ⟨g', h1, h2, h3⟩ := F.drop.snap
  have P := F.ow p (.head _)
  exact ⟨g', h1, h2, h3 _ _ P.1 P.2.1 (List.nodup_cons.mp F.nd).1⟩
theorem Fx.freezeK (F : Fx g L h m (p :: own)) {G : Prop} (k : ∀ g', Sub g g' → Fx g' L h m own → g'.get? p.1 = some p.2 → G) : G := let ⟨g', a, b, c⟩ := F.freeze; k g' a b c
theorem Fx.pushG (F : Fx g L h m own) (o : Obj) (hf : o.isFreed = false := by rfl) : ∃ g', Sub g g' ∧ Fx g' L (h.push o) m own ∧ g'.get? h.objs.size = some o :=
  (F.pushOwn o hf).freeze
/-- into a call: the caller's frame is what the callee must leave -/
theorem Fx.enter {L' : Addr} (F : Fx g L h m own) (hs : Sub h h') (hn : NsP h' L' m') (hL : L' = h.objs.size) :
    ∃ oL, Fx g L' h' m' ((L, oL) :: own) ∧ ∀ g₁ h₁ m₁ {own' : Own}, Fx g₁ L' h₁ m₁ ((L, oL) :: own') → Fx g₁ L h₁ m own' := by
  subst hL
  obtain ⟨m₀, ⟨oL, es, ep, hL, r⟩, hm⟩ := id F.ns
  refine ⟨oL, ⟨hn, F.keep.trans hs, F.new, fun p hp => ?_, ?_⟩, fun g₁ h₁ m₁ own' F₁ => ?_⟩
  · rcases List.mem_cons.mp hp with rfl | hp
    · exact ⟨hs _ _ hL, Nat.ne_of_lt F.lt, F.hid⟩
    · have P := F.ow p hp
      exact ⟨hs _ _ P.1, Nat.ne_of_lt (Heap.lt_size P.1), P.2.2⟩
  · rw [List.map_cons]
    refine List.nodup_cons.mpr ⟨fun hm => ?_, F.nd⟩
    obtain ⟨p, hp, e⟩ := List.mem_map.mp hm
    exact (F.ow p hp).2.1 e
  · have P := F₁.ow _ (.head _)
    exact ⟨⟨m₀, ⟨oL, es, ep, P.1, r⟩, hm⟩, F₁.keep, P.2.2, fun p hp => ⟨(F₁.ow p (.tail _ hp)).1, fun z => (List.nodup_cons.mp F₁.nd).1 (by have q : p.1 ∈ own'.map (·.1) := List.mem_map_of_mem hp; rw [z] at q; exact q), (F₁.ow p (.tail _ hp)).2.2⟩, (List.nodup_cons.mp F₁.nd).2⟩
end

/-- the room that a run has -/
structure Rm (A : Around) (d : Nat) : Prop where
  handled : A.handled = none
  depth : A.depth + d < 1000
  units : A.units + 10 * d < 9900
theorem Rm.in {A : Around} {d : Nat} (R : Rm A (d + 1)) (env : Env) : Rm (A.deeper env) d :=
  ⟨R.handled, by have := R.depth; show A.depth + 1 + d < 1000; lia, by have := R.units; show A.units + 3 + 10 * d < 9900; lia⟩
theorem Rm.le {A : Around} {d e : Nat} (R : Rm A d) (h : e ≤ d) : Rm A e := ⟨R.handled, by have := R.depth; lia, by have := R.units; lia⟩
theorem Rm.room {A : Around} {d : Nat} (R : Rm A d) : A.depth < recursionLimit := by have := R.depth; show A.depth < 1000; lia
theorem Rm.line {A : Around} {d : Nat} (R : Rm A d) : A.units < cLine := by have := R.units; show A.units < 9900; lia

/-- what the top has left, at g -/
structure Wd (w : World) (g : Heap) : Prop where
  K : (KK w).In g
  b : ∃ mb, g.Ns builtinsNs mb ∧ ∀ x : Str, x ≠ "__name__" → mb x = bootBuiltins x
  lim : g.NoLimit
  g : ∃ mg, g.Ns mainGlobals mg
theorem Wd.mono {w : World} {g g' : Heap} (W : Wd w g) (h : Sub g g') : Wd w g' :=
  ⟨W.K.keeps h, let ⟨mb, h1, h2⟩ := W.b; ⟨mb, h1.keeps h, h2⟩, W.lim.keeps h, let ⟨mg, h1⟩ := W.g; ⟨mg, h1.keeps h⟩⟩

abbrev mp (l : List (Str × Value)) : Str → Option Value := fun y => l.lookup y
def put (x : Str) (v : Value) : List (Str × Value) → List (Str × Value)
  | [] => [(x, v)]
  | p :: r => if x == p.1 then (x, v) :: r else p :: put x v r
theorem beq_no {x y : Str} (h : ¬ x = y) : (x == y) = false := by simpa using h
theorem put_lookup (x : Str) (v : Value) (y : Str) : ∀ l, (put x v l).lookup y = if y = x then some v else l.lookup y
  | [] => by
    unfold put
    rw [List.lookup_cons]
    by_cases h : y = x
    · simp [h]
    · simp [h, beq_no h]
  | p :: r => by
    unfold put
    by_cases hx : x = p.1
    · rw [if_pos (by simp [hx]), List.lookup_cons, List.lookup_cons]
      by_cases h : y = x
      · simp [h]
      · have h2 : ¬ y = p.1 := hx ▸ h
        simp [h, beq_no h, beq_no h2]
    · rw [if_neg (by simpa using hx), List.lookup_cons, List.lookup_cons, put_lookup x v y r]
      by_cases h : y = x
      · subst h
        simp [beq_no hx]
      · simp [h]
theorem mp_put (x : Str) (v : Value) (l : List (Str × Value)) : (fun y => if y = x then some v else mp l y) = mp (put x v l) := by
  funext y; exact (put_lookup x v y l).symm

theorem lookup_take (l : List (Str × Value)) (n : Nat) (x : Str) (v : Value) (h : (l.take n).lookup x = some v) : l.lookup x = some v := by
  induction l generalizing n with
  | nil => simpa using h
  | cons p r ih =>
    cases n with
    | zero => simp at h
    | succ n =>
      rw [List.take_succ_cons, List.lookup_cons] at h
      rw [List.lookup_cons]
      split at h
      · exact h
      · exact ih n h
theorem Fx.take {g h : Heap} {L : Addr} {l : List (Str × Value)} {own : Own} (n : Nat) (F : Fx g L h (mp l) own) : Fx g L h (mp (l.take n)) own := F.weak (lookup_take l n)
section
variable {w : World} {A : Around} {E : Value → Shared → Prop} {s : Shared} {env : Env} {g : Heap} {L : Addr} {own : Own} {l : List (Str × Value)} {m : Str → Option Value}
abbrev Mo (w : World) : Model := model PG w

theorem r_name {x : Str} {pos : Pos} {v : Value} {Q : Value → Shared → Prop} (F : Fx g env.locals s.heap m own) (hv : m x = some v) (h : Q v s)
    (hk : env.scope.kind = .function := by rfl) (hl : env.kindOf x = some .local := by rfl) (hd : (x == ("__debug__" : Str)) = false := by decide) :
    wpAny (Mo w) A (eval (.Name x pos) env) Q E s := let ⟨_, n1, n2⟩ := F.ns; wpAny_Name (wpAny_loadName_local hk hl n1 (n2 _ _ hv) h) hd
theorem r_load {x : Str} {v : Value} {Q : Value → Shared → Prop} (F : Fx g env.locals s.heap m own) (hv : m x = some v) (h : Q v s)
    (hk : env.scope.kind = .function := by rfl) (hl : env.kindOf x = some .local := by rfl) :
    wpAny (Mo w) A (loadName env x) Q E s := let ⟨_, n1, n2⟩ := F.ns; wpAny_loadName_local hk hl n1 (n2 _ _ hv) h
theorem r_store {x : Str} {v : Value} {Q : Unit → Shared → Prop} (F : Fx g env.locals s.heap (mp l) own)
    (h : ∀ h', Fx g env.locals h' (mp (put x v l)) own → Q () { s with heap := h', toks := s.toks + 1 })
    (hk : env.scope.kind = .function := by rfl) (hl : env.kindOf x = some .local := by rfl) :
    wpAny (Mo w) A (storeName env x v) Q E s :=
  let ⟨m₀, n1, n2⟩ := F.ns
  wpAny_storeName_local hl n1 (fun h' hn hs => h h' (F.set ⟨_, hn, fun y u e => by
    rw [← mp_put] at e
    by_cases hy : y = x
    · simpa [hy] using e
    · simp only [if_neg hy] at e ⊢
      exact n2 _ _ e⟩ hs)) (by rw [hk]; rfl)
theorem r_global {x : Str} {pos : Pos} {v : Value} {Q : Value → Shared → Prop} (F : Fx g env.locals s.heap m own) (W : Wd w g) (hv : nsIn (KK w) mainGlobals x = some (some v)) (h : Q v s)
    (hg : env.globals = mainGlobals := by rfl) (hk : env.scope.kind = .function := by rfl) (hl : env.kindOf x = some .globalImplicit := by rfl) (hd : (x == ("__debug__" : Str)) = false := by decide) :
    wpAny (Mo w) A (eval (.Name x pos) env) Q E s := by
  have X := W.K.keeps F.keep
  obtain ⟨mg, G⟩ := W.g
  have G := G.keeps F.keep
  exact Name_function_global hk hl (loadGlobal_global (hg ▸ G) (mg_of X G hv) h) hd
end
/-- a text by its signs -/
def S (t : List Nat) : Str := ⟨t.toArray⟩
theorem S_len (t : List Nat) : (S t).length = t.length := by show t.toArray.size = _; simp
theorem S_cat (a b : List Nat) : S a ++ S b = S (a ++ b) := by
  show (⟨a.toArray ++ b.toArray⟩ : Str) = ⟨(a ++ b).toArray⟩
  simp
theorem S_inj {a b : List Nat} : S a = S b ↔ a = b := by
  unfold S
  constructor
  · intro h
    have := congrArg (fun x : Str => x.cps.toList) h
    simpa using this
  · intro h; rw [h]
theorem S_beq (a b : List Nat) : (S a == S b) = decide (a = b) := by
  by_cases h : a = b
  · subst h; simp
  · simp [h, beq_no (fun q => h (S_inj.mp q))]
theorem S_quote : Str.ofString "\"" = S [34] := by decide +kernel
theorem S_slash : Str.ofString "\\" = S [92] := by decide +kernel
theorem S_comma : Str.ofString "," = S [44] := by decide +kernel
theorem S_z : Str.ofString "z" = S [122] := by decide +kernel
theorem S_nil : Str.ofString "" = S [] := by decide +kernel

section
variable {w : World} {A : Around} {E : Value → Shared → Prop} {s : Shared} {env : Env} {g : Heap} {L : Addr} {own : Own} {l : List (Str × Value)} {m : Str → Option Value}

theorem r_builtin {x : Str} {pos : Pos} {v : Value} {Q : Value → Shared → Prop} (F : Fx g L s.heap m own) (W : Wd w g) (hv : nsIn (KK w) mainGlobals x = some none)
    (hb : bootBuiltins x = some v) (hx : x ≠ "__name__") (h : Q v s)
    (hg : env.globals = mainGlobals := by rfl) (hbn : env.builtins = builtinsNs := by rfl) (hk : env.scope.kind = .function := by rfl) (hl : env.kindOf x = some .globalImplicit := by rfl) (hd : (x == ("__debug__" : Str)) = false := by decide) :
    wpAny (Mo w) A (eval (.Name x pos) env) Q E s := by
  have X := W.K.keeps F.keep
  obtain ⟨mg, G⟩ := W.g
  have G := G.keeps F.keep
  obtain ⟨mb, B, hB⟩ := W.b
  have B := B.keeps F.keep
  exact Name_function_global hk hl (loadGlobal_builtin (hg ▸ G) (mg_none_of X G hv) (hbn ▸ B) ((hB x hx).trans hb) h) hd

/-- a call by a name: what the name holds, then the arguments, then the call -/
theorem r_callB {x : Str} {p pos : Pos} {args : List Expr} {id : String} {x0 : Sem Value} {r0 : List (Bool × Sem Value)} {Q : Value → Shared → Prop}
    (hf : ∀ Q' : Value → Shared → Prop, Q' (.builtin id) s → wpAny (Mo w) A (eval (.Name x p) env) Q' E s)
    (h : wpAny (Mo w) A (spliced (backTo pos (starEach args env))) (fun vs s₁ => wpAny (Mo w) A (call (.builtin id) vs) Q E s₁) E s)
    (ha : backTo pos (starEach args env) = (false, x0) :: r0 := by rfl) (hp : (backTo pos (starEach args env)).any (·.1) = false := by rfl) :
    wpAny (Mo w) A (eval (.Call (.Name x p) args [] pos) env) Q E s := by
  refine wpAny_Call_NameR (hf _ (callWith_builtin hp ?_))
  rw [ha] at h ⊢
  exact evalArgs_plain h
theorem r_callT {x : Str} {p pos : Pos} {args : List Expr} {T : String} {x0 : Sem Value} {r0 : List (Bool × Sem Value)} {Q : Value → Shared → Prop}
    (hf : ∀ Q' : Value → Shared → Prop, Q' (.type T) s → wpAny (Mo w) A (eval (.Name x p) env) Q' E s)
    (h : wpAny (Mo w) A (spliced (backTo pos (starEach args env))) (fun vs s₁ => wpAny (Mo w) A (call (.type T) vs) Q E s₁) E s)
    (ha : backTo pos (starEach args env) = (false, x0) :: r0 := by rfl) (hp : (backTo pos (starEach args env)).any (·.1) = false := by rfl) :
    wpAny (Mo w) A (eval (.Call (.Name x p) args [] pos) env) Q E s := by
  refine wpAny_Call_NameR (hf _ (callWith_excType hp ?_))
  rw [ha] at h ⊢
  exact evalArgs_plain h
theorem r_callF {x : Str} {p pos : Pos} {args : List Expr} {a : Addr} {o : Obj} {fd : FuncData} {x0 : Sem Value} {r0 : List (Bool × Sem Value)} {Q : Value → Shared → Prop}
    (hf : ∀ Q' : Value → Shared → Prop, Q' (.ref a) s → wpAny (Mo w) A (eval (.Name x p) env) Q' E s)
    (h : wpAny (Mo w) A (spliced (backTo pos (starEach args env))) (fun vs s₁ => (s₁.heap.get? a = some o ∧ o.data = .func fd) ∧ wpAny (Mo w) A (call (.ref a) vs) Q E s₁) E s)
    (ha : backTo pos (starEach args env) = (false, x0) :: r0 := by rfl) :
    wpAny (Mo w) A (eval (.Call (.Name x p) args [] pos) env) Q E s := by
  refine wpAny_Call_NameR (hf _ (callWith_function (o := o) (fd := fd) ?_))
  rw [ha] at h ⊢
  exact evalArgs_plain h

theorem r_len_str {t : List Nat} {u : Tok} {Q : Value → Shared → Prop} (hl : t.length ≤ 1000) (h : ∀ k tk, Q (.int t.length k) { s with toks := tk }) :
    wpAny (Mo w) A (call (.builtin "len") [.str (S t) u]) Q E s := by
  refine len_str (by rw [S_len]; lia) ?_
  rw [S_len]; exact h _ _

theorem r_item_str {value slice : Expr} {t : List Nat} {u ui : Tok} {i : Int} {c : Nat} {Q : Value → Shared → Prop} (h0 : 0 ≤ i) (hl : t.length ≤ 1000) (hc : t[i.toNat]? = some c)
    (h : Q (.str (S [c]) s.toks) { s with toks := s.toks + 1 })
    (hs : subscripted slice false (.str (S t) u) (.int i ui) = operate [.str (S t) u, .int i ui] (getItem (.str (S t) u) (.int i ui)) := by with_unfolding_all rfl)
    (ht : ∀ r, letTemporaryGo value (.str (S t) u) r = pure () := by intro _; with_unfolding_all rfl) :
    wpAny (Mo w) A (subscriptTail value slice (.str (S t) u) (.int i ui)) Q E s := by
  have hi : i.toNat < t.length := (List.getElem?_eq_some_iff.mp hc).1
  have e : Txt.item (S t) i = S [c] := by
    unfold Txt.item Txt.charAt
    have hq : seqIndex? i (S t).length = some i.toNat := by
      rw [S_len]; unfold seqIndex?
      simp only [if_neg (show ¬ i < 0 by lia)]
      rw [if_pos (by simp; lia)]
    rw [hq]
    show (⟨#[(t.toArray[i.toNat]?).getD 0]⟩ : Str) = ⟨#[c]⟩
    simp [hc]
  refine item_str (by unfold fitsSsize; simp; lia) (by rw [S_len]; lia) (by rw [S_len]; lia) (fun _ => ?_) hs ht
  rw [e]; exact h

theorem r_eq_str {a b : List Nat} {t u : Tok} {Q : Value → Shared → Prop} (h : Q (.bool (decide (a = b))) s) : wpAny (Mo w) A (compareOp .Eq (.str (S a) t) (.str (S b) u)) Q E s :=
  eq_str (by rw [S_beq]; exact h)
theorem r_ne_str {a b : List Nat} {t u : Tok} {Q : Value → Shared → Prop} (h : Q (.bool (!decide (a = b))) s) : wpAny (Mo w) A (compareOp .NotEq (.str (S a) t) (.str (S b) u)) Q E s :=
  ne_str (by show Q (.bool (!(S a == S b))) s; rw [S_beq]; exact h)
theorem one_eq (c d : Nat) : decide ([c] = [d]) = (c == d) := by by_cases h : c = d <;> simp [h]
theorem r_eq_quote {c : Nat} {t u : Tok} {Q : Value → Shared → Prop} (h : Q (.bool (c == 34)) s) : wpAny (Mo w) A (compareOp .Eq (.str (S [c]) t) (.str (Str.ofString "\"") u)) Q E s := by
  rw [S_quote]; exact r_eq_str (by rw [one_eq]; exact h)
theorem r_ne_quote {c : Nat} {t u : Tok} {Q : Value → Shared → Prop} (h : Q (.bool (!(c == 34))) s) : wpAny (Mo w) A (compareOp .NotEq (.str (S [c]) t) (.str (Str.ofString "\"") u)) Q E s := by
  rw [S_quote]; exact r_ne_str (by rw [one_eq]; exact h)
theorem r_eq_slash {c : Nat} {t u : Tok} {Q : Value → Shared → Prop} (h : Q (.bool (c == 92)) s) : wpAny (Mo w) A (compareOp .Eq (.str (S [c]) t) (.str (Str.ofString "\\") u)) Q E s := by
  rw [S_slash]; exact r_eq_str (by rw [one_eq]; exact h)
theorem r_eq_comma {c : Nat} {t u : Tok} {Q : Value → Shared → Prop} (h : Q (.bool (c == 44)) s) : wpAny (Mo w) A (compareOp .Eq (.str (S [c]) t) (.str (Str.ofString ",") u)) Q E s := by
  rw [S_comma]; exact r_eq_str (by rw [one_eq]; exact h)
theorem r_min {a b : Int} {t u : Tok} {Q : Value → Shared → Prop} {d : Nat} (F : Fx g L s.heap m own) (R : Rm A d) (h : ∀ k h' tk, Fx g L h' m own → Q (.int (min a b) k) { s with heap := h', toks := tk }) :
    wpAny (Mo w) A (call (.builtin "min") [.int a t, .int b u]) Q E s := by
  refine min_two_ints R.handled fun h' tk hk => ?_
  by_cases c : b < a
  · rw [if_pos c]
    have := h u h' tk (F.ext hk)
    rwa [show min a b = b by lia] at this
  · rw [if_neg c]
    have := h t h' tk (F.ext hk)
    rwa [show min a b = a by lia] at this

/-- a while by a measure -/
theorem r_while {test : Expr} {body : List Stmt} {pos : Pos} {Q : Flow → Shared → Prop} (I : Nat → Shared → Prop) (n : Nat) (h : I n s)
    (turn : ∀ n s, I n s → wpAny (Mo w) A (isTrue test env (eval test env)) (fun b s₂ =>
        if b then wpAny (Mo w) A (execs body env) (fun f s₃ => match f with
            | .next | .cont => ∃ m, m < n ∧ I m s₃
            | .brk => Q .next s₃
            | .ret v => Q (.ret v) s₃) (fun _ _ => False) s₂
        else Q .next s₂) (fun _ _ => False) s) :
    wpAny (Mo w) A (exec (.While test body [] pos) env) Q (fun _ _ => False) s := by
  refine wpAny_While (codeAny_whileLoop I (fun n s hI => ?_) n h)
  refine wpAny_mono (turn n s hI) (fun b s₂ h₂ => ?_) fun _ _ x => x.elim
  cases b with
  | false =>
    simp only [Bool.false_eq_true, if_false] at h₂ ⊢
    exact wpAny_execs_nil h₂
  | true =>
    simp only [if_true] at h₂ ⊢
    exact wpAny_mono h₂ (fun f s₃ h₃ => by cases f <;> exact h₃) fun _ _ x => x.elim

/-- a call of a def without cells -/
theorem r_enter {f : Addr} {o : Obj} {fd : FuncData} {body : List Stmt} {vs : List Value} {binds : List (Str × Value)} {d : Nat} {Q : Value → Shared → Prop}
    (F : Fx g L s.heap m own) (R : Rm A (d + 1)) (W : Wd w g) (ho : g.get? f = some o) (hd : o.data = .func fd) (hc : g.CodeRec fd.code fd.qualname) (hb : fd.body = .stmts body)
    (hbind : BindsTo s fd ⟨vs, []⟩ binds) (hcell : ∀ x ∈ fd.scope.names, x.2 ≠ .cell) (hloc : ∀ x ∈ binds, fd.scope.names.lookup x.1 = some .local)
    (hco : fd.scope.isCoroutine = false) (hgen : fd.scope.isGenerator = false) (hk : fd.scope.kind = .function)
    (h : ∀ L' h₁ oL, Rm (A.deeper (callEnv fd L' f)) d → Fx g L' h₁ (mp binds.reverse) ((L, oL) :: own) → (∀ g₁ h₁ m₁ {own' : Own}, Fx g₁ L' h₁ m₁ ((L, oL) :: own') → Fx g₁ L h₁ m own') →
      wpAny (Mo w) (A.deeper (callEnv fd L' f)) (execs body (callEnv fd L' f)) (fun fl s' => Q (match fl with | .ret v => v | _ => .none) s') (fun _ _ => False) { s with heap := h₁, toks := s.toks + binds.length }) :
    wpAny (Mo w) A (call (.ref f) vs) Q E s := by
  refine wpAny_call (codeAny_call_def R.room (F.keep _ _ ho) hd (W.lim.keeps F.keep) (hc.keeps F.keep) hb hbind hcell hloc (fun h₁ hns hk₁ => ?_) hco hgen hk)
  obtain ⟨oL, F', back⟩ := F.enter hk₁ (NsP.of hns) rfl
  exact wpAny_mono (h _ h₁ oL (R.in _) F' back) (fun _ _ q => q) fun _ _ x => x.elim
end
noncomputable def fdOf (w : World) (a : Addr) : FuncData := match (KK w).lookup a with
  | some ⟨_, _, .func fd, _⟩ => fd
  | _ => default

abbrev lst (vs : List Value) (n : Nat) : Obj := { cls := .type "list", data := .seq vs.toArray n }
abbrev tup (vs : List Value) : Obj := { cls := .type "tuple", data := .seq vs.toArray }
theorem extBut_sub {h h' : Heap} (he : Heap.ExtBut h.objs.size h h') : Sub h h' := fun b o e => he b o (Nat.ne_of_lt (Heap.lt_size e)) e
theorem le_line {n : Nat} (h : n ≤ 1000) : n ≤ sizeLine := Nat.le_trans h (by decide)

def stripF (t : List Nat) : List Nat := (Txt.strip (S t)).cps.toList
theorem S_strip (t : List Nat) : S (stripF t) = Txt.strip (S t) := by
  show (⟨(Txt.strip (S t)).cps.toList.toArray⟩ : Str) = _
  simp
section
variable {w : World} {A : Around} {E : Value → Shared → Prop} {s : Shared} {env : Env} {g : Heap} {L : Addr} {own : Own} {l : List (Str × Value)} {m : Str → Option Value}

/-- a call of a def of the top, by its name -/
theorem r_callK {x : Str} {p pos : Pos} {args : List Expr} {x0 : Sem Value} {r0 : List (Bool × Sem Value)} {oc : Value} {od : Option Addr} {osl : Array (Option Value)} {Q : Value → Shared → Prop} (a : Addr)
    (F : Fx g L s.heap m own) (W : Wd w g) (hv : nsIn (KK w) mainGlobals x = some (some (.ref a))) (ho : (KK w).lookup a = some ⟨oc, od, .func (fdOf w a), osl⟩)
    (h : wpAny (Mo w) A (spliced (backTo pos (starEach args env))) (fun vs s₁ => Sub g s₁.heap ∧ wpAny (Mo w) A (call (.ref a) vs) Q E s₁) E s)
    (ha : backTo pos (starEach args env) = (false, x0) :: r0 := by rfl)
    (hL : env.locals = L := by rfl) (hg : env.globals = mainGlobals := by rfl) (hk : env.scope.kind = .function := by rfl) (hl : env.kindOf x = some .globalImplicit := by rfl) (hd : (x == ("__debug__" : Str)) = false := by decide) :
    wpAny (Mo w) A (eval (.Call (.Name x p) args [] pos) env) Q E s := by
  subst hL
  refine r_callF (a := a) (fun Q' hq => r_global F W hv hq hg hk hl hd) (wpAny_mono h (fun vs s₁ h₁ => ⟨⟨h₁.1 _ _ (W.K _ _ ho), rfl⟩, h₁.2⟩) fun _ _ x => x) ha

theorem S_slice {t : List Nat} {l u : Option Int} {a b : Nat} (hb : b ≤ t.length) (h : Builtin.Str.strSliceIndices l u 1 t.length = (List.range (b - a)).map (a + ·)) :
    Txt.slice (S t) l u = S ((t.drop a).take (b - a)) := by
  unfold Txt.slice
  rw [S_len, h]
  split
  · rename_i hq
    simp only [List.length_map, List.length_range, beq_self_eq_true, Bool.true_and, beq_iff_eq] at hq
    by_cases h0 : t.length = 0
    · have : t = [] := List.length_eq_zero_iff.mp h0
      subst this; simp
    · have ha : a = 0 := by lia
      subst ha
      rw [List.drop_zero, List.take_of_length_le (by lia)]
  · show (⟨(List.filterMap (fun x => t.toArray[x]?) _).toArray⟩ : Str) = _
    rw [pick_run]
    simp [S]
theorem S_slice_ss (t : List Nat) (i j : Int) (hi : 0 ≤ i) (hj : 0 ≤ j) : Txt.slice (S t) (some i) (some j) = S ((t.take j.toNat).drop i.toNat) := by
  rw [S_slice (a := min i.toNat t.length) (b := min j.toNat t.length) (by lia) ?_]
  · congr 1
    rw [List.drop_take]
    by_cases h : i.toNat ≤ t.length
    · rw [Nat.min_eq_left h]
      by_cases h2 : j.toNat ≤ t.length
      · rw [Nat.min_eq_left h2]
      · rw [Nat.min_eq_right (by lia), List.take_of_length_le (by simp), List.take_of_length_le (by simp; lia)]
    · rw [List.drop_eq_nil_of_le (i := i.toNat) (by lia), List.drop_eq_nil_of_le (by lia)]
      simp
  · unfold Builtin.Str.strSliceIndices
    simp only [show (1 : Int) > 0 by decide, if_true, show ¬ i < 0 by lia, show ¬ j < 0 by lia, if_false]
    rw [show max 0 (min i (t.length : Int)) = ((min i.toNat t.length : Nat) : Int) by lia, show max 0 (min j (t.length : Int)) = ((min j.toNat t.length : Nat) : Int) by lia]
    exact sliceRange_one _ _
theorem S_slice_ns (t : List Nat) (j : Int) (hj : 0 ≤ j) : Txt.slice (S t) none (some j) = S (t.take j.toNat) := by
  rw [S_slice (a := 0) (b := min j.toNat t.length) (by lia) ?_]
  · congr 1
    rw [List.drop_zero, Nat.sub_zero]
    by_cases h2 : j.toNat ≤ t.length
    · rw [Nat.min_eq_left h2]
    · rw [Nat.min_eq_right (by lia), List.take_of_length_le (by simp), List.take_of_length_le (by lia)]
  · unfold Builtin.Str.strSliceIndices
    simp only [show (1 : Int) > 0 by decide, if_true, show ¬ j < 0 by lia, if_false]
    rw [show max 0 (min j (t.length : Int)) = ((min j.toNat t.length : Nat) : Int) by lia]
    exact sliceRange_one 0 _

theorem r_slice_ss {h : Heap} {value slice : Expr} {t : List Nat} {u ui uj : Tok} {i j : Int} {a : Addr} {Q : Value → Shared → Prop} (F : Fx g L h m own)
    (he : s.heap = h.push { cls := .type "slice", data := .fields #[.int i ui, .int j uj, .none] }) (ha : a = h.objs.size) (hi : 0 ≤ i) (hj : 0 ≤ j) (hl : t.length ≤ 1000)
    (k : ∀ t' h' tk, Fx g L h' m own → Q (.str (S ((t.take j.toNat).drop i.toNat)) t') { s with heap := h', toks := tk })
    (hs : subscripted slice false (.str (S t) u) (.ref a) = operate [.ref a, .str (S t) u] (getItem (.str (S t) u) (.ref a)) := by with_unfolding_all rfl)
    (ht : ∀ r, letTemporaryGo value (.str (S t) u) r = pure () := by intro _; with_unfolding_all rfl) :
    wpAny (Mo w) A (subscriptTail value slice (.str (S t) u) (.ref a)) Q E s := by
  obtain ⟨hp, g1, d1, t1, o1⟩ := s
  dsimp only at he
  subst he ha
  rw [← S_slice_ss t i j hi hj] at k
  exact tail_of_ItemOn (SBH.sliceItem_ss (P := fun h => Fx g L h m own) (s := ⟨h, g1, d1, t1, o1⟩) (fun _ ob F => F.push ob) F (fun h' t' k' F' => k t' h' k' F') (le_line (by rw [S_len]; exact hl))) hs ht
theorem r_slice_ns {h : Heap} {value slice : Expr} {t : List Nat} {u uj : Tok} {j : Int} {a : Addr} {Q : Value → Shared → Prop} (F : Fx g L h m own)
    (he : s.heap = h.push { cls := .type "slice", data := .fields #[.none, .int j uj, .none] }) (ha : a = h.objs.size) (hj : 0 ≤ j) (hl : t.length ≤ 1000)
    (k : ∀ t' h' tk, Fx g L h' m own → Q (.str (S (t.take j.toNat)) t') { s with heap := h', toks := tk })
    (hs : subscripted slice false (.str (S t) u) (.ref a) = operate [.ref a, .str (S t) u] (getItem (.str (S t) u) (.ref a)) := by with_unfolding_all rfl)
    (ht : ∀ r, letTemporaryGo value (.str (S t) u) r = pure () := by intro _; with_unfolding_all rfl) :
    wpAny (Mo w) A (subscriptTail value slice (.str (S t) u) (.ref a)) Q E s := by
  obtain ⟨hp, g1, d1, t1, o1⟩ := s
  dsimp only at he
  subst he ha
  rw [← S_slice_ns t j hj] at k
  exact tail_of_ItemOn (SBH.sliceItem_ns (P := fun h => Fx g L h m own) (s := ⟨h, g1, d1, t1, o1⟩) (fun _ ob F => F.push ob) F (fun h' t' k' F' => k t' h' k' F') (le_line (by rw [S_len]; exact hl))) hs ht

theorem r_add_str {a b : List Nat} {t u : Tok} {Q : Value → Shared → Prop} (hl : a.length + b.length ≤ 1000) (h : ∀ k tk, Q (.str (S (a ++ b)) k) { s with toks := tk }) :
    wpAny (Mo w) A (binaryOp .Add (.str (S a) t) (.str (S b) u)) Q E s :=
  add_str (by rw [S_cat]; exact h) (le_line (by rw [S_len, S_len]; exact hl))
theorem r_iadd_str {a b : List Nat} {t u : Tok} {Q : Value → Shared → Prop} (hl : a.length + b.length ≤ 1000) (h : ∀ k tk, Q (.str (S (a ++ b)) k) { s with toks := tk }) :
    wpAny (Mo w) A (inplaceOp .Add (.str (S a) t) (.str (S b) u)) Q E s :=
  iadd_str (by rw [S_cat]; exact h) (le_line (by rw [S_len, S_len]; exact hl))
theorem r_truthy_str {a : List Nat} {t : Tok} {Q : Bool → Shared → Prop} (hl : a.length ≤ 1000) (h : ∀ tk, Q (!a.isEmpty) { s with toks := tk }) : wpAny (Mo w) A (truthy (.str (S a) t)) Q E s := by
  refine P.truthy_str (by rw [S_len]; lia) ?_
  rw [S_len]
  have e : (((a.length : Nat) : Int) != 0) = !a.isEmpty := by
    cases a with
    | nil => rfl
    | cons c r => simp; lia
  rw [e]; exact h _

theorem r_newList {vs : List Value} {Q : Value → Shared → Prop} (F : Fx g L s.heap m own) (hn : vs.length ≤ 1000) (h : ∀ a h', Fx g L h' m ((a, lst vs 0) :: own) → Q (.ref a) { s with heap := h' }) :
    wpAny (Mo w) A (newList vs) Q E s :=
  wpAny_newObj_type (h _ _ (F.pushOwn _)) (by show vs.toArray.size ≤ sizeLine; rw [List.size_toArray]; exact le_line hn)
theorem r_newTuple {vs : List Value} {Q : Value → Shared → Prop} (F : Fx g L s.heap m own) (hn : vs.length ≤ 1000) (h : ∀ a h', Fx g L h' m ((a, tup vs) :: own) → Q (.ref a) { s with heap := h' }) :
    wpAny (Mo w) A (newTuple vs) Q E s :=
  wpAny_newObj_type (h _ _ (F.pushOwn _)) (by show vs.toArray.size ≤ sizeLine; rw [List.size_toArray]; exact le_line hn)
/-- a tuple made for an unpacking alone -/
theorem r_unpack {a : Addr} {vs : List Value} {n d : Nat} {Q : List Value → Shared → Prop} (F : Fx g L s.heap m ((a, tup vs) :: own)) (R : Rm A d) (hn : n = vs.length)
    (h : ∀ h', Fx g L h' m own → Q vs { s with heap := h' }) : wpAny (Mo w) A (unpackItems (.ref a) n none) Q E s := by
  subst hn
  have := unpackItems_tuple (prog := PG) (w := w) (E := E) (Q := Q) R.handled (⟨_, F.head, rfl, 0, rfl⟩ : IsTup s.heap a vs.toArray) fun h' he => by
    have := h h' (F.drop.ext (extBut_sub he))
    simpa using this
  simpa using this
theorem r_assignT {elts : List Expr} {k : Nat} {pos : Pos} {a : Addr} {vs : List Value} {d : Nat} {Q : Unit → Shared → Prop} (F : Fx g L s.heap m ((a, tup vs) :: own)) (R : Rm A d)
    (h : ∀ h', Fx g L h' m own → wpAny (Mo w) A (assignInOrder ((assignEach elts env).map (·.2)) vs) Q E { s with heap := h' })
    (hn : (assignEach elts env).length = vs.length := by rfl) (hstar : (assignEach elts env).findIdx? (·.1) = none := by rfl) :
    wpAny (Mo w) A (assign (.Tuple elts k pos) env (.ref a)) Q E s :=
  assign_Tuple_tuple R.handled (⟨_, F.head, rfl, 0, rfl⟩ : IsTup s.heap a vs.toArray) (by rw [hn]; simp) hstar fun h' he => by
    have := h h' (F.drop.ext (extBut_sub he))
    simpa using this
/-- a tuple of the world's -/
theorem r_unpackG {a : Addr} {vs : List Value} {n d : Nat} {Q : List Value → Shared → Prop} (F : Fx g L s.heap m own) (R : Rm A d) (ha : g.get? a = some (tup vs)) (hn : n = vs.length)
    (h : ∀ h', Fx g L h' m own → Q vs { s with heap := h' }) : wpAny (Mo w) A (unpackItems (.ref a) n none) Q E s := by
  subst hn
  have := unpackItems_tuple (prog := PG) (w := w) (E := E) (Q := Q) R.handled (⟨_, F.keep _ _ ha, rfl, 0, rfl⟩ : IsTup s.heap a vs.toArray) fun h' he => by
    have := h h' (F.ext (extBut_sub he))
    simpa using this
  simpa using this
theorem r_assignG {elts : List Expr} {k : Nat} {pos : Pos} {a : Addr} {vs : List Value} {d : Nat} {Q : Unit → Shared → Prop} (F : Fx g L s.heap m own) (R : Rm A d) (ha : g.get? a = some (tup vs))
    (h : ∀ h', Fx g L h' m own → wpAny (Mo w) A (assignInOrder ((assignEach elts env).map (·.2)) vs) Q E { s with heap := h' })
    (hn : (assignEach elts env).length = vs.length := by rfl) (hstar : (assignEach elts env).findIdx? (·.1) = none := by rfl) :
    wpAny (Mo w) A (assign (.Tuple elts k pos) env (.ref a)) Q E s :=
  assign_Tuple_tuple R.handled (⟨_, F.keep _ _ ha, rfl, 0, rfl⟩ : IsTup s.heap a vs.toArray) (by rw [hn]; simp) hstar fun h' he => by
    have := h h' (F.ext (extBut_sub he))
    simpa using this

theorem r_append {a : Addr} {vs : List Value} {n : Nat} {x : Value} {Q : Value → Shared → Prop} (F : Fx g L s.heap m ((a, lst vs n) :: own)) (hl : vs.length ≤ 1000)
    (h : ∀ h', Fx g L h' m ((a, lst (vs ++ [x]) (n + 1)) :: own) → Q .none { s with heap := h' }) : wpAny (Mo w) A (call (.builtin "list.append") [.ref a, x]) Q E s := by
  have ho := F.head
  refine wpAny_call_entry slot_list_append (show s.heap.IsList a vs.toArray from ⟨_, ho, rfl, n, rfl⟩).typeIs entry_list_append ?_ (args_list_append _ _)
  show wpAny _ _ (updateSeq a (·.push x) >>= fun _ => ret .none) _ _ s
  refine wpAny_bind ?_
  have e : Obj.mapSeq (·.push x) (lst vs n) = lst (vs ++ [x]) (n + 1) := by
    unfold Obj.mapSeq lst
    simp
  refine wpAny_updateSeq ho rfl (wpAny_pure ⟨.none, rfl, h _ (F.upd (Heap.SameBut.update ..) ?_)⟩) (by show vs.toArray.size ≤ sizeLine; rw [List.size_toArray]; exact le_line hl)
  rw [← e]
  exact Heap.get?_update_self _ ho (by rw [e]; rfl)
theorem r_callAppend {o elt : Expr} {apos pos : Pos} {Q : Value → Shared → Prop}
    (h : wpAny (Mo w) A (eval o env) (fun ov s₁ => ∃ D vs n, ov = .ref D ∧ s₁.heap.get? D = some (lst vs n) ∧
      wpAny (Mo w) A (eval elt env) (fun y s₂ => wpAny (Mo w) A (call (.builtin "list.append") [.ref D, y]) Q E s₂) E s₁) E s)
    (hbase : attributeBase o "append" env (eval o env) = eval o env := by rfl)
    (hline : (apos.endLine == pos.line) = true := by rfl)
    (htrees : backTo pos (starEach [elt] env) = [(false, eval elt env)] := by rfl) :
    wpAny (Mo w) A (eval (.Call (.Attribute o "append" apos) [elt] [] pos) env) Q E s :=
  wpAny_Call_append hbase (by rw [htrees]; rfl) hline htrees (wpAny_mono h (fun ov s₁ ⟨D, vs, n, e, hg, hh⟩ => ⟨D, vs.toArray, e, ⟨_, n, hg, rfl, rfl, rfl⟩, hh⟩) fun _ _ x => x)
theorem r_const_nil {k : Nat} {pos : Pos} {Q : Value → Shared → Prop} (h : Q (.str (S []) s.toks) { s with toks := s.toks + 1 }) : wpAny (Mo w) A (eval (.Constant (.str (Str.ofString "")) k pos) env) Q E s :=
  wpAny_Constant_str (by rw [S_nil]; exact h)
theorem r_const_z {k : Nat} {pos : Pos} {Q : Value → Shared → Prop} (h : Q (.str (S [122]) s.toks) { s with toks := s.toks + 1 }) : wpAny (Mo w) A (eval (.Constant (.str (Str.ofString "z")) k pos) env) Q E s :=
  wpAny_Constant_str (by rw [S_z]; exact h)
theorem r_strip {a : List Nat} {t : Tok} {pos : Pos} {Q : Value → Shared → Prop} (hl : a.length ≤ 1000) (h : ∀ k tk, Q (.str (S (stripF a)) k) { s with toks := tk }) : MethodOnS PG w A E "strip" (.str (S a) t) pos [] Q s :=
  SB.strip (by rw [← S_strip]; exact h) (le_line (by rw [S_len]; exact hl))
/-- a thing just made goes into a list, and turns no more -/
theorem r_appendN {a b : Addr} {o : Obj} {vs : List Value} {n : Nat} {Q : Value → Shared → Prop} (F : Fx g L s.heap m ((b, o) :: (a, lst vs n) :: own)) (hl : vs.length ≤ 1000)
    (h : ∀ g' h', Sub g g' → g'.get? b = some o → Fx g' L h' m ((a, lst (vs ++ [.ref b]) (n + 1)) :: own) → Q .none { s with heap := h' }) : wpAny (Mo w) A (call (.builtin "list.append") [.ref a, .ref b]) Q E s := by
  obtain ⟨g', hs, F', hb⟩ := F.freeze
  exact r_append F' hl fun h' F2 => h g' h' hs hb F2
end
set_option compiler.extract_closed false in
local macro_rules | `(tactic| walk_at "S") => `(tactic| first
  | (with_reducible refine wpAny_execs_cons ?_)
  | (with_reducible refine wpAny_execs_nil ?_)
  | ((with_reducible show wpAny _ _ (eval (Expr.Name _ _) _) _ _ _); first
      | refine r_name (by assumption) (by rfl) ?_
      | refine r_cellG (by assumption) (by rfl) (by assumption) (by assumption) ?_
      | refine r_freeG (by assumption) (by rfl) (by assumption) (by assumption) ?_
      | refine r_global (by assumption) (by assumption) (by rfl) ?_)
  | (with_reducible refine wpAny_Constant_int ?_)
  | ((with_reducible show wpAny _ _ (eval (Expr.Constant (Const.str _) _ _) _) _ _ _); first | with_reducible refine r_const_nil ?_ | with_reducible refine r_const_z ?_ | refine wpAny_Constant_str ?_)
  | (with_reducible refine wpAny_Constant_none ?_)
  | (with_reducible refine wpAny_Constant_bool ?_)
  | (with_reducible refine wpAny_BinOp ?_)
  | ((with_reducible show wpAny _ _ (eval (Expr.Compare _ _ _ _) _) _ _ _); refine wpAny_Compare1 ?_)
  | ((with_reducible show wpAny _ _ (eval (Expr.UnaryOp UnaryOp.USub _ _) _) _ _ _); refine wpAny_UnaryOp ?_)
  | (with_reducible refine PyProof.Rows.neg_int ?_)
  | (with_reducible refine wpAny_IfExp ?_)
  | (with_reducible refine Subscript_ ?_)
  | ((with_reducible show wpAny _ _ (eval (Expr.Call (Expr.Name (Str.ofString "len") _) _ _ _) _) _ _ _); refine r_callB (fun Q' hq => r_builtin (by assumption) (by assumption) (by rfl) boot_len (by decide) hq) ?_)
  | ((with_reducible show wpAny _ _ (eval (Expr.Call (Expr.Name (Str.ofString "min") _) _ _ _) _) _ _ _); refine r_callB (fun Q' hq => r_builtin (by assumption) (by assumption) (by rfl) boot_min (by decide) hq) ?_)
  | (with_reducible refine wpAny_isTrue_BoolOp ?_)
  | ((with_reducible show wpAny _ _ (isTrue (Expr.Compare _ _ _ _) _ _) _ _ _); refine wpAny_isTrue_Compare1 ?_)
  | (with_reducible refine wpAny_isTrue_Not ?_)
  | ((with_reducible show wpAny _ _ (isTrue (Expr.Name _ _) _ _) _ _ _); refine wpAny_isTrue_value ?_)
  | ((with_reducible show wpAny _ _ (allTrue _ _ _) _ _ _); first | refine wpAny_allTrue_And_cons ?_ | refine wpAny_allTrue_And_nil ?_ | refine wpAny_allTrue_Or_cons ?_ | refine wpAny_allTrue_Or_nil ?_)
  | ((with_reducible show wpAny _ _ (spliced (backTo _ (starEach (_ :: _) _))) _ _ _); refine wpAny_items_cons ?_)
  | ((with_reducible show wpAny _ _ (spliced (backTo _ (starEach [] _))) _ _ _); refine wpAny_items_nil ?_)
  | ((with_reducible show wpAny _ _ (exec (Stmt.Assign [Expr.Name _ _] _ _) _) _ _ _); refine wpAny_Assign_Name ?_)
  | (with_reducible refine wpAny_AugAssign_Name ?_)
  | (with_reducible refine wpAny_If ?_)
  | (with_reducible refine wpAny_Return_some ?_)
  | (with_reducible refine wpAny_Break ?_)
  | (with_reducible refine wpAny_Continue ?_)
  | ((with_reducible show wpAny _ _ (loadName _ _) _ _ _); refine r_load (by assumption) (by rfl) ?_)
  | ((with_reducible show wpAny _ _ (storeName _ _ _) _ _ _); refine r_store (by assumption) ?_; intro h' F'; (try dsimp only))
  | (with_reducible refine wpAny_truthy_bool ?_)
  | (with_reducible refine lt_int ?_)
  | (with_reducible refine le_int ?_)
  | (with_reducible refine eq_int ?_)
  | (with_reducible refine ne_int ?_)
  | (with_reducible refine gt_int ?_)
  | ((with_reducible show wpAny _ _ (compareOp CmpOp.Eq (Value.str (S [_]) _) (Value.str _ _)) _ _ _); first | with_reducible refine r_eq_quote ?_ | with_reducible refine r_eq_slash ?_ | with_reducible refine r_eq_comma ?_)
  | ((with_reducible show wpAny _ _ (compareOp CmpOp.NotEq (Value.str (S [_]) _) (Value.str _ _)) _ _ _); refine r_ne_quote ?_)
  | (with_reducible refine add_int ?_)
  | (with_reducible refine sub_int ?_)
  | (with_reducible refine iadd_int ?_)
  | ((with_reducible show wpAny _ _ (call (Value.builtin "len") [Value.str (S _) _]) _ _ _); refine r_len_str (by lia) ?_; intro k' tk')
  | ((with_reducible show wpAny _ _ (call (Value.builtin "min") [Value.int _ _, Value.int _ _]) _ _ _); refine r_min (by assumption) (by assumption) ?_; intro k' h' tk' F')
  | ((with_reducible show wpAny _ _ (subscriptTail _ _ (Value.str (S _) _) (Value.int _ _)) _ _ _); refine r_item_str (by lia) (by lia) (by assumption) ?_)
  | ((with_reducible show wpAny _ _ (exec (Stmt.Assign [Expr.Tuple _ _ _] _ _) _) _ _ _); first | refine Assign_Tuple ?_ | refine Assign_Tuple_swapped ?_)
  | (with_reducible refine Tuple_ ?_)
  | (with_reducible refine List_ ?_)
  | ((with_reducible show wpAny _ _ (newTuple _) _ _ _); refine r_newTuple (by assumption) (Nat.le_of_ble_eq_true (by rfl)) ?_; intro a' h' F')
  | ((with_reducible show wpAny _ _ (newList _) _ _ _); refine r_newList (by assumption) (Nat.le_of_ble_eq_true (by rfl)) ?_; intro a' h' F')
  | ((with_reducible show wpAny _ _ (assign (Expr.Tuple _ _ _) _ _) _ _ _); refine r_assignT (by assumption) (by assumption) ?_; intro h' F')
  | ((with_reducible show wpAny _ _ (unpackItems _ _ _) _ _ _); refine r_unpack (by assumption) (by assumption) (by rfl) ?_; intro h' F')
  | ((with_reducible show wpAny _ _ (assignInOrder _ _) _ _ _); first | (refine assignInOrder_cons ?_; dsimp only) | (refine assignInOrder_nil ?_))
  | (with_reducible refine assign_Name ?_)
  | (with_reducible refine wpAny_bindName ?_)
  | (with_reducible refine wpAny_Slice ?_)
  | (with_reducible refine evalPart_none_step ?_)
  | (with_reducible refine evalPart_some_step ?_)
  | ((with_reducible show wpAny _ _ (subscriptTail _ _ (Value.str (S _) _) (Value.ref _)) _ _ _); first
      | (refine r_slice_ss (by assumption) (by rfl) (by rfl) (by lia) (by lia) (by lia) ?_; intro k' h' tk' F')
      | (refine r_slice_ns (by assumption) (by rfl) (by rfl) (by lia) (by lia) ?_; intro k' h' tk' F'))
  | ((with_reducible show wpAny _ _ (inplaceOp Operator.Add (Value.str (S _) _) (Value.str (S _) _)) _ _ _); refine r_iadd_str (by (try simp only [List.length_drop, List.length_take, List.length_append, List.length_cons, List.length_nil]); lia) ?_; intro k' tk')
  | ((with_reducible show wpAny _ _ (binaryOp Operator.Add (Value.str (S _) _) (Value.str (S _) _)) _ _ _); refine r_add_str (by (try simp only [List.length_drop, List.length_take, List.length_append, List.length_cons, List.length_nil]); lia) ?_; intro k' tk')
  | ((with_reducible show Sub _ _ ∧ _); refine ⟨Fx.keep (by assumption), ?_⟩)
  | ((with_reducible show wpAny _ _ (eval (Expr.Call (Expr.Name (Str.ofString "range") _) _ _ _) _) _ _ _); refine r_callT (fun Q' hq => r_builtin (by assumption) (by assumption) (by rfl) boot_range (by decide) hq) ?_)
  | ((with_reducible show wpAny _ _ (eval (Expr.Call (Expr.Name (Str.ofString "zip") _) _ _ _) _) _ _ _); refine r_callT (fun Q' hq => r_builtin (by assumption) (by assumption) (by rfl) boot_zip (by decide) hq) ?_)
  | ((with_reducible show wpAny _ _ (eval (Expr.Call (Expr.Name (Str.ofString "list") _) _ _ _) _) _ _ _); refine r_callT (fun Q' hq => r_builtin (by assumption) (by assumption) (by rfl) PyProof.Rows.boot_list (by decide) hq) ?_)
  | (with_reducible refine is_none ?_)
  | ((with_reducible show wpAny _ _ (eval (Expr.Call (Expr.Attribute _ (Str.ofString "strip") _) [] [] _) _) _ _ _); refine Call_method0 (by rfl) (by rfl) ?_)
  | ((with_reducible show MethodOnS _ _ _ _ (Str.ofString "strip") (Value.str (S _) _) _ [] _ _); refine r_strip (by (try simp only [List.length_append]); lia) ?_; intro k' tk')
  | ((with_reducible show wpAny _ _ (binaryOp Operator.Mod (Value.int _ _) (Value.int _ _)) _ _ _); refine mod_int' (by decide) ?_)
  | ((with_reducible show wpAny _ _ (binaryOp Operator.FloorDiv (Value.int _ _) (Value.int _ _)) _ _ _); refine floordiv_int (by decide) ?_)
  | ((with_reducible show wpAny _ _ (exec (Stmt.Expr _ _) _) _ _ _); refine wpAny_Expr ?_)
  | ((with_reducible show wpAny _ _ (eval (Expr.Call (Expr.Attribute _ (Str.ofString "append") _) _ _ _) _) _ _ _); refine r_callAppend ?_)
  | ((with_reducible show ∃ D vs n, Value.ref _ = Value.ref D ∧ _ ∧ _); refine ⟨_, _, _, rfl, Fx.head (by assumption), ?_⟩)
  | ((with_reducible show wpAny _ _ (exec (Stmt.Assign [_, _] _ _) _) _ _ _); refine wpAny_Assign_two ?_)
  | ((with_reducible show wpAny _ _ (exec (Stmt.For _ _ _ _ _) _) _ _ _); refine wpAny_For ?_)
  | ((with_reducible show wpAny _ _ (truthy (Value.str (S _) _)) _ _ _); refine r_truthy_str (by lia) ?_; intro tk')
  | ((with_reducible show wpAny _ _ (eval (Expr.Call (Expr.Name _ _) _ _ _) _) _ _ _); refine r_callK _ (by assumption) (by assumption) (by rfl) (by rfl) ?_)
  | fail "no step"
  )
/-- a goal under a name, while what it leans on is taken apart -/
theorem coverA {α β : Type} {P G : α → β → Prop} (h : ∀ G' : α → β → Prop, (∀ a b, G a b → G' a b) → ∀ a b, P a b → G' a b) : ∀ a b, P a b → G a b := fun a b p => h G (fun _ _ z => z) a b p
/-- of a text behind an opening quote: how many signs its quoted part has, the closing quote among them -/
def qlen : List Nat → Nat
  | [] => 0
  | [c] => if c = 34 then 1 else 1
  | c :: d :: r => if c = 34 then 1 else if c = 92 then 2 + qlen r else 1 + qlen (d :: r)
theorem qlen_quote (r : List Nat) : qlen (34 :: r) = 1 := by cases r <;> simp [qlen]
theorem qlen_slash (d : Nat) (r : List Nat) : qlen (92 :: d :: r) = 2 + qlen r := by simp [qlen]
theorem qlen_other {c : Nat} (r : List Nat) (h : c ≠ 34) (h2 : c ≠ 92) : qlen (c :: r) = 1 + qlen r := by
  cases r with
  | nil => simp [qlen]
  | cons d r => simp [qlen, h, h2]
theorem drop_at {t : List Nat} {j c : Nat} (h : t[j]? = some c) : t.drop j = c :: t.drop (j + 1) := by
  obtain ⟨hl, he⟩ := List.getElem?_eq_some_iff.mp h
  rw [List.drop_eq_getElem_cons hl, he]
theorem get_at {t : List Nat} {j : Nat} (h : j < t.length) : ∃ c, t[j]? = some c := ⟨t[j], by simp⟩

theorem behind_call {w : World} {A : Around} {E : Value → Shared → Prop} {s : Shared} {g : Heap} {L : Addr} {own : Own} {m : Str → Option Value} {Q : Value → Shared → Prop} {d : Nat}
    {t : List Nat} {i : Nat} {ut ui : Tok} (F : Fx g L s.heap m own) (R : Rm A (d + 1)) (W : Wd w g) (hl : t.length ≤ 900) (hi : i ≤ t.length)
    (h : ∀ k h' tk, Fx g L h' m own → Q (.int ((i + qlen (t.drop i) : Nat) : Int) k) { s with heap := h', toks := tk }) :
    wpAny (Mo w) A (call (.ref 40) [.str (S t) ut, .int i ui]) Q E s := by
  refine r_enter (fd := fdOf w 40) (binds := [(Str.ofString "chars", .str (S t) ut), (Str.ofString "at", .int i ui)]) F R W (W.K 40 _ rfl) rfl (codeRec_of W.K (by rfl)) rfl (BindsTo.of_eq rfl) (by intro x hx; revert x; exact of_decide_eq_true rfl) (locs rfl) rfl rfl rfl ?_
  intro L' h₁ oL R' F' back
  walk_at "S"
  refine wpAny_mono (Q := fun f s' => f = .next ∧ ∃ h' tk k, ∃ j : Nat, s' = { s with heap := h', toks := tk } ∧ min (j + 1) t.length = i + qlen (t.drop i) ∧
      Fx g L' h' (mp [(Str.ofString "at", .int j k), (Str.ofString "chars", .str (S t) ut)]) ((L, oL) :: own)) ?_ ?_ (fun _ _ x => x)
  · refine r_while (fun n s' => ∃ j : Nat, n = t.length + 2 - j ∧ ∃ h' tk k, s' = { s with heap := h', toks := tk } ∧ (j ≤ t.length ∧ i + qlen (t.drop i) = j + qlen (t.drop j) ∨ j = t.length + 1 ∧ i + qlen (t.drop i) = t.length) ∧
        Fx g L' h' (mp [(Str.ofString "at", .int j k), (Str.ofString "chars", .str (S t) ut)]) ((L, oL) :: own)) (t.length + 2 - i) ?_ ?_
    · exact ⟨i, rfl, _, _, ui, rfl, .inl ⟨hi, rfl⟩, F'⟩
    · refine coverA ?_
      intro GG hGG n s' hh
      obtain ⟨j, rfl, h', tk, k, rfl, hj, F₂⟩ := hh
      refine hGG _ _ ?_
      clear hGG
      clear F F'
      repeat walk_at "S"
      split
      · rename_i hlt
        simp only [decide_eq_true_eq] at hlt
        obtain ⟨c, hc⟩ := get_at (t := t) (j := j) (by lia)
        have hdr := drop_at hc
        repeat walk_at "S"
        by_cases hq : c = 34
        · rw [if_neg (by simp [hq]), if_neg (by simp)]
          refine ⟨rfl, _, _, k, j, rfl, ?_, F₂⟩
          subst hq
          rw [hdr, qlen_quote] at hj
          lia
        · rw [if_pos (by simp [hq])]
          walk_at "S"
          rw [if_pos rfl]
          repeat walk_at "S"
          by_cases hs : c = 92
          · rw [if_pos (by simp [hs])]
            repeat walk_at "S"
            refine ⟨t.length + 2 - (j + 2), by lia, j + 2, rfl, _, _, _, rfl, ?_, by assumption⟩
            subst hs
            rw [hdr] at hj
            by_cases hend : j + 1 < t.length
            · obtain ⟨c', hc'⟩ := get_at (t := t) hend
              rw [drop_at hc', qlen_slash, show j + 1 + 1 = j + 2 from rfl] at hj
              left
              lia
            · have : t.drop (j + 1) = [] := List.drop_eq_nil_of_le (by lia)
              rw [this] at hj
              simp only [qlen] at hj
              right
              have e : ¬ (92 : Nat) = 34 := by decide
              simp only [e, if_false] at hj
              lia
          · rw [if_neg (by simp [hs])]
            repeat walk_at "S"
            refine ⟨t.length + 2 - (j + 1), by lia, j + 1, rfl, _, _, _, rfl, ?_, by assumption⟩
            rw [hdr, qlen_other _ hq hs] at hj
            left
            lia
      · rename_i hlt
        simp only [decide_eq_true_eq] at hlt
        rw [if_neg (by simp)]
        refine ⟨rfl, _, _, k, j, rfl, ?_, F₂⟩
        rcases hj with ⟨h1, h2⟩ | ⟨h1, h2⟩
        · rw [List.drop_eq_nil_of_le (i := j) (by lia)] at h2
          simp only [qlen] at h2
          lia
        · lia
  · refine coverA ?_
    intro GG hGG f s' hh
    obtain ⟨rfl, h', tk, k, j, rfl, hj, F₂⟩ := hh
    refine hGG _ _ ?_
    clear hGG
    rw [← hj, show ((min (j + 1) t.length : Nat) : Int) = min ((j : Int) + 1) (t.length : Int) by lia] at h
    repeat walk_at "S"
    exact h _ _ _ (back _ _ _ (by assumption))
/-- a quoted text without its live backslashes -/
def bareF : List Nat → List Nat
  | [] => []
  | [c] => if c = 92 then [] else [c]
  | c :: d :: r => if c = 92 then d :: bareF r else c :: bareF (d :: r)
theorem bareF_other {c : Nat} (r : List Nat) (h : c ≠ 92) : bareF (c :: r) = c :: bareF r := by
  cases r with
  | nil => simp [bareF, h]
  | cons d r => simp [bareF, h]
theorem bareF_slash (r : List Nat) : bareF (92 :: r) = r.take 1 ++ bareF (r.drop 1) := by
  cases r with
  | nil => simp [bareF]
  | cons d r => simp [bareF]
theorem one_from (t : List Nat) (j : Nat) : (t.take (j + 1)).drop j = (t.drop j).take 1 := by
  rw [List.drop_take]; congr 1; lia

/-- between the turns of bare_call's loop -/
def BareI (g : Heap) (L : Addr) (oL : Obj) (own : Own) (L' : Addr) (s : Shared) (t : List Nat) (ut : Tok) (n : Nat) (s' : Shared) : Prop := ∃ (j : Nat) (pre : List Nat), n = t.length + 1 - j ∧ ∃ h' tk k k2, s' = { s with heap := h', toks := tk } ∧ bareF t = pre ++ bareF (t.drop j) ∧ pre.length ≤ j ∧ j ≤ t.length + 1 ∧
      Fx g L' h' (mp [(Str.ofString "quoted", .str (S t) ut), (Str.ofString "signs", .str (S pre) k2), (Str.ofString "at", .int j k)]) ((L, oL) :: own)
theorem bare_call {w : World} {A : Around} {E : Value → Shared → Prop} {s : Shared} {g : Heap} {L : Addr} {own : Own} {m : Str → Option Value} {Q : Value → Shared → Prop} {d : Nat}
    {t : List Nat} {ut : Tok} (F : Fx g L s.heap m own) (R : Rm A (d + 1)) (W : Wd w g) (hl : t.length ≤ 300)
    (h : ∀ k h' tk, Fx g L h' m own → Q (.str (S (bareF t)) k) { s with heap := h', toks := tk }) :
    wpAny (Mo w) A (call (.ref 54) [.str (S t) ut]) Q E s := by
  refine r_enter (fd := fdOf w 54) (binds := [(Str.ofString "quoted", .str (S t) ut)]) F R W (W.K 54 _ rfl) rfl (codeRec_of W.K (by rfl)) rfl (BindsTo.of_eq rfl) (by intro x hx; revert x; exact of_decide_eq_true rfl) (locs rfl) rfl rfl rfl ?_
  intro L' h₁ oL R' F' back
  repeat walk_at "S"
  refine r_while (BareI g L oL own L' s t ut) (t.length + 1) ?_ ?_
  · exact ⟨0, [], rfl, _, _, _, _, rfl, by simp, by simp, by lia, by assumption⟩
  · refine coverA ?_
    intro GG hGG n s' hh
    obtain ⟨j, pre, rfl, h', tk, k, k2, rfl, hj, hp, hjl, F₂⟩ := hh
    refine hGG _ _ ?_
    clear hGG
    clear F F'
    repeat walk_at "S"
    split
    · rename_i hlt
      simp only [decide_eq_true_eq] at hlt
      obtain ⟨c, hc⟩ := get_at (t := t) (j := j) (by lia)
      have hdr := drop_at hc
      repeat walk_at "S"
      by_cases hs : c = 92
      · rw [if_pos (by simp [hs])]
        repeat walk_at "S"
        refine ⟨t.length + 1 - (j + 2), by lia, j + 2, _, rfl, _, _, _, _, rfl, ?_, ?_, by lia, by assumption⟩
        · rw [hj, hdr, hs, bareF_slash, show ((j : Int) + 1).toNat = j + 1 by lia, show ((j : Int) + 1 + 1).toNat = (j + 1) + 1 by lia, one_from, List.drop_drop, List.append_assoc]
        · simp only [List.length_append, List.length_drop, List.length_take]; lia
      · rw [if_neg (by simp [hs])]
        repeat walk_at "S"
        refine ⟨t.length + 1 - (j + 1), by lia, j + 1, _, rfl, _, _, _, _, rfl, ?_, ?_, by lia, by assumption⟩
        · rw [hj, hdr, bareF_other _ hs, show ((j : Int)).toNat = j by lia, show ((j : Int) + 1).toNat = j + 1 by lia, one_from, hdr, List.append_assoc]
          rfl
        · simp only [List.length_append, List.length_drop, List.length_take]; lia
    · rename_i hlt
      simp only [decide_eq_true_eq] at hlt
      repeat walk_at "S"
      rw [List.drop_eq_nil_of_le (by lia), show bareF [] = [] from rfl, List.append_nil] at hj
      subst hj
      exact h _ _ _ (back _ _ _ F₂)
/-- a piece without its live backslashes, its outer blanks still on it -/
def readF : Nat → List Nat → List Nat
  | 0, _ => []
  | _ + 1, [] => []
  | n + 1, c :: r => if c = 34 then bareF (c :: r.take (qlen r)) ++ readF n (r.drop (qlen r)) else c :: readF n r
theorem qlen_le : ∀ (n : Nat) (t : List Nat), t.length ≤ n → qlen t ≤ t.length := by
  intro n
  induction n with
  | zero => intro t h; cases t with | nil => simp [qlen] | cons c r => simp at h
  | succ n ih =>
    intro t h
    match t, h with
    | [], _ => simp [qlen]
    | [c], _ => simp [qlen]
    | c :: d :: r, h =>
      simp only [List.length_cons] at h
      have h1 := ih r (by lia)
      have h2 := ih (d :: r) (by simp; lia)
      simp only [qlen, List.length_cons] at h2 ⊢
      split
      · lia
      · split <;> lia
theorem qlen_len (t : List Nat) : qlen t ≤ t.length := qlen_le _ t (Nat.le_refl _)
theorem bareF_len : ∀ (n : Nat) (t : List Nat), t.length ≤ n → (bareF t).length ≤ t.length := by
  intro n
  induction n with
  | zero => intro t h; cases t with | nil => simp [bareF] | cons c r => simp at h
  | succ n ih =>
    intro t h
    match t, h with
    | [], _ => simp [bareF]
    | [c], _ => simp only [bareF]; split <;> simp
    | c :: d :: r, h =>
      simp only [List.length_cons] at h
      have h1 := ih r (by lia)
      have h2 := ih (d :: r) (by simp; lia)
      simp only [bareF, List.length_cons] at h2 ⊢
      split
      · simp only [List.length_cons]; lia
      · simp only [List.length_cons]; lia

theorem readF_fuel : ∀ (n k : Nat) (t : List Nat), t.length ≤ n → t.length ≤ k → readF n t = readF k t := by
  intro n
  induction n with
  | zero =>
    intro k t h _
    cases t with
    | nil => cases k <;> rfl
    | cons c r => simp at h
  | succ n ih =>
    intro k t h h2
    cases t with
    | nil => cases k <;> rfl
    | cons c r =>
      cases k with
      | zero => simp at h2
      | succ k =>
        simp only [List.length_cons] at h h2
        simp only [readF]
        rw [ih k (r.drop (qlen r)) (by rw [List.length_drop]; lia) (by rw [List.length_drop]; lia), ih k r (by lia) (by lia)]
/-- between the turns of read_call's loop -/
def ReadI (g : Heap) (L : Addr) (oL : Obj) (own : Own) (L' : Addr) (s : Shared) (t : List Nat) (ut : Tok) (n : Nat) (s' : Shared) : Prop := ∃ (j : Nat) (pre : List Nat), n = t.length - j ∧ ∃ h' tk k k2, s' = { s with heap := h', toks := tk } ∧ readF t.length t = pre ++ readF (t.length - j) (t.drop j) ∧ pre.length ≤ j ∧ j ≤ t.length ∧
      Fx g L' h' (mp [(Str.ofString "piece", .str (S t) ut), (Str.ofString "signs", .str (S pre) k2), (Str.ofString "at", .int j k)]) ((L, oL) :: own)
theorem read_call {w : World} {A : Around} {E : Value → Shared → Prop} {s : Shared} {g : Heap} {L : Addr} {own : Own} {m : Str → Option Value} {Q : Value → Shared → Prop} {d : Nat}
    {t : List Nat} {ut : Tok} (F : Fx g L s.heap m own) (R : Rm A (d + 2)) (W : Wd w g) (hl : t.length ≤ 100)
    (h : ∀ k h' tk, Fx g L h' m own → Q (.str (S (stripF (readF t.length t))) k) { s with heap := h', toks := tk }) :
    wpAny (Mo w) A (call (.ref 61) [.str (S t) ut]) Q E s := by
  refine r_enter (fd := fdOf w 61) (binds := [(Str.ofString "piece", .str (S t) ut)]) F R W (W.K 61 _ rfl) rfl (codeRec_of W.K (by rfl)) rfl (BindsTo.of_eq rfl) (by intro x hx; revert x; exact of_decide_eq_true rfl) (locs rfl) rfl rfl rfl ?_
  intro L' h₁ oL R' F' back
  repeat walk_at "S"
  refine r_while (ReadI g L oL own L' s t ut) t.length ?_ ?_
  · exact ⟨0, [], rfl, _, _, _, _, rfl, by simp, by simp, by lia, by assumption⟩
  · refine coverA ?_
    intro GG hGG n s' hh
    obtain ⟨j, pre, rfl, h', tk, k, k2, rfl, hj, hp, hjl, F₂⟩ := hh
    refine hGG _ _ ?_
    clear hGG
    clear F F'
    repeat walk_at "S"
    split
    · rename_i hlt
      simp only [decide_eq_true_eq] at hlt
      obtain ⟨c, hc⟩ := get_at (t := t) (j := j) (by lia)
      have hdr := drop_at hc
      rw [hdr, show t.length - j = (t.length - (j + 1)) + 1 by lia] at hj
      repeat walk_at "S"
      by_cases hs : c = 34
      · rw [if_pos (by simp [hs])]
        repeat walk_at "S"
        refine behind_call (i := j + 1) (by assumption) (by assumption) (by assumption) (by lia) (by lia) ?_
        intro kb hb tkb Fb
        have hq := qlen_len (t.drop (j + 1))
        rw [List.length_drop] at hq
        repeat walk_at "S"
        rw [if_pos (by simp [hs])]
        repeat walk_at "S"
        refine bare_call (by assumption) (by assumption) (by assumption) (by simp only [List.length_drop, List.length_take]; lia) ?_
        intro kc hc' tkc Fc
        have e1 : List.drop ((j : Int)).toNat (List.take ((j + 1 + qlen (t.drop (j + 1)) : Nat) : Int).toNat t) = c :: (t.drop (j + 1)).take (qlen (t.drop (j + 1))) := by
          rw [Int.toNat_natCast, Int.toNat_natCast, List.drop_take, hdr, show j + 1 + qlen (t.drop (j + 1)) - j = qlen (t.drop (j + 1)) + 1 by lia, List.take_succ_cons]
        rw [e1]
        have hbl := bareF_len _ (c :: (t.drop (j + 1)).take (qlen (t.drop (j + 1)))) (Nat.le_refl _)
        simp only [List.length_cons, List.length_take, List.length_drop] at hbl
        repeat walk_at "S"
        refine ⟨t.length - (j + 1 + qlen (t.drop (j + 1))), by lia, j + 1 + qlen (t.drop (j + 1)), _, rfl, _, _, _, _, rfl, ?_, ?_, by lia, Fx.take 3 (by assumption)⟩
        · rw [hj]
          simp only [readF, hs, if_true]
          rw [List.drop_drop, List.append_assoc]
          congr 2
          exact readF_fuel _ _ _ (by rw [List.length_drop]; lia) (by rw [List.length_drop]; lia)
        · simp only [List.length_append]; lia
      · rw [if_neg (by simp [hs])]
        repeat walk_at "S"
        rw [if_neg (by simp [hs])]
        repeat walk_at "S"
        refine ⟨t.length - (j + 1), by lia, j + 1, _, rfl, _, _, _, _, rfl, ?_, ?_, by lia, Fx.take 3 (by assumption)⟩
        · rw [hj]
          simp only [readF, if_neg hs, List.append_assoc, List.cons_append, List.nil_append]
        · simp only [List.length_append, List.length_cons, List.length_nil]; lia
    · rename_i hlt
      simp only [decide_eq_true_eq] at hlt
      repeat walk_at "S"
      have e : j = t.length := by lia
      subst e
      rw [Nat.sub_self, show ∀ l, readF 0 l = [] from fun _ => rfl, List.append_nil] at hj
      rw [hj] at h
      exact h _ _ _ (back _ _ _ F₂)
theorem sign_call {w : World} {A : Around} {E : Value → Shared → Prop} {s : Shared} {g : Heap} {L : Addr} {own : Own} {m : Str → Option Value} {Q : Value → Shared → Prop} {d : Nat}
    {n : Int} {un : Tok} (F : Fx g L s.heap m own) (R : Rm A (d + 1)) (W : Wd w g)
    (h : ∀ c k h' tk, Fx g L h' m own → Q (.str (S [c]) k) { s with heap := h', toks := tk }) :
    wpAny (Mo w) A (call (.ref 33) [.int n un]) Q E s := by
  refine r_enter (fd := fdOf w 33) (binds := [(Str.ofString "n", .int n un)]) F R W (W.K 33 _ rfl) rfl (codeRec_of W.K (by rfl)) rfl (BindsTo.of_eq rfl) (by intro x hx; revert x; exact of_decide_eq_true rfl) (locs rfl) rfl rfl rfl ?_
  intro L' h₁ oL R' F' back
  have k0 := Int.fmod_nonneg_of_pos n (b := 6) (by decide)
  have k1 := Int.fmod_lt_of_pos n (b := 6) (by decide)
  have q3 := fun q : Int => Int.fmod_nonneg_of_pos q (b := 3) (by decide)
  have q3' := fun q : Int => Int.fmod_lt_of_pos q (b := 3) (by decide)
  have q4 := fun q : Int => Int.fmod_nonneg_of_pos q (b := 4) (by decide)
  have q4' := fun q : Int => Int.fmod_lt_of_pos q (b := 4) (by decide)
  repeat walk_at "S"
  split
  · repeat walk_at "S"
    rw [show Str.ofString "aBn" = S [97, 66, 110] from by decide +kernel]
    obtain ⟨c, hc⟩ := get_at (t := [97, 66, 110]) (j := ((n.fdiv 6).fmod 3).toNat) (by have := q3 (n.fdiv 6); have := q3' (n.fdiv 6); simp; lia)
    refine r_item_str (q3 _) (by simp) hc ?_
    exact h _ _ _ _ (back _ _ _ (by assumption))
  · repeat walk_at "S"
    split
    · repeat walk_at "S"
      rw [show Str.ofString " \t\n\x0b" = S [32, 9, 10, 11] from by decide +kernel]
      obtain ⟨c, hc⟩ := get_at (t := [32, 9, 10, 11]) (j := ((n.fdiv 6).fmod 4).toNat) (by have := q4 (n.fdiv 6); have := q4' (n.fdiv 6); simp; lia)
      refine r_item_str (q4 _) (by simp) hc ?_
      exact h _ _ _ _ (back _ _ _ (by assumption))
    · repeat walk_at "S"
      split
      · repeat walk_at "S"
        rw [show Str.ofString "'=;." = S [39, 61, 59, 46] from by decide +kernel]
        obtain ⟨c, hc⟩ := get_at (t := [39, 61, 59, 46]) (j := ((n.fdiv 6).fmod 4).toNat) (by have := q4 (n.fdiv 6); have := q4' (n.fdiv 6); simp; lia)
        refine r_item_str (q4 _) (by simp) hc ?_
        exact h _ _ _ _ (back _ _ _ (by assumption))
      · rename_i h0 h4 h5
        simp only [beq_iff_eq] at h0 h4 h5
        repeat walk_at "S"
        rw [show Str.ofString ",\"\\" = S [44, 34, 92] from by decide +kernel]
        obtain ⟨c, hc⟩ := get_at (t := [44, 34, 92]) (j := (n.fmod 6 - 1).toNat) (by simp; lia)
        refine r_item_str (by lia) (by simp) hc ?_
        exact h _ _ _ _ (back _ _ _ (by assumption))
/-- a pair of places, laid as a tuple -/
def PairAt (g : Heap) (v : Value) (p : Nat × Nat) : Prop := ∃ a t u, v = .ref a ∧ g.get? a = some (tup [.int (p.1 : Nat) t, .int (p.2 : Nat) u])
def Prs (g : Heap) (vs : List Value) (ps : List (Nat × Nat)) : Prop := vs.length = ps.length ∧ ∀ (i : Nat) p v, ps[i]? = some p → vs[i]? = some v → PairAt g v p
theorem PairAt.of {g : Heap} {a : Addr} {x y : Int} {t u : Tok} (i j : Nat) (h : g.get? a = some (tup [.int x t, .int y u])) (hx : x = i) (hy : y = j) : PairAt g (.ref a) (i, j) := by
  subst hx hy; exact ⟨a, t, u, rfl, h⟩
theorem PairAt.mono {g g' : Heap} {v : Value} {p : Nat × Nat} (x : PairAt g v p) (h : Sub g g') : PairAt g' v p := let ⟨a, t, u, e, q⟩ := x; ⟨a, t, u, e, h _ _ q⟩
theorem PairAt.elimK {g : Heap} {v : Value} {p : Nat × Nat} {G : Prop} (x : PairAt g v p) (k : ∀ a t u, v = .ref a → g.get? a = some (tup [.int (p.1 : Nat) t, .int (p.2 : Nat) u]) → G) : G :=
  let ⟨a, t, u, e, q⟩ := x; k a t u e q
theorem Prs.mono {g g' : Heap} {vs : List Value} {ps : List (Nat × Nat)} (x : Prs g vs ps) (h : Sub g g') : Prs g' vs ps := ⟨x.1, fun i p v h1 h2 => (x.2 i p v h1 h2).mono h⟩
theorem Prs.nil (g : Heap) : Prs g [] [] := ⟨rfl, fun i p v h1 _ => by simp at h1⟩
theorem Prs.snoc {g : Heap} {vs : List Value} {ps : List (Nat × Nat)} {v : Value} {p : Nat × Nat} (x : Prs g vs ps) (y : PairAt g v p) : Prs g (vs ++ [v]) (ps ++ [p]) := by
  refine ⟨by simp [x.1], fun i q u h1 h2 => ?_⟩
  by_cases hi : i < ps.length
  · rw [List.getElem?_append_left hi] at h1
    rw [List.getElem?_append_left (by rw [x.1]; exact hi)] at h2
    exact x.2 i q u h1 h2
  · rw [List.getElem?_append_right (by lia)] at h1
    rw [List.getElem?_append_right (by rw [x.1]; lia), x.1] at h2
    by_cases h0 : i - ps.length = 0
    · rw [h0] at h1 h2
      simp at h1 h2
      subst h1 h2
      exact y
    · obtain ⟨k, hk⟩ : ∃ k, i - ps.length = k + 1 := ⟨i - ps.length - 1, by lia⟩
      rw [hk] at h1
      simp at h1
/-- the items, the place at which we look and where the item at hand begins -/
def itemsF (t : List Nat) : Nat → Nat → Nat → List (Nat × Nat)
  | 0, _, f => [(f, t.length)]
  | n + 1, j, f => match t[j]? with
    | none => [(f, t.length)]
    | some c => if c = 34 then itemsF t n (j + 1 + qlen (t.drop (j + 1))) f else if c = 44 then (f, j) :: itemsF t n (j + 1) (j + 1) else itemsF t n (j + 1) f
theorem itemsF_fuel (t : List Nat) : ∀ (n k j f : Nat), t.length - j ≤ n → t.length - j ≤ k → itemsF t n j f = itemsF t k j f := by
  intro n
  induction n with
  | zero =>
    intro k j f h _
    have : t[j]? = none := by simp; lia
    cases k with
    | zero => rfl
    | succ k => simp [itemsF, this]
  | succ n ih =>
    intro k j f h h2
    cases k with
    | zero =>
      have : t[j]? = none := by simp; lia
      simp [itemsF, this]
    | succ k =>
      simp only [itemsF]
      cases hc : t[j]? with
      | none => rfl
      | some c =>
        have := (List.getElem?_eq_some_iff.mp hc).1
        simp only []
        rw [ih k (j + 1 + qlen (t.drop (j + 1))) f (by lia) (by lia), ih k (j + 1) (j + 1) (by lia) (by lia), ih k (j + 1) f (by lia) (by lia)]

/-- between the turns of items_call's loop -/
def ItemsI (g : Heap) (L : Addr) (oL : Obj) (own : Own) (L' : Addr) (s : Shared) (t : List Nat) (ut : Tok) (n : Nat) (s' : Shared) : Prop := ∃ (j f : Nat) (g' : Heap) (a : Addr) (vs : List Value) (e : Nat) (ps : List (Nat × Nat)), n = t.length - j ∧ Sub g g' ∧ ∃ h' tk k k2, s' = { s with heap := h', toks := tk } ∧
      itemsF t t.length 0 0 = ps ++ itemsF t (t.length - j) j f ∧ vs.length ≤ j ∧ j ≤ t.length ∧ Prs g' vs ps ∧
      Fx g' L' h' (mp [(Str.ofString "text", .str (S t) ut), (Str.ofString "at", .int j k), (Str.ofString "first", .int f k2), (Str.ofString "items", .ref a)]) ((a, lst vs e) :: (L, oL) :: own)
theorem items_call {w : World} {A : Around} {E : Value → Shared → Prop} {s : Shared} {g : Heap} {L : Addr} {own : Own} {m : Str → Option Value} {Q : Value → Shared → Prop} {d : Nat}
    {t : List Nat} {ut : Tok} (F : Fx g L s.heap m own) (R : Rm A (d + 2)) (W : Wd w g) (hl : t.length ≤ 100)
    (h : ∀ g' a vs n h' tk, Sub g g' → Fx g' L h' m own → g'.get? a = some (lst vs n) → Prs g' vs (itemsF t t.length 0 0) → Q (.ref a) { s with heap := h', toks := tk }) :
    wpAny (Mo w) A (call (.ref 47) [.str (S t) ut]) Q E s := by
  refine r_enter (fd := fdOf w 47) (binds := [(Str.ofString "text", .str (S t) ut)]) F R W (W.K 47 _ rfl) rfl (codeRec_of W.K (by rfl)) rfl (BindsTo.of_eq rfl) (by intro x hx; revert x; exact of_decide_eq_true rfl) (locs rfl) rfl rfl rfl ?_
  intro L' h₁ oL R' F' back
  repeat walk_at "S"
  refine r_while (ItemsI g L oL own L' s t ut) t.length ?_ ?_
  · exact ⟨0, 0, g, _, [], 0, [], rfl, .refl g, _, _, _, _, rfl, by simp, by simp, by lia, .nil g, by assumption⟩
  · refine coverA ?_
    intro GG hGG n s' hh
    obtain ⟨j, f, g', a, vs, e, ps, rfl, hsub, h', tk, k, k2, rfl, hj, hp, hjl, hprs, F₂⟩ := hh
    refine hGG _ _ ?_
    clear hGG
    have W' := W.mono hsub
    clear F F'
    repeat walk_at "S"
    split
    · rename_i hlt
      simp only [decide_eq_true_eq] at hlt
      obtain ⟨c, hc⟩ := get_at (t := t) (j := j) (by lia)
      rw [show t.length - j = (t.length - (j + 1)) + 1 by lia] at hj
      simp only [itemsF, hc] at hj
      have hq := qlen_len (t.drop (j + 1))
      rw [List.length_drop] at hq
      repeat walk_at "S"
      by_cases hs : c = 34
      · rw [if_pos (by simp [hs])]
        rw [if_pos hs] at hj
        repeat walk_at "S"
        refine behind_call (i := j + 1) (by assumption) (by assumption) W' (by lia) (by lia) ?_
        intro kb hb tkb Fb
        repeat walk_at "S"
        refine ⟨t.length - (j + 1 + qlen (t.drop (j + 1))), by lia, j + 1 + qlen (t.drop (j + 1)), f, g', a, vs, e, ps, rfl, hsub, _, _, _, _, rfl, ?_, by lia, by lia, hprs, by assumption⟩
        rw [hj, itemsF_fuel t (t.length - (j + 1)) (t.length - (j + 1 + qlen (t.drop (j + 1)))) _ _ (by lia) (by lia)]
      · rw [if_neg (by simp [hs])]
        rw [if_neg hs] at hj
        have hc1 : t[((j : Int) + 1 - 1).toNat]? = some c := by rw [show ((j : Int) + 1 - 1).toNat = j by lia]; exact hc
        repeat walk_at "S"
        by_cases hk : c = 44
        · rw [if_pos (by simp [hk])]
          rw [if_pos hk] at hj
          repeat walk_at "S"
          refine r_appendN (by assumption) (by lia) ?_
          intro g2 h2 hs2 hb2 F2
          dsimp only
          repeat walk_at "S"
          refine ⟨t.length - (j + 1), by lia, j + 1, j + 1, g2, a, _, _, ps ++ [(f, j)], rfl, hsub.trans hs2, _, _, _, _, rfl, ?_, ?_, by lia, (hprs.mono hs2).snoc (.of f j hb2 rfl (by lia)), by assumption⟩
          · rw [hj, List.append_assoc]; rfl
          · simp; lia
        · rw [if_neg (by simp [hk])]
          rw [if_neg hk] at hj
          repeat walk_at "S"
          refine ⟨t.length - (j + 1), by lia, j + 1, f, g', a, vs, e, ps, rfl, hsub, _, _, _, _, rfl, hj, by lia, by lia, hprs, by assumption⟩
    · rename_i hlt
      simp only [decide_eq_true_eq] at hlt
      repeat walk_at "S"
      refine r_appendN (by assumption) (by lia) ?_
      intro g2 h2 hs2 hb2 F2
      dsimp only
      repeat walk_at "S"
      refine Fx.freezeK F2 ?_
      intro g3 hs3 F3 hl3
      refine h g3 a _ _ _ _ (hsub.trans (hs2.trans hs3)) (back _ _ _ F3) hl3 ?_
      rw [show j = t.length by lia, Nat.sub_self] at hj
      rw [hj]
      exact ((hprs.mono hs2).snoc ⟨_, _, _, rfl, hb2⟩).mono hs3
/-! loops over what a list, a range or a text hands out -/
section
variable {g g' h h' : Heap} {L : Addr} {m m' : Str → Option Value} {own mine rest : Own} {a : Addr} {o o' : Obj}
theorem Fx.updX (F : Fx g L h m ((a, o) :: own)) (hs : ∀ b o, b ≠ a → h.get? b = some o → h'.get? b = some o) (e : h'.get? a = some o') : Fx g L h' m ((a, o') :: own) := by
  have H := F.ow _ (.head _)
  refine ⟨?_, fun b x q => hs b x (fun z => ?_) (F.keep b x q), F.hid, fun p hp => ?_, F.nd⟩
  · obtain ⟨m₀, ⟨oL, es, ep, n1, r⟩, n2⟩ := F.ns
    exact ⟨m₀, ⟨oL, es, ep, hs _ _ (Ne.symm H.2.1) n1, r⟩, n2⟩
  · subst z; rw [H.2.2] at q; cases q
  · rcases List.mem_cons.mp hp with rfl | hp
    · exact ⟨e, H.2⟩
    · have P := F.ow p (.tail _ hp)
      refine ⟨hs _ _ (fun z => ?_) P.1, P.2⟩
      have hm : p.1 ∈ own.map (·.1) := List.mem_map_of_mem hp
      rw [z] at hm
      exact (List.nodup_cons.mp F.nd).1 hm
theorem Fx.dropX (F : Fx g L h m ((a, o) :: own)) (hs : ∀ b o, b ≠ a → h.get? b = some o → h'.get? b = some o) : Fx g L h' m own := by
  have H := F.ow _ (.head _)
  refine ⟨?_, fun b x q => hs b x (fun z => ?_) (F.keep b x q), F.hid, fun p hp => ?_, (List.nodup_cons.mp F.nd).2⟩
  · obtain ⟨m₀, ⟨oL, es, ep, n1, r⟩, n2⟩ := F.ns
    exact ⟨m₀, ⟨oL, es, ep, hs _ _ (Ne.symm H.2.1) n1, r⟩, n2⟩
  · subst z; rw [H.2.2] at q; cases q
  · have P := F.ow p (.tail _ hp)
    refine ⟨hs _ _ (fun z => ?_) P.1, P.2⟩
    have hm : p.1 ∈ own.map (·.1) := List.mem_map_of_mem hp
    rw [z] at hm
    exact (List.nodup_cons.mp F.nd).1 hm
theorem Fx.up (F : Fx g L h m (mine ++ (a, o) :: rest)) : Fx g L h m ((a, o) :: (mine ++ rest)) := F.perm List.perm_middle
theorem Fx.down (F : Fx g L h m ((a, o) :: (mine ++ rest))) : Fx g L h m (mine ++ (a, o) :: rest) := F.perm List.perm_middle.symm
end

/-- what hands out n things; g holds what it reads -/
structure Itr (w : World) (g : Heap) (I : Addr) (n : Nat) (P : Nat → Value → Prop) (St : Nat → Heap → Prop) : Prop where
  item : ∀ (A : Around) i (s : Shared) (Q : Option Value → Shared → Prop) (E : Value → Shared → Prop), A.handled = none → i < n → St i s.heap →
    (∀ v h' tk, P i v → St (i + 1) h' → (∀ b o, b ≠ I → s.heap.get? b = some o → h'.get? b = some o) → Q (some v) { s with heap := h', toks := tk }) → wpAny (Mo w) A (pyNext (.ref I)) Q E s
  done : ∀ (A : Around) (s : Shared) (Q : Option Value → Shared → Prop) (E : Value → Shared → Prop), A.handled = none → St n s.heap →
    (∀ h' tk, (∀ b o, b ≠ I → s.heap.get? b = some o → h'.get? b = some o) → Q none { s with heap := h', toks := tk }) → wpAny (Mo w) A (pyNext (.ref I)) Q E s
  self : ∀ (A : Around) i (s : Shared) (Q : Value → Shared → Prop) (E : Value → Shared → Prop), A.handled = none → St i s.heap → Q (.ref I) s → wpAny (Mo w) A (pyIter (.ref I)) Q E s
  frame : ∀ i h h', St i h → Sub g h → Sub g h' → (∀ o, h.get? I = some o → h'.get? I = some o) → St i h'
  obj : ∀ i h, St i h → ∃ o, h.get? I = some o
theorem Itr.of {w : World} {g : Heap} {I : Addr} {fp : List Addr} {n : Nat} {P : Nat → Value → Prop} {St : Nat → Heap → Prop} (W : ∀ A : Around, A.handled = none → Walks PG w A I fp [I] n P St)
    (hfp : ∀ b ∈ fp, b = I ∨ ∃ o, g.get? b = some o) (hob : ∀ i h, St i h → ∃ o, h.get? I = some o) (hA : ∃ A : Around, A.handled = none) : Itr w g I n P St where
  item := fun A i s Q E hh hi st hQ => (W A hh).item i s Q E hi st fun v h' tk hP hs hk => hQ v h' tk hP hs fun b o hb e => hk b o (by simpa using hb) e
  done := fun A s Q E hh st hQ => (W A hh).done s Q E st fun h' tk hk => hQ h' tk fun b o hb e => hk b o (by simpa using hb) e
  self := fun A i s Q E hh st hQ => (W A hh).self i s Q E st hQ
  frame := fun i h h' st hg hg' hI => (W hA.choose hA.choose_spec).frame i h h' st fun b hb o e => by
    rcases hfp b hb with rfl | ⟨o', e'⟩
    · exact hI o e
    · rw [hg _ _ e'] at e; cases e; exact hg' _ _ e'
  obj := hob
theorem Itr.mono {w : World} {g g' : Heap} {I : Addr} {n : Nat} {P : Nat → Value → Prop} {St : Nat → Heap → Prop} (W : Itr w g I n P St) (hs : Sub g g') : Itr w g' I n P St :=
  ⟨W.item, W.done, W.self, fun i h h' st a b c => W.frame i h h' st (hs.trans a) (hs.trans b) c, W.obj⟩

/-- the target's own step ahead of the store -/
def GoOk (w : World) (target : Expr) (I : Addr) (St : Nat → Heap → Prop) : Prop := ∀ (A : Around) i v (s : Shared) (Q : Unit → Shared → Prop) (E : Value → Shared → Prop), St i s.heap → Q () s → wpAny (Mo w) A (letOwnedTupleGo target (.ref I) v) Q E s
theorem goOk_name {w : World} {x : Str} {p : Pos} {I : Addr} {St : Nat → Heap → Prop} : GoOk w (.Name x p) I St := fun _ _ _ _ _ _ _ hq => wpAny_pure hq

def LoopEnd (s : Shared) (g : Heap) (L : Addr) (I : Addr) (oI : Obj) (rest : Own) (J : Heap → List (Str × Value) → Own → Prop) (s₃ : Shared) : Prop :=
  ∃ g' l' mine' h' tk', s₃ = { s with heap := h', toks := tk' } ∧ Sub g g' ∧ J g' l' mine' ∧ Fx g' L h' (mp l') (mine' ++ (I, oI) :: rest)
theorem LoopEnd.of {s : Shared} {g : Heap} {L I : Addr} {oI : Obj} {rest : Own} {J : Heap → List (Str × Value) → Own → Prop} {l' : List (Str × Value)} {h' : Heap} {tk' : Nat} (g' : Heap) (mine' : Own) (a : Sub g g') (b : J g' l' mine') (c : Fx g' L h' (mp l') (mine' ++ (I, oI) :: rest)) :
    LoopEnd s g L I oI rest J { s with heap := h', toks := tk' } := ⟨g', l', mine', h', tk', rfl, a, b, c⟩
section
variable {w : World} {A : Around} {E : Value → Shared → Prop} {s : Shared} {env : Env} {g : Heap} {L : Addr} {rest mine : Own} {l : List (Str × Value)}

theorem r_forLoop {target : Expr} {body : List Stmt} {I : Addr} {oI : Obj} {n d : Nat} {P : Nat → Value → Prop} {St : Nat → Heap → Prop} {Q : Flow → Shared → Prop} (R : Rm A d) (W : Itr w g I n P St) (hgo : GoOk w target I St) (J : Nat → Heap → List (Str × Value) → Own → Prop)
    (h0 : J 0 g l mine) (F : Fx g L s.heap (mp l) (mine ++ (I, oI) :: rest)) (hst : St 0 s.heap)
    (turn : ∀ i v g' l' mine' h' tk oI', i < n → P i v → Sub g g' → J i g' l' mine' → Fx g' L h' (mp l') (mine' ++ (I, oI') :: rest) →
      wpAny (Mo w) A (assign target env v) (fun _ s₂ => wpAny (Mo w) A (execs body env) (fun f s₃ => match f with
        | .next | .cont => LoopEnd s g' L I oI' rest (J (i + 1)) s₃
        | .brk => Q .next s₃
        | .ret v => Q (.ret v) s₃) (fun _ _ => False) s₂) (fun _ _ => False) { s with heap := h', toks := tk })
    (done : ∀ g' l' mine' h' tk, Sub g g' → J n g' l' mine' → Fx g' L h' (mp l') (mine' ++ rest) → Q .next { s with heap := h', toks := tk }) :
    codeAny (Mo w) A (.forLoop target (.ref I) body [] env) (fun r s' => match r with | .ok f => Q f s' | .error e => cameBackBy (Mo w) A env (fun _ _ => False) e s') s := by
  refine codeAny_forLoop_any (fun k s' => ∃ i g' l' mine' h' tk oI', k = n - i ∧ i ≤ n ∧ s' = { s with heap := h', toks := tk } ∧ Sub g g' ∧ J i g' l' mine' ∧ Fx g' L h' (mp l') (mine' ++ (I, oI') :: rest) ∧ St i h') ?_ n
    ⟨0, g, l, mine, s.heap, s.toks, oI, rfl, Nat.zero_le _, rfl, .refl g, h0, F, hst⟩
  rintro k s' ⟨i, g', l', mine', h', tk, oI', rfl, hi, rfl, hg, hJ, F', st⟩
  by_cases hlt : i < n
  · refine W.item A i _ _ _ R.handled hlt st fun v h₁ tk₁ hP st₁ hk => ?_
    obtain ⟨o₁, ho₁⟩ := W.obj _ _ st₁
    have F₁ := (F'.up.updX hk ho₁).down
    refine wpAny_mono (E := fun _ _ => False) (hgo A (i + 1) v _ _ _ st₁ (wpAny_mono (turn i v g' l' mine' h₁ tk₁ o₁ hlt hP hg hJ F₁) (fun _ s₂ h₂ => wpAny_mono h₂ (fun f s₃ h₃ => ?_) fun _ _ x => x.elim) fun _ _ x => x)) (fun _ _ q => wpAny_mono q (fun _ _ z => z) fun _ _ x => x.elim) fun _ _ x => x.elim
    have fin : LoopEnd s g' L I o₁ rest (J (i + 1)) s₃ → ∃ m, m < n - i ∧ ∃ i g' l' mine' h' tk oI', m = n - i ∧ i ≤ n ∧ s₃ = { s with heap := h', toks := tk } ∧ Sub g g' ∧ J i g' l' mine' ∧ Fx g' L h' (mp l') (mine' ++ (I, oI') :: rest) ∧ St i h' := by
      rintro ⟨g₂, l₂, mine₂, h₂, tk₂, rfl, hg₂, hJ₂, F₂⟩
      refine ⟨n - (i + 1), by lia, i + 1, g₂, l₂, mine₂, h₂, tk₂, o₁, rfl, hlt, rfl, hg.trans hg₂, hJ₂, F₂, ?_⟩
      refine W.frame _ _ _ st₁ (hg.trans F₁.keep) ((hg.trans hg₂).trans F₂.keep) fun o e => ?_
      rw [ho₁] at e; cases e
      exact F₂.up.head
    cases f with
    | next => exact fin h₃
    | cont => exact fin h₃
    | brk => exact h₃
    | ret v => exact h₃
  · have e : i = n := by lia
    subst e
    refine W.done A _ _ _ R.handled st fun h₁ tk₁ hk => ?_
    exact wpAny_execs_nil (done g' l' mine' h₁ tk₁ hg hJ (F'.up.dropX hk))
end
/-! iterators and list comprehensions -/
def IsFrame (o : Obj) (m : Str → Option Value) : Prop := ∀ (h : Heap) (L : Addr), h.get? L = some o → NsP h L m
section
variable {g g' h h' : Heap} {L C : Addr} {m m' : Str → Option Value} {own X : Own} {a : Addr} {o oL : Obj}
theorem Fx.frameObj (F : Fx g L h m own) : ∃ oL, h.get? L = some oL ∧ IsFrame oL m := by
  obtain ⟨m₀, ⟨oL, es, ep, hL, r⟩, hm⟩ := F.ns
  exact ⟨oL, hL, fun h L e => ⟨m₀, ⟨oL, es, ep, e, r⟩, hm⟩⟩
theorem Fx.enterF {L' : Addr} (F : Fx g L h m own) (hs : Sub h h') (hn : NsP h' L' m') (hL : h.get? L' = none) (hg : g.get? L' = none) :
    ∃ oL, IsFrame oL m ∧ Fx g L' h' m' ((L, oL) :: own) := by
  obtain ⟨oL, e, hf⟩ := F.frameObj
  have ne : ∀ b o, h.get? b = some o → b ≠ L' := fun b o e z => by subst z; rw [hL] at e; cases e
  refine ⟨oL, hf, ⟨hn, F.keep.trans hs, hg, fun p hp => ?_, ?_⟩⟩
  · rcases List.mem_cons.mp hp with rfl | hp
    · exact ⟨hs _ _ e, ne _ _ e, F.hid⟩
    · have P := F.ow p hp
      exact ⟨hs _ _ P.1, ne _ _ P.1, P.2.2⟩
  · rw [List.map_cons]
    refine List.nodup_cons.mpr ⟨fun hm => ?_, F.nd⟩
    obtain ⟨p, hp, e⟩ := List.mem_map.mp hm
    exact (F.ow p hp).2.1 e
theorem Fx.flip (hf : IsFrame oL m) (F : Fx g C h m' ((L, oL) :: X)) : ∃ oC, IsFrame oC m' ∧ Fx g L h m ((C, oC) :: X) := by
  obtain ⟨oC, eC, hC⟩ := F.frameObj
  have P := F.ow _ (.head _)
  refine ⟨oC, hC, ⟨hf _ _ P.1, F.keep, P.2.2, fun p hp => ?_, ?_⟩⟩
  · rcases List.mem_cons.mp hp with rfl | hp
    · exact ⟨eC, Ne.symm P.2.1, F.hid⟩
    · have Q := F.ow p (.tail _ hp)
      refine ⟨Q.1, fun z => ?_, Q.2.2⟩
      have hm : p.1 ∈ X.map (·.1) := List.mem_map_of_mem hp
      rw [z] at hm
      exact (List.nodup_cons.mp F.nd).1 hm
  · rw [List.map_cons]
    refine List.nodup_cons.mpr ⟨fun hm => ?_, (List.nodup_cons.mp F.nd).2⟩
    obtain ⟨p, hp, e⟩ := List.mem_map.mp hm
    exact (F.ow p (.tail _ hp)).2.1 e
end

section
variable {w : World} {A : Around} {E : Value → Shared → Prop} {s : Shared} {env : Env} {g : Heap} {L : Addr} {own : Own} {l : List (Str × Value)} {m : Str → Option Value}
theorem anyA : ∃ A : Around, A.handled = none := ⟨{}, rfl⟩
theorem r_iter_list {a : Addr} {vs : List Value} {n : Nat} {Q : Value → Shared → Prop} (F : Fx g L s.heap m own) (ha : g.get? a = some (lst vs n))
    (h : ∀ I oI St h', Itr w g I vs.length (fun i v => vs[i]? = some v) St → (∀ es k p, GoOk w (.Tuple es k p) I St) → St 0 h' → Fx g L h' m ((I, oI) :: own) → Q (.ref I) { s with heap := h' }) :
    wpAny (Mo w) A (pyIter (.ref a)) Q E s := by
  have hl : s.heap.IsList a vs.toArray := ⟨_, F.keep _ _ ha, rfl, n, rfl⟩
  have hne : a ≠ s.heap.objs.size := Nat.ne_of_lt (F.glt ha)
  refine wpAny_pyIter_list hl (h _ _ (fun i h => h.IsListIter s.heap.objs.size a i ∧ h.IsList a vs.toArray) _ ?_ ?_ ⟨⟨_, Heap.get?_push_size _ rfl, rfl, rfl⟩, hl.at fun o e => Heap.get?_push_of_some _ e⟩ (F.pushOwn _))
  · have := Itr.of (w := w) (g := g) (fun A hh => Walks.list (prog := PG) (w := w) (A := A) hh s.heap.objs.size a hne vs.toArray) (fun b hb => ?_) (fun i h st => by obtain ⟨o, e, _⟩ := st.1; exact ⟨o, e⟩) anyA
    · simpa using this
    · rcases List.mem_cons.mp hb with e | hb
      · exact .inl e
      · exact .inr ⟨_, by rw [List.mem_singleton.mp hb]; exact ha⟩
  · intro es k p A i v s Q E st hq
    cases v with
    | ref T => exact wpAny_letOwnedTupleGo_listiter st.1 hq
    | _ => exact wpAny_pure hq
theorem r_iter_str {t : List Nat} {u : Tok} {Q : Value → Shared → Prop} (F : Fx g L s.heap m own)
    (h : ∀ I oI St h', Itr w g I t.length (fun i v => ∃ c k, t[i]? = some c ∧ v = .str (S [c]) k) St → St 0 h' → Fx g L h' m ((I, oI) :: own) → Q (.ref I) { s with heap := h' }) :
    wpAny (Mo w) A (pyIter (.str (S t) u)) Q E s := by
  have key : ∀ (ty : String), (∀ A : Around, A.handled = none → Walks PG w A s.heap.objs.size [s.heap.objs.size] [s.heap.objs.size] (S t).cps.size (SignAt (S t)) (fun i h => h.IsStrIter s.heap.objs.size ty (S t) u i)) →
      Q (.ref s.heap.objs.size) { s with heap := s.heap.push { cls := .type ty, data := .fields #[.str (S t) u, .int 0 0] } } := by
    intro ty W
    refine h _ _ (fun i h => h.IsStrIter s.heap.objs.size ty (S t) u i) _ ?_ ⟨_, Heap.get?_push_size _ rfl, rfl, rfl⟩ (F.pushOwn _)
    have I := Itr.of (w := w) (g := g) W (fun b hb => .inl (List.mem_singleton.mp hb)) (fun i h st => by obtain ⟨o, e, _⟩ := st; exact ⟨o, e⟩) anyA
    have hz : (S t).cps.size = t.length := S_len t
    rw [hz] at I
    refine ⟨fun A i s Q E hh hi st hQ => I.item A i s Q E hh hi st fun v h' tk hP => hQ v h' tk ?_, I.done, I.self, I.frame, I.obj⟩
    obtain ⟨c, k, hc, rfl⟩ := hP
    refine ⟨c, k, ?_, rfl⟩
    have : (t.toArray)[i]? = some c := hc
    simpa using this
  cases ha : (S t).cps.all (· < 128)
  · exact wpAny_pyIter_wide ha (key _ fun A hA => Walks.strWide hA _ _ _)
  · exact wpAny_pyIter_ascii ha (key _ fun A hA => Walks.strAscii hA _ _ _)
abbrev rng (a b : Int) (t u v : Tok) : Obj := { cls := .type "range", data := .fields #[.int a t, .int b u, .int 1 v] }
theorem r_range1 {b : Int} {u : Tok} {Q : Value → Shared → Prop} (F : Fx g L s.heap m own) (h : ∀ r t v h' tk, Fx g L h' m ((r, rng 0 b t u v) :: own) → Q (.ref r) { s with heap := h', toks := tk }) :
    wpAny (Mo w) A (call (.type "range") [.int b u]) Q E s := call_range_1 (h _ _ _ _ _ (F.pushOwn _))
theorem r_range2 {a b : Int} {t u : Tok} {Q : Value → Shared → Prop} (F : Fx g L s.heap m own) (h : ∀ r v h' tk, Fx g L h' m ((r, rng a b t u v) :: own) → Q (.ref r) { s with heap := h', toks := tk }) :
    wpAny (Mo w) A (call (.type "range") [.int a t, .int b u]) Q E s := call_range_2 (h _ _ _ _ (F.pushOwn _))
theorem r_iter_range {r : Addr} {a b : Int} {t u v : Tok} {Q : Value → Shared → Prop} (F : Fx g L s.heap m ((r, rng a b t u v) :: own)) (ha : -1000 ≤ a) (ha' : a ≤ 1000) (hb : -1000 ≤ b) (hb' : b ≤ 1000)
    (h : ∀ I oI St h', Itr w g I (b - a).toNat (fun i v => ∃ k, v = .int (a + i) k) St → St 0 h' → Fx g L h' m ((I, oI) :: own) → Q (.ref I) { s with heap := h' }) :
    wpAny (Mo w) A (pyIter (.ref r)) Q E s := by
  have hz : Builtin.Range.rangeSize a b 1 = ((b - a).toNat : Int) := by rw [rangeSize_one]; split <;> lia
  refine wpAny_pyIter_range (t := t) (u := u) (v := v) F.head (small_one (by lia) (by lia) (by lia) (by lia)) ?_
  refine h _ _ (fun i h => IsRangeIter h s.heap.objs.size (a + (i : Nat) * 1) (((b - a).toNat : Int) - (i : Nat)) 1) _ ?_ ?_ (F.drop.pushOwn _)
  · have I := Itr.of (w := w) (g := g) (fun A hh => Walks.range (prog := PG) (w := w) (A := A) hh s.heap.objs.size a 1 (b - a).toNat) (fun b hb => .inl (List.mem_singleton.mp hb)) (fun i h st => ⟨_, st⟩) anyA
    refine ⟨fun A i s Q E hh hi st hQ => I.item A i s Q E hh hi st fun v h' tk hP => hQ v h' tk ?_, I.done, I.self, I.frame, I.obj⟩
    obtain ⟨k, rfl⟩ := hP
    exact ⟨k, by rw [Int.mul_one]⟩
  · show IsRangeIter _ _ _ _ _
    rw [hz]
    simpa using Heap.get?_push_size _ rfl
end

section
variable {w : World} {A : Around} {R : Result → Shared → Prop} {s : Shared}
theorem codeAny_compLoop_go {elt target iter : Expr} {ifs : List Expr} {scope : Scope} {pos : Pos} {it acc : Value} {env : Env} (I : Nat → Shared → Prop)
    (turn : ∀ n s, I n s → wpAny (Mo w) A (pyNext it) (fun r s₁ => match r with
      | none => R (.ok .next) s₁
      | some v => wpAny (Mo w) A (letOwnedTupleGo target it v) (fun _ s₁' => wpAny (Mo w) A (assign target env v) (fun _ s₂ =>
          wpAny (Mo w) A (forIn ifs true fun c r => if r = true then do let ok ← isTrue c env (eval c env); pure (ForInStep.yield ok) else pure (ForInStep.yield r)) (fun ok s₃ =>
            if ok = true then wpAny (Mo w) A (eval elt env) (fun x s₄ =>
              wpAny (Mo w) A (call (.builtin "list.append") [acc, x]) (fun _ s₅ => ∃ m, m < n ∧ I m s₅) (fun _ _ => False) s₄) (fun _ _ => False) s₃
            else ∃ m, m < n ∧ I m s₃) (fun _ _ => False) s₂) (fun _ _ => False) s₁') (fun _ _ => False) s₁) (fun _ _ => False) s)
    (n : Nat) (h : I n s) :
    codeAny (Mo w) A (.compLoop (.ListComp elt [⟨target, iter, ifs, 0⟩] scope pos) 0 it acc env) R s := by
  refine codeAny_loop rfl I (fun n s hI => ?_) n h
  show wpAny _ A ((compTurn (.ListComp elt [⟨target, iter, ifs, 0⟩] scope pos) 0 it acc env).onRaise (fun x => do noteFrame x env; theTreesLotGoes x)) _ _ s
  refine wpAny_noted ?_
  rw [compTurn_list]
  refine wpAny_bind (wpAny_standAt (wpAny_bind (wpAny_mono (turn n s hI) (fun r s₁ h₁ => ?_) fun _ _ h' => h'.elim)))
  cases r with
  | none => exact wpAny_pure h₁
  | some v =>
    refine wpAny_bind (wpAny_mono h₁ (fun _ s₁' h₁' => ?_) fun _ _ h' => h'.elim)
    refine wpAny_bind (wpAny_mono h₁' (fun _ s₂ h₂ => wpAny_bind (wpAny_mono h₂ (fun ok s₃ h₃ => ?_) fun _ _ h' => h'.elim)) fun _ _ h' => h'.elim)
    cases ok with
    | false => exact wpAny_pure ⟨rfl, h₃⟩
    | true =>
      exact wpAny_bind (wpAny_bind (wpAny_mono h₃ (fun x s₄ h₄ => wpAny_bind (wpAny_mono h₄ (fun _ s₅ h₅ => wpAny_pure (wpAny_pure ⟨rfl, h₅⟩)) fun _ _ h' => h'.elim)) fun _ _ h' => h'.elim))
end
def CompEnd (s : Shared) (g : Heap) (C : Addr) (X : Own) (J : Heap → List Value → Own → Prop) (ys : List Value) (s₄ : Shared) : Prop :=
  ∃ g' mine' h' tk', s₄ = { s with heap := h', toks := tk' } ∧ Sub g g' ∧ J g' ys mine' ∧ Fx g' C h' (mp []) (mine' ++ X)
theorem CompEnd.of {s : Shared} {g : Heap} {C : Addr} {X : Own} {J : Heap → List Value → Own → Prop} {ys : List Value} {h' : Heap} {tk' : Nat} (g' : Heap) (mine' : Own) (a : Sub g g') (b : J g' ys mine') (c : Fx g' C h' (mp []) (mine' ++ X)) :
    CompEnd s g C X J ys { s with heap := h', toks := tk' } := ⟨g', mine', h', tk', rfl, a, b, c⟩
section
variable {w : World} {A : Around} {E : Value → Shared → Prop} {s : Shared} {env : Env} {g : Heap} {L : Addr} {rest mine : Own} {l : List (Str × Value)} {m : Str → Option Value}
abbrev tests (w : World) (A : Around) (ifs : List Expr) (env : Env) (Q : Bool → Shared → Prop) (s : Shared) : Prop :=
  wpAny (Mo w) A (forIn ifs true fun c r => if r = true then do let ok ← isTrue c env (eval c env); pure (ForInStep.yield ok) else pure (ForInStep.yield r)) Q (fun _ _ => False) s

theorem r_comp_block {elt target iter : Expr} {ifs : List Expr} {scope : Scope} {pos : Pos} {cl : List (Str × Addr)} {I : Addr} {oI : Obj} {n d : Nat} {P : Nat → Value → Prop} {St : Nat → Heap → Prop} {RR : Value → Addr → Result → Shared → Prop}
    (R : Rm A d) (W : Itr w g I n P St) (hgo : GoOk w target I St) (hn : n ≤ 900) (J : Nat → Heap → List Value → Own → Prop) (h0 : J 0 g [] mine) (hJ : ∀ i g ys mine, J i g ys mine → ys.length ≤ i)
    (F : Fx g L s.heap m (mine ++ (I, oI) :: rest)) (hst : St 0 s.heap) (hcell : ∀ y ∈ scope.names, y.2 ≠ .cell) (hkind : scope.kind = .function)
    (turn : ∀ i v g' ys e mine' h' tk oI' D C oL, i < n → P i v → Sub g g' → J i g' ys mine' → Fx g' C h' (mp []) (mine' ++ (D, lst ys e) :: (I, oI') :: (L, oL) :: rest) →
      wpAny (Mo w) A (assign target (compEnvC scope cl C env) v) (fun _ s₂ => tests w A ifs (compEnvC scope cl C env) (fun ok s₃ =>
        if ok = true then wpAny (Mo w) A (eval elt (compEnvC scope cl C env)) (fun y s₄ => CompEnd s g' C ((D, lst ys e) :: (I, oI') :: (L, oL) :: rest) (fun g'' zs mine'' => zs = ys ∧ J (i + 1) g'' (ys ++ [y]) mine'') ys s₄) (fun _ _ => False) s₃
        else CompEnd s g' C ((D, lst ys e) :: (I, oI') :: (L, oL) :: rest) (J (i + 1)) ys s₃) s₂) (fun _ _ => False) { s with heap := h', toks := tk })
    (done : ∀ g' ys e mine' h' tk D C oL m', Sub g g' → J n g' ys mine' → IsFrame oL m → Fx g' C h' m' ((L, oL) :: (D, lst ys e) :: (mine' ++ rest)) → RR (.ref D) C (.ok .next) { s with heap := h', toks := tk }) :
    wpAny (Mo w) A (newList []) (fun acc s₃ => wpAny (Mo w) A (newFunctionEnv scope env.globals cl [] env.qual none .none (some env)) (fun cenv s₄ =>
      codeAny (Mo w) A (.compStart (.ListComp elt [⟨target, iter, ifs, 0⟩] scope pos) 0 (.ref I) acc { cenv with scope := relabel scope env }) (RR acc cenv.locals) s₄) E s₃) E s := by
  refine r_newList F (by simp) fun D h₁ F₁ => ?_
  refine wpAny_newFunctionEnv hcell (by intro y hy; simp at hy) (fun h₂ hns hsb => ?_) hkind
  dsimp only at hns hsb ⊢
  have hs₂ : Sub h₁ h₂ := fun b o e => hsb.extBut b o (Nat.ne_of_lt (Heap.lt_size e)) (Heap.get?_push_of_some _ e)
  have hfr : h₁.get? h₁.objs.size = none := by
    cases q : h₁.get? h₁.objs.size with
    | none => rfl
    | some o => exact absurd (Heap.lt_size q) (Nat.lt_irrefl _)
  obtain ⟨oL, hfL, F₂⟩ := F₁.enterF hs₂ (NsP.of hns) hfr F₁.new
  have F₃ : Fx g h₁.objs.size h₂ (mp []) (mine ++ (D, lst [] 0) :: (I, oI) :: (L, oL) :: rest) := by
    refine (F₂.weak (m' := mp []) (fun x v e => by cases e)).perm ?_
    refine (List.Perm.swap _ _ _).trans ?_
    refine List.Perm.trans ?_ List.perm_middle.symm
    refine List.Perm.cons _ ?_
    refine List.Perm.trans ?_ List.perm_middle.symm
    refine (List.Perm.cons _ List.perm_middle).trans ?_
    refine (List.Perm.swap _ _ _).trans (List.Perm.cons _ List.perm_middle.symm)
  obtain ⟨oI0, hI0⟩ := W.obj _ _ hst
  have hst₂ : St 0 h₂ := by
    refine W.frame _ _ _ hst F.keep F₃.keep fun o e => ?_
    rw [F.up.head] at e; cases e
    exact F₃.at (List.mem_append_right _ (.tail _ (.head _)))
  have loop : ∀ s₃ : Shared, s₃ = { s with heap := h₂, toks := s.toks + ([] : List (Str × Value)).length } →
      codeAny (Mo w) A (.compLoop (.ListComp elt [⟨target, iter, ifs, 0⟩] scope pos) 0 (.ref I) (.ref D) (compEnvC scope cl h₁.objs.size env)) (RR (.ref D) h₁.objs.size) s₃ := by
    rintro s₃ rfl
    refine codeAny_compLoop_go (fun k s' => ∃ i g' ys e mine' h' tk oI', k = n - i ∧ i ≤ n ∧ s' = { s with heap := h', toks := tk } ∧ Sub g g' ∧ J i g' ys mine' ∧
      Fx g' h₁.objs.size h' (mp []) (mine' ++ (D, lst ys e) :: (I, oI') :: (L, oL) :: rest) ∧ St i h') ?_ n ⟨0, g, [], 0, mine, h₂, _, oI, rfl, Nat.zero_le _, rfl, .refl g, h0, F₃, hst₂⟩
    rintro k s' ⟨i, g', ys, e, mine', h', tk, oI', rfl, hi, rfl, hg, hJi, F', st⟩
    have mid : ∀ {own : Own} {h' g' C ys e oI'}, Fx g' C h' (mp []) (own ++ (D, lst ys e) :: (I, oI') :: (L, oL) :: rest) → Fx g' C h' (mp []) ((I, oI') :: (own ++ (D, lst ys e) :: (L, oL) :: rest)) := fun {own h' g' C ys e oI'} F =>
      F.perm ((List.Perm.append_left _ (List.Perm.swap _ _ _)).trans List.perm_middle)
    have mid' : ∀ {own : Own} {h' g' C ys e oI'}, Fx g' C h' (mp []) ((I, oI') :: (own ++ (D, lst ys e) :: (L, oL) :: rest)) → Fx g' C h' (mp []) (own ++ (D, lst ys e) :: (I, oI') :: (L, oL) :: rest) := fun {own h' g' C ys e oI'} F =>
      F.perm ((List.Perm.append_left _ (List.Perm.swap _ _ _)).trans List.perm_middle).symm
    by_cases hlt : i < n
    · refine W.item A i _ _ _ R.handled hlt st fun v h₃ tk₃ hP st₃ hk => ?_
      obtain ⟨o₃, ho₃⟩ := W.obj _ _ st₃
      have F₃ := mid' ((mid F').updX hk ho₃)
      refine hgo A (i + 1) v _ _ _ st₃ (wpAny_mono (turn i v g' ys e mine' h₃ tk₃ o₃ D _ oL hlt hP hg hJi F₃) (fun _ s₂ h₂ => wpAny_mono h₂ (fun ok s₃ h₃ => ?_) fun _ _ x => x) fun _ _ x => x)
      have up : ∀ {g₂ h₄ ys' e' mine₂}, Sub g g₂ → Fx g₂ h₁.objs.size h₄ (mp []) (mine₂ ++ (D, lst ys' e') :: (I, o₃) :: (L, oL) :: rest) → St (i + 1) h₄ := fun {g₂ h₄ ys' e' mine₂} hg₂ F₂ => by
        refine W.frame _ _ _ st₃ (hg.trans F₃.keep) (hg₂.trans F₂.keep) fun o e => ?_
        rw [ho₃] at e; cases e
        exact (mid F₂).head
      cases ok with
      | false =>
        simp only [Bool.false_eq_true, if_false] at h₃ ⊢
        obtain ⟨g₂, mine₂, h₄, tk₄, rfl, hg₂, hJ₂, F₂⟩ := h₃
        exact ⟨n - (i + 1), by lia, i + 1, g₂, ys, e, mine₂, h₄, tk₄, o₃, rfl, hlt, rfl, hg.trans hg₂, hJ₂, F₂, up (hg.trans hg₂) F₂⟩
      | true =>
        simp only [if_true] at h₃ ⊢
        refine wpAny_mono h₃ (fun y s₄ h₄ => ?_) fun _ _ x => x
        obtain ⟨g₂, mine₂, h₄, tk₄, rfl, hg₂, ⟨_, hJ₂⟩, F₂⟩ := h₄
        have hlen := hJ _ _ _ _ hJi
        refine r_append F₂.up (by lia) fun h₅ F₅ => ?_
        have F₆ := F₅.down
        exact ⟨n - (i + 1), by lia, i + 1, g₂, ys ++ [y], e + 1, mine₂, h₅, tk₄, o₃, rfl, hlt, rfl, hg.trans hg₂, hJ₂, F₆, up (hg.trans hg₂) F₆⟩
    · have e : i = n := by lia
      subst e
      refine W.done A _ _ _ R.handled st fun h₃ tk₃ hk => ?_
      have F₃ := (mid F').dropX hk
      refine done g' ys e mine' h₃ tk₃ D _ oL _ hg hJi hfL (F₃.perm ?_)
      refine (List.Perm.append_left _ (List.Perm.swap _ _ _)).trans ?_
      exact List.perm_middle.trans (List.Perm.cons _ List.perm_middle)
  exact codeAny_compStart_list (loop _ rfl) (W.self A 0 _ _ _ R.handled hst₂ (loop _ rfl))

/-- a list comprehension's value -/
theorem r_comp {elt target iter : Expr} {ifs : List Expr} {scope : Scope} {pos : Pos} {cl : List (Str × Addr)} {Q : Value → Shared → Prop}
    (h : wpAny (Mo w) A (eval iter env) (fun xv s₁ => wpAny (Mo w) A (pyIter xv) (fun it s₂ => ∃ I, it = .ref I ∧
      wpAny (Mo w) A (newList []) (fun acc s₃ => wpAny (Mo w) A (newFunctionEnv scope env.globals cl [] env.qual none .none (some env)) (fun cenv s₄ =>
        codeAny (Mo w) A (.compStart (.ListComp elt [⟨target, iter, ifs, 0⟩] scope pos) 0 (.ref I) acc { cenv with scope := relabel scope env }) (compPost (Mo w) A E none Q acc cenv.locals) s₄) E s₃) E s₂) E s₁) E s)
    (hclos : closureFor scope env = pure cl) (hkind : scope.kind = .function) (hnames : ∀ y ∈ scope.names, y.2 = .local → scope.names.lookup y.1 = some .local)
    (hs : ∀ x, foldedSetIterable iter env x = pure x := by intro _; rfl) :
    wpAny (Mo w) A (eval (.ListComp elt [⟨target, iter, ifs, 0⟩] scope pos) env) Q E s := by
  rw [eval_ListComp]
  refine wpAny_comprehension_free (use := none) rfl hs hclos hkind hnames (wpAny_mono h (fun xv s₁ h₁ => wpAny_mono h₁ (fun it s₂ h₂ => ?_) fun _ _ e => e) fun _ _ e => e)
  obtain ⟨I, rfl, h₂⟩ := h₂
  exact h₂
/-- a list comprehension that a local name takes -/
theorem r_compA {elt target iter : Expr} {ifs : List Expr} {scope : Scope} {pos spos py : Pos} {y : Str} {cl : List (Str × Addr)} {Q : Flow → Shared → Prop}
    (h : wpAny (Mo w) A (eval iter env) (fun xv s₁ => wpAny (Mo w) A (pyIter xv) (fun it s₂ => ∃ I, it = .ref I ∧
      wpAny (Mo w) A (newList []) (fun acc s₃ => wpAny (Mo w) A (newFunctionEnv scope env.globals cl [] env.qual none .none (some env)) (fun cenv s₄ =>
        codeAny (Mo w) A (.compStart (.ListComp elt [⟨target, iter, ifs, 0⟩] scope pos) 0 (.ref I) acc { cenv with scope := relabel scope env }) (compPost (Mo w) A E (some (assign (.Name y py) env)) (fun _ s' => Q .next s') acc cenv.locals) s₄) E s₃) E s₂) E s₁) E s)
    (hsw : swapsWith (.ListComp elt [⟨target, iter, ifs, 0⟩] scope pos) (some (.Name y py)) spos.line env = pure true)
    (hclos : closureFor scope env = pure cl) (hkind : scope.kind = .function) (hnames : ∀ y ∈ scope.names, y.2 = .local → scope.names.lookup y.1 = some .local)
    (hs : ∀ x, foldedSetIterable iter env x = pure x := by intro _; rfl) :
    wpAny (Mo w) A (exec (.Assign [.Name y py] (.ListComp elt [⟨target, iter, ifs, 0⟩] scope pos) spos) env) Q E s := by
  rw [exec_Assign_Name_used _ _ _ _ hsw]
  refine wpAny_bind (wpAny_standAt (wpAny_bind ?_))
  show wpAny _ A (do let _ ← comprehension (.ListComp elt [⟨target, iter, ifs, 0⟩] scope pos) scope env _ (newList []) false (eval iter env) (some (assign (.Name y py) env))) _ _ s
  refine wpAny_bind (wpAny_mono (wpAny_comprehension_free (use := some (assign (.Name y py) env)) (Q := fun _ s' => Q .next s') rfl hs hclos hkind hnames
    (wpAny_mono h (fun xv s₁ h₁ => wpAny_mono h₁ (fun it s₂ h₂ => ?_) fun _ _ e => e) fun _ _ e => e)) (fun _ s' hq => wpAny_pure (wpAny_pure hq)) fun _ _ e => e)
  obtain ⟨I, rfl, h₂⟩ := h₂
  exact h₂
theorem compPost_none {Q : Value → Shared → Prop} {D C : Addr} {oL : Obj} {m' : Str → Option Value} {h' : Heap} {tk : Nat} {X : Own} (hf : IsFrame oL m) (F : Fx g C h' m' ((L, oL) :: X))
    (k : ∀ h'', Fx g L h'' m X → Q (.ref D) { s with heap := h'', toks := tk }) : compPost (Mo w) A E none Q (.ref D) C (.ok .next) { s with heap := h', toks := tk } := by
  obtain ⟨oC, hfC, F'⟩ := F.flip hf
  obtain ⟨m₀, n1, _⟩ := F.ns
  exact ⟨m₀, n1, fun h'' hs => k h'' (F'.dropX fun b o hb e => hs.extBut b o hb e)⟩
theorem compPost_some {Q : Value → Shared → Prop} {D C : Addr} {oL : Obj} {m' : Str → Option Value} {h' : Heap} {tk : Nat} {X : Own} {y : Str} {py : Pos} (hf : IsFrame oL (mp l)) (F : Fx g C h' m' ((L, oL) :: X))
    (k : ∀ h'' tk', Fx g L h'' (mp (put y (.ref D) l)) X → Q .none { s with heap := h'', toks := tk' }) (hL : env.locals = L) (hk : env.scope.kind = .function) (hl : env.kindOf y = some .local) :
    compPost (Mo w) A E (some (assign (.Name y py) env)) Q (.ref D) C (.ok .next) { s with heap := h', toks := tk } := by
  subst hL
  obtain ⟨oC, hfC, F'⟩ := F.flip hf
  show wpAny (Mo w) A (assign (.Name y py) env (.ref D)) _ _ _
  refine wpAny_assign_Name (r_store F' (fun h₂ F₂ => ?_) hk hl)
  obtain ⟨m₀, n1, _⟩ := hfC _ _ F₂.head
  exact ⟨m₀, n1, fun h'' hs => k h'' _ (F₂.dropX fun b o hb e => hs.extBut b o hb e)⟩
end
set_option compiler.extract_closed false in
local macro_rules | `(tactic| walk_at "S") => `(tactic| first
  | ((with_reducible show wpAny _ _ (call (Value.type "range") [Value.int _ _]) _ _ _); refine r_range1 (by assumption) ?_; intro r' t' v' h' tk' F')
  | ((with_reducible show wpAny _ _ (call (Value.type "range") [Value.int _ _, Value.int _ _]) _ _ _); refine r_range2 (by assumption) ?_; intro r' v' h' tk' F')
  | fail "no step"
  )
/-- the reader's state: what is done, the part at hand, a live backslash just read, within a quoted text -/
structure PS where
  res : List (List Nat)
  part : List Nat
  esc : Bool
  quo : Bool
def pstep (p : PS) (c : Nat) : PS :=
  if p.esc then { p with part := p.part ++ [c], esc := false }
  else if p.quo then (if c = 92 then { p with esc := true } else { p with part := p.part ++ [c], quo := !(c == 34) })
  else if c = 44 then { p with res := p.res ++ [p.part], part := [] }
  else { p with part := p.part ++ [c], quo := c == 34 }
def pinit : PS := ⟨[], [], false, false⟩
def prun (t : List Nat) : PS := t.foldl pstep pinit
def pparts (p : PS) : List (List Nat) := if p.part.isEmpty then p.res else p.res ++ [p.part]
def parseF (t : List Nat) : List (List Nat) := (pparts (prun t)).map stripF
theorem prun_snoc (t : List Nat) (c : Nat) : prun (t ++ [c]) = pstep (prun t) c := by simp [prun]
theorem pstep_res (p : PS) (c : Nat) : (pstep p c).res.length ≤ p.res.length + 1 := by
  unfold pstep; split
  · simp
  · split
    · split <;> simp
    · split <;> simp
theorem pstep_part (p : PS) (c : Nat) : (pstep p c).part.length ≤ p.part.length + 1 := by
  unfold pstep; split
  · simp
  · split
    · split <;> simp
    · split <;> simp
theorem pstep_all {n : Nat} (p : PS) (c : Nat) (h : p.part.length ≤ n) (h2 : ∀ x ∈ p.res, x.length ≤ n) : ∀ x ∈ (pstep p c).res, x.length ≤ n := by
  unfold pstep; split
  · exact h2
  · split
    · split <;> exact h2
    · split
      · intro x hx
        rcases List.mem_append.mp hx with hx | hx
        · exact h2 x hx
        · rw [List.mem_singleton.mp hx]; exact h
      · exact h2
theorem prun_bounds (t : List Nat) : ∀ i ≤ t.length, (prun (t.take i)).res.length ≤ i ∧ (prun (t.take i)).part.length ≤ i ∧ ∀ x ∈ (prun (t.take i)).res, x.length ≤ t.length := by
  intro i
  induction i with
  | zero => intro _; simp [prun, pinit]
  | succ i ih =>
    intro hi
    obtain ⟨h1, h2, h3⟩ := ih (by lia)
    obtain ⟨c, hc⟩ := get_at (t := t) (j := i) (by lia)
    rw [List.take_add_one, hc]
    simp only [Option.toList_some, prun_snoc]
    have a := pstep_res (prun (t.take i)) c
    have b := pstep_part (prun (t.take i)) c
    exact ⟨by lia, by lia, pstep_all _ _ (by lia) h3⟩
/-- texts as they lie in a list -/
def StrsR (vs : List Value) (xs : List (List Nat)) : Prop := vs.length = xs.length ∧ ∀ (i : Nat) x v, xs[i]? = some x → vs[i]? = some v → ∃ k, v = .str (S x) k
theorem StrsR.nil : StrsR [] [] := ⟨rfl, fun i x v h _ => by simp at h⟩
theorem StrsR.snoc {vs : List Value} {xs : List (List Nat)} {x : List Nat} {k : Tok} (r : StrsR vs xs) : StrsR (vs ++ [.str (S x) k]) (xs ++ [x]) := by
  refine ⟨by simp [r.1], fun i q u h1 h2 => ?_⟩
  by_cases hi : i < xs.length
  · rw [List.getElem?_append_left hi] at h1
    rw [List.getElem?_append_left (by rw [r.1]; exact hi)] at h2
    exact r.2 i q u h1 h2
  · rw [List.getElem?_append_right (by lia)] at h1
    rw [List.getElem?_append_right (by rw [r.1]; lia), r.1] at h2
    by_cases h0 : i - xs.length = 0
    · rw [h0] at h1 h2
      simp at h1 h2
      subst h1 h2
      exact ⟨k, rfl⟩
    · obtain ⟨j, hj⟩ : ∃ j, i - xs.length = j + 1 := ⟨i - xs.length - 1, by lia⟩
      rw [hj] at h1
      simp at h1

theorem parse_call {w : World} {A : Around} {E : Value → Shared → Prop} {s : Shared} {g : Heap} {L : Addr} {own : Own} {m : Str → Option Value} {Q : Value → Shared → Prop} {d : Nat}
    {t : List Nat} {ut : Tok} (F : Fx g L s.heap m own) (R : Rm A (d + 1)) (W : Wd w g) (hl : t.length ≤ 100)
    (h : ∀ g' a vs n h' tk, Sub g g' → Fx g' L h' m own → g'.get? a = some (lst vs n) → StrsR vs (parseF t) → Q (.ref a) { s with heap := h', toks := tk }) :
    wpAny (Mo w) A (call (.ref 26) [.str (S t) ut]) Q E s := by
  refine r_enter (fd := fdOf w 26) (binds := [(Str.ofString "s", .str (S t) ut)]) F R W (W.K 26 _ rfl) rfl (codeRec_of W.K (by rfl)) rfl (BindsTo.of_eq rfl) (by intro x hx; revert x; exact of_decide_eq_true rfl) (locs rfl) rfl rfl rfl ?_
  intro L' h₁ oL R' F' back
  repeat walk_at "S"
  refine r_iter_str (by assumption) ?_
  intro I oI St h2 it st F2
  have F3 := F2.swap
  refine r_forLoop (mine := [_]) R' it goOk_name (fun i g' l' mine' => ∃ a vs e k, mine' = [(a, lst vs e)] ∧ StrsR vs (prun (t.take i)).res ∧
    l' = [(Str.ofString "s", .str (S t) ut), (Str.ofString "res", .ref a), (Str.ofString "part", .str (S (prun (t.take i)).part) k), (Str.ofString "escape", .bool (prun (t.take i)).esc), (Str.ofString "quote", .bool (prun (t.take i)).quo)]) ?_ F3 st ?_ ?_
  · exact ⟨_, _, _, _, rfl, .nil, rfl⟩
  · rintro i v g' l' mine' h' tk oI' hi ⟨c, kc, hc, rfl⟩ hsub ⟨a, vs, e, k, rfl, hr, rfl⟩ F'
    simp only [List.cons_append, List.nil_append] at F'
    obtain ⟨b1, b2, b3⟩ := prun_bounds t i (by lia)
    have hp : prun (t.take (i + 1)) = pstep (prun (t.take i)) c := by rw [List.take_add_one, hc]; exact prun_snoc _ _
    have hvl : vs.length ≤ 100 := by rw [hr.1]; lia
    clear F F2 F3 h
    simp only [hp]
    generalize prun (t.take i) = p at *
    obtain ⟨res, part, esc, quo⟩ := p
    dsimp only at *
    cases esc with
    | true =>
      repeat walk_at "S"
      rw [if_pos rfl]
      repeat walk_at "S"
      refine (LoopEnd.of g' _ (.refl _) ⟨a, vs, e, _, rfl, hr, rfl⟩ (Fx.take 5 (by assumption)))
    | false =>
      repeat walk_at "S"
      rw [if_neg (by simp)]
      repeat walk_at "S"
      cases quo with
      | true =>
        rw [if_pos rfl]
        repeat walk_at "S"
        by_cases h1 : c = 92
        · rw [if_pos (by simp [h1])]
          repeat walk_at "S"
          have e1 : pstep ⟨res, part, false, true⟩ c = ⟨res, part, true, true⟩ := by simp [pstep, h1]
          simp only [e1]
          refine (LoopEnd.of g' _ (.refl _) ⟨a, vs, e, _, rfl, hr, rfl⟩ (Fx.take 5 (by assumption)))
        · rw [if_neg (by simp [h1])]
          repeat walk_at "S"
          by_cases h2 : c = 34
          · rw [if_pos (by simp [h2])]
            repeat walk_at "S"
            have e1 : pstep ⟨res, part, false, true⟩ c = ⟨res, part ++ [c], false, false⟩ := by simp [pstep, h2]
            simp only [e1]
            refine (LoopEnd.of g' _ (.refl _) ⟨a, vs, e, _, rfl, hr, rfl⟩ (Fx.take 5 (by assumption)))
          · rw [if_neg (by simp [h2])]
            repeat walk_at "S"
            have e1 : pstep ⟨res, part, false, true⟩ c = ⟨res, part ++ [c], false, true⟩ := by simp [pstep, h1, h2]
            simp only [e1]
            refine (LoopEnd.of g' _ (.refl _) ⟨a, vs, e, _, rfl, hr, rfl⟩ (Fx.take 5 (by assumption)))
      | false =>
        rw [if_neg (by simp)]
        repeat walk_at "S"
        by_cases h1 : c = 44
        · rw [if_pos (by simp [h1])]
          repeat walk_at "S"
          refine r_append (by assumption) (by lia) ?_
          intro h3 F3
          dsimp only
          repeat walk_at "S"
          have e1 : pstep ⟨res, part, false, false⟩ c = ⟨res ++ [part], [], false, false⟩ := by simp [pstep, h1]
          simp only [e1]
          refine (LoopEnd.of g' _ (.refl _) ⟨a, _, _, _, rfl, hr.snoc, rfl⟩ (Fx.take 5 (by assumption)))
        · rw [if_neg (by simp [h1])]
          repeat walk_at "S"
          by_cases h2 : c = 34
          · rw [if_pos (by simp [h2])]
            repeat walk_at "S"
            have e1 : pstep ⟨res, part, false, false⟩ c = ⟨res, part ++ [c], false, true⟩ := by simp [pstep, h2]
            simp only [e1]
            refine (LoopEnd.of g' _ (.refl _) ⟨a, vs, e, _, rfl, hr, rfl⟩ (Fx.take 5 (by assumption)))
          · rw [if_neg (by simp [h2])]
            repeat walk_at "S"
            have e1 : pstep ⟨res, part, false, false⟩ c = ⟨res, part ++ [c], false, false⟩ := by simp [pstep, h1, h2]
            simp only [e1]
            refine (LoopEnd.of g' _ (.refl _) ⟨a, vs, e, _, rfl, hr, rfl⟩ (Fx.take 5 (by assumption)))
  · rintro g' l' mine' h' tk hsub ⟨a, vs, e, k, rfl, hr, rfl⟩ F'
    simp only [List.cons_append, List.nil_append] at F'
    obtain ⟨b1, b2, b3⟩ := prun_bounds t t.length (by lia)
    rw [List.take_length] at b1 b2 b3 hr F'
    have hvl : vs.length ≤ 100 := by rw [hr.1]; lia
    clear F F2 F3
    walk_at "S"
    refine wpAny_mono (Q := fun f s' => f = .next ∧ ∃ vs e h' tk, s' = { s with heap := h', toks := tk } ∧ StrsR vs (pparts (prun t)) ∧ Fx g' L' h' (mp [(Str.ofString "s", .str (S t) ut), (Str.ofString "res", .ref a)]) ((a, lst vs e) :: (L, oL) :: own)) ?_ ?_ (fun _ _ x => x)
    · repeat walk_at "S"
      by_cases hp : (prun t).part = []
      · rw [if_neg (by simp [hp])]
        repeat walk_at "S"
        refine ⟨rfl, vs, e, _, _, rfl, ?_, Fx.take 2 F'⟩
        unfold pparts; rw [if_pos (by simp [hp])]; exact hr
      · rw [if_pos (by simp [hp])]
        repeat walk_at "S"
        refine r_append (by assumption) (by lia) ?_
        intro h3 F3
        dsimp only
        repeat walk_at "S"
        refine ⟨rfl, _, _, _, _, rfl, ?_, Fx.take 2 F3⟩
        unfold pparts; rw [if_neg (by simp [hp])]; exact hr.snoc
    · refine coverA ?_
      intro GG hGG f s' hh
      obtain ⟨rfl, vs', e', h3, tk3, rfl, hr', F3⟩ := hh
      refine hGG _ _ ?_
      clear hGG
      refine Fx.freezeK F3 ?_
      intro g2 hs2 F4 ha
      have hb : ∀ x ∈ pparts (prun t), x.length ≤ 100 := by
        intro x hx
        unfold pparts at hx
        split at hx
        · have := b3 x hx; lia
        · rcases List.mem_append.mp hx with hx | hx
          · have := b3 x hx; lia
          · rw [List.mem_singleton.mp hx]; lia
      have hpl : (pparts (prun t)).length ≤ 101 := by
        unfold pparts; split
        · lia
        · simp; lia
      walk_at "S"
      walk_at "S"
      refine r_comp (cl := []) ?_ (by rfl) (by rfl) (by intro y hy; revert y; exact of_decide_eq_true rfl)
      repeat walk_at "S"
      refine r_iter_list F4 ha ?_
      intro I oI St h4 it go st F5
      refine ⟨I, rfl, ?_⟩
      refine r_comp_block (mine := []) R' it goOk_name (by rw [hr'.1]; lia) (fun i g3 ys mine3 => mine3 = [] ∧ StrsR ys (((pparts (prun t)).map stripF).take i)) ⟨rfl, .nil⟩ (fun i g3 ys mine3 hj => by have := hj.2.1; rw [this, List.length_take]; lia) F5 st
        (by intro y hy; revert y; exact of_decide_eq_true rfl) (by rfl) ?_ ?_
      · rintro i v g3 ys e3 mine3 h5 tk5 oI5 D C oL5 hi hv hs3 ⟨rfl, hys⟩ F6
        simp only [List.nil_append] at F6
        obtain ⟨x, hx⟩ : ∃ x, (pparts (prun t))[i]? = some x := ⟨(pparts (prun t))[i]'(by rw [← hr'.1]; exact hi), by simp⟩
        obtain ⟨kx, rfl⟩ := hr'.2 i x v hx hv
        have hxl := hb x (List.mem_of_getElem? hx)
        clear F' F3 F4 F5
        repeat walk_at "S"
        refine wpAny_tests_nil ?_
        rw [if_pos rfl]
        repeat walk_at "S"
        refine (CompEnd.of g3 [] (.refl _) ⟨rfl, rfl, ?_⟩ (Fx.take 0 (by assumption)))
        rw [List.take_add_one, List.getElem?_map, hx]
        exact hys.snoc
      · rintro g3 ys e3 mine3 h5 tk5 D C oL5 m5 hs3 ⟨rfl, hys⟩ hfr F6
        refine compPost_none hfr F6 ?_
        intro h6 F7
        simp only [List.nil_append] at F7
        refine Fx.freezeK F7 ?_
        intro g4 hs4 F8 hD
        refine h g4 D ys e3 _ _ (hsub.trans (hs2.trans (hs3.trans hs4))) (back _ _ _ F8) hD ?_
        rw [hr'.1, List.take_of_length_le (by simp)] at hys
        exact hys
/-! calls of defs whose names are captured -/
def CellsOwn (cm : Str → Option Value) : List (Str × Addr) → Own → Prop
  | [], cs => cs = []
  | (n, c) :: r, cs => ∃ o cs', cs = (c, o) :: cs' ∧ o.data = .cell (cm n) ∧ CellsOwn cm r cs'
theorem cellsOwn_of {h : Heap} {cm : Str → Option Value} {lo : Nat} : ∀ {cs : List (Str × Addr)}, (∀ n c, (n, c) ∈ cs → h.IsCell c (cm n) ∧ lo < c) → (cs.Pairwise fun x y => x.2 ≠ y.2) →
    ∃ os : Own, CellsOwn cm cs os ∧ (∀ p ∈ os, h.get? p.1 = some p.2 ∧ lo < p.1) ∧ (os.map (·.1)) = cs.map (·.2)
  | [], _, _ => ⟨[], rfl, fun _ hp => (nomatch hp), rfl⟩
  | (n, c) :: r, hc, hp => by
    obtain ⟨h1, h2⟩ := List.pairwise_cons.mp hp
    obtain ⟨⟨o, ho, hd⟩, hlt⟩ := hc n c (.head _)
    obtain ⟨os, a, b, e⟩ := cellsOwn_of (fun n c hm => hc n c (.tail _ hm)) h2
    refine ⟨(c, o) :: os, ⟨o, os, rfl, hd, a⟩, fun p hp => ?_, by simp [e]⟩
    rcases List.mem_cons.mp hp with rfl | hp
    · exact ⟨ho, hlt⟩
    · exact b p hp
theorem lookup_mem_l {l : List (Str × Value)} {x : Str} {v : Value} (h : l.lookup x = some v) : (x, v) ∈ l := mem_of_lookup h

section
variable {w : World} {A : Around} {E : Value → Shared → Prop} {s : Shared} {env : Env} {g : Heap} {L : Addr} {own : Own} {l : List (Str × Value)} {m : Str → Option Value}
theorem r_enterC {f : Addr} {o : Obj} {fd : FuncData} {body : List Stmt} {vs : List Value} {binds : List (Str × Value)} {d : Nat} {Q : Value → Shared → Prop}
    (F : Fx g L s.heap m own) (R : Rm A (d + 1)) (W : Wd w g) (ho : g.get? f = some o) (hd : o.data = .func fd) (hc : g.CodeRec fd.code fd.qualname) (hb : fd.body = .stmts body)
    (hbind : bindArgs fd ⟨vs, []⟩ = pure binds) (hclo : fd.closure = []) (hkind : (binds.all fun y => fd.scope.names.lookup y.1 == some .local || fd.scope.names.lookup y.1 == some .cell) = true)
    (hnd : ((cellsFrom 0 fd.scope.names []).map (·.1)).Nodup) (hl : ∀ p ∈ l, bindL (callEnvC fd 0 f).kindOf binds (fun _ => none) p.1 = some p.2)
    (hco : fd.scope.isCoroutine = false) (hgen : fd.scope.isGenerator = false) (hk : fd.scope.kind = .function)
    (h : ∀ L' h₁ tk oL cs, Rm (A.deeper (callEnvC fd L' f)) d → CellsOwn (bindC (callEnvC fd 0 f).kindOf binds fun _ => none) (cellsFrom (L' + 1) fd.scope.names []) cs → Fx g L' h₁ (mp l) (cs ++ (L, oL) :: own) →
      (∀ g₁ h₁ m₁ {own' : Own}, Fx g₁ L' h₁ m₁ ((L, oL) :: own') → Fx g₁ L h₁ m own') →
      wpAny (Mo w) (A.deeper (callEnvC fd L' f)) (execs body (callEnvC fd L' f)) (fun fl s' => Q (match fl with | .ret v => v | _ => .none) s') (fun _ _ => False) { s with heap := h₁, toks := tk }) :
    wpAny (Mo w) A (call (.ref f) vs) Q E s := by
  refine wpAny_call (codeAny_call_cells R.room (F.keep _ _ ho) hd (W.lim.keeps F.keep) (hc.keeps F.keep) hb hbind hclo (kindsX hkind _) (fun s₁ x => ?_) hco hgen hk)
  obtain ⟨h₁, tk, rfl, hk₁⟩ := x.done
  have nd : ((callEnvC fd s.heap.objs.size f).cells.map (·.1)).Nodup := cellsFrom_names fd.scope.names 0 (s.heap.objs.size + 1) [] [] rfl ▸ hnd
  obtain ⟨cs, hcs, hcl, hca⟩ := cellsOwn_of (h := h₁) (cm := bindC (callEnvC fd s.heap.objs.size f).kindOf binds fun _ => none) (lo := s.heap.objs.size) (cs := (callEnvC fd s.heap.objs.size f).cells)
    (fun n c hm => ⟨x.cell n c (lookup_of_mem_nodup nd hm), x.above n c hm⟩) x.apart
  have hn : NsP h₁ s.heap.objs.size (mp l) := ⟨_, x.toInCall.ns, fun y v e => hl _ (lookup_mem_l e)⟩
  obtain ⟨oL, F', back⟩ := F.enter hk₁ hn rfl
  have fresh : ∀ a, s.heap.objs.size < a → s.heap.get? a = none := fun a ha => by
    cases e : s.heap.get? a with
    | none => rfl
    | some o' => exact absurd (Heap.lt_size e) (Nat.not_lt.mpr (Nat.le_of_lt ha))
  have F'' : Fx g s.heap.objs.size h₁ (mp l) (cs ++ (L, oL) :: own) := by
    refine ⟨hn, F'.keep, F'.hid, fun p hp => ?_, ?_⟩
    · rcases List.mem_append.mp hp with hp | hp
      · have q := hcl p hp
        refine ⟨q.1, Nat.ne_of_gt q.2, ?_⟩
        cases e : g.get? p.1 with
        | none => rfl
        | some o' => have := F.keep _ _ e; rw [fresh _ q.2] at this; cases this
      · exact F'.ow p hp
    · rw [List.map_append]
      refine List.nodup_append.mpr ⟨?_, F'.nd, ?_⟩
      · rw [hca]
        exact List.pairwise_map.mpr x.apart
      · intro a ha b hb hab
        subst hab
        obtain ⟨p, hp, rfl⟩ := List.mem_map.mp ha
        have q := (hcl p hp).2
        rcases List.mem_cons.mp hb with e | hb
        · have e : p.1 = L := e
          rw [e] at q
          exact Nat.lt_asymm q F.lt
        · obtain ⟨p', hp', e⟩ := List.mem_map.mp hb
          have z := Heap.lt_size (F.ow p' hp').1
          have e : p'.1 = p.1 := e
          rw [e] at z
          exact Nat.lt_asymm z q
  exact wpAny_mono (h _ h₁ tk oL cs (R.in _) hcs F'' back) (fun _ _ q => q) fun _ _ x => x.elim

theorem r_cell {x : Str} {pos : Pos} {c : Addr} {o : Obj} {v : Value} {Q : Value → Shared → Prop} (F : Fx g L s.heap m own) (hc : env.cells.lookup x = some c) (hm : (c, o) ∈ own) (hv : o.data = .cell (some v)) (h : Q v s)
    (hk : env.scope.kind = .function := by rfl) (hl : env.kindOf x = some .cell := by rfl) (hd : (x == ("__debug__" : Str)) = false := by decide) :
    wpAny (Mo w) A (eval (.Name x pos) env) Q E s := wpAny_Name (wpAny_loadName_cell hk hl hc ⟨o, F.at hm, hv⟩ h) hd
theorem r_cellG {x : Str} {pos : Pos} {c : Addr} {o : Obj} {v : Value} {Q : Value → Shared → Prop} (F : Fx g L s.heap m own) (hc : env.cells.lookup x = some c) (hm : g.get? c = some o) (hv : o.data = .cell (some v)) (h : Q v s)
    (hk : env.scope.kind = .function := by rfl) (hl : env.kindOf x = some .cell := by rfl) (hd : (x == ("__debug__" : Str)) = false := by decide) :
    wpAny (Mo w) A (eval (.Name x pos) env) Q E s := wpAny_Name (wpAny_loadName_cell hk hl hc ⟨o, F.keep _ _ hm, hv⟩ h) hd
theorem r_freeG {x : Str} {pos : Pos} {c : Addr} {o : Obj} {v : Value} {Q : Value → Shared → Prop} (F : Fx g L s.heap m own) (hc : env.cells.lookup x = some c) (hm : g.get? c = some o) (hv : o.data = .cell (some v)) (h : Q v s)
    (hk : env.scope.kind = .function := by rfl) (hl : env.kindOf x = some .free := by rfl) (hd : (x == ("__debug__" : Str)) = false := by decide) (hn : (x == ("__classdict__" : Str)) = false := by decide) :
    wpAny (Mo w) A (eval (.Name x pos) env) Q E s := wpAny_Name (wpAny_loadName_free hk hl hc ⟨o, F.keep _ _ hm, hv⟩ h hn) hd
theorem r_storeCell {x : Str} {c : Addr} {o : Obj} {v₀ : Option Value} {v : Value} {Q : Unit → Shared → Prop} (F : Fx g L s.heap m ((c, o) :: own)) (hc : env.cells.lookup x = some c) (hv : o.data = .cell v₀)
    (h : ∀ h' o', o'.data = .cell (some v) → Fx g L h' m ((c, o') :: own) → Q () { s with heap := h' })
    (hk : env.scope.kind = .function := by rfl) (hl : env.kindOf x = some .cell := by rfl) : wpAny (Mo w) A (storeName env x v) Q E s := by
  refine wpAny_storeName_cell hk hl hc ⟨o, F.head, hv⟩ fun h' hc' hs => ?_
  obtain ⟨o', e', d'⟩ := hc'
  exact h h' o' d' (F.upd hs e')
end
/-! list(zip(a, b)) -/
abbrev zipO (TI TO : Addr) (f0 f1 : Value) : Obj := { cls := .type "zip", dict := none, data := .fields #[f0, f1, .bool false, .ref TI, .ref TO], slots := #[] }
theorem zip_no_len : typeLookup (.type "zip") "__len__" = pure none := by rw [typeLookup_type, builtinLookup_eq_fast]; kernel_rfl
theorem zip_no_hint : typeLookup (.type "zip") "__length_hint__" = pure none := by rw [typeLookup_type, builtinLookup_eq_fast]; kernel_rfl
section
variable {w : World} {A : Around} {E : Value → Shared → Prop} {s : Shared}
theorem wpAny_alive {M : Model} {a : Addr} {Q : Option Obj → Shared → Prop} (h : Q (s.heap.get? a) s) : wpAny M A (loadIfAlive a) Q E s := fun _ _ _ => h
theorem zip_held_item {z TI TO i1 i2 l1 l2 T : Addr} {k1 k2 : Nat} {xs ys : Array Value} {x y f1 : Value} {oT : Obj} {Q : Value → Shared → Prop} (D : ZipApart z TI TO i1 i2 l1 l2) (hTz : T ≠ z)
    (hz : s.heap.get? z = some (zipO TI TO (rawInt T) f1)) (hT : s.heap.get? T = some oT) (hTI : IsPair s.heap TI (.ref i1) (.ref i2))
    (h1 : s.heap.IsListIter i1 l1 k1) (h2 : s.heap.IsListIter i2 l2 k2) (hl1 : s.heap.IsList l1 xs) (hl2 : s.heap.IsList l2 ys) (hx : xs[k1]? = some x) (hy : ys[k2]? = some y)
    (hQ : ∀ h' a f1', h'.get? z = some (zipO TI TO (rawInt T) f1') → h'.IsListIter i1 l1 (k1 + 1) → h'.IsListIter i2 l2 (k2 + 1) → h'.get? a = some (tup [x, y]) → s.heap.get? a = none →
      (∀ c o, c ≠ z → c ≠ i1 → c ≠ i2 → s.heap.get? c = some o → h'.get? c = some o) → Q (.ref a) { s with heap := h' }) :
    wpAny (Mo w) A (Builtin.«zip.__next__» ⟨[.ref z], []⟩) (fun fin s' => ∃ v, fin = .done (.ret v) ∧ Q v s') E s := by
  show wpAny _ _ (field (.ref z) 2 >>= _) _ _ _
  refine wpAny_bind (wpAny_field hz rfl (x := .bool false) rfl ?_)
  show wpAny _ _ (field (.ref z) 3 >>= _) _ _ _
  refine wpAny_bind (wpAny_field hz rfl (x := .ref TI) rfl ?_)
  refine wpAny_bind (wpAny_seqItems hTI rfl ?_)
  show wpAny _ _ (Builtin.SmallTypes.ownedTupleIsFree (.ref z) >>= _) _ _ _
  refine wpAny_bind ?_
  unfold Builtin.SmallTypes.ownedTupleIsFree
  refine wpAny_bind (wpAny_field hz rfl (x := rawInt T) rfl ?_)
  show wpAny _ _ (loadIfAlive (Int.toNat (T : Int)) >>= _) _ _ _
  refine wpAny_bind (wpAny_alive ?_)
  rw [show Int.toNat (T : Int) = T from rfl, hT]
  simp only [Option.isNone_some, Bool.false_eq_true, if_false]
  refine wpAny_bind (wpAny_field hz rfl (x := f1) rfl ?_)
  refine wpAny_mono (Q := fun b s' => b = false ∧ ∃ h₁ f1', s' = { s with heap := h₁ } ∧ h₁.get? z = some (zipO TI TO (rawInt T) f1') ∧ Heap.SameBut z s.heap h₁) ?_ ?_ (fun _ _ e => e)
  · refine wpAny_ite ?_
    split
    · refine wpAny_bind (wpAny_setField_rec hz (by simp) fun h₁ hz₁ hs₁ => wpAny_pure ⟨rfl, h₁, _, rfl, hz₁, hs₁⟩)
    · exact wpAny_pure ⟨rfl, s.heap, f1, rfl, hz, Heap.SameBut.refl ..⟩
  · rintro b s' ⟨rfl, h₁, f1', rfl, hz₁, hs₁⟩
    simp only [Bool.false_eq_true, if_false]
    rw [← Array.forIn_toList]
    simp only [List.forIn_cons, List.forIn_nil]
    refine wpAny_bind (wpAny_bind (wpAny_bind (wpAny_holding ?_)))
    show wpAny _ _ (Builtin.SmallTypes.nextOf (.ref i1) >>= _) _ _ _
    refine wpAny_bind (wpAny_nextOf_list_item (h1.extBut hs₁.extBut D.i1z) (hl1.extBut hs₁.extBut D.l1z) hx fun h₂ h1₂ hs₂ => wpAny_pure (wpAny_pure ?_))
    refine wpAny_bind (wpAny_bind (wpAny_holding ?_))
    show wpAny _ _ (Builtin.SmallTypes.nextOf (.ref i2) >>= _) _ _ _
    refine wpAny_bind (wpAny_nextOf_list_item ((h2.extBut hs₁.extBut D.i2z).extBut hs₂.extBut D.i12.symm) ((hl2.extBut hs₁.extBut D.l2z).extBut hs₂.extBut D.l2i1) hy fun h₃ h2₃ hs₃ => wpAny_pure (wpAny_pure (wpAny_pure ?_)))
    refine wpAny_bind (wpAny_newTuple ?_ (by show (2 : Nat) ≤ sizeLine; decide))
    have hz3 : h₃.objs.size = s.heap.objs.size := by rw [hs₃.1, hs₂.1, hs₁.1]
    have up : ∀ c o, c ≠ z → c ≠ i1 → c ≠ i2 → s.heap.get? c = some o → h₃.get? c = some o := fun c o c1 c2 c3 e => hs₃.extBut _ _ c3 (hs₂.extBut _ _ c2 (hs₁.extBut _ _ c1 e))
    refine wpAny_pure ⟨_, rfl, hQ _ h₃.objs.size f1' (Heap.get?_push_of_some _ (hs₃.extBut _ _ D.i2z.symm (hs₂.extBut _ _ D.i1z.symm hz₁))) (((h1₂.extBut hs₃.extBut D.i12)).at fun o e => Heap.get?_push_of_some _ e) (h2₃.at fun o e => Heap.get?_push_of_some _ e)
      (Heap.get?_push_size _ rfl) ?_ fun c o c1 c2 c3 e => Heap.get?_push_of_some _ (up c o c1 c2 c3 e)⟩
    rw [hz3]
    cases q : s.heap.get? s.heap.objs.size with
    | none => rfl
    | some o => exact absurd (Heap.lt_size q) (Nat.lt_irrefl _)
theorem zip_held_end {z TI TO i1 i2 l1 l2 T : Addr} {k1 k2 : Nat} {xs ys : Array Value} {f1 : Value} {oT : Obj} {Q : PySem.Fin → Shared → Prop} (hh : A.handled = none) (D : ZipApart z TI TO i1 i2 l1 l2)
    (hz : s.heap.get? z = some (zipO TI TO (rawInt T) f1)) (hT : s.heap.get? T = some oT) (hTI : IsPair s.heap TI (.ref i1) (.ref i2))
    (h1 : s.heap.IsListIter i1 l1 k1) (hl1 : s.heap.IsList l1 xs) (hx : xs[k1]? = none)
    (hE : ∀ h' e, (∀ c o, c ≠ z → c ≠ i1 → s.heap.get? c = some o → h'.get? c = some o) → (∃ o, h'.get? e = some o ∧ o.cls = .type "StopIteration") → E (.ref e) { s with heap := h' }) :
    wpAny (Mo w) A (Builtin.«zip.__next__» ⟨[.ref z], []⟩) Q E s := by
  show wpAny _ _ (field (.ref z) 2 >>= _) _ _ _
  refine wpAny_bind (wpAny_field hz rfl (x := .bool false) rfl ?_)
  show wpAny _ _ (field (.ref z) 3 >>= _) _ _ _
  refine wpAny_bind (wpAny_field hz rfl (x := .ref TI) rfl ?_)
  refine wpAny_bind (wpAny_seqItems hTI rfl ?_)
  show wpAny _ _ (Builtin.SmallTypes.ownedTupleIsFree (.ref z) >>= _) _ _ _
  refine wpAny_bind ?_
  unfold Builtin.SmallTypes.ownedTupleIsFree
  refine wpAny_bind (wpAny_field hz rfl (x := rawInt T) rfl ?_)
  show wpAny _ _ (loadIfAlive (Int.toNat (T : Int)) >>= _) _ _ _
  refine wpAny_bind (wpAny_alive ?_)
  rw [show Int.toNat (T : Int) = T from rfl, hT]
  simp only [Option.isNone_some, Bool.false_eq_true, if_false]
  refine wpAny_bind (wpAny_field hz rfl (x := f1) rfl ?_)
  refine wpAny_mono (Q := fun b s' => b = false ∧ ∃ h₁ f1', s' = { s with heap := h₁ } ∧ h₁.get? z = some (zipO TI TO (rawInt T) f1') ∧ Heap.SameBut z s.heap h₁) ?_ ?_ (fun _ _ e => e)
  · refine wpAny_ite ?_
    split
    · refine wpAny_bind (wpAny_setField_rec hz (by simp) fun h₁ hz₁ hs₁ => wpAny_pure ⟨rfl, h₁, _, rfl, hz₁, hs₁⟩)
    · exact wpAny_pure ⟨rfl, s.heap, f1, rfl, hz, Heap.SameBut.refl ..⟩
  · rintro b s' ⟨rfl, h₁, f1', rfl, hz₁, hs₁⟩
    simp only [Bool.false_eq_true, if_false]
    rw [← Array.forIn_toList]
    simp only [List.forIn_cons, List.forIn_nil]
    refine wpAny_bind (wpAny_bind (wpAny_bind (wpAny_holding ?_)))
    show wpAny _ _ (Builtin.SmallTypes.nextOf (.ref i1) >>= _) _ _ _
    exact wpAny_bind (wpAny_nextOf_list_end hh (h1.extBut hs₁.extBut D.i1z) (hl1.extBut hs₁.extBut D.l1z) hx fun h₂ e hs₂ he => hE h₂ e (fun c o c1 c3 x => hs₂ _ _ c3 (hs₁.extBut _ _ c1 x)) he)
theorem next_zip_held {z TI TO i1 i2 l1 l2 T : Addr} {k1 k2 : Nat} {xs ys : Array Value} {x y f1 : Value} {oT : Obj} {Q : Option Value → Shared → Prop} (D : ZipApart z TI TO i1 i2 l1 l2) (hTz : T ≠ z)
    (hz : s.heap.get? z = some (zipO TI TO (rawInt T) f1)) (hT : s.heap.get? T = some oT) (hTI : IsPair s.heap TI (.ref i1) (.ref i2))
    (h1 : s.heap.IsListIter i1 l1 k1) (h2 : s.heap.IsListIter i2 l2 k2) (hl1 : s.heap.IsList l1 xs) (hl2 : s.heap.IsList l2 ys) (hx : xs[k1]? = some x) (hy : ys[k2]? = some y)
    (hQ : ∀ h' a f1', h'.get? z = some (zipO TI TO (rawInt T) f1') → h'.IsListIter i1 l1 (k1 + 1) → h'.IsListIter i2 l2 (k2 + 1) → h'.get? a = some (tup [x, y]) → s.heap.get? a = none →
      (∀ c o, c ≠ z → c ≠ i1 → c ≠ i2 → s.heap.get? c = some o → h'.get? c = some o) → Q (some (.ref a)) { s with heap := h' }) :
    wpAny (Mo w) A (pyNext (.ref z)) Q E s := by
  have hTy : s.TypeIs (.ref z) "zip" := ⟨_, hz, rfl⟩
  unfold pyNext
  exact wpAny_bind (wpAny_attempt (wpAny_callSpecial?_slot (name := Str.ofString "__next__") hTy F.slot_zip_next
    (wpAny_call_entry F.slot_zip_next hTy F.entry_zip_next
      (zip_held_item D hTz hz hT hTI h1 h2 hl1 hl2 hx hy fun h' a f1' a1 a2 a3 a4 a5 a6 => wpAny_pure (hQ h' a f1' a1 a2 a3 a4 a5 a6)) (F.args_zip_next_1 _))))
theorem next_zip_heldEnd {z TI TO i1 i2 l1 l2 T : Addr} {k1 : Nat} {xs : Array Value} {f1 : Value} {oT : Obj} {Q : Option Value → Shared → Prop} (hh : A.handled = none) (D : ZipApart z TI TO i1 i2 l1 l2)
    (hz : s.heap.get? z = some (zipO TI TO (rawInt T) f1)) (hT : s.heap.get? T = some oT) (hTI : IsPair s.heap TI (.ref i1) (.ref i2))
    (h1 : s.heap.IsListIter i1 l1 k1) (hl1 : s.heap.IsList l1 xs) (hx : xs[k1]? = none)
    (hQ : ∀ h', (∀ c o, c ≠ z → c ≠ i1 → s.heap.get? c = some o → h'.get? c = some o) → Q none { s with heap := h' }) : wpAny (Mo w) A (pyNext (.ref z)) Q E s := by
  have hTy : s.TypeIs (.ref z) "zip" := ⟨_, hz, rfl⟩
  unfold pyNext
  refine wpAny_bind (wpAny_attempt (wpAny_callSpecial?_slot (name := Str.ofString "__next__") hTy F.slot_zip_next
    (wpAny_call_entry F.slot_zip_next hTy F.entry_zip_next (zip_held_end (k2 := 0) (ys := #[]) hh D hz hT hTI h1 hl1 hx fun h' e hk he => ?_) (F.args_zip_next_1 _))))
  obtain ⟨o, ho, hc⟩ := he
  refine wpAny_bind (wpAny_isInstance (T := "StopIteration") (b := true) ⟨o, ho, hc⟩ isSubtype_stop ?_)
  exact wpAny_pure (hQ _ hk)
end
/-! list(zip(a, b)), the loop -/
theorem Fx.updMany {g h h' : Heap} {L : Addr} {m : Str → Option Value} {X X' own : Own} (F : Fx g L h m (X ++ own)) (ha : X'.map (·.1) = X.map (·.1)) (hX : ∀ p ∈ X', h'.get? p.1 = some p.2)
    (hs : ∀ b o, b ∉ X.map (·.1) → h.get? b = some o → h'.get? b = some o) : Fx g L h' m (X' ++ own) := by
  have inX : ∀ b, b ∈ X.map (·.1) → ∃ o, (b, o) ∈ X := fun b hb => by obtain ⟨p, hp, rfl⟩ := List.mem_map.mp hb; exact ⟨p.2, hp⟩
  have nL : L ∉ X.map (·.1) := fun hb => by obtain ⟨o, ho⟩ := inX _ hb; exact (F.ow _ (List.mem_append_left _ ho)).2.1 rfl
  have hd := F.nd
  rw [List.map_append] at hd
  refine ⟨?_, fun b o e => hs b o (fun hb => ?_) (F.keep b o e), F.hid, fun p hp => ?_, by rw [List.map_append, ha]; exact hd⟩
  · obtain ⟨m₀, ⟨oL, es, ep, n1, r⟩, n2⟩ := F.ns
    exact ⟨m₀, ⟨oL, es, ep, hs _ _ nL n1, r⟩, n2⟩
  · obtain ⟨o', ho⟩ := inX _ hb
    have := (F.ow _ (List.mem_append_left _ ho)).2.2
    rw [this] at e; cases e
  · rcases List.mem_append.mp hp with hp | hp
    · have hm : p.1 ∈ X.map (·.1) := ha ▸ List.mem_map_of_mem hp
      obtain ⟨o', ho⟩ := inX _ hm
      exact ⟨hX p hp, (F.ow _ (List.mem_append_left _ ho)).2⟩
    · have P := F.ow p (List.mem_append_right _ hp)
      refine ⟨hs _ _ (fun hb => ?_) P.1, P.2⟩
      exact (List.nodup_append.mp hd).2.2 _ hb _ (List.mem_map_of_mem hp) rfl
theorem Fx.dropMany {g h h' : Heap} {L : Addr} {m : Str → Option Value} {X own : Own} (F : Fx g L h m (X ++ own)) (hs : ∀ b o, b ∉ X.map (·.1) → h.get? b = some o → h'.get? b = some o) : Fx g L h' m own := by
  have inX : ∀ b, b ∈ X.map (·.1) → ∃ o, (b, o) ∈ X := fun b hb => by obtain ⟨p, hp, rfl⟩ := List.mem_map.mp hb; exact ⟨p.2, hp⟩
  have nL : L ∉ X.map (·.1) := fun hb => by obtain ⟨o, ho⟩ := inX _ hb; exact (F.ow _ (List.mem_append_left _ ho)).2.1 rfl
  have hd := F.nd
  rw [List.map_append] at hd
  refine ⟨?_, fun b o e => hs b o (fun hb => ?_) (F.keep b o e), F.hid, fun p hp => ?_, (List.nodup_append.mp hd).2.1⟩
  · obtain ⟨m₀, ⟨oL, es, ep, n1, r⟩, n2⟩ := F.ns
    exact ⟨m₀, ⟨oL, es, ep, hs _ _ nL n1, r⟩, n2⟩
  · obtain ⟨o', ho⟩ := inX _ hb
    have := (F.ow _ (List.mem_append_left _ ho)).2.2
    rw [this] at e; cases e
  · have P := F.ow p (List.mem_append_right _ hp)
    refine ⟨hs _ _ (fun hb => ?_) P.1, P.2⟩
    exact (List.nodup_append.mp hd).2.2 _ hb _ (List.mem_map_of_mem hp) rfl
def LI (o : Obj) (l : Addr) (k : Nat) : Prop := o.cls = .type "list_iterator" ∧ o.data = .fields #[.ref l, .int k 0]
theorem LI.of {h : Heap} {a l : Addr} {k : Nat} (x : h.IsListIter a l k) : ∃ o, h.get? a = some o ∧ LI o l k := let ⟨o, e, r⟩ := x; ⟨o, e, r⟩
/-- the pairs that a zip has handed out -/
def Zipped (g : Heap) (xs ys acc : List Value) : Prop := ∀ j, j < acc.length → ∃ a x y, acc[j]? = some (.ref a) ∧ xs[j]? = some x ∧ ys[j]? = some y ∧ g.get? a = some (tup [x, y])
theorem Zipped.mono {g g' : Heap} {xs ys acc : List Value} (z : Zipped g xs ys acc) (h : Sub g g') : Zipped g' xs ys acc := fun j hj => let ⟨a, x, y, h1, h2, h3, h4⟩ := z j hj; ⟨a, x, y, h1, h2, h3, h _ _ h4⟩
theorem Zipped.snoc {g : Heap} {xs ys acc : List Value} {a : Addr} {x y : Value} (z : Zipped g xs ys acc) (hx : xs[acc.length]? = some x) (hy : ys[acc.length]? = some y) (ha : g.get? a = some (tup [x, y])) : Zipped g xs ys (acc ++ [.ref a]) := by
  intro j hj
  simp only [List.length_append, List.length_cons, List.length_nil] at hj
  by_cases h : j < acc.length
  · obtain ⟨a', x', y', h1, h2, h3, h4⟩ := z j h
    exact ⟨a', x', y', by rw [List.getElem?_append_left h]; exact h1, h2, h3, h4⟩
  · have e : j = acc.length := by lia
    subst e
    exact ⟨a, x, y, by simp, hx, hy, ha⟩
section
variable {w : World} {A : Around} {R : Result → Shared → Prop} {s₀ : Shared} {g : Heap} {L : Addr} {own : Own} {m : Str → Option Value} {z TI TO i1 i2 l1 l2 Sx T : Addr} {xs ys : List Value} {n1 n2 : Nat} {oT : Obj} {res : Value}
theorem fresh_snap {h h' : Heap} {own own' : Own} {a : Addr} {o : Obj} {g' : Heap} (F : Fx g' L h' m own') (hL : ∃ oL, h.get? L = some oL) (ho : ∀ p ∈ own', ∃ o, h.get? p.1 = some o) (ha : h.get? a = none) (e : h'.get? a = some o) :
    ∃ g'', Sub g' g'' ∧ Fx g'' L h' m own' ∧ g''.get? a = some o := by
  obtain ⟨g'', s1, F'', k⟩ := F.snap
  refine ⟨g'', s1, F'', k _ _ e (fun z => ?_) fun hm => ?_⟩
  · obtain ⟨oL, hL⟩ := hL
    subst z; rw [ha] at hL; cases hL
  · obtain ⟨p, hp, rfl⟩ := List.mem_map.mp hm
    obtain ⟨o', h'⟩ := ho p hp
    rw [ha] at h'; cases h'
theorem zip_loop (hh : A.in1.handled = none) (D : ZipApart z TI TO i1 i2 l1 l2) (hn : xs.length ≤ 900) (hxy : xs.length = ys.length) :
    ∀ (r : Nat) (g' : Heap) (h : Heap) (tk : Nat) (acc : List Value) (e : Nat) (f1 : Value) (o1 o2 : Obj), xs.length - acc.length = r → acc.length ≤ xs.length → Sub g g' → Zipped g' xs ys acc → LI o1 l1 acc.length → LI o2 l2 acc.length →
      g'.get? T = some oT → g'.get? TI = some (tup [.ref i1, .ref i2]) → g'.get? l1 = some (lst xs n1) → g'.get? l2 = some (lst ys n2) →
      Fx g' L h m ([(z, zipO TI TO (rawInt T) f1), (i1, o1), (i2, o2)] ++ (Sx, lst acc e) :: own) →
      (∀ g'' h' tk' acc' e', Sub g' g'' → acc'.length = xs.length → Zipped g'' xs ys acc' → Fx g'' L h' m ((Sx, lst acc' e') :: own) → R (.ok (.ret res)) { s₀ with heap := h', toks := tk' }) →
      codeAny (Mo w) A (.builtin "list.extend.loop" ⟨[.ref Sx, .ref z, res], []⟩) R { s₀ with heap := h, toks := tk } := by
  intro r
  induction r with
  | zero =>
    intro g' h tk acc e f1 o1 o2 hr hle hsub hz L1 L2 hT hTI hl1 hl2 F hR
    refine codeAny_builtin PySem.F.entry_extend_loop ?_
    rw [Around.under_plainId PySem.F.plain_extend_loop _]
    show wpAny _ A.in1 (pyNext (.ref z) >>= _) _ _ _
    have a1 : (i1, o1) ∈ [(z, zipO TI TO (rawInt T) f1), (i1, o1), (i2, o2)] ++ (Sx, lst acc e) :: own := List.mem_append_left _ (.tail _ (.head _))
    refine wpAny_bind (next_zip_heldEnd hh D (F.at (List.mem_append_left _ (.head _))) (F.keep _ _ hT) (F.keep _ _ hTI) ⟨o1, F.at a1, L1⟩ (⟨_, F.keep _ _ hl1, rfl, n1, rfl⟩ : Heap.IsList _ l1 xs.toArray) (by simp; lia) fun h' hk => ?_)
    refine wpAny_pure (hR g' h' tk acc e (.refl _) (by lia) hz ?_)
    refine F.dropMany fun b o hb e => hk b o (fun q => hb (by simp [q])) (fun q => hb (by simp [q])) e
  | succ r ih =>
    intro g' h tk acc e f1 o1 o2 hr hle hsub hz L1 L2 hT hTI hl1 hl2 F hR
    have hlt : acc.length < xs.length := by lia
    have hlt' : acc.length < ys.length := by lia
    refine codeAny_builtin PySem.F.entry_extend_loop ?_
    rw [Around.under_plainId PySem.F.plain_extend_loop _]
    show wpAny _ A.in1 (pyNext (.ref z) >>= _) _ _ _
    have a1 : (i1, o1) ∈ [(z, zipO TI TO (rawInt T) f1), (i1, o1), (i2, o2)] ++ (Sx, lst acc e) :: own := List.mem_append_left _ (.tail _ (.head _))
    have a2 : (i2, o2) ∈ [(z, zipO TI TO (rawInt T) f1), (i1, o1), (i2, o2)] ++ (Sx, lst acc e) :: own := List.mem_append_left _ (.tail _ (.tail _ (.head _)))
    have hTz : T ≠ z := fun q => by
      have := (F.ow _ (List.mem_append_left _ (.head _))).2.2
      rw [q, this] at hT; cases hT
    refine wpAny_bind (next_zip_held hTz (D := D) (F.at (List.mem_append_left _ (.head _))) (F.keep _ _ hT) (F.keep _ _ hTI) ⟨o1, F.at a1, L1⟩ ⟨o2, F.at a2, L2⟩ (⟨_, F.keep _ _ hl1, rfl, n1, rfl⟩ : Heap.IsList _ l1 xs.toArray)
      (⟨_, F.keep _ _ hl2, rfl, n2, rfl⟩ : Heap.IsList _ l2 ys.toArray) (x := xs[acc.length]) (y := ys[acc.length]) (by simp [hlt]) (by simp [hlt']) fun h' a f1' b1 b2 b3 b4 b5 b6 => ?_)
    obtain ⟨o1', c1, L1'⟩ := LI.of b2
    obtain ⟨o2', c2, L2'⟩ := LI.of b3
    have F1 : Fx g' L h' m ([(z, zipO TI TO (rawInt T) f1'), (i1, o1'), (i2, o2')] ++ (Sx, lst acc e) :: own) := by
      refine F.updMany rfl (fun p hp => ?_) fun b o hb e => b6 b o (fun q => hb (by simp [q])) (fun q => hb (by simp [q])) (fun q => hb (by simp [q])) e
      simp only [List.mem_cons, List.not_mem_nil, or_false] at hp
      rcases hp with rfl | rfl | rfl
      · exact b1
      · exact c1
      · exact c2
    have hL0 : ∃ oL, h.get? L = some oL := by obtain ⟨_, ⟨oL, _, _, e0, _⟩, _⟩ := F.ns; exact ⟨oL, e0⟩
    have hO : ∀ p ∈ [(z, zipO TI TO (rawInt T) f1'), (i1, o1'), (i2, o2')] ++ (Sx, lst acc e) :: own, ∃ o, h.get? p.1 = some o := by
      intro p hp
      rcases List.mem_append.mp hp with hp | hp
      · simp only [List.mem_cons, List.not_mem_nil, or_false] at hp
        rcases hp with rfl | rfl | rfl
        · exact ⟨_, F.at (List.mem_append_left _ (.head _))⟩
        · exact ⟨_, F.at a1⟩
        · exact ⟨_, F.at a2⟩
      · exact ⟨_, F.at (o := p.2) (List.mem_append_right _ hp)⟩
    obtain ⟨g2, hs2, F2, ha2⟩ := fresh_snap (own := own) F1 hL0 hO b5 b4
    show wpAny _ A.in1 (updateSeq Sx (·.push (.ref a)) >>= _) _ _ _
    have F3 := F2.up
    have ho := F3.head
    have ee : Obj.mapSeq (·.push (Value.ref a)) (lst acc e) = lst (acc ++ [.ref a]) (e + 1) := by unfold Obj.mapSeq lst; simp
    refine wpAny_bind (wpAny_updateSeq ho rfl (wpAny_pure ⟨plainId_quiet PySem.F.plain_extend_loop _, ?_⟩) (by show acc.toArray.size ≤ sizeLine; rw [List.size_toArray]; exact le_line (by lia)) (by show (acc.toArray.push (.ref a)).size ≤ sizeLine + 1; rw [Array.size_push, List.size_toArray]; exact Nat.succ_le_succ (le_line (by lia))))
    have F4 := (F3.upd (o' := lst (acc ++ [.ref a]) (e + 1)) (Heap.SameBut.update ..) (by rw [← ee]; exact Heap.get?_update_self _ ho (by rw [ee]; rfl))).down
    have hx : xs[acc.length]? = some xs[acc.length] := by simp
    have hy : ys[acc.length]? = some ys[acc.length] := by simp
    refine ih g2 _ tk (acc ++ [.ref a]) (e + 1) f1' o1' o2' (by simp; lia) (by simp; lia) (hsub.trans hs2) ((hz.mono hs2).snoc hx hy ha2) (by simpa using L1') (by simpa using L2') (hs2 _ _ hT) (hs2 _ _ hTI) (hs2 _ _ hl1) (hs2 _ _ hl2) F4 ?_
    intro g'' h'' tk'' acc'' e'' s'' ln'' z'' F''
    exact hR g'' h'' tk'' acc'' e'' (hs2.trans s'') ln'' z'' F''
end
theorem Fx.addFresh {g h h' : Heap} {L : Addr} {m : Str → Option Value} {own : Own} (X : Own) (F : Fx g L h m own) (hs : Sub h h') (hX : ∀ p ∈ X, h'.get? p.1 = some p.2 ∧ h.objs.size ≤ p.1) (hd : (X.map (·.1)).Nodup) : Fx g L h' m (X ++ own) := by
  have F' := F.ext hs
  have fresh : ∀ a, h.objs.size ≤ a → h.get? a = none := fun a ha => by
    cases e : h.get? a with
    | none => rfl
    | some o' => exact absurd (Heap.lt_size e) (Nat.not_lt.mpr ha)
  refine ⟨F'.ns, F'.keep, F'.hid, fun p hp => ?_, ?_⟩
  · rcases List.mem_append.mp hp with hp | hp
    · have q := hX p hp
      refine ⟨q.1, fun z => ?_, ?_⟩
      · have := F.lt; rw [← z] at this; exact absurd this (Nat.not_lt.mpr q.2)
      · cases e : g.get? p.1 with
        | none => rfl
        | some o' => have := F.keep _ _ e; rw [fresh _ q.2] at this; cases this
    · exact F'.ow p hp
  · rw [List.map_append]
    refine List.nodup_append.mpr ⟨hd, F.nd, fun a ha b hb hab => ?_⟩
    subst hab
    obtain ⟨p, hp, rfl⟩ := List.mem_map.mp ha
    obtain ⟨p', hp', e⟩ := List.mem_map.mp hb
    have z := Heap.lt_size (F.ow p' hp').1
    have e : p'.1 = p.1 := e
    rw [e] at z
    exact absurd z (Nat.not_lt.mpr (hX p hp).2)
section
variable {w : World} {A : Around} {E : Value → Shared → Prop} {s : Shared} {g : Heap} {L : Addr} {own : Own} {m : Str → Option Value} {xs ys : List Value} {n1 n2 : Nat}
theorem r_zip {l1 l2 : Addr} {Q : Value → Shared → Prop} (F : Fx g L s.heap m own) (h1 : g.get? l1 = some (lst xs n1)) (h2 : g.get? l2 = some (lst ys n2))
    (h : ∀ z TI TO i1 i2 o1 o2 g' h', Sub g g' → ZipApart z TI TO i1 i2 l1 l2 → LI o1 l1 0 → LI o2 l2 0 → g'.get? TI = some (tup [.ref i1, .ref i2]) →
      Fx g' L h' m ([(z, zipO TI TO .none (.bool false)), (TO, tup [.none, .none]), (i1, o1), (i2, o2)] ++ own) → Q (.ref z) { s with heap := h' }) :
    wpAny (Mo w) A (call (.type "zip") [.ref l1, .ref l2]) Q E s := by
  refine call_zip_2 (⟨_, F.keep _ _ h1, rfl, n1, rfl⟩ : Heap.IsList _ l1 xs.toArray) (⟨_, F.keep _ _ h2, rfl, n2, rfl⟩ : Heap.IsList _ l2 ys.toArray) fun h' hz hTI hTO hi1 hi2 hsz hk => ?_
  obtain ⟨o1, e1, L1⟩ := LI.of hi1
  obtain ⟨o2, e2, L2⟩ := LI.of hi2
  have F1 := F.addFresh [(s.heap.objs.size + 2, tup [.ref s.heap.objs.size, .ref (s.heap.objs.size + 1)]), (s.heap.objs.size + 4, zipO (s.heap.objs.size + 2) (s.heap.objs.size + 3) .none (.bool false)), (s.heap.objs.size + 3, tup [.none, .none]), (s.heap.objs.size, o1), (s.heap.objs.size + 1, o2)] hk
    (fun p hp => by
      simp only [List.mem_cons, List.not_mem_nil, or_false] at hp
      rcases hp with rfl | rfl | rfl | rfl | rfl
      · exact ⟨hTI, Nat.le_add_right ..⟩
      · exact ⟨hz, Nat.le_add_right ..⟩
      · exact ⟨hTO, Nat.le_add_right ..⟩
      · exact ⟨e1, Nat.le_refl _⟩
      · exact ⟨e2, Nat.le_add_right ..⟩) (by simp)
  obtain ⟨g', hs, F2, hTI'⟩ := Fx.freeze F1
  exact h _ _ _ _ _ o1 o2 g' h' hs (zipApart_new (F.glt h1) (F.glt h2)) L1 L2 hTI' F2

theorem zip_first {R : Result → Shared → Prop} {z TI TO i1 i2 l1 l2 Sx : Addr} {o1 o2 : Obj} {e : Nat} {res : Value} (hh : A.in1.handled = none) (D : ZipApart z TI TO i1 i2 l1 l2) (L1 : LI o1 l1 0) (L2 : LI o2 l2 0) (hTI : g.get? TI = some (tup [.ref i1, .ref i2]))
    (h1 : g.get? l1 = some (lst xs n1)) (h2 : g.get? l2 = some (lst ys n2)) (hxy : xs.length = ys.length) (hpos : 0 < xs.length) (hn : xs.length ≤ 900)
    (F5 : Fx g L s.heap m ([(z, zipO TI TO .none (.bool false)), (TO, tup [.none, .none]), (i1, o1), (i2, o2)] ++ (Sx, lst [] e) :: own))
    (hR : ∀ g'' h' tk' acc' e', Sub g g'' → acc'.length = xs.length → Zipped g'' xs ys acc' → Fx g'' L h' m ((Sx, lst acc' e') :: own) → R (.ok (.ret res)) { s with heap := h', toks := tk' }) :
    codeAny (Mo w) A (.builtin "list.extend.loop" ⟨[.ref Sx, .ref z, res], []⟩) R s := by
  refine codeAny_builtin PySem.F.entry_extend_loop ?_
  rw [Around.under_plainId PySem.F.plain_extend_loop _]
  show wpAny _ A.in1 (pyNext (.ref z) >>= _) _ _ _
  have hlt' : 0 < ys.length := by lia
  have a1 : (i1, o1) ∈ [(z, zipO TI TO .none (.bool false)), (TO, tup [.none, .none]), (i1, o1), (i2, o2)] ++ (Sx, lst [] e) :: own := List.mem_append_left _ (.tail _ (.tail _ (.head _)))
  have a2 : (i2, o2) ∈ [(z, zipO TI TO .none (.bool false)), (TO, tup [.none, .none]), (i1, o1), (i2, o2)] ++ (Sx, lst [] e) :: own := List.mem_append_left _ (.tail _ (.tail _ (.tail _ (.head _))))
  have a0 : (TO, tup [.none, .none]) ∈ [(z, zipO TI TO .none (.bool false)), (TO, tup [.none, .none]), (i1, o1), (i2, o2)] ++ (Sx, lst [] e) :: own := List.mem_append_left _ (.tail _ (.head _))
  refine wpAny_bind (wpAny_pyNext_zip_item D (F5.at (.head _)) (F5.keep _ _ hTI) (F5.at a0) ⟨o1, F5.at a1, L1⟩ ⟨o2, F5.at a2, L2⟩ (⟨_, F5.keep _ _ h1, rfl, n1, rfl⟩ : Heap.IsList _ l1 xs.toArray)
      (⟨_, F5.keep _ _ h2, rfl, n2, rfl⟩ : Heap.IsList _ l2 ys.toArray) (x := xs[0]) (y := ys[0]) (by simp [hpos]) (by simp [hlt']) fun h' b1 b0 b2 b3 b4 b5 b6 => ?_)
  obtain ⟨o1', c1, L1'⟩ := LI.of b2
  obtain ⟨o2', c2, L2'⟩ := LI.of b3
  have F6 : Fx g L h' m ([(z, zipO TI TO (rawInt s.heap.objs.size) (.bool false)), (TO, tup [xs[0], ys[0]]), (i1, o1'), (i2, o2')] ++ (Sx, lst [] e) :: own) := by
    refine F5.updMany rfl (fun p hp => ?_) fun b o hb e => b6 b o (fun q => hb (by simp [q])) (fun q => hb (by simp [q])) (fun q => hb (by simp [q])) (fun q => hb (by simp [q])) e
    simp only [List.mem_cons, List.not_mem_nil, or_false] at hp
    rcases hp with rfl | rfl | rfl | rfl
    · exact b1
    · exact b0
    · exact c1
    · exact c2
  have hL0 : ∃ oL, s.heap.get? L = some oL := by obtain ⟨_, ⟨oL, _, _, e0, _⟩, _⟩ := F5.ns; exact ⟨oL, e0⟩
  have hO : ∀ p ∈ [(z, zipO TI TO (rawInt s.heap.objs.size) (.bool false)), (TO, tup [xs[0], ys[0]]), (i1, o1'), (i2, o2')] ++ (Sx, lst [] e) :: own, ∃ o, s.heap.get? p.1 = some o := by
    intro p hp
    rcases List.mem_append.mp hp with hp | hp
    · simp only [List.mem_cons, List.not_mem_nil, or_false] at hp
      rcases hp with rfl | rfl | rfl | rfl
      · exact ⟨_, F5.at (.head _)⟩
      · exact ⟨_, F5.at a0⟩
      · exact ⟨_, F5.at a1⟩
      · exact ⟨_, F5.at a2⟩
    · exact ⟨_, F5.at (o := p.2) (List.mem_append_right _ hp)⟩
  have hnone : s.heap.get? s.heap.objs.size = none := by
    cases q : s.heap.get? s.heap.objs.size with
    | none => rfl
    | some o => exact absurd (Heap.lt_size q) (Nat.lt_irrefl _)
  obtain ⟨g2, hs2, F7, ha2⟩ := fresh_snap (own := own) F6 hL0 hO hnone b4
  have F8 : Fx g2 L h' m ((TO, tup [xs[0], ys[0]]) :: ([(z, zipO TI TO (rawInt s.heap.objs.size) (.bool false)), (i1, o1'), (i2, o2')] ++ (Sx, lst [] e) :: own)) := F7.swap
  have F9 := F8.drop.up
  show wpAny _ A.in1 (updateSeq Sx (·.push (.ref s.heap.objs.size)) >>= _) _ _ _
  have ho := F9.head
  have ee : Obj.mapSeq (·.push (Value.ref s.heap.objs.size)) (lst [] e) = lst [.ref s.heap.objs.size] (e + 1) := by unfold Obj.mapSeq lst; simp
  refine wpAny_bind (wpAny_updateSeq ho rfl (wpAny_pure ⟨plainId_quiet PySem.F.plain_extend_loop _, ?_⟩) (by show ([] : List Value).toArray.size ≤ sizeLine; rw [List.size_toArray]; exact le_line (by simp)) (by show (([] : List Value).toArray.push (.ref s.heap.objs.size)).size ≤ sizeLine + 1; rw [Array.size_push, List.size_toArray]; exact Nat.succ_le_succ (le_line (by simp))))
  have Fa := (F9.upd (o' := lst [.ref s.heap.objs.size] (e + 1)) (Heap.SameBut.update ..) (by rw [← ee]; exact Heap.get?_update_self _ ho (by rw [ee]; rfl))).down
  refine zip_loop (s₀ := s) (g := g) hh D hn hxy _ g2 _ s.toks [.ref s.heap.objs.size] (e + 1) (.bool false) o1' o2' rfl (by simp; lia) hs2 ?_ (by simpa using L1') (by simpa using L2') ha2 (hs2 _ _ hTI) (hs2 _ _ h1) (hs2 _ _ h2) Fa ?_
  · intro j hj
    have : j = 0 := by simpa using hj
    subst this
    exact ⟨_, xs[0], ys[0], rfl, by simp, by simp, ha2⟩
  · intro g'' h'' tk'' acc'' e'' s'' ln'' z'' F''
    exact hR g'' h'' tk'' acc'' e'' (hs2.trans s'') ln'' z'' F''
theorem r_listZip {z TI TO i1 i2 l1 l2 : Addr} {o1 o2 : Obj} {d : Nat} {Q : Value → Shared → Prop} (R : Rm A d) (D : ZipApart z TI TO i1 i2 l1 l2) (L1 : LI o1 l1 0) (L2 : LI o2 l2 0) (hTI : g.get? TI = some (tup [.ref i1, .ref i2]))
    (h1 : g.get? l1 = some (lst xs n1)) (h2 : g.get? l2 = some (lst ys n2)) (hxy : xs.length = ys.length) (hpos : 0 < xs.length) (hn : xs.length ≤ 900)
    (F : Fx g L s.heap m ([(z, zipO TI TO .none (.bool false)), (TO, tup [.none, .none]), (i1, o1), (i2, o2)] ++ own))
    (h : ∀ g' a acc e h' tk, Sub g g' → acc.length = xs.length → Zipped g' xs ys acc → Fx g' L h' m ((a, lst acc e) :: own) → Q (.ref a) { s with heap := h', toks := tk }) :
    wpAny (Mo w) A (call (.type "list") [.ref z]) Q E s := by
  refine callType_codes (Q₁ := fun obj s₁ => obj = .ref s.heap.objs.size ∧ s₁ = { s with heap := s.heap.push { cls := .type "list", data := .seq #[] } }) PySem.F.called_list (PySem.F.typeCall_list_1 _) PySem.F.entry_list_init
    (code_list_new _ ⟨rfl, rfl⟩) fun obj s₁ h₁ => ?_
  obtain ⟨rfl, rfl⟩ := h₁
  have F1 := F.pushOwn (lst [] 0)
  have hS : (s.heap.push { cls := .type "list", data := .seq #[] }).get? s.heap.objs.size = some (lst [] 0) := F1.head
  refine ⟨⟨_, hS, rfl⟩, PySem.F.args_list_init_2 _ _, ?_⟩
  show wpAny _ A.in1.in1 (do let old ← Builtin.List.listItems (.ref s.heap.objs.size); Builtin.List.listUpdate (.ref s.heap.objs.size) (fun _ => #[]); letGo old.toList.reverse; Builtin.List.listExtendWith (.ref s.heap.objs.size) (.ref z) .none) _ _ _
  refine wpAny_bind ?_
  unfold Builtin.List.listItems
  refine wpAny_bind (wpAny_seqItems hS rfl (wpAny_pure ?_))
  show wpAny _ A.in1.in1 (updateSeq s.heap.objs.size (fun _ => #[]) >>= fun _ => letGo (#[] : Array Value).toList.reverse >>= fun _ => Builtin.List.listExtendWith (.ref s.heap.objs.size) (.ref z) .none) _ _ _
  refine wpAny_bind (wpAny_updateSeq hS rfl ?_)
  have F2 := F1.upd (o' := lst [] 0) (Heap.SameBut.update ..) (Heap.get?_update_self (Obj.mapSeq (fun _ => (#[] : Array Value))) hS rfl)
  refine wpAny_bind (wpAny_letGo ?_)
  have hzS : s.heap.objs.size ≠ z := fun e => by
    have := (List.nodup_cons.mp F1.nd).1
    exact this (by rw [e]; simp)
  have hz2 := F2.at (.tail _ (.head _))
  unfold Builtin.List.listExtendWith
  refine wpAny_bind (wpAny_typeOf ⟨_, hz2, rfl⟩ ?_)
  have q1 : Builtin.List.listSameRef (.ref s.heap.objs.size) (.ref z) = false := by simp [Builtin.List.listSameRef, hzS]
  have q2 : (Value.type "zip" == Value.type "list") = false := by decide
  have q3 : (Value.type "zip" == Value.type "tuple") = false := by decide
  simp only [q1, q2, q3, Bool.or_false, Bool.false_eq_true, if_false]
  refine wpAny_bind (wpAny_pyIter_zip hz2 ?_)
  refine wpAny_bind (wpAny_holding ?_)
  unfold Builtin.List.listLengthHint
  refine wpAny_bind (wpAny_specialOf ⟨_, hz2, rfl⟩ zip_no_len ?_)
  show wpAny _ A.in1.in1 (specialOf (Value.ref z) (Str.ofString "__length_hint__") >>= _) _ _ _
  refine wpAny_bind (wpAny_specialOf ⟨_, hz2, rfl⟩ zip_no_hint ?_)
  refine wpAny_pure ?_
  show wpAny _ A.in1.in1 (rule "list.extend.makes-room" >>= fun _ => Builtin.List.listTouch (.ref s.heap.objs.size) >>= fun _ =>
    again (.builtin "list.extend.loop" ⟨[.ref s.heap.objs.size, .ref z, .none], []⟩)) _ _ _
  refine wpAny_bind (wpAny_rule ?_)
  refine wpAny_bind ?_
  show wpAny _ A.in1.in1 (updateSeq s.heap.objs.size (·.push .none) >>= fun _ => updateSeq s.heap.objs.size (·.pop)) _ _ _
  refine wpAny_bind (wpAny_updateSeq F2.head rfl ?_)
  have F3 := F2.upd (o' := lst [.none] 1) (Heap.SameBut.update ..) (Heap.get?_update_self (Obj.mapSeq (·.push Value.none)) F2.head rfl)
  refine wpAny_updateSeq (hz := by seq_fits) F3.head rfl ?_
  have F4 := F3.upd (o' := lst [] 2) (Heap.SameBut.update ..) (Heap.get?_update_self (Obj.mapSeq (·.pop)) F3.head rfl)
  have F5 : Fx g L _ m ([(z, zipO TI TO .none (.bool false)), (TO, tup [.none, .none]), (i1, o1), (i2, o2)] ++ (s.heap.objs.size, lst [] 2) :: own) := F4.down
  refine wpAny_pure ⟨plainId_quiet PySem.F.plain_extend_loop _, zip_first R.handled D L1 L2 hTI h1 h2 hxy hpos hn F5 ?_⟩
  intro g'' h'' tk'' acc'' e'' s'' ln'' z'' F''
  exact ⟨rfl, h g'' _ acc'' e'' h'' tk'' s'' ln'' z'' F''⟩
end
/-! lists: len, item, +, +=, *, slices -/
section
variable {w : World} {A : Around} {E : Value → Shared → Prop} {s : Shared} {env : Env} {g : Heap} {L : Addr} {own : Own} {l : List (Str × Value)} {m : Str → Option Value}
theorem r_len_lst {a : Addr} {vs : List Value} {n : Nat} {Q : Value → Shared → Prop} (ho : s.heap.get? a = some (lst vs n)) (hl : vs.length ≤ 1000) (h : ∀ k tk, Q (.int vs.length k) { s with toks := tk }) :
    wpAny (Mo w) A (call (.builtin "len") [.ref a]) Q E s := by
  refine len_list (⟨_, ho, rfl, n, rfl⟩ : Heap.IsList _ a vs.toArray) (by rw [List.size_toArray]; lia) ?_
  rw [List.size_toArray]; exact h _ _
theorem r_item_lst {value slice : Expr} {a : Addr} {vs : List Value} {n : Nat} {i : Int} {u : Tok} {x : Value} {Q : Value → Shared → Prop} (ho : s.heap.get? a = some (lst vs n)) (h0 : 0 ≤ i) (hi : i ≤ 1000) (hx : vs[i.toNat]? = some x) (h : Q x s)
    (hs : subscripted slice false (.ref a) (.int i u) = operate [.ref a, .int i u] (getItem (.ref a) (.int i u)) := by with_unfolding_all rfl) (hg : ∀ r, letTemporaryGo value (.ref a) r = pure () := by intro _; with_unfolding_all rfl) :
    wpAny (Mo w) A (subscriptTail value slice (.ref a) (.int i u)) Q E s :=
  item_listL (⟨_, ho, rfl, n, rfl⟩ : Heap.IsList _ a vs.toArray) h0 (by lia) hx h hs hg
theorem r_add_lsts {a b : Addr} {vs ws : List Value} {n k : Nat} {Q : Value → Shared → Prop} (F : Fx g L s.heap m own) (ha : s.heap.get? a = some (lst vs n)) (hb : s.heap.get? b = some (lst ws k)) (hl : vs.length + ws.length ≤ 1000)
    (h : ∀ c h', Fx g L h' m ((c, lst (vs ++ ws) 0) :: own) → Q (.ref c) { s with heap := h' }) : wpAny (Mo w) A (binaryOp .Add (.ref a) (.ref b)) Q E s := by
  have e : vs.toArray ++ ws.toArray = (vs ++ ws).toArray := by simp
  refine concat_meets ⟨_, ha, rfl⟩ ⟨_, hb, rfl⟩ noFill_list_add seq_list_add PySem.F.slot_list_add PySem.F.entry_list_add (PySem.F.args_list_add_2 _ _) (list_addW a b vs.toArray ws.toArray n k none none #[] #[] (by simpa using le_line hl)) ⟨ha, hb, ?_⟩
  rw [e]
  exact h _ _ (F.pushOwn _)
theorem not_long {n : Nat} (h : n ≤ 1000000) : ¬ Builtin.List.listTooLong n = true := by
  unfold Builtin.List.listTooLong
  simp only [decide_eq_true_eq, Nat.not_lt, gt_iff_lt]
  exact Nat.le_trans h (by decide)
theorem seq_list_iadd : seqSlot? (.type "list") (dunderI "add") = pure (some (.builtin "list.__iadd__")) := PySem.seqSlot_of PySem.F.slot_list_iadd.lookup (by decide +kernel)
theorem r_iadd_lst {a b : Addr} {vs ws : List Value} {n k : Nat} {Q : Value → Shared → Prop} (F : Fx g L s.heap m ((a, lst vs n) :: own)) (hb : s.heap.get? b = some (lst ws k)) (hl : vs.length + ws.length ≤ 1000)
    (h : ∀ h' e, Fx g L h' m ((a, lst (vs ++ ws) e) :: own) → Q (.ref a) { s with heap := h' }) : wpAny (Mo w) A (inplaceOp .Add (.ref a) (.ref b)) Q E s := by
  have ha := F.head
  have hT : s.TypeIs (.ref a) "list" := ⟨_, ha, rfl⟩
  have hU : s.TypeIs (.ref b) "list" := ⟨_, hb, rfl⟩
  unfold inplaceOp
  refine wpAny_holding ?_
  have hfi : fillsInplaceSlot (.type "list") "add" (Operator.Add == .Add) = pure false := by
    unfold fillsInplaceSlot
    show (typeLookup (.type "list") (dunderI "add") >>= fun fi => pure (fi.isSome && !isSeqSlot fi)) = pure false
    rw [PySem.F.slot_list_iadd.lookup]; rfl
  refine wpAny_bind (wpAny_typeOf hT (wpAny_bind (wpAny_of_eq hfi ?_)))
  show wpAny _ A (if false = true then _ else _) Q E s
  rw [if_neg Bool.false_ne_true]
  refine wpAny_bind (wpAny_binaryOp1_none (nm := "add") hT hU noFill_list_add ?_)
  refine wpAny_bind (wpAny_of_eq seq_list_iadd ?_)
  refine wpAny_bind (wpAny_rule ?_)
  obtain ⟨n', e⟩ : ∃ n', Obj.mapSeq (fun x => x ++ ws.toArray) (lst vs n) = lst (vs ++ ws) n' := by
    by_cases hw : ws = []
    · exact ⟨n, by unfold Obj.mapSeq lst; simp [hw]⟩
    · exact ⟨n + 1, by unfold Obj.mapSeq lst; simp [hw]⟩
  refine call_meets PySem.F.slot_list_iadd hT PySem.F.entry_list_iadd (PySem.F.args_list_iadd_2 _ _)
    (AutoSeq1.list___iadd___list_list_0 a vs.toArray n b ws.toArray k (fun q => not_long (n := vs.toArray.size + ws.toArray.size) (by simp; lia) (by simp only [Bool.and_eq_true] at q; exact q.2)) (by simpa using le_line (by lia : vs.length ≤ 1000)) (by simp; exact Nat.le_succ_of_le (le_line hl))) ⟨ha, hb, ?_⟩
  refine h _ n' (F.upd (Heap.SameBut.update ..) ?_)
  rw [← e]
  exact Heap.get?_update_self _ ha (by rw [e]; rfl)
theorem r_mul_lst {a : Addr} {vs : List Value} {n : Nat} {x : Int} {u : Tok} {Q : Value → Shared → Prop} (F : Fx g L s.heap m own) (ha : s.heap.get? a = some (lst vs n)) (hne : vs ≠ []) (h0 : -1000 ≤ x) (hx : x ≤ 1000) (hl : vs.length ≤ 1000)
    (h : ∀ c h', Fx g L h' m ((c, lst (List.replicate x.toNat vs).flatten 0) :: own) → Q (.ref c) { s with heap := h' }) : wpAny (Mo w) A (binaryOp .Mult (.ref a) (.int x u)) Q E s := by
  have hle : vs.toArray.size * x.toNat ≤ 1000 * 1000 := Nat.mul_le_mul (by simpa using hl) (by lia)
  refine wpAny_binaryOp_repeat_ref (T := "list") (U := "int") (by decide) ⟨_, ha, rfl⟩ (fun s' => typeIs_int s' x u) noFill_list_mul PySem.F.fills_int_mul PySem.F.slot_int_rmul repeat_list PySem.F.slot_int_index.lookup
    (call_meets PySem.F.slot_int_rmul (typeIs_int s x u) PySem.F.entry_int_rmul (PySem.F.args_int_rmul_2 _ _) (int___rmul___int_list x u a vs.toArray n)
      ⟨ha, rfl, ⟨_, ha, rfl⟩, call_meets PySem.F.slot_list_mul ⟨_, ha, rfl⟩ PySem.F.entry_list_mul (PySem.F.args_list_mul_2 _ _)
        (AutoListH.list___mul___list_int_3 a vs.toArray n x u (by simp [Builtin.List.listFitsIndex]; lia) (by lia) (not_long (by lia)))
        ⟨ha, ?_⟩⟩)
  rw [if_neg (by simpa using hne), listMul_foldl]
  exact h _ _ (by simpa using F.pushOwn (lst (List.replicate x.toNat vs).flatten 0))
theorem r_slice_lst {h : Heap} {value slice : Expr} {a b : Addr} {vs : List Value} {n : Nat} {vl vu : Value} {lo hi : Option Int} {Q : Value → Shared → Prop} (F : Fx g L h m own)
    (he : s.heap = h.push { cls := .type "slice", data := .fields #[vl, vu, .none] }) (hb : b = h.objs.size) (ha : h.get? a = some (lst vs n)) (pl : IsPart vl lo) (pu : IsPart vu hi) (hl : vs.length ≤ 1000)
    (k : ∀ c h', Fx g L h' m ((c, lst (slicePick vs.toArray lo hi none).toList 0) :: own) → Q (.ref c) { s with heap := h' })
    (hs : subscripted slice false (.ref a) (.ref b) = operate [.ref b, .ref a] (getItem (.ref a) (.ref b)) := by with_unfolding_all rfl)
    (ht : ∀ r, letTemporaryGo value (.ref a) r = pure () := by intro _; with_unfolding_all rfl) :
    wpAny (Mo w) A (subscriptTail value slice (.ref a) (.ref b)) Q E s := by
  obtain ⟨hp, g1, d1, t1, o1⟩ := s
  dsimp only at he
  subst he hb
  have hI : h.IsList a vs.toArray := ⟨_, ha, rfl, n, rfl⟩
  refine subscriptTail_ops (Heap.IsList.typeIs (s := ⟨h.push { cls := .type "slice", data := .fields #[vl, vu, .none] }, g1, d1, t1, o1⟩) (hI.push _)) list_getitem_lookup
    (wpAny_getItem_list_slice (hI.push _) (Heap.IsSliceOf.new ..) pl pu .none (by simp) ?_ (by simpa using le_line hl)) hs ht
  refine k _ _ ?_
  simpa using ((F.push { cls := .type "slice", data := .fields #[vl, vu, .none] }).pushOwn (lst (slicePick vs.toArray lo hi none).toList 0))
end
set_option compiler.extract_closed false in
local macro_rules | `(tactic| walk_at "S") => `(tactic| first
  | ((with_reducible show wpAny _ _ (eval (Expr.Name _ _) _) _ _ _); first
      | refine r_name (by assumption) (by rfl) ?_
      | refine r_cellG (by assumption) (by rfl) (by assumption) (by assumption) ?_
      | refine r_freeG (by assumption) (by rfl) (by assumption) (by assumption) ?_
      | refine r_global (by assumption) (by assumption) (by rfl) ?_)
  | ((with_reducible show wpAny _ _ (subscriptTail _ _ (Value.ref _) (Value.int _ _)) _ _ _); refine r_item_lst (Fx.keep (by assumption) _ _ (by assumption)) (by lia) (by lia) (by assumption) ?_)
  | fail "no step"
  )
/-- whole numbers as they lie in a list -/
def NatsR (vs : List Value) (xs : List Nat) : Prop := vs.length = xs.length ∧ ∀ (i : Nat) x v, xs[i]? = some x → vs[i]? = some v → ∃ k, v = .int (x : Nat) k
theorem NatsR.nil : NatsR [] [] := ⟨rfl, fun i x v h _ => by simp at h⟩
theorem NatsR.cons {vs : List Value} {xs : List Nat} {x : Nat} {k : Tok} (r : NatsR vs xs) : NatsR (.int (x : Nat) k :: vs) (x :: xs) := by
  refine ⟨by simp [r.1], fun i q u h1 h2 => ?_⟩
  cases i with
  | zero => simp at h1 h2; subst h1 h2; exact ⟨k, rfl⟩
  | succ i => simp at h1 h2; exact r.2 i q u h1 h2
theorem NatsR.append {vs ws : List Value} {xs ys : List Nat} (r : NatsR vs xs) (q : NatsR ws ys) : NatsR (vs ++ ws) (xs ++ ys) := by
  refine ⟨by simp [r.1, q.1], fun i x u h1 h2 => ?_⟩
  by_cases hi : i < xs.length
  · rw [List.getElem?_append_left hi] at h1
    rw [List.getElem?_append_left (by rw [r.1]; exact hi)] at h2
    exact r.2 i x u h1 h2
  · rw [List.getElem?_append_right (by lia)] at h1
    rw [List.getElem?_append_right (by rw [r.1]; lia), r.1] at h2
    exact q.2 _ x u h1 h2
theorem NatsR.one {x : Nat} {k : Tok} : NatsR [.int (x : Nat) k] [x] := .cons .nil
theorem NatsR.snoc {vs : List Value} {xs : List Nat} {x : Nat} {k : Tok} (r : NatsR vs xs) : NatsR (vs ++ [.int (x : Nat) k]) (xs ++ [x]) := r.append .one
theorem NatsR.get {vs : List Value} {xs : List Nat} {i x : Nat} (r : NatsR vs xs) (h : xs[i]? = some x) : ∃ k, vs[i]? = some (.int (x : Nat) k) := by
  have hi : i < vs.length := by rw [r.1]; exact (List.getElem?_eq_some_iff.mp h).1
  obtain ⟨k, e⟩ := r.2 i x vs[i] h (by simp)
  exact ⟨k, by rw [← e]; simp⟩
def manyF (t : List Nat) (i : Nat) : Nat := (parseF (t.take i ++ [122])).length
def cutsF (t : List Nat) : List Nat := (List.range t.length).filter fun i => decide (manyF t i < manyF t (i + 1))
def stretchesF (t : List Nat) : List (Nat × Nat) := (0 :: (cutsF t).map (· + 1)).zip (cutsF t ++ [t.length])
theorem parseF_len (t : List Nat) : (parseF t).length ≤ t.length + 1 := by
  have := prun_bounds t t.length (Nat.le_refl _)
  rw [List.take_length] at this
  unfold parseF pparts
  split <;> simp <;> lia

theorem Zipped.prs {g : Heap} {xs ys acc : List Value} {as bs : List Nat} (z : Zipped g xs ys acc) (hx : NatsR xs as) (hy : NatsR ys bs) (hl : acc.length = xs.length) (hxy : xs.length = ys.length) : Prs g acc (as.zip bs) := by
  have h1 := hx.1
  have h2 := hy.1
  refine ⟨by rw [List.length_zip]; lia, fun i p v e1 e2 => ?_⟩
  have hi : i < acc.length := (List.getElem?_eq_some_iff.mp e2).1
  obtain ⟨a, x, y, q1, q2, q3, q4⟩ := z i hi
  rw [q1] at e2
  cases e2
  obtain ⟨pa, pb⟩ := p
  rw [List.getElem?_zip_eq_some] at e1
  obtain ⟨k1, rfl⟩ := hx.2 i pa x e1.1 q2
  obtain ⟨k2, rfl⟩ := hy.2 i pb y e1.2 q3
  exact ⟨a, k1, k2, rfl, q4⟩
theorem stretches_call {w : World} {A : Around} {E : Value → Shared → Prop} {s : Shared} {g : Heap} {L : Addr} {own : Own} {m : Str → Option Value} {Q : Value → Shared → Prop} {d : Nat}
    {t : List Nat} {ut : Tok} (F : Fx g L s.heap m own) (R : Rm A (d + 2)) (W : Wd w g) (hl : t.length ≤ 99)
    (h : ∀ g' a vs n h' tk, Sub g g' → Fx g' L h' m own → g'.get? a = some (lst vs n) → Prs g' vs (stretchesF t) → Q (.ref a) { s with heap := h', toks := tk }) :
    wpAny (Mo w) A (call (.ref 66) [.str (S t) ut]) Q E s := by
  refine r_enterC (fd := fdOf w 66) (binds := [(Str.ofString "text", .str (S t) ut)]) (l := []) F R W (W.K 66 _ rfl) rfl (codeRec_of W.K (by rfl)) rfl rfl rfl (by rfl) (of_decide_eq_true rfl) (by intro p hp; cases hp) rfl rfl rfl ?_
  intro L' h₁ tk₁ oL cs R' hcs F' back
  obtain ⟨o1, cs1, rfl, d1, o2, cs2, rfl, d2, rfl⟩ := hcs
  have d1 : o1.data = .cell none := d1
  have d2 : o2.data = .cell (some (.str (S t) ut)) := d2
  refine Fx.freezeK (F'.swap) ?_
  intro g1 s1 F1 m2
  dsimp only at m2
  have W1 := W.mono s1
  clear F F'
  walk_at "S"
  walk_at "S"
  have F1 : Fx g1 L' h₁ (mp []) ([] ++ (L' + 1 + 1, o1) :: (L, oL) :: own) := F1
  simp only [List.nil_append] at F1
  refine r_comp (cl := [(Str.ofString "text", L' + 1)]) ?_ (by rfl) (by rfl) (by intro y hy; revert y; exact of_decide_eq_true rfl)
  repeat walk_at "S"
  refine r_iter_range (by assumption) (by lia) (by lia) (by lia) (by lia) ?_
  intro I oI St h2 it st F2
  refine ⟨I, rfl, ?_⟩
  refine r_comp_block (mine := []) R' it goOk_name (by lia) (fun i g3 ys mine3 => mine3 = [] ∧ NatsR ys ((List.range i).map (manyF t))) ⟨rfl, .nil⟩ (fun i g3 ys mine3 hj => by have := hj.2.1; simp at this; lia) F2 st
    (by intro y hy; revert y; exact of_decide_eq_true rfl) (by rfl) ?_ ?_
  · rintro i v g3 ys e3 mine3 h3 tk3 oI3 D C oL3 hi ⟨k, rfl⟩ hs3 ⟨rfl, hys⟩ F3
    simp only [List.nil_append] at F3
    have m2 := hs3 _ _ m2
    have W3 := W1.mono hs3
    have R3 := R'
    clear F1 F2
    repeat walk_at "S"
    refine wpAny_tests_nil ?_
    rw [if_pos rfl]
    repeat walk_at "S"
    refine parse_call (by assumption) R' (by assumption) (by simp; lia) ?_
    intro g4 a4 vs4 n4 h4 tk4 s4 F4 ha4 hv4
    have hpl := parseF_len (t.take (0 + (i : Int)).toNat ++ [122])
    rw [← hv4.1] at hpl
    simp only [List.length_append, List.length_take, List.length_cons, List.length_nil] at hpl
    repeat walk_at "S"
    refine r_len_lst (vs := vs4) (F4.keep _ _ ha4) (by lia) ?_
    intro k5 tk5
    refine (CompEnd.of g4 [] s4 ⟨rfl, rfl, ?_⟩ (Fx.take 0 (by assumption)))
    rw [List.range_succ, List.map_append, List.map_cons, List.map_nil]
    have e : vs4.length = manyF t i := by rw [hv4.1]; unfold manyF; simp
    rw [e]
    exact hys.snoc
  · rintro g3 ys e3 mine3 h3 tk3 D C oL3 m3 hs3 ⟨rfl, hys⟩ hfr F3
    refine compPost_none hfr F3 ?_
    intro h4 F4
    simp only [List.nil_append] at F4
    refine Fx.freezeK F4 ?_
    intro g5 hs5 F5 hD
    dsimp only at hD
    have m2 := hs5 _ _ (hs3 _ _ m2)
    have W5 := W1.mono (hs3.trans hs5)
    refine r_storeCell F5 (by rfl) d1 ?_
    intro h6 o6 d6 F6
    refine Fx.freezeK F6 ?_
    intro g7 hs7 F7 m7
    dsimp only at m7
    have m2 := hs7 _ _ m2
    have hD := hs7 _ _ hD
    have W7 := W5.mono hs7
    rw [show ((t.length : Int) + 1 - 0).toNat = t.length + 1 by lia] at hys
    have hyl := hys.1
    simp only [List.length_map, List.length_range] at hyl
    clear F1 F2 F3 F4 F5 F6
    dsimp only
    walk_at "S"
    refine r_compA (cl := [(Str.ofString "many", L' + 1 + 1)]) ?_ (by rfl) (by rfl) (by rfl) (by intro y hy; revert y; exact of_decide_eq_true rfl)
    repeat walk_at "S"
    refine r_iter_range (by assumption) (by lia) (by lia) (by lia) (by lia) ?_
    intro I' oI' St' h8 it8 st8 F8
    refine ⟨I', rfl, ?_⟩
    refine r_comp_block (mine := []) R' it8 goOk_name (by lia) (fun i g3 ys mine3 => mine3 = [] ∧ NatsR ys ((List.range i).filter fun i => decide (manyF t i < manyF t (i + 1)))) ⟨rfl, .nil⟩
      (fun i g3 ys mine3 hj => by have := hj.2.1; have q := List.length_filter_le (fun i => decide (manyF t i < manyF t (i + 1))) (List.range i); simp at q; lia) F8 st8
      (by intro y hy; revert y; exact of_decide_eq_true rfl) (by rfl) ?_ ?_
    · rintro i v g9 zs e9 mine9 h9 tk9 oI9 D9 C9 oL9 hi ⟨k, rfl⟩ hs9 ⟨rfl, hzs⟩ F9
      simp only [List.nil_append] at F9
      have m7 := hs9 _ _ m7
      have hD := hs9 _ _ hD
      clear F8
      repeat walk_at "S"
      refine wpAny_tests_one ?_
      have hi' : i < t.length := by lia
      obtain ⟨ka, ea⟩ := hys.get (i := i) (x := manyF t i) (by rw [List.getElem?_map, List.getElem?_range (by lia)]; rfl)
      obtain ⟨kb, eb⟩ := hys.get (i := i + 1) (x := manyF t (i + 1)) (by rw [List.getElem?_map, List.getElem?_range (by lia)]; rfl)
      have ea' : ys[(0 + (i : Int)).toNat]? = some (.int (manyF t i : Nat) ka) := by rw [show (0 + (i : Int)).toNat = i by lia]; exact ea
      have eb' : ys[(0 + (i : Int) + 1).toNat]? = some (.int (manyF t (i + 1) : Nat) kb) := by rw [show (0 + (i : Int) + 1).toNat = i + 1 by lia]; exact eb
      repeat walk_at "S"
      by_cases hq : manyF t i < manyF t (i + 1)
      · rw [if_pos (by simpa using hq)]
        repeat walk_at "S"
        refine (CompEnd.of g9 [] (.refl _) ⟨rfl, rfl, ?_⟩ (Fx.take 0 (by assumption)))
        rw [List.range_succ, List.filter_append, List.filter_cons_of_pos (by simpa using hq), List.filter_nil, show (0 + (i : Int)) = (i : Nat) by lia]
        exact hzs.snoc
      · rw [if_neg (by simpa using hq)]
        refine (CompEnd.of g9 [] (.refl _) ⟨rfl, ?_⟩ (Fx.take 0 (by assumption)))
        rw [List.range_succ, List.filter_append, List.filter_cons_of_neg (by simpa using hq), List.filter_nil, List.append_nil]
        exact hzs
    · rintro g9 zs e9 mine9 h9 tk9 D9 C9 oL9 m9 hs9 ⟨rfl, hzs⟩ hfr9 F9
      refine compPost_some hfr9 F9 ?_ (by rfl) (by rfl) (by rfl)
      intro h10 tk10 F10
      simp only [List.nil_append] at F10
      refine Fx.freezeK F10 ?_
      intro g11 hs11 F11 hD9
      dsimp only at hD9
      have m2 := hs11 _ _ (hs9 _ _ m2)
      have W11 := W7.mono (hs9.trans hs11)
      rw [show ((t.length : Int) - 0).toNat = t.length by lia] at hzs
      have hzs : NatsR zs (cutsF t) := hzs
      have hzl := hzs.1
      have hcl : (cutsF t).length ≤ t.length := by have := List.length_filter_le (fun i => decide (manyF t i < manyF t (i + 1))) (List.range t.length); simpa [cutsF] using this
      clear F7 F8 F9 F10
      dsimp only
      repeat walk_at "S"
      refine r_comp (cl := []) ?_ (by rfl) (by rfl) (by intro y hy; revert y; exact of_decide_eq_true rfl)
      repeat walk_at "S"
      refine r_iter_list (by assumption) hD9 ?_
      intro I' oI' St' h12 it12 go12 st12 F12
      refine ⟨I', rfl, ?_⟩
      refine r_comp_block (mine := []) R' it12 goOk_name (by lia) (fun i g3 ys mine3 => mine3 = [] ∧ NatsR ys (((cutsF t).take i).map (· + 1))) ⟨rfl, .nil⟩
        (fun i g3 ys mine3 hj => by have := hj.2.1; simp at this; lia) F12 st12 (by intro y hy; revert y; exact of_decide_eq_true rfl) (by rfl) ?_ ?_
      · rintro i v g13 ys13 e13 mine13 h13 tk13 oI13 D13 C13 oL13 hi hv hs13 ⟨rfl, hys13⟩ F13
        simp only [List.nil_append] at F13
        obtain ⟨x, hx⟩ : ∃ x, (cutsF t)[i]? = some x := ⟨(cutsF t)[i]'(by lia), by simp⟩
        obtain ⟨kx, rfl⟩ := hzs.2 i x v hx hv
        clear F11 F12
        repeat walk_at "S"
        refine wpAny_tests_nil ?_
        rw [if_pos rfl]
        repeat walk_at "S"
        refine (CompEnd.of g13 [] (.refl _) ⟨rfl, rfl, ?_⟩ (Fx.take 0 (by assumption)))
        rw [List.take_add_one, hx, List.map_append]
        exact hys13.snoc (x := x + 1)
      · rintro g13 ys13 e13 mine13 h13 tk13 D13 C13 oL13 m13 hs13 ⟨rfl, hys13⟩ hfr13 F13
        refine compPost_none hfr13 F13 ?_
        intro h14 F14
        simp only [List.nil_append] at F14
        rw [hzl, List.take_length] at hys13
        have hl13 := hys13.1
        rw [List.length_map] at hl13
        have W14 := W11.mono hs13
        have hD9 := hs13 _ _ hD9
        have m2 := hs13 _ _ m2
        refine r_add_lsts F14 (F14.at (.tail _ (.head _))) F14.head (by simp; lia) ?_
        intro c15 h15 F15
        refine Fx.freezeK F15 ?_
        intro g16 hs16 F16 hc15
        dsimp only at hc15
        have W16 := W14.mono hs16
        have hD9 := hs16 _ _ hD9
        have m2 := hs16 _ _ m2
        have F17 := F16.drop.drop
        clear F11 F12 F13 F14 F15 F16
        repeat walk_at "S"
        rename_i F18
        refine r_add_lsts F18 (F18.keep _ _ hD9) F18.head (by simp; lia) ?_
        intro c19 h19 F19
        refine Fx.freezeK F19 ?_
        intro g20 hs20 F20 hc19
        dsimp only at hc19
        have hc15 := hs20 _ _ hc15
        have F21 := F20.drop
        clear F18 F19 F20
        repeat walk_at "S"
        refine r_zip F21 hc15 hc19 ?_
        intro z TI TO i1 i2 p1 p2 g22 h22 hs22 D22 L1 L2 hTI F22
        have hc15 := hs22 _ _ hc15
        have hc19 := hs22 _ _ hc19
        clear F21
        repeat walk_at "S"
        refine r_listZip R' D22 L1 L2 hTI hc15 hc19 (by simp; lia) (by simp) (by simp; lia) F22 ?_
        intro g23 a23 acc23 e23 h23 tk23 hs23 hl23 hz23 F23
        refine Fx.freezeK F23 ?_
        intro g24 hs24 F24 ha24
        refine h g24 a23 acc23 e23 _ _ (s1.trans (hs3.trans (hs5.trans (hs7.trans (hs9.trans (hs11.trans (hs13.trans (hs16.trans (hs20.trans (hs22.trans (hs23.trans hs24))))))))))) (back _ _ _ F24) ha24 ?_
        exact (hz23.mono hs24).prs (NatsR.cons (x := 0) hys13) hzs.snoc hl23 (by simp; lia)
/-! attributes of functions -/
open Builtin Builtin.ObjectAttr
theorem slot_fn_setattr : Slot "function" "__setattr__" "object.__setattr__" :=
  .of (owner := "object") (n := "__setattr__") (by rw [typeLookup_type, builtinLookup_eq_fast]; kernel_rfl) (by decide +kernel) (by decide +kernel) (by decide +kernel)
    (by first | exact .inl (by decide +kernel) | exact .inr (by decide +kernel)) (by rw [isSubtype_type]; kernel_rfl)
theorem fn_hasDict : typeHasDict (.type "function") = true := by decide +kernel
theorem mro_fn : mroOf (.type "function") = pure [.type "function", .type "object"] := by kernel_rfl
theorem own_fn_setattr : classOwn (.type "function") "__setattr__" = pure none := by
  show (pure (builtinOwn "function" "__setattr__") : Sem (Option Value)) = _
  rw [builtinOwn_eq_fast]; kernel_rfl
theorem fn_no_span : typeLookup (.type "function") "span" = pure none := by rw [typeLookup_type, builtinLookup_eq_fast]; kernel_rfl
theorem fn_no_search : typeLookup (.type "function") "search" = pure none := by rw [typeLookup_type, builtinLookup_eq_fast]; kernel_rfl
theorem fn_refuse (self : Value) : refuseLoop self "__setattr__" [.type "function", .type "object"] = pure () := by
  unfold refuseLoop
  simp only [List.forIn_cons, own_fn_setattr, PySem.F.own_object_setattr]
  kernel_rfl
section
variable {w : World} {A : Around} {E : Value → Shared → Prop} {h : Heap} {g : Array GenState} {d : Drawn} {t : Nat} {os : OsState} {x : Addr} {name : Str} {v : Value}
theorem fn_store {tk : Tok} {o : Obj} {fd : FuncData} {Q : PySem.Fin → Shared → Prop} (hx : h.get? x = some o) (hc : o.cls = .type "function") (hdn : o.dict = none) (hdd : o.data = .func fd) (hB : typeLookup (.type "function") name = pure none)
    (hq : ∀ h' tk', h'.get? x = some { o with dict := some h.objs.size } → h'.Ns1 h.objs.size (fun y => if y = name then some v else none) → (∀ b ob, b ≠ x → h.get? b = some ob → h'.get? b = some ob) → Q (.done (.ret .none)) ⟨h', g, d, tk', os⟩) :
    wpAny (Mo w) A (Builtin.«object.__setattr__» ⟨[.ref x, .str name tk, v], []⟩) Q E ⟨h, g, d, t, os⟩ := by
  have hpass := fn_refuse (.ref x)
  unfold Builtin.«object.__setattr__»
  repeat (first | rw [refuse_eq] | rw [mro_fn] | (rw [hpass]) | (with_reducible refine wpAny_loadPart_at hx ?_; rw [hc]) | rw [hB] | wp_step)
  rw [hdn, if_neg (by rw [fn_hasDict]; decide)]
  rw [hdd]
  have hx₁ : (h.push { cls := .type "dict", data := .dict #[] }).get? x = some o := Heap.get?_push_of_some _ hx
  have hxs : x ≠ h.objs.size := Nat.ne_of_lt (Heap.lt_size hx)
  refine wpAny_bind (wpAny_alloc' ?_)
  refine wpAny_bind (wpAny_update' hx₁ ?_)
  have hdm : dictMade (.type "function") x h.objs.size = pure (some h.objs.size) := by unfold dictMade; rfl
  rw [hdm]
  refine wpAny_pure ?_
  have hgd : ((h.push { cls := .type "dict", data := .dict #[] }).update x fun o => { cls := o.cls, dict := some h.objs.size, data := o.data, slots := o.slots }).get? h.objs.size
      = some { cls := .type "dict", data := .dict #[] } :=
    (Heap.get?_update_ne _ _ _ _ hxs.symm).trans (Heap.get?_push_at rfl rfl)
  have hnd : ((h.push { cls := .type "dict", data := .dict #[] }).update x fun o => { cls := o.cls, dict := some h.objs.size, data := o.data, slots := o.slots }).Ns h.objs.size (fun _ => none) :=
    ⟨_, #[], _, hgd, rfl, fun e he => absurd he (by simp), fun _ => rfl⟩
  show wpAny _ _ (storeInDict h.objs.size (.str name tk) name v) _ _ _
  unfold storeInDict newKeyGuard
  refine wpAny_bind (wpAny_pure (wpAny_bind (wpAny_nsSet1 (Heap.Ns1.of_empty hnd) fun h' hn' hs => ?_)))
  obtain ⟨oD, esD, epD, hoD, hdD, hcD⟩ := hn'.count (Within.cons name v Within.nil)
  refine wpAny_bind (wpAny_lookBehind hoD (by rw [hdD]; exact pastItsLine_dict (Nat.le_trans hcD (by rw [List.length_cons, List.length_nil, sizeLine_eq]; lia))) ?_)
  wp_walk
  refine hq h' _ ?_ hn' (fun b ob hbx hb => ?_)
  · refine (hs.2 x hxs).trans (Heap.get?_update_self _ hx₁ ?_)
    have hfr := (Heap.get?_some_iff.mp hx).2
    obtain ⟨oc, od, odt, osl⟩ := o
    cases odt <;> first | rfl | exact hfr
  · exact (hs.2 b (Nat.ne_of_lt (Heap.lt_size hb))).trans ((Heap.get?_update_ne _ _ _ _ hbx).trans (Heap.get?_push_of_some _ hb))
theorem fn_setAttr {o : Obj} {fd : FuncData} {Q : Unit → Shared → Prop} {s : Shared} (hx : s.heap.get? x = some o) (hc : o.cls = .type "function") (hdn : o.dict = none) (hdd : o.data = .func fd) (hB : typeLookup (.type "function") name = pure none)
    (hq : ∀ h' tk', h'.get? x = some { o with dict := some s.heap.objs.size } → h'.Ns1 s.heap.objs.size (fun y => if y = name then some v else none) → (∀ b ob, b ≠ x → s.heap.get? b = some ob → h'.get? b = some ob) → Q () { s with heap := h', toks := tk' }) :
    wpAny (Mo w) A (setAttr (.ref x) name v) Q E s := by
  unfold setAttr
  refine wpAny_bind (wpAny_mkText ?_)
  have hT : ({ s with toks := s.toks + 1 } : Shared).TypeIs (.ref x) "function" := ⟨_, hx, hc⟩
  refine wpAny_bind (wpAny_callSpecial?_slot (name := Str.ofString "__setattr__") hT slot_fn_setattr (wpAny_call_entry slot_fn_setattr hT PySem.F.entry_object_setattr ?_ (PySem.F.args_object_setattr_3 _ _ _)))
  refine fn_store hx hc hdn hdd hB fun h' tk' h1 h2 h3 => ?_
  exact ⟨_, rfl, wpAny_pure (hq h' tk' h1 h2 h3)⟩
end
open Builtin Builtin.ObjectAttr
theorem slot_fn_ga : Slot "function" "__getattribute__" "object.__getattribute__" :=
  .of (owner := "object") (n := "__getattribute__") (by rw [typeLookup_type, builtinLookup_eq_fast]; kernel_rfl) (by decide +kernel) (by decide +kernel) (by decide +kernel)
    (by first | exact .inl (by decide +kernel) | exact .inr (by decide +kernel)) (by rw [isSubtype_type]; kernel_rfl)
theorem fn_no_getattr : typeLookup (.type "function") "__getattr__" = pure none := by rw [typeLookup_type, builtinLookup_eq_fast]; kernel_rfl
section
variable {w : World} {A : Around} {E : Value → Shared → Prop} {h : Heap} {g : Array GenState} {d : Drawn} {t : Nat} {os : OsState} {x : Addr} {name : Str} {v : Value}
theorem fn_load {tk : Tok} {o : Obj} {fd : FuncData} {D : Addr} {mA : Str → Option Value} {Q : PySem.Fin → Shared → Prop} (hx : h.get? x = some o) (hc : o.cls = .type "function") (hdx : o.dict = some D) (hdd : o.data = .func fd)
    (hB : typeLookup (.type "function") name = pure none) (hns : h.Ns D mA) (hv : mA name = some v) (hq : Q (.done (.ret v)) ⟨h, g, d, t, os⟩) :
    wpAny (Mo w) A (Builtin.«object.__getattribute__» ⟨[.ref x, .str name tk], []⟩) Q E ⟨h, g, d, t, os⟩ := by
  unfold Builtin.«object.__getattribute__»
  repeat (first | (with_reducible refine wpAny_loadPart_at hx ?_; rw [hc]) | rw [hB] | wp_step)
  rw [hdd]
  dsimp only
  unfold instanceDict
  repeat (first | (with_reducible refine wpAny_loadPart_at hx ?_; rw [hc]) | wp_step)
  rw [hdx]
  repeat (first | (with_reducible refine wpAny_nsGet hns ?_; rw [hv]) | wp_step)
  exact hq
theorem fn_method {s : Shared} {o : Obj} {fd : FuncData} {D : Addr} {mA : Str → Option Value} {pl : Sem Bool} {Q : Value × List Value → Shared → Prop} (hx : s.heap.get? x = some o) (hc : o.cls = .type "function") (hdx : o.dict = some D) (hdd : o.data = .func fd)
    (hB : typeLookup (.type "function") name = pure none) (hns : s.heap.Ns D mA) (hv : mA name = some v) (hh : handedOut v = pure v) (hq : ∀ tk, Q (v, []) { s with toks := tk }) :
    wpAny (Mo w) A (getMethod (.ref x) name pl) Q E s := by
  have hT : s.TypeIs (.ref x) "function" := ⟨_, hx, hc⟩
  unfold getMethod
  refine wpAny_bind (wpAny_specialOf hT slot_fn_ga.lookup ?_)
  show wpAny _ _ (if (Manifest.canonical "object.__getattribute__" != "object.__getattribute__") = true then _ else _) _ _ _
  rw [if_neg (by rw [PySem.F.canon_object_ga]; decide)]
  refine wpAny_bind (wpAny_specialOf hT fn_no_getattr ?_)
  show wpAny _ _ (specialOf (.ref x) name >>= _) _ _ _
  refine wpAny_bind (wpAny_specialOf hT hB ?_)
  show wpAny _ _ (getAttr (.ref x) name >>= _) _ _ _
  refine wpAny_bind ?_
  unfold getAttr getAttrBy
  refine wpAny_bind (wpAny_mkText (wpAny_holding ?_))
  have hT1 : ({ s with toks := s.toks + 1 } : Shared).TypeIs (.ref x) "function" := ⟨_, hx, hc⟩
  refine wpAny_bind (wpAny_typeOf hT1 (wpAny_bind (wpAny_of_eq slot_fn_ga.lookup ?_)))
  show wpAny _ _ (getAttrByItsOwn (Value.ref x) (Value.str name s.toks) (Value.type "function") (.builtin "object.__getattribute__") true false) _ _ _
  unfold getAttrByItsOwn
  refine wpAny_bind (wpAny_pure ?_)
  refine wpAny_bind (wpAny_attempt (wpAny_holding ?_))
  show wpAny _ _ (boundAndCalled (.builtin "object.__getattribute__") (.ref x) (.str name s.toks)) _ _ _
  unfold boundAndCalled
  refine wpAny_bind (wpAny_of_eq (slot_fn_ga.bind _) ?_)
  show wpAny _ _ (call (.builtin "object.__getattribute__") [.ref x, .str name s.toks]) _ _ _
  refine wpAny_call_entry slot_fn_ga hT1 PySem.F.entry_object_getattribute ?_ (PySem.F.args_object_getattribute_2 _ _)
  refine fn_load hx hc hdx hdd hB hns hv ⟨_, rfl, ?_⟩
  show wpAny _ _ (handedOut v) _ _ _
  rw [hh]
  exact wpAny_pure (wpAny_pure (hq _))
end
/-! functions made in a run: lambdas and defs -/
def Bm (g : Heap) : Prop := ∃ mg bm ob, g.Ns mainGlobals mg ∧ mg "__builtins__" = some (.ref bm) ∧ bm ≠ builtinsNs ∧ g.get? bm = some ob ∧ ob.cls = .type "module" ∧ ob.dict = some builtinsNs ∧ ob.data = .plain
theorem Bm.mono {g g' : Heap} (B : Bm g) (h : Sub g g') : Bm g' := let ⟨mg, bm, ob, a, b, c, d, e⟩ := B; ⟨mg, bm, ob, a.keeps h, b, c, h _ _ d, e⟩
/-- the table of a code's inner codes: c the code, P the table -/
structure Tab (g : Heap) (c P : Addr) (q : Pos → Str) (ps : Array Value) : Prop where
  hd : CodeHd g c P
  ok : TriplesOk ps.toList
  rcs : ∀ pos cv, codeAmong pos ps.toList = some cv → g.CodeRec cv (q pos)
  same : ∀ p p' : Pos, p.line = p'.line → p.col = p'.col → q p = q p'
theorem Tab.mono {g g' : Heap} {c P : Addr} {q : Pos → Str} {ps : Array Value} (T : Tab g c P q ps) (h : Sub g g') : Tab g' c P q ps :=
  ⟨T.hd.keeps h, T.ok, fun pos cv e => (T.rcs pos cv e).keeps h, T.same⟩
theorem codeAmong_app {pos' : Pos} {a b : Int} {c cv : Value} : ∀ (l : List Value), TriplesOk l → codeAmong pos' (l ++ [rawInt a, rawInt b, c]) = some cv → codeAmong pos' l = some cv ∨ (a = pos'.line ∧ b = pos'.col ∧ cv = c)
  | [], _, h => by
    simp only [List.nil_append, rawInt, codeAmong] at h
    split at h
    · rename_i q
      simp only [Bool.and_eq_true, beq_iff_eq] at q
      cases h
      exact .inr ⟨q.1, q.2, rfl⟩
    · cases h
  | .int l1 _ :: .int l2 _ :: x :: rest, ok, h => by
    simp only [List.cons_append, codeAmong] at h ⊢
    split at h
    · rename_i q; rw [if_pos q]; exact .inl h
    · rename_i q; rw [if_neg q]; exact codeAmong_app rest ok h
abbrev fnD (name qual : Str) (params : Arguments) (body : FuncBody) (scope : Scope) (cl : List (Str × Addr)) (dV pm cv ct : Value) : FuncData :=
  { name, qualname := qual, params, body, scope, globals := mainGlobals, closure := cl, defaults := dV, kwdefaults := .none, doc := .none, pyModule := pm, annotations := none, code := cv, closureTuple := ct, builtins := builtinsNs }
abbrev fnB (name qual : Str) (params : Arguments) (body : FuncBody) (scope : Scope) (cl : List (Str × Addr)) (dV pm cv ct : Value) (b : Addr) (doc : Value) : FuncData :=
  { name, qualname := qual, params, body, scope, globals := mainGlobals, closure := cl, defaults := dV, kwdefaults := .none, doc, pyModule := pm, annotations := none, code := cv, closureTuple := ct, builtins := b }
abbrev fnO (name qual : Str) (params : Arguments) (body : FuncBody) (scope : Scope) (cl : List (Str × Addr)) (dV pm cv ct : Value) : Obj := { cls := .type "function", data := .func (fnD name qual params body scope cl dV pm cv ct) }
section
variable {w : World} {A : Around} {E : Value → Shared → Prop} {s : Shared} {env : Env} {g : Heap} {L c P : Addr} {own : Own} {l : List (Str × Value)} {m : Str → Option Value} {q : Pos → Str} {ps : Array Value} {name qual : Str} {params : Arguments} {body : FuncBody} {scope : Scope} {cl : List (Str × Addr)} {pos : Pos} {firstLine : Nat}
theorem r_functionCode {Q : Value → Shared → Prop} (F : Fx g L s.heap m ((P, tabObj ps) :: own)) (T : Tab g c P q ps) (hcode : env.code = .ref c) (hq : q pos = qual)
    (h : ∀ g' ps' cv h' tk, Sub g g' → Tab g' c P q ps' → g'.CodeRec cv qual → Fx g' L h' m ((P, tabObj ps') :: own) → Q cv { s with heap := h', toks := tk }) :
    wpAny (Mo w) A (functionCode env pos firstLine name qual params scope body) Q E s := by
  have C := T.hd.keeps F.keep
  cases hf : codeAmong pos ps.toList with
  | some cv => exact wpAny_functionCode_hit hcode (C.code F.head T.ok) hf (h g ps cv s.heap s.toks (.refl _) T (hq ▸ T.rcs _ _ hf) F)
  | none =>
    refine wpAny_functionCodeX hcode (C.code F.head T.ok) (C.tab F.head) hf fun c' h' tk hx hge hlt _ hrec htb _ => ?_
    have F1 := F.updX (fun b o hb e => hx b o hb e) htb.2
    obtain ⟨c2, oc, vs, tq, e2, hoc, hd, hv⟩ := hrec
    cases e2
    have hn : s.heap.get? c' = none := by
      cases e : s.heap.get? c' with
      | none => rfl
      | some o => exact absurd (Heap.lt_size e) (Nat.not_lt.mpr hge)
    have hL0 : ∃ oL, s.heap.get? L = some oL := by obtain ⟨_, ⟨oL, _, _, e0, _⟩, _⟩ := F.ns; exact ⟨oL, e0⟩
    obtain ⟨g2, hs2, F2, hc2⟩ := fresh_snap (own := own) F1 hL0 (fun p hp => by
      rcases List.mem_cons.mp hp with rfl | hp
      · exact ⟨_, F.head⟩
      · exact ⟨_, F.at (o := p.2) (.tail _ hp)⟩) hn hoc
    have hr : g2.CodeRec (.ref c') qual := ⟨c', oc, vs, tq, rfl, hc2, hd, hv⟩
    have el : (ps ++ #[rawInt pos.line, rawInt pos.col, .ref c']).toList = ps.toList ++ [rawInt pos.line, rawInt pos.col, .ref c'] := by simp
    refine h g2 _ (.ref c') h' tk hs2 ⟨T.hd.keeps hs2, ?_, fun pos' cv e => ?_, T.same⟩ hr F2
    · rw [el]; exact TriplesOk_snoc _ _ _ _ T.ok
    · rw [el] at e
      rcases codeAmong_app _ T.ok e with e | ⟨e1, e2, rfl⟩
      · exact (T.rcs _ _ e).keeps hs2
      · rw [T.same pos' pos (by lia) (by lia), hq]; exact hr
theorem r_makeTail {dV : Value} {Q : Value → Shared → Prop} (F : Fx g L s.heap m ((P, tabObj ps) :: own)) (T : Tab g c P q ps) (B : Bm g) (hcl : closureFor scope env = pure cl) (hcode : env.code = .ref c) (hq : q pos = qual)
    (hdoc : (match body with | .stmts b => docOf b | .expr _ => none) = none)
    (h : ∀ g' ps' pm cv ct f h' tk, Sub g g' → Tab g' c P q ps' → g'.CodeRec cv qual → Fx g' L h' m ((f, fnO name qual params body scope cl dV pm cv ct) :: (P, tabObj ps') :: own) → Q (.ref f) { s with heap := h', toks := tk })
    (hge0 : env.globals = mainGlobals := by rfl) :
    wpAny (Mo w) A (makeTail name qual params body scope env dV .none none pos firstLine) Q E s := by
  have step : ∀ (ct : Value) (s1 : Shared), (∃ h1, s1 = { s with heap := h1 }) → Fx g L s1.heap m ((P, tabObj ps) :: own) → wpAny (Mo w) A (functionCode env pos firstLine name qual params scope body >>= fun code =>
      builtinsFor mainGlobals env.builtins >>= fun b => nsGet mainGlobals "__name__" >>= fun n => (pure Value.none : Sem Value) >>= fun doc => newObj (.type "function") (.func (fnB name qual params body scope cl dV (n.getD .none) code ct b doc))) Q E s1 := by
    rintro ct s1 ⟨h1, rfl⟩ F1
    refine wpAny_bind (r_functionCode F1 T hcode hq fun g' ps' cv h' tk hs T' hr F' => ?_)
    obtain ⟨mg, bm, ob, b1, b2, b3, b4, b5, b6, b7⟩ := B.mono hs
    have hg' := b1.keeps F'.keep
    refine wpAny_bind (wpAny_builtinsFor hg' b2 b3 (F'.keep _ _ b4) b5 b6 b7 ?_)
    refine wpAny_bind (wpAny_nsGet hg' ?_)
    exact wpAny_bind (wpAny_pure (wpAny_newObj_type (h g' ps' _ cv ct _ _ tk hs T' hr (F'.pushOwn _)) (by size_fits)))
  unfold makeTail
  rw [hcl, hge0]
  refine wpAny_bind (wpAny_pure ?_)
  cases body with
  | stmts b =>
    simp only at hdoc
    simp only [hdoc]
    cases cl with
    | nil =>
      simp only [List.isEmpty_nil, if_true]
      exact wpAny_bind (wpAny_pure (step _ _ ⟨s.heap, rfl⟩ F))
    | cons y r =>
      simp only [List.isEmpty_cons, Bool.false_eq_true, if_false]
      exact wpAny_bind (wpAny_newTextTuple (step _ _ ⟨_, rfl⟩ (F.push _)))
  | expr e =>
    cases cl with
    | nil =>
      simp only [List.isEmpty_nil, if_true]
      exact wpAny_bind (wpAny_pure (step _ _ ⟨s.heap, rfl⟩ F))
    | cons y r =>
      simp only [List.isEmpty_cons, Bool.false_eq_true, if_false]
      exact wpAny_bind (wpAny_newTextTuple (step _ _ ⟨_, rfl⟩ (F.push _)))
theorem r_lambda {e : Expr} {Q : Value → Shared → Prop} (F : Fx g L s.heap m ((P, tabObj ps) :: own)) (T : Tab g c P q ps) (B : Bm g) (hcl : closureFor scope env = pure cl) (hcode : env.code = .ref c) (hq : q pos = env.qual ++ "<lambda>")
    (hdef : defaultsOf params env = ([], []))
    (h : ∀ g' ps' pm cv ct f h' tk, Sub g g' → Tab g' c P q ps' → g'.CodeRec cv (env.qual ++ "<lambda>") → Fx g' L h' m ((f, fnO "<lambda>" (env.qual ++ "<lambda>") params (.expr e) scope cl .none pm cv ct) :: (P, tabObj ps') :: own) → Q (.ref f) { s with heap := h', toks := tk })
    (hge0 : env.globals = mainGlobals := by rfl) :
    wpAny (Mo w) A (eval (.Lambda params e scope pos) env) Q E s := by
  refine kla_eval hdef ?_
  rw [makeFunction_eq]
  simp only [List.zip_nil_right, List.filterMap_nil, List.isEmpty_nil, if_true, pure_bind]
  exact r_makeTail F T B hcl hcode hq rfl h hge0
/-- a call of a function with a body of one expression -/
theorem r_enterE {f : Addr} {o : Obj} {fd : FuncData} {body : Expr} {vs : List Value} {binds : List (Str × Value)} {d : Nat} {Q : Value → Shared → Prop}
    (F : Fx g L s.heap m own) (R : Rm A (d + 1)) (W : Wd w g) (ho : g.get? f = some o) (hd : o.data = .func fd) (hc : g.CodeRec fd.code fd.qualname) (hb : fd.body = .expr body)
    (hbind : BindsTo s fd ⟨vs, []⟩ binds) (hcell : ∀ x ∈ fd.scope.names, x.2 ≠ .cell) (hloc : ∀ x ∈ binds, fd.scope.names.lookup x.1 = some .local)
    (hco : fd.scope.isCoroutine = false) (hgen : fd.scope.isGenerator = false) (hk : fd.scope.kind = .function)
    (h : ∀ L' h₁ oL, Rm (A.deeper (callEnv fd L' f)) d → Fx g L' h₁ (mp binds.reverse) ((L, oL) :: own) → (∀ g₁ h₁ m₁ {own' : Own}, Fx g₁ L' h₁ m₁ ((L, oL) :: own') → Fx g₁ L h₁ m own') →
      wpAny (Mo w) (A.deeper (callEnv fd L' f)) (eval body (callEnv fd L' f)) Q (fun _ _ => False) { s with heap := h₁, toks := s.toks + binds.length }) :
    wpAny (Mo w) A (call (.ref f) vs) Q E s := by
  refine wpAny_call (kla_callFunE R.room (F.keep _ _ ho) hd hco hgen hb (hc.keeps F.keep) (hbind _ _ _ _ ?_))
  refine wpAny_newFunctionEnv hcell hloc (fun h₁ hns hsb => ⟨(W.lim.keeps F.keep).fresh _ hsb, ?_⟩) hk
  have hk₁ : Sub s.heap h₁ := fun b o e => hsb.extBut b o (Nat.ne_of_lt (Heap.lt_size e)) (Heap.get?_push_of_some _ e)
  obtain ⟨oL, F', back⟩ := F.enter hk₁ (NsP.of hns) rfl
  exact kla_codeExpr (wpAny_mono (h _ h₁ oL (R.in _) F' back) (fun _ _ q => q) fun _ _ x => x.elim)
/-- x.name(args) where x is a function with attributes -/
theorem r_callAttr0 {o : Expr} {name : Str} {apos pos : Pos} {Q : Value → Shared → Prop}
    (h : wpAny (Mo w) A (eval o env) (fun ov s₁ => ∃ x ox fd D mA f of fd', ov = .ref x ∧ s₁.heap.get? x = some ox ∧ ox.cls = .type "function" ∧ ox.dict = some D ∧ ox.data = .func fd ∧ s₁.heap.Ns D mA ∧ mA name = some (.ref f) ∧ s₁.heap.get? f = some of ∧ of.data = .func fd' ∧
      ∀ tk, wpAny (Mo w) A (call (.ref f) []) Q E { s₁ with toks := tk }) E s)
    (hB : typeLookup (.type "function") name = pure none) (hbase : attributeBase o name env (eval o env) = eval o env := by rfl) (hline : (apos.endLine == pos.line) = true := by rfl) :
    wpAny (Mo w) A (eval (.Call (.Attribute o name apos) [] [] pos) env) Q E s := by
  rw [arm_eval_Call, hbase]
  refine wpAny_bind (wpAny_mono h (fun ov s₁ h₁ => ?_) fun _ _ e => e)
  obtain ⟨x, ox, fd, D, mA, f, of, fd', rfl, hx, hc, hd, hdd, hn, hv, hf, hfd, hcall⟩ := h₁
  refine wpAny_bind (wpAny_standAt ?_)
  have hform : methodCallForm (([] : List Expr).length + ([] : List Keyword).length) (backTo pos (starEach [] env)) (backToKw pos (keywordEach [] env)) = true := by rfl
  have hpos : methodCallPos true o env apos pos = pure pos := by unfold methodCallPos; simp [hline]
  unfold methodCall
  rw [hform]
  refine wpAny_bind (wpAny_holding (fn_method hx hc hd hdd hB hn hv rfl fun tk => ?_))
  refine wpAny_bind (wpAny_of_eq hpos ?_)
  exact callWith_F0 ⟨of.cls, of.dict, fd', of.slots, by rw [← hfd]; exact hf⟩ (hcall tk)
theorem r_callAttr {o e : Expr} {rest : List Expr} {name : Str} {apos pos : Pos} {Q : Value → Shared → Prop}
    (h : wpAny (Mo w) A (eval o env) (fun ov s₁ => ∃ x ox fd D mA f of fd', ov = .ref x ∧ s₁.heap.get? x = some ox ∧ ox.cls = .type "function" ∧ ox.dict = some D ∧ ox.data = .func fd ∧ s₁.heap.Ns D mA ∧ mA name = some (.ref f) ∧ s₁.heap.get? f = some of ∧ of.data = .func fd' ∧
      ∀ tk, wpAny (Mo w) A (spliced (backTo pos (starEach (e :: rest) env))) (fun vs s₂ => s₂.heap.get? f = some of ∧ wpAny (Mo w) A (call (.ref f) vs) Q E s₂) E { s₁ with toks := tk }) E s)
    (hB : typeLookup (.type "function") name = pure none) (hbase : attributeBase o name env (eval o env) = eval o env := by rfl) (hline : (apos.endLine == pos.line) = true := by rfl)
    (hform : methodCallForm ((e :: rest).length + ([] : List Keyword).length) (backTo pos (starEach (e :: rest) env)) (backToKw pos (keywordEach [] env)) = true := by rfl)
    (he : starEach (e :: rest) env = (false, eval e env) :: starEach rest env := by rfl) (hplain : (backTo pos (starEach rest env)).any (·.1) = false := by rfl) :
    wpAny (Mo w) A (eval (.Call (.Attribute o name apos) (e :: rest) [] pos) env) Q E s := by
  rw [arm_eval_Call, hbase]
  refine wpAny_bind (wpAny_mono h (fun ov s₁ h₁ => ?_) fun _ _ e => e)
  obtain ⟨x, ox, fd, D, mA, f, of, fd', rfl, hx, hc, hd, hdd, hn, hv, hf, hfd, hcall⟩ := h₁
  refine wpAny_bind (wpAny_standAt ?_)
  have hpos : methodCallPos true o env apos pos = pure pos := by unfold methodCallPos; simp [hline]
  unfold methodCall
  rw [hform]
  refine wpAny_bind (wpAny_holding (fn_method hx hc hd hdd hB hn hv rfl fun tk => ?_))
  refine wpAny_bind (wpAny_of_eq hpos ?_)
  exact callWith_F ⟨of.cls, of.dict, fd', of.slots, by rw [← hfd]; exact hf⟩ (wpAny_mono (hcall tk) (fun vs s₂ h₂ => ⟨⟨of.cls, of.dict, fd', of.slots, by rw [← hfd]; exact h₂.1⟩, h₂.2⟩) fun _ _ e => e) he hplain
end
/-- what a function gives back for no arguments: the pair (a, b) -/
def SpanOk (w : World) (g : Heap) (f : Addr) (a b : Int) : Prop := ∀ (g' : Heap) (A : Around) (d : Nat) (s : Shared) (L : Addr) (m : Str → Option Value) (own : Own) (Q : Value → Shared → Prop) (E : Value → Shared → Prop), Sub g g' → Fx g' L s.heap m own → Rm A (d + 1) → Wd w g' →
  (∀ T h' tk k1 k2, Fx g' L h' m ((T, tup [.int a k1, .int b k2]) :: own) → Q (.ref T) { s with heap := h', toks := tk }) → wpAny (Mo w) A (call (.ref f) []) Q E s
/-- a function with an attribute -/
def AttrAt (g : Heap) (x : Addr) (name : Str) (f : Addr) : Prop := ∃ ox fd D oD of fd', g.get? x = some ox ∧ ox.cls = .type "function" ∧ ox.dict = some D ∧ ox.data = .func fd ∧ g.get? D = some oD ∧ IsFrame oD (mp [(name, .ref f)]) ∧ g.get? f = some of ∧ of.data = .func fd'
theorem AttrAt.mono {g g' : Heap} {x f : Addr} {name : Str} (X : AttrAt g x name f) (h : Sub g g') : AttrAt g' x name f :=
  let ⟨ox, fd, D, oD, of, fd', a, b, c, d, e, i, j, k⟩ := X; ⟨ox, fd, D, oD, of, fd', h _ _ a, b, c, d, h _ _ e, i, h _ _ j, k⟩
def HitAt (w : World) (g : Heap) (v : Value) (a b : Int) : Prop := ∃ x f, v = .ref x ∧ AttrAt g x (Str.ofString "span") f ∧ SpanOk w g f a b
theorem HitAt.mono {w : World} {g g' : Heap} {v : Value} {a b : Int} (X : HitAt w g v a b) (h : Sub g g') : HitAt w g' v a b :=
  let ⟨x, f, e, i, j⟩ := X; ⟨x, f, e, i.mono h, fun g2 A d s L m own Q E hs => j g2 A d s L m own Q E (h.trans hs)⟩
noncomputable def qHit (w : World) : Pos → Str := fun _ => (callEnvC (fdOf w 73) 0 73).qual ++ "<lambda>"

theorem r_setAttr {w : World} {A : Around} {E : Value → Shared → Prop} {s : Shared} {g : Heap} {L : Addr} {own : Own} {m : Str → Option Value} {x : Addr} {o : Obj} {fd : FuncData} {name : Str} {v : Value} {Q : Unit → Shared → Prop}
    (F : Fx g L s.heap m ((x, o) :: own)) (hc : o.cls = .type "function") (hdn : o.dict = none) (hdd : o.data = .func fd) (hB : typeLookup (.type "function") name = pure none)
    (h : ∀ D oD h' tk, IsFrame oD (mp [(name, v)]) → Fx g L h' m ((D, oD) :: (x, { o with dict := some D }) :: own) → Q () { s with heap := h', toks := tk }) :
    wpAny (Mo w) A (setAttr (.ref x) name v) Q E s := by
  refine fn_setAttr F.head hc hdn hdd hB fun h' tk' h1 h2 h3 => ?_
  obtain ⟨oD, esD, epD, e1, e2, e3, eu, e4⟩ := h2
  have F1 := F.updX h3 h1
  have hfr : s.heap.get? s.heap.objs.size = none := by
    cases q : s.heap.get? s.heap.objs.size with
    | none => rfl
    | some o => exact absurd (Heap.lt_size q) (Nat.lt_irrefl _)
  refine h s.heap.objs.size oD h' tk' (fun h L e => ⟨_, ⟨oD, esD, epD, e, e2, e3, e4⟩, fun y u q => ?_⟩) ⟨F1.ns, F1.keep, F1.hid, fun p hp => ?_, ?_⟩
  · by_cases hy : y = name
    · subst hy; simpa [List.lookup] using q
    · simp [List.lookup, beq_no hy] at q
  · rcases List.mem_cons.mp hp with rfl | hp
    · exact ⟨e1, Nat.ne_of_gt F.lt, F.new⟩
    · exact F1.ow p hp
  · rw [List.map_cons]
    refine List.nodup_cons.mpr ⟨fun hm => ?_, F1.nd⟩
    have hm : s.heap.objs.size ∈ ((x, o) :: own).map (·.1) := hm
    obtain ⟨p, hp, e⟩ := List.mem_map.mp hm
    have := Heap.lt_size (F.ow p hp).1
    rw [e] at this
    exact Nat.lt_irrefl _ this

theorem hit_call {w : World} {A : Around} {E : Value → Shared → Prop} {s : Shared} {g : Heap} {L : Addr} {own : Own} {m : Str → Option Value} {Q : Value → Shared → Prop} {d : Nat} {ps : Array Value}
    {a b : Int} {ka kb : Tok} (F : Fx g L s.heap m ((68, tabObj ps) :: own)) (R : Rm A (d + 1)) (W : Wd w g) (B : Bm g) (T : Tab g 72 68 (qHit w) ps)
    (h : ∀ g' v h' tk ps', Sub g g' → Tab g' 72 68 (qHit w) ps' → Fx g' L h' m ((68, tabObj ps') :: own) → HitAt w g' v a b → Q v { s with heap := h', toks := tk }) :
    wpAny (Mo w) A (call (.ref 73) [.int a ka, .int b kb]) Q E s := by
  refine r_enterC (fd := fdOf w 73) (binds := [(Str.ofString "first", .int a ka), (Str.ofString "behind", .int b kb)]) (l := []) F R W (W.K 73 _ rfl) rfl (codeRec_of W.K (by rfl)) rfl rfl rfl (by rfl) (of_decide_eq_true rfl) (by intro p hp; cases hp) rfl rfl rfl ?_
  intro L' h₁ tk₁ oL cs R' hcs F' back
  obtain ⟨o1, cs1, rfl, d1, o2, cs2, rfl, d2, rfl⟩ := hcs
  have d1 : o1.data = .cell (some (.int b kb)) := d1
  have d2 : o2.data = .cell (some (.int a ka)) := d2
  refine Fx.freezeK F' ?_
  intro g1 s1 F1 m1
  refine Fx.freezeK F1 ?_
  intro g2 s2 F2 m2
  dsimp only at m1 m2
  have m1 := s2 _ _ m1
  have F3 : Fx g2 L' h₁ (mp []) ((68, tabObj ps) :: (L, oL) :: own) := F2.swap
  have W2 := W.mono (s1.trans s2)
  have B2 := B.mono (s1.trans s2)
  have T2 := T.mono (s1.trans s2)
  clear F F' F1 F2
  walk_at "S"
  walk_at "S"
  refine r_lambda (cl := []) F3 T2 B2 (by rfl) (by rfl) (by rfl) (by rfl) ?_
  intro g4 ps4 pm4 cv4 ct4 f4 h4 tk4 s4 T4 hr4 F4
  repeat walk_at "S"
  rename_i h5 F5
  have m1 := s4 _ _ m1
  have m2 := s4 _ _ m2
  refine plainObj_wpAny_Assign_Attribute ?_
  refine r_lambda (cl := [(Str.ofString "first", L' + 1), (Str.ofString "behind", L' + 1 + 1)]) F5.swap T4 (B2.mono s4) (by rfl) (by rfl) (by rfl) (by rfl) ?_
  intro g6 ps6 pm6 cv6 ct6 f6 h6 tk6 s6 T6 hr6 F6
  have m1 := s6 _ _ m1
  have m2 := s6 _ _ m2
  clear F3 F4 F5
  repeat walk_at "S"
  have F7 := F6.rot3
  refine r_setAttr F7 rfl rfl rfl fn_no_span ?_
  intro D oD h8 tk8 hD F8
  refine Fx.freezeK F8 ?_
  intro g9 s9 F9 n1
  refine Fx.freezeK F9 ?_
  intro g10 s10 F10 n2
  refine Fx.freezeK F10 ?_
  intro g11 s11 F11 n3
  dsimp only at n1 n2 n3
  have n1 := s11 _ _ (s10 _ _ n1)
  have n2 := s11 _ _ n2
  have s12 := s9.trans (s10.trans s11)
  have m1 := s12 _ _ m1
  have m2 := s12 _ _ m2
  have hr := hr6.keeps s12
  clear F6 F7 F8 F9 F10
  repeat walk_at "S"
  refine h g11 _ _ _ ps6 (s1.trans (s2.trans (s4.trans (s6.trans s12)))) (T6.mono s12) (back _ _ _ F11.swap) ⟨_, f6, rfl, ⟨_, _, D, oD, _, _, n2, rfl, rfl, rfl, n1, hD, n3, rfl⟩, ?_⟩
  clear F11 h
  intro g' A d s L m own Q E hs F R W hQ
  have m1 := hs _ _ m1
  have m2 := hs _ _ m2
  refine r_enterE (binds := []) F R W (hs _ _ n3) rfl (hr.keeps hs) rfl (BindsTo.of_eq (by rfl)) (by intro x hx; revert x; exact of_decide_eq_true rfl) (by intro x hx; cases hx) rfl rfl rfl ?_
  intro L2 h2 oL2 R2 F2 back2
  repeat walk_at "S"
  rename_i F3
  exact hQ _ _ _ _ _ (back2 _ _ _ F3.swap)
inductive Seat where
  | own (k : Nat)
  | mid (a b : Nat)
  | no
def SeatR (w : World) (g : Heap) (hv : List Value) : Seat → Value → Prop
  | .own k, v => hv[k]? = some v
  | .mid a b, v => HitAt w g v (a : Nat) (b : Nat)
  | .no, v => v = .none
def seatStep (ss : List Seat) (i : Nat) (p : Nat × Nat) : List Seat :=
  ss ++ List.replicate (p.1 + 1 - ss.length) (.own i) ++ (List.range (p.2 - (p.1 + 1))).map fun j => .mid (p.1 + 1 + j) p.2
def seatsF (ps : List (Nat × Nat)) : Nat → List Seat
  | 0 => []
  | n + 1 => match ps[n]? with
    | none => seatsF ps n
    | some p => seatStep (seatsF ps n) n p
def seatsAll (n : Nat) (ps : List (Nat × Nat)) : List Seat := seatsF ps ps.length ++ List.replicate (n + 2 - (seatsF ps ps.length).length) .no
def SeatsR (w : World) (g : Heap) (hv sv : List Value) (ss : List Seat) : Prop := sv.length = ss.length ∧ ∀ (i : Nat) x v, ss[i]? = some x → sv[i]? = some v → SeatR w g hv x v
def HitsR (w : World) (g : Heap) (hv : List Value) (ps : List (Nat × Nat)) : Prop := hv.length = ps.length ∧ ∀ (i : Nat) p v, ps[i]? = some p → hv[i]? = some v → HitAt w g v (p.1 : Nat) (p.2 : Nat)
/-- a search from a place on: what sits there -/
def SearchOk (w : World) (g : Heap) (f : Addr) (t : List Nat) (sv : List Value) : Prop := ∀ (g' : Heap) (A : Around) (d : Nat) (s : Shared) (L : Addr) (m : Str → Option Value) (own : Own) (Q : Value → Shared → Prop) (E : Value → Shared → Prop) (vs : List Value) (k : Tok) (j : Nat), Sub g g' → Fx g' L s.heap m own → Rm A (d + 1) → Wd w g' →
  ((vs = [.str (S t) k] ∧ j = 0) ∨ ∃ kj, vs = [.str (S t) k, .int (j : Nat) kj]) → j ≤ 1000 →
  (∀ h' tk, Fx g' L h' m own → Q ((sv[j]?).getD .none) { s with heap := h', toks := tk }) → wpAny (Mo w) A (call (.ref f) vs) Q E s
def ProgAt (w : World) (g : Heap) (v : Value) (t : List Nat) (sv : List Value) : Prop := ∃ x f, v = .ref x ∧ AttrAt g x (Str.ofString "search") f ∧ SearchOk w g f t sv
theorem ProgAt.mono {w : World} {g g' : Heap} {v : Value} {t : List Nat} {sv : List Value} (X : ProgAt w g v t sv) (h : Sub g g') : ProgAt w g' v t sv :=
  let ⟨x, f, e, i, j⟩ := X; ⟨x, f, e, i.mono h, fun g2 A d s L m own Q E vs k j' hs => j g2 A d s L m own Q E vs k j' (h.trans hs)⟩
noncomputable def qProg (w : World) : Pos → Str := fun p => if p.line == 102 then (callEnvC (fdOf w 78) 0 78).qual ++ "search" else (callEnvC (fdOf w 78) 0 78).qual ++ "<lambda>"

theorem seatsF_len {ps : List (Nat × Nat)} (hb : ∀ p ∈ ps, p.1 ≤ 20 ∧ p.2 ≤ 20) : ∀ i, (seatsF ps i).length ≤ 21 + 20 * i
  | 0 => by simp [seatsF]
  | i + 1 => by
    have ih := seatsF_len hb i
    unfold seatsF
    cases hp : ps[i]? with
    | none => simp only []; lia
    | some p =>
      have := hb p (List.mem_of_getElem? hp)
      simp only [seatStep, List.length_append, List.length_replicate, List.length_map, List.length_range]
      lia
section
variable {g h : Heap} {L : Addr} {m : Str → Option Value} {own : Own} {a b c d e f : Addr × Obj}
theorem Fx.p3 (F : Fx g L h m (a :: b :: c :: d :: own)) : Fx g L h m (d :: a :: b :: c :: own) := Fx.up (mine := [a, b, c]) F
theorem Fx.p4 (F : Fx g L h m (a :: b :: c :: d :: e :: own)) : Fx g L h m (e :: a :: b :: c :: d :: own) := Fx.up (mine := [a, b, c, d]) F
theorem Fx.p5 (F : Fx g L h m (a :: b :: c :: d :: e :: f :: own)) : Fx g L h m (f :: a :: b :: c :: d :: e :: own) := Fx.up (mine := [a, b, c, d, e]) F
theorem Fx.q2 (F : Fx g L h m (c :: a :: b :: own)) : Fx g L h m (a :: b :: c :: own) := Fx.down (mine := [a, b]) F
theorem Fx.q3 (F : Fx g L h m (d :: a :: b :: c :: own)) : Fx g L h m (a :: b :: c :: d :: own) := Fx.down (mine := [a, b, c]) F
theorem Fx.q4 (F : Fx g L h m (e :: a :: b :: c :: d :: own)) : Fx g L h m (a :: b :: c :: d :: e :: own) := Fx.down (mine := [a, b, c, d]) F
theorem Fx.q5 (F : Fx g L h m (f :: a :: b :: c :: d :: e :: own)) : Fx g L h m (a :: b :: c :: d :: e :: f :: own) := Fx.down (mine := [a, b, c, d, e]) F
end
theorem SeatsR.mono {w : World} {g g' : Heap} {hv sv : List Value} {ss : List Seat} (r : SeatsR w g hv sv ss) (h : Sub g g') : SeatsR w g' hv sv ss :=
  ⟨r.1, fun i x v h1 h2 => by
    have := r.2 i x v h1 h2
    cases x with
    | own k => exact this
    | mid a b => exact HitAt.mono this h
    | no => exact this⟩
theorem SeatsR.more {w : World} {g : Heap} {hv sv : List Value} {ss : List Seat} {v : Value} (r : SeatsR w g hv sv ss) : SeatsR w g (hv ++ [v]) sv ss :=
  ⟨r.1, fun i x v h1 h2 => by
    have := r.2 i x v h1 h2
    cases x with
    | own k =>
      have q : hv[k]? = some v := this
      show (hv ++ [_])[k]? = some v
      rw [List.getElem?_append_left (List.getElem?_eq_some_iff.mp q).1]; exact q
    | mid a b => exact this
    | no => exact this⟩
theorem SeatsR.append {w : World} {g : Heap} {hv sv tv : List Value} {ss ts : List Seat} (r : SeatsR w g hv sv ss) (q : SeatsR w g hv tv ts) : SeatsR w g hv (sv ++ tv) (ss ++ ts) := by
  refine ⟨by simp [r.1, q.1], fun i x u h1 h2 => ?_⟩
  by_cases hi : i < ss.length
  · rw [List.getElem?_append_left hi] at h1
    rw [List.getElem?_append_left (by rw [r.1]; exact hi)] at h2
    exact r.2 i x u h1 h2
  · rw [List.getElem?_append_right (by lia)] at h1
    rw [List.getElem?_append_right (by rw [r.1]; lia), r.1] at h2
    exact q.2 _ x u h1 h2
theorem SeatsR.rep {w : World} {g : Heap} {hv : List Value} {x : Seat} {v : Value} (h : SeatR w g hv x v) (n : Nat) : SeatsR w g hv (List.replicate n [v]).flatten (List.replicate n x) := by
  rw [lm_rep_flat_one]
  refine ⟨by simp, fun i y u h1 h2 => ?_⟩
  obtain ⟨_, e1⟩ := List.getElem?_eq_some_iff.mp h1
  obtain ⟨_, e2⟩ := List.getElem?_eq_some_iff.mp h2
  rw [List.getElem_replicate] at e1 e2
  subst e1 e2
  exact h
theorem r_loadCell {w : World} {A : Around} {E : Value → Shared → Prop} {s : Shared} {env : Env} {g : Heap} {L : Addr} {own : Own} {m : Str → Option Value} {x : Str} {c : Addr} {o : Obj} {v : Value} {Q : Value → Shared → Prop} (F : Fx g L s.heap m own) (hc : env.cells.lookup x = some c) (hm : (c, o) ∈ own) (hv : o.data = .cell (some v)) (h : Q v s)
    (hk : env.scope.kind = .function := by rfl) (hl : env.kindOf x = some .cell := by rfl) : wpAny (Mo w) A (loadName env x) Q E s := wpAny_loadName_cell hk hl hc ⟨o, F.at hm, hv⟩ h
section
variable {w : World} {A : Around} {E : Value → Shared → Prop} {s : Shared} {env : Env} {g : Heap} {L c P : Addr} {own : Own} {m : Str → Option Value} {q : Pos → Str} {ps : Array Value} {name qual : Str} {params : Arguments} {body : List Stmt} {scope : Scope} {cl : List (Str × Addr)} {pos : Pos}
/-- a def with one default, a number -/
theorem r_def1 {k : Int} {kp : Nat} {pp : Pos} {Q : Flow → Shared → Prop} (F : Fx g L s.heap m ((P, tabObj ps) :: own)) (T : Tab g c P q ps) (B : Bm g) (hcl : closureFor scope env = pure cl) (hcode : env.code = .ref c) (hq : q pos = qual) (hqn : qualnameIn env name name = qual)
    (hdoc : docOf body = none) (hd : params.defaults = [.Constant (.int k) kp pp]) (hk0 : params.kw_defaults = []) (ha : annTrees params none env = [])
    (h : ∀ g' ps' pm cv ct f D kt h' tk, Sub g g' → Tab g' c P q ps' → g'.CodeRec cv qual → g'.get? D = some (tup [.int k kt]) → Fx g' L h' m ((f, fnO name qual params (.stmts body) scope cl (.ref D) pm cv ct) :: (P, tabObj ps') :: own) →
      wpAny (Mo w) A (storeName env name (.ref f)) (fun _ s'' => Q .next s'') E { s with heap := h', toks := tk })
    (hge0 : env.globals = mainGlobals := by rfl) (hkw : params.kwonlyargs = [] := by rfl) :
    wpAny (Mo w) A (exec (.FunctionDef name params body [] none [] scope none name pos) env) Q E s := by
  rw [exec_def]
  refine wpAny_bind (wpAny_standAt (wpAny_bind (wpAny_holding ?_)))
  rw [defaultsOf_eq, hd, hk0, ha, hqn]
  refine wpAny_bind (wpAny_evalAll_cons (wpAny_Constant_int (wpAny_evalAll_nil ?_)))
  refine wpAny_bind (wpAny_holding (wpAny_pure ?_))
  refine wpAny_holding (wpAny_bind (wpAny_pure ?_))
  rw [makeFunction_eq, hkw]
  simp only [List.zip_nil_left, List.filterMap_nil, List.isEmpty_nil, if_true, pure_bind, List.isEmpty_cons, Bool.false_eq_true, if_false]
  refine wpAny_bind (wpAny_newTextTuple ?_)
  obtain ⟨g1, s1, F1, hD⟩ := (F.pushOwn (tup [.int k _])).freeze
  refine r_makeTail (body := .stmts body) F1 (T.mono s1) (B.mono s1) hcl hcode hq hdoc ?_ hge0
  intro g' ps' pm cv ct f h' tk hs T' hr F'
  refine wpAny_bind (wpAny_standAt (wpAny_bind (wpAny_bindName (wpAny_mono (h g' ps' pm cv ct f _ _ h' tk (s1.trans hs) T' hr (hs _ _ hD) F') (fun _ _ h'' => wpAny_pure h'') fun _ _ x => x))))
end
theorem HitsR.mono {w : World} {g g' : Heap} {hv : List Value} {ps : List (Nat × Nat)} (r : HitsR w g hv ps) (h : Sub g g') : HitsR w g' hv ps := ⟨r.1, fun i p v h1 h2 => (r.2 i p v h1 h2).mono h⟩
theorem HitsR.snoc {w : World} {g : Heap} {hv : List Value} {ps : List (Nat × Nat)} {v : Value} {p : Nat × Nat} (x : HitsR w g hv ps) (y : HitAt w g v (p.1 : Nat) (p.2 : Nat)) : HitsR w g (hv ++ [v]) (ps ++ [p]) := by
  refine ⟨by simp [x.1], fun i q u h1 h2 => ?_⟩
  by_cases hi : i < ps.length
  · rw [List.getElem?_append_left hi] at h1
    rw [List.getElem?_append_left (by rw [x.1]; exact hi)] at h2
    exact x.2 i q u h1 h2
  · rw [List.getElem?_append_right (by lia)] at h1
    rw [List.getElem?_append_right (by rw [x.1]; lia), x.1] at h2
    by_cases h0 : i - ps.length = 0
    · rw [h0] at h1 h2
      simp at h1 h2
      subst h1 h2
      exact y
    · obtain ⟨k, hk⟩ : ∃ k, i - ps.length = k + 1 := ⟨i - ps.length - 1, by lia⟩
      rw [hk] at h1
      simp at h1

def stmtsOf (fd : FuncData) : List Stmt := match fd.body with | .stmts b => b | _ => []
theorem prog_end {w : World} {A : Around} {s : Shared} {g : Heap} {L L' : Addr} {own : Own} {m : Str → Option Value} {Q : Value → Shared → Prop} {d : Nat} {ph pp : Array Value}
    {t : List Nat} {ut : Tok} {a : Addr} {ps : List (Nat × Nat)} {oL oS oB o3 : Obj} {Sx H : Addr} {sv hv : List Value} {e1 e2 : Nat} (R : Rm (A.deeper (callEnvC (fdOf w 78) L' 78)) (d + 1))
    (F : Fx g L' s.heap (mp [(Str.ofString "stretches", .ref a), (Str.ofString "hits", .ref H)]) ((L' + 1 + 1 + 1, oS) :: (L' + 1 + 1, oB) :: (68, tabObj ph) :: (Sx, lst sv e2) :: (H, lst hv e1) :: (L, oL) :: (75, tabObj pp) :: own))
    (W : Wd w g) (B : Bm g) (T : Tab g 72 68 (qHit w) ph) (T' : Tab g 77 75 (qProg w) pp) (d3 : o3.data = .cell (some (.str (S t) ut))) (m3 : g.get? (L' + 1) = some o3) (dS : oS.data = .cell (some (.ref Sx)))
    (hH : HitsR w g hv ps) (hS : SeatsR w g hv sv (seatsF ps ps.length)) (hl : t.length ≤ 20) (hp : ps.length ≤ 20) (hb : ∀ p ∈ ps, p.1 ≤ 20 ∧ p.2 ≤ 20)
    (back : ∀ g₁ h₁ m₁ {own' : Own}, Fx g₁ L' h₁ m₁ ((L, oL) :: own') → Fx g₁ L h₁ m own')
    (h : ∀ g' x tk h' ph' pp' pv H hv sv e, Sub g g' → Tab g' 72 68 (qHit w) ph' → Tab g' 77 75 (qProg w) pp' → Fx g' L h' m ((x, tup [pv, .ref H]) :: (68, tabObj ph') :: (75, tabObj pp') :: own) → ProgAt w g' pv t sv → g'.get? H = some (lst hv e) → HitsR w g' hv ps →
      SeatsR w g' hv sv (seatsAll t.length ps) → Q (.ref x) { s with heap := h', toks := tk }) :
    wpAny (Mo w) (A.deeper (callEnvC (fdOf w 78) L' 78)) (execs ((stmtsOf (fdOf w 78)).drop 2) (callEnvC (fdOf w 78) L' 78)) (fun fl s' => Q (match fl with | .ret v => v | _ => .none) s') (fun _ _ => False) s := by
  have hlenS := hS.1
  have hsl := seatsF_len hb ps.length
  refine wpAny_execs_cons ?_
  repeat walk_at "S"
  refine r_loadCell F (by rfl) (.head _) dS ?_
  repeat walk_at "S"
  rename_i c3 h3 F3 k3 tk3
  refine r_cell F3 (by rfl) (.tail _ (.head _)) dS ?_
  repeat walk_at "S"
  refine r_len_lst (vs := sv) (F3.at (.tail _ (.tail _ (.tail _ (.tail _ (.head _)))))) (by lia) ?_
  intro k4 tk4
  repeat walk_at "S"
  dsimp only
  refine r_mul_lst F3 F3.head (by simp) (by lia) (by lia) (by simp) ?_
  intro c5 h5 F5
  dsimp only
  have F6 := (F5.swap.drop).p4
  have hrl : (List.replicate ((t.length : Int) + 2 - (sv.length : Int)).toNat [Value.none]).flatten.length ≤ 22 := by rw [lm_rep_flat_one, List.length_replicate]; lia
  refine r_iadd_lst F6 (F6.at (.tail _ (.head _))) (by lia) ?_
  intro h7 e7 F7
  dsimp only
  refine r_storeCell F7.rot3 (by rfl) dS ?_
  intro h8 oS8 dS8 F8
  dsimp only
  clear F F3 F5 F6 F7
  have eR : ((t.length : Int) + 2 - (sv.length : Int)).toNat = t.length + 2 - (seatsF ps ps.length).length := by lia
  rw [eR] at F8 hrl
  have hS2 : SeatsR w g hv (sv ++ (List.replicate (t.length + 2 - (seatsF ps ps.length).length) [Value.none]).flatten) (seatsAll t.length ps) := hS.append (SeatsR.rep (x := .no) (v := .none) rfl _)
  have hS2l := hS2.1
  refine Fx.freezeK F8 ?_
  intro g9 s9 F9 n9
  refine Fx.freezeK F9 ?_
  intro g10 s10 F10 n10
  dsimp only at n9 n10
  have F11 := F10.drop.drop
  have n9 := s10 _ _ n9
  have s11 := s9.trans s10
  have m3 := s11 _ _ m3
  have W3 := W.mono s11
  have B3 := B.mono s11
  clear F8 F9 F10
  walk_at "S"
  refine r_def1 (cl := [(Str.ofString "text", L' + 1), (Str.ofString "seats", L' + 1 + 1 + 1)]) F11.p3 (T'.mono s11) B3 (by rfl) (by rfl) (by rfl) (by rfl) (by rfl) (by rfl) (by rfl) (by rfl) ?_
  intro g12 pp12 pm12 cv12 ct12 f12 D12 kt12 h12 tk12 s12 T12 hr12 hD12 F12
  dsimp only
  repeat walk_at "S"
  rename_i h13 F13
  dsimp only
  refine r_lambda (cl := []) F13.swap T12 (B3.mono s12) (by rfl) (by rfl) (by rfl) (by rfl) ?_
  intro g14 pp14 pm14 cv14 ct14 f14 h14 tk14 s14 T14 hr14 F14
  clear F11 F12 F13
  dsimp only
  repeat walk_at "S"
  rename_i h15 F15
  refine plainObj_wpAny_Assign_Attribute ?_
  repeat walk_at "S"
  dsimp only
  refine r_setAttr F15 rfl rfl rfl fn_no_search ?_
  intro D16 oD16 h16 tk16 hD16 F16
  dsimp only
  refine Fx.freezeK F16 ?_
  intro g17 s17 F17 n1
  refine Fx.freezeK F17 ?_
  intro g18 s18 F18 n2
  refine Fx.freezeK F18.swap ?_
  intro g19 s19 F19 n3
  refine Fx.freezeK F19.rot3 ?_
  intro g20 s20 F20 n4
  dsimp only at n1 n2 n3 n4
  have n1 := s20 _ _ (s19 _ _ (s18 _ _ n1))
  have n2 := s20 _ _ (s19 _ _ n2)
  have n3 := s20 _ _ n3
  have sA := s14.trans (s17.trans (s18.trans (s19.trans s20)))
  have sB := s12.trans sA
  clear F14 F15 F16 F17 F18 F19
  repeat walk_at "S"
  rename_i a21 h21 F21
  have F22 := F21.p3.perm (.cons _ (.cons _ (.swap ..)))
  have n9 := sB _ _ n9
  have n10 := sB _ _ n10
  have m3 := sB _ _ m3
  have hDD := sA _ _ hD12
  have hr := hr12.keeps sA
  refine h g20 a21 _ _ ph pp14 (.ref f14) H hv _ e1 (s11.trans sB) (T.mono (s11.trans sB)) (T14.mono (s17.trans (s18.trans (s19.trans s20)))) (back _ _ _ F22) ⟨f14, f12, rfl, ⟨_, _, D16, oD16, _, _, n2, rfl, rfl, rfl, n1, hD16, n3, rfl⟩, ?_⟩ n4 (hH.mono (s11.trans sB)) (hS2.mono (s11.trans sB))
  clear F20 F21 F22 h back R T T' W3 B3 W B T12 T14 hD12 hr12 hr14 s9 s10
  generalize hvv : sv ++ (List.replicate (t.length + 2 - (seatsF ps ps.length).length) [Value.none]).flatten = sw at *
  have hswl : sw.length ≤ 600 := by rw [← hvv, List.length_append]; lia
  intro g' A d s L m own Q E vs k j hs F R W hvs hj hQ
  have n9 := hs _ _ n9
  have n10 := hs _ _ n10
  have m3 := hs _ _ m3
  have hDD := F.keep _ _ (hs _ _ hDD)
  have fin : ∀ (P : Prop), (∀ x, sw[j]? = some x → P) → (sw.length ≤ j → P) → P := fun P h1 h2 => by
    by_cases hlt : j < sw.length
    · exact h1 sw[j] (by simp)
    · exact h2 (by lia)
  rcases hvs with ⟨rfl, rfl⟩ | ⟨kj, rfl⟩
  · refine r_enter (binds := [(Str.ofString "chars", .str (S t) k), (Str.ofString "pos", .int 0 kt12)]) F R W (hs _ _ n3) rfl (hr.keeps hs) rfl (BindsTo.of_defaults rfl hDD rfl rfl rfl) (by intro x hx; revert x; exact of_decide_eq_true rfl) (locs rfl) rfl rfl rfl ?_
    intro L2 h2 oL2 R2 F2 back2
    repeat walk_at "S"
    refine r_eq_str ?_
    repeat walk_at "S"
    rw [if_pos (by simp)]
    repeat walk_at "S"
    refine r_len_lst (vs := sw) (F2.keep _ _ n10) (by lia) ?_
    intro k3 tk3
    repeat walk_at "S"
    refine fin _ (fun x hx => ?_) fun hx => ?_
    · have hx' : sw[(0 : Int).toNat]? = some x := hx
      have hlt := (List.getElem?_eq_some_iff.mp hx).1
      rw [if_pos (by simp only [decide_eq_true_eq]; lia)]
      repeat walk_at "S"
      rw [if_pos rfl]
      repeat walk_at "S"
      have q := hQ
      rw [hx] at q
      exact q _ _ (back2 _ _ _ F2)
    · rw [if_neg (by simp only [decide_eq_true_eq]; lia)]
      repeat walk_at "S"
      rw [if_neg Bool.false_ne_true]
      repeat walk_at "S"
      have q := hQ
      rw [List.getElem?_eq_none hx] at q
      exact q _ _ (back2 _ _ _ F2)
  · refine r_enter (binds := [(Str.ofString "chars", .str (S t) k), (Str.ofString "pos", .int (j : Nat) kj)]) F R W (hs _ _ n3) rfl (hr.keeps hs) rfl (BindsTo.of_defaults rfl hDD rfl rfl rfl) (by intro x hx; revert x; exact of_decide_eq_true rfl) (locs rfl) rfl rfl rfl ?_
    intro L2 h2 oL2 R2 F2 back2
    repeat walk_at "S"
    refine r_eq_str ?_
    repeat walk_at "S"
    rw [if_pos (by simp)]
    repeat walk_at "S"
    refine r_len_lst (vs := sw) (F2.keep _ _ n10) (by lia) ?_
    intro k3 tk3
    repeat walk_at "S"
    refine fin _ (fun x hx => ?_) fun hx => ?_
    · have hx' : sw[(j : Int).toNat]? = some x := hx
      have hlt := (List.getElem?_eq_some_iff.mp hx).1
      rw [if_pos (by simp only [decide_eq_true_eq]; lia)]
      repeat walk_at "S"
      rw [if_pos rfl]
      repeat walk_at "S"
      have q := hQ
      rw [hx] at q
      exact q _ _ (back2 _ _ _ F2)
    · rw [if_neg (by simp only [decide_eq_true_eq]; lia)]
      repeat walk_at "S"
      rw [if_neg Bool.false_ne_true]
      repeat walk_at "S"
      have q := hQ
      rw [List.getElem?_eq_none hx] at q
      exact q _ _ (back2 _ _ _ F2)
/-- between the turns of _law_prog's loop -/
def ProgJ (w : World) (ps : List (Nat × Nat)) (L' a H Sx : Addr) (i : Nat) (g' : Heap) (l' : List (Str × Value)) (mine' : Own) : Prop := ∃ ph' hv e1 sv e2 oS oB vB,
    mine' = [(L' + 1 + 1 + 1, oS), (L' + 1 + 1, oB), (68, tabObj ph'), (Sx, lst sv e2), (H, lst hv e1)] ∧ l' = [(Str.ofString "stretches", .ref a), (Str.ofString "hits", .ref H)] ∧ Tab g' 72 68 (qHit w) ph' ∧ oS.data = .cell (some (.ref Sx)) ∧ oB.data = .cell vB ∧
    HitsR w g' hv (ps.take i) ∧ SeatsR w g' hv sv (seatsF ps i)
/-- between the turns of its inner comprehension -/
def ProgC (w : World) (hv : List Value) (a b : Nat) (j : Nat) (g5 : Heap) (ys : List Value) (mine5 : Own) : Prop := ∃ ph5, mine5 = [(68, tabObj ph5)] ∧ Tab g5 72 68 (qHit w) ph5 ∧ SeatsR w g5 hv ys ((List.range j).map fun j => .mid (a + 1 + j) b)
theorem prog_call {w : World} {A : Around} {E : Value → Shared → Prop} {s : Shared} {g : Heap} {L : Addr} {own : Own} {m : Str → Option Value} {Q : Value → Shared → Prop} {d : Nat} {ph pp : Array Value}
    {t : List Nat} {ut : Tok} {a : Addr} {vs : List Value} {n : Nat} {ps : List (Nat × Nat)} (F : Fx g L s.heap m ((68, tabObj ph) :: (75, tabObj pp) :: own)) (R : Rm A (d + 2)) (W : Wd w g) (B : Bm g) (T : Tab g 72 68 (qHit w) ph) (T' : Tab g 77 75 (qProg w) pp)
    (ha : g.get? a = some (lst vs n)) (hvs : Prs g vs ps) (hl : t.length ≤ 20) (hp : ps.length ≤ 20) (hb : ∀ p ∈ ps, p.1 ≤ 20 ∧ p.2 ≤ 20)
    (h : ∀ g' x tk h' ph' pp' pv H hv sv e, Sub g g' → Tab g' 72 68 (qHit w) ph' → Tab g' 77 75 (qProg w) pp' → Fx g' L h' m ((x, tup [pv, .ref H]) :: (68, tabObj ph') :: (75, tabObj pp') :: own) → ProgAt w g' pv t sv → g'.get? H = some (lst hv e) → HitsR w g' hv ps →
      SeatsR w g' hv sv (seatsAll t.length ps) → Q (.ref x) { s with heap := h', toks := tk }) :
    wpAny (Mo w) A (call (.ref 78) [.str (S t) ut, .ref a]) Q E s := by
  refine r_enterC (fd := fdOf w 78) (binds := [(Str.ofString "text", .str (S t) ut), (Str.ofString "stretches", .ref a)]) (l := [(Str.ofString "stretches", .ref a)]) F R W (W.K 78 _ rfl) rfl (codeRec_of W.K (by rfl)) rfl rfl rfl (by rfl) (of_decide_eq_true rfl)
    (by intro p hp; rw [List.mem_singleton.mp hp]; rfl) rfl rfl rfl ?_
  intro L' h₁ tk₁ oL cs R' hcs F' back
  obtain ⟨o1, cs1, rfl, d1, o2, cs2, rfl, d2, o3, cs3, rfl, d3, rfl⟩ := hcs
  have d1 : o1.data = .cell none := d1
  have d2 : o2.data = .cell none := d2
  have d3 : o3.data = .cell (some (.str (S t) ut)) := d3
  simp only [List.cons_append, List.nil_append] at F'
  refine Fx.freezeK F'.rot3 ?_
  intro g1 s1 F1 m3
  dsimp only at m3
  have W1 := W.mono s1
  have B1 := B.mono s1
  have T1 := T.mono s1
  have T1' := T'.mono s1
  have ha := s1 _ _ ha
  have hvs := hvs.mono s1
  clear F F'
  repeat walk_at "S"
  rename_i H h2 F2 Sx h3 F3 a4 h4 F4 h5 F5 h6 F6
  refine r_storeCell F6.rot3 (by rfl) d1 ?_
  intro h7 o7 d7 F7
  have F8 := (((F7.p3).p5).q2).swap
  clear F1 F2 F3 F4 F5 F6 F7
  repeat walk_at "S"
  refine r_iter_list F8 ha ?_
  intro I oI St h9 it go st F9
  have hcb : (L' : Nat) = L' := rfl
  refine r_forLoop (mine := [(L' + 1 + 1 + 1, o7), (L' + 1 + 1, o2), (68, tabObj ph), (Sx, lst [] 0), (H, lst [] 0)]) R' it (go _ _ _) (ProgJ w ps L' a H Sx) ?_ F9.q5 st ?_ ?_
  · exact ⟨ph, [], 0, [], 0, o7, o2, none, rfl, rfl, T1, d7, d2, ⟨rfl, fun i p v e => by simp at e⟩, ⟨rfl, fun i p v e => by simp [seatsF] at e⟩⟩
  · rintro i v g' l' mine' h' tk oI' hi hv hsub ⟨ph', hv', e1, sv, e2, oS, oB, vB, rfl, rfl, T2, dS, dB, hH, hS⟩ F'
    simp only [List.cons_append, List.nil_append] at F'
    obtain ⟨p, hpi⟩ : ∃ p, ps[i]? = some p := ⟨ps[i]'(by rw [← hvs.1]; exact hi), by simp⟩
    refine PairAt.elimK ((hvs.mono hsub).2 i p v hpi hv) ?_
    rintro pa kt ku rfl hpa
    have hpb := hb p (List.mem_of_getElem? hpi)
    have hil : i < ps.length := by rw [← hvs.1]; exact hi
    have W2 := W1.mono hsub
    have B2 := B1.mono hsub
    have hlenH := hH.1
    rw [List.length_take] at hlenH
    have hlenS := hS.1
    have hsl := seatsF_len hb i
    clear F8 F9 h
    refine r_assignG F' R' hpa ?_
    intro h10 F10
    clear F'
    repeat walk_at "S"
    rename_i h11 F11
    refine r_storeCell F11.swap (by rfl) dB ?_
    intro h12 oB' dB' F12
    have F13 := F12.p4
    clear F10 F11 F12
    repeat walk_at "S"
    refine r_cell F13 (by rfl) (.tail _ (.head _)) dB' ?_
    repeat walk_at "S"
    refine hit_call F13.p3 R' W2 B2 T2 ?_
    intro g3 hx h14 tk14 ph3 s3 T3 F14 hx3
    have F15 := F14.swap
    have W3 := W2.mono s3
    have B3 := B2.mono s3
    have hH3 := (hH.mono s3).snoc hx3
    have hS3 := (hS.mono s3).more (v := hx)
    clear F13 F14
    refine r_append F15 (by lia) ?_
    intro h16 F16
    clear F15
    repeat walk_at "S"
    refine r_loadCell F16 (by rfl) (.tail _ (.tail _ (.tail _ (.head _)))) dS ?_
    repeat walk_at "S"
    refine r_slice_lst F16 rfl rfl F16.head (.int _ _) .none (by simp; lia) ?_
    intro c17 h17 F17
    have esl : (slicePick (hv' ++ [hx]).toArray (some (-1)) none none).toList = [hx] := by
      have := slicePick_last (hv' ++ [hx]).toArray 1 (Nat.le_refl _)
      rw [show (-((1 : Nat) : Int)) = -1 from rfl] at this
      rw [this]; simp
    rw [esl] at F17
    clear F16
    repeat walk_at "S"
    refine r_cell F17 (by rfl) (.tail _ (.tail _ (.tail _ (.tail _ (.head _))))) dS ?_
    repeat walk_at "S"
    refine r_len_lst (vs := sv) (F17.at (.tail _ (.tail _ (.tail _ (.tail _ (.tail _ (.head _))))))) (by lia) ?_
    intro k18 tk18
    repeat walk_at "S"
    refine r_mul_lst F17 F17.head (by simp) (by lia) (by lia) (by simp) ?_
    intro c19 h19 F19
    have F20 := (F19.swap.drop).p5
    have hrl : (List.replicate ((p.1 : Int) + 1 - (sv.length : Int)).toNat [hx]).flatten.length ≤ 21 := by rw [lm_rep_flat_one, List.length_replicate]; lia
    refine r_iadd_lst F20 (F20.at (.tail _ (.head _))) (by lia) ?_
    intro h21 e21 F21
    have F22 := F21.p5
    refine r_storeCell F22 (by rfl) dS ?_
    intro h23 oS' dS' F23
    clear F17 F19 F20 F21 F22
    have eR : ((p.1 : Int) + 1 - (sv.length : Int)).toNat = p.1 + 1 - (seatsF ps i).length := by lia
    rw [eR] at F23 hrl
    have hS4 := hS3.append (SeatsR.rep (x := .own i) (v := hx) (show (hv' ++ [hx])[i]? = some hx by rw [show i = hv'.length by lia]; simp) (p.1 + 1 - (seatsF ps i).length))
    have F24 := (F23.rot3).drop
    repeat walk_at "S"
    have F25 := F24.p3
    clear F23 F24
    refine r_loadCell F25 (by rfl) (.tail _ (.head _)) dS' ?_
    refine r_comp (cl := [(Str.ofString "behind", L' + 1 + 1)]) ?_ (by rfl) (by rfl) (by intro y hy; revert y; exact of_decide_eq_true rfl)
    repeat walk_at "S"
    refine r_cell F25 (by rfl) (.tail _ (.tail _ (.tail _ (.tail _ (.head _))))) dB' ?_
    repeat walk_at "S"
    refine r_iter_range (by assumption) (by lia) (by lia) (by lia) (by lia) ?_
    intro I2 oI2 St2 h26 it2 st2 F26
    refine ⟨I2, rfl, ?_⟩
    refine r_comp_block (mine := [(68, tabObj ph3)]) R' it2 goOk_name (by lia) (ProgC w (hv' ++ [hx]) p.1 p.2) ⟨ph3, rfl, T3, ⟨rfl, fun i p v e => by simp at e⟩⟩
      (fun j g5 ys mine5 hj => by obtain ⟨_, _, _, q⟩ := hj; have := q.1; simp at this; lia) F26.swap st2 (by intro y hy; revert y; exact of_decide_eq_true rfl) (by rfl) ?_ ?_
    · rintro j v g5 ys e5 mine5 h5 tk5 oI5 D5 C5 oL5 hj ⟨k, rfl⟩ hs5 ⟨ph5, rfl, T5, hy5⟩ F27
      simp only [List.cons_append, List.nil_append] at F27
      have W5 := W3.mono hs5
      have B5 := B3.mono hs5
      clear F25 F26
      repeat walk_at "S"
      rename_i h28 F28
      refine wpAny_tests_nil ?_
      rw [if_pos rfl]
      repeat walk_at "S"
      refine r_cell F28 (by rfl) (.tail _ (.tail _ (.tail _ (.tail _ (.tail _ (.tail _ (.tail _ (.head _)))))))) dB' ?_
      repeat walk_at "S"
      refine hit_call F28 R' W5 B5 T5 ?_
      intro g6 hx6 h6 tk6 ph6 s6 T6 F6 hx6'
      refine (CompEnd.of g6 [(68, tabObj ph6)] s6 ⟨rfl, ph6, rfl, T6, ?_⟩ (Fx.take 0 F6))
      rw [List.range_succ, List.map_append, List.map_cons, List.map_nil]
      refine (hy5.mono s6).append ⟨rfl, fun i x v e1 e2 => ?_⟩
      obtain ⟨he, rfl⟩ := List.getElem?_eq_some_iff.mp e1
      have h0 : i = 0 := by simpa using he
      subst h0
      simp at e2
      subst e2
      show HitAt w g6 _ ((p.1 + 1 + j : Nat) : Int) (p.2 : Nat)
      rw [show ((p.1 + 1 + j : Nat) : Int) = (p.1 : Int) + 1 + j by lia]
      exact hx6'
    · rintro g5 ys e5 mine5 h5 tk5 D5 C5 oL5 m5 hs5 ⟨ph5, rfl, T5, hy5⟩ hfr5 F27
      refine compPost_none hfr5 F27 ?_
      intro h28 F28
      simp only [List.cons_append, List.nil_append] at F28
      rw [show ((p.2 : Int) - ((p.1 : Int) + 1)).toNat = p.2 - (p.1 + 1) by lia] at hy5
      have hyl := hy5.1
      simp only [List.length_map, List.length_range] at hyl
      have hS5 := (hS4.mono hs5).append hy5
      have hS6 := hS4.1
      simp only [List.length_append, List.length_replicate] at hS6
      refine r_iadd_lst F28.p3 F28.head (by simp only [List.length_append]; lia) ?_
      intro h29 e29 F29
      refine r_storeCell F29.p3 (by rfl) dS' ?_
      intro h30 oS6 dS6 F30
      have F31 := ((F30.rot3.drop).p4.swap).perm (.cons _ (.cons _ (.swap ..)))
      clear F25 F26 F27 F28 F29 F30
      dsimp only
      repeat walk_at "S"
      refine (LoopEnd.of g5 _ (s3.trans hs5) ⟨ph5, hv' ++ [hx], _, _, _, oS6, oB', _, rfl, rfl, T5, dS6, dB', ?_, ?_⟩ (Fx.take 2 F31))
      · rw [List.take_add_one, hpi]; exact hH3.mono hs5
      · rw [seatsF, hpi]; exact hS5
  · rintro g2 l2 mine2 h2 tk2 hsub ⟨ph', hv', e1, sv, e2, oS, oB, vB, rfl, rfl, T2, dS, dB, hH, hS⟩ F2
    simp only [List.cons_append, List.nil_append] at F2
    rw [hvs.1] at hH hS
    rw [List.take_length] at hH
    exact prog_end R' F2 (W1.mono hsub) (B1.mono hsub) T2 (T1'.mono hsub) d3 (hsub _ _ m3) dS hH hS hl hp hb back fun g' x tk h' ph' pp' pv H hv sv e hs => h g' x tk h' ph' pp' pv H hv sv e (s1.trans (hsub.trans hs))
/-! search_reverse -/
def pairOf (ps : List (Nat × Nat)) : Seat → Option (Nat × Nat)
  | .own k => ps[k]?
  | .mid a b => some (a, b)
  | .no => none
def revF (ss : List Seat) (ps : List (Nat × Nat)) (col : Int) : Nat → Seat → Option Seat → Option (Option Seat)
  | 0, _, _ => none
  | n + 1, cur, found => match pairOf ps cur with
    | none => some found
    | some (i, j) => if (i : Int) < col ∧ (j : Int) ≤ col then revF ss ps col n ((ss[if i = j then j + 1 else j]?).getD .no) (some cur) else some found
theorem SeatR.mono {w : World} {g g' : Heap} {hv : List Value} {x : Seat} {v : Value} (r : SeatR w g hv x v) (h : Sub g g') : SeatR w g' hv x v := by
  cases x with
  | own k => exact r
  | mid a b => exact HitAt.mono r h
  | no => exact r
theorem seat_none {w : World} {g : Heap} {hv : List Value} {ps : List (Nat × Nat)} {x : Seat} {v : Value} (r : SeatR w g hv x v) (H : HitsR w g hv ps) (h : pairOf ps x = none) : v = .none := by
  cases x with
  | own k =>
    have r : hv[k]? = some v := r
    have h : ps[k]? = none := h
    have := (List.getElem?_eq_some_iff.mp r).1
    rw [H.1] at this
    simp at h; lia
  | mid a b => cases h
  | no => exact r
theorem seat_some {w : World} {g : Heap} {hv : List Value} {ps : List (Nat × Nat)} {x : Seat} {v : Value} {i j : Nat} (r : SeatR w g hv x v) (H : HitsR w g hv ps) (h : pairOf ps x = some (i, j)) : HitAt w g v (i : Nat) (j : Nat) := by
  cases x with
  | own k => exact H.2 k (i, j) v h r
  | mid a b => cases h; exact r
  | no => cases h
theorem seats_at {w : World} {g : Heap} {hv sv : List Value} {ss : List Seat} (r : SeatsR w g hv sv ss) (j : Nat) : SeatR w g hv ((ss[j]?).getD .no) ((sv[j]?).getD .none) := by
  by_cases h : j < ss.length
  · have h2 : j < sv.length := by rw [r.1]; exact h
    have := r.2 j ss[j] sv[j] (by simp) (by simp)
    simpa [h, h2] using this
  · have h2 : ¬ j < sv.length := by rw [r.1]; exact h
    simp [h, h2]; exact rfl
theorem fn_no_bool : typeLookup (.type "function") "__bool__" = pure none := by rw [typeLookup_type, builtinLookup_eq_fast]; kernel_rfl
theorem fn_no_len : typeLookup (.type "function") "__len__" = pure none := by rw [typeLookup_type, builtinLookup_eq_fast]; kernel_rfl
section
variable {w : World} {A : Around} {E : Value → Shared → Prop} {s : Shared} {env : Env} {g : Heap} {L : Addr} {own : Own} {m : Str → Option Value}
theorem r_truthy_hit {v : Value} {a b : Int} {Q : Bool → Shared → Prop} (F : Fx g L s.heap m own) (H : HitAt w g v a b) (h : Q true s) : wpAny (Mo w) A (truthy v) Q E s := by
  obtain ⟨x, f, rfl, ⟨ox, fd, D, oD, of, fd', e1, e2, _⟩, _⟩ := H
  have hT : s.TypeIs (.ref x) "function" := ⟨_, F.keep _ _ e1, e2⟩
  unfold truthy
  refine wpAny_bind (wpAny_callSpecial?_none hT fn_no_bool ?_)
  refine wpAny_bind (wpAny_specialOf hT fn_no_len ?_)
  exact wpAny_pure h
theorem r_truthy_none {Q : Bool → Shared → Prop} (h : Q false s) : wpAny (Mo w) A (truthy .none) Q E s := by
  unfold truthy; exact wpAny_pure h
theorem AttrAt.ex {h : Heap} {x f : Addr} {name : Str} (X : AttrAt g x name f) (hs : Sub g h) : ∃ ox fd D mA of fd', h.get? x = some ox ∧ ox.cls = .type "function" ∧ ox.dict = some D ∧ ox.data = .func fd ∧ h.Ns D mA ∧ mA name = some (.ref f) ∧ g.get? f = some of ∧ of.data = .func fd' := by
  obtain ⟨ox, fd, D, oD, of, fd', a, b, c, d, e, i, j, k⟩ := X
  obtain ⟨mA, n1, n2⟩ := i h D (hs _ _ e)
  exact ⟨ox, fd, D, mA, of, fd', hs _ _ a, b, c, d, n1, n2 _ _ (by simp [List.lookup]), j, k⟩
theorem r_attr0 {o : Expr} {name : Str} {apos pos : Pos} {Q : Value → Shared → Prop}
    (h : wpAny (Mo w) A (eval o env) (fun ov s₁ => ∃ x f g, ov = .ref x ∧ AttrAt g x name f ∧ Sub g s₁.heap ∧ ∀ tk, wpAny (Mo w) A (call (.ref f) []) Q E { s₁ with toks := tk }) E s)
    (hB : typeLookup (.type "function") name = pure none) (hbase : attributeBase o name env (eval o env) = eval o env := by rfl) (hline : (apos.endLine == pos.line) = true := by rfl) :
    wpAny (Mo w) A (eval (.Call (.Attribute o name apos) [] [] pos) env) Q E s :=
  r_callAttr0 (wpAny_mono h (fun ov s₁ ⟨x, f, g, e, X, hs, k⟩ => let ⟨ox, fd, D, mA, of, fd', a1, a2, a3, a4, a5, a6, a7, a8⟩ := X.ex hs; ⟨x, ox, fd, D, mA, f, of, fd', e, a1, a2, a3, a4, a5, a6, hs _ _ a7, a8, k⟩) fun _ _ e => e) hB hbase hline
theorem r_attr {o e : Expr} {rest : List Expr} {name : Str} {apos pos : Pos} {Q : Value → Shared → Prop}
    (h : wpAny (Mo w) A (eval o env) (fun ov s₁ => ∃ x f g, ov = .ref x ∧ AttrAt g x name f ∧ Sub g s₁.heap ∧ ∀ tk, wpAny (Mo w) A (spliced (backTo pos (starEach (e :: rest) env))) (fun vs s₂ => Sub g s₂.heap ∧ wpAny (Mo w) A (call (.ref f) vs) Q E s₂) E { s₁ with toks := tk }) E s)
    (hB : typeLookup (.type "function") name = pure none) (hbase : attributeBase o name env (eval o env) = eval o env := by rfl) (hline : (apos.endLine == pos.line) = true := by rfl)
    (hform : methodCallForm ((e :: rest).length + ([] : List Keyword).length) (backTo pos (starEach (e :: rest) env)) (backToKw pos (keywordEach [] env)) = true := by rfl)
    (he : starEach (e :: rest) env = (false, eval e env) :: starEach rest env := by rfl) (hplain : (backTo pos (starEach rest env)).any (·.1) = false := by rfl) :
    wpAny (Mo w) A (eval (.Call (.Attribute o name apos) (e :: rest) [] pos) env) Q E s :=
  r_callAttr (wpAny_mono h (fun ov s₁ ⟨x, f, g, e, X, hs, k⟩ => let ⟨ox, fd, D, mA, of, fd', a1, a2, a3, a4, a5, a6, a7, a8⟩ := X.ex hs; ⟨x, ox, fd, D, mA, f, of, fd', e, a1, a2, a3, a4, a5, a6, hs _ _ a7, a8,
    fun tk => wpAny_mono (k tk) (fun vs s₂ ⟨hs₂, hc⟩ => ⟨hs₂ _ _ a7, hc⟩) fun _ _ e => e⟩) fun _ _ e => e) hB hbase hline hform he hplain
end

theorem reverse_call {w : World} {A : Around} {E : Value → Shared → Prop} {s : Shared} {g : Heap} {L : Addr} {own : Own} {m : Str → Option Value} {Q : Value → Shared → Prop} {d : Nat}
    {t : List Nat} {ut kc : Tok} {pv : Value} {hv sv : List Value} {ss : List Seat} {ps : List (Nat × Nat)} {col : Int} {n : Nat} {r : Option Seat} (F : Fx g L s.heap m own) (R : Rm A (d + 2)) (W : Wd w g) (P : ProgAt w g pv t sv) (hS : SeatsR w g hv sv ss) (hH : HitsR w g hv ps)
    (hc : col ≤ 100) (hr : revF ss ps col n ((ss[0]?).getD .no) none = some r)
    (h : ∀ v h' tk, Fx g L h' m own → (match r with | none => v = .none | some x => SeatR w g hv x v) → Q v { s with heap := h', toks := tk }) :
    wpAny (Mo w) A (call (.ref 21) [pv, .str (S t) ut, .int col kc]) Q E s := by
  obtain ⟨px, pf, rfl, PA, PS⟩ := P
  refine r_enter (fd := fdOf w 21) (binds := [(Str.ofString "prog", .ref px), (Str.ofString "chars", .str (S t) ut), (Str.ofString "col", .int col kc)]) F R W (W.K 21 _ rfl) rfl (codeRec_of W.K (by rfl)) rfl (BindsTo.of_eq rfl) (by intro x hx; revert x; exact of_decide_eq_true rfl) (locs rfl) rfl rfl rfl ?_
  intro L' h₁ oL R' F' back
  clear F
  walk_at "S"
  walk_at "S"
  refine r_attr ?_ fn_no_search
  repeat walk_at "S"
  refine ⟨px, pf, g, rfl, PA, F'.keep, fun tk => ?_⟩
  repeat walk_at "S"
  refine PS g _ d _ _ _ _ _ _ _ _ 0 (.refl _) F' R' W (.inl ⟨rfl, rfl⟩) (by lia) ?_
  intro h2 tk2 F2
  repeat walk_at "S"
  have hx0 := seats_at hS 0
  generalize (sv[0]?).getD .none = v0 at *
  generalize (ss[0]?).getD .no = x0 at *
  try dsimp only
  cases hp : pairOf ps x0 with
  | none =>
    have e := seat_none hx0 hH hp
    subst e
    cases n with
    | zero => cases hr
    | succ n =>
      simp only [revF, hp, Option.some.injEq] at hr
      subst hr
      refine r_truthy_none ?_
      rw [if_pos (by simp)]
      repeat walk_at "S"
      exact h _ _ _ (back _ _ _ (by assumption)) rfl
  | some q =>
    obtain ⟨i, j⟩ := q
    have hh := seat_some hx0 hH hp
    obtain ⟨n, rfl⟩ : ∃ k, n = k + 1 := by
      cases n with
      | zero => cases hr
      | succ k => exact ⟨k, rfl⟩
    refine r_truthy_hit (by assumption) hh ?_
    rw [if_neg (by simp)]
    repeat walk_at "S"
    rename_i h3 F3 h4 F4
    clear F2 F3
    try dsimp only
    refine r_attr0 ?_ fn_no_span
    repeat walk_at "S"
    obtain ⟨x, f, rfl, HA, HS⟩ := id hh
    refine ⟨x, f, g, rfl, HA, F4.keep, fun tk => ?_⟩
    refine HS g _ d _ _ _ _ _ _ (.refl _) F4 R' W ?_
    intro T5 h5 tk5 k5 k6 F5
    clear F4
    repeat walk_at "S"
    rename_i h6 F6 h7 F7 h8 F8
    clear F5 F6 F7
    try dsimp only
    refine r_while (fun n s' => ∃ cur found v fv i j ki kj h' tk, pairOf ps cur = some (i, j) ∧ revF ss ps col (n + 1) cur found = some r ∧ SeatR w g hv cur v ∧ (match found with | none => fv = .none | some x => SeatR w g hv x fv) ∧
      s' = { s with heap := h', toks := tk } ∧ Fx g L' h' (mp [(Str.ofString "col", .int col kc), (Str.ofString "chars", .str (S t) ut), (Str.ofString "prog", .ref px), (Str.ofString "m", v), (Str.ofString "found", fv), (Str.ofString "i", .int (i : Nat) ki), (Str.ofString "j", .int (j : Nat) kj)]) ((L, oL) :: own)) n ?_ ?_
    · exact ⟨x0, none, _, _, i, j, _, _, h8, _, hp, hr, hx0, rfl, rfl, F8⟩
    · clear F8 hr hp hh HA HS hx0
      refine coverA ?_
      intro GG hGG n s' hh
      obtain ⟨cur, found, v, fv, i, j, ki, kj, h', tk, hp, hr, hv1, hfv, rfl, F1⟩ := hh
      refine hGG _ _ ?_
      clear hGG
      simp only [revF, hp] at hr
      repeat walk_at "S"
      by_cases h1 : (i : Int) < col
      · rw [if_pos (by simpa using h1)]
        repeat walk_at "S"
        by_cases h2 : (j : Int) ≤ col
        · rw [if_pos (by simpa using h2)]
          repeat walk_at "S"
          rw [if_pos rfl]
          rw [if_pos ⟨h1, h2⟩] at hr
          walk_at "S"
          walk_at "S"
          walk_at "S"
          walk_at "S"
          walk_at "S"
          rename_i h3 F3
          clear F1
          refine wpAny_mono (Q := fun f s' => f = .next ∧ ∃ kj' h' tk', s' = { s with heap := h', toks := tk' } ∧ Fx g L' h' (mp [(Str.ofString "col", .int col kc), (Str.ofString "chars", .str (S t) ut), (Str.ofString "prog", .ref px), (Str.ofString "m", v), (Str.ofString "found", v), (Str.ofString "i", .int (i : Nat) ki), (Str.ofString "j", .int ((if i = j then j + 1 else j : Nat)) kj')]) ((L, oL) :: own)) ?_ ?_ (fun _ _ x => x)
          · repeat walk_at "S"
            by_cases h4 : i = j
            · rw [if_pos (by simp [h4])]
              repeat walk_at "S"
              rename_i h5 F5
              rw [show (if i = j then j + 1 else j) = j + 1 from if_pos h4]
              exact ⟨rfl, _, _, _, rfl, F5⟩
            · rw [if_neg (by simp; lia)]
              repeat walk_at "S"
              rw [show (if i = j then j + 1 else j) = j from if_neg h4]
              exact ⟨rfl, _, _, _, rfl, F3⟩
          · refine coverA ?_
            intro GG hGG f s' hh
            obtain ⟨rfl, kj', h5, tk5, rfl, F5⟩ := hh
            refine hGG _ _ ?_
            clear hGG
            clear F3
            generalize hj' : (if i = j then j + 1 else j) = j' at *
            have hj'l : j' ≤ 1000 := by rw [← hj']; split <;> lia
            try dsimp only
            walk_at "S"
            walk_at "S"
            refine r_attr ?_ fn_no_search
            repeat walk_at "S"
            refine ⟨px, pf, g, rfl, PA, F5.keep, fun tk => ?_⟩
            repeat walk_at "S"
            refine PS g _ d _ _ _ _ _ _ _ _ j' (.refl _) F5 R' W (.inr ⟨_, rfl⟩) hj'l ?_
            intro h6 tk6 F6
            clear F5
            have hx1 := seats_at hS j'
            generalize (sv[j']?).getD .none = v1 at *
            generalize (ss[j']?).getD .no = x1 at *
            repeat walk_at "S"
            rename_i h7 F7
            clear F6
            try dsimp only
            obtain ⟨n, rfl⟩ : ∃ k, n = k + 1 := by
              cases n with
              | zero => cases hr
              | succ k => exact ⟨k, rfl⟩
            cases hp1 : pairOf ps x1 with
            | none =>
              have e := seat_none hx1 hH hp1
              subst e
              simp only [revF, hp1, Option.some.injEq] at hr
              subst hr
              refine r_truthy_none ?_
              rw [if_pos (by simp)]
              repeat walk_at "S"
              exact h _ _ _ (back _ _ _ F7) hv1
            | some q =>
              obtain ⟨i1, j1⟩ := q
              have hh := seat_some hx1 hH hp1
              refine r_truthy_hit (by assumption) hh ?_
              rw [if_neg (by simp)]
              repeat walk_at "S"
              try dsimp only
              refine r_attr0 ?_ fn_no_span
              repeat walk_at "S"
              obtain ⟨x, f, rfl, HA, HS⟩ := id hh
              refine ⟨x, f, g, rfl, HA, F7.keep, fun tk => ?_⟩
              refine HS g _ d _ _ _ _ _ _ (.refl _) F7 R' W ?_
              intro T8 h8 tk8 k8 k9 F8
              clear F7
              repeat walk_at "S"
              rename_i h9 F9 h10 F10 h11 F11
              exact ⟨n, by lia, x1, some cur, _, _, i1, j1, _, _, h11, _, hp1, hr, hx1, hv1, rfl, F11⟩
        · rw [if_neg (by simpa using h2)]
          rw [if_neg (fun q => h2 q.2)] at hr
          cases hr
          repeat walk_at "S"
          rw [if_neg Bool.false_ne_true]
          repeat walk_at "S"
          exact h _ _ _ (back _ _ _ F1) hfv
      · rw [if_neg (by simpa using h1)]
        rw [if_neg (fun q => h1 q.1)] at hr
        cases hr
        repeat walk_at "S"
        rw [if_neg Bool.false_ne_true]
        repeat walk_at "S"
        exact h _ _ _ (back _ _ _ F1) hfv
/-! _law_back -/
def backF (ss : List Seat) (ps : List (Nat × Nat)) (m : Nat) : Nat → Int → List Seat → Option (List Seat)
  | 0, _, acc => some acc
  | k + 1, at_, acc => match revF ss ps at_ m ((ss[0]?).getD .no) none with
    | none => none
    | some none => some acc
    | some (some x) => match pairOf ps x with
      | none => none
      | some (i, _) => backF ss ps m k (i : Nat) (x :: acc)
def RowR (w : World) (g : Heap) (hv vs : List Value) (xs : List Seat) : Prop := SeatsR w g hv vs xs
theorem RowR.cons {w : World} {g : Heap} {hv vs : List Value} {xs : List Seat} {x : Seat} {v : Value} (r : RowR w g hv vs xs) (h : SeatR w g hv x v) : RowR w g hv ([v] ++ vs) (x :: xs) := by
  refine ⟨by simp [r.1], fun i q u h1 h2 => ?_⟩
  cases i with
  | zero => simp at h1 h2; subst h1 h2; exact h
  | succ i => simp at h1 h2; exact r.2 i q u h1 h2
theorem revF_found {ss : List Seat} {ps : List (Nat × Nat)} {col : Int} {x : Seat} : ∀ n cur found, revF ss ps col n cur found = some (some x) → found = some x ∨ ∃ i j, pairOf ps x = some (i, j) ∧ (i : Int) < col ∧ (j : Int) ≤ col
  | 0, _, _, h => by cases h
  | n + 1, cur, found, h => by
    unfold revF at h
    cases hp : pairOf ps cur with
    | none => simp only [hp] at h; left; exact Option.some.inj h
    | some q =>
      obtain ⟨i, j⟩ := q
      simp only [hp] at h
      split at h
      · rename_i hc
        rcases revF_found n _ _ h with e | e
        · cases e; exact .inr ⟨i, j, hp, hc.1, hc.2⟩
        · exact .inr e
      · left; exact Option.some.inj h
section
variable {w : World} {A : Around} {E : Value → Shared → Prop} {s : Shared}
theorem r_item_tup {value slice : Expr} {a : Addr} {vs : List Value} {i : Int} {u : Tok} {j : Nat} {x : Value} {Q : Value → Shared → Prop} (ho : s.heap.get? a = some (tup vs)) (hj : seqIndex? i vs.length = some j) (hi : -1000 ≤ i ∧ i ≤ 1000) (hx : vs[j]? = some x) (h : Q x s)
    (hs : subscripted slice false (.ref a) (.int i u) = operate [.ref a, .int i u] (getItem (.ref a) (.int i u)) := by with_unfolding_all rfl) :
    wpAny (Mo w) A (subscriptTail value slice (.ref a) (.int i u)) Q E s := by
  have ht : IsTup s.heap a vs.toArray := ⟨_, ho, rfl, 0, rfl⟩
  exact subscriptTail_builtinR ht.typeIs slot_tuple_getitem.lookup (getItem_tuple (Q := fun r s' => r = x ∧ Q r s') ht (by lia) (by lia) (by simpa using hj) (by simpa using hx) ⟨rfl, h⟩) hs
end
/-- between the turns of back_call's loop -/
def BackJ (w : World) (hv : List Value) (ss : List Seat) (ps : List (Nat × Nat)) (n : Nat) (rows : List Seat) (col : Int) (kc : Tok) (pv : Value) (t : List Nat) (ut : Tok) (i : Nat) (g' : Heap) (l' : List (Str × Value)) (mine' : Own) : Prop := ∃ at_ ka acc Rw vs e, mine' = [(Rw, lst vs e)] ∧ l' = [(Str.ofString "col", .int col kc), (Str.ofString "text", .str (S t) ut), (Str.ofString "prog", pv), (Str.ofString "at", .int at_ ka), (Str.ofString "row", .ref Rw)] ∧
    at_ ≤ 100 ∧ backF ss ps n (t.length + 2 - i) at_ acc = some rows ∧ RowR w g' hv vs acc ∧ acc.length = i
theorem back_call {w : World} {A : Around} {E : Value → Shared → Prop} {s : Shared} {g : Heap} {L : Addr} {own : Own} {m : Str → Option Value} {Q : Value → Shared → Prop} {d : Nat}
    {t : List Nat} {ut kc : Tok} {pv : Value} {hv sv : List Value} {ss : List Seat} {ps : List (Nat × Nat)} {col : Int} {n : Nat} {rows : List Seat} (F : Fx g L s.heap m own) (R : Rm A (d + 3)) (W : Wd w g) (P : ProgAt w g pv t sv) (hS : SeatsR w g hv sv ss) (hH : HitsR w g hv ps)
    (hl : t.length ≤ 50) (hc : col ≤ 100) (hr : backF ss ps n (t.length + 2) col [] = some rows)
    (h : ∀ g' a vs e h' tk, Sub g g' → Fx g' L h' m own → g'.get? a = some (lst vs e) → RowR w g' hv vs rows → Q (.ref a) { s with heap := h', toks := tk }) :
    wpAny (Mo w) A (call (.ref 85) [pv, .str (S t) ut, .int col kc]) Q E s := by
  refine r_enter (fd := fdOf w 85) (binds := [(Str.ofString "prog", pv), (Str.ofString "text", .str (S t) ut), (Str.ofString "col", .int col kc)]) F R W (W.K 85 _ rfl) rfl (codeRec_of W.K (by rfl)) rfl (BindsTo.of_eq rfl) (by intro x hx; revert x; exact of_decide_eq_true rfl) (locs rfl) rfl rfl rfl ?_
  intro L' h₁ oL R' F' back
  clear F
  repeat walk_at "S"
  rename_i R2 h2 F2 T3 h3 F3 h4 F4 h5 F5 h6 F6 k7 tk7 r8 t8 v8 h8 tk8 F8
  clear F2 F3 F4 F5 F6 F'
  refine r_iter_range F8 (by lia) (by lia) (by lia) (by lia) ?_
  intro I oI St h9 it st F9
  clear F8
  try dsimp only
  refine r_forLoop (mine := [(R2, lst [] 0)]) R' it goOk_name (BackJ w hv ss ps n rows col kc pv t ut) ?_ F9.swap st ?_ ?_
  · exact ⟨col, kc, [], R2, [], 0, rfl, rfl, hc, hr, ⟨rfl, fun i p v e => by simp at e⟩, rfl⟩
  · rintro i v g' l' mine' h' tk oI' hi ⟨k, rfl⟩ hsub ⟨at_, ka, acc, Rw, vs, e, rfl, rfl, hat, hb, hrow, hacc⟩ F'
    simp only [List.cons_append, List.nil_append] at F'
    have W2 := W.mono hsub
    have hvl := hrow.1
    rw [show t.length + 2 - i = (t.length + 2 - (i + 1)) + 1 by lia] at hb
    clear F9
    unfold backF at hb
    repeat walk_at "S"
    rename_i h10 F10
    cases hrev : revF ss ps at_ n ((ss[0]?).getD .no) none with
    | none => rw [hrev] at hb; cases hb
    | some r =>
      refine reverse_call F10 R' W2 (P.mono hsub) (hS.mono hsub) (hH.mono hsub) hat hrev ?_
      intro v11 h11 tk11 F11 hv11
      clear F' F10
      repeat walk_at "S"
      rename_i h12 F12
      clear F11
      cases r with
      | none =>
        have hv11 : v11 = .none := hv11
        subst hv11
        rw [hrev] at hb
        cases hb
        rw [if_pos (by rfl)]
        repeat walk_at "S"
        refine Fx.freezeK F12 ?_
        intro g13 s13 F13 n13
        exact h g13 Rw vs e _ _ (hsub.trans s13) (back _ _ _ F13.drop) n13 (SeatsR.mono hrow s13)
      | some x =>
        have hv11 : SeatR w g' hv x v11 := hv11
        rcases revF_found _ _ _ hrev with q | ⟨i1, j1, hp, hi1, hj1⟩
        · cases q
        have hh := seat_some hv11 (hH.mono hsub) hp
        obtain ⟨x1, f1, rfl, HA, HS⟩ := id hh
        rw [hrev] at hb
        simp only [hp] at hb
        rw [if_neg (show ¬ ((Value.ref x1 == Value.none) = true) from Bool.false_ne_true)]
        repeat walk_at "S"
        rename_i c13 h13 F13
        refine r_add_lsts F13 F13.head (F13.at (.tail _ (.head _))) (by simp; lia) ?_
        intro c14 h14 F14
        have F15 := F14.swap.drop.swap.drop
        clear F12 F13 F14
        repeat walk_at "S"
        rename_i h16 F16
        clear F15
        refine r_attr0 ?_ fn_no_span
        repeat walk_at "S"
        refine ⟨x1, f1, g', rfl, HA, F16.keep, fun tk => ?_⟩
        refine HS g' _ (d + 1) _ _ _ _ _ _ (.refl _) F16 R' W2 ?_
        intro T17 h17 tk17 k17 k18 F17
        clear F16
        repeat walk_at "S"
        refine r_item_tup F17.head (j := 0) (by rfl) (by lia) (by rfl) ?_
        have F18 := F17.drop
        repeat walk_at "S"
        rename_i h19 F19
        refine (LoopEnd.of g' _ (.refl _) ⟨(i1 : Nat), _, x :: acc, c14, _, _, rfl, rfl, by lia, hb, RowR.cons hrow hv11, by simp [hacc]⟩ (Fx.take 5 F19))
  · rintro g' l' mine' h' tk hsub ⟨at_, ka, acc, Rw, vs, e, rfl, rfl, hat, hb, hrow, hacc⟩ F'
    simp only [List.cons_append, List.nil_append] at F'
    rw [show t.length + 2 - ((t.length : Int) + 2 - 0).toNat = 0 by lia] at hb
    cases hb
    clear F9
    repeat walk_at "S"
    refine Fx.freezeK F' ?_
    intro g13 s13 F13 n13
    exact h g13 Rw vs e _ _ (hsub.trans s13) (back _ _ _ F13) n13 (SeatsR.mono hrow s13)
/-! _law_matches -/
def wholeF (ps : List (Nat × Nat)) (col : Int) : List (Nat × Nat) := ps.filter fun p => decide ((p.1 : Int) < col) && decide ((p.2 : Int) ≤ col)
def MatchesOk (n : Nat) (ps : List (Nat × Nat)) : Prop := ∃ m, ∀ col : Int, -1 ≤ col → col ≤ n + 1 → backF (seatsAll n ps) ps m (n + 2) col [] = some ((List.range (wholeF ps col).length).map .own)
/-- between the turns of matches_call's loop -/
def MatchJ (L' a : Addr) (pv : Value) (t : List Nat) (ut : Tok) (i : Nat) (g' : Heap) (l' : List (Str × Value)) (mine' : Own) : Prop := ∃ oR vR oC vC, mine' = [(L' + 1 + 1 + 1, oR), (L' + 1 + 1, oC)] ∧ l' = [(Str.ofString "text", .str (S t) ut), (Str.ofString "stretches", .ref a), (Str.ofString "prog", pv)] ∧
    oR.data = .cell vR ∧ oC.data = .cell vC
theorem matches_call {w : World} {A : Around} {E : Value → Shared → Prop} {s : Shared} {g : Heap} {L : Addr} {own : Own} {m : Str → Option Value} {Q : Value → Shared → Prop} {d : Nat} {ph pp : Array Value}
    {t : List Nat} {ut : Tok} {a : Addr} {vs : List Value} {n : Nat} {ps : List (Nat × Nat)} (F : Fx g L s.heap m ((68, tabObj ph) :: (75, tabObj pp) :: own)) (R : Rm A (d + 4)) (W : Wd w g) (B : Bm g) (T : Tab g 72 68 (qHit w) ph) (T' : Tab g 77 75 (qProg w) pp)
    (ha : g.get? a = some (lst vs n)) (hvs : Prs g vs ps) (hl : t.length ≤ 20) (hp : ps.length ≤ 20) (hb : ∀ p ∈ ps, p.1 ≤ 20 ∧ p.2 ≤ 20) (hM : MatchesOk t.length ps)
    (h : ∀ g' tk h' ph' pp', Sub g g' → Tab g' 72 68 (qHit w) ph' → Tab g' 77 75 (qProg w) pp' → Fx g' L h' m ((68, tabObj ph') :: (75, tabObj pp') :: own) → Q (.bool true) { s with heap := h', toks := tk }) :
    wpAny (Mo w) A (call (.ref 90) [.str (S t) ut, .ref a]) Q E s := by
  obtain ⟨fu, hM⟩ := hM
  refine r_enterC (fd := fdOf w 90) (binds := [(Str.ofString "text", .str (S t) ut), (Str.ofString "stretches", .ref a)]) (l := [(Str.ofString "text", .str (S t) ut), (Str.ofString "stretches", .ref a)]) F R W (W.K 90 _ rfl) rfl (codeRec_of W.K (by rfl)) rfl rfl rfl (by rfl) (of_decide_eq_true rfl)
    (by intro p hp; simp only [List.mem_cons, List.not_mem_nil, or_false] at hp; rcases hp with rfl | rfl <;> rfl) rfl rfl rfl ?_
  intro L' h₁ tk₁ oL cs R' hcs F' back
  obtain ⟨o1, cs1, rfl, d1, o2, cs2, rfl, d2, o3, cs3, rfl, d3, rfl⟩ := hcs
  simp only [List.cons_append, List.nil_append] at F'
  clear F
  have F1 := F'.p4.p5
  repeat walk_at "S"
  have d1 : o1.data = .cell none := d1
  have d2 : o2.data = .cell none := d2
  have d3 : o3.data = .cell none := d3
  refine prog_call F1.swap R' W B T T' ha hvs hl hp hb ?_
  intro g2 x2 tk2 h2 ph2 pp2 pv H hv sv eH s2 T2 T2' F2 hP hHg hH hS
  clear F' F1
  have W2 := W.mono s2
  have ha := s2 _ _ ha
  have hvs := hvs.mono s2
  repeat walk_at "S"
  rename_i h3 F3 h4 F4
  refine r_storeCell F4.p4 (by rfl) d3 ?_
  intro h5 o5 d5 F5
  clear F2 F3 F4
  refine Fx.freezeK F5 ?_
  intro g6 s6 F6 n6
  dsimp only at n6
  have W6 := W2.mono s6
  have ha := s6 _ _ ha
  have hvs := hvs.mono s6
  have hP := hP.mono s6
  have hHg := s6 _ _ hHg
  have hH := hH.mono s6
  have hS := hS.mono s6
  have T6 := T2.mono s6
  have T6' := T2'.mono s6
  clear F5
  repeat walk_at "S"
  rename_i k7 tk7 r7 v7 h7 tk8 F7
  refine r_iter_range F7 (by lia) (by lia) (by lia) (by lia) ?_
  intro I oI St h9 it st F9
  clear F6 F7
  try dsimp only
  have hsl := hS.1
  refine r_forLoop (mine := [(L' + 1 + 1 + 1, o1), (L' + 1 + 1, o2)]) R' it goOk_name (MatchJ L' a pv t ut) ?_ F9.p4.p4 st ?_ ?_
  · exact ⟨o1, none, o2, none, rfl, rfl, d1, d2⟩
  · rintro i v g' l' mine' h' tk oI' hi ⟨k, rfl⟩ hsub ⟨oR, vR, oC, vC, rfl, rfl, dR, dC⟩ F'
    simp only [List.cons_append, List.nil_append] at F'
    have W3 := W6.mono hsub
    clear F9 h
    repeat walk_at "S"
    refine r_storeCell F'.swap (by rfl) dC ?_
    intro h11 oC' dC' F11
    clear F'
    generalize hcol : (-1 + (i : Int)) = col at *
    have hcol1 : -1 ≤ col := by lia
    have hcol2 : col ≤ t.length + 1 := by lia
    repeat walk_at "S"
    refine r_cell F11 (by rfl) (.head _) dC' ?_
    repeat walk_at "S"
    refine back_call F11 R' W3 (hP.mono hsub) (hS.mono hsub) (hH.mono hsub) (by lia) (by lia) (hM col hcol1 hcol2) ?_
    intro g12 a12 vs12 e12 h12 tk12 s12 F12 ha12 hrow
    clear F11
    refine r_storeCell F12.swap (by rfl) dR ?_
    intro h13 oR' dR' F13
    clear F12
    have W12 := W3.mono s12
    have ha := s12 _ _ (hsub _ _ ha)
    have hvs := (hvs.mono hsub).mono s12
    try dsimp only
    walk_at "S"
    walk_at "S"
    walk_at "S"
    walk_at "S"
    refine r_comp (cl := [(Str.ofString "col", L' + 1 + 1)]) ?_ (by rfl) (by rfl) (by intro y hy; revert y; exact of_decide_eq_true rfl)
    repeat walk_at "S"
    refine r_iter_list F13 ha ?_
    intro I2 oI2 St2 h14 it2 go2 st2 F14
    refine ⟨I2, rfl, ?_⟩
    refine r_comp_block (mine := []) R' it2 goOk_name (by rw [hvs.1]; lia) (fun j g5 ys mine5 => mine5 = [] ∧ ys.length = (wholeF (ps.take j) col).length) ⟨rfl, rfl⟩
      (fun j g5 ys mine5 hj => by rw [hj.2]; exact Nat.le_trans (List.length_filter_le ..) (by simp; lia)) F14 st2 (by intro y hy; revert y; exact of_decide_eq_true rfl) (by rfl) ?_ ?_
    · rintro j v g15 ys e15 mine15 h15 tk15 oI15 D15 C15 oL15 hj hvj hs15 ⟨rfl, hy⟩ F15
      simp only [List.nil_append] at F15
      obtain ⟨p, hpj⟩ : ∃ p, ps[j]? = some p := ⟨ps[j]'(by rw [← hvs.1]; exact hj), by simp⟩
      refine PairAt.elimK ((hvs.mono hs15).2 j p v hpj hvj) ?_
      rintro pa kt ku rfl hpa
      have hwj : wholeF (ps.take (j + 1)) col = wholeF (ps.take j) col ++ (if (p.1 : Int) < col ∧ (p.2 : Int) ≤ col then [p] else []) := by
        rw [List.take_add_one, hpj]
        show List.filter _ (_ ++ [p]) = _
        rw [List.filter_append]
        congr 1
        by_cases q : (p.1 : Int) < col ∧ (p.2 : Int) ≤ col
        · rw [if_pos q, List.filter_cons_of_pos (by simp [q.1, q.2]), List.filter_nil]
        · rw [if_neg q, List.filter_cons_of_neg (by simpa using q), List.filter_nil]
      clear F13 F14
      repeat walk_at "S"
      rename_i h16 F16
      refine wpAny_tests_one ?_
      repeat walk_at "S"
      refine r_item_tup (F16.keep _ _ hpa) (j := 0) (by rfl) (by lia) (by rfl) ?_
      repeat walk_at "S"
      refine r_cell F16 (by rfl) (.tail _ (.tail _ (.tail _ (.tail _ (.head _))))) dC' ?_
      repeat walk_at "S"
      have no : ¬ ((p.1 : Int) < col ∧ (p.2 : Int) ≤ col) → ∀ tk, CompEnd s g15 C15 ((D15, lst ys e15) :: (I2, oI15) :: (L', oL15) :: (L' + 1 + 1 + 1, oR') :: (L' + 1 + 1, oC') :: (I, oI') :: (68, tabObj ph2) :: (75, tabObj pp2) :: (L, oL) :: own)
          (fun g5 ys mine5 => mine5 = [] ∧ ys.length = (wholeF (ps.take (j + 1)) col).length) ys { s with heap := h16, toks := tk } := fun q tk => (CompEnd.of g15 [] (.refl _) ⟨rfl, by rw [hwj, if_neg q, List.append_nil]; exact hy⟩ (Fx.take 0 F16))
      by_cases q1 : (p.1 : Int) < col
      · rw [if_pos (by simpa using q1)]
        repeat walk_at "S"
        refine r_item_tup (F16.keep _ _ hpa) (j := 1) (by rfl) (by lia) (by rfl) ?_
        repeat walk_at "S"
        refine r_cell F16 (by rfl) (.tail _ (.tail _ (.tail _ (.tail _ (.head _))))) dC' ?_
        repeat walk_at "S"
        by_cases q2 : (p.2 : Int) ≤ col
        · rw [if_pos (by simpa using q2)]
          repeat walk_at "S"
          rw [if_pos rfl]
          repeat walk_at "S"
          refine (CompEnd.of g15 [] (.refl _) ⟨rfl, rfl, by rw [hwj, if_pos ⟨q1, q2⟩]; simp [hy]⟩ (Fx.take 0 F16))
        · rw [if_neg (by simpa using q2)]
          repeat walk_at "S"
          rw [if_neg Bool.false_ne_true]
          exact no (fun q => q2 q.2) _
      · rw [if_neg (by simpa using q1)]
        repeat walk_at "S"
        rw [if_neg Bool.false_ne_true]
        exact no (fun q => q1 q.1) _
    · rintro g15 ys e15 mine15 h15 tk15 D15 C15 oL15 m15 hs15 ⟨rfl, hy⟩ hfr F15
      refine compPost_none hfr F15 ?_
      intro h16 F16
      simp only [List.nil_append] at F16
      rw [hvs.1, List.take_length] at hy
      have hyl : ys.length ≤ 20 := by rw [hy]; exact Nat.le_trans (List.length_filter_le ..) hp
      clear F13 F14 F15
      repeat walk_at "S"
      refine r_len_lst (vs := ys) F16.head (by lia) ?_
      intro k17 tk17
      have F17 := F16.drop
      clear F16
      have W15 := W12.mono hs15
      have ha15 := hs15 _ _ ha12
      have hrl := hrow.1
      rw [List.length_map, List.length_range] at hrl
      have hHg15 := hs15 _ _ (s12 _ _ (hsub _ _ hHg))
      have n15 := hs15 _ _ (s12 _ _ (hsub _ _ n6))
      have hH15 := ((hH.mono hsub).mono s12).mono hs15
      have hrow := SeatsR.mono hrow hs15
      repeat walk_at "S"
      rename_i h18 F18
      clear F17
      refine r_cell F18 (by rfl) (.head _) dR' ?_
      repeat walk_at "S"
      refine r_len_lst (vs := vs12) (F18.keep _ _ ha15) (by lia) ?_
      intro k19 tk19
      repeat walk_at "S"
      rw [if_neg (by simp; lia)]
      walk_at "S"
      try dsimp only
      refine wpAny_isTrue_value ?_
      refine r_comp (cl := [(Str.ofString "row", L' + 1 + 1 + 1), (Str.ofString "hits", L' + 1)]) ?_ (by rfl) (by rfl) (by intro y hy; revert y; exact of_decide_eq_true rfl)
      repeat walk_at "S"
      rename_i r20 t20 v20 h20 tk20 F20
      refine r_iter_range F20 (by lia) (by lia) (by lia) (by lia) ?_
      intro I3 oI3 St3 h21 it3 st3 F21
      refine ⟨I3, rfl, ?_⟩
      clear F18 F20
      refine r_comp_block (mine := []) R' it3 goOk_name (by lia) (fun j g5 ys mine5 => mine5 = [] ∧ ys = []) ⟨rfl, rfl⟩ (fun j g5 ys mine5 hj => by rw [hj.2]; simp) F21 st3 (by intro y hy; revert y; exact of_decide_eq_true rfl) (by rfl) ?_ ?_
      · rintro j v g22 zs e22 mine22 h22 tk22 oI22 D22 C22 oL22 hj ⟨k, rfl⟩ hs22 ⟨rfl, rfl⟩ F22
        simp only [List.nil_append] at F22
        have hj' : j < (wholeF ps col).length := by lia
        have hps : (wholeF ps col).length ≤ ps.length := List.length_filter_le ..
        have hjv : j < vs12.length := by lia
        have hjh : j < hv.length := by rw [hH15.1]; lia
        have e1 : hv[j]? = some vs12[j] := hrow.2 j (.own j) vs12[j] (by simp [hj']) (by simp)
        obtain ⟨x1, f1, ex, _⟩ := hH15.2 j (ps[j]'(by lia)) vs12[j] (by simp) e1
        have e3 : vs12[(0 + (j : Int)).toNat]? = some (.ref x1) := by rw [show (0 + (j : Int)).toNat = j by lia, ← ex]; simp
        have e4 : hv[(0 + (j : Int)).toNat]? = some (.ref x1) := by rw [show (0 + (j : Int)).toNat = j by lia, ← ex]; exact e1
        have ha22 := hs22 _ _ ha15
        have hH22 := hs22 _ _ hHg15
        have n22 := hs22 _ _ n15
        clear F21
        repeat walk_at "S"
        rename_i h23 F23
        refine wpAny_tests_one ?_
        repeat walk_at "S"
        refine r_cell F23 (by rfl) (.tail _ (.tail _ (.tail _ (.head _)))) dR' ?_
        repeat walk_at "S"
        refine wpAny_isNot_ref_self ?_
        repeat walk_at "S"
        rw [if_neg Bool.false_ne_true]
        exact (CompEnd.of g22 [] (.refl _) ⟨rfl, rfl⟩ (Fx.take 0 F23))
      · rintro g22 zs e22 mine22 h22 tk22 D22 C22 oL22 m22 hs22 ⟨rfl, rfl⟩ hfr22 F22
        refine compPost_none hfr22 F22 ?_
        intro h23 F23
        simp only [List.nil_append] at F23
        clear F21 F22
        refine wpAny_truthy_list (⟨_, F23.head, rfl, e22, rfl⟩ : Heap.IsList _ D22 ([] : List Value).toArray) (by simp) ?_
        have F24 := F23.drop
        clear F23
        try dsimp only
        repeat walk_at "S"
        rw [if_neg (by simp)]
        repeat walk_at "S"
        rw [if_neg Bool.false_ne_true]
        repeat walk_at "S"
        exact (LoopEnd.of g22 _ (s12.trans (hs15.trans hs22)) ⟨oR', _, oC', _, rfl, rfl, dR', dC'⟩ (Fx.take 3 F24))
  · rintro g' l' mine' h' tk hsub ⟨oR, vR, oC, vC, rfl, rfl, dR, dC⟩ F'
    simp only [List.cons_append, List.nil_append] at F'
    clear F9
    repeat walk_at "S"
    exact h g' _ _ ph2 pp2 (s2.trans (s6.trans hsub)) (T6.mono hsub) (T6'.mono hsub) (back _ _ _ (F'.drop.drop.rot3))
/-! lists that are not unlike; join; a slice of a value that is no name -/
section
open PySem.SeqAt
variable {w : World} {A : Around} {E : Value → Shared → Prop} {s : Shared} {env : Env} {g : Heap} {L : Addr} {own : Own} {m : Str → Option Value}
theorem Fx.keepsL {h : Heap} (F : Fx g L h m own) {a : Addr} {xs : Array Value} (x : g.IsList a xs) : h.IsList a xs := let ⟨o, e, r⟩ := x; ⟨o, F.keep _ _ e, r⟩
theorem r_ne_lists {a b : Addr} {xs ys : List Value} {n k : Nat} {d : Nat} {Q : Value → Shared → Prop} (R : Rm A d) (ha : s.heap.get? a = some (lst xs n)) (hb : s.heap.get? b = some (lst ys k)) (hl : xs.length = ys.length)
    (he : ∀ (j : Nat) x y, xs[j]? = some x → ys[j]? = some y → EqAt A.in1 s x y true) (h : Q (.bool false) s) : wpAny (Mo w) A (compareOp .NotEq (.ref a) (.ref b)) Q E s := by
  have := RcNeAt.lists (A := A) (s := s) (e := fun _ => true) (⟨_, ha, rfl, n, rfl⟩ : Heap.IsList _ a xs.toArray) (⟨_, hb, rfl, k, rfl⟩ : Heap.IsList _ b ys.toArray) (by simpa using hl) R.line
    (fun j h1 h2 => he j _ _ (by simp) (by simp)) PG w E Q
  refine this ?_
  have e : (!(List.range xs.toArray.size).all fun _ => true) = false := by simp
  rw [e]; exact h
theorem in1_units {d : Nat} (R : Rm A (d + 1)) : A.in1.units < cLine := by have := R.units; show A.units + 1 < 9900; lia
theorem r_ne_pairs {a b : Addr} {xs ys : List Value} {ps : List (Nat × Nat)} {n k : Nat} {d : Nat} {Q : Value → Shared → Prop} (F : Fx g L s.heap m own) (R : Rm A (d + 1)) (ha : g.get? a = some (lst xs n)) (hb : g.get? b = some (lst ys k)) (hx : Prs g xs ps) (hy : Prs g ys ps)
    (h : Q (.bool false) s) : wpAny (Mo w) A (compareOp .NotEq (.ref a) (.ref b)) Q E s := by
  refine r_ne_lists R (F.keep _ _ ha) (F.keep _ _ hb) (by rw [hx.1, hy.1]) (fun j x y e1 e2 => ?_) h
  have hj : j < ps.length := by rw [← hx.1]; exact (List.getElem?_eq_some_iff.mp e1).1
  obtain ⟨a1, t1, u1, rfl, h1⟩ := hx.2 j ps[j] x (by simp) e1
  obtain ⟨a2, t2, u2, rfl, h2⟩ := hy.2 j ps[j] y (by simp) e2
  by_cases hne : a1 = a2
  · subst hne; exact EqAt.same _
  · have := RcAt.tuples (A := A.in1) (s := s) (e := fun _ => true) (⟨_, F.keep _ _ h1, rfl, 0, rfl⟩ : Heap.IsTuple _ a1 _) (⟨_, F.keep _ _ h2, rfl, 0, rfl⟩ : Heap.IsTuple _ a2 _) (in1_units R) (fun j q1 q2 => by
      have q : j = 0 ∨ j = 1 := by simp at q1; lia
      rcases q with rfl | rfl
      · have := EqAt.int_int (A := A.in1.in1) (s := s) ((ps[j]'hj).1 : Nat) t1 ((ps[j]'hj).1 : Nat) t2
        rw [beq_self_eq_true] at this
        exact this
      · have := EqAt.int_int (A := A.in1.in1) (s := s) ((ps[j]'hj).2 : Nat) u1 ((ps[j]'hj).2 : Nat) u2
        rw [beq_self_eq_true] at this
        exact this)
    exact EqAt.of_refs hne this
theorem r_ne_strs {a b : Addr} {xs ys : List Value} {zs : List (List Nat)} {n k : Nat} {d : Nat} {Q : Value → Shared → Prop} (R : Rm A d) (ha : s.heap.get? a = some (lst xs n)) (hb : s.heap.get? b = some (lst ys k)) (hx : StrsR xs zs) (hy : StrsR ys zs)
    (h : Q (.bool false) s) : wpAny (Mo w) A (compareOp .NotEq (.ref a) (.ref b)) Q E s := by
  refine r_ne_lists R ha hb (by rw [hx.1, hy.1]) (fun j x y e1 e2 => ?_) h
  have hj : j < zs.length := by rw [← hx.1]; exact (List.getElem?_eq_some_iff.mp e1).1
  obtain ⟨k1, rfl⟩ := hx.2 j zs[j] x (by simp) e1
  obtain ⟨k2, rfl⟩ := hy.2 j zs[j] y (by simp) e2
  have := EqAt.str_str (A := A.in1) (s := s) (S zs[j]) k1 (S zs[j]) k2
  rw [beq_self_eq_true] at this
  exact this
/-- a slice of a list that a made value holds -/
theorem r_slice_lstR {h : Heap} {value slice : Expr} {a b : Addr} {vs : List Value} {vl vu : Value} {lo hi : Option Int} {Q : Value → Shared → Prop} (F : Fx g L h m own)
    (he : s.heap = h.push { cls := .type "slice", data := .fields #[vl, vu, .none] }) (hb : b = h.objs.size) (hI : h.IsList a vs.toArray) (pl : IsPart vl lo) (pu : IsPart vu hi) (hl : vs.length ≤ 1000)
    (k : ∀ c h', Fx g L h' m ((c, lst (slicePick vs.toArray lo hi none).toList 0) :: own) → Q (.ref c) { s with heap := h' })
    (hs : subscripted slice false (.ref a) (.ref b) = operate [.ref b, .ref a] (getItem (.ref a) (.ref b)) := by with_unfolding_all rfl) :
    wpAny (Mo w) A (subscriptTail value slice (.ref a) (.ref b)) Q E s := by
  obtain ⟨hp, g1, d1, t1, o1⟩ := s
  dsimp only at he
  subst he hb
  have hT := Heap.IsList.typeIs (s := ⟨h.push { cls := .type "slice", data := .fields #[vl, vu, .none] }, g1, d1, t1, o1⟩) (hI.push _)
  unfold subscriptTail
  refine wpAny_bind ?_
  rw [getitemInPython_of_ne hT.not_modules]
  refine wpAny_bind (wpAny_specialOf hT list_getitem_lookup ?_)
  have fin : wpAny (Mo w) A (subscripted slice false (.ref a) (.ref h.objs.size)) (fun r s₃ => wpAny (Mo w) A (letTemporaryGo value (.ref a) r >>= fun _ => pure r) Q E s₃) E ⟨h.push { cls := .type "slice", data := .fields #[vl, vu, .none] }, g1, d1, t1, o1⟩ := by
    rw [hs]
    refine wpAny_operating (wpAny_getItem_list_slice (hI.push _) (Heap.IsSliceOf.new ..) pl pu .none (by simp) ?_ (by simpa using le_line hl))
    refine wpAny_bind (wpAny_letTemporaryGo (wpAny_pure (k _ _ ?_)))
    simpa using ((F.push { cls := .type "slice", data := .fields #[vl, vu, .none] }).pushOwn (lst (slicePick vs.toArray lo hi none).toList 0))
  first
    | exact wpAny_pure (wpAny_bind fin)
    | exact wpAny_bind (wpAny_pure (wpAny_bind fin))
    | exact wpAny_bind fin
theorem strsAre_of : ∀ {vs : List Value} {zs : List (List Nat)}, StrsR vs zs → StrsAre vs (zs.map S)
  | [], [], _ => .nil
  | [], _ :: _, r => by have := r.1; simp at this
  | _ :: _, [], r => by have := r.1; simp at this
  | v :: vs, z :: zs, r => by
    obtain ⟨k, rfl⟩ := r.2 0 z v rfl rfl
    refine .cons _ _ (strsAre_of ⟨by have := r.1; simpa using this, fun i x v h1 h2 => r.2 (i + 1) x v h1 h2⟩)
theorem join_signs : ∀ cs : List Nat, Str.join (S []) (cs.map fun c => S [c]) = S cs
  | [] => rfl
  | [c] => rfl
  | c :: d :: r => by
    have ih := join_signs (d :: r)
    show S [c] ++ S [] ++ Str.join (S []) ((d :: r).map fun c => S [c]) = _
    rw [ih, S_cat, S_cat]; rfl
end
/-! law -/
def readT (x : List Nat) : List Nat := stripF (readF x.length x)
def touchF (ps : List (Nat × Nat)) : List (Nat × Nat) := ((ps.take (ps.length - 1)).map fun p => (p.1, p.2 + 1)) ++ ps.drop (ps.length - 1)
def restF (t : List Nat) (items : List (Nat × Nat)) (col whole : Nat) : List (List Nat) := (((items.drop whole).take 1).filter fun p => decide (p.1 < col)).map fun p => readT ((t.take col).drop p.1)
structure LawOk (t : List Nat) (items : List (Nat × Nat)) : Prop where
  a : stretchesF t = items
  b1 : MatchesOk t.length items
  b2 : MatchesOk t.length (touchF items)
  c : ∀ col k, col ≤ t.length → k ≤ (wholeF items col).length → ∀ p, items[k]? = some p → p.1 ≤ col →
    parseF ((t.take col).drop p.1) = (((items.map fun p => readT ((t.take p.2).drop p.1)).take (wholeF items col).length).drop k) ++ restF t items col (wholeF items col).length
  len : items.length ≤ t.length + 1
  le : ∀ p ∈ items, p.1 ≤ p.2 ∧ p.2 ≤ t.length
  le' : ∀ p ∈ touchF items, p.1 ≤ t.length ∧ p.2 ≤ t.length
noncomputable abbrev lawEnv (w : World) (L fa : Addr) (cd : Value) : Env := envX (Str.ofString "law") (fdOf w 95).scope L fa cd (cellsFrom (L + 1) (fdOf w 95).scope.names [])
theorem strs_pairs : ∀ {vs : List Value} {zs : List (List Nat)}, StrsR vs zs → ∃ l : List (Str × Tok), strValues l = vs ∧ l.map (·.1) = zs.map S
  | [], [], _ => ⟨[], rfl, rfl⟩
  | [], _ :: _, r => by have := r.1; simp at this
  | _ :: _, [], r => by have := r.1; simp at this
  | v :: vs, z :: zs, r => by
    obtain ⟨k, rfl⟩ := r.2 0 z v rfl rfl
    obtain ⟨l, h1, h2⟩ := strs_pairs (vs := vs) (zs := zs) ⟨by have := r.1; simpa using this, fun i x v h1 h2 => r.2 (i + 1) x v h1 h2⟩
    exact ⟨(S z, k) :: l, by rw [← h1]; rfl, by rw [List.map_cons, h2]; rfl⟩
theorem pick8 (ws : List Value) : (slicePick ws.toArray none (some 8) none).toList = ws.take 8 := by
  have := slicePick_upto' ws.toArray 8
  rw [show ((8 : Nat) : Int) = 8 from rfl] at this
  rw [this]
theorem law_text {w : World} {A : Around} {s : Shared} {g : Heap} {L fa : Addr} {cd : Value} {own : Own} {d : Nat} {a : Addr} {vs : List Value} {ns : List Int} {Q : Flow → Shared → Prop} {ot : Obj} {vt : Option Value}
    (F : Fx g L s.heap (mp [(Str.ofString "script", .ref a)]) ((L + 1, ot) :: own)) (dt : ot.data = .cell vt) (R : Rm A (d + 2)) (W : Wd w g) (ha : g.IsList a vs.toArray) (hi : IntsAre vs ns) (hn : vs.length ≤ 63)
    (h : ∀ t k ot' g' h' tk, t.length ≤ 8 → ot'.data = .cell (some (.str (S t) k)) → Sub g g' → Fx g' L h' (mp [(Str.ofString "script", .ref a)]) ((L + 1, ot') :: own) → Q .next { s with heap := h', toks := tk }) :
    wpAny (Mo w) A (exec ((stmtsOf (fdOf w 95)).headD (.Pass default)) (lawEnv w L fa cd)) Q (fun _ _ => False) s := by
  refine wpAny_Assign_Name ?_
  refine Call_method1 (by rfl) (by rfl) (by rfl) ?_
  repeat walk_at "S"
  refine PySem.SB.join ?_
  refine r_comp (cl := []) ?_ (by rfl) (by rfl) (by intro y hy; revert y; exact of_decide_eq_true rfl)
  refine wpAny_mono (Q := fun v s' => ∃ b g' h' tk ws e', v = .ref b ∧ s' = { s with heap := h', toks := tk } ∧ Sub g g' ∧ g'.get? b = some (lst ws e') ∧ (∀ x ∈ ws, ∃ n k, x = .int n k) ∧ ws.length ≤ 8 ∧ Fx g' L h' (mp [(Str.ofString "script", .ref a)]) ((L + 1, ot) :: own)) ?_ ?_ (fun _ _ x => x)
  · have hints : ∀ x ∈ vs, ∃ n k, x = .int n k := by
      intro x hx
      obtain ⟨j, hj⟩ := List.getElem?_of_mem hx
      obtain ⟨hj1, _⟩ := List.getElem?_eq_some_iff.mp hj
      have := hi.length
      obtain ⟨k, hk⟩ := hi.get j ns[j] (by simp)
      rw [hk] at hj; cases hj
      exact ⟨_, _, rfl⟩
    have fin : ∀ (b : Addr) (ws : List Value) (g1 : Heap) (s1 : Shared) (e1 : Nat), Sub g g1 → (∃ h' tk, s1 = { s with heap := h', toks := tk }) → Fx g1 L s1.heap (mp [(Str.ofString "script", .ref a)]) ((L + 1, ot) :: own) → g1.get? b = some (lst ws e1) → (∀ x ∈ ws, ∃ n k, x = .int n k) → ws.length ≤ 63 → True := fun _ _ _ _ _ _ _ _ _ _ _ => trivial
    walk_at "S"
    refine BoolOp_or ?_
    repeat walk_at "S"
    refine wpAny_truthy_list (F.keepsL ha) (by simp; lia) ?_
    by_cases hv : vs = []
    · subst hv
      rw [if_neg (by simp)]
      refine BoolOp_one ?_
      repeat walk_at "S"
      rename_i c2 h2 F2
      try dsimp only
      refine r_slice_lstR F2 rfl rfl ⟨_, F2.head, rfl, _, rfl⟩ .none (.int _ _) (by simp) ?_
      intro c3 h3 F3
      refine Fx.freezeK F3 ?_
      intro g4 s4 F4 n4
      rw [pick8] at n4
      refine ⟨c3, g4, _, _, _, _, rfl, rfl, s4, n4, ?_, by rw [List.length_take]; exact Nat.min_le_left _ _, F4.drop⟩
      intro x hx
      have hx := List.mem_of_mem_take hx
      simp only [List.mem_cons, List.not_mem_nil, or_false] at hx
      rcases hx with rfl | rfl | rfl | rfl | rfl | rfl | rfl | rfl <;> exact ⟨_, _, rfl⟩
    · rw [if_pos (by simpa using hv)]
      repeat walk_at "S"
      try dsimp only
      refine r_slice_lstR F rfl rfl (F.keepsL ha) .none (.int _ _) (by lia) ?_
      intro c3 h3 F3
      refine Fx.freezeK F3 ?_
      intro g4 s4 F4 n4
      rw [pick8] at n4
      refine ⟨c3, g4, _, _, _, _, rfl, rfl, s4, n4, fun x hx => hints x (List.mem_of_mem_take hx), by rw [List.length_take]; lia, F4⟩
  · refine coverA ?_
    intro GG hGG v s' hh
    obtain ⟨b, g2, h2, tk2, ws, e2, rfl, rfl, s2, hb, hws, hwl, F2⟩ := hh
    refine hGG _ _ ?_
    clear hGG
    have W2 := W.mono s2
    clear F
    refine r_iter_list F2 hb ?_
    intro I oI St h3 it go st F3
    refine ⟨I, rfl, ?_⟩
    refine r_comp_block (mine := []) R it goOk_name (by lia) (fun j g5 ys mine5 => mine5 = [] ∧ ∃ cs : List Nat, cs.length = j ∧ StrsR ys (cs.map fun c => [c])) ⟨rfl, [], rfl, .nil⟩ (fun j g5 ys mine5 hj => by obtain ⟨_, cs, h1, h2⟩ := hj; rw [h2.1, List.length_map]; lia) F3 st
      (by intro y hy; revert y; exact of_decide_eq_true rfl) (by rfl) ?_ ?_
    · rintro j v g5 ys e5 mine5 h5 tk5 oI5 D5 C5 oL5 hj hv hs5 ⟨rfl, cs, hcs, hys⟩ F5
      simp only [List.nil_append] at F5
      obtain ⟨n, k, rfl⟩ := hws v (List.mem_of_getElem? hv)
      have W5 := W2.mono hs5
      clear F2 F3
      repeat walk_at "S"
      rename_i h6 F6
      refine wpAny_tests_nil ?_
      rw [if_pos rfl]
      repeat walk_at "S"
      refine sign_call F6 R W5 ?_
      intro c k7 h7 tk7 F7
      refine (CompEnd.of g5 [] (.refl _) ⟨rfl, rfl, cs ++ [c], by simp [hcs], ?_⟩ (Fx.take 0 F7))
      rw [List.map_append]
      exact hys.snoc
    · rintro g5 ys e5 mine5 h5 tk5 D5 C5 oL5 m5 hs5 ⟨rfl, cs, hcs, hys⟩ hfr F5
      refine compPost_none hfr F5 ?_
      intro h6 F6
      simp only [List.nil_append] at F6
      obtain ⟨l, hl1, hl2⟩ := strs_pairs hys
      have hlen : cs.length ≤ 8 := by lia
      refine ⟨D5, l, rfl, (⟨_, F6.head, rfl, e5, by rw [hl1]⟩ : Heap.IsList _ D5 _), _, hl2, ?_, fun t' k => ?_⟩
      · refine joinOk_of_weight ?_ (by rw [S_len]; simp)
        have : ((((cs.map fun c => [c]).map S).map (·.length)).sum) = cs.length := by
          rw [List.map_map, List.map_map]
          clear hcs hys hl2 hlen
          induction cs with
          | nil => rfl
          | cons c r ih => simp only [List.map_cons, List.sum_cons, Function.comp, S_len, List.length_cons, List.length_nil] at ih ⊢; lia
        rw [this, List.length_map, List.length_map]; lia
      · have ej : Txt.join (S []) ((cs.map fun c => [c]).map S) = S cs := by
          rw [eq_of_beq (join_plain_closes (S []) _), List.map_map]
          exact join_signs cs
        rw [ej]
        refine r_storeCell F6.drop (by rfl) dt ?_
        intro h8 o8 d8 F8
        exact h cs _ o8 g5 _ _ hlen d8 (s2.trans hs5) F8
theorem pickSS (vs : List Value) (a b : Nat) : (slicePick vs.toArray (some (a : Nat)) (some (b : Nat)) none).toList = (vs.take b).drop a := by
  rw [slicePick_plain]
  simp only [Option.elim, clipAt_nat, List.size_toArray]
  rw [List.drop_take]
  rcases Nat.le_total a vs.length with h | h
  · rw [Nat.min_eq_left h]
    rcases Nat.le_total b vs.length with h2 | h2
    · rw [Nat.min_eq_left h2]
    · rw [Nat.min_eq_right h2, List.take_of_length_le (by simp), List.take_of_length_le (by simp; lia)]
  · rw [Nat.min_eq_right h, List.drop_of_length_le (by simp), List.drop_of_length_le (by simpa using h)]; simp
theorem get_sub {α : Type} (l : List α) (a b i : Nat) (x : α) (h : ((l.take b).drop a)[i]? = some x) : l[a + i]? = some x := by
  rw [List.getElem?_drop, List.getElem?_take] at h
  split at h
  · exact h
  · cases h
theorem Prs.sub {g : Heap} {vs : List Value} {ps : List (Nat × Nat)} (x : Prs g vs ps) (a b : Nat) : Prs g ((vs.take b).drop a) ((ps.take b).drop a) :=
  ⟨by simp [x.1], fun i p v h1 h2 => x.2 (a + i) p v (get_sub _ _ _ _ _ h1) (get_sub _ _ _ _ _ h2)⟩
theorem StrsR.sub {vs : List Value} {xs : List (List Nat)} (x : StrsR vs xs) (a b : Nat) : StrsR ((vs.take b).drop a) ((xs.take b).drop a) :=
  ⟨by simp [x.1], fun i p v h1 h2 => x.2 (a + i) p v (get_sub _ _ _ _ _ h1) (get_sub _ _ _ _ _ h2)⟩
theorem StrsR.append {vs ws : List Value} {xs ys : List (List Nat)} (r : StrsR vs xs) (q : StrsR ws ys) : StrsR (vs ++ ws) (xs ++ ys) := by
  refine ⟨by simp [r.1, q.1], fun i x u h1 h2 => ?_⟩
  by_cases hi : i < xs.length
  · rw [List.getElem?_append_left hi] at h1
    rw [List.getElem?_append_left (by rw [r.1]; exact hi)] at h2
    exact r.2 i x u h1 h2
  · rw [List.getElem?_append_right (by lia)] at h1
    rw [List.getElem?_append_right (by rw [r.1]; lia), r.1] at h2
    exact q.2 _ x u h1 h2
def forBody : Stmt → List Stmt
  | .For _ _ b _ _ => b
  | _ => []
theorem law_turn {w : World} {A : Around} {s : Shared} {g : Heap} {L fa : Addr} {cd scr : Value} {rest : Own} {d : Nat} {t : List Nat} {items : List (Nat × Nat)} {k1 kc : Tok} {col : Nat} {ot1 oc : Obj} {sa ia ra : Addr} {ivs rvs : List Value} {ie re : Nat}
    (OK : LawOk t items) (ht8 : t.length ≤ 8) (hcol : col ≤ t.length)
    (F : Fx g L s.heap (mp [(Str.ofString "script", scr), (Str.ofString "stretches", .ref sa), (Str.ofString "items", .ref ia), (Str.ofString "reads", .ref ra)]) ((L + 1 + 1, oc) :: rest))
    (dc : oc.data = .cell (some (.int (col : Nat) kc))) (d1 : ot1.data = .cell (some (.str (S t) k1))) (m1 : g.get? (L + 1) = some ot1) (R : Rm A (d + 3)) (W : Wd w g)
    (ha3 : g.get? ia = some (lst ivs ie)) (hiv : Prs g ivs items) (har : g.get? ra = some (lst rvs re)) (hrv : StrsR rvs (items.map fun p => readT ((t.take p.2).drop p.1))) :
    wpAny (Mo w) A (execs (forBody ((stmtsOf (fdOf w 95)).getD 5 (.Pass default))) (lawEnv w L fa cd)) (fun f s' => f = .next ∧ ∃ g' h' tk, s' = { s with heap := h', toks := tk } ∧ Sub g g' ∧
      Fx g' L h' (mp [(Str.ofString "script", scr), (Str.ofString "stretches", .ref sa), (Str.ofString "items", .ref ia), (Str.ofString "reads", .ref ra)]) ((L + 1 + 1, oc) :: rest)) (fun _ _ => False) s := by
  have hlen := OK.len
  have hil := hiv.1
  refine wpAny_execs_cons ?_
  walk_at "S"
  walk_at "S"
  walk_at "S"
  refine r_comp (cl := [(Str.ofString "col", L + 1 + 1)]) ?_ (by rfl) (by rfl) (by intro y hy; revert y; exact of_decide_eq_true rfl)
  repeat walk_at "S"
  refine r_iter_list F ha3 ?_
  intro I2 oI2 St2 h14 it2 go2 st2 F14
  refine ⟨I2, rfl, ?_⟩
  refine r_comp_block (mine := []) R it2 goOk_name (by lia) (fun j g5 ys mine5 => mine5 = [] ∧ ys.length = (wholeF (items.take j) col).length) ⟨rfl, rfl⟩
    (fun j g5 ys mine5 hj => by rw [hj.2]; exact Nat.le_trans (List.length_filter_le ..) (by simp; lia)) F14 st2 (by intro y hy; revert y; exact of_decide_eq_true rfl) (by rfl) ?_ ?_
  · rintro j v g15 ys e15 mine15 h15 tk15 oI15 D15 C15 oL15 hj hvj hs15 ⟨rfl, hy⟩ F15
    simp only [List.nil_append] at F15
    obtain ⟨p, hpj⟩ : ∃ p, items[j]? = some p := ⟨items[j]'(by lia), by simp⟩
    refine PairAt.elimK ((hiv.mono hs15).2 j p v hpj hvj) ?_
    rintro pa kt ku rfl hpa
    have hwj : wholeF (items.take (j + 1)) col = wholeF (items.take j) col ++ (if (p.1 : Int) < (col : Int) ∧ (p.2 : Int) ≤ (col : Int) then [p] else []) := by
      rw [List.take_add_one, hpj]
      show List.filter _ (_ ++ [p]) = _
      rw [List.filter_append]
      congr 1
      by_cases q : (p.1 : Int) < (col : Int) ∧ (p.2 : Int) ≤ (col : Int)
      · rw [if_pos q, List.filter_cons_of_pos (by simp only [q.1, q.2, decide_true, Bool.and_self]), List.filter_nil]
      · rw [if_neg q, List.filter_cons_of_neg (by simpa using q), List.filter_nil]
    clear F F14
    repeat walk_at "S"
    rename_i h16 F16
    refine wpAny_tests_one ?_
    repeat walk_at "S"
    refine r_item_tup (F16.keep _ _ hpa) (j := 0) (by rfl) (by lia) (by rfl) ?_
    repeat walk_at "S"
    refine r_cell F16 (by rfl) (.tail _ (.tail _ (.tail _ (.head _)))) dc ?_
    repeat walk_at "S"
    have no : ¬ ((p.1 : Int) < (col : Int) ∧ (p.2 : Int) ≤ (col : Int)) → ∀ tk, CompEnd s g15 C15 ((D15, lst ys e15) :: (I2, oI15) :: (L, oL15) :: (L + 1 + 1, oc) :: rest)
        (fun g5 ys mine5 => mine5 = [] ∧ ys.length = (wholeF (items.take (j + 1)) col).length) ys { s with heap := h16, toks := tk } := fun q tk => (CompEnd.of g15 [] (.refl _) ⟨rfl, by rw [hwj, if_neg q, List.append_nil]; exact hy⟩ (Fx.take 0 F16))
    by_cases q1 : (p.1 : Int) < (col : Int)
    · rw [if_pos (by simpa using q1)]
      repeat walk_at "S"
      refine r_item_tup (F16.keep _ _ hpa) (j := 1) (by rfl) (by lia) (by rfl) ?_
      repeat walk_at "S"
      refine r_cell F16 (by rfl) (.tail _ (.tail _ (.tail _ (.head _)))) dc ?_
      repeat walk_at "S"
      by_cases q2 : (p.2 : Int) ≤ (col : Int)
      · rw [if_pos (by simpa using q2)]
        repeat walk_at "S"
        rw [if_pos rfl]
        repeat walk_at "S"
        refine (CompEnd.of g15 [] (.refl _) ⟨rfl, rfl, by rw [hwj, if_pos ⟨q1, q2⟩]; simp [hy]⟩ (Fx.take 0 F16))
      · rw [if_neg (by simpa using q2)]
        repeat walk_at "S"
        rw [if_neg Bool.false_ne_true]
        exact no (fun q => q2 q.2) _
    · rw [if_neg (by simpa using q1)]
      repeat walk_at "S"
      rw [if_neg Bool.false_ne_true]
      exact no (fun q => q1 q.1) _
  · rintro g15 ys e15 mine15 h15 tk15 D15 C15 oL15 m15 hs15 ⟨rfl, hy⟩ hfr F15
    refine compPost_none hfr F15 ?_
    intro h16 F16
    simp only [List.nil_append] at F16
    rw [hil, List.take_length] at hy
    have hyl : ys.length ≤ 9 := by rw [hy]; exact Nat.le_trans (List.length_filter_le ..) (by lia)
    clear F F14 F15
    repeat walk_at "S"
    refine r_len_lst (vs := ys) F16.head (by lia) ?_
    intro k17 tk17
    have F17 := F16.drop
    clear F16
    have W15 := W.mono hs15
    have m1 := hs15 _ _ m1
    have ha3 := hs15 _ _ ha3
    have har := hs15 _ _ har
    have hiv := hiv.mono hs15
    rw [hy]
    generalize hwh : (wholeF items col).length = wh at *
    repeat walk_at "S"
    rename_i h18 F18
    clear F17
    try dsimp only
    have hwl : wh ≤ 9 := by lia
    have eR : restF t items col wh = (((items.take (wh + 1)).drop wh).filter fun p => decide (p.1 < col)).map fun p => readT ((t.take col).drop p.1) := by
      unfold restF; rw [List.drop_take, Nat.add_sub_cancel_left]
    refine r_compA (cl := [(Str.ofString "text", L + 1), (Str.ofString "col", L + 1 + 1)]) ?_ (by rfl) (by rfl) (by rfl) (by intro y hy; revert y; exact of_decide_eq_true rfl)
    repeat walk_at "S"
    refine r_slice_lst F18 rfl rfl (F18.keep _ _ ha3) (.int _ _) (.int _ _) (by lia) ?_
    intro c19 h19 F19
    rw [show ((wh : Nat) : Int) + 1 = ((wh + 1 : Nat) : Int) from rfl, pickSS] at F19
    refine Fx.freezeK F19 ?_
    intro g20 s20 F20 n20
    dsimp only at n20
    have W20 := W15.mono s20
    have m1 := s20 _ _ m1
    have ha3 := s20 _ _ ha3
    have har := s20 _ _ har
    have hiv := hiv.mono s20
    have hsub := hiv.sub wh (wh + 1)
    generalize hP : (items.take (wh + 1)).drop wh = P at *
    have hsl := hsub.1
    have hPl : P.length ≤ 1 := by rw [← hP]; simp; lia
    clear F18 F19
    refine r_iter_list F20 n20 ?_
    intro I3 oI3 St3 h21 it3 go3 st3 F21
    refine ⟨I3, rfl, ?_⟩
    refine r_comp_block (mine := []) R it3 goOk_name (by lia) (fun j g5 ys mine5 => mine5 = [] ∧ StrsR ys (((P.take j).filter fun p => decide (p.1 < col)).map fun p => readT ((t.take col).drop p.1))) ⟨rfl, .nil⟩
      (fun j g5 ys mine5 hj => by rw [hj.2.1, List.length_map]; exact Nat.le_trans (List.length_filter_le ..) (by simp; lia)) F21 st3 (by intro y hy; revert y; exact of_decide_eq_true rfl) (by rfl) ?_ ?_
    · rintro j v g22 zs e22 mine22 h22 tk22 oI22 D22 C22 oL22 hj hvj hs22 ⟨rfl, hzs⟩ F22
      simp only [List.nil_append] at F22
      obtain ⟨p, hpj⟩ : ∃ p, P[j]? = some p := ⟨P[j]'(by lia), by simp⟩
      refine PairAt.elimK ((hsub.mono hs22).2 j p v hpj hvj) ?_
      rintro pa kt ku rfl hpa
      have m1 := hs22 _ _ m1
      have W22 := W20.mono hs22
      clear F20 F21
      repeat walk_at "S"
      rename_i h23 F23
      refine wpAny_tests_one ?_
      repeat walk_at "S"
      refine r_item_tup (F23.keep _ _ hpa) (j := 0) (by rfl) (by lia) (by rfl) ?_
      repeat walk_at "S"
      refine r_cell F23 (by rfl) (.tail _ (.tail _ (.tail _ (.head _)))) dc ?_
      repeat walk_at "S"
      by_cases q1 : p.1 < col
      · rw [if_pos (by simpa using q1)]
        repeat walk_at "S"
        refine r_item_tup (F23.keep _ _ hpa) (j := 0) (by rfl) (by lia) (by rfl) ?_
        repeat walk_at "S"
        refine r_cell F23 (by rfl) (.tail _ (.tail _ (.tail _ (.head _)))) dc ?_
        repeat walk_at "S"
        rename_i k24 h24 tk24 F24
        try dsimp only
        refine read_call (d := d + 1) F24 R W22 (by simp; lia) ?_
        intro k25 h25 tk25 F25
        refine (CompEnd.of g22 [] (.refl _) ⟨rfl, rfl, ?_⟩ (Fx.take 0 F25))
        rw [List.take_add_one, hpj, Option.toList_some, List.filter_append, List.filter_cons_of_pos (by simpa using q1), List.filter_nil, List.map_append, List.map_cons, List.map_nil]
        exact hzs.snoc
      · rw [if_neg (by simpa using q1)]
        refine (CompEnd.of g22 [] (.refl _) ⟨rfl, ?_⟩ (Fx.take 0 F23))
        rw [List.take_add_one, hpj, Option.toList_some, List.filter_append, List.filter_cons_of_neg (by simpa using q1), List.filter_nil, List.append_nil]
        exact hzs
    · rintro g22 zs e22 mine22 h22 tk22 D22 C22 oL22 m22 hs22 ⟨rfl, hzs⟩ hfr22 F22
      refine compPost_some hfr22 F22 ?_ (by rfl) (by rfl) (by rfl)
      intro h23 tk23 F23
      simp only [List.nil_append] at F23
      rw [hsl, List.take_length, ← eR] at hzs
      refine Fx.freezeK F23 ?_
      intro g24 s24 F24 n24
      dsimp only at n24
      have W24 := W20.mono (hs22.trans s24)
      have m1 := s24 _ _ (hs22 _ _ m1)
      have ha3 := s24 _ _ (hs22 _ _ ha3)
      have har := s24 _ _ (hs22 _ _ har)
      have hiv := hiv.mono (hs22.trans s24)
      have s0 : Sub g g24 := hs15.trans (s20.trans (hs22.trans s24))
      clear F20 F21 F22 F23
      try dsimp only
      repeat walk_at "S"
      refine r_len_lst (vs := ivs) (F24.keep _ _ ha3) (by lia) ?_
      intro k26 tk26
      repeat walk_at "S"
      rename_i k27 h27 tk27 F27 r28 t28 v28 h28 tk28 F28
      clear F24 F27
      try dsimp only
      rw [hil] at F28
      refine r_iter_range F28 (by lia) (by lia) (by lia) (by lia) ?_
      intro I4 oI4 St4 h29 it4 st4 F29
      clear F28
      try dsimp only
      have hrl := hrv.1
      rw [List.length_map] at hrl
      refine r_forLoop (mine := []) R it4 goOk_name (fun i g' l' mine' => mine' = [] ∧ l' = [(Str.ofString "script", scr), (Str.ofString "stretches", .ref sa), (Str.ofString "items", .ref ia), (Str.ofString "reads", .ref ra), (Str.ofString "whole", .int (wh : Nat) k17), (Str.ofString "rest", .ref D22)]) ⟨rfl, rfl⟩ F29 st4 ?_ ?_
      · rintro i v g30 l30 mine30 h30 tk30 oI30 hi ⟨k30, rfl⟩ s30 ⟨rfl, rfl⟩ F30
        simp only [List.nil_append] at F30
        clear F29
        have W30 := W24.mono s30
        have m1 := s30 _ _ m1
        have ha3 := s30 _ _ ha3
        have har := s30 _ _ har
        have hiv := hiv.mono s30
        have n24 := s30 _ _ n24
        have hi1 : i ≤ wh := by lia
        have hi2 : i < items.length := by lia
        obtain ⟨p, hpi⟩ : ∃ p, items[i]? = some p := ⟨items[i]'hi2, by simp⟩
        have hvi : ivs[i]? = some (ivs[i]'(by lia)) := by simp
        obtain ⟨pa, kt, ku, ep, hpa⟩ := hiv.2 i p _ hpi hvi
        rw [ep] at hvi
        have hvi' : ivs[(0 + (i : Int)).toNat]? = some (.ref pa) := by rw [show (0 + (i : Int)).toNat = i by lia]; exact hvi
        repeat walk_at "S"
        rename_i h31 F31
        refine r_item_tup (F31.keep _ _ hpa) (j := 0) (by rfl) (by lia) (by rfl) ?_
        clear F30
        repeat walk_at "S"
        rename_i h32 F32
        refine r_cell F32 (by rfl) (.tail _ (.head _)) dc ?_
        clear F31
        repeat walk_at "S"
        by_cases q : p.1 ≤ col
        · rw [if_pos (by simpa using q)]
          repeat walk_at "S"
          refine r_cell F32 (by rfl) (.tail _ (.head _)) dc ?_
          repeat walk_at "S"
          rename_i k33 h33 tk33 F33
          try dsimp only
          refine parse_call (d := d + 2) F33 R W30 (by simp; lia) ?_
          intro g34 a34 vs34 n34 h34 tk34 s34 F34 ha34 hvs34
          have hpar := OK.c col i hcol (by lia) p hpi q
          rw [hwh] at hpar
          simp only [Int.toNat_natCast] at hvs34
          rw [hpar] at hvs34
          have har := s34 _ _ har
          have n24 := s34 _ _ n24
          clear F32 F33
          repeat walk_at "S"
          refine r_slice_lst F34 rfl rfl (F34.keep _ _ har) (.int _ _) (.int _ _) (by lia) ?_
          intro c35 h35 F35
          rw [show (0 + (i : Int)) = ((i : Nat) : Int) by lia, pickSS] at F35
          have hq := (hrv.sub i wh).append hzs
          have hql := hq.1
          clear F34
          repeat walk_at "S"
          refine r_add_lsts F35 F35.head (F35.keep _ _ n24) ?_ ?_
          · have := hzs.1
            have h5 : (restF t items col wh).length ≤ 1 := by unfold restF; rw [List.length_map]; exact Nat.le_trans (List.length_filter_le ..) (by simp; lia)
            simp only [List.length_drop, List.length_take]
            lia
          intro c36 h36 F36
          try dsimp only
          refine r_ne_strs R (F36.keep _ _ ha34) F36.head hvs34 hq ?_
          repeat walk_at "S"
          rw [if_neg Bool.false_ne_true]
          repeat walk_at "S"
          try rw [if_neg Bool.false_ne_true]
          repeat walk_at "S"
          exact (LoopEnd.of g34 [] s34 ⟨rfl, rfl⟩ (Fx.take 6 F36.drop.drop))
        · rw [if_neg (by simpa using q)]
          repeat walk_at "S"
          rw [if_neg Bool.false_ne_true]
          repeat walk_at "S"
          exact (LoopEnd.of g30 [] (.refl _) ⟨rfl, rfl⟩ (Fx.take 6 F32))
      · rintro g30 l30 mine30 h30 tk30 s30 ⟨rfl, rfl⟩ F30
        simp only [List.nil_append] at F30
        try dsimp only
        repeat walk_at "S"
        exact ⟨rfl, g30, _, _, rfl, s0.trans s30, Fx.take 4 F30⟩
theorem law_rest {w : World} {A : Around} {s : Shared} {g : Heap} {L fa : Addr} {cd scr : Value} {rest : Own} {d : Nat} {t : List Nat} {items : List (Nat × Nat)} {k1 : Tok} {ot1 oc : Obj} {vc : Option Value} {sa ia : Addr} {ivs : List Value} {ie : Nat}
    (OK : LawOk t items) (ht8 : t.length ≤ 8)
    (F : Fx g L s.heap (mp [(Str.ofString "script", scr), (Str.ofString "stretches", .ref sa), (Str.ofString "items", .ref ia)]) ((L + 1 + 1, oc) :: rest))
    (dc : oc.data = .cell vc) (d1 : ot1.data = .cell (some (.str (S t) k1))) (m1 : g.get? (L + 1) = some ot1) (R : Rm A (d + 3)) (W : Wd w g)
    (ha3 : g.get? ia = some (lst ivs ie)) (hiv : Prs g ivs items) :
    wpAny (Mo w) A (execs ((stmtsOf (fdOf w 95)).drop 4) (lawEnv w L fa cd)) (fun f s' => f = .ret (.bool true) ∧ ∃ g' h' tk m', s' = { s with heap := h', toks := tk } ∧ Sub g g' ∧ Fx g' L h' m' rest) (fun _ _ => False) s := by
  have hlen := OK.len
  have hil := hiv.1
  refine wpAny_execs_cons ?_
  refine r_compA (cl := [(Str.ofString "text", L + 1)]) ?_ (by rfl) (by rfl) (by rfl) (by intro y hy; revert y; exact of_decide_eq_true rfl)
  repeat walk_at "S"
  refine r_iter_list F ha3 ?_
  intro I oI St h2 it go st F2
  refine ⟨I, rfl, ?_⟩
  refine r_comp_block (mine := []) R it (go _ _ _) (by lia) (fun j g5 ys mine5 => mine5 = [] ∧ StrsR ys ((items.map fun p => readT ((t.take p.2).drop p.1)).take j)) ⟨rfl, .nil⟩
    (fun j g5 ys mine5 hj => by rw [hj.2.1]; simp; lia) F2 st (by intro y hy; revert y; exact of_decide_eq_true rfl) (by rfl) ?_ ?_
  · rintro j v g3 ys e3 mine3 h3 tk3 oI3 D3 C3 oL3 hj hvj hs3 ⟨rfl, hys⟩ F3
    simp only [List.nil_append] at F3
    obtain ⟨p, hpj⟩ : ∃ p, items[j]? = some p := ⟨items[j]'(by lia), by simp⟩
    refine PairAt.elimK ((hiv.mono hs3).2 j p v hpj hvj) ?_
    rintro pa kt ku rfl hpa
    have W3 := W.mono hs3
    have m1 := hs3 _ _ m1
    have hple := OK.le p (List.mem_of_getElem? hpj)
    clear F F2
    refine r_assignG F3 R hpa ?_
    intro h4 F4
    clear F3
    repeat walk_at "S"
    refine wpAny_tests_nil ?_
    rw [if_pos rfl]
    repeat walk_at "S"
    rename_i h5 F5 h6 F6 k7 h7 tk7 F7
    try dsimp only
    refine read_call (d := d + 1) F7 R W3 (by simp; lia) ?_
    intro k8 h8 tk8 F8
    refine (CompEnd.of g3 [] (.refl _) ⟨rfl, rfl, ?_⟩ (Fx.take 0 F8))
    rw [List.take_add_one, List.getElem?_map, hpj]
    exact hys.snoc
  · rintro g3 ys e3 mine3 h3 tk3 D3 C3 oL3 m3 hs3 ⟨rfl, hys⟩ hfr F3
    refine compPost_some hfr F3 ?_ (by rfl) (by rfl) (by rfl)
    intro h4 tk4 F4
    simp only [List.nil_append] at F4
    rw [hil, List.take_of_length_le (by simp)] at hys
    refine Fx.freezeK F4 ?_
    intro g5 s5 F5 n5
    dsimp only at n5
    have s0 := hs3.trans s5
    have W5 := W.mono s0
    have m1 := s0 _ _ m1
    have ha3 := s0 _ _ ha3
    have hiv := hiv.mono s0
    clear F F2 F3 F4
    try dsimp only
    repeat walk_at "S"
    rename_i k6 tk6 r7 t7 v7 h7 tk7 F7
    clear F5
    try dsimp only
    refine r_iter_range F7 (by lia) (by lia) (by lia) (by lia) ?_
    intro I4 oI4 St4 h8 it4 st4 F8
    clear F7
    try dsimp only
    refine r_forLoop (mine := [(L + 1 + 1, oc)]) R it4 goOk_name (fun i g' l' mine' => ∃ oc' vc', mine' = [(L + 1 + 1, oc')] ∧ oc'.data = .cell vc' ∧ l' = [(Str.ofString "script", scr), (Str.ofString "stretches", .ref sa), (Str.ofString "items", .ref ia), (Str.ofString "reads", .ref D3)]) ⟨oc, vc, rfl, dc, rfl⟩ F8.swap st4 ?_ ?_
    · rintro i v g9 l9 mine9 h9 tk9 oI9 hi ⟨k9, rfl⟩ s9 ⟨oc9, vc9, rfl, dc9, rfl⟩ F9
      simp only [List.cons_append, List.nil_append] at F9
      clear F8
      rw [show (0 + (i : Int)) = ((i : Nat) : Int) by lia]
      repeat walk_at "S"
      refine r_storeCell F9 (by rfl) dc9 ?_
      intro h10 oc10 dc10 F10
      try dsimp only
      refine wpAny_mono (law_turn (d := d) (fa := fa) (cd := cd) OK ht8 (by lia) F10 dc10 d1 (s9 _ _ m1) R (W5.mono s9) (s9 _ _ ha3) (hiv.mono s9) (s9 _ _ n5) hys) ?_ (fun _ _ x => x)
      refine coverA ?_
      intro GG hGG f s' hh
      obtain ⟨rfl, g11, h11, tk11, rfl, s11, F11⟩ := hh
      refine hGG _ _ ?_
      clear hGG
      exact (LoopEnd.of g11 _ s11 ⟨oc10, _, rfl, dc10, rfl⟩ F11)
    · rintro g9 l9 mine9 h9 tk9 s9 ⟨oc9, vc9, rfl, dc9, rfl⟩ F9
      simp only [List.cons_append, List.nil_append] at F9
      try dsimp only
      repeat walk_at "S"
      exact ⟨rfl, g9, _, _, _, rfl, s0.trans s9, F9.drop⟩
theorem Prs.append {g : Heap} {vs ws : List Value} {ps qs : List (Nat × Nat)} (r : Prs g vs ps) (q : Prs g ws qs) : Prs g (vs ++ ws) (ps ++ qs) := by
  refine ⟨by simp [r.1, q.1], fun i x u h1 h2 => ?_⟩
  by_cases hi : i < ps.length
  · rw [List.getElem?_append_left hi] at h1
    rw [List.getElem?_append_left (by rw [r.1]; exact hi)] at h2
    exact r.2 i x u h1 h2
  · rw [List.getElem?_append_right (by lia)] at h1
    rw [List.getElem?_append_right (by rw [r.1]; lia), r.1] at h2
    exact q.2 _ x u h1 h2
theorem law_body {w : World} {A : Around} {s : Shared} {g : Heap} {L fa : Addr} {cd : Value} {own : Own} {d : Nat} {a : Addr} {vs : List Value} {ns : List Int} {oc ot : Obj} {vc vt : Option Value}
    (hok : ∀ t : List Nat, t.length ≤ 8 → LawOk t (itemsF t t.length 0 0))
    (F : Fx g L s.heap (mp [(Str.ofString "script", .ref a)]) ((L + 1 + 1, oc) :: (L + 1, ot) :: (68, tabObj #[]) :: (75, tabObj #[]) :: own)) (dc : oc.data = .cell vc) (dt : ot.data = .cell vt)
    (R : Rm A (d + 5)) (W : Wd w g) (B : Bm g) (C1 : CodeHd g 72 68) (C2 : CodeHd g 77 75) (ha : g.IsList a vs.toArray) (hi : IntsAre vs ns) (hn : vs.length ≤ 63) :
    wpAny (Mo w) A (execs (stmtsOf (fdOf w 95)) (lawEnv w L fa cd)) (fun fl s' => fl = .ret (.bool true) ∧ ∃ g' h' tk m' ph pp, s' = { s with heap := h', toks := tk } ∧ Sub g g' ∧ Fx g' L h' m' ((68, tabObj ph) :: (75, tabObj pp) :: own)) (fun _ _ => False) s := by
  refine wpAny_execs_cons ?_
  refine law_text (d := d) F.swap dt (R.le (by lia)) W ha hi hn ?_
  intro t k1 ot1 g1 h1 tk1 ht8 d1 s1 F1
  have OK := hok t ht8
  generalize hit : itemsF t t.length 0 0 = items at *
  refine Fx.freezeK F1 ?_
  intro g2 s2 F2 m1
  dsimp only at m1
  have W2 := W.mono (s1.trans s2)
  have B2 := B.mono (s1.trans s2)
  have T2 : Tab g2 72 68 (qHit w) #[] := ⟨(C1.keeps (s1.trans s2)), trivial, fun pos cv e => (by cases e), fun _ _ _ _ => rfl⟩
  have T2' : Tab g2 77 75 (qProg w) #[] := ⟨(C2.keeps (s1.trans s2)), trivial, fun pos cv e => (by cases e), fun p p' e _ => by unfold qProg; rw [e]⟩
  have hlen := OK.len
  clear F F1
  try dsimp only
  repeat walk_at "S"
  refine items_call (d := d) F2 (R.le (by lia)) W2 (by lia) ?_
  intro g3 ia ivs ie h3 tk3 s3 F3 ha3 hiv
  rw [hit] at hiv
  have W3 := W2.mono s3
  have m1 := s3 _ _ m1
  clear F2
  repeat walk_at "S"
  refine stretches_call (d := d) F3 (R.le (by lia)) W3 (by lia) ?_
  intro g4 sa svs se h4 tk4 s4 F4 ha4 hsv
  rw [OK.a] at hsv
  have W4 := W3.mono s4
  have m1 := s4 _ _ m1
  have ha3 := s4 _ _ ha3
  have hiv := hiv.mono s4
  clear F3
  repeat walk_at "S"
  rename_i h5 F5 h6 F6
  clear F5 F4
  refine r_ne_pairs (d := d) F6 (R.le (by lia)) ha4 ha3 hsv hiv ?_
  repeat walk_at "S"
  rw [if_neg Bool.false_ne_true]
  walk_at "S"
  walk_at "S"
  try dsimp only
  refine wpAny_isTrue_value ?_
  repeat walk_at "S"
  have hb1 : ∀ p ∈ items, p.1 ≤ 20 ∧ p.2 ≤ 20 := fun p hp => by have := OK.le p hp; lia
  refine matches_call (d := d) (F6.rot3.rot3) (R.le (by lia)) W4 (B2.mono (s3.trans s4)) (T2.mono (s3.trans s4)) (T2'.mono (s3.trans s4)) ha4 hsv (by lia) (by lia) hb1 OK.b1 ?_
  intro g7 tk7 h7 ph7 pp7 s7 T7 T7' F7
  clear F6
  have W7 := W4.mono s7
  have B7 := B2.mono (s3.trans (s4.trans s7))
  have m1 := s7 _ _ m1
  have ha3 := s7 _ _ ha3
  have ha4 := s7 _ _ ha4
  have hiv := hiv.mono s7
  have hsv := hsv.mono s7
  repeat walk_at "S"
  rw [if_neg (by simp)]
  repeat walk_at "S"
  rw [if_neg Bool.false_ne_true]
  walk_at "S"
  walk_at "S"
  walk_at "S"
  walk_at "S"
  try dsimp only
  refine wpAny_isTrue_value ?_
  repeat walk_at "S"
  refine r_comp (cl := []) ?_ (by rfl) (by rfl) (by intro y hy; revert y; exact of_decide_eq_true rfl)
  repeat walk_at "S"
  refine r_slice_lst F7 rfl rfl (F7.keep _ _ ha4) .none (.int _ _) (by rw [hsv.1]; lia) ?_
  intro c8 h8 F8
  have ebl : (slicePick svs.toArray none (some (-1)) none).toList = svs.take (svs.length - 1) := by
    have := slicePick_butLast svs.toArray 1 (Nat.le_refl _)
    rw [show (-((1 : Nat) : Int)) = -1 from rfl] at this
    rw [this]; simp
  rw [ebl] at F8
  refine Fx.freezeK F8 ?_
  intro g9 s9 F9 n9
  dsimp only at n9
  clear F7 F8
  repeat walk_at "S"
  refine r_iter_list F9 n9 ?_
  intro I oI St h10 it go st F10
  refine ⟨I, rfl, ?_⟩
  have hsv9 := hsv.mono s9
  have hsl := hsv9.1
  refine r_comp_block (mine := []) R it (go _ _ _) (by simp; lia) (fun j g5 ys mine5 => mine5 = [] ∧ Prs g5 ys (((items.take (items.length - 1)).map fun p => (p.1, p.2 + 1)).take j)) ⟨rfl, Prs.nil _⟩ (fun j g5 ys mine5 hj => by rw [hj.2.1]; simp; lia) F10 st
    (by intro y hy; revert y; exact of_decide_eq_true rfl) (by rfl) ?_ ?_
  · rintro j v g11 ys e11 mine11 h11 tk11 oI11 D11 C11 oL11 hj hv hs11 ⟨rfl, hys⟩ F11
    simp only [List.nil_append] at F11
    rw [List.length_take] at hj
    rw [List.getElem?_take_of_lt (by lia)] at hv
    obtain ⟨p, hp⟩ : ∃ p, items[j]? = some p := ⟨items[j]'(by lia), by simp⟩
    refine PairAt.elimK ((hsv9.mono hs11).2 j p v hp hv) ?_
    rintro pa kt ku rfl hpa
    clear F9 F10
    refine r_assignG F11 R hpa ?_
    intro h12 F12
    clear F11
    repeat walk_at "S"
    refine wpAny_tests_nil ?_
    rw [if_pos rfl]
    repeat walk_at "S"
    rename_i h13 F13 h14 F14 a15 h15 F15
    refine Fx.freezeK F15 ?_
    intro g16 s16 F16 n16
    refine (CompEnd.of g16 [] s16 ⟨rfl, rfl, ?_⟩ (Fx.take 0 F16))
    have ej : (((items.take (items.length - 1)).map fun p => (p.1, p.2 + 1)).take (j + 1)) = (((items.take (items.length - 1)).map fun p => (p.1, p.2 + 1)).take j) ++ [(p.1, p.2 + 1)] := by
      rw [List.take_add_one, List.getElem?_map, List.getElem?_take_of_lt (by lia), hp]; rfl
    rw [ej]
    exact (hys.mono s16).snoc (PairAt.of p.1 (p.2 + 1) n16 rfl rfl)
  · rintro g11 ys e11 mine11 h11 tk11 D11 C11 oL11 m11 hs11 ⟨rfl, hys⟩ hfr F11
    refine compPost_none hfr F11 ?_
    intro h12 F12
    simp only [List.nil_append] at F12
    rw [List.length_take, List.take_of_length_le (by simp; lia)] at hys
    have ha11 := hs11 _ _ (s9 _ _ ha4)
    clear F9 F10 F11
    repeat walk_at "S"
    refine r_slice_lst F12 rfl rfl (F12.keep _ _ ha11) (.int _ _) .none (by lia) ?_
    intro c13 h13 F13
    have ela : (slicePick svs.toArray (some (-1)) none none).toList = svs.drop (svs.length - 1) := by
      have := slicePick_last svs.toArray 1 (Nat.le_refl _)
      rw [show (-((1 : Nat) : Int)) = -1 from rfl] at this
      rw [this]; simp
    rw [ela] at F13
    refine r_add_lsts F13 (F13.at (.tail _ (.head _))) F13.head (by have := hys.1; simp at this; simp; lia) ?_
    intro c14 h14 F14
    refine Fx.freezeK F14 ?_
    intro g15 s15 F15 n15
    dsimp only at n15
    have F16 := F15.drop.drop
    have s0 := s9.trans (hs11.trans s15)
    have hpt : Prs g15 (ys ++ svs.drop (svs.length - 1)) (touchF items) := by
      unfold touchF
      have h1 := hys.mono s15
      have h2 := ((hsv.mono s0).sub (svs.length - 1) svs.length)
      rw [List.take_length, hsl, List.take_length] at h2
      rw [hsl]
      exact h1.append h2
    have htl : (touchF items).length ≤ 20 := by unfold touchF; simp; lia
    have hb2 : ∀ p ∈ touchF items, p.1 ≤ 20 ∧ p.2 ≤ 20 := fun p hp => by have := OK.le' p hp; lia
    clear F12 F13 F14 F15
    repeat walk_at "S"
    refine ⟨s0.trans F16.keep, ?_⟩
    refine matches_call (d := d) F16 (R.le (by lia)) (W7.mono s0) (B7.mono s0) (T7.mono s0) (T7'.mono s0) n15 hpt (by lia) htl hb2 OK.b2 ?_
    intro g17 tk17 h17 ph17 pp17 s17 T17 T17' F17
    clear F16
    have s1' := s0.trans s17
    have W17 := W7.mono s1'
    have m1 := s1' _ _ m1
    have ha3 := s1' _ _ ha3
    have hiv := hiv.mono s1'
    try dsimp only
    repeat walk_at "S"
    rw [if_neg (by simp)]
    walk_at "S"
    try dsimp only
    have F18 : Fx g17 L h17 (mp [(Str.ofString "script", .ref a), (Str.ofString "stretches", .ref sa), (Str.ofString "items", .ref ia)]) ((L + 1 + 1, oc) :: (68, tabObj ph17) :: (75, tabObj pp17) :: own) := F17.rot3
    refine wpAny_mono (law_rest (d := d + 2) (fa := fa) (cd := cd) OK ht8 F18 dc d1 m1 R W17 ha3 hiv) ?_ (fun _ _ x => x)
    refine coverA ?_
    intro GG hGG f s' hh
    obtain ⟨rfl, g19, h19, tk19, m19, rfl, s19, F19⟩ := hh
    refine hGG _ _ ?_
    clear hGG
    exact ⟨rfl, g19, _, _, _, _, _, rfl, s1.trans (s2.trans (s3.trans (s4.trans (s7.trans (s1'.trans s19))))), F19⟩
/-! the plain law, first part: going back over a row of matches -/
def nxt (p : Nat × Nat) : Nat := if p.1 = p.2 then p.2 + 1 else p.2
structure Row (ps : List (Nat × Nat)) : Prop where
  le : ∀ (k : Nat) (p : Nat × Nat), ps[k]? = some p → p.1 ≤ p.2
  st : ∀ (k : Nat) (p q : Nat × Nat), ps[k]? = some p → ps[k + 1]? = some q → nxt p ≤ q.1
theorem nxt_gt {p : Nat × Nat} (h : p.1 ≤ p.2) : p.1 < nxt p ∧ p.2 ≤ nxt p := by unfold nxt; split <;> lia
theorem filter_prefix {α : Type} (P : α → Bool) : ∀ (l : List α), (∀ k x y, l[k]? = some x → l[k + 1]? = some y → P y = true → P x = true) → ∀ k x, l[k]? = some x → (P x = true ↔ k < (l.filter P).length)
  | [], _, k, x, h => by simp at h
  | a :: r, H, k, x, h => by
    have ih := filter_prefix P r (fun k x y h1 h2 => H (k + 1) x y h1 h2)
    cases ha : P a with
    | true =>
      rw [List.filter_cons_of_pos ha]
      cases k with
      | zero => simp at h; subst h; simp [ha]
      | succ k =>
        rw [List.getElem?_cons_succ] at h
        rw [ih k x h, List.length_cons]; lia
    | false =>
      rw [List.filter_cons_of_neg (by simp [ha])]
      have z : (r.filter P).length = 0 := by
        cases r with
        | nil => rfl
        | cons b r' =>
          have hb : P b = false := by
            cases hb : P b with
            | false => rfl
            | true => rw [H 0 a b rfl rfl hb] at ha; cases ha
          have := ih 0 b rfl
          rw [hb] at this
          simp only [Bool.false_eq_true, false_iff] at this
          lia
      rw [z]
      cases k with
      | zero => simp at h; subst h; simp [ha]
      | succ k =>
        rw [List.getElem?_cons_succ] at h
        rw [ih k x h, z]; lia
theorem whole_iff {ps : List (Nat × Nat)} (R : Row ps) (col : Int) : ∀ k p, ps[k]? = some p → (((p.1 : Int) < col ∧ (p.2 : Int) ≤ col) ↔ k < (wholeF ps col).length) := by
  intro k p h
  have := filter_prefix (fun p : Nat × Nat => decide ((p.1 : Int) < col) && decide ((p.2 : Int) ≤ col)) ps (fun k x y h1 h2 h3 => by
    simp only [Bool.and_eq_true, decide_eq_true_eq] at h3 ⊢
    have a := R.st k x y h1 h2
    have b := nxt_gt (R.le k x h1)
    lia) k p h
  simp only [Bool.and_eq_true, decide_eq_true_eq] at this
  exact this
def stF (ps : List (Nat × Nat)) : Nat → Nat
  | 0 => 0
  | k + 1 => match ps[k]? with
    | none => 0
    | some p => nxt p
theorem st_succ {ps : List (Nat × Nat)} {k : Nat} {p : Nat × Nat} (h : ps[k]? = some p) : stF ps (k + 1) = nxt p := by
  show (match ps[k]? with | none => 0 | some p => nxt p) = _
  rw [h]
theorem st_le {ps : List (Nat × Nat)} (R : Row ps) (k : Nat) (p : Nat × Nat) (h : ps[k]? = some p) : stF ps k ≤ p.1 := by
  cases k with
  | zero => exact Nat.zero_le _
  | succ k =>
    have hk : k < ps.length := by have := (List.getElem?_eq_some_iff.mp h).1; lia
    have e : ps[k]? = some ps[k] := by simp
    have := R.st k _ p e h
    rw [st_succ e]; exact this
theorem seats_len {ps : List (Nat × Nat)} (R : Row ps) : ∀ k, k ≤ ps.length → (seatsF ps k).length = stF ps k
  | 0, _ => rfl
  | k + 1, h => by
    have ih := seats_len R k (by lia)
    have e : ps[k]? = some (ps[k]'(by lia)) := by simp
    have h1 := st_le R k _ e
    have h2 := R.le k _ e
    have h3 := nxt_gt h2
    have h4 : nxt (ps[k]'(by lia)) = max ((ps[k]'(by lia)).1 + 1) (ps[k]'(by lia)).2 := by unfold nxt; split <;> lia
    rw [st_succ e, h4]
    simp only [seatsF, e, seatStep, List.length_append, List.length_replicate, List.length_map, List.length_range, ih]
    lia
theorem seats_next {ps : List (Nat × Nat)} (k : Nat) (i : Nat) (h : i < (seatsF ps k).length) : (seatsF ps (k + 1))[i]? = (seatsF ps k)[i]? := by
  simp only [seatsF]
  split
  · rfl
  · unfold seatStep
    rw [List.append_assoc, List.getElem?_append_left h]
theorem seats_get {ps : List (Nat × Nat)} (k d : Nat) : ∀ i, i < (seatsF ps k).length → (seatsF ps (k + d))[i]? = (seatsF ps k)[i]? := by
  induction d with
  | zero => intro i _; rfl
  | succ d ih =>
    intro i h
    rw [← ih i h, ← Nat.add_assoc]
    refine seats_next (k + d) i ?_
    have := ih i h
    rw [List.getElem?_eq_getElem h] at this
    exact (List.getElem?_eq_some_iff.mp this).1
theorem seat_at {ps : List (Nat × Nat)} (R : Row ps) (n k : Nat) (h : k < ps.length) : (seatsAll n ps)[stF ps k]? = some (.own k) := by
  have e : ps[k]? = some ps[k] := by simp
  have l0 := seats_len R k (by lia)
  have h1 := st_le R k _ e
  have l1 : (seatsF ps (k + 1))[stF ps k]? = some (.own k) := by
    simp only [seatsF, e]
    unfold seatStep
    rw [List.append_assoc, List.getElem?_append_right (by lia), l0, Nat.sub_self, List.getElem?_append_left (by rw [List.length_replicate]; lia), List.getElem?_replicate, if_pos (by lia)]
  have hl := (List.getElem?_eq_some_iff.mp l1).1
  have l2 := seats_get (ps := ps) (k + 1) (ps.length - (k + 1)) _ hl
  rw [show k + 1 + (ps.length - (k + 1)) = ps.length by lia, l1] at l2
  have hl2 := (List.getElem?_eq_some_iff.mp l2).1
  unfold seatsAll
  rw [List.getElem?_append_left hl2, l2]
theorem seat_end {ps : List (Nat × Nat)} (R : Row ps) (n : Nat) : ((seatsAll n ps)[stF ps ps.length]?).getD .no = .no := by
  have l0 := seats_len R ps.length (Nat.le_refl _)
  unfold seatsAll
  rw [List.getElem?_append_right (by lia), l0, Nat.sub_self, List.getElem?_replicate]
  split <;> rfl
theorem rev_row {ps : List (Nat × Nat)} (R : Row ps) (n : Nat) (col : Int) {w : Nat} (hwl : w ≤ ps.length) (hw : ∀ k p, ps[k]? = some p → (((p.1 : Int) < col ∧ (p.2 : Int) ≤ col) ↔ k < w)) :
    ∀ d k m found, k + d = w → d < m → revF (seatsAll n ps) ps col m (((seatsAll n ps)[stF ps k]?).getD .no) found = some (if d = 0 then found else some (.own (w - 1))) := by
  intro d
  induction d with
  | zero =>
    intro k m found hk hm
    obtain ⟨m, rfl⟩ : ∃ m', m = m' + 1 := ⟨m - 1, by lia⟩
    rw [if_pos rfl]
    by_cases h : k < ps.length
    · have e : ps[k]? = some ps[k] := by simp
      have hn : ¬ (((ps[k]).1 : Int) < col ∧ ((ps[k]).2 : Int) ≤ col) := fun q => by have := (hw k _ e).mp q; lia
      rw [seat_at R n k h, Option.getD_some]
      unfold revF
      simp only [pairOf, e]
      rw [if_neg hn]
    · have : k = ps.length := by lia
      subst this
      rw [seat_end R n]
      unfold revF
      simp only [pairOf]
  | succ d ih =>
    intro k m found hk hm
    obtain ⟨m, rfl⟩ : ∃ m', m = m' + 1 := ⟨m - 1, by lia⟩
    have h : k < ps.length := by lia
    have e : ps[k]? = some ps[k] := by simp
    have hp := (hw k _ e).mpr (by lia)
    have hs : stF ps (k + 1) = if (ps[k]).1 = (ps[k]).2 then (ps[k]).2 + 1 else (ps[k]).2 := st_succ e
    rw [seat_at R n k h, Option.getD_some]
    unfold revF
    simp only [pairOf, e]
    rw [if_pos hp, ← hs, ih (k + 1) m _ (by lia) (by lia), if_neg (Nat.succ_ne_zero d)]
    by_cases hd : d = 0
    · rw [if_pos hd, show k = w - 1 by lia]
    · rw [if_neg hd]
theorem back_row {ps : List (Nat × Nat)} (R : Row ps) (n m : Nat) (hm : ps.length < m) : ∀ (w : Nat) (col : Int) (fuel : Nat) (acc : List Seat), w ≤ ps.length → (∀ k p, ps[k]? = some p → (((p.1 : Int) < col ∧ (p.2 : Int) ≤ col) ↔ k < w)) → w ≤ fuel →
    backF (seatsAll n ps) ps m fuel col acc = some ((List.range w).map .own ++ acc) := by
  intro w
  induction w with
  | zero =>
    intro col fuel acc hl hw hf
    cases fuel with
    | zero => rfl
    | succ f =>
      have := rev_row R n col hl hw 0 0 m none rfl (by lia)
      rw [if_pos rfl] at this
      unfold backF
      simp only [stF] at this
      rw [this]; rfl
  | succ w ih =>
    intro col fuel acc hl hw hf
    obtain ⟨f, rfl⟩ : ∃ f, fuel = f + 1 := ⟨fuel - 1, by lia⟩
    have := rev_row R n col hl hw (w + 1) 0 m none (by lia) (by lia)
    rw [if_neg (by lia), Nat.add_sub_cancel] at this
    simp only [stF] at this
    have e : ps[w]? = some (ps[w]'(by lia)) := by simp
    unfold backF
    rw [this]
    simp only [pairOf, e]
    rw [ih _ f _ (by lia) ?_ (by lia), List.range_succ, List.map_append]
    · simp
    · intro k p hk
      have hd := R.le
      by_cases q : k < w
      · simp only [q, iff_true]
        have key : ∀ d k p, k + 1 + d = w → ps[k]? = some p → nxt p ≤ (ps[w]'(by lia)).1 := by
          intro d
          induction d with
          | zero =>
            intro k p h1 h2
            have h1 : k + 1 = w := h1
            subst h1
            exact R.st k p _ h2 e
          | succ d ihd =>
            intro k p h1 h2
            have e2 : ps[k + 1]? = some (ps[k + 1]'(by lia)) := by simp
            have a := R.st k p _ h2 e2
            have b := ihd (k + 1) _ (by lia) e2
            have c := nxt_gt (R.le _ _ e2)
            lia
        have a := key (w - (k + 1)) k p (by lia) hk
        have b := nxt_gt (R.le _ _ hk)
        lia
      · simp only [q, iff_false]
        intro hh
        have key : ∀ d k p, k = w + d → ps[k]? = some p → (ps[w]'(by lia)).1 ≤ p.1 := by
          intro d
          induction d with
          | zero =>
            intro k p h1 h2
            have h1 : k = w := h1
            subst h1
            rw [e] at h2; cases h2; exact Nat.le_refl _
          | succ d ihd =>
            intro k p h1 h2
            have h1 : k = w + d + 1 := h1
            subst h1
            have hlt := (List.getElem?_eq_some_iff.mp h2).1
            have e2 : ps[w + d]? = some (ps[w + d]'(by lia)) := by simp
            have a := R.st _ _ p e2 h2
            have b := ihd (w + d) _ rfl e2
            have c := nxt_gt (R.le _ _ e2)
            lia
        have := key (k - w) k p (by lia) hk
        lia
theorem matches_row {ps : List (Nat × Nat)} (R : Row ps) (n : Nat) (hl : ps.length ≤ n + 2) : MatchesOk n ps := by
  refine ⟨ps.length + 1, fun col _ _ => ?_⟩
  have hw := whole_iff R col
  have hle : (wholeF ps col).length ≤ ps.length := List.length_filter_le ..
  rw [back_row R n _ (by lia) _ col (n + 2) [] hle hw (by lia), List.append_nil]
/-! the plain law, second part: items, stretches and what the reader makes of them -/
theorem qlen_take : ∀ (i : Nat) (x : List Nat), qlen (x.take i) = min i (qlen x)
  | 0, x => by simp [qlen]
  | i + 1, [] => by simp [qlen]
  | 1, c :: r => by
    have : 1 ≤ qlen (c :: r) := by
      cases r with
      | nil => simp [qlen]
      | cons d r => simp only [qlen]; split <;> (try split) <;> lia
    show qlen [c] = _
    have e : qlen [c] = 1 := by simp [qlen]
    rw [e]; lia
  | i + 2, [c] => by
    show qlen [c] = _
    have e : qlen [c] = 1 := by simp [qlen]
    rw [e]; lia
  | i + 2, c :: d :: r => by
    have h1 := qlen_take i r
    have h2 := qlen_take (i + 1) (d :: r)
    rw [List.take_succ_cons] at h2
    rw [List.take_succ_cons, List.take_succ_cons]
    simp only [qlen]
    split
    · lia
    · split
      · lia
      · lia
theorem quo_run (R : List (List Nat)) : ∀ (x : List Nat) (part : List Nat) (i : Nat), i ≤ qlen x → ∃ e u, (x.take i).foldl pstep ⟨R, part, false, true⟩ = ⟨R, part ++ bareF (x.take i), e, u⟩ ∧ (i = qlen x → (e = false ∧ u = false) ∨ qlen x = x.length)
  | [], part, i, h => ⟨false, true, by simp [bareF], fun _ => .inr rfl⟩
  | c :: r, part, 0, h => by
    refine ⟨false, true, by simp [bareF], fun h => ?_⟩
    exfalso
    cases r with
    | nil => simp [qlen] at h
    | cons d r => simp only [qlen] at h; split at h <;> (try split at h) <;> lia
  | [c], part, i + 1, h => by
    by_cases q : c = 92
    · subst q; exact ⟨true, true, by simp [pstep, bareF], fun _ => .inr rfl⟩
    · exact ⟨false, !(c == 34), by simp [pstep, bareF, q], fun _ => .inr (by simp [qlen])⟩
  | c :: d :: r, part, 1, h => by
    by_cases q : c = 92
    · subst q
      refine ⟨true, true, by simp [pstep, bareF], fun h => ?_⟩
      rw [qlen_slash] at h
      lia
    · refine ⟨false, !(c == 34), by simp [pstep, bareF, q], fun h => ?_⟩
      by_cases q2 : c = 34
      · left; simp [q2]
      · rw [qlen_other _ q2 q] at h
        exfalso
        cases r with
        | nil => simp [qlen] at h
        | cons d r => simp only [qlen] at h; split at h <;> (try split at h) <;> lia
  | c :: d :: r, part, i + 2, h => by
    by_cases q2 : c = 34
    · subst q2; rw [qlen_quote] at h; lia
    by_cases q : c = 92
    · subst q
      rw [qlen_slash] at h ⊢
      obtain ⟨e, u, h1, h2⟩ := quo_run R r (part ++ [d]) i (by lia)
      refine ⟨e, u, ?_, fun hh => ?_⟩
      · rw [List.take_succ_cons, List.take_succ_cons, List.foldl_cons, List.foldl_cons]
        have : pstep (pstep ⟨R, part, false, true⟩ 92) d = ⟨R, part ++ [d], false, true⟩ := by simp [pstep]
        rw [this, h1]
        simp [bareF]
      · rcases h2 (by lia) with h3 | h3
        · exact .inl h3
        · exact .inr (by simp only [List.length_cons]; lia)
    · rw [qlen_other _ q2 q] at h ⊢
      obtain ⟨e, u, h1, h2⟩ := quo_run R (d :: r) (part ++ [c]) (i + 1) (by lia)
      refine ⟨e, u, ?_, fun hh => ?_⟩
      · rw [List.take_succ_cons, List.foldl_cons]
        have : pstep ⟨R, part, false, true⟩ c = ⟨R, part ++ [c], false, true⟩ := by simp [pstep, q, q2]
        rw [this, h1, bareF_other _ q, List.append_assoc]; rfl
      · rcases h2 (by lia) with h3 | h3
        · exact .inl h3
        · exact .inr (by simp only [List.length_cons] at h3 ⊢; lia)
def sub (t : List Nat) (a b : Nat) : List Nat := (t.take b).drop a
theorem sub_nil {t : List Nat} {a b : Nat} (h : b ≤ a) : sub t a b = [] := by unfold sub; rw [List.drop_of_length_le (by simp; lia)]
theorem sub_eq (t : List Nat) (a b : Nat) : sub t a b = (t.drop a).take (b - a) := by unfold sub; rw [List.drop_take]
theorem sub_cons {t : List Nat} {a b c : Nat} (h : t[a]? = some c) (hb : a < b) : sub t a b = c :: sub t (a + 1) b := by
  rw [sub_eq, sub_eq, drop_at h, show b - a = (b - (a + 1)) + 1 by lia, List.take_succ_cons]
theorem sub_take {t : List Nat} {a b i : Nat} (h : a + i ≤ b) : (sub t a b).take i = sub t a (a + i) := by
  rw [sub_eq, sub_eq, List.take_take]; congr 1; lia
theorem sub_drop (t : List Nat) (a b i : Nat) : (sub t a b).drop i = sub t (a + i) b := by unfold sub; rw [List.drop_drop]
theorem sub_cat {t : List Nat} {a b c : Nat} (h : a ≤ b) (h2 : b ≤ c) : sub t a c = sub t a b ++ sub t b c := by
  have h1 := sub_take (t := t) (a := a) (b := c) (i := b - a) (by lia)
  have h3 := sub_drop t a c (b - a)
  rw [show a + (b - a) = b by lia] at h1 h3
  rw [← h1, ← h3, List.take_append_drop]
theorem sub_len {t : List Nat} {a b : Nat} (h : b ≤ t.length) : (sub t a b).length = b - a := by unfold sub; simp; lia
theorem sub_qlen (t : List Nat) (a b : Nat) : qlen (sub t a b) = min (b - a) (qlen (t.drop a)) := by rw [sub_eq, qlen_take]
def readU (x : List Nat) : List Nat := readF x.length x
theorem readU_nil : readU [] = [] := rfl
theorem readU_quote (r : List Nat) : readU (34 :: r) = bareF (34 :: r.take (qlen r)) ++ readU (r.drop (qlen r)) := by
  unfold readU
  rw [List.length_cons]
  simp only [readF, if_pos]
  rw [readF_fuel r.length (r.drop (qlen r)).length _ (by simp) (Nat.le_refl _)]
theorem readU_other {c : Nat} (r : List Nat) (h : c ≠ 34) : readU (c :: r) = c :: readU r := by
  unfold readU
  rw [List.length_cons]
  simp only [readF, if_neg h]
/-- a row of items: each begins one behind the last one's end; the last ends at the end -/
def Chn (n : Nat) : Nat → List (Nat × Nat) → Prop
  | _, [] => False
  | f, p :: r => p.1 = f ∧ f ≤ p.2 ∧ (r = [] ∧ p.2 = n ∨ p.2 < n ∧ Chn n (p.2 + 1) r)
theorem items_ch (t : List Nat) : ∀ n j f, t.length - j ≤ n → f ≤ j → j ≤ t.length → Chn t.length f (itemsF t n j f) ∧ ∀ p, (itemsF t n j f)[0]? = some p → j ≤ p.2 := by
  intro n
  induction n with
  | zero =>
    intro j f hn hf hj
    refine ⟨⟨rfl, by show f ≤ t.length; lia, .inl ⟨rfl, rfl⟩⟩, ?_⟩
    intro p hp; simp [itemsF] at hp; subst hp; exact hj
  | succ n ih =>
    intro j f hn hf hj
    simp only [itemsF]
    cases hc : t[j]? with
    | none =>
      refine ⟨⟨rfl, by show f ≤ t.length; lia, .inl ⟨rfl, rfl⟩⟩, ?_⟩
      intro p hp; simp at hp; subst hp; exact hj
    | some c =>
      have hlt := (List.getElem?_eq_some_iff.mp hc).1
      have hq := qlen_len (t.drop (j + 1))
      rw [List.length_drop] at hq
      dsimp only
      split
      · obtain ⟨h1, h2⟩ := ih (j + 1 + qlen (t.drop (j + 1))) f (by lia) (by lia) (by lia)
        exact ⟨h1, fun p hp => by have := h2 p hp; lia⟩
      · split
        · obtain ⟨h1, h2⟩ := ih (j + 1) (j + 1) (by lia) (by lia) (by lia)
          refine ⟨⟨rfl, hf, .inr ⟨hlt, h1⟩⟩, ?_⟩
          intro p hp; simp at hp; subst hp; exact Nat.le_refl _
        · obtain ⟨h1, h2⟩ := ih (j + 1) f (by lia) (by lia) (by lia)
          exact ⟨h1, fun p hp => by have := h2 p hp; lia⟩
theorem Chn.mem {n : Nat} : ∀ {l : List (Nat × Nat)} {f : Nat}, Chn n f l → ∀ p ∈ l, f ≤ p.1 ∧ p.1 ≤ p.2 ∧ p.2 ≤ n
  | [], _, h, p, hp => by cases hp
  | q :: r, f, h, p, hp => by
    obtain ⟨h1, h2, h3⟩ := h
    rcases List.mem_cons.mp hp with rfl | hp
    · rcases h3 with ⟨_, h3⟩ | ⟨h3, _⟩ <;> lia
    · rcases h3 with ⟨h3, _⟩ | ⟨h3, h4⟩
      · subst h3; cases hp
      · have := h4.mem p hp; lia
theorem Chn.len {n : Nat} : ∀ {l : List (Nat × Nat)} {f : Nat}, Chn n f l → f ≤ n ∧ l.length + f ≤ n + 1
  | [], _, h => by cases h
  | q :: r, f, h => by
    obtain ⟨h1, h2, h3⟩ := h
    rcases h3 with ⟨rfl, h3⟩ | ⟨h3, h4⟩
    · simp; lia
    · have := h4.len; simp only [List.length_cons]; lia
theorem Chn.next {n : Nat} : ∀ {l : List (Nat × Nat)} {f : Nat}, Chn n f l → ∀ k p q, l[k]? = some p → l[k + 1]? = some q → q.1 = p.2 + 1
  | [], _, h, k, p, q, h1, _ => by cases h
  | x :: r, f, h, k, p, q, h1, h2 => by
    obtain ⟨a, b, h3⟩ := h
    rcases h3 with ⟨rfl, h3⟩ | ⟨h3, h4⟩
    · simp at h2
    · cases k with
      | zero =>
        simp at h1; subst h1
        cases r with
        | nil => simp at h2
        | cons y r => simp at h2; subst h2; exact h4.1
      | succ k =>
        rw [List.getElem?_cons_succ] at h1 h2
        exact h4.next k p q h1 h2
theorem items_drop (t : List Nat) : ∀ n j f k p, t.length - j ≤ n → f ≤ j → j ≤ t.length → (k > 0 ∨ j = f) → (itemsF t n j f)[k]? = some p → (itemsF t n j f).drop k = itemsF t t.length p.1 p.1 := by
  intro n
  induction n with
  | zero =>
    intro j f k p hn hf hj hk hp
    have hch := (items_ch t 0 j f hn hf hj).1
    have : k = 0 := by
      have := (List.getElem?_eq_some_iff.mp hp).1
      simp [itemsF] at this; exact this
    subst this
    have hjf : j = f := by rcases hk with h | h; · cases h
                           · exact h
    subst hjf
    rw [List.drop_zero]
    have : p.1 = j := by simp [itemsF] at hp; subst hp; rfl
    rw [this]
    exact itemsF_fuel t 0 t.length j j hn (by lia)
  | succ n ih =>
    intro j f k p hn hf hj hk hp
    by_cases k0 : k = 0
    · subst k0
      have hjf : j = f := by rcases hk with h | h; · cases h
                             · exact h
      subst hjf
      have hch := (items_ch t (n + 1) j j hn hf hj).1
      have : p.1 = j := by
        cases hi : itemsF t (n + 1) j j with
        | nil => rw [hi] at hp; cases hp
        | cons q r => rw [hi] at hp hch; simp at hp; subst hp; exact hch.1
      rw [List.drop_zero, this]
      exact itemsF_fuel t _ t.length j j hn (by lia)
    · simp only [itemsF] at hp ⊢
      cases hc : t[j]? with
      | none => rw [hc] at hp; obtain ⟨k, rfl⟩ : ∃ k', k = k' + 1 := ⟨k - 1, by lia⟩; simp at hp
      | some c =>
        rw [hc] at hp
        have hlt := (List.getElem?_eq_some_iff.mp hc).1
        have hq := qlen_len (t.drop (j + 1))
        rw [List.length_drop] at hq
        dsimp only at hp ⊢
        split
        · rename_i h; rw [if_pos h] at hp
          exact ih _ f k p (by lia) (by lia) (by lia) (.inl (by lia)) hp
        · rename_i h; rw [if_neg h] at hp
          split
          · rename_i h; rw [if_pos h] at hp
            obtain ⟨k, rfl⟩ : ∃ k', k = k' + 1 := ⟨k - 1, by lia⟩
            rw [List.getElem?_cons_succ] at hp
            rw [List.drop_succ_cons]
            exact ih _ _ k p (by lia) (by lia) (by lia) (.inr rfl) hp
          · rename_i h; rw [if_neg h] at hp
            exact ih _ f k p (by lia) (by lia) (by lia) (.inl (by lia)) hp
/-- what is read up to a place: the whole items, then what stands of the next one -/
def cutRead (t : List Nat) (col : Nat) : List (Nat × Nat) → List (List Nat)
  | [] => []
  | p :: r => if p.1 < col then (if p.2 ≤ col then readU (sub t p.1 p.2) :: cutRead t col r else [readU (sub t p.1 col)]) else []
theorem cutRead_far (t : List Nat) (col f : Nat) : ∀ {l : List (Nat × Nat)} {n : Nat}, (l = [] ∨ Chn n f l) → col ≤ f → cutRead t col l = []
  | [], _, _, _ => rfl
  | p :: r, n, h, hf => by
    rcases h with h | h
    · cases h
    · unfold cutRead; rw [if_neg (by have := h.1; lia)]
theorem items_head (t : List Nat) {n j f : Nat} (hn : t.length - j ≤ n) (hf : f ≤ j) (hj : j ≤ t.length) : ∃ b r, itemsF t n j f = (f, b) :: r ∧ j ≤ b ∧ (r = [] ∨ Chn t.length (b + 1) r) := by
  obtain ⟨h1, h2⟩ := items_ch t n j f hn hf hj
  cases hi : itemsF t n j f with
  | nil => rw [hi] at h1; cases h1
  | cons p r =>
    rw [hi] at h1 h2
    obtain ⟨a, b⟩ := p
    obtain ⟨h3, h4, h5⟩ := h1
    have h3 : a = f := h3
    subst h3
    refine ⟨b, r, rfl, h2 _ rfl, ?_⟩
    rcases h5 with h5 | h5
    · exact .inl h5.1
    · exact .inr h5.2
theorem pparts_at {p : PS} (part : List Nat) (e : p.part = part) : pparts p = p.res ++ if part.isEmpty then [] else [part] := by
  unfold pparts; rw [e]; split <;> simp
theorem cut_in (t : List Nat) {n j f col : Nat} (hn : t.length - j ≤ n) (hf : f ≤ j) (hj : j ≤ t.length) (hfc : f < col) (hc : col ≤ j) : cutRead t col (itemsF t n j f) = [readU (sub t f col)] := by
  obtain ⟨b, r, e, hb, hr⟩ := items_head t hn hf hj
  rw [e]
  unfold cutRead
  rw [if_pos hfc]
  split
  · rename_i h
    have h : b ≤ col := h
    have : b = col := by lia
    subst this
    rw [cutRead_far t b (b + 1) hr (by lia)]
  · rfl
theorem parse_run {t : List Nat} {col : Nat} (hc : col ≤ t.length) : ∀ (n j f : Nat) (p : PS), t.length - j ≤ n → f ≤ j → j ≤ col → (p.esc = false ∧ p.quo = false ∨ j = t.length) → (p.part = [] ↔ f = j) →
    (∀ e, j ≤ e → e ≤ t.length → readU (sub t f e) = p.part ++ readU (sub t j e)) → pparts ((sub t j col).foldl pstep p) = p.res ++ cutRead t col (itemsF t n j f) := by
  have base : ∀ (n j f : Nat) (p : PS), t.length - j ≤ n → f ≤ j → j = col → (p.part = [] ↔ f = j) → (∀ e, j ≤ e → e ≤ t.length → readU (sub t f e) = p.part ++ readU (sub t j e)) → pparts ((sub t j col).foldl pstep p) = p.res ++ cutRead t col (itemsF t n j f) := by
    intro n j f p hn hf hj hp hr
    rw [sub_nil (by lia), List.foldl_nil, pparts_at _ rfl]
    congr 1
    by_cases q : f = j
    · rw [hp.mpr q]
      obtain ⟨b, r, e, hb, hr⟩ := items_head t hn hf (by lia)
      rw [e]
      have : cutRead t col ((f, b) :: r) = [] := by unfold cutRead; exact if_neg (by show ¬ f < col; lia)
      rw [this]; rfl
    · rw [cut_in t hn hf (by lia) (by lia) (by lia)]
      have : ¬ p.part = [] := fun h => q (hp.mp h)
      have h2 := hr col (by lia) hc
      rw [sub_nil (a := j) (by lia), readU_nil, List.append_nil] at h2
      rw [h2, if_neg (by simpa using this)]
  intro n
  induction n with
  | zero =>
    intro j f p hn hf hj hp hp2 hr
    exact base 0 j f p hn hf (by lia) hp2 hr
  | succ n ih =>
    intro j f p hn hf hj hp hp2 hr
    by_cases hjc : j = col
    · exact base _ j f p hn hf hjc hp2 hr
    obtain ⟨c, hcj⟩ := get_at (t := t) (j := j) (by lia)
    have hout : p.esc = false ∧ p.quo = false := by rcases hp with h | h; · exact h
                                                    · lia
    obtain ⟨R, part, e0, u0⟩ := p
    obtain ⟨rfl, rfl⟩ : e0 = false ∧ u0 = false := hout
    dsimp only at hp2 hr ⊢
    have hsub := sub_cons (b := col) hcj (by lia)
    simp only [itemsF, hcj]
    have step : ∀ e, j < e → e ≤ t.length → readU (sub t f e) = part ++ readU (c :: sub t (j + 1) e) := fun e h1 h2 => by
      rw [← sub_cons hcj h1]; exact hr e (by lia) h2
    by_cases h34 : c = 34
    · subst h34
      rw [if_pos rfl]
      have hq := qlen_len (t.drop (j + 1))
      rw [List.length_drop] at hq
      generalize hQ : qlen (t.drop (j + 1)) = q at *
      have st1 : pstep ⟨R, part, false, false⟩ 34 = ⟨R, part ++ [34], false, true⟩ := by simp [pstep]
      by_cases hin : j + 1 + q ≤ col
      · obtain ⟨e, u, h1, h2⟩ := quo_run R (t.drop (j + 1)) (part ++ [34]) q (by lia)
        have hh : (t.drop (j + 1)).take q = sub t (j + 1) (j + 1 + q) := by rw [sub_eq]; congr 1; lia
        rw [hh] at h1
        rw [hsub, sub_cat (b := j + 1 + q) (by lia) hin, List.foldl_cons, st1, List.foldl_append, h1]
        refine ih (j + 1 + q) f ⟨R, _, e, u⟩ (by lia) (by lia) hin ?_ ?_ ?_
        · rcases h2 hQ.symm with h | h
          · exact .inl h
          · right; rw [hQ, List.length_drop] at h; lia
        · constructor
          · intro h; simp at h
          · intro h; lia
        · intro e1 h3 h4
          have hm : qlen (sub t (j + 1) e1) = q := by rw [sub_qlen, hQ]; lia
          rw [step e1 (by lia) h4, readU_quote, hm, sub_take (by lia), sub_drop, bareF_other _ (by decide)]
          simp
      · obtain ⟨e, u, h1, _⟩ := quo_run R (t.drop (j + 1)) (part ++ [34]) (col - (j + 1)) (by lia)
        have hh : (t.drop (j + 1)).take (col - (j + 1)) = sub t (j + 1) col := by rw [sub_eq]
        rw [hh] at h1
        rw [cut_in t (by lia) (by lia) (by lia) (by lia) (by lia), hsub, List.foldl_cons, st1, h1]
        have hm : qlen (sub t (j + 1) col) = col - (j + 1) := by rw [sub_qlen, hQ]; lia
        have h3 := step col (by lia) hc
        rw [readU_quote, hm, List.take_of_length_le (by rw [sub_len hc]; lia), List.drop_of_length_le (by rw [sub_len hc]; lia), bareF_other _ (by decide), readU_nil, List.append_nil] at h3
        rw [pparts_at _ rfl, h3, if_neg (by simp)]
        simp
    · rw [if_neg h34]
      by_cases h44 : c = 44
      · subst h44
        rw [if_pos rfl]
        have st1 : pstep ⟨R, part, false, false⟩ 44 = ⟨R ++ [part], [], false, false⟩ := by simp [pstep]
        rw [hsub, List.foldl_cons, st1, ih (j + 1) (j + 1) _ (by lia) (by lia) (by lia) (.inl ⟨rfl, rfl⟩) (by simp) (fun e _ _ => by simp)]
        have hcut : cutRead t col ((f, j) :: itemsF t n (j + 1) (j + 1)) = readU (sub t f j) :: cutRead t col (itemsF t n (j + 1) (j + 1)) := by
          show (if f < col then (if j ≤ col then readU (sub t f j) :: cutRead t col (itemsF t n (j + 1) (j + 1)) else _) else []) = _
          rw [if_pos (show f < col by lia), if_pos (show j ≤ col by lia)]
        rw [hcut]
        have h3 := hr j (Nat.le_refl _) (by lia)
        rw [sub_nil (a := j) (Nat.le_refl _), readU_nil, List.append_nil] at h3
        rw [h3, List.append_assoc]; rfl
      · rw [if_neg h44]
        have st1 : pstep ⟨R, part, false, false⟩ c = ⟨R, part ++ [c], false, false⟩ := by simp [pstep, h44, h34]
        rw [hsub, List.foldl_cons, st1]
        refine ih (j + 1) f _ (by lia) (by lia) (by lia) (.inl ⟨rfl, rfl⟩) ?_ ?_
        · constructor
          · intro h; simp at h
          · intro h; lia
        · intro e h1 h2
          rw [step e (by lia) h2, readU_other _ h34, List.append_assoc]; rfl
theorem cutRead_eq (t : List Nat) (col : Nat) : ∀ (l : List (Nat × Nat)) (w : Nat), w ≤ l.length → (∀ k p, l[k]? = some p → (((p.1 : Int) < (col : Int) ∧ (p.2 : Int) ≤ (col : Int)) ↔ k < w)) →
    cutRead t col l = (l.map fun p => readU (sub t p.1 p.2)).take w ++ (((l.drop w).take 1).filter fun p => decide (p.1 < col)).map fun p => readU (sub t p.1 col)
  | [], w, h, _ => by
    have : w = 0 := by simpa using h
    subst this; rfl
  | p :: r, 0, h, hw => by
    have := hw 0 p rfl
    simp only [Nat.lt_irrefl, iff_false] at this
    unfold cutRead
    simp only [List.take_zero, List.nil_append, List.drop_zero, List.take_succ_cons]
    by_cases q : p.1 < col
    · rw [if_pos q, if_neg (by lia), List.filter_cons_of_pos (by simpa using q), List.filter_nil]; rfl
    · rw [if_neg q, List.filter_cons_of_neg (by simpa using q), List.filter_nil]; rfl
  | p :: r, w + 1, h, hw => by
    have h0 := (hw 0 p rfl).mpr (by lia)
    have ih := cutRead_eq t col r w (by simpa using h) (fun k x hx => by
      have := hw (k + 1) x (by rw [List.getElem?_cons_succ]; exact hx)
      lia)
    unfold cutRead
    rw [if_pos (by lia), if_pos (by lia), ih, List.map_cons, List.take_succ_cons, List.drop_succ_cons, List.cons_append]
/-! stretches -/
theorem many_eq (t : List Nat) (i : Nat) : manyF t i = (prun (t.take i)).res.length + 1 := by
  unfold manyF parseF
  rw [List.length_map, prun_snoc]
  generalize prun (t.take i) = p
  have h : (pstep p 122).res = p.res ∧ (pstep p 122).part = p.part ++ [122] := by
    unfold pstep
    split
    · exact ⟨rfl, rfl⟩
    · split
      · rw [if_neg (by decide)]; exact ⟨rfl, rfl⟩
      · rw [if_neg (by decide)]; exact ⟨rfl, rfl⟩
  rw [pparts_at _ h.2, h.1, if_neg (by simp)]
  simp
abbrev isCut (t : List Nat) (i : Nat) : Bool := decide (manyF t i < manyF t (i + 1))
theorem prun_to (t : List Nat) {a b : Nat} (h : a ≤ b) : prun (t.take b) = (sub t a b).foldl pstep (prun (t.take a)) := by
  unfold prun
  rw [← List.foldl_append]
  congr 1
  have := sub_cat (t := t) (a := 0) (Nat.zero_le a) h
  simpa [sub] using this
theorem cuts_none (t : List Nat) (R : List (List Nat)) (a b : Nat) (h : ∀ i, a ≤ i → i ≤ b → (prun (t.take i)).res = R) : (List.range' a (b - a)).filter (isCut t) = [] := by
  rw [List.filter_eq_nil_iff]
  intro i hi
  rw [List.mem_range'_1] at hi
  simp only [isCut, decide_eq_true_eq, many_eq]
  rw [h i (by lia) (by lia), h (i + 1) (by lia) (by lia)]
  lia
theorem range_cat {a b c : Nat} (h : a ≤ b) (h2 : b ≤ c) : List.range' a (c - a) = List.range' a (b - a) ++ List.range' b (c - b) := by
  have := List.range'_append (s := a) (m := b - a) (n := c - b) (step := 1)
  rw [show a + 1 * (b - a) = b by lia, show b - a + (c - b) = c - a by lia] at this
  exact this.symm
theorem stretch_run (t : List Nat) : ∀ n j f, t.length - j ≤ n → j ≤ t.length → ((prun (t.take j)).esc = false ∧ (prun (t.take j)).quo = false ∨ j = t.length) →
    itemsF t n j f = (f :: ((List.range' j (t.length - j)).filter (isCut t)).map (· + 1)).zip ((List.range' j (t.length - j)).filter (isCut t) ++ [t.length]) := by
  intro n
  induction n with
  | zero =>
    intro j f hn hj hp
    rw [show t.length - j = 0 by lia]; rfl
  | succ n ih =>
    intro j f hn hj hp
    by_cases hjl : j = t.length
    · have : t[j]? = none := by simp; lia
      simp only [itemsF, this]
      rw [show t.length - j = 0 by lia]; rfl
    have hout : (prun (t.take j)).esc = false ∧ (prun (t.take j)).quo = false := by rcases hp with h | h; · exact h
                                                                                    · lia
    obtain ⟨c, hcj⟩ := get_at (t := t) (j := j) (by lia)
    simp only [itemsF, hcj]
    have hq := qlen_len (t.drop (j + 1))
    rw [List.length_drop] at hq
    have one : prun (t.take (j + 1)) = pstep (prun (t.take j)) c := by
      rw [prun_to t (Nat.le_succ j), sub_cons hcj (Nat.lt_succ_self j), sub_nil (Nat.le_refl _)]; rfl
    obtain ⟨⟨R, part, e0, u0⟩, hpe⟩ : ∃ q, prun (t.take j) = q := ⟨_, rfl⟩
    rw [hpe] at hout one
    obtain ⟨rfl, rfl⟩ : e0 = false ∧ u0 = false := hout
    by_cases h34 : c = 34
    · subst h34
      rw [if_pos rfl]
      generalize hQ : qlen (t.drop (j + 1)) = q at *
      have st1 : pstep ⟨R, part, false, false⟩ 34 = ⟨R, part ++ [34], false, true⟩ := by simp [pstep]
      rw [st1] at one
      have run : ∀ i, i ≤ q → ∃ pt e u, prun (t.take (j + 1 + i)) = ⟨R, pt, e, u⟩ ∧ (i = q → (e = false ∧ u = false) ∨ j + 1 + i = t.length) := by
        intro i hi
        obtain ⟨e, u, h1, h2⟩ := quo_run R (t.drop (j + 1)) (part ++ [34]) i (by lia)
        have hh : (t.drop (j + 1)).take i = sub t (j + 1) (j + 1 + i) := by rw [sub_eq]; congr 1; lia
        rw [hh] at h1
        refine ⟨_, e, u, by rw [prun_to t (Nat.le_add_right (j + 1) i), one, h1], fun h => ?_⟩
        rcases h2 (by lia) with h3 | h3
        · exact .inl h3
        · right; rw [hQ, List.length_drop] at h3; lia
      have none1 : (List.range' j (j + 1 + q - j)).filter (isCut t) = [] := by
        refine cuts_none t R j (j + 1 + q) (fun i h1 h2 => ?_)
        by_cases h : i = j
        · subst h; rw [hpe]
        · obtain ⟨pt, e, u, h3, _⟩ := run (i - (j + 1)) (by lia)
          rw [show j + 1 + (i - (j + 1)) = i by lia] at h3
          rw [h3]
      obtain ⟨pt, e, u, h3, h4⟩ := run q (Nat.le_refl _)
      rw [range_cat (a := j) (b := j + 1 + q) (by lia) (by lia), List.filter_append, none1, List.nil_append]
      refine ih (j + 1 + q) f (by lia) (by lia) ?_
      rw [h3]
      exact h4 rfl
    · rw [if_neg h34]
      have hr : List.range' j (t.length - j) = j :: List.range' (j + 1) (t.length - (j + 1)) := by
        rw [show t.length - j = t.length - (j + 1) + 1 by lia, List.range'_succ]
      by_cases h44 : c = 44
      · subst h44
        rw [if_pos rfl]
        have st1 : pstep ⟨R, part, false, false⟩ 44 = ⟨R ++ [part], [], false, false⟩ := by simp [pstep]
        rw [st1] at one
        have hcut : isCut t j = true := by
          simp only [isCut, decide_eq_true_eq, many_eq]
          rw [one, hpe]; simp
        rw [ih (j + 1) (j + 1) (by lia) (by lia) (.inl (by rw [one]; exact ⟨rfl, rfl⟩)), hr, List.filter_cons_of_pos hcut]
        rfl
      · rw [if_neg h44]
        have st1 : pstep ⟨R, part, false, false⟩ c = ⟨R, part ++ [c], false, false⟩ := by simp [pstep, h44, h34]
        rw [st1] at one
        have hcut : ¬ isCut t j = true := by
          simp only [isCut, decide_eq_true_eq, many_eq]
          rw [one, hpe]; simp
        rw [ih (j + 1) f (by lia) (by lia) (.inl (by rw [one]; exact ⟨rfl, rfl⟩)), hr, List.filter_cons_of_neg hcut]
theorem stretches_eq (t : List Nat) : stretchesF t = itemsF t t.length 0 0 := by
  rw [stretch_run t t.length 0 0 (by lia) (by lia) (.inl ⟨rfl, rfl⟩)]
  unfold stretchesF cutsF
  rw [List.range_eq_range', Nat.sub_zero]
/-! the row of items, and the row of those that touch -/
theorem Chn.row {n f : Nat} {l : List (Nat × Nat)} (h : Chn n f l) : Row l := by
  refine ⟨fun k p hp => (h.mem p (List.mem_of_getElem? hp)).2.1, fun k p q h1 h2 => ?_⟩
  have := h.next k p q h1 h2
  have := (h.mem p (List.mem_of_getElem? h1)).2.1
  unfold nxt; split <;> lia
theorem touch_get (l : List (Nat × Nat)) (k : Nat) : (touchF l)[k]? = (l[k]?).map fun p => if k + 1 < l.length then (p.1, p.2 + 1) else p := by
  unfold touchF
  by_cases h : k < l.length - 1
  · rw [List.getElem?_append_left (by simp; lia), List.getElem?_map, List.getElem?_take_of_lt h]
    congr 1; funext p; rw [if_pos (by lia)]
  · rw [List.getElem?_append_right (by simp; lia), List.getElem?_drop]
    have e : l.length - 1 + (k - ((l.take (l.length - 1)).map fun p => (p.1, p.2 + 1)).length) = k := by simp; lia
    rw [e]
    cases hk : l[k]? with
    | none => rfl
    | some p =>
      have := (List.getElem?_eq_some_iff.mp hk).1
      rw [Option.map_some, if_neg (by lia)]
theorem touch_len (l : List (Nat × Nat)) : (touchF l).length = l.length := by unfold touchF; simp <;> lia
theorem Chn.touch {n f : Nat} {l : List (Nat × Nat)} (h : Chn n f l) : Row (touchF l) := by
  refine ⟨fun k p hp => ?_, fun k p q h1 h2 => ?_⟩
  · rw [touch_get] at hp
    obtain ⟨x, hx, rfl⟩ := Option.map_eq_some_iff.mp hp
    have := (h.mem x (List.mem_of_getElem? hx)).2.1
    split <;> (try dsimp only) <;> lia
  · rw [touch_get] at h1 h2
    obtain ⟨x, hx, rfl⟩ := Option.map_eq_some_iff.mp h1
    obtain ⟨y, hy, rfl⟩ := Option.map_eq_some_iff.mp h2
    have a := h.next k x y hx hy
    have b := (h.mem x (List.mem_of_getElem? hx)).2.1
    have c := (List.getElem?_eq_some_iff.mp hy).1
    have e : (if k + 1 + 1 < l.length then (y.1, y.2 + 1) else y).1 = y.1 := by split <;> rfl
    rw [if_pos c, e]
    unfold nxt
    dsimp only
    rw [if_neg (by lia)]; lia
theorem Chn.touch_mem {n f : Nat} {l : List (Nat × Nat)} (h : Chn n f l) : ∀ p ∈ touchF l, p.1 ≤ n ∧ p.2 ≤ n := by
  intro p hp
  obtain ⟨k, hk⟩ := List.getElem?_of_mem hp
  rw [touch_get] at hk
  obtain ⟨x, hx, rfl⟩ := Option.map_eq_some_iff.mp hk
  have a := h.mem x (List.mem_of_getElem? hx)
  split
  · rename_i c
    have e : l[k + 1]? = some l[k + 1] := by simp
    have b := h.next k x _ hx e
    have d := h.mem _ (List.mem_of_getElem? e)
    dsimp only; lia
  · lia
theorem law_ok (t : List Nat) : LawOk t (itemsF t t.length 0 0) := by
  have ch := (items_ch t t.length 0 0 (by lia) (by lia) (by lia)).1
  have hl := ch.len
  refine ⟨stretches_eq t, matches_row ch.row _ (by lia), matches_row ch.touch _ (by rw [touch_len]; lia), ?_, by lia, fun p hp => (ch.mem p hp).2, ch.touch_mem⟩
  intro col k hcol hk p hp hpc
  have hw := whole_iff ch.row (col : Int)
  generalize hW : (wholeF (itemsF t t.length 0 0) col).length = w at *
  have hwl : w ≤ (itemsF t t.length 0 0).length := by rw [← hW]; exact List.length_filter_le ..
  have hm := ch.mem p (List.mem_of_getElem? hp)
  have hd := items_drop t t.length 0 0 k p (by lia) (by lia) (by lia) (.inr rfl) hp
  have hr := parse_run hcol t.length p.1 p.1 pinit (by lia) (Nat.le_refl _) hpc (.inl ⟨rfl, rfl⟩) (by simp [pinit]) (fun e _ _ => by simp [pinit])
  have hcr := cutRead_eq t col ((itemsF t t.length 0 0).drop k) (w - k) (by rw [List.length_drop]; lia) (fun i q hq => by
    rw [List.getElem?_drop] at hq
    have := hw (k + i) q hq
    lia)
  rw [← hd] at hr
  unfold parseF prun
  show (pparts ((sub t p.1 col).foldl pstep pinit)).map stripF = _
  rw [hr, hcr]
  have e : pinit.res = [] := rfl
  rw [e, List.nil_append, List.map_append]
  congr 1
  · rw [List.map_take, List.map_map, List.map_drop, List.drop_take]
    rfl
  · unfold restF
    rw [List.map_map, List.drop_drop, show k + (w - k) = w by lia]
    rfl
/-! law, from what the head hands over -/
theorem law_join {w : World} {A : Around} {s : Shared} {G : Heap} {L fa : Addr} {cd : Value} {m mg mb : Str → Option Value} {p : Program} {loose : List Str} {mean : ExcName → Option Value} {a : Addr} {vs : List Value} {ns : List Int} {oc ot : Obj} {vc vt : Option Value}
    {Q : Flow → Shared → Prop} {E : Value → Shared → Prop} (F : Fr G L s.heap m) (hm : m (Str.ofString "script") = some (.ref a)) (N : News G L s.heap [(L + 1 + 1, oc), (L + 1, ot), (68, tabObj #[]), (75, tabObj #[])]) (dc : oc.data = .cell vc) (dt : ot.data = .cell vt)
    (l0 : 68 < L ∧ 75 < L) (X : (KK w).In G) (T : Top p loose mean mg mb G) (C1 : CodeHd G 72 68) (C2 : CodeHd G 77 75) (ha : G.IsList a vs.toArray) (hi : IntsAre vs ns) (hn : ¬ ((63 : Int) < (ns.length : Int))) (R : Rm A 5)
    (h : ∀ h' tk m', Fr G L h' m' → GrownAll [(72, 68), (77, 75)] h' → Q (.ret (.bool true)) { s with heap := h', toks := tk }) :
    wpAny (Mo w) A (execs (stmtsOf (fdOf w 95)) (lawEnv w L fa cd)) Q E s := by
  have W : Wd w G := ⟨X, ⟨mb, T.b, T.builtins⟩, T.nolimit, ⟨mg, T.g⟩⟩
  have B : Bm G := by
    obtain ⟨bm, ob, h1, h2, h3, h4, h5, h6⟩ := T.bmain
    exact ⟨mg, bm, ob, T.g, h1, h2, h3, h4, h5, h6⟩
  have hid : G.get? L = none := by
    cases q : G.get? L with
    | none => rfl
    | some o => exact absurd (Heap.lt_size q) (Nat.not_lt.mpr F.above)
  have l1 : 68 ≠ L := Nat.ne_of_lt l0.1
  have F0 : Fx G L s.heap (mp [(Str.ofString "script", .ref a)]) ((L + 1 + 1, oc) :: (L + 1, ot) :: (68, tabObj #[]) :: (75, tabObj #[]) :: []) := by
    refine ⟨⟨m, F.ns, fun x v e => ?_⟩, F.keep, hid, fun p hp => N p hp, ?_⟩
    · simp only [mp, List.lookup_cons, List.lookup_nil] at e
      split at e
      · rename_i q; cases e; rw [eq_of_beq q]; exact hm
      · cases e
    · have a1 : L + 1 + 1 ≠ 68 := fun q => absurd l0.1 (by rw [← q]; exact Nat.not_lt.mpr (Nat.le_trans (Nat.le_succ L) (Nat.le_succ _)))
      have a2 : L + 1 + 1 ≠ 75 := fun q => absurd l0.2 (by rw [← q]; exact Nat.not_lt.mpr (Nat.le_trans (Nat.le_succ L) (Nat.le_succ _)))
      have a3 : L + 1 ≠ 68 := fun q => absurd l0.1 (by rw [← q]; exact Nat.not_lt.mpr (Nat.le_succ L))
      have a4 : L + 1 ≠ 75 := fun q => absurd l0.2 (by rw [← q]; exact Nat.not_lt.mpr (Nat.le_succ L))
      have a5 : L + 1 + 1 ≠ L + 1 := Nat.succ_ne_self _
      have a6 : (68 : Addr) ≠ 75 := by decide
      simp [a1, a2, a3, a4, a5, a6]
  have hv : vs.length ≤ 63 := by have := hi.length; lia
  refine wpAny_mono (law_body (d := 0) (fa := fa) (cd := cd) (fun t _ => law_ok t) F0 dc dt R W B C1 C2 ha hi hv) ?_ (fun _ _ x => x.elim)
  refine coverA ?_
  intro GG hGG f s' hh
  obtain ⟨rfl, g', h', tk, m', ph, pp, rfl, hs, F'⟩ := hh
  refine hGG _ _ ?_
  clear hGG
  obtain ⟨m₀, n1, _⟩ := F'.ns
  exact h h' tk m₀ ⟨n1, fun b o e => F'.keep b o (hs b o e), F.above⟩ ⟨⟨ph, F'.head⟩, ⟨pp, F'.at (.tail _ (.head _))⟩, trivial⟩
theorem rm_top (env : Env) : Rm (callerA.deeper env) 5 := ⟨rfl, by show 1 + claimMargin + 1 + 5 < 1000; decide, by show 4 + 3 + 10 * 5 < 9900; decide⟩
end Mine
set_option maxRecDepth 100000 in
set_option maxHeartbeats 8000000 in
theorem PySem.Challenge.cw_mq0107_01_holds : PySem.Challenge.rw_mq0107_01.Holds := by
  refine Mine.hd ?_
  w_strict (k_go0; (all_goals try k_fold); (
    rename Fr _ _ _ _ => F;
    rename News _ _ _ _ => N;
    rename Frag.In _ _ => X;
    rename IntsAre _ _ => hi;
    rename (68 < _ ∧ 75 < _) => l0;
    rename CodeHd _ _ _ => C2;
    rename Heap.IsList (ghostOf _ _) _ _ => hL;
    refine Mine.law_join F (by rfl) N (by assumption) (by assumption) l0 X (by assumption) (by assumption) C2 hL hi (by assumption) (Mine.rm_top _) ?_;
    clear F N;
    intro h' tk' m' F gr;
    refine ⟨?_, gr⟩;
    kc_close))
