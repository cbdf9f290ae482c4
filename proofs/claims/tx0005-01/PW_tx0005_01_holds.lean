import PyProof.Rows.All
import Wide.All
import OpenK.AllK
import Wide.FinOn
import PySem.Challenge.RW_tx0005_01
set_option Elab.async false
set_option maxRecDepth 100000
set_option linter.unusedVariables false

-- AH
namespace Mine
open PySem PySem.Calls PyProof.Rows PySem.W

theorem bind1 {fd : FuncData} {r : List Str} {vs : List Value} (h : vs.length = 1) (k : ∀ x, bindArgs fd ⟨[x], []⟩ = pure (r.zip [x])) : bindArgs fd ⟨vs, []⟩ = pure (r.zip vs) := by
  match vs, h with
  | [x], _ => exact k x
theorem bind2 {fd : FuncData} {r : List Str} {vs : List Value} (h : vs.length = 2) (k : ∀ x y, bindArgs fd ⟨[x, y], []⟩ = pure (r.zip [x, y])) : bindArgs fd ⟨vs, []⟩ = pure (r.zip vs) := by
  match vs, h with
  | [x, y], _ => exact k x y
theorem bind3 {fd : FuncData} {r : List Str} {vs : List Value} (h : vs.length = 3) (k : ∀ x y z, bindArgs fd ⟨[x, y, z], []⟩ = pure (r.zip [x, y, z])) : bindArgs fd ⟨vs, []⟩ = pure (r.zip vs) := by
  match vs, h with
  | [x, y, z], _ => exact k x y z
theorem bind4 {fd : FuncData} {r : List Str} {vs : List Value} (h : vs.length = 4) (k : ∀ x y z u, bindArgs fd ⟨[x, y, z, u], []⟩ = pure (r.zip [x, y, z, u])) : bindArgs fd ⟨vs, []⟩ = pure (r.zip vs) := by
  match vs, h with
  | [x, y, z, u], _ => exact k x y z u

/-! abstract values, owned objects -/
inductive AV where
  | none
  | bool (b : Bool)
  | int (i : Int)
  | str (l : List Nat)
  | tup (l : List AV)
  | rng (a b c : Int)
  | ref (a : Addr)
  | bi (id : String)
  | ty (n : String)

abbrev tupObj (vs : List Value) (n : Nat) : Obj := ⟨.type "tuple", Option.none, .seq vs.toArray n, #[]⟩
abbrev rngObj (a b c : Int) (t u w : Tok) : Obj := ⟨.type "range", Option.none, .fields #[.int a t, .int b u, .int c w], #[]⟩
abbrev listObj (vs : List Value) (n : Nat) : Obj := ⟨.type "list", Option.none, .seq vs.toArray n, #[]⟩

mutual
def VR (h : Heap) : AV → Value → Prop
  | .none, v => v = .none
  | .bool b, v => v = .bool b
  | .int i, v => ∃ t, v = .int i t
  | .str l, v => ∃ t, v = .str ⟨l.toArray⟩ t
  | .tup l, v => ∃ a vs n, v = .ref a ∧ h.get? a = some (tupObj vs n) ∧ VRs h l vs
  | .rng a b c, v => ∃ r t u w, v = .ref r ∧ h.get? r = some (rngObj a b c t u w)
  | .ref a, v => v = .ref a
  | .bi id, v => v = .builtin id
  | .ty n, v => v = .type n
def VRs (h : Heap) : List AV → List Value → Prop
  | [], vs => vs = []
  | x :: l, vs => ∃ v r, vs = v :: r ∧ VR h x v ∧ VRs h l r
end

theorem VRs.length {h : Heap} : ∀ {l : List AV} {vs : List Value}, VRs h l vs → vs.length = l.length
  | [], _, e => by rw [VRs] at e; subst e; rfl
  | _ :: _, _, e => by rw [VRs] at e; obtain ⟨v, r, rfl, _, q⟩ := e; simp [VRs.length q]

theorem VRs.get {h : Heap} : ∀ {l : List AV} {vs : List Value} {i : Nat} {x : AV}, VRs h l vs → l[i]? = some x → ∃ v, vs[i]? = some v ∧ VR h x v
  | [], _, _, _, _, e => by simp at e
  | y :: l, _, 0, x, q, e => by
    rw [VRs] at q; obtain ⟨v, r, rfl, a, _⟩ := q
    simp only [List.getElem?_cons_zero, Option.some.injEq] at e; subst e
    exact ⟨v, rfl, a⟩
  | y :: l, _, i + 1, x, q, e => by
    rw [VRs] at q; obtain ⟨v, r, rfl, _, q⟩ := q
    simp only [List.getElem?_cons_succ] at e ⊢
    exact VRs.get q e

theorem VRs.append {h : Heap} : ∀ {l l' : List AV} {vs vs' : List Value}, VRs h l vs → VRs h l' vs' → VRs h (l ++ l') (vs ++ vs')
  | [], _, _, _, a, b => by rw [VRs] at a; subst a; exact b
  | _ :: _, _, _, _, a, b => by
    rw [VRs] at a; obtain ⟨v, r, rfl, x, q⟩ := a
    rw [List.cons_append, VRs]; exact ⟨v, _, rfl, x, VRs.append q b⟩

theorem VRs.split {h : Heap} : ∀ {l l' : List AV} {vs : List Value}, VRs h (l ++ l') vs → ∃ a b, vs = a ++ b ∧ VRs h l a ∧ VRs h l' b
  | [], _, vs, q => ⟨[], vs, rfl, by rw [VRs], q⟩
  | x :: l, l', vs, q => by
    rw [List.cons_append, VRs] at q
    obtain ⟨v, r, rfl, x, q⟩ := q
    obtain ⟨a, b, rfl, qa, qb⟩ := VRs.split q
    exact ⟨v :: a, b, rfl, by rw [VRs]; exact ⟨v, a, rfl, x, qa⟩, qb⟩

theorem VRs.drop {h : Heap} {l : List AV} {vs : List Value} (q : VRs h l vs) (i : Nat) : VRs h (l.drop i) (vs.drop i) := by
  induction i generalizing l vs with
  | zero => exact q
  | succ i ih =>
    cases l with
    | nil => rw [VRs] at q; subst q; simp only [List.drop_nil]; rw [VRs]
    | cons x l => rw [VRs] at q; obtain ⟨v, r, rfl, _, q⟩ := q; exact ih q
theorem VRs.take {h : Heap} {l : List AV} {vs : List Value} (q : VRs h l vs) (i : Nat) : VRs h (l.take i) (vs.take i) := by
  induction i generalizing l vs with
  | zero => simp only [List.take_zero]; rw [VRs]
  | succ i ih =>
    cases l with
    | nil => rw [VRs] at q; subst q; simp only [List.take_nil]; rw [VRs]
    | cons x l => rw [VRs] at q; obtain ⟨v, r, rfl, a, q⟩ := q; simp only [List.take_succ_cons]; rw [VRs]; exact ⟨v, _, rfl, a, ih q⟩

/-- a heap keeps (up to the slots of frames in K) what lies off F -/
def Sp (K F : List Addr) (h h' : Heap) : Prop :=
  ∀ a o, a ∉ F → h.get? a = some o → (a ∉ K → h'.get? a = some o) ∧ ∃ sl, h'.get? a = some { o with slots := sl }

theorem Sp.refl {K F : List Addr} {h : Heap} : Sp K F h h := fun _ o _ e => ⟨fun _ => e, o.slots, e⟩
theorem Sp.of_keep {K F : List Addr} {h h' : Heap} (k : ∀ a o, a ∉ F → h.get? a = some o → h'.get? a = some o) : Sp K F h h' :=
  fun a o f e => ⟨fun _ => k a o f e, o.slots, k a o f e⟩
theorem Sp.trans {K F G : List Addr} {h h' h'' : Heap} (x : Sp K F h h') (y : Sp K G h' h'') (hg : ∀ a o, a ∉ F → h.get? a = some o → a ∉ G) : Sp K F h h'' := by
  intro a o f e
  obtain ⟨p, sl, q⟩ := x a o f e
  have g := hg a o f e
  refine ⟨fun k => (y a o g (p k)).1 k, ?_⟩
  obtain ⟨_, sl', q'⟩ := y a _ g q
  exact ⟨sl', q'⟩
theorem Sp.get {K F : List Addr} {h h' : Heap} {a : Addr} {o : Obj} (x : Sp K F h h') (e : h.get? a = some o) (f : a ∉ F) (k : a ∉ K) : h'.get? a = some o := (x a o f e).1 k

/-- what never turns -/
inductive Imm : Obj → Prop
  | tup (xs : Array Value) (n : Nat) (sl : Array (Option Value)) : Imm ⟨.type "tuple", Option.none, .seq xs n, sl⟩
  | rng (a b c : Int) (t u w : Tok) (sl : Array (Option Value)) : Imm ⟨.type "range", Option.none, .fields #[.int a t, .int b u, .int c w], sl⟩
def NT (o : Obj) : Prop := ¬ Imm o
theorem NT.of_cls {o : Obj} (h : o.cls ≠ .type "tuple") (h' : o.cls ≠ .type "range") : NT o := fun z => by cases z; exact h rfl; exact h' rfl
theorem NT.of_many {o : Obj} {vs : Array Value} (h : o.data = .fields vs) (hs : 3 < vs.size) : NT o := fun z => by
  cases z
  · cases h
  · cases h; exact absurd hs (by simp)
theorem NT.of_dict {o : Obj} {es ep} (h : o.data = .dict es ep) : NT o := fun z => by cases z <;> cases h
theorem NT.of_cell {o : Obj} {v} (h : o.data = .cell v) : NT o := fun z => by cases z <;> cases h
theorem NT.slots {o : Obj} (h : NT o) (sl : Array (Option Value)) : NT { o with slots := sl } := fun z => h (by
  obtain ⟨c, d, dt, s0⟩ := o
  cases z <;> constructor)
def NoTup (h : Heap) (F : List Addr) : Prop := ∀ a ∈ F, ∀ o, h.get? a = some o → NT o
theorem NoTup.nil {h : Heap} : NoTup h [] := fun _ q => nomatch q

mutual
theorem VR.mono {K F : List Addr} {h h' : Heap} (x : Sp K F h h') (n : NoTup h F) (nK : NoTup h K := by first | assumption | exact NoTup.nil) : ∀ {av : AV} {v : Value}, VR h av v → VR h' av v
  | .none, _, e => by rw [VR] at *; exact e
  | .bool _, _, e => by rw [VR] at *; exact e
  | .int _, _, e => by rw [VR] at *; exact e
  | .str _, _, e => by rw [VR] at *; exact e
  | .tup l, v, e => by
    rw [VR] at *
    obtain ⟨a, vs, m, rfl, g, q⟩ := e
    exact ⟨a, vs, m, rfl, x.get g (fun f => n a f _ g (.tup ..)) (fun f => nK a f _ g (.tup ..)), VRs.mono x n nK q⟩
  | .rng _ _ _, v, e => by
    rw [VR] at *
    obtain ⟨r, t, u, w, rfl, g⟩ := e
    exact ⟨r, t, u, w, rfl, x.get g (fun f => n r f _ g (.rng ..)) (fun f => nK r f _ g (.rng ..))⟩
  | .ref _, _, e => by rw [VR] at *; exact e
  | .bi _, _, e => by rw [VR] at *; exact e
  | .ty _, _, e => by rw [VR] at *; exact e
theorem VRs.mono {K F : List Addr} {h h' : Heap} (x : Sp K F h h') (n : NoTup h F) (nK : NoTup h K := by first | assumption | exact NoTup.nil) : ∀ {l : List AV} {vs : List Value}, VRs h l vs → VRs h' l vs
  | [], _, e => by rw [VRs] at *; exact e
  | _ :: _, _, e => by
    rw [VRs] at *
    obtain ⟨v, r, rfl, a, q⟩ := e
    exact ⟨v, r, rfl, VR.mono x n nK a, VRs.mono x n nK q⟩
end

/-- owned objects -/
inductive AO where
  | list (l : List AV)
  | iter (lst : Addr) (l : List AV)
  | inst (C dx : Addr) (fs : List (String × AV))
  | raw (o : Obj)

def foot (a : Addr) : AO → List Addr
  | .list _ => [a]
  | .iter lst _ => [a, lst]
  | .inst _ dx _ => [a, dx]
  | .raw _ => [a]

def feet (own : List (Addr × AO)) : List Addr := own.flatMap fun p => foot p.1 p.2
theorem feet_nil : feet [] = [] := rfl
theorem feet_cons (a : Addr) (o : AO) (r : List (Addr × AO)) : feet ((a, o) :: r) = foot a o ++ feet r := rfl
theorem feet_append (l r : List (Addr × AO)) : feet (l ++ r) = feet l ++ feet r := by unfold feet; rw [List.flatMap_append]

/-- the entries of an object's dict -/
def ES (h : Heap) : List (String × AV) → List DictEntry → Prop
  | [], es => es = []
  | p :: l, es => ∃ e r t, es = e :: r ∧ e.key = .str (Str.ofString p.1) t ∧ VR h p.2 e.val ∧ ES h l r

def OR (h : Heap) (a : Addr) : AO → Prop
  | .list l => ∃ vs n, h.get? a = some (listObj vs n) ∧ VRs h l vs
  | .iter lst l => ∃ vs n i, h.IsListIter a lst i ∧ h.get? lst = some (listObj vs n) ∧ VRs h l (vs.drop i)
  | .inst C dx fs => ∃ es n, h.get? a = some ⟨.ref C, some dx, .plain, #[]⟩ ∧ h.get? dx = some (dictOf es n) ∧ fs.length ≤ 20 ∧ ES h fs es
  | .raw o => h.get? a = some o ∧ NT o

theorem OR.noTup {h : Heap} {a : Addr} {ao : AO} (r : OR h a ao) : NoTup h (foot a ao) := by
  intro b hb o e
  cases ao with
  | list l =>
    obtain ⟨vs, n, g, _⟩ := r
    simp only [foot, List.mem_singleton] at hb; subst hb
    rw [g] at e; cases e; exact .of_cls (by simp) (by simp)
  | iter lst l =>
    obtain ⟨vs, n, i, ⟨oi, gi, ci, _⟩, g, _⟩ := r
    simp only [foot, List.mem_cons, List.not_mem_nil, or_false] at hb
    rcases hb with rfl | rfl
    · rw [gi] at e; cases e; exact .of_cls (by rw [ci]; simp) (by rw [ci]; simp)
    · rw [g] at e; cases e; exact .of_cls (by simp) (by simp)
  | inst C dx fs =>
    obtain ⟨es, n, g1, g2, _⟩ := r
    simp only [foot, List.mem_cons, List.not_mem_nil, or_false] at hb
    rcases hb with rfl | rfl
    · rw [g1] at e; cases e; exact .of_cls (by simp) (by simp)
    · rw [g2] at e; cases e; exact .of_cls (by simp) (by simp)
  | raw o' =>
    obtain ⟨g, c⟩ := r
    simp only [foot, List.mem_singleton] at hb; subst hb
    rw [g] at e; cases e; exact c

theorem OR.here {h : Heap} {a : Addr} {ao : AO} (r : OR h a ao) : ∀ b ∈ foot a ao, ∃ o, h.get? b = some o := by
  intro b hb
  cases ao with
  | list l =>
    obtain ⟨vs, n, g, _⟩ := r
    simp only [foot, List.mem_singleton] at hb; subst hb; exact ⟨_, g⟩
  | iter lst l =>
    obtain ⟨vs, n, i, ⟨oi, gi, ci, _⟩, g, _⟩ := r
    simp only [foot, List.mem_cons, List.not_mem_nil, or_false] at hb
    rcases hb with rfl | rfl
    · exact ⟨_, gi⟩
    · exact ⟨_, g⟩
  | inst C dx fs =>
    obtain ⟨es, n, g1, g2, _⟩ := r
    simp only [foot, List.mem_cons, List.not_mem_nil, or_false] at hb
    rcases hb with rfl | rfl
    · exact ⟨_, g1⟩
    · exact ⟨_, g2⟩
  | raw o' =>
    simp only [foot, List.mem_singleton] at hb; subst hb; exact ⟨_, r.1⟩

theorem ES.mono {K F : List Addr} {h h' : Heap} (x : Sp K F h h') (n : NoTup h F) (nK : NoTup h K := by first | assumption | exact NoTup.nil) : ∀ {fs : List (String × AV)} {es : List DictEntry}, ES h fs es → ES h' fs es
  | [], _, q => q
  | p :: l, es, q => by
    obtain ⟨e, r, t, rfl, a, b, d⟩ := q
    exact ⟨e, r, t, rfl, a, b.mono x n nK, ES.mono x n nK d⟩

theorem OR.mono {K F : List Addr} {h h' : Heap} {a : Addr} {ao : AO} (x : Sp K F h h') (n : NoTup h F) (r : OR h a ao) (hf : ∀ b ∈ foot a ao, b ∉ F ∧ b ∉ K) (nK : NoTup h K := by first | assumption | exact NoTup.nil) : OR h' a ao := by
  have k : ∀ b ∈ foot a ao, ∀ o, h.get? b = some o → h'.get? b = some o := fun b hb o e => x.get e (hf b hb).1 (hf b hb).2
  cases ao with
  | list l =>
    obtain ⟨vs, m, g, q⟩ := r
    exact ⟨vs, m, k a (by simp [foot]) _ g, q.mono x n nK⟩
  | iter lst l =>
    obtain ⟨vs, m, i, ⟨oi, gi, ci, di⟩, g, q⟩ := r
    exact ⟨vs, m, i, ⟨oi, k a (by simp [foot]) _ gi, ci, di⟩, k lst (by simp [foot]) _ g, q.mono x n nK⟩
  | inst C dx fs =>
    obtain ⟨es, m, g1, g2, hl, q⟩ := r
    exact ⟨es, m, k a (by simp [foot]) _ g1, k dx (by simp [foot]) _ g2, hl, q.mono x n nK⟩
  | raw o => exact ⟨k a (by simp [foot]) _ r.1, r.2⟩

/-! contexts, states -/
structure Cx where
  prog : Program
  w : World
  b0 : Heap
  A : Around
  env : Env
  fr : List Addr
  fx : List Addr
  K : List Addr

structure St where
  loc : List (String × AV)
  own : List (Addr × AO)

abbrev Cx.kind (c : Cx) (x : String) : Option NameKind := c.env.kindOf (Str.ofString x)

def LocAt (c : Cx) (h : Heap) (m : Str → Option Value) (x : String) (av : AV) : Prop :=
  (c.kind x = some .local ∧ ∃ v, m (Str.ofString x) = some v ∧ VR h av v) ∨
  ((c.kind x = some .cell ∨ c.kind x = some .free) ∧ ∃ a v, c.env.cells.lookup (Str.ofString x) = some a ∧ (a ∈ c.fr ∨ a ∈ c.fx) ∧ a ≠ c.env.locals ∧ h.IsCell a (some v) ∧ VR h av v)

structure Rep (c : Cx) (σ : St) (h : Heap) : Prop where
  ns : ∃ m, h.Ns c.env.locals m ∧ ∀ x av, σ.loc.lookup x = some av → LocAt c h m x av
  lin : c.env.locals ∈ c.fr
  cel : ∀ x a, c.kind x = some .cell → c.env.cells.lookup (Str.ofString x) = some a → a ∈ c.fr → a ≠ c.env.locals ∧ ∃ v, h.IsCell a v
  inj : ∀ x y a, c.env.cells.lookup (Str.ofString x) = some a → c.env.cells.lookup (Str.ofString y) = some a → x = y
  own : ∀ p ∈ σ.own, OR h p.1 p.2
  nd : (c.fr ++ (c.fx ++ feet σ.own)).Nodup
  nk : ∀ a ∈ c.fr ++ (c.fx ++ feet σ.own), a ∉ c.K ∧ c.b0.get? a = none
  frc : ∀ a ∈ c.fr, ∃ o, h.get? a = some o ∧ NT o
  kb : ∀ a o, c.b0.get? a = some o → h.get? a = some o
  kn : ∀ a ∈ c.K, c.b0.get? a = none
  kh : ∀ a ∈ c.K ++ c.fx, ∃ o, h.get? a = some o ∧ NT o
  ff : ∀ l, c.A.frames = some l → h.FunFrames c.b0 l ∧ ∀ a ∈ l.filterMap (·.frame), a ∈ c.fr ++ c.K

structure Aft (c : Cx) (σ : St) (s : Shared) (σ' : St) (s' : Shared) : Prop where
  rest : s' = { s with heap := s'.heap, toks := s'.toks }
  sp : Sp c.K (c.fr ++ feet σ.own) s.heap s'.heap
  al : ∀ a o, a ∉ feet σ.own → s.heap.get? a = some o → ∃ o', s'.heap.get? a = some o'
  fs : ∀ a ∈ feet σ'.own, a ∈ feet σ.own ∨ s.heap.get? a = none

theorem Rep.noTup {c : Cx} {σ : St} {h : Heap} (r : Rep c σ h) : NoTup h (c.fr ++ feet σ.own) := by
  intro a ha o e
  rcases List.mem_append.mp ha with q | q
  · obtain ⟨o', e', k⟩ := r.frc a q
    rw [e] at e'; cases e'; exact k
  · obtain ⟨p, hp, hb⟩ := List.mem_flatMap.mp q
    exact (r.own p hp).noTup a hb o e

theorem Rep.noTupK {c : Cx} {σ : St} {h : Heap} (r : Rep c σ h) : NoTup h c.K := by
  intro a ha o e
  obtain ⟨o', e', k⟩ := r.kh a (List.mem_append_left _ ha)
  rw [e] at e'; cases e'; exact k

theorem Rep.here {c : Cx} {σ : St} {h : Heap} (r : Rep c σ h) : ∀ a ∈ c.fr ++ feet σ.own, ∃ o, h.get? a = some o := by
  intro a ha
  rcases List.mem_append.mp ha with q | q
  · obtain ⟨o', e', _⟩ := r.frc a q; exact ⟨o', e'⟩
  · obtain ⟨p, hp, hb⟩ := List.mem_flatMap.mp q
    exact (r.own p hp).here a hb

theorem Aft.refl {c : Cx} {σ : St} {s : Shared} : Aft c σ s σ s := ⟨rfl, .refl, fun _ o _ e => ⟨o, e⟩, fun _ h => .inl h⟩
theorem Aft.trans {c : Cx} {σ σ' σ'' : St} {s s' s'' : Shared} (x : Aft c σ s σ' s') (y : Aft c σ' s' σ'' s'') : Aft c σ s σ'' s'' := by
  refine ⟨?_, x.sp.trans y.sp fun a o f e => ?_, fun a o n e => ?_, fun a ha => ?_⟩
  · have e1 := x.rest; have e2 := y.rest
    rw [e2]; rw [e1]
  · intro g
    rcases List.mem_append.mp g with g | g
    · exact f (List.mem_append_left _ g)
    · rcases x.fs a g with g | g
      · exact f (List.mem_append_right _ g)
      · rw [e] at g; cases g
  · obtain ⟨o', e'⟩ := x.al a o n e
    refine y.al a o' (fun z => ?_) e'
    rcases x.fs a z with z | z
    · exact n z
    · rw [e] at z; cases z
  · rcases y.fs a ha with q | q
    · exact x.fs a q
    · by_cases n : a ∈ feet σ.own
      · exact .inl n
      right
      cases e : s.heap.get? a with
      | none => rfl
      | some o => obtain ⟨o', e'⟩ := x.al a o n e; rw [q] at e'; cases e'

/-- a state: the heap as told, and tokens are being given -/
structure RepS (c : Cx) (σ : St) (s : Shared) : Prop extends Rep c σ s.heap where
  tp : 1 ≤ s.toks

theorem VR.after {c : Cx} {σ σ' : St} {s s' : Shared} {av : AV} {v : Value} (r : RepS c σ s) (x : Aft c σ s σ' s') (q : VR s.heap av v) : VR s'.heap av v := q.mono x.sp r.noTup r.noTupK
theorem VRs.after {c : Cx} {σ σ' : St} {s s' : Shared} {l : List AV} {vs : List Value} (r : RepS c σ s) (x : Aft c σ s σ' s') (q : VRs s.heap l vs) : VRs s'.heap l vs := q.mono x.sp r.noTup r.noTupK

abbrev XP := Value → St → Shared → Prop
def noX : XP := fun _ _ _ => False

def Kq {α β : Type} (c : Cx) (σ : St) (s : Shared) (V : Heap → β → α → Prop) (Φ : β → St → Prop) (Q : α → Shared → Prop) : Prop :=
  ∀ a x σ' s', RepS c σ' s' → Aft c σ s σ' s' → V s'.heap x a → Φ x σ' → Q a s'
def Kx (c : Cx) (σ : St) (s : Shared) (X : XP) (E : Value → Shared → Prop) : Prop :=
  ∀ e σ' s', RepS c σ' s' → Aft c σ s σ' s' → X e σ' s' → E e s'
theorem Kq.go {α β : Type} {c : Cx} {σ σ₁ : St} {s s₁ : Shared} {V : Heap → β → α → Prop} {Φ : β → St → Prop} {Q : α → Shared → Prop} (q : Kq c σ s V Φ Q) (f : Aft c σ s σ₁ s₁) : Kq c σ₁ s₁ V Φ Q :=
  fun a x σ' s' r f' v p => q a x σ' s' r (f.trans f') v p
theorem Kx.go {c : Cx} {σ σ₁ : St} {s s₁ : Shared} {X : XP} {E : Value → Shared → Prop} (q : Kx c σ s X E) (f : Aft c σ s σ₁ s₁) : Kx c σ₁ s₁ X E :=
  fun e σ' s' r f' p => q e σ' s' r (f.trans f') p

abbrev T0 : Heap → Prop := fun _ => True
def Tri {α β : Type} (c : Cx) (P : Heap → Prop) (t : Sem α) (V : Heap → β → α → Prop) (σ : St) (Φ : β → St → Prop) (X : XP) : Prop :=
  ∀ s, RepS c σ s → P s.heap → ∀ (Q : α → Shared → Prop) (E : Value → Shared → Prop), Kq c σ s V Φ Q → Kx c σ s X E → wpAny (model c.prog c.w) c.A t Q E s

abbrev Ev (c : Cx) (e : Expr) (σ : St) (Φ : AV → St → Prop) (X : XP) : Prop := Tri c T0 (eval e c.env) VR σ Φ X

def KqH {α β : Type} (c : Cx) (σ : St) (s : Shared) (V : Heap → β → α → Prop) (Φ : β → St → Prop) (Q : α → Shared → Prop) : Prop :=
  ∀ a x σ' s', Rep c σ' s'.heap → Aft c σ s σ' s' → V s'.heap x a → Φ x σ' → Q a s'
theorem Tri.ofH {α β : Type} {c : Cx} {P : Heap → Prop} {t : Sem α} {V : Heap → β → α → Prop} {σ : St} {Φ : β → St → Prop} {X : XP}
    (h : ∀ s, RepS c σ s → P s.heap → ∀ (Q : α → Shared → Prop) (E : Value → Shared → Prop), KqH c σ s V Φ Q → Kx c σ s X E → wpAny (model c.prog c.w) c.A t Q E s) : Tri c P t V σ Φ X :=
  fun s r p Q E q x => wpAny_with_toks r.tp (h s r p _ _ (fun a y σ' s' r' f v φ tk => q a y σ' s' ⟨r', tk⟩ f v φ) (fun e σ' s' r' f y _ => x e σ' s' r' f y))
theorem Tri.mono {α β : Type} {c : Cx} {P : Heap → Prop} {t : Sem α} {V : Heap → β → α → Prop} {σ : St} {Φ Φ' : β → St → Prop} {X : XP} (h : Tri c P t V σ Φ X) (k : ∀ x σ', Φ x σ' → Φ' x σ') : Tri c P t V σ Φ' X :=
  fun s r p Q E q x => h s r p Q E (fun a y σ' s' r' f v p => q a y σ' s' r' f v (k y σ' p)) x

theorem Aft.keep {c : Cx} {σ : St} {s : Shared} {h' : Heap} {tk : Nat} (k : ∀ a o, s.heap.get? a = some o → h'.get? a = some o) : Aft c σ s σ { s with heap := h', toks := tk } :=
  ⟨rfl, Sp.of_keep fun a o _ e => k a o e, fun a o _ e => ⟨o, k a o e⟩, fun _ h => .inl h⟩
theorem LocAt.keep {c : Cx} {h h' : Heap} {m : Str → Option Value} {x : String} {av : AV} (k : ∀ a o, h.get? a = some o → h'.get? a = some o) (q : LocAt c h m x av) : LocAt c h' m x av := by
  have sp : Sp [] [] h h' := Sp.of_keep fun a o _ e => k a o e
  have nt : NoTup h [] := fun _ h => nomatch h
  rcases q with ⟨a, v, b, d⟩ | ⟨a, ad, v, b, d, e, ⟨o, g, i⟩, f⟩
  · exact .inl ⟨a, v, b, d.mono sp nt⟩
  · exact .inr ⟨a, ad, v, b, d, e, ⟨o, k _ _ g, i⟩, f.mono sp nt⟩

theorem Rep.keep {c : Cx} {σ : St} {h h' : Heap} (r : Rep c σ h) (k : ∀ a o, h.get? a = some o → h'.get? a = some o) : Rep c σ h' := by
  obtain ⟨⟨m, hn, hl⟩, lin, cel, inj, own, nd, nk, frc, kb, kn, kh, ff⟩ := r
  have sp : Sp [] [] h h' := Sp.of_keep fun a o _ e => k a o e
  have nt : NoTup h [] := fun _ h => nomatch h
  refine ⟨⟨m, hn.keeps k, fun x av e => (hl x av e).keep k⟩, lin, fun x a e1 e2 e3 => ?_, inj, fun p hp => (own p hp).mono sp nt fun b _ => ⟨by simp, by simp⟩, nd, nk, fun a ha => ?_, fun a o e => k a o (kb a o e), kn, fun a ha => let ⟨o, e, t⟩ := kh a ha; ⟨o, k a o e, t⟩, fun l e => ?_⟩
  · obtain ⟨n, v, o, g, i⟩ := cel x a e1 e2 e3
    exact ⟨n, v, o, k _ _ g, i⟩
  · obtain ⟨o, g, i⟩ := frc a ha; exact ⟨o, k _ _ g, i⟩
  · exact ⟨(ff l e).1.of_keeps fun b o g _ => ⟨o, k b o g, rfl⟩, (ff l e).2⟩

/-- a step that makes nothing of what is known new -/
theorem Tri.pureStep {α β : Type} {c : Cx} {P : Heap → Prop} {t : Sem α} {V : Heap → β → α → Prop} {σ : St} {Φ : β → St → Prop} {X : XP} {x : β} (k : Φ x σ)
    (h : ∀ s, P s.heap → RepS c σ s → ∀ (Q : α → Shared → Prop) (E : Value → Shared → Prop), (∀ a h' tk, (∀ b o, s.heap.get? b = some o → h'.get? b = some o) → V h' x a → Q a { s with heap := h', toks := tk }) → wpAny (model c.prog c.w) c.A t Q E s) :
    Tri c P t V σ Φ X :=
  Tri.ofH fun s r p Q E q _ => h s p r Q E fun a h' tk kk v => q a x σ _ (r.keep kk) (Aft.keep kk) v k

theorem loc_of {c : Cx} {σ : St} {h : Heap} (r : Rep c σ h) {x : String} {av : AV} (e : σ.loc.lookup x = some av) : ∃ m, h.Ns c.env.locals m ∧ LocAt c h m x av :=
  let ⟨m, hn, hl⟩ := r.ns; ⟨m, hn, hl x av e⟩

theorem loadLoc {c : Cx} {x : String} {av : AV} {σ : St} {Φ : AV → St → Prop} {X : XP} (e : σ.loc.lookup x = some av) (hk : c.env.scope.kind = .function) (hc : (Str.ofString x == Str.ofString "__classdict__") = false) (k : Φ av σ) :
    Tri c T0 (loadName c.env (Str.ofString x)) VR σ Φ X := by
  refine Tri.pureStep k fun s _ r Q E q => ?_
  obtain ⟨m, hn, hl⟩ := loc_of r.toRep e
  rcases hl with ⟨a, v, b, d⟩ | ⟨a, ad, v, b, _, _, f, g⟩
  · exact wpAny_loadName_local hk a hn b (q v s.heap s.toks (fun _ _ e => e) d)
  · rcases a with a | a
    · exact wpAny_loadName_cell hk a b f (q v s.heap s.toks (fun _ _ e => e) g)
    · exact wpAny_loadName_free hk a b f (q v s.heap s.toks (fun _ _ e => e) g) hc

theorem Ev.name {c : Cx} {x : String} {pos : Pos} {av : AV} {σ : St} {Φ : AV → St → Prop} {X : XP} (e : σ.loc.lookup x = some av) (k : Φ av σ)
    (hk : c.env.scope.kind = .function := by rfl) (hc : (Str.ofString x == Str.ofString "__classdict__") = false := by decide) (hd : (Str.ofString x == Str.ofString "__debug__") = false := by decide) :
    Ev c (.Name (Str.ofString x) pos) σ Φ X := fun s r p Q E q xx => wpAny_Name (loadLoc e hk hc k s r p Q E q xx) hd

theorem Ev.glob {c : Cx} {x : Str} {pos : Pos} {v : Value} {av : AV} {mg : Str → Option Value} {σ : St} {Φ : AV → St → Prop} {X : XP} (hg : c.b0.Ns c.env.globals mg) (hv : mg x = some v) (ha : ∀ h, VR h av v) (k : Φ av σ)
    (hk : c.env.scope.kind = .function := by rfl) (hx : c.env.kindOf x = some .globalImplicit := by rfl) (hd : (x == Str.ofString "__debug__") = false := by decide) :
    Ev c (.Name x pos) σ Φ X :=
  Tri.pureStep k fun s _ r Q E q => Name_function_global hk hx (loadGlobal_global (hg.keeps r.kb) hv (q v s.heap s.toks (fun _ _ e => e) (ha _))) hd

theorem Ev.built {c : Cx} {x : Str} {pos : Pos} {v : Value} {av : AV} {mg mb : Str → Option Value} {σ : St} {Φ : AV → St → Prop} {X : XP} (hg : c.b0.Ns c.env.globals mg) (hm : mg x = none) (hb : c.b0.Ns c.env.builtins mb) (hv : mb x = some v) (ha : ∀ h, VR h av v) (k : Φ av σ)
    (hk : c.env.scope.kind = .function := by rfl) (hx : c.env.kindOf x = some .globalImplicit := by rfl) (hd : (x == Str.ofString "__debug__") = false := by decide) :
    Ev c (.Name x pos) σ Φ X :=
  Tri.pureStep k fun s _ r Q E q => Name_function_global hk hx (loadGlobal_builtin (hg.keeps r.kb) hm (hb.keeps r.kb) hv (q v s.heap s.toks (fun _ _ e => e) (ha _))) hd

theorem Ev.int {c : Cx} {i : Int} {k : Nat} {pos : Pos} {σ : St} {Φ : AV → St → Prop} {X : XP} (h : Φ (.int i) σ) : Ev c (.Constant (.int i) k pos) σ Φ X :=
  Tri.pureStep h fun s _ _ _ _ q => wpAny_Constant_int (q _ s.heap _ (fun _ _ e => e) (by rw [VR]; exact ⟨_, rfl⟩))
theorem Ev.str {c : Cx} {x : Str} {k : Nat} {pos : Pos} {σ : St} {Φ : AV → St → Prop} {X : XP} (h : Φ (.str x.cps.toList) σ) : Ev c (.Constant (.str x) k pos) σ Φ X :=
  Tri.pureStep h fun s _ _ _ _ q => wpAny_Constant_str (q _ s.heap _ (fun _ _ e => e) (by rw [VR]; exact ⟨_, rfl⟩))
theorem Ev.none {c : Cx} {k : Nat} {pos : Pos} {σ : St} {Φ : AV → St → Prop} {X : XP} (h : Φ .none σ) : Ev c (.Constant .none k pos) σ Φ X :=
  Tri.pureStep h fun s _ _ _ _ q => wpAny_Constant_none (q _ s.heap s.toks (fun _ _ e => e) (by rw [VR]))
theorem Ev.bool {c : Cx} {b : Bool} {k : Nat} {pos : Pos} {σ : St} {Φ : AV → St → Prop} {X : XP} (h : Φ (.bool b) σ) : Ev c (.Constant (.bool b) k pos) σ Φ X :=
  Tri.pureStep h fun s _ _ _ _ q => wpAny_Constant_bool (q _ s.heap s.toks (fun _ _ e => e) (by rw [VR]))

/-- an operation on two pending values -/
abbrev Op2 (c : Cx) (f : Value → Value → Sem Value) (a b : AV) (σ : St) (Φ : AV → St → Prop) (X : XP) : Prop := ∀ v w, Tri c (fun h => VR h a v ∧ VR h b w) (f v w) VR σ Φ X
abbrev Op1 (c : Cx) (f : Value → Sem Value) (a : AV) (σ : St) (Φ : AV → St → Prop) (X : XP) : Prop := ∀ v, Tri c (fun h => VR h a v) (f v) VR σ Φ X

theorem two {c : Cx} {l r : Expr} {f : Value → Value → Sem Value} {σ : St} {Φ : AV → St → Prop} {X : XP} {s : Shared} {Q : Value → Shared → Prop} {E : Value → Shared → Prop}
    (h : Ev c l σ (fun a σ₁ => Ev c r σ₁ (fun b σ₂ => Op2 c f a b σ₂ Φ X) X) X) (rp : RepS c σ s) (q : Kq c σ s VR Φ Q) (x : Kx c σ s X E) :
    wpAny (model c.prog c.w) c.A (eval l c.env) (fun a s₁ => wpAny (model c.prog c.w) c.A (eval r c.env) (fun b s₂ => wpAny (model c.prog c.w) c.A (f a b) Q E s₂) E s₁) E s :=
  h s rp trivial _ _ (fun _ _ _ s₁ r₁ f₁ va h₁ => h₁ s₁ r₁ trivial _ _ (fun _ _ _ s₂ r₂ f₂ wb h₂ => h₂ _ _ s₂ r₂ ⟨va.after r₁ f₂, wb⟩ Q E ((q.go f₁).go f₂) ((x.go f₁).go f₂)) (x.go f₁)) x

theorem Ev.binop {c : Cx} {l r : Expr} {op : Operator} {pos : Pos} {σ : St} {Φ : AV → St → Prop} {X : XP}
    (h : Ev c l σ (fun a σ₁ => Ev c r σ₁ (fun b σ₂ => Op2 c (binaryOp op) a b σ₂ Φ X) X) X) : Ev c (.BinOp l op r pos) σ Φ X :=
  fun _ rp _ _ _ q x => wpAny_BinOp (two h rp q x)
theorem Ev.cmp {c : Cx} {l r : Expr} {op : CmpOp} {pos : Pos} {σ : St} {Φ : AV → St → Prop} {X : XP}
    (h : Ev c l σ (fun a σ₁ => Ev c r σ₁ (fun b σ₂ => Op2 c (compareOp op) a b σ₂ Φ X) X) X) (hm : behindInMarks op r = false := by with_unfolding_all rfl) : Ev c (.Compare l [op] [r] pos) σ Φ X :=
  fun _ rp _ _ _ q x => wpAny_Compare1 (two h rp q x) hm
theorem Ev.unary {c : Cx} {l : Expr} {op : UnaryOp} {pos : Pos} {σ : St} {Φ : AV → St → Prop} {X : XP}
    (h : Ev c l σ (fun a σ₁ => Op1 c (unaryOp op) a σ₁ Φ X) X) : Ev c (.UnaryOp op l pos) σ Φ X :=
  fun s rp _ Q E q x => wpAny_UnaryOp (h s rp trivial _ _ (fun _ _ _ s₁ r₁ f₁ va h₁ => h₁ _ s₁ r₁ va Q E (q.go f₁) (x.go f₁)) x)

/-- operations on ints -/
theorem Op2.add {c : Cx} {a b : Int} {σ : St} {Φ : AV → St → Prop} {X : XP} (k : Φ (.int (a + b)) σ) : Op2 c (binaryOp .Add) (.int a) (.int b) σ Φ X := fun v w =>
  Tri.pureStep k fun s p _ _ _ q => by
    obtain ⟨p1, p2⟩ := p; rw [VR] at p1 p2; obtain ⟨t, rfl⟩ := p1; obtain ⟨u, rfl⟩ := p2
    exact add_int (q _ s.heap _ (fun _ _ e => e) (by rw [VR]; exact ⟨_, rfl⟩))


theorem ofString_inj {x y : String} (h : Str.ofString x = Str.ofString y) : x = y := by
  rw [Str.ofString_eq_toList, Str.ofString_eq_toList] at h
  have h1 : x.toList.map Char.toNat = y.toList.map Char.toNat := by
    have := congrArg Str.cps h; exact congrArg Array.toList this
  have h2 : x.toList = y.toList := by
    refine (List.map_inj_right (f := Char.toNat) ?_).mp h1
    intro a b e; exact Char.toNat_inj.mp e
  rw [← String.ofList_toList (s := x), h2, String.ofList_toList]

def setL (x : String) (v : AV) : List (String × AV) → List (String × AV)
  | [] => [(x, v)]
  | (y, w) :: r => if x = y then (y, v) :: r else (y, w) :: setL x v r
theorem lookup_setL (x y : String) (v : AV) : ∀ l : List (String × AV), (setL x v l).lookup y = if y = x then some v else l.lookup y
  | [] => by
    simp only [setL, List.lookup_cons, List.lookup_nil]
    by_cases h : y = x
    · simp [h]
    · have : (y == x) = false := by simpa using h
      simp [this, h]
  | (z, w) :: r => by
    unfold setL
    by_cases h : x = z
    · subst h; rw [if_pos rfl]
      simp only [List.lookup_cons]
      by_cases q : y = x
      · simp [q]
      · have : (y == x) = false := by simpa using q
        simp [this, q]
    · rw [if_neg h]
      simp only [List.lookup_cons, lookup_setL x y v r]
      by_cases q : y = z
      · subst q; simp [Ne.symm h]
      · have : (y == z) = false := by simpa using q
        simp [this]

def St.set (σ : St) (x : String) (v : AV) : St := ⟨setL x v σ.loc, σ.own⟩

/-- the state behind a change that lies within G -/
theorem Rep.chg {c : Cx} {σ : St} {own' : List (Addr × AO)} {loc' : List (String × AV)} {h h' : Heap} {G : List Addr} (r : Rep c σ h)
    (hG : ∀ a ∈ G, a ∈ c.fr ++ feet σ.own) (sp : Sp [] G h h')
    (ns : ∃ m, h'.Ns c.env.locals m ∧ ∀ x av, loc'.lookup x = some av → LocAt c h' m x av)
    (cel : ∀ x a, c.kind x = some .cell → c.env.cells.lookup (Str.ofString x) = some a → a ∈ c.fr → ∃ v, h'.IsCell a v)
    (own : ∀ p ∈ own', OR h' p.1 p.2) (ft : feet own' = feet σ.own)
    (nf : ∀ a ∈ G, a ∈ c.fr → ∃ o, h'.get? a = some o ∧ NT o ∧ ∀ vs, o.data ≠ .fields vs)
    (nfr : ∀ l, c.A.frames = some l → ∀ a ∈ l.filterMap (·.frame), a ∉ feet σ.own) : Rep c ⟨loc', own'⟩ h' := by
  refine ⟨ns, r.lin, fun x a e1 e2 e3 => ⟨(r.cel x a e1 e2 e3).1, cel x a e1 e2 e3⟩, r.inj, own, by rw [ft]; exact r.nd, fun a ha => r.nk a (by rw [ft] at ha; exact ha), fun a ha => ?_, fun a o e => ?_, r.kn, fun a ha => ?_, fun l e => ⟨?_, (r.ff l e).2⟩⟩
  · by_cases g : a ∈ G
    · obtain ⟨o, x, y, _⟩ := nf a g ha; exact ⟨o, x, y⟩
    · obtain ⟨o, x, y⟩ := r.frc a ha; exact ⟨o, sp.get x g (by simp), y⟩
  · refine sp.get (r.kb a o e) (fun g => ?_) (by simp)
    have : a ∈ c.fr ++ (c.fx ++ feet σ.own) := by
      have := hG a g
      rcases List.mem_append.mp this with q | q
      · exact List.mem_append_left _ q
      · exact List.mem_append_right _ (List.mem_append_right _ q)
    rw [(r.nk a this).2] at e; cases e
  · obtain ⟨o, e, t⟩ := r.kh a ha
    refine ⟨o, sp.get e (fun g => ?_) (by simp), t⟩
    have : a ∈ c.fr ++ (c.fx ++ feet σ.own) := by
      have := hG a g
      rcases List.mem_append.mp this with q | q
      · exact List.mem_append_left _ q
      · exact List.mem_append_right _ (List.mem_append_right _ q)
    rcases List.mem_append.mp ha with z | z
    · exact (r.nk a this).1 z
    · have nd := r.nd
      rcases List.mem_append.mp (hG a g) with w | w
      · exact (List.nodup_append.mp nd).2.2 a w a (List.mem_append_left _ z) rfl
      · exact (List.nodup_append.mp (List.nodup_append.mp nd).2.1).2.2 a z a w rfl
  · have ff := (r.ff l e).1
    have nfr' := nfr l e
    clear ns cel own
    generalize l = l' at ff nfr'
    induction l' with
    | nil => trivial
    | cons env rest ih =>
      obtain ⟨a, ⟨L, o, b, d, e', f⟩, g⟩ := ff
      refine ⟨a, ⟨L, ?_⟩, ih g fun a ha => nfr' a (by rw [List.filterMap_cons, b]; exact .tail _ ha)⟩
      by_cases gL : L ∈ G
      · have hf : L ∈ c.fr := by
          rcases List.mem_append.mp (hG L gL) with q | q
          · exact q
          · exact absurd q (nfr' L (by rw [List.filterMap_cons, b]; exact .head _))
        obtain ⟨o', x, _, z⟩ := nf L gL hf
        exact ⟨o', b, d, x, z⟩
      · exact ⟨o, b, d, sp.get e' gL (by simp), f⟩

theorem Rep.nfr {c : Cx} {σ : St} {h : Heap} (r : Rep c σ h) : ∀ l, c.A.frames = some l → ∀ a ∈ l.filterMap (·.frame), a ∉ feet σ.own := by
  intro l e a ha hf
  rcases List.mem_append.mp ((r.ff l e).2 a ha) with q | q
  · exact (List.nodup_append.mp r.nd).2.2 a q a (List.mem_append_right _ hf) rfl
  · exact (r.nk a (List.mem_append_right _ (List.mem_append_right _ hf))).1 q

theorem Aft.chg {c : Cx} {σ σ' : St} {s : Shared} {h' : Heap} {tk : Nat} {G : List Addr} (hG : ∀ a ∈ G, a ∈ c.fr ++ feet σ.own) (sp : Sp [] G s.heap h') (al : ∀ a ∈ G, ∃ o, h'.get? a = some o) (ft : feet σ'.own = feet σ.own) :
    Aft c σ s σ' { s with heap := h', toks := tk } := by
  refine ⟨rfl, fun a o f e => ⟨fun _ => ?_, ?_⟩, fun a o _ e => ?_, fun a ha => .inl (ft ▸ ha)⟩
  · exact sp.get e (fun g => f (hG a g)) (by simp)
  · exact ⟨o.slots, sp.get e (fun g => f (hG a g)) (by simp)⟩
  · by_cases g : a ∈ G
    · exact al a g
    · exact ⟨o, sp.get e g (by simp)⟩

theorem sameSp {a : Addr} {h h' : Heap} (x : Heap.SameBut a h h') : Sp [] [a] h h' := Sp.of_keep fun b o f e => (x.2 b (by simpa using f)).trans e
theorem Rep.ntOf {c : Cx} {σ : St} {h : Heap} (r : Rep c σ h) {G : List Addr} (hG : ∀ a ∈ G, a ∈ c.fr ++ feet σ.own) : NoTup h G := fun a ha o e => r.noTup a (hG a ha) o e

theorem storeLoc {c : Cx} {x : String} {av : AV} {v : Value} {σ : St} {Φ : Unit → St → Prop} {X : XP} (hk : c.env.scope.kind = .function) (hx : c.kind x = some .local ∨ (c.kind x = some .cell ∧ ∃ a, c.env.cells.lookup (Str.ofString x) = some a ∧ a ∈ c.fr)) (k : Φ () (σ.set x av)) :
    Tri c (fun h => VR h av v) (storeName c.env (Str.ofString x) v) (fun _ _ _ => True) σ Φ X := by
  refine Tri.ofH fun s r hv Q E q _ => ?_
  obtain ⟨m, hn, hl⟩ := r.ns
  have nL : c.env.locals ∉ feet σ.own := fun f => (List.nodup_append.mp r.nd).2.2 _ r.lin _ (List.mem_append_right _ f) rfl
  rcases hx with hx | ⟨hx, a, ha, haf⟩
  · refine wpAny_storeName_local hx hn (fun h' hn' hs => ?_) (by
      have hk' : c.env.scope.kind = .function := hk
      rw [hk']; rfl)
    have hG : ∀ b ∈ [c.env.locals], b ∈ c.fr ++ feet σ.own := fun b hb => by rw [List.mem_singleton.mp hb]; exact List.mem_append_left _ r.lin
    have sp := sameSp hs
    have nt := r.ntOf hG
    obtain ⟨oL, es, ep, gL, dL, _, _⟩ := id hn'
    refine q () () (σ.set x av) _ (r.toRep.chg hG sp ⟨_, hn', fun y bv e => ?_⟩ (fun y a e1 e2 e3 => ?_) (fun p hp => ?_) rfl (fun b hb _ => ?_) r.nfr) (Aft.chg hG sp (fun b hb => ?_) rfl) trivial k
    · show LocAt c h' _ y bv
      rw [lookup_setL] at e
      by_cases hy : y = x
      · subst hy
        rw [if_pos rfl] at e; cases e
        exact .inl ⟨hx, v, by simp, hv.mono sp nt⟩
      · rw [if_neg hy] at e
        rcases hl y bv e with ⟨i, w, j, kk⟩ | ⟨i, a, w, j, kk, n, ⟨o, g, d⟩, t⟩
        · exact .inl ⟨i, w, by simp only [if_neg (fun z => hy (ofString_inj z))]; exact j, kk.mono sp nt⟩
        · exact .inr ⟨i, a, w, j, kk, n, ⟨o, sp.get g (by simpa using n) (by simp), d⟩, t.mono sp nt⟩
    · obtain ⟨n, w, o, g, d⟩ := r.cel y a e1 e2 e3
      exact ⟨w, o, sp.get g (by simpa using n) (by simp), d⟩
    · exact (r.own p hp).mono sp nt fun b hb => ⟨fun z => nL (by rw [← List.mem_singleton.mp z]; exact List.mem_flatMap.mpr ⟨p, hp, hb⟩), by simp⟩
    · rw [List.mem_singleton.mp hb]; exact ⟨oL, gL, .of_dict dL, by rw [dL]; simp⟩
    · rw [List.mem_singleton.mp hb]; exact ⟨oL, gL⟩
  · obtain ⟨nea, v0, hc⟩ := r.cel x a hx ha haf
    refine wpAny_storeName_cell hk hx ha hc (fun h' hc' hs => ?_)
    have nf : a ∉ feet σ.own := fun f => (List.nodup_append.mp r.nd).2.2 _ haf _ (List.mem_append_right _ f) rfl
    have hG : ∀ b ∈ [a], b ∈ c.fr ++ feet σ.own := fun b hb => by rw [List.mem_singleton.mp hb]; exact List.mem_append_left _ haf
    have sp := sameSp hs
    have nt := r.ntOf hG
    obtain ⟨oa, ga, da⟩ := id hc'
    refine q () () (σ.set x av) _ (r.toRep.chg hG sp ⟨m, hn.at' fun o e => sp.get e (by simpa using Ne.symm nea) (by simp), fun y bv e => ?_⟩ (fun y b e1 e2 e3 => ?_) (fun p hp => ?_) rfl (fun b hb _ => ?_) r.nfr) (Aft.chg (tk := s.toks) hG sp (fun b hb => ?_) rfl) trivial k
    · show LocAt c h' _ y bv
      rw [lookup_setL] at e
      by_cases hy : y = x
      · subst hy
        rw [if_pos rfl] at e; cases e
        exact .inr ⟨.inl hx, a, v, ha, .inl haf, nea, hc', hv.mono sp nt⟩
      · rw [if_neg hy] at e
        rcases hl y bv e with ⟨i, w, j, kk⟩ | ⟨i, b, w, j, kk, n, ⟨o, g, d⟩, t⟩
        · exact .inl ⟨i, w, j, kk.mono sp nt⟩
        · have hba : b ≠ a := fun z => by subst z; exact hy (r.inj y x b j ha)
          exact .inr ⟨i, b, w, j, kk, n, ⟨o, sp.get g (by simpa using hba) (by simp), d⟩, t.mono sp nt⟩
    · by_cases hba : b = a
      · subst hba; exact ⟨_, hc'⟩
      · obtain ⟨n, w, o, g, d⟩ := r.cel y b e1 e2 e3
        exact ⟨w, o, sp.get g (by simpa using hba) (by simp), d⟩
    · exact (r.own p hp).mono sp nt fun b hb => ⟨fun z => nf (by rw [← List.mem_singleton.mp z]; exact List.mem_flatMap.mpr ⟨p, hp, hb⟩), by simp⟩
    · rw [List.mem_singleton.mp hb]; exact ⟨oa, ga, .of_cell da, by rw [da]; simp⟩
    · rw [List.mem_singleton.mp hb]; exact ⟨oa, ga⟩

end Mine

-- AR
namespace Mine
open PySem PySem.Calls PyProof.Rows PySem.W

theorem appS (a b : List Nat) : (⟨a.toArray⟩ : Str) ++ ⟨b.toArray⟩ = ⟨(a ++ b).toArray⟩ := by
  show Str.append _ _ = _
  unfold Str.append; simp
theorem lenS (a : List Nat) : Str.length ⟨a.toArray⟩ = a.length := by unfold Str.length; simp
theorem eqS (a b : List Nat) : ((⟨a.toArray⟩ : Str) == ⟨b.toArray⟩) = decide (a = b) := by
  by_cases h : a = b
  · subst h; simp
  · have : ¬ (⟨a.toArray⟩ : Str) = ⟨b.toArray⟩ := fun e => h (by simpa using congrArg (fun x : Str => x.cps.toList) e)
    simp [h]
theorem neS (a b : List Nat) : ((⟨a.toArray⟩ : Str) != ⟨b.toArray⟩) = !decide (a = b) := by rw [bne, eqS]


theorem VR.mkInt {h : Heap} {i : Int} {t : Tok} : VR h (.int i) (.int i t) := by rw [VR]; exact ⟨t, rfl⟩
theorem VR.mkStr {h : Heap} {l : List Nat} {t : Tok} : VR h (.str l) (.str ⟨l.toArray⟩ t) := by rw [VR]; exact ⟨t, rfl⟩
theorem VR.mkBool {h : Heap} {b : Bool} : VR h (.bool b) (.bool b) := by rw [VR]
theorem VR.mkNone {h : Heap} : VR h .none .none := by rw [VR]
theorem VR.mkRef {h : Heap} {a : Addr} : VR h (.ref a) (.ref a) := by rw [VR]

theorem Op2.sub {c : Cx} {a : Int} {b : Int} {σ : St} {Φ : AV → St → Prop} {X : XP}  (k : Φ (.int (a - b)) σ) : Op2 c (binaryOp .Sub) (.int a) (.int b) σ Φ X := fun v w =>
  Tri.pureStep k fun s p _ _ _ q => by
    obtain ⟨p1, p2⟩ := p; rw [VR] at p1 p2
    obtain ⟨t, rfl⟩ := p1
    obtain ⟨u, rfl⟩ := p2
    with_reducible refine sub_int ?_
    exact q _ s.heap _ (fun _ _ e => e) VR.mkInt

theorem Op2.mul {c : Cx} {a : Int} {b : Int} {σ : St} {Φ : AV → St → Prop} {X : XP} (hm : IntMulOk a b) (k : Φ (.int (a * b)) σ) : Op2 c (binaryOp .Mult) (.int a) (.int b) σ Φ X := fun v w =>
  Tri.pureStep k fun s p _ _ _ q => by
    obtain ⟨p1, p2⟩ := p; rw [VR] at p1 p2
    obtain ⟨t, rfl⟩ := p1
    obtain ⟨u, rfl⟩ := p2
    with_reducible refine mul_int ?_ hm
    exact q _ s.heap _ (fun _ _ e => e) VR.mkInt

theorem Op2.fdiv {c : Cx} {a : Int} {b : Int} {σ : St} {Φ : AV → St → Prop} {X : XP} (hb : b ≠ 0) (hp : Builtin.divisionGoesByPylong a b = false) (k : Φ (.int (a.fdiv b)) σ) : Op2 c (binaryOp .FloorDiv) (.int a) (.int b) σ Φ X := fun v w =>
  Tri.pureStep k fun s p _ _ _ q => by
    obtain ⟨p1, p2⟩ := p; rw [VR] at p1 p2
    obtain ⟨t, rfl⟩ := p1
    obtain ⟨u, rfl⟩ := p2
    with_reducible refine floordiv_int hb ?_ (.inl hp)
    exact q _ s.heap _ (fun _ _ e => e) VR.mkInt

theorem Op2.mod {c : Cx} {a : Int} {b : Int} {σ : St} {Φ : AV → St → Prop} {X : XP} (hb : b ≠ 0) (k : Φ (.int (a.fmod b)) σ) : Op2 c (binaryOp .Mod) (.int a) (.int b) σ Φ X := fun v w =>
  Tri.pureStep k fun s p _ _ _ q => by
    obtain ⟨p1, p2⟩ := p; rw [VR] at p1 p2
    obtain ⟨t, rfl⟩ := p1
    obtain ⟨u, rfl⟩ := p2
    with_reducible refine mod_int' hb ?_
    exact q _ s.heap _ (fun _ _ e => e) VR.mkInt

theorem Op2.pow {c : Cx} {a : Int} {b : Int} {σ : St} {Φ : AV → St → Prop} {X : XP} (h1 : 0 ≤ b) (h2 : b ≤ 1000000) (h3 : a.natAbs < 2 ^ 64) (k : Φ (.int (a ^ b.toNat)) σ) : Op2 c (binaryOp .Pow) (.int a) (.int b) σ Φ X := fun v w =>
  Tri.pureStep k fun s p _ _ _ q => by
    obtain ⟨p1, p2⟩ := p; rw [VR] at p1 p2
    obtain ⟨t, rfl⟩ := p1
    obtain ⟨u, rfl⟩ := p2
    with_reducible refine pow_int_small h1 h2 h3 ?_
    exact q _ s.heap _ (fun _ _ e => e) VR.mkInt

theorem Op2.and {c : Cx} {a : Int} {b : Int} {σ : St} {Φ : AV → St → Prop} {X : XP}  (k : Φ (.int (Builtin.bitAnd a b)) σ) : Op2 c (binaryOp .BitAnd) (.int a) (.int b) σ Φ X := fun v w =>
  Tri.pureStep k fun s p _ _ _ q => by
    obtain ⟨p1, p2⟩ := p; rw [VR] at p1 p2
    obtain ⟨t, rfl⟩ := p1
    obtain ⟨u, rfl⟩ := p2
    with_reducible refine and_int ?_
    exact q _ s.heap _ (fun _ _ e => e) VR.mkInt

theorem Op2.iadd {c : Cx} {a : Int} {b : Int} {σ : St} {Φ : AV → St → Prop} {X : XP}  (k : Φ (.int (a + b)) σ) : Op2 c (inplaceOp .Add) (.int a) (.int b) σ Φ X := fun v w =>
  Tri.pureStep k fun s p _ _ _ q => by
    obtain ⟨p1, p2⟩ := p; rw [VR] at p1 p2
    obtain ⟨t, rfl⟩ := p1
    obtain ⟨u, rfl⟩ := p2
    with_reducible refine iadd_int ?_
    exact q _ s.heap _ (fun _ _ e => e) VR.mkInt

theorem Op2.isub {c : Cx} {a : Int} {b : Int} {σ : St} {Φ : AV → St → Prop} {X : XP}  (k : Φ (.int (a - b)) σ) : Op2 c (inplaceOp .Sub) (.int a) (.int b) σ Φ X := fun v w =>
  Tri.pureStep k fun s p _ _ _ q => by
    obtain ⟨p1, p2⟩ := p; rw [VR] at p1 p2
    obtain ⟨t, rfl⟩ := p1
    obtain ⟨u, rfl⟩ := p2
    with_reducible refine isub_int ?_
    exact q _ s.heap _ (fun _ _ e => e) VR.mkInt

theorem Op2.ifdiv {c : Cx} {a : Int} {b : Int} {σ : St} {Φ : AV → St → Prop} {X : XP} (hb : b ≠ 0) (hp : Builtin.divisionGoesByPylong a b = false) (k : Φ (.int (a.fdiv b)) σ) : Op2 c (inplaceOp .FloorDiv) (.int a) (.int b) σ Φ X := fun v w =>
  Tri.pureStep k fun s p _ _ _ q => by
    obtain ⟨p1, p2⟩ := p; rw [VR] at p1 p2
    obtain ⟨t, rfl⟩ := p1
    obtain ⟨u, rfl⟩ := p2
    with_reducible refine ifloordiv_int hb ?_ (.inl hp)
    exact q _ s.heap _ (fun _ _ e => e) VR.mkInt

theorem Op2.ishl {c : Cx} {a : Int} {b : Int} {σ : St} {Φ : AV → St → Prop} {X : XP} (hb : 0 ≤ b) (hz : (Builtin.Int.intBits a : Int) + b ≤ 2 ^ 27) (k : Φ (.int (a * 2 ^ b.toNat)) σ) : Op2 c (inplaceOp .LShift) (.int a) (.int b) σ Φ X := fun v w =>
  Tri.pureStep k fun s p _ _ _ q => by
    obtain ⟨p1, p2⟩ := p; rw [VR] at p1 p2
    obtain ⟨t, rfl⟩ := p1
    obtain ⟨u, rfl⟩ := p2
    with_reducible refine ilshift_int hb hz ?_
    exact q _ s.heap _ (fun _ _ e => e) VR.mkInt

theorem Op2.ior {c : Cx} {a : Int} {b : Int} {σ : St} {Φ : AV → St → Prop} {X : XP}  (k : Φ (.int (Builtin.bitOr a b)) σ) : Op2 c (inplaceOp .BitOr) (.int a) (.int b) σ Φ X := fun v w =>
  Tri.pureStep k fun s p _ _ _ q => by
    obtain ⟨p1, p2⟩ := p; rw [VR] at p1 p2
    obtain ⟨t, rfl⟩ := p1
    obtain ⟨u, rfl⟩ := p2
    with_reducible refine ior_int ?_
    exact q _ s.heap _ (fun _ _ e => e) VR.mkInt

theorem Op2.subb {c : Cx} {a : Bool} {b : Bool} {σ : St} {Φ : AV → St → Prop} {X : XP}  (k : Φ (.int (b2i a - b2i b)) σ) : Op2 c (binaryOp .Sub) (.bool a) (.bool b) σ Φ X := fun v w =>
  Tri.pureStep k fun s p _ _ _ q => by
    obtain ⟨p1, p2⟩ := p; rw [VR] at p1 p2
    subst p1
    subst p2
    with_reducible refine sub_bool ?_
    exact q _ s.heap _ (fun _ _ e => e) VR.mkInt

theorem Op2.add_s {c : Cx} {a : List Nat} {b : List Nat} {σ : St} {Φ : AV → St → Prop} {X : XP} (hz : a.length + b.length ≤ 16777216) (k : Φ (.str (a ++ b)) σ) : Op2 c (binaryOp .Add) (.str a) (.str b) σ Φ X := fun v w =>
  Tri.pureStep k fun s p _ _ _ q => by
    obtain ⟨p1, p2⟩ := p; rw [VR] at p1 p2
    obtain ⟨t, rfl⟩ := p1
    obtain ⟨u, rfl⟩ := p2
    with_reducible refine add_str (fun _ _ => ?_) (by rw [lenS, lenS, sizeLine_eq]; exact hz)
    exact q _ s.heap _ (fun _ _ e => e) (appS a b ▸ VR.mkStr)

theorem Op2.iadd_s {c : Cx} {a : List Nat} {b : List Nat} {σ : St} {Φ : AV → St → Prop} {X : XP} (hz : a.length + b.length ≤ 16777216) (k : Φ (.str (a ++ b)) σ) : Op2 c (inplaceOp .Add) (.str a) (.str b) σ Φ X := fun v w =>
  Tri.pureStep k fun s p _ _ _ q => by
    obtain ⟨p1, p2⟩ := p; rw [VR] at p1 p2
    obtain ⟨t, rfl⟩ := p1
    obtain ⟨u, rfl⟩ := p2
    with_reducible refine iadd_str (fun _ _ => ?_) (by rw [lenS, lenS, sizeLine_eq]; exact hz)
    exact q _ s.heap _ (fun _ _ e => e) (appS a b ▸ VR.mkStr)

theorem Op2.eq {c : Cx} {a : Int} {b : Int} {σ : St} {Φ : AV → St → Prop} {X : XP}  (k : Φ (.bool (a == b)) σ) : Op2 c (compareOp .Eq) (.int a) (.int b) σ Φ X := fun v w =>
  Tri.pureStep k fun s p _ _ _ q => by
    obtain ⟨p1, p2⟩ := p; rw [VR] at p1 p2
    obtain ⟨t, rfl⟩ := p1
    obtain ⟨u, rfl⟩ := p2
    with_reducible refine eq_int ?_
    exact q _ s.heap s.toks (fun _ _ e => e) VR.mkBool

theorem Op2.ne {c : Cx} {a : Int} {b : Int} {σ : St} {Φ : AV → St → Prop} {X : XP}  (k : Φ (.bool (a != b)) σ) : Op2 c (compareOp .NotEq) (.int a) (.int b) σ Φ X := fun v w =>
  Tri.pureStep k fun s p _ _ _ q => by
    obtain ⟨p1, p2⟩ := p; rw [VR] at p1 p2
    obtain ⟨t, rfl⟩ := p1
    obtain ⟨u, rfl⟩ := p2
    with_reducible refine ne_int ?_
    exact q _ s.heap s.toks (fun _ _ e => e) VR.mkBool

theorem Op2.lt {c : Cx} {a : Int} {b : Int} {σ : St} {Φ : AV → St → Prop} {X : XP}  (k : Φ (.bool (decide (a < b))) σ) : Op2 c (compareOp .Lt) (.int a) (.int b) σ Φ X := fun v w =>
  Tri.pureStep k fun s p _ _ _ q => by
    obtain ⟨p1, p2⟩ := p; rw [VR] at p1 p2
    obtain ⟨t, rfl⟩ := p1
    obtain ⟨u, rfl⟩ := p2
    with_reducible refine lt_int ?_
    exact q _ s.heap s.toks (fun _ _ e => e) VR.mkBool

theorem Op2.gt {c : Cx} {a : Int} {b : Int} {σ : St} {Φ : AV → St → Prop} {X : XP}  (k : Φ (.bool (decide (b < a))) σ) : Op2 c (compareOp .Gt) (.int a) (.int b) σ Φ X := fun v w =>
  Tri.pureStep k fun s p _ _ _ q => by
    obtain ⟨p1, p2⟩ := p; rw [VR] at p1 p2
    obtain ⟨t, rfl⟩ := p1
    obtain ⟨u, rfl⟩ := p2
    with_reducible refine gt_int ?_
    exact q _ s.heap s.toks (fun _ _ e => e) VR.mkBool

theorem Op2.eq_s {c : Cx} {a : List Nat} {b : List Nat} {σ : St} {Φ : AV → St → Prop} {X : XP}  (k : Φ (.bool (decide (a = b))) σ) : Op2 c (compareOp .Eq) (.str a) (.str b) σ Φ X := fun v w =>
  Tri.pureStep k fun s p _ _ _ q => by
    obtain ⟨p1, p2⟩ := p; rw [VR] at p1 p2
    obtain ⟨t, rfl⟩ := p1
    obtain ⟨u, rfl⟩ := p2
    with_reducible refine eq_str ?_
    exact q _ s.heap s.toks (fun _ _ e => e) (eqS a b ▸ VR.mkBool)

theorem Op2.ne_s {c : Cx} {a : List Nat} {b : List Nat} {σ : St} {Φ : AV → St → Prop} {X : XP}  (k : Φ (.bool (!decide (a = b))) σ) : Op2 c (compareOp .NotEq) (.str a) (.str b) σ Φ X := fun v w =>
  Tri.pureStep k fun s p _ _ _ q => by
    obtain ⟨p1, p2⟩ := p; rw [VR] at p1 p2
    obtain ⟨t, rfl⟩ := p1
    obtain ⟨u, rfl⟩ := p2
    with_reducible refine ne_str ?_
    exact q _ s.heap s.toks (fun _ _ e => e) (neS a b ▸ VR.mkBool)

theorem Op2.lt_s {c : Cx} {a : List Nat} {b : List Nat} {σ : St} {Φ : AV → St → Prop} {X : XP}  (k : Φ (.bool (decide (a < b))) σ) : Op2 c (compareOp .Lt) (.str a) (.str b) σ Φ X := fun v w =>
  Tri.pureStep k fun s p _ _ _ q => by
    obtain ⟨p1, p2⟩ := p; rw [VR] at p1 p2
    obtain ⟨t, rfl⟩ := p1
    obtain ⟨u, rfl⟩ := p2
    with_reducible refine lt_str ?_
    exact q _ s.heap s.toks (fun _ _ e => e) VR.mkBool

theorem Op2.gt_s {c : Cx} {a : List Nat} {b : List Nat} {σ : St} {Φ : AV → St → Prop} {X : XP}  (k : Φ (.bool (decide (b < a))) σ) : Op2 c (compareOp .Gt) (.str a) (.str b) σ Φ X := fun v w =>
  Tri.pureStep k fun s p _ _ _ q => by
    obtain ⟨p1, p2⟩ := p; rw [VR] at p1 p2
    obtain ⟨t, rfl⟩ := p1
    obtain ⟨u, rfl⟩ := p2
    with_reducible refine P.gt_str ?_
    exact q _ s.heap s.toks (fun _ _ e => e) VR.mkBool

theorem Op2.in_s {c : Cx} {a : List Nat} {b : List Nat} {σ : St} {Φ : AV → St → Prop} {X : XP}  (k : Φ (.bool (!(Builtin.Str.occurrences ⟨b.toArray⟩ ⟨a.toArray⟩ 0 b.length 1).isEmpty)) σ) : Op2 c (compareOp .In) (.str a) (.str b) σ Φ X := fun v w =>
  Tri.pureStep k fun s p _ _ _ q => by
    obtain ⟨p1, p2⟩ := p; rw [VR] at p1 p2
    obtain ⟨t, rfl⟩ := p1
    obtain ⟨u, rfl⟩ := p2
    with_reducible refine in_str ?_
    exact q _ s.heap s.toks (fun _ _ e => e) (by rw [lenS]; exact VR.mkBool)

end Mine

-- AS
namespace Mine
open PySem PySem.Calls PyProof.Rows PySem.W

/-! frame, order, forgetting -/
theorem Rep.sub {c : Cx} {loc : List (String × AV)} {own own' : List (Addr × AO)} {h : Heap} (r : Rep c ⟨loc, own⟩ h) (hs : ∀ p ∈ own', p ∈ own) (hn : (feet own').Nodup) : Rep c ⟨loc, own'⟩ h := by
  have hf : ∀ a ∈ feet own', a ∈ feet own := fun a ha => by
    obtain ⟨p, hp, hb⟩ := List.mem_flatMap.mp ha
    exact List.mem_flatMap.mpr ⟨p, hs p hp, hb⟩
  have nd := r.nd
  refine ⟨r.ns, r.lin, r.cel, r.inj, fun p hp => r.own p (hs p hp), ?_, fun a ha => r.nk a ?_, r.frc, r.kb, r.kn, r.kh, r.ff⟩
  · rw [List.nodup_append] at nd ⊢
    obtain ⟨n1, n2, n3⟩ := nd
    rw [List.nodup_append] at n2
    obtain ⟨m1, m2, m3⟩ := n2
    refine ⟨n1, List.nodup_append.mpr ⟨m1, hn, fun a ha b hb => m3 a ha b (hf b hb)⟩, fun a ha b hb => n3 a ha b ?_⟩
    rcases List.mem_append.mp hb with q | q
    · exact List.mem_append_left _ q
    · exact List.mem_append_right _ (hf b q)
  · rcases List.mem_append.mp ha with q | q
    · exact List.mem_append_left _ q
    · rcases List.mem_append.mp q with q | q
      · exact List.mem_append_right _ (List.mem_append_left _ q)
      · exact List.mem_append_right _ (List.mem_append_right _ (hf a q))

theorem Rep.feetNodup {c : Cx} {σ : St} {h : Heap} (r : Rep c σ h) : (feet σ.own).Nodup := (List.nodup_append.mp (List.nodup_append.mp r.nd).2.1).2.1

theorem feet_perm {l l' : List (Addr × AO)} (p : l.Perm l') : (feet l).Perm (feet l') := p.flatMap_right _

theorem Rep.perm {c : Cx} {loc : List (String × AV)} {own own' : List (Addr × AO)} {h : Heap} (r : Rep c ⟨loc, own⟩ h) (p : own.Perm own') : Rep c ⟨loc, own'⟩ h :=
  r.sub (fun q hq => p.mem_iff.mpr hq) ((feet_perm p).nodup_iff.mp r.feetNodup)

theorem Sp.weaken {K F G : List Addr} {h h' : Heap} (x : Sp K F h h') (hs : ∀ a ∈ F, a ∈ G) : Sp K G h h' := fun a o g e => x a o (fun f => g (hs a f)) e

/-- what is hidden: it stands, and lies apart -/
def Hid (c : Cx) (σ : St) (R : List (Addr × AO)) (h : Heap) : Prop := ∀ p ∈ R, OR h p.1 p.2 ∧ ∀ b ∈ foot p.1 p.2, b ∉ c.fr ++ feet σ.own ∧ b ∉ c.K
theorem Hid.nil {c : Cx} {σ : St} {h : Heap} : Hid c σ [] h := fun _ q => nomatch q
theorem Hid.after {c : Cx} {σ σ' : St} {R : List (Addr × AO)} {s s' : Shared} (r : RepS c σ s) (f : Aft c σ s σ' s') (q : Hid c σ R s.heap) : Hid c σ' R s'.heap := by
  intro p hp
  obtain ⟨o, d⟩ := q p hp
  refine ⟨o.mono f.sp r.noTup (nK := r.noTupK) (hf := d), fun b hb => ⟨fun z => ?_, (d b hb).2⟩⟩
  rcases List.mem_append.mp z with z | z
  · exact (d b hb).1 (List.mem_append_left _ z)
  · rcases f.fs b z with z | z
    · exact (d b hb).1 (List.mem_append_right _ z)
    · obtain ⟨o', e⟩ := o.here b hb; rw [z] at e; cases e

def TriW {α β : Type} (c : Cx) (P : Heap → Prop) (W : (α → Shared → Prop) → (Value → Shared → Prop) → Shared → Prop) (V : Heap → β → α → Prop) (σ : St) (Φ : β → St → Prop) (X : XP) : Prop :=
  ∀ s, RepS c σ s → P s.heap → ∀ (Q : α → Shared → Prop) (E : Value → Shared → Prop), Kq c σ s V Φ Q → Kx c σ s X E → W Q E s
/-- what is hidden stands as it stood -/
theorem TriW.frame {α β : Type} {c : Cx} {P : Heap → Prop} {W : (α → Shared → Prop) → (Value → Shared → Prop) → Shared → Prop} {V : Heap → β → α → Prop} {loc : List (String × AV)} {own R : List (Addr × AO)} {Φ : β → St → Prop} {X : XP}
    (h : TriW c (fun h => P h ∧ Hid c ⟨loc, own⟩ R h) W V ⟨loc, own⟩ (fun x σ' => Φ x ⟨σ'.loc, σ'.own ++ R⟩) (fun e σ' s' => X e ⟨σ'.loc, σ'.own ++ R⟩ s')) : TriW c P W V ⟨loc, own ++ R⟩ Φ X := by
  intro s r p Q E q x
  have nd := r.feetNodup
  rw [feet_append] at nd
  have nd' := List.nodup_append.mp nd
  have r1 : RepS c ⟨loc, own⟩ s := ⟨r.sub (fun p hp => List.mem_append_left _ hp) nd'.1, r.tp⟩
  have hR : ∀ p ∈ R, OR s.heap p.1 p.2 := fun p hp => r.own p (List.mem_append_right _ hp)
  have out : ∀ b ∈ feet R, b ∉ c.fr ++ feet own ∧ b ∉ c.K := by
    intro b hb
    have hb' : b ∈ c.fr ++ (c.fx ++ feet (own ++ R)) := List.mem_append_right _ (List.mem_append_right _ (by rw [feet_append]; exact List.mem_append_right _ hb))
    refine ⟨fun z => ?_, (r.nk b hb').1⟩
    rcases List.mem_append.mp z with z | z
    · exact (List.nodup_append.mp r.nd).2.2 b z b (List.mem_append_right _ (by rw [feet_append]; exact List.mem_append_right _ hb)) rfl
    · exact nd'.2.2 b z b hb rfl
  have key : ∀ σ' s', RepS c σ' s' → Aft c ⟨loc, own⟩ s σ' s' → RepS c ⟨σ'.loc, σ'.own ++ R⟩ s' ∧ Aft c ⟨loc, own ++ R⟩ s ⟨σ'.loc, σ'.own ++ R⟩ s' := by
    intro σ' s' r' f
    have here : ∀ b ∈ feet R, ∃ o, s.heap.get? b = some o := fun b hb => by
      obtain ⟨p, hp, hb⟩ := List.mem_flatMap.mp hb
      exact (hR p hp).here b hb
    have dis : ∀ a ∈ feet σ'.own, ∀ b ∈ feet R, a ≠ b := by
      rintro a ha b hb rfl
      rcases f.fs a ha with z | z
      · exact nd'.2.2 a z a hb rfl
      · obtain ⟨o, e⟩ := here a hb; rw [z] at e; cases e
    refine ⟨⟨⟨r'.ns, r'.lin, r'.cel, r'.inj, fun p hp => ?_, ?_, fun a ha => ?_, r'.frc, r'.kb, r'.kn, r'.kh, r'.ff⟩, r'.tp⟩, ⟨f.rest, f.sp.weaken fun a ha => ?_, fun a o n e => f.al a o (fun z => n (by rw [feet_append]; exact List.mem_append_left _ z)) e, fun a ha => ?_⟩⟩
    · rcases List.mem_append.mp hp with z | z
      · exact r'.own p z
      · exact (hR p z).mono f.sp r1.noTup (nK := r1.noTupK) (hf := fun b hb => out b (List.mem_flatMap.mpr ⟨p, z, hb⟩))
    · rw [feet_append, ← List.append_assoc, ← List.append_assoc]
      have n1 := r'.nd
      rw [← List.append_assoc] at n1
      refine List.nodup_append.mpr ⟨n1, nd'.2.1, fun a ha b hb => ?_⟩
      rintro rfl
      rcases List.mem_append.mp ha with z | z
      · have hb' := (List.nodup_append.mp r.nd).2.2
        rcases List.mem_append.mp z with z | z
        · exact hb' a z a (List.mem_append_right _ (by rw [feet_append]; exact List.mem_append_right _ hb)) rfl
        · have n2 := (List.nodup_append.mp (List.nodup_append.mp r.nd).2.1).2.2
          exact n2 a z a (by rw [feet_append]; exact List.mem_append_right _ hb) rfl
      · exact dis a z a hb rfl
    · rw [feet_append, ← List.append_assoc, ← List.append_assoc] at ha
      rcases List.mem_append.mp ha with z | z
      · exact r'.nk a (by rw [← List.append_assoc]; exact z)
      · exact r.nk a (List.mem_append_right _ (List.mem_append_right _ (by rw [feet_append]; exact List.mem_append_right _ z)))
    · rw [feet_append]
      rcases List.mem_append.mp ha with z | z
      · exact List.mem_append_left _ z
      · exact List.mem_append_right _ (List.mem_append_left _ z)
    · rw [feet_append] at ha ⊢
      rcases List.mem_append.mp ha with z | z
      · exact (f.fs a z).imp (fun y => List.mem_append_left _ y) id
      · exact .inl (List.mem_append_right _ z)
  exact h s r1 ⟨p, fun p hp => ⟨hR p hp, fun b hb => out b (List.mem_flatMap.mpr ⟨p, hp, hb⟩)⟩⟩ Q E (fun a y σ' s' r' f v φ => q a y _ s' (key σ' s' r' f).1 (key σ' s' r' f).2 v φ) (fun e σ' s' r' f φ => x e _ s' (key σ' s' r' f).1 (key σ' s' r' f).2 φ)

theorem Tri.frame {α β : Type} {c : Cx} {P : Heap → Prop} {t : Sem α} {V : Heap → β → α → Prop} {loc : List (String × AV)} {own R : List (Addr × AO)} {Φ : β → St → Prop} {X : XP}
    (h : Tri c (fun h => P h ∧ Hid c ⟨loc, own⟩ R h) t V ⟨loc, own⟩ (fun x σ' => Φ x ⟨σ'.loc, σ'.own ++ R⟩) (fun e σ' s' => X e ⟨σ'.loc, σ'.own ++ R⟩ s')) : Tri c P t V ⟨loc, own ++ R⟩ Φ X :=
  TriW.frame (W := fun Q E s => wpAny (model c.prog c.w) c.A t Q E s) h

theorem Aft.perm {c : Cx} {loc : List (String × AV)} {own own' : List (Addr × AO)} {s s' : Shared} {σ' : St} (p : own.Perm own') (f : Aft c ⟨loc, own'⟩ s σ' s') : Aft c ⟨loc, own⟩ s σ' s' := by
  have hm : ∀ a, a ∈ feet own' ↔ a ∈ feet own := fun a => (feet_perm p).mem_iff.symm
  refine ⟨f.rest, f.sp.weaken fun a ha => ?_, fun a o n e => f.al a o (fun z => n ((hm a).mp z)) e, fun a ha => (f.fs a ha).imp (hm a).mp id⟩
  rcases List.mem_append.mp ha with z | z
  · exact List.mem_append_left _ z
  · exact List.mem_append_right _ ((hm a).mp z)

theorem Tri.perm {α β : Type} {c : Cx} {P : Heap → Prop} {t : Sem α} {V : Heap → β → α → Prop} {loc : List (String × AV)} {own own' : List (Addr × AO)} {Φ : β → St → Prop} {X : XP} (p : own.Perm own')
    (h : Tri c P t V ⟨loc, own'⟩ Φ X) : Tri c P t V ⟨loc, own⟩ Φ X :=
  fun s r pp Q E q x => h s ⟨r.perm p, r.tp⟩ pp Q E (fun a y σ' s' r' f v φ => q a y σ' s' r' (f.perm p) v φ) (fun e σ' s' r' f φ => x e σ' s' r' (f.perm p) φ)

theorem Tri.forget {α β : Type} {c : Cx} {P : Heap → Prop} {t : Sem α} {V : Heap → β → α → Prop} {loc : List (String × AV)} {own R : List (Addr × AO)} {Φ : β → St → Prop} {X : XP}
    (h : Tri c P t V ⟨loc, own⟩ Φ X) : Tri c P t V ⟨loc, own ++ R⟩ Φ X := by
  intro s r p Q E q x
  have nd := r.feetNodup
  rw [feet_append] at nd
  have r1 : RepS c ⟨loc, own⟩ s := ⟨r.sub (fun p hp => List.mem_append_left _ hp) (List.nodup_append.mp nd).1, r.tp⟩
  have key : ∀ σ' s', Aft c ⟨loc, own⟩ s σ' s' → Aft c ⟨loc, own ++ R⟩ s σ' s' := fun σ' s' f =>
    ⟨f.rest, f.sp.weaken fun a ha => by
      rw [feet_append]
      rcases List.mem_append.mp ha with z | z
      · exact List.mem_append_left _ z
      · exact List.mem_append_right _ (List.mem_append_left _ z), fun a o n e => f.al a o (fun z => n (by rw [feet_append]; exact List.mem_append_left _ z)) e, fun a ha => (f.fs a ha).imp (fun z => by rw [feet_append]; exact List.mem_append_left _ z) id⟩
  exact h s r1 p Q E (fun a y σ' s' r' f v φ => q a y σ' s' r' (key σ' s' f) v φ) (fun e σ' s' r' f φ => x e σ' s' r' (key σ' s' f) φ)

/-! truth -/
abbrev BR : Heap → Bool → Bool → Prop := fun _ b b' => b' = b
abbrev Tst (c : Cx) (e : Expr) (σ : St) (Φ : Bool → St → Prop) (X : XP) : Prop := Tri c T0 (PySem.isTrue e c.env (eval e c.env)) BR σ Φ X
abbrev Tru (c : Cx) (a : AV) (σ : St) (Φ : Bool → St → Prop) (X : XP) : Prop := ∀ v, Tri c (fun h => VR h a v) (truthy v) BR σ Φ X

theorem Tru.bool {c : Cx} {b : Bool} {σ : St} {Φ : Bool → St → Prop} {X : XP} (k : Φ b σ) : Tru c (.bool b) σ Φ X := fun v =>
  Tri.pureStep k fun s p _ _ _ q => by
    rw [VR] at p; subst p
    with_reducible refine wpAny_truthy_bool ?_
    exact q _ s.heap s.toks (fun _ _ e => e) rfl
theorem Tru.int {c : Cx} {a : Int} {σ : St} {Φ : Bool → St → Prop} {X : XP} (k : Φ (a != 0) σ) : Tru c (.int a) σ Φ X := fun v =>
  Tri.pureStep k fun s p _ _ _ q => by
    rw [VR] at p; obtain ⟨t, rfl⟩ := p
    with_reducible refine truthy_int ?_
    exact q _ s.heap s.toks (fun _ _ e => e) rfl

theorem Tst.cmp {c : Cx} {l r : Expr} {op : CmpOp} {pos : Pos} {σ : St} {Φ : Bool → St → Prop} {X : XP}
    (h : Ev c l σ (fun a σ₁ => Ev c r σ₁ (fun b σ₂ => Op2 c (compareOp op) a b σ₂ (fun t σ₃ => Tru c t σ₃ Φ X) X) X) X) (hm : behindInMarks op r = false := by with_unfolding_all rfl) : Tst c (.Compare l [op] [r] pos) σ Φ X := by
  intro s rp _ Q E q x
  refine wpAny_isTrue_Compare1 ?_ hm
  refine h s rp trivial _ _ (fun v a σ₁ s₁ r₁ f₁ va h₁ => ?_) x
  refine h₁ s₁ r₁ trivial _ _ (fun w b σ₂ s₂ r₂ f₂ wb h₂ => ?_) (x.go f₁)
  refine h₂ _ _ s₂ r₂ ⟨va.after r₁ f₂, wb⟩ _ _ (fun u t σ₃ s₃ r₃ f₃ ut h₃ => ?_) ((x.go f₁).go f₂)
  exact h₃ u s₃ r₃ ut Q E (((q.go f₁).go f₂).go f₃) (((x.go f₁).go f₂).go f₃)
theorem Tst.not {c : Cx} {e : Expr} {pos : Pos} {σ : St} {Φ : Bool → St → Prop} {X : XP} (h : Tst c e σ (fun b σ' => Φ (!b) σ') X) : Tst c (.UnaryOp .Not e pos) σ Φ X :=
  fun s rp _ Q E q x => wpAny_isTrue_Not (h s rp trivial _ _ (fun a b σ' s' r' f e φ => by cases e; exact q _ _ σ' s' r' f rfl φ) x)
theorem Tst.val {c : Cx} {e : Expr} {σ : St} {Φ : Bool → St → Prop} {X : XP} (h : Ev c e σ (fun a σ₁ => Tru c a σ₁ Φ X) X)
    (hw : ∀ t, PySem.isTrue e c.env t = (do let v ← t; standAt e.pos; holding [v] (truthy v)) := by intro _; rfl) : Tst c e σ Φ X :=
  fun s rp _ Q E q x => wpAny_isTrue_value (h s rp trivial _ _ (fun v a σ₁ s₁ r₁ f₁ va h₁ => h₁ v s₁ r₁ va Q E (q.go f₁) (x.go f₁)) x) (hw _)
abbrev All (c : Cx) (op : BoolOp) (es : List Expr) (σ : St) (Φ : Bool → St → Prop) (X : XP) : Prop := Tri c T0 (allTrue op es c.env) BR σ Φ X
theorem Tst.bool {c : Cx} {op : BoolOp} {es : List Expr} {pos : Pos} {σ : St} {Φ : Bool → St → Prop} {X : XP} (h : All c op es σ Φ X) : Tst c (.BoolOp op es pos) σ Φ X :=
  fun s rp p Q E q x => wpAny_isTrue_BoolOp (h s rp p Q E q x)
theorem All.andNil {c : Cx} {σ : St} {Φ : Bool → St → Prop} {X : XP} (k : Φ true σ) : All c .And [] σ Φ X :=
  fun s rp p Q E q x => wpAny_allTrue_And_nil (q _ _ σ s rp .refl rfl k)
theorem All.and {c : Cx} {e : Expr} {es : List Expr} {σ : St} {Φ : Bool → St → Prop} {X : XP} (h : Tst c e σ (fun b σ₁ => (b = true → All c .And es σ₁ Φ X) ∧ (b = false → Φ false σ₁)) X) : All c .And (e :: es) σ Φ X := by
  intro s rp _ Q E q x
  refine wpAny_allTrue_And_cons (h s rp trivial _ _ (fun a b σ₁ s₁ r₁ f₁ e h₁ => ?_) x)
  cases e
  cases a with
  | true => exact h₁.1 rfl s₁ r₁ trivial Q E (q.go f₁) (x.go f₁)
  | false => exact q _ _ σ₁ s₁ r₁ f₁ rfl (h₁.2 rfl)
theorem All.orNil {c : Cx} {σ : St} {Φ : Bool → St → Prop} {X : XP} (k : Φ false σ) : All c .Or [] σ Φ X :=
  fun s rp p Q E q x => by
    show wpAny _ _ (pure (BoolOp.Or == BoolOp.And)) Q E s
    exact wpAny_pure (q _ _ σ s rp .refl rfl k)
theorem All.or {c : Cx} {e : Expr} {es : List Expr} {σ : St} {Φ : Bool → St → Prop} {X : XP} (h : Tst c e σ (fun b σ₁ => (b = true → Φ true σ₁) ∧ (b = false → All c .Or es σ₁ Φ X)) X) : All c .Or (e :: es) σ Φ X := by
  intro s rp _ Q E q x
  refine wpAny_allTrue_Or_cons (h s rp trivial _ _ (fun a b σ₁ s₁ r₁ f₁ e h₁ => ?_) x)
  cases e
  cases a with
  | true => exact q _ _ σ₁ s₁ r₁ f₁ rfl (h₁.1 rfl)
  | false => exact h₁.2 rfl s₁ r₁ trivial Q E (q.go f₁) (x.go f₁)

theorem Ev.ifExp {c : Cx} {t a b : Expr} {pos : Pos} {σ : St} {Φ : AV → St → Prop} {X : XP} (h : Tst c t σ (fun y σ₁ => (y = true → Ev c a σ₁ Φ X) ∧ (y = false → Ev c b σ₁ Φ X)) X) : Ev c (.IfExp t a b pos) σ Φ X := by
  intro s rp _ Q E q x
  refine wpAny_IfExp (h s rp trivial _ _ (fun y z σ₁ s₁ r₁ f₁ e h₁ => ?_) x)
  cases e
  cases y with
  | true => exact h₁.1 rfl s₁ r₁ trivial Q E (q.go f₁) (x.go f₁)
  | false => exact h₁.2 rfl s₁ r₁ trivial Q E (q.go f₁) (x.go f₁)
theorem Ev.and2 {c : Cx} {a b : Expr} {pos : Pos} {σ : St} {Φ : AV → St → Prop} {X : XP} (h : Ev c a σ (fun y σ₁ => Tru c y σ₁ (fun t σ₂ => (t = true → Ev c b σ₂ Φ X) ∧ (t = false → Φ y σ₂)) X) X) : Ev c (.BoolOp .And [a, b] pos) σ Φ X := by
  intro s rp _ Q E q x
  refine wpAny_And2 (h s rp trivial _ _ (fun v y σ₁ s₁ r₁ f₁ vy h₁ => ?_) x)
  refine h₁ v s₁ r₁ vy _ _ (fun t t' σ₂ s₂ r₂ f₂ e h₂ => ?_) (x.go f₁)
  cases e
  cases t with
  | true => exact h₂.1 rfl s₂ r₂ trivial Q E ((q.go f₁).go f₂) ((x.go f₁).go f₂)
  | false => exact q v y σ₂ s₂ r₂ (f₁.trans f₂) (vy.after r₁ f₂) (h₂.2 rfl)
theorem Ev.or2 {c : Cx} {a b : Expr} {pos : Pos} {σ : St} {Φ : AV → St → Prop} {X : XP} (h : Ev c a σ (fun y σ₁ => Tru c y σ₁ (fun t σ₂ => (t = true → Φ y σ₂) ∧ (t = false → Ev c b σ₂ Φ X)) X) X) : Ev c (.BoolOp .Or [a, b] pos) σ Φ X := by
  intro s rp _ Q E q x
  refine wpAny_Or2 (h s rp trivial _ _ (fun v y σ₁ s₁ r₁ f₁ vy h₁ => ?_) x)
  refine h₁ v s₁ r₁ vy _ _ (fun t t' σ₂ s₂ r₂ f₂ e h₂ => ?_) (x.go f₁)
  cases e
  cases t with
  | true => exact q v y σ₂ s₂ r₂ (f₁.trans f₂) (vy.after r₁ f₂) (h₂.1 rfl)
  | false => exact h₂.2 rfl s₂ r₂ trivial Q E ((q.go f₁).go f₂) ((x.go f₁).go f₂)

/-! statements -/
inductive Fl where
  | next | brk | cont | ret (v : AV)
def FR (h : Heap) : Fl → Flow → Prop
  | .next, f => f = .next
  | .brk, f => f = .brk
  | .cont, f => f = .cont
  | .ret av, f => ∃ v, f = .ret v ∧ VR h av v
abbrev Ex (c : Cx) (st : Stmt) (σ : St) (Φ : Fl → St → Prop) (X : XP) : Prop := Tri c T0 (exec st c.env) FR σ Φ X
abbrev Exs (c : Cx) (ss : List Stmt) (σ : St) (Φ : Fl → St → Prop) (X : XP) : Prop := Tri c T0 (execs ss c.env) FR σ Φ X

def Then (c : Cx) (rest : List Stmt) (Φ : Fl → St → Prop) (X : XP) : Fl → St → Prop
  | .next, σ => Exs c rest σ Φ X
  | f, σ => Φ f σ
theorem Exs.nil {c : Cx} {σ : St} {Φ : Fl → St → Prop} {X : XP} (k : Φ .next σ) : Exs c [] σ Φ X := fun s rp _ Q E q x => wpAny_execs_nil (q _ .next σ s rp .refl rfl k)
theorem Exs.cons {c : Cx} {st : Stmt} {rest : List Stmt} {σ : St} {Φ : Fl → St → Prop} {X : XP} (h : Ex c st σ (Then c rest Φ X) X) : Exs c (st :: rest) σ Φ X := by
  intro s rp _ Q E q x
  refine wpAny_execs_cons (h s rp trivial _ _ (fun a f σ₁ s₁ r₁ f₁ e h₁ => ?_) x)
  cases f with
  | next => cases e; exact h₁ s₁ r₁ trivial Q E (q.go f₁) (x.go f₁)
  | brk => cases e; exact q _ .brk σ₁ s₁ r₁ f₁ rfl h₁
  | cont => cases e; exact q _ .cont σ₁ s₁ r₁ f₁ rfl h₁
  | ret av => obtain ⟨v, rfl, hv⟩ := e; exact q _ (.ret av) σ₁ s₁ r₁ f₁ ⟨v, rfl, hv⟩ h₁

def CanStore (c : Cx) (x : String) : Prop := c.kind x = some .local ∨ (c.kind x = some .cell ∧ ∃ a, c.env.cells.lookup (Str.ofString x) = some a ∧ a ∈ c.fr)

theorem Ex.assign {c : Cx} {x : String} {p pos : Pos} {e : Expr} {σ : St} {Φ : Fl → St → Prop} {X : XP} (h : Ev c e σ (fun av σ₁ => Φ .next (σ₁.set x av)) X)
    (hx : CanStore c x := by exact Or.inl rfl) (hk : c.env.scope.kind = .function := by rfl) (hs : swapsWith e (some (.Name (Str.ofString x) p)) pos.line c.env = pure false := by rfl) : Ex c (.Assign [.Name (Str.ofString x) p] e pos) σ Φ X := by
  intro s rp _ Q E q xx
  refine wpAny_Assign_Name (h s rp trivial _ _ (fun v av σ₁ s₁ r₁ f₁ va h₁ => ?_) xx) hs
  exact storeLoc (Φ := fun _ σ' => Φ .next σ') hk hx h₁ s₁ r₁ va _ _ (fun _ _ σ₂ s₂ r₂ f₂ _ h₂ => q _ .next σ₂ s₂ r₂ (f₁.trans f₂) rfl h₂) (xx.go f₁)

theorem Ex.aug {c : Cx} {x : String} {p pos : Pos} {op : Operator} {e : Expr} {av : AV} {σ : St} {Φ : Fl → St → Prop} {X : XP} (ho : σ.loc.lookup x = some av) (h : Ev c e σ (fun b σ₁ => Op2 c (inplaceOp op) av b σ₁ (fun r σ₂ => Φ .next (σ₂.set x r)) X) X)
    (hx : CanStore c x := by exact Or.inl rfl) (hk : c.env.scope.kind = .function := by rfl) (hc : (Str.ofString x == Str.ofString "__classdict__") = false := by decide) : Ex c (.AugAssign (.Name (Str.ofString x) p) op e pos) σ Φ X := by
  intro s rp _ Q E q xx
  refine wpAny_AugAssign_Name (loadLoc (Φ := fun a σ' => a = av ∧ σ' = σ) ho hk hc ⟨rfl, rfl⟩ s rp trivial _ _ (fun v a σ₀ s₀ r₀ f₀ va h₀ => ?_) (fun e σ' s' r' f' xe => xx e σ' s' r' f' xe))
  obtain ⟨rfl, rfl⟩ := h₀
  refine h s₀ r₀ trivial _ _ (fun w b σ₁ s₁ r₁ f₁ wb h₁ => ?_) (xx.go f₀)
  refine h₁ v w s₁ r₁ ⟨va.after r₀ f₁, wb⟩ _ _ (fun u r σ₂ s₂ r₂ f₂ ur h₂ => ?_) ((xx.go f₀).go f₁)
  exact storeLoc (Φ := fun _ σ' => Φ .next σ') hk hx h₂ s₂ r₂ ur _ _ (fun _ _ σ₃ s₃ r₃ f₃ _ h₃ => q _ .next σ₃ s₃ r₃ (((f₀.trans f₁).trans f₂).trans f₃) rfl h₃) (((xx.go f₀).go f₁).go f₂)

theorem Ex.ret {c : Cx} {e : Expr} {pos : Pos} {σ : St} {Φ : Fl → St → Prop} {X : XP} (h : Ev c e σ (fun av σ₁ => Φ (.ret av) σ₁) X) : Ex c (.Return (some e) pos) σ Φ X :=
  fun s rp _ Q E q x => wpAny_Return_some (h s rp trivial _ _ (fun v av σ₁ s₁ r₁ f₁ va h₁ => q _ (.ret av) σ₁ s₁ r₁ f₁ ⟨v, rfl, va⟩ h₁) x)
theorem Ex.cont {c : Cx} {pos : Pos} {σ : St} {Φ : Fl → St → Prop} {X : XP} (k : Φ .cont σ) : Ex c (.Continue pos) σ Φ X :=
  fun s rp _ Q E q x => wpAny_Continue (q _ .cont σ s rp .refl rfl k)
theorem Ex.iff {c : Cx} {t : Expr} {a b : List Stmt} {pos : Pos} {σ : St} {Φ : Fl → St → Prop} {X : XP} (h : Tst c t σ (fun y σ₁ => (y = true → Exs c a σ₁ Φ X) ∧ (y = false → Exs c b σ₁ Φ X)) X) : Ex c (.If t a b pos) σ Φ X := by
  intro s rp _ Q E q x
  refine wpAny_If (h s rp trivial _ _ (fun y z σ₁ s₁ r₁ f₁ e h₁ => ?_) x)
  cases e
  cases y with
  | true => exact h₁.1 rfl s₁ r₁ trivial Q E (q.go f₁) (x.go f₁)
  | false => exact h₁.2 rfl s₁ r₁ trivial Q E (q.go f₁) (x.go f₁)

/-- what leaves a loop by an exception is noted in the frame, and comes back -/
def Pass (c : Cx) (Y X : XP) : Prop := ∀ e σ s E, RepS c σ s → Y e σ s → Kx c σ s X E →
  notedBy (model c.prog c.w) c.A c.env (fun e s' => cameBackBy (model c.prog c.w) c.A c.env E e s') e s
theorem Pass.no {c : Cx} {X : XP} : Pass c noX X := fun _ _ _ _ _ y _ => y.elim

def Turn (I : Nat → St → Prop) (n : Nat) (Φ : Fl → St → Prop) : Fl → St → Prop
  | .next, σ => ∃ m, m < n ∧ I m σ
  | .cont, σ => ∃ m, m < n ∧ I m σ
  | .brk, σ => Φ .next σ
  | .ret v, σ => Φ (.ret v) σ

theorem Ex.whileX {c : Cx} {t : Expr} {b : List Stmt} {pos : Pos} {σ : St} {Φ : Fl → St → Prop} {X Y : XP} (I : Nat → St → Prop) (n : Nat) (h0 : I n σ) (hp : Pass c Y X)
    (turn : ∀ n σ, I n σ → Tst c t σ (fun y σ₁ => (y = true → Exs c b σ₁ (Turn I n Φ) Y) ∧ (y = false → Φ .next σ₁)) Y) : Ex c (.While t b [] pos) σ Φ X := by
  intro s rp _ Q E q x
  refine wpAny_While (codeAny_whileLoop (fun n s' => ∃ σ', RepS c σ' s' ∧ Aft c σ s σ' s' ∧ I n σ') (fun n s' hI => ?_) n ⟨σ, rp, .refl, h0⟩)
  obtain ⟨σ', r', f', hI⟩ := hI
  have xx : ∀ σ₁ s₁, RepS c σ₁ s₁ → Aft c σ s σ₁ s₁ → Kx c σ₁ s₁ Y (notedBy (model c.prog c.w) c.A c.env (fun e s' => cameBackBy (model c.prog c.w) c.A c.env E e s')) :=
    fun σ₁ s₁ _ f₁ e σ₂ s₂ r₂ f₂ y => hp e σ₂ s₂ E r₂ y ((x.go f₁).go f₂)
  refine turn n σ' hI s' r' trivial _ _ (fun y z σ₁ s₁ r₁ f₁ e h₁ => ?_) (xx σ' s' r' f')
  cases e
  cases y with
  | true =>
    refine h₁.1 rfl s₁ r₁ trivial _ _ (fun a f σ₂ s₂ r₂ f₂ e h₂ => ?_) (xx σ₁ s₁ r₁ (f'.trans f₁))
    cases f with
    | next => cases e; obtain ⟨m, hm, hI⟩ := h₂; exact ⟨m, hm, σ₂, r₂, (f'.trans f₁).trans f₂, hI⟩
    | cont => cases e; obtain ⟨m, hm, hI⟩ := h₂; exact ⟨m, hm, σ₂, r₂, (f'.trans f₁).trans f₂, hI⟩
    | brk => cases e; exact q _ .next σ₂ s₂ r₂ ((f'.trans f₁).trans f₂) rfl h₂
    | ret v => obtain ⟨w, rfl, hw⟩ := e; exact q _ (.ret v) σ₂ s₂ r₂ ((f'.trans f₁).trans f₂) ⟨w, rfl, hw⟩ h₂
  | false => exact wpAny_execs_nil (q _ .next σ₁ s₁ r₁ (f'.trans f₁) rfl (h₁.2 rfl))
theorem Ex.while {c : Cx} {t : Expr} {b : List Stmt} {pos : Pos} {σ : St} {Φ : Fl → St → Prop} {X : XP} (I : Nat → St → Prop) (n : Nat) (h0 : I n σ)
    (turn : ∀ n σ, I n σ → Tst c t σ (fun y σ₁ => (y = true → Exs c b σ₁ (Turn I n Φ) noX) ∧ (y = false → Φ .next σ₁)) noX) : Ex c (.While t b [] pos) σ Φ X := Ex.whileX I n h0 .no turn

end Mine

-- AL
namespace Mine
open PySem PySem.Calls PyProof.Rows PySem.W

theorem ffOf {b0 h h' : Heap} : ∀ {l : List Env}, h.FunFrames b0 l → (∀ b ∈ l.filterMap (·.frame), ∀ o, h.get? b = some o → (∀ vs, o.data ≠ .fields vs) → ∃ o', h'.get? b = some o' ∧ ∀ vs, o'.data ≠ .fields vs) → h'.FunFrames b0 l
  | [], _, _ => trivial
  | env :: rest, ⟨a, ⟨L, o, b, d, e, f⟩, g⟩, k => by
    obtain ⟨o', e', f'⟩ := k L (by rw [List.filterMap_cons, b]; exact .head _) o e f
    exact ⟨a, ⟨L, o', b, d, e', f'⟩, ffOf g fun b' hb => k b' (by rw [List.filterMap_cons, b]; exact .tail _ hb)⟩

/-- a step that turns only an object that nobody owns -/
theorem Rep.keepBut {c : Cx} {σ : St} {h h' : Heap} {I : Addr} (r : Rep c σ h) (k : ∀ a o, a ≠ I → h.get? a = some o → h'.get? a = some o)
    (hI : I ∉ c.fr ++ (c.fx ++ feet σ.own)) (hK : I ∉ c.K) (h0 : c.b0.get? I = none) (nt : ∀ o, h.get? I = some o → NT o) : Rep c σ h' := by
  have sp : Sp [] [I] h h' := Sp.of_keep fun a o f e => k a o (by simpa using f) e
  have ntu : NoTup h [I] := fun a ha o e => by rw [List.mem_singleton.mp ha] at e; exact nt o e
  have n1 : ∀ a ∈ c.fr, a ≠ I := fun a ha e => hI (e ▸ List.mem_append_left _ ha)
  have n2 : ∀ a ∈ c.fx, a ≠ I := fun a ha e => hI (e ▸ List.mem_append_right _ (List.mem_append_left _ ha))
  have n3 : ∀ a ∈ feet σ.own, a ≠ I := fun a ha e => hI (e ▸ List.mem_append_right _ (List.mem_append_right _ ha))
  obtain ⟨⟨m, hn, hl⟩, lin, cel, inj, own, nd, nk, frc, kb, kn, kh, ff⟩ := r
  refine ⟨⟨m, hn.at' fun o e => k _ o (n1 _ lin) e, fun x av e => ?_⟩, lin, fun x a e1 e2 e3 => ?_, inj, fun p hp => (own p hp).mono sp ntu fun b hb' => ⟨fun z => n3 b (List.mem_flatMap.mpr ⟨p, hp, hb'⟩) (by simpa using z), by simp⟩, nd, nk, fun a ha => ?_, fun a o e => k a o (fun z => by subst z; rw [h0] at e; cases e) (kb a o e), kn, fun a ha => ?_, fun l e => ⟨ffOf (ff l e).1 fun b hb o g d => ⟨o, k b o (fun z => ?_) g, d⟩, (ff l e).2⟩⟩
  · rcases hl x av e with ⟨i, w, j, kk⟩ | ⟨i, a, w, j, kk, n, ⟨o, g, d⟩, t⟩
    · exact .inl ⟨i, w, j, kk.mono sp ntu⟩
    · have : a ≠ I := by rcases kk with q | q; exact n1 a q; exact n2 a q
      exact .inr ⟨i, a, w, j, kk, n, ⟨o, k _ _ this g, d⟩, t.mono sp ntu⟩
  · obtain ⟨n, v, o, g, i⟩ := cel x a e1 e2 e3
    exact ⟨n, v, o, k _ _ (n1 a e3) g, i⟩
  · obtain ⟨o, g, i⟩ := frc a ha; exact ⟨o, k _ _ (n1 a ha) g, i⟩
  · obtain ⟨o, e, t⟩ := kh a ha
    refine ⟨o, k a o (fun z => ?_) e, t⟩
    subst z
    rcases List.mem_append.mp ha with w | w
    · exact hK w
    · exact n2 a w rfl
  · subst z
    rcases List.mem_append.mp ((ff l e).2 b hb) with q | q
    · exact n1 b q rfl
    · exact hK q

/-- an iterator that a loop over tuples lets alone -/
def NG (o : Obj) : Prop := ∃ n, o.cls = .type n ∧ (["enumerate", "zip", "dict_itemiterator", "dict_reverseitemiterator", "odict_iterator", "itertools.zip_longest", "itertools.pairwise"].contains n) = false
theorem goOk {prog : Program} {w : World} {A : Around} {E : Value → Shared → Prop} {s : Shared} {target : Expr} {I : Addr} {v : Value} {o : Obj} {Q : Unit → Shared → Prop} (g : s.heap.get? I = some o) (ng : NG o) (hQ : Q () s) :
    wpAny (model prog w) A (letOwnedTupleGo target (.ref I) v) Q E s := by
  obtain ⟨n, hc, hn⟩ := ng
  have fin : ∀ a : Addr, wpAny (model prog w) A (load I >>= fun o => match o.cls, o.data with
      | .type n, .fields vs => if (["enumerate", "zip", "dict_itemiterator", "dict_reverseitemiterator", "odict_iterator", "itertools.zip_longest", "itertools.pairwise"].contains n && vs[0]? == some (rawInt a)) = true then (do rule "for.unpacks-the-owned-tuple"; updateField I 0 .none) else pure ()
      | _, _ => pure ()) Q E s := fun a => by
    refine wpAny_bind (wpAny_load g ?_)
    rw [hc]
    cases hd : o.data with
    | fields vs =>
      show wpAny _ A (if _ then _ else _) Q E s
      rw [hn, Bool.false_and, if_neg (by decide)]
      exact wpAny_pure hQ
    | _ => exact wpAny_pure hQ
  cases target with
  | Tuple _ _ _ =>
    cases v with
    | ref a => exact fin a
    | _ => exact wpAny_pure hQ
  | List _ _ =>
    cases v with
    | ref a => exact fin a
    | _ => exact wpAny_pure hQ
  | _ => exact wpAny_pure hQ

/-- what a value is walked as -/
def Itr (c : Cx) (a : AV) (items : List AV) (σ : St) (PH : Heap → Prop) : Prop :=
  ∀ v s, RepS c σ s → PH s.heap → VR s.heap a v → ∀ (Q : Value → Shared → Prop) (E : Value → Shared → Prop),
    (∀ I fp P St h' tk, Walks c.prog c.w c.A I fp [I] items.length P St → s.heap.get? I = none → (∀ i h, St i h → ∃ o, h.get? I = some o ∧ NT o ∧ NG o) →
      (∀ b o, s.heap.get? b = some o → h'.get? b = some o) → (∀ b ∈ fp, b = I ∨ (b ∉ c.fr ++ feet σ.own ∧ b ∉ c.K ∧ ∃ o, s.heap.get? b = some o)) → St 0 h' →
      (∀ i x v', items[i]? = some x → P i v' → VR s.heap x v') → Q (.ref I) { s with heap := h', toks := tk }) → wpAny (model c.prog c.w) c.A (pyIter v) Q E s

abbrev Asg (c : Cx) (t : Expr) (x : AV) (σ : St) (Ψ : St → Prop) (X : XP) : Prop := ∀ v, Tri c (fun h => VR h x v) (assign t c.env v) (fun _ (_ : Unit) _ => True) σ (fun _ σ' => Ψ σ') X

theorem Asg.name {c : Cx} {x : String} {p : Pos} {av : AV} {σ : St} {Ψ : St → Prop} {X : XP} (k : Ψ (σ.set x av)) (hx : CanStore c x := by exact Or.inl rfl) (hk : c.env.scope.kind = .function := by rfl) : Asg c (.Name (Str.ofString x) p) av σ Ψ X :=
  fun v s r pv Q E q xx => wpAny_assign_Name (storeLoc (Φ := fun _ σ' => Ψ σ') hk hx k s r pv Q E q xx)

def TurnF (inv : Nat → St → Prop) (i : Nat) (Φ : Fl → St → Prop) : Fl → St → Prop
  | .next, σ => inv (i + 1) σ
  | .cont, σ => inv (i + 1) σ
  | .brk, σ => Φ .next σ
  | .ret v, σ => Φ (.ret v) σ

theorem Ex.forH {c : Cx} {target iter : Expr} {body : List Stmt} {pos : Pos} {σ : St} {Φ : Fl → St → Prop} {X : XP} (R : List (Addr × AO))
    (h : Ev c iter σ (fun a σ₁ => ∃ (items : List AV) (inv : Nat → St → Prop), Itr c a items σ₁ (Hid c σ₁ R) ∧ inv 0 σ₁ ∧
      (∀ i x σ', items[i]? = some x → inv i σ' → Asg c target x σ' (fun σ₂ => Exs c body σ₂ (TurnF inv i Φ) noX) noX) ∧ (∀ σ', inv items.length σ' → Φ .next σ')) X)
    (hs : ∀ x, foldedSetIterable iter c.env x = pure x := by intro _; rfl) : Tri c (Hid c σ R) (exec (.For target iter body [] pos) c.env) FR σ Φ X := by
  intro s rp hR Q E q x
  refine wpAny_For (h s rp trivial _ _ (fun v a σ₁ s₁ r₁ f₁ va h₁ => ?_) x) hs
  obtain ⟨items, inv, it, h0, turn, done⟩ := h₁
  refine wpAny_with_toks r₁.tp (it v s₁ r₁ (hR.after rp f₁) va _ _ (fun I fp P St h' tk W hn hI hk hfp hst hP => fun htk0 => ?_))
  have nE : ∀ (E' : Value → Shared → Prop) (e : Value) (s' : Shared), False → E' e s' := fun _ _ _ z => z.elim
  refine codeAny_forLoop_any (fun n s' => ∃ i σ', n = items.length - i ∧ i ≤ items.length ∧ RepS c σ' s' ∧ Aft c σ₁ s₁ σ' s' ∧ inv i σ' ∧ St i s'.heap ∧ I ∉ feet σ'.own) (fun n s' hJ => ?_) items.length
    ⟨0, σ₁, rfl, Nat.zero_le _, ⟨r₁.keep hk, htk0⟩, Aft.keep hk, h0, hst, fun z => by obtain ⟨o, e⟩ := r₁.here I (List.mem_append_right _ z); rw [hn] at e; cases e⟩
  obtain ⟨i, σ', rfl, hi, r', f', hinv, hst', hIf⟩ := hJ
  have hIfr : I ∉ c.fr := fun z => by obtain ⟨o, e⟩ := r₁.here I (List.mem_append_left _ z); rw [hn] at e; cases e
  have hIK : I ∉ c.K := fun z => by obtain ⟨o, e, _⟩ := r₁.kh I (List.mem_append_left _ z); rw [hn] at e; cases e
  have hIb : c.b0.get? I = none := by
    cases e : c.b0.get? I with
    | none => rfl
    | some o => have := r₁.kb I o e; rw [hn] at this; cases this
  have hIfx : I ∉ c.fx := fun z => by obtain ⟨o, e, _⟩ := r₁.kh I (List.mem_append_right _ z); rw [hn] at e; cases e
  have hI3 : I ∉ c.fr ++ (c.fx ++ feet σ'.own) := fun z => by
    rcases List.mem_append.mp z with z | z
    · exact hIfr z
    · rcases List.mem_append.mp z with z | z
      · exact hIfx z
      · exact hIf z
  -- one step of the iterator
  have step : ∀ h₂ tk₂, (∀ b o, b ∉ [I] → s'.heap.get? b = some o → h₂.get? b = some o) → Rep c σ' h₂ ∧ Aft c σ₁ s₁ σ' { s' with heap := h₂, toks := tk₂ } := by
    intro h₂ tk₂ kk
    have kk' : ∀ b o, b ≠ I → s'.heap.get? b = some o → h₂.get? b = some o := fun b o n e => kk b o (by simpa using n) e
    have r2 : Rep c σ' h₂ := r'.keepBut kk' hI3 hIK hIb fun o e => by obtain ⟨o', e', nt, _⟩ := hI _ _ hst'; rw [e] at e'; cases e'; exact nt
    refine ⟨r2, ?_, fun b o g e => ?_, fun b o n e => ?_, f'.fs⟩
    · have := f'.rest; rw [this]
    · have hb : b ≠ I := fun z => by subst z; rw [hn] at e; cases e
      obtain ⟨p1, sl, p2⟩ := f'.sp b o g e
      exact ⟨fun z => kk' b o hb (p1 z), sl, kk' b _ hb p2⟩
    · have hb : b ≠ I := fun z => by subst z; rw [hn] at e; cases e
      obtain ⟨o', e'⟩ := f'.al b o n e
      exact ⟨o', kk' b o' hb e'⟩
  by_cases hlt : i < items.length
  · refine wpAny_with_toks r'.tp (W.item i s' _ _ hlt hst' fun v' h₂ tk₂ hPv hst₂ kk => fun htk => ?_)
    obtain ⟨oI, gI, ntI, ngI⟩ := hI _ _ hst₂
    obtain ⟨r2, f2⟩ := step h₂ tk₂ kk
    have hx : items[i]? = some items[i] := by simp [hlt]
    have va' : VR h₂ items[i] v' := (hP i _ v' hx hPv).after r₁ f2
    refine goOk gI ngI ?_
    refine turn i items[i] σ' hx hinv v' { s' with heap := h₂, toks := tk₂ } ⟨r2, htk⟩ va' _ _ (fun _ _ σ₃ s₃ r₃ f₃ _ h₃ => ?_) (fun _ _ _ _ _ z => z.elim)
    refine h₃ s₃ r₃ trivial _ _ (fun g fl σ₄ s₄ r₄ f₄ e h₄ => ?_) (fun _ _ _ _ _ z => z.elim)
    have f34 := f₃.trans f₄
    have fin : inv (i + 1) σ₄ → ∃ m, m < items.length - i ∧ ∃ j σ', m = items.length - j ∧ j ≤ items.length ∧ RepS c σ' s₄ ∧ Aft c σ₁ s₁ σ' s₄ ∧ inv j σ' ∧ St j s₄.heap ∧ I ∉ feet σ'.own := by
      intro hv
      refine ⟨items.length - (i + 1), by omega, i + 1, σ₄, rfl, hlt, r₄, f2.trans f34, hv, W.frame _ _ _ hst₂ fun b hb o e => ?_, fun z => ?_⟩
      · rcases hfp b hb with rfl | ⟨n1, n2, o1, e1⟩
        · exact f34.sp.get e (fun z => by
            rcases List.mem_append.mp z with z | z
            · exact hIfr z
            · exact hIf z) hIK
        · refine f34.sp.get e (fun z => ?_) n2
          rcases List.mem_append.mp z with z | z
          · exact n1 (List.mem_append_left _ z)
          · rcases f'.fs b z with z | z
            · exact n1 (List.mem_append_right _ z)
            · rw [e1] at z; cases z
      · rcases f34.fs I z with z | z
        · exact hIf z
        · rw [show ({ s' with heap := h₂, toks := tk₂ } : Shared).heap = h₂ from rfl, gI] at z; cases z
    cases fl with
    | next => cases e; exact fin h₄
    | cont => cases e; exact fin h₄
    | brk => cases e; exact q _ .next σ₄ s₄ r₄ (f₁.trans (f2.trans f34)) rfl h₄
    | ret av => obtain ⟨w, rfl, hw⟩ := e; exact q _ (.ret av) σ₄ s₄ r₄ (f₁.trans (f2.trans f34)) ⟨w, rfl, hw⟩ h₄
  · have hi' : i = items.length := by omega
    subst hi'
    refine wpAny_with_toks r'.tp (W.done s' _ _ hst' fun h₂ tk₂ kk => fun htk => ?_)
    obtain ⟨r2, f2⟩ := step h₂ tk₂ kk
    exact wpAny_execs_nil (q _ .next σ' _ ⟨r2, htk⟩ (f₁.trans f2) rfl (done σ' hinv))

theorem Ex.for {c : Cx} {target iter : Expr} {body : List Stmt} {pos : Pos} {σ : St} {Φ : Fl → St → Prop} {X : XP}
    (h : Ev c iter σ (fun a σ₁ => ∃ (items : List AV) (inv : Nat → St → Prop), Itr c a items σ₁ T0 ∧ inv 0 σ₁ ∧
      (∀ i x σ', items[i]? = some x → inv i σ' → Asg c target x σ' (fun σ₂ => Exs c body σ₂ (TurnF inv i Φ) noX) noX) ∧ (∀ σ', inv items.length σ' → Φ .next σ')) X)
    (hs : ∀ x, foldedSetIterable iter c.env x = pure x := by intro _; rfl) : Ex c (.For target iter body [] pos) σ Φ X := by
  refine fun s r _ Q E q x => Ex.forH [] (h.mono fun a σ₁ p => ?_) hs s r Hid.nil Q E q x
  obtain ⟨items, inv, it, a, b, d⟩ := p
  exact ⟨items, inv, fun v s r _ va Q E k => it v s r trivial va Q E k, a, b, d⟩

end Mine

-- AC
namespace Mine
open PySem PySem.Calls PyProof.Rows PySem.W

theorem Ns.slots {h h' : Heap} {a : Addr} {m : Str → Option Value} (n : h.Ns a m) (k : ∀ o, h.get? a = some o → ∃ sl, h'.get? a = some { o with slots := sl }) : h'.Ns a m := by
  obtain ⟨o, es, ep, g, d, r⟩ := n
  obtain ⟨sl, g'⟩ := k o g
  exact ⟨_, es, ep, g', d, r⟩
theorem IsCell.slots {h h' : Heap} {a : Addr} {v : Option Value} (n : h.IsCell a v) (k : ∀ o, h.get? a = some o → ∃ sl, h'.get? a = some { o with slots := sl }) : h'.IsCell a v := by
  obtain ⟨o, g, d⟩ := n
  obtain ⟨sl, g'⟩ := k o g
  exact ⟨_, g', d⟩

/-- the caller's state behind a call that may turn what it was lent (own), and the slots of frames (K') -/
theorem Rep.back {c : Cx} {loc : List (String × AV)} {own own' : List (Addr × AO)} {s s' : Shared} {K' F' : List Addr} (r : Rep c ⟨loc, own⟩ s.heap)
    (rest : s' = { s with heap := s'.heap, toks := s'.toks }) (sp : Sp K' (F' ++ feet own) s.heap s'.heap) (hF : ∀ a ∈ F', s.heap.get? a = none) (hK : ∀ a ∈ K', a ∈ c.fr ++ c.K)
    (al : ∀ a o, a ∉ feet own → s.heap.get? a = some o → ∃ o', s'.heap.get? a = some o') (ho : ∀ p ∈ own', OR s'.heap p.1 p.2) (hn : (feet own').Nodup) (fs : ∀ a ∈ feet own', a ∈ feet own ∨ s.heap.get? a = none)
    (kb : ∀ a o, c.b0.get? a = some o → s'.heap.get? a = some o) : Rep c ⟨loc, own'⟩ s'.heap ∧ Aft c ⟨loc, own⟩ s ⟨loc, own'⟩ s' := by
  have nF : ∀ a o, s.heap.get? a = some o → a ∉ feet own → a ∉ F' ++ feet own := fun a o e n z => by
    rcases List.mem_append.mp z with z | z
    · rw [hF a z] at e; cases e
    · exact n z
  have frn : ∀ a ∈ c.fr, a ∉ feet own := fun a ha z => (List.nodup_append.mp r.nd).2.2 a ha a (List.mem_append_right _ z) rfl
  have fxn : ∀ a ∈ c.fx, a ∉ feet own := fun a ha z => (List.nodup_append.mp (List.nodup_append.mp r.nd).2.1).2.2 a ha a z rfl
  have Kn : ∀ a ∈ c.K, a ∉ feet own := fun a ha z => (r.nk a (List.mem_append_right _ (List.mem_append_right _ z))).1 ha
  have sl : ∀ a, a ∉ feet own → ∀ o, s.heap.get? a = some o → ∃ sl, s'.heap.get? a = some { o with slots := sl } := fun a n o e => (sp a o (nF a o e n) e).2
  have frx : ∀ a ∈ c.fr, ∃ o, s.heap.get? a = some o ∧ NT o := r.frc
  have nt1 : NoTup s.heap (F' ++ feet own) := fun a ha o e => by
    rcases List.mem_append.mp ha with z | z
    · rw [hF a z] at e; cases e
    · exact r.noTup a (List.mem_append_right _ z) o e
  have nt2 : NoTup s.heap K' := fun a ha o e => by
    rcases List.mem_append.mp (hK a ha) with z | z
    · exact r.noTup a (List.mem_append_left _ z) o e
    · exact r.noTupK a z o e
  have ex : ∀ a ∈ c.fr ++ (c.fx ++ c.K), ∃ o, s.heap.get? a = some o ∧ NT o := fun a ha => by
    rcases List.mem_append.mp ha with z | z
    · exact r.frc a z
    · rcases List.mem_append.mp z with z | z
      · exact r.kh a (List.mem_append_right _ z)
      · exact r.kh a (List.mem_append_left _ z)
  refine ⟨⟨?_, r.lin, fun x a e1 e2 e3 => ?_, r.inj, ho, ?_, fun a ha => ?_, fun a ha => ?_, kb, r.kn, fun a ha => ?_, fun l e => ⟨?_, (r.ff l e).2⟩⟩, ⟨rest, fun a o n e => ?_, al, fs⟩⟩
  · obtain ⟨m, hns, hl⟩ := r.ns
    refine ⟨m, Ns.slots hns (sl _ (frn _ r.lin)), fun x av e => ?_⟩
    rcases hl x av e with ⟨i, v, j, k⟩ | ⟨i, a, v, j, k, n, q, t⟩
    · exact .inl ⟨i, v, j, k.mono sp nt1 nt2⟩
    · exact .inr ⟨i, a, v, j, k, n, IsCell.slots q (sl a (k.elim (frn a) (fxn a))), t.mono sp nt1 nt2⟩
  · obtain ⟨n, v, q⟩ := r.cel x a e1 e2 e3
    exact ⟨n, v, IsCell.slots q (sl a (frn a e3))⟩
  · have nd := r.nd
    rw [List.nodup_append] at nd ⊢
    obtain ⟨n1, n2, n3⟩ := nd
    rw [List.nodup_append] at n2
    obtain ⟨m1, m2, m3⟩ := n2
    have new : ∀ a ∈ c.fr ++ (c.fx ++ c.K), a ∉ feet own → a ∉ feet own' := fun a ha n z => by
      rcases fs a z with w | w
      · exact n w
      · obtain ⟨o, e, _⟩ := ex a ha; rw [w] at e; cases e
    refine ⟨n1, List.nodup_append.mpr ⟨m1, hn, fun a ha b hb => ?_⟩, fun a ha b hb => ?_⟩
    · rintro rfl
      exact new a (List.mem_append_right _ (List.mem_append_left _ ha)) (fxn a ha) hb
    · rintro rfl
      rcases List.mem_append.mp hb with z | z
      · exact n3 a ha a (List.mem_append_left _ z) rfl
      · exact new a (List.mem_append_left _ ha) (frn a ha) z
  · rcases List.mem_append.mp ha with z | z
    · exact r.nk a (List.mem_append_left _ z)
    · rcases List.mem_append.mp z with z | z
      · exact r.nk a (List.mem_append_right _ (List.mem_append_left _ z))
      · rcases fs a z with w | w
        · exact r.nk a (List.mem_append_right _ (List.mem_append_right _ w))
        · refine ⟨fun k => ?_, ?_⟩
          · obtain ⟨o, e, _⟩ := r.kh a (List.mem_append_left _ k); rw [w] at e; cases e
          · cases e : c.b0.get? a with
            | none => rfl
            | some o => have := r.kb a o e; rw [w] at this; cases this
  · obtain ⟨o, e, t⟩ := r.frc a ha
    obtain ⟨sl', e'⟩ := sl a (frn a ha) o e
    exact ⟨_, e', t.slots sl'⟩
  · obtain ⟨o, e, t⟩ := r.kh a ha
    have n : a ∉ feet own := by
      rcases List.mem_append.mp ha with z | z
      · exact Kn a z
      · exact fxn a z
    obtain ⟨sl', e'⟩ := sl a n o e
    exact ⟨_, e', t.slots sl'⟩
  · refine ffOf (r.ff l e).1 fun b hb o g d => ?_
    have n : b ∉ feet own := by
      rcases List.mem_append.mp ((r.ff l e).2 b hb) with z | z
      · exact frn b z
      · exact Kn b z
    obtain ⟨sl', e'⟩ := sl b n o g
    exact ⟨_, e', d⟩
  · have nf : a ∉ feet own := fun z => n (List.mem_append_right _ z)
    refine ⟨fun k => sp.get e (nF a o e nf) fun z => ?_, sl a nf o e⟩
    rcases List.mem_append.mp (hK a z) with w | w
    · exact n (List.mem_append_left _ w)
    · exact k w


/-- room, and frames that are known -/
structure Good (z : Bool) (n : Nat) (c : Cx) : Prop where
  hd : z = true → c.A.handled = none
  dp : c.A.depth + n < recursionLimit
  un : c.A.units + 20 * n < cLine
  kf : c.env.scope.kind = .function
  fr : ∃ l, c.A.frames = some l ∧ ∀ a ∈ l.filterMap (·.frame), a = c.env.locals ∨ a ∈ c.K
theorem Good.less {z : Bool} {n m : Nat} {c : Cx} (g : Good z n c) (h : m ≤ n) : Good z m c := ⟨g.hd, by have := g.dp; omega, by have := g.un; omega, g.kf, g.fr⟩
abbrev cx (prog : Program) (w : World) (b0 : Heap) (A : Around) (env : Env) (fr fx K : List Addr) : Cx := ⟨prog, w, b0, A, env, fr, fx, K⟩

/-- a code run to its value -/
abbrev runs (prog : Program) (w : World) (A : Around) (cd : Code) : (Value → Shared → Prop) → (Value → Shared → Prop) → Shared → Prop :=
  fun Q E s => codeAny (model prog w) A cd (fun r s' => match r with | .ok (.ret v) => Q v s' | .ok _ => False | .error e => E e s') s
/-- a callee's promise -/
def Fun (prog : Program) (w : World) (b0 : Heap) (z : Bool) (n : Nat) (f : Value) (args : List AV) (own : List (Addr × AO)) (Φ : AV → List (Addr × AO) → Prop) : Prop :=
  ∀ (A : Around) (env : Env) (fr fx K : List Addr) (loc : List (String × AV)), Good z n (cx prog w b0 A env fr fx K) →
    ∀ vs X, TriW (cx prog w b0 A env fr fx K) (fun h => VRs h args vs) (runs prog w A (.call f ⟨vs, []⟩)) VR ⟨loc, own⟩ (fun av σ' => σ'.loc = loc ∧ Φ av σ'.own) X
theorem Fun.call {prog : Program} {w : World} {b0 : Heap} {z : Bool} {n : Nat} {f : Value} {args : List AV} {own : List (Addr × AO)} {Ψ : AV → List (Addr × AO) → Prop} (F : Fun prog w b0 z n f args own Ψ)
    {A : Around} {env : Env} {fr fx K : List Addr} {loc : List (String × AV)} {X : XP} (g : Good z n (cx prog w b0 A env fr fx K)) (vs : List Value) :
    Tri (cx prog w b0 A env fr fx K) (fun h => VRs h args vs) (call f vs) VR ⟨loc, own⟩ (fun av σ' => σ'.loc = loc ∧ Ψ av σ'.own) X :=
  fun s r p Q E q _ => wpAny_call (F A env fr fx K loc g vs noX s r p Q E q (fun _ _ _ _ _ y => y.elim))

def retv : Fl → AV
  | .ret v => v
  | _ => .none

theorem bindL_off {k : Str → Option NameKind} {y : Str} : ∀ {l : List (Str × Value)} {m : Str → Option Value}, (∀ p ∈ l, p.1 ≠ y) → bindL k l m y = m y
  | [], _, _ => rfl
  | (n, v) :: r, m, h => by
    unfold bindL
    rw [bindL_off fun p hp => h p (.tail _ hp)]
    by_cases q : k n = some .local
    · rw [if_pos q]; simp only [if_neg (Ne.symm (h (n, v) (.head _)))]
    · rw [if_neg q]
theorem bindL_on {k : Str → Option NameKind} {y : Str} {v : Value} : ∀ {l : List (Str × Value)} {m : Str → Option Value}, (l.map (·.1)).Nodup → (y, v) ∈ l → k y = some .local → bindL k l m y = some v
  | (n, w) :: r, m, hn, hm, hk => by
    rw [List.map_cons, List.nodup_cons] at hn
    unfold bindL
    rcases List.mem_cons.mp hm with e | hm
    · cases e
      rw [bindL_off fun p hp z => hn.1 (List.mem_map.mpr ⟨p, hp, z⟩), if_pos hk]; simp
    · exact bindL_on hn.2 hm hk
theorem bindC_off {k : Str → Option NameKind} {y : Str} : ∀ {l : List (Str × Value)} {m : Str → Option Value}, (∀ p ∈ l, p.1 ≠ y) → bindC k l m y = m y
  | [], _, _ => rfl
  | (n, v) :: r, m, h => by
    unfold bindC
    rw [bindC_off fun p hp => h p (.tail _ hp)]
    by_cases q : k n = some .local
    · rw [if_pos q]
    · rw [if_neg q]; simp only [if_neg (Ne.symm (h (n, v) (.head _)))]
theorem bindC_on {k : Str → Option NameKind} {y : Str} {v : Value} : ∀ {l : List (Str × Value)} {m : Str → Option Value}, (l.map (·.1)).Nodup → (y, v) ∈ l → k y ≠ some .local → bindC k l m y = some v
  | (n, w) :: r, m, hn, hm, hk => by
    rw [List.map_cons, List.nodup_cons] at hn
    unfold bindC
    rcases List.mem_cons.mp hm with e | hm
    · cases e
      rw [bindC_off fun p hp z => hn.1 (List.mem_map.mpr ⟨p, hp, z⟩), if_neg hk]; simp
    · exact bindC_on hn.2 hm hk

theorem zip_lookup {h : Heap} {x : String} {av : AV} : ∀ {ps : List String} {args : List AV} {vs : List Value}, VRs h args vs → (ps.zip args).lookup x = some av → ∃ v, (Str.ofString x, v) ∈ (ps.map Str.ofString).zip vs ∧ VR h av v
  | [], _, _, _, e => by simp at e
  | _ :: _, [], _, _, e => by simp at e
  | p :: ps, a :: args, vs, q, e => by
    rw [VRs] at q
    obtain ⟨v, r, rfl, va, q⟩ := q
    rw [List.zip_cons_cons, List.lookup_cons] at e
    by_cases hx : x = p
    · subst hx
      simp only [beq_self_eq_true] at e
      cases e
      exact ⟨v, .head _, va⟩
    · have : (x == p) = false := by simpa using hx
      rw [this] at e
      obtain ⟨w, hm, hw⟩ := zip_lookup q e
      exact ⟨w, .tail _ hm, hw⟩

end Mine

-- AX
namespace Mine
open PySem PySem.Calls PyProof.Rows PySem.W

theorem set_split {α : Type} {l : List α} {i : Nat} {a x : α} (e : l[i]? = some a) : l = l.take i ++ a :: l.drop (i + 1) ∧ l.set i x = l.take i ++ x :: l.drop (i + 1) := by
  obtain ⟨hi, rfl⟩ := List.getElem?_eq_some_iff.mp e
  refine ⟨?_, ?_⟩
  · rw [← List.drop_eq_getElem_cons hi, List.take_append_drop]
  · exact List.set_eq_take_append_cons_drop.trans (if_pos hi)

/-- an owned object turned -/
theorem Rep.upd {c : Cx} {σ : St} {h h' : Heap} {i : Nat} {a : Addr} {ao ao' : AO} (r : Rep c σ h) (e : σ.own[i]? = some (a, ao)) (sp : Sp [] (foot a ao) h h') (o : OR h' a ao') (f : foot a ao' = foot a ao) :
    Rep c ⟨σ.loc, σ.own.set i (a, ao')⟩ h' ∧ feet (σ.own.set i (a, ao')) = feet σ.own ∧ (∀ b ∈ foot a ao, b ∈ c.fr ++ feet σ.own) := by
  obtain ⟨s1, s2⟩ := set_split (x := (a, ao')) e
  have ft : feet (σ.own.set i (a, ao')) = feet σ.own := by
    rw [s2]; conv => rhs; rw [s1]
    rw [feet_append, feet_cons, feet_append, feet_cons, f]
  have mem : ∀ b ∈ foot a ao, b ∈ feet σ.own := fun b hb => List.mem_flatMap.mpr ⟨(a, ao), List.mem_of_getElem? e, hb⟩
  have hG : ∀ b ∈ foot a ao, b ∈ c.fr ++ feet σ.own := fun b hb => List.mem_append_right _ (mem b hb)
  have nt := r.ntOf hG
  have frn : ∀ b ∈ c.fr, b ∉ foot a ao := fun b hb z => (List.nodup_append.mp r.nd).2.2 b hb b (List.mem_append_right _ (mem b z)) rfl
  have fxn : ∀ b ∈ c.fx, b ∉ foot a ao := fun b hb z => (List.nodup_append.mp (List.nodup_append.mp r.nd).2.1).2.2 b hb b (mem b z) rfl
  have nd := r.feetNodup
  rw [s1, feet_append, feet_cons] at nd
  obtain ⟨n1, n2, n3⟩ := List.nodup_append.mp nd
  obtain ⟨n4, n5, n6⟩ := List.nodup_append.mp n2
  refine ⟨r.chg hG sp ?_ (fun x b e1 e2 e3 => ?_) (fun p hp => ?_) ft (fun b hb z => absurd hb (frn b z)) r.nfr, ft, hG⟩
  · obtain ⟨m, hn, hl⟩ := r.ns
    refine ⟨m, hn.at' fun o e => sp.get e (frn _ r.lin) (by simp), fun x av e => ?_⟩
    rcases hl x av e with ⟨i, v, j, k⟩ | ⟨i, b, v, j, k, n, ⟨o, g, d⟩, t⟩
    · exact .inl ⟨i, v, j, k.mono sp nt⟩
    · exact .inr ⟨i, b, v, j, k, n, ⟨o, sp.get g (k.elim (frn b) (fxn b)) (by simp), d⟩, t.mono sp nt⟩
  · obtain ⟨n, v, o, g, d⟩ := r.cel x b e1 e2 e3
    exact ⟨v, o, sp.get g (frn b e3) (by simp), d⟩
  · rw [s2] at hp
    rcases List.mem_append.mp hp with z | z
    · refine (r.own p (by rw [s1]; exact List.mem_append_left _ z)).mono sp nt fun b hb => ⟨fun w => ?_, by simp⟩
      exact n3 b (List.mem_flatMap.mpr ⟨p, z, hb⟩) b (List.mem_append_left _ w) rfl
    · rcases List.mem_cons.mp z with rfl | z
      · exact o
      · refine (r.own p (by rw [s1]; exact List.mem_append_right _ (.tail _ z))).mono sp nt fun b hb => ⟨fun w => ?_, by simp⟩
        exact n6 b w b (List.mem_flatMap.mpr ⟨p, z, hb⟩) rfl

theorem Aft.upd {c : Cx} {σ : St} {s : Shared} {h' : Heap} {tk : Nat} {i : Nat} {a : Addr} {ao ao' : AO} (e : σ.own[i]? = some (a, ao)) (sp : Sp [] (foot a ao) s.heap h') (o : OR h' a ao') (f : foot a ao' = foot a ao)
    (ft : feet (σ.own.set i (a, ao')) = feet σ.own) (hG : ∀ b ∈ foot a ao, b ∈ c.fr ++ feet σ.own) : Aft c σ s ⟨σ.loc, σ.own.set i (a, ao')⟩ { s with heap := h', toks := tk } :=
  Aft.chg hG sp (fun b hb => o.here b (by rw [f]; exact hb)) ft

/-- a step that turns one owned object -/
theorem Tri.updStep {α β : Type} {c : Cx} {P : Heap → Prop} {t : Sem α} {V : Heap → β → α → Prop} {σ : St} {Φ : β → St → Prop} {X : XP} {i : Nat} {a : Addr} {ao ao' : AO} {x : β} (e : σ.own[i]? = some (a, ao)) (f : foot a ao' = foot a ao) (k : Φ x ⟨σ.loc, σ.own.set i (a, ao')⟩)
    (h : ∀ s, P s.heap → RepS c σ s → OR s.heap a ao → ∀ (Q : α → Shared → Prop) (E : Value → Shared → Prop),
      (∀ v h' tk, Sp [] (foot a ao) s.heap h' → OR h' a ao' → V h' x v → Q v { s with heap := h', toks := tk }) → wpAny (model c.prog c.w) c.A t Q E s) : Tri c P t V σ Φ X := by
  refine Tri.ofH fun s r p Q E q _ => ?_
  refine h s p r (r.own _ (List.mem_of_getElem? e)) Q E fun v h' tk sp o vv => ?_
  obtain ⟨r', ft, hG⟩ := r.toRep.upd e sp o f
  exact q v x _ _ r' (Aft.upd e sp o f ft hG) vv k

/-- a step that makes an object -/
theorem Rep.new {c : Cx} {σ : St} {h : Heap} {o : Obj} {ao : AO} (r : Rep c σ h) (hf : foot h.objs.size ao = [h.objs.size]) (ho : OR (h.push o) h.objs.size ao) : Rep c ⟨σ.loc, (h.objs.size, ao) :: σ.own⟩ (h.push o) := by
  have k : ∀ a o', h.get? a = some o' → (h.push o).get? a = some o' := fun a o' e => Heap.get?_push_of_some _ e
  have r' := r.keep k
  have hn : h.get? h.objs.size = none := Heap.get?_none_of_le (Nat.le_refl _)
  have no : ∀ a ∈ c.fr ++ (c.fx ++ feet σ.own), a ≠ h.objs.size := fun a ha z => by
    have : ∃ o, h.get? a = some o := by
      rcases List.mem_append.mp ha with w | w
      · obtain ⟨o, e, _⟩ := r.frc a w; exact ⟨o, e⟩
      · rcases List.mem_append.mp w with w | w
        · obtain ⟨o, e, _⟩ := r.kh a (List.mem_append_right _ w); exact ⟨o, e⟩
        · exact r.here a (List.mem_append_right _ w)
    obtain ⟨o, e⟩ := this
    rw [z, hn] at e; cases e
  refine ⟨r'.ns, r'.lin, r'.cel, r'.inj, fun p hp => ?_, ?_, fun a ha => ?_, r'.frc, r'.kb, r'.kn, r'.kh, r'.ff⟩
  · rcases List.mem_cons.mp hp with rfl | hp
    · exact ho
    · exact r'.own p hp
  · have nd := r.nd
    rw [feet_cons, hf]
    refine List.nodup_append.mpr ⟨(List.nodup_append.mp nd).1, List.nodup_append.mpr ⟨(List.nodup_append.mp (List.nodup_append.mp nd).2.1).1, List.nodup_cons.mpr ⟨fun z => no _ (List.mem_append_right _ (List.mem_append_right _ z)) rfl, r.feetNodup⟩, fun a ha b hb => ?_⟩, fun a ha b hb => ?_⟩
    · rintro rfl
      rcases List.mem_append.mp hb with z | z
      · exact no a (List.mem_append_right _ (List.mem_append_left _ ha)) (List.mem_singleton.mp z)
      · exact (List.nodup_append.mp (List.nodup_append.mp nd).2.1).2.2 a ha a z rfl
    · rintro rfl
      rcases List.mem_append.mp hb with z | z
      · exact (List.nodup_append.mp nd).2.2 a ha a (List.mem_append_left _ z) rfl
      · rcases List.mem_append.mp z with z | z
        · exact no a (List.mem_append_left _ ha) (List.mem_singleton.mp z)
        · exact (List.nodup_append.mp nd).2.2 a ha a (List.mem_append_right _ z) rfl
  · rw [feet_cons, hf] at ha
    rcases List.mem_append.mp ha with z | z
    · exact r.nk a (List.mem_append_left _ z)
    · rcases List.mem_append.mp z with z | z
      · exact r.nk a (List.mem_append_right _ (List.mem_append_left _ z))
      · rcases List.mem_append.mp z with z | z
        · have z := List.mem_singleton.mp z; subst z
          refine ⟨fun kk => ?_, ?_⟩
          · obtain ⟨o, e, _⟩ := r.kh _ (List.mem_append_left _ kk); rw [hn] at e; cases e
          · cases e : c.b0.get? h.objs.size with
            | none => rfl
            | some o => have := r.kb _ o e; rw [hn] at this; cases this
        · exact r.nk a (List.mem_append_right _ (List.mem_append_right _ z))
theorem Aft.new {c : Cx} {σ : St} {s : Shared} {o : Obj} {ao : AO} {tk : Nat} (hf : foot s.heap.objs.size ao = [s.heap.objs.size]) : Aft c σ s ⟨σ.loc, (s.heap.objs.size, ao) :: σ.own⟩ { s with heap := s.heap.push o, toks := tk } := by
  refine ⟨rfl, Sp.of_keep fun a o' _ e => Heap.get?_push_of_some _ e, fun a o' _ e => ⟨o', Heap.get?_push_of_some _ e⟩, fun a ha => ?_⟩
  rw [feet_cons, hf] at ha
  rcases List.mem_append.mp ha with z | z
  · right; rw [List.mem_singleton.mp z]; exact Heap.get?_none_of_le (Nat.le_refl _)
  · exact .inl z

theorem Tri.newList {α : Type} {c : Cx} {P : Heap → Prop} {t : Sem Value} {σ : St} {Φ : AV → St → Prop} {X : XP} {l : List AV} (k : ∀ a, Φ (.ref a) ⟨σ.loc, (a, .list l) :: σ.own⟩)
    (h : ∀ s, P s.heap → RepS c σ s → ∀ (Q : Value → Shared → Prop) (E : Value → Shared → Prop),
      (∀ vs n tk, VRs s.heap l vs → Q (.ref s.heap.objs.size) { s with heap := s.heap.push (listObj vs n), toks := tk }) → wpAny (model c.prog c.w) c.A t Q E s) : Tri c P t VR σ Φ X := by
  refine Tri.ofH fun s r p Q E q _ => ?_
  refine h s p r Q E fun vs n tk hv => ?_
  have ho : OR (s.heap.push (listObj vs n)) s.heap.objs.size (.list l) := ⟨vs, n, Heap.get?_push_size _ rfl, hv.mono (K := []) (F := []) (Sp.of_keep fun a o _ e => Heap.get?_push_of_some _ e) NoTup.nil NoTup.nil⟩
  exact q _ (.ref s.heap.objs.size) _ _ (r.toRep.new rfl ho) (Aft.new rfl) VR.mkRef (k _)

/-! arguments, calls -/
abbrev Arg (c : Cx) (pos : Pos) (es : List Expr) (σ : St) (Φ : List AV → St → Prop) (X : XP) : Prop := Tri c T0 (spliced (backTo pos (starEach es c.env))) VRs σ Φ X
theorem Arg.nil {c : Cx} {pos : Pos} {σ : St} {Φ : List AV → St → Prop} {X : XP} (k : Φ [] σ) : Arg c pos [] σ Φ X :=
  fun s r _ Q E q _ => spliced_nil (q [] [] σ s r .refl (by rw [VRs]) k)
theorem Arg.cons {c : Cx} {pos : Pos} {e : Expr} {es : List Expr} {σ : St} {Φ : List AV → St → Prop} {X : XP} (h : Ev c e σ (fun a σ₁ => Arg c pos es σ₁ (fun l σ₂ => Φ (a :: l) σ₂) X) X)
    (hs : starEach (e :: es) c.env = (false, eval e c.env) :: starEach es c.env := by rfl) : Arg c pos (e :: es) σ Φ X := by
  intro s r _ Q E q x
  show wpAny _ _ (spliced (backTo pos (starEach (e :: es) c.env))) Q E s
  rw [hs]
  refine spliced_cons (h s r trivial _ _ (fun v a σ₁ s₁ r₁ f₁ va h₁ => ?_) x)
  refine h₁ s₁ r₁ trivial _ _ (fun vs l σ₂ s₂ r₂ f₂ vl h₂ => ?_) (x.go f₁)
  exact q (v :: vs) (a :: l) σ₂ s₂ r₂ (f₁.trans f₂) (by rw [VRs]; exact ⟨v, vs, rfl, va.after r₁ f₂, vl⟩) h₂

abbrev Cal (c : Cx) (f : Value) (args : List AV) (σ : St) (Φ : AV → St → Prop) (X : XP) : Prop := ∀ vs, Tri c (fun h => VRs h args vs) (call f vs) VR σ Φ X

theorem evalArgs_any {c : Cx} {pos : Pos} {es : List Expr} {f : Value} {E : Value → Shared → Prop} {s : Shared} {Q : Args → Shared → Prop}
    (hs : (backTo pos (starEach es c.env)).any (·.1) = false) (h : wpAny (model c.prog c.w) c.A (spliced (backTo pos (starEach es c.env))) (fun vs s' => Q ⟨vs, []⟩ s') E s) :
    wpAny (model c.prog c.w) c.A (evalArgs f true (backTo pos (starEach es c.env)) []) Q E s := by
  generalize backTo pos (starEach es c.env) = l at hs h
  cases l with
  | nil =>
    unfold evalArgs
    show wpAny _ _ (spliced [] >>= _) Q E s
    refine wpAny_bind (wpAny_mono h (fun vs s' h' => ?_) fun _ _ x => x)
    refine wpAny_holding ?_
    exact wpAny_bind (wpAny_pure (wpAny_bind (wpAny_pure (wpAny_pure h'))))
  | cons p r =>
    obtain ⟨b, t⟩ := p
    cases b with
    | true => simp at hs
    | false => exact evalArgs_plain h


theorem VRs.nil {h : Heap} : VRs h [] [] := by rw [VRs]
theorem VRs.cons {h : Heap} {x : AV} {v : Value} {l : List AV} {vs : List Value} (a : VR h x v) (b : VRs h l vs) : VRs h (x :: l) (v :: vs) := by rw [VRs]; exact ⟨v, vs, rfl, a, b⟩
theorem call_bi {c : Cx} {pos : Pos} {es : List Expr} {id : String} {first : List Value} {fa : List AV} {σ : St} {Φ : AV → St → Prop} {X : XP}
    (h : Arg c pos es σ (fun l σ₁ => ∀ vs, Tri c (fun h => VRs h fa first ∧ VRs h l vs) (call (.builtin id) (first ++ vs)) VR σ₁ Φ X) X) (hs : (backTo pos (starEach es c.env)).any (·.1) = false := by rfl) :
    Tri c (fun h => VRs h fa first) (callWith pos (.builtin id) first (backTo pos (starEach es c.env)) []) VR σ Φ X := by
  intro s r p Q E q x
  refine callWith_builtin hs (evalArgs_any hs (h s r trivial _ _ (fun vs l σ₁ s₁ r₁ f₁ vl h₁ => ?_) x))
  exact h₁ vs s₁ r₁ ⟨p.after r f₁, vl⟩ Q E (q.go f₁) (x.go f₁)

theorem Ev.callB {c : Cx} {f : Str} {fp pos : Pos} {es : List Expr} {id : String} {σ : St} {Φ : AV → St → Prop} {X : XP}
    (hf : Ev c (.Name f fp) σ (fun a σ₁ => a = .bi id ∧ Arg c pos es σ₁ (fun l σ₂ => Cal c (.builtin id) l σ₂ Φ X) X) X) (hs : (backTo pos (starEach es c.env)).any (·.1) = false := by rfl) : Ev c (.Call (.Name f fp) es [] pos) σ Φ X := by
  intro s r _ Q E q x
  refine wpAny_Call_ofName (hf s r trivial _ _ (fun v a σ₁ s₁ r₁ f₁ va h₁ => ?_) x)
  obtain ⟨rfl, h₁⟩ := h₁
  rw [VR] at va; subst va
  refine call_bi (fa := []) (first := []) ?_ hs s₁ r₁ VRs.nil Q E (q.go f₁) (x.go f₁)
  exact h₁.mono fun l σ₂ h₂ vs s₂ r₂ p Q E q x => h₂ vs s₂ r₂ p.2 Q E q x

theorem Ev.callT {c : Cx} {f : Str} {fp pos : Pos} {es : List Expr} {id : String} {σ : St} {Φ : AV → St → Prop} {X : XP}
    (hf : Ev c (.Name f fp) σ (fun a σ₁ => a = .ty id ∧ Arg c pos es σ₁ (fun l σ₂ => Cal c (.type id) l σ₂ Φ X) X) X) (hs : (backTo pos (starEach es c.env)).any (·.1) = false := by rfl) : Ev c (.Call (.Name f fp) es [] pos) σ Φ X := by
  intro s r _ Q E q x
  refine wpAny_Call_ofName (hf s r trivial _ _ (fun v a σ₁ s₁ r₁ f₁ va h₁ => ?_) x)
  obtain ⟨rfl, h₁⟩ := h₁
  rw [VR] at va; subst va
  refine PySem.callWith_type hs (evalArgs_any hs (h₁ s₁ r₁ trivial _ _ (fun vs l σ₂ s₂ r₂ f₂ vl h₂ => ?_) (x.go f₁)))
  exact h₂ vs s₂ r₂ vl Q E ((q.go f₁).go f₂) ((x.go f₁).go f₂)

/-- a def of the text's -/
theorem Ev.callF {c : Cx} {f : Str} {fp pos : Pos} {es : List Expr} {fa : Addr} {fo : Obj} {fd : FuncData} {σ : St} {Φ : AV → St → Prop} {X : XP} (ho : c.b0.get? fa = some fo) (hd : fo.data = .func fd)
    (hf : Ev c (.Name f fp) σ (fun a σ₁ => a = .ref fa ∧ Arg c pos es σ₁ (fun l σ₂ => Cal c (.ref fa) l σ₂ Φ X) X) X) (hs : (backTo pos (starEach es c.env)).any (·.1) = false := by rfl) : Ev c (.Call (.Name f fp) es [] pos) σ Φ X := by
  intro s r _ Q E q x
  refine wpAny_Call_ofName (hf s r trivial _ _ (fun v a σ₁ s₁ r₁ f₁ va h₁ => ?_) x)
  obtain ⟨rfl, h₁⟩ := h₁
  rw [VR] at va; subst va
  refine callWith_function (o := fo) (fd := fd) (evalArgs_any hs (h₁ s₁ r₁ trivial _ _ (fun vs l σ₂ s₂ r₂ f₂ vl h₂ => ?_) (x.go f₁)))
  exact ⟨⟨r₂.kb _ _ ho, hd⟩, h₂ vs s₂ r₂ vl Q E ((q.go f₁).go f₂) ((x.go f₁).go f₂)⟩

/-- a promise taken, what the callee is not lent hidden -/
theorem Fun.use {prog : Program} {w : World} {b0 : Heap} {z : Bool} {n : Nat} {f : Value} {args : List AV} {own R : List (Addr × AO)} {Ψ : AV → List (Addr × AO) → Prop} (F : Fun prog w b0 z n f args own Ψ)
    {A : Around} {env : Env} {fr fx K : List Addr} {loc : List (String × AV)} {Φ : AV → St → Prop} {X : XP} (g : Good z n (cx prog w b0 A env fr fx K))
    (k : ∀ av own', Ψ av own' → Φ av ⟨loc, own' ++ R⟩) : Cal (cx prog w b0 A env fr fx K) f args ⟨loc, own ++ R⟩ Φ X := fun vs =>
  Tri.frame (fun s r p Q E q x => F.call (X := noX) g vs s r p.1 Q E (fun v av σ' s' r' f' vv h => by
    obtain ⟨loc', own'⟩ := σ'
    obtain ⟨rfl, h⟩ := h
    exact q v av _ s' r' f' vv (k av own' h)) (fun _ _ _ _ _ y => y.elim))

/-! displays -/
theorem push_keep {h : Heap} {o : Obj} : ∀ a o', h.get? a = some o' → (h.push o).get? a = some o' := fun _ _ e => Heap.get?_push_of_some _ e
theorem Ev.tuple {c : Cx} {es : List Expr} {k : Nat} {pos : Pos} {σ : St} {Φ : AV → St → Prop} {X : XP} (h : Arg c pos es σ (fun l σ₁ => l.length ≤ 16777216 ∧ Φ (.tup l) σ₁) X) : Ev c (.Tuple es k pos) σ Φ X := by
  refine Tri.ofH fun s r _ Q E q x => ?_
  refine wpAny_Tuple (h s r trivial _ _ (fun vs l σ₁ s₁ r₁ f₁ vl h₁ => ?_) x)
  refine ⟨by rw [vl.length, sizeLine_eq]; exact h₁.1, ?_⟩
  refine q _ (.tup l) σ₁ _ (r₁.keep push_keep) (f₁.trans (Aft.keep (tk := s₁.toks) push_keep)) ?_ h₁.2
  rw [VR]
  exact ⟨_, vs, 0, rfl, Heap.get?_push_size _ rfl, vl.mono (K := []) (F := []) (Sp.of_keep fun a o _ e => push_keep a o e) NoTup.nil NoTup.nil⟩
theorem Ev.list {c : Cx} {es : List Expr} {pos : Pos} {σ : St} {Φ : AV → St → Prop} {X : XP} (h : Arg c pos es σ (fun l σ₁ => l.length ≤ 16777216 ∧ ∀ a, Φ (.ref a) ⟨σ₁.loc, (a, .list l) :: σ₁.own⟩) X) : Ev c (.List es pos) σ Φ X := by
  refine Tri.ofH fun s r _ Q E q x => ?_
  refine List_ (h s r trivial _ _ (fun vs l σ₁ s₁ r₁ f₁ vl h₁ => ?_) x)
  have hz : vs.length ≤ sizeLine := by rw [vl.length, sizeLine_eq]; exact h₁.1
  with_reducible refine wpAny_newList ?_ hz
  have ho : OR (s₁.heap.push (listObj vs 0)) s₁.heap.objs.size (.list l) := ⟨vs, 0, Heap.get?_push_size _ rfl, vl.mono (K := []) (F := []) (Sp.of_keep fun a o _ e => push_keep a o e) NoTup.nil NoTup.nil⟩
  exact q _ (.ref _) _ _ (r₁.toRep.new rfl ho) (f₁.trans (Aft.new (tk := s₁.toks) rfl)) VR.mkRef (h₁.2 _)

/-! unpacking -/
abbrev AsgL (c : Cx) (ts : List (Value → Sem Unit)) (l : List AV) (σ : St) (Ψ : St → Prop) (X : XP) : Prop := ∀ vs, Tri c (fun h => VRs h l vs) (assignInOrder ts vs) (fun _ (_ : Unit) _ => True) σ (fun _ σ' => Ψ σ') X
theorem AsgL.nil {c : Cx} {σ : St} {Ψ : St → Prop} {X : XP} (k : Ψ σ) : AsgL c [] [] σ Ψ X := fun vs s r p Q E q _ => by
  replace p : VRs s.heap [] vs := p
  rw [VRs] at p; subst p
  exact wpAny_assignInOrder_none (q () () σ s r .refl trivial k)
theorem AsgL.cons {c : Cx} {t : Expr} {ts : List (Value → Sem Unit)} {x : AV} {l : List AV} {σ : St} {Ψ : St → Prop} {X : XP} (h : Asg c t x σ (fun σ₁ => AsgL c ts l σ₁ Ψ X) X) : AsgL c ((assign t c.env) :: ts) (x :: l) σ Ψ X := fun vs s r p Q E q xx => by
  replace p : VRs s.heap (x :: l) vs := p
  rw [VRs] at p
  obtain ⟨v, vs, rfl, pv, pl⟩ := p
  refine wpAny_assignInOrder_more (h v s r pv _ _ (fun _ _ σ₁ s₁ r₁ f₁ _ h₁ => ?_) xx)
  exact h₁ vs s₁ r₁ (pl.after r f₁) Q E (q.go f₁) (xx.go f₁)
theorem Asg.tuple {c : Cx} {es : List Expr} {k : Nat} {pos : Pos} {l : List AV} {σ : St} {Ψ : St → Prop} {X : XP} (hd : c.A.handled = none) (hl : (assignEach es c.env).length = l.length)
    (h : AsgL c ((assignEach es c.env).map (·.2)) l σ Ψ X) (hn : (assignEach es c.env).findIdx? (·.1) = none := by rfl) : Asg c (.Tuple es k pos) (.tup l) σ Ψ X := fun v s r p Q E q xx => by
  replace p : VR s.heap (.tup l) v := p
  rw [VR] at p
  obtain ⟨a, vs, n, rfl, g, pl⟩ := p
  refine wpAny_assign_Tuple hd (items := vs.toArray) ⟨_, g, rfl, n, rfl⟩ (by rw [hl, List.size_toArray, pl.length]) hn (fun h' ex => ?_)
  have kk : ∀ b o, s.heap.get? b = some o → h'.get? b = some o := fun b o e => ex b o (Nat.ne_of_lt (Heap.lt_size e)) e
  have sp : Sp [] [] s.heap h' := Sp.of_keep fun b o _ e => kk b o e
  exact h vs { s with heap := h' } ⟨r.keep kk, r.tp⟩ (pl.mono sp NoTup.nil NoTup.nil) Q E (q.go (Aft.keep (tk := s.toks) kk)) (xx.go (Aft.keep (tk := s.toks) kk))

theorem Ex.assignTuple {c : Cx} {es : List Expr} {k : Nat} {p pos : Pos} {e : Expr} {σ : St} {Φ : Fl → St → Prop} {X : XP} (h : Ev c e σ (fun av σ₁ => Asg c (.Tuple es k p) av σ₁ (fun σ₂ => Φ .next σ₂) X) X)
    (hs : swapsWithSole [.Tuple es k p] e pos.line c.env = pure false := by rfl) (hw : swappedStores [.Tuple es k p] e c.env = pure none := by rfl) : Ex c (.Assign [.Tuple es k p] e pos) σ Φ X := by
  intro s r _ Q E q x
  refine wpAny_Assign_stores (h s r trivial _ _ (fun v av σ₁ s₁ r₁ f₁ va h₁ => ?_) x) hs hw
  exact h₁ v s₁ r₁ va _ _ (fun _ _ σ₂ s₂ r₂ f₂ _ h₂ => q _ .next σ₂ s₂ r₂ (f₁.trans f₂) rfl h₂) (x.go f₁)

end Mine

-- AY
namespace Mine
open PySem PySem.Calls PyProof.Rows PySem.W

theorem VRs.get' {h : Heap} {l : List AV} {vs : List Value} {i : Nat} {x : AV} {v : Value} (q : VRs h l vs) (e : l[i]? = some x) (e' : vs[i]? = some v) : VR h x v := by
  obtain ⟨w, a, b⟩ := q.get e
  rw [e'] at a; cases a; exact b

theorem Itr.range {c : Cx} {a b : Int} {σ : St} {PH : Heap → Prop} (hd : c.A.handled = none) (ha : -(2 ^ 62) ≤ a) (ha' : a < 2 ^ 62) (hb : -(2 ^ 62) ≤ b) (hb' : b < 2 ^ 62) :
    Itr c (.rng a b 1) ((List.range (b - a).toNat).map fun (i : Nat) => .int (a + i)) σ PH := by
  intro v s r _ va Q E q
  rw [VR] at va
  obtain ⟨rr, t, u, w, rfl, g⟩ := va
  refine wpAny_pyIter_range g (small_one ha ha' hb hb') ?_
  have hrs : Builtin.Range.rangeSize a b 1 = ((b - a).toNat : Int) := by rw [rangeSize_one]; split <;> omega
  have hW := Walks.range (prog := c.prog) (w := c.w) (A := c.A) hd s.heap.objs.size a 1 (b - a).toNat
  have hlen : ((List.range (b - a).toNat).map fun (i : Nat) => AV.int (a + i)).length = (b - a).toNat := by simp
  rw [← hlen] at hW
  refine q s.heap.objs.size [s.heap.objs.size] _ _ _ s.toks hW (Heap.get?_none_of_le (Nat.le_refl _)) (fun i h st => ⟨_, st, .of_cls (by simp) (by simp), _, rfl, by decide⟩) push_keep (fun b hb => .inl (List.mem_singleton.mp hb)) ?_ (fun i x v' e p => ?_)
  · show IsRangeIter _ _ _ _ _
    rw [hlen]
    have e := Heap.get?_push_size s.heap (o := { cls := .type "range_iterator", data := .fields #[rawInt a, rawInt (Builtin.Range.rangeSize a b 1), rawInt 1] }) rfl
    rw [hrs] at e ⊢
    simpa using e
  · obtain ⟨t, rfl⟩ := p
    rw [List.getElem?_map] at e
    cases hq : (List.range (b - a).toNat)[i]? with
    | none => rw [hq] at e; cases e
    | some j =>
      rw [hq] at e
      have := List.getElem?_eq_some_iff.mp hq
      obtain ⟨h1, h2⟩ := this
      rw [List.getElem_range] at h2; subst h2
      simp only [Option.map_some, Option.some.injEq] at e
      subst e
      rw [Int.mul_one]; exact VR.mkInt

theorem Itr.str {c : Cx} {l : List Nat} {σ : St} {PH : Heap → Prop} (hd : c.A.handled = none) : Itr c (.str l) (l.map fun k => .str [k]) σ PH := by
  intro v s r _ va Q E q
  rw [VR] at va
  obtain ⟨t, rfl⟩ := va
  have fin : ∀ (ty : String), ty ≠ "tuple" → ty ≠ "range" → (["enumerate", "zip", "dict_itemiterator", "dict_reverseitemiterator", "odict_iterator", "itertools.zip_longest", "itertools.pairwise"].contains ty) = false → Walks c.prog c.w c.A s.heap.objs.size [s.heap.objs.size] [s.heap.objs.size] (⟨l.toArray⟩ : Str).cps.size (SignAt ⟨l.toArray⟩) (fun i h => h.IsStrIter s.heap.objs.size ty ⟨l.toArray⟩ t i) →
      Q (.ref s.heap.objs.size) { s with heap := s.heap.push { cls := .type ty, data := .fields #[.str ⟨l.toArray⟩ t, .int 0 0] } } := by
    intro ty t1 t2 t3 hW
    have hlen : (⟨l.toArray⟩ : Str).cps.size = (l.map fun k => AV.str [k]).length := by simp
    rw [hlen] at hW
    refine q s.heap.objs.size _ _ _ _ s.toks hW (Heap.get?_none_of_le (Nat.le_refl _)) (fun i h st => ?_) push_keep (fun b hb => .inl (List.mem_singleton.mp hb)) ⟨_, Heap.get?_push_size _ rfl, rfl, rfl⟩ (fun i x v' e p => ?_)
    · obtain ⟨o, g, e, _⟩ := st
      exact ⟨o, g, .of_cls (by rw [e]; simpa using t1) (by rw [e]; simpa using t2), _, e, t3⟩
    · obtain ⟨k, u, e1, rfl⟩ := p
      rw [List.getElem?_map] at e
      have e2 : l[i]? = some k := by simpa using e1
      rw [e2] at e
      simp only [Option.map_some, Option.some.injEq] at e
      subst e; exact VR.mkStr
  refine wpAny_pyIter_strU ?_
  unfold strIterType
  split
  · rename_i ha
    exact fin _ (by decide) (by decide) (by decide) (Walks.strAscii hd _ _ _)
  · exact fin _ (by decide) (by decide) (by decide) (Walks.strWide hd _ _ _)

/-- a list that is hidden -/
theorem Itr.list {c : Cx} {a : Addr} {l : List AV} {σ : St} {R : List (Addr × AO)} (hd : c.A.handled = none) (hm : (a, .list l) ∈ R) : Itr c (.ref a) l σ (Hid c σ R) := by
  intro v s r hR va Q E q
  rw [VR] at va; subst va
  obtain ⟨⟨vs, n, g, hv⟩, d⟩ := hR _ hm
  have il : s.heap.IsList a vs.toArray := ⟨_, g, rfl, n, rfl⟩
  refine wpAny_pyIter_list il ?_
  have hne : a ≠ s.heap.objs.size := Nat.ne_of_lt (Heap.lt_size g)
  have hW := Walks.list (prog := c.prog) (w := c.w) (A := c.A) hd s.heap.objs.size a hne vs.toArray
  have hz : vs.toArray.size = l.length := by rw [List.size_toArray, hv.length]
  rw [hz] at hW
  refine q s.heap.objs.size _ _ _ _ s.toks hW (Heap.get?_none_of_le (Nat.le_refl _)) (fun i h st => ?_) push_keep (fun b hb => ?_) ⟨⟨_, Heap.get?_push_size _ rfl, rfl, rfl⟩, _, push_keep _ _ g, rfl, n, rfl⟩ (fun i x v' e p => hv.get' e (by simpa using p))
  · obtain ⟨⟨o, g, e, _⟩, _⟩ := st
    exact ⟨o, g, .of_cls (by rw [e]; simp) (by rw [e]; simp), _, e, by decide⟩
  · simp only [List.mem_cons, List.not_mem_nil, or_false] at hb
    rcases hb with rfl | rfl
    · exact .inl rfl
    · exact .inr ⟨(d b (by simp [foot])).1, (d b (by simp [foot])).2, _, g⟩

/-- subscripts -/
theorem Ev.sub {c : Cx} {l r : Expr} {pos : Pos} {σ : St} {Φ : AV → St → Prop} {X : XP}
    (h : Ev c l σ (fun a σ₁ => Ev c r σ₁ (fun b σ₂ => Op2 c (subscriptTail l r) a b σ₂ Φ X) X) X) : Ev c (.Subscript l r pos) σ Φ X :=
  fun _ rp _ _ _ q x => Subscript_ (two h rp q x)
theorem Op2.tupItem {c : Cx} {ve se : Expr} {l : List AV} {k : Int} {x : AV} {σ : St} {Φ : AV → St → Prop} {X : XP} (h0 : 0 ≤ k) (h1 : k < 2 ^ 62) (e : l[k.toNat]? = some x) (kk : Φ x σ)
    (hs : ∀ o i, subscripted se false o i = operate [o, i] (getItem o i) := by intros; rfl) : Op2 c (subscriptTail ve se) (.tup l) (.int k) σ Φ X := fun v w =>
  Tri.pureStep kk fun s p _ Q E q => by
    have p1 : VR s.heap (.tup l) v := p.1
    have p2 : VR s.heap (.int k) w := p.2
    rw [VR] at p1
    rw [VR] at p2
    obtain ⟨a, vs, n, rfl, g, pl⟩ := p1
    obtain ⟨u, rfl⟩ := p2
    obtain ⟨y, ey, vy⟩ := pl.get e
    refine item_tupleT (l := vs) (j := k.toNat) ⟨_, g, rfl, n, rfl⟩ (by omega) (by omega) ?_ ey (q y s.heap s.toks (fun _ _ e => e) vy) (hs _ _)
    have hl : k.toNat < vs.length := by
      have := (List.getElem?_eq_some_iff.mp ey).1; exact this
    unfold seqIndex?
    simp only [show ¬ (k < 0) from by omega, if_false]
    simp; omega

end Mine

-- AZ
namespace Mine
open PySem PySem.Calls PyProof.Rows PySem.W

theorem VRs.one {h : Heap} {x : AV} {vs : List Value} (q : VRs h [x] vs) : ∃ v, vs = [v] ∧ VR h x v := by
  rw [VRs] at q; obtain ⟨v, r, rfl, a, q⟩ := q
  rw [VRs] at q; subst q; exact ⟨v, rfl, a⟩
theorem VRs.two {h : Heap} {x y : AV} {vs : List Value} (q : VRs h [x, y] vs) : ∃ v w, vs = [v, w] ∧ VR h x v ∧ VR h y w := by
  rw [VRs] at q; obtain ⟨v, r, rfl, a, q⟩ := q
  obtain ⟨w, rfl, b⟩ := VRs.one q
  exact ⟨v, w, rfl, a, b⟩
theorem VR.int' {h : Heap} {i : Int} {v : Value} (q : VR h (.int i) v) : ∃ t, v = .int i t := by rw [VR] at q; exact q
theorem VR.str' {h : Heap} {l : List Nat} {v : Value} (q : VR h (.str l) v) : ∃ t, v = .str ⟨l.toArray⟩ t := by rw [VR] at q; exact q
theorem VR.ref' {h : Heap} {a : Addr} {v : Value} (q : VR h (.ref a) v) : v = .ref a := by rw [VR] at q; exact q
theorem VR.none' {h : Heap} {v : Value} (q : VR h .none v) : v = .none := by rw [VR] at q; exact q
theorem VR.bool' {h : Heap} {b : Bool} {v : Value} (q : VR h (.bool b) v) : v = .bool b := by rw [VR] at q; exact q

/-! functions of plain values -/
theorem Cal.len_s {c : Cx} {l : List Nat} {σ : St} {Φ : AV → St → Prop} {X : XP} (hz : l.length < 2 ^ 62) (k : Φ (.int l.length) σ) : Cal c (.builtin "len") [.str l] σ Φ X := fun vs =>
  Tri.pureStep k fun s p _ Q E q => by
    obtain ⟨v, rfl, p'⟩ := VRs.one p
    obtain ⟨t, rfl⟩ := p'.str'
    with_reducible refine P.len_str (by rw [lenS]; omega) ?_
    rw [lenS]
    exact q _ s.heap _ (fun _ _ e => e) VR.mkInt
theorem Cal.abs {c : Cx} {i : Int} {σ : St} {Φ : AV → St → Prop} {X : XP} (k : Φ (.int (if i < 0 then -i else i)) σ) : Cal c (.builtin "abs") [.int i] σ Φ X := fun vs =>
  Tri.pureStep k fun s p _ Q E q => by
    obtain ⟨v, rfl, p'⟩ := VRs.one p
    obtain ⟨t, rfl⟩ := p'.int'
    with_reducible refine call_abs_int fun u tk => ?_
    exact q _ s.heap _ (fun _ _ e => e) VR.mkInt
theorem Cal.chr {c : Cx} {i : Int} {σ : St} {Φ : AV → St → Prop} {X : XP} (h0 : 0 ≤ i) (h1 : i ≤ 1114111) (k : Φ (.str [i.toNat]) σ) : Cal c (.builtin "chr") [.int i] σ Φ X := fun vs =>
  Tri.pureStep k fun s p _ Q E q => by
    obtain ⟨v, rfl, p'⟩ := VRs.one p
    obtain ⟨t, rfl⟩ := p'.int'
    with_reducible refine chr_of_range h0 h1 ?_
    exact q _ s.heap _ (fun _ _ e => e) VR.mkStr
theorem Cal.ord {c : Cx} {i : Nat} {σ : St} {Φ : AV → St → Prop} {X : XP} (k : Φ (.int i) σ) : Cal c (.builtin "ord") [.str [i]] σ Φ X := fun vs =>
  Tri.pureStep k fun s p _ Q E q => by
    obtain ⟨v, rfl, p'⟩ := VRs.one p
    obtain ⟨t, rfl⟩ := p'.str'
    with_reducible refine P.ord_of_char ?_
    exact q _ s.heap _ (fun _ _ e => e) VR.mkInt
theorem Cal.range1 {c : Cx} {n : Int} {σ : St} {Φ : AV → St → Prop} {X : XP} (k : Φ (.rng 0 n 1) σ) : Cal c (.type "range") [.int n] σ Φ X := fun vs =>
  Tri.pureStep k fun s p _ Q E q => by
    obtain ⟨v, rfl, p'⟩ := VRs.one p
    obtain ⟨t, rfl⟩ := p'.int'
    with_reducible refine call_range_1 ?_
    refine q _ _ _ push_keep ?_
    rw [VR]; exact ⟨_, _, _, _, rfl, Heap.get?_push_size _ rfl⟩
/-! truth -/
theorem Cx.own_list {c : Cx} {σ : St} {h : Heap} (r : Rep c σ h) {i : Nat} {a : Addr} {l : List AV} (e : σ.own[i]? = some (a, .list l)) : ∃ vs n, h.get? a = some (listObj vs n) ∧ VRs h l vs := r.own _ (List.mem_of_getElem? e)

theorem Tru.list {c : Cx} {a : Addr} {l : List AV} {σ : St} {Φ : Bool → St → Prop} {X : XP} (i : Nat) (e : σ.own[i]? = some (a, .list l)) (hz : l.length < 2 ^ 62) (k : Φ (!l.isEmpty) σ) : Tru c (.ref a) σ Φ X := fun v =>
  Tri.pureStep k fun s p r _ _ q => by
    cases VR.ref' p
    obtain ⟨vs, n, g, hv⟩ := Cx.own_list r.toRep e
    have il : s.heap.IsList a vs.toArray := ⟨_, g, rfl, n, rfl⟩
    with_reducible refine wpAny_truthy_list (items := vs.toArray) il (by rw [List.size_toArray, hv.length]; omega) ?_
    refine q _ s.heap _ (fun _ _ e => e) ?_
    have := hv.length
    cases l with
    | nil => rw [VRs] at hv; subst hv; rfl
    | cons x l => rw [VRs] at hv; obtain ⟨v, r, rfl, _⟩ := hv; rfl
theorem Cal.len_l {c : Cx} {a : Addr} {l : List AV} {σ : St} {Φ : AV → St → Prop} {X : XP} (i : Nat) (e : σ.own[i]? = some (a, .list l)) (hz : l.length < 2 ^ 62) (k : Φ (.int l.length) σ) : Cal c (.builtin "len") [.ref a] σ Φ X := fun vs =>
  Tri.pureStep k fun s p r Q E q => by
    obtain ⟨v, rfl, p'⟩ := VRs.one p
    cases p'.ref'
    obtain ⟨vs, n, g, hv⟩ := Cx.own_list r.toRep e
    have il : s.heap.IsList a vs.toArray := ⟨_, g, rfl, n, rfl⟩
    with_reducible refine len_list (items := vs.toArray) il (by rw [List.size_toArray, hv.length]; omega) ?_
    refine q _ s.heap _ (fun _ _ e => e) ?_
    rw [List.size_toArray, hv.length]
    exact VR.mkInt

/-! «is» -/
def AV.isN : AV → Bool
  | .none => true
  | _ => false
theorem VR.isN {h : Heap} {a : AV} {v : Value} (q : VR h a v) : (v == Value.none) = a.isN := by
  cases a with
  | none => cases q.none'; rfl
  | bool b => cases q.bool'; rfl
  | int i => obtain ⟨t, rfl⟩ := q.int'; rfl
  | str l => obtain ⟨t, rfl⟩ := q.str'; rfl
  | tup l => rw [VR] at q; obtain ⟨_, _, _, rfl, _⟩ := q; rfl
  | rng _ _ _ => rw [VR] at q; obtain ⟨_, _, _, _, rfl, _⟩ := q; rfl
  | ref a => cases q.ref'; rfl
  | bi _ => rw [VR] at q; subst q; rfl
  | ty _ => rw [VR] at q; subst q; rfl
def AV.notBi : AV → Bool
  | .bi _ => false
  | _ => true
theorem plainIs_none {h : Heap} {a : AV} {v : Value} (q : VR h a v) (hb : a.notBi = true) : plainIs v .none = true := by
  cases a with
  | none => cases q.none'; rfl
  | bool b => cases q.bool'; rfl
  | int i => obtain ⟨t, rfl⟩ := q.int'; rfl
  | str l => obtain ⟨t, rfl⟩ := q.str'; rfl
  | tup l => rw [VR] at q; obtain ⟨_, _, _, rfl, _⟩ := q; rfl
  | rng _ _ _ => rw [VR] at q; obtain ⟨_, _, _, _, rfl, _⟩ := q; rfl
  | ref a => cases q.ref'; rfl
  | bi _ => cases hb
  | ty _ => rw [VR] at q; subst q; rfl
theorem Op2.isNone {c : Cx} {a : AV} {σ : St} {Φ : AV → St → Prop} {X : XP} (k : Φ (.bool a.isN) σ) (hb : a.notBi = true := by rfl) : Op2 c (compareOp .Is) a .none σ Φ X := fun v w =>
  Tri.pureStep k fun s p _ Q E q => by
    have p1 : VR s.heap a v := p.1
    have p2 : VR s.heap .none w := p.2
    cases p2.none'
    with_reducible refine wpAny_is_plain (plainIs_none p1 hb) ?_
    rw [p1.isN]
    exact q _ s.heap s.toks (fun _ _ e => e) VR.mkBool
theorem Op2.isNotNone {c : Cx} {a : AV} {σ : St} {Φ : AV → St → Prop} {X : XP} (k : Φ (.bool (!a.isN)) σ) (hb : a.notBi = true := by rfl) : Op2 c (compareOp .IsNot) a .none σ Φ X := fun v w =>
  Tri.pureStep k fun s p _ Q E q => by
    have p1 : VR s.heap a v := p.1
    have p2 : VR s.heap .none w := p.2
    cases p2.none'
    with_reducible refine wpAny_isNot_plain (plainIs_none p1 hb) ?_
    rw [p1.isN]
    exact q _ s.heap s.toks (fun _ _ e => e) VR.mkBool

/-! methods -/
def HasT (T : String) (a : AV) (c : Cx) (σ : St) : Prop := ∀ s v, RepS c σ s → VR s.heap a v → s.TypeIs v T ∧ ∀ x, v = .ref x → ∃ ob, s.heap.get? x = some ob ∧ ob.dict = .none
theorem HasT.str {l : List Nat} {c : Cx} {σ : St} : HasT "str" (.str l) c σ := fun s v _ q => by
  obtain ⟨t, rfl⟩ := q.str'
  exact ⟨typeIs_str s _ t, fun _ e => nomatch e⟩
theorem HasT.list {a : Addr} {l : List AV} {c : Cx} {σ : St} (i : Nat) (e : σ.own[i]? = some (a, .list l)) : HasT "list" (.ref a) c σ := fun s v r q => by
  cases q.ref'
  obtain ⟨vs, n, g, hv⟩ := Cx.own_list r.toRep e
  exact ⟨⟨_, g, rfl⟩, fun x ex => by cases ex; exact ⟨_, g, rfl⟩⟩

theorem Ev.meth {c : Cx} {T id : String} {o : Expr} {name : Str} {apos pos : Pos} {es : List Expr} {σ : St} {Φ : AV → St → Prop} {X : XP}
    (pa : PlainAttrs T) (slot : Slot T name id) (hty : typeOf (.builtin id) = pure (.type "method_descriptor"))
    (h : Ev c o σ (fun a σ₁ => HasT T a c σ₁ ∧ Arg c pos es σ₁ (fun l σ₂ => Cal c (.builtin id) (a :: l) σ₂ Φ X) X) X)
    (hbase : attributeBase o name c.env (eval o c.env) = eval o c.env := by rfl)
    (hfew : ((backTo pos (starEach es c.env)).all (fun x => !x.1) && (backToKw pos (keywordEach [] c.env)).all (fun x => x.1.isSome)
      && decide (es.length + ([] : List Keyword).length + (if ([] : List Keyword).isEmpty then 0 else 1) < 30)) = true := by rfl)
    (hline : (apos.endLine == pos.line) = true := by rfl) (hs : (backTo pos (starEach es c.env)).any (·.1) = false := by rfl) :
    Ev c (.Call (.Attribute o name apos) es [] pos) σ Φ X := by
  intro s r _ Q E q x
  refine wpAny_Call_method hbase hfew hline pa slot hty (h s r trivial _ _ (fun v a σ₁ s₁ r₁ f₁ va h₁ => ?_) x)
  obtain ⟨hT, h₁⟩ := h₁
  refine ⟨(hT s₁ v r₁ va).1, (hT s₁ v r₁ va).2, ?_⟩
  refine call_bi (fa := [a]) (first := [v]) ?_ hs s₁ r₁ (VRs.cons va VRs.nil) Q E (q.go f₁) (x.go f₁)
  exact h₁.mono fun l σ₂ h₂ vs s₂ r₂ p Q E q x => h₂ (v :: vs) s₂ r₂ (by
    obtain ⟨w, hw, va⟩ := p.1.one
    cases hw
    exact VRs.cons va p.2) Q E q x

theorem updList {h : Heap} {a : Addr} {vs : List Value} {n : Nat} (f : Array Value → Array Value) (g : h.get? a = some (listObj vs n)) :
    (∃ n', (h.update a (Obj.mapSeq f)).get? a = some (listObj (f vs.toArray).toList n')) ∧ Sp [] [a] h (h.update a (Obj.mapSeq f)) := by
  obtain ⟨n', hd'⟩ := Obj.data_mapSeq (o := listObj vs n) rfl f
  refine ⟨⟨n', ?_⟩, sameSp (Heap.SameBut.update ..)⟩
  rw [Heap.get?_update_self _ g (Obj.isFreed_of_seq hd')]
  have : Obj.mapSeq f (listObj vs n) = listObj (f vs.toArray).toList n' := by
    cases hd'; rfl
  rw [this]

theorem Cal.append {c : Cx} {a : Addr} {l : List AV} {x : AV} {σ : St} {Φ : AV → St → Prop} {X : XP} (i : Nat) (e : σ.own[i]? = some (a, .list l)) (hz : l.length ≤ 16777216) (k : Φ .none ⟨σ.loc, σ.own.set i (a, .list (l ++ [x]))⟩) :
    Cal c (.builtin "list.append") [.ref a, x] σ Φ X := fun vs =>
  Tri.updStep (ao' := .list (l ++ [x])) (x := AV.none) e rfl k fun s p r o Q E q => by
    obtain ⟨v, w, rfl, p1, p2⟩ := VRs.two p
    cases p1.ref'
    obtain ⟨vs, n, g, hv⟩ := o
    have hz' : vs.toArray.size ≤ sizeLine := by rw [List.size_toArray, hv.length, sizeLine_eq]; exact hz
    refine call_meets F.slot_list_append ⟨_, g, rfl⟩ F.entry_list_append (F.args_list_append_2 _ _) (PySem.list_append a vs.toArray n w hz') ⟨g, ?_⟩
    obtain ⟨⟨n', g'⟩, sp⟩ := updList (fun xs => xs.push w) g
    have nt : NoTup s.heap [a] := fun b hb o e => by rw [List.mem_singleton.mp hb, g] at e; cases e; exact .of_cls (by simp) (by simp)
    refine q .none _ s.toks sp ⟨_, n', g', ?_⟩ VR.mkNone
    rw [Array.toList_push]
    exact (hv.mono sp nt NoTup.nil).append (VRs.cons (p2.mono sp nt NoTup.nil) VRs.nil)
end Mine

-- BA
namespace Mine
open PySem PySem.Calls PyProof.Rows PySem.W

/-! statements of one expression -/
theorem Ex.expr {c : Cx} {e : Expr} {pos : Pos} {σ : St} {Φ : Fl → St → Prop} {X : XP} (h : Ev c e σ (fun _ σ₁ => Φ .next σ₁) X)
    (hi : interactive c.env = false := by rfl) (hs : swapsWith e none pos.line c.env = pure false := by rfl) : Ex c (.Expr e pos) σ Φ X :=
  fun s r _ Q E q x => wpAny_Expr_any (h s r trivial _ _ (fun v av σ₁ s₁ r₁ f₁ va h₁ => q _ .next σ₁ s₁ r₁ f₁ rfl h₁) x) hi hs
theorem Op1.neg {c : Cx} {a : Int} {σ : St} {Φ : AV → St → Prop} {X : XP} (k : Φ (.int (-a)) σ) : Op1 c (unaryOp .USub) (.int a) σ Φ X := fun v =>
  Tri.pureStep k fun s p _ Q E q => by
    obtain ⟨t, rfl⟩ := VR.int' p
    with_reducible refine neg_int ?_
    exact q _ s.heap _ (fun _ _ e => e) VR.mkInt

/-! owned objects packed anew -/
theorem Rep.repack {c : Cx} {loc : List (String × AV)} {own own' : List (Addr × AO)} {h : Heap} (r : Rep c ⟨loc, own⟩ h) (ho : ∀ p ∈ own', OR h p.1 p.2) (hp : (feet own').Perm (feet own)) : Rep c ⟨loc, own'⟩ h := by
  refine ⟨r.ns, r.lin, r.cel, r.inj, ho, ?_, fun a ha => r.nk a ?_, r.frc, r.kb, r.kn, r.kh, r.ff⟩
  · exact ((List.Perm.refl c.fr).append ((List.Perm.refl c.fx).append hp)).nodup_iff.mpr r.nd
  · exact ((List.Perm.refl c.fr).append ((List.Perm.refl c.fx).append hp)).mem_iff.mp ha
theorem Aft.repack {c : Cx} {σ : St} {loc : List (String × AV)} {own own' : List (Addr × AO)} {s s' : Shared} (f : Aft c σ s ⟨loc, own⟩ s') (hp : (feet own').Perm (feet own)) : Aft c σ s ⟨loc, own'⟩ s' :=
  ⟨f.rest, f.sp, f.al, fun a ha => f.fs a (hp.mem_iff.mp ha)⟩

/-- a new object, however it came -/
theorem Rep.fresh {c : Cx} {σ : St} {h h' : Heap} {a : Addr} {ao : AO} (r : Rep c σ h) (k : ∀ b o, h.get? b = some o → h'.get? b = some o) (hn : h.get? a = none) (ho : OR h' a ao) (hf : foot a ao = [a]) : Rep c ⟨σ.loc, (a, ao) :: σ.own⟩ h' := by
  have r' := r.keep k
  have no : ∀ b ∈ c.fr ++ (c.fx ++ feet σ.own), b ≠ a := fun b ha z => by
    have : ∃ o, h.get? b = some o := by
      rcases List.mem_append.mp ha with w | w
      · obtain ⟨o, e, _⟩ := r.frc b w; exact ⟨o, e⟩
      · rcases List.mem_append.mp w with w | w
        · obtain ⟨o, e, _⟩ := r.kh b (List.mem_append_right _ w); exact ⟨o, e⟩
        · exact r.here b (List.mem_append_right _ w)
    obtain ⟨o, e⟩ := this
    rw [z, hn] at e; cases e
  have hp : (c.fr ++ (c.fx ++ feet ((a, ao) :: σ.own))).Perm (a :: (c.fr ++ (c.fx ++ feet σ.own))) := by
    rw [feet_cons, hf]
    have e1 : c.fr ++ (c.fx ++ ([a] ++ feet σ.own)) = (c.fr ++ c.fx) ++ a :: feet σ.own := by simp
    have e2 : a :: (c.fr ++ (c.fx ++ feet σ.own)) = a :: ((c.fr ++ c.fx) ++ feet σ.own) := by simp
    rw [e1, e2]; exact List.perm_middle
  refine ⟨r'.ns, r'.lin, r'.cel, r'.inj, fun p hp => ?_, ?_, fun b hb => ?_, r'.frc, r'.kb, r'.kn, r'.kh, r'.ff⟩
  · rcases List.mem_cons.mp hp with rfl | hp
    · exact ho
    · exact r'.own p hp
  · exact hp.nodup_iff.mpr (List.nodup_cons.mpr ⟨fun z => no a z rfl, r.nd⟩)
  · rcases List.mem_cons.mp (hp.mem_iff.mp hb) with rfl | z
    · refine ⟨fun kk => ?_, ?_⟩
      · obtain ⟨o, e, _⟩ := r.kh _ (List.mem_append_left _ kk); rw [hn] at e; cases e
      · cases e : c.b0.get? b with
        | none => rfl
        | some o => have := r.kb _ o e; rw [hn] at this; cases this
    · exact r.nk b z
theorem Aft.fresh {c : Cx} {σ : St} {s : Shared} {h' : Heap} {a : Addr} {ao : AO} {tk : Nat} (k : ∀ b o, s.heap.get? b = some o → h'.get? b = some o) (hn : s.heap.get? a = none) (hf : foot a ao = [a]) : Aft c σ s ⟨σ.loc, (a, ao) :: σ.own⟩ { s with heap := h', toks := tk } := by
  refine ⟨rfl, Sp.of_keep fun a o' _ e => k a o' e, fun a o' _ e => ⟨o', k a o' e⟩, fun b ha => ?_⟩
  rw [feet_cons, hf] at ha
  rcases List.mem_append.mp ha with z | z
  · right; rw [List.mem_singleton.mp z]; exact hn
  · exact .inl z

/-! lists -/
theorem NT1 {h : Heap} {a : Addr} {o : Obj} (g : h.get? a = some o) (n : NT o) : NoTup h [a] := fun b hb o' e => by rw [List.mem_singleton.mp hb, g] at e; cases e; exact n
theorem NTl {vs : List Value} {n : Nat} : NT (listObj vs n) := .of_cls (by simp) (by simp)

theorem Cal.pop0 {c : Cx} {a : Addr} {l : List AV} {x : AV} {σ : St} {Φ : AV → St → Prop} {X : XP} (i : Nat) (e : σ.own[i]? = some (a, .list (x :: l))) (hz : l.length < 16777216) (k : Φ x ⟨σ.loc, σ.own.set i (a, .list l)⟩) :
    Cal c (.builtin "list.pop") [.ref a, .int 0] σ Φ X := fun vs =>
  Tri.updStep (ao' := .list l) (x := x) e rfl k fun s p r o Q E q => by
    obtain ⟨v, w, rfl, p1, p2⟩ := VRs.two p
    cases p1.ref'
    obtain ⟨t, rfl⟩ := p2.int'
    obtain ⟨vs, n, g, hv⟩ := o
    rw [VRs] at hv
    obtain ⟨v, vs, rfl, hx, hv⟩ := hv
    have hz' : (v :: vs).toArray.size ≤ sizeLine := by rw [List.size_toArray, List.length_cons, hv.length, sizeLine_eq]; omega
    refine call_meets F.slot_list_pop ⟨_, g, rfl⟩ F.entry_list_pop (F.args_list_pop_2 _ _) (PySem.MeetsSeq.list_pop_at a (v :: vs).toArray n 0 t 0 v (by decide) (by unfold seqIndex?; simp) (by simp) hz') ⟨g, ?_⟩
    obtain ⟨⟨n', g'⟩, sp⟩ := updList (fun xs => xs.eraseIdxIfInBounds 0) g
    have nt := NT1 g NTl
    refine q v _ s.toks sp ⟨_, n', g', ?_⟩ (hx.mono sp nt NoTup.nil)
    have : ((v :: vs).toArray.eraseIdxIfInBounds 0).toList = vs := by simp
    rw [this]
    exact hv.mono sp nt NoTup.nil

theorem VRs.snoc {h : Heap} : ∀ {l : List AV} {x : AV} {vs : List Value}, VRs h (l ++ [x]) vs → ∃ ws w, vs = ws ++ [w] ∧ VRs h l ws ∧ VR h x w := fun q => by
  obtain ⟨a, b, rfl, q1, q2⟩ := VRs.split q
  obtain ⟨w, rfl, q3⟩ := VRs.one q2
  exact ⟨a, w, rfl, q1, q3⟩

theorem Cal.pop {c : Cx} {a : Addr} {l : List AV} {x : AV} {σ : St} {Φ : AV → St → Prop} {X : XP} (i : Nat) (e : σ.own[i]? = some (a, .list (l ++ [x]))) (hz : l.length < 16777216) (k : Φ x ⟨σ.loc, σ.own.set i (a, .list l)⟩) :
    Cal c (.builtin "list.pop") [.ref a] σ Φ X := fun vs =>
  Tri.updStep (ao' := .list l) (x := x) e rfl k fun s p r o Q E q => by
    obtain ⟨v, rfl, p1⟩ := VRs.one p
    cases p1.ref'
    obtain ⟨vs, n, g, hv⟩ := o
    obtain ⟨ws, w, rfl, hv, hx⟩ := hv.snoc
    have hz' : (ws ++ [w]).toArray.size ≤ sizeLine := by rw [List.size_toArray, List.length_append, hv.length, sizeLine_eq]; simp; omega
    refine call_meets F.slot_list_pop ⟨_, g, rfl⟩ F.entry_list_pop (F.args_list_pop_1 _) (PySem.MeetsSeq.list_pop_last a (ws ++ [w]).toArray n w (by simp) hz') ⟨g, ?_⟩
    obtain ⟨⟨n', g'⟩, sp⟩ := updList (fun xs => xs.eraseIdxIfInBounds ((ws ++ [w]).toArray.size - 1)) g
    have nt := NT1 g NTl
    refine q w _ s.toks sp ⟨_, n', g', ?_⟩ (hx.mono sp nt NoTup.nil)
    have : ((ws ++ [w]).toArray.eraseIdxIfInBounds ((ws ++ [w]).toArray.size - 1)).toList = ws := by simp [List.eraseIdx_append]
    rw [this]
    exact hv.mono sp nt NoTup.nil

theorem Op2.addL {c : Cx} {a b : Addr} {l m : List AV} {σ : St} {Φ : AV → St → Prop} {X : XP} (i j : Nat) (e : σ.own[i]? = some (a, .list l)) (e' : σ.own[j]? = some (b, .list m)) (hz : l.length + m.length ≤ 16777216)
    (k : ∀ d, Φ (.ref d) ⟨σ.loc, (d, .list (l ++ m)) :: σ.own⟩) : Op2 c (binaryOp .Add) (.ref a) (.ref b) σ Φ X := fun v w =>
  Tri.newList (α := Unit) k fun s p r Q E q => by
    obtain ⟨p1, p2⟩ := p
    cases VR.ref' p1
    cases VR.ref' p2
    obtain ⟨vs, n, g, hv⟩ := Cx.own_list r.toRep e
    obtain ⟨ws, n', g', hw⟩ := Cx.own_list r.toRep e'
    refine P.add_list (items := vs.toArray) (items2 := ws.toArray) g g' ?_ (by rw [List.size_toArray, List.size_toArray, hv.length, hw.length, sizeLine_eq]; exact hz)
    have := q (vs ++ ws) 0 s.toks (hv.append hw)
    simpa using this

/-- the signs of a str -/
theorem VRs.ofSigns {h : Heap} {l : List Nat} : ∀ {vs : List Value}, (vs.length = l.length) → (∀ j v, vs[j]? = some v → SignAt ⟨l.toArray⟩ j v) → VRs h (l.map fun k => .str [k]) vs := by
  induction l with
  | nil => intro vs e _; rw [List.map_nil, VRs]; exact List.eq_nil_of_length_eq_zero e
  | cons k l ih =>
    intro vs e q
    cases vs with
    | nil => cases e
    | cons v vs =>
      rw [List.map_cons]
      refine VRs.cons ?_ (ih (by simpa using e) fun j w ew => ?_)
      · obtain ⟨c, u, e1, rfl⟩ := q 0 v rfl
        have : c = k := by simpa using e1.symm
        subst this; exact VR.mkStr
      · obtain ⟨c, u, e1, rfl⟩ := q (j + 1) w (by simpa using ew)
        exact ⟨c, u, by simpa using e1, rfl⟩

theorem Cal.list_s {c : Cx} {l : List Nat} {σ : St} {Φ : AV → St → Prop} {X : XP} (hd : c.A.handled = none) (hz : l.length ≤ 16777216) (k : ∀ d, Φ (.ref d) ⟨σ.loc, (d, .list (l.map fun k => .str [k])) :: σ.own⟩) : Cal c (.type "list") [.str l] σ Φ X := fun vs =>
  Tri.ofH fun s r p Q E q _ => by
    obtain ⟨v, rfl, p1⟩ := VRs.one p
    obtain ⟨t, rfl⟩ := p1.str'
    refine call_list_str hd ⟨l.toArray⟩ t (fun h' tk acc n hk hS hi => ?_) (by simpa [sizeLine_eq] using hz)
    have hn : s.heap.get? s.heap.objs.size = none := Heap.get?_none_of_le (Nat.le_refl _)
    have hv : VRs h' (l.map fun k => .str [k]) acc.toList := VRs.ofSigns (by have := hi.1; simpa using this) fun j v e => hi.2 j v (by simpa using e)
    have ho : OR h' s.heap.objs.size (.list (l.map fun k => .str [k])) := ⟨acc.toList, n, hS, hv⟩
    -- a new object, as if pushed
    refine q (.ref _) (.ref s.heap.objs.size) ⟨σ.loc, (s.heap.objs.size, .list (l.map fun k => .str [k])) :: σ.own⟩ _ ?_ ?_ VR.mkRef (k _)
    · exact r.toRep.fresh hk hn ho rfl
    · exact Aft.fresh hk hn rfl

end Mine

-- BB
namespace Mine
open PySem PySem.Calls PyProof.Rows PySem.W

/-! slices -/
def VP (_ : Heap) (x : Option Int) (v : Value) : Prop := match x with | none => v = .none | some i => ∃ t, v = .int i t
abbrev Part (c : Cx) (e : Option Expr) (σ : St) (Φ : Option Int → St → Prop) (X : XP) : Prop := Tri c T0 (evalPart e c.env) VP σ Φ X
theorem Part.none {c : Cx} {σ : St} {Φ : Option Int → St → Prop} {X : XP} (k : Φ .none σ) : Part c .none σ Φ X := fun s r _ Q E q _ => wpAny_pure (q Value.none Option.none σ s r .refl (show VP s.heap Option.none Value.none from rfl) k)
theorem Part.some {c : Cx} {e : Expr} {σ : St} {Φ : Option Int → St → Prop} {X : XP} (h : Ev c e σ (fun a σ₁ => ∃ i, a = .int i ∧ Φ (.some i) σ₁) X) : Part c (.some e) σ Φ X := fun s r p Q E q x => by
  refine h s r p _ _ (fun v a σ₁ s₁ r₁ f₁ va h₁ => ?_) x
  obtain ⟨i, rfl, h₁⟩ := h₁
  exact q _ (.some i) σ₁ s₁ r₁ f₁ va.int' h₁

def cut {α : Type} (lo hi : Option Int) (l : List α) : List α := match hi with
  | none => (match lo with | none => l | some i => l.drop i.toNat)
  | some j => (match lo with | none => l.take j.toNat | some i => (l.take j.toNat).drop i.toNat)
def okPart : Option Int → Prop
  | none => True
  | some i => 0 ≤ i

theorem VP.isPart {h : Heap} {x : Option Int} {v : Value} (q : VP h x v) : IsPart v x := by
  cases x with
  | none => cases q; exact .none
  | some i => obtain ⟨t, rfl⟩ := q; exact .int i t

theorem take_min {α : Type} (l : List α) (n : Nat) : l.take (min n l.length) = l.take n := by
  by_cases h : n ≤ l.length
  · rw [Nat.min_eq_left h]
  · rw [Nat.min_eq_right (by omega), List.take_of_length_le (Nat.le_refl _), List.take_of_length_le (by omega)]
theorem drop_min {α : Type} (l : List α) (n : Nat) : l.drop (min n l.length) = l.drop n := by
  by_cases h : n ≤ l.length
  · rw [Nat.min_eq_left h]
  · rw [Nat.min_eq_right (by omega), List.drop_of_length_le (Nat.le_refl _), List.drop_of_length_le (by omega)]
theorem pick_cut {α : Type} (l : List α) {lo hi : Option Int} (h0 : okPart lo) (h1 : okPart hi) : (l.drop (kms_lo lo l.length)).take (kms_hi hi l.length - kms_lo lo l.length) = cut lo hi l := by
  have key : ∀ a b, a ≤ l.length → b ≤ l.length → (l.drop a).take (b - a) = (l.take b).drop a := fun a b _ _ => by
    rw [List.take_drop]
    by_cases h : a ≤ b
    · rw [show a + (b - a) = b by omega]
    · rw [show a + (b - a) = a by omega, List.drop_of_length_le (by rw [List.length_take]; omega), List.drop_of_length_le (by rw [List.length_take]; omega)]
  cases lo with
  | none =>
    cases hi with
    | none => simp [kms_lo, kms_hi, cut]
    | some j =>
      have hj : ¬ j < 0 := by have : 0 ≤ j := h1; omega
      simp only [kms_lo, kms_hi, cut, if_neg hj, List.drop_zero, Nat.sub_zero]
      exact take_min _ _
  | some i =>
    have hi0 : ¬ i < 0 := by have : 0 ≤ i := h0; omega
    cases hi with
    | none =>
      simp only [kms_lo, kms_hi, cut, if_neg hi0]
      rw [key _ _ (Nat.min_le_right _ _) (Nat.le_refl _), List.take_of_length_le (Nat.le_refl _), drop_min]
    | some j =>
      have hj : ¬ j < 0 := by have : 0 ≤ j := h1; omega
      simp only [kms_lo, kms_hi, cut, if_neg hi0, if_neg hj]
      rw [key _ _ (Nat.min_le_right _ _) (Nat.min_le_right _ _), take_min]
      by_cases h : i.toNat ≤ l.length
      · rw [Nat.min_eq_left h]
      · rw [Nat.min_eq_right (by omega), List.drop_of_length_le (by rw [List.length_take]; omega), List.drop_of_length_le (by rw [List.length_take]; omega)]

theorem cutVR {h : Heap} {l : List AV} {vs : List Value} {lo hi : Option Int} (q : VRs h l vs) : VRs h (cut lo hi l) (cut lo hi vs) := by
  cases lo <;> cases hi
  · exact q
  · exact q.take _
  · exact q.drop _
  · exact (q.take _).drop _

theorem strCut (l : List Nat) {lo hi : Option Int} (h0 : okPart lo) (h1 : okPart hi) : (Builtin.Str.strSliceIndices lo hi 1 l.length).filterMap (l[·]?) = cut lo hi l := by
  have e : Builtin.Str.strSliceIndices lo hi 1 l.length = sliceRange ((kms_lo lo l.length : Nat) : Int) ((kms_hi hi l.length : Nat) : Int) 1 := by
    unfold Builtin.Str.strSliceIndices
    simp only [show ((1 : Int) > 0) = True from by simp, if_true]
    congr 1
    · cases lo with
      | none => rfl
      | some i =>
        have : 0 ≤ i := h0
        simp only [kms_lo, if_neg (show ¬ i < 0 by omega)]
        omega
    · cases hi with
      | none => rfl
      | some j =>
        have : 0 ≤ j := h1
        simp only [kms_hi, if_neg (show ¬ j < 0 by omega)]
        omega
  rw [e, sliceRange_one]
  have := pick_run l.toArray (kms_lo lo l.length) (kms_hi hi l.length - kms_lo lo l.length)
  simp only [List.getElem?_toArray] at this
  rw [this]
  exact pick_cut l h0 h1

theorem VP.part {h : Heap} {x : Option Int} {v : Value} (q : VP h x v) : ∃ y : Option (Int × Tok), v = partValue y ∧ y.map (·.1) = x := by
  cases x with
  | none => cases q; exact ⟨none, rfl, rfl⟩
  | some i => obtain ⟨t, rfl⟩ := q; exact ⟨some (i, t), rfl, rfl⟩

theorem Ev.sslice {c : Cx} {value : Expr} {lower upper : Option Expr} {p pos : Pos} {σ : St} {Φ : AV → St → Prop} {X : XP}
    (h : Ev c value σ (fun a σ₁ => Part c lower σ₁ (fun lo σ₂ => Part c upper σ₂ (fun hi σ₃ => okPart lo ∧ okPart hi ∧ ∃ l : List Nat, a = .str l ∧ l.length ≤ 16777216 ∧ Φ (.str (cut lo hi l)) σ₃) X) X) X)
    (ht : ∀ o r, letTemporaryGo value o r = pure () := by intro _ _; rfl) :
    Ev c (.Subscript value (.Slice lower upper .none p) pos) σ Φ X := by
  refine Tri.ofH fun s r _ Q E q x => ?_
  refine wpAny_Subscript_str_slice (h s r trivial _ _ (fun v a σ₁ s₁ r₁ f₁ va h₁ => ?_) x) ht
  refine h₁ s₁ r₁ trivial _ _ (fun vl lo σ₂ s₂ r₂ f₂ pl h₂ => ?_) (x.go f₁)
  refine h₂ s₂ r₂ trivial _ _ (fun vu hi σ₃ s₃ r₃ f₃ pu h₃ => ?_) ((x.go f₁).go f₂)
  obtain ⟨o1, o2, l, rfl, hz, h₃⟩ := h₃
  obtain ⟨t, rfl⟩ := va.str'
  obtain ⟨yl, rfl, rfl⟩ := pl.part
  obtain ⟨yu, rfl, rfl⟩ := pu.part
  refine ⟨⟨l.toArray⟩, t, yl, yu, rfl, rfl, rfl, ?_⟩
  have ec : (slicePicked ⟨l.toArray⟩ yl yu Option.none).filterMap ((⟨l.toArray⟩ : Str).cps[·]?) = cut (yl.map (·.1)) (yu.map (·.1)) l := by
    have := strCut l o1 o2
    unfold slicePicked
    rw [lenS]
    simpa using this
  have fin : ∀ tk tk', Q (.str ⟨(cut (yl.map (·.1)) (yu.map (·.1)) l).toArray⟩ tk) { s₃ with heap := s₃.heap.push { cls := .type "slice", data := .fields #[partValue yl, partValue yu, .none] }, toks := tk' } := fun tk tk' =>
    q _ (.str _) σ₃ _ (r₃.keep push_keep) (((f₁.trans f₂).trans f₃).trans (Aft.keep (tk := tk') push_keep)) VR.mkStr h₃
  unfold sliceMade
  split
  · rename_i hw
    have hlen : (slicePicked ⟨l.toArray⟩ yl yu Option.none).length = l.length := by
      have := Bool.and_eq_true_iff.mp hw
      simpa [lenS] using this.2
    have hcut : cut (yl.map (·.1)) (yu.map (·.1)) l = l := by
      have hle : (slicePicked ⟨l.toArray⟩ yl yu Option.none).length = (kms_hi (yu.map (·.1)) l.length - kms_lo (yl.map (·.1)) l.length) := by
        have e : slicePicked ⟨l.toArray⟩ yl yu Option.none = sliceRange ((kms_lo (yl.map (·.1)) l.length : Nat) : Int) ((kms_hi (yu.map (·.1)) l.length : Nat) : Int) 1 := by
          unfold slicePicked Builtin.Str.strSliceIndices
          rw [lenS]
          simp only [Option.map_none, Option.getD_none, show ((1 : Int) > 0) = True from by simp, if_true]
          congr 1
          · cases hh : yl.map (·.1) with
            | none => rfl
            | some i =>
              have : 0 ≤ i := by rw [hh] at o1; exact o1
              simp only [kms_lo, if_neg (show ¬ i < 0 by omega)]
              omega
          · cases hh : yu.map (·.1) with
            | none => rfl
            | some j =>
              have : 0 ≤ j := by rw [hh] at o2; exact o2
              simp only [kms_hi, if_neg (show ¬ j < 0 by omega)]
              omega
        rw [e, sliceRange_one, List.length_map, List.length_range]
      rw [hlen] at hle
      have h2 : kms_hi (yu.map (·.1)) l.length ≤ l.length := by
        cases yu with
        | none => exact Nat.le_refl _
        | some z => show (if z.1 < 0 then _ else _) ≤ _; split <;> omega
      by_cases hl : l.length = 0
      · have : l = [] := List.eq_nil_of_length_eq_zero hl
        subst this
        unfold cut; cases yl <;> cases yu <;> simp
      · rw [← pick_cut l o1 o2, ← hle, show kms_lo (yl.map (·.1)) l.length = 0 by omega, List.drop_zero, List.take_of_length_le (Nat.le_refl _)]
    have := fin t s₃.toks
    rw [hcut] at this
    exact this
  · rw [ec]
    refine ⟨?_, fin _ _⟩
    show _ ≤ sizeLine
    rw [lenS, sizeLine_eq]
    have : (cut (yl.map (·.1)) (yu.map (·.1)) l).length ≤ l.length := by
      unfold cut; split <;> split <;> simp <;> omega
    omega
end Mine

-- BC
namespace Mine
open PySem PySem.Calls PyProof.Rows PySem.W

theorem Op2.in_c {c : Cx} {k : Nat} {b : List Nat} {σ : St} {Φ : AV → St → Prop} {X : XP} (h : Φ (.bool (decide (k ∈ b))) σ) : Op2 c (compareOp .In) (.str [k]) (.str b) σ Φ X := by
  refine Op2.in_s ?_
  have := StrLaws.found_one ⟨b.toArray⟩ k
  rw [lenS] at this
  rw [show (⟨[k].toArray⟩ : Str) = ⟨#[k]⟩ from rfl, this]
  simpa using h

/-- a sign, each time, told by others -/
def subst (c : Nat) (z l : List Nat) : List Nat := l.flatMap fun k => if k = c then z else [k]
theorem subst_append (c : Nat) (z a b : List Nat) : subst c z (a ++ b) = subst c z a ++ subst c z b := List.flatMap_append
theorem subst_free (c : Nat) (z : List Nat) : ∀ l : List Nat, c ∉ l → subst c z l = l
  | [], _ => rfl
  | k :: r, h => by
    have h1 : ¬ k = c := fun e => h (e ▸ List.mem_cons_self ..)
    have h2 : c ∉ r := fun m => h (List.mem_cons_of_mem _ m)
    have ih := subst_free c z r h2
    unfold subst at ih ⊢
    rw [List.flatMap_cons, if_neg h1, ih]; rfl
theorem subst_join (c : Nat) (z : List Nat) : ∀ parts : List Str, (∀ p ∈ parts, c ∉ p.cps.toList) → subst c z (Str.join ⟨#[c]⟩ parts).cps.toList = (Str.join ⟨z.toArray⟩ parts).cps.toList
  | [], _ => rfl
  | [p], h => subst_free c z _ (h p (List.mem_singleton.mpr rfl))
  | p :: q :: r, h => by
    have ih := subst_join c z (q :: r) fun a ha => h a (List.mem_cons_of_mem _ ha)
    show subst c z (p ++ ⟨#[c]⟩ ++ Str.join ⟨#[c]⟩ (q :: r)).cps.toList = (p ++ ⟨z.toArray⟩ ++ Str.join ⟨z.toArray⟩ (q :: r)).cps.toList
    simp only [Str.cps_append, Array.toList_append]
    rw [subst_append, subst_append, ih, subst_free c z _ (h p (List.mem_cons_self ..))]
    have : subst c z [c] = z := by unfold subst; simp
    rw [this]
theorem replace_subst (l z : List Nat) (c : Nat) : Txt.replace ⟨l.toArray⟩ ⟨#[c]⟩ ⟨z.toArray⟩ = ⟨(subst c z l).toArray⟩ := by
  have h : (Txt.replace ⟨l.toArray⟩ ⟨#[c]⟩ ⟨z.toArray⟩).cps.toList = subst c z l := by
    have := subst_join c z (Txt.split ⟨l.toArray⟩ ⟨#[c]⟩) (StrLaws.split_free _ c)
    rw [StrLaws.join_split] at this
    rw [StrLaws.replace_one, ← this]
  exact Str.ext' (by rw [← h])

theorem Ev.replace {c : Cx} {o : Expr} {y : Nat} {z : List Nat} {k1 k2 : Nat} {apos pos p1 p2 : Pos} {ys zs : Str} {σ : St} {Φ : AV → St → Prop} {X : XP} (hy : ys = ⟨#[y]⟩) (hz : zs = ⟨z.toArray⟩) (hne : z ≠ [y])
    (h : Ev c o σ (fun a σ₁ => ∃ l : List Nat, a = .str l ∧ l.length + (l.length + 1) * z.length ≤ 16777216 ∧ Φ (.str (subst y z l)) σ₁) X)
    (hbase : attributeBase o (Str.ofString "replace") c.env (eval o c.env) = eval o c.env := by rfl)
    (hfew : ((backTo pos (starEach [.Constant (.str ys) k1 p1, .Constant (.str zs) k2 p2] c.env)).all (fun x => !x.1) && (backToKw pos (keywordEach [] c.env)).all (fun x => x.1.isSome)
      && decide (([.Constant (.str ys) k1 p1, .Constant (.str zs) k2 p2] : List Expr).length + ([] : List Keyword).length + (if ([] : List Keyword).isEmpty then 0 else 1) < 30)) = true := by rfl)
    (hline : (apos.endLine == pos.line) = true := by rfl) (hs : (backTo pos (starEach [.Constant (.str ys) k1 p1, .Constant (.str zs) k2 p2] c.env)).any (·.1) = false := by rfl) :
    Ev c (.Call (.Attribute o (Str.ofString "replace") apos) [.Constant (.str ys) k1 p1, .Constant (.str zs) k2 p2] [] pos) σ Φ X := by
  refine Tri.ofH fun s r _ Q E q x => ?_
  refine wpAny_Call_method hbase hfew hline F.plainAttrs_str F.slot_str_replace F.type_str_replace (h s r trivial _ _ (fun v a σ₁ s₁ r₁ f₁ va h₁ => ?_) x)
  obtain ⟨l, rfl, hl, h₁⟩ := h₁
  obtain ⟨t, rfl⟩ := va.str'
  refine ⟨typeIs_str s₁ _ t, (fun _ e => nomatch e), callWith_builtin hs (evalArgs_any hs ?_)⟩
  show wpAny _ _ (spliced [(false, eval (.Constant (.str ys) k1 p1) c.env), (false, eval (.Constant (.str zs) k2 p2) c.env)]) _ E s₁
  refine spliced_cons (wpAny_Constant_str (spliced_cons (wpAny_Constant_str (spliced_nil ?_))))
  subst hy hz
  have tp := r₁.tp
  refine SC.replace (by show s₁.toks ≠ 0; omega) (by show s₁.toks + 1 ≠ 0; omega) (Nat.ne_of_lt (Nat.lt_succ_self _)) ?_ (by rw [lenS, lenS]; exact hl) fun t' k => ?_
  · have := eqS [y] z
    rw [show (⟨#[y]⟩ : Str) = ⟨[y].toArray⟩ from rfl, this]
    exact decide_eq_false (Ne.symm hne)
  · rw [replace_subst]
    exact q _ (.str _) σ₁ _ (r₁.toRep.keep (h' := s₁.heap) fun _ _ e => e) (f₁.trans (Aft.keep (h' := s₁.heap) (tk := k) fun _ _ e => e)) VR.mkStr h₁

theorem cnt_count (c : Nat) : ∀ l : List Nat, cnt c l = ((l.count c : Nat) : Int)
  | [] => rfl
  | k :: r => by
    rw [cnt_cons, cnt_count c r, List.count_cons]
    by_cases h : k = c <;> simp [h] <;> omega
theorem Cal.count {c : Cx} {l : List Nat} {y : Nat} {σ : St} {Φ : AV → St → Prop} {X : XP} (k : Φ (.int (l.count y : Nat)) σ) : Cal c (.builtin "str.count") [.str l, .str [y]] σ Φ X := fun vs =>
  Tri.pureStep k fun s p _ Q E q => by
    obtain ⟨v, w, rfl, p1, p2⟩ := VRs.two p
    obtain ⟨t, rfl⟩ := p1.str'
    obtain ⟨u, rfl⟩ := p2.str'
    refine SC.count ?_
    have := count_cnt ⟨l.toArray⟩ y
    rw [show (⟨[y].toArray⟩ : Str) = ⟨#[y]⟩ from rfl, this, cnt_count]
    exact q _ s.heap _ (fun _ _ e => e) VR.mkInt

/-! join -/
theorem VRs.strs {h : Heap} : ∀ {ls : List (List Nat)} {vs : List Value}, VRs h (ls.map AV.str) vs → ∃ l : List (Str × Tok), vs = strValues l ∧ l.map (·.1) = ls.map fun x => ⟨x.toArray⟩
  | [], vs, q => by rw [List.map_nil, VRs] at q; subst q; exact ⟨[], rfl, rfl⟩
  | x :: ls, vs, q => by
    rw [List.map_cons, VRs] at q
    obtain ⟨v, r, rfl, a, q⟩ := q
    obtain ⟨t, rfl⟩ := a.str'
    obtain ⟨l, rfl, e⟩ := VRs.strs q
    exact ⟨(⟨x.toArray⟩, t) :: l, rfl, by rw [List.map_cons, e]; rfl⟩
theorem join_nil' : ∀ ls : List (List Nat), Str.join ⟨#[]⟩ (ls.map fun x => ⟨x.toArray⟩) = ⟨ls.flatten.toArray⟩
  | [] => rfl
  | [x] => by simp [Str.join]
  | x :: y :: r => by
    have ih := join_nil' (y :: r)
    show (⟨x.toArray⟩ : Str) ++ ⟨#[]⟩ ++ Str.join ⟨#[]⟩ ((y :: r).map fun x => ⟨x.toArray⟩) = _
    rw [ih, show (⟨#[]⟩ : Str) = ⟨([] : List Nat).toArray⟩ from rfl, appS, appS]; simp
theorem foldl_len : ∀ (ls : List (List Nat)) (n : Nat), (ls.map fun x => (⟨x.toArray⟩ : Str)).foldl (· + ·.length + (⟨#[]⟩ : Str).length) n = n + ls.flatten.length
  | [], n => by simp
  | x :: r, n => by
    rw [List.map_cons, List.foldl_cons, foldl_len r, lenS]
    rw [show (⟨#[]⟩ : Str).length = 0 from rfl]
    simp; omega
theorem Cal.join {c : Cx} {a : Addr} {ls : List (List Nat)} {σ : St} {Φ : AV → St → Prop} {X : XP} (i : Nat) (e : σ.own[i]? = some (a, .list (ls.map AV.str))) (hz : ls.flatten.length ≤ 16777216) (k : Φ (.str ls.flatten) σ) :
    Cal c (.builtin "str.join") [.str [], .ref a] σ Φ X := fun vs =>
  Tri.pureStep k fun s p r Q E q => by
    obtain ⟨v, w, rfl, p1, p2⟩ := VRs.two p
    obtain ⟨t, rfl⟩ := p1.str'
    cases p2.ref'
    obtain ⟨vs, n, g, hv⟩ := Cx.own_list r.toRep e
    obtain ⟨l, rfl, el⟩ := hv.strs
    refine SC.join (l := l) ⟨_, g, rfl, n, rfl⟩ el ?_ fun t' k => ?_
    · unfold JoinOk Builtin.Str.tooLong
      rw [show (⟨([] : List Nat).toArray⟩ : Str) = ⟨#[]⟩ from rfl, List.foldl_toArray', foldl_len, sizeLine_eq]
      · simp; simpa using hz
      · simp
    · rw [show (⟨([] : List Nat).toArray⟩ : Str) = ⟨#[]⟩ from rfl]
      have : Txt.join ⟨#[]⟩ (ls.map fun x => ⟨x.toArray⟩) = ⟨ls.flatten.toArray⟩ := (StrLaws.glued_eq_join _ _).trans (join_nil' ls)
      rw [this]
      exact q _ s.heap _ (fun _ _ e => e) VR.mkStr
end Mine

-- BD
namespace Mine
open PySem PySem.Calls PyProof.Rows PySem.W

/-! iterators held -/
theorem entry_next : entryFor table "next" = some Builtin.«next» := entryFor_of_tree (by kernel_rfl)
theorem args_next (a : Value) : argsOk "next" ⟨[a], []⟩ := by unfold argsOk; kernel_rfl
theorem entry_iter : entryFor table "iter" = some Builtin.«iter» := entryFor_of_tree (by kernel_rfl)
theorem args_iter (a : Value) : argsOk "iter" ⟨[a], []⟩ := by unfold argsOk; kernel_rfl
theorem kind_next : builtinKind "next" = none := by decide +kernel
theorem plain_next : plainId "next" = true := by decide +kernel
theorem kind_iter : builtinKind "iter" = none := by decide +kernel
theorem plain_iter : plainId "iter" = true := by decide +kernel

theorem call_next_item {prog : Program} {w : World} {A : Around} {E : Value → Shared → Prop} {s : Shared} {it l : Addr} {i : Nat} {items : Array Value} {x : Value} {Q : Value → Shared → Prop} (hit : s.heap.IsListIter it l i)
    (hl : s.heap.IsList l items) (hx : items[i]? = some x) (hQ : ∀ h', h'.IsListIter it l (i + 1) → Heap.SameBut it s.heap h' → Q x { s with heap := h' }) : wpAny (model prog w) A (call (.builtin "next") [.ref it]) Q E s := by
  obtain ⟨o, ho, hc, hd⟩ := id hit
  obtain ⟨ol, hol, _, nl, hdl⟩ := hl
  refine call_function_entry kind_next plain_next entry_next (args_next _) ?_
  unfold Builtin.«next»
  refine wpAny_bind (m := someArgs "next" 1 2 _) (wpAny_of_eq (a := [Value.ref it]) (by first | rfl | kernel_rfl!) ?_)
  dsimp only
  refine wpAny_bind (wpAny_specialOf (name := Str.ofString "__next__") hit.typeIs slot_listiter_next.lookup ?_)
  refine wpAny_ite_split (fun hab => absurd hab (by decide)) (fun _ => ?_)
  refine wpAny_bind (wpAny_callSpecial?_slot (name := Str.ofString "__next__") hit.typeIs slot_listiter_next
    (wpAny_call_entry slot_listiter_next hit.typeIs entry_listiter_next ?_ (args_listiter_next _)))
  show wpAny _ _ (field (.ref it) 0 >>= _) _ _ s
  refine wpAny_bind (wpAny_field ho hd (x := .ref l) rfl ?_)
  show wpAny _ _ (if (Value.ref l == Value.none) = true then _ else _) _ _ s
  rw [if_neg (show ¬ ((Value.ref l == Value.none) = true) from Bool.false_ne_true)]
  show wpAny _ _ (field (.ref it) 1 >>= _) _ _ s
  refine wpAny_bind (wpAny_field ho hd (x := .int i 0) rfl ?_)
  show wpAny _ _ (seqItems? (.ref l) >>= _) _ _ s
  refine wpAny_bind (wpAny_seqItems hol hdl ?_)
  simp only [Int.toNat_natCast, hx]
  refine wpAny_bind (wpAny_setField ho hd (by simp) (wpAny_pure ⟨x, rfl, wpAny_pure ⟨_, rfl, hQ _ ?_ (Heap.SameBut.update ..)⟩⟩))
  exact ⟨_, Heap.get?_update_self _ ho (Obj.isFreed_of_fields (Obj.data_mapFields hd _)), (Obj.cls_mapFields ..).trans hc, by
    rw [Obj.data_mapFields hd]; simp [rawInt]⟩

theorem Cal.next {c : Cx} {it lst : Addr} {x : AV} {l : List AV} {σ : St} {Φ : AV → St → Prop} {X : XP} (i : Nat) (e : σ.own[i]? = some (it, .iter lst (x :: l))) (k : Φ x ⟨σ.loc, σ.own.set i (it, .iter lst l)⟩) :
    Cal c (.builtin "next") [.ref it] σ Φ X := fun vs =>
  Tri.updStep (ao' := .iter lst l) (x := x) e rfl k fun s p r o Q E q => by
    obtain ⟨v, rfl, p1⟩ := VRs.one p
    cases p1.ref'
    have nt := o.noTup
    obtain ⟨vs, n, j, hit, g, hv⟩ := o
    have hne : lst ≠ it := fun z => by
      subst z
      obtain ⟨oi, gi, _, di⟩ := hit
      rw [g] at gi; cases gi; cases di
    have hx : ∃ v, vs[j]? = some v ∧ VR s.heap x v := by
      rw [VRs] at hv
      obtain ⟨v, ws, e1, a, _⟩ := hv
      refine ⟨v, ?_, a⟩
      have := congrArg (·[0]?) e1
      simpa using this
    obtain ⟨v, ex, vx⟩ := hx
    refine call_next_item hit ⟨_, g, rfl, n, rfl⟩ (x := v) (by simpa using ex) fun h' hit' hs => ?_
    have sp : Sp [] (foot it (.iter lst (x :: l))) s.heap h' := (sameSp hs).weaken fun b hb => by rw [List.mem_singleton.mp hb]; exact .head _
    have ntI : NoTup s.heap [it] := fun b hb o e => nt b (by rw [List.mem_singleton.mp hb]; exact .head _) o e
    refine q v h' s.toks sp ⟨vs, n, j + 1, hit', (hs.2 lst hne).trans g, ?_⟩ (vx.mono (sameSp hs) ntI NoTup.nil)
    have := hv.drop 1
    rw [List.drop_drop] at this
    exact this.mono (sameSp hs) ntI NoTup.nil

theorem Cal.iterL {c : Cx} {lst : Addr} {l : List AV} {σ : St} {Φ : AV → St → Prop} {X : XP} (i : Nat) (e : σ.own[i]? = some (lst, .list l)) (k : ∀ d, Φ (.ref d) ⟨σ.loc, σ.own.set i (d, .iter lst l)⟩) :
    Cal c (.builtin "iter") [.ref lst] σ Φ X := fun vs =>
  Tri.ofH fun s r p Q E q _ => by
    obtain ⟨v, rfl, p1⟩ := VRs.one p
    cases p1.ref'
    obtain ⟨vs, n, g, hv⟩ := Cx.own_list r.toRep e
    refine call_function_entry kind_iter plain_iter entry_iter (args_iter _) ?_
    unfold Builtin.«iter»
    refine wpAny_bind (m := someArgs "iter" 1 2 _) (wpAny_of_eq (a := [Value.ref lst]) (by first | rfl | kernel_rfl!) ?_)
    dsimp only
    refine wpAny_bind (wpAny_pyIter_list ⟨_, g, rfl, n, rfl⟩ (wpAny_pure ⟨_, rfl, ?_⟩))
    have hn : s.heap.get? s.heap.objs.size = none := Heap.get?_none_of_le (Nat.le_refl _)
    have hN := Heap.get?_push_size s.heap (o := { cls := .type "list_iterator", data := .fields #[.ref lst, .int 0 0] }) rfl
    have hr : OR (s.heap.push { cls := .type "list_iterator", data := .fields #[.ref lst, .int 0 0] }) s.heap.objs.size (.raw { cls := .type "list_iterator", data := .fields #[.ref lst, .int 0 0] }) :=
      ⟨hN, .of_cls (by simp) (by simp)⟩
    have R := r.toRep.fresh push_keep hn hr rfl
    have F := Aft.fresh (c := c) (σ := σ) (ao := .raw { cls := .type "list_iterator", data := .fields #[.ref lst, .int 0 0] }) (tk := s.toks) (push_keep (h := s.heap) (o := { cls := .type "list_iterator", data := .fields #[.ref lst, .int 0 0] })) hn rfl
    obtain ⟨s1, s2⟩ := set_split (x := (s.heap.objs.size, AO.iter lst l)) e
    have pf : (feet (σ.own.set i (s.heap.objs.size, .iter lst l))).Perm (feet ((s.heap.objs.size, .raw { cls := .type "list_iterator", data := .fields #[.ref lst, .int 0 0] }) :: σ.own)) := by
      rw [feet_cons, s2]
      conv => rhs; rw [s1]
      rw [feet_append, feet_append, feet_cons, feet_cons]
      show (feet _ ++ (s.heap.objs.size :: ([lst] ++ feet _))).Perm (s.heap.objs.size :: (feet _ ++ ([lst] ++ feet _)))
      exact List.perm_middle
    have ho : ∀ p ∈ σ.own.set i (s.heap.objs.size, .iter lst l), OR (s.heap.push { cls := .type "list_iterator", data := .fields #[.ref lst, .int 0 0] }) p.1 p.2 := by
      intro p hp
      have old : ∀ p ∈ σ.own, OR (s.heap.push { cls := .type "list_iterator", data := .fields #[.ref lst, .int 0 0] }) p.1 p.2 := fun p hp => R.own p (.tail _ hp)
      rw [s2] at hp
      rcases List.mem_append.mp hp with z | z
      · exact old p (List.mem_of_mem_take z)
      · rcases List.mem_cons.mp z with rfl | z
        · exact ⟨vs, n, 0, ⟨_, hN, rfl, rfl⟩, push_keep _ _ g, (hv.mono (K := []) (F := []) (Sp.of_keep fun a o _ e => push_keep a o e) NoTup.nil NoTup.nil)⟩
        · exact old p (List.mem_of_mem_drop z)
    exact q (.ref _) (.ref _) ⟨σ.loc, _⟩ _ (R.repack ho pf) (F.repack pf) VR.mkRef (k _)

/-- a tuple walked -/
theorem Itr.tuple {c : Cx} {l : List AV} {σ : St} {PH : Heap → Prop} (hd : c.A.handled = none) : Itr c (.tup l) l σ PH := by
  intro v s r _ va Q E q
  rw [VR] at va
  obtain ⟨a, vs, n, rfl, g, hv⟩ := va
  have it : s.heap.IsTuple a vs.toArray := ⟨_, g, rfl, n, rfl⟩
  refine wpAny_pyIter_tuple it ?_
  have hne : a ≠ s.heap.objs.size := Nat.ne_of_lt (Heap.lt_size g)
  have hW := Walks.tuple (prog := c.prog) (w := c.w) (A := c.A) hd s.heap.objs.size a hne vs.toArray
  have hz : vs.toArray.size = l.length := by rw [List.size_toArray, hv.length]
  rw [hz] at hW
  have nt : ∀ b ∈ c.fr ++ feet σ.own, b ≠ a := fun b hb z => by subst z; exact r.noTup b hb _ g (.tup ..)
  have ntK : ∀ b ∈ c.K, b ≠ a := fun b hb z => by subst z; exact r.noTupK b hb _ g (.tup ..)
  refine q s.heap.objs.size _ _ _ _ s.toks hW (Heap.get?_none_of_le (Nat.le_refl _)) (fun i h st => ?_) push_keep (fun b hb => ?_) ⟨⟨_, Heap.get?_push_size _ rfl, rfl, rfl⟩, _, push_keep _ _ g, rfl, n, rfl⟩ (fun i x v' e p => hv.get' e (by simpa using p))
  · obtain ⟨⟨o, g, e, _⟩, _⟩ := st
    exact ⟨o, g, .of_cls (by rw [e]; simp) (by rw [e]; simp), _, e, by decide⟩
  · simp only [List.mem_cons, List.not_mem_nil, or_false] at hb
    rcases hb with rfl | rfl
    · exact .inl rfl
    · exact .inr ⟨fun z => nt _ z rfl, fun z => ntK _ z rfl, _, g⟩
end Mine

-- BE
namespace Mine
open PySem PySem.Calls PyProof.Rows PySem.W

abbrev Ifs (c : Cx) (ifs : List Expr) (σ : St) (Φ : Bool → St → Prop) (X : XP) : Prop :=
  Tri c T0 (forIn ifs true fun e r => if r = true then do let ok ← isTrue e c.env (eval e c.env); pure (ForInStep.yield ok) else pure (ForInStep.yield r)) BR σ Φ X
theorem Ifs.nil {c : Cx} {σ : St} {Φ : Bool → St → Prop} {X : XP} (k : Φ true σ) : Ifs c [] σ Φ X := fun s r _ Q E q _ => by
  simp only [List.forIn_nil]
  exact wpAny_pure (q _ _ σ s r .refl rfl k)
/-- the loop of a comprehension, whatever its target is -/
theorem compLoopAny {prog : Program} {w : World} {A : Around} {R : Result → Shared → Prop} {s : Shared} {elt target iter : Expr} {ifs : List Expr} {scope : Scope} {pos : Pos} {it acc : Value} {env : Env} (J : Nat → Shared → Prop)
    (turn : ∀ n s, J n s → wpAny (model prog w) A (pyNext it) (fun r s₁ => match r with
      | none => R (.ok .next) s₁
      | some v => (∀ (Q' : Unit → Shared → Prop) (E' : Value → Shared → Prop), Q' () s₁ → wpAny (model prog w) A (letOwnedTupleGo target it v) Q' E' s₁) ∧ wpAny (model prog w) A (assign target env v) (fun _ s₂ =>
          wpAny (model prog w) A (forIn ifs true fun e r => if r = true then do let ok ← isTrue e env (eval e env); pure (ForInStep.yield ok) else pure (ForInStep.yield r)) (fun ok s₃ =>
            if ok = true then wpAny (model prog w) A (eval elt env) (fun x s₄ =>
              wpAny (model prog w) A (call (.builtin "list.append") [acc, x]) (fun _ s₅ => ∃ m, m < n ∧ J m s₅) (notedBy (model prog w) A env fun e s' => R (.error e) s') s₄) (notedBy (model prog w) A env fun e s' => R (.error e) s') s₃
            else ∃ m, m < n ∧ J m s₃) (notedBy (model prog w) A env fun e s' => R (.error e) s') s₂) (notedBy (model prog w) A env fun e s' => R (.error e) s') s₁) (notedBy (model prog w) A env fun e s' => R (.error e) s') s)
    (n : Nat) (h : J n s) : codeAny (model prog w) A (.compLoop (.ListComp elt [⟨target, iter, ifs, 0⟩] scope pos) 0 it acc env) R s := by
  refine codeAny_loop rfl J (fun n s hJ => wpAny_noted ?_) n h
  show wpAny _ A (compTurn (.ListComp elt [⟨target, iter, ifs, 0⟩] scope pos) 0 it acc env) _ _ s
  rw [compTurn_list]
  refine wpAny_bind (wpAny_standAt (wpAny_bind (wpAny_mono (turn n s hJ) (fun r s₁ h₁ => ?_) fun _ _ y => y)))
  cases r with
  | none => exact wpAny_pure h₁
  | some v =>
    refine wpAny_bind (h₁.1 _ _ (wpAny_bind (wpAny_mono h₁.2 (fun _ s₂ h₂ => wpAny_bind (wpAny_mono h₂ (fun ok s₃ h₃ => ?_) fun _ _ y => y)) fun _ _ y => y)))
    cases ok
    · exact wpAny_pure ⟨rfl, h₃⟩
    · exact wpAny_bind (wpAny_bind (wpAny_mono h₃ (fun x s₄ h₄ => wpAny_bind (wpAny_mono h₄ (fun _ s₅ h₅ => wpAny_pure (wpAny_pure ⟨rfl, h₅⟩)) fun _ _ y => y)) fun _ _ y => y))

/-- a comprehension's own context -/
abbrev compCx (c : Cx) (scope : Scope) (cl : List (Str × Addr)) (cells : List Addr) (C : Addr) : Cx :=
  ⟨c.prog, c.w, c.b0, c.A, compEnvC scope cl C c.env, [C], cells ++ c.fx, c.env.locals :: c.K⟩

theorem Good.comp {z : Bool} {n : Nat} {c : Cx} {scope : Scope} {cl : List (Str × Addr)} {cells : List Addr} {C : Addr} (g : Good z n c) (hk : scope.kind = .function := by rfl) : Good z n (compCx c scope cl cells C) := by
  obtain ⟨l, hl, hm⟩ := g.fr
  exact ⟨g.hd, g.dp, g.un, hk, ⟨l, hl, fun a ha => .inr ((hm a ha).elim (fun e => e ▸ .head _) fun h => .tail _ h)⟩⟩

/-- the comprehension's state where it begins -/
theorem Rep.enterComp {z : Bool} {n : Nat} {c : Cx} {σ : St} {h h' : Heap} {scope : Scope} {cl : List (Str × Addr)} {cells : List Addr} {C : Addr} {m : Str → Option Value} {fv : List (String × AV)} (r : Rep c σ h) (g : Good z n c)
    (hfr : c.fr = c.env.locals :: cells) (hcl : ∀ x a, cl.lookup x = some a → c.env.cells.lookup x = some a)
    (hfv : ∀ x av, fv.lookup x = some av → σ.loc.lookup x = some av ∧ (c.kind x = some .cell ∨ c.kind x = some .free) ∧ (∃ a, cl.lookup (Str.ofString x) = some a) ∧
      ((compEnvC scope cl C c.env).kindOf (Str.ofString x) = some .cell ∨ (compEnvC scope cl C c.env).kindOf (Str.ofString x) = some .free))
    (k : ∀ a o, h.get? a = some o → h'.get? a = some o) (hn : h.get? C = none) (hns : h'.Ns C m) (hcel : ∀ x a, cl.lookup x = some a → a ∈ cells ++ c.fx) : Rep (compCx c scope cl cells C) ⟨fv, σ.own⟩ h' := by
  have r' := r.keep k
  have nd := r.nd
  rw [hfr] at nd
  have ex : ∀ a ∈ c.fr ++ (c.fx ++ feet σ.own), ∃ o, h.get? a = some o := fun a ha => by
    rcases List.mem_append.mp ha with w | w
    · obtain ⟨o, e, _⟩ := r.frc a w; exact ⟨o, e⟩
    · rcases List.mem_append.mp w with w | w
      · obtain ⟨o, e, _⟩ := r.kh a (List.mem_append_right _ w); exact ⟨o, e⟩
      · exact r.here a (List.mem_append_right _ w)
  have neC : ∀ a ∈ c.fr ++ (c.fx ++ feet σ.own), a ≠ C := fun a ha z => by obtain ⟨o, e⟩ := ex a ha; rw [z, hn] at e; cases e
  have nd2 : ((cells ++ c.fx) ++ feet σ.own).Nodup := by rw [List.append_assoc]; exact (List.nodup_cons.mp nd).2
  have mem2 : ∀ a ∈ (cells ++ c.fx) ++ feet σ.own, a ∈ c.fr ++ (c.fx ++ feet σ.own) := fun a ha => by
    rw [hfr]; rw [List.append_assoc] at ha; exact .tail _ ha
  have b0C : c.b0.get? C = none := by
    cases e : c.b0.get? C with
    | none => rfl
    | some o => have := r.kb C o e; rw [hn] at this; cases this
  have KneC : ∀ a ∈ c.K, a ≠ C := fun a ha z => by obtain ⟨o, e, _⟩ := r.kh a (List.mem_append_left _ ha); rw [z, hn] at e; cases e
  refine ⟨⟨m, hns, fun x av e => ?_⟩, .head _, fun x a _ e2 e3 => ?_, fun x y a e1 e2 => r.inj x y a (hcl _ _ e1) (hcl _ _ e2), r'.own, ?_, fun a ha => ?_, fun a ha => ?_, r'.kb, fun a ha => ?_, fun a ha => ?_, fun l e => ?_⟩
  · obtain ⟨e1, kd, ⟨a, ea⟩, kd'⟩ := hfv x av e
    obtain ⟨_, _, hl⟩ := r'.ns
    rcases hl x av e1 with ⟨i, _⟩ | ⟨i, b, v, j, kk, n, q, t⟩
    · rcases kd with kd | kd <;> (rw [i] at kd; cases kd)
    · have : a = b := by have := hcl _ _ ea; rw [j] at this; exact (Option.some.inj this).symm
      subst this
      have ma := hcel _ _ ea
      refine .inr ⟨kd', a, v, ea, .inr ma, neC a (mem2 a (List.mem_append_left _ ma)), q, t⟩
  · have ma := hcel _ _ e2
    exact absurd (List.mem_singleton.mp e3) (neC a (mem2 a (List.mem_append_left _ ma)))
  · show ([C] ++ ((cells ++ c.fx) ++ feet σ.own)).Nodup
    exact List.nodup_cons.mpr ⟨fun z => neC C (mem2 C z) rfl, nd2⟩
  · rcases List.mem_cons.mp (show a ∈ C :: ((cells ++ c.fx) ++ feet σ.own) from ha) with rfl | w
    · refine ⟨fun z => ?_, b0C⟩
      rcases List.mem_cons.mp z with e | z
      · exact neC _ (List.mem_append_left _ r.lin) e.symm
      · exact KneC _ z rfl
    · have := r.nk a (mem2 a w)
      refine ⟨fun z => ?_, this.2⟩
      rcases List.mem_cons.mp z with e | z
      · have n1 := (List.nodup_cons.mp nd).1
        rw [← e] at n1
        exact n1 (by show a ∈ cells ++ (c.fx ++ feet σ.own); rw [← List.append_assoc]; exact w)
      · exact this.1 z
  · rw [List.mem_singleton.mp ha]
    obtain ⟨o, es, ep, g, d, _⟩ := hns
    exact ⟨o, g, .of_dict d⟩
  · rcases List.mem_cons.mp ha with rfl | ha
    · exact (r.nk _ (List.mem_append_left _ r.lin)).2
    · exact r.kn a ha
  · rcases List.mem_append.mp ha with w | w
    · rcases List.mem_cons.mp w with rfl | w
      · exact r'.frc _ r.lin
      · exact r'.kh a (List.mem_append_left _ w)
    · rcases List.mem_append.mp w with w | w
      · exact r'.frc a (by rw [hfr]; exact .tail _ w)
      · exact r'.kh a (List.mem_append_right _ w)
  · obtain ⟨l', hl', hm⟩ := g.fr
    have e' : c.A.frames = some l := e
    rw [hl'] at e'; cases e'
    exact ⟨(r'.ff l hl').1, fun a ha => List.mem_append_right _ ((hm a ha).elim (fun e => e ▸ .head _) fun h => .tail _ h)⟩

/-- an object that nobody owns yet, owned behind the others -/
theorem Rep.addOwn {c : Cx} {σ : St} {h : Heap} {a : Addr} {ao : AO} (r : Rep c σ h) (ho : OR h a ao) (hf : foot a ao = [a]) (hn : a ∉ c.fr ++ (c.fx ++ feet σ.own)) (hK : a ∉ c.K) (h0 : c.b0.get? a = none) : Rep c ⟨σ.loc, σ.own ++ [(a, ao)]⟩ h := by
  have ef : feet (σ.own ++ [(a, ao)]) = feet σ.own ++ [a] := by rw [feet_append, feet_cons, hf, feet_nil, List.append_nil]
  have e2 : c.fr ++ (c.fx ++ (feet σ.own ++ [a])) = (c.fr ++ (c.fx ++ feet σ.own)) ++ [a] := by simp
  refine ⟨r.ns, r.lin, r.cel, r.inj, fun p hp => ?_, ?_, fun b hb => ?_, r.frc, r.kb, r.kn, r.kh, r.ff⟩
  · rcases List.mem_append.mp hp with z | z
    · exact r.own p z
    · rw [List.mem_singleton.mp z]; exact ho
  · show (c.fr ++ (c.fx ++ feet (σ.own ++ [(a, ao)]))).Nodup
    rw [ef, e2]
    exact List.nodup_append.mpr ⟨r.nd, by simp, fun x hx y hy e => hn (by rw [← List.mem_singleton.mp hy, ← e]; exact hx)⟩
  · replace hb : b ∈ c.fr ++ (c.fx ++ feet (σ.own ++ [(a, ao)])) := hb
    rw [ef, e2] at hb
    rcases List.mem_append.mp hb with z | z
    · exact r.nk b z
    · rw [List.mem_singleton.mp z]; exact ⟨hK, h0⟩

theorem Tri.behind {α β : Type} {c : Cx} {P : Heap → Prop} {t : Sem α} {V : Heap → β → α → Prop} {σ : St} {R : List (Addr × AO)} {Φ : β → St → Prop} {X : XP}
    (h : Tri c P t V σ Φ noX) : Tri c P t V ⟨σ.loc, σ.own ++ R⟩ (fun x σ' => ∃ σ'', σ' = ⟨σ''.loc, σ''.own ++ R⟩ ∧ Φ x σ'') X :=
  Tri.frame (fun s r p Q E q x => h s r p.1 Q E (fun a y σ' s' r' f v φ => q a y σ' s' r' f v ⟨σ', rfl, φ⟩) (fun _ _ _ _ _ y => y.elim))

/-- what is owned, made less: the rest is hidden -/
theorem RepS.reduce {c : Cx} {σ σ₀ σ₁ : St} {s s₁ : Shared} {R R1 : List (Addr × AO)} (rp : RepS c σ s) (hR : Hid c σ R s.heap) (r₀ : RepS c σ₀ s₁) (f₀ : Aft c σ s σ₀ s₁) (hloc : σ₀.loc = σ₁.loc) (hperm : σ₀.own.Perm (σ₁.own ++ R1)) :
    RepS c σ₁ s₁ ∧ Aft c σ s σ₁ s₁ ∧ Hid c σ₁ (R1 ++ R) s₁.heap := by
  obtain ⟨loc, own₀⟩ := σ₀
  obtain ⟨loc', own₁⟩ := σ₁
  cases hloc
  have r : RepS c ⟨loc, own₁ ++ R1⟩ s₁ := ⟨r₀.perm hperm, r₀.tp⟩
  have nd := r.feetNodup
  rw [feet_append] at nd
  have nd' := List.nodup_append.mp nd
  have r1 : RepS c ⟨loc, own₁⟩ s₁ := ⟨r.sub (fun p hp => List.mem_append_left _ hp) nd'.1, r.tp⟩
  have f1 : Aft c σ s ⟨loc, own₁⟩ s₁ := ⟨f₀.rest, f₀.sp, f₀.al, fun a ha => f₀.fs a ((feet_perm hperm).mem_iff.mpr (by rw [feet_append]; exact List.mem_append_left _ ha))⟩
  refine ⟨r1, f1, fun p hp => ?_⟩
  rcases List.mem_append.mp hp with hp | hp
  · refine ⟨r.own p (List.mem_append_right _ hp), fun b hb => ?_⟩
    have hb1 : b ∈ feet R1 := List.mem_flatMap.mpr ⟨p, hp, hb⟩
    have hb' : b ∈ c.fr ++ (c.fx ++ feet (own₁ ++ R1)) := List.mem_append_right _ (List.mem_append_right _ (by rw [feet_append]; exact List.mem_append_right _ hb1))
    refine ⟨fun z => ?_, (r.nk b hb').1⟩
    rcases List.mem_append.mp z with z | z
    · exact (List.nodup_append.mp r.nd).2.2 b z b (List.mem_append_right _ (by rw [feet_append]; exact List.mem_append_right _ hb1)) rfl
    · exact nd'.2.2 b z b hb1 rfl
  · exact hR.after rp f1 p hp

/-- the frame of a comprehension, let go -/
theorem letGoC {c : Cx} {σ σ₂ : St} {s s₂ : Shared} {C : Addr} {m : Str → Option Value} {h' : Heap} (r : RepS c σ₂ s₂) (f : Aft c σ s σ₂ s₂) (hm : s₂.heap.Ns C m) (n1 : C ∉ c.fr ++ (c.fx ++ feet σ₂.own)) (n2 : C ∉ c.K) (n3 : c.b0.get? C = none) (n4 : ∀ b o, b ∉ feet σ.own → s.heap.get? b = some o → b ≠ C) (hs : Heap.SameBut C s₂.heap h') :
    RepS c σ₂ { s₂ with heap := h' } ∧ Aft c σ s σ₂ { s₂ with heap := h' } := by
  have k : ∀ b o, b ≠ C → s₂.heap.get? b = some o → h'.get? b = some o := fun b o n e => (hs.2 b n).trans e
  have nt : ∀ o, s₂.heap.get? C = some o → NT o := fun o e => by
    obtain ⟨o', es, ep, g', d', _⟩ := hm
    rw [e] at g'; cases g'; exact .of_dict d'
  refine ⟨⟨r.toRep.keepBut k n1 n2 n3 nt, r.tp⟩, ?_, fun a o n e => ?_, fun a o n e => ?_, f.fs⟩
  · have := f.rest; rw [this]
  · obtain ⟨p, sl, q⟩ := f.sp a o n e
    have ne := n4 a o (fun z => n (List.mem_append_right _ z)) e
    exact ⟨fun z => k a o ne (p z), sl, k a _ ne q⟩
  · obtain ⟨o', e'⟩ := f.al a o n e
    exact ⟨o', k a o' (n4 a o n e) e'⟩

set_option maxHeartbeats 1000000 in
theorem compCore {use : Option (Value → Sem Unit)} {Q : Value → Shared → Prop} {E : Value → Shared → Prop} {s : Shared} {z : Bool} {n : Nat} {c : Cx} {elt target iter : Expr} {ifs : List Expr} {scope : Scope} {pos : Pos} {cl : List (Str × Addr)} {cells : List Addr} {σ : St} {Φ : AV → St → Prop} {X : XP} (R : List (Addr × AO)) (g : Good z n c)
    (hfr : c.fr = c.env.locals :: cells) (hclos : closureFor scope c.env = pure cl) (hcl : ∀ x a, cl.lookup x = some a → c.env.cells.lookup x = some a) (hcel : ∀ x a, cl.lookup x = some a → a ∈ cells ++ c.fx)
    (h : Ev c iter σ (fun a σ₀ => ∃ (R1 : List (Addr × AO)) (σ₁ : St), σ₀.loc = σ₁.loc ∧ σ₀.own.Perm (σ₁.own ++ R1) ∧ ∃ (items : List AV) (fv : List (String × AV)) (inv : Cx → Nat → List AV → St → Prop), Itr c a items σ₁ (Hid c σ₁ (R1 ++ R)) ∧ items.length ≤ 16777216 ∧
      (∀ C x av, fv.lookup x = some av → σ₁.loc.lookup x = some av ∧ (c.kind x = some .cell ∨ c.kind x = some .free) ∧ (∃ a, cl.lookup (Str.ofString x) = some a) ∧
        ((compEnvC scope cl C c.env).kindOf (Str.ofString x) = some .cell ∨ (compEnvC scope cl C c.env).kindOf (Str.ofString x) = some .free)) ∧
      (∀ C, inv (compCx c scope cl cells C) 0 [] ⟨fv, σ₁.own⟩ ∧ (∀ i x acc σ', items[i]? = some x → inv (compCx c scope cl cells C) i acc σ' →
        Asg (compCx c scope cl cells C) target x σ' (fun σ₂ => Ifs (compCx c scope cl cells C) ifs σ₂ (fun b σ₃ => (b = true → Ev (compCx c scope cl cells C) elt σ₃ (fun y σ₄ => inv (compCx c scope cl cells C) (i + 1) (acc ++ [y]) σ₄) noX) ∧
          (b = false → inv (compCx c scope cl cells C) (i + 1) acc σ₃)) noX) noX) ∧
      (∀ acc σ', inv (compCx c scope cl cells C) items.length acc σ' → ∀ d, Φ (.ref d) ⟨σ₁.loc, (d, .list acc) :: σ'.own⟩))) X)
    (hcn : ∀ y ∈ scope.names, y.2 ≠ .cell) (hnames : ∀ y ∈ scope.names, y.2 = .local → scope.names.lookup y.1 = some .local) (hk : scope.kind = .function := by rfl)
    (rp : RepS c σ s) (hR : Hid c σ R s.heap) (x : Kx c σ s X E)
    (fin : ∀ D C σ₂ s₂, RepS c σ₂ s₂ → Aft c σ s σ₂ s₂ → Φ (.ref D) σ₂ → (∃ m, s₂.heap.Ns C m) → C ∉ c.fr ++ (c.fx ++ feet σ₂.own) → C ∉ c.K → c.b0.get? C = none → (∀ b o, b ∉ feet σ.own → s.heap.get? b = some o → b ≠ C) → compPost (model c.prog c.w) c.A E use Q (.ref D) C (.ok .next) s₂)
    (hs : ∀ x, foldedSetIterable iter c.env x = pure x := by intro _; rfl) :
    wpAny (model c.prog c.w) c.A (comprehension (.ListComp elt [⟨target, iter, ifs, 0⟩] scope pos) scope c.env (firstIterPos [⟨target, iter, ifs, 0⟩] pos) (newList []) (firstAsync [⟨target, iter, ifs, 0⟩]) (firstIter [⟨target, iter, ifs, 0⟩] c.env) use) Q E s := by
  refine wpAny_comprehension_free (g := ⟨target, iter, ifs, 0⟩) (gs := []) (use := use) rfl hs hclos hk hnames ?_
  show wpAny _ _ (eval iter c.env) _ E s
  refine h s rp trivial _ _ (fun v a σ₀ s₁ r₀ f₀ va h₁ => ?_) x
  obtain ⟨R1, σ₁, hloc, hperm, items, fv, inv, it, hil, hfv, hC⟩ := h₁
  obtain ⟨r₁, f₁, hR₁⟩ := RepS.reduce rp hR r₀ f₀ hloc hperm
  refine wpAny_with_toks r₁.tp (it v s₁ r₁ hR₁ va _ _ (fun I fp P St h' tk W hn hI hk' hfp hst hP => fun htk => ?_))
  refine wpAny_newObj_type (wpAny_newFunctionEnv hcn (by intro y hy; simp at hy) (fun h₂ hns₂ hsb₂ => ?_) hk)
  dsimp only at hns₂ hsb₂ ⊢
  generalize hD : h'.objs.size = D at *
  generalize hH : h'.push { cls := .type "list", dict := none, data := .seq #[] } = H at hns₂ hsb₂ ⊢
  have hCs : H.objs.size = D + 1 := by rw [← hH, Heap.size_push, hD]
  generalize hC' : H.objs.size = C at *
  subst hCs
  clear hC'
  have fresh : ∀ a, D ≤ a → h'.get? a = none := fun a ha => Heap.get?_none_of_le (by rw [hD]; exact ha)
  have fresh1 : ∀ a, D ≤ a → s₁.heap.get? a = none := fun a ha => by
    cases e : s₁.heap.get? a with
    | none => rfl
    | some o => have := hk' a o e; rw [fresh a ha] at this; cases this
  have kH : ∀ b o, h'.get? b = some o → H.get? b = some o := fun b o e => hH ▸ Heap.get?_push_of_some _ e
  have k2 : ∀ b o, h'.get? b = some o → h₂.get? b = some o := fun b o e => hsb₂.extBut b o (fun z => by subst z; rw [fresh _ (Nat.le_succ _)] at e; cases e) (Heap.get?_push_of_some _ (kH b o e))
  have k12 : ∀ b o, s₁.heap.get? b = some o → h₂.get? b = some o := fun b o e => k2 b o (hk' b o e)
  have hDl : h₂.get? D = some (listObj [] 0) := hsb₂.extBut D _ (Nat.ne_of_lt (Nat.lt_succ_self _)) (Heap.get?_push_of_some _ (hH ▸ hD ▸ Heap.get?_push_size _ rfl))
  obtain ⟨h0, turn, done⟩ := hC (D + 1)
  generalize hc' : compCx c scope cl cells (D + 1) = c' at h0 turn done
  have eA : c'.A = c.A := by rw [← hc']
  have eP : c'.prog = c.prog := by rw [← hc']
  have eW : c'.w = c.w := by rw [← hc']
  have eE : c'.env = compEnvC scope cl (D + 1) c.env := by rw [← hc']
  have efr : c'.fr = [D + 1] := by rw [← hc']
  have eK : c'.K = c.env.locals :: c.K := by rw [← hc']
  -- where the loop begins
  have R₂ : Rep c' ⟨fv, σ₁.own⟩ h₂ := by
    rw [← hc']
    exact r₁.toRep.enterComp g hfr hcl (hfv (D + 1)) k12 (fresh1 _ (Nat.le_succ _)) hns₂ hcel
  have eb0 : c'.b0 = c.b0 := by rw [← hc']
  have efx : c'.fx = cells ++ c.fx := by rw [← hc']
  have ex1 : ∀ a ∈ c.fr ++ (c.fx ++ feet σ₁.own), ∃ o, s₁.heap.get? a = some o := fun a ha => by
    rcases List.mem_append.mp ha with w | w
    · obtain ⟨o, e, _⟩ := r₁.frc a w; exact ⟨o, e⟩
    · rcases List.mem_append.mp w with w | w
      · obtain ⟨o, e, _⟩ := r₁.kh a (List.mem_append_right _ w); exact ⟨o, e⟩
      · exact r₁.here a (List.mem_append_right _ w)
  have exK : ∀ a ∈ c.K, ∃ o, s₁.heap.get? a = some o := fun a ha => by obtain ⟨o, e, _⟩ := r₁.kh a (List.mem_append_left _ ha); exact ⟨o, e⟩
  have newN : ∀ a, s₁.heap.get? a = none → a ≠ D + 1 → a ∉ c'.fr ++ (c'.fx ++ feet σ₁.own) ∧ a ∉ c'.K ∧ c'.b0.get? a = none := fun a hn hne => by
    rw [efr, efx, eK, eb0]
    refine ⟨fun z => ?_, fun z => ?_, ?_⟩
    · rcases List.mem_cons.mp z with z | z
      · exact hne z
      · obtain ⟨o, e⟩ := ex1 a (by rw [hfr]; rw [List.append_assoc] at z; exact .tail _ z)
        rw [hn] at e; cases e
    · rcases List.mem_cons.mp z with z | z
      · obtain ⟨o, e⟩ := ex1 a (z ▸ List.mem_append_left _ r₁.lin)
        rw [hn] at e; cases e
      · obtain ⟨o, e⟩ := exK a z; rw [hn] at e; cases e
    · cases e : c.b0.get? a with
      | none => rfl
      | some o => have := r₁.kb a o e; rw [hn] at this; cases this
  obtain ⟨oI, gI, ntI, _⟩ := hI 0 h' hst
  have hIlt : I < D := hD ▸ Heap.lt_size gI
  have hID : I ≠ D := Nat.ne_of_lt hIlt
  have hIC : I ≠ D + 1 := Nat.ne_of_lt (Nat.lt_succ_of_lt hIlt)
  have hDC : D ≠ D + 1 := Nat.ne_of_lt (Nat.lt_succ_self _)
  obtain ⟨nD1, nD2, nD3⟩ := newN D (fresh1 D (Nat.le_refl _)) hDC
  obtain ⟨nI1, nI2, nI3⟩ := newN I hn hIC
  have R₃ : Rep c' ⟨fv, σ₁.own ++ [(D, .list [])]⟩ h₂ := R₂.addOwn ⟨_, _, hDl, VRs.nil⟩ rfl nD1 nD2 nD3
  have fD : ∀ (own : List (Addr × AO)) (acc : List AV), feet (own ++ [(D, .list acc)]) = feet own ++ [D] := fun own acc => by rw [feet_append, feet_cons, feet_nil]; rfl
  generalize hs₂ : ({ s₁ with heap := h₂, toks := tk + ([] : List (Str × Value)).length } : Shared) = s₂
  have hs₂h : s₂.heap = h₂ := by rw [← hs₂]
  have hs₂r : s₂ = { s₁ with heap := s₂.heap, toks := s₂.toks } := by rw [← hs₂]
  have hst₂ : St 0 s₂.heap := W.frame _ _ _ hst fun b _ o e => by rw [hs₂h]; exact k2 b o e
  have R₄ : RepS c' ⟨fv, σ₁.own ++ [(D, .list [])]⟩ s₂ := ⟨by rw [hs₂h]; exact R₃, by rw [← hs₂]; exact Nat.le_trans htk (Nat.le_add_right ..)⟩
  have hI₂ : I ∉ feet (σ₁.own ++ [(D, AO.list [])]) := fun z => by
    rw [fD] at z
    rcases List.mem_append.mp z with z | z
    · exact nI1 (List.mem_append_right _ (List.mem_append_right _ z))
    · exact hID (List.mem_singleton.mp z)
  have hNT1 : NoTup s₁.heap (c'.fr ++ feet σ₁.own) := fun b hb o e => by
    rcases List.mem_append.mp hb with w | w
    · rw [efr] at w; rw [List.mem_singleton.mp w, fresh1 _ (Nat.le_succ _)] at e; cases e
    · exact r₁.noTup b (List.mem_append_right _ w) o e
  have hNTK : NoTup s₁.heap c'.K := fun b hb o e => by
    rw [eK] at hb
    rcases List.mem_cons.mp hb with rfl | w
    · exact r₁.noTup _ (List.mem_append_left _ r₁.lin) o e
    · exact r₁.noTupK b w o e
  have f₀ : Aft c' ⟨fv, σ₁.own⟩ s₁ ⟨fv, σ₁.own ++ [(D, .list [])]⟩ s₂ := by
    refine ⟨hs₂r, Sp.of_keep fun a o _ e => by rw [hs₂h]; exact k12 a o e, fun a o _ e => ⟨o, by rw [hs₂h]; exact k12 a o e⟩, fun a ha => ?_⟩
    replace ha : a ∈ feet (σ₁.own ++ [(D, AO.list [])]) := ha
    rw [fD] at ha
    rcases List.mem_append.mp ha with z | z
    · exact .inl z
    · rw [List.mem_singleton.mp z]; exact .inr (fresh1 D (Nat.le_refl _))
  have fpK : ∀ b ∈ fp, b = I ∨ (b ∉ c'.fr ∧ b ∉ feet σ₁.own ∧ b ∉ c'.K ∧ ∃ o, s₁.heap.get? b = some o) := fun b hb => by
    rcases hfp b hb with z | ⟨n1, n2, o, e⟩
    · exact .inl z
    · refine .inr ⟨fun z => ?_, fun z => n1 (List.mem_append_right _ z), fun z => ?_, o, e⟩
      · rw [efr] at z; rw [List.mem_singleton.mp z, fresh1 _ (Nat.le_succ _)] at e; cases e
      · rw [eK] at z
        rcases List.mem_cons.mp z with z | z
        · exact n1 (z ▸ List.mem_append_left _ r₁.lin)
        · exact n2 z
  have loop : codeAny (model c.prog c.w) c.A (.compLoop (.ListComp elt [⟨target, iter, ifs, 0⟩] scope pos) 0 (.ref I) (.ref D) (compEnvC scope cl (D + 1) c.env)) (compPost (model c.prog c.w) c.A E use Q (.ref D) (D + 1)) s₂ := by
    refine compLoopAny (fun n s' => ∃ i acc σ', n = items.length - i ∧ i ≤ items.length ∧ acc.length ≤ i ∧ RepS c' ⟨σ'.loc, σ'.own ++ [(D, .list acc)]⟩ s' ∧
      Aft c' ⟨fv, σ₁.own⟩ s₁ ⟨σ'.loc, σ'.own ++ [(D, .list acc)]⟩ s' ∧ inv c' i acc σ' ∧ St i s'.heap ∧ I ∉ feet (σ'.own ++ [(D, .list acc)])) (fun n s' hJ => ?_) items.length
      ⟨0, [], ⟨fv, σ₁.own⟩, rfl, Nat.zero_le _, Nat.le_refl _, R₄, f₀, h0, hst₂, hI₂⟩
    obtain ⟨i, acc, σ', rfl, hi, hal, r', f', hinv, hst', hIf⟩ := hJ
    have hI3 : I ∉ c'.fr ++ (c'.fx ++ feet (σ'.own ++ [(D, .list acc)])) := fun z => by
      rcases List.mem_append.mp z with z | z
      · exact nI1 (List.mem_append_left _ z)
      · rcases List.mem_append.mp z with z | z
        · exact nI1 (List.mem_append_right _ (List.mem_append_left _ z))
        · exact hIf z
    have hne1 : ∀ b o, s₁.heap.get? b = some o → b ≠ I := fun b o e z => by subst z; rw [hn] at e; cases e
    have step : ∀ h₄ tk₄, 1 ≤ tk₄ → (∀ b o, b ∉ [I] → s'.heap.get? b = some o → h₄.get? b = some o) → RepS c' ⟨σ'.loc, σ'.own ++ [(D, .list acc)]⟩ { s' with heap := h₄, toks := tk₄ } ∧
        Aft c' ⟨fv, σ₁.own⟩ s₁ ⟨σ'.loc, σ'.own ++ [(D, .list acc)]⟩ { s' with heap := h₄, toks := tk₄ } := fun h₄ tk₄ htk₄ kk => by
      have kk' : ∀ b o, b ≠ I → s'.heap.get? b = some o → h₄.get? b = some o := fun b o n e => kk b o (by simpa using n) e
      refine ⟨⟨r'.toRep.keepBut kk' hI3 nI2 nI3 fun o e => by obtain ⟨o', e', nt, _⟩ := hI _ _ hst'; rw [e] at e'; cases e'; exact nt, htk₄⟩, ?_, fun b o g e => ?_, fun b o n e => ?_, f'.fs⟩
      · have := f'.rest; rw [this]
      · obtain ⟨p1, sl, p2⟩ := f'.sp b o g e
        exact ⟨fun z => kk' b o (hne1 b o e) (p1 z), sl, kk' b _ (hne1 b o e) p2⟩
      · obtain ⟨o', e'⟩ := f'.al b o n e
        exact ⟨o', kk' b o' (hne1 b o e) e'⟩
    by_cases hlt : i < items.length
    · refine wpAny_with_toks r'.tp (W.item i s' _ _ hlt hst' fun v' h₄ tk₄ hPv hst₄ kk => fun htk₄ => ?_)
      obtain ⟨r4, f4⟩ := step h₄ tk₄ htk₄ kk
      have hx : items[i]? = some items[i] := by simp [hlt]
      have va' : VR h₄ items[i] v' := (hP i _ v' hx hPv).mono f4.sp hNT1 hNTK
      have key := turn i items[i] acc σ' hx hinv
      have hIn : ∃ o, h₄.get? I = some o := by obtain ⟨o, e, _⟩ := hI _ _ hst₄; exact ⟨o, e⟩
      -- what follows a body's turn
      have fin : ∀ j acc' σ₄ s₄, j = i + 1 → acc'.length ≤ j → RepS c' ⟨σ₄.loc, σ₄.own ++ [(D, .list acc')]⟩ s₄ → Aft c' ⟨σ'.loc, σ'.own ++ [(D, .list acc)]⟩ { s' with heap := h₄, toks := tk₄ } ⟨σ₄.loc, σ₄.own ++ [(D, .list acc')]⟩ s₄ → inv c' j acc' σ₄ →
          ∃ m, m < items.length - i ∧ ∃ i acc σ', m = items.length - i ∧ i ≤ items.length ∧ acc.length ≤ i ∧ RepS c' ⟨σ'.loc, σ'.own ++ [(D, .list acc)]⟩ s₄ ∧
            Aft c' ⟨fv, σ₁.own⟩ s₁ ⟨σ'.loc, σ'.own ++ [(D, .list acc)]⟩ s₄ ∧ inv c' i acc σ' ∧ St i s₄.heap ∧ I ∉ feet (σ'.own ++ [(D, .list acc)]) := by
        rintro j acc' σ₄ s₄ rfl hl r₄ f₄ hv
        refine ⟨items.length - (i + 1), by omega, i + 1, acc', σ₄, rfl, hlt, hl, r₄, f4.trans f₄, hv, W.frame _ _ _ hst₄ fun b hb o e => ?_, fun z => ?_⟩
        · rcases fpK b hb with rfl | ⟨n1, n2, n3, o1, e1⟩
          · exact f₄.sp.get e (fun z => by
              rcases List.mem_append.mp z with z | z
              · exact nI1 (List.mem_append_left _ z)
              · exact hIf z) nI2
          · refine f₄.sp.get e (fun z => ?_) n3
            rcases List.mem_append.mp z with z | z
            · exact n1 z
            · rcases f'.fs b z with z | z
              · exact n2 z
              · rw [e1] at z; cases z
        · rcases f₄.fs I z with z | z
          · exact hIf z
          · obtain ⟨o, e⟩ := hIn
            rw [show ({ s' with heap := h₄, toks := tk₄ } : Shared).heap = h₄ from rfl, e] at z; cases z
      have key' := fun v => (key v).behind (R := [(D, .list acc)]) (X := noX)
      rw [← eE, ← eA, ← eP, ← eW]
      refine ⟨fun Q' E' h' => by
        obtain ⟨o, e, _, ng⟩ := hI _ _ hst₄
        exact goOk e ng h', ?_⟩
      refine key' v' { s' with heap := h₄, toks := tk₄ } r4 va' _ _ (fun _ _ σ₅ s₅ r₅ f₅ _ h₅ => ?_) (fun _ _ _ _ _ z => z.elim)
      obtain ⟨σ₅', rfl, h₅⟩ := h₅
      refine (Tri.behind (R := [(D, .list acc)]) (X := noX) h₅) s₅ r₅ trivial _ _ (fun b b' σ₆ s₆ r₆ f₆ eb h₆ => ?_) (fun _ _ _ _ _ z => z.elim)
      obtain ⟨σ₆', rfl, h₆⟩ := h₆
      cases eb
      cases b with
      | false => exact fin _ acc σ₆' s₆ rfl (Nat.le_succ_of_le hal) r₆ (f₅.trans f₆) (h₆.2 rfl)
      | true =>
        rw [if_pos rfl]
        refine (Tri.behind (R := [(D, .list acc)]) (X := noX) (h₆.1 rfl)) s₆ r₆ trivial _ _ (fun y av σ₇ s₇ r₇ f₇ vy h₇ => ?_) (fun _ _ _ _ _ z => z.elim)
        obtain ⟨σ₇', rfl, h₇⟩ := h₇
        have hix : (σ₇'.own ++ [(D, AO.list acc)])[σ₇'.own.length]? = some (D, .list acc) := by simp
        refine (Cal.append (c := c') (l := acc) (a := D) (σ := ⟨σ₇'.loc, σ₇'.own ++ [(D, .list acc)]⟩) (x := av) (Φ := fun _ σ => σ = ⟨σ₇'.loc, σ₇'.own ++ [(D, .list (acc ++ [av]))]⟩) (X := noX) σ₇'.own.length hix (by omega) (by simp)) [.ref D, y] s₇ r₇
          (VRs.cons VR.mkRef (VRs.cons vy VRs.nil)) _ _ (fun _ _ σ₈ s₈ r₈ f₈ _ h₈ => ?_) (fun _ _ _ _ _ z => z.elim)
        subst h₈
        exact fin _ (acc ++ [av]) σ₇' s₈ rfl (by simp; exact hal) r₈ (((f₅.trans f₆).trans f₇).trans f₈) h₇
    · have hi' : i = items.length := by omega
      subst hi'
      refine wpAny_with_toks r'.tp (W.done s' _ _ hst' fun h₄ tk₄ kk => fun htk₄ => ?_)
      obtain ⟨r4, f4⟩ := step h₄ tk₄ htk₄ kk
      obtain ⟨m4, hns4, _⟩ := r4.ns
      rw [eE] at hns4
      have dn := done acc σ' hinv D
      have pm : (feet ((D, .list acc) :: σ'.own)).Perm (feet (σ'.own ++ [(D, .list acc)])) := feet_perm (List.perm_append_singleton _ _).symm
      have B := r₁.toRep.back (own' := (D, .list acc) :: σ'.own) (s' := { s' with heap := h₄, toks := tk₄ }) (K' := c.env.locals :: c.K) (F' := [D + 1]) (loc := σ₁.loc) (own := σ₁.own) (by
        have := f'.rest; rw [this]) (fun a o hna e => ?_) (fun a ha => by rw [List.mem_singleton.mp ha]; exact fresh1 _ (Nat.le_succ _)) (fun a ha => by
          rcases List.mem_cons.mp ha with rfl | ha
          · exact List.mem_append_left _ r₁.lin
          · exact List.mem_append_right _ ha) (fun a o hna e => f4.al a o hna e) (fun p hp => ?_) ?_ (fun a ha => ?_) (fun a o e => ?_)
      · obtain ⟨RB, FB⟩ := B
        have fr1 := fresh1 (D + 1) (Nat.le_succ _)
        have nC : D + 1 ∉ feet (σ'.own ++ [(D, .list acc)]) := fun z => (List.nodup_append.mp r4.nd).2.2 (D + 1) (by rw [efr]; exact .head _) (D + 1) (List.mem_append_right _ z) rfl
        refine fin D (D + 1) _ _ ⟨RB, htk₄⟩ (f₁.trans FB) dn ⟨m4, hns4⟩ (fun z => ?_) (fun z => ?_) ?_ ?_
        · rcases List.mem_append.mp z with w | w
          · obtain ⟨o, e⟩ := ex1 _ (List.mem_append_left _ w); rw [fr1] at e; cases e
          · rcases List.mem_append.mp w with w | w
            · obtain ⟨o, e⟩ := ex1 _ (List.mem_append_right _ (List.mem_append_left _ w)); rw [fr1] at e; cases e
            · exact nC (pm.mem_iff.mp w)
        · obtain ⟨o, e⟩ := exK _ z; rw [fr1] at e; cases e
        · cases e : c.b0.get? (D + 1) with
          | none => rfl
          | some o => have := r₁.kb _ o e; rw [fr1] at this; cases this
        · rintro b o n e rfl
          obtain ⟨o', e'⟩ := f₁.al _ o n e
          rw [fr1] at e'; cases e'
      · have := f4.sp a o (by rw [efr]; exact hna) e
        rw [eK] at this
        exact this
      · exact r4.own p (by
          rcases List.mem_cons.mp hp with rfl | hp
          · exact List.mem_append_right _ (.head _)
          · exact List.mem_append_left _ hp)
      · exact pm.nodup_iff.mpr r4.toRep.feetNodup
      · exact f4.fs a (pm.mem_iff.mp ha)
      · exact r4.kb a o (by rw [eb0]; exact e)
  exact codeAny_compStart_list loop (W.self 0 _ _ _ hst₂ loop)
theorem evCompR {z : Bool} {n : Nat} {c : Cx} {elt target iter : Expr} {ifs : List Expr} {scope : Scope} {pos : Pos} {cl : List (Str × Addr)} {cells : List Addr} {σ : St} {Φ : AV → St → Prop} {X : XP} (R : List (Addr × AO)) (g : Good z n c)
    (hfr : c.fr = c.env.locals :: cells) (hclos : closureFor scope c.env = pure cl) (hcl : ∀ x a, cl.lookup x = some a → c.env.cells.lookup x = some a) (hcel : ∀ x a, cl.lookup x = some a → a ∈ cells ++ c.fx)
    (h : Ev c iter σ (fun a σ₀ => ∃ (R1 : List (Addr × AO)) (σ₁ : St), σ₀.loc = σ₁.loc ∧ σ₀.own.Perm (σ₁.own ++ R1) ∧ ∃ (items : List AV) (fv : List (String × AV)) (inv : Cx → Nat → List AV → St → Prop), Itr c a items σ₁ (Hid c σ₁ (R1 ++ R)) ∧ items.length ≤ 16777216 ∧
      (∀ C x av, fv.lookup x = some av → σ₁.loc.lookup x = some av ∧ (c.kind x = some .cell ∨ c.kind x = some .free) ∧ (∃ a, cl.lookup (Str.ofString x) = some a) ∧
        ((compEnvC scope cl C c.env).kindOf (Str.ofString x) = some .cell ∨ (compEnvC scope cl C c.env).kindOf (Str.ofString x) = some .free)) ∧
      (∀ C, inv (compCx c scope cl cells C) 0 [] ⟨fv, σ₁.own⟩ ∧ (∀ i x acc σ', items[i]? = some x → inv (compCx c scope cl cells C) i acc σ' →
        Asg (compCx c scope cl cells C) target x σ' (fun σ₂ => Ifs (compCx c scope cl cells C) ifs σ₂ (fun b σ₃ => (b = true → Ev (compCx c scope cl cells C) elt σ₃ (fun y σ₄ => inv (compCx c scope cl cells C) (i + 1) (acc ++ [y]) σ₄) noX) ∧
          (b = false → inv (compCx c scope cl cells C) (i + 1) acc σ₃)) noX) noX) ∧
      (∀ acc σ', inv (compCx c scope cl cells C) items.length acc σ' → ∀ d, Φ (.ref d) ⟨σ₁.loc, (d, .list acc) :: σ'.own⟩))) X)
    (hcn : ∀ y ∈ scope.names, y.2 ≠ .cell) (hnames : ∀ y ∈ scope.names, y.2 = .local → scope.names.lookup y.1 = some .local) (hk : scope.kind = .function := by rfl)
    (hs : ∀ x, foldedSetIterable iter c.env x = pure x := by intro _; rfl) : Tri c (Hid c σ R) (eval (.ListComp elt [⟨target, iter, ifs, 0⟩] scope pos) c.env) VR σ Φ X := by
  intro s rp hR Q E q x
  rw [eval_ListComp]
  refine compCore R g hfr hclos hcl hcel h hcn hnames hk rp hR x (fun D C σ₂ s₂ r₂ f₂ φ hm n1 n2 n3 n4 => ?_) hs
  obtain ⟨m, hm⟩ := hm
  refine ⟨m, hm, fun h' hs' => ?_⟩
  obtain ⟨r3, f3⟩ := letGoC r₂ f₂ hm n1 n2 n3 n4 hs'
  exact q _ (.ref D) _ _ r3 f3 VR.mkRef φ

/-- a comprehension whose list goes straight into a name -/
theorem Ex.assignComp {z : Bool} {n : Nat} {c : Cx} {y : String} {np spos : Pos} {elt target iter : Expr} {ifs : List Expr} {scope : Scope} {pos : Pos} {cl : List (Str × Addr)} {cells : List Addr} {σ : St} {Φ : Fl → St → Prop} {X : XP} (R : List (Addr × AO)) (g : Good z n c)
    (hfr : c.fr = c.env.locals :: cells) (hclos : closureFor scope c.env = pure cl) (hcl : ∀ x a, cl.lookup x = some a → c.env.cells.lookup x = some a) (hcel : ∀ x a, cl.lookup x = some a → a ∈ cells ++ c.fx)
    (h : Ev c iter σ (fun a σ₀ => ∃ (R1 : List (Addr × AO)) (σ₁ : St), σ₀.loc = σ₁.loc ∧ σ₀.own.Perm (σ₁.own ++ R1) ∧ ∃ (items : List AV) (fv : List (String × AV)) (inv : Cx → Nat → List AV → St → Prop), Itr c a items σ₁ (Hid c σ₁ (R1 ++ R)) ∧ items.length ≤ 16777216 ∧
      (∀ C x av, fv.lookup x = some av → σ₁.loc.lookup x = some av ∧ (c.kind x = some .cell ∨ c.kind x = some .free) ∧ (∃ a, cl.lookup (Str.ofString x) = some a) ∧
        ((compEnvC scope cl C c.env).kindOf (Str.ofString x) = some .cell ∨ (compEnvC scope cl C c.env).kindOf (Str.ofString x) = some .free)) ∧
      (∀ C, inv (compCx c scope cl cells C) 0 [] ⟨fv, σ₁.own⟩ ∧ (∀ i x acc σ', items[i]? = some x → inv (compCx c scope cl cells C) i acc σ' →
        Asg (compCx c scope cl cells C) target x σ' (fun σ₂ => Ifs (compCx c scope cl cells C) ifs σ₂ (fun b σ₃ => (b = true → Ev (compCx c scope cl cells C) elt σ₃ (fun y σ₄ => inv (compCx c scope cl cells C) (i + 1) (acc ++ [y]) σ₄) noX) ∧
          (b = false → inv (compCx c scope cl cells C) (i + 1) acc σ₃)) noX) noX) ∧
      (∀ acc σ', inv (compCx c scope cl cells C) items.length acc σ' → ∀ d, Φ .next (St.set ⟨σ₁.loc, (d, .list acc) :: σ'.own⟩ y (.ref d))))) X)
    (hcn : ∀ y ∈ scope.names, y.2 ≠ .cell) (hnames : ∀ y ∈ scope.names, y.2 = .local → scope.names.lookup y.1 = some .local) (hk : scope.kind = .function := by rfl)
    (hs : ∀ x, foldedSetIterable iter c.env x = pure x := by intro _; rfl) (hw : swapsWith (.ListComp elt [⟨target, iter, ifs, 0⟩] scope pos) (some (.Name (Str.ofString y) np)) spos.line c.env = pure true := by rfl)
    (hx : CanStore c y := by exact Or.inl rfl) (hk2 : c.env.scope.kind = .function := by rfl) :
    Tri c (Hid c σ R) (exec (.Assign [.Name (Str.ofString y) np] (.ListComp elt [⟨target, iter, ifs, 0⟩] scope pos) spos) c.env) FR σ Φ X := by
  intro s rp hR Q E q x
  rw [exec_Assign_Name_used _ _ _ _ hw]
  refine wpAny_bind (wpAny_standAt (wpAny_bind ?_))
  rw [arm_evalThenUse_ListComp]
  refine wpAny_bind (compCore (Φ := fun av σ₁ => Φ .next (σ₁.set y av)) R g hfr hclos hcl hcel h hcn hnames hk rp hR x (fun D C σ₂ s₂ r₂ f₂ φ hm n1 n2 n3 n4 => ?_) hs)
  refine wpAny_assign_Name (storeLoc (Φ := fun _ σ' => σ' = σ₂.set y (.ref D)) hk2 hx rfl s₂ r₂ VR.mkRef _ _ (fun _ _ σ₃ s₃ r₃ f₃ _ h₃ => ?_) (x.go f₂))
  subst h₃
  obtain ⟨m, hm⟩ := hm
  have hm3 : s₃.heap.Ns C m := by
    obtain ⟨o, es, ep, g', d', w⟩ := hm
    exact ⟨o, es, ep, (f₃.sp C o (fun z => n1 (by
      rcases List.mem_append.mp z with z | z
      · exact List.mem_append_left _ z
      · exact List.mem_append_right _ (List.mem_append_right _ z))) g').1 n2, d', w⟩
  refine ⟨m, hm3, fun h' hs' => ?_⟩
  obtain ⟨r4, f4⟩ := letGoC r₃ (f₂.trans f₃) hm3 n1 n2 n3 n4 hs'
  exact wpAny_pure (wpAny_pure (q _ .next _ _ r4 f4 rfl φ))

theorem evComp {z : Bool} {n : Nat} {c : Cx} {elt target iter : Expr} {ifs : List Expr} {scope : Scope} {pos : Pos} {cl : List (Str × Addr)} {cells : List Addr} {σ : St} {Φ : AV → St → Prop} {X : XP} (R : List (Addr × AO)) (g : Good z n c)
    (hfr : c.fr = c.env.locals :: cells) (hclos : closureFor scope c.env = pure cl) (hcl : ∀ x a, cl.lookup x = some a → c.env.cells.lookup x = some a) (hcel : ∀ x a, cl.lookup x = some a → a ∈ cells ++ c.fx)
    (h : Ev c iter σ (fun a σ₁ => ∃ (items : List AV) (fv : List (String × AV)) (inv : Cx → Nat → List AV → St → Prop), Itr c a items σ₁ (Hid c σ₁ R) ∧ items.length ≤ 16777216 ∧
      (∀ C x av, fv.lookup x = some av → σ₁.loc.lookup x = some av ∧ (c.kind x = some .cell ∨ c.kind x = some .free) ∧ (∃ a, cl.lookup (Str.ofString x) = some a) ∧
        ((compEnvC scope cl C c.env).kindOf (Str.ofString x) = some .cell ∨ (compEnvC scope cl C c.env).kindOf (Str.ofString x) = some .free)) ∧
      (∀ C, inv (compCx c scope cl cells C) 0 [] ⟨fv, σ₁.own⟩ ∧ (∀ i x acc σ', items[i]? = some x → inv (compCx c scope cl cells C) i acc σ' →
        Asg (compCx c scope cl cells C) target x σ' (fun σ₂ => Ifs (compCx c scope cl cells C) ifs σ₂ (fun b σ₃ => (b = true → Ev (compCx c scope cl cells C) elt σ₃ (fun y σ₄ => inv (compCx c scope cl cells C) (i + 1) (acc ++ [y]) σ₄) noX) ∧
          (b = false → inv (compCx c scope cl cells C) (i + 1) acc σ₃)) noX) noX) ∧
      (∀ acc σ', inv (compCx c scope cl cells C) items.length acc σ' → ∀ d, Φ (.ref d) ⟨σ₁.loc, (d, .list acc) :: σ'.own⟩))) X)
    (hcn : ∀ y ∈ scope.names, y.2 ≠ .cell) (hnames : ∀ y ∈ scope.names, y.2 = .local → scope.names.lookup y.1 = some .local) (hk : scope.kind = .function := by rfl)
    (hs : ∀ x, foldedSetIterable iter c.env x = pure x := by intro _; rfl) : Tri c (Hid c σ R) (eval (.ListComp elt [⟨target, iter, ifs, 0⟩] scope pos) c.env) VR σ Φ X :=
  evCompR R g hfr hclos hcl hcel (h.mono fun a σ₁ p => by
    obtain ⟨items, fv, inv, it, p⟩ := p
    exact ⟨[], σ₁, rfl, by rw [List.append_nil], items, fv, inv, it, p⟩) hcn hnames hk hs
end Mine

-- BF
namespace Mine
open PySem PySem.Calls PyProof.Rows PySem.W

theorem Ev.lit {c : Cx} {x : Str} {k : Nat} {pos : Pos} {σ : St} {Φ : AV → St → Prop} {X : XP} (l : List Nat) (e : x.cps.toList = l) (h : Φ (.str l) σ) : Ev c (.Constant (.str x) k pos) σ Φ X := Ev.str (by rw [e]; exact h)
/-! an object's dict -/
theorem isStr_ofString (x y : String) (t : Tok) : (Value.str (Str.ofString x) t).isStr (Str.ofString y) = decide (x = y) := by
  have : (Value.str (Str.ofString x) t).isStr (Str.ofString y) = (Str.ofString x == Str.ofString y) := by simp [Value.isStr]
  rw [this]
  by_cases h : x = y
  · subst h; simp
  · simp [h]; exact fun e => h (ofString_inj e)
theorem ES.noRef {h : Heap} : ∀ {fs : List (String × AV)} {es : List DictEntry}, ES h fs es → es.any (·.refKey) = false
  | [], es, q => by cases q; rfl
  | p :: l, es, q => by
    obtain ⟨e, r, t, rfl, a, _, d⟩ := q
    rw [List.any_cons, ES.noRef d]
    simp [DictEntry.refKey, a]
theorem ES.get {h : Heap} {x : String} : ∀ {fs : List (String × AV)} {es : List DictEntry}, ES h fs es →
    match fs.lookup x with | some av => ∃ v, getL (Str.ofString x) es = some (some v) ∧ VR h av v | none => getL (Str.ofString x) es = some Option.none
  | [], es, q => by cases q; rfl
  | p :: l, es, q => by
    have nr := ES.noRef q
    obtain ⟨e, r, t, rfl, a, b, d⟩ := q
    have ih := ES.get (x := x) d
    obtain ⟨y, av⟩ := p
    rw [List.lookup_cons]
    have hk : e.key.isStr (Str.ofString x) = decide (y = x) := by rw [a]; exact isStr_ofString y x t
    by_cases hx : x = y
    · subst hx
      simp only [beq_self_eq_true]
      exact ⟨e.val, by unfold getL; simp [hk], b⟩
    · have hb : (x == y) = false := by simpa using hx
      rw [hb]
      dsimp only
      have eg : getL (Str.ofString x) (e :: r) = getL (Str.ofString x) r := by
        unfold getL
        rw [List.find?_cons, hk, decide_eq_false (Ne.symm hx)]
        rw [nr, ES.noRef d]
      rw [eg]; exact ih
theorem ES.put {h : Heap} {x : String} {hsh : Int} {t : Tok} {v : Value} {av : AV} (va : VR h av v) : ∀ {fs : List (String × AV)} {es : List DictEntry}, ES h fs es → ES h (setL x av fs) (putL (Str.ofString x) hsh (.str (Str.ofString x) t) v es)
  | [], es, q => by cases q; exact ⟨_, _, t, rfl, rfl, va, rfl⟩
  | p :: l, es, q => by
    obtain ⟨e, r, u, rfl, a, b, d⟩ := q
    obtain ⟨y, aw⟩ := p
    have hk : e.key.isStr (Str.ofString x) = decide (y = x) := by rw [a]; exact isStr_ofString y x u
    unfold setL putL
    rw [hk]
    by_cases hx : x = y
    · subst hx
      simp only [if_true, decide_true]
      exact ⟨_, _, u, rfl, a, va, d⟩
    · rw [if_neg hx, if_neg (by simpa using Ne.symm hx)]
      exact ⟨_, _, u, rfl, a, b, ES.put va d⟩
theorem ES.length {h : Heap} : ∀ {fs : List (String × AV)} {es : List DictEntry}, ES h fs es → es.length = fs.length
  | [], es, q => by cases q; rfl
  | p :: l, es, q => by obtain ⟨e, r, u, rfl, a, b, d⟩ := q; simp [ES.length d]

theorem own_inst {c : Cx} {σ : St} {h : Heap} (r : Rep c σ h) {i : Nat} {a C dx : Addr} {fs : List (String × AV)} (e : σ.own[i]? = some (a, .inst C dx fs)) :
    ∃ es n, h.get? a = some ⟨.ref C, some dx, .plain, #[]⟩ ∧ h.get? dx = some (dictOf es n) ∧ fs.length ≤ 20 ∧ ES h fs es ∧ InstAt h a ⟨.ref C, some dx, .plain, #[]⟩ C (some (dictOf es n)) := by
  obtain ⟨es, n, g1, g2, hl, q⟩ := r.own _ (List.mem_of_getElem? e)
  exact ⟨es, n, g1, g2, hl, q, g1, rfl, rfl, g2⟩

/-- what a class tells of a name that its objects hold themselves -/
structure OwnName (K : Frag) (C : Addr) (x : String) : Prop where
  g : plainGet K C (Str.ofString x) = true
  h : hasDictIn K C = true
  f : ∃ attr, findIn K (.ref C) (Str.ofString x) = some attr ∧ noGet K attr = true

theorem VR.handed {h : Heap} {a : AV} {v : Value} (q : VR h a v) (hb : a.notBi = true) : handedIn v = true := by
  cases a with
  | none => cases q.none'; rfl
  | bool b => cases q.bool'; rfl
  | int i => obtain ⟨t, rfl⟩ := q.int'; rfl
  | str l => obtain ⟨t, rfl⟩ := q.str'; rfl
  | tup l => rw [VR] at q; obtain ⟨_, _, _, rfl, _⟩ := q; rfl
  | rng _ _ _ => rw [VR] at q; obtain ⟨_, _, _, _, rfl, _⟩ := q; rfl
  | ref a => cases q.ref'; rfl
  | bi _ => cases hb
  | ty _ => rw [VR] at q; subst q; rfl

theorem In.rep {K : Frag} {c : Cx} {σ : St} {h : Heap} (X : K.In c.b0) (r : Rep c σ h) : K.In h := X.keeps r.kb

/-- a name read from an object's own dict -/
theorem getOwn {K : Frag} {c : Cx} {σ : St} {a C dx : Addr} {fs : List (String × AV)} {x : String} {av : AV} {expr : Bool} {Φ : AV → St → Prop} {X : XP} (XK : K.In c.b0) (N : OwnName K C x) (i : Nat) (e : σ.own[i]? = some (a, .inst C dx fs))
    (ex : fs.lookup x = some av) (k : Φ av σ) (hb : av.notBi = true := by rfl) : Tri c T0 (getAttr (.ref a) (Str.ofString x) expr) VR σ Φ X :=
  Tri.pureStep k fun s _ r Q E q => by
    obtain ⟨es, n, g1, g2, hl, qe, I⟩ := own_inst r.toRep e
    have hg := ES.get (x := x) qe
    rw [ex] at hg
    obtain ⟨v, hv, va⟩ := hg
    obtain ⟨attr, ha, hn⟩ := N.f
    refine get_value (In.rep XK r.toRep) I (plainGet_of N.g).1 (findObj_own N.h ha hn (by rw [lookIn_dict]; exact hv)) (va.handed hb) ?_
    exact q v s.heap (s.toks + 1) (fun _ _ e => e) va

/-- what a class tells of a name that is set on its objects -/
structure SetName (K : Frag) (C : Addr) (x : String) : Prop where
  s : findIn K (.ref C) "__setattr__" = some (some (.builtin "object.__setattr__"))
  p : plainOver K C = true
  t : takerIn K C (Str.ofString x) = some none
  h : hasDictIn K C = true

theorem osaDict {K : Frag} {prog : Program} {w : World} {A : Around} {R : Result → Shared → Prop} {s : Shared} {a C dx : Addr} {es : List DictEntry} {n : Nat} {x : String} {tk : Tok} {v : Value} (X : K.In s.heap) (N : SetName K C x)
    (I : InstAt s.heap a ⟨.ref C, some dx, .plain, #[]⟩ C (some (dictOf es n))) (hl : (getL (Str.ofString x) es).isSome = true)
    (h : ∀ tk hsh t, R (.ok (.ret .none)) { s with heap := s.heap.update dx (Obj.putName (Str.ofString x) hsh (.str (Str.ofString x) t) v), toks := tk }) (hz' : ∀ hsh t, (putL (Str.ofString x) hsh (.str (Str.ofString x) t) v es).length ≤ 1000) :
    codeAny (model prog w) A (.call (.builtin "object.__setattr__") ⟨[.ref a, .str (Str.ofString x) tk, v], []⟩) R s := by
  refine osa_open X I N.p N.t fun b => ?_
  obtain ⟨cd, hc, hd'⟩ := any_some N.h
  have D : s.heap.get? dx = some (dictOf es n) := I.dict
  have hx := I.at_
  refine wpAny_bind (wpAny_pure (wpAny_bind (wpAny_bind (wpAny_loadPart hx (wpAny_bind ((looks_clsIn X hc).here ?_))))))
  rw [hd']
  refine wpAny_pure (a := some dx) (wpAny_bind (wpAny_pure (wpAny_bind ?_)))
  unfold nsSet
  refine wpAny_bind (wpAny_bind (wpAny_askSetting (wpAny_pure (wpAny_bind (wpAny_mkText (wpAny_bind (wpAny_loadPart D ?_)))))))
  dsimp only
  have c : (!es.toArray.any (·.key.isStr (Str.ofString x)) && es.toArray.any (·.refKey)) = false := by
    rw [← Array.any_toList, ← Array.any_toList]
    unfold getL at hl
    split at hl
    · rename_i en he
      rw [List.any_eq_true.mpr ⟨en, List.mem_of_find?_eq_some he, List.find?_some he⟩]; rfl
    · split at hl
      · cases hl
      · rename_i z; rw [Bool.not_eq_true] at z; rw [z, Bool.and_false]
  rw [aRefKeyMayBeTheName_at, c]
  refine wpAny_updatePart D ?_
  have D' : (s.heap.update dx (Obj.putName (Str.ofString x) (PyData.keyHash w.params (Str.ofString x)) (.str (Str.ofString x) s.toks) v)).get? dx = some (dictOf (putL (Str.ofString x) (PyData.keyHash w.params (Str.ofString x)) (.str (Str.ofString x) s.toks) v es) (putN (Str.ofString x) es n)) := by
    rw [Heap.get?_update_self _ D (by rw [putName_dict]; rfl), putName_dict]
  refine wpAny_bind (wpAny_lookBehind D' (by exact pastItsLine_dict (by rw [List.size_toArray, sizeLine_eq]; have := hz' (PyData.keyHash w.params (Str.ofString x)) s.toks; omega)) ?_)
  exact wpAny_pure (h _ _ _)
theorem setDict {K : Frag} {prog : Program} {w : World} {A : Around} {E : Value → Shared → Prop} {s : Shared} {a C dx : Addr} {es : List DictEntry} {n : Nat} {x : String} {v : Value} {Q : Unit → Shared → Prop} (X : K.In s.heap) (N : SetName K C x)
    (I : InstAt s.heap a ⟨.ref C, some dx, .plain, #[]⟩ C (some (dictOf es n))) (hl : (getL (Str.ofString x) es).isSome = true)
    (h : ∀ tk hsh t, Q () { s with heap := s.heap.update dx (Obj.putName (Str.ofString x) hsh (.str (Str.ofString x) t) v), toks := tk }) (hz' : ∀ hsh t, (putL (Str.ofString x) hsh (.str (Str.ofString x) t) v es).length ≤ 1000) :
    wpAny (model prog w) A (setAttr (.ref a) (Str.ofString x) v) Q E s :=
  set_plain X I N.s (osaDict (s := { s with toks := s.toks + 1 }) X N I hl h hz')

/-- a name set on an object -/
theorem setOwn {K : Frag} {c : Cx} {σ : St} {a C dx : Addr} {fs : List (String × AV)} {x : String} {av : AV} {v : Value} {Φ : Unit → St → Prop} {X : XP} (XK : K.In c.b0) (N : SetName K C x) (i : Nat) (e : σ.own[i]? = some (a, .inst C dx fs))
    (k : Φ () ⟨σ.loc, σ.own.set i (a, .inst C dx (setL x av fs))⟩) (hz : (setL x av fs).length ≤ 20 := by exact Nat.le_of_ble_eq_true rfl) : Tri c (fun h => VR h av v) (setAttr (.ref a) (Str.ofString x) v) (fun _ _ _ => True) σ Φ X :=
  Tri.updStep (ao' := .inst C dx (setL x av fs)) (x := ()) e rfl k fun s p r o Q E q => by
    obtain ⟨es, n, g1, g2, hl, qe, I⟩ := own_inst r.toRep e
    have nt := o.noTup
    have hg := ES.get (x := x) qe
    have lenE := qe.length
    refine setDict (In.rep XK r.toRep) N I (by
      cases q0 : fs.lookup x with
      | none => rw [q0] at hg; dsimp only at hg; rw [hg]; rfl
      | some w => rw [q0] at hg; obtain ⟨u, hu, _⟩ := hg; rw [hu]; rfl) (fun tk hsh t => ?_) (fun hsh t => by
      have := (ES.put (x := x) (hsh := hsh) (t := t) p qe).length
      omega)
    have hs : Heap.SameBut dx s.heap (s.heap.update dx (Obj.putName (Str.ofString x) hsh (.str (Str.ofString x) t) v)) := Heap.SameBut.update ..
    have sp1 := sameSp hs
    have nt1 : NoTup s.heap [dx] := fun b hb o e => nt b (by rw [List.mem_singleton.mp hb]; exact .tail _ (.head _)) o e
    have hne : a ≠ dx := fun z => by subst z; rw [g1] at g2; cases g2
    refine q () _ tk (sp1.weaken fun b hb => by rw [List.mem_singleton.mp hb]; exact .tail _ (.head _)) ⟨putL (Str.ofString x) hsh (.str (Str.ofString x) t) v es, putN (Str.ofString x) es n, (hs.2 a hne).trans g1, ?_, hz, ?_⟩ trivial
    · rw [Heap.get?_update_self _ g2 (by rw [putName_dict]; rfl), putName_dict]
    · exact (ES.put p qe).mono sp1 nt1 NoTup.nil
end Mine

-- BG
namespace Mine
open PySem PySem.Calls PyProof.Rows PySem.W

/-! attributes as expressions and statements -/
abbrev Get (c : Cx) (a : Addr) (x : Str) (expr : Bool) (σ : St) (Φ : AV → St → Prop) (X : XP) : Prop := Tri c T0 (getAttr (.ref a) x expr) VR σ Φ X
theorem Ev.attr {c : Cx} {o : Expr} {x : Str} {pos : Pos} {σ : St} {Φ : AV → St → Prop} {X : XP} (h : Ev c o σ (fun a σ₁ => ∃ d, a = .ref d ∧ Get c d x true σ₁ Φ X) X)
    (he : eval (.Attribute o x pos) c.env = (do
      let o' ← eval o c.env
      standAt pos.atName
      let r ← holding [o'] (getAttr o' x true)
      letTemporaryGo o o' r
      pure r) := by rfl) : Ev c (.Attribute o x pos) σ Φ X := fun s r p Q E q xx => by
  refine Attribute_any_ (h s r p _ _ (fun v a σ₁ s₁ r₁ f₁ va h₁ => ?_) xx) he
  obtain ⟨d, rfl, h₁⟩ := h₁
  cases va.ref'
  exact h₁ s₁ r₁ trivial Q E (q.go f₁) (xx.go f₁)

abbrev Put (c : Cx) (a : Addr) (x : Str) (av : AV) (σ : St) (Φ : Unit → St → Prop) (X : XP) : Prop := ∀ v, Tri c (fun h => VR h av v) (setAttr (.ref a) x v) (fun _ (_ : Unit) _ => True) σ Φ X
theorem Ex.putAttr {c : Cx} {o e : Expr} {x : Str} {pos' pos : Pos} {σ : St} {Φ : Fl → St → Prop} {X : XP} (h : Ev c e σ (fun av σ₁ => Ev c o σ₁ (fun a σ₂ => ∃ d, a = .ref d ∧ Put c d x av σ₂ (fun _ σ₃ => Φ .next σ₃) X) X) X)
    (hs : swapsWith e (some (.Attribute o x pos')) pos.line c.env = pure false := by rfl) : Ex c (.Assign [.Attribute o x pos'] e pos) σ Φ X := fun s r p Q E q xx => by
  refine plainObj_wpAny_Assign_Attribute (h s r p _ _ (fun v av σ₁ s₁ r₁ f₁ va h₁ => ?_) xx) hs
  refine h₁ s₁ r₁ trivial _ _ (fun w a σ₂ s₂ r₂ f₂ wa h₂ => ?_) (xx.go f₁)
  obtain ⟨d, rfl, h₂⟩ := h₂
  cases wa.ref'
  exact h₂ v s₂ r₂ (va.after r₁ f₂) _ _ (fun _ _ σ₃ s₃ r₃ f₃ _ h₃ => q _ .next σ₃ s₃ r₃ ((f₁.trans f₂).trans f₃) rfl h₃) ((xx.go f₁).go f₂)
theorem Ex.augAttr {c : Cx} {o e : Expr} {x : Str} {op : Operator} {pos' pos : Pos} {σ : St} {Φ : Fl → St → Prop} {X : XP}
    (h : Ev c o σ (fun a σ₁ => ∃ d, a = .ref d ∧ Get c d x true σ₁ (fun old σ₂ => Ev c e σ₂ (fun b σ₃ => Op2 c (inplaceOp op) old b σ₃ (fun new σ₄ => Put c d x new σ₄ (fun _ σ₅ => Φ .next σ₅) X) X) X) X) X) : Ex c (.AugAssign (.Attribute o x pos') op e pos) σ Φ X := fun s r p Q E q xx => by
  refine wpAny_AugAssign_AttributeAny (h s r p _ _ (fun v a σ₁ s₁ r₁ f₁ va h₁ => ?_) xx)
  obtain ⟨d, rfl, h₁⟩ := h₁
  cases va.ref'
  refine h₁ s₁ r₁ trivial _ _ (fun old av σ₂ s₂ r₂ f₂ vo h₂ => ?_) (xx.go f₁)
  refine h₂ s₂ r₂ trivial _ _ (fun b bv σ₃ s₃ r₃ f₃ vb h₃ => ?_) ((xx.go f₁).go f₂)
  refine h₃ old b s₃ r₃ ⟨vo.after r₂ f₃, vb⟩ _ _ (fun nw nv σ₄ s₄ r₄ f₄ vn h₄ => ?_) (((xx.go f₁).go f₂).go f₃)
  exact h₄ nw s₄ r₄ vn _ _ (fun _ _ σ₅ s₅ r₅ f₅ _ h₅ => q _ .next σ₅ s₅ r₅ ((((f₁.trans f₂).trans f₃).trans f₄).trans f₅) rfl h₅) ((((xx.go f₁).go f₂).go f₃).go f₄)

/-! calls of what a name after a dot means -/
theorem call_K {K : Frag} {c : Cx} {pos : Pos} {es : List Expr} {f : Value} {first : List Value} {fa : List AV} {σ : St} {Φ : AV → St → Prop} {X : XP} (XK : K.In c.b0) (hk : keepIn K f = true)
    (h : Arg c pos es σ (fun l σ₁ => Cal c f (fa ++ l) σ₁ Φ X) X) (hs : (backTo pos (starEach es c.env)).any (·.1) = false := by rfl) :
    Tri c (fun h => VRs h fa first) (callWith pos f first (backTo pos (starEach es c.env)) []) VR σ Φ X := fun s r p Q E q x => by
  refine callWith_of (P := fun h => K.In h) (by rw [hs]; rfl) (keeps_K hk) (evalArgs_any hs (h s r trivial _ _ (fun vs l σ₁ s₁ r₁ f₁ vl h₁ => ?_) x))
  refine ⟨In.rep XK r₁.toRep, ?_⟩
  exact h₁ (first ++ vs) s₁ r₁ ((VRs.after r f₁ p).append vl) Q E (q.go f₁) (x.go f₁)

theorem call_attr {prog : Program} {w : World} {A : Around} {E : Value → Shared → Prop} {s : Shared} {env : Env} {o : Expr} {name : Str} {apos pos : Pos} {args : List Expr} {Q : Value → Shared → Prop}
    (hbase : attributeBase o name env (eval o env) = eval o env)
    (hfew : ((backTo pos (starEach args env)).all (fun x => !x.1) && (backToKw pos (keywordEach [] env)).all (fun x => x.1.isSome)
      && decide (args.length + ([] : List Keyword).length + (if ([] : List Keyword).isEmpty then 0 else 1) < 30)) = true)
    (hline : (apos.endLine == pos.line) = true)
    (h : wpAny (model prog w) A (eval o env) (fun ov s₁ => ∀ pl, wpAny (model prog w) A (getMethod ov name pl) (fun r s₂ => wpAny (model prog w) A (callWith pos r.1 r.2 (backTo pos (starEach args env)) []) Q E s₂) E s₁) E s) :
    wpAny (model prog w) A (eval (.Call (.Attribute o name apos) args [] pos) env) Q E s := by
  rw [arm_eval_Call, hbase]
  refine wpAny_bind (wpAny_mono h (fun ov s₁ h₁ => ?_) fun _ _ e => e)
  refine wpAny_bind (wpAny_standAt ?_)
  have hform : methodCallForm (args.length + ([] : List Keyword).length) (backTo pos (starEach args env)) (backToKw pos (keywordEach [] env)) = true := hfew
  have hpos : methodCallPos true o env apos pos = pure pos := by unfold methodCallPos; simp [hline]
  unfold methodCall
  rw [hform]
  refine wpAny_bind (wpAny_holding (wpAny_mono (h₁ _) (fun r s₂ h₂ => ?_) fun _ _ e => e))
  exact wpAny_bind (wpAny_of_eq hpos h₂)

/-- what a class tells of a method -/
structure MethName (K : Frag) (C : Addr) (x : String) (f : Addr) : Prop where
  g : plainGet K C (Str.ofString x) = true
  h : hasDictIn K C = true
  fi : findIn K (.ref C) (Str.ofString x) = some (some (.ref f))
  t : isFn K (.ref f) = true
  k : keepIn K (.ref f) = true
  gf : specialIn K (.ref f) "__get__" = some (some (.builtin "function.__get__"))
  tk : takesIn K (.ref f) = some false
  c : copiedNames.contains (Str.ofString x) = false

theorem Ev.methI {K : Frag} {c : Cx} {o : Expr} {x : String} {f : Addr} {apos pos : Pos} {es : List Expr} {σ : St} {Φ : AV → St → Prop} {X : XP} (XK : K.In c.b0)
    (h : Ev c o σ (fun a σ₁ => ∃ (i : Nat) (d C dx : Addr) (fs : List (String × AV)), a = .ref d ∧ σ₁.own[i]? = some (d, AO.inst C dx fs) ∧ MethName K C x f ∧ fs.lookup x = Option.none ∧ Arg c pos es σ₁ (fun l σ₂ => Cal c (.ref f) (.ref d :: l) σ₂ Φ X) X) X)
    (hbase : attributeBase o (Str.ofString x) c.env (eval o c.env) = eval o c.env := by rfl)
    (hfew : ((backTo pos (starEach es c.env)).all (fun x => !x.1) && (backToKw pos (keywordEach [] c.env)).all (fun x => x.1.isSome)
      && decide (es.length + ([] : List Keyword).length + (if ([] : List Keyword).isEmpty then 0 else 1) < 30)) = true := by rfl)
    (hline : (apos.endLine == pos.line) = true := by rfl) (hs : (backTo pos (starEach es c.env)).any (·.1) = false := by rfl) : Ev c (.Call (.Attribute o (Str.ofString x) apos) es [] pos) σ Φ X := fun s r p Q E q xx => by
  refine call_attr hbase hfew hline (h s r p _ _ (fun v a σ₁ s₁ r₁ f₁ va h₁ => ?_) xx)
  obtain ⟨i, d, C, dx, fs, rfl, e, M, el, h₁⟩ := h₁
  cases va.ref'
  intro pl
  obtain ⟨es', n, g1, g2, hl, qe, I⟩ := own_inst r₁.toRep e
  have hg := ES.get (x := x) qe
  rw [el] at hg
  refine method_fn (In.rep XK r₁.toRep) I (plainGet_of M.g).1 (plainGet_of M.g).2 M.fi (beq_iff_eq.mp M.t) (by show (lookIn (Str.ofString x) (dictOf es' n)).map _ = _; rw [lookIn_dict, hg]; rfl) ?_
  exact call_K (fa := [.ref d]) XK M.k h₁ hs s₁ r₁ (VRs.cons VR.mkRef VRs.nil) Q E (q.go f₁) (xx.go f₁)

/-- a bound method, as a value -/
theorem getBound {K : Frag} {c : Cx} {σ : St} {a C dx f : Addr} {fs : List (String × AV)} {x : String} {expr : Bool} {Φ : AV → St → Prop} {X : XP} (XK : K.In c.b0) (M : MethName K C x f) (i : Nat) (e : σ.own[i]? = some (a, .inst C dx fs))
    (el : fs.lookup x = none) (k : ∀ d, Φ (.ref d) ⟨σ.loc, (d, .raw (methodObj (.ref f) (.ref a))) :: σ.own⟩) : Get c a (Str.ofString x) expr σ Φ X := by
  refine Tri.ofH fun s r _ Q E q _ => ?_
  obtain ⟨es', n, g1, g2, hl, qe, I⟩ := own_inst r.toRep e
  have hg := ES.get (x := x) qe
  rw [el] at hg
  refine get_bind (In.rep XK r.toRep) I (plainGet_of M.g).1 (findObj_fn M.h M.fi M.gf M.tk M.c (by show lookIn (Str.ofString x) (dictOf es' n) = _; rw [lookIn_dict]; exact hg)) (plainGet_of M.g).2
    (wpAny_call (fn_get (s := { s with toks := s.toks + 1 }) (In.rep XK r.toRep) (beq_iff_eq.mp M.t) (handed_on rfl ?_)))
  have hn : s.heap.get? s.heap.objs.size = Option.none := Heap.get?_none_of_le (Nat.le_refl _)
  have ho : OR (s.heap.push (methodObj (.ref f) (.ref a))) s.heap.objs.size (.raw (methodObj (.ref f) (.ref a))) := ⟨Heap.get?_push_size _ rfl, .of_cls (by simp) (by simp)⟩
  exact q (.ref _) (.ref _) _ _ (r.toRep.fresh push_keep hn ho rfl) (Aft.fresh push_keep hn rfl) VR.mkRef (k _)

/-- a function that an object holds itself, called -/
theorem Ev.callOwn {K : Frag} {c : Cx} {o : Expr} {x : String} {apos pos : Pos} {es : List Expr} {σ : St} {Φ : AV → St → Prop} {X : XP} (XK : K.In c.b0)
    (h : Ev c o σ (fun a σ₁ => ∃ (i j : Nat) (d C dx : Addr) (fs : List (String × AV)) (F : Addr) (fo : Obj) (fd : FuncData), a = .ref d ∧ σ₁.own[i]? = some (d, AO.inst C dx fs) ∧ OwnName K C x ∧ findIn K (.ref C) (Str.ofString x) = some Option.none ∧ fs.lookup x = some (.ref F) ∧ σ₁.own[j]? = some (F, AO.raw fo) ∧ fo.data = .func fd ∧
      Arg c pos es σ₁ (fun l σ₂ => (∃ j' : Nat, σ₂.own[j']? = some (F, AO.raw fo)) ∧ Cal c (.ref F) l σ₂ Φ X) X) X)
    (hbase : attributeBase o (Str.ofString x) c.env (eval o c.env) = eval o c.env := by rfl)
    (hfew : ((backTo pos (starEach es c.env)).all (fun x => !x.1) && (backToKw pos (keywordEach [] c.env)).all (fun x => x.1.isSome)
      && decide (es.length + ([] : List Keyword).length + (if ([] : List Keyword).isEmpty then 0 else 1) < 30)) = true := by rfl)
    (hline : (apos.endLine == pos.line) = true := by rfl) (hs : (backTo pos (starEach es c.env)).any (·.1) = false := by rfl) : Ev c (.Call (.Attribute o (Str.ofString x) apos) es [] pos) σ Φ X := fun s r p Q E q xx => by
  refine call_attr hbase hfew hline (h s r p _ _ (fun v a σ₁ s₁ r₁ f₁ va h₁ => ?_) xx)
  obtain ⟨i, j, d, C, dx, fs, F, fo, fd, rfl, e, N, hf, el, e2, hd, h₁⟩ := h₁
  cases va.ref'
  intro pl
  obtain ⟨es', n, g1, g2, hl, qe, I⟩ := own_inst r₁.toRep e
  refine method_usual (In.rep XK r₁.toRep) I (plainGet_of N.g).1 (plainGet_of N.g).2 hf rfl ?_
  refine getOwn (K := K) (Φ := fun av σ' => av = .ref F ∧ σ' = σ₁) (X := X) XK N i e el ⟨rfl, rfl⟩ rfl s₁ r₁ trivial _ _ (fun w av σ₂ s₂ r₂ f₂ vw h₂ => ?_) (fun e σ' s' r' f' xe => (xx.go f₁) e σ' s' r' f' xe)
  obtain ⟨rfl, rfl⟩ := h₂
  cases vw.ref'
  refine callWith_function (o := fo) (fd := fd) (evalArgs_any hs (h₁ s₂ r₂ trivial _ _ (fun vs l σ₃ s₃ r₃ f₃ vl h₃ => ?_) ((xx.go f₁).go f₂)))
  obtain ⟨⟨j', e3⟩, h₃⟩ := h₃
  exact ⟨⟨(r₃.own _ (List.mem_of_getElem? e3)).1, hd⟩, h₃ vs s₃ r₃ vl Q E (((q.go f₁).go f₂).go f₃) (((xx.go f₁).go f₂).go f₃)⟩
end Mine

-- BH
namespace Mine
open PySem PySem.Calls PyProof.Rows PySem.W

/-! another around, the same frames -/
theorem Rep.around {prog : Program} {w : World} {b0 : Heap} {A A' : Around} {env : Env} {fr fx K : List Addr} {σ : St} {h : Heap} (hA : A'.frames = A.frames) (r : Rep (cx prog w b0 A env fr fx K) σ h) : Rep (cx prog w b0 A' env fr fx K) σ h :=
  ⟨r.ns, r.lin, r.cel, r.inj, r.own, r.nd, r.nk, r.frc, r.kb, r.kn, r.kh, fun l e => r.ff l (hA.symm.trans e)⟩
theorem TriW.around {α β : Type} {prog : Program} {w : World} {b0 : Heap} {A A' : Around} {env : Env} {fr fx K : List Addr} {P : Heap → Prop} {W : (α → Shared → Prop) → (Value → Shared → Prop) → Shared → Prop} {V : Heap → β → α → Prop} {σ : St} {Φ : β → St → Prop} {X : XP}
    (hA : A'.frames = A.frames) (h : TriW (cx prog w b0 A' env fr fx K) P W V σ Φ X) : TriW (cx prog w b0 A env fr fx K) P W V σ Φ X := fun s r p Q E q x =>
  h s ⟨r.toRep.around hA, r.tp⟩ p Q E (fun a y σ' s' r' f v φ => q a y σ' s' ⟨r'.toRep.around hA.symm, r'.tp⟩ ⟨f.rest, f.sp, f.al, f.fs⟩ v φ) (fun e σ' s' r' f φ => x e σ' s' ⟨r'.toRep.around hA.symm, r'.tp⟩ ⟨f.rest, f.sp, f.al, f.fs⟩ φ)
theorem Good.around {z : Bool} {n m : Nat} {prog : Program} {w : World} {b0 : Heap} {A A' : Around} {env : Env} {fr fx K : List Addr} (g : Good z n (cx prog w b0 A env fr fx K)) (hA : A'.frames = A.frames) (hh : A'.handled = A.handled)
    (hd : A'.depth + m ≤ A.depth + n) (hu : A'.units + 20 * m ≤ A.units + 20 * n) : Good z m (cx prog w b0 A' env fr fx K) := by
  have gd : A.depth + n < recursionLimit := g.dp
  have gu : A.units + 20 * n < cLine := g.un
  refine ⟨fun e => ?_, ?_, ?_, g.kf, ?_⟩
  · have := g.hd e; show A'.handled = none; rw [hh]; exact this
  · show A'.depth + m < recursionLimit; omega
  · show A'.units + 20 * m < cLine; omega
  · obtain ⟨l, hl, hm⟩ := g.fr
    exact ⟨l, hA.trans hl, hm⟩

/-! a class called -/
theorem Cal.make {K : Frag} {prog : Program} {w : World} {b0 : Heap} {A : Around} {env : Env} {fr fx Kf : List Addr} {z : Bool} {n : Nat} {C fI : Addr} {l : List AV} {loc : List (String × AV)} {own R : List (Addr × AO)} {Φ : AV → St → Prop} {X : XP} {Ψ : Addr → List (Addr × AO) → Prop}
    (XK : K.In b0) (hm : makesIn K C = true) (hi : findIn K (.ref C) "__init__" = some (some (.ref fI))) (hf : typeIn K (.ref fI) = some (.type "function")) (g : Good z (n + 1) (cx prog w b0 A env fr fx Kf))
    (F : ∀ x dx, Fun prog w b0 z n (.ref fI) (.ref x :: l) ((x, .inst C dx []) :: own) (fun r own' => r = .none ∧ Ψ x own')) (k : ∀ x own', Ψ x own' → Φ (.ref x) ⟨loc, own' ++ R⟩) : Cal (cx prog w b0 A env fr fx Kf) (.ref C) l ⟨loc, own ++ R⟩ Φ X := fun vs => by
  refine Tri.frame (fun s r p Q E q _ => ?_)
  obtain ⟨hv, -⟩ := p
  have XH : K.In s.heap := XK.keeps r.kb
  have hn1 : s.heap.get? s.heap.objs.size = none := Heap.get?_none_of_le (Nat.le_refl _)
  have hn2 : (s.heap.push emptyDict).get? (s.heap.objs.size + 1) = none := Heap.get?_none_of_le (by rw [Heap.size_push]; exact Nat.le_refl _)
  have hN1 : (s.heap.push emptyDict).get? s.heap.objs.size = some emptyDict := Heap.get?_push_size _ rfl
  have hsz : (s.heap.push emptyDict).objs.size = s.heap.objs.size + 1 := Heap.size_push ..
  have hN2 : ((s.heap.push emptyDict).push (instObj C s.heap.objs.size)).get? (s.heap.objs.size + 1) = some (instObj C s.heap.objs.size) := by rw [← hsz]; exact Heap.get?_push_size _ rfl
  have hN1' : ((s.heap.push emptyDict).push (instObj C s.heap.objs.size)).get? s.heap.objs.size = some emptyDict := push_keep _ _ hN1
  have R1 := r.toRep.fresh (ao := .raw emptyDict) (push_keep (o := emptyDict)) hn1 ⟨hN1, .of_cls (by simp) (by simp)⟩ rfl
  have R2 := R1.fresh (ao := .raw (instObj C s.heap.objs.size)) (push_keep (o := instObj C s.heap.objs.size)) hn2 ⟨hN2, .of_cls (by simp) (by simp)⟩ rfl
  have pm : (feet ((s.heap.objs.size + 1, AO.inst C s.heap.objs.size []) :: own)).Perm (feet ((s.heap.objs.size + 1, AO.raw (instObj C s.heap.objs.size)) :: (s.heap.objs.size, AO.raw emptyDict) :: own)) := by
    rw [feet_cons, feet_cons, feet_cons]; exact List.Perm.refl _
  have R3 : Rep (cx prog w b0 A env fr fx Kf) ⟨loc, (s.heap.objs.size + 1, .inst C s.heap.objs.size []) :: own⟩ ((s.heap.push emptyDict).push (instObj C s.heap.objs.size)) := by
    refine R2.repack (fun p hp => ?_) pm
    rcases List.mem_cons.mp hp with rfl | hp
    · exact ⟨[], 0, hN2, hN1', by simp, rfl⟩
    · exact R2.own p (.tail _ (.tail _ hp))
  have k2 : ∀ b o, s.heap.get? b = some o → ((s.heap.push emptyDict).push (instObj C s.heap.objs.size)).get? b = some o := fun b o e => push_keep _ _ (push_keep _ _ e)
  have F2 : Aft (cx prog w b0 A env fr fx Kf) ⟨loc, own⟩ s ⟨loc, (s.heap.objs.size + 1, .inst C s.heap.objs.size []) :: own⟩ { s with heap := (s.heap.push emptyDict).push (instObj C s.heap.objs.size), toks := s.toks } := by
    refine ⟨rfl, Sp.of_keep fun a o _ e => k2 a o e, fun a o _ e => ⟨o, k2 a o e⟩, fun a ha => ?_⟩
    rw [feet_cons] at ha
    rcases List.mem_append.mp ha with w | w
    · right
      rcases List.mem_cons.mp w with rfl | w
      · exact Heap.get?_none_of_le (Nat.le_succ _)
      · rw [List.mem_singleton.mp w]; exact hn1
    · exact .inl w
  have sp2 : Sp [] [] s.heap ((s.heap.push emptyDict).push (instObj C s.heap.objs.size)) := Sp.of_keep fun a o _ e => k2 a o e
  obtain ⟨hh, g1, d1, t1, o1⟩ := s
  refine wpAny_call (make_core (makes_of XH hm) (looks_findIn XH hi) (fun self => bind_fn XH self hf) (.inl rfl) ?_)
  have gA := g.around (A' := A.under (.builtin "type.__call__" ⟨.ref C :: vs, []⟩)) (m := n) rfl rfl (by show A.depth + 1 + n ≤ _; omega) (by show A.units + 1 + 20 * n ≤ _; omega)
  refine codeAny_mono ((TriW.around (A := A) (A' := A.under (.builtin "type.__call__" ⟨.ref C :: vs, []⟩)) rfl (F (hh.objs.size + 1) hh.objs.size _ env fr fx Kf loc gA (.ref (hh.objs.size + 1) :: vs) noX))
    ⟨(hh.push emptyDict).push (instObj C hh.objs.size), g1, d1, t1, o1⟩ ⟨R3, r.tp⟩ (VRs.cons VR.mkRef (hv.mono sp2 NoTup.nil NoTup.nil)) (fun v s' => v = .none ∧ Q (.ref (hh.objs.size + 1)) s') E (fun a y σ' s' r' f' vv φ => ?_) (fun _ _ _ _ _ y => y.elim)) fun rr s' hr => ?_
  · obtain ⟨e1, rfl, φ⟩ := φ
    refine ⟨vv.none', ?_⟩
    obtain ⟨loc', own'⟩ := σ'
    cases e1
    exact q _ (.ref _) ⟨_, own'⟩ s' r' (F2.trans f') VR.mkRef (k _ _ φ)
  · rcases rr with e | (v | _ | _ | _) <;> first | exact hr | exact hr.elim
theorem Ev.callC {K : Frag} {c : Cx} {f : Str} {fp pos : Pos} {es : List Expr} {C : Addr} {σ : St} {Φ : AV → St → Prop} {X : XP} (XK : K.In c.b0) (hk : keepIn K (.ref C) = true)
    (hf : Ev c (.Name f fp) σ (fun a σ₁ => a = .ref C ∧ Arg c pos es σ₁ (fun l σ₂ => Cal c (.ref C) l σ₂ Φ X) X) X) (hs : (backTo pos (starEach es c.env)).any (·.1) = false := by rfl) : Ev c (.Call (.Name f fp) es [] pos) σ Φ X := by
  intro s r _ Q E q x
  refine wpAny_Call_ofName (hf s r trivial _ _ (fun v a σ₁ s₁ r₁ f₁ va h₁ => ?_) x)
  obtain ⟨rfl, h₁⟩ := h₁
  cases va.ref'
  exact call_K (fa := []) (first := []) XK hk h₁ hs s₁ r₁ VRs.nil Q E (q.go f₁) (x.go f₁)
end Mine

-- BI
namespace Mine
open PySem PySem.Calls PyProof.Rows PySem.W

abbrev citObj (m : Addr) (t : Tok) : Obj := ⟨.type "callable_iterator", none, .fields #[.ref m, .str ⟨#[]⟩ t, .bool false], #[]⟩
abbrev citEnd : Obj := ⟨.type "callable_iterator", none, .fields #[.none, .none, .bool true], #[]⟩

theorem slot_cit_next : Slot "callable_iterator" "__next__" "callable_iterator.__next__" :=
  .of (owner := "callable_iterator") (n := "__next__") (by rw [typeLookup_type, builtinLookup_eq_fast]; kernel_rfl) (by decide +kernel) (by decide +kernel) (by decide +kernel)
    (by first | exact .inl (by decide +kernel) | exact .inr (by decide +kernel)) (by rw [isSubtype_type]; kernel_rfl)
theorem slot_cit_iter : Slot "callable_iterator" "__iter__" "callable_iterator.__iter__" :=
  .of (owner := "callable_iterator") (n := "__iter__") (by rw [typeLookup_type, builtinLookup_eq_fast]; kernel_rfl) (by decide +kernel) (by decide +kernel) (by decide +kernel)
    (by first | exact .inl (by decide +kernel) | exact .inr (by decide +kernel)) (by rw [isSubtype_type]; kernel_rfl)
theorem entry_cit_next : entryFor table "callable_iterator.__next__" = some Builtin.«callable_iterator.__next__» := entryFor_of_fast (by kernel_rfl)
theorem entry_cit_iter : entryFor table "callable_iterator.__iter__" = some Builtin.«dict_keyiterator.__iter__» :=
  entryFor_alias (id' := "dict_keyiterator.__iter__") (by kernel_rfl) rfl (by decide +kernel) (by kernel_rfl)
theorem args_cit_iter (a : Value) : argsOk "callable_iterator.__iter__" ⟨[a], []⟩ := by unfold argsOk; kernel_rfl
theorem args_cit_next (a : Value) : argsOk "callable_iterator.__next__" ⟨[a], []⟩ := by unfold argsOk; kernel_rfl
theorem args_iter2 (a b : Value) : argsOk "iter" ⟨[a, b], []⟩ := by unfold argsOk; kernel_rfl
theorem lk_method_call : ∃ f, typeLookup (.type "method") "__call__" = pure (some f) := by rw [typeLookup_type, builtinLookup_eq_fast]; exact ⟨.builtin "method.__call__", by kernel_rfl⟩

section
variable {prog : Program} {w : World} {A : Around} {E : Value → Shared → Prop} {s : Shared}
theorem wpAny_pyIter_cit {it : Addr} {o : Obj} {Q : Value → Shared → Prop} (ho : s.heap.get? it = some o) (hc : o.cls = .type "callable_iterator") (h : Q (.ref it) s) : wpAny (model prog w) A (pyIter (.ref it)) Q E s := by
  have hT : s.TypeIs (.ref it) "callable_iterator" := ⟨_, ho, hc⟩
  refine wpAny_pyIter_slot hT slot_cit_iter (wpAny_call_entry slot_cit_iter hT entry_cit_iter ?_ (args_cit_iter _))
  show wpAny _ _ (ret (.ref it)) _ _ s
  exact wpAny_pure ⟨_, rfl, "callable_iterator", _, hT, slot_cit_next.lookup, h⟩

theorem call_iter2 {m f self : Addr} {of : Obj} {t : Tok} {Q : Value → Shared → Prop} (hm : s.heap.get? m = some (methodObj (.ref f) (.ref self)))
    (h : Q (.ref s.heap.objs.size) { s with heap := s.heap.push (citObj m t) }) : wpAny (model prog w) A (call (.builtin "iter") [.ref m, .str ⟨#[]⟩ t]) Q E s := by
  refine call_function_entry kind_iter plain_iter entry_iter (args_iter2 _ _) ?_
  unfold Builtin.«iter»
  refine wpAny_bind (m := someArgs "iter" 1 2 _) (wpAny_of_eq (a := [Value.ref m, .str ⟨#[]⟩ t]) (by first | rfl | kernel_rfl!) ?_)
  dsimp only
  obtain ⟨g, hg⟩ := lk_method_call
  refine wpAny_bind (wpAny_specialOf (T := "method") ⟨_, hm, rfl⟩ hg ?_)
  simp only [Option.isNone_some, Bool.false_eq_true, if_false]
  refine wpAny_bind (wpAny_rule ?_)
  exact wpAny_bind (wpAny_newObj_type (wpAny_pure ⟨_, rfl, h⟩) (by size_fits))

theorem borrows_method {m f self : Addr} {of : Obj} {fd : FuncData} {Q : Bool → Shared → Prop} (hm : s.heap.get? m = some (methodObj (.ref f) (.ref self))) (hf : s.heap.get? f = some of) (hd : of.data = .func fd)
    (h : Q true s) : wpAny (model prog w) A (borrowsExactly (.ref m)) Q E s := by
  unfold borrowsExactly
  refine wpAny_bind (wpAny_load hm ?_)
  dsimp only
  rw [if_pos (by decide)]
  refine wpAny_bind (wpAny_load hf ?_)
  rw [hd]
  exact wpAny_pure h

theorem wpAny_callBorrowed {M : Model} {f : Value} {pos : List Value} {Q : Value → Shared → Prop} (hc : codeAny M A (.call f ⟨pos, []⟩) (fun r s' => match r with | .ok (.ret v) => Q v s' | .ok _ => False | .error e => E e s') s) :
    wpAny M A (callBorrowed f pos) Q E s := fun Γ p hΓ => by
  have key := hc _ p rfl (hΓ.enter (.call f ⟨pos, []⟩) none p (by intro x; cases x))
  have e : Sem.wp M Γ (callBorrowed f pos) (fun a _ s' => Q a s') (fun e _ s' => E e s') p s = wpCode M (Γ.enter (.call f ⟨pos, []⟩) none p) (fun r s' => match r with | .ok (.ret v) => Q v s' | .ok _ => False | .error e => E e s') p s := by
    unfold callBorrowed
    show wpCode M (Γ.enter (.call f ⟨pos, []⟩) none p) (fun r s' => Sem.wp M Γ _ _ _ p s') p s = _
    congr 1; funext r s'
    cases r with
    | error e => rfl
    | ok f => cases f <;> rfl
  rw [e]; exact key

theorem pyNext_cit {it m f self : Addr} {t : Tok} {Q : Option Value → Shared → Prop} {of : Obj} {fd : FuncData} (hh : A.handled = none) (hi : s.heap.get? it = some (citObj m t)) (hm : s.heap.get? m = some (methodObj (.ref f) (.ref self)))
    (hf : s.heap.get? f = some of) (hd : of.data = .func fd)
    (h : codeAny (model prog w) A.in1 (.call (.ref f) ⟨[.ref self], []⟩) (fun r s' => match r with
      | .ok (.ret v) => ∃ l u, v = .str l u ∧ s'.heap.get? it = some (citObj m t) ∧ s'.heap.get? m = some (methodObj (.ref f) (.ref self)) ∧ (∃ of', s'.heap.get? f = some of' ∧ ∃ fd', of'.data = .func fd') ∧
          (l ≠ ⟨#[]⟩ → Q (some v) s') ∧ (l = ⟨#[]⟩ → ∀ h', h'.get? it = some citEnd → (∀ b o, b ≠ it → s'.heap.get? b = some o → h'.get? b = some o) → Q none { s' with heap := h' })
      | .ok _ => False
      | .error e => False) s) : wpAny (model prog w) A (pyNext (.ref it)) Q E s := by
  have hT : s.TypeIs (.ref it) "callable_iterator" := ⟨_, hi, rfl⟩
  unfold pyNext
  refine wpAny_bind (wpAny_attempt (wpAny_callSpecial?_slot (name := Str.ofString "__next__") hT slot_cit_next (wpAny_call_entry slot_cit_next hT entry_cit_next ?_ (args_cit_next _))))
  show wpAny _ _ (field (.ref it) 2 >>= _) _ _ s
  refine wpAny_bind (wpAny_field hi rfl (x := .bool false) rfl ?_)
  rw [if_neg (by decide)]
  refine wpAny_bind (wpAny_field hi rfl (x := .ref m) rfl ?_)
  refine wpAny_bind (wpAny_attempt ?_)
  unfold callOutOfASlot
  refine wpAny_bind (borrows_method hm hf hd ?_)
  rw [if_pos rfl]
  refine wpAny_callBorrowed (method_call hm (codeAny_mono h fun r s' hr => ?_))
  rcases r with e | (v | _ | _ | _) <;> first | exact hr.elim | skip
  obtain ⟨l, u, rfl, hi', hm', ⟨of', hf', fd', hd'⟩, h1, h2⟩ := hr
  show wpAny _ _ (field (.ref it) 2 >>= _) _ _ s'
  refine wpAny_bind (wpAny_field hi' rfl (x := .bool false) rfl ?_)
  rw [if_neg (by decide)]
  refine wpAny_bind (wpAny_field hi' rfl (x := .str ⟨#[]⟩ t) rfl ?_)
  refine wpAny_bind (wpAny_holding (eqBool_str ?_))
  by_cases hl : l = ⟨#[]⟩
  · subst hl
    rw [if_neg (by simp)]
    refine wpAny_bind (wpAny_rule ?_)
    refine wpAny_bind ?_
    show wpAny _ _ (field (.ref it) 0 >>= fun x => slotLetsGo "callable_iterator.__next__" x _ >>= fun _ => setField (.ref it) 0 .none >>= fun _ => setField (.ref it) 1 .none >>= fun _ => setField (.ref it) 2 (.bool true)) _ _ s'
    refine wpAny_bind (wpAny_field hi' rfl (x := .ref m) rfl ?_)
    refine wpAny_bind ?_
    unfold slotLetsGo
    dsimp only
    refine wpAny_bind (borrows_method hm' hf' hd' ?_)
    rw [if_pos rfl]
    refine wpAny_pure ?_
    refine wpAny_bind (wpAny_setField_rec hi' (by simp) fun h₂ he₂ hs₂ => ?_)
    refine wpAny_bind (wpAny_setField_rec he₂ (by simp) fun h₃ he₃ hs₃ => ?_)
    refine wpAny_setField_rec he₃ (by simp) fun h₄ he₄ hs₄ => ?_
    unfold Builtin.SmallTypes.stopIteration
    show wpAny _ _ (newExc (.type "StopIteration") [] >>= _) _ _ _
    refine wpAny_bind ?_
    simp only [newExc, newTuple]
    refine wpAny_bind (wpAny_newObj_type ?_ (by size_fits))
    refine wpAny_bind (m := firstArgMember _ _) (wpAny_of_eq (a := Value.none) (by first | rfl | (simp only [firstArgMember]; rfl)) ?_)
    refine wpAny_newObj_type ?_ (by size_fits)
    simp only [raiseNew]
    refine wpAny_bind (wpAny_handled ?_)
    rw [show A.in1.handled = none from hh]
    refine wpAny_bind (wpAny_pure (wpAny_throw ?_))
    refine wpAny_bind (wpAny_isInstance (T := "StopIteration") (b := true) ⟨_, Heap.get?_push_size _ rfl, rfl⟩ isSubtype_stop ?_)
    have e2 : Heap.SameBut it s'.heap h₂ := hs₂
    have e3 : Heap.SameBut it h₂ h₃ := hs₃
    have e4 : Heap.SameBut it h₃ h₄ := hs₄
    refine wpAny_pure (h2 rfl _ (Heap.get?_push_of_some _ (Heap.get?_push_of_some _ he₄)) fun b o hb hbo => ?_)
    exact Heap.get?_push_of_some _ (Heap.get?_push_of_some _ (((e4.2 b hb).trans ((e3.2 b hb).trans (e2.2 b hb))).trans hbo))
  · have : ((⟨#[]⟩ : Str) == l) = false := by simpa using fun e => hl e.symm
    rw [this]
    rw [if_pos (by rfl)]
    exact wpAny_pure ⟨_, rfl, wpAny_pure (h1 hl)⟩
end
end Mine

-- BJ
namespace Mine
open PySem PySem.Calls PyProof.Rows PySem.W

def VO (h : Heap) : Option AV → Option Value → Prop
  | none, v => v = none
  | some a, v => ∃ w, v = some w ∧ VR h a w
abbrev Nx (c : Cx) (it : Addr) (σ : St) (Φ : Option AV → St → Prop) (X : XP) : Prop := Tri c T0 (pyNext (.ref it)) VO σ Φ X

theorem getElem?_append_right' {α : Type} {l r : List α} {i : Nat} {a : α} (e : r[i]? = some a) : (l ++ r)[l.length + i]? = some a := by
  rw [List.getElem?_append_right (Nat.le_add_right _ _), Nat.add_sub_cancel_left]; exact e
theorem set_append_right' {α : Type} {l r : List α} {i : Nat} {a : α} : (l ++ r).set (l.length + i) a = l ++ r.set i a := by
  rw [List.set_append_right _ _ (Nat.le_add_right _ _), Nat.add_sub_cancel_left]

theorem Nx.cit {prog : Program} {w : World} {b0 : Heap} {A : Around} {env : Env} {fr fx Kf : List Addr} {z : Bool} {n : Nat} {loc : List (String × AV)} {own R : List (Addr × AO)} {it m f self : Addr} {t : Tok} {of : Obj} {fd : FuncData} {Φ : Option AV → St → Prop} {X : XP}
    {Ψ : List Nat → List (Addr × AO) → Prop} (hh : A.handled = none) (g : Good z (n + 1) (cx prog w b0 A env fr fx Kf)) (ho : b0.get? f = some of) (hd : of.data = .func fd)
    (i j : Nat) (e1 : R[i]? = some (it, .raw (citObj m t))) (e2 : R[j]? = some (m, .raw (methodObj (.ref f) (.ref self))))
    (F : Fun prog w b0 z n (.ref f) [.ref self] own (fun r own' => ∃ l, r = .str l ∧ Ψ l own'))
    (k1 : ∀ l own', l ≠ [] → Ψ l own' → Φ (some (.str l)) ⟨loc, own' ++ R⟩) (k2 : ∀ own', Ψ [] own' → Φ none ⟨loc, own' ++ R.set i (it, .raw citEnd)⟩) :
    Nx (cx prog w b0 A env fr fx Kf) it ⟨loc, own ++ R⟩ Φ X := by
  refine Tri.ofH fun s r _ Q E q _ => ?_
  have r1 := (r.own _ (List.mem_append_right _ (List.mem_of_getElem? e1))).1
  have r2 := (r.own _ (List.mem_append_right _ (List.mem_of_getElem? e2))).1
  refine pyNext_cit hh r1 r2 (r.kb _ _ ho) hd ?_
  have gA := g.around (A' := A.in1) (m := n) rfl rfl (by show A.depth + n ≤ _; omega) (by show A.units + 1 + 20 * n ≤ _; omega)
  have T0 := F A.in1 env fr fx Kf loc gA [.ref self] noX
  have T1 : TriW (cx prog w b0 A.in1 env fr fx Kf) (fun _ => True) (runs prog w A.in1 (.call (.ref f) ⟨[.ref self], []⟩)) VR ⟨loc, own ++ R⟩ (fun av σ' => ∃ own', σ' = ⟨loc, own' ++ R⟩ ∧ ∃ l, av = .str l ∧ Ψ l own') noX :=
    TriW.frame (fun s r p Q E q x => T0 s r (VRs.cons VR.mkRef VRs.nil) Q E (fun a y σ' s' r' f' v φ => by
      obtain ⟨loc', own'⟩ := σ'
      obtain ⟨e3, φ⟩ := φ
      cases e3
      exact q a y _ s' r' f' v ⟨own', rfl, φ⟩) (fun _ _ _ _ _ y => y.elim))
  have T2 := TriW.around (A := A) (A' := A.in1) rfl T1
  refine codeAny_mono (T2 s r trivial (fun v s' => ∃ l u, v = .str l u ∧ s'.heap.get? it = some (citObj m t) ∧ s'.heap.get? m = some (methodObj (.ref f) (.ref self)) ∧ (∃ of', s'.heap.get? f = some of' ∧ ∃ fd', of'.data = .func fd') ∧
          (l ≠ ⟨#[]⟩ → Q (some v) s') ∧ (l = ⟨#[]⟩ → ∀ h', h'.get? it = some citEnd → (∀ b o, b ≠ it → s'.heap.get? b = some o → h'.get? b = some o) → Q none { s' with heap := h' }))
      (fun _ _ => False) (fun v y σ' s' r' f' vv φ => ?_) (fun _ _ _ _ _ y => False.elim y)) fun rr s' hr => ?_
  · obtain ⟨own', rfl, l, rfl, φ⟩ := φ
    obtain ⟨u, rfl⟩ := vv.str'
    have m1 : (it, AO.raw (citObj m t)) ∈ own' ++ R := List.mem_append_right _ (List.mem_of_getElem? e1)
    refine ⟨_, u, rfl, (r'.own _ m1).1, (r'.own _ (List.mem_append_right _ (List.mem_of_getElem? e2))).1, ⟨of, r'.kb _ _ ho, fd, hd⟩, fun hl => ?_, fun hl h' hi' kk => ?_⟩
    · exact q _ (some (.str l)) _ s' r'.toRep f' ⟨_, rfl, VR.mkStr⟩ (k1 l own' (fun z => hl (by rw [z])) φ)
    · have : l = [] := by have := congrArg (fun x : Str => x.cps.toList) hl; simpa using this
      subst this
      have ei : (own' ++ R)[own'.length + i]? = some (it, .raw (citObj m t)) := getElem?_append_right' e1
      have sp : Sp [] (foot it (.raw (citObj m t))) s'.heap h' := Sp.of_keep fun b o n e => kk b o (by simpa [foot] using n) e
      have oo : OR h' it (.raw citEnd) := ⟨hi', .of_cls (by simp) (by simp)⟩
      obtain ⟨ru, ft, hG⟩ := r'.toRep.upd (σ := ⟨loc, own' ++ R⟩) ei sp oo rfl
      have fu := Aft.upd (c := cx prog w b0 A env fr fx Kf) (σ := ⟨loc, own' ++ R⟩) (tk := s'.toks) ei sp oo rfl ft hG
      rw [show (⟨loc, own' ++ R⟩ : St).own.set (own'.length + i) (it, AO.raw citEnd) = own' ++ R.set i (it, .raw citEnd) from set_append_right'] at ru fu
      exact q none none _ _ ru (f'.trans fu) rfl (k2 own' φ)
  · rcases rr with e | (v | _ | _ | _) <;> first | exact hr | exact hr.elim

theorem Ex.forN {c : Cx} {target iter : Expr} {body : List Stmt} {pos : Pos} {σ : St} {Φ : Fl → St → Prop} {X : XP} (inv : Nat → St → Prop)
    (h : Ev c iter σ (fun a σ₁ => ∃ it, a = .ref it ∧ Tri c T0 (pyIter (.ref it)) VR σ₁ (fun b σ₂ => b = .ref it ∧ (∃ n, inv n σ₂) ∧
      ∀ n σ', inv n σ' → Nx c it σ' (fun o σ₃ => match o with | none => Φ .next σ₃ | some x => Asg c target x σ₃ (fun σ₄ => Exs c body σ₄ (Turn inv n Φ) noX) noX) noX) X) X)
    (hs : ∀ x, foldedSetIterable iter c.env x = pure x := by intro _; rfl) (ht : ∀ it v, letOwnedTupleGo target it v = pure () := by intro _ _; rfl) : Ex c (.For target iter body [] pos) σ Φ X := by
  intro s rp _ Q E q x
  refine wpAny_For (h s rp trivial _ _ (fun v a σ₁ s₁ r₁ f₁ va h₁ => ?_) x) hs
  obtain ⟨it, rfl, h₁⟩ := h₁
  cases va.ref'
  refine h₁ s₁ r₁ trivial _ _ (fun v a σ₂ s₂ r₂ f₂ va h₂ => ?_) (x.go f₁)
  obtain ⟨rfl, ⟨n, h0⟩, turn⟩ := h₂
  cases va.ref'
  refine codeAny_forLoop (fun n s' => ∃ σ', RepS c σ' s' ∧ Aft c σ₂ s₂ σ' s' ∧ inv n σ') (fun n s' hJ => ?_) n ⟨σ₂, r₂, .refl, h0⟩ (fun _ => ht _ _)
  obtain ⟨σ', r', f', hI⟩ := hJ
  have f0 := (f₁.trans f₂).trans f'
  refine turn n σ' hI s' r' trivial _ _ (fun o y σ₃ s₃ r₃ f₃ vo h₃ => ?_) (fun _ _ _ _ _ z => z.elim)
  cases y with
  | none =>
    cases vo
    exact wpAny_execs_nil (q _ .next σ₃ s₃ r₃ (f0.trans f₃) rfl h₃)
  | some x =>
    obtain ⟨w, rfl, vw⟩ := vo
    refine h₃ w s₃ r₃ vw _ _ (fun _ _ σ₄ s₄ r₄ f₄ _ h₄ => ?_) (fun _ _ _ _ _ z => z.elim)
    refine h₄ s₄ r₄ trivial _ _ (fun g fl σ₅ s₅ r₅ f₅ e h₅ => ?_) (fun _ _ _ _ _ z => z.elim)
    have f35 := (f₃.trans f₄).trans f₅
    cases fl with
    | next => cases e; obtain ⟨m, hm, hI⟩ := h₅; exact ⟨m, hm, σ₅, r₅, f'.trans f35, hI⟩
    | cont => cases e; obtain ⟨m, hm, hI⟩ := h₅; exact ⟨m, hm, σ₅, r₅, f'.trans f35, hI⟩
    | brk => cases e; exact q _ .next σ₅ s₅ r₅ (f0.trans f35) rfl h₅
    | ret v => obtain ⟨u, rfl, hu⟩ := e; exact q _ (.ret v) σ₅ s₅ r₅ (f0.trans f35) ⟨u, rfl, hu⟩ h₅

theorem iterCit {c : Cx} {σ : St} {it : Addr} {o : Obj} {Φ : AV → St → Prop} {X : XP} (i : Nat) (e : σ.own[i]? = some (it, .raw o)) (hc : o.cls = .type "callable_iterator") (k : Φ (.ref it) σ) : Tri c T0 (pyIter (.ref it)) VR σ Φ X :=
  Tri.pureStep k fun s _ r Q E q => wpAny_pyIter_cit (r.own _ (List.mem_of_getElem? e)).1 hc (q _ s.heap s.toks (fun _ _ e => e) VR.mkRef)

theorem Cal.iter2 {c : Cx} {m f self : Addr} {σ : St} {Φ : AV → St → Prop} {X : XP} (i : Nat) (e : σ.own[i]? = some (m, .raw (methodObj (.ref f) (.ref self)))) (k : ∀ d t, Φ (.ref d) ⟨σ.loc, (d, .raw (citObj m t)) :: σ.own⟩) :
    Cal c (.builtin "iter") [.ref m, .str []] σ Φ X := fun vs =>
  Tri.ofH fun s r p Q E q _ => by
    obtain ⟨v, w, rfl, p1, p2⟩ := VRs.two p
    cases p1.ref'
    obtain ⟨t, rfl⟩ := p2.str'
    have g := (r.own _ (List.mem_of_getElem? e)).1
    refine call_iter2 (of := methodObj (.ref f) (.ref self)) g ?_
    have hn : s.heap.get? s.heap.objs.size = none := Heap.get?_none_of_le (Nat.le_refl _)
    have ho : OR (s.heap.push (citObj m t)) s.heap.objs.size (.raw (citObj m t)) := ⟨Heap.get?_push_size _ rfl, .of_cls (by simp) (by simp)⟩
    exact q (.ref _) (.ref _) _ _ (r.toRep.fresh push_keep hn ho rfl) (Aft.fresh (tk := s.toks) push_keep hn rfl) VR.mkRef (k _ _)
end Mine

-- BK
namespace Mine
open PySem PySem.Calls PyProof.Rows PySem.W

/-- a function made where it closes over cells -/
theorem makeLam {M : Model} {A : Around} {E : Value → Shared → Prop} {s : Shared} {name qual : Str} {params : Arguments} {body : Expr} {scope : Scope} {env : Env} {c P : Addr} {ps : Array Value} {pos : Pos} {firstLine : Nat} {mg : Str → Option Value}
    {cq : Str × Addr} {cr : List (Str × Addr)} {Q : Value → Shared → Prop} (hcl : closureFor scope env = pure (cq :: cr)) (hge0 : env.globals = mainGlobals) (hg : s.heap.Ns mainGlobals mg) (hcode : env.code = .ref c) (C : CodeHd s.heap c P) (hP : s.heap.get? P = some (tabObj ps)) (ht : TriplesOk ps.toList)
    (hnf : codeAmong pos ps.toList = none) (hgP : mainGlobals ≠ P) (hb : s.heap.BuiltinsAt mg P)
    (h : ∀ c' ctv h' tk oc vs t, Heap.ExtBut P s.heap h' → s.heap.objs.size ≤ c' → c' < h'.objs.size → h'.get? c' = some oc → oc.cls = .type "code" → oc.data = .fields vs → vs[1]? = some (.str qual t) → h'.get? P = some (tabObj (ps ++ #[rawInt pos.line, rawInt pos.col, .ref c'])) →
      Q (.ref h'.objs.size) { s with heap := h'.push (kla_obj name qual params body scope (cq :: cr) ((mg "__name__").getD .none) c' ctv), toks := tk }) :
    wpAny M A (makeFunction name qual params (.expr body) scope env [] [] [] pos firstLine) Q E s := by
  rw [makeFunction_eq]
  simp only [List.zip_nil_right, List.filterMap_nil, List.isEmpty_nil, if_true, pure_bind]
  obtain ⟨bm, ob, hbm, hne0, _, hneP, hbo, hcls, hdict, hdata⟩ := hb
  unfold makeTail
  rw [hcl, hge0]
  refine wpAny_bind (wpAny_pure ?_)
  simp only [List.isEmpty_cons, Bool.false_eq_true, if_false]
  refine wpAny_bind (wpAny_newTextTuple ?_)
  refine wpAny_bind (wpAny_functionCodeX hcode ((C.keeps fun b o e => Heap.get?_push_of_some _ e).code (Heap.get?_push_of_some _ hP) ht) ((C.keeps fun b o e => Heap.get?_push_of_some _ e).tab (Heap.get?_push_of_some _ hP)) hnf fun c' h' tk hx hge hlt _ hrec htb hnew => ?_)
  have hg' := (hg.push _).extBut hx hgP
  have hx' : Heap.ExtBut P s.heap h' := fun b o hb' e => hx b o hb' (Heap.get?_push_of_some _ e)
  have hge' : s.heap.objs.size ≤ c' := Nat.le_trans (by rw [Heap.size_push]; omega) hge
  refine wpAny_bind (wpAny_builtinsFor hg' hbm hne0 (hx' _ _ hneP hbo) hcls hdict hdata ?_)
  refine wpAny_bind (wpAny_nsGet hg' ?_)
  obtain ⟨c₂, oc, vs, t, e2, hoc, hd, hv⟩ := hrec
  cases e2
  obtain ⟨P', _, _, ⟨o3, vs3, e3, e4, _⟩, _⟩ := hnew
  rw [hoc] at e3; cases e3
  exact wpAny_bind (wpAny_pure (wpAny_newObj_type (h c' _ h' tk oc vs t hx' hge' hlt hoc e4 hd hv htb.2) (by size_fits)))

/-- a lambda over cells -/
theorem evLambda {c : Cx} {params : Arguments} {body : Expr} {scope : Scope} {pos : Pos} {σ : St} {Φ : AV → St → Prop} {X : XP} {cd P : Addr} {cq : Str × Addr} {cr : List (Str × Addr)} {mg : Str → Option Value} (hdef : defaultsOf params c.env = ([], []))
    (hcl : closureFor scope c.env = pure (cq :: cr)) (hge0 : c.env.globals = mainGlobals) (hg : c.b0.Ns mainGlobals mg) (hcode : c.env.code = .ref cd) (C : CodeHd c.b0 cd P) (hb : c.b0.BuiltinsAt mg P) (hgP : mainGlobals ≠ P) (i : Nat) (e : σ.own[i]? = some (P, .raw (tabObj #[])))
    (k : ∀ f c' oc ctv vs t, oc.data = .fields vs → vs[1]? = some (.str (c.env.qual ++ "<lambda>") t) →
      Φ (.ref f) ⟨σ.loc, (f, .raw (kla_obj "<lambda>" (c.env.qual ++ "<lambda>") params body scope (cq :: cr) ((mg "__name__").getD .none) c' ctv)) :: (σ.own.set i (P, .raw (tabObj (#[] ++ #[rawInt pos.line, rawInt pos.col, .ref c']))) ++ [(c', .raw oc)])⟩) :
    Ev c (.Lambda params body scope pos) σ Φ X := by
  refine Tri.ofH fun s r _ Q E q _ => ?_
  refine kla_eval hdef ?_
  have gP := (r.own _ (List.mem_of_getElem? e)).1
  refine makeLam hcl hge0 (hg.keeps r.kb) hcode (C.keeps r.kb) gP trivial rfl hgP (let ⟨bm, o, a1, a2, a3, a4, a5, a6⟩ := hb; ⟨bm, o, a1, a2, a3, a4, r.kb _ _ a5, a6⟩) fun c' ctv h' tk oc vs t hx hge hlt hoc hcls hd hv hP' => ?_
  have sp : Sp [] (foot P (.raw (tabObj #[]))) s.heap h' := Sp.of_keep fun b o n e => hx b o (by simpa [foot] using n) e
  have oo : OR h' P (.raw (tabObj (#[] ++ #[rawInt pos.line, rawInt pos.col, .ref c']))) := ⟨hP', .of_cls (by simp) (by simp)⟩
  obtain ⟨ru, ft, hG⟩ := r.toRep.upd e sp oo rfl
  have fu := Aft.upd (c := c) (tk := tk) e sp oo rfl ft hG
  have hn : s.heap.get? c' = none := Heap.get?_none_of_le hge
  have ex : ∀ a ∈ c.fr ++ (c.fx ++ feet σ.own), ∃ o, s.heap.get? a = some o := fun a ha => by
    rcases List.mem_append.mp ha with w | w
    · obtain ⟨o, e, _⟩ := r.frc a w; exact ⟨o, e⟩
    · rcases List.mem_append.mp w with w | w
      · obtain ⟨o, e, _⟩ := r.kh a (List.mem_append_right _ w); exact ⟨o, e⟩
      · exact r.here a (List.mem_append_right _ w)
  have ra := ru.addOwn (a := c') (ao := .raw oc) ⟨hoc, .of_cls (by rw [hcls]; simp) (by rw [hcls]; simp)⟩ rfl (fun z => by
      obtain ⟨o, e1⟩ := ex c' (by
        rcases List.mem_append.mp z with z | z
        · exact List.mem_append_left _ z
        · rcases List.mem_append.mp z with z | z
          · exact List.mem_append_right _ (List.mem_append_left _ z)
          · exact List.mem_append_right _ (List.mem_append_right _ (by
              have z : c' ∈ feet (σ.own.set i (P, .raw (tabObj (#[] ++ #[rawInt pos.line, rawInt pos.col, .ref c'])))) := z
              rw [ft] at z; exact z)))
      rw [hn] at e1; cases e1) (fun z => by obtain ⟨o, e1, _⟩ := r.kh c' (List.mem_append_left _ z); rw [hn] at e1; cases e1) (by
      cases e1 : c.b0.get? c' with
      | none => rfl
      | some o => have := r.kb c' o e1; rw [hn] at this; cases this)
  have fa : Aft c σ s ⟨σ.loc, σ.own.set i (P, .raw (tabObj (#[] ++ #[rawInt pos.line, rawInt pos.col, .ref c']))) ++ [(c', .raw oc)]⟩ { s with heap := h', toks := tk } :=
    ⟨fu.rest, fu.sp, fu.al, fun a ha => by
      have ha : a ∈ feet (σ.own.set i (P, .raw (tabObj (#[] ++ #[rawInt pos.line, rawInt pos.col, .ref c']))) ++ [(c', .raw oc)]) := ha
      rw [feet_append] at ha
      rcases List.mem_append.mp ha with z | z
      · exact fu.fs a z
      · right
        have : a = c' := by simpa [feet, foot] using z
        rw [this]; exact hn⟩
  have hn2 : h'.get? h'.objs.size = none := Heap.get?_none_of_le (Nat.le_refl _)
  have ho2 : OR (h'.push (kla_obj "<lambda>" (c.env.qual ++ "<lambda>") params body scope (cq :: cr) ((mg "__name__").getD .none) c' ctv)) h'.objs.size (.raw (kla_obj "<lambda>" (c.env.qual ++ "<lambda>") params body scope (cq :: cr) ((mg "__name__").getD .none) c' ctv)) :=
    ⟨Heap.get?_push_size _ rfl, .of_cls (by simp) (by simp)⟩
  exact q (.ref _) (.ref _) _ _ (ra.fresh push_keep hn2 ho2 rfl) (fa.trans (Aft.fresh (s := { s with heap := h', toks := tk }) (tk := tk) push_keep hn2 rfl)) VR.mkRef (k _ _ _ _ _ _ hd hv)
end Mine

-- BL
namespace Mine
open PySem PySem.Calls PyProof.Rows PySem.W

theorem lookup_nodup {β : Type} : ∀ {cs : List (Str × β)} {n : Str} {c : β}, (cs.map (·.1)).Nodup → (n, c) ∈ cs → cs.lookup n = some c
  | (n', c') :: cs, n, c, hnd, hm => by
    rw [List.map_cons, List.nodup_cons] at hnd
    rw [List.lookup_cons]
    rcases List.mem_cons.mp hm with e | hm
    · cases e; simp
    · have : (n == n') = false := by
        have : n ≠ n' := fun e => hnd.1 (e ▸ List.mem_map.mpr ⟨_, hm, rfl⟩)
        simpa using this
      rw [this]; exact lookup_nodup hnd.2 hm

theorem lookup_append_one {x y : String} {a b : AV} : ∀ {l : List (String × AV)}, (l ++ [(y, b)]).lookup x = some a → l.lookup x = some a ∨ (x = y ∧ a = b)
  | [], e => by
    rw [List.nil_append, List.lookup_cons] at e
    by_cases h : x = y
    · subst h; simp at e; exact .inr ⟨rfl, e.symm⟩
    · have : (x == y) = false := by simpa using h
      rw [this] at e; simp at e
  | (z, w) :: l, e => by
    rw [List.cons_append, List.lookup_cons] at e
    rw [List.lookup_cons]
    cases h : x == z with
    | true => rw [h] at e; exact .inl e
    | false => rw [h] at e; exact lookup_append_one e

set_option maxHeartbeats 1000000 in
theorem introL {prog : Program} {w : World} {b0 : Heap} {z : Bool} {n : Nat} {fa c' cell S : Addr} {oc co : Obj} {qual : Str} {params : Arguments} {body : Expr} {scope : Scope} {pm ctv : Value} {y : String} {vs0 : Array Value} {t0 : Tok}
    {ps : List String} {args : List AV} {own : List (Addr × AO)} {Φ : AV → List (Addr × AO) → Prop} (hco : co.data = .cell (some (.ref S))) (hoc : oc.data = .fields vs0) (hov : vs0[1]? = some (.str qual t0)) (hlim : b0.NoLimit)
    (hbind : ∀ vs : List Value, vs.length = args.length → bindArgs (kla_fn "<lambda>" qual params body scope [(Str.ofString y, cell)] pm (.ref c') ctv) ⟨vs, []⟩ = pure ((ps.map Str.ofString).zip vs)) (hps : ps.length = args.length) (hnd : ps.Nodup)
    (hkl : ∀ x ∈ ps, scope.names.lookup (Str.ofString x) = some .local) (hky : scope.names.lookup (Str.ofString y) = some .free) (hcn : ∀ x ∈ scope.names, x.2 ≠ .cell)
    (h : ∀ (A : Around) (L : Addr) (K : List Addr), Good z n (cx prog w b0 (A.deeper (envX qual scope L fa (.ref c') [(Str.ofString y, cell)])) (envX qual scope L fa (.ref c') [(Str.ofString y, cell)]) [L] [cell] K) →
      Ev (cx prog w b0 (A.deeper (envX qual scope L fa (.ref c') [(Str.ofString y, cell)])) (envX qual scope L fa (.ref c') [(Str.ofString y, cell)]) [L] [cell] K) body ⟨ps.zip args ++ [(y, .ref S)], own⟩ (fun r σ' => Φ r σ'.own) noX)
    (hsco : scope.isCoroutine = false := by rfl) (hgen : scope.isGenerator = false := by rfl) (hk : scope.kind = .function := by rfl) :
    Fun prog w b0 z (n + 1) (.ref fa) args ((fa, .raw (kla_obj "<lambda>" qual params body scope [(Str.ofString y, cell)] pm c' ctv)) :: (c', .raw oc) :: (cell, .raw co) :: own)
      (fun r own' => ∃ o2, own' = (fa, .raw (kla_obj "<lambda>" qual params body scope [(Str.ofString y, cell)] pm c' ctv)) :: (c', .raw oc) :: (cell, .raw co) :: o2 ∧ Φ r o2) := by
  intro A env fr fx K loc g vs X s r hv Q E q' _
  refine codeAny_with_toks (n := 1) r.tp ?_
  generalize hF : (kla_obj "<lambda>" qual params body scope [(Str.ofString y, cell)] pm c' ctv) = FO at *
  have hlen := hv.length
  obtain ⟨l, hl, hlK⟩ := g.fr
  have hl : A.frames = some l := hl
  have gd : A.depth + (n + 1) < recursionLimit := g.dp
  have gu : A.units + 20 * (n + 1) < cLine := g.un
  have gF : s.heap.get? fa = some FO := (r.own (fa, .raw FO) (.head _)).1
  have gC : s.heap.get? c' = some oc := (r.own (c', .raw oc) (.tail _ (.head _))).1
  have gX : s.heap.get? cell = some co := (r.own (cell, .raw co) (.tail _ (.tail _ (.head _)))).1
  have hFd : FO.data = .func (kla_fn "<lambda>" qual params body scope [(Str.ofString y, cell)] pm (.ref c') ctv) := by rw [← hF]
  have ef : feet ((fa, AO.raw FO) :: (c', AO.raw oc) :: (cell, AO.raw co) :: own) = fa :: c' :: cell :: feet own := rfl
  have fnd := r.toRep.feetNodup
  rw [ef] at fnd
  obtain ⟨nd1, fnd1⟩ := List.nodup_cons.mp fnd
  obtain ⟨nd2, fnd2⟩ := List.nodup_cons.mp fnd1
  obtain ⟨nd3, fnd3⟩ := List.nodup_cons.mp fnd2
  refine kla_callFunE (by show A.depth < recursionLimit; omega) gF hFd hsco hgen rfl ⟨c', oc, vs0, t0, rfl, gC, hoc, hov⟩ ?_
  rw [hbind vs hlen]
  have hzn : (((ps.map Str.ofString).zip vs).map (·.1)).Nodup := by
    have e : ((ps.map Str.ofString).zip vs).map (·.1) = ps.map Str.ofString := List.map_fst_zip (by rw [List.length_map]; omega)
    rw [e]
    exact List.pairwise_map.mpr (hnd.imp fun ne e => ne (ofString_inj e))
  have hloc : ∀ x ∈ (ps.map Str.ofString).zip vs, scope.names.lookup x.1 = some .local := fun x hx => by
    obtain ⟨u, hu, e⟩ := List.mem_map.mp (List.of_mem_zip hx).1
    rw [← e]; exact hkl u hu
  refine wpAny_pure (wpAny_newFunctionEnv hcn hloc (fun h₁ hns hsb => ⟨(hlim.keeps r.kb).fresh _ hsb, ?_⟩) hk)
  show codeAny _ _ (.expr body (envX qual scope s.heap.objs.size fa (.ref c') [(Str.ofString y, cell)])) _ _
  generalize hL : s.heap.objs.size = L at *
  have hLn : s.heap.get? L = none := Heap.get?_none_of_le (by rw [hL]; exact Nat.le_refl _)
  have hk₁ : ∀ b o, s.heap.get? b = some o → h₁.get? b = some o := fun b o e => hsb.extBut b o (fun z => by rw [z, hLn] at e; cases e) (Heap.get?_push_of_some _ e)
  have sp0 : Sp [] [] s.heap h₁ := Sp.of_keep fun a o _ e => hk₁ a o e
  have hb0 : b0.get? L = none := by
    cases q : b0.get? L with
    | none => rfl
    | some o => have : s.heap.get? L = some o := r.kb L o q; rw [hLn] at this; cases this
  have fll : ∀ a ∈ l.filterMap (·.frame), a ∈ fr ++ K := (r.ff l hl).2
  have exK : ∀ a ∈ l.filterMap (·.frame), ∃ o, s.heap.get? a = some o ∧ NT o := fun a ha => by
    rcases List.mem_append.mp (fll a ha) with z | z
    · exact r.frc a z
    · exact r.kh a (List.mem_append_left _ z)
  have hnf : ∀ a ∈ l.filterMap (·.frame), a ∉ fa :: c' :: cell :: feet own := r.toRep.nfr l hl
  have hKb : ∀ a ∈ l.filterMap (·.frame), b0.get? a = none := fun a ha => by
    rcases List.mem_append.mp (fll a ha) with z | z
    · exact (r.nk a (List.mem_append_left _ z)).2
    · exact r.kn a z
  have nLs : ∀ a o, s.heap.get? a = some o → a ≠ L := fun a o e z => by rw [z, hLn] at e; cases e
  have hereO : ∀ a ∈ feet own, ∃ o, s.heap.get? a = some o := fun a ha => r.toRep.here a (List.mem_append_right _ (by rw [ef]; exact .tail _ (.tail _ (.tail _ ha))))
  have nb : ∀ a ∈ fa :: c' :: cell :: feet own, b0.get? a = none := fun a ha => (r.nk a (List.mem_append_right _ (List.mem_append_right _ (by rw [ef]; exact ha)))).2
  have hce : cell ∈ fa :: c' :: cell :: feet own := .tail _ (.tail _ (.head _))
  have R0 : Rep (cx prog w b0 (A.deeper (envX qual scope L fa (.ref c') [(Str.ofString y, cell)])) (envX qual scope L fa (.ref c') [(Str.ofString y, cell)]) [L] [cell] (l.filterMap (·.frame))) ⟨ps.zip args ++ [(y, .ref S)], own⟩ h₁ := by
    refine ⟨⟨_, hns, fun x av e => ?_⟩, .head _, fun x a e1 e2 e3 => ?_, fun x x' a e1 e2 => ?_, fun p hp => (r.own p (.tail _ (.tail _ (.tail _ hp)))).mono sp0 NoTup.nil fun b _ => ⟨by simp, by simp⟩, ?_, fun a ha => ?_, fun a ha => ?_, fun a o e => hk₁ a o (r.kb a o e), hKb, fun a ha => ?_, fun l' e => ?_⟩
    · rcases lookup_append_one e with e | ⟨rfl, rfl⟩
      · obtain ⟨v, hm, hvv⟩ := zip_lookup hv e
        obtain ⟨u, hu, e'⟩ := List.mem_map.mp (List.of_mem_zip hm).1
        have ey := ofString_inj e'; subst ey
        refine .inl ⟨hkl _ hu, v, ?_, hvv.mono sp0 NoTup.nil⟩
        exact lookup_nodup (by rw [List.map_reverse]; exact List.pairwise_reverse.mpr (hzn.imp Ne.symm)) (List.mem_reverse.mpr hm)
      · refine .inr ⟨.inr hky, cell, .ref S, by show List.lookup _ [(_, _)] = _; simp, .inr (.head _), nLs cell _ gX, ⟨co, hk₁ _ _ gX, hco⟩, VR.mkRef⟩
    · have : a = cell := by
        have e2 : List.lookup (Str.ofString x) [(Str.ofString y, cell)] = some a := e2
        rw [List.lookup_cons] at e2
        split at e2
        · exact (Option.some.inj e2).symm
        · cases e2
      subst this
      exact absurd (List.mem_singleton.mp e3) (nLs _ _ gX)
    · have one : ∀ x a, List.lookup (Str.ofString x) [(Str.ofString y, cell)] = some a → x = y := fun x a e => by
        rw [List.lookup_cons] at e
        split at e
        · rename_i h; exact ofString_inj (by simpa using h)
        · cases e
      rw [one x a e1, one x' a e2]
    · show ([L] ++ ([cell] ++ feet own)).Nodup
      refine List.nodup_cons.mpr ⟨fun z => ?_, fnd2⟩
      rcases List.mem_cons.mp z with z | z
      · exact nLs _ _ gX z.symm
      · obtain ⟨o, e⟩ := hereO L z; exact nLs _ _ e rfl
    · rcases List.mem_cons.mp (show a ∈ L :: cell :: feet own from ha) with rfl | ha
      · refine ⟨fun k => ?_, hb0⟩
        obtain ⟨o, e, _⟩ := exK _ k; exact nLs _ _ e rfl
      · have ha : a ∈ fa :: c' :: cell :: feet own := .tail _ (.tail _ ha)
        exact ⟨fun k => hnf a k ha, nb a ha⟩
    · rw [List.mem_singleton.mp ha]
      obtain ⟨o, es, ep, g', d', _⟩ := hns
      exact ⟨o, g', .of_dict d'⟩
    · rcases List.mem_append.mp ha with w' | w'
      · obtain ⟨o, e, t⟩ := exK a w'; exact ⟨o, hk₁ a o e, t⟩
      · rw [List.mem_singleton.mp w']; exact ⟨co, hk₁ _ _ gX, .of_cell hco⟩
    · have e2 : (A.deeper (envX qual scope L fa (.ref c') [(Str.ofString y, cell)])).frames = some ((envX qual scope L fa (.ref c') [(Str.ofString y, cell)]) :: l) := by show A.frames.map _ = _; rw [hl]; rfl
      have e : (A.deeper (envX qual scope L fa (.ref c') [(Str.ofString y, cell)])).frames = some l' := e
      rw [e2] at e; cases e
      refine ⟨⟨by show scope.kind ≠ .module; rw [hk]; decide, ⟨L, ?_⟩, ?_⟩, fun a ha => ?_⟩
      · obtain ⟨o, es, ep, g', d', _⟩ := hns
        exact ⟨o, rfl, hb0, g', by rw [d']; intro vs; simp⟩
      · exact (r.ff l hl).1.of_keeps fun b o g _ => ⟨o, hk₁ b o g, rfl⟩
      · rw [List.filterMap_cons] at ha
        rcases List.mem_cons.mp ha with rfl | ha
        · exact .head _
        · exact List.mem_append_right _ ha
  have G' : Good z n (cx prog w b0 (A.deeper (envX qual scope L fa (.ref c') [(Str.ofString y, cell)])) (envX qual scope L fa (.ref c') [(Str.ofString y, cell)]) [L] [cell] (l.filterMap (·.frame))) :=
    ⟨g.hd, by show A.depth + 1 + n < recursionLimit; omega, by show A.units + 3 + 20 * n < cLine; omega, hk, ⟨_ :: l, by show A.frames.map _ = _; rw [hl]; rfl, fun a ha => by
      rw [List.filterMap_cons] at ha
      rcases List.mem_cons.mp ha with rfl | ha
      · exact .inl rfl
      · exact .inr ha⟩⟩
  refine kla_codeExpr (h A L (l.filterMap (·.frame)) G' { s with heap := h₁, toks := s.toks + ((ps.map Str.ofString).zip vs).length } ⟨R0, Nat.le_trans r.tp (Nat.le_add_right ..)⟩ trivial _ _ (fun v av σ' s' r' f' vv hφ => ?_) (fun _ _ _ _ _ z => False.elim z))
  have f1 : Sp (l.filterMap (·.frame)) ([L] ++ feet own) h₁ s'.heap := f'.sp
  have kept : ∀ a ∈ [fa, c', cell], ∀ o, s.heap.get? a = some o → s'.heap.get? a = some o := fun a ha o e => by
    have hm : a ∈ fa :: c' :: cell :: feet own := by
      rcases List.mem_cons.mp ha with rfl | ha
      · exact .head _
      · rcases List.mem_cons.mp ha with rfl | ha
        · exact .tail _ (.head _)
        · rw [List.mem_singleton.mp ha]; exact hce
    refine f1.get (hk₁ a o e) (fun z => ?_) (fun k => hnf a k hm)
    rcases List.mem_cons.mp z with z | z
    · exact nLs a o e z
    · rcases List.mem_cons.mp ha with rfl | ha
      · exact nd1 (.tail _ (.tail _ z))
      · rcases List.mem_cons.mp ha with rfl | ha
        · exact nd2 (.tail _ z)
        · rw [List.mem_singleton.mp ha] at z; exact nd3 z
  have newO : ∀ a ∈ feet σ'.own, a ∈ feet own ∨ s.heap.get? a = none := fun a ha => (f'.fs a ha).imp id fun e1 => by
    cases q : s.heap.get? a with
    | none => rfl
    | some o => have := hk₁ a o q; rw [show ({ s with heap := h₁, toks := s.toks + ((ps.map Str.ofString).zip vs).length } : Shared).heap = h₁ from rfl] at e1; rw [e1] at this; cases this
  have nin : ∀ a ∈ [fa, c', cell], a ∉ feet σ'.own := fun a ha z => by
    have ex : ∃ o, s.heap.get? a = some o := by
      rcases List.mem_cons.mp ha with rfl | ha
      · exact ⟨_, gF⟩
      · rcases List.mem_cons.mp ha with rfl | ha
        · exact ⟨_, gC⟩
        · rw [List.mem_singleton.mp ha]; exact ⟨_, gX⟩
    rcases newO a z with z | z
    · rcases List.mem_cons.mp ha with rfl | ha
      · exact nd1 (.tail _ (.tail _ z))
      · rcases List.mem_cons.mp ha with rfl | ha
        · exact nd2 (.tail _ z)
        · rw [List.mem_singleton.mp ha] at z; exact nd3 z
    · obtain ⟨o, e⟩ := ex; rw [z] at e; cases e
  obtain ⟨rb, fb⟩ := r.toRep.back (own' := (fa, .raw FO) :: (c', .raw oc) :: (cell, .raw co) :: σ'.own) (s' := s') (K' := l.filterMap (·.frame)) (F' := [L]) (by have := f'.rest; rw [this])
    (fun a o hna e1 => by
      refine f1 a o (fun z => hna ?_) (hk₁ a o e1)
      rcases List.mem_cons.mp z with z | z
      · exact z ▸ .head _
      · exact .tail _ (by rw [ef]; exact .tail _ (.tail _ (.tail _ z))))
    (fun a ha => by rw [List.mem_singleton.mp ha]; exact hLn) fll
    (fun a o hna e1 => f'.al a o (fun z => hna (by rw [ef]; exact .tail _ (.tail _ (.tail _ z)))) (hk₁ a o e1))
    (fun p hp => by
      rcases List.mem_cons.mp hp with rfl | hp
      · exact ⟨kept fa (.head _) _ gF, by rw [← hF]; exact .of_cls (by simp) (by simp)⟩
      · rcases List.mem_cons.mp hp with rfl | hp
        · exact ⟨kept c' (.tail _ (.head _)) _ gC, (r.own (c', .raw oc) (.tail _ (.head _))).2⟩
        · rcases List.mem_cons.mp hp with rfl | hp
          · exact ⟨kept cell (.tail _ (.tail _ (.head _))) _ gX, .of_cell hco⟩
          · exact r'.own p hp)
    (by
      show (fa :: c' :: cell :: feet σ'.own).Nodup
      refine List.nodup_cons.mpr ⟨fun z => ?_, List.nodup_cons.mpr ⟨fun z => ?_, List.nodup_cons.mpr ⟨nin cell (.tail _ (.tail _ (.head _))), r'.toRep.feetNodup⟩⟩⟩
      · rcases List.mem_cons.mp z with z | z
        · exact nd1 (z ▸ .head _)
        · rcases List.mem_cons.mp z with z | z
          · exact nd1 (z ▸ .tail _ (.head _))
          · exact nin fa (.head _) z
      · rcases List.mem_cons.mp z with z | z
        · exact nd2 (z ▸ .head _)
        · exact nin c' (.tail _ (.head _)) z)
    (fun a ha => by
      rcases List.mem_cons.mp (show a ∈ fa :: c' :: cell :: feet σ'.own from ha) with rfl | ha
      · exact .inl (.head _)
      · rcases List.mem_cons.mp ha with rfl | ha
        · exact .inl (.tail _ (.head _))
        · rcases List.mem_cons.mp ha with rfl | ha
          · exact .inl (.tail _ (.tail _ (.head _)))
          · exact (newO a ha).imp (fun z => .tail _ (.tail _ (.tail _ z))) id)
    (fun a o e1 => r'.kb a o e1)
  exact fun tk => q' v av _ s' ⟨rb, tk⟩ fb vv ⟨rfl, _, rfl, hφ⟩
end Mine

-- BM
namespace Mine
open PySem PySem.Calls PyProof.Rows PySem.W

/-- the heap without the frames and what is told -/
abbrev bare (h : Heap) (l : List Env) (J : List Addr) : Heap := hideAll h (l.filterMap (·.frame) ++ J)

theorem bare_ff {b0 h : Heap} {l : List Env} {J : List Addr} : ∀ {l' : List Env}, h.FunFrames b0 l' → (∀ env ∈ l', env ∈ l) → h.FunFrames (bare h l J) l'
  | [], _, _ => trivial
  | env :: r, ⟨a, ⟨L, o, b, d, e, f⟩, g⟩, hm => ⟨a, ⟨L, o, b, hideAll_none _ (List.mem_append_left _ (List.mem_filterMap.mpr ⟨env, hm env (.head _), b⟩)), e, f⟩, bare_ff g fun e he => hm e (.tail _ he)⟩

/-- an exception that is held or flies: it and its newest entry are owned -/
structure ExcSt (cls : String) (fl : Value) (e T : Addr) (oe oT : Obj) : Prop where
  c : oe.cls = .type cls
  d : ∃ vs a0, oe.data = .fields vs ∧ vs[0]? = some a0 ∧ vs[1]? = some (.ref T)
  t : ∃ ts, oT.data = .fields ts ∧ ts[3]? = some fl

theorem ExcSt.nt {cls : String} {fl : Value} {e T : Addr} {oe oT : Obj} (x : ExcSt cls fl e T oe oT) : NT oT := by
  obtain ⟨ts, d, h⟩ := x.t
  exact .of_many d (Array.getElem?_eq_some_iff.mp h).1

/-- what a turn of an exception leaves -/
theorem excTurn {c : Cx} {loc : List (String × AV)} {own : List (Addr × AO)} {e : Addr} {oe : Obj} {J : List (Addr × AO)} {s : Shared} {h' : Heap} {l : List Env} {cls : String} {a0 fl : Value}
    (r : RepS c ⟨loc, (e, .raw oe) :: (J ++ own)⟩ s) (hl : c.A.frames = some l) (hc : cls ≠ "tuple" ∧ cls ≠ "range") (hB : (bare s.heap l (e :: feet J)).StaysIn h') (hU : s.heap.UpToSlots h') (hT : h'.TracedAtW (bare s.heap l (e :: feet J)) e (.type cls) a0 fl) :
    ∃ T oe' oT, ExcSt cls fl e T oe' oT ∧ RepS c ⟨loc, (e, .raw oe') :: (T, .raw oT) :: own⟩ { s with heap := h' } ∧ Aft c ⟨loc, (e, .raw oe) :: (J ++ own)⟩ s ⟨loc, (e, .raw oe') :: (T, .raw oT) :: own⟩ { s with heap := h' } := by
  obtain ⟨oe', vs, T, oT, ts, ge, ⟨hcls, h0⟩, hd, h1, hTn, hTe, gT, hdT, h3⟩ := hT
  have ff := r.ff l hl
  have X : ExcSt cls fl e T oe' oT := ⟨hcls, ⟨vs, a0, hd, h0, h1⟩, ⟨ts, hdT, h3⟩⟩
  have eft : feet ((e, AO.raw oe) :: (J ++ own)) = e :: (feet J ++ feet own) := by rw [feet_cons, feet_append]; rfl
  have fnd := r.toRep.feetNodup
  rw [eft] at fnd
  obtain ⟨ne1, fnd2⟩ := List.nodup_cons.mp fnd
  obtain ⟨fnJ, fnO, fnd3⟩ := List.nodup_append.mp fnd2
  have nfr := r.toRep.nfr l hl
  rw [eft] at nfr
  -- off the frames, the exception and its entries all stands
  have kept : ∀ a o, a ∉ l.filterMap (·.frame) → a ≠ e → a ∉ feet J → s.heap.get? a = some o → h'.get? a = some o := fun a o n1 n2 n3 g => hB a o (hideAll_get _ g fun z => by
    rcases List.mem_append.mp z with z | z
    · exact n1 z
    · rcases List.mem_cons.mp z with z | z
      · exact n2 z
      · exact n3 z)
  have frm : ∀ a ∈ l.filterMap (·.frame), ∃ o, s.heap.get? a = some o ∧ (∀ vs, o.data ≠ .fields vs) ∧ ∃ sl, h'.get? a = some { o with slots := sl } := fun a ha => by
    obtain ⟨_, o, g, d⟩ := ff.1.mem ha
    exact ⟨o, g, d, hU a o g d⟩
  have hTf : T ∉ l.filterMap (·.frame) := fun z => by
    obtain ⟨o, _, d, sl, g⟩ := frm T z
    rw [gT] at g; cases g; exact d ts hdT
  have hTnew : T ∈ feet J ∨ s.heap.get? T = none := by
    cases q : s.heap.get? T with
    | none => exact .inr rfl
    | some o =>
      by_cases z : T ∈ feet J
      · exact .inl z
      · have := hideAll_get (l.filterMap (·.frame) ++ (e :: feet J)) q (fun y => by
          rcases List.mem_append.mp y with y | y
          · exact hTf y
          · rcases List.mem_cons.mp y with y | y
            · exact hTe y
            · exact z y)
        rw [hTn] at this; cases this
  have ownOff : ∀ a ∈ feet own, a ∉ l.filterMap (·.frame) ∧ a ≠ e ∧ a ∉ feet J := fun a ha => ⟨fun z => nfr a z (.tail _ (List.mem_append_right _ ha)), fun z => ne1 (z ▸ List.mem_append_right _ ha), fun z => fnd3 a z a ha rfl⟩
  have memF : ∀ a ∈ e :: feet J, a ∈ c.fr ++ (c.fx ++ feet ((e, AO.raw oe) :: (J ++ own))) := fun a ha => List.mem_append_right _ (List.mem_append_right _ (by
    rw [eft]
    rcases List.mem_cons.mp ha with z | z
    · exact z ▸ .head _
    · exact .tail _ (List.mem_append_left _ z)))
  have frOff : ∀ a ∈ c.fr, a ∉ (e :: feet J) := fun a ha z => (List.nodup_append.mp r.nd).2.2 a ha a (List.mem_append_right _ (by rw [eft]; rcases List.mem_cons.mp z with z | z; exact z ▸ .head _; exact .tail _ (List.mem_append_left _ z))) rfl
  have fxOff : ∀ a ∈ c.fx, a ∉ (e :: feet J) := fun a ha z => (List.nodup_append.mp (List.nodup_append.mp r.nd).2.1).2.2 a ha a (by rw [eft]; rcases List.mem_cons.mp z with z | z; exact z ▸ .head _; exact .tail _ (List.mem_append_left _ z)) rfl
  have KOff : ∀ a ∈ c.K, a ∉ (e :: feet J) := fun a ha z => (r.nk a (memF a z)).1 ha
  -- anything else: as it stood, up to the slots of frames
  have all : ∀ a o, a ∉ (e :: feet J) → s.heap.get? a = some o → ∃ sl, h'.get? a = some { o with slots := sl } := fun a o n g => by
    by_cases z : a ∈ l.filterMap (·.frame)
    · obtain ⟨o', g', _, sl, g2⟩ := frm a z
      rw [g] at g'; cases g'; exact ⟨sl, g2⟩
    · exact ⟨o.slots, kept a o z (fun y => n (y ▸ .head _)) (fun y => n (.tail _ y)) g⟩
  have spX : Sp (l.filterMap (·.frame)) (e :: feet J) s.heap h' := fun a o n g => ⟨fun k => kept a o k (fun y => n (y ▸ .head _)) (fun y => n (.tail _ y)) g, all a o n g⟩
  have nt1 : NoTup s.heap (e :: feet J) := fun a ha o g => r.toRep.noTup a (List.mem_append_right _ (by rw [eft]; rcases List.mem_cons.mp ha with z | z; exact z ▸ .head _; exact .tail _ (List.mem_append_left _ z))) o g
  have nt2 : NoTup s.heap (l.filterMap (·.frame)) := fun a ha o g => by
    rcases List.mem_append.mp (ff.2 a ha) with z | z
    · exact r.toRep.noTup a (List.mem_append_left _ z) o g
    · exact r.toRep.noTupK a z o g
  have hTfr : T ∉ c.fr ++ c.fx ++ c.K := fun z => by
    rcases hTnew with y | y
    · rcases List.mem_append.mp z with z | z
      · rcases List.mem_append.mp z with z | z
        · exact frOff T z (.tail _ y)
        · exact fxOff T z (.tail _ y)
      · exact KOff T z (.tail _ y)
    · have : ∃ o, s.heap.get? T = some o := by
        rcases List.mem_append.mp z with z | z
        · rcases List.mem_append.mp z with z | z
          · obtain ⟨o, g, _⟩ := r.frc T z; exact ⟨o, g⟩
          · obtain ⟨o, g, _⟩ := r.kh T (List.mem_append_right _ z); exact ⟨o, g⟩
        · obtain ⟨o, g, _⟩ := r.kh T (List.mem_append_left _ z); exact ⟨o, g⟩
      obtain ⟨o, g⟩ := this
      rw [y] at g; cases g
  have hTown : T ∉ feet own := fun z => by
    rcases hTnew with y | y
    · exact fnd3 T y T z rfl
    · obtain ⟨o, g⟩ := r.toRep.here T (List.mem_append_right _ (by rw [eft]; exact .tail _ (List.mem_append_right _ z)))
      rw [y] at g; cases g
  have hTb : c.b0.get? T = none := by
    rcases hTnew with y | y
    · exact (r.nk T (memF T (.tail _ y))).2
    · cases q : c.b0.get? T with
      | none => rfl
      | some o => have := r.kb T o q; rw [y] at this; cases this
  have eft2 : feet ((e, AO.raw oe') :: (T, AO.raw oT) :: own) = e :: T :: feet own := rfl
  refine ⟨T, oe', oT, X, ⟨⟨?_, r.lin, fun x a e1 e2 e3 => ?_, r.inj, fun p hp => ?_, ?_, fun a ha => ?_, fun a ha => ?_, fun a o g => ?_, r.kn, fun a ha => ?_, fun l' e1 => ?_⟩, r.tp⟩, ⟨rfl, fun a o n g => ⟨fun k => ?_, ?_⟩, fun a o n g => ?_, fun a ha => ?_⟩⟩
  · obtain ⟨m, hn, hlo⟩ := r.ns
    refine ⟨m, Ns.slots hn (fun o g => all _ o (frOff _ r.lin) g), fun x av ex => ?_⟩
    rcases hlo x av ex with ⟨i, v, j, k⟩ | ⟨i, a, v, j, k, n, q, t⟩
    · exact .inl ⟨i, v, j, k.mono spX nt1 nt2⟩
    · exact .inr ⟨i, a, v, j, k, n, IsCell.slots q (fun o g => all a o (k.elim (frOff a) (fxOff a)) g), t.mono spX nt1 nt2⟩
  · obtain ⟨n, v, q⟩ := r.cel x a e1 e2 e3
    exact ⟨n, v, IsCell.slots q fun o g => all a o (frOff a e3) g⟩
  · rcases List.mem_cons.mp hp with rfl | hp
    · exact ⟨ge, .of_cls (by rw [hcls]; intro z; exact hc.1 (Value.type.inj z)) (by rw [hcls]; intro z; exact hc.2 (Value.type.inj z))⟩
    · rcases List.mem_cons.mp hp with rfl | hp
      · exact ⟨gT, X.nt⟩
      · refine (r.own p (.tail _ (List.mem_append_right _ hp))).mono spX nt1 (nK := nt2) (hf := fun b hb => ?_)
        obtain ⟨z1, z2, z3⟩ := ownOff b (List.mem_flatMap.mpr ⟨p, hp, hb⟩)
        exact ⟨fun z => by rcases List.mem_cons.mp z with z | z; exact z2 z; exact z3 z, z1⟩
  · show (c.fr ++ (c.fx ++ feet ((e, AO.raw oe') :: (T, AO.raw oT) :: own))).Nodup
    rw [eft2]
    have nd := r.nd
    rw [eft] at nd
    obtain ⟨m1, m2, m3⟩ := List.nodup_append.mp nd
    obtain ⟨m4, m5, m6⟩ := List.nodup_append.mp m2
    have dis : ∀ a ∈ e :: T :: feet own, a ∉ c.fr ∧ a ∉ c.fx := fun a ha => by
      rcases List.mem_cons.mp ha with rfl | ha
      · exact ⟨fun z => frOff _ z (.head _), fun z => fxOff _ z (.head _)⟩
      · rcases List.mem_cons.mp ha with rfl | ha
        · exact ⟨fun z => hTfr (List.mem_append_left _ (List.mem_append_left _ z)), fun z => hTfr (List.mem_append_left _ (List.mem_append_right _ z))⟩
        · exact ⟨fun z => m3 a z a (List.mem_append_right _ (.tail _ (List.mem_append_right _ ha))) rfl, fun z => m6 a z a (.tail _ (List.mem_append_right _ ha)) rfl⟩
    refine List.nodup_append.mpr ⟨m1, List.nodup_append.mpr ⟨m4, ?_, fun a ha b hb z => (dis b hb).2 (z ▸ ha)⟩, fun a ha b hb z => ?_⟩
    · refine List.nodup_cons.mpr ⟨fun z => ?_, List.nodup_cons.mpr ⟨hTown, fnO⟩⟩
      rcases List.mem_cons.mp z with z | z
      · exact hTe z.symm
      · exact ne1 (List.mem_append_right _ z)
    · rcases List.mem_append.mp hb with y | y
      · exact m3 a ha b (List.mem_append_left _ y) z
      · exact (dis b y).1 (z ▸ ha)
  · rcases List.mem_append.mp ha with z | z
    · exact r.nk a (List.mem_append_left _ z)
    · rcases List.mem_append.mp z with z | z
      · exact r.nk a (List.mem_append_right _ (List.mem_append_left _ z))
      · rcases List.mem_cons.mp (show a ∈ e :: T :: feet own from z) with rfl | z
        · exact r.nk _ (memF _ (.head _))
        · rcases List.mem_cons.mp z with rfl | z
          · exact ⟨fun y => hTfr (List.mem_append_right _ y), hTb⟩
          · exact r.nk a (List.mem_append_right _ (List.mem_append_right _ (by rw [eft]; exact .tail _ (List.mem_append_right _ z))))
  · obtain ⟨o, g, t⟩ := r.frc a ha
    obtain ⟨sl, g'⟩ := all a o (frOff a ha) g
    exact ⟨_, g', t.slots sl⟩
  · refine hB a o (hideAll_get _ (r.kb a o g) fun z => ?_)
    rcases List.mem_append.mp z with z | z
    · rcases List.mem_append.mp (ff.2 a z) with y | y
      · have := (r.nk a (List.mem_append_left _ y)).2; rw [this] at g; cases g
      · have := r.kn a y; rw [this] at g; cases g
    · have := (r.nk a (memF a z)).2; rw [this] at g; cases g
  · obtain ⟨o, g, t⟩ := r.kh a ha
    have n : a ∉ (e :: feet J) := by
      rcases List.mem_append.mp ha with z | z
      · exact KOff a z
      · exact fxOff a z
    obtain ⟨sl, g'⟩ := all a o n g
    exact ⟨_, g', t.slots sl⟩
  · have e1 : c.A.frames = some l' := e1
    rw [hl] at e1; cases e1
    refine ⟨ffOf ff.1 fun b hb o g d => ?_, ff.2⟩
    obtain ⟨sl, g'⟩ := hU b o g d
    exact ⟨_, g', d⟩
  · have n' : a ∉ (e :: feet J) := fun z => n (List.mem_append_right _ (by rw [eft]; rcases List.mem_cons.mp z with z | z; exact z ▸ .head _; exact .tail _ (List.mem_append_left _ z)))
    refine kept a o (fun z => ?_) (fun y => n' (y ▸ .head _)) (fun y => n' (.tail _ y)) g
    rcases List.mem_append.mp (ff.2 a z) with y | y
    · exact n (List.mem_append_left _ y)
    · exact k y
  · exact all a o (fun z => n (List.mem_append_right _ (by rw [eft]; rcases List.mem_cons.mp z with z | z; exact z ▸ .head _; exact .tail _ (List.mem_append_left _ z)))) g
  · have n' : a ∉ (e :: feet J) := fun z => n (by rw [eft]; rcases List.mem_cons.mp z with z | z; exact z ▸ .head _; exact .tail _ (List.mem_append_left _ z))
    obtain ⟨sl, g'⟩ := all a o n' g
    exact ⟨_, g'⟩
  · rw [eft2] at ha
    rw [eft]
    rcases List.mem_cons.mp ha with rfl | ha
    · exact .inl (.head _)
    · rcases List.mem_cons.mp ha with rfl | ha
      · exact hTnew.imp (fun z => .tail _ (List.mem_append_left _ z)) id
      · exact .inl (.tail _ (List.mem_append_right _ ha))
end Mine

-- BN
namespace Mine
open PySem PySem.Calls PyProof.Rows PySem.W

/-- an exception just made -/
def NewSt (cls : String) (oe : Obj) : Prop := oe.cls = .type cls ∧ ∃ t, oe.data = .fields #[t, .none, .none, .none, .bool false, .none]
/-- an exception just made, then one that is told of -/
def XNew (cls : String) (Ψ : St → Prop) : XP := fun v σ _ => ∃ e oe own, v = .ref e ∧ σ.own = (e, .raw oe) :: own ∧ NewSt cls oe ∧ Ψ ⟨σ.loc, own⟩
def XAt (cls : String) (fl : Value) (Ψ : St → Prop) : XP := fun v σ _ => ∃ e T oe oT own, v = .ref e ∧ σ.own = (e, .raw oe) :: (T, .raw oT) :: own ∧ ExcSt cls fl e T oe oT ∧ Ψ ⟨σ.loc, own⟩

theorem bare_stays {h : Heap} {l : List Env} {J : List Addr} : (bare h l J).StaysIn h := fun a o g => of_hideAll _ g

/-- the frame that runs -/
structure On (c : Cx) (L : Addr) : Prop where
  fr : ∃ outer, c.A.frames = some (c.env :: outer)
  at_ : c.env.frame = some L

theorem ExcSt.traced {cls : String} {fl : Value} {e T : Addr} {oe oT : Obj} {h base : Heap} (x : ExcSt cls fl e T oe oT) (ge : h.get? e = some oe) (gT : h.get? T = some oT) (hne : T ≠ e) (hb : base.get? T = none) :
    ∃ a0, h.TracedAtW base e (.type cls) a0 fl := by
  obtain ⟨vs, a0, d, h0, h1⟩ := x.d
  obtain ⟨ts, dT, h3⟩ := x.t
  exact ⟨a0, oe, vs, T, oT, ts, ge, ⟨x.c, h0⟩, d, h1, hb, hne, gT, dT, h3⟩

section
variable {c : Cx} {v : Value} {σ : St} {s : Shared} {cls : String} {Ψ : St → Prop} {L : Addr} {Q : Unit → Shared → Prop} {E : Value → Shared → Prop}

theorem noteNew (on : On c L) (hc : cls ≠ "tuple" ∧ cls ≠ "range") (r : RepS c σ s) (y : XNew cls Ψ v σ s)
    (k : ∀ σ' s', RepS c σ' s' → Aft c σ s σ' s' → XAt cls (rawInt L) Ψ v σ' s' → Q () s') : wpAny (model c.prog c.w) c.A (noteFrame v c.env) Q E s := by
  obtain ⟨e, oe, own, rfl, eo, ⟨hcls, t, hd⟩, hψ⟩ := y
  obtain ⟨loc, own'⟩ := σ
  cases eo
  obtain ⟨⟨outer, hfr⟩, hf⟩ := on
  have ge : s.heap.get? e = some oe := (r.own _ (.head _)).1
  unfold noteFrame
  simp only [hf]
  refine wpAny_bind (wpAny_field ge hd (x := .none) rfl ?_)
  rw [if_neg (by decide)]
  refine wpAny_entryW (base := bare s.heap (c.env :: outer) (e :: feet [])) hfr (bare_ff (r.ff _ hfr).1 fun _ h => h) hf ge bare_stays (hideAll_none _ (List.mem_append_right _ (.head _))) hd (by simp) (a0 := t) rfl fun h' N => ?_
  obtain ⟨n1, n2, n3, n4⟩ := N
  rw [hcls] at n3
  obtain ⟨T, oe', oT, X, r', f⟩ := excTurn (J := []) r hfr hc n1 n4 n3
  exact k _ _ r' f ⟨e, T, oe', oT, own, rfl, rfl, X, hψ⟩

theorem pairNe {e T : Addr} {oe oT : Obj} {own : List (Addr × AO)} {loc : List (String × AV)} {h : Heap} (r : Rep c ⟨loc, (e, .raw oe) :: (T, .raw oT) :: own⟩ h) : T ≠ e := fun z => by
  have := r.feetNodup
  have := (List.nodup_cons.mp this).1
  exact this (z ▸ .head _)

theorem noteFly (on : On c L) (hc : cls ≠ "tuple" ∧ cls ≠ "range") (r : RepS c σ s) (y : XAt cls .none Ψ v σ s)
    (k : ∀ σ' s', RepS c σ' s' → Aft c σ s σ' s' → XAt cls (rawInt L) Ψ v σ' s' → Q () s') : wpAny (model c.prog c.w) c.A (noteFrame v c.env) Q E s := by
  obtain ⟨e, T, oe, oT, own, rfl, eo, X, hψ⟩ := y
  obtain ⟨loc, own'⟩ := σ
  cases eo
  obtain ⟨⟨outer, hfr⟩, hf⟩ := on
  have ge : s.heap.get? e = some oe := (r.own _ (.head _)).1
  have gT : s.heap.get? T = some oT := (r.own _ (.tail _ (.head _))).1
  obtain ⟨a0, ht⟩ := X.traced (base := bare s.heap (c.env :: outer) (e :: feet [(T, AO.raw oT)])) ge gT (pairNe r.toRep) (hideAll_none _ (List.mem_append_right _ (.tail _ (.head _))))
  refine wpAny_noteFrame_onW hfr (bare_ff (r.ff _ hfr).1 fun _ h => h) hf ht bare_stays (hideAll_none _ (List.mem_append_right _ (.head _))) fun h' N => ?_
  obtain ⟨n1, n2, n3, n4⟩ := N
  obtain ⟨T', oe', oT', X', r', f⟩ := excTurn (J := [(T, AO.raw oT)]) r hfr hc n1 n4 n3
  exact k _ _ r' f ⟨e, T', oe', oT', own, rfl, rfl, X', hψ⟩

theorem noteAgain (hf : c.env.frame = some L) (r : RepS c σ s) (y : XAt cls (rawInt L) Ψ v σ s) (k : Q () s) : wpAny (model c.prog c.w) c.A (noteFrame v c.env) Q E s := by
  obtain ⟨e, T, oe, oT, own, rfl, eo, X, hψ⟩ := y
  obtain ⟨loc, own'⟩ := σ
  cases eo
  have ge : s.heap.get? e = some oe := (r.own _ (.head _)).1
  have gT : s.heap.get? T = some oT := (r.own _ (.tail _ (.head _))).1
  obtain ⟨a0, ht⟩ := X.traced (base := Heap.hide s.heap T) ge gT (pairNe r.toRep) (hideAll_none [T] (h := s.heap) (.head _))
  exact wpAny_noteFrame_againW hf ht k

/-- a flight set or ended -/
theorem flight {fl : Value} {fr : Option Addr} (hl : ∃ l, c.A.frames = some l) (hc : cls ≠ "tuple" ∧ cls ≠ "range") (r : RepS c σ s) (y : XAt cls fl Ψ v σ s)
    (k : ∀ σ' s', RepS c σ' s' → Aft c σ s σ' s' → XAt cls (fr.elim .none fun f => rawInt f) Ψ v σ' s' → Q () s') : wpAny (model c.prog c.w) c.A (setFlight v fr) Q E s := by
  obtain ⟨e, T, oe, oT, own, rfl, eo, X, hψ⟩ := y
  obtain ⟨loc, own'⟩ := σ
  cases eo
  obtain ⟨l, hl⟩ := hl
  have ge : s.heap.get? e = some oe := (r.own _ (.head _)).1
  have gT : s.heap.get? T = some oT := (r.own _ (.tail _ (.head _))).1
  have hTe := pairNe r.toRep
  obtain ⟨vs, a0, d, h0, h1⟩ := X.d
  obtain ⟨ts, dT, h3⟩ := X.t
  have hsz3 : 3 < ts.size := (Array.getElem?_eq_some_iff.mp h3).1
  have other : ∀ b, b ≠ T → (s.heap.update T (Obj.mapFields (·.setIfInBounds 3 (fr.elim .none fun f => rawInt f)))).get? b = s.heap.get? b :=
    fun b hb => Heap.get?_update_other _ _ (Ne.symm hb)
  unfold setFlight
  refine wpAny_bind (wpAny_field ge d h1 ?_)
  rw [if_pos (show (Value.ref T != Value.none) = true from by simp)]
  refine wpAny_setField gT dT hsz3 ?_
  have gT' := Heap.get?_update_self (Obj.mapFields (·.setIfInBounds 3 (fr.elim .none fun f => rawInt f))) gT (Obj.isFreed_of_fields (Obj.data_mapFields dT _))
  have hTn : (bare s.heap l (e :: feet [(T, AO.raw oT)])).get? T = none := hideAll_none _ (List.mem_append_right _ (.tail _ (.head _)))
  obtain ⟨T', oe', oT', X', r', f⟩ := excTurn (J := [(T, AO.raw oT)]) (h' := s.heap.update T (Obj.mapFields (·.setIfInBounds 3 (fr.elim .none fun f => rawInt f)))) (cls := cls) (a0 := a0) (fl := fr.elim .none fun f => rawInt f) r hl hc
    (fun b o hb => (other b fun q => by rw [q] at hb; rw [hTn] at hb; cases hb).trans (bare_stays b o hb))
    (fun b o hb hn => ⟨o.slots, (other b fun q => by rw [q, gT] at hb; cases hb; exact hn ts dT).trans hb⟩)
    ⟨oe, vs, T, _, _, (other e (Ne.symm hTe)).trans ge, ⟨X.c, h0⟩, d, h1, hideAll_none _ (List.mem_append_right _ (.tail _ (.head _))), hTe, gT', Obj.data_mapFields dT _, by simp [hsz3]⟩
  exact k _ _ r' f ⟨e, T', oe', oT', own, rfl, rfl, X', hψ⟩

theorem XAt.field1 {fl : Value} (r : RepS c σ s) (y : XAt cls fl Ψ v σ s) {Q : Value → Shared → Prop} (k : ∀ T, Q (.ref T) s) : wpAny (model c.prog c.w) c.A (field v 1) Q E s := by
  obtain ⟨e, T, oe, oT, own, rfl, eo, X, hψ⟩ := y
  obtain ⟨loc, own'⟩ := σ
  cases eo
  obtain ⟨vs, a0, d, h0, h1⟩ := X.d
  exact wpAny_field (r.own _ (.head _)).1 d h1 (k T)

/-- out of a loop -/
theorem Pass.new (on : On c L) (hc : cls ≠ "tuple" ∧ cls ≠ "range") : Pass c (XNew cls Ψ) (XAt cls (rawInt L) Ψ) := fun e σ s E r y x => by
  refine noteNew on hc r y fun σ' s' r' f y' => ?_
  unfold cameBackBy
  refine wpAny_bind (y'.field1 r' fun T => ?_)
  rw [if_neg (by simp)]
  rw [on.at_]
  obtain ⟨outer, hfr⟩ := on.fr
  exact flight ⟨_, hfr⟩ hc r' y' fun σ₂ s₂ r₂ f₂ y₂ => x e σ₂ s₂ r₂ (f.trans f₂) y₂

/-- out of a function -/
theorem leave (on : On c L) (hc : cls ≠ "tuple" ∧ cls ≠ "range") (r : RepS c σ s) (y : XNew cls Ψ v σ s ∨ XAt cls (rawInt L) Ψ v σ s)
    (k : ∀ σ' s', RepS c σ' s' → Aft c σ s σ' s' → XAt cls .none Ψ v σ' s' → Q () s') : wpAny (model c.prog c.w) c.A (leaving c.env v) Q E s := by
  obtain ⟨outer, hfr⟩ := on.fr
  unfold leaving
  rcases y with y | y
  · refine wpAny_bind (noteNew on hc r y fun σ' s' r' f y' => ?_)
    exact flight (fr := none) ⟨_, hfr⟩ hc r' y' fun σ₂ s₂ r₂ f₂ y₂ => k σ₂ s₂ r₂ (f.trans f₂) y₂
  · exact wpAny_bind (noteAgain on.at_ r y (flight (fr := none) ⟨_, hfr⟩ hc r y k))
end
end Mine

-- BO
namespace Mine
open PySem PySem.Calls PyProof.Rows PySem.W

/-- the promise of a callee that may raise -/
def FunX (prog : Program) (w : World) (b0 : Heap) (z : Bool) (n : Nat) (f : Value) (args : List AV) (own : List (Addr × AO)) (Φ : AV → List (Addr × AO) → Prop) (cls : String) (Ψ : List (Addr × AO) → Prop) : Prop :=
  ∀ (A : Around) (env : Env) (fr fx K : List Addr) (loc : List (String × AV)), Good z n (cx prog w b0 A env fr fx K) →
    ∀ vs, TriW (cx prog w b0 A env fr fx K) (fun h => VRs h args vs) (runs prog w A (.call f ⟨vs, []⟩)) VR ⟨loc, own⟩ (fun av σ' => σ'.loc = loc ∧ Φ av σ'.own) (XAt cls .none fun σ' => σ'.loc = loc ∧ Ψ σ'.own)

theorem FunX.use {prog : Program} {w : World} {b0 : Heap} {z : Bool} {n : Nat} {f : Value} {args : List AV} {own R : List (Addr × AO)} {Ψ : AV → List (Addr × AO) → Prop} {cls : String} {Θ : List (Addr × AO) → Prop} (F : FunX prog w b0 z n f args own Ψ cls Θ)
    {A : Around} {env : Env} {fr fx K : List Addr} {loc : List (String × AV)} {Φ : AV → St → Prop} {X : XP} (g : Good z n (cx prog w b0 A env fr fx K))
    (k : ∀ av own', Ψ av own' → Φ av ⟨loc, own' ++ R⟩) (x : ∀ v σ s, XAt cls .none (fun σ' => σ'.loc = loc ∧ ∃ o, σ'.own = o ++ R ∧ Θ o) v σ s → X v σ s) : Cal (cx prog w b0 A env fr fx K) f args ⟨loc, own ++ R⟩ Φ X := fun vs =>
  Tri.frame (fun s r p Q E q y => wpAny_call (F A env fr fx K loc g vs s r p.1 Q E (fun v av σ' s' r' f' vv h => by
    obtain ⟨loc', own'⟩ := σ'
    obtain ⟨rfl, h⟩ := h
    exact q v av _ s' r' f' vv (k av own' h)) (fun e σ' s' r' f' h => by
    obtain ⟨e, T, oe, oT, o, rfl, eo, X, hl, hψ⟩ := h
    refine y _ σ' s' r' f' (x _ _ _ ⟨e, T, oe, oT, o ++ R, rfl, ?_, X, hl, o, rfl, hψ⟩)
    show σ'.own ++ R = _
    rw [eo]; rfl)))

theorem FunX.introG {prog : Program} {w : World} {b0 : Heap} {z : Bool} {n : Nat} {fa : Addr} {fo : Obj} {fd : FuncData} {body : List Stmt} {ps : List String} {args : List AV} {own : List (Addr × AO)} {Φ : AV → List (Addr × AO) → Prop} {cls : String} {Ψ : List (Addr × AO) → Prop} {Ω : Cx → Fl → St → Prop}
    (ho : b0.get? fa = some fo) (hd : fo.data = .func fd) (hbody : fd.body = .stmts body) (hclo : fd.closure = []) (hcd : b0.CodeRec fd.code fd.qualname) (hlim : b0.NoLimit)
    (hbind : ∀ vs : List Value, vs.length = args.length → bindArgs fd ⟨vs, []⟩ = pure ((ps.map Str.ofString).zip vs)) (hps : ps.length = args.length) (hnd : ps.Nodup) (hcn : ((cellsFrom 0 fd.scope.names []).map (·.1)).Nodup)
    (hkb : (ps.all fun x => fd.scope.names.lookup (Str.ofString x) == some .local || fd.scope.names.lookup (Str.ofString x) == some .cell) = true)
    (h : ∀ (A : Around) (L : Addr) (K : List Addr), Good z n (cx prog w b0 (A.deeper (callEnvC fd L fa)) (callEnvC fd L fa) (L :: (callEnvC fd L fa).cells.map (·.2)) [] K) →
      On (cx prog w b0 (A.deeper (callEnvC fd L fa)) (callEnvC fd L fa) (L :: (callEnvC fd L fa).cells.map (·.2)) [] K) L →
      Exs (cx prog w b0 (A.deeper (callEnvC fd L fa)) (callEnvC fd L fa) (L :: (callEnvC fd L fa).cells.map (·.2)) [] K) body ⟨ps.zip args, own⟩ (Ω (cx prog w b0 (A.deeper (callEnvC fd L fa)) (callEnvC fd L fa) (L :: (callEnvC fd L fa).cells.map (·.2)) [] K)) fun v σ s => XNew cls (fun σ => Ψ σ.own) v σ s ∨ XAt cls (rawInt L) (fun σ => Ψ σ.own) v σ s)
    (hfin : ∀ (c : Cx) fl σ' h', Rep c σ' h' → Ω c fl σ' → ∃ own', Φ (retv fl) own' ∧ (∀ p ∈ own', OR h' p.1 p.2) ∧ (feet own').Nodup ∧ ∀ a ∈ feet own', a ∈ feet σ'.own ∨ a ∈ c.fr)
    (hc : cls ≠ "tuple" ∧ cls ≠ "range") (hco : fd.scope.isCoroutine = false := by rfl) (hgen : fd.scope.isGenerator = false := by rfl) (hk : fd.scope.kind = .function := by rfl) : FunX prog w b0 z (n + 1) (.ref fa) args own Φ cls Ψ := by
  have hkind : ∀ x ∈ ps, fd.scope.names.lookup (Str.ofString x) = some .local ∨ (fd.scope.names.lookup (Str.ofString x) = some .cell ∧ ∀ n, ((cellsFrom n fd.scope.names []).lookup (Str.ofString x)).isSome = true) := by
    intro x hx
    have := List.all_eq_true.mp hkb x hx
    rw [Bool.or_eq_true] at this
    refine this.imp eq_of_beq fun q => ⟨eq_of_beq q, fun n => cellsFrom_some _ _ _ (.inl (eq_of_beq q))⟩
  intro A env fr fx K loc g vs s r hv Q E q' x'
  refine codeAny_with_toks (n := 1) r.tp ?_
  have q : KqH (cx prog w b0 A env fr fx K) ⟨loc, own⟩ s VR (fun av σ' => σ'.loc = loc ∧ Φ av σ'.own) (fun v s' => 1 ≤ s'.toks → Q v s') := fun a y σ' s' r' f v φ tk => q' a y σ' s' ⟨r', tk⟩ f v φ
  have hlen := hv.length
  obtain ⟨l, hl, hlK⟩ := g.fr
  have hl : A.frames = some l := hl
  have gd : A.depth + (n + 1) < recursionLimit := g.dp
  have gu : A.units + 20 * (n + 1) < cLine := g.un
  refine codeAny_call_function (by show A.depth < recursionLimit; omega) (r.kb _ _ ho) hd hco hgen hbody (hcd.keeps r.kb) ?_
  rw [hbind vs hlen, hclo]
  have hzn : (((ps.map Str.ofString).zip vs).map (·.1)).Nodup := by
    have e : ((ps.map Str.ofString).zip vs).map (·.1) = ps.map Str.ofString := by
      have := List.map_fst_zip (l₁ := ps.map Str.ofString) (l₂ := vs) (by rw [List.length_map]; omega)
      exact this
    rw [e]
    exact List.pairwise_map.mpr (hnd.imp fun ne e => ne (ofString_inj e))
  have hkz : ∀ x ∈ (ps.map Str.ofString).zip vs, fd.scope.names.lookup x.1 = some .local ∨ (fd.scope.names.lookup x.1 = some .cell ∧ ((cellsFrom (s.heap.objs.size + 1) fd.scope.names []).lookup x.1).isSome = true) := by
    intro x hx
    obtain ⟨y, hy, e⟩ := List.mem_map.mp (List.of_mem_zip hx).1
    rw [← e]
    exact (hkind y hy).imp id fun q => ⟨q.1, q.2 _⟩
  refine wpAny_pure (wpAny_with_toks r.tp (wpAny_newFunctionEnv_cells hk hkz fun env' he s' x => fun htk => ?_))
  subst he
  refine ⟨(hlim.keeps r.kb).keeps x.toInCall.keep, codeAny_func ?_⟩
  obtain ⟨h₁, tk, rfl⟩ := x.toInCall.same
  have hk₁ := x.toInCall.keep
  have hb0 : ∀ a, s.heap.get? a = none → b0.get? a = none := fun a e => by
    cases q : b0.get? a with
    | none => rfl
    | some o => have : s.heap.get? a = some o := r.kb a o q; rw [e] at this; cases this
  have hLn : s.heap.get? s.heap.objs.size = none := Heap.get?_none_of_le (Nat.le_refl _)
  -- the new frame
  have hfrn : ∀ a ∈ s.heap.objs.size :: (callEnvC fd s.heap.objs.size fa).cells.map (·.2), s.heap.get? a = none := by
    intro a ha
    rcases List.mem_cons.mp ha with rfl | ha
    · exact hLn
    · obtain ⟨p, hp, rfl⟩ := List.mem_map.mp ha
      exact Heap.get?_none_of_le (Nat.le_of_lt (x.above p.1 p.2 hp))
  have fll : ∀ a ∈ l.filterMap (·.frame), a ∈ fr ++ K := (r.ff l hl).2
  have exK : ∀ a ∈ l.filterMap (·.frame), ∃ o, s.heap.get? a = some o ∧ NT o := fun a ha => by
    rcases List.mem_append.mp (fll a ha) with z | z
    · exact r.frc a z
    · exact r.kh a (List.mem_append_left _ z)
  have hnf : ∀ a ∈ l.filterMap (·.frame), a ∉ feet own := r.nfr l hl
  have hKb : ∀ a ∈ l.filterMap (·.frame), b0.get? a = none := fun a ha => by
    rcases List.mem_append.mp (fll a ha) with z | z
    · exact (r.nk a (List.mem_append_left _ z)).2
    · exact r.kn a z
  have sp0 : Sp [] [] s.heap h₁ := Sp.of_keep fun a o _ e => hk₁ a o e
  have ex : ∀ a ∈ feet own, ∃ o, s.heap.get? a = some o := fun a ha => r.here a (List.mem_append_right _ ha)
  have cellIs : ∀ y a, (callEnvC fd s.heap.objs.size fa).cells.lookup y = some a → a ≠ s.heap.objs.size ∧ ∃ v, h₁.IsCell a v := fun y a e =>
    ⟨Nat.ne_of_gt (x.above y a (mem_of_lookup e)), _, x.cell y a e⟩
  have R0 : Rep (cx prog w b0 (A.deeper (callEnvC fd s.heap.objs.size fa)) (callEnvC fd s.heap.objs.size fa) (s.heap.objs.size :: (callEnvC fd s.heap.objs.size fa).cells.map (·.2)) [] (l.filterMap (·.frame))) ⟨ps.zip args, own⟩ h₁ := by
    refine ⟨⟨_, x.toInCall.ns, fun y av e => ?_⟩, List.mem_cons_self, fun y a _ e2 _ => cellIs _ a e2, fun y y' a e1 e2 => ?_, fun p hp => ?_, ?_, fun a ha => ?_, fun a ha => ?_, fun a o e => hk₁ a o (r.kb a o e), hKb, fun a ha => ?_, fun l' e => ?_⟩
    · obtain ⟨v, hm, hvv⟩ := zip_lookup hv e
      have hm' := (List.of_mem_zip hm).1
      obtain ⟨y', hy, e'⟩ := List.mem_map.mp hm'
      have ey := ofString_inj e'; subst ey
      rcases hkind y' hy with q | ⟨q, qs⟩
      · exact .inl ⟨q, v, bindL_on hzn hm q, hvv.mono sp0 NoTup.nil⟩
      · obtain ⟨a, ha⟩ := Option.isSome_iff_exists.mp (qs (s.heap.objs.size + 1))
        have hc := x.cell _ a ha
        rw [bindC_on hzn hm (by show Env.kindOf _ _ ≠ _; intro e3; have e4 : fd.scope.names.lookup (Str.ofString y') = some .local := e3; rw [q] at e4; cases e4)] at hc
        exact .inr ⟨.inl q, a, v, ha, .inl (.tail _ (List.mem_map.mpr ⟨_, mem_of_lookup ha, rfl⟩)), (cellIs _ a ha).1, hc, hvv.mono sp0 NoTup.nil⟩
    · exact ofString_inj (name_of_addr x.apart (mem_of_lookup e1) (mem_of_lookup e2))
    · exact (r.own p hp).mono sp0 NoTup.nil fun b _ => ⟨by simp, by simp⟩
    · have ap : ((callEnvC fd s.heap.objs.size fa).cells.map (·.2)).Nodup := List.pairwise_map.mpr x.apart
      refine List.nodup_append.mpr ⟨List.nodup_cons.mpr ⟨fun z => ?_, ap⟩, by simpa using r.feetNodup, fun a ha b hb => ?_⟩
      · obtain ⟨p, hp, e⟩ := List.mem_map.mp z
        exact absurd e (Nat.ne_of_gt (x.above p.1 p.2 hp))
      · rintro rfl
        obtain ⟨o, e⟩ := ex a (by simpa using hb)
        rw [hfrn a ha] at e; cases e
    · rcases List.mem_append.mp ha with z | z
      · refine ⟨fun k => ?_, hb0 a (hfrn a z)⟩
        obtain ⟨o, e, _⟩ := exK a k; rw [hfrn a z] at e; cases e
      · have z : a ∈ feet own := by simpa using z
        exact ⟨fun k => hnf a k z, (r.nk a (List.mem_append_right _ (List.mem_append_right _ z))).2⟩
    · rcases List.mem_cons.mp ha with rfl | ha
      · obtain ⟨o, es, ep, g, d, _⟩ := x.toInCall.ns
        exact ⟨o, g, .of_dict d⟩
      · obtain ⟨p, hp, rfl⟩ := List.mem_map.mp ha
        have hlk : (callEnvC fd s.heap.objs.size fa).cells.lookup p.1 = some p.2 := lookup_of_mem_nodup (cellsFrom_names fd.scope.names 0 (s.heap.objs.size + 1) [] [] rfl ▸ hcn) hp
        obtain ⟨_, v, o, g, d⟩ := cellIs p.1 p.2 hlk
        exact ⟨o, g, .of_cell d⟩
    · have ha : a ∈ l.filterMap (·.frame) := by simpa using ha
      obtain ⟨o, e, t⟩ := exK a ha
      exact ⟨o, hk₁ a o e, t⟩
    · have e : (A.deeper (callEnvC fd s.heap.objs.size fa)).frames = some l' := e
      have e2 : (A.deeper (callEnvC fd s.heap.objs.size fa)).frames = some (callEnvC fd s.heap.objs.size fa :: l) := by
        show A.frames.map _ = _; rw [hl]; rfl
      rw [e2] at e; cases e
      refine ⟨⟨by show fd.scope.kind ≠ .module; rw [hk]; decide, ⟨s.heap.objs.size, ?_⟩, ?_⟩, fun a ha => ?_⟩
      · obtain ⟨o, es, ep, g, d, _⟩ := x.toInCall.ns
        exact ⟨o, rfl, hb0 _ hLn, g, by rw [d]; intro vs; simp⟩
      · exact (r.ff l hl).1.of_keeps fun b o g _ => ⟨o, hk₁ b o g, rfl⟩
      · rw [List.filterMap_cons] at ha
        rcases List.mem_cons.mp ha with rfl | ha
        · exact .head _
        · exact List.mem_append_right _ ha
  have G' : Good z n (cx prog w b0 (A.deeper (callEnvC fd s.heap.objs.size fa)) (callEnvC fd s.heap.objs.size fa) (s.heap.objs.size :: (callEnvC fd s.heap.objs.size fa).cells.map (·.2)) [] (l.filterMap (·.frame))) :=
    ⟨g.hd, by show A.depth + 1 + n < recursionLimit; omega, by show A.units + 3 + 20 * n < cLine; omega, hk, ⟨callEnvC fd s.heap.objs.size fa :: l, by show A.frames.map _ = _; rw [hl]; rfl, fun a ha => by
      rw [List.filterMap_cons] at ha
      rcases List.mem_cons.mp ha with rfl | ha
      · exact .inl rfl
      · exact .inr ha⟩⟩
  have O' : On (cx prog w b0 (A.deeper (callEnvC fd s.heap.objs.size fa)) (callEnvC fd s.heap.objs.size fa) (s.heap.objs.size :: (callEnvC fd s.heap.objs.size fa).cells.map (·.2)) [] (l.filterMap (·.frame))) s.heap.objs.size := ⟨⟨l, by show A.frames.map _ = _; rw [hl]; rfl⟩, rfl⟩
  refine h A s.heap.objs.size (l.filterMap (·.frame)) G' O' { s with heap := h₁, toks := tk } ⟨R0, htk⟩ trivial _ _ (fun f fl σ' s' r' f' e hφ => ?_) ?_
  case refine_2 =>
    intro e σ₁ s₁ r₁ f₁ y₁
    refine leave O' hc r₁ y₁ fun σ' s' r' f₂ y => ?_
    have f' := f₁.trans f₂
    obtain ⟨e, T, oe, oT, own2, rfl, eo, X, hψ⟩ := y
    have spK : Sp (l.filterMap (·.frame)) ((s.heap.objs.size :: (callEnvC fd s.heap.objs.size fa).cells.map (·.2)) ++ feet own) s.heap s'.heap := by
      intro a o hn e1
      exact f'.sp a o hn (hk₁ a o e1)
    have rest' : s' = { s with heap := s'.heap, toks := s'.toks } := by have := f'.rest; rw [this]
    obtain ⟨rb, fb⟩ := r.toRep.back (own' := σ'.own) rest' spK hfrn fll (fun a o n e1 => f'.al a o n (hk₁ a o e1)) r'.own r'.feetNodup (fun a ha => by
        refine (f'.fs a ha).imp id fun e1 => ?_
        cases q : s.heap.get? a with
        | none => rfl
        | some o => have := hk₁ a o q; rw [show ({ s with heap := h₁, toks := tk } : Shared).heap = h₁ from rfl] at e1; rw [e1] at this; cases this) (fun a o e1 => r'.kb a o e1)
    exact fun tk => x' _ ⟨loc, σ'.own⟩ s' ⟨rb, tk⟩ fb ⟨e, T, oe, oT, own2, rfl, eo, X, rfl, hψ⟩
  have spK : Sp (l.filterMap (·.frame)) ((s.heap.objs.size :: (callEnvC fd s.heap.objs.size fa).cells.map (·.2)) ++ feet own) s.heap s'.heap := by
    intro a o hn e1
    exact f'.sp a o hn (hk₁ a o e1)
  have rest' : s' = { s with heap := s'.heap, toks := s'.toks } := by have := f'.rest; rw [this]
  obtain ⟨own', hφ', ho', hn', hf'⟩ := hfin _ fl σ' s'.heap r'.toRep hφ
  obtain ⟨rb, fb⟩ := r.toRep.back (own' := own') rest' spK hfrn fll (fun a o n e1 => f'.al a o n (hk₁ a o e1)) ho' hn' (fun a ha => by
      rcases hf' a ha with z | z
      · refine (f'.fs a z).imp id fun e1 => ?_
        cases q : s.heap.get? a with
        | none => rfl
        | some o => have := hk₁ a o q; rw [show ({ s with heap := h₁, toks := tk } : Shared).heap = h₁ from rfl] at e1; rw [e1] at this; cases this
      · exact .inr (hfrn a z)) (fun a o e1 => r'.kb a o e1)
  refine q _ (retv fl) ⟨loc, own'⟩ s' rb fb ?_ ⟨rfl, hφ'⟩
  cases fl with
  | next => cases e; exact VR.mkNone
  | brk => cases e; exact VR.mkNone
  | cont => cases e; exact VR.mkNone
  | ret av => obtain ⟨v, rfl, hv⟩ := e; exact hv

theorem FunX.toFun {prog : Program} {w : World} {b0 : Heap} {z : Bool} {n : Nat} {f : Value} {args : List AV} {own : List (Addr × AO)} {Φ : AV → List (Addr × AO) → Prop} {cls : String} (F : FunX prog w b0 z n f args own Φ cls (fun _ => False)) : Fun prog w b0 z n f args own Φ :=
  fun A env fr fx K loc g vs X s r p Q E q x => F A env fr fx K loc g vs s r p Q E q (fun e σ' s' r' f' h => by
    obtain ⟨e, T, oe, oT, o, rfl, eo, X, hl, hψ⟩ := h
    exact hψ.elim)
theorem Tri.lift {α β : Type} {c : Cx} {P : Heap → Prop} {t : Sem α} {V : Heap → β → α → Prop} {σ : St} {Φ : β → St → Prop} {X : XP} (h : Tri c P t V σ Φ noX) : Tri c P t V σ Φ X :=
  fun s r p Q E q x => h s r p Q E q (fun _ _ _ _ _ y => y.elim)

theorem Fun.introG {prog : Program} {w : World} {b0 : Heap} {z : Bool} {n : Nat} {fa : Addr} {fo : Obj} {fd : FuncData} {body : List Stmt} {ps : List String} {args : List AV} {own : List (Addr × AO)} {Φ : AV → List (Addr × AO) → Prop} {Ω : Cx → Fl → St → Prop}
    (ho : b0.get? fa = some fo) (hd : fo.data = .func fd) (hbody : fd.body = .stmts body) (hclo : fd.closure = []) (hcd : b0.CodeRec fd.code fd.qualname) (hlim : b0.NoLimit)
    (hbind : ∀ vs : List Value, vs.length = args.length → bindArgs fd ⟨vs, []⟩ = pure ((ps.map Str.ofString).zip vs)) (hps : ps.length = args.length) (hnd : ps.Nodup) (hcn : ((cellsFrom 0 fd.scope.names []).map (·.1)).Nodup)
    (hkb : (ps.all fun x => fd.scope.names.lookup (Str.ofString x) == some .local || fd.scope.names.lookup (Str.ofString x) == some .cell) = true)
    (h : ∀ (A : Around) (L : Addr) (K : List Addr), Good z n (cx prog w b0 (A.deeper (callEnvC fd L fa)) (callEnvC fd L fa) (L :: (callEnvC fd L fa).cells.map (·.2)) [] K) →
      Exs (cx prog w b0 (A.deeper (callEnvC fd L fa)) (callEnvC fd L fa) (L :: (callEnvC fd L fa).cells.map (·.2)) [] K) body ⟨ps.zip args, own⟩ (Ω (cx prog w b0 (A.deeper (callEnvC fd L fa)) (callEnvC fd L fa) (L :: (callEnvC fd L fa).cells.map (·.2)) [] K)) noX)
    (hfin : ∀ (c : Cx) fl σ' h', Rep c σ' h' → Ω c fl σ' → ∃ own', Φ (retv fl) own' ∧ (∀ p ∈ own', OR h' p.1 p.2) ∧ (feet own').Nodup ∧ ∀ a ∈ feet own', a ∈ feet σ'.own ∨ a ∈ c.fr)
    (hco : fd.scope.isCoroutine = false := by rfl) (hgen : fd.scope.isGenerator = false := by rfl) (hk : fd.scope.kind = .function := by rfl) : Fun prog w b0 z (n + 1) (.ref fa) args own Φ :=
  FunX.toFun (cls := "IndexError") (FunX.introG (Ω := Ω) ho hd hbody hclo hcd hlim hbind hps hnd hcn hkb (fun A L K g _ => (h A L K g).lift) hfin (by decide) hco hgen hk)

theorem Fun.intro {prog : Program} {w : World} {b0 : Heap} {z : Bool} {n : Nat} {fa : Addr} {fo : Obj} {fd : FuncData} {body : List Stmt} {ps : List String} {args : List AV} {own : List (Addr × AO)} {Φ : AV → List (Addr × AO) → Prop}
    (ho : b0.get? fa = some fo) (hd : fo.data = .func fd) (hbody : fd.body = .stmts body) (hclo : fd.closure = []) (hcd : b0.CodeRec fd.code fd.qualname) (hlim : b0.NoLimit)
    (hbind : ∀ vs : List Value, vs.length = args.length → bindArgs fd ⟨vs, []⟩ = pure ((ps.map Str.ofString).zip vs)) (hps : ps.length = args.length) (hnd : ps.Nodup) (hcn : ((cellsFrom 0 fd.scope.names []).map (·.1)).Nodup)
    (hkb : (ps.all fun x => fd.scope.names.lookup (Str.ofString x) == some .local || fd.scope.names.lookup (Str.ofString x) == some .cell) = true)
    (h : ∀ (A : Around) (L : Addr) (K : List Addr), Good z n (cx prog w b0 (A.deeper (callEnvC fd L fa)) (callEnvC fd L fa) (L :: (callEnvC fd L fa).cells.map (·.2)) [] K) →
      Exs (cx prog w b0 (A.deeper (callEnvC fd L fa)) (callEnvC fd L fa) (L :: (callEnvC fd L fa).cells.map (·.2)) [] K) body ⟨ps.zip args, own⟩ (fun fl σ' => Φ (retv fl) σ'.own) noX)
    (hco : fd.scope.isCoroutine = false := by rfl) (hgen : fd.scope.isGenerator = false := by rfl) (hk : fd.scope.kind = .function := by rfl) : Fun prog w b0 z (n + 1) (.ref fa) args own Φ :=
  Fun.introG (Ω := fun _ fl σ' => Φ (retv fl) σ'.own) ho hd hbody hclo hcd hlim hbind hps hnd hcn hkb h (fun c fl σ' h' r φ => ⟨σ'.own, φ, r.own, r.feetNodup, fun a ha => .inl ha⟩) hco hgen hk

theorem Fun.introX {prog : Program} {w : World} {b0 : Heap} {z : Bool} {n : Nat} {fa : Addr} {fo : Obj} {fd : FuncData} {body : List Stmt} {ps : List String} {args : List AV} {own : List (Addr × AO)} {Φ : AV → List (Addr × AO) → Prop}
    (ho : b0.get? fa = some fo) (hd : fo.data = .func fd) (hbody : fd.body = .stmts body) (hclo : fd.closure = []) (hcd : b0.CodeRec fd.code fd.qualname) (hlim : b0.NoLimit)
    (hbind : ∀ vs : List Value, vs.length = args.length → bindArgs fd ⟨vs, []⟩ = pure ((ps.map Str.ofString).zip vs)) (hps : ps.length = args.length) (hnd : ps.Nodup) (hcn : ((cellsFrom 0 fd.scope.names []).map (·.1)).Nodup)
    (hkb : (ps.all fun x => fd.scope.names.lookup (Str.ofString x) == some .local || fd.scope.names.lookup (Str.ofString x) == some .cell) = true)
    (h : ∀ (A : Around) (L : Addr) (K : List Addr), Good z n (cx prog w b0 (A.deeper (callEnvC fd L fa)) (callEnvC fd L fa) (L :: (callEnvC fd L fa).cells.map (·.2)) [] K) →
      On (cx prog w b0 (A.deeper (callEnvC fd L fa)) (callEnvC fd L fa) (L :: (callEnvC fd L fa).cells.map (·.2)) [] K) L →
      Exs (cx prog w b0 (A.deeper (callEnvC fd L fa)) (callEnvC fd L fa) (L :: (callEnvC fd L fa).cells.map (·.2)) [] K) body ⟨ps.zip args, own⟩ (fun fl σ' => ∃ o R, σ'.own.Perm (o ++ R) ∧ Φ (retv fl) o) noX)
    (hco : fd.scope.isCoroutine = false := by rfl) (hgen : fd.scope.isGenerator = false := by rfl) (hk : fd.scope.kind = .function := by rfl) : Fun prog w b0 z (n + 1) (.ref fa) args own Φ :=
  FunX.toFun (cls := "IndexError") (FunX.introG (Ω := fun _ fl σ' => ∃ o R, σ'.own.Perm (o ++ R) ∧ Φ (retv fl) o) ho hd hbody hclo hcd hlim hbind hps hnd hcn hkb (fun A L K g on => (h A L K g on).lift) (fun c fl σ' h' r φ => by
      obtain ⟨o, R, e, φ⟩ := φ
      have fn := (feet_perm e).nodup_iff.mp r.feetNodup
      rw [feet_append] at fn
      exact ⟨o, φ, fun p hp => r.own p (e.mem_iff.mpr (List.mem_append_left _ hp)), (List.nodup_append.mp fn).1, fun a ha => .inl ((feet_perm e).mem_iff.mpr (by rw [feet_append]; exact List.mem_append_left _ ha))⟩) (by decide) hco hgen hk)

/-- a contract whose end lets objects go, in any order -/
theorem Fun.introP {prog : Program} {w : World} {b0 : Heap} {z : Bool} {n : Nat} {fa : Addr} {fo : Obj} {fd : FuncData} {body : List Stmt} {ps : List String} {args : List AV} {own : List (Addr × AO)} {Φ : AV → List (Addr × AO) → Prop}
    (ho : b0.get? fa = some fo) (hd : fo.data = .func fd) (hbody : fd.body = .stmts body) (hclo : fd.closure = []) (hcd : b0.CodeRec fd.code fd.qualname) (hlim : b0.NoLimit)
    (hbind : ∀ vs : List Value, vs.length = args.length → bindArgs fd ⟨vs, []⟩ = pure ((ps.map Str.ofString).zip vs)) (hps : ps.length = args.length) (hnd : ps.Nodup) (hcn : ((cellsFrom 0 fd.scope.names []).map (·.1)).Nodup)
    (hkb : (ps.all fun x => fd.scope.names.lookup (Str.ofString x) == some .local || fd.scope.names.lookup (Str.ofString x) == some .cell) = true)
    (h : ∀ (A : Around) (L : Addr) (K : List Addr), Good z n (cx prog w b0 (A.deeper (callEnvC fd L fa)) (callEnvC fd L fa) (L :: (callEnvC fd L fa).cells.map (·.2)) [] K) →
      Exs (cx prog w b0 (A.deeper (callEnvC fd L fa)) (callEnvC fd L fa) (L :: (callEnvC fd L fa).cells.map (·.2)) [] K) body ⟨ps.zip args, own⟩ (fun fl σ' => ∃ o R, σ'.own.Perm (o ++ R) ∧ Φ (retv fl) o) noX)
    (hco : fd.scope.isCoroutine = false := by rfl) (hgen : fd.scope.isGenerator = false := by rfl) (hk : fd.scope.kind = .function := by rfl) : Fun prog w b0 z (n + 1) (.ref fa) args own Φ :=
  Fun.introX ho hd hbody hclo hcd hlim hbind hps hnd hcn hkb (fun A L K g _ => h A L K g) hco hgen hk

/-- a contract whose end lets objects go -/
theorem Fun.introD {prog : Program} {w : World} {b0 : Heap} {z : Bool} {n : Nat} {fa : Addr} {fo : Obj} {fd : FuncData} {body : List Stmt} {ps : List String} {args : List AV} {own : List (Addr × AO)} {Φ : AV → List (Addr × AO) → Prop}
    (ho : b0.get? fa = some fo) (hd : fo.data = .func fd) (hbody : fd.body = .stmts body) (hclo : fd.closure = []) (hcd : b0.CodeRec fd.code fd.qualname) (hlim : b0.NoLimit)
    (hbind : ∀ vs : List Value, vs.length = args.length → bindArgs fd ⟨vs, []⟩ = pure ((ps.map Str.ofString).zip vs)) (hps : ps.length = args.length) (hnd : ps.Nodup) (hcn : ((cellsFrom 0 fd.scope.names []).map (·.1)).Nodup)
    (hkb : (ps.all fun x => fd.scope.names.lookup (Str.ofString x) == some .local || fd.scope.names.lookup (Str.ofString x) == some .cell) = true)
    (h : ∀ (A : Around) (L : Addr) (K : List Addr), Good z n (cx prog w b0 (A.deeper (callEnvC fd L fa)) (callEnvC fd L fa) (L :: (callEnvC fd L fa).cells.map (·.2)) [] K) →
      Exs (cx prog w b0 (A.deeper (callEnvC fd L fa)) (callEnvC fd L fa) (L :: (callEnvC fd L fa).cells.map (·.2)) [] K) body ⟨ps.zip args, own⟩ (fun fl σ' => ∃ o R, σ'.own = o ++ R ∧ Φ (retv fl) o) noX)
    (hco : fd.scope.isCoroutine = false := by rfl) (hgen : fd.scope.isGenerator = false := by rfl) (hk : fd.scope.kind = .function := by rfl) : Fun prog w b0 z (n + 1) (.ref fa) args own Φ :=
  Fun.introP ho hd hbody hclo hcd hlim hbind hps hnd hcn hkb (fun A L K g => (h A L K g).mono fun fl σ' p => by
    obtain ⟨o, R, e, φ⟩ := p
    exact ⟨o, R, by rw [e], φ⟩) hco hgen hk

end Mine

-- BP
namespace Mine
open PySem PySem.Calls PyProof.Rows PySem.W

/-- the context of a handler's suite -/
abbrev Cx.marked (c : Cx) (e : Addr) : Cx := { c with A := c.A.mark (some (.ref e)) }
theorem Rep.marked {c : Cx} {σ : St} {h : Heap} {e : Addr} (r : Rep c σ h) : Rep (c.marked e) σ h := ⟨r.ns, r.lin, r.cel, r.inj, r.own, r.nd, r.nk, r.frc, r.kb, r.kn, r.kh, r.ff⟩
theorem Rep.unmarked {c : Cx} {σ : St} {h : Heap} {e : Addr} (r : Rep (c.marked e) σ h) : Rep c σ h := ⟨r.ns, r.lin, r.cel, r.inj, r.own, r.nd, r.nk, r.frc, r.kb, r.kn, r.kh, r.ff⟩
theorem Aft.unmarked {c : Cx} {σ σ' : St} {s s' : Shared} {e : Addr} (f : Aft (c.marked e) σ s σ' s') : Aft c σ s σ' s' := ⟨f.rest, f.sp, f.al, f.fs⟩
theorem Good.marked {n : Nat} {c : Cx} {e : Addr} {z : Bool} (g : Good z n c) : Good false n (c.marked e) := ⟨(fun h => nomatch h), g.dp, g.un, g.kf, g.fr⟩

/-- try, one clause with a builtin class that catches -/
theorem Ex.tryX {c : Cx} {body suite : List Stmt} {b₀ : Stmt} {x : String} {np pos pos' : Pos} {cls : String} {L : Addr} {σ : St} {Ψ : St → Prop} {Φ : Fl → St → Prop} {X Y : XP} (on : On c L) (hc : cls ≠ "tuple" ∧ cls ≠ "range")
    (hexc : isSubtype (.type cls) (.type "BaseException") = pure true) (hnt : isSubtype (.type ((Manifest.find? cls).elim "type" fun x => x.metatype)) (.type "tuple") = pure false) (hsub : isSubtype (.type cls) (.type cls) = pure true)
    (h : Exs c body σ Φ (XAt cls .none Ψ))
    (hn : ∀ e σ (Θ : AV → St → Prop), Θ (.ty cls) σ → Ev (c.marked e) (.Name (Str.ofString x) np) σ Θ noX)
    (k : ∀ e T oe oT σ₁, Ψ σ₁ → oe.cls = .type cls → Exs (c.marked e) (b₀ :: suite) ⟨σ₁.loc, (e, .raw oe) :: (T, .raw oT) :: σ₁.own⟩ Φ noX) :
    Ex c (.Try body [.ExceptHandler (some (.Name (Str.ofString x) np)) none (b₀ :: suite) pos'] [] [] pos) σ Φ X := by
  intro s r _ Q E q _
  obtain ⟨outer, hfr⟩ := on.fr
  refine wpAny_Try_except (h s r trivial _ _ (fun f fl σ' s' r' f' e φ => ?_) fun v σ₁ s₁ r₁ f₁ y₁ => ?_)
  · cases fl with
    | next => cases e; exact wpAny_execs_nil (q _ .next σ' s' r' f' rfl φ)
    | brk => cases e; exact q _ .brk σ' s' r' f' rfl φ
    | cont => cases e; exact q _ .cont σ' s' r' f' rfl φ
    | ret av => obtain ⟨w, rfl, hw⟩ := e; exact q _ (.ret av) σ' s' r' f' ⟨w, rfl, hw⟩ φ
  · refine noteFly on hc r₁ y₁ fun σ₂ s₂ r₂ f₂ y₂ => ?_
    refine flight (fr := none) ⟨_, hfr⟩ hc r₂ y₂ fun σ₃ s₃ r₃ f₃ y₃ => ?_
    obtain ⟨e, T, oe, oT, own, rfl, eo, S, hψ⟩ := y₃
    refine wpAny_handleBy_builtin (X := cls) (T := cls) (b := true) hexc hnt hsub ?_
    refine hn e σ₃ (fun a σ => a = .ty cls ∧ σ = σ₃) ⟨rfl, rfl⟩ s₃ ⟨r₃.toRep.marked, r₃.tp⟩ trivial _ _ (fun v a σ₄ s₄ r₄ f₄ va h₄ => ?_) (fun _ _ _ _ _ z => z.elim)
    obtain ⟨rfl, rfl⟩ := h₄
    have ge : s₄.heap.get? e = some oe := (r₄.own (e, .raw oe) (by rw [eo]; exact .head _)).1
    refine ⟨va, ⟨oe, ge, S.c⟩, ?_⟩
    rw [if_pos rfl]
    refine flight (c := c.marked e) (fr := none) (Ψ := Ψ) (cls := cls) (fl := .none) ⟨_, hfr⟩ hc r₄ ⟨e, T, oe, oT, own, rfl, eo, S, hψ⟩ fun σ₅ s₅ r₅ f₅ y₅ => ?_
    obtain ⟨e', T', oe', oT', own', ee, eo', S', hψ'⟩ := y₅
    cases ee
    obtain ⟨loc₅, o₅⟩ := σ₅
    cases eo'
    refine k e T' oe' oT' ⟨loc₅, own'⟩ hψ' S'.c s₅ r₅ trivial _ _ (fun f fl σ' s' r' f' ef φ => ?_) (fun _ _ _ _ _ z => z.elim)
    exact q f fl σ' s' ⟨r'.toRep.unmarked, r'.tp⟩ (((((f₁.trans f₂).trans f₃).trans f₄.unmarked).trans f₅.unmarked).trans f'.unmarked) ef φ
end Mine

-- BQ
namespace Mine
open PySem PySem.Calls PyProof.Rows PySem.W

/-- a sign of a text, or IndexError -/
theorem Op2.strItemX {c : Cx} {ve se : Expr} {l : List Nat} {k : Nat} {σ : St} {Φ : AV → St → Prop} {X : XP} {Ψ : St → Prop} (hA : c.A.handled = none) (h1 : (k : Int) < 2 ^ 62)
    (h : (∃ n, l[k]? = some n ∧ Φ (.str [n]) σ) ∨ (l.length ≤ k ∧ ∀ v σ s, XNew "IndexError" Ψ v σ s → X v σ s) ∧ Ψ σ)
    (hs : ∀ o i, subscripted se false o i = operate [o, i] (getItem o i) := by intros; rfl) (ht : ∀ o r, letTemporaryGo ve o r = pure () := by intros; rfl) : Op2 c (subscriptTail ve se) (.str l) (.int k) σ Φ X := fun v w => by
  intro s r p Q E q x
  refine wpAny_with_toks r.tp ?_
  have p1 : VR s.heap (.str l) v := p.1
  have p2 : VR s.heap (.int k) w := p.2
  rw [VR] at p1
  rw [VR] at p2
  obtain ⟨t, rfl⟩ := p1
  obtain ⟨u, rfl⟩ := p2
  refine item_str_or hA ?_ (fun hout h' tk e N => ?_) (fun _ hlt => ?_) (hs _ _) (ht _)
  · unfold fitsSsize; simp; omega
  · rcases h with ⟨n, e1, _⟩ | ⟨⟨_, hX⟩, hψ⟩
    · have := (List.getElem?_eq_some_iff.mp e1).1
      rw [lenS] at hout; simp at hout; omega
    · obtain ⟨nk, nn, ob, tt, g, hcl, hd⟩ := N
      have hO : OR h' e (.raw ob) := ⟨g, .of_cls (by rw [hcl]; simp) (by rw [hcl]; simp)⟩
      exact fun htk => x _ ⟨σ.loc, (e, .raw ob) :: σ.own⟩ _ ⟨r.toRep.fresh nk nn hO rfl, htk⟩ (Aft.fresh (tk := tk) nk nn rfl) (hX _ _ _ ⟨e, ob, σ.own, rfl, rfl, ⟨hcl, tt, hd⟩, hψ⟩)
  · rcases h with ⟨n, e1, hφ⟩ | ⟨⟨hl, _⟩, _⟩
    · have em : Txt.item ⟨l.toArray⟩ (k : Int) = ⟨[n].toArray⟩ := item_meets (by omega) (by simpa using e1)
      rw [em]
      exact fun htk => q _ (.str [n]) σ { s with toks := s.toks + 1 } ⟨r.toRep, htk⟩ (Aft.keep (h' := s.heap) fun _ _ e => e) VR.mkStr hφ
    · rw [lenS] at hlt; simp at hlt; omega
theorem Op2.strItem {c : Cx} {ve se : Expr} {l : List Nat} {k n : Nat} {σ : St} {Φ : AV → St → Prop} {X : XP} (h1 : (k : Int) < 2 ^ 62)
    (e1 : l[k]? = some n) (hφ : Φ (.str [n]) σ)
    (hs : ∀ o i, subscripted se false o i = operate [o, i] (getItem o i) := by intros; rfl) (ht : ∀ o r, letTemporaryGo ve o r = pure () := by intros; rfl) : Op2 c (subscriptTail ve se) (.str l) (.int k) σ Φ X := fun v w => by
  refine Tri.ofH fun s r p Q E q x => ?_
  have p1 : VR s.heap (.str l) v := p.1
  have p2 : VR s.heap (.int k) w := p.2
  rw [VR] at p1
  rw [VR] at p2
  obtain ⟨t, rfl⟩ := p1
  obtain ⟨u, rfl⟩ := p2
  have hl := (List.getElem?_eq_some_iff.mp e1).1
  refine item_str ?_ ?_ ?_ (fun _ => ?_) (hs _ _) (ht _)
  · unfold fitsSsize; simp; omega
  · omega
  · rw [lenS]; simpa using hl
  · have em : Txt.item ⟨l.toArray⟩ (k : Int) = ⟨[n].toArray⟩ := item_meets (by omega) (by simpa using e1)
    rw [em]
    exact q _ (.str [n]) σ { s with toks := s.toks + 1 } (r.toRep) (Aft.keep (h' := s.heap) fun _ _ e => e) VR.mkStr hφ
end Mine

-- BR
namespace Mine
open PySem PySem.Calls PyProof.Rows PySem.W

/-! equality of values -/
def EqAV (x y : AV) (b : Bool) : Prop := ∀ (A : Around) (s : Shared) (v w : Value), A.units + 10 < cLine → VR s.heap x v → VR s.heap y w → SeqAt.EqAt A s v w b
theorem EqAV.int (a b : Int) : EqAV (.int a) (.int b) (a == b) := fun A s v w _ hv hw => by
  rw [VR] at hv hw
  obtain ⟨t, rfl⟩ := hv
  obtain ⟨u, rfl⟩ := hw
  exact SeqAt.EqAt.int_int a t b u
theorem VRs.gets {h : Heap} {l : List AV} {vs : List Value} (q : VRs h l vs) {j : Nat} (hj : j < vs.toArray.size) : ∃ x, l[j]? = some x ∧ VR h x vs.toArray[j] := by
  rw [List.size_toArray] at hj
  have hl : j < l.length := by rw [← q.length]; exact hj
  obtain ⟨v, e, p⟩ := q.get (List.getElem?_eq_getElem hl)
  refine ⟨_, List.getElem?_eq_getElem hl, ?_⟩
  have : vs[j] = v := (List.getElem?_eq_some_iff.mp e).2
  simpa [this] using p

/-- equality, item by item -/
structure EqL (l m : List AV) (e : Nat → Bool) : Prop where
  at' : ∀ (j : Nat) (x y : AV), l[j]? = some x → m[j]? = some y → EqAV x y (e j)

theorem Op2.neL {c : Cx} {n : Nat} {z : Bool} {a b : Addr} {l m : List AV} {e : Nat → Bool} {σ : St} {Φ : AV → St → Prop} {X : XP} (g : Good z (n + 1) c) (i j : Nat) (e1 : σ.own[i]? = some (a, .list l)) (e2 : σ.own[j]? = some (b, .list m)) (he : EqL l m e)
    (k : Φ (.bool (!(l.length == m.length && (List.range l.length).all e))) σ) : Op2 c (compareOp .NotEq) (.ref a) (.ref b) σ Φ X := fun v w =>
  Tri.pureStep k fun s p r Q E q => by
    obtain ⟨p1, p2⟩ := p
    cases VR.ref' p1
    cases VR.ref' p2
    obtain ⟨vs, n1, g1, hv⟩ := Cx.own_list r.toRep e1
    obtain ⟨us, n2, g2, hw⟩ := Cx.own_list r.toRep e2
    have hu := g.un
    have i1 : s.heap.IsList a vs.toArray := ⟨_, g1, rfl, n1, rfl⟩
    have i2 : s.heap.IsList b us.toArray := ⟨_, g2, rfl, n2, rfl⟩
    by_cases hl : l.length = m.length
    · refine SeqAt.RcNeAt.lists (e := e) i1 i2 (by rw [List.size_toArray, List.size_toArray, hv.length, hw.length, hl]) (by omega) (fun j h1 h2 => ?_) c.prog c.w E Q ?_
      · obtain ⟨x, ex, px⟩ := hv.gets h1
        obtain ⟨y, ey, py⟩ := hw.gets h2
        exact he.at' j x y ex ey c.A.in1 s _ _ (by show c.A.units + 1 + 10 < _; omega) px py
      · have := q (.bool (!(l.length == m.length && (List.range l.length).all e))) s.heap s.toks (fun _ _ e => e) VR.mkBool
        rw [List.size_toArray, hv.length]
        simpa [hl] using this
    · refine SeqAt.RcNeAt.lists_lengths i1 i2 (by rw [List.size_toArray, List.size_toArray, hv.length, hw.length]; simpa using hl) (by omega) c.prog c.w E Q ?_
      have := q (.bool (!(l.length == m.length && (List.range l.length).all e))) s.heap s.toks (fun _ _ e => e) VR.mkBool
      rw [show (l.length == m.length) = false from beq_eq_false_iff_ne.mpr hl] at this
      exact this
theorem Op2.eqL {c : Cx} {n : Nat} {z : Bool} {a b : Addr} {l m : List AV} {e : Nat → Bool} {σ : St} {Φ : AV → St → Prop} {X : XP} (g : Good z (n + 1) c) (i j : Nat) (e1 : σ.own[i]? = some (a, .list l)) (e2 : σ.own[j]? = some (b, .list m)) (he : EqL l m e)
    (k : Φ (.bool (l.length == m.length && (List.range l.length).all e)) σ) : Op2 c (compareOp .Eq) (.ref a) (.ref b) σ Φ X := fun v w =>
  Tri.pureStep k fun s p r Q E q => by
    obtain ⟨p1, p2⟩ := p
    cases VR.ref' p1
    cases VR.ref' p2
    obtain ⟨vs, n1, g1, hv⟩ := Cx.own_list r.toRep e1
    obtain ⟨us, n2, g2, hw⟩ := Cx.own_list r.toRep e2
    have hu := g.un
    have i1 : s.heap.IsList a vs.toArray := ⟨_, g1, rfl, n1, rfl⟩
    have i2 : s.heap.IsList b us.toArray := ⟨_, g2, rfl, n2, rfl⟩
    by_cases hl : l.length = m.length
    · refine SeqAt.RcAt.lists (e := e) i1 i2 (by rw [List.size_toArray, List.size_toArray, hv.length, hw.length, hl]) (by omega) (fun j h1 h2 => ?_) c.prog c.w E Q ?_
      · obtain ⟨x, ex, px⟩ := hv.gets h1
        obtain ⟨y, ey, py⟩ := hw.gets h2
        exact he.at' j x y ex ey c.A.in1 s _ _ (by show c.A.units + 1 + 10 < _; omega) px py
      · have := q (.bool (l.length == m.length && (List.range l.length).all e)) s.heap s.toks (fun _ _ e => e) VR.mkBool
        rw [List.size_toArray, hv.length]
        simpa [hl] using this
    · refine SeqAt.RcAt.lists_lengths i1 i2 (by rw [List.size_toArray, List.size_toArray, hv.length, hw.length]; simpa using hl) (by omega) c.prog c.w E Q ?_
      have := q (.bool (l.length == m.length && (List.range l.length).all e)) s.heap s.toks (fun _ _ e => e) VR.mkBool
      rw [show (l.length == m.length) = false from beq_eq_false_iff_ne.mpr hl] at this
      exact this

/-- `x, y = (e1, e2)`: the names are stored the other way round -/
theorem Ex.assignSwap {c : Cx} {es : List Expr} {k : Nat} {p pos : Pos} {e : Expr} {x y : String} {σ : St} {Φ : Fl → St → Prop} {X : XP} (hd : c.A.handled = none)
    (h : Ev c e σ (fun av σ₁ => ∃ a b, av = .tup [a, b] ∧ Φ .next ((σ₁.set y b).set x a)) X) (hw : swappedStores [.Tuple es k p] e c.env = pure (some [Str.ofString x, Str.ofString y]) := by rfl)
    (hs : swapsWithSole [.Tuple es k p] e pos.line c.env = pure false := by rfl) (h1 : CanStore c x := by exact Or.inl rfl) (h2 : CanStore c y := by exact Or.inl rfl) (hk : c.env.scope.kind = .function := by rfl) :
    Ex c (.Assign [.Tuple es k p] e pos) σ Φ X := by
  intro s r _ Q E q xx
  refine PyProof.Rows.Assign_Tuple_swapped (h s r trivial _ _ (fun v av σ₁ s₁ r₁ f₁ va h₁ => ?_) xx) hs hw
  obtain ⟨a, b, rfl, h₁⟩ := h₁
  rw [VR] at va
  obtain ⟨t, vs, n, rfl, g, pl⟩ := va
  obtain ⟨va, vb, rfl, pa, pb⟩ := VRs.two pl
  refine wpAny_unpackItems_tuple (items := #[va, vb]) hd ⟨_, g, rfl, n, rfl⟩ (fun h' ex => ?_)
  have kk : ∀ b o, s₁.heap.get? b = some o → h'.get? b = some o := fun b o e => ex b o (Nat.ne_of_lt (Heap.lt_size e)) e
  have sp : Sp [] [] s₁.heap h' := Sp.of_keep fun b o _ e => kk b o e
  have fk : Aft c σ₁ s₁ σ₁ { s₁ with heap := h' } := Aft.keep (tk := s₁.toks) kk
  have rk : RepS c σ₁ { s₁ with heap := h' } := ⟨r₁.keep kk, r₁.tp⟩
  have pa' := pa.mono sp NoTup.nil NoTup.nil
  have pb' := pb.mono sp NoTup.nil NoTup.nil
  show wpAny _ _ (assignInOrder [fun v => bindName c.env (Str.ofString y) v, fun v => bindName c.env (Str.ofString x) v] [vb, va]) _ _ _
  refine wpAny_assignInOrder_more (wpAny_bindName ?_)
  refine storeLoc (Φ := fun _ σ' => σ' = σ₁.set y b) hk h2 rfl _ rk pb' _ _ (fun _ _ σ₂ s₂ r₂ f₂ _ e₂ => ?_) ((xx.go f₁).go fk)
  subst e₂
  refine wpAny_assignInOrder_more (wpAny_bindName ?_)
  refine storeLoc (Φ := fun _ σ' => Φ .next σ') hk h1 h₁ s₂ r₂ (pa'.after rk f₂) _ _ (fun _ _ σ₃ s₃ r₃ f₃ _ h₃ => ?_) (((xx.go f₁).go fk).go f₂)
  exact wpAny_assignInOrder_none (q _ .next σ₃ s₃ r₃ (((f₁.trans fk).trans f₂).trans f₃) rfl h₃)
end Mine

-- BS
namespace Mine
open PySem PySem.Calls PyProof.Rows PySem.W

/-- a list cut that is known some way -/
theorem Ev.lsliceG {c : Cx} {value : Expr} {lower upper : Option Expr} {p pos : Pos} {σ : St} {Φ : AV → St → Prop} {X : XP}
    (h : Ev c value σ (fun a σ₁ => Part c lower σ₁ (fun lo σ₂ => Part c upper σ₂ (fun hi σ₃ => okPart lo ∧ okPart hi ∧ ∃ (d : Addr) (l : List AV), a = .ref d ∧ (∀ h, Rep c σ₃ h → ∃ vs : List Value, h.IsList d vs.toArray ∧ VRs h l vs) ∧ l.length ≤ 16777216 ∧
      ∀ d', Φ (.ref d') ⟨σ₃.loc, (d', .list (cut lo hi l)) :: σ₃.own⟩) X) X) X) (ht : ∀ o r, letTemporaryGo value o r = pure () := by intro _ _; rfl) :
    Ev c (.Subscript value (.Slice lower upper .none p) pos) σ Φ X := by
  refine Tri.ofH fun s r _ Q E q x => ?_
  refine wpAny_Subscript_list_slice (h s r trivial _ _ (fun v a σ₁ s₁ r₁ f₁ va h₁ => ?_) x) ht
  refine h₁ s₁ r₁ trivial _ _ (fun vl lo σ₂ s₂ r₂ f₂ pl h₂ => ?_) (x.go f₁)
  refine h₂ s₂ r₂ trivial _ _ (fun vu hi σ₃ s₃ r₃ f₃ pu h₃ => ?_) ((x.go f₁).go f₂)
  obtain ⟨o1, o2, d, l, rfl, e, hz, h₃⟩ := h₃
  obtain ⟨vs, g, hv⟩ := e _ r₃.toRep
  cases va.ref'
  refine ⟨d, vs.toArray, lo, hi, rfl, g, by rw [List.size_toArray, hv.length, sizeLine_eq]; exact hz, pl.isPart, pu.isPart, ?_⟩
  have ep : slicePick vs.toArray lo hi Option.none = (cut lo hi vs).toArray := by
    rw [kms_pick_eq]
    exact congrArg _ (pick_cut vs o1 o2)
  rw [ep]
  have k2 : ∀ b o, s₃.heap.get? b = some o → ((s₃.heap.push { cls := .type "slice", data := .fields #[vl, vu, .none] }).push { cls := .type "list", data := .seq (cut lo hi vs).toArray }).get? b = some o :=
    fun b o e => push_keep _ _ (push_keep _ _ e)
  have hn : s₃.heap.get? (s₃.heap.objs.size + 1) = Option.none := Heap.get?_none_of_le (Nat.le_succ _)
  have hN : ((s₃.heap.push { cls := .type "slice", data := .fields #[vl, vu, .none] }).push { cls := .type "list", data := .seq (cut lo hi vs).toArray }).get? (s₃.heap.objs.size + 1) = some (listObj (cut lo hi vs) 0) := by
    have e : (s₃.heap.push { cls := .type "slice", data := .fields #[vl, vu, .none] }).objs.size = s₃.heap.objs.size + 1 := Heap.size_push ..
    rw [← e]; exact Heap.get?_push_size _ rfl
  have ho : OR ((s₃.heap.push { cls := .type "slice", data := .fields #[vl, vu, .none] }).push { cls := .type "list", data := .seq (cut lo hi vs).toArray }) (s₃.heap.objs.size + 1) (.list (cut lo hi l)) :=
    ⟨_, 0, hN, (cutVR hv).mono (K := []) (F := []) (Sp.of_keep fun b o _ e => k2 b o e) NoTup.nil NoTup.nil⟩
  exact q _ (.ref _) _ _ (r₃.toRep.fresh k2 hn ho rfl) (((f₁.trans f₂).trans f₃).trans (Aft.fresh (tk := s₃.toks) k2 hn rfl)) VR.mkRef (h₃ _)

/-- a given list of ints -/
theorem VRs.ints {h : Heap} : ∀ {vs : List Value} {ns : List Int}, IntsAre vs ns → VRs h (ns.map .int) vs
  | _, _, .nil => VRs.nil
  | _, _, .cons n t q => VRs.cons VR.mkInt (VRs.ints q)
theorem ints_of {c : Cx} {σ : St} {d : Addr} {vs : List Value} {ns : List Int} (hl : c.b0.IsList d vs.toArray) (hi : IntsAre vs ns) : ∀ h, Rep c σ h → ∃ vs : List Value, h.IsList d vs.toArray ∧ VRs h (ns.map .int) vs := fun h r => by
  obtain ⟨o, g, a, b⟩ := hl
  exact ⟨vs, ⟨o, r.kb _ _ g, a, b⟩, VRs.ints hi⟩

theorem Tri.pre {α β : Type} {c : Cx} {P P' : Heap → Prop} {t : Sem α} {V : Heap → β → α → Prop} {σ : St} {Φ : β → St → Prop} {X : XP} (h : Tri c P t V σ Φ X) (k : ∀ h, P' h → P h) : Tri c P' t V σ Φ X :=
  fun s r p Q E q x => h s r (k _ p) Q E q x

/-- a comprehension over a list that is made for it -/
theorem evCompL {z : Bool} {n : Nat} {c : Cx} {elt target iter : Expr} {ifs : List Expr} {scope : Scope} {pos : Pos} {cl : List (Str × Addr)} {cells : List Addr} {σ : St} {Φ : AV → St → Prop} {X : XP} (g : Good z n c)
    (hfr : c.fr = c.env.locals :: cells) (hclos : closureFor scope c.env = pure cl) (hcl : ∀ x a, cl.lookup x = some a → c.env.cells.lookup x = some a) (hcel : ∀ x a, cl.lookup x = some a → a ∈ cells ++ c.fx)
    (h : Ev c iter σ (fun a σ₀ => ∃ (R1 : List (Addr × AO)) (σ₁ : St), σ₀.loc = σ₁.loc ∧ σ₀.own.Perm (σ₁.own ++ R1) ∧ ∃ (items : List AV) (fv : List (String × AV)) (inv : Cx → Nat → List AV → St → Prop), Itr c a items σ₁ (Hid c σ₁ R1) ∧ items.length ≤ 16777216 ∧
      (∀ C x av, fv.lookup x = some av → σ₁.loc.lookup x = some av ∧ (c.kind x = some .cell ∨ c.kind x = some .free) ∧ (∃ a, cl.lookup (Str.ofString x) = some a) ∧
        ((compEnvC scope cl C c.env).kindOf (Str.ofString x) = some .cell ∨ (compEnvC scope cl C c.env).kindOf (Str.ofString x) = some .free)) ∧
      (∀ C, inv (compCx c scope cl cells C) 0 [] ⟨fv, σ₁.own⟩ ∧ (∀ i x acc σ', items[i]? = some x → inv (compCx c scope cl cells C) i acc σ' →
        Asg (compCx c scope cl cells C) target x σ' (fun σ₂ => Ifs (compCx c scope cl cells C) ifs σ₂ (fun b σ₃ => (b = true → Ev (compCx c scope cl cells C) elt σ₃ (fun y σ₄ => inv (compCx c scope cl cells C) (i + 1) (acc ++ [y]) σ₄) noX) ∧
          (b = false → inv (compCx c scope cl cells C) (i + 1) acc σ₃)) noX) noX) ∧
      (∀ acc σ', inv (compCx c scope cl cells C) items.length acc σ' → ∀ d, Φ (.ref d) ⟨σ₁.loc, (d, .list acc) :: σ'.own⟩))) X)
    (hcn : ∀ y ∈ scope.names, y.2 ≠ .cell) (hnames : ∀ y ∈ scope.names, y.2 = .local → scope.names.lookup y.1 = some .local) (hk : scope.kind = .function := by rfl)
    (hs : ∀ x, foldedSetIterable iter c.env x = pure x := by intro _; rfl) : Ev c (.ListComp elt [⟨target, iter, ifs, 0⟩] scope pos) σ Φ X :=
  Tri.pre (evCompR [] g hfr hclos hcl hcel (h.mono fun a σ₀ p => by
    obtain ⟨R1, σ₁, p1, p2, items, fv, inv, it, p⟩ := p
    exact ⟨R1, σ₁, p1, p2, items, fv, inv, by rw [List.append_nil]; exact it, p⟩) hcn hnames hk hs) fun _ _ => Hid.nil


/-- what is known of the locals -/
def Lk (lc l : List (String × AV)) : Prop := ∀ p ∈ l, lc.lookup p.1 = some p.2
theorem Lk.at {lc l : List (String × AV)} (h : Lk lc l) (i : Nat) {x : String} {v : AV} (e : l[i]? = some (x, v)) : lc.lookup x = some v := h (x, v) (List.mem_of_getElem? e)
theorem Lk.nil {lc : List (String × AV)} : Lk lc [] := fun _ h => nomatch h
theorem Lk.cons {lc l : List (String × AV)} {x : String} {v : AV} (h : lc.lookup x = some v) (t : Lk lc l) : Lk lc ((x, v) :: l) := fun p hp => by
  rcases List.mem_cons.mp hp with rfl | hp
  · exact h
  · exact t p hp
theorem Exs.absLoc {c : Cx} {body : List Stmt} {lc : List (String × AV)} {own : List (Addr × AO)} {Φ : Fl → St → Prop} {X : XP} (l : List (String × AV)) (h : Lk lc l) (k : ∀ lc, Lk lc l → Exs c body ⟨lc, own⟩ Φ X) : Exs c body ⟨lc, own⟩ Φ X := k lc h
/-- a statement, and what is known behind it -/
theorem Exs.step {c : Cx} {st : Stmt} {rest : List Stmt} {σ : St} {Φ : Fl → St → Prop} {X : XP} (own : List (Addr × AO)) (l : List (String × AV)) (h : Ex c st σ (fun fl σ' => fl = .next ∧ σ'.own = own ∧ Lk σ'.loc l) X) (k : ∀ lc, Lk lc l → Exs c rest ⟨lc, own⟩ Φ X) : Exs c (st :: rest) σ Φ X :=
  Exs.cons <| h.mono fun fl σ' p => by
    obtain ⟨lc, o⟩ := σ'
    obtain ⟨rfl, rfl, hl⟩ := p
    exact k lc hl
/-- a call of a function that stands -/
theorem Ev.callFn {c : Cx} {f : Str} {fp pos : Pos} {es : List Expr} {fa : Addr} {σ : St} {Φ : AV → St → Prop} {X : XP} (h : ∃ fo fd, c.b0.get? fa = some fo ∧ fo.data = .func fd)
    (hf : Ev c (.Name f fp) σ (fun a σ₁ => a = .ref fa ∧ Arg c pos es σ₁ (fun l σ₂ => Cal c (.ref fa) l σ₂ Φ X) X) X) (hs : (backTo pos (starEach es c.env)).any (·.1) = false := by rfl) : Ev c (.Call (.Name f fp) es [] pos) σ Φ X :=
  let ⟨_, _, ho, hd⟩ := h
  Ev.callF ho hd hf hs
end Mine

-- MG
namespace Mine
open PySem PySem.Calls PyProof.Rows PySem.W

/-- the law's own turn, at the top -/
theorem topGo {prog : Program} {w : World} {b0 h₁ : Heap} {s : Shared} {nm : Str} {sc : Scope} {body : List Stmt} {L fa d T : Addr} {cd : Value} {x : String} {m : Str → Option Value} {tk : Nat} {Q : Flow → Shared → Prop} {E : Value → Shared → Prop}
    (hk : sc.kind = .function) (F : Fr b0 L h₁ m) (N : News b0 L h₁ [(T, tabObj #[])]) (hm : m (Str.ofString x) = some (.ref d)) (hloc : sc.names.lookup (Str.ofString x) = some .local) (htk : 1 ≤ tk)
    (h : Good true 20 (cx prog w b0 (callerA.deeper (envOf nm sc L fa cd)) (envOf nm sc L fa cd) [L] [] []) →
      Exs (cx prog w b0 (callerA.deeper (envOf nm sc L fa cd)) (envOf nm sc L fa cd) [L] [] []) body ⟨[(x, .ref d)], [(T, .raw (tabObj #[]))]⟩ (fun fl σ => fl = .ret (.bool true) ∧ ∃ ps R, σ.own.Perm ((T, .raw (tabObj ps)) :: R)) noX)
    (hQ : ∀ h' tk' m' ps, Fr b0 L h' m' → h'.get? T = some (tabObj ps) → Q (.ret (.bool true)) { s with heap := h', toks := tk' }) :
    wpAny (model prog w) (callerA.deeper (envOf nm sc L fa cd)) (execs body (envOf nm sc L fa cd)) Q E { s with heap := h₁, toks := tk } := by
  have hL : b0.get? L = none := Heap.get?_none_of_le F.above
  obtain ⟨gT, nT, bT⟩ := N _ (.head _)
  have gT : h₁.get? T = some (tabObj #[]) := gT
  have nT : T ≠ L := nT
  have bT : b0.get? T = none := bT
  have hE : (callerA.deeper (envOf nm sc L fa cd)).frames = some [envOf nm sc L fa cd] := rfl
  have g : Good true 20 (cx prog w b0 (callerA.deeper (envOf nm sc L fa cd)) (envOf nm sc L fa cd) [L] [] []) :=
    ⟨fun _ => rfl, by show 1 + 300 + 1 + 20 < 1000; decide, by show 4 + 3 + 20 * 20 < 9900; decide, hk, _, hE, fun a ha => by
      have ha : a ∈ [L] := ha
      exact .inl (List.mem_singleton.mp ha)⟩
  have R : Rep (cx prog w b0 (callerA.deeper (envOf nm sc L fa cd)) (envOf nm sc L fa cd) [L] [] []) ⟨[(x, .ref d)], [(T, .raw (tabObj #[]))]⟩ h₁ := by
    refine ⟨⟨m, F.ns, fun y av e => ?_⟩, .head _, fun y a e1 e2 _ => (nomatch e2), fun y z a e1 _ => (nomatch e1), fun p hp => ?_, ?_, fun a ha => ?_, fun a ha => ?_, F.keep, fun a ha => (nomatch ha), fun a ha => (nomatch ha), fun l e => ?_⟩
    · rw [List.lookup_cons] at e
      by_cases hy : y = x
      · subst hy
        simp only [beq_self_eq_true, Option.some.injEq] at e
        subst e
        exact .inl ⟨hloc, _, hm, VR.mkRef⟩
      · rw [show (y == x) = false from beq_eq_false_iff_ne.mpr hy] at e
        cases e
    · rw [List.mem_singleton.mp hp]
      exact ⟨gT, .of_cls (by simp) (by simp)⟩
    · show [L, T].Nodup
      simp [Ne.symm nT]
    · have ha : a ∈ [L, T] := ha
      refine ⟨List.not_mem_nil, ?_⟩
      rcases List.mem_cons.mp ha with rfl | ha
      · exact hL
      · rw [List.mem_singleton.mp ha]; exact bT
    · rw [List.mem_singleton.mp ha]
      obtain ⟨o, es, ep, g, d, _⟩ := F.ns
      exact ⟨o, g, .of_dict d⟩
    · have e : (callerA.deeper (envOf nm sc L fa cd)).frames = some l := e
      rw [hE] at e; cases e
      refine ⟨⟨by show sc.kind ≠ .module; rw [hk]; decide, ⟨L, ?_⟩, trivial⟩, fun a ha => List.mem_append_left _ ha⟩
      obtain ⟨o, es, ep, g, d, _⟩ := F.ns
      exact ⟨o, rfl, hL, g, by rw [d]; intro vs; simp⟩
  refine h g { s with heap := h₁, toks := tk } ⟨R, htk⟩ trivial _ _ (fun f fl σ' s' r' f' ef φ => ?_) (fun _ _ _ _ _ z => z.elim)
  obtain ⟨rfl, ps, R', hp⟩ := φ
  obtain ⟨v, rfl, hv⟩ := ef
  rw [VR] at hv
  subst hv
  obtain ⟨m', hns, _⟩ := r'.ns
  have gT' := (r'.own (T, .raw (tabObj ps)) (hp.mem_iff.mpr (.head _))).1
  have := hQ s'.heap s'.toks m' ps ⟨hns, r'.kb, F.above⟩ gT'
  rw [f'.rest]
  exact this
end Mine

open PySem PySem.W PyProof.Rows in
set_option maxHeartbeats 8000000 in
open_top hd for PySem.Challenge.rw_tx0005_01

-- M1
namespace Mine
open PySem PySem.Calls PyProof.Rows PySem.W

/-- what the world holds -/
structure Wd (w : World) (b0 : Heap) (mg mb : Str → Option Value) : Prop where
  k : (hd.heap_39 w.params).In b0
  g : b0.Ns mainGlobals mg
  b : b0.Ns builtinsNs mb
  bi : ∀ x : Str, x ≠ Str.ofString "__name__" → mb x = bootBuiltins x
  nl : b0.NoLimit
  ch : CodeHd b0 102 98
  bm : b0.BuiltinsAt mg 98

def globIn (K : Frag) (x : Str) : Option Value := match K.lookup mainGlobals with
  | some ⟨_, _, .dict es _, _⟩ => nsFind es x
  | _ => none
theorem Wd.glob {w : World} {b0 : Heap} {mg mb : Str → Option Value} (W : Wd w b0 mg mb) {x : Str} {v : Value} (h : globIn (hd.heap_39 w.params) x = some v) : mg x = some v := by
  obtain ⟨o, es, ep, g, d, _, f⟩ := W.g
  unfold globIn at h
  split at h
  · rename_i c dd es' ep' sl hK
    have := W.k _ _ hK
    rw [g] at this; cases this
    cases d
    rw [← f]; exact h
  · cases h
theorem Wd.noGlob {w : World} {b0 : Heap} {mg mb : Str → Option Value} (W : Wd w b0 mg mb) {x : Str} (h : ((hd.heap_39 w.params).lookup mainGlobals).isSome = true) (h' : globIn (hd.heap_39 w.params) x = none) : mg x = none := by
  obtain ⟨o, es, ep, g, d, _, f⟩ := W.g
  unfold globIn at h'
  split at h'
  · rename_i c dd es' ep' sl hK
    have := W.k _ _ hK
    rw [g] at this; cases this
    cases d
    rw [← f]; exact h'
  · rename_i hn
    obtain ⟨o', e⟩ := Option.isSome_iff_exists.mp h
    have := W.k _ _ e
    rw [g] at this; cases this
    obtain ⟨c, dd, da, sl⟩ := o
    cases d
    exact absurd e (hn _ _ _ _ _)
theorem Wd.built {w : World} {b0 : Heap} {mg mb : Str → Option Value} (W : Wd w b0 mg mb) {x : Str} {v : Value} (h : bootBuiltins x = some v) (hx : x ≠ Str.ofString "__name__" := by decide) : mb x = some v := (W.bi x hx).trans h

def isFn (K : Frag) (a : Addr) : Bool := match K.lookup a with
  | some ⟨_, _, .func _, _⟩ => true
  | _ => false
theorem Wd.fn {w : World} {b0 : Heap} {mg mb : Str → Option Value} (W : Wd w b0 mg mb) {a : Addr} (h : isFn (hd.heap_39 w.params) a = true) : ∃ fo fd, b0.get? a = some fo ∧ fo.data = .func fd := by
  unfold isFn at h
  split at h
  · rename_i hK
    exact ⟨_, _, W.k _ _ hK, rfl⟩
  · cases h

def ordL (a b : List Nat) : Int := b2i (decide (b < a)) - b2i (decide (a < b))
def sgn (a b : Int) : Int := if a = b then 0 else if a < b then -1 else 1

section
variable {prog : Program} {w : World} {b0 : Heap} {mg mb : Str → Option Value} {z : Bool}

theorem strcoll (W : Wd w b0 mg mb) {a b : List Nat} :
    Fun prog w b0 z 1 (.ref 21) [.str a, .str b] [] (fun r own => r = .int (ordL a b) ∧ own = []) := by
  refine Fun.intro (ps := ["a", "b"]) (W.k _ _ rfl) rfl rfl rfl ⟨_, _, _, _, rfl, W.k _ _ rfl, rfl, rfl⟩ W.nl (fun vs h => ?_) rfl (by decide) (by decide) (by decide) (fun A L K g => ?_)
  · exact bind2 h (by exact fun _ _ => rfl)
  · exact Exs.cons (Ex.ret (Ev.binop (Ev.cmp (Ev.name rfl (Ev.name rfl (Op2.gt_s (Ev.cmp (Ev.name rfl (Ev.name rfl (Op2.lt_s (Op2.subb ⟨rfl, rfl⟩))))))))))) 

theorem lawSign (W : Wd w b0 mg mb) {a b : Int} :
    Fun prog w b0 z 1 (.ref 122) [.int a, .int b] [] (fun r own => r = .int (sgn a b) ∧ own = []) := by
  refine Fun.intro (ps := ["left", "right"]) (W.k _ _ rfl) rfl rfl rfl ⟨_, _, _, _, rfl, W.k _ _ rfl, rfl, rfl⟩ W.nl (fun vs h => ?_) rfl (by decide) (by decide) (by decide) (fun A L K g => ?_)
  · exact bind2 h (by exact fun _ _ => rfl)
  · refine Exs.cons (Ex.iff (Tst.cmp (Ev.name rfl (Ev.name rfl (Op2.eq (Tru.bool ⟨fun h => ?_, fun h => ?_⟩))))))
    · exact Exs.cons (Ex.ret (Ev.int ⟨by unfold sgn; rw [if_pos (eq_of_beq h)]; rfl, rfl⟩))
    · refine Exs.nil (Exs.cons (Ex.ret (Ev.ifExp (Tst.cmp (Ev.name rfl (Ev.name rfl (Op2.lt (Tru.bool ⟨fun h' => ?_, fun h' => ?_⟩))))))))
      · refine Ev.unary (Ev.int (Op1.neg ⟨?_, rfl⟩))
        have : ¬ a = b := by simpa using h
        unfold sgn; rw [if_neg this, if_pos (by simpa using h')]; rfl
      · refine Ev.int ⟨?_, rfl⟩
        have : ¬ a = b := by simpa using h
        unfold sgn; rw [if_neg this, if_neg (by simpa using h')]; rfl
end
end Mine

-- M2
namespace Mine
open PySem PySem.Calls PyProof.Rows PySem.W

theorem setLk (σ : St) (x y : String) (v : AV) : (σ.set x v).loc.lookup y = if y = x then some v else σ.loc.lookup y := lookup_setL x y v σ.loc
theorem lkS {σ : St} {x : String} {v : AV} : (σ.set x v).loc.lookup x = some v := by rw [setLk, if_pos rfl]
theorem lkN {σ : St} {x y : String} {v a : AV} (h : σ.loc.lookup y = some a) (hn : y ≠ x := by decide) : (σ.set x v).loc.lookup y = some a := by rw [setLk, if_neg hn]; exact h
theorem VR.mkTy {h : Heap} {n : String} : VR h (.ty n) (.type n) := by rw [VR]
theorem VR.mkBi {h : Heap} {n : String} : VR h (.bi n) (.builtin n) := by rw [VR]

theorem bits_le {a : Int} {k : Nat} (h : a.natAbs < 2 ^ k) : Builtin.Int.intBits a ≤ k := by
  unfold Builtin.Int.intBits
  split
  · exact Nat.zero_le _
  · rename_i h0
    have h0 : a.natAbs ≠ 0 := by simpa using h0
    exact Nat.succ_le_of_lt ((Nat.log2_lt h0).mpr h)
theorem mulOk {a b : Int} (ha : a.natAbs < 2 ^ 1000) (hb : b.natAbs < 2 ^ 1000) : IntMulOk a b := .of_bits (Nat.le_trans (bits_le ha) (by decide)) (Nat.le_trans (bits_le hb) (by decide))
theorem fdivN (a b : Nat) : ((a : Int).fdiv (b : Int)) = ((a / b : Nat) : Int) := by rw [Int.fdiv_eq_ediv_of_nonneg _ (by omega)]; rfl
theorem fmodN (a b : Nat) : ((a : Int).fmod (b : Int)) = ((a % b : Nat) : Int) := by rw [Int.fmod_eq_emod_of_nonneg _ (by omega)]; rfl

theorem noPy {x y : Int} (h : y.natAbs < 1073741824) : Builtin.divisionGoesByPylong x y = false := PyProof.noPylong_small h
def tbl : List Nat := [0, 0, 2, 60, 63, 3, 33, 1]
def dig (r : Nat) : Nat := tbl.getD (r % 8) 0
def pairGo : Nat → Nat → Nat → Nat
  | 0, v, _ => v
  | n + 1, v, r => pairGo n (v * 64 + dig r) (r / 8)
def pairV (s : Nat) : Nat := pairGo (s % 5) 0 (s / 5)
theorem dig_lt (r : Nat) : dig r < 64 := by
  unfold dig tbl
  have : r % 8 < 8 := Nat.mod_lt _ (by decide)
  have h : ∀ k, k < 8 → ([0, 0, 2, 60, 63, 3, 33, 1] : List Nat).getD k 0 < 64 := by decide
  exact h _ this

section
variable {prog : Program} {w : World} {b0 : Heap} {mg mb : Str → Option Value} {z : Bool}

theorem lawPair (W : Wd w b0 mg mb) {s : Nat} :
    Fun prog w b0 true 1 (.ref 84) [.int s] [] (fun r own => r = .tup [.int (pairV s), .int ((s % 5 : Nat) : Int)] ∧ own = []) := by
  refine Fun.intro (ps := ["size"]) (W.k _ _ rfl) rfl rfl rfl ⟨_, _, _, _, rfl, W.k _ _ rfl, rfl, rfl⟩ W.nl (fun vs h => ?_) rfl (by decide) (by decide) (by decide) (fun A L K g => ?_)
  · exact bind1 h (by exact fun _ => rfl)
  · refine Exs.cons (Ex.assign (Ev.binop (Ev.name rfl (Ev.int (Op2.fdiv (by decide) (noPy (by decide)) (Exs.cons (Ex.assign (Ev.int (Exs.cons (Ex.for ?_)))))))))) 
    refine Ev.callT (Ev.built W.g (W.noGlob rfl rfl) W.b (W.built rfl) (fun h => VR.mkTy) ⟨rfl, Arg.cons (Ev.binop (Ev.name rfl (Ev.int (Op2.mod (by decide) (Arg.nil (Cal.range1 ?_))))))⟩)
    rw [show (s : Int).fdiv 5 = ((s / 5 : Nat) : Int) from fdivN s 5, show (s : Int).fmod 5 = ((s % 5 : Nat) : Int) from fmodN s 5]
    refine ⟨_, fun i σ => i ≤ s % 5 ∧ ∃ v r : Nat, σ.own = [] ∧ σ.loc.lookup "size" = some (.int s) ∧ σ.loc.lookup "rest" = some (.int r) ∧ σ.loc.lookup "value" = some (.int v) ∧ pairGo (s % 5 - i) v r = pairV s ∧ v < 64 ^ i,
      Itr.range (g.hd rfl) (by omega) (by omega) (by omega) (by omega), ⟨Nat.zero_le _, 0, s / 5, rfl, rfl, rfl, rfl, rfl, by decide⟩, fun i x σ' hx hI => ?_, fun σ' hI => ?_⟩
    · obtain ⟨hi, v, r, h0, h1, h2, h3, h4, h5⟩ := hI
      have hlt : i < s % 5 := by
        have := (List.getElem?_eq_some_iff.mp hx).1
        simp at this; omega
      have hi4 : i < 4 := by omega
      have hv : v < 64 ^ 4 := Nat.lt_of_lt_of_le h5 (Nat.pow_le_pow_right (by decide) (by omega))
      refine Asg.name ?_
      refine Exs.cons (Ex.assign (Ev.binop (Ev.binop (Ev.name (lkN h3) (Ev.int (Op2.mul (mulOk (by omega) (by omega)) ?_)))))) 
      refine Ev.sub (Ev.tuple (Arg.cons (Ev.int (Arg.cons (Ev.int (Arg.cons (Ev.int (Arg.cons (Ev.int (Arg.cons (Ev.int (Arg.cons (Ev.int (Arg.cons (Ev.int (Arg.cons (Ev.int (Arg.nil ⟨by decide, ?_⟩))))))))))))))))))
      refine Ev.binop (Ev.name (lkN h2) (Ev.int (Op2.mod (by decide) ?_)))
      rw [show (r : Int).fmod 8 = ((r % 8 : Nat) : Int) from fmodN r 8]
      have h8 : r % 8 < 8 := Nat.mod_lt _ (by decide)
      have hd : ([AV.int 0, AV.int 0, AV.int 2, AV.int 60, AV.int 63, AV.int 3, AV.int 33, AV.int 1] : List AV)[r % 8]? = some (AV.int (dig r)) := by
        have : ∀ k, k < 8 → ([AV.int 0, AV.int 0, AV.int 2, AV.int 60, AV.int 63, AV.int 3, AV.int 33, AV.int 1] : List AV)[k]? = some (AV.int ((tbl.getD k 0 : Nat) : Int)) := by
          intro k hk
          match k, hk with
          | 0, _ | 1, _ | 2, _ | 3, _ | 4, _ | 5, _ | 6, _ | 7, _ => rfl
        exact this _ h8
      refine Op2.tupItem (by omega) (by omega) hd (Op2.add (Exs.cons (Ex.aug (lkN (lkN h2)) (Ev.int (Op2.ifdiv (by decide) (noPy (by decide)) (Exs.nil ?_))))))
      have := dig_lt r
      refine ⟨hlt, v * 64 + dig r, r / 8, h0, lkN (lkN (lkN h1)), ?_, ?_, ?_, ?_⟩
      · rw [show (r : Int).fdiv 8 = ((r / 8 : Nat) : Int) from fdivN r 8]; exact lkS
      · exact lkN lkS
      · rw [← h4, show s % 5 - i = (s % 5 - (i + 1)) + 1 by omega]; rfl
      · rw [Nat.pow_succ]; omega
    · obtain ⟨hi, v, r, h0, h1, h2, h3, h4, h5⟩ := hI
      refine Exs.cons (Ex.ret (Ev.tuple (Arg.cons (Ev.name h3 (Arg.cons (Ev.binop (Ev.name h1 (Ev.int (Op2.mod (by decide) (Arg.nil ⟨by simp, ?_, h0⟩)))))))))) 
      have : v = pairV s := by
        rw [← h4]
        rw [show s % 5 - List.length _ = 0 by simp; omega]
        rfl
      rw [show (s : Int).fmod 5 = ((s % 5 : Nat) : Int) from fmodN s 5, this]; rfl
end
end Mine

-- M3
namespace Mine
open PySem PySem.Calls PyProof.Rows PySem.W

def wordOf : Nat → Nat → List Nat
  | _, 0 => []
  | v, n + 1 => wordOf (v / 64) n ++ [32 + v % 64]
theorem wordOf_length : ∀ (n v : Nat), (wordOf v n).length = n
  | 0, _ => rfl
  | n + 1, v => by rw [wordOf, List.length_append, wordOf_length n]; rfl

/-- blanks taken off a number -/
def bared : Nat → Nat → Nat → Option (Nat × Nat)
  | 0, v, n => some (v, n)
  | k + 1, v, n => if n = 0 then none else if v < 64 ^ (n - 1) then bared k v (n - 1) else if v % 64 = 0 then bared k (v / 64) (n - 1) else bared k v n
def bareAV : Option (Nat × Nat) → AV
  | none => .none
  | some (v, n) => .tup [.int v, .int n]

section
variable {prog : Program} {w : World} {b0 : Heap} {mg mb : Str → Option Value} {z : Bool}

theorem lawWord (W : Wd w b0 mg mb) {v n : Nat} (hn : n ≤ 1000) :
    Fun prog w b0 true 1 (.ref 91) [.int v, .int n] [] (fun r own => r = .str (wordOf v n) ∧ own = []) := by
  refine Fun.intro (ps := ["value", "width"]) (W.k _ _ rfl) rfl rfl rfl ⟨_, _, _, _, rfl, W.k _ _ rfl, rfl, rfl⟩ W.nl (fun vs h => ?_) rfl (by decide) (by decide) (by decide) (fun A L K g => ?_)
  · exact bind2 h (by exact fun _ _ => rfl)
  · refine Exs.cons (Ex.assign (Ev.str (Exs.cons (Ex.for ?_))))
    refine Ev.callT (Ev.built W.g (W.noGlob rfl rfl) W.b (W.built rfl) (fun h => VR.mkTy) ⟨rfl, Arg.cons (Ev.name rfl (Arg.nil (Cal.range1 ?_)))⟩)
    refine ⟨_, fun i σ => i ≤ n ∧ ∃ (u : Nat) (cur : List Nat), σ.own = [] ∧ σ.loc.lookup "value" = some (.int u) ∧ σ.loc.lookup "word" = some (.str cur) ∧ wordOf u (n - i) ++ cur = wordOf v n ∧ cur.length = i,
      Itr.range (g.hd rfl) (by omega) (by omega) (by omega) (by omega), ⟨Nat.zero_le _, v, [], rfl, rfl, rfl, by simp, rfl⟩, fun i x σ' hx hI => ?_, fun σ' hI => ?_⟩
    · obtain ⟨hi, u, cur, h0, h1, h2, h3, h4⟩ := hI
      have hlt : i < n := by
        have := (List.getElem?_eq_some_iff.mp hx).1
        simp at this; omega
      have hm : u % 64 < 64 := Nat.mod_lt _ (by decide)
      refine Asg.name (Exs.cons (Ex.assign (Ev.binop (Ev.callB (Ev.built W.g (W.noGlob rfl rfl) W.b (W.built rfl) (fun h => VR.mkBi) ⟨rfl, Arg.cons (Ev.binop (Ev.int (Ev.binop (Ev.name (lkN h1) (Ev.int (Op2.mod (by decide) ?_))))))⟩)))))
      rw [show (u : Int).fmod 64 = ((u % 64 : Nat) : Int) from fmodN u 64]
      refine Op2.add (Arg.nil (Cal.chr (by omega) (by omega) (Ev.name (lkN h2) (Op2.add_s (by simp; omega) (Exs.cons (Ex.aug (lkN (lkN h1)) (Ev.int (Op2.ifdiv (by decide) (noPy (by decide)) (Exs.nil ?_)))))))))
      refine ⟨hlt, u / 64, (32 + u % 64) :: cur, h0, ?_, ?_, ?_, by simp; omega⟩
      · rw [show (u : Int).fdiv 64 = ((u / 64 : Nat) : Int) from fdivN u 64]; exact lkS
      · rw [lkN lkS]
        have : ((32 : Int) + ((u % 64 : Nat) : Int)).toNat = 32 + u % 64 := by omega
        rw [this]; rfl
      · rw [← h3, show n - i = (n - (i + 1)) + 1 by omega, wordOf]; simp
    · obtain ⟨hi, u, cur, h0, h1, h2, h3, h4⟩ := hI
      refine Exs.cons (Ex.ret (Ev.name h2 ⟨?_, h0⟩))
      rw [show n - List.length _ = 0 by simp] at h3
      rw [← h3]; rfl

theorem lawBared (W : Wd w b0 mg mb) {v n k : Nat} (hn : n ≤ 100) (hk : k ≤ 1000) :
    Fun prog w b0 true 1 (.ref 115) [.int v, .int n, .int k] [] (fun r own => r = bareAV (bared k v n) ∧ own = []) := by
  refine Fun.intro (ps := ["value", "width", "amount"]) (W.k _ _ rfl) rfl rfl rfl ⟨_, _, _, _, rfl, W.k _ _ rfl, rfl, rfl⟩ W.nl (fun vs h => ?_) rfl (by decide) (by decide) (by decide) (fun A L K g => ?_)
  · exact bind3 h (by exact fun _ _ _ => rfl)
  · refine Exs.cons (Ex.for ?_)
    refine Ev.callT (Ev.built W.g (W.noGlob rfl rfl) W.b (W.built rfl) (fun h => VR.mkTy) ⟨rfl, Arg.cons (Ev.name rfl (Arg.nil (Cal.range1 ?_)))⟩)
    refine ⟨_, fun i σ => i ≤ k ∧ ∃ (u m : Nat), σ.own = [] ∧ σ.loc.lookup "value" = some (.int u) ∧ σ.loc.lookup "width" = some (.int m) ∧ bared (k - i) u m = bared k v n ∧ m ≤ n,
      Itr.range (g.hd rfl) (by omega) (by omega) (by omega) (by omega), ⟨Nat.zero_le _, v, n, rfl, rfl, rfl, rfl, Nat.le_refl _⟩, fun i x σ' hx hI => ?_, fun σ' hI => ?_⟩
    · obtain ⟨hi, u, m, h0, h1, h2, h3, h4⟩ := hI
      have hlt : i < k := by
        have := (List.getElem?_eq_some_iff.mp hx).1
        simp at this; omega
      rw [show k - i = (k - (i + 1)) + 1 by omega, bared] at h3
      refine Asg.name (Exs.cons (Ex.iff (Tst.cmp (Ev.name (lkN h2) (Ev.int (Op2.eq (Tru.bool ⟨fun hc => ?_, fun hc => ?_⟩)))))))
      · have hm0 : m = 0 := by simpa using hc
        rw [if_pos hm0] at h3
        refine Exs.cons (Ex.ret (Ev.none ⟨?_, h0⟩))
        rw [← h3]; rfl
      · have hm0 : m ≠ 0 := by simpa using hc
        rw [if_neg hm0] at h3
        refine Exs.nil (Exs.cons (Ex.iff (Tst.cmp (Ev.name (lkN h1) (Ev.binop (Ev.int (Ev.binop (Ev.name (lkN h2) (Ev.int (Op2.sub (Op2.pow (by omega) (by omega) (by decide) (Op2.lt (Tru.bool ⟨fun hc => ?_, fun hc => ?_⟩)))))))))))))
        all_goals
          have e1 : ((64 : Int) ^ ((m : Int) - 1).toNat) = ((64 ^ (m - 1) : Nat) : Int) := by
            rw [show ((m : Int) - 1).toNat = m - 1 by omega]; simp
          rw [e1] at hc
        · have hc' : u < 64 ^ (m - 1) := Int.ofNat_lt.mp (of_decide_eq_true hc)
          rw [if_pos hc'] at h3
          refine Exs.cons (Ex.aug (lkN h2) (Ev.int (Op2.isub (Exs.nil (Exs.nil ⟨hlt, u, m - 1, h0, lkN (lkN h1), ?_, h3, by omega⟩)))))
          rw [lkS, show ((m - 1 : Nat) : Int) = (m : Int) - 1 by omega]
        · have hc' : ¬ u < 64 ^ (m - 1) := fun z => of_decide_eq_false hc (Int.ofNat_lt.mpr z)
          rw [if_neg hc'] at h3
          refine Exs.cons (Ex.iff (Tst.cmp (Ev.binop (Ev.name (lkN h1) (Ev.int (Op2.mod (by decide) (Ev.int (Op2.eq (Tru.bool ⟨fun hc2 => ?_, fun hc2 => ?_⟩)))))))))
          all_goals rw [show (64 : Int) = ((64 : Nat) : Int) from rfl, fmodN] at hc2
          · have hc3 : u % 64 = 0 := by simp at hc2; omega
            rw [if_pos hc3] at h3
            refine Exs.cons (Ex.aug (lkN h1) (Ev.int (Op2.ifdiv (by decide) (noPy (by decide)) (Exs.cons (Ex.aug (lkN (lkN h2)) (Ev.int (Op2.isub (Exs.nil (Exs.nil (Exs.nil ⟨hlt, u / 64, m - 1, h0, ?_, ?_, h3, by omega⟩))))))))))
            · rw [lkN lkS, show (64 : Int) = ((64 : Nat) : Int) from rfl, fdivN]
            · rw [lkS, show ((m - 1 : Nat) : Int) = (m : Int) - 1 by omega]
          · have hc3 : ¬ u % 64 = 0 := by simp at hc2; omega
            rw [if_neg hc3] at h3
            exact Exs.nil (Exs.nil (Exs.nil ⟨hlt, u, m, h0, lkN h1, lkN h2, h3, h4⟩))
    · obtain ⟨hi, u, m, h0, h1, h2, h3, h4⟩ := hI
      refine Exs.cons (Ex.ret (Ev.tuple (Arg.cons (Ev.name h1 (Arg.cons (Ev.name h2 (Arg.nil ⟨by simp, ?_, h0⟩)))))))
      rw [show k - List.length _ = 0 by simp] at h3
      rw [← h3]; rfl
end
end Mine

-- M4
namespace Mine
open PySem PySem.Calls PyProof.Rows PySem.W

/-! the class of the lexer -/
theorem sn_lineno (p : Params) : SetName (hd.heap_39 p) 73 "lineno" := ⟨rfl, rfl, rfl, rfl⟩
theorem sn_instream (p : Params) : SetName (hd.heap_39 p) 73 "instream" := ⟨rfl, rfl, rfl, rfl⟩
theorem sn_whitespace (p : Params) : SetName (hd.heap_39 p) 73 "whitespace" := ⟨rfl, rfl, rfl, rfl⟩
theorem sn_pushback (p : Params) : SetName (hd.heap_39 p) 73 "pushback" := ⟨rfl, rfl, rfl, rfl⟩
theorem sn_read (p : Params) : SetName (hd.heap_39 p) 73 "read" := ⟨rfl, rfl, rfl, rfl⟩
theorem on_lineno (p : Params) : OwnName (hd.heap_39 p) 73 "lineno" := ⟨rfl, rfl, none, rfl, rfl⟩
theorem on_instream (p : Params) : OwnName (hd.heap_39 p) 73 "instream" := ⟨rfl, rfl, none, rfl, rfl⟩
theorem on_whitespace (p : Params) : OwnName (hd.heap_39 p) 73 "whitespace" := ⟨rfl, rfl, none, rfl, rfl⟩
theorem on_pushback (p : Params) : OwnName (hd.heap_39 p) 73 "pushback" := ⟨rfl, rfl, none, rfl, rfl⟩
theorem on_read (p : Params) : OwnName (hd.heap_39 p) 73 "read" := ⟨rfl, rfl, none, rfl, rfl⟩
theorem fi_read (p : Params) : findIn (hd.heap_39 p) (.ref 73) (Str.ofString "read") = some none := rfl
theorem mn_read_char (p : Params) : MethName (hd.heap_39 p) 73 "_read_char" 56 := ⟨rfl, rfl, rfl, rfl, rfl, rfl, rfl, by decide +kernel⟩
theorem mn_get_token (p : Params) : MethName (hd.heap_39 p) 73 "get_token" 63 := ⟨rfl, rfl, rfl, rfl, rfl, rfl, rfl, by decide +kernel⟩
theorem mn_push_token (p : Params) : MethName (hd.heap_39 p) 73 "push_token" 70 := ⟨rfl, rfl, rfl, rfl, rfl, rfl, rfl, by decide +kernel⟩

abbrev WS : List Nat := [10, 9, 13, 32]
structure LxA where
  x : Addr
  dx : Addr
  pb : Addr
  p : Addr
  dp : Addr
  pb2 : Addr
  f : Addr
  c' : Addr
  cell : Addr
  s : Addr
  fo : Obj
  oc : Obj
  co : Obj
abbrev paperOwn (a : LxA) (signs : List Nat) : List (Addr × AO) := [(a.f, .raw a.fo), (a.c', .raw a.oc), (a.cell, .raw a.co), (a.s, .list (signs.map fun k => .str [k]))]
abbrev lexOwn (a : LxA) (ln : Nat) (pbs : List (List Nat)) (signs : List Nat) : List (Addr × AO) :=
  paperOwn a signs ++ [(a.x, .inst 73 a.dx [("lineno", .int ln), ("instream", .ref a.p), ("whitespace", .str WS), ("pushback", .ref a.pb)]),
    (a.pb, .list (pbs.map AV.str)), (a.p, .inst 73 a.dp [("lineno", .int 1), ("instream", .ref a.s), ("whitespace", .str WS), ("pushback", .ref a.pb2), ("read", .ref a.f)])]
def readP (a : LxA) (signs : List Nat) (r : AV) (own : List (Addr × AO)) : Prop := r = .str (signs.take 1) ∧ own = paperOwn a (signs.drop 1)
def LxOk (prog : Program) (w : World) (b0 : Heap) (a : LxA) : Prop := (∃ fd, a.fo.data = .func fd) ∧ ∀ z signs, signs.length ≤ 1000000 → Fun prog w b0 z 1 (.ref a.f) [.int 1] (paperOwn a signs) (readP a signs)
def nl (l : List Nat) : Nat := l.count 10

section
variable {prog : Program} {w : World} {b0 : Heap} {mg mb : Str → Option Value} {z : Bool}

theorem pInit (W : Wd w b0 mg mb) {x dx : Addr} {fp : AV} :
    Fun prog w b0 z 1 (.ref 49) [.ref x, fp] [(x, .inst 73 dx [])] (fun r own => r = .none ∧ ∃ pb, own = [(pb, .list []), (x, .inst 73 dx [("lineno", .int 1), ("instream", fp), ("whitespace", .str WS), ("pushback", .ref pb)])]) := by
  refine Fun.intro (ps := ["self", "fp"]) (W.k _ _ rfl) rfl rfl rfl ⟨_, _, _, _, rfl, W.k _ _ rfl, rfl, rfl⟩ W.nl (fun vs h => ?_) rfl (by decide) (by decide) (by decide) (fun A L K g => ?_)
  · exact bind2 h (by exact fun _ _ => rfl)
  · refine Exs.cons <| Ex.putAttr <| Ev.int <| Ev.name rfl ⟨x, rfl, fun v => setOwn W.k (sn_lineno _) 0 rfl <| Exs.cons <| Ex.putAttr <| Ev.name rfl <| Ev.name rfl ⟨x, rfl, fun v => setOwn W.k (sn_instream _) 0 rfl ?_⟩⟩
    refine Exs.cons <| Ex.putAttr <| Ev.lit WS rfl <| Ev.name rfl ⟨x, rfl, fun v => setOwn W.k (sn_whitespace _) 0 rfl ?_⟩
    refine Exs.cons <| Ex.putAttr <| Ev.list <| Arg.nil ⟨by simp, fun pb => Ev.name rfl ⟨x, rfl, fun v => setOwn W.k (sn_pushback _) 1 rfl ?_⟩⟩
    exact Exs.nil ⟨rfl, pb, rfl⟩

theorem readChar (W : Wd w b0 mg mb) {a : LxA} (H : LxOk prog w b0 a) {ln : Nat} {pbs : List (List Nat)} {signs : List Nat} (hz : signs.length ≤ 1000000) :
    Fun prog w b0 z 2 (.ref 56) [.ref a.x] (lexOwn a ln pbs signs) (fun r own => r = .str (signs.take 1) ∧ own = lexOwn a (ln + nl (signs.take 1)) pbs (signs.drop 1)) := by
  refine Fun.intro (ps := ["self"]) (W.k _ _ rfl) rfl rfl rfl ⟨_, _, _, _, rfl, W.k _ _ rfl, rfl, rfl⟩ W.nl (fun vs h => ?_) rfl (by decide) (by decide) (by decide) (fun A L K g => ?_)
  · exact bind1 h (by exact fun _ => rfl)
  · obtain ⟨⟨fd, hfd⟩, HF⟩ := H
    refine Exs.cons <| Ex.assign <| Ev.callOwn W.k <| Ev.attr <| Ev.name rfl ⟨a.x, rfl, getOwn W.k (on_instream _) 4 rfl rfl ⟨6, 0, a.p, 73, a.dp, _, a.f, a.fo, fd, rfl, rfl, on_read _, fi_read _, rfl, rfl, hfd, Arg.cons <| Ev.int <| Arg.nil ⟨⟨0, rfl⟩, ?_⟩⟩⟩
    refine (HF z signs hz).use g fun av own' hr => ?_
    obtain ⟨rfl, rfl⟩ := hr
    cases signs with
    | nil =>
      refine Exs.cons <| Ex.iff <| Tst.cmp <| Ev.name rfl <| Ev.lit [10] rfl <| Op2.eq_s <| Tru.bool ⟨fun hc => ?_, fun hc => ?_⟩
      · simp at hc
      · exact Exs.nil <| Exs.cons <| Ex.ret <| Ev.name rfl ⟨rfl, rfl⟩
    | cons k ks =>
      refine Exs.cons <| Ex.iff <| Tst.cmp <| Ev.name rfl <| Ev.lit [10] rfl <| Op2.eq_s <| Tru.bool ⟨fun hc => ?_, fun hc => ?_⟩
      · have hk : k = 10 := by simpa using hc
        subst hk
        refine Exs.cons <| Ex.augAttr <| Ev.name rfl ⟨a.x, rfl, getOwn W.k (on_lineno _) 4 rfl rfl <| Ev.int <| Op2.iadd <| fun v => setOwn W.k (sn_lineno _) 4 rfl <| Exs.nil <| Exs.cons <| Ex.ret <| Ev.name rfl ⟨rfl, rfl⟩⟩
      · have hk : ¬ k = 10 := by simpa using hc
        refine Exs.nil <| Exs.cons <| Ex.ret <| Ev.name rfl ⟨rfl, ?_⟩
        have : nl [k] = 0 := by unfold nl; simp [hk]
        show lexOwn a ln pbs ks = lexOwn a (ln + nl [k]) pbs ks
        rw [this]; rfl

theorem pushToken (W : Wd w b0 mg mb) {a : LxA} {ln : Nat} {pbs : List (List Nat)} {signs t : List Nat} (hz : pbs.length ≤ 1000) :
    Fun prog w b0 z 1 (.ref 70) [.ref a.x, .str t] (lexOwn a ln pbs signs) (fun r own => r = .none ∧ own = lexOwn a ln (pbs ++ [t]) signs) := by
  refine Fun.intro (ps := ["self", "token"]) (W.k _ _ rfl) rfl rfl rfl ⟨_, _, _, _, rfl, W.k _ _ rfl, rfl, rfl⟩ W.nl (fun vs h => ?_) rfl (by decide) (by decide) (by decide) (fun A L K g => ?_)
  · exact bind2 h (by exact fun _ _ => rfl)
  · refine Exs.cons <| Ex.expr <| Ev.meth F.plainAttrs_list F.slot_list_append F.type_list_append <| Ev.attr <| Ev.name rfl ⟨a.x, rfl, getOwn W.k (on_pushback _) 4 rfl rfl ⟨HasT.list 5 rfl, Arg.cons <| Ev.name rfl <| Arg.nil <| Cal.append 5 rfl (by simp; omega) <| Exs.nil ⟨rfl, ?_⟩⟩⟩
    show _ = lexOwn a ln (pbs ++ [t]) signs
    simp [lexOwn]
end
end Mine

-- M5
namespace Mine
open PySem PySem.Calls PyProof.Rows PySem.W

theorem lN {l : List (String × AV)} {x y : String} {v a : AV} (h : l.lookup y = some a) (hn : y ≠ x := by decide) : (setL x v l).lookup y = some a := by rw [lookup_setL, if_neg hn]; exact h
theorem lS {l : List (String × AV)} {x : String} {v : AV} : (setL x v l).lookup x = some v := by rw [lookup_setL, if_pos rfl]

def encQ (d : List Nat) : List Nat := subst 34 [92, 34] (subst 92 [92, 92] d)
def escAll (d : List Nat) : List Nat := d.flatMap fun k => [92, k]
theorem encQ_cons (k : Nat) (d : List Nat) : encQ (k :: d) = (if k = 92 then [92, 92] else if k = 34 then [92, 34] else [k]) ++ encQ d := by
  have e1 : subst 92 [92, 92] (k :: d) = (if k = 92 then [92, 92] else [k]) ++ subst 92 [92, 92] d := rfl
  unfold encQ
  rw [e1, subst_append]
  congr 1
  by_cases h : k = 92
  · subst h; rfl
  · rw [if_neg h, if_neg h]
    by_cases h2 : k = 34
    · subst h2; rfl
    · rw [if_neg h2]
      show (if k = 34 then [92, 34] else [k]) ++ [] = [k]
      rw [if_neg h2]; rfl
inductive Toks : List Nat → List Nat → List Nat → Prop
  | quoted (d rest : List Nat) : Toks (34 :: (encQ d ++ 34 :: rest)) d rest
  | plain (k : Nat) (d : List Nat) (x : Nat) (rest : List Nat) (hx : x ∈ WS) : Toks (escAll (k :: d) ++ x :: rest) (k :: d) rest
  | stop (l : List Nat) (h : ∀ k ∈ l, k ∈ WS) : Toks l [] []
theorem nl_cons (k : Nat) (l : List Nat) : nl (k :: l) = nl [k] + nl l := by
  unfold nl; rw [show k :: l = [k] ++ l from rfl, List.count_append]
section
variable {prog : Program} {w : World} {b0 : Heap} {mg mb : Str → Option Value}

/-- what the loops of get_token hold -/
abbrev citR (it m : Addr) (t : Tok) (a : LxA) : List (Addr × AO) := [(it, .raw (citObj m t)), (m, .raw (methodObj (.ref 56) (.ref a.x)))]

theorem nxChar (W : Wd w b0 mg mb) {a : LxA} (H : LxOk prog w b0 a) {A : Around} {env : Env} {fr fx K : List Addr} {loc : List (String × AV)} {ln : Nat} {signs : List Nat} {it m : Addr} {t : Tok} {Φ : Option AV → St → Prop} {X : XP}
    (hz : signs.length ≤ 1000000) (g : Good true 3 (cx prog w b0 A env fr fx K)) (k1 : ∀ k ks, signs = k :: ks → Φ (some (.str [k])) ⟨loc, lexOwn a (ln + nl [k]) [] ks ++ citR it m t a⟩)
    (k2 : signs = [] → ∀ R, Φ none ⟨loc, lexOwn a ln [] [] ++ R⟩) : Nx (cx prog w b0 A env fr fx K) it ⟨loc, lexOwn a ln [] signs ++ citR it m t a⟩ Φ X := by
  refine Nx.cit (g.hd rfl) g (W.k _ _ rfl) rfl 0 1 rfl rfl (Ψ := fun l own' => l = signs.take 1 ∧ own' = lexOwn a (ln + nl (signs.take 1)) [] (signs.drop 1)) ?_ (fun l own' hl h => ?_) (fun own' h => ?_)
  · exact fun A env fr fx K loc g vs X s r p Q E q x => readChar W H hz A env fr fx K loc g vs X s r p Q E (fun a' y σ' s' r' f v φ => q a' y σ' s' r' f v ⟨φ.1, _, φ.2.1, rfl, φ.2.2⟩) x
  · obtain ⟨rfl, rfl⟩ := h
    cases signs with
    | nil => exact absurd rfl hl
    | cons k ks => exact k1 k ks rfl
  · obtain ⟨e, rfl⟩ := h
    cases signs with
    | nil => exact k2 rfl _
    | cons k ks => cases e
end
end Mine

-- M6
namespace Mine
open PySem PySem.Calls PyProof.Rows PySem.W

theorem Toks.nilInv' {q d rest : List Nat} (T : Toks q d rest) (hs : [] = q) : d = [] ∧ rest = [] := by
  cases T with
  | quoted d rest => cases hs
  | plain k' d' x rest hx => cases hs
  | stop l0 h0 => exact ⟨rfl, rfl⟩
theorem Toks.nilInv {d rest : List Nat} (T : Toks [] d rest) : d = [] ∧ rest = [] := T.nilInv' rfl
theorem Toks.wsInv {k : Nat} {ks d rest : List Nat} (T : Toks (k :: ks) d rest) (hk : k ∈ WS) : d = [] ∧ rest = [] ∧ Toks ks [] [] := by
  generalize hs : k :: ks = q at T
  cases T with
  | quoted d rest => cases hs; exact absurd hk (by decide)
  | plain k' d' x rest hx => cases hs; exact absurd hk (by decide)
  | stop l0 h0 => subst hs; exact ⟨rfl, rfl, .stop ks fun q hq => h0 q (.tail _ hq)⟩
theorem Toks.quoteInv {ks d rest : List Nat} (T : Toks (34 :: ks) d rest) : ks = encQ d ++ 34 :: rest := by
  generalize hs : 34 :: ks = q at T
  cases T with
  | quoted d rest => cases hs; rfl
  | plain k' d' x rest hx => cases hs
  | stop l0 h0 => subst hs; exact absurd (h0 34 (.head _)) (by decide)
theorem Toks.plainInv {k : Nat} {ks d rest : List Nat} (T : Toks (k :: ks) d rest) (h1 : ¬ k ∈ WS) (h2 : ¬ k = 34) : ∃ y dr x, k = 92 ∧ d = y :: dr ∧ x ∈ WS ∧ ks = y :: (escAll dr ++ x :: rest) := by
  generalize hs : k :: ks = q at T
  cases T with
  | quoted d rest => cases hs; exact absurd rfl h2
  | plain k' d' x rest hx => cases hs; exact ⟨k', d', x, rfl, rfl, hx, rfl⟩
  | stop l0 h0 => subst hs; exact absurd (h0 k (.head _)) h1

section
variable {prog : Program} {w : World} {b0 : Heap} {mg mb : Str → Option Value}

theorem getPushed (W : Wd w b0 mg mb) {a : LxA} {ln : Nat} {t : List Nat} {pbs : List (List Nat)} {signs : List Nat} (hz : pbs.length ≤ 1000) :
    Fun prog w b0 true 4 (.ref 63) [.ref a.x] (lexOwn a ln (t :: pbs) signs) (fun r own => r = .str t ∧ own = lexOwn a ln pbs signs) := by
  refine Fun.intro (ps := ["self"]) (W.k _ _ rfl) rfl rfl rfl ⟨_, _, _, _, rfl, W.k _ _ rfl, rfl, rfl⟩ W.nl (fun vs h => ?_) rfl (by decide) (by decide) (by decide) (fun A L K g => ?_)
  · exact bind1 h (by exact fun _ => rfl)
  · refine Exs.cons <| Ex.iff <| Tst.val <| Ev.attr <| Ev.name rfl ⟨a.x, rfl, getOwn W.k (on_pushback _) 4 rfl rfl <| Tru.list 5 rfl (by simp; omega) ⟨fun _ => ?_, fun hc => ?_⟩⟩
    · exact Exs.cons <| Ex.ret <| Ev.meth F.plainAttrs_list F.slot_list_pop F.type_list_pop <| Ev.attr <| Ev.name rfl ⟨a.x, rfl, getOwn W.k (on_pushback _) 4 rfl rfl ⟨HasT.list 5 rfl, Arg.cons <| Ev.int <| Arg.nil <| Cal.pop0 5 rfl (by simp; omega) ⟨rfl, rfl⟩⟩⟩
    · cases hc

theorem nl_step {k l N : Nat} {ks : List Nat} (h : l + nl (k :: ks) = N) : l + nl [k] + nl ks = N := by rw [Nat.add_assoc, ← nl_cons]; exact h
theorem curLen {d cur r : List Nat} {x : Nat} (k : Nat) (e : d = cur ++ x :: r) (h : d.length ≤ 1000) : cur.length + [k].length ≤ 16777216 := by
  subst e
  rw [List.length_append, List.length_cons] at h
  show cur.length + 1 ≤ _; omega
theorem encEnd {dr ks rest : List Nat} (e : encQ dr ++ 34 :: rest = 34 :: ks) : dr = [] ∧ ks = rest := by
  cases dr with
  | nil => exact ⟨rfl, by cases e; rfl⟩
  | cons x dr' =>
    rw [encQ_cons] at e
    exfalso
    by_cases h1 : x = 92
    · rw [if_pos h1] at e; cases e
    · rw [if_neg h1] at e
      by_cases h2 : x = 34
      · rw [if_pos h2] at e; cases e
      · rw [if_neg h2] at e; cases e; exact h2 rfl
theorem encNext {k : Nat} {dr ks rest : List Nat} (e : encQ dr ++ 34 :: rest = k :: ks) (hk : ¬ k = 34) : ∃ x dr', dr = x :: dr' ∧ ((k = 92 ∧ ks = x :: (encQ dr' ++ 34 :: rest)) ∨ (k ≠ 92 ∧ k = x ∧ ks = encQ dr' ++ 34 :: rest)) := by
  cases dr with
  | nil => cases e; exact absurd rfl hk
  | cons x dr' =>
    refine ⟨x, dr', rfl, ?_⟩
    rw [encQ_cons] at e
    by_cases h1 : x = 92
    · rw [if_pos h1] at e; cases e; exact .inl ⟨rfl, by rw [h1]; rfl⟩
    · rw [if_neg h1] at e
      by_cases h2 : x = 34
      · rw [if_pos h2] at e; cases e; exact .inl ⟨rfl, by rw [h2]; rfl⟩
      · rw [if_neg h2] at e; cases e; exact .inr ⟨h1, rfl, rfl⟩
theorem escEnd {k x : Nat} {dr ks rest : List Nat} (e : escAll dr ++ x :: rest = k :: ks) (hk : k ∈ WS) : dr = [] ∧ k = x ∧ ks = rest := by
  cases dr with
  | nil => cases e; exact ⟨rfl, rfl, rfl⟩
  | cons q dr'' => cases e; exact absurd hk (by decide)
theorem escNext {k x : Nat} {dr ks rest : List Nat} (e : escAll dr ++ x :: rest = k :: ks) (hx : x ∈ WS) (hk : ¬ k ∈ WS) : ∃ q dr'', dr = q :: dr'' ∧ k = 92 ∧ ks = q :: (escAll dr'' ++ x :: rest) := by
  cases dr with
  | nil => cases e; exact absurd hx hk
  | cons q dr'' => cases e; exact ⟨q, dr'', rfl, rfl, rfl⟩
theorem encNe {dr rest : List Nat} : encQ dr ++ 34 :: rest = [] → False := fun e => by cases dr <;> simp at e
theorem escNe {x : Nat} {dr rest : List Nat} : escAll dr ++ x :: rest = [] → False := fun e => by cases dr <;> simp [escAll] at e

/-- ahead of a token -/
def ScanI (a : LxA) (it m : Addr) (t : Tok) (N : Nat) (d rest : List Nat) (n : Nat) (σ : St) : Prop :=
  ∃ l ln sg, σ = ⟨l, lexOwn a ln [] sg ++ citR it m t a⟩ ∧ Lk l [("self", .ref a.x), ("token", .str []), ("fiter", .ref it)] ∧ Toks sg d rest ∧ n = sg.length ∧ sg.length ≤ 1000000 ∧ ln + nl sg = N
/-- within a token -/
def ScanJ (a : LxA) (it m : Addr) (t : Tok) (N : Nat) (enc : List Nat → List Nat) (d : List Nat) (n : Nat) (σ : St) : Prop :=
  ∃ l ln dr cur, σ = ⟨l, lexOwn a ln [] (enc dr) ++ citR it m t a⟩ ∧ Lk l [("self", .ref a.x), ("token", .str cur)] ∧ d = cur ++ dr ∧ n = dr.length ∧ (enc dr).length ≤ 1000000 ∧ ln + nl (enc dr) = N

set_option maxHeartbeats 4000000 in
theorem getScan (W : Wd w b0 mg mb) {a : LxA} (H : LxOk prog w b0 a) {ln : Nat} {signs d rest : List Nat} (T : Toks signs d rest) (hz : signs.length ≤ 1000000) (hd : d.length ≤ 1000) :
    Fun prog w b0 true 4 (.ref 63) [.ref a.x] (lexOwn a ln [] signs) (fun r own => r = .str d ∧ ∃ ln', ln' + nl rest = ln + nl signs ∧ own = lexOwn a ln' [] rest) := by
  obtain ⟨N, hN⟩ : ∃ N, ln + nl signs = N := ⟨_, rfl⟩
  rw [hN]
  refine Fun.introD (ps := ["self"]) (W.k _ _ rfl) rfl rfl rfl ⟨_, _, _, _, rfl, W.k _ _ rfl, rfl, rfl⟩ W.nl (fun vs h => ?_) rfl (by decide) (by decide) (by decide) (fun A L K g => ?_)
  · exact bind1 h (by exact fun _ => rfl)
  have g2 := g.less (m := 2) (by decide)
  refine Exs.cons <| Ex.iff <| Tst.val <| Ev.attr <| Ev.name rfl ⟨a.x, rfl, getOwn W.k (on_pushback _) 4 rfl rfl <| Tru.list 5 rfl (by decide) ⟨fun hc => (by cases hc), fun _ => Exs.nil ?_⟩⟩
  refine Exs.cons <| Ex.assign <| Ev.lit [] rfl <| Exs.cons <| Ex.assign ?_
  refine Ev.callB <| Ev.built W.g (W.noGlob rfl rfl) W.b (W.built rfl) (fun h => VR.mkBi) ⟨rfl, Arg.cons <| Ev.attr <| Ev.name rfl ⟨a.x, rfl, getBound W.k (mn_read_char _) 4 rfl rfl fun m => Arg.cons <| Ev.lit [] rfl <| Arg.nil <| Cal.iter2 0 rfl fun it t => ?_⟩⟩
  refine Exs.cons <| Tri.perm (own' := lexOwn a ln [] signs ++ citR it m t a) (List.perm_append_comm (l₁ := [(it, _), (m, _)])) ?_
  refine Ex.forN (ScanI a it m t N d rest) <| Ev.name rfl ⟨it, rfl, iterCit 7 rfl rfl ⟨rfl, ⟨signs.length, _, ln, signs, rfl, .cons rfl <| .cons rfl <| .cons rfl .nil, T, rfl, hz, hN⟩, fun n σ' hI => ?_⟩⟩
  clear T hz hN
  obtain ⟨l, ln, sg, rfl, lk, T, hn, hz, hN⟩ := hI
  refine nxChar W H hz g (fun k ks e => ?_) (fun e R => ?_)
  · subst e
    have zk : ks.length ≤ 1000000 := Nat.le_of_succ_le hz
    have hN := nl_step hN
    refine Asg.name ?_
    refine Exs.cons <| Ex.iff <| Tst.cmp <| Ev.name lS <| Ev.attr <| Ev.name (lN (lk.at 0 rfl)) ⟨a.x, rfl, getOwn W.k (on_whitespace _) 4 rfl rfl <| Op2.in_c <| Tru.bool ⟨fun hc => ?_, fun hc => Exs.nil ?_⟩⟩
    · obtain ⟨rfl, rfl, T'⟩ := T.wsInv (of_decide_eq_true hc)
      exact Exs.cons <| Ex.cont ⟨ks.length, by rw [hn]; exact Nat.lt_succ_self _, _, ln + nl [k], ks, rfl, .cons (lN (lk.at 0 rfl)) <| .cons (lN (lk.at 1 rfl)) <| .cons (lN (lk.at 2 rfl)) .nil, T', rfl, zk, hN⟩
    · have hk : ¬ k ∈ WS := of_decide_eq_false hc
      refine Exs.cons <| Ex.iff <| Tst.cmp <| Ev.name lS <| Ev.lit [34] rfl <| Op2.eq_s <| Tru.bool ⟨fun hc2 => ?_, fun hc2 => ?_⟩
      · have hk2 : k = 34 := List.head_eq_of_cons_eq (of_decide_eq_true hc2)
        subst hk2
        have ek := T.quoteInv
        subst ek
        clear T hn hz hc hc2 hk
        refine Exs.cons <| Ex.forN (ScanJ a it m t N (fun dr => encQ dr ++ 34 :: rest) d) <| Ev.name (lN (lk.at 2 rfl)) ⟨it, rfl, iterCit 7 rfl rfl ⟨rfl, ⟨d.length, _, ln + nl [34], d, [], rfl, .cons (lN (lk.at 0 rfl)) <| .cons (lN (lk.at 1 rfl)) .nil, rfl, rfl, zk, hN⟩, fun n σ' hI => ?_⟩⟩
        clear lk zk hN
        obtain ⟨l, ln, dr, cur, rfl, lk, hd', hn, hz, hN⟩ := hI
        refine nxChar W H hz g (fun k ks e => ?_) (fun e R => (encNe e).elim)
        have e : encQ dr ++ 34 :: rest = k :: ks := e
        have hz : (encQ dr ++ 34 :: rest).length ≤ 1000000 := hz
        have hN : ln + nl (encQ dr ++ 34 :: rest) = N := hN
        rw [e] at hz hN
        have zk : ks.length ≤ 1000000 := Nat.le_of_succ_le hz
        have hM := nl_step hN
        refine Asg.name ?_
        refine Exs.cons <| Ex.iff <| Tst.cmp <| Ev.name lS <| Ev.lit [34] rfl <| Op2.eq_s <| Tru.bool ⟨fun hc3 => ?_, fun hc3 => ?_⟩
        · have hk3 : k = 34 := List.head_eq_of_cons_eq (of_decide_eq_true hc3)
          subst hk3
          obtain ⟨rfl, rfl⟩ := encEnd e
          exact Exs.cons <| Ex.ret <| Ev.name (lN (lk.at 1 rfl)) ⟨lexOwn a (ln + nl [34]) [] ks, citR it m t a, rfl, by rw [hd', List.append_nil]; rfl, ln + nl [34], hM, rfl⟩
        · obtain ⟨x, dr', rfl, hx⟩ := encNext e (fun z => of_decide_eq_false hc3 (by rw [z]))
          have hlt : dr'.length < n := by rw [hn]; exact Nat.lt_succ_self _
          have hd2 : d = (cur ++ [x]) ++ dr' := by rw [hd', List.append_cons]
          have cl := curLen x hd' hd
          clear hc3 hn e hd'
          refine Exs.cons <| Ex.iff <| Tst.cmp <| Ev.name lS <| Ev.lit [92] rfl <| Op2.eq_s <| Tru.bool ⟨fun hc4 => ?_, fun hc4 => ?_⟩
          · have hk4 : k = 92 := List.head_eq_of_cons_eq (of_decide_eq_true hc4)
            rcases hx with ⟨_, ek2⟩ | ⟨h, _⟩
            · subst ek2 hk4
              refine Exs.cons <| Ex.assign <| Ev.methI W.k <| Ev.name (lN (lk.at 0 rfl)) ⟨4, a.x, 73, a.dx, _, rfl, rfl, mn_read_char _, rfl, Arg.nil <| (readChar W H zk).use g2 fun av own' hr => ?_⟩
              obtain ⟨rfl, rfl⟩ := hr
              exact Exs.nil <| Exs.nil <| Exs.cons <| Ex.aug (lN (lN (lk.at 1 rfl))) <| Ev.name lS <| Op2.iadd_s cl <| Exs.nil ⟨dr'.length, hlt, _, ln + nl [92] + nl [x], dr', cur ++ [x], rfl, .cons (lN (lN (lN (lk.at 0 rfl)))) <| .cons lS .nil, hd2, rfl, Nat.le_of_succ_le zk, nl_step hM⟩
            · exact absurd hk4 h
          · rcases hx with ⟨h, _⟩ | ⟨_, rfl, rfl⟩
            · exact absurd (by rw [h]) (of_decide_eq_false hc4)
            · exact Exs.nil <| Exs.nil <| Exs.cons <| Ex.aug (lN (lk.at 1 rfl)) <| Ev.name (lS) <| Op2.iadd_s cl <| Exs.nil ⟨dr'.length, hlt, _, ln + nl [k], dr', cur ++ [k], rfl, .cons (lN (lN (lk.at 0 rfl))) <| .cons lS .nil, hd2, rfl, zk, hM⟩
      · obtain ⟨y, dr, x, rfl, rfl, hx, rfl⟩ := T.plainInv hk (fun z => of_decide_eq_false hc2 (by rw [z]))
        clear T hn hz hc hc2 hk
        refine Exs.cons <| Ex.iff <| Tst.cmp <| Ev.name lS <| Ev.lit [92] rfl <| Op2.eq_s <| Tru.bool ⟨fun _ => ?_, fun hc4 => absurd hc4 (by decide)⟩
        refine Exs.cons <| Ex.assign <| Ev.methI W.k <| Ev.name (lN (lk.at 0 rfl)) ⟨4, a.x, 73, a.dx, _, rfl, rfl, mn_read_char _, rfl, Arg.nil <| (readChar W H zk).use g2 fun av own' hr => ?_⟩
        obtain ⟨rfl, rfl⟩ := hr
        refine Exs.nil <| Exs.cons <| Ex.aug (lN (lN (lk.at 1 rfl))) <| Ev.name lS <| Op2.iadd_s (by show 0 + 1 ≤ _; decide) <| Exs.cons ?_
        refine Ex.forN (ScanJ a it m t N (fun dr => escAll dr ++ x :: rest) (y :: dr)) <| Ev.name (lN (lN (lN (lk.at 2 rfl)))) ⟨it, rfl, iterCit 7 rfl rfl ⟨rfl, ⟨dr.length, _, ln + nl [92] + nl [y], dr, [y], rfl, .cons (lN (lN (lN (lk.at 0 rfl)))) <| .cons lS .nil, rfl, rfl, Nat.le_of_succ_le zk, nl_step hN⟩, fun n σ' hI => ?_⟩⟩
        clear lk zk hN
        obtain ⟨l, ln, dr', cur, rfl, lk, hd', hn, hz, hN⟩ := hI
        refine nxChar W H hz g (fun k ks e => ?_) (fun e R => (escNe e).elim)
        have e : escAll dr' ++ x :: rest = k :: ks := e
        have hz : (escAll dr' ++ x :: rest).length ≤ 1000000 := hz
        have hN : ln + nl (escAll dr' ++ x :: rest) = N := hN
        rw [e] at hz hN
        have zk : ks.length ≤ 1000000 := Nat.le_of_succ_le hz
        have hM := nl_step hN
        refine Asg.name ?_
        refine Exs.cons <| Ex.iff <| Tst.cmp <| Ev.name lS <| Ev.attr <| Ev.name (lN (lk.at 0 rfl)) ⟨a.x, rfl, getOwn W.k (on_whitespace _) 4 rfl rfl <| Op2.in_c <| Tru.bool ⟨fun hc3 => ?_, fun hc3 => ?_⟩⟩
        · obtain ⟨rfl, rfl, rfl⟩ := escEnd e (of_decide_eq_true hc3)
          exact Exs.cons <| Ex.ret <| Ev.name (lN (lk.at 1 rfl)) ⟨lexOwn a (ln + nl [k]) [] ks, citR it m t a, rfl, by rw [hd', List.append_nil]; rfl, ln + nl [k], hM, rfl⟩
        · obtain ⟨q, dr'', rfl, rfl, rfl⟩ := escNext e hx (of_decide_eq_false hc3)
          have hlt : dr''.length < n := by rw [hn]; exact Nat.lt_succ_self _
          have hd2 : y :: dr = (cur ++ [q]) ++ dr'' := by rw [hd', List.append_cons]
          have cl := curLen q hd' hd
          clear hc3 hn e hd'
          refine Exs.cons <| Ex.iff <| Tst.cmp <| Ev.name lS <| Ev.lit [92] rfl <| Op2.eq_s <| Tru.bool ⟨fun _ => ?_, fun hc4 => absurd hc4 (by decide)⟩
          refine Exs.cons <| Ex.assign <| Ev.methI W.k <| Ev.name (lN (lk.at 0 rfl)) ⟨4, a.x, 73, a.dx, _, rfl, rfl, mn_read_char _, rfl, Arg.nil <| (readChar W H zk).use g2 fun av own' hr => ?_⟩
          obtain ⟨rfl, rfl⟩ := hr
          exact Exs.nil <| Exs.nil <| Exs.cons <| Ex.aug (lN (lN (lk.at 1 rfl))) <| Ev.name lS <| Op2.iadd_s cl <| Exs.nil ⟨dr''.length, hlt, _, ln + nl [92] + nl [q], dr'', cur ++ [q], rfl, .cons (lN (lN (lN (lk.at 0 rfl)))) <| .cons lS .nil, hd2, rfl, Nat.le_of_succ_le zk, nl_step hM⟩
  · subst e
    obtain ⟨rfl, rfl⟩ := T.nilInv
    exact Exs.cons <| Ex.ret <| Ev.name (lk.at 1 rfl) ⟨lexOwn a ln [] [], R, rfl, rfl, ln, hN, rfl⟩
end
end Mine

-- M7
namespace Mine
open PySem PySem.Calls PyProof.Rows PySem.W

theorem Fun.mono {prog : Program} {w : World} {b0 : Heap} {z : Bool} {n : Nat} {f : Value} {args : List AV} {own : List (Addr × AO)} {Φ Φ' : AV → List (Addr × AO) → Prop} (F : Fun prog w b0 z n f args own Φ) (k : ∀ r own', Φ r own' → Φ' r own') : Fun prog w b0 z n f args own Φ' :=
  fun A env fr fx K loc g vs X s r p Q E q x => F A env fr fx K loc g vs X s r p Q E (fun a y σ' s' r' f v φ => q a y σ' s' r' f v ⟨φ.1, k _ _ φ.2⟩) x

/-- what is owned, and a cell of the frame, told anew -/
theorem Rep.withCell {c : Cx} {σ : St} {h : Heap} {own' S R : List (Addr × AO)} {cell : Addr} {co : Obj} (r : Rep c σ h) (P1 : own'.Perm ((cell, .raw co) :: S)) (P2 : σ.own.Perm (S ++ R)) (ho : OR h cell (.raw co)) (hf : cell ∈ c.fr) :
    (∀ p ∈ own', OR h p.1 p.2) ∧ (feet own').Nodup ∧ ∀ a ∈ feet own', a ∈ feet σ.own ∨ a ∈ c.fr := by
  have fS : ∀ a ∈ feet S, a ∈ feet σ.own := fun a ha => (feet_perm P2).mem_iff.mpr (by rw [feet_append]; exact List.mem_append_left _ ha)
  have nS : (feet S).Nodup := by
    have := (feet_perm P2).nodup_iff.mp r.feetNodup
    rw [feet_append] at this
    exact (List.nodup_append.mp this).1
  refine ⟨fun p hp => ?_, (feet_perm P1).nodup_iff.mpr (List.nodup_cons.mpr ⟨fun z => (List.nodup_append.mp r.nd).2.2 cell hf cell (List.mem_append_right _ (fS _ z)) rfl, nS⟩), fun a ha => ?_⟩
  · rcases List.mem_cons.mp (P1.mem_iff.mp hp) with rfl | hp
    · exact ho
    · exact r.own p (P2.mem_iff.mpr (List.mem_append_left _ hp))
  · rcases List.mem_cons.mp ((feet_perm P1).mem_iff.mp ha) with rfl | ha
    · exact .inr hf
    · exact .inl (fS a ha)
theorem perm8 {α : Type} (pb x f pb2 p s t c' : α) : [pb, x, f, pb2, p, s, t, c'].Perm ([f, c', s, x, pb, p, t] ++ [pb2]) :=
  (List.perm_middle (l₁ := [pb, x])).trans <| .cons f <| (List.perm_middle (l₁ := [pb, x, pb2, p, s, t]) (l₂ := [])).trans <| .cons c' <| (List.perm_middle (l₁ := [pb, x, pb2, p])).trans <| .cons s <|
    (List.perm_middle (l₁ := [pb])).trans <| .cons x <| .cons pb <| (List.perm_middle (l₁ := [pb2])).trans <| .cons p <| List.perm_middle (l₁ := [pb2])

section
variable {prog : Program} {w : World} {b0 : Heap} {mg mb : Str → Option Value}

/-- what stands where _law_lexer ends -/
def lexEnd (prog : Program) (w : World) (b0 : Heap) (signs : List Nat) (c : Cx) (fl : Fl) (σ : St) : Prop :=
  ∃ (x dx pb p dp pb2 f c' s : Addr) (fo oc to : Obj), fl = .ret (.ref x) ∧ (∃ ps, to = tabObj ps) ∧
    σ.own = [(pb, .list []), (x, .inst 73 dx [("lineno", .int 1), ("instream", .ref p), ("whitespace", .str WS), ("pushback", .ref pb)]), (f, .raw fo), (pb2, .list []),
      (p, .inst 73 dp [("lineno", .int 1), ("instream", .ref s), ("whitespace", .str WS), ("pushback", .ref pb2), ("read", .ref f)]), (s, .list (signs.map fun k => .str [k]))] ++ [(98, .raw to)] ++ [(c', .raw oc)] ∧
    σ.loc.lookup "signs" = some (.ref s) ∧ c.kind "signs" = some .cell ∧ (∃ fd, fo.data = .func fd) ∧ (∀ cell, c.env.cells.lookup (Str.ofString "signs") = some cell → cell ∈ c.fr ∧ ∀ co : Obj, co.data = .cell (some (.ref s)) →
      ∀ (z : Bool) (sg : List Nat), sg.length ≤ 1000000 → Fun prog w b0 z 1 (.ref f) [.int 1] [(f, .raw fo), (c', .raw oc), (cell, .raw co), (s, .list (sg.map fun k => .str [k]))]
        (fun r own => r = .str (sg.take 1) ∧ own = [(f, .raw fo), (c', .raw oc), (cell, .raw co), (s, .list ((sg.drop 1).map fun k => .str [k]))]))

theorem lexFin {signs : List Nat} (c : Cx) (fl : Fl) (σ : St) (h : Heap) (r : Rep c σ h) (e : lexEnd prog w b0 signs c fl σ) :
    ∃ own', (∃ a ps, LxOk prog w b0 a ∧ retv fl = .ref a.x ∧ own' = lexOwn a 1 [] signs ++ [(98, .raw (tabObj ps))]) ∧ (∀ p ∈ own', OR h p.1 p.2) ∧ (feet own').Nodup ∧ ∀ a ∈ feet own', a ∈ feet σ.own ∨ a ∈ c.fr := by
  obtain ⟨x, dx, pb, p, dp, pb2, f, c', s, fo, oc, to, rfl, ⟨ps, rfl⟩, eo, el, ek, hfd, hL⟩ := e
  obtain ⟨m, _, hl⟩ := r.ns
  rcases hl "signs" _ el with ⟨i, _⟩ | ⟨_, cell, v, hcl, _, _, ⟨co, hco, hcd⟩, va⟩
  · rw [ek] at i; cases i
  cases va.ref'
  obtain ⟨hfr, HF⟩ := hL cell hcl
  have P2 := perm8 (pb, AO.list []) (x, AO.inst 73 dx [("lineno", .int 1), ("instream", .ref p), ("whitespace", .str WS), ("pushback", .ref pb)]) (f, AO.raw fo) (pb2, AO.list [])
    (p, AO.inst 73 dp [("lineno", .int 1), ("instream", .ref s), ("whitespace", .str WS), ("pushback", .ref pb2), ("read", .ref f)]) (s, AO.list (signs.map fun k => .str [k])) (98, AO.raw (tabObj ps)) (c', AO.raw oc)
  exact ⟨lexOwn ⟨x, dx, pb, p, dp, pb2, f, c', cell, s, fo, oc, co⟩ 1 [] signs ++ [(98, .raw (tabObj ps))], ⟨⟨x, dx, pb, p, dp, pb2, f, c', cell, s, fo, oc, co⟩, ps, ⟨hfd, fun z sg hz => HF co hcd z sg hz⟩, rfl, rfl⟩,
    r.withCell (List.perm_middle (l₁ := [_, _])) (by rw [eo]; exact P2) ⟨hco, .of_cell hcd⟩ hfr⟩
end
end Mine

-- M8
namespace Mine
open PySem PySem.Calls PyProof.Rows PySem.W

section
variable {prog : Program} {w : World} {b0 : Heap} {mg mb : Str → Option Value}

theorem kp_cls (p : Params) : keepIn (hd.heap_39 p) (.ref 73) = true := rfl
theorem mk_cls (p : Params) : makesIn (hd.heap_39 p) 73 = true := rfl
theorem in_cls (p : Params) : findIn (hd.heap_39 p) (.ref 73) "__init__" = some (some (.ref 49)) := rfl
theorem ty_init (p : Params) : typeIn (hd.heap_39 p) (.ref 49) = some (.type "function") := rfl

theorem lawLexer (W : Wd w b0 mg mb) {signs : List Nat} (hz : signs.length ≤ 1000000) :
    Fun prog w b0 true 3 (.ref 103) [.str signs] [(98, .raw (tabObj #[]))] (fun r own => ∃ a ps, LxOk prog w b0 a ∧ r = .ref a.x ∧ own = lexOwn a 1 [] signs ++ [(98, .raw (tabObj ps))]) := by
  refine Fun.introG (Ω := lexEnd prog w b0 signs) (ps := ["text"]) (W.k _ _ rfl) rfl rfl rfl ⟨_, _, _, _, rfl, W.k _ _ rfl, rfl, rfl⟩ W.nl (fun vs h => ?_) rfl (by decide) (by decide) (by decide) (fun A L K g => ?_) (fun c fl σ' h' r e => lexFin c fl σ' h' r e)
  · exact bind1 h (by exact fun _ => rfl)
  · refine Exs.cons <| Ex.assign (hx := Or.inr ⟨rfl, _, rfl, List.mem_cons_of_mem _ (.head _)⟩) <| Ev.callT <| Ev.built W.g (W.noGlob rfl rfl) W.b (W.built rfl) (fun h => VR.mkTy) ⟨rfl, Arg.cons <| Ev.name rfl <| Arg.nil <| Cal.list_s (g.hd rfl) (by omega) fun s => ?_⟩
    refine Exs.cons <| Ex.assign <| Ev.callC W.k (kp_cls _) <| Ev.glob W.g (W.glob rfl) (fun h => VR.mkRef) ⟨rfl, Arg.cons <| Ev.name rfl <| Arg.nil ?_⟩
    refine Cal.make (own := []) (Ψ := fun x own' => ∃ dx pb, own' = [(pb, .list []), (x, .inst 73 dx [("lineno", .int 1), ("instream", .ref s), ("whitespace", .str WS), ("pushback", .ref pb)])]) W.k (mk_cls _) (in_cls _) (ty_init _) g (fun x dx => (pInit W).mono fun r own' h => ⟨h.1, dx, h.2⟩) fun p own' h => ?_
    obtain ⟨dp, pb2, rfl⟩ := h
    refine Exs.cons <| Ex.putAttr ?_
    refine evLambda (cd := 102) (P := 98) rfl rfl rfl W.g rfl W.ch W.bm (by decide) 3 rfl fun f c' oc ctv vs t hoc hov => ?_
    refine Ev.name rfl ⟨p, rfl, fun v => setOwn W.k (sn_read _) 2 rfl ?_⟩
    refine Exs.cons <| Ex.ret <| Ev.callC W.k (kp_cls _) <| Ev.glob W.g (W.glob rfl) (fun h => VR.mkRef) ⟨rfl, Arg.cons <| Ev.name rfl <| Arg.nil ?_⟩
    refine Cal.make (own := []) (Ψ := fun x own' => ∃ dx pb, own' = [(pb, .list []), (x, .inst 73 dx [("lineno", .int 1), ("instream", .ref p), ("whitespace", .str WS), ("pushback", .ref pb)])]) W.k (mk_cls _) (in_cls _) (ty_init _) g (fun x dx => (pInit W).mono fun r own' h => ⟨h.1, dx, h.2⟩) fun x own' h => ?_
    obtain ⟨dx, pb, rfl⟩ := h
    refine ⟨x, dx, pb, p, dp, pb2, f, c', s, _, oc, _, rfl, ⟨_, rfl⟩, rfl, rfl, rfl, ⟨_, rfl⟩, fun cell hc => ?_⟩
    have : cell = L + 1 := (Option.some.inj hc).symm
    subst this
    refine ⟨List.mem_cons_of_mem _ (.head _), fun co hco z sg hsg => ?_⟩
    refine (introL (ps := ["count"]) (args := [.int 1]) (y := "signs") (own := [(s, .list (sg.map fun k => .str [k]))]) (Φ := fun r own => r = .str (sg.take 1) ∧ own = [(s, .list ((sg.drop 1).map fun k => .str [k]))]) hco hoc hov W.nl (fun vs h => ?_) rfl (by decide) (by decide) rfl (by decide) fun A L K g => ?_).mono fun r own' h => ?_
    · exact bind1 h (by exact fun _ => rfl)
    · cases sg with
      | nil => exact Ev.ifExp <| Tst.val <| Ev.name rfl <| Tru.list 0 rfl (by simp) ⟨fun hc => (by cases hc), fun _ => Ev.lit [] rfl ⟨rfl, rfl⟩⟩
      | cons k ks =>
        refine Ev.ifExp <| Tst.val <| Ev.name rfl <| Tru.list 0 rfl (by simp at hsg ⊢; omega) ⟨fun _ => ?_, fun hc => (by cases hc)⟩
        exact Ev.meth F.plainAttrs_list F.slot_list_pop F.type_list_pop <| Ev.name rfl ⟨HasT.list 0 rfl, Arg.cons <| Ev.int <| Arg.nil <| Cal.pop0 0 rfl (by simp at hsg ⊢; omega) ⟨rfl, rfl⟩⟩
    · obtain ⟨o2, rfl, h1, rfl⟩ := h
      exact ⟨h1, rfl⟩
end
end Mine

-- M9
namespace Mine
open PySem PySem.Calls PyProof.Rows PySem.W

theorem bandN (a b : Nat) : Builtin.bitAnd (a : Int) (b : Int) = ((a &&& b : Nat) : Int) := by
  unfold Builtin.bitAnd
  rw [decide_eq_true (by omega), decide_eq_true (by omega)]; rfl
theorem borN (a b : Nat) : Builtin.bitOr (a : Int) (b : Int) = ((a ||| b : Nat) : Int) := by
  have e : ∀ n : Nat, Builtin.bitNot (n : Int) = -(n : Int) - 1 := fun n => by unfold Builtin.bitNot; omega
  have e2 : ∀ n : Nat, Builtin.bitNot (-(n : Int) - 1) = n := fun n => by unfold Builtin.bitNot; omega
  unfold Builtin.bitOr Builtin.bitAnd
  rw [e, e, decide_eq_false (by omega), decide_eq_false (by omega)]
  show Builtin.bitNot (Builtin.bitNot _) = _
  rw [e2, e2]
  show Builtin.bitNot (Builtin.bitNot ((a ||| b : Nat) : Int)) = _
  rw [e, e2]
theorem and63 : ∀ d, d < 64 → (64 + d) &&& 63 = d := by decide +kernel
theorem and63' : ∀ d, d < 64 → d &&& 63 = d := by decide +kernel
theorem and64 : ∀ d, d < 64 → (64 + d) &&& 64 = 64 := by decide +kernel
theorem and64' : ∀ d, d < 64 → d &&& 64 = 0 := by decide +kernel
theorem orShift (v d : Nat) (h : d < 64) : (v * 64) ||| d = v * 64 + d := by
  have := Nat.shiftLeft_add_eq_or_of_lt (b := d) (i := 6) (by simpa using h) v
  rw [Nat.shiftLeft_eq] at this
  rw [← this]

def numOf : Nat → List Nat → Nat
  | v, [] => v
  | v, d :: ds => numOf (v * 64 + d) ds
def octs (ds : List Nat) (d : Nat) (rest : List AV) : List AV := ds.map (fun k => AV.int ((64 + k : Nat) : Int)) ++ .int d :: rest
theorem numOf_append (v : Nat) (a b : List Nat) : numOf v (a ++ b) = numOf (numOf v a) b := by
  induction a generalizing v with
  | nil => rfl
  | cons x a ih => exact ih _
theorem bound64 {v k : Nat} (h : v < 64 ^ k) (hk : k ≤ 150) : v < 2 ^ 900 := Nat.lt_of_lt_of_le h (by
  rw [show (64 : Nat) = 2 ^ 6 from rfl, ← Nat.pow_mul]; exact Nat.pow_le_pow_right (by decide) (by omega))

section
variable {prog : Program} {w : World} {b0 : Heap} {mg mb : Str → Option Value}

theorem parseVarint (W : Wd w b0 mg mb) {it lst : Addr} {ds : List Nat} {d : Nat} {rest : List AV} {z : Bool} (hd : d < 64) (hds : ∀ k ∈ ds, k < 64) (hz : ds.length ≤ 140) :
    Fun prog w b0 z 1 (.ref 35) [.ref it] [(it, .iter lst (octs ds d rest))] (fun r own => r = .int (numOf 0 (ds ++ [d])) ∧ own = [(it, .iter lst rest)]) := by
  refine Fun.intro (ps := ["iterator"]) (W.k _ _ rfl) rfl rfl rfl ⟨_, _, _, _, rfl, W.k _ _ rfl, rfl, rfl⟩ W.nl (fun vs h => ?_) rfl (by decide) (by decide) (by decide) (fun A L K g => ?_)
  · exact bind1 h (by exact fun _ => rfl)
  · -- one octet taken
    have one : ∀ (ds : List Nat) (d : Nat) (rest : List AV), d < 64 → (∀ k ∈ ds, k < 64) → ∃ (b : Nat) (m : Nat) (l : List AV), octs ds d rest = .int b :: l ∧ b &&& 63 = m ∧ m < 64 ∧ ((b &&& 64 = 0 ∧ ds = [] ∧ m = d ∧ l = rest) ∨ (b &&& 64 = 64 ∧ ∃ ds', ds = m :: ds' ∧ l = octs ds' d rest)) := by
      intro ds d rest hd hds
      cases ds with
      | nil => exact ⟨d, d, rest, rfl, and63' d hd, hd, .inl ⟨and64' d hd, rfl, rfl, rfl⟩⟩
      | cons k ks => exact ⟨64 + k, k, octs ks d rest, rfl, and63 k (hds k (.head _)), hds k (.head _), .inr ⟨and64 k (hds k (.head _)), ks, rfl, rfl⟩⟩
    obtain ⟨b, m, l, eo, em, hm, hcase⟩ := one ds d rest hd hds
    rw [eo]
    refine Exs.cons <| Ex.assign <| Ev.callB <| Ev.built W.g (W.noGlob rfl rfl) W.b (W.built rfl) (fun h => VR.mkBi) ⟨rfl, Arg.cons <| Ev.name rfl <| Arg.nil <| Cal.next 0 rfl ?_⟩
    refine Exs.cons <| Ex.assign <| Ev.binop <| Ev.name lkS <| Ev.int <| Op2.and ?_
    rw [show Builtin.bitAnd (b : Int) 63 = (m : Nat) from (bandN b 63).trans (by rw [em])]
    refine Exs.cons <| Ex.while (fun n σ => ∃ (lc : List (String × AV)) (b v : Nat) (l : List AV), σ = ⟨lc, [(it, .iter lst l)]⟩ ∧ lc.lookup "iterator" = some (.ref it) ∧ lc.lookup "b" = some (.int b) ∧ lc.lookup "val" = some (.int v) ∧
      ((b &&& 64 = 0 ∧ v = numOf 0 (ds ++ [d]) ∧ l = rest ∧ n = 0) ∨ (b &&& 64 = 64 ∧ ∃ ds', l = octs ds' d rest ∧ numOf v (ds' ++ [d]) = numOf 0 (ds ++ [d]) ∧ (∀ k ∈ ds', k < 64) ∧ n = ds'.length + 1 ∧ ∃ k, v < 64 ^ k ∧ k + ds'.length ≤ 141)))
      ds.length ?_ (fun n σ hI => ?_)
    · refine ⟨_, b, m, l, rfl, rfl, rfl, rfl, ?_⟩
      rcases hcase with ⟨h1, rfl, rfl, rfl⟩ | ⟨h1, ds', rfl, rfl⟩
      · exact .inl ⟨h1, by simp [numOf], rfl, rfl⟩
      · refine .inr ⟨h1, ds', rfl, by simp [numOf], fun k hk => hds k (.tail _ hk), rfl, 1, by simpa using hm, by simp at hz; omega⟩
    · obtain ⟨lc, b, v, l, rfl, l1, l2, l3, hc⟩ := hI
      refine Tst.val <| Ev.binop <| Ev.name l2 <| Ev.int <| Op2.and <| Tru.int ?_
      rw [show Builtin.bitAnd (b : Int) 64 = ((b &&& 64 : Nat) : Int) from bandN b 64]
      refine ⟨fun ht => ?_, fun hf => ?_⟩
      · rcases hc with ⟨h1, _⟩ | ⟨h1, ds', rfl, hnum, hk', rfl, k, hv, hk⟩
        · rw [h1] at ht; cases ht
        · obtain ⟨b', m', l', eo', em', hm', hcase'⟩ := one ds' d rest hd hk'
          rw [eo']
          have hv' := bound64 hv (by omega)
          refine Exs.cons <| Ex.aug l3 <| Ev.int <| Op2.ishl (by decide) ?_ <| Exs.cons <| Ex.assign <| Ev.callB <| Ev.built W.g (W.noGlob rfl rfl) W.b (W.built rfl) (fun h => VR.mkBi) ⟨rfl, Arg.cons <| Ev.name (lN l1) <| Arg.nil <| Cal.next 0 rfl ?_⟩
          · have : Builtin.Int.intBits (v : Int) ≤ 900 := bits_le (by simpa using hv')
            omega
          refine Exs.cons <| Ex.aug (lN lS) <| Ev.binop <| Ev.name lS <| Ev.int <| Op2.and <| Op2.ior <| Exs.nil ?_
          have ev : Builtin.bitOr ((v : Int) * 2 ^ (6 : Int).toNat) (Builtin.bitAnd (b' : Int) 63) = ((v * 64 + m' : Nat) : Int) := by
            rw [show Builtin.bitAnd (b' : Int) 63 = (m' : Nat) from (bandN b' 63).trans (by rw [em']), show ((v : Int) * 2 ^ (6 : Int).toNat) = ((v * 64 : Nat) : Int) by simp, borN, orShift _ _ hm']
          rw [ev]
          rcases hcase' with ⟨h1, rfl, rfl, rfl⟩ | ⟨h1, ds'', rfl, rfl⟩
          · exact ⟨0, by simp, _, b', v * 64 + m', l', rfl, lN (lN (lN l1)), lN lS, lS, .inl ⟨h1, by rw [← hnum]; rfl, rfl, rfl⟩⟩
          · refine ⟨ds''.length + 1, by simp, _, b', v * 64 + m', _, rfl, lN (lN (lN l1)), lN lS, lS, .inr ⟨h1, ds'', rfl, by rw [← hnum]; rfl, fun k hk => hk' k (.tail _ hk), rfl, k + 1, ?_, by simp at hk; omega⟩⟩
            rw [Nat.pow_succ]; omega
      · rcases hc with ⟨h1, rfl, rfl, rfl⟩ | ⟨h1, _⟩
        · exact Exs.cons <| Ex.ret <| Ev.name l3 ⟨rfl, rfl⟩
        · rw [h1] at hf; cases hf
end
end Mine

-- MA
namespace Mine
open PySem PySem.Calls PyProof.Rows PySem.W

theorem evComp0 {z : Bool} {n : Nat} {c : Cx} {elt target iter : Expr} {ifs : List Expr} {scope : Scope} {pos : Pos} {cl : List (Str × Addr)} {cells : List Addr} {σ : St} {Φ : AV → St → Prop} {X : XP} (g : Good z n c)
    (hfr : c.fr = c.env.locals :: cells) (hclos : closureFor scope c.env = pure cl) (hcl : ∀ x a, cl.lookup x = some a → c.env.cells.lookup x = some a) (hcel : ∀ x a, cl.lookup x = some a → a ∈ cells ++ c.fx)
    (h : Ev c iter σ (fun a σ₁ => ∃ (items : List AV) (fv : List (String × AV)) (inv : Cx → Nat → List AV → St → Prop), Itr c a items σ₁ T0 ∧ items.length ≤ 16777216 ∧
      (∀ C x av, fv.lookup x = some av → σ₁.loc.lookup x = some av ∧ (c.kind x = some .cell ∨ c.kind x = some .free) ∧ (∃ a, cl.lookup (Str.ofString x) = some a) ∧
        ((compEnvC scope cl C c.env).kindOf (Str.ofString x) = some .cell ∨ (compEnvC scope cl C c.env).kindOf (Str.ofString x) = some .free)) ∧
      (∀ C, inv (compCx c scope cl cells C) 0 [] ⟨fv, σ₁.own⟩ ∧ (∀ i x acc σ', items[i]? = some x → inv (compCx c scope cl cells C) i acc σ' →
        Asg (compCx c scope cl cells C) target x σ' (fun σ₂ => Ifs (compCx c scope cl cells C) ifs σ₂ (fun b σ₃ => (b = true → Ev (compCx c scope cl cells C) elt σ₃ (fun y σ₄ => inv (compCx c scope cl cells C) (i + 1) (acc ++ [y]) σ₄) noX) ∧
          (b = false → inv (compCx c scope cl cells C) (i + 1) acc σ₃)) noX) noX) ∧
      (∀ acc σ', inv (compCx c scope cl cells C) items.length acc σ' → ∀ d, Φ (.ref d) ⟨σ₁.loc, (d, .list acc) :: σ'.own⟩))) X)
    (hcn : ∀ y ∈ scope.names, y.2 ≠ .cell) (hnames : ∀ y ∈ scope.names, y.2 = .local → scope.names.lookup y.1 = some .local) (hk : scope.kind = .function := by rfl)
    (hs : ∀ x, foldedSetIterable iter c.env x = pure x := by intro _; rfl) : Ev c (.ListComp elt [⟨target, iter, ifs, 0⟩] scope pos) σ Φ X :=
  fun s r _ Q E q x => evComp [] g hfr hclos hcl hcel (h.mono fun a σ₁ p => by
    obtain ⟨items, fv, inv, it, p⟩ := p
    exact ⟨items, fv, inv, fun v s r _ va Q E k => it v s r trivial va Q E k, p⟩) hcn hnames hk hs s r Hid.nil Q E q x

def writtenOf (s : Nat) : List Nat := if s % 2 = 0 ∨ s % 5 = 0 then 34 :: (encQ (wordOf (pairV s) (s % 5)) ++ [34]) else escAll (wordOf (pairV s) (s % 5)) ++ [10]

theorem escAll_eq (d : List Nat) : (d.map fun k => [92, k]).flatten = escAll d := rfl
theorem escAll_len : ∀ d : List Nat, (escAll d).length = 2 * d.length
  | [] => rfl
  | k :: d => by have := escAll_len d; show (92 :: k :: escAll d).length = _; simp only [List.length_cons]; omega
theorem subst_len (c : Nat) (z : List Nat) (hz : 1 ≤ z.length) : ∀ l : List Nat, (subst c z l).length ≤ l.length * z.length
  | [] => by simp [subst]
  | k :: l => by
    have ih := subst_len c z hz l
    unfold subst at ih ⊢
    rw [List.flatMap_cons, List.length_append, List.length_cons, Nat.add_mul, Nat.one_mul]
    split
    · omega
    · simp only [List.length_cons, List.length_nil]; omega

section
variable {prog : Program} {w : World} {b0 : Heap} {mg mb : Str → Option Value}

set_option maxHeartbeats 4000000 in
theorem lawWritten (W : Wd w b0 mg mb) {s : Nat} :
    Fun prog w b0 true 2 (.ref 96) [.int s] [] (fun r own => r = .str (writtenOf s) ∧ own = []) := by
  refine Fun.introD (ps := ["size"]) (W.k _ _ rfl) rfl rfl rfl ⟨_, _, _, _, rfl, W.k _ _ rfl, rfl, rfl⟩ W.nl (fun vs h => ?_) rfl (by decide) (by decide) (by decide) (fun A L K g => ?_)
  · exact bind1 h (by exact fun _ => rfl)
  · have hw5 : s % 5 < 5 := Nat.mod_lt _ (by decide)
    have hlen := wordOf_length (s % 5) (pairV s)
    refine Exs.cons <| Ex.assignTuple <| Ev.callFn (W.fn (a := 84) rfl) <| Ev.glob W.g (W.glob rfl) (fun h => VR.mkRef) ⟨rfl, Arg.cons <| Ev.name rfl <| Arg.nil <| (lawPair W).use (own := []) (R := []) g fun av own' h => ?_⟩
    obtain ⟨rfl, rfl⟩ := h
    refine Asg.tuple (g.hd rfl) rfl <| AsgL.cons <| Asg.name <| AsgL.cons <| Asg.name <| AsgL.nil ?_
    refine Exs.cons <| Ex.assign <| Ev.callFn (W.fn (a := 91) rfl) <| Ev.glob W.g (W.glob rfl) (fun h => VR.mkRef) ⟨rfl, Arg.cons <| Ev.name rfl <| Arg.cons <| Ev.name rfl <| Arg.nil <| (lawWord W (by omega)).use (own := []) (R := []) g fun av own' h => ?_⟩
    obtain ⟨rfl, rfl⟩ := h
    -- the two ways of writing
    refine Exs.cons <| Ex.iff <| Tst.bool <| All.or <| Tst.cmp <| Ev.binop <| Ev.name rfl <| Ev.int <| Op2.mod (by decide) <| Ev.int <| Op2.eq <| Tru.bool ⟨fun h1 => ⟨fun _ => ?q1, fun hf => (nomatch hf)⟩, fun h1 => All.or <| Tst.cmp <| Ev.name rfl <| Ev.int <| Op2.eq <| Tru.bool ⟨fun h2 => ⟨fun _ => ?q2, fun hf => (nomatch hf)⟩, fun h2 => All.orNil ⟨fun hf => (nomatch hf), fun _ => ?u⟩⟩⟩
    case u =>
      rw [show (2 : Int) = ((2 : Nat) : Int) from rfl, fmodN] at h1
      have hc : ¬ (s % 2 = 0 ∨ s % 5 = 0) := by
        simp at h1 h2; omega
      refine Exs.nil <| Exs.cons <| Ex.ret <| Ev.binop <| Ev.meth F.plainAttrs_str F.slot_str_join F.type_str_join <| Ev.lit [] rfl ⟨HasT.str, Arg.cons ?_⟩
      refine evComp0 (cl := []) (cells := []) g ?a1 ?a2 ?a3 ?a4 (Ev.name rfl ⟨_, [], fun c i acc σ => acc = ((wordOf (pairV s) (s % 5)).take i).map (fun k => AV.str [92, k]) ∧ σ.own = [], Itr.str (g.hd rfl), by simp; omega, fun C x av h => (nomatch h), fun C => ⟨⟨rfl, rfl⟩, fun i x acc σ' hx hI => ?_, fun acc σ' hI d => ?_⟩⟩) ?a5 ?a6
      case a1 => exact rfl
      case a2 => exact rfl
      case a3 => exact fun _ _ h => nomatch h
      case a4 => exact fun _ _ h => nomatch h
      case a5 => decide
      case a6 => decide
      · obtain ⟨rfl, h0⟩ := hI
        rw [List.getElem?_map] at hx
        obtain ⟨k, hk, rfl⟩ := Option.map_eq_some_iff.mp hx
        refine Asg.name <| Ifs.nil ⟨fun _ => Ev.binop <| Ev.lit [92] rfl <| Ev.name lkS <| Op2.add_s (by simp) ⟨?_, h0⟩, fun hf => (nomatch hf)⟩
        rw [List.take_add_one, hk]; simp
      · obtain ⟨rfl, h0⟩ := hI
        obtain ⟨lc, own⟩ := σ'
        cases h0
        have hl2 := escAll_len (wordOf (pairV s) (s % 5))
        refine Arg.nil <| Cal.join (ls := (wordOf (pairV s) (s % 5)).map fun k => [92, k]) 0 (by simp) (by rw [escAll_eq]; omega) <| Ev.lit [10] rfl <| Op2.add_s (by rw [escAll_eq]; simp only [List.length_cons, List.length_nil]; omega) ⟨[], _, rfl, ?_, rfl⟩
        show AV.str _ = AV.str _
        unfold writtenOf
        rw [if_neg hc]
        rfl
    all_goals
      have hc : s % 2 = 0 ∨ s % 5 = 0 := by
        first
          | (left; rw [show (2 : Int) = ((2 : Nat) : Int) from rfl, fmodN] at h1; simp at h1; omega)
          | (right; simp at h2; omega)
      have z1 := subst_len 92 [92, 92] (by decide) (wordOf (pairV s) (s % 5))
      have z2 := subst_len 34 [92, 34] (by decide) (subst 92 [92, 92] (wordOf (pairV s) (s % 5)))
      simp only [List.length_cons, List.length_nil] at z1 z2
      refine Exs.cons <| Ex.ret <| Ev.binop <| Ev.binop <| Ev.lit [34] rfl <| Ev.replace (y := 34) (z := [92, 34]) rfl rfl (by decide) <| Ev.replace (y := 92) (z := [92, 92]) rfl rfl (by decide) <| Ev.name rfl ⟨_, rfl, by simp; omega, _, rfl, by simp; omega, Op2.add_s (by simp; omega) <| Ev.lit [34] rfl <| Op2.add_s (by simp; omega) ⟨[], [], rfl, ?_, rfl⟩⟩
      show AV.str _ = AV.str _
      unfold writtenOf
      rw [if_pos hc]
      rfl
end
end Mine

-- MB
namespace Mine
open PySem PySem.Calls PyProof.Rows PySem.W

/-- blanks taken off the front, then off the back -/
def stripL : Nat → List Nat → Option (Nat × List Nat)
  | 0, l => some (0, l)
  | _ + 1, [] => none
  | m + 1, c :: l => if c = 32 then stripL m l else some (m + 1, c :: l)
def stripR : Nat → List Nat → List Nat
  | 0, l => l
  | _ + 1, [] => []
  | m + 1, c :: l => if c = 32 then stripR m l else c :: l
def stripped (m : Nat) (l : List Nat) : Option (List Nat) := (stripL m l).map fun p => (stripR p.1 p.2.reverse).reverse

theorem Pass.weaken {c : Cx} {Y X X' : XP} (h : Pass c Y X) (k : ∀ v σ s, X v σ s → X' v σ s) : Pass c Y X' := fun e σ s E r y x => h e σ s E r y fun e σ' s' r' f p => x e σ' s' r' f (k _ _ _ p)

section
variable {prog : Program} {w : World} {b0 : Heap} {mg mb : Str → Option Value}

theorem stripPadding (W : Wd w b0 mg mb) {l : List Nat} {m : Nat} (hl : l.length ≤ 1000) (hm : m ≤ 1000) :
    FunX prog w b0 true 1 (.ref 28) [.str l, .int m] [] (fun av own => ∃ r, stripped m l = some r ∧ av = .str r ∧ own = []) "IndexError" (fun own => stripped m l = none ∧ own = []) := by
  refine FunX.introG (ps := ["s", "amount"]) (Ω := fun _ fl σ' => ∃ r, stripped m l = some r ∧ retv fl = .str r ∧ σ'.own = []) (W.k _ _ rfl) rfl rfl rfl ⟨_, _, _, _, rfl, W.k _ _ rfl, rfl, rfl⟩ W.nl (fun vs h => ?_) rfl (by decide) (by decide) (by decide) (fun A L K g on => ?_)
    (fun c fl σ' h' r φ => ⟨σ'.own, φ, r.own, r.feetNodup, fun a ha => .inl ha⟩) (by decide)
  · exact bind2 h (by exact fun _ _ => rfl)
  · refine Exs.cons <| Ex.assign <| Ev.int ?_
    refine Exs.cons <| Tri.mono (Φ := fun fl σ => fl = .next ∧ ∃ (lc : List (String × AV)) (n i : Nat), σ = ⟨lc, []⟩ ∧ lc.lookup "s" = some (.str l) ∧ lc.lookup "lpos" = some (.int i) ∧ lc.lookup "amount" = some (.int n) ∧ i ≤ l.length ∧ (n = 0 ∨ ∃ c, l[i]? = some c ∧ c ≠ 32) ∧ stripL m l = some (n, l.drop i))
      (Ex.whileX (Y := XNew "IndexError" fun σ => stripped m l = none ∧ σ.own = []) (fun n σ => ∃ (lc : List (String × AV)) (i : Nat), σ = ⟨lc, []⟩ ∧ lc.lookup "s" = some (.str l) ∧ lc.lookup "lpos" = some (.int i) ∧ lc.lookup "amount" = some (.int n) ∧ i ≤ l.length ∧ stripL m l = stripL n (l.drop i))
        m ⟨_, 0, rfl, rfl, rfl, rfl, Nat.zero_le _, by simp⟩ ((Pass.new on (by decide)).weaken fun _ _ _ => .inr) (fun n σ hI => ?_)) (fun fl σ hS => ?_)
    · obtain ⟨lc, i, rfl, l1, l2, l3, hi, hs⟩ := hI
      refine Tst.bool <| All.and <| Tst.val <| Ev.name l3 <| Tru.int ⟨fun ht => All.and <| Tst.cmp <| Ev.sub <| Ev.name l1 <| Ev.name l2 <| Op2.strItemX (Ψ := fun σ => stripped m l = none ∧ σ.own = []) (g.hd rfl) (by omega) ?_, fun hf => ⟨fun h => (nomatch h), fun _ => ⟨rfl, lc, n, i, rfl, l1, l2, l3, hi, .inl ?_, ?_⟩⟩⟩
      · have hn0 : n ≠ 0 := by simpa using ht
        obtain ⟨k, rfl⟩ := Nat.exists_eq_add_one_of_ne_zero hn0
        cases e : l[i]? with
        | none =>
          have hle : l.length ≤ i := by simpa using e
          refine .inr ⟨⟨hle, fun _ _ _ h => h⟩, ?_, rfl⟩
          unfold stripped
          rw [hs, List.drop_of_length_le hle]; rfl
        | some c =>
          have hlt := (List.getElem?_eq_some_iff.mp e).1
          have hd : l.drop i = c :: l.drop (i + 1) := by rw [List.drop_eq_getElem_cons hlt]; congr 1; exact (List.getElem?_eq_some_iff.mp e).2
          refine .inl ⟨c, rfl, ?_⟩
          refine Ev.lit [32] rfl <| Op2.eq_s <| Tru.bool ⟨fun hc => All.andNil ⟨fun _ => ?_, fun h => (nomatch h)⟩, fun hc => ⟨fun h => (nomatch h), fun _ => ?_⟩⟩
          · have hc : c = 32 := by simpa using hc
            refine Exs.cons <| Ex.aug l2 <| Ev.int <| Op2.iadd <| Exs.cons <| Ex.aug (lN l3) <| Ev.int <| Op2.isub <| Exs.nil ?_
            refine ⟨k, Nat.lt_succ_self _, _, i + 1, rfl, lN (lN l1), ?_, ?_, hlt, ?_⟩
            · exact lN lS
            · rw [show ((k + 1 : Nat) : Int) - 1 = (k : Nat) by omega]; exact lS
            · rw [hs, hd, stripL, if_pos hc]
          · have hc : c ≠ 32 := by simpa using hc
            refine ⟨rfl, lc, k + 1, i, rfl, l1, l2, l3, hi, .inr ⟨c, e, hc⟩, ?_⟩
            rw [hs, hd, stripL, if_neg hc]
      · simpa using hf
      · have : n = 0 := by simpa using hf
        subst this; rw [hs, stripL]
    · obtain ⟨rfl, lc, n, i, rfl, l1, l2, l3, hi, hc, hs⟩ := hS
      have hs' : stripped m l = some (stripR n (l.drop i).reverse).reverse := by unfold stripped; rw [hs]; rfl
      refine Exs.cons <| Ex.assign <| Ev.binop <| Ev.callB <| Ev.built W.g (W.noGlob rfl rfl) W.b (W.built rfl) (fun h => VR.mkBi) ⟨rfl, Arg.cons <| Ev.name l1 <| Arg.nil <| Cal.len_s (by omega) <| Ev.int <| Op2.sub ?_⟩
      refine Exs.cons <| Ex.while (fun n' σ => ∃ (lc : List (String × AV)) (j : Nat), σ = ⟨lc, []⟩ ∧ lc.lookup "s" = some (.str l) ∧ lc.lookup "lpos" = some (.int i) ∧ lc.lookup "amount" = some (.int n') ∧ lc.lookup "rpos" = some (.int ((j : Int) - 1)) ∧ i ≤ j ∧ j ≤ l.length ∧ (n' = 0 ∨ i < j ∧ ∃ c, l[i]? = some c ∧ c ≠ 32) ∧ stripR n (l.drop i).reverse = stripR n' ((l.take j).drop i).reverse)
        n ⟨_, l.length, rfl, lN l1, lN l2, lN l3, lS, hi, Nat.le_refl _, ?_, by rw [List.take_length]⟩ (fun n' σ hI => ?_)
      · rcases hc with h | ⟨c, e, hc⟩
        · exact .inl h
        · exact .inr ⟨(List.getElem?_eq_some_iff.mp e).1, c, e, hc⟩
      · obtain ⟨lc, j, rfl, k1, k2, k3, k4, hij, hj, hc', hr⟩ := hI
        refine Tst.bool <| All.and <| Tst.val <| Ev.name k3 <| Tru.int ⟨fun ht => ?_, fun hf => ⟨fun h => (nomatch h), fun _ => ?_⟩⟩
        · have hn0 : n' ≠ 0 := by simpa using ht
          obtain ⟨k, rfl⟩ := Nat.exists_eq_add_one_of_ne_zero hn0
          rcases hc' with h | ⟨hlt, c, ec, hc32⟩
          · cases h
          obtain ⟨j, rfl⟩ : ∃ j', j = j' + 1 := Nat.exists_eq_add_one_of_ne_zero (by omega)
          obtain ⟨x, ex⟩ : ∃ x, l[j]? = some x := ⟨l[j]'(by omega), List.getElem?_eq_getElem (by omega)⟩
          have hd : ((l.take (j + 1)).drop i).reverse = x :: ((l.take j).drop i).reverse := by
            rw [List.take_succ, ex, List.drop_append_of_le_length (by rw [List.length_take]; omega)]
            simp
          refine All.and <| Tst.cmp <| Ev.sub <| Ev.name k1 <| Ev.name k4 ?_
          rw [show ((j + 1 : Nat) : Int) - 1 = (j : Nat) by omega]
          refine Op2.strItem (by omega) ex <| Ev.lit [32] rfl <| Op2.eq_s <| Tru.bool ⟨fun hc => All.andNil ⟨fun _ => ?_, fun h => (nomatch h)⟩, fun hc => ⟨fun h => (nomatch h), fun _ => ?_⟩⟩
          · have hc : x = 32 := by simpa using hc
            have hne : i ≠ j := fun z => by rw [← z, ec] at ex; cases ex; exact hc32 hc
            refine Exs.cons <| Ex.aug k4 <| Ev.int <| Op2.isub <| Exs.cons <| Ex.aug (lN k3) <| Ev.int <| Op2.isub <| Exs.nil ?_
            refine ⟨k, Nat.lt_succ_self _, _, j, rfl, lN (lN k1), lN (lN k2), ?_, ?_, by omega, by omega, .inr ⟨by omega, c, ec, hc32⟩, ?_⟩
            · rw [show ((k + 1 : Nat) : Int) - 1 = (k : Nat) by omega]; exact lS
            · rw [show ((j + 1 : Nat) : Int) - 1 - 1 = (j : Int) - 1 by omega]; exact lN lS
            · rw [hr, hd, stripR, if_pos hc]
          · have hc : x ≠ 32 := by simpa using hc
            refine Exs.cons <| Ex.ret <| Ev.sslice <| Ev.name k1 <| Part.some <| Ev.name k2 ⟨_, rfl, Part.some <| Ev.binop <| Ev.name k4 <| Ev.int <| Op2.add ⟨_, rfl, ?_, ?_, l, rfl, by omega, ?_⟩⟩
            · show (0 : Int) ≤ i; omega
            · show (0 : Int) ≤ _; omega
            · refine ⟨_, hs', ?_, rfl⟩
              rw [hr, hd, stripR, if_neg hc, ← hd, List.reverse_reverse]
              show AV.str (((l.take (((j + 1 : Nat) : Int) - 1 + 1).toNat).drop (i : Int).toNat)) = _
              congr 3; omega
        · have : n' = 0 := by simpa using hf
          subst this
          refine Exs.cons <| Ex.ret <| Ev.sslice <| Ev.name k1 <| Part.some <| Ev.name k2 ⟨_, rfl, Part.some <| Ev.binop <| Ev.name k4 <| Ev.int <| Op2.add ⟨_, rfl, ?_, ?_, l, rfl, by omega, ?_⟩⟩
          · show (0 : Int) ≤ i; omega
          · show (0 : Int) ≤ _; omega
          · refine ⟨_, hs', ?_, rfl⟩
            rw [hr, stripR, List.reverse_reverse]
            show AV.str (((l.take ((j : Int) - 1 + 1).toNat).drop (i : Int).toNat)) = _
            congr 3; omega
end
end Mine

-- MC
namespace Mine
open PySem PySem.Calls PyProof.Rows PySem.W

def digs : Nat → Nat → List Nat
  | _, 0 => []
  | v, n + 1 => digs (v / 64) n ++ [v % 64]
theorem wordOf_digs : ∀ (n v : Nat), wordOf v n = (digs v n).map (32 + ·)
  | 0, _ => rfl
  | n + 1, v => by rw [wordOf, digs, wordOf_digs n, List.map_append]; rfl
theorem digs_lt : ∀ (n v : Nat), ∀ d ∈ digs v n, d < 64
  | 0, _, d, h => nomatch h
  | n + 1, v, d, h => by
    rw [digs] at h
    rcases List.mem_append.mp h with h | h
    · exact digs_lt n _ d h
    · rw [List.mem_singleton.mp h]; exact Nat.mod_lt _ (by decide)
theorem digs_len : ∀ (n v : Nat), (digs v n).length = n
  | 0, _ => rfl
  | n + 1, v => by rw [digs, List.length_append, digs_len n]; rfl
theorem numOf_digs : ∀ (n v : Nat), v < 64 ^ n → numOf 0 (digs v n) = v
  | 0, v, h => by have : v = 0 := by simpa using h
                  subst this; rfl
  | n + 1, v, h => by
    rw [digs, numOf_append, numOf_digs n (v / 64) (by rw [Nat.pow_succ] at h; omega)]
    show v / 64 * 64 + v % 64 = v
    omega
def pairAV (p : Nat × Nat) : AV := .tup [.int p.1, .int p.2]
/-- what is due next, and what is left -/
def nextOf : List (Nat × Nat) → List (Nat × Nat) → (Nat × Nat) × List (Nat × Nat) × List (Nat × Nat)
  | p :: wl, ul => (p, wl, ul)
  | [], p :: ul => (p, [], ul)
  | [], [] => ((0, 0), [], [])

theorem octFacts {v n : Nat} (hv : v < 64 ^ n) : ∃ ds d0, ds.length = n ∧ d0 < 64 ∧ (∀ k ∈ ds, k < 64) ∧ numOf 0 (ds ++ [d0]) = v ∧
    [AV.int 64] ++ ((wordOf v n).take ((wordOf v n).map fun k => AV.str [k]).length).map (fun k => AV.int ((k + 32 : Nat) : Int)) = ds.map (fun k => AV.int ((64 + k : Nat) : Int)) ++ [.int ((64 + d0 : Nat) : Int)] := by
  obtain ⟨ds, d0, hds⟩ : ∃ ds d0, 0 :: digs v n = ds ++ [d0] := ⟨_, _, (List.dropLast_concat_getLast (by simp)).symm⟩
  have hall : ∀ k ∈ 0 :: digs v n, k < 64 := fun k hk => (List.mem_cons.mp hk).elim (fun e => e ▸ by decide) (digs_lt n v k)
  refine ⟨ds, d0, ?_, hall d0 (by rw [hds]; simp), fun k hk => hall k (by rw [hds]; simp [hk]), by rw [← hds]; exact numOf_digs n v hv, ?_⟩
  · have := congrArg List.length hds
    rw [List.length_cons, digs_len, List.length_append] at this
    exact (Nat.succ.inj this).symm
  · rw [List.length_map, List.take_length, wordOf_digs, List.map_map]
    have e : (ds ++ [d0]).map (fun k => AV.int ((64 + k : Nat) : Int)) = ds.map (fun k => AV.int ((64 + k : Nat) : Int)) ++ [.int ((64 + d0 : Nat) : Int)] := by simp
    rw [← e, ← hds, List.map_cons]
    refine congrArg (AV.int 64 :: ·) (List.map_congr_left fun k _ => ?_)
    exact congrArg (fun z : Nat => AV.int z) (by show 32 + k + 32 = 64 + k; omega)
theorem shortPair {l : List (Nat × Nat)} (h : l.length ≤ 1000) : (l.map pairAV).length < 2 ^ 62 := by rw [List.length_map]; omega
theorem shortTail {p : Nat × Nat} {l : List (Nat × Nat)} (h : (p :: l).length ≤ 1000) : (l.map pairAV).length < 16777216 := by rw [List.length_map]; rw [List.length_cons] at h; omega

section
variable {prog : Program} {w : World} {b0 : Heap} {mg mb : Str → Option Value}

abbrev own9 (a : LxA) (wt un : Addr) (ln : Nat) (pbs : List (List Nat)) (signs : List Nat) (wl ul : List (Nat × Nat)) : List (Addr × AO) := lexOwn a ln pbs signs ++ [(wt, .list (wl.map pairAV)), (un, .list (ul.map pairAV))]

theorem lawNext (W : Wd w b0 mg mb) {a : LxA} {wt un : Addr} {ln : Nat} {pbs : List (List Nat)} {signs : List Nat} {wl ul wl' ul' : List (Nat × Nat)} {v n : Nat} {P : Nat → List (List Nat) → List Nat → Prop}
    (hx : nextOf wl ul = ((v, n), wl', ul')) (hv : v < 64 ^ n) (hn : n ≤ 100) (hw : wl.length ≤ 1000) (hu : ul.length ≤ 1000)
    (G : Fun prog w b0 true 4 (.ref 63) [.ref a.x] (lexOwn a ln pbs signs) (fun r own => r = .str (wordOf v n) ∧ ∃ ln' pbs' signs', own = lexOwn a ln' pbs' signs' ∧ P ln' pbs' signs')) :
    Fun prog w b0 true 5 (.ref 108) [.ref a.x, .ref wt, .ref un] (own9 a wt un ln pbs signs wl ul) (fun r own => r = .tup [.str (wordOf v n), .int v, .int n] ∧ ∃ ln' pbs' signs', own = own9 a wt un ln' pbs' signs' wl' ul' ∧ P ln' pbs' signs') := by
  refine Fun.introP (ps := ["lexer", "waiting", "unread"]) (W.k _ _ rfl) rfl rfl rfl ⟨_, _, _, _, rfl, W.k _ _ rfl, rfl, rfl⟩ W.nl (fun vs h => ?_) rfl (by decide) (by decide) (by decide) (fun A L K g => ?_)
  · exact bind3 h (by exact fun _ _ _ => rfl)
  · refine Exs.cons <| Ex.assignTuple <| Ev.tuple <| Arg.cons <| Ev.int <| Arg.cons <| Ev.int <| Arg.nil ⟨by simp, Asg.tuple (g.hd rfl) rfl <| AsgL.cons <| Asg.name <| AsgL.cons <| Asg.name <| AsgL.nil ?_⟩
    refine Exs.cons <| Tri.mono (Φ := fun fl σ => fl = .next ∧ σ.own = own9 a wt un ln pbs signs wl' ul' ∧ σ.loc.lookup "lexer" = some (.ref a.x) ∧ σ.loc.lookup "value" = some (.int v) ∧ σ.loc.lookup "width" = some (.int n)) ?head (fun fl σ hS => ?_)
    case head =>
      refine Ex.iff <| Tst.val <| Ev.name rfl <| Tru.list 7 rfl (shortPair hw) ⟨fun ht => ?_, fun hf => ?_⟩
      · cases wl with
        | nil => cases ht
        | cons p wl =>
          cases hx
          refine Exs.cons <| Ex.assignTuple <| Ev.meth F.plainAttrs_list F.slot_list_pop F.type_list_pop <| Ev.name rfl ⟨HasT.list 7 rfl, Arg.cons <| Ev.int <| Arg.nil <| Cal.pop0 7 rfl (shortTail hw) ?_⟩
          exact Asg.tuple (g.hd rfl) rfl <| AsgL.cons <| Asg.name <| AsgL.cons <| Asg.name <| AsgL.nil <| Exs.nil ⟨rfl, rfl, rfl, rfl, rfl⟩
      · cases wl with
        | cons p wl => cases hf
        | nil =>
          refine Exs.cons <| Ex.iff <| Tst.val <| Ev.name rfl <| Tru.list 8 rfl (shortPair hu) ⟨fun ht => ?_, fun hf => ?_⟩
          · cases ul with
            | nil => cases ht
            | cons p ul =>
              cases hx
              refine Exs.cons <| Ex.assignTuple <| Ev.meth F.plainAttrs_list F.slot_list_pop F.type_list_pop <| Ev.name rfl ⟨HasT.list 8 rfl, Arg.cons <| Ev.int <| Arg.nil <| Cal.pop0 8 rfl (shortTail hu) ?_⟩
              exact Asg.tuple (g.hd rfl) rfl <| AsgL.cons <| Asg.name <| AsgL.cons <| Asg.name <| AsgL.nil <| Exs.nil <| Exs.nil ⟨rfl, rfl, rfl, rfl, rfl⟩
          · cases ul with
            | cons p ul => cases hf
            | nil =>
              cases hx
              exact Exs.nil <| Exs.nil ⟨rfl, rfl, rfl, rfl, rfl⟩
    obtain ⟨lc, own⟩ := σ
    obtain ⟨rfl, eo, l1, l2, l3⟩ := hS
    cases eo
    refine Exs.cons <| Ex.assign <| Ev.methI W.k <| Ev.name l1 ⟨4, a.x, 73, a.dx, _, rfl, rfl, mn_get_token _, rfl, Arg.nil <| G.use (own := lexOwn a ln pbs signs) (R := [(wt, .list (wl'.map pairAV)), (un, .list (ul'.map pairAV))]) g fun av own' h => ?_⟩
    obtain ⟨rfl, ln', pbs', signs', rfl, hP⟩ := h
    have hwl := wordOf_length n v
    refine Exs.cons <| Ex.assign <| Ev.binop <| Ev.list <| Arg.cons <| Ev.int <| Arg.nil ⟨by simp, fun o1 => ?_⟩
    refine evComp0 (cl := []) (cells := []) g ?a1 ?a2 ?a3 ?a4 (Ev.name lS ⟨_, [], fun c i acc σ => acc = ((wordOf v n).take i).map (fun k => AV.int ((k + 32 : Nat) : Int)) ∧ σ.own = (o1, .list [.int 64]) :: own9 a wt un ln' pbs' signs' wl' ul', Itr.str (g.hd rfl), by simp; omega, fun C x av h => (nomatch h), fun C => ⟨⟨rfl, rfl⟩, fun i x acc σ' hx hI => ?_, fun acc σ' hI d => ?_⟩⟩) ?a5 ?a6
    case a1 => exact rfl
    case a2 => exact rfl
    case a3 => exact fun _ _ h => nomatch h
    case a4 => exact fun _ _ h => nomatch h
    case a5 => decide
    case a6 => decide
    · obtain ⟨rfl, h0⟩ := hI
      rw [List.getElem?_map] at hx
      obtain ⟨k, hk, rfl⟩ := Option.map_eq_some_iff.mp hx
      refine Asg.name <| Ifs.nil ⟨fun _ => Ev.binop <| Ev.callB <| Ev.built W.g (W.noGlob rfl rfl) W.b (W.built rfl) (fun h => VR.mkBi) ⟨rfl, Arg.cons <| Ev.name lkS <| Arg.nil <| Cal.ord <| Ev.int <| Op2.add ⟨?_, h0⟩⟩, fun hf => (nomatch hf)⟩
      rw [List.take_add_one, hk]; simp
    · obtain ⟨rfl, h0⟩ := hI
      obtain ⟨lc', own⟩ := σ'
      cases h0
      refine Op2.addL 1 0 rfl rfl (by simp; omega) fun o2 => ?_
      obtain ⟨ds, d0, hlD, hd0, hdsl, hnum, hoct⟩ := octFacts hv
      rw [hoct]
      refine Exs.cons <| Ex.expr <| Ev.meth F.plainAttrs_list F.slot_list_append F.type_list_append <| Ev.name lS ⟨HasT.list 0 rfl, Arg.cons <| Ev.binop <| Ev.meth F.plainAttrs_list F.slot_list_pop F.type_list_pop <| Ev.name lS ⟨HasT.list 0 rfl, Arg.nil <| Cal.pop 0 rfl (by simp; omega) <| Ev.int <| Op2.sub <| Arg.nil <| Cal.append 0 rfl (by simp; omega) ?_⟩⟩
      rw [show ((64 + d0 : Nat) : Int) - 64 = (d0 : Int) by omega]
      refine Exs.cons <| Ex.iff <| Tst.bool <| All.or <| Tst.cmp <| Ev.name (lN lS) <| Ev.callFn (W.fn (a := 91) rfl) <| Ev.glob W.g (W.glob rfl) (fun h => VR.mkRef) ⟨rfl, Arg.cons <| Ev.name (lN (lN l2)) <| Arg.cons <| Ev.name (lN (lN l3)) <| Arg.nil <| (lawWord W (by omega)).use (own := []) (g.less (by decide)) fun av own' h => ?_⟩
      obtain ⟨rfl, rfl⟩ := h
      refine Op2.ne_s <| Tru.bool ⟨fun h => ?_, fun _ => ?_⟩
      · simp at h
      refine All.or <| Tst.cmp <| Ev.callFn (W.fn (a := 35) rfl) <| Ev.glob W.g (W.glob rfl) (fun h => VR.mkRef) ⟨rfl, Arg.cons <| Ev.callB <| Ev.built W.g (W.noGlob rfl rfl) W.b (W.built rfl) (fun h => VR.mkBi) ⟨rfl, Arg.cons <| Ev.name lS <| Arg.nil <| Cal.iterL 0 rfl fun d => Arg.nil <| (parseVarint W (ds := ds) (d := d0) (rest := []) hd0 hdsl (by omega)).use (own := [(d, .iter o2 (octs ds d0 []))]) (g.less (by decide)) fun av own' h => ?_⟩⟩
      obtain ⟨rfl, rfl⟩ := h
      rw [hnum]
      refine Ev.name (lN (lN l2)) <| Op2.ne <| Tru.bool ⟨fun h => ?_, fun _ => ?_⟩
      · simp at h
      refine All.orNil ⟨fun h => (nomatch h), fun _ => Exs.nil <| Exs.cons <| Ex.ret <| Ev.tuple <| Arg.cons <| Ev.name (lN lS) <| Arg.cons <| Ev.name (lN (lN l2)) <| Arg.cons <| Ev.name (lN (lN l3)) <| Arg.nil ⟨by simp, ?_⟩⟩
      exact ⟨own9 a wt un ln' pbs' signs' wl' ul', _, (List.perm_append_comm (l₁ := [_, _, _])), rfl, ln', pbs', signs', rfl, hP⟩
end
end Mine

-- MD
namespace Mine
open PySem PySem.Calls PyProof.Rows PySem.W

theorem pairGo_lt : ∀ (n v r k : Nat), v < 64 ^ k → pairGo n v r < 64 ^ (k + n)
  | 0, v, r, k, h => h
  | n + 1, v, r, k, h => by
    have := pairGo_lt n (v * 64 + dig r) (r / 8) (k + 1) (by have := dig_lt r; rw [Nat.pow_succ]; omega)
    rw [show k + (n + 1) = k + 1 + n by omega]; exact this
theorem pairV_lt (s : Nat) : pairV s < 64 ^ (s % 5) := by
  have := pairGo_lt (s % 5) 0 (s / 5) 0 (by decide)
  rwa [Nat.zero_add] at this

def pairP (s : Nat) : Nat × Nat := (pairV s, s % 5)
def wordP (p : Nat × Nat) : List Nat := wordOf p.1 p.2
def tlF : List Nat := [10, 32, 9, 13]
def stream (us tl : List Nat) : List Nat := us.flatMap writtenOf ++ tl
/-- what comes next, and what is left -/
def nextA : List (Nat × Nat) → List Nat → List Nat → (Nat × Nat) × List (Nat × Nat) × List Nat × List Nat
  | p :: wl, us, tl => (p, wl, us, tl)
  | [], s :: us, tl => (pairP s, [], us, tl)
  | [], [], tl => ((0, 0), [], [], [])
def totW : List (Nat × Nat) → Nat
  | [] => 0
  | p :: l => p.2 + totW l
theorem totW_append : ∀ a b, totW (a ++ b) = totW a + totW b
  | [], b => by simp [totW]
  | p :: a, b => by rw [List.cons_append, totW, totW, totW_append a b]; omega
structure Ok (wl : List (Nat × Nat)) (us tl : List Nat) (T L : Nat) : Prop where
  val : ∀ p ∈ wl, p.1 < 64 ^ p.2
  tot : totW wl + totW (us.map pairP) ≤ T
  len : wl.length + us.length ≤ L
  tail : tl = tlF ∨ tl = [] ∧ us = []

theorem Ok.next {wl : List (Nat × Nat)} {us tl : List Nat} {T L : Nat} {p : Nat × Nat} {wl' : List (Nat × Nat)} {us' tl' : List Nat} (o : Ok wl us tl T L) (e : nextA wl us tl = (p, wl', us', tl')) :
    p.1 < 64 ^ p.2 ∧ p.2 ≤ T ∧ Ok wl' us' tl' (T - p.2) L := by
  obtain ⟨hv, ht, hl, htl⟩ := o
  match wl, us, e, hv, ht, hl with
  | p :: wl, us, e, hv, ht, hl =>
    cases e
    rw [totW] at ht
    refine ⟨hv p (.head _), by omega, ⟨fun q hq => hv q (.tail _ hq), by omega, ?_, htl⟩⟩
    simp only [List.length_cons] at hl; omega
  | [], s :: us, e, hv, ht, hl =>
    cases e
    rw [List.map_cons, totW, totW] at ht
    refine ⟨pairV_lt s, by omega, ⟨fun q hq => hv q hq, by rw [totW]; omega, ?_, ?_⟩⟩
    · simp only [List.length_cons] at hl; omega
    · rcases htl with h | ⟨_, h⟩
      · exact .inl h
      · cases h
  | [], [], e, hv, ht, hl =>
    cases e
    exact ⟨by decide, Nat.zero_le _, ⟨fun q hq => hv q hq, Nat.zero_le _, hl, .inr ⟨rfl, rfl⟩⟩⟩

theorem Ok.push {wl : List (Nat × Nat)} {us tl : List Nat} {T L : Nat} {p : Nat × Nat} {m : Nat} (o : Ok wl us tl T L) (hp : p.1 < 64 ^ p.2) (hm : p.2 ≤ m) : Ok (wl ++ [p]) us tl (T + m) (L + 1) := by
  refine ⟨fun q hq => ?_, ?_, ?_, o.tail⟩
  · rcases List.mem_append.mp hq with h | h
    · exact o.val q h
    · rw [List.mem_singleton.mp h]; exact hp
  · have := o.tot; rw [totW_append, totW, totW]; omega
  · have := o.len; simp only [List.length_append, List.length_cons, List.length_nil]; omega
theorem Ok.weak {wl : List (Nat × Nat)} {us tl : List Nat} {T L T' L' : Nat} (o : Ok wl us tl T L) (h1 : T ≤ T') (h2 : L ≤ L') : Ok wl us tl T' L' := ⟨o.val, Nat.le_trans o.tot h1, Nat.le_trans o.len h2, o.tail⟩

theorem writtenOf_len (s : Nat) : (writtenOf s).length ≤ 40 := by
  have hw5 : s % 5 < 5 := Nat.mod_lt _ (by decide)
  have hlen := wordOf_length (s % 5) (pairV s)
  have z1 := subst_len 92 [92, 92] (by decide) (wordOf (pairV s) (s % 5))
  have z2 := subst_len 34 [92, 34] (by decide) (subst 92 [92, 92] (wordOf (pairV s) (s % 5)))
  have hl2 := escAll_len (wordOf (pairV s) (s % 5))
  simp only [List.length_cons, List.length_nil] at z1 z2
  unfold writtenOf encQ
  split
  · simp only [List.length_cons, List.length_append, List.length_nil]; omega
  · simp only [List.length_cons, List.length_append, List.length_nil]; omega
theorem flat_len : ∀ us : List Nat, (us.flatMap writtenOf).length ≤ 40 * us.length
  | [] => Nat.zero_le _
  | s :: us => by
    have := flat_len us
    have := writtenOf_len s
    rw [List.flatMap_cons, List.length_append, List.length_cons]; omega
theorem stream_len {us tl : List Nat} {L : Nat} (h : us.length ≤ L) (h' : tl = tlF ∨ tl = [] ∧ us = []) : (stream us tl).length ≤ 40 * L + 4 := by
  have := flat_len us
  unfold stream
  rw [List.length_append]
  have : tl.length ≤ 4 := by rcases h' with h | ⟨h, _⟩ <;> subst h <;> decide
  have : 40 * us.length ≤ 40 * L := Nat.mul_le_mul_left _ h
  omega

theorem toksOf (s : Nat) (rest : List Nat) : Toks (writtenOf s ++ rest) (wordOf (pairV s) (s % 5)) rest := by
  unfold writtenOf
  split
  · rw [List.cons_append, List.append_assoc]; exact Toks.quoted _ rest
  · rename_i h
    rw [List.append_assoc]
    have hl := wordOf_length (s % 5) (pairV s)
    cases e : wordOf (pairV s) (s % 5) with
    | nil => rw [e] at hl; simp at hl; omega
    | cons k d => exact Toks.plain k d 10 rest (by decide)

section
variable {prog : Program} {w : World} {b0 : Heap} {mg mb : Str → Option Value}

abbrev ownA (a : LxA) (wt un : Addr) (ln : Nat) (wl : List (Nat × Nat)) (us tl : List Nat) : List (Addr × AO) := own9 a wt un ln (wl.map wordP) (stream us tl) wl (us.map pairP)
def NextPost (a : LxA) (wt un : Addr) (N : Nat) (p : Nat × Nat) (wl : List (Nat × Nat)) (us tl : List Nat) (r : AV) (own : List (Addr × AO)) : Prop :=
  r = .tup [.str (wordP p), .int p.1, .int p.2] ∧ ∃ ln, ln + nl (stream us tl) = N ∧ own = ownA a wt un ln wl us tl

theorem lawNextA (W : Wd w b0 mg mb) {a : LxA} (H : LxOk prog w b0 a) {wt un : Addr} {ln N T L : Nat} {wl : List (Nat × Nat)} {us tl : List Nat} {p : Nat × Nat} {wl' : List (Nat × Nat)} {us' tl' : List Nat}
    (o : Ok wl us tl T L) (hT : T ≤ 100) (hL : L ≤ 1000) (e : nextA wl us tl = (p, wl', us', tl')) (hN : ln + nl (stream us tl) = N) :
    Fun prog w b0 true 5 (.ref 108) [.ref a.x, .ref wt, .ref un] (ownA a wt un ln wl us tl) (NextPost a wt un N p wl' us' tl') := by
  obtain ⟨hv, ht, o'⟩ := o.next e
  have hl := o.len
  have hsl := stream_len (us := us) (L := 1000) (by omega) o.tail
  match wl, us, e, o, hl, hN, hsl with
  | p :: wl, us, e, o, hl, hN, hsl =>
    simp only [nextA, Prod.mk.injEq] at e
    obtain ⟨rfl, rfl, rfl, rfl⟩ := e
    simp only [List.length_cons] at hl
    refine (lawNext W (wl := p :: wl) (ul := us.map pairP) (v := p.1) (n := p.2) (P := fun ln' pbs' signs' => ln' = ln ∧ pbs' = wl.map wordP ∧ signs' = stream us tl) (wl' := wl) (ul' := us.map pairP) rfl hv (by omega) (by simp; omega) (by simp; omega)
      ((getPushed W (by simp; omega)).mono fun r own h => ⟨h.1, _, _, _, h.2, rfl, rfl, rfl⟩)).mono fun r own h => ?_
    obtain ⟨h1, ln', pbs', signs', h2, rfl, rfl, rfl⟩ := h
    exact ⟨h1, _, hN, h2⟩
  | [], s :: us, e, o, hl, hN, hsl =>
    simp only [nextA, Prod.mk.injEq] at e
    obtain ⟨rfl, rfl, rfl, rfl⟩ := e
    simp only [List.length_cons] at hl
    have es : stream (s :: us) tl = writtenOf s ++ stream us tl := by unfold stream; rw [List.flatMap_cons, List.append_assoc]
    have hw5 : s % 5 < 5 := Nat.mod_lt _ (by decide)
    refine (lawNext W (wl := []) (ul := (s :: us).map pairP) (v := pairV s) (n := s % 5) (P := fun ln' pbs' signs' => ln' + nl (stream us tl) = N ∧ pbs' = [] ∧ signs' = stream us tl) (wl' := []) (ul' := us.map pairP) rfl (pairV_lt s) (by omega) (by simp) (by simp; omega)
      ((getScan W H (T := by rw [es]; exact toksOf s _) (by omega) (by rw [wordOf_length]; omega)).mono fun r own h => ?_)).mono fun r own h => ?_
    · obtain ⟨h1, m, h2, h3⟩ := h
      exact ⟨h1, _, _, _, h3, h2.trans hN, rfl, rfl⟩
    obtain ⟨h1, ln', pbs', signs', h2, h3, rfl, rfl⟩ := h
    exact ⟨h1, _, h3, h2⟩
  | [], [], e, o, hl, hN, hsl =>
    simp only [nextA, Prod.mk.injEq] at e
    obtain ⟨rfl, rfl, rfl, rfl⟩ := e
    have es : ∀ k ∈ stream [] tl, k ∈ WS := by
      rcases o.tail with h | ⟨h, _⟩ <;> subst h <;> unfold stream <;> decide
    refine (lawNext W (wl := []) (ul := []) (v := 0) (n := 0) (P := fun ln' pbs' signs' => ln' + nl [] = N ∧ pbs' = [] ∧ signs' = []) (wl' := []) (ul' := []) rfl (by decide) (by decide) (by simp) (by simp)
      ((getScan W H (T := Toks.stop _ es) (by omega) (by simp)).mono fun r own h => ?_)).mono fun r own h => ?_
    · obtain ⟨h1, m, h2, h3⟩ := h
      exact ⟨h1, _, _, _, h3, h2.trans hN, rfl, rfl⟩
    obtain ⟨h1, ln', pbs', signs', h2, h3, rfl, rfl⟩ := h
    exact ⟨h1, _, h3, h2⟩
end
end Mine

-- ME
namespace Mine
open PySem PySem.Calls PyProof.Rows PySem.W

/-! words and numbers -/
theorem pow64_pos (n : Nat) : 0 < 64 ^ n := Nat.pow_pos (by decide)
theorem wordOf_head : ∀ (n v : Nat), v < 64 ^ (n + 1) → wordOf v (n + 1) = (32 + v / 64 ^ n) :: wordOf (v % 64 ^ n) n
  | 0, v, h => by
    simp only [Nat.pow_zero, Nat.div_one, wordOf]
    rw [Nat.mod_eq_of_lt (by simpa using h)]; rfl
  | n + 1, v, h => by
    have h' : v / 64 < 64 ^ (n + 1) := by rw [Nat.pow_succ] at h; omega
    rw [wordOf, wordOf_head n (v / 64) h', wordOf, List.cons_append]
    have e1 : v / 64 / 64 ^ n = v / 64 ^ (n + 1) := by rw [Nat.div_div_eq_div_mul, Nat.pow_succ, Nat.mul_comm]
    have e2 : v % 64 ^ (n + 1) / 64 = v / 64 % 64 ^ n := by rw [Nat.pow_succ, Nat.mul_comm]; exact Nat.mod_mul_right_div_self ..
    have e3 : v % 64 ^ (n + 1) % 64 = v % 64 := by rw [Nat.pow_succ, Nat.mul_comm]; exact Nat.mod_mul_right_mod ..
    rw [e1, e2, e3]
theorem wordOf_zero {n v : Nat} (h : v < 64 ^ n) : wordOf v (n + 1) = 32 :: wordOf v n := by
  have hp := pow64_pos n
  rw [wordOf_head n v (by rw [Nat.pow_succ]; omega), Nat.div_eq_of_lt h, Nat.mod_eq_of_lt h]
theorem wordOf_big {n v : Nat} (h : ¬ v < 64 ^ n) (h' : v < 64 ^ (n + 1)) : ∃ c l, wordOf v (n + 1) = c :: l ∧ c ≠ 32 := by
  refine ⟨_, _, wordOf_head n v h', ?_⟩
  have := Nat.div_pos (Nat.le_of_not_lt h) (pow64_pos n)
  omega
theorem wordOf_rev (v n : Nat) : (wordOf v (n + 1)).reverse = (32 + v % 64) :: (wordOf (v / 64) n).reverse := by
  rw [wordOf, List.reverse_append]; rfl

theorem stripR_keep {c : Nat} (hc : c ≠ 32) (l : List Nat) : ∀ k, stripR k (c :: l) = c :: l
  | 0 => rfl
  | k + 1 => by rw [stripR, if_neg hc]
theorem bared_R : ∀ (k v n : Nat), 64 ^ n ≤ v → v < 64 ^ (n + 1) → (bared k v (n + 1)).map wordP = some (stripR k (wordOf v (n + 1)).reverse).reverse
  | 0, v, n, h, h' => by rw [bared, stripR, List.reverse_reverse]; rfl
  | k + 1, v, n, h, h' => by
    rw [bared, if_neg (by omega), show n + 1 - 1 = n from rfl, if_neg (by omega)]
    by_cases hz : v % 64 = 0
    · rw [if_pos hz, wordOf_rev, hz, stripR, if_pos rfl]
      cases n with
      | zero => rw [Nat.zero_add, Nat.pow_one] at h'; simp at h; omega
      | succ n =>
        refine bared_R k (v / 64) n ?_ ?_
        · rw [Nat.pow_succ] at h; omega
        · rw [Nat.pow_succ] at h'; omega
    · rw [if_neg hz, bared_R k v n h h', wordOf_rev, stripR_keep (by omega), stripR_keep (by omega)]
theorem bared_strip : ∀ (k v n : Nat), v < 64 ^ n → stripped k (wordOf v n) = (bared k v n).map wordP
  | 0, v, n, h => by
    show some (stripR 0 (wordOf v n).reverse).reverse = some (wordOf v n)
    rw [stripR, List.reverse_reverse]
  | k + 1, v, 0, h => by rw [bared, if_pos rfl]; rfl
  | k + 1, v, n + 1, h => by
    by_cases hz : v < 64 ^ n
    · rw [bared, if_neg (by omega), show n + 1 - 1 = n from rfl, if_pos hz, ← bared_strip k v n hz]
      unfold stripped
      rw [wordOf_zero hz, stripL, if_pos rfl]
    · rw [bared_R (k + 1) v n (by omega) h]
      obtain ⟨c, l, e, hc⟩ := wordOf_big hz h
      unfold stripped
      rw [e, stripL, if_neg hc]; rfl
theorem bared_ok : ∀ (k v n : Nat) (p : Nat × Nat), v < 64 ^ n → bared k v n = some p → p.1 < 64 ^ p.2 ∧ p.2 ≤ n
  | 0, v, n, p, h, e => by cases e; exact ⟨h, Nat.le_refl _⟩
  | k + 1, v, 0, p, h, e => by rw [bared, if_pos rfl] at e; cases e
  | k + 1, v, n + 1, p, h, e => by
    rw [bared, if_neg (by omega), show n + 1 - 1 = n from rfl] at e
    split at e
    · rename_i hz
      have := bared_ok k v n p hz e
      exact ⟨this.1, by omega⟩
    · split at e
      · have := bared_ok k (v / 64) n p (by rw [Nat.pow_succ] at h; omega) e
        exact ⟨this.1, by omega⟩
      · exact bared_ok k v (n + 1) p h e

theorem wordOf_append (v n : Nat) : ∀ (m u : Nat), wordOf v n ++ wordOf u m = wordOf (v * 64 ^ m + u) (n + m) ∨ ¬ u < 64 ^ m
  | 0, u => by
    by_cases h : u < 64 ^ 0
    · have : u = 0 := by simpa using h
      subst this; left; simp [wordOf]
    · exact .inr h
  | m + 1, u => by
    by_cases h : u < 64 ^ (m + 1)
    · left
      rcases wordOf_append v n m (u / 64) with e | e
      · rw [wordOf, ← List.append_assoc, e, ← Nat.add_assoc, wordOf]
        have e1 : (v * 64 ^ (m + 1) + u) / 64 = v * 64 ^ m + u / 64 := by rw [Nat.pow_succ, ← Nat.mul_assoc]; omega
        have e2 : (v * 64 ^ (m + 1) + u) % 64 = u % 64 := by rw [Nat.pow_succ, ← Nat.mul_assoc]; omega
        rw [e1, e2]
      · exact absurd (by rw [Nat.pow_succ] at h; omega) e
    · exact .inr h
theorem append_lt {v n u m : Nat} (h : v < 64 ^ n) (h' : u < 64 ^ m) : v * 64 ^ m + u < 64 ^ (n + m) := by
  rw [Nat.pow_add]
  have : (v + 1) * 64 ^ m ≤ 64 ^ n * 64 ^ m := Nat.mul_le_mul_right _ h
  rw [Nat.add_mul, Nat.one_mul] at this
  omega

theorem lt_split {q p A B X : Nat} (hA : A < X) (hB : B < X) : q * X + A < p * X + B ↔ q < p ∨ q = p ∧ A < B := by
  constructor
  · intro h
    rcases Nat.lt_trichotomy q p with g | g | g
    · exact .inl g
    · subst g; exact .inr ⟨rfl, by omega⟩
    · have := Nat.mul_le_mul_right X (show p + 1 ≤ q from g)
      rw [Nat.add_mul, Nat.one_mul] at this; omega
  · rintro (g | ⟨rfl, g⟩)
    · have := Nat.mul_le_mul_right X (show q + 1 ≤ p from g)
      rw [Nat.add_mul, Nat.one_mul] at this; omega
    · omega
theorem eq_split {q p A B X : Nat} (hA : A < X) (hB : B < X) : q * X + A = p * X + B ↔ q = p ∧ A = B := by
  constructor
  · intro h
    rcases Nat.lt_trichotomy q p with g | g | g
    · have := (lt_split hA hB).mpr (.inl g); omega
    · subst g; exact ⟨rfl, by omega⟩
    · have := (lt_split hB hA).mpr (.inl g); omega
  · rintro ⟨rfl, rfl⟩; rfl

theorem propLt {a a' b b' r s t t' : Prop} (h1 : a ↔ a') (h2 : b ↔ b') (h3 : t' ↔ t) : (a ∨ b ∧ (r ∨ s ∧ t)) ↔ (a' ∨ b' ∧ r) ∨ (b' ∧ s) ∧ t' := by
  rw [h1, h2, h3, and_or_left, ← or_assoc, and_assoc]
theorem mul64_lt {a b : Nat} : a * 64 < b * 64 ↔ a < b := ⟨fun h => Nat.lt_of_mul_lt_mul_right h, fun h => Nat.mul_lt_mul_of_pos_right h (by decide)⟩
theorem mul64_eq {a b : Nat} : a * 64 = b * 64 ↔ a = b := ⟨fun h => Nat.eq_of_mul_eq_mul_right (by decide) h, fun h => by rw [h]⟩
theorem ltW : ∀ (n m v u : Nat), v < 64 ^ n → u < 64 ^ m → (wordOf v n < wordOf u m ↔ v * 64 ^ m < u * 64 ^ n ∨ v * 64 ^ m = u * 64 ^ n ∧ n < m)
  | 0, 0, v, u, hv, hu => by
    have h1 : v = 0 := by simpa using hv
    have h2 : u = 0 := by simpa using hu
    subst h1; subst h2; simp [wordOf]
  | 0, m + 1, v, u, hv, hu => by
    have h1 : v = 0 := by simpa using hv
    subst h1
    rw [wordOf_head m u hu]
    simp [wordOf]; omega
  | n + 1, 0, v, u, hv, hu => by
    have h2 : u = 0 := by simpa using hu
    subst h2
    rw [wordOf_head n v hv]
    simp [wordOf]
  | n + 1, m + 1, v, u, hv, hu => by
    rw [wordOf_head n v hv, wordOf_head m u hu, List.cons_lt_cons_iff, ltW n m _ _ (Nat.mod_lt _ (pow64_pos n)) (Nat.mod_lt _ (pow64_pos m))]
    have hA : v % 64 ^ n * 64 ^ m < 64 ^ n * 64 ^ m := Nat.mul_lt_mul_of_pos_right (Nat.mod_lt _ (pow64_pos n)) (pow64_pos m)
    have hB : u % 64 ^ m * 64 ^ n < 64 ^ n * 64 ^ m := by rw [Nat.mul_comm (64 ^ n)]; exact Nat.mul_lt_mul_of_pos_right (Nat.mod_lt _ (pow64_pos m)) (pow64_pos n)
    have e1 : v * 64 ^ m = v / 64 ^ n * (64 ^ n * 64 ^ m) + v % 64 ^ n * 64 ^ m := by
      rw [← Nat.mul_assoc, ← Nat.add_mul, Nat.mul_comm (v / 64 ^ n), Nat.div_add_mod]
    have e2 : u * 64 ^ n = u / 64 ^ m * (64 ^ n * 64 ^ m) + u % 64 ^ m * 64 ^ n := by
      rw [Nat.mul_comm (64 ^ n), ← Nat.mul_assoc, ← Nat.add_mul, Nat.mul_comm (u / 64 ^ m), Nat.div_add_mod]
    have e3 : (v * 64 ^ (m + 1) < u * 64 ^ (n + 1) ↔ v * 64 ^ m < u * 64 ^ n) := by rw [Nat.pow_succ, Nat.pow_succ, ← Nat.mul_assoc, ← Nat.mul_assoc]; exact mul64_lt
    have e4 : (v * 64 ^ (m + 1) = u * 64 ^ (n + 1) ↔ v * 64 ^ m = u * 64 ^ n) := by rw [Nat.pow_succ, Nat.pow_succ, ← Nat.mul_assoc, ← Nat.mul_assoc]; exact mul64_eq
    rw [e3, e4, e1, e2, lt_split hA hB, eq_split hA hB]
    exact propLt (Nat.add_lt_add_iff_left ..) (Nat.add_left_cancel_iff ..) (Nat.add_lt_add_iff_right ..)

theorem b2i_t {p : Prop} [Decidable p] (h : p) : b2i (decide p) = 1 := by rw [decide_eq_true h]; rfl
theorem b2i_f {p : Prop} [Decidable p] (h : ¬ p) : b2i (decide p) = 0 := by rw [decide_eq_false h]; rfl
theorem ordL_neg (a b : List Nat) : ordL b a = - ordL a b := by unfold ordL; omega
theorem ordW {n m v u : Nat} (hv : v < 64 ^ n) (hu : u < 64 ^ m) :
    ordL (wordOf v n) (wordOf u m) = if sgn ((v * 64 ^ m : Nat) : Int) ((u * 64 ^ n : Nat) : Int) ≠ 0 then sgn ((v * 64 ^ m : Nat) : Int) ((u * 64 ^ n : Nat) : Int) else sgn (n : Nat) (m : Nat) := by
  have h1 := ltW n m v u hv hu
  have h2 := ltW m n u v hu hv
  unfold ordL
  generalize v * 64 ^ m = A at *
  generalize u * 64 ^ n = B at *
  unfold sgn
  rcases Nat.lt_trichotomy A B with g | g | g
  · rw [b2i_f (fun h => by have := h2.mp h; omega), b2i_t (h1.mpr (.inl g)), if_neg (show ¬ ((A : Int) = B) by omega), if_pos (show (A : Int) < B by omega), if_pos (by decide)]; rfl
  · subst g
    rw [if_pos rfl, if_neg (by simp)]
    rcases Nat.lt_trichotomy n m with g | g | g
    · rw [b2i_f (fun h => by have := h2.mp h; omega), b2i_t (h1.mpr (.inr ⟨rfl, g⟩)), if_neg (by omega), if_pos (by omega)]; rfl
    · subst g
      rw [b2i_f (fun h => by have := h2.mp h; omega), b2i_f (fun h => by have := h1.mp h; omega), if_pos rfl]; rfl
    · rw [b2i_t (h2.mpr (.inr ⟨rfl, g⟩)), b2i_f (fun h => by have := h1.mp h; omega), if_neg (by omega), if_neg (by omega)]; rfl
  · rw [b2i_t (h2.mpr (.inl g)), b2i_f (fun h => by have := h1.mp h; omega), if_neg (show ¬ ((A : Int) = B) by omega), if_neg (show ¬ ((A : Int) < B) by omega), if_pos (by decide)]; rfl
theorem turnW {n m v u : Nat} (hv : v < 64 ^ n) (hu : u < 64 ^ m) :
    ordL (wordOf v n ++ wordOf u m) (wordOf u m ++ wordOf v n) = sgn ((v : Int) * ((64 : Int) ^ m - 1)) ((u : Int) * ((64 : Int) ^ n - 1)) := by
  rw [(wordOf_append v n m u).resolve_right (fun h => h hu), (wordOf_append u m n v).resolve_right (fun h => h hv), Nat.add_comm m n]
  have h1 := append_lt hv hu
  have h2 := append_lt hu hv
  rw [Nat.add_comm m n] at h2
  rw [ordW h1 h2]
  have e1 : (v : Int) * ((64 : Int) ^ m - 1) = ((v * 64 ^ m : Nat) : Int) - v := by
    rw [Int.mul_sub, Int.mul_one, Int.natCast_mul, Int.natCast_pow]; rfl
  have e2 : (u : Int) * ((64 : Int) ^ n - 1) = ((u * 64 ^ n : Nat) : Int) - u := by
    rw [Int.mul_sub, Int.mul_one, Int.natCast_mul, Int.natCast_pow]; rfl
  rw [e1, e2]
  have hp := pow64_pos (n + m)
  generalize v * 64 ^ m = A at *
  generalize u * 64 ^ n = B at *
  generalize 64 ^ (n + m) = P at *
  have c1 : sgn (((A + u) * P : Nat) : Int) (((B + v) * P : Nat) : Int) = sgn ((A : Int) - v) ((B : Int) - u) := by
    unfold sgn
    have a1 : (((A + u) * P : Nat) : Int) = (((B + v) * P : Nat) : Int) ↔ (A : Int) - v = (B : Int) - u := by
      constructor
      · intro h
        have := Nat.eq_of_mul_eq_mul_right hp (Int.ofNat.inj h)
        omega
      · intro h
        rw [show A + u = B + v by omega]
    have a2 : (((A + u) * P : Nat) : Int) < (((B + v) * P : Nat) : Int) ↔ (A : Int) - v < (B : Int) - u := by
      constructor
      · intro h
        have := Nat.lt_of_mul_lt_mul_right (Int.ofNat_lt.mp h)
        omega
      · intro h
        exact Int.ofNat_lt.mpr (Nat.mul_lt_mul_of_pos_right (by omega) hp)
    simp only [a1, a2]
  rw [c1]
  by_cases h : sgn ((A : Int) - v) ((B : Int) - u) = 0
  · rw [if_neg (fun g => g h), h]; unfold sgn; rw [if_pos rfl]
  · rw [if_pos h]
end Mine

-- MF
namespace Mine
open PySem PySem.Calls PyProof.Rows PySem.W

theorem Op2.pow64 {c : Cx} {n : Nat} {σ : St} {Φ : AV → St → Prop} {X : XP} (h : n ≤ 1000) (k : Φ (.int ((64 ^ n : Nat) : Int)) σ) : Op2 c (binaryOp .Pow) (.int 64) (.int (n : Nat)) σ Φ X :=
  Op2.pow (by omega) (by omega) (by decide) (by
    have e : (64 : Int) ^ (((n : Nat) : Int)).toNat = ((64 ^ n : Nat) : Int) := by rw [Int.toNat_natCast, Int.natCast_pow]; rfl
    rw [e]; exact k)
theorem Op2.mulN {c : Cx} {a b : Nat} {σ : St} {Φ : AV → St → Prop} {X : XP} (ha : a < 2 ^ 1000) (hb : b < 2 ^ 1000) (k : Φ (.int ((a * b : Nat) : Int)) σ) : Op2 c (binaryOp .Mult) (.int (a : Nat)) (.int (b : Nat)) σ Φ X :=
  Op2.mul (mulOk (by simpa using ha) (by simpa using hb)) (by rw [← Int.natCast_mul]; exact k)
theorem Op2.addN {c : Cx} {a b : Nat} {σ : St} {Φ : AV → St → Prop} {X : XP} (k : Φ (.int ((a + b : Nat) : Int)) σ) : Op2 c (binaryOp .Add) (.int (a : Nat)) (.int (b : Nat)) σ Φ X :=
  Op2.add (by rw [← Int.natCast_add]; exact k)
theorem bnd64 {v n : Nat} (h : v < 64 ^ n) (hn : n ≤ 140) : v < 2 ^ 1000 := Nat.lt_of_lt_of_le (bound64 h (by omega)) (Nat.pow_le_pow_right (by decide) (by decide))
theorem bndP {n : Nat} (hn : n ≤ 139) : 64 ^ n < 2 ^ 1000 := bnd64 (n := n + 1) (Nat.pow_lt_pow_right (by decide) (by omega)) (by omega)
theorem le2 : 2 ≤ 16777216 := by decide
theorem le3 : 3 ≤ 16777216 := by decide
theorem abs1 {n B : Nat} (h : n < B) (h0 : 0 < n) : ((n : Int) - 1).natAbs < B := by omega
theorem EqL.ints (l : List Int) : EqL (l.map .int) (l.map .int) (fun _ => true) := ⟨fun j x y h1 h2 => by
  rw [h1] at h2; cases h2
  rw [List.getElem?_map] at h1
  obtain ⟨i, _, rfl⟩ := Option.map_eq_some_iff.mp h1
  have := EqAV.int i i
  rwa [beq_self_eq_true] at this⟩

section
variable {prog : Program} {w : World} {b0 : Heap} {mg mb : Str → Option Value}

def tupP (p : Nat × Nat) : AV := .tup [.str (wordP p), .int p.1, .int p.2]
def DeedPost (a : LxA) (wt un : Addr) (N T L : Nat) (r : AV) (own : List (Addr × AO)) : Prop :=
  r = .bool true ∧ ∃ ln wl us tl, Ok wl us tl T L ∧ ln + nl (stream us tl) = N ∧ own = ownA a wt un ln wl us tl

/-- what a deed leaves -/
theorem deedEnd {a : LxA} {wt un : Addr} {ln N T L T' L' : Nat} {wl : List (Nat × Nat)} {us tl : List Nat} {R own : List (Addr × AO)} (o : Ok wl us tl T' L') (h1 : T' ≤ T) (h2 : L' ≤ L) (hN : ln + nl (stream us tl) = N) (e : own = ownA a wt un ln wl us tl ++ R) :
    ∃ o R, own.Perm (o ++ R) ∧ DeedPost a wt un N T L (.bool true) o := ⟨_, R, by rw [e], rfl, ln, wl, us, tl, o.weak h1 h2, hN, rfl⟩
/-- a push to the words that wait, and to the numbers -/
theorem ownA_push {a : LxA} {wt un : Addr} {ln : Nat} {wl : List (Nat × Nat)} {us tl : List Nat} {p : Nat × Nat} {R : List (Addr × AO)} :
    lexOwn a ln (wl.map wordP ++ [wordP p]) (stream us tl) ++ ((wt, AO.list (wl.map pairAV ++ [pairAV p])) :: (un, .list ((us.map pairP).map pairAV)) :: R) = ownA a wt un ln (wl ++ [p]) us tl ++ R := by
  unfold ownA own9
  rw [List.map_append, List.map_append]; rfl

set_option maxHeartbeats 2000000 in
theorem lawDeed (W : Wd w b0 mg mb) {a : LxA} (H : LxOk prog w b0 a) {wt un : Addr} {s ln N T L : Nat} {wl : List (Nat × Nat)} {us tl : List Nat}
    (o : Ok wl us tl T L) (hT : T ≤ 100) (hL : L + 2 ≤ 1000) (hN : ln + nl (stream us tl) = N) :
    Fun prog w b0 true 6 (.ref 129) [.int s, .ref a.x, .ref wt, .ref un] (ownA a wt un ln wl us tl) (DeedPost a wt un N T (L + 2)) := by
  obtain ⟨⟨p, wl1, us1, tl1⟩, e1⟩ : ∃ x, nextA wl us tl = x := ⟨_, rfl⟩
  obtain ⟨⟨q, wl2, us2, tl2⟩, e2⟩ : ∃ x, nextA wl1 us1 tl1 = x := ⟨_, rfl⟩
  have n1 := o.next e1
  have n2 := n1.2.2.next e2
  have hL1 : L ≤ 1000 := Nat.le_trans (Nat.le_add_right ..) hL
  have hT1 : T - p.2 ≤ 100 := Nat.le_trans (Nat.sub_le ..) hT
  have hp2 : p.2 ≤ 100 := Nat.le_trans n1.2.1 hT
  have hq2 : q.2 ≤ 100 := Nat.le_trans n2.2.1 hT1
  have hw1 : wl1.length ≤ L := Nat.le_trans (Nat.le_add_right ..) n1.2.2.len
  have hw2 : wl2.length ≤ L := Nat.le_trans (Nat.le_add_right ..) n2.2.2.len
  have h7 : s % 7 ≤ 1000 := Nat.le_of_lt (Nat.lt_of_lt_of_le (Nat.mod_lt _ (by decide)) (by decide))
  have e7 : ((s : Nat) : Int).fmod 7 = ((s % 7 : Nat) : Int) := fmodN s 7
  have lp : (wordP p).length ≤ 100 := by rw [wordP, wordOf_length]; exact hp2
  have lq : (wordP q).length ≤ 100 := by rw [wordP, wordOf_length]; exact hq2
  have hpq : (wordP p).length + (wordP q).length ≤ 16777216 := Nat.le_trans (Nat.add_le_add lp lq) (by decide)
  have hm1 : (wl1.map wordP).length ≤ 1000 := by rw [List.length_map]; exact Nat.le_trans hw1 hL1
  have hm2 : (wl2.map wordP).length ≤ 1000 := by rw [List.length_map]; exact Nat.le_trans hw2 hL1
  have ha1 : (wl1.map pairAV).length ≤ 16777216 := by rw [List.length_map]; exact Nat.le_trans hw1 (Nat.le_trans hL1 (by decide))
  have ha2 : (wl2.map pairAV).length ≤ 16777216 := by rw [List.length_map]; exact Nat.le_trans hw2 (Nat.le_trans hL1 (by decide))
  have bp : p.1 < 2 ^ 1000 := bnd64 n1.1 (Nat.le_trans hp2 (by decide))
  have bq : q.1 < 2 ^ 1000 := bnd64 n2.1 (Nat.le_trans hq2 (by decide))
  have Bp : 64 ^ p.2 < 2 ^ 1000 := bndP (Nat.le_trans hp2 (by decide))
  have Bq : 64 ^ q.2 < 2 ^ 1000 := bndP (Nat.le_trans hq2 (by decide))
  have kp : p.2 ≤ 1000 := Nat.le_trans hp2 (by decide)
  have kq : q.2 ≤ 1000 := Nat.le_trans hq2 (by decide)
  have T0 : T - p.2 + p.2 ≤ T := Nat.le_of_eq (Nat.sub_add_cancel n1.2.1)
  have T2 : T - p.2 - q.2 + (p.2 + q.2) ≤ T := by rw [Nat.add_comm p.2, ← Nat.add_assoc, Nat.sub_add_cancel n2.2.1]; exact T0
  refine Fun.introX (ps := ["size", "lexer", "waiting", "unread"]) (W.k _ _ rfl) rfl rfl rfl ⟨_, _, _, _, rfl, W.k _ _ rfl, rfl, rfl⟩ W.nl (fun vs h => ?_) rfl (by decide) (by decide) (by decide) (fun A L' K g on => ?_)
  · exact bind4 h (by exact fun _ _ _ _ => rfl)
  have g1 := g.less (m := 1) (by decide)
  have g4 := g.less (m := 4) (by decide)
  refine Exs.cons <| Ex.assign <| Ev.callFn (W.fn (a := 108) rfl) <| Ev.glob W.g (W.glob rfl) (fun h => VR.mkRef) ⟨rfl, Arg.cons <| Ev.name rfl <| Arg.cons <| Ev.name rfl <| Arg.cons <| Ev.name rfl <| Arg.nil <| (lawNextA W H o hT hL1 e1 hN).use (own := ownA a wt un ln wl us tl) (R := []) g fun av own' h => ?_⟩
  obtain ⟨rfl, ln1, hN1, rfl⟩ := h
  rw [List.append_nil]
  refine Exs.cons <| Ex.iff <| Tst.cmp <| Ev.name lS <| Ev.none <| Op2.isNone <| Tru.bool ⟨fun h => (nomatch h), fun _ => Exs.nil ?_⟩
  refine Exs.step (ownA a wt un ln1 wl1 us1 tl1) [("size", .int s), ("lexer", .ref a.x), ("waiting", .ref wt), ("unread", .ref un), ("one", tupP p), ("word", .str (wordP p)), ("value", .int p.1), ("width", .int p.2)]
    (Ex.assignTuple <| Ev.name lS <| Asg.tuple (g.hd rfl) rfl <| AsgL.cons <| Asg.name <| AsgL.cons <| Asg.name <| AsgL.cons <| Asg.name <| AsgL.nil ⟨rfl, rfl, .cons rfl <| .cons rfl <| .cons rfl <| .cons rfl <| .cons rfl <| .cons rfl <| .cons rfl <| .cons rfl .nil⟩) (fun lc l1 => ?_)
  refine Exs.cons <| Ex.iff <| Tst.cmp <| Ev.binop <| Ev.name (l1.at 0 rfl) <| Ev.int <| Op2.mod (by decide) <| Ev.int <| Op2.eq <| Tru.bool ⟨fun _ => ?_, fun _ => Exs.nil ?_⟩
  · have hb := bared_strip (s % 7) p.1 p.2 n1.1
    refine Exs.step (ownA a wt un ln1 wl1 us1 tl1) [("size", .int s), ("lexer", .ref a.x), ("waiting", .ref wt), ("word", .str (wordP p)), ("value", .int p.1), ("width", .int p.2), ("due", bareAV (bared (s % 7) p.1 p.2))] ?head (fun lc l2 => ?_)
    case head =>
      refine Ex.assign <| Ev.callFn (W.fn (a := 115) rfl) <| Ev.glob W.g (W.glob rfl) (fun h => VR.mkRef) ⟨rfl, Arg.cons <| Ev.name (l1.at 6 rfl) <| Arg.cons <| Ev.name (l1.at 7 rfl) <| Arg.cons <| Ev.binop <| Ev.name (l1.at 0 rfl) <| Ev.int <| Op2.mod (by decide) <| Arg.nil ?_⟩
      rw [e7]
      refine (lawBared W hp2 h7).use (own := []) (R := ownA a wt un ln1 wl1 us1 tl1) g1 fun av own' h => ?_
      obtain ⟨rfl, rfl⟩ := h
      exact ⟨rfl, rfl, .cons (lN (l1.at 0 rfl)) <| .cons (lN (l1.at 1 rfl)) <| .cons (lN (l1.at 2 rfl)) <| .cons (lN (l1.at 5 rfl)) <| .cons (lN (l1.at 6 rfl)) <| .cons (lN (l1.at 7 rfl)) <| .cons lS .nil⟩
    clear l1
    refine Exs.cons <| Ex.tryX (Y := noX) (cls := "IndexError") (L := L') on (by decide) (isSubtype_of_subB (by decide +kernel)) (isSubtype_of_subB (by decide +kernel)) (isSubtype_of_subB (by decide +kernel)) (Ψ := fun σ' => σ'.loc = lc ∧ ∃ o, σ'.own = o ++ ownA a wt un ln1 wl1 us1 tl1 ∧ stripped (s % 7) (wordP p) = none ∧ o = []) ?tbody ?thn ?tk
    case thn => exact fun e σ Θ h => Ev.built W.g (W.noGlob rfl rfl) W.b (W.built rfl) (fun h => VR.mkTy) h
    case tbody =>
      refine Exs.cons <| Ex.assign <| Ev.callFn (W.fn (a := 28) rfl) <| Ev.glob W.g (W.glob rfl) (fun h => VR.mkRef) ⟨rfl, Arg.cons <| Ev.name (l2.at 3 rfl) <| Arg.cons <| Ev.binop <| Ev.name (l2.at 0 rfl) <| Ev.int <| Op2.mod (by decide) <| Arg.nil ?_⟩
      rw [e7]
      refine (stripPadding W (Nat.le_trans lp (by decide)) h7).use (own := []) (R := ownA a wt un ln1 wl1 us1 tl1) g1 (fun av own' h => ?_) (fun v σ s h => h)
      obtain ⟨r, hr, rfl, rfl⟩ := h
      rw [List.nil_append]
      rw [show wordP p = wordOf p.1 p.2 from rfl, hb] at hr
      obtain ⟨q', hq, rfl⟩ := Option.map_eq_some_iff.mp hr
      have hq' := bared_ok _ _ _ q' n1.1 hq
      rw [hq] at l2
      refine Exs.nil <| Exs.cons <| Ex.expr <| Ev.methI W.k <| Ev.name (lN (l2.at 1 rfl)) ⟨4, a.x, 73, a.dx, _, rfl, rfl, mn_push_token _, rfl, Arg.cons <| Ev.name lS <| Arg.nil <| (pushToken W hm1).use (own := lexOwn a ln1 (wl1.map wordP) (stream us1 tl1)) (R := [(wt, .list (wl1.map pairAV)), (un, .list ((us1.map pairP).map pairAV))]) g1 fun av own' h => ?_⟩
      obtain ⟨rfl, rfl⟩ := h
      refine Exs.cons <| Ex.expr <| Ev.meth F.plainAttrs_list F.slot_list_append F.type_list_append <| Ev.name (lN (l2.at 2 rfl)) ⟨HasT.list 7 rfl, Arg.cons <| Ev.name (lN (l2.at 6 rfl)) <| Arg.nil <| Cal.append 7 rfl ha1 ?_⟩
      exact Exs.cons <| Ex.ret <| Ev.cmp <| Ev.name (lN (l2.at 6 rfl)) <| Ev.none <| Op2.isNotNone <| deedEnd (R := []) (n1.2.2.push hq'.1 hq'.2) T0 (Nat.le_succ _) hN1 (ownA_push (R := []))
    case tk =>
      intro e T' oe oT σ₁ hψ hcl
      obtain ⟨lc', own'⟩ := σ₁
      obtain ⟨hlc, o', ho, hs, rfl⟩ := hψ
      have hlc : lc' = lc := hlc
      have ho : own' = ownA a wt un ln1 wl1 us1 tl1 := ho
      subst hlc; subst ho
      rw [show wordP p = wordOf p.1 p.2 from rfl, hb] at hs
      have hq : bared (s % 7) p.1 p.2 = none := by simpa using hs
      rw [hq] at l2
      refine Tri.perm (List.perm_append_comm (l₁ := [_, _])) (Tri.forget ?_)
      refine Exs.cons <| Ex.expr <| Ev.methI W.k <| Ev.name (l2.at 1 rfl) ⟨4, a.x, 73, a.dx, _, rfl, rfl, mn_push_token _, rfl, Arg.cons <| Ev.name (l2.at 3 rfl) <| Arg.nil <| (pushToken W hm1).use (own := lexOwn a ln1 (wl1.map wordP) (stream us1 tl1)) (R := [(wt, .list (wl1.map pairAV)), (un, .list ((us1.map pairP).map pairAV))]) (g.marked.less (by decide)) fun av own' h => ?_⟩
      obtain ⟨rfl, rfl⟩ := h
      refine Exs.cons <| Ex.expr <| Ev.meth F.plainAttrs_list F.slot_list_append F.type_list_append <| Ev.name (l2.at 2 rfl) ⟨HasT.list 7 rfl, Arg.cons <| Ev.tuple <| Arg.cons <| Ev.name (l2.at 4 rfl) <| Arg.cons <| Ev.name (l2.at 5 rfl) <| Arg.nil ⟨le2, Arg.nil <| Cal.append 7 rfl ha1 ?_⟩⟩
      exact Exs.cons <| Ex.ret <| Ev.cmp <| Ev.name (l2.at 6 rfl) <| Ev.none <| Op2.isNone <| deedEnd (R := []) (n1.2.2.push n1.1 (Nat.le_refl _)) T0 (Nat.le_succ _) hN1 (ownA_push (R := []))
  · refine Exs.cons <| Ex.assign <| Ev.callFn (W.fn (a := 108) rfl) <| Ev.glob W.g (W.glob rfl) (fun h => VR.mkRef) ⟨rfl, Arg.cons <| Ev.name (l1.at 1 rfl) <| Arg.cons <| Ev.name (l1.at 2 rfl) <| Arg.cons <| Ev.name (l1.at 3 rfl) <| Arg.nil <| (lawNextA W H n1.2.2 hT1 hL1 e2 hN1).use (own := ownA a wt un ln1 wl1 us1 tl1) (R := []) g fun av own' h => ?_⟩
    obtain ⟨rfl, ln2, hN2, rfl⟩ := h
    rw [List.append_nil]
    refine Exs.cons <| Ex.iff <| Tst.cmp <| Ev.name lS <| Ev.none <| Op2.isNone <| Tru.bool ⟨fun h => (nomatch h), fun _ => Exs.nil ?_⟩
    refine Exs.step (ownA a wt un ln2 wl2 us2 tl2) [("size", .int s), ("lexer", .ref a.x), ("waiting", .ref wt), ("word", .str (wordP p)), ("value", .int p.1), ("width", .int p.2), ("one", tupP p), ("two", tupP q), ("other", .str (wordP q)), ("worth", .int q.1), ("span", .int q.2)]
      (Ex.assignTuple <| Ev.name lS <| Asg.tuple (g.hd rfl) rfl <| AsgL.cons <| Asg.name <| AsgL.cons <| Asg.name <| AsgL.cons <| Asg.name <| AsgL.nil ⟨rfl, rfl, .cons (lN (lN (lN (lN (l1.at 0 rfl))))) <| .cons (lN (lN (lN (lN (l1.at 1 rfl))))) <| .cons (lN (lN (lN (lN (l1.at 2 rfl))))) <| .cons (lN (lN (lN (lN (l1.at 5 rfl))))) <| .cons (lN (lN (lN (lN (l1.at 6 rfl))))) <| .cons (lN (lN (lN (lN (l1.at 7 rfl))))) <| .cons (lN (lN (lN (lN (l1.at 4 rfl))))) <| .cons (lN (lN (lN lS))) <| .cons (lN (lN lS)) <| .cons (lN lS) <| .cons lS .nil⟩) (fun lc l2 => ?_)
    clear l1
    refine Exs.cons <| Ex.iff <| Tst.cmp <| Ev.binop <| Ev.name (l2.at 0 rfl) <| Ev.int <| Op2.mod (by decide) <| Ev.int <| Op2.eq <| Tru.bool ⟨fun _ => ?_, fun _ => Exs.nil ?_⟩
    · have ha : wordP p ++ wordP q = wordP (p.1 * 64 ^ q.2 + q.1, p.2 + q.2) := (wordOf_append p.1 p.2 q.2 q.1).resolve_right (fun h => h n2.1)
      refine Exs.cons <| Ex.expr <| Ev.methI W.k <| Ev.name (l2.at 1 rfl) ⟨4, a.x, 73, a.dx, _, rfl, rfl, mn_push_token _, rfl, Arg.cons <| Ev.binop <| Ev.name (l2.at 3 rfl) <| Ev.name (l2.at 8 rfl) <| Op2.add_s hpq <| Arg.nil <| (pushToken W hm2).use (own := lexOwn a ln2 (wl2.map wordP) (stream us2 tl2)) (R := [(wt, .list (wl2.map pairAV)), (un, .list ((us2.map pairP).map pairAV))]) g1 fun av own' h => ?_⟩
      obtain ⟨rfl, rfl⟩ := h
      rw [ha]
      refine Exs.cons <| Ex.expr <| Ev.meth F.plainAttrs_list F.slot_list_append F.type_list_append <| Ev.name (l2.at 2 rfl) ⟨HasT.list 7 rfl, Arg.cons <| Ev.tuple <| Arg.cons <| Ev.binop <| Ev.binop <| Ev.name (l2.at 4 rfl) <| Ev.binop <| Ev.int <| Ev.name (l2.at 10 rfl) <| Op2.pow64 kq <| Op2.mulN bp Bq <| Ev.name (l2.at 9 rfl) <| Op2.addN <| Arg.cons <| Ev.binop <| Ev.name (l2.at 5 rfl) <| Ev.name (l2.at 10 rfl) <| Op2.addN <| Arg.nil ⟨le2, Arg.nil <| Cal.append 7 rfl ha2 ?_⟩⟩
      exact Exs.cons <| Ex.ret <| Ev.bool <| deedEnd (R := []) (n2.2.2.push (append_lt n1.1 n2.1) (Nat.le_refl _)) T2 (Nat.le_succ _) hN2 (ownA_push (R := []))
    · have eS : ordL (wordP p) (wordP q) = _ := ordW n1.1 n2.1
      have eT : ordL (wordP p ++ wordP q) (wordP q ++ wordP p) = _ := turnW n1.1 n2.1
      refine Exs.step (ownA a wt un ln2 wl2 us2 tl2) [("lexer", .ref a.x), ("waiting", .ref wt), ("word", .str (wordP p)), ("value", .int p.1), ("width", .int p.2), ("one", tupP p), ("two", tupP q), ("other", .str (wordP q)), ("worth", .int q.1), ("span", .int q.2), ("sign", .int (ordL (wordP p) (wordP q)))] ?head3 (fun lc l3 => ?_)
      case head3 =>
        refine Ex.assign <| Ev.or2 <| Ev.callFn (W.fn (a := 122) rfl) <| Ev.glob W.g (W.glob rfl) (fun h => VR.mkRef) ⟨rfl, Arg.cons <| Ev.binop <| Ev.name (l2.at 4 rfl) <| Ev.binop <| Ev.int <| Ev.name (l2.at 10 rfl) <| Op2.pow64 kq <| Op2.mulN bp Bq <| Arg.cons <| Ev.binop <| Ev.name (l2.at 9 rfl) <| Ev.binop <| Ev.int <| Ev.name (l2.at 5 rfl) <| Op2.pow64 kp <| Op2.mulN bq Bp <| Arg.nil <| (lawSign W).use (own := []) (R := ownA a wt un ln2 wl2 us2 tl2) g1 fun av own' h => ?_⟩
        obtain ⟨rfl, rfl⟩ := h
        have fin : ∀ v, v = ordL (wordP p) (wordP q) → Lk (setL "sign" (.int v) lc) [("lexer", .ref a.x), ("waiting", .ref wt), ("word", .str (wordP p)), ("value", .int p.1), ("width", .int p.2), ("one", tupP p), ("two", tupP q), ("other", .str (wordP q)), ("worth", .int q.1), ("span", .int q.2), ("sign", .int (ordL (wordP p) (wordP q)))] := fun v hv => by
          subst hv
          exact .cons (lN (l2.at 1 rfl)) <| .cons (lN (l2.at 2 rfl)) <| .cons (lN (l2.at 3 rfl)) <| .cons (lN (l2.at 4 rfl)) <| .cons (lN (l2.at 5 rfl)) <| .cons (lN (l2.at 6 rfl)) <| .cons (lN (l2.at 7 rfl)) <| .cons (lN (l2.at 8 rfl)) <| .cons (lN (l2.at 9 rfl)) <| .cons (lN (l2.at 10 rfl)) <| .cons lS .nil
        refine Tru.int ⟨fun ht => ⟨rfl, rfl, fin _ ?_⟩, fun hf => ?_⟩
        · rw [eS, if_pos (by simpa using ht)]
        · refine Ev.callFn (W.fn (a := 122) rfl) <| Ev.glob W.g (W.glob rfl) (fun h => VR.mkRef) ⟨rfl, Arg.cons <| Ev.name (l2.at 5 rfl) <| Arg.cons <| Ev.name (l2.at 10 rfl) <| Arg.nil <| (lawSign W).use (own := []) (R := ownA a wt un ln2 wl2 us2 tl2) g1 fun av own' h => ?_⟩
          obtain ⟨rfl, rfl⟩ := h
          refine ⟨rfl, rfl, fin _ ?_⟩
          rw [eS, if_neg (by simpa using hf)]
      clear l2 eS
      refine Exs.step (ownA a wt un ln2 wl2 us2 tl2) [("lexer", .ref a.x), ("waiting", .ref wt), ("word", .str (wordP p)), ("one", tupP p), ("two", tupP q), ("other", .str (wordP q)), ("sign", .int (ordL (wordP p) (wordP q))), ("turn", .int (ordL (wordP p ++ wordP q) (wordP q ++ wordP p)))] ?head4 (fun lc l4 => ?_)
      case head4 =>
        have c1 : (64 : Int) ^ q.2 = ((64 ^ q.2 : Nat) : Int) := by rw [Int.natCast_pow]; rfl
        have c2 : (64 : Int) ^ p.2 = ((64 ^ p.2 : Nat) : Int) := by rw [Int.natCast_pow]; rfl
        rw [c1, c2] at eT
        refine Ex.assign <| Ev.callFn (W.fn (a := 122) rfl) <| Ev.glob W.g (W.glob rfl) (fun h => VR.mkRef) ⟨rfl, Arg.cons <| Ev.binop <| Ev.name (l3.at 3 rfl) <| Ev.binop <| Ev.binop <| Ev.int <| Ev.name (l3.at 9 rfl) <| Op2.pow64 kq <| Ev.int <| Op2.sub <| Op2.mul (mulOk (by rw [Int.natAbs_natCast]; exact bp) (abs1 Bq (pow64_pos _))) <| Arg.cons <| Ev.binop <| Ev.name (l3.at 8 rfl) <| Ev.binop <| Ev.binop <| Ev.int <| Ev.name (l3.at 4 rfl) <| Op2.pow64 kp <| Ev.int <| Op2.sub <| Op2.mul (mulOk (by rw [Int.natAbs_natCast]; exact bq) (abs1 Bp (pow64_pos _))) <| Arg.nil <| (lawSign W).use (own := []) (R := ownA a wt un ln2 wl2 us2 tl2) g1 fun av own' h => ?_⟩
        obtain ⟨rfl, rfl⟩ := h
        exact ⟨rfl, rfl, .cons (lN (l3.at 0 rfl)) <| .cons (lN (l3.at 1 rfl)) <| .cons (lN (l3.at 2 rfl)) <| .cons (lN (l3.at 5 rfl)) <| .cons (lN (l3.at 6 rfl)) <| .cons (lN (l3.at 7 rfl)) <| .cons (lN (l3.at 10 rfl)) <| .cons (by rw [eT]; exact lS) .nil⟩
      clear l3 eT
      refine Exs.cons <| Ex.iff <| Tst.cmp <| Ev.list <| Arg.cons <| Ev.callFn (W.fn (a := 21) rfl) <| Ev.glob W.g (W.glob rfl) (fun h => VR.mkRef) ⟨rfl, Arg.cons <| Ev.name (l4.at 2 rfl) <| Arg.cons <| Ev.name (l4.at 5 rfl) <| Arg.nil <| (strcoll W).use (own := []) (R := ownA a wt un ln2 wl2 us2 tl2) g1 fun av own' h => ?_⟩
      obtain ⟨rfl, rfl⟩ := h
      refine Arg.cons <| Ev.callFn (W.fn (a := 21) rfl) <| Ev.glob W.g (W.glob rfl) (fun h => VR.mkRef) ⟨rfl, Arg.cons <| Ev.name (l4.at 5 rfl) <| Arg.cons <| Ev.name (l4.at 2 rfl) <| Arg.nil <| (strcoll W).use (own := []) (R := ownA a wt un ln2 wl2 us2 tl2) g1 fun av own' h => ?_⟩
      obtain ⟨rfl, rfl⟩ := h
      refine Arg.cons <| Ev.callFn (W.fn (a := 21) rfl) <| Ev.glob W.g (W.glob rfl) (fun h => VR.mkRef) ⟨rfl, Arg.cons <| Ev.binop <| Ev.name (l4.at 2 rfl) <| Ev.name (l4.at 5 rfl) <| Op2.add_s hpq <| Arg.cons <| Ev.binop <| Ev.name (l4.at 5 rfl) <| Ev.name (l4.at 2 rfl) <| Op2.add_s (by rw [Nat.add_comm]; exact hpq) <| Arg.nil <| (strcoll W).use (own := []) (R := ownA a wt un ln2 wl2 us2 tl2) g1 fun av own' h => ?_⟩
      obtain ⟨rfl, rfl⟩ := h
      rw [ordL_neg (wordP p) (wordP q)]
      refine Arg.nil ⟨le3, fun b1 => Ev.list <| Arg.cons <| Ev.name (l4.at 6 rfl) <| Arg.cons <| Ev.unary <| Ev.name (l4.at 6 rfl) <| Op1.neg <| Arg.cons <| Ev.name (l4.at 7 rfl) <| Arg.nil ⟨le3, fun b2 => Op2.neL g4 1 0 rfl rfl (EqL.ints [_, _, _]) <| Tru.bool ⟨fun h => (nomatch h), fun _ => Exs.nil ?_⟩⟩⟩
      refine Tri.perm (List.perm_append_comm (l₁ := [_, _])) (Tri.forget ?_)
      refine Exs.cons <| Tri.mono (Φ := fun fl σ => fl = .next ∧ ∃ x y : Nat × Nat, (x.1 < 64 ^ x.2 ∧ y.1 < 64 ^ y.2 ∧ x.2 + y.2 = p.2 + q.2) ∧ σ.own = ownA a wt un ln2 wl2 us2 tl2 ∧ Lk σ.loc [("lexer", .ref a.x), ("waiting", .ref wt), ("one", tupP x), ("two", tupP y)]) ?head5 (fun fl σ hS => ?push)
      case head5 =>
        refine Ex.iff <| Tst.cmp <| Ev.name (l4.at 6 rfl) <| Ev.int <| Op2.gt <| Tru.bool ⟨fun _ => ?_, fun _ => Exs.nil ⟨rfl, p, q, ⟨n1.1, n2.1, rfl⟩, rfl, .cons (l4.at 0 rfl) <| .cons (l4.at 1 rfl) <| .cons (l4.at 3 rfl) <| .cons (l4.at 4 rfl) .nil⟩⟩
        exact Exs.cons <| Ex.assignSwap (x := "one") (y := "two") (g.hd rfl) <| Ev.tuple <| Arg.cons <| Ev.name (l4.at 4 rfl) <| Arg.cons <| Ev.name (l4.at 3 rfl) <| Arg.nil ⟨le2, _, _, rfl, Exs.nil ⟨rfl, q, p, ⟨n2.1, n1.1, Nat.add_comm ..⟩, rfl, .cons (lkN (lkN (l4.at 0 rfl))) <| .cons (lkN (lkN (l4.at 1 rfl))) <| .cons lkS <| .cons (lkN lkS) .nil⟩⟩
      case push =>
        clear l4
        obtain ⟨lc, own'⟩ := σ
        obtain ⟨rfl, x, y, hx, rfl, l5⟩ := hS
        refine Exs.cons <| Ex.for <| Ev.tuple <| Arg.cons <| Ev.name (l5.at 2 rfl) <| Arg.cons <| Ev.name (l5.at 3 rfl) <| Arg.nil ⟨le2, [x, y].map tupP, fun i σ => σ.own = ownA a wt un ln2 (wl2 ++ [x, y].take i) us2 tl2 ∧ Lk σ.loc [("lexer", .ref a.x), ("waiting", .ref wt)], Itr.tuple (g.hd rfl), ⟨by rw [List.take_zero, List.append_nil], .cons (l5.at 0 rfl) <| .cons (l5.at 1 rfl) .nil⟩, fun i it σ' hi hI => ?_, fun σ' hI => ?_⟩
        · obtain ⟨lc', own'⟩ := σ'
          obtain ⟨rfl, l6⟩ := hI
          rw [List.getElem?_map] at hi
          obtain ⟨z, hz, rfl⟩ := Option.map_eq_some_iff.mp hi
          have htk : wl2 ++ [x, y].take (i + 1) = wl2 ++ [x, y].take i ++ [z] := by rw [List.take_add_one, hz, List.append_assoc]; rfl
          have hl3 : (wl2 ++ [x, y].take i).length ≤ L + 2 := by rw [List.length_append, List.length_take]; exact Nat.add_le_add hw2 (Nat.min_le_right ..)
          obtain ⟨wl3, hw3⟩ : ∃ l, l = wl2 ++ [x, y].take i := ⟨_, rfl⟩
          rw [← hw3] at hl3 htk ⊢
          refine Asg.tuple (g.hd rfl) rfl <| AsgL.cons <| Asg.name <| AsgL.cons <| Asg.name <| AsgL.cons <| Asg.name <| AsgL.nil ?_
          refine Exs.cons <| Ex.expr <| Ev.methI W.k <| Ev.name (lkN (lkN (lkN (l6.at 0 rfl)))) ⟨4, a.x, 73, a.dx, _, rfl, rfl, mn_push_token _, rfl, Arg.cons <| Ev.name (lkN (lkN lkS)) <| Arg.nil <| (pushToken W (by rw [List.length_map]; exact Nat.le_trans hl3 hL)).use (own := lexOwn a ln2 (wl3.map wordP) (stream us2 tl2)) (R := [(wt, .list (wl3.map pairAV)), (un, .list ((us2.map pairP).map pairAV))]) g1 fun av own' h => ?_⟩
          obtain ⟨rfl, rfl⟩ := h
          refine Exs.cons <| Ex.expr <| Ev.meth F.plainAttrs_list F.slot_list_append F.type_list_append <| Ev.name (lkN (lkN (lkN (l6.at 1 rfl)))) ⟨HasT.list 7 rfl, Arg.cons <| Ev.tuple <| Arg.cons <| Ev.name (lkN lkS) <| Arg.cons <| Ev.name lkS <| Arg.nil ⟨le2, Arg.nil <| Cal.append 7 rfl (by rw [List.length_map]; exact Nat.le_trans hl3 (Nat.le_trans hL (by decide))) <| Exs.nil ⟨?_, .cons (lkN (lkN (lkN (l6.at 0 rfl)))) <| .cons (lkN (lkN (lkN (l6.at 1 rfl)))) .nil⟩⟩⟩
          rw [htk]
          exact (ownA_push (R := [])).trans (List.append_nil _)
        · have o4 := (n2.2.2.push hx.1 (Nat.le_refl _)).push hx.2.1 (Nat.le_refl _)
          rw [List.append_assoc] at o4
          exact Exs.cons <| Ex.ret <| Ev.bool <| deedEnd (R := []) o4 (by rw [Nat.add_assoc, hx.2.2]; exact T2) (Nat.le_refl _) hN2 (by rw [List.append_nil]; exact hI.1)
end
end Mine

-- P1
namespace Mine
open PySem PySem.Calls PyProof.Rows PySem.W

theorem mkWd {w : World} {b0 : Heap} {mg mb : Str → Option Value} {loose : List Str} {mean : ExcName → Option Value} (K : (hd.heap_39 w.params).In b0) (T : Top topProg loose mean mg mb b0) (C : CodeHd b0 102 98) (h98 : b0.get? 98 = none) : Wd w b0 mg mb :=
  ⟨K, T.g, T.b, T.builtins, T.nolimit, C, by
    obtain ⟨bm, ob, e1, e2, e3, e4, e5, e6⟩ := T.bmain
    refine ⟨bm, ob, e1, e2, fun z => ?_, fun z => ?_, e3, e4, e5, e6⟩
    · obtain ⟨o, es, ep, g, d, _⟩ := T.g
      rw [z, g] at e3; cases e3; rw [d] at e6; cases e6
    · rw [z, h98] at e3; cases e3⟩

def szOf (ns : List Int) : List Nat := (ns.take 6).map Int.natAbs ++ [2844, 116, 133, 642]
theorem szOf_len (ns : List Int) : (szOf ns).length ≤ 10 := by
  unfold szOf
  rw [List.length_append, List.length_map, List.length_take]
  simp only [List.length_cons, List.length_nil]
  omega
theorem next_cnt {wl : List (Nat × Nat)} {us tl : List Nat} {p : Nat × Nat} {wl' : List (Nat × Nat)} {us' tl' : List Nat} (e : nextA wl us tl = (p, wl', us', tl')) : wl'.length + us'.length + 1 = wl.length + us.length ∨ (wl' = [] ∧ us' = [] ∧ tl' = []) := by
  match wl, us, e with
  | p :: wl, us, e =>
    simp only [nextA, Prod.mk.injEq] at e
    obtain ⟨rfl, rfl, rfl, rfl⟩ := e
    left; simp only [List.length_cons]; omega
  | [], s :: us, e =>
    simp only [nextA, Prod.mk.injEq] at e
    obtain ⟨rfl, rfl, rfl, rfl⟩ := e
    left; simp only [List.length_cons, List.length_nil]; omega
  | [], [], e =>
    simp only [nextA, Prod.mk.injEq] at e
    obtain ⟨rfl, rfl, rfl, rfl⟩ := e
    exact .inr ⟨rfl, rfl, rfl⟩
theorem next_end {p : Nat × Nat} {wl' : List (Nat × Nat)} {us' tl' : List Nat} (e : nextA [] [] [] = (p, wl', us', tl')) : wl' = [] ∧ us' = [] ∧ tl' = [] := by
  simp only [nextA, Prod.mk.injEq] at e
  obtain ⟨rfl, rfl, rfl, rfl⟩ := e
  exact ⟨rfl, rfl, rfl⟩
theorem next_turn {wl : List (Nat × Nat)} {us tl : List Nat} {p : Nat × Nat} {wl' : List (Nat × Nat)} {us' tl' : List Nat} {i n : Nat} (e : nextA wl us tl = (p, wl', us', tl')) (h : wl.length + us.length + i = n ∨ (wl = [] ∧ us = [] ∧ tl = [])) :
    wl'.length + us'.length + (i + 1) = n ∨ (wl' = [] ∧ us' = [] ∧ tl' = []) := by
  rcases h with hc | ⟨rfl, rfl, rfl⟩
  · rcases next_cnt e with h | h
    · exact .inl (by omega)
    · exact .inr h
  · exact .inr (next_end e)
theorem okStart {sz : List Nat} (hszl : sz.length ≤ 10) : Ok [] sz tlF 40 10 := by
  refine ⟨fun _ h => (nomatch h), ?_, by simpa using hszl, .inl rfl⟩
  have : ∀ l : List Nat, totW (l.map pairP) ≤ 4 * l.length := by
    intro l
    induction l with
    | nil => exact Nat.le_refl _
    | cons s l ih =>
      have : s % 5 < 5 := Nat.mod_lt _ (by decide)
      rw [List.map_cons, totW, List.length_cons]
      show s % 5 + _ ≤ _
      omega
  have := this sz
  rw [totW]; omega
/-- where the law stands between two turns -/
def LawAt (a : LxA) (wt un : Addr) (N T L : Nat) (R : List (Addr × AO)) (l : List (String × AV)) (P : List (Nat × Nat) → List Nat → List Nat → Prop) (σ : St) : Prop :=
  ∃ lc ln wl us tl, σ = ⟨lc, ownA a wt un ln wl us tl ++ R⟩ ∧ Ok wl us tl T L ∧ ln + nl (stream us tl) = N ∧ P wl us tl ∧ Lk lc l
def natL (l : List Nat) : List AV := l.map fun n => AV.int (n : Nat)
theorem absAV (k : Int) : AV.int (if k < 0 then -k else k) = AV.int (k.natAbs : Nat) := congrArg AV.int (by split <;> omega)
end Mine
open PySem PySem.W PyProof.Rows
open Mine in
set_option maxHeartbeats 8000000 in
theorem PySem.Challenge.cw_tx0005_01_holds : PySem.Challenge.rw_tx0005_01.Holds := by
  refine hd ?_
  k_go0
  rename_i w6 s₀ s₁ mg mb G Y fa o pm cd doc kV ho hcd hg X V T B TE TW w5 hs hlay0 hL hr hl2 w4 w3 w2 w1 w0 hL2 ra w1' r0 hI hr2 hc1 hc2 hD h1 X' T' K' F' N' l0
  refine Mine.topGo (T := 98) (x := "script") rfl F' N' rfl rfl (Nat.le_add_left ..) (fun g => ?_) (fun h' tk' m' ps F2 g2 => ⟨goodW_bool F2 hg (fun cls => rfl) (by wrow_post), ⟨ps, g2⟩, trivial⟩)
  have W := Mine.mkWd X' T' codeHd (N' _ (.head _)).2.2
  have hints := lifted
  generalize ghostOf s₁.heap [(102, 98)] = b0 at W hints g ⊢
  generalize s₁.heap.objs.size = L at g ⊢
  clear hs hlay0 hL hr hl2 hL2 ra w1' r0 hr2 hc2 hD X' T' K' F' N' l0 lifted codeHd hT8 hT9 G Y ho hcd hg X V T B TE TW
  refine Exs.cons <| Ex.assign <| Ev.binop <| evCompL (cl := []) (cells := []) g ?a1 ?a2 ?a3 ?a4 (Ev.lsliceG <| Ev.name rfl <| Part.none <| Part.some <| Ev.int ⟨_, rfl, trivial, by show (0 : Int) ≤ 6; decide, w2, _, rfl, ints_of hints hI, by simp; omega, fun d' =>
    ⟨[(d', .list _)], ⟨_, [(98, .raw (tabObj #[]))]⟩, rfl, List.perm_append_comm (l₁ := [_]) (l₂ := [_]), _, [], fun c i acc σ => acc = natL (((w5.take 6).take i).map Int.natAbs) ∧ σ.own = [(98, .raw (tabObj #[]))], Itr.list (g.hd rfl) (.head _), by simp [cut]; omega, fun C x av h => (nomatch h), fun C => ⟨⟨rfl, rfl⟩, fun i x acc σ' hx hI => ?_, fun acc σ' hI d => ?_⟩⟩⟩) ?a5 ?a6
  case a1 => exact rfl
  case a2 => exact rfl
  case a3 => exact fun _ _ h => nomatch h
  case a4 => exact fun _ _ h => nomatch h
  case a5 => decide
  case a6 => decide
  · obtain ⟨rfl, h0⟩ := hI
    have hx : ((w5.map AV.int).take 6)[i]? = some x := hx
    rw [← List.map_take, List.getElem?_map] at hx
    obtain ⟨k, hk, rfl⟩ := Option.map_eq_some_iff.mp hx
    refine Asg.name <| Ifs.nil ⟨fun _ => Ev.callB <| Ev.built W.g (W.noGlob rfl rfl) W.b (W.built rfl) (fun h => VR.mkBi) ⟨rfl, Arg.cons <| Ev.name lkS <| Arg.nil <| Cal.abs ⟨?_, h0⟩⟩, fun hf => (nomatch hf)⟩
    obtain ⟨t6, ht6⟩ : ∃ t, t = w5.take 6 := ⟨_, rfl⟩
    rw [← ht6] at hk ⊢
    rw [List.take_add_one, hk, absAV]; simp [natL]
  · obtain ⟨rfl, h0⟩ := hI
    obtain ⟨lc', own⟩ := σ'
    cases h0
    refine Ev.list <| Arg.cons <| Ev.int <| Arg.cons <| Ev.int <| Arg.cons <| Ev.int <| Arg.cons <| Ev.int <| Arg.nil ⟨by simp, fun d2 => Op2.addL 1 0 rfl rfl (by simp [natL]; omega) fun so => ?_⟩
    have hsz : natL (((w5.take 6).take (cut Option.none (some 6) (w5.map AV.int)).length).map Int.natAbs) ++ [.int 2844, .int 116, .int 133, .int 642] = natL (szOf w5) := by
      rw [List.take_of_length_le (by simp [cut])]
      simp [natL, szOf]
    rw [hsz]
    have hszl := szOf_len w5
    generalize szOf w5 = sz at hszl ⊢
    refine Tri.perm (List.perm_append_comm (l₁ := [_, _, _]) (l₂ := [_])) (Tri.forget (own := [(98, .raw (tabObj #[])), (so, .list (natL sz))]) (R := [_, _]) ?_)
    refine Exs.absLoc [("sizes", .ref so)] (.cons lS .nil) (fun lc l1 => ?_)
    clear hsz
    refine Exs.cons <| Ex.assign <| Ev.binop <| Ev.meth F.plainAttrs_str F.slot_str_join F.type_str_join <| Ev.lit [] rfl ⟨HasT.str, Arg.cons <| Tri.frame (own := [(98, .raw (tabObj #[]))]) (R := [(so, .list (natL sz))]) <| Tri.pre (evComp (cl := []) (cells := []) [(so, .list (natL sz))] g ?b1 ?b2 ?b3 ?b4
      (Ev.name (l1.at 0 rfl) ⟨_, [], fun c i acc σ => acc = ((sz.take i).map writtenOf).map AV.str ∧ σ.own = [(98, .raw (tabObj #[]))], Itr.list (g.hd rfl) (.head _), by simp [natL]; omega, fun C x av h => (nomatch h), fun C => ⟨⟨rfl, rfl⟩, fun i x acc σ' hx hI => ?_, fun acc σ' hI d => ?_⟩⟩) ?b5 ?b6) (fun h p => p.2)⟩
    case b1 => exact rfl
    case b2 => exact rfl
    case b3 => exact fun _ _ h => nomatch h
    case b4 => exact fun _ _ h => nomatch h
    case b5 => decide
    case b6 => decide
    · obtain ⟨rfl, h0⟩ := hI
      obtain ⟨lc', own⟩ := σ'
      cases h0
      rw [natL, List.getElem?_map] at hx
      obtain ⟨k, hk, rfl⟩ := Option.map_eq_some_iff.mp hx
      refine Asg.name <| Ifs.nil ⟨fun _ => Ev.callFn (W.fn (a := 96) rfl) <| Ev.glob W.g (W.glob rfl) (fun h => VR.mkRef) ⟨rfl, Arg.cons <| Ev.name lkS <| Arg.nil <| (lawWritten W).use (own := []) (R := [(98, .raw (tabObj #[]))]) (g.comp.less (by decide)) fun av own' h => ?_⟩, fun hf => (nomatch hf)⟩
      obtain ⟨rfl, rfl⟩ := h
      refine ⟨?_, rfl⟩
      rw [List.take_add_one, hk]; simp
    · obtain ⟨rfl, h0⟩ := hI
      obtain ⟨lc', own⟩ := σ'
      cases h0
      have hz : sz.take (natL sz).length = sz := by simp [natL]
      rw [hz]
      have hfl : (sz.map writtenOf).flatten = sz.flatMap writtenOf := List.flatMap_def.symm
      have hfn := flat_len sz
      refine Arg.nil <| Cal.join (ls := sz.map writtenOf) 0 rfl (by rw [hfl]; omega) <| Ev.lit tlF rfl <| Op2.add_s (by rw [hfl]; show _ + 4 ≤ _; omega) ?_
      rw [hfl, show sz.flatMap writtenOf ++ tlF = stream sz tlF from rfl]
      refine Tri.perm (List.perm_append_comm (l₁ := [_]) (l₂ := [_, _])) (Tri.forget (own := [(98, .raw (tabObj #[])), (so, .list (natL sz))]) (R := [_]) ?_)
      refine Exs.absLoc [("sizes", .ref so), ("text", .str (stream sz tlF))] (.cons (lN (l1.at 0 rfl)) <| .cons lS .nil) (fun lc l2 => ?_)
      clear l1
      have hst := stream_len (us := sz) (L := 10) hszl (.inl rfl)
      refine Exs.cons <| Ex.assign <| Ev.callFn (W.fn (a := 103) rfl) <| Ev.glob W.g (W.glob rfl) (fun h => VR.mkRef) ⟨rfl, Arg.cons <| Ev.name (l2.at 1 rfl) <| Arg.nil <| (lawLexer W (by omega)).use (own := [(98, .raw (tabObj #[]))]) (R := [(so, .list (natL sz))]) (g.less (by decide)) fun av own' h => ?_⟩
      obtain ⟨a, ps, H, rfl, rfl⟩ := h
      refine Exs.absLoc [("sizes", .ref so), ("text", .str (stream sz tlF)), ("lexer", .ref a.x)] (.cons (lN (l2.at 0 rfl)) <| .cons (lN (l2.at 1 rfl)) <| .cons lS .nil) (fun lc l3 => ?_)
      clear l2
      refine Exs.cons <| Tri.frame (own := lexOwn a 1 [] (stream sz tlF) ++ [(98, .raw (tabObj ps))]) (R := [(so, .list (natL sz))]) <| Tri.pre (Ex.assignComp (cl := []) (cells := []) [(so, .list (natL sz))] g ?c1 ?c2 ?c3 ?c4
        (Ev.name (l3.at 0 rfl) ⟨[], ⟨lc, lexOwn a 1 [] (stream sz tlF) ++ [(98, .raw (tabObj ps))]⟩, rfl, by rw [List.append_nil], _, [], fun c i acc σ => acc = ((sz.take i).map pairP).map pairAV ∧ σ.own = lexOwn a 1 [] (stream sz tlF) ++ [(98, .raw (tabObj ps))], Itr.list (g.hd rfl) (.head _), by simp [natL]; omega, fun C x av h => (nomatch h), fun C => ⟨⟨rfl, rfl⟩, fun i x acc σ' hx hI => ?_, fun acc σ' hI un => ?_⟩⟩) ?c5 ?c6) (fun h p => p.2)
      case c1 => exact rfl
      case c2 => exact rfl
      case c3 => exact fun _ _ h => nomatch h
      case c4 => exact fun _ _ h => nomatch h
      case c5 => decide
      case c6 => decide
      · obtain ⟨rfl, h0⟩ := hI
        obtain ⟨lc', own⟩ := σ'
        cases h0
        rw [natL, List.getElem?_map] at hx
        obtain ⟨k, hk, rfl⟩ := Option.map_eq_some_iff.mp hx
        refine Asg.name <| Ifs.nil ⟨fun _ => Ev.callFn (W.fn (a := 84) rfl) <| Ev.glob W.g (W.glob rfl) (fun h => VR.mkRef) ⟨rfl, Arg.cons <| Ev.name lkS <| Arg.nil <| (lawPair W).use (own := []) (R := lexOwn a 1 [] (stream sz tlF) ++ [(98, .raw (tabObj ps))]) (g.comp.less (by decide)) fun av own' h => ?_⟩, fun hf => (nomatch hf)⟩
        obtain ⟨rfl, rfl⟩ := h
        refine ⟨?_, rfl⟩
        rw [List.take_add_one, hk]; simp [pairP, pairAV]
      · obtain ⟨rfl, h0⟩ := hI
        obtain ⟨lc', own⟩ := σ'
        cases h0
        rw [hz]
        refine Exs.cons <| Ex.assign <| Ev.list <| Arg.nil ⟨by simp, fun wt => ?_⟩
        refine Exs.absLoc [("sizes", .ref so), ("text", .str (stream sz tlF)), ("lexer", .ref a.x), ("unread", .ref un), ("waiting", .ref wt)] (.cons (lN (lN (l3.at 0 rfl))) <| .cons (lN (lN (l3.at 1 rfl))) <| .cons (lN (lN (l3.at 2 rfl))) <| .cons (lN lS) <| .cons lS .nil) (fun lc l4 => ?_)
        clear l3
        have hperm : ((wt, AO.list []) :: (un, AO.list ((sz.map pairP).map pairAV)) :: (lexOwn a 1 [] (stream sz tlF) ++ [(98, AO.raw (tabObj ps))] ++ [(so, AO.list (natL sz))])).Perm (ownA a wt un 1 [] sz tlF ++ [(98, AO.raw (tabObj ps))] ++ [(so, AO.list (natL sz))]) := by
          have := List.Perm.append_right [(98, AO.raw (tabObj ps)), (so, AO.list (natL sz))] (List.perm_append_comm (l₁ := [(wt, AO.list []), (un, AO.list ((sz.map pairP).map pairAV))]) (l₂ := lexOwn a 1 [] (stream sz tlF)))
          exact this
        refine Tri.perm hperm ?_
        obtain ⟨N, hN⟩ : ∃ N, N = 1 + nl (stream sz tlF) := ⟨_, rfl⟩
        refine Exs.cons <| Tri.frame (own := ownA a wt un 1 [] sz tlF ++ [(98, .raw (tabObj ps))]) (R := [(so, .list (natL sz))]) <| Tri.pre (Ex.forH [(so, .list (natL sz))] <| Ev.name (l4.at 0 rfl) ⟨natL sz, fun i σ => i ≤ sz.length → LawAt a wt un N 40 (10 + 2 * i) [(98, .raw (tabObj ps))] [("text", .str (stream sz tlF)), ("lexer", .ref a.x), ("unread", .ref un), ("waiting", .ref wt)] (fun _ _ _ => True) σ,
          Itr.list (g.hd rfl) (.head _), fun _ => ⟨_, _, _, _, _, rfl, okStart hszl, hN.symm, trivial, .cons (l4.at 1 rfl) <| .cons (l4.at 2 rfl) <| .cons (l4.at 3 rfl) <| .cons (l4.at 4 rfl) .nil⟩, fun i x σ' hx hI => ?_, fun σ' hI => ?_⟩) (fun h p => p.2)
        · have hil : i < sz.length := by
            have := (List.getElem?_eq_some_iff.mp hx).1
            rwa [natL, List.length_map] at this
          obtain ⟨lc', ln, wl, us, tl, rfl, hO, hN', _, l5⟩ := hI (Nat.le_of_lt hil)
          rw [natL, List.getElem?_map] at hx
          obtain ⟨k, hk, rfl⟩ := Option.map_eq_some_iff.mp hx
          refine Asg.name <| Exs.cons <| Ex.iff <| Tst.not <| Tst.val <| Ev.callFn (W.fn (a := 129) rfl) <| Ev.glob W.g (W.glob rfl) (fun h => VR.mkRef) ⟨rfl, Arg.cons <| Ev.name lkS <| Arg.cons <| Ev.name (lkN (l5.at 1 rfl)) <| Arg.cons <| Ev.name (lkN (l5.at 3 rfl)) <| Arg.cons <| Ev.name (lkN (l5.at 2 rfl)) <| Arg.nil <| (lawDeed W H hO (by decide) (by omega) hN').use (own := ownA a wt un ln wl us tl) (R := [(98, .raw (tabObj ps))]) (g.less (by decide)) fun av own' h => ?_⟩
          obtain ⟨rfl, ln', wl', us', tl', hO', hN2, rfl⟩ := h
          exact Tru.bool ⟨fun h => (nomatch h), fun _ => Exs.nil <| Exs.nil fun hi => ⟨_, ln', wl', us', tl', rfl, hO', hN2, trivial, .cons (lN (l5.at 0 rfl)) <| .cons (lN (l5.at 1 rfl)) <| .cons (lN (l5.at 2 rfl)) <| .cons (lN (l5.at 3 rfl)) .nil⟩⟩
        · obtain ⟨lc', ln, wl, us, tl, rfl, hO, hN', _, l5⟩ := hI (by rw [natL, List.length_map]; exact Nat.le_refl _)
          clear l4
          rw [show (natL sz).length = sz.length by rw [natL, List.length_map]] at hO
          have hO30 := hO.weak (T' := 40) (L' := 30) (Nat.le_refl _) (by omega)
          obtain ⟨n0, hn0⟩ : ∃ n, n = wl.length + us.length := ⟨_, rfl⟩
          have hn30 : n0 ≤ 30 := by rw [hn0]; exact hO30.len
          have hwl : (wl.map pairAV).length < 2 ^ 62 := by rw [List.length_map]; omega
          have hul : ((us.map pairP).map pairAV).length < 2 ^ 62 := by rw [List.length_map, List.length_map]; omega
          have hlen : (((wl.map pairAV).length : Int) + ((us.map pairP).map pairAV).length + 2) = ((n0 + 2 : Nat) : Int) := by
            rw [List.length_map, List.length_map, List.length_map, hn0]; omega
          refine Exs.cons <| Ex.for <| Ev.callT <| Ev.built W.g (W.noGlob rfl rfl) W.b (W.built rfl) (fun h => VR.mkTy) ⟨rfl, Arg.cons <| Ev.binop <| Ev.binop <| Ev.callB <| Ev.built W.g (W.noGlob rfl rfl) W.b (W.built rfl) (fun h => VR.mkBi) ⟨rfl, Arg.cons <| Ev.name (l5.at 3 rfl) <| Arg.nil <| Cal.len_l 7 rfl hwl <| Ev.callB <| Ev.built W.g (W.noGlob rfl rfl) W.b (W.built rfl) (fun h => VR.mkBi) ⟨rfl, Arg.cons <| Ev.name (l5.at 2 rfl) <| Arg.nil <| Cal.len_l 8 rfl hul <| Op2.add <| Ev.int <| Op2.add <| Arg.nil <| Cal.range1 ?_⟩⟩⟩
          rw [hlen]
          refine ⟨_, fun i σ => LawAt a wt un N 40 30 [(98, .raw (tabObj ps)), (so, .list (natL sz))] [("text", .str (stream sz tlF)), ("lexer", .ref a.x), ("unread", .ref un), ("waiting", .ref wt)] (fun wl us tl => wl.length + us.length + i = n0 ∨ (wl = [] ∧ us = [] ∧ tl = [])) σ,
            Itr.range (g.hd rfl) (by decide) (by decide) (by omega) (by omega), ⟨_, ln, wl, us, tl, rfl, hO30, hN', .inl hn0.symm, l5⟩, fun i x σ' hx hI => ?_, fun σ' hI => ?_⟩
          · clear hO hO30 hn30 l5 hN' hn0 hwl hul hlen
            obtain ⟨lc', ln, wl, us, tl, rfl, hO, hN', hc, l5⟩ := hI
            obtain ⟨⟨p, wl1, us1, tl1⟩, e1⟩ : ∃ x, nextA wl us tl = x := ⟨_, rfl⟩
            refine Asg.name <| Exs.cons <| Ex.iff <| Tst.cmp <| Ev.callFn (W.fn (a := 108) rfl) <| Ev.glob W.g (W.glob rfl) (fun h => VR.mkRef) ⟨rfl, Arg.cons <| Ev.name (lkN (l5.at 1 rfl)) <| Arg.cons <| Ev.name (lkN (l5.at 3 rfl)) <| Arg.cons <| Ev.name (lkN (l5.at 2 rfl)) <| Arg.nil <| (lawNextA W H hO (by decide) (by decide) e1 hN').use (own := ownA a wt un ln wl us tl) (R := [(98, .raw (tabObj ps)), (so, .list (natL sz))]) (g.less (by decide)) fun av own' h => ?_⟩
            obtain ⟨rfl, ln1, hN1, rfl⟩ := h
            exact Ev.none <| Op2.isNone <| Tru.bool ⟨fun h => (nomatch h), fun _ => Exs.nil <| Exs.nil ⟨_, ln1, wl1, us1, tl1, rfl, (hO.next e1).2.2.weak (Nat.sub_le ..) (Nat.le_refl _), hN1, next_turn e1 hc, .cons (lN (l5.at 0 rfl)) <| .cons (lN (l5.at 1 rfl)) <| .cons (lN (l5.at 2 rfl)) <| .cons (lN (l5.at 3 rfl)) .nil⟩⟩
          · clear hO hO30 l5 hN' hn0 hwl hul hlen
            obtain ⟨lc', ln', wl', us', tl', rfl, hO, hN', hc, l5⟩ := hI
            rw [List.length_map, List.length_range] at hc
            obtain ⟨rfl, rfl, rfl⟩ := hc.resolve_left (by omega)
            have hln : ln' = N := by rw [show stream [] [] = [] from rfl] at hN'; exact hN'
            subst hln
            refine Exs.cons <| Ex.ret <| Ev.and2 <| Ev.cmp <| Ev.attr <| Ev.name (l5.at 1 rfl) ⟨a.x, rfl, getOwn W.k (on_lineno _) 4 rfl rfl <| Ev.binop <| Ev.int <| Ev.meth F.plainAttrs_str F.slot_str_count F.type_str_count <| Ev.name (l5.at 0 rfl) ⟨HasT.str, Arg.cons <| Ev.lit [10] rfl <| Arg.nil <| Cal.count <| Op2.add <| Op2.eq <| Tru.bool ⟨fun _ => ?_, fun h => ?_⟩⟩⟩
            · exact Ev.cmp <| Ev.attr <| Ev.attr <| Ev.name (l5.at 1 rfl) ⟨a.x, rfl, getOwn W.k (on_instream _) 4 rfl rfl ⟨a.p, rfl, getOwn W.k (on_instream _) 6 rfl rfl <| Ev.list <| Arg.nil ⟨by simp, fun o => Op2.eqL (e := fun _ => true) g 4 0 rfl rfl ⟨fun j x y h => (nomatch h)⟩ ⟨rfl, ps, _, List.perm_middle (l₁ := _ :: ownA a wt un ln' [] [] [])⟩⟩⟩⟩
            · exfalso
              rw [hN] at h
              have : ((1 + nl (stream sz tlF) : Nat) : Int) = 1 + ((List.count 10 (stream sz tlF) : Nat) : Int) := by unfold nl; omega
              rw [this, beq_self_eq_true] at h
              cases h

