import PyProof.Rows.All
import Wide.All
import OpenK.AllK
import Wide.FinOn
import PySem.Challenge.RW_tx0005_02
set_option Elab.async false
set_option maxRecDepth 100000
set_option linter.unusedVariables false

-- AH
namespace Mine
open PySem PySem.Calls PyProof.Rows PySem.W

theorem bind1 {fd : FuncData} {r : List Str} {vs : List Value} (h : vs.length = 1) (k : ∀ x, bindArgs fd ⟨[x], []⟩ = pure (r.zip [x])) : bindArgs fd ⟨vs, []⟩ = pure (r.zip vs) := by
  match vs, h with
  | [x], _ => exact k x
theorem bind2 {fd : FuncData} {r : List Str} {vs : List Value} (h : vs.length = 2) (k : ∀ x y, bindArgs fd ⟨[x, y], []⟩ = pure (r.zip [x, y])) : bindArgs fd ⟨vs, []⟩ = pure (r.zip vs) := by
  match vs, h with
  | [x, y], _ => exact k x y
/-! abstract values, owned objects -/
inductive AV where
  | none
  | bool (b : Bool)
  | int (i : Int)
  | str (l : List Nat)
  | tup (l : List AV)
  | rng (a b c : Int)
  | ref (a : Addr)
  | bi (id : String)
  | ty (n : String)

abbrev tupObj (vs : List Value) (n : Nat) : Obj := ⟨.type "tuple", Option.none, .seq vs.toArray n, #[]⟩
abbrev rngObj (a b c : Int) (t u w : Tok) : Obj := ⟨.type "range", Option.none, .fields #[.int a t, .int b u, .int c w], #[]⟩
abbrev listObj (vs : List Value) (n : Nat) : Obj := ⟨.type "list", Option.none, .seq vs.toArray n, #[]⟩

mutual
def VR (h : Heap) : AV → Value → Prop
  | .none, v => v = .none
  | .bool b, v => v = .bool b
  | .int i, v => ∃ t, v = .int i t
  | .str l, v => ∃ t, v = .str ⟨l.toArray⟩ t
  | .tup l, v => ∃ a vs n, v = .ref a ∧ h.get? a = some (tupObj vs n) ∧ VRs h l vs
  | .rng a b c, v => ∃ r t u w, v = .ref r ∧ h.get? r = some (rngObj a b c t u w)
  | .ref a, v => v = .ref a
  | .bi id, v => v = .builtin id
  | .ty n, v => v = .type n
def VRs (h : Heap) : List AV → List Value → Prop
  | [], vs => vs = []
  | x :: l, vs => ∃ v r, vs = v :: r ∧ VR h x v ∧ VRs h l r
end

theorem VRs.length {h : Heap} : ∀ {l : List AV} {vs : List Value}, VRs h l vs → vs.length = l.length
  | [], _, e => by rw [VRs] at e; subst e; rfl
  | _ :: _, _, e => by rw [VRs] at e; obtain ⟨v, r, rfl, _, q⟩ := e; simp [VRs.length q]

theorem VRs.get {h : Heap} : ∀ {l : List AV} {vs : List Value} {i : Nat} {x : AV}, VRs h l vs → l[i]? = some x → ∃ v, vs[i]? = some v ∧ VR h x v
  | [], _, _, _, _, e => by simp at e
  | y :: l, _, 0, x, q, e => by
    rw [VRs] at q; obtain ⟨v, r, rfl, a, _⟩ := q
    simp only [List.getElem?_cons_zero, Option.some.injEq] at e; subst e
    exact ⟨v, rfl, a⟩
  | y :: l, _, i + 1, x, q, e => by
    rw [VRs] at q; obtain ⟨v, r, rfl, _, q⟩ := q
    simp only [List.getElem?_cons_succ] at e ⊢
    exact VRs.get q e

theorem VRs.append {h : Heap} : ∀ {l l' : List AV} {vs vs' : List Value}, VRs h l vs → VRs h l' vs' → VRs h (l ++ l') (vs ++ vs')
  | [], _, _, _, a, b => by rw [VRs] at a; subst a; exact b
  | _ :: _, _, _, _, a, b => by
    rw [VRs] at a; obtain ⟨v, r, rfl, x, q⟩ := a
    rw [List.cons_append, VRs]; exact ⟨v, _, rfl, x, VRs.append q b⟩

theorem VRs.drop {h : Heap} {l : List AV} {vs : List Value} (q : VRs h l vs) (i : Nat) : VRs h (l.drop i) (vs.drop i) := by
  induction i generalizing l vs with
  | zero => exact q
  | succ i ih =>
    cases l with
    | nil => rw [VRs] at q; subst q; simp only [List.drop_nil]; rw [VRs]
    | cons x l => rw [VRs] at q; obtain ⟨v, r, rfl, _, q⟩ := q; exact ih q
theorem VRs.take {h : Heap} {l : List AV} {vs : List Value} (q : VRs h l vs) (i : Nat) : VRs h (l.take i) (vs.take i) := by
  induction i generalizing l vs with
  | zero => simp only [List.take_zero]; rw [VRs]
  | succ i ih =>
    cases l with
    | nil => rw [VRs] at q; subst q; simp only [List.take_nil]; rw [VRs]
    | cons x l => rw [VRs] at q; obtain ⟨v, r, rfl, a, q⟩ := q; simp only [List.take_succ_cons]; rw [VRs]; exact ⟨v, _, rfl, a, ih q⟩

/-- a heap keeps (up to the slots of frames in K) what lies off F -/
def Sp (K F : List Addr) (h h' : Heap) : Prop :=
  ∀ a o, a ∉ F → h.get? a = some o → (a ∉ K → h'.get? a = some o) ∧ ∃ sl, h'.get? a = some { o with slots := sl }

theorem Sp.refl {K F : List Addr} {h : Heap} : Sp K F h h := fun _ o _ e => ⟨fun _ => e, o.slots, e⟩
theorem Sp.of_keep {K F : List Addr} {h h' : Heap} (k : ∀ a o, a ∉ F → h.get? a = some o → h'.get? a = some o) : Sp K F h h' :=
  fun a o f e => ⟨fun _ => k a o f e, o.slots, k a o f e⟩
theorem Sp.trans {K F G : List Addr} {h h' h'' : Heap} (x : Sp K F h h') (y : Sp K G h' h'') (hg : ∀ a o, a ∉ F → h.get? a = some o → a ∉ G) : Sp K F h h'' := by
  intro a o f e
  obtain ⟨p, sl, q⟩ := x a o f e
  have g := hg a o f e
  refine ⟨fun k => (y a o g (p k)).1 k, ?_⟩
  obtain ⟨_, sl', q'⟩ := y a _ g q
  exact ⟨sl', q'⟩
theorem Sp.get {K F : List Addr} {h h' : Heap} {a : Addr} {o : Obj} (x : Sp K F h h') (e : h.get? a = some o) (f : a ∉ F) (k : a ∉ K) : h'.get? a = some o := (x a o f e).1 k

/-- what never turns -/
inductive Imm : Obj → Prop
  | tup (xs : Array Value) (n : Nat) (sl : Array (Option Value)) : Imm ⟨.type "tuple", Option.none, .seq xs n, sl⟩
  | rng (a b c : Int) (t u w : Tok) (sl : Array (Option Value)) : Imm ⟨.type "range", Option.none, .fields #[.int a t, .int b u, .int c w], sl⟩
def NT (o : Obj) : Prop := ¬ Imm o
theorem NT.of_cls {o : Obj} (h : o.cls ≠ .type "tuple") (h' : o.cls ≠ .type "range") : NT o := fun z => by cases z; exact h rfl; exact h' rfl
theorem NT.of_many {o : Obj} {vs : Array Value} (h : o.data = .fields vs) (hs : 3 < vs.size) : NT o := fun z => by
  cases z
  · cases h
  · cases h; exact absurd hs (by simp)
theorem NT.of_dict {o : Obj} {es ep} (h : o.data = .dict es ep) : NT o := fun z => by cases z <;> cases h
theorem NT.of_cell {o : Obj} {v} (h : o.data = .cell v) : NT o := fun z => by cases z <;> cases h
theorem NT.slots {o : Obj} (h : NT o) (sl : Array (Option Value)) : NT { o with slots := sl } := fun z => h (by
  obtain ⟨c, d, dt, s0⟩ := o
  cases z <;> constructor)
def NoTup (h : Heap) (F : List Addr) : Prop := ∀ a ∈ F, ∀ o, h.get? a = some o → NT o
theorem NoTup.nil {h : Heap} : NoTup h [] := fun _ q => nomatch q

mutual
theorem VR.mono {K F : List Addr} {h h' : Heap} (x : Sp K F h h') (n : NoTup h F) (nK : NoTup h K := by first | assumption | exact NoTup.nil) : ∀ {av : AV} {v : Value}, VR h av v → VR h' av v
  | .none, _, e => by rw [VR] at *; exact e
  | .bool _, _, e => by rw [VR] at *; exact e
  | .int _, _, e => by rw [VR] at *; exact e
  | .str _, _, e => by rw [VR] at *; exact e
  | .tup l, v, e => by
    rw [VR] at *
    obtain ⟨a, vs, m, rfl, g, q⟩ := e
    exact ⟨a, vs, m, rfl, x.get g (fun f => n a f _ g (.tup ..)) (fun f => nK a f _ g (.tup ..)), VRs.mono x n nK q⟩
  | .rng _ _ _, v, e => by
    rw [VR] at *
    obtain ⟨r, t, u, w, rfl, g⟩ := e
    exact ⟨r, t, u, w, rfl, x.get g (fun f => n r f _ g (.rng ..)) (fun f => nK r f _ g (.rng ..))⟩
  | .ref _, _, e => by rw [VR] at *; exact e
  | .bi _, _, e => by rw [VR] at *; exact e
  | .ty _, _, e => by rw [VR] at *; exact e
theorem VRs.mono {K F : List Addr} {h h' : Heap} (x : Sp K F h h') (n : NoTup h F) (nK : NoTup h K := by first | assumption | exact NoTup.nil) : ∀ {l : List AV} {vs : List Value}, VRs h l vs → VRs h' l vs
  | [], _, e => by rw [VRs] at *; exact e
  | _ :: _, _, e => by
    rw [VRs] at *
    obtain ⟨v, r, rfl, a, q⟩ := e
    exact ⟨v, r, rfl, VR.mono x n nK a, VRs.mono x n nK q⟩
end

/-- owned objects -/
inductive AO where
  | list (l : List AV)
  | iter (lst : Addr) (l : List AV)
  | inst (C dx : Addr) (fs : List (String × AV))
  | raw (o : Obj)

def foot (a : Addr) : AO → List Addr
  | .list _ => [a]
  | .iter lst _ => [a, lst]
  | .inst _ dx _ => [a, dx]
  | .raw _ => [a]

def feet (own : List (Addr × AO)) : List Addr := own.flatMap fun p => foot p.1 p.2
theorem feet_nil : feet [] = [] := rfl
theorem feet_cons (a : Addr) (o : AO) (r : List (Addr × AO)) : feet ((a, o) :: r) = foot a o ++ feet r := rfl
theorem feet_append (l r : List (Addr × AO)) : feet (l ++ r) = feet l ++ feet r := by unfold feet; rw [List.flatMap_append]

/-- the entries of an object's dict -/
def ES (h : Heap) : List (String × AV) → List DictEntry → Prop
  | [], es => es = []
  | p :: l, es => ∃ e r t, es = e :: r ∧ e.key = .str (Str.ofString p.1) t ∧ VR h p.2 e.val ∧ ES h l r

def OR (h : Heap) (a : Addr) : AO → Prop
  | .list l => ∃ vs n, h.get? a = some (listObj vs n) ∧ VRs h l vs
  | .iter lst l => ∃ vs n i, h.IsListIter a lst i ∧ h.get? lst = some (listObj vs n) ∧ VRs h l (vs.drop i)
  | .inst C dx fs => ∃ es n, h.get? a = some ⟨.ref C, some dx, .plain, #[]⟩ ∧ h.get? dx = some (dictOf es n) ∧ fs.length ≤ 20 ∧ ES h fs es
  | .raw o => h.get? a = some o ∧ NT o

theorem OR.noTup {h : Heap} {a : Addr} {ao : AO} (r : OR h a ao) : NoTup h (foot a ao) := by
  intro b hb o e
  cases ao with
  | list l =>
    obtain ⟨vs, n, g, _⟩ := r
    simp only [foot, List.mem_singleton] at hb; subst hb
    rw [g] at e; cases e; exact .of_cls (by simp) (by simp)
  | iter lst l =>
    obtain ⟨vs, n, i, ⟨oi, gi, ci, _⟩, g, _⟩ := r
    simp only [foot, List.mem_cons, List.not_mem_nil, or_false] at hb
    rcases hb with rfl | rfl
    · rw [gi] at e; cases e; exact .of_cls (by rw [ci]; simp) (by rw [ci]; simp)
    · rw [g] at e; cases e; exact .of_cls (by simp) (by simp)
  | inst C dx fs =>
    obtain ⟨es, n, g1, g2, _⟩ := r
    simp only [foot, List.mem_cons, List.not_mem_nil, or_false] at hb
    rcases hb with rfl | rfl
    · rw [g1] at e; cases e; exact .of_cls (by simp) (by simp)
    · rw [g2] at e; cases e; exact .of_cls (by simp) (by simp)
  | raw o' =>
    obtain ⟨g, c⟩ := r
    simp only [foot, List.mem_singleton] at hb; subst hb
    rw [g] at e; cases e; exact c

theorem OR.here {h : Heap} {a : Addr} {ao : AO} (r : OR h a ao) : ∀ b ∈ foot a ao, ∃ o, h.get? b = some o := by
  intro b hb
  cases ao with
  | list l =>
    obtain ⟨vs, n, g, _⟩ := r
    simp only [foot, List.mem_singleton] at hb; subst hb; exact ⟨_, g⟩
  | iter lst l =>
    obtain ⟨vs, n, i, ⟨oi, gi, ci, _⟩, g, _⟩ := r
    simp only [foot, List.mem_cons, List.not_mem_nil, or_false] at hb
    rcases hb with rfl | rfl
    · exact ⟨_, gi⟩
    · exact ⟨_, g⟩
  | inst C dx fs =>
    obtain ⟨es, n, g1, g2, _⟩ := r
    simp only [foot, List.mem_cons, List.not_mem_nil, or_false] at hb
    rcases hb with rfl | rfl
    · exact ⟨_, g1⟩
    · exact ⟨_, g2⟩
  | raw o' =>
    simp only [foot, List.mem_singleton] at hb; subst hb; exact ⟨_, r.1⟩

theorem ES.mono {K F : List Addr} {h h' : Heap} (x : Sp K F h h') (n : NoTup h F) (nK : NoTup h K := by first | assumption | exact NoTup.nil) : ∀ {fs : List (String × AV)} {es : List DictEntry}, ES h fs es → ES h' fs es
  | [], _, q => q
  | p :: l, es, q => by
    obtain ⟨e, r, t, rfl, a, b, d⟩ := q
    exact ⟨e, r, t, rfl, a, b.mono x n nK, ES.mono x n nK d⟩

theorem OR.mono {K F : List Addr} {h h' : Heap} {a : Addr} {ao : AO} (x : Sp K F h h') (n : NoTup h F) (r : OR h a ao) (hf : ∀ b ∈ foot a ao, b ∉ F ∧ b ∉ K) (nK : NoTup h K := by first | assumption | exact NoTup.nil) : OR h' a ao := by
  have k : ∀ b ∈ foot a ao, ∀ o, h.get? b = some o → h'.get? b = some o := fun b hb o e => x.get e (hf b hb).1 (hf b hb).2
  cases ao with
  | list l =>
    obtain ⟨vs, m, g, q⟩ := r
    exact ⟨vs, m, k a (by simp [foot]) _ g, q.mono x n nK⟩
  | iter lst l =>
    obtain ⟨vs, m, i, ⟨oi, gi, ci, di⟩, g, q⟩ := r
    exact ⟨vs, m, i, ⟨oi, k a (by simp [foot]) _ gi, ci, di⟩, k lst (by simp [foot]) _ g, q.mono x n nK⟩
  | inst C dx fs =>
    obtain ⟨es, m, g1, g2, hl, q⟩ := r
    exact ⟨es, m, k a (by simp [foot]) _ g1, k dx (by simp [foot]) _ g2, hl, q.mono x n nK⟩
  | raw o => exact ⟨k a (by simp [foot]) _ r.1, r.2⟩

/-! contexts, states -/
structure Cx where
  prog : Program
  w : World
  b0 : Heap
  A : Around
  env : Env
  fr : List Addr
  fx : List Addr
  K : List Addr

structure St where
  loc : List (String × AV)
  own : List (Addr × AO)

abbrev Cx.kind (c : Cx) (x : String) : Option NameKind := c.env.kindOf (Str.ofString x)

def LocAt (c : Cx) (h : Heap) (m : Str → Option Value) (x : String) (av : AV) : Prop :=
  (c.kind x = some .local ∧ ∃ v, m (Str.ofString x) = some v ∧ VR h av v) ∨
  ((c.kind x = some .cell ∨ c.kind x = some .free) ∧ ∃ a v, c.env.cells.lookup (Str.ofString x) = some a ∧ (a ∈ c.fr ∨ a ∈ c.fx) ∧ a ≠ c.env.locals ∧ h.IsCell a (some v) ∧ VR h av v)

structure Rep (c : Cx) (σ : St) (h : Heap) : Prop where
  ns : ∃ m, h.Ns c.env.locals m ∧ ∀ x av, σ.loc.lookup x = some av → LocAt c h m x av
  lin : c.env.locals ∈ c.fr
  cel : ∀ x a, c.kind x = some .cell → c.env.cells.lookup (Str.ofString x) = some a → a ∈ c.fr → a ≠ c.env.locals ∧ ∃ v, h.IsCell a v
  inj : ∀ x y a, c.env.cells.lookup (Str.ofString x) = some a → c.env.cells.lookup (Str.ofString y) = some a → x = y
  own : ∀ p ∈ σ.own, OR h p.1 p.2
  nd : (c.fr ++ (c.fx ++ feet σ.own)).Nodup
  nk : ∀ a ∈ c.fr ++ (c.fx ++ feet σ.own), a ∉ c.K ∧ c.b0.get? a = none
  frc : ∀ a ∈ c.fr, ∃ o, h.get? a = some o ∧ NT o
  kb : ∀ a o, c.b0.get? a = some o → h.get? a = some o
  kn : ∀ a ∈ c.K, c.b0.get? a = none
  kh : ∀ a ∈ c.K ++ c.fx, ∃ o, h.get? a = some o ∧ NT o
  ff : ∀ l, c.A.frames = some l → h.FunFrames c.b0 l ∧ ∀ a ∈ l.filterMap (·.frame), a ∈ c.fr ++ c.K

structure Aft (c : Cx) (σ : St) (s : Shared) (σ' : St) (s' : Shared) : Prop where
  rest : s' = { s with heap := s'.heap, toks := s'.toks }
  sp : Sp c.K (c.fr ++ feet σ.own) s.heap s'.heap
  al : ∀ a o, a ∉ feet σ.own → s.heap.get? a = some o → ∃ o', s'.heap.get? a = some o'
  fs : ∀ a ∈ feet σ'.own, a ∈ feet σ.own ∨ s.heap.get? a = none

theorem Rep.noTup {c : Cx} {σ : St} {h : Heap} (r : Rep c σ h) : NoTup h (c.fr ++ feet σ.own) := by
  intro a ha o e
  rcases List.mem_append.mp ha with q | q
  · obtain ⟨o', e', k⟩ := r.frc a q
    rw [e] at e'; cases e'; exact k
  · obtain ⟨p, hp, hb⟩ := List.mem_flatMap.mp q
    exact (r.own p hp).noTup a hb o e

theorem Rep.noTupK {c : Cx} {σ : St} {h : Heap} (r : Rep c σ h) : NoTup h c.K := by
  intro a ha o e
  obtain ⟨o', e', k⟩ := r.kh a (List.mem_append_left _ ha)
  rw [e] at e'; cases e'; exact k

theorem Rep.here {c : Cx} {σ : St} {h : Heap} (r : Rep c σ h) : ∀ a ∈ c.fr ++ feet σ.own, ∃ o, h.get? a = some o := by
  intro a ha
  rcases List.mem_append.mp ha with q | q
  · obtain ⟨o', e', _⟩ := r.frc a q; exact ⟨o', e'⟩
  · obtain ⟨p, hp, hb⟩ := List.mem_flatMap.mp q
    exact (r.own p hp).here a hb

theorem Aft.refl {c : Cx} {σ : St} {s : Shared} : Aft c σ s σ s := ⟨rfl, .refl, fun _ o _ e => ⟨o, e⟩, fun _ h => .inl h⟩
theorem Aft.trans {c : Cx} {σ σ' σ'' : St} {s s' s'' : Shared} (x : Aft c σ s σ' s') (y : Aft c σ' s' σ'' s'') : Aft c σ s σ'' s'' := by
  refine ⟨?_, x.sp.trans y.sp fun a o f e => ?_, fun a o n e => ?_, fun a ha => ?_⟩
  · have e1 := x.rest; have e2 := y.rest
    rw [e2]; rw [e1]
  · intro g
    rcases List.mem_append.mp g with g | g
    · exact f (List.mem_append_left _ g)
    · rcases x.fs a g with g | g
      · exact f (List.mem_append_right _ g)
      · rw [e] at g; cases g
  · obtain ⟨o', e'⟩ := x.al a o n e
    refine y.al a o' (fun z => ?_) e'
    rcases x.fs a z with z | z
    · exact n z
    · rw [e] at z; cases z
  · rcases y.fs a ha with q | q
    · exact x.fs a q
    · by_cases n : a ∈ feet σ.own
      · exact .inl n
      right
      cases e : s.heap.get? a with
      | none => rfl
      | some o => obtain ⟨o', e'⟩ := x.al a o n e; rw [q] at e'; cases e'

/-- a state: the heap as told, and tokens are being given -/
structure RepS (c : Cx) (σ : St) (s : Shared) : Prop extends Rep c σ s.heap where
  tp : 1 ≤ s.toks

theorem VR.after {c : Cx} {σ σ' : St} {s s' : Shared} {av : AV} {v : Value} (r : RepS c σ s) (x : Aft c σ s σ' s') (q : VR s.heap av v) : VR s'.heap av v := q.mono x.sp r.noTup r.noTupK
theorem VRs.after {c : Cx} {σ σ' : St} {s s' : Shared} {l : List AV} {vs : List Value} (r : RepS c σ s) (x : Aft c σ s σ' s') (q : VRs s.heap l vs) : VRs s'.heap l vs := q.mono x.sp r.noTup r.noTupK

abbrev XP := Value → St → Shared → Prop
def noX : XP := fun _ _ _ => False

def Kq {α β : Type} (c : Cx) (σ : St) (s : Shared) (V : Heap → β → α → Prop) (Φ : β → St → Prop) (Q : α → Shared → Prop) : Prop :=
  ∀ a x σ' s', RepS c σ' s' → Aft c σ s σ' s' → V s'.heap x a → Φ x σ' → Q a s'
def Kx (c : Cx) (σ : St) (s : Shared) (X : XP) (E : Value → Shared → Prop) : Prop :=
  ∀ e σ' s', RepS c σ' s' → Aft c σ s σ' s' → X e σ' s' → E e s'
theorem Kq.go {α β : Type} {c : Cx} {σ σ₁ : St} {s s₁ : Shared} {V : Heap → β → α → Prop} {Φ : β → St → Prop} {Q : α → Shared → Prop} (q : Kq c σ s V Φ Q) (f : Aft c σ s σ₁ s₁) : Kq c σ₁ s₁ V Φ Q :=
  fun a x σ' s' r f' v p => q a x σ' s' r (f.trans f') v p
theorem Kx.go {c : Cx} {σ σ₁ : St} {s s₁ : Shared} {X : XP} {E : Value → Shared → Prop} (q : Kx c σ s X E) (f : Aft c σ s σ₁ s₁) : Kx c σ₁ s₁ X E :=
  fun e σ' s' r f' p => q e σ' s' r (f.trans f') p

abbrev T0 : Heap → Prop := fun _ => True
def Tri {α β : Type} (c : Cx) (P : Heap → Prop) (t : Sem α) (V : Heap → β → α → Prop) (σ : St) (Φ : β → St → Prop) (X : XP) : Prop :=
  ∀ s, RepS c σ s → P s.heap → ∀ (Q : α → Shared → Prop) (E : Value → Shared → Prop), Kq c σ s V Φ Q → Kx c σ s X E → wpAny (model c.prog c.w) c.A t Q E s

abbrev Ev (c : Cx) (e : Expr) (σ : St) (Φ : AV → St → Prop) (X : XP) : Prop := Tri c T0 (eval e c.env) VR σ Φ X

def KqH {α β : Type} (c : Cx) (σ : St) (s : Shared) (V : Heap → β → α → Prop) (Φ : β → St → Prop) (Q : α → Shared → Prop) : Prop :=
  ∀ a x σ' s', Rep c σ' s'.heap → Aft c σ s σ' s' → V s'.heap x a → Φ x σ' → Q a s'
theorem Tri.ofH {α β : Type} {c : Cx} {P : Heap → Prop} {t : Sem α} {V : Heap → β → α → Prop} {σ : St} {Φ : β → St → Prop} {X : XP}
    (h : ∀ s, RepS c σ s → P s.heap → ∀ (Q : α → Shared → Prop) (E : Value → Shared → Prop), KqH c σ s V Φ Q → Kx c σ s X E → wpAny (model c.prog c.w) c.A t Q E s) : Tri c P t V σ Φ X :=
  fun s r p Q E q x => wpAny_with_toks r.tp (h s r p _ _ (fun a y σ' s' r' f v φ tk => q a y σ' s' ⟨r', tk⟩ f v φ) (fun e σ' s' r' f y _ => x e σ' s' r' f y))
theorem Tri.mono {α β : Type} {c : Cx} {P : Heap → Prop} {t : Sem α} {V : Heap → β → α → Prop} {σ : St} {Φ Φ' : β → St → Prop} {X : XP} (h : Tri c P t V σ Φ X) (k : ∀ x σ', Φ x σ' → Φ' x σ') : Tri c P t V σ Φ' X :=
  fun s r p Q E q x => h s r p Q E (fun a y σ' s' r' f v p => q a y σ' s' r' f v (k y σ' p)) x

theorem Aft.keep {c : Cx} {σ : St} {s : Shared} {h' : Heap} {tk : Nat} (k : ∀ a o, s.heap.get? a = some o → h'.get? a = some o) : Aft c σ s σ { s with heap := h', toks := tk } :=
  ⟨rfl, Sp.of_keep fun a o _ e => k a o e, fun a o _ e => ⟨o, k a o e⟩, fun _ h => .inl h⟩
theorem LocAt.keep {c : Cx} {h h' : Heap} {m : Str → Option Value} {x : String} {av : AV} (k : ∀ a o, h.get? a = some o → h'.get? a = some o) (q : LocAt c h m x av) : LocAt c h' m x av := by
  have sp : Sp [] [] h h' := Sp.of_keep fun a o _ e => k a o e
  have nt : NoTup h [] := fun _ h => nomatch h
  rcases q with ⟨a, v, b, d⟩ | ⟨a, ad, v, b, d, e, ⟨o, g, i⟩, f⟩
  · exact .inl ⟨a, v, b, d.mono sp nt⟩
  · exact .inr ⟨a, ad, v, b, d, e, ⟨o, k _ _ g, i⟩, f.mono sp nt⟩

theorem Rep.keep {c : Cx} {σ : St} {h h' : Heap} (r : Rep c σ h) (k : ∀ a o, h.get? a = some o → h'.get? a = some o) : Rep c σ h' := by
  obtain ⟨⟨m, hn, hl⟩, lin, cel, inj, own, nd, nk, frc, kb, kn, kh, ff⟩ := r
  have sp : Sp [] [] h h' := Sp.of_keep fun a o _ e => k a o e
  have nt : NoTup h [] := fun _ h => nomatch h
  refine ⟨⟨m, hn.keeps k, fun x av e => (hl x av e).keep k⟩, lin, fun x a e1 e2 e3 => ?_, inj, fun p hp => (own p hp).mono sp nt fun b _ => ⟨by simp, by simp⟩, nd, nk, fun a ha => ?_, fun a o e => k a o (kb a o e), kn, fun a ha => let ⟨o, e, t⟩ := kh a ha; ⟨o, k a o e, t⟩, fun l e => ?_⟩
  · obtain ⟨n, v, o, g, i⟩ := cel x a e1 e2 e3
    exact ⟨n, v, o, k _ _ g, i⟩
  · obtain ⟨o, g, i⟩ := frc a ha; exact ⟨o, k _ _ g, i⟩
  · exact ⟨(ff l e).1.of_keeps fun b o g _ => ⟨o, k b o g, rfl⟩, (ff l e).2⟩

/-- a step that makes nothing of what is known new -/
theorem Tri.pureStep {α β : Type} {c : Cx} {P : Heap → Prop} {t : Sem α} {V : Heap → β → α → Prop} {σ : St} {Φ : β → St → Prop} {X : XP} {x : β} (k : Φ x σ)
    (h : ∀ s, P s.heap → RepS c σ s → ∀ (Q : α → Shared → Prop) (E : Value → Shared → Prop), (∀ a h' tk, (∀ b o, s.heap.get? b = some o → h'.get? b = some o) → V h' x a → Q a { s with heap := h', toks := tk }) → wpAny (model c.prog c.w) c.A t Q E s) :
    Tri c P t V σ Φ X :=
  Tri.ofH fun s r p Q E q _ => h s p r Q E fun a h' tk kk v => q a x σ _ (r.keep kk) (Aft.keep kk) v k

theorem loc_of {c : Cx} {σ : St} {h : Heap} (r : Rep c σ h) {x : String} {av : AV} (e : σ.loc.lookup x = some av) : ∃ m, h.Ns c.env.locals m ∧ LocAt c h m x av :=
  let ⟨m, hn, hl⟩ := r.ns; ⟨m, hn, hl x av e⟩

theorem loadLoc {c : Cx} {x : String} {av : AV} {σ : St} {Φ : AV → St → Prop} {X : XP} (e : σ.loc.lookup x = some av) (hk : c.env.scope.kind = .function) (hc : (Str.ofString x == Str.ofString "__classdict__") = false) (k : Φ av σ) :
    Tri c T0 (loadName c.env (Str.ofString x)) VR σ Φ X := by
  refine Tri.pureStep k fun s _ r Q E q => ?_
  obtain ⟨m, hn, hl⟩ := loc_of r.toRep e
  rcases hl with ⟨a, v, b, d⟩ | ⟨a, ad, v, b, _, _, f, g⟩
  · exact wpAny_loadName_local hk a hn b (q v s.heap s.toks (fun _ _ e => e) d)
  · rcases a with a | a
    · exact wpAny_loadName_cell hk a b f (q v s.heap s.toks (fun _ _ e => e) g)
    · exact wpAny_loadName_free hk a b f (q v s.heap s.toks (fun _ _ e => e) g) hc

theorem Ev.name {c : Cx} {x : String} {pos : Pos} {av : AV} {σ : St} {Φ : AV → St → Prop} {X : XP} (e : σ.loc.lookup x = some av) (k : Φ av σ)
    (hk : c.env.scope.kind = .function := by rfl) (hc : (Str.ofString x == Str.ofString "__classdict__") = false := by decide) (hd : (Str.ofString x == Str.ofString "__debug__") = false := by decide) :
    Ev c (.Name (Str.ofString x) pos) σ Φ X := fun s r p Q E q xx => wpAny_Name (loadLoc e hk hc k s r p Q E q xx) hd

theorem Ev.glob {c : Cx} {x : Str} {pos : Pos} {v : Value} {av : AV} {mg : Str → Option Value} {σ : St} {Φ : AV → St → Prop} {X : XP} (hg : c.b0.Ns c.env.globals mg) (hv : mg x = some v) (ha : ∀ h, VR h av v) (k : Φ av σ)
    (hk : c.env.scope.kind = .function := by rfl) (hx : c.env.kindOf x = some .globalImplicit := by rfl) (hd : (x == Str.ofString "__debug__") = false := by decide) :
    Ev c (.Name x pos) σ Φ X :=
  Tri.pureStep k fun s _ r Q E q => Name_function_global hk hx (loadGlobal_global (hg.keeps r.kb) hv (q v s.heap s.toks (fun _ _ e => e) (ha _))) hd

theorem Ev.built {c : Cx} {x : Str} {pos : Pos} {v : Value} {av : AV} {mg mb : Str → Option Value} {σ : St} {Φ : AV → St → Prop} {X : XP} (hg : c.b0.Ns c.env.globals mg) (hm : mg x = none) (hb : c.b0.Ns c.env.builtins mb) (hv : mb x = some v) (ha : ∀ h, VR h av v) (k : Φ av σ)
    (hk : c.env.scope.kind = .function := by rfl) (hx : c.env.kindOf x = some .globalImplicit := by rfl) (hd : (x == Str.ofString "__debug__") = false := by decide) :
    Ev c (.Name x pos) σ Φ X :=
  Tri.pureStep k fun s _ r Q E q => Name_function_global hk hx (loadGlobal_builtin (hg.keeps r.kb) hm (hb.keeps r.kb) hv (q v s.heap s.toks (fun _ _ e => e) (ha _))) hd

theorem Ev.int {c : Cx} {i : Int} {k : Nat} {pos : Pos} {σ : St} {Φ : AV → St → Prop} {X : XP} (h : Φ (.int i) σ) : Ev c (.Constant (.int i) k pos) σ Φ X :=
  Tri.pureStep h fun s _ _ _ _ q => wpAny_Constant_int (q _ s.heap _ (fun _ _ e => e) (by rw [VR]; exact ⟨_, rfl⟩))
theorem Ev.str {c : Cx} {x : Str} {k : Nat} {pos : Pos} {σ : St} {Φ : AV → St → Prop} {X : XP} (h : Φ (.str x.cps.toList) σ) : Ev c (.Constant (.str x) k pos) σ Φ X :=
  Tri.pureStep h fun s _ _ _ _ q => wpAny_Constant_str (q _ s.heap _ (fun _ _ e => e) (by rw [VR]; exact ⟨_, rfl⟩))
/-- an operation on two pending values -/
abbrev Op2 (c : Cx) (f : Value → Value → Sem Value) (a b : AV) (σ : St) (Φ : AV → St → Prop) (X : XP) : Prop := ∀ v w, Tri c (fun h => VR h a v ∧ VR h b w) (f v w) VR σ Φ X
abbrev Op1 (c : Cx) (f : Value → Sem Value) (a : AV) (σ : St) (Φ : AV → St → Prop) (X : XP) : Prop := ∀ v, Tri c (fun h => VR h a v) (f v) VR σ Φ X

theorem two {c : Cx} {l r : Expr} {f : Value → Value → Sem Value} {σ : St} {Φ : AV → St → Prop} {X : XP} {s : Shared} {Q : Value → Shared → Prop} {E : Value → Shared → Prop}
    (h : Ev c l σ (fun a σ₁ => Ev c r σ₁ (fun b σ₂ => Op2 c f a b σ₂ Φ X) X) X) (rp : RepS c σ s) (q : Kq c σ s VR Φ Q) (x : Kx c σ s X E) :
    wpAny (model c.prog c.w) c.A (eval l c.env) (fun a s₁ => wpAny (model c.prog c.w) c.A (eval r c.env) (fun b s₂ => wpAny (model c.prog c.w) c.A (f a b) Q E s₂) E s₁) E s :=
  h s rp trivial _ _ (fun _ _ _ s₁ r₁ f₁ va h₁ => h₁ s₁ r₁ trivial _ _ (fun _ _ _ s₂ r₂ f₂ wb h₂ => h₂ _ _ s₂ r₂ ⟨va.after r₁ f₂, wb⟩ Q E ((q.go f₁).go f₂) ((x.go f₁).go f₂)) (x.go f₁)) x

theorem Ev.binop {c : Cx} {l r : Expr} {op : Operator} {pos : Pos} {σ : St} {Φ : AV → St → Prop} {X : XP}
    (h : Ev c l σ (fun a σ₁ => Ev c r σ₁ (fun b σ₂ => Op2 c (binaryOp op) a b σ₂ Φ X) X) X) : Ev c (.BinOp l op r pos) σ Φ X :=
  fun _ rp _ _ _ q x => wpAny_BinOp (two h rp q x)
theorem Ev.cmp {c : Cx} {l r : Expr} {op : CmpOp} {pos : Pos} {σ : St} {Φ : AV → St → Prop} {X : XP}
    (h : Ev c l σ (fun a σ₁ => Ev c r σ₁ (fun b σ₂ => Op2 c (compareOp op) a b σ₂ Φ X) X) X) (hm : behindInMarks op r = false := by with_unfolding_all rfl) : Ev c (.Compare l [op] [r] pos) σ Φ X :=
  fun _ rp _ _ _ q x => wpAny_Compare1 (two h rp q x) hm
theorem Ev.unary {c : Cx} {l : Expr} {op : UnaryOp} {pos : Pos} {σ : St} {Φ : AV → St → Prop} {X : XP}
    (h : Ev c l σ (fun a σ₁ => Op1 c (unaryOp op) a σ₁ Φ X) X) : Ev c (.UnaryOp op l pos) σ Φ X :=
  fun s rp _ Q E q x => wpAny_UnaryOp (h s rp trivial _ _ (fun _ _ _ s₁ r₁ f₁ va h₁ => h₁ _ s₁ r₁ va Q E (q.go f₁) (x.go f₁)) x)

/-- operations on ints -/
theorem Op2.add {c : Cx} {a b : Int} {σ : St} {Φ : AV → St → Prop} {X : XP} (k : Φ (.int (a + b)) σ) : Op2 c (binaryOp .Add) (.int a) (.int b) σ Φ X := fun v w =>
  Tri.pureStep k fun s p _ _ _ q => by
    obtain ⟨p1, p2⟩ := p; rw [VR] at p1 p2; obtain ⟨t, rfl⟩ := p1; obtain ⟨u, rfl⟩ := p2
    exact add_int (q _ s.heap _ (fun _ _ e => e) (by rw [VR]; exact ⟨_, rfl⟩))


theorem ofString_inj {x y : String} (h : Str.ofString x = Str.ofString y) : x = y := by
  rw [Str.ofString_eq_toList, Str.ofString_eq_toList] at h
  have h1 : x.toList.map Char.toNat = y.toList.map Char.toNat := by
    have := congrArg Str.cps h; exact congrArg Array.toList this
  have h2 : x.toList = y.toList := by
    refine (List.map_inj_right (f := Char.toNat) ?_).mp h1
    intro a b e; exact Char.toNat_inj.mp e
  rw [← String.ofList_toList (s := x), h2, String.ofList_toList]

def setL (x : String) (v : AV) : List (String × AV) → List (String × AV)
  | [] => [(x, v)]
  | (y, w) :: r => if x = y then (y, v) :: r else (y, w) :: setL x v r
theorem lookup_setL (x y : String) (v : AV) : ∀ l : List (String × AV), (setL x v l).lookup y = if y = x then some v else l.lookup y
  | [] => by
    simp only [setL, List.lookup_cons, List.lookup_nil]
    by_cases h : y = x
    · simp [h]
    · have : (y == x) = false := by simpa using h
      simp [this, h]
  | (z, w) :: r => by
    unfold setL
    by_cases h : x = z
    · subst h; rw [if_pos rfl]
      simp only [List.lookup_cons]
      by_cases q : y = x
      · simp [q]
      · have : (y == x) = false := by simpa using q
        simp [this, q]
    · rw [if_neg h]
      simp only [List.lookup_cons, lookup_setL x y v r]
      by_cases q : y = z
      · subst q; simp [Ne.symm h]
      · have : (y == z) = false := by simpa using q
        simp [this]

def St.set (σ : St) (x : String) (v : AV) : St := ⟨setL x v σ.loc, σ.own⟩

/-- the state behind a change that lies within G -/
theorem Rep.chg {c : Cx} {σ : St} {own' : List (Addr × AO)} {loc' : List (String × AV)} {h h' : Heap} {G : List Addr} (r : Rep c σ h)
    (hG : ∀ a ∈ G, a ∈ c.fr ++ feet σ.own) (sp : Sp [] G h h')
    (ns : ∃ m, h'.Ns c.env.locals m ∧ ∀ x av, loc'.lookup x = some av → LocAt c h' m x av)
    (cel : ∀ x a, c.kind x = some .cell → c.env.cells.lookup (Str.ofString x) = some a → a ∈ c.fr → ∃ v, h'.IsCell a v)
    (own : ∀ p ∈ own', OR h' p.1 p.2) (ft : feet own' = feet σ.own)
    (nf : ∀ a ∈ G, a ∈ c.fr → ∃ o, h'.get? a = some o ∧ NT o ∧ ∀ vs, o.data ≠ .fields vs)
    (nfr : ∀ l, c.A.frames = some l → ∀ a ∈ l.filterMap (·.frame), a ∉ feet σ.own) : Rep c ⟨loc', own'⟩ h' := by
  refine ⟨ns, r.lin, fun x a e1 e2 e3 => ⟨(r.cel x a e1 e2 e3).1, cel x a e1 e2 e3⟩, r.inj, own, by rw [ft]; exact r.nd, fun a ha => r.nk a (by rw [ft] at ha; exact ha), fun a ha => ?_, fun a o e => ?_, r.kn, fun a ha => ?_, fun l e => ⟨?_, (r.ff l e).2⟩⟩
  · by_cases g : a ∈ G
    · obtain ⟨o, x, y, _⟩ := nf a g ha; exact ⟨o, x, y⟩
    · obtain ⟨o, x, y⟩ := r.frc a ha; exact ⟨o, sp.get x g (by simp), y⟩
  · refine sp.get (r.kb a o e) (fun g => ?_) (by simp)
    have : a ∈ c.fr ++ (c.fx ++ feet σ.own) := by
      have := hG a g
      rcases List.mem_append.mp this with q | q
      · exact List.mem_append_left _ q
      · exact List.mem_append_right _ (List.mem_append_right _ q)
    rw [(r.nk a this).2] at e; cases e
  · obtain ⟨o, e, t⟩ := r.kh a ha
    refine ⟨o, sp.get e (fun g => ?_) (by simp), t⟩
    have : a ∈ c.fr ++ (c.fx ++ feet σ.own) := by
      have := hG a g
      rcases List.mem_append.mp this with q | q
      · exact List.mem_append_left _ q
      · exact List.mem_append_right _ (List.mem_append_right _ q)
    rcases List.mem_append.mp ha with z | z
    · exact (r.nk a this).1 z
    · have nd := r.nd
      rcases List.mem_append.mp (hG a g) with w | w
      · exact (List.nodup_append.mp nd).2.2 a w a (List.mem_append_left _ z) rfl
      · exact (List.nodup_append.mp (List.nodup_append.mp nd).2.1).2.2 a z a w rfl
  · have ff := (r.ff l e).1
    have nfr' := nfr l e
    clear ns cel own
    generalize l = l' at ff nfr'
    induction l' with
    | nil => trivial
    | cons env rest ih =>
      obtain ⟨a, ⟨L, o, b, d, e', f⟩, g⟩ := ff
      refine ⟨a, ⟨L, ?_⟩, ih g fun a ha => nfr' a (by rw [List.filterMap_cons, b]; exact .tail _ ha)⟩
      by_cases gL : L ∈ G
      · have hf : L ∈ c.fr := by
          rcases List.mem_append.mp (hG L gL) with q | q
          · exact q
          · exact absurd q (nfr' L (by rw [List.filterMap_cons, b]; exact .head _))
        obtain ⟨o', x, _, z⟩ := nf L gL hf
        exact ⟨o', b, d, x, z⟩
      · exact ⟨o, b, d, sp.get e' gL (by simp), f⟩

theorem Rep.nfr {c : Cx} {σ : St} {h : Heap} (r : Rep c σ h) : ∀ l, c.A.frames = some l → ∀ a ∈ l.filterMap (·.frame), a ∉ feet σ.own := by
  intro l e a ha hf
  rcases List.mem_append.mp ((r.ff l e).2 a ha) with q | q
  · exact (List.nodup_append.mp r.nd).2.2 a q a (List.mem_append_right _ hf) rfl
  · exact (r.nk a (List.mem_append_right _ (List.mem_append_right _ hf))).1 q

theorem Aft.chg {c : Cx} {σ σ' : St} {s : Shared} {h' : Heap} {tk : Nat} {G : List Addr} (hG : ∀ a ∈ G, a ∈ c.fr ++ feet σ.own) (sp : Sp [] G s.heap h') (al : ∀ a ∈ G, ∃ o, h'.get? a = some o) (ft : feet σ'.own = feet σ.own) :
    Aft c σ s σ' { s with heap := h', toks := tk } := by
  refine ⟨rfl, fun a o f e => ⟨fun _ => ?_, ?_⟩, fun a o _ e => ?_, fun a ha => .inl (ft ▸ ha)⟩
  · exact sp.get e (fun g => f (hG a g)) (by simp)
  · exact ⟨o.slots, sp.get e (fun g => f (hG a g)) (by simp)⟩
  · by_cases g : a ∈ G
    · exact al a g
    · exact ⟨o, sp.get e g (by simp)⟩

theorem sameSp {a : Addr} {h h' : Heap} (x : Heap.SameBut a h h') : Sp [] [a] h h' := Sp.of_keep fun b o f e => (x.2 b (by simpa using f)).trans e
theorem Rep.ntOf {c : Cx} {σ : St} {h : Heap} (r : Rep c σ h) {G : List Addr} (hG : ∀ a ∈ G, a ∈ c.fr ++ feet σ.own) : NoTup h G := fun a ha o e => r.noTup a (hG a ha) o e

theorem storeLoc {c : Cx} {x : String} {av : AV} {v : Value} {σ : St} {Φ : Unit → St → Prop} {X : XP} (hk : c.env.scope.kind = .function) (hx : c.kind x = some .local ∨ (c.kind x = some .cell ∧ ∃ a, c.env.cells.lookup (Str.ofString x) = some a ∧ a ∈ c.fr)) (k : Φ () (σ.set x av)) :
    Tri c (fun h => VR h av v) (storeName c.env (Str.ofString x) v) (fun _ _ _ => True) σ Φ X := by
  refine Tri.ofH fun s r hv Q E q _ => ?_
  obtain ⟨m, hn, hl⟩ := r.ns
  have nL : c.env.locals ∉ feet σ.own := fun f => (List.nodup_append.mp r.nd).2.2 _ r.lin _ (List.mem_append_right _ f) rfl
  rcases hx with hx | ⟨hx, a, ha, haf⟩
  · refine wpAny_storeName_local hx hn (fun h' hn' hs => ?_) (by
      have hk' : c.env.scope.kind = .function := hk
      rw [hk']; rfl)
    have hG : ∀ b ∈ [c.env.locals], b ∈ c.fr ++ feet σ.own := fun b hb => by rw [List.mem_singleton.mp hb]; exact List.mem_append_left _ r.lin
    have sp := sameSp hs
    have nt := r.ntOf hG
    obtain ⟨oL, es, ep, gL, dL, _, _⟩ := id hn'
    refine q () () (σ.set x av) _ (r.toRep.chg hG sp ⟨_, hn', fun y bv e => ?_⟩ (fun y a e1 e2 e3 => ?_) (fun p hp => ?_) rfl (fun b hb _ => ?_) r.nfr) (Aft.chg hG sp (fun b hb => ?_) rfl) trivial k
    · show LocAt c h' _ y bv
      rw [lookup_setL] at e
      by_cases hy : y = x
      · subst hy
        rw [if_pos rfl] at e; cases e
        exact .inl ⟨hx, v, by simp, hv.mono sp nt⟩
      · rw [if_neg hy] at e
        rcases hl y bv e with ⟨i, w, j, kk⟩ | ⟨i, a, w, j, kk, n, ⟨o, g, d⟩, t⟩
        · exact .inl ⟨i, w, by simp only [if_neg (fun z => hy (ofString_inj z))]; exact j, kk.mono sp nt⟩
        · exact .inr ⟨i, a, w, j, kk, n, ⟨o, sp.get g (by simpa using n) (by simp), d⟩, t.mono sp nt⟩
    · obtain ⟨n, w, o, g, d⟩ := r.cel y a e1 e2 e3
      exact ⟨w, o, sp.get g (by simpa using n) (by simp), d⟩
    · exact (r.own p hp).mono sp nt fun b hb => ⟨fun z => nL (by rw [← List.mem_singleton.mp z]; exact List.mem_flatMap.mpr ⟨p, hp, hb⟩), by simp⟩
    · rw [List.mem_singleton.mp hb]; exact ⟨oL, gL, .of_dict dL, by rw [dL]; simp⟩
    · rw [List.mem_singleton.mp hb]; exact ⟨oL, gL⟩
  · obtain ⟨nea, v0, hc⟩ := r.cel x a hx ha haf
    refine wpAny_storeName_cell hk hx ha hc (fun h' hc' hs => ?_)
    have nf : a ∉ feet σ.own := fun f => (List.nodup_append.mp r.nd).2.2 _ haf _ (List.mem_append_right _ f) rfl
    have hG : ∀ b ∈ [a], b ∈ c.fr ++ feet σ.own := fun b hb => by rw [List.mem_singleton.mp hb]; exact List.mem_append_left _ haf
    have sp := sameSp hs
    have nt := r.ntOf hG
    obtain ⟨oa, ga, da⟩ := id hc'
    refine q () () (σ.set x av) _ (r.toRep.chg hG sp ⟨m, hn.at' fun o e => sp.get e (by simpa using Ne.symm nea) (by simp), fun y bv e => ?_⟩ (fun y b e1 e2 e3 => ?_) (fun p hp => ?_) rfl (fun b hb _ => ?_) r.nfr) (Aft.chg (tk := s.toks) hG sp (fun b hb => ?_) rfl) trivial k
    · show LocAt c h' _ y bv
      rw [lookup_setL] at e
      by_cases hy : y = x
      · subst hy
        rw [if_pos rfl] at e; cases e
        exact .inr ⟨.inl hx, a, v, ha, .inl haf, nea, hc', hv.mono sp nt⟩
      · rw [if_neg hy] at e
        rcases hl y bv e with ⟨i, w, j, kk⟩ | ⟨i, b, w, j, kk, n, ⟨o, g, d⟩, t⟩
        · exact .inl ⟨i, w, j, kk.mono sp nt⟩
        · have hba : b ≠ a := fun z => by subst z; exact hy (r.inj y x b j ha)
          exact .inr ⟨i, b, w, j, kk, n, ⟨o, sp.get g (by simpa using hba) (by simp), d⟩, t.mono sp nt⟩
    · by_cases hba : b = a
      · subst hba; exact ⟨_, hc'⟩
      · obtain ⟨n, w, o, g, d⟩ := r.cel y b e1 e2 e3
        exact ⟨w, o, sp.get g (by simpa using hba) (by simp), d⟩
    · exact (r.own p hp).mono sp nt fun b hb => ⟨fun z => nf (by rw [← List.mem_singleton.mp z]; exact List.mem_flatMap.mpr ⟨p, hp, hb⟩), by simp⟩
    · rw [List.mem_singleton.mp hb]; exact ⟨oa, ga, .of_cell da, by rw [da]; simp⟩
    · rw [List.mem_singleton.mp hb]; exact ⟨oa, ga⟩

end Mine

-- AR
namespace Mine
open PySem PySem.Calls PyProof.Rows PySem.W

theorem appS (a b : List Nat) : (⟨a.toArray⟩ : Str) ++ ⟨b.toArray⟩ = ⟨(a ++ b).toArray⟩ := by
  show Str.append _ _ = _
  unfold Str.append; simp
theorem lenS (a : List Nat) : Str.length ⟨a.toArray⟩ = a.length := by unfold Str.length; simp
theorem eqS (a b : List Nat) : ((⟨a.toArray⟩ : Str) == ⟨b.toArray⟩) = decide (a = b) := by
  by_cases h : a = b
  · subst h; simp
  · have : ¬ (⟨a.toArray⟩ : Str) = ⟨b.toArray⟩ := fun e => h (by simpa using congrArg (fun x : Str => x.cps.toList) e)
    simp [h]
theorem VR.mkInt {h : Heap} {i : Int} {t : Tok} : VR h (.int i) (.int i t) := by rw [VR]; exact ⟨t, rfl⟩
theorem VR.mkStr {h : Heap} {l : List Nat} {t : Tok} : VR h (.str l) (.str ⟨l.toArray⟩ t) := by rw [VR]; exact ⟨t, rfl⟩
theorem VR.mkBool {h : Heap} {b : Bool} : VR h (.bool b) (.bool b) := by rw [VR]
theorem VR.mkNone {h : Heap} : VR h .none .none := by rw [VR]
theorem VR.mkRef {h : Heap} {a : Addr} : VR h (.ref a) (.ref a) := by rw [VR]

theorem Op2.sub {c : Cx} {a : Int} {b : Int} {σ : St} {Φ : AV → St → Prop} {X : XP}  (k : Φ (.int (a - b)) σ) : Op2 c (binaryOp .Sub) (.int a) (.int b) σ Φ X := fun v w =>
  Tri.pureStep k fun s p _ _ _ q => by
    obtain ⟨p1, p2⟩ := p; rw [VR] at p1 p2
    obtain ⟨t, rfl⟩ := p1
    obtain ⟨u, rfl⟩ := p2
    with_reducible refine sub_int ?_
    exact q _ s.heap _ (fun _ _ e => e) VR.mkInt

theorem Op2.mul {c : Cx} {a : Int} {b : Int} {σ : St} {Φ : AV → St → Prop} {X : XP} (hm : IntMulOk a b) (k : Φ (.int (a * b)) σ) : Op2 c (binaryOp .Mult) (.int a) (.int b) σ Φ X := fun v w =>
  Tri.pureStep k fun s p _ _ _ q => by
    obtain ⟨p1, p2⟩ := p; rw [VR] at p1 p2
    obtain ⟨t, rfl⟩ := p1
    obtain ⟨u, rfl⟩ := p2
    with_reducible refine mul_int ?_ hm
    exact q _ s.heap _ (fun _ _ e => e) VR.mkInt

theorem Op2.fdiv {c : Cx} {a : Int} {b : Int} {σ : St} {Φ : AV → St → Prop} {X : XP} (hb : b ≠ 0) (hp : Builtin.divisionGoesByPylong a b = false) (k : Φ (.int (a.fdiv b)) σ) : Op2 c (binaryOp .FloorDiv) (.int a) (.int b) σ Φ X := fun v w =>
  Tri.pureStep k fun s p _ _ _ q => by
    obtain ⟨p1, p2⟩ := p; rw [VR] at p1 p2
    obtain ⟨t, rfl⟩ := p1
    obtain ⟨u, rfl⟩ := p2
    with_reducible refine floordiv_int hb ?_ (.inl hp)
    exact q _ s.heap _ (fun _ _ e => e) VR.mkInt

theorem Op2.mod {c : Cx} {a : Int} {b : Int} {σ : St} {Φ : AV → St → Prop} {X : XP} (hb : b ≠ 0) (k : Φ (.int (a.fmod b)) σ) : Op2 c (binaryOp .Mod) (.int a) (.int b) σ Φ X := fun v w =>
  Tri.pureStep k fun s p _ _ _ q => by
    obtain ⟨p1, p2⟩ := p; rw [VR] at p1 p2
    obtain ⟨t, rfl⟩ := p1
    obtain ⟨u, rfl⟩ := p2
    with_reducible refine mod_int' hb ?_
    exact q _ s.heap _ (fun _ _ e => e) VR.mkInt

theorem Op2.pow {c : Cx} {a : Int} {b : Int} {σ : St} {Φ : AV → St → Prop} {X : XP} (h1 : 0 ≤ b) (h2 : b ≤ 1000000) (h3 : a.natAbs < 2 ^ 64) (k : Φ (.int (a ^ b.toNat)) σ) : Op2 c (binaryOp .Pow) (.int a) (.int b) σ Φ X := fun v w =>
  Tri.pureStep k fun s p _ _ _ q => by
    obtain ⟨p1, p2⟩ := p; rw [VR] at p1 p2
    obtain ⟨t, rfl⟩ := p1
    obtain ⟨u, rfl⟩ := p2
    with_reducible refine pow_int_small h1 h2 h3 ?_
    exact q _ s.heap _ (fun _ _ e => e) VR.mkInt

theorem Op2.and {c : Cx} {a : Int} {b : Int} {σ : St} {Φ : AV → St → Prop} {X : XP}  (k : Φ (.int (Builtin.bitAnd a b)) σ) : Op2 c (binaryOp .BitAnd) (.int a) (.int b) σ Φ X := fun v w =>
  Tri.pureStep k fun s p _ _ _ q => by
    obtain ⟨p1, p2⟩ := p; rw [VR] at p1 p2
    obtain ⟨t, rfl⟩ := p1
    obtain ⟨u, rfl⟩ := p2
    with_reducible refine and_int ?_
    exact q _ s.heap _ (fun _ _ e => e) VR.mkInt

theorem Op2.iadd {c : Cx} {a : Int} {b : Int} {σ : St} {Φ : AV → St → Prop} {X : XP}  (k : Φ (.int (a + b)) σ) : Op2 c (inplaceOp .Add) (.int a) (.int b) σ Φ X := fun v w =>
  Tri.pureStep k fun s p _ _ _ q => by
    obtain ⟨p1, p2⟩ := p; rw [VR] at p1 p2
    obtain ⟨t, rfl⟩ := p1
    obtain ⟨u, rfl⟩ := p2
    with_reducible refine iadd_int ?_
    exact q _ s.heap _ (fun _ _ e => e) VR.mkInt

theorem Op2.isub {c : Cx} {a : Int} {b : Int} {σ : St} {Φ : AV → St → Prop} {X : XP}  (k : Φ (.int (a - b)) σ) : Op2 c (inplaceOp .Sub) (.int a) (.int b) σ Φ X := fun v w =>
  Tri.pureStep k fun s p _ _ _ q => by
    obtain ⟨p1, p2⟩ := p; rw [VR] at p1 p2
    obtain ⟨t, rfl⟩ := p1
    obtain ⟨u, rfl⟩ := p2
    with_reducible refine isub_int ?_
    exact q _ s.heap _ (fun _ _ e => e) VR.mkInt

theorem Op2.ifdiv {c : Cx} {a : Int} {b : Int} {σ : St} {Φ : AV → St → Prop} {X : XP} (hb : b ≠ 0) (hp : Builtin.divisionGoesByPylong a b = false) (k : Φ (.int (a.fdiv b)) σ) : Op2 c (inplaceOp .FloorDiv) (.int a) (.int b) σ Φ X := fun v w =>
  Tri.pureStep k fun s p _ _ _ q => by
    obtain ⟨p1, p2⟩ := p; rw [VR] at p1 p2
    obtain ⟨t, rfl⟩ := p1
    obtain ⟨u, rfl⟩ := p2
    with_reducible refine ifloordiv_int hb ?_ (.inl hp)
    exact q _ s.heap _ (fun _ _ e => e) VR.mkInt

theorem Op2.ishl {c : Cx} {a : Int} {b : Int} {σ : St} {Φ : AV → St → Prop} {X : XP} (hb : 0 ≤ b) (hz : (Builtin.Int.intBits a : Int) + b ≤ 2 ^ 27) (k : Φ (.int (a * 2 ^ b.toNat)) σ) : Op2 c (inplaceOp .LShift) (.int a) (.int b) σ Φ X := fun v w =>
  Tri.pureStep k fun s p _ _ _ q => by
    obtain ⟨p1, p2⟩ := p; rw [VR] at p1 p2
    obtain ⟨t, rfl⟩ := p1
    obtain ⟨u, rfl⟩ := p2
    with_reducible refine ilshift_int hb hz ?_
    exact q _ s.heap _ (fun _ _ e => e) VR.mkInt

theorem Op2.ior {c : Cx} {a : Int} {b : Int} {σ : St} {Φ : AV → St → Prop} {X : XP}  (k : Φ (.int (Builtin.bitOr a b)) σ) : Op2 c (inplaceOp .BitOr) (.int a) (.int b) σ Φ X := fun v w =>
  Tri.pureStep k fun s p _ _ _ q => by
    obtain ⟨p1, p2⟩ := p; rw [VR] at p1 p2
    obtain ⟨t, rfl⟩ := p1
    obtain ⟨u, rfl⟩ := p2
    with_reducible refine ior_int ?_
    exact q _ s.heap _ (fun _ _ e => e) VR.mkInt

theorem Op2.subb {c : Cx} {a : Bool} {b : Bool} {σ : St} {Φ : AV → St → Prop} {X : XP}  (k : Φ (.int (b2i a - b2i b)) σ) : Op2 c (binaryOp .Sub) (.bool a) (.bool b) σ Φ X := fun v w =>
  Tri.pureStep k fun s p _ _ _ q => by
    obtain ⟨p1, p2⟩ := p; rw [VR] at p1 p2
    subst p1
    subst p2
    with_reducible refine sub_bool ?_
    exact q _ s.heap _ (fun _ _ e => e) VR.mkInt

theorem Op2.add_s {c : Cx} {a : List Nat} {b : List Nat} {σ : St} {Φ : AV → St → Prop} {X : XP} (hz : a.length + b.length ≤ 16777216) (k : Φ (.str (a ++ b)) σ) : Op2 c (binaryOp .Add) (.str a) (.str b) σ Φ X := fun v w =>
  Tri.pureStep k fun s p _ _ _ q => by
    obtain ⟨p1, p2⟩ := p; rw [VR] at p1 p2
    obtain ⟨t, rfl⟩ := p1
    obtain ⟨u, rfl⟩ := p2
    with_reducible refine add_str (fun _ _ => ?_) (by rw [lenS, lenS, sizeLine_eq]; exact hz)
    exact q _ s.heap _ (fun _ _ e => e) (appS a b ▸ VR.mkStr)

theorem Op2.iadd_s {c : Cx} {a : List Nat} {b : List Nat} {σ : St} {Φ : AV → St → Prop} {X : XP} (hz : a.length + b.length ≤ 16777216) (k : Φ (.str (a ++ b)) σ) : Op2 c (inplaceOp .Add) (.str a) (.str b) σ Φ X := fun v w =>
  Tri.pureStep k fun s p _ _ _ q => by
    obtain ⟨p1, p2⟩ := p; rw [VR] at p1 p2
    obtain ⟨t, rfl⟩ := p1
    obtain ⟨u, rfl⟩ := p2
    with_reducible refine iadd_str (fun _ _ => ?_) (by rw [lenS, lenS, sizeLine_eq]; exact hz)
    exact q _ s.heap _ (fun _ _ e => e) (appS a b ▸ VR.mkStr)

theorem Op2.eq {c : Cx} {a : Int} {b : Int} {σ : St} {Φ : AV → St → Prop} {X : XP}  (k : Φ (.bool (a == b)) σ) : Op2 c (compareOp .Eq) (.int a) (.int b) σ Φ X := fun v w =>
  Tri.pureStep k fun s p _ _ _ q => by
    obtain ⟨p1, p2⟩ := p; rw [VR] at p1 p2
    obtain ⟨t, rfl⟩ := p1
    obtain ⟨u, rfl⟩ := p2
    with_reducible refine eq_int ?_
    exact q _ s.heap s.toks (fun _ _ e => e) VR.mkBool

theorem Op2.ne {c : Cx} {a : Int} {b : Int} {σ : St} {Φ : AV → St → Prop} {X : XP}  (k : Φ (.bool (a != b)) σ) : Op2 c (compareOp .NotEq) (.int a) (.int b) σ Φ X := fun v w =>
  Tri.pureStep k fun s p _ _ _ q => by
    obtain ⟨p1, p2⟩ := p; rw [VR] at p1 p2
    obtain ⟨t, rfl⟩ := p1
    obtain ⟨u, rfl⟩ := p2
    with_reducible refine ne_int ?_
    exact q _ s.heap s.toks (fun _ _ e => e) VR.mkBool

theorem Op2.lt {c : Cx} {a : Int} {b : Int} {σ : St} {Φ : AV → St → Prop} {X : XP}  (k : Φ (.bool (decide (a < b))) σ) : Op2 c (compareOp .Lt) (.int a) (.int b) σ Φ X := fun v w =>
  Tri.pureStep k fun s p _ _ _ q => by
    obtain ⟨p1, p2⟩ := p; rw [VR] at p1 p2
    obtain ⟨t, rfl⟩ := p1
    obtain ⟨u, rfl⟩ := p2
    with_reducible refine lt_int ?_
    exact q _ s.heap s.toks (fun _ _ e => e) VR.mkBool

theorem Op2.ge {c : Cx} {a : Int} {b : Int} {σ : St} {Φ : AV → St → Prop} {X : XP}  (k : Φ (.bool (decide (b ≤ a))) σ) : Op2 c (compareOp .GtE) (.int a) (.int b) σ Φ X := fun v w =>
  Tri.pureStep k fun s p _ _ _ q => by
    obtain ⟨p1, p2⟩ := p; rw [VR] at p1 p2
    obtain ⟨t, rfl⟩ := p1
    obtain ⟨u, rfl⟩ := p2
    with_reducible refine ge_int ?_
    exact q _ s.heap s.toks (fun _ _ e => e) VR.mkBool

theorem Op2.eq_s {c : Cx} {a : List Nat} {b : List Nat} {σ : St} {Φ : AV → St → Prop} {X : XP}  (k : Φ (.bool (decide (a = b))) σ) : Op2 c (compareOp .Eq) (.str a) (.str b) σ Φ X := fun v w =>
  Tri.pureStep k fun s p _ _ _ q => by
    obtain ⟨p1, p2⟩ := p; rw [VR] at p1 p2
    obtain ⟨t, rfl⟩ := p1
    obtain ⟨u, rfl⟩ := p2
    with_reducible refine eq_str ?_
    exact q _ s.heap s.toks (fun _ _ e => e) (eqS a b ▸ VR.mkBool)

theorem Op2.lt_s {c : Cx} {a : List Nat} {b : List Nat} {σ : St} {Φ : AV → St → Prop} {X : XP}  (k : Φ (.bool (decide (a < b))) σ) : Op2 c (compareOp .Lt) (.str a) (.str b) σ Φ X := fun v w =>
  Tri.pureStep k fun s p _ _ _ q => by
    obtain ⟨p1, p2⟩ := p; rw [VR] at p1 p2
    obtain ⟨t, rfl⟩ := p1
    obtain ⟨u, rfl⟩ := p2
    with_reducible refine lt_str ?_
    exact q _ s.heap s.toks (fun _ _ e => e) VR.mkBool

theorem Op2.gt_s {c : Cx} {a : List Nat} {b : List Nat} {σ : St} {Φ : AV → St → Prop} {X : XP}  (k : Φ (.bool (decide (b < a))) σ) : Op2 c (compareOp .Gt) (.str a) (.str b) σ Φ X := fun v w =>
  Tri.pureStep k fun s p _ _ _ q => by
    obtain ⟨p1, p2⟩ := p; rw [VR] at p1 p2
    obtain ⟨t, rfl⟩ := p1
    obtain ⟨u, rfl⟩ := p2
    with_reducible refine P.gt_str ?_
    exact q _ s.heap s.toks (fun _ _ e => e) VR.mkBool

theorem Op2.in_s {c : Cx} {a : List Nat} {b : List Nat} {σ : St} {Φ : AV → St → Prop} {X : XP}  (k : Φ (.bool (!(Builtin.Str.occurrences ⟨b.toArray⟩ ⟨a.toArray⟩ 0 b.length 1).isEmpty)) σ) : Op2 c (compareOp .In) (.str a) (.str b) σ Φ X := fun v w =>
  Tri.pureStep k fun s p _ _ _ q => by
    obtain ⟨p1, p2⟩ := p; rw [VR] at p1 p2
    obtain ⟨t, rfl⟩ := p1
    obtain ⟨u, rfl⟩ := p2
    with_reducible refine in_str ?_
    exact q _ s.heap s.toks (fun _ _ e => e) (by rw [lenS]; exact VR.mkBool)

end Mine

-- AS
namespace Mine
open PySem PySem.Calls PyProof.Rows PySem.W

/-! frame, order, forgetting -/
theorem Rep.sub {c : Cx} {loc : List (String × AV)} {own own' : List (Addr × AO)} {h : Heap} (r : Rep c ⟨loc, own⟩ h) (hs : ∀ p ∈ own', p ∈ own) (hn : (feet own').Nodup) : Rep c ⟨loc, own'⟩ h := by
  have hf : ∀ a ∈ feet own', a ∈ feet own := fun a ha => by
    obtain ⟨p, hp, hb⟩ := List.mem_flatMap.mp ha
    exact List.mem_flatMap.mpr ⟨p, hs p hp, hb⟩
  have nd := r.nd
  refine ⟨r.ns, r.lin, r.cel, r.inj, fun p hp => r.own p (hs p hp), ?_, fun a ha => r.nk a ?_, r.frc, r.kb, r.kn, r.kh, r.ff⟩
  · rw [List.nodup_append] at nd ⊢
    obtain ⟨n1, n2, n3⟩ := nd
    rw [List.nodup_append] at n2
    obtain ⟨m1, m2, m3⟩ := n2
    refine ⟨n1, List.nodup_append.mpr ⟨m1, hn, fun a ha b hb => m3 a ha b (hf b hb)⟩, fun a ha b hb => n3 a ha b ?_⟩
    rcases List.mem_append.mp hb with q | q
    · exact List.mem_append_left _ q
    · exact List.mem_append_right _ (hf b q)
  · rcases List.mem_append.mp ha with q | q
    · exact List.mem_append_left _ q
    · rcases List.mem_append.mp q with q | q
      · exact List.mem_append_right _ (List.mem_append_left _ q)
      · exact List.mem_append_right _ (List.mem_append_right _ (hf a q))

theorem Rep.feetNodup {c : Cx} {σ : St} {h : Heap} (r : Rep c σ h) : (feet σ.own).Nodup := (List.nodup_append.mp (List.nodup_append.mp r.nd).2.1).2.1

theorem feet_perm {l l' : List (Addr × AO)} (p : l.Perm l') : (feet l).Perm (feet l') := p.flatMap_right _

theorem Rep.perm {c : Cx} {loc : List (String × AV)} {own own' : List (Addr × AO)} {h : Heap} (r : Rep c ⟨loc, own⟩ h) (p : own.Perm own') : Rep c ⟨loc, own'⟩ h :=
  r.sub (fun q hq => p.mem_iff.mpr hq) ((feet_perm p).nodup_iff.mp r.feetNodup)

theorem Sp.weaken {K F G : List Addr} {h h' : Heap} (x : Sp K F h h') (hs : ∀ a ∈ F, a ∈ G) : Sp K G h h' := fun a o g e => x a o (fun f => g (hs a f)) e

/-- what is hidden: it stands, and lies apart -/
def Hid (c : Cx) (σ : St) (R : List (Addr × AO)) (h : Heap) : Prop := ∀ p ∈ R, OR h p.1 p.2 ∧ ∀ b ∈ foot p.1 p.2, b ∉ c.fr ++ feet σ.own ∧ b ∉ c.K
theorem Hid.nil {c : Cx} {σ : St} {h : Heap} : Hid c σ [] h := fun _ q => nomatch q
theorem Hid.after {c : Cx} {σ σ' : St} {R : List (Addr × AO)} {s s' : Shared} (r : RepS c σ s) (f : Aft c σ s σ' s') (q : Hid c σ R s.heap) : Hid c σ' R s'.heap := by
  intro p hp
  obtain ⟨o, d⟩ := q p hp
  refine ⟨o.mono f.sp r.noTup (nK := r.noTupK) (hf := d), fun b hb => ⟨fun z => ?_, (d b hb).2⟩⟩
  rcases List.mem_append.mp z with z | z
  · exact (d b hb).1 (List.mem_append_left _ z)
  · rcases f.fs b z with z | z
    · exact (d b hb).1 (List.mem_append_right _ z)
    · obtain ⟨o', e⟩ := o.here b hb; rw [z] at e; cases e

def TriW {α β : Type} (c : Cx) (P : Heap → Prop) (W : (α → Shared → Prop) → (Value → Shared → Prop) → Shared → Prop) (V : Heap → β → α → Prop) (σ : St) (Φ : β → St → Prop) (X : XP) : Prop :=
  ∀ s, RepS c σ s → P s.heap → ∀ (Q : α → Shared → Prop) (E : Value → Shared → Prop), Kq c σ s V Φ Q → Kx c σ s X E → W Q E s
/-- what is hidden stands as it stood -/
theorem TriW.frame {α β : Type} {c : Cx} {P : Heap → Prop} {W : (α → Shared → Prop) → (Value → Shared → Prop) → Shared → Prop} {V : Heap → β → α → Prop} {loc : List (String × AV)} {own R : List (Addr × AO)} {Φ : β → St → Prop} {X : XP}
    (h : TriW c (fun h => P h ∧ Hid c ⟨loc, own⟩ R h) W V ⟨loc, own⟩ (fun x σ' => Φ x ⟨σ'.loc, σ'.own ++ R⟩) (fun e σ' s' => X e ⟨σ'.loc, σ'.own ++ R⟩ s')) : TriW c P W V ⟨loc, own ++ R⟩ Φ X := by
  intro s r p Q E q x
  have nd := r.feetNodup
  rw [feet_append] at nd
  have nd' := List.nodup_append.mp nd
  have r1 : RepS c ⟨loc, own⟩ s := ⟨r.sub (fun p hp => List.mem_append_left _ hp) nd'.1, r.tp⟩
  have hR : ∀ p ∈ R, OR s.heap p.1 p.2 := fun p hp => r.own p (List.mem_append_right _ hp)
  have out : ∀ b ∈ feet R, b ∉ c.fr ++ feet own ∧ b ∉ c.K := by
    intro b hb
    have hb' : b ∈ c.fr ++ (c.fx ++ feet (own ++ R)) := List.mem_append_right _ (List.mem_append_right _ (by rw [feet_append]; exact List.mem_append_right _ hb))
    refine ⟨fun z => ?_, (r.nk b hb').1⟩
    rcases List.mem_append.mp z with z | z
    · exact (List.nodup_append.mp r.nd).2.2 b z b (List.mem_append_right _ (by rw [feet_append]; exact List.mem_append_right _ hb)) rfl
    · exact nd'.2.2 b z b hb rfl
  have key : ∀ σ' s', RepS c σ' s' → Aft c ⟨loc, own⟩ s σ' s' → RepS c ⟨σ'.loc, σ'.own ++ R⟩ s' ∧ Aft c ⟨loc, own ++ R⟩ s ⟨σ'.loc, σ'.own ++ R⟩ s' := by
    intro σ' s' r' f
    have here : ∀ b ∈ feet R, ∃ o, s.heap.get? b = some o := fun b hb => by
      obtain ⟨p, hp, hb⟩ := List.mem_flatMap.mp hb
      exact (hR p hp).here b hb
    have dis : ∀ a ∈ feet σ'.own, ∀ b ∈ feet R, a ≠ b := by
      rintro a ha b hb rfl
      rcases f.fs a ha with z | z
      · exact nd'.2.2 a z a hb rfl
      · obtain ⟨o, e⟩ := here a hb; rw [z] at e; cases e
    refine ⟨⟨⟨r'.ns, r'.lin, r'.cel, r'.inj, fun p hp => ?_, ?_, fun a ha => ?_, r'.frc, r'.kb, r'.kn, r'.kh, r'.ff⟩, r'.tp⟩, ⟨f.rest, f.sp.weaken fun a ha => ?_, fun a o n e => f.al a o (fun z => n (by rw [feet_append]; exact List.mem_append_left _ z)) e, fun a ha => ?_⟩⟩
    · rcases List.mem_append.mp hp with z | z
      · exact r'.own p z
      · exact (hR p z).mono f.sp r1.noTup (nK := r1.noTupK) (hf := fun b hb => out b (List.mem_flatMap.mpr ⟨p, z, hb⟩))
    · rw [feet_append, ← List.append_assoc, ← List.append_assoc]
      have n1 := r'.nd
      rw [← List.append_assoc] at n1
      refine List.nodup_append.mpr ⟨n1, nd'.2.1, fun a ha b hb => ?_⟩
      rintro rfl
      rcases List.mem_append.mp ha with z | z
      · have hb' := (List.nodup_append.mp r.nd).2.2
        rcases List.mem_append.mp z with z | z
        · exact hb' a z a (List.mem_append_right _ (by rw [feet_append]; exact List.mem_append_right _ hb)) rfl
        · have n2 := (List.nodup_append.mp (List.nodup_append.mp r.nd).2.1).2.2
          exact n2 a z a (by rw [feet_append]; exact List.mem_append_right _ hb) rfl
      · exact dis a z a hb rfl
    · rw [feet_append, ← List.append_assoc, ← List.append_assoc] at ha
      rcases List.mem_append.mp ha with z | z
      · exact r'.nk a (by rw [← List.append_assoc]; exact z)
      · exact r.nk a (List.mem_append_right _ (List.mem_append_right _ (by rw [feet_append]; exact List.mem_append_right _ z)))
    · rw [feet_append]
      rcases List.mem_append.mp ha with z | z
      · exact List.mem_append_left _ z
      · exact List.mem_append_right _ (List.mem_append_left _ z)
    · rw [feet_append] at ha ⊢
      rcases List.mem_append.mp ha with z | z
      · exact (f.fs a z).imp (fun y => List.mem_append_left _ y) id
      · exact .inl (List.mem_append_right _ z)
  exact h s r1 ⟨p, fun p hp => ⟨hR p hp, fun b hb => out b (List.mem_flatMap.mpr ⟨p, hp, hb⟩)⟩⟩ Q E (fun a y σ' s' r' f v φ => q a y _ s' (key σ' s' r' f).1 (key σ' s' r' f).2 v φ) (fun e σ' s' r' f φ => x e _ s' (key σ' s' r' f).1 (key σ' s' r' f).2 φ)

theorem Tri.frame {α β : Type} {c : Cx} {P : Heap → Prop} {t : Sem α} {V : Heap → β → α → Prop} {loc : List (String × AV)} {own R : List (Addr × AO)} {Φ : β → St → Prop} {X : XP}
    (h : Tri c (fun h => P h ∧ Hid c ⟨loc, own⟩ R h) t V ⟨loc, own⟩ (fun x σ' => Φ x ⟨σ'.loc, σ'.own ++ R⟩) (fun e σ' s' => X e ⟨σ'.loc, σ'.own ++ R⟩ s')) : Tri c P t V ⟨loc, own ++ R⟩ Φ X :=
  TriW.frame (W := fun Q E s => wpAny (model c.prog c.w) c.A t Q E s) h

theorem Aft.perm {c : Cx} {loc : List (String × AV)} {own own' : List (Addr × AO)} {s s' : Shared} {σ' : St} (p : own.Perm own') (f : Aft c ⟨loc, own'⟩ s σ' s') : Aft c ⟨loc, own⟩ s σ' s' := by
  have hm : ∀ a, a ∈ feet own' ↔ a ∈ feet own := fun a => (feet_perm p).mem_iff.symm
  refine ⟨f.rest, f.sp.weaken fun a ha => ?_, fun a o n e => f.al a o (fun z => n ((hm a).mp z)) e, fun a ha => (f.fs a ha).imp (hm a).mp id⟩
  rcases List.mem_append.mp ha with z | z
  · exact List.mem_append_left _ z
  · exact List.mem_append_right _ ((hm a).mp z)

theorem Tri.perm {α β : Type} {c : Cx} {P : Heap → Prop} {t : Sem α} {V : Heap → β → α → Prop} {loc : List (String × AV)} {own own' : List (Addr × AO)} {Φ : β → St → Prop} {X : XP} (p : own.Perm own')
    (h : Tri c P t V ⟨loc, own'⟩ Φ X) : Tri c P t V ⟨loc, own⟩ Φ X :=
  fun s r pp Q E q x => h s ⟨r.perm p, r.tp⟩ pp Q E (fun a y σ' s' r' f v φ => q a y σ' s' r' (f.perm p) v φ) (fun e σ' s' r' f φ => x e σ' s' r' (f.perm p) φ)

theorem Tri.forget {α β : Type} {c : Cx} {P : Heap → Prop} {t : Sem α} {V : Heap → β → α → Prop} {loc : List (String × AV)} {own R : List (Addr × AO)} {Φ : β → St → Prop} {X : XP}
    (h : Tri c P t V ⟨loc, own⟩ Φ X) : Tri c P t V ⟨loc, own ++ R⟩ Φ X := by
  intro s r p Q E q x
  have nd := r.feetNodup
  rw [feet_append] at nd
  have r1 : RepS c ⟨loc, own⟩ s := ⟨r.sub (fun p hp => List.mem_append_left _ hp) (List.nodup_append.mp nd).1, r.tp⟩
  have key : ∀ σ' s', Aft c ⟨loc, own⟩ s σ' s' → Aft c ⟨loc, own ++ R⟩ s σ' s' := fun σ' s' f =>
    ⟨f.rest, f.sp.weaken fun a ha => by
      rw [feet_append]
      rcases List.mem_append.mp ha with z | z
      · exact List.mem_append_left _ z
      · exact List.mem_append_right _ (List.mem_append_left _ z), fun a o n e => f.al a o (fun z => n (by rw [feet_append]; exact List.mem_append_left _ z)) e, fun a ha => (f.fs a ha).imp (fun z => by rw [feet_append]; exact List.mem_append_left _ z) id⟩
  exact h s r1 p Q E (fun a y σ' s' r' f v φ => q a y σ' s' r' (key σ' s' f) v φ) (fun e σ' s' r' f φ => x e σ' s' r' (key σ' s' f) φ)

/-! truth -/
abbrev BR : Heap → Bool → Bool → Prop := fun _ b b' => b' = b
abbrev Tst (c : Cx) (e : Expr) (σ : St) (Φ : Bool → St → Prop) (X : XP) : Prop := Tri c T0 (PySem.isTrue e c.env (eval e c.env)) BR σ Φ X
abbrev Tru (c : Cx) (a : AV) (σ : St) (Φ : Bool → St → Prop) (X : XP) : Prop := ∀ v, Tri c (fun h => VR h a v) (truthy v) BR σ Φ X

theorem Tru.bool {c : Cx} {b : Bool} {σ : St} {Φ : Bool → St → Prop} {X : XP} (k : Φ b σ) : Tru c (.bool b) σ Φ X := fun v =>
  Tri.pureStep k fun s p _ _ _ q => by
    rw [VR] at p; subst p
    with_reducible refine wpAny_truthy_bool ?_
    exact q _ s.heap s.toks (fun _ _ e => e) rfl
theorem Tru.int {c : Cx} {a : Int} {σ : St} {Φ : Bool → St → Prop} {X : XP} (k : Φ (a != 0) σ) : Tru c (.int a) σ Φ X := fun v =>
  Tri.pureStep k fun s p _ _ _ q => by
    rw [VR] at p; obtain ⟨t, rfl⟩ := p
    with_reducible refine truthy_int ?_
    exact q _ s.heap s.toks (fun _ _ e => e) rfl

theorem Tst.cmp {c : Cx} {l r : Expr} {op : CmpOp} {pos : Pos} {σ : St} {Φ : Bool → St → Prop} {X : XP}
    (h : Ev c l σ (fun a σ₁ => Ev c r σ₁ (fun b σ₂ => Op2 c (compareOp op) a b σ₂ (fun t σ₃ => Tru c t σ₃ Φ X) X) X) X) (hm : behindInMarks op r = false := by with_unfolding_all rfl) : Tst c (.Compare l [op] [r] pos) σ Φ X := by
  intro s rp _ Q E q x
  refine wpAny_isTrue_Compare1 ?_ hm
  refine h s rp trivial _ _ (fun v a σ₁ s₁ r₁ f₁ va h₁ => ?_) x
  refine h₁ s₁ r₁ trivial _ _ (fun w b σ₂ s₂ r₂ f₂ wb h₂ => ?_) (x.go f₁)
  refine h₂ _ _ s₂ r₂ ⟨va.after r₁ f₂, wb⟩ _ _ (fun u t σ₃ s₃ r₃ f₃ ut h₃ => ?_) ((x.go f₁).go f₂)
  exact h₃ u s₃ r₃ ut Q E (((q.go f₁).go f₂).go f₃) (((x.go f₁).go f₂).go f₃)
theorem Tst.val {c : Cx} {e : Expr} {σ : St} {Φ : Bool → St → Prop} {X : XP} (h : Ev c e σ (fun a σ₁ => Tru c a σ₁ Φ X) X)
    (hw : ∀ t, PySem.isTrue e c.env t = (do let v ← t; standAt e.pos; holding [v] (truthy v)) := by intro _; rfl) : Tst c e σ Φ X :=
  fun s rp _ Q E q x => wpAny_isTrue_value (h s rp trivial _ _ (fun v a σ₁ s₁ r₁ f₁ va h₁ => h₁ v s₁ r₁ va Q E (q.go f₁) (x.go f₁)) x) (hw _)
abbrev All (c : Cx) (op : BoolOp) (es : List Expr) (σ : St) (Φ : Bool → St → Prop) (X : XP) : Prop := Tri c T0 (allTrue op es c.env) BR σ Φ X
theorem Tst.bool {c : Cx} {op : BoolOp} {es : List Expr} {pos : Pos} {σ : St} {Φ : Bool → St → Prop} {X : XP} (h : All c op es σ Φ X) : Tst c (.BoolOp op es pos) σ Φ X :=
  fun s rp p Q E q x => wpAny_isTrue_BoolOp (h s rp p Q E q x)
theorem All.andNil {c : Cx} {σ : St} {Φ : Bool → St → Prop} {X : XP} (k : Φ true σ) : All c .And [] σ Φ X :=
  fun s rp p Q E q x => wpAny_allTrue_And_nil (q _ _ σ s rp .refl rfl k)
theorem All.and {c : Cx} {e : Expr} {es : List Expr} {σ : St} {Φ : Bool → St → Prop} {X : XP} (h : Tst c e σ (fun b σ₁ => (b = true → All c .And es σ₁ Φ X) ∧ (b = false → Φ false σ₁)) X) : All c .And (e :: es) σ Φ X := by
  intro s rp _ Q E q x
  refine wpAny_allTrue_And_cons (h s rp trivial _ _ (fun a b σ₁ s₁ r₁ f₁ e h₁ => ?_) x)
  cases e
  cases a with
  | true => exact h₁.1 rfl s₁ r₁ trivial Q E (q.go f₁) (x.go f₁)
  | false => exact q _ _ σ₁ s₁ r₁ f₁ rfl (h₁.2 rfl)
theorem All.orNil {c : Cx} {σ : St} {Φ : Bool → St → Prop} {X : XP} (k : Φ false σ) : All c .Or [] σ Φ X :=
  fun s rp p Q E q x => by
    show wpAny _ _ (pure (BoolOp.Or == BoolOp.And)) Q E s
    exact wpAny_pure (q _ _ σ s rp .refl rfl k)
theorem All.or {c : Cx} {e : Expr} {es : List Expr} {σ : St} {Φ : Bool → St → Prop} {X : XP} (h : Tst c e σ (fun b σ₁ => (b = true → Φ true σ₁) ∧ (b = false → All c .Or es σ₁ Φ X)) X) : All c .Or (e :: es) σ Φ X := by
  intro s rp _ Q E q x
  refine wpAny_allTrue_Or_cons (h s rp trivial _ _ (fun a b σ₁ s₁ r₁ f₁ e h₁ => ?_) x)
  cases e
  cases a with
  | true => exact q _ _ σ₁ s₁ r₁ f₁ rfl (h₁.1 rfl)
  | false => exact h₁.2 rfl s₁ r₁ trivial Q E (q.go f₁) (x.go f₁)

theorem Ev.ifExp {c : Cx} {t a b : Expr} {pos : Pos} {σ : St} {Φ : AV → St → Prop} {X : XP} (h : Tst c t σ (fun y σ₁ => (y = true → Ev c a σ₁ Φ X) ∧ (y = false → Ev c b σ₁ Φ X)) X) : Ev c (.IfExp t a b pos) σ Φ X := by
  intro s rp _ Q E q x
  refine wpAny_IfExp (h s rp trivial _ _ (fun y z σ₁ s₁ r₁ f₁ e h₁ => ?_) x)
  cases e
  cases y with
  | true => exact h₁.1 rfl s₁ r₁ trivial Q E (q.go f₁) (x.go f₁)
  | false => exact h₁.2 rfl s₁ r₁ trivial Q E (q.go f₁) (x.go f₁)
theorem Ev.and2 {c : Cx} {a b : Expr} {pos : Pos} {σ : St} {Φ : AV → St → Prop} {X : XP} (h : Ev c a σ (fun y σ₁ => Tru c y σ₁ (fun t σ₂ => (t = true → Ev c b σ₂ Φ X) ∧ (t = false → Φ y σ₂)) X) X) : Ev c (.BoolOp .And [a, b] pos) σ Φ X := by
  intro s rp _ Q E q x
  refine wpAny_And2 (h s rp trivial _ _ (fun v y σ₁ s₁ r₁ f₁ vy h₁ => ?_) x)
  refine h₁ v s₁ r₁ vy _ _ (fun t t' σ₂ s₂ r₂ f₂ e h₂ => ?_) (x.go f₁)
  cases e
  cases t with
  | true => exact h₂.1 rfl s₂ r₂ trivial Q E ((q.go f₁).go f₂) ((x.go f₁).go f₂)
  | false => exact q v y σ₂ s₂ r₂ (f₁.trans f₂) (vy.after r₁ f₂) (h₂.2 rfl)
/-! statements -/
inductive Fl where
  | next | brk | cont | ret (v : AV)
def FR (h : Heap) : Fl → Flow → Prop
  | .next, f => f = .next
  | .brk, f => f = .brk
  | .cont, f => f = .cont
  | .ret av, f => ∃ v, f = .ret v ∧ VR h av v
abbrev Ex (c : Cx) (st : Stmt) (σ : St) (Φ : Fl → St → Prop) (X : XP) : Prop := Tri c T0 (exec st c.env) FR σ Φ X
abbrev Exs (c : Cx) (ss : List Stmt) (σ : St) (Φ : Fl → St → Prop) (X : XP) : Prop := Tri c T0 (execs ss c.env) FR σ Φ X

def Then (c : Cx) (rest : List Stmt) (Φ : Fl → St → Prop) (X : XP) : Fl → St → Prop
  | .next, σ => Exs c rest σ Φ X
  | f, σ => Φ f σ
theorem Exs.nil {c : Cx} {σ : St} {Φ : Fl → St → Prop} {X : XP} (k : Φ .next σ) : Exs c [] σ Φ X := fun s rp _ Q E q x => wpAny_execs_nil (q _ .next σ s rp .refl rfl k)
theorem Exs.cons {c : Cx} {st : Stmt} {rest : List Stmt} {σ : St} {Φ : Fl → St → Prop} {X : XP} (h : Ex c st σ (Then c rest Φ X) X) : Exs c (st :: rest) σ Φ X := by
  intro s rp _ Q E q x
  refine wpAny_execs_cons (h s rp trivial _ _ (fun a f σ₁ s₁ r₁ f₁ e h₁ => ?_) x)
  cases f with
  | next => cases e; exact h₁ s₁ r₁ trivial Q E (q.go f₁) (x.go f₁)
  | brk => cases e; exact q _ .brk σ₁ s₁ r₁ f₁ rfl h₁
  | cont => cases e; exact q _ .cont σ₁ s₁ r₁ f₁ rfl h₁
  | ret av => obtain ⟨v, rfl, hv⟩ := e; exact q _ (.ret av) σ₁ s₁ r₁ f₁ ⟨v, rfl, hv⟩ h₁

def CanStore (c : Cx) (x : String) : Prop := c.kind x = some .local ∨ (c.kind x = some .cell ∧ ∃ a, c.env.cells.lookup (Str.ofString x) = some a ∧ a ∈ c.fr)

theorem Ex.assign {c : Cx} {x : String} {p pos : Pos} {e : Expr} {σ : St} {Φ : Fl → St → Prop} {X : XP} (h : Ev c e σ (fun av σ₁ => Φ .next (σ₁.set x av)) X)
    (hx : CanStore c x := by exact Or.inl rfl) (hk : c.env.scope.kind = .function := by rfl) (hs : swapsWith e (some (.Name (Str.ofString x) p)) pos.line c.env = pure false := by rfl) : Ex c (.Assign [.Name (Str.ofString x) p] e pos) σ Φ X := by
  intro s rp _ Q E q xx
  refine wpAny_Assign_Name (h s rp trivial _ _ (fun v av σ₁ s₁ r₁ f₁ va h₁ => ?_) xx) hs
  exact storeLoc (Φ := fun _ σ' => Φ .next σ') hk hx h₁ s₁ r₁ va _ _ (fun _ _ σ₂ s₂ r₂ f₂ _ h₂ => q _ .next σ₂ s₂ r₂ (f₁.trans f₂) rfl h₂) (xx.go f₁)

theorem Ex.aug {c : Cx} {x : String} {p pos : Pos} {op : Operator} {e : Expr} {av : AV} {σ : St} {Φ : Fl → St → Prop} {X : XP} (ho : σ.loc.lookup x = some av) (h : Ev c e σ (fun b σ₁ => Op2 c (inplaceOp op) av b σ₁ (fun r σ₂ => Φ .next (σ₂.set x r)) X) X)
    (hx : CanStore c x := by exact Or.inl rfl) (hk : c.env.scope.kind = .function := by rfl) (hc : (Str.ofString x == Str.ofString "__classdict__") = false := by decide) : Ex c (.AugAssign (.Name (Str.ofString x) p) op e pos) σ Φ X := by
  intro s rp _ Q E q xx
  refine wpAny_AugAssign_Name (loadLoc (Φ := fun a σ' => a = av ∧ σ' = σ) ho hk hc ⟨rfl, rfl⟩ s rp trivial _ _ (fun v a σ₀ s₀ r₀ f₀ va h₀ => ?_) (fun e σ' s' r' f' xe => xx e σ' s' r' f' xe))
  obtain ⟨rfl, rfl⟩ := h₀
  refine h s₀ r₀ trivial _ _ (fun w b σ₁ s₁ r₁ f₁ wb h₁ => ?_) (xx.go f₀)
  refine h₁ v w s₁ r₁ ⟨va.after r₀ f₁, wb⟩ _ _ (fun u r σ₂ s₂ r₂ f₂ ur h₂ => ?_) ((xx.go f₀).go f₁)
  exact storeLoc (Φ := fun _ σ' => Φ .next σ') hk hx h₂ s₂ r₂ ur _ _ (fun _ _ σ₃ s₃ r₃ f₃ _ h₃ => q _ .next σ₃ s₃ r₃ (((f₀.trans f₁).trans f₂).trans f₃) rfl h₃) (((xx.go f₀).go f₁).go f₂)

theorem Ex.ret {c : Cx} {e : Expr} {pos : Pos} {σ : St} {Φ : Fl → St → Prop} {X : XP} (h : Ev c e σ (fun av σ₁ => Φ (.ret av) σ₁) X) : Ex c (.Return (some e) pos) σ Φ X :=
  fun s rp _ Q E q x => wpAny_Return_some (h s rp trivial _ _ (fun v av σ₁ s₁ r₁ f₁ va h₁ => q _ (.ret av) σ₁ s₁ r₁ f₁ ⟨v, rfl, va⟩ h₁) x)
theorem Ex.cont {c : Cx} {pos : Pos} {σ : St} {Φ : Fl → St → Prop} {X : XP} (k : Φ .cont σ) : Ex c (.Continue pos) σ Φ X :=
  fun s rp _ Q E q x => wpAny_Continue (q _ .cont σ s rp .refl rfl k)
theorem Ex.iff {c : Cx} {t : Expr} {a b : List Stmt} {pos : Pos} {σ : St} {Φ : Fl → St → Prop} {X : XP} (h : Tst c t σ (fun y σ₁ => (y = true → Exs c a σ₁ Φ X) ∧ (y = false → Exs c b σ₁ Φ X)) X) : Ex c (.If t a b pos) σ Φ X := by
  intro s rp _ Q E q x
  refine wpAny_If (h s rp trivial _ _ (fun y z σ₁ s₁ r₁ f₁ e h₁ => ?_) x)
  cases e
  cases y with
  | true => exact h₁.1 rfl s₁ r₁ trivial Q E (q.go f₁) (x.go f₁)
  | false => exact h₁.2 rfl s₁ r₁ trivial Q E (q.go f₁) (x.go f₁)

/-- what leaves a loop by an exception is noted in the frame, and comes back -/
def Pass (c : Cx) (Y X : XP) : Prop := ∀ e σ s E, RepS c σ s → Y e σ s → Kx c σ s X E →
  notedBy (model c.prog c.w) c.A c.env (fun e s' => cameBackBy (model c.prog c.w) c.A c.env E e s') e s
theorem Pass.no {c : Cx} {X : XP} : Pass c noX X := fun _ _ _ _ _ y _ => y.elim

def Turn (I : Nat → St → Prop) (n : Nat) (Φ : Fl → St → Prop) : Fl → St → Prop
  | .next, σ => ∃ m, m < n ∧ I m σ
  | .cont, σ => ∃ m, m < n ∧ I m σ
  | .brk, σ => Φ .next σ
  | .ret v, σ => Φ (.ret v) σ

theorem Ex.whileX {c : Cx} {t : Expr} {b : List Stmt} {pos : Pos} {σ : St} {Φ : Fl → St → Prop} {X Y : XP} (I : Nat → St → Prop) (n : Nat) (h0 : I n σ) (hp : Pass c Y X)
    (turn : ∀ n σ, I n σ → Tst c t σ (fun y σ₁ => (y = true → Exs c b σ₁ (Turn I n Φ) Y) ∧ (y = false → Φ .next σ₁)) Y) : Ex c (.While t b [] pos) σ Φ X := by
  intro s rp _ Q E q x
  refine wpAny_While (codeAny_whileLoop (fun n s' => ∃ σ', RepS c σ' s' ∧ Aft c σ s σ' s' ∧ I n σ') (fun n s' hI => ?_) n ⟨σ, rp, .refl, h0⟩)
  obtain ⟨σ', r', f', hI⟩ := hI
  have xx : ∀ σ₁ s₁, RepS c σ₁ s₁ → Aft c σ s σ₁ s₁ → Kx c σ₁ s₁ Y (notedBy (model c.prog c.w) c.A c.env (fun e s' => cameBackBy (model c.prog c.w) c.A c.env E e s')) :=
    fun σ₁ s₁ _ f₁ e σ₂ s₂ r₂ f₂ y => hp e σ₂ s₂ E r₂ y ((x.go f₁).go f₂)
  refine turn n σ' hI s' r' trivial _ _ (fun y z σ₁ s₁ r₁ f₁ e h₁ => ?_) (xx σ' s' r' f')
  cases e
  cases y with
  | true =>
    refine h₁.1 rfl s₁ r₁ trivial _ _ (fun a f σ₂ s₂ r₂ f₂ e h₂ => ?_) (xx σ₁ s₁ r₁ (f'.trans f₁))
    cases f with
    | next => cases e; obtain ⟨m, hm, hI⟩ := h₂; exact ⟨m, hm, σ₂, r₂, (f'.trans f₁).trans f₂, hI⟩
    | cont => cases e; obtain ⟨m, hm, hI⟩ := h₂; exact ⟨m, hm, σ₂, r₂, (f'.trans f₁).trans f₂, hI⟩
    | brk => cases e; exact q _ .next σ₂ s₂ r₂ ((f'.trans f₁).trans f₂) rfl h₂
    | ret v => obtain ⟨w, rfl, hw⟩ := e; exact q _ (.ret v) σ₂ s₂ r₂ ((f'.trans f₁).trans f₂) ⟨w, rfl, hw⟩ h₂
  | false => exact wpAny_execs_nil (q _ .next σ₁ s₁ r₁ (f'.trans f₁) rfl (h₁.2 rfl))
theorem Ex.while {c : Cx} {t : Expr} {b : List Stmt} {pos : Pos} {σ : St} {Φ : Fl → St → Prop} {X : XP} (I : Nat → St → Prop) (n : Nat) (h0 : I n σ)
    (turn : ∀ n σ, I n σ → Tst c t σ (fun y σ₁ => (y = true → Exs c b σ₁ (Turn I n Φ) noX) ∧ (y = false → Φ .next σ₁)) noX) : Ex c (.While t b [] pos) σ Φ X := Ex.whileX I n h0 .no turn

end Mine

-- AL
namespace Mine
open PySem PySem.Calls PyProof.Rows PySem.W

theorem ffOf {b0 h h' : Heap} : ∀ {l : List Env}, h.FunFrames b0 l → (∀ b ∈ l.filterMap (·.frame), ∀ o, h.get? b = some o → (∀ vs, o.data ≠ .fields vs) → ∃ o', h'.get? b = some o' ∧ ∀ vs, o'.data ≠ .fields vs) → h'.FunFrames b0 l
  | [], _, _ => trivial
  | env :: rest, ⟨a, ⟨L, o, b, d, e, f⟩, g⟩, k => by
    obtain ⟨o', e', f'⟩ := k L (by rw [List.filterMap_cons, b]; exact .head _) o e f
    exact ⟨a, ⟨L, o', b, d, e', f'⟩, ffOf g fun b' hb => k b' (by rw [List.filterMap_cons, b]; exact .tail _ hb)⟩

/-- a step that turns only an object that nobody owns -/
theorem Rep.keepBut {c : Cx} {σ : St} {h h' : Heap} {I : Addr} (r : Rep c σ h) (k : ∀ a o, a ≠ I → h.get? a = some o → h'.get? a = some o)
    (hI : I ∉ c.fr ++ (c.fx ++ feet σ.own)) (hK : I ∉ c.K) (h0 : c.b0.get? I = none) (nt : ∀ o, h.get? I = some o → NT o) : Rep c σ h' := by
  have sp : Sp [] [I] h h' := Sp.of_keep fun a o f e => k a o (by simpa using f) e
  have ntu : NoTup h [I] := fun a ha o e => by rw [List.mem_singleton.mp ha] at e; exact nt o e
  have n1 : ∀ a ∈ c.fr, a ≠ I := fun a ha e => hI (e ▸ List.mem_append_left _ ha)
  have n2 : ∀ a ∈ c.fx, a ≠ I := fun a ha e => hI (e ▸ List.mem_append_right _ (List.mem_append_left _ ha))
  have n3 : ∀ a ∈ feet σ.own, a ≠ I := fun a ha e => hI (e ▸ List.mem_append_right _ (List.mem_append_right _ ha))
  obtain ⟨⟨m, hn, hl⟩, lin, cel, inj, own, nd, nk, frc, kb, kn, kh, ff⟩ := r
  refine ⟨⟨m, hn.at' fun o e => k _ o (n1 _ lin) e, fun x av e => ?_⟩, lin, fun x a e1 e2 e3 => ?_, inj, fun p hp => (own p hp).mono sp ntu fun b hb' => ⟨fun z => n3 b (List.mem_flatMap.mpr ⟨p, hp, hb'⟩) (by simpa using z), by simp⟩, nd, nk, fun a ha => ?_, fun a o e => k a o (fun z => by subst z; rw [h0] at e; cases e) (kb a o e), kn, fun a ha => ?_, fun l e => ⟨ffOf (ff l e).1 fun b hb o g d => ⟨o, k b o (fun z => ?_) g, d⟩, (ff l e).2⟩⟩
  · rcases hl x av e with ⟨i, w, j, kk⟩ | ⟨i, a, w, j, kk, n, ⟨o, g, d⟩, t⟩
    · exact .inl ⟨i, w, j, kk.mono sp ntu⟩
    · have : a ≠ I := by rcases kk with q | q; exact n1 a q; exact n2 a q
      exact .inr ⟨i, a, w, j, kk, n, ⟨o, k _ _ this g, d⟩, t.mono sp ntu⟩
  · obtain ⟨n, v, o, g, i⟩ := cel x a e1 e2 e3
    exact ⟨n, v, o, k _ _ (n1 a e3) g, i⟩
  · obtain ⟨o, g, i⟩ := frc a ha; exact ⟨o, k _ _ (n1 a ha) g, i⟩
  · obtain ⟨o, e, t⟩ := kh a ha
    refine ⟨o, k a o (fun z => ?_) e, t⟩
    subst z
    rcases List.mem_append.mp ha with w | w
    · exact hK w
    · exact n2 a w rfl
  · subst z
    rcases List.mem_append.mp ((ff l e).2 b hb) with q | q
    · exact n1 b q rfl
    · exact hK q

/-- an iterator that a loop over tuples lets alone -/
def NG (o : Obj) : Prop := ∃ n, o.cls = .type n ∧ (["enumerate", "zip", "dict_itemiterator", "dict_reverseitemiterator", "odict_iterator", "itertools.zip_longest", "itertools.pairwise"].contains n) = false
theorem goOk {prog : Program} {w : World} {A : Around} {E : Value → Shared → Prop} {s : Shared} {target : Expr} {I : Addr} {v : Value} {o : Obj} {Q : Unit → Shared → Prop} (g : s.heap.get? I = some o) (ng : NG o) (hQ : Q () s) :
    wpAny (model prog w) A (letOwnedTupleGo target (.ref I) v) Q E s := by
  obtain ⟨n, hc, hn⟩ := ng
  have fin : ∀ a : Addr, wpAny (model prog w) A (load I >>= fun o => match o.cls, o.data with
      | .type n, .fields vs => if (["enumerate", "zip", "dict_itemiterator", "dict_reverseitemiterator", "odict_iterator", "itertools.zip_longest", "itertools.pairwise"].contains n && vs[0]? == some (rawInt a)) = true then (do rule "for.unpacks-the-owned-tuple"; updateField I 0 .none) else pure ()
      | _, _ => pure ()) Q E s := fun a => by
    refine wpAny_bind (wpAny_load g ?_)
    rw [hc]
    cases hd : o.data with
    | fields vs =>
      show wpAny _ A (if _ then _ else _) Q E s
      rw [hn, Bool.false_and, if_neg (by decide)]
      exact wpAny_pure hQ
    | _ => exact wpAny_pure hQ
  cases target with
  | Tuple _ _ _ =>
    cases v with
    | ref a => exact fin a
    | _ => exact wpAny_pure hQ
  | List _ _ =>
    cases v with
    | ref a => exact fin a
    | _ => exact wpAny_pure hQ
  | _ => exact wpAny_pure hQ

/-- what a value is walked as -/
def Itr (c : Cx) (a : AV) (items : List AV) (σ : St) (PH : Heap → Prop) : Prop :=
  ∀ v s, RepS c σ s → PH s.heap → VR s.heap a v → ∀ (Q : Value → Shared → Prop) (E : Value → Shared → Prop),
    (∀ I fp P St h' tk, Walks c.prog c.w c.A I fp [I] items.length P St → s.heap.get? I = none → (∀ i h, St i h → ∃ o, h.get? I = some o ∧ NT o ∧ NG o) →
      (∀ b o, s.heap.get? b = some o → h'.get? b = some o) → (∀ b ∈ fp, b = I ∨ (b ∉ c.fr ++ feet σ.own ∧ b ∉ c.K ∧ ∃ o, s.heap.get? b = some o)) → St 0 h' →
      (∀ i x v', items[i]? = some x → P i v' → VR s.heap x v') → Q (.ref I) { s with heap := h', toks := tk }) → wpAny (model c.prog c.w) c.A (pyIter v) Q E s

abbrev Asg (c : Cx) (t : Expr) (x : AV) (σ : St) (Ψ : St → Prop) (X : XP) : Prop := ∀ v, Tri c (fun h => VR h x v) (assign t c.env v) (fun _ (_ : Unit) _ => True) σ (fun _ σ' => Ψ σ') X

theorem Asg.name {c : Cx} {x : String} {p : Pos} {av : AV} {σ : St} {Ψ : St → Prop} {X : XP} (k : Ψ (σ.set x av)) (hx : CanStore c x := by exact Or.inl rfl) (hk : c.env.scope.kind = .function := by rfl) : Asg c (.Name (Str.ofString x) p) av σ Ψ X :=
  fun v s r pv Q E q xx => wpAny_assign_Name (storeLoc (Φ := fun _ σ' => Ψ σ') hk hx k s r pv Q E q xx)

def TurnF (inv : Nat → St → Prop) (i : Nat) (Φ : Fl → St → Prop) : Fl → St → Prop
  | .next, σ => inv (i + 1) σ
  | .cont, σ => inv (i + 1) σ
  | .brk, σ => Φ .next σ
  | .ret v, σ => Φ (.ret v) σ

/-- what is known of a walk where it begins -/
structure WB (c : Cx) (σ₁ : St) (s₁ : Shared) (I : Addr) (fp : List Addr) (n : Nat) (P : Nat → Value → Prop) (S : Nat → Heap → Prop) : Prop where
  W : Walks c.prog c.w c.A I fp [I] n P S
  hn : s₁.heap.get? I = none
  f3 : I ∉ c.fr ∧ I ∉ c.fx ∧ I ∉ c.K
  b0 : c.b0.get? I = none
  ok : ∀ i h, S i h → ∃ o, h.get? I = some o ∧ NT o ∧ NG o
  nt : NoTup s₁.heap (c.fr ++ feet σ₁.own)
  nk : NoTup s₁.heap c.K
  fp : ∀ b ∈ fp, b = I ∨ (b ∉ c.fr ++ feet σ₁.own ∧ b ∉ c.K ∧ ∃ o, s₁.heap.get? b = some o)

/-- a walk under way -/
structure WJ (c : Cx) (σ₁ : St) (s₁ : Shared) (I : Addr) (S : Nat → Heap → Prop) (i : Nat) (σ' : St) (s' : Shared) : Prop where
  r : RepS c σ' s'
  f : Aft c σ₁ s₁ σ' s'
  st : S i s'.heap
  ni : I ∉ feet σ'.own

theorem WB.of {c : Cx} {σ₁ : St} {s₁ : Shared} {I : Addr} {fp : List Addr} {n : Nat} {P : Nat → Value → Prop} {S : Nat → Heap → Prop} (r₁ : RepS c σ₁ s₁) (W : Walks c.prog c.w c.A I fp [I] n P S) (hn : s₁.heap.get? I = none)
    (ok : ∀ i h, S i h → ∃ o, h.get? I = some o ∧ NT o ∧ NG o) (hfp : ∀ b ∈ fp, b = I ∨ (b ∉ c.fr ++ feet σ₁.own ∧ b ∉ c.K ∧ ∃ o, s₁.heap.get? b = some o)) : WB c σ₁ s₁ I fp n P S := by
  refine ⟨W, hn, ⟨fun z => ?_, fun z => ?_, fun z => ?_⟩, ?_, ok, r₁.noTup, r₁.noTupK, hfp⟩
  · obtain ⟨o, e⟩ := r₁.here I (List.mem_append_left _ z); rw [hn] at e; cases e
  · obtain ⟨o, e, _⟩ := r₁.kh I (List.mem_append_right _ z); rw [hn] at e; cases e
  · obtain ⟨o, e, _⟩ := r₁.kh I (List.mem_append_left _ z); rw [hn] at e; cases e
  · cases e : c.b0.get? I with
    | none => rfl
    | some o => have := r₁.kb I o e; rw [hn] at this; cases this

theorem WB.step {c : Cx} {σ₁ σ' : St} {s₁ s' : Shared} {I : Addr} {fp : List Addr} {n i : Nat} {P : Nat → Value → Prop} {S : Nat → Heap → Prop} (B : WB c σ₁ s₁ I fp n P S) (J : WJ c σ₁ s₁ I S i σ' s') {h₂ : Heap} {tk₂ : Nat} (ht : 1 ≤ tk₂)
    (kk : ∀ b o, b ∉ [I] → s'.heap.get? b = some o → h₂.get? b = some o) : RepS c σ' { s' with heap := h₂, toks := tk₂ } ∧ Aft c σ₁ s₁ σ' { s' with heap := h₂, toks := tk₂ } := by
  have kk' : ∀ b o, b ≠ I → s'.heap.get? b = some o → h₂.get? b = some o := fun b o n e => kk b o (by simpa using n) e
  have hb : ∀ b o, s₁.heap.get? b = some o → b ≠ I := fun b o e z => by subst z; rw [B.hn] at e; cases e
  refine ⟨⟨J.r.keepBut kk' (fun z => ?_) B.f3.2.2 B.b0 fun o e => by obtain ⟨o', e', nt, _⟩ := B.ok _ _ J.st; rw [e] at e'; cases e'; exact nt, ht⟩, ?_, fun b o g e => ?_, fun b o n e => ?_, J.f.fs⟩
  · rcases List.mem_append.mp z with z | z
    · exact B.f3.1 z
    · rcases List.mem_append.mp z with z | z
      · exact B.f3.2.1 z
      · exact J.ni z
  · have := J.f.rest; rw [this]
  · obtain ⟨p1, sl, p2⟩ := J.f.sp b o g e
    exact ⟨fun z => kk' b o (hb b o e) (p1 z), sl, kk' b _ (hb b o e) p2⟩
  · obtain ⟨o', e'⟩ := J.f.al b o n e
    exact ⟨o', kk' b o' (hb b o e) e'⟩

/-- one step of a walk -/
theorem WB.item {c : Cx} {σ₁ σ' : St} {s₁ s' : Shared} {I : Addr} {fp : List Addr} {n i : Nat} {P : Nat → Value → Prop} {S : Nat → Heap → Prop} {Q : Option Value → Shared → Prop} {E : Value → Shared → Prop} (B : WB c σ₁ s₁ I fp n P S) (J : WJ c σ₁ s₁ I S i σ' s') (hi : i < n)
    (k : ∀ v s₂, P i v → RepS c σ' s₂ → Aft c σ₁ s₁ σ' s₂ → (∃ o, s₂.heap.get? I = some o ∧ NG o) → (∀ σ₃ s₃, RepS c σ₃ s₃ → Aft c σ' s₂ σ₃ s₃ → WJ c σ₁ s₁ I S (i + 1) σ₃ s₃) → Q (some v) s₂) : wpAny (model c.prog c.w) c.A (pyNext (.ref I)) Q E s' := by
  refine wpAny_with_toks J.r.tp (B.W.item i s' _ _ hi J.st fun v h₂ tk₂ hPv hst₂ kk => fun htk => ?_)
  obtain ⟨r2, f2⟩ := B.step J htk kk
  obtain ⟨oI, gI, ntI, ngI⟩ := B.ok _ _ hst₂
  refine k v _ hPv r2 f2 ⟨oI, gI, ngI⟩ fun σ₃ s₃ r₃ f₃ => ⟨r₃, f2.trans f₃, B.W.frame _ _ _ hst₂ fun b hb o e => ?_, fun z => ?_⟩
  · rcases B.fp b hb with rfl | ⟨n1, n2, o1, e1⟩
    · exact f₃.sp.get e (fun z => by
        rcases List.mem_append.mp z with z | z
        · exact B.f3.1 z
        · exact J.ni z) B.f3.2.2
    · refine f₃.sp.get e (fun z => ?_) n2
      rcases List.mem_append.mp z with z | z
      · exact n1 (List.mem_append_left _ z)
      · rcases J.f.fs b z with z | z
        · exact n1 (List.mem_append_right _ z)
        · rw [e1] at z; cases z
  · rcases f₃.fs I z with z | z
    · exact J.ni z
    · rw [show ({ s' with heap := h₂, toks := tk₂ } : Shared).heap = h₂ from rfl, gI] at z; cases z

theorem WB.done {c : Cx} {σ₁ σ' : St} {s₁ s' : Shared} {I : Addr} {fp : List Addr} {n : Nat} {P : Nat → Value → Prop} {S : Nat → Heap → Prop} {Q : Option Value → Shared → Prop} {E : Value → Shared → Prop} (B : WB c σ₁ s₁ I fp n P S) (J : WJ c σ₁ s₁ I S n σ' s')
    (k : ∀ s₂, RepS c σ' s₂ → Aft c σ₁ s₁ σ' s₂ → Q none s₂) : wpAny (model c.prog c.w) c.A (pyNext (.ref I)) Q E s' :=
  wpAny_with_toks J.r.tp (B.W.done s' _ _ J.st fun _ _ kk => fun htk => let ⟨r2, f2⟩ := B.step J htk kk; k _ r2 f2)

theorem Ex.forH {c : Cx} {target iter : Expr} {body : List Stmt} {pos : Pos} {σ : St} {Φ : Fl → St → Prop} {X : XP} (R : List (Addr × AO))
    (h : Ev c iter σ (fun a σ₁ => ∃ (items : List AV) (inv : Nat → St → Prop), Itr c a items σ₁ (Hid c σ₁ R) ∧ inv 0 σ₁ ∧
      (∀ i x σ', items[i]? = some x → inv i σ' → Asg c target x σ' (fun σ₂ => Exs c body σ₂ (TurnF inv i Φ) noX) noX) ∧ (∀ σ', inv items.length σ' → Φ .next σ')) X)
    (hs : ∀ x, foldedSetIterable iter c.env x = pure x := by intro _; rfl) : Tri c (Hid c σ R) (exec (.For target iter body [] pos) c.env) FR σ Φ X := by
  intro s rp hR Q E q x
  refine wpAny_For (h s rp trivial _ _ (fun v a σ₁ s₁ r₁ f₁ va h₁ => ?_) x) hs
  obtain ⟨items, inv, it, h0, turn, done⟩ := h₁
  refine wpAny_with_toks r₁.tp (it v s₁ r₁ (hR.after rp f₁) va _ _ (fun I fp P St h' tk W hn hI hk hfp hst hP => fun htk0 => ?_))
  have B := WB.of r₁ W hn hI hfp
  refine codeAny_forLoop_any (fun n s' => ∃ i σ', n = items.length - i ∧ i ≤ items.length ∧ inv i σ' ∧ WJ c σ₁ s₁ I St i σ' s') (fun n s' hJ => ?_) items.length
    ⟨0, σ₁, rfl, Nat.zero_le _, h0, ⟨r₁.keep hk, htk0⟩, Aft.keep hk, hst, fun z => by obtain ⟨o, e⟩ := r₁.here I (List.mem_append_right _ z); rw [hn] at e; cases e⟩
  obtain ⟨i, σ', rfl, hi, hinv, J⟩ := hJ
  by_cases hlt : i < items.length
  · refine B.item J hlt fun v' s₂ hPv r2 f2 ⟨oI, gI, ngI⟩ again => ?_
    have hx : items[i]? = some items[i] := by simp [hlt]
    refine goOk gI ngI ?_
    refine turn i items[i] σ' hx hinv v' s₂ r2 ((hP i _ v' hx hPv).after r₁ f2) _ _ (fun _ _ σ₃ s₃ r₃ f₃ _ h₃ => ?_) (fun _ _ _ _ _ z => z.elim)
    refine h₃ s₃ r₃ trivial _ _ (fun g fl σ₄ s₄ r₄ f₄ e h₄ => ?_) (fun _ _ _ _ _ z => z.elim)
    have f34 := f₃.trans f₄
    have fin : inv (i + 1) σ₄ → ∃ m, m < items.length - i ∧ ∃ j σ', m = items.length - j ∧ j ≤ items.length ∧ inv j σ' ∧ WJ c σ₁ s₁ I St j σ' s₄ := fun hv => ⟨items.length - (i + 1), Nat.sub_lt_sub_left hlt (Nat.lt_succ_self i), i + 1, σ₄, rfl, hlt, hv, again σ₄ s₄ r₄ f34⟩
    cases fl with
    | next => cases e; exact fin h₄
    | cont => cases e; exact fin h₄
    | brk => cases e; exact q _ .next σ₄ s₄ r₄ (f₁.trans (f2.trans f34)) rfl h₄
    | ret av => obtain ⟨w, rfl, hw⟩ := e; exact q _ (.ret av) σ₄ s₄ r₄ (f₁.trans (f2.trans f34)) ⟨w, rfl, hw⟩ h₄
  · have hi' : i = items.length := Nat.le_antisymm hi (Nat.ge_of_not_lt hlt)
    subst hi'
    exact B.done J fun s₂ r2 f2 => wpAny_execs_nil (q _ .next σ' _ r2 (f₁.trans f2) rfl (done σ' hinv))

theorem Ex.for {c : Cx} {target iter : Expr} {body : List Stmt} {pos : Pos} {σ : St} {Φ : Fl → St → Prop} {X : XP}
    (h : Ev c iter σ (fun a σ₁ => ∃ (items : List AV) (inv : Nat → St → Prop), Itr c a items σ₁ T0 ∧ inv 0 σ₁ ∧
      (∀ i x σ', items[i]? = some x → inv i σ' → Asg c target x σ' (fun σ₂ => Exs c body σ₂ (TurnF inv i Φ) noX) noX) ∧ (∀ σ', inv items.length σ' → Φ .next σ')) X)
    (hs : ∀ x, foldedSetIterable iter c.env x = pure x := by intro _; rfl) : Ex c (.For target iter body [] pos) σ Φ X := by
  refine fun s r _ Q E q x => Ex.forH [] (h.mono fun a σ₁ p => ?_) hs s r Hid.nil Q E q x
  obtain ⟨items, inv, it, a, b, d⟩ := p
  exact ⟨items, inv, fun v s r _ va Q E k => it v s r trivial va Q E k, a, b, d⟩

end Mine

-- AC
namespace Mine
open PySem PySem.Calls PyProof.Rows PySem.W

theorem Ns.slots {h h' : Heap} {a : Addr} {m : Str → Option Value} (n : h.Ns a m) (k : ∀ o, h.get? a = some o → ∃ sl, h'.get? a = some { o with slots := sl }) : h'.Ns a m := by
  obtain ⟨o, es, ep, g, d, r⟩ := n
  obtain ⟨sl, g'⟩ := k o g
  exact ⟨_, es, ep, g', d, r⟩
theorem IsCell.slots {h h' : Heap} {a : Addr} {v : Option Value} (n : h.IsCell a v) (k : ∀ o, h.get? a = some o → ∃ sl, h'.get? a = some { o with slots := sl }) : h'.IsCell a v := by
  obtain ⟨o, g, d⟩ := n
  obtain ⟨sl, g'⟩ := k o g
  exact ⟨_, g', d⟩

/-- the caller's state behind a call that may turn what it was lent (own), and the slots of frames (K') -/
theorem Rep.back {c : Cx} {loc : List (String × AV)} {own own' : List (Addr × AO)} {s s' : Shared} {K' F' : List Addr} (r : Rep c ⟨loc, own⟩ s.heap)
    (rest : s' = { s with heap := s'.heap, toks := s'.toks }) (sp : Sp K' (F' ++ feet own) s.heap s'.heap) (hF : ∀ a ∈ F', s.heap.get? a = none) (hK : ∀ a ∈ K', a ∈ c.fr ++ c.K)
    (al : ∀ a o, a ∉ feet own → s.heap.get? a = some o → ∃ o', s'.heap.get? a = some o') (ho : ∀ p ∈ own', OR s'.heap p.1 p.2) (hn : (feet own').Nodup) (fs : ∀ a ∈ feet own', a ∈ feet own ∨ s.heap.get? a = none)
    (kb : ∀ a o, c.b0.get? a = some o → s'.heap.get? a = some o) : Rep c ⟨loc, own'⟩ s'.heap ∧ Aft c ⟨loc, own⟩ s ⟨loc, own'⟩ s' := by
  have nF : ∀ a o, s.heap.get? a = some o → a ∉ feet own → a ∉ F' ++ feet own := fun a o e n z => by
    rcases List.mem_append.mp z with z | z
    · rw [hF a z] at e; cases e
    · exact n z
  have frn : ∀ a ∈ c.fr, a ∉ feet own := fun a ha z => (List.nodup_append.mp r.nd).2.2 a ha a (List.mem_append_right _ z) rfl
  have fxn : ∀ a ∈ c.fx, a ∉ feet own := fun a ha z => (List.nodup_append.mp (List.nodup_append.mp r.nd).2.1).2.2 a ha a z rfl
  have Kn : ∀ a ∈ c.K, a ∉ feet own := fun a ha z => (r.nk a (List.mem_append_right _ (List.mem_append_right _ z))).1 ha
  have sl : ∀ a, a ∉ feet own → ∀ o, s.heap.get? a = some o → ∃ sl, s'.heap.get? a = some { o with slots := sl } := fun a n o e => (sp a o (nF a o e n) e).2
  have frx : ∀ a ∈ c.fr, ∃ o, s.heap.get? a = some o ∧ NT o := r.frc
  have nt1 : NoTup s.heap (F' ++ feet own) := fun a ha o e => by
    rcases List.mem_append.mp ha with z | z
    · rw [hF a z] at e; cases e
    · exact r.noTup a (List.mem_append_right _ z) o e
  have nt2 : NoTup s.heap K' := fun a ha o e => by
    rcases List.mem_append.mp (hK a ha) with z | z
    · exact r.noTup a (List.mem_append_left _ z) o e
    · exact r.noTupK a z o e
  have ex : ∀ a ∈ c.fr ++ (c.fx ++ c.K), ∃ o, s.heap.get? a = some o ∧ NT o := fun a ha => by
    rcases List.mem_append.mp ha with z | z
    · exact r.frc a z
    · rcases List.mem_append.mp z with z | z
      · exact r.kh a (List.mem_append_right _ z)
      · exact r.kh a (List.mem_append_left _ z)
  refine ⟨⟨?_, r.lin, fun x a e1 e2 e3 => ?_, r.inj, ho, ?_, fun a ha => ?_, fun a ha => ?_, kb, r.kn, fun a ha => ?_, fun l e => ⟨?_, (r.ff l e).2⟩⟩, ⟨rest, fun a o n e => ?_, al, fs⟩⟩
  · obtain ⟨m, hns, hl⟩ := r.ns
    refine ⟨m, Ns.slots hns (sl _ (frn _ r.lin)), fun x av e => ?_⟩
    rcases hl x av e with ⟨i, v, j, k⟩ | ⟨i, a, v, j, k, n, q, t⟩
    · exact .inl ⟨i, v, j, k.mono sp nt1 nt2⟩
    · exact .inr ⟨i, a, v, j, k, n, IsCell.slots q (sl a (k.elim (frn a) (fxn a))), t.mono sp nt1 nt2⟩
  · obtain ⟨n, v, q⟩ := r.cel x a e1 e2 e3
    exact ⟨n, v, IsCell.slots q (sl a (frn a e3))⟩
  · have nd := r.nd
    rw [List.nodup_append] at nd ⊢
    obtain ⟨n1, n2, n3⟩ := nd
    rw [List.nodup_append] at n2
    obtain ⟨m1, m2, m3⟩ := n2
    have new : ∀ a ∈ c.fr ++ (c.fx ++ c.K), a ∉ feet own → a ∉ feet own' := fun a ha n z => by
      rcases fs a z with w | w
      · exact n w
      · obtain ⟨o, e, _⟩ := ex a ha; rw [w] at e; cases e
    refine ⟨n1, List.nodup_append.mpr ⟨m1, hn, fun a ha b hb => ?_⟩, fun a ha b hb => ?_⟩
    · rintro rfl
      exact new a (List.mem_append_right _ (List.mem_append_left _ ha)) (fxn a ha) hb
    · rintro rfl
      rcases List.mem_append.mp hb with z | z
      · exact n3 a ha a (List.mem_append_left _ z) rfl
      · exact new a (List.mem_append_left _ ha) (frn a ha) z
  · rcases List.mem_append.mp ha with z | z
    · exact r.nk a (List.mem_append_left _ z)
    · rcases List.mem_append.mp z with z | z
      · exact r.nk a (List.mem_append_right _ (List.mem_append_left _ z))
      · rcases fs a z with w | w
        · exact r.nk a (List.mem_append_right _ (List.mem_append_right _ w))
        · refine ⟨fun k => ?_, ?_⟩
          · obtain ⟨o, e, _⟩ := r.kh a (List.mem_append_left _ k); rw [w] at e; cases e
          · cases e : c.b0.get? a with
            | none => rfl
            | some o => have := r.kb a o e; rw [w] at this; cases this
  · obtain ⟨o, e, t⟩ := r.frc a ha
    obtain ⟨sl', e'⟩ := sl a (frn a ha) o e
    exact ⟨_, e', t.slots sl'⟩
  · obtain ⟨o, e, t⟩ := r.kh a ha
    have n : a ∉ feet own := by
      rcases List.mem_append.mp ha with z | z
      · exact Kn a z
      · exact fxn a z
    obtain ⟨sl', e'⟩ := sl a n o e
    exact ⟨_, e', t.slots sl'⟩
  · refine ffOf (r.ff l e).1 fun b hb o g d => ?_
    have n : b ∉ feet own := by
      rcases List.mem_append.mp ((r.ff l e).2 b hb) with z | z
      · exact frn b z
      · exact Kn b z
    obtain ⟨sl', e'⟩ := sl b n o g
    exact ⟨_, e', d⟩
  · have nf : a ∉ feet own := fun z => n (List.mem_append_right _ z)
    refine ⟨fun k => sp.get e (nF a o e nf) fun z => ?_, sl a nf o e⟩
    rcases List.mem_append.mp (hK a z) with w | w
    · exact n (List.mem_append_left _ w)
    · exact k w


/-- room, and frames that are known -/
structure Good (z : Bool) (n : Nat) (c : Cx) : Prop where
  hd : z = true → c.A.handled = none
  dp : c.A.depth + n < recursionLimit
  un : c.A.units + 20 * n < cLine
  kf : c.env.scope.kind = .function
  fr : ∃ l, c.A.frames = some l ∧ ∀ a ∈ l.filterMap (·.frame), a = c.env.locals ∨ a ∈ c.K
theorem Good.less {z : Bool} {n m : Nat} {c : Cx} (g : Good z n c) (h : m ≤ n) : Good z m c := ⟨g.hd, by have := g.dp; omega, by have := g.un; omega, g.kf, g.fr⟩
abbrev cx (prog : Program) (w : World) (b0 : Heap) (A : Around) (env : Env) (fr fx K : List Addr) : Cx := ⟨prog, w, b0, A, env, fr, fx, K⟩

/-- a code run to its value -/
abbrev runs (prog : Program) (w : World) (A : Around) (cd : Code) : (Value → Shared → Prop) → (Value → Shared → Prop) → Shared → Prop :=
  fun Q E s => codeAny (model prog w) A cd (fun r s' => match r with | .ok (.ret v) => Q v s' | .ok _ => False | .error e => E e s') s
/-- a callee's promise -/
def Fun (prog : Program) (w : World) (b0 : Heap) (z : Bool) (n : Nat) (f : Value) (args : List AV) (own : List (Addr × AO)) (Φ : AV → List (Addr × AO) → Prop) : Prop :=
  ∀ (A : Around) (env : Env) (fr fx K : List Addr) (loc : List (String × AV)), Good z n (cx prog w b0 A env fr fx K) →
    ∀ vs X, TriW (cx prog w b0 A env fr fx K) (fun h => VRs h args vs) (runs prog w A (.call f ⟨vs, []⟩)) VR ⟨loc, own⟩ (fun av σ' => σ'.loc = loc ∧ Φ av σ'.own) X
theorem Fun.call {prog : Program} {w : World} {b0 : Heap} {z : Bool} {n : Nat} {f : Value} {args : List AV} {own : List (Addr × AO)} {Ψ : AV → List (Addr × AO) → Prop} (F : Fun prog w b0 z n f args own Ψ)
    {A : Around} {env : Env} {fr fx K : List Addr} {loc : List (String × AV)} {X : XP} (g : Good z n (cx prog w b0 A env fr fx K)) (vs : List Value) :
    Tri (cx prog w b0 A env fr fx K) (fun h => VRs h args vs) (call f vs) VR ⟨loc, own⟩ (fun av σ' => σ'.loc = loc ∧ Ψ av σ'.own) X :=
  fun s r p Q E q _ => wpAny_call (F A env fr fx K loc g vs noX s r p Q E q (fun _ _ _ _ _ y => y.elim))

def retv : Fl → AV
  | .ret v => v
  | _ => .none

theorem bindL_off {k : Str → Option NameKind} {y : Str} : ∀ {l : List (Str × Value)} {m : Str → Option Value}, (∀ p ∈ l, p.1 ≠ y) → bindL k l m y = m y
  | [], _, _ => rfl
  | (n, v) :: r, m, h => by
    unfold bindL
    rw [bindL_off fun p hp => h p (.tail _ hp)]
    by_cases q : k n = some .local
    · rw [if_pos q]; simp only [if_neg (Ne.symm (h (n, v) (.head _)))]
    · rw [if_neg q]
theorem bindL_on {k : Str → Option NameKind} {y : Str} {v : Value} : ∀ {l : List (Str × Value)} {m : Str → Option Value}, (l.map (·.1)).Nodup → (y, v) ∈ l → k y = some .local → bindL k l m y = some v
  | (n, w) :: r, m, hn, hm, hk => by
    rw [List.map_cons, List.nodup_cons] at hn
    unfold bindL
    rcases List.mem_cons.mp hm with e | hm
    · cases e
      rw [bindL_off fun p hp z => hn.1 (List.mem_map.mpr ⟨p, hp, z⟩), if_pos hk]; simp
    · exact bindL_on hn.2 hm hk
theorem bindC_off {k : Str → Option NameKind} {y : Str} : ∀ {l : List (Str × Value)} {m : Str → Option Value}, (∀ p ∈ l, p.1 ≠ y) → bindC k l m y = m y
  | [], _, _ => rfl
  | (n, v) :: r, m, h => by
    unfold bindC
    rw [bindC_off fun p hp => h p (.tail _ hp)]
    by_cases q : k n = some .local
    · rw [if_pos q]
    · rw [if_neg q]; simp only [if_neg (Ne.symm (h (n, v) (.head _)))]
theorem bindC_on {k : Str → Option NameKind} {y : Str} {v : Value} : ∀ {l : List (Str × Value)} {m : Str → Option Value}, (l.map (·.1)).Nodup → (y, v) ∈ l → k y ≠ some .local → bindC k l m y = some v
  | (n, w) :: r, m, hn, hm, hk => by
    rw [List.map_cons, List.nodup_cons] at hn
    unfold bindC
    rcases List.mem_cons.mp hm with e | hm
    · cases e
      rw [bindC_off fun p hp z => hn.1 (List.mem_map.mpr ⟨p, hp, z⟩), if_neg hk]; simp
    · exact bindC_on hn.2 hm hk

theorem zip_lookup {h : Heap} {x : String} {av : AV} : ∀ {ps : List String} {args : List AV} {vs : List Value}, VRs h args vs → (ps.zip args).lookup x = some av → ∃ v, (Str.ofString x, v) ∈ (ps.map Str.ofString).zip vs ∧ VR h av v
  | [], _, _, _, e => by simp at e
  | _ :: _, [], _, _, e => by simp at e
  | p :: ps, a :: args, vs, q, e => by
    rw [VRs] at q
    obtain ⟨v, r, rfl, va, q⟩ := q
    rw [List.zip_cons_cons, List.lookup_cons] at e
    by_cases hx : x = p
    · subst hx
      simp only [beq_self_eq_true] at e
      cases e
      exact ⟨v, .head _, va⟩
    · have : (x == p) = false := by simpa using hx
      rw [this] at e
      obtain ⟨w, hm, hw⟩ := zip_lookup q e
      exact ⟨w, .tail _ hm, hw⟩

end Mine

-- AX
namespace Mine
open PySem PySem.Calls PyProof.Rows PySem.W

theorem set_split {α : Type} {l : List α} {i : Nat} {a x : α} (e : l[i]? = some a) : l = l.take i ++ a :: l.drop (i + 1) ∧ l.set i x = l.take i ++ x :: l.drop (i + 1) := by
  obtain ⟨hi, rfl⟩ := List.getElem?_eq_some_iff.mp e
  refine ⟨?_, ?_⟩
  · rw [← List.drop_eq_getElem_cons hi, List.take_append_drop]
  · exact List.set_eq_take_append_cons_drop.trans (if_pos hi)

/-- an owned object turned -/
theorem Rep.upd {c : Cx} {σ : St} {h h' : Heap} {i : Nat} {a : Addr} {ao ao' : AO} (r : Rep c σ h) (e : σ.own[i]? = some (a, ao)) (sp : Sp [] (foot a ao) h h') (o : OR h' a ao') (f : foot a ao' = foot a ao) :
    Rep c ⟨σ.loc, σ.own.set i (a, ao')⟩ h' ∧ feet (σ.own.set i (a, ao')) = feet σ.own ∧ (∀ b ∈ foot a ao, b ∈ c.fr ++ feet σ.own) := by
  obtain ⟨s1, s2⟩ := set_split (x := (a, ao')) e
  have ft : feet (σ.own.set i (a, ao')) = feet σ.own := by
    rw [s2]; conv => rhs; rw [s1]
    rw [feet_append, feet_cons, feet_append, feet_cons, f]
  have mem : ∀ b ∈ foot a ao, b ∈ feet σ.own := fun b hb => List.mem_flatMap.mpr ⟨(a, ao), List.mem_of_getElem? e, hb⟩
  have hG : ∀ b ∈ foot a ao, b ∈ c.fr ++ feet σ.own := fun b hb => List.mem_append_right _ (mem b hb)
  have nt := r.ntOf hG
  have frn : ∀ b ∈ c.fr, b ∉ foot a ao := fun b hb z => (List.nodup_append.mp r.nd).2.2 b hb b (List.mem_append_right _ (mem b z)) rfl
  have fxn : ∀ b ∈ c.fx, b ∉ foot a ao := fun b hb z => (List.nodup_append.mp (List.nodup_append.mp r.nd).2.1).2.2 b hb b (mem b z) rfl
  have nd := r.feetNodup
  rw [s1, feet_append, feet_cons] at nd
  obtain ⟨n1, n2, n3⟩ := List.nodup_append.mp nd
  obtain ⟨n4, n5, n6⟩ := List.nodup_append.mp n2
  refine ⟨r.chg hG sp ?_ (fun x b e1 e2 e3 => ?_) (fun p hp => ?_) ft (fun b hb z => absurd hb (frn b z)) r.nfr, ft, hG⟩
  · obtain ⟨m, hn, hl⟩ := r.ns
    refine ⟨m, hn.at' fun o e => sp.get e (frn _ r.lin) (by simp), fun x av e => ?_⟩
    rcases hl x av e with ⟨i, v, j, k⟩ | ⟨i, b, v, j, k, n, ⟨o, g, d⟩, t⟩
    · exact .inl ⟨i, v, j, k.mono sp nt⟩
    · exact .inr ⟨i, b, v, j, k, n, ⟨o, sp.get g (k.elim (frn b) (fxn b)) (by simp), d⟩, t.mono sp nt⟩
  · obtain ⟨n, v, o, g, d⟩ := r.cel x b e1 e2 e3
    exact ⟨v, o, sp.get g (frn b e3) (by simp), d⟩
  · rw [s2] at hp
    rcases List.mem_append.mp hp with z | z
    · refine (r.own p (by rw [s1]; exact List.mem_append_left _ z)).mono sp nt fun b hb => ⟨fun w => ?_, by simp⟩
      exact n3 b (List.mem_flatMap.mpr ⟨p, z, hb⟩) b (List.mem_append_left _ w) rfl
    · rcases List.mem_cons.mp z with rfl | z
      · exact o
      · refine (r.own p (by rw [s1]; exact List.mem_append_right _ (.tail _ z))).mono sp nt fun b hb => ⟨fun w => ?_, by simp⟩
        exact n6 b w b (List.mem_flatMap.mpr ⟨p, z, hb⟩) rfl

theorem Aft.upd {c : Cx} {σ : St} {s : Shared} {h' : Heap} {tk : Nat} {i : Nat} {a : Addr} {ao ao' : AO} (e : σ.own[i]? = some (a, ao)) (sp : Sp [] (foot a ao) s.heap h') (o : OR h' a ao') (f : foot a ao' = foot a ao)
    (ft : feet (σ.own.set i (a, ao')) = feet σ.own) (hG : ∀ b ∈ foot a ao, b ∈ c.fr ++ feet σ.own) : Aft c σ s ⟨σ.loc, σ.own.set i (a, ao')⟩ { s with heap := h', toks := tk } :=
  Aft.chg hG sp (fun b hb => o.here b (by rw [f]; exact hb)) ft

/-- a step that turns one owned object -/
theorem Tri.updStep {α β : Type} {c : Cx} {P : Heap → Prop} {t : Sem α} {V : Heap → β → α → Prop} {σ : St} {Φ : β → St → Prop} {X : XP} {i : Nat} {a : Addr} {ao ao' : AO} {x : β} (e : σ.own[i]? = some (a, ao)) (f : foot a ao' = foot a ao) (k : Φ x ⟨σ.loc, σ.own.set i (a, ao')⟩)
    (h : ∀ s, P s.heap → RepS c σ s → OR s.heap a ao → ∀ (Q : α → Shared → Prop) (E : Value → Shared → Prop),
      (∀ v h' tk, Sp [] (foot a ao) s.heap h' → OR h' a ao' → V h' x v → Q v { s with heap := h', toks := tk }) → wpAny (model c.prog c.w) c.A t Q E s) : Tri c P t V σ Φ X := by
  refine Tri.ofH fun s r p Q E q _ => ?_
  refine h s p r (r.own _ (List.mem_of_getElem? e)) Q E fun v h' tk sp o vv => ?_
  obtain ⟨r', ft, hG⟩ := r.toRep.upd e sp o f
  exact q v x _ _ r' (Aft.upd e sp o f ft hG) vv k

/-- a step that makes an object -/
theorem Rep.new {c : Cx} {σ : St} {h : Heap} {o : Obj} {ao : AO} (r : Rep c σ h) (hf : foot h.objs.size ao = [h.objs.size]) (ho : OR (h.push o) h.objs.size ao) : Rep c ⟨σ.loc, (h.objs.size, ao) :: σ.own⟩ (h.push o) := by
  have k : ∀ a o', h.get? a = some o' → (h.push o).get? a = some o' := fun a o' e => Heap.get?_push_of_some _ e
  have r' := r.keep k
  have hn : h.get? h.objs.size = none := Heap.get?_none_of_le (Nat.le_refl _)
  have no : ∀ a ∈ c.fr ++ (c.fx ++ feet σ.own), a ≠ h.objs.size := fun a ha z => by
    have : ∃ o, h.get? a = some o := by
      rcases List.mem_append.mp ha with w | w
      · obtain ⟨o, e, _⟩ := r.frc a w; exact ⟨o, e⟩
      · rcases List.mem_append.mp w with w | w
        · obtain ⟨o, e, _⟩ := r.kh a (List.mem_append_right _ w); exact ⟨o, e⟩
        · exact r.here a (List.mem_append_right _ w)
    obtain ⟨o, e⟩ := this
    rw [z, hn] at e; cases e
  refine ⟨r'.ns, r'.lin, r'.cel, r'.inj, fun p hp => ?_, ?_, fun a ha => ?_, r'.frc, r'.kb, r'.kn, r'.kh, r'.ff⟩
  · rcases List.mem_cons.mp hp with rfl | hp
    · exact ho
    · exact r'.own p hp
  · have nd := r.nd
    rw [feet_cons, hf]
    refine List.nodup_append.mpr ⟨(List.nodup_append.mp nd).1, List.nodup_append.mpr ⟨(List.nodup_append.mp (List.nodup_append.mp nd).2.1).1, List.nodup_cons.mpr ⟨fun z => no _ (List.mem_append_right _ (List.mem_append_right _ z)) rfl, r.feetNodup⟩, fun a ha b hb => ?_⟩, fun a ha b hb => ?_⟩
    · rintro rfl
      rcases List.mem_append.mp hb with z | z
      · exact no a (List.mem_append_right _ (List.mem_append_left _ ha)) (List.mem_singleton.mp z)
      · exact (List.nodup_append.mp (List.nodup_append.mp nd).2.1).2.2 a ha a z rfl
    · rintro rfl
      rcases List.mem_append.mp hb with z | z
      · exact (List.nodup_append.mp nd).2.2 a ha a (List.mem_append_left _ z) rfl
      · rcases List.mem_append.mp z with z | z
        · exact no a (List.mem_append_left _ ha) (List.mem_singleton.mp z)
        · exact (List.nodup_append.mp nd).2.2 a ha a (List.mem_append_right _ z) rfl
  · rw [feet_cons, hf] at ha
    rcases List.mem_append.mp ha with z | z
    · exact r.nk a (List.mem_append_left _ z)
    · rcases List.mem_append.mp z with z | z
      · exact r.nk a (List.mem_append_right _ (List.mem_append_left _ z))
      · rcases List.mem_append.mp z with z | z
        · have z := List.mem_singleton.mp z; subst z
          refine ⟨fun kk => ?_, ?_⟩
          · obtain ⟨o, e, _⟩ := r.kh _ (List.mem_append_left _ kk); rw [hn] at e; cases e
          · cases e : c.b0.get? h.objs.size with
            | none => rfl
            | some o => have := r.kb _ o e; rw [hn] at this; cases this
        · exact r.nk a (List.mem_append_right _ (List.mem_append_right _ z))
theorem Aft.new {c : Cx} {σ : St} {s : Shared} {o : Obj} {ao : AO} {tk : Nat} (hf : foot s.heap.objs.size ao = [s.heap.objs.size]) : Aft c σ s ⟨σ.loc, (s.heap.objs.size, ao) :: σ.own⟩ { s with heap := s.heap.push o, toks := tk } := by
  refine ⟨rfl, Sp.of_keep fun a o' _ e => Heap.get?_push_of_some _ e, fun a o' _ e => ⟨o', Heap.get?_push_of_some _ e⟩, fun a ha => ?_⟩
  rw [feet_cons, hf] at ha
  rcases List.mem_append.mp ha with z | z
  · right; rw [List.mem_singleton.mp z]; exact Heap.get?_none_of_le (Nat.le_refl _)
  · exact .inl z

theorem Tri.newList {α : Type} {c : Cx} {P : Heap → Prop} {t : Sem Value} {σ : St} {Φ : AV → St → Prop} {X : XP} {l : List AV} (k : ∀ a, Φ (.ref a) ⟨σ.loc, (a, .list l) :: σ.own⟩)
    (h : ∀ s, P s.heap → RepS c σ s → ∀ (Q : Value → Shared → Prop) (E : Value → Shared → Prop),
      (∀ vs n tk, VRs s.heap l vs → Q (.ref s.heap.objs.size) { s with heap := s.heap.push (listObj vs n), toks := tk }) → wpAny (model c.prog c.w) c.A t Q E s) : Tri c P t VR σ Φ X := by
  refine Tri.ofH fun s r p Q E q _ => ?_
  refine h s p r Q E fun vs n tk hv => ?_
  have ho : OR (s.heap.push (listObj vs n)) s.heap.objs.size (.list l) := ⟨vs, n, Heap.get?_push_size _ rfl, hv.mono (K := []) (F := []) (Sp.of_keep fun a o _ e => Heap.get?_push_of_some _ e) NoTup.nil NoTup.nil⟩
  exact q _ (.ref s.heap.objs.size) _ _ (r.toRep.new rfl ho) (Aft.new rfl) VR.mkRef (k _)

/-! arguments, calls -/
abbrev Arg (c : Cx) (pos : Pos) (es : List Expr) (σ : St) (Φ : List AV → St → Prop) (X : XP) : Prop := Tri c T0 (spliced (backTo pos (starEach es c.env))) VRs σ Φ X
theorem Arg.nil {c : Cx} {pos : Pos} {σ : St} {Φ : List AV → St → Prop} {X : XP} (k : Φ [] σ) : Arg c pos [] σ Φ X :=
  fun s r _ Q E q _ => spliced_nil (q [] [] σ s r .refl (by rw [VRs]) k)
theorem Arg.cons {c : Cx} {pos : Pos} {e : Expr} {es : List Expr} {σ : St} {Φ : List AV → St → Prop} {X : XP} (h : Ev c e σ (fun a σ₁ => Arg c pos es σ₁ (fun l σ₂ => Φ (a :: l) σ₂) X) X)
    (hs : starEach (e :: es) c.env = (false, eval e c.env) :: starEach es c.env := by rfl) : Arg c pos (e :: es) σ Φ X := by
  intro s r _ Q E q x
  show wpAny _ _ (spliced (backTo pos (starEach (e :: es) c.env))) Q E s
  rw [hs]
  refine spliced_cons (h s r trivial _ _ (fun v a σ₁ s₁ r₁ f₁ va h₁ => ?_) x)
  refine h₁ s₁ r₁ trivial _ _ (fun vs l σ₂ s₂ r₂ f₂ vl h₂ => ?_) (x.go f₁)
  exact q (v :: vs) (a :: l) σ₂ s₂ r₂ (f₁.trans f₂) (by rw [VRs]; exact ⟨v, vs, rfl, va.after r₁ f₂, vl⟩) h₂

abbrev Cal (c : Cx) (f : Value) (args : List AV) (σ : St) (Φ : AV → St → Prop) (X : XP) : Prop := ∀ vs, Tri c (fun h => VRs h args vs) (call f vs) VR σ Φ X

theorem evalArgs_any {c : Cx} {pos : Pos} {es : List Expr} {f : Value} {E : Value → Shared → Prop} {s : Shared} {Q : Args → Shared → Prop}
    (hs : (backTo pos (starEach es c.env)).any (·.1) = false) (h : wpAny (model c.prog c.w) c.A (spliced (backTo pos (starEach es c.env))) (fun vs s' => Q ⟨vs, []⟩ s') E s) :
    wpAny (model c.prog c.w) c.A (evalArgs f true (backTo pos (starEach es c.env)) []) Q E s := by
  generalize backTo pos (starEach es c.env) = l at hs h
  cases l with
  | nil =>
    unfold evalArgs
    show wpAny _ _ (spliced [] >>= _) Q E s
    refine wpAny_bind (wpAny_mono h (fun vs s' h' => ?_) fun _ _ x => x)
    refine wpAny_holding ?_
    exact wpAny_bind (wpAny_pure (wpAny_bind (wpAny_pure (wpAny_pure h'))))
  | cons p r =>
    obtain ⟨b, t⟩ := p
    cases b with
    | true => simp at hs
    | false => exact evalArgs_plain h


theorem VRs.nil {h : Heap} : VRs h [] [] := by rw [VRs]
theorem VRs.cons {h : Heap} {x : AV} {v : Value} {l : List AV} {vs : List Value} (a : VR h x v) (b : VRs h l vs) : VRs h (x :: l) (v :: vs) := by rw [VRs]; exact ⟨v, vs, rfl, a, b⟩
theorem call_bi {c : Cx} {pos : Pos} {es : List Expr} {id : String} {first : List Value} {fa : List AV} {σ : St} {Φ : AV → St → Prop} {X : XP}
    (h : Arg c pos es σ (fun l σ₁ => ∀ vs, Tri c (fun h => VRs h fa first ∧ VRs h l vs) (call (.builtin id) (first ++ vs)) VR σ₁ Φ X) X) (hs : (backTo pos (starEach es c.env)).any (·.1) = false := by rfl) :
    Tri c (fun h => VRs h fa first) (callWith pos (.builtin id) first (backTo pos (starEach es c.env)) []) VR σ Φ X := by
  intro s r p Q E q x
  refine callWith_builtin hs (evalArgs_any hs (h s r trivial _ _ (fun vs l σ₁ s₁ r₁ f₁ vl h₁ => ?_) x))
  exact h₁ vs s₁ r₁ ⟨p.after r f₁, vl⟩ Q E (q.go f₁) (x.go f₁)

theorem Ev.callB {c : Cx} {f : Str} {fp pos : Pos} {es : List Expr} {id : String} {σ : St} {Φ : AV → St → Prop} {X : XP}
    (hf : Ev c (.Name f fp) σ (fun a σ₁ => a = .bi id ∧ Arg c pos es σ₁ (fun l σ₂ => Cal c (.builtin id) l σ₂ Φ X) X) X) (hs : (backTo pos (starEach es c.env)).any (·.1) = false := by rfl) : Ev c (.Call (.Name f fp) es [] pos) σ Φ X := by
  intro s r _ Q E q x
  refine wpAny_Call_ofName (hf s r trivial _ _ (fun v a σ₁ s₁ r₁ f₁ va h₁ => ?_) x)
  obtain ⟨rfl, h₁⟩ := h₁
  rw [VR] at va; subst va
  refine call_bi (fa := []) (first := []) ?_ hs s₁ r₁ VRs.nil Q E (q.go f₁) (x.go f₁)
  exact h₁.mono fun l σ₂ h₂ vs s₂ r₂ p Q E q x => h₂ vs s₂ r₂ p.2 Q E q x

theorem Ev.callT {c : Cx} {f : Str} {fp pos : Pos} {es : List Expr} {id : String} {σ : St} {Φ : AV → St → Prop} {X : XP}
    (hf : Ev c (.Name f fp) σ (fun a σ₁ => a = .ty id ∧ Arg c pos es σ₁ (fun l σ₂ => Cal c (.type id) l σ₂ Φ X) X) X) (hs : (backTo pos (starEach es c.env)).any (·.1) = false := by rfl) : Ev c (.Call (.Name f fp) es [] pos) σ Φ X := by
  intro s r _ Q E q x
  refine wpAny_Call_ofName (hf s r trivial _ _ (fun v a σ₁ s₁ r₁ f₁ va h₁ => ?_) x)
  obtain ⟨rfl, h₁⟩ := h₁
  rw [VR] at va; subst va
  refine PySem.callWith_type hs (evalArgs_any hs (h₁ s₁ r₁ trivial _ _ (fun vs l σ₂ s₂ r₂ f₂ vl h₂ => ?_) (x.go f₁)))
  exact h₂ vs s₂ r₂ vl Q E ((q.go f₁).go f₂) ((x.go f₁).go f₂)

/-- a def of the text's -/
theorem Ev.callF {c : Cx} {f : Str} {fp pos : Pos} {es : List Expr} {fa : Addr} {fo : Obj} {fd : FuncData} {σ : St} {Φ : AV → St → Prop} {X : XP} (ho : c.b0.get? fa = some fo) (hd : fo.data = .func fd)
    (hf : Ev c (.Name f fp) σ (fun a σ₁ => a = .ref fa ∧ Arg c pos es σ₁ (fun l σ₂ => Cal c (.ref fa) l σ₂ Φ X) X) X) (hs : (backTo pos (starEach es c.env)).any (·.1) = false := by rfl) : Ev c (.Call (.Name f fp) es [] pos) σ Φ X := by
  intro s r _ Q E q x
  refine wpAny_Call_ofName (hf s r trivial _ _ (fun v a σ₁ s₁ r₁ f₁ va h₁ => ?_) x)
  obtain ⟨rfl, h₁⟩ := h₁
  rw [VR] at va; subst va
  refine callWith_function (o := fo) (fd := fd) (evalArgs_any hs (h₁ s₁ r₁ trivial _ _ (fun vs l σ₂ s₂ r₂ f₂ vl h₂ => ?_) (x.go f₁)))
  exact ⟨⟨r₂.kb _ _ ho, hd⟩, h₂ vs s₂ r₂ vl Q E ((q.go f₁).go f₂) ((x.go f₁).go f₂)⟩

/-- a promise taken, what the callee is not lent hidden -/
theorem Fun.use {prog : Program} {w : World} {b0 : Heap} {z : Bool} {n : Nat} {f : Value} {args : List AV} {own R : List (Addr × AO)} {Ψ : AV → List (Addr × AO) → Prop} (F : Fun prog w b0 z n f args own Ψ)
    {A : Around} {env : Env} {fr fx K : List Addr} {loc : List (String × AV)} {Φ : AV → St → Prop} {X : XP} (g : Good z n (cx prog w b0 A env fr fx K))
    (k : ∀ av own', Ψ av own' → Φ av ⟨loc, own' ++ R⟩) : Cal (cx prog w b0 A env fr fx K) f args ⟨loc, own ++ R⟩ Φ X := fun vs =>
  Tri.frame (fun s r p Q E q x => F.call (X := noX) g vs s r p.1 Q E (fun v av σ' s' r' f' vv h => by
    obtain ⟨loc', own'⟩ := σ'
    obtain ⟨rfl, h⟩ := h
    exact q v av _ s' r' f' vv (k av own' h)) (fun _ _ _ _ _ y => y.elim))

/-! displays -/
theorem push_keep {h : Heap} {o : Obj} : ∀ a o', h.get? a = some o' → (h.push o).get? a = some o' := fun _ _ e => Heap.get?_push_of_some _ e
theorem Ev.tuple {c : Cx} {es : List Expr} {k : Nat} {pos : Pos} {σ : St} {Φ : AV → St → Prop} {X : XP} (h : Arg c pos es σ (fun l σ₁ => l.length ≤ 16777216 ∧ Φ (.tup l) σ₁) X) : Ev c (.Tuple es k pos) σ Φ X := by
  refine Tri.ofH fun s r _ Q E q x => ?_
  refine wpAny_Tuple (h s r trivial _ _ (fun vs l σ₁ s₁ r₁ f₁ vl h₁ => ?_) x)
  refine ⟨by rw [vl.length, sizeLine_eq]; exact h₁.1, ?_⟩
  refine q _ (.tup l) σ₁ _ (r₁.keep push_keep) (f₁.trans (Aft.keep (tk := s₁.toks) push_keep)) ?_ h₁.2
  rw [VR]
  exact ⟨_, vs, 0, rfl, Heap.get?_push_size _ rfl, vl.mono (K := []) (F := []) (Sp.of_keep fun a o _ e => push_keep a o e) NoTup.nil NoTup.nil⟩
theorem Ev.list {c : Cx} {es : List Expr} {pos : Pos} {σ : St} {Φ : AV → St → Prop} {X : XP} (h : Arg c pos es σ (fun l σ₁ => l.length ≤ 16777216 ∧ ∀ a, Φ (.ref a) ⟨σ₁.loc, (a, .list l) :: σ₁.own⟩) X) : Ev c (.List es pos) σ Φ X := by
  refine Tri.ofH fun s r _ Q E q x => ?_
  refine List_ (h s r trivial _ _ (fun vs l σ₁ s₁ r₁ f₁ vl h₁ => ?_) x)
  have hz : vs.length ≤ sizeLine := by rw [vl.length, sizeLine_eq]; exact h₁.1
  with_reducible refine wpAny_newList ?_ hz
  have ho : OR (s₁.heap.push (listObj vs 0)) s₁.heap.objs.size (.list l) := ⟨vs, 0, Heap.get?_push_size _ rfl, vl.mono (K := []) (F := []) (Sp.of_keep fun a o _ e => push_keep a o e) NoTup.nil NoTup.nil⟩
  exact q _ (.ref _) _ _ (r₁.toRep.new rfl ho) (f₁.trans (Aft.new (tk := s₁.toks) rfl)) VR.mkRef (h₁.2 _)

/-! unpacking -/
abbrev AsgL (c : Cx) (ts : List (Value → Sem Unit)) (l : List AV) (σ : St) (Ψ : St → Prop) (X : XP) : Prop := ∀ vs, Tri c (fun h => VRs h l vs) (assignInOrder ts vs) (fun _ (_ : Unit) _ => True) σ (fun _ σ' => Ψ σ') X
theorem AsgL.nil {c : Cx} {σ : St} {Ψ : St → Prop} {X : XP} (k : Ψ σ) : AsgL c [] [] σ Ψ X := fun vs s r p Q E q _ => by
  replace p : VRs s.heap [] vs := p
  rw [VRs] at p; subst p
  exact wpAny_assignInOrder_none (q () () σ s r .refl trivial k)
theorem AsgL.cons {c : Cx} {t : Expr} {ts : List (Value → Sem Unit)} {x : AV} {l : List AV} {σ : St} {Ψ : St → Prop} {X : XP} (h : Asg c t x σ (fun σ₁ => AsgL c ts l σ₁ Ψ X) X) : AsgL c ((assign t c.env) :: ts) (x :: l) σ Ψ X := fun vs s r p Q E q xx => by
  replace p : VRs s.heap (x :: l) vs := p
  rw [VRs] at p
  obtain ⟨v, vs, rfl, pv, pl⟩ := p
  refine wpAny_assignInOrder_more (h v s r pv _ _ (fun _ _ σ₁ s₁ r₁ f₁ _ h₁ => ?_) xx)
  exact h₁ vs s₁ r₁ (pl.after r f₁) Q E (q.go f₁) (xx.go f₁)
theorem Asg.tuple {c : Cx} {es : List Expr} {k : Nat} {pos : Pos} {l : List AV} {σ : St} {Ψ : St → Prop} {X : XP} (hd : c.A.handled = none) (hl : (assignEach es c.env).length = l.length)
    (h : AsgL c ((assignEach es c.env).map (·.2)) l σ Ψ X) (hn : (assignEach es c.env).findIdx? (·.1) = none := by rfl) : Asg c (.Tuple es k pos) (.tup l) σ Ψ X := fun v s r p Q E q xx => by
  replace p : VR s.heap (.tup l) v := p
  rw [VR] at p
  obtain ⟨a, vs, n, rfl, g, pl⟩ := p
  refine wpAny_assign_Tuple hd (items := vs.toArray) ⟨_, g, rfl, n, rfl⟩ (by rw [hl, List.size_toArray, pl.length]) hn (fun h' ex => ?_)
  have kk : ∀ b o, s.heap.get? b = some o → h'.get? b = some o := fun b o e => ex b o (Nat.ne_of_lt (Heap.lt_size e)) e
  have sp : Sp [] [] s.heap h' := Sp.of_keep fun b o _ e => kk b o e
  exact h vs { s with heap := h' } ⟨r.keep kk, r.tp⟩ (pl.mono sp NoTup.nil NoTup.nil) Q E (q.go (Aft.keep (tk := s.toks) kk)) (xx.go (Aft.keep (tk := s.toks) kk))

theorem Ex.assignTuple {c : Cx} {es : List Expr} {k : Nat} {p pos : Pos} {e : Expr} {σ : St} {Φ : Fl → St → Prop} {X : XP} (h : Ev c e σ (fun av σ₁ => Asg c (.Tuple es k p) av σ₁ (fun σ₂ => Φ .next σ₂) X) X)
    (hs : swapsWithSole [.Tuple es k p] e pos.line c.env = pure false := by rfl) (hw : swappedStores [.Tuple es k p] e c.env = pure none := by rfl) : Ex c (.Assign [.Tuple es k p] e pos) σ Φ X := by
  intro s r _ Q E q x
  refine wpAny_Assign_stores (h s r trivial _ _ (fun v av σ₁ s₁ r₁ f₁ va h₁ => ?_) x) hs hw
  exact h₁ v s₁ r₁ va _ _ (fun _ _ σ₂ s₂ r₂ f₂ _ h₂ => q _ .next σ₂ s₂ r₂ (f₁.trans f₂) rfl h₂) (x.go f₁)

end Mine

-- AY
namespace Mine
open PySem PySem.Calls PyProof.Rows PySem.W

theorem VRs.get' {h : Heap} {l : List AV} {vs : List Value} {i : Nat} {x : AV} {v : Value} (q : VRs h l vs) (e : l[i]? = some x) (e' : vs[i]? = some v) : VR h x v := by
  obtain ⟨w, a, b⟩ := q.get e
  rw [e'] at a; cases a; exact b

theorem Itr.range {c : Cx} {a b : Int} {σ : St} {PH : Heap → Prop} (hd : c.A.handled = none) (ha : -(2 ^ 62) ≤ a) (ha' : a < 2 ^ 62) (hb : -(2 ^ 62) ≤ b) (hb' : b < 2 ^ 62) :
    Itr c (.rng a b 1) ((List.range (b - a).toNat).map fun (i : Nat) => .int (a + i)) σ PH := by
  intro v s r _ va Q E q
  rw [VR] at va
  obtain ⟨rr, t, u, w, rfl, g⟩ := va
  refine wpAny_pyIter_range g (small_one ha ha' hb hb') ?_
  have hrs : Builtin.Range.rangeSize a b 1 = ((b - a).toNat : Int) := by rw [rangeSize_one]; split <;> omega
  have hW := Walks.range (prog := c.prog) (w := c.w) (A := c.A) hd s.heap.objs.size a 1 (b - a).toNat
  have hlen : ((List.range (b - a).toNat).map fun (i : Nat) => AV.int (a + i)).length = (b - a).toNat := by simp
  rw [← hlen] at hW
  refine q s.heap.objs.size [s.heap.objs.size] _ _ _ s.toks hW (Heap.get?_none_of_le (Nat.le_refl _)) (fun i h st => ⟨_, st, .of_cls (by simp) (by simp), _, rfl, by decide⟩) push_keep (fun b hb => .inl (List.mem_singleton.mp hb)) ?_ (fun i x v' e p => ?_)
  · show IsRangeIter _ _ _ _ _
    rw [hlen]
    have e := Heap.get?_push_size s.heap (o := { cls := .type "range_iterator", data := .fields #[rawInt a, rawInt (Builtin.Range.rangeSize a b 1), rawInt 1] }) rfl
    rw [hrs] at e ⊢
    simpa using e
  · obtain ⟨t, rfl⟩ := p
    rw [List.getElem?_map] at e
    cases hq : (List.range (b - a).toNat)[i]? with
    | none => rw [hq] at e; cases e
    | some j =>
      rw [hq] at e
      have := List.getElem?_eq_some_iff.mp hq
      obtain ⟨h1, h2⟩ := this
      rw [List.getElem_range] at h2; subst h2
      simp only [Option.map_some, Option.some.injEq] at e
      subst e
      rw [Int.mul_one]; exact VR.mkInt

theorem Itr.str {c : Cx} {l : List Nat} {σ : St} {PH : Heap → Prop} (hd : c.A.handled = none) : Itr c (.str l) (l.map fun k => .str [k]) σ PH := by
  intro v s r _ va Q E q
  rw [VR] at va
  obtain ⟨t, rfl⟩ := va
  have fin : ∀ (ty : String), ty ≠ "tuple" → ty ≠ "range" → (["enumerate", "zip", "dict_itemiterator", "dict_reverseitemiterator", "odict_iterator", "itertools.zip_longest", "itertools.pairwise"].contains ty) = false → Walks c.prog c.w c.A s.heap.objs.size [s.heap.objs.size] [s.heap.objs.size] (⟨l.toArray⟩ : Str).cps.size (SignAt ⟨l.toArray⟩) (fun i h => h.IsStrIter s.heap.objs.size ty ⟨l.toArray⟩ t i) →
      Q (.ref s.heap.objs.size) { s with heap := s.heap.push { cls := .type ty, data := .fields #[.str ⟨l.toArray⟩ t, .int 0 0] } } := by
    intro ty t1 t2 t3 hW
    have hlen : (⟨l.toArray⟩ : Str).cps.size = (l.map fun k => AV.str [k]).length := by simp
    rw [hlen] at hW
    refine q s.heap.objs.size _ _ _ _ s.toks hW (Heap.get?_none_of_le (Nat.le_refl _)) (fun i h st => ?_) push_keep (fun b hb => .inl (List.mem_singleton.mp hb)) ⟨_, Heap.get?_push_size _ rfl, rfl, rfl⟩ (fun i x v' e p => ?_)
    · obtain ⟨o, g, e, _⟩ := st
      exact ⟨o, g, .of_cls (by rw [e]; simpa using t1) (by rw [e]; simpa using t2), _, e, t3⟩
    · obtain ⟨k, u, e1, rfl⟩ := p
      rw [List.getElem?_map] at e
      have e2 : l[i]? = some k := by simpa using e1
      rw [e2] at e
      simp only [Option.map_some, Option.some.injEq] at e
      subst e; exact VR.mkStr
  refine wpAny_pyIter_strU ?_
  unfold strIterType
  split
  · rename_i ha
    exact fin _ (by decide) (by decide) (by decide) (Walks.strAscii hd _ _ _)
  · exact fin _ (by decide) (by decide) (by decide) (Walks.strWide hd _ _ _)

/-- a list that is hidden -/
theorem Itr.list {c : Cx} {a : Addr} {l : List AV} {σ : St} {R : List (Addr × AO)} (hd : c.A.handled = none) (hm : (a, .list l) ∈ R) : Itr c (.ref a) l σ (Hid c σ R) := by
  intro v s r hR va Q E q
  rw [VR] at va; subst va
  obtain ⟨⟨vs, n, g, hv⟩, d⟩ := hR _ hm
  have il : s.heap.IsList a vs.toArray := ⟨_, g, rfl, n, rfl⟩
  refine wpAny_pyIter_list il ?_
  have hne : a ≠ s.heap.objs.size := Nat.ne_of_lt (Heap.lt_size g)
  have hW := Walks.list (prog := c.prog) (w := c.w) (A := c.A) hd s.heap.objs.size a hne vs.toArray
  have hz : vs.toArray.size = l.length := by rw [List.size_toArray, hv.length]
  rw [hz] at hW
  refine q s.heap.objs.size _ _ _ _ s.toks hW (Heap.get?_none_of_le (Nat.le_refl _)) (fun i h st => ?_) push_keep (fun b hb => ?_) ⟨⟨_, Heap.get?_push_size _ rfl, rfl, rfl⟩, _, push_keep _ _ g, rfl, n, rfl⟩ (fun i x v' e p => hv.get' e (by simpa using p))
  · obtain ⟨⟨o, g, e, _⟩, _⟩ := st
    exact ⟨o, g, .of_cls (by rw [e]; simp) (by rw [e]; simp), _, e, by decide⟩
  · simp only [List.mem_cons, List.not_mem_nil, or_false] at hb
    rcases hb with rfl | rfl
    · exact .inl rfl
    · exact .inr ⟨(d b (by simp [foot])).1, (d b (by simp [foot])).2, _, g⟩

/-- subscripts -/
theorem Ev.sub {c : Cx} {l r : Expr} {pos : Pos} {σ : St} {Φ : AV → St → Prop} {X : XP}
    (h : Ev c l σ (fun a σ₁ => Ev c r σ₁ (fun b σ₂ => Op2 c (subscriptTail l r) a b σ₂ Φ X) X) X) : Ev c (.Subscript l r pos) σ Φ X :=
  fun _ rp _ _ _ q x => Subscript_ (two h rp q x)
theorem Op2.tupItem {c : Cx} {ve se : Expr} {l : List AV} {k : Int} {x : AV} {σ : St} {Φ : AV → St → Prop} {X : XP} (h0 : 0 ≤ k) (h1 : k < 2 ^ 62) (e : l[k.toNat]? = some x) (kk : Φ x σ)
    (hs : ∀ o i, subscripted se false o i = operate [o, i] (getItem o i) := by intros; rfl) : Op2 c (subscriptTail ve se) (.tup l) (.int k) σ Φ X := fun v w =>
  Tri.pureStep kk fun s p _ Q E q => by
    have p1 : VR s.heap (.tup l) v := p.1
    have p2 : VR s.heap (.int k) w := p.2
    rw [VR] at p1
    rw [VR] at p2
    obtain ⟨a, vs, n, rfl, g, pl⟩ := p1
    obtain ⟨u, rfl⟩ := p2
    obtain ⟨y, ey, vy⟩ := pl.get e
    refine item_tupleT (l := vs) (j := k.toNat) ⟨_, g, rfl, n, rfl⟩ (by omega) (by omega) ?_ ey (q y s.heap s.toks (fun _ _ e => e) vy) (hs _ _)
    have hl : k.toNat < vs.length := by
      have := (List.getElem?_eq_some_iff.mp ey).1; exact this
    unfold seqIndex?
    simp only [show ¬ (k < 0) from by omega, if_false]
    simp; omega

end Mine

-- AZ
namespace Mine
open PySem PySem.Calls PyProof.Rows PySem.W

theorem VRs.one {h : Heap} {x : AV} {vs : List Value} (q : VRs h [x] vs) : ∃ v, vs = [v] ∧ VR h x v := by
  rw [VRs] at q; obtain ⟨v, r, rfl, a, q⟩ := q
  rw [VRs] at q; subst q; exact ⟨v, rfl, a⟩
theorem VRs.two {h : Heap} {x y : AV} {vs : List Value} (q : VRs h [x, y] vs) : ∃ v w, vs = [v, w] ∧ VR h x v ∧ VR h y w := by
  rw [VRs] at q; obtain ⟨v, r, rfl, a, q⟩ := q
  obtain ⟨w, rfl, b⟩ := VRs.one q
  exact ⟨v, w, rfl, a, b⟩
theorem VR.int' {h : Heap} {i : Int} {v : Value} (q : VR h (.int i) v) : ∃ t, v = .int i t := by rw [VR] at q; exact q
theorem VR.str' {h : Heap} {l : List Nat} {v : Value} (q : VR h (.str l) v) : ∃ t, v = .str ⟨l.toArray⟩ t := by rw [VR] at q; exact q
theorem VR.ref' {h : Heap} {a : Addr} {v : Value} (q : VR h (.ref a) v) : v = .ref a := by rw [VR] at q; exact q
theorem VR.none' {h : Heap} {v : Value} (q : VR h .none v) : v = .none := by rw [VR] at q; exact q
theorem VR.bool' {h : Heap} {b : Bool} {v : Value} (q : VR h (.bool b) v) : v = .bool b := by rw [VR] at q; exact q

/-! functions of plain values -/
theorem Cal.len_s {c : Cx} {l : List Nat} {σ : St} {Φ : AV → St → Prop} {X : XP} (hz : l.length < 2 ^ 62) (k : Φ (.int l.length) σ) : Cal c (.builtin "len") [.str l] σ Φ X := fun vs =>
  Tri.pureStep k fun s p _ Q E q => by
    obtain ⟨v, rfl, p'⟩ := VRs.one p
    obtain ⟨t, rfl⟩ := p'.str'
    with_reducible refine P.len_str (by rw [lenS]; omega) ?_
    rw [lenS]
    exact q _ s.heap _ (fun _ _ e => e) VR.mkInt
theorem Cal.abs {c : Cx} {i : Int} {σ : St} {Φ : AV → St → Prop} {X : XP} (k : Φ (.int (if i < 0 then -i else i)) σ) : Cal c (.builtin "abs") [.int i] σ Φ X := fun vs =>
  Tri.pureStep k fun s p _ Q E q => by
    obtain ⟨v, rfl, p'⟩ := VRs.one p
    obtain ⟨t, rfl⟩ := p'.int'
    with_reducible refine call_abs_int fun u tk => ?_
    exact q _ s.heap _ (fun _ _ e => e) VR.mkInt
theorem Cal.chr {c : Cx} {i : Int} {σ : St} {Φ : AV → St → Prop} {X : XP} (h0 : 0 ≤ i) (h1 : i ≤ 1114111) (k : Φ (.str [i.toNat]) σ) : Cal c (.builtin "chr") [.int i] σ Φ X := fun vs =>
  Tri.pureStep k fun s p _ Q E q => by
    obtain ⟨v, rfl, p'⟩ := VRs.one p
    obtain ⟨t, rfl⟩ := p'.int'
    with_reducible refine chr_of_range h0 h1 ?_
    exact q _ s.heap _ (fun _ _ e => e) VR.mkStr
theorem Cal.ord {c : Cx} {i : Nat} {σ : St} {Φ : AV → St → Prop} {X : XP} (k : Φ (.int i) σ) : Cal c (.builtin "ord") [.str [i]] σ Φ X := fun vs =>
  Tri.pureStep k fun s p _ Q E q => by
    obtain ⟨v, rfl, p'⟩ := VRs.one p
    obtain ⟨t, rfl⟩ := p'.str'
    with_reducible refine P.ord_of_char ?_
    exact q _ s.heap _ (fun _ _ e => e) VR.mkInt
theorem Cal.range1 {c : Cx} {n : Int} {σ : St} {Φ : AV → St → Prop} {X : XP} (k : Φ (.rng 0 n 1) σ) : Cal c (.type "range") [.int n] σ Φ X := fun vs =>
  Tri.pureStep k fun s p _ Q E q => by
    obtain ⟨v, rfl, p'⟩ := VRs.one p
    obtain ⟨t, rfl⟩ := p'.int'
    with_reducible refine call_range_1 ?_
    refine q _ _ _ push_keep ?_
    rw [VR]; exact ⟨_, _, _, _, rfl, Heap.get?_push_size _ rfl⟩
theorem Cal.range2 {c : Cx} {a n : Int} {σ : St} {Φ : AV → St → Prop} {X : XP} (k : Φ (.rng a n 1) σ) : Cal c (.type "range") [.int a, .int n] σ Φ X := fun vs =>
  Tri.pureStep k fun s p _ Q E q => by
    obtain ⟨v, w, rfl, p1, p2⟩ := VRs.two p
    obtain ⟨t, rfl⟩ := p1.int'
    obtain ⟨t, rfl⟩ := p2.int'
    with_reducible refine call_range_2 ?_
    refine q _ _ _ push_keep ?_
    rw [VR]; exact ⟨_, _, _, _, rfl, Heap.get?_push_size _ rfl⟩

/-! truth -/
theorem Cx.own_list {c : Cx} {σ : St} {h : Heap} (r : Rep c σ h) {i : Nat} {a : Addr} {l : List AV} (e : σ.own[i]? = some (a, .list l)) : ∃ vs n, h.get? a = some (listObj vs n) ∧ VRs h l vs := r.own _ (List.mem_of_getElem? e)

theorem Tru.list {c : Cx} {a : Addr} {l : List AV} {σ : St} {Φ : Bool → St → Prop} {X : XP} (i : Nat) (e : σ.own[i]? = some (a, .list l)) (hz : l.length < 2 ^ 62) (k : Φ (!l.isEmpty) σ) : Tru c (.ref a) σ Φ X := fun v =>
  Tri.pureStep k fun s p r _ _ q => by
    cases VR.ref' p
    obtain ⟨vs, n, g, hv⟩ := Cx.own_list r.toRep e
    have il : s.heap.IsList a vs.toArray := ⟨_, g, rfl, n, rfl⟩
    with_reducible refine wpAny_truthy_list (items := vs.toArray) il (by rw [List.size_toArray, hv.length]; omega) ?_
    refine q _ s.heap _ (fun _ _ e => e) ?_
    have := hv.length
    cases l with
    | nil => rw [VRs] at hv; subst hv; rfl
    | cons x l => rw [VRs] at hv; obtain ⟨v, r, rfl, _⟩ := hv; rfl
theorem Cal.len_l {c : Cx} {a : Addr} {l : List AV} {σ : St} {Φ : AV → St → Prop} {X : XP} (i : Nat) (e : σ.own[i]? = some (a, .list l)) (hz : l.length < 2 ^ 62) (k : Φ (.int l.length) σ) : Cal c (.builtin "len") [.ref a] σ Φ X := fun vs =>
  Tri.pureStep k fun s p r Q E q => by
    obtain ⟨v, rfl, p'⟩ := VRs.one p
    cases p'.ref'
    obtain ⟨vs, n, g, hv⟩ := Cx.own_list r.toRep e
    have il : s.heap.IsList a vs.toArray := ⟨_, g, rfl, n, rfl⟩
    with_reducible refine len_list (items := vs.toArray) il (by rw [List.size_toArray, hv.length]; omega) ?_
    refine q _ s.heap _ (fun _ _ e => e) ?_
    rw [List.size_toArray, hv.length]
    exact VR.mkInt

/-! «is» -/
def AV.notBi : AV → Bool
  | .bi _ => false
  | _ => true
/-! methods -/
def HasT (T : String) (a : AV) (c : Cx) (σ : St) : Prop := ∀ s v, RepS c σ s → VR s.heap a v → s.TypeIs v T ∧ ∀ x, v = .ref x → ∃ ob, s.heap.get? x = some ob ∧ ob.dict = .none
theorem HasT.str {l : List Nat} {c : Cx} {σ : St} : HasT "str" (.str l) c σ := fun s v _ q => by
  obtain ⟨t, rfl⟩ := q.str'
  exact ⟨typeIs_str s _ t, fun _ e => nomatch e⟩
theorem HasT.list {a : Addr} {l : List AV} {c : Cx} {σ : St} (i : Nat) (e : σ.own[i]? = some (a, .list l)) : HasT "list" (.ref a) c σ := fun s v r q => by
  cases q.ref'
  obtain ⟨vs, n, g, hv⟩ := Cx.own_list r.toRep e
  exact ⟨⟨_, g, rfl⟩, fun x ex => by cases ex; exact ⟨_, g, rfl⟩⟩

theorem Ev.meth {c : Cx} {T id : String} {o : Expr} {name : Str} {apos pos : Pos} {es : List Expr} {σ : St} {Φ : AV → St → Prop} {X : XP}
    (pa : PlainAttrs T) (slot : Slot T name id) (hty : typeOf (.builtin id) = pure (.type "method_descriptor"))
    (h : Ev c o σ (fun a σ₁ => HasT T a c σ₁ ∧ Arg c pos es σ₁ (fun l σ₂ => Cal c (.builtin id) (a :: l) σ₂ Φ X) X) X)
    (hbase : attributeBase o name c.env (eval o c.env) = eval o c.env := by rfl)
    (hfew : ((backTo pos (starEach es c.env)).all (fun x => !x.1) && (backToKw pos (keywordEach [] c.env)).all (fun x => x.1.isSome)
      && decide (es.length + ([] : List Keyword).length + (if ([] : List Keyword).isEmpty then 0 else 1) < 30)) = true := by rfl)
    (hline : (apos.endLine == pos.line) = true := by rfl) (hs : (backTo pos (starEach es c.env)).any (·.1) = false := by rfl) :
    Ev c (.Call (.Attribute o name apos) es [] pos) σ Φ X := by
  intro s r _ Q E q x
  refine wpAny_Call_method hbase hfew hline pa slot hty (h s r trivial _ _ (fun v a σ₁ s₁ r₁ f₁ va h₁ => ?_) x)
  obtain ⟨hT, h₁⟩ := h₁
  refine ⟨(hT s₁ v r₁ va).1, (hT s₁ v r₁ va).2, ?_⟩
  refine call_bi (fa := [a]) (first := [v]) ?_ hs s₁ r₁ (VRs.cons va VRs.nil) Q E (q.go f₁) (x.go f₁)
  exact h₁.mono fun l σ₂ h₂ vs s₂ r₂ p Q E q x => h₂ (v :: vs) s₂ r₂ (by
    obtain ⟨w, hw, va⟩ := p.1.one
    cases hw
    exact VRs.cons va p.2) Q E q x

theorem updList {h : Heap} {a : Addr} {vs : List Value} {n : Nat} (f : Array Value → Array Value) (g : h.get? a = some (listObj vs n)) :
    (∃ n', (h.update a (Obj.mapSeq f)).get? a = some (listObj (f vs.toArray).toList n')) ∧ Sp [] [a] h (h.update a (Obj.mapSeq f)) := by
  obtain ⟨n', hd'⟩ := Obj.data_mapSeq (o := listObj vs n) rfl f
  refine ⟨⟨n', ?_⟩, sameSp (Heap.SameBut.update ..)⟩
  rw [Heap.get?_update_self _ g (Obj.isFreed_of_seq hd')]
  have : Obj.mapSeq f (listObj vs n) = listObj (f vs.toArray).toList n' := by
    cases hd'; rfl
  rw [this]

theorem Cal.append {c : Cx} {a : Addr} {l : List AV} {x : AV} {σ : St} {Φ : AV → St → Prop} {X : XP} (i : Nat) (e : σ.own[i]? = some (a, .list l)) (hz : l.length ≤ 16777216) (k : Φ .none ⟨σ.loc, σ.own.set i (a, .list (l ++ [x]))⟩) :
    Cal c (.builtin "list.append") [.ref a, x] σ Φ X := fun vs =>
  Tri.updStep (ao' := .list (l ++ [x])) (x := AV.none) e rfl k fun s p r o Q E q => by
    obtain ⟨v, w, rfl, p1, p2⟩ := VRs.two p
    cases p1.ref'
    obtain ⟨vs, n, g, hv⟩ := o
    have hz' : vs.toArray.size ≤ sizeLine := by rw [List.size_toArray, hv.length, sizeLine_eq]; exact hz
    refine call_meets F.slot_list_append ⟨_, g, rfl⟩ F.entry_list_append (F.args_list_append_2 _ _) (PySem.list_append a vs.toArray n w hz') ⟨g, ?_⟩
    obtain ⟨⟨n', g'⟩, sp⟩ := updList (fun xs => xs.push w) g
    have nt : NoTup s.heap [a] := fun b hb o e => by rw [List.mem_singleton.mp hb, g] at e; cases e; exact .of_cls (by simp) (by simp)
    refine q .none _ s.toks sp ⟨_, n', g', ?_⟩ VR.mkNone
    rw [Array.toList_push]
    exact (hv.mono sp nt NoTup.nil).append (VRs.cons (p2.mono sp nt NoTup.nil) VRs.nil)
end Mine

-- BA
namespace Mine
open PySem PySem.Calls PyProof.Rows PySem.W

/-! statements of one expression -/
theorem Ex.expr {c : Cx} {e : Expr} {pos : Pos} {σ : St} {Φ : Fl → St → Prop} {X : XP} (h : Ev c e σ (fun _ σ₁ => Φ .next σ₁) X)
    (hi : interactive c.env = false := by rfl) (hs : swapsWith e none pos.line c.env = pure false := by rfl) : Ex c (.Expr e pos) σ Φ X :=
  fun s r _ Q E q x => wpAny_Expr_any (h s r trivial _ _ (fun v av σ₁ s₁ r₁ f₁ va h₁ => q _ .next σ₁ s₁ r₁ f₁ rfl h₁) x) hi hs
theorem Op1.neg {c : Cx} {a : Int} {σ : St} {Φ : AV → St → Prop} {X : XP} (k : Φ (.int (-a)) σ) : Op1 c (unaryOp .USub) (.int a) σ Φ X := fun v =>
  Tri.pureStep k fun s p _ Q E q => by
    obtain ⟨t, rfl⟩ := VR.int' p
    with_reducible refine neg_int ?_
    exact q _ s.heap _ (fun _ _ e => e) VR.mkInt

/-! owned objects packed anew -/
theorem Rep.repack {c : Cx} {loc : List (String × AV)} {own own' : List (Addr × AO)} {h : Heap} (r : Rep c ⟨loc, own⟩ h) (ho : ∀ p ∈ own', OR h p.1 p.2) (hp : (feet own').Perm (feet own)) : Rep c ⟨loc, own'⟩ h := by
  refine ⟨r.ns, r.lin, r.cel, r.inj, ho, ?_, fun a ha => r.nk a ?_, r.frc, r.kb, r.kn, r.kh, r.ff⟩
  · exact ((List.Perm.refl c.fr).append ((List.Perm.refl c.fx).append hp)).nodup_iff.mpr r.nd
  · exact ((List.Perm.refl c.fr).append ((List.Perm.refl c.fx).append hp)).mem_iff.mp ha
theorem Aft.repack {c : Cx} {σ : St} {loc : List (String × AV)} {own own' : List (Addr × AO)} {s s' : Shared} (f : Aft c σ s ⟨loc, own⟩ s') (hp : (feet own').Perm (feet own)) : Aft c σ s ⟨loc, own'⟩ s' :=
  ⟨f.rest, f.sp, f.al, fun a ha => f.fs a (hp.mem_iff.mp ha)⟩

/-- a new object, however it came -/
theorem Rep.fresh {c : Cx} {σ : St} {h h' : Heap} {a : Addr} {ao : AO} (r : Rep c σ h) (k : ∀ b o, h.get? b = some o → h'.get? b = some o) (hn : h.get? a = none) (ho : OR h' a ao) (hf : foot a ao = [a]) : Rep c ⟨σ.loc, (a, ao) :: σ.own⟩ h' := by
  have r' := r.keep k
  have no : ∀ b ∈ c.fr ++ (c.fx ++ feet σ.own), b ≠ a := fun b ha z => by
    have : ∃ o, h.get? b = some o := by
      rcases List.mem_append.mp ha with w | w
      · obtain ⟨o, e, _⟩ := r.frc b w; exact ⟨o, e⟩
      · rcases List.mem_append.mp w with w | w
        · obtain ⟨o, e, _⟩ := r.kh b (List.mem_append_right _ w); exact ⟨o, e⟩
        · exact r.here b (List.mem_append_right _ w)
    obtain ⟨o, e⟩ := this
    rw [z, hn] at e; cases e
  have hp : (c.fr ++ (c.fx ++ feet ((a, ao) :: σ.own))).Perm (a :: (c.fr ++ (c.fx ++ feet σ.own))) := by
    rw [feet_cons, hf]
    have e1 : c.fr ++ (c.fx ++ ([a] ++ feet σ.own)) = (c.fr ++ c.fx) ++ a :: feet σ.own := by simp
    have e2 : a :: (c.fr ++ (c.fx ++ feet σ.own)) = a :: ((c.fr ++ c.fx) ++ feet σ.own) := by simp
    rw [e1, e2]; exact List.perm_middle
  refine ⟨r'.ns, r'.lin, r'.cel, r'.inj, fun p hp => ?_, ?_, fun b hb => ?_, r'.frc, r'.kb, r'.kn, r'.kh, r'.ff⟩
  · rcases List.mem_cons.mp hp with rfl | hp
    · exact ho
    · exact r'.own p hp
  · exact hp.nodup_iff.mpr (List.nodup_cons.mpr ⟨fun z => no a z rfl, r.nd⟩)
  · rcases List.mem_cons.mp (hp.mem_iff.mp hb) with rfl | z
    · refine ⟨fun kk => ?_, ?_⟩
      · obtain ⟨o, e, _⟩ := r.kh _ (List.mem_append_left _ kk); rw [hn] at e; cases e
      · cases e : c.b0.get? b with
        | none => rfl
        | some o => have := r.kb _ o e; rw [hn] at this; cases this
    · exact r.nk b z
theorem Aft.fresh {c : Cx} {σ : St} {s : Shared} {h' : Heap} {a : Addr} {ao : AO} {tk : Nat} (k : ∀ b o, s.heap.get? b = some o → h'.get? b = some o) (hn : s.heap.get? a = none) (hf : foot a ao = [a]) : Aft c σ s ⟨σ.loc, (a, ao) :: σ.own⟩ { s with heap := h', toks := tk } := by
  refine ⟨rfl, Sp.of_keep fun a o' _ e => k a o' e, fun a o' _ e => ⟨o', k a o' e⟩, fun b ha => ?_⟩
  rw [feet_cons, hf] at ha
  rcases List.mem_append.mp ha with z | z
  · right; rw [List.mem_singleton.mp z]; exact hn
  · exact .inl z

/-! lists -/
theorem NT1 {h : Heap} {a : Addr} {o : Obj} (g : h.get? a = some o) (n : NT o) : NoTup h [a] := fun b hb o' e => by rw [List.mem_singleton.mp hb, g] at e; cases e; exact n
theorem NTl {vs : List Value} {n : Nat} : NT (listObj vs n) := .of_cls (by simp) (by simp)

theorem Cal.pop0 {c : Cx} {a : Addr} {l : List AV} {x : AV} {σ : St} {Φ : AV → St → Prop} {X : XP} (i : Nat) (e : σ.own[i]? = some (a, .list (x :: l))) (hz : l.length < 16777216) (k : Φ x ⟨σ.loc, σ.own.set i (a, .list l)⟩) :
    Cal c (.builtin "list.pop") [.ref a, .int 0] σ Φ X := fun vs =>
  Tri.updStep (ao' := .list l) (x := x) e rfl k fun s p r o Q E q => by
    obtain ⟨v, w, rfl, p1, p2⟩ := VRs.two p
    cases p1.ref'
    obtain ⟨t, rfl⟩ := p2.int'
    obtain ⟨vs, n, g, hv⟩ := o
    rw [VRs] at hv
    obtain ⟨v, vs, rfl, hx, hv⟩ := hv
    have hz' : (v :: vs).toArray.size ≤ sizeLine := by rw [List.size_toArray, List.length_cons, hv.length, sizeLine_eq]; omega
    refine call_meets F.slot_list_pop ⟨_, g, rfl⟩ F.entry_list_pop (F.args_list_pop_2 _ _) (PySem.MeetsSeq.list_pop_at a (v :: vs).toArray n 0 t 0 v (by decide) (by unfold seqIndex?; simp) (by simp) hz') ⟨g, ?_⟩
    obtain ⟨⟨n', g'⟩, sp⟩ := updList (fun xs => xs.eraseIdxIfInBounds 0) g
    have nt := NT1 g NTl
    refine q v _ s.toks sp ⟨_, n', g', ?_⟩ (hx.mono sp nt NoTup.nil)
    have : ((v :: vs).toArray.eraseIdxIfInBounds 0).toList = vs := by simp
    rw [this]
    exact hv.mono sp nt NoTup.nil

theorem Op2.addL {c : Cx} {a b : Addr} {l m : List AV} {σ : St} {Φ : AV → St → Prop} {X : XP} (i j : Nat) (e : σ.own[i]? = some (a, .list l)) (e' : σ.own[j]? = some (b, .list m)) (hz : l.length + m.length ≤ 16777216)
    (k : ∀ d, Φ (.ref d) ⟨σ.loc, (d, .list (l ++ m)) :: σ.own⟩) : Op2 c (binaryOp .Add) (.ref a) (.ref b) σ Φ X := fun v w =>
  Tri.newList (α := Unit) k fun s p r Q E q => by
    obtain ⟨p1, p2⟩ := p
    cases VR.ref' p1
    cases VR.ref' p2
    obtain ⟨vs, n, g, hv⟩ := Cx.own_list r.toRep e
    obtain ⟨ws, n', g', hw⟩ := Cx.own_list r.toRep e'
    refine P.add_list (items := vs.toArray) (items2 := ws.toArray) g g' ?_ (by rw [List.size_toArray, List.size_toArray, hv.length, hw.length, sizeLine_eq]; exact hz)
    have := q (vs ++ ws) 0 s.toks (hv.append hw)
    simpa using this

/-- the signs of a str -/
theorem VRs.ofSigns {h : Heap} {l : List Nat} : ∀ {vs : List Value}, (vs.length = l.length) → (∀ j v, vs[j]? = some v → SignAt ⟨l.toArray⟩ j v) → VRs h (l.map fun k => .str [k]) vs := by
  induction l with
  | nil => intro vs e _; rw [List.map_nil, VRs]; exact List.eq_nil_of_length_eq_zero e
  | cons k l ih =>
    intro vs e q
    cases vs with
    | nil => cases e
    | cons v vs =>
      rw [List.map_cons]
      refine VRs.cons ?_ (ih (by simpa using e) fun j w ew => ?_)
      · obtain ⟨c, u, e1, rfl⟩ := q 0 v rfl
        have : c = k := by simpa using e1.symm
        subst this; exact VR.mkStr
      · obtain ⟨c, u, e1, rfl⟩ := q (j + 1) w (by simpa using ew)
        exact ⟨c, u, by simpa using e1, rfl⟩

theorem Cal.list_s {c : Cx} {l : List Nat} {σ : St} {Φ : AV → St → Prop} {X : XP} (hd : c.A.handled = none) (hz : l.length ≤ 16777216) (k : ∀ d, Φ (.ref d) ⟨σ.loc, (d, .list (l.map fun k => .str [k])) :: σ.own⟩) : Cal c (.type "list") [.str l] σ Φ X := fun vs =>
  Tri.ofH fun s r p Q E q _ => by
    obtain ⟨v, rfl, p1⟩ := VRs.one p
    obtain ⟨t, rfl⟩ := p1.str'
    refine call_list_str hd ⟨l.toArray⟩ t (fun h' tk acc n hk hS hi => ?_) (by simpa [sizeLine_eq] using hz)
    have hn : s.heap.get? s.heap.objs.size = none := Heap.get?_none_of_le (Nat.le_refl _)
    have hv : VRs h' (l.map fun k => .str [k]) acc.toList := VRs.ofSigns (by have := hi.1; simpa using this) fun j v e => hi.2 j v (by simpa using e)
    have ho : OR h' s.heap.objs.size (.list (l.map fun k => .str [k])) := ⟨acc.toList, n, hS, hv⟩
    -- a new object, as if pushed
    refine q (.ref _) (.ref s.heap.objs.size) ⟨σ.loc, (s.heap.objs.size, .list (l.map fun k => .str [k])) :: σ.own⟩ _ ?_ ?_ VR.mkRef (k _)
    · exact r.toRep.fresh hk hn ho rfl
    · exact Aft.fresh hk hn rfl

end Mine

-- BB
namespace Mine
open PySem PySem.Calls PyProof.Rows PySem.W

/-! slices -/
def VP (_ : Heap) (x : Option Int) (v : Value) : Prop := match x with | none => v = .none | some i => ∃ t, v = .int i t
abbrev Part (c : Cx) (e : Option Expr) (σ : St) (Φ : Option Int → St → Prop) (X : XP) : Prop := Tri c T0 (evalPart e c.env) VP σ Φ X
theorem Part.none {c : Cx} {σ : St} {Φ : Option Int → St → Prop} {X : XP} (k : Φ .none σ) : Part c .none σ Φ X := fun s r _ Q E q _ => wpAny_pure (q Value.none Option.none σ s r .refl (show VP s.heap Option.none Value.none from rfl) k)
theorem Part.some {c : Cx} {e : Expr} {σ : St} {Φ : Option Int → St → Prop} {X : XP} (h : Ev c e σ (fun a σ₁ => ∃ i, a = .int i ∧ Φ (.some i) σ₁) X) : Part c (.some e) σ Φ X := fun s r p Q E q x => by
  refine h s r p _ _ (fun v a σ₁ s₁ r₁ f₁ va h₁ => ?_) x
  obtain ⟨i, rfl, h₁⟩ := h₁
  exact q _ (.some i) σ₁ s₁ r₁ f₁ va.int' h₁

def cut {α : Type} (lo hi : Option Int) (l : List α) : List α := match hi with
  | none => (match lo with | none => l | some i => l.drop i.toNat)
  | some j => (match lo with | none => l.take j.toNat | some i => (l.take j.toNat).drop i.toNat)
def okPart : Option Int → Prop
  | none => True
  | some i => 0 ≤ i

theorem VP.isPart {h : Heap} {x : Option Int} {v : Value} (q : VP h x v) : IsPart v x := by
  cases x with
  | none => cases q; exact .none
  | some i => obtain ⟨t, rfl⟩ := q; exact .int i t

theorem take_min {α : Type} (l : List α) (n : Nat) : l.take (min n l.length) = l.take n := by
  by_cases h : n ≤ l.length
  · rw [Nat.min_eq_left h]
  · rw [Nat.min_eq_right (by omega), List.take_of_length_le (Nat.le_refl _), List.take_of_length_le (by omega)]
theorem drop_min {α : Type} (l : List α) (n : Nat) : l.drop (min n l.length) = l.drop n := by
  by_cases h : n ≤ l.length
  · rw [Nat.min_eq_left h]
  · rw [Nat.min_eq_right (by omega), List.drop_of_length_le (Nat.le_refl _), List.drop_of_length_le (by omega)]
theorem pick_cut {α : Type} (l : List α) {lo hi : Option Int} (h0 : okPart lo) (h1 : okPart hi) : (l.drop (kms_lo lo l.length)).take (kms_hi hi l.length - kms_lo lo l.length) = cut lo hi l := by
  have key : ∀ a b, a ≤ l.length → b ≤ l.length → (l.drop a).take (b - a) = (l.take b).drop a := fun a b _ _ => by
    rw [List.take_drop]
    by_cases h : a ≤ b
    · rw [show a + (b - a) = b by omega]
    · rw [show a + (b - a) = a by omega, List.drop_of_length_le (by rw [List.length_take]; omega), List.drop_of_length_le (by rw [List.length_take]; omega)]
  cases lo with
  | none =>
    cases hi with
    | none => simp [kms_lo, kms_hi, cut]
    | some j =>
      have hj : ¬ j < 0 := Int.not_lt.mpr h1
      simp only [kms_lo, kms_hi, cut, if_neg hj, List.drop_zero, Nat.sub_zero]
      exact take_min _ _
  | some i =>
    have hi0 : ¬ i < 0 := Int.not_lt.mpr h0
    cases hi with
    | none =>
      simp only [kms_lo, kms_hi, cut, if_neg hi0]
      rw [key _ _ (Nat.min_le_right _ _) (Nat.le_refl _), List.take_of_length_le (Nat.le_refl _), drop_min]
    | some j =>
      have hj : ¬ j < 0 := Int.not_lt.mpr h1
      simp only [kms_lo, kms_hi, cut, if_neg hi0, if_neg hj]
      rw [key _ _ (Nat.min_le_right _ _) (Nat.min_le_right _ _), take_min]
      by_cases h : i.toNat ≤ l.length
      · rw [Nat.min_eq_left h]
      · rw [Nat.min_eq_right (by omega), List.drop_of_length_le (by rw [List.length_take]; omega), List.drop_of_length_le (by rw [List.length_take]; omega)]

theorem cutVR {h : Heap} {l : List AV} {vs : List Value} {lo hi : Option Int} (q : VRs h l vs) : VRs h (cut lo hi l) (cut lo hi vs) := by
  cases lo <;> cases hi
  · exact q
  · exact q.take _
  · exact q.drop _
  · exact (q.take _).drop _

/-- a list cut -/
theorem Ev.lslice {c : Cx} {value : Expr} {lower upper : Option Expr} {p pos : Pos} {σ : St} {Φ : AV → St → Prop} {X : XP}
    (h : Ev c value σ (fun a σ₁ => Part c lower σ₁ (fun lo σ₂ => Part c upper σ₂ (fun hi σ₃ => okPart lo ∧ okPart hi ∧ ∃ (i : Nat) (d : Addr) (l : List AV), a = .ref d ∧ σ₃.own[i]? = some (d, AO.list l) ∧ l.length ≤ 16777216 ∧
      ∀ d', Φ (.ref d') ⟨σ₃.loc, (d', .list (cut lo hi l)) :: σ₃.own⟩) X) X) X) (ht : ∀ o r, letTemporaryGo value o r = pure () := by intro _ _; rfl) :
    Ev c (.Subscript value (.Slice lower upper .none p) pos) σ Φ X := by
  refine Tri.ofH fun s r _ Q E q x => ?_
  refine wpAny_Subscript_list_slice (h s r trivial _ _ (fun v a σ₁ s₁ r₁ f₁ va h₁ => ?_) x) ht
  refine h₁ s₁ r₁ trivial _ _ (fun vl lo σ₂ s₂ r₂ f₂ pl h₂ => ?_) (x.go f₁)
  refine h₂ s₂ r₂ trivial _ _ (fun vu hi σ₃ s₃ r₃ f₃ pu h₃ => ?_) ((x.go f₁).go f₂)
  obtain ⟨o1, o2, i, d, l, rfl, e, hz, h₃⟩ := h₃
  obtain ⟨vs, n, g, hv⟩ := Cx.own_list r₃.toRep e
  cases va.ref'
  refine ⟨d, vs.toArray, lo, hi, rfl, ⟨_, g, rfl, n, rfl⟩, by rw [List.size_toArray, hv.length, sizeLine_eq]; exact hz, pl.isPart, pu.isPart, ?_⟩
  have ep : slicePick vs.toArray lo hi Option.none = (cut lo hi vs).toArray := by
    rw [kms_pick_eq]
    exact congrArg _ (pick_cut vs o1 o2)
  rw [ep]
  have k2 : ∀ b o, s₃.heap.get? b = some o → ((s₃.heap.push { cls := .type "slice", data := .fields #[vl, vu, .none] }).push { cls := .type "list", data := .seq (cut lo hi vs).toArray }).get? b = some o :=
    fun b o e => push_keep _ _ (push_keep _ _ e)
  have hn : s₃.heap.get? (s₃.heap.objs.size + 1) = Option.none := Heap.get?_none_of_le (Nat.le_succ _)
  have hN : ((s₃.heap.push { cls := .type "slice", data := .fields #[vl, vu, .none] }).push { cls := .type "list", data := .seq (cut lo hi vs).toArray }).get? (s₃.heap.objs.size + 1) = some (listObj (cut lo hi vs) 0) := by
    have e : (s₃.heap.push { cls := .type "slice", data := .fields #[vl, vu, .none] }).objs.size = s₃.heap.objs.size + 1 := Heap.size_push ..
    rw [← e]; exact Heap.get?_push_size _ rfl
  have ho : OR ((s₃.heap.push { cls := .type "slice", data := .fields #[vl, vu, .none] }).push { cls := .type "list", data := .seq (cut lo hi vs).toArray }) (s₃.heap.objs.size + 1) (.list (cut lo hi l)) :=
    ⟨_, 0, hN, (cutVR hv).mono (K := []) (F := []) (Sp.of_keep fun b o _ e => k2 b o e) NoTup.nil NoTup.nil⟩
  exact q _ (.ref _) _ _ (r₃.toRep.fresh k2 hn ho rfl) (((f₁.trans f₂).trans f₃).trans (Aft.fresh (tk := s₃.toks) k2 hn rfl)) VR.mkRef (h₃ _)

theorem strIx {n : Nat} {lo hi : Option Int} (h0 : okPart lo) (h1 : okPart hi) : Builtin.Str.strSliceIndices lo hi 1 n = sliceRange ((kms_lo lo n : Nat) : Int) ((kms_hi hi n : Nat) : Int) 1 := by
  unfold Builtin.Str.strSliceIndices
  simp only [show ((1 : Int) > 0) = True from by simp, if_true]
  congr 1
  · cases lo with
    | none => rfl
    | some i =>
      have : 0 ≤ i := h0
      simp only [kms_lo, if_neg (show ¬ i < 0 from Int.not_lt.mpr h0)]
      omega
  · cases hi with
    | none => rfl
    | some j =>
      have : 0 ≤ j := h1
      simp only [kms_hi, if_neg (show ¬ j < 0 from Int.not_lt.mpr h1)]
      omega
theorem strCut (l : List Nat) {lo hi : Option Int} (h0 : okPart lo) (h1 : okPart hi) : (Builtin.Str.strSliceIndices lo hi 1 l.length).filterMap (l[·]?) = cut lo hi l := by
  rw [strIx h0 h1, sliceRange_one]
  have := pick_run l.toArray (kms_lo lo l.length) (kms_hi hi l.length - kms_lo lo l.length)
  simp only [List.getElem?_toArray] at this
  rw [this]
  exact pick_cut l h0 h1

theorem VP.part {h : Heap} {x : Option Int} {v : Value} (q : VP h x v) : ∃ y : Option (Int × Tok), v = partValue y ∧ y.map (·.1) = x := by
  cases x with
  | none => cases q; exact ⟨none, rfl, rfl⟩
  | some i => obtain ⟨t, rfl⟩ := q; exact ⟨some (i, t), rfl, rfl⟩

/-- a str cut, whatever the base is written as -/
theorem subStrSlice {prog : Program} {w : World} {A : Around} {E : Value → Shared → Prop} {s : Shared} {env : Env} {value : Expr} {lower upper : Option Expr} {p pos : Pos} {Q : Value → Shared → Prop}
    (h : wpAny (model prog w) A (eval value env) (fun o s₁ => wpAny (model prog w) A (evalPart lower env) (fun vl s₂ => wpAny (model prog w) A (evalPart upper env) (fun vu s₃ =>
      ∃ x t l u, o = .str x t ∧ vl = partValue l ∧ vu = partValue u ∧
        (sliceMade x t l u none).post Q { s₃ with heap := s₃.heap.push { cls := .type "slice", data := .fields #[vl, vu, .none] } }) E s₂) E s₁) E s) :
    wpAny (model prog w) A (eval (.Subscript value (.Slice lower upper none p) pos) env) Q E s := by
  rw [eval_Subscript]
  refine wpAny_bind (wpAny_mono h (fun o s₁ h₁ => wpAny_bind (wpAny_holding (wpAny_Slice (wpAny_mono h₁ (fun vl s₂ h₂ => wpAny_mono h₂ (fun vu s₃ h₃ => ?_) fun _ _ e => e) fun _ _ e => e)))) fun _ _ e => e)
  obtain ⟨x, t, l, u, rfl, rfl, rfl, hQ⟩ := h₃
  rw [evalPart_none]
  refine wpAny_pure (wpAny_bind (wpAny_standAt ?_))
  have ht := typeIs_str { s₃ with heap := s₃.heap.push { cls := .type "slice", data := .fields #[partValue l, partValue u, .none] } } x t
  have fin : ∀ i, wpAny (model prog w) A (getItem (.str x t) i) Q E { s₃ with heap := s₃.heap.push { cls := .type "slice", data := .fields #[partValue l, partValue u, .none] } } → wpAny (model prog w) A (operate [i, .str x t] (getItem (.str x t) i)) (fun r s₄ => wpAny (model prog w) A (letTemporaryGo value (.str x t) r >>= fun _ => pure r) Q E s₄) E { s₃ with heap := s₃.heap.push { cls := .type "slice", data := .fields #[partValue l, partValue u, .none] } } :=
    fun i hi => wpAny_operating (wpAny_mono hi (fun r s₄ h₄ => wpAny_bind (wpAny_letTemporaryGo (wpAny_pure h₄))) fun _ _ e => e)
  have fin := fin _ (wpAny_getItem_str_slice (l := l) (u := u) (st := none) ⟨_, Heap.get?_push_size s₃.heap rfl, rfl, rfl⟩ rfl hQ)
  first
    | (refine wpAny_bind ?_
       rw [getitemInPython_of_ne ht.not_modules]
       refine wpAny_bind (wpAny_specialOf ht F.slot_str_getitem.lookup ?_)
       first
         | exact wpAny_pure (wpAny_bind fin)
         | exact wpAny_bind (wpAny_pure (wpAny_bind fin))
         | exact wpAny_bind fin)
    | (refine wpAny_bind (wpAny_specialOf ht F.slot_str_getitem.lookup ?_)
       first
         | exact wpAny_bind (wpAny_pure (wpAny_bind fin))
         | exact wpAny_bind fin)

theorem Ev.sslice {c : Cx} {value : Expr} {lower upper : Option Expr} {p pos : Pos} {σ : St} {Φ : AV → St → Prop} {X : XP}
    (h : Ev c value σ (fun a σ₁ => Part c lower σ₁ (fun lo σ₂ => Part c upper σ₂ (fun hi σ₃ => okPart lo ∧ okPart hi ∧ ∃ l : List Nat, a = .str l ∧ l.length ≤ 16777216 ∧ Φ (.str (cut lo hi l)) σ₃) X) X) X) :
    Ev c (.Subscript value (.Slice lower upper .none p) pos) σ Φ X := by
  refine Tri.ofH fun s r _ Q E q x => ?_
  refine subStrSlice (h s r trivial _ _ (fun v a σ₁ s₁ r₁ f₁ va h₁ => ?_) x)
  refine h₁ s₁ r₁ trivial _ _ (fun vl lo σ₂ s₂ r₂ f₂ pl h₂ => ?_) (x.go f₁)
  refine h₂ s₂ r₂ trivial _ _ (fun vu hi σ₃ s₃ r₃ f₃ pu h₃ => ?_) ((x.go f₁).go f₂)
  obtain ⟨o1, o2, l, rfl, hz, h₃⟩ := h₃
  obtain ⟨t, rfl⟩ := va.str'
  obtain ⟨yl, rfl, rfl⟩ := pl.part
  obtain ⟨yu, rfl, rfl⟩ := pu.part
  refine ⟨⟨l.toArray⟩, t, yl, yu, rfl, rfl, rfl, ?_⟩
  have ec : (slicePicked ⟨l.toArray⟩ yl yu Option.none).filterMap ((⟨l.toArray⟩ : Str).cps[·]?) = cut (yl.map (·.1)) (yu.map (·.1)) l := by
    have := strCut l o1 o2
    unfold slicePicked
    rw [lenS]
    simpa using this
  have fin : ∀ tk tk', Q (.str ⟨(cut (yl.map (·.1)) (yu.map (·.1)) l).toArray⟩ tk) { s₃ with heap := s₃.heap.push { cls := .type "slice", data := .fields #[partValue yl, partValue yu, .none] }, toks := tk' } := fun tk tk' =>
    q _ (.str _) σ₃ _ (r₃.keep push_keep) (((f₁.trans f₂).trans f₃).trans (Aft.keep (tk := tk') push_keep)) VR.mkStr h₃
  unfold sliceMade
  split
  · rename_i hw
    have hlen : (slicePicked ⟨l.toArray⟩ yl yu Option.none).length = l.length := by
      have := Bool.and_eq_true_iff.mp hw
      simpa [lenS] using this.2
    have hcut : cut (yl.map (·.1)) (yu.map (·.1)) l = l := by
      have hle : (slicePicked ⟨l.toArray⟩ yl yu Option.none).length = (kms_hi (yu.map (·.1)) l.length - kms_lo (yl.map (·.1)) l.length) := by
        have e : slicePicked ⟨l.toArray⟩ yl yu Option.none = sliceRange ((kms_lo (yl.map (·.1)) l.length : Nat) : Int) ((kms_hi (yu.map (·.1)) l.length : Nat) : Int) 1 := strIx o1 o2
        rw [e, sliceRange_one, List.length_map, List.length_range]
      rw [hlen] at hle
      have h2 : kms_hi (yu.map (·.1)) l.length ≤ l.length := by
        cases yu with
        | none => exact Nat.le_refl _
        | some z => show (if z.1 < 0 then _ else _) ≤ _; split <;> omega
      by_cases hl : l.length = 0
      · have : l = [] := List.eq_nil_of_length_eq_zero hl
        subst this
        unfold cut; cases yl <;> cases yu <;> simp
      · rw [← pick_cut l o1 o2, ← hle, show kms_lo (yl.map (·.1)) l.length = 0 by omega, List.drop_zero, List.take_of_length_le (Nat.le_refl _)]
    have := fin t s₃.toks
    rw [hcut] at this
    exact this
  · rw [ec]
    refine ⟨?_, fin _ _⟩
    show _ ≤ sizeLine
    rw [lenS, sizeLine_eq]
    have : (cut (yl.map (·.1)) (yu.map (·.1)) l).length ≤ l.length := by
      unfold cut; split <;> split <;> simp <;> omega
    omega
end Mine

-- BC
namespace Mine
open PySem PySem.Calls PyProof.Rows PySem.W

theorem Op2.in_c {c : Cx} {k : Nat} {b : List Nat} {σ : St} {Φ : AV → St → Prop} {X : XP} (h : Φ (.bool (decide (k ∈ b))) σ) : Op2 c (compareOp .In) (.str [k]) (.str b) σ Φ X := by
  refine Op2.in_s ?_
  have := StrLaws.found_one ⟨b.toArray⟩ k
  rw [lenS] at this
  rw [show (⟨[k].toArray⟩ : Str) = ⟨#[k]⟩ from rfl, this]
  simpa using h

/-- a sign, each time, told by others -/
def subst (c : Nat) (z l : List Nat) : List Nat := l.flatMap fun k => if k = c then z else [k]
theorem subst_append (c : Nat) (z a b : List Nat) : subst c z (a ++ b) = subst c z a ++ subst c z b := List.flatMap_append
theorem subst_free (c : Nat) (z : List Nat) : ∀ l : List Nat, c ∉ l → subst c z l = l
  | [], _ => rfl
  | k :: r, h => by
    have h1 : ¬ k = c := fun e => h (e ▸ List.mem_cons_self ..)
    have h2 : c ∉ r := fun m => h (List.mem_cons_of_mem _ m)
    have ih := subst_free c z r h2
    unfold subst at ih ⊢
    rw [List.flatMap_cons, if_neg h1, ih]; rfl
theorem subst_join (c : Nat) (z : List Nat) : ∀ parts : List Str, (∀ p ∈ parts, c ∉ p.cps.toList) → subst c z (Str.join ⟨#[c]⟩ parts).cps.toList = (Str.join ⟨z.toArray⟩ parts).cps.toList
  | [], _ => rfl
  | [p], h => subst_free c z _ (h p (List.mem_singleton.mpr rfl))
  | p :: q :: r, h => by
    have ih := subst_join c z (q :: r) fun a ha => h a (List.mem_cons_of_mem _ ha)
    show subst c z (p ++ ⟨#[c]⟩ ++ Str.join ⟨#[c]⟩ (q :: r)).cps.toList = (p ++ ⟨z.toArray⟩ ++ Str.join ⟨z.toArray⟩ (q :: r)).cps.toList
    simp only [Str.cps_append, Array.toList_append]
    rw [subst_append, subst_append, ih, subst_free c z _ (h p (List.mem_cons_self ..))]
    have : subst c z [c] = z := by unfold subst; simp
    rw [this]
theorem replace_subst (l z : List Nat) (c : Nat) : Txt.replace ⟨l.toArray⟩ ⟨#[c]⟩ ⟨z.toArray⟩ = ⟨(subst c z l).toArray⟩ := by
  have h : (Txt.replace ⟨l.toArray⟩ ⟨#[c]⟩ ⟨z.toArray⟩).cps.toList = subst c z l := by
    have := subst_join c z (Txt.split ⟨l.toArray⟩ ⟨#[c]⟩) (StrLaws.split_free _ c)
    rw [StrLaws.join_split] at this
    rw [StrLaws.replace_one, ← this]
  exact Str.ext' (by rw [← h])

theorem Ev.replace {c : Cx} {o : Expr} {y : Nat} {z : List Nat} {k1 k2 : Nat} {apos pos p1 p2 : Pos} {ys zs : Str} {σ : St} {Φ : AV → St → Prop} {X : XP} (hy : ys = ⟨#[y]⟩) (hz : zs = ⟨z.toArray⟩) (hne : z ≠ [y])
    (h : Ev c o σ (fun a σ₁ => ∃ l : List Nat, a = .str l ∧ l.length + (l.length + 1) * z.length ≤ 16777216 ∧ Φ (.str (subst y z l)) σ₁) X)
    (hbase : attributeBase o (Str.ofString "replace") c.env (eval o c.env) = eval o c.env := by rfl)
    (hfew : ((backTo pos (starEach [.Constant (.str ys) k1 p1, .Constant (.str zs) k2 p2] c.env)).all (fun x => !x.1) && (backToKw pos (keywordEach [] c.env)).all (fun x => x.1.isSome)
      && decide (([.Constant (.str ys) k1 p1, .Constant (.str zs) k2 p2] : List Expr).length + ([] : List Keyword).length + (if ([] : List Keyword).isEmpty then 0 else 1) < 30)) = true := by rfl)
    (hline : (apos.endLine == pos.line) = true := by rfl) (hs : (backTo pos (starEach [.Constant (.str ys) k1 p1, .Constant (.str zs) k2 p2] c.env)).any (·.1) = false := by rfl) :
    Ev c (.Call (.Attribute o (Str.ofString "replace") apos) [.Constant (.str ys) k1 p1, .Constant (.str zs) k2 p2] [] pos) σ Φ X := by
  refine Tri.ofH fun s r _ Q E q x => ?_
  refine wpAny_Call_method hbase hfew hline F.plainAttrs_str F.slot_str_replace F.type_str_replace (h s r trivial _ _ (fun v a σ₁ s₁ r₁ f₁ va h₁ => ?_) x)
  obtain ⟨l, rfl, hl, h₁⟩ := h₁
  obtain ⟨t, rfl⟩ := va.str'
  refine ⟨typeIs_str s₁ _ t, (fun _ e => nomatch e), callWith_builtin hs (evalArgs_any hs ?_)⟩
  show wpAny _ _ (spliced [(false, eval (.Constant (.str ys) k1 p1) c.env), (false, eval (.Constant (.str zs) k2 p2) c.env)]) _ E s₁
  refine spliced_cons (wpAny_Constant_str (spliced_cons (wpAny_Constant_str (spliced_nil ?_))))
  subst hy hz
  have tp := r₁.tp
  refine SC.replace (by show s₁.toks ≠ 0; omega) (by show s₁.toks + 1 ≠ 0; omega) (Nat.ne_of_lt (Nat.lt_succ_self _)) ?_ (by rw [lenS, lenS]; exact hl) fun t' k => ?_
  · have := eqS [y] z
    rw [show (⟨#[y]⟩ : Str) = ⟨[y].toArray⟩ from rfl, this]
    exact decide_eq_false (Ne.symm hne)
  · rw [replace_subst]
    exact q _ (.str _) σ₁ _ (r₁.toRep.keep (h' := s₁.heap) fun _ _ e => e) (f₁.trans (Aft.keep (h' := s₁.heap) (tk := k) fun _ _ e => e)) VR.mkStr h₁

theorem cnt_count (c : Nat) : ∀ l : List Nat, cnt c l = ((l.count c : Nat) : Int)
  | [] => rfl
  | k :: r => by
    rw [cnt_cons, cnt_count c r, List.count_cons]
    by_cases h : k = c <;> simp [h] <;> omega
theorem Cal.count {c : Cx} {l : List Nat} {y : Nat} {σ : St} {Φ : AV → St → Prop} {X : XP} (k : Φ (.int (l.count y : Nat)) σ) : Cal c (.builtin "str.count") [.str l, .str [y]] σ Φ X := fun vs =>
  Tri.pureStep k fun s p _ Q E q => by
    obtain ⟨v, w, rfl, p1, p2⟩ := VRs.two p
    obtain ⟨t, rfl⟩ := p1.str'
    obtain ⟨u, rfl⟩ := p2.str'
    refine SC.count ?_
    have := count_cnt ⟨l.toArray⟩ y
    rw [show (⟨[y].toArray⟩ : Str) = ⟨#[y]⟩ from rfl, this, cnt_count]
    exact q _ s.heap _ (fun _ _ e => e) VR.mkInt

/-! join -/
theorem VRs.strs {h : Heap} : ∀ {ls : List (List Nat)} {vs : List Value}, VRs h (ls.map AV.str) vs → ∃ l : List (Str × Tok), vs = strValues l ∧ l.map (·.1) = ls.map fun x => ⟨x.toArray⟩
  | [], vs, q => by rw [List.map_nil, VRs] at q; subst q; exact ⟨[], rfl, rfl⟩
  | x :: ls, vs, q => by
    rw [List.map_cons, VRs] at q
    obtain ⟨v, r, rfl, a, q⟩ := q
    obtain ⟨t, rfl⟩ := a.str'
    obtain ⟨l, rfl, e⟩ := VRs.strs q
    exact ⟨(⟨x.toArray⟩, t) :: l, rfl, by rw [List.map_cons, e]; rfl⟩
theorem join_nil' : ∀ ls : List (List Nat), Str.join ⟨#[]⟩ (ls.map fun x => ⟨x.toArray⟩) = ⟨ls.flatten.toArray⟩
  | [] => rfl
  | [x] => by simp [Str.join]
  | x :: y :: r => by
    have ih := join_nil' (y :: r)
    show (⟨x.toArray⟩ : Str) ++ ⟨#[]⟩ ++ Str.join ⟨#[]⟩ ((y :: r).map fun x => ⟨x.toArray⟩) = _
    rw [ih, show (⟨#[]⟩ : Str) = ⟨([] : List Nat).toArray⟩ from rfl, appS, appS]; simp
theorem foldl_len : ∀ (ls : List (List Nat)) (n : Nat), (ls.map fun x => (⟨x.toArray⟩ : Str)).foldl (· + ·.length + (⟨#[]⟩ : Str).length) n = n + ls.flatten.length
  | [], n => by simp
  | x :: r, n => by
    rw [List.map_cons, List.foldl_cons, foldl_len r, lenS]
    rw [show (⟨#[]⟩ : Str).length = 0 from rfl]
    simp; omega
theorem Cal.join {c : Cx} {a : Addr} {ls : List (List Nat)} {σ : St} {Φ : AV → St → Prop} {X : XP} (i : Nat) (e : σ.own[i]? = some (a, .list (ls.map AV.str))) (hz : ls.flatten.length ≤ 16777216) (k : Φ (.str ls.flatten) σ) :
    Cal c (.builtin "str.join") [.str [], .ref a] σ Φ X := fun vs =>
  Tri.pureStep k fun s p r Q E q => by
    obtain ⟨v, w, rfl, p1, p2⟩ := VRs.two p
    obtain ⟨t, rfl⟩ := p1.str'
    cases p2.ref'
    obtain ⟨vs, n, g, hv⟩ := Cx.own_list r.toRep e
    obtain ⟨l, rfl, el⟩ := hv.strs
    refine SC.join (l := l) ⟨_, g, rfl, n, rfl⟩ el ?_ fun t' k => ?_
    · unfold JoinOk Builtin.Str.tooLong
      rw [show (⟨([] : List Nat).toArray⟩ : Str) = ⟨#[]⟩ from rfl, List.foldl_toArray', foldl_len, sizeLine_eq]
      · simp; simpa using hz
      · simp
    · rw [show (⟨([] : List Nat).toArray⟩ : Str) = ⟨#[]⟩ from rfl]
      have : Txt.join ⟨#[]⟩ (ls.map fun x => ⟨x.toArray⟩) = ⟨ls.flatten.toArray⟩ := (StrLaws.glued_eq_join _ _).trans (join_nil' ls)
      rw [this]
      exact q _ s.heap _ (fun _ _ e => e) VR.mkStr
end Mine

-- BD
namespace Mine
open PySem PySem.Calls PyProof.Rows PySem.W

/-! iterators held -/
theorem entry_next : entryFor table "next" = some Builtin.«next» := entryFor_of_tree (by kernel_rfl)
theorem args_next (a : Value) : argsOk "next" ⟨[a], []⟩ := by unfold argsOk; kernel_rfl
theorem entry_iter : entryFor table "iter" = some Builtin.«iter» := entryFor_of_tree (by kernel_rfl)
theorem args_iter (a : Value) : argsOk "iter" ⟨[a], []⟩ := by unfold argsOk; kernel_rfl
theorem kind_next : builtinKind "next" = none := by decide +kernel
theorem plain_next : plainId "next" = true := by decide +kernel
theorem kind_iter : builtinKind "iter" = none := by decide +kernel
theorem plain_iter : plainId "iter" = true := by decide +kernel

theorem call_next_item {prog : Program} {w : World} {A : Around} {E : Value → Shared → Prop} {s : Shared} {it l : Addr} {i : Nat} {items : Array Value} {x : Value} {Q : Value → Shared → Prop} (hit : s.heap.IsListIter it l i)
    (hl : s.heap.IsList l items) (hx : items[i]? = some x) (hQ : ∀ h', h'.IsListIter it l (i + 1) → Heap.SameBut it s.heap h' → Q x { s with heap := h' }) : wpAny (model prog w) A (call (.builtin "next") [.ref it]) Q E s := by
  obtain ⟨o, ho, hc, hd⟩ := id hit
  obtain ⟨ol, hol, _, nl, hdl⟩ := hl
  refine call_function_entry kind_next plain_next entry_next (args_next _) ?_
  unfold Builtin.«next»
  refine wpAny_bind (m := someArgs "next" 1 2 _) (wpAny_of_eq (a := [Value.ref it]) (by first | rfl | kernel_rfl!) ?_)
  dsimp only
  refine wpAny_bind (wpAny_specialOf (name := Str.ofString "__next__") hit.typeIs slot_listiter_next.lookup ?_)
  refine wpAny_ite_split (fun hab => absurd hab (by decide)) (fun _ => ?_)
  refine wpAny_bind (wpAny_callSpecial?_slot (name := Str.ofString "__next__") hit.typeIs slot_listiter_next
    (wpAny_call_entry slot_listiter_next hit.typeIs entry_listiter_next ?_ (args_listiter_next _)))
  show wpAny _ _ (field (.ref it) 0 >>= _) _ _ s
  refine wpAny_bind (wpAny_field ho hd (x := .ref l) rfl ?_)
  show wpAny _ _ (if (Value.ref l == Value.none) = true then _ else _) _ _ s
  rw [if_neg (show ¬ ((Value.ref l == Value.none) = true) from Bool.false_ne_true)]
  show wpAny _ _ (field (.ref it) 1 >>= _) _ _ s
  refine wpAny_bind (wpAny_field ho hd (x := .int i 0) rfl ?_)
  show wpAny _ _ (seqItems? (.ref l) >>= _) _ _ s
  refine wpAny_bind (wpAny_seqItems hol hdl ?_)
  simp only [Int.toNat_natCast, hx]
  refine wpAny_bind (wpAny_setField ho hd (by simp) (wpAny_pure ⟨x, rfl, wpAny_pure ⟨_, rfl, hQ _ ?_ (Heap.SameBut.update ..)⟩⟩))
  exact ⟨_, Heap.get?_update_self _ ho (Obj.isFreed_of_fields (Obj.data_mapFields hd _)), (Obj.cls_mapFields ..).trans hc, by
    rw [Obj.data_mapFields hd]; simp [rawInt]⟩

theorem Cal.next {c : Cx} {it lst : Addr} {x : AV} {l : List AV} {σ : St} {Φ : AV → St → Prop} {X : XP} (i : Nat) (e : σ.own[i]? = some (it, .iter lst (x :: l))) (k : Φ x ⟨σ.loc, σ.own.set i (it, .iter lst l)⟩) :
    Cal c (.builtin "next") [.ref it] σ Φ X := fun vs =>
  Tri.updStep (ao' := .iter lst l) (x := x) e rfl k fun s p r o Q E q => by
    obtain ⟨v, rfl, p1⟩ := VRs.one p
    cases p1.ref'
    have nt := o.noTup
    obtain ⟨vs, n, j, hit, g, hv⟩ := o
    have hne : lst ≠ it := fun z => by
      subst z
      obtain ⟨oi, gi, _, di⟩ := hit
      rw [g] at gi; cases gi; cases di
    have hx : ∃ v, vs[j]? = some v ∧ VR s.heap x v := by
      rw [VRs] at hv
      obtain ⟨v, ws, e1, a, _⟩ := hv
      refine ⟨v, ?_, a⟩
      have := congrArg (·[0]?) e1
      simpa using this
    obtain ⟨v, ex, vx⟩ := hx
    refine call_next_item hit ⟨_, g, rfl, n, rfl⟩ (x := v) (by simpa using ex) fun h' hit' hs => ?_
    have sp : Sp [] (foot it (.iter lst (x :: l))) s.heap h' := (sameSp hs).weaken fun b hb => by rw [List.mem_singleton.mp hb]; exact .head _
    have ntI : NoTup s.heap [it] := fun b hb o e => nt b (by rw [List.mem_singleton.mp hb]; exact .head _) o e
    refine q v h' s.toks sp ⟨vs, n, j + 1, hit', (hs.2 lst hne).trans g, ?_⟩ (vx.mono (sameSp hs) ntI NoTup.nil)
    have := hv.drop 1
    rw [List.drop_drop] at this
    exact this.mono (sameSp hs) ntI NoTup.nil

theorem Cal.iterL {c : Cx} {lst : Addr} {l : List AV} {σ : St} {Φ : AV → St → Prop} {X : XP} (i : Nat) (e : σ.own[i]? = some (lst, .list l)) (k : ∀ d, Φ (.ref d) ⟨σ.loc, σ.own.set i (d, .iter lst l)⟩) :
    Cal c (.builtin "iter") [.ref lst] σ Φ X := fun vs =>
  Tri.ofH fun s r p Q E q _ => by
    obtain ⟨v, rfl, p1⟩ := VRs.one p
    cases p1.ref'
    obtain ⟨vs, n, g, hv⟩ := Cx.own_list r.toRep e
    refine call_function_entry kind_iter plain_iter entry_iter (args_iter _) ?_
    unfold Builtin.«iter»
    refine wpAny_bind (m := someArgs "iter" 1 2 _) (wpAny_of_eq (a := [Value.ref lst]) (by first | rfl | kernel_rfl!) ?_)
    dsimp only
    refine wpAny_bind (wpAny_pyIter_list ⟨_, g, rfl, n, rfl⟩ (wpAny_pure ⟨_, rfl, ?_⟩))
    have hn : s.heap.get? s.heap.objs.size = none := Heap.get?_none_of_le (Nat.le_refl _)
    have hN := Heap.get?_push_size s.heap (o := { cls := .type "list_iterator", data := .fields #[.ref lst, .int 0 0] }) rfl
    have hr : OR (s.heap.push { cls := .type "list_iterator", data := .fields #[.ref lst, .int 0 0] }) s.heap.objs.size (.raw { cls := .type "list_iterator", data := .fields #[.ref lst, .int 0 0] }) :=
      ⟨hN, .of_cls (by simp) (by simp)⟩
    have R := r.toRep.fresh push_keep hn hr rfl
    have F := Aft.fresh (c := c) (σ := σ) (ao := .raw { cls := .type "list_iterator", data := .fields #[.ref lst, .int 0 0] }) (tk := s.toks) (push_keep (h := s.heap) (o := { cls := .type "list_iterator", data := .fields #[.ref lst, .int 0 0] })) hn rfl
    obtain ⟨s1, s2⟩ := set_split (x := (s.heap.objs.size, AO.iter lst l)) e
    have pf : (feet (σ.own.set i (s.heap.objs.size, .iter lst l))).Perm (feet ((s.heap.objs.size, .raw { cls := .type "list_iterator", data := .fields #[.ref lst, .int 0 0] }) :: σ.own)) := by
      rw [feet_cons, s2]
      conv => rhs; rw [s1]
      rw [feet_append, feet_append, feet_cons, feet_cons]
      show (feet _ ++ (s.heap.objs.size :: ([lst] ++ feet _))).Perm (s.heap.objs.size :: (feet _ ++ ([lst] ++ feet _)))
      exact List.perm_middle
    have ho : ∀ p ∈ σ.own.set i (s.heap.objs.size, .iter lst l), OR (s.heap.push { cls := .type "list_iterator", data := .fields #[.ref lst, .int 0 0] }) p.1 p.2 := by
      intro p hp
      have old : ∀ p ∈ σ.own, OR (s.heap.push { cls := .type "list_iterator", data := .fields #[.ref lst, .int 0 0] }) p.1 p.2 := fun p hp => R.own p (.tail _ hp)
      rw [s2] at hp
      rcases List.mem_append.mp hp with z | z
      · exact old p (List.mem_of_mem_take z)
      · rcases List.mem_cons.mp z with rfl | z
        · exact ⟨vs, n, 0, ⟨_, hN, rfl, rfl⟩, push_keep _ _ g, (hv.mono (K := []) (F := []) (Sp.of_keep fun a o _ e => push_keep a o e) NoTup.nil NoTup.nil)⟩
        · exact old p (List.mem_of_mem_drop z)
    exact q (.ref _) (.ref _) ⟨σ.loc, _⟩ _ (R.repack ho pf) (F.repack pf) VR.mkRef (k _)

end Mine

-- BE
namespace Mine
open PySem PySem.Calls PyProof.Rows PySem.W

abbrev Ifs (c : Cx) (ifs : List Expr) (σ : St) (Φ : Bool → St → Prop) (X : XP) : Prop :=
  Tri c T0 (forIn ifs true fun e r => if r = true then do let ok ← isTrue e c.env (eval e c.env); pure (ForInStep.yield ok) else pure (ForInStep.yield r)) BR σ Φ X
theorem Ifs.nil {c : Cx} {σ : St} {Φ : Bool → St → Prop} {X : XP} (k : Φ true σ) : Ifs c [] σ Φ X := fun s r _ Q E q _ => by
  simp only [List.forIn_nil]
  exact wpAny_pure (q _ _ σ s r .refl rfl k)
theorem Ifs.one {c : Cx} {e : Expr} {σ : St} {Φ : Bool → St → Prop} {X : XP} (h : Tst c e σ Φ X) : Ifs c [e] σ Φ X := fun s r p Q E q x => wpAny_tests_one (h s r p Q E q x)

/-- what follows the target in a turn of a comprehension's loop -/
abbrev Body := Around → Value → Env → (Shared → Prop) → (Value → Shared → Prop) → Shared → Prop
abbrev Body1 (prog : Program) (w : World) (elt : Expr) (ifs : List Expr) : Body := fun A acc env Q E s =>
  wpAny (model prog w) A (forIn ifs true fun e r => if r = true then do let ok ← isTrue e env (eval e env); pure (ForInStep.yield ok) else pure (ForInStep.yield r)) (fun ok s₃ =>
    if ok = true then wpAny (model prog w) A (eval elt env) (fun x s₄ => wpAny (model prog w) A (call (.builtin "list.append") [acc, x]) (fun _ s₅ => Q s₅) E s₄) E s₃ else Q s₃) E s

abbrev LoopTurn (prog : Program) (w : World) (target : Expr) (B : Body) (A : Around) (R : Result → Shared → Prop) (it acc : Value) (env : Env) (J : Nat → Shared → Prop) : Prop :=
  ∀ n s, J n s → wpAny (model prog w) A (pyNext it) (fun r s₁ => match r with
      | none => R (.ok .next) s₁
      | some v => (∀ (Q' : Unit → Shared → Prop) (E' : Value → Shared → Prop), Q' () s₁ → wpAny (model prog w) A (letOwnedTupleGo target it v) Q' E' s₁) ∧ wpAny (model prog w) A (assign target env v) (fun _ s₂ =>
          B A acc env (fun s₅ => ∃ m, m < n ∧ J m s₅) (notedBy (model prog w) A env fun e s' => R (.error e) s') s₂) (notedBy (model prog w) A env fun e s' => R (.error e) s') s₁) (notedBy (model prog w) A env fun e s' => R (.error e) s') s
/-- the loop of a comprehension, whatever its target and its turns are -/
def LoopRule (prog : Program) (w : World) (e target : Expr) (B : Body) (depth : Nat) : Prop := ∀ (A : Around) (R : Result → Shared → Prop) (it acc : Value) (env : Env) (J : Nat → Shared → Prop),
  LoopTurn prog w target B A R it acc env J → ∀ n s, J n s → codeAny (model prog w) A (.compLoop e depth it acc env) R s

theorem compLoopAny {prog : Program} {w : World} {elt target iter : Expr} {ifs : List Expr} {scope : Scope} {pos : Pos} : LoopRule prog w (.ListComp elt [⟨target, iter, ifs, 0⟩] scope pos) target (Body1 prog w elt ifs) 0 := by
  intro A R it acc env J turn n s h
  refine codeAny_loop rfl J (fun n s hJ => wpAny_noted ?_) n h
  show wpAny _ A (compTurn (.ListComp elt [⟨target, iter, ifs, 0⟩] scope pos) 0 it acc env) _ _ s
  rw [compTurn_list]
  refine wpAny_bind (wpAny_standAt (wpAny_bind (wpAny_mono (turn n s hJ) (fun r s₁ h₁ => ?_) fun _ _ y => y)))
  cases r with
  | none => exact wpAny_pure h₁
  | some v =>
    refine wpAny_bind (h₁.1 _ _ (wpAny_bind (wpAny_mono h₁.2 (fun _ s₂ h₂ => wpAny_bind (wpAny_mono h₂ (fun ok s₃ h₃ => ?_) fun _ _ y => y)) fun _ _ y => y)))
    cases ok
    · exact wpAny_pure ⟨rfl, h₃⟩
    · exact wpAny_bind (wpAny_bind (wpAny_mono h₃ (fun x s₄ h₄ => wpAny_bind (wpAny_mono h₄ (fun _ s₅ h₅ => wpAny_pure (wpAny_pure ⟨rfl, h₅⟩)) fun _ _ y => y)) fun _ _ y => y))

/-- a turn's body, done: the list has grown -/
def BodyOK (c : Cx) (B : Body) (inv : List AV → St → Prop) (b : Nat) (acc : List AV) (σ : St) : Prop :=
  ∀ (D : Addr) (s : Shared), RepS c ⟨σ.loc, σ.own ++ [(D, .list acc)]⟩ s → ∀ (Q : Shared → Prop) (E : Value → Shared → Prop),
    (∀ acc' σ' s', acc'.length ≤ b → RepS c ⟨σ'.loc, σ'.own ++ [(D, .list acc')]⟩ s' → Aft c ⟨σ.loc, σ.own ++ [(D, .list acc)]⟩ s ⟨σ'.loc, σ'.own ++ [(D, .list acc')]⟩ s' → inv acc' σ' → Q s') → B c.A (.ref D) c.env Q E s

theorem Tri.behind {α β : Type} {c : Cx} {P : Heap → Prop} {t : Sem α} {V : Heap → β → α → Prop} {σ : St} {R : List (Addr × AO)} {Φ : β → St → Prop} {X : XP}
    (h : Tri c P t V σ Φ noX) : Tri c P t V ⟨σ.loc, σ.own ++ R⟩ (fun x σ' => ∃ σ'', σ' = ⟨σ''.loc, σ''.own ++ R⟩ ∧ Φ x σ'') X :=
  Tri.frame (fun s r p Q E q x => h s r p.1 Q E (fun a y σ' s' r' f v φ => q a y σ' s' r' f v ⟨σ', rfl, φ⟩) (fun _ _ _ _ _ y => y.elim))

theorem growOK {c : Cx} {elt : Expr} {inv : List AV → St → Prop} {b : Nat} {acc : List AV} {σ : St} (h : Ev c elt σ (fun y σ₄ => inv (acc ++ [y]) σ₄) noX) (hb : acc.length ≤ b) (hm : b < 16777216) {D : Addr} {s : Shared} (r : RepS c ⟨σ.loc, σ.own ++ [(D, .list acc)]⟩ s) {Q : Shared → Prop} {E : Value → Shared → Prop}
    (q : ∀ acc' σ' s', acc'.length ≤ b + 1 → RepS c ⟨σ'.loc, σ'.own ++ [(D, .list acc')]⟩ s' → Aft c ⟨σ.loc, σ.own ++ [(D, .list acc)]⟩ s ⟨σ'.loc, σ'.own ++ [(D, .list acc')]⟩ s' → inv acc' σ' → Q s') :
    wpAny (model c.prog c.w) c.A (eval elt c.env) (fun x s₄ => wpAny (model c.prog c.w) c.A (call (.builtin "list.append") [.ref D, x]) (fun _ s₅ => Q s₅) E s₄) E s := by
  refine (Tri.behind (R := [(D, .list acc)]) (X := noX) h) s r trivial _ _ (fun y av σ₇ s₇ r₇ f₇ vy h₇ => ?_) (fun _ _ _ _ _ z => z.elim)
  obtain ⟨σ₇', rfl, h₇⟩ := h₇
  have hix : (σ₇'.own ++ [(D, AO.list acc)])[σ₇'.own.length]? = some (D, .list acc) := by simp
  refine (Cal.append (c := c) (l := acc) (a := D) (σ := ⟨σ₇'.loc, σ₇'.own ++ [(D, .list acc)]⟩) (x := av) (Φ := fun _ σ => σ = ⟨σ₇'.loc, σ₇'.own ++ [(D, .list (acc ++ [av]))]⟩) (X := noX) σ₇'.own.length hix (Nat.le_of_lt (Nat.lt_of_le_of_lt hb hm)) (by simp)) [.ref D, y] s₇ r₇
    (VRs.cons VR.mkRef (VRs.cons vy VRs.nil)) _ _ (fun _ _ σ₈ s₈ r₈ f₈ _ h₈ => ?_) (fun _ _ _ _ _ z => z.elim)
  subst h₈
  exact q (acc ++ [av]) σ₇' s₈ (by rw [List.length_append]; exact Nat.succ_le_succ hb) r₈ (f₇.trans f₈) h₇

abbrev TB1 (elt : Expr) (ifs : List Expr) (c : Cx) (inv : List AV → St → Prop) (acc : List AV) (σ : St) : Prop :=
  Ifs c ifs σ (fun b σ₃ => (b = true → Ev c elt σ₃ (fun y σ₄ => inv (acc ++ [y]) σ₄) noX) ∧ (b = false → inv acc σ₃)) noX
theorem TB1.ok {elt : Expr} {ifs : List Expr} {c : Cx} {inv : List AV → St → Prop} {acc : List AV} {σ : St} {b : Nat} (h : TB1 elt ifs c inv acc σ) (hb : acc.length ≤ b) (hm : b + 1 ≤ 16777216) : BodyOK c (Body1 c.prog c.w elt ifs) inv (b + 1) acc σ := by
  intro D s r Q E q
  refine (Tri.behind (R := [(D, .list acc)]) (X := noX) h) s r trivial _ _ (fun b b' σ₆ s₆ r₆ f₆ eb h₆ => ?_) (fun _ _ _ _ _ z => z.elim)
  obtain ⟨σ₆', rfl, h₆⟩ := h₆
  cases eb
  cases b with
  | false => exact q acc σ₆' s₆ (Nat.le_succ_of_le hb) r₆ f₆ (h₆.2 rfl)
  | true => exact growOK (h₆.1 rfl) hb hm r₆ fun acc' σ' s' e r' f' i => q acc' σ' s' e r' (f₆.trans f') i

/-- a comprehension's own context -/
abbrev compCx (c : Cx) (scope : Scope) (cl : List (Str × Addr)) (cells : List Addr) (C : Addr) : Cx :=
  ⟨c.prog, c.w, c.b0, c.A, compEnvC scope cl C c.env, [C], cells ++ c.fx, c.env.locals :: c.K⟩

theorem Good.comp {z : Bool} {n : Nat} {c : Cx} {scope : Scope} {cl : List (Str × Addr)} {cells : List Addr} {C : Addr} (g : Good z n c) (hk : scope.kind = .function := by rfl) : Good z n (compCx c scope cl cells C) := by
  obtain ⟨l, hl, hm⟩ := g.fr
  exact ⟨g.hd, g.dp, g.un, hk, ⟨l, hl, fun a ha => .inr ((hm a ha).elim (fun e => e ▸ .head _) fun h => .tail _ h)⟩⟩

/-- the comprehension's state where it begins -/
theorem Rep.enterComp {z : Bool} {n : Nat} {c : Cx} {σ : St} {h h' : Heap} {scope : Scope} {cl : List (Str × Addr)} {cells : List Addr} {C : Addr} {m : Str → Option Value} {fv : List (String × AV)} (r : Rep c σ h) (g : Good z n c)
    (hfr : c.fr = c.env.locals :: cells) (hcl : ∀ x a, cl.lookup x = some a → c.env.cells.lookup x = some a)
    (hfv : ∀ x av, fv.lookup x = some av → σ.loc.lookup x = some av ∧ (c.kind x = some .cell ∨ c.kind x = some .free) ∧ (∃ a, cl.lookup (Str.ofString x) = some a) ∧
      ((compEnvC scope cl C c.env).kindOf (Str.ofString x) = some .cell ∨ (compEnvC scope cl C c.env).kindOf (Str.ofString x) = some .free))
    (k : ∀ a o, h.get? a = some o → h'.get? a = some o) (hn : h.get? C = none) (hns : h'.Ns C m) (hcel : ∀ x a, cl.lookup x = some a → a ∈ cells ++ c.fx) : Rep (compCx c scope cl cells C) ⟨fv, σ.own⟩ h' := by
  have r' := r.keep k
  have nd := r.nd
  rw [hfr] at nd
  have ex : ∀ a ∈ c.fr ++ (c.fx ++ feet σ.own), ∃ o, h.get? a = some o := fun a ha => by
    rcases List.mem_append.mp ha with w | w
    · obtain ⟨o, e, _⟩ := r.frc a w; exact ⟨o, e⟩
    · rcases List.mem_append.mp w with w | w
      · obtain ⟨o, e, _⟩ := r.kh a (List.mem_append_right _ w); exact ⟨o, e⟩
      · exact r.here a (List.mem_append_right _ w)
  have neC : ∀ a ∈ c.fr ++ (c.fx ++ feet σ.own), a ≠ C := fun a ha z => by obtain ⟨o, e⟩ := ex a ha; rw [z, hn] at e; cases e
  have nd2 : ((cells ++ c.fx) ++ feet σ.own).Nodup := by rw [List.append_assoc]; exact (List.nodup_cons.mp nd).2
  have mem2 : ∀ a ∈ (cells ++ c.fx) ++ feet σ.own, a ∈ c.fr ++ (c.fx ++ feet σ.own) := fun a ha => by
    rw [hfr]; rw [List.append_assoc] at ha; exact .tail _ ha
  have b0C : c.b0.get? C = none := by
    cases e : c.b0.get? C with
    | none => rfl
    | some o => have := r.kb C o e; rw [hn] at this; cases this
  have KneC : ∀ a ∈ c.K, a ≠ C := fun a ha z => by obtain ⟨o, e, _⟩ := r.kh a (List.mem_append_left _ ha); rw [z, hn] at e; cases e
  refine ⟨⟨m, hns, fun x av e => ?_⟩, .head _, fun x a _ e2 e3 => ?_, fun x y a e1 e2 => r.inj x y a (hcl _ _ e1) (hcl _ _ e2), r'.own, ?_, fun a ha => ?_, fun a ha => ?_, r'.kb, fun a ha => ?_, fun a ha => ?_, fun l e => ?_⟩
  · obtain ⟨e1, kd, ⟨a, ea⟩, kd'⟩ := hfv x av e
    obtain ⟨_, _, hl⟩ := r'.ns
    rcases hl x av e1 with ⟨i, _⟩ | ⟨i, b, v, j, kk, n, q, t⟩
    · rcases kd with kd | kd <;> (rw [i] at kd; cases kd)
    · have : a = b := by have := hcl _ _ ea; rw [j] at this; exact (Option.some.inj this).symm
      subst this
      have ma := hcel _ _ ea
      refine .inr ⟨kd', a, v, ea, .inr ma, neC a (mem2 a (List.mem_append_left _ ma)), q, t⟩
  · have ma := hcel _ _ e2
    exact absurd (List.mem_singleton.mp e3) (neC a (mem2 a (List.mem_append_left _ ma)))
  · show ([C] ++ ((cells ++ c.fx) ++ feet σ.own)).Nodup
    exact List.nodup_cons.mpr ⟨fun z => neC C (mem2 C z) rfl, nd2⟩
  · rcases List.mem_cons.mp (show a ∈ C :: ((cells ++ c.fx) ++ feet σ.own) from ha) with rfl | w
    · refine ⟨fun z => ?_, b0C⟩
      rcases List.mem_cons.mp z with e | z
      · exact neC _ (List.mem_append_left _ r.lin) e.symm
      · exact KneC _ z rfl
    · have := r.nk a (mem2 a w)
      refine ⟨fun z => ?_, this.2⟩
      rcases List.mem_cons.mp z with e | z
      · have n1 := (List.nodup_cons.mp nd).1
        rw [← e] at n1
        exact n1 (by show a ∈ cells ++ (c.fx ++ feet σ.own); rw [← List.append_assoc]; exact w)
      · exact this.1 z
  · rw [List.mem_singleton.mp ha]
    obtain ⟨o, es, ep, g, d, _⟩ := hns
    exact ⟨o, g, .of_dict d⟩
  · rcases List.mem_cons.mp ha with rfl | ha
    · exact (r.nk _ (List.mem_append_left _ r.lin)).2
    · exact r.kn a ha
  · rcases List.mem_append.mp ha with w | w
    · rcases List.mem_cons.mp w with rfl | w
      · exact r'.frc _ r.lin
      · exact r'.kh a (List.mem_append_left _ w)
    · rcases List.mem_append.mp w with w | w
      · exact r'.frc a (by rw [hfr]; exact .tail _ w)
      · exact r'.kh a (List.mem_append_right _ w)
  · obtain ⟨l', hl', hm⟩ := g.fr
    have e' : c.A.frames = some l := e
    rw [hl'] at e'; cases e'
    exact ⟨(r'.ff l hl').1, fun a ha => List.mem_append_right _ ((hm a ha).elim (fun e => e ▸ .head _) fun h => .tail _ h)⟩

/-- an object that nobody owns yet, owned behind the others -/
theorem Rep.addOwn {c : Cx} {σ : St} {h : Heap} {a : Addr} {ao : AO} (r : Rep c σ h) (ho : OR h a ao) (hf : foot a ao = [a]) (hn : a ∉ c.fr ++ (c.fx ++ feet σ.own)) (hK : a ∉ c.K) (h0 : c.b0.get? a = none) : Rep c ⟨σ.loc, σ.own ++ [(a, ao)]⟩ h := by
  have ef : feet (σ.own ++ [(a, ao)]) = feet σ.own ++ [a] := by rw [feet_append, feet_cons, hf, feet_nil, List.append_nil]
  have e2 : c.fr ++ (c.fx ++ (feet σ.own ++ [a])) = (c.fr ++ (c.fx ++ feet σ.own)) ++ [a] := by simp
  refine ⟨r.ns, r.lin, r.cel, r.inj, fun p hp => ?_, ?_, fun b hb => ?_, r.frc, r.kb, r.kn, r.kh, r.ff⟩
  · rcases List.mem_append.mp hp with z | z
    · exact r.own p z
    · rw [List.mem_singleton.mp z]; exact ho
  · show (c.fr ++ (c.fx ++ feet (σ.own ++ [(a, ao)]))).Nodup
    rw [ef, e2]
    exact List.nodup_append.mpr ⟨r.nd, by simp, fun x hx y hy e => hn (by rw [← List.mem_singleton.mp hy, ← e]; exact hx)⟩
  · replace hb : b ∈ c.fr ++ (c.fx ++ feet (σ.own ++ [(a, ao)])) := hb
    rw [ef, e2] at hb
    rcases List.mem_append.mp hb with z | z
    · exact r.nk b z
    · rw [List.mem_singleton.mp z]; exact ⟨hK, h0⟩

/-- what is owned, made less: the rest is hidden -/
theorem RepS.reduce {c : Cx} {σ σ₀ σ₁ : St} {s s₁ : Shared} {R R1 : List (Addr × AO)} (rp : RepS c σ s) (hR : Hid c σ R s.heap) (r₀ : RepS c σ₀ s₁) (f₀ : Aft c σ s σ₀ s₁) (hloc : σ₀.loc = σ₁.loc) (hperm : σ₀.own.Perm (σ₁.own ++ R1)) :
    RepS c σ₁ s₁ ∧ Aft c σ s σ₁ s₁ ∧ Hid c σ₁ (R1 ++ R) s₁.heap := by
  obtain ⟨loc, own₀⟩ := σ₀
  obtain ⟨loc', own₁⟩ := σ₁
  cases hloc
  have r : RepS c ⟨loc, own₁ ++ R1⟩ s₁ := ⟨r₀.perm hperm, r₀.tp⟩
  have nd := r.feetNodup
  rw [feet_append] at nd
  have nd' := List.nodup_append.mp nd
  have r1 : RepS c ⟨loc, own₁⟩ s₁ := ⟨r.sub (fun p hp => List.mem_append_left _ hp) nd'.1, r.tp⟩
  have f1 : Aft c σ s ⟨loc, own₁⟩ s₁ := ⟨f₀.rest, f₀.sp, f₀.al, fun a ha => f₀.fs a ((feet_perm hperm).mem_iff.mpr (by rw [feet_append]; exact List.mem_append_left _ ha))⟩
  refine ⟨r1, f1, fun p hp => ?_⟩
  rcases List.mem_append.mp hp with hp | hp
  · refine ⟨r.own p (List.mem_append_right _ hp), fun b hb => ?_⟩
    have hb1 : b ∈ feet R1 := List.mem_flatMap.mpr ⟨p, hp, hb⟩
    have hb' : b ∈ c.fr ++ (c.fx ++ feet (own₁ ++ R1)) := List.mem_append_right _ (List.mem_append_right _ (by rw [feet_append]; exact List.mem_append_right _ hb1))
    refine ⟨fun z => ?_, (r.nk b hb').1⟩
    rcases List.mem_append.mp z with z | z
    · exact (List.nodup_append.mp r.nd).2.2 b z b (List.mem_append_right _ (by rw [feet_append]; exact List.mem_append_right _ hb1)) rfl
    · exact nd'.2.2 b z b hb1 rfl
  · exact hR.after rp f1 p hp

/-- the frame of a comprehension, let go -/
theorem letGoC {c : Cx} {σ σ₂ : St} {s s₂ : Shared} {C : Addr} {m : Str → Option Value} {h' : Heap} (r : RepS c σ₂ s₂) (f : Aft c σ s σ₂ s₂) (hm : s₂.heap.Ns C m) (n1 : C ∉ c.fr ++ (c.fx ++ feet σ₂.own)) (n2 : C ∉ c.K) (n3 : c.b0.get? C = none) (n4 : ∀ b o, b ∉ feet σ.own → s.heap.get? b = some o → b ≠ C) (hs : Heap.SameBut C s₂.heap h') :
    RepS c σ₂ { s₂ with heap := h' } ∧ Aft c σ s σ₂ { s₂ with heap := h' } := by
  have k : ∀ b o, b ≠ C → s₂.heap.get? b = some o → h'.get? b = some o := fun b o n e => (hs.2 b n).trans e
  have nt : ∀ o, s₂.heap.get? C = some o → NT o := fun o e => by
    obtain ⟨o', es, ep, g', d', _⟩ := hm
    rw [e] at g'; cases g'; exact .of_dict d'
  refine ⟨⟨r.toRep.keepBut k n1 n2 n3 nt, r.tp⟩, ?_, fun a o n e => ?_, fun a o n e => ?_, f.fs⟩
  · have := f.rest; rw [this]
  · obtain ⟨p, sl, q⟩ := f.sp a o n e
    have ne := n4 a o (fun z => n (List.mem_append_right _ z)) e
    exact ⟨fun z => k a o ne (p z), sl, k a _ ne q⟩
  · obtain ⟨o', e'⟩ := f.al a o n e
    exact ⟨o', k a o' (n4 a o n e) e'⟩

/-- what a comprehension asks of its first clause -/
abbrev CompH (c : Cx) (scope : Scope) (cl : List (Str × Addr)) (cells : List Addr) (target iter : Expr) (m : Nat) (TB : Cx → (List AV → St → Prop) → List AV → St → Prop) (R : List (Addr × AO)) (σ : St) (Φ : Addr → St → Prop) (X : XP) : Prop :=
  Ev c iter σ (fun a σ₀ => ∃ (R1 : List (Addr × AO)) (σ₁ : St), σ₀.loc = σ₁.loc ∧ σ₀.own.Perm (σ₁.own ++ R1) ∧ ∃ (items : List AV) (fv : List (String × AV)) (inv : Cx → Nat → List AV → St → Prop), Itr c a items σ₁ (Hid c σ₁ (R1 ++ R)) ∧ items.length * m ≤ 16777216 ∧
      (∀ C x av, fv.lookup x = some av → σ₁.loc.lookup x = some av ∧ (c.kind x = some .cell ∨ c.kind x = some .free) ∧ (∃ a, cl.lookup (Str.ofString x) = some a) ∧
        ((compEnvC scope cl C c.env).kindOf (Str.ofString x) = some .cell ∨ (compEnvC scope cl C c.env).kindOf (Str.ofString x) = some .free)) ∧
      (∀ C, inv (compCx c scope cl cells C) 0 [] ⟨fv, σ₁.own⟩ ∧ (∀ i x acc σ', items[i]? = some x → inv (compCx c scope cl cells C) i acc σ' →
        Asg (compCx c scope cl cells C) target x σ' (fun σ₂ => TB (compCx c scope cl cells C) (inv (compCx c scope cl cells C) (i + 1)) acc σ₂) noX) ∧
      (∀ acc σ', inv (compCx c scope cl cells C) items.length acc σ' → ∀ d, Φ d ⟨σ₁.loc, (d, .list acc) :: σ'.own⟩))) X

/-- a comprehension's names -/
structure CompN (c : Cx) (scope : Scope) (cl : List (Str × Addr)) (cells : List Addr) : Prop where
  fr : c.fr = c.env.locals :: cells
  clos : closureFor scope c.env = pure cl
  sub : ∀ x a, cl.lookup x = some a → c.env.cells.lookup x = some a
  cel : ∀ x a, cl.lookup x = some a → a ∈ cells ++ c.fx
  cn : ∀ y ∈ scope.names, y.2 ≠ .cell
  names : ∀ y ∈ scope.names, y.2 = .local → scope.names.lookup y.1 = some .local
  k : scope.kind = .function

theorem CompN.nil {c : Cx} {scope : Scope} (h : c.fr = [c.env.locals]) (hc : closureFor scope c.env = pure []) (cn : ∀ y ∈ scope.names, y.2 ≠ .cell) (nm : ∀ y ∈ scope.names, y.2 = .local → scope.names.lookup y.1 = some .local) (k : scope.kind = .function) : CompN c scope [] [] :=
  ⟨h, hc, fun _ _ h => (nomatch h), fun _ _ h => (nomatch h), cn, nm, k⟩

set_option maxHeartbeats 1000000 in
theorem compCore {use : Option (Value → Sem Unit)} {Q : Value → Shared → Prop} {E : Value → Shared → Prop} {s : Shared} {z : Bool} {n m : Nat} {c : Cx} {elt target iter : Expr} {ifs : List Expr} {gs : List Comprehension} {scope : Scope} {pos : Pos} {cl : List (Str × Addr)} {cells : List Addr} {σ : St} {Φ : Addr → St → Prop} {X : XP} {B : Body}
    {TB : Cx → (List AV → St → Prop) → List AV → St → Prop} (R : List (Addr × AO)) (g : Good z n c)
    (hl : LoopRule c.prog c.w (.ListComp elt (⟨target, iter, ifs, 0⟩ :: gs) scope pos) target B 0)
    (hTB : ∀ C inv b acc σ, TB (compCx c scope cl cells C) inv acc σ → acc.length ≤ b → b + m ≤ 16777216 → BodyOK (compCx c scope cl cells C) B inv (b + m) acc σ)
    (N : CompN c scope cl cells) (h : CompH c scope cl cells target iter m TB R σ Φ X)
    (rp : RepS c σ s) (hR : Hid c σ R s.heap) (x : Kx c σ s X E)
    (fin : ∀ D C σ₂ s₂, RepS c σ₂ s₂ → Aft c σ s σ₂ s₂ → Φ D σ₂ → (∃ m, s₂.heap.Ns C m) → C ∉ c.fr ++ (c.fx ++ feet σ₂.own) → C ∉ c.K → c.b0.get? C = none → (∀ b o, b ∉ feet σ.own → s.heap.get? b = some o → b ≠ C) → compPost (model c.prog c.w) c.A E use Q (.ref D) C (.ok .next) s₂)
    (hs : ∀ x, foldedSetIterable iter c.env x = pure x := by intro _; rfl) :
    wpAny (model c.prog c.w) c.A (comprehension (.ListComp elt (⟨target, iter, ifs, 0⟩ :: gs) scope pos) scope c.env (firstIterPos (⟨target, iter, ifs, 0⟩ :: gs) pos) (newList []) (firstAsync (⟨target, iter, ifs, 0⟩ :: gs)) (firstIter (⟨target, iter, ifs, 0⟩ :: gs) c.env) use) Q E s := by
  obtain ⟨hfr, hclos, hcl, hcel, hcn, hnames, hk⟩ := N
  refine wpAny_comprehension_free (g := ⟨target, iter, ifs, 0⟩) (gs := gs) (use := use) rfl hs hclos hk hnames ?_
  show wpAny _ _ (eval iter c.env) _ E s
  refine h s rp trivial _ _ (fun v a σ₀ s₁ r₀ f₀ va h₁ => ?_) x
  obtain ⟨R1, σ₁, hloc, hperm, items, fv, inv, it, hil, hfv, hC⟩ := h₁
  obtain ⟨r₁, f₁, hR₁⟩ := RepS.reduce rp hR r₀ f₀ hloc hperm
  refine wpAny_with_toks r₁.tp (it v s₁ r₁ hR₁ va _ _ (fun I fp P St h' tk W hn hI hk' hfp hst hP => fun htk => ?_))
  refine wpAny_newObj_type (wpAny_newFunctionEnv hcn (by intro y hy; simp at hy) (fun h₂ hns₂ hsb₂ => ?_) hk)
  dsimp only at hns₂ hsb₂ ⊢
  generalize hD : h'.objs.size = D at *
  generalize hH : h'.push { cls := .type "list", dict := none, data := .seq #[] } = H at hns₂ hsb₂ ⊢
  have hCs : H.objs.size = D + 1 := by rw [← hH, Heap.size_push, hD]
  generalize hC' : H.objs.size = C at *
  subst hCs
  clear hC'
  have fresh : ∀ a, D ≤ a → h'.get? a = none := fun a ha => Heap.get?_none_of_le (by rw [hD]; exact ha)
  have fresh1 : ∀ a, D ≤ a → s₁.heap.get? a = none := fun a ha => by
    cases e : s₁.heap.get? a with
    | none => rfl
    | some o => have := hk' a o e; rw [fresh a ha] at this; cases this
  have kH : ∀ b o, h'.get? b = some o → H.get? b = some o := fun b o e => hH ▸ Heap.get?_push_of_some _ e
  have k2 : ∀ b o, h'.get? b = some o → h₂.get? b = some o := fun b o e => hsb₂.extBut b o (fun z => by subst z; rw [fresh _ (Nat.le_succ _)] at e; cases e) (Heap.get?_push_of_some _ (kH b o e))
  have k12 : ∀ b o, s₁.heap.get? b = some o → h₂.get? b = some o := fun b o e => k2 b o (hk' b o e)
  have hDl : h₂.get? D = some (listObj [] 0) := hsb₂.extBut D _ (Nat.ne_of_lt (Nat.lt_succ_self _)) (Heap.get?_push_of_some _ (hH ▸ hD ▸ Heap.get?_push_size _ rfl))
  obtain ⟨h0, turn, done⟩ := hC (D + 1)
  have hTB := hTB (D + 1)
  generalize hc' : compCx c scope cl cells (D + 1) = c' at h0 turn done hTB
  have eA : c'.A = c.A := by rw [← hc']
  have eP : c'.prog = c.prog := by rw [← hc']
  have eW : c'.w = c.w := by rw [← hc']
  have eE : c'.env = compEnvC scope cl (D + 1) c.env := by rw [← hc']
  have efr : c'.fr = [D + 1] := by rw [← hc']
  have eK : c'.K = c.env.locals :: c.K := by rw [← hc']
  -- where the loop begins
  have R₂ : Rep c' ⟨fv, σ₁.own⟩ h₂ := by
    rw [← hc']
    exact r₁.toRep.enterComp g hfr hcl (hfv (D + 1)) k12 (fresh1 _ (Nat.le_succ _)) hns₂ hcel
  have eb0 : c'.b0 = c.b0 := by rw [← hc']
  have efx : c'.fx = cells ++ c.fx := by rw [← hc']
  have ex1 : ∀ a ∈ c.fr ++ (c.fx ++ feet σ₁.own), ∃ o, s₁.heap.get? a = some o := fun a ha => by
    rcases List.mem_append.mp ha with w | w
    · obtain ⟨o, e, _⟩ := r₁.frc a w; exact ⟨o, e⟩
    · rcases List.mem_append.mp w with w | w
      · obtain ⟨o, e, _⟩ := r₁.kh a (List.mem_append_right _ w); exact ⟨o, e⟩
      · exact r₁.here a (List.mem_append_right _ w)
  have exK : ∀ a ∈ c.K, ∃ o, s₁.heap.get? a = some o := fun a ha => by obtain ⟨o, e, _⟩ := r₁.kh a (List.mem_append_left _ ha); exact ⟨o, e⟩
  have newN : ∀ a, s₁.heap.get? a = none → a ≠ D + 1 → a ∉ c'.fr ++ (c'.fx ++ feet σ₁.own) ∧ a ∉ c'.K ∧ c'.b0.get? a = none := fun a hn hne => by
    rw [efr, efx, eK, eb0]
    refine ⟨fun z => ?_, fun z => ?_, ?_⟩
    · rcases List.mem_cons.mp z with z | z
      · exact hne z
      · obtain ⟨o, e⟩ := ex1 a (by rw [hfr]; rw [List.append_assoc] at z; exact .tail _ z)
        rw [hn] at e; cases e
    · rcases List.mem_cons.mp z with z | z
      · obtain ⟨o, e⟩ := ex1 a (z ▸ List.mem_append_left _ r₁.lin)
        rw [hn] at e; cases e
      · obtain ⟨o, e⟩ := exK a z; rw [hn] at e; cases e
    · cases e : c.b0.get? a with
      | none => rfl
      | some o => have := r₁.kb a o e; rw [hn] at this; cases this
  obtain ⟨oI, gI, ntI, _⟩ := hI 0 h' hst
  have hIlt : I < D := hD ▸ Heap.lt_size gI
  have hID : I ≠ D := Nat.ne_of_lt hIlt
  have hIC : I ≠ D + 1 := Nat.ne_of_lt (Nat.lt_succ_of_lt hIlt)
  have hDC : D ≠ D + 1 := Nat.ne_of_lt (Nat.lt_succ_self _)
  obtain ⟨nD1, nD2, nD3⟩ := newN D (fresh1 D (Nat.le_refl _)) hDC
  obtain ⟨nI1, nI2, nI3⟩ := newN I hn hIC
  have R₃ : Rep c' ⟨fv, σ₁.own ++ [(D, .list [])]⟩ h₂ := R₂.addOwn ⟨_, _, hDl, VRs.nil⟩ rfl nD1 nD2 nD3
  have fD : ∀ (own : List (Addr × AO)) (acc : List AV), feet (own ++ [(D, .list acc)]) = feet own ++ [D] := fun own acc => by rw [feet_append, feet_cons, feet_nil]; rfl
  generalize hs₂ : ({ s₁ with heap := h₂, toks := tk + ([] : List (Str × Value)).length } : Shared) = s₂
  have hs₂h : s₂.heap = h₂ := by rw [← hs₂]
  have hs₂r : s₂ = { s₁ with heap := s₂.heap, toks := s₂.toks } := by rw [← hs₂]
  have hst₂ : St 0 s₂.heap := W.frame _ _ _ hst fun b _ o e => by rw [hs₂h]; exact k2 b o e
  have R₄ : RepS c' ⟨fv, σ₁.own ++ [(D, .list [])]⟩ s₂ := ⟨by rw [hs₂h]; exact R₃, by rw [← hs₂]; exact Nat.le_trans htk (Nat.le_add_right ..)⟩
  have hI₂ : I ∉ feet (σ₁.own ++ [(D, AO.list [])]) := fun z => by
    rw [fD] at z
    rcases List.mem_append.mp z with z | z
    · exact nI1 (List.mem_append_right _ (List.mem_append_right _ z))
    · exact hID (List.mem_singleton.mp z)
  have hNT1 : NoTup s₁.heap (c'.fr ++ feet σ₁.own) := fun b hb o e => by
    rcases List.mem_append.mp hb with w | w
    · rw [efr] at w; rw [List.mem_singleton.mp w, fresh1 _ (Nat.le_succ _)] at e; cases e
    · exact r₁.noTup b (List.mem_append_right _ w) o e
  have hNTK : NoTup s₁.heap c'.K := fun b hb o e => by
    rw [eK] at hb
    rcases List.mem_cons.mp hb with rfl | w
    · exact r₁.noTup _ (List.mem_append_left _ r₁.lin) o e
    · exact r₁.noTupK b w o e
  have f₀ : Aft c' ⟨fv, σ₁.own⟩ s₁ ⟨fv, σ₁.own ++ [(D, .list [])]⟩ s₂ := by
    refine ⟨hs₂r, Sp.of_keep fun a o _ e => by rw [hs₂h]; exact k12 a o e, fun a o _ e => ⟨o, by rw [hs₂h]; exact k12 a o e⟩, fun a ha => ?_⟩
    replace ha : a ∈ feet (σ₁.own ++ [(D, AO.list [])]) := ha
    rw [fD] at ha
    rcases List.mem_append.mp ha with z | z
    · exact .inl z
    · rw [List.mem_singleton.mp z]; exact .inr (fresh1 D (Nat.le_refl _))
  have WBc : WB c' ⟨fv, σ₁.own⟩ s₁ I fp items.length P St := by
    refine ⟨by rw [eP, eW, eA]; exact W, hn, ⟨fun z => nI1 (List.mem_append_left _ z), fun z => nI1 (List.mem_append_right _ (List.mem_append_left _ z)), nI2⟩, nI3, hI, hNT1, hNTK, fun b hb => ?_⟩
    rcases hfp b hb with z | ⟨n1, n2, o, e⟩
    · exact .inl z
    · refine .inr ⟨fun z => ?_, fun z => ?_, o, e⟩
      · rcases List.mem_append.mp z with z | z
        · rw [efr] at z; rw [List.mem_singleton.mp z, fresh1 _ (Nat.le_succ _)] at e; cases e
        · exact n1 (List.mem_append_right _ z)
      · rw [eK] at z
        rcases List.mem_cons.mp z with z | z
        · exact n1 (z ▸ List.mem_append_left _ r₁.lin)
        · exact n2 z
  have loop : codeAny (model c.prog c.w) c.A (.compLoop (.ListComp elt (⟨target, iter, ifs, 0⟩ :: gs) scope pos) 0 (.ref I) (.ref D) (compEnvC scope cl (D + 1) c.env)) (compPost (model c.prog c.w) c.A E use Q (.ref D) (D + 1)) s₂ := by
    refine hl _ _ _ _ _ (fun n s' => ∃ i acc σ', n = items.length - i ∧ i ≤ items.length ∧ acc.length ≤ i * m ∧ inv c' i acc σ' ∧ WJ c' ⟨fv, σ₁.own⟩ s₁ I St i ⟨σ'.loc, σ'.own ++ [(D, .list acc)]⟩ s') (fun n s' hJ => ?_) items.length s₂
      ⟨0, [], ⟨fv, σ₁.own⟩, rfl, Nat.zero_le _, Nat.zero_le _, h0, R₄, f₀, hst₂, hI₂⟩
    obtain ⟨i, acc, σ', rfl, hi, hal, hinv, J⟩ := hJ
    rw [← eE, ← eA, ← eP, ← eW]
    by_cases hlt : i < items.length
    · refine WBc.item J hlt fun v' s₄ hPv r4 f4 ⟨oI, gI, ngI⟩ again => ?_
      have hx : items[i]? = some items[i] := by simp [hlt]
      refine ⟨fun Q' E' h' => goOk gI ngI h', ?_⟩
      refine ((turn i items[i] acc σ' hx hinv v').behind (R := [(D, .list acc)]) (X := noX)) s₄ r4 ((hP i _ v' hx hPv).mono f4.sp hNT1 hNTK) _ _ (fun _ _ σ₅ s₅ r₅ f₅ _ h₅ => ?_) (fun _ _ _ _ _ z => z.elim)
      obtain ⟨σ₅', rfl, h₅⟩ := h₅
      have hlen : i * m + m ≤ 16777216 := Nat.le_trans (by rw [← Nat.succ_mul]; exact Nat.mul_le_mul_right m hlt) hil
      refine hTB _ _ _ _ h₅ hal hlen D s₅ r₅ _ _ fun acc' σ₆ s₆ hl₆ r₆ f₆ h₆ => ?_
      exact ⟨items.length - (i + 1), Nat.sub_lt_sub_left hlt (Nat.lt_succ_self i), i + 1, acc', σ₆, rfl, hlt, by rw [Nat.succ_mul]; exact hl₆, h₆, again _ _ r₆ (f₅.trans f₆)⟩
    · have hi' : i = items.length := Nat.le_antisymm hi (Nat.ge_of_not_lt hlt)
      subst hi'
      refine WBc.done J fun s₄ r4 f4 => ?_
      obtain ⟨m4, hns4, _⟩ := r4.ns
      rw [eE] at hns4
      have dn := done acc σ' hinv D
      have pm : (feet ((D, .list acc) :: σ'.own)).Perm (feet (σ'.own ++ [(D, .list acc)])) := feet_perm (List.perm_append_singleton _ _).symm
      have BB := r₁.toRep.back (own' := (D, .list acc) :: σ'.own) (s' := s₄) (K' := c.env.locals :: c.K) (F' := [D + 1]) (loc := σ₁.loc) (own := σ₁.own) f4.rest (fun a o hna e => ?_) (fun a ha => by rw [List.mem_singleton.mp ha]; exact fresh1 _ (Nat.le_succ _)) (fun a ha => by
          rcases List.mem_cons.mp ha with rfl | ha
          · exact List.mem_append_left _ r₁.lin
          · exact List.mem_append_right _ ha) (fun a o hna e => f4.al a o hna e) (fun p hp => ?_) ?_ (fun a ha => ?_) (fun a o e => ?_)
      · obtain ⟨RB, FB⟩ := BB
        have fr1 := fresh1 (D + 1) (Nat.le_succ _)
        have nC : D + 1 ∉ feet (σ'.own ++ [(D, .list acc)]) := fun z => (List.nodup_append.mp r4.nd).2.2 (D + 1) (by rw [efr]; exact .head _) (D + 1) (List.mem_append_right _ z) rfl
        rw [eP, eW, eA]
        refine fin D (D + 1) _ _ ⟨RB, r4.tp⟩ (f₁.trans FB) dn ⟨m4, hns4⟩ (fun z => ?_) (fun z => ?_) ?_ ?_
        · rcases List.mem_append.mp z with w | w
          · obtain ⟨o, e⟩ := ex1 _ (List.mem_append_left _ w); rw [fr1] at e; cases e
          · rcases List.mem_append.mp w with w | w
            · obtain ⟨o, e⟩ := ex1 _ (List.mem_append_right _ (List.mem_append_left _ w)); rw [fr1] at e; cases e
            · exact nC (pm.mem_iff.mp w)
        · obtain ⟨o, e⟩ := exK _ z; rw [fr1] at e; cases e
        · cases e : c.b0.get? (D + 1) with
          | none => rfl
          | some o => have := r₁.kb _ o e; rw [fr1] at this; cases this
        · rintro b o n e rfl
          obtain ⟨o', e'⟩ := f₁.al _ o n e
          rw [fr1] at e'; cases e'
      · have := f4.sp a o (by rw [efr]; exact hna) e
        rw [eK] at this
        exact this
      · exact r4.own p (by
          rcases List.mem_cons.mp hp with rfl | hp
          · exact List.mem_append_right _ (.head _)
          · exact List.mem_append_left _ hp)
      · exact pm.nodup_iff.mpr r4.toRep.feetNodup
      · exact f4.fs a (pm.mem_iff.mp ha)
      · exact r4.kb a o (by rw [eb0]; exact e)
  exact codeAny_compStart_list loop (W.self 0 _ _ _ hst₂ loop)

theorem evCompG {z : Bool} {n m : Nat} {c : Cx} {elt target iter : Expr} {ifs : List Expr} {gs : List Comprehension} {scope : Scope} {pos : Pos} {cl : List (Str × Addr)} {cells : List Addr} {σ : St} {Φ : AV → St → Prop} {X : XP} {B : Body}
    {TB : Cx → (List AV → St → Prop) → List AV → St → Prop} (R : List (Addr × AO)) (g : Good z n c)
    (hl : LoopRule c.prog c.w (.ListComp elt (⟨target, iter, ifs, 0⟩ :: gs) scope pos) target B 0)
    (hTB : ∀ C inv b acc σ, TB (compCx c scope cl cells C) inv acc σ → acc.length ≤ b → b + m ≤ 16777216 → BodyOK (compCx c scope cl cells C) B inv (b + m) acc σ)
    (N : CompN c scope cl cells) (h : CompH c scope cl cells target iter m TB R σ (fun d => Φ (.ref d)) X)
    (hs : ∀ x, foldedSetIterable iter c.env x = pure x := by intro _; rfl) : Tri c (Hid c σ R) (eval (.ListComp elt (⟨target, iter, ifs, 0⟩ :: gs) scope pos) c.env) VR σ Φ X := by
  intro s rp hR Q E q x
  rw [eval_ListComp]
  refine compCore R g hl hTB N h rp hR x (fun D C σ₂ s₂ r₂ f₂ φ hm n1 n2 n3 n4 => ?_) hs
  obtain ⟨m, hm⟩ := hm
  refine ⟨m, hm, fun h' hs' => ?_⟩
  obtain ⟨r3, f3⟩ := letGoC r₂ f₂ hm n1 n2 n3 n4 hs'
  exact q _ (.ref D) _ _ r3 f3 VR.mkRef φ

/-- a comprehension whose list goes straight into a name -/
theorem Ex.assignCompG {z : Bool} {n m : Nat} {c : Cx} {y : String} {np spos : Pos} {elt target iter : Expr} {ifs : List Expr} {gs : List Comprehension} {scope : Scope} {pos : Pos} {cl : List (Str × Addr)} {cells : List Addr} {σ : St} {Φ : Fl → St → Prop} {X : XP} {B : Body}
    {TB : Cx → (List AV → St → Prop) → List AV → St → Prop} (R : List (Addr × AO)) (g : Good z n c)
    (hl : LoopRule c.prog c.w (.ListComp elt (⟨target, iter, ifs, 0⟩ :: gs) scope pos) target B 0)
    (hTB : ∀ C inv b acc σ, TB (compCx c scope cl cells C) inv acc σ → acc.length ≤ b → b + m ≤ 16777216 → BodyOK (compCx c scope cl cells C) B inv (b + m) acc σ)
    (N : CompN c scope cl cells) (h : CompH c scope cl cells target iter m TB R σ (fun d σ' => Φ .next (σ'.set y (.ref d))) X)
    (hs : ∀ x, foldedSetIterable iter c.env x = pure x := by intro _; rfl) (hw : swapsWith (.ListComp elt (⟨target, iter, ifs, 0⟩ :: gs) scope pos) (some (.Name (Str.ofString y) np)) spos.line c.env = pure true := by rfl)
    (hx : CanStore c y := by exact Or.inl rfl) (hk2 : c.env.scope.kind = .function := by rfl) :
    Tri c (Hid c σ R) (exec (.Assign [.Name (Str.ofString y) np] (.ListComp elt (⟨target, iter, ifs, 0⟩ :: gs) scope pos) spos) c.env) FR σ Φ X := by
  intro s rp hR Q E q x
  rw [exec_Assign_Name_used _ _ _ _ hw]
  refine wpAny_bind (wpAny_standAt (wpAny_bind ?_))
  rw [arm_evalThenUse_ListComp]
  refine wpAny_bind (compCore (Φ := fun d σ₁ => Φ .next (σ₁.set y (.ref d))) R g hl hTB N h rp hR x (fun D C σ₂ s₂ r₂ f₂ φ hm n1 n2 n3 n4 => ?_) hs)
  refine wpAny_assign_Name (storeLoc (Φ := fun _ σ' => σ' = σ₂.set y (.ref D)) hk2 hx rfl s₂ r₂ VR.mkRef _ _ (fun _ _ σ₃ s₃ r₃ f₃ _ h₃ => ?_) (x.go f₂))
  subst h₃
  obtain ⟨m, hm⟩ := hm
  have hm3 : s₃.heap.Ns C m := by
    obtain ⟨o, es, ep, g', d', w⟩ := hm
    exact ⟨o, es, ep, (f₃.sp C o (fun z => n1 (by
      rcases List.mem_append.mp z with z | z
      · exact List.mem_append_left _ z
      · exact List.mem_append_right _ (List.mem_append_right _ z))) g').1 n2, d', w⟩
  refine ⟨m, hm3, fun h' hs' => ?_⟩
  obtain ⟨r4, f4⟩ := letGoC r₃ (f₂.trans f₃) hm3 n1 n2 n3 n4 hs'
  exact wpAny_pure (wpAny_pure (q _ .next _ _ r4 f4 rfl φ))

theorem evCompR {z : Bool} {n : Nat} {c : Cx} {elt target iter : Expr} {ifs : List Expr} {scope : Scope} {pos : Pos} {cl : List (Str × Addr)} {cells : List Addr} {σ : St} {Φ : AV → St → Prop} {X : XP} (R : List (Addr × AO)) (g : Good z n c) (N : CompN c scope cl cells)
    (h : CompH c scope cl cells target iter 1 (TB1 elt ifs) R σ (fun d => Φ (.ref d)) X) (hs : ∀ x, foldedSetIterable iter c.env x = pure x := by intro _; rfl) : Tri c (Hid c σ R) (eval (.ListComp elt [⟨target, iter, ifs, 0⟩] scope pos) c.env) VR σ Φ X :=
  evCompG R g compLoopAny (fun _ _ _ _ _ => TB1.ok) N h hs

theorem Ex.assignComp {z : Bool} {n : Nat} {c : Cx} {y : String} {np spos : Pos} {elt target iter : Expr} {ifs : List Expr} {scope : Scope} {pos : Pos} {cl : List (Str × Addr)} {cells : List Addr} {σ : St} {Φ : Fl → St → Prop} {X : XP} (R : List (Addr × AO)) (g : Good z n c) (N : CompN c scope cl cells)
    (h : CompH c scope cl cells target iter 1 (TB1 elt ifs) R σ (fun d σ' => Φ .next (σ'.set y (.ref d))) X)
    (hs : ∀ x, foldedSetIterable iter c.env x = pure x := by intro _; rfl) (hw : swapsWith (.ListComp elt [⟨target, iter, ifs, 0⟩] scope pos) (some (.Name (Str.ofString y) np)) spos.line c.env = pure true := by rfl)
    (hx : CanStore c y := by exact Or.inl rfl) (hk2 : c.env.scope.kind = .function := by rfl) :
    Tri c (Hid c σ R) (exec (.Assign [.Name (Str.ofString y) np] (.ListComp elt [⟨target, iter, ifs, 0⟩] scope pos) spos) c.env) FR σ Φ X :=
  Ex.assignCompG R g compLoopAny (fun _ _ _ _ _ => TB1.ok) N h hs hw hx hk2
end Mine

-- BF
namespace Mine
open PySem PySem.Calls PyProof.Rows PySem.W

theorem Ev.lit {c : Cx} {x : Str} {k : Nat} {pos : Pos} {σ : St} {Φ : AV → St → Prop} {X : XP} (l : List Nat) (e : x.cps.toList = l) (h : Φ (.str l) σ) : Ev c (.Constant (.str x) k pos) σ Φ X := Ev.str (by rw [e]; exact h)
/-! an object's dict -/
theorem isStr_ofString (x y : String) (t : Tok) : (Value.str (Str.ofString x) t).isStr (Str.ofString y) = decide (x = y) := by
  have : (Value.str (Str.ofString x) t).isStr (Str.ofString y) = (Str.ofString x == Str.ofString y) := by simp [Value.isStr]
  rw [this]
  by_cases h : x = y
  · subst h; simp
  · simp [h]; exact fun e => h (ofString_inj e)
theorem ES.noRef {h : Heap} : ∀ {fs : List (String × AV)} {es : List DictEntry}, ES h fs es → es.any (·.refKey) = false
  | [], es, q => by cases q; rfl
  | p :: l, es, q => by
    obtain ⟨e, r, t, rfl, a, _, d⟩ := q
    rw [List.any_cons, ES.noRef d]
    simp [DictEntry.refKey, a]
theorem ES.get {h : Heap} {x : String} : ∀ {fs : List (String × AV)} {es : List DictEntry}, ES h fs es →
    match fs.lookup x with | some av => ∃ v, getL (Str.ofString x) es = some (some v) ∧ VR h av v | none => getL (Str.ofString x) es = some Option.none
  | [], es, q => by cases q; rfl
  | p :: l, es, q => by
    have nr := ES.noRef q
    obtain ⟨e, r, t, rfl, a, b, d⟩ := q
    have ih := ES.get (x := x) d
    obtain ⟨y, av⟩ := p
    rw [List.lookup_cons]
    have hk : e.key.isStr (Str.ofString x) = decide (y = x) := by rw [a]; exact isStr_ofString y x t
    by_cases hx : x = y
    · subst hx
      simp only [beq_self_eq_true]
      exact ⟨e.val, by unfold getL; simp [hk], b⟩
    · have hb : (x == y) = false := by simpa using hx
      rw [hb]
      dsimp only
      have eg : getL (Str.ofString x) (e :: r) = getL (Str.ofString x) r := by
        unfold getL
        rw [List.find?_cons, hk, decide_eq_false (Ne.symm hx)]
        rw [nr, ES.noRef d]
      rw [eg]; exact ih
theorem ES.put {h : Heap} {x : String} {hsh : Int} {t : Tok} {v : Value} {av : AV} (va : VR h av v) : ∀ {fs : List (String × AV)} {es : List DictEntry}, ES h fs es → ES h (setL x av fs) (putL (Str.ofString x) hsh (.str (Str.ofString x) t) v es)
  | [], es, q => by cases q; exact ⟨_, _, t, rfl, rfl, va, rfl⟩
  | p :: l, es, q => by
    obtain ⟨e, r, u, rfl, a, b, d⟩ := q
    obtain ⟨y, aw⟩ := p
    have hk : e.key.isStr (Str.ofString x) = decide (y = x) := by rw [a]; exact isStr_ofString y x u
    unfold setL putL
    rw [hk]
    by_cases hx : x = y
    · subst hx
      simp only [if_true, decide_true]
      exact ⟨_, _, u, rfl, a, va, d⟩
    · rw [if_neg hx, if_neg (by simpa using Ne.symm hx)]
      exact ⟨_, _, u, rfl, a, b, ES.put va d⟩
theorem ES.length {h : Heap} : ∀ {fs : List (String × AV)} {es : List DictEntry}, ES h fs es → es.length = fs.length
  | [], es, q => by cases q; rfl
  | p :: l, es, q => by obtain ⟨e, r, u, rfl, a, b, d⟩ := q; simp [ES.length d]

theorem own_inst {c : Cx} {σ : St} {h : Heap} (r : Rep c σ h) {i : Nat} {a C dx : Addr} {fs : List (String × AV)} (e : σ.own[i]? = some (a, .inst C dx fs)) :
    ∃ es n, h.get? a = some ⟨.ref C, some dx, .plain, #[]⟩ ∧ h.get? dx = some (dictOf es n) ∧ fs.length ≤ 20 ∧ ES h fs es ∧ InstAt h a ⟨.ref C, some dx, .plain, #[]⟩ C (some (dictOf es n)) := by
  obtain ⟨es, n, g1, g2, hl, q⟩ := r.own _ (List.mem_of_getElem? e)
  exact ⟨es, n, g1, g2, hl, q, g1, rfl, rfl, g2⟩

/-- what a class tells of a name that its objects hold themselves -/
structure OwnName (K : Frag) (C : Addr) (x : String) : Prop where
  g : plainGet K C (Str.ofString x) = true
  h : hasDictIn K C = true
  f : ∃ attr, findIn K (.ref C) (Str.ofString x) = some attr ∧ noGet K attr = true

theorem VR.handed {h : Heap} {a : AV} {v : Value} (q : VR h a v) (hb : a.notBi = true) : handedIn v = true := by
  cases a with
  | none => cases q.none'; rfl
  | bool b => cases q.bool'; rfl
  | int i => obtain ⟨t, rfl⟩ := q.int'; rfl
  | str l => obtain ⟨t, rfl⟩ := q.str'; rfl
  | tup l => rw [VR] at q; obtain ⟨_, _, _, rfl, _⟩ := q; rfl
  | rng _ _ _ => rw [VR] at q; obtain ⟨_, _, _, _, rfl, _⟩ := q; rfl
  | ref a => cases q.ref'; rfl
  | bi _ => cases hb
  | ty _ => rw [VR] at q; subst q; rfl

theorem In.rep {K : Frag} {c : Cx} {σ : St} {h : Heap} (X : K.In c.b0) (r : Rep c σ h) : K.In h := X.keeps r.kb

/-- a name read from an object's own dict -/
theorem getOwn {K : Frag} {c : Cx} {σ : St} {a C dx : Addr} {fs : List (String × AV)} {x : String} {av : AV} {expr : Bool} {Φ : AV → St → Prop} {X : XP} (XK : K.In c.b0) (N : OwnName K C x) (i : Nat) (e : σ.own[i]? = some (a, .inst C dx fs))
    (ex : fs.lookup x = some av) (k : Φ av σ) (hb : av.notBi = true := by rfl) : Tri c T0 (getAttr (.ref a) (Str.ofString x) expr) VR σ Φ X :=
  Tri.pureStep k fun s _ r Q E q => by
    obtain ⟨es, n, g1, g2, hl, qe, I⟩ := own_inst r.toRep e
    have hg := ES.get (x := x) qe
    rw [ex] at hg
    obtain ⟨v, hv, va⟩ := hg
    obtain ⟨attr, ha, hn⟩ := N.f
    refine get_value (In.rep XK r.toRep) I (plainGet_of N.g).1 (findObj_own N.h ha hn (by rw [lookIn_dict]; exact hv)) (va.handed hb) ?_
    exact q v s.heap (s.toks + 1) (fun _ _ e => e) va

/-- what a class tells of a name that is set on its objects -/
structure SetName (K : Frag) (C : Addr) (x : String) : Prop where
  s : findIn K (.ref C) "__setattr__" = some (some (.builtin "object.__setattr__"))
  p : plainOver K C = true
  t : takerIn K C (Str.ofString x) = some none
  h : hasDictIn K C = true

theorem osaDict {K : Frag} {prog : Program} {w : World} {A : Around} {R : Result → Shared → Prop} {s : Shared} {a C dx : Addr} {es : List DictEntry} {n : Nat} {x : String} {tk : Tok} {v : Value} (X : K.In s.heap) (N : SetName K C x)
    (I : InstAt s.heap a ⟨.ref C, some dx, .plain, #[]⟩ C (some (dictOf es n))) (hl : (getL (Str.ofString x) es).isSome = true)
    (h : ∀ tk hsh t, R (.ok (.ret .none)) { s with heap := s.heap.update dx (Obj.putName (Str.ofString x) hsh (.str (Str.ofString x) t) v), toks := tk }) (hz' : ∀ hsh t, (putL (Str.ofString x) hsh (.str (Str.ofString x) t) v es).length ≤ 1000) :
    codeAny (model prog w) A (.call (.builtin "object.__setattr__") ⟨[.ref a, .str (Str.ofString x) tk, v], []⟩) R s := by
  refine osa_open X I N.p N.t fun b => ?_
  obtain ⟨cd, hc, hd'⟩ := any_some N.h
  have D : s.heap.get? dx = some (dictOf es n) := I.dict
  have hx := I.at_
  refine wpAny_bind (wpAny_pure (wpAny_bind (wpAny_bind (wpAny_loadPart hx (wpAny_bind ((looks_clsIn X hc).here ?_))))))
  rw [hd']
  refine wpAny_pure (a := some dx) (wpAny_bind (wpAny_pure (wpAny_bind ?_)))
  unfold nsSet
  refine wpAny_bind (wpAny_bind (wpAny_askSetting (wpAny_pure (wpAny_bind (wpAny_mkText (wpAny_bind (wpAny_loadPart D ?_)))))))
  dsimp only
  have c : (!es.toArray.any (·.key.isStr (Str.ofString x)) && es.toArray.any (·.refKey)) = false := by
    rw [← Array.any_toList, ← Array.any_toList]
    unfold getL at hl
    split at hl
    · rename_i en he
      rw [List.any_eq_true.mpr ⟨en, List.mem_of_find?_eq_some he, List.find?_some he⟩]; rfl
    · split at hl
      · cases hl
      · rename_i z; rw [Bool.not_eq_true] at z; rw [z, Bool.and_false]
  rw [aRefKeyMayBeTheName_at, c]
  refine wpAny_updatePart D ?_
  have D' : (s.heap.update dx (Obj.putName (Str.ofString x) (PyData.keyHash w.params (Str.ofString x)) (.str (Str.ofString x) s.toks) v)).get? dx = some (dictOf (putL (Str.ofString x) (PyData.keyHash w.params (Str.ofString x)) (.str (Str.ofString x) s.toks) v es) (putN (Str.ofString x) es n)) := by
    rw [Heap.get?_update_self _ D (by rw [putName_dict]; rfl), putName_dict]
  refine wpAny_bind (wpAny_lookBehind D' (by exact pastItsLine_dict (by rw [List.size_toArray, sizeLine_eq]; have := hz' (PyData.keyHash w.params (Str.ofString x)) s.toks; omega)) ?_)
  exact wpAny_pure (h _ _ _)
theorem setDict {K : Frag} {prog : Program} {w : World} {A : Around} {E : Value → Shared → Prop} {s : Shared} {a C dx : Addr} {es : List DictEntry} {n : Nat} {x : String} {v : Value} {Q : Unit → Shared → Prop} (X : K.In s.heap) (N : SetName K C x)
    (I : InstAt s.heap a ⟨.ref C, some dx, .plain, #[]⟩ C (some (dictOf es n))) (hl : (getL (Str.ofString x) es).isSome = true)
    (h : ∀ tk hsh t, Q () { s with heap := s.heap.update dx (Obj.putName (Str.ofString x) hsh (.str (Str.ofString x) t) v), toks := tk }) (hz' : ∀ hsh t, (putL (Str.ofString x) hsh (.str (Str.ofString x) t) v es).length ≤ 1000) :
    wpAny (model prog w) A (setAttr (.ref a) (Str.ofString x) v) Q E s :=
  set_plain X I N.s (osaDict (s := { s with toks := s.toks + 1 }) X N I hl h hz')

/-- a name set on an object -/
theorem setOwn {K : Frag} {c : Cx} {σ : St} {a C dx : Addr} {fs : List (String × AV)} {x : String} {av : AV} {v : Value} {Φ : Unit → St → Prop} {X : XP} (XK : K.In c.b0) (N : SetName K C x) (i : Nat) (e : σ.own[i]? = some (a, .inst C dx fs))
    (k : Φ () ⟨σ.loc, σ.own.set i (a, .inst C dx (setL x av fs))⟩) (hz : (setL x av fs).length ≤ 20 := by exact Nat.le_of_ble_eq_true rfl) : Tri c (fun h => VR h av v) (setAttr (.ref a) (Str.ofString x) v) (fun _ _ _ => True) σ Φ X :=
  Tri.updStep (ao' := .inst C dx (setL x av fs)) (x := ()) e rfl k fun s p r o Q E q => by
    obtain ⟨es, n, g1, g2, hl, qe, I⟩ := own_inst r.toRep e
    have nt := o.noTup
    have hg := ES.get (x := x) qe
    have lenE := qe.length
    refine setDict (In.rep XK r.toRep) N I (by
      cases q0 : fs.lookup x with
      | none => rw [q0] at hg; dsimp only at hg; rw [hg]; rfl
      | some w => rw [q0] at hg; obtain ⟨u, hu, _⟩ := hg; rw [hu]; rfl) (fun tk hsh t => ?_) (fun hsh t => by
      have := (ES.put (x := x) (hsh := hsh) (t := t) p qe).length
      omega)
    have hs : Heap.SameBut dx s.heap (s.heap.update dx (Obj.putName (Str.ofString x) hsh (.str (Str.ofString x) t) v)) := Heap.SameBut.update ..
    have sp1 := sameSp hs
    have nt1 : NoTup s.heap [dx] := fun b hb o e => nt b (by rw [List.mem_singleton.mp hb]; exact .tail _ (.head _)) o e
    have hne : a ≠ dx := fun z => by subst z; rw [g1] at g2; cases g2
    refine q () _ tk (sp1.weaken fun b hb => by rw [List.mem_singleton.mp hb]; exact .tail _ (.head _)) ⟨putL (Str.ofString x) hsh (.str (Str.ofString x) t) v es, putN (Str.ofString x) es n, (hs.2 a hne).trans g1, ?_, hz, ?_⟩ trivial
    · rw [Heap.get?_update_self _ g2 (by rw [putName_dict]; rfl), putName_dict]
    · exact (ES.put p qe).mono sp1 nt1 NoTup.nil
end Mine

-- BG
namespace Mine
open PySem PySem.Calls PyProof.Rows PySem.W

/-! attributes as expressions and statements -/
abbrev Get (c : Cx) (a : Addr) (x : Str) (expr : Bool) (σ : St) (Φ : AV → St → Prop) (X : XP) : Prop := Tri c T0 (getAttr (.ref a) x expr) VR σ Φ X
theorem Ev.attr {c : Cx} {o : Expr} {x : Str} {pos : Pos} {σ : St} {Φ : AV → St → Prop} {X : XP} (h : Ev c o σ (fun a σ₁ => ∃ d, a = .ref d ∧ Get c d x true σ₁ Φ X) X)
    (he : eval (.Attribute o x pos) c.env = (do
      let o' ← eval o c.env
      standAt pos.atName
      let r ← holding [o'] (getAttr o' x true)
      letTemporaryGo o o' r
      pure r) := by rfl) : Ev c (.Attribute o x pos) σ Φ X := fun s r p Q E q xx => by
  refine Attribute_any_ (h s r p _ _ (fun v a σ₁ s₁ r₁ f₁ va h₁ => ?_) xx) he
  obtain ⟨d, rfl, h₁⟩ := h₁
  cases va.ref'
  exact h₁ s₁ r₁ trivial Q E (q.go f₁) (xx.go f₁)

abbrev Put (c : Cx) (a : Addr) (x : Str) (av : AV) (σ : St) (Φ : Unit → St → Prop) (X : XP) : Prop := ∀ v, Tri c (fun h => VR h av v) (setAttr (.ref a) x v) (fun _ (_ : Unit) _ => True) σ Φ X
theorem Ex.putAttr {c : Cx} {o e : Expr} {x : Str} {pos' pos : Pos} {σ : St} {Φ : Fl → St → Prop} {X : XP} (h : Ev c e σ (fun av σ₁ => Ev c o σ₁ (fun a σ₂ => ∃ d, a = .ref d ∧ Put c d x av σ₂ (fun _ σ₃ => Φ .next σ₃) X) X) X)
    (hs : swapsWith e (some (.Attribute o x pos')) pos.line c.env = pure false := by rfl) : Ex c (.Assign [.Attribute o x pos'] e pos) σ Φ X := fun s r p Q E q xx => by
  refine plainObj_wpAny_Assign_Attribute (h s r p _ _ (fun v av σ₁ s₁ r₁ f₁ va h₁ => ?_) xx) hs
  refine h₁ s₁ r₁ trivial _ _ (fun w a σ₂ s₂ r₂ f₂ wa h₂ => ?_) (xx.go f₁)
  obtain ⟨d, rfl, h₂⟩ := h₂
  cases wa.ref'
  exact h₂ v s₂ r₂ (va.after r₁ f₂) _ _ (fun _ _ σ₃ s₃ r₃ f₃ _ h₃ => q _ .next σ₃ s₃ r₃ ((f₁.trans f₂).trans f₃) rfl h₃) ((xx.go f₁).go f₂)
theorem Ex.augAttr {c : Cx} {o e : Expr} {x : Str} {op : Operator} {pos' pos : Pos} {σ : St} {Φ : Fl → St → Prop} {X : XP}
    (h : Ev c o σ (fun a σ₁ => ∃ d, a = .ref d ∧ Get c d x true σ₁ (fun old σ₂ => Ev c e σ₂ (fun b σ₃ => Op2 c (inplaceOp op) old b σ₃ (fun new σ₄ => Put c d x new σ₄ (fun _ σ₅ => Φ .next σ₅) X) X) X) X) X) : Ex c (.AugAssign (.Attribute o x pos') op e pos) σ Φ X := fun s r p Q E q xx => by
  refine wpAny_AugAssign_AttributeAny (h s r p _ _ (fun v a σ₁ s₁ r₁ f₁ va h₁ => ?_) xx)
  obtain ⟨d, rfl, h₁⟩ := h₁
  cases va.ref'
  refine h₁ s₁ r₁ trivial _ _ (fun old av σ₂ s₂ r₂ f₂ vo h₂ => ?_) (xx.go f₁)
  refine h₂ s₂ r₂ trivial _ _ (fun b bv σ₃ s₃ r₃ f₃ vb h₃ => ?_) ((xx.go f₁).go f₂)
  refine h₃ old b s₃ r₃ ⟨vo.after r₂ f₃, vb⟩ _ _ (fun nw nv σ₄ s₄ r₄ f₄ vn h₄ => ?_) (((xx.go f₁).go f₂).go f₃)
  exact h₄ nw s₄ r₄ vn _ _ (fun _ _ σ₅ s₅ r₅ f₅ _ h₅ => q _ .next σ₅ s₅ r₅ ((((f₁.trans f₂).trans f₃).trans f₄).trans f₅) rfl h₅) ((((xx.go f₁).go f₂).go f₃).go f₄)

/-! calls of what a name after a dot means -/
theorem call_K {K : Frag} {c : Cx} {pos : Pos} {es : List Expr} {f : Value} {first : List Value} {fa : List AV} {σ : St} {Φ : AV → St → Prop} {X : XP} (XK : K.In c.b0) (hk : keepIn K f = true)
    (h : Arg c pos es σ (fun l σ₁ => Cal c f (fa ++ l) σ₁ Φ X) X) (hs : (backTo pos (starEach es c.env)).any (·.1) = false := by rfl) :
    Tri c (fun h => VRs h fa first) (callWith pos f first (backTo pos (starEach es c.env)) []) VR σ Φ X := fun s r p Q E q x => by
  refine callWith_of (P := fun h => K.In h) (by rw [hs]; rfl) (keeps_K hk) (evalArgs_any hs (h s r trivial _ _ (fun vs l σ₁ s₁ r₁ f₁ vl h₁ => ?_) x))
  refine ⟨In.rep XK r₁.toRep, ?_⟩
  exact h₁ (first ++ vs) s₁ r₁ ((VRs.after r f₁ p).append vl) Q E (q.go f₁) (x.go f₁)

theorem call_attr {prog : Program} {w : World} {A : Around} {E : Value → Shared → Prop} {s : Shared} {env : Env} {o : Expr} {name : Str} {apos pos : Pos} {args : List Expr} {Q : Value → Shared → Prop}
    (hbase : attributeBase o name env (eval o env) = eval o env)
    (hfew : ((backTo pos (starEach args env)).all (fun x => !x.1) && (backToKw pos (keywordEach [] env)).all (fun x => x.1.isSome)
      && decide (args.length + ([] : List Keyword).length + (if ([] : List Keyword).isEmpty then 0 else 1) < 30)) = true)
    (hline : (apos.endLine == pos.line) = true)
    (h : wpAny (model prog w) A (eval o env) (fun ov s₁ => ∀ pl, wpAny (model prog w) A (getMethod ov name pl) (fun r s₂ => wpAny (model prog w) A (callWith pos r.1 r.2 (backTo pos (starEach args env)) []) Q E s₂) E s₁) E s) :
    wpAny (model prog w) A (eval (.Call (.Attribute o name apos) args [] pos) env) Q E s := by
  rw [arm_eval_Call, hbase]
  refine wpAny_bind (wpAny_mono h (fun ov s₁ h₁ => ?_) fun _ _ e => e)
  refine wpAny_bind (wpAny_standAt ?_)
  have hform : methodCallForm (args.length + ([] : List Keyword).length) (backTo pos (starEach args env)) (backToKw pos (keywordEach [] env)) = true := hfew
  have hpos : methodCallPos true o env apos pos = pure pos := by unfold methodCallPos; simp [hline]
  unfold methodCall
  rw [hform]
  refine wpAny_bind (wpAny_holding (wpAny_mono (h₁ _) (fun r s₂ h₂ => ?_) fun _ _ e => e))
  exact wpAny_bind (wpAny_of_eq hpos h₂)

/-- what a class tells of a method -/
structure MethName (K : Frag) (C : Addr) (x : String) (f : Addr) : Prop where
  g : plainGet K C (Str.ofString x) = true
  h : hasDictIn K C = true
  fi : findIn K (.ref C) (Str.ofString x) = some (some (.ref f))
  t : isFn K (.ref f) = true
  k : keepIn K (.ref f) = true
  gf : specialIn K (.ref f) "__get__" = some (some (.builtin "function.__get__"))
  tk : takesIn K (.ref f) = some false
  c : copiedNames.contains (Str.ofString x) = false

theorem Ev.methI {K : Frag} {c : Cx} {o : Expr} {x : String} {f : Addr} {apos pos : Pos} {es : List Expr} {σ : St} {Φ : AV → St → Prop} {X : XP} (XK : K.In c.b0)
    (h : Ev c o σ (fun a σ₁ => ∃ (i : Nat) (d C dx : Addr) (fs : List (String × AV)), a = .ref d ∧ σ₁.own[i]? = some (d, AO.inst C dx fs) ∧ MethName K C x f ∧ fs.lookup x = Option.none ∧ Arg c pos es σ₁ (fun l σ₂ => Cal c (.ref f) (.ref d :: l) σ₂ Φ X) X) X)
    (hbase : attributeBase o (Str.ofString x) c.env (eval o c.env) = eval o c.env := by rfl)
    (hfew : ((backTo pos (starEach es c.env)).all (fun x => !x.1) && (backToKw pos (keywordEach [] c.env)).all (fun x => x.1.isSome)
      && decide (es.length + ([] : List Keyword).length + (if ([] : List Keyword).isEmpty then 0 else 1) < 30)) = true := by rfl)
    (hline : (apos.endLine == pos.line) = true := by rfl) (hs : (backTo pos (starEach es c.env)).any (·.1) = false := by rfl) : Ev c (.Call (.Attribute o (Str.ofString x) apos) es [] pos) σ Φ X := fun s r p Q E q xx => by
  refine call_attr hbase hfew hline (h s r p _ _ (fun v a σ₁ s₁ r₁ f₁ va h₁ => ?_) xx)
  obtain ⟨i, d, C, dx, fs, rfl, e, M, el, h₁⟩ := h₁
  cases va.ref'
  intro pl
  obtain ⟨es', n, g1, g2, hl, qe, I⟩ := own_inst r₁.toRep e
  have hg := ES.get (x := x) qe
  rw [el] at hg
  refine method_fn (In.rep XK r₁.toRep) I (plainGet_of M.g).1 (plainGet_of M.g).2 M.fi (beq_iff_eq.mp M.t) (by show (lookIn (Str.ofString x) (dictOf es' n)).map _ = _; rw [lookIn_dict, hg]; rfl) ?_
  exact call_K (fa := [.ref d]) XK M.k h₁ hs s₁ r₁ (VRs.cons VR.mkRef VRs.nil) Q E (q.go f₁) (xx.go f₁)

/-- a bound method, as a value -/
theorem getBound {K : Frag} {c : Cx} {σ : St} {a C dx f : Addr} {fs : List (String × AV)} {x : String} {expr : Bool} {Φ : AV → St → Prop} {X : XP} (XK : K.In c.b0) (M : MethName K C x f) (i : Nat) (e : σ.own[i]? = some (a, .inst C dx fs))
    (el : fs.lookup x = none) (k : ∀ d, Φ (.ref d) ⟨σ.loc, (d, .raw (methodObj (.ref f) (.ref a))) :: σ.own⟩) : Get c a (Str.ofString x) expr σ Φ X := by
  refine Tri.ofH fun s r _ Q E q _ => ?_
  obtain ⟨es', n, g1, g2, hl, qe, I⟩ := own_inst r.toRep e
  have hg := ES.get (x := x) qe
  rw [el] at hg
  refine get_bind (In.rep XK r.toRep) I (plainGet_of M.g).1 (findObj_fn M.h M.fi M.gf M.tk M.c (by show lookIn (Str.ofString x) (dictOf es' n) = _; rw [lookIn_dict]; exact hg)) (plainGet_of M.g).2
    (wpAny_call (fn_get (s := { s with toks := s.toks + 1 }) (In.rep XK r.toRep) (beq_iff_eq.mp M.t) (handed_on rfl ?_)))
  have hn : s.heap.get? s.heap.objs.size = Option.none := Heap.get?_none_of_le (Nat.le_refl _)
  have ho : OR (s.heap.push (methodObj (.ref f) (.ref a))) s.heap.objs.size (.raw (methodObj (.ref f) (.ref a))) := ⟨Heap.get?_push_size _ rfl, .of_cls (by simp) (by simp)⟩
  exact q (.ref _) (.ref _) _ _ (r.toRep.fresh push_keep hn ho rfl) (Aft.fresh push_keep hn rfl) VR.mkRef (k _)

/-- a function that an object holds itself, called -/
theorem Ev.callOwn {K : Frag} {c : Cx} {o : Expr} {x : String} {apos pos : Pos} {es : List Expr} {σ : St} {Φ : AV → St → Prop} {X : XP} (XK : K.In c.b0)
    (h : Ev c o σ (fun a σ₁ => ∃ (i j : Nat) (d C dx : Addr) (fs : List (String × AV)) (F : Addr) (fo : Obj) (fd : FuncData), a = .ref d ∧ σ₁.own[i]? = some (d, AO.inst C dx fs) ∧ OwnName K C x ∧ findIn K (.ref C) (Str.ofString x) = some Option.none ∧ fs.lookup x = some (.ref F) ∧ σ₁.own[j]? = some (F, AO.raw fo) ∧ fo.data = .func fd ∧
      Arg c pos es σ₁ (fun l σ₂ => (∃ j' : Nat, σ₂.own[j']? = some (F, AO.raw fo)) ∧ Cal c (.ref F) l σ₂ Φ X) X) X)
    (hbase : attributeBase o (Str.ofString x) c.env (eval o c.env) = eval o c.env := by rfl)
    (hfew : ((backTo pos (starEach es c.env)).all (fun x => !x.1) && (backToKw pos (keywordEach [] c.env)).all (fun x => x.1.isSome)
      && decide (es.length + ([] : List Keyword).length + (if ([] : List Keyword).isEmpty then 0 else 1) < 30)) = true := by rfl)
    (hline : (apos.endLine == pos.line) = true := by rfl) (hs : (backTo pos (starEach es c.env)).any (·.1) = false := by rfl) : Ev c (.Call (.Attribute o (Str.ofString x) apos) es [] pos) σ Φ X := fun s r p Q E q xx => by
  refine call_attr hbase hfew hline (h s r p _ _ (fun v a σ₁ s₁ r₁ f₁ va h₁ => ?_) xx)
  obtain ⟨i, j, d, C, dx, fs, F, fo, fd, rfl, e, N, hf, el, e2, hd, h₁⟩ := h₁
  cases va.ref'
  intro pl
  obtain ⟨es', n, g1, g2, hl, qe, I⟩ := own_inst r₁.toRep e
  refine method_usual (In.rep XK r₁.toRep) I (plainGet_of N.g).1 (plainGet_of N.g).2 hf rfl ?_
  refine getOwn (K := K) (Φ := fun av σ' => av = .ref F ∧ σ' = σ₁) (X := X) XK N i e el ⟨rfl, rfl⟩ rfl s₁ r₁ trivial _ _ (fun w av σ₂ s₂ r₂ f₂ vw h₂ => ?_) (fun e σ' s' r' f' xe => (xx.go f₁) e σ' s' r' f' xe)
  obtain ⟨rfl, rfl⟩ := h₂
  cases vw.ref'
  refine callWith_function (o := fo) (fd := fd) (evalArgs_any hs (h₁ s₂ r₂ trivial _ _ (fun vs l σ₃ s₃ r₃ f₃ vl h₃ => ?_) ((xx.go f₁).go f₂)))
  obtain ⟨⟨j', e3⟩, h₃⟩ := h₃
  exact ⟨⟨(r₃.own _ (List.mem_of_getElem? e3)).1, hd⟩, h₃ vs s₃ r₃ vl Q E (((q.go f₁).go f₂).go f₃) (((xx.go f₁).go f₂).go f₃)⟩
end Mine

-- BH
namespace Mine
open PySem PySem.Calls PyProof.Rows PySem.W

/-! another around, the same frames -/
theorem Rep.around {prog : Program} {w : World} {b0 : Heap} {A A' : Around} {env : Env} {fr fx K : List Addr} {σ : St} {h : Heap} (hA : A'.frames = A.frames) (r : Rep (cx prog w b0 A env fr fx K) σ h) : Rep (cx prog w b0 A' env fr fx K) σ h :=
  ⟨r.ns, r.lin, r.cel, r.inj, r.own, r.nd, r.nk, r.frc, r.kb, r.kn, r.kh, fun l e => r.ff l (hA.symm.trans e)⟩
theorem TriW.around {α β : Type} {prog : Program} {w : World} {b0 : Heap} {A A' : Around} {env : Env} {fr fx K : List Addr} {P : Heap → Prop} {W : (α → Shared → Prop) → (Value → Shared → Prop) → Shared → Prop} {V : Heap → β → α → Prop} {σ : St} {Φ : β → St → Prop} {X : XP}
    (hA : A'.frames = A.frames) (h : TriW (cx prog w b0 A' env fr fx K) P W V σ Φ X) : TriW (cx prog w b0 A env fr fx K) P W V σ Φ X := fun s r p Q E q x =>
  h s ⟨r.toRep.around hA, r.tp⟩ p Q E (fun a y σ' s' r' f v φ => q a y σ' s' ⟨r'.toRep.around hA.symm, r'.tp⟩ ⟨f.rest, f.sp, f.al, f.fs⟩ v φ) (fun e σ' s' r' f φ => x e σ' s' ⟨r'.toRep.around hA.symm, r'.tp⟩ ⟨f.rest, f.sp, f.al, f.fs⟩ φ)
theorem Good.around {z : Bool} {n m : Nat} {prog : Program} {w : World} {b0 : Heap} {A A' : Around} {env : Env} {fr fx K : List Addr} (g : Good z n (cx prog w b0 A env fr fx K)) (hA : A'.frames = A.frames) (hh : A'.handled = A.handled)
    (hd : A'.depth + m ≤ A.depth + n) (hu : A'.units + 20 * m ≤ A.units + 20 * n) : Good z m (cx prog w b0 A' env fr fx K) := by
  have gd : A.depth + n < recursionLimit := g.dp
  have gu : A.units + 20 * n < cLine := g.un
  refine ⟨fun e => ?_, ?_, ?_, g.kf, ?_⟩
  · have := g.hd e; show A'.handled = none; rw [hh]; exact this
  · show A'.depth + m < recursionLimit; omega
  · show A'.units + 20 * m < cLine; omega
  · obtain ⟨l, hl, hm⟩ := g.fr
    exact ⟨l, hA.trans hl, hm⟩

/-! a class called -/
theorem Cal.make {K : Frag} {prog : Program} {w : World} {b0 : Heap} {A : Around} {env : Env} {fr fx Kf : List Addr} {z : Bool} {n : Nat} {C fI : Addr} {l : List AV} {loc : List (String × AV)} {own R : List (Addr × AO)} {Φ : AV → St → Prop} {X : XP} {Ψ : Addr → List (Addr × AO) → Prop}
    (XK : K.In b0) (hm : makesIn K C = true) (hi : findIn K (.ref C) "__init__" = some (some (.ref fI))) (hf : typeIn K (.ref fI) = some (.type "function")) (g : Good z (n + 1) (cx prog w b0 A env fr fx Kf))
    (F : ∀ x dx, Fun prog w b0 z n (.ref fI) (.ref x :: l) ((x, .inst C dx []) :: own) (fun r own' => r = .none ∧ Ψ x own')) (k : ∀ x own', Ψ x own' → Φ (.ref x) ⟨loc, own' ++ R⟩) : Cal (cx prog w b0 A env fr fx Kf) (.ref C) l ⟨loc, own ++ R⟩ Φ X := fun vs => by
  refine Tri.frame (fun s r p Q E q _ => ?_)
  obtain ⟨hv, -⟩ := p
  have XH : K.In s.heap := XK.keeps r.kb
  have hn1 : s.heap.get? s.heap.objs.size = none := Heap.get?_none_of_le (Nat.le_refl _)
  have hn2 : (s.heap.push emptyDict).get? (s.heap.objs.size + 1) = none := Heap.get?_none_of_le (by rw [Heap.size_push]; exact Nat.le_refl _)
  have hN1 : (s.heap.push emptyDict).get? s.heap.objs.size = some emptyDict := Heap.get?_push_size _ rfl
  have hsz : (s.heap.push emptyDict).objs.size = s.heap.objs.size + 1 := Heap.size_push ..
  have hN2 : ((s.heap.push emptyDict).push (instObj C s.heap.objs.size)).get? (s.heap.objs.size + 1) = some (instObj C s.heap.objs.size) := by rw [← hsz]; exact Heap.get?_push_size _ rfl
  have hN1' : ((s.heap.push emptyDict).push (instObj C s.heap.objs.size)).get? s.heap.objs.size = some emptyDict := push_keep _ _ hN1
  have R1 := r.toRep.fresh (ao := .raw emptyDict) (push_keep (o := emptyDict)) hn1 ⟨hN1, .of_cls (by simp) (by simp)⟩ rfl
  have R2 := R1.fresh (ao := .raw (instObj C s.heap.objs.size)) (push_keep (o := instObj C s.heap.objs.size)) hn2 ⟨hN2, .of_cls (by simp) (by simp)⟩ rfl
  have pm : (feet ((s.heap.objs.size + 1, AO.inst C s.heap.objs.size []) :: own)).Perm (feet ((s.heap.objs.size + 1, AO.raw (instObj C s.heap.objs.size)) :: (s.heap.objs.size, AO.raw emptyDict) :: own)) := by
    rw [feet_cons, feet_cons, feet_cons]; exact List.Perm.refl _
  have R3 : Rep (cx prog w b0 A env fr fx Kf) ⟨loc, (s.heap.objs.size + 1, .inst C s.heap.objs.size []) :: own⟩ ((s.heap.push emptyDict).push (instObj C s.heap.objs.size)) := by
    refine R2.repack (fun p hp => ?_) pm
    rcases List.mem_cons.mp hp with rfl | hp
    · exact ⟨[], 0, hN2, hN1', by simp, rfl⟩
    · exact R2.own p (.tail _ (.tail _ hp))
  have k2 : ∀ b o, s.heap.get? b = some o → ((s.heap.push emptyDict).push (instObj C s.heap.objs.size)).get? b = some o := fun b o e => push_keep _ _ (push_keep _ _ e)
  have F2 : Aft (cx prog w b0 A env fr fx Kf) ⟨loc, own⟩ s ⟨loc, (s.heap.objs.size + 1, .inst C s.heap.objs.size []) :: own⟩ { s with heap := (s.heap.push emptyDict).push (instObj C s.heap.objs.size), toks := s.toks } := by
    refine ⟨rfl, Sp.of_keep fun a o _ e => k2 a o e, fun a o _ e => ⟨o, k2 a o e⟩, fun a ha => ?_⟩
    rw [feet_cons] at ha
    rcases List.mem_append.mp ha with w | w
    · right
      rcases List.mem_cons.mp w with rfl | w
      · exact Heap.get?_none_of_le (Nat.le_succ _)
      · rw [List.mem_singleton.mp w]; exact hn1
    · exact .inl w
  have sp2 : Sp [] [] s.heap ((s.heap.push emptyDict).push (instObj C s.heap.objs.size)) := Sp.of_keep fun a o _ e => k2 a o e
  obtain ⟨hh, g1, d1, t1, o1⟩ := s
  refine wpAny_call (make_core (makes_of XH hm) (looks_findIn XH hi) (fun self => bind_fn XH self hf) (.inl rfl) ?_)
  have gA := g.around (A' := A.under (.builtin "type.__call__" ⟨.ref C :: vs, []⟩)) (m := n) rfl rfl (by show A.depth + 1 + n ≤ _; omega) (by show A.units + 1 + 20 * n ≤ _; omega)
  refine codeAny_mono ((TriW.around (A := A) (A' := A.under (.builtin "type.__call__" ⟨.ref C :: vs, []⟩)) rfl (F (hh.objs.size + 1) hh.objs.size _ env fr fx Kf loc gA (.ref (hh.objs.size + 1) :: vs) noX))
    ⟨(hh.push emptyDict).push (instObj C hh.objs.size), g1, d1, t1, o1⟩ ⟨R3, r.tp⟩ (VRs.cons VR.mkRef (hv.mono sp2 NoTup.nil NoTup.nil)) (fun v s' => v = .none ∧ Q (.ref (hh.objs.size + 1)) s') E (fun a y σ' s' r' f' vv φ => ?_) (fun _ _ _ _ _ y => y.elim)) fun rr s' hr => ?_
  · obtain ⟨e1, rfl, φ⟩ := φ
    refine ⟨vv.none', ?_⟩
    obtain ⟨loc', own'⟩ := σ'
    cases e1
    exact q _ (.ref _) ⟨_, own'⟩ s' r' (F2.trans f') VR.mkRef (k _ _ φ)
  · rcases rr with e | (v | _ | _ | _) <;> first | exact hr | exact hr.elim
theorem Ev.callC {K : Frag} {c : Cx} {f : Str} {fp pos : Pos} {es : List Expr} {C : Addr} {σ : St} {Φ : AV → St → Prop} {X : XP} (XK : K.In c.b0) (hk : keepIn K (.ref C) = true)
    (hf : Ev c (.Name f fp) σ (fun a σ₁ => a = .ref C ∧ Arg c pos es σ₁ (fun l σ₂ => Cal c (.ref C) l σ₂ Φ X) X) X) (hs : (backTo pos (starEach es c.env)).any (·.1) = false := by rfl) : Ev c (.Call (.Name f fp) es [] pos) σ Φ X := by
  intro s r _ Q E q x
  refine wpAny_Call_ofName (hf s r trivial _ _ (fun v a σ₁ s₁ r₁ f₁ va h₁ => ?_) x)
  obtain ⟨rfl, h₁⟩ := h₁
  cases va.ref'
  exact call_K (fa := []) (first := []) XK hk h₁ hs s₁ r₁ VRs.nil Q E (q.go f₁) (x.go f₁)
end Mine

-- BI
namespace Mine
open PySem PySem.Calls PyProof.Rows PySem.W

abbrev citObj (m : Addr) (t : Tok) : Obj := ⟨.type "callable_iterator", none, .fields #[.ref m, .str ⟨#[]⟩ t, .bool false], #[]⟩
abbrev citEnd : Obj := ⟨.type "callable_iterator", none, .fields #[.none, .none, .bool true], #[]⟩

theorem slot_cit_next : Slot "callable_iterator" "__next__" "callable_iterator.__next__" :=
  .of (owner := "callable_iterator") (n := "__next__") (by rw [typeLookup_type, builtinLookup_eq_fast]; kernel_rfl) (by decide +kernel) (by decide +kernel) (by decide +kernel)
    (by first | exact .inl (by decide +kernel) | exact .inr (by decide +kernel)) (by rw [isSubtype_type]; kernel_rfl)
theorem slot_cit_iter : Slot "callable_iterator" "__iter__" "callable_iterator.__iter__" :=
  .of (owner := "callable_iterator") (n := "__iter__") (by rw [typeLookup_type, builtinLookup_eq_fast]; kernel_rfl) (by decide +kernel) (by decide +kernel) (by decide +kernel)
    (by first | exact .inl (by decide +kernel) | exact .inr (by decide +kernel)) (by rw [isSubtype_type]; kernel_rfl)
theorem entry_cit_next : entryFor table "callable_iterator.__next__" = some Builtin.«callable_iterator.__next__» := entryFor_of_fast (by kernel_rfl)
theorem entry_cit_iter : entryFor table "callable_iterator.__iter__" = some Builtin.«dict_keyiterator.__iter__» :=
  entryFor_alias (id' := "dict_keyiterator.__iter__") (by kernel_rfl) rfl (by decide +kernel) (by kernel_rfl)
theorem args_cit_iter (a : Value) : argsOk "callable_iterator.__iter__" ⟨[a], []⟩ := by unfold argsOk; kernel_rfl
theorem args_cit_next (a : Value) : argsOk "callable_iterator.__next__" ⟨[a], []⟩ := by unfold argsOk; kernel_rfl
theorem args_iter2 (a b : Value) : argsOk "iter" ⟨[a, b], []⟩ := by unfold argsOk; kernel_rfl
theorem lk_method_call : ∃ f, typeLookup (.type "method") "__call__" = pure (some f) := by rw [typeLookup_type, builtinLookup_eq_fast]; exact ⟨.builtin "method.__call__", by kernel_rfl⟩

section
variable {prog : Program} {w : World} {A : Around} {E : Value → Shared → Prop} {s : Shared}
theorem wpAny_pyIter_cit {it : Addr} {o : Obj} {Q : Value → Shared → Prop} (ho : s.heap.get? it = some o) (hc : o.cls = .type "callable_iterator") (h : Q (.ref it) s) : wpAny (model prog w) A (pyIter (.ref it)) Q E s := by
  have hT : s.TypeIs (.ref it) "callable_iterator" := ⟨_, ho, hc⟩
  refine wpAny_pyIter_slot hT slot_cit_iter (wpAny_call_entry slot_cit_iter hT entry_cit_iter ?_ (args_cit_iter _))
  show wpAny _ _ (ret (.ref it)) _ _ s
  exact wpAny_pure ⟨_, rfl, "callable_iterator", _, hT, slot_cit_next.lookup, h⟩

theorem call_iter2 {m f self : Addr} {of : Obj} {t : Tok} {Q : Value → Shared → Prop} (hm : s.heap.get? m = some (methodObj (.ref f) (.ref self)))
    (h : Q (.ref s.heap.objs.size) { s with heap := s.heap.push (citObj m t) }) : wpAny (model prog w) A (call (.builtin "iter") [.ref m, .str ⟨#[]⟩ t]) Q E s := by
  refine call_function_entry kind_iter plain_iter entry_iter (args_iter2 _ _) ?_
  unfold Builtin.«iter»
  refine wpAny_bind (m := someArgs "iter" 1 2 _) (wpAny_of_eq (a := [Value.ref m, .str ⟨#[]⟩ t]) (by first | rfl | kernel_rfl!) ?_)
  dsimp only
  obtain ⟨g, hg⟩ := lk_method_call
  refine wpAny_bind (wpAny_specialOf (T := "method") ⟨_, hm, rfl⟩ hg ?_)
  simp only [Option.isNone_some, Bool.false_eq_true, if_false]
  refine wpAny_bind (wpAny_rule ?_)
  exact wpAny_bind (wpAny_newObj_type (wpAny_pure ⟨_, rfl, h⟩) (by size_fits))

theorem borrows_method {m f self : Addr} {of : Obj} {fd : FuncData} {Q : Bool → Shared → Prop} (hm : s.heap.get? m = some (methodObj (.ref f) (.ref self))) (hf : s.heap.get? f = some of) (hd : of.data = .func fd)
    (h : Q true s) : wpAny (model prog w) A (borrowsExactly (.ref m)) Q E s := by
  unfold borrowsExactly
  refine wpAny_bind (wpAny_load hm ?_)
  dsimp only
  rw [if_pos (by decide)]
  refine wpAny_bind (wpAny_load hf ?_)
  rw [hd]
  exact wpAny_pure h

theorem wpAny_callBorrowed {M : Model} {f : Value} {pos : List Value} {Q : Value → Shared → Prop} (hc : codeAny M A (.call f ⟨pos, []⟩) (fun r s' => match r with | .ok (.ret v) => Q v s' | .ok _ => False | .error e => E e s') s) :
    wpAny M A (callBorrowed f pos) Q E s := fun Γ p hΓ => by
  have key := hc _ p rfl (hΓ.enter (.call f ⟨pos, []⟩) none p (by intro x; cases x))
  have e : Sem.wp M Γ (callBorrowed f pos) (fun a _ s' => Q a s') (fun e _ s' => E e s') p s = wpCode M (Γ.enter (.call f ⟨pos, []⟩) none p) (fun r s' => match r with | .ok (.ret v) => Q v s' | .ok _ => False | .error e => E e s') p s := by
    unfold callBorrowed
    show wpCode M (Γ.enter (.call f ⟨pos, []⟩) none p) (fun r s' => Sem.wp M Γ _ _ _ p s') p s = _
    congr 1; funext r s'
    cases r with
    | error e => rfl
    | ok f => cases f <;> rfl
  rw [e]; exact key

theorem pyNext_cit {it m f self : Addr} {t : Tok} {Q : Option Value → Shared → Prop} {of : Obj} {fd : FuncData} (hh : A.handled = none) (hi : s.heap.get? it = some (citObj m t)) (hm : s.heap.get? m = some (methodObj (.ref f) (.ref self)))
    (hf : s.heap.get? f = some of) (hd : of.data = .func fd)
    (h : codeAny (model prog w) A.in1 (.call (.ref f) ⟨[.ref self], []⟩) (fun r s' => match r with
      | .ok (.ret v) => ∃ l u, v = .str l u ∧ s'.heap.get? it = some (citObj m t) ∧ s'.heap.get? m = some (methodObj (.ref f) (.ref self)) ∧ (∃ of', s'.heap.get? f = some of' ∧ ∃ fd', of'.data = .func fd') ∧
          (l ≠ ⟨#[]⟩ → Q (some v) s') ∧ (l = ⟨#[]⟩ → ∀ h', h'.get? it = some citEnd → (∀ b o, b ≠ it → s'.heap.get? b = some o → h'.get? b = some o) → Q none { s' with heap := h' })
      | .ok _ => False
      | .error e => False) s) : wpAny (model prog w) A (pyNext (.ref it)) Q E s := by
  have hT : s.TypeIs (.ref it) "callable_iterator" := ⟨_, hi, rfl⟩
  unfold pyNext
  refine wpAny_bind (wpAny_attempt (wpAny_callSpecial?_slot (name := Str.ofString "__next__") hT slot_cit_next (wpAny_call_entry slot_cit_next hT entry_cit_next ?_ (args_cit_next _))))
  show wpAny _ _ (field (.ref it) 2 >>= _) _ _ s
  refine wpAny_bind (wpAny_field hi rfl (x := .bool false) rfl ?_)
  rw [if_neg (by decide)]
  refine wpAny_bind (wpAny_field hi rfl (x := .ref m) rfl ?_)
  refine wpAny_bind (wpAny_attempt ?_)
  unfold callOutOfASlot
  refine wpAny_bind (borrows_method hm hf hd ?_)
  rw [if_pos rfl]
  refine wpAny_callBorrowed (method_call hm (codeAny_mono h fun r s' hr => ?_))
  rcases r with e | (v | _ | _ | _) <;> first | exact hr.elim | skip
  obtain ⟨l, u, rfl, hi', hm', ⟨of', hf', fd', hd'⟩, h1, h2⟩ := hr
  show wpAny _ _ (field (.ref it) 2 >>= _) _ _ s'
  refine wpAny_bind (wpAny_field hi' rfl (x := .bool false) rfl ?_)
  rw [if_neg (by decide)]
  refine wpAny_bind (wpAny_field hi' rfl (x := .str ⟨#[]⟩ t) rfl ?_)
  refine wpAny_bind (wpAny_holding (eqBool_str ?_))
  by_cases hl : l = ⟨#[]⟩
  · subst hl
    rw [if_neg (by simp)]
    refine wpAny_bind (wpAny_rule ?_)
    refine wpAny_bind ?_
    show wpAny _ _ (field (.ref it) 0 >>= fun x => slotLetsGo "callable_iterator.__next__" x _ >>= fun _ => setField (.ref it) 0 .none >>= fun _ => setField (.ref it) 1 .none >>= fun _ => setField (.ref it) 2 (.bool true)) _ _ s'
    refine wpAny_bind (wpAny_field hi' rfl (x := .ref m) rfl ?_)
    refine wpAny_bind ?_
    unfold slotLetsGo
    dsimp only
    refine wpAny_bind (borrows_method hm' hf' hd' ?_)
    rw [if_pos rfl]
    refine wpAny_pure ?_
    refine wpAny_bind (wpAny_setField_rec hi' (by simp) fun h₂ he₂ hs₂ => ?_)
    refine wpAny_bind (wpAny_setField_rec he₂ (by simp) fun h₃ he₃ hs₃ => ?_)
    refine wpAny_setField_rec he₃ (by simp) fun h₄ he₄ hs₄ => ?_
    unfold Builtin.SmallTypes.stopIteration
    show wpAny _ _ (newExc (.type "StopIteration") [] >>= _) _ _ _
    refine wpAny_bind ?_
    simp only [newExc, newTuple]
    refine wpAny_bind (wpAny_newObj_type ?_ (by size_fits))
    refine wpAny_bind (m := firstArgMember _ _) (wpAny_of_eq (a := Value.none) (by first | rfl | (simp only [firstArgMember]; rfl)) ?_)
    refine wpAny_newObj_type ?_ (by size_fits)
    simp only [raiseNew]
    refine wpAny_bind (wpAny_handled ?_)
    rw [show A.in1.handled = none from hh]
    refine wpAny_bind (wpAny_pure (wpAny_throw ?_))
    refine wpAny_bind (wpAny_isInstance (T := "StopIteration") (b := true) ⟨_, Heap.get?_push_size _ rfl, rfl⟩ isSubtype_stop ?_)
    have e2 : Heap.SameBut it s'.heap h₂ := hs₂
    have e3 : Heap.SameBut it h₂ h₃ := hs₃
    have e4 : Heap.SameBut it h₃ h₄ := hs₄
    refine wpAny_pure (h2 rfl _ (Heap.get?_push_of_some _ (Heap.get?_push_of_some _ he₄)) fun b o hb hbo => ?_)
    exact Heap.get?_push_of_some _ (Heap.get?_push_of_some _ (((e4.2 b hb).trans ((e3.2 b hb).trans (e2.2 b hb))).trans hbo))
  · have : ((⟨#[]⟩ : Str) == l) = false := by simpa using fun e => hl e.symm
    rw [this]
    rw [if_pos (by rfl)]
    exact wpAny_pure ⟨_, rfl, wpAny_pure (h1 hl)⟩
end
end Mine

-- BJ
namespace Mine
open PySem PySem.Calls PyProof.Rows PySem.W

def VO (h : Heap) : Option AV → Option Value → Prop
  | none, v => v = none
  | some a, v => ∃ w, v = some w ∧ VR h a w
abbrev Nx (c : Cx) (it : Addr) (σ : St) (Φ : Option AV → St → Prop) (X : XP) : Prop := Tri c T0 (pyNext (.ref it)) VO σ Φ X

theorem getElem?_append_right' {α : Type} {l r : List α} {i : Nat} {a : α} (e : r[i]? = some a) : (l ++ r)[l.length + i]? = some a := by
  rw [List.getElem?_append_right (Nat.le_add_right _ _), Nat.add_sub_cancel_left]; exact e
theorem set_append_right' {α : Type} {l r : List α} {i : Nat} {a : α} : (l ++ r).set (l.length + i) a = l ++ r.set i a := by
  rw [List.set_append_right _ _ (Nat.le_add_right _ _), Nat.add_sub_cancel_left]

theorem Nx.cit {prog : Program} {w : World} {b0 : Heap} {A : Around} {env : Env} {fr fx Kf : List Addr} {z : Bool} {n : Nat} {loc : List (String × AV)} {own R : List (Addr × AO)} {it m f self : Addr} {t : Tok} {of : Obj} {fd : FuncData} {Φ : Option AV → St → Prop} {X : XP}
    {Ψ : List Nat → List (Addr × AO) → Prop} (hh : A.handled = none) (g : Good z (n + 1) (cx prog w b0 A env fr fx Kf)) (ho : b0.get? f = some of) (hd : of.data = .func fd)
    (i j : Nat) (e1 : R[i]? = some (it, .raw (citObj m t))) (e2 : R[j]? = some (m, .raw (methodObj (.ref f) (.ref self))))
    (F : Fun prog w b0 z n (.ref f) [.ref self] own (fun r own' => ∃ l, r = .str l ∧ Ψ l own'))
    (k1 : ∀ l own', l ≠ [] → Ψ l own' → Φ (some (.str l)) ⟨loc, own' ++ R⟩) (k2 : ∀ own', Ψ [] own' → Φ none ⟨loc, own' ++ R.set i (it, .raw citEnd)⟩) :
    Nx (cx prog w b0 A env fr fx Kf) it ⟨loc, own ++ R⟩ Φ X := by
  refine Tri.ofH fun s r _ Q E q _ => ?_
  have r1 := (r.own _ (List.mem_append_right _ (List.mem_of_getElem? e1))).1
  have r2 := (r.own _ (List.mem_append_right _ (List.mem_of_getElem? e2))).1
  refine pyNext_cit hh r1 r2 (r.kb _ _ ho) hd ?_
  have gA := g.around (A' := A.in1) (m := n) rfl rfl (by show A.depth + n ≤ _; omega) (by show A.units + 1 + 20 * n ≤ _; omega)
  have T0 := F A.in1 env fr fx Kf loc gA [.ref self] noX
  have T1 : TriW (cx prog w b0 A.in1 env fr fx Kf) (fun _ => True) (runs prog w A.in1 (.call (.ref f) ⟨[.ref self], []⟩)) VR ⟨loc, own ++ R⟩ (fun av σ' => ∃ own', σ' = ⟨loc, own' ++ R⟩ ∧ ∃ l, av = .str l ∧ Ψ l own') noX :=
    TriW.frame (fun s r p Q E q x => T0 s r (VRs.cons VR.mkRef VRs.nil) Q E (fun a y σ' s' r' f' v φ => by
      obtain ⟨loc', own'⟩ := σ'
      obtain ⟨e3, φ⟩ := φ
      cases e3
      exact q a y _ s' r' f' v ⟨own', rfl, φ⟩) (fun _ _ _ _ _ y => y.elim))
  have T2 := TriW.around (A := A) (A' := A.in1) rfl T1
  refine codeAny_mono (T2 s r trivial (fun v s' => ∃ l u, v = .str l u ∧ s'.heap.get? it = some (citObj m t) ∧ s'.heap.get? m = some (methodObj (.ref f) (.ref self)) ∧ (∃ of', s'.heap.get? f = some of' ∧ ∃ fd', of'.data = .func fd') ∧
          (l ≠ ⟨#[]⟩ → Q (some v) s') ∧ (l = ⟨#[]⟩ → ∀ h', h'.get? it = some citEnd → (∀ b o, b ≠ it → s'.heap.get? b = some o → h'.get? b = some o) → Q none { s' with heap := h' }))
      (fun _ _ => False) (fun v y σ' s' r' f' vv φ => ?_) (fun _ _ _ _ _ y => False.elim y)) fun rr s' hr => ?_
  · obtain ⟨own', rfl, l, rfl, φ⟩ := φ
    obtain ⟨u, rfl⟩ := vv.str'
    have m1 : (it, AO.raw (citObj m t)) ∈ own' ++ R := List.mem_append_right _ (List.mem_of_getElem? e1)
    refine ⟨_, u, rfl, (r'.own _ m1).1, (r'.own _ (List.mem_append_right _ (List.mem_of_getElem? e2))).1, ⟨of, r'.kb _ _ ho, fd, hd⟩, fun hl => ?_, fun hl h' hi' kk => ?_⟩
    · exact q _ (some (.str l)) _ s' r'.toRep f' ⟨_, rfl, VR.mkStr⟩ (k1 l own' (fun z => hl (by rw [z])) φ)
    · have : l = [] := by have := congrArg (fun x : Str => x.cps.toList) hl; simpa using this
      subst this
      have ei : (own' ++ R)[own'.length + i]? = some (it, .raw (citObj m t)) := getElem?_append_right' e1
      have sp : Sp [] (foot it (.raw (citObj m t))) s'.heap h' := Sp.of_keep fun b o n e => kk b o (by simpa [foot] using n) e
      have oo : OR h' it (.raw citEnd) := ⟨hi', .of_cls (by simp) (by simp)⟩
      obtain ⟨ru, ft, hG⟩ := r'.toRep.upd (σ := ⟨loc, own' ++ R⟩) ei sp oo rfl
      have fu := Aft.upd (c := cx prog w b0 A env fr fx Kf) (σ := ⟨loc, own' ++ R⟩) (tk := s'.toks) ei sp oo rfl ft hG
      rw [show (⟨loc, own' ++ R⟩ : St).own.set (own'.length + i) (it, AO.raw citEnd) = own' ++ R.set i (it, .raw citEnd) from set_append_right'] at ru fu
      exact q none none _ _ ru (f'.trans fu) rfl (k2 own' φ)
  · rcases rr with e | (v | _ | _ | _) <;> first | exact hr | exact hr.elim

theorem Ex.forN {c : Cx} {target iter : Expr} {body : List Stmt} {pos : Pos} {σ : St} {Φ : Fl → St → Prop} {X : XP} (inv : Nat → St → Prop)
    (h : Ev c iter σ (fun a σ₁ => ∃ it, a = .ref it ∧ Tri c T0 (pyIter (.ref it)) VR σ₁ (fun b σ₂ => b = .ref it ∧ (∃ n, inv n σ₂) ∧
      ∀ n σ', inv n σ' → Nx c it σ' (fun o σ₃ => match o with | none => Φ .next σ₃ | some x => Asg c target x σ₃ (fun σ₄ => Exs c body σ₄ (Turn inv n Φ) noX) noX) noX) X) X)
    (hs : ∀ x, foldedSetIterable iter c.env x = pure x := by intro _; rfl) (ht : ∀ it v, letOwnedTupleGo target it v = pure () := by intro _ _; rfl) : Ex c (.For target iter body [] pos) σ Φ X := by
  intro s rp _ Q E q x
  refine wpAny_For (h s rp trivial _ _ (fun v a σ₁ s₁ r₁ f₁ va h₁ => ?_) x) hs
  obtain ⟨it, rfl, h₁⟩ := h₁
  cases va.ref'
  refine h₁ s₁ r₁ trivial _ _ (fun v a σ₂ s₂ r₂ f₂ va h₂ => ?_) (x.go f₁)
  obtain ⟨rfl, ⟨n, h0⟩, turn⟩ := h₂
  cases va.ref'
  refine codeAny_forLoop (fun n s' => ∃ σ', RepS c σ' s' ∧ Aft c σ₂ s₂ σ' s' ∧ inv n σ') (fun n s' hJ => ?_) n ⟨σ₂, r₂, .refl, h0⟩ (fun _ => ht _ _)
  obtain ⟨σ', r', f', hI⟩ := hJ
  have f0 := (f₁.trans f₂).trans f'
  refine turn n σ' hI s' r' trivial _ _ (fun o y σ₃ s₃ r₃ f₃ vo h₃ => ?_) (fun _ _ _ _ _ z => z.elim)
  cases y with
  | none =>
    cases vo
    exact wpAny_execs_nil (q _ .next σ₃ s₃ r₃ (f0.trans f₃) rfl h₃)
  | some x =>
    obtain ⟨w, rfl, vw⟩ := vo
    refine h₃ w s₃ r₃ vw _ _ (fun _ _ σ₄ s₄ r₄ f₄ _ h₄ => ?_) (fun _ _ _ _ _ z => z.elim)
    refine h₄ s₄ r₄ trivial _ _ (fun g fl σ₅ s₅ r₅ f₅ e h₅ => ?_) (fun _ _ _ _ _ z => z.elim)
    have f35 := (f₃.trans f₄).trans f₅
    cases fl with
    | next => cases e; obtain ⟨m, hm, hI⟩ := h₅; exact ⟨m, hm, σ₅, r₅, f'.trans f35, hI⟩
    | cont => cases e; obtain ⟨m, hm, hI⟩ := h₅; exact ⟨m, hm, σ₅, r₅, f'.trans f35, hI⟩
    | brk => cases e; exact q _ .next σ₅ s₅ r₅ (f0.trans f35) rfl h₅
    | ret v => obtain ⟨u, rfl, hu⟩ := e; exact q _ (.ret v) σ₅ s₅ r₅ (f0.trans f35) ⟨u, rfl, hu⟩ h₅

theorem iterCit {c : Cx} {σ : St} {it : Addr} {o : Obj} {Φ : AV → St → Prop} {X : XP} (i : Nat) (e : σ.own[i]? = some (it, .raw o)) (hc : o.cls = .type "callable_iterator") (k : Φ (.ref it) σ) : Tri c T0 (pyIter (.ref it)) VR σ Φ X :=
  Tri.pureStep k fun s _ r Q E q => wpAny_pyIter_cit (r.own _ (List.mem_of_getElem? e)).1 hc (q _ s.heap s.toks (fun _ _ e => e) VR.mkRef)

theorem Cal.iter2 {c : Cx} {m f self : Addr} {σ : St} {Φ : AV → St → Prop} {X : XP} (i : Nat) (e : σ.own[i]? = some (m, .raw (methodObj (.ref f) (.ref self)))) (k : ∀ d t, Φ (.ref d) ⟨σ.loc, (d, .raw (citObj m t)) :: σ.own⟩) :
    Cal c (.builtin "iter") [.ref m, .str []] σ Φ X := fun vs =>
  Tri.ofH fun s r p Q E q _ => by
    obtain ⟨v, w, rfl, p1, p2⟩ := VRs.two p
    cases p1.ref'
    obtain ⟨t, rfl⟩ := p2.str'
    have g := (r.own _ (List.mem_of_getElem? e)).1
    refine call_iter2 (of := methodObj (.ref f) (.ref self)) g ?_
    have hn : s.heap.get? s.heap.objs.size = none := Heap.get?_none_of_le (Nat.le_refl _)
    have ho : OR (s.heap.push (citObj m t)) s.heap.objs.size (.raw (citObj m t)) := ⟨Heap.get?_push_size _ rfl, .of_cls (by simp) (by simp)⟩
    exact q (.ref _) (.ref _) _ _ (r.toRep.fresh push_keep hn ho rfl) (Aft.fresh (tk := s.toks) push_keep hn rfl) VR.mkRef (k _ _)
end Mine

-- BK
namespace Mine
open PySem PySem.Calls PyProof.Rows PySem.W

/-- a function made where it closes over cells -/
theorem makeLam {M : Model} {A : Around} {E : Value → Shared → Prop} {s : Shared} {name qual : Str} {params : Arguments} {body : Expr} {scope : Scope} {env : Env} {c P : Addr} {ps : Array Value} {pos : Pos} {firstLine : Nat} {mg : Str → Option Value}
    {cq : Str × Addr} {cr : List (Str × Addr)} {Q : Value → Shared → Prop} (hcl : closureFor scope env = pure (cq :: cr)) (hge0 : env.globals = mainGlobals) (hg : s.heap.Ns mainGlobals mg) (hcode : env.code = .ref c) (C : CodeHd s.heap c P) (hP : s.heap.get? P = some (tabObj ps)) (ht : TriplesOk ps.toList)
    (hnf : codeAmong pos ps.toList = none) (hgP : mainGlobals ≠ P) (hb : s.heap.BuiltinsAt mg P)
    (h : ∀ c' ctv h' tk oc vs t, Heap.ExtBut P s.heap h' → s.heap.objs.size ≤ c' → c' < h'.objs.size → h'.get? c' = some oc → oc.cls = .type "code" → oc.data = .fields vs → vs[1]? = some (.str qual t) → h'.get? P = some (tabObj (ps ++ #[rawInt pos.line, rawInt pos.col, .ref c'])) →
      Q (.ref h'.objs.size) { s with heap := h'.push (kla_obj name qual params body scope (cq :: cr) ((mg "__name__").getD .none) c' ctv), toks := tk }) :
    wpAny M A (makeFunction name qual params (.expr body) scope env [] [] [] pos firstLine) Q E s := by
  rw [makeFunction_eq]
  simp only [List.zip_nil_right, List.filterMap_nil, List.isEmpty_nil, if_true, pure_bind]
  obtain ⟨bm, ob, hbm, hne0, _, hneP, hbo, hcls, hdict, hdata⟩ := hb
  unfold makeTail
  rw [hcl, hge0]
  refine wpAny_bind (wpAny_pure ?_)
  simp only [List.isEmpty_cons, Bool.false_eq_true, if_false]
  refine wpAny_bind (wpAny_newTextTuple ?_)
  refine wpAny_bind (wpAny_functionCodeX hcode ((C.keeps fun b o e => Heap.get?_push_of_some _ e).code (Heap.get?_push_of_some _ hP) ht) ((C.keeps fun b o e => Heap.get?_push_of_some _ e).tab (Heap.get?_push_of_some _ hP)) hnf fun c' h' tk hx hge hlt _ hrec htb hnew => ?_)
  have hg' := (hg.push _).extBut hx hgP
  have hx' : Heap.ExtBut P s.heap h' := fun b o hb' e => hx b o hb' (Heap.get?_push_of_some _ e)
  have hge' : s.heap.objs.size ≤ c' := Nat.le_trans (by rw [Heap.size_push]; omega) hge
  refine wpAny_bind (wpAny_builtinsFor hg' hbm hne0 (hx' _ _ hneP hbo) hcls hdict hdata ?_)
  refine wpAny_bind (wpAny_nsGet hg' ?_)
  obtain ⟨c₂, oc, vs, t, e2, hoc, hd, hv⟩ := hrec
  cases e2
  obtain ⟨P', _, _, ⟨o3, vs3, e3, e4, _⟩, _⟩ := hnew
  rw [hoc] at e3; cases e3
  exact wpAny_bind (wpAny_pure (wpAny_newObj_type (h c' _ h' tk oc vs t hx' hge' hlt hoc e4 hd hv htb.2) (by size_fits)))

/-- a lambda over cells -/
theorem evLambda {c : Cx} {params : Arguments} {body : Expr} {scope : Scope} {pos : Pos} {σ : St} {Φ : AV → St → Prop} {X : XP} {cd P : Addr} {cq : Str × Addr} {cr : List (Str × Addr)} {mg : Str → Option Value} (hdef : defaultsOf params c.env = ([], []))
    (hcl : closureFor scope c.env = pure (cq :: cr)) (hge0 : c.env.globals = mainGlobals) (hg : c.b0.Ns mainGlobals mg) (hcode : c.env.code = .ref cd) (C : CodeHd c.b0 cd P) (hb : c.b0.BuiltinsAt mg P) (hgP : mainGlobals ≠ P) (i : Nat) (e : σ.own[i]? = some (P, .raw (tabObj #[])))
    (k : ∀ f c' oc ctv vs t, oc.data = .fields vs → vs[1]? = some (.str (c.env.qual ++ "<lambda>") t) →
      Φ (.ref f) ⟨σ.loc, (f, .raw (kla_obj "<lambda>" (c.env.qual ++ "<lambda>") params body scope (cq :: cr) ((mg "__name__").getD .none) c' ctv)) :: (σ.own.set i (P, .raw (tabObj (#[] ++ #[rawInt pos.line, rawInt pos.col, .ref c']))) ++ [(c', .raw oc)])⟩) :
    Ev c (.Lambda params body scope pos) σ Φ X := by
  refine Tri.ofH fun s r _ Q E q _ => ?_
  refine kla_eval hdef ?_
  have gP := (r.own _ (List.mem_of_getElem? e)).1
  refine makeLam hcl hge0 (hg.keeps r.kb) hcode (C.keeps r.kb) gP trivial rfl hgP (let ⟨bm, o, a1, a2, a3, a4, a5, a6⟩ := hb; ⟨bm, o, a1, a2, a3, a4, r.kb _ _ a5, a6⟩) fun c' ctv h' tk oc vs t hx hge hlt hoc hcls hd hv hP' => ?_
  have sp : Sp [] (foot P (.raw (tabObj #[]))) s.heap h' := Sp.of_keep fun b o n e => hx b o (by simpa [foot] using n) e
  have oo : OR h' P (.raw (tabObj (#[] ++ #[rawInt pos.line, rawInt pos.col, .ref c']))) := ⟨hP', .of_cls (by simp) (by simp)⟩
  obtain ⟨ru, ft, hG⟩ := r.toRep.upd e sp oo rfl
  have fu := Aft.upd (c := c) (tk := tk) e sp oo rfl ft hG
  have hn : s.heap.get? c' = none := Heap.get?_none_of_le hge
  have ex : ∀ a ∈ c.fr ++ (c.fx ++ feet σ.own), ∃ o, s.heap.get? a = some o := fun a ha => by
    rcases List.mem_append.mp ha with w | w
    · obtain ⟨o, e, _⟩ := r.frc a w; exact ⟨o, e⟩
    · rcases List.mem_append.mp w with w | w
      · obtain ⟨o, e, _⟩ := r.kh a (List.mem_append_right _ w); exact ⟨o, e⟩
      · exact r.here a (List.mem_append_right _ w)
  have ra := ru.addOwn (a := c') (ao := .raw oc) ⟨hoc, .of_cls (by rw [hcls]; simp) (by rw [hcls]; simp)⟩ rfl (fun z => by
      obtain ⟨o, e1⟩ := ex c' (by
        rcases List.mem_append.mp z with z | z
        · exact List.mem_append_left _ z
        · rcases List.mem_append.mp z with z | z
          · exact List.mem_append_right _ (List.mem_append_left _ z)
          · exact List.mem_append_right _ (List.mem_append_right _ (by
              have z : c' ∈ feet (σ.own.set i (P, .raw (tabObj (#[] ++ #[rawInt pos.line, rawInt pos.col, .ref c'])))) := z
              rw [ft] at z; exact z)))
      rw [hn] at e1; cases e1) (fun z => by obtain ⟨o, e1, _⟩ := r.kh c' (List.mem_append_left _ z); rw [hn] at e1; cases e1) (by
      cases e1 : c.b0.get? c' with
      | none => rfl
      | some o => have := r.kb c' o e1; rw [hn] at this; cases this)
  have fa : Aft c σ s ⟨σ.loc, σ.own.set i (P, .raw (tabObj (#[] ++ #[rawInt pos.line, rawInt pos.col, .ref c']))) ++ [(c', .raw oc)]⟩ { s with heap := h', toks := tk } :=
    ⟨fu.rest, fu.sp, fu.al, fun a ha => by
      have ha : a ∈ feet (σ.own.set i (P, .raw (tabObj (#[] ++ #[rawInt pos.line, rawInt pos.col, .ref c']))) ++ [(c', .raw oc)]) := ha
      rw [feet_append] at ha
      rcases List.mem_append.mp ha with z | z
      · exact fu.fs a z
      · right
        have : a = c' := by simpa [feet, foot] using z
        rw [this]; exact hn⟩
  have hn2 : h'.get? h'.objs.size = none := Heap.get?_none_of_le (Nat.le_refl _)
  have ho2 : OR (h'.push (kla_obj "<lambda>" (c.env.qual ++ "<lambda>") params body scope (cq :: cr) ((mg "__name__").getD .none) c' ctv)) h'.objs.size (.raw (kla_obj "<lambda>" (c.env.qual ++ "<lambda>") params body scope (cq :: cr) ((mg "__name__").getD .none) c' ctv)) :=
    ⟨Heap.get?_push_size _ rfl, .of_cls (by simp) (by simp)⟩
  exact q (.ref _) (.ref _) _ _ (ra.fresh push_keep hn2 ho2 rfl) (fa.trans (Aft.fresh (s := { s with heap := h', toks := tk }) (tk := tk) push_keep hn2 rfl)) VR.mkRef (k _ _ _ _ _ _ hd hv)
end Mine

-- BL
namespace Mine
open PySem PySem.Calls PyProof.Rows PySem.W

theorem lookup_nodup {β : Type} : ∀ {cs : List (Str × β)} {n : Str} {c : β}, (cs.map (·.1)).Nodup → (n, c) ∈ cs → cs.lookup n = some c
  | (n', c') :: cs, n, c, hnd, hm => by
    rw [List.map_cons, List.nodup_cons] at hnd
    rw [List.lookup_cons]
    rcases List.mem_cons.mp hm with e | hm
    · cases e; simp
    · have : (n == n') = false := by
        have : n ≠ n' := fun e => hnd.1 (e ▸ List.mem_map.mpr ⟨_, hm, rfl⟩)
        simpa using this
      rw [this]; exact lookup_nodup hnd.2 hm

theorem lookup_append_one {x y : String} {a b : AV} : ∀ {l : List (String × AV)}, (l ++ [(y, b)]).lookup x = some a → l.lookup x = some a ∨ (x = y ∧ a = b)
  | [], e => by
    rw [List.nil_append, List.lookup_cons] at e
    by_cases h : x = y
    · subst h; simp at e; exact .inr ⟨rfl, e.symm⟩
    · have : (x == y) = false := by simpa using h
      rw [this] at e; simp at e
  | (z, w) :: l, e => by
    rw [List.cons_append, List.lookup_cons] at e
    rw [List.lookup_cons]
    cases h : x == z with
    | true => rw [h] at e; exact .inl e
    | false => rw [h] at e; exact lookup_append_one e

set_option maxHeartbeats 1000000 in
theorem introL {prog : Program} {w : World} {b0 : Heap} {z : Bool} {n : Nat} {fa c' cell S : Addr} {oc co : Obj} {qual : Str} {params : Arguments} {body : Expr} {scope : Scope} {pm ctv : Value} {y : String} {vs0 : Array Value} {t0 : Tok}
    {ps : List String} {args : List AV} {own : List (Addr × AO)} {Φ : AV → List (Addr × AO) → Prop} (hco : co.data = .cell (some (.ref S))) (hoc : oc.data = .fields vs0) (hov : vs0[1]? = some (.str qual t0)) (hlim : b0.NoLimit)
    (hbind : ∀ vs : List Value, vs.length = args.length → bindArgs (kla_fn "<lambda>" qual params body scope [(Str.ofString y, cell)] pm (.ref c') ctv) ⟨vs, []⟩ = pure ((ps.map Str.ofString).zip vs)) (hps : ps.length = args.length) (hnd : ps.Nodup)
    (hkl : ∀ x ∈ ps, scope.names.lookup (Str.ofString x) = some .local) (hky : scope.names.lookup (Str.ofString y) = some .free) (hcn : ∀ x ∈ scope.names, x.2 ≠ .cell)
    (h : ∀ (A : Around) (L : Addr) (K : List Addr), Good z n (cx prog w b0 (A.deeper (envX qual scope L fa (.ref c') [(Str.ofString y, cell)])) (envX qual scope L fa (.ref c') [(Str.ofString y, cell)]) [L] [cell] K) →
      Ev (cx prog w b0 (A.deeper (envX qual scope L fa (.ref c') [(Str.ofString y, cell)])) (envX qual scope L fa (.ref c') [(Str.ofString y, cell)]) [L] [cell] K) body ⟨ps.zip args ++ [(y, .ref S)], own⟩ (fun r σ' => Φ r σ'.own) noX)
    (hsco : scope.isCoroutine = false := by rfl) (hgen : scope.isGenerator = false := by rfl) (hk : scope.kind = .function := by rfl) :
    Fun prog w b0 z (n + 1) (.ref fa) args ((fa, .raw (kla_obj "<lambda>" qual params body scope [(Str.ofString y, cell)] pm c' ctv)) :: (c', .raw oc) :: (cell, .raw co) :: own)
      (fun r own' => ∃ o2, own' = (fa, .raw (kla_obj "<lambda>" qual params body scope [(Str.ofString y, cell)] pm c' ctv)) :: (c', .raw oc) :: (cell, .raw co) :: o2 ∧ Φ r o2) := by
  intro A env fr fx K loc g vs X s r hv Q E q' _
  refine codeAny_with_toks (n := 1) r.tp ?_
  generalize hF : (kla_obj "<lambda>" qual params body scope [(Str.ofString y, cell)] pm c' ctv) = FO at *
  have hlen := hv.length
  obtain ⟨l, hl, hlK⟩ := g.fr
  have hl : A.frames = some l := hl
  have gd : A.depth + (n + 1) < recursionLimit := g.dp
  have gu : A.units + 20 * (n + 1) < cLine := g.un
  have gF : s.heap.get? fa = some FO := (r.own (fa, .raw FO) (.head _)).1
  have gC : s.heap.get? c' = some oc := (r.own (c', .raw oc) (.tail _ (.head _))).1
  have gX : s.heap.get? cell = some co := (r.own (cell, .raw co) (.tail _ (.tail _ (.head _)))).1
  have hFd : FO.data = .func (kla_fn "<lambda>" qual params body scope [(Str.ofString y, cell)] pm (.ref c') ctv) := by rw [← hF]
  have ef : feet ((fa, AO.raw FO) :: (c', AO.raw oc) :: (cell, AO.raw co) :: own) = fa :: c' :: cell :: feet own := rfl
  have fnd := r.toRep.feetNodup
  rw [ef] at fnd
  obtain ⟨nd1, fnd1⟩ := List.nodup_cons.mp fnd
  obtain ⟨nd2, fnd2⟩ := List.nodup_cons.mp fnd1
  obtain ⟨nd3, fnd3⟩ := List.nodup_cons.mp fnd2
  refine kla_callFunE (by show A.depth < recursionLimit; omega) gF hFd hsco hgen rfl ⟨c', oc, vs0, t0, rfl, gC, hoc, hov⟩ ?_
  rw [hbind vs hlen]
  have hzn : (((ps.map Str.ofString).zip vs).map (·.1)).Nodup := by
    have e : ((ps.map Str.ofString).zip vs).map (·.1) = ps.map Str.ofString := List.map_fst_zip (by rw [List.length_map]; omega)
    rw [e]
    exact List.pairwise_map.mpr (hnd.imp fun ne e => ne (ofString_inj e))
  have hloc : ∀ x ∈ (ps.map Str.ofString).zip vs, scope.names.lookup x.1 = some .local := fun x hx => by
    obtain ⟨u, hu, e⟩ := List.mem_map.mp (List.of_mem_zip hx).1
    rw [← e]; exact hkl u hu
  refine wpAny_pure (wpAny_newFunctionEnv hcn hloc (fun h₁ hns hsb => ⟨(hlim.keeps r.kb).fresh _ hsb, ?_⟩) hk)
  show codeAny _ _ (.expr body (envX qual scope s.heap.objs.size fa (.ref c') [(Str.ofString y, cell)])) _ _
  generalize hL : s.heap.objs.size = L at *
  have hLn : s.heap.get? L = none := Heap.get?_none_of_le (by rw [hL]; exact Nat.le_refl _)
  have hk₁ : ∀ b o, s.heap.get? b = some o → h₁.get? b = some o := fun b o e => hsb.extBut b o (fun z => by rw [z, hLn] at e; cases e) (Heap.get?_push_of_some _ e)
  have sp0 : Sp [] [] s.heap h₁ := Sp.of_keep fun a o _ e => hk₁ a o e
  have hb0 : b0.get? L = none := by
    cases q : b0.get? L with
    | none => rfl
    | some o => have : s.heap.get? L = some o := r.kb L o q; rw [hLn] at this; cases this
  have fll : ∀ a ∈ l.filterMap (·.frame), a ∈ fr ++ K := (r.ff l hl).2
  have exK : ∀ a ∈ l.filterMap (·.frame), ∃ o, s.heap.get? a = some o ∧ NT o := fun a ha => by
    rcases List.mem_append.mp (fll a ha) with z | z
    · exact r.frc a z
    · exact r.kh a (List.mem_append_left _ z)
  have hnf : ∀ a ∈ l.filterMap (·.frame), a ∉ fa :: c' :: cell :: feet own := r.toRep.nfr l hl
  have hKb : ∀ a ∈ l.filterMap (·.frame), b0.get? a = none := fun a ha => by
    rcases List.mem_append.mp (fll a ha) with z | z
    · exact (r.nk a (List.mem_append_left _ z)).2
    · exact r.kn a z
  have nLs : ∀ a o, s.heap.get? a = some o → a ≠ L := fun a o e z => by rw [z, hLn] at e; cases e
  have hereO : ∀ a ∈ feet own, ∃ o, s.heap.get? a = some o := fun a ha => r.toRep.here a (List.mem_append_right _ (by rw [ef]; exact .tail _ (.tail _ (.tail _ ha))))
  have nb : ∀ a ∈ fa :: c' :: cell :: feet own, b0.get? a = none := fun a ha => (r.nk a (List.mem_append_right _ (List.mem_append_right _ (by rw [ef]; exact ha)))).2
  have hce : cell ∈ fa :: c' :: cell :: feet own := .tail _ (.tail _ (.head _))
  have R0 : Rep (cx prog w b0 (A.deeper (envX qual scope L fa (.ref c') [(Str.ofString y, cell)])) (envX qual scope L fa (.ref c') [(Str.ofString y, cell)]) [L] [cell] (l.filterMap (·.frame))) ⟨ps.zip args ++ [(y, .ref S)], own⟩ h₁ := by
    refine ⟨⟨_, hns, fun x av e => ?_⟩, .head _, fun x a e1 e2 e3 => ?_, fun x x' a e1 e2 => ?_, fun p hp => (r.own p (.tail _ (.tail _ (.tail _ hp)))).mono sp0 NoTup.nil fun b _ => ⟨by simp, by simp⟩, ?_, fun a ha => ?_, fun a ha => ?_, fun a o e => hk₁ a o (r.kb a o e), hKb, fun a ha => ?_, fun l' e => ?_⟩
    · rcases lookup_append_one e with e | ⟨rfl, rfl⟩
      · obtain ⟨v, hm, hvv⟩ := zip_lookup hv e
        obtain ⟨u, hu, e'⟩ := List.mem_map.mp (List.of_mem_zip hm).1
        have ey := ofString_inj e'; subst ey
        refine .inl ⟨hkl _ hu, v, ?_, hvv.mono sp0 NoTup.nil⟩
        exact lookup_nodup (by rw [List.map_reverse]; exact List.pairwise_reverse.mpr (hzn.imp Ne.symm)) (List.mem_reverse.mpr hm)
      · refine .inr ⟨.inr hky, cell, .ref S, by show List.lookup _ [(_, _)] = _; simp, .inr (.head _), nLs cell _ gX, ⟨co, hk₁ _ _ gX, hco⟩, VR.mkRef⟩
    · have : a = cell := by
        have e2 : List.lookup (Str.ofString x) [(Str.ofString y, cell)] = some a := e2
        rw [List.lookup_cons] at e2
        split at e2
        · exact (Option.some.inj e2).symm
        · cases e2
      subst this
      exact absurd (List.mem_singleton.mp e3) (nLs _ _ gX)
    · have one : ∀ x a, List.lookup (Str.ofString x) [(Str.ofString y, cell)] = some a → x = y := fun x a e => by
        rw [List.lookup_cons] at e
        split at e
        · rename_i h; exact ofString_inj (by simpa using h)
        · cases e
      rw [one x a e1, one x' a e2]
    · show ([L] ++ ([cell] ++ feet own)).Nodup
      refine List.nodup_cons.mpr ⟨fun z => ?_, fnd2⟩
      rcases List.mem_cons.mp z with z | z
      · exact nLs _ _ gX z.symm
      · obtain ⟨o, e⟩ := hereO L z; exact nLs _ _ e rfl
    · rcases List.mem_cons.mp (show a ∈ L :: cell :: feet own from ha) with rfl | ha
      · refine ⟨fun k => ?_, hb0⟩
        obtain ⟨o, e, _⟩ := exK _ k; exact nLs _ _ e rfl
      · have ha : a ∈ fa :: c' :: cell :: feet own := .tail _ (.tail _ ha)
        exact ⟨fun k => hnf a k ha, nb a ha⟩
    · rw [List.mem_singleton.mp ha]
      obtain ⟨o, es, ep, g', d', _⟩ := hns
      exact ⟨o, g', .of_dict d'⟩
    · rcases List.mem_append.mp ha with w' | w'
      · obtain ⟨o, e, t⟩ := exK a w'; exact ⟨o, hk₁ a o e, t⟩
      · rw [List.mem_singleton.mp w']; exact ⟨co, hk₁ _ _ gX, .of_cell hco⟩
    · have e2 : (A.deeper (envX qual scope L fa (.ref c') [(Str.ofString y, cell)])).frames = some ((envX qual scope L fa (.ref c') [(Str.ofString y, cell)]) :: l) := by show A.frames.map _ = _; rw [hl]; rfl
      have e : (A.deeper (envX qual scope L fa (.ref c') [(Str.ofString y, cell)])).frames = some l' := e
      rw [e2] at e; cases e
      refine ⟨⟨by show scope.kind ≠ .module; rw [hk]; decide, ⟨L, ?_⟩, ?_⟩, fun a ha => ?_⟩
      · obtain ⟨o, es, ep, g', d', _⟩ := hns
        exact ⟨o, rfl, hb0, g', by rw [d']; intro vs; simp⟩
      · exact (r.ff l hl).1.of_keeps fun b o g _ => ⟨o, hk₁ b o g, rfl⟩
      · rw [List.filterMap_cons] at ha
        rcases List.mem_cons.mp ha with rfl | ha
        · exact .head _
        · exact List.mem_append_right _ ha
  have G' : Good z n (cx prog w b0 (A.deeper (envX qual scope L fa (.ref c') [(Str.ofString y, cell)])) (envX qual scope L fa (.ref c') [(Str.ofString y, cell)]) [L] [cell] (l.filterMap (·.frame))) :=
    ⟨g.hd, by show A.depth + 1 + n < recursionLimit; omega, by show A.units + 3 + 20 * n < cLine; omega, hk, ⟨_ :: l, by show A.frames.map _ = _; rw [hl]; rfl, fun a ha => by
      rw [List.filterMap_cons] at ha
      rcases List.mem_cons.mp ha with rfl | ha
      · exact .inl rfl
      · exact .inr ha⟩⟩
  refine kla_codeExpr (h A L (l.filterMap (·.frame)) G' { s with heap := h₁, toks := s.toks + ((ps.map Str.ofString).zip vs).length } ⟨R0, Nat.le_trans r.tp (Nat.le_add_right ..)⟩ trivial _ _ (fun v av σ' s' r' f' vv hφ => ?_) (fun _ _ _ _ _ z => False.elim z))
  have f1 : Sp (l.filterMap (·.frame)) ([L] ++ feet own) h₁ s'.heap := f'.sp
  have kept : ∀ a ∈ [fa, c', cell], ∀ o, s.heap.get? a = some o → s'.heap.get? a = some o := fun a ha o e => by
    have hm : a ∈ fa :: c' :: cell :: feet own := by
      rcases List.mem_cons.mp ha with rfl | ha
      · exact .head _
      · rcases List.mem_cons.mp ha with rfl | ha
        · exact .tail _ (.head _)
        · rw [List.mem_singleton.mp ha]; exact hce
    refine f1.get (hk₁ a o e) (fun z => ?_) (fun k => hnf a k hm)
    rcases List.mem_cons.mp z with z | z
    · exact nLs a o e z
    · rcases List.mem_cons.mp ha with rfl | ha
      · exact nd1 (.tail _ (.tail _ z))
      · rcases List.mem_cons.mp ha with rfl | ha
        · exact nd2 (.tail _ z)
        · rw [List.mem_singleton.mp ha] at z; exact nd3 z
  have newO : ∀ a ∈ feet σ'.own, a ∈ feet own ∨ s.heap.get? a = none := fun a ha => (f'.fs a ha).imp id fun e1 => by
    cases q : s.heap.get? a with
    | none => rfl
    | some o => have := hk₁ a o q; rw [show ({ s with heap := h₁, toks := s.toks + ((ps.map Str.ofString).zip vs).length } : Shared).heap = h₁ from rfl] at e1; rw [e1] at this; cases this
  have nin : ∀ a ∈ [fa, c', cell], a ∉ feet σ'.own := fun a ha z => by
    have ex : ∃ o, s.heap.get? a = some o := by
      rcases List.mem_cons.mp ha with rfl | ha
      · exact ⟨_, gF⟩
      · rcases List.mem_cons.mp ha with rfl | ha
        · exact ⟨_, gC⟩
        · rw [List.mem_singleton.mp ha]; exact ⟨_, gX⟩
    rcases newO a z with z | z
    · rcases List.mem_cons.mp ha with rfl | ha
      · exact nd1 (.tail _ (.tail _ z))
      · rcases List.mem_cons.mp ha with rfl | ha
        · exact nd2 (.tail _ z)
        · rw [List.mem_singleton.mp ha] at z; exact nd3 z
    · obtain ⟨o, e⟩ := ex; rw [z] at e; cases e
  obtain ⟨rb, fb⟩ := r.toRep.back (own' := (fa, .raw FO) :: (c', .raw oc) :: (cell, .raw co) :: σ'.own) (s' := s') (K' := l.filterMap (·.frame)) (F' := [L]) (by have := f'.rest; rw [this])
    (fun a o hna e1 => by
      refine f1 a o (fun z => hna ?_) (hk₁ a o e1)
      rcases List.mem_cons.mp z with z | z
      · exact z ▸ .head _
      · exact .tail _ (by rw [ef]; exact .tail _ (.tail _ (.tail _ z))))
    (fun a ha => by rw [List.mem_singleton.mp ha]; exact hLn) fll
    (fun a o hna e1 => f'.al a o (fun z => hna (by rw [ef]; exact .tail _ (.tail _ (.tail _ z)))) (hk₁ a o e1))
    (fun p hp => by
      rcases List.mem_cons.mp hp with rfl | hp
      · exact ⟨kept fa (.head _) _ gF, by rw [← hF]; exact .of_cls (by simp) (by simp)⟩
      · rcases List.mem_cons.mp hp with rfl | hp
        · exact ⟨kept c' (.tail _ (.head _)) _ gC, (r.own (c', .raw oc) (.tail _ (.head _))).2⟩
        · rcases List.mem_cons.mp hp with rfl | hp
          · exact ⟨kept cell (.tail _ (.tail _ (.head _))) _ gX, .of_cell hco⟩
          · exact r'.own p hp)
    (by
      show (fa :: c' :: cell :: feet σ'.own).Nodup
      refine List.nodup_cons.mpr ⟨fun z => ?_, List.nodup_cons.mpr ⟨fun z => ?_, List.nodup_cons.mpr ⟨nin cell (.tail _ (.tail _ (.head _))), r'.toRep.feetNodup⟩⟩⟩
      · rcases List.mem_cons.mp z with z | z
        · exact nd1 (z ▸ .head _)
        · rcases List.mem_cons.mp z with z | z
          · exact nd1 (z ▸ .tail _ (.head _))
          · exact nin fa (.head _) z
      · rcases List.mem_cons.mp z with z | z
        · exact nd2 (z ▸ .head _)
        · exact nin c' (.tail _ (.head _)) z)
    (fun a ha => by
      rcases List.mem_cons.mp (show a ∈ fa :: c' :: cell :: feet σ'.own from ha) with rfl | ha
      · exact .inl (.head _)
      · rcases List.mem_cons.mp ha with rfl | ha
        · exact .inl (.tail _ (.head _))
        · rcases List.mem_cons.mp ha with rfl | ha
          · exact .inl (.tail _ (.tail _ (.head _)))
          · exact (newO a ha).imp (fun z => .tail _ (.tail _ (.tail _ z))) id)
    (fun a o e1 => r'.kb a o e1)
  exact fun tk => q' v av _ s' ⟨rb, tk⟩ fb vv ⟨rfl, _, rfl, hφ⟩
end Mine

-- BM
namespace Mine
open PySem PySem.Calls PyProof.Rows PySem.W

/-- the heap without the frames and what is told -/
abbrev bare (h : Heap) (l : List Env) (J : List Addr) : Heap := hideAll h (l.filterMap (·.frame) ++ J)

theorem bare_ff {b0 h : Heap} {l : List Env} {J : List Addr} : ∀ {l' : List Env}, h.FunFrames b0 l' → (∀ env ∈ l', env ∈ l) → h.FunFrames (bare h l J) l'
  | [], _, _ => trivial
  | env :: r, ⟨a, ⟨L, o, b, d, e, f⟩, g⟩, hm => ⟨a, ⟨L, o, b, hideAll_none _ (List.mem_append_left _ (List.mem_filterMap.mpr ⟨env, hm env (.head _), b⟩)), e, f⟩, bare_ff g fun e he => hm e (.tail _ he)⟩

/-- an exception that is held or flies: it and its newest entry are owned -/
structure ExcSt (cls : String) (fl : Value) (e T : Addr) (oe oT : Obj) : Prop where
  c : oe.cls = .type cls
  d : ∃ vs a0, oe.data = .fields vs ∧ vs[0]? = some a0 ∧ vs[1]? = some (.ref T)
  t : ∃ ts, oT.data = .fields ts ∧ ts[3]? = some fl

theorem ExcSt.nt {cls : String} {fl : Value} {e T : Addr} {oe oT : Obj} (x : ExcSt cls fl e T oe oT) : NT oT := by
  obtain ⟨ts, d, h⟩ := x.t
  exact .of_many d (Array.getElem?_eq_some_iff.mp h).1

/-- what a turn of an exception leaves -/
theorem excTurn {c : Cx} {loc : List (String × AV)} {own : List (Addr × AO)} {e : Addr} {oe : Obj} {J : List (Addr × AO)} {s : Shared} {h' : Heap} {l : List Env} {cls : String} {a0 fl : Value}
    (r : RepS c ⟨loc, (e, .raw oe) :: (J ++ own)⟩ s) (hl : c.A.frames = some l) (hc : cls ≠ "tuple" ∧ cls ≠ "range") (hB : (bare s.heap l (e :: feet J)).StaysIn h') (hU : s.heap.UpToSlots h') (hT : h'.TracedAtW (bare s.heap l (e :: feet J)) e (.type cls) a0 fl) :
    ∃ T oe' oT, ExcSt cls fl e T oe' oT ∧ RepS c ⟨loc, (e, .raw oe') :: (T, .raw oT) :: own⟩ { s with heap := h' } ∧ Aft c ⟨loc, (e, .raw oe) :: (J ++ own)⟩ s ⟨loc, (e, .raw oe') :: (T, .raw oT) :: own⟩ { s with heap := h' } := by
  obtain ⟨oe', vs, T, oT, ts, ge, ⟨hcls, h0⟩, hd, h1, hTn, hTe, gT, hdT, h3⟩ := hT
  have ff := r.ff l hl
  have X : ExcSt cls fl e T oe' oT := ⟨hcls, ⟨vs, a0, hd, h0, h1⟩, ⟨ts, hdT, h3⟩⟩
  have eft : feet ((e, AO.raw oe) :: (J ++ own)) = e :: (feet J ++ feet own) := by rw [feet_cons, feet_append]; rfl
  have fnd := r.toRep.feetNodup
  rw [eft] at fnd
  obtain ⟨ne1, fnd2⟩ := List.nodup_cons.mp fnd
  obtain ⟨fnJ, fnO, fnd3⟩ := List.nodup_append.mp fnd2
  have nfr := r.toRep.nfr l hl
  rw [eft] at nfr
  -- off the frames, the exception and its entries all stands
  have kept : ∀ a o, a ∉ l.filterMap (·.frame) → a ≠ e → a ∉ feet J → s.heap.get? a = some o → h'.get? a = some o := fun a o n1 n2 n3 g => hB a o (hideAll_get _ g fun z => by
    rcases List.mem_append.mp z with z | z
    · exact n1 z
    · rcases List.mem_cons.mp z with z | z
      · exact n2 z
      · exact n3 z)
  have frm : ∀ a ∈ l.filterMap (·.frame), ∃ o, s.heap.get? a = some o ∧ (∀ vs, o.data ≠ .fields vs) ∧ ∃ sl, h'.get? a = some { o with slots := sl } := fun a ha => by
    obtain ⟨_, o, g, d⟩ := ff.1.mem ha
    exact ⟨o, g, d, hU a o g d⟩
  have hTf : T ∉ l.filterMap (·.frame) := fun z => by
    obtain ⟨o, _, d, sl, g⟩ := frm T z
    rw [gT] at g; cases g; exact d ts hdT
  have hTnew : T ∈ feet J ∨ s.heap.get? T = none := by
    cases q : s.heap.get? T with
    | none => exact .inr rfl
    | some o =>
      by_cases z : T ∈ feet J
      · exact .inl z
      · have := hideAll_get (l.filterMap (·.frame) ++ (e :: feet J)) q (fun y => by
          rcases List.mem_append.mp y with y | y
          · exact hTf y
          · rcases List.mem_cons.mp y with y | y
            · exact hTe y
            · exact z y)
        rw [hTn] at this; cases this
  have ownOff : ∀ a ∈ feet own, a ∉ l.filterMap (·.frame) ∧ a ≠ e ∧ a ∉ feet J := fun a ha => ⟨fun z => nfr a z (.tail _ (List.mem_append_right _ ha)), fun z => ne1 (z ▸ List.mem_append_right _ ha), fun z => fnd3 a z a ha rfl⟩
  have memF : ∀ a ∈ e :: feet J, a ∈ c.fr ++ (c.fx ++ feet ((e, AO.raw oe) :: (J ++ own))) := fun a ha => List.mem_append_right _ (List.mem_append_right _ (by
    rw [eft]
    rcases List.mem_cons.mp ha with z | z
    · exact z ▸ .head _
    · exact .tail _ (List.mem_append_left _ z)))
  have frOff : ∀ a ∈ c.fr, a ∉ (e :: feet J) := fun a ha z => (List.nodup_append.mp r.nd).2.2 a ha a (List.mem_append_right _ (by rw [eft]; rcases List.mem_cons.mp z with z | z; exact z ▸ .head _; exact .tail _ (List.mem_append_left _ z))) rfl
  have fxOff : ∀ a ∈ c.fx, a ∉ (e :: feet J) := fun a ha z => (List.nodup_append.mp (List.nodup_append.mp r.nd).2.1).2.2 a ha a (by rw [eft]; rcases List.mem_cons.mp z with z | z; exact z ▸ .head _; exact .tail _ (List.mem_append_left _ z)) rfl
  have KOff : ∀ a ∈ c.K, a ∉ (e :: feet J) := fun a ha z => (r.nk a (memF a z)).1 ha
  -- anything else: as it stood, up to the slots of frames
  have all : ∀ a o, a ∉ (e :: feet J) → s.heap.get? a = some o → ∃ sl, h'.get? a = some { o with slots := sl } := fun a o n g => by
    by_cases z : a ∈ l.filterMap (·.frame)
    · obtain ⟨o', g', _, sl, g2⟩ := frm a z
      rw [g] at g'; cases g'; exact ⟨sl, g2⟩
    · exact ⟨o.slots, kept a o z (fun y => n (y ▸ .head _)) (fun y => n (.tail _ y)) g⟩
  have spX : Sp (l.filterMap (·.frame)) (e :: feet J) s.heap h' := fun a o n g => ⟨fun k => kept a o k (fun y => n (y ▸ .head _)) (fun y => n (.tail _ y)) g, all a o n g⟩
  have nt1 : NoTup s.heap (e :: feet J) := fun a ha o g => r.toRep.noTup a (List.mem_append_right _ (by rw [eft]; rcases List.mem_cons.mp ha with z | z; exact z ▸ .head _; exact .tail _ (List.mem_append_left _ z))) o g
  have nt2 : NoTup s.heap (l.filterMap (·.frame)) := fun a ha o g => by
    rcases List.mem_append.mp (ff.2 a ha) with z | z
    · exact r.toRep.noTup a (List.mem_append_left _ z) o g
    · exact r.toRep.noTupK a z o g
  have hTfr : T ∉ c.fr ++ c.fx ++ c.K := fun z => by
    rcases hTnew with y | y
    · rcases List.mem_append.mp z with z | z
      · rcases List.mem_append.mp z with z | z
        · exact frOff T z (.tail _ y)
        · exact fxOff T z (.tail _ y)
      · exact KOff T z (.tail _ y)
    · have : ∃ o, s.heap.get? T = some o := by
        rcases List.mem_append.mp z with z | z
        · rcases List.mem_append.mp z with z | z
          · obtain ⟨o, g, _⟩ := r.frc T z; exact ⟨o, g⟩
          · obtain ⟨o, g, _⟩ := r.kh T (List.mem_append_right _ z); exact ⟨o, g⟩
        · obtain ⟨o, g, _⟩ := r.kh T (List.mem_append_left _ z); exact ⟨o, g⟩
      obtain ⟨o, g⟩ := this
      rw [y] at g; cases g
  have hTown : T ∉ feet own := fun z => by
    rcases hTnew with y | y
    · exact fnd3 T y T z rfl
    · obtain ⟨o, g⟩ := r.toRep.here T (List.mem_append_right _ (by rw [eft]; exact .tail _ (List.mem_append_right _ z)))
      rw [y] at g; cases g
  have hTb : c.b0.get? T = none := by
    rcases hTnew with y | y
    · exact (r.nk T (memF T (.tail _ y))).2
    · cases q : c.b0.get? T with
      | none => rfl
      | some o => have := r.kb T o q; rw [y] at this; cases this
  have eft2 : feet ((e, AO.raw oe') :: (T, AO.raw oT) :: own) = e :: T :: feet own := rfl
  refine ⟨T, oe', oT, X, ⟨⟨?_, r.lin, fun x a e1 e2 e3 => ?_, r.inj, fun p hp => ?_, ?_, fun a ha => ?_, fun a ha => ?_, fun a o g => ?_, r.kn, fun a ha => ?_, fun l' e1 => ?_⟩, r.tp⟩, ⟨rfl, fun a o n g => ⟨fun k => ?_, ?_⟩, fun a o n g => ?_, fun a ha => ?_⟩⟩
  · obtain ⟨m, hn, hlo⟩ := r.ns
    refine ⟨m, Ns.slots hn (fun o g => all _ o (frOff _ r.lin) g), fun x av ex => ?_⟩
    rcases hlo x av ex with ⟨i, v, j, k⟩ | ⟨i, a, v, j, k, n, q, t⟩
    · exact .inl ⟨i, v, j, k.mono spX nt1 nt2⟩
    · exact .inr ⟨i, a, v, j, k, n, IsCell.slots q (fun o g => all a o (k.elim (frOff a) (fxOff a)) g), t.mono spX nt1 nt2⟩
  · obtain ⟨n, v, q⟩ := r.cel x a e1 e2 e3
    exact ⟨n, v, IsCell.slots q fun o g => all a o (frOff a e3) g⟩
  · rcases List.mem_cons.mp hp with rfl | hp
    · exact ⟨ge, .of_cls (by rw [hcls]; intro z; exact hc.1 (Value.type.inj z)) (by rw [hcls]; intro z; exact hc.2 (Value.type.inj z))⟩
    · rcases List.mem_cons.mp hp with rfl | hp
      · exact ⟨gT, X.nt⟩
      · refine (r.own p (.tail _ (List.mem_append_right _ hp))).mono spX nt1 (nK := nt2) (hf := fun b hb => ?_)
        obtain ⟨z1, z2, z3⟩ := ownOff b (List.mem_flatMap.mpr ⟨p, hp, hb⟩)
        exact ⟨fun z => by rcases List.mem_cons.mp z with z | z; exact z2 z; exact z3 z, z1⟩
  · show (c.fr ++ (c.fx ++ feet ((e, AO.raw oe') :: (T, AO.raw oT) :: own))).Nodup
    rw [eft2]
    have nd := r.nd
    rw [eft] at nd
    obtain ⟨m1, m2, m3⟩ := List.nodup_append.mp nd
    obtain ⟨m4, m5, m6⟩ := List.nodup_append.mp m2
    have dis : ∀ a ∈ e :: T :: feet own, a ∉ c.fr ∧ a ∉ c.fx := fun a ha => by
      rcases List.mem_cons.mp ha with rfl | ha
      · exact ⟨fun z => frOff _ z (.head _), fun z => fxOff _ z (.head _)⟩
      · rcases List.mem_cons.mp ha with rfl | ha
        · exact ⟨fun z => hTfr (List.mem_append_left _ (List.mem_append_left _ z)), fun z => hTfr (List.mem_append_left _ (List.mem_append_right _ z))⟩
        · exact ⟨fun z => m3 a z a (List.mem_append_right _ (.tail _ (List.mem_append_right _ ha))) rfl, fun z => m6 a z a (.tail _ (List.mem_append_right _ ha)) rfl⟩
    refine List.nodup_append.mpr ⟨m1, List.nodup_append.mpr ⟨m4, ?_, fun a ha b hb z => (dis b hb).2 (z ▸ ha)⟩, fun a ha b hb z => ?_⟩
    · refine List.nodup_cons.mpr ⟨fun z => ?_, List.nodup_cons.mpr ⟨hTown, fnO⟩⟩
      rcases List.mem_cons.mp z with z | z
      · exact hTe z.symm
      · exact ne1 (List.mem_append_right _ z)
    · rcases List.mem_append.mp hb with y | y
      · exact m3 a ha b (List.mem_append_left _ y) z
      · exact (dis b y).1 (z ▸ ha)
  · rcases List.mem_append.mp ha with z | z
    · exact r.nk a (List.mem_append_left _ z)
    · rcases List.mem_append.mp z with z | z
      · exact r.nk a (List.mem_append_right _ (List.mem_append_left _ z))
      · rcases List.mem_cons.mp (show a ∈ e :: T :: feet own from z) with rfl | z
        · exact r.nk _ (memF _ (.head _))
        · rcases List.mem_cons.mp z with rfl | z
          · exact ⟨fun y => hTfr (List.mem_append_right _ y), hTb⟩
          · exact r.nk a (List.mem_append_right _ (List.mem_append_right _ (by rw [eft]; exact .tail _ (List.mem_append_right _ z))))
  · obtain ⟨o, g, t⟩ := r.frc a ha
    obtain ⟨sl, g'⟩ := all a o (frOff a ha) g
    exact ⟨_, g', t.slots sl⟩
  · refine hB a o (hideAll_get _ (r.kb a o g) fun z => ?_)
    rcases List.mem_append.mp z with z | z
    · rcases List.mem_append.mp (ff.2 a z) with y | y
      · have := (r.nk a (List.mem_append_left _ y)).2; rw [this] at g; cases g
      · have := r.kn a y; rw [this] at g; cases g
    · have := (r.nk a (memF a z)).2; rw [this] at g; cases g
  · obtain ⟨o, g, t⟩ := r.kh a ha
    have n : a ∉ (e :: feet J) := by
      rcases List.mem_append.mp ha with z | z
      · exact KOff a z
      · exact fxOff a z
    obtain ⟨sl, g'⟩ := all a o n g
    exact ⟨_, g', t.slots sl⟩
  · have e1 : c.A.frames = some l' := e1
    rw [hl] at e1; cases e1
    refine ⟨ffOf ff.1 fun b hb o g d => ?_, ff.2⟩
    obtain ⟨sl, g'⟩ := hU b o g d
    exact ⟨_, g', d⟩
  · have n' : a ∉ (e :: feet J) := fun z => n (List.mem_append_right _ (by rw [eft]; rcases List.mem_cons.mp z with z | z; exact z ▸ .head _; exact .tail _ (List.mem_append_left _ z)))
    refine kept a o (fun z => ?_) (fun y => n' (y ▸ .head _)) (fun y => n' (.tail _ y)) g
    rcases List.mem_append.mp (ff.2 a z) with y | y
    · exact n (List.mem_append_left _ y)
    · exact k y
  · exact all a o (fun z => n (List.mem_append_right _ (by rw [eft]; rcases List.mem_cons.mp z with z | z; exact z ▸ .head _; exact .tail _ (List.mem_append_left _ z)))) g
  · have n' : a ∉ (e :: feet J) := fun z => n (by rw [eft]; rcases List.mem_cons.mp z with z | z; exact z ▸ .head _; exact .tail _ (List.mem_append_left _ z))
    obtain ⟨sl, g'⟩ := all a o n' g
    exact ⟨_, g'⟩
  · rw [eft2] at ha
    rw [eft]
    rcases List.mem_cons.mp ha with rfl | ha
    · exact .inl (.head _)
    · rcases List.mem_cons.mp ha with rfl | ha
      · exact hTnew.imp (fun z => .tail _ (List.mem_append_left _ z)) id
      · exact .inl (.tail _ (List.mem_append_right _ ha))
end Mine

-- BN
namespace Mine
open PySem PySem.Calls PyProof.Rows PySem.W

/-- an exception just made -/
def NewSt (cls : String) (oe : Obj) : Prop := oe.cls = .type cls ∧ ∃ t, oe.data = .fields #[t, .none, .none, .none, .bool false, .none]
/-- an exception just made, then one that is told of -/
def XNew (cls : String) (Ψ : St → Prop) : XP := fun v σ _ => ∃ e oe own, v = .ref e ∧ σ.own = (e, .raw oe) :: own ∧ NewSt cls oe ∧ Ψ ⟨σ.loc, own⟩
def XAt (cls : String) (fl : Value) (Ψ : St → Prop) : XP := fun v σ _ => ∃ e T oe oT own, v = .ref e ∧ σ.own = (e, .raw oe) :: (T, .raw oT) :: own ∧ ExcSt cls fl e T oe oT ∧ Ψ ⟨σ.loc, own⟩

theorem bare_stays {h : Heap} {l : List Env} {J : List Addr} : (bare h l J).StaysIn h := fun a o g => of_hideAll _ g

/-- the frame that runs -/
structure On (c : Cx) (L : Addr) : Prop where
  fr : ∃ outer, c.A.frames = some (c.env :: outer)
  at_ : c.env.frame = some L

theorem ExcSt.traced {cls : String} {fl : Value} {e T : Addr} {oe oT : Obj} {h base : Heap} (x : ExcSt cls fl e T oe oT) (ge : h.get? e = some oe) (gT : h.get? T = some oT) (hne : T ≠ e) (hb : base.get? T = none) :
    ∃ a0, h.TracedAtW base e (.type cls) a0 fl := by
  obtain ⟨vs, a0, d, h0, h1⟩ := x.d
  obtain ⟨ts, dT, h3⟩ := x.t
  exact ⟨a0, oe, vs, T, oT, ts, ge, ⟨x.c, h0⟩, d, h1, hb, hne, gT, dT, h3⟩

section
variable {c : Cx} {v : Value} {σ : St} {s : Shared} {cls : String} {Ψ : St → Prop} {L : Addr} {Q : Unit → Shared → Prop} {E : Value → Shared → Prop}

theorem noteNew (on : On c L) (hc : cls ≠ "tuple" ∧ cls ≠ "range") (r : RepS c σ s) (y : XNew cls Ψ v σ s)
    (k : ∀ σ' s', RepS c σ' s' → Aft c σ s σ' s' → XAt cls (rawInt L) Ψ v σ' s' → Q () s') : wpAny (model c.prog c.w) c.A (noteFrame v c.env) Q E s := by
  obtain ⟨e, oe, own, rfl, eo, ⟨hcls, t, hd⟩, hψ⟩ := y
  obtain ⟨loc, own'⟩ := σ
  cases eo
  obtain ⟨⟨outer, hfr⟩, hf⟩ := on
  have ge : s.heap.get? e = some oe := (r.own _ (.head _)).1
  unfold noteFrame
  simp only [hf]
  refine wpAny_bind (wpAny_field ge hd (x := .none) rfl ?_)
  rw [if_neg (by decide)]
  refine wpAny_entryW (base := bare s.heap (c.env :: outer) (e :: feet [])) hfr (bare_ff (r.ff _ hfr).1 fun _ h => h) hf ge bare_stays (hideAll_none _ (List.mem_append_right _ (.head _))) hd (by simp) (a0 := t) rfl fun h' N => ?_
  obtain ⟨n1, n2, n3, n4⟩ := N
  rw [hcls] at n3
  obtain ⟨T, oe', oT, X, r', f⟩ := excTurn (J := []) r hfr hc n1 n4 n3
  exact k _ _ r' f ⟨e, T, oe', oT, own, rfl, rfl, X, hψ⟩

theorem pairNe {e T : Addr} {oe oT : Obj} {own : List (Addr × AO)} {loc : List (String × AV)} {h : Heap} (r : Rep c ⟨loc, (e, .raw oe) :: (T, .raw oT) :: own⟩ h) : T ≠ e := fun z => by
  have := r.feetNodup
  have := (List.nodup_cons.mp this).1
  exact this (z ▸ .head _)

theorem noteFly (on : On c L) (hc : cls ≠ "tuple" ∧ cls ≠ "range") (r : RepS c σ s) (y : XAt cls .none Ψ v σ s)
    (k : ∀ σ' s', RepS c σ' s' → Aft c σ s σ' s' → XAt cls (rawInt L) Ψ v σ' s' → Q () s') : wpAny (model c.prog c.w) c.A (noteFrame v c.env) Q E s := by
  obtain ⟨e, T, oe, oT, own, rfl, eo, X, hψ⟩ := y
  obtain ⟨loc, own'⟩ := σ
  cases eo
  obtain ⟨⟨outer, hfr⟩, hf⟩ := on
  have ge : s.heap.get? e = some oe := (r.own _ (.head _)).1
  have gT : s.heap.get? T = some oT := (r.own _ (.tail _ (.head _))).1
  obtain ⟨a0, ht⟩ := X.traced (base := bare s.heap (c.env :: outer) (e :: feet [(T, AO.raw oT)])) ge gT (pairNe r.toRep) (hideAll_none _ (List.mem_append_right _ (.tail _ (.head _))))
  refine wpAny_noteFrame_onW hfr (bare_ff (r.ff _ hfr).1 fun _ h => h) hf ht bare_stays (hideAll_none _ (List.mem_append_right _ (.head _))) fun h' N => ?_
  obtain ⟨n1, n2, n3, n4⟩ := N
  obtain ⟨T', oe', oT', X', r', f⟩ := excTurn (J := [(T, AO.raw oT)]) r hfr hc n1 n4 n3
  exact k _ _ r' f ⟨e, T', oe', oT', own, rfl, rfl, X', hψ⟩

theorem noteAgain (hf : c.env.frame = some L) (r : RepS c σ s) (y : XAt cls (rawInt L) Ψ v σ s) (k : Q () s) : wpAny (model c.prog c.w) c.A (noteFrame v c.env) Q E s := by
  obtain ⟨e, T, oe, oT, own, rfl, eo, X, hψ⟩ := y
  obtain ⟨loc, own'⟩ := σ
  cases eo
  have ge : s.heap.get? e = some oe := (r.own _ (.head _)).1
  have gT : s.heap.get? T = some oT := (r.own _ (.tail _ (.head _))).1
  obtain ⟨a0, ht⟩ := X.traced (base := Heap.hide s.heap T) ge gT (pairNe r.toRep) (hideAll_none [T] (h := s.heap) (.head _))
  exact wpAny_noteFrame_againW hf ht k

/-- a flight set or ended -/
theorem flight {fl : Value} {fr : Option Addr} (hl : ∃ l, c.A.frames = some l) (hc : cls ≠ "tuple" ∧ cls ≠ "range") (r : RepS c σ s) (y : XAt cls fl Ψ v σ s)
    (k : ∀ σ' s', RepS c σ' s' → Aft c σ s σ' s' → XAt cls (fr.elim .none fun f => rawInt f) Ψ v σ' s' → Q () s') : wpAny (model c.prog c.w) c.A (setFlight v fr) Q E s := by
  obtain ⟨e, T, oe, oT, own, rfl, eo, X, hψ⟩ := y
  obtain ⟨loc, own'⟩ := σ
  cases eo
  obtain ⟨l, hl⟩ := hl
  have ge : s.heap.get? e = some oe := (r.own _ (.head _)).1
  have gT : s.heap.get? T = some oT := (r.own _ (.tail _ (.head _))).1
  have hTe := pairNe r.toRep
  obtain ⟨vs, a0, d, h0, h1⟩ := X.d
  obtain ⟨ts, dT, h3⟩ := X.t
  have hsz3 : 3 < ts.size := (Array.getElem?_eq_some_iff.mp h3).1
  have other : ∀ b, b ≠ T → (s.heap.update T (Obj.mapFields (·.setIfInBounds 3 (fr.elim .none fun f => rawInt f)))).get? b = s.heap.get? b :=
    fun b hb => Heap.get?_update_other _ _ (Ne.symm hb)
  unfold setFlight
  refine wpAny_bind (wpAny_field ge d h1 ?_)
  rw [if_pos (show (Value.ref T != Value.none) = true from by simp)]
  refine wpAny_setField gT dT hsz3 ?_
  have gT' := Heap.get?_update_self (Obj.mapFields (·.setIfInBounds 3 (fr.elim .none fun f => rawInt f))) gT (Obj.isFreed_of_fields (Obj.data_mapFields dT _))
  have hTn : (bare s.heap l (e :: feet [(T, AO.raw oT)])).get? T = none := hideAll_none _ (List.mem_append_right _ (.tail _ (.head _)))
  obtain ⟨T', oe', oT', X', r', f⟩ := excTurn (J := [(T, AO.raw oT)]) (h' := s.heap.update T (Obj.mapFields (·.setIfInBounds 3 (fr.elim .none fun f => rawInt f)))) (cls := cls) (a0 := a0) (fl := fr.elim .none fun f => rawInt f) r hl hc
    (fun b o hb => (other b fun q => by rw [q] at hb; rw [hTn] at hb; cases hb).trans (bare_stays b o hb))
    (fun b o hb hn => ⟨o.slots, (other b fun q => by rw [q, gT] at hb; cases hb; exact hn ts dT).trans hb⟩)
    ⟨oe, vs, T, _, _, (other e (Ne.symm hTe)).trans ge, ⟨X.c, h0⟩, d, h1, hideAll_none _ (List.mem_append_right _ (.tail _ (.head _))), hTe, gT', Obj.data_mapFields dT _, by simp [hsz3]⟩
  exact k _ _ r' f ⟨e, T', oe', oT', own, rfl, rfl, X', hψ⟩

theorem XAt.field1 {fl : Value} (r : RepS c σ s) (y : XAt cls fl Ψ v σ s) {Q : Value → Shared → Prop} (k : ∀ T, Q (.ref T) s) : wpAny (model c.prog c.w) c.A (field v 1) Q E s := by
  obtain ⟨e, T, oe, oT, own, rfl, eo, X, hψ⟩ := y
  obtain ⟨loc, own'⟩ := σ
  cases eo
  obtain ⟨vs, a0, d, h0, h1⟩ := X.d
  exact wpAny_field (r.own _ (.head _)).1 d h1 (k T)

/-- out of a loop -/
theorem Pass.new (on : On c L) (hc : cls ≠ "tuple" ∧ cls ≠ "range") : Pass c (XNew cls Ψ) (XAt cls (rawInt L) Ψ) := fun e σ s E r y x => by
  refine noteNew on hc r y fun σ' s' r' f y' => ?_
  unfold cameBackBy
  refine wpAny_bind (y'.field1 r' fun T => ?_)
  rw [if_neg (by simp)]
  rw [on.at_]
  obtain ⟨outer, hfr⟩ := on.fr
  exact flight ⟨_, hfr⟩ hc r' y' fun σ₂ s₂ r₂ f₂ y₂ => x e σ₂ s₂ r₂ (f.trans f₂) y₂

/-- out of a function -/
theorem leave (on : On c L) (hc : cls ≠ "tuple" ∧ cls ≠ "range") (r : RepS c σ s) (y : XNew cls Ψ v σ s ∨ XAt cls (rawInt L) Ψ v σ s)
    (k : ∀ σ' s', RepS c σ' s' → Aft c σ s σ' s' → XAt cls .none Ψ v σ' s' → Q () s') : wpAny (model c.prog c.w) c.A (leaving c.env v) Q E s := by
  obtain ⟨outer, hfr⟩ := on.fr
  unfold leaving
  rcases y with y | y
  · refine wpAny_bind (noteNew on hc r y fun σ' s' r' f y' => ?_)
    exact flight (fr := none) ⟨_, hfr⟩ hc r' y' fun σ₂ s₂ r₂ f₂ y₂ => k σ₂ s₂ r₂ (f.trans f₂) y₂
  · exact wpAny_bind (noteAgain on.at_ r y (flight (fr := none) ⟨_, hfr⟩ hc r y k))
end
end Mine

-- BO
namespace Mine
open PySem PySem.Calls PyProof.Rows PySem.W

/-- the promise of a callee that may raise -/
def FunX (prog : Program) (w : World) (b0 : Heap) (z : Bool) (n : Nat) (f : Value) (args : List AV) (own : List (Addr × AO)) (Φ : AV → List (Addr × AO) → Prop) (cls : String) (Ψ : List (Addr × AO) → Prop) : Prop :=
  ∀ (A : Around) (env : Env) (fr fx K : List Addr) (loc : List (String × AV)), Good z n (cx prog w b0 A env fr fx K) →
    ∀ vs, TriW (cx prog w b0 A env fr fx K) (fun h => VRs h args vs) (runs prog w A (.call f ⟨vs, []⟩)) VR ⟨loc, own⟩ (fun av σ' => σ'.loc = loc ∧ Φ av σ'.own) (XAt cls .none fun σ' => σ'.loc = loc ∧ Ψ σ'.own)

theorem FunX.use {prog : Program} {w : World} {b0 : Heap} {z : Bool} {n : Nat} {f : Value} {args : List AV} {own R : List (Addr × AO)} {Ψ : AV → List (Addr × AO) → Prop} {cls : String} {Θ : List (Addr × AO) → Prop} (F : FunX prog w b0 z n f args own Ψ cls Θ)
    {A : Around} {env : Env} {fr fx K : List Addr} {loc : List (String × AV)} {Φ : AV → St → Prop} {X : XP} (g : Good z n (cx prog w b0 A env fr fx K))
    (k : ∀ av own', Ψ av own' → Φ av ⟨loc, own' ++ R⟩) (x : ∀ v σ s, XAt cls .none (fun σ' => σ'.loc = loc ∧ ∃ o, σ'.own = o ++ R ∧ Θ o) v σ s → X v σ s) : Cal (cx prog w b0 A env fr fx K) f args ⟨loc, own ++ R⟩ Φ X := fun vs =>
  Tri.frame (fun s r p Q E q y => wpAny_call (F A env fr fx K loc g vs s r p.1 Q E (fun v av σ' s' r' f' vv h => by
    obtain ⟨loc', own'⟩ := σ'
    obtain ⟨rfl, h⟩ := h
    exact q v av _ s' r' f' vv (k av own' h)) (fun e σ' s' r' f' h => by
    obtain ⟨e, T, oe, oT, o, rfl, eo, X, hl, hψ⟩ := h
    refine y _ σ' s' r' f' (x _ _ _ ⟨e, T, oe, oT, o ++ R, rfl, ?_, X, hl, o, rfl, hψ⟩)
    show σ'.own ++ R = _
    rw [eo]; rfl)))

theorem FunX.introG {prog : Program} {w : World} {b0 : Heap} {z : Bool} {n : Nat} {fa : Addr} {fo : Obj} {fd : FuncData} {body : List Stmt} {ps : List String} {args : List AV} {own : List (Addr × AO)} {Φ : AV → List (Addr × AO) → Prop} {cls : String} {Ψ : List (Addr × AO) → Prop} {Ω : Cx → Fl → St → Prop}
    (ho : b0.get? fa = some fo) (hd : fo.data = .func fd) (hbody : fd.body = .stmts body) (hclo : fd.closure = []) (hcd : b0.CodeRec fd.code fd.qualname) (hlim : b0.NoLimit)
    (hbind : ∀ vs : List Value, vs.length = args.length → bindArgs fd ⟨vs, []⟩ = pure ((ps.map Str.ofString).zip vs)) (hps : ps.length = args.length) (hnd : ps.Nodup) (hcn : ((cellsFrom 0 fd.scope.names []).map (·.1)).Nodup)
    (hkb : (ps.all fun x => fd.scope.names.lookup (Str.ofString x) == some .local || fd.scope.names.lookup (Str.ofString x) == some .cell) = true)
    (h : ∀ (A : Around) (L : Addr) (K : List Addr), Good z n (cx prog w b0 (A.deeper (callEnvC fd L fa)) (callEnvC fd L fa) (L :: (callEnvC fd L fa).cells.map (·.2)) [] K) →
      On (cx prog w b0 (A.deeper (callEnvC fd L fa)) (callEnvC fd L fa) (L :: (callEnvC fd L fa).cells.map (·.2)) [] K) L →
      Exs (cx prog w b0 (A.deeper (callEnvC fd L fa)) (callEnvC fd L fa) (L :: (callEnvC fd L fa).cells.map (·.2)) [] K) body ⟨ps.zip args, own⟩ (Ω (cx prog w b0 (A.deeper (callEnvC fd L fa)) (callEnvC fd L fa) (L :: (callEnvC fd L fa).cells.map (·.2)) [] K)) fun v σ s => XNew cls (fun σ => Ψ σ.own) v σ s ∨ XAt cls (rawInt L) (fun σ => Ψ σ.own) v σ s)
    (hfin : ∀ (c : Cx) fl σ' h', Rep c σ' h' → Ω c fl σ' → ∃ own', Φ (retv fl) own' ∧ (∀ p ∈ own', OR h' p.1 p.2) ∧ (feet own').Nodup ∧ ∀ a ∈ feet own', a ∈ feet σ'.own ∨ a ∈ c.fr)
    (hc : cls ≠ "tuple" ∧ cls ≠ "range") (hco : fd.scope.isCoroutine = false := by rfl) (hgen : fd.scope.isGenerator = false := by rfl) (hk : fd.scope.kind = .function := by rfl) : FunX prog w b0 z (n + 1) (.ref fa) args own Φ cls Ψ := by
  have hkind : ∀ x ∈ ps, fd.scope.names.lookup (Str.ofString x) = some .local ∨ (fd.scope.names.lookup (Str.ofString x) = some .cell ∧ ∀ n, ((cellsFrom n fd.scope.names []).lookup (Str.ofString x)).isSome = true) := by
    intro x hx
    have := List.all_eq_true.mp hkb x hx
    rw [Bool.or_eq_true] at this
    refine this.imp eq_of_beq fun q => ⟨eq_of_beq q, fun n => cellsFrom_some _ _ _ (.inl (eq_of_beq q))⟩
  intro A env fr fx K loc g vs s r hv Q E q' x'
  refine codeAny_with_toks (n := 1) r.tp ?_
  have q : KqH (cx prog w b0 A env fr fx K) ⟨loc, own⟩ s VR (fun av σ' => σ'.loc = loc ∧ Φ av σ'.own) (fun v s' => 1 ≤ s'.toks → Q v s') := fun a y σ' s' r' f v φ tk => q' a y σ' s' ⟨r', tk⟩ f v φ
  have hlen := hv.length
  obtain ⟨l, hl, hlK⟩ := g.fr
  have hl : A.frames = some l := hl
  have gd : A.depth + (n + 1) < recursionLimit := g.dp
  have gu : A.units + 20 * (n + 1) < cLine := g.un
  refine codeAny_call_function (by show A.depth < recursionLimit; omega) (r.kb _ _ ho) hd hco hgen hbody (hcd.keeps r.kb) ?_
  rw [hbind vs hlen, hclo]
  have hzn : (((ps.map Str.ofString).zip vs).map (·.1)).Nodup := by
    have e : ((ps.map Str.ofString).zip vs).map (·.1) = ps.map Str.ofString := by
      have := List.map_fst_zip (l₁ := ps.map Str.ofString) (l₂ := vs) (by rw [List.length_map]; omega)
      exact this
    rw [e]
    exact List.pairwise_map.mpr (hnd.imp fun ne e => ne (ofString_inj e))
  have hkz : ∀ x ∈ (ps.map Str.ofString).zip vs, fd.scope.names.lookup x.1 = some .local ∨ (fd.scope.names.lookup x.1 = some .cell ∧ ((cellsFrom (s.heap.objs.size + 1) fd.scope.names []).lookup x.1).isSome = true) := by
    intro x hx
    obtain ⟨y, hy, e⟩ := List.mem_map.mp (List.of_mem_zip hx).1
    rw [← e]
    exact (hkind y hy).imp id fun q => ⟨q.1, q.2 _⟩
  refine wpAny_pure (wpAny_with_toks r.tp (wpAny_newFunctionEnv_cells hk hkz fun env' he s' x => fun htk => ?_))
  subst he
  refine ⟨(hlim.keeps r.kb).keeps x.toInCall.keep, codeAny_func ?_⟩
  obtain ⟨h₁, tk, rfl⟩ := x.toInCall.same
  have hk₁ := x.toInCall.keep
  have hb0 : ∀ a, s.heap.get? a = none → b0.get? a = none := fun a e => by
    cases q : b0.get? a with
    | none => rfl
    | some o => have : s.heap.get? a = some o := r.kb a o q; rw [e] at this; cases this
  have hLn : s.heap.get? s.heap.objs.size = none := Heap.get?_none_of_le (Nat.le_refl _)
  -- the new frame
  have hfrn : ∀ a ∈ s.heap.objs.size :: (callEnvC fd s.heap.objs.size fa).cells.map (·.2), s.heap.get? a = none := by
    intro a ha
    rcases List.mem_cons.mp ha with rfl | ha
    · exact hLn
    · obtain ⟨p, hp, rfl⟩ := List.mem_map.mp ha
      exact Heap.get?_none_of_le (Nat.le_of_lt (x.above p.1 p.2 hp))
  have fll : ∀ a ∈ l.filterMap (·.frame), a ∈ fr ++ K := (r.ff l hl).2
  have exK : ∀ a ∈ l.filterMap (·.frame), ∃ o, s.heap.get? a = some o ∧ NT o := fun a ha => by
    rcases List.mem_append.mp (fll a ha) with z | z
    · exact r.frc a z
    · exact r.kh a (List.mem_append_left _ z)
  have hnf : ∀ a ∈ l.filterMap (·.frame), a ∉ feet own := r.nfr l hl
  have hKb : ∀ a ∈ l.filterMap (·.frame), b0.get? a = none := fun a ha => by
    rcases List.mem_append.mp (fll a ha) with z | z
    · exact (r.nk a (List.mem_append_left _ z)).2
    · exact r.kn a z
  have sp0 : Sp [] [] s.heap h₁ := Sp.of_keep fun a o _ e => hk₁ a o e
  have ex : ∀ a ∈ feet own, ∃ o, s.heap.get? a = some o := fun a ha => r.here a (List.mem_append_right _ ha)
  have cellIs : ∀ y a, (callEnvC fd s.heap.objs.size fa).cells.lookup y = some a → a ≠ s.heap.objs.size ∧ ∃ v, h₁.IsCell a v := fun y a e =>
    ⟨Nat.ne_of_gt (x.above y a (mem_of_lookup e)), _, x.cell y a e⟩
  have R0 : Rep (cx prog w b0 (A.deeper (callEnvC fd s.heap.objs.size fa)) (callEnvC fd s.heap.objs.size fa) (s.heap.objs.size :: (callEnvC fd s.heap.objs.size fa).cells.map (·.2)) [] (l.filterMap (·.frame))) ⟨ps.zip args, own⟩ h₁ := by
    refine ⟨⟨_, x.toInCall.ns, fun y av e => ?_⟩, List.mem_cons_self, fun y a _ e2 _ => cellIs _ a e2, fun y y' a e1 e2 => ?_, fun p hp => ?_, ?_, fun a ha => ?_, fun a ha => ?_, fun a o e => hk₁ a o (r.kb a o e), hKb, fun a ha => ?_, fun l' e => ?_⟩
    · obtain ⟨v, hm, hvv⟩ := zip_lookup hv e
      have hm' := (List.of_mem_zip hm).1
      obtain ⟨y', hy, e'⟩ := List.mem_map.mp hm'
      have ey := ofString_inj e'; subst ey
      rcases hkind y' hy with q | ⟨q, qs⟩
      · exact .inl ⟨q, v, bindL_on hzn hm q, hvv.mono sp0 NoTup.nil⟩
      · obtain ⟨a, ha⟩ := Option.isSome_iff_exists.mp (qs (s.heap.objs.size + 1))
        have hc := x.cell _ a ha
        rw [bindC_on hzn hm (by show Env.kindOf _ _ ≠ _; intro e3; have e4 : fd.scope.names.lookup (Str.ofString y') = some .local := e3; rw [q] at e4; cases e4)] at hc
        exact .inr ⟨.inl q, a, v, ha, .inl (.tail _ (List.mem_map.mpr ⟨_, mem_of_lookup ha, rfl⟩)), (cellIs _ a ha).1, hc, hvv.mono sp0 NoTup.nil⟩
    · exact ofString_inj (name_of_addr x.apart (mem_of_lookup e1) (mem_of_lookup e2))
    · exact (r.own p hp).mono sp0 NoTup.nil fun b _ => ⟨by simp, by simp⟩
    · have ap : ((callEnvC fd s.heap.objs.size fa).cells.map (·.2)).Nodup := List.pairwise_map.mpr x.apart
      refine List.nodup_append.mpr ⟨List.nodup_cons.mpr ⟨fun z => ?_, ap⟩, by simpa using r.feetNodup, fun a ha b hb => ?_⟩
      · obtain ⟨p, hp, e⟩ := List.mem_map.mp z
        exact absurd e (Nat.ne_of_gt (x.above p.1 p.2 hp))
      · rintro rfl
        obtain ⟨o, e⟩ := ex a (by simpa using hb)
        rw [hfrn a ha] at e; cases e
    · rcases List.mem_append.mp ha with z | z
      · refine ⟨fun k => ?_, hb0 a (hfrn a z)⟩
        obtain ⟨o, e, _⟩ := exK a k; rw [hfrn a z] at e; cases e
      · have z : a ∈ feet own := by simpa using z
        exact ⟨fun k => hnf a k z, (r.nk a (List.mem_append_right _ (List.mem_append_right _ z))).2⟩
    · rcases List.mem_cons.mp ha with rfl | ha
      · obtain ⟨o, es, ep, g, d, _⟩ := x.toInCall.ns
        exact ⟨o, g, .of_dict d⟩
      · obtain ⟨p, hp, rfl⟩ := List.mem_map.mp ha
        have hlk : (callEnvC fd s.heap.objs.size fa).cells.lookup p.1 = some p.2 := lookup_of_mem_nodup (cellsFrom_names fd.scope.names 0 (s.heap.objs.size + 1) [] [] rfl ▸ hcn) hp
        obtain ⟨_, v, o, g, d⟩ := cellIs p.1 p.2 hlk
        exact ⟨o, g, .of_cell d⟩
    · have ha : a ∈ l.filterMap (·.frame) := by simpa using ha
      obtain ⟨o, e, t⟩ := exK a ha
      exact ⟨o, hk₁ a o e, t⟩
    · have e : (A.deeper (callEnvC fd s.heap.objs.size fa)).frames = some l' := e
      have e2 : (A.deeper (callEnvC fd s.heap.objs.size fa)).frames = some (callEnvC fd s.heap.objs.size fa :: l) := by
        show A.frames.map _ = _; rw [hl]; rfl
      rw [e2] at e; cases e
      refine ⟨⟨by show fd.scope.kind ≠ .module; rw [hk]; decide, ⟨s.heap.objs.size, ?_⟩, ?_⟩, fun a ha => ?_⟩
      · obtain ⟨o, es, ep, g, d, _⟩ := x.toInCall.ns
        exact ⟨o, rfl, hb0 _ hLn, g, by rw [d]; intro vs; simp⟩
      · exact (r.ff l hl).1.of_keeps fun b o g _ => ⟨o, hk₁ b o g, rfl⟩
      · rw [List.filterMap_cons] at ha
        rcases List.mem_cons.mp ha with rfl | ha
        · exact .head _
        · exact List.mem_append_right _ ha
  have G' : Good z n (cx prog w b0 (A.deeper (callEnvC fd s.heap.objs.size fa)) (callEnvC fd s.heap.objs.size fa) (s.heap.objs.size :: (callEnvC fd s.heap.objs.size fa).cells.map (·.2)) [] (l.filterMap (·.frame))) :=
    ⟨g.hd, by show A.depth + 1 + n < recursionLimit; omega, by show A.units + 3 + 20 * n < cLine; omega, hk, ⟨callEnvC fd s.heap.objs.size fa :: l, by show A.frames.map _ = _; rw [hl]; rfl, fun a ha => by
      rw [List.filterMap_cons] at ha
      rcases List.mem_cons.mp ha with rfl | ha
      · exact .inl rfl
      · exact .inr ha⟩⟩
  have O' : On (cx prog w b0 (A.deeper (callEnvC fd s.heap.objs.size fa)) (callEnvC fd s.heap.objs.size fa) (s.heap.objs.size :: (callEnvC fd s.heap.objs.size fa).cells.map (·.2)) [] (l.filterMap (·.frame))) s.heap.objs.size := ⟨⟨l, by show A.frames.map _ = _; rw [hl]; rfl⟩, rfl⟩
  refine h A s.heap.objs.size (l.filterMap (·.frame)) G' O' { s with heap := h₁, toks := tk } ⟨R0, htk⟩ trivial _ _ (fun f fl σ' s' r' f' e hφ => ?_) ?_
  case refine_2 =>
    intro e σ₁ s₁ r₁ f₁ y₁
    refine leave O' hc r₁ y₁ fun σ' s' r' f₂ y => ?_
    have f' := f₁.trans f₂
    obtain ⟨e, T, oe, oT, own2, rfl, eo, X, hψ⟩ := y
    have spK : Sp (l.filterMap (·.frame)) ((s.heap.objs.size :: (callEnvC fd s.heap.objs.size fa).cells.map (·.2)) ++ feet own) s.heap s'.heap := by
      intro a o hn e1
      exact f'.sp a o hn (hk₁ a o e1)
    have rest' : s' = { s with heap := s'.heap, toks := s'.toks } := by have := f'.rest; rw [this]
    obtain ⟨rb, fb⟩ := r.toRep.back (own' := σ'.own) rest' spK hfrn fll (fun a o n e1 => f'.al a o n (hk₁ a o e1)) r'.own r'.feetNodup (fun a ha => by
        refine (f'.fs a ha).imp id fun e1 => ?_
        cases q : s.heap.get? a with
        | none => rfl
        | some o => have := hk₁ a o q; rw [show ({ s with heap := h₁, toks := tk } : Shared).heap = h₁ from rfl] at e1; rw [e1] at this; cases this) (fun a o e1 => r'.kb a o e1)
    exact fun tk => x' _ ⟨loc, σ'.own⟩ s' ⟨rb, tk⟩ fb ⟨e, T, oe, oT, own2, rfl, eo, X, rfl, hψ⟩
  have spK : Sp (l.filterMap (·.frame)) ((s.heap.objs.size :: (callEnvC fd s.heap.objs.size fa).cells.map (·.2)) ++ feet own) s.heap s'.heap := by
    intro a o hn e1
    exact f'.sp a o hn (hk₁ a o e1)
  have rest' : s' = { s with heap := s'.heap, toks := s'.toks } := by have := f'.rest; rw [this]
  obtain ⟨own', hφ', ho', hn', hf'⟩ := hfin _ fl σ' s'.heap r'.toRep hφ
  obtain ⟨rb, fb⟩ := r.toRep.back (own' := own') rest' spK hfrn fll (fun a o n e1 => f'.al a o n (hk₁ a o e1)) ho' hn' (fun a ha => by
      rcases hf' a ha with z | z
      · refine (f'.fs a z).imp id fun e1 => ?_
        cases q : s.heap.get? a with
        | none => rfl
        | some o => have := hk₁ a o q; rw [show ({ s with heap := h₁, toks := tk } : Shared).heap = h₁ from rfl] at e1; rw [e1] at this; cases this
      · exact .inr (hfrn a z)) (fun a o e1 => r'.kb a o e1)
  refine q _ (retv fl) ⟨loc, own'⟩ s' rb fb ?_ ⟨rfl, hφ'⟩
  cases fl with
  | next => cases e; exact VR.mkNone
  | brk => cases e; exact VR.mkNone
  | cont => cases e; exact VR.mkNone
  | ret av => obtain ⟨v, rfl, hv⟩ := e; exact hv

theorem FunX.toFun {prog : Program} {w : World} {b0 : Heap} {z : Bool} {n : Nat} {f : Value} {args : List AV} {own : List (Addr × AO)} {Φ : AV → List (Addr × AO) → Prop} {cls : String} (F : FunX prog w b0 z n f args own Φ cls (fun _ => False)) : Fun prog w b0 z n f args own Φ :=
  fun A env fr fx K loc g vs X s r p Q E q x => F A env fr fx K loc g vs s r p Q E q (fun e σ' s' r' f' h => by
    obtain ⟨e, T, oe, oT, o, rfl, eo, X, hl, hψ⟩ := h
    exact hψ.elim)
theorem Tri.lift {α β : Type} {c : Cx} {P : Heap → Prop} {t : Sem α} {V : Heap → β → α → Prop} {σ : St} {Φ : β → St → Prop} {X : XP} (h : Tri c P t V σ Φ noX) : Tri c P t V σ Φ X :=
  fun s r p Q E q x => h s r p Q E q (fun _ _ _ _ _ y => y.elim)

theorem Fun.introG {prog : Program} {w : World} {b0 : Heap} {z : Bool} {n : Nat} {fa : Addr} {fo : Obj} {fd : FuncData} {body : List Stmt} {ps : List String} {args : List AV} {own : List (Addr × AO)} {Φ : AV → List (Addr × AO) → Prop} {Ω : Cx → Fl → St → Prop}
    (ho : b0.get? fa = some fo) (hd : fo.data = .func fd) (hbody : fd.body = .stmts body) (hclo : fd.closure = []) (hcd : b0.CodeRec fd.code fd.qualname) (hlim : b0.NoLimit)
    (hbind : ∀ vs : List Value, vs.length = args.length → bindArgs fd ⟨vs, []⟩ = pure ((ps.map Str.ofString).zip vs)) (hps : ps.length = args.length) (hnd : ps.Nodup) (hcn : ((cellsFrom 0 fd.scope.names []).map (·.1)).Nodup)
    (hkb : (ps.all fun x => fd.scope.names.lookup (Str.ofString x) == some .local || fd.scope.names.lookup (Str.ofString x) == some .cell) = true)
    (h : ∀ (A : Around) (L : Addr) (K : List Addr), Good z n (cx prog w b0 (A.deeper (callEnvC fd L fa)) (callEnvC fd L fa) (L :: (callEnvC fd L fa).cells.map (·.2)) [] K) →
      Exs (cx prog w b0 (A.deeper (callEnvC fd L fa)) (callEnvC fd L fa) (L :: (callEnvC fd L fa).cells.map (·.2)) [] K) body ⟨ps.zip args, own⟩ (Ω (cx prog w b0 (A.deeper (callEnvC fd L fa)) (callEnvC fd L fa) (L :: (callEnvC fd L fa).cells.map (·.2)) [] K)) noX)
    (hfin : ∀ (c : Cx) fl σ' h', Rep c σ' h' → Ω c fl σ' → ∃ own', Φ (retv fl) own' ∧ (∀ p ∈ own', OR h' p.1 p.2) ∧ (feet own').Nodup ∧ ∀ a ∈ feet own', a ∈ feet σ'.own ∨ a ∈ c.fr)
    (hco : fd.scope.isCoroutine = false := by rfl) (hgen : fd.scope.isGenerator = false := by rfl) (hk : fd.scope.kind = .function := by rfl) : Fun prog w b0 z (n + 1) (.ref fa) args own Φ :=
  FunX.toFun (cls := "IndexError") (FunX.introG (Ω := Ω) ho hd hbody hclo hcd hlim hbind hps hnd hcn hkb (fun A L K g _ => (h A L K g).lift) hfin (by decide) hco hgen hk)

theorem Fun.intro {prog : Program} {w : World} {b0 : Heap} {z : Bool} {n : Nat} {fa : Addr} {fo : Obj} {fd : FuncData} {body : List Stmt} {ps : List String} {args : List AV} {own : List (Addr × AO)} {Φ : AV → List (Addr × AO) → Prop}
    (ho : b0.get? fa = some fo) (hd : fo.data = .func fd) (hbody : fd.body = .stmts body) (hclo : fd.closure = []) (hcd : b0.CodeRec fd.code fd.qualname) (hlim : b0.NoLimit)
    (hbind : ∀ vs : List Value, vs.length = args.length → bindArgs fd ⟨vs, []⟩ = pure ((ps.map Str.ofString).zip vs)) (hps : ps.length = args.length) (hnd : ps.Nodup) (hcn : ((cellsFrom 0 fd.scope.names []).map (·.1)).Nodup)
    (hkb : (ps.all fun x => fd.scope.names.lookup (Str.ofString x) == some .local || fd.scope.names.lookup (Str.ofString x) == some .cell) = true)
    (h : ∀ (A : Around) (L : Addr) (K : List Addr), Good z n (cx prog w b0 (A.deeper (callEnvC fd L fa)) (callEnvC fd L fa) (L :: (callEnvC fd L fa).cells.map (·.2)) [] K) →
      Exs (cx prog w b0 (A.deeper (callEnvC fd L fa)) (callEnvC fd L fa) (L :: (callEnvC fd L fa).cells.map (·.2)) [] K) body ⟨ps.zip args, own⟩ (fun fl σ' => Φ (retv fl) σ'.own) noX)
    (hco : fd.scope.isCoroutine = false := by rfl) (hgen : fd.scope.isGenerator = false := by rfl) (hk : fd.scope.kind = .function := by rfl) : Fun prog w b0 z (n + 1) (.ref fa) args own Φ :=
  Fun.introG (Ω := fun _ fl σ' => Φ (retv fl) σ'.own) ho hd hbody hclo hcd hlim hbind hps hnd hcn hkb h (fun c fl σ' h' r φ => ⟨σ'.own, φ, r.own, r.feetNodup, fun a ha => .inl ha⟩) hco hgen hk

theorem Fun.introX {prog : Program} {w : World} {b0 : Heap} {z : Bool} {n : Nat} {fa : Addr} {fo : Obj} {fd : FuncData} {body : List Stmt} {ps : List String} {args : List AV} {own : List (Addr × AO)} {Φ : AV → List (Addr × AO) → Prop}
    (ho : b0.get? fa = some fo) (hd : fo.data = .func fd) (hbody : fd.body = .stmts body) (hclo : fd.closure = []) (hcd : b0.CodeRec fd.code fd.qualname) (hlim : b0.NoLimit)
    (hbind : ∀ vs : List Value, vs.length = args.length → bindArgs fd ⟨vs, []⟩ = pure ((ps.map Str.ofString).zip vs)) (hps : ps.length = args.length) (hnd : ps.Nodup) (hcn : ((cellsFrom 0 fd.scope.names []).map (·.1)).Nodup)
    (hkb : (ps.all fun x => fd.scope.names.lookup (Str.ofString x) == some .local || fd.scope.names.lookup (Str.ofString x) == some .cell) = true)
    (h : ∀ (A : Around) (L : Addr) (K : List Addr), Good z n (cx prog w b0 (A.deeper (callEnvC fd L fa)) (callEnvC fd L fa) (L :: (callEnvC fd L fa).cells.map (·.2)) [] K) →
      On (cx prog w b0 (A.deeper (callEnvC fd L fa)) (callEnvC fd L fa) (L :: (callEnvC fd L fa).cells.map (·.2)) [] K) L →
      Exs (cx prog w b0 (A.deeper (callEnvC fd L fa)) (callEnvC fd L fa) (L :: (callEnvC fd L fa).cells.map (·.2)) [] K) body ⟨ps.zip args, own⟩ (fun fl σ' => ∃ o R, σ'.own.Perm (o ++ R) ∧ Φ (retv fl) o) noX)
    (hco : fd.scope.isCoroutine = false := by rfl) (hgen : fd.scope.isGenerator = false := by rfl) (hk : fd.scope.kind = .function := by rfl) : Fun prog w b0 z (n + 1) (.ref fa) args own Φ :=
  FunX.toFun (cls := "IndexError") (FunX.introG (Ω := fun _ fl σ' => ∃ o R, σ'.own.Perm (o ++ R) ∧ Φ (retv fl) o) ho hd hbody hclo hcd hlim hbind hps hnd hcn hkb (fun A L K g on => (h A L K g on).lift) (fun c fl σ' h' r φ => by
      obtain ⟨o, R, e, φ⟩ := φ
      have fn := (feet_perm e).nodup_iff.mp r.feetNodup
      rw [feet_append] at fn
      exact ⟨o, φ, fun p hp => r.own p (e.mem_iff.mpr (List.mem_append_left _ hp)), (List.nodup_append.mp fn).1, fun a ha => .inl ((feet_perm e).mem_iff.mpr (by rw [feet_append]; exact List.mem_append_left _ ha))⟩) (by decide) hco hgen hk)

/-- a contract whose end lets objects go, in any order -/
theorem Fun.introP {prog : Program} {w : World} {b0 : Heap} {z : Bool} {n : Nat} {fa : Addr} {fo : Obj} {fd : FuncData} {body : List Stmt} {ps : List String} {args : List AV} {own : List (Addr × AO)} {Φ : AV → List (Addr × AO) → Prop}
    (ho : b0.get? fa = some fo) (hd : fo.data = .func fd) (hbody : fd.body = .stmts body) (hclo : fd.closure = []) (hcd : b0.CodeRec fd.code fd.qualname) (hlim : b0.NoLimit)
    (hbind : ∀ vs : List Value, vs.length = args.length → bindArgs fd ⟨vs, []⟩ = pure ((ps.map Str.ofString).zip vs)) (hps : ps.length = args.length) (hnd : ps.Nodup) (hcn : ((cellsFrom 0 fd.scope.names []).map (·.1)).Nodup)
    (hkb : (ps.all fun x => fd.scope.names.lookup (Str.ofString x) == some .local || fd.scope.names.lookup (Str.ofString x) == some .cell) = true)
    (h : ∀ (A : Around) (L : Addr) (K : List Addr), Good z n (cx prog w b0 (A.deeper (callEnvC fd L fa)) (callEnvC fd L fa) (L :: (callEnvC fd L fa).cells.map (·.2)) [] K) →
      Exs (cx prog w b0 (A.deeper (callEnvC fd L fa)) (callEnvC fd L fa) (L :: (callEnvC fd L fa).cells.map (·.2)) [] K) body ⟨ps.zip args, own⟩ (fun fl σ' => ∃ o R, σ'.own.Perm (o ++ R) ∧ Φ (retv fl) o) noX)
    (hco : fd.scope.isCoroutine = false := by rfl) (hgen : fd.scope.isGenerator = false := by rfl) (hk : fd.scope.kind = .function := by rfl) : Fun prog w b0 z (n + 1) (.ref fa) args own Φ :=
  Fun.introX ho hd hbody hclo hcd hlim hbind hps hnd hcn hkb (fun A L K g _ => h A L K g) hco hgen hk

/-- a contract whose end lets objects go -/
theorem Fun.introD {prog : Program} {w : World} {b0 : Heap} {z : Bool} {n : Nat} {fa : Addr} {fo : Obj} {fd : FuncData} {body : List Stmt} {ps : List String} {args : List AV} {own : List (Addr × AO)} {Φ : AV → List (Addr × AO) → Prop}
    (ho : b0.get? fa = some fo) (hd : fo.data = .func fd) (hbody : fd.body = .stmts body) (hclo : fd.closure = []) (hcd : b0.CodeRec fd.code fd.qualname) (hlim : b0.NoLimit)
    (hbind : ∀ vs : List Value, vs.length = args.length → bindArgs fd ⟨vs, []⟩ = pure ((ps.map Str.ofString).zip vs)) (hps : ps.length = args.length) (hnd : ps.Nodup) (hcn : ((cellsFrom 0 fd.scope.names []).map (·.1)).Nodup)
    (hkb : (ps.all fun x => fd.scope.names.lookup (Str.ofString x) == some .local || fd.scope.names.lookup (Str.ofString x) == some .cell) = true)
    (h : ∀ (A : Around) (L : Addr) (K : List Addr), Good z n (cx prog w b0 (A.deeper (callEnvC fd L fa)) (callEnvC fd L fa) (L :: (callEnvC fd L fa).cells.map (·.2)) [] K) →
      Exs (cx prog w b0 (A.deeper (callEnvC fd L fa)) (callEnvC fd L fa) (L :: (callEnvC fd L fa).cells.map (·.2)) [] K) body ⟨ps.zip args, own⟩ (fun fl σ' => ∃ o R, σ'.own = o ++ R ∧ Φ (retv fl) o) noX)
    (hco : fd.scope.isCoroutine = false := by rfl) (hgen : fd.scope.isGenerator = false := by rfl) (hk : fd.scope.kind = .function := by rfl) : Fun prog w b0 z (n + 1) (.ref fa) args own Φ :=
  Fun.introP ho hd hbody hclo hcd hlim hbind hps hnd hcn hkb (fun A L K g => (h A L K g).mono fun fl σ' p => by
    obtain ⟨o, R, e, φ⟩ := p
    exact ⟨o, R, by rw [e], φ⟩) hco hgen hk

end Mine

-- BP
namespace Mine
open PySem PySem.Calls PyProof.Rows PySem.W

/-- the context of a handler's suite -/
abbrev Cx.marked (c : Cx) (e : Addr) : Cx := { c with A := c.A.mark (some (.ref e)) }
theorem Rep.marked {c : Cx} {σ : St} {h : Heap} {e : Addr} (r : Rep c σ h) : Rep (c.marked e) σ h := ⟨r.ns, r.lin, r.cel, r.inj, r.own, r.nd, r.nk, r.frc, r.kb, r.kn, r.kh, r.ff⟩
theorem Rep.unmarked {c : Cx} {σ : St} {h : Heap} {e : Addr} (r : Rep (c.marked e) σ h) : Rep c σ h := ⟨r.ns, r.lin, r.cel, r.inj, r.own, r.nd, r.nk, r.frc, r.kb, r.kn, r.kh, r.ff⟩
theorem Aft.unmarked {c : Cx} {σ σ' : St} {s s' : Shared} {e : Addr} (f : Aft (c.marked e) σ s σ' s') : Aft c σ s σ' s' := ⟨f.rest, f.sp, f.al, f.fs⟩
/-- try, one clause with a builtin class that catches -/
theorem Ex.tryX {c : Cx} {body suite : List Stmt} {b₀ : Stmt} {x : String} {np pos pos' : Pos} {cls : String} {L : Addr} {σ : St} {Ψ : St → Prop} {Φ : Fl → St → Prop} {X Y : XP} (on : On c L) (hc : cls ≠ "tuple" ∧ cls ≠ "range")
    (hexc : isSubtype (.type cls) (.type "BaseException") = pure true) (hnt : isSubtype (.type ((Manifest.find? cls).elim "type" fun x => x.metatype)) (.type "tuple") = pure false) (hsub : isSubtype (.type cls) (.type cls) = pure true)
    (h : Exs c body σ Φ (XAt cls .none Ψ))
    (hn : ∀ e σ (Θ : AV → St → Prop), Θ (.ty cls) σ → Ev (c.marked e) (.Name (Str.ofString x) np) σ Θ noX)
    (k : ∀ e T oe oT σ₁, Ψ σ₁ → oe.cls = .type cls → Exs (c.marked e) (b₀ :: suite) ⟨σ₁.loc, (e, .raw oe) :: (T, .raw oT) :: σ₁.own⟩ Φ noX) :
    Ex c (.Try body [.ExceptHandler (some (.Name (Str.ofString x) np)) none (b₀ :: suite) pos'] [] [] pos) σ Φ X := by
  intro s r _ Q E q _
  obtain ⟨outer, hfr⟩ := on.fr
  refine wpAny_Try_except (h s r trivial _ _ (fun f fl σ' s' r' f' e φ => ?_) fun v σ₁ s₁ r₁ f₁ y₁ => ?_)
  · cases fl with
    | next => cases e; exact wpAny_execs_nil (q _ .next σ' s' r' f' rfl φ)
    | brk => cases e; exact q _ .brk σ' s' r' f' rfl φ
    | cont => cases e; exact q _ .cont σ' s' r' f' rfl φ
    | ret av => obtain ⟨w, rfl, hw⟩ := e; exact q _ (.ret av) σ' s' r' f' ⟨w, rfl, hw⟩ φ
  · refine noteFly on hc r₁ y₁ fun σ₂ s₂ r₂ f₂ y₂ => ?_
    refine flight (fr := none) ⟨_, hfr⟩ hc r₂ y₂ fun σ₃ s₃ r₃ f₃ y₃ => ?_
    obtain ⟨e, T, oe, oT, own, rfl, eo, S, hψ⟩ := y₃
    refine wpAny_handleBy_builtin (X := cls) (T := cls) (b := true) hexc hnt hsub ?_
    refine hn e σ₃ (fun a σ => a = .ty cls ∧ σ = σ₃) ⟨rfl, rfl⟩ s₃ ⟨r₃.toRep.marked, r₃.tp⟩ trivial _ _ (fun v a σ₄ s₄ r₄ f₄ va h₄ => ?_) (fun _ _ _ _ _ z => z.elim)
    obtain ⟨rfl, rfl⟩ := h₄
    have ge : s₄.heap.get? e = some oe := (r₄.own (e, .raw oe) (by rw [eo]; exact .head _)).1
    refine ⟨va, ⟨oe, ge, S.c⟩, ?_⟩
    rw [if_pos rfl]
    refine flight (c := c.marked e) (fr := none) (Ψ := Ψ) (cls := cls) (fl := .none) ⟨_, hfr⟩ hc r₄ ⟨e, T, oe, oT, own, rfl, eo, S, hψ⟩ fun σ₅ s₅ r₅ f₅ y₅ => ?_
    obtain ⟨e', T', oe', oT', own', ee, eo', S', hψ'⟩ := y₅
    cases ee
    obtain ⟨loc₅, o₅⟩ := σ₅
    cases eo'
    refine k e T' oe' oT' ⟨loc₅, own'⟩ hψ' S'.c s₅ r₅ trivial _ _ (fun f fl σ' s' r' f' ef φ => ?_) (fun _ _ _ _ _ z => z.elim)
    exact q f fl σ' s' ⟨r'.toRep.unmarked, r'.tp⟩ (((((f₁.trans f₂).trans f₃).trans f₄.unmarked).trans f₅.unmarked).trans f'.unmarked) ef φ
end Mine

-- BQ
namespace Mine
open PySem PySem.Calls PyProof.Rows PySem.W

/-- a sign of a text, or IndexError -/
theorem Op2.strItemX {c : Cx} {ve se : Expr} {l : List Nat} {k : Nat} {σ : St} {Φ : AV → St → Prop} {X : XP} {Ψ : St → Prop} (hA : c.A.handled = none) (h1 : (k : Int) < 2 ^ 62)
    (h : (∃ n, l[k]? = some n ∧ Φ (.str [n]) σ) ∨ (l.length ≤ k ∧ ∀ v σ s, XNew "IndexError" Ψ v σ s → X v σ s) ∧ Ψ σ)
    (hs : ∀ o i, subscripted se false o i = operate [o, i] (getItem o i) := by intros; rfl) (ht : ∀ x t r, letTemporaryGo ve (.str x t) r = pure () := by intros; rfl) : Op2 c (subscriptTail ve se) (.str l) (.int k) σ Φ X := fun v w => by
  intro s r p Q E q x
  refine wpAny_with_toks r.tp ?_
  have p1 : VR s.heap (.str l) v := p.1
  have p2 : VR s.heap (.int k) w := p.2
  rw [VR] at p1
  rw [VR] at p2
  obtain ⟨t, rfl⟩ := p1
  obtain ⟨u, rfl⟩ := p2
  refine item_str_or hA ?_ (fun hout h' tk e N => ?_) (fun _ hlt => ?_) (hs _ _) (ht _ _)
  · unfold fitsSsize; simp; omega
  · rcases h with ⟨n, e1, _⟩ | ⟨⟨_, hX⟩, hψ⟩
    · have := (List.getElem?_eq_some_iff.mp e1).1
      rw [lenS] at hout; simp at hout; omega
    · obtain ⟨nk, nn, ob, tt, g, hcl, hd⟩ := N
      have hO : OR h' e (.raw ob) := ⟨g, .of_cls (by rw [hcl]; simp) (by rw [hcl]; simp)⟩
      exact fun htk => x _ ⟨σ.loc, (e, .raw ob) :: σ.own⟩ _ ⟨r.toRep.fresh nk nn hO rfl, htk⟩ (Aft.fresh (tk := tk) nk nn rfl) (hX _ _ _ ⟨e, ob, σ.own, rfl, rfl, ⟨hcl, tt, hd⟩, hψ⟩)
  · rcases h with ⟨n, e1, hφ⟩ | ⟨⟨hl, _⟩, _⟩
    · have em : Txt.item ⟨l.toArray⟩ (k : Int) = ⟨[n].toArray⟩ := item_meets (by omega) (by simpa using e1)
      rw [em]
      exact fun htk => q _ (.str [n]) σ { s with toks := s.toks + 1 } ⟨r.toRep, htk⟩ (Aft.keep (h' := s.heap) fun _ _ e => e) VR.mkStr hφ
    · rw [lenS] at hlt; simp at hlt; omega
theorem Op2.strItem {c : Cx} {ve se : Expr} {l : List Nat} {k n : Nat} {σ : St} {Φ : AV → St → Prop} {X : XP} (h1 : (k : Int) < 2 ^ 62)
    (e1 : l[k]? = some n) (hφ : Φ (.str [n]) σ)
    (hs : ∀ o i, subscripted se false o i = operate [o, i] (getItem o i) := by intros; rfl) (ht : ∀ x t r, letTemporaryGo ve (.str x t) r = pure () := by intros; rfl) : Op2 c (subscriptTail ve se) (.str l) (.int k) σ Φ X := fun v w => by
  refine Tri.ofH fun s r p Q E q x => ?_
  have p1 : VR s.heap (.str l) v := p.1
  have p2 : VR s.heap (.int k) w := p.2
  rw [VR] at p1
  rw [VR] at p2
  obtain ⟨t, rfl⟩ := p1
  obtain ⟨u, rfl⟩ := p2
  have hl := (List.getElem?_eq_some_iff.mp e1).1
  refine item_str ?_ ?_ ?_ (fun _ => ?_) (hs _ _) (ht _ _)
  · unfold fitsSsize; simp; omega
  · omega
  · rw [lenS]; simpa using hl
  · have em : Txt.item ⟨l.toArray⟩ (k : Int) = ⟨[n].toArray⟩ := item_meets (by omega) (by simpa using e1)
    rw [em]
    exact q _ (.str [n]) σ { s with toks := s.toks + 1 } (r.toRep) (Aft.keep (h' := s.heap) fun _ _ e => e) VR.mkStr hφ
end Mine

-- BR
namespace Mine
open PySem PySem.Calls PyProof.Rows PySem.W

/-! equality of values -/
def EqAV (x y : AV) (b : Bool) : Prop := ∀ (A : Around) (s : Shared) (v w : Value), A.units + 10 < cLine → VR s.heap x v → VR s.heap y w → SeqAt.EqAt A s v w b
theorem EqAV.str (a b : List Nat) : EqAV (.str a) (.str b) (decide (a = b)) := fun A s v w _ hv hw => by
  rw [VR] at hv hw
  obtain ⟨t, rfl⟩ := hv
  obtain ⟨u, rfl⟩ := hw
  have e : ((⟨a.toArray⟩ : Str) == ⟨b.toArray⟩) = decide (a = b) := by
    by_cases h : a = b
    · subst h; simp
    · rw [decide_eq_false h]
      refine beq_eq_false_iff_ne.mpr fun z => h ?_
      have := congrArg Str.cps z
      simpa using this
  rw [← e]
  exact SeqAt.EqAt.str_str _ t _ u

theorem VRs.gets {h : Heap} {l : List AV} {vs : List Value} (q : VRs h l vs) {j : Nat} (hj : j < vs.toArray.size) : ∃ x, l[j]? = some x ∧ VR h x vs.toArray[j] := by
  rw [List.size_toArray] at hj
  have hl : j < l.length := by rw [← q.length]; exact hj
  obtain ⟨v, e, p⟩ := q.get (List.getElem?_eq_getElem hl)
  refine ⟨_, List.getElem?_eq_getElem hl, ?_⟩
  have : vs[j] = v := (List.getElem?_eq_some_iff.mp e).2
  simpa [this] using p

/-- equality, item by item -/
structure EqL (l m : List AV) (e : Nat → Bool) : Prop where
  at' : ∀ (j : Nat) (x y : AV), l[j]? = some x → m[j]? = some y → EqAV x y (e j)

theorem Op2.neL {c : Cx} {n : Nat} {z : Bool} {a b : Addr} {l m : List AV} {e : Nat → Bool} {σ : St} {Φ : AV → St → Prop} {X : XP} (g : Good z (n + 1) c) (i j : Nat) (e1 : σ.own[i]? = some (a, .list l)) (e2 : σ.own[j]? = some (b, .list m)) (he : EqL l m e)
    (k : Φ (.bool (!(l.length == m.length && (List.range l.length).all e))) σ) : Op2 c (compareOp .NotEq) (.ref a) (.ref b) σ Φ X := fun v w =>
  Tri.pureStep k fun s p r Q E q => by
    obtain ⟨p1, p2⟩ := p
    cases VR.ref' p1
    cases VR.ref' p2
    obtain ⟨vs, n1, g1, hv⟩ := Cx.own_list r.toRep e1
    obtain ⟨us, n2, g2, hw⟩ := Cx.own_list r.toRep e2
    have hu := g.un
    have i1 : s.heap.IsList a vs.toArray := ⟨_, g1, rfl, n1, rfl⟩
    have i2 : s.heap.IsList b us.toArray := ⟨_, g2, rfl, n2, rfl⟩
    by_cases hl : l.length = m.length
    · refine SeqAt.RcNeAt.lists (e := e) i1 i2 (by rw [List.size_toArray, List.size_toArray, hv.length, hw.length, hl]) (by omega) (fun j h1 h2 => ?_) c.prog c.w E Q ?_
      · obtain ⟨x, ex, px⟩ := hv.gets h1
        obtain ⟨y, ey, py⟩ := hw.gets h2
        exact he.at' j x y ex ey c.A.in1 s _ _ (by show c.A.units + 1 + 10 < _; omega) px py
      · have := q (.bool (!(l.length == m.length && (List.range l.length).all e))) s.heap s.toks (fun _ _ e => e) VR.mkBool
        rw [List.size_toArray, hv.length]
        simpa [hl] using this
    · refine SeqAt.RcNeAt.lists_lengths i1 i2 (by rw [List.size_toArray, List.size_toArray, hv.length, hw.length]; simpa using hl) (by omega) c.prog c.w E Q ?_
      have := q (.bool (!(l.length == m.length && (List.range l.length).all e))) s.heap s.toks (fun _ _ e => e) VR.mkBool
      rw [show (l.length == m.length) = false from beq_eq_false_iff_ne.mpr hl] at this
      exact this
theorem Op2.eqL {c : Cx} {n : Nat} {z : Bool} {a b : Addr} {l m : List AV} {e : Nat → Bool} {σ : St} {Φ : AV → St → Prop} {X : XP} (g : Good z (n + 1) c) (i j : Nat) (e1 : σ.own[i]? = some (a, .list l)) (e2 : σ.own[j]? = some (b, .list m)) (he : EqL l m e)
    (k : Φ (.bool (l.length == m.length && (List.range l.length).all e)) σ) : Op2 c (compareOp .Eq) (.ref a) (.ref b) σ Φ X := fun v w =>
  Tri.pureStep k fun s p r Q E q => by
    obtain ⟨p1, p2⟩ := p
    cases VR.ref' p1
    cases VR.ref' p2
    obtain ⟨vs, n1, g1, hv⟩ := Cx.own_list r.toRep e1
    obtain ⟨us, n2, g2, hw⟩ := Cx.own_list r.toRep e2
    have hu := g.un
    have i1 : s.heap.IsList a vs.toArray := ⟨_, g1, rfl, n1, rfl⟩
    have i2 : s.heap.IsList b us.toArray := ⟨_, g2, rfl, n2, rfl⟩
    by_cases hl : l.length = m.length
    · refine SeqAt.RcAt.lists (e := e) i1 i2 (by rw [List.size_toArray, List.size_toArray, hv.length, hw.length, hl]) (by omega) (fun j h1 h2 => ?_) c.prog c.w E Q ?_
      · obtain ⟨x, ex, px⟩ := hv.gets h1
        obtain ⟨y, ey, py⟩ := hw.gets h2
        exact he.at' j x y ex ey c.A.in1 s _ _ (by show c.A.units + 1 + 10 < _; omega) px py
      · have := q (.bool (l.length == m.length && (List.range l.length).all e)) s.heap s.toks (fun _ _ e => e) VR.mkBool
        rw [List.size_toArray, hv.length]
        simpa [hl] using this
    · refine SeqAt.RcAt.lists_lengths i1 i2 (by rw [List.size_toArray, List.size_toArray, hv.length, hw.length]; simpa using hl) (by omega) c.prog c.w E Q ?_
      have := q (.bool (l.length == m.length && (List.range l.length).all e)) s.heap s.toks (fun _ _ e => e) VR.mkBool
      rw [show (l.length == m.length) = false from beq_eq_false_iff_ne.mpr hl] at this
      exact this

end Mine

-- BS
namespace Mine
open PySem PySem.Calls PyProof.Rows PySem.W

/-- a list cut that is known some way -/
theorem Ev.lsliceG {c : Cx} {value : Expr} {lower upper : Option Expr} {p pos : Pos} {σ : St} {Φ : AV → St → Prop} {X : XP}
    (h : Ev c value σ (fun a σ₁ => Part c lower σ₁ (fun lo σ₂ => Part c upper σ₂ (fun hi σ₃ => okPart lo ∧ okPart hi ∧ ∃ (d : Addr) (l : List AV), a = .ref d ∧ (∀ h, Rep c σ₃ h → ∃ vs : List Value, h.IsList d vs.toArray ∧ VRs h l vs) ∧ l.length ≤ 16777216 ∧
      ∀ d', Φ (.ref d') ⟨σ₃.loc, (d', .list (cut lo hi l)) :: σ₃.own⟩) X) X) X) (ht : ∀ o r, letTemporaryGo value o r = pure () := by intro _ _; rfl) :
    Ev c (.Subscript value (.Slice lower upper .none p) pos) σ Φ X := by
  refine Tri.ofH fun s r _ Q E q x => ?_
  refine wpAny_Subscript_list_slice (h s r trivial _ _ (fun v a σ₁ s₁ r₁ f₁ va h₁ => ?_) x) ht
  refine h₁ s₁ r₁ trivial _ _ (fun vl lo σ₂ s₂ r₂ f₂ pl h₂ => ?_) (x.go f₁)
  refine h₂ s₂ r₂ trivial _ _ (fun vu hi σ₃ s₃ r₃ f₃ pu h₃ => ?_) ((x.go f₁).go f₂)
  obtain ⟨o1, o2, d, l, rfl, e, hz, h₃⟩ := h₃
  obtain ⟨vs, g, hv⟩ := e _ r₃.toRep
  cases va.ref'
  refine ⟨d, vs.toArray, lo, hi, rfl, g, by rw [List.size_toArray, hv.length, sizeLine_eq]; exact hz, pl.isPart, pu.isPart, ?_⟩
  have ep : slicePick vs.toArray lo hi Option.none = (cut lo hi vs).toArray := by
    rw [kms_pick_eq]
    exact congrArg _ (pick_cut vs o1 o2)
  rw [ep]
  have k2 : ∀ b o, s₃.heap.get? b = some o → ((s₃.heap.push { cls := .type "slice", data := .fields #[vl, vu, .none] }).push { cls := .type "list", data := .seq (cut lo hi vs).toArray }).get? b = some o :=
    fun b o e => push_keep _ _ (push_keep _ _ e)
  have hn : s₃.heap.get? (s₃.heap.objs.size + 1) = Option.none := Heap.get?_none_of_le (Nat.le_succ _)
  have hN : ((s₃.heap.push { cls := .type "slice", data := .fields #[vl, vu, .none] }).push { cls := .type "list", data := .seq (cut lo hi vs).toArray }).get? (s₃.heap.objs.size + 1) = some (listObj (cut lo hi vs) 0) := by
    have e : (s₃.heap.push { cls := .type "slice", data := .fields #[vl, vu, .none] }).objs.size = s₃.heap.objs.size + 1 := Heap.size_push ..
    rw [← e]; exact Heap.get?_push_size _ rfl
  have ho : OR ((s₃.heap.push { cls := .type "slice", data := .fields #[vl, vu, .none] }).push { cls := .type "list", data := .seq (cut lo hi vs).toArray }) (s₃.heap.objs.size + 1) (.list (cut lo hi l)) :=
    ⟨_, 0, hN, (cutVR hv).mono (K := []) (F := []) (Sp.of_keep fun b o _ e => k2 b o e) NoTup.nil NoTup.nil⟩
  exact q _ (.ref _) _ _ (r₃.toRep.fresh k2 hn ho rfl) (((f₁.trans f₂).trans f₃).trans (Aft.fresh (tk := s₃.toks) k2 hn rfl)) VR.mkRef (h₃ _)

/-- a given list of ints -/
theorem VRs.ints {h : Heap} : ∀ {vs : List Value} {ns : List Int}, IntsAre vs ns → VRs h (ns.map .int) vs
  | _, _, .nil => VRs.nil
  | _, _, .cons n t q => VRs.cons VR.mkInt (VRs.ints q)
theorem ints_of {c : Cx} {σ : St} {d : Addr} {vs : List Value} {ns : List Int} (hl : c.b0.IsList d vs.toArray) (hi : IntsAre vs ns) : ∀ h, Rep c σ h → ∃ vs : List Value, h.IsList d vs.toArray ∧ VRs h (ns.map .int) vs := fun h r => by
  obtain ⟨o, g, a, b⟩ := hl
  exact ⟨vs, ⟨o, r.kb _ _ g, a, b⟩, VRs.ints hi⟩

theorem Tri.pre {α β : Type} {c : Cx} {P P' : Heap → Prop} {t : Sem α} {V : Heap → β → α → Prop} {σ : St} {Φ : β → St → Prop} {X : XP} (h : Tri c P t V σ Φ X) (k : ∀ h, P' h → P h) : Tri c P' t V σ Φ X :=
  fun s r p Q E q x => h s r (k _ p) Q E q x

/-- a comprehension over a list that is made for it -/
theorem evCompL {z : Bool} {n : Nat} {c : Cx} {elt target iter : Expr} {ifs : List Expr} {scope : Scope} {pos : Pos} {cl : List (Str × Addr)} {cells : List Addr} {σ : St} {Φ : AV → St → Prop} {X : XP} (g : Good z n c) (N : CompN c scope cl cells)
    (h : CompH c scope cl cells target iter 1 (TB1 elt ifs) [] σ (fun d => Φ (.ref d)) X) (hs : ∀ x, foldedSetIterable iter c.env x = pure x := by intro _; rfl) : Ev c (.ListComp elt [⟨target, iter, ifs, 0⟩] scope pos) σ Φ X :=
  Tri.pre (evCompR [] g N h hs) fun _ _ => Hid.nil

/-- a comprehension over what nobody owns -/
theorem evComp0 {z : Bool} {n : Nat} {c : Cx} {elt target iter : Expr} {ifs : List Expr} {scope : Scope} {pos : Pos} {cl : List (Str × Addr)} {cells : List Addr} {σ : St} {Φ : AV → St → Prop} {X : XP} (g : Good z n c) (N : CompN c scope cl cells)
    (h : Ev c iter σ (fun a σ₁ => ∃ (items : List AV) (fv : List (String × AV)) (inv : Cx → Nat → List AV → St → Prop), Itr c a items σ₁ T0 ∧ items.length * 1 ≤ 16777216 ∧
      (∀ C x av, fv.lookup x = some av → σ₁.loc.lookup x = some av ∧ (c.kind x = some .cell ∨ c.kind x = some .free) ∧ (∃ a, cl.lookup (Str.ofString x) = some a) ∧
        ((compEnvC scope cl C c.env).kindOf (Str.ofString x) = some .cell ∨ (compEnvC scope cl C c.env).kindOf (Str.ofString x) = some .free)) ∧
      (∀ C, inv (compCx c scope cl cells C) 0 [] ⟨fv, σ₁.own⟩ ∧ (∀ i x acc σ', items[i]? = some x → inv (compCx c scope cl cells C) i acc σ' →
        Asg (compCx c scope cl cells C) target x σ' (fun σ₂ => TB1 elt ifs (compCx c scope cl cells C) (inv (compCx c scope cl cells C) (i + 1)) acc σ₂) noX) ∧
      (∀ acc σ', inv (compCx c scope cl cells C) items.length acc σ' → ∀ d, Φ (.ref d) ⟨σ₁.loc, (d, .list acc) :: σ'.own⟩))) X)
    (hs : ∀ x, foldedSetIterable iter c.env x = pure x := by intro _; rfl) : Ev c (.ListComp elt [⟨target, iter, ifs, 0⟩] scope pos) σ Φ X :=
  evCompL g N (h.mono fun a σ₁ p => by
    obtain ⟨items, fv, inv, it, p⟩ := p
    exact ⟨[], σ₁, rfl, by rw [List.append_nil], items, fv, inv, fun v s r _ va Q E k => it v s r trivial va Q E k, p⟩) hs
/-- what is known of the locals -/
def Lk (lc l : List (String × AV)) : Prop := ∀ p ∈ l, lc.lookup p.1 = some p.2
theorem Lk.at {lc l : List (String × AV)} (h : Lk lc l) (i : Nat) {x : String} {v : AV} (e : l[i]? = some (x, v)) : lc.lookup x = some v := h (x, v) (List.mem_of_getElem? e)
theorem Lk.nil {lc : List (String × AV)} : Lk lc [] := fun _ h => nomatch h
theorem Lk.cons {lc l : List (String × AV)} {x : String} {v : AV} (h : lc.lookup x = some v) (t : Lk lc l) : Lk lc ((x, v) :: l) := fun p hp => by
  rcases List.mem_cons.mp hp with rfl | hp
  · exact h
  · exact t p hp
theorem Exs.absLoc {c : Cx} {body : List Stmt} {lc : List (String × AV)} {own : List (Addr × AO)} {Φ : Fl → St → Prop} {X : XP} (l : List (String × AV)) (h : Lk lc l) (k : ∀ lc, Lk lc l → Exs c body ⟨lc, own⟩ Φ X) : Exs c body ⟨lc, own⟩ Φ X := k lc h
/-- a statement, and what is known behind it -/
theorem Exs.step {c : Cx} {st : Stmt} {rest : List Stmt} {σ : St} {Φ : Fl → St → Prop} {X : XP} (own : List (Addr × AO)) (l : List (String × AV)) (h : Ex c st σ (fun fl σ' => fl = .next ∧ σ'.own = own ∧ Lk σ'.loc l) X) (k : ∀ lc, Lk lc l → Exs c rest ⟨lc, own⟩ Φ X) : Exs c (st :: rest) σ Φ X :=
  Exs.cons <| h.mono fun fl σ' p => by
    obtain ⟨lc, o⟩ := σ'
    obtain ⟨rfl, rfl, hl⟩ := p
    exact k lc hl
/-- a call of a function that stands -/
theorem Ev.callFn {c : Cx} {f : Str} {fp pos : Pos} {es : List Expr} {fa : Addr} {σ : St} {Φ : AV → St → Prop} {X : XP} (h : ∃ fo fd, c.b0.get? fa = some fo ∧ fo.data = .func fd)
    (hf : Ev c (.Name f fp) σ (fun a σ₁ => a = .ref fa ∧ Arg c pos es σ₁ (fun l σ₂ => Cal c (.ref fa) l σ₂ Φ X) X) X) (hs : (backTo pos (starEach es c.env)).any (·.1) = false := by rfl) : Ev c (.Call (.Name f fp) es [] pos) σ Φ X :=
  let ⟨_, _, ho, hd⟩ := h
  Ev.callF ho hd hf hs
end Mine

-- MH
namespace Mine
open PySem PySem.Calls PyProof.Rows PySem.W

/-- a new frame with cells and one given local: a token has been given -/
theorem newEnvT {M : Model} {A : Around} {E : Value → Shared → Prop} {s : Shared} {scope : Scope} {globals : Addr} {n : Str} {v : Value} {qual : Str} {func : Option Addr} {code : Value} {builtins : Addr} {Q : Env → Shared → Prop} (hk : scope.kind = .function) (hl : scope.names.lookup n = some .local)
    (hQ : ∀ env, env = newEnv scope s.heap.objs.size globals (cellsFrom (s.heap.objs.size + 1) scope.names []) qual func code none builtins →
      ∀ h' tk, InCallC s env.locals (fun y => if y = n then some v else none) env.cells (fun _ => none) { s with heap := h', toks := tk } → 1 ≤ tk → Q env { s with heap := h', toks := tk }) :
    wpAny M A (newFunctionEnv scope globals [] [(n, v)] qual func code none builtins) Q E s := by
  simp only [newFunctionEnv, Option.isSome_none, Bool.false_eq_true, if_false]
  refine wpAny_bind (wpAny_alloc (wpAny_bind (wpAny_layCells _ (fun name kind cells => by cases hkc : kind == NameKind.cell <;> simp [hkc]) _ _ _ _ ?_)))
  have ok := cellsFrom_ok scope.names (s.heap.push { cls := .type "frame", data := .dict #[] }) (s.heap.objs.size + 1) [] ⟨fun _ _ hm => (nomatch hm), List.Pairwise.nil⟩ (by rw [Heap.size_push]; exact Nat.le_refl _)
  rw [Heap.size_push] at ok
  rw [show ({ s with heap := s.heap.push { cls := .type "frame", data := .dict #[] } } : Shared).heap.objs.size = s.heap.objs.size + 1 from Heap.size_push .., List.forIn_cons]
  have ns := (Heap.Ns.new s.heap (.type "frame")).keeps (pushCells_keeps scope.names _)
  refine wpAny_bind (wpAny_bind (wpAny_bind (wpAny_storeName_local (env := newEnv scope s.heap.objs.size globals (cellsFrom (s.heap.objs.size + 1) scope.names []) qual func code none builtins) hl ns (fun h' hn' hs' => wpAny_pure ?_) (by show (scope.kind == .class || (scope.kind == .module && _)) = false; rw [hk]; rfl))))
  refine wpAny_pure (wpAny_pure (hQ _ rfl h' _ ⟨⟨⟨_, _, rfl⟩, hn', fun b o e => ?_, Nat.le_refl _⟩, fun k c hc => ?_, ok.apart, fun k c hm => (ok.empty k c hm).2⟩ (Nat.le_add_left ..)))
  · exact hs'.extBut b o (Nat.ne_of_lt (Heap.lt_size e)) (pushCells_keeps _ _ b o (Heap.get?_push_of_some _ e))
  · exact ((ok.empty k c (mem_of_lookup hc)).1).sameBut hs' (Nat.ne_of_gt (ok.empty k c (mem_of_lookup hc)).2)

theorem callT {prog : Program} {w : World} {A : Around} {R : Result → Shared → Prop} {s : Shared} {name : Str} {params : Arguments} {body : List Stmt} {scope : Scope} {pm cd doc : Value} {a : Addr} {o : Obj} {args : List Value} {n : Str} {v : Value}
    (hroom : A.depth < recursionLimit) (ho : s.heap.get? a = some o) (hdata : o.data = .func (Calls.docDef name params body scope pm cd doc)) (hlim : s.heap.NoLimit) (hcd : s.heap.CodeRec cd name)
    (hbind : bindArgs (Calls.docDef name params body scope pm cd doc) ⟨args, []⟩ = pure [(n, v)]) (hl : scope.names.lookup n = some .local) (hnd : ((cellsFrom 0 scope.names []).map (·.1)).Nodup)
    (h : ∀ h₁ tk cells, 1 ≤ tk → Fr s.heap s.heap.objs.size h₁ (fun y => if y = n then some v else none) → News s.heap s.heap.objs.size h₁ cells →
      CellsAre (fun _ => none) (cellsFrom (s.heap.objs.size + 1) scope.names []) cells →
      wpAny (model prog w) (A.deeper (envOfC name scope s.heap.objs.size a cd)) (execs body (envOfC name scope s.heap.objs.size a cd))
        (fun f s' => R (.ok (.ret (match f with | .ret v => v | _ => .none))) s')
        (fun e s' => wpAny (model prog w) (A.deeper (envOfC name scope s.heap.objs.size a cd)) (leaving (envOfC name scope s.heap.objs.size a cd) e)
          (fun _ s'' => R (.error e) s'') (fun e' s'' => R (.error e') s'') s')
        { s with heap := h₁, toks := tk })
    (hco : scope.isCoroutine = false := by rfl) (hgen : scope.isGenerator = false := by rfl) (hk : scope.kind = .function := by rfl) :
    codeAny (model prog w) A (.call (.ref a) ⟨args, []⟩) R s := by
  refine codeAny_call_function (fd := Calls.docDef name params body scope pm cd doc) hroom ho hdata hco hgen rfl hcd ?_
  rw [hbind]
  refine wpAny_pure (newEnvT hk hl fun env he h₁ tk x htk => ?_)
  subst he
  refine ⟨hlim.keeps x.toInCall.keep, codeAny_func ?_⟩
  obtain ⟨cells, N, Y⟩ := Cl.news (h₀ := s.heap) (Nat.le_refl _) fun n c hm => ⟨x.cell n c (lookup_of_mem_nodup (cellsFrom_names scope.names 0 (s.heap.objs.size + 1) [] [] rfl ▸ hnd) hm), x.above n c hm⟩
  exact h h₁ tk cells htk ⟨x.toInCall.ns, x.toInCall.keep, x.toInCall.fresh⟩ N Y

/-- the law's own turn, at the top, where two of its names are cells -/
theorem topGoC {prog : Program} {w : World} {b0 h₁ : Heap} {s : Shared} {nm : Str} {sc : Scope} {body : List Stmt} {L fa d T : Addr} {cd : Value} {x y1 y2 : String} {oa ob : Obj} {va vb : Option Value} {m : Str → Option Value} {tk : Nat} {Q : Flow → Shared → Prop} {E : Value → Shared → Prop}
    (hk : sc.kind = .function) (F : Fr b0 L h₁ m) (N : News b0 L h₁ [(L + 1 + 1, oa), (L + 1, ob), (T, tabObj #[])]) (ea : oa.data = .cell va) (eb : ob.data = .cell vb) (hcs : cellsFrom (L + 1) sc.names [] = [(Str.ofString y1, L + 1 + 1), (Str.ofString y2, L + 1)]) (hT : T < L)
    (hm : m (Str.ofString x) = some (.ref d)) (hloc : sc.names.lookup (Str.ofString x) = some .local) (htk : 1 ≤ tk)
    (h : Good true 20 (cx prog w b0 (callerA.deeper (envOfC nm sc L fa cd)) (envOfC nm sc L fa cd) [L, L + 1 + 1, L + 1] [] []) →
      Exs (cx prog w b0 (callerA.deeper (envOfC nm sc L fa cd)) (envOfC nm sc L fa cd) [L, L + 1 + 1, L + 1] [] []) body ⟨[(x, .ref d)], [(T, .raw (tabObj #[]))]⟩ (fun fl σ => fl = .ret (.bool true) ∧ ∃ ps R, σ.own.Perm ((T, .raw (tabObj ps)) :: R)) noX)
    (hQ : ∀ h' tk' m' ps, Fr b0 L h' m' → h'.get? T = some (tabObj ps) → Q (.ret (.bool true)) { s with heap := h', toks := tk' }) :
    wpAny (model prog w) (callerA.deeper (envOfC nm sc L fa cd)) (execs body (envOfC nm sc L fa cd)) Q E { s with heap := h₁, toks := tk } := by
  have hL : b0.get? L = none := Heap.get?_none_of_le F.above
  obtain ⟨ga, na, ba⟩ := N _ (.head _)
  obtain ⟨gb, nb, bb⟩ := N _ (.tail _ (.head _))
  obtain ⟨gT, nT, bT⟩ := N _ (.tail _ (.tail _ (.head _)))
  have gT : h₁.get? T = some (tabObj #[]) := gT
  have bT : b0.get? T = none := bT
  have hE : (callerA.deeper (envOfC nm sc L fa cd)).frames = some [envOfC nm sc L fa cd] := rfl
  have hcs : (envOfC nm sc L fa cd).cells = [(Str.ofString y1, L + 1 + 1), (Str.ofString y2, L + 1)] := hcs
  have g : Good true 20 (cx prog w b0 (callerA.deeper (envOfC nm sc L fa cd)) (envOfC nm sc L fa cd) [L, L + 1 + 1, L + 1] [] []) :=
    ⟨fun _ => rfl, by show 1 + 300 + 1 + 20 < 1000; decide, by show 4 + 3 + 20 * 20 < 9900; decide, hk, _, hE, fun a ha => by
      have ha : a ∈ [L] := ha
      exact .inl (List.mem_singleton.mp ha)⟩
  have two : ∀ y a, (envOfC nm sc L fa cd).cells.lookup y = some a → (y = Str.ofString y1 ∧ a = L + 1 + 1) ∨ (y = Str.ofString y2 ∧ a = L + 1) := fun y a e => by
    rw [hcs] at e
    rcases List.mem_cons.mp (PySem.mem_of_lookup e) with e | e
    · cases e; exact .inl ⟨rfl, rfl⟩
    · cases List.mem_singleton.mp e; exact .inr ⟨rfl, rfl⟩
  have R : Rep (cx prog w b0 (callerA.deeper (envOfC nm sc L fa cd)) (envOfC nm sc L fa cd) [L, L + 1 + 1, L + 1] [] []) ⟨[(x, .ref d)], [(T, .raw (tabObj #[]))]⟩ h₁ := by
    refine ⟨⟨m, F.ns, fun y av e => ?_⟩, .head _, fun y a e1 e2 _ => ?_, fun y z a e1 e2 => ?_, fun p hp => ?_, ?_, fun a ha => ?_, fun a ha => ?_, F.keep, fun a ha => (nomatch ha), fun a ha => (nomatch ha), fun l e => ?_⟩
    · rw [List.lookup_cons] at e
      by_cases hy : y = x
      · subst hy
        simp only [beq_self_eq_true, Option.some.injEq] at e
        subst e
        exact .inl ⟨hloc, _, hm, VR.mkRef⟩
      · rw [show (y == x) = false from beq_eq_false_iff_ne.mpr hy] at e
        cases e
    · rcases two _ a e2 with ⟨_, rfl⟩ | ⟨_, rfl⟩
      · exact ⟨na, _, _, ga, ea⟩
      · exact ⟨nb, _, _, gb, eb⟩
    · rcases two _ a e1 with ⟨k1, q1⟩ | ⟨k1, q1⟩ <;> rcases two _ a e2 with ⟨k2, q2⟩ | ⟨k2, q2⟩
      · exact ofString_inj (k1.trans k2.symm)
      · exact absurd (q1.symm.trans q2) (Nat.succ_ne_self _)
      · exact absurd (q2.symm.trans q1) (Nat.succ_ne_self _)
      · exact ofString_inj (k1.trans k2.symm)
    · rw [List.mem_singleton.mp hp]
      exact ⟨gT, .of_cls (by simp) (by simp)⟩
    · show [L, L + 1 + 1, L + 1, T].Nodup
      have l1 : L < L + 1 := Nat.lt_succ_self L
      have l2 : L + 1 < L + 1 + 1 := Nat.lt_succ_self (L + 1)
      refine List.nodup_cons.mpr ⟨fun z => ?_, List.nodup_cons.mpr ⟨fun z => ?_, List.nodup_cons.mpr ⟨fun z => ?_, List.pairwise_singleton ..⟩⟩⟩
      · rcases List.mem_cons.mp z with z | z
        · exact Nat.ne_of_lt (Nat.lt_trans l1 l2) z
        rcases List.mem_cons.mp z with z | z
        · exact Nat.ne_of_lt l1 z
        · exact Nat.ne_of_lt hT (List.mem_singleton.mp z).symm
      · rcases List.mem_cons.mp z with z | z
        · exact Nat.ne_of_lt l2 z.symm
        · exact Nat.ne_of_lt (Nat.lt_trans hT (Nat.lt_trans l1 l2)) (List.mem_singleton.mp z).symm
      · exact Nat.ne_of_lt (Nat.lt_trans hT l1) (List.mem_singleton.mp z).symm
    · have ha : a ∈ [L, L + 1 + 1, L + 1, T] := ha
      refine ⟨List.not_mem_nil, ?_⟩
      rcases List.mem_cons.mp ha with rfl | ha
      · exact hL
      rcases List.mem_cons.mp ha with rfl | ha
      · exact ba
      rcases List.mem_cons.mp ha with rfl | ha
      · exact bb
      · rw [List.mem_singleton.mp ha]; exact bT
    · rcases List.mem_cons.mp ha with rfl | ha
      · obtain ⟨o, es, ep, g, d, _⟩ := F.ns
        exact ⟨o, g, .of_dict d⟩
      rcases List.mem_cons.mp ha with rfl | ha
      · exact ⟨_, ga, .of_cell ea⟩
      · rw [List.mem_singleton.mp ha]; exact ⟨_, gb, .of_cell eb⟩
    · have e : (callerA.deeper (envOfC nm sc L fa cd)).frames = some l := e
      rw [hE] at e; cases e
      refine ⟨⟨by show sc.kind ≠ .module; rw [hk]; decide, ⟨L, ?_⟩, trivial⟩, fun a ha => List.mem_append_left _ (by have ha : a ∈ [L] := ha; rw [List.mem_singleton.mp ha]; exact .head _)⟩
      obtain ⟨o, es, ep, g, d, _⟩ := F.ns
      exact ⟨o, rfl, hL, g, by rw [d]; intro vs; simp⟩
  refine h g { s with heap := h₁, toks := tk } ⟨R, htk⟩ trivial _ _ (fun f fl σ' s' r' f' ef φ => ?_) (fun _ _ _ _ _ z => z.elim)
  obtain ⟨rfl, ps, R', hp⟩ := φ
  obtain ⟨v, rfl, hv⟩ := ef
  rw [VR] at hv
  subst hv
  obtain ⟨m', hns, _⟩ := r'.ns
  have gT' := (r'.own (T, .raw (tabObj ps)) (hp.mem_iff.mpr (.head _))).1
  have := hQ s'.heap s'.toks m' ps ⟨hns, r'.kb, F.above⟩ gT'
  rw [f'.rest]
  exact this
end Mine

-- BT
namespace Mine
open PySem PySem.Calls PyProof.Rows PySem.W

theorem VRs.three {h : Heap} {a b d : AV} {vs : List Value} (q : VRs h [a, b, d] vs) : ∃ x y z, vs = [x, y, z] ∧ VR h a x ∧ VR h b y ∧ VR h d z := by
  rw [VRs] at q
  obtain ⟨v, r, rfl, x, q⟩ := q
  obtain ⟨y, z, rfl, p1, p2⟩ := VRs.two q
  exact ⟨v, y, z, rfl, x, p1, p2⟩

theorem Op2.listItem {c : Cx} {ve se : Expr} {a : Addr} {l : List AV} {k : Nat} {x : AV} {σ : St} {Φ : AV → St → Prop} {X : XP} (i : Nat) (e : σ.own[i]? = some (a, .list l)) (h1 : (k : Int) < 2 ^ 62) (ex : l[k]? = some x) (kk : Φ x σ)
    (hs : ∀ o i, subscripted se false o i = operate [o, i] (getItem o i) := by intros; rfl) (hg : ∀ o r, letTemporaryGo ve o r = pure () := by intros; rfl) : Op2 c (subscriptTail ve se) (.ref a) (.int k) σ Φ X := fun v w =>
  Tri.pureStep kk fun s p r Q E q => by
    cases VR.ref' p.1
    obtain ⟨t, rfl⟩ := VR.int' p.2
    obtain ⟨vs, n, g, hv⟩ := Cx.own_list r.toRep e
    obtain ⟨y, ey, vy⟩ := hv.get ex
    exact item_listL (l := vs) ⟨_, g, rfl, n, rfl⟩ (Int.natCast_nonneg k) (by omega) (by simpa using ey) (q y s.heap s.toks (fun _ _ e => e) vy) (hs _ _) (hg _)

theorem VRs.insert {h : Heap} {l : List AV} {x : AV} {vs : List Value} {v : Value} (k : Nat) (q : VRs h l vs) (p : VR h x v) : VRs h (l.take k ++ x :: l.drop k) (vs.take k ++ v :: vs.drop k) := (q.take k).append (VRs.cons p (q.drop k))
theorem Cal.insert {c : Cx} {a : Addr} {l : List AV} {x : AV} {k : Nat} {σ : St} {Φ : AV → St → Prop} {X : XP} (i : Nat) (e : σ.own[i]? = some (a, .list l)) (hk : k ≤ l.length) (hz : l.length ≤ 16777216) (kk : Φ .none ⟨σ.loc, σ.own.set i (a, .list (l.take k ++ x :: l.drop k))⟩) :
    Cal c (.builtin "list.insert") [.ref a, .int k, x] σ Φ X := fun vs =>
  Tri.updStep (ao' := .list (l.take k ++ x :: l.drop k)) (x := AV.none) e rfl kk fun s p r o Q E q => by
    obtain ⟨v, w, y, rfl, p1, p2, p3⟩ := VRs.three p
    cases p1.ref'
    obtain ⟨t, rfl⟩ := p2.int'
    obtain ⟨vs, n, g, hv⟩ := o
    have hz' : vs.toArray.size ≤ sizeLine := by rw [List.size_toArray, hv.length, sizeLine_eq]; exact hz
    obtain ⟨x, hx⟩ : ∃ x : Int, x = k := ⟨_, rfl⟩
    obtain ⟨arr, ha⟩ : ∃ arr : Array Value, arr = vs.toArray := ⟨_, rfl⟩
    have hf : ¬ (!Builtin.List.listFitsIndex x) = true := by
      rw [hx, fitsIndex_of (Int.natCast_nonneg k) (by omega)]; decide
    have g0 : s.heap.get? a = some { cls := .type "list", dict := none, data := .seq arr n, slots := #[] } := by rw [ha]; exact g
    rw [← hx]
    rw [← ha] at hz'
    refine call_meets F.slot_list_insert ⟨_, g, rfl⟩ F.entry_list_insert (F.args_list_insert_3 _ _ _) (PySem.AutoSeq1.list_insert_list_int_val_1 a arr n x t y hf hz') ⟨g0, ?_⟩
    obtain ⟨⟨n', g'⟩, sp⟩ := updList (fun xs => (xs.extract 0 (if x < 0 then (x + ((xs.size : Nat) : Int)).toNat else min x.toNat xs.size)).push y ++ xs.extract (if x < 0 then (x + ((xs.size : Nat) : Int)).toNat else min x.toNat xs.size)) g
    have nt := NT1 g NTl
    refine q .none _ s.toks sp ⟨_, n', g', ?_⟩ VR.mkNone
    have hkk : (if x < 0 then (x + ((vs.toArray.size : Nat) : Int)).toNat else min x.toNat vs.toArray.size) = k := by
      rw [if_neg (by omega), List.size_toArray, hv.length, hx, Int.toNat_natCast]; omega
    have ev : ((vs.toArray.extract 0 k).push y ++ vs.toArray.extract k).toList = vs.take k ++ y :: vs.drop k := by
      simp
      rw [List.take_of_length_le (by rw [List.length_drop]; omega)]
    simp only [hkk]
    rw [ev]
    exact (hv.insert k p3).mono sp nt NoTup.nil

theorem VRs.strsOf {h : Heap} : ∀ {ls : List (List Nat)} {vs : List Value}, VRs h (ls.map AV.str) vs → StrsAre vs (ls.map fun x => ⟨x.toArray⟩)
  | [], vs, q => by rw [List.map_nil, VRs] at q; subst q; exact .nil
  | x :: ls, vs, q => by
    rw [List.map_cons, VRs] at q
    obtain ⟨v, r, rfl, a, q⟩ := q
    obtain ⟨t, rfl⟩ := a.str'
    exact .cons _ t (VRs.strsOf q)
theorem VRs.ofStrs {h : Heap} : ∀ {vs : List Value} {ss : List Str}, StrsAre vs ss → VRs h (ss.map fun s => AV.str s.cps.toList) vs
  | _, _, .nil => VRs.nil
  | _, _, .cons y t q => VRs.cons VR.mkStr (VRs.ofStrs q)

/-- is it this str? -/
def isStr (x : List Nat) : Value → Bool
  | .str s _ => s == ⟨x.toArray⟩
  | _ => false
theorem isStr_at {A : Around} {s : Shared} {x : List Nat} {t : Tok} {ls : List (List Nat)} {vs : List Value} (hv : VRs s.heap (ls.map AV.str) vs) : ∀ y ∈ vs.toArray, SeqAt.EqAt A s y (.str ⟨x.toArray⟩ t) (isStr x y) := by
  intro y hy
  have hy : y ∈ vs := by simpa using hy
  obtain ⟨j, hj⟩ := List.mem_iff_getElem?.mp hy
  have hlt := (List.getElem?_eq_some_iff.mp hj).1
  obtain ⟨z, hz, vz⟩ := hv.gets (j := j) (by simpa using hlt)
  rw [List.getElem?_map] at hz
  obtain ⟨w, hw, rfl⟩ := Option.map_eq_some_iff.mp hz
  have ey : vs.toArray[j]'(by simpa using hlt) = y := by simpa using (List.getElem?_eq_some_iff.mp hj).2
  rw [ey] at vz
  obtain ⟨u, rfl⟩ := vz.str'
  exact SeqAt.EqAt.str_str _ u _ t
theorem isStr_str {x y : List Nat} {t : Tok} : isStr x (.str ⟨y.toArray⟩ t) = decide (y = x) := by
  show ((⟨y.toArray⟩ : Str) == ⟨x.toArray⟩) = _
  by_cases h : y = x
  · subst h; simp
  · rw [decide_eq_false h]
    refine beq_eq_false_iff_ne.mpr fun z => h ?_
    have := congrArg Str.cps z
    simpa using this
theorem isStr_any {h : Heap} {x : List Nat} : ∀ {ls : List (List Nat)} {vs : List Value}, VRs h (ls.map AV.str) vs → vs.any (isStr x) = decide (x ∈ ls)
  | [], vs, q => by rw [List.map_nil, VRs] at q; subst q; simp
  | y :: ls, vs, q => by
    rw [List.map_cons, VRs] at q
    obtain ⟨v, r, rfl, a, q⟩ := q
    obtain ⟨t, rfl⟩ := a.str'
    rw [List.any_cons, isStr_any q, isStr_str]
    by_cases h : y = x
    · subst h; simp
    · simp [h, Ne.symm h]
theorem Op2.notInL {c : Cx} {a : Addr} {x : List Nat} {ls : List (List Nat)} {σ : St} {Φ : AV → St → Prop} {X : XP} (i : Nat) (e : σ.own[i]? = some (a, .list (ls.map AV.str))) (k : Φ (.bool (!decide (x ∈ ls))) σ) : Op2 c (compareOp .NotIn) (.str x) (.ref a) σ Φ X := fun v w =>
  Tri.pureStep k fun s p r Q E q => by
    obtain ⟨t, rfl⟩ := VR.str' p.1
    cases VR.ref' p.2
    obtain ⟨vs, n, g, hv⟩ := Cx.own_list r.toRep e
    refine SeqAt.notIn_listAt (isStr x) ⟨_, g, rfl, n, rfl⟩ (isStr_at hv) ?_
    have := isStr_any (x := x) hv
    rw [List.any_toArray, this]
    exact q _ s.heap s.toks (fun _ _ e => e) VR.mkBool

theorem Cal.index {c : Cx} {a : Addr} {x : List Nat} {ls : List (List Nat)} {j : Nat} {σ : St} {Φ : AV → St → Prop} {X : XP} (i : Nat) (e : σ.own[i]? = some (a, .list (ls.map AV.str))) (hz : ls.length ≤ 16777216) (hj : ls[j]? = some x) (hno : ∀ m, m < j → ls[m]? ≠ some x) (k : Φ (.int (j : Nat)) σ) :
    Cal c (.builtin "list.index") [.ref a, .str x] σ Φ X := fun vs =>
  Tri.pureStep k fun s p r Q E q => by
    obtain ⟨v, w, rfl, p1, p2⟩ := VRs.two p
    cases p1.ref'
    obtain ⟨t, rfl⟩ := p2.str'
    obtain ⟨vs, n, g, hv⟩ := Cx.own_list r.toRep e
    have hlen := hv.length
    rw [List.length_map] at hlen
    have at' : ∀ m (hm : m < vs.length), isStr x vs[m] = decide (ls[m]? = some x) := fun m hm => by
      obtain ⟨z, hz', vz⟩ := hv.gets (j := m) (by simpa using hm)
      rw [List.getElem?_map] at hz'
      obtain ⟨w, hw, rfl⟩ := Option.map_eq_some_iff.mp hz'
      obtain ⟨u, hu⟩ := vz.str'
      have hu : vs[m] = Value.str ⟨w.toArray⟩ u := by simpa using hu
      rw [hu, isStr_str, hw]
      simp
    have hjl : j < vs.length := by rw [hlen]; exact (List.getElem?_eq_some_iff.mp hj).1
    refine call_meets F.slot_list_index ⟨_, g, rfl⟩ F.entry_list_index (F.args_list_index_2 _ _) (SeqAt.list_indexAt a vs.toArray n none #[] (.str ⟨x.toArray⟩ t) (isStr x) j (by simpa using hjl) (by omega) ?_ (fun m hm h => ?_)) ⟨g, isStr_at hv, ?_⟩
    · have := at' j hjl
      rw [hj] at this
      simpa using this
    · have hm' : m < vs.length := by simpa using hm
      have := at' m hm'
      rw [decide_eq_false (hno m h)] at this
      simpa using this
    · exact q _ s.heap _ (fun _ _ e => e) VR.mkInt

theorem IntsAre.of {h : Heap} : ∀ {ns : List Int} {vs : List Value}, VRs h (ns.map .int) vs → IntsAre vs ns
  | [], vs, q => by rw [List.map_nil, VRs] at q; subst q; exact .nil
  | n :: ns, vs, q => by
    rw [List.map_cons, VRs] at q
    obtain ⟨v, r, rfl, a, q⟩ := q
    obtain ⟨t, rfl⟩ := a.int'
    exact .cons n t (IntsAre.of q)
theorem Cal.minL {c : Cx} {a : Addr} {ns : List Int} {m : Int} {σ : St} {Φ : AV → St → Prop} {X : XP} (hd : c.A.handled = none) (i : Nat) (e : σ.own[i]? = some (a, .list (ns.map .int))) (hm : m ∈ ns) (hle : ∀ n ∈ ns, m ≤ n) (k : Φ (.int m) σ) : Cal c (.builtin "min") [.ref a] σ Φ X := fun vs =>
  Tri.pureStep k fun s p r Q E q => by
    obtain ⟨v, rfl, p1⟩ := VRs.one p
    cases p1.ref'
    obtain ⟨vs, n, g, hv⟩ := Cx.own_list r.toRep e
    have hi := IntsAre.of hv
    obtain ⟨xs, hx⟩ := hi.allInts.items
    have hl : s.heap.IsList a (intItems xs) := by rw [← hx]; exact ⟨_, g, rfl, n, rfl⟩
    have hnums : numsOf (intItems xs).toList = ns := by rw [← hx]; exact hi.numsOf
    rw [nums_intItems] at hnums
    have hsz : 0 < xs.size := by
      cases h : xs.size with
      | zero => rw [← hnums] at hm; have : xs = #[] := Array.eq_empty_of_size_eq_zero h; subst this; simp at hm
      | succ n => omega
    refine min_intList hd hl hsz fun v h' tk hv' hk => ?_
    obtain ⟨t, rfl⟩ := intItems_at hv'
    obtain ⟨h1, h2⟩ := argBest_lt (numAt xs) (xs.size - 1)
    have hmin : numAt xs (argBest (fun i j => decide (numAt xs i < numAt xs j)) (xs.size - 1)) = m := by
      have hM : numAt xs (argBest (fun i j => decide (numAt xs i < numAt xs j)) (xs.size - 1)) ∈ ns := by
        rw [← hnums, numAt_eq]; exact getD_mem (by rw [List.length_map, Array.length_toList]; omega)
      refine Int.le_antisymm ?_ (hle _ hM)
      rw [← hnums] at hm
      obtain ⟨j, hj, rfl⟩ := mem_getD hm
      rw [List.length_map, Array.length_toList] at hj
      rw [← numAt_eq]; exact h2 j (by omega)
    rw [hmin]
    exact q _ h' tk hk VR.mkInt
end Mine

-- BU
namespace Mine
open PySem PySem.Calls PyProof.Rows PySem.W

theorem Ev.andCons {c : Cx} {a b : Expr} {rest : List Expr} {pos : Pos} {σ : St} {Φ : AV → St → Prop} {X : XP} (h : Ev c a σ (fun y σ₁ => Tru c y σ₁ (fun t σ₂ => (t = true → Ev c (.BoolOp .And (b :: rest) pos) σ₂ Φ X) ∧ (t = false → Φ y σ₂)) X) X) : Ev c (.BoolOp .And (a :: b :: rest) pos) σ Φ X := by
  intro s rp _ Q E q x
  refine PyProof.Rows.BoolOp_and (h s rp trivial _ _ (fun v y σ₁ s₁ r₁ f₁ vy h₁ => ?_) x)
  refine h₁ v s₁ r₁ vy _ _ (fun t t' σ₂ s₂ r₂ f₂ e h₂ => ?_) (x.go f₁)
  cases e
  cases t with
  | true => exact h₂.1 rfl s₂ r₂ trivial Q E ((q.go f₁).go f₂) ((x.go f₁).go f₂)
  | false => exact q v y σ₂ s₂ r₂ (f₁.trans f₂) (vy.after r₁ f₂) (h₂.2 rfl)

theorem Cal.divmod {c : Cx} {a b : Nat} {σ : St} {Φ : AV → St → Prop} {X : XP} (hb : b ≠ 0) (hz : b < 1073741824) (hp : Builtin.divisionGoesByPylong (a : Int) (b : Int) = false) (k : Φ (.tup [.int ((a / b : Nat) : Int), .int ((a % b : Nat) : Int)]) σ) : Cal c (.builtin "divmod") [.int (a : Nat), .int (b : Nat)] σ Φ X := fun vs =>
  Tri.pureStep k fun s p _ Q E q => by
    obtain ⟨v, w, rfl, p1, p2⟩ := VRs.two p
    obtain ⟨t, rfl⟩ := p1.int'
    obtain ⟨u, rfl⟩ := p2.int'
    refine divmod_int (by omega) ?_ (.inl hp)
    refine q _ _ _ push_keep ?_
    rw [VR]
    refine ⟨_, _, 0, rfl, Heap.get?_push_size _ rfl, VRs.cons ?_ (VRs.cons ?_ VRs.nil)⟩
    · rw [Int.fdiv_eq_ediv_of_nonneg _ (by omega)]; exact VR.mkInt
    · rw [Int.fmod_eq_emod_of_nonneg _ (by omega)]; exact VR.mkInt

theorem foldRep : ∀ (n k : Nat) (acc : Array Nat), (List.replicate n ([k].toArray : Array Nat)).foldl (· ++ ·) acc = acc ++ (List.replicate n k).toArray
  | 0, k, acc => by simp
  | n + 1, k, acc => by
    rw [List.replicate_succ, List.foldl_cons, foldRep n k, List.replicate_succ]
    refine Array.ext' ?_
    simp
theorem Op2.mulBlank {c : Cx} {k n : Nat} {σ : St} {Φ : AV → St → Prop} {X : XP} (hn : n ≤ 1000) (kk : Φ (.str (List.replicate n k)) σ) : Op2 c (binaryOp .Mult) (.str [k]) (.int (n : Nat)) σ Φ X := fun v w =>
  Tri.pureStep kk fun s p _ Q E q => by
    obtain ⟨t, rfl⟩ := VR.str' p.1
    obtain ⟨u, rfl⟩ := VR.int' p.2
    refine P.mul_str ?_ (fun _ _ => ?_) (fun _ _ => ?_) ?_
    · have h1 : ¬ (n : Int) < -(2 ^ 63 : Int) := by omega
      have h2 : ¬ (n : Int) ≥ 2 ^ 63 := by omega
      rw [decide_eq_false h1, decide_eq_false h2]; rfl
    · show ¬ ((1 : Nat) : Int) > (2 ^ 63 - 1) / (n : Int)
      by_cases h0 : n = 0
      · rename_i h1 _; subst h0; exact absurd (by decide) h1
      · have : 1 ≤ (2 ^ 63 - 1) / (n : Int) := Int.le_ediv_of_mul_le (by omega) (by omega)
        omega
    · show Builtin.Str.tooLong (1 * (n : Int).toNat) = false
      unfold Builtin.Str.tooLong
      rw [Int.toNat_natCast, Nat.one_mul]
      exact decide_eq_false (by rw [sizeLine_eq]; omega)
    · have hx : (⟨[k].toArray⟩ : Str).length = 1 := rfl
      by_cases h0 : n = 0
      · subst h0
        rw [if_pos (by decide)]
        exact ⟨by decide, q _ s.heap _ (fun _ _ e => e) VR.mkStr⟩
      · rw [if_neg (by omega)]
        by_cases h1 : n = 1
        · subst h1
          rw [if_pos (show ((((1 : Nat) : Int) == 1) || (({ cps := #[k] } : Str).length == 0)) = true from rfl)]
          exact q _ s.heap s.toks (fun _ _ e => e) VR.mkStr
        · have hne : ((n : Int) == 1) = false := beq_eq_false_iff_ne.mpr (by omega)
          rw [hne, hx, if_neg (by decide), Int.toNat_natCast, foldRep n k #[]]
          have e0 : (#[] ++ (List.replicate n k).toArray : Array Nat) = (List.replicate n k).toArray := by simp
          rw [e0]
          refine ⟨?_, q _ s.heap _ (fun _ _ e => e) VR.mkStr⟩
          rw [lenS, List.length_replicate, sizeLine_eq]; omega

theorem rising_from : ∀ {p : Str} {ss : List Str}, risingS p ss = true → (p.cps.toList :: ss.map fun s => s.cps.toList).Pairwise (fun x y : List Nat => ¬ y < x)
  | p, [], _ => List.pairwise_singleton ..
  | p, x :: r, h => by
    rw [risingS, Bool.and_eq_true] at h
    have ih := rising_from h.2
    have h1 : ¬ x.cps.toList < p.cps.toList := by
      have := h.1
      rw [ltCps_eq] at this
      simpa using this
    rw [List.map_cons]
    refine List.pairwise_cons.mpr ⟨fun y hy => ?_, ih⟩
    rcases List.mem_cons.mp hy with rfl | hy
    · exact h1
    · exact List.le_trans (show p.cps.toList ≤ x.cps.toList from h1) (show x.cps.toList ≤ y from (List.pairwise_cons.mp ih).1 y hy)
theorem rising_pairs {ss : List Str} (h : sortedS ss = true) : (ss.map fun s => s.cps.toList).Pairwise (fun x y : List Nat => ¬ y < x) := by
  cases ss with
  | nil => exact .nil
  | cons x r => exact rising_from h

theorem Cal.sortedS {c : Cx} {a : Addr} {ls : List (List Nat)} {σ : St} {Φ : AV → St → Prop} {X : XP} (i : Nat) (e : σ.own[i]? = some (a, .list (ls.map .str))) (h64 : ls.length < 64)
    (k : ∀ (d : Addr) (ls' : List (List Nat)), ls'.Perm ls → ls'.Pairwise (fun x y => ¬ y < x) → Φ (.ref d) ⟨σ.loc, (d, .list (ls'.map .str)) :: σ.own⟩) : Cal c (.builtin "sorted") [.ref a] σ Φ X := fun vs =>
  Tri.ofH fun s r p Q E q _ => by
    obtain ⟨v, rfl, p1⟩ := VRs.one p
    cases p1.ref'
    obtain ⟨vs, n, g, hv⟩ := Cx.own_list r.toRep e
    have hlen := hv.length
    rw [List.length_map] at hlen
    refine sorted_strs ⟨_, g, rfl, n, rfl⟩ hv.strsOf (by rw [hlen]; exact h64) fun out ss' a1 a2 a3 => ?_
    obtain ⟨en, he⟩ := sortedAll_at s.heap vs out
    have k2 : ∀ b o, s.heap.get? b = some o → (sortedAll s.heap vs out).get? b = some o := fun _ _ e => sortedAll_old e
    have hn : s.heap.get? (s.heap.objs.size + 1) = none := Heap.get?_none_of_le (Nat.le_succ _)
    have em : ss'.map (fun s => AV.str s.cps.toList) = (ss'.map fun s => s.cps.toList).map AV.str := by rw [List.map_map]; rfl
    have ho : OR (sortedAll s.heap vs out) (s.heap.objs.size + 1) (.list ((ss'.map fun s => s.cps.toList).map .str)) := ⟨out.toList, en, he, by rw [← em]; exact VRs.ofStrs a1⟩
    refine q _ (.ref _) _ _ (r.toRep.fresh k2 hn ho rfl) (Aft.fresh (tk := s.toks) k2 hn rfl) VR.mkRef (k _ _ ?_ ?_)
    · have := a2.map (fun s : Str => s.cps.toList)
      have e3 : (ls.map fun x => (⟨x.toArray⟩ : Str)).map (fun s => s.cps.toList) = ls := by rw [List.map_map]; exact List.map_id' ls
      rw [e3] at this
      exact this
    · exact rising_pairs a3
end Mine

-- BV
namespace Mine
open PySem PySem.Calls PyProof.Rows PySem.W

theorem call_next_end {prog : Program} {w : World} {A : Around} {E : Value → Shared → Prop} {s : Shared} {it l : Addr} {i : Nat} {items : Array Value} {Q : Value → Shared → Prop} (hh : A.handled = none) (hit : s.heap.IsListIter it l i)
    (hl : s.heap.IsList l items) (hx : items[i]? = none) (hE : ∀ h₁ oi ot oe, Heap.SameBut it s.heap h₁ → h₁.get? it = some oi → oi.cls = .type "list_iterator" → NewSt "StopIteration" oe → ot.isFreed = false →
      E (.ref (h₁.push ot).objs.size) { s with heap := (h₁.push ot).push oe }) : wpAny (model prog w) A (call (.builtin "next") [.ref it]) Q E s := by
  obtain ⟨o, ho, hc, hd⟩ := id hit
  obtain ⟨ol, hol, _, nl, hdl⟩ := hl
  refine call_function_entry kind_next plain_next entry_next (args_next _) ?_
  unfold Builtin.«next»
  refine wpAny_bind (m := someArgs "next" 1 2 _) (wpAny_of_eq (a := [Value.ref it]) (by first | rfl | kernel_rfl!) ?_)
  dsimp only
  refine wpAny_bind (wpAny_specialOf (name := Str.ofString "__next__") hit.typeIs slot_listiter_next.lookup ?_)
  refine wpAny_ite_split (fun hab => absurd hab (by decide)) (fun _ => ?_)
  refine wpAny_bind (wpAny_callSpecial?_slot (name := Str.ofString "__next__") hit.typeIs slot_listiter_next
    (wpAny_call_entry slot_listiter_next hit.typeIs entry_listiter_next ?_ (args_listiter_next _)))
  show wpAny _ _ (field (.ref it) 0 >>= _) _ _ s
  refine wpAny_bind (wpAny_field ho hd (x := .ref l) rfl ?_)
  show wpAny _ _ (if (Value.ref l == Value.none) = true then _ else _) _ _ s
  rw [if_neg (show ¬ ((Value.ref l == Value.none) = true) from Bool.false_ne_true)]
  show wpAny _ _ (field (.ref it) 1 >>= _) _ _ s
  refine wpAny_bind (wpAny_field ho hd (x := .int i 0) rfl ?_)
  show wpAny _ _ (seqItems? (.ref l) >>= _) _ _ s
  refine wpAny_bind (wpAny_seqItems hol hdl ?_)
  simp only [Int.toNat_natCast, hx]
  refine wpAny_bind (wpAny_rule (wpAny_bind (wpAny_setField ho hd (by simp) ?_)))
  show wpAny _ _ (newExc (.type "StopIteration") [] >>= _) _ _ _
  refine wpAny_bind ?_
  simp only [newExc, newTuple]
  refine wpAny_bind (wpAny_newObj_type ?_ (by size_fits))
  refine wpAny_bind (m := firstArgMember _ _) (wpAny_of_eq (a := Value.none) (by first | rfl | (simp only [firstArgMember]; rfl)) ?_)
  refine wpAny_newObj_type ?_ (by size_fits)
  simp only [raiseNew]
  refine wpAny_bind (wpAny_handled ?_)
  first | rw [show A.in1.handled = none from hh] | rw [hh]
  refine wpAny_bind (wpAny_pure (wpAny_throw ?_))
  have hN : ∀ t : Value, Data.fields (#[t, .none, .none, .none, .bool false, .none] ++ ownMembersOf (.type "StopIteration") []) = Data.fields #[t, .none, .none, .none, .bool false, .none] := fun t => by
    rw [show ownMembersOf (.type "StopIteration") [] = #[] from rfl, Array.append_empty]
  exact hE _ _ _ _ (Heap.SameBut.update ..) (Heap.get?_update_self _ ho (Obj.isFreed_of_fields (Obj.data_mapFields hd _))) ((Obj.cls_mapFields ..).trans hc) ⟨rfl, _, hN _⟩ rfl

/-- what is left of an iterator that is used up, and its list -/
def Spent (it lst : Addr) (own : List (Addr × AO)) : Prop := ∃ oi ol, own = [(it, .raw oi), (lst, .raw ol)]

theorem Cal.nextEnd {c : Cx} {it lst : Addr} {loc : List (String × AV)} {Ψ : St → Prop} {Φ : AV → St → Prop} (hh : c.A.handled = none) (k : ∀ own, Spent it lst own → Ψ ⟨loc, own⟩) :
    Cal c (.builtin "next") [.ref it] ⟨loc, [(it, .iter lst [])]⟩ Φ (XNew "StopIteration" Ψ) := fun vs => by
    intro s r p Q E q x
    refine wpAny_with_toks r.tp ?_
    obtain ⟨v, rfl, p1⟩ := VRs.one p
    cases p1.ref'
    have nt := (r.own _ (.head _)).noTup
    obtain ⟨vs, n, j, hit, g, hv⟩ := r.own _ (.head _)
    obtain ⟨oi, gi, hci, hdi⟩ := id hit
    have hne : lst ≠ it := fun z => by
      subst z
      rw [g] at gi; cases gi; cases hdi
    have hx : vs.toArray[j]? = none := by
      rw [VRs] at hv
      have := congrArg List.length hv
      rw [List.length_drop] at this
      rw [List.getElem?_toArray, List.getElem?_eq_none_iff]
      exact Nat.le_of_sub_eq_zero this
    refine call_next_end hh hit ⟨_, g, rfl, n, rfl⟩ hx fun h₁ oi' ot oe sb g' hc' hN hf => ?_
    have r0 : Rep c ⟨loc, [(it, .raw oi), (lst, .raw _)]⟩ s.heap := r.toRep.repack (own' := [(it, .raw oi), (lst, .raw _)]) (fun p hp => by
      rcases List.mem_cons.mp hp with rfl | hp
      · exact ⟨gi, nt it (.head _) oi gi⟩
      · rw [List.mem_singleton.mp hp]; exact ⟨g, nt lst (.tail _ (.head _)) _ g⟩) (List.Perm.refl _)
    obtain ⟨r1, ft, hG⟩ := r0.upd (i := 0) (ao' := .raw oi') rfl (sameSp sb) ⟨g', .of_cls (by rw [hc']; simp) (by rw [hc']; simp)⟩ rfl
    have r2 := r1.keep (push_keep (h := h₁) (o := ot))
    have hn := Heap.get?_none_of_le (h := h₁.push ot) (Nat.le_refl _)
    have hNT : NT oe := .of_cls (by rw [hN.1]; simp) (by rw [hN.1]; simp)
    have hfe : oe.isFreed = false := Obj.isFreed_of_fields hN.2.choose_spec
    have r3 := r2.fresh (ao := .raw oe) (push_keep (o := oe)) hn ⟨Heap.get?_push_size _ hfe, hNT⟩ rfl
    have f1 : Aft c ⟨loc, [(it, .raw oi), (lst, .raw _)]⟩ s ⟨loc, [(it, .raw oi'), (lst, .raw _)]⟩ { s with heap := h₁ } := Aft.upd (i := 0) (ao' := .raw oi') rfl (sameSp sb) ⟨g', .of_cls (by rw [hc']; simp) (by rw [hc']; simp)⟩ rfl ft hG
    have f2 := f1.trans (Aft.keep (tk := s.toks) (push_keep (o := ot)))
    have f3 := f2.trans (Aft.fresh (tk := s.toks) (push_keep (o := oe)) hn (ao := .raw oe) rfl)
    exact fun htk => x _ _ _ ⟨r3, htk⟩ ⟨f3.rest, f3.sp, f3.al, f3.fs⟩ ⟨_, oe, _, rfl, rfl, hN, k _ ⟨_, _, rfl⟩⟩
end Mine

-- BW
namespace Mine
open PySem PySem.Calls PyProof.Rows PySem.W

section
variable {prog : Program} {w : World} {elt target iter target' iter' : Expr} {scope : Scope} {pos : Pos}

/-- a comprehension with two clauses -/
abbrev twoE (elt target iter target' iter' : Expr) (scope : Scope) (pos : Pos) : Expr := .ListComp elt [⟨target, iter, [], 0⟩, ⟨target', iter', [], 0⟩] scope pos

theorem turnOuter (it acc : Value) (env : Env) : compTurn (twoE elt target iter target' iter' scope pos) 0 it acc env = (standAt iter.pos >>= fun _ => pyNext it >>= fun r => match r with
      | none => pure (.done .next)
      | some v => letOwnedTupleGo target it v >>= fun _ => assign target env v >>= fun _ =>
        (eval iter' env >>= fun x => standAt iter'.pos >>= fun _ => foldedSetIterable iter' env x >>= fun x => holding [x] (pyIter x) >>= fun it' =>
          runOwn (.compStart (twoE elt target iter target' iter' scope pos) 1 it' acc env) env >>= fun _ => again (.compLoop (twoE elt target iter target' iter' scope pos) 0 it acc env))) := by rfl

theorem turnInner (it acc : Value) (env : Env) : compTurn (twoE elt target iter target' iter' scope pos) 1 it acc env = (standAt iter'.pos >>= fun _ => pyNext it >>= fun r => match r with
      | none => pure (.done .next)
      | some v => letOwnedTupleGo target' it v >>= fun _ => assign target' env v >>= fun _ =>
        (eval elt env >>= fun x => call (.builtin "list.append") [acc, x] >>= fun _ => pure ()) >>= fun _ =>
          again (.compLoop (twoE elt target iter target' iter' scope pos) 1 it acc env)) := by rfl

abbrev Body2 (prog : Program) (w : World) (elt target iter target' iter' : Expr) (scope : Scope) (pos : Pos) : Body := fun A acc env Q E s =>
  wpAny (model prog w) A (eval iter' env) (fun x s₁ => wpAny (model prog w) A (pyIter x) (fun it s₂ => wpAny (model prog w) A (runOwn (.compStart (twoE elt target iter target' iter' scope pos) 1 it acc env) env) (fun _ s₃ => Q s₃) E s₂) E s₁) E s

theorem loopOuter (hs : ∀ env x, foldedSetIterable iter' env x = pure x) : LoopRule prog w (twoE elt target iter target' iter' scope pos) target (Body2 prog w elt target iter target' iter' scope pos) 0 := by
  intro A R it acc env J turn n s h
  refine codeAny_loop rfl J (fun n s hJ => wpAny_noted ?_) n h
  show wpAny _ A (compTurn (twoE elt target iter target' iter' scope pos) 0 it acc env) _ _ s
  rw [turnOuter]
  refine wpAny_bind (wpAny_standAt (wpAny_bind (wpAny_mono (turn n s hJ) (fun r s₁ h₁ => ?_) fun _ _ y => y)))
  cases r with
  | none => exact wpAny_pure h₁
  | some v =>
    refine wpAny_bind (h₁.1 _ _ (wpAny_bind (wpAny_mono h₁.2 (fun _ s₂ h₂ => wpAny_bind (wpAny_mono h₂ (fun x s₃ h₃ => ?_) fun _ _ y => y)) fun _ _ y => y)))
    exact wpAny_bind (wpAny_standAt (wpAny_bind (wpAny_of_eq (hs _ x) (wpAny_bind (wpAny_holding (wpAny_mono h₃ (fun it' s₄ h₄ => wpAny_bind (wpAny_mono h₄ (fun _ s₅ h₅ => wpAny_pure ⟨rfl, h₅⟩) fun _ _ y => y)) fun _ _ y => y))))))

theorem loopInner : LoopRule prog w (twoE elt target iter target' iter' scope pos) target' (fun A acc env Q E s => wpAny (model prog w) A (eval elt env) (fun x s₄ => wpAny (model prog w) A (call (.builtin "list.append") [acc, x]) (fun _ s₅ => Q s₅) E s₄) E s) 1 := by
  intro A R it acc env J turn n s h
  refine codeAny_loop rfl J (fun n s hJ => wpAny_noted ?_) n h
  show wpAny _ A (compTurn (twoE elt target iter target' iter' scope pos) 1 it acc env) _ _ s
  rw [turnInner]
  refine wpAny_bind (wpAny_standAt (wpAny_bind (wpAny_mono (turn n s hJ) (fun r s₁ h₁ => ?_) fun _ _ y => y)))
  cases r with
  | none => exact wpAny_pure h₁
  | some v =>
    exact wpAny_bind (h₁.1 _ _ (wpAny_bind (wpAny_mono h₁.2 (fun _ s₂ h₂ => wpAny_bind (wpAny_bind (wpAny_mono h₂ (fun x s₃ h₃ => wpAny_bind (wpAny_mono h₃ (fun _ s₄ h₄ => wpAny_pure (wpAny_pure ⟨rfl, h₄⟩)) fun _ _ y => y)) fun _ _ y => y))) fun _ _ y => y)))

theorem startInner {A : Around} {R : Result → Shared → Prop} {s : Shared} {it acc : Value} {env : Env}
    (h0 : codeAny (model prog w) A (.compLoop (twoE elt target iter target' iter' scope pos) 1 it acc env) R s)
    (h : wpAny (model prog w) A (pyIter it) (fun it' s' => codeAny (model prog w) A (.compLoop (twoE elt target iter target' iter' scope pos) 1 it' acc env) R s') (notedBy (model prog w) A env fun x s' => R (.error x) s') s) :
    codeAny (model prog w) A (.compStart (twoE elt target iter target' iter' scope pos) 1 it acc env) R s := by
  refine codeAny_of_tree ?_
  show wpAny _ _ ((compStart (twoE elt target iter target' iter' scope pos) 1 it acc env).onRaise (fun x => do noteFrame x env; standAt theWindowsPlace)) _ _ s
  refine wpAny_notedAt ?_
  unfold compStart
  show wpAny _ _ (ask >>= _) _ _ s
  refine wpAny_bind (wpAny_askSetting (wpAny_ite ?_))
  split
  · first
      | exact wpAny_bind (wpAny_pure (wpAny_pure (And.intro rfl h0)))
      | exact wpAny_pure (And.intro rfl h0)
  · refine wpAny_bind (wpAny_rule ?_)
    show wpAny _ _ (standAt iter'.pos >>= _) _ _ s
    exact wpAny_bind (wpAny_standAt (wpAny_bind (wpAny_mono h (fun it' s' h' => wpAny_pure (And.intro rfl h')) fun _ _ x => x)))

/-- a turn of the outer loop: the whole inner one -/
abbrev TB2 (elt target' iter' : Expr) (m : Nat) (c : Cx) (inv : List AV → St → Prop) (acc : List AV) (σ : St) : Prop :=
  Ev c iter' σ (fun a σ₃ => ∃ (items : List AV) (inv' : Nat → List AV → St → Prop), (∀ σ, Itr c a items σ T0) ∧ items.length ≤ m ∧ inv' 0 acc σ₃ ∧
    (∀ i x acc' σ', items[i]? = some x → inv' i acc' σ' → Asg c target' x σ' (fun σ₄ => Ev c elt σ₄ (fun y σ₅ => inv' (i + 1) (acc' ++ [y]) σ₅) noX) noX) ∧ (∀ acc' σ', inv' items.length acc' σ' → inv acc' σ')) noX

theorem TB2.ok {c : Cx} {inv : List AV → St → Prop} {acc : List AV} {σ : St} {b m : Nat} (h : TB2 elt target' iter' m c inv acc σ) (hb : acc.length ≤ b) (hm : b + m ≤ 16777216) :
    BodyOK c (Body2 c.prog c.w elt target iter target' iter' scope pos) inv (b + m) acc σ := by
  intro D s r Q E q
  refine (Tri.behind (R := [(D, .list acc)]) (X := noX) h) s r trivial _ _ (fun v a σ₃ s₃ r₃ f₃ va h₃ => ?_) (fun _ _ _ _ _ z => z.elim)
  obtain ⟨σ₃', rfl, items, inv', it, hlen, h0, turn, done⟩ := h₃
  refine wpAny_with_toks r₃.tp (it _ v s₃ r₃ trivial va _ _ (fun I fp P St h' tk W hn hI hk hfp hst hP => fun htk0 => ?_))
  have B := WB.of r₃ W hn hI hfp
  refine wpAny_runOwn (h := none) ?_
  rw [Around.mark_none]
  generalize hs₄ : ({ s₃ with heap := h', toks := tk } : Shared) = s₄
  have J0 : WJ c ⟨σ₃'.loc, σ₃'.own ++ [(D, .list acc)]⟩ s₃ I St 0 ⟨σ₃'.loc, σ₃'.own ++ [(D, .list acc)]⟩ s₄ := by
    rw [← hs₄]
    exact ⟨⟨r₃.keep hk, htk0⟩, Aft.keep hk, hst, fun z => by obtain ⟨o, e⟩ := r₃.here I (List.mem_append_right _ z); rw [hn] at e; cases e⟩
  have loop : codeAny (model c.prog c.w) c.A (.compLoop (twoE elt target iter target' iter' scope pos) 1 (.ref I) (.ref D) c.env) (fun r s' => match r with | .ok f => (fun _ s₃ => Q s₃) f s' | .error e => cameBackBy (model c.prog c.w) c.A c.env E e s') s₄ := by
    refine loopInner _ _ _ _ _ (fun n s' => ∃ i acc' σ', n = items.length - i ∧ i ≤ items.length ∧ acc'.length ≤ b + i ∧ inv' i acc' σ' ∧ WJ c ⟨σ₃'.loc, σ₃'.own ++ [(D, .list acc)]⟩ s₃ I St i ⟨σ'.loc, σ'.own ++ [(D, .list acc')]⟩ s') (fun n s' hJ => ?_) items.length s₄
      ⟨0, acc, σ₃', rfl, Nat.zero_le _, hb, h0, J0⟩
    obtain ⟨i, acc', σ', rfl, hi, hal, hinv, J⟩ := hJ
    by_cases hlt : i < items.length
    · refine B.item J hlt fun v' s₅ hPv r5 f5 ⟨oI, gI, ngI⟩ again => ?_
      have hx : items[i]? = some items[i] := by simp [hlt]
      refine ⟨fun Q' E' h' => goOk gI ngI h', ?_⟩
      refine ((turn i items[i] acc' σ' hx hinv v').behind (R := [(D, .list acc')]) (X := noX)) s₅ r5 ((hP i _ v' hx hPv).after r₃ f5) _ _ (fun _ _ σ₆ s₆ r₆ f₆ _ h₆ => ?_) (fun _ _ _ _ _ z => z.elim)
      obtain ⟨σ₆', rfl, h₆⟩ := h₆
      refine growOK h₆ hal (Nat.lt_of_lt_of_le (Nat.add_lt_add_left (Nat.lt_of_lt_of_le hlt hlen) b) hm) r₆ fun acc₇ σ₇ s₇ hl₇ r₇ f₇ h₇ => ?_
      exact ⟨items.length - (i + 1), Nat.sub_lt_sub_left hlt (Nat.lt_succ_self i), i + 1, acc₇, σ₇, rfl, hlt, hl₇, h₇, again _ _ r₇ (f₆.trans f₇)⟩
    · have hi' : i = items.length := Nat.le_antisymm hi (Nat.ge_of_not_lt hlt)
      subst hi'
      exact B.done J fun s₅ r5 f5 => q acc' σ' s₅ (Nat.le_trans hal (Nat.add_le_add_left hlen b)) r5 (f₃.trans f5) (done acc' σ' hinv)
  exact startInner loop (W.self 0 _ _ _ J0.st loop)

/-- a comprehension with two clauses whose list goes straight into a name -/
theorem Ex.assignComp2 {z : Bool} {n m : Nat} {c : Cx} {y : String} {np spos : Pos} {cl : List (Str × Addr)} {cells : List Addr} {σ : St} {Φ : Fl → St → Prop} {X : XP} (R : List (Addr × AO)) (g : Good z n c) (N : CompN c scope cl cells)
    (h : CompH c scope cl cells target iter m (TB2 elt target' iter' m) R σ (fun d σ' => Φ .next (σ'.set y (.ref d))) X)
    (hs' : ∀ env x, foldedSetIterable iter' env x = pure x := by intro _ _; rfl)
    (hs : ∀ x, foldedSetIterable iter c.env x = pure x := by intro _; rfl) (hw : swapsWith (twoE elt target iter target' iter' scope pos) (some (.Name (Str.ofString y) np)) spos.line c.env = pure true := by rfl)
    (hx : CanStore c y := by exact Or.inl rfl) (hk2 : c.env.scope.kind = .function := by rfl) :
    Tri c (Hid c σ R) (exec (.Assign [.Name (Str.ofString y) np] (twoE elt target iter target' iter' scope pos) spos) c.env) FR σ Φ X :=
  Ex.assignCompG R g (loopOuter hs') (fun _ _ _ _ _ => TB2.ok) N h hs hw hx hk2
end

/-- a comprehension that reaches for no cell -/
theorem CompN.none {c : Cx} {scope : Scope} {cells : List Addr} (h : c.fr = c.env.locals :: cells) (hc : closureFor scope c.env = pure []) (cn : ∀ y ∈ scope.names, y.2 ≠ .cell) (nm : ∀ y ∈ scope.names, y.2 = .local → scope.names.lookup y.1 = some .local) (k : scope.kind = .function) : CompN c scope [] cells :=
  ⟨h, hc, fun _ _ h => (nomatch h), fun _ _ h => (nomatch h), cn, nm, k⟩

theorem CompN.of {c : Cx} {scope : Scope} {cells : List Addr} {cl : List (Str × Addr)} (h : c.fr = c.env.locals :: cells) (hc : closureFor scope c.env = pure cl) (hp : ∀ p ∈ cl, c.env.cells.lookup p.1 = some p.2 ∧ p.2 ∈ cells ++ c.fx)
    (cn : ∀ y ∈ scope.names, y.2 ≠ .cell) (nm : ∀ y ∈ scope.names, y.2 = .local → scope.names.lookup y.1 = some .local) (k : scope.kind = .function) : CompN c scope cl cells :=
  ⟨h, hc, fun x a e => (hp _ (PySem.mem_of_lookup e)).1, fun x a e => (hp _ (PySem.mem_of_lookup e)).2, cn, nm, k⟩

theorem permEnd {α : Type} {X : List α} {a b : α} : (X ++ [a, b]).Perm ((X ++ [b]) ++ [a]) := by rw [List.append_assoc]; exact .append_left X (.swap ..)
/-- an order told by places -/
theorem permIx {α : Type} {l l' : List α} (n : Nat) (is : List Nat) (hn : l.length = n) (h : is.Perm (List.range n)) (e : is.filterMap (fun i => l[i]?) = l') : l.Perm l' := by
  subst hn e
  have : l = (List.range l.length).filterMap (fun i => l[i]?) := by
    clear h
    induction l with
    | nil => rfl
    | cons a r ih =>
      rw [List.length_cons, List.range_succ_eq_map, List.filterMap_cons, List.filterMap_map]
      exact congrArg (a :: ·) ih
  exact (List.Perm.of_eq this).trans (h.symm.filterMap _)

theorem permX {α : Type} {A B A' B' X : List α} (h : (A ++ B).Perm (A' ++ B')) : (A ++ (X ++ B)).Perm (A' ++ (X ++ B')) := by
  have e : ∀ A B : List α, (A ++ (X ++ B)).Perm (X ++ (A ++ B)) := fun A B => by
    rw [← List.append_assoc, ← List.append_assoc]; exact List.perm_append_comm.append_right B
  exact (e A B).trans ((h.append_left X).trans (e A' B').symm)

theorem Lk.set {σ : St} {x : String} {v : AV} {l : List (String × AV)} (h : Lk σ.loc l) (hn : (l.map (·.1)).contains x = false := by rfl) : Lk (σ.set x v).loc l := fun p hp => by
  rw [show (σ.set x v).loc.lookup p.1 = _ from lookup_setL x p.1 v σ.loc, if_neg]
  · exact h p hp
  · rintro rfl
    have : (l.map (·.1)).contains p.1 = true := List.contains_iff_mem.mpr (List.mem_map_of_mem hp)
    rw [hn] at this; cases this

/-- a statement, what is owned behind it, what is known of the locals, and what is told -/
theorem Exs.stepD {ι : Type} {c : Cx} {st : Stmt} {rest : List Stmt} {σ : St} {Φ : Fl → St → Prop} {X : XP} (P : ι → Prop) (own : ι → List (Addr × AO)) (l : ι → List (String × AV))
    (h : ∀ Ψ : Fl → St → Prop, (∀ lc o i R, P i → o.Perm (own i ++ R) → Lk lc (l i) → Ψ .next ⟨lc, o⟩) → Ex c st σ Ψ X) (k : ∀ i lc, P i → Lk lc (l i) → Exs c rest ⟨lc, own i⟩ Φ X) : Exs c (st :: rest) σ Φ X :=
  Exs.cons <| h _ fun lc o i R hp pm hl => Tri.perm pm (Tri.forget (k i lc hp hl))
/-- what a step leaves may be let go -/
theorem Tri.drop {α β : Type} {c : Cx} {P : Heap → Prop} {t : Sem α} {V : Heap → β → α → Prop} {σ : St} {Φ : β → St → Prop} {X : XP}
    (h : Tri c P t V σ (fun x σ' => ∃ own R, σ'.own.Perm (own ++ R) ∧ Φ x ⟨σ'.loc, own⟩) X) : Tri c P t V σ Φ X := fun s r p Q E q x =>
  h s r p Q E (fun a y σ' s' r' f v φ => by
    obtain ⟨own, R, pm, φ⟩ := φ
    obtain ⟨r1, f1, _⟩ := RepS.reduce (σ₁ := ⟨σ'.loc, own⟩) (R := []) r (fun p hp => (nomatch hp)) r' f rfl pm
    exact q a y _ s' r1 f1 v φ) x

/-! equal lists -/
theorem EqAV.str1 (a : List Nat) : EqAV (.str a) (.str a) true := by have := EqAV.str a a; rwa [decide_eq_true rfl] at this
theorem EqAV.tup1 {l : List AV} (h : ∀ x ∈ l, (∃ i, x = .int i) ∨ ∃ a, x = .str a) : EqAV (.tup l) (.tup l) true := fun A s v w hu hv hw => by
  rw [VR] at hv hw
  obtain ⟨a, vs, n, rfl, g1, q1⟩ := hv
  obtain ⟨b, us, m, rfl, g2, q2⟩ := hw
  by_cases e : a = b
  · rw [e]; exact SeqAt.EqAt.same _
  have hl : vs.toArray.size = us.toArray.size := by rw [List.size_toArray, List.size_toArray, q1.length, q2.length]
  have := SeqAt.RcAt.tuples (e := fun _ => true) (A := A) (s := s) ⟨_, g1, rfl, n, rfl⟩ ⟨_, g2, rfl, m, rfl⟩ (by omega) fun j h1 h2 => by
    obtain ⟨x, ex, px⟩ := q1.gets h1
    obtain ⟨y, ey, py⟩ := q2.gets h2
    rw [ex] at ey; cases ey
    rcases h x (List.mem_of_getElem? ex) with ⟨i, rfl⟩ | ⟨z, rfl⟩
    · obtain ⟨t, e1⟩ := px.int'
      obtain ⟨u, e2⟩ := py.int'
      rw [e1, e2]
      have := SeqAt.EqAt.int_int (A := A.in1) (s := s) i t i u
      rwa [beq_self_eq_true] at this
    · obtain ⟨t, e1⟩ := px.str'
      obtain ⟨u, e2⟩ := py.str'
      rw [e1, e2]
      have := SeqAt.EqAt.str_str (A := A.in1) (s := s) ⟨z.toArray⟩ t ⟨z.toArray⟩ u
      rwa [beq_self_eq_true] at this
  rw [hl, Nat.min_self, beq_self_eq_true, Bool.and_true, List.all_eq_true.mpr fun _ _ => rfl] at this
  exact SeqAt.EqAt.of_refs e this
theorem EqL.same {l : List AV} (h : ∀ x ∈ l, EqAV x x true) : EqL l l fun _ => true := ⟨fun j x y ex ey => by
  rw [ex] at ey; cases ey; exact h x (List.mem_of_getElem? ex)⟩
theorem Op2.neSame {c : Cx} {n : Nat} {z : Bool} {a b : Addr} {l m : List AV} {σ : St} {Φ : AV → St → Prop} {X : XP} (g : Good z (n + 1) c) (i j : Nat) (e1 : σ.own[i]? = some (a, .list l)) (e2 : σ.own[j]? = some (b, .list m)) (e : l = m) (h : ∀ x ∈ l, EqAV x x true)
    (k : Φ (.bool false) σ) : Op2 c (compareOp .NotEq) (.ref a) (.ref b) σ Φ X := by
  subst e
  exact Op2.neL g i j e1 e2 (.same h) (by rw [beq_self_eq_true, List.all_eq_true.mpr fun _ _ => rfl]; exact k)
end Mine

section
open PySem PySem.W PyProof.Rows
local macro_rules | `(tactic| o_law) => `(tactic| ((have : (fun (_ : PySem.W.OpenLaw) => true) PySem.Challenge.rw_tx0005_02 = true := by (set_option maxHeartbeats 1 in k_qdec)); fail "one"))
local macro_rules | `(tactic| o_head ($f $k $a $e $t)) => `(tactic| ((have : (fun (_ : PySem.Params → PySem.W.Frag) => true) $k = true := by (set_option maxHeartbeats 1 in k_qdec)); fail "one"))
local macro_rules | `(tactic| refine $h:ident (q := $q) (loose := $l) $xs*) => `(tactic| ((have : (fun (_ : PySem.Program) => true) $q = true := by (set_option maxHeartbeats 1 in k_qdec)); fail "one"))
set_option maxHeartbeats 8000000 in
open_top hd for PySem.Challenge.rw_tx0005_02
end

-- N1
namespace Mine
open PySem PySem.Calls PyProof.Rows PySem.W

/-- what the world holds -/
structure Wd (w : World) (b0 : Heap) (mg mb : Str → Option Value) : Prop where
  k : (hd.heap_39 w.params).In b0
  g : b0.Ns mainGlobals mg
  b : b0.Ns builtinsNs mb
  bi : ∀ x : Str, x ≠ Str.ofString "__name__" → mb x = bootBuiltins x
  nl : b0.NoLimit
  ch : CodeHd b0 126 122
  bm : b0.BuiltinsAt mg 122

def globIn (K : Frag) (x : Str) : Option Value := match K.lookup mainGlobals with
  | some ⟨_, _, .dict es _, _⟩ => nsFind es x
  | _ => none
theorem Wd.glob {w : World} {b0 : Heap} {mg mb : Str → Option Value} (W : Wd w b0 mg mb) {x : Str} {v : Value} (h : globIn (hd.heap_39 w.params) x = some v) : mg x = some v := by
  obtain ⟨o, es, ep, g, d, _, f⟩ := W.g
  unfold globIn at h
  split at h
  · rename_i c dd es' ep' sl hK
    have := W.k _ _ hK
    rw [g] at this; cases this
    cases d
    rw [← f]; exact h
  · cases h
theorem Wd.noGlob {w : World} {b0 : Heap} {mg mb : Str → Option Value} (W : Wd w b0 mg mb) {x : Str} (h : ((hd.heap_39 w.params).lookup mainGlobals).isSome = true) (h' : globIn (hd.heap_39 w.params) x = none) : mg x = none := by
  obtain ⟨o, es, ep, g, d, _, f⟩ := W.g
  unfold globIn at h'
  split at h'
  · rename_i c dd es' ep' sl hK
    have := W.k _ _ hK
    rw [g] at this; cases this
    cases d
    rw [← f]; exact h'
  · rename_i hn
    obtain ⟨o', e⟩ := Option.isSome_iff_exists.mp h
    have := W.k _ _ e
    rw [g] at this; cases this
    obtain ⟨c, dd, da, sl⟩ := o
    cases d
    exact absurd e (hn _ _ _ _ _)
theorem Wd.built {w : World} {b0 : Heap} {mg mb : Str → Option Value} (W : Wd w b0 mg mb) {x : Str} {v : Value} (h : bootBuiltins x = some v) (hx : x ≠ Str.ofString "__name__" := by decide) : mb x = some v := (W.bi x hx).trans h

def isFn (K : Frag) (a : Addr) : Bool := match K.lookup a with
  | some ⟨_, _, .func _, _⟩ => true
  | _ => false
theorem Wd.fn {w : World} {b0 : Heap} {mg mb : Str → Option Value} (W : Wd w b0 mg mb) {a : Addr} (h : isFn (hd.heap_39 w.params) a = true) : ∃ fo fd, b0.get? a = some fo ∧ fo.data = .func fd := by
  unfold isFn at h
  split at h
  · rename_i hK
    exact ⟨_, _, W.k _ _ hK, rfl⟩
  · cases h

def ordL (a b : List Nat) : Int := b2i (decide (b < a)) - b2i (decide (a < b))

section
variable {prog : Program} {w : World} {b0 : Heap} {mg mb : Str → Option Value} {z : Bool}

theorem strcoll (W : Wd w b0 mg mb) {a b : List Nat} :
    Fun prog w b0 z 1 (.ref 35) [.str a, .str b] [] (fun r own => r = .int (ordL a b) ∧ own = []) := by
  refine Fun.intro (ps := ["a", "b"]) (W.k _ _ rfl) rfl rfl rfl ⟨_, _, _, _, rfl, W.k _ _ rfl, rfl, rfl⟩ W.nl (fun vs h => ?_) rfl (by decide) (by decide) (by decide) (fun A L K g => ?_)
  · exact bind2 h (by exact fun _ _ => rfl)
  · exact Exs.cons (Ex.ret (Ev.binop (Ev.cmp (Ev.name rfl (Ev.name rfl (Op2.gt_s (Ev.cmp (Ev.name rfl (Ev.name rfl (Op2.lt_s (Op2.subb ⟨rfl, rfl⟩))))))))))) 

end
end Mine

-- N2
namespace Mine
open PySem PySem.Calls PyProof.Rows PySem.W

theorem setLk (σ : St) (x y : String) (v : AV) : (σ.set x v).loc.lookup y = if y = x then some v else σ.loc.lookup y := lookup_setL x y v σ.loc
theorem lkS {σ : St} {x : String} {v : AV} : (σ.set x v).loc.lookup x = some v := by rw [setLk, if_pos rfl]
theorem lkN {σ : St} {x y : String} {v a : AV} (h : σ.loc.lookup y = some a) (hn : y ≠ x := by decide) : (σ.set x v).loc.lookup y = some a := by rw [setLk, if_neg hn]; exact h
theorem VR.mkTy {h : Heap} {n : String} : VR h (.ty n) (.type n) := by rw [VR]
theorem VR.mkBi {h : Heap} {n : String} : VR h (.bi n) (.builtin n) := by rw [VR]

theorem bits_le {a : Int} {k : Nat} (h : a.natAbs < 2 ^ k) : Builtin.Int.intBits a ≤ k := by
  unfold Builtin.Int.intBits
  split
  · exact Nat.zero_le _
  · rename_i h0
    have h0 : a.natAbs ≠ 0 := by simpa using h0
    exact Nat.succ_le_of_lt ((Nat.log2_lt h0).mpr h)
theorem mulOk {a b : Int} (ha : a.natAbs < 2 ^ 1000) (hb : b.natAbs < 2 ^ 1000) : IntMulOk a b := .of_bits (Nat.le_trans (bits_le ha) (by decide)) (Nat.le_trans (bits_le hb) (by decide))
theorem fdivN (a b : Nat) : ((a : Int).fdiv (b : Int)) = ((a / b : Nat) : Int) := by rw [Int.fdiv_eq_ediv_of_nonneg _ (by omega)]; rfl
theorem fmodN (a b : Nat) : ((a : Int).fmod (b : Int)) = ((a % b : Nat) : Int) := by rw [Int.fmod_eq_emod_of_nonneg _ (by omega)]; rfl

theorem noPy {x y : Int} (h : y.natAbs < 1073741824) : Builtin.divisionGoesByPylong x y = false := PyProof.noPylong_small h
end Mine

-- N4
namespace Mine
open PySem PySem.Calls PyProof.Rows PySem.W

/-! the class of the lexer -/
theorem sn_lineno (p : Params) : SetName (hd.heap_39 p) 80 "lineno" := ⟨rfl, rfl, rfl, rfl⟩
theorem sn_instream (p : Params) : SetName (hd.heap_39 p) 80 "instream" := ⟨rfl, rfl, rfl, rfl⟩
theorem sn_whitespace (p : Params) : SetName (hd.heap_39 p) 80 "whitespace" := ⟨rfl, rfl, rfl, rfl⟩
theorem sn_pushback (p : Params) : SetName (hd.heap_39 p) 80 "pushback" := ⟨rfl, rfl, rfl, rfl⟩
theorem sn_read (p : Params) : SetName (hd.heap_39 p) 80 "read" := ⟨rfl, rfl, rfl, rfl⟩
theorem on_lineno (p : Params) : OwnName (hd.heap_39 p) 80 "lineno" := ⟨rfl, rfl, none, rfl, rfl⟩
theorem on_instream (p : Params) : OwnName (hd.heap_39 p) 80 "instream" := ⟨rfl, rfl, none, rfl, rfl⟩
theorem on_whitespace (p : Params) : OwnName (hd.heap_39 p) 80 "whitespace" := ⟨rfl, rfl, none, rfl, rfl⟩
theorem on_pushback (p : Params) : OwnName (hd.heap_39 p) 80 "pushback" := ⟨rfl, rfl, none, rfl, rfl⟩
theorem on_read (p : Params) : OwnName (hd.heap_39 p) 80 "read" := ⟨rfl, rfl, none, rfl, rfl⟩
theorem fi_read (p : Params) : findIn (hd.heap_39 p) (.ref 80) (Str.ofString "read") = some none := rfl
theorem mn_read_char (p : Params) : MethName (hd.heap_39 p) 80 "_read_char" 63 := ⟨rfl, rfl, rfl, rfl, rfl, rfl, rfl, by decide +kernel⟩
theorem mn_get_token (p : Params) : MethName (hd.heap_39 p) 80 "get_token" 70 := ⟨rfl, rfl, rfl, rfl, rfl, rfl, rfl, by decide +kernel⟩

abbrev WS : List Nat := [10, 9, 13, 32]
structure LxA where
  x : Addr
  dx : Addr
  pb : Addr
  p : Addr
  dp : Addr
  pb2 : Addr
  f : Addr
  c' : Addr
  cell : Addr
  s : Addr
  fo : Obj
  oc : Obj
  co : Obj
abbrev paperOwn (a : LxA) (signs : List Nat) : List (Addr × AO) := [(a.f, .raw a.fo), (a.c', .raw a.oc), (a.cell, .raw a.co), (a.s, .list (signs.map fun k => .str [k]))]
abbrev lexOwn (a : LxA) (ln : Nat) (pbs : List (List Nat)) (signs : List Nat) : List (Addr × AO) :=
  paperOwn a signs ++ [(a.x, .inst 80 a.dx [("lineno", .int ln), ("instream", .ref a.p), ("whitespace", .str WS), ("pushback", .ref a.pb)]),
    (a.pb, .list (pbs.map AV.str)), (a.p, .inst 80 a.dp [("lineno", .int 1), ("instream", .ref a.s), ("whitespace", .str WS), ("pushback", .ref a.pb2), ("read", .ref a.f)])]
def readP (a : LxA) (signs : List Nat) (r : AV) (own : List (Addr × AO)) : Prop := r = .str (signs.take 1) ∧ own = paperOwn a (signs.drop 1)
def LxOk (prog : Program) (w : World) (b0 : Heap) (a : LxA) : Prop := (∃ fd, a.fo.data = .func fd) ∧ ∀ z signs, signs.length ≤ 1000000 → Fun prog w b0 z 1 (.ref a.f) [.int 1] (paperOwn a signs) (readP a signs)
def nl (l : List Nat) : Nat := l.count 10

section
variable {prog : Program} {w : World} {b0 : Heap} {mg mb : Str → Option Value} {z : Bool}

theorem pInit (W : Wd w b0 mg mb) {x dx : Addr} {fp : AV} :
    Fun prog w b0 z 1 (.ref 56) [.ref x, fp] [(x, .inst 80 dx [])] (fun r own => r = .none ∧ ∃ pb, own = [(pb, .list []), (x, .inst 80 dx [("lineno", .int 1), ("instream", fp), ("whitespace", .str WS), ("pushback", .ref pb)])]) := by
  refine Fun.intro (ps := ["self", "fp"]) (W.k _ _ rfl) rfl rfl rfl ⟨_, _, _, _, rfl, W.k _ _ rfl, rfl, rfl⟩ W.nl (fun vs h => ?_) rfl (by decide) (by decide) (by decide) (fun A L K g => ?_)
  · exact bind2 h (by exact fun _ _ => rfl)
  · refine Exs.cons <| Ex.putAttr <| Ev.int <| Ev.name rfl ⟨x, rfl, fun v => setOwn W.k (sn_lineno _) 0 rfl <| Exs.cons <| Ex.putAttr <| Ev.name rfl <| Ev.name rfl ⟨x, rfl, fun v => setOwn W.k (sn_instream _) 0 rfl ?_⟩⟩
    refine Exs.cons <| Ex.putAttr <| Ev.lit WS rfl <| Ev.name rfl ⟨x, rfl, fun v => setOwn W.k (sn_whitespace _) 0 rfl ?_⟩
    refine Exs.cons <| Ex.putAttr <| Ev.list <| Arg.nil ⟨by simp, fun pb => Ev.name rfl ⟨x, rfl, fun v => setOwn W.k (sn_pushback _) 1 rfl ?_⟩⟩
    exact Exs.nil ⟨rfl, pb, rfl⟩

theorem readChar (W : Wd w b0 mg mb) {a : LxA} (H : LxOk prog w b0 a) {ln : Nat} {pbs : List (List Nat)} {signs : List Nat} (hz : signs.length ≤ 1000000) :
    Fun prog w b0 z 2 (.ref 63) [.ref a.x] (lexOwn a ln pbs signs) (fun r own => r = .str (signs.take 1) ∧ own = lexOwn a (ln + nl (signs.take 1)) pbs (signs.drop 1)) := by
  refine Fun.intro (ps := ["self"]) (W.k _ _ rfl) rfl rfl rfl ⟨_, _, _, _, rfl, W.k _ _ rfl, rfl, rfl⟩ W.nl (fun vs h => ?_) rfl (by decide) (by decide) (by decide) (fun A L K g => ?_)
  · exact bind1 h (by exact fun _ => rfl)
  · obtain ⟨⟨fd, hfd⟩, HF⟩ := H
    refine Exs.cons <| Ex.assign <| Ev.callOwn W.k <| Ev.attr <| Ev.name rfl ⟨a.x, rfl, getOwn W.k (on_instream _) 4 rfl rfl ⟨6, 0, a.p, 80, a.dp, _, a.f, a.fo, fd, rfl, rfl, on_read _, fi_read _, rfl, rfl, hfd, Arg.cons <| Ev.int <| Arg.nil ⟨⟨0, rfl⟩, ?_⟩⟩⟩
    refine (HF z signs hz).use g fun av own' hr => ?_
    obtain ⟨rfl, rfl⟩ := hr
    cases signs with
    | nil =>
      refine Exs.cons <| Ex.iff <| Tst.cmp <| Ev.name rfl <| Ev.lit [10] rfl <| Op2.eq_s <| Tru.bool ⟨fun hc => ?_, fun hc => ?_⟩
      · simp at hc
      · exact Exs.nil <| Exs.cons <| Ex.ret <| Ev.name rfl ⟨rfl, rfl⟩
    | cons k ks =>
      refine Exs.cons <| Ex.iff <| Tst.cmp <| Ev.name rfl <| Ev.lit [10] rfl <| Op2.eq_s <| Tru.bool ⟨fun hc => ?_, fun hc => ?_⟩
      · have hk : k = 10 := by simpa using hc
        subst hk
        refine Exs.cons <| Ex.augAttr <| Ev.name rfl ⟨a.x, rfl, getOwn W.k (on_lineno _) 4 rfl rfl <| Ev.int <| Op2.iadd <| fun v => setOwn W.k (sn_lineno _) 4 rfl <| Exs.nil <| Exs.cons <| Ex.ret <| Ev.name rfl ⟨rfl, rfl⟩⟩
      · have hk : ¬ k = 10 := by simpa using hc
        refine Exs.nil <| Exs.cons <| Ex.ret <| Ev.name rfl ⟨rfl, ?_⟩
        have : nl [k] = 0 := by unfold nl; simp [hk]
        show lexOwn a ln pbs ks = lexOwn a (ln + nl [k]) pbs ks
        rw [this]; rfl

end
end Mine

-- N5
namespace Mine
open PySem PySem.Calls PyProof.Rows PySem.W

theorem lN {l : List (String × AV)} {x y : String} {v a : AV} (h : l.lookup y = some a) (hn : y ≠ x := by decide) : (setL x v l).lookup y = some a := by rw [lookup_setL, if_neg hn]; exact h
theorem lS {l : List (String × AV)} {x : String} {v : AV} : (setL x v l).lookup x = some v := by rw [lookup_setL, if_pos rfl]

def encQ (d : List Nat) : List Nat := subst 34 [92, 34] (subst 92 [92, 92] d)
def escAll (d : List Nat) : List Nat := d.flatMap fun k => [92, k]
theorem encQ_cons (k : Nat) (d : List Nat) : encQ (k :: d) = (if k = 92 then [92, 92] else if k = 34 then [92, 34] else [k]) ++ encQ d := by
  have e1 : subst 92 [92, 92] (k :: d) = (if k = 92 then [92, 92] else [k]) ++ subst 92 [92, 92] d := rfl
  unfold encQ
  rw [e1, subst_append]
  congr 1
  by_cases h : k = 92
  · subst h; rfl
  · rw [if_neg h, if_neg h]
    by_cases h2 : k = 34
    · subst h2; rfl
    · rw [if_neg h2]
      show (if k = 34 then [92, 34] else [k]) ++ [] = [k]
      rw [if_neg h2]; rfl
inductive Toks : List Nat → List Nat → List Nat → Prop
  | quoted (d rest : List Nat) : Toks (34 :: (encQ d ++ 34 :: rest)) d rest
  | plain (k : Nat) (d : List Nat) (x : Nat) (rest : List Nat) (hx : x ∈ WS) : Toks (escAll (k :: d) ++ x :: rest) (k :: d) rest
  | stop (l : List Nat) (h : ∀ k ∈ l, k ∈ WS) : Toks l [] []
theorem nl_cons (k : Nat) (l : List Nat) : nl (k :: l) = nl [k] + nl l := by
  unfold nl; rw [show k :: l = [k] ++ l from rfl, List.count_append]
section
variable {prog : Program} {w : World} {b0 : Heap} {mg mb : Str → Option Value}

/-- what the loops of get_token hold -/
abbrev citR (it m : Addr) (t : Tok) (a : LxA) : List (Addr × AO) := [(it, .raw (citObj m t)), (m, .raw (methodObj (.ref 63) (.ref a.x)))]

theorem nxChar (W : Wd w b0 mg mb) {a : LxA} (H : LxOk prog w b0 a) {A : Around} {env : Env} {fr fx K : List Addr} {loc : List (String × AV)} {ln : Nat} {signs : List Nat} {it m : Addr} {t : Tok} {Φ : Option AV → St → Prop} {X : XP}
    (hz : signs.length ≤ 1000000) (g : Good true 3 (cx prog w b0 A env fr fx K)) (k1 : ∀ k ks, signs = k :: ks → Φ (some (.str [k])) ⟨loc, lexOwn a (ln + nl [k]) [] ks ++ citR it m t a⟩)
    (k2 : signs = [] → ∀ R, Φ none ⟨loc, lexOwn a ln [] [] ++ R⟩) : Nx (cx prog w b0 A env fr fx K) it ⟨loc, lexOwn a ln [] signs ++ citR it m t a⟩ Φ X := by
  refine Nx.cit (g.hd rfl) g (W.k _ _ rfl) rfl 0 1 rfl rfl (Ψ := fun l own' => l = signs.take 1 ∧ own' = lexOwn a (ln + nl (signs.take 1)) [] (signs.drop 1)) ?_ (fun l own' hl h => ?_) (fun own' h => ?_)
  · exact fun A env fr fx K loc g vs X s r p Q E q x => readChar W H hz A env fr fx K loc g vs X s r p Q E (fun a' y σ' s' r' f v φ => q a' y σ' s' r' f v ⟨φ.1, _, φ.2.1, rfl, φ.2.2⟩) x
  · obtain ⟨rfl, rfl⟩ := h
    cases signs with
    | nil => exact absurd rfl hl
    | cons k ks => exact k1 k ks rfl
  · obtain ⟨e, rfl⟩ := h
    cases signs with
    | nil => exact k2 rfl _
    | cons k ks => cases e
end
end Mine

-- N6
namespace Mine
open PySem PySem.Calls PyProof.Rows PySem.W

theorem Toks.nilInv' {q d rest : List Nat} (T : Toks q d rest) (hs : [] = q) : d = [] ∧ rest = [] := by
  cases T with
  | quoted d rest => cases hs
  | plain k' d' x rest hx => cases hs
  | stop l0 h0 => exact ⟨rfl, rfl⟩
theorem Toks.nilInv {d rest : List Nat} (T : Toks [] d rest) : d = [] ∧ rest = [] := T.nilInv' rfl
theorem Toks.wsInv {k : Nat} {ks d rest : List Nat} (T : Toks (k :: ks) d rest) (hk : k ∈ WS) : d = [] ∧ rest = [] ∧ Toks ks [] [] := by
  generalize hs : k :: ks = q at T
  cases T with
  | quoted d rest => cases hs; exact absurd hk (by decide)
  | plain k' d' x rest hx => cases hs; exact absurd hk (by decide)
  | stop l0 h0 => subst hs; exact ⟨rfl, rfl, .stop ks fun q hq => h0 q (.tail _ hq)⟩
theorem Toks.quoteInv {ks d rest : List Nat} (T : Toks (34 :: ks) d rest) : ks = encQ d ++ 34 :: rest := by
  generalize hs : 34 :: ks = q at T
  cases T with
  | quoted d rest => cases hs; rfl
  | plain k' d' x rest hx => cases hs
  | stop l0 h0 => subst hs; exact absurd (h0 34 (.head _)) (by decide)
theorem Toks.plainInv {k : Nat} {ks d rest : List Nat} (T : Toks (k :: ks) d rest) (h1 : ¬ k ∈ WS) (h2 : ¬ k = 34) : ∃ y dr x, k = 92 ∧ d = y :: dr ∧ x ∈ WS ∧ ks = y :: (escAll dr ++ x :: rest) := by
  generalize hs : k :: ks = q at T
  cases T with
  | quoted d rest => cases hs; exact absurd rfl h2
  | plain k' d' x rest hx => cases hs; exact ⟨k', d', x, rfl, rfl, hx, rfl⟩
  | stop l0 h0 => subst hs; exact absurd (h0 k (.head _)) h1

section
variable {prog : Program} {w : World} {b0 : Heap} {mg mb : Str → Option Value}

theorem nl_step {k l N : Nat} {ks : List Nat} (h : l + nl (k :: ks) = N) : l + nl [k] + nl ks = N := by rw [Nat.add_assoc, ← nl_cons]; exact h
theorem curLen {d cur r : List Nat} {x : Nat} (k : Nat) (e : d = cur ++ x :: r) (h : d.length ≤ 1000) : cur.length + [k].length ≤ 16777216 := by
  subst e
  rw [List.length_append, List.length_cons] at h
  show cur.length + 1 ≤ _; omega
theorem encEnd {dr ks rest : List Nat} (e : encQ dr ++ 34 :: rest = 34 :: ks) : dr = [] ∧ ks = rest := by
  cases dr with
  | nil => exact ⟨rfl, by cases e; rfl⟩
  | cons x dr' =>
    rw [encQ_cons] at e
    exfalso
    by_cases h1 : x = 92
    · rw [if_pos h1] at e; cases e
    · rw [if_neg h1] at e
      by_cases h2 : x = 34
      · rw [if_pos h2] at e; cases e
      · rw [if_neg h2] at e; cases e; exact h2 rfl
theorem encNext {k : Nat} {dr ks rest : List Nat} (e : encQ dr ++ 34 :: rest = k :: ks) (hk : ¬ k = 34) : ∃ x dr', dr = x :: dr' ∧ ((k = 92 ∧ ks = x :: (encQ dr' ++ 34 :: rest)) ∨ (k ≠ 92 ∧ k = x ∧ ks = encQ dr' ++ 34 :: rest)) := by
  cases dr with
  | nil => cases e; exact absurd rfl hk
  | cons x dr' =>
    refine ⟨x, dr', rfl, ?_⟩
    rw [encQ_cons] at e
    by_cases h1 : x = 92
    · rw [if_pos h1] at e; cases e; exact .inl ⟨rfl, by rw [h1]; rfl⟩
    · rw [if_neg h1] at e
      by_cases h2 : x = 34
      · rw [if_pos h2] at e; cases e; exact .inl ⟨rfl, by rw [h2]; rfl⟩
      · rw [if_neg h2] at e; cases e; exact .inr ⟨h1, rfl, rfl⟩
theorem escEnd {k x : Nat} {dr ks rest : List Nat} (e : escAll dr ++ x :: rest = k :: ks) (hk : k ∈ WS) : dr = [] ∧ k = x ∧ ks = rest := by
  cases dr with
  | nil => cases e; exact ⟨rfl, rfl, rfl⟩
  | cons q dr'' => cases e; exact absurd hk (by decide)
theorem escNext {k x : Nat} {dr ks rest : List Nat} (e : escAll dr ++ x :: rest = k :: ks) (hx : x ∈ WS) (hk : ¬ k ∈ WS) : ∃ q dr'', dr = q :: dr'' ∧ k = 92 ∧ ks = q :: (escAll dr'' ++ x :: rest) := by
  cases dr with
  | nil => cases e; exact absurd hx hk
  | cons q dr'' => cases e; exact ⟨q, dr'', rfl, rfl, rfl⟩
theorem encNe {dr rest : List Nat} : encQ dr ++ 34 :: rest = [] → False := fun e => by cases dr <;> simp at e
theorem escNe {x : Nat} {dr rest : List Nat} : escAll dr ++ x :: rest = [] → False := fun e => by cases dr <;> simp [escAll] at e

/-- ahead of a token -/
def ScanI (a : LxA) (it m : Addr) (t : Tok) (N : Nat) (d rest : List Nat) (n : Nat) (σ : St) : Prop :=
  ∃ l ln sg, σ = ⟨l, lexOwn a ln [] sg ++ citR it m t a⟩ ∧ Lk l [("self", .ref a.x), ("token", .str []), ("fiter", .ref it)] ∧ Toks sg d rest ∧ n = sg.length ∧ sg.length ≤ 1000000 ∧ ln + nl sg = N
/-- within a token -/
def ScanJ (a : LxA) (it m : Addr) (t : Tok) (N : Nat) (enc : List Nat → List Nat) (d : List Nat) (n : Nat) (σ : St) : Prop :=
  ∃ l ln dr cur, σ = ⟨l, lexOwn a ln [] (enc dr) ++ citR it m t a⟩ ∧ Lk l [("self", .ref a.x), ("token", .str cur)] ∧ d = cur ++ dr ∧ n = dr.length ∧ (enc dr).length ≤ 1000000 ∧ ln + nl (enc dr) = N

set_option maxHeartbeats 4000000 in
theorem getScan (W : Wd w b0 mg mb) {a : LxA} (H : LxOk prog w b0 a) {ln : Nat} {signs d rest : List Nat} (T : Toks signs d rest) (hz : signs.length ≤ 1000000) (hd : d.length ≤ 1000) :
    Fun prog w b0 true 4 (.ref 70) [.ref a.x] (lexOwn a ln [] signs) (fun r own => r = .str d ∧ ∃ ln', ln' + nl rest = ln + nl signs ∧ own = lexOwn a ln' [] rest) := by
  obtain ⟨N, hN⟩ : ∃ N, ln + nl signs = N := ⟨_, rfl⟩
  rw [hN]
  refine Fun.introD (ps := ["self"]) (W.k _ _ rfl) rfl rfl rfl ⟨_, _, _, _, rfl, W.k _ _ rfl, rfl, rfl⟩ W.nl (fun vs h => ?_) rfl (by decide) (by decide) (by decide) (fun A L K g => ?_)
  · exact bind1 h (by exact fun _ => rfl)
  have g2 := g.less (m := 2) (by decide)
  refine Exs.cons <| Ex.iff <| Tst.val <| Ev.attr <| Ev.name rfl ⟨a.x, rfl, getOwn W.k (on_pushback _) 4 rfl rfl <| Tru.list 5 rfl (by decide) ⟨fun hc => (by cases hc), fun _ => Exs.nil ?_⟩⟩
  refine Exs.cons <| Ex.assign <| Ev.lit [] rfl <| Exs.cons <| Ex.assign ?_
  refine Ev.callB <| Ev.built W.g (W.noGlob rfl rfl) W.b (W.built rfl) (fun h => VR.mkBi) ⟨rfl, Arg.cons <| Ev.attr <| Ev.name rfl ⟨a.x, rfl, getBound W.k (mn_read_char _) 4 rfl rfl fun m => Arg.cons <| Ev.lit [] rfl <| Arg.nil <| Cal.iter2 0 rfl fun it t => ?_⟩⟩
  refine Exs.cons <| Tri.perm (own' := lexOwn a ln [] signs ++ citR it m t a) (List.perm_append_comm (l₁ := [(it, _), (m, _)])) ?_
  refine Ex.forN (ScanI a it m t N d rest) <| Ev.name rfl ⟨it, rfl, iterCit 7 rfl rfl ⟨rfl, ⟨signs.length, _, ln, signs, rfl, .cons rfl <| .cons rfl <| .cons rfl .nil, T, rfl, hz, hN⟩, fun n σ' hI => ?_⟩⟩
  clear T hz hN
  obtain ⟨l, ln, sg, rfl, lk, T, hn, hz, hN⟩ := hI
  refine nxChar W H hz g (fun k ks e => ?_) (fun e R => ?_)
  · subst e
    have zk : ks.length ≤ 1000000 := Nat.le_of_succ_le hz
    have hN := nl_step hN
    refine Asg.name ?_
    refine Exs.cons <| Ex.iff <| Tst.cmp <| Ev.name lS <| Ev.attr <| Ev.name (lN (lk.at 0 rfl)) ⟨a.x, rfl, getOwn W.k (on_whitespace _) 4 rfl rfl <| Op2.in_c <| Tru.bool ⟨fun hc => ?_, fun hc => Exs.nil ?_⟩⟩
    · obtain ⟨rfl, rfl, T'⟩ := T.wsInv (of_decide_eq_true hc)
      exact Exs.cons <| Ex.cont ⟨ks.length, by rw [hn]; exact Nat.lt_succ_self _, _, ln + nl [k], ks, rfl, .cons (lN (lk.at 0 rfl)) <| .cons (lN (lk.at 1 rfl)) <| .cons (lN (lk.at 2 rfl)) .nil, T', rfl, zk, hN⟩
    · have hk : ¬ k ∈ WS := of_decide_eq_false hc
      refine Exs.cons <| Ex.iff <| Tst.cmp <| Ev.name lS <| Ev.lit [34] rfl <| Op2.eq_s <| Tru.bool ⟨fun hc2 => ?_, fun hc2 => ?_⟩
      · have hk2 : k = 34 := List.head_eq_of_cons_eq (of_decide_eq_true hc2)
        subst hk2
        have ek := T.quoteInv
        subst ek
        clear T hn hz hc hc2 hk
        refine Exs.cons <| Ex.forN (ScanJ a it m t N (fun dr => encQ dr ++ 34 :: rest) d) <| Ev.name (lN (lk.at 2 rfl)) ⟨it, rfl, iterCit 7 rfl rfl ⟨rfl, ⟨d.length, _, ln + nl [34], d, [], rfl, .cons (lN (lk.at 0 rfl)) <| .cons (lN (lk.at 1 rfl)) .nil, rfl, rfl, zk, hN⟩, fun n σ' hI => ?_⟩⟩
        clear lk zk hN
        obtain ⟨l, ln, dr, cur, rfl, lk, hd', hn, hz, hN⟩ := hI
        refine nxChar W H hz g (fun k ks e => ?_) (fun e R => (encNe e).elim)
        have e : encQ dr ++ 34 :: rest = k :: ks := e
        have hz : (encQ dr ++ 34 :: rest).length ≤ 1000000 := hz
        have hN : ln + nl (encQ dr ++ 34 :: rest) = N := hN
        rw [e] at hz hN
        have zk : ks.length ≤ 1000000 := Nat.le_of_succ_le hz
        have hM := nl_step hN
        refine Asg.name ?_
        refine Exs.cons <| Ex.iff <| Tst.cmp <| Ev.name lS <| Ev.lit [34] rfl <| Op2.eq_s <| Tru.bool ⟨fun hc3 => ?_, fun hc3 => ?_⟩
        · have hk3 : k = 34 := List.head_eq_of_cons_eq (of_decide_eq_true hc3)
          subst hk3
          obtain ⟨rfl, rfl⟩ := encEnd e
          exact Exs.cons <| Ex.ret <| Ev.name (lN (lk.at 1 rfl)) ⟨lexOwn a (ln + nl [34]) [] ks, citR it m t a, rfl, by rw [hd', List.append_nil]; rfl, ln + nl [34], hM, rfl⟩
        · obtain ⟨x, dr', rfl, hx⟩ := encNext e (fun z => of_decide_eq_false hc3 (by rw [z]))
          have hlt : dr'.length < n := by rw [hn]; exact Nat.lt_succ_self _
          have hd2 : d = (cur ++ [x]) ++ dr' := by rw [hd', List.append_cons]
          have cl := curLen x hd' hd
          clear hc3 hn e hd'
          refine Exs.cons <| Ex.iff <| Tst.cmp <| Ev.name lS <| Ev.lit [92] rfl <| Op2.eq_s <| Tru.bool ⟨fun hc4 => ?_, fun hc4 => ?_⟩
          · have hk4 : k = 92 := List.head_eq_of_cons_eq (of_decide_eq_true hc4)
            rcases hx with ⟨_, ek2⟩ | ⟨h, _⟩
            · subst ek2 hk4
              refine Exs.cons <| Ex.assign <| Ev.methI W.k <| Ev.name (lN (lk.at 0 rfl)) ⟨4, a.x, 80, a.dx, _, rfl, rfl, mn_read_char _, rfl, Arg.nil <| (readChar W H zk).use g2 fun av own' hr => ?_⟩
              obtain ⟨rfl, rfl⟩ := hr
              exact Exs.nil <| Exs.nil <| Exs.cons <| Ex.aug (lN (lN (lk.at 1 rfl))) <| Ev.name lS <| Op2.iadd_s cl <| Exs.nil ⟨dr'.length, hlt, _, ln + nl [92] + nl [x], dr', cur ++ [x], rfl, .cons (lN (lN (lN (lk.at 0 rfl)))) <| .cons lS .nil, hd2, rfl, Nat.le_of_succ_le zk, nl_step hM⟩
            · exact absurd hk4 h
          · rcases hx with ⟨h, _⟩ | ⟨_, rfl, rfl⟩
            · exact absurd (by rw [h]) (of_decide_eq_false hc4)
            · exact Exs.nil <| Exs.nil <| Exs.cons <| Ex.aug (lN (lk.at 1 rfl)) <| Ev.name (lS) <| Op2.iadd_s cl <| Exs.nil ⟨dr'.length, hlt, _, ln + nl [k], dr', cur ++ [k], rfl, .cons (lN (lN (lk.at 0 rfl))) <| .cons lS .nil, hd2, rfl, zk, hM⟩
      · obtain ⟨y, dr, x, rfl, rfl, hx, rfl⟩ := T.plainInv hk (fun z => of_decide_eq_false hc2 (by rw [z]))
        clear T hn hz hc hc2 hk
        refine Exs.cons <| Ex.iff <| Tst.cmp <| Ev.name lS <| Ev.lit [92] rfl <| Op2.eq_s <| Tru.bool ⟨fun _ => ?_, fun hc4 => absurd hc4 (by decide)⟩
        refine Exs.cons <| Ex.assign <| Ev.methI W.k <| Ev.name (lN (lk.at 0 rfl)) ⟨4, a.x, 80, a.dx, _, rfl, rfl, mn_read_char _, rfl, Arg.nil <| (readChar W H zk).use g2 fun av own' hr => ?_⟩
        obtain ⟨rfl, rfl⟩ := hr
        refine Exs.nil <| Exs.cons <| Ex.aug (lN (lN (lk.at 1 rfl))) <| Ev.name lS <| Op2.iadd_s (by show 0 + 1 ≤ _; decide) <| Exs.cons ?_
        refine Ex.forN (ScanJ a it m t N (fun dr => escAll dr ++ x :: rest) (y :: dr)) <| Ev.name (lN (lN (lN (lk.at 2 rfl)))) ⟨it, rfl, iterCit 7 rfl rfl ⟨rfl, ⟨dr.length, _, ln + nl [92] + nl [y], dr, [y], rfl, .cons (lN (lN (lN (lk.at 0 rfl)))) <| .cons lS .nil, rfl, rfl, Nat.le_of_succ_le zk, nl_step hN⟩, fun n σ' hI => ?_⟩⟩
        clear lk zk hN
        obtain ⟨l, ln, dr', cur, rfl, lk, hd', hn, hz, hN⟩ := hI
        refine nxChar W H hz g (fun k ks e => ?_) (fun e R => (escNe e).elim)
        have e : escAll dr' ++ x :: rest = k :: ks := e
        have hz : (escAll dr' ++ x :: rest).length ≤ 1000000 := hz
        have hN : ln + nl (escAll dr' ++ x :: rest) = N := hN
        rw [e] at hz hN
        have zk : ks.length ≤ 1000000 := Nat.le_of_succ_le hz
        have hM := nl_step hN
        refine Asg.name ?_
        refine Exs.cons <| Ex.iff <| Tst.cmp <| Ev.name lS <| Ev.attr <| Ev.name (lN (lk.at 0 rfl)) ⟨a.x, rfl, getOwn W.k (on_whitespace _) 4 rfl rfl <| Op2.in_c <| Tru.bool ⟨fun hc3 => ?_, fun hc3 => ?_⟩⟩
        · obtain ⟨rfl, rfl, rfl⟩ := escEnd e (of_decide_eq_true hc3)
          exact Exs.cons <| Ex.ret <| Ev.name (lN (lk.at 1 rfl)) ⟨lexOwn a (ln + nl [k]) [] ks, citR it m t a, rfl, by rw [hd', List.append_nil]; rfl, ln + nl [k], hM, rfl⟩
        · obtain ⟨q, dr'', rfl, rfl, rfl⟩ := escNext e hx (of_decide_eq_false hc3)
          have hlt : dr''.length < n := by rw [hn]; exact Nat.lt_succ_self _
          have hd2 : y :: dr = (cur ++ [q]) ++ dr'' := by rw [hd', List.append_cons]
          have cl := curLen q hd' hd
          clear hc3 hn e hd'
          refine Exs.cons <| Ex.iff <| Tst.cmp <| Ev.name lS <| Ev.lit [92] rfl <| Op2.eq_s <| Tru.bool ⟨fun _ => ?_, fun hc4 => absurd hc4 (by decide)⟩
          refine Exs.cons <| Ex.assign <| Ev.methI W.k <| Ev.name (lN (lk.at 0 rfl)) ⟨4, a.x, 80, a.dx, _, rfl, rfl, mn_read_char _, rfl, Arg.nil <| (readChar W H zk).use g2 fun av own' hr => ?_⟩
          obtain ⟨rfl, rfl⟩ := hr
          exact Exs.nil <| Exs.nil <| Exs.cons <| Ex.aug (lN (lN (lk.at 1 rfl))) <| Ev.name lS <| Op2.iadd_s cl <| Exs.nil ⟨dr''.length, hlt, _, ln + nl [92] + nl [q], dr'', cur ++ [q], rfl, .cons (lN (lN (lN (lk.at 0 rfl)))) <| .cons lS .nil, hd2, rfl, Nat.le_of_succ_le zk, nl_step hM⟩
  · subst e
    obtain ⟨rfl, rfl⟩ := T.nilInv
    exact Exs.cons <| Ex.ret <| Ev.name (lk.at 1 rfl) ⟨lexOwn a ln [] [], R, rfl, rfl, ln, hN, rfl⟩
end
end Mine

-- N7
namespace Mine
open PySem PySem.Calls PyProof.Rows PySem.W

theorem Fun.mono {prog : Program} {w : World} {b0 : Heap} {z : Bool} {n : Nat} {f : Value} {args : List AV} {own : List (Addr × AO)} {Φ Φ' : AV → List (Addr × AO) → Prop} (F : Fun prog w b0 z n f args own Φ) (k : ∀ r own', Φ r own' → Φ' r own') : Fun prog w b0 z n f args own Φ' :=
  fun A env fr fx K loc g vs X s r p Q E q x => F A env fr fx K loc g vs X s r p Q E (fun a y σ' s' r' f v φ => q a y σ' s' r' f v ⟨φ.1, k _ _ φ.2⟩) x

/-- what is owned, and a cell of the frame, told anew -/
theorem Rep.withCell {c : Cx} {σ : St} {h : Heap} {own' S R : List (Addr × AO)} {cell : Addr} {co : Obj} (r : Rep c σ h) (P1 : own'.Perm ((cell, .raw co) :: S)) (P2 : σ.own.Perm (S ++ R)) (ho : OR h cell (.raw co)) (hf : cell ∈ c.fr) :
    (∀ p ∈ own', OR h p.1 p.2) ∧ (feet own').Nodup ∧ ∀ a ∈ feet own', a ∈ feet σ.own ∨ a ∈ c.fr := by
  have fS : ∀ a ∈ feet S, a ∈ feet σ.own := fun a ha => (feet_perm P2).mem_iff.mpr (by rw [feet_append]; exact List.mem_append_left _ ha)
  have nS : (feet S).Nodup := by
    have := (feet_perm P2).nodup_iff.mp r.feetNodup
    rw [feet_append] at this
    exact (List.nodup_append.mp this).1
  refine ⟨fun p hp => ?_, (feet_perm P1).nodup_iff.mpr (List.nodup_cons.mpr ⟨fun z => (List.nodup_append.mp r.nd).2.2 cell hf cell (List.mem_append_right _ (fS _ z)) rfl, nS⟩), fun a ha => ?_⟩
  · rcases List.mem_cons.mp (P1.mem_iff.mp hp) with rfl | hp
    · exact ho
    · exact r.own p (P2.mem_iff.mpr (List.mem_append_left _ hp))
  · rcases List.mem_cons.mp ((feet_perm P1).mem_iff.mp ha) with rfl | ha
    · exact .inr hf
    · exact .inl (fS a ha)
theorem perm8 {α : Type} (pb x f pb2 p s t c' : α) : [pb, x, f, pb2, p, s, t, c'].Perm ([f, c', s, x, pb, p, t] ++ [pb2]) :=
  (List.perm_middle (l₁ := [pb, x])).trans <| .cons f <| (List.perm_middle (l₁ := [pb, x, pb2, p, s, t]) (l₂ := [])).trans <| .cons c' <| (List.perm_middle (l₁ := [pb, x, pb2, p])).trans <| .cons s <|
    (List.perm_middle (l₁ := [pb])).trans <| .cons x <| .cons pb <| (List.perm_middle (l₁ := [pb2])).trans <| .cons p <| List.perm_middle (l₁ := [pb2])

section
variable {prog : Program} {w : World} {b0 : Heap} {mg mb : Str → Option Value}

/-- what stands where _law_lexer ends -/
def lexEnd (prog : Program) (w : World) (b0 : Heap) (signs : List Nat) (c : Cx) (fl : Fl) (σ : St) : Prop :=
  ∃ (x dx pb p dp pb2 f c' s : Addr) (fo oc to : Obj), fl = .ret (.ref x) ∧ (∃ ps, to = tabObj ps) ∧
    σ.own = [(pb, .list []), (x, .inst 80 dx [("lineno", .int 1), ("instream", .ref p), ("whitespace", .str WS), ("pushback", .ref pb)]), (f, .raw fo), (pb2, .list []),
      (p, .inst 80 dp [("lineno", .int 1), ("instream", .ref s), ("whitespace", .str WS), ("pushback", .ref pb2), ("read", .ref f)]), (s, .list (signs.map fun k => .str [k]))] ++ [(122, .raw to)] ++ [(c', .raw oc)] ∧
    σ.loc.lookup "signs" = some (.ref s) ∧ c.kind "signs" = some .cell ∧ (∃ fd, fo.data = .func fd) ∧ (∀ cell, c.env.cells.lookup (Str.ofString "signs") = some cell → cell ∈ c.fr ∧ ∀ co : Obj, co.data = .cell (some (.ref s)) →
      ∀ (z : Bool) (sg : List Nat), sg.length ≤ 1000000 → Fun prog w b0 z 1 (.ref f) [.int 1] [(f, .raw fo), (c', .raw oc), (cell, .raw co), (s, .list (sg.map fun k => .str [k]))]
        (fun r own => r = .str (sg.take 1) ∧ own = [(f, .raw fo), (c', .raw oc), (cell, .raw co), (s, .list ((sg.drop 1).map fun k => .str [k]))]))

theorem lexFin {signs : List Nat} (c : Cx) (fl : Fl) (σ : St) (h : Heap) (r : Rep c σ h) (e : lexEnd prog w b0 signs c fl σ) :
    ∃ own', (∃ a ps, LxOk prog w b0 a ∧ retv fl = .ref a.x ∧ own' = lexOwn a 1 [] signs ++ [(122, .raw (tabObj ps))]) ∧ (∀ p ∈ own', OR h p.1 p.2) ∧ (feet own').Nodup ∧ ∀ a ∈ feet own', a ∈ feet σ.own ∨ a ∈ c.fr := by
  obtain ⟨x, dx, pb, p, dp, pb2, f, c', s, fo, oc, to, rfl, ⟨ps, rfl⟩, eo, el, ek, hfd, hL⟩ := e
  obtain ⟨m, _, hl⟩ := r.ns
  rcases hl "signs" _ el with ⟨i, _⟩ | ⟨_, cell, v, hcl, _, _, ⟨co, hco, hcd⟩, va⟩
  · rw [ek] at i; cases i
  cases va.ref'
  obtain ⟨hfr, HF⟩ := hL cell hcl
  have P2 := perm8 (pb, AO.list []) (x, AO.inst 80 dx [("lineno", .int 1), ("instream", .ref p), ("whitespace", .str WS), ("pushback", .ref pb)]) (f, AO.raw fo) (pb2, AO.list [])
    (p, AO.inst 80 dp [("lineno", .int 1), ("instream", .ref s), ("whitespace", .str WS), ("pushback", .ref pb2), ("read", .ref f)]) (s, AO.list (signs.map fun k => .str [k])) (122, AO.raw (tabObj ps)) (c', AO.raw oc)
  exact ⟨lexOwn ⟨x, dx, pb, p, dp, pb2, f, c', cell, s, fo, oc, co⟩ 1 [] signs ++ [(122, .raw (tabObj ps))], ⟨⟨x, dx, pb, p, dp, pb2, f, c', cell, s, fo, oc, co⟩, ps, ⟨hfd, fun z sg hz => HF co hcd z sg hz⟩, rfl, rfl⟩,
    r.withCell (List.perm_middle (l₁ := [_, _])) (by rw [eo]; exact P2) ⟨hco, .of_cell hcd⟩ hfr⟩
end
end Mine

-- N8
namespace Mine
open PySem PySem.Calls PyProof.Rows PySem.W

section
variable {prog : Program} {w : World} {b0 : Heap} {mg mb : Str → Option Value}

theorem kp_cls (p : Params) : keepIn (hd.heap_39 p) (.ref 80) = true := rfl
theorem mk_cls (p : Params) : makesIn (hd.heap_39 p) 80 = true := rfl
theorem in_cls (p : Params) : findIn (hd.heap_39 p) (.ref 80) "__init__" = some (some (.ref 56)) := rfl
theorem ty_init (p : Params) : typeIn (hd.heap_39 p) (.ref 56) = some (.type "function") := rfl

theorem lawLexer (W : Wd w b0 mg mb) {signs : List Nat} (hz : signs.length ≤ 1000000) :
    Fun prog w b0 true 3 (.ref 127) [.str signs] [(122, .raw (tabObj #[]))] (fun r own => ∃ a ps, LxOk prog w b0 a ∧ r = .ref a.x ∧ own = lexOwn a 1 [] signs ++ [(122, .raw (tabObj ps))]) := by
  refine Fun.introG (Ω := lexEnd prog w b0 signs) (ps := ["text"]) (W.k _ _ rfl) rfl rfl rfl ⟨_, _, _, _, rfl, W.k _ _ rfl, rfl, rfl⟩ W.nl (fun vs h => ?_) rfl (by decide) (by decide) (by decide) (fun A L K g => ?_) (fun c fl σ' h' r e => lexFin c fl σ' h' r e)
  · exact bind1 h (by exact fun _ => rfl)
  · refine Exs.cons <| Ex.assign (hx := Or.inr ⟨rfl, _, rfl, List.mem_cons_of_mem _ (.head _)⟩) <| Ev.callT <| Ev.built W.g (W.noGlob rfl rfl) W.b (W.built rfl) (fun h => VR.mkTy) ⟨rfl, Arg.cons <| Ev.name rfl <| Arg.nil <| Cal.list_s (g.hd rfl) (by omega) fun s => ?_⟩
    refine Exs.cons <| Ex.assign <| Ev.callC W.k (kp_cls _) <| Ev.glob W.g (W.glob rfl) (fun h => VR.mkRef) ⟨rfl, Arg.cons <| Ev.name rfl <| Arg.nil ?_⟩
    refine Cal.make (own := []) (Ψ := fun x own' => ∃ dx pb, own' = [(pb, .list []), (x, .inst 80 dx [("lineno", .int 1), ("instream", .ref s), ("whitespace", .str WS), ("pushback", .ref pb)])]) W.k (mk_cls _) (in_cls _) (ty_init _) g (fun x dx => (pInit W).mono fun r own' h => ⟨h.1, dx, h.2⟩) fun p own' h => ?_
    obtain ⟨dp, pb2, rfl⟩ := h
    refine Exs.cons <| Ex.putAttr ?_
    refine evLambda (cd := 126) (P := 122) rfl rfl rfl W.g rfl W.ch W.bm (by decide) 3 rfl fun f c' oc ctv vs t hoc hov => ?_
    refine Ev.name rfl ⟨p, rfl, fun v => setOwn W.k (sn_read _) 2 rfl ?_⟩
    refine Exs.cons <| Ex.ret <| Ev.callC W.k (kp_cls _) <| Ev.glob W.g (W.glob rfl) (fun h => VR.mkRef) ⟨rfl, Arg.cons <| Ev.name rfl <| Arg.nil ?_⟩
    refine Cal.make (own := []) (Ψ := fun x own' => ∃ dx pb, own' = [(pb, .list []), (x, .inst 80 dx [("lineno", .int 1), ("instream", .ref p), ("whitespace", .str WS), ("pushback", .ref pb)])]) W.k (mk_cls _) (in_cls _) (ty_init _) g (fun x dx => (pInit W).mono fun r own' h => ⟨h.1, dx, h.2⟩) fun x own' h => ?_
    obtain ⟨dx, pb, rfl⟩ := h
    refine ⟨x, dx, pb, p, dp, pb2, f, c', s, _, oc, _, rfl, ⟨_, rfl⟩, rfl, rfl, rfl, ⟨_, rfl⟩, fun cell hc => ?_⟩
    have : cell = L + 1 := (Option.some.inj hc).symm
    subst this
    refine ⟨List.mem_cons_of_mem _ (.head _), fun co hco z sg hsg => ?_⟩
    refine (introL (ps := ["count"]) (args := [.int 1]) (y := "signs") (own := [(s, .list (sg.map fun k => .str [k]))]) (Φ := fun r own => r = .str (sg.take 1) ∧ own = [(s, .list ((sg.drop 1).map fun k => .str [k]))]) hco hoc hov W.nl (fun vs h => ?_) rfl (by decide) (by decide) rfl (by decide) fun A L K g => ?_).mono fun r own' h => ?_
    · exact bind1 h (by exact fun _ => rfl)
    · cases sg with
      | nil => exact Ev.ifExp <| Tst.val <| Ev.name rfl <| Tru.list 0 rfl (by simp) ⟨fun hc => (by cases hc), fun _ => Ev.lit [] rfl ⟨rfl, rfl⟩⟩
      | cons k ks =>
        refine Ev.ifExp <| Tst.val <| Ev.name rfl <| Tru.list 0 rfl (by simp at hsg ⊢; omega) ⟨fun _ => ?_, fun hc => (by cases hc)⟩
        exact Ev.meth F.plainAttrs_list F.slot_list_pop F.type_list_pop <| Ev.name rfl ⟨HasT.list 0 rfl, Arg.cons <| Ev.int <| Arg.nil <| Cal.pop0 0 rfl (by simp at hsg ⊢; omega) ⟨rfl, rfl⟩⟩
    · obtain ⟨o2, rfl, h1, rfl⟩ := h
      exact ⟨h1, rfl⟩
end
end Mine

-- NA
namespace Mine
open PySem PySem.Calls PyProof.Rows PySem.W

theorem escAll_eq (d : List Nat) : (d.map fun k => [92, k]).flatten = escAll d := rfl
theorem escAll_len : ∀ d : List Nat, (escAll d).length = 2 * d.length
  | [] => rfl
  | k :: d => by have := escAll_len d; show (92 :: k :: escAll d).length = _; simp only [List.length_cons]; omega
theorem subst_len (c : Nat) (z : List Nat) (hz : 1 ≤ z.length) : ∀ l : List Nat, (subst c z l).length ≤ l.length * z.length
  | [] => by simp [subst]
  | k :: l => by
    have ih := subst_len c z hz l
    unfold subst at ih ⊢
    rw [List.flatMap_cons, List.length_append, List.length_cons, Nat.add_mul, Nat.one_mul]
    split
    · omega
    · simp only [List.length_cons, List.length_nil]; omega

end Mine

-- NB
namespace Mine
open PySem PySem.Calls PyProof.Rows PySem.W

/-- blanks taken off the front, then off the back -/
def stripL : Nat → List Nat → Option (Nat × List Nat)
  | 0, l => some (0, l)
  | _ + 1, [] => none
  | m + 1, c :: l => if c = 32 then stripL m l else some (m + 1, c :: l)
def stripR : Nat → List Nat → List Nat
  | 0, l => l
  | _ + 1, [] => []
  | m + 1, c :: l => if c = 32 then stripR m l else c :: l
def stripped (m : Nat) (l : List Nat) : Option (List Nat) := (stripL m l).map fun p => (stripR p.1 p.2.reverse).reverse

theorem Pass.weaken {c : Cx} {Y X X' : XP} (h : Pass c Y X) (k : ∀ v σ s, X v σ s → X' v σ s) : Pass c Y X' := fun e σ s E r y x => h e σ s E r y fun e σ' s' r' f p => x e σ' s' r' f (k _ _ _ p)

section
variable {prog : Program} {w : World} {b0 : Heap} {mg mb : Str → Option Value}

theorem stripPadding (W : Wd w b0 mg mb) {l : List Nat} {m : Nat} (hl : l.length ≤ 1000) (hm : m ≤ 1000) :
    FunX prog w b0 true 1 (.ref 42) [.str l, .int m] [] (fun av own => ∃ r, stripped m l = some r ∧ av = .str r ∧ own = []) "IndexError" (fun own => stripped m l = none ∧ own = []) := by
  refine FunX.introG (ps := ["s", "amount"]) (Ω := fun _ fl σ' => ∃ r, stripped m l = some r ∧ retv fl = .str r ∧ σ'.own = []) (W.k _ _ rfl) rfl rfl rfl ⟨_, _, _, _, rfl, W.k _ _ rfl, rfl, rfl⟩ W.nl (fun vs h => ?_) rfl (by decide) (by decide) (by decide) (fun A L K g on => ?_)
    (fun c fl σ' h' r φ => ⟨σ'.own, φ, r.own, r.feetNodup, fun a ha => .inl ha⟩) (by decide)
  · exact bind2 h (by exact fun _ _ => rfl)
  · refine Exs.cons <| Ex.assign <| Ev.int ?_
    refine Exs.cons <| Tri.mono (Φ := fun fl σ => fl = .next ∧ ∃ (lc : List (String × AV)) (n i : Nat), σ = ⟨lc, []⟩ ∧ lc.lookup "s" = some (.str l) ∧ lc.lookup "lpos" = some (.int i) ∧ lc.lookup "amount" = some (.int n) ∧ i ≤ l.length ∧ (n = 0 ∨ ∃ c, l[i]? = some c ∧ c ≠ 32) ∧ stripL m l = some (n, l.drop i))
      (Ex.whileX (Y := XNew "IndexError" fun σ => stripped m l = none ∧ σ.own = []) (fun n σ => ∃ (lc : List (String × AV)) (i : Nat), σ = ⟨lc, []⟩ ∧ lc.lookup "s" = some (.str l) ∧ lc.lookup "lpos" = some (.int i) ∧ lc.lookup "amount" = some (.int n) ∧ i ≤ l.length ∧ stripL m l = stripL n (l.drop i))
        m ⟨_, 0, rfl, rfl, rfl, rfl, Nat.zero_le _, by simp⟩ ((Pass.new on (by decide)).weaken fun _ _ _ => .inr) (fun n σ hI => ?_)) (fun fl σ hS => ?_)
    · obtain ⟨lc, i, rfl, l1, l2, l3, hi, hs⟩ := hI
      refine Tst.bool <| All.and <| Tst.val <| Ev.name l3 <| Tru.int ⟨fun ht => All.and <| Tst.cmp <| Ev.sub <| Ev.name l1 <| Ev.name l2 <| Op2.strItemX (Ψ := fun σ => stripped m l = none ∧ σ.own = []) (g.hd rfl) (by omega) ?_, fun hf => ⟨fun h => (nomatch h), fun _ => ⟨rfl, lc, n, i, rfl, l1, l2, l3, hi, .inl ?_, ?_⟩⟩⟩
      · have hn0 : n ≠ 0 := by simpa using ht
        obtain ⟨k, rfl⟩ := Nat.exists_eq_add_one_of_ne_zero hn0
        cases e : l[i]? with
        | none =>
          have hle : l.length ≤ i := by simpa using e
          refine .inr ⟨⟨hle, fun _ _ _ h => h⟩, ?_, rfl⟩
          unfold stripped
          rw [hs, List.drop_of_length_le hle]; rfl
        | some c =>
          have hlt := (List.getElem?_eq_some_iff.mp e).1
          have hd : l.drop i = c :: l.drop (i + 1) := by rw [List.drop_eq_getElem_cons hlt]; congr 1; exact (List.getElem?_eq_some_iff.mp e).2
          refine .inl ⟨c, rfl, ?_⟩
          refine Ev.lit [32] rfl <| Op2.eq_s <| Tru.bool ⟨fun hc => All.andNil ⟨fun _ => ?_, fun h => (nomatch h)⟩, fun hc => ⟨fun h => (nomatch h), fun _ => ?_⟩⟩
          · have hc : c = 32 := by simpa using hc
            refine Exs.cons <| Ex.aug l2 <| Ev.int <| Op2.iadd <| Exs.cons <| Ex.aug (lN l3) <| Ev.int <| Op2.isub <| Exs.nil ?_
            refine ⟨k, Nat.lt_succ_self _, _, i + 1, rfl, lN (lN l1), ?_, ?_, hlt, ?_⟩
            · exact lN lS
            · rw [show ((k + 1 : Nat) : Int) - 1 = (k : Nat) by omega]; exact lS
            · rw [hs, hd, stripL, if_pos hc]
          · have hc : c ≠ 32 := by simpa using hc
            refine ⟨rfl, lc, k + 1, i, rfl, l1, l2, l3, hi, .inr ⟨c, e, hc⟩, ?_⟩
            rw [hs, hd, stripL, if_neg hc]
      · simpa using hf
      · have : n = 0 := by simpa using hf
        subst this; rw [hs, stripL]
    · obtain ⟨rfl, lc, n, i, rfl, l1, l2, l3, hi, hc, hs⟩ := hS
      have hs' : stripped m l = some (stripR n (l.drop i).reverse).reverse := by unfold stripped; rw [hs]; rfl
      refine Exs.cons <| Ex.assign <| Ev.binop <| Ev.callB <| Ev.built W.g (W.noGlob rfl rfl) W.b (W.built rfl) (fun h => VR.mkBi) ⟨rfl, Arg.cons <| Ev.name l1 <| Arg.nil <| Cal.len_s (by omega) <| Ev.int <| Op2.sub ?_⟩
      refine Exs.cons <| Ex.while (fun n' σ => ∃ (lc : List (String × AV)) (j : Nat), σ = ⟨lc, []⟩ ∧ lc.lookup "s" = some (.str l) ∧ lc.lookup "lpos" = some (.int i) ∧ lc.lookup "amount" = some (.int n') ∧ lc.lookup "rpos" = some (.int ((j : Int) - 1)) ∧ i ≤ j ∧ j ≤ l.length ∧ (n' = 0 ∨ i < j ∧ ∃ c, l[i]? = some c ∧ c ≠ 32) ∧ stripR n (l.drop i).reverse = stripR n' ((l.take j).drop i).reverse)
        n ⟨_, l.length, rfl, lN l1, lN l2, lN l3, lS, hi, Nat.le_refl _, ?_, by rw [List.take_length]⟩ (fun n' σ hI => ?_)
      · rcases hc with h | ⟨c, e, hc⟩
        · exact .inl h
        · exact .inr ⟨(List.getElem?_eq_some_iff.mp e).1, c, e, hc⟩
      · obtain ⟨lc, j, rfl, k1, k2, k3, k4, hij, hj, hc', hr⟩ := hI
        refine Tst.bool <| All.and <| Tst.val <| Ev.name k3 <| Tru.int ⟨fun ht => ?_, fun hf => ⟨fun h => (nomatch h), fun _ => ?_⟩⟩
        · have hn0 : n' ≠ 0 := by simpa using ht
          obtain ⟨k, rfl⟩ := Nat.exists_eq_add_one_of_ne_zero hn0
          rcases hc' with h | ⟨hlt, c, ec, hc32⟩
          · cases h
          obtain ⟨j, rfl⟩ : ∃ j', j = j' + 1 := Nat.exists_eq_add_one_of_ne_zero (by omega)
          obtain ⟨x, ex⟩ : ∃ x, l[j]? = some x := ⟨l[j]'(by omega), List.getElem?_eq_getElem (by omega)⟩
          have hd : ((l.take (j + 1)).drop i).reverse = x :: ((l.take j).drop i).reverse := by
            rw [List.take_succ, ex, List.drop_append_of_le_length (by rw [List.length_take]; omega)]
            simp
          refine All.and <| Tst.cmp <| Ev.sub <| Ev.name k1 <| Ev.name k4 ?_
          rw [show ((j + 1 : Nat) : Int) - 1 = (j : Nat) by omega]
          refine Op2.strItem (by omega) ex <| Ev.lit [32] rfl <| Op2.eq_s <| Tru.bool ⟨fun hc => All.andNil ⟨fun _ => ?_, fun h => (nomatch h)⟩, fun hc => ⟨fun h => (nomatch h), fun _ => ?_⟩⟩
          · have hc : x = 32 := by simpa using hc
            have hne : i ≠ j := fun z => by rw [← z, ec] at ex; cases ex; exact hc32 hc
            refine Exs.cons <| Ex.aug k4 <| Ev.int <| Op2.isub <| Exs.cons <| Ex.aug (lN k3) <| Ev.int <| Op2.isub <| Exs.nil ?_
            refine ⟨k, Nat.lt_succ_self _, _, j, rfl, lN (lN k1), lN (lN k2), ?_, ?_, by omega, by omega, .inr ⟨by omega, c, ec, hc32⟩, ?_⟩
            · rw [show ((k + 1 : Nat) : Int) - 1 = (k : Nat) by omega]; exact lS
            · rw [show ((j + 1 : Nat) : Int) - 1 - 1 = (j : Int) - 1 by omega]; exact lN lS
            · rw [hr, hd, stripR, if_pos hc]
          · have hc : x ≠ 32 := by simpa using hc
            refine Exs.cons <| Ex.ret <| Ev.sslice <| Ev.name k1 <| Part.some <| Ev.name k2 ⟨_, rfl, Part.some <| Ev.binop <| Ev.name k4 <| Ev.int <| Op2.add ⟨_, rfl, ?_, ?_, l, rfl, by omega, ?_⟩⟩
            · show (0 : Int) ≤ i; omega
            · show (0 : Int) ≤ _; omega
            · refine ⟨_, hs', ?_, rfl⟩
              rw [hr, hd, stripR, if_neg hc, ← hd, List.reverse_reverse]
              show AV.str (((l.take (((j + 1 : Nat) : Int) - 1 + 1).toNat).drop (i : Int).toNat)) = _
              congr 3; omega
        · have : n' = 0 := by simpa using hf
          subst this
          refine Exs.cons <| Ex.ret <| Ev.sslice <| Ev.name k1 <| Part.some <| Ev.name k2 ⟨_, rfl, Part.some <| Ev.binop <| Ev.name k4 <| Ev.int <| Op2.add ⟨_, rfl, ?_, ?_, l, rfl, by omega, ?_⟩⟩
          · show (0 : Int) ≤ i; omega
          · show (0 : Int) ≤ _; omega
          · refine ⟨_, hs', ?_, rfl⟩
            rw [hr, stripR, List.reverse_reverse]
            show AV.str (((l.take ((j : Int) - 1 + 1).toNat).drop (i : Int).toNat)) = _
            congr 3; omega
end
end Mine

-- NC
namespace Mine
open PySem PySem.Calls PyProof.Rows PySem.W

def tbl2 : List Nat := [97, 32, 34, 92, 10]
def dig2 (r : Nat) : Nat := tbl2.getD (r % 5) 97
def drawnW : Nat → Nat → List Nat
  | 0, _ => []
  | n + 1, r => drawnW n (r / 5) ++ [dig2 r]
def drawn (p : Nat) : List Nat := drawnW (p % 5) (p / 5)
theorem drawnW_len : ∀ n r, (drawnW n r).length = n
  | 0, _ => rfl
  | n + 1, r => by rw [drawnW, List.length_append, drawnW_len n]; rfl
theorem drawn_len (p : Nat) : (drawn p).length ≤ 4 := by
  have : p % 5 < 5 := Nat.mod_lt _ (by decide)
  rw [drawn, drawnW_len]; omega
theorem dig2_at (r : Nat) : ([.str [97], .str [32], .str [34], .str [92], .str [10]] : List AV)[r % 5]? = some (.str [dig2 r]) := by
  have h : r % 5 < 5 := Nat.mod_lt _ (by decide)
  have : ∀ k, k < 5 → ([.str [97], .str [32], .str [34], .str [92], .str [10]] : List AV)[k]? = some (.str [tbl2.getD k 97]) := by
    intro k hk
    match k, hk with
    | 0, _ | 1, _ | 2, _ | 3, _ | 4, _ => rfl
  exact this _ h

/-- the six-bit digits ahead of the last one -/
def hiD : Nat → Nat → List Nat
  | 0, _ => []
  | f + 1, n => if n < 64 then [] else hiD f (n / 64) ++ [n / 64 % 64]
def octL (n : Nat) : List Nat := (hiD 9 n).map (64 + ·) ++ [n % 64]

def wsTbl : List Nat := [10, 9, 32, 13]
def wsAt (k : Nat) : Nat := wsTbl.getD k 10
def writ (word : List Nat) (place : Nat) : List Nat := if word = [] ∨ place % 2 = 0 then 34 :: (encQ word ++ [34]) else escAll word ++ [wsAt (place / 2 % 4)]
theorem le1 : 1 ≤ 16777216 := by decide
theorem le2 : 2 ≤ 16777216 := by decide
theorem le3 : 3 ≤ 16777216 := by decide
theorem wsAt_at {k : Nat} (h : k < 4) : ([10, 9, 32, 13] : List Nat)[k]? = some (wsAt k) := by
  match k, h with
  | 0, _ | 1, _ | 2, _ | 3, _ => rfl
def natL (l : List Nat) : List AV := l.map fun n => AV.int (n : Nat)

section
variable {prog : Program} {w : World} {b0 : Heap} {mg mb : Str → Option Value}

theorem lawDrawn (W : Wd w b0 mg mb) {p : Nat} :
    Fun prog w b0 true 1 (.ref 91) [.int p] [] (fun r own => r = .str (drawn p) ∧ own = []) := by
  refine Fun.intro (ps := ["page"]) (W.k _ _ rfl) rfl rfl rfl ⟨_, _, _, _, rfl, W.k _ _ rfl, rfl, rfl⟩ W.nl (fun vs h => ?_) rfl (by decide) (by decide) (by decide) (fun A L K g => ?_)
  · exact bind1 h (by exact fun _ => rfl)
  have h5 : p % 5 < 5 := Nat.mod_lt _ (by decide)
  refine Exs.cons <| Ex.assign <| Ev.binop <| Ev.name rfl <| Ev.int <| Op2.fdiv (by decide) (noPy (by decide)) ?_
  rw [show (p : Int).fdiv 5 = ((p / 5 : Nat) : Int) from fdivN p 5]
  refine Exs.cons <| Ex.assign <| Ev.lit [] rfl <| Exs.cons <| Ex.for <| Ev.callT <| Ev.built W.g (W.noGlob rfl rfl) W.b (W.built rfl) (fun h => VR.mkTy) ⟨rfl, Arg.cons <| Ev.binop <| Ev.name rfl <| Ev.int <| Op2.mod (by decide) <| Arg.nil <| Cal.range1 ?_⟩
  rw [show (p : Int).fmod 5 = ((p % 5 : Nat) : Int) from fmodN p 5]
  have hm5 : p % 5 < 5 := Nat.mod_lt _ (by decide)
  obtain ⟨D, hD⟩ : ∃ D, D = drawn p := ⟨_, rfl⟩
  rw [← hD]
  replace hD : drawnW (p % 5) (p / 5) = D := hD.symm
  generalize p / 5 = p5 at hD ⊢
  generalize p % 5 = m at hm5 hD ⊢
  refine ⟨_, fun i σ => ∃ (r : Nat) (cur : List Nat), σ.own = [] ∧ Lk σ.loc [("rest", .int r), ("word", .str cur)] ∧ i ≤ m ∧ drawnW (m - i) r ++ cur = D ∧ cur.length = i,
    Itr.range (g.hd rfl) (by decide) (by decide) (by omega) (by omega), ⟨p5, [], rfl, .cons rfl <| .cons rfl .nil, Nat.zero_le _, (List.append_nil _).trans hD, rfl⟩, fun i x σ' hx hI => ?_, fun σ' hI => ?_⟩
  · obtain ⟨lc, own⟩ := σ'
    obtain ⟨r, cur, rfl, lk, hi, hc, hl⟩ := hI
    have hlt : i < m := by
      have := (List.getElem?_eq_some_iff.mp hx).1
      rw [List.length_map, List.length_range] at this
      omega
    refine Asg.name <| Exs.cons <| Ex.assign <| Ev.binop <| Ev.sub <| Ev.tuple <| Arg.cons <| Ev.lit [97] rfl <| Arg.cons <| Ev.lit [32] rfl <| Arg.cons <| Ev.lit [34] rfl <| Arg.cons <| Ev.lit [92] rfl <| Arg.cons <| Ev.lit [10] rfl <| Arg.nil ⟨by decide, Ev.binop <| Ev.name (lkN (lk.at 0 rfl)) <| Ev.int <| Op2.mod (by decide) ?_⟩
    rw [show (r : Int).fmod 5 = ((r % 5 : Nat) : Int) from fmodN r 5]
    have hr : r % 5 < 5 := Nat.mod_lt _ (by decide)
    have hr5 : ((r % 5 : Nat) : Int) < 2 ^ 62 := Int.lt_trans (Int.ofNat_lt.mpr hr) (by decide)
    refine Op2.tupItem (Int.natCast_nonneg _) hr5 (dig2_at r) <| Ev.name (lkN (lk.at 1 rfl)) <| Op2.add_s (by rw [hl]; exact Nat.le_trans (Nat.add_le_add_left (Nat.le_of_lt (Nat.lt_trans hlt hm5)) 1) (by decide)) <| Exs.cons <| Ex.aug (lkN (lkN (lk.at 0 rfl))) <| Ev.int <| Op2.ifdiv (by decide) (noPy (by decide)) <| Exs.nil ?_
    rw [show (r : Int).fdiv 5 = ((r / 5 : Nat) : Int) from fdivN r 5]
    refine ⟨r / 5, dig2 r :: cur, rfl, .cons lkS <| .cons (lkN lkS) .nil, hlt, ?_, by rw [List.length_cons, hl]⟩
    rw [← hc, show m - i = (m - (i + 1)) + 1 by omega, drawnW, List.append_assoc]; rfl
  · obtain ⟨lc, own⟩ := σ'
    obtain ⟨r, cur, rfl, lk, hi, hc, hl⟩ := hI
    refine Exs.cons <| Ex.ret <| Ev.name (lk.at 1 rfl) ⟨?_, rfl⟩
    rw [List.length_map, List.length_range] at hc
    rw [show m - ((m : Nat) - (0 : Int)).toNat = 0 by omega] at hc
    rw [← hc]; rfl

theorem lawOctets (W : Wd w b0 mg mb) {N : Nat} (hN : N < 64 ^ 9) :
    Fun prog w b0 true 1 (.ref 110) [.int N] [] (fun r own => ∃ a, r = .ref a ∧ own = [(a, .list (natL (octL N)))]) := by
  refine Fun.introP (ps := ["number"]) (W.k _ _ rfl) rfl rfl rfl ⟨_, _, _, _, rfl, W.k _ _ rfl, rfl, rfl⟩ W.nl (fun vs h => ?_) rfl (by decide) (by decide) (by decide) (fun A L K g => ?_)
  · exact bind1 h (by exact fun _ => rfl)
  refine Exs.cons <| Ex.assign <| Ev.list <| Arg.cons <| Ev.binop <| Ev.name rfl <| Ev.int <| Op2.mod (by decide) <| Arg.nil ⟨le1, fun a => ?_⟩
  rw [show (N : Int).fmod 64 = ((N % 64 : Nat) : Int) from fmodN N 64]
  refine Exs.cons <| Ex.while (fun n σ => ∃ (m : Nat) (acc : List Nat), σ.own = [(a, .list (natL acc))] ∧ Lk σ.loc [("number", .int m), ("octets", .ref a)] ∧ m < 64 ^ n ∧ (hiD n m).map (64 + ·) ++ acc = octL N ∧ acc.length ≤ 100 - n ∧ n ≤ 9)
    9 ⟨N, [N % 64], rfl, .cons rfl <| .cons rfl .nil, hN, rfl, (by decide : 1 ≤ 91), by decide⟩ (fun n σ hI => ?_)
  obtain ⟨lc, own⟩ := σ
  obtain ⟨m, acc, rfl, lk, hm, hc, hl, hn⟩ := hI
  refine Tst.cmp <| Ev.name (lk.at 0 rfl) <| Ev.int <| Op2.ge <| Tru.bool ⟨fun ht => ?_, fun hf => ?_⟩
  · have h64 : 64 ≤ m := by have := of_decide_eq_true ht; omega
    cases n with
    | zero => rw [Nat.pow_zero] at hm; omega
    | succ n =>
      rw [hiD, if_neg (by omega)] at hc
      refine Exs.cons <| Ex.aug (lk.at 0 rfl) <| Ev.int <| Op2.ifdiv (by decide) (noPy (by decide)) ?_
      rw [show (m : Int).fdiv 64 = ((m / 64 : Nat) : Int) from fdivN m 64]
      refine Exs.cons <| Ex.expr <| Ev.meth F.plainAttrs_list F.slot_list_insert F.type_list_insert <| Ev.name (lkN (lk.at 1 rfl)) ⟨HasT.list 0 rfl, Arg.cons <| Ev.int <| Arg.cons <| Ev.binop <| Ev.int <| Ev.binop <| Ev.name lkS <| Ev.int <| Op2.mod (by decide) ?_⟩
      rw [show ((m / 64 : Nat) : Int).fmod 64 = ((m / 64 % 64 : Nat) : Int) from fmodN (m / 64) 64]
      refine Op2.add <| Arg.nil <| Cal.insert (k := 0) 0 rfl (Nat.zero_le _) (by rw [natL, List.length_map]; omega) <| Exs.nil ⟨n, Nat.lt_succ_self _, m / 64, (64 + m / 64 % 64) :: acc, ?_, .cons lkS <| .cons (lkN (lk.at 1 rfl)) .nil, ?_, ?_, ?_, Nat.le_of_succ_le hn⟩
      · show [(a, AO.list (AV.int (64 + ((m / 64 % 64 : Nat) : Int)) :: natL acc))] = _
        rw [show (64 + ((m / 64 % 64 : Nat) : Int)) = ((64 + m / 64 % 64 : Nat) : Int) by omega]; rfl
      · rw [Nat.pow_succ] at hm; omega
      · rw [← hc, List.map_append, List.append_assoc]; rfl
      · rw [List.length_cons]; omega
  · have h64 : m < 64 := by have := of_decide_eq_false hf; omega
    have hh : hiD n m = [] := by
      cases n with
      | zero => rfl
      | succ n => rw [hiD, if_pos h64]
    rw [hh] at hc
    have hc : acc = octL N := hc
    subst hc
    exact Exs.cons <| Ex.ret <| Ev.name (lk.at 1 rfl) ⟨[(a, .list (natL (octL N)))], [], List.Perm.refl _, a, rfl, rfl⟩

set_option maxHeartbeats 2000000 in
theorem lawWritten (W : Wd w b0 mg mb) {word : List Nat} {place : Nat} (hw : word.length ≤ 1000) :
    Fun prog w b0 true 1 (.ref 115) [.str word, .int place] [] (fun r own => r = .str (writ word place) ∧ own = []) := by
  have z1 := subst_len 92 [92, 92] (by decide) word
  have z2 := subst_len 34 [92, 34] (by decide) (subst 92 [92, 92] word)
  simp only [List.length_cons, List.length_nil] at z1 z2
  have z3 := escAll_len word
  have b1 : word.length + (word.length + 1) * 2 ≤ 16777216 := by omega
  have b2 : (subst 92 [92, 92] word).length + ((subst 92 [92, 92] word).length + 1) * 2 ≤ 16777216 := by omega
  have b3 : 1 + (encQ word).length ≤ 16777216 := by unfold encQ; omega
  have b4 : (34 :: encQ word).length + 1 ≤ 16777216 := by rw [List.length_cons]; unfold encQ; omega
  have b5 : (escAll word).length + 1 ≤ 16777216 := by omega
  have hq : (place / 2 % 4) < 4 := Nat.mod_lt _ (by decide)
  refine Fun.introD (ps := ["word", "place"]) (W.k _ _ rfl) rfl rfl rfl ⟨_, _, _, _, rfl, W.k _ _ rfl, rfl, rfl⟩ W.nl (fun vs h => ?_) rfl (by decide) (by decide) (by decide) (fun A L K g => ?_)
  · exact bind2 h (by exact fun _ _ => rfl)
  refine Exs.cons <| Ex.iff <| Tri.mono (Φ := fun b σ => b = decide (word = [] ∨ place % 2 = 0) ∧ σ = ⟨[("word", .str word), ("place", .int place)], []⟩) (Tst.bool <| All.or <| Tst.cmp <| Ev.name rfl <| Ev.lit [] rfl <| Op2.eq_s <| Tru.bool ⟨fun h => ⟨?t1, rfl⟩, fun h => All.or <| Tst.cmp <| Ev.binop <| Ev.name rfl <| Ev.int <| Op2.mod (by decide) <| Ev.int <| Op2.eq <| Tru.bool ⟨fun h2 => ⟨?t2, rfl⟩, fun h2 => All.orNil ⟨?t3, rfl⟩⟩⟩) (fun b σ hb => ?_)
  case t1 => exact (decide_eq_true (.inl (of_decide_eq_true h))).symm
  case t2 =>
    rw [show (place : Int).fmod 2 = ((place % 2 : Nat) : Int) from fmodN place 2] at h2
    exact (decide_eq_true (.inr (by have := of_decide_eq_true h2; omega))).symm
  case t3 =>
    rw [show (place : Int).fmod 2 = ((place % 2 : Nat) : Int) from fmodN place 2] at h2
    refine (decide_eq_false fun z => ?_).symm
    rcases z with z | z
    · exact of_decide_eq_false h z
    · rw [z] at h2; cases h2
  obtain ⟨rfl, rfl⟩ := hb
  refine ⟨fun h => ?_, fun h => Exs.nil ?_⟩
  · have h := of_decide_eq_true h
    refine Exs.cons <| Ex.ret <| Ev.binop <| Ev.binop <| Ev.lit [34] rfl <| Ev.replace (y := 34) (z := [92, 34]) rfl rfl (by decide) <| Ev.replace (y := 92) (z := [92, 92]) rfl rfl (by decide) <| Ev.name rfl ⟨_, rfl, b1, _, rfl, b2, Op2.add_s b3 <| Ev.lit [34] rfl <| Op2.add_s b4 ⟨[], [], rfl, ?_, rfl⟩⟩
    show AV.str _ = AV.str _
    rw [writ, if_pos h]; rfl
  · have h := of_decide_eq_false h
    refine Exs.cons <| Ex.ret <| Ev.binop <| Ev.meth F.plainAttrs_str F.slot_str_join F.type_str_join <| Ev.lit [] rfl ⟨HasT.str, Arg.cons ?_⟩
    refine evComp0 (cl := []) (cells := []) g (by exact .nil rfl rfl (by decide) (by decide) rfl) (Ev.name rfl ⟨_, [], fun c i acc σ => acc = (word.take i).map (fun k => AV.str [92, k]) ∧ σ.own = [], Itr.str (g.hd rfl), by rw [Nat.mul_one, List.length_map]; omega, fun C x av h => (nomatch h), fun C => ⟨⟨rfl, rfl⟩, fun i x acc σ' hx hI => ?_, fun acc σ' hI d => ?_⟩⟩)
    · obtain ⟨rfl, h0⟩ := hI
      rw [List.getElem?_map] at hx
      obtain ⟨k, hk, rfl⟩ := Option.map_eq_some_iff.mp hx
      refine Asg.name <| Ifs.nil ⟨fun _ => Ev.binop <| Ev.lit [92] rfl <| Ev.name lkS <| Op2.add_s (by decide : 2 ≤ 16777216) ⟨?_, h0⟩, fun hf => (nomatch hf)⟩
      rw [List.take_add_one, hk]; simp
    · obtain ⟨lc, own⟩ := σ'
      obtain ⟨rfl, rfl⟩ := hI
      rw [List.length_map, List.take_length]
      refine Arg.nil <| Cal.join (ls := word.map fun k => [92, k]) 0 (by simp) (by rw [escAll_eq]; omega) ?_
      rw [escAll_eq]
      refine Ev.sub <| Ev.lit [10, 9, 32, 13] rfl <| Ev.binop <| Ev.binop <| Ev.name rfl <| Ev.int <| Op2.fdiv (by decide) (noPy (by decide)) ?_
      rw [show (place : Int).fdiv 2 = ((place / 2 : Nat) : Int) from fdivN place 2]
      refine Ev.int <| Op2.mod (by decide) ?_
      rw [show ((place / 2 : Nat) : Int).fmod 4 = ((place / 2 % 4 : Nat) : Int) from fmodN (place / 2) 4]
      refine Op2.strItem (by omega) (wsAt_at hq) <| Op2.add_s b5 ⟨[], _, rfl, ?_, rfl⟩
      show AV.str _ = AV.str _
      rw [writ, if_neg h]
end
end Mine

-- ND
namespace Mine
open PySem PySem.Calls PyProof.Rows PySem.W

/-- the signs at the front that two words have in common -/
def sameAt (a b : List Nat) (k : Nat) : Bool := decide (k < b.length) && decide (a.take (k + 1) = b.take (k + 1))
def commonN (a b : List Nat) : Nat := ((List.range a.length).filter (sameAt a b)).length

theorem sameAt_t {a b : List Nat} {i : Nat} {t : Bool} (h : decide ((i : Int) < (b.length : Int)) = true) (h2 : decide (a.take ((i : Int) + 1).toNat = b.take ((i : Int) + 1).toNat) = t) : t = sameAt a b i := by
  rw [show ((i : Int) + 1).toNat = i + 1 by omega] at h2
  unfold sameAt
  rw [decide_eq_true (show i < b.length by have := of_decide_eq_true h; omega), Bool.true_and, h2]
theorem sameAt_f {a b : List Nat} {i : Nat} (h : decide ((i : Int) < (b.length : Int)) = false) : false = sameAt a b i := by
  unfold sameAt
  rw [decide_eq_false (show ¬ i < b.length by have := of_decide_eq_false h; omega), Bool.false_and]
inductive FvAll (P : String → AV → Prop) : List (String × AV) → Prop
  | nil : FvAll P []
  | cons {x : String} {v : AV} {l : List (String × AV)} : P x v → FvAll P l → FvAll P ((x, v) :: l)
theorem fvAll {P : String → AV → Prop} : ∀ {l : List (String × AV)}, FvAll P l → ∀ x av, l.lookup x = some av → P x av
  | [], _, x, av, h => by cases h
  | (y, v) :: l, .cons q1 q2, x, av, h => by
    rw [List.lookup_cons] at h
    by_cases hy : x = y
    · subst hy
      simp only [beq_self_eq_true, Option.some.injEq] at h
      subst h; exact q1
    · rw [show (x == y) = false from beq_eq_false_iff_ne.mpr hy] at h
      exact fvAll q2 x av h
theorem rangeAt {n : Int} {i : Nat} {x : AV} (h : ((List.range (n - 0).toNat).map fun (i : Nat) => AV.int (0 + i))[i]? = some x) : (i : Int) < n ∧ x = .int (i : Nat) := by
  rw [List.getElem?_map] at h
  obtain ⟨k, hk, rfl⟩ := Option.map_eq_some_iff.mp h
  obtain ⟨h1, h2⟩ := List.getElem?_eq_some_iff.mp hk
  rw [List.getElem_range] at h2
  rw [List.length_range] at h1
  subst h2
  exact ⟨by omega, by rw [Int.zero_add]⟩

section
variable {prog : Program} {w : World} {b0 : Heap} {mg mb : Str → Option Value}

set_option maxHeartbeats 2000000 in
theorem lawCommon (W : Wd w b0 mg mb) {a b : List Nat} (ha : a.length ≤ 1000) (hb : b.length ≤ 1000) :
    Fun prog w b0 true 1 (.ref 103) [.str a, .str b] [] (fun r own => r = .int (commonN a b) ∧ own = []) := by
  refine Fun.introD (ps := ["one", "other"]) (W.k _ _ rfl) rfl rfl rfl ⟨_, _, _, _, rfl, W.k _ _ rfl, rfl, rfl⟩ W.nl (fun vs h => ?_) rfl (by decide) (by decide) (by decide) (fun A L K g => ?_)
  · exact bind2 h (by exact fun _ _ => rfl)
  refine Exs.cons <| Ex.ret <| Ev.callB <| Ev.built W.g (W.noGlob rfl rfl) W.b (W.built rfl) (fun h => VR.mkBi) ⟨rfl, Arg.cons <| evComp0 (cl := [(Str.ofString "other", L + 1 + 1), (Str.ofString "one", L + 1)]) (cells := [L + 1 + 1, L + 1]) g (by exact ⟨rfl, rfl, fun _ _ h => h, fun x c h => List.mem_append_left _ (show c ∈ List.map Prod.snd [(Str.ofString "other", L + 1 + 1), (Str.ofString "one", L + 1)] from List.mem_map_of_mem (f := Prod.snd) (PySem.mem_of_lookup h)), by decide, by decide, rfl⟩) (Ev.callT <| Ev.built W.g (W.noGlob rfl rfl) W.b (W.built rfl) (fun h => VR.mkTy) ⟨rfl, Arg.cons <| Ev.callB <| Ev.built W.g (W.noGlob rfl rfl) W.b (W.built rfl) (fun h => VR.mkBi) ⟨rfl, Arg.cons <| Ev.name rfl <| Arg.nil <| Cal.len_s (by omega) <| Arg.nil <| Cal.range1 ?_⟩⟩)⟩
  refine ⟨_, [("one", .str a), ("other", .str b)], fun c i acc σ => acc = ((List.range i).filter (sameAt a b)).map (fun k => AV.int (k : Nat)) ∧ σ.own = [] ∧ Lk σ.loc [("one", .str a), ("other", .str b)], Itr.range (g.hd rfl) (by decide) (by decide) (by omega) (by omega), by rw [Nat.mul_one, List.length_map, List.length_range]; omega,
    fun C => fvAll (.cons ⟨rfl, .inl rfl, ⟨_, rfl⟩, .inl rfl⟩ <| .cons ⟨rfl, .inl rfl, ⟨_, rfl⟩, .inl rfl⟩ .nil), fun C => ⟨⟨rfl, rfl, .cons rfl <| .cons rfl .nil⟩, fun i x acc σ' hx hI => ?_, fun acc σ' hI d => ?_⟩⟩
  · obtain ⟨lc, own⟩ := σ'
    obtain ⟨rfl, rfl, lk⟩ := hI
    obtain ⟨hi, rfl⟩ := rangeAt hx
    have hs : sameAt a b i = (decide (i < b.length) && decide (a.take (i + 1) = b.take (i + 1))) := rfl
    refine Asg.name <| Ifs.one <| Tri.mono (Φ := fun t σ => t = sameAt a b i ∧ σ = St.set ⟨lc, []⟩ "k" (.int (i : Nat))) (Tst.bool <| All.and <| Tst.cmp <| Ev.name lkS <| Ev.callB <| Ev.built W.g (W.noGlob rfl rfl) W.b (W.built rfl) (fun h => VR.mkBi) ⟨rfl, Arg.cons <| Ev.name (lkN (lk.at 1 rfl)) <| Arg.nil <| Cal.len_s (by omega) <| Op2.lt <| Tru.bool ⟨fun h => All.and <| Tst.cmp <| Ev.sslice <| Ev.name (lkN (lk.at 0 rfl)) <| Part.none <| Part.some <| Ev.binop <| Ev.name lkS <| Ev.int <| Op2.add ⟨_, rfl, trivial, ?p1, a, rfl, by omega, Ev.sslice <| Ev.name (lkN (lk.at 1 rfl)) <| Part.none <| Part.some <| Ev.binop <| Ev.name lkS <| Ev.int <| Op2.add ⟨_, rfl, trivial, ?p2, b, rfl, by omega, Op2.eq_s <| Tru.bool ⟨fun h2 => All.andNil ⟨?t1, rfl⟩, fun h2 => ⟨?t2, rfl⟩⟩⟩⟩, fun h => ⟨?t3, rfl⟩⟩⟩) (fun t σ ht => ?_)
    case p1 => show (0 : Int) ≤ _; omega
    case p2 => show (0 : Int) ≤ _; omega
    case t1 => exact sameAt_t h h2
    case t2 => exact sameAt_t h h2
    case t3 => exact sameAt_f h
    clear hs
    obtain ⟨rfl, rfl⟩ := ht
    refine ⟨fun ht => Ev.name lkS ⟨?_, rfl, .cons (lkN (lk.at 0 rfl)) <| .cons (lkN (lk.at 1 rfl)) .nil⟩, fun hf => ⟨?_, rfl, .cons (lkN (lk.at 0 rfl)) <| .cons (lkN (lk.at 1 rfl)) .nil⟩⟩
    · rw [List.range_succ, List.filter_append, List.filter_cons, if_pos ht, List.map_append]; rfl
    · rw [List.range_succ, List.filter_append, List.filter_cons, if_neg (by rw [hf]; decide), List.map_append]; simp
  · obtain ⟨lc, own⟩ := σ'
    obtain ⟨rfl, rfl, lk⟩ := hI
    refine Arg.nil <| Cal.len_l 0 rfl ?_ ⟨[], _, rfl, ?_, rfl⟩
    · rw [List.length_map]
      exact Nat.lt_of_le_of_lt (List.length_filter_le ..) (by rw [List.length_range, List.length_map, List.length_range]; omega)
    · show AV.int _ = AV.int _
      rw [List.length_map, List.length_map, List.length_range]
      unfold commonN
      congr 4
end
end Mine

-- NE
namespace Mine
open PySem PySem.Calls PyProof.Rows PySem.W

theorem ordL_lt {a b : List Nat} : ordL a b < 0 ↔ a < b := by
  unfold ordL
  constructor
  · intro h
    by_cases hc : a < b
    · exact hc
    · rw [decide_eq_false hc] at h
      exfalso
      have : 0 ≤ b2i (decide (b < a)) := by unfold b2i; split <;> omega
      have e : b2i false = 0 := rfl
      omega
  · intro h
    rw [decide_eq_true h, decide_eq_false (List.lt_asymm h)]; decide
theorem ordL_eq {a b : List Nat} : ordL a b = 0 ↔ a = b := by
  constructor
  · intro h
    by_cases h1 : a < b
    · have := ordL_lt.mpr h1; omega
    · by_cases h2 : b < a
      · have := ordL_lt.mpr h2
        have e : ordL b a = - ordL a b := by unfold ordL; omega
        omega
      · exact List.le_antisymm (show a ≤ b from h2) (show b ≤ a from h1)
  · rintro rfl
    unfold ordL; omega

abbrev Entry := List Nat × Nat
def entAV (e : Entry) : AV := .tup [.str e.1, .int e.2]
/-- how many are less -/
def lead (w : List Nat) : List Entry → Nat
  | [] => 0
  | e :: r => if e.1 < w then lead w r + 1 else 0
def putShelf (sh : List Entry) (p : Nat) : List Entry :=
  if (∃ e, sh[lead (drawn p) sh]? = some e ∧ e.1 = drawn p) then sh else sh.take (lead (drawn p) sh) ++ (drawn p, p) :: sh.drop (lead (drawn p) sh)
def shelfOf (pages : List Nat) : List Entry := pages.foldl putShelf []
theorem lead_le (w : List Nat) : ∀ sh : List Entry, lead w sh ≤ sh.length
  | [] => Nat.le_refl _
  | e :: r => by
    rw [lead]; split
    · exact Nat.succ_le_succ (lead_le w r)
    · exact Nat.zero_le _
theorem lead_lt (w : List Nat) : ∀ (sh : List Entry) (i : Nat) (e : Entry), sh[i]? = some e → i ≤ lead w sh → (e.1 < w ↔ i < lead w sh)
  | [], i, e, h, _ => by cases h
  | x :: r, 0, e, h, _ => by
    cases h
    rw [lead]
    by_cases hx : x.1 < w
    · rw [if_pos hx]; exact ⟨fun _ => Nat.succ_pos _, fun _ => hx⟩
    · rw [if_neg hx]; exact ⟨fun z => absurd z hx, fun z => absurd z (Nat.lt_irrefl _)⟩
  | x :: r, i + 1, e, h, hi => by
    rw [lead] at hi ⊢
    by_cases hx : x.1 < w
    · rw [if_pos hx] at hi ⊢
      have := lead_lt w r i e h (Nat.le_of_succ_le_succ hi)
      exact this.trans ⟨Nat.succ_lt_succ, Nat.lt_of_succ_lt_succ⟩
    · rw [if_neg hx] at hi; exact absurd hi (Nat.not_succ_le_zero _)
theorem putShelf_len (sh : List Entry) (p : Nat) : (putShelf sh p).length ≤ sh.length + 1 := by
  unfold putShelf
  split
  · exact Nat.le_succ _
  · rw [List.length_append, List.length_cons, List.length_take, List.length_drop]; omega
theorem foldShelf_len : ∀ (pages : List Nat) (sh : List Entry), (pages.foldl putShelf sh).length ≤ sh.length + pages.length
  | [], sh => Nat.le_refl _
  | p :: ps, sh => by
    have := foldShelf_len ps (putShelf sh p)
    have := putShelf_len sh p
    rw [List.foldl_cons, List.length_cons]; omega
theorem shelfOf_len (pages : List Nat) : (shelfOf pages).length ≤ pages.length := by
  have := foldShelf_len pages []
  simpa [shelfOf] using this
theorem shelfOf_take {pages : List Nat} {i p : Nat} (h : pages[i]? = some p) : shelfOf (pages.take (i + 1)) = putShelf (shelfOf (pages.take i)) p := by
  unfold shelfOf
  rw [List.take_add_one, h, List.foldl_append]; rfl

section
variable {prog : Program} {w : World} {b0 : Heap} {mg mb : Str → Option Value}

set_option maxHeartbeats 2000000 in
theorem lawShelf (W : Wd w b0 mg mb) {pg : Addr} {pages : List Nat} (hz : pages.length ≤ 1000) :
    Fun prog w b0 true 2 (.ref 98) [.ref pg] [(pg, .list (natL pages))] (fun r own => ∃ sh, r = .ref sh ∧ own = [(sh, .list ((shelfOf pages).map entAV)), (pg, .list (natL pages))]) := by
  refine Fun.introD (ps := ["pages"]) (W.k _ _ rfl) rfl rfl rfl ⟨_, _, _, _, rfl, W.k _ _ rfl, rfl, rfl⟩ W.nl (fun vs h => ?_) rfl (by decide) (by decide) (by decide) (fun A L K g => ?_)
  · exact bind1 h (by exact fun _ => rfl)
  refine Exs.cons <| Ex.assign <| Ev.list <| Arg.nil ⟨Nat.zero_le _, fun sh => ?_⟩
  refine Exs.cons <| Tri.frame (own := [(sh, .list [])]) (R := [(pg, .list (natL pages))]) <| Tri.pre (Ex.forH [(pg, .list (natL pages))] <| Ev.name rfl ⟨natL pages, fun i σ => σ.own = [(sh, .list ((shelfOf (pages.take i)).map entAV))] ∧ Lk σ.loc [("shelf", .ref sh)], Itr.list (g.hd rfl) (.head _), ⟨rfl, .cons rfl .nil⟩, fun i x σ' hx hI => ?_, fun σ' hI => ?_⟩) (fun h p => p.2)
  · obtain ⟨lc, own⟩ := σ'
    obtain ⟨rfl, lk⟩ := hI
    rw [natL, List.getElem?_map] at hx
    obtain ⟨p, hp, rfl⟩ := Option.map_eq_some_iff.mp hx
    have hlen : (shelfOf (pages.take i)).length ≤ 1000 := by
      have := shelfOf_len (pages.take i)
      rw [List.length_take] at this; omega
    have hS := shelfOf_take hp
    obtain ⟨S, eS⟩ : ∃ S, S = shelfOf (pages.take i) := ⟨_, rfl⟩
    rw [← eS] at hlen hS ⊢
    clear eS
    refine Asg.name <| Exs.cons <| Ex.assign <| Ev.callFn (W.fn (a := 91) rfl) <| Ev.glob W.g (W.glob rfl) (fun h => VR.mkRef) ⟨rfl, Arg.cons <| Ev.name lkS <| Arg.nil <| (lawDrawn W).use (own := []) (R := [(sh, .list (S.map entAV))]) g fun av own' h => ?_⟩
    obtain ⟨rfl, rfl⟩ := h
    obtain ⟨word, hw⟩ : ∃ w, w = drawn p := ⟨_, rfl⟩
    rw [← hw]
    refine Exs.step [(sh, .list (S.map entAV))] [("shelf", .ref sh), ("page", .int p), ("word", .str word), ("place", .int (0 : Nat))] (Ex.assign <| Ev.int ⟨rfl, rfl, .cons (lkN (lkN (lkN (lk.at 0 rfl)))) <| .cons (lkN (lkN lkS)) <| .cons (lkN lkS) <| .cons lkS .nil⟩) (fun lc l1 => ?_)
    clear lk
    have hK : lead word S ≤ S.length := lead_le word S
    refine Exs.step [(sh, .list (S.map entAV))] [("shelf", .ref sh), ("page", .int p), ("word", .str word), ("place", .int (lead word S : Nat))]
      (Ex.while (fun n σ => ∃ k : Nat, k + n = lead word S ∧ σ.own = [(sh, .list (S.map entAV))] ∧ Lk σ.loc [("shelf", .ref sh), ("page", .int p), ("word", .str word), ("place", .int (k : Nat))]) (lead word S) ⟨0, Nat.zero_add _, rfl, l1⟩ (fun n σ hI => ?_)) (fun lc l2 => ?_)
    · clear l1
      obtain ⟨lc, own⟩ := σ
      obtain ⟨k, hk, rfl, lk⟩ := hI
      have hkS : k ≤ S.length := by omega
      refine Tri.mono (Φ := fun b σ => b = decide (k < lead word S) ∧ σ = ⟨lc, [(sh, .list (S.map entAV))]⟩) (Tst.bool <| All.and <| Tst.cmp <| Ev.name (lk.at 3 rfl) <| Ev.callB <| Ev.built W.g (W.noGlob rfl rfl) W.b (W.built rfl) (fun h => VR.mkBi) ⟨rfl, Arg.cons <| Ev.name (lk.at 0 rfl) <| Arg.nil <| Cal.len_l 0 rfl (by rw [List.length_map]; omega) <| Op2.lt <| Tru.bool ⟨fun h => ?_, fun h => ⟨?t1, rfl⟩⟩⟩) (fun b σ hb => ?_)
      case t1 =>
        rw [List.length_map] at h
        exact (decide_eq_false (by have := of_decide_eq_false h; omega)).symm
      · rw [List.length_map] at h
        have hlt : k < S.length := by have := of_decide_eq_true h; omega
        have he : S[k]? = some S[k] := List.getElem?_eq_getElem hlt
        have hl := lead_lt word S k S[k] he (by omega)
        refine All.and <| Tst.cmp <| Ev.callFn (W.fn (a := 35) rfl) <| Ev.glob W.g (W.glob rfl) (fun h => VR.mkRef) ⟨rfl, Arg.cons <| Ev.sub <| Ev.sub <| Ev.name (lk.at 0 rfl) <| Ev.name (lk.at 3 rfl) <| Op2.listItem 0 rfl (by omega) (by rw [List.getElem?_map, he]; rfl) <| Ev.int <| Op2.tupItem (by decide) (by decide) rfl <| Arg.cons <| Ev.name (lk.at 2 rfl) <| Arg.nil <| (strcoll W).use (own := []) (R := [(sh, .list (S.map entAV))]) (g.less (by decide)) fun av own' h => ?_⟩
        obtain ⟨rfl, rfl⟩ := h
        refine Ev.int <| Op2.lt <| Tru.bool ⟨fun h2 => All.andNil ⟨?_, rfl⟩, fun h2 => ⟨?_, rfl⟩⟩
        · exact (decide_eq_true (hl.mp (ordL_lt.mp (of_decide_eq_true h2)))).symm
        · exact (decide_eq_false (fun z => of_decide_eq_false h2 (ordL_lt.mpr (hl.mpr z)))).symm
      · obtain ⟨rfl, rfl⟩ := hb
        refine ⟨fun h => Exs.cons <| Ex.aug (lk.at 3 rfl) <| Ev.int <| Op2.iadd <| Exs.nil ?_, fun h => ⟨rfl, rfl, ?_⟩⟩
        · have h := of_decide_eq_true h
          exact ⟨n - 1, by omega, k + 1, by omega, rfl, .cons (lkN (lk.at 0 rfl)) <| .cons (lkN (lk.at 1 rfl)) <| .cons (lkN (lk.at 2 rfl)) <| .cons lkS .nil⟩
        · have h := of_decide_eq_false h
          have : k = lead word S := by omega
          rw [← this]; exact lk
    · clear l1
      refine Exs.cons <| Ex.iff <| Tri.mono (Φ := fun b σ => (b = true ↔ ¬ ∃ e, S[lead word S]? = some e ∧ e.1 = word) ∧ σ = ⟨lc, [(sh, .list (S.map entAV))]⟩) (Tst.bool <| All.or <| Tst.cmp <| Ev.name (l2.at 3 rfl) <| Ev.callB <| Ev.built W.g (W.noGlob rfl rfl) W.b (W.built rfl) (fun h => VR.mkBi) ⟨rfl, Arg.cons <| Ev.name (l2.at 0 rfl) <| Arg.nil <| Cal.len_l 0 rfl (by rw [List.length_map]; omega) <| Op2.eq <| Tru.bool ⟨fun h => ⟨?t2, rfl⟩, fun h => ?_⟩⟩) (fun b σ hb => ?_)
      case t2 =>
        rw [List.length_map] at h
        have h : lead word S = S.length := by have := of_decide_eq_true h; omega
        refine ⟨fun _ => ?_, fun _ => rfl⟩
        rintro ⟨e, he, _⟩
        have := (List.getElem?_eq_some_iff.mp he).1
        omega
      · rw [List.length_map] at h
        have hlt : lead word S < S.length := by have := of_decide_eq_false h; omega
        have he : S[lead word S]? = some S[lead word S] := List.getElem?_eq_getElem hlt
        refine All.or <| Tst.cmp <| Ev.callFn (W.fn (a := 35) rfl) <| Ev.glob W.g (W.glob rfl) (fun h => VR.mkRef) ⟨rfl, Arg.cons <| Ev.sub <| Ev.sub <| Ev.name (l2.at 0 rfl) <| Ev.name (l2.at 3 rfl) <| Op2.listItem 0 rfl (by omega) (by rw [List.getElem?_map, he]; rfl) <| Ev.int <| Op2.tupItem (by decide) (by decide) rfl <| Arg.cons <| Ev.name (l2.at 2 rfl) <| Arg.nil <| (strcoll W).use (own := []) (R := [(sh, .list (S.map entAV))]) (g.less (by decide)) fun av own' h => ?_⟩
        obtain ⟨rfl, rfl⟩ := h
        refine Ev.int <| Op2.ne <| Tru.bool ⟨fun h2 => ⟨?_, rfl⟩, fun h2 => All.orNil ⟨?_, rfl⟩⟩
        · refine ⟨fun _ => ?_, fun _ => rfl⟩
          rintro ⟨e, he', hew⟩
          rw [he] at he'; cases he'
          rw [ordL_eq.mpr hew] at h2; cases h2
        · refine ⟨fun z => (nomatch z), fun z => absurd ⟨_, he, ordL_eq.mp ?_⟩ z⟩
          simpa using h2
      · obtain ⟨hb, rfl⟩ := hb
        refine ⟨fun h => ?_, fun h => Exs.nil <| Exs.nil ⟨?_, .cons (l2.at 0 rfl) .nil⟩⟩
        · refine Exs.cons <| Ex.expr <| Ev.meth F.plainAttrs_list F.slot_list_insert F.type_list_insert <| Ev.name (l2.at 0 rfl) ⟨HasT.list 0 rfl, Arg.cons <| Ev.name (l2.at 3 rfl) <| Arg.cons <| Ev.tuple <| Arg.cons <| Ev.name (l2.at 2 rfl) <| Arg.cons <| Ev.name (l2.at 1 rfl) <| Arg.nil ⟨le2, Arg.nil <| Cal.insert 0 rfl (by rw [List.length_map]; exact hK) (by rw [List.length_map]; omega) <| Exs.nil <| Exs.nil ⟨?_, .cons (l2.at 0 rfl) .nil⟩⟩⟩
          rw [hS, putShelf, ← hw, if_neg (hb.mp h), List.map_append, List.map_cons, List.map_take, List.map_drop]; rfl
        · rw [hS, putShelf, ← hw, if_pos (Classical.byContradiction fun z => by rw [hb.mpr z] at h; cases h)]
  · obtain ⟨lc, own⟩ := σ'
    obtain ⟨rfl, lk⟩ := hI
    rw [show (natL pages).length = pages.length by rw [natL, List.length_map], List.take_length]
    exact Exs.cons <| Ex.ret <| Ev.name (lk.at 0 rfl) ⟨[(sh, .list ((shelfOf pages).map entAV)), (pg, .list (natL pages))], [], rfl, sh, rfl, rfl⟩
end
end Mine

-- NF
namespace Mine
open PySem PySem.Calls PyProof.Rows PySem.W

def rowOcts (ahead : List Nat) (e : Entry) : List Nat := octL (64 * e.1.length + commonN ahead e.1) ++ octL e.2
def pack : List Nat → List Nat
  | [] => []
  | o :: r => (160 + o) :: r.map (32 + ·)
def rowWord (ahead w : List Nat) : List Nat := List.replicate (commonN ahead w) 32 ++ w.drop (commonN ahead w)
def packedGo : List Nat → List Entry → List Nat
  | _, [] => []
  | ahead, e :: r => pack (rowOcts ahead e) ++ packedGo e.1 r
def rowsGo : List Nat → Nat → List Entry → List Nat
  | _, _, [] => []
  | ahead, k, e :: r => writ (rowWord ahead e.1) k ++ rowsGo e.1 (k + 1) r
def lastW : List Nat → List Entry → List Nat
  | a, [] => a
  | _, e :: r => lastW e.1 r
def indexOf (sh : List Entry) : List Nat := writ (packedGo [] sh) 0 ++ rowsGo [] 0 sh
theorem packedGo_snoc (e : Entry) : ∀ (a : List Nat) (l : List Entry), packedGo a (l ++ [e]) = packedGo a l ++ pack (rowOcts (lastW a l) e)
  | a, [] => by simp [packedGo, lastW]
  | a, x :: l => by rw [List.cons_append, packedGo, packedGo, packedGo_snoc e x.1 l, lastW, List.append_assoc]
theorem rowsGo_snoc (e : Entry) : ∀ (a : List Nat) (k : Nat) (l : List Entry), rowsGo a k (l ++ [e]) = rowsGo a k l ++ writ (rowWord (lastW a l) e.1) (k + l.length)
  | a, k, [] => by simp [rowsGo, lastW]
  | a, k, x :: l => by
    rw [List.cons_append, rowsGo, rowsGo, rowsGo_snoc e x.1 (k + 1) l, lastW, List.append_assoc, List.length_cons]
    rw [show k + 1 + l.length = k + (l.length + 1) by omega]
theorem lastW_snoc (e : Entry) : ∀ (a : List Nat) (l : List Entry), lastW a (l ++ [e]) = e.1
  | a, [] => rfl
  | a, x :: l => lastW_snoc e x.1 l
theorem commonN_le (a b : List Nat) : commonN a b ≤ a.length := by
  have := List.length_filter_le (sameAt a b) (List.range a.length)
  rwa [List.length_range] at this
theorem hiD_len : ∀ f n, (hiD f n).length ≤ f
  | 0, _ => Nat.le_refl _
  | f + 1, n => by
    rw [hiD]
    split
    · exact Nat.zero_le _
    · rw [List.length_append]; exact Nat.succ_le_succ (hiD_len f _)
theorem octL_len (n : Nat) : (octL n).length ≤ 10 := by
  have := hiD_len 9 n
  rw [octL, List.length_append, List.length_map]
  exact Nat.succ_le_succ this
theorem octL_pos (n : Nat) : 1 ≤ (octL n).length := by rw [octL, List.length_append]; exact Nat.le_add_left ..
theorem octL_lt (n : Nat) : ∀ o ∈ octL n, o < 128 := by
  have h : ∀ f n, ∀ d ∈ hiD f n, d < 64 := by
    intro f
    induction f with
    | zero => intro n d hd; cases hd
    | succ f ih =>
      intro n d hd
      rw [hiD] at hd
      split at hd
      · cases hd
      · rcases List.mem_append.mp hd with hd | hd
        · exact ih _ d hd
        · rw [List.mem_singleton.mp hd]; exact Nat.mod_lt _ (by decide)
  intro o ho
  rcases List.mem_append.mp ho with ho | ho
  · obtain ⟨d, hd, rfl⟩ := List.mem_map.mp ho
    have := h _ _ d hd; omega
  · rw [List.mem_singleton.mp ho]
    have : n % 64 < 64 := Nat.mod_lt _ (by decide)
    omega
theorem rowOcts_len (a : List Nat) (e : Entry) : (rowOcts a e).length ≤ 20 := by
  have := octL_len (64 * e.1.length + commonN a e.1)
  have := octL_len e.2
  rw [rowOcts, List.length_append]; omega
theorem pack_len (l : List Nat) : (pack l).length = l.length := by
  cases l with
  | nil => rfl
  | cons o r => rw [pack, List.length_cons, List.length_cons, List.length_map]
theorem packedGo_len : ∀ (a : List Nat) (l : List Entry), (packedGo a l).length ≤ 20 * l.length
  | a, [] => Nat.zero_le _
  | a, e :: l => by
    have := packedGo_len e.1 l
    have := rowOcts_len a e
    rw [packedGo, List.length_append, pack_len, List.length_cons]; omega
theorem writ_len (w : List Nat) (k : Nat) : (writ w k).length ≤ 4 * w.length + 2 := by
  have z1 := subst_len 92 [92, 92] (by decide) w
  have z2 := subst_len 34 [92, 34] (by decide) (subst 92 [92, 92] w)
  have z3 := escAll_len w
  simp only [List.length_cons, List.length_nil] at z1 z2
  unfold writ encQ
  split
  · simp only [List.length_cons, List.length_append, List.length_nil]; omega
  · simp only [List.length_cons, List.length_append, List.length_nil]; omega
theorem rowWord_len {a w : List Nat} (ha : a.length ≤ 10) (hw : w.length ≤ 10) : (rowWord a w).length ≤ 20 := by
  have := commonN_le a w
  rw [rowWord, List.length_append, List.length_replicate, List.length_drop]; omega
theorem rowsGo_len : ∀ (a : List Nat) (k : Nat) (l : List Entry), a.length ≤ 10 → (∀ e ∈ l, e.1.length ≤ 10) → (rowsGo a k l).length ≤ 100 * l.length
  | a, k, [], _, _ => Nat.zero_le _
  | a, k, e :: l, ha, h => by
    have h1 := rowsGo_len e.1 (k + 1) l (h e (.head _)) fun x hx => h x (.tail _ hx)
    have h2 := writ_len (rowWord a e.1) k
    have h3 := rowWord_len ha (h e (.head _))
    rw [rowsGo, List.length_append, List.length_cons]; omega
theorem lastW_len : ∀ (a : List Nat) (l : List Entry), a.length ≤ 10 → (∀ e ∈ l, e.1.length ≤ 10) → (lastW a l).length ≤ 10
  | a, [], ha, _ => ha
  | a, e :: l, _, h => lastW_len e.1 l (h e (.head _)) fun x hx => h x (.tail _ hx)
theorem natL_append (a b : List Nat) : natL a ++ natL b = natL (a ++ b) := by unfold natL; rw [List.map_append]

theorem rowOcts_cons (a : List Nat) (e : Entry) : ∃ o r, rowOcts a e = o :: r ∧ o < 128 ∧ ∀ x ∈ r, x < 128 := by
  have h1 : ∀ x ∈ rowOcts a e, x < 128 := fun x hx => by
    rcases List.mem_append.mp hx with h | h
    · exact octL_lt _ x h
    · exact octL_lt _ x h
  cases h : rowOcts a e with
  | nil =>
    have t1 := congrArg List.length h
    rw [rowOcts, List.length_append, List.length_nil] at t1
    have := octL_pos (64 * e.1.length + commonN a e.1)
    omega
  | cons o r =>
    rw [h] at h1
    exact ⟨o, r, rfl, h1 o (.head _), fun x hx => h1 x (.tail _ hx)⟩
theorem flatOne (f : Nat → Nat) : ∀ l : List Nat, (l.map fun k => [f k]).flatten = l.map f
  | [] => rfl
  | x :: l => by rw [List.map_cons, List.flatten_cons, flatOne f l]; rfl
theorem perm4 {α : Type} (x y z u : α) : [x, y, z, u].Perm ([x, u] ++ [y, z]) := .cons x (List.perm_append_comm (l₁ := [y, z]) (l₂ := [u]))
theorem mul64Ok {n : Nat} (h : n ≤ 10) : IntMulOk 64 (n : Nat) := mulOk (by decide) (by rw [Int.natAbs_natCast]; exact Nat.lt_of_le_of_lt h (by decide))

section
variable {prog : Program} {w : World} {b0 : Heap} {mg mb : Str → Option Value}

set_option maxHeartbeats 4000000 in
theorem lawIndex (W : Wd w b0 mg mb) {sa : Addr} {sh : List Entry} (hz : sh.length ≤ 20) (hw : ∀ e ∈ sh, e.1.length ≤ 10 ∧ e.2 < 64 ^ 9) :
    Fun prog w b0 true 2 (.ref 120) [.ref sa] [(sa, .list (sh.map entAV))] (fun r own => r = .str (indexOf sh) ∧ own = [(sa, .list (sh.map entAV))]) := by
  refine Fun.introD (ps := ["shelf"]) (W.k _ _ rfl) rfl rfl rfl ⟨_, _, _, _, rfl, W.k _ _ rfl, rfl, rfl⟩ W.nl (fun vs h => ?_) rfl (by decide) (by decide) (by decide) (fun A L K g => ?_)
  · exact bind1 h (by exact fun _ => rfl)
  have hp := packedGo_len [] sh
  have hr := rowsGo_len [] 0 sh (Nat.zero_le _) fun e he => (hw e he).1
  refine Exs.cons <| Ex.assign <| Ev.lit [] rfl <| Exs.cons <| Ex.assign <| Ev.lit [] rfl <| Exs.cons <| Ex.assign <| Ev.lit [] rfl <| Exs.cons <| Ex.for <| Ev.callT <| Ev.built W.g (W.noGlob rfl rfl) W.b (W.built rfl) (fun h => VR.mkTy) ⟨rfl, Arg.cons <| Ev.callB <| Ev.built W.g (W.noGlob rfl rfl) W.b (W.built rfl) (fun h => VR.mkBi) ⟨rfl, Arg.cons <| Ev.name rfl <| Arg.nil <| Cal.len_l 0 rfl (by rw [List.length_map]; omega) <| Arg.nil <| Cal.range1 ?_⟩⟩
  refine ⟨_, fun i σ => i ≤ sh.length ∧ σ.own = [(sa, .list (sh.map entAV))] ∧ Lk σ.loc [("shelf", .ref sa), ("ahead", .str (lastW [] (sh.take i))), ("packed", .str (packedGo [] (sh.take i))), ("rows", .str (rowsGo [] 0 (sh.take i)))],
    Itr.range (g.hd rfl) (by decide) (by decide) (by omega) (by rw [List.length_map]; omega), ⟨Nat.zero_le _, rfl, .cons rfl <| .cons rfl <| .cons rfl <| .cons rfl .nil⟩, fun i x σ' hx hI => ?_, fun σ' hI => ?_⟩
  · obtain ⟨lc, own⟩ := σ'
    obtain ⟨_, rfl, lk⟩ := hI
    obtain ⟨hi, rfl⟩ := rangeAt hx
    rw [List.length_map] at hi
    have hlt : i < sh.length := by omega
    obtain ⟨e, he⟩ : ∃ e, sh[i]? = some e := ⟨_, List.getElem?_eq_getElem hlt⟩
    have hem := hw e (List.mem_of_getElem? he)
    have ht : sh.take (i + 1) = sh.take i ++ [e] := by rw [List.take_add_one, he]; rfl
    have hla : (lastW [] (sh.take i)).length ≤ 10 := lastW_len _ _ (Nat.zero_le _) fun x hx => (hw x (List.mem_of_mem_take hx)).1
    have hil : (sh.take i).length = i := by rw [List.length_take]; omega
    have hpk := packedGo_len [] (sh.take i)
    have hrw := rowsGo_len [] 0 (sh.take i) (Nat.zero_le _) fun x hx => (hw x (List.mem_of_mem_take hx)).1
    rw [hil] at hpk hrw
    have ep : packedGo [] (sh.take (i + 1)) = packedGo [] (sh.take i) ++ pack (rowOcts (lastW [] (sh.take i)) e) := by rw [ht, packedGo_snoc]
    have er : rowsGo [] 0 (sh.take (i + 1)) = rowsGo [] 0 (sh.take i) ++ writ (rowWord (lastW [] (sh.take i)) e.1) i := by rw [ht, rowsGo_snoc, hil, Nat.zero_add]
    have el : lastW [] (sh.take (i + 1)) = e.1 := by rw [ht, lastW_snoc]
    obtain ⟨ah, hah⟩ : ∃ x, x = lastW [] (sh.take i) := ⟨_, rfl⟩
    obtain ⟨pk, hpk2⟩ : ∃ x, x = packedGo [] (sh.take i) := ⟨_, rfl⟩
    obtain ⟨rw', hrw2⟩ : ∃ x, x = rowsGo [] 0 (sh.take i) := ⟨_, rfl⟩
    rw [← hah, ← hpk2, ← hrw2] at lk
    rw [← hah] at ep er hla
    rw [← hpk2] at ep hpk
    rw [← hrw2] at er hrw
    clear hah hpk2 hrw2 ht hx hi
    have hc := commonN_le ah e.1
    have hro := rowOcts_len ah e
    have hrl := rowWord_len hla hem.1
    have hwl := writ_len (rowWord ah e.1) i
    have hcom : commonN ah e.1 ≤ 10 := Nat.le_trans hc hla
    have h9 : 64 * e.1.length + commonN ah e.1 < 64 ^ 9 := Nat.lt_of_lt_of_le (m := 64 * 11) (by omega) (by decide)
    refine Asg.name <| Exs.cons <| Ex.assignTuple <| Ev.sub <| Ev.name (lkN (lk.at 0 rfl)) <| Ev.name lkS <| Op2.listItem 0 rfl (by omega) (by rw [List.getElem?_map, he]; rfl) <| Asg.tuple (g.hd rfl) rfl <| AsgL.cons <| Asg.name <| AsgL.cons <| Asg.name <| AsgL.nil ?_
    refine Exs.step [(sa, .list (sh.map entAV))] [("shelf", .ref sa), ("place", .int (i : Nat)), ("ahead", .str ah), ("packed", .str pk), ("rows", .str rw'), ("word", .str e.1), ("page", .int e.2), ("common", .int (commonN ah e.1))] ?s1 (fun lc l1 => ?_)
    case s1 =>
      refine Ex.assign <| Ev.callFn (W.fn (a := 103) rfl) <| Ev.glob W.g (W.glob rfl) (fun h => VR.mkRef) ⟨rfl, Arg.cons <| Ev.name (lkN (lkN (lkN (lk.at 1 rfl)))) <| Arg.cons <| Ev.name (lkN lkS) <| Arg.nil <| (lawCommon W (Nat.le_trans hla (by decide)) (Nat.le_trans hem.1 (by decide))).use (own := []) (R := [(sa, .list (sh.map entAV))]) (g.less (by decide)) fun av own' h => ?_⟩
      obtain ⟨rfl, rfl⟩ := h
      exact ⟨rfl, rfl, .cons (lkN (lkN (lkN (lkN (lk.at 0 rfl))))) <| .cons (lkN (lkN (lkN lkS))) <| .cons (lkN (lkN (lkN (lkN (lk.at 1 rfl))))) <| .cons (lkN (lkN (lkN (lkN (lk.at 2 rfl))))) <| .cons (lkN (lkN (lkN (lkN (lk.at 3 rfl))))) <| .cons (lkN (lkN lkS)) <| .cons (lkN lkS) <| .cons lkS .nil⟩
    clear lk
    refine Exs.cons <| Ex.assign <| Ev.binop <| Ev.callFn (W.fn (a := 110) rfl) <| Ev.glob W.g (W.glob rfl) (fun h => VR.mkRef) ⟨rfl, Arg.cons <| Ev.binop <| Ev.binop <| Ev.int <| Ev.callB <| Ev.built W.g (W.noGlob rfl rfl) W.b (W.built rfl) (fun h => VR.mkBi) ⟨rfl, Arg.cons <| Ev.name (l1.at 5 rfl) <| Arg.nil <| Cal.len_s (by omega) <| Op2.mul (mul64Ok hem.1) <| Ev.name (l1.at 7 rfl) <| Op2.add <| Arg.nil ?_⟩⟩
    rw [show (64 : Int) * (e.1.length : Int) + (commonN ah e.1 : Int) = ((64 * e.1.length + commonN ah e.1 : Nat) : Int) by omega]
    refine (lawOctets W h9).use (own := []) (R := [(sa, .list (sh.map entAV))]) (g.less (by decide)) fun av own' h => ?_
    obtain ⟨o1, rfl, rfl⟩ := h
    refine Ev.callFn (W.fn (a := 110) rfl) <| Ev.glob W.g (W.glob rfl) (fun h => VR.mkRef) ⟨rfl, Arg.cons <| Ev.name (l1.at 6 rfl) <| Arg.nil <| (lawOctets W hem.2).use (own := []) (R := [(o1, .list (natL (octL (64 * e.1.length + commonN ah e.1)))), (sa, .list (sh.map entAV))]) (g.less (by decide)) fun av own' h => ?_⟩
    obtain ⟨o2, rfl, rfl⟩ := h
    refine Op2.addL 1 0 rfl rfl (by rw [natL, natL, List.length_map, List.length_map]; have := octL_len (64 * e.1.length + commonN ah e.1); have := octL_len e.2; omega) fun o3 => ?_
    rw [natL_append, show octL (64 * e.1.length + commonN ah e.1) ++ octL e.2 = rowOcts ah e from rfl]
    refine Tri.perm (perm4 _ _ _ _) (Tri.forget ?_)
    refine Exs.absLoc [("shelf", .ref sa), ("place", .int (i : Nat)), ("packed", .str pk), ("rows", .str rw'), ("word", .str e.1), ("common", .int (commonN ah e.1)), ("octets", .ref o3)] (.cons (lN (l1.at 0 rfl)) <| .cons (lN (l1.at 1 rfl)) <| .cons (lN (l1.at 3 rfl)) <| .cons (lN (l1.at 4 rfl)) <| .cons (lN (l1.at 5 rfl)) <| .cons (lN (l1.at 7 rfl)) <| .cons lS .nil) (fun lc l2 => ?_)
    clear l1
    obtain ⟨o, r, eor, ho, hr'⟩ := rowOcts_cons ah e
    rw [eor] at ep hro ⊢
    rw [List.length_cons] at hro
    refine Exs.cons <| Ex.aug (l2.at 2 rfl) <| Ev.binop <| Ev.callB <| Ev.built W.g (W.noGlob rfl rfl) W.b (W.built rfl) (fun h => VR.mkBi) ⟨rfl, Arg.cons <| Ev.binop <| Ev.int <| Ev.sub <| Ev.name (l2.at 6 rfl) <| Ev.int <| Op2.listItem (k := 0) 0 rfl (by decide) rfl <| Op2.add <| Arg.nil <| Cal.chr (by omega) (by omega) ?_⟩
    rw [show (160 + (o : Int)).toNat = 160 + o by omega]
    refine Ev.meth F.plainAttrs_str F.slot_str_join F.type_str_join <| Ev.lit [] rfl ⟨HasT.str, Arg.cons <| evCompL (cl := []) (cells := []) g (by exact .nil rfl rfl (by decide) (by decide) rfl) (Ev.lslice <| Ev.name (l2.at 6 rfl) <| Part.some <| Ev.int ⟨_, rfl, Part.none ⟨(by show (0 : Int) ≤ 1; decide), trivial, 0, o3, _, rfl, rfl, (by rw [natL, List.length_map, List.length_cons]; omega), fun d' =>
      ⟨[(d', .list (natL r))], ⟨lc, [(o3, .list (natL (o :: r))), (sa, .list (sh.map entAV))]⟩, rfl, List.perm_append_comm (l₁ := [_]) (l₂ := [_, _]), natL r, [], fun c i acc σ => acc = ((r.take i).map fun k => [32 + k]).map AV.str ∧ σ.own = [(o3, .list (natL (o :: r))), (sa, .list (sh.map entAV))], Itr.list (g.hd rfl) (.head _), by rw [Nat.mul_one, natL, List.length_map]; omega, fun C x av h => (nomatch h), fun C => ⟨⟨rfl, rfl⟩, fun j x acc σ' hx hI => ?_, fun acc σ' hI d => ?_⟩⟩⟩⟩)⟩
    · obtain ⟨lc', own⟩ := σ'
      obtain ⟨rfl, rfl⟩ := hI
      rw [natL, List.getElem?_map] at hx
      obtain ⟨k, hk, rfl⟩ := Option.map_eq_some_iff.mp hx
      have hk128 := hr' k (List.mem_of_getElem? hk)
      refine Asg.name <| Ifs.nil ⟨fun _ => Ev.callB <| Ev.built W.g (W.noGlob rfl rfl) W.b (W.built rfl) (fun h => VR.mkBi) ⟨rfl, Arg.cons <| Ev.binop <| Ev.int <| Ev.name lkS <| Op2.add <| Arg.nil <| Cal.chr (by omega) (by omega) ⟨?_, rfl⟩⟩, fun hf => (nomatch hf)⟩
      rw [List.take_add_one, hk, show (32 + (k : Int)).toNat = 32 + k by omega]; simp
    · obtain ⟨lc', own⟩ := σ'
      obtain ⟨rfl, rfl⟩ := hI
      have efl : ((r.take (natL r).length).map fun k => [32 + k]).flatten = r.map (32 + ·) := by
        rw [show (natL r).length = r.length by rw [natL, List.length_map], List.take_length]
        exact flatOne _ r
      refine Arg.nil <| Cal.join (ls := (r.take (natL r).length).map fun k => [32 + k]) 0 rfl (by rw [efl, List.length_map]; omega) ?_
      rw [efl]
      refine Op2.add_s (by rw [List.length_map]; show 1 + _ ≤ _; omega) <| Op2.iadd_s (by rw [List.length_append, List.length_map]; show _ + (1 + _) ≤ _; omega) ?_
      rw [show pk ++ ([160 + o] ++ r.map (32 + ·)) = packedGo [] (sh.take (i + 1)) from ep.symm]
      refine Tri.perm (List.perm_append_comm (l₁ := [_, _]) (l₂ := [_])) (Tri.forget ?_)
      refine Exs.absLoc [("shelf", .ref sa), ("place", .int (i : Nat)), ("rows", .str rw'), ("word", .str e.1), ("common", .int (commonN ah e.1)), ("packed", .str (packedGo [] (sh.take (i + 1))))] (.cons (lN (l2.at 0 rfl)) <| .cons (lN (l2.at 1 rfl)) <| .cons (lN (l2.at 3 rfl)) <| .cons (lN (l2.at 4 rfl)) <| .cons (lN (l2.at 5 rfl)) <| .cons lS .nil) (fun lc l3 => ?_)
      clear l2 ep
      refine Exs.cons <| Ex.aug (l3.at 2 rfl) <| Ev.callFn (W.fn (a := 115) rfl) <| Ev.glob W.g (W.glob rfl) (fun h => VR.mkRef) ⟨rfl, Arg.cons <| Ev.binop <| Ev.binop <| Ev.lit [32] rfl <| Ev.name (l3.at 4 rfl) <| Op2.mulBlank (by omega) <| Ev.sslice <| Ev.name (l3.at 3 rfl) <| Part.some <| Ev.name (l3.at 4 rfl) ⟨_, rfl, Part.none ⟨(by show (0 : Int) ≤ _; omega), trivial, e.1, rfl, by omega, Op2.add_s (by rw [List.length_replicate]; show _ + (List.drop _ _).length ≤ _; rw [List.length_drop]; omega) ?_⟩⟩⟩
      rw [show List.replicate (commonN ah e.1) 32 ++ cut (some ((commonN ah e.1 : Nat) : Int)) none e.1 = rowWord ah e.1 from rfl]
      refine Arg.cons <| Ev.name (l3.at 1 rfl) <| Arg.nil <| (lawWritten W (by omega)).use (own := []) (R := [(sa, .list (sh.map entAV))]) (g.less (by decide)) fun av own' h => ?_
      obtain ⟨rfl, rfl⟩ := h
      refine Op2.iadd_s (by omega) ?_
      rw [← er]
      exact Exs.cons <| Ex.assign <| Ev.name (lN (l3.at 3 rfl)) <| Exs.nil ⟨hlt, rfl, .cons (lN (lN (l3.at 0 rfl))) <| .cons (by rw [el]; exact lS) <| .cons (lN (lN (l3.at 5 rfl))) <| .cons (lN lS) .nil⟩
  · obtain ⟨lc, own⟩ := σ'
    obtain ⟨_, rfl, lk⟩ := hI
    rw [List.length_map, List.length_range, List.length_map, show ((sh.length : Nat) - (0 : Int)).toNat = sh.length by omega, List.take_length] at lk
    refine Exs.cons <| Ex.ret <| Ev.binop <| Ev.callFn (W.fn (a := 115) rfl) <| Ev.glob W.g (W.glob rfl) (fun h => VR.mkRef) ⟨rfl, Arg.cons <| Ev.name (lk.at 2 rfl) <| Arg.cons <| Ev.int <| Arg.nil <| (lawWritten (place := 0) W (by omega)).use (own := []) (R := [(sa, .list (sh.map entAV))]) (g.less (by decide)) fun av own' h => ?_⟩
    obtain ⟨rfl, rfl⟩ := h
    have := writ_len (packedGo [] sh) 0
    exact Ev.name (lk.at 3 rfl) <| Op2.add_s (by omega) ⟨[(sa, .list (sh.map entAV))], [], rfl, rfl, rfl⟩
end
end Mine

-- NG
namespace Mine
open PySem PySem.Calls PyProof.Rows PySem.W

theorem bandN (a b : Nat) : Builtin.bitAnd (a : Int) (b : Int) = ((a &&& b : Nat) : Int) := by
  unfold Builtin.bitAnd
  rw [decide_eq_true (by omega), decide_eq_true (by omega)]; rfl
theorem borN (a b : Nat) : Builtin.bitOr (a : Int) (b : Int) = ((a ||| b : Nat) : Int) := by
  have e : ∀ n : Nat, Builtin.bitNot (n : Int) = -(n : Int) - 1 := fun n => by unfold Builtin.bitNot; omega
  have e2 : ∀ n : Nat, Builtin.bitNot (-(n : Int) - 1) = n := fun n => by unfold Builtin.bitNot; omega
  unfold Builtin.bitOr Builtin.bitAnd
  rw [e, e, decide_eq_false (by omega), decide_eq_false (by omega)]
  show Builtin.bitNot (Builtin.bitNot _) = _
  rw [e2, e2]
  show Builtin.bitNot (Builtin.bitNot ((a ||| b : Nat) : Int)) = _
  rw [e, e2]
theorem orShift (v d : Nat) (h : d < 64) : (v * 64) ||| d = v * 64 + d := by
  have := Nat.shiftLeft_add_eq_or_of_lt (b := d) (i := 6) (by simpa using h) v
  rw [Nat.shiftLeft_eq] at this
  rw [← this]

def numOf : Nat → List Nat → Nat
  | v, [] => v
  | v, d :: ds => numOf (v * 64 + d % 64) ds
/-- octets of one number: all but the last one hold 64 -/
inductive Oct : List Nat → Prop
  | one {b : Nat} : b &&& 64 = 0 → Oct [b]
  | cons {b : Nat} {l : List Nat} : b &&& 64 = 64 → Oct l → Oct (b :: l)
theorem Oct.next {l : List Nat} (h : Oct l) : ∃ b r, l = b :: r ∧ ((b &&& 64 = 0 ∧ r = []) ∨ (b &&& 64 = 64 ∧ Oct r)) := by
  cases h with
  | one h => exact ⟨_, _, rfl, .inl ⟨h, rfl⟩⟩
  | cons h k => exact ⟨_, _, rfl, .inr ⟨h, k⟩⟩
theorem and63M (b : Nat) : b &&& 63 = b % 64 := Nat.and_two_pow_sub_one_eq_mod b 6
theorem step64 {v k b : Nat} (h : v < 64 ^ k) : v * 64 + b % 64 < 64 ^ (k + 1) := by
  have : b % 64 < 64 := Nat.mod_lt _ (by decide)
  rw [Nat.pow_succ]; omega
theorem bound64 {v k : Nat} (h : v < 64 ^ k) (hk : k ≤ 150) : v < 2 ^ 900 := Nat.lt_of_lt_of_le h (by
  rw [show (64 : Nat) = 2 ^ 6 from rfl, ← Nat.pow_mul]; exact Nat.pow_le_pow_right (by decide) (by omega))


theorem Tri.xmono {α β : Type} {c : Cx} {P : Heap → Prop} {t : Sem α} {V : Heap → β → α → Prop} {σ : St} {Φ : β → St → Prop} {X X' : XP} (h : Tri c P t V σ Φ X) (k : ∀ v σ s, X v σ s → X' v σ s) : Tri c P t V σ Φ X' :=
  fun s r p Q E q x => h s r p Q E q fun e σ' s' r' f p => x e σ' s' r' f (k _ _ _ p)

section
variable {prog : Program} {w : World} {b0 : Heap} {mg mb : Str → Option Value}

theorem parseVarint (W : Wd w b0 mg mb) {it lst : Addr} {bs : List Nat} {rest : List AV} {z : Bool} (hO : Oct bs) (hz : bs.length ≤ 140) :
    Fun prog w b0 z 1 (.ref 28) [.ref it] [(it, .iter lst (natL bs ++ rest))] (fun r own => r = .int (numOf 0 bs) ∧ own = [(it, .iter lst rest)]) := by
  refine Fun.intro (ps := ["iterator"]) (W.k _ _ rfl) rfl rfl rfl ⟨_, _, _, _, rfl, W.k _ _ rfl, rfl, rfl⟩ W.nl (fun vs h => ?_) rfl (by decide) (by decide) (by decide) (fun A L K g => ?_)
  · exact bind1 h (by exact fun _ => rfl)
  obtain ⟨N, eB⟩ : ∃ N, N = numOf 0 bs := ⟨_, rfl⟩
  rw [← eB]
  obtain ⟨b, r, rfl, hc⟩ := hO.next
  have e63 : ∀ b : Nat, Builtin.bitAnd (b : Int) 63 = ((b % 64 : Nat) : Int) := fun b => (bandN b 63).trans (by rw [and63M])
  refine Exs.cons <| Ex.assign <| Ev.callB <| Ev.built W.g (W.noGlob rfl rfl) W.b (W.built rfl) (fun h => VR.mkBi) ⟨rfl, Arg.cons <| Ev.name rfl <| Arg.nil <| Cal.next 0 rfl ?_⟩
  refine Exs.cons <| Ex.assign <| Ev.binop <| Ev.name lkS <| Ev.int <| Op2.and ?_
  rw [e63 b]
  refine Exs.cons <| Ex.while (fun n σ => ∃ (b v : Nat) (r : List Nat), σ.own = [(it, .iter lst (natL r ++ rest))] ∧ Lk σ.loc [("iterator", .ref it), ("b", .int b), ("val", .int v)] ∧ n = r.length ∧ numOf v r = N ∧ ((b &&& 64 = 0 ∧ r = []) ∨ (b &&& 64 = 64 ∧ Oct r)) ∧ ∃ k, v < 64 ^ k ∧ k + r.length ≤ 141)
    r.length ⟨b, b % 64, r, rfl, .cons (lkN (lkN rfl)) <| .cons (lkN lkS) <| .cons lkS .nil, rfl, by rw [eB, numOf, Nat.zero_mul, Nat.zero_add], hc, 1, Nat.mod_lt _ (by decide), by rw [List.length_cons] at hz; omega⟩ (fun n σ hI => ?_)
  obtain ⟨lc, own⟩ := σ
  obtain ⟨b, v, r, rfl, lk, rfl, hnum, hc, k, hv, hk⟩ := hI
  refine Tst.val <| Ev.binop <| Ev.name (lk.at 1 rfl) <| Ev.int <| Op2.and <| Tru.int ?_
  rw [show Builtin.bitAnd (b : Int) 64 = ((b &&& 64 : Nat) : Int) from bandN b 64]
  refine ⟨fun ht => ?_, fun hf => ?_⟩
  · rcases hc with ⟨h1, _⟩ | ⟨h1, hO⟩
    · rw [h1] at ht; cases ht
    obtain ⟨b', r, rfl, hc⟩ := hO.next
    rw [List.length_cons] at hk
    have hv' := bound64 hv (by omega)
    refine Exs.cons <| Ex.aug (lk.at 2 rfl) <| Ev.int <| Op2.ishl (by decide) ?_ <| Exs.cons <| Ex.assign <| Ev.callB <| Ev.built W.g (W.noGlob rfl rfl) W.b (W.built rfl) (fun h => VR.mkBi) ⟨rfl, Arg.cons <| Ev.name (lkN (lk.at 0 rfl)) <| Arg.nil <| Cal.next 0 rfl ?_⟩
    · have : Builtin.Int.intBits (v : Int) ≤ 900 := bits_le (by simpa using hv')
      omega
    refine Exs.cons <| Ex.aug (lkN lkS) <| Ev.binop <| Ev.name lkS <| Ev.int <| Op2.and <| Op2.ior <| Exs.nil ?_
    have ev : Builtin.bitOr ((v : Int) * 2 ^ (6 : Int).toNat) (Builtin.bitAnd (b' : Int) 63) = ((v * 64 + b' % 64 : Nat) : Int) := by
      rw [e63 b', show ((v : Int) * 2 ^ (6 : Int).toNat) = ((v * 64 : Nat) : Int) by simp, borN, orShift _ _ (Nat.mod_lt _ (by decide))]
    rw [ev]
    exact ⟨r.length, by simp, b', v * 64 + b' % 64, r, rfl, .cons (lkN (lkN (lkN (lk.at 0 rfl)))) <| .cons (lkN lkS) <| .cons lkS .nil, rfl, hnum, hc, k + 1, step64 hv, by omega⟩
  · rcases hc with ⟨h1, rfl⟩ | ⟨h1, _⟩
    · exact Exs.cons <| Ex.ret <| Ev.name (lk.at 2 rfl) ⟨by rw [← hnum]; rfl, rfl⟩
    · rw [h1] at hf; cases hf

theorem parseStop (W : Wd w b0 mg mb) {it lst : Addr} :
    FunX prog w b0 true 1 (.ref 28) [.ref it] [(it, .iter lst [])] (fun _ _ => False) "StopIteration" (Spent it lst) := by
  refine FunX.introG (ps := ["iterator"]) (Ω := fun _ _ _ => False) (W.k _ _ rfl) rfl rfl rfl ⟨_, _, _, _, rfl, W.k _ _ rfl, rfl, rfl⟩ W.nl (fun vs h => ?_) rfl (by decide) (by decide) (by decide) (fun A L K g on => ?_) (fun c fl σ' h' r φ => φ.elim) (by decide)
  · exact bind1 h (by exact fun _ => rfl)
  exact Exs.cons <| Ex.assign <| Ev.callB <| Ev.built W.g (W.noGlob rfl rfl) W.b (W.built rfl) (fun h => VR.mkBi) ⟨rfl, Arg.cons <| Ev.name rfl <| Arg.nil <| fun vs => Tri.xmono (Cal.nextEnd (Ψ := fun σ => Spent it lst σ.own) (g.hd rfl) (fun own h => h) vs) (fun _ _ _ h => Or.inl h)⟩
end
end Mine

-- NH
namespace Mine
open PySem PySem.Calls PyProof.Rows PySem.W

/-! octets read back -/
def bump : List Nat → List Nat
  | [] => []
  | o :: r => (128 + o) :: r
def octA (a : List Nat) (e : Entry) : List Nat := bump (octL (64 * e.1.length + commonN a e.1))
def bytesGo : List Nat → List Entry → List Nat
  | _, [] => []
  | a, e :: r => octA a e ++ (octL e.2 ++ bytesGo e.1 r)
theorem octL_cons (n : Nat) : ∃ o r, octL n = o :: r ∧ o < 128 := by
  have h := octL_lt n
  have p := octL_pos n
  cases e : octL n with
  | nil => rw [e] at p; cases p
  | cons o r => exact ⟨o, r, rfl, h o (by rw [e]; exact .head _)⟩
theorem bytes_packed : ∀ (a : List Nat) (l : List Entry), (packedGo a l).map (fun (k : Nat) => AV.int ((k : Int) - 32)) = natL (bytesGo a l)
  | a, [] => rfl
  | a, e :: l => by
    obtain ⟨o, r, eo, _⟩ := octL_cons (64 * e.1.length + commonN a e.1)
    have e1 : ∀ l : List Nat, (l.map (32 + ·)).map (fun (k : Nat) => AV.int ((k : Int) - 32)) = natL l := fun l => by
      rw [List.map_map, natL]
      exact List.map_congr_left fun k _ => congrArg AV.int (by show ((32 + k : Nat) : Int) - 32 = k; omega)
    rw [packedGo, bytesGo, octA, rowOcts, eo, bump, List.cons_append, pack, List.cons_append, List.map_cons, List.map_append, bytes_packed e.1 l, e1, natL_append, List.append_assoc, List.cons_append, natL, natL, List.map_cons]
    exact congrArg (· :: _) (congrArg AV.int (by omega))
theorem bits128 : ∀ o, o < 128 → (128 + o) &&& 64 = o &&& 64 := by decide +kernel
theorem bits64 : ∀ d, d < 64 → (64 + d) &&& 64 = 64 ∧ d &&& 64 = 0 := by decide +kernel
theorem hiD_lt : ∀ f n, ∀ d ∈ hiD f n, d < 64
  | 0, n, d, hd => nomatch hd
  | f + 1, n, d, hd => by
    rw [hiD] at hd
    split at hd
    · cases hd
    · rcases List.mem_append.mp hd with hd | hd
      · exact hiD_lt f _ d hd
      · rw [List.mem_singleton.mp hd]; exact Nat.mod_lt _ (by decide)
theorem Oct.of {d : Nat} (h : d < 64) : ∀ {l : List Nat}, (∀ x ∈ l, x < 64) → Oct (l.map (64 + ·) ++ [d])
  | [], _ => .one (bits64 d h).2
  | x :: l, hl => .cons (bits64 x (hl x (.head _))).1 (Oct.of h fun y hy => hl y (.tail _ hy))
theorem oct_octL (n : Nat) : Oct (octL n) := Oct.of (Nat.mod_lt _ (by decide)) (hiD_lt 9 n)
theorem Oct.bump {l : List Nat} (h : Oct l) (hl : ∀ o ∈ l, o < 128) : Oct (bump l) := by
  cases h with
  | one h => exact .one ((bits128 _ (hl _ (.head _))).trans h)
  | cons h k => exact .cons ((bits128 _ (hl _ (.head _))).trans h) k
theorem numOf_bump (v : Nat) (l : List Nat) : numOf v (bump l) = numOf v l := by
  cases l with
  | nil => rfl
  | cons o r => show numOf (v * 64 + (128 + o) % 64) r = numOf (v * 64 + o % 64) r; rw [show (128 + o) % 64 = o % 64 by omega]
theorem numOf_snoc (d : Nat) : ∀ (l : List Nat) (v : Nat), numOf v (l ++ [d]) = numOf v l * 64 + d % 64
  | [], v => rfl
  | x :: l, v => numOf_snoc d l _
theorem numOf_hi : ∀ (l : List Nat) (v : Nat), numOf v (l.map (64 + ·)) = numOf v l
  | [], v => rfl
  | x :: l, v => by
    show numOf (v * 64 + (64 + x) % 64) _ = numOf (v * 64 + x % 64) l
    rw [show (64 + x) % 64 = x % 64 by omega, numOf_hi l]
theorem numOf_hiD : ∀ f n, n / 64 < 64 ^ f → numOf 0 (hiD f n) = n / 64
  | 0, n, h => by rw [show n / 64 = 0 by simpa using h]; rfl
  | f + 1, n, h => by
    rw [hiD]
    split
    · rw [show n / 64 = 0 by omega]; rfl
    · rw [numOf_snoc, numOf_hiD f (n / 64) (by rw [Nat.pow_succ] at h; omega)]; omega
theorem numOf_octL {n : Nat} (h : n < 64 ^ 9) : numOf 0 (octL n) = n := by
  rw [octL, numOf_snoc, numOf_hi, numOf_hiD 9 n (by omega)]; omega

/-! what words have in common -/
theorem common_spec (a b : List Nat) : (∀ k, k < commonN a b → sameAt a b k = true) ∧ (commonN a b < a.length → sameAt a b (commonN a b) = false) ∧ commonN a b ≤ a.length := by
  have dn : ∀ k, sameAt a b (k + 1) = true → sameAt a b k = true := fun k h => by
    unfold sameAt at h ⊢
    rw [Bool.and_eq_true, decide_eq_true_eq, decide_eq_true_eq] at h ⊢
    refine ⟨by omega, ?_⟩
    have := congrArg (List.take (k + 1)) h.2
    rwa [List.take_take, List.take_take, Nat.min_eq_left (by omega)] at this
  have dn' : ∀ k j, j ≤ k → sameAt a b k = true → sameAt a b j = true := fun k j hj h => by
    induction k with
    | zero => rwa [Nat.le_zero.mp hj]
    | succ k ih =>
      rcases Nat.lt_or_ge k j with q | q
      · rwa [show j = k + 1 by omega]
      · exact ih q (dn k h)
  have key : ∀ n, ∃ c, ((List.range n).filter (sameAt a b)).length = c ∧ c ≤ n ∧ (∀ k, k < c → sameAt a b k = true) ∧ (c < n → sameAt a b c = false) := by
    intro n
    induction n with
    | zero => exact ⟨0, rfl, Nat.le_refl _, fun k h => (by cases h), fun h => (by cases h)⟩
    | succ n ih =>
      obtain ⟨c, e, h1, h2, h3⟩ := ih
      rw [List.range_succ, List.filter_append, List.length_append, e]
      cases q : sameAt a b n with
      | true =>
        have : c = n := by
          rcases Nat.lt_or_ge c n with z | z
          · have := dn' n c h1 q; rw [h3 z] at this; cases this
          · omega
        subst this
        exact ⟨c + 1, by simp [q], Nat.le_refl _, fun k hk => dn' c k (by omega) q, fun h => absurd h (Nat.lt_irrefl _)⟩
      | false =>
        refine ⟨c, by simp [q], by omega, h2, fun h => ?_⟩
        rcases Nat.lt_or_ge c n with z | z
        · exact h3 z
        · rwa [show c = n by omega]
  obtain ⟨c, e, h1, h2, h3⟩ := key a.length
  unfold commonN
  rw [e]; exact ⟨h2, h3, h1⟩
theorem common_take (a b : List Nat) : a.take (commonN a b) = b.take (commonN a b) ∧ commonN a b ≤ b.length := by
  obtain ⟨h, _⟩ := common_spec a b
  cases e : commonN a b with
  | zero => exact ⟨rfl, Nat.zero_le _⟩
  | succ k =>
    have := h k (by omega)
    unfold sameAt at this
    rw [Bool.and_eq_true, decide_eq_true_eq, decide_eq_true_eq] at this
    exact ⟨this.2, this.1⟩
theorem stripped_row : ∀ (c : Nat) (l : List Nat), stripped c (List.replicate c 32 ++ l) = some l := by
  intro c l
  have : ∀ c, stripL c (List.replicate c 32 ++ l) = some (0, l) := fun c => by
    induction c with
    | zero => rfl
    | succ c ih => rw [List.replicate_succ, List.cons_append, stripL, if_pos rfl, ih]
  rw [stripped, this]
  show some (stripR 0 l.reverse).reverse = _
  rw [stripR, List.reverse_reverse]
theorem row_joined (a w : List Nat) : a.take (commonN a w) ++ w.drop (commonN a w) = w := by
  rw [(common_take a w).1, List.take_append_drop]
end Mine

-- NI
namespace Mine
open PySem PySem.Calls PyProof.Rows PySem.W

def rowAV (a : List Nat) (e : Entry) : AV := .tup [.str e.1, .int e.1.length, .int (commonN a e.1), .int e.2]
def rowsAV : List Nat → List Entry → List AV
  | _, [] => []
  | a, e :: r => rowAV a e :: rowsAV e.1 r
theorem le4 : 4 ≤ 16777216 := by decide
theorem bump_len (l : List Nat) : (bump l).length = l.length := by cases l <;> rfl
theorem wsAt_mem (k : Nat) (h : k < 4) : wsAt k ∈ WS := by
  match k, h with
  | 0, _ | 1, _ | 2, _ | 3, _ => decide
theorem toksWrit (w : List Nat) (k : Nat) (rest : List Nat) : Toks (writ w k ++ rest) w rest := by
  unfold writ
  split
  · rw [List.cons_append, List.append_assoc]; exact .quoted w rest
  · rename_i h
    cases w with
    | nil => exact absurd (.inl rfl) h
    | cons x d => rw [List.append_assoc]; exact .plain x d _ rest (wsAt_mem _ (Nat.mod_lt _ (by decide)))
theorem FunX.sure {prog : Program} {w : World} {b0 : Heap} {z : Bool} {n : Nat} {f : Value} {args : List AV} {own : List (Addr × AO)} {Φ : AV → List (Addr × AO) → Prop} {cls : String} {Ψ : List (Addr × AO) → Prop} (F : FunX prog w b0 z n f args own Φ cls Ψ) (h : ∀ o, ¬ Ψ o) : Fun prog w b0 z n f args own Φ := by
  have : Ψ = fun _ => False := funext fun o => propext ⟨h o, False.elim⟩
  subst this
  exact FunX.toFun F

/-- ahead of a row -/
structure RdI (a : LxA) (it lst en : Addr) (sh : List Entry) (tl : List Nat) (N i : Nat) (ah : List Nat) (l : List Entry) (acc : List AV) (ln : Nat) (σ : St) : Prop where
  own : σ.own.Perm ((it, .iter lst (natL (bytesGo ah l))) :: (en, .list acc) :: lexOwn a ln [] (rowsGo ah i l ++ tl))
  loc : Lk σ.loc [("lexer", .ref a.x), ("octets", .ref it), ("entries", .ref en), ("ahead", .str ah)]
  cc : acc ++ rowsAV ah l = rowsAV [] sh
  len : acc.length = i
  ss : i + l.length = sh.length
  nn : ln + nl (rowsGo ah i l ++ tl) = N
  hh : ah.length ≤ 10
  wd : ∀ e ∈ l, e.1.length ≤ 10 ∧ e.2 < 64 ^ 9

section
variable {prog : Program} {w : World} {b0 : Heap} {mg mb : Str → Option Value}

theorem stripRow (W : Wd w b0 mg mb) {c : Nat} {l : List Nat} (hl : l.length ≤ 500) (hc : c ≤ 500) :
    Fun prog w b0 true 1 (.ref 42) [.str (List.replicate c 32 ++ l), .int c] [] (fun r own => r = .str l ∧ own = []) :=
  (FunX.sure (stripPadding W (by rw [List.length_append, List.length_replicate]; omega) (Nat.le_trans hc (by decide))) (fun o h => by rw [stripped_row] at h; exact nomatch h.1)).mono fun r o h => by
    obtain ⟨x, h1, rfl, rfl⟩ := h
    rw [stripped_row] at h1
    cases h1
    exact ⟨rfl, rfl⟩

set_option maxHeartbeats 2000000 in
theorem lawRead (W : Wd w b0 mg mb) {a : LxA} (H : LxOk prog w b0 a) {sh : List Entry} {tl : List Nat} {ln : Nat} (hz : sh.length ≤ 9) (hw : ∀ e ∈ sh, e.1.length ≤ 10 ∧ e.2 < 64 ^ 9) (ht : tl.length ≤ 100) :
    Fun prog w b0 true 5 (.ref 132) [.ref a.x] (lexOwn a ln [] (indexOf sh ++ tl)) (fun r own => ∃ en ln', r = .ref en ∧ ln' + nl tl = ln + nl (indexOf sh ++ tl) ∧ own = (en, .list (rowsAV [] sh)) :: lexOwn a ln' [] tl) := by
  obtain ⟨N, hN⟩ : ∃ N, N = ln + nl (indexOf sh ++ tl) := ⟨_, rfl⟩
  rw [← hN]
  refine Fun.introX (ps := ["lexer"]) (W.k _ _ rfl) rfl rfl rfl ⟨_, _, _, _, rfl, W.k _ _ rfl, rfl, rfl⟩ W.nl (fun vs h => ?_) rfl (by decide) (by decide) (by decide) (fun A L K g on => ?_)
  · exact bind1 h (by exact fun _ => rfl)
  have g1 := g.less (m := 1) (by decide)
  have hp := packedGo_len [] sh
  have hwl := writ_len (packedGo [] sh) 0
  have hrl := rowsGo_len [] 0 sh (Nat.zero_le _) fun e he => (hw e he).1
  have ei : indexOf sh ++ tl = writ (packedGo [] sh) 0 ++ (rowsGo [] 0 sh ++ tl) := List.append_assoc ..
  rw [ei] at hN ⊢
  refine Exs.cons <| Ex.assign <| Ev.callB <| Ev.built W.g (W.noGlob rfl rfl) W.b (W.built rfl) (fun h => VR.mkBi) ⟨rfl, Arg.cons <| evComp0 (cl := []) (cells := []) g (by exact .nil rfl rfl (by decide) (by decide) rfl) (Ev.methI W.k <| Ev.name rfl ⟨4, a.x, 80, a.dx, _, rfl, rfl, mn_get_token _, rfl, Arg.nil <| (getScan W H (toksWrit _ _ _) (by simp only [List.length_append]; omega) (by omega)).use (own := lexOwn a ln [] _) (R := []) g fun av own' h => ?_⟩)⟩
  obtain ⟨rfl, ln1, hn1, rfl⟩ := h
  rw [← hN] at hn1
  clear hN
  refine ⟨_, [], fun c i acc σ => acc = ((packedGo [] sh).take i).map (fun (k : Nat) => AV.int ((k : Int) - 32)) ∧ σ.own = lexOwn a ln1 [] (rowsGo [] 0 sh ++ tl), Itr.str (g.hd rfl), by rw [Nat.mul_one, List.length_map]; omega, fun C x av h => (nomatch h), fun C => ⟨⟨rfl, rfl⟩, fun i x acc σ' hx hI => ?_, fun acc σ' hI d => ?_⟩⟩
  · obtain ⟨rfl, h0⟩ := hI
    rw [List.getElem?_map] at hx
    obtain ⟨k, hk, rfl⟩ := Option.map_eq_some_iff.mp hx
    refine Asg.name <| Ifs.nil ⟨fun _ => Ev.binop <| Ev.callB <| Ev.built W.g (W.noGlob rfl rfl) W.b (W.built rfl) (fun h => VR.mkBi) ⟨rfl, Arg.cons <| Ev.name lkS <| Arg.nil <| Cal.ord <| Ev.int <| Op2.sub ⟨?_, h0⟩⟩, fun hf => (nomatch hf)⟩
    rw [List.take_add_one, hk]; simp
  obtain ⟨lc, own⟩ := σ'
  obtain ⟨rfl, rfl⟩ := hI
  rw [List.length_map, List.take_length, bytes_packed]
  refine Arg.nil <| Cal.iterL 0 rfl fun it => Exs.cons <| Ex.assign <| Ev.list <| Arg.nil ⟨Nat.zero_le _, fun en => ?_⟩
  refine Exs.cons <| Ex.assign <| Ev.lit [] rfl ?_
  refine Exs.cons <| Ex.for <| Ev.callT <| Ev.built W.g (W.noGlob rfl rfl) W.b (W.built rfl) (fun h => VR.mkTy) ⟨rfl, Arg.cons <| Ev.int <| Arg.nil <| Cal.range1 ?_⟩
  refine ⟨_, fun i σ => ∃ ah l acc ln, RdI a it d en sh tl N i ah l acc ln σ, Itr.range (g.hd rfl) (by decide) (by decide) (by decide) (by decide), ⟨[], sh, [], ln1, ?_, .cons (lN (lN (lN rfl))) <| .cons (lN (lN lS)) <| .cons (lN lS) <| .cons lS .nil, rfl, rfl, Nat.zero_add _, hn1, Nat.zero_le _, hw⟩, fun i x σ' hx hI => ?_, fun σ' hI => ?_⟩
  case refine_1 => exact List.Perm.swap ..
  case refine_3 =>
    obtain ⟨ah, l, acc, ln, R⟩ := hI
    have := R.ss
    rw [List.length_map, List.length_range] at this
    omega
  obtain ⟨lc, own⟩ := σ'
  obtain ⟨ah, l, acc, ln2, R⟩ := hI
  clear hn1 hwl hrl hp ei
  refine Asg.name <| Tri.perm R.own ?_
  have lk := R.loc
  cases l with
  | nil =>
    refine Exs.cons <| Ex.tryX (Y := noX) (cls := "StopIteration") (L := L) on (by decide) (isSubtype_of_subB (by decide +kernel)) (isSubtype_of_subB (by decide +kernel)) (isSubtype_of_subB (by decide +kernel)) (Ψ := fun σ' => σ'.loc = setL "row" x lc ∧ ∃ o, σ'.own = o ++ (en, .list acc) :: lexOwn a ln2 [] tl ∧ Spent it d o) ?tbody ?thn ?tk
    case thn => exact fun e σ Θ h => Ev.built W.g (W.noGlob rfl rfl) W.b (W.built rfl) (fun h => VR.mkTy) h
    case tbody =>
      exact Exs.cons <| Ex.assignTuple <| Ev.callB <| Ev.built W.g (W.noGlob rfl rfl) W.b (W.built rfl) (fun h => VR.mkBi) ⟨rfl, Arg.cons <| Ev.callFn (W.fn (a := 28) rfl) <| Ev.glob W.g (W.glob rfl) (fun h => VR.mkRef) ⟨rfl, Arg.cons <| Ev.name (lN (lk.at 1 rfl)) <| Arg.nil <| (parseStop W).use (own := [(it, .iter d [])]) (R := (en, .list acc) :: lexOwn a ln2 [] tl) g1 (fun av own' h => h.elim) (fun v σ s h => h)⟩⟩
    case tk =>
      intro e T oe oT σ₁ hψ hcl
      obtain ⟨lc', own'⟩ := σ₁
      obtain ⟨hlc, o', ho, oi, ol, rfl⟩ := hψ
      have hlc : lc' = setL "row" x lc := hlc
      subst hlc
      have ho : own' = _ := ho
      subst ho
      refine Exs.cons <| Ex.ret <| Ev.name (lN (lk.at 2 rfl)) ⟨(en, .list (rowsAV [] sh)) :: lexOwn a ln2 [] tl, [(e, .raw oe), (T, .raw oT), (it, .raw oi), (d, .raw ol)], ?_, en, ln2, rfl, R.nn, rfl⟩
      have ec : acc = rowsAV [] sh := by rw [← R.cc]; exact (List.append_nil _).symm
      rw [ec]
      exact List.perm_append_comm (l₁ := [_, _, _, _])
  | cons e l =>
    have hi : i < 10 := by
      have := R.ss
      rw [List.length_cons] at this; omega
    obtain ⟨he1, he2⟩ := R.wd e (.head _)
    have hah := R.hh
    have hct := common_take ah e.1
    have hc10 : commonN ah e.1 ≤ 10 := Nat.le_trans hct.2 he1
    have h9 : 64 * e.1.length + commonN ah e.1 < 64 ^ 9 := Nat.lt_of_lt_of_le (m := 64 * 11) (by omega) (by decide)
    have eA : numOf 0 (octA ah e) = 64 * e.1.length + commonN ah e.1 := (numOf_bump _ _).trans (numOf_octL h9)
    have eB : numOf 0 (octL e.2) = e.2 := numOf_octL he2
    have lA : (octA ah e).length ≤ 140 := by rw [octA, bump_len]; exact Nat.le_trans (octL_len _) (by decide)
    have lB : (octL e.2).length ≤ 140 := Nat.le_trans (octL_len _) (by decide)
    have d1 : (64 * e.1.length + commonN ah e.1) / 64 = e.1.length := by omega
    have d2 : (64 * e.1.length + commonN ah e.1) % 64 = commonN ah e.1 := by omega
    have hrl := rowsGo_len ah i (e :: l) R.hh fun e he => (R.wd e he).1
    have hl9 : (e :: l).length ≤ 9 := by have := R.ss; omega
    have hnn := R.nn
    have en1 : rowsGo ah i (e :: l) ++ tl = writ (rowWord ah e.1) i ++ (rowsGo e.1 (i + 1) l ++ tl) := List.append_assoc ..
    have hsl : (writ (rowWord ah e.1) i ++ (rowsGo e.1 (i + 1) l ++ tl)).length ≤ 1000000 := by rw [← en1, List.length_append]; omega
    have hrw := rowWord_len hah he1
    have hdl : (e.1.drop (commonN ah e.1)).length ≤ 500 := by rw [List.length_drop]; omega
    rw [en1] at hnn
    rw [en1, show bytesGo ah (e :: l) = octA ah e ++ (octL e.2 ++ bytesGo e.1 l) from rfl, ← natL_append, ← natL_append]
    obtain ⟨rst, hrst⟩ : ∃ r, r = rowsGo e.1 (i + 1) l ++ tl := ⟨_, rfl⟩
    rw [← hrst] at hnn hsl ⊢
    refine Exs.cons <| Ex.tryX (Y := noX) (cls := "StopIteration") (L := L) on (by decide) (isSubtype_of_subB (by decide +kernel)) (isSubtype_of_subB (by decide +kernel)) (isSubtype_of_subB (by decide +kernel)) (Ψ := fun _ => False) ?tbody ?thn ?tk
    case thn => exact fun e σ Θ h => Ev.built W.g (W.noGlob rfl rfl) W.b (W.built rfl) (fun h => VR.mkTy) h
    case tk => exact fun _ _ _ _ _ h => h.elim
    refine Exs.cons <| Ex.assignTuple <| Ev.callB <| Ev.built W.g (W.noGlob rfl rfl) W.b (W.built rfl) (fun h => VR.mkBi) ⟨rfl, Arg.cons <| Ev.callFn (W.fn (a := 28) rfl) <| Ev.glob W.g (W.glob rfl) (fun h => VR.mkRef) ⟨rfl, Arg.cons <| Ev.name (lN (lk.at 1 rfl)) <| Arg.nil <| (parseVarint W ((oct_octL _).bump (octL_lt _)) lA).use (own := [(it, .iter d (natL (octA ah e) ++ _))]) (R := (en, .list acc) :: lexOwn a ln2 [] _) g1 fun av own' h => ?_⟩⟩
    obtain ⟨rfl, rfl⟩ := h
    refine Arg.cons <| Ev.int <| Arg.nil <| Cal.divmod (b := 64) (by decide) (by decide) (noPy (by decide)) ?_
    rw [show bump (octL (64 * e.1.length + commonN ah e.1)) = octA ah e from rfl, eA, d1, d2]
    refine Asg.tuple (g.hd rfl) rfl <| AsgL.cons <| Asg.name <| AsgL.cons <| Asg.name <| AsgL.nil ?_
    refine Exs.step ((it, .iter d (natL (bytesGo e.1 l))) :: (en, .list acc) :: lexOwn a ln2 [] (writ (rowWord ah e.1) i ++ rst)) [("lexer", .ref a.x), ("octets", .ref it), ("entries", .ref en), ("ahead", .str ah), ("length", .int e.1.length), ("count", .int (commonN ah e.1)), ("page", .int e.2)] ?s1 (fun lc l1 => Exs.nil ?_)
    case s1 =>
      refine Ex.assign <| Ev.callFn (W.fn (a := 28) rfl) <| Ev.glob W.g (W.glob rfl) (fun h => VR.mkRef) ⟨rfl, Arg.cons <| Ev.name (lN (lN (lN (lk.at 1 rfl)))) <| Arg.nil <| (parseVarint W (oct_octL e.2) lB).use (own := [(it, .iter d (natL (octL e.2) ++ natL (bytesGo e.1 l)))]) (R := (en, .list acc) :: lexOwn a ln2 [] _) g1 fun av own' h => ?_⟩
      obtain ⟨rfl, rfl⟩ := h
      exact ⟨rfl, rfl, .cons (lN (lN (lN (lN (lk.at 0 rfl))))) <| .cons (lN (lN (lN (lN (lk.at 1 rfl))))) <| .cons (lN (lN (lN (lN (lk.at 2 rfl))))) <| .cons (lN (lN (lN (lN (lk.at 3 rfl))))) <| .cons (lN (lN lS)) <| .cons (lN lS) <| .cons (by rw [eB]; exact lS) .nil⟩
    clear lk eA eB lA lB d1 d2 h9
    refine Tri.perm (own' := lexOwn a ln2 [] (writ (rowWord ah e.1) i ++ rst) ++ [(it, .iter d (natL (bytesGo e.1 l))), (en, .list acc)]) (List.perm_append_comm (l₁ := [_, _])) ?_
    refine Exs.cons <| Ex.assign <| Ev.binop <| Ev.sslice <| Ev.name (l1.at 3 rfl) <| Part.none <| Part.some <| Ev.name (l1.at 5 rfl) ⟨_, rfl, trivial, (by show (0 : Int) ≤ _; omega), ah, rfl, by omega, Ev.callFn (W.fn (a := 42) rfl) <| Ev.glob W.g (W.glob rfl) (fun h => VR.mkRef) ⟨rfl, Arg.cons <| Ev.methI W.k <| Ev.name (l1.at 0 rfl) ⟨4, a.x, 80, a.dx, _, rfl, rfl, mn_get_token _, rfl, Arg.nil <| (getScan W H (toksWrit _ _ _) hsl (by omega)).use (own := lexOwn a ln2 [] _) (R := [(it, .iter d (natL (bytesGo e.1 l))), (en, .list acc)]) g fun av own' h => ?_⟩⟩⟩
    obtain ⟨rfl, ln3, hn3, rfl⟩ := h
    rw [hnn] at hn3
    rw [show rowWord ah e.1 = List.replicate (commonN ah e.1) 32 ++ e.1.drop (commonN ah e.1) from rfl]
    refine Arg.cons <| Ev.name (l1.at 5 rfl) <| Arg.nil <| (stripRow (c := commonN ah e.1) W hdl (by omega)).use (own := []) (R := lexOwn a ln3 [] rst ++ [(it, .iter d (natL (bytesGo e.1 l))), (en, .list acc)]) g1 fun av own' h => ?_
    obtain ⟨rfl, rfl⟩ := h
    refine Op2.add_s (by show (List.take _ _).length + _ ≤ _; rw [List.length_take]; omega) ?_
    rw [show cut none (some ((commonN ah e.1 : Nat) : Int)) ah ++ e.1.drop (commonN ah e.1) = e.1 from row_joined ah e.1]
    refine Exs.cons <| Ex.expr <| Ev.meth F.plainAttrs_list F.slot_list_append F.type_list_append <| Ev.name (lN (l1.at 2 rfl)) ⟨HasT.list 8 rfl, Arg.cons <| Ev.tuple <| Arg.cons <| Ev.name lS <| Arg.cons <| Ev.name (lN (l1.at 4 rfl)) <| Arg.cons <| Ev.name (lN (l1.at 5 rfl)) <| Arg.cons <| Ev.name (lN (l1.at 6 rfl)) <| Arg.nil ⟨le4, Arg.nil <| Cal.append 8 rfl (by rw [R.len]; omega) <| Exs.nil ?_⟩⟩
    rw [hrst] at hn3 ⊢
    refine ⟨e.1, l, acc ++ [rowAV ah e], ln3, List.perm_append_comm (l₁ := lexOwn a ln3 [] _) (l₂ := [(it, .iter d (natL (bytesGo e.1 l))), (en, .list (acc ++ [rowAV ah e]))]), .cons (lN (l1.at 0 rfl)) <| .cons (lN (l1.at 1 rfl)) <| .cons (lN (l1.at 2 rfl)) <| .cons lS .nil, ?_, ?_, ?_, hn3, he1, fun x hx => R.wd x (.tail _ hx)⟩
    · rw [← R.cc, List.append_assoc]; rfl
    · rw [List.length_append, R.len]; rfl
    · have := R.ss
      rw [List.length_cons] at this; omega
end
end Mine

-- NJ
namespace Mine
open PySem PySem.Calls PyProof.Rows PySem.W

def addHead (hs : List (List Nat)) (h : List Nat) : List (List Nat) := if h ∈ hs then hs else hs ++ [h]
def headGo (hs : List (List Nat)) (w : List Nat) : Nat → List (List Nat)
  | 0 => hs
  | k + 1 => addHead (headGo hs w k) (w.take (k + 1))
def headsOf (ws : List (List Nat)) : List (List Nat) := ws.foldl (fun hs w => headGo hs w w.length) []
theorem addHead_len (hs : List (List Nat)) (h : List Nat) : (addHead hs h).length ≤ hs.length + 1 := by
  unfold addHead
  split
  · exact Nat.le_succ _
  · rw [List.length_append]; exact Nat.le_refl _
theorem headGo_len (hs : List (List Nat)) (w : List Nat) : ∀ k, (headGo hs w k).length ≤ hs.length + k
  | 0 => Nat.le_refl _
  | k + 1 => Nat.le_trans (addHead_len _ _) (Nat.succ_le_succ (headGo_len hs w k))
theorem foldHead_len : ∀ (ws : List (List Nat)) (hs : List (List Nat)), (∀ w ∈ ws, w.length ≤ 4) → (ws.foldl (fun hs w => headGo hs w w.length) hs).length ≤ hs.length + 4 * ws.length
  | [], hs, _ => Nat.le_refl _
  | w :: ws, hs, h => by
    have h1 := headGo_len hs w w.length
    have h2 := h w (.head _)
    have h3 := foldHead_len ws (headGo hs w w.length) fun x hx => h x (.tail _ hx)
    rw [List.foldl_cons, List.length_cons]; omega
theorem headsOf_len {ws : List (List Nat)} (hz : ws.length ≤ 10) (h : ∀ w ∈ ws, w.length ≤ 4) : (headsOf ws).length < 64 := by
  have := foldHead_len ws [] h
  rw [List.length_nil] at this
  exact Nat.lt_of_le_of_lt this (by omega)
theorem headsOf_take {ws : List (List Nat)} {i : Nat} {w : List Nat} (h : ws[i]? = some w) : headsOf (ws.take (i + 1)) = headGo (headsOf (ws.take i)) w w.length := by
  unfold headsOf
  rw [List.take_add_one, h, List.foldl_append]; rfl

section
variable {prog : Program} {w : World} {b0 : Heap} {mg mb : Str → Option Value}

theorem lawHeads (W : Wd w b0 mg mb) {wl : Addr} {ws : List (List Nat)} (hz : ws.length ≤ 10) (hw : ∀ w ∈ ws, w.length ≤ 4) :
    Fun prog w b0 true 1 (.ref 139) [.ref wl] [(wl, .list (ws.map .str))] (fun r own => ∃ (d : Addr) (srt : List (List Nat)), r = .ref d ∧ srt.Perm (headsOf ws) ∧ srt.Pairwise (fun x y => ¬ y < x) ∧ own = [(d, .list (srt.map .str)), (wl, .list (ws.map .str))]) := by
  refine Fun.introP (ps := ["words"]) (W.k _ _ rfl) rfl rfl rfl ⟨_, _, _, _, rfl, W.k _ _ rfl, rfl, rfl⟩ W.nl (fun vs h => ?_) rfl (by decide) (by decide) (by decide) (fun A L K g => ?_)
  · exact bind1 h (by exact fun _ => rfl)
  refine Exs.cons <| Ex.assign <| Ev.list <| Arg.nil ⟨Nat.zero_le _, fun hd => ?_⟩
  refine Exs.cons <| Tri.frame (own := [(hd, .list [])]) (R := [(wl, .list (ws.map .str))]) <| Tri.pre (Ex.forH [(wl, .list (ws.map .str))] <| Ev.name rfl ⟨ws.map .str, fun i σ => σ.own = [(hd, .list ((headsOf (ws.take i)).map .str))] ∧ Lk σ.loc [("heads", .ref hd)], Itr.list (g.hd rfl) (.head _), ⟨rfl, .cons rfl .nil⟩, fun i x σ' hx hI => ?_, fun σ' hI => ?_⟩) (fun h p => p.2)
  · obtain ⟨lc, own⟩ := σ'
    obtain ⟨rfl, lk⟩ := hI
    rw [List.getElem?_map] at hx
    obtain ⟨wd, hwd, rfl⟩ := Option.map_eq_some_iff.mp hx
    have h4 := hw wd (List.mem_of_getElem? hwd)
    have hS := headsOf_take hwd
    have hl : (headsOf (ws.take i)).length < 64 := headsOf_len (by rw [List.length_take]; omega) fun x hx => hw x (List.mem_of_mem_take hx)
    obtain ⟨hs, eS⟩ : ∃ S, S = headsOf (ws.take i) := ⟨_, rfl⟩
    rw [← eS] at hl hS ⊢
    clear eS hx
    refine Asg.name <| Exs.cons <| Ex.for <| Ev.callT <| Ev.built W.g (W.noGlob rfl rfl) W.b (W.built rfl) (fun h => VR.mkTy) ⟨rfl, Arg.cons <| Ev.callB <| Ev.built W.g (W.noGlob rfl rfl) W.b (W.built rfl) (fun h => VR.mkBi) ⟨rfl, Arg.cons <| Ev.name lkS <| Arg.nil <| Cal.len_s (by omega) <| Arg.nil <| Cal.range1 ?_⟩⟩
    refine ⟨_, fun k σ => k ≤ wd.length ∧ σ.own = [(hd, .list ((headGo hs wd k).map .str))] ∧ Lk σ.loc [("heads", .ref hd), ("word", .str wd)], Itr.range (g.hd rfl) (by decide) (by decide) (by omega) (by omega), ⟨Nat.zero_le _, rfl, .cons (lkN (lk.at 0 rfl)) <| .cons lkS .nil⟩, fun k x σ' hx hI => ?_, fun σ' hI => ?_⟩
    · obtain ⟨lc, own⟩ := σ'
      obtain ⟨_, rfl, l1⟩ := hI
      obtain ⟨hk, rfl⟩ := rangeAt hx
      have hk : k < wd.length := by omega
      have hgl := headGo_len hs wd k
      obtain ⟨H, eH⟩ : ∃ H, H = headGo hs wd k := ⟨_, rfl⟩
      rw [← eH] at hgl
      have eN : headGo hs wd (k + 1) = addHead H (wd.take (k + 1)) := by rw [headGo, ← eH]
      rw [← eH]
      have hsl : okPart (some ((k : Int) + 1)) := by show (0 : Int) ≤ _; omega
      have ec : cut none (some ((k : Int) + 1)) wd = wd.take (k + 1) := by show wd.take ((k : Int) + 1).toNat = _; rw [show ((k : Int) + 1).toNat = k + 1 by omega]
      refine Asg.name <| Exs.cons <| Ex.iff <| Tst.cmp <| Ev.sslice <| Ev.name (lkN (l1.at 1 rfl)) <| Part.none <| Part.some <| Ev.binop <| Ev.name lkS <| Ev.int <| Op2.add ⟨_, rfl, trivial, hsl, wd, rfl, by omega, ?_⟩
      rw [ec]
      refine Ev.name (lkN (l1.at 0 rfl)) <| Op2.notInL 0 rfl <| Tru.bool ⟨fun h => ?_, fun h => Exs.nil <| Exs.nil ⟨hk, ?_, .cons (lkN (l1.at 0 rfl)) <| .cons (lkN (l1.at 1 rfl)) .nil⟩⟩
      · refine Exs.cons <| Ex.expr <| Ev.meth F.plainAttrs_list F.slot_list_append F.type_list_append <| Ev.name (lkN (l1.at 0 rfl)) ⟨HasT.list 0 rfl, Arg.cons <| Ev.sslice <| Ev.name (lkN (l1.at 1 rfl)) <| Part.none <| Part.some <| Ev.binop <| Ev.name lkS <| Ev.int <| Op2.add ⟨_, rfl, trivial, hsl, wd, rfl, by omega, ?_⟩⟩
        rw [ec]
        refine Arg.nil <| Cal.append 0 rfl (by rw [List.length_map]; omega) <| Exs.nil <| Exs.nil ⟨hk, ?_, .cons (lkN (l1.at 0 rfl)) <| .cons (lkN (l1.at 1 rfl)) .nil⟩
        have hm : wd.take (k + 1) ∉ H := by simpa using h
        rw [eN, addHead, if_neg hm, List.map_append]; rfl
      · have hm : wd.take (k + 1) ∈ H := by simpa using h
        rw [eN, addHead, if_pos hm]; rfl
    · obtain ⟨lc, own⟩ := σ'
      obtain ⟨_, rfl, l1⟩ := hI
      rw [List.length_map, List.length_range, show ((wd.length : Nat) - (0 : Int)).toNat = wd.length by omega]
      exact Exs.nil ⟨by rw [hS], .cons (l1.at 0 rfl) .nil⟩
  · obtain ⟨lc, own⟩ := σ'
    obtain ⟨rfl, lk⟩ := hI
    rw [List.length_map, List.take_length]
    exact Exs.cons <| Ex.ret <| Ev.callB <| Ev.built W.g (W.noGlob rfl rfl) W.b (W.built rfl) (fun h => VR.mkBi) ⟨rfl, Arg.cons <| Ev.name (lk.at 0 rfl) <| Arg.nil <| Cal.sortedS 0 rfl (headsOf_len hz hw) fun d srt hp hs => ⟨[(d, .list (srt.map .str)), (wl, .list (ws.map .str))], [(hd, .list ((headsOf ws).map .str))], List.Perm.cons _ (List.Perm.swap ..), d, srt, rfl, hp, hs, rfl⟩⟩
end
end Mine

-- NK
namespace Mine
open PySem PySem.Calls PyProof.Rows PySem.W

/-! words in order -/
theorem lt_of_take : ∀ (n : Nat) {x y : List Nat}, x.take n < y.take n → x < y
  | 0, _, _, h => absurd h (List.not_lt_nil _)
  | _ + 1, _, [], h => absurd h (List.not_lt_nil _)
  | _ + 1, [], b :: y, _ => List.nil_lt_cons b y
  | n + 1, a :: x, b :: y, h => by
    rw [List.take_succ_cons, List.take_succ_cons] at h
    exact List.cons_lt_cons_iff.mpr ((List.cons_lt_cons_iff.mp h).imp id fun ⟨e, k⟩ => ⟨e, lt_of_take n k⟩)
theorem lt_or {x y : List Nat} (h : ¬ x < y) : x = y ∨ y < x := by
  by_cases k : y < x
  · exact .inr k
  · exact .inl (List.le_antisymm (show x ≤ y from k) (show y ≤ x from h))
theorem ltT {x y z : List Nat} (h : x < y) (k : y < z) : x < z := List.lt_trans h k
theorem ltLe {x y z : List Nat} (h : x < y) (k : ¬ z < y) : x < z := (lt_or k).elim (fun e => e ▸ h) (ltT h)
theorem leLt {x y z : List Nat} (h : ¬ y < x) (k : y < z) : x < z := (lt_or h).elim (fun e => e ▸ k) fun h => ltT h k
theorem take_mono {x y : List Nat} (n : Nat) (h : x < y) : ¬ y.take n < x.take n := fun k => List.lt_asymm (lt_of_take n k) h
theorem take_le : ∀ (n : Nat) (x : List Nat), ¬ x < x.take n
  | 0, x => List.not_lt_nil x
  | _ + 1, [] => List.not_lt_nil _
  | n + 1, a :: x => fun k => by
    rw [List.take_succ_cons] at k
    exact (List.cons_lt_cons_iff.mp k).elim (Nat.lt_irrefl _) fun k => take_le n x k.2

theorem take_strict {a b : List Nat} (h : a < b) : a.take (commonN a b + 1) < b.take (commonN a b + 1) := by
  obtain ⟨_, h2, h3⟩ := common_spec a b
  rcases lt_or (take_mono (commonN a b + 1) h) with e | e
  · exfalso
    by_cases hc : commonN a b < a.length
    · have k := h2 hc
      by_cases hb : commonN a b < b.length
      · rw [sameAt, decide_eq_true hb, decide_eq_true e.symm] at k
        cases k
      · have := congrArg List.length e
        rw [List.length_take, List.length_take] at this
        omega
    · have hb : b.take (commonN a b + 1) = a := by rw [e, List.take_of_length_le (by omega)]
      have h5 := congrArg List.length hb
      rw [List.length_take] at h5
      have : b = a := by rw [← hb, List.take_of_length_le (by omega)]
      exact List.lt_irrefl _ (this ▸ h)
  · exact e

/-- what is sorted, each once -/
theorem sortedIs {srt l u : List (List Nat)} (hp : srt.Perm l) (hs : srt.Pairwise (fun x y => ¬ y < x)) (hn : l.Nodup) (hu : u.Pairwise (· < ·)) (hm : ∀ x, x ∈ l ↔ x ∈ u) : srt = u := by
  have nu : u.Nodup := hu.imp fun {a b} (h : a < b) (e : a = b) => List.lt_irrefl b (e ▸ h)
  exact List.Perm.eq_of_pairwise (le := fun x y : List Nat => ¬ y < x) (fun a b _ _ h k => List.le_antisymm (show a ≤ b from h) (show b ≤ a from k)) hs (hu.imp fun {a b} (h : a < b) => List.lt_asymm h) (hp.trans ((List.perm_ext_iff_of_nodup hn nu).mpr hm))

/-! the shelf -/
structure ShelfI (ps : List Nat) (sh : List Entry) : Prop where
  srt : sh.Pairwise fun (x y : Entry) => x.1 < y.1
  fst : ∀ e ∈ sh, ∃ j : Nat, (ps.map drawn)[j]? = some e.1 ∧ (∀ m : Nat, m < j → (ps.map drawn)[m]? ≠ some e.1) ∧ ps[j]? = some e.2
  all : ∀ p ∈ ps, ∃ e ∈ sh, e.1 = drawn p

theorem put_srt {w : List Nat} {x : Entry} (hx : x.1 = w) : ∀ {sh : List Entry}, (sh.Pairwise fun (x y : Entry) => x.1 < y.1) → (∀ e, sh[lead w sh]? = some e → e.1 ≠ w) → (sh.take (lead w sh) ++ x :: sh.drop (lead w sh)).Pairwise fun (x y : Entry) => x.1 < y.1
  | [], _, _ => List.pairwise_singleton ..
  | e :: r, h, hn => by
    obtain ⟨h1, h2⟩ := List.pairwise_cons.mp h
    by_cases he : e.1 < w
    · have el : lead w (e :: r) = lead w r + 1 := if_pos he
      rw [el] at hn ⊢
      rw [List.take_succ_cons, List.drop_succ_cons, List.cons_append]
      refine List.pairwise_cons.mpr ⟨fun y hy => ?_, put_srt hx h2 hn⟩
      rcases List.mem_append.mp hy with hy | hy
      · exact h1 y (List.mem_of_mem_take hy)
      · rcases List.mem_cons.mp hy with rfl | hy
        · rw [hx]; exact he
        · exact h1 y (List.mem_of_mem_drop hy)
    · have el : lead w (e :: r) = 0 := if_neg he
      rw [el] at hn ⊢
      have hw : w < e.1 := (lt_or he).resolve_left (hn e rfl)
      refine List.pairwise_cons.mpr ⟨fun y hy => ?_, h⟩
      rw [hx]
      rcases List.mem_cons.mp hy with rfl | hy
      · exact hw
      · exact ltT hw (h1 y hy)

theorem ShelfI.put {ps : List Nat} {sh : List Entry} (I : ShelfI ps sh) (p : Nat) : ShelfI (ps ++ [p]) (putShelf sh p) := by
  have em : (ps ++ [p]).map drawn = ps.map drawn ++ [drawn p] := by rw [List.map_append]; rfl
  have old : ∀ e ∈ sh, ∃ j : Nat, ((ps ++ [p]).map drawn)[j]? = some e.1 ∧ (∀ m : Nat, m < j → ((ps ++ [p]).map drawn)[m]? ≠ some e.1) ∧ (ps ++ [p])[j]? = some e.2 := fun e he => by
    obtain ⟨j, h1, h2, h3⟩ := I.fst e he
    have hj := (List.getElem?_eq_some_iff.mp h1).1
    rw [em]
    refine ⟨j, by rw [List.getElem?_append_left hj]; exact h1, fun m hm => by rw [List.getElem?_append_left (Nat.lt_trans hm hj)]; exact h2 m hm, by rw [List.getElem?_append_left (List.getElem?_eq_some_iff.mp h3).1]; exact h3⟩
  unfold putShelf
  by_cases hx : ∃ e, sh[lead (drawn p) sh]? = some e ∧ e.1 = drawn p
  · rw [if_pos hx]
    refine ⟨I.srt, old, fun q hq => ?_⟩
    rcases List.mem_append.mp hq with hq | hq
    · exact I.all q hq
    · obtain ⟨e, e1, e2⟩ := hx
      exact ⟨e, List.mem_of_getElem? e1, by rw [List.mem_singleton.mp hq]; exact e2⟩
  · rw [if_neg hx]
    have ns := put_srt (x := (drawn p, p)) rfl I.srt fun e e1 e2 => hx ⟨e, e1, e2⟩
    have mem : ∀ e ∈ sh, e ∈ sh.take (lead (drawn p) sh) ++ (drawn p, p) :: sh.drop (lead (drawn p) sh) := fun e he => by
      rw [← List.take_append_drop (lead (drawn p) sh) sh] at he
      exact (List.mem_append.mp he).elim (List.mem_append_left _) fun h => List.mem_append_right _ (.tail _ h)
    refine ⟨ns, fun e he => ?_, fun q hq => ?_⟩
    · rcases List.mem_append.mp he with he | he
      · exact old e (List.mem_of_mem_take he)
      · rcases List.mem_cons.mp he with rfl | he
        · refine ⟨ps.length, ?_, fun m hm z => ?_, List.getElem?_concat_length⟩
          · rw [em, ← List.length_map (f := drawn) (as := ps)]; exact List.getElem?_concat_length
          · rw [em, List.getElem?_append_left (by rw [List.length_map]; exact hm), List.getElem?_map] at z
            obtain ⟨q, hq, e⟩ := Option.map_eq_some_iff.mp z
            obtain ⟨e', he', e2⟩ := I.all q (List.mem_of_getElem? hq)
            have key : ∀ e ∈ sh, e.1 ≠ drawn p := fun e he k => by
              obtain ⟨_, q2, q3⟩ := List.pairwise_append.mp ns
              rw [← List.take_append_drop (lead (drawn p) sh) sh] at he
              rcases List.mem_append.mp he with he | he
              · have := q3 e he (drawn p, p) (.head _)
                rw [k] at this; exact List.lt_irrefl _ this
              · have := (List.pairwise_cons.mp q2).1 e he
                rw [k] at this; exact List.lt_irrefl _ this
            exact key e' he' (e2.trans e)
        · exact old e (List.mem_of_mem_drop he)
    · rcases List.mem_append.mp hq with hq | hq
      · obtain ⟨e, he, e2⟩ := I.all q hq
        exact ⟨e, mem e he, e2⟩
      · exact ⟨(drawn p, p), List.mem_append_right _ (.head _), by rw [List.mem_singleton.mp hq]⟩
theorem ShelfI.fold : ∀ (ps qs : List Nat) (sh : List Entry), ShelfI qs sh → ShelfI (qs ++ ps) (ps.foldl putShelf sh)
  | [], qs, sh, I => by rw [List.append_nil]; exact I
  | p :: ps, qs, sh, I => by
    have := ShelfI.fold ps (qs ++ [p]) _ (I.put p)
    rwa [List.append_assoc] at this
theorem shelfI (ps : List Nat) : ShelfI ps (shelfOf ps) := ShelfI.fold ps [] [] ⟨.nil, fun e he => (nomatch he), fun p hp => (nomatch hp)⟩

theorem shelf_ok {ps : List Nat} (hp : ∀ p ∈ ps, p < 64 ^ 9) : ∀ e ∈ shelfOf ps, e.1.length ≤ 4 ∧ e.2 < 64 ^ 9 := fun e he => by
  obtain ⟨j, h1, _, h2⟩ := (shelfI ps).fst e he
  obtain ⟨p, _, e1⟩ := List.mem_map.mp (List.mem_of_getElem? h1)
  exact ⟨e1 ▸ drawn_len p, hp _ (List.mem_of_getElem? h2)⟩

def tl2 : List Nat := [10, 32, 9, 13]
def LnOk (ln : Nat) (T : List Nat) : Prop := ln + nl tl2 = 1 + nl T
theorem idx_len {sh : List Entry} (h : sh.length ≤ 9) (hw : ∀ e ∈ sh, e.1.length ≤ 10) : (indexOf sh ++ tl2).length ≤ 10000 := by
  have h1 := packedGo_len [] sh
  have h2 := writ_len (packedGo [] sh) 0
  have h3 := rowsGo_len [] 0 sh (Nat.zero_le _) hw
  rw [indexOf, List.length_append, List.length_append]
  show _ + _ + 4 ≤ _
  omega

/-! the words due -/
def fst1 (ws : List (List Nat)) : Nat → List (List Nat)
  | 0 => []
  | i + 1 => if ws.getD i [] ∈ ws.take i then fst1 ws i else fst1 ws i ++ [ws.getD i []]
theorem fst1_mem {ws : List (List Nat)} : ∀ {i : Nat}, i ≤ ws.length → (∀ x, x ∈ fst1 ws i ↔ x ∈ ws.take i) ∧ (fst1 ws i).Nodup ∧ (fst1 ws i).length ≤ i
  | 0, _ => ⟨fun x => by rw [List.take_zero]; exact Iff.rfl, .nil, Nat.le_refl _⟩
  | i + 1, h => by
    obtain ⟨ih, nd, hl⟩ := fst1_mem (ws := ws) (i := i) (Nat.le_of_succ_le h)
    have e : ws.take (i + 1) = ws.take i ++ [ws.getD i []] := by
      rw [List.take_add_one, List.getD_eq_getElem?_getD, List.getElem?_eq_getElem h]; rfl
    rw [fst1, e]
    split
    · rename_i hm
      refine ⟨fun x => (ih x).trans ⟨List.mem_append_left _, fun k => (List.mem_append.mp k).elim id fun k => by rw [List.mem_singleton.mp k]; exact hm⟩, nd, Nat.le_succ_of_le hl⟩
    · rename_i hm
      refine ⟨fun x => by rw [List.mem_append, List.mem_append, ih x], List.nodup_append.mpr ⟨nd, List.pairwise_singleton .., fun a ha b hb k => ?_⟩, by rw [List.length_append]; exact Nat.succ_le_succ hl⟩
      rw [k, List.mem_singleton.mp hb] at ha
      exact hm ((ih _).mp ha)
theorem fst1_new {ws : List (List Nat)} {i : Nat} (h : (!decide (ws.getD i [] ∈ ws.take i)) = true) : (fst1 ws i).map AV.str ++ [.str (ws.getD i [])] = (fst1 ws (i + 1)).map AV.str := by
  rw [fst1, if_neg (of_decide_eq_false (by simpa using h)), List.map_append]; rfl
theorem fst1_old {ws : List (List Nat)} {i : Nat} (h : (!decide (ws.getD i [] ∈ ws.take i)) = false) : (fst1 ws i).map AV.str = (fst1 ws (i + 1)).map AV.str := by
  rw [fst1, if_pos (of_decide_eq_true (by simpa using h))]
theorem due_is {ps : List Nat} {srt : List (List Nat)} (hp : srt.Perm (fst1 (ps.map drawn) (ps.map drawn).length)) (hs : srt.Pairwise fun x y => ¬ y < x) : srt = (shelfOf ps).map (·.1) := by
  obtain ⟨h1, h2, _⟩ := fst1_mem (ws := ps.map drawn) (Nat.le_refl _)
  have I := shelfI ps
  refine sortedIs hp hs h2 (List.pairwise_map.mpr I.srt) fun x => ?_
  rw [h1 x, List.take_length]
  constructor
  · intro h
    obtain ⟨p, hp, rfl⟩ := List.mem_map.mp h
    obtain ⟨e, he, e2⟩ := I.all p hp
    exact List.mem_map.mpr ⟨e, he, e2⟩
  · intro h
    obtain ⟨e, he, rfl⟩ := List.mem_map.mp h
    obtain ⟨j, j1, _⟩ := I.fst e he
    exact List.mem_of_getElem? j1

/-! the counts -/
def cnts : List Nat → List (List Nat) → List Nat
  | _, [] => []
  | a, w :: r => commonN a w :: cnts w r
theorem cnts_take : ∀ (n : Nat) (a : List Nat) (r : List (List Nat)), (cnts a r).take n = cnts a (r.take n)
  | 0, a, r => by rw [List.take_zero, List.take_zero]; rfl
  | n + 1, a, [] => rfl
  | n + 1, a, w :: r => by rw [cnts, List.take_succ_cons, List.take_succ_cons, cnts, cnts_take n]
theorem cnts_drop : ∀ (n : Nat) (a b : List Nat) (r : List (List Nat)), r[n]? = some b → (cnts a r).drop (n + 1) = cnts b (r.drop (n + 1))
  | 0, a, b, w :: r, h => by cases h; rfl
  | n + 1, a, b, w :: r, h => cnts_drop n w b r h
theorem chain {M : Nat} : ∀ {r : List (List Nat)} {a z : List Nat}, (a :: r).Pairwise (· < ·) → r.getLast? = some z → (∀ x ∈ cnts a r, M ≤ x) → a.take M = z.take M ∧ (M ∈ cnts a r → a.take (M + 1) < z.take (M + 1))
  | [], a, z, _, h, _ => nomatch h
  | w :: r, a, z, hp, hz, hM => by
    obtain ⟨p1, p2⟩ := List.pairwise_cons.mp hp
    have haw := p1 w (.head _)
    have m1 : M ≤ commonN a w := hM _ (.head _)
    have e1 : a.take M = w.take M := by
      have := congrArg (List.take M) (common_take a w).1
      rwa [List.take_take, List.take_take, Nat.min_eq_left m1] at this
    cases r with
    | nil =>
      cases hz
      refine ⟨e1, fun h => ?_⟩
      rcases List.mem_cons.mp h with rfl | h
      · exact take_strict haw
      · cases h
    | cons w2 r2 =>
      obtain ⟨i1, i2⟩ := chain (M := M) p2 hz fun x hx => hM x (.tail _ hx)
      have hwz : w < z := (List.pairwise_cons.mp p2).1 z (List.mem_of_getLast? hz)
      refine ⟨e1.trans i1, fun h => ?_⟩
      rcases List.mem_cons.mp h with rfl | h
      · exact ltLe (take_strict haw) (take_mono _ hwz)
      · exact leLt (take_mono _ haw) (i2 h)

/-- two words and the least of the counts between them -/
theorem between {u : List (List Nat)} (hu : u.Pairwise (· < ·)) {f l M : Nat} {a z : List Nat} (hfl : f < l) (ha : u[f]? = some a) (hz : u[l]? = some z) (hM : M ∈ ((cnts [] u).take (l + 1)).drop (f + 1)) (hle : ∀ x ∈ ((cnts [] u).take (l + 1)).drop (f + 1), M ≤ x) :
    a.take M = z.take M ∧ a.take (M + 1) < z.take (M + 1) := by
  have hf := (List.getElem?_eq_some_iff.mp ha).1
  have e : ((cnts [] u).take (l + 1)).drop (f + 1) = cnts a ((u.take (l + 1)).drop (f + 1)) := by
    rw [cnts_take, cnts_drop f [] a _ (by rw [List.getElem?_take_of_lt (by omega)]; exact ha)]
  rw [e] at hM hle
  have hd : a :: (u.take (l + 1)).drop (f + 1) = (u.take (l + 1)).drop f := by
    have h1 : (u.take (l + 1))[f]? = some a := by rw [List.getElem?_take_of_lt (by omega)]; exact ha
    obtain ⟨h2, h3⟩ := List.getElem?_eq_some_iff.mp h1
    rw [← h3]; exact (List.drop_eq_getElem_cons h2).symm
  have hl := (List.getElem?_eq_some_iff.mp hz).1
  have hg : ((u.take (l + 1)).drop (f + 1)).getLast? = some z := by
    rw [List.getLast?_drop, if_neg (by rw [List.length_take]; omega), List.getLast?_take, if_neg (by omega), Nat.add_sub_cancel, hz]; rfl
  have := chain (M := M) (by rw [hd]; exact (hu.sublist (List.take_sublist ..)).sublist (List.drop_sublist ..)) hg hle
  exact ⟨this.1, this.2 hM⟩
end Mine

-- NL
namespace Mine
open PySem PySem.Calls PyProof.Rows PySem.W

/-! the signs printed -/
def block (a w : List Nat) : List (List Nat) := (List.range (w.length - commonN a w)).map fun j => w.take (commonN a w + 1 + j)
def prs : List Nat → List Entry → List (List Nat)
  | _, [] => []
  | a, e :: r => block a e.1 ++ prs e.1 r
theorem prs_snoc (e : Entry) : ∀ (a : List Nat) (l : List Entry), prs a (l ++ [e]) = prs a l ++ block (lastW a l) e.1
  | a, [] => List.append_nil _
  | a, x :: l => by rw [List.cons_append, prs, prs_snoc e x.1 l, prs, List.append_assoc]; rfl
theorem cnts_snoc (e : Entry) : ∀ (a : List Nat) (l : List Entry), cnts a ((l ++ [e]).map (·.1)) = cnts a (l.map (·.1)) ++ [commonN (lastW a l) e.1]
  | a, [] => rfl
  | a, x :: l => congrArg (commonN a x.1 :: ·) (cnts_snoc e x.1 l)
theorem rows_at : ∀ {sh : List Entry} {a : List Nat} {i : Nat} {x : AV}, (rowsAV a sh)[i]? = some x → ∃ e, sh[i]? = some e ∧ x = rowAV (lastW a (sh.take i)) e ∧ sh.take (i + 1) = sh.take i ++ [e]
  | e :: sh, a, 0, x, h => ⟨e, rfl, (Option.some.inj h).symm, rfl⟩
  | e :: sh, a, i + 1, x, h => by
    obtain ⟨e', h1, h2, h3⟩ := rows_at (sh := sh) (a := e.1) (i := i) h
    exact ⟨e', h1, h2, congrArg (e :: ·) h3⟩
theorem rows_len : ∀ (a : List Nat) (sh : List Entry), (rowsAV a sh).length = sh.length
  | _, [] => rfl
  | _, e :: r => congrArg (· + 1) (rows_len e.1 r)

/-- what the comprehensions of the law make of the rows -/
def toldAV (e : Entry) : AV := .tup [.str e.1, .int e.2, .int e.1.length]
theorem told_next {sh : List Entry} {i : Nat} {e : Entry} (h : sh.take (i + 1) = sh.take i ++ [e]) : (sh.take i).map toldAV ++ [toldAV e] = (sh.take (i + 1)).map toldAV := by rw [h, List.map_append]; rfl
theorem told_flat {sh : List Entry} : ∀ x ∈ sh.map toldAV, EqAV x x true := fun x hx => by
  obtain ⟨e, _, rfl⟩ := List.mem_map.mp hx
  exact .tup1 fun y hy => by
    rcases List.mem_cons.mp hy with rfl | hy
    · exact .inr ⟨_, rfl⟩
    rcases List.mem_cons.mp hy with rfl | hy
    · exact .inl ⟨_, rfl⟩
    · rw [List.mem_singleton.mp hy]; exact .inl ⟨_, rfl⟩

theorem cnts_next {sh : List Entry} {i : Nat} {e : Entry} (h : sh.take (i + 1) = sh.take i ++ [e]) : natL (cnts [] ((sh.take i).map (·.1))) ++ [.int (commonN (lastW [] (sh.take i)) e.1 : Nat)] = natL (cnts [] ((sh.take (i + 1)).map (·.1))) := by
  rw [h, cnts_snoc, ← natL_append]; rfl
theorem least : ∀ {S : List Nat}, S ≠ [] → ∃ M ∈ S, ∀ x ∈ S, M ≤ x
  | [a], _ => ⟨a, .head _, fun x hx => by rw [List.mem_singleton.mp hx]; exact Nat.le_refl _⟩
  | a :: b :: r, _ => by
    obtain ⟨M, h1, h2⟩ := least (S := b :: r) (List.cons_ne_nil _ _)
    rcases Nat.le_total a M with h | h
    · exact ⟨a, .head _, fun x hx => (List.mem_cons.mp hx).elim (fun e => e ▸ Nat.le_refl _) fun k => Nat.le_trans h (h2 x k)⟩
    · exact ⟨M, .tail _ h1, fun x hx => (List.mem_cons.mp hx).elim (fun e => e ▸ h) (h2 x)⟩
theorem cnts_len : ∀ (a : List Nat) (r : List (List Nat)), (cnts a r).length = r.length
  | _, [] => rfl
  | _, w :: r => congrArg (· + 1) (cnts_len w r)

theorem cut_nat (C : List Nat) (i j : Nat) : cut (some ((j : Int) + 1)) (some ((i : Int) + 1)) (natL C) = (((C.take (i + 1)).drop (j + 1)).map fun (n : Nat) => (n : Int)).map AV.int := by
  show ((natL C).take (i + 1)).drop (j + 1) = _
  rw [natL, ← List.map_take, ← List.map_drop, List.map_map]; rfl
theorem ordL_lt1 {a b : List Nat} (h : a < b) : ordL a b = -1 := by
  unfold ordL
  rw [decide_eq_true h, decide_eq_false (List.lt_asymm h)]; rfl

theorem due_at {sh : List Entry} (hsw : ∀ e ∈ sh, e.1.length ≤ 4 ∧ e.2 < 64 ^ 9) {i : Nat} (h : i < (sh.map (·.1)).length) : ∃ w, (sh.map (·.1))[i]? = some w ∧ ((sh.map (·.1)).map AV.str)[i]? = some (.str w) ∧ w.length ≤ 4 := by
  have hi : i < sh.length := by rwa [List.length_map] at h
  refine ⟨(sh[i]).1, ?_, ?_, (hsw _ (List.getElem_mem hi)).1⟩
  · rw [List.getElem?_map, List.getElem?_eq_getElem hi]; rfl
  · rw [List.getElem?_map, List.getElem?_map, List.getElem?_eq_getElem hi]; rfl

theorem take_lt {w : List Nat} {m k : Nat} (h : m < k) (hk : k ≤ w.length) : w.take m < w.take k := by
  have e : w.take m = (w.take k).take m := by rw [List.take_take, Nat.min_eq_left (Nat.le_of_lt h)]
  rcases lt_or (e ▸ take_le m (w.take k) : ¬ w.take k < w.take m) with q | q
  · have := congrArg List.length q
    rw [List.length_take, List.length_take, Nat.min_eq_left hk, Nat.min_eq_left (Nat.le_trans (Nat.le_of_lt h) hk)] at this
    exact absurd this.symm (Nat.ne_of_lt h)
  · exact q
theorem block_mem {a w p : List Nat} : p ∈ block a w ↔ ∃ k, commonN a w ≤ k ∧ k < w.length ∧ p = w.take (k + 1) := by
  rw [block, List.mem_map]
  constructor
  · rintro ⟨j, hj, rfl⟩
    have := List.mem_range.mp hj
    exact ⟨commonN a w + j, Nat.le_add_right .., by omega, congrArg (w.take ·) (Nat.add_right_comm ..)⟩
  · rintro ⟨k, h1, h2, rfl⟩
    exact ⟨k - commonN a w, List.mem_range.mpr (Nat.sub_lt_sub_right h1 h2), congrArg (w.take ·) (by omega)⟩
theorem block_gt {a w : List Nat} (h : ¬ w < a) : (∀ p ∈ block a w, a < p ∧ ¬ w < p) ∧ (block a w).Pairwise (· < ·) := by
  refine ⟨fun p hp => ?_, ?_⟩
  · obtain ⟨k, h1, h2, rfl⟩ := block_mem.mp hp
    refine ⟨?_, take_le _ _⟩
    have hlt : a < w := (lt_or h).elim (fun e => by
      subst e
      have := (common_spec w w).2.1 (Nat.lt_of_le_of_lt h1 h2)
      rw [sameAt, decide_eq_true (Nat.lt_of_le_of_lt h1 h2), decide_eq_true rfl] at this
      cases this) id
    refine lt_of_take (commonN a w + 1) ?_
    rw [List.take_take, Nat.min_eq_left (Nat.succ_le_succ h1)]
    exact take_strict hlt
  · rw [block, List.pairwise_map]
    refine List.pairwise_lt_range.imp_of_mem fun {i j} hi hj hij => take_lt (Nat.add_lt_add_left hij _) ?_
    have := List.mem_range.mp hj
    omega
theorem prs_gt : ∀ {sh : List Entry} {a : List Nat}, (sh.Pairwise fun (x y : Entry) => x.1 < y.1) → (∀ e ∈ sh, ¬ e.1 < a) → (∀ p ∈ prs a sh, a < p) ∧ (prs a sh).Pairwise (· < ·)
  | [], a, _, _ => ⟨fun p hp => (nomatch hp), .nil⟩
  | e :: r, a, h, ha => by
    obtain ⟨h1, h2⟩ := List.pairwise_cons.mp h
    obtain ⟨i1, i2⟩ := prs_gt h2 fun x hx => List.lt_asymm (h1 x hx)
    obtain ⟨b1, b2⟩ := block_gt (ha e (.head _))
    refine ⟨fun p hp => (List.mem_append.mp hp).elim (fun k => (b1 p k).1) fun k => leLt (ha e (.head _)) (i1 p k), ?_⟩
    exact List.pairwise_append.mpr ⟨b2, i2, fun p hp q hq => leLt (b1 p hp).2 (i1 q hq)⟩
theorem prs_of : ∀ {sh : List Entry} {a p : List Nat}, p ∈ prs a sh → ∃ e ∈ sh, ∃ k, k < e.1.length ∧ p = e.1.take (k + 1)
  | e :: r, a, p, h => by
    rcases List.mem_append.mp h with h | h
    · obtain ⟨k, _, h2, h3⟩ := block_mem.mp h
      exact ⟨e, .head _, k, h2, h3⟩
    · obtain ⟨e', he, k⟩ := prs_of h
      exact ⟨e', .tail _ he, k⟩
theorem prs_all : ∀ {sh : List Entry} {a : List Nat} {e : Entry} {k : Nat}, e ∈ sh → k < e.1.length → e.1.take (k + 1) ∈ prs a sh ∨ e.1.take (k + 1) = a.take (k + 1)
  | x :: r, a, e, k, he, hk => by
    have head : k < x.1.length → x.1.take (k + 1) ∈ prs a (x :: r) ∨ x.1.take (k + 1) = a.take (k + 1) := fun hk => by
      by_cases hc : commonN a x.1 ≤ k
      · exact .inl (List.mem_append_left _ (block_mem.mpr ⟨k, hc, hk, rfl⟩))
      · have := congrArg (List.take (k + 1)) (common_take a x.1).1
        rw [List.take_take, List.take_take, Nat.min_eq_left (Nat.lt_of_not_le hc)] at this
        exact .inr this.symm
    rcases List.mem_cons.mp he with rfl | he
    · exact head hk
    · rcases prs_all (a := x.1) he hk with h | h
      · exact .inl (List.mem_append_right _ h)
      · have := congrArg List.length h
        rw [List.length_take, List.length_take] at this
        rw [h]; exact head (by omega)

theorem prs_next {sh : List Entry} {i : Nat} {e : Entry} (h : sh.take (i + 1) = sh.take i ++ [e]) : (prs [] (sh.take i)).map AV.str ++ ((List.range (e.1.length - commonN (lastW [] (sh.take i)) e.1)).map fun j => AV.str (e.1.take (commonN (lastW [] (sh.take i)) e.1 + 1 + j))) = (prs [] (sh.take (i + 1))).map AV.str := by
  rw [h, prs_snoc, List.map_append, block, List.map_map]; rfl
theorem pr_next {b : List AV} {w : List Nat} {c j : Nat} : (b ++ (List.range j).map fun j => AV.str (w.take (c + 1 + j))) ++ [.str (cut Option.none (some ((c : Int) + 1 + (j : Nat))) w)] = b ++ (List.range (j + 1)).map fun j => AV.str (w.take (c + 1 + j)) := by
  rw [List.range_succ, List.map_append, List.append_assoc]; rfl
theorem rangeFrom {a n : Int} {i : Nat} {x : AV} (h : ((List.range (n - a).toNat).map fun (i : Nat) => AV.int (a + i))[i]? = some x) : a + i < n ∧ x = .int (a + (i : Nat)) := by
  rw [List.getElem?_map] at h
  obtain ⟨j, hj, rfl⟩ := Option.map_eq_some_iff.mp h
  obtain ⟨h1, h2⟩ := List.getElem?_eq_some_iff.mp hj
  rw [List.getElem_range] at h2
  subst h2
  rw [List.length_range] at h1
  exact ⟨by omega, rfl⟩
theorem rangeLen (n c : Nat) : ((n : Int) + 1 - ((c : Int) + 1)).toNat = n - c := by omega
theorem tl2_toks : Toks tl2 [] [] := .stop _ (by decide)

/-! the heads -/
theorem addHead_mem {hs : List (List Nat)} {h x : List Nat} : x ∈ addHead hs h ↔ x ∈ hs ∨ x = h := by
  unfold addHead
  split
  · exact ⟨.inl, fun k => k.elim id fun e => by rw [e]; assumption⟩
  · rw [List.mem_append, List.mem_singleton]
theorem addHead_nd {hs : List (List Nat)} {h : List Nat} (n : hs.Nodup) : (addHead hs h).Nodup := by
  unfold addHead
  split
  · exact n
  · rename_i hn
    exact List.nodup_append.mpr ⟨n, List.pairwise_singleton .., fun a ha b hb e => hn (by rw [← List.mem_singleton.mp hb, ← e]; exact ha)⟩
theorem headGo_mem {hs : List (List Nat)} {w x : List Nat} : ∀ {k : Nat}, x ∈ headGo hs w k ↔ x ∈ hs ∨ ∃ j, j < k ∧ x = w.take (j + 1)
  | 0 => ⟨.inl, fun h => h.elim id fun ⟨j, hj, _⟩ => absurd hj (Nat.not_lt_zero j)⟩
  | k + 1 => by
    rw [headGo, addHead_mem, headGo_mem]
    constructor
    · rintro ((h | ⟨j, hj, e⟩) | h)
      · exact .inl h
      · exact .inr ⟨j, Nat.lt_succ_of_lt hj, e⟩
      · exact .inr ⟨k, Nat.lt_succ_self k, h⟩
    · rintro (h | ⟨j, hj, e⟩)
      · exact .inl (.inl h)
      · rcases Nat.lt_succ_iff_lt_or_eq.mp hj with h | rfl
        · exact .inl (.inr ⟨j, h, e⟩)
        · exact .inr e
theorem headGo_nd {hs : List (List Nat)} {w : List Nat} (n : hs.Nodup) : ∀ k, (headGo hs w k).Nodup
  | 0 => n
  | k + 1 => addHead_nd (headGo_nd n k)
theorem heads_mem {x : List Nat} : ∀ (ws hs : List (List Nat)), x ∈ ws.foldl (fun hs w => headGo hs w w.length) hs ↔ x ∈ hs ∨ ∃ w ∈ ws, ∃ j, j < w.length ∧ x = w.take (j + 1)
  | [], hs => ⟨.inl, fun h => h.elim id fun ⟨_, hw, _⟩ => (nomatch hw)⟩
  | w :: ws, hs => by
    rw [List.foldl_cons, heads_mem ws, headGo_mem]
    constructor
    · rintro ((h | h) | ⟨w', h', k⟩)
      · exact .inl h
      · exact .inr ⟨w, .head _, h⟩
      · exact .inr ⟨w', .tail _ h', k⟩
    · rintro (h | ⟨w', h', k⟩)
      · exact .inl (.inl h)
      · rcases List.mem_cons.mp h' with rfl | h'
        · exact .inl (.inr k)
        · exact .inr ⟨w', h', k⟩
theorem heads_nd : ∀ (ws : List (List Nat)) {hs : List (List Nat)}, hs.Nodup → (ws.foldl (fun hs w => headGo hs w w.length) hs).Nodup
  | [], _, h => h
  | w :: ws, _, h => heads_nd ws (headGo_nd h _)

theorem printed_is {ps : List Nat} {srt : List (List Nat)} (hp : srt.Perm (headsOf (ps.map drawn))) (hs : srt.Pairwise fun x y => ¬ y < x) : srt = prs [] (shelfOf ps) := by
  have I := shelfI ps
  refine sortedIs hp hs (heads_nd _ .nil) (prs_gt I.srt fun e _ => List.not_lt_nil _).2 fun x => ?_
  rw [headsOf, heads_mem]
  constructor
  · rintro (h | ⟨w, hw, j, hj, rfl⟩)
    · cases h
    · obtain ⟨p, hp, rfl⟩ := List.mem_map.mp hw
      obtain ⟨e, he, e2⟩ := I.all p hp
      rw [← e2] at hj ⊢
      refine (prs_all he hj).elim id fun h => ?_
      rw [List.take_nil] at h
      have := congrArg List.length h
      rw [List.length_take, List.length_nil] at this
      omega
  · intro h
    obtain ⟨e, he, k, hk, e2⟩ := prs_of h
    obtain ⟨j, j1, _⟩ := I.fst e he
    exact .inr ⟨e.1, List.mem_of_getElem? j1, k, hk, e2⟩
end Mine

-- P2
namespace Mine
open PySem PySem.Calls PyProof.Rows PySem.W

theorem mkWd {w : World} {b0 : Heap} {mg mb : Str → Option Value} {loose : List Str} {mean : ExcName → Option Value} (K : (hd.heap_39 w.params).In b0) (T : Top topProg loose mean mg mb b0) (C : CodeHd b0 126 122) (h98 : b0.get? 122 = none) : Wd w b0 mg mb :=
  ⟨K, T.g, T.b, T.builtins, T.nolimit, C, by
    obtain ⟨bm, ob, e1, e2, e3, e4, e5, e6⟩ := T.bmain
    refine ⟨bm, ob, e1, e2, fun z => ?_, fun z => ?_, e3, e4, e5, e6⟩
    · obtain ⟨o, es, ep, g, d, _⟩ := T.g
      rw [z, g] at e3; cases e3; rw [d] at e6; cases e6
    · rw [z, h98] at e3; cases e3⟩

def itemsOf (ns : List Int) : List Int := ns.take 5 ++ [139, 144, 33, 26]
def pageN (k : Int) : Nat := k.natAbs % 5 ^ 20
def pagesOf (ns : List Int) : List Nat := (itemsOf ns).map pageN
theorem items_len (ns : List Int) : (itemsOf ns).length ≤ 9 := by
  unfold itemsOf
  rw [List.length_append, List.length_take]
  exact Nat.add_le_add_right (Nat.min_le_left ..) 4
theorem pages_len (ns : List Int) : (pagesOf ns).length ≤ 9 := by rw [pagesOf, List.length_map]; exact items_len ns
theorem pages_lt (ns : List Int) : ∀ p ∈ pagesOf ns, p < 64 ^ 9 := fun p hp => by
  obtain ⟨k, _, rfl⟩ := List.mem_map.mp hp
  exact Nat.lt_trans (Nat.mod_lt _ (by decide)) (by decide)
theorem items_eq (ns : List Int) : (ns.map AV.int).take 5 ++ [AV.int 139, AV.int 144, AV.int 33, AV.int 26] = (itemsOf ns).map AV.int := by
  rw [itemsOf, List.map_append, List.map_take]; rfl
theorem pageAV (k : Int) : AV.int ((if k < 0 then -k else k).fmod ((5 : Int) ^ (20 : Int).toNat)) = AV.int (pageN k : Nat) := by
  have e : (if k < 0 then -k else k) = (k.natAbs : Int) := by split <;> omega
  rw [e]
  exact congrArg AV.int (fmodN k.natAbs (5 ^ 20))
end Mine
open PySem PySem.W PyProof.Rows
open Mine in
set_option maxHeartbeats 8000000 in
theorem PySem.Challenge.cw_tx0005_02_holds : PySem.Challenge.rw_tx0005_02.Holds := by
  refine hd ?_
  k_fill
  intro w s₀ s₁ mg mb G Y fa o pm cd doc dV kV ho hd hcd hD hmg hg args vals as hpre hlay hrd hwl hlo
  have KX := km_in_of Y
  km_tabs Y
  refine Ground.open G ?_
  intro T B D TE TW
  try (refine guard_noD D (by decide +kernel) ?_; clear D)
  km_lay T hmg ho hd cd
  clear hmg
  wrow_args hpre hlay hrd hwl hlo
  first | refine callC_kw (enter_call ?_) | refine enter_call ?_
  w_top on
  kn_posts
  have he := Dflts.none hD rfl; subst he; have he := Dflts.noKw hD; subst he
  refine Mine.callT (by decide) ho (fd_plain hd) (Top.nolimit T) hcd rfl rfl (by decide) fun h₁ tk₁ cells htk F N0 X0 => ?_
  cells_open X0
  clear hd
  kn_ghosts F T
  k_drop
  rename_i w5 hs hlay0 hL hr hl2 w4 w3 w2 w1 w0 hL2 ra w1' r0 hI hr2 hc1 hc2 oa ob ca cb X' T' K' F' N' l0
  refine Mine.topGoC (T := 122) (x := "script") (y1 := "words") (y2 := "pages") rfl F' N' ca cb rfl l0 rfl rfl htk (fun g => ?_) (fun h' tk' m' ps F2 g2 => ⟨goodW_bool F2 hg (fun cls => rfl) (by wrow_post), ⟨ps, g2⟩, trivial⟩)
  have W := Mine.mkWd X' T' codeHd (N' _ (.tail _ (.tail _ (.head _)))).2.2
  have hints := lifted
  generalize ghostOf s₁.heap [(126, 122)] = b0 at W hints g ⊢
  generalize s₁.heap.objs.size = L at g ⊢
  clear hs hlay0 hL hr hl2 hL2 ra w1' r0 hr2 hc2 X' T' K' F' N' l0 lifted codeHd hT8 hT9 G Y ho hcd hg T B TE TW X0
  obtain ⟨its, hits⟩ : ∃ its, its = itemsOf w5 := ⟨_, rfl⟩
  obtain ⟨pg, hpg⟩ : ∃ pg, pg = pagesOf w5 := ⟨_, rfl⟩
  have hil : its.length ≤ 9 := hits ▸ items_len w5
  have hit := items_eq w5
  have hpi : its.map pageN = pg := by rw [hits, hpg]; rfl
  have hpl : pg.length ≤ 9 := hpg ▸ pages_len w5
  have hpb : ∀ p ∈ pg, p < 64 ^ 9 := hpg ▸ pages_lt w5
  rw [← hits] at hit
  clear hits hpg hD
  refine Exs.stepD (fun _ => True) (fun pa => [(122, .raw (tabObj #[])), (pa, .list (natL pg))]) (fun pa => [("pages", .ref pa)]) (fun Ψ K => Ex.assign (hx := by exact .inr ⟨rfl, L + 1, rfl, .tail _ (.tail _ (.head _))⟩) <| evCompL (cl := []) (cells := [L + 1 + 1, L + 1]) g (by exact .none rfl rfl (by decide) (by decide) rfl) <| Ev.binop <| Ev.lsliceG <| Ev.name rfl <| Part.none <| Part.some <| Ev.int ⟨_, rfl, trivial, by show (0 : Int) ≤ 5; decide, w2, _, rfl, ints_of hints hI, by rw [List.length_map]; omega, fun d' => Ev.list <| Arg.cons <| Ev.int <| Arg.cons <| Ev.int <| Arg.cons <| Ev.int <| Arg.cons <| Ev.int <| Arg.nil ⟨le4, fun d2 => Op2.addL 1 0 rfl rfl ?_ fun so => ?_⟩⟩) (fun pa lc _ l1 => ?_)
  · show ((w5.map AV.int).take 5).length + 4 ≤ 16777216
    rw [List.length_take]; omega
  · refine ⟨[(so, .list _), (d2, .list _), (d', .list _)], ⟨_, [(122, .raw (tabObj #[]))]⟩, rfl, List.perm_append_comm (l₁ := [_, _, _]) (l₂ := [_]), _, [], fun c i acc σ => acc = natL ((its.take i).map pageN) ∧ σ.own = [(122, .raw (tabObj #[]))], Itr.list (g.hd rfl) (.head _), ?_, fun C x av h => (nomatch h), fun C => ⟨⟨rfl, rfl⟩, fun i x acc σ' hx hI => ?_, fun acc σ' hI d => ?_⟩⟩
    · show ((w5.map AV.int).take 5 ++ [AV.int 139, AV.int 144, AV.int 33, AV.int 26]).length * 1 ≤ 16777216
      rw [hit, List.length_map]; omega
    · replace hx : ((w5.map AV.int).take 5 ++ [AV.int 139, AV.int 144, AV.int 33, AV.int 26])[i]? = some x := hx
      rw [hit, List.getElem?_map] at hx
      obtain ⟨k, hk, rfl⟩ := Option.map_eq_some_iff.mp hx
      obtain ⟨rfl, h0⟩ := hI
      refine Asg.name <| Ifs.nil ⟨fun _ => Ev.binop <| Ev.callB <| Ev.built W.g (W.noGlob rfl rfl) W.b (W.built rfl) (fun h => VR.mkBi) ⟨rfl, Arg.cons <| Ev.name lkS <| Arg.nil <| Cal.abs <| Ev.binop <| Ev.int <| Ev.int <| Op2.pow (by decide) (by decide) (by decide) <| Op2.mod (by decide) ⟨?_, h0⟩⟩, fun hf => (nomatch hf)⟩
      rw [List.take_add_one, hk, pageAV]
      show natL ((its.take i).map pageN) ++ natL [pageN k] = natL ((its.take i ++ [k]).map pageN)
      rw [natL_append, List.map_append]; rfl
    · obtain ⟨lc', own⟩ := σ'
      obtain ⟨rfl, rfl⟩ := hI
      replace hit : natL ((its.take ((w5.map AV.int).take 5 ++ [AV.int 139, AV.int 144, AV.int 33, AV.int 26]).length).map pageN) = natL pg := by
        rw [hit, List.length_map, List.take_length, hpi]
      rw [show (cut Option.none (some 5) (w5.map AV.int) ++ [AV.int 139, AV.int 144, AV.int 33, AV.int 26]) = (w5.map AV.int).take 5 ++ [AV.int 139, AV.int 144, AV.int 33, AV.int 26] from rfl, hit]
      exact (K _ _ d [] trivial (List.perm_append_comm (l₁ := [_]) (l₂ := [_])) (.cons lS .nil))
  clear hit hpi hil htk hc1 hints hI
  obtain ⟨ws, hws⟩ : ∃ ws, ws = pg.map Mine.drawn := ⟨_, rfl⟩
  have hwl : ws.length ≤ 9 := by rw [hws, List.length_map]; exact hpl
  refine Exs.stepD (fun _ => True) (fun wa => [(wa, .list (ws.map .str)), (122, .raw (tabObj #[])), (pa, .list (natL pg))]) (fun wa => [("pages", .ref pa), ("words", .ref wa)]) (fun Ψ K => Ex.assign (hx := by exact .inr ⟨rfl, L + 1 + 1, rfl, .tail _ (.head _)⟩) <| Tri.frame (own := [(122, .raw (tabObj #[]))]) (R := [(pa, .list (natL pg))]) <| Tri.pre (evCompR (cl := []) (cells := [L + 1 + 1, L + 1]) [(pa, .list (natL pg))] g (by exact .none rfl rfl (by decide) (by decide) rfl) <| Ev.name (l1.at 0 rfl) ⟨[], ⟨lc, [(122, .raw (tabObj #[]))]⟩, rfl, .refl _, _, [], fun c i acc σ => acc = ((pg.take i).map Mine.drawn).map AV.str ∧ σ.own = [(122, .raw (tabObj #[]))], Itr.list (g.hd rfl) (.head _), ?_, fun C x av h => (nomatch h), fun C => ⟨⟨rfl, rfl⟩, fun i x acc σ' hx hI => ?_, fun acc σ' hI d => ?_⟩⟩) (fun h p => p.2)) (fun wa lc _ l2 => ?_)
  · rw [natL, List.length_map]; omega
  · rw [natL, List.getElem?_map] at hx
    obtain ⟨k, hk, rfl⟩ := Option.map_eq_some_iff.mp hx
    obtain ⟨lc', own⟩ := σ'
    obtain ⟨rfl, rfl⟩ := hI
    refine Asg.name <| Ifs.nil ⟨fun _ => Ev.callFn (W.fn (a := 91) rfl) <| Ev.glob W.g (W.glob rfl) (fun h => VR.mkRef) ⟨rfl, Arg.cons <| Ev.name lkS <| Arg.nil <| (lawDrawn W).use (own := []) (R := [(122, .raw (tabObj #[]))]) (g.comp.less (by decide)) fun av own' h => ?_⟩, fun hf => (nomatch hf)⟩
    obtain ⟨rfl, rfl⟩ := h
    refine ⟨?_, rfl⟩
    rw [List.take_add_one, hk, List.map_append, List.map_append]; rfl
  · obtain ⟨lc', own⟩ := σ'
    obtain ⟨rfl, rfl⟩ := hI
    rw [natL, List.length_map, List.take_length, ← hws]
    exact (K _ _ d [] trivial (by exact .refl _) (.cons (lN (l1.at 0 rfl)) <| .cons lS .nil))
  have hwi : ∀ {i : Nat}, i < ws.length → (ws.map AV.str)[i]? = some (.str (ws.getD i [])) := fun {i} h => by
    rw [List.getElem?_map, List.getElem?_eq_getElem h, List.getD_eq_getElem?_getD, List.getElem?_eq_getElem h]; rfl
  refine Exs.stepD (fun _ => True) (fun da => [(pa, .list (natL pg)), (122, .raw (tabObj #[])), (wa, .list (ws.map .str)), (da, .list (((shelfOf pg).map (·.1)).map .str))]) (fun da => [("pages", .ref pa), ("words", .ref wa), ("due", .ref da)]) (fun Ψ K => Ex.assign <| Ev.callB <| Ev.built W.g (W.noGlob rfl rfl) W.b (W.built rfl) (fun h => VR.mkBi) ⟨rfl, Arg.cons <| evComp0 (cl := [(Str.ofString "words", L + 1 + 1)]) (cells := [L + 1 + 1, L + 1]) g (by exact .of rfl rfl (List.forall_mem_cons.mpr ⟨⟨rfl, .head _⟩, fun _ h => (nomatch h)⟩) (by decide) (by decide) rfl)
    (Ev.callT <| Ev.built W.g (W.noGlob rfl rfl) W.b (W.built rfl) (fun h => VR.mkTy) ⟨rfl, Arg.cons <| Ev.callB <| Ev.built W.g (W.noGlob rfl rfl) W.b (W.built rfl) (fun h => VR.mkBi) ⟨rfl, Arg.cons <| Ev.name (l2.at 1 rfl) <| Arg.nil <| Cal.len_l 0 rfl (by rw [List.length_map]; omega) <| Arg.nil <| Cal.range1 ?_⟩⟩)⟩) (fun da lc _ l3 => ?_)
  · rw [List.length_map]
    refine ⟨_, [("words", .ref wa)], fun c i acc σ => acc = (fst1 ws i).map AV.str ∧ σ.own = [(wa, .list (ws.map .str)), (122, .raw (tabObj #[])), (pa, .list (natL pg))] ∧ Lk σ.loc [("words", .ref wa)], Itr.range (g.hd rfl) (by decide) (by decide) (by omega) (by omega), by rw [Nat.mul_one, List.length_map, List.length_range]; omega,
      fun C => fvAll (.cons ⟨l2.at 1 rfl, .inl rfl, ⟨_, rfl⟩, .inl rfl⟩ .nil), fun C => ⟨⟨rfl, rfl, .cons rfl .nil⟩, fun i x acc σ' hx hI => ?_, fun acc σ' hI d => ?_⟩⟩
    · obtain ⟨lc', own⟩ := σ'
      obtain ⟨rfl, rfl, lk⟩ := hI
      obtain ⟨hi, rfl⟩ := rangeAt hx
      have hi : i < ws.length := by omega
      refine Asg.name <| Ifs.one <| Tri.drop <| Tst.cmp <| Ev.sub <| Ev.name (lkN (lk.at 0 rfl)) <| Ev.name lkS <| Op2.listItem 0 rfl (by omega) (hwi hi) <| Ev.lslice <| Ev.name (lkN (lk.at 0 rfl)) <| Part.none <| Part.some <| Ev.name lkS ⟨_, rfl, trivial, ?_, 0, wa, _, rfl, rfl, by rw [List.length_map]; omega, fun d' => Op2.notInL (ls := ws.take i) 0 ?_ <| Tru.bool ⟨[(wa, .list (ws.map .str)), (122, .raw (tabObj #[])), (pa, .list (natL pg))], [(d', _)], List.perm_append_comm (l₁ := [_]) (l₂ := [_, _, _]), fun ht => Ev.sub <| Ev.name (lkN (lk.at 0 rfl)) <| Ev.name lkS <| Op2.listItem 0 rfl (by omega) (hwi hi) ⟨?_, rfl, .cons (lkN (lk.at 0 rfl)) .nil⟩, fun hf => ⟨?_, rfl, .cons (lkN (lk.at 0 rfl)) .nil⟩⟩⟩
      · exact Int.natCast_nonneg i
      · rw [List.map_take]; rfl
      · exact fst1_new ht
      · exact fst1_old hf
    · obtain ⟨lc', own⟩ := σ'
      obtain ⟨rfl, rfl, lk⟩ := hI
      have hfl := fst1_mem (ws := ws) (Nat.le_refl ws.length)
      have hr : ((List.range ((ws.length : Int) - 0).toNat).map fun (i : Nat) => AV.int (0 + i)).length = ws.length := by rw [List.length_map, List.length_range]; omega
      rw [hr]
      refine Arg.nil <| Cal.sortedS 0 rfl (by omega) fun d2 srt hp hs => ?_
      rw [hws] at hp
      rw [due_is hp hs]
      exact (K _ _ d2 [(d, _)] trivial (permIx 5 [4, 3, 2, 0, 1] rfl (by decide) rfl) (.cons (lN (l2.at 0 rfl)) <| .cons (lN (l2.at 1 rfl)) <| .cons lS .nil))
  clear hwi
  have I := shelfI pg
  have hsw := shelf_ok hpb
  have hsl := shelfOf_len pg
  have hsh : ∃ sh, sh = shelfOf pg := ⟨_, rfl⟩
  obtain ⟨sh, hsh⟩ := hsh
  rw [← hsh] at I hsw hsl ⊢
  have hsw' : ∀ e ∈ sh, e.1.length ≤ 10 ∧ e.2 < 64 ^ 9 := fun e he => ⟨Nat.le_trans (hsw e he).1 (by decide), (hsw e he).2⟩
  obtain ⟨DU, hDU⟩ : ∃ DU, DU = (sh.map (·.1)).map AV.str := ⟨_, rfl⟩
  obtain ⟨WS, hWS⟩ : ∃ WS, WS = ws.map AV.str := ⟨_, rfl⟩
  rw [← hDU, ← hWS]
  have hix : (indexOf sh ++ tl2).length ≤ 10000 := idx_len (Nat.le_trans hsl hpl) fun e he => (hsw' e he).1
  refine Exs.stepD (fun _ => True) (fun _ : Unit => [(122, .raw (tabObj #[])), (wa, .list WS), (pa, .list (natL pg)), (da, .list DU)]) (fun _ => [("pages", .ref pa), ("words", .ref wa), ("due", .ref da), ("text", .str (indexOf sh ++ tl2))]) (fun Ψ K => Ex.assign <| Ev.binop <| Ev.callFn (W.fn (a := 120) rfl) <| Ev.glob W.g (W.glob rfl) (fun h => VR.mkRef) ⟨rfl, Arg.cons <| Ev.callFn (W.fn (a := 98) rfl) <| Ev.glob W.g (W.glob rfl) (fun h => VR.mkRef) ⟨rfl, Arg.cons <| Ev.name (l3.at 0 rfl) <| Arg.nil <| (lawShelf W (by omega)).use (own := [(pa, .list (natL pg))]) (R := [(122, .raw (tabObj #[])), (wa, .list WS), (da, .list DU)]) (g.less (by decide)) fun av own' h => ?_⟩⟩) (fun _ lc _ l4 => ?_)
  · obtain ⟨sa, rfl, rfl⟩ := h
    rw [← hsh]
    refine Arg.nil <| (lawIndex W (by omega) hsw').use (own := [(sa, .list (sh.map entAV))]) (R := [(pa, .list (natL pg)), (122, .raw (tabObj #[])), (wa, .list WS), (da, .list DU)]) (g.less (by decide)) fun av own' h => ?_
    obtain ⟨rfl, rfl⟩ := h
    refine Ev.lit tl2 rfl <| Op2.add_s ?_ (K _ _ () [(sa, _)] trivial (permIx 5 [2, 3, 1, 4, 0] rfl (by decide) rfl) (.cons (lN (l3.at 0 rfl)) <| .cons (lN (l3.at 1 rfl)) <| .cons (lN (l3.at 2 rfl)) <| .cons lS .nil))
    rw [← List.length_append]; omega
  refine Exs.stepD (fun i : LxA × Obj => LxOk rw_tx0005_02.row.prog w b0 i.1 ∧ ∃ ps, i.2 = tabObj ps) (fun i => lexOwn i.1 1 [] (indexOf sh ++ tl2) ++ [(122, .raw i.2), (wa, .list WS), (pa, .list (natL pg)), (da, .list DU)]) (fun i => [("pages", .ref pa), ("words", .ref wa), ("due", .ref da), ("text", .str (indexOf sh ++ tl2)), ("lexer", .ref i.1.x)])
    (fun Ψ K => Ex.assign <| Ev.callFn (W.fn (a := 127) rfl) <| Ev.glob W.g (W.glob rfl) (fun h => VR.mkRef) ⟨rfl, Arg.cons <| Ev.name (l4.at 3 rfl) <| Arg.nil <| (lawLexer W (by omega)).use (own := [(122, .raw (tabObj #[]))]) (R := [(wa, .list WS), (pa, .list (natL pg)), (da, .list DU)]) (g.less (by decide)) fun av own' h => ?_⟩) (fun i lc hP l5 => ?_)
  · obtain ⟨a, ps, H, rfl, rfl⟩ := h
    exact (K _ _ (a, tabObj ps) [] ⟨H, ps, rfl⟩ (by rw [List.append_nil]; exact .refl _) (.cons (lN (l4.at 0 rfl)) <| .cons (lN (l4.at 1 rfl)) <| .cons (lN (l4.at 2 rfl)) <| .cons (lN (l4.at 3 rfl)) <| .cons lS .nil))
  obtain ⟨a, o⟩ := i
  obtain ⟨H, ho⟩ := hP
  refine Exs.stepD (fun i : Addr × Nat => LnOk i.2 (indexOf sh ++ tl2)) (fun i => ((wa, .list WS) :: (pa, .list (natL pg)) :: (lexOwn a i.2 [] tl2 ++ [(122, .raw o)])) ++ [(da, .list DU), (i.1, .list (rowsAV [] sh))]) (fun i => [("pages", .ref pa), ("words", .ref wa), ("due", .ref da), ("text", .str (indexOf sh ++ tl2)), ("lexer", .ref a.x), ("entries", .ref i.1)])
    (fun Ψ K => Ex.assign <| Ev.callFn (W.fn (a := 132) rfl) <| Ev.glob W.g (W.glob rfl) (fun h => VR.mkRef) ⟨rfl, Arg.cons <| Ev.name (l5.at 4 rfl) <| Arg.nil <| (lawRead W H (by omega) hsw' (by decide)).use (own := lexOwn a 1 [] (indexOf sh ++ tl2)) (R := [(122, .raw o), (wa, .list WS), (pa, .list (natL pg)), (da, .list DU)]) (g.less (by decide)) fun av own' h => ?_⟩) (fun i lc hP l6 => ?_)
  · obtain ⟨en, ln, rfl, hn, rfl⟩ := h
    exact (K _ _ (en, ln) [] hn (permIx 12 [9, 10, 1, 2, 3, 4, 5, 6, 7, 8, 11, 0] rfl (by decide) rfl) (.cons (lN (l5.at 0 rfl)) <| .cons (lN (l5.at 1 rfl)) <| .cons (lN (l5.at 2 rfl)) <| .cons (lN (l5.at 3 rfl)) <| .cons (lN (l5.at 4 rfl)) <| .cons lS .nil))
  obtain ⟨en, ln⟩ := i
  obtain ⟨X, hX⟩ : ∃ X, X = lexOwn a ln [] tl2 ++ [(122, .raw o)] := ⟨_, rfl⟩
  show Exs _ _ ⟨lc, (_ :: _ :: (lexOwn a ln [] tl2 ++ [(122, .raw o)])) ++ _⟩ _ _
  rw [← hX]
  have hrl := rows_len [] sh
  refine Exs.stepD (fun _ => True) (fun ta => ((ta, .list (sh.map toldAV)) :: (wa, .list WS) :: (pa, .list (natL pg)) :: X ++ [(en, .list (rowsAV [] sh))]) ++ [(da, .list DU)]) (fun ta => [("pages", .ref pa), ("words", .ref wa), ("due", .ref da), ("text", .str (indexOf sh ++ tl2)), ("lexer", .ref a.x), ("entries", .ref en), ("told", .ref ta)])
    (fun Ψ K => Tri.frame (own := (wa, .list WS) :: (pa, .list (natL pg)) :: X) (R := [(da, .list DU), (en, .list (rowsAV [] sh))]) <| Tri.pre (Ex.assignComp (cl := []) (cells := [L + 1 + 1, L + 1]) [(da, .list DU), (en, .list (rowsAV [] sh))] g (by exact .none rfl rfl (by decide) (by decide) rfl) <| Ev.name (l6.at 5 rfl) ⟨[], ⟨lc, (wa, .list WS) :: (pa, .list (natL pg)) :: X⟩, rfl, by rw [List.append_nil], _, [], fun c i acc σ => acc = (sh.take i).map toldAV ∧ σ.own = (wa, .list WS) :: (pa, .list (natL pg)) :: X, Itr.list (g.hd rfl) (.tail _ (.head _)), ?_, fun C x av h => (nomatch h), fun C => ⟨⟨rfl, rfl⟩, fun i x acc σ' hx hI => ?_, fun acc σ' hI d => ?_⟩⟩) (fun h p => p.2)) (fun ta lc _ l7 => ?_)
  · rw [hrl]; omega
  · obtain ⟨e, he, rfl, ht⟩ := rows_at hx
    obtain ⟨rfl, h0⟩ := hI
    exact Asg.tuple (g.hd rfl) rfl <| AsgL.cons <| Asg.name <| AsgL.cons <| Asg.name <| AsgL.cons <| Asg.name <| AsgL.cons <| Asg.name <| AsgL.nil <| Ifs.nil ⟨fun _ => Ev.tuple <| Arg.cons <| Ev.name (lkN (lkN (lkN lkS))) <| Arg.cons <| Ev.name lkS <| Arg.cons <| Ev.name (lkN (lkN lkS)) <| Arg.nil ⟨le3, told_next ht, h0⟩, fun hf => (nomatch hf)⟩
  · obtain ⟨lc', own⟩ := σ'
    obtain ⟨rfl, rfl⟩ := hI
    rw [hrl, List.take_length]
    exact (K _ _ d [] trivial (by rw [List.append_nil]; exact .cons _ (.cons _ (.cons _ permEnd))) (.cons (lN (l6.at 0 rfl)) <| .cons (lN (l6.at 1 rfl)) <| .cons (lN (l6.at 2 rfl)) <| .cons (lN (l6.at 3 rfl)) <| .cons (lN (l6.at 4 rfl)) <| .cons (lN (l6.at 5 rfl)) <| .cons lS .nil))
  have hdl : DU.length = sh.length := by rw [hDU, List.length_map, List.length_map]
  refine Exs.stepD (fun _ => True) (fun _ : Unit => ((wa, .list WS) :: (da, .list DU) :: X) ++ [(en, .list (rowsAV [] sh))]) (fun _ => [("words", .ref wa), ("due", .ref da), ("text", .str (indexOf sh ++ tl2)), ("lexer", .ref a.x), ("entries", .ref en)])
    (fun Ψ K => Ex.iff <| Tst.cmp <| Ev.name (l7.at 6 rfl) <| Tri.frame (own := (ta, .list (sh.map toldAV)) :: (wa, .list WS) :: (pa, .list (natL pg)) :: X ++ [(en, .list (rowsAV [] sh))]) (R := [(da, .list DU)]) <| Tri.pre (evCompR (cl := [(Str.ofString "words", L + 1 + 1), (Str.ofString "pages", L + 1)]) (cells := [L + 1 + 1, L + 1]) [(da, .list DU)] g (by exact .of rfl rfl (List.forall_mem_cons.mpr ⟨⟨rfl, .head _⟩, List.forall_mem_cons.mpr ⟨⟨rfl, .tail _ (.head _)⟩, fun _ h => (nomatch h)⟩⟩) (by decide) (by decide) rfl) <| Ev.name (l7.at 2 rfl) ⟨[], ⟨lc, (ta, .list (sh.map toldAV)) :: (wa, .list WS) :: (pa, .list (natL pg)) :: X ++ [(en, .list (rowsAV [] sh))]⟩, rfl, by rw [List.append_nil], DU, [("pages", .ref pa), ("words", .ref wa)], fun c i acc σ => acc = (sh.take i).map toldAV ∧ σ.own = (ta, .list (sh.map toldAV)) :: (wa, .list WS) :: (pa, .list (natL pg)) :: X ++ [(en, .list (rowsAV [] sh))] ∧ Lk σ.loc [("pages", .ref pa), ("words", .ref wa)], Itr.list (g.hd rfl) (.head _), ?_, fun C => fvAll (.cons ⟨l7.at 0 rfl, .inl rfl, ⟨_, rfl⟩, .inl rfl⟩ <| .cons ⟨l7.at 1 rfl, .inl rfl, ⟨_, rfl⟩, .inl rfl⟩ .nil), fun C => ⟨⟨rfl, rfl, .cons rfl <| .cons rfl .nil⟩, fun i x acc σ' hx hI => ?_, fun acc σ' hI d => ?_⟩⟩) (fun h p => p.2)) (fun _ lc _ l8 => ?_)
  · omega
  · obtain ⟨lc', own⟩ := σ'
    obtain ⟨rfl, rfl, lk⟩ := hI
    rw [hDU, List.getElem?_map, List.getElem?_map] at hx
    obtain ⟨w', hw', rfl⟩ := Option.map_eq_some_iff.mp hx
    obtain ⟨e, he, rfl⟩ := Option.map_eq_some_iff.mp hw'
    obtain ⟨j, j1, j2, j3⟩ := I.fst e (List.mem_of_getElem? he)
    rw [← hws] at j1 j2
    have hj := (List.getElem?_eq_some_iff.mp j3).1
    refine Asg.name <| Ifs.nil ⟨fun _ => Ev.tuple <| Arg.cons <| Ev.name lkS <| Arg.cons <| Ev.sub <| Ev.name (lkN (lk.at 0 rfl)) <| Ev.meth F.plainAttrs_list F.slot_list_index F.type_list_index <| Ev.name (lkN (lk.at 1 rfl)) ⟨HasT.list 1 rfl, Arg.cons <| Ev.name lkS <| Arg.nil <| Cal.index (ls := ws) 1 ?_ (by omega) j1 j2 <| Op2.listItem 2 rfl (by omega) ?_ <| Arg.cons <| Ev.callB <| Ev.built W.g (W.noGlob rfl rfl) W.b (W.built rfl) (fun h => VR.mkBi) ⟨rfl, Arg.cons <| Ev.name lkS <| Arg.nil <| Cal.len_s ?_ <| Arg.nil ⟨le3, told_next (by rw [List.take_add_one, he]; rfl), rfl, .cons (lkN (lk.at 0 rfl)) <| .cons (lkN (lk.at 1 rfl)) .nil⟩⟩⟩, fun hf => (nomatch hf)⟩
    · rw [← hWS]; rfl
    · rw [natL, List.getElem?_map, j3]; rfl
    · have := (hsw e (List.mem_of_getElem? he)).1; omega
  · obtain ⟨lc', own⟩ := σ'
    obtain ⟨rfl, rfl, lk⟩ := hI
    rw [hdl, List.take_length]
    refine Op2.neSame (n := 19) g 1 0 rfl rfl rfl told_flat <| Tru.bool ⟨fun h => (nomatch h), fun _ => Exs.nil (K _ _ () [(d, .list (sh.map toldAV)), (ta, .list (sh.map toldAV)), (pa, .list (natL pg))] trivial ?_ (.cons (l7.at 1 rfl) <| .cons (l7.at 2 rfl) <| .cons (l7.at 3 rfl) <| .cons (l7.at 4 rfl) <| .cons (l7.at 5 rfl) .nil))⟩
    simp only [List.cons_append, List.append_assoc, List.nil_append]
    exact permX (A := [_, _, _, _]) (B := [_, _]) (A' := [_, _]) (B' := [_, _, _, _]) (permIx 6 [2, 5, 4, 0, 1, 3] rfl (by decide) rfl)
  have hs9 : sh.length ≤ 9 := Nat.le_trans hsl hpl
  clear hpb hpl hix hsw'
  obtain ⟨us, hus⟩ : ∃ us, us = sh.map (·.1) := ⟨_, rfl⟩
  refine Exs.stepD (fun _ => True) (fun ca => (ca, .list (natL (cnts [] us))) :: (da, .list DU) :: (((wa, .list WS) :: X) ++ [(en, .list (rowsAV [] sh))])) (fun ca => [("words", .ref wa), ("due", .ref da), ("text", .str (indexOf sh ++ tl2)), ("lexer", .ref a.x), ("entries", .ref en), ("counts", .ref ca)])
    (fun Ψ K => Tri.frame (own := (wa, .list WS) :: (da, .list DU) :: X) (R := [(en, .list (rowsAV [] sh))]) <| Tri.pre (Ex.assignComp (cl := []) (cells := [L + 1 + 1, L + 1]) [(en, .list (rowsAV [] sh))] g (by exact .none rfl rfl (by decide) (by decide) rfl) <| Ev.name (l8.at 4 rfl) ⟨[], ⟨lc, (wa, .list WS) :: (da, .list DU) :: X⟩, rfl, by rw [List.append_nil], _, [], fun c i acc σ => acc = natL (cnts [] ((sh.take i).map (·.1))) ∧ σ.own = (wa, .list WS) :: (da, .list DU) :: X, Itr.list (g.hd rfl) (.head _), ?_, fun C x av h => (nomatch h), fun C => ⟨⟨rfl, rfl⟩, fun i x acc σ' hx hI => ?_, fun acc σ' hI d => ?_⟩⟩) (fun h p => p.2)) (fun ca lc _ l9 => ?_)
  · rw [hrl]; omega
  · obtain ⟨e, he, rfl, ht⟩ := rows_at hx
    obtain ⟨rfl, h0⟩ := hI
    exact Asg.tuple (g.hd rfl) rfl <| AsgL.cons <| Asg.name <| AsgL.cons <| Asg.name <| AsgL.cons <| Asg.name <| AsgL.cons <| Asg.name <| AsgL.nil <| Ifs.nil ⟨fun _ => Ev.name (lkN lkS) ⟨cnts_next ht, h0⟩, fun hf => (nomatch hf)⟩
  · obtain ⟨lc', own⟩ := σ'
    obtain ⟨rfl, rfl⟩ := hI
    rw [hrl, List.take_length, ← hus]
    exact (K _ _ d [] trivial (by rw [List.append_nil]; exact .cons _ (.swap ..)) (.cons (lN (l8.at 0 rfl)) <| .cons (lN (l8.at 1 rfl)) <| .cons (lN (l8.at 2 rfl)) <| .cons (lN (l8.at 3 rfl)) <| .cons (lN (l8.at 4 rfl)) <| .cons lS .nil))
  obtain ⟨Y, hY⟩ : ∃ Y, Y = ((wa, .list WS) :: X) ++ [(en, AO.list (rowsAV [] sh))] := ⟨_, rfl⟩
  rw [← hY]
  have hun : us.length ≤ 9 := by rw [hus, List.length_map]; exact hs9
  have hu : us.Pairwise (· < ·) := by rw [hus]; exact List.pairwise_map.mpr I.srt
  have hDUs : DU = us.map AV.str := by rw [hDU, hus]
  have hdu : ∀ {i : Nat}, i < us.length → ∃ w, us[i]? = some w ∧ DU[i]? = some (.str w) ∧ w.length ≤ 4 := by
    rw [hDUs, hus]; exact due_at hsw
  obtain ⟨L9, hL9⟩ : ∃ L9 : List (String × AV), L9 = [("words", .ref wa), ("due", .ref da), ("text", .str (indexOf sh ++ tl2)), ("lexer", .ref a.x), ("entries", .ref en), ("counts", .ref ca)] := ⟨_, rfl⟩
  obtain ⟨C, hC⟩ : ∃ C, C = cnts [] us := ⟨_, rfl⟩
  rw [← hC]
  rw [← hL9] at l9
  have m1 : ("counts", AV.ref ca) ∈ L9 := by rw [hL9]; exact .tail _ (.tail _ (.tail _ (.tail _ (.tail _ (.head _)))))
  have m2 : ("due", AV.ref da) ∈ L9 := by rw [hL9]; exact .tail _ (.head _)
  have key : ∀ {i j : Nat}, j < i → i < us.length → ∃ M, M ∈ (C.take (i + 1)).drop (j + 1) ∧ ∀ x ∈ (C.take (i + 1)).drop (j + 1), M ≤ x := fun {i j} h1 h2 => least fun z => by
    have := congrArg List.length z
    rw [List.length_drop, List.length_take, hC, cnts_len, List.length_nil] at this
    omega
  refine Exs.stepD (fun _ => True) (fun _ : Unit => (ca, .list (natL C)) :: (da, .list DU) :: Y) (fun _ => L9) (fun Ψ K => Ex.for <| Ev.callT <| Ev.built W.g (W.noGlob rfl rfl) W.b (W.built rfl) (fun h => VR.mkTy) ⟨rfl, Arg.cons <| Ev.callB <| Ev.built W.g (W.noGlob rfl rfl) W.b (W.built rfl) (fun h => VR.mkBi) ⟨rfl, Arg.cons <| Ev.name (l9 _ m2) <| Arg.nil <| Cal.len_l 1 rfl ?_ <| Arg.nil <| Cal.range1 ?_⟩⟩) (fun _ lc _ l10 => ?_)
  · omega
  · rw [show DU.length = us.length by rw [hDUs, List.length_map]]
    refine ⟨_, fun i σ => σ.own = (ca, .list (natL C)) :: (da, .list DU) :: Y ∧ Lk σ.loc L9, Itr.range (g.hd rfl) (by decide) (by decide) (by omega) (by omega), ⟨rfl, l9⟩, fun i x σ' hx hI => ?_, fun σ' hI => (K _ _ () [] trivial (by rw [hI.1, List.append_nil]) hI.2)⟩
    obtain ⟨lc', own⟩ := σ'
    obtain ⟨rfl, lk⟩ := hI
    obtain ⟨hi, rfl⟩ := rangeAt hx
    have hi : i < us.length := by omega
    obtain ⟨zw, z1, z2, z3⟩ := hdu hi
    refine Asg.name <| Exs.cons <| Ex.for <| Ev.callT <| Ev.built W.g (W.noGlob rfl rfl) W.b (W.built rfl) (fun h => VR.mkTy) ⟨rfl, Arg.cons <| Ev.name lkS <| Arg.nil <| Cal.range1 ⟨_, fun j σ => σ.own = (ca, .list (natL C)) :: (da, .list DU) :: Y ∧ Lk σ.loc (("last", .int (i : Nat)) :: L9), Itr.range (g.hd rfl) (by decide) (by decide) (by omega) (by omega), ⟨rfl, .cons lkS (lk.set (by rw [hL9]; first | done | rfl))⟩, fun j y σ2 hy hJ => ?_, fun σ2 hJ => Exs.nil ⟨hJ.1, fun p hp => hJ.2 p (.tail _ hp)⟩⟩⟩
    obtain ⟨lc2, own⟩ := σ2
    obtain ⟨rfl, lj⟩ := hJ
    obtain ⟨hj, rfl⟩ := rangeAt hy
    have hj : j < i := by omega
    obtain ⟨aw, a1, a2, a3⟩ := hdu (Nat.lt_trans hj hi)
    obtain ⟨M, hM, hle⟩ := key hj hi
    rw [hC] at hM hle
    obtain ⟨b1, b2⟩ := between hu hj a1 z1 hM hle
    rw [← hC] at hM hle
    refine Asg.name <| Exs.stepD (fun _ => True) (fun _ : Unit => (ca, .list (natL C)) :: (da, .list DU) :: Y) (fun _ => ("least", .int (M : Nat)) :: ("first", .int (j : Nat)) :: ("last", .int (i : Nat)) :: L9) ?_ (fun _ lc3 _ l3 => ?_)
    · intro Ψ K
      refine Ex.assign <| Ev.callB <| Ev.built W.g (W.noGlob rfl rfl) W.b (W.built rfl) (fun h => VR.mkBi) ⟨rfl, Arg.cons <| Ev.lslice <| Ev.name (lkN (lj _ (.tail _ m1))) <| Part.some <| Ev.binop <| Ev.name lkS <| Ev.int <| Op2.add ⟨_, rfl, Part.some <| Ev.binop <| Ev.name (lkN (lj _ (.head _))) <| Ev.int <| Op2.add ⟨_, rfl, ?_, ?_, 0, ca, _, rfl, rfl, ?_, fun d' => Arg.nil <| Cal.minL (ns := ((C.take (i + 1)).drop (j + 1)).map fun (n : Nat) => (n : Int)) (m := (M : Int)) (g.hd rfl) 0 ?_ (List.mem_map_of_mem hM) ?_ (K _ _ () [(d', _)] trivial (List.perm_append_comm (l₁ := [_])) (.cons lkS <| .cons (lkN lkS) <| .cons (lkN (lkN (lj _ (.head _)))) <| ((Lk.set (x := "first") (fun p hp => lj p (.tail _ hp)) ?_).set ?_)))⟩⟩⟩
      · show (0 : Int) ≤ _; omega
      · show (0 : Int) ≤ _; omega
      · rw [natL, List.length_map, hC, cnts_len]; omega
      · rw [cut_nat]; rfl
      · intro n hn
        obtain ⟨m, hm, rfl⟩ := List.mem_map.mp hn
        exact Int.ofNat_le.mpr (hle m hm)
      · rw [hL9]; first | done | rfl
      · rw [hL9]; first | done | rfl
    refine Exs.stepD (fun _ => True) (fun _ : Unit => (ca, .list (natL C)) :: (da, .list DU) :: Y) (fun _ => ("least", .int (M : Nat)) :: ("first", .int (j : Nat)) :: ("last", .int (i : Nat)) :: L9) (fun Ψ K => Ex.iff <| Tst.cmp <| Ev.callFn (W.fn (a := 35) rfl) <| Ev.glob W.g (W.glob rfl) (fun h => VR.mkRef) ⟨rfl, Arg.cons <| Ev.sslice <| Ev.sub <| Ev.name (l3 _ (.tail _ (.tail _ (.tail _ m2)))) <| Ev.name (l3 _ (.tail _ (.head _))) <| Op2.listItem 1 rfl ?_ a2 <| Part.none <| Part.some <| Ev.name (l3 _ (.head _)) ⟨_, rfl, trivial, ?_, aw, rfl, ?_, Arg.cons <| Ev.sslice <| Ev.sub <| Ev.name (l3 _ (.tail _ (.tail _ (.tail _ m2)))) <| Ev.name (l3 _ (.tail _ (.tail _ (.head _)))) <| Op2.listItem 1 rfl ?_ z2 <| Part.none <| Part.some <| Ev.name (l3 _ (.head _)) ⟨_, rfl, trivial, ?_, zw, rfl, ?_, Arg.nil <| (strcoll W).use (own := []) (R := (ca, .list (natL C)) :: (da, .list DU) :: Y) (g.less (by decide)) fun av own' h => ?_⟩⟩⟩) (fun _ lc4 _ l4 => ?_)
    · omega
    · exact Int.natCast_nonneg M
    · omega
    · omega
    · exact Int.natCast_nonneg M
    · omega
    · obtain ⟨rfl, rfl⟩ := h
      rw [show ordL (cut Option.none (some ((M : Nat) : Int)) aw) (cut Option.none (some ((M : Nat) : Int)) zw) = 0 from ordL_eq.mpr b1]
      exact Ev.int <| Op2.ne <| Tru.bool ⟨fun h => (nomatch h), fun _ => Exs.nil (K _ _ () [] trivial (by rw [List.append_nil]; exact .refl _) l3)⟩
    refine Exs.stepD (fun _ => True) (fun _ : Unit => (ca, .list (natL C)) :: (da, .list DU) :: Y) (fun _ => ("last", .int (i : Nat)) :: L9) (fun Ψ K => Ex.iff <| Tst.cmp <| Ev.callFn (W.fn (a := 35) rfl) <| Ev.glob W.g (W.glob rfl) (fun h => VR.mkRef) ⟨rfl, Arg.cons <| Ev.sslice <| Ev.sub <| Ev.name (l4 _ (.tail _ (.tail _ (.tail _ m2)))) <| Ev.name (l4 _ (.tail _ (.head _))) <| Op2.listItem 1 rfl ?_ a2 <| Part.none <| Part.some <| Ev.binop <| Ev.name (l4 _ (.head _)) <| Ev.int <| Op2.add ⟨_, rfl, trivial, ?_, aw, rfl, ?_, Arg.cons <| Ev.sslice <| Ev.sub <| Ev.name (l4 _ (.tail _ (.tail _ (.tail _ m2)))) <| Ev.name (l4 _ (.tail _ (.tail _ (.head _)))) <| Op2.listItem 1 rfl ?_ z2 <| Part.none <| Part.some <| Ev.binop <| Ev.name (l4 _ (.head _)) <| Ev.int <| Op2.add ⟨_, rfl, trivial, ?_, zw, rfl, ?_, Arg.nil <| (strcoll W).use (own := []) (R := (ca, .list (natL C)) :: (da, .list DU) :: Y) (g.less (by decide)) fun av own' h => ?_⟩⟩⟩) (fun _ lc5 _ l5 => Exs.nil ⟨rfl, l5⟩)
    · omega
    · show (0 : Int) ≤ _; omega
    · omega
    · omega
    · show (0 : Int) ≤ _; omega
    · omega
    · obtain ⟨rfl, rfl⟩ := h
      rw [show ordL (cut Option.none (some ((M : Int) + 1)) aw) (cut Option.none (some ((M : Int) + 1)) zw) = -1 from ordL_lt1 b2]
      exact Ev.unary <| Ev.int <| Op1.neg <| Op2.ne <| Tru.bool ⟨fun h => (nomatch h), fun _ => Exs.nil (K _ _ () [] trivial (by rw [List.append_nil]; exact .refl _) (fun p hp => l4 p (.tail _ (.tail _ hp))))⟩
  clear hdu key m1 m2 hC hun hu hDUs
  rw [hY]
  clear hY Y
  replace l10 : Lk lc [("words", .ref wa), ("due", .ref da), ("text", .str (indexOf sh ++ tl2)), ("lexer", .ref a.x), ("entries", .ref en), ("counts", .ref ca)] := by rw [← hL9]; exact l10
  clear hL9 l9 L9
  refine Exs.stepD (fun _ => True) (fun pr => (wa, .list WS) :: (pr, .list ((prs [] sh).map .str)) :: X) (fun pr => [("words", .ref wa), ("text", .str (indexOf sh ++ tl2)), ("lexer", .ref a.x), ("printed", .ref pr)])
    (fun Ψ K => Tri.frame (own := (ca, .list (natL C)) :: (da, .list DU) :: (wa, .list WS) :: X) (R := [(en, .list (rowsAV [] sh))]) <| Tri.pre (Ex.assignComp2 (m := 4) (cl := []) (cells := [L + 1 + 1, L + 1]) [(en, .list (rowsAV [] sh))] g (by exact .none rfl rfl (by decide) (by decide) rfl) <| Ev.name (l10.at 4 rfl) ⟨[], ⟨lc, (ca, .list (natL C)) :: (da, .list DU) :: (wa, .list WS) :: X⟩, rfl, by rw [List.append_nil], _, [], fun c i acc σ => acc = (prs [] (sh.take i)).map AV.str ∧ σ.own = (ca, .list (natL C)) :: (da, .list DU) :: (wa, .list WS) :: X, Itr.list (g.hd rfl) (.head _), ?_, fun _ x av h => (nomatch h), fun _ => ⟨⟨rfl, rfl⟩, fun i x acc σ' hx hI => ?_, fun acc σ' hI d => ?_⟩⟩) (fun h p => p.2)) (fun pr lc _ l11 => ?_)
  · rw [hrl]; omega
  · obtain ⟨e, he, rfl, ht⟩ := rows_at hx
    obtain ⟨lc', own⟩ := σ'
    obtain ⟨rfl, rfl⟩ := hI
    have hw4 := (hsw e (List.mem_of_getElem? he)).1
    refine Asg.tuple (g.hd rfl) rfl <| AsgL.cons <| Asg.name <| AsgL.cons <| Asg.name <| AsgL.cons <| Asg.name <| AsgL.cons <| Asg.name <| AsgL.nil <| Ev.callT <| Ev.built W.g (W.noGlob rfl rfl) W.b (W.built rfl) (fun h => VR.mkTy) ⟨rfl, Arg.cons <| Ev.binop <| Ev.name (lkN lkS) <| Ev.int <| Op2.add <| Arg.cons <| Ev.binop <| Ev.name (lkN (lkN lkS)) <| Ev.int <| Op2.add <| Arg.nil <| Cal.range2 ?_⟩
    have hcl := (common_take (lastW [] (sh.take i)) e.1).2
    refine ⟨_, fun j acc σ => acc = (prs [] (sh.take i)).map AV.str ++ ((List.range j).map fun j => AV.str (e.1.take (commonN (lastW [] (sh.take i)) e.1 + 1 + j))) ∧ σ.own = (ca, .list (natL C)) :: (da, .list DU) :: (wa, .list WS) :: X ∧ σ.loc.lookup "word" = some (.str e.1), fun σ => Itr.range (g.hd rfl) (by omega) (by omega) (by omega) (by omega), ?_, ⟨by rw [List.range_zero]; exact (List.append_nil _).symm, rfl, lkN (lkN (lkN lkS))⟩, fun j x acc σ2 hy hJ => ?_, fun acc σ2 hJ => ?_⟩
    · rw [List.length_map, List.length_range, rangeLen]; exact Nat.le_trans (Nat.sub_le ..) hw4
    · obtain ⟨rfl, h0, lk⟩ := hJ
      obtain ⟨hj, rfl⟩ := rangeFrom hy
      exact Asg.name <| Ev.sslice <| Ev.name (lkN lk) <| Part.none <| Part.some <| Ev.name lkS ⟨_, rfl, trivial, by show (0 : Int) ≤ _; omega, e.1, rfl, by omega, pr_next, h0, lkN lk⟩
    · obtain ⟨rfl, h0, lk⟩ := hJ
      rw [List.length_map, List.length_range, rangeLen]
      exact ⟨prs_next ht, h0⟩
  · obtain ⟨lc', own⟩ := σ'
    obtain ⟨rfl, rfl⟩ := hI
    rw [hrl, List.take_length]
    refine (K _ _ d [(ca, .list (natL C)), (da, .list DU), (en, .list (rowsAV [] sh))] trivial ?_ (.cons (lN (l10.at 0 rfl)) <| .cons (lN (l10.at 2 rfl)) <| .cons (lN (l10.at 3 rfl)) <| .cons lS .nil))
    exact permX (A := [_, _, _, _]) (B := [_]) (A' := [_, _]) (B' := [_, _, _]) (permIx 5 [3, 0, 1, 2, 4] rfl (by decide) rfl)
  clear hrl hdl hDU hus
  subst hWS
  have hw4 : ∀ w ∈ ws, w.length ≤ 4 := fun w hw => by
    rw [hws] at hw
    obtain ⟨p, _, rfl⟩ := List.mem_map.mp hw
    exact drawn_len p
  refine Exs.stepD (fun _ => (prs [] sh).length < 64) (fun _ : Unit => (pr, .list ((prs [] sh).map .str)) :: X) (fun _ => [("text", .str (indexOf sh ++ tl2)), ("lexer", .ref a.x), ("printed", .ref pr)])
    (fun Ψ K => Ex.iff <| Tst.cmp <| Ev.name (l11.at 3 rfl) <| Ev.callFn (W.fn (a := 139) rfl) <| Ev.glob W.g (W.glob rfl) (fun h => VR.mkRef) ⟨rfl, Arg.cons <| Ev.name (l11.at 0 rfl) <| Arg.nil <| (lawHeads W (wl := wa) (ws := ws) (by omega) hw4).use (own := [(wa, .list (ws.map .str))]) (R := (pr, .list ((prs [] sh).map .str)) :: X) (g.less (by decide)) fun av own' h => ?_⟩) (fun _ lc hpl l12 => ?_)
  · obtain ⟨d, srt, rfl, hp, hs, rfl⟩ := h
    have hlen := hp.length_eq
    have h64 := headsOf_len (Nat.le_succ_of_le hwl) hw4
    rw [← hlen] at h64
    rw [hws] at hp
    have e := printed_is hp hs
    rw [← hsh] at e
    subst e
    exact Op2.neSame (n := 19) g 2 0 rfl rfl rfl (fun x hx => by obtain ⟨w, _, rfl⟩ := List.mem_map.mp hx; exact .str1 w) <| Tru.bool ⟨fun h => (nomatch h), fun _ => Exs.nil (K _ _ () [(d, _), (wa, _)] h64 (List.perm_append_comm (l₁ := [_, _])) (.cons (l11.at 1 rfl) <| .cons (l11.at 2 rfl) <| .cons (l11.at 3 rfl) .nil))⟩
  have hpp := (prs_gt I.srt fun e _ => List.not_lt_nil e.1).2
  generalize prs [] sh = PR at hpl hpp ⊢
  clear hw4 hsh hws hwl hsl hs9 hsw I
  refine Exs.stepD (fun _ => True) (fun _ : Unit => X) (fun _ => [("text", .str (indexOf sh ++ tl2)), ("lexer", .ref a.x)])
    (fun Ψ K => Ex.for <| Ev.callT <| Ev.built W.g (W.noGlob rfl rfl) W.b (W.built rfl) (fun h => VR.mkTy) ⟨rfl, Arg.cons <| Ev.int <| Arg.cons <| Ev.callB <| Ev.built W.g (W.noGlob rfl rfl) W.b (W.built rfl) (fun h => VR.mkBi) ⟨rfl, Arg.cons <| Ev.name (l12.at 2 rfl) <| Arg.nil <| Cal.len_l 0 rfl ?_ <| Arg.nil <| Cal.range2 ?_⟩⟩) (fun _ lc _ l13 => ?_)
  · rw [List.length_map]; omega
  · rw [List.length_map]
    refine ⟨_, fun i σ => σ.own = (pr, .list (PR.map .str)) :: X ∧ Lk σ.loc [("text", .str (indexOf sh ++ tl2)), ("lexer", .ref a.x), ("printed", .ref pr)], Itr.range (g.hd rfl) (by decide) (by decide) (by omega) (by omega), ⟨rfl, l12⟩, fun i x σ' hx hI => ?_, fun σ' hI => (K _ _ () [(pr, _)] trivial (by rw [hI.1]; exact List.perm_append_comm (l₁ := [_])) (.cons (hI.2.at 0 rfl) <| .cons (hI.2.at 1 rfl) .nil))⟩
    obtain ⟨lc', own⟩ := σ'
    obtain ⟨rfl, lk⟩ := hI
    obtain ⟨hi, rfl⟩ := rangeFrom hx
    have hi : i + 1 < PR.length := by omega
    have hlt := List.pairwise_iff_getElem.mp hpp i (i + 1) (Nat.lt_of_succ_lt hi) hi (Nat.lt_succ_self i)
    have e1 : (PR.map AV.str)[i]? = some (.str PR[i]) := by rw [List.getElem?_map, List.getElem?_eq_getElem (Nat.lt_of_succ_lt hi)]; rfl
    have e2 : (PR.map AV.str)[i + 1]? = some (.str PR[i + 1]) := by rw [List.getElem?_map, List.getElem?_eq_getElem hi]; rfl
    rw [show (1 : Int) + (i : Nat) = ((i + 1 : Nat) : Int) by omega]
    refine Asg.name <| Exs.cons <| Ex.iff <| Tst.cmp <| Ev.callFn (W.fn (a := 35) rfl) <| Ev.glob W.g (W.glob rfl) (fun h => VR.mkRef) ⟨rfl, Arg.cons <| Ev.sub <| Ev.name (lkN (lk.at 2 rfl)) <| Ev.binop <| Ev.name lkS <| Ev.int <| Op2.sub ?_⟩
    rw [show ((i + 1 : Nat) : Int) - 1 = (i : Nat) by omega]
    refine Op2.listItem 0 rfl (by omega) e1 <| Arg.cons <| Ev.sub <| Ev.name (lkN (lk.at 2 rfl)) <| Ev.name lkS <| Op2.listItem 0 rfl (by omega) e2 <| Arg.nil <| (strcoll W).use (own := []) (R := (pr, .list (PR.map .str)) :: X) (g.less (by decide)) fun av own' h => ?_
    obtain ⟨rfl, rfl⟩ := h
    rw [ordL_lt1 hlt]
    exact Ev.unary <| Ev.int <| Op1.neg <| Op2.ne <| Tru.bool ⟨fun h => (nomatch h), fun _ => Exs.nil <| Exs.nil ⟨rfl, lk.set⟩⟩
  rw [hX]
  clear hX X hpp hpl PR l12
  obtain ⟨ps, rfl⟩ := ho
  obtain ⟨N, hN⟩ : ∃ N, N = indexOf sh ++ tl2 := ⟨_, rfl⟩
  rw [← hN] at hP l13
  refine Exs.cons <| Ex.ret <| Ev.andCons <| Ev.cmp <| Ev.methI W.k <| Ev.name (l13.at 1 rfl) ⟨4, a.x, 80, a.dx, _, rfl, rfl, mn_get_token _, rfl, Arg.nil <| (getScan W H tl2_toks (by decide) (by decide)).use (own := lexOwn a ln [] tl2) (R := [(122, .raw (tabObj ps))]) (g.less (by decide)) fun av own' h => ?_⟩
  obtain ⟨rfl, ln2, hn2, rfl⟩ := h
  rw [show ln + nl tl2 = 1 + nl N from hP] at hn2
  have hn3 : ((ln2 : Nat) : Int) = 1 + ((N.count 10 : Nat) : Int) := by
    have : ln2 = 1 + N.count 10 := hn2
    omega
  refine Ev.lit [] rfl <| Op2.eq_s <| Tru.bool ⟨fun _ => ?_, fun h => (nomatch h)⟩
  refine Ev.and2 <| Ev.cmp <| Ev.attr <| Ev.name (l13.at 1 rfl) ⟨a.x, rfl, getOwn W.k (on_lineno _) 4 rfl rfl <| Ev.binop <| Ev.int <| Ev.meth F.plainAttrs_str F.slot_str_count F.type_str_count <| Ev.name (l13.at 0 rfl) ⟨HasT.str, Arg.cons <| Ev.lit [10] rfl <| Arg.nil <| Cal.count <| Op2.add <| Op2.eq <| Tru.bool ⟨fun _ => ?_, fun h => ?_⟩⟩⟩
  · exact Ev.cmp <| Ev.attr <| Ev.attr <| Ev.name (l13.at 1 rfl) ⟨a.x, rfl, getOwn W.k (on_instream _) 4 rfl rfl ⟨a.p, rfl, getOwn W.k (on_instream _) 6 rfl rfl <| Ev.list <| Arg.nil ⟨Nat.zero_le _, fun o => Op2.eqL (n := 19) (e := fun _ => true) g 4 0 rfl rfl ⟨fun j x y h => (nomatch h)⟩ ⟨rfl, ps, _, List.perm_middle (l₁ := _ :: lexOwn a ln2 [] [])⟩⟩⟩⟩
  · rw [hn3, beq_self_eq_true] at h
    cases h

