import PyProof.Rows.All
import Wide.All
import OpenK.AllK
import Wide.FinOn
import Lean
import PySem.Challenge.RW_nq0197_01
set_option Elab.async false

section Ev
open PySem PySem.W PySem.W.X PyProof.Rows
set_option Elab.async false
set_option maxRecDepth 100000
namespace Mine

/-- the library's quick twin of the denotation -/
noncomputable abbrev dz : Code → Sem Fin := PySem.W.Fast.tw11892475500146522536 PySem.W.Fast.tw14364793385576792824
theorem dz_eq : denote table = dz := by
  rw [table_eq_tree, PySem.W.Fast.te11892475500146522536, PySem.W.Fast.te14364793385576792824]
noncomputable abbrev bindArgsQ := PySem.W.Fast.tw9782568553167038054
theorem bindArgsQ_eq : @bindArgs = bindArgsQ := PySem.W.Fast.te9782568553167038054
noncomputable abbrev newEnvQ (a : Scope) (b : Addr) (c : List (Str × Addr)) (d : List (Str × Value)) (e : Str) (f : Option Addr) (g : Value) (h : Option Env) (i : Addr) : Sem Env := @PySem.W.Fast.tw11113344188204177931 a b c d e f g h i
theorem newEnvQ_eq : @newFunctionEnv = newEnvQ := PySem.W.Fast.te11113344188204177931
noncomputable abbrev quietQ : Code → Bool := PySem.W.ZFast.zw17772548960776305114
theorem quietQ_eq : @Code.quiet = quietQ := PySem.W.ZFast.ze17772548960776305114

noncomputable abbrev Own := List (Addr × Obj)
noncomputable abbrev KK := List (Code × (Result → Sem Fin))

structure St where
  base : Own
  nw : List (Option Obj)
  n : Nat
  j : Nat
  N : Nat
  t : Nat
  g : Array GenState

noncomputable def Eqs : List (Addr × Addr) → Prop
  | [] => True
  | p :: l => p.1 = p.2 ∧ Eqs l
/-- the i-th of the base, or the k-th of the new ones -/
noncomputable def baseAt : Own → Nat → Option (Addr × Obj)
  | [], _ => none
  | p :: l, i => match Nat.beq i 0 with
    | true => some p
    | false => baseAt l (i - 1)
noncomputable def baseSet : Own → Nat → Obj → Own
  | [], _, _ => []
  | p :: l, i, f => match Nat.beq i 0 with
    | true => (p.1, f) :: l
    | false => p :: baseSet l (i - 1) f
noncomputable def nwAt : List (Option Obj) → Nat → Option Obj
  | [], _ => none
  | p :: l, i => match Nat.beq i 0 with
    | true => p
    | false => nwAt l (i - 1)
noncomputable def nwSet : List (Option Obj) → Nat → Obj → List (Option Obj)
  | [], _, _ => []
  | p :: l, i, f => match Nat.beq i 0 with
    | true => some f :: l
    | false => p :: nwSet l (i - 1) f
/-- a loop's next turn -/
noncomputable def isLoop (c : Code) : Bool := match c with
  | .whileLoop .. => true
  | .forLoop .. => true
  | .compLoop .. => true
  | _ => false
/-- a hint to stop at -/
noncomputable def stopHere (hc : List Nat) : Bool := match hc with
  | [] => false
  | h :: _ => Nat.beq h 99
/-- the frames of the codes below -/
noncomputable def frK (f : Option (List Env)) : KK → Option (List Env)
  | [] => f
  | (c, _) :: κ => pushEnvs c.envs (frK f κ)
/-- forces an object to be laid out -/
noncomputable def live (o : Obj) : Option Obj := match o with
  | ⟨c, d, dt, s⟩ => match dt with
    | .freed => none
    | .dict es n => some ⟨c, d, .dict es n, s⟩
    | dt => some ⟨c, d, dt, s⟩

/-- what a hint of a load or a store says: 0 an old object, 2 i + 1 the base's i-th, 2 k + 2 the k-th new one -/
inductive Pick where
  | old
  | base (i : Nat)
  | new (k : Nat)
noncomputable def pick (h : Nat) : Pick := match Nat.beq h 0 with
  | true => .old
  | false => match Nat.beq (h % 2) 1 with
    | true => .base (h / 2)
    | false => .new (h / 2 - 1)

/-- the pairs of addresses that a list of hints asks to be equal, newest first -/
noncomputable def want (ba : List Addr) (N : Nat) (hl : List Nat) : List (Addr × Addr) :=
  hl.foldl (fun acc h => match pick h with
    | .old => acc
    | .base i => match ba[i]? with
      | some a => (a, a) :: acc
      | none => acc
    | .new k => (N + k, N + k) :: acc) []
theorem eqs_same : ∀ l : List Addr, Eqs (l.map fun a => (a, a))
  | [] => trivial
  | _ :: l => ⟨rfl, eqs_same l⟩
theorem eqs_want (ba : List Addr) (N : Nat) (hl : List Nat) : Eqs (want ba N hl) := by
  have key : ∀ (hl : List Nat) (acc : List (Addr × Addr)), Eqs acc → Eqs (hl.foldl (fun acc h => match pick h with
    | .old => acc
    | .base i => match ba[i]? with
      | some a => (a, a) :: acc
      | none => acc
    | .new k => (N + k, N + k) :: acc) acc) := by
    intro hl
    induction hl with
    | nil => intro acc h; exact h
    | cons x hl ih =>
      intro acc h
      rw [List.foldl_cons]
      apply ih
      split
      · exact h
      · split
        · exact ⟨rfl, h⟩
        · exact h
      · exact ⟨rfl, h⟩
  exact key hl [] trivial

/-- a contract: what a code comes back with -/
structure Ctr where
  X : Type
  resp : X → St → Result × St
  D : Nat

structure Cfg where
  prog : Program
  w : World
  h₀ : Heap
  n₁ : Nat
  kt : KT
  A₀ : Around
  D : Nat
  R₀ : Result → Shared → Prop
  d : Drawn
  os : OsState

/-- a def that stands at an old address -/
noncomputable def fnAt (V : Cfg) (c : Code) : Option (Addr × FuncData × List Stmt × Args) := match c with
  | .call f args => match f with
    | .ref a => match V.kt.get a with
      | some o => match o.data with
        | .func fd => match fd.scope.isGenerator with
          | false => match fd.scope.isCoroutine with
            | false => match fd.body with
              | .stmts b => some (a, fd, b, args)
              | _ => none
            | true => none
          | true => none
        | _ => none
      | none => none
    | _ => none
  | _ => none
/-- its code object bears its name -/
noncomputable def codeOk (V : Cfg) (fd : FuncData) : Bool := match fd.code with
  | .ref c => match V.kt.get c with
    | some o => match o.data with
      | .fields vs => match vs.toList with
        | _ :: v :: _ => match v with
          | .str q _ => Fast.sEq q fd.qualname
          | _ => false
        | _ => false
      | _ => false
    | none => false
  | _ => false
noncomputable def enterT (a : Addr) (fd : FuncData) (b : List Stmt) (args : Args) : Sem Fin :=
  R.bindR (bindArgsQ fd args) fun binds =>
    R.bindR (newEnvQ fd.scope fd.globals fd.closure binds ⟨fd.qualname.cps ++ #[46, 60, 108, 111, 99, 97, 108, 115, 62, 46]⟩ (some a) fd.code none fd.builtins) fun env => .pure (.again (.func b env))
noncomputable def notCaller (c : Code) : Bool := match c with
  | .builtin id _ => match S.strDecS id "claim.caller" with
    | .isTrue _ => false
    | .isFalse _ => true
  | _ => true

/-- a tree that asks the stack for room alone -/
noncomputable def StackOk (k : List (Code × Pos) → Sem Fin) : Prop := ∀ st : List (Code × Pos), (st.map (·.1.cUnits)).sum < cLine → k st = k []
noncomputable abbrev EvTy := Bool → List Nat → List (List Nat) → List Nat → List (Addr × Addr) → Prop → Own → List (Option Obj) → Nat → Nat → Nat → Nat → Array GenState → Code → KK → Sem Fin → Prop

section
variable (V : Cfg) (cs : List Ctr) (H : Nat → Code → St → Option (List Env) → Prop) (prim : Nat → Code → Nat → Option (Result × Nat × Prop)) (PP : Result ⊕ Code → St → Prop)

/-- the call's end, or the frame below -/
noncomputable def evRet (ih : EvTy) (r : Result) (hl : List Nat) (hs : List (List Nat)) (hc : List Nat) (acc : List (Addr × Addr)) (cond : Prop) (base : Own) (nw : List (Option Obj)) (n j N t : Nat) (g : Array GenState) (κ : KK) : Prop := match κ with
  | [] => Eqs acc ∧ cond ∧ PP (.inl r) ⟨base, nw, n, j, N, t, g⟩
  | (c, k) :: κ => ih false hl hs hc acc cond base nw n j N t g c κ (k r)
@[irreducible] noncomputable def evCode (ih : EvTy) (c : Code) (hl : List Nat) (hs : List (List Nat)) (hc : List Nat) (acc : List (Addr × Addr)) (cond : Prop) (base : Own) (nw : List (Option Obj)) (n j N t : Nat) (g : Array GenState) (κ : KK) : Prop :=
  match fnAt V c with
  | some (a, fd, b, args) => match codeOk V fd with
    | true => match Nat.ble (V.D + 5 * List.length κ) 900 with
      | true => ih true hl hs hc acc cond base nw n j N t g c κ (enterT a fd b args)
      | false => False
    | false => False
  | none => ih false hl hs hc acc cond base nw n j N t g c κ (dz c)
/-- a quiet code that a tree goes on with -/
noncomputable def evAgain (ih : EvTy) (c : Code) (hl : List Nat) (hs : List (List Nat)) (hc : List Nat) (acc : List (Addr × Addr)) (cond : Prop) (base : Own) (nw : List (Option Obj)) (n j N t : Nat) (g : Array GenState) (κ : KK) : Prop :=
  match κ with
  | [] => match isLoop c with
    | true => Eqs acc ∧ cond ∧ PP (.inr c) ⟨base, nw, n, j, N, t, g⟩
    | false => match stopHere hc with
      | true => Eqs acc ∧ cond ∧ PP (.inr c) ⟨base, nw, n, j, N, t, g⟩
      | false => evCode V ih c hl hs hc acc cond base nw n j N t g []
  | x :: κ => evCode V ih c hl hs hc acc cond base nw n j N t g (x :: κ)

noncomputable def evCall (ih : EvTy) (c : Code) (c' : Code) (k : Result → Sem Fin) (hl : List Nat) (hs : List (List Nat)) (h : Nat) (hc : List Nat) (acc : List (Addr × Addr)) (cond : Prop) (base : Own) (nw : List (Option Obj)) (n j N t : Nat) (g : Array GenState) (κ : KK) : Prop :=
  match Nat.beq h 0 with
  | true => evCode V ih c' hl hs hc acc cond base nw n j N t g ((c, k) :: κ)
  | false => match Nat.blt h 4 with
    | true => match prim h c' (t + j) with
      | some (r, e, q) => ih false hl hs hc acc (cond ∧ q) base nw n (j + e) N t g c κ (k r)
      | none => False
    | false => match cs[h - 4]? with
      | some C => match Nat.ble (V.D + 5 * List.length κ + 5) C.D with
        | true => Eqs acc ∧ cond ∧ H (h - 4) c' ⟨base, nw, n, j, N, t, g⟩ (frK V.A₀.frames ((c, k) :: κ)) ∧ ∀ x : C.X, match C.resp x ⟨base, nw, n, j, N, t, g⟩ with
          | (r, st) => ih false (hs.headD []) hs.tail hc [] True st.base st.nw st.n st.j st.N st.t st.g c κ (k r)
        | false => False
      | none => False

noncomputable def evS (ih : EvTy) : EvTy := fun md hl hs hc acc cond base nw n j N t g c κ tr => match tr with
  | .pure fin => match fin with
    | .done f => match md with
      | true => False
      | false => evRet PP ih (.ok f) hl hs hc acc cond base nw n j N t g κ
    | .again c' => match md with
      | true => match c' with
        | .func b env => match κ with
          | [] => match stopHere hc with
            | true => Eqs acc ∧ cond ∧ PP (.inr (.func b env)) ⟨base, nw, n, j, N, t, g⟩
            | false => ih false hl hs hc acc cond base nw n j N t g (.func b env) [] (dz (.func b env))
          | x :: κ => ih false hl hs hc acc cond base nw n j N t g (.func b env) (x :: κ) (dz (.func b env))
        | _ => False
      | false => match quietQ c' with
        | true => evAgain V PP ih c' hl hs hc acc cond base nw n j N t g κ
        | false => False
  | .raise e => match md with
    | true => False
    | false => evRet PP ih (.error e) hl hs hc acc cond base nw n j N t g κ
  | .rule _ k => ih md hl hs hc acc cond base nw n j N t g c κ (k ())
  | .at _ k => ih md hl hs hc acc cond base nw n j N t g c κ (k ())
  | .point _ k => ih md hl hs hc acc cond base nw n j N t g c κ (k ())
  | .ask k => ih md hl hs hc acc cond base nw n j N t g c κ (k ⟨V.prog, V.w.params⟩)
  | .fresh k => ih md hl hs hc acc cond base nw n (j + 1) N t g c κ (k (t + j))
  | .handled own k => match own with
    | false => ih md hl hs hc acc cond base nw n j N t g c κ (k none)
    | true => False
  | .load a _ k => match hl with
    | [] => False
    | h :: hl => match pick h with
      | .old => match V.kt.get a with
        | some o => ih md hl hs hc acc cond base nw n j N t g c κ (k o)
        | none => False
      | .base i => match baseAt base i with
        | some p => ih md hl hs hc ((a, p.1) :: acc) cond base nw n j N t g c κ (k p.2)
        | none => False
      | .new i => match nwAt nw (n - 1 - i) with
        | some o => match Nat.blt i n with
            | true => ih md hl hs hc ((a, N + i) :: acc) cond base nw n j N t g c κ (k o)
            | false => False
        | none => False
  | .update a _ f k => match hl with
    | [] => False
    | h :: hl => match pick h with
      | .old => False
      | .base i => match baseAt base i with
        | some p => match live (f p.2) with
          | some o => ih md hl hs hc ((a, p.1) :: acc) cond (baseSet base i o) nw n j N t g c κ (k ())
          | none => False
        | none => False
      | .new i => match nwAt nw (n - 1 - i) with
        | some p => match live (f p) with
          | some o => match Nat.blt i n with
            | true => ih md hl hs hc ((a, N + i) :: acc) cond base (nwSet nw (n - 1 - i) o) n j N t g c κ (k ())
            | false => False
          | none => False
        | none => False
  | .alloc o k => match live o with
    | some o => ih md hl hs hc acc cond base (some o :: nw) (n + 1) j N t g c κ (k (N + n))
    | none => False
  | .call c' hd _ _ k => match md with
    | true => False
    | false => match hd with
      | some _ => False
      | none => match hc with
        | [] => False
        | h :: hc => match notCaller c with
          | true => evCall V cs H prim ih c c' k hl hs h hc acc cond base nw n j N t g κ
          | false => False
  | .stack k => match Nat.ble (V.D + 5 * List.length κ) 900 with
    | true => ih md hl hs hc acc (cond ∧ StackOk k) base nw n j N t g c κ (k [])
    | false => False
  | _ => False
noncomputable def ev : Nat → EvTy
  | 0 => fun _ _ _ _ _ _ _ _ _ _ _ _ _ _ _ _ => False
  | n + 1 => evS V cs H prim PP (ev n)
/-- the same, shut to the elaborator -/
@[irreducible] noncomputable def run (m : Nat) : EvTy := ev V cs H prim PP m
end
end Mine
end Ev

section Snd
open PySem PySem.W PySem.W.X PyProof.Rows
set_option Elab.async false
set_option maxRecDepth 100000
namespace Mine

theorem frames_le (c : Code) : c.frames ≤ 3 := by
  unfold Code.frames
  split <;> first | omega | (split <;> omega)
theorem light {c : Code} (h : notCaller c = true) : c.weight ≤ 5 := by
  have hf := frames_le c
  have hk : c.isCaller = false := by
    cases c with
    | builtin id args =>
      unfold notCaller at h
      simp only at h
      cases q : S.strDecS id "claim.caller" with
      | isTrue e => rw [q] at h; cases h
      | isFalse e =>
        unfold Code.isCaller
        split
        · rename_i z; cases z; exact absurd rfl e
        · rfl
    | _ => rfl
  unfold Code.weight
  rw [hk]
  split <;> split <;> simp <;> omega
theorem units_le (c : Code) : c.cUnits ≤ 10 := by
  have hf := frames_le c
  unfold Code.cUnits
  split <;> omega

structure Lo (A : Around) (D : Nat) : Prop where
  depth : A.depth ≤ D
  units : A.units ≤ 10 * D
  handled : A.handled = none
theorem Lo.push {A : Around} {D : Nat} (h : Lo A D) {c : Code} (hc : notCaller c = true) : Lo ((A.under c).mark none) (D + 5) := by
  have := light hc
  have := units_le c
  refine ⟨?_, ?_, ?_⟩
  · show A.depth + c.weight ≤ D + 5
    have := h.depth; omega
  · show A.units + c.cUnits ≤ 10 * (D + 5)
    have := h.units; omega
  · show (none : Option Value).or A.handled = none
    rw [h.handled]; rfl
theorem Lo.le {A : Around} {D D' : Nat} (h : Lo A D) (l : D ≤ D') : Lo A D' := ⟨Nat.le_trans h.depth l, Nat.le_trans h.units (Nat.mul_le_mul_left _ l), h.handled⟩

noncomputable def ar (V : Cfg) : KK → Around
  | [] => V.A₀
  | (c, _) :: κ => ((ar V κ).under c).mark none
noncomputable def endR (V : Cfg) : KK → Result → Shared → Prop
  | [] => V.R₀
  | (c, k) :: κ => postR V.prog V.w (ar V κ) c (postC V.prog V.w (ar V κ) (endR V κ)) (postE (endR V κ)) k
noncomputable def okK : KK → Prop
  | [] => True
  | (c, _) :: κ => notCaller c = true ∧ okK κ
theorem ar_lo {V : Cfg} (h : Lo V.A₀ V.D) : ∀ {κ : KK}, okK κ → Lo (ar V κ) (V.D + 5 * κ.length)
  | [], _ => h
  | (c, k) :: κ, q => by
    have := (ar_lo h q.2).push q.1
    rw [List.length_cons, show V.D + 5 * (κ.length + 1) = V.D + 5 * κ.length + 5 by omega]
    exact this

theorem ar_frames {V : Cfg} : ∀ {κ : KK}, (ar V κ).frames = frK V.A₀.frames κ
  | [] => rfl
  | (c, k) :: κ => by
    show pushEnvs c.envs (ar V κ).frames = pushEnvs c.envs _
    rw [ar_frames]

structure CfgOk (V : Cfg) : Prop where
  size : V.h₀.objs.size = V.n₁
  kt : V.kt.Holds V.h₀ 1 0
  lo : Lo V.A₀ V.D
  lim : V.h₀.NoLimit

structure Rep (V : Cfg) (h : Heap) (st : St) : Prop where
  size : h.objs.size = st.N + st.n
  len : st.nw.length = st.n
  base : ∀ p ∈ st.base, h.get? p.1 = some p.2
  nod : (st.base.map (·.1)).Nodup
  lt : ∀ p ∈ st.base, p.1 < st.N
  low : ∀ p ∈ st.base, V.n₁ ≤ p.1
  lowN : V.n₁ ≤ st.N
  new : ∀ k o, k < st.n → st.nw[st.n - 1 - k]? = some (some o) → h.get? (st.N + k) = some o
  keep : ∀ b o, V.h₀.get? b = some o → h.get? b = some o
  bare : AllBare st.g

theorem baseAt_eq : ∀ (l : Own) (i : Nat), baseAt l i = l[i]?
  | [], i => by simp [baseAt]
  | p :: l, i => by
    unfold baseAt
    rw [BT.beq_eq]
    cases i with
    | zero => simp
    | succ i => simp [baseAt_eq l i]
theorem nwAt_eq : ∀ (l : List (Option Obj)) (i : Nat), nwAt l i = (l[i]?).join
  | [], i => by simp [nwAt]
  | p :: l, i => by
    unfold nwAt
    rw [BT.beq_eq]
    cases i with
    | zero => simp
    | succ i => simp [nwAt_eq l i]
theorem baseSet_eq : ∀ (l : Own) (i : Nat) (o : Obj), baseSet l i o = match l[i]? with | some p => l.set i (p.1, o) | none => l
  | [], i, o => by simp [baseSet]
  | p :: l, i, o => by
    unfold baseSet
    rw [BT.beq_eq]
    cases i with
    | zero => simp
    | succ i =>
      simp only [Nat.add_eq_zero_iff, Nat.one_ne_zero, and_false, decide_false, List.getElem?_cons_succ, Nat.add_sub_cancel, baseSet_eq l i o]
      cases l[i]? <;> simp
theorem nwSet_eq : ∀ (l : List (Option Obj)) (i : Nat) (o : Obj), nwSet l i o = l.set i (some o)
  | [], i, o => by simp [nwSet]
  | p :: l, i, o => by
    unfold nwSet
    rw [BT.beq_eq]
    cases i with
    | zero => simp
    | succ i => simp [nwSet_eq l i o]
theorem live_eq {o o' : Obj} (h : live o = some o') : o' = o ∧ o.isFreed = false := by
  obtain ⟨c, d, dt, s⟩ := o
  cases dt <;> simp [live] at h <;> (subst h; exact ⟨rfl, rfl⟩)

section
variable {V : Cfg} {h : Heap} {st : St}
theorem Rep.old (O : CfgOk V) (D : Rep V h st) {a : Addr} {o : Obj} (e : V.kt.get a = some o) : h.get? a = some o := by
  have z := KT.Holds.get O.kt e
  rw [Nat.one_mul, Nat.add_zero] at z
  exact D.keep a o z
theorem Rep.lim (O : CfgOk V) (D : Rep V h st) : h.NoLimit := O.lim.keeps D.keep
theorem Rep.notOld (O : CfgOk V) {a : Addr} (ha : V.n₁ ≤ a) {b : Addr} {o : Obj} (e : V.h₀.get? b = some o) : b ≠ a := by
  have h1 := Heap.lt_size e
  rw [O.size] at h1
  exact Nat.ne_of_lt (Nat.lt_of_lt_of_le h1 ha)
theorem Rep.alloc (D : Rep V h st) {o : Obj} (hf : o.isFreed = false) (nw : List (Option Obj)) (n : Nat) (e1 : st.nw = nw) (e2 : st.n = n) :
    Rep V (h.push o) { st with nw := some o :: nw, n := n + 1 } := by
  subst e1 e2
  refine ⟨by rw [Heap.size_push, D.size]; simp only; omega, by simp [D.len], fun p hp => Heap.get?_push_of_some _ (D.base p hp), D.nod, D.lt, D.low, D.lowN, fun k o' hk e => ?_, fun b o' e => Heap.get?_push_of_some _ (D.keep b o' e), D.bare⟩
  simp only at hk e
  by_cases hk' : k = st.n
  · subst hk'
    rw [show st.n + 1 - 1 - st.n = 0 by omega] at e
    simp at e
    subst e
    rw [← D.size]; exact Heap.get?_push_size _ hf
  · rw [show st.n + 1 - 1 - k = (st.n - 1 - k) + 1 by omega, List.getElem?_cons_succ] at e
    exact Heap.get?_push_of_some _ (D.new k o' (by omega) e)
theorem Rep.setBase (O : CfgOk V) (D : Rep V h st) {i : Nat} {p : Addr × Obj} {f : Obj → Obj} (e : st.base[i]? = some p) (hf : (f p.2).isFreed = false) :
    Rep V (h.update p.1 f) { st with base := st.base.set i (p.1, f p.2) } := by
  have hp := List.mem_of_getElem? e
  have ho := D.base p hp
  have hs : Heap.SameBut p.1 h (h.update p.1 f) := Heap.SameBut.update ..
  have ge : (h.update p.1 f).get? p.1 = some (f p.2) := by first | exact Heap.get?_update_self f ho hf | exact Heap.get?_update_self _ ho hf
  obtain ⟨hi, hie⟩ := List.getElem?_eq_some_iff.mp e
  have em : (st.base.set i (p.1, f p.2)).map (·.1) = st.base.map (·.1) := by
    rw [List.map_set]
    have : (st.base.map (·.1))[i]? = some p.1 := by rw [List.getElem?_map, e]; rfl
    exact set_same this
  have mem : ∀ q ∈ st.base.set i (p.1, f p.2), ∃ q' ∈ st.base, q'.1 = q.1 := fun q hq => by
    rcases List.mem_or_eq_of_mem_set hq with hq | rfl
    · exact ⟨q, hq, rfl⟩
    · exact ⟨p, hp, rfl⟩
  refine ⟨by rw [hs.1]; exact D.size, D.len, fun q hq => ?_, by rw [em]; exact D.nod, fun q hq => ?_, fun q hq => ?_, D.lowN, fun k o hk z => ?_, fun b o z => ?_, D.bare⟩
  · by_cases hqp : q.1 = p.1
    · have : q = (p.1, f p.2) := key_unique (by rw [em]; exact D.nod) hq (List.mem_set hi _) hqp
      subst this
      exact ge
    · rcases List.mem_or_eq_of_mem_set hq with hq | rfl
      · exact (hs.2 _ hqp).trans (D.base q hq)
      · exact absurd rfl hqp
  · obtain ⟨q', h1, h2⟩ := mem q hq; rw [← h2]; exact D.lt q' h1
  · obtain ⟨q', h1, h2⟩ := mem q hq; rw [← h2]; exact D.low q' h1
  · have h1 := D.lt p hp
    exact (hs.2 _ (Nat.ne_of_gt (Nat.lt_of_lt_of_le h1 (Nat.le_add_right ..)))).trans (D.new k o hk z)
  · exact (hs.2 b (Rep.notOld O (D.low p hp) z)).trans (D.keep b o z)
theorem Rep.setNew (O : CfgOk V) (D : Rep V h st) {i : Nat} {o : Obj} {f : Obj → Obj} (hi : i < st.n) (e : st.nw[st.n - 1 - i]? = some (some o)) (hf : (f o).isFreed = false) :
    Rep V (h.update (st.N + i) f) { st with nw := st.nw.set (st.n - 1 - i) (some (f o)) } := by
  have ho := D.new i o hi e
  have hs : Heap.SameBut (st.N + i) h (h.update (st.N + i) f) := Heap.SameBut.update ..
  have ge : (h.update (st.N + i) f).get? (st.N + i) = some (f o) := by first | exact Heap.get?_update_self f ho hf | exact Heap.get?_update_self _ ho hf
  refine ⟨by rw [hs.1]; exact D.size, by simp [D.len], fun q hq => ?_, D.nod, D.lt, D.low, D.lowN, fun k o' hk z => ?_, fun b o' z => ?_, D.bare⟩
  · have h1 := D.lt q hq
    exact (hs.2 _ (Nat.ne_of_lt (Nat.lt_of_lt_of_le h1 (Nat.le_add_right ..)))).trans (D.base q hq)
  · simp only at hk z ⊢
    rw [List.getElem?_set] at z
    by_cases hki : k = i
    · subst hki
      rw [if_pos rfl] at z
      split at z
      · cases z; exact ge
      · cases z
    · rw [if_neg (by omega)] at z
      exact (hs.2 _ (fun q => hki (Nat.add_left_cancel q))).trans (D.new k o' hk z)
  · exact (hs.2 b (Rep.notOld O (a := st.N + i) (Nat.le_trans D.lowN (Nat.le_add_right ..)) z)).trans (D.keep b o' z)
end

/-- a contract holds at a code and a state -/
noncomputable def CtrOk (V : Cfg) (C : Ctr) (c : Code) (st : St) (fr : Option (List Env)) : Prop :=
  ∀ (A : Around) (h : Heap) (R : Result → Shared → Prop), Lo A C.D → A.frames = fr → Rep V h st →
    (∀ x h', Rep V h' (C.resp x st).2 → R (C.resp x st).1 ⟨h', (C.resp x st).2.g, V.d, (C.resp x st).2.t + (C.resp x st).2.j, V.os⟩) →
    codeAny (model V.prog V.w) A c R ⟨h, st.g, V.d, st.t + st.j, V.os⟩
/-- what a primitive may say -/
noncomputable def PrimOk (V : Cfg) (prim : Nat → Code → Nat → Option (Result × Nat × Prop)) : Prop :=
  ∀ i c tk r e q, prim i c tk = some (r, e, q) → q → ∀ (A : Around) (D : Nat) (s : Shared) (R : Result → Shared → Prop), Lo A D → s.toks = tk → s.heap.NoLimit → AllBare s.gens → (∀ h' : Heap, h'.objs.size = s.heap.objs.size → (∀ b o, s.heap.get? b = some o → h'.get? b = some o) → R r ⟨h', s.gens, s.drawn, s.toks + e, s.os⟩) → codeAny (model V.prog V.w) A c R s

/-- what a tree means under a stack of frames -/
noncomputable def MeansE (V : Cfg) (md : Bool) (c : Code) (κ : KK) (tr : Sem Fin) (s : Shared) : Prop := match md with
  | false => wpOwn (model V.prog V.w) (ar V κ) c tr (postC V.prog V.w (ar V κ) (endR V κ)) (postE (endR V κ)) s
  | true => wpOwn (model V.prog V.w) (ar V κ) c tr (fun fin s' => ∃ b env, fin = .again (.func b env) ∧ s'.heap.NoLimit ∧ codeAny (model V.prog V.w) (ar V κ) (.func b env) (endR V κ) s') (fun _ _ => False) s

end Mine
end Snd

section Snd2
open PySem PySem.W PySem.W.X PyProof.Rows
set_option Elab.async false
set_option maxRecDepth 100000
namespace Mine

theorem locals_str : (Str.ofString ".<locals>.") = ⟨#[46, 60, 108, 111, 99, 97, 108, 115, 62, 46]⟩ := by decide +kernel

theorem enter_fn {prog : Program} {w : World} {A : Around} {R : Result → Shared → Prop} {s : Shared} {a : Addr} {args : Args} {o : Obj} {fd : FuncData} {b : List Stmt} (hroom : A.depth < recursionLimit)
    (ho : s.heap.get? a = some o) (hd' : o.data = .func fd) (hco : fd.scope.isCoroutine = false) (hgen : fd.scope.isGenerator = false) (hbody : fd.body = .stmts b) (hcd : s.heap.CodeRec fd.code fd.qualname)
    (x : wpOwn (model prog w) A (.call (.ref a) args) (enterT a fd b args) (fun fin s' => ∃ b' env, fin = .again (.func b' env) ∧ s'.heap.NoLimit ∧ codeAny (model prog w) A (.func b' env) R s') (fun _ _ => False) s) :
    codeAny (model prog w) A (.call (.ref a) args) R s := by
  intro Γ p hΓc hΓ
  rw [wpCode_iff_wp, hΓc]
  show Sem.wp _ Γ (callAny (.ref a) args) _ _ p s
  simp only [callAny]
  rw [Sem.wp_bind']
  refine (Sem.wp_load_of _ Γ _ p s ho _).mpr ?_
  obtain ⟨c, oc, vs, tq, hc, hoc, hdc, hq⟩ := hcd
  simp only [hd', callFunction, hco, hgen, hbody, hc]
  rw [Sem.wp_bind']
  refine wpAny_field (A := A.under (.call (.ref a) args)) (E := fun _ _ => False) (Q := fun v s' => v = .str fd.qualname tq ∧ s' = s) hoc hdc hq ⟨rfl, rfl⟩ Γ p (hΓc ▸ hΓ.in) |> Sem.wp_mono _ _ _ (fun v p' s' hv => ?_) (fun _ _ _ hv => hv.elim) _ _
  obtain ⟨rfl, rfl⟩ := hv
  simp only [pure_bind]
  rw [Sem.wp_bind']
  have z := x Γ p' hΓc hΓ
  unfold enterT at z
  rw [← PySem.W.R.bindR_eq, ← bindArgsQ_eq, ← newEnvQ_eq] at z
  have z1 : Sem.wp (model prog w) Γ (bindArgs fd args >>= fun binds => newFunctionEnv fd.scope fd.globals fd.closure binds (fd.qualname ++ ".<locals>.") (some a) fd.code none fd.builtins >>= fun env => (Sem.pure (Fin.again (.func b env)) : Sem Fin))
      (fun fin _ s' => ∃ b' env, fin = .again (.func b' env) ∧ s'.heap.NoLimit ∧ codeAny (model prog w) A (.func b' env) R s') (fun _ _ _ => False) p' s' := by
    have e : (fd.qualname ++ ".<locals>.") = (⟨fd.qualname.cps ++ #[46, 60, 108, 111, 99, 97, 108, 115, 62, 46]⟩ : Str) := by
      show Str.append _ _ = _
      unfold Str.append
      rw [locals_str]
    rw [e]; exact z
  rw [Sem.wp_bind'] at z1
  refine Sem.wp_mono _ _ _ (fun binds p₁ s₁ q => ?_) (fun _ _ _ q => q.elim) _ _ z1
  rw [Sem.wp_bind'] at q ⊢
  rw [hc] at q
  refine Sem.wp_mono _ _ _ (fun env p₂ s₂ q => ?_) (fun _ _ _ q => q.elim) _ _ q
  obtain ⟨b', env', e, hl, hR⟩ : ∃ b' env', Fin.again (.func b env) = .again (.func b' env') ∧ s₂.heap.NoLimit ∧ codeAny (model prog w) A (.func b' env') R s₂ := q
  cases e
  rw [Sem.wp_bind']
  refine wpAny_enterFrame (A := A.under (.call (.ref a) args)) (E := fun _ _ => False) (Q := fun _ s' => s' = s₂) hl hroom rfl Γ p₂ (hΓc ▸ hΓ.in) |> Sem.wp_mono _ _ _ (fun _ p₃ s₃ e => ?_) (fun _ _ _ hv => hv.elim) _ _
  subst e
  exact ⟨rfl, hR (Γ.goto _) p₃ rfl (hΓ.goto _)⟩
end Mine
end Snd2

section Snd3
open PySem PySem.W PySem.W.X PyProof.Rows
set_option Elab.async false
set_option maxRecDepth 100000
namespace Mine

section
variable {V : Cfg} (O : CfgOk V) {cs : List Ctr} {H : Nat → Code → St → Option (List Env) → Prop} {prim : Nat → Code → Nat → Option (Result × Nat × Prop)} {PP : Result ⊕ Code → St → Prop}
  (hP : PrimOk V prim) (hC : ∀ i C c st fr, cs[i]? = some C → H i c st fr → CtrOk V C c st fr)
  (hR : ∀ r st h, PP (.inl r) st → Rep V h st → V.R₀ r ⟨h, st.g, V.d, st.t + st.j, V.os⟩)
  (hA : ∀ c st h, PP (.inr c) st → Rep V h st → codeAny (model V.prog V.w) V.A₀ c V.R₀ ⟨h, st.g, V.d, st.t + st.j, V.os⟩)
  (ih : EvTy)
  (IH : ∀ md hl hs hc acc cond base nw n j N t g c κ tr h, ih md hl hs hc acc cond base nw n j N t g c κ tr → Rep V h ⟨base, nw, n, j, N, t, g⟩ → okK κ → MeansE V md c κ tr ⟨h, g, V.d, t + j, V.os⟩)
  (EQ : ∀ md hl hs hc acc cond base nw n j N t g c κ tr, ih md hl hs hc acc cond base nw n j N t g c κ tr → Eqs acc ∧ cond)

include EQ in
theorem evRet_eq {r hl hs hc acc cond base nw n j N t g κ} (X : evRet PP ih r hl hs hc acc cond base nw n j N t g κ) : Eqs acc ∧ cond := by
  cases κ with
  | nil => exact ⟨X.1, X.2.1⟩
  | cons p κ => exact EQ _ _ _ _ _ _ _ _ _ _ _ _ _ _ _ _ X
include EQ in
theorem evCode_eq {c hl hs hc acc cond base nw n j N t g κ} (X : evCode V ih c hl hs hc acc cond base nw n j N t g κ) : Eqs acc ∧ cond := by
  unfold evCode at X
  (repeat' split at X) <;> first | exact EQ _ _ _ _ _ _ _ _ _ _ _ _ _ _ _ _ X | cases X
include EQ in
theorem evAgain_eq {c hl hs hc acc cond base nw n j N t g κ} (X : evAgain V PP ih c hl hs hc acc cond base nw n j N t g κ) : Eqs acc ∧ cond := by
  unfold evAgain at X
  (repeat' split at X) <;> first | exact ⟨X.1, X.2.1⟩ | exact evCode_eq ih EQ X
include EQ in
theorem evCall_eq {c c' k hl hs hh hc acc cond base nw n j N t g κ} (X : evCall V cs H prim ih c c' k hl hs hh hc acc cond base nw n j N t g κ) : Eqs acc ∧ cond := by
  unfold evCall at X
  (repeat' split at X) <;> first
    | exact evCode_eq ih EQ X
    | exact ⟨(EQ _ _ _ _ _ _ _ _ _ _ _ _ _ _ _ _ X).1, (EQ _ _ _ _ _ _ _ _ _ _ _ _ _ _ _ _ X).2.1⟩
    | exact ⟨X.1, X.2.1⟩
    | cases X
include EQ in
theorem evS_eq {md hl hs hc acc cond base nw n j N t g c κ tr} (X : evS V cs H prim PP ih md hl hs hc acc cond base nw n j N t g c κ tr) : Eqs acc ∧ cond := by
  unfold evS at X
  (repeat' split at X) <;> first
    | exact evRet_eq ih EQ X
    | exact evAgain_eq ih EQ X
    | exact evCall_eq ih EQ X
    | exact EQ _ _ _ _ _ _ _ _ _ _ _ _ _ _ _ _ X
    | exact ⟨(EQ _ _ _ _ _ _ _ _ _ _ _ _ _ _ _ _ X).1.2, (EQ _ _ _ _ _ _ _ _ _ _ _ _ _ _ _ _ X).2⟩
    | exact ⟨(EQ _ _ _ _ _ _ _ _ _ _ _ _ _ _ _ _ X).1, (EQ _ _ _ _ _ _ _ _ _ _ _ _ _ _ _ _ X).2.1⟩
    | exact ⟨X.1, X.2.1⟩
    | cases X

include O IH in
theorem evCode_sound {c hl hs hc acc cond base nw n j N t g κ h} (X : evCode V ih c hl hs hc acc cond base nw n j N t g κ) (D : Rep V h ⟨base, nw, n, j, N, t, g⟩) (K : okK κ) :
    codeAny (model V.prog V.w) (ar V κ) c (endR V κ) ⟨h, g, V.d, t + j, V.os⟩ := by
  unfold evCode at X
  split at X
  · rename_i a fd b args e
    split at X
    · rename_i hcd
      split at X
      · rename_i hd
        have z := IH _ _ _ _ _ _ _ _ _ _ _ _ _ _ _ _ h X D K
        unfold fnAt at e
        split at e
        · split at e
          · rename_i a' 
            split at e
            · rename_i o ho
              split at e
              · rename_i fd' hdt
                split at e
                · rename_i hg
                  split at e
                  · rename_i hco
                    split at e
                    · rename_i b' hb
                      cases e
                      have lo := ar_lo O.lo K
                      refine enter_fn (fd := fd) (b := b) ?_ (D.old O ho) hdt hco hg hb ?_ z
                      · have := lo.depth
                        have := Nat.le_of_ble_eq_true hd
                        show _ < 1000
                        omega
                      · unfold codeOk at hcd
                        split at hcd
                        · rename_i cc hcc
                          split at hcd
                          · rename_i oc hoc
                            split at hcd
                            · rename_i vs hvs
                              split at hcd
                              · rename_i x v r hvl
                                split at hcd
                                · rename_i q tq
                                  have eq := Fast.sEq_iff.mp hcd
                                  subst eq
                                  exact ⟨cc, oc, vs, tq, hcc, D.old O hoc, hvs, by rw [← Array.getElem?_toList, hvl]; rfl⟩
                                · cases hcd
                              · cases hcd
                            · cases hcd
                          · cases hcd
                        · cases hcd
                    · cases e
                  · cases e
                · cases e
              · cases e
            · cases e
          · cases e
        · cases e
      · cases X
    · cases X
  · have z := IH _ _ _ _ _ _ _ _ _ _ _ _ _ _ _ _ h X D K
    refine y_code _ _ _ _ _ _ ?_
    rw [dz_eq]
    exact z
include O IH hA in
theorem evAgain_sound {c hl hs hc acc cond base nw n j N t g κ h} (X : evAgain V PP ih c hl hs hc acc cond base nw n j N t g κ) (D : Rep V h ⟨base, nw, n, j, N, t, g⟩) (K : okK κ) :
    codeAny (model V.prog V.w) (ar V κ) c (endR V κ) ⟨h, g, V.d, t + j, V.os⟩ := by
  unfold evAgain at X
  split at X
  · split at X
    · exact hA c _ h X.2.2 D
    · split at X
      · exact hA c _ h X.2.2 D
      · exact evCode_sound O ih IH X D K
  · exact evCode_sound O ih IH X D K
include IH hR in
theorem evRet_sound {r hl hs hc acc cond base nw n j N t g κ h} (X : evRet PP ih r hl hs hc acc cond base nw n j N t g κ) (D : Rep V h ⟨base, nw, n, j, N, t, g⟩) (K : okK κ) :
    endR V κ r ⟨h, g, V.d, t + j, V.os⟩ := by
  cases κ with
  | nil => exact hR r _ h X.2.2 D
  | cons p κ => exact IH _ _ _ _ _ _ _ _ _ _ _ _ _ _ _ _ h X D K.2

include O IH hP hC in
theorem evCall_sound {c c' k hl hs hh hc acc cond base nw n j N t g κ h gd l} (X : evCall V cs H prim ih c c' k hl hs hh hc acc cond base nw n j N t g κ) (EQ : ∀ md hl hs hc acc cond base nw n j N t g c κ tr, ih md hl hs hc acc cond base nw n j N t g c κ tr → Eqs acc ∧ cond)
    (D : Rep V h ⟨base, nw, n, j, N, t, g⟩) (K : okK κ) (hn : notCaller c = true) :
    MeansE V false c κ (.call c' none gd l k) ⟨h, g, V.d, t + j, V.os⟩ := by
  have nb : (none : Option Value) ≠ some byPass := by intro h; cases h
  refine y_call _ _ _ _ _ _ _ _ _ _ _ _ _ nb ?_
  unfold evCall at X
  split at X
  · exact evCode_sound O ih IH (κ := (c, k) :: κ) X D ⟨hn, K⟩
  · split at X
    · split at X
      · rename_i r e q hp
        have cond' := (EQ _ _ _ _ _ _ _ _ _ _ _ _ _ _ _ _ X).2
        refine hP _ _ _ _ _ _ hp cond'.2 _ _ _ _ ((ar_lo O.lo K).push hn) rfl (D.lim O) D.bare fun h' hz hk => ?_
        have D' : Rep V h' ⟨base, nw, n, j + e, N, t, g⟩ := ⟨hz.trans D.size, D.len, fun p hp => hk _ _ (D.base p hp), D.nod, D.lt, D.low, D.lowN, fun k o hk' z => hk _ _ (D.new k o hk' z), fun b o z => hk _ _ (D.keep b o z), D.bare⟩
        have z := IH _ _ _ _ _ _ _ _ _ _ _ _ _ _ _ _ h' X D' K
        rw [← Nat.add_assoc] at z
        exact z
      · cases X
    · split at X
      · rename_i C hCi
        split at X
        · rename_i hd
          have lo := (ar_lo O.lo K).push hn
          have ok := hC _ _ _ _ _ hCi X.2.2.1
          refine ok _ h _ (lo.le (Nat.le_of_ble_eq_true hd)) (ar_frames (κ := (c, k) :: κ)) D fun x h' D' => ?_
          have Y := X.2.2.2 x
          exact IH _ _ _ _ _ _ _ _ _ _ _ _ _ _ _ _ h' Y D' K
        · cases X
      · cases X

include O IH hP hC hR hA in
theorem evS_sound (EQ : ∀ md hl hs hc acc cond base nw n j N t g c κ tr, ih md hl hs hc acc cond base nw n j N t g c κ tr → Eqs acc ∧ cond)
    {md hl hs hc acc cond base nw n j N t g c κ tr h} (X : evS V cs H prim PP ih md hl hs hc acc cond base nw n j N t g c κ tr) (D : Rep V h ⟨base, nw, n, j, N, t, g⟩) (K : okK κ) :
    MeansE V md c κ tr ⟨h, g, V.d, t + j, V.os⟩ := by
  cases tr with
  | pure fin =>
    cases fin with
    | done f =>
      cases md with
      | true => cases X
      | false => exact y_pure _ _ _ _ _ _ _ _ _ (y_done _ _ _ _ _ _ (evRet_sound hR ih IH X D K))
    | again c' =>
      cases md with
      | true =>
        cases c' with
        | func b env =>
          cases κ with
          | nil =>
            cases q : stopHere hc with
            | true =>
              simp only [evS, q] at X
              exact y_pure _ _ _ _ _ _ _ _ _ ⟨b, env, rfl, D.lim O, hA _ _ h X.2.2 D⟩
            | false =>
              simp only [evS, q] at X
              have z := IH _ _ _ _ _ _ _ _ _ _ _ _ _ _ _ _ h X D K
              exact y_pure _ _ _ _ _ _ _ _ _ ⟨b, env, rfl, D.lim O, y_code _ _ _ _ _ _ (by rw [dz_eq]; exact z)⟩
          | cons x κ =>
            have z := IH _ _ _ _ _ _ _ _ _ _ _ _ _ _ _ _ h X D K
            exact y_pure _ _ _ _ _ _ _ _ _ ⟨b, env, rfl, D.lim O, y_code _ _ _ _ _ _ (by rw [dz_eq]; exact z)⟩
        | _ => cases X
      | false =>
        cases q : quietQ c' with
        | false => simp only [evS, q] at X
        | true =>
          simp only [evS, q] at X
          exact y_pure _ _ _ _ _ _ _ _ _ (y_again _ _ _ _ _ _ (by rw [quietQ_eq]; exact q) (evAgain_sound O hA ih IH X D K))
  | raise e =>
    cases md with
    | true => cases X
    | false => exact y_raise _ _ _ _ _ _ _ _ _ (y_err _ _ _ (evRet_sound hR ih IH X D K))
  | rule tag k =>
    have z := IH _ _ _ _ _ _ _ _ _ _ _ _ _ _ _ _ h X D K
    cases md <;> exact y_skim _ _ _ _ _ _ _ _ _ 1 z
  | «at» q k =>
    have z := IH _ _ _ _ _ _ _ _ _ _ _ _ _ _ _ _ h X D K
    cases md <;> exact y_skim _ _ _ _ _ _ _ _ _ 1 z
  | point l k =>
    have z := IH _ _ _ _ _ _ _ _ _ _ _ _ _ _ _ _ h X D K
    cases md <;> exact y_skim _ _ _ _ _ _ _ _ _ 1 z
  | ask k =>
    have z := IH _ _ _ _ _ _ _ _ _ _ _ _ _ _ _ _ h X D K
    cases md <;> exact y_skim _ _ _ _ _ _ _ _ _ 1 z
  | fresh k =>
    have D' : Rep V h ⟨base, nw, n, j + 1, N, t, g⟩ := ⟨D.size, D.len, D.base, D.nod, D.lt, D.low, D.lowN, D.new, D.keep, D.bare⟩
    have z := IH _ _ _ _ _ _ _ _ _ _ _ _ _ _ _ _ h X D' K
    cases md <;> exact y_fresh _ _ _ _ _ _ _ _ _ _ _ _ _ z
  | handled own k =>
    cases own with
    | true => cases X
    | false =>
      have z := IH _ _ _ _ _ _ _ _ _ _ _ _ _ _ _ _ h X D K
      have e := (ar_lo O.lo K).handled
      cases md <;> exact y_handled _ _ _ _ _ _ _ _ _ (by rw [e]; exact z)
  | load a q k =>
    cases hl with
    | nil => cases X
    | cons hh hl =>
      simp only [evS] at X
      split at X
      · split at X
        · rename_i o e
          have z := IH _ _ _ _ _ _ _ _ _ _ _ _ _ _ _ _ h X D K
          have ho := D.old O e
          cases md <;> exact y_load _ _ _ _ _ _ _ _ _ _ _ _ _ _ _ _ ho z
        · cases X
      · split at X
        · rename_i p e
          have z := IH _ _ _ _ _ _ _ _ _ _ _ _ _ _ _ _ h X D K
          have ea : a = p.1 := (EQ _ _ _ _ _ _ _ _ _ _ _ _ _ _ _ _ X).1.1
          rw [baseAt_eq] at e
          have ho := D.base p (List.mem_of_getElem? e)
          rw [← ea] at ho
          cases md <;> exact y_load _ _ _ _ _ _ _ _ _ _ _ _ _ _ _ _ ho z
        · cases X
      · split at X
        · rename_i o e
          split at X
          · rename_i hlt
            have z := IH _ _ _ _ _ _ _ _ _ _ _ _ _ _ _ _ h X D K
            have ea : a = N + _ := (EQ _ _ _ _ _ _ _ _ _ _ _ _ _ _ _ _ X).1.1
            rw [nwAt_eq] at e
            have ho := D.new _ o (blt_true hlt) (by
              simp only
              revert e
              cases nw[n - 1 - _]? <;> simp)
            rw [← ea] at ho
            cases md <;> exact y_load _ _ _ _ _ _ _ _ _ _ _ _ _ _ _ _ ho z
          · cases X
        · cases X
  | update a q f k =>
    cases hl with
    | nil => cases X
    | cons hh hl =>
      simp only [evS] at X
      split at X
      · cases X
      · split at X
        · rename_i p e
          split at X
          · rename_i o el
            obtain ⟨rfl, hf⟩ := live_eq el
            have ea : a = p.1 := (EQ _ _ _ _ _ _ _ _ _ _ _ _ _ _ _ _ X).1.1
            rw [baseSet_eq] at X
            rw [baseAt_eq] at e
            rw [e] at X
            have D' := D.setBase O e hf
            have ho := D.base p (List.mem_of_getElem? e)
            have z := IH _ _ _ _ _ _ _ _ _ _ _ _ _ _ _ _ _ X D' K
            subst ea
            cases md <;> exact wpOwn_bind (m := updatePart p.1 q f) (f := k) (wpOwn_of_wpAny (wpAny_updatePart ho z))
          · cases X
        · cases X
      · rename_i kk _
        split at X
        · rename_i p e
          split at X
          · rename_i o el
            obtain ⟨rfl, hf⟩ := live_eq el
            split at X
            · rename_i hlt
              have ea : a = N + _ := (EQ _ _ _ _ _ _ _ _ _ _ _ _ _ _ _ _ X).1.1
              rw [nwSet_eq] at X
              rw [nwAt_eq] at e
              have e' : nw[n - 1 - kk]? = some (some p) := by
                revert e
                cases nw[n - 1 - kk]? <;> simp
              have D' := D.setNew O (blt_true hlt) e' hf
              have ho := D.new _ p (blt_true hlt) e'
              have z := IH _ _ _ _ _ _ _ _ _ _ _ _ _ _ _ _ _ X D' K
              subst ea
              cases md <;> exact wpOwn_bind (m := updatePart _ q f) (f := k) (wpOwn_of_wpAny (wpAny_updatePart ho z))
            · cases X
          · cases X
        · cases X
  | alloc o k =>
    simp only [evS] at X
    split at X
    · rename_i o' el
      obtain ⟨eo, hf⟩ := live_eq el
      subst eo
      have D' := D.alloc hf nw n rfl rfl
      have z := IH _ _ _ _ _ _ _ _ _ _ _ _ _ _ _ _ _ X D' K
      have es : h.objs.size = N + n := D.size
      cases md <;> exact wpOwn_bind (m := PySem.alloc _) (f := k) (wpOwn_of_wpAny (wpAny_alloc (by rw [es]; exact z)))
    · cases X
  | call c' hd gd l k =>
    cases md with
    | true => cases X
    | false =>
      cases hd with
      | some v => cases X
      | none =>
        cases hc with
        | nil => cases X
        | cons hh hc =>
          cases q : notCaller c with
          | false => simp only [evS, q] at X
          | true =>
            simp only [evS, q] at X
            exact evCall_sound O hP hC ih IH X EQ D K q
  | loadIfAlive => cases X
  | unsupported => cases X
  | finish => cases X
  | register => cases X
  | choose => cases X
  | os => cases X
  | newGen => cases X
  | genState => cases X
  | resume => cases X
  | yield => cases X
  | stack k =>
    simp only [evS] at X
    split at X
    · rename_i hd
      have z := IH _ _ _ _ _ _ _ _ _ _ _ _ _ _ _ _ h X D K
      have ok := (EQ _ _ _ _ _ _ _ _ _ _ _ _ _ _ _ _ X).2.2
      have lo := ar_lo O.lo K
      have hd := Nat.le_of_ble_eq_true hd
      have hu := units_le c
      have key : ∀ (p : Pos) (below : List (Code × Pos)), Lies ((ar V κ).under c) ((c, p) :: below) → k ((c, p) :: below) = k [] := fun p below l => ok _ (by
        have h1 := l.units
        have h2 : ((ar V κ).under c).units = (ar V κ).units + c.cUnits := rfl
        have h3 := lo.units
        have h4 : cLine = 9900 := rfl
        omega)
      cases md <;> exact y_stack _ _ _ _ _ _ _ _ _ fun p below l => by rw [key p below l]; exact z
    · cases X
  | fork => cases X
  | thread => cases X
  | await => cases X
end

theorem ev_eq {V : Cfg} {cs : List Ctr} {H : Nat → Code → St → Option (List Env) → Prop} {prim : Nat → Code → Nat → Option (Result × Nat × Prop)} {PP : Result ⊕ Code → St → Prop} :
    ∀ (m : Nat) md hl hs hc acc cond base nw n j N t g c κ tr, ev V cs H prim PP m md hl hs hc acc cond base nw n j N t g c κ tr → Eqs acc ∧ cond
  | 0 => fun _ _ _ _ _ _ _ _ _ _ _ _ _ _ _ _ X => by cases X
  | m + 1 => fun _ _ _ _ _ _ _ _ _ _ _ _ _ _ _ _ X => evS_eq _ (ev_eq m) X
theorem ev_sound {V : Cfg} (O : CfgOk V) {cs : List Ctr} {H : Nat → Code → St → Option (List Env) → Prop} {prim : Nat → Code → Nat → Option (Result × Nat × Prop)} {PP : Result ⊕ Code → St → Prop}
    (hP : PrimOk V prim) (hC : ∀ i C c st fr, cs[i]? = some C → H i c st fr → CtrOk V C c st fr)
    (hR : ∀ r st h, PP (.inl r) st → Rep V h st → V.R₀ r ⟨h, st.g, V.d, st.t + st.j, V.os⟩)
    (hA : ∀ c st h, PP (.inr c) st → Rep V h st → codeAny (model V.prog V.w) V.A₀ c V.R₀ ⟨h, st.g, V.d, st.t + st.j, V.os⟩) :
    ∀ (m : Nat) md hl hs hc acc cond base nw n j N t g c κ tr h, ev V cs H prim PP m md hl hs hc acc cond base nw n j N t g c κ tr → Rep V h ⟨base, nw, n, j, N, t, g⟩ → okK κ → MeansE V md c κ tr ⟨h, g, V.d, t + j, V.os⟩
  | 0 => fun _ _ _ _ _ _ _ _ _ _ _ _ _ _ _ _ _ X _ _ => by cases X
  | m + 1 => fun _ _ _ _ _ _ _ _ _ _ _ _ _ _ _ _ _ X D K => evS_sound O hP hC hR hA _ (ev_sound O hP hC hR hA m) (ev_eq m) X D K

/-- a code by its run -/
theorem code_by_run {V : Cfg} (O : CfgOk V) {cs : List Ctr} {H : Nat → Code → St → Option (List Env) → Prop} {prim : Nat → Code → Nat → Option (Result × Nat × Prop)} {PP : Result ⊕ Code → St → Prop}
    (hP : PrimOk V prim) (hC : ∀ i C c st fr, cs[i]? = some C → H i c st fr → CtrOk V C c st fr)
    (hR : ∀ r st h, PP (.inl r) st → Rep V h st → V.R₀ r ⟨h, st.g, V.d, st.t + st.j, V.os⟩)
    (hA : ∀ c st h, PP (.inr c) st → Rep V h st → codeAny (model V.prog V.w) V.A₀ c V.R₀ ⟨h, st.g, V.d, st.t + st.j, V.os⟩)
    (m : Nat) {hl hs hc base N t g c h} (X : evCode V (Mine.run V cs H prim PP m) c hl hs hc [] True base [] 0 0 N t g []) (D : Rep V h ⟨base, [], 0, 0, N, t, g⟩) :
    codeAny (model V.prog V.w) V.A₀ c V.R₀ ⟨h, g, V.d, t, V.os⟩ := by
  unfold Mine.run at X
  exact evCode_sound O _ (ev_sound O hP hC hR hA m) X D trivial
/-- a tree by its run -/
theorem tree_by_run {V : Cfg} (O : CfgOk V) {cs : List Ctr} {H : Nat → Code → St → Option (List Env) → Prop} {prim : Nat → Code → Nat → Option (Result × Nat × Prop)} {PP : Result ⊕ Code → St → Prop}
    (hP : PrimOk V prim) (hC : ∀ i C c st fr, cs[i]? = some C → H i c st fr → CtrOk V C c st fr)
    (hR : ∀ r st h, PP (.inl r) st → Rep V h st → V.R₀ r ⟨h, st.g, V.d, st.t + st.j, V.os⟩)
    (hA : ∀ c st h, PP (.inr c) st → Rep V h st → codeAny (model V.prog V.w) V.A₀ c V.R₀ ⟨h, st.g, V.d, st.t + st.j, V.os⟩)
    (m : Nat) {hl hs hc base nw n j N t g c h tr} (X : Mine.run V cs H prim PP m false hl hs hc [] True base nw n j N t g c [] tr) (D : Rep V h ⟨base, nw, n, j, N, t, g⟩) :
    wpOwn (model V.prog V.w) V.A₀ c tr (postC V.prog V.w V.A₀ V.R₀) (postE V.R₀) ⟨h, g, V.d, t + j, V.os⟩ := by
  unfold Mine.run at X
  exact ev_sound O hP hC hR hA m _ _ _ _ _ _ _ _ _ _ _ _ _ _ _ _ _ X D trivial
end Mine
end Snd3

section Prim
open PySem PySem.Calls PySem.W PySem.W.X PyProof.Rows
set_option Elab.async false
set_option maxRecDepth 100000
namespace Mine

noncomputable def strHas (s sub : Str) : Bool := !(Builtin.Str.occurrences s sub 0 s.length 1).isEmpty
noncomputable def strEq (a b : Str) : Bool := a.cps.toList == b.cps.toList
noncomputable def strNe (a b : Str) : Bool := a.cps.toList != b.cps.toList
noncomputable def saysB (q : Bool) (h : Nat) : Option (Result × Nat × Prop) := match h with
  | 2 => some (.ok (.ret (.bool false)), 0, q = false)
  | 3 => some (.ok (.ret (.bool true)), 0, q = true)
  | _ => none
noncomputable def primSS (n : Nat) (x y : Str) (h tk : Nat) : Option (Result × Nat × Prop) :=
  match Nat.beq n 455126313168696234964340 with
  | true => saysB (strEq x y) h
  | false => match Nat.beq n 455125451010842570225012 with
    | true => saysB (strNe x y) h
    | false => match Nat.beq n 128106709680535770272165659069392319860 with
      | true => saysB (strHas x y) h
      | false => match Nat.beq n 116512096292018843154609524 with
        | true => some (.ok (.ret (.str (x ++ y) tk)), 1, x.length ≠ 0 ∧ y.length ≠ 0 ∧ (x ++ y).length ≤ sizeLine)
        | false => none
noncomputable def primS (n : Nat) (x : Str) (h tk : Nat) : Option (Result × Nat × Prop) :=
  match Nat.beq n 116512280834613399031870836 with
  | true => match h with
    | 1 => some (.ok (.ret (.int x.length tk)), 1, True)
    | 2 => some (.ok (.ret (.int 0 tk)), 1, x.length = 0)
    | 3 => some (.ok (.ret (.int (Int.ofNat (Nat.succ (x.length - 1))) tk)), 1, x.length ≠ 0)
    | _ => none
  | false => match Nat.beq n 7300717 with
    | true => some (.ok (.ret (.int x.length (tk + 1))), 2, x.length < 2 ^ 63)
    | false => none
noncomputable def primII (n : Nat) (x y : Int) (h : Nat) : Option (Result × Nat × Prop) :=
  match Nat.beq n 455126531311803185852266 with
  | true => saysB (decide (x < y)) h
  | false => match Nat.beq n 455125450447892616933226 with
    | true => saysB (decide (x ≤ y)) h
    | false => match Nat.beq n 455126529904428302298986 with
      | true => saysB (decide (x > y)) h
      | false => match Nat.beq n 455125449040517733379946 with
        | true => saysB (decide (x ≥ y)) h
        | false => match Nat.beq n 455126313168696235093866 with
          | true => saysB (x == y) h
          | false => match Nat.beq n 455125451010842570354538 with
            | true => saysB (x != y) h
            | false => none
noncomputable def primL (n : Nat) (x : Str) (h tk : Nat) : Option (Result × Nat × Prop) :=
  match Nat.beq n 7300717 with
  | true => match h with
    | 1 => some (.ok (.ret (.int x.length (tk + 1))), 2, x.length < 2 ^ 63)
    | 2 => some (.ok (.ret (.int 0 (tk + 1))), 2, x.length = 0)
    | 3 => some (.ok (.ret (.int (Int.ofNat (Nat.succ (x.length - 1))) (tk + 1))), 2, x.length ≠ 0 ∧ x.length < 2 ^ 63)
    | _ => none
  | false => none
noncomputable def primQ (h : Nat) (c : Code) (tk : Nat) : Option (Result × Nat × Prop) := match c with
  | .call f args => match f with
    | .builtin id => match args with
      | ⟨pos, kw⟩ => match kw with
        | [] => match pos with
          | [v] => match v with
            | .str x _ => primS (S.codeS id) x h tk
            | _ => none
          | [v, u] => match v with
            | .str x _ => match u with
              | .str y _ => primSS (S.codeS id) x y h tk
              | _ => none
            | .int x _ => match u with
              | .int y _ => primII (S.codeS id) x y h
              | _ => none
            | _ => none
          | _ => none
        | _ => none
    | _ => none
  | .builtin id args => match args with
    | ⟨pos, kw⟩ => match kw with
      | [] => match pos with
        | [v] => match v with
          | .str x _ => primL (S.codeS id) x h tk
          | _ => none
        | _ => none
      | _ => none
  | _ => none

/-- a configuration that knows nothing -/
noncomputable def bareV (prog : Program) (w : World) (s : Shared) (A : Around) (D : Nat) (R : Result → Shared → Prop) : Cfg :=
  { prog, w, h₀ := s.heap, n₁ := s.heap.objs.size, kt := .nil, A₀ := A, D, R₀ := R, d := s.drawn, os := s.os }
theorem bare_ok {prog : Program} {w : World} {s : Shared} {A : Around} {D : Nat} {R : Result → Shared → Prop} (lo : Lo A D) (hl : s.heap.NoLimit) : CfgOk (bareV prog w s A D R) :=
  ⟨rfl, trivial, lo, hl⟩
theorem bare_rep {prog : Program} {w : World} {s : Shared} {A : Around} {D : Nat} {R : Result → Shared → Prop} (hb : AllBare s.gens) : Rep (bareV prog w s A D R) s.heap ⟨[], [], 0, 0, s.heap.objs.size, s.toks, s.gens⟩ :=
  ⟨rfl, rfl, fun _ h => (nomatch h), List.nodup_nil, fun _ h => (nomatch h), fun _ h => (nomatch h), Nat.le_refl _, fun k o hk _ => absurd hk (Nat.not_lt_zero k), fun _ _ e => e, hb⟩
/-- a built-in by its run, with no primitives -/
theorem prim_by_run {prog : Program} {w : World} {A : Around} {D : Nat} {s : Shared} {R : Result → Shared → Prop} {c : Code} {r : Nat → Result} {e : Nat} (m : Nat) (hc : List Nat)
    (x : ∀ (prog : Program) (w : World) (h0 : Heap) (n : Nat) (A : Around) (D : Nat) (R : Result → Shared → Prop) (d : Drawn) (os : OsState) (PP : Result ⊕ Code → St → Prop) (N t : Nat) (g : Array GenState),
      evCode ⟨prog, w, h0, n, .nil, A, D, R, d, os⟩ (Mine.run ⟨prog, w, h0, n, .nil, A, D, R, d, os⟩ [] (fun _ _ _ _ => False) (fun _ _ _ => none) PP m) c [] [] hc [] True [] [] 0 0 N t g [] = (Eqs [] ∧ True ∧ PP (.inl (r t)) ⟨[], [], 0, e, N, t, g⟩))
    (lo : Lo A D) (hl : s.heap.NoLimit) (hb : AllBare s.gens)
    (y : ∀ h' : Heap, h'.objs.size = s.heap.objs.size → (∀ b o, s.heap.get? b = some o → h'.get? b = some o) → R (r s.toks) ⟨h', s.gens, s.drawn, s.toks + e, s.os⟩) : codeAny (model prog w) A c R s := by
  have O : CfgOk (bareV prog w s A D R) := bare_ok lo hl
  have := code_by_run (V := bareV prog w s A D R) O (cs := []) (H := fun _ _ _ _ => False) (prim := fun _ _ _ => none) (PP := fun x st => x = .inl (r s.toks) ∧ st = ⟨[], [], 0, e, s.heap.objs.size, s.toks, s.gens⟩)
    (fun _ _ _ _ _ _ h => by cases h) (fun _ _ _ _ _ h => by cases h) (fun r' st h q D => ?_) (fun c st h q => by cases q.1) m (hl := []) (hs := []) (hc := hc) (base := []) (N := s.heap.objs.size) (t := s.toks) (g := s.gens) (c := c) (h := s.heap)
    (by unfold bareV; rw [x]; exact ⟨trivial, trivial, rfl, rfl⟩) (bare_rep hb)
  · exact this
  · obtain ⟨q1, q2⟩ := q
    cases q1
    subst q2
    exact y h D.size D.keep
theorem saysB_ok {prog : Program} {w : World} {A : Around} {s : Shared} {R : Result → Shared → Prop} {c : Code} {q : Bool} {h e : Nat} {r : Result} {Q : Prop}
    (x : ∀ {R : Result → Shared → Prop}, (∀ h' : Heap, h'.objs.size = s.heap.objs.size → (∀ b o, s.heap.get? b = some o → h'.get? b = some o) → R (.ok (.ret (.bool q))) ⟨h', s.gens, s.drawn, s.toks + 0, s.os⟩) → codeAny (model prog w) A c R s)
    (p : saysB q h = some (r, e, Q)) (hQ : Q)
    (y : ∀ h' : Heap, h'.objs.size = s.heap.objs.size → (∀ b o, s.heap.get? b = some o → h'.get? b = some o) → R r ⟨h', s.gens, s.drawn, s.toks + e, s.os⟩) : codeAny (model prog w) A c R s := by
  unfold saysB at p
  split at p
  · cases p; refine x ?_; rw [hQ]; exact y
  · cases p; refine x ?_; rw [hQ]; exact y
  · cases p

theorem id_of {id : String} {n : Nat} {s : String} (h : Nat.beq (S.codeS id) n = true) (e : S.codeS s = n) : id = s := by
  have := Nat.eq_of_beq_eq_true h
  rw [← e, ← S.code_S, ← S.code_S] at this
  exact PySem.code_inj _ _ this

theorem occQ_eq : @Builtin.Str.occurrences = PySem.W.Fast.tw15715988071286343644 := PySem.W.Fast.te15715988071286343644
section
variable {prog : Program} {w : World} {A : Around} {D : Nat} {s : Shared} {R : Result → Shared → Prop}
noncomputable abbrev Back (s : Shared) (R : Result → Shared → Prop) (r : Result) (e : Nat) : Prop := ∀ h' : Heap, h'.objs.size = s.heap.objs.size → (∀ b o, s.heap.get? b = some o → h'.get? b = some o) → R r ⟨h', s.gens, s.drawn, s.toks + e, s.os⟩
set_option maxHeartbeats 0
theorem p_strEq (x y : Str) (t1 t2 : Nat) (lo : Lo A D) (hl : s.heap.NoLimit) (hb : AllBare s.gens) (z : Back s R (.ok (.ret (.bool (strEq x y)))) 0) :
    codeAny (model prog w) A (.call (.builtin "str.__eq__") ⟨[.str x t1, .str y t2], []⟩) R s := prim_by_run (r := fun _ => .ok (.ret (.bool (strEq x y)))) 60 [] (by intros; kernel_rfl) lo hl hb z
theorem p_strNe (x y : Str) (t1 t2 : Nat) (lo : Lo A D) (hl : s.heap.NoLimit) (hb : AllBare s.gens) (z : Back s R (.ok (.ret (.bool (strNe x y)))) 0) :
    codeAny (model prog w) A (.call (.builtin "str.__ne__") ⟨[.str x t1, .str y t2], []⟩) R s := prim_by_run (r := fun _ => .ok (.ret (.bool (strNe x y)))) 60 [] (by intros; kernel_rfl) lo hl hb z
theorem p_strHas (x y : Str) (t1 t2 : Nat) (lo : Lo A D) (hl : s.heap.NoLimit) (hb : AllBare s.gens) (z : Back s R (.ok (.ret (.bool (strHas x y)))) 0) :
    codeAny (model prog w) A (.call (.builtin "str.__contains__") ⟨[.str x t1, .str y t2], []⟩) R s := by
  unfold strHas at z
  rw [occQ_eq] at z
  exact prim_by_run (r := fun _ => .ok (.ret (.bool (!(PySem.W.Fast.tw15715988071286343644 x y 0 x.length 1).isEmpty)))) 60 [] (by intros; kernel_rfl) lo hl hb z
theorem p_strLen (x : Str) (t1 : Nat) (lo : Lo A D) (hl : s.heap.NoLimit) (hb : AllBare s.gens) (z : Back s R (.ok (.ret (.int x.length s.toks))) 1) :
    codeAny (model prog w) A (.call (.builtin "str.__len__") ⟨[.str x t1], []⟩) R s := prim_by_run (r := fun t => .ok (.ret (.int x.length t))) 60 [] (by intros; kernel_rfl) lo hl hb z
theorem p_lt (x y : Int) (t1 t2 : Nat) (lo : Lo A D) (hl : s.heap.NoLimit) (hb : AllBare s.gens) (z : Back s R (.ok (.ret (.bool (decide (x < y))))) 0) :
    codeAny (model prog w) A (.call (.builtin "int.__lt__") ⟨[.int x t1, .int y t2], []⟩) R s := prim_by_run (r := fun _ => .ok (.ret (.bool (decide (x < y))))) 60 [] (by intros; kernel_rfl) lo hl hb z
theorem p_le (x y : Int) (t1 t2 : Nat) (lo : Lo A D) (hl : s.heap.NoLimit) (hb : AllBare s.gens) (z : Back s R (.ok (.ret (.bool (decide (x ≤ y))))) 0) :
    codeAny (model prog w) A (.call (.builtin "int.__le__") ⟨[.int x t1, .int y t2], []⟩) R s := prim_by_run (r := fun _ => .ok (.ret (.bool (decide (x ≤ y))))) 60 [] (by intros; kernel_rfl) lo hl hb z
theorem p_gt (x y : Int) (t1 t2 : Nat) (lo : Lo A D) (hl : s.heap.NoLimit) (hb : AllBare s.gens) (z : Back s R (.ok (.ret (.bool (decide (x > y))))) 0) :
    codeAny (model prog w) A (.call (.builtin "int.__gt__") ⟨[.int x t1, .int y t2], []⟩) R s := prim_by_run (r := fun _ => .ok (.ret (.bool (decide (x > y))))) 60 [] (by intros; kernel_rfl) lo hl hb z
theorem p_ge (x y : Int) (t1 t2 : Nat) (lo : Lo A D) (hl : s.heap.NoLimit) (hb : AllBare s.gens) (z : Back s R (.ok (.ret (.bool (decide (x ≥ y))))) 0) :
    codeAny (model prog w) A (.call (.builtin "int.__ge__") ⟨[.int x t1, .int y t2], []⟩) R s := prim_by_run (r := fun _ => .ok (.ret (.bool (decide (x ≥ y))))) 60 [] (by intros; kernel_rfl) lo hl hb z
theorem p_eq (x y : Int) (t1 t2 : Nat) (lo : Lo A D) (hl : s.heap.NoLimit) (hb : AllBare s.gens) (z : Back s R (.ok (.ret (.bool (x == y)))) 0) :
    codeAny (model prog w) A (.call (.builtin "int.__eq__") ⟨[.int x t1, .int y t2], []⟩) R s := prim_by_run (r := fun _ => .ok (.ret (.bool (x == y)))) 60 [] (by intros; kernel_rfl) lo hl hb z
theorem p_ne (x y : Int) (t1 t2 : Nat) (lo : Lo A D) (hl : s.heap.NoLimit) (hb : AllBare s.gens) (z : Back s R (.ok (.ret (.bool (x != y)))) 0) :
    codeAny (model prog w) A (.call (.builtin "int.__ne__") ⟨[.int x t1, .int y t2], []⟩) R s := prim_by_run (r := fun _ => .ok (.ret (.bool (x != y)))) 60 [] (by intros; kernel_rfl) lo hl hb z

theorem p_strAdd (x y : Str) (t1 t2 : Nat) (hx : x.length ≠ 0) (hy : y.length ≠ 0) (hz : (x ++ y).length ≤ sizeLine) (z : Back s R (.ok (.ret (.str (x ++ y) s.toks))) 1) :
    codeAny (model prog w) A (.call (.builtin "str.__add__") ⟨[.str x t1, .str y t2], []⟩) R s := by
  refine codeAny_call_builtin PySem.F.slot_str_add.plain PySem.F.entry_str_add (PySem.F.slot_str_add.check _ _ _ _ _ _ _ _ (typeIs_str s x t1) (PySem.F.args_str_add_2 _ _) ?_)
  refine gives_str_add x y t1 t2 prog w A R s ?_
  have e1 : (x.length == 0) = false := by simpa using hx
  have e2 : (y.length == 0) = false := by simpa using hy
  rw [e1, e2]
  exact ⟨hz, z s.heap rfl fun _ _ e => e⟩
theorem code_fn_entry {id : String} {b : Builtin} {args : List Value} (hk : builtinKind id = none) (hp : plainId id = true) (hb : entryFor table id = some b) (ha : argsOk id ⟨args, []⟩)
    (hc : wpAny (model prog w) A.in1 (b ⟨args, []⟩) (fun fin s' => ∃ v, fin = .done (.ret v) ∧ R (.ok (.ret v)) s') (fun e s' => R (.error e) s') s) : codeAny (model prog w) A (.call (.builtin id) ⟨args, []⟩) R s := by
  refine codeAny_call_builtin hp hb ?_
  have hfin := wpAny_mono hc (Q' := fun fin s' => match fin with | .done f => R (.ok f) s' | .again c' => c'.quiet = true ∧ codeAny (model prog w) A c' R s')
    (fun fin s' h' => by obtain ⟨v, rfl, hv⟩ := h'; exact hv) fun _ _ h' => h'
  simp only [checkBuiltinCall, hk]
  cases hsig : Manifest.signature? id with
  | none => exact wpAny_pure hfin
  | some sig =>
    unfold argsOk at ha
    rw [hsig] at ha
    simp only [ha]
    exact wpAny_pure hfin
theorem p_lenBody (x : Str) (t1 : Nat) (hx : x.length < 2 ^ 63) {Q : Fin → Shared → Prop} {E : Value → Shared → Prop} (z : Q (.done (.ret (.int x.length (s.toks + 1)))) { s with toks := s.toks + 2 }) :
    wpAny (model prog w) A (Builtin.«len» ⟨[.str x t1], []⟩) Q E s := by
  unfold Builtin.«len»
  refine wpAny_bind (m := oneArg "len" _) (wpAny_pure ?_)
  refine wpAny_bind (m := callSpecial? (.str x t1) (Str.ofString "__len__")) (wpAny_callSpecial?_slot (name := Str.ofString "__len__") (typeIs_str s x t1) PySem.F.slot_str_len (call_gives PySem.F.slot_str_len (typeIs_str s x t1) PySem.F.entry_str_len (PySem.F.args_str_len_1 _) (gives_str_len x t1) ?_))
  show wpAny _ _ _ _ _ { s with toks := s.toks + 1 }
  refine wpAny_bind (wpAny_holding (wpAny_pure ?_))
  refine wpAny_bind (wpAny_letGo ?_)
  show wpAny _ _ (if (x.length : Int) < 0 then _ else _) _ _ _
  rw [if_neg (by omega)]
  show wpAny _ _ (if (x.length : Int) ≥ 2 ^ 63 then _ else _) _ _ _
  rw [if_neg (by omega)]
  exact wpAny_bind (wpAny_mkInt (wpAny_pure z))
theorem p_len (x : Str) (t1 : Nat) (hx : x.length < 2 ^ 63) (z : Back s R (.ok (.ret (.int x.length (s.toks + 1)))) 2) :
    codeAny (model prog w) A (.call (.builtin "len") ⟨[.str x t1], []⟩) R s :=
  code_fn_entry kind_len plain_len entry_len (args_len1 _) (p_lenBody x t1 hx ⟨_, rfl, z s.heap rfl fun _ _ e => e⟩)
theorem p_lenB (x : Str) (t1 : Nat) (hx : x.length < 2 ^ 63) (z : Back s R (.ok (.ret (.int x.length (s.toks + 1)))) 2) :
    codeAny (model prog w) A (.builtin "len" ⟨[.str x t1], []⟩) R s := by
  refine codeAny_builtin entry_len ?_
  exact p_lenBody x t1 hx (z s.heap rfl fun _ _ e => e)
end

theorem prim_ok (V : Cfg) : PrimOk V primQ := by
  intro h c tk r e q p hq A D s R lo ht hl hb z
  subst ht
  unfold primQ at p
  split at p
  · split at p
    · split at p
      · split at p
        · split at p
          · split at p
            · rename_i id _ _ _ x tx
              unfold primS at p
              split at p
              · rename_i hid
                obtain rfl := id_of (s := "str.__len__") hid (by kernel_rfl)
                split at p
                · cases p; exact p_strLen x tx lo hl hb z
                · cases p
                  have : x.length = 0 := hq
                  refine p_strLen x tx lo hl hb ?_
                  rw [this]; exact z
                · cases p
                  have : x.length ≠ 0 := hq
                  refine p_strLen x tx lo hl hb ?_
                  have e : (x.length : Int) = Int.ofNat (Nat.succ (x.length - 1)) := by
                    show (x.length : Int) = ((x.length - 1 + 1 : Nat) : Int)
                    omega
                  rw [e]; exact z
                · cases p
              · split at p
                · rename_i hid
                  obtain rfl := id_of (s := "len") hid (by kernel_rfl)
                  cases p
                  exact p_len x tx hq z
                · cases p
            · cases p
          · split at p
            · rename_i id _ _ _ _ x tx
              split at p
              · rename_i y ty
                unfold primSS at p
                split at p
                · rename_i hid
                  obtain rfl := id_of (s := "str.__eq__") hid (by kernel_rfl)
                  exact saysB_ok (fun z => p_strEq x y tx ty lo hl hb z) p hq z
                · split at p
                  · rename_i hid
                    obtain rfl := id_of (s := "str.__ne__") hid (by kernel_rfl)
                    exact saysB_ok (fun z => p_strNe x y tx ty lo hl hb z) p hq z
                  · split at p
                    · rename_i hid
                      obtain rfl := id_of (s := "str.__contains__") hid (by kernel_rfl)
                      exact saysB_ok (fun z => p_strHas x y tx ty lo hl hb z) p hq z
                    · split at p
                      · rename_i hid
                        obtain rfl := id_of (s := "str.__add__") hid (by kernel_rfl)
                        cases p
                        exact p_strAdd x y tx ty hq.1 hq.2.1 hq.2.2 z
                      · cases p
              · cases p
            · rename_i id _ _ _ _ x tx
              split at p
              · rename_i y ty
                unfold primII at p
                split at p
                · rename_i hid
                  obtain rfl := id_of (s := "int.__lt__") hid (by kernel_rfl)
                  exact saysB_ok (fun z => p_lt x y tx ty lo hl hb z) p hq z
                · split at p
                  · rename_i hid
                    obtain rfl := id_of (s := "int.__le__") hid (by kernel_rfl)
                    exact saysB_ok (fun z => p_le x y tx ty lo hl hb z) p hq z
                  · split at p
                    · rename_i hid
                      obtain rfl := id_of (s := "int.__gt__") hid (by kernel_rfl)
                      exact saysB_ok (fun z => p_gt x y tx ty lo hl hb z) p hq z
                    · split at p
                      · rename_i hid
                        obtain rfl := id_of (s := "int.__ge__") hid (by kernel_rfl)
                        exact saysB_ok (fun z => p_ge x y tx ty lo hl hb z) p hq z
                      · split at p
                        · rename_i hid
                          obtain rfl := id_of (s := "int.__eq__") hid (by kernel_rfl)
                          exact saysB_ok (fun z => p_eq x y tx ty lo hl hb z) p hq z
                        · split at p
                          · rename_i hid
                            obtain rfl := id_of (s := "int.__ne__") hid (by kernel_rfl)
                            exact saysB_ok (fun z => p_ne x y tx ty lo hl hb z) p hq z
                          · cases p
              · cases p
            · cases p
          · cases p
        · cases p
    · cases p
  · split at p
    split at p
    · split at p
      · split at p
        · rename_i id _ _ _ x tx
          unfold primL at p
          split at p
          · rename_i hid
            obtain rfl := id_of (s := "len") hid (by kernel_rfl)
            split at p
            · cases p; exact p_lenB x tx hq z
            · cases p
              have : x.length = 0 := hq
              refine p_lenB x tx (by rw [this]; decide) ?_
              rw [this]; exact z
            · cases p
              have h0 : x.length ≠ 0 := hq.1
              refine p_lenB x tx hq.2 ?_
              have e : (x.length : Int) = Int.ofNat (Nat.succ (x.length - 1)) := by
                show (x.length : Int) = ((x.length - 1 + 1 : Nat) : Int)
                omega
              rw [e]; exact z
            · cases p
          · cases p
        · cases p
      · cases p
    · cases p
  · cases p
end Mine
end Prim

section Old
open PySem PySem.W PySem.W.X
set_option maxRecDepth 100000
namespace Mine
/-- the def at a place of a block -/
noncomputable def defIn (l : List Stmt) (i : Nat) : Arguments × List Stmt × Scope := match l[i]? with
  | some (.FunctionDef _ a b _ _ _ sc _ _ _) => (a, b, sc)
  | _ => default
/-- the body of the class at a place of a block -/
noncomputable def clsIn (l : List Stmt) (i : Nat) : List Stmt := match l[i]? with
  | some (.ClassDef _ _ _ b _ _ _ _ _ _ _) => b
  | _ => []
noncomputable def o0 (P : Params) : Obj := { cls := .type "dict", dict := none, data := .dict #[⟨PyData.keyHash P ⟨#[95, 95, 110, 97, 109, 101, 95, 95]⟩, .str ⟨#[95, 95, 110, 97, 109, 101, 95, 95]⟩ 1, .str ⟨#[98, 117, 105, 108, 116, 105, 110, 115]⟩ 160⟩, ⟨PyData.keyHash P ⟨#[95, 95, 100, 111, 99, 95, 95]⟩, .str ⟨#[95, 95, 100, 111, 99, 95, 95]⟩ 2, .builtin "builtins.__doc__:str#opaque"⟩, ⟨PyData.keyHash P ⟨#[95, 95, 112, 97, 99, 107, 97, 103, 101, 95, 95]⟩, .str ⟨#[95, 95, 112, 97, 99, 107, 97, 103, 101, 95, 95]⟩ 3, .builtin "builtins.__package__:str#opaque"⟩, ⟨PyData.keyHash P ⟨#[95, 95, 108, 111, 97, 100, 101, 114, 95, 95]⟩, .str ⟨#[95, 95, 108, 111, 97, 100, 101, 114, 95, 95]⟩ 4, .builtin "builtins.__loader__:shared#opaque"⟩, ⟨PyData.keyHash P ⟨#[95, 95, 115, 112, 101, 99, 95, 95]⟩, .str ⟨#[95, 95, 115, 112, 101, 99, 95, 95]⟩ 5, .builtin "builtins.__spec__#opaque"⟩, ⟨PyData.keyHash P ⟨#[95, 95, 98, 117, 105, 108, 100, 95, 99, 108, 97, 115, 115, 95, 95]⟩, .str ⟨#[95, 95, 98, 117, 105, 108, 100, 95, 99, 108, 97, 115, 115, 95, 95]⟩ 6, .builtin "__build_class__"⟩, ⟨PyData.keyHash P ⟨#[95, 95, 105, 109, 112, 111, 114, 116, 95, 95]⟩, .str ⟨#[95, 95, 105, 109, 112, 111, 114, 116, 95, 95]⟩ 7, .builtin "__import__"⟩, ⟨PyData.keyHash P ⟨#[97, 98, 115]⟩, .str ⟨#[97, 98, 115]⟩ 8, .builtin "abs"⟩, ⟨PyData.keyHash P ⟨#[97, 108, 108]⟩, .str ⟨#[97, 108, 108]⟩ 9, .builtin "all"⟩, ⟨PyData.keyHash P ⟨#[97, 110, 121]⟩, .str ⟨#[97, 110, 121]⟩ 10, .builtin "any"⟩, ⟨PyData.keyHash P ⟨#[97, 115, 99, 105, 105]⟩, .str ⟨#[97, 115, 99, 105, 105]⟩ 11, .builtin "ascii"⟩, ⟨PyData.keyHash P ⟨#[98, 105, 110]⟩, .str ⟨#[98, 105, 110]⟩ 12, .builtin "bin"⟩, ⟨PyData.keyHash P ⟨#[98, 114, 101, 97, 107, 112, 111, 105, 110, 116]⟩, .str ⟨#[98, 114, 101, 97, 107, 112, 111, 105, 110, 116]⟩ 13, .builtin "breakpoint"⟩, ⟨PyData.keyHash P ⟨#[99, 97, 108, 108, 97, 98, 108, 101]⟩, .str ⟨#[99, 97, 108, 108, 97, 98, 108, 101]⟩ 14, .builtin "callable"⟩, ⟨PyData.keyHash P ⟨#[99, 104, 114]⟩, .str ⟨#[99, 104, 114]⟩ 15, .builtin "chr"⟩, ⟨PyData.keyHash P ⟨#[99, 111, 109, 112, 105, 108, 101]⟩, .str ⟨#[99, 111, 109, 112, 105, 108, 101]⟩ 16, .builtin "compile"⟩, ⟨PyData.keyHash P ⟨#[100, 101, 108, 97, 116, 116, 114]⟩, .str ⟨#[100, 101, 108, 97, 116, 116, 114]⟩ 17, .builtin "delattr"⟩, ⟨PyData.keyHash P ⟨#[100, 105, 114]⟩, .str ⟨#[100, 105, 114]⟩ 18, .builtin "dir"⟩, ⟨PyData.keyHash P ⟨#[100, 105, 118, 109, 111, 100]⟩, .str ⟨#[100, 105, 118, 109, 111, 100]⟩ 19, .builtin "divmod"⟩, ⟨PyData.keyHash P ⟨#[101, 118, 97, 108]⟩, .str ⟨#[101, 118, 97, 108]⟩ 20, .builtin "eval"⟩, ⟨PyData.keyHash P ⟨#[101, 120, 101, 99]⟩, .str ⟨#[101, 120, 101, 99]⟩ 21, .builtin "exec"⟩, ⟨PyData.keyHash P ⟨#[102, 111, 114, 109, 97, 116]⟩, .str ⟨#[102, 111, 114, 109, 97, 116]⟩ 22, .builtin "format"⟩, ⟨PyData.keyHash P ⟨#[103, 101, 116, 97, 116, 116, 114]⟩, .str ⟨#[103, 101, 116, 97, 116, 116, 114]⟩ 23, .builtin "getattr"⟩, ⟨PyData.keyHash P ⟨#[103, 108, 111, 98, 97, 108, 115]⟩, .str ⟨#[103, 108, 111, 98, 97, 108, 115]⟩ 24, .builtin "globals"⟩, ⟨PyData.keyHash P ⟨#[104, 97, 115, 97, 116, 116, 114]⟩, .str ⟨#[104, 97, 115, 97, 116, 116, 114]⟩ 25, .builtin "hasattr"⟩, ⟨PyData.keyHash P ⟨#[104, 97, 115, 104]⟩, .str ⟨#[104, 97, 115, 104]⟩ 26, .builtin "hash"⟩, ⟨PyData.keyHash P ⟨#[104, 101, 120]⟩, .str ⟨#[104, 101, 120]⟩ 27, .builtin "hex"⟩, ⟨PyData.keyHash P ⟨#[105, 100]⟩, .str ⟨#[105, 100]⟩ 28, .builtin "id"⟩, ⟨PyData.keyHash P ⟨#[105, 110, 112, 117, 116]⟩, .str ⟨#[105, 110, 112, 117, 116]⟩ 29, .builtin "input"⟩, ⟨PyData.keyHash P ⟨#[105, 115, 105, 110, 115, 116, 97, 110, 99, 101]⟩, .str ⟨#[105, 115, 105, 110, 115, 116, 97, 110, 99, 101]⟩ 30, .builtin "isinstance"⟩, ⟨PyData.keyHash P ⟨#[105, 115, 115, 117, 98, 99, 108, 97, 115, 115]⟩, .str ⟨#[105, 115, 115, 117, 98, 99, 108, 97, 115, 115]⟩ 31, .builtin "issubclass"⟩, ⟨PyData.keyHash P ⟨#[105, 116, 101, 114]⟩, .str ⟨#[105, 116, 101, 114]⟩ 32, .builtin "iter"⟩, ⟨PyData.keyHash P ⟨#[97, 105, 116, 101, 114]⟩, .str ⟨#[97, 105, 116, 101, 114]⟩ 33, .builtin "aiter"⟩, ⟨PyData.keyHash P ⟨#[108, 101, 110]⟩, .str ⟨#[108, 101, 110]⟩ 34, .builtin "len"⟩, ⟨PyData.keyHash P ⟨#[108, 111, 99, 97, 108, 115]⟩, .str ⟨#[108, 111, 99, 97, 108, 115]⟩ 35, .builtin "locals"⟩, ⟨PyData.keyHash P ⟨#[109, 97, 120]⟩, .str ⟨#[109, 97, 120]⟩ 36, .builtin "max"⟩, ⟨PyData.keyHash P ⟨#[109, 105, 110]⟩, .str ⟨#[109, 105, 110]⟩ 37, .builtin "min"⟩, ⟨PyData.keyHash P ⟨#[110, 101, 120, 116]⟩, .str ⟨#[110, 101, 120, 116]⟩ 38, .builtin "next"⟩, ⟨PyData.keyHash P ⟨#[97, 110, 101, 120, 116]⟩, .str ⟨#[97, 110, 101, 120, 116]⟩ 39, .builtin "anext"⟩, ⟨PyData.keyHash P ⟨#[111, 99, 116]⟩, .str ⟨#[111, 99, 116]⟩ 40, .builtin "oct"⟩, ⟨PyData.keyHash P ⟨#[111, 114, 100]⟩, .str ⟨#[111, 114, 100]⟩ 41, .builtin "ord"⟩, ⟨PyData.keyHash P ⟨#[112, 111, 119]⟩, .str ⟨#[112, 111, 119]⟩ 42, .builtin "pow"⟩, ⟨PyData.keyHash P ⟨#[112, 114, 105, 110, 116]⟩, .str ⟨#[112, 114, 105, 110, 116]⟩ 43, .builtin "print"⟩, ⟨PyData.keyHash P ⟨#[114, 101, 112, 114]⟩, .str ⟨#[114, 101, 112, 114]⟩ 44, .builtin "repr"⟩, ⟨PyData.keyHash P ⟨#[114, 111, 117, 110, 100]⟩, .str ⟨#[114, 111, 117, 110, 100]⟩ 45, .builtin "round"⟩, ⟨PyData.keyHash P ⟨#[115, 101, 116, 97, 116, 116, 114]⟩, .str ⟨#[115, 101, 116, 97, 116, 116, 114]⟩ 46, .builtin "setattr"⟩, ⟨PyData.keyHash P ⟨#[115, 111, 114, 116, 101, 100]⟩, .str ⟨#[115, 111, 114, 116, 101, 100]⟩ 47, .builtin "sorted"⟩, ⟨PyData.keyHash P ⟨#[115, 117, 109]⟩, .str ⟨#[115, 117, 109]⟩ 48, .builtin "sum"⟩, ⟨PyData.keyHash P ⟨#[118, 97, 114, 115]⟩, .str ⟨#[118, 97, 114, 115]⟩ 49, .builtin "vars"⟩, ⟨PyData.keyHash P ⟨#[78, 111, 110, 101]⟩, .str ⟨#[78, 111, 110, 101]⟩ 50, .none⟩, ⟨PyData.keyHash P ⟨#[69, 108, 108, 105, 112, 115, 105, 115]⟩, .str ⟨#[69, 108, 108, 105, 112, 115, 105, 115]⟩ 51, .ellipsis⟩, ⟨PyData.keyHash P ⟨#[78, 111, 116, 73, 109, 112, 108, 101, 109, 101, 110, 116, 101, 100]⟩, .str ⟨#[78, 111, 116, 73, 109, 112, 108, 101, 109, 101, 110, 116, 101, 100]⟩ 52, .notImplemented⟩, ⟨PyData.keyHash P ⟨#[70, 97, 108, 115, 101]⟩, .str ⟨#[70, 97, 108, 115, 101]⟩ 53, .bool false⟩, ⟨PyData.keyHash P ⟨#[84, 114, 117, 101]⟩, .str ⟨#[84, 114, 117, 101]⟩ 54, .bool true⟩, ⟨PyData.keyHash P ⟨#[98, 111, 111, 108]⟩, .str ⟨#[98, 111, 111, 108]⟩ 55, .type "bool"⟩, ⟨PyData.keyHash P ⟨#[109, 101, 109, 111, 114, 121, 118, 105, 101, 119]⟩, .str ⟨#[109, 101, 109, 111, 114, 121, 118, 105, 101, 119]⟩ 56, .type "memoryview"⟩, ⟨PyData.keyHash P ⟨#[98, 121, 116, 101, 97, 114, 114, 97, 121]⟩, .str ⟨#[98, 121, 116, 101, 97, 114, 114, 97, 121]⟩ 57, .type "bytearray"⟩, ⟨PyData.keyHash P ⟨#[98, 121, 116, 101, 115]⟩, .str ⟨#[98, 121, 116, 101, 115]⟩ 58, .type "bytes"⟩, ⟨PyData.keyHash P ⟨#[99, 108, 97, 115, 115, 109, 101, 116, 104, 111, 100]⟩, .str ⟨#[99, 108, 97, 115, 115, 109, 101, 116, 104, 111, 100]⟩ 59, .type "classmethod"⟩, ⟨PyData.keyHash P ⟨#[99, 111, 109, 112, 108, 101, 120]⟩, .str ⟨#[99, 111, 109, 112, 108, 101, 120]⟩ 60, .type "complex"⟩, ⟨PyData.keyHash P ⟨#[100, 105, 99, 116]⟩, .str ⟨#[100, 105, 99, 116]⟩ 61, .type "dict"⟩, ⟨PyData.keyHash P ⟨#[101, 110, 117, 109, 101, 114, 97, 116, 101]⟩, .str ⟨#[101, 110, 117, 109, 101, 114, 97, 116, 101]⟩ 62, .type "enumerate"⟩, ⟨PyData.keyHash P ⟨#[102, 105, 108, 116, 101, 114]⟩, .str ⟨#[102, 105, 108, 116, 101, 114]⟩ 63, .type "filter"⟩, ⟨PyData.keyHash P ⟨#[102, 108, 111, 97, 116]⟩, .str ⟨#[102, 108, 111, 97, 116]⟩ 64, .type "float"⟩, ⟨PyData.keyHash P ⟨#[102, 114, 111, 122, 101, 110, 115, 101, 116]⟩, .str ⟨#[102, 114, 111, 122, 101, 110, 115, 101, 116]⟩ 65, .type "frozenset"⟩, ⟨PyData.keyHash P ⟨#[112, 114, 111, 112, 101, 114, 116, 121]⟩, .str ⟨#[112, 114, 111, 112, 101, 114, 116, 121]⟩ 66, .type "property"⟩, ⟨PyData.keyHash P ⟨#[105, 110, 116]⟩, .str ⟨#[105, 110, 116]⟩ 67, .type "int"⟩, ⟨PyData.keyHash P ⟨#[108, 105, 115, 116]⟩, .str ⟨#[108, 105, 115, 116]⟩ 68, .type "list"⟩, ⟨PyData.keyHash P ⟨#[109, 97, 112]⟩, .str ⟨#[109, 97, 112]⟩ 69, .type "map"⟩, ⟨PyData.keyHash P ⟨#[111, 98, 106, 101, 99, 116]⟩, .str ⟨#[111, 98, 106, 101, 99, 116]⟩ 70, .type "object"⟩, ⟨PyData.keyHash P ⟨#[114, 97, 110, 103, 101]⟩, .str ⟨#[114, 97, 110, 103, 101]⟩ 71, .type "range"⟩, ⟨PyData.keyHash P ⟨#[114, 101, 118, 101, 114, 115, 101, 100]⟩, .str ⟨#[114, 101, 118, 101, 114, 115, 101, 100]⟩ 72, .type "reversed"⟩, ⟨PyData.keyHash P ⟨#[115, 101, 116]⟩, .str ⟨#[115, 101, 116]⟩ 73, .type "set"⟩, ⟨PyData.keyHash P ⟨#[115, 108, 105, 99, 101]⟩, .str ⟨#[115, 108, 105, 99, 101]⟩ 74, .type "slice"⟩, ⟨PyData.keyHash P ⟨#[115, 116, 97, 116, 105, 99, 109, 101, 116, 104, 111, 100]⟩, .str ⟨#[115, 116, 97, 116, 105, 99, 109, 101, 116, 104, 111, 100]⟩ 75, .type "staticmethod"⟩, ⟨PyData.keyHash P ⟨#[115, 116, 114]⟩, .str ⟨#[115, 116, 114]⟩ 76, .type "str"⟩, ⟨PyData.keyHash P ⟨#[115, 117, 112, 101, 114]⟩, .str ⟨#[115, 117, 112, 101, 114]⟩ 77, .type "super"⟩, ⟨PyData.keyHash P ⟨#[116, 117, 112, 108, 101]⟩, .str ⟨#[116, 117, 112, 108, 101]⟩ 78, .type "tuple"⟩, ⟨PyData.keyHash P ⟨#[116, 121, 112, 101]⟩, .str ⟨#[116, 121, 112, 101]⟩ 79, .type "type"⟩, ⟨PyData.keyHash P ⟨#[122, 105, 112]⟩, .str ⟨#[122, 105, 112]⟩ 80, .type "zip"⟩, ⟨PyData.keyHash P ⟨#[95, 95, 100, 101, 98, 117, 103, 95, 95]⟩, .str ⟨#[95, 95, 100, 101, 98, 117, 103, 95, 95]⟩ 81, .bool true⟩, ⟨PyData.keyHash P ⟨#[66, 97, 115, 101, 69, 120, 99, 101, 112, 116, 105, 111, 110]⟩, .str ⟨#[66, 97, 115, 101, 69, 120, 99, 101, 112, 116, 105, 111, 110]⟩ 82, .type "BaseException"⟩, ⟨PyData.keyHash P ⟨#[66, 97, 115, 101, 69, 120, 99, 101, 112, 116, 105, 111, 110, 71, 114, 111, 117, 112]⟩, .str ⟨#[66, 97, 115, 101, 69, 120, 99, 101, 112, 116, 105, 111, 110, 71, 114, 111, 117, 112]⟩ 83, .type "BaseExceptionGroup"⟩, ⟨PyData.keyHash P ⟨#[69, 120, 99, 101, 112, 116, 105, 111, 110]⟩, .str ⟨#[69, 120, 99, 101, 112, 116, 105, 111, 110]⟩ 84, .type "Exception"⟩, ⟨PyData.keyHash P ⟨#[71, 101, 110, 101, 114, 97, 116, 111, 114, 69, 120, 105, 116]⟩, .str ⟨#[71, 101, 110, 101, 114, 97, 116, 111, 114, 69, 120, 105, 116]⟩ 85, .type "GeneratorExit"⟩, ⟨PyData.keyHash P ⟨#[75, 101, 121, 98, 111, 97, 114, 100, 73, 110, 116, 101, 114, 114, 117, 112, 116]⟩, .str ⟨#[75, 101, 121, 98, 111, 97, 114, 100, 73, 110, 116, 101, 114, 114, 117, 112, 116]⟩ 86, .type "KeyboardInterrupt"⟩, ⟨PyData.keyHash P ⟨#[83, 121, 115, 116, 101, 109, 69, 120, 105, 116]⟩, .str ⟨#[83, 121, 115, 116, 101, 109, 69, 120, 105, 116]⟩ 87, .type "SystemExit"⟩, ⟨PyData.keyHash P ⟨#[65, 114, 105, 116, 104, 109, 101, 116, 105, 99, 69, 114, 114, 111, 114]⟩, .str ⟨#[65, 114, 105, 116, 104, 109, 101, 116, 105, 99, 69, 114, 114, 111, 114]⟩ 88, .type "ArithmeticError"⟩, ⟨PyData.keyHash P ⟨#[65, 115, 115, 101, 114, 116, 105, 111, 110, 69, 114, 114, 111, 114]⟩, .str ⟨#[65, 115, 115, 101, 114, 116, 105, 111, 110, 69, 114, 114, 111, 114]⟩ 89, .type "AssertionError"⟩, ⟨PyData.keyHash P ⟨#[65, 116, 116, 114, 105, 98, 117, 116, 101, 69, 114, 114, 111, 114]⟩, .str ⟨#[65, 116, 116, 114, 105, 98, 117, 116, 101, 69, 114, 114, 111, 114]⟩ 90, .type "AttributeError"⟩, ⟨PyData.keyHash P ⟨#[66, 117, 102, 102, 101, 114, 69, 114, 114, 111, 114]⟩, .str ⟨#[66, 117, 102, 102, 101, 114, 69, 114, 114, 111, 114]⟩ 91, .type "BufferError"⟩, ⟨PyData.keyHash P ⟨#[69, 79, 70, 69, 114, 114, 111, 114]⟩, .str ⟨#[69, 79, 70, 69, 114, 114, 111, 114]⟩ 92, .type "EOFError"⟩, ⟨PyData.keyHash P ⟨#[73, 109, 112, 111, 114, 116, 69, 114, 114, 111, 114]⟩, .str ⟨#[73, 109, 112, 111, 114, 116, 69, 114, 114, 111, 114]⟩ 93, .type "ImportError"⟩, ⟨PyData.keyHash P ⟨#[76, 111, 111, 107, 117, 112, 69, 114, 114, 111, 114]⟩, .str ⟨#[76, 111, 111, 107, 117, 112, 69, 114, 114, 111, 114]⟩ 94, .type "LookupError"⟩, ⟨PyData.keyHash P ⟨#[77, 101, 109, 111, 114, 121, 69, 114, 114, 111, 114]⟩, .str ⟨#[77, 101, 109, 111, 114, 121, 69, 114, 114, 111, 114]⟩ 95, .type "MemoryError"⟩, ⟨PyData.keyHash P ⟨#[78, 97, 109, 101, 69, 114, 114, 111, 114]⟩, .str ⟨#[78, 97, 109, 101, 69, 114, 114, 111, 114]⟩ 96, .type "NameError"⟩, ⟨PyData.keyHash P ⟨#[79, 83, 69, 114, 114, 111, 114]⟩, .str ⟨#[79, 83, 69, 114, 114, 111, 114]⟩ 97, .type "OSError"⟩, ⟨PyData.keyHash P ⟨#[82, 101, 102, 101, 114, 101, 110, 99, 101, 69, 114, 114, 111, 114]⟩, .str ⟨#[82, 101, 102, 101, 114, 101, 110, 99, 101, 69, 114, 114, 111, 114]⟩ 98, .type "ReferenceError"⟩, ⟨PyData.keyHash P ⟨#[82, 117, 110, 116, 105, 109, 101, 69, 114, 114, 111, 114]⟩, .str ⟨#[82, 117, 110, 116, 105, 109, 101, 69, 114, 114, 111, 114]⟩ 99, .type "RuntimeError"⟩, ⟨PyData.keyHash P ⟨#[83, 116, 111, 112, 65, 115, 121, 110, 99, 73, 116, 101, 114, 97, 116, 105, 111, 110]⟩, .str ⟨#[83, 116, 111, 112, 65, 115, 121, 110, 99, 73, 116, 101, 114, 97, 116, 105, 111, 110]⟩ 100, .type "StopAsyncIteration"⟩, ⟨PyData.keyHash P ⟨#[83, 116, 111, 112, 73, 116, 101, 114, 97, 116, 105, 111, 110]⟩, .str ⟨#[83, 116, 111, 112, 73, 116, 101, 114, 97, 116, 105, 111, 110]⟩ 101, .type "StopIteration"⟩, ⟨PyData.keyHash P ⟨#[83, 121, 110, 116, 97, 120, 69, 114, 114, 111, 114]⟩, .str ⟨#[83, 121, 110, 116, 97, 120, 69, 114, 114, 111, 114]⟩ 102, .type "SyntaxError"⟩, ⟨PyData.keyHash P ⟨#[83, 121, 115, 116, 101, 109, 69, 114, 114, 111, 114]⟩, .str ⟨#[83, 121, 115, 116, 101, 109, 69, 114, 114, 111, 114]⟩ 103, .type "SystemError"⟩, ⟨PyData.keyHash P ⟨#[84, 121, 112, 101, 69, 114, 114, 111, 114]⟩, .str ⟨#[84, 121, 112, 101, 69, 114, 114, 111, 114]⟩ 104, .type "TypeError"⟩, ⟨PyData.keyHash P ⟨#[86, 97, 108, 117, 101, 69, 114, 114, 111, 114]⟩, .str ⟨#[86, 97, 108, 117, 101, 69, 114, 114, 111, 114]⟩ 105, .type "ValueError"⟩, ⟨PyData.keyHash P ⟨#[87, 97, 114, 110, 105, 110, 103]⟩, .str ⟨#[87, 97, 114, 110, 105, 110, 103]⟩ 106, .type "Warning"⟩, ⟨PyData.keyHash P ⟨#[70, 108, 111, 97, 116, 105, 110, 103, 80, 111, 105, 110, 116, 69, 114, 114, 111, 114]⟩, .str ⟨#[70, 108, 111, 97, 116, 105, 110, 103, 80, 111, 105, 110, 116, 69, 114, 114, 111, 114]⟩ 107, .type "FloatingPointError"⟩, ⟨PyData.keyHash P ⟨#[79, 118, 101, 114, 102, 108, 111, 119, 69, 114, 114, 111, 114]⟩, .str ⟨#[79, 118, 101, 114, 102, 108, 111, 119, 69, 114, 114, 111, 114]⟩ 108, .type "OverflowError"⟩, ⟨PyData.keyHash P ⟨#[90, 101, 114, 111, 68, 105, 118, 105, 115, 105, 111, 110, 69, 114, 114, 111, 114]⟩, .str ⟨#[90, 101, 114, 111, 68, 105, 118, 105, 115, 105, 111, 110, 69, 114, 114, 111, 114]⟩ 109, .type "ZeroDivisionError"⟩, ⟨PyData.keyHash P ⟨#[66, 121, 116, 101, 115, 87, 97, 114, 110, 105, 110, 103]⟩, .str ⟨#[66, 121, 116, 101, 115, 87, 97, 114, 110, 105, 110, 103]⟩ 110, .type "BytesWarning"⟩, ⟨PyData.keyHash P ⟨#[68, 101, 112, 114, 101, 99, 97, 116, 105, 111, 110, 87, 97, 114, 110, 105, 110, 103]⟩, .str ⟨#[68, 101, 112, 114, 101, 99, 97, 116, 105, 111, 110, 87, 97, 114, 110, 105, 110, 103]⟩ 111, .type "DeprecationWarning"⟩, ⟨PyData.keyHash P ⟨#[69, 110, 99, 111, 100, 105, 110, 103, 87, 97, 114, 110, 105, 110, 103]⟩, .str ⟨#[69, 110, 99, 111, 100, 105, 110, 103, 87, 97, 114, 110, 105, 110, 103]⟩ 112, .type "EncodingWarning"⟩, ⟨PyData.keyHash P ⟨#[70, 117, 116, 117, 114, 101, 87, 97, 114, 110, 105, 110, 103]⟩, .str ⟨#[70, 117, 116, 117, 114, 101, 87, 97, 114, 110, 105, 110, 103]⟩ 113, .type "FutureWarning"⟩, ⟨PyData.keyHash P ⟨#[73, 109, 112, 111, 114, 116, 87, 97, 114, 110, 105, 110, 103]⟩, .str ⟨#[73, 109, 112, 111, 114, 116, 87, 97, 114, 110, 105, 110, 103]⟩ 114, .type "ImportWarning"⟩, ⟨PyData.keyHash P ⟨#[80, 101, 110, 100, 105, 110, 103, 68, 101, 112, 114, 101, 99, 97, 116, 105, 111, 110, 87, 97, 114, 110, 105, 110, 103]⟩, .str ⟨#[80, 101, 110, 100, 105, 110, 103, 68, 101, 112, 114, 101, 99, 97, 116, 105, 111, 110, 87, 97, 114, 110, 105, 110, 103]⟩ 115, .type "PendingDeprecationWarning"⟩, ⟨PyData.keyHash P ⟨#[82, 101, 115, 111, 117, 114, 99, 101, 87, 97, 114, 110, 105, 110, 103]⟩, .str ⟨#[82, 101, 115, 111, 117, 114, 99, 101, 87, 97, 114, 110, 105, 110, 103]⟩ 116, .type "ResourceWarning"⟩, ⟨PyData.keyHash P ⟨#[82, 117, 110, 116, 105, 109, 101, 87, 97, 114, 110, 105, 110, 103]⟩, .str ⟨#[82, 117, 110, 116, 105, 109, 101, 87, 97, 114, 110, 105, 110, 103]⟩ 117, .type "RuntimeWarning"⟩, ⟨PyData.keyHash P ⟨#[83, 121, 110, 116, 97, 120, 87, 97, 114, 110, 105, 110, 103]⟩, .str ⟨#[83, 121, 110, 116, 97, 120, 87, 97, 114, 110, 105, 110, 103]⟩ 118, .type "SyntaxWarning"⟩, ⟨PyData.keyHash P ⟨#[85, 110, 105, 99, 111, 100, 101, 87, 97, 114, 110, 105, 110, 103]⟩, .str ⟨#[85, 110, 105, 99, 111, 100, 101, 87, 97, 114, 110, 105, 110, 103]⟩ 119, .type "UnicodeWarning"⟩, ⟨PyData.keyHash P ⟨#[85, 115, 101, 114, 87, 97, 114, 110, 105, 110, 103]⟩, .str ⟨#[85, 115, 101, 114, 87, 97, 114, 110, 105, 110, 103]⟩ 120, .type "UserWarning"⟩, ⟨PyData.keyHash P ⟨#[66, 108, 111, 99, 107, 105, 110, 103, 73, 79, 69, 114, 114, 111, 114]⟩, .str ⟨#[66, 108, 111, 99, 107, 105, 110, 103, 73, 79, 69, 114, 114, 111, 114]⟩ 121, .type "BlockingIOError"⟩, ⟨PyData.keyHash P ⟨#[67, 104, 105, 108, 100, 80, 114, 111, 99, 101, 115, 115, 69, 114, 114, 111, 114]⟩, .str ⟨#[67, 104, 105, 108, 100, 80, 114, 111, 99, 101, 115, 115, 69, 114, 114, 111, 114]⟩ 122, .type "ChildProcessError"⟩, ⟨PyData.keyHash P ⟨#[67, 111, 110, 110, 101, 99, 116, 105, 111, 110, 69, 114, 114, 111, 114]⟩, .str ⟨#[67, 111, 110, 110, 101, 99, 116, 105, 111, 110, 69, 114, 114, 111, 114]⟩ 123, .type "ConnectionError"⟩, ⟨PyData.keyHash P ⟨#[70, 105, 108, 101, 69, 120, 105, 115, 116, 115, 69, 114, 114, 111, 114]⟩, .str ⟨#[70, 105, 108, 101, 69, 120, 105, 115, 116, 115, 69, 114, 114, 111, 114]⟩ 124, .type "FileExistsError"⟩, ⟨PyData.keyHash P ⟨#[70, 105, 108, 101, 78, 111, 116, 70, 111, 117, 110, 100, 69, 114, 114, 111, 114]⟩, .str ⟨#[70, 105, 108, 101, 78, 111, 116, 70, 111, 117, 110, 100, 69, 114, 114, 111, 114]⟩ 125, .type "FileNotFoundError"⟩, ⟨PyData.keyHash P ⟨#[73, 110, 116, 101, 114, 114, 117, 112, 116, 101, 100, 69, 114, 114, 111, 114]⟩, .str ⟨#[73, 110, 116, 101, 114, 114, 117, 112, 116, 101, 100, 69, 114, 114, 111, 114]⟩ 126, .type "InterruptedError"⟩, ⟨PyData.keyHash P ⟨#[73, 115, 65, 68, 105, 114, 101, 99, 116, 111, 114, 121, 69, 114, 114, 111, 114]⟩, .str ⟨#[73, 115, 65, 68, 105, 114, 101, 99, 116, 111, 114, 121, 69, 114, 114, 111, 114]⟩ 127, .type "IsADirectoryError"⟩, ⟨PyData.keyHash P ⟨#[78, 111, 116, 65, 68, 105, 114, 101, 99, 116, 111, 114, 121, 69, 114, 114, 111, 114]⟩, .str ⟨#[78, 111, 116, 65, 68, 105, 114, 101, 99, 116, 111, 114, 121, 69, 114, 114, 111, 114]⟩ 128, .type "NotADirectoryError"⟩, ⟨PyData.keyHash P ⟨#[80, 101, 114, 109, 105, 115, 115, 105, 111, 110, 69, 114, 114, 111, 114]⟩, .str ⟨#[80, 101, 114, 109, 105, 115, 115, 105, 111, 110, 69, 114, 114, 111, 114]⟩ 129, .type "PermissionError"⟩, ⟨PyData.keyHash P ⟨#[80, 114, 111, 99, 101, 115, 115, 76, 111, 111, 107, 117, 112, 69, 114, 114, 111, 114]⟩, .str ⟨#[80, 114, 111, 99, 101, 115, 115, 76, 111, 111, 107, 117, 112, 69, 114, 114, 111, 114]⟩ 130, .type "ProcessLookupError"⟩, ⟨PyData.keyHash P ⟨#[84, 105, 109, 101, 111, 117, 116, 69, 114, 114, 111, 114]⟩, .str ⟨#[84, 105, 109, 101, 111, 117, 116, 69, 114, 114, 111, 114]⟩ 131, .type "TimeoutError"⟩, ⟨PyData.keyHash P ⟨#[73, 110, 100, 101, 110, 116, 97, 116, 105, 111, 110, 69, 114, 114, 111, 114]⟩, .str ⟨#[73, 110, 100, 101, 110, 116, 97, 116, 105, 111, 110, 69, 114, 114, 111, 114]⟩ 132, .type "IndentationError"⟩, ⟨PyData.keyHash P ⟨#[95, 73, 110, 99, 111, 109, 112, 108, 101, 116, 101, 73, 110, 112, 117, 116, 69, 114, 114, 111, 114]⟩, .str ⟨#[95, 73, 110, 99, 111, 109, 112, 108, 101, 116, 101, 73, 110, 112, 117, 116, 69, 114, 114, 111, 114]⟩ 133, .type "_IncompleteInputError"⟩, ⟨PyData.keyHash P ⟨#[73, 110, 100, 101, 120, 69, 114, 114, 111, 114]⟩, .str ⟨#[73, 110, 100, 101, 120, 69, 114, 114, 111, 114]⟩ 134, .type "IndexError"⟩, ⟨PyData.keyHash P ⟨#[75, 101, 121, 69, 114, 114, 111, 114]⟩, .str ⟨#[75, 101, 121, 69, 114, 114, 111, 114]⟩ 135, .type "KeyError"⟩, ⟨PyData.keyHash P ⟨#[77, 111, 100, 117, 108, 101, 78, 111, 116, 70, 111, 117, 110, 100, 69, 114, 114, 111, 114]⟩, .str ⟨#[77, 111, 100, 117, 108, 101, 78, 111, 116, 70, 111, 117, 110, 100, 69, 114, 114, 111, 114]⟩ 136, .type "ModuleNotFoundError"⟩, ⟨PyData.keyHash P ⟨#[78, 111, 116, 73, 109, 112, 108, 101, 109, 101, 110, 116, 101, 100, 69, 114, 114, 111, 114]⟩, .str ⟨#[78, 111, 116, 73, 109, 112, 108, 101, 109, 101, 110, 116, 101, 100, 69, 114, 114, 111, 114]⟩ 137, .type "NotImplementedError"⟩, ⟨PyData.keyHash P ⟨#[80, 121, 116, 104, 111, 110, 70, 105, 110, 97, 108, 105, 122, 97, 116, 105, 111, 110, 69, 114, 114, 111, 114]⟩, .str ⟨#[80, 121, 116, 104, 111, 110, 70, 105, 110, 97, 108, 105, 122, 97, 116, 105, 111, 110, 69, 114, 114, 111, 114]⟩ 138, .type "PythonFinalizationError"⟩, ⟨PyData.keyHash P ⟨#[82, 101, 99, 117, 114, 115, 105, 111, 110, 69, 114, 114, 111, 114]⟩, .str ⟨#[82, 101, 99, 117, 114, 115, 105, 111, 110, 69, 114, 114, 111, 114]⟩ 139, .type "RecursionError"⟩, ⟨PyData.keyHash P ⟨#[85, 110, 98, 111, 117, 110, 100, 76, 111, 99, 97, 108, 69, 114, 114, 111, 114]⟩, .str ⟨#[85, 110, 98, 111, 117, 110, 100, 76, 111, 99, 97, 108, 69, 114, 114, 111, 114]⟩ 140, .type "UnboundLocalError"⟩, ⟨PyData.keyHash P ⟨#[85, 110, 105, 99, 111, 100, 101, 69, 114, 114, 111, 114]⟩, .str ⟨#[85, 110, 105, 99, 111, 100, 101, 69, 114, 114, 111, 114]⟩ 141, .type "UnicodeError"⟩, ⟨PyData.keyHash P ⟨#[66, 114, 111, 107, 101, 110, 80, 105, 112, 101, 69, 114, 114, 111, 114]⟩, .str ⟨#[66, 114, 111, 107, 101, 110, 80, 105, 112, 101, 69, 114, 114, 111, 114]⟩ 142, .type "BrokenPipeError"⟩, ⟨PyData.keyHash P ⟨#[67, 111, 110, 110, 101, 99, 116, 105, 111, 110, 65, 98, 111, 114, 116, 101, 100, 69, 114, 114, 111, 114]⟩, .str ⟨#[67, 111, 110, 110, 101, 99, 116, 105, 111, 110, 65, 98, 111, 114, 116, 101, 100, 69, 114, 114, 111, 114]⟩ 143, .type "ConnectionAbortedError"⟩, ⟨PyData.keyHash P ⟨#[67, 111, 110, 110, 101, 99, 116, 105, 111, 110, 82, 101, 102, 117, 115, 101, 100, 69, 114, 114, 111, 114]⟩, .str ⟨#[67, 111, 110, 110, 101, 99, 116, 105, 111, 110, 82, 101, 102, 117, 115, 101, 100, 69, 114, 114, 111, 114]⟩ 144, .type "ConnectionRefusedError"⟩, ⟨PyData.keyHash P ⟨#[67, 111, 110, 110, 101, 99, 116, 105, 111, 110, 82, 101, 115, 101, 116, 69, 114, 114, 111, 114]⟩, .str ⟨#[67, 111, 110, 110, 101, 99, 116, 105, 111, 110, 82, 101, 115, 101, 116, 69, 114, 114, 111, 114]⟩ 145, .type "ConnectionResetError"⟩, ⟨PyData.keyHash P ⟨#[84, 97, 98, 69, 114, 114, 111, 114]⟩, .str ⟨#[84, 97, 98, 69, 114, 114, 111, 114]⟩ 146, .type "TabError"⟩, ⟨PyData.keyHash P ⟨#[85, 110, 105, 99, 111, 100, 101, 68, 101, 99, 111, 100, 101, 69, 114, 114, 111, 114]⟩, .str ⟨#[85, 110, 105, 99, 111, 100, 101, 68, 101, 99, 111, 100, 101, 69, 114, 114, 111, 114]⟩ 147, .type "UnicodeDecodeError"⟩, ⟨PyData.keyHash P ⟨#[85, 110, 105, 99, 111, 100, 101, 69, 110, 99, 111, 100, 101, 69, 114, 114, 111, 114]⟩, .str ⟨#[85, 110, 105, 99, 111, 100, 101, 69, 110, 99, 111, 100, 101, 69, 114, 114, 111, 114]⟩ 148, .type "UnicodeEncodeError"⟩, ⟨PyData.keyHash P ⟨#[85, 110, 105, 99, 111, 100, 101, 84, 114, 97, 110, 115, 108, 97, 116, 101, 69, 114, 114, 111, 114]⟩, .str ⟨#[85, 110, 105, 99, 111, 100, 101, 84, 114, 97, 110, 115, 108, 97, 116, 101, 69, 114, 114, 111, 114]⟩ 149, .type "UnicodeTranslateError"⟩, ⟨PyData.keyHash P ⟨#[69, 120, 99, 101, 112, 116, 105, 111, 110, 71, 114, 111, 117, 112]⟩, .str ⟨#[69, 120, 99, 101, 112, 116, 105, 111, 110, 71, 114, 111, 117, 112]⟩ 150, .type "ExceptionGroup"⟩, ⟨PyData.keyHash P ⟨#[69, 110, 118, 105, 114, 111, 110, 109, 101, 110, 116, 69, 114, 114, 111, 114]⟩, .str ⟨#[69, 110, 118, 105, 114, 111, 110, 109, 101, 110, 116, 69, 114, 114, 111, 114]⟩ 151, .type "OSError"⟩, ⟨PyData.keyHash P ⟨#[73, 79, 69, 114, 114, 111, 114]⟩, .str ⟨#[73, 79, 69, 114, 114, 111, 114]⟩ 152, .type "OSError"⟩, ⟨PyData.keyHash P ⟨#[111, 112, 101, 110]⟩, .str ⟨#[111, 112, 101, 110]⟩ 153, .builtin "open"⟩, ⟨PyData.keyHash P ⟨#[113, 117, 105, 116]⟩, .str ⟨#[113, 117, 105, 116]⟩ 154, .builtin "builtins.quit#opaque"⟩, ⟨PyData.keyHash P ⟨#[101, 120, 105, 116]⟩, .str ⟨#[101, 120, 105, 116]⟩ 155, .builtin "builtins.exit#opaque"⟩, ⟨PyData.keyHash P ⟨#[99, 111, 112, 121, 114, 105, 103, 104, 116]⟩, .str ⟨#[99, 111, 112, 121, 114, 105, 103, 104, 116]⟩ 156, .builtin "builtins.copyright#opaque"⟩, ⟨PyData.keyHash P ⟨#[99, 114, 101, 100, 105, 116, 115]⟩, .str ⟨#[99, 114, 101, 100, 105, 116, 115]⟩ 157, .builtin "builtins.credits#opaque"⟩, ⟨PyData.keyHash P ⟨#[108, 105, 99, 101, 110, 115, 101]⟩, .str ⟨#[108, 105, 99, 101, 110, 115, 101]⟩ 158, .builtin "builtins.license#opaque"⟩, ⟨PyData.keyHash P ⟨#[104, 101, 108, 112]⟩, .str ⟨#[104, 101, 108, 112]⟩ 159, .builtin "builtins.help#opaque"⟩] 159, slots := #[] }
noncomputable def o2 (P : Params) : Obj := { cls := .none, dict := none, data := .dict #[⟨PyData.keyHash P ⟨#[105, 109, 112, 111, 114, 116, 46, 108, 111, 97, 100, 101, 100, 46, 95, 99, 111, 108, 108, 101, 99, 116, 105, 111, 110, 115]⟩, .str ⟨#[105, 109, 112, 111, 114, 116, 46, 108, 111, 97, 100, 101, 100, 46, 95, 99, 111, 108, 108, 101, 99, 116, 105, 111, 110, 115]⟩ 185, .bool true⟩, ⟨PyData.keyHash P ⟨#[99, 108, 97, 115, 115, 46, 95, 102, 114, 111, 122, 101, 110, 95, 105, 109, 112, 111, 114, 116, 108, 105, 98, 46, 66, 117, 105, 108, 116, 105, 110, 73, 109, 112, 111, 114, 116, 101, 114]⟩, .str ⟨#[99, 108, 97, 115, 115, 46, 95, 102, 114, 111, 122, 101, 110, 95, 105, 109, 112, 111, 114, 116, 108, 105, 98, 46, 66, 117, 105, 108, 116, 105, 110, 73, 109, 112, 111, 114, 116, 101, 114]⟩ 187, .ref 15⟩, ⟨PyData.keyHash P ⟨#[119, 97, 116, 99, 104, 101, 100, 46, 105, 109, 112, 111, 114, 116]⟩, .str ⟨#[119, 97, 116, 99, 104, 101, 100, 46, 105, 109, 112, 111, 114, 116]⟩ 208, .ref 19⟩, ⟨PyData.keyHash P ⟨#[99, 108, 97, 115, 115, 46, 95, 102, 114, 111, 122, 101, 110, 95, 105, 109, 112, 111, 114, 116, 108, 105, 98, 46, 77, 111, 100, 117, 108, 101, 83, 112, 101, 99]⟩, .str ⟨#[99, 108, 97, 115, 115, 46, 95, 102, 114, 111, 122, 101, 110, 95, 105, 109, 112, 111, 114, 116, 108, 105, 98, 46, 77, 111, 100, 117, 108, 101, 83, 112, 101, 99]⟩ 218, .ref 23⟩, ⟨PyData.keyHash P ⟨#[115, 121, 115, 46, 109, 111, 100, 117, 108, 101, 115, 46, 98, 111, 111, 107, 101, 100, 45, 101, 112, 111, 99, 104]⟩, .str ⟨#[115, 121, 115, 46, 109, 111, 100, 117, 108, 101, 115, 46, 98, 111, 111, 107, 101, 100, 45, 101, 112, 111, 99, 104]⟩ 247, .int 3 0⟩, ⟨PyData.keyHash P ⟨#[115, 121, 115, 46, 109, 111, 100, 117, 108, 101, 115, 46, 108, 97, 110, 100, 101, 100, 46, 95, 99, 111, 108, 108, 101, 99, 116, 105, 111, 110, 115]⟩, .str ⟨#[115, 121, 115, 46, 109, 111, 100, 117, 108, 101, 115, 46, 108, 97, 110, 100, 101, 100, 46, 95, 99, 111, 108, 108, 101, 99, 116, 105, 111, 110, 115]⟩ 248, .bool true⟩, ⟨PyData.keyHash P ⟨#[105, 109, 112, 111, 114, 116, 46, 108, 97, 116, 101, 114, 45, 108, 97, 105, 100, 46, 95, 99, 111, 108, 108, 101, 99, 116, 105, 111, 110, 115]⟩, .str ⟨#[105, 109, 112, 111, 114, 116, 46, 108, 97, 116, 101, 114, 45, 108, 97, 105, 100, 46, 95, 99, 111, 108, 108, 101, 99, 116, 105, 111, 110, 115]⟩ 263, .bool true⟩, ⟨PyData.keyHash P ⟨#[119, 97, 116, 99, 104, 101, 100, 46, 108, 105, 98, 114, 97, 114, 121]⟩, .str ⟨#[119, 97, 116, 99, 104, 101, 100, 46, 108, 105, 98, 114, 97, 114, 121]⟩ 265, .ref 28⟩, ⟨PyData.keyHash P ⟨#[119, 97, 116, 99, 104, 101, 100, 46, 108, 105, 98, 114, 97, 114, 121, 45, 111, 98, 106, 101, 99, 116, 115]⟩, .str ⟨#[119, 97, 116, 99, 104, 101, 100, 46, 108, 105, 98, 114, 97, 114, 121, 45, 111, 98, 106, 101, 99, 116, 115]⟩ 0, .str ⟨#[13]⟩ 0⟩, ⟨PyData.keyHash P ⟨#[119, 97, 116, 99, 104, 101, 100, 46, 108, 105, 98, 114, 97, 114, 121, 45, 100, 101, 101, 112, 46, 95, 99, 111, 108, 108, 101, 99, 116, 105, 111, 110, 115]⟩, .str ⟨#[119, 97, 116, 99, 104, 101, 100, 46, 108, 105, 98, 114, 97, 114, 121, 45, 100, 101, 101, 112, 46, 95, 99, 111, 108, 108, 101, 99, 116, 105, 111, 110, 115]⟩ 266, .str ⟨#[4, 0, 0, 12, 4, 0, 0, 12, 4, 0, 0, 3, 4, 0, 0, 12, 8, 4, 100, 105, 99, 116, 2]⟩ 0⟩, ⟨PyData.keyHash P ⟨#[116, 121, 112, 101, 46, 95, 95, 115, 117, 98, 99, 108, 97, 115, 115, 101, 115, 95, 95, 46, 79, 83, 69, 114, 114, 111, 114, 46, 48]⟩, .str ⟨#[116, 121, 112, 101, 46, 95, 95, 115, 117, 98, 99, 108, 97, 115, 115, 101, 115, 95, 95, 46, 79, 83, 69, 114, 114, 111, 114, 46, 48]⟩ 322, .int 63 0⟩, ⟨PyData.keyHash P ⟨#[116, 121, 112, 101, 46, 95, 95, 115, 117, 98, 99, 108, 97, 115, 115, 101, 115, 95, 95, 46, 79, 83, 69, 114, 114, 111, 114, 46, 110]⟩, .str ⟨#[116, 121, 112, 101, 46, 95, 95, 115, 117, 98, 99, 108, 97, 115, 115, 101, 115, 95, 95, 46, 79, 83, 69, 114, 114, 111, 114, 46, 110]⟩ 323, .int 1 0⟩] 12, slots := #[] }
noncomputable def o3 (P : Params) : Obj := { cls := .type "dict", dict := none, data := .dict #[⟨PyData.keyHash P ⟨#[95, 95, 110, 97, 109, 101, 95, 95]⟩, .str ⟨#[95, 95, 110, 97, 109, 101, 95, 95]⟩ 165, .str ⟨#[108, 97, 119, 95, 110, 113, 48, 49, 57, 55, 95, 48, 49]⟩ 1165⟩, ⟨PyData.keyHash P ⟨#[95, 95, 100, 111, 99, 95, 95]⟩, .str ⟨#[95, 95, 100, 111, 99, 95, 95]⟩ 166, .none⟩, ⟨PyData.keyHash P ⟨#[95, 95, 112, 97, 99, 107, 97, 103, 101, 95, 95]⟩, .str ⟨#[95, 95, 112, 97, 99, 107, 97, 103, 101, 95, 95]⟩ 167, .none⟩, ⟨PyData.keyHash P ⟨#[95, 95, 108, 111, 97, 100, 101, 114, 95, 95]⟩, .str ⟨#[95, 95, 108, 111, 97, 100, 101, 114, 95, 95]⟩ 168, .builtin "__main__.__loader__#opaque"⟩, ⟨PyData.keyHash P ⟨#[95, 95, 115, 112, 101, 99, 95, 95]⟩, .str ⟨#[95, 95, 115, 112, 101, 99, 95, 95]⟩ 169, .none⟩, ⟨PyData.keyHash P ⟨#[95, 95, 97, 110, 110, 111, 116, 97, 116, 105, 111, 110, 115, 95, 95]⟩, .str ⟨#[95, 95, 97, 110, 110, 111, 116, 97, 116, 105, 111, 110, 115, 95, 95]⟩ 170, .ref 6⟩, ⟨PyData.keyHash P ⟨#[95, 95, 98, 117, 105, 108, 116, 105, 110, 115, 95, 95]⟩, .str ⟨#[95, 95, 98, 117, 105, 108, 116, 105, 110, 115, 95, 95]⟩ 171, .ref 4⟩, ⟨PyData.keyHash P ⟨#[95, 95, 102, 105, 108, 101, 95, 95]⟩, .str ⟨#[95, 95, 102, 105, 108, 101, 95, 95]⟩ 173, .str ⟨#[47, 99, 108, 97, 105, 109, 47, 99, 117, 116, 46, 112, 121]⟩ 172⟩, ⟨PyData.keyHash P ⟨#[95, 95, 99, 97, 99, 104, 101, 100, 95, 95]⟩, .str ⟨#[95, 95, 99, 97, 99, 104, 101, 100, 95, 95]⟩ 174, .none⟩, ⟨PyData.keyHash P ⟨#[100, 101, 113, 117, 101]⟩, .str ⟨#[100, 101, 113, 117, 101]⟩ 272, .type "collections.deque"⟩, ⟨PyData.keyHash P ⟨#[95, 119, 97, 108, 108]⟩, .str ⟨#[95, 119, 97, 108, 108]⟩ 285, .ref 39⟩, ⟨PyData.keyHash P ⟨#[95, 119, 104, 101, 110, 99, 101]⟩, .str ⟨#[95, 119, 104, 101, 110, 99, 101]⟩ 295, .ref 46⟩, ⟨PyData.keyHash P ⟨#[95, 105, 110, 100, 101, 120]⟩, .str ⟨#[95, 105, 110, 100, 101, 120]⟩ 303, .ref 53⟩, ⟨PyData.keyHash P ⟨#[85, 110, 115, 117, 112, 112, 111, 114, 116, 101, 100, 79, 112, 101, 114, 97, 116, 105, 111, 110]⟩, .str ⟨#[85, 110, 115, 117, 112, 112, 111, 114, 116, 101, 100, 79, 112, 101, 114, 97, 116, 105, 111, 110]⟩ 325, .ref 63⟩, ⟨PyData.keyHash P ⟨#[73, 79, 66, 97, 115, 101]⟩, .str ⟨#[73, 79, 66, 97, 115, 101]⟩ 357, .ref 83⟩, ⟨PyData.keyHash P ⟨#[66, 117, 102, 102, 101, 114, 101, 100, 73, 79, 66, 97, 115, 101]⟩, .str ⟨#[66, 117, 102, 102, 101, 114, 101, 100, 73, 79, 66, 97, 115, 101]⟩ 375, .ref 98⟩, ⟨PyData.keyHash P ⟨#[84, 101, 120, 116, 73, 79, 66, 97, 115, 101]⟩, .str ⟨#[84, 101, 120, 116, 73, 79, 66, 97, 115, 101]⟩ 393, .ref 110⟩, ⟨PyData.keyHash P ⟨#[66, 121, 116, 101, 115, 73, 79]⟩, .str ⟨#[66, 121, 116, 101, 115, 73, 79]⟩ 655, .ref 340⟩, ⟨PyData.keyHash P ⟨#[83, 116, 114, 105, 110, 103, 73, 79]⟩, .str ⟨#[83, 116, 114, 105, 110, 103, 73, 79]⟩ 942, .ref 587⟩, ⟨PyData.keyHash P ⟨#[95, 107, 105, 110, 100]⟩, .str ⟨#[95, 107, 105, 110, 100]⟩ 953, .ref 596⟩, ⟨PyData.keyHash P ⟨#[95, 102, 115, 112, 97, 116, 104]⟩, .str ⟨#[95, 102, 115, 112, 97, 116, 104]⟩ 962, .ref 603⟩, ⟨PyData.keyHash P ⟨#[95, 99, 104, 101, 99, 107, 95, 97, 114, 103, 95, 116, 121, 112, 101, 115]⟩, .str ⟨#[95, 99, 104, 101, 99, 107, 95, 97, 114, 103, 95, 116, 121, 112, 101, 115]⟩ 972, .ref 610⟩, ⟨PyData.keyHash P ⟨#[105, 115, 97, 98, 115]⟩, .str ⟨#[105, 115, 97, 98, 115]⟩ 979, .ref 617⟩, ⟨PyData.keyHash P ⟨#[106, 111, 105, 110]⟩, .str ⟨#[106, 111, 105, 110]⟩ 990, .ref 624⟩, ⟨PyData.keyHash P ⟨#[100, 105, 114, 110, 97, 109, 101]⟩, .str ⟨#[100, 105, 114, 110, 97, 109, 101]⟩ 1000, .ref 631⟩, ⟨PyData.keyHash P ⟨#[115, 104, 108, 101, 120]⟩, .str ⟨#[115, 104, 108, 101, 120]⟩ 1141, .ref 722⟩, ⟨PyData.keyHash P ⟨#[115, 112, 108, 105, 116]⟩, .str ⟨#[115, 112, 108, 105, 116]⟩ 1151, .ref 734⟩, ⟨PyData.keyHash P ⟨#[67, 72, 65, 82, 95, 77, 65, 88]⟩, .str ⟨#[67, 72, 65, 82, 95, 77, 65, 88]⟩ 1155, .int 127 1154⟩, ⟨PyData.keyHash P ⟨#[95, 103, 114, 111, 117, 112, 105, 110, 103, 95, 105, 110, 116, 101, 114, 118, 97, 108, 115]⟩, .str ⟨#[95, 103, 114, 111, 117, 112, 105, 110, 103, 95, 105, 110, 116, 101, 114, 118, 97, 108, 115]⟩ 1164, .ref 741⟩, ⟨PyData.keyHash P ⟨#[95, 108, 97, 119, 95, 97, 112, 97, 114, 116]⟩, .str ⟨#[95, 108, 97, 119, 95, 97, 112, 97, 114, 116]⟩ 1174, .ref 748⟩, ⟨PyData.keyHash P ⟨#[95, 108, 97, 119, 95, 108, 101, 116, 116, 101, 114]⟩, .str ⟨#[95, 108, 97, 119, 95, 108, 101, 116, 116, 101, 114]⟩ 1183, .ref 755⟩, ⟨PyData.keyHash P ⟨#[95, 108, 97, 119, 95, 108, 105, 110, 101]⟩, .str ⟨#[95, 108, 97, 119, 95, 108, 105, 110, 101]⟩ 1199, .ref 762⟩, ⟨PyData.keyHash P ⟨#[95, 108, 97, 119, 95, 115, 121, 109, 98, 111, 108]⟩, .str ⟨#[95, 108, 97, 119, 95, 115, 121, 109, 98, 111, 108]⟩ 1205, .ref 767⟩, ⟨PyData.keyHash P ⟨#[108, 97, 119]⟩, .str ⟨#[108, 97, 119]⟩ 1223, .ref 774⟩] 34, slots := #[] }
noncomputable def o52 (P : Params) : Obj := { cls := .type "code", dict := none, data := .fields #[.str ⟨#[95, 105, 110, 100, 101, 120]⟩ 296, .str ⟨#[95, 105, 110, 100, 101, 120]⟩ 297, .str ⟨#[47, 99, 108, 97, 105, 109, 47, 99, 117, 116, 46, 112, 121]⟩ 298, .int 11 0, .int 2 0, .int 0 0, .int 0 0, .int 3 0, .ref 47, .bool true, .int 273 0, .ref 48, .none, .ref 49, .ref 50, .ref 51, .int 301 0, .int 11 0, .str ⟨#[47, 99, 108, 97, 105, 109, 47, 99, 117, 116, 46, 112, 121]⟩ 302], slots := #[] }
noncomputable def o53 (P : Params) : Obj := { cls := .type "function", dict := none, data := .func { name := ⟨#[95, 105, 110, 100, 101, 120]⟩, qualname := ⟨#[95, 105, 110, 100, 101, 120]⟩, params := (defIn PySem.Challenge.pw_nq0197_01.main.body 4).1, body := .stmts (defIn PySem.Challenge.pw_nq0197_01.main.body 4).2.1, scope := (defIn PySem.Challenge.pw_nq0197_01.main.body 4).2.2, globals := 3, closure := [], defaults := .none, kwdefaults := .none, doc := .none, pyModule := .str ⟨#[105, 111]⟩ 286, annotations := none, code := .ref 52, closureTuple := .none, builtins := 0 }, slots := #[] }
noncomputable def o79 (P : Params) : Obj := { cls := .type "code", dict := none, data := .fields #[.str ⟨#[95, 95, 110, 101, 119, 95, 95]⟩ 340, .str ⟨#[73, 79, 66, 97, 115, 101, 46, 95, 95, 110, 101, 119, 95, 95]⟩ 341, .str ⟨#[47, 99, 108, 97, 105, 109, 47, 99, 117, 116, 46, 112, 121]⟩ 342, .int 23 0, .int 1 0, .int 1 0, .int 0 0, .int 15 0, .ref 74, .bool true, .int 273 0, .ref 75, .none, .ref 76, .ref 77, .ref 78, .int 346 0, .int 23 0, .str ⟨#[47, 99, 108, 97, 105, 109, 47, 99, 117, 116, 46, 112, 121]⟩ 347], slots := #[] }
noncomputable def o80 (P : Params) : Obj := { cls := .type "function", dict := none, data := .func { name := ⟨#[95, 95, 110, 101, 119, 95, 95]⟩, qualname := ⟨#[73, 79, 66, 97, 115, 101, 46, 95, 95, 110, 101, 119, 95, 95]⟩, params := (defIn (clsIn PySem.Challenge.pw_nq0197_01.main.body 6) 1).1, body := .stmts (defIn (clsIn PySem.Challenge.pw_nq0197_01.main.body 6) 1).2.1, scope := (defIn (clsIn PySem.Challenge.pw_nq0197_01.main.body 6) 1).2.2, globals := 3, closure := [], defaults := .none, kwdefaults := .none, doc := .none, pyModule := .str ⟨#[105, 111]⟩ 286, annotations := none, code := .ref 79, closureTuple := .none, builtins := 0 }, slots := #[] }
noncomputable def o82 (P : Params) : Obj := { cls := .type "dict", dict := none, data := .dict #[⟨PyData.keyHash P ⟨#[95, 95, 109, 111, 100, 117, 108, 101, 95, 95]⟩, .str ⟨#[95, 95, 109, 111, 100, 117, 108, 101, 95, 95]⟩ 333, .str ⟨#[105, 111]⟩ 338⟩, ⟨PyData.keyHash P ⟨#[95, 95, 102, 105, 114, 115, 116, 108, 105, 110, 101, 110, 111, 95, 95]⟩, .str ⟨#[95, 95, 102, 105, 114, 115, 116, 108, 105, 110, 101, 110, 111, 95, 95]⟩ 337, .int 20 336⟩, ⟨PyData.keyHash P ⟨#[95, 95, 110, 101, 119, 95, 95]⟩, .str ⟨#[95, 95, 110, 101, 119, 95, 95]⟩ 348, .ref 84⟩, ⟨PyData.keyHash P ⟨#[95, 95, 115, 116, 97, 116, 105, 99, 95, 97, 116, 116, 114, 105, 98, 117, 116, 101, 115, 95, 95]⟩, .str ⟨#[95, 95, 115, 116, 97, 116, 105, 99, 95, 97, 116, 116, 114, 105, 98, 117, 116, 101, 115, 95, 95]⟩ 349, .ref 81⟩, ⟨PyData.keyHash P ⟨#[95, 95, 100, 105, 99, 116, 95, 95]⟩, .str ⟨#[95, 95, 100, 105, 99, 116, 95, 95]⟩ 352, .ref 85⟩, ⟨PyData.keyHash P ⟨#[95, 95, 119, 101, 97, 107, 114, 101, 102, 95, 95]⟩, .str ⟨#[95, 95, 119, 101, 97, 107, 114, 101, 102, 95, 95]⟩ 354, .ref 86⟩, ⟨PyData.keyHash P ⟨#[95, 95, 100, 111, 99, 95, 95]⟩, .str ⟨#[95, 95, 100, 111, 99, 95, 95]⟩ 355, .none⟩] 4, slots := #[] }
noncomputable def o83 (P : Params) : Obj := { cls := .type "type", dict := none, data := .cls { name := ⟨#[73, 79, 66, 97, 115, 101]⟩, bases := [.type "object"], mro := [.ref 83, .type "object"], ns := 82, qualname := ⟨#[73, 79, 66, 97, 115, 101]⟩, hasDict := true, slotNames := [], subclasses := [.ref 98, .ref 110], abstract := false, collection := none, hasDel := false }, slots := #[none, none, (some (.str ⟨#[73, 79, 66, 97, 115, 101]⟩ 326)), (some (.str ⟨#[73, 79, 66, 97, 115, 101]⟩ 334)), (some (.none)), (some (.bool true))] }
noncomputable def o84 (P : Params) : Obj := { cls := .type "staticmethod", dict := none, data := .fields #[.ref 80], slots := #[] }
noncomputable def o109 (P : Params) : Obj := { cls := .type "dict", dict := none, data := .dict #[⟨PyData.keyHash P ⟨#[95, 95, 109, 111, 100, 117, 108, 101, 95, 95]⟩, .str ⟨#[95, 95, 109, 111, 100, 117, 108, 101, 95, 95]⟩ 383, .str ⟨#[105, 111]⟩ 388⟩, ⟨PyData.keyHash P ⟨#[95, 95, 102, 105, 114, 115, 116, 108, 105, 110, 101, 110, 111, 95, 95]⟩, .str ⟨#[95, 95, 102, 105, 114, 115, 116, 108, 105, 110, 101, 110, 111, 95, 95]⟩ 387, .int 29 386⟩, ⟨PyData.keyHash P ⟨#[95, 95, 115, 116, 97, 116, 105, 99, 95, 97, 116, 116, 114, 105, 98, 117, 116, 101, 115, 95, 95]⟩, .str ⟨#[95, 95, 115, 116, 97, 116, 105, 99, 95, 97, 116, 116, 114, 105, 98, 117, 116, 101, 115, 95, 95]⟩ 390, .ref 108⟩, ⟨PyData.keyHash P ⟨#[95, 95, 100, 111, 99, 95, 95]⟩, .str ⟨#[95, 95, 100, 111, 99, 95, 95]⟩ 391, .none⟩] 2, slots := #[] }
noncomputable def o110 (P : Params) : Obj := { cls := .type "type", dict := none, data := .cls { name := ⟨#[84, 101, 120, 116, 73, 79, 66, 97, 115, 101]⟩, bases := [.ref 83], mro := [.ref 110, .ref 83, .type "object"], ns := 109, qualname := ⟨#[84, 101, 120, 116, 73, 79, 66, 97, 115, 101]⟩, hasDict := true, slotNames := [], subclasses := [.ref 587], abstract := false, collection := none, hasDel := false }, slots := #[(some (.ref 101)), none, (some (.str ⟨#[84, 101, 120, 116, 73, 79, 66, 97, 115, 101]⟩ 376)), (some (.str ⟨#[84, 101, 120, 116, 73, 79, 66, 97, 115, 101]⟩ 384)), (some (.none)), (some (.bool true))] }
noncomputable def o340 (P : Params) : Obj := { cls := .type "type", dict := none, data := .cls { name := ⟨#[66, 121, 116, 101, 115, 73, 79]⟩, bases := [.ref 98], mro := [.ref 340, .ref 98, .ref 83, .type "object"], ns := 339, qualname := ⟨#[66, 121, 116, 101, 115, 73, 79]⟩, hasDict := true, slotNames := [], subclasses := [], abstract := false, collection := none, hasDel := false }, slots := #[(some (.ref 113)), none, (some (.str ⟨#[66, 121, 116, 101, 115, 73, 79]⟩ 394)), (some (.str ⟨#[66, 121, 116, 101, 115, 73, 79]⟩ 402)), (some (.none)), (some (.bool true))] }
noncomputable def o350 (P : Params) : Obj := { cls := .type "tuple", dict := none, data := .seq #[.str ⟨#[]⟩ 670, .str ⟨#[10]⟩ 671] 0, slots := #[] }
noncomputable def o356 (P : Params) : Obj := { cls := .type "code", dict := none, data := .fields #[.str ⟨#[95, 95, 105, 110, 105, 116, 95, 95]⟩ 672, .str ⟨#[83, 116, 114, 105, 110, 103, 73, 79, 46, 95, 95, 105, 110, 105, 116, 95, 95]⟩ 673, .str ⟨#[47, 99, 108, 97, 105, 109, 47, 99, 117, 116, 46, 112, 121]⟩ 674, .int 204 0, .int 3 0, .int 0 0, .int 0 0, .int 3 0, .ref 351, .bool true, .int 273 0, .ref 352, .none, .ref 353, .ref 354, .ref 355, .int 678 0, .int 204 0, .str ⟨#[47, 99, 108, 97, 105, 109, 47, 99, 117, 116, 46, 112, 121]⟩ 679], slots := #[] }
noncomputable def o357 (P : Params) : Obj := { cls := .type "function", dict := none, data := .func { name := ⟨#[95, 95, 105, 110, 105, 116, 95, 95]⟩, qualname := ⟨#[83, 116, 114, 105, 110, 103, 73, 79, 46, 95, 95, 105, 110, 105, 116, 95, 95]⟩, params := (defIn (clsIn PySem.Challenge.pw_nq0197_01.main.body 10) 1).1, body := .stmts (defIn (clsIn PySem.Challenge.pw_nq0197_01.main.body 10) 1).2.1, scope := (defIn (clsIn PySem.Challenge.pw_nq0197_01.main.body 10) 1).2.2, globals := 3, closure := [], defaults := .ref 350, kwdefaults := .none, doc := .none, pyModule := .str ⟨#[105, 111]⟩ 286, annotations := none, code := .ref 356, closureTuple := .none, builtins := 0 }, slots := #[] }
noncomputable def o363 (P : Params) : Obj := { cls := .type "code", dict := none, data := .fields #[.str ⟨#[95, 95, 116, 114, 97, 110, 115, 108, 97, 116, 101, 100]⟩ 681, .str ⟨#[83, 116, 114, 105, 110, 103, 73, 79, 46, 95, 95, 116, 114, 97, 110, 115, 108, 97, 116, 101, 100]⟩ 682, .str ⟨#[47, 99, 108, 97, 105, 109, 47, 99, 117, 116, 46, 112, 121]⟩ 683, .int 217 0, .int 2 0, .int 0 0, .int 0 0, .int 3 0, .ref 358, .bool true, .int 273 0, .ref 359, .none, .ref 360, .ref 361, .ref 362, .int 687 0, .int 217 0, .str ⟨#[47, 99, 108, 97, 105, 109, 47, 99, 117, 116, 46, 112, 121]⟩ 688], slots := #[] }
noncomputable def o364 (P : Params) : Obj := { cls := .type "function", dict := none, data := .func { name := ⟨#[95, 95, 116, 114, 97, 110, 115, 108, 97, 116, 101, 100]⟩, qualname := ⟨#[83, 116, 114, 105, 110, 103, 73, 79, 46, 95, 95, 116, 114, 97, 110, 115, 108, 97, 116, 101, 100]⟩, params := (defIn (clsIn PySem.Challenge.pw_nq0197_01.main.body 10) 2).1, body := .stmts (defIn (clsIn PySem.Challenge.pw_nq0197_01.main.body 10) 2).2.1, scope := (defIn (clsIn PySem.Challenge.pw_nq0197_01.main.body 10) 2).2.2, globals := 3, closure := [], defaults := .none, kwdefaults := .none, doc := .none, pyModule := .str ⟨#[105, 111]⟩ 286, annotations := none, code := .ref 363, closureTuple := .none, builtins := 0 }, slots := #[] }
noncomputable def o370 (P : Params) : Obj := { cls := .type "code", dict := none, data := .fields #[.str ⟨#[95, 95, 99, 104, 101, 99, 107]⟩ 690, .str ⟨#[83, 116, 114, 105, 110, 103, 73, 79, 46, 95, 95, 99, 104, 101, 99, 107]⟩ 691, .str ⟨#[47, 99, 108, 97, 105, 109, 47, 99, 117, 116, 46, 112, 121]⟩ 692, .int 225 0, .int 1 0, .int 0 0, .int 0 0, .int 3 0, .ref 365, .bool true, .int 273 0, .ref 366, .none, .ref 367, .ref 368, .ref 369, .int 694 0, .int 225 0, .str ⟨#[47, 99, 108, 97, 105, 109, 47, 99, 117, 116, 46, 112, 121]⟩ 695], slots := #[] }
noncomputable def o371 (P : Params) : Obj := { cls := .type "function", dict := none, data := .func { name := ⟨#[95, 95, 99, 104, 101, 99, 107]⟩, qualname := ⟨#[83, 116, 114, 105, 110, 103, 73, 79, 46, 95, 95, 99, 104, 101, 99, 107]⟩, params := (defIn (clsIn PySem.Challenge.pw_nq0197_01.main.body 10) 3).1, body := .stmts (defIn (clsIn PySem.Challenge.pw_nq0197_01.main.body 10) 3).2.1, scope := (defIn (clsIn PySem.Challenge.pw_nq0197_01.main.body 10) 3).2.2, globals := 3, closure := [], defaults := .none, kwdefaults := .none, doc := .none, pyModule := .str ⟨#[105, 111]⟩ 286, annotations := none, code := .ref 370, closureTuple := .none, builtins := 0 }, slots := #[] }
noncomputable def o526 (P : Params) : Obj := { cls := .type "tuple", dict := none, data := .seq #[.int (-1) 863] 0, slots := #[] }
noncomputable def o532 (P : Params) : Obj := { cls := .type "code", dict := none, data := .fields #[.str ⟨#[114, 101, 97, 100]⟩ 864, .str ⟨#[83, 116, 114, 105, 110, 103, 73, 79, 46, 114, 101, 97, 100]⟩ 865, .str ⟨#[47, 99, 108, 97, 105, 109, 47, 99, 117, 116, 46, 112, 121]⟩ 866, .int 347 0, .int 2 0, .int 2 0, .int 0 0, .int 3 0, .ref 527, .bool true, .int 273 0, .ref 528, .none, .ref 529, .ref 530, .ref 531, .int 871 0, .int 347 0, .str ⟨#[47, 99, 108, 97, 105, 109, 47, 99, 117, 116, 46, 112, 121]⟩ 872], slots := #[] }
noncomputable def o533 (P : Params) : Obj := { cls := .type "function", dict := none, data := .func { name := ⟨#[114, 101, 97, 100]⟩, qualname := ⟨#[83, 116, 114, 105, 110, 103, 73, 79, 46, 114, 101, 97, 100]⟩, params := (defIn (clsIn PySem.Challenge.pw_nq0197_01.main.body 10) 25).1, body := .stmts (defIn (clsIn PySem.Challenge.pw_nq0197_01.main.body 10) 25).2.1, scope := (defIn (clsIn PySem.Challenge.pw_nq0197_01.main.body 10) 25).2.2, globals := 3, closure := [], defaults := .ref 526, kwdefaults := .none, doc := .none, pyModule := .str ⟨#[105, 111]⟩ 286, annotations := none, code := .ref 532, closureTuple := .none, builtins := 0 }, slots := #[] }
noncomputable def o586 (P : Params) : Obj := { cls := .type "dict", dict := none, data := .dict #[⟨PyData.keyHash P ⟨#[95, 95, 109, 111, 100, 117, 108, 101, 95, 95]⟩, .str ⟨#[95, 95, 109, 111, 100, 117, 108, 101, 95, 95]⟩ 663, .str ⟨#[95, 105, 111]⟩ 668⟩, ⟨PyData.keyHash P ⟨#[95, 95, 102, 105, 114, 115, 116, 108, 105, 110, 101, 110, 111, 95, 95]⟩, .str ⟨#[95, 95, 102, 105, 114, 115, 116, 108, 105, 110, 101, 110, 111, 95, 95]⟩ 667, .int 201 666⟩, ⟨PyData.keyHash P ⟨#[95, 95, 105, 110, 105, 116, 95, 95]⟩, .str ⟨#[95, 95, 105, 110, 105, 116, 95, 95]⟩ 680, .ref 357⟩, ⟨PyData.keyHash P ⟨#[95, 83, 116, 114, 105, 110, 103, 73, 79, 95, 95, 116, 114, 97, 110, 115, 108, 97, 116, 101, 100]⟩, .str ⟨#[95, 83, 116, 114, 105, 110, 103, 73, 79, 95, 95, 116, 114, 97, 110, 115, 108, 97, 116, 101, 100]⟩ 689, .ref 364⟩, ⟨PyData.keyHash P ⟨#[95, 83, 116, 114, 105, 110, 103, 73, 79, 95, 95, 99, 104, 101, 99, 107]⟩, .str ⟨#[95, 83, 116, 114, 105, 110, 103, 73, 79, 95, 95, 99, 104, 101, 99, 107]⟩ 696, .ref 371⟩, ⟨PyData.keyHash P ⟨#[95, 83, 116, 114, 105, 110, 103, 73, 79, 95, 95, 99, 104, 101, 99, 107, 95, 100, 111, 116]⟩, .str ⟨#[95, 83, 116, 114, 105, 110, 103, 73, 79, 95, 95, 99, 104, 101, 99, 107, 95, 100, 111, 116]⟩ 703, .ref 378⟩, ⟨PyData.keyHash P ⟨#[95, 83, 116, 114, 105, 110, 103, 73, 79, 95, 95, 108, 105, 110, 101]⟩, .str ⟨#[95, 83, 116, 114, 105, 110, 103, 73, 79, 95, 95, 108, 105, 110, 101]⟩ 718, .ref 385⟩, ⟨PyData.keyHash P ⟨#[99, 108, 111, 115, 101, 100]⟩, .str ⟨#[99, 108, 111, 115, 101, 100]⟩ 726, .ref 393⟩, ⟨PyData.keyHash P ⟨#[108, 105, 110, 101, 95, 98, 117, 102, 102, 101, 114, 105, 110, 103]⟩, .str ⟨#[108, 105, 110, 101, 95, 98, 117, 102, 102, 101, 114, 105, 110, 103]⟩ 734, .ref 401⟩, ⟨PyData.keyHash P ⟨#[110, 101, 119, 108, 105, 110, 101, 115]⟩, .str ⟨#[110, 101, 119, 108, 105, 110, 101, 115]⟩ 742, .ref 409⟩, ⟨PyData.keyHash P ⟨#[101, 110, 99, 111, 100, 105, 110, 103]⟩, .str ⟨#[101, 110, 99, 111, 100, 105, 110, 103]⟩ 750, .ref 417⟩, ⟨PyData.keyHash P ⟨#[101, 114, 114, 111, 114, 115]⟩, .str ⟨#[101, 114, 114, 111, 114, 115]⟩ 758, .ref 425⟩, ⟨PyData.keyHash P ⟨#[99, 108, 111, 115, 101]⟩, .str ⟨#[99, 108, 111, 115, 101]⟩ 765, .ref 432⟩, ⟨PyData.keyHash P ⟨#[95, 95, 101, 110, 116, 101, 114, 95, 95]⟩, .str ⟨#[95, 95, 101, 110, 116, 101, 114, 95, 95]⟩ 772, .ref 439⟩, ⟨PyData.keyHash P ⟨#[95, 95, 101, 120, 105, 116, 95, 95]⟩, .str ⟨#[95, 95, 101, 120, 105, 116, 95, 95]⟩ 780, .ref 446⟩, ⟨PyData.keyHash P ⟨#[114, 101, 97, 100, 97, 98, 108, 101]⟩, .str ⟨#[114, 101, 97, 100, 97, 98, 108, 101]⟩ 787, .ref 453⟩, ⟨PyData.keyHash P ⟨#[119, 114, 105, 116, 97, 98, 108, 101]⟩, .str ⟨#[119, 114, 105, 116, 97, 98, 108, 101]⟩ 794, .ref 460⟩, ⟨PyData.keyHash P ⟨#[115, 101, 101, 107, 97, 98, 108, 101]⟩, .str ⟨#[115, 101, 101, 107, 97, 98, 108, 101]⟩ 801, .ref 467⟩, ⟨PyData.keyHash P ⟨#[105, 115, 97, 116, 116, 121]⟩, .str ⟨#[105, 115, 97, 116, 116, 121]⟩ 808, .ref 474⟩, ⟨PyData.keyHash P ⟨#[102, 108, 117, 115, 104]⟩, .str ⟨#[102, 108, 117, 115, 104]⟩ 815, .ref 481⟩, ⟨PyData.keyHash P ⟨#[102, 105, 108, 101, 110, 111]⟩, .str ⟨#[102, 105, 108, 101, 110, 111]⟩ 822, .ref 488⟩, ⟨PyData.keyHash P ⟨#[100, 101, 116, 97, 99, 104]⟩, .str ⟨#[100, 101, 116, 97, 99, 104]⟩ 829, .ref 495⟩, ⟨PyData.keyHash P ⟨#[103, 101, 116, 118, 97, 108, 117, 101]⟩, .str ⟨#[103, 101, 116, 118, 97, 108, 117, 101]⟩ 836, .ref 502⟩, ⟨PyData.keyHash P ⟨#[116, 101, 108, 108]⟩, .str ⟨#[116, 101, 108, 108]⟩ 843, .ref 509⟩, ⟨PyData.keyHash P ⟨#[115, 101, 101, 107]⟩, .str ⟨#[115, 101, 101, 107]⟩ 853, .ref 517⟩, ⟨PyData.keyHash P ⟨#[116, 114, 117, 110, 99, 97, 116, 101]⟩, .str ⟨#[116, 114, 117, 110, 99, 97, 116, 101]⟩ 861, .ref 525⟩, ⟨PyData.keyHash P ⟨#[114, 101, 97, 100]⟩, .str ⟨#[114, 101, 97, 100]⟩ 873, .ref 533⟩, ⟨PyData.keyHash P ⟨#[114, 101, 97, 100, 108, 105, 110, 101]⟩, .str ⟨#[114, 101, 97, 100, 108, 105, 110, 101]⟩ 883, .ref 541⟩, ⟨PyData.keyHash P ⟨#[114, 101, 97, 100, 108, 105, 110, 101, 115]⟩, .str ⟨#[114, 101, 97, 100, 108, 105, 110, 101, 115]⟩ 893, .ref 549⟩, ⟨PyData.keyHash P ⟨#[95, 95, 105, 116, 101, 114, 95, 95]⟩, .str ⟨#[95, 95, 105, 116, 101, 114, 95, 95]⟩ 900, .ref 556⟩, ⟨PyData.keyHash P ⟨#[95, 95, 110, 101, 120, 116, 95, 95]⟩, .str ⟨#[95, 95, 110, 101, 120, 116, 95, 95]⟩ 908, .ref 563⟩, ⟨PyData.keyHash P ⟨#[119, 114, 105, 116, 101]⟩, .str ⟨#[119, 114, 105, 116, 101]⟩ 920, .ref 570⟩, ⟨PyData.keyHash P ⟨#[119, 114, 105, 116, 101, 108, 105, 110, 101, 115]⟩, .str ⟨#[119, 114, 105, 116, 101, 108, 105, 110, 101, 115]⟩ 928, .ref 577⟩, ⟨PyData.keyHash P ⟨#[95, 95, 114, 101, 112, 114, 95, 95]⟩, .str ⟨#[95, 95, 114, 101, 112, 114, 95, 95]⟩ 935, .ref 584⟩, ⟨PyData.keyHash P ⟨#[95, 95, 115, 116, 97, 116, 105, 99, 95, 97, 116, 116, 114, 105, 98, 117, 116, 101, 115, 95, 95]⟩, .str ⟨#[95, 95, 115, 116, 97, 116, 105, 99, 95, 97, 116, 116, 114, 105, 98, 117, 116, 101, 115, 95, 95]⟩ 939, .ref 585⟩, ⟨PyData.keyHash P ⟨#[95, 95, 100, 111, 99, 95, 95]⟩, .str ⟨#[95, 95, 100, 111, 99, 95, 95]⟩ 940, .none⟩] 2, slots := #[] }
noncomputable def o587 (P : Params) : Obj := { cls := .type "type", dict := none, data := .cls { name := ⟨#[83, 116, 114, 105, 110, 103, 73, 79]⟩, bases := [.ref 110], mro := [.ref 587, .ref 110, .ref 83, .type "object"], ns := 586, qualname := ⟨#[83, 116, 114, 105, 110, 103, 73, 79]⟩, hasDict := true, slotNames := [], subclasses := [], abstract := false, collection := none, hasDel := false }, slots := #[(some (.ref 343)), none, (some (.str ⟨#[83, 116, 114, 105, 110, 103, 73, 79]⟩ 656)), (some (.str ⟨#[83, 116, 114, 105, 110, 103, 73, 79]⟩ 664)), (some (.none)), (some (.bool true))] }
noncomputable def o639 (P : Params) : Obj := { cls := .type "tuple", dict := none, data := .seq #[.none, .none, .bool false, .bool false] 0, slots := #[] }
noncomputable def o645 (P : Params) : Obj := { cls := .type "code", dict := none, data := .fields #[.str ⟨#[95, 95, 105, 110, 105, 116, 95, 95]⟩ 1015, .str ⟨#[115, 104, 108, 101, 120, 46, 95, 95, 105, 110, 105, 116, 95, 95]⟩ 1016, .str ⟨#[47, 99, 108, 97, 105, 109, 47, 99, 117, 116, 46, 112, 121]⟩ 1017, .int 472 0, .int 5 0, .int 0 0, .int 0 0, .int 3 0, .ref 640, .bool true, .int 273 0, .ref 641, .none, .ref 642, .ref 643, .ref 644, .int 1024 0, .int 472 0, .str ⟨#[47, 99, 108, 97, 105, 109, 47, 99, 117, 116, 46, 112, 121]⟩ 1025], slots := #[] }
noncomputable def o646 (P : Params) : Obj := { cls := .type "function", dict := none, data := .func { name := ⟨#[95, 95, 105, 110, 105, 116, 95, 95]⟩, qualname := ⟨#[115, 104, 108, 101, 120, 46, 95, 95, 105, 110, 105, 116, 95, 95]⟩, params := (defIn (clsIn PySem.Challenge.pw_nq0197_01.main.body 19) 0).1, body := .stmts (defIn (clsIn PySem.Challenge.pw_nq0197_01.main.body 19) 0).2.1, scope := (defIn (clsIn PySem.Challenge.pw_nq0197_01.main.body 19) 0).2.2, globals := 3, closure := [], defaults := .ref 639, kwdefaults := .none, doc := .none, pyModule := .str ⟨#[99, 112, 121, 51, 49, 51, 46, 115, 104, 108, 101, 120]⟩ 1001, annotations := none, code := .ref 645, closureTuple := .none, builtins := 0 }, slots := #[] }
noncomputable def o652 (P : Params) : Obj := { cls := .type "code", dict := none, data := .fields #[.str ⟨#[112, 117, 110, 99, 116, 117, 97, 116, 105, 111, 110, 95, 99, 104, 97, 114, 115]⟩ 1027, .str ⟨#[115, 104, 108, 101, 120, 46, 112, 117, 110, 99, 116, 117, 97, 116, 105, 111, 110, 95, 99, 104, 97, 114, 115]⟩ 1028, .str ⟨#[47, 99, 108, 97, 105, 109, 47, 99, 117, 116, 46, 112, 121]⟩ 1029, .int 513 0, .int 1 0, .int 0 0, .int 0 0, .int 3 0, .ref 647, .bool true, .int 273 0, .ref 648, .none, .ref 649, .ref 650, .ref 651, .int 1031 0, .int 513 0, .str ⟨#[47, 99, 108, 97, 105, 109, 47, 99, 117, 116, 46, 112, 121]⟩ 1032], slots := #[] }
noncomputable def o653 (P : Params) : Obj := { cls := .type "function", dict := none, data := .func { name := ⟨#[112, 117, 110, 99, 116, 117, 97, 116, 105, 111, 110, 95, 99, 104, 97, 114, 115]⟩, qualname := ⟨#[115, 104, 108, 101, 120, 46, 112, 117, 110, 99, 116, 117, 97, 116, 105, 111, 110, 95, 99, 104, 97, 114, 115]⟩, params := (defIn (clsIn PySem.Challenge.pw_nq0197_01.main.body 19) 1).1, body := .stmts (defIn (clsIn PySem.Challenge.pw_nq0197_01.main.body 19) 1).2.1, scope := (defIn (clsIn PySem.Challenge.pw_nq0197_01.main.body 19) 1).2.2, globals := 3, closure := [], defaults := .none, kwdefaults := .none, doc := .none, pyModule := .str ⟨#[99, 112, 121, 51, 49, 51, 46, 115, 104, 108, 101, 120]⟩ 1001, annotations := none, code := .ref 652, closureTuple := .none, builtins := 0 }, slots := #[] }
noncomputable def o654 (P : Params) : Obj := { cls := .type "property", dict := none, data := .fields #[.ref 653, .none, .none, .none, .str ⟨#[112, 117, 110, 99, 116, 117, 97, 116, 105, 111, 110, 95, 99, 104, 97, 114, 115]⟩ 1034, .bool false], slots := #[] }
noncomputable def o682 (P : Params) : Obj := { cls := .type "code", dict := none, data := .fields #[.str ⟨#[103, 101, 116, 95, 116, 111, 107, 101, 110]⟩ 1059, .str ⟨#[115, 104, 108, 101, 120, 46, 103, 101, 116, 95, 116, 111, 107, 101, 110]⟩ 1060, .str ⟨#[47, 99, 108, 97, 105, 109, 47, 99, 117, 116, 46, 112, 121]⟩ 1061, .int 540 0, .int 1 0, .int 0 0, .int 0 0, .int 3 0, .ref 677, .bool true, .int 273 0, .ref 678, .none, .ref 679, .ref 680, .ref 681, .int 1068 0, .int 540 0, .str ⟨#[47, 99, 108, 97, 105, 109, 47, 99, 117, 116, 46, 112, 121]⟩ 1069], slots := #[] }
noncomputable def o683 (P : Params) : Obj := { cls := .type "function", dict := none, data := .func { name := ⟨#[103, 101, 116, 95, 116, 111, 107, 101, 110]⟩, qualname := ⟨#[115, 104, 108, 101, 120, 46, 103, 101, 116, 95, 116, 111, 107, 101, 110]⟩, params := (defIn (clsIn PySem.Challenge.pw_nq0197_01.main.body 19) 5).1, body := .stmts (defIn (clsIn PySem.Challenge.pw_nq0197_01.main.body 19) 5).2.1, scope := (defIn (clsIn PySem.Challenge.pw_nq0197_01.main.body 19) 5).2.2, globals := 3, closure := [], defaults := .none, kwdefaults := .none, doc := .none, pyModule := .str ⟨#[99, 112, 121, 51, 49, 51, 46, 115, 104, 108, 101, 120]⟩ 1001, annotations := none, code := .ref 682, closureTuple := .none, builtins := 0 }, slots := #[] }
noncomputable def o689 (P : Params) : Obj := { cls := .type "code", dict := none, data := .fields #[.str ⟨#[114, 101, 97, 100, 95, 116, 111, 107, 101, 110]⟩ 1071, .str ⟨#[115, 104, 108, 101, 120, 46, 114, 101, 97, 100, 95, 116, 111, 107, 101, 110]⟩ 1072, .str ⟨#[47, 99, 108, 97, 105, 109, 47, 99, 117, 116, 46, 112, 121]⟩ 1073, .int 567 0, .int 1 0, .int 0 0, .int 0 0, .int 3 0, .ref 684, .bool true, .int 273 0, .ref 685, .none, .ref 686, .ref 687, .ref 688, .int 1079 0, .int 567 0, .str ⟨#[47, 99, 108, 97, 105, 109, 47, 99, 117, 116, 46, 112, 121]⟩ 1080], slots := #[] }
noncomputable def o690 (P : Params) : Obj := { cls := .type "function", dict := none, data := .func { name := ⟨#[114, 101, 97, 100, 95, 116, 111, 107, 101, 110]⟩, qualname := ⟨#[115, 104, 108, 101, 120, 46, 114, 101, 97, 100, 95, 116, 111, 107, 101, 110]⟩, params := (defIn (clsIn PySem.Challenge.pw_nq0197_01.main.body 19) 6).1, body := .stmts (defIn (clsIn PySem.Challenge.pw_nq0197_01.main.body 19) 6).2.1, scope := (defIn (clsIn PySem.Challenge.pw_nq0197_01.main.body 19) 6).2.2, globals := 3, closure := [], defaults := .none, kwdefaults := .none, doc := .none, pyModule := .str ⟨#[99, 112, 121, 51, 49, 51, 46, 115, 104, 108, 101, 120]⟩ 1001, annotations := none, code := .ref 689, closureTuple := .none, builtins := 0 }, slots := #[] }
noncomputable def o711 (P : Params) : Obj := { cls := .type "code", dict := none, data := .fields #[.str ⟨#[95, 95, 105, 116, 101, 114, 95, 95]⟩ 1099, .str ⟨#[115, 104, 108, 101, 120, 46, 95, 95, 105, 116, 101, 114, 95, 95]⟩ 1100, .str ⟨#[47, 99, 108, 97, 105, 109, 47, 99, 117, 116, 46, 112, 121]⟩ 1101, .int 714 0, .int 1 0, .int 0 0, .int 0 0, .int 3 0, .ref 706, .bool true, .int 273 0, .ref 707, .none, .ref 708, .ref 709, .ref 710, .int 1103 0, .int 714 0, .str ⟨#[47, 99, 108, 97, 105, 109, 47, 99, 117, 116, 46, 112, 121]⟩ 1104], slots := #[] }
noncomputable def o712 (P : Params) : Obj := { cls := .type "function", dict := none, data := .func { name := ⟨#[95, 95, 105, 116, 101, 114, 95, 95]⟩, qualname := ⟨#[115, 104, 108, 101, 120, 46, 95, 95, 105, 116, 101, 114, 95, 95]⟩, params := (defIn (clsIn PySem.Challenge.pw_nq0197_01.main.body 19) 9).1, body := .stmts (defIn (clsIn PySem.Challenge.pw_nq0197_01.main.body 19) 9).2.1, scope := (defIn (clsIn PySem.Challenge.pw_nq0197_01.main.body 19) 9).2.2, globals := 3, closure := [], defaults := .none, kwdefaults := .none, doc := .none, pyModule := .str ⟨#[99, 112, 121, 51, 49, 51, 46, 115, 104, 108, 101, 120]⟩ 1001, annotations := none, code := .ref 711, closureTuple := .none, builtins := 0 }, slots := #[] }
noncomputable def o718 (P : Params) : Obj := { cls := .type "code", dict := none, data := .fields #[.str ⟨#[95, 95, 110, 101, 120, 116, 95, 95]⟩ 1106, .str ⟨#[115, 104, 108, 101, 120, 46, 95, 95, 110, 101, 120, 116, 95, 95]⟩ 1107, .str ⟨#[47, 99, 108, 97, 105, 109, 47, 99, 117, 116, 46, 112, 121]⟩ 1108, .int 717 0, .int 1 0, .int 0 0, .int 0 0, .int 3 0, .ref 713, .bool true, .int 273 0, .ref 714, .none, .ref 715, .ref 716, .ref 717, .int 1111 0, .int 717 0, .str ⟨#[47, 99, 108, 97, 105, 109, 47, 99, 117, 116, 46, 112, 121]⟩ 1112], slots := #[] }
noncomputable def o719 (P : Params) : Obj := { cls := .type "function", dict := none, data := .func { name := ⟨#[95, 95, 110, 101, 120, 116, 95, 95]⟩, qualname := ⟨#[115, 104, 108, 101, 120, 46, 95, 95, 110, 101, 120, 116, 95, 95]⟩, params := (defIn (clsIn PySem.Challenge.pw_nq0197_01.main.body 19) 10).1, body := .stmts (defIn (clsIn PySem.Challenge.pw_nq0197_01.main.body 19) 10).2.1, scope := (defIn (clsIn PySem.Challenge.pw_nq0197_01.main.body 19) 10).2.2, globals := 3, closure := [], defaults := .none, kwdefaults := .none, doc := .none, pyModule := .str ⟨#[99, 112, 121, 51, 49, 51, 46, 115, 104, 108, 101, 120]⟩ 1001, annotations := none, code := .ref 718, closureTuple := .none, builtins := 0 }, slots := #[] }
noncomputable def o721 (P : Params) : Obj := { cls := .type "dict", dict := none, data := .dict #[⟨PyData.keyHash P ⟨#[95, 95, 109, 111, 100, 117, 108, 101, 95, 95]⟩, .str ⟨#[95, 95, 109, 111, 100, 117, 108, 101, 95, 95]⟩ 1010, .str ⟨#[99, 112, 121, 51, 49, 51, 46, 115, 104, 108, 101, 120]⟩ 1001⟩, ⟨PyData.keyHash P ⟨#[95, 95, 102, 105, 114, 115, 116, 108, 105, 110, 101, 110, 111, 95, 95]⟩, .str ⟨#[95, 95, 102, 105, 114, 115, 116, 108, 105, 110, 101, 110, 111, 95, 95]⟩ 1014, .int 470 1013⟩, ⟨PyData.keyHash P ⟨#[95, 95, 105, 110, 105, 116, 95, 95]⟩, .str ⟨#[95, 95, 105, 110, 105, 116, 95, 95]⟩ 1026, .ref 646⟩, ⟨PyData.keyHash P ⟨#[112, 117, 110, 99, 116, 117, 97, 116, 105, 111, 110, 95, 99, 104, 97, 114, 115]⟩, .str ⟨#[112, 117, 110, 99, 116, 117, 97, 116, 105, 111, 110, 95, 99, 104, 97, 114, 115]⟩ 1034, .ref 654⟩, ⟨PyData.keyHash P ⟨#[112, 117, 115, 104, 95, 116, 111, 107, 101, 110]⟩, .str ⟨#[112, 117, 115, 104, 95, 116, 111, 107, 101, 110]⟩ 1042, .ref 661⟩, ⟨PyData.keyHash P ⟨#[112, 117, 115, 104, 95, 115, 111, 117, 114, 99, 101]⟩, .str ⟨#[112, 117, 115, 104, 95, 115, 111, 117, 114, 99, 101]⟩ 1051, .ref 669⟩, ⟨PyData.keyHash P ⟨#[112, 111, 112, 95, 115, 111, 117, 114, 99, 101]⟩, .str ⟨#[112, 111, 112, 95, 115, 111, 117, 114, 99, 101]⟩ 1058, .ref 676⟩, ⟨PyData.keyHash P ⟨#[103, 101, 116, 95, 116, 111, 107, 101, 110]⟩, .str ⟨#[103, 101, 116, 95, 116, 111, 107, 101, 110]⟩ 1070, .ref 683⟩, ⟨PyData.keyHash P ⟨#[114, 101, 97, 100, 95, 116, 111, 107, 101, 110]⟩, .str ⟨#[114, 101, 97, 100, 95, 116, 111, 107, 101, 110]⟩ 1081, .ref 690⟩, ⟨PyData.keyHash P ⟨#[115, 111, 117, 114, 99, 101, 104, 111, 111, 107]⟩, .str ⟨#[115, 111, 117, 114, 99, 101, 104, 111, 111, 107]⟩ 1089, .ref 697⟩, ⟨PyData.keyHash P ⟨#[101, 114, 114, 111, 114, 95, 108, 101, 97, 100, 101, 114]⟩, .str ⟨#[101, 114, 114, 111, 114, 95, 108, 101, 97, 100, 101, 114]⟩ 1098, .ref 705⟩, ⟨PyData.keyHash P ⟨#[95, 95, 105, 116, 101, 114, 95, 95]⟩, .str ⟨#[95, 95, 105, 116, 101, 114, 95, 95]⟩ 1105, .ref 712⟩, ⟨PyData.keyHash P ⟨#[95, 95, 110, 101, 120, 116, 95, 95]⟩, .str ⟨#[95, 95, 110, 101, 120, 116, 95, 95]⟩ 1113, .ref 719⟩, ⟨PyData.keyHash P ⟨#[95, 95, 115, 116, 97, 116, 105, 99, 95, 97, 116, 116, 114, 105, 98, 117, 116, 101, 115, 95, 95]⟩, .str ⟨#[95, 95, 115, 116, 97, 116, 105, 99, 95, 97, 116, 116, 114, 105, 98, 117, 116, 101, 115, 95, 95]⟩ 1134, .ref 720⟩, ⟨PyData.keyHash P ⟨#[95, 95, 100, 105, 99, 116, 95, 95]⟩, .str ⟨#[95, 95, 100, 105, 99, 116, 95, 95]⟩ 1136, .ref 723⟩, ⟨PyData.keyHash P ⟨#[95, 95, 119, 101, 97, 107, 114, 101, 102, 95, 95]⟩, .str ⟨#[95, 95, 119, 101, 97, 107, 114, 101, 102, 95, 95]⟩ 1138, .ref 724⟩, ⟨PyData.keyHash P ⟨#[95, 95, 100, 111, 99, 95, 95]⟩, .str ⟨#[95, 95, 100, 111, 99, 95, 95]⟩ 1139, .none⟩] 4, slots := #[] }
noncomputable def o722 (P : Params) : Obj := { cls := .type "type", dict := none, data := .cls { name := ⟨#[115, 104, 108, 101, 120]⟩, bases := [.type "object"], mro := [.ref 722, .type "object"], ns := 721, qualname := ⟨#[115, 104, 108, 101, 120]⟩, hasDict := true, slotNames := [], subclasses := [], abstract := false, collection := none, hasDel := false }, slots := #[none, none, (some (.str ⟨#[115, 104, 108, 101, 120]⟩ 1003)), (some (.str ⟨#[115, 104, 108, 101, 120]⟩ 1011)), (some (.builtin "object.__new__")), (some (.bool true))] }
noncomputable def o727 (P : Params) : Obj := { cls := .type "tuple", dict := none, data := .seq #[.bool false, .bool true] 0, slots := #[] }
noncomputable def o733 (P : Params) : Obj := { cls := .type "code", dict := none, data := .fields #[.str ⟨#[115, 112, 108, 105, 116]⟩ 1142, .str ⟨#[115, 112, 108, 105, 116]⟩ 1143, .str ⟨#[47, 99, 108, 97, 105, 109, 47, 99, 117, 116, 46, 112, 121]⟩ 1144, .int 722 0, .int 3 0, .int 0 0, .int 0 0, .int 3 0, .ref 728, .bool true, .int 273 0, .ref 729, .none, .ref 730, .ref 731, .ref 732, .int 1149 0, .int 722 0, .str ⟨#[47, 99, 108, 97, 105, 109, 47, 99, 117, 116, 46, 112, 121]⟩ 1150], slots := #[] }
noncomputable def o734 (P : Params) : Obj := { cls := .type "function", dict := none, data := .func { name := ⟨#[115, 112, 108, 105, 116]⟩, qualname := ⟨#[115, 112, 108, 105, 116]⟩, params := (defIn PySem.Challenge.pw_nq0197_01.main.body 20).1, body := .stmts (defIn PySem.Challenge.pw_nq0197_01.main.body 20).2.1, scope := (defIn PySem.Challenge.pw_nq0197_01.main.body 20).2.2, globals := 3, closure := [], defaults := .ref 727, kwdefaults := .none, doc := .none, pyModule := .str ⟨#[99, 112, 121, 51, 49, 51, 46, 115, 104, 108, 101, 120]⟩ 1001, annotations := none, code := .ref 733, closureTuple := .none, builtins := 0 }, slots := #[] }
noncomputable def o740 (P : Params) : Obj := { cls := .type "code", dict := none, data := .fields #[.str ⟨#[95, 103, 114, 111, 117, 112, 105, 110, 103, 95, 105, 110, 116, 101, 114, 118, 97, 108, 115]⟩ 1156, .str ⟨#[95, 103, 114, 111, 117, 112, 105, 110, 103, 95, 105, 110, 116, 101, 114, 118, 97, 108, 115]⟩ 1157, .str ⟨#[47, 99, 108, 97, 105, 109, 47, 99, 117, 116, 46, 112, 121]⟩ 1158, .int 732 0, .int 1 0, .int 0 0, .int 0 0, .int 35 0, .ref 735, .bool true, .int 273 0, .ref 736, .none, .ref 737, .ref 738, .ref 739, .int 1162 0, .int 732 0, .str ⟨#[47, 99, 108, 97, 105, 109, 47, 99, 117, 116, 46, 112, 121]⟩ 1163], slots := #[] }
noncomputable def o741 (P : Params) : Obj := { cls := .type "function", dict := none, data := .func { name := ⟨#[95, 103, 114, 111, 117, 112, 105, 110, 103, 95, 105, 110, 116, 101, 114, 118, 97, 108, 115]⟩, qualname := ⟨#[95, 103, 114, 111, 117, 112, 105, 110, 103, 95, 105, 110, 116, 101, 114, 118, 97, 108, 115]⟩, params := (defIn PySem.Challenge.pw_nq0197_01.main.body 23).1, body := .stmts (defIn PySem.Challenge.pw_nq0197_01.main.body 23).2.1, scope := (defIn PySem.Challenge.pw_nq0197_01.main.body 23).2.2, globals := 3, closure := [], defaults := .none, kwdefaults := .none, doc := .none, pyModule := .str ⟨#[99, 112, 121, 51, 49, 51, 46, 108, 111, 99, 97, 108, 101]⟩ 1152, annotations := none, code := .ref 740, closureTuple := .none, builtins := 0 }, slots := #[] }
noncomputable def o747 (P : Params) : Obj := { cls := .type "code", dict := none, data := .fields #[.str ⟨#[95, 108, 97, 119, 95, 97, 112, 97, 114, 116]⟩ 1167, .str ⟨#[95, 108, 97, 119, 95, 97, 112, 97, 114, 116]⟩ 1168, .str ⟨#[47, 99, 108, 97, 105, 109, 47, 99, 117, 116, 46, 112, 121]⟩ 1169, .int 745 0, .int 2 0, .int 0 0, .int 0 0, .int 3 0, .ref 742, .bool true, .int 273 0, .ref 743, .none, .ref 744, .ref 745, .ref 746, .int 1172 0, .int 745 0, .str ⟨#[47, 99, 108, 97, 105, 109, 47, 99, 117, 116, 46, 112, 121]⟩ 1173], slots := #[] }
noncomputable def o748 (P : Params) : Obj := { cls := .type "function", dict := none, data := .func { name := ⟨#[95, 108, 97, 119, 95, 97, 112, 97, 114, 116]⟩, qualname := ⟨#[95, 108, 97, 119, 95, 97, 112, 97, 114, 116]⟩, params := (defIn PySem.Challenge.pw_nq0197_01.main.body 25).1, body := .stmts (defIn PySem.Challenge.pw_nq0197_01.main.body 25).2.1, scope := (defIn PySem.Challenge.pw_nq0197_01.main.body 25).2.2, globals := 3, closure := [], defaults := .none, kwdefaults := .none, doc := .none, pyModule := .str ⟨#[108, 97, 119, 95, 110, 113, 48, 49, 57, 55, 95, 48, 49]⟩ 1165, annotations := none, code := .ref 747, closureTuple := .none, builtins := 0 }, slots := #[] }
noncomputable def o754 (P : Params) : Obj := { cls := .type "code", dict := none, data := .fields #[.str ⟨#[95, 108, 97, 119, 95, 108, 101, 116, 116, 101, 114]⟩ 1175, .str ⟨#[95, 108, 97, 119, 95, 108, 101, 116, 116, 101, 114]⟩ 1176, .str ⟨#[47, 99, 108, 97, 105, 109, 47, 99, 117, 116, 46, 112, 121]⟩ 1177, .int 749 0, .int 1 0, .int 0 0, .int 0 0, .int 3 0, .ref 749, .bool true, .int 273 0, .ref 750, .none, .ref 751, .ref 752, .ref 753, .int 1181 0, .int 749 0, .str ⟨#[47, 99, 108, 97, 105, 109, 47, 99, 117, 116, 46, 112, 121]⟩ 1182], slots := #[] }
noncomputable def o755 (P : Params) : Obj := { cls := .type "function", dict := none, data := .func { name := ⟨#[95, 108, 97, 119, 95, 108, 101, 116, 116, 101, 114]⟩, qualname := ⟨#[95, 108, 97, 119, 95, 108, 101, 116, 116, 101, 114]⟩, params := (defIn PySem.Challenge.pw_nq0197_01.main.body 26).1, body := .stmts (defIn PySem.Challenge.pw_nq0197_01.main.body 26).2.1, scope := (defIn PySem.Challenge.pw_nq0197_01.main.body 26).2.2, globals := 3, closure := [], defaults := .none, kwdefaults := .none, doc := .none, pyModule := .str ⟨#[108, 97, 119, 95, 110, 113, 48, 49, 57, 55, 95, 48, 49]⟩ 1165, annotations := none, code := .ref 754, closureTuple := .none, builtins := 0 }, slots := #[] }
noncomputable def o761 (P : Params) : Obj := { cls := .type "code", dict := none, data := .fields #[.str ⟨#[95, 108, 97, 119, 95, 108, 105, 110, 101]⟩ 1184, .str ⟨#[95, 108, 97, 119, 95, 108, 105, 110, 101]⟩ 1185, .str ⟨#[47, 99, 108, 97, 105, 109, 47, 99, 117, 116, 46, 112, 121]⟩ 1186, .int 753 0, .int 5 0, .int 0 0, .int 0 0, .int 3 0, .ref 756, .bool true, .int 273 0, .ref 757, .none, .ref 758, .ref 759, .ref 760, .int 1197 0, .int 753 0, .str ⟨#[47, 99, 108, 97, 105, 109, 47, 99, 117, 116, 46, 112, 121]⟩ 1198], slots := #[] }
noncomputable def o762 (P : Params) : Obj := { cls := .type "function", dict := none, data := .func { name := ⟨#[95, 108, 97, 119, 95, 108, 105, 110, 101]⟩, qualname := ⟨#[95, 108, 97, 119, 95, 108, 105, 110, 101]⟩, params := (defIn PySem.Challenge.pw_nq0197_01.main.body 27).1, body := .stmts (defIn PySem.Challenge.pw_nq0197_01.main.body 27).2.1, scope := (defIn PySem.Challenge.pw_nq0197_01.main.body 27).2.2, globals := 3, closure := [], defaults := .none, kwdefaults := .none, doc := .none, pyModule := .str ⟨#[108, 97, 119, 95, 110, 113, 48, 49, 57, 55, 95, 48, 49]⟩ 1165, annotations := none, code := .ref 761, closureTuple := .none, builtins := 0 }, slots := #[] }
noncomputable def o766 (P : Params) : Obj := { cls := .type "code", dict := none, data := .fields #[.str ⟨#[95, 108, 97, 119, 95, 115, 121, 109, 98, 111, 108]⟩ 1200, .str ⟨#[95, 108, 97, 119, 95, 115, 121, 109, 98, 111, 108]⟩ 1201, .str ⟨#[47, 99, 108, 97, 105, 109, 47, 99, 117, 116, 46, 112, 121]⟩ 1202, .int 770 0, .int 2 0, .int 0 0, .int 0 0, .int 3 0, .ref 763, .bool true, .int 273 0, .ref 764, .none, .none, .none, .ref 765, .int 1203 0, .int 770 0, .str ⟨#[47, 99, 108, 97, 105, 109, 47, 99, 117, 116, 46, 112, 121]⟩ 1204], slots := #[] }
noncomputable def o767 (P : Params) : Obj := { cls := .type "function", dict := none, data := .func { name := ⟨#[95, 108, 97, 119, 95, 115, 121, 109, 98, 111, 108]⟩, qualname := ⟨#[95, 108, 97, 119, 95, 115, 121, 109, 98, 111, 108]⟩, params := (defIn PySem.Challenge.pw_nq0197_01.main.body 28).1, body := .stmts (defIn PySem.Challenge.pw_nq0197_01.main.body 28).2.1, scope := (defIn PySem.Challenge.pw_nq0197_01.main.body 28).2.2, globals := 3, closure := [], defaults := .none, kwdefaults := .none, doc := .none, pyModule := .str ⟨#[108, 97, 119, 95, 110, 113, 48, 49, 57, 55, 95, 48, 49]⟩ 1165, annotations := none, code := .ref 766, closureTuple := .none, builtins := 0 }, slots := #[] }
noncomputable def o773 (P : Params) : Obj := { cls := .type "code", dict := none, data := .fields #[.str ⟨#[108, 97, 119]⟩ 1206, .str ⟨#[108, 97, 119]⟩ 1207, .str ⟨#[47, 99, 108, 97, 105, 109, 47, 99, 117, 116, 46, 112, 121]⟩ 1208, .int 781 0, .int 1 0, .int 0 0, .int 0 0, .int 3 0, .ref 768, .bool true, .int 273 0, .ref 769, .none, .ref 770, .ref 771, .ref 772, .int 1221 0, .int 781 0, .str ⟨#[47, 99, 108, 97, 105, 109, 47, 99, 117, 116, 46, 112, 121]⟩ 1222], slots := #[] }
noncomputable def o774 (P : Params) : Obj := { cls := .type "function", dict := none, data := .func { name := ⟨#[108, 97, 119]⟩, qualname := ⟨#[108, 97, 119]⟩, params := (defIn PySem.Challenge.pw_nq0197_01.main.body 29).1, body := .stmts (defIn PySem.Challenge.pw_nq0197_01.main.body 29).2.1, scope := (defIn PySem.Challenge.pw_nq0197_01.main.body 29).2.2, globals := 3, closure := [], defaults := .none, kwdefaults := .none, doc := .none, pyModule := .str ⟨#[108, 97, 119, 95, 110, 113, 48, 49, 57, 55, 95, 48, 49]⟩ 1165, annotations := none, code := .ref 773, closureTuple := .none, builtins := 0 }, slots := #[] }
noncomputable def oldK (P : Params) : Frag := [(0, o0 P), (2, o2 P), (3, o3 P), (52, o52 P), (53, o53 P), (79, o79 P), (80, o80 P), (82, o82 P), (83, o83 P), (84, o84 P), (109, o109 P), (110, o110 P), (340, o340 P), (350, o350 P), (356, o356 P), (357, o357 P), (363, o363 P), (364, o364 P), (370, o370 P), (371, o371 P), (526, o526 P), (532, o532 P), (533, o533 P), (586, o586 P), (587, o587 P), (639, o639 P), (645, o645 P), (646, o646 P), (652, o652 P), (653, o653 P), (654, o654 P), (682, o682 P), (683, o683 P), (689, o689 P), (690, o690 P), (711, o711 P), (712, o712 P), (718, o718 P), (719, o719 P), (721, o721 P), (722, o722 P), (727, o727 P), (733, o733 P), (734, o734 P), (740, o740 P), (741, o741 P), (747, o747 P), (748, o748 P), (754, o754 P), (755, o755 P), (761, o761 P), (762, o762 P), (766, o766 P), (767, o767 P), (773, o773 P), (774, o774 P)]
noncomputable def oldT (P : Params) : KT := KT.of (oldK P)
end Mine
end Old

section Frm
open PySem PySem.Calls PySem.W PySem.W.X PyProof.Rows
set_option Elab.async false
set_option maxRecDepth 100000
namespace Mine
/-- the new objects that are known, with their addresses -/
noncomputable def news (N : Nat) : List (Option Obj) → Own
  | [] => []
  | some o :: l => (N + l.length, o) :: news N l
  | none :: l => news N l
theorem news_mem {N : Nat} : ∀ {l : List (Option Obj)} {p : Addr × Obj}, p ∈ news N l → ∃ k, k < l.length ∧ p.1 = N + k ∧ l[l.length - 1 - k]? = some (some p.2)
  | [], _, h => (nomatch h)
  | some o :: l, p, h => by
    rcases List.mem_cons.mp h with rfl | h
    · exact ⟨l.length, by simp, rfl, by simp⟩
    · obtain ⟨k, h1, h2, h3⟩ := news_mem h
      refine ⟨k, by simp; omega, h2, ?_⟩
      rw [List.length_cons, show l.length + 1 - 1 - k = (l.length - 1 - k) + 1 by omega, List.getElem?_cons_succ]
      exact h3
  | none :: l, p, h => by
    obtain ⟨k, h1, h2, h3⟩ := news_mem (l := l) h
    refine ⟨k, by simp; omega, h2, ?_⟩
    rw [List.length_cons, show l.length + 1 - 1 - k = (l.length - 1 - k) + 1 by omega, List.getElem?_cons_succ]
    exact h3
theorem mem_news {N : Nat} : ∀ {l : List (Option Obj)} {k : Nat} {o : Obj}, k < l.length → l[l.length - 1 - k]? = some (some o) → (N + k, o) ∈ news N l
  | [], _, _, h, _ => absurd h (Nat.not_lt_zero _)
  | x :: l, k, o, h, e => by
    by_cases hk : k = l.length
    · subst hk
      simp at e
      subst e
      exact .head _
    · have h' : k < l.length := by simp at h; omega
      rw [List.length_cons, show l.length + 1 - 1 - k = (l.length - 1 - k) + 1 by omega, List.getElem?_cons_succ] at e
      have := mem_news (N := N) h' e
      cases x with
      | none => exact this
      | some y => exact .tail _ this
theorem news_nodup {N : Nat} : ∀ {l : List (Option Obj)}, ((news N l).map (·.1)).Nodup
  | [] => List.nodup_nil
  | some o :: l => by
    show ((N + l.length) :: (news N l).map (·.1)).Nodup
    refine List.nodup_cons.mpr ⟨fun h => ?_, news_nodup⟩
    obtain ⟨p, hp, hpe⟩ := List.mem_map.mp h
    obtain ⟨k, h1, h2, _⟩ := news_mem hp
    rw [h2] at hpe
    exact absurd (Nat.add_left_cancel hpe) (Nat.ne_of_lt h1)
  | none :: l => news_nodup (l := l)
section
variable {V : Cfg} {h : Heap} {st : St}
theorem Rep.flat (D : Rep V h st) : Rep V h ⟨st.base ++ news st.N st.nw, [], 0, 0, st.N + st.n, st.t + st.j, st.g⟩ := by
  have nw : ∀ p ∈ news st.N st.nw, ∃ k, k < st.n ∧ p.1 = st.N + k ∧ h.get? p.1 = some p.2 := fun p hp => by
    obtain ⟨k, h1, h2, h3⟩ := news_mem hp
    rw [D.len] at h1 h3
    exact ⟨k, h1, h2, by rw [h2]; exact D.new k p.2 h1 h3⟩
  refine ⟨D.size, rfl, fun p hp => ?_, ?_, fun p hp => ?_, fun p hp => ?_, Nat.le_trans D.lowN (Nat.le_add_right ..), fun k o hk => absurd hk (Nat.not_lt_zero k), D.keep, D.bare⟩
  · rcases List.mem_append.mp hp with hp | hp
    · exact D.base p hp
    · obtain ⟨k, _, _, e⟩ := nw p hp; exact e
  · rw [List.map_append]
    refine List.nodup_append.mpr ⟨D.nod, news_nodup, fun a ha b hb e => ?_⟩
    obtain ⟨p, hp, rfl⟩ := List.mem_map.mp ha
    obtain ⟨q, hq, rfl⟩ := List.mem_map.mp hb
    obtain ⟨k, _, e2, _⟩ := nw q hq
    have := D.lt p hp
    rw [e, e2] at this
    exact absurd this (Nat.not_lt.mpr (Nat.le_add_right ..))
  · rcases List.mem_append.mp hp with hp | hp
    · exact Nat.lt_of_lt_of_le (D.lt p hp) (Nat.le_add_right ..)
    · obtain ⟨k, h1, e, _⟩ := nw p hp
      rw [e]; exact Nat.add_lt_add_left h1 _
  · rcases List.mem_append.mp hp with hp | hp
    · exact D.low p hp
    · obtain ⟨k, h1, e, _⟩ := nw p hp
      rw [e]; exact Nat.le_trans D.lowN (Nat.le_add_right ..)
/-- back in the caller's own words: the callee's new objects are forgotten -/
theorem Rep.back {base : Own} {nw nw' : List (Option Obj)} {n n' j j' N t t' : Nat} {g : Array GenState} (D : Rep V h ⟨base ++ news N nw, nw', n', j', N + n, t', g⟩) (hn : nw.length = n) (lt : ∀ p ∈ base, p.1 < N) (lowN : V.n₁ ≤ N) :
    Rep V h ⟨base, List.replicate n' none ++ nw, n + n', j, N, t, g⟩ := by
  refine ⟨by rw [D.size]; simp only; omega, by simp; omega, fun p hp => D.base p (List.mem_append.mpr (.inl hp)), ?_, lt, fun p hp => D.low p (List.mem_append.mpr (.inl hp)), lowN, fun k o hk e => ?_, D.keep, D.bare⟩
  · have := D.nod
    rw [List.map_append] at this
    exact (List.nodup_append.mp this).1
  · simp only at hk e ⊢
    by_cases hkn : k < n
    · rw [List.getElem?_append_right (by simp; omega), List.length_replicate, show n + n' - 1 - k - n' = nw.length - 1 - k by omega] at e
      exact D.base (N + k, o) (List.mem_append.mpr (.inr (mem_news (by omega) e)))
    · rw [List.getElem?_append_left (by simp; omega)] at e
      rw [List.getElem?_replicate] at e
      split at e <;> simp at e
/-- the order of the base, and what is left out of it, do not matter -/
theorem Rep.sub {base base' : Own} {n j N t j' t' : Nat} {nw : List (Option Obj)} {g : Array GenState} (D : Rep V h ⟨base, nw, n, j, N, t, g⟩) (hs : ∀ p ∈ base', p ∈ base) (hn : (base'.map (·.1)).Nodup) : Rep V h ⟨base', nw, n, j', N, t', g⟩ :=
  ⟨D.size, D.len, fun p hp => D.base p (hs p hp), hn, fun p hp => D.lt p (hs p hp), fun p hp => D.low p (hs p hp), D.lowN, D.new, D.keep, D.bare⟩
theorem Rep.toks {base : Own} {n j N t j' t' : Nat} {nw : List (Option Obj)} {g : Array GenState} (D : Rep V h ⟨base, nw, n, j, N, t, g⟩) : Rep V h ⟨base, nw, n, j', N, t', g⟩ :=
  ⟨D.size, D.len, D.base, D.nod, D.lt, D.low, D.lowN, D.new, D.keep, D.bare⟩
end
end Mine
end Frm

section Rd
open PySem PySem.Calls PySem.W PySem.W.X PyProof.Rows
set_option Elab.async false
set_option maxRecDepth 100000
namespace Mine
/-- a world that answers two rows as told -/
noncomputable def wf (w : World) (b1 b2 : Bool) : World :=
  { w with params := { w.params with followText := fun r => @ite _ (r = "special-get-raises") (S.strDecS r "special-get-raises") b1 (@ite _ (r = "comprehension-iter-twice") (S.strDecS r "comprehension-iter-twice") b2 (w.params.followText r)) } }
theorem wf_self (w : World) : wf w (w.params.followText "special-get-raises") (w.params.followText "comprehension-iter-twice") = w := by
  obtain ⟨draws, params⟩ := w
  have h : (fun r => @ite _ (r = "special-get-raises") (S.strDecS r "special-get-raises") (params.followText "special-get-raises") (@ite _ (r = "comprehension-iter-twice") (S.strDecS r "comprehension-iter-twice") (params.followText "comprehension-iter-twice") (params.followText r))) = params.followText := by
    funext r
    by_cases e : r = "special-get-raises"
    · simp [e]
    · by_cases e2 : r = "comprehension-iter-twice"
      · simp [e2]
      · simp [e, e2]
  exact congrArg (fun f => (⟨draws, { params with followText := f }⟩ : World)) h
/-- the old objects, and the script's list at 775 -/
@[irreducible] noncomputable def ktab (w : World) (scr : Obj) : KT := KT.put 40 (oldT w.params) 775 scr
/-- the call's configuration -/
noncomputable abbrev cfg (w : World) (scr : Obj) (h₀ : Heap) (A : Around) (D : Nat) (R : Result → Shared → Prop) (d : Drawn) (os : OsState) : Cfg :=
  { prog := PySem.Challenge.pw_nq0197_01, w, h₀, n₁ := 776, kt := ktab w scr, A₀ := A, D, R₀ := R, d, os }
noncomputable def sNewline : Str := ⟨#[95, 83, 116, 114, 105, 110, 103, 73, 79, 95, 95, 110, 101, 119, 108, 105, 110, 101]⟩
noncomputable def sBuf : Str := ⟨#[95, 83, 116, 114, 105, 110, 103, 73, 79, 95, 95, 98, 117, 102]⟩
noncomputable def sPos : Str := ⟨#[95, 83, 116, 114, 105, 110, 103, 73, 79, 95, 95, 112, 111, 115]⟩
structure IoT where
  k1 : Nat
  k2 : Nat
  k3 : Nat
  tb : Nat
/-- a StringIO's dict -/
noncomputable def ioDict (P : Params) (T : IoT) (buf : Str) (pos : Int) (tp : Nat) : Obj :=
  { cls := .type "dict", data := .dict #[⟨PyData.keyHash P sNewline, .str sNewline T.k1, .str ⟨#[10]⟩ 671⟩, ⟨PyData.keyHash P sBuf, .str sBuf T.k2, .str buf T.tb⟩, ⟨PyData.keyHash P sPos, .str sPos T.k3, .int pos tp⟩] 3 }
noncomputable def ioInst (d : Addr) : Obj := { cls := .ref 587, dict := some d }
noncomputable def sliceObj (a b : Value) : Obj := { cls := .type "slice", data := .fields #[a, b, .none] }
/-- what the top left, as far as the call needs it -/
structure Grd (w : World) (scr : Obj) (h₀ : Heap) : Prop where
  size : h₀.objs.size = 776
  kt : (ktab w scr).Holds h₀ 1 0
  lim : h₀.NoLimit
  alive : ∀ b, b < 776 → ∃ o, h₀.get? b = some o
theorem Grd.cfg {w : World} {scr : Obj} {h₀ : Heap} (G : Grd w scr h₀) {A : Around} {D : Nat} {R : Result → Shared → Prop} {d : Drawn} {os : OsState} (lo : Lo A D) : CfgOk (cfg w scr h₀ A D R d os) := ⟨G.size, G.kt, lo, G.lim⟩
theorem Rep.cast {V V' : Cfg} {h : Heap} {st : St} (D : Rep V h st) (e1 : V.h₀ = V'.h₀) (e2 : V.n₁ = V'.n₁) : Rep V' h st :=
  ⟨D.size, D.len, D.base, D.nod, D.lt, e2 ▸ D.low, e2 ▸ D.lowN, D.new, e1 ▸ D.keep, D.bare⟩
/-- a contract over the first k objects of the base, that makes n' new objects and forgets them -/
noncomputable def frameCtr {X : Type} (k n' : Nat) (r : X → Result) (req' : X → Own) (dj : X → Nat) (D : Nat) : Ctr :=
  { X, resp := fun x st => (r x, ⟨req' x ++ st.base.drop k, List.replicate n' none ++ st.nw, st.n + n', st.j + dj x, st.N, st.t, st.g⟩), D }
theorem frame_ok {V : Cfg} {X : Type} {c : Code} {req : Own} {n' Dc : Nat} {r : X → Result} {req' : X → Own} {dj : X → Nat} (hk : ∀ x, (req' x).map (·.1) = req.map (·.1))
    {rest₀ : Own} {fr : Option (List Env)} {nw : List (Option Obj)} {n j N t : Nat} {g : Array GenState}
    (callee : ∀ (A : Around) (R : Result → Shared → Prop) (h : Heap) (rest : Own) (N t : Nat), Lo A Dc → Rep V h ⟨req ++ rest, [], 0, 0, N, t, g⟩ →
      (∀ x h' nw', Rep V h' ⟨req' x ++ rest, nw', n', dj x, N, t, g⟩ → R (r x) ⟨h', g, V.d, t + dj x, V.os⟩) → codeAny (model V.prog V.w) A c R ⟨h, g, V.d, t, V.os⟩) :
    CtrOk V (frameCtr req.length n' r req' dj Dc) c ⟨req ++ rest₀, nw, n, j, N, t, g⟩ fr := by
  intro A h R lo _ D q
  have F := D.flat
  simp only [List.append_assoc] at F
  refine callee A R h _ _ _ lo F fun x h' nw' D' => ?_
  have D2 : Rep V h' ⟨(req' x ++ rest₀) ++ news N nw, nw', n', dj x, N + n, t + j, g⟩ := by rw [List.append_assoc]; exact D'
  have := q x h' ?_
  · simp only [frameCtr] at this
    rw [← Nat.add_assoc] at this
    exact this
  · simp only [frameCtr, List.drop_left]
    refine D2.back D.len (fun p hp => ?_) D.lowN
    rcases List.mem_append.mp hp with hp | hp
    · have : p.1 ∈ req.map (·.1) := by rw [← hk x]; exact List.mem_map_of_mem hp
      obtain ⟨p', h1, h2⟩ := List.mem_map.mp this
      rw [← h2]; exact D.lt p' (List.mem_append.mpr (.inl h1))
    · exact D.lt p (List.mem_append.mpr (.inr hp))
/-- a contract of a fixed answer that takes e tokens -/
noncomputable def tokCtr (r : Nat → Result) (e : Nat) (D : Nat) : Ctr := { X := Unit, resp := fun _ st => (r (st.t + st.j), { st with j := st.j + e }), D }

noncomputable def rdA : List Nat := [0, 2, 2, 2, 2, 2, 0, 2, 0, 4, 4, 4, 4, 0, 0, 4, 0, 0, 0, 0, 4, 4, 4, 4, 4, 4, 2, 2, 2, 3, 0, 0, 0, 0, 0, 0, 0, 3, 0, 0, 0, 0, 0, 0, 0, 3, 0, 0, 0, 0, 3, 1, 0, 6, 6, 6, 3, 0, 0, 0, 0, 0, 0, 0, 3, 0, 0, 0, 0, 0, 0, 0, 3, 3, 0, 1, 2, 3, 0, 0, 0, 0, 0, 0, 0, 3, 0, 0, 0, 0, 0, 0, 0, 3, 3, 0, 1, 2, 2, 0, 0, 2, 3, 0, 0, 0, 0, 0, 0, 0, 3, 0, 0, 0, 0, 0, 0, 0, 3, 3, 0, 1, 2, 2, 2, 2]
noncomputable def rdB : List Nat := [2, 2, 2, 2, 2, 2, 2, 2, 2, 2, 3, 0, 0, 0, 0, 0, 0, 0, 3, 0, 3, 0, 3, 0, 0, 0, 0, 0, 0, 0, 3, 0, 1, 1, 1, 2, 3, 0, 0, 0, 0, 0, 0, 0, 3, 0, 0, 0, 0, 0, 0, 0, 3, 3, 0, 1, 2, 2]
noncomputable def rdC : List Nat := [2, 2, 2, 2, 2, 2, 3, 0, 0, 0, 0, 0, 0, 0, 3, 0, 3, 0, 3, 0, 0, 0, 0, 0, 0, 0, 3, 0, 1, 1, 1, 2, 3, 0, 0, 0, 0, 0, 0, 0, 3, 0, 0, 0, 0, 0, 0, 0, 3, 3, 0, 1, 2, 2]

/-- the end of a segment: its base, how many objects are new, whence, the tokens, the generators -/
noncomputable abbrev view (PP : Result ⊕ Code → Own → Nat → Nat → Nat → Array GenState → Prop) : Result ⊕ Code → St → Prop := fun r st => PP r st.base st.n st.N (st.t + st.j) st.g
noncomputable abbrev RdGoal (w : World) (scr : Obj) (h₀ : Heap) (A : Around) (R : Result → Shared → Prop) (d : Drawn) (os : OsState) (HH : Nat → Code → Option Obj → Nat → Prop) (PP : Result ⊕ Code → Own → Nat → Nat → Nat → Array GenState → Prop) (c : Nat)
    (T : IoT) (buf : Str) (i tp t1 N t : Nat) (g : Array GenState) (a b : Addr) (rest : Own) (hl hc : List Nat) : Prop :=
  evCode (cfg w scr h₀ A 700 R d os) (Mine.run (cfg w scr h₀ A 700 R d os) [tokCtr (fun tk => .ok (.ret (.str ⟨#[c]⟩ tk))) 1 900] (fun i c st _ => HH i c (nwAt st.nw 0) (st.N + (st.n - 1))) primQ (view PP) 400)
      (.call (.ref 533) ⟨[.ref b, .int 1 t1], []⟩) hl [] hc [] True ((a, ioDict w.params T buf (Int.ofNat i) tp) :: (b, ioInst a) :: rest) [] 0 0 N t g []
set_option maxHeartbeats 0
theorem rd_more (w₀ : World) (b1 b2 : Bool) (w : World) (hw : w = wf w₀ b1 b2) (scr : Obj) (h₀ : Heap) (A : Around) (R : Result → Shared → Prop) (d : Drawn) (os : OsState) (HH : Nat → Code → Option Obj → Nat → Prop) (PP : Result ⊕ Code → Own → Nat → Nat → Nat → Array GenState → Prop)
    (T : IoT) (buf : Str) (i tp t1 c N t : Nat) (g : Array GenState) (a b : Addr) (rest : Own) :
    RdGoal w scr h₀ A R d os HH PP c T buf i tp t1 N t g a b rest (rdA ++ rdB) [0, 0, 0, 0, 0, 0, 0, 0, 0, 0, 0, 0, 1, 2, 0, 0, 3, 0, 0, 0, 4] =
    (Eqs (want [a, b] N (rdA ++ rdB)) ∧ (((True ∧ buf.length < 2 ^ 63) ∧ decide (Int.ofNat i ≥ Int.ofNat buf.length) = false) ∧ decide (Int.ofNat i + 1 < Int.ofNat buf.length) = true) ∧ HH 0 (.call (.builtin "str.__getitem__") ⟨[.str buf T.tb, .ref (N + 3)], []⟩) (some (sliceObj (.int (Int.ofNat i) tp) (.int (Int.ofNat i + 1) (t + 20)))) (N + (4 - 1)) ∧ ∀ _ : Unit, Eqs [] ∧ True ∧ PP (.inl (.ok (.ret (.str ⟨#[c]⟩ (t + 25))))) ((a, ioDict w.params T buf (Int.ofNat i + 1) (t + 20)) :: (b, ioInst a) :: rest) 4 N (t + 26) g) := by
  subst hw
  cases b1 <;> kernel_rfl
theorem rd_last (w₀ : World) (b1 b2 : Bool) (w : World) (hw : w = wf w₀ b1 b2) (scr : Obj) (h₀ : Heap) (A : Around) (R : Result → Shared → Prop) (d : Drawn) (os : OsState) (HH : Nat → Code → Option Obj → Nat → Prop) (PP : Result ⊕ Code → Own → Nat → Nat → Nat → Array GenState → Prop)
    (T : IoT) (buf : Str) (i tp t1 c N t : Nat) (g : Array GenState) (a b : Addr) (rest : Own) :
    RdGoal w scr h₀ A R d os HH PP c T buf i tp t1 N t g a b rest (rdA ++ rdC) [0, 0, 0, 0, 0, 0, 0, 0, 0, 0, 0, 0, 1, 2, 0, 0, 2, 0, 0, 4] =
    (Eqs (want [a, b] N (rdA ++ rdC)) ∧ (((True ∧ buf.length < 2 ^ 63) ∧ decide (Int.ofNat i ≥ Int.ofNat buf.length) = false) ∧ decide (Int.ofNat i + 1 < Int.ofNat buf.length) = false) ∧ HH 0 (.call (.builtin "str.__getitem__") ⟨[.str buf T.tb, .ref (N + 3)], []⟩) (some (sliceObj (.int (Int.ofNat i) tp) (.int (Int.ofNat buf.length) (t + 16)))) (N + (4 - 1)) ∧ ∀ _ : Unit, Eqs [] ∧ True ∧ PP (.inl (.ok (.ret (.str ⟨#[c]⟩ (t + 23))))) ((a, ioDict w.params T buf (Int.ofNat buf.length) (t + 16)) :: (b, ioInst a) :: rest) 4 N (t + 24) g) := by
  subst hw
  cases b1 <;> kernel_rfl
theorem rd_eof (w₀ : World) (b1 b2 : Bool) (w : World) (hw : w = wf w₀ b1 b2) (scr : Obj) (h₀ : Heap) (A : Around) (R : Result → Shared → Prop) (d : Drawn) (os : OsState) (HH : Nat → Code → Option Obj → Nat → Prop) (PP : Result ⊕ Code → Own → Nat → Nat → Nat → Array GenState → Prop)
    (T : IoT) (buf : Str) (i tp t1 c N t : Nat) (g : Array GenState) (a b : Addr) (rest : Own) :
    RdGoal w scr h₀ A R d os HH PP c T buf i tp t1 N t g a b rest rdA [0, 0, 0, 0, 0, 0, 0, 0, 0, 0, 0, 0, 1, 3] =
    (Eqs (want [a, b] N rdA) ∧ ((True ∧ buf.length < 2 ^ 63) ∧ decide (Int.ofNat i ≥ Int.ofNat buf.length) = true) ∧ PP (.inl (.ok (.ret (.str ⟨#[]⟩ (t + 18))))) ((a, ioDict w.params T buf (Int.ofNat i) tp) :: (b, ioInst a) :: rest) 3 N (t + 19) g) := by
  subst hw
  cases b1 <;> kernel_rfl
end Mine
end Rd

section Hd
open PySem PySem.Calls PySem.W PySem.W.X PyProof.Rows PySem.Challenge
set_option maxRecDepth 100000
set_option maxHeartbeats 0
namespace Mine
noncomputable abbrev pw := pw_nq0197_01
noncomputable abbrev tz := PySem.W.Fast.tw14364793385576792824
noncomputable abbrev impQ := PySem.W.Fast.tw14789777615569096658
noncomputable abbrev segQ := PySem.W.Fast.tw10110043849684766642
noncomputable abbrev fenceQ := PySem.W.Fast.tw14289696077712309145
noncomputable abbrev startQ := PySem.W.Fast.tw1435165496053646825
noncomputable abbrev exitQ := PySem.W.Fast.tw3805553451399329143
noncomputable def s00 : SharedT := ⟨.nil, 0, ({} : Heap).life, #[], (start (opening pw)).1.drawn, 1, (start (opening pw)).1.os⟩
theorem s00_abs : s00.abs = (start (opening pw)).1 := rfl
/-- a list of objects as a tree -/
noncomputable def plant : List Obj → BT → Nat → Option (BT × Nat)
  | [], t, n => some (t, n)
  | o :: l, t, n => match ((t.ins n o).get n).isSome with
    | true => plant l (t.ins n o) (n + 1)
    | false => none
theorem plant_spec (life : Life) : ∀ {l : List Obj} {t t' : BT} {n n' : Nat}, plant l t n = some (t', n') → (absHeap t' n' life).objs = (absHeap t n life).objs ++ l.toArray
  | [], t, t', n, n', h => by cases h; simp
  | o :: l, t, t', n, n', h => by
    unfold plant at h
    cases e : ((t.ins n o).get n).isSome with
    | false => rw [e] at h; cases h
    | true =>
      rw [e] at h
      rw [plant_spec life h, absHeap_ins e]
      show (absHeap t n life).objs.push o ++ l.toArray = _
      simp
noncomputable abbrev moduleCodeQ := PySem.W.Fast.tw17154629097778926822
noncomputable abbrev newBodyFrameQ := PySem.W.Fast.tw12822647523644345616
noncomputable def stubQ (p : Program) : Thread :=
  ⟨do let code ← moduleCodeQ p.main
      let frame ← newBodyFrameQ code mainNs mainNs
      let _ ← PySem.run (.body (behindTheImports p) { scope := p.main.scope, locals := mainNs, globals := mainNs, cells := [], code, frame := some frame })
      ret .none,
   .builtin "claim.caller" {}, default, []⟩
theorem stubQ_eq (p : Program) : stubQ p = topStub p := by
  unfold stubQ topStub moduleCodeQ newBodyFrameQ
  rw [← PySem.W.Fast.te17154629097778926822, ← PySem.W.Fast.te12822647523644345616]
/-- the opening, with its fence -/
noncomputable def fenT (w : World) : Option Shared := match impQ tz (opening pw) w 828 s00 (startQ (opening pw)).2 with
  | none => none
  | some (s, t) => match exitQ t with
    | some [] => fenceQ pw s.abs
    | _ => none
theorem fenT_spec {w : World} {s₀ : Shared} (h : fenT w = some s₀) : ∃ s, importEnds table (opening pw) w 829 (start (opening pw)).1 (start (opening pw)).2 = some s ∧ fenceModules? pw s = some s₀ := by
  unfold fenT at h
  cases e1 : impQ tz (opening pw) w 828 s00 (startQ (opening pw)).2 with
  | none => rw [e1] at h; cases h
  | some x =>
    obtain ⟨s, t⟩ := x
    rw [e1] at h
    dsimp only at h
    cases e2 : exitQ t with
    | none => rw [e2] at h; cases h
    | some l =>
      rw [e2] at h
      cases l with
      | cons a b => cases h
      | nil =>
        refine ⟨s.abs, ?_, ?_⟩
        · unfold impQ tz startQ at e1
          rw [← PySem.W.Fast.te14789777615569096658, ← PySem.W.Fast.te14364793385576792824, ← PySem.W.Fast.te1435165496053646825] at e1
          have := impGo_of e1
          rw [s00_abs] at this
          rw [table_eq_tree]
          refine imp_go (n := 828) (N := 1) this ?_
          unfold importEnds
          unfold exitQ at e2
          rw [← PySem.W.Fast.te3805553451399329143] at e2
          rw [e2]
        · unfold fenceQ at h
          rw [← PySem.W.Fast.te14289696077712309145] at h
          exact h
end Mine
end Hd

section Hp
open PySem PySem.Calls PySem.W PySem.W.X PyProof.Rows PySem.Challenge
set_option Elab.async false
set_option maxRecDepth 100000
namespace Mine.Top
/-- the object that is written out for a place, else any -/
noncomputable def pick : Frag → (Nat → Obj) → Nat → Obj
  | [], x, a => x a
  | p :: K, x, a => match Nat.beq p.1 a with
    | true => p.2
    | false => pick K x a
noncomputable def fillL (K : Frag) (x : Nat → Obj) (n : Nat) : List Obj := (List.range n).map (pick K x)
/-- what is known of a heap: its size, some objects, and that none is dead -/
structure Known (K : Frag) (n : Nat) (h : Heap) : Prop where
  size : h.objs.size = n
  all : ∀ p ∈ K, h.get? p.1 = some p.2
  live : ∀ a, a < n → ∃ o, h.get? a = some o
theorem objs_of_get {h : Heap} {a : Nat} {o : Obj} (e : h.get? a = some o) : h.objs[a]? = some o := by
  unfold Heap.get? at e
  cases g : h.objs[a]? with
  | none => rw [g] at e; cases e
  | some x =>
    rw [g] at e
    obtain ⟨c, d, dt, sl⟩ := x
    cases dt <;> first | exact e | cases e
theorem pick_of {h : Heap} : ∀ {K : Frag} (_ : ∀ p ∈ K, h.get? p.1 = some p.2) (a : Nat), pick K (fun a => (h.objs[a]?).getD default) a = (h.objs[a]?).getD default
  | [], _, _ => rfl
  | p :: K, A, a => by
    unfold pick
    cases e : Nat.beq p.1 a with
    | true =>
      have := objs_of_get (A p (.head _))
      rw [Nat.eq_of_beq_eq_true e] at this
      dsimp only
      rw [this]
      rfl
    | false => exact pick_of (fun q hq => A q (.tail _ hq)) a
theorem fill_arr {K : Frag} {x : Nat → Obj} {n a : Nat} : (fillL K x n).toArray[a]? = if a < n then some (pick K x a) else none := by
  unfold fillL
  rw [List.getElem?_toArray, List.getElem?_map]
  by_cases hi : a < n
  · rw [List.getElem?_range hi, if_pos hi]
    rfl
  · rw [List.getElem?_eq_none (by rw [List.length_range]; omega), if_neg hi]
    rfl
theorem Known.fill {K : Frag} {n : Nat} {h : Heap} (k : Known K n h) : ∃ x, h.objs = (fillL K x n).toArray := by
  refine ⟨fun a => (h.objs[a]?).getD default, ?_⟩
  apply Array.ext_getElem?
  intro i
  rw [fill_arr]
  by_cases hi : i < n
  · rw [if_pos hi, pick_of k.all]
    have : i < h.objs.size := by rw [k.size]; exact hi
    rw [Array.getElem?_eq_getElem this]
    rfl
  · rw [if_neg hi, Array.getElem?_eq_none (by rw [k.size]; omega)]
/-- such a state as a tree -/
noncomputable def midT (K : Frag) (n : Nat) (x : Nat → Obj) (life : Life) (d : Drawn) (toks : Nat) (os : OsState) : Option SharedT := match plant (fillL K x n) .nil 0 with
  | none => none
  | some (T, m) => some ⟨T, m, life, #[], d, toks, os⟩
theorem midT_abs {K : Frag} {n : Nat} {x : Nat → Obj} {life : Life} {d : Drawn} {toks : Nat} {os : OsState} {s : SharedT} (e : midT K n x life d toks os = some s) : s.abs = ⟨⟨(fillL K x n).toArray, life⟩, #[], d, toks, os⟩ := by
  unfold midT at e
  cases e1 : plant (fillL K x n) .nil 0 with
  | none => rw [e1] at e; cases e
  | some y =>
    obtain ⟨T, m⟩ := y
    rw [e1] at e
    cases e
    have ho := plant_spec life e1
    have ho : (absHeap T m life).objs = (fillL K x n).toArray := by
      rw [ho]
      show (#[] : Array Obj) ++ (fillL K x n).toArray = _
      simp
    show (⟨⟨(absHeap T m life).objs, life⟩, #[], d, toks, os⟩ : Shared) = _
    rw [ho]
/-- the old places that are not written out behind -/
noncomputable def oldOf (K : Frag) (n : Nat) : List Nat := (List.range n).filter fun a => !(K.any fun p => Nat.beq p.1 a)
/-- what is looked at behind a piece -/
noncomputable def lookT (K' : Frag) (n n' : Nat) (s' : SharedT) :=
  (s'.n, s'.toks, s'.gens.toList, (s'.life, s'.drawn, s'.os), K'.map (fun p => s'.tree.get p.1), (oldOf K' n).map s'.tree.get, ((List.range (n' - n)).all fun i => ((s'.tree.get (n + i)).bind alive).isSome))
noncomputable def goodT (K K' : Frag) (x : Nat → Obj) (n n' toks : Nat) (life : Life) (d : Drawn) (os : OsState) :=
  (n', toks, ([] : List GenState), (life, d, os), K'.map (fun p => some p.2), (oldOf K' n).map (fun a => some (pick K x a)), true)
noncomputable def sane (K : Frag) (n : Nat) : Bool := K.all fun p => Nat.blt p.1 n && (alive p.2).isSome
theorem alive_eq {o o' : Obj} (h : alive o = some o') : o' = o := by
  obtain ⟨c, d, dt, sl⟩ := o
  cases dt <;> first | (cases h; rfl) | cases h
theorem map_eq_at {α β : Type} {f g : α → β} : ∀ {l : List α} {a : α}, l.map f = l.map g → a ∈ l → f a = g a
  | b :: l, a, h, m => by
    obtain ⟨h1, h2⟩ := List.cons.inj h
    rcases List.mem_cons.mp m with rfl | m
    · exact h1
    · exact map_eq_at h2 m
theorem known_of_look {K K' : Frag} {n n' toks : Nat} {x : Nat → Obj} {life : Life} {d : Drawn} {os : OsState} {s' : SharedT} (hs : sane K' n' = true) (kn : Known K n ⟨(fillL K x n).toArray, life⟩)
    (h : lookT K' n n' s' = goodT K K' x n n' toks life d os) : Known K' n' s'.abs.heap ∧ s'.abs = ⟨⟨s'.abs.heap.objs, life⟩, #[], d, toks, os⟩ := by
  unfold lookT goodT at h
  simp only [Prod.mk.injEq] at h
  obtain ⟨h1, h2, h3, ⟨h4, h5, h6⟩, h7, h8, h9⟩ := h
  have get (a : Nat) (o : Obj) (ha : a < n') (e : s'.tree.get a = some o) : s'.abs.heap.get? a = alive o := abs_get (by rw [h1]; exact ha) e
  have all : ∀ p ∈ K', s'.abs.heap.get? p.1 = some p.2 := by
    intro p hp
    have q := List.all_eq_true.mp hs p hp
    obtain ⟨q1, q2⟩ := Bool.and_eq_true_iff.mp q
    rw [get p.1 p.2 (Nat.blt_eq.mp q1) (map_eq_at h7 hp)]
    obtain ⟨o', ho⟩ := Option.isSome_iff_exists.mp q2
    rw [ho, alive_eq ho]
  refine ⟨⟨?_, all, fun a ha => ?_⟩, ?_⟩
  · show (absHeap s'.tree s'.n s'.life).objs.size = n'
    rw [absHeap_size]; exact h1
  · by_cases hn : a < n
    · by_cases hk : (K'.any fun p => Nat.beq p.1 a) = true
      · obtain ⟨p, hp, e⟩ := List.any_eq_true.mp hk
        obtain rfl : p.1 = a := Nat.eq_of_beq_eq_true e
        exact ⟨_, all p hp⟩
      · have m : a ∈ oldOf K' n := by
          unfold oldOf
          refine List.mem_filter.mpr ⟨List.mem_range.mpr hn, ?_⟩
          cases e : K'.any fun p => Nat.beq p.1 a with
          | true => exact absurd e hk
          | false => rfl
        have e := map_eq_at h8 m
        obtain ⟨o, ho⟩ := kn.live a hn
        have := objs_of_get ho
        rw [show (Heap.mk (fillL K x n).toArray life).objs = (fillL K x n).toArray from rfl, fill_arr, if_pos hn] at this
        obtain rfl := Option.some.inj this
        refine ⟨pick K x a, (get a _ ha e).trans ?_⟩
        have z : (Heap.get? ⟨(fillL K x n).toArray, life⟩ a) = alive (pick K x a) := by
          unfold Heap.get?
          rw [show (Heap.mk (fillL K x n).toArray life).objs = (fillL K x n).toArray from rfl, fill_arr, if_pos hn]
          generalize pick K x a = o
          obtain ⟨c, d, dt, sl⟩ := o
          cases dt <;> rfl
        exact z.symm.trans ho
    · have := List.all_eq_true.mp h9 (a - n) (List.mem_range.mpr (by omega))
      rw [show n + (a - n) = a by omega] at this
      obtain ⟨o, ho⟩ := Option.isSome_iff_exists.mp this
      obtain ⟨o', e, ho⟩ := Option.bind_eq_some_iff.mp ho
      exact ⟨o, (get a o' ha e).trans ho⟩
  · obtain ⟨T, m, lf, gs, dr, tk, o⟩ := s'
    dsimp only at h2 h3 h4 h5 h6
    obtain rfl : gs = #[] := Array.toList_eq_nil_iff.mp h3
    subst h2 h4 h5 h6
    rfl
theorem top_of_go {tb : String → Option Builtin} {p : Program} {w : World} {n₀ : Nat} {ann : Option Value} : ∀ {n N : Nat} {s s' r : Shared} {t t' : Thread},
    segGo tb p w n₀ ann 0 n s t = some (s', t') → topRun tb p w n₀ ann N s' t' = some r → topRun tb p w n₀ ann (n + N) s t = some r
  | 0, N, s, s', r, t, t', h, k => by
    obtain ⟨rfl, rfl⟩ : s = s' ∧ t = t' := by simpa [segGo] using h
    rw [Nat.zero_add]; exact k
  | n + 1, N, s, s', r, t, t', h, k => by
    rw [show n + 1 + N = n + N + 1 by omega]
    unfold segGo at h
    unfold topRun
    have e : through t = (endAt 0 t).isSome := by
      obtain ⟨cur, code, pos, stack⟩ := t
      cases stack with
      | nil =>
        cases cur with
        | pure f => cases f <;> rfl
        | _ => rfl
      | cons a b =>
        have : ((a :: b).length == 0) = false := by simp
        unfold endAt through
        dsimp only
        rw [this]
        rfl
    cases he : endAt 0 t with
    | some f => rw [he] at h; cases h
    | none =>
      rw [he] at h
      rw [e, he]
      dsimp only [Option.isSome]
      cases hk : stepOk n₀ ann t with
      | false => rw [hk] at h; cases h
      | true =>
        rw [hk] at h
        dsimp only
        cases hs : step (denote tb) p w s t with
        | halt o s₂ => rw [hs] at h; cases h
        | go s₂ t₂ => rw [hs] at h; exact top_of_go h k
end Mine.Top
end Hp

section Hq
open PySem PySem.W PySem.W.X PySem.Challenge
set_option Elab.async false
set_option maxRecDepth 100000
namespace Mine.Top
noncomputable def o2a (P : Params) : Obj := { cls := .none, dict := none, data := .dict #[⟨PyData.keyHash P ⟨#[105, 109, 112, 111, 114, 116, 46, 108, 111, 97, 100, 101, 100, 46, 95, 99, 111, 108, 108, 101, 99, 116, 105, 111, 110, 115]⟩, .str ⟨#[105, 109, 112, 111, 114, 116, 46, 108, 111, 97, 100, 101, 100, 46, 95, 99, 111, 108, 108, 101, 99, 116, 105, 111, 110, 115]⟩ 185, .bool true⟩, ⟨PyData.keyHash P ⟨#[99, 108, 97, 115, 115, 46, 95, 102, 114, 111, 122, 101, 110, 95, 105, 109, 112, 111, 114, 116, 108, 105, 98, 46, 66, 117, 105, 108, 116, 105, 110, 73, 109, 112, 111, 114, 116, 101, 114]⟩, .str ⟨#[99, 108, 97, 115, 115, 46, 95, 102, 114, 111, 122, 101, 110, 95, 105, 109, 112, 111, 114, 116, 108, 105, 98, 46, 66, 117, 105, 108, 116, 105, 110, 73, 109, 112, 111, 114, 116, 101, 114]⟩ 187, .ref 15⟩, ⟨PyData.keyHash P ⟨#[119, 97, 116, 99, 104, 101, 100, 46, 105, 109, 112, 111, 114, 116]⟩, .str ⟨#[119, 97, 116, 99, 104, 101, 100, 46, 105, 109, 112, 111, 114, 116]⟩ 208, .ref 19⟩, ⟨PyData.keyHash P ⟨#[99, 108, 97, 115, 115, 46, 95, 102, 114, 111, 122, 101, 110, 95, 105, 109, 112, 111, 114, 116, 108, 105, 98, 46, 77, 111, 100, 117, 108, 101, 83, 112, 101, 99]⟩, .str ⟨#[99, 108, 97, 115, 115, 46, 95, 102, 114, 111, 122, 101, 110, 95, 105, 109, 112, 111, 114, 116, 108, 105, 98, 46, 77, 111, 100, 117, 108, 101, 83, 112, 101, 99]⟩ 218, .ref 23⟩, ⟨PyData.keyHash P ⟨#[115, 121, 115, 46, 109, 111, 100, 117, 108, 101, 115, 46, 98, 111, 111, 107, 101, 100, 45, 101, 112, 111, 99, 104]⟩, .str ⟨#[115, 121, 115, 46, 109, 111, 100, 117, 108, 101, 115, 46, 98, 111, 111, 107, 101, 100, 45, 101, 112, 111, 99, 104]⟩ 247, .int 3 0⟩, ⟨PyData.keyHash P ⟨#[115, 121, 115, 46, 109, 111, 100, 117, 108, 101, 115, 46, 108, 97, 110, 100, 101, 100, 46, 95, 99, 111, 108, 108, 101, 99, 116, 105, 111, 110, 115]⟩, .str ⟨#[115, 121, 115, 46, 109, 111, 100, 117, 108, 101, 115, 46, 108, 97, 110, 100, 101, 100, 46, 95, 99, 111, 108, 108, 101, 99, 116, 105, 111, 110, 115]⟩ 248, .bool true⟩, ⟨PyData.keyHash P ⟨#[105, 109, 112, 111, 114, 116, 46, 108, 97, 116, 101, 114, 45, 108, 97, 105, 100, 46, 95, 99, 111, 108, 108, 101, 99, 116, 105, 111, 110, 115]⟩, .str ⟨#[105, 109, 112, 111, 114, 116, 46, 108, 97, 116, 101, 114, 45, 108, 97, 105, 100, 46, 95, 99, 111, 108, 108, 101, 99, 116, 105, 111, 110, 115]⟩ 263, .bool true⟩, ⟨PyData.keyHash P ⟨#[119, 97, 116, 99, 104, 101, 100, 46, 108, 105, 98, 114, 97, 114, 121]⟩, .str ⟨#[119, 97, 116, 99, 104, 101, 100, 46, 108, 105, 98, 114, 97, 114, 121]⟩ 265, .ref 28⟩, ⟨PyData.keyHash P ⟨#[119, 97, 116, 99, 104, 101, 100, 46, 108, 105, 98, 114, 97, 114, 121, 45, 111, 98, 106, 101, 99, 116, 115]⟩, .str ⟨#[119, 97, 116, 99, 104, 101, 100, 46, 108, 105, 98, 114, 97, 114, 121, 45, 111, 98, 106, 101, 99, 116, 115]⟩ 0, .str ⟨#[13]⟩ 0⟩, ⟨PyData.keyHash P ⟨#[119, 97, 116, 99, 104, 101, 100, 46, 108, 105, 98, 114, 97, 114, 121, 45, 100, 101, 101, 112, 46, 95, 99, 111, 108, 108, 101, 99, 116, 105, 111, 110, 115]⟩, .str ⟨#[119, 97, 116, 99, 104, 101, 100, 46, 108, 105, 98, 114, 97, 114, 121, 45, 100, 101, 101, 112, 46, 95, 99, 111, 108, 108, 101, 99, 116, 105, 111, 110, 115]⟩ 266, .str ⟨#[4, 0, 0, 12, 4, 0, 0, 12, 4, 0, 0, 3, 4, 0, 0, 12, 8, 4, 100, 105, 99, 116, 2]⟩ 0⟩] 10, slots := #[] }
noncomputable def o3a (P : Params) : Obj := { cls := .type "dict", dict := none, data := .dict #[⟨PyData.keyHash P ⟨#[95, 95, 110, 97, 109, 101, 95, 95]⟩, .str ⟨#[95, 95, 110, 97, 109, 101, 95, 95]⟩ 165, .str ⟨#[95, 95, 109, 97, 105, 110, 95, 95]⟩ 164⟩, ⟨PyData.keyHash P ⟨#[95, 95, 100, 111, 99, 95, 95]⟩, .str ⟨#[95, 95, 100, 111, 99, 95, 95]⟩ 166, .none⟩, ⟨PyData.keyHash P ⟨#[95, 95, 112, 97, 99, 107, 97, 103, 101, 95, 95]⟩, .str ⟨#[95, 95, 112, 97, 99, 107, 97, 103, 101, 95, 95]⟩ 167, .none⟩, ⟨PyData.keyHash P ⟨#[95, 95, 108, 111, 97, 100, 101, 114, 95, 95]⟩, .str ⟨#[95, 95, 108, 111, 97, 100, 101, 114, 95, 95]⟩ 168, .builtin "__main__.__loader__#opaque"⟩, ⟨PyData.keyHash P ⟨#[95, 95, 115, 112, 101, 99, 95, 95]⟩, .str ⟨#[95, 95, 115, 112, 101, 99, 95, 95]⟩ 169, .none⟩, ⟨PyData.keyHash P ⟨#[95, 95, 97, 110, 110, 111, 116, 97, 116, 105, 111, 110, 115, 95, 95]⟩, .str ⟨#[95, 95, 97, 110, 110, 111, 116, 97, 116, 105, 111, 110, 115, 95, 95]⟩ 170, .ref 6⟩, ⟨PyData.keyHash P ⟨#[95, 95, 98, 117, 105, 108, 116, 105, 110, 115, 95, 95]⟩, .str ⟨#[95, 95, 98, 117, 105, 108, 116, 105, 110, 115, 95, 95]⟩ 171, .ref 4⟩, ⟨PyData.keyHash P ⟨#[95, 95, 102, 105, 108, 101, 95, 95]⟩, .str ⟨#[95, 95, 102, 105, 108, 101, 95, 95]⟩ 173, .str ⟨#[47, 99, 108, 97, 105, 109, 47, 99, 117, 116, 46, 112, 121]⟩ 172⟩, ⟨PyData.keyHash P ⟨#[95, 95, 99, 97, 99, 104, 101, 100, 95, 95]⟩, .str ⟨#[95, 95, 99, 97, 99, 104, 101, 100, 95, 95]⟩ 174, .none⟩, ⟨PyData.keyHash P ⟨#[100, 101, 113, 117, 101]⟩, .str ⟨#[100, 101, 113, 117, 101]⟩ 272, .type "collections.deque"⟩] 10, slots := #[] }
noncomputable def o4a (P : Params) : Obj := { cls := .type "module", dict := (some (0)), data := .plain, slots := #[] }
noncomputable def knowa (P : Params) : Frag := [(0, o0 P), (2, o2a P), (3, o3a P), (4, o4a P)]
noncomputable def o30b (P : Params) : Obj := { cls := .none, dict := none, data := .fields #[], slots := #[] }
noncomputable def o31b (P : Params) : Obj := { cls := .type "code", dict := none, data := .fields #[.str ⟨#[60, 109, 111, 100, 117, 108, 101, 62]⟩ 274, .str ⟨#[60, 109, 111, 100, 117, 108, 101, 62]⟩ 275, .str ⟨#[47, 99, 108, 97, 105, 109, 47, 99, 117, 116, 46, 112, 121]⟩ 276, .int 1 0, .int 0 0, .int 0 0, .int 0 0, .int 0 0, .ref 29, .bool false, .int 273 0, .ref 30, .none, .none, .none, .none, .int 277 0, .int 1 0, .str ⟨#[47, 99, 108, 97, 105, 109, 47, 99, 117, 116, 46, 112, 121]⟩ 278], slots := #[] }
noncomputable def o32b (P : Params) : Obj := { cls := .type "frame", dict := none, data := .plain, slots := #[(some (.ref 31)), (some (.ref 3)), (some (.ref 3)), none, (some (.str ⟨#[95, 95, 109, 97, 105, 110, 95, 95]⟩ 164)), none, (some (.ref 0))] }
noncomputable def knowb (P : Params) : Frag := [(0, o0 P), (2, o2a P), (3, o3a P), (4, o4a P), (30, o30b P), (31, o31b P), (32, o32b P)]
noncomputable def o3c (P : Params) : Obj := { cls := .type "dict", dict := none, data := .dict #[⟨PyData.keyHash P ⟨#[95, 95, 110, 97, 109, 101, 95, 95]⟩, .str ⟨#[95, 95, 110, 97, 109, 101, 95, 95]⟩ 165, .str ⟨#[105, 111]⟩ 286⟩, ⟨PyData.keyHash P ⟨#[95, 95, 100, 111, 99, 95, 95]⟩, .str ⟨#[95, 95, 100, 111, 99, 95, 95]⟩ 166, .none⟩, ⟨PyData.keyHash P ⟨#[95, 95, 112, 97, 99, 107, 97, 103, 101, 95, 95]⟩, .str ⟨#[95, 95, 112, 97, 99, 107, 97, 103, 101, 95, 95]⟩ 167, .none⟩, ⟨PyData.keyHash P ⟨#[95, 95, 108, 111, 97, 100, 101, 114, 95, 95]⟩, .str ⟨#[95, 95, 108, 111, 97, 100, 101, 114, 95, 95]⟩ 168, .builtin "__main__.__loader__#opaque"⟩, ⟨PyData.keyHash P ⟨#[95, 95, 115, 112, 101, 99, 95, 95]⟩, .str ⟨#[95, 95, 115, 112, 101, 99, 95, 95]⟩ 169, .none⟩, ⟨PyData.keyHash P ⟨#[95, 95, 97, 110, 110, 111, 116, 97, 116, 105, 111, 110, 115, 95, 95]⟩, .str ⟨#[95, 95, 97, 110, 110, 111, 116, 97, 116, 105, 111, 110, 115, 95, 95]⟩ 170, .ref 6⟩, ⟨PyData.keyHash P ⟨#[95, 95, 98, 117, 105, 108, 116, 105, 110, 115, 95, 95]⟩, .str ⟨#[95, 95, 98, 117, 105, 108, 116, 105, 110, 115, 95, 95]⟩ 171, .ref 4⟩, ⟨PyData.keyHash P ⟨#[95, 95, 102, 105, 108, 101, 95, 95]⟩, .str ⟨#[95, 95, 102, 105, 108, 101, 95, 95]⟩ 173, .str ⟨#[47, 99, 108, 97, 105, 109, 47, 99, 117, 116, 46, 112, 121]⟩ 172⟩, ⟨PyData.keyHash P ⟨#[95, 95, 99, 97, 99, 104, 101, 100, 95, 95]⟩, .str ⟨#[95, 95, 99, 97, 99, 104, 101, 100, 95, 95]⟩ 174, .none⟩, ⟨PyData.keyHash P ⟨#[100, 101, 113, 117, 101]⟩, .str ⟨#[100, 101, 113, 117, 101]⟩ 272, .type "collections.deque"⟩, ⟨PyData.keyHash P ⟨#[95, 119, 97, 108, 108]⟩, .str ⟨#[95, 119, 97, 108, 108]⟩ 285, .ref 39⟩, ⟨PyData.keyHash P ⟨#[95, 119, 104, 101, 110, 99, 101]⟩, .str ⟨#[95, 119, 104, 101, 110, 99, 101]⟩ 295, .ref 46⟩, ⟨PyData.keyHash P ⟨#[95, 105, 110, 100, 101, 120]⟩, .str ⟨#[95, 105, 110, 100, 101, 120]⟩ 303, .ref 53⟩, ⟨PyData.keyHash P ⟨#[85, 110, 115, 117, 112, 112, 111, 114, 116, 101, 100, 79, 112, 101, 114, 97, 116, 105, 111, 110]⟩, .str ⟨#[85, 110, 115, 117, 112, 112, 111, 114, 116, 101, 100, 79, 112, 101, 114, 97, 116, 105, 111, 110]⟩ 325, .ref 63⟩, ⟨PyData.keyHash P ⟨#[73, 79, 66, 97, 115, 101]⟩, .str ⟨#[73, 79, 66, 97, 115, 101]⟩ 357, .ref 83⟩, ⟨PyData.keyHash P ⟨#[66, 117, 102, 102, 101, 114, 101, 100, 73, 79, 66, 97, 115, 101]⟩, .str ⟨#[66, 117, 102, 102, 101, 114, 101, 100, 73, 79, 66, 97, 115, 101]⟩ 375, .ref 98⟩, ⟨PyData.keyHash P ⟨#[84, 101, 120, 116, 73, 79, 66, 97, 115, 101]⟩, .str ⟨#[84, 101, 120, 116, 73, 79, 66, 97, 115, 101]⟩ 393, .ref 110⟩] 17, slots := #[] }
noncomputable def o30c (P : Params) : Obj := { cls := .none, dict := none, data := .fields #[.int 2 0, .int 0 0, .ref 38, .int 6 0, .int 0 0, .ref 45, .int 11 0, .int 0 0, .ref 52, .int 18 0, .int 0 0, .ref 59, .int 20 0, .int 0 0, .ref 72, .int 27 0, .int 0 0, .ref 94, .int 29 0, .int 0 0, .ref 106], slots := #[] }
noncomputable def o97c (P : Params) : Obj := { cls := .type "dict", dict := none, data := .dict #[⟨PyData.keyHash P ⟨#[95, 95, 109, 111, 100, 117, 108, 101, 95, 95]⟩, .str ⟨#[95, 95, 109, 111, 100, 117, 108, 101, 95, 95]⟩ 365, .str ⟨#[105, 111]⟩ 370⟩, ⟨PyData.keyHash P ⟨#[95, 95, 102, 105, 114, 115, 116, 108, 105, 110, 101, 110, 111, 95, 95]⟩, .str ⟨#[95, 95, 102, 105, 114, 115, 116, 108, 105, 110, 101, 110, 111, 95, 95]⟩ 369, .int 27 368⟩, ⟨PyData.keyHash P ⟨#[95, 95, 115, 116, 97, 116, 105, 99, 95, 97, 116, 116, 114, 105, 98, 117, 116, 101, 115, 95, 95]⟩, .str ⟨#[95, 95, 115, 116, 97, 116, 105, 99, 95, 97, 116, 116, 114, 105, 98, 117, 116, 101, 115, 95, 95]⟩ 372, .ref 96⟩, ⟨PyData.keyHash P ⟨#[95, 95, 100, 111, 99, 95, 95]⟩, .str ⟨#[95, 95, 100, 111, 99, 95, 95]⟩ 373, .none⟩] 2, slots := #[] }
noncomputable def o98c (P : Params) : Obj := { cls := .type "type", dict := none, data := .cls { name := ⟨#[66, 117, 102, 102, 101, 114, 101, 100, 73, 79, 66, 97, 115, 101]⟩, bases := [.ref 83], mro := [.ref 98, .ref 83, .type "object"], ns := 97, qualname := ⟨#[66, 117, 102, 102, 101, 114, 101, 100, 73, 79, 66, 97, 115, 101]⟩, hasDict := true, slotNames := [], subclasses := [], abstract := false, collection := none, hasDel := false }, slots := #[(some (.ref 89)), none, (some (.str ⟨#[66, 117, 102, 102, 101, 114, 101, 100, 73, 79, 66, 97, 115, 101]⟩ 358)), (some (.str ⟨#[66, 117, 102, 102, 101, 114, 101, 100, 73, 79, 66, 97, 115, 101]⟩ 366)), (some (.none)), (some (.bool true))] }
noncomputable def o110c (P : Params) : Obj := { cls := .type "type", dict := none, data := .cls { name := ⟨#[84, 101, 120, 116, 73, 79, 66, 97, 115, 101]⟩, bases := [.ref 83], mro := [.ref 110, .ref 83, .type "object"], ns := 109, qualname := ⟨#[84, 101, 120, 116, 73, 79, 66, 97, 115, 101]⟩, hasDict := true, slotNames := [], subclasses := [], abstract := false, collection := none, hasDel := false }, slots := #[(some (.ref 101)), none, (some (.str ⟨#[84, 101, 120, 116, 73, 79, 66, 97, 115, 101]⟩ 376)), (some (.str ⟨#[84, 101, 120, 116, 73, 79, 66, 97, 115, 101]⟩ 384)), (some (.none)), (some (.bool true))] }
noncomputable def knowc (P : Params) : Frag := [(0, o0 P), (2, o2 P), (3, o3c P), (4, o4a P), (30, o30c P), (31, o31b P), (32, o32b P), (52, o52 P), (53, o53 P), (79, o79 P), (80, o80 P), (82, o82 P), (83, o83 P), (84, o84 P), (97, o97c P), (98, o98c P), (109, o109 P), (110, o110c P)]
noncomputable def o3d (P : Params) : Obj := { cls := .type "dict", dict := none, data := .dict #[⟨PyData.keyHash P ⟨#[95, 95, 110, 97, 109, 101, 95, 95]⟩, .str ⟨#[95, 95, 110, 97, 109, 101, 95, 95]⟩ 165, .str ⟨#[105, 111]⟩ 286⟩, ⟨PyData.keyHash P ⟨#[95, 95, 100, 111, 99, 95, 95]⟩, .str ⟨#[95, 95, 100, 111, 99, 95, 95]⟩ 166, .none⟩, ⟨PyData.keyHash P ⟨#[95, 95, 112, 97, 99, 107, 97, 103, 101, 95, 95]⟩, .str ⟨#[95, 95, 112, 97, 99, 107, 97, 103, 101, 95, 95]⟩ 167, .none⟩, ⟨PyData.keyHash P ⟨#[95, 95, 108, 111, 97, 100, 101, 114, 95, 95]⟩, .str ⟨#[95, 95, 108, 111, 97, 100, 101, 114, 95, 95]⟩ 168, .builtin "__main__.__loader__#opaque"⟩, ⟨PyData.keyHash P ⟨#[95, 95, 115, 112, 101, 99, 95, 95]⟩, .str ⟨#[95, 95, 115, 112, 101, 99, 95, 95]⟩ 169, .none⟩, ⟨PyData.keyHash P ⟨#[95, 95, 97, 110, 110, 111, 116, 97, 116, 105, 111, 110, 115, 95, 95]⟩, .str ⟨#[95, 95, 97, 110, 110, 111, 116, 97, 116, 105, 111, 110, 115, 95, 95]⟩ 170, .ref 6⟩, ⟨PyData.keyHash P ⟨#[95, 95, 98, 117, 105, 108, 116, 105, 110, 115, 95, 95]⟩, .str ⟨#[95, 95, 98, 117, 105, 108, 116, 105, 110, 115, 95, 95]⟩ 171, .ref 4⟩, ⟨PyData.keyHash P ⟨#[95, 95, 102, 105, 108, 101, 95, 95]⟩, .str ⟨#[95, 95, 102, 105, 108, 101, 95, 95]⟩ 173, .str ⟨#[47, 99, 108, 97, 105, 109, 47, 99, 117, 116, 46, 112, 121]⟩ 172⟩, ⟨PyData.keyHash P ⟨#[95, 95, 99, 97, 99, 104, 101, 100, 95, 95]⟩, .str ⟨#[95, 95, 99, 97, 99, 104, 101, 100, 95, 95]⟩ 174, .none⟩, ⟨PyData.keyHash P ⟨#[100, 101, 113, 117, 101]⟩, .str ⟨#[100, 101, 113, 117, 101]⟩ 272, .type "collections.deque"⟩, ⟨PyData.keyHash P ⟨#[95, 119, 97, 108, 108]⟩, .str ⟨#[95, 119, 97, 108, 108]⟩ 285, .ref 39⟩, ⟨PyData.keyHash P ⟨#[95, 119, 104, 101, 110, 99, 101]⟩, .str ⟨#[95, 119, 104, 101, 110, 99, 101]⟩ 295, .ref 46⟩, ⟨PyData.keyHash P ⟨#[95, 105, 110, 100, 101, 120]⟩, .str ⟨#[95, 105, 110, 100, 101, 120]⟩ 303, .ref 53⟩, ⟨PyData.keyHash P ⟨#[85, 110, 115, 117, 112, 112, 111, 114, 116, 101, 100, 79, 112, 101, 114, 97, 116, 105, 111, 110]⟩, .str ⟨#[85, 110, 115, 117, 112, 112, 111, 114, 116, 101, 100, 79, 112, 101, 114, 97, 116, 105, 111, 110]⟩ 325, .ref 63⟩, ⟨PyData.keyHash P ⟨#[73, 79, 66, 97, 115, 101]⟩, .str ⟨#[73, 79, 66, 97, 115, 101]⟩ 357, .ref 83⟩, ⟨PyData.keyHash P ⟨#[66, 117, 102, 102, 101, 114, 101, 100, 73, 79, 66, 97, 115, 101]⟩, .str ⟨#[66, 117, 102, 102, 101, 114, 101, 100, 73, 79, 66, 97, 115, 101]⟩ 375, .ref 98⟩, ⟨PyData.keyHash P ⟨#[84, 101, 120, 116, 73, 79, 66, 97, 115, 101]⟩, .str ⟨#[84, 101, 120, 116, 73, 79, 66, 97, 115, 101]⟩ 393, .ref 110⟩, ⟨PyData.keyHash P ⟨#[66, 121, 116, 101, 115, 73, 79]⟩, .str ⟨#[66, 121, 116, 101, 115, 73, 79]⟩ 655, .ref 340⟩] 18, slots := #[] }
noncomputable def o30d (P : Params) : Obj := { cls := .none, dict := none, data := .fields #[.int 2 0, .int 0 0, .ref 38, .int 6 0, .int 0 0, .ref 45, .int 11 0, .int 0 0, .ref 52, .int 18 0, .int 0 0, .ref 59, .int 20 0, .int 0 0, .ref 72, .int 27 0, .int 0 0, .ref 94, .int 29 0, .int 0 0, .ref 106, .int 31 0, .int 0 0, .ref 118], slots := #[] }
noncomputable def o98d (P : Params) : Obj := { cls := .type "type", dict := none, data := .cls { name := ⟨#[66, 117, 102, 102, 101, 114, 101, 100, 73, 79, 66, 97, 115, 101]⟩, bases := [.ref 83], mro := [.ref 98, .ref 83, .type "object"], ns := 97, qualname := ⟨#[66, 117, 102, 102, 101, 114, 101, 100, 73, 79, 66, 97, 115, 101]⟩, hasDict := true, slotNames := [], subclasses := [.ref 340], abstract := false, collection := none, hasDel := false }, slots := #[(some (.ref 89)), none, (some (.str ⟨#[66, 117, 102, 102, 101, 114, 101, 100, 73, 79, 66, 97, 115, 101]⟩ 358)), (some (.str ⟨#[66, 117, 102, 102, 101, 114, 101, 100, 73, 79, 66, 97, 115, 101]⟩ 366)), (some (.none)), (some (.bool true))] }
noncomputable def knowd (P : Params) : Frag := [(0, o0 P), (2, o2 P), (3, o3d P), (4, o4a P), (30, o30d P), (31, o31b P), (32, o32b P), (52, o52 P), (53, o53 P), (79, o79 P), (80, o80 P), (82, o82 P), (83, o83 P), (84, o84 P), (97, o97c P), (98, o98d P), (109, o109 P), (110, o110c P), (340, o340 P)]
noncomputable def o3e (P : Params) : Obj := { cls := .type "dict", dict := none, data := .dict #[⟨PyData.keyHash P ⟨#[95, 95, 110, 97, 109, 101, 95, 95]⟩, .str ⟨#[95, 95, 110, 97, 109, 101, 95, 95]⟩ 165, .str ⟨#[105, 111]⟩ 286⟩, ⟨PyData.keyHash P ⟨#[95, 95, 100, 111, 99, 95, 95]⟩, .str ⟨#[95, 95, 100, 111, 99, 95, 95]⟩ 166, .none⟩, ⟨PyData.keyHash P ⟨#[95, 95, 112, 97, 99, 107, 97, 103, 101, 95, 95]⟩, .str ⟨#[95, 95, 112, 97, 99, 107, 97, 103, 101, 95, 95]⟩ 167, .none⟩, ⟨PyData.keyHash P ⟨#[95, 95, 108, 111, 97, 100, 101, 114, 95, 95]⟩, .str ⟨#[95, 95, 108, 111, 97, 100, 101, 114, 95, 95]⟩ 168, .builtin "__main__.__loader__#opaque"⟩, ⟨PyData.keyHash P ⟨#[95, 95, 115, 112, 101, 99, 95, 95]⟩, .str ⟨#[95, 95, 115, 112, 101, 99, 95, 95]⟩ 169, .none⟩, ⟨PyData.keyHash P ⟨#[95, 95, 97, 110, 110, 111, 116, 97, 116, 105, 111, 110, 115, 95, 95]⟩, .str ⟨#[95, 95, 97, 110, 110, 111, 116, 97, 116, 105, 111, 110, 115, 95, 95]⟩ 170, .ref 6⟩, ⟨PyData.keyHash P ⟨#[95, 95, 98, 117, 105, 108, 116, 105, 110, 115, 95, 95]⟩, .str ⟨#[95, 95, 98, 117, 105, 108, 116, 105, 110, 115, 95, 95]⟩ 171, .ref 4⟩, ⟨PyData.keyHash P ⟨#[95, 95, 102, 105, 108, 101, 95, 95]⟩, .str ⟨#[95, 95, 102, 105, 108, 101, 95, 95]⟩ 173, .str ⟨#[47, 99, 108, 97, 105, 109, 47, 99, 117, 116, 46, 112, 121]⟩ 172⟩, ⟨PyData.keyHash P ⟨#[95, 95, 99, 97, 99, 104, 101, 100, 95, 95]⟩, .str ⟨#[95, 95, 99, 97, 99, 104, 101, 100, 95, 95]⟩ 174, .none⟩, ⟨PyData.keyHash P ⟨#[100, 101, 113, 117, 101]⟩, .str ⟨#[100, 101, 113, 117, 101]⟩ 272, .type "collections.deque"⟩, ⟨PyData.keyHash P ⟨#[95, 119, 97, 108, 108]⟩, .str ⟨#[95, 119, 97, 108, 108]⟩ 285, .ref 39⟩, ⟨PyData.keyHash P ⟨#[95, 119, 104, 101, 110, 99, 101]⟩, .str ⟨#[95, 119, 104, 101, 110, 99, 101]⟩ 295, .ref 46⟩, ⟨PyData.keyHash P ⟨#[95, 105, 110, 100, 101, 120]⟩, .str ⟨#[95, 105, 110, 100, 101, 120]⟩ 303, .ref 53⟩, ⟨PyData.keyHash P ⟨#[85, 110, 115, 117, 112, 112, 111, 114, 116, 101, 100, 79, 112, 101, 114, 97, 116, 105, 111, 110]⟩, .str ⟨#[85, 110, 115, 117, 112, 112, 111, 114, 116, 101, 100, 79, 112, 101, 114, 97, 116, 105, 111, 110]⟩ 325, .ref 63⟩, ⟨PyData.keyHash P ⟨#[73, 79, 66, 97, 115, 101]⟩, .str ⟨#[73, 79, 66, 97, 115, 101]⟩ 357, .ref 83⟩, ⟨PyData.keyHash P ⟨#[66, 117, 102, 102, 101, 114, 101, 100, 73, 79, 66, 97, 115, 101]⟩, .str ⟨#[66, 117, 102, 102, 101, 114, 101, 100, 73, 79, 66, 97, 115, 101]⟩ 375, .ref 98⟩, ⟨PyData.keyHash P ⟨#[84, 101, 120, 116, 73, 79, 66, 97, 115, 101]⟩, .str ⟨#[84, 101, 120, 116, 73, 79, 66, 97, 115, 101]⟩ 393, .ref 110⟩, ⟨PyData.keyHash P ⟨#[66, 121, 116, 101, 115, 73, 79]⟩, .str ⟨#[66, 121, 116, 101, 115, 73, 79]⟩ 655, .ref 340⟩, ⟨PyData.keyHash P ⟨#[83, 116, 114, 105, 110, 103, 73, 79]⟩, .str ⟨#[83, 116, 114, 105, 110, 103, 73, 79]⟩ 942, .ref 587⟩] 19, slots := #[] }
noncomputable def o30e (P : Params) : Obj := { cls := .none, dict := none, data := .fields #[.int 2 0, .int 0 0, .ref 38, .int 6 0, .int 0 0, .ref 45, .int 11 0, .int 0 0, .ref 52, .int 18 0, .int 0 0, .ref 59, .int 20 0, .int 0 0, .ref 72, .int 27 0, .int 0 0, .ref 94, .int 29 0, .int 0 0, .ref 106, .int 31 0, .int 0 0, .ref 118, .int 201 0, .int 0 0, .ref 348], slots := #[] }
noncomputable def knowe (P : Params) : Frag := [(0, o0 P), (2, o2 P), (3, o3e P), (4, o4a P), (30, o30e P), (31, o31b P), (32, o32b P), (52, o52 P), (53, o53 P), (79, o79 P), (80, o80 P), (82, o82 P), (83, o83 P), (84, o84 P), (97, o97c P), (98, o98d P), (109, o109 P), (110, o110 P), (340, o340 P), (350, o350 P), (356, o356 P), (357, o357 P), (363, o363 P), (364, o364 P), (370, o370 P), (371, o371 P), (526, o526 P), (532, o532 P), (533, o533 P), (586, o586 P), (587, o587 P)]
noncomputable def o30f (P : Params) : Obj := { cls := .none, dict := none, data := .fields #[.int 2 0, .int 0 0, .ref 38, .int 6 0, .int 0 0, .ref 45, .int 11 0, .int 0 0, .ref 52, .int 18 0, .int 0 0, .ref 59, .int 20 0, .int 0 0, .ref 72, .int 27 0, .int 0 0, .ref 94, .int 29 0, .int 0 0, .ref 106, .int 31 0, .int 0 0, .ref 118, .int 201 0, .int 0 0, .ref 348, .int 407 0, .int 0 0, .ref 595, .int 428 0, .int 0 0, .ref 602, .int 433 0, .int 0 0, .ref 609, .int 438 0, .int 0 0, .ref 616, .int 441 0, .int 0 0, .ref 623, .int 461 0, .int 0 0, .ref 630, .int 470 0, .int 0 0, .ref 637, .int 722 0, .int 0 0, .ref 733, .int 732 0, .int 0 0, .ref 740, .int 745 0, .int 0 0, .ref 747, .int 749 0, .int 0 0, .ref 754, .int 753 0, .int 0 0, .ref 761, .int 770 0, .int 0 0, .ref 766, .int 781 0, .int 0 0, .ref 773], slots := #[] }
noncomputable def knowf (P : Params) : Frag := [(0, o0 P), (2, o2 P), (3, o3 P), (4, o4a P), (30, o30f P), (31, o31b P), (32, o32b P), (52, o52 P), (53, o53 P), (79, o79 P), (80, o80 P), (82, o82 P), (83, o83 P), (84, o84 P), (97, o97c P), (98, o98d P), (109, o109 P), (110, o110 P), (340, o340 P), (350, o350 P), (356, o356 P), (357, o357 P), (363, o363 P), (364, o364 P), (370, o370 P), (371, o371 P), (526, o526 P), (532, o532 P), (533, o533 P), (586, o586 P), (587, o587 P), (639, o639 P), (645, o645 P), (646, o646 P), (652, o652 P), (653, o653 P), (654, o654 P), (682, o682 P), (683, o683 P), (689, o689 P), (690, o690 P), (711, o711 P), (712, o712 P), (718, o718 P), (719, o719 P), (721, o721 P), (722, o722 P), (727, o727 P), (733, o733 P), (734, o734 P), (740, o740 P), (741, o741 P), (747, o747 P), (748, o748 P), (754, o754 P), (755, o755 P), (761, o761 P), (762, o762 P), (766, o766 P), (767, o767 P), (773, o773 P), (774, o774 P)]
end Mine.Top
end Hq

section Hr
open PySem PySem.Calls PySem.W PySem.W.X PyProof.Rows PySem.Challenge
set_option Elab.async false
set_option maxRecDepth 100000
set_option maxHeartbeats 0
namespace Mine.Top
noncomputable abbrev execsQ := PySem.W.Fast.tw12563942051412417395
noncomputable abbrev segGoQ := PySem.W.Fast.tw10295753902157049106
noncomputable def bodyB : List Stmt := behindTheImports pw
noncomputable def envB : Env := { scope := pw.main.scope, locals := mainNs, globals := mainNs, cells := [], code := .ref 31, frame := some 32 }
noncomputable def codeB : Code := .body bodyB envB
noncomputable def pos0 : Pos := { line := 0, col := 0, endLine := 0, endCol := 0 }
noncomputable def pos1 : Pos := { line := 29, col := 0, endLine := 30, endCol := 21 }
noncomputable def pos2 : Pos := { line := 31, col := 0, endLine := 200, endCol := 17 }
noncomputable def pos3 : Pos := { line := 201, col := 0, endLine := 405, endCol := 17 }
noncomputable def pos4 : Pos := { line := 781, col := 0, endLine := 801, endCol := 59 }
noncomputable def lA : List Stmt := bodyB.take 8
noncomputable def lB : List Stmt := (bodyB.drop 8).take 1
noncomputable def lC : List Stmt := (bodyB.drop 9).take 1
noncomputable def lD : List Stmt := bodyB.drop 10
noncomputable def threadQ : Thread := ⟨dz codeB, codeB, pos0, [topFrame pos0]⟩
noncomputable def pieceQ (l : List Stmt) (p : Pos) : Thread := ⟨(execsQ l envB).wrap doneF deadEnd id id, codeB, p, [topFrame pos0]⟩
/-- a piece of the top, with what is looked at behind it -/
noncomputable def runP (W : World) (K K' : Frag) (n n' toks N : Nat) (l : List Stmt) (p : Pos) (x : Nat → Obj) (life : Life) (d : Drawn) (os : OsState) :=
  (midT K n x life d toks os).map fun s => (segQ tz pw W 29 (some (.ref 6)) 1 N s (pieceQ l p)).map fun r => ((r.1, r.2.2), lookT K' n n' r.2.1)
noncomputable def runA (W : World) (x : Nat → Obj) (life : Life) (d : Drawn) (os : OsState) :=
  (midT (knowa W.params) 29 x life d 273 os).map fun s => (segGoQ tz pw W 29 (some (.ref 6)) 0 12 s (stubQ pw)).map fun r => (r.2, lookT (knowb W.params) 29 33 r.1)
noncomputable def seenF (P : Params) (s₀ : Shared) :=
  (s₀.heap.objs.size, s₀.toks, s₀.gens.toList, (knowa P).map (fun p => s₀.heap.get? p.1), (List.range 29).all fun a => (s₀.heap.get? a).isSome)
noncomputable def goodF (P : Params) := (29, 273, ([] : List GenState), (knowa P).map (fun p => some p.2), true)
theorem fenceF (w : World) (b2 : Bool) : (fenT (wf w false b2)).map (seenF (wf w false b2).params) = some (goodF (wf w false b2).params) := by kernel_rfl
theorem fenceT (w : World) (b2 : Bool) : (fenT (wf w true b2)).map (seenF (wf w true b2).params) = some (goodF (wf w true b2).params) := by kernel_rfl
section
variable (w : World) (b2 : Bool) (x : Nat → Obj) (life : Life) (d : Drawn) (os : OsState)
theorem stubF : runA (wf w false b2) x life d os = some (some (threadQ, goodT (knowa (wf w false b2).params) (knowb (wf w false b2).params) x 29 33 279 life d os)) := by kernel_rfl
theorem stubT : runA (wf w true b2) x life d os = some (some (threadQ, goodT (knowa (wf w true b2).params) (knowb (wf w true b2).params) x 29 33 279 life d os)) := by kernel_rfl
end
end Mine.Top
end Hr

section Hs
open PySem PySem.Calls PySem.W PySem.W.X PyProof.Rows PySem.Challenge
set_option Elab.async false
set_option maxRecDepth 100000
set_option maxHeartbeats 0
namespace Mine.Top
variable (w : World) (b2 : Bool) (x : Nat → Obj) (life : Life) (d : Drawn) (os : OsState)
noncomputable def fineP (P : Params) (K K' : Params → Frag) (n n' toks : Nat) (p : Pos) :=
  some (some ((Flow.next, codeB, p), goodT (K P) (K' P) x n n' toks life d os))
theorem pieceAF : runP (wf w false b2) (knowb (wf w false b2).params) (knowc (wf w false b2).params) 33 113 279 1200 lA pos0 x life d os = fineP x life d os (wf w false b2).params knowb knowc 33 113 394 pos1 := by kernel_rfl
theorem pieceAT : runP (wf w true b2) (knowb (wf w true b2).params) (knowc (wf w true b2).params) 33 113 279 1200 lA pos0 x life d os = fineP x life d os (wf w true b2).params knowb knowc 33 113 394 pos1 := by kernel_rfl
theorem pieceBF : runP (wf w false b2) (knowc (wf w false b2).params) (knowd (wf w false b2).params) 113 343 394 1400 lB pos1 x life d os = fineP x life d os (wf w false b2).params knowc knowd 113 343 656 pos2 := by kernel_rfl
theorem pieceBT : runP (wf w true b2) (knowc (wf w true b2).params) (knowd (wf w true b2).params) 113 343 394 1400 lB pos1 x life d os = fineP x life d os (wf w true b2).params knowc knowd 113 343 656 pos2 := by kernel_rfl
theorem pieceCF : runP (wf w false b2) (knowd (wf w false b2).params) (knowe (wf w false b2).params) 343 590 656 1700 lC pos2 x life d os = fineP x life d os (wf w false b2).params knowd knowe 343 590 943 pos3 := by kernel_rfl
theorem pieceCT : runP (wf w true b2) (knowd (wf w true b2).params) (knowe (wf w true b2).params) 343 590 656 1700 lC pos2 x life d os = fineP x life d os (wf w true b2).params knowd knowe 343 590 943 pos3 := by kernel_rfl
theorem pieceDF : runP (wf w false b2) (knowe (wf w false b2).params) (knowf (wf w false b2).params) 590 775 943 1300 lD pos3 x life d os = fineP x life d os (wf w false b2).params knowe knowf 590 775 1224 pos4 := by kernel_rfl
theorem pieceDT : runP (wf w true b2) (knowe (wf w true b2).params) (knowf (wf w true b2).params) 590 775 943 1300 lD pos3 x life d os = fineP x life d os (wf w true b2).params knowe knowf 590 775 1224 pos4 := by kernel_rfl
end Mine.Top
end Hs

section Ht
open PySem PySem.Calls PySem.W PySem.W.X PyProof.Rows PySem.Challenge
set_option Elab.async false
set_option maxRecDepth 100000
namespace Mine.Top
/-- where the top stands at a cut -/
structure At (K : Frag) (n toks : Nat) (s : Shared) : Prop where
  known : Known K n s.heap
  gens : s.gens = #[]
  toks : s.toks = toks
theorem pieceQ_eq (l : List Stmt) (p : Pos) : pieceQ l p = piecesOf l envB codeB p [topFrame pos0] := by
  unfold pieceQ execsQ
  rw [← PySem.W.Fast.te12563942051412417395]
theorem threadQ_eq : threadQ = ⟨denote table codeB, codeB, pos0, [topFrame pos0]⟩ := by
  unfold threadQ dz
  rw [← PySem.W.Fast.te14364793385576792824, ← PySem.W.Fast.te11892475500146522536, table_eq_tree]
theorem mid_at {K : Frag} {n toks : Nat} {x : Nat → Obj} {s : Shared} {m : SharedT} (a : At K n toks s) (hx : s.heap.objs = (fillL K x n).toArray) (e : midT K n x s.heap.life s.drawn toks s.os = some m) : m.abs = s := by
  rw [midT_abs e, ← hx, ← a.toks, ← a.gens]
theorem At.know {K : Frag} {n toks : Nat} {x : Nat → Obj} {s : Shared} (a : At K n toks s) (hx : s.heap.objs = (fillL K x n).toArray) : Known K n ⟨(fillL K x n).toArray, s.heap.life⟩ := by
  rw [← hx]
  exact a.known
theorem at_of {K : Frag} {n toks : Nat} {s : SharedT} {life : Life} {d : Drawn} {os : OsState} (h : Known K n s.abs.heap ∧ s.abs = ⟨⟨s.abs.heap.objs, life⟩, #[], d, toks, os⟩) : At K n toks s.abs :=
  ⟨h.1, congrArg Shared.gens h.2, congrArg Shared.toks h.2⟩
theorem run_of {W : World} {k k' : Params → Frag} {n n' toks toks' N : Nat} {l : List Stmt} {p p' : Pos} (hs : sane (k' W.params) n' = true)
    (h : ∀ x life d os, runP W (k W.params) (k' W.params) n n' toks N l p x life d os = fineP x life d os W.params k k' n n' toks' p') {s : Shared} (a : At (k W.params) n toks s) :
    ∃ s', segRun table pw W 29 (some (.ref 6)) 1 N s (piecesOf l envB codeB p [topFrame pos0]) = some (.next, s', codeB, p') ∧ At (k' W.params) n' toks' s' := by
  obtain ⟨x, hx⟩ := a.known.fill
  have h := h x s.heap.life s.drawn s.os
  unfold runP fineP at h
  obtain ⟨m, e1, h⟩ := Option.map_eq_some_iff.mp h
  obtain ⟨⟨f, s', c, q⟩, e2, h⟩ := Option.map_eq_some_iff.mp h
  obtain ⟨h1, h2⟩ := Prod.mk.inj h
  dsimp only at h1 h2
  obtain ⟨h3, h4⟩ := Prod.mk.inj h1
  obtain ⟨h5, h6⟩ := Prod.mk.inj h4
  subst h3 h5 h6
  refine ⟨s'.abs, ?_, at_of (known_of_look hs (a.know hx) h2)⟩
  unfold segQ tz at e2
  rw [← PySem.W.Fast.te10110043849684766642, ← PySem.W.Fast.te14364793385576792824, pieceQ_eq] at e2
  have := segRun_of e2
  rw [mid_at a hx e1] at this
  rw [table_eq_tree]
  exact this
theorem stub_of {W : World} (hs : sane (knowb W.params) 33 = true)
    (h : ∀ x life d os, runA W x life d os = some (some (threadQ, goodT (knowa W.params) (knowb W.params) x 29 33 279 life d os))) {s : Shared} (a : At (knowa W.params) 29 273 s) :
    ∃ s', segGo table pw W 29 (some (.ref 6)) 0 12 s (topStub pw) = some (s', ⟨denote table codeB, codeB, pos0, [topFrame pos0]⟩) ∧ At (knowb W.params) 33 279 s' := by
  obtain ⟨x, hx⟩ := a.known.fill
  have h := h x s.heap.life s.drawn s.os
  unfold runA at h
  obtain ⟨m, e1, h⟩ := Option.map_eq_some_iff.mp h
  obtain ⟨⟨s', t⟩, e2, h⟩ := Option.map_eq_some_iff.mp h
  obtain ⟨h1, h2⟩ := Prod.mk.inj h
  dsimp only at h1 h2
  subst h1
  refine ⟨s'.abs, ?_, at_of (known_of_look hs (a.know hx) h2)⟩
  unfold segGoQ tz at e2
  rw [← PySem.W.Fast.te10295753902157049106, ← PySem.W.Fast.te14364793385576792824, stubQ_eq] at e2
  have := segGo_of e2
  rw [mid_at a hx e1, threadQ_eq] at this
  rw [table_eq_tree] at this ⊢
  exact this
theorem sane_b (P : Params) : sane (knowb P) 33 = true := by kernel_rfl
theorem sane_c (P : Params) : sane (knowc P) 113 = true := by kernel_rfl
theorem sane_d (P : Params) : sane (knowd P) 343 = true := by kernel_rfl
theorem sane_e (P : Params) : sane (knowe P) 590 = true := by kernel_rfl
theorem sane_f (P : Params) : sane (knowf P) 775 = true := by kernel_rfl
theorem block_none (W : World) (s : Shared) : segRun table pw W 29 (some (.ref 6)) 1 1 s (blockOf bodyB envB codeB pos0 [topFrame pos0]) = some (.next, s, codeB, pos0) := by kernel_rfl
theorem top_fin (W : World) (s : Shared) : topRun table pw W 29 (some (.ref 6)) 2 s ⟨doneF .next, codeB, pos4, [topFrame pos0]⟩ = some s := by
  obtain ⟨h, g, d, t, o⟩ := s
  kernel_rfl
theorem body_cut : bodyB = lA ++ (lB ++ (lC ++ (lD ++ []))) := by
  unfold lA lB lC lD
  rw [List.append_nil, show bodyB.drop 10 = (bodyB.drop 9).drop 1 by rw [List.drop_drop], List.take_append_drop, show bodyB.drop 9 = (bodyB.drop 8).drop 1 by rw [List.drop_drop], List.take_append_drop, List.take_append_drop]
theorem top_chain {W : World} {s₀ s₁ sA sB sC sD : Shared} (g : segGo table pw W 29 (some (.ref 6)) 0 12 s₀ (topStub pw) = some (s₁, ⟨denote table codeB, codeB, pos0, [topFrame pos0]⟩))
    (a : segRun table pw W 29 (some (.ref 6)) 1 1200 s₁ (piecesOf lA envB codeB pos0 [topFrame pos0]) = some (.next, sA, codeB, pos1))
    (b : segRun table pw W 29 (some (.ref 6)) 1 1400 sA (piecesOf lB envB codeB pos1 [topFrame pos0]) = some (.next, sB, codeB, pos2))
    (c : segRun table pw W 29 (some (.ref 6)) 1 1700 sB (piecesOf lC envB codeB pos2 [topFrame pos0]) = some (.next, sC, codeB, pos3))
    (d : segRun table pw W 29 (some (.ref 6)) 1 1300 sC (piecesOf lD envB codeB pos3 [topFrame pos0]) = some (.next, sD, codeB, pos4)) :
    topRun table pw W 29 (some (.ref 6)) (12 + (1 + (1200 + (1400 + (1700 + (1300 + 2)))))) s₀ (topStub pw) = some sD := by
  refine top_of_go g (piece_block (block_none W s₁) ?_)
  rw [body_cut]
  exact piece_app a (piece_app b (piece_app c (piece_app d (piece_nil (top_fin W sD)))))
/-- the fence's end and the top's -/
theorem top_ran (w : World) (b1 b2 : Bool) : ∃ s₀ s₁, fenT (wf w b1 b2) = some s₀ ∧ At (knowa (wf w b1 b2).params) 29 273 s₀ ∧
    topRun table pw (wf w b1 b2) 29 (some (.ref 6)) (12 + (1 + (1200 + (1400 + (1700 + (1300 + 2)))))) s₀ (topStub pw) = some s₁ ∧ At (knowf (wf w b1 b2).params) 775 1224 s₁ := by
  have F : (fenT (wf w b1 b2)).map (seenF (wf w b1 b2).params) = some (goodF (wf w b1 b2).params) := by
    cases b1
    · exact fenceF w b2
    · exact fenceT w b2
  obtain ⟨s₀, e0, h0⟩ := Option.map_eq_some_iff.mp F
  unfold seenF goodF at h0
  simp only [Prod.mk.injEq] at h0
  obtain ⟨f1, f2, f3, f4, f5⟩ := h0
  have A0 : At (knowa (wf w b1 b2).params) 29 273 s₀ :=
    ⟨⟨f1, fun p hp => map_eq_at f4 hp, fun a ha => Option.isSome_iff_exists.mp (List.all_eq_true.mp f5 a (List.mem_range.mpr ha))⟩, Array.toList_eq_nil_iff.mp f3, f2⟩
  obtain ⟨s₁, g, A1⟩ := stub_of (sane_b _) (fun x life d os => by cases b1; exact stubF w b2 x life d os; exact stubT w b2 x life d os) A0
  obtain ⟨sA, a, AA⟩ := run_of (sane_c _) (fun x life d os => by cases b1; exact pieceAF w b2 x life d os; exact pieceAT w b2 x life d os) A1
  obtain ⟨sB, b, AB⟩ := run_of (sane_d _) (fun x life d os => by cases b1; exact pieceBF w b2 x life d os; exact pieceBT w b2 x life d os) AA
  obtain ⟨sC, c, AC⟩ := run_of (sane_e _) (fun x life d os => by cases b1; exact pieceCF w b2 x life d os; exact pieceCT w b2 x life d os) AB
  obtain ⟨sD, d, AD⟩ := run_of (sane_f _) (fun x life d os => by cases b1; exact pieceDF w b2 x life d os; exact pieceDT w b2 x life d os) AC
  exact ⟨s₀, sD, e0, A0, top_chain g a b c d, AD⟩
noncomputable def seenH (h₀ h : Heap) :=
  (h₀.isNs mainGlobals, h₀.nsMap mainGlobals "__annotations__",
   staticsOk (importedModules pw.main.body) h₀ h && namesBound pw h && laidKept h₀ h,
   h.accountedOkI (importedModules pw.main.body) && h.isNs mainGlobals && h.isNs builtinsNs && h.bmainOk && h.isNs cStatics,
   h.nsMap cStatics "sys.recursionlimit", h.nsMap mainGlobals "law", h.bltView)
theorem top_looks (P : Params) (x₀ x : Nat → Obj) (l₀ l : Life) : seenH ⟨(fillL (knowa P) x₀ 29).toArray, l₀⟩ ⟨(fillL (knowf P) x 775).toArray, l⟩ =
    (true, some (.ref 6), true, true, none, some (.ref 774), bltViewBooted) := by kernel_rfl
theorem top_heaps {P : Params} {s₀ s₁ : Shared} (a : At (knowa P) 29 273 s₀) (b : At (knowf P) 775 1224 s₁) : seenH s₀.heap s₁.heap = (true, some (.ref 6), true, true, none, some (.ref 774), bltViewBooted) := by
  obtain ⟨x₀, h₀⟩ := a.known.fill
  obtain ⟨x, h⟩ := b.known.fill
  obtain ⟨⟨o₀, l₀⟩, _, _, _, _⟩ := s₀
  obtain ⟨⟨o, l⟩, _, _, _, _⟩ := s₁
  dsimp only at h₀ h
  subst h₀ h
  exact top_looks P x₀ x l₀ l
end Mine.Top
end Ht

section Rd2
open PySem PySem.Calls PySem.W PySem.W.X PyProof.Rows
set_option Elab.async false
set_option maxRecDepth 100000
namespace Mine
theorem slice_one {x : Str} {i : Nat} {c t1 t2 : Nat} (hc : x.cps[i]? = some c) : slicePicked x (some (Int.ofNat i, t1)) (some (Int.ofNat (i + 1), t2)) none = [i] := by
  have hi : i < x.length := (Array.getElem?_eq_some_iff.mp hc).1
  unfold slicePicked Builtin.Str.strSliceIndices
  simp only [Option.map_some, Option.map_none, Option.getD_none]
  have e1 : ¬ (Int.ofNat i < 0) := by show ¬ ((i : Int) < 0); omega
  have e2 : ¬ (Int.ofNat (i + 1) < 0) := by show ¬ (((i + 1 : Nat) : Int) < 0); omega
  rw [if_neg e1, if_neg e2]
  have m1 : max 0 (min (Int.ofNat i) (x.length : Int)) = (i : Int) := by show max 0 (min (i : Int) (x.length : Int)) = _; omega
  have m2 : max 0 (min (Int.ofNat (i + 1)) (x.length : Int)) = ((i + 1 : Nat) : Int) := by show max 0 (min ((i + 1 : Nat) : Int) (x.length : Int)) = _; omega
  simp only [show (1 : Int) > 0 from by decide, if_true, m1, m2]
  unfold sliceRange
  rw [if_pos (by decide), if_pos (by omega)]
  show List.map (fun (k : Nat) => ((i : Int) + 1 * (k : Int)).toNat) (List.range ((((i + 1 : Nat) : Int) - (i : Int) + 1 - 1) / 1).toNat) = [i]
  have : ((((i + 1 : Nat) : Int) - (i : Int) + 1 - 1) / 1).toNat = 1 := by omega
  rw [this]
  simp
theorem p_slice {prog : Program} {w : World} {A : Around} {s : Shared} {R : Result → Shared → Prop} {x : Str} {tb a i c t1 t2 : Nat} (ho : s.heap.get? a = some (sliceObj (.int (Int.ofNat i) t1) (.int (Int.ofNat (i + 1)) t2)))
    (hc : x.cps[i]? = some c) (h1 : 1 < x.length) (z : R (.ok (.ret (.str ⟨#[c]⟩ s.toks))) { s with toks := s.toks + 1 }) :
    codeAny (model prog w) A (.call (.builtin "str.__getitem__") ⟨[.str x tb, .ref a], []⟩) R s := by
  refine codeAny_call_builtin PySem.F.slot_str_getitem.plain PySem.F.entry_str_getitem (PySem.F.slot_str_getitem.check _ _ _ _ _ _ _ _ (typeIs_str s x tb) (PySem.F.args_str_getitem_2 _ _) ?_)
  refine meets_str_getitem_slice x tb a (some (Int.ofNat i, t1)) (some (Int.ofNat (i + 1), t2)) none rfl prog w A R s ⟨⟨_, ho, rfl, rfl⟩, ?_⟩
  unfold sliceMade
  rw [slice_one hc]
  have e : ((Option.map (fun (p : Int × Tok) => p.1) none).getD 1 == 1 && ([i] : List Nat).length == x.length) = false := by
    have : ([i] : List Nat).length ≠ x.length := by show 1 ≠ _; omega
    simp [this]
    omega
  rw [e]
  have e2 : ((([i] : List Nat).filterMap (x.cps[·]?)).toArray) = #[c] := by simp [hc]
  rw [if_neg (by decide), e2]
  exact ⟨by show 1 ≤ sizeLine; decide, z⟩

section
variable {w₀ : World} {b1 b2 : Bool} {w : World} (hw : w = wf w₀ b1 b2) {scr : Obj} {h₀ : Heap} (G : Grd w scr h₀) {T : IoT} {buf : Str} {i tp t1 c : Nat} {g : Array GenState} {a b : Addr} {V : Cfg} (v1 : V.h₀ = h₀) (v2 : V.n₁ = 776) (v5 : V.prog = PySem.Challenge.pw_nq0197_01) (v6 : V.w = w)
include hw G v1 v2 v5 v6
theorem read_char (hc : buf.cps[i]? = some c) (h1 : 1 < buf.length) (hz : buf.length < 2 ^ 63) (A : Around) (R : Result → Shared → Prop) (h : Heap) (rest : Own) (N t : Nat) (lo : Lo A 700)
    (D : Rep V h ⟨[(a, ioDict w.params T buf (Int.ofNat i) tp), (b, ioInst a)] ++ rest, [], 0, 0, N, t, g⟩)
    (q : ∀ (x : Nat × Nat × Nat) h' nw', Rep V h' ⟨[(a, ioDict w.params T buf (Int.ofNat (i + 1)) x.2.1), (b, ioInst a)] ++ rest, nw', 4, x.2.2, N, t, g⟩ → R (.ok (.ret (.str ⟨#[c]⟩ x.1))) ⟨h', g, V.d, t + x.2.2, V.os⟩) :
    codeAny (model V.prog V.w) A (.call (.ref 533) ⟨[.ref b, .int 1 t1], []⟩) R ⟨h, g, V.d, t, V.os⟩ := by
  subst v1 v6
  rw [v5]
  have hi : i < buf.length := (Array.getElem?_eq_some_iff.mp hc).1
  have D1 : Rep (cfg V.w scr V.h₀ A 700 R V.d V.os) h ⟨(a, ioDict V.w.params T buf (Int.ofNat i) tp) :: (b, ioInst a) :: rest, [], 0, 0, N, t, g⟩ := D.cast rfl v2
  have hC : ∀ k C c' (st : St) (fr : Option (List Env)), [tokCtr (fun tk => .ok (.ret (.str ⟨#[c]⟩ tk))) 1 900][k]? = some C →
      (fun k c' (st : St) => (fun (_ : Nat) (c' : Code) (o : Option Obj) (ad' : Nat) => ∃ ad tu, c' = .call (.builtin "str.__getitem__") ⟨[.str buf T.tb, .ref ad], []⟩ ∧ o = some (sliceObj (.int (Int.ofNat i) tp) (.int (Int.ofNat (i + 1)) tu)) ∧ ad = ad') k c' (nwAt st.nw 0) (st.N + (st.n - 1))) k c' st → CtrOk (cfg V.w scr V.h₀ A 700 R V.d V.os) C c' st fr := by
    intro k C c' st fr hk hh
    cases k with
    | succ k => simp at hk
    | zero =>
      simp at hk
      subst hk
      obtain ⟨ad, tu, rfl, hs, rfl⟩ := hh
      intro A' h' R' lo' _ D' q'
      rw [nwAt_eq] at hs
      have hn : st.nw[0]? = some (some (sliceObj (.int (Int.ofNat i) tp) (.int (Int.ofNat (i + 1)) tu))) := by
        revert hs; cases st.nw[0]? <;> simp
      have hlen := D'.len
      have hpos : 0 < st.n := by
        rw [← hlen]
        obtain ⟨hl, _⟩ := List.getElem?_eq_some_iff.mp hn
        exact hl
      have ho := D'.new (st.n - 1) _ (by omega) (by rw [show st.n - 1 - (st.n - 1) = 0 by omega]; exact hn)
      refine p_slice ho hc h1 ?_
      exact q' () h' D'.toks
  have fin : ∀ hl hc, RdGoal V.w scr V.h₀ A R V.d V.os (fun (_ : Nat) (c' : Code) (o : Option Obj) (ad' : Nat) => ∃ ad tu, c' = .call (.builtin "str.__getitem__") ⟨[.str buf T.tb, .ref ad], []⟩ ∧ o = some (sliceObj (.int (Int.ofNat i) tp) (.int (Int.ofNat (i + 1)) tu)) ∧ ad = ad') (fun r B n N' tk g' => ∃ x : Nat × Nat × Nat, r = .inl (.ok (.ret (.str ⟨#[c]⟩ x.1))) ∧ B = (a, ioDict V.w.params T buf (Int.ofNat (i + 1)) x.2.1) :: (b, ioInst a) :: rest ∧ n = 4 ∧ N' = N ∧ tk = t + x.2.2 ∧ g' = g) c T buf i tp t1 N t g a b rest hl hc → codeAny (model PySem.Challenge.pw_nq0197_01 V.w) A (.call (.ref 533) ⟨[.ref b, .int 1 t1], []⟩) R ⟨h, g, V.d, t, V.os⟩ := fun hl hc X =>
    code_by_run (V := cfg V.w scr V.h₀ A 700 R V.d V.os) (G.cfg lo) (prim_ok _) hC (fun r st h' p D' => by
      obtain ⟨x, e, e1, e2, e3, e4, e5⟩ := p
      cases e
      obtain ⟨base, nw, n, j, N', t', g'⟩ := st
      simp only at e1 e2 e3 e4 e5
      subst e1 e2 e3 e5
      have := q x h' nw (D'.toks.cast rfl v2.symm)
      simp only
      rw [e4]
      exact this) (fun c st h p => by obtain ⟨x, e, _⟩ := p; cases e) 400 X D1
  have c1 : decide (Int.ofNat i ≥ Int.ofNat buf.length) = false := decide_eq_false (by show ¬ ((i : Int) ≥ (buf.length : Int)); omega)
  by_cases hl : i + 1 < buf.length
  · refine fin _ _ (Eq.mpr (rd_more w₀ b1 b2 V.w hw scr V.h₀ A R V.d V.os (fun (_ : Nat) (c' : Code) (o : Option Obj) (ad' : Nat) => ∃ ad tu, c' = .call (.builtin "str.__getitem__") ⟨[.str buf T.tb, .ref ad], []⟩ ∧ o = some (sliceObj (.int (Int.ofNat i) tp) (.int (Int.ofNat (i + 1)) tu)) ∧ ad = ad') (fun r B n N' tk g' => ∃ x : Nat × Nat × Nat, r = .inl (.ok (.ret (.str ⟨#[c]⟩ x.1))) ∧ B = (a, ioDict V.w.params T buf (Int.ofNat (i + 1)) x.2.1) :: (b, ioInst a) :: rest ∧ n = 4 ∧ N' = N ∧ tk = t + x.2.2 ∧ g' = g) T buf i tp t1 c N t g a b rest) ⟨eqs_want _ _ _, ⟨⟨⟨trivial, hz⟩, c1⟩, decide_eq_true (by show ((i : Int) + 1 < (buf.length : Int)); omega)⟩, ⟨N + 3, t + 20, rfl, rfl, rfl⟩, fun _ => ⟨trivial, trivial, (t + 25, t + 20, 26), rfl, rfl, rfl, rfl, rfl, rfl⟩⟩)
  · have e : Int.ofNat buf.length = Int.ofNat (i + 1) := by rw [show buf.length = i + 1 by omega]
    refine fin _ _ (Eq.mpr (rd_last w₀ b1 b2 V.w hw scr V.h₀ A R V.d V.os (fun (_ : Nat) (c' : Code) (o : Option Obj) (ad' : Nat) => ∃ ad tu, c' = .call (.builtin "str.__getitem__") ⟨[.str buf T.tb, .ref ad], []⟩ ∧ o = some (sliceObj (.int (Int.ofNat i) tp) (.int (Int.ofNat (i + 1)) tu)) ∧ ad = ad') (fun r B n N' tk g' => ∃ x : Nat × Nat × Nat, r = .inl (.ok (.ret (.str ⟨#[c]⟩ x.1))) ∧ B = (a, ioDict V.w.params T buf (Int.ofNat (i + 1)) x.2.1) :: (b, ioInst a) :: rest ∧ n = 4 ∧ N' = N ∧ tk = t + x.2.2 ∧ g' = g) T buf i tp t1 c N t g a b rest) ⟨eqs_want _ _ _, ⟨⟨⟨trivial, hz⟩, c1⟩, decide_eq_false (by show ¬ ((i : Int) + 1 < (buf.length : Int)); omega)⟩, ⟨N + 3, t + 16, rfl, by rw [e], rfl⟩, fun _ => ⟨trivial, trivial, (t + 23, t + 16, 24), rfl, by rw [e], rfl, rfl, rfl, rfl⟩⟩)
theorem read_eof (hi : buf.length ≤ i) (hz : buf.length < 2 ^ 63) (A : Around) (R : Result → Shared → Prop) (h : Heap) (rest : Own) (N t : Nat) (lo : Lo A 700)
    (D : Rep V h ⟨[(a, ioDict w.params T buf (Int.ofNat i) tp), (b, ioInst a)] ++ rest, [], 0, 0, N, t, g⟩)
    (q : ∀ (x : Nat × Nat × Nat) h' nw', Rep V h' ⟨[(a, ioDict w.params T buf (Int.ofNat i) x.2.1), (b, ioInst a)] ++ rest, nw', 3, x.2.2, N, t, g⟩ → R (.ok (.ret (.str ⟨#[]⟩ x.1))) ⟨h', g, V.d, t + x.2.2, V.os⟩) :
    codeAny (model V.prog V.w) A (.call (.ref 533) ⟨[.ref b, .int 1 t1], []⟩) R ⟨h, g, V.d, t, V.os⟩ := by
  subst v1 v6
  rw [v5]
  have D1 : Rep (cfg V.w scr V.h₀ A 700 R V.d V.os) h ⟨(a, ioDict V.w.params T buf (Int.ofNat i) tp) :: (b, ioInst a) :: rest, [], 0, 0, N, t, g⟩ := D.cast rfl v2
  refine code_by_run (V := cfg V.w scr V.h₀ A 700 R V.d V.os) (G.cfg lo) (cs := [tokCtr (fun tk => .ok (.ret (.str ⟨#[0]⟩ tk))) 1 900]) (H := fun i c st _ => (fun _ _ _ _ => False) i c (nwAt st.nw 0) (st.N + (st.n - 1)))
    (PP := view fun r B n N' tk g' => ∃ x : Nat × Nat × Nat, r = .inl (.ok (.ret (.str ⟨#[]⟩ x.1))) ∧ B = (a, ioDict V.w.params T buf (Int.ofNat i) x.2.1) :: (b, ioInst a) :: rest ∧ n = 3 ∧ N' = N ∧ tk = t + x.2.2 ∧ g' = g) (prim_ok _) (fun _ _ _ _ _ _ h => h.elim) (fun r st h' p D' => ?_) (fun c st h p => by obtain ⟨x, e, _⟩ := p; cases e) 400
    (Eq.mpr (rd_eof w₀ b1 b2 V.w hw scr V.h₀ A R V.d V.os (fun _ _ _ _ => False) (fun r B n N' tk g' => ∃ x : Nat × Nat × Nat, r = .inl (.ok (.ret (.str ⟨#[]⟩ x.1))) ∧ B = (a, ioDict V.w.params T buf (Int.ofNat i) x.2.1) :: (b, ioInst a) :: rest ∧ n = 3 ∧ N' = N ∧ tk = t + x.2.2 ∧ g' = g) T buf i tp t1 0 N t g a b rest) ⟨eqs_want _ _ _, ⟨⟨trivial, hz⟩, decide_eq_true (by show ((i : Int) ≥ (buf.length : Int)); omega)⟩, (t + 18, tp, 19), rfl, rfl, rfl, rfl, rfl, rfl⟩) D1
  obtain ⟨x, e, e1, e2, e3, e4, e5⟩ := p
  cases e
  obtain ⟨base, nw, n, j, N', t', g'⟩ := st
  simp only at e1 e2 e3 e4 e5
  subst e1 e2 e3 e5
  have := q x h' nw (D'.toks.cast rfl v2.symm)
  simp only
  rw [e4]
  exact this
end
end Mine
end Rd2

section Turn
open PySem PySem.Calls PySem.W PySem.W.X PyProof.Rows
set_option Elab.async false
set_option maxRecDepth 100000
namespace Mine
noncomputable def fdOf (o : Obj) : FuncData := match o.data with
  | .func fd => fd
  | _ => default
noncomputable def stmtsOf (fd : FuncData) : List Stmt := match fd.body with
  | .stmts b => b
  | _ => []
noncomputable def whileIn (fd : FuncData) (i : Nat) : Expr × List Stmt × List Stmt := match (stmtsOf fd)[i]? with
  | some (.While t b e _) => (t, b, e)
  | _ => (default, [], [])
noncomputable def envOf (fd : FuncData) (a fr : Addr) : Env :=
  { scope := fd.scope, locals := fr, globals := fd.globals, cells := fd.closure, qual := ⟨fd.qualname.cps ++ #[46, 60, 108, 111, 99, 97, 108, 115, 62, 46]⟩, func := some a, code := fd.code, frame := some fr, builtins := fd.builtins }
/-- read_token's loop -/
noncomputable def rtLoop (P : Params) (fr : Addr) : Code := .whileLoop (whileIn (fdOf (o690 P)) 2).1 (whileIn (fdOf (o690 P)) 2).2.1 (whileIn (fdOf (o690 P)) 2).2.2 (envOf (fdOf (o690 P)) 690 fr)

noncomputable def rtW : Str := ⟨#[97, 98, 99, 100, 102, 101, 103, 104, 105, 106, 107, 108, 109, 110, 111, 112, 113, 114, 115, 116, 117, 118, 119, 120, 121, 122, 65, 66, 67, 68, 69, 70, 71, 72, 73, 74, 75, 76, 77, 78, 79, 80, 81, 82, 83, 84, 85, 86, 87, 88, 89, 90, 48, 49, 50, 51, 52, 53, 54, 55, 56, 57, 95, 223, 224, 225, 226, 227, 228, 229, 230, 231, 232, 233, 234, 235, 236, 237, 238, 239, 240, 241, 242, 243, 244, 245, 246, 248, 249, 250, 251, 252, 253, 254, 255, 192, 193, 194, 195, 196, 197, 198, 199, 200, 201, 202, 203, 204, 205, 206, 207, 208, 209, 210, 211, 212, 213, 214, 216, 217, 218, 219, 220, 221, 222]⟩
/-- tokens of a dict's keys and values -/
structure LexT where
  k : Nat → Nat
  v : Nat → Nat
/-- a shlex's dict -/
noncomputable def lexDict (P : Params) (L : LexT) (io pb fs : Addr) (sv : Value) (ln : Int) (tl : Nat) (tok : Str) (tt : Nat) : Obj :=
  { cls := .type "dict", data := .dict #[⟨PyData.keyHash P ⟨#[105, 110, 115, 116, 114, 101, 97, 109]⟩, .str ⟨#[105, 110, 115, 116, 114, 101, 97, 109]⟩ (L.k 0), .ref io⟩, ⟨PyData.keyHash P ⟨#[105, 110, 102, 105, 108, 101]⟩, .str ⟨#[105, 110, 102, 105, 108, 101]⟩ (L.k 1), .none⟩, ⟨PyData.keyHash P ⟨#[112, 111, 115, 105, 120]⟩, .str ⟨#[112, 111, 115, 105, 120]⟩ (L.k 2), .bool true⟩, ⟨PyData.keyHash P ⟨#[101, 111, 102]⟩, .str ⟨#[101, 111, 102]⟩ (L.k 3), .none⟩, ⟨PyData.keyHash P ⟨#[99, 111, 109, 109, 101, 110, 116, 101, 114, 115]⟩, .str ⟨#[99, 111, 109, 109, 101, 110, 116, 101, 114, 115]⟩ (L.k 4), .str ⟨#[]⟩ (L.v 4)⟩, ⟨PyData.keyHash P ⟨#[119, 111, 114, 100, 99, 104, 97, 114, 115]⟩, .str ⟨#[119, 111, 114, 100, 99, 104, 97, 114, 115]⟩ (L.k 5), .str rtW (L.v 5)⟩, ⟨PyData.keyHash P ⟨#[119, 104, 105, 116, 101, 115, 112, 97, 99, 101]⟩, .str ⟨#[119, 104, 105, 116, 101, 115, 112, 97, 99, 101]⟩ (L.k 6), .str ⟨#[32, 9, 13, 10]⟩ (L.v 6)⟩, ⟨PyData.keyHash P ⟨#[119, 104, 105, 116, 101, 115, 112, 97, 99, 101, 95, 115, 112, 108, 105, 116]⟩, .str ⟨#[119, 104, 105, 116, 101, 115, 112, 97, 99, 101, 95, 115, 112, 108, 105, 116]⟩ (L.k 7), .bool true⟩, ⟨PyData.keyHash P ⟨#[113, 117, 111, 116, 101, 115]⟩, .str ⟨#[113, 117, 111, 116, 101, 115]⟩ (L.k 8), .str ⟨#[39, 34]⟩ (L.v 8)⟩, ⟨PyData.keyHash P ⟨#[101, 115, 99, 97, 112, 101]⟩, .str ⟨#[101, 115, 99, 97, 112, 101]⟩ (L.k 9), .str ⟨#[92]⟩ (L.v 9)⟩, ⟨PyData.keyHash P ⟨#[101, 115, 99, 97, 112, 101, 100, 113, 117, 111, 116, 101, 115]⟩, .str ⟨#[101, 115, 99, 97, 112, 101, 100, 113, 117, 111, 116, 101, 115]⟩ (L.k 10), .str ⟨#[34]⟩ (L.v 10)⟩, ⟨PyData.keyHash P ⟨#[115, 116, 97, 116, 101]⟩, .str ⟨#[115, 116, 97, 116, 101]⟩ (L.k 11), sv⟩, ⟨PyData.keyHash P ⟨#[112, 117, 115, 104, 98, 97, 99, 107]⟩, .str ⟨#[112, 117, 115, 104, 98, 97, 99, 107]⟩ (L.k 12), .ref pb⟩, ⟨PyData.keyHash P ⟨#[108, 105, 110, 101, 110, 111]⟩, .str ⟨#[108, 105, 110, 101, 110, 111]⟩ (L.k 13), .int ln tl⟩, ⟨PyData.keyHash P ⟨#[100, 101, 98, 117, 103]⟩, .str ⟨#[100, 101, 98, 117, 103]⟩ (L.k 14), .int 0 (L.v 14)⟩, ⟨PyData.keyHash P ⟨#[116, 111, 107, 101, 110]⟩, .str ⟨#[116, 111, 107, 101, 110]⟩ (L.k 15), .str tok tt⟩, ⟨PyData.keyHash P ⟨#[102, 105, 108, 101, 115, 116, 97, 99, 107]⟩, .str ⟨#[102, 105, 108, 101, 115, 116, 97, 99, 107]⟩ (L.k 16), .ref fs⟩, ⟨PyData.keyHash P ⟨#[115, 111, 117, 114, 99, 101]⟩, .str ⟨#[115, 111, 117, 114, 99, 101]⟩ (L.k 17), .none⟩, ⟨PyData.keyHash P ⟨#[95, 112, 117, 110, 99, 116, 117, 97, 116, 105, 111, 110, 95, 99, 104, 97, 114, 115]⟩, .str ⟨#[95, 112, 117, 110, 99, 116, 117, 97, 116, 105, 111, 110, 95, 99, 104, 97, 114, 115]⟩ (L.k 18), .str ⟨#[]⟩ (L.v 18)⟩] 19 }
noncomputable def lexInst (d : Addr) : Obj := { cls := .ref 722, dict := some d }
noncomputable def rtFr3 (P : Params) (F : Nat → Nat) (lex : Addr) (q : Bool) (te : Nat) : Obj := { cls := .type "frame", data := .dict #[⟨PyData.keyHash P ⟨#[115, 101, 108, 102]⟩, .str ⟨#[115, 101, 108, 102]⟩ (F 0), .ref lex⟩, ⟨PyData.keyHash P ⟨#[113, 117, 111, 116, 101, 100]⟩, .str ⟨#[113, 117, 111, 116, 101, 100]⟩ (F 1), .bool q⟩, ⟨PyData.keyHash P ⟨#[101, 115, 99, 97, 112, 101, 100, 115, 116, 97, 116, 101]⟩, .str ⟨#[101, 115, 99, 97, 112, 101, 100, 115, 116, 97, 116, 101]⟩ (F 2), .str ⟨#[32]⟩ te⟩] 3 }
noncomputable def rtFr4 (P : Params) (F : Nat → Nat) (lex : Addr) (q : Bool) (te : Nat) (kn : Nat) (nc : Str) (tn : Nat) : Obj := { cls := .type "frame", data := .dict #[⟨PyData.keyHash P ⟨#[115, 101, 108, 102]⟩, .str ⟨#[115, 101, 108, 102]⟩ (F 0), .ref lex⟩, ⟨PyData.keyHash P ⟨#[113, 117, 111, 116, 101, 100]⟩, .str ⟨#[113, 117, 111, 116, 101, 100]⟩ (F 1), .bool q⟩, ⟨PyData.keyHash P ⟨#[101, 115, 99, 97, 112, 101, 100, 115, 116, 97, 116, 101]⟩, .str ⟨#[101, 115, 99, 97, 112, 101, 100, 115, 116, 97, 116, 101]⟩ (F 2), .str ⟨#[32]⟩ te⟩, ⟨PyData.keyHash P ⟨#[110, 101, 120, 116, 99, 104, 97, 114]⟩, .str ⟨#[110, 101, 120, 116, 99, 104, 97, 114]⟩ kn, .str nc tn⟩] 4 }
/-- what read(1) comes back with -/
noncomputable abbrev rdCtr (P : Params) (T : IoT) (buf : Str) (pos : Int) (a b : Addr) (out : Str) (k : Nat) : Ctr :=
  frameCtr (X := Nat × Nat × Nat) 2 k (fun x => .ok (.ret (.str out x.1))) (fun x => [(a, ioDict P T buf pos x.2.1), (b, ioInst a)]) (fun x => x.2.2) 700
noncomputable def tnA : List Nat := [9, 7, 0, 0, 0, 7, 0, 0, 0, 0, 0, 0, 0, 0, 0, 0, 2, 2, 2, 7, 0, 0, 0, 7, 0, 0, 0, 7, 7, 0, 5, 9, 7, 0, 0, 0, 7, 0, 0, 0, 7, 7, 0, 5, 3, 0, 0, 0, 0, 0, 0, 0, 3, 0, 0, 0, 0, 0, 0, 0, 3, 0, 0, 0, 0, 3, 1, 0]
noncomputable def t1B : List Nat := [9, 9, 9, 9, 7, 0, 0, 0, 7, 0, 0, 0, 7, 7, 0, 5, 9, 7, 0, 0, 0, 7, 0, 0, 0, 7, 7, 0, 5, 9, 7, 0, 0, 0, 7, 0, 0, 0, 7, 7, 0, 5, 9, 9, 9, 7, 0, 0, 0, 7, 0, 0, 0, 7, 7, 0, 5, 9, 9, 7, 0, 0, 0, 7, 0, 0, 0, 7, 7, 0, 5, 9, 7, 0, 0, 0, 7, 0, 0, 0, 7, 7, 0, 5, 9, 9, 7, 0, 0, 0, 7, 0, 0, 0, 7, 7, 0, 5, 9, 9, 7, 0, 0, 0, 7, 0, 0, 0, 7, 7, 0, 5, 9, 9, 7, 0, 0, 0, 7, 0, 0, 0, 0, 0, 0, 0, 0, 0, 0, 12, 12, 12, 7, 0, 0, 0, 7, 0, 0, 0, 7, 7, 0, 5, 9, 9, 7, 0, 0, 0, 7, 0, 0, 0, 7, 7, 0, 5, 9, 7, 0, 0, 0, 7, 0, 0, 0, 7, 7, 0, 5, 9, 9, 7, 0, 0, 0, 7, 0, 7, 0, 7, 0, 0, 0, 7, 0, 5, 5, 5, 9, 7, 0, 0, 0, 7, 0, 7, 0, 7, 0, 0, 0, 7, 0, 5, 5, 5]
noncomputable def t1wB : List Nat := [9, 9, 9, 9, 7, 0, 0, 0, 7, 0, 0, 0, 7, 7, 0, 5, 9, 7, 0, 0, 0, 7, 0, 0, 0, 7, 7, 0, 5, 9, 7, 0, 0, 0, 7, 0, 0, 0, 7, 7, 0, 5, 9, 9, 9, 7, 0, 0, 0, 7, 0, 0, 0, 7, 7, 0, 5, 9, 9, 7, 0, 0, 0, 7, 0, 0, 0, 7, 7, 0, 5, 9, 7, 0, 0, 0, 7, 0, 0, 0, 7, 7, 0, 5, 9, 9, 7, 0, 0, 0, 7, 0, 0, 0, 7, 7, 0, 5, 9, 9, 7, 0, 0, 0, 7, 0, 0, 0, 7, 7, 0, 5, 9, 9, 7, 0, 0, 0, 7, 0, 7, 0, 7, 0, 0, 0, 7, 0, 5, 5, 5, 9, 7, 0, 0, 0, 7, 0, 7, 0, 7, 0, 0, 0, 7, 0, 5, 5, 5]
noncomputable def t2B : List Nat := [9, 9, 9, 9, 7, 0, 0, 0, 7, 0, 0, 0, 7, 7, 0, 5, 9, 7, 0, 0, 0, 7, 0, 0, 0, 7, 7, 0, 5, 9, 7, 0, 0, 0, 7, 0, 0, 0, 7, 7, 0, 5, 9, 7, 0, 0, 0, 7, 0, 0, 0, 7, 7, 0, 5, 9, 7, 0, 0, 0, 7, 0, 0, 0, 7, 7, 0, 5, 9, 7, 0, 0, 0, 7, 0, 0, 0, 7, 7, 0, 5, 9, 7, 0, 0, 0, 7, 0, 0, 0, 7, 7, 0, 5, 9, 7, 0, 0, 0, 7, 0, 0, 0, 7, 7, 0, 5, 12, 12]
noncomputable def t2D : List Nat := [9, 9, 9, 7, 0, 0, 0, 7, 0, 0, 0, 7, 7, 0, 5, 9, 9, 7, 0, 0, 0, 7, 0, 0, 0, 7, 7, 0, 5, 9, 7, 0, 0, 0, 7, 0, 0, 0, 7, 7, 0, 5, 9, 7, 0, 0, 0, 7, 0, 0, 0, 7, 7, 0, 5, 9, 9, 7, 0, 0, 0, 7, 0, 0, 0, 7, 7, 0, 5, 9, 9, 7, 0, 0, 0, 7, 0, 7, 0, 7, 0, 0, 0, 7, 0, 5, 5, 5]
noncomputable def t3B : List Nat := [9, 9, 9, 9, 7, 0, 0, 0, 7, 0, 0, 0, 7, 7, 0, 5, 9, 7, 0, 0, 0, 7, 0, 0, 0, 7, 7, 0, 5, 9, 7, 0, 0, 0, 7, 0, 0, 0, 7, 7, 0, 5, 9, 7, 0, 0, 0, 7, 0, 0, 0, 7, 7, 0, 5, 9, 7, 0, 0, 0, 7, 0, 0, 0, 7, 7, 0, 5, 9, 9, 9, 9, 9, 7, 0, 0, 0, 7, 0, 0, 0, 7, 7, 0, 5, 9, 7, 0, 0, 0, 7, 0, 0, 0, 7, 7, 0, 5, 9, 9, 7, 0, 0, 0, 7, 0, 0, 0, 7, 7, 0, 5, 9, 7, 0, 0, 0, 7, 0, 0, 0, 7, 7, 0, 5, 9, 7, 0, 0, 0, 7, 0, 7, 0, 7, 0, 0, 0, 7, 0, 5, 5, 5]
noncomputable def t3nB : List Nat := [9, 9, 9, 9, 7, 0, 0, 0, 7, 0, 0, 0, 7, 7, 0, 5, 7, 0, 0, 0, 7, 0, 7, 0, 7, 0, 0, 0, 7, 0, 5, 5, 5, 9, 7, 0, 0, 0, 7, 0, 0, 0, 7, 7, 0, 5, 9, 7, 0, 0, 0, 7, 0, 0, 0, 7, 7, 0, 5, 9, 7, 0, 0, 0, 7, 0, 0, 0, 7, 7, 0, 5, 9, 7, 0, 0, 0, 7, 0, 0, 0, 7, 7, 0, 5, 9, 7, 0, 0, 0, 7, 0, 0, 0, 7, 7, 0, 5, 9, 9, 9, 9, 9, 7, 0, 0, 0, 7, 0, 0, 0, 7, 7, 0, 5, 9, 7, 0, 0, 0, 7, 0, 0, 0, 7, 7, 0, 5, 9, 9, 7, 0, 0, 0, 7, 0, 0, 0, 7, 7, 0, 5, 9, 7, 0, 0, 0, 7, 0, 0, 0, 7, 7, 0, 5, 9, 7, 0, 0, 0, 7, 0, 7, 0, 7, 0, 0, 0, 7, 0, 5, 5, 5]
noncomputable def t4B : List Nat := [9, 9, 9, 9, 7, 0, 0, 0, 7, 0, 0, 0, 7, 7, 0, 5, 9, 7, 0, 0, 0, 7, 0, 0, 0, 7, 7, 0, 5, 9, 7, 0, 0, 0, 7, 0, 0, 0, 7, 7, 0, 5, 9, 7, 0, 0, 0, 7, 0, 0, 0, 7, 7, 0, 5, 9, 7, 0, 0, 0, 7, 0, 0, 0, 7, 7, 0, 5, 9, 9, 9, 9, 9, 7, 0, 0, 0, 7, 0, 0, 0, 7, 7, 0, 5, 9, 7, 0, 0, 0, 7, 0, 0, 0, 7, 7, 0, 5, 9, 7, 0, 0, 0, 7, 0, 7, 0, 7, 0, 0, 0, 7, 0, 5, 5, 5]
noncomputable def t5B : List Nat := [9, 9, 9, 9, 7, 0, 0, 0, 7, 0, 0, 0, 7, 7, 0, 5, 9, 7, 0, 0, 0, 7, 0, 0, 0, 7, 7, 0, 5, 9, 7, 0, 0, 0, 7, 0, 0, 0, 7, 7, 0, 5, 9, 7, 0, 0, 0, 7, 0, 0, 0, 7, 7, 0, 5, 9, 7, 0, 0, 0, 7, 0, 0, 0, 7, 7, 0, 5, 9, 7, 0, 0, 0, 7, 0, 0, 0, 7, 7, 0, 5, 9, 7, 0, 0, 0, 7, 0, 0, 0, 7, 7, 0, 5, 9, 7, 0, 0, 0, 7, 0, 0, 0, 7, 7, 0, 5, 10, 10]
noncomputable def t5D : List Nat := [9, 9, 7, 0, 0, 0, 7, 0, 7, 0, 7, 0, 0, 0, 7, 0, 5, 5, 5]
noncomputable def t6B : List Nat := [9, 9, 9, 9, 7, 0, 0, 0, 7, 0, 0, 0, 7, 7, 0, 5, 9, 7, 0, 0, 0, 7, 0, 0, 0, 7, 7, 0, 5, 9, 7, 0, 0, 0, 7, 0, 7, 0, 7, 0, 0, 0, 7, 0, 5, 5, 5]
noncomputable def t7B : List Nat := [9, 9, 9, 9, 7, 0, 0, 0, 7, 0, 0, 0, 7, 7, 0, 5, 9, 7, 0, 0, 0, 7, 0, 0, 0, 7, 7, 0, 5, 9, 7, 0, 0, 0, 7, 0, 0, 0, 7, 7, 0, 5, 9, 7, 0, 0, 0, 7, 0, 0, 0, 7, 7, 0, 5, 9, 7, 0, 0, 0, 7, 0, 0, 0, 7, 7, 0, 5, 9, 7, 0, 0, 0, 7, 0, 0, 0, 7, 7, 0, 5, 9, 7, 0, 0, 0, 7, 0, 0, 0, 7, 7, 0, 5, 9, 7, 0, 0, 0, 7, 0, 0, 0, 7, 7, 0, 5, 12, 12]
noncomputable def t7D : List Nat := [9, 9, 9, 7, 0, 0, 0, 7, 0, 0, 0, 7, 7, 0, 5, 9, 7, 0, 0, 0, 7, 0, 0, 0, 7, 7, 0, 5, 9, 7, 0, 0, 0, 7, 0, 7, 0, 7, 0, 0, 0, 7, 0, 5, 5, 5, 9, 7, 0, 0, 0, 7, 0, 0, 0, 7, 7, 0, 5]
noncomputable def t7nB : List Nat := [9, 9, 9, 9, 7, 0, 0, 0, 7, 0, 0, 0, 7, 7, 0, 5, 7, 0, 0, 0, 7, 0, 7, 0, 7, 0, 0, 0, 7, 0, 5, 5, 5, 9, 7, 0, 0, 0, 7, 0, 0, 0, 7, 7, 0, 5, 9, 7, 0, 0, 0, 7, 0, 0, 0, 7, 7, 0, 5, 9, 7, 0, 0, 0, 7, 0, 0, 0, 7, 7, 0, 5, 9, 7, 0, 0, 0, 7, 0, 0, 0, 7, 7, 0, 5, 9, 7, 0, 0, 0, 7, 0, 0, 0, 7, 7, 0, 5, 9, 7, 0, 0, 0, 7, 0, 0, 0, 7, 7, 0, 5, 9, 7, 0, 0, 0, 7, 0, 0, 0, 7, 7, 0, 5, 9, 7, 0, 0, 0, 7, 0, 0, 0, 7, 7, 0, 5, 12, 12]
noncomputable def t7nD : List Nat := [9, 9, 9, 7, 0, 0, 0, 7, 0, 0, 0, 7, 7, 0, 5, 9, 7, 0, 0, 0, 7, 0, 0, 0, 7, 7, 0, 5, 9, 7, 0, 0, 0, 7, 0, 7, 0, 7, 0, 0, 0, 7, 0, 5, 5, 5, 9, 7, 0, 0, 0, 7, 0, 0, 0, 7, 7, 0, 5]
/-- the tuple of the two word states -/
noncomputable def acTup (t1 t2 : Nat) : Obj := { cls := .type "tuple", data := .seq #[.str ⟨#[97]⟩ t1, .str ⟨#[99]⟩ t2] }
/-- the newest object, but at the first contract -/
noncomputable def newest (i : Nat) (st : St) : Option Obj := match Nat.beq i 0 with
  | true => none
  | false => nwAt st.nw 0
noncomputable abbrev TurnGoal (w : World) (scr : Obj) (h₀ : Heap) (A : Around) (R : Result → Shared → Prop) (d : Drawn) (os : OsState) (HH : Nat → Code → Own → Option Obj → Nat → Prop) (PP : Result ⊕ Code → Own → Nat → Nat → Nat → Array GenState → Prop)
    (C : Ctr) (fr : Addr) (hl : List Nat) (hs : List (List Nat)) (hc : List Nat) (base : Own) (N t : Nat) (g : Array GenState) : Prop :=
  evCode (cfg w scr h₀ A 600 R d os) (Mine.run (cfg w scr h₀ A 600 R d os) [C, tokCtr (fun _ => .ok (.ret (.bool true))) 0 900] (fun i c st _ => HH i c st.base (newest i st) (st.N + (st.n - 1))) primQ (view PP) 520) (rtLoop w.params fr) hl hs hc [] True base [] 0 0 N t g []
set_option maxHeartbeats 0
theorem turn_t1 (w₀ : World) (b1 b2 : Bool) (w : World) (hw : w = wf w₀ b1 b2) (scr : Obj) (h₀ : Heap) (A : Around) (R : Result → Shared → Prop) (d : Drawn) (os : OsState) (HH : Nat → Code → Own → Option Obj → Nat → Prop) (PP : Result ⊕ Code → Own → Nat → Nat → Nat → Array GenState → Prop)
    (T : IoT) (L : LexT) (F : Nat → Nat) (buf tok nc : Str) (q : Bool) (ln : Int) (i tp tl tt ts te kn tn c m N t : Nat) (g : Array GenState) (a b ld lx pb fs fr : Addr) (rest : Own) :
    TurnGoal w scr h₀ A R d os HH PP (rdCtr w.params T buf (Int.ofNat (i + 1)) a b ⟨#[c]⟩ 4) fr tnA [t1B] [0, 0, 0, 2, 0, 4, 2, 0, 0, 0, 0, 3, 3, 0, 2, 0, 2, 0, 0, 2, 0, 2, 0, 0, 0, 2, 0, 2, 0, 0, 0] ((a, ioDict w.params T buf (Int.ofNat i) tp) :: (b, ioInst a) :: (ld, lexDict w.params L b pb fs (.str ⟨#[32]⟩ ts) ln tl (tok) tt) :: (lx, lexInst ld) :: (fr, rtFr3 w.params F lx q te) :: rest) N t g =
    (Eqs (want [a, b, ld, lx, fr] N tnA) ∧ (True ∧ Str.length ⟨#[]⟩ = 0) ∧ HH 0 (.call (.ref 533) ⟨[.ref b, .int 1 (t + 6)], []⟩) ((a, ioDict w.params T buf (Int.ofNat i) tp) :: (b, ioInst a) :: (ld, lexDict w.params L b pb fs (.str ⟨#[32]⟩ ts) ln tl (tok) tt) :: (lx, lexInst ld) :: (fr, rtFr3 w.params F lx q te) :: rest) none (N + (1 - 1)) ∧
      ∀ x : Nat × Nat × Nat, Eqs (want [a, b, ld, lx, fr] N t1B) ∧ (((((((((True ∧ strEq ⟨#[c]⟩ ⟨#[10]⟩ = false) ∧ strEq ⟨#[32]⟩ ⟨#[32]⟩ = true) ∧ (Str.length ⟨#[c]⟩ ≠ 0 ∧ Str.length ⟨#[c]⟩ < 2 ^ 63)) ∧ strHas ⟨#[32, 9, 13, 10]⟩ ⟨#[c]⟩ = false) ∧ strHas ⟨#[]⟩ ⟨#[c]⟩ = false) ∧ strHas ⟨#[92]⟩ ⟨#[c]⟩ = false) ∧ strHas rtW ⟨#[c]⟩ = false) ∧ strHas ⟨#[]⟩ ⟨#[c]⟩ = false) ∧ strHas ⟨#[39, 34]⟩ ⟨#[c]⟩ = false) ∧ PP (.inr (rtLoop w.params fr)) ((a, ioDict w.params T buf (Int.ofNat (i + 1)) x.2.1) :: (b, ioInst a) :: (ld, lexDict w.params L b pb fs (.str ⟨#[97]⟩ (t + (7 + x.2.2 + 21))) ln tl (⟨#[c]⟩) x.1) :: (lx, lexInst ld) :: (fr, rtFr4 w.params F lx q te (t + (7 + x.2.2 + 0)) ⟨#[c]⟩ x.1) :: rest) 6 N (t + (7 + x.2.2 + 24)) g) := by
  subst hw
  cases b1 <;> kernel_rfl
theorem turn_t1w (w₀ : World) (b1 b2 : Bool) (w : World) (hw : w = wf w₀ b1 b2) (scr : Obj) (h₀ : Heap) (A : Around) (R : Result → Shared → Prop) (d : Drawn) (os : OsState) (HH : Nat → Code → Own → Option Obj → Nat → Prop) (PP : Result ⊕ Code → Own → Nat → Nat → Nat → Array GenState → Prop)
    (T : IoT) (L : LexT) (F : Nat → Nat) (buf tok nc : Str) (q : Bool) (ln : Int) (i tp tl tt ts te kn tn c m N t : Nat) (g : Array GenState) (a b ld lx pb fs fr : Addr) (rest : Own) :
    TurnGoal w scr h₀ A R d os HH PP (rdCtr w.params T buf (Int.ofNat (i + 1)) a b ⟨#[c]⟩ 4) fr tnA [t1wB] [0, 0, 0, 2, 0, 4, 2, 0, 0, 0, 0, 3, 3, 0, 2, 0, 2, 0, 0, 2, 0, 3, 0, 0] ((a, ioDict w.params T buf (Int.ofNat i) tp) :: (b, ioInst a) :: (ld, lexDict w.params L b pb fs (.str ⟨#[32]⟩ ts) ln tl (tok) tt) :: (lx, lexInst ld) :: (fr, rtFr3 w.params F lx q te) :: rest) N t g =
    (Eqs (want [a, b, ld, lx, fr] N tnA) ∧ (True ∧ Str.length ⟨#[]⟩ = 0) ∧ HH 0 (.call (.ref 533) ⟨[.ref b, .int 1 (t + 6)], []⟩) ((a, ioDict w.params T buf (Int.ofNat i) tp) :: (b, ioInst a) :: (ld, lexDict w.params L b pb fs (.str ⟨#[32]⟩ ts) ln tl (tok) tt) :: (lx, lexInst ld) :: (fr, rtFr3 w.params F lx q te) :: rest) none (N + (1 - 1)) ∧
      ∀ x : Nat × Nat × Nat, Eqs (want [a, b, ld, lx, fr] N t1wB) ∧ (((((((True ∧ strEq ⟨#[c]⟩ ⟨#[10]⟩ = false) ∧ strEq ⟨#[32]⟩ ⟨#[32]⟩ = true) ∧ (Str.length ⟨#[c]⟩ ≠ 0 ∧ Str.length ⟨#[c]⟩ < 2 ^ 63)) ∧ strHas ⟨#[32, 9, 13, 10]⟩ ⟨#[c]⟩ = false) ∧ strHas ⟨#[]⟩ ⟨#[c]⟩ = false) ∧ strHas ⟨#[92]⟩ ⟨#[c]⟩ = false) ∧ strHas rtW ⟨#[c]⟩ = true) ∧ PP (.inr (rtLoop w.params fr)) ((a, ioDict w.params T buf (Int.ofNat (i + 1)) x.2.1) :: (b, ioInst a) :: (ld, lexDict w.params L b pb fs (.str ⟨#[97]⟩ (t + (7 + x.2.2 + 16))) ln tl (⟨#[c]⟩) x.1) :: (lx, lexInst ld) :: (fr, rtFr4 w.params F lx q te (t + (7 + x.2.2 + 0)) ⟨#[c]⟩ x.1) :: rest) 5 N (t + (7 + x.2.2 + 19)) g) := by
  subst hw
  cases b1 <;> kernel_rfl
theorem turn_t2 (w₀ : World) (b1 b2 : Bool) (w : World) (hw : w = wf w₀ b1 b2) (scr : Obj) (h₀ : Heap) (A : Around) (R : Result → Shared → Prop) (d : Drawn) (os : OsState) (HH : Nat → Code → Own → Option Obj → Nat → Prop) (PP : Result ⊕ Code → Own → Nat → Nat → Nat → Array GenState → Prop)
    (T : IoT) (L : LexT) (F : Nat → Nat) (buf tok nc : Str) (q : Bool) (ln : Int) (i tp tl tt ts te kn tn c m N t : Nat) (g : Array GenState) (a b ld lx pb fs fr : Addr) (rest : Own) :
    TurnGoal w scr h₀ A R d os HH PP (rdCtr w.params T buf (Int.ofNat (i + 1)) a b ⟨#[m]⟩ 4) fr tnA [t2B, t2D] [0, 0, 0, 2, 0, 4, 2, 0, 0, 0, 0, 2, 0, 0, 2, 0, 0, 2, 0, 5, 3, 0, 2, 0, 2, 0, 2, 0, 0, 3, 0] ((a, ioDict w.params T buf (Int.ofNat i) tp) :: (b, ioInst a) :: (ld, lexDict w.params L b pb fs (.str ⟨#[97]⟩ ts) ln tl (tok) tt) :: (lx, lexInst ld) :: (fr, rtFr4 w.params F lx q te kn nc tn) :: rest) N t g =
    (Eqs (want [a, b, ld, lx, fr] N tnA) ∧ (True ∧ Str.length ⟨#[]⟩ = 0) ∧ HH 0 (.call (.ref 533) ⟨[.ref b, .int 1 (t + 6)], []⟩) ((a, ioDict w.params T buf (Int.ofNat i) tp) :: (b, ioInst a) :: (ld, lexDict w.params L b pb fs (.str ⟨#[97]⟩ ts) ln tl (tok) tt) :: (lx, lexInst ld) :: (fr, rtFr4 w.params F lx q te kn nc tn) :: rest) none (N + (1 - 1)) ∧
      ∀ x : Nat × Nat × Nat, Eqs (want [a, b, ld, lx, fr] N t2B) ∧ ((((True ∧ strEq ⟨#[m]⟩ ⟨#[10]⟩ = false) ∧ strEq ⟨#[97]⟩ ⟨#[32]⟩ = false) ∧ strHas ⟨#[39, 34]⟩ ⟨#[97]⟩ = false) ∧ strHas ⟨#[92]⟩ ⟨#[97]⟩ = false) ∧ HH 1 (.call (.builtin "tuple.__contains__") ⟨[.ref (N + 5), .str ⟨#[97]⟩ ts], []⟩) ((a, ioDict w.params T buf (Int.ofNat (i + 1)) x.2.1) :: (b, ioInst a) :: (ld, lexDict w.params L b pb fs (.str ⟨#[97]⟩ ts) ln tl (tok) tt) :: (lx, lexInst ld) :: (fr, rtFr4 w.params F lx q te kn ⟨#[m]⟩ x.1) :: rest) (some (acTup (t + (7 + x.2.2 + 12)) (t + (7 + x.2.2 + 13)))) (N + (6 - 1)) ∧ ∀ _ : Unit, Eqs (want [a, b, ld, lx, fr] N t2D) ∧ (((((True ∧ (Str.length ⟨#[m]⟩ ≠ 0 ∧ Str.length ⟨#[m]⟩ < 2 ^ 63)) ∧ strHas ⟨#[32, 9, 13, 10]⟩ ⟨#[m]⟩ = false) ∧ strHas ⟨#[]⟩ ⟨#[m]⟩ = false) ∧ strEq ⟨#[97]⟩ ⟨#[99]⟩ = false) ∧ strHas ⟨#[39, 34]⟩ ⟨#[m]⟩ = true) ∧ PP (.inr (rtLoop w.params fr)) ((a, ioDict w.params T buf (Int.ofNat (i + 1)) x.2.1) :: (b, ioInst a) :: (ld, lexDict w.params L b pb fs (.str ⟨#[m]⟩ x.1) ln tl (tok) tt) :: (lx, lexInst ld) :: (fr, rtFr4 w.params F lx q te kn ⟨#[m]⟩ x.1) :: rest) 6 N (t + (7 + x.2.2 + 24)) g) := by
  subst hw
  cases b1 <;> kernel_rfl
theorem turn_t3 (w₀ : World) (b1 b2 : Bool) (w : World) (hw : w = wf w₀ b1 b2) (scr : Obj) (h₀ : Heap) (A : Around) (R : Result → Shared → Prop) (d : Drawn) (os : OsState) (HH : Nat → Code → Own → Option Obj → Nat → Prop) (PP : Result ⊕ Code → Own → Nat → Nat → Nat → Array GenState → Prop)
    (T : IoT) (L : LexT) (F : Nat → Nat) (buf tok nc : Str) (q : Bool) (ln : Int) (i tp tl tt ts te kn tn c m N t : Nat) (g : Array GenState) (a b ld lx pb fs fr : Addr) (rest : Own) :
    TurnGoal w scr h₀ A R d os HH PP (rdCtr w.params T buf (Int.ofNat (i + 1)) a b ⟨#[c]⟩ 4) fr tnA [t3B] [0, 0, 0, 2, 0, 4, 2, 0, 0, 0, 0, 2, 0, 0, 3, 3, 0, 2, 0, 0, 2, 0, 1, 0] ((a, ioDict w.params T buf (Int.ofNat i) tp) :: (b, ioInst a) :: (ld, lexDict w.params L b pb fs (.str ⟨#[m]⟩ ts) ln tl (tok) tt) :: (lx, lexInst ld) :: (fr, rtFr4 w.params F lx q te kn nc tn) :: rest) N t g =
    (Eqs (want [a, b, ld, lx, fr] N tnA) ∧ (True ∧ Str.length ⟨#[]⟩ = 0) ∧ HH 0 (.call (.ref 533) ⟨[.ref b, .int 1 (t + 6)], []⟩) ((a, ioDict w.params T buf (Int.ofNat i) tp) :: (b, ioInst a) :: (ld, lexDict w.params L b pb fs (.str ⟨#[m]⟩ ts) ln tl (tok) tt) :: (lx, lexInst ld) :: (fr, rtFr4 w.params F lx q te kn nc tn) :: rest) none (N + (1 - 1)) ∧
      ∀ x : Nat × Nat × Nat, Eqs (want [a, b, ld, lx, fr] N t3B) ∧ (((((((True ∧ strEq ⟨#[c]⟩ ⟨#[10]⟩ = false) ∧ strEq ⟨#[m]⟩ ⟨#[32]⟩ = false) ∧ strHas ⟨#[39, 34]⟩ ⟨#[m]⟩ = true) ∧ (Str.length ⟨#[c]⟩ ≠ 0 ∧ Str.length ⟨#[c]⟩ < 2 ^ 63)) ∧ strEq ⟨#[c]⟩ ⟨#[m]⟩ = false) ∧ strHas ⟨#[92]⟩ ⟨#[c]⟩ = false) ∧ (Str.length tok ≠ 0 ∧ Str.length ⟨#[c]⟩ ≠ 0 ∧ Str.length (tok ++ ⟨#[c]⟩) ≤ sizeLine)) ∧ PP (.inr (rtLoop w.params fr)) ((a, ioDict w.params T buf (Int.ofNat (i + 1)) x.2.1) :: (b, ioInst a) :: (ld, lexDict w.params L b pb fs (.str ⟨#[m]⟩ ts) ln tl (tok ++ ⟨#[c]⟩) (t + (7 + x.2.2 + 16))) :: (lx, lexInst ld) :: (fr, rtFr4 w.params F lx true te kn ⟨#[c]⟩ x.1) :: rest) 5 N (t + (7 + x.2.2 + 19)) g) := by
  subst hw
  cases b1 <;> kernel_rfl
theorem turn_t3n (w₀ : World) (b1 b2 : Bool) (w : World) (hw : w = wf w₀ b1 b2) (scr : Obj) (h₀ : Heap) (A : Around) (R : Result → Shared → Prop) (d : Drawn) (os : OsState) (HH : Nat → Code → Own → Option Obj → Nat → Prop) (PP : Result ⊕ Code → Own → Nat → Nat → Nat → Array GenState → Prop)
    (T : IoT) (L : LexT) (F : Nat → Nat) (buf tok nc : Str) (q : Bool) (ln : Int) (i tp tl tt ts te kn tn c m N t : Nat) (g : Array GenState) (a b ld lx pb fs fr : Addr) (rest : Own) :
    TurnGoal w scr h₀ A R d os HH PP (rdCtr w.params T buf (Int.ofNat (i + 1)) a b ⟨#[c]⟩ 4) fr tnA [t3nB] [0, 0, 0, 2, 0, 4, 3, 0, 0, 0, 0, 0, 0, 0, 2, 0, 0, 3, 3, 0, 2, 0, 0, 2, 0, 1, 0] ((a, ioDict w.params T buf (Int.ofNat i) tp) :: (b, ioInst a) :: (ld, lexDict w.params L b pb fs (.str ⟨#[m]⟩ ts) ln tl (tok) tt) :: (lx, lexInst ld) :: (fr, rtFr4 w.params F lx q te kn nc tn) :: rest) N t g =
    (Eqs (want [a, b, ld, lx, fr] N tnA) ∧ (True ∧ Str.length ⟨#[]⟩ = 0) ∧ HH 0 (.call (.ref 533) ⟨[.ref b, .int 1 (t + 6)], []⟩) ((a, ioDict w.params T buf (Int.ofNat i) tp) :: (b, ioInst a) :: (ld, lexDict w.params L b pb fs (.str ⟨#[m]⟩ ts) ln tl (tok) tt) :: (lx, lexInst ld) :: (fr, rtFr4 w.params F lx q te kn nc tn) :: rest) none (N + (1 - 1)) ∧
      ∀ x : Nat × Nat × Nat, Eqs (want [a, b, ld, lx, fr] N t3nB) ∧ (((((((True ∧ strEq ⟨#[c]⟩ ⟨#[10]⟩ = true) ∧ strEq ⟨#[m]⟩ ⟨#[32]⟩ = false) ∧ strHas ⟨#[39, 34]⟩ ⟨#[m]⟩ = true) ∧ (Str.length ⟨#[c]⟩ ≠ 0 ∧ Str.length ⟨#[c]⟩ < 2 ^ 63)) ∧ strEq ⟨#[c]⟩ ⟨#[m]⟩ = false) ∧ strHas ⟨#[92]⟩ ⟨#[c]⟩ = false) ∧ (Str.length tok ≠ 0 ∧ Str.length ⟨#[c]⟩ ≠ 0 ∧ Str.length (tok ++ ⟨#[c]⟩) ≤ sizeLine)) ∧ PP (.inr (rtLoop w.params fr)) ((a, ioDict w.params T buf (Int.ofNat (i + 1)) x.2.1) :: (b, ioInst a) :: (ld, lexDict w.params L b pb fs (.str ⟨#[m]⟩ ts) (ln + 1) (t + (7 + x.2.2 + 4)) (tok ++ ⟨#[c]⟩) (t + (7 + x.2.2 + 21))) :: (lx, lexInst ld) :: (fr, rtFr4 w.params F lx true te kn ⟨#[c]⟩ x.1) :: rest) 5 N (t + (7 + x.2.2 + 24)) g) := by
  subst hw
  cases b1 <;> kernel_rfl
theorem turn_t4 (w₀ : World) (b1 b2 : Bool) (w : World) (hw : w = wf w₀ b1 b2) (scr : Obj) (h₀ : Heap) (A : Around) (R : Result → Shared → Prop) (d : Drawn) (os : OsState) (HH : Nat → Code → Own → Option Obj → Nat → Prop) (PP : Result ⊕ Code → Own → Nat → Nat → Nat → Array GenState → Prop)
    (T : IoT) (L : LexT) (F : Nat → Nat) (buf tok nc : Str) (q : Bool) (ln : Int) (i tp tl tt ts te kn tn c m N t : Nat) (g : Array GenState) (a b ld lx pb fs fr : Addr) (rest : Own) :
    TurnGoal w scr h₀ A R d os HH PP (rdCtr w.params T buf (Int.ofNat (i + 1)) a b ⟨#[m]⟩ 4) fr tnA [t4B] [0, 0, 0, 2, 0, 4, 2, 0, 0, 0, 0, 2, 0, 0, 3, 3, 0, 3, 0, 0] ((a, ioDict w.params T buf (Int.ofNat i) tp) :: (b, ioInst a) :: (ld, lexDict w.params L b pb fs (.str ⟨#[m]⟩ ts) ln tl (tok) tt) :: (lx, lexInst ld) :: (fr, rtFr4 w.params F lx q te kn nc tn) :: rest) N t g =
    (Eqs (want [a, b, ld, lx, fr] N tnA) ∧ (True ∧ Str.length ⟨#[]⟩ = 0) ∧ HH 0 (.call (.ref 533) ⟨[.ref b, .int 1 (t + 6)], []⟩) ((a, ioDict w.params T buf (Int.ofNat i) tp) :: (b, ioInst a) :: (ld, lexDict w.params L b pb fs (.str ⟨#[m]⟩ ts) ln tl (tok) tt) :: (lx, lexInst ld) :: (fr, rtFr4 w.params F lx q te kn nc tn) :: rest) none (N + (1 - 1)) ∧
      ∀ x : Nat × Nat × Nat, Eqs (want [a, b, ld, lx, fr] N t4B) ∧ (((((True ∧ strEq ⟨#[m]⟩ ⟨#[10]⟩ = false) ∧ strEq ⟨#[m]⟩ ⟨#[32]⟩ = false) ∧ strHas ⟨#[39, 34]⟩ ⟨#[m]⟩ = true) ∧ (Str.length ⟨#[m]⟩ ≠ 0 ∧ Str.length ⟨#[m]⟩ < 2 ^ 63)) ∧ strEq ⟨#[m]⟩ ⟨#[m]⟩ = true) ∧ PP (.inr (rtLoop w.params fr)) ((a, ioDict w.params T buf (Int.ofNat (i + 1)) x.2.1) :: (b, ioInst a) :: (ld, lexDict w.params L b pb fs (.str ⟨#[97]⟩ (t + (7 + x.2.2 + 14))) ln tl (tok) tt) :: (lx, lexInst ld) :: (fr, rtFr4 w.params F lx true te kn ⟨#[m]⟩ x.1) :: rest) 5 N (t + (7 + x.2.2 + 17)) g) := by
  subst hw
  cases b1 <;> kernel_rfl
theorem turn_t5 (w₀ : World) (b1 b2 : Bool) (w : World) (hw : w = wf w₀ b1 b2) (scr : Obj) (h₀ : Heap) (A : Around) (R : Result → Shared → Prop) (d : Drawn) (os : OsState) (HH : Nat → Code → Own → Option Obj → Nat → Prop) (PP : Result ⊕ Code → Own → Nat → Nat → Nat → Array GenState → Prop)
    (T : IoT) (L : LexT) (F : Nat → Nat) (buf tok nc : Str) (q : Bool) (ln : Int) (i tp tl tt ts te kn tn c m N t : Nat) (g : Array GenState) (a b ld lx pb fs fr : Addr) (rest : Own) :
    TurnGoal w scr h₀ A R d os HH PP (rdCtr w.params T buf (Int.ofNat i) a b ⟨#[]⟩ 3) fr tnA [t5B, t5D] [0, 0, 0, 2, 0, 4, 2, 0, 0, 0, 0, 2, 0, 0, 2, 0, 0, 2, 0, 5, 2, 0] ((a, ioDict w.params T buf (Int.ofNat i) tp) :: (b, ioInst a) :: (ld, lexDict w.params L b pb fs (.str ⟨#[97]⟩ ts) ln tl (tok) tt) :: (lx, lexInst ld) :: (fr, rtFr4 w.params F lx q te kn nc tn) :: rest) N t g =
    (Eqs (want [a, b, ld, lx, fr] N tnA) ∧ (True ∧ Str.length ⟨#[]⟩ = 0) ∧ HH 0 (.call (.ref 533) ⟨[.ref b, .int 1 (t + 6)], []⟩) ((a, ioDict w.params T buf (Int.ofNat i) tp) :: (b, ioInst a) :: (ld, lexDict w.params L b pb fs (.str ⟨#[97]⟩ ts) ln tl (tok) tt) :: (lx, lexInst ld) :: (fr, rtFr4 w.params F lx q te kn nc tn) :: rest) none (N + (1 - 1)) ∧
      ∀ x : Nat × Nat × Nat, Eqs (want [a, b, ld, lx, fr] N t5B) ∧ ((((True ∧ strEq ⟨#[]⟩ ⟨#[10]⟩ = false) ∧ strEq ⟨#[97]⟩ ⟨#[32]⟩ = false) ∧ strHas ⟨#[39, 34]⟩ ⟨#[97]⟩ = false) ∧ strHas ⟨#[92]⟩ ⟨#[97]⟩ = false) ∧ HH 1 (.call (.builtin "tuple.__contains__") ⟨[.ref (N + 4), .str ⟨#[97]⟩ ts], []⟩) ((a, ioDict w.params T buf (Int.ofNat i) x.2.1) :: (b, ioInst a) :: (ld, lexDict w.params L b pb fs (.str ⟨#[97]⟩ ts) ln tl (tok) tt) :: (lx, lexInst ld) :: (fr, rtFr4 w.params F lx q te kn ⟨#[]⟩ x.1) :: rest) (some (acTup (t + (7 + x.2.2 + 12)) (t + (7 + x.2.2 + 13)))) (N + (5 - 1)) ∧ ∀ _ : Unit, Eqs (want [a, b, ld, lx, fr] N t5D) ∧ (True ∧ Str.length ⟨#[]⟩ = 0) ∧ PP (.inl (.ok .next)) ((a, ioDict w.params T buf (Int.ofNat i) x.2.1) :: (b, ioInst a) :: (ld, lexDict w.params L b pb fs (.none) ln tl (tok) tt) :: (lx, lexInst ld) :: (fr, rtFr4 w.params F lx q te kn ⟨#[]⟩ x.1) :: rest) 5 N (t + (7 + x.2.2 + 18)) g) := by
  subst hw
  cases b1 <;> kernel_rfl
theorem turn_t6 (w₀ : World) (b1 b2 : Bool) (w : World) (hw : w = wf w₀ b1 b2) (scr : Obj) (h₀ : Heap) (A : Around) (R : Result → Shared → Prop) (d : Drawn) (os : OsState) (HH : Nat → Code → Own → Option Obj → Nat → Prop) (PP : Result ⊕ Code → Own → Nat → Nat → Nat → Array GenState → Prop)
    (T : IoT) (L : LexT) (F : Nat → Nat) (buf tok nc : Str) (q : Bool) (ln : Int) (i tp tl tt ts te kn tn c m N t : Nat) (g : Array GenState) (a b ld lx pb fs fr : Addr) (rest : Own) :
    TurnGoal w scr h₀ A R d os HH PP (rdCtr w.params T buf (Int.ofNat i) a b ⟨#[]⟩ 3) fr tnA [t6B] [0, 0, 0, 2, 0, 4, 2, 0, 0, 0, 0] ((a, ioDict w.params T buf (Int.ofNat i) tp) :: (b, ioInst a) :: (ld, lexDict w.params L b pb fs (.none) ln tl (tok) tt) :: (lx, lexInst ld) :: (fr, rtFr3 w.params F lx q te) :: rest) N t g =
    (Eqs (want [a, b, ld, lx, fr] N tnA) ∧ (True ∧ Str.length ⟨#[]⟩ = 0) ∧ HH 0 (.call (.ref 533) ⟨[.ref b, .int 1 (t + 6)], []⟩) ((a, ioDict w.params T buf (Int.ofNat i) tp) :: (b, ioInst a) :: (ld, lexDict w.params L b pb fs (.none) ln tl (tok) tt) :: (lx, lexInst ld) :: (fr, rtFr3 w.params F lx q te) :: rest) none (N + (1 - 1)) ∧
      ∀ x : Nat × Nat × Nat, Eqs (want [a, b, ld, lx, fr] N t6B) ∧ (True ∧ strEq ⟨#[]⟩ ⟨#[10]⟩ = false) ∧ PP (.inl (.ok .next)) ((a, ioDict w.params T buf (Int.ofNat i) x.2.1) :: (b, ioInst a) :: (ld, lexDict w.params L b pb fs (.none) ln tl (⟨#[]⟩) (t + (7 + x.2.2 + 5))) :: (lx, lexInst ld) :: (fr, rtFr4 w.params F lx q te (t + (7 + x.2.2 + 0)) ⟨#[]⟩ x.1) :: rest) 4 N (t + (7 + x.2.2 + 8)) g) := by
  subst hw
  cases b1 <;> kernel_rfl
theorem turn_t7 (w₀ : World) (b1 b2 : Bool) (w : World) (hw : w = wf w₀ b1 b2) (scr : Obj) (h₀ : Heap) (A : Around) (R : Result → Shared → Prop) (d : Drawn) (os : OsState) (HH : Nat → Code → Own → Option Obj → Nat → Prop) (PP : Result ⊕ Code → Own → Nat → Nat → Nat → Array GenState → Prop)
    (T : IoT) (L : LexT) (F : Nat → Nat) (buf tok nc : Str) (q : Bool) (ln : Int) (i tp tl tt ts te kn tn c m N t : Nat) (g : Array GenState) (a b ld lx pb fs fr : Addr) (rest : Own) :
    TurnGoal w scr h₀ A R d os HH PP (rdCtr w.params T buf (Int.ofNat (i + 1)) a b ⟨#[c]⟩ 4) fr tnA [t7B, t7D] [0, 0, 0, 2, 0, 4, 2, 0, 0, 0, 0, 2, 0, 0, 2, 0, 0, 2, 0, 5, 3, 0, 3, 0, 0, 0, 0, 3] ((a, ioDict w.params T buf (Int.ofNat i) tp) :: (b, ioInst a) :: (ld, lexDict w.params L b pb fs (.str ⟨#[97]⟩ ts) ln tl (tok) tt) :: (lx, lexInst ld) :: (fr, rtFr4 w.params F lx q te kn nc tn) :: rest) N t g =
    (Eqs (want [a, b, ld, lx, fr] N tnA) ∧ (True ∧ Str.length ⟨#[]⟩ = 0) ∧ HH 0 (.call (.ref 533) ⟨[.ref b, .int 1 (t + 6)], []⟩) ((a, ioDict w.params T buf (Int.ofNat i) tp) :: (b, ioInst a) :: (ld, lexDict w.params L b pb fs (.str ⟨#[97]⟩ ts) ln tl (tok) tt) :: (lx, lexInst ld) :: (fr, rtFr4 w.params F lx q te kn nc tn) :: rest) none (N + (1 - 1)) ∧
      ∀ x : Nat × Nat × Nat, Eqs (want [a, b, ld, lx, fr] N t7B) ∧ ((((True ∧ strEq ⟨#[c]⟩ ⟨#[10]⟩ = false) ∧ strEq ⟨#[97]⟩ ⟨#[32]⟩ = false) ∧ strHas ⟨#[39, 34]⟩ ⟨#[97]⟩ = false) ∧ strHas ⟨#[92]⟩ ⟨#[97]⟩ = false) ∧ HH 1 (.call (.builtin "tuple.__contains__") ⟨[.ref (N + 5), .str ⟨#[97]⟩ ts], []⟩) ((a, ioDict w.params T buf (Int.ofNat (i + 1)) x.2.1) :: (b, ioInst a) :: (ld, lexDict w.params L b pb fs (.str ⟨#[97]⟩ ts) ln tl (tok) tt) :: (lx, lexInst ld) :: (fr, rtFr4 w.params F lx q te kn ⟨#[c]⟩ x.1) :: rest) (some (acTup (t + (7 + x.2.2 + 12)) (t + (7 + x.2.2 + 13)))) (N + (6 - 1)) ∧ ∀ _ : Unit, Eqs (want [a, b, ld, lx, fr] N t7D) ∧ (((True ∧ (Str.length ⟨#[c]⟩ ≠ 0 ∧ Str.length ⟨#[c]⟩ < 2 ^ 63)) ∧ strHas ⟨#[32, 9, 13, 10]⟩ ⟨#[c]⟩ = true) ∧ (Str.length tok ≠ 0 ∧ Str.length tok < 2 ^ 63)) ∧ PP (.inl (.ok .next)) ((a, ioDict w.params T buf (Int.ofNat (i + 1)) x.2.1) :: (b, ioInst a) :: (ld, lexDict w.params L b pb fs (.str ⟨#[32]⟩ (t + (7 + x.2.2 + 19))) ln tl (tok) tt) :: (lx, lexInst ld) :: (fr, rtFr4 w.params F lx q te kn ⟨#[c]⟩ x.1) :: rest) 6 N (t + (7 + x.2.2 + 25)) g) := by
  subst hw
  cases b1 <;> kernel_rfl
theorem turn_t7n (w₀ : World) (b1 b2 : Bool) (w : World) (hw : w = wf w₀ b1 b2) (scr : Obj) (h₀ : Heap) (A : Around) (R : Result → Shared → Prop) (d : Drawn) (os : OsState) (HH : Nat → Code → Own → Option Obj → Nat → Prop) (PP : Result ⊕ Code → Own → Nat → Nat → Nat → Array GenState → Prop)
    (T : IoT) (L : LexT) (F : Nat → Nat) (buf tok nc : Str) (q : Bool) (ln : Int) (i tp tl tt ts te kn tn c m N t : Nat) (g : Array GenState) (a b ld lx pb fs fr : Addr) (rest : Own) :
    TurnGoal w scr h₀ A R d os HH PP (rdCtr w.params T buf (Int.ofNat (i + 1)) a b ⟨#[c]⟩ 4) fr tnA [t7nB, t7nD] [0, 0, 0, 2, 0, 4, 3, 0, 0, 0, 0, 0, 0, 0, 2, 0, 0, 2, 0, 0, 2, 0, 5, 3, 0, 3, 0, 0, 0, 0, 3] ((a, ioDict w.params T buf (Int.ofNat i) tp) :: (b, ioInst a) :: (ld, lexDict w.params L b pb fs (.str ⟨#[97]⟩ ts) ln tl (tok) tt) :: (lx, lexInst ld) :: (fr, rtFr4 w.params F lx q te kn nc tn) :: rest) N t g =
    (Eqs (want [a, b, ld, lx, fr] N tnA) ∧ (True ∧ Str.length ⟨#[]⟩ = 0) ∧ HH 0 (.call (.ref 533) ⟨[.ref b, .int 1 (t + 6)], []⟩) ((a, ioDict w.params T buf (Int.ofNat i) tp) :: (b, ioInst a) :: (ld, lexDict w.params L b pb fs (.str ⟨#[97]⟩ ts) ln tl (tok) tt) :: (lx, lexInst ld) :: (fr, rtFr4 w.params F lx q te kn nc tn) :: rest) none (N + (1 - 1)) ∧
      ∀ x : Nat × Nat × Nat, Eqs (want [a, b, ld, lx, fr] N t7nB) ∧ ((((True ∧ strEq ⟨#[c]⟩ ⟨#[10]⟩ = true) ∧ strEq ⟨#[97]⟩ ⟨#[32]⟩ = false) ∧ strHas ⟨#[39, 34]⟩ ⟨#[97]⟩ = false) ∧ strHas ⟨#[92]⟩ ⟨#[97]⟩ = false) ∧ HH 1 (.call (.builtin "tuple.__contains__") ⟨[.ref (N + 5), .str ⟨#[97]⟩ ts], []⟩) ((a, ioDict w.params T buf (Int.ofNat (i + 1)) x.2.1) :: (b, ioInst a) :: (ld, lexDict w.params L b pb fs (.str ⟨#[97]⟩ ts) (ln + 1) (t + (7 + x.2.2 + 4)) (tok) tt) :: (lx, lexInst ld) :: (fr, rtFr4 w.params F lx q te kn ⟨#[c]⟩ x.1) :: rest) (some (acTup (t + (7 + x.2.2 + 17)) (t + (7 + x.2.2 + 18)))) (N + (6 - 1)) ∧ ∀ _ : Unit, Eqs (want [a, b, ld, lx, fr] N t7nD) ∧ (((True ∧ (Str.length ⟨#[c]⟩ ≠ 0 ∧ Str.length ⟨#[c]⟩ < 2 ^ 63)) ∧ strHas ⟨#[32, 9, 13, 10]⟩ ⟨#[c]⟩ = true) ∧ (Str.length tok ≠ 0 ∧ Str.length tok < 2 ^ 63)) ∧ PP (.inl (.ok .next)) ((a, ioDict w.params T buf (Int.ofNat (i + 1)) x.2.1) :: (b, ioInst a) :: (ld, lexDict w.params L b pb fs (.str ⟨#[32]⟩ (t + (7 + x.2.2 + 24))) (ln + 1) (t + (7 + x.2.2 + 4)) (tok) tt) :: (lx, lexInst ld) :: (fr, rtFr4 w.params F lx q te kn ⟨#[c]⟩ x.1) :: rest) 6 N (t + (7 + x.2.2 + 30)) g) := by
  subst hw
  cases b1 <;> kernel_rfl
end Mine
end Turn

section Loop
open PySem PySem.Calls PySem.W PySem.W.X PyProof.Rows
set_option Elab.async false
set_option maxRecDepth 100000
namespace Mine
/-- the state of things between two steps of ours -/
noncomputable abbrev RepC (w : World) (scr : Obj) (h₀ : Heap) (d : Drawn) (os : OsState) : Heap → St → Prop := Rep (cfg w scr h₀ callerA 0 (fun _ _ => True) d os)
/-- behind a segment: the new objects are forgotten -/
theorem Rep.anew {V : Cfg} {h : Heap} {base : Own} {nw : List (Option Obj)} {n j N t : Nat} {g : Array GenState} (D : Rep V h ⟨base, nw, n, j, N, t, g⟩) (t' : Nat) : Rep V h ⟨base, [], 0, 0, N + n, t', g⟩ := by
  have F := D.flat
  exact F.sub (fun p hp => List.mem_append.mpr (.inl hp)) D.nod
theorem strsAre_ac (t1 t2 : Nat) : StrsAre [Value.str ⟨#[97]⟩ t1, Value.str ⟨#[99]⟩ t2] [⟨#[97]⟩, ⟨#[99]⟩] := by
  first | exact .cons (.cons .nil) | (constructor; constructor; constructor) | simp [StrsAre]
theorem p_inTup {prog : Program} {w : World} {A : Around} {s : Shared} {R : Result → Shared → Prop} {ad t1 t2 ts : Nat} (ho : s.heap.get? ad = some (acTup t1 t2)) (z : R (.ok (.ret (.bool true))) s) :
    codeAny (model prog w) A (.call (.builtin "tuple.__contains__") ⟨[.ref ad, .str ⟨#[97]⟩ ts], []⟩) R s := by
  refine codeAny_call_builtin PySem.F.slot_tuple_contains.plain PySem.F.entry_tuple_contains (PySem.F.slot_tuple_contains.check _ _ _ _ _ _ _ _ ⟨_, ho, rfl⟩ (PySem.F.args_tuple_contains_2 _ _) ?_)
  refine tuple_contains_strs (ys := [⟨#[97]⟩, ⟨#[99]⟩]) (items := #[.str ⟨#[97]⟩ t1, .str ⟨#[99]⟩ t2]) ?_ (strsAre_ac t1 t2) ?_
  · first | exact ⟨_, ho, rfl, 0, rfl⟩ | exact ⟨_, 0, ho, rfl, rfl⟩ | exact ⟨_, ho, rfl, rfl⟩
  · exact z
end Mine
end Loop

section Loop2
open PySem PySem.Calls PySem.W PySem.W.X PyProof.Rows
set_option Elab.async false
set_option maxRecDepth 100000
namespace Mine
/-- what a turn's contracts are asked -/
noncomputable abbrev turnHH (base0 : Own) (b : Addr) : Nat → Code → Own → Option Obj → Nat → Prop := fun i c B o ad => match i with
  | 0 => ∃ t1, c = .call (.ref 533) ⟨[.ref b, .int 1 t1], []⟩ ∧ B = base0
  | _ => ∃ t1 t2 ts, c = .call (.builtin "tuple.__contains__") ⟨[.ref ad, .str ⟨#[97]⟩ ts], []⟩ ∧ o = some (acTup t1 t2)
/-- what stands behind a turn -/
noncomputable abbrev turnPP (w : World) (scr : Obj) (h₀ : Heap) (A : Around) (R : Result → Shared → Prop) (d : Drawn) (os : OsState) (N : Nat) (g : Array GenState) : Result ⊕ Code → Own → Nat → Nat → Nat → Array GenState → Prop :=
  fun r B n N' tk g' => N' = N ∧ g' = g ∧ ∀ h', RepC w scr h₀ d os h' ⟨B, [], 0, 0, N + n, tk, g⟩ → match r with
    | .inl r => R r ⟨h', g, d, tk, os⟩
    | .inr c => codeAny (model PySem.Challenge.pw_nq0197_01 w) A c R ⟨h', g, d, tk, os⟩
theorem turn_gen {w : World} {scr : Obj} {h₀ : Heap} (G : Grd w scr h₀) {A : Around} {R : Result → Shared → Prop} {d : Drawn} {os : OsState} (lo : Lo A 600) {C : Ctr} {fr b : Addr} {hl : List Nat} {hs : List (List Nat)} {hc : List Nat} {base : Own} {N t : Nat} {g : Array GenState} {h : Heap}
    (hC : ∀ (t1 : Nat) (nw : List (Option Obj)) (n j N t : Nat) (g : Array GenState) (fr : Option (List Env)), CtrOk (cfg w scr h₀ A 600 R d os) C (.call (.ref 533) ⟨[.ref b, .int 1 t1], []⟩) ⟨base, nw, n, j, N, t, g⟩ fr)
    (X : TurnGoal w scr h₀ A R d os (turnHH base b) (turnPP w scr h₀ A R d os N g) C fr hl hs hc base N t g)
    (D : RepC w scr h₀ d os h ⟨base, [], 0, 0, N, t, g⟩) : codeAny (model PySem.Challenge.pw_nq0197_01 w) A (rtLoop w.params fr) R ⟨h, g, d, t, os⟩ := by
  refine code_by_run (V := cfg w scr h₀ A 600 R d os) (G.cfg lo) (prim_ok _) (fun i C' c st _ hi hh => ?_) (fun r st h' p D' => ?_) (fun c st h' p D' => ?_) 520 X (D.cast rfl rfl)
  · match i, hi with
    | 0, hi =>
      simp at hi
      subst hi
      obtain ⟨t1, rfl, e⟩ := hh
      obtain ⟨base', nw, n, j, N', t', g'⟩ := st
      simp only at e
      subst e
      exact hC t1 nw n j N' t' g' _
    | 1, hi =>
      simp at hi
      subst hi
      obtain ⟨t1, t2, ts, rfl, hs⟩ := hh
      intro A' h' R' lo' _ D' q'
      have hs' : nwAt st.nw 0 = some (acTup t1 t2) := hs
      rw [nwAt_eq] at hs'
      have hn : st.nw[0]? = some (some (acTup t1 t2)) := by
        revert hs'; cases st.nw[0]? <;> simp
      have hlen := D'.len
      have hpos : 0 < st.n := by
        rw [← hlen]
        obtain ⟨hl, _⟩ := List.getElem?_eq_some_iff.mp hn
        exact hl
      have ho := D'.new (st.n - 1) _ (by omega) (by rw [show st.n - 1 - (st.n - 1) = 0 by omega]; exact hn)
      refine p_inTup ho ?_
      exact q' () h' D'.toks
  · obtain ⟨e1, e2, p⟩ := p
    obtain ⟨base', nw, n, j, N', t', g'⟩ := st
    simp only at e1 e2 p D' ⊢
    subst e1 e2
    exact p h' ((D'.anew _).cast rfl rfl)
  · obtain ⟨e1, e2, p⟩ := p
    obtain ⟨base', nw, n, j, N', t', g'⟩ := st
    simp only at e1 e2 p D' ⊢
    subst e1 e2
    exact p h' ((D'.anew _).cast rfl rfl)

theorem has_one (x : Str) (c : Nat) : strHas x ⟨#[c]⟩ = decide (c ∈ x.cps.toList) := StrLaws.found_one x c
theorem has_self : strHas ⟨#[97]⟩ ⟨#[97]⟩ = true := by rw [has_one]; decide
theorem eq_one (a c : Nat) : strEq ⟨#[a]⟩ ⟨#[c]⟩ = decide (a = c) := by
  unfold strEq
  simp
  by_cases h : a = c <;> simp [h]
theorem eq_none (c : Nat) : strEq ⟨#[]⟩ ⟨#[c]⟩ = false := by
  unfold strEq; rfl
theorem len_one (c : Nat) : Str.length ⟨#[c]⟩ = 1 := rfl
end Mine
end Loop2

section Loop3
open PySem PySem.Calls PySem.W PySem.W.X PyProof.Rows
set_option Elab.async false
set_option maxRecDepth 100000
namespace Mine
/-- the word that read_token reads on, and what is left of the line behind the white sign -/
noncomputable def scan (m : Nat) : Bool → List Nat → Str → Str × Option (List Nat)
  | _, [], tok => (tok, none)
  | false, c :: l, tok => if c = m then scan m true l tok else (tok, some l)
  | true, c :: l, tok => if c = m then scan m false l tok else scan m true l (tok ++ ⟨#[c]⟩)
/-- whether a mark was met -/
noncomputable def scanQ (m : Nat) : Bool → List Nat → Bool → Bool
  | _, [], qd => qd
  | false, c :: l, qd => if c = m then scanQ m true l qd else qd
  | true, c :: l, _ => if c = m then scanQ m false l true else scanQ m true l true
/-- the shape of a line behind a letter -/
noncomputable def good (ℓ wh m : Nat) : Bool → List Nat → Prop
  | false, [] => True
  | true, [] => False
  | false, c :: l => if c = m then good ℓ wh m true l else c = wh ∧ match l with
    | [] => False
    | e :: l => e = ℓ ∧ good ℓ wh m false l
  | true, c :: l => if c = m then good ℓ wh m false l else (c = wh ∨ c = ℓ) ∧ good ℓ wh m true l
/-- the three signs -/
structure Sgn (ℓ wh m : Nat) : Prop where
  wh : wh = 32 ∨ wh = 9 ∨ wh = 10 ∨ wh = 13
  m : m = 39 ∨ m = 34
  ℓ : ℓ ≠ 32 ∧ ℓ ≠ 9 ∧ ℓ ≠ 10 ∧ ℓ ≠ 13 ∧ ℓ ≠ 39 ∧ ℓ ≠ 34 ∧ ℓ ≠ 92
noncomputable def svOf (m : Nat) (q : Bool) (ts : Nat) : Value := match q with
  | false => .str ⟨#[97]⟩ ts
  | true => .str ⟨#[m]⟩ ts
noncomputable def svEnd (o : Option (List Nat)) (ts : Nat) : Value := match o with
  | none => .none
  | some _ => .str ⟨#[32]⟩ ts
noncomputable def restOf (o : Option (List Nat)) : List Nat := o.getD []
structure LoopEnd where
  i : Nat
  tp : Nat
  ts : Nat
  ln : Int
  tl : Nat
  tt : Nat
  nc : Str
  tn : Nat
  N : Nat
  t : Nat
section
variable {w₀ : World} {b1 b2 : Bool} {w : World} (hw : w = wf w₀ b1 b2) {scr : Obj} {h₀ : Heap} (G : Grd w scr h₀) {d : Drawn} {os : OsState} {A : Around} (lo : Lo A 600) {R : Result → Shared → Prop}
    {T : IoT} {L : LexT} {F : Nat → Nat} {buf : Str} {ℓ wh m te kn : Nat} {g : Array GenState} {a b ld lx pb fs fr : Addr} {rest : Own} (S : Sgn ℓ wh m) (h1 : 1 < buf.length) (hz : buf.length < 10000)
noncomputable abbrev loopBase (P : Params) (T : IoT) (L : LexT) (F : Nat → Nat) (buf : Str) (te kn : Nat) (a b ld lx pb fs fr : Addr) (i tp : Nat) (sv : Value) (ln : Int) (tl : Nat) (tok : Str) (tt : Nat) (q : Bool) (nc : Str) (tn : Nat) (rest : Own) : Own :=
  (a, ioDict P T buf (Int.ofNat i) tp) :: (b, ioInst a) :: (ld, lexDict P L b pb fs sv ln tl tok tt) :: (lx, lexInst ld) :: (fr, rtFr4 P F lx q te kn nc tn) :: rest
include hw G h1 hz
theorem rdc_eof {i tp : Nat} (hi : buf.length ≤ i) (rest : Own) (t1 : Nat) (nw : List (Option Obj)) (n j N t : Nat) (g : Array GenState) (fr : Option (List Env)) :
    CtrOk (cfg w scr h₀ A 600 R d os) (rdCtr w.params T buf (Int.ofNat i) a b ⟨#[]⟩ 3) (.call (.ref 533) ⟨[.ref b, .int 1 t1], []⟩) ⟨(a, ioDict w.params T buf (Int.ofNat i) tp) :: (b, ioInst a) :: rest, nw, n, j, N, t, g⟩ fr :=
  frame_ok (V := cfg w scr h₀ A 600 R d os) (X := Nat × Nat × Nat) (req := [(a, ioDict w.params T buf (Int.ofNat i) tp), (b, ioInst a)]) (n' := 3) (Dc := 700) (r := fun x => .ok (.ret (.str ⟨#[]⟩ x.1))) (req' := fun x => [(a, ioDict w.params T buf (Int.ofNat i) x.2.1), (b, ioInst a)]) (dj := fun x => x.2.2) (fun x => rfl) (rest₀ := rest)
    (read_eof (V := cfg w scr h₀ A 600 R d os) hw G rfl rfl rfl rfl hi (by omega))
theorem rdc_char {i tp c : Nat} (hc : buf.cps[i]? = some c) (rest : Own) (t1 : Nat) (nw : List (Option Obj)) (n j N t : Nat) (g : Array GenState) (fr : Option (List Env)) :
    CtrOk (cfg w scr h₀ A 600 R d os) (rdCtr w.params T buf (Int.ofNat (i + 1)) a b ⟨#[c]⟩ 4) (.call (.ref 533) ⟨[.ref b, .int 1 t1], []⟩) ⟨(a, ioDict w.params T buf (Int.ofNat i) tp) :: (b, ioInst a) :: rest, nw, n, j, N, t, g⟩ fr :=
  frame_ok (V := cfg w scr h₀ A 600 R d os) (X := Nat × Nat × Nat) (req := [(a, ioDict w.params T buf (Int.ofNat i) tp), (b, ioInst a)]) (n' := 4) (Dc := 700) (r := fun x => .ok (.ret (.str ⟨#[c]⟩ x.1))) (req' := fun x => [(a, ioDict w.params T buf (Int.ofNat (i + 1)) x.2.1), (b, ioInst a)]) (dj := fun x => x.2.2) (fun x => rfl) (rest₀ := rest)
    (read_char (V := cfg w scr h₀ A 600 R d os) hw G rfl rfl rfl rfl hc h1 (by omega))
include lo S
theorem loop_run : ∀ (l : List Nat) (q : Bool) (i tp ts tl tt tn N t : Nat) (ln : Int) (tok nc : Str) (qd : Bool) (h : Heap), buf.cps.toList.drop i = l → good ℓ wh m q l → tok.length ≠ 0 → tok.length + l.length ≤ buf.length →
    RepC w scr h₀ d os h ⟨loopBase w.params T L F buf te kn a b ld lx pb fs fr i tp (svOf m q ts) ln tl tok tt qd nc tn rest, [], 0, 0, N, t, g⟩ →
    (∀ (x : LoopEnd) h', buf.cps.toList.drop x.i = restOf (scan m q l tok).2 → RepC w scr h₀ d os h' ⟨loopBase w.params T L F buf te kn a b ld lx pb fs fr x.i x.tp (svEnd (scan m q l tok).2 x.ts) x.ln x.tl (scan m q l tok).1 x.tt (scanQ m q l qd) x.nc x.tn rest, [], 0, 0, x.N, x.t, g⟩ → R (.ok .next) ⟨h', g, d, x.t, os⟩) →
    codeAny (model PySem.Challenge.pw_nq0197_01 w) A (rtLoop w.params fr) R ⟨h, g, d, t, os⟩ := by
  intro l
  induction l with
  | nil =>
    intro q i tp ts tl tt tn N t ln tok nc qd h hd hg hk hs D z
    cases q with
    | true => exact hg.elim
    | false =>
      have hi : buf.length ≤ i := by
        have := congrArg List.length hd
        simp at this
        unfold Str.length; omega
      refine turn_gen G lo (rdc_eof hw G h1 hz hi _) (Eq.mpr (turn_t5 w₀ b1 b2 w hw scr h₀ A R d os (turnHH (loopBase w.params T L F buf te kn a b ld lx pb fs fr i tp (svOf m false ts) ln tl tok tt qd nc tn rest) b) (turnPP w scr h₀ A R d os N g) T L F buf tok nc qd ln i tp tl tt ts te kn tn 0 0 N t g a b ld lx pb fs fr rest) ?_) D
      refine ⟨eqs_want _ _ _, ⟨trivial, rfl⟩, ⟨t + 6, rfl, rfl⟩, fun x => ⟨eqs_want _ _ _, ⟨⟨⟨⟨trivial, eq_none _⟩, by rw [eq_one]; rfl⟩, by rw [has_one]; rfl⟩, by rw [has_one]; rfl⟩, ⟨_, _, ts, rfl, rfl⟩, fun _ => ⟨eqs_want _ _ _, ⟨trivial, rfl⟩, rfl, rfl, fun h' D' => ?_⟩⟩⟩
      exact z ⟨i, x.2.1, 0, ln, tl, tt, ⟨#[]⟩, x.1, N + 5, _⟩ h' hd D'
  | cons c l ih =>
    intro q i tp ts tl tt tn N t ln tok nc qd h hd hg hk hs D z
    have hc : buf.cps[i]? = some c := by
      have := congrArg (fun l => l[0]?) hd
      simp at this
      exact this
    have hd' : buf.cps.toList.drop (i + 1) = l := by
      rw [← List.drop_drop, hd]; rfl
    have hs' : tok.length + l.length ≤ buf.length := by simp at hs; omega
    have o1 : Str.length ⟨#[c]⟩ ≠ 0 ∧ Str.length ⟨#[c]⟩ < 2 ^ 63 := ⟨by show 1 ≠ 0; omega, by show 1 < 2 ^ 63; omega⟩
    have o2 : tok.length ≠ 0 ∧ tok.length < 2 ^ 63 := ⟨hk, by simp at hs; omega⟩
    have fm1 : ∀ k, k ∈ [10, 32, 9, 13] → m ≠ k := by
      intro k hk e; subst e; rcases S.m with e | e <;> (subst e; revert hk; decide)
    have fm2 : strHas ⟨#[39, 34]⟩ ⟨#[m]⟩ = true := by
      rw [has_one]; rcases S.m with e | e <;> (subst e; decide)
    have z0 : strHas ⟨#[]⟩ ⟨#[c]⟩ = false := by rw [has_one]; simp
    cases q with
    | false =>
      by_cases hcm : c = m
      · subst hcm
        have hg' : good ℓ wh c true l := by unfold good at hg; rw [if_pos rfl] at hg; exact hg
        have e0 : scan c false (c :: l) tok = scan c true l tok := by rw [scan, if_pos rfl]
        have e1 : scanQ c false (c :: l) qd = scanQ c true l qd := by rw [scanQ, if_pos rfl]
        rw [e0, e1] at z
        refine turn_gen G lo (rdc_char hw G h1 hz hc _) (Eq.mpr (turn_t2 w₀ b1 b2 w hw scr h₀ A R d os (turnHH (loopBase w.params T L F buf te kn a b ld lx pb fs fr i tp (svOf c false ts) ln tl tok tt qd nc tn rest) b) (turnPP w scr h₀ A R d os N g) T L F buf tok nc qd ln i tp tl tt ts te kn tn 0 c N t g a b ld lx pb fs fr rest) ?_) D
        refine ⟨eqs_want _ _ _, ⟨trivial, rfl⟩, ⟨t + 6, rfl, rfl⟩, fun x => ⟨eqs_want _ _ _, ⟨⟨⟨⟨trivial, by rw [eq_one]; exact decide_eq_false (fm1 10 (by decide))⟩, by rw [eq_one]; rfl⟩, by rw [has_one]; rfl⟩, by rw [has_one]; rfl⟩, ⟨_, _, ts, rfl, rfl⟩, fun _ => ⟨eqs_want _ _ _, ⟨⟨⟨⟨⟨trivial, o1⟩, ?_⟩, z0⟩, by rw [eq_one]; rfl⟩, fm2⟩, rfl, rfl, fun h' D' => ?_⟩⟩⟩
        · rw [has_one]
          refine decide_eq_false fun hh => ?_
          simp at hh
          rcases hh with hh | hh | hh | hh
          · exact fm1 32 (by decide) hh
          · exact fm1 9 (by decide) hh
          · exact fm1 13 (by decide) hh
          · exact fm1 10 (by decide) hh
        · exact ih true (i + 1) x.2.1 x.1 tl tt x.1 _ _ ln tok _ qd h' hd' hg' hk hs' D' z
      · have hg' : c = wh := by unfold good at hg; rw [if_neg hcm] at hg; exact hg.1
        have e0 : scan m false (c :: l) tok = (tok, some l) := by rw [scan, if_neg hcm]
        have e1 : scanQ m false (c :: l) qd = qd := by rw [scanQ, if_neg hcm]
        rw [e0, e1] at z
        have hwh : strHas ⟨#[32, 9, 13, 10]⟩ ⟨#[c]⟩ = true := by
          rw [has_one, hg']
          rcases S.wh with e | e | e | e <;> (rw [e]; decide)
        by_cases h10 : c = 10
        · refine turn_gen G lo (rdc_char hw G h1 hz hc _) (Eq.mpr (turn_t7n w₀ b1 b2 w hw scr h₀ A R d os (turnHH (loopBase w.params T L F buf te kn a b ld lx pb fs fr i tp (svOf m false ts) ln tl tok tt qd nc tn rest) b) (turnPP w scr h₀ A R d os N g) T L F buf tok nc qd ln i tp tl tt ts te kn tn c 0 N t g a b ld lx pb fs fr rest) ?_) D
          refine ⟨eqs_want _ _ _, ⟨trivial, rfl⟩, ⟨t + 6, rfl, rfl⟩, fun x => ⟨eqs_want _ _ _, ⟨⟨⟨⟨trivial, by rw [eq_one]; exact decide_eq_true h10⟩, by rw [eq_one]; rfl⟩, by rw [has_one]; rfl⟩, by rw [has_one]; rfl⟩, ⟨_, _, ts, rfl, rfl⟩, fun _ => ⟨eqs_want _ _ _, ⟨⟨⟨trivial, o1⟩, hwh⟩, o2⟩, rfl, rfl, fun h' D' => ?_⟩⟩⟩
          exact z ⟨i + 1, x.2.1, _, ln + 1, _, tt, ⟨#[c]⟩, x.1, N + 6, _⟩ h' hd' D'
        · refine turn_gen G lo (rdc_char hw G h1 hz hc _) (Eq.mpr (turn_t7 w₀ b1 b2 w hw scr h₀ A R d os (turnHH (loopBase w.params T L F buf te kn a b ld lx pb fs fr i tp (svOf m false ts) ln tl tok tt qd nc tn rest) b) (turnPP w scr h₀ A R d os N g) T L F buf tok nc qd ln i tp tl tt ts te kn tn c 0 N t g a b ld lx pb fs fr rest) ?_) D
          refine ⟨eqs_want _ _ _, ⟨trivial, rfl⟩, ⟨t + 6, rfl, rfl⟩, fun x => ⟨eqs_want _ _ _, ⟨⟨⟨⟨trivial, by rw [eq_one]; exact decide_eq_false h10⟩, by rw [eq_one]; rfl⟩, by rw [has_one]; rfl⟩, by rw [has_one]; rfl⟩, ⟨_, _, ts, rfl, rfl⟩, fun _ => ⟨eqs_want _ _ _, ⟨⟨⟨trivial, o1⟩, hwh⟩, o2⟩, rfl, rfl, fun h' D' => ?_⟩⟩⟩
          exact z ⟨i + 1, x.2.1, _, ln, tl, tt, ⟨#[c]⟩, x.1, N + 6, _⟩ h' hd' D'
    | true =>
      by_cases hcm : c = m
      · subst hcm
        have hg' : good ℓ wh c false l := by unfold good at hg; rw [if_pos rfl] at hg; exact hg
        have e0 : scan c true (c :: l) tok = scan c false l tok := by rw [scan, if_pos rfl]
        have e1 : scanQ c true (c :: l) qd = scanQ c false l true := by rw [scanQ, if_pos rfl]
        rw [e0, e1] at z
        refine turn_gen G lo (rdc_char hw G h1 hz hc _) (Eq.mpr (turn_t4 w₀ b1 b2 w hw scr h₀ A R d os (turnHH (loopBase w.params T L F buf te kn a b ld lx pb fs fr i tp (svOf c true ts) ln tl tok tt qd nc tn rest) b) (turnPP w scr h₀ A R d os N g) T L F buf tok nc qd ln i tp tl tt ts te kn tn 0 c N t g a b ld lx pb fs fr rest) ?_) D
        refine ⟨eqs_want _ _ _, ⟨trivial, rfl⟩, ⟨t + 6, rfl, rfl⟩, fun x => ⟨eqs_want _ _ _, ⟨⟨⟨⟨⟨trivial, by rw [eq_one]; exact decide_eq_false (fm1 10 (by decide))⟩, by rw [eq_one]; exact decide_eq_false (fm1 32 (by decide))⟩, fm2⟩, o1⟩, by rw [eq_one]; exact decide_eq_true rfl⟩, rfl, rfl, fun h' D' => ?_⟩⟩
        exact ih false (i + 1) x.2.1 _ tl tt x.1 _ _ ln tok _ true h' hd' hg' hk hs' D' z
      · have hg' : (c = wh ∨ c = ℓ) ∧ good ℓ wh m true l := by unfold good at hg; rw [if_neg hcm] at hg; exact hg
        have e0 : scan m true (c :: l) tok = scan m true l (tok ++ ⟨#[c]⟩) := by rw [scan, if_neg hcm]
        have e1 : scanQ m true (c :: l) qd = scanQ m true l true := by rw [scanQ, if_neg hcm]
        rw [e0, e1] at z
        have lt : (tok ++ (⟨#[c]⟩ : Str)).length = tok.length + 1 := by
          show (tok.cps ++ #[c]).size = _
          simp [Str.length]
        have hk' : (tok ++ (⟨#[c]⟩ : Str)).length ≠ 0 := by omega
        have hs2 : (tok ++ (⟨#[c]⟩ : Str)).length + l.length ≤ buf.length := by simp at hs; omega
        have hsl : (tok ++ (⟨#[c]⟩ : Str)).length ≤ sizeLine := by
          have : 10000 ≤ sizeLine := by decide
          omega
        have h92 : strHas ⟨#[92]⟩ ⟨#[c]⟩ = false := by
          rw [has_one]
          refine decide_eq_false fun hh => ?_
          simp at hh
          rcases hg'.1 with e | e
          · rcases S.wh with e' | e' | e' | e' <;> omega
          · exact S.ℓ.2.2.2.2.2.2 (e ▸ hh)
        by_cases h10 : c = 10
        · refine turn_gen G lo (rdc_char hw G h1 hz hc _) (Eq.mpr (turn_t3n w₀ b1 b2 w hw scr h₀ A R d os (turnHH (loopBase w.params T L F buf te kn a b ld lx pb fs fr i tp (svOf m true ts) ln tl tok tt qd nc tn rest) b) (turnPP w scr h₀ A R d os N g) T L F buf tok nc qd ln i tp tl tt ts te kn tn c m N t g a b ld lx pb fs fr rest) ?_) D
          refine ⟨eqs_want _ _ _, ⟨trivial, rfl⟩, ⟨t + 6, rfl, rfl⟩, fun x => ⟨eqs_want _ _ _, ⟨⟨⟨⟨⟨⟨⟨trivial, by rw [eq_one]; exact decide_eq_true h10⟩, by rw [eq_one]; exact decide_eq_false (fm1 32 (by decide))⟩, fm2⟩, o1⟩, by rw [eq_one]; exact decide_eq_false hcm⟩, h92⟩, hk, by show 1 ≠ 0; omega, hsl⟩, rfl, rfl, fun h' D' => ?_⟩⟩
          exact ih true (i + 1) x.2.1 _ _ _ x.1 _ _ _ _ _ true h' hd' hg'.2 hk' hs2 D' z
        · refine turn_gen G lo (rdc_char hw G h1 hz hc _) (Eq.mpr (turn_t3 w₀ b1 b2 w hw scr h₀ A R d os (turnHH (loopBase w.params T L F buf te kn a b ld lx pb fs fr i tp (svOf m true ts) ln tl tok tt qd nc tn rest) b) (turnPP w scr h₀ A R d os N g) T L F buf tok nc qd ln i tp tl tt ts te kn tn c m N t g a b ld lx pb fs fr rest) ?_) D
          refine ⟨eqs_want _ _ _, ⟨trivial, rfl⟩, ⟨t + 6, rfl, rfl⟩, fun x => ⟨eqs_want _ _ _, ⟨⟨⟨⟨⟨⟨⟨trivial, by rw [eq_one]; exact decide_eq_false h10⟩, by rw [eq_one]; exact decide_eq_false (fm1 32 (by decide))⟩, fm2⟩, o1⟩, by rw [eq_one]; exact decide_eq_false hcm⟩, h92⟩, hk, by show 1 ≠ 0; omega, hsl⟩, rfl, rfl, fun h' D' => ?_⟩⟩
          exact ih true (i + 1) x.2.1 _ _ _ x.1 _ _ _ _ _ true h' hd' hg'.2 hk' hs2 D' z
/-- the whole loop, from a letter on -/
theorem loop_first {l : List Nat} {i tp ts tl tt N t : Nat} {ln : Int} {h : Heap} {F : Nat → Nat} (hd : buf.cps.toList.drop i = ℓ :: l) (hg : good ℓ wh m false l)
    (D : RepC w scr h₀ d os h ⟨(a, ioDict w.params T buf (Int.ofNat i) tp) :: (b, ioInst a) :: (ld, lexDict w.params L b pb fs (.str ⟨#[32]⟩ ts) ln tl ⟨#[]⟩ tt) :: (lx, lexInst ld) :: (fr, rtFr3 w.params F lx false te) :: rest, [], 0, 0, N, t, g⟩)
    (z : ∀ (x : LoopEnd) (kn : Nat) h', buf.cps.toList.drop x.i = restOf (scan m false l ⟨#[ℓ]⟩).2 → RepC w scr h₀ d os h' ⟨loopBase w.params T L F buf te kn a b ld lx pb fs fr x.i x.tp (svEnd (scan m false l ⟨#[ℓ]⟩).2 x.ts) x.ln x.tl (scan m false l ⟨#[ℓ]⟩).1 x.tt (scanQ m false l false) x.nc x.tn rest, [], 0, 0, x.N, x.t, g⟩ → R (.ok .next) ⟨h', g, d, x.t, os⟩) :
    codeAny (model PySem.Challenge.pw_nq0197_01 w) A (rtLoop w.params fr) R ⟨h, g, d, t, os⟩ := by
  have hc : buf.cps[i]? = some ℓ := by
    have := congrArg (fun l => l[0]?) hd
    simp at this
    exact this
  have hd' : buf.cps.toList.drop (i + 1) = l := by
    rw [← List.drop_drop, hd]; rfl
  have hs : 1 + l.length ≤ buf.length := by
    have := congrArg List.length hd
    simp at this
    unfold Str.length; omega
  have o1 : Str.length ⟨#[ℓ]⟩ ≠ 0 ∧ Str.length ⟨#[ℓ]⟩ < 2 ^ 63 := ⟨by show 1 ≠ 0; omega, by show 1 < 2 ^ 63; omega⟩
  have z0 : strHas ⟨#[]⟩ ⟨#[ℓ]⟩ = false := by rw [has_one]; simp
  obtain ⟨l1, l2, l3, l4, l5, l6, l7⟩ := S.ℓ
  have f1 : strHas ⟨#[32, 9, 13, 10]⟩ ⟨#[ℓ]⟩ = false := by rw [has_one]; simp; omega
  have f2 : strHas ⟨#[92]⟩ ⟨#[ℓ]⟩ = false := by rw [has_one]; simp; omega
  have f3 : strHas ⟨#[39, 34]⟩ ⟨#[ℓ]⟩ = false := by rw [has_one]; simp; omega
  cases hrt : strHas rtW ⟨#[ℓ]⟩ with
  | false =>
    refine turn_gen G lo (rdc_char hw G h1 hz hc _) (Eq.mpr (turn_t1 w₀ b1 b2 w hw scr h₀ A R d os (turnHH ((a, ioDict w.params T buf (Int.ofNat i) tp) :: (b, ioInst a) :: (ld, lexDict w.params L b pb fs (.str ⟨#[32]⟩ ts) ln tl ⟨#[]⟩ tt) :: (lx, lexInst ld) :: (fr, rtFr3 w.params F lx false te) :: rest) b) (turnPP w scr h₀ A R d os N g) T L F buf ⟨#[]⟩ ⟨#[]⟩ false ln i tp tl tt ts te 0 0 ℓ 0 N t g a b ld lx pb fs fr rest) ?_) D
    refine ⟨eqs_want _ _ _, ⟨trivial, rfl⟩, ⟨t + 6, rfl, rfl⟩, fun x => ⟨eqs_want _ _ _, ⟨⟨⟨⟨⟨⟨⟨⟨⟨trivial, by rw [eq_one]; exact decide_eq_false l3⟩, by rw [eq_one]; rfl⟩, o1⟩, f1⟩, z0⟩, f2⟩, hrt⟩, z0⟩, f3⟩, rfl, rfl, fun h' D' => ?_⟩⟩
    exact loop_run hw G lo S h1 hz l false (i + 1) x.2.1 _ tl x.1 x.1 _ _ ln ⟨#[ℓ]⟩ _ false h' hd' hg (by show 1 ≠ 0; omega) hs D' (fun y h2 e D2 => z y _ h2 e D2)
  | true =>
    refine turn_gen G lo (rdc_char hw G h1 hz hc _) (Eq.mpr (turn_t1w w₀ b1 b2 w hw scr h₀ A R d os (turnHH ((a, ioDict w.params T buf (Int.ofNat i) tp) :: (b, ioInst a) :: (ld, lexDict w.params L b pb fs (.str ⟨#[32]⟩ ts) ln tl ⟨#[]⟩ tt) :: (lx, lexInst ld) :: (fr, rtFr3 w.params F lx false te) :: rest) b) (turnPP w scr h₀ A R d os N g) T L F buf ⟨#[]⟩ ⟨#[]⟩ false ln i tp tl tt ts te 0 0 ℓ 0 N t g a b ld lx pb fs fr rest) ?_) D
    refine ⟨eqs_want _ _ _, ⟨trivial, rfl⟩, ⟨t + 6, rfl, rfl⟩, fun x => ⟨eqs_want _ _ _, ⟨⟨⟨⟨⟨⟨⟨trivial, by rw [eq_one]; exact decide_eq_false l3⟩, by rw [eq_one]; rfl⟩, o1⟩, f1⟩, z0⟩, f2⟩, hrt⟩, rfl, rfl, fun h' D' => ?_⟩⟩
    exact loop_run hw G lo S h1 hz l false (i + 1) x.2.1 _ tl x.1 x.1 _ _ ln ⟨#[ℓ]⟩ _ false h' hd' hg (by show 1 ≠ 0; omega) hs D' (fun y h2 e D2 => z y _ h2 e D2)
omit S
/-- at the end of the line -/
theorem loop_end {i tp tl tt N t : Nat} {ln : Int} {h : Heap} {F : Nat → Nat} (hi : buf.length ≤ i)
    (D : RepC w scr h₀ d os h ⟨(a, ioDict w.params T buf (Int.ofNat i) tp) :: (b, ioInst a) :: (ld, lexDict w.params L b pb fs .none ln tl ⟨#[]⟩ tt) :: (lx, lexInst ld) :: (fr, rtFr3 w.params F lx false te) :: rest, [], 0, 0, N, t, g⟩)
    (z : ∀ (x : LoopEnd) (kn : Nat) h', RepC w scr h₀ d os h' ⟨loopBase w.params T L F buf te kn a b ld lx pb fs fr i x.tp .none ln tl ⟨#[]⟩ x.tt false ⟨#[]⟩ x.tn rest, [], 0, 0, x.N, x.t, g⟩ → R (.ok .next) ⟨h', g, d, x.t, os⟩) :
    codeAny (model PySem.Challenge.pw_nq0197_01 w) A (rtLoop w.params fr) R ⟨h, g, d, t, os⟩ := by
  refine turn_gen G lo (rdc_eof hw G h1 hz hi _) (Eq.mpr (turn_t6 w₀ b1 b2 w hw scr h₀ A R d os (turnHH ((a, ioDict w.params T buf (Int.ofNat i) tp) :: (b, ioInst a) :: (ld, lexDict w.params L b pb fs .none ln tl ⟨#[]⟩ tt) :: (lx, lexInst ld) :: (fr, rtFr3 w.params F lx false te) :: rest) b) (turnPP w scr h₀ A R d os N g) T L F buf ⟨#[]⟩ ⟨#[]⟩ false ln i tp tl tt 0 te 0 0 0 0 N t g a b ld lx pb fs fr rest) ?_) D
  refine ⟨eqs_want _ _ _, ⟨trivial, rfl⟩, ⟨t + 6, rfl, rfl⟩, fun x => ⟨eqs_want _ _ _, ⟨trivial, eq_none _⟩, rfl, rfl, fun h' D' => ?_⟩⟩
  exact z ⟨i, x.2.1, 0, ln, tl, _, ⟨#[]⟩, x.1, N + 4, _⟩ _ h' D'
end
end Mine
end Loop3

section Next
open PySem PySem.Calls PySem.W PySem.W.X PyProof.Rows
set_option Elab.async false
set_option maxRecDepth 100000
namespace Mine
/-- an empty deque -/
noncomputable def dqObj : Obj := { cls := .type "collections.deque", data := .fields #[.none, .int 0 0] }
/-- the newest object is put behind the first k ones of the base, the other new ones behind it -/
theorem Rep.pull {V : Cfg} {h : Heap} {req rest : Own} {o : Obj} {nw : List (Option Obj)} {n j N t : Nat} {g : Array GenState} (D : Rep V h ⟨req ++ rest, some o :: nw, n, j, N, t, g⟩) :
    Rep V h ⟨req ++ (N + (n - 1), o) :: (news N nw ++ rest), [], 0, 0, N + n, t + j, g⟩ := by
  have F := D.flat
  have hn : nw.length = n - 1 := by have := D.len; simp at this; omega
  have e : news N (some o :: nw) = (N + (n - 1), o) :: news N nw := by rw [← hn]; rfl
  rw [e] at F
  have P : (req ++ (N + (n - 1), o) :: (news N nw ++ rest)).Perm (req ++ rest ++ (N + (n - 1), o) :: news N nw) := by
    rw [List.append_assoc]
    refine List.Perm.append_left _ ?_
    refine List.Perm.trans ?_ List.perm_append_comm
    exact List.Perm.refl _
  refine F.sub (fun p hp => P.mem_iff.mp hp) ?_
  exact (P.map _).nodup_iff.mpr F.nod
/-- the end of a segment, with the middle of its base left out -/
noncomputable abbrev viewK (k m : Nat) (PP : Result ⊕ Code → Own → Nat → Nat → Nat → Array GenState → Prop) : Result ⊕ Code → St → Prop := fun r st => PP r (st.base.take k ++ st.base.drop m) st.n st.N (st.t + st.j) st.g
theorem Rep.skip {V : Cfg} {h : Heap} {st : St} (D : Rep V h st) (k m : Nat) (hkm : k ≤ m) : Rep V h ⟨st.base.take k ++ st.base.drop m, [], 0, 0, st.N + st.n, st.t + st.j, st.g⟩ := by
  obtain ⟨base, nw, n, j, N, t, g⟩ := st
  have F := (D.anew (t + j))
  have sl : (base.take k ++ base.drop m).Sublist base := by
    conv => rhs; rw [← List.take_append_drop k base]
    refine List.Sublist.append (List.Sublist.refl _) ?_
    rw [show m = k + (m - k) by omega, ← List.drop_drop]
    exact List.drop_sublist _ _
  exact F.sub (fun p hp => sl.subset hp) ((sl.map _).nodup D.nod)
/-- what the loop of read_token comes back with -/
noncomputable abbrev loopCtr (P : Params) (T : IoT) (L : LexT) (F : Nat → Nat) (buf : Str) (te : Nat) (a b ld lx pb fs : Addr) (tok : Str) (q : Bool) (sv : LoopEnd → Value) (I : LoopEnd → Prop) : Ctr :=
  { X := { x : LoopEnd × Nat // I x.1 }, D := 600
    resp := fun x st => (.ok .next, ⟨(a, ioDict P T buf (Int.ofNat x.1.1.i) x.1.1.tp) :: (b, ioInst a) :: (ld, lexDict P L b pb fs (sv x.1.1) x.1.1.ln x.1.1.tl tok x.1.1.tt) :: (lx, lexInst ld) :: (pb, dqObj) :: (fs, dqObj) :: (st.N + (st.n - 1), rtFr4 P F lx q te x.1.2 x.1.1.nc x.1.1.tn) :: (news st.N st.nw.tail ++ st.base.drop 6), [], 0, 0, x.1.1.N, x.1.1.t, st.g⟩) }
noncomputable abbrev lexBase (P : Params) (T : IoT) (L : LexT) (buf : Str) (a b ld lx pb fs : Addr) (i tp : Nat) (sv : Value) (ln : Int) (tl : Nat) (tok : Str) (tt : Nat) (rest : Own) : Own :=
  (a, ioDict P T buf (Int.ofNat i) tp) :: (b, ioInst a) :: (ld, lexDict P L b pb fs sv ln tl tok tt) :: (lx, lexInst ld) :: (pb, dqObj) :: (fs, dqObj) :: rest
noncomputable def nxA : List Nat := [2, 2, 2, 7, 0, 0, 0, 7, 0, 0, 0, 7, 0, 0, 0, 0, 7, 5, 0, 4, 4, 4, 7, 0, 0, 0, 7, 0, 0, 0, 7, 7, 0, 5, 9, 9, 9, 9, 9, 4, 7, 0, 0, 0, 7, 0, 0, 0, 7, 0, 0, 0, 0, 7, 5, 0, 6, 6, 6, 6, 6, 6]
noncomputable def nxB : List Nat := [13, 7, 0, 0, 0, 7, 0, 0, 0, 7, 7, 0, 5, 13, 13, 13, 7, 0, 0, 0, 7, 0, 7, 0, 7, 0, 0, 0, 7, 0, 5, 5, 5, 13, 7, 0, 0, 0, 7, 0, 0, 0, 7, 7, 0, 5, 13, 13, 7, 0, 0, 0, 7, 0, 0, 0, 7, 7, 0, 5, 13, 15, 15, 15, 7, 0, 0, 0, 7, 0, 0, 0, 7, 7, 0, 5, 15, 15, 7, 0, 0, 0, 7, 0, 0, 0, 7, 7, 0, 5, 15, 7, 0, 0, 0, 7, 0, 0, 0, 7, 7, 0, 5, 15, 17, 17, 17, 17, 7, 0, 0, 0, 7, 0, 0, 0, 7, 7, 0, 5, 17]
noncomputable def nxB3 : List Nat := [13, 7, 0, 0, 0, 7, 0, 0, 0, 7, 7, 0, 5, 13, 13, 13, 7, 0, 0, 0, 7, 0, 7, 0, 7, 0, 0, 0, 7, 0, 5, 5, 5, 13, 7, 0, 0, 0, 7, 0, 0, 0, 7, 7, 0, 5, 13, 13, 13, 7, 0, 0, 0, 7, 0, 0, 0, 7, 7, 0, 5, 13, 15, 15, 15, 7, 0, 0, 0, 7, 0, 0, 0, 7, 7, 0, 5, 15, 15, 7, 0, 0, 0, 7, 0, 0, 0, 7, 7, 0, 5, 15, 7, 0, 0, 0, 7, 0, 0, 0, 7, 7, 0, 5, 15, 17, 17, 17, 17, 7, 0, 0, 0, 7, 0, 0, 0, 7, 7, 0, 5, 17]
noncomputable def nxF (t : Nat) (k : Nat) : Nat := match k with
  | 0 => t + 5
  | 1 => t + 6
  | _ => t + 8
noncomputable abbrev NextGoal (w : World) (scr : Obj) (h₀ : Heap) (A : Around) (R : Result → Shared → Prop) (d : Drawn) (os : OsState) (HH : Nat → Code → Own → Option Obj → Nat → Prop) (PP : Result ⊕ Code → Own → Nat → Nat → Nat → Array GenState → Prop)
    (C : Ctr) (lx : Addr) (hl : List Nat) (hs : List (List Nat)) (hc : List Nat) (base : Own) (N t : Nat) (g : Array GenState) : Prop :=
  evCode (cfg w scr h₀ A 500 R d os) (Mine.run (cfg w scr h₀ A 500 R d os) [C] (fun i c st _ => HH i c st.base (nwAt st.nw 0) (st.N + (st.n - 1))) primQ (viewK 6 9 PP) 520) (.call (.ref 719) ⟨[.ref lx], []⟩) hl hs hc [] True base [] 0 0 N t g []
set_option maxHeartbeats 0
theorem nx_quoted (w₀ : World) (b1 b2 : Bool) (w : World) (hw : w = wf w₀ b1 b2) (scr : Obj) (h₀ : Heap) (A : Around) (R : Result → Shared → Prop) (d : Drawn) (os : OsState) (HH : Nat → Code → Own → Option Obj → Nat → Prop) (PP : Result ⊕ Code → Own → Nat → Nat → Nat → Array GenState → Prop)
    (T : IoT) (L : LexT) (buf tok tok' : Str) (sv : Value) (sv' : LoopEnd → Value) (I : LoopEnd → Prop) (ln : Int) (i tp tl tt N t : Nat) (g : Array GenState) (a b ld lx pb fs : Addr) (rest : Own) :
    NextGoal w scr h₀ A R d os HH PP (loopCtr w.params T L (nxF t) buf (t + 7) a b ld lx pb fs tok' true sv' I) lx nxA [nxB] [0, 0, 0, 0, 0, 4, 0, 0, 0, 0, 0, 0, 0, 0, 0, 0, 0, 0, 0, 0, 0] (lexBase w.params T L buf a b ld lx pb fs i tp sv ln tl tok tt rest) N t g =
    (Eqs (want [a, b, ld, lx, pb, fs] N nxA) ∧ True ∧ HH 0 (rtLoop w.params (N + 2)) (lexBase w.params T L buf a b ld lx pb fs i tp sv ln tl tok tt rest) (some (rtFr3 w.params (nxF t) lx false (t + 7))) (N + (3 - 1)) ∧
      ∀ x : { x : LoopEnd × Nat // I x.1 }, Eqs (want [a, b, ld, lx, pb, fs, N + 2, N + 1, N] x.1.1.N nxB) ∧ True ∧ PP (.inl (.ok (.ret (.str tok' x.1.1.tt)))) (lexBase w.params T L buf a b ld lx pb fs x.1.1.i x.1.1.tp (sv' x.1.1) x.1.1.ln x.1.1.tl ⟨#[]⟩ (x.1.1.t + 2) rest) 0 x.1.1.N (x.1.1.t + 15) g) := by
  subst hw
  cases b1 <;> kernel_rfl
theorem nx_plain (w₀ : World) (b1 b2 : Bool) (w : World) (hw : w = wf w₀ b1 b2) (scr : Obj) (h₀ : Heap) (A : Around) (R : Result → Shared → Prop) (d : Drawn) (os : OsState) (HH : Nat → Code → Own → Option Obj → Nat → Prop) (PP : Result ⊕ Code → Own → Nat → Nat → Nat → Array GenState → Prop)
    (T : IoT) (L : LexT) (buf tok tok' : Str) (sv : Value) (sv' : LoopEnd → Value) (I : LoopEnd → Prop) (ln : Int) (i tp tl tt N t : Nat) (g : Array GenState) (a b ld lx pb fs : Addr) (rest : Own) :
    NextGoal w scr h₀ A R d os HH PP (loopCtr w.params T L (nxF t) buf (t + 7) a b ld lx pb fs tok' false sv' I) lx nxA [nxB3] [0, 0, 0, 0, 0, 4, 0, 0, 0, 2, 0, 0, 0, 0, 0, 0, 0, 0, 0, 0, 0, 0] (lexBase w.params T L buf a b ld lx pb fs i tp sv ln tl tok tt rest) N t g =
    (Eqs (want [a, b, ld, lx, pb, fs] N nxA) ∧ True ∧ HH 0 (rtLoop w.params (N + 2)) (lexBase w.params T L buf a b ld lx pb fs i tp sv ln tl tok tt rest) (some (rtFr3 w.params (nxF t) lx false (t + 7))) (N + (3 - 1)) ∧
      ∀ x : { x : LoopEnd × Nat // I x.1 }, Eqs (want [a, b, ld, lx, pb, fs, N + 2, N + 1, N] x.1.1.N nxB3) ∧ (True ∧ strEq tok' ⟨#[]⟩ = false) ∧ PP (.inl (.ok (.ret (.str tok' x.1.1.tt)))) (lexBase w.params T L buf a b ld lx pb fs x.1.1.i x.1.1.tp (sv' x.1.1) x.1.1.ln x.1.1.tl ⟨#[]⟩ (x.1.1.t + 2) rest) 0 x.1.1.N (x.1.1.t + 16) g) := by
  subst hw
  cases b1 <;> kernel_rfl
end Mine
end Next

section Next2
open PySem PySem.Calls PySem.W PySem.W.X PyProof.Rows
set_option Elab.async false
set_option maxRecDepth 100000
namespace Mine
theorem Rep.perm {V : Cfg} {h : Heap} {base base' : Own} {n j N t j' t' : Nat} {nw : List (Option Obj)} {g : Array GenState} (D : Rep V h ⟨base, nw, n, j, N, t, g⟩) (P : base'.Perm base) : Rep V h ⟨base', nw, n, j', N, t', g⟩ :=
  D.sub (fun _ hp => P.mem_iff.mp hp) ((P.map _).nodup_iff.mpr D.nod)
theorem perm_f {α : Type} (x1 x2 x3 x4 y1 y2 f : α) (r : List α) : (x1 :: x2 :: x3 :: x4 :: f :: y1 :: y2 :: r).Perm (x1 :: x2 :: x3 :: x4 :: y1 :: y2 :: f :: r) :=
  .cons _ (.cons _ (.cons _ (.cons _ ((List.Perm.swap _ _ _).trans (.cons _ (List.Perm.swap _ _ _))))))
theorem nw_head {l : List (Option Obj)} {o : Obj} (h : nwAt l 0 = some o) : l = some o :: l.tail := by
  rw [nwAt_eq] at h
  cases l with
  | nil => simp at h
  | cons x l => simp at h; rw [h]; rfl
noncomputable abbrev nextHH (P : Params) (base0 : Own) (lx t : Nat) : Nat → Code → Own → Option Obj → Nat → Prop := fun _ c B o ad => c = rtLoop P ad ∧ B = base0 ∧ o = some (rtFr3 P (nxF t) lx false (t + 7))
noncomputable abbrev nextPP (w : World) (scr : Obj) (h₀ : Heap) (R : Result → Shared → Prop) (d : Drawn) (os : OsState) (g : Array GenState) : Result ⊕ Code → Own → Nat → Nat → Nat → Array GenState → Prop :=
  fun r B n N' tk g' => g' = g ∧ ∃ r', r = .inl r' ∧ ∀ h', RepC w scr h₀ d os h' ⟨B, [], 0, 0, N' + n, tk, g⟩ → R r' ⟨h', g, d, tk, os⟩
theorem next_gen {w : World} {scr : Obj} {h₀ : Heap} (G : Grd w scr h₀) {A : Around} {R : Result → Shared → Prop} {d : Drawn} {os : OsState} (lo : Lo A 500) {C : Ctr} {lx : Addr} {hl : List Nat} {hs : List (List Nat)} {hc : List Nat} {base : Own} {N t : Nat} {g : Array GenState} {h : Heap} {HH : Nat → Code → Own → Option Obj → Nat → Prop}
    (hC : ∀ (c : Code) (st : St), HH 0 c st.base (nwAt st.nw 0) (st.N + (st.n - 1)) → ∀ fr, CtrOk (cfg w scr h₀ A 500 R d os) C c st fr)
    (X : NextGoal w scr h₀ A R d os HH (nextPP w scr h₀ R d os g) C lx hl hs hc base N t g)
    (D : RepC w scr h₀ d os h ⟨base, [], 0, 0, N, t, g⟩) : codeAny (model PySem.Challenge.pw_nq0197_01 w) A (.call (.ref 719) ⟨[.ref lx], []⟩) R ⟨h, g, d, t, os⟩ := by
  refine code_by_run (V := cfg w scr h₀ A 500 R d os) (G.cfg lo) (prim_ok _) (fun i C' c st fr hi hh => ?_) (fun r st h' p D' => ?_) (fun c st h' p D' => ?_) 520 X (D.cast rfl rfl)
  · match i, hi with
    | 0, hi => simp at hi; subst hi; exact hC c st hh fr
  · obtain ⟨e1, r', e2, p⟩ := p
    cases e2
    rw [e1]
    have := (D'.skip 6 9 (by omega)).cast (V' := cfg w scr h₀ callerA 0 (fun _ _ => True) d os) rfl rfl
    rw [e1] at this
    exact p h' this
  · obtain ⟨_, r', e2, _⟩ := p
    cases e2
theorem str_ne (tok : Str) (h : tok.length ≠ 0) : strEq tok ⟨#[]⟩ = false := by
  unfold strEq
  obtain ⟨⟨l⟩⟩ := tok
  cases l with
  | nil => exact absurd rfl h
  | cons x l => rfl
theorem scan_ne (m : Nat) : ∀ (l : List Nat) (q : Bool) (tok : Str), tok.length ≠ 0 → strEq (scan m q l tok).1 ⟨#[]⟩ = false
  | [], q, tok, h => by
    have : (scan m q [] tok).1 = tok := by cases q <;> rfl
    rw [this]; exact str_ne tok h
  | c :: l, false, tok, h => by
    rw [scan]
    split
    · exact scan_ne m l true tok h
    · exact str_ne tok h
  | c :: l, true, tok, h => by
    rw [scan]
    split
    · exact scan_ne m l false tok h
    · refine scan_ne m l true _ ?_
      show (tok.cps ++ #[c]).size ≠ 0
      simp
section
variable {w₀ : World} {b1 b2 : Bool} {w : World} (hw : w = wf w₀ b1 b2) {scr : Obj} {h₀ : Heap} (G : Grd w scr h₀) {d : Drawn} {os : OsState} {A : Around} (lo : Lo A 500) {R : Result → Shared → Prop}
    {T : IoT} {L : LexT} {buf : Str} {ℓ wh m : Nat} {g : Array GenState} {a b ld lx pb fs : Addr} {rest : Own} (S : Sgn ℓ wh m) (h1 : 1 < buf.length) (hz : buf.length < 10000)
include hw G lo S h1 hz
/-- a word -/
theorem next_word {l : List Nat} {i tp ts tl tt N t : Nat} {ln : Int} {h : Heap} (hd : buf.cps.toList.drop i = ℓ :: l) (hg : good ℓ wh m false l)
    (D : RepC w scr h₀ d os h ⟨lexBase w.params T L buf a b ld lx pb fs i tp (.str ⟨#[32]⟩ ts) ln tl ⟨#[]⟩ tt rest, [], 0, 0, N, t, g⟩)
    (z : ∀ (x : LoopEnd) (tt' : Nat) h', buf.cps.toList.drop x.i = restOf (scan m false l ⟨#[ℓ]⟩).2 → RepC w scr h₀ d os h' ⟨lexBase w.params T L buf a b ld lx pb fs x.i x.tp (svEnd (scan m false l ⟨#[ℓ]⟩).2 x.ts) x.ln x.tl ⟨#[]⟩ tt' rest, [], 0, 0, x.N, x.t, g⟩ → R (.ok (.ret (.str (scan m false l ⟨#[ℓ]⟩).1 x.tt))) ⟨h', g, d, x.t, os⟩) :
    codeAny (model PySem.Challenge.pw_nq0197_01 w) A (.call (.ref 719) ⟨[.ref lx], []⟩) R ⟨h, g, d, t, os⟩ := by
  generalize hq : scanQ m false l false = qq
  generalize hsc : scan m false l ⟨#[ℓ]⟩ = sc at z
  have hC : ∀ (c : Code) (st : St), nextHH w.params (lexBase w.params T L buf a b ld lx pb fs i tp (.str ⟨#[32]⟩ ts) ln tl ⟨#[]⟩ tt rest) lx t 0 c st.base (nwAt st.nw 0) (st.N + (st.n - 1)) → ∀ fr,
      CtrOk (cfg w scr h₀ A 500 R d os) (loopCtr w.params T L (nxF t) buf (t + 7) a b ld lx pb fs sc.1 qq (fun x => svEnd sc.2 x.ts) (fun x => buf.cps.toList.drop x.i = restOf sc.2)) c st fr := by
    intro c st hh fr A' h' R' lo' _ D' q'
    obtain ⟨rfl, e1, e2⟩ := hh
    obtain ⟨base, nw, n, j, N', t', g'⟩ := st
    simp only at e1 e2 D' q' ⊢
    subst e1
    have e3 := nw_head e2
    rw [e3] at D'
    have P := Rep.pull (req := [(a, ioDict w.params T buf (Int.ofNat i) tp), (b, ioInst a), (ld, lexDict w.params L b pb fs (.str ⟨#[32]⟩ ts) ln tl ⟨#[]⟩ tt), (lx, lexInst ld), (pb, dqObj), (fs, dqObj)]) (rest := rest) D'
    have P2 := (P.perm (j' := 0) (t' := t' + j) (perm_f _ _ _ _ _ _ _ _)).cast (V' := cfg w scr h₀ callerA 0 (fun _ _ => True) d os) rfl rfl
    refine loop_first hw G lo' S h1 hz hd hg P2 (fun x kn h2 e D2 => ?_)
    rw [hsc] at e
    rw [hsc, hq] at D2
    have D3 := (D2.perm (j' := 0) (t' := x.t) (perm_f _ _ _ _ _ _ _ _).symm).cast (V' := cfg w scr h₀ A 500 R d os) rfl rfl
    exact q' ⟨(x, kn), e⟩ h2 D3
  cases qq with
  | true =>
    refine next_gen G lo hC (Eq.mpr (nx_quoted w₀ b1 b2 w hw scr h₀ A R d os (nextHH w.params (lexBase w.params T L buf a b ld lx pb fs i tp (.str ⟨#[32]⟩ ts) ln tl ⟨#[]⟩ tt rest) lx t) (nextPP w scr h₀ R d os g) T L buf ⟨#[]⟩ sc.1 (.str ⟨#[32]⟩ ts) (fun x => svEnd sc.2 x.ts) (fun x => buf.cps.toList.drop x.i = restOf sc.2) ln i tp tl tt N t g a b ld lx pb fs rest) ?_) D
    refine ⟨eqs_want _ _ _, trivial, ⟨rfl, rfl, rfl⟩, fun x => ⟨eqs_want _ _ _, trivial, rfl, _, rfl, fun h' D' => ?_⟩⟩
    exact z { x.1.1 with t := x.1.1.t + 15 } _ h' x.2 D'
  | false =>
    refine next_gen G lo hC (Eq.mpr (nx_plain w₀ b1 b2 w hw scr h₀ A R d os (nextHH w.params (lexBase w.params T L buf a b ld lx pb fs i tp (.str ⟨#[32]⟩ ts) ln tl ⟨#[]⟩ tt rest) lx t) (nextPP w scr h₀ R d os g) T L buf ⟨#[]⟩ sc.1 (.str ⟨#[32]⟩ ts) (fun x => svEnd sc.2 x.ts) (fun x => buf.cps.toList.drop x.i = restOf sc.2) ln i tp tl tt N t g a b ld lx pb fs rest) ?_) D
    refine ⟨eqs_want _ _ _, trivial, ⟨rfl, rfl, rfl⟩, fun x => ⟨eqs_want _ _ _, ⟨trivial, ?_⟩, rfl, _, rfl, fun h' D' => ?_⟩⟩
    · rw [← hsc]; exact scan_ne m l false ⟨#[ℓ]⟩ (by show 1 ≠ 0; omega)
    · exact z { x.1.1 with t := x.1.1.t + 16 } _ h' x.2 D'
end
end Mine
end Next2

section End
open PySem PySem.Calls PySem.W PySem.W.X PyProof.Rows
set_option Elab.async false
set_option maxRecDepth 100000
namespace Mine
noncomputable abbrev execsQ : List Stmt → Env → Sem Flow := PySem.W.Fast.tw12563942051412417395
theorem execsQ_eq : @execs = execsQ := PySem.W.Fast.te12563942051412417395
noncomputable def retOf : Flow → Value
  | .ret v => v
  | _ => .none
/-- a def's body, and what is done as an exception leaves it -/
theorem func_own {prog : Program} {w : World} {A : Around} {R : Result → Shared → Prop} {s : Shared} {body : List Stmt} {env : Env}
    (h : wpOwn (model prog w) A (.func body env) (execs body env) (fun f s' => R (.ok (.ret (retOf f))) s')
      (fun e s' => wpAny (model prog w) (A.deeper env) (leaving env e) (fun _ s'' => R (.error e) s'') (fun e' s'' => R (.error e') s'') s') s) :
    codeAny (model prog w) A (.func body env) R s := by
  refine y_code _ _ _ _ _ _ ?_
  show wpOwn _ A _ (do point; match ← (execs body env).onRaise (leaving env) with | .ret v => ret v | _ => ret .none) _ _ s
  refine wpOwn_bind (wpOwn_of_wpAny (wpAny_point (wpOwn_bind fun Γ p hc hΓ => ?_)))
  rw [Sem.wp_onRaise]
  refine Sem.wp_mono _ _ _ (fun f p' s' h' => ?_) (fun e p' s' h' => ?_) _ _ (h Γ p hc hΓ)
  · intro Γ' p'' hc' hΓ'
    cases f <;> exact h'
  · exact h' Γ p' (by have := hΓ.in; rw [hc] at this; exact this)
/-- a body's tree -/
noncomputable def bodyT (body : List Stmt) (env : Env) : Sem Fin := R.bindR (execsQ body env) fun f => .pure (.done f)
theorem bodyT_own {prog : Program} {w : World} {A : Around} {R₀ : Result → Shared → Prop} {s : Shared} {c : Code} {body : List Stmt} {env : Env}
    (h : wpOwn (model prog w) A c (bodyT body env) (postC prog w A R₀) (postE R₀) s) :
    wpOwn (model prog w) A c (execs body env) (fun f s' => R₀ (.ok f) s') (fun e s' => R₀ (.error e) s') s := by
  intro Γ p hc hΓ
  have z := h Γ p hc hΓ
  unfold bodyT at z
  rw [← R.bindR_eq, ← execsQ_eq] at z
  have z : Sem.wp (model prog w) Γ (execs body env >>= fun f => (Sem.pure (Fin.done f) : Sem Fin)) (fun a _ s' => postC prog w A R₀ a s') (fun e _ s' => postE R₀ e s') p s := z
  rw [Sem.wp_bind'] at z
  refine Sem.wp_mono _ _ _ (fun f p' s' h' => ?_) (fun e p' s' h' => h') _ _ z
  exact h'
noncomputable def excObj (c : String) (tp : Addr) : Obj := { cls := .type c, data := .fields #[.ref tp, .none, .none, .none, .bool false, .none] }
noncomputable def ndA : List Nat := [2, 7, 0, 0, 0, 7, 0, 0, 0, 7, 0, 0, 0, 0, 7, 5, 0, 4, 4, 4, 7, 0, 0, 0, 7, 0, 0, 0, 7, 7, 0, 5, 9, 9, 9, 9, 9, 4, 7, 0, 0, 0, 7, 0, 0, 0, 7, 0, 0, 0, 0, 7, 5, 0, 6, 6, 6, 6, 6, 6]
noncomputable def ndB : List Nat := [13, 7, 0, 0, 0, 7, 0, 0, 0, 7, 7, 0, 5, 13, 13, 13, 7, 0, 0, 0, 7, 0, 7, 0, 7, 0, 0, 0, 7, 0, 5, 5, 5, 13, 7, 0, 0, 0, 7, 0, 0, 0, 7, 7, 0, 5, 13, 13, 13, 13, 13, 7, 0, 0, 0, 7, 0, 0, 0, 7, 7, 0, 5, 13, 15, 15, 15, 7, 0, 0, 0, 7, 0, 0, 0, 7, 7, 0, 5, 15, 15, 7, 0, 0, 0, 7, 0, 0, 0, 7, 7, 0, 5, 15, 7, 0, 0, 0, 7, 0, 0, 0, 7, 7, 0, 5, 11, 11, 11, 11, 11, 15, 7, 0, 0, 0, 7, 0, 0, 0, 7, 7, 0, 5, 17, 17, 17, 17, 7, 0, 0, 0, 7, 0, 0, 0, 7, 7, 0, 5, 0, 0]
noncomputable def ndC : List Nat := [1, 1, 1]
structure ExcX where
  e : Addr
  tp : Addr
  N : Nat
/-- StopIteration() -/
noncomputable abbrev stopCtr : Ctr := { X := ExcX, D := 900, resp := fun x st => (.ok (.ret (.ref x.e)), ⟨(x.e, excObj "StopIteration" x.tp) :: (news st.N st.nw ++ st.base), [], 0, 0, x.N, st.t + st.j, st.g⟩) }
noncomputable abbrev fd719 (P : Params) : FuncData := fdOf (o719 P)
noncomputable abbrev EndGoal (w : World) (scr : Obj) (h₀ : Heap) (A : Around) (R : Result → Shared → Prop) (d : Drawn) (os : OsState) (HH : Nat → Code → Own → Option Obj → Nat → Prop) (PP : Result ⊕ Code → Own → Nat → Nat → Nat → Array GenState → Prop)
    (C : Ctr) (hl : List Nat) (hs : List (List Nat)) (hc : List Nat) (base : Own) (nw : List (Option Obj)) (N t : Nat) (g : Array GenState) : Prop :=
  Mine.run (cfg w scr h₀ A 500 R d os) [C, stopCtr] (fun i c st _ => HH i c (match i with | 0 => st.base | _ => []) (match i with | 0 => nwAt st.nw 0 | _ => none) (st.N + (st.n - 1))) primQ (view PP) 520 false hl hs hc [] True base nw 1 1 N t g (.func (stmtsOf (fd719 w.params)) (envOf (fd719 w.params) 719 N)) [] (bodyT (stmtsOf (fd719 w.params)) (envOf (fd719 w.params) 719 N))
noncomputable def frSelf (P : Params) (tk : Nat) (lx : Addr) : Obj := { cls := .type "frame", data := .dict #[⟨PyData.keyHash P ⟨#[115, 101, 108, 102]⟩, .str ⟨#[115, 101, 108, 102]⟩ tk, .ref lx⟩] 1 }
noncomputable def frSelf2 (P : Params) (tk : Nat) (lx : Addr) (k : Str) (tk2 : Nat) (v : Value) : Obj := { cls := .type "frame", data := .dict #[⟨PyData.keyHash P ⟨#[115, 101, 108, 102]⟩, .str ⟨#[115, 101, 108, 102]⟩ tk, .ref lx⟩, ⟨PyData.keyHash P k, .str k tk2, v⟩] 2 }
noncomputable def rtFr5 (P : Params) (F : Nat → Nat) (lex : Addr) (q : Bool) (te : Nat) (kn : Nat) (nc : Str) (tn : Nat) (kr : Nat) (v : Value) : Obj := match rtFr4 P F lex q te kn nc tn with
  | ⟨c, dd, .dict es n, s⟩ => ⟨c, dd, .dict (es.push ⟨PyData.keyHash P ⟨#[114, 101, 115, 117, 108, 116]⟩, .str ⟨#[114, 101, 115, 117, 108, 116]⟩ kr, v⟩) 5, s⟩
  | o => o
set_option maxHeartbeats 0
theorem nd_seg (w₀ : World) (b1 b2 : Bool) (w : World) (hw : w = wf w₀ b1 b2) (scr : Obj) (h₀ : Heap) (A : Around) (R : Result → Shared → Prop) (d : Drawn) (os : OsState) (HH : Nat → Code → Own → Option Obj → Nat → Prop) (PP : Result ⊕ Code → Own → Nat → Nat → Nat → Array GenState → Prop)
    (T : IoT) (L : LexT) (buf tok : Str) (sv : Value) (I : LoopEnd → Prop) (ln : Int) (i tp tl tt N t : Nat) (g : Array GenState) (a b ld lx pb fs : Addr) (rest : Own) :
    EndGoal w scr h₀ A R d os HH PP (loopCtr w.params T L (nxF t) buf (t + 7) a b ld lx pb fs ⟨#[]⟩ false (fun _ => .none) I) ndA [ndB, ndC] [0, 0, 0, 0, 0, 4, 0, 0, 0, 3, 0, 0, 0, 0, 0, 0, 0, 0, 0, 0, 0, 0, 5, 0] (lexBase w.params T L buf a b ld lx pb fs i tp sv ln tl tok tt rest) [some (frSelf w.params t lx)] N t g =
    (Eqs (want [a, b, ld, lx, pb, fs] N ndA) ∧ True ∧ HH 0 (rtLoop w.params (N + 2)) (lexBase w.params T L buf a b ld lx pb fs i tp sv ln tl tok tt rest) (some (rtFr3 w.params (nxF t) lx false (t + 7))) (N + (3 - 1)) ∧
      ∀ x : { x : LoopEnd × Nat // I x.1 }, Eqs (want [a, b, ld, lx, pb, fs, N + 2, N + 1, N] x.1.1.N ndB) ∧ (True ∧ strEq ⟨#[]⟩ ⟨#[]⟩ = true) ∧ HH 1 (.call (.type "StopIteration") ⟨[], []⟩) [] none (x.1.1.N + (0 - 1)) ∧
      ∀ y : ExcX, Eqs (want [y.e] y.N ndC) ∧ True ∧ PP (.inl (.error (.ref y.e))) ((y.e, excObj "StopIteration" y.tp) :: lexBase w.params T L buf a b ld lx pb fs x.1.1.i x.1.1.tp .none x.1.1.ln x.1.1.tl ⟨#[]⟩ (x.1.1.t + 2) ((N + 2, rtFr5 w.params (nxF t) lx false (t + 7) x.1.2 x.1.1.nc x.1.1.tn (x.1.1.t + 1) .none) :: (N + 1, frSelf2 w.params (t + 1) lx ⟨#[114, 97, 119]⟩ (x.1.1.t + 10) .none) :: (N, frSelf2 w.params t lx ⟨#[116, 111, 107, 101, 110]⟩ (x.1.1.t + 17) .none) :: rest)) 0 y.N (x.1.1.t + 19) g) := by
  subst hw
  cases b1 <;> kernel_rfl
end Mine
end End

section End2
open PySem PySem.Calls PySem.W PySem.W.X PyProof.Rows
set_option Elab.async false
set_option maxRecDepth 100000
namespace Mine
/-- the whole state, laid open -/
noncomputable abbrev viewA (PP : Result ⊕ Code → Own → List (Option Obj) → Nat → Nat → Nat → Nat → Array GenState → Prop) : Result ⊕ Code → St → Prop := fun r st => PP r st.base st.nw st.n st.j st.N st.t st.g
set_option maxHeartbeats 0 in
theorem nd_enter (w₀ : World) (b1 b2 : Bool) (w : World) (hw : w = wf w₀ b1 b2) (scr : Obj) (h₀ : Heap) (A : Around) (R : Result → Shared → Prop) (d : Drawn) (os : OsState) (PP : Result ⊕ Code → Own → List (Option Obj) → Nat → Nat → Nat → Nat → Array GenState → Prop)
    (base : Own) (N t : Nat) (g : Array GenState) (lx : Addr) :
    evCode (cfg w scr h₀ A 500 R d os) (Mine.run (cfg w scr h₀ A 500 R d os) [] (fun _ _ _ _ => False) primQ (viewA PP) 60) (.call (.ref 719) ⟨[.ref lx], []⟩) [2, 2] [] [99] [] True base [] 0 0 N t g [] =
    (Eqs [(N, N), (N, N)] ∧ True ∧ PP (.inr (.func (stmtsOf (fd719 w.params)) (envOf (fd719 w.params) 719 N))) base [some (frSelf w.params t lx)] 1 1 N t g) := by
  subst hw
  cases b1 <;> kernel_rfl
theorem Rep.next {V : Cfg} {h h' : Heap} {st : St} (D : Rep V h st) (keep : ∀ b o, V.h₀.get? b = some o → h'.get? b = some o) {base' : Own} (hb : ∀ p ∈ base', h'.get? p.1 = some p.2) (nod : (base'.map (·.1)).Nodup)
    (low : ∀ p ∈ base', V.n₁ ≤ p.1) (lowN : V.n₁ ≤ h'.objs.size) (j t : Nat) : Rep V h' ⟨base', [], 0, j, h'.objs.size, t, st.g⟩ :=
  ⟨rfl, rfl, hb, nod, fun p hp => Heap.lt_size (hb p hp), low, lowN, fun k _ hk => absurd hk (Nat.not_lt_zero k), keep, D.bare⟩
/-- StopIteration() -/
theorem code_stop {prog : Program} {w : World} {A : Around} {R : Result → Shared → Prop} {hp : Heap} {g : Array GenState} {d : Drawn} {tk : Nat} {os : OsState}
    (h : ∀ h' e, Heap.MadeExc hp h' e "StopIteration" [] → R (.ok (.ret (.ref e))) ⟨h', g, d, tk, os⟩) : codeAny (model prog w) A (.call (.type "StopIteration") ⟨[], []⟩) R ⟨hp, g, d, tk, os⟩ := by
  refine codeAny_of_tree ?_
  show wpAny _ _ (callAny (.type "StopIteration") ⟨[], []⟩) _ _ _
  simp only [callAny]
  exact wpAny_pure ⟨Code.quiet_builtin _ (by decide +kernel), codeAny_builtin entry_type_call (owsi_type_call owsi_facts fun h' e hm => h h' e hm)⟩
section
variable {w : World} {scr : Obj} {h₀ : Heap} (G : Grd w scr h₀) {d : Drawn} {os : OsState} {A : Around} {R : Result → Shared → Prop} {D₀ : Nat}
include G in
theorem fresh_low {h : Heap} {st : St} (D : Rep (cfg w scr h₀ A D₀ R d os) h st) {e : Addr} (hn : h.get? e = none) : 776 ≤ e := by
  rcases Nat.lt_or_ge e 776 with hlt | hge
  · obtain ⟨o, ho⟩ := G.alive e hlt
    have := D.keep e o ho
    rw [hn] at this; cases this
  · exact hge
include G in
theorem stop_ok (st : St) (fr : Option (List Env)) : CtrOk (cfg w scr h₀ A D₀ R d os) stopCtr (.call (.type "StopIteration") ⟨[], []⟩) st fr := by
  intro A' h R' lo _ D q
  refine code_stop fun h' e m => ?_
  obtain ⟨tp, he, _, _⟩ := m.there
  have F := D.flat
  have hb : ∀ p ∈ news st.N st.nw ++ st.base, h.get? p.1 = some p.2 := fun p hp => F.base p (by
    rcases List.mem_append.mp hp with hp | hp
    · exact List.mem_append.mpr (.inr hp)
    · exact List.mem_append.mpr (.inl hp))
  have P : (news st.N st.nw ++ st.base).Perm (st.base ++ news st.N st.nw) := List.perm_append_comm
  refine q ⟨e, tp, h'.objs.size⟩ h' (D.next (fun b o z => m.keeps b o (D.keep b o z)) (fun p hp => ?_) ?_ (fun p hp => ?_) ?_ _ _)
  · rcases List.mem_cons.mp hp with rfl | hp
    · exact he
    · exact m.keeps _ _ (hb p hp)
  · refine List.nodup_cons.mpr ⟨fun hm => ?_, (P.map _).nodup_iff.mpr F.nod⟩
    obtain ⟨p, hp, e1⟩ := List.mem_map.mp hm
    have := hb p hp
    rw [e1, m.new] at this; cases this
  · rcases List.mem_cons.mp hp with rfl | hp
    · exact fresh_low G D m.new
    · exact F.low p (P.mem_iff.mp hp)
  · exact Nat.le_of_lt (Nat.lt_of_le_of_lt (fresh_low G D m.new) (Heap.lt_size he))
end
end Mine
end End2

section End3
open PySem PySem.Calls PySem.W PySem.W.X PyProof.Rows
set_option Elab.async false
set_option maxRecDepth 100000
namespace Mine
structure EndX where
  e : Addr
  oe : Obj
  s1 : Array (Option Value)
  s2 : Array (Option Value)
  tp : Nat
  tt : Nat
  N : Nat
  t : Nat
theorem kind719 (P : Params) : (fdOf (o719 P)).scope.kind = .function := by kernel_rfl
theorem Rep.sel {V : Cfg} {h : Heap} {base m base' : Own} {n j N t : Nat} {nw : List (Option Obj)} {g : Array GenState} (D : Rep V h ⟨base, nw, n, j, N, t, g⟩) (S : m.Sublist base) (P : base'.Perm m) : Rep V h ⟨base', nw, n, j, N, t, g⟩ :=
  D.sub (fun _ hp => S.subset (P.mem_iff.mp hp)) ((P.map _).nodup_iff.mpr ((S.map _).nodup D.nod))
theorem sel_sub {α : Type} (e a b c d f g x y n s l : α) (r : List α) : (e :: a :: b :: c :: d :: f :: g :: n :: s :: l :: r).Sublist (e :: a :: b :: c :: d :: f :: g :: x :: y :: n :: s :: l :: r) :=
  .cons_cons _ (.cons_cons _ (.cons_cons _ (.cons_cons _ (.cons_cons _ (.cons_cons _ (.cons_cons _ (.cons _ (.cons _ (List.Sublist.refl _)))))))))
theorem sel_perm {α : Type} (e a b c d f g n s l : α) (r : List α) : (e :: n :: s :: l :: a :: b :: c :: d :: f :: g :: r).Perm (e :: a :: b :: c :: d :: f :: g :: n :: s :: l :: r) :=
  .cons _ (List.Perm.append_right r (l₁ := [n, s, l] ++ [a, b, c, d, f, g]) (l₂ := [a, b, c, d, f, g] ++ [n, s, l]) List.perm_append_comm)
theorem sel_perm2 {α : Type} (e a b c d f g s l : α) (r : List α) : (e :: a :: b :: c :: d :: f :: g :: s :: l :: r).Perm (e :: s :: l :: a :: b :: c :: d :: f :: g :: r) :=
  .cons _ (List.Perm.append_right r (l₁ := [a, b, c, d, f, g] ++ [s, l]) (l₂ := [s, l] ++ [a, b, c, d, f, g]) List.perm_append_comm)
/-- an exception leaves a def: nothing changes but the slots of the frames and the exception itself -/
theorem leave_first {w : World} {scr : Obj} {h₀ : Heap} {d : Drawn} {os : OsState} {A : Around} {E : Value → Shared → Prop} {Q : Unit → Shared → Prop} {eN eS eL : Env} {aN aS aL e tp : Addr} {oN oS oL : Obj} {cls : String} {keep : Own} {N t : Nat} {g : Array GenState} {h : Heap}
    (G : Grd w scr h₀) (hfr : A.frames = some [eN, eS, eL]) (kN : eN.scope.kind ≠ .module) (kS : eS.scope.kind ≠ .module) (kL : eL.scope.kind ≠ .module) (fN : eN.frame = some aN) (fS : eS.frame = some aS) (fL : eL.frame = some aL)
    (dN : ∀ vs, oN.data ≠ .fields vs) (dS : ∀ vs, oS.data ≠ .fields vs) (dL : ∀ vs, oL.data ≠ .fields vs)
    (D : RepC w scr h₀ d os h ⟨(e, excObj cls tp) :: (aN, oN) :: (aS, oS) :: (aL, oL) :: keep, [], 0, 0, N, t, g⟩)
    (z : ∀ oe s1 s2 h', oe.cls = .type cls → RepC w scr h₀ d os h' ⟨(e, oe) :: (aS, { oS with slots := s1 }) :: (aL, { oL with slots := s2 }) :: keep, [], 0, 0, h'.objs.size, t, g⟩ → Q () ⟨h', g, d, t, os⟩) :
    wpAny (model PySem.Challenge.pw_nq0197_01 w) A (leaving eN (.ref e)) Q E ⟨h, g, d, t, os⟩ := by
  have he := D.base _ (.head _)
  have hN := D.base _ (.tail _ (.head _))
  have hS := D.base _ (.tail _ (.tail _ (.head _)))
  have hL := D.base _ (.tail _ (.tail _ (.tail _ (.head _))))
  have hk : ∀ p ∈ keep, h.get? p.1 = some p.2 := fun p hp => D.base p (.tail _ (.tail _ (.tail _ (.tail _ hp))))
  have nod := D.nod
  have low := D.low
  have mem : ∀ x, x ∈ [e, aN, aS, aL] → 776 ≤ x := fun x hx => by
    simp at hx
    rcases hx with rfl | rfl | rfl | rfl
    · exact low _ (.head _)
    · exact low _ (.tail _ (.head _))
    · exact low _ (.tail _ (.tail _ (.head _)))
    · exact low _ (.tail _ (.tail _ (.tail _ (.head _))))
  have kn : ∀ p ∈ keep, p.1 ∉ [e, aN, aS, aL] := fun p hp hm => by
    simp only [List.map_cons, List.nodup_cons, List.mem_cons, List.mem_map, not_or, not_exists, not_and] at nod
    obtain ⟨⟨_, _, _, n1⟩, ⟨_, _, n2⟩, ⟨_, n3⟩, n4, _⟩ := nod
    simp at hm
    rcases hm with q | q | q | q
    · exact n1 p hp q
    · exact n2 p hp q
    · exact n3 p hp q
    · exact n4 p hp q
  have hid : ∀ x, x ∈ [e, aN, aS, aL] → (hideAll h [e, aN, aS, aL]).get? x = none := fun x hx => hideAll_none _ hx
  refine wpAny_leaving_first (base := hideAll h [e, aN, aS, aL]) hfr ⟨kN, ⟨aN, oN, fN, hid _ (by simp), hN, dN⟩, kS, ⟨aS, oS, fS, hid _ (by simp), hS, dS⟩, kL, ⟨aL, oL, fL, hid _ (by simp), hL, dL⟩, trivial⟩ fN he (fun b o q => of_hideAll _ q) (hid _ (by simp)) rfl rfl fun h' hLf => ?_
  obtain ⟨st, _, ⟨oe, vs, T, oT, ts, he', hc, _⟩, sl⟩ := hLf
  obtain ⟨s1, hS'⟩ := sl aS oS hS dS
  obtain ⟨s2, hL'⟩ := sl aL oL hL dL
  refine z oe s1 s2 h' hc (D.next (fun b o q => ?_) (fun p hp => ?_) ?_ (fun p hp => ?_) ?_ 0 t)
  · have hb := Heap.lt_size q
    have hz : h₀.get? b = some o := q
    refine st b o (hideAll_get _ (D.keep b o hz) fun hm => ?_)
    have h1 := mem b hm
    have hb' : b < 776 := by rw [← G.size]; exact hb
    exact absurd (Nat.lt_of_lt_of_le hb' h1) (Nat.lt_irrefl _)
  · rcases List.mem_cons.mp hp with rfl | hp
    · exact he'
    rcases List.mem_cons.mp hp with rfl | hp
    · exact hS'
    rcases List.mem_cons.mp hp with rfl | hp
    · exact hL'
    · exact st _ _ (hideAll_get _ (hk p hp) (kn p hp))
  · simp only [List.map_cons, List.nodup_cons, List.mem_cons, List.mem_map, not_or, not_exists, not_and] at nod ⊢
    obtain ⟨⟨m1, m2, m3, n1⟩, ⟨m4, m5, n2⟩, ⟨m6, n3⟩, n4, n5⟩ := nod
    exact ⟨⟨m2, m3, n1⟩, ⟨m6, n3⟩, n4, n5⟩
  · rcases List.mem_cons.mp hp with rfl | hp
    · exact mem e (by simp)
    rcases List.mem_cons.mp hp with rfl | hp
    · exact mem aS (by simp)
    rcases List.mem_cons.mp hp with rfl | hp
    · exact mem aL (by simp)
    · exact low p (.tail _ (.tail _ (.tail _ (.tail _ hp))))
  · exact Nat.le_of_lt (Nat.lt_of_le_of_lt (mem e (by simp)) (Heap.lt_size he'))
section
variable {w₀ : World} {b1 b2 : Bool} {w : World} (hw : w = wf w₀ b1 b2) {scr : Obj} {h₀ : Heap} (G : Grd w scr h₀) {d : Drawn} {os : OsState} {A : Around} (lo : Lo A 500) {R : Result → Shared → Prop}
    {T : IoT} {L : LexT} {buf : Str} {g : Array GenState} {a b ld lx pb fs : Addr} {rest : Own} (h1 : 1 < buf.length) (hz : buf.length < 10000)
include hw G lo h1 hz
/-- at the end of the line: StopIteration -/
theorem next_end {eS eL : Env} {aS aL : Addr} {oS oL : Obj} {i tp tl tt N t : Nat} {ln : Int} {h : Heap} (hfr : A.frames = some [eS, eL]) (kS : eS.scope.kind ≠ .module) (kL : eL.scope.kind ≠ .module) (fS : eS.frame = some aS) (fL : eL.frame = some aL)
    (dS : ∀ vs, oS.data ≠ .fields vs) (dL : ∀ vs, oL.data ≠ .fields vs) (hi : buf.length ≤ i)
    (D : RepC w scr h₀ d os h ⟨lexBase w.params T L buf a b ld lx pb fs i tp .none ln tl ⟨#[]⟩ tt ((aS, oS) :: (aL, oL) :: rest), [], 0, 0, N, t, g⟩)
    (z : ∀ (x : EndX) h', x.oe.cls = .type "StopIteration" → RepC w scr h₀ d os h' ⟨(x.e, x.oe) :: lexBase w.params T L buf a b ld lx pb fs i x.tp .none ln tl ⟨#[]⟩ x.tt ((aS, { oS with slots := x.s1 }) :: (aL, { oL with slots := x.s2 }) :: rest), [], 0, 0, x.N, x.t, g⟩ → R (.error (.ref x.e)) ⟨h', g, d, x.t, os⟩) :
    codeAny (model PySem.Challenge.pw_nq0197_01 w) A (.call (.ref 719) ⟨[.ref lx], []⟩) R ⟨h, g, d, t, os⟩ := by
  have D1 : Rep (cfg w scr h₀ A 500 R d os) h ⟨lexBase w.params T L buf a b ld lx pb fs i tp .none ln tl ⟨#[]⟩ tt ((aS, oS) :: (aL, oL) :: rest), [], 0, 0, N, t, g⟩ := D.cast rfl rfl
  let PP1 : Result ⊕ Code → Own → List (Option Obj) → Nat → Nat → Nat → Nat → Array GenState → Prop := fun r B nw n j N' t' g' => r = .inr (.func (stmtsOf (fd719 w.params)) (envOf (fd719 w.params) 719 N)) ∧ B = lexBase w.params T L buf a b ld lx pb fs i tp .none ln tl ⟨#[]⟩ tt ((aS, oS) :: (aL, oL) :: rest) ∧ nw = [some (frSelf w.params t lx)] ∧ n = 1 ∧ j = 1 ∧ N' = N ∧ t' = t ∧ g' = g
  refine code_by_run (V := cfg w scr h₀ A 500 R d os) (G.cfg lo) (cs := []) (H := fun _ _ _ _ => False) (PP := viewA PP1) (prim_ok _) (fun _ _ _ _ _ _ h => h.elim) (fun r st h' p D' => ?_) (fun c st h' p D' => ?_) 60 (Eq.mpr (nd_enter w₀ b1 b2 w hw scr h₀ A R d os PP1 _ N t g lx) ⟨⟨rfl, rfl, trivial⟩, trivial, rfl, rfl, rfl, rfl, rfl, rfl, rfl, rfl⟩) D1
  · obtain ⟨e, _⟩ := p; cases e
  obtain ⟨base, nw, n, j, N', t', g'⟩ := st
  obtain ⟨e0, e1, e2, e3, e4, e5, e6, e7⟩ := p
  cases e0
  simp only at e1 e2 e3 e4 e5 e6 e7 D' ⊢
  subst e1 e2 e3 e4 e5 e6 e7
  refine func_own ?_
  refine wpOwn_mono (bodyT_own (R₀ := fun r s => ∃ e, r = .error e ∧ wpAny (model PySem.Challenge.pw_nq0197_01 w) (A.deeper (envOf (fd719 w.params) 719 N')) (leaving (envOf (fd719 w.params) 719 N') e) (fun _ s'' => R (.error e) s'') (fun e' s'' => R (.error e') s'') s) ?_) (fun f s' q => ?_) (fun e s' q => ?_)
  rotate_left
  · obtain ⟨e, q, _⟩ := q; cases q
  · obtain ⟨e, q, r⟩ := q; cases q; exact r
  have D2 : Rep (cfg w scr h₀ A 500 (fun r s => ∃ e, r = .error e ∧ wpAny (model PySem.Challenge.pw_nq0197_01 w) (A.deeper (envOf (fd719 w.params) 719 N')) (leaving (envOf (fd719 w.params) 719 N') e) (fun _ s'' => R (.error e) s'') (fun e' s'' => R (.error e') s'') s) d os) h' ⟨lexBase w.params T L buf a b ld lx pb fs i tp .none ln tl ⟨#[]⟩ tt ((aS, oS) :: (aL, oL) :: rest), [some (frSelf w.params t' lx)], 1, 1, N', t', g'⟩ := D'.cast rfl rfl
  let HH : Nat → Code → Own → Option Obj → Nat → Prop := fun k c B o ad => match k with
    | 0 => nextHH w.params (lexBase w.params T L buf a b ld lx pb fs i tp .none ln tl ⟨#[]⟩ tt ((aS, oS) :: (aL, oL) :: rest)) lx t' 0 c B o ad
    | _ => c = .call (.type "StopIteration") ⟨[], []⟩
  let PP : Result ⊕ Code → Own → Nat → Nat → Nat → Array GenState → Prop := fun r B n N2 tk g2 => ∃ (x : LoopEnd × Nat) (y : ExcX), r = .inl (.error (.ref y.e)) ∧ n = 0 ∧ g2 = g' ∧
    B = ((y.e, excObj "StopIteration" y.tp) :: lexBase w.params T L buf a b ld lx pb fs i x.1.tp .none ln tl ⟨#[]⟩ (x.1.t + 2) ((N' + 2, rtFr5 w.params (nxF t') lx false (t' + 7) x.2 x.1.nc x.1.tn (x.1.t + 1) .none) :: (N' + 1, frSelf2 w.params (t' + 1) lx ⟨#[114, 97, 119]⟩ (x.1.t + 10) .none) :: (N', frSelf2 w.params t' lx ⟨#[116, 111, 107, 101, 110]⟩ (x.1.t + 17) .none) :: (aS, oS) :: (aL, oL) :: rest))
  refine tree_by_run (V := cfg w scr h₀ A 500 (fun r s => ∃ e, r = .error e ∧ wpAny (model PySem.Challenge.pw_nq0197_01 w) (A.deeper (envOf (fd719 w.params) 719 N')) (leaving (envOf (fd719 w.params) 719 N') e) (fun _ s'' => R (.error e) s'') (fun e' s'' => R (.error e') s'') s) d os) (G.cfg lo) (prim_ok _) (fun k C c st fr hi' hh => ?_) (fun r st h2 p D3 => ?_) (fun c st h2 p D3 => ?_) 520
    (Eq.mpr (nd_seg w₀ b1 b2 w hw scr h₀ A _ d os HH PP T L buf ⟨#[]⟩ .none (fun x => x.i = i ∧ x.ln = ln ∧ x.tl = tl) ln i tp tl tt N' t' g' a b ld lx pb fs ((aS, oS) :: (aL, oL) :: rest)) ?_) D2
  · match k, hi' with
    | 0, hi' =>
      simp at hi'
      subst hi'
      intro A' h3 R' lo' _ D4 q'
      obtain ⟨rfl, e1, e2⟩ := hh
      obtain ⟨base, nw, n, j, N3, t3, g3⟩ := st
      simp only at e1 e2 D4 q' ⊢
      subst e1
      have e3 := nw_head e2
      rw [e3] at D4
      have P := Rep.pull (req := [(a, ioDict w.params T buf (Int.ofNat i) tp), (b, ioInst a), (ld, lexDict w.params L b pb fs .none ln tl ⟨#[]⟩ tt), (lx, lexInst ld), (pb, dqObj), (fs, dqObj)]) (rest := (aS, oS) :: (aL, oL) :: rest) D4
      have P2 := (P.perm (j' := 0) (t' := t3 + j) (perm_f _ _ _ _ _ _ _ _)).cast (V' := cfg w scr h₀ callerA 0 (fun _ _ => True) d os) rfl rfl
      refine loop_end hw G lo' h1 hz hi P2 (fun x kn h4 D5 => ?_)
      have D6 := (D5.perm (j' := 0) (t' := x.t) (perm_f _ _ _ _ _ _ _ _).symm)
      exact q' ⟨({ x with i := i, ln := ln, tl := tl, nc := ⟨#[]⟩ }, kn), rfl, rfl, rfl⟩ h4 (D6.cast rfl rfl)
    | 1, hi' =>
      simp at hi'
      subst hi'
      have e : c = .call (.type "StopIteration") ⟨[], []⟩ := hh
      subst e
      exact stop_ok G st fr
  · obtain ⟨x, y, e0, e1, e2, e3⟩ := p
    cases e0
    refine ⟨_, rfl, ?_⟩
    obtain ⟨base, nw, n, j, N3, t3, g3⟩ := st
    simp only at e1 e2 e3 D3 ⊢
    subst e1 e2 e3
    have F := (D3.anew (t3 + j)).cast (V' := cfg w scr h₀ callerA 0 (fun _ _ => True) d os) rfl rfl
    refine leave_first (aN := N') (oN := frSelf2 w.params t' lx ⟨#[116, 111, 107, 101, 110]⟩ (x.1.t + 17) .none) (keep := lexBase w.params T L buf a b ld lx pb fs i x.1.tp .none ln tl ⟨#[]⟩ (x.1.t + 2) rest) G (Around.frames_deeper hfr) ?_ kS kL rfl fS fL (fun vs q => by cases q) dS dL (F.sel (sel_sub _ _ _ _ _ _ _ _ _ _ _ _ rest) (sel_perm _ _ _ _ _ _ _ _ _ _ rest)) (fun oe s1 s2 h3 hc D4 => ?_)
    · rw [show (envOf (fd719 w.params) 719 N').scope.kind = (fdOf (o719 w.params)).scope.kind from rfl, kind719]; decide
    · exact z ⟨y.e, oe, s1, s2, x.1.tp, x.1.t + 2, h3.objs.size, t3 + j⟩ h3 hc (D4.perm (sel_perm2 _ _ _ _ _ _ _ _ _ rest))
  · obtain ⟨x, y, e0, _⟩ := p; cases e0
  · exact ⟨eqs_want _ _ _, trivial, ⟨rfl, rfl, rfl⟩, fun x => ⟨eqs_want _ _ _, ⟨trivial, rfl⟩, rfl, fun y => ⟨eqs_want _ _ _, trivial, x.1, y, rfl, rfl, rfl, by rw [x.2.1, x.2.2.1, x.2.2.2]⟩⟩⟩
end
end Mine
end End3

section Lst
open PySem PySem.Calls PySem.W PySem.W.X PyProof.Rows
set_option Elab.async false
set_option maxRecDepth 100000
namespace Mine
noncomputable abbrev pyNextQ : Value → Sem (Option Value) := PySem.W.Fast.tw9404975358583537561
theorem pyNextQ_eq : @pyNext = pyNextQ := PySem.W.Fast.te9404975358583537561
/-- one step of an iterator, as a tree -/
noncomputable def nextT (v : Value) : Sem Fin := R.bindR (pyNextQ v) fun o => .pure (.done (match o with
  | none => .next
  | some v => .ret v))
theorem nextT_own {prog : Program} {w : World} {A : Around} {R₀ : Result → Shared → Prop} {s : Shared} {c : Code} {v : Value}
    (h : wpOwn (model prog w) A c (nextT v) (postC prog w A R₀) (postE R₀) s) :
    wpOwn (model prog w) A c (pyNext v) (fun o s' => R₀ (.ok (match o with | none => .next | some v => .ret v)) s') (fun e s' => R₀ (.error e) s') s := by
  intro Γ p hc hΓ
  have z := h Γ p hc hΓ
  unfold nextT at z
  rw [← R.bindR_eq, ← pyNextQ_eq] at z
  have z : Sem.wp (model prog w) Γ (pyNext v >>= fun o => (Sem.pure (Fin.done (match o with | none => .next | some v => .ret v)) : Sem Fin)) (fun a _ s' => postC prog w A R₀ a s') (fun e _ s' => postE R₀ e s') p s := z
  rw [Sem.wp_bind'] at z
  exact Sem.wp_mono _ _ _ (fun f p' s' h' => h') (fun e p' s' h' => h') _ _ z
/-- a contract that names the whole base that stands behind it -/
noncomputable abbrev wholeCtr {X : Type} (r : X → Result) (B : X → Own) (N t : X → Nat) (D : Nat) : Ctr := { X, D, resp := fun x st => (r x, ⟨B x, [], 0, 0, N x, t x, st.g⟩) }
noncomputable abbrev PnGoal (w : World) (scr : Obj) (h₀ : Heap) (A : Around) (R : Result → Shared → Prop) (d : Drawn) (os : OsState) (c : Code) (HH : Nat → Code → Own → List (Option Obj) → Nat → Nat → Nat → Nat → Array GenState → Option (List Env) → Prop) (PP : Result ⊕ Code → Own → List (Option Obj) → Nat → Nat → Nat → Nat → Array GenState → Prop)
    (C : Ctr) (lx : Addr) (hs : List (List Nat)) (base : Own) (N t : Nat) (g : Array GenState) : Prop :=
  Mine.run (cfg w scr h₀ A 450 R d os) [C] (fun i c st fr => HH i c st.base st.nw st.n st.j st.N st.t st.g fr) primQ (viewA PP) 60 false [7, 0, 0, 0, 0] hs [4] [] True base [] 0 0 N t g c [] (nextT (.ref lx))
set_option maxHeartbeats 0
theorem pn_word (w₀ : World) (b1 b2 : Bool) (w : World) (hw : w = wf w₀ b1 b2) (scr : Obj) (h₀ : Heap) (A : Around) (R : Result → Shared → Prop) (d : Drawn) (os : OsState) (HH : Nat → Code → Own → List (Option Obj) → Nat → Nat → Nat → Nat → Array GenState → Option (List Env) → Prop) (PP : Result ⊕ Code → Own → List (Option Obj) → Nat → Nat → Nat → Nat → Array GenState → Prop)
    (X : Type) (v : X → Value) (B : X → Own) (NN tk : X → Nat) (x1 x2 x3 : Addr × Obj) (ld lx : Addr) (rest : Own) (N t : Nat) (g : Array GenState) (args : Args) :
    PnGoal w scr h₀ A R d os (.builtin "list.extend.loop" args) HH PP (wholeCtr (fun x => .ok (.ret (v x))) B NN tk 500) lx [] (x1 :: x2 :: x3 :: (lx, lexInst ld) :: rest) N t g =
    (Eqs [(lx, lx)] ∧ True ∧ HH 0 (.call (.ref 719) ⟨[.ref lx], []⟩) (x1 :: x2 :: x3 :: (lx, lexInst ld) :: rest) [] 0 0 N t g A.frames ∧ ∀ x : X, Eqs [] ∧ True ∧ PP (.inl (.ok (.ret (v x)))) (B x) [] 0 0 (NN x) (tk x) g) := by
  subst hw
  cases b1 <;> kernel_rfl
theorem pn_end (w₀ : World) (b1 b2 : Bool) (w : World) (hw : w = wf w₀ b1 b2) (scr : Obj) (h₀ : Heap) (A : Around) (R : Result → Shared → Prop) (d : Drawn) (os : OsState) (HH : Nat → Code → Own → List (Option Obj) → Nat → Nat → Nat → Nat → Array GenState → Option (List Env) → Prop) (PP : Result ⊕ Code → Own → List (Option Obj) → Nat → Nat → Nat → Nat → Array GenState → Prop)
    (X : Type) (ea : X → Addr) (oe : X → Obj) (B : X → Own) (NN tk : X → Nat) (x1 x2 x3 : Addr × Obj) (ld lx : Addr) (rest : Own) (N t : Nat) (g : Array GenState) (args : Args) :
    PnGoal w scr h₀ A R d os (.builtin "list.extend.loop" args) HH PP (wholeCtr (fun x => .error (.ref (ea x))) (fun x => (ea x, { oe x with cls := .type "StopIteration" }) :: B x) NN tk 500) lx [[1]] (x1 :: x2 :: x3 :: (lx, lexInst ld) :: rest) N t g =
    (Eqs [(lx, lx)] ∧ True ∧ HH 0 (.call (.ref 719) ⟨[.ref lx], []⟩) (x1 :: x2 :: x3 :: (lx, lexInst ld) :: rest) [] 0 0 N t g A.frames ∧ ∀ x : X, Eqs [(ea x, ea x)] ∧ True ∧ PP (.inl (.ok .next)) ((ea x, { oe x with cls := .type "StopIteration" }) :: B x) [] 0 0 (NN x) (tk x) g) := by
  subst hw
  cases b1 <;> kernel_rfl
end Mine
end Lst

section Lst2
open PySem PySem.Calls PySem.W PySem.W.X PyProof.Rows
set_option Elab.async false
set_option maxRecDepth 100000
namespace Mine
/-- a line's words -/
inductive Words (m : Nat) : List Nat → List Str → Prop
  | last {c l tok} : scan m false l ⟨#[c]⟩ = (tok, none) → Words m (c :: l) [tok]
  | more {c l tok l' ws} : scan m false l ⟨#[c]⟩ = (tok, some l') → Words m l' ws → Words m (c :: l) (tok :: ws)
theorem good_scan {ℓ wh m : Nat} : ∀ {l : List Nat} {q : Bool} {tok tok' : Str} {l' : List Nat}, good ℓ wh m q l → scan m q l tok = (tok', some l') → ∃ l2, l' = ℓ :: l2 ∧ good ℓ wh m false l2
  | [], q, tok, tok', l', _, h => by cases q <;> (simp [scan] at h)
  | c :: l, false, tok, tok', l', hg, h => by
    rw [scan] at h
    unfold good at hg
    split at h
    · rename_i e
      rw [if_pos e] at hg
      exact good_scan hg h
    · rename_i e
      rw [if_neg e] at hg
      cases h
      cases l with
      | nil => exact hg.2.elim
      | cons e2 l2 =>
        obtain ⟨_, rfl, h2⟩ := hg
        exact ⟨l2, rfl, h2⟩
  | c :: l, true, tok, tok', l', hg, h => by
    rw [scan] at h
    unfold good at hg
    split at h
    · rename_i e
      rw [if_pos e] at hg
      exact good_scan hg h
    · rename_i e
      rw [if_neg e] at hg
      exact good_scan hg.2 h
theorem scan_len {m : Nat} : ∀ {l : List Nat} {q : Bool} {tok tok' : Str} {l' : List Nat}, scan m q l tok = (tok', some l') → l'.length < l.length
  | [], q, tok, tok', l', h => by cases q <;> (simp [scan] at h)
  | c :: l, false, tok, tok', l', h => by
    rw [scan] at h
    split at h
    · have := scan_len h; simp; omega
    · cases h; simp
  | c :: l, true, tok, tok', l', h => by
    rw [scan] at h
    split at h
    · have := scan_len h; simp; omega
    · have := scan_len h; simp; omega
noncomputable def listObj (xs : Array Value) (c : Nat) : Obj := { cls := .type "list", data := .seq xs c }
theorem mapSeq_list (xs : Array Value) (c : Nat) (f : Array Value → Array Value) : ∃ c', Obj.mapSeq f (listObj xs c) = listObj (f xs) c' := ⟨_, rfl⟩
theorem den_builtin {id : String} {args : Args} {b : Builtin} (hb : entryFor table id = some b) : denote table (.builtin id args) = b args := by
  show (match entryFor table id with | some b => b args | none => unsupported ((withoutEnding? id "#data").getD id)) = _
  rw [hb]
structure LstX where
  i : Nat
  tp : Nat
  ln : Int
  tl : Nat
  tt : Nat
  s1 : Array (Option Value)
  s2 : Array (Option Value)
  c : Nat
  N : Nat
  t : Nat
section
variable {w₀ : World} {b1 b2 : Bool} {w : World} (hw : w = wf w₀ b1 b2) {scr : Obj} {h₀ : Heap} (G : Grd w scr h₀) {d : Drawn} {os : OsState} {A : Around} (lo : Lo A 450) {R₀ : Result → Shared → Prop}
noncomputable abbrev stepHH (lx : Addr) (base : Own) (N t : Nat) (g : Array GenState) (A : Around) : Nat → Code → Own → List (Option Obj) → Nat → Nat → Nat → Nat → Array GenState → Option (List Env) → Prop :=
  fun _ c B nw n j N' t' g' fr => c = .call (.ref 719) ⟨[.ref lx], []⟩ ∧ B = base ∧ nw = [] ∧ n = 0 ∧ j = 0 ∧ N' = N ∧ t' = t ∧ g' = g ∧ fr = A.frames
noncomputable abbrev stepPP {X : Type} (r : X → Result) (B : X → Own) (NN tk : X → Nat) (g : Array GenState) : Result ⊕ Code → Own → List (Option Obj) → Nat → Nat → Nat → Nat → Array GenState → Prop :=
  fun r' B' nw n j N' t' g' => ∃ x : X, r' = .inl (r x) ∧ B' = B x ∧ nw = [] ∧ n = 0 ∧ j = 0 ∧ N' = NN x ∧ t' = tk x ∧ g' = g
include G lo in
theorem step_run {X : Type} {rc rr : X → Result} {B : X → Own} {NN tk : X → Nat} {lx : Addr} {base : Own} {N t : Nat} {g : Array GenState} {h : Heap} {args : Args} {hs : List (List Nat)}
    (callee : ∀ (A' : Around) (R' : Result → Shared → Prop), Lo A' 500 → A'.frames = A.frames → (∀ x h', RepC w scr h₀ d os h' ⟨B x, [], 0, 0, NN x, tk x, g⟩ → R' (rc x) ⟨h', g, d, tk x, os⟩) → ∀ h, RepC w scr h₀ d os h ⟨base, [], 0, 0, N, t, g⟩ → codeAny (model PySem.Challenge.pw_nq0197_01 w) A' (.call (.ref 719) ⟨[.ref lx], []⟩) R' ⟨h, g, d, t, os⟩)
    (X0 : PnGoal w scr h₀ A R₀ d os (.builtin "list.extend.loop" args) (stepHH lx base N t g A) (stepPP rr B NN tk g) (wholeCtr rc B NN tk 500) lx hs base N t g)
    (D : RepC w scr h₀ d os h ⟨base, [], 0, 0, N, t, g⟩)
    (z : ∀ x h', RepC w scr h₀ d os h' ⟨B x, [], 0, 0, NN x, tk x, g⟩ → R₀ (rr x) ⟨h', g, d, tk x, os⟩) :
    wpOwn (model PySem.Challenge.pw_nq0197_01 w) A (.builtin "list.extend.loop" args) (nextT (.ref lx)) (postC PySem.Challenge.pw_nq0197_01 w A R₀) (postE R₀) ⟨h, g, d, t, os⟩ := by
  refine tree_by_run (V := cfg w scr h₀ A 450 R₀ d os) (G.cfg lo) (prim_ok _) (fun k C c st fr hi hh => ?_) (fun r st h' p D' => ?_) (fun c st h' p D' => ?_) 60 X0 (D.cast rfl rfl)
  · match k, hi with
    | 0, hi =>
      simp at hi
      subst hi
      obtain ⟨base', nw, n, j, N', t', g'⟩ := st
      obtain ⟨e0, e1, e2, e3, e4, e5, e6, e7, e8⟩ := hh
      simp only at e1 e2 e3 e4 e5 e6 e7
      subst e0 e1 e2 e3 e4 e5 e6 e7 e8
      intro A' h' R' lo' hfr D' q
      exact callee A' R' lo' hfr (fun x h2 D2 => q x h2 (D2.cast rfl rfl)) h' (D'.cast rfl rfl)
  · obtain ⟨base', nw, n, j, N', t', g'⟩ := st
    obtain ⟨x, e0, e1, e2, e3, e4, e5, e6, e7⟩ := p
    cases e0
    simp only at e1 e2 e3 e4 e5 e6 e7 D' ⊢
    subst e1 e2 e3 e4 e5 e6 e7
    exact z x h' (D'.cast rfl rfl)
  · obtain ⟨x, e0, _⟩ := p; cases e0
end
section
variable {w₀ : World} {b1 b2 : Bool} {w : World} (hw : w = wf w₀ b1 b2) {scr : Obj} {h₀ : Heap} (G : Grd w scr h₀) {d : Drawn} {os : OsState} {A : Around} (lo : Lo A 450) {R : Result → Shared → Prop}
    {T : IoT} {L : LexT} {buf : Str} {ℓ wh m : Nat} {g : Array GenState} {a b ld lx pb fs aS aL S : Addr} {oS oL : Obj} {eS eL : Env} {rest : Own} (Z : Sgn ℓ wh m) (h1 : 1 < buf.length) (hz : buf.length < 10000)
    (hfr : A.frames = some [eS, eL]) (kS : eS.scope.kind ≠ .module) (kL : eL.scope.kind ≠ .module) (fS : eS.frame = some aS) (fL : eL.frame = some aL) (dS : ∀ vs, oS.data ≠ .fields vs) (dL : ∀ vs, oL.data ≠ .fields vs)
noncomputable abbrev lstBase (P : Params) (T : IoT) (L : LexT) (buf : Str) (a b ld lx pb fs aS aL S : Addr) (oS oL : Obj) (i tp : Nat) (sv : Value) (ln : Int) (tl tt : Nat) (xs : Array Value) (c : Nat) (rest : Own) : Own :=
  lexBase P T L buf a b ld lx pb fs i tp sv ln tl ⟨#[]⟩ tt ((aS, oS) :: (aL, oL) :: (S, listObj xs c) :: rest)
noncomputable abbrev loopCode (S lx : Addr) : Code := .builtin "list.extend.loop" ⟨[.ref S, .ref lx, .none], []⟩
/-- the loop's turn, from what the next step of the iterator brings -/
theorem ext_turn {s : Shared} {S lx : Addr} (x : wpOwn (model PySem.Challenge.pw_nq0197_01 w) A (loopCode S lx) (pyNext (.ref lx)) (fun o s' => match o with
      | none => R (.ok (.ret .none)) s'
      | some v => ∃ xs c, s'.heap.get? S = some (listObj xs c) ∧ xs.size < 10000 ∧ codeAny (model PySem.Challenge.pw_nq0197_01 w) A (loopCode S lx) R { s' with heap := s'.heap.update S (Obj.mapSeq (·.push v)) }) (fun e s' => R (.error e) s') s) :
    codeAny (model PySem.Challenge.pw_nq0197_01 w) A (loopCode S lx) R s := by
  refine y_code _ _ _ _ _ _ ?_
  have e : denote table (loopCode S lx) = (pyNext (.ref lx) >>= fun o => match o with | none => ret .none | some x => (do Builtin.List.listUpdate (.ref S) (·.push x); again (loopCode S lx))) := den_builtin F.entry_extend_loop
  rw [e]
  refine wpOwn_bind (wpOwn_mono x (fun o s' q => ?_) (fun e s' q => q))
  cases o with
  | none => exact wpOwn_of_wpAny (wpAny_pure q)
  | some v =>
    obtain ⟨xs, c, hS, hx, q⟩ := q
    refine wpOwn_of_wpAny (wpAny_bind ?_)
    show wpAny _ _ (updateSeq S (·.push v)) _ _ _
    have l1 : xs.size ≤ sizeLine := by
      have : 10000 ≤ sizeLine := by decide
      omega
    have l2 : (xs.push v).size ≤ sizeLine + 1 := by rw [Array.size_push]; omega
    exact wpAny_updateSeq hS rfl (wpAny_pure ⟨plainId_quiet F.plain_extend_loop _, q⟩) l1 l2
/-- what is left to do behind one step -/
noncomputable def turnR (w : World) (A : Around) (S lx : Addr) (R : Result → Shared → Prop) : Result → Shared → Prop := fun r s' => match r with
  | .ok (.ret v) => ∃ xs c, s'.heap.get? S = some (listObj xs c) ∧ xs.size < 10000 ∧ codeAny (model PySem.Challenge.pw_nq0197_01 w) A (loopCode S lx) R { s' with heap := s'.heap.update S (Obj.mapSeq (·.push v)) }
  | .ok .next => R (.ok (.ret .none)) s'
  | .error e => R (.error e) s'
  | _ => False
theorem turnR_own {s : Shared} {S lx : Addr} (x : wpOwn (model PySem.Challenge.pw_nq0197_01 w) A (loopCode S lx) (nextT (.ref lx)) (postC PySem.Challenge.pw_nq0197_01 w A (turnR w A S lx R)) (postE (turnR w A S lx R)) s) :
    wpOwn (model PySem.Challenge.pw_nq0197_01 w) A (loopCode S lx) (pyNext (.ref lx)) (fun o s' => match o with
      | none => R (.ok (.ret .none)) s'
      | some v => ∃ xs c, s'.heap.get? S = some (listObj xs c) ∧ xs.size < 10000 ∧ codeAny (model PySem.Challenge.pw_nq0197_01 w) A (loopCode S lx) R { s' with heap := s'.heap.update S (Obj.mapSeq (·.push v)) }) (fun e s' => R (.error e) s') s :=
  wpOwn_mono (nextT_own x) (fun o s' q => by cases o <;> exact q) (fun _ _ q => q)
include G lo in
theorem push_rep {xs : Array Value} {cc i tp tl tt N t : Nat} {ln : Int} {sv v : Value} {h : Heap} (D : RepC w scr h₀ d os h ⟨lstBase w.params T L buf a b ld lx pb fs aS aL S oS oL i tp sv ln tl tt xs cc rest, [], 0, 0, N, t, g⟩) :
    h.get? S = some (listObj xs cc) ∧ ∃ c', RepC w scr h₀ d os (h.update S (Obj.mapSeq (·.push v))) ⟨lstBase w.params T L buf a b ld lx pb fs aS aL S oS oL i tp sv ln tl tt (xs.push v) c' rest, [], 0, 0, N, t, g⟩ := by
  have hS : h.get? S = some (listObj xs cc) := D.base (S, listObj xs cc) (.tail _ (.tail _ (.tail _ (.tail _ (.tail _ (.tail _ (.tail _ (.tail _ (.head _)))))))))
  obtain ⟨c', e⟩ := mapSeq_list xs cc (·.push v)
  have D1 := (D.cast (V' := cfg w scr h₀ A 450 (fun _ _ => True) d os) rfl rfl).setBase (G.cfg lo) (i := 8) (p := (S, listObj xs cc)) (f := Obj.mapSeq (·.push v)) rfl rfl
  simp only [e] at D1
  exact ⟨hS, c', D1.cast rfl rfl⟩
include hw G lo Z h1 hz hfr kS kL fS fL dS dL
theorem ext_loop : ∀ {l : List Nat} {ws : List Str}, Words m l ws → ∀ {l2 : List Nat} {i tp ts tl tt c N t : Nat} {ln : Int} {xs : Array Value} {h : Heap}, l = ℓ :: l2 → good ℓ wh m false l2 → buf.cps.toList.drop i = l → xs.size + l.length < 10000 →
    RepC w scr h₀ d os h ⟨lstBase w.params T L buf a b ld lx pb fs aS aL S oS oL i tp (.str ⟨#[32]⟩ ts) ln tl tt xs c rest, [], 0, 0, N, t, g⟩ →
    (∀ (x : LstX) (vs : List Value) h', StrsAre vs ws → RepC w scr h₀ d os h' ⟨lstBase w.params T L buf a b ld lx pb fs aS aL S { oS with slots := x.s1 } { oL with slots := x.s2 } x.i x.tp .none x.ln x.tl x.tt (xs ++ vs.toArray) x.c rest, [], 0, 0, x.N, x.t, g⟩ → R (.ok (.ret .none)) ⟨h', g, d, x.t, os⟩) →
    codeAny (model PySem.Challenge.pw_nq0197_01 w) A (loopCode S lx) R ⟨h, g, d, t, os⟩ := by
  intro l ws W
  induction W with
  | @last c l tok hsc =>
    intro l2 i tp ts tl tt cc N t ln xs h e hg hd hx D z
    cases e
    refine ext_turn (turnR_own (step_run (X := { x : LoopEnd × Nat // buf.cps.toList.drop x.1.i = [] }) (rc := fun x => .ok (.ret (.str tok x.1.1.tt))) (rr := fun x => .ok (.ret (.str tok x.1.1.tt)))
      (B := fun x => lstBase w.params T L buf a b ld lx pb fs aS aL S oS oL x.1.1.i x.1.1.tp .none x.1.1.ln x.1.1.tl x.1.2 xs cc rest) (NN := fun x => x.1.1.N) (tk := fun x => x.1.1.t) G lo (fun A' R' lo' hfr' q h D => ?_) (Eq.mpr (pn_word w₀ b1 b2 w hw scr h₀ A _ d os _ _ _ _ _ _ _ _ _ _ ld lx _ N t g _) ?_) D (fun x h' D' => ?_)))
    · refine next_word hw G lo' Z h1 hz hd hg D (fun x tt' h' e D' => ?_)
      rw [hsc] at e D'
      rw [hsc]
      exact q ⟨(x, tt'), e⟩ h' D'
    · exact ⟨⟨rfl, trivial⟩, trivial, ⟨rfl, rfl, rfl, rfl, rfl, rfl, rfl, rfl, rfl⟩, fun x => ⟨trivial, trivial, x, rfl, rfl, rfl, rfl, rfl, rfl, rfl, rfl⟩⟩
    · obtain ⟨⟨x, tt'⟩, hdx⟩ := x
      obtain ⟨hS, c', D2⟩ := push_rep G lo (v := .str tok x.tt) D'
      refine ⟨xs, cc, hS, by simp at hx; omega, ?_⟩
      have hi : buf.length ≤ x.i := by
        have := congrArg List.length hdx
        simp at this
        unfold Str.length; omega
      refine ext_turn (turnR_own (step_run (X := { x : EndX // x.oe.cls = .type "StopIteration" }) (rc := fun y => .error (.ref y.1.e)) (rr := fun _ => .ok .next)
        (B := fun y => (y.1.e, { y.1.oe with cls := .type "StopIteration" }) :: lstBase w.params T L buf a b ld lx pb fs aS aL S { oS with slots := y.1.s1 } { oL with slots := y.1.s2 } x.i y.1.tp .none x.ln x.tl y.1.tt (xs.push (.str tok x.tt)) c' rest) (NN := fun y => y.1.N) (tk := fun y => y.1.t) G lo (fun A' R' lo' hfr' q h D => ?_) (Eq.mpr (pn_end w₀ b1 b2 w hw scr h₀ A _ d os _ _ { x : EndX // x.oe.cls = .type "StopIteration" } (fun y => y.1.e) (fun y => y.1.oe) _ _ _ _ _ _ ld lx _ _ _ g _) ?_) D2 (fun y h2 D3 => ?_)))
      · refine next_end hw G lo' h1 hz (hfr'.trans hfr) kS kL fS fL dS dL hi D (fun y h3 hc D4 => ?_)
        refine q ⟨y, hc⟩ h3 ?_
        have : ({ y.oe with cls := .type "StopIteration" } : Obj) = y.oe := by
          obtain ⟨_, ⟨c0, d0, dt0, s0⟩, _, _, _, _, _, _⟩ := y
          simp only at hc
          subst hc
          rfl
        simp only [this]
        exact D4
      · exact ⟨⟨rfl, trivial⟩, trivial, ⟨rfl, rfl, rfl, rfl, rfl, rfl, rfl, rfl, rfl⟩, fun x => ⟨⟨rfl, trivial⟩, trivial, x, rfl, rfl, rfl, rfl, rfl, rfl, rfl, rfl⟩⟩
      · have D5 := D3.sel (List.Sublist.cons _ (List.Sublist.refl _)) (List.Perm.refl _)
        refine z ⟨x.i, y.1.tp, x.ln, x.tl, y.1.tt, y.1.s1, y.1.s2, c', y.1.N, y.1.t⟩ [.str tok x.tt] h2 (.cons _ _ .nil) ?_
        have e : xs ++ [Value.str tok x.tt].toArray = xs.push (.str tok x.tt) := by simp
        simp only [e]
        exact D5
  | @more c l tok l' ws hsc W ih =>
    intro l2 i tp ts tl tt cc N t ln xs h e hg hd hx D z
    cases e
    obtain ⟨l3, rfl, hg3⟩ := good_scan hg hsc
    refine ext_turn (turnR_own (step_run (X := { x : LoopEnd × Nat // buf.cps.toList.drop x.1.i = ℓ :: l3 }) (rc := fun x => .ok (.ret (.str tok x.1.1.tt))) (rr := fun x => .ok (.ret (.str tok x.1.1.tt)))
      (B := fun x => lstBase w.params T L buf a b ld lx pb fs aS aL S oS oL x.1.1.i x.1.1.tp (.str ⟨#[32]⟩ x.1.1.ts) x.1.1.ln x.1.1.tl x.1.2 xs cc rest) (NN := fun x => x.1.1.N) (tk := fun x => x.1.1.t) G lo (fun A' R' lo' hfr' q h D => ?_) (Eq.mpr (pn_word w₀ b1 b2 w hw scr h₀ A _ d os _ _ _ _ _ _ _ _ _ _ ld lx _ N t g _) ?_) D (fun x h' D' => ?_)))
    · refine next_word hw G lo' Z h1 hz hd hg D (fun x tt' h' e D' => ?_)
      rw [hsc] at e D'
      rw [hsc]
      exact q ⟨(x, tt'), e⟩ h' D'
    · exact ⟨⟨rfl, trivial⟩, trivial, ⟨rfl, rfl, rfl, rfl, rfl, rfl, rfl, rfl, rfl⟩, fun x => ⟨trivial, trivial, x, rfl, rfl, rfl, rfl, rfl, rfl, rfl, rfl⟩⟩
    · obtain ⟨⟨x, tt'⟩, hdx⟩ := x
      obtain ⟨hS, c', D2⟩ := push_rep G lo (v := .str tok x.tt) D'
      refine ⟨xs, cc, hS, by simp at hx; omega, ?_⟩
      have hl := scan_len hsc
      refine ih rfl hg3 hdx (by simp at hx hl ⊢; omega) D2 (fun y vs h2 hv D3 => ?_)
      refine z y (.str tok x.tt :: vs) h2 (.cons _ _ hv) ?_
      have e : xs ++ (Value.str tok x.tt :: vs).toArray = xs.push (.str tok x.tt) ++ vs.toArray := by
        apply Array.ext'
        simp
      rw [e]
      exact D3
end
end Mine
end Lst2

section Lst3
open PySem PySem.Calls PySem.W PySem.W.X PyProof.Rows
set_option Elab.async false
set_option maxRecDepth 100000
namespace Mine
noncomputable abbrev pyIterQ : Value → Sem Value := PySem.W.Fast.tw8711993805878244202
theorem pyIterQ_eq : @pyIter = pyIterQ := PySem.W.Fast.te8711993805878244202
noncomputable abbrev lenHintQ : Value → Sem Bool := PySem.W.Fast.tw15112759502256325868
theorem lenHintQ_eq : @Builtin.List.listLengthHint = lenHintQ := PySem.W.Fast.te15112759502256325868
noncomputable def iterT (v : Value) : Sem Fin := R.bindR (pyIterQ v) fun v => .pure (.done (.ret v))
noncomputable def hintT (v : Value) : Sem Fin := R.bindR (lenHintQ v) fun v => .pure (.done (.ret (.bool v)))
/-- a tree read through an embedding of its answers -/
theorem embed_own {α : Type} {prog : Program} {w : World} {A : Around} {R₀ : Result → Shared → Prop} {s : Shared} {c : Code} {t : Sem α} {f : α → Flow}
    (h : wpOwn (model prog w) A c (R.bindR t fun v => .pure (.done (f v))) (postC prog w A R₀) (postE R₀) s) :
    wpOwn (model prog w) A c t (fun o s' => R₀ (.ok (f o)) s') (fun e s' => R₀ (.error e) s') s := by
  intro Γ p hc hΓ
  have z := h Γ p hc hΓ
  rw [← R.bindR_eq] at z
  have z : Sem.wp (model prog w) Γ (t >>= fun o => (Sem.pure (Fin.done (f o)) : Sem Fin)) (fun a _ s' => postC prog w A R₀ a s') (fun e _ s' => postE R₀ e s') p s := z
  rw [Sem.wp_bind'] at z
  exact Sem.wp_mono _ _ _ (fun f p' s' h' => h') (fun e p' s' h' => h') _ _ z
noncomputable def piA : List Nat := [7, 0, 0, 0, 7, 0, 0, 0, 0, 2, 2, 2, 7, 0, 0, 0]
noncomputable def lhA : List Nat := [7, 0, 0, 0, 7, 0, 0, 0]
set_option maxHeartbeats 0
noncomputable abbrev TrGoal (w : World) (scr : Obj) (h₀ : Heap) (A : Around) (R : Result → Shared → Prop) (d : Drawn) (os : OsState) (PP : Result ⊕ Code → Own → List (Option Obj) → Nat → Nat → Nat → Nat → Array GenState → Prop) (c : Code) (tr : Sem Fin) (hl hc : List Nat) (base : Own) (N t : Nat) (g : Array GenState) : Prop :=
  Mine.run (cfg w scr h₀ A 440 R d os) [] (fun _ _ _ _ => False) primQ (viewA PP) 120 false hl [] hc [] True base [] 0 0 N t g c [] tr
theorem pi_seg (w₀ : World) (b1 b2 : Bool) (w : World) (hw : w = wf w₀ b1 b2) (scr : Obj) (h₀ : Heap) (A : Around) (R : Result → Shared → Prop) (d : Drawn) (os : OsState) (PP : Result ⊕ Code → Own → List (Option Obj) → Nat → Nat → Nat → Nat → Array GenState → Prop)
    (args : Args) (x1 x2 x3 : Addr × Obj) (ld lx : Addr) (rest : Own) (N t : Nat) (g : Array GenState) :
    TrGoal w scr h₀ A R d os PP (.builtin "list.__init__" args) (iterT (.ref lx)) piA [0] (x1 :: x2 :: x3 :: (lx, lexInst ld) :: rest) N t g =
    (Eqs (want [x1.1, x2.1, x3.1, lx] N piA) ∧ True ∧ PP (.inl (.ok (.ret (.ref lx)))) (x1 :: x2 :: x3 :: (lx, lexInst ld) :: rest) [some (frSelf w.params t lx)] 1 1 N t g) := by
  subst hw
  cases b1 <;> kernel_rfl
theorem lh_seg (w₀ : World) (b1 b2 : Bool) (w : World) (hw : w = wf w₀ b1 b2) (scr : Obj) (h₀ : Heap) (A : Around) (R : Result → Shared → Prop) (d : Drawn) (os : OsState) (PP : Result ⊕ Code → Own → List (Option Obj) → Nat → Nat → Nat → Nat → Array GenState → Prop)
    (args : Args) (x1 x2 x3 : Addr × Obj) (ld lx : Addr) (rest : Own) (N t : Nat) (g : Array GenState) :
    TrGoal w scr h₀ A R d os PP (.builtin "list.__init__" args) (hintT (.ref lx)) lhA [] (x1 :: x2 :: x3 :: (lx, lexInst ld) :: rest) N t g =
    (Eqs (want [x1.1, x2.1, x3.1, lx] N lhA) ∧ True ∧ PP (.inl (.ok (.ret (.bool true)))) (x1 :: x2 :: x3 :: (lx, lexInst ld) :: rest) [] 0 0 N t g) := by
  subst hw
  cases b1 <;> kernel_rfl
end Mine
end Lst3

section Lst4
open PySem PySem.Calls PySem.W PySem.W.X PyProof.Rows
set_option Elab.async false
set_option maxRecDepth 100000
namespace Mine
theorem wpOwn_holding {α : Type} {M : Model} {A : Around} {c : Code} {vs : List Value} {t : Sem α} {Q : α → Shared → Prop} {E : Value → Shared → Prop} {s : Shared} (h : wpOwn M A c t Q E s) : wpOwn M A c (holding vs t) Q E s := by
  intro Γ p hc hΓ
  rw [Sem.wp_holding]
  exact h Γ p hc hΓ
section
variable {w₀ : World} {b1 b2 : Bool} {w : World} (hw : w = wf w₀ b1 b2) {scr : Obj} {h₀ : Heap} (G : Grd w scr h₀) {d : Drawn} {os : OsState} {A : Around} (lo : Lo A 440) {R : Result → Shared → Prop} {R₀ : Result → Shared → Prop}
    {T : IoT} {L : LexT} {buf : Str} {ℓ wh m : Nat} {g : Array GenState} {a b ld lx pb fs aS aL S : Addr} {oS oL : Obj} {eS eL : Env} {rest : Own}
include hw G lo
theorem iter_run {args : Args} {x1 x2 x3 : Addr × Obj} {N t : Nat} {h : Heap} (D : RepC w scr h₀ d os h ⟨x1 :: x2 :: x3 :: (lx, lexInst ld) :: rest, [], 0, 0, N, t, g⟩)
    (z : ∀ h', RepC w scr h₀ d os h' ⟨x1 :: x2 :: x3 :: (lx, lexInst ld) :: rest, [], 0, 0, N + 1, t + 1, g⟩ → R₀ (.ok (.ret (.ref lx))) ⟨h', g, d, t + 1, os⟩) :
    wpOwn (model PySem.Challenge.pw_nq0197_01 w) A (.builtin "list.__init__" args) (pyIter (.ref lx)) (fun o s' => R₀ (.ok (.ret o)) s') (fun e s' => R₀ (.error e) s') ⟨h, g, d, t, os⟩ := by
  rw [pyIterQ_eq]
  refine embed_own (f := fun v => .ret v) (tree_by_run (V := cfg w scr h₀ A 440 R₀ d os) (G.cfg lo) (cs := []) (H := fun _ _ _ _ => False) (PP := viewA fun r B nw n j N' t' g' => r = .inl (.ok (.ret (.ref lx))) ∧ B = x1 :: x2 :: x3 :: (lx, lexInst ld) :: rest ∧ n = 1 ∧ j = 1 ∧ N' = N ∧ t' = t ∧ g' = g) (prim_ok _) (fun _ _ _ _ _ _ h => h.elim) (fun r st h' p D' => ?_) (fun c st h' p D' => ?_) 120
    (Eq.mpr (pi_seg w₀ b1 b2 w hw scr h₀ A R₀ d os _ args x1 x2 x3 ld lx rest N t g) ⟨eqs_want _ _ _, trivial, rfl, rfl, rfl, rfl, rfl, rfl, rfl⟩) (D.cast rfl rfl))
  · obtain ⟨base', nw, n, j, N', t', g'⟩ := st
    obtain ⟨e0, e1, e3, e4, e5, e6, e7⟩ := p
    cases e0
    simp only at e1 e3 e4 e5 e6 e7 D' ⊢
    subst e1 e3 e4 e5 e6 e7
    exact z h' ((D'.anew _).cast rfl rfl)
  · obtain ⟨e0, _⟩ := p; cases e0
theorem hint_run {args : Args} {x1 x2 x3 : Addr × Obj} {N t : Nat} {h : Heap} (D : RepC w scr h₀ d os h ⟨x1 :: x2 :: x3 :: (lx, lexInst ld) :: rest, [], 0, 0, N, t, g⟩)
    (z : ∀ h', RepC w scr h₀ d os h' ⟨x1 :: x2 :: x3 :: (lx, lexInst ld) :: rest, [], 0, 0, N, t, g⟩ → R₀ (.ok (.ret (.bool true))) ⟨h', g, d, t, os⟩) :
    wpOwn (model PySem.Challenge.pw_nq0197_01 w) A (.builtin "list.__init__" args) (Builtin.List.listLengthHint (.ref lx)) (fun o s' => R₀ (.ok (.ret (.bool o))) s') (fun e s' => R₀ (.error e) s') ⟨h, g, d, t, os⟩ := by
  rw [lenHintQ_eq]
  refine embed_own (f := fun v => .ret (.bool v)) (tree_by_run (V := cfg w scr h₀ A 440 R₀ d os) (G.cfg lo) (cs := []) (H := fun _ _ _ _ => False) (PP := viewA fun r B nw n j N' t' g' => r = .inl (.ok (.ret (.bool true))) ∧ B = x1 :: x2 :: x3 :: (lx, lexInst ld) :: rest ∧ n = 0 ∧ j = 0 ∧ N' = N ∧ t' = t ∧ g' = g) (prim_ok _) (fun _ _ _ _ _ _ h => h.elim) (fun r st h' p D' => ?_) (fun c st h' p D' => ?_) 120
    (Eq.mpr (lh_seg w₀ b1 b2 w hw scr h₀ A R₀ d os _ args x1 x2 x3 ld lx rest N t g) ⟨eqs_want _ _ _, trivial, rfl, rfl, rfl, rfl, rfl, rfl, rfl⟩) (D.cast rfl rfl))
  · obtain ⟨base', nw, n, j, N', t', g'⟩ := st
    obtain ⟨e0, e1, e3, e4, e5, e6, e7⟩ := p
    cases e0
    simp only at e1 e3 e4 e5 e6 e7 D' ⊢
    subst e1 e3 e4 e5 e6 e7
    exact z h' ((D'.anew _).cast rfl rfl)
  · obtain ⟨e0, _⟩ := p; cases e0
omit hw in
theorem upd_rep {xs : Array Value} {cc i tp tl tt N t : Nat} {ln : Int} {sv : Value} {h : Heap} {f : Array Value → Array Value} (D : RepC w scr h₀ d os h ⟨lstBase w.params T L buf a b ld lx pb fs aS aL S oS oL i tp sv ln tl tt xs cc rest, [], 0, 0, N, t, g⟩) :
    h.get? S = some (listObj xs cc) ∧ ∃ c', RepC w scr h₀ d os (h.update S (Obj.mapSeq f)) ⟨lstBase w.params T L buf a b ld lx pb fs aS aL S oS oL i tp sv ln tl tt (f xs) c' rest, [], 0, 0, N, t, g⟩ := by
  have hS : h.get? S = some (listObj xs cc) := D.base (S, listObj xs cc) (.tail _ (.tail _ (.tail _ (.tail _ (.tail _ (.tail _ (.tail _ (.tail _ (.head _)))))))))
  obtain ⟨c', e⟩ := mapSeq_list xs cc f
  have D1 := (D.cast (V' := cfg w scr h₀ A 440 (fun _ _ => True) d os) rfl rfl).setBase (G.cfg lo) (i := 8) (p := (S, listObj xs cc)) (f := Obj.mapSeq f) rfl rfl
  simp only [e] at D1
  exact ⟨hS, c', D1.cast rfl rfl⟩
/-- list.__init__ -/
theorem init_list (Z : Sgn ℓ wh m) (h1 : 1 < buf.length) (hz : buf.length < 9000)
    (hfr : A.frames = some [eS, eL]) (kS : eS.scope.kind ≠ .module) (kL : eL.scope.kind ≠ .module) (fS : eS.frame = some aS) (fL : eL.frame = some aL) (dS : ∀ vs, oS.data ≠ .fields vs) (dL : ∀ vs, oL.data ≠ .fields vs)
    {l l2 : List Nat} {ws : List Str} (W : Words m l ws) {i tp ts tl tt c N t : Nat} {ln : Int} {h : Heap} (hl : l = ℓ :: l2) (hg : good ℓ wh m false l2) (hd : buf.cps.toList.drop i = l)
    (D : RepC w scr h₀ d os h ⟨lstBase w.params T L buf a b ld lx pb fs aS aL S oS oL i tp (.str ⟨#[32]⟩ ts) ln tl tt #[] c rest, [], 0, 0, N, t, g⟩)
    (z : ∀ (x : LstX) (vs : List Value) h', StrsAre vs ws → RepC w scr h₀ d os h' ⟨lstBase w.params T L buf a b ld lx pb fs aS aL S { oS with slots := x.s1 } { oL with slots := x.s2 } x.i x.tp .none x.ln x.tl x.tt vs.toArray x.c rest, [], 0, 0, x.N, x.t, g⟩ → R (.ok (.ret .none)) ⟨h', g, d, x.t, os⟩) :
    codeAny (model PySem.Challenge.pw_nq0197_01 w) A (.call (.builtin "list.__init__") ⟨[.ref S, .ref lx], []⟩) R ⟨h, g, d, t, os⟩ := by
  have hS : h.get? S = some (listObj #[] c) := D.base (S, listObj #[] c) (.tail _ (.tail _ (.tail _ (.tail _ (.tail _ (.tail _ (.tail _ (.tail _ (.head _)))))))))
  refine codeAny_call_builtin_own (plainId_quiet F.called_list.init.plain _) F.entry_list_init (F.called_list.init.check _ _ _ _ _ _ _ _ ⟨_, hS, rfl⟩ (F.args_list_init_2 _ _) ?_)
  show wpOwn _ A _ (do let old ← Builtin.List.listItems (.ref S); Builtin.List.listUpdate (.ref S) (fun _ => #[]); letGo old.toList.reverse; Builtin.List.listExtendWith (.ref S) (.ref lx) .none) _ _ _
  refine wpOwn_bind (wpOwn_of_wpAny ?_)
  unfold Builtin.List.listItems
  refine wpAny_bind (wpAny_seqItems hS rfl (wpAny_pure ?_))
  refine wpOwn_bind (wpOwn_of_wpAny ?_)
  show wpAny _ _ (updateSeq S (fun _ => #[])) _ _ _
  refine wpAny_updateSeq hS rfl ?_
  refine wpOwn_bind (wpOwn_of_wpAny (wpAny_letGo ?_))
  obtain ⟨c1, D1⟩ := (upd_rep G lo (f := fun _ => #[]) D).2
  unfold Builtin.List.listExtendWith
  have nod := D.nod
  have hne : S ≠ lx := by
    intro e
    simp only [lstBase, lexBase, List.map_cons, List.nodup_cons, List.mem_cons, not_or] at nod
    exact nod.2.2.2.1.2.2.2.2.1 e.symm
  have hlx : (h.update S (Obj.mapSeq (fun _ => #[]))).get? lx = some (lexInst ld) := D1.base (lx, lexInst ld) (.tail _ (.tail _ (.tail _ (.head _))))
  refine wpOwn_bind (wpOwn_of_wpAny ?_)
  show wpAny _ _ (load lx >>= fun o => pure o.cls) _ _ _
  refine wpAny_bind (wpAny_load hlx (wpAny_pure ?_))
  have e1 : Builtin.List.listSameRef (.ref S) (.ref lx) = false := by simp [Builtin.List.listSameRef, hne]
  have e2 : ((lexInst ld).cls == Value.type "list") = false := by simp [lexInst]
  have e3 : ((lexInst ld).cls == Value.type "tuple") = false := by simp [lexInst]
  simp only [e1, e2, e3, Bool.or_false, Bool.false_eq_true, if_false]
  refine wpOwn_bind (wpOwn_mono (iter_run (R₀ := fun r s' => r = .ok (.ret (.ref lx)) ∧ ∃ h', s' = ⟨h', g, d, t + 1, os⟩ ∧ RepC w scr h₀ d os h' ⟨lstBase w.params T L buf a b ld lx pb fs aS aL S oS oL i tp (.str ⟨#[32]⟩ ts) ln tl tt #[] c1 rest, [], 0, 0, N + 1, t + 1, g⟩) hw G lo D1 (fun h' D' => ⟨rfl, h', rfl, D'⟩)) (fun o s' q => ?_) (fun e s' q => by obtain ⟨q, _⟩ := q; cases q))
  obtain ⟨q, h2, rfl, D2⟩ := q
  cases q
  refine wpOwn_bind (wpOwn_holding (wpOwn_mono (hint_run (R₀ := fun r s' => r = .ok (.ret (.bool true)) ∧ ∃ h', s' = ⟨h', g, d, t + 1, os⟩ ∧ RepC w scr h₀ d os h' ⟨lstBase w.params T L buf a b ld lx pb fs aS aL S oS oL i tp (.str ⟨#[32]⟩ ts) ln tl tt #[] c1 rest, [], 0, 0, N + 1, t + 1, g⟩) hw G lo D2 (fun h' D' => ⟨rfl, h', rfl, D'⟩)) (fun o s' q => ?_) (fun e s' q => by obtain ⟨q, _⟩ := q; cases q)))
  obtain ⟨q, h3, rfl, D3⟩ := q
  cases q
  simp only [Bool.true_or, if_true]
  obtain ⟨hS3, c4, D4⟩ := upd_rep G lo (f := (·.push Value.none)) D3
  obtain ⟨hS4, c5, D5⟩ := upd_rep G lo (f := (·.pop)) D4
  refine wpOwn_of_wpAny (wpAny_bind (wpAny_rule (wpAny_bind ?_)))
  show wpAny _ _ (updateSeq S (·.push .none) >>= fun _ => updateSeq S (·.pop)) _ _ _
  refine wpAny_bind (wpAny_updateSeq hS3 rfl ?_)
  refine wpAny_updateSeq hS4 rfl ?_
  refine wpAny_pure ⟨plainId_quiet F.plain_extend_loop _, ?_⟩
  refine ext_loop hw G (lo.le (by decide)) Z h1 (by omega) hfr kS kL fS fL dS dL W hl hg hd ?_ D5 (fun x vs h' hv D' => ?_)
  · have := congrArg List.length hd
    simp at this
    simp
    have : buf.cps.size = buf.length := rfl
    omega
  · refine z x vs h' hv ?_
    have e : (((#[] : Array Value).push Value.none).pop ++ vs.toArray) = vs.toArray := by simp
    rw [← e]
    exact D'
end
end Mine
end Lst4

section Spl
open PySem PySem.Calls PySem.W PySem.W.X PyProof.Rows
set_option Elab.async false
set_option maxRecDepth 100000
namespace Mine
noncomputable def wc0 : Str := ⟨#[97, 98, 99, 100, 102, 101, 103, 104, 105, 106, 107, 108, 109, 110, 111, 112, 113, 114, 115, 116, 117, 118, 119, 120, 121, 122, 65, 66, 67, 68, 69, 70, 71, 72, 73, 74, 75, 76, 77, 78, 79, 80, 81, 82, 83, 84, 85, 86, 87, 88, 89, 90, 48, 49, 50, 51, 52, 53, 54, 55, 56, 57, 95]⟩
noncomputable def wc1 : Str := ⟨#[223, 224, 225, 226, 227, 228, 229, 230, 231, 232, 233, 234, 235, 236, 237, 238, 239, 240, 241, 242, 243, 244, 245, 246, 248, 249, 250, 251, 252, 253, 254, 255, 192, 193, 194, 195, 196, 197, 198, 199, 200, 201, 202, 203, 204, 205, 206, 207, 208, 209, 210, 211, 212, 213, 214, 216, 217, 218, 219, 220, 221, 222]⟩
/-- new objects by their places -/
noncomputable def pickN (N n : Nat) (nw : List (Option Obj)) (is : List Nat) : Own := is.map fun i => (N + i, (nwAt nw (n - 1 - i)).getD default)
noncomputable def picksOk (n : Nat) (nw : List (Option Obj)) (is : List Nat) : Bool := is.all fun i => Nat.blt i n && (nwAt nw (n - 1 - i)).isSome
/-- list.__new__: the objects that the list's making needs are named -/
noncomputable abbrev newCtr (is : List Nat) : Ctr := { X := Unit, D := 900, resp := fun _ st => (.ok (.ret (.ref (st.N + st.n))), ⟨pickN st.N st.n st.nw is ++ st.base.take 1 ++ (st.N + st.n, listObj #[] 0) :: st.base.drop 1, [], 0, 0, st.N + st.n + 1, st.t + st.j, st.g⟩) }
noncomputable abbrev initCtr (P : Params) (T : IoT) (L : LexT) (buf : Str) (a b ld lx pb fs aS aL S : Addr) (oS oL : Obj) (ws : List Str) (rest : Own) : Ctr :=
  { X := LstX × { vs : List Value // StrsAre vs ws }, D := 440, resp := fun x st => (.ok (.ret .none), ⟨lstBase P T L buf a b ld lx pb fs aS aL S { oS with slots := x.1.s1 } { oL with slots := x.1.s2 } x.1.i x.1.tp .none x.1.ln x.1.tl x.1.tt x.2.1.toArray x.1.c rest, [], 0, 0, x.1.N, x.1.t, st.g⟩) }
noncomputable def spT (t tb : Nat) : IoT := ⟨t + 19, t + 22, t + 25, tb⟩
noncomputable def spL (t : Nat) : LexT where
  k := fun i => match i with
    | 0 => t + 36
    | 1 => t + 38
    | 2 => t + 40
    | 3 => t + 42
    | 4 => t + 45
    | 5 => t + 48
    | 6 => t + 57
    | 7 => t + 59
    | 8 => t + 62
    | 9 => t + 65
    | 10 => t + 68
    | 11 => t + 71
    | 12 => t + 73
    | 13 => t + 76
    | 14 => t + 79
    | 15 => t + 82
    | 16 => t + 84
    | 17 => t + 86
    | 18 => t + 90
    | _ => 0
  v := fun i => match i with
    | 4 => t + 96
    | 5 => t + 52
    | 6 => t + 55
    | 8 => t + 60
    | 9 => t + 63
    | 10 => t + 66
    | 14 => t + 77
    | 18 => t + 87
    | _ => 0
noncomputable def spFr (P : Params) (buf : Str) (tb N t : Nat) : Obj := { cls := .type "frame", data := .dict #[⟨PyData.keyHash P ⟨#[115]⟩, .str ⟨#[115]⟩ (t + 0), .str buf tb⟩, ⟨PyData.keyHash P ⟨#[99, 111, 109, 109, 101, 110, 116, 115]⟩, .str ⟨#[99, 111, 109, 109, 101, 110, 116, 115]⟩ (t + 1), .bool false⟩, ⟨PyData.keyHash P ⟨#[112, 111, 115, 105, 120]⟩, .str ⟨#[112, 111, 115, 105, 120]⟩ (t + 2), .bool true⟩, ⟨PyData.keyHash P ⟨#[108, 101, 120]⟩, .str ⟨#[108, 101, 120]⟩ (t + 93), .ref (N + 2)⟩] 4 }
noncomputable abbrev fd734 (P : Params) : FuncData := fdOf (o734 P)
noncomputable def spA : List Nat := [0, 2, 2, 2, 2, 2, 2, 2, 0, 2, 2, 0, 0, 0, 0, 0, 0, 0, 0, 0, 0, 0, 0, 0, 0, 0, 0, 0, 0, 0, 0, 0, 0, 0, 0, 0, 0, 0, 0, 6, 0, 6, 0, 0, 0, 0, 0, 8, 8, 8, 8, 8, 8, 8, 8, 8, 8, 0, 0, 8, 0, 0, 0, 8, 0, 0, 0, 0, 0, 0, 0, 0, 0, 0, 0, 0, 0, 0, 0, 0, 0, 0, 0, 0, 0, 0, 0, 14, 14, 14, 14, 14, 14, 14, 0, 0, 0, 14, 0, 0, 0, 14, 0, 0, 0, 0, 0, 0, 0, 0, 0, 0, 0, 0, 0, 0, 0, 0, 0, 0, 0, 0, 0, 0, 0, 0, 0, 0, 0, 0, 0, 0, 0, 0, 0, 0, 0, 0, 0, 18, 0, 18, 0, 0, 0, 0, 0, 20, 20, 20, 20, 20, 20, 20, 0, 0, 20, 0, 0, 20, 20, 20, 20, 0, 0, 20, 0, 0, 20, 20, 18, 0, 0, 0, 0, 0, 0, 0, 18, 0, 18, 0, 18, 0, 0, 0, 0, 0, 0, 0, 18, 0, 16, 16, 16, 20, 18, 0, 0, 0, 0, 0, 0, 0, 18, 0, 18, 0, 18, 0, 0, 0, 0, 0, 0, 0, 18, 0, 16, 16, 16, 20, 18, 0, 0, 0, 0, 0, 0, 0, 18, 0, 18, 0, 18, 0, 0, 0, 0, 0, 0, 0, 18, 0, 16, 16, 16, 20, 20, 18, 0, 0, 0, 0, 0, 0, 0, 18, 0, 0, 0, 0, 0, 0, 0, 18, 0, 0, 0, 0, 18, 16, 20, 0, 22, 22, 22, 22, 22, 18, 0, 0, 0, 0, 0, 0, 0, 18, 0, 0, 0, 0, 0, 0, 0, 18, 18, 0, 16, 22, 22, 22, 22, 22, 22, 20, 18, 0, 0, 0, 0, 0, 0, 0, 18, 0, 18, 0, 18, 0, 0, 0, 0, 0, 0, 0, 18, 0, 16, 16, 16, 8, 8, 8, 8, 8, 6, 0, 0, 0, 6, 0, 6, 0, 6, 0, 0, 0, 6, 0, 4, 4, 4, 8, 8, 6, 0, 0, 0, 6, 0, 6, 0, 6, 0, 0, 0, 6, 0, 4, 4, 4, 8, 8, 6, 0, 0, 0, 6, 0, 6, 0, 6, 0, 0, 0, 6, 0, 4, 4, 4, 8, 8, 6, 0, 0, 0, 6, 0, 6, 0, 6, 0, 0, 0, 6, 0, 4, 4, 4, 8, 6, 0, 0, 0, 6, 0, 6, 0, 6, 0, 0, 0, 6, 0, 4, 4, 4, 8, 6, 0, 0, 0, 6, 0, 6, 0, 6, 0, 0, 0, 6, 0, 4, 4, 4, 8, 6, 0, 0, 0, 6, 0, 0, 0, 6, 6, 0, 4, 8, 6, 0, 0, 0, 6, 0, 0, 0, 6, 6, 0, 4, 6, 0, 0, 0, 6, 0, 6, 0, 6, 0, 0, 0, 6, 0, 4, 4, 4, 8, 6, 0, 0, 0, 6, 0, 6, 0, 6, 0, 0, 0, 6, 0, 4, 4, 4, 8, 6, 0, 0, 0, 6, 0, 6, 0, 6, 0, 0, 0, 6, 0, 4, 4, 4, 8, 6, 0, 0, 0, 6, 0, 6, 0, 6, 0, 0, 0, 6, 0, 4, 4, 4, 8, 6, 0, 0, 0, 6, 0, 6, 0, 6, 0, 0, 0, 6, 0, 4, 4, 4, 8, 6, 0, 0, 0, 6, 0, 6, 0, 6, 0, 0, 0, 6, 0, 4, 4, 4, 8, 6, 0, 0, 0, 6, 0, 6, 0, 6, 0, 0, 0, 6, 0, 4, 4, 4, 0, 24, 24, 24, 24, 24, 24, 8, 6, 0, 0, 0, 6, 0, 6, 0, 6, 0, 0, 0, 6, 0, 4, 4, 4, 8, 6, 0, 0, 0, 6, 0, 6, 0, 6, 0, 0, 0, 6, 0, 4, 4, 4, 8, 6, 0, 0, 0, 6, 0, 6, 0, 6, 0, 0, 0, 6, 0, 4, 4, 4, 8, 6, 0, 0, 0, 6, 0, 6, 0, 6, 0, 0, 0, 6, 0, 4, 4, 4, 0, 26, 26, 26, 26, 26, 26, 8, 6, 0, 0, 0, 6, 0, 6, 0, 6, 0, 0, 0, 6, 0, 4, 4, 4, 8, 6, 0, 0, 0, 6, 0, 6, 0, 6, 0, 0, 0, 6, 0, 4, 4, 4, 8, 8, 8, 8, 8, 6, 0, 0, 0, 6, 0, 6, 0, 6, 0, 0, 0, 6, 0, 4, 4, 4, 8, 2, 2, 2, 6, 0, 0, 0, 6, 0, 6, 0, 6, 0, 0, 0, 6, 0, 4, 4, 4, 2, 2, 6, 0, 0, 0, 6, 0, 6, 0, 6, 0, 0, 0, 6, 0, 4, 4, 4, 0, 0, 2]
noncomputable def spB : List Nat := [17, 17]
noncomputable abbrev spPick : List Nat := [7, 8, 1, 2, 11, 12, 0]
noncomputable abbrev SpGoal (w : World) (scr : Obj) (h₀ : Heap) (A : Around) (R : Result → Shared → Prop) (d : Drawn) (os : OsState) (HH : Nat → Code → Own → Bool → Option (List Env) → Prop) (PP : Result ⊕ Code → Own → Nat → Nat → Nat → Array GenState → Prop)
    (C : Ctr) (buf : Str) (tb : Nat) (base : Own) (N t : Nat) (g : Array GenState) : Prop :=
  evCode (cfg w scr h₀ A 400 R d os) (Mine.run (cfg w scr h₀ A 400 R d os) [newCtr spPick, C] (fun i c st fr => HH i c st.base (picksOk st.n st.nw spPick) fr) primQ (viewK 0 7 PP) 1500) (.call (.ref 734) ⟨[.str buf tb], []⟩) spA [spB, []] [0, 0, 0, 0, 0, 0, 0, 0, 0, 0, 0, 0, 3, 2, 0, 0, 0, 0, 0, 0, 2, 2, 0, 0, 0, 0, 0, 0, 0, 0, 0, 1, 0, 0, 0, 0, 0, 0, 0, 0, 0, 0, 0, 0, 0, 0, 0, 0, 0, 0, 0, 0, 2, 0, 0, 0, 4, 5] [] True base [] 0 0 N t g []
set_option maxHeartbeats 0
theorem sp_seg (w₀ : World) (b1 b2 : Bool) (w : World) (hw : w = wf w₀ b1 b2) (scr : Obj) (h₀ : Heap) (A : Around) (R : Result → Shared → Prop) (d : Drawn) (os : OsState) (HH : Nat → Code → Own → Bool → Option (List Env) → Prop) (PP : Result ⊕ Code → Own → Nat → Nat → Nat → Array GenState → Prop)
    (buf : Str) (tb : Nat) (ws : List Str) (aL : Addr) (oL : Obj) (N t : Nat) (g : Array GenState) (rest : Own) :
    SpGoal w scr h₀ A R d os HH PP (initCtr w.params (spT t tb) (spL t) buf (N + 7) (N + 8) (N + 1) (N + 2) (N + 11) (N + 12) N aL (N + 13) (spFr w.params buf tb N t) oL ws rest) buf tb ((aL, oL) :: rest) N t g =
    (Eqs (want [aL] N spA) ∧ ((((((True ∧ strNe ⟨#[10]⟩ ⟨#[]⟩ = true) ∧ strNe ⟨#[10]⟩ ⟨#[10]⟩ = false) ∧ strEq ⟨#[10]⟩ ⟨#[13]⟩ = false) ∧ strEq ⟨#[10]⟩ ⟨#[13, 10]⟩ = false) ∧ (Str.length wc0 ≠ 0 ∧ Str.length wc1 ≠ 0 ∧ Str.length (wc0 ++ wc1) ≤ sizeLine)) ∧ Str.length ⟨#[]⟩ = 0) ∧ HH 0 (.call (.builtin "list.__new__") ⟨[.type "list", .ref (N + 2)], []⟩) ((aL, oL) :: rest) true (pushEnvs [envOf (fd734 w.params) 734 N] A.frames) ∧
      ∀ _ : Unit, Eqs (want [N + 7, N + 8, N + 1, N + 2, N + 11, N + 12, N, aL, N + 13] (N + 14) spB) ∧ True ∧ HH 1 (.call (.builtin "list.__init__") ⟨[.ref (N + 13), .ref (N + 2)], []⟩) (lstBase w.params (spT t tb) (spL t) buf (N + 7) (N + 8) (N + 1) (N + 2) (N + 11) (N + 12) N aL (N + 13) (spFr w.params buf tb N t) oL 0 (t + 23) (.str ⟨#[32]⟩ (t + 69)) 1 (t + 74) (t + 80) #[] 0 rest) false (pushEnvs [envOf (fd734 w.params) 734 N] A.frames) ∧
      ∀ x : LstX × { vs : List Value // StrsAre vs ws }, Eqs [] ∧ True ∧ PP (.inl (.ok (.ret (.ref (N + 13))))) ((aL, { oL with slots := x.1.s2 }) :: (N + 13, listObj x.2.1.toArray x.1.c) :: rest) 0 x.1.N x.1.t g) := by
  subst hw
  cases b1 <;> kernel_rfl
end Mine
end Spl

section Spl2
open PySem PySem.Calls PySem.W PySem.W.X PyProof.Rows
set_option Elab.async false
set_option maxRecDepth 100000
namespace Mine
theorem pick_spec {V : Cfg} {h : Heap} {st : St} (D : Rep V h st) {is : List Nat} (hok : picksOk st.n st.nw is = true) :
    ∀ p ∈ pickN st.N st.n st.nw is, h.get? p.1 = some p.2 ∧ st.N ≤ p.1 ∧ p.1 < st.N + st.n := by
  intro p hp
  obtain ⟨i, hi, rfl⟩ := List.mem_map.mp hp
  have := List.all_eq_true.mp hok i hi
  simp only [Bool.and_eq_true] at this
  obtain ⟨h1, h2⟩ := this
  have h1' : i < st.n := by
    have : Nat.ble (i + 1) st.n = true := h1
    exact Nat.le_of_ble_eq_true this
  rw [nwAt_eq] at h2 ⊢
  cases hq : st.nw[st.n - 1 - i]? with
  | none => rw [hq] at h2; simp at h2
  | some x =>
    cases x with
    | none => rw [hq] at h2; simp at h2
    | some o =>
      refine ⟨?_, Nat.le_add_right _ _, Nat.add_lt_add_left h1' _⟩
      simpa using D.new i o h1' hq
theorem pick_nodup {N n : Nat} {nw : List (Option Obj)} {is : List Nat} (hnd : is.Nodup) : ((pickN N n nw is).map (·.1)).Nodup := by
  unfold pickN
  rw [List.map_map]
  have : ((fun p : Addr × Obj => p.1) ∘ fun i => (N + i, (nwAt nw (n - 1 - i)).getD default)) = fun i => N + i := rfl
  rw [this]
  exact List.Pairwise.map _ (fun a b (hab : a ≠ b) (e : N + a = N + b) => hab (Nat.add_left_cancel e)) hnd
theorem new_ok {V : Cfg} {st : St} {is : List Nat} {v : Value} {fr : Option (List Env)} (hok : picksOk st.n st.nw is = true) (hnd : is.Nodup) :
    CtrOk V (newCtr is) (.call (.builtin "list.__new__") ⟨[.type "list", v], []⟩) st fr := by
  intro A h R lo _ D q
  refine codeAny_mono (code_list_new (E := fun e s' => R (.error e) s') v (Q₁ := fun v s' => R (.ok (.ret v)) s') ?_) (fun r s' hr => ?_)
  · have hsz : h.objs.size = st.N + st.n := D.size
    have D1 := D.alloc (o := listObj #[] 0) rfl _ _ rfl rfl
    have P := pick_spec D hok
    have e := q () (h.push (listObj #[] 0)) ?_
    · have e2 : (⟨h.push (listObj #[] 0), st.g, V.d, st.t + st.j, V.os⟩ : Shared) = { (⟨h, st.g, V.d, st.t + st.j, V.os⟩ : Shared) with heap := h.push { cls := .type "list", data := .seq #[] } } := rfl
      show R (.ok (.ret (.ref h.objs.size))) _
      rw [hsz]
      exact e
    · have PM : (pickN st.N st.n st.nw is ++ st.base.take 1 ++ (st.N + st.n, listObj #[] 0) :: st.base.drop 1).Perm ((st.N + st.n, listObj #[] 0) :: (pickN st.N st.n st.nw is ++ st.base)) := by
        refine List.perm_middle.trans ?_
        rw [List.append_assoc, List.take_append_drop]
      have cases' : ∀ p ∈ (pickN st.N st.n st.nw is ++ st.base.take 1 ++ (st.N + st.n, listObj #[] 0) :: st.base.drop 1), p = (st.N + st.n, listObj #[] 0) ∨ p ∈ pickN st.N st.n st.nw is ∨ p ∈ st.base := fun p hp => by
        have := PM.mem_iff.mp hp
        rcases List.mem_cons.mp this with h | h
        · exact .inl h
        · exact .inr (List.mem_append.mp h)
      refine ⟨by rw [Heap.size_push, hsz]; rfl, rfl, fun p hp => ?_, ?_, fun p hp => ?_, fun p hp => ?_, ?_, fun k _ hk => absurd hk (Nat.not_lt_zero k), fun b o z => Heap.get?_push_of_some _ (D.keep b o z), D.bare⟩
      · rcases cases' p hp with rfl | hp | hp
        · rw [← hsz]; exact Heap.get?_push_size _ rfl
        · exact Heap.get?_push_of_some _ (P p hp).1
        · exact Heap.get?_push_of_some _ (D.base p hp)
      · refine (PM.map _).nodup_iff.mpr ?_
        rw [List.map_cons, List.map_append]
        refine List.nodup_cons.mpr ⟨fun hm => ?_, List.nodup_append.mpr ⟨pick_nodup hnd, D.nod, fun x hx y hy exy => ?_⟩⟩
        · rcases List.mem_append.mp hm with hm | hm
          · obtain ⟨p, hp, e⟩ := List.mem_map.mp hm
            have := (P p hp).2.2
            rw [e] at this
            exact absurd this (Nat.lt_irrefl _)
          · obtain ⟨p, hp, e⟩ := List.mem_map.mp hm
            have := D.lt p hp
            rw [e] at this
            exact absurd this (Nat.not_lt.mpr (Nat.le_add_right _ _))
        · obtain ⟨p, hp, rfl⟩ := List.mem_map.mp hx
          obtain ⟨p2, hp2, rfl⟩ := List.mem_map.mp hy
          have h3 := (P p hp).2.1
          have h4 := D.lt p2 hp2
          rw [exy] at h3
          exact absurd h4 (Nat.not_lt.mpr h3)
      · rcases cases' p hp with rfl | hp | hp
        · exact Nat.lt_succ_self _
        · exact Nat.lt_succ_of_lt (P p hp).2.2
        · exact Nat.lt_succ_of_lt (Nat.lt_of_lt_of_le (D.lt p hp) (Nat.le_add_right _ _))
      · rcases cases' p hp with rfl | hp | hp
        · exact Nat.le_trans D.lowN (Nat.le_add_right _ _)
        · exact Nat.le_trans D.lowN (P p hp).2.1
        · exact D.low p hp
      · exact Nat.le_trans D.lowN (Nat.le_trans (Nat.le_add_right _ _) (Nat.le_succ _))
  · cases r with
    | error e => exact hr
    | ok f => cases f <;> first | exact hr | exact hr.elim
theorem kind734 (P : Params) : (fdOf (o734 P)).scope.kind = .function := by kernel_rfl
structure SpX where
  S : Addr
  s2 : Array (Option Value)
  c : Nat
  N : Nat
  t : Nat
section
variable {w₀ : World} {b1 b2 : Bool} {w : World} (hw : w = wf w₀ b1 b2) {scr : Obj} {h₀ : Heap} (G : Grd w scr h₀) {d : Drawn} {os : OsState} {A : Around} (lo : Lo A 400) {R : Result → Shared → Prop}
    {buf : Str} {ℓ wh m : Nat} {g : Array GenState} {aL : Addr} {oL : Obj} {eL : Env} {rest : Own}
include hw G lo
/-- split tells a line's words -/
theorem split_run (Z : Sgn ℓ wh m) (h1 : 1 < buf.length) (hz : buf.length < 9000) (hfr : A.frames = some [eL]) (kL : eL.scope.kind ≠ .module) (fL : eL.frame = some aL) (dL : ∀ vs, oL.data ≠ .fields vs)
    {l l2 : List Nat} {ws : List Str} (W : Words m l ws) {tb N t : Nat} {h : Heap} (hl : l = ℓ :: l2) (hg : good ℓ wh m false l2) (hd : buf.cps.toList = l)
    (D : RepC w scr h₀ d os h ⟨(aL, oL) :: rest, [], 0, 0, N, t, g⟩)
    (z : ∀ (x : SpX) (vs : List Value) h', StrsAre vs ws → RepC w scr h₀ d os h' ⟨(aL, { oL with slots := x.s2 }) :: (x.S, listObj vs.toArray x.c) :: rest, [], 0, 0, x.N, x.t, g⟩ → R (.ok (.ret (.ref x.S))) ⟨h', g, d, x.t, os⟩) :
    codeAny (model PySem.Challenge.pw_nq0197_01 w) A (.call (.ref 734) ⟨[.str buf tb], []⟩) R ⟨h, g, d, t, os⟩ := by
  let HH : Nat → Code → Own → Bool → Option (List Env) → Prop := fun i c B f fr => match i with
    | 0 => c = .call (.builtin "list.__new__") ⟨[.type "list", .ref (N + 2)], []⟩ ∧ f = true
    | _ => c = .call (.builtin "list.__init__") ⟨[.ref (N + 13), .ref (N + 2)], []⟩ ∧ B = lstBase w.params (spT t tb) (spL t) buf (N + 7) (N + 8) (N + 1) (N + 2) (N + 11) (N + 12) N aL (N + 13) (spFr w.params buf tb N t) oL 0 (t + 23) (.str ⟨#[32]⟩ (t + 69)) 1 (t + 74) (t + 80) #[] 0 rest ∧ fr = pushEnvs [envOf (fd734 w.params) 734 N] A.frames
  let PP : Result ⊕ Code → Own → Nat → Nat → Nat → Array GenState → Prop := fun r B n N' tk g' => ∃ x : LstX × { vs : List Value // StrsAre vs ws }, r = .inl (.ok (.ret (.ref (N + 13)))) ∧ B = (aL, { oL with slots := x.1.s2 }) :: (N + 13, listObj x.2.1.toArray x.1.c) :: rest ∧ n = 0 ∧ N' = x.1.N ∧ tk = x.1.t ∧ g' = g
  refine code_by_run (V := cfg w scr h₀ A 400 R d os) (G.cfg lo) (prim_ok _) (fun k C c st fr hi hh => ?_) (fun r st h' p D' => ?_) (fun c st h' p D' => ?_) 1500 (Eq.mpr (sp_seg w₀ b1 b2 w hw scr h₀ A R d os HH PP buf tb ws aL oL N t g rest) ?_) (D.cast rfl rfl)
  · match k, hi with
    | 0, hi =>
      simp at hi
      subst hi
      obtain ⟨rfl, hf⟩ := hh
      exact new_ok hf (by decide)
    | 1, hi =>
      simp at hi
      subst hi
      obtain ⟨rfl, e1, rfl⟩ := hh
      obtain ⟨base, nw, n, j, N', t', g'⟩ := st
      simp only at e1
      subst e1
      intro A' h' R' lo' hfr' D' q
      have hfr2 : A'.frames = some [envOf (fd734 w.params) 734 N, eL] := by rw [hfr', hfr]; rfl
      have F := (D'.anew (t' + j)).cast (V' := cfg w scr h₀ callerA 0 (fun _ _ => True) d os) rfl rfl
      refine init_list hw G lo' Z h1 hz hfr2 ?_ kL rfl fL (fun vs q => by cases q) dL W hl hg (by rw [List.drop_zero]; exact hd) F (fun x vs h2 hv D2 => ?_)
      · rw [show (envOf (fd734 w.params) 734 N).scope.kind = (fdOf (o734 w.params)).scope.kind from rfl, kind734]; decide
      · exact q (x, ⟨vs, hv⟩) h2 (D2.cast rfl rfl)
  · obtain ⟨x, e0, e1, e2, e3, e4, e5⟩ := p
    cases e0
    have F := (D'.skip 0 7 (by omega)).cast (V' := cfg w scr h₀ callerA 0 (fun _ _ => True) d os) rfl rfl
    rw [e1, e2, e3, e4, e5] at F
    rw [e5, e4]
    exact z ⟨N + 13, x.1.s2, x.1.c, x.1.N, x.1.t⟩ x.2.1 h' x.2.2 F
  · obtain ⟨x, e0, _⟩ := p; cases e0
  · refine ⟨eqs_want _ _ _, ⟨⟨⟨⟨⟨⟨trivial, rfl⟩, rfl⟩, rfl⟩, rfl⟩, by decide, by decide, by decide⟩, rfl⟩, ⟨rfl, rfl⟩, fun _ => ⟨eqs_want _ _ _, trivial, ⟨rfl, rfl, rfl⟩, fun x => ⟨trivial, trivial, x, rfl, rfl, rfl, rfl, rfl, rfl⟩⟩⟩
end
end Mine
end Spl2

section Gv
open PySem PySem.Calls PySem.W PySem.W.X PyProof.Rows
set_option Elab.async false
set_option maxRecDepth 100000
namespace Mine
/-- the frames of a generator's run: code, what is left of it, what it holds -/
noncomputable abbrev FK := List (Code × (Result → Sem Fin) × List Value)
noncomputable def frs : FK → List Pos → List Frame
  | (c, k, l) :: κ, p :: ps => .ret k none false l c p [] :: frs κ ps
  | _, _ => []
/-- what a generator's run comes to: an end, or a yield -/
inductive GEnd where
  | ret (r : Result)
  | susp (v : Value) (l : List Value) (k : Resume → Sem Fin) (c : Code) (κ : FK)
noncomputable abbrev EgTy := List Nat → List (List Nat) → List Nat → List (Addr × Addr) → Prop → Own → List (Option Obj) → Nat → Nat → Nat → Nat → Array GenState → Code → FK → Sem Fin → Prop
section
variable (V : Cfg) (cs : List Ctr) (H : Nat → Code → St → Prop) (prim : Nat → Code → Nat → Option (Result × Nat × Prop)) (PP : GEnd → St → Prop)
noncomputable def egRet (ih : EgTy) (r : Result) (hl : List Nat) (hs : List (List Nat)) (hc : List Nat) (acc : List (Addr × Addr)) (cond : Prop) (base : Own) (nw : List (Option Obj)) (n j N t : Nat) (g : Array GenState) (κ : FK) : Prop := match κ with
  | [] => Eqs acc ∧ cond ∧ PP (.ret r) ⟨base, nw, n, j, N, t, g⟩
  | (c, k, _) :: κ => ih hl hs hc acc cond base nw n j N t g c κ (k r)
noncomputable def egS (ih : EgTy) : EgTy := fun hl hs hc acc cond base nw n j N t g c κ tr => match tr with
  | .pure fin => match fin with
    | .done f => egRet PP ih (.ok f) hl hs hc acc cond base nw n j N t g κ
    | .again c' => match quietQ c' with
      | true => ih hl hs hc acc cond base nw n j N t g c' κ (dz c')
      | false => False
  | .rule _ k => ih hl hs hc acc cond base nw n j N t g c κ (k ())
  | .at _ k => ih hl hs hc acc cond base nw n j N t g c κ (k ())
  | .point _ k => ih hl hs hc acc cond base nw n j N t g c κ (k ())
  | .ask k => ih hl hs hc acc cond base nw n j N t g c κ (k ⟨V.prog, V.w.params⟩)
  | .fresh k => ih hl hs hc acc cond base nw n (j + 1) N t g c κ (k (t + j))
  | .load a _ k => match hl with
    | [] => False
    | h :: hl => match pick h with
      | .old => match V.kt.get a with
        | some o => ih hl hs hc acc cond base nw n j N t g c κ (k o)
        | none => False
      | .base i => match baseAt base i with
        | some p => ih hl hs hc ((a, p.1) :: acc) cond base nw n j N t g c κ (k p.2)
        | none => False
      | .new i => match nwAt nw (n - 1 - i) with
        | some o => match Nat.blt i n with
            | true => ih hl hs hc ((a, N + i) :: acc) cond base nw n j N t g c κ (k o)
            | false => False
        | none => False
  | .update a _ f k => match hl with
    | [] => False
    | h :: hl => match pick h with
      | .old => False
      | .base i => match baseAt base i with
        | some p => match live (f p.2) with
          | some o => ih hl hs hc ((a, p.1) :: acc) cond (baseSet base i o) nw n j N t g c κ (k ())
          | none => False
        | none => False
      | .new i => match nwAt nw (n - 1 - i) with
        | some p => match live (f p) with
          | some o => match Nat.blt i n with
            | true => ih hl hs hc ((a, N + i) :: acc) cond base (nwSet nw (n - 1 - i) o) n j N t g c κ (k ())
            | false => False
          | none => False
        | none => False
  | .alloc o k => match live o with
    | some o => ih hl hs hc acc cond base (some o :: nw) (n + 1) j N t g c κ (k (N + n))
    | none => False
  | .yield v gd l k => match gd with
    | false => Eqs acc ∧ cond ∧ PP (.susp v l k c κ) ⟨base, nw, n, j, N, t, g⟩
    | true => False
  | .call c' hd gd l k => match hd with
    | some _ => False
    | none => match hc with
        | [] => False
        | h :: hc => match notCaller c with
          | true => match Nat.beq h 0 with
            | true => match gd with
              | true => False
              | false => ih hl hs hc acc cond base nw n j N t g c' ((c, k, l) :: κ) (dz c')
            | false => match Nat.blt h 4 with
              | true => match prim h c' (t + j) with
                | some (r, e, q) => ih hl hs hc acc (cond ∧ q) base nw n (j + e) N t g c κ (k r)
                | none => False
              | false => match cs[h - 4]? with
                | some C => match Nat.ble (V.D + 5 * List.length κ + 5) C.D with
                  | true => Eqs acc ∧ cond ∧ H (h - 4) c' ⟨base, nw, n, j, N, t, g⟩ ∧ ∀ x : C.X, match C.resp x ⟨base, nw, n, j, N, t, g⟩ with
                    | (r, st) => ih (hs.headD []) hs.tail hc [] True st.base st.nw st.n st.j st.N st.t st.g c κ (k r)
                  | false => False
                | none => False
          | false => False
  | _ => False
noncomputable def eg : Nat → EgTy
  | 0 => fun _ _ _ _ _ _ _ _ _ _ _ _ _ _ _ => False
  | n + 1 => egS V cs H prim PP (eg n)
@[irreducible] noncomputable def grun (m : Nat) : EgTy := eg V cs H prim PP m
end
/-- the frames are no callers -/
noncomputable def okF : FK → Prop
  | [] => True
  | (c, _) :: κ => notCaller c = true ∧ okF κ
theorem frs_counts : ∀ {κ : FK} {ps : List Pos}, okF κ → frameCount ((frs κ ps).map Frame.where_) ≤ 5 * κ.length ∧ unitsOf ((frs κ ps).map Frame.where_) ≤ 10 * κ.length ∧ ∀ x : Option Value × Option Value, marksOver (frs κ ps) x = x
  | [], ps, _ => by
    have : frs [] ps = [] := by cases ps <;> rfl
    rw [this]
    exact ⟨Nat.le_refl _, Nat.le_refl _, fun _ => rfl⟩
  | (c, k, l) :: κ, [], _ => ⟨Nat.zero_le _, Nat.zero_le _, fun _ => rfl⟩
  | (c, k, l) :: κ, p :: ps, h => by
    obtain ⟨h1, h2, h3⟩ := frs_counts (κ := κ) (ps := ps) h.2
    have := light h.1
    have := units_le c
    refine ⟨?_, ?_, fun x => ?_⟩
    · show frameCount ((c, p) :: (frs κ ps).map Frame.where_) ≤ _
      rw [frameCount_cons, List.length_cons]; omega
    · show unitsOf ((c, p) :: (frs κ ps).map Frame.where_) ≤ _
      rw [unitsOf_cons, List.length_cons]; omega
    · have e : marksOver (frs ((c, k, l) :: κ) (p :: ps)) x = Frame.marks (.ret k none false l c p []) (marksOver (frs κ ps) x) := rfl
      rw [e, h3]; rfl
theorem over_lo {A : Around} {D : Nat} (h : Lo A D) {κ : FK} {ps : List Pos} {c : Code} (hκ : okF κ) (hc : notCaller c = true) : Lo (A.over c (frs κ ps)) (D + 5 * κ.length + 5) := by
  obtain ⟨h1, h2, h3⟩ := frs_counts (ps := ps) hκ
  have := light hc
  have := units_le c
  have hd := h.depth
  have hu := h.units
  refine ⟨?_, ?_, ?_⟩
  · show A.depth + frameCount ((frs κ ps).map Frame.where_) + c.weight ≤ _
    omega
  · show A.units + unitsOf ((frs κ ps).map Frame.where_) + c.cUnits ≤ _
    omega
  · show (marksOver (frs κ ps) (A.handled, A.handled)).1 = none
    rw [h3]; exact h.handled
theorem split_frs : ∀ (κ : FK) (ps : List Pos), splitAtGen (frs κ ps) = none
  | [], _ => by cases ‹List Pos› <;> rfl
  | (c, k, l) :: κ, [] => rfl
  | (c, k, l) :: κ, p :: ps => by
    show (splitAtGen (frs κ ps)).map _ = none
    rw [split_frs κ ps]; rfl
theorem guard_frs : ∀ (κ : FK) (ps : List Pos), (frs κ ps).any Frame.guarded = false
  | [], ps => by cases ps <;> rfl
  | (c, k, l) :: κ, [] => rfl
  | (c, k, l) :: κ, p :: ps => by
    show (false || (frs κ ps).any Frame.guarded) = false
    rw [guard_frs κ ps]; rfl
end Mine
end Gv

section Gv2
open PySem PySem.Calls PySem.W PySem.W.X PyProof.Rows
set_option Elab.async false
set_option maxRecDepth 100000
namespace Mine
section
variable {V : Cfg} (O : CfgOk V) {cs : List Ctr} {H : Nat → Code → St → Prop} {prim : Nat → Code → Nat → Option (Result × Nat × Prop)} {PP : GEnd → St → Prop} {P : End → Shared → Prop} (hP : PrimOk V prim) (hC : ∀ i C c st fr, cs[i]? = some C → H i c st → CtrOk V C c st fr)
  (hR : ∀ r st h, PP (.ret r) st → Rep V h st → P (.ret r) ⟨h, st.g, V.d, st.t + st.j, V.os⟩)
  (hY : ∀ v l k c κ st h, PP (.susp v l k c κ) st → Rep V h st → ∀ p ps, ps.length = κ.length → P (.susp v false l k c p (frs κ ps)) ⟨h, st.g, V.d, st.t + st.j, V.os⟩)
  (ih : EgTy)
/-- what a tree means over a generator's frames -/
noncomputable def MeansG (V : Cfg) (P : End → Shared → Prop) (c : Code) (κ : FK) (tr : Sem Fin) (s : Shared) : Prop := ∀ ps : List Pos, ps.length = κ.length → SegX (model V.prog V.w) V.A₀ c tr (frs κ ps) s P
variable (IH : ∀ hl hs hc acc cond base nw n j N t g c κ tr h, ih hl hs hc acc cond base nw n j N t g c κ tr → Rep V h ⟨base, nw, n, j, N, t, g⟩ → okF κ → MeansG V P c κ tr ⟨h, g, V.d, t + j, V.os⟩)
  (EQ : ∀ hl hs hc acc cond base nw n j N t g c κ tr, ih hl hs hc acc cond base nw n j N t g c κ tr → Eqs acc ∧ cond)
include EQ in
theorem egRet_eq {r hl hs hc acc cond base nw n j N t g κ} (X : egRet PP ih r hl hs hc acc cond base nw n j N t g κ) : Eqs acc ∧ cond := by
  cases κ with
  | nil => exact ⟨X.1, X.2.1⟩
  | cons p κ => exact EQ _ _ _ _ _ _ _ _ _ _ _ _ _ _ _ X
include EQ in
theorem egS_eq {hl hs hc acc cond base nw n j N t g c κ tr} (X : egS V cs H prim PP ih hl hs hc acc cond base nw n j N t g c κ tr) : Eqs acc ∧ cond := by
  unfold egS at X
  (repeat' split at X) <;> first
    | exact egRet_eq ih EQ X
    | exact EQ _ _ _ _ _ _ _ _ _ _ _ _ _ _ _ X
    | exact ⟨(EQ _ _ _ _ _ _ _ _ _ _ _ _ _ _ _ X).1.2, (EQ _ _ _ _ _ _ _ _ _ _ _ _ _ _ _ X).2⟩
    | exact ⟨(EQ _ _ _ _ _ _ _ _ _ _ _ _ _ _ _ X).1, (EQ _ _ _ _ _ _ _ _ _ _ _ _ _ _ _ X).2.1⟩
    | exact ⟨X.1, X.2.1⟩
    | cases X
/-- a call inside a generator, answered at once -/
theorem s_prim {gd : Bool} {c c' : Code} {fs : List Frame} {l : List Value} {k : Result → Sem Fin} {s : Shared} (x : codeAny (model V.prog V.w) ((V.A₀.over c fs).mark none) c' (fun r s' => SegX (model V.prog V.w) V.A₀ c (k r) fs s' P) s) :
    SegX (model V.prog V.w) V.A₀ c (.call c' none gd l k) fs s P := by
  rintro Γ p rfl hΓ
  have z : wpAny (model V.prog V.w) (V.A₀.over Γ.code fs) (.call c' none gd l .pure : Sem Result) (fun r s' => SegX (model V.prog V.w) V.A₀ Γ.code (k r) fs s' P) (fun _ _ => False) s :=
    y_start _ _ _ _ _ _ _ _ _ _ _ _ (by intro h; cases h) (codeAny_mono x fun r s' h => wpAny_pure h)
  obtain ⟨e, s', hr, hq⟩ := runs_wrap_of_wp (Φ := fun e s' => e.quiet = true ∧ P e s') k .raise id id _ (z (Γ.over fs) p (hΓ.over fs)) (fun a p' s' h' => h' Γ p' rfl hΓ) (fun x p' s' h' => h'.elim)
  exact ⟨e, s', hr, hq⟩
include O hP hC hR hY IH EQ in
theorem egS_sound {hl hs hc acc cond base nw n j N t g c κ tr h} (X : egS V cs H prim PP ih hl hs hc acc cond base nw n j N t g c κ tr) (D : Rep V h ⟨base, nw, n, j, N, t, g⟩) (K : okF κ) :
    MeansG V P c κ tr ⟨h, g, V.d, t + j, V.os⟩ := by
  cases tr with
  | pure fin =>
    cases fin with
    | done f =>
      intro ps hps
      cases κ with
      | nil =>
        cases ps with
        | cons => simp at hps
        | nil => exact s_end _ _ _ _ _ _ (.ok f) _ rfl (hR _ _ _ X.2.2 D)
      | cons q κ =>
        obtain ⟨c1, k1, l1⟩ := q
        cases ps with
        | nil => simp at hps
        | cons p ps =>
          have z := IH _ _ _ _ _ _ _ _ _ _ _ _ _ _ _ h X D K.2
          exact s_pop _ _ _ _ _ _ _ (.ok f) _ rfl _ _ _ _ _ _ _ (z ps (by simpa using hps))
    | again c' =>
      cases q : quietQ c' with
      | false => simp only [egS, q] at X
      | true =>
        simp only [egS, q] at X
        intro ps hps
        have z := IH _ _ _ _ _ _ _ _ _ _ _ _ _ _ _ h X D K ps hps
        exact s_again _ _ _ _ _ _ _ _ (by rw [quietQ_eq]; exact q) (by rw [dz_eq]; exact z)
  | rule tag k => exact fun ps hps => s_skim _ _ _ _ _ _ _ _ 1 (IH _ _ _ _ _ _ _ _ _ _ _ _ _ _ _ h X D K ps hps)
  | «at» q k => exact fun ps hps => s_skim _ _ _ _ _ _ _ _ 1 (IH _ _ _ _ _ _ _ _ _ _ _ _ _ _ _ h X D K ps hps)
  | point l k => exact fun ps hps => s_skim _ _ _ _ _ _ _ _ 1 (IH _ _ _ _ _ _ _ _ _ _ _ _ _ _ _ h X D K ps hps)
  | ask k => exact fun ps hps => s_skim _ _ _ _ _ _ _ _ 1 (IH _ _ _ _ _ _ _ _ _ _ _ _ _ _ _ h X D K ps hps)
  | fresh k =>
    have D' : Rep V h ⟨base, nw, n, j + 1, N, t, g⟩ := ⟨D.size, D.len, D.base, D.nod, D.lt, D.low, D.lowN, D.new, D.keep, D.bare⟩
    exact fun ps hps => s_fresh _ _ _ _ _ _ _ _ _ _ _ _ (IH _ _ _ _ _ _ _ _ _ _ _ _ _ _ _ h X D' K ps hps)
  | load a q k =>
    intro ps hps
    cases hl with
    | nil => cases X
    | cons hh hl =>
      simp only [egS] at X
      split at X
      · split at X
        · rename_i o e
          have z := IH _ _ _ _ _ _ _ _ _ _ _ _ _ _ _ h X D K ps hps
          exact s_load _ _ _ _ _ _ _ _ _ _ _ _ _ _ _ (D.old O e) z
        · cases X
      · split at X
        · rename_i p e
          have z := IH _ _ _ _ _ _ _ _ _ _ _ _ _ _ _ h X D K ps hps
          have ea : a = p.1 := (EQ _ _ _ _ _ _ _ _ _ _ _ _ _ _ _ X).1.1
          rw [baseAt_eq] at e
          have ho := D.base p (List.mem_of_getElem? e)
          rw [← ea] at ho
          exact s_load _ _ _ _ _ _ _ _ _ _ _ _ _ _ _ ho z
        · cases X
      · split at X
        · rename_i o e
          split at X
          · rename_i hlt
            have z := IH _ _ _ _ _ _ _ _ _ _ _ _ _ _ _ h X D K ps hps
            have ea : a = N + _ := (EQ _ _ _ _ _ _ _ _ _ _ _ _ _ _ _ X).1.1
            rw [nwAt_eq] at e
            have ho := D.new _ o (blt_true hlt) (by
              simp only
              revert e
              cases nw[n - 1 - _]? <;> simp)
            rw [← ea] at ho
            exact s_load _ _ _ _ _ _ _ _ _ _ _ _ _ _ _ ho z
          · cases X
        · cases X
  | alloc o k =>
    intro ps hps
    simp only [egS] at X
    split at X
    · rename_i o' el
      obtain ⟨eo, hf⟩ := live_eq el
      subst eo
      have D' := D.alloc hf nw n rfl rfl
      have z := IH _ _ _ _ _ _ _ _ _ _ _ _ _ _ _ _ X D' K ps hps
      have es : h.objs.size = N + n := D.size
      exact s_cmd _ _ _ _ _ _ (m := PySem.alloc _) (k := k) (wpAny_alloc (by rw [es]; exact z))
    · cases X
  | update a q f k =>
    intro ps hps
    cases hl with
    | nil => cases X
    | cons hh hl =>
      simp only [egS] at X
      split at X
      · cases X
      · split at X
        · rename_i p e
          split at X
          · rename_i o el
            obtain ⟨rfl, hf⟩ := live_eq el
            have ea : a = p.1 := (EQ _ _ _ _ _ _ _ _ _ _ _ _ _ _ _ X).1.1
            rw [baseSet_eq] at X
            rw [baseAt_eq] at e
            rw [e] at X
            have D' := D.setBase O e hf
            have ho := D.base p (List.mem_of_getElem? e)
            have z := IH _ _ _ _ _ _ _ _ _ _ _ _ _ _ _ _ X D' K ps hps
            subst ea
            exact s_cmd _ _ _ _ _ _ (m := updatePart p.1 q f) (k := k) (wpAny_updatePart ho z)
          · cases X
        · cases X
      · rename_i kk _
        split at X
        · rename_i p e
          split at X
          · rename_i o el
            obtain ⟨rfl, hf⟩ := live_eq el
            split at X
            · rename_i hlt
              have ea : a = N + kk := (EQ _ _ _ _ _ _ _ _ _ _ _ _ _ _ _ X).1.1
              rw [nwSet_eq] at X
              rw [nwAt_eq] at e
              have hnw : nw[n - 1 - kk]? = some (some p) := by
                revert e
                cases nw[n - 1 - kk]? <;> simp
              have D' := D.setNew O (blt_true hlt) hnw hf
              have ho := D.new kk p (blt_true hlt) hnw
              have z := IH _ _ _ _ _ _ _ _ _ _ _ _ _ _ _ _ X D' K ps hps
              subst ea
              exact s_cmd _ _ _ _ _ _ (m := updatePart (N + kk) q f) (k := k) (wpAny_updatePart ho z)
            · cases X
          · cases X
        · cases X
  | yield v gd l k =>
    cases gd with
    | true => cases X
    | false =>
      intro ps hps
      exact s_yield _ _ _ _ _ _ _ _ _ _ (split_frs κ ps) (guard_frs κ ps) fun p => hY _ _ _ _ _ _ _ X.2.2 D p ps hps
  | call c' hd gd l k =>
    intro ps hps
    cases hd with
    | some _ => cases X
    | none =>
        cases hc with
        | nil => cases X
        | cons hh hc =>
          simp only [egS] at X
          split at X
          · rename_i hn
            split at X
            · split at X
              · cases X
              refine s_call _ _ _ _ _ _ _ _ _ _ _ _ fun p => ?_
              rw [dz_eq]
              exact IH _ _ _ _ _ _ _ _ _ _ _ _ _ ((c, k, l) :: κ) _ h X D ⟨hn, K⟩ (p :: ps) (by simp [hps])
            · split at X
              · split at X
                rotate_left
                · cases X
                rename_i r e q hp
                have cond' := (EQ _ _ _ _ _ _ _ _ _ _ _ _ _ _ _ X).2
                refine s_prim (hP _ _ _ _ _ _ hp cond'.2 _ _ _ _ (over_lo O.lo K hn) rfl (D.lim O) D.bare fun h' hz hk => ?_)
                have D' : Rep V h' ⟨base, nw, n, j + e, N, t, g⟩ := ⟨hz.trans D.size, D.len, fun p hp => hk _ _ (D.base p hp), D.nod, D.lt, D.low, D.lowN, fun k o hk' z => hk _ _ (D.new k o hk' z), fun b o z => hk _ _ (D.keep b o z), D.bare⟩
                have z := IH _ _ _ _ _ _ _ _ _ _ _ _ _ _ _ h' X D' K ps hps
                rw [← Nat.add_assoc] at z
                exact z
              · split at X
                · rename_i C hCi
                  split at X
                  · rename_i hd
                    have ok := fun fr => hC _ _ _ _ fr hCi X.2.2.1
                    refine s_prim (ok _ _ h _ ((over_lo O.lo K hn).le (Nat.le_of_ble_eq_true hd)) rfl D fun x h' D' => ?_)
                    exact IH _ _ _ _ _ _ _ _ _ _ _ _ _ _ _ h' (X.2.2.2 x) D' K ps hps
                  · cases X
                · cases X
          · cases X
  | _ => cases X
end
theorem eg_eq {V : Cfg} {cs : List Ctr} {H : Nat → Code → St → Prop} {prim : Nat → Code → Nat → Option (Result × Nat × Prop)} {PP : GEnd → St → Prop} :
    ∀ (m : Nat) hl hs hc acc cond base nw n j N t g c κ tr, eg V cs H prim PP m hl hs hc acc cond base nw n j N t g c κ tr → Eqs acc ∧ cond
  | 0 => fun _ _ _ _ _ _ _ _ _ _ _ _ _ _ _ X => by cases X
  | m + 1 => fun _ _ _ _ _ _ _ _ _ _ _ _ _ _ _ X => egS_eq _ (eg_eq m) X
theorem eg_sound {V : Cfg} (O : CfgOk V) {cs : List Ctr} {H : Nat → Code → St → Prop} {prim : Nat → Code → Nat → Option (Result × Nat × Prop)} {PP : GEnd → St → Prop} {P : End → Shared → Prop} (hP : PrimOk V prim) (hC : ∀ i C c st fr, cs[i]? = some C → H i c st → CtrOk V C c st fr)
    (hR : ∀ r st h, PP (.ret r) st → Rep V h st → P (.ret r) ⟨h, st.g, V.d, st.t + st.j, V.os⟩)
    (hY : ∀ v l k c κ st h, PP (.susp v l k c κ) st → Rep V h st → ∀ p ps, ps.length = κ.length → P (.susp v false l k c p (frs κ ps)) ⟨h, st.g, V.d, st.t + st.j, V.os⟩) :
    ∀ (m : Nat) hl hs hc acc cond base nw n j N t g c κ tr h, eg V cs H prim PP m hl hs hc acc cond base nw n j N t g c κ tr → Rep V h ⟨base, nw, n, j, N, t, g⟩ → okF κ → MeansG V P c κ tr ⟨h, g, V.d, t + j, V.os⟩
  | 0 => fun _ _ _ _ _ _ _ _ _ _ _ _ _ _ _ _ X _ _ => by cases X
  | m + 1 => fun _ _ _ _ _ _ _ _ _ _ _ _ _ _ _ _ X D K => egS_sound O hP hC hR hY _ (eg_sound O hP hC hR hY m) (eg_eq m) X D K
/-- a stretch of a generator's run -/
theorem seg_by_run {V : Cfg} (O : CfgOk V) {cs : List Ctr} {H : Nat → Code → St → Prop} {prim : Nat → Code → Nat → Option (Result × Nat × Prop)} {PP : GEnd → St → Prop} {P : End → Shared → Prop} (hP : PrimOk V prim) (hC : ∀ i C c st fr, cs[i]? = some C → H i c st → CtrOk V C c st fr)
    (hR : ∀ r st h, PP (.ret r) st → Rep V h st → P (.ret r) ⟨h, st.g, V.d, st.t + st.j, V.os⟩)
    (hY : ∀ v l k c κ st h, PP (.susp v l k c κ) st → Rep V h st → ∀ p ps, ps.length = κ.length → P (.susp v false l k c p (frs κ ps)) ⟨h, st.g, V.d, st.t + st.j, V.os⟩)
    (m : Nat) {hl hs hc base N t g c κ tr h} (X : grun V cs H prim PP m hl hs hc [] True base [] 0 0 N t g c κ tr) (D : Rep V h ⟨base, [], 0, 0, N, t, g⟩) (K : okF κ) {ps : List Pos} (hps : ps.length = κ.length) :
    SegX (model V.prog V.w) V.A₀ c tr (frs κ ps) ⟨h, g, V.d, t, V.os⟩ P := by
  unfold grun at X
  exact eg_sound O hP hC hR hY m _ _ _ _ _ _ _ _ _ _ _ _ _ _ _ _ X D K ps hps
end Mine
end Gv2

section Lit
open PySem PySem.Calls PySem.W PySem.W.X PyProof.Rows
set_option Elab.async false
set_option maxRecDepth 100000
namespace Mine
noncomputable def litObj (l : Addr) (i : Nat) : Obj := { cls := .type "list_iterator", data := .fields #[.ref l, .int (Int.ofNat i) 0] }
section
variable {prog : Program} {w : World} {A : Around} {s : Shared} {R : Result → Shared → Prop} {it l i c : Nat} {xs : Array Value}
theorem lit_item {x : Value} (ho : s.heap.get? it = some (litObj l i)) (hl : s.heap.get? l = some (listObj xs c)) (hx : xs[i]? = some x)
    (z : R (.ok (.ret x)) { s with heap := s.heap.update it (Obj.mapFields (·.setIfInBounds 1 (rawInt (Int.ofNat i + 1)))) }) :
    codeAny (model prog w) A (.call (.builtin "list_iterator.__next__") ⟨[.ref it], []⟩) R s := by
  refine codeAny_call_builtin slot_listiter_next.plain entry_listiter_next (slot_listiter_next.check _ _ _ _ _ _ _ _ ⟨_, ho, rfl⟩ (args_listiter_next _) ?_)
  show wpAny _ _ (field (.ref it) 0 >>= _) _ _ s
  refine wpAny_bind (wpAny_field ho rfl (x := .ref l) rfl ?_)
  show wpAny _ _ (if (Value.ref l == Value.none) = true then _ else _) _ _ s
  rw [if_neg (show ¬ ((Value.ref l == Value.none) = true) from Bool.false_ne_true)]
  refine wpAny_bind (wpAny_field ho rfl (x := .int (Int.ofNat i) 0) rfl ?_)
  refine wpAny_bind (wpAny_seqItems hl rfl ?_)
  have hx' : xs[(Int.ofNat i).toNat]? = some x := hx
  simp only [hx']
  exact wpAny_bind (wpAny_setField ho rfl (by show 1 < 2; decide) (wpAny_pure z))
/-- the end of a list: StopIteration -/
theorem lit_end (hh : A.handled = none) (ho : s.heap.get? it = some (litObj l i)) (hl : s.heap.get? l = some (listObj xs c)) (hx : xs[i]? = none)
    (z : ∀ h' e tp, h'.objs.size = s.heap.objs.size + 2 → s.heap.objs.size ≤ e → h'.get? e = some (excObj "StopIteration" tp) → (∀ b o, b ≠ it → s.heap.get? b = some o → h'.get? b = some o) → R (.error (.ref e)) { s with heap := h' }) :
    codeAny (model prog w) A (.call (.builtin "list_iterator.__next__") ⟨[.ref it], []⟩) R s := by
  refine codeAny_call_builtin slot_listiter_next.plain entry_listiter_next (slot_listiter_next.check _ _ _ _ _ _ _ _ ⟨_, ho, rfl⟩ (args_listiter_next _) ?_)
  show wpAny _ _ (field (.ref it) 0 >>= _) _ _ s
  refine wpAny_bind (wpAny_field ho rfl (x := .ref l) rfl ?_)
  show wpAny _ _ (if (Value.ref l == Value.none) = true then _ else _) _ _ s
  rw [if_neg (show ¬ ((Value.ref l == Value.none) = true) from Bool.false_ne_true)]
  refine wpAny_bind (wpAny_field ho rfl (x := .int (Int.ofNat i) 0) rfl ?_)
  refine wpAny_bind (wpAny_seqItems hl rfl ?_)
  have hx' : xs[(Int.ofNat i).toNat]? = none := hx
  simp only [hx']
  refine wpAny_bind (wpAny_rule (wpAny_bind (wpAny_setField ho rfl (by show 0 < 2; decide) ?_)))
  show wpAny _ _ (newExc (.type "StopIteration") [] >>= _) _ _ _
  refine wpAny_bind ?_
  simp only [newExc, newTuple]
  refine wpAny_bind (wpAny_newObj_type ?_ (by size_fits))
  refine wpAny_bind (m := firstArgMember _ _) (wpAny_of_eq (a := Value.none) (by first | rfl | (simp only [firstArgMember]; rfl)) ?_)
  refine wpAny_newObj_type ?_ (by size_fits)
  simp only [raiseNew]
  refine wpAny_bind (wpAny_handled ?_)
  rw [show A.in1.handled = none from hh]
  refine wpAny_bind (wpAny_pure (wpAny_throw ?_))
  refine z _ _ (s.heap.update it _).objs.size ?_ ?_ (Heap.get?_push_size _ rfl) (fun b o hb e => Heap.get?_push_of_some _ (Heap.get?_push_of_some _ ((Heap.get?_update_other _ _ (Ne.symm hb)).trans e)))
  · rw [Heap.size_push, Heap.size_push, Heap.size_after_update]
  · rw [Heap.size_push, Heap.size_after_update]
    exact Nat.le_succ _
end
end Mine
end Lit

section Gx
open PySem PySem.Calls PySem.W PySem.W.X PyProof.Rows
set_option Elab.async false
set_option maxRecDepth 100000
namespace Mine
/-- what a generator's run is suspended with -/
structure Susp where
  k : Resume → Sem Fin
  l : List Value
  c : Code
  κ : FK
noncomputable abbrev GxTy := List Nat → List (List Nat) → List Nat → Own → List (Option Obj) → Nat → Nat → Nat → Nat → Code → FK → Sem Fin → Susp
/-- the same run, read for its closure alone -/
noncomputable def gxS (V : Cfg) (cs : List (St → Result × St)) (ih : GxTy) (bad : Susp) : GxTy := fun hl hs hc base nw n j N t c κ tr => match tr with
  | .pure fin => match fin with
    | .done f => match κ with
      | [] => bad
      | (c, k, _) :: κ => ih hl hs hc base nw n j N t c κ (k (.ok f))
    | .again c' => ih hl hs hc base nw n j N t c' κ (dz c')
  | .rule _ k => ih hl hs hc base nw n j N t c κ (k ())
  | .at _ k => ih hl hs hc base nw n j N t c κ (k ())
  | .point _ k => ih hl hs hc base nw n j N t c κ (k ())
  | .ask k => ih hl hs hc base nw n j N t c κ (k ⟨V.prog, V.w.params⟩)
  | .fresh k => ih hl hs hc base nw n (j + 1) N t c κ (k (t + j))
  | .load a _ k => match hl with
    | [] => bad
    | h :: hl => match pick h with
      | .old => match V.kt.get a with
        | some o => ih hl hs hc base nw n j N t c κ (k o)
        | none => bad
      | .base i => match baseAt base i with
        | some p => ih hl hs hc base nw n j N t c κ (k p.2)
        | none => bad
      | .new i => match nwAt nw (n - 1 - i) with
        | some o => ih hl hs hc base nw n j N t c κ (k o)
        | none => bad
  | .update _ _ f k => match hl with
    | [] => bad
    | h :: hl => match pick h with
      | .old => bad
      | .base i => match baseAt base i with
        | some p => match live (f p.2) with
          | some o => ih hl hs hc (baseSet base i o) nw n j N t c κ (k ())
          | none => bad
        | none => bad
      | .new i => match nwAt nw (n - 1 - i) with
        | some p => match live (f p) with
          | some o => ih hl hs hc base (nwSet nw (n - 1 - i) o) n j N t c κ (k ())
          | none => bad
        | none => bad
  | .yield _ _ l k => ⟨k, l, c, κ⟩
  | .call c' _ _ l k => match hc with
    | [] => bad
    | h :: hc => match Nat.beq h 0 with
      | true => ih hl hs hc base nw n j N t c' ((c, k, l) :: κ) (dz c')
      | false => match Nat.blt h 4 with
        | true => ih hl hs hc base nw n j N t c κ (k (.ok (.ret (.bool (Nat.beq h 3)))))
        | false => match cs[h - 4]? with
          | some C => match C ⟨base, nw, n, j, N, t, #[]⟩ with
            | (r, st) => ih (hs.headD []) hs.tail hc st.base st.nw st.n st.j st.N st.t c κ (k r)
          | none => bad
  | _ => bad
noncomputable def gx (V : Cfg) (cs : List (St → Result × St)) (bad : Susp) : Nat → GxTy
  | 0 => fun _ _ _ _ _ _ _ _ _ _ _ _ => bad
  | n + 1 => gxS V cs (gx V cs bad n) bad
end Mine
end Gx

section Gen
open PySem PySem.Calls PySem.W PySem.W.X PyProof.Rows
set_option Elab.async false
set_option maxRecDepth 100000
namespace Mine
noncomputable abbrev fd741 (P : Params) : FuncData := fdOf (o741 P)
noncomputable abbrev genCode (P : Params) (fr : Addr) : Code := .func (stmtsOf (fd741 P)) (envOf (fd741 P) 741 fr)
noncomputable def genFr1 (P : Params) (k0 : Nat) (lst : Addr) : Obj := { cls := .type "frame", data := .dict #[⟨PyData.keyHash P ⟨#[103, 114, 111, 117, 112, 105, 110, 103]⟩, .str ⟨#[103, 114, 111, 117, 112, 105, 110, 103]⟩ k0, .ref lst⟩] 1 }
noncomputable def genFr2 (P : Params) (k0 k1 : Nat) (lst : Addr) (u : Value) : Obj := { cls := .type "frame", data := .dict #[⟨PyData.keyHash P ⟨#[103, 114, 111, 117, 112, 105, 110, 103]⟩, .str ⟨#[103, 114, 111, 117, 112, 105, 110, 103]⟩ k0, .ref lst⟩, ⟨PyData.keyHash P ⟨#[108, 97, 115, 116, 95, 105, 110, 116, 101, 114, 118, 97, 108]⟩, .str ⟨#[108, 97, 115, 116, 95, 105, 110, 116, 101, 114, 118, 97, 108]⟩ k1, u⟩] 2 }
noncomputable def genFr3 (P : Params) (k0 k1 k2 : Nat) (lst : Addr) (u v : Value) : Obj := { cls := .type "frame", data := .dict #[⟨PyData.keyHash P ⟨#[103, 114, 111, 117, 112, 105, 110, 103]⟩, .str ⟨#[103, 114, 111, 117, 112, 105, 110, 103]⟩ k0, .ref lst⟩, ⟨PyData.keyHash P ⟨#[108, 97, 115, 116, 95, 105, 110, 116, 101, 114, 118, 97, 108]⟩, .str ⟨#[108, 97, 115, 116, 95, 105, 110, 116, 101, 114, 118, 97, 108]⟩ k1, u⟩, ⟨PyData.keyHash P ⟨#[105, 110, 116, 101, 114, 118, 97, 108]⟩, .str ⟨#[105, 110, 116, 101, 114, 118, 97, 108]⟩ k2, v⟩] 3 }
noncomputable abbrev iterResp (lst : Addr) : St → Result × St := fun st => (.ok (.ret (.ref st.N)), ⟨st.base.take 1 ++ (st.N, litObj lst 0) :: st.base.drop 1, [], 0, st.j, st.N + 1, st.t, st.g⟩)
noncomputable abbrev iterCtr (lst : Addr) : Ctr := { X := Unit, D := 900, resp := fun _ => iterResp lst }
noncomputable abbrev nextResp (lst : Addr) (i : Nat) (x : Value) : St → Result × St := fun st => (.ok (.ret x), { st with base := baseSet st.base 1 (litObj lst (i + 1)) })
noncomputable abbrev nextCtr (lst : Addr) (i : Nat) (x : Value) : Ctr := { X := Unit, D := 900, resp := fun _ => nextResp lst i x }
noncomputable def badSusp : Susp := ⟨fun _ => .unsupported "", [], .call .none ⟨[], []⟩, []⟩
/-- what the generator is suspended with, inside its for-loop -/
noncomputable def gsF (w : World) (scr : Obj) (h₀ : Heap) (d : Drawn) (os : OsState) (fr it : Addr) : Susp :=
  gx (cfg w scr h₀ callerA 0 (fun _ _ => True) d os) [iterResp 0, nextResp 0 0 (.int 1 0)] badSusp 100 [1, 1, 1, 3, 3] [[3, 3], [1, 1, 1, 0, 1, 1]] [4, 0, 5, 2, 2] [(fr, genFr1 w.params 0 0), (0, listObj #[] 0)] [] 0 0 it 0 (genCode w.params fr) [] (dz (genCode w.params fr))
set_option maxHeartbeats 0
theorem gen_fresh (w₀ : World) (b1 b2 : Bool) (w : World) (hw : w = wf w₀ b1 b2) (scr : Obj) (h₀ : Heap) (A : Around) (R : Result → Shared → Prop) (d : Drawn) (os : OsState) (HH : Nat → Code → St → Prop) (PP : GEnd → Own → Nat → Nat → Nat → Array GenState → Prop)
    (fr lst k0 tq N t c : Nat) (q : Int) (xs : Array Value) (g : Array GenState) (rest : Own) :
    grun (cfg w scr h₀ A 700 R d os) [iterCtr lst, nextCtr lst 0 (.int q tq)] HH primQ (fun e st => PP e st.base st.n st.N (st.t + st.j) st.g) 100 [1, 1, 1, 3, 3] [[3, 3], [1, 1, 1, 0, 1, 1]] [4, 0, 5, 2, 2] [] True ((fr, genFr1 w.params k0 lst) :: (lst, listObj xs c) :: rest) [] 0 0 N t g (genCode w.params fr) [] (dz (genCode w.params fr)) =
    (Eqs (want [fr, lst] N [1, 1, 1, 3, 3]) ∧ True ∧ HH 0 (.call (.builtin "list.__iter__") ⟨[.ref lst], []⟩) ⟨(fr, genFr2 w.params k0 t lst .none) :: (lst, listObj xs c) :: rest, [], 0, 1, N, t, g⟩ ∧ ∀ _ : Unit, Eqs (want [fr, N, lst] (N + 1) [3, 3]) ∧ True ∧ HH 1 (.call (.builtin "list_iterator.__next__") ⟨[.ref N], []⟩) ⟨(fr, genFr2 w.params k0 t lst .none) :: (N, litObj lst 0) :: (lst, listObj xs c) :: rest, [], 0, 1, N + 1, t, g⟩ ∧
      ∀ _ : Unit, Eqs (want [fr, N, lst] (N + 1) [1, 1, 1, 0, 1, 1]) ∧ ((True ∧ (q == 127) = false) ∧ (q == 0) = false) ∧ PP (.susp (.int q tq) (gsF w scr h₀ d os fr N).l (gsF w scr h₀ d os fr N).k (gsF w scr h₀ d os fr N).c (gsF w scr h₀ d os fr N).κ) ((fr, genFr3 w.params k0 t (t + 1) lst .none (.int q tq)) :: (N, litObj lst 1) :: (lst, listObj xs c) :: rest) 0 (N + 1) (t + 3) g) := by
  subst hw
  cases b1 <;> kernel_rfl
theorem gen_next (w₀ : World) (b1 b2 : Bool) (w : World) (hw : w = wf w₀ b1 b2) (scr : Obj) (h₀ : Heap) (A : Around) (R : Result → Shared → Prop) (d : Drawn) (os : OsState) (HH : Nat → Code → St → Prop) (PP : GEnd → Own → Nat → Nat → Nat → Array GenState → Prop)
    (fr lst it k0 k1 k2 i tu tq tz N t c : Nat) (u q z : Int) (uu : Value) (xs : Array Value) (g : Array GenState) (rest : Own) :
    grun (cfg w scr h₀ A 700 R d os) [iterCtr lst, nextCtr lst i (.int q tq)] HH primQ (fun e st => PP e st.base st.n st.N (st.t + st.j) st.g) 100 [1, 1, 1, 3] [[1, 1, 1, 0, 1, 1]] [5, 2, 2] [] True ((fr, genFr3 w.params k0 k1 k2 lst uu (.int u tu)) :: (it, litObj lst i) :: (lst, listObj xs c) :: rest) [] 0 0 N t g (gsF w scr h₀ d os fr it).c (gsF w scr h₀ d os fr it).κ ((gsF w scr h₀ d os fr it).k (.send .none)) =
    (Eqs (want [fr, it, lst] N [1, 1, 1, 3]) ∧ True ∧ HH 1 (.call (.builtin "list_iterator.__next__") ⟨[.ref it], []⟩) ⟨(fr, genFr3 w.params k0 k1 k2 lst (.int u tu) (.int u tu)) :: (it, litObj lst i) :: (lst, listObj xs c) :: rest, [], 0, 1, N, t, g⟩ ∧
      ∀ _ : Unit, Eqs (want [fr, it, lst] N [1, 1, 1, 0, 1, 1]) ∧ ((True ∧ (q == 127) = false) ∧ (q == 0) = false) ∧ PP (.susp (.int q tq) (gsF w scr h₀ d os fr it).l (gsF w scr h₀ d os fr it).k (gsF w scr h₀ d os fr it).c (gsF w scr h₀ d os fr it).κ) ((fr, genFr3 w.params k0 k1 k2 lst (.int u tu) (.int q tq)) :: (it, litObj lst (i + 1)) :: (lst, listObj xs c) :: rest) 0 N (t + 3) g) := by
  subst hw
  cases b1 <;> kernel_rfl
theorem gen_end (w₀ : World) (b1 b2 : Bool) (w : World) (hw : w = wf w₀ b1 b2) (scr : Obj) (h₀ : Heap) (A : Around) (R : Result → Shared → Prop) (d : Drawn) (os : OsState) (HH : Nat → Code → St → Prop) (PP : GEnd → Own → Nat → Nat → Nat → Array GenState → Prop)
    (fr lst it k0 k1 k2 i tu tq tz N t c : Nat) (u q z : Int) (uu : Value) (xs : Array Value) (g : Array GenState) (rest : Own) :
    grun (cfg w scr h₀ A 700 R d os) [iterCtr lst, nextCtr lst i (.int q tq)] HH primQ (fun e st => PP e st.base st.n st.N (st.t + st.j) st.g) 100 [1, 1, 1, 3] [[1, 1, 1, 0]] [5, 3] [] True ((fr, genFr3 w.params k0 k1 k2 lst uu (.int u tu)) :: (it, litObj lst i) :: (lst, listObj xs c) :: rest) [] 0 0 N t g (gsF w scr h₀ d os fr it).c (gsF w scr h₀ d os fr it).κ ((gsF w scr h₀ d os fr it).k (.send .none)) =
    (Eqs (want [fr, it, lst] N [1, 1, 1, 3]) ∧ True ∧ HH 1 (.call (.builtin "list_iterator.__next__") ⟨[.ref it], []⟩) ⟨(fr, genFr3 w.params k0 k1 k2 lst (.int u tu) (.int u tu)) :: (it, litObj lst i) :: (lst, listObj xs c) :: rest, [], 0, 1, N, t, g⟩ ∧
      ∀ _ : Unit, Eqs (want [fr, it, lst] N [1, 1, 1, 0]) ∧ (True ∧ (q == 127) = true) ∧ PP (.ret (.ok (.ret .none))) ((fr, genFr3 w.params k0 k1 k2 lst (.int u tu) (.int q tq)) :: (it, litObj lst (i + 1)) :: (lst, listObj xs c) :: rest) 0 N (t + 2) g) := by
  subst hw
  cases b1 <;> kernel_rfl
/-- what the generator is suspended with, inside its while-loop -/
noncomputable def gsW (w : World) (scr : Obj) (h₀ : Heap) (d : Drawn) (os : OsState) (fr it : Addr) : Susp :=
  gx (cfg w scr h₀ callerA 0 (fun _ _ => True) d os) [iterResp 0, nextResp 0 0 (.int 0 0)] badSusp 100 [1, 1, 1, 3] [[1, 1, 1, 0, 1, 1, 1]] [5, 2, 3, 0] [(fr, genFr3 w.params 0 0 0 0 .none (.int 1 0)), (it, litObj 0 0), (0, listObj #[] 0)] [] 0 0 (it + 1) 0 (gsF w scr h₀ d os fr it).c (gsF w scr h₀ d os fr it).κ ((gsF w scr h₀ d os fr it).k (.send .none))
theorem gen_zero (w₀ : World) (b1 b2 : Bool) (w : World) (hw : w = wf w₀ b1 b2) (scr : Obj) (h₀ : Heap) (A : Around) (R : Result → Shared → Prop) (d : Drawn) (os : OsState) (HH : Nat → Code → St → Prop) (PP : GEnd → Own → Nat → Nat → Nat → Array GenState → Prop)
    (fr lst it k0 k1 k2 i tu tq N t c : Nat) (u q : Int) (uu : Value) (xs : Array Value) (g : Array GenState) (rest : Own) :
    grun (cfg w scr h₀ A 700 R d os) [iterCtr lst, nextCtr lst i (.int q tq)] HH primQ (fun e st => PP e st.base st.n st.N (st.t + st.j) st.g) 100 [1, 1, 1, 3] [[1, 1, 1, 0, 1, 1, 1]] [5, 2, 3, 0] [] True ((fr, genFr3 w.params k0 k1 k2 lst uu (.int u tu)) :: (it, litObj lst i) :: (lst, listObj xs c) :: rest) [] 0 0 N t g (gsF w scr h₀ d os fr it).c (gsF w scr h₀ d os fr it).κ ((gsF w scr h₀ d os fr it).k (.send .none)) =
    (Eqs (want [fr, it, lst] N [1, 1, 1, 3]) ∧ True ∧ HH 1 (.call (.builtin "list_iterator.__next__") ⟨[.ref it], []⟩) ⟨(fr, genFr3 w.params k0 k1 k2 lst (.int u tu) (.int u tu)) :: (it, litObj lst i) :: (lst, listObj xs c) :: rest, [], 0, 1, N, t, g⟩ ∧
      ∀ _ : Unit, Eqs (want [fr, it, lst] N [1, 1, 1, 0, 1, 1, 1]) ∧ ((True ∧ (q == 127) = false) ∧ (q == 0) = true) ∧ PP (.susp (.int u tu) (gsW w scr h₀ d os fr it).l (gsW w scr h₀ d os fr it).k (gsW w scr h₀ d os fr it).c (gsW w scr h₀ d os fr it).κ) ((fr, genFr3 w.params k0 k1 k2 lst (.int u tu) (.int q tq)) :: (it, litObj lst (i + 1)) :: (lst, listObj xs c) :: rest) 0 N (t + 3) g) := by
  subst hw
  cases b1 <;> kernel_rfl
theorem gen_while (w₀ : World) (b1 b2 : Bool) (w : World) (hw : w = wf w₀ b1 b2) (scr : Obj) (h₀ : Heap) (A : Around) (R : Result → Shared → Prop) (d : Drawn) (os : OsState) (HH : Nat → Code → St → Prop) (PP : GEnd → Own → Nat → Nat → Nat → Array GenState → Prop)
    (fr lst it k0 k1 k2 i tu tq N t c : Nat) (u q : Int) (uu : Value) (xs : Array Value) (g : Array GenState) (rest : Own) :
    grun (cfg w scr h₀ A 700 R d os) [iterCtr lst, nextCtr lst i (.int q tq)] HH primQ (fun e st => PP e st.base st.n st.N (st.t + st.j) st.g) 100 [1] [] [] [] True ((fr, genFr3 w.params k0 k1 k2 lst (.int u tu) uu) :: rest) [] 0 0 N t g (gsW w scr h₀ d os fr it).c (gsW w scr h₀ d os fr it).κ ((gsW w scr h₀ d os fr it).k (.send .none)) =
    (Eqs (want [fr, it, lst] N [1]) ∧ True ∧ PP (.susp (.int u tu) (gsW w scr h₀ d os fr it).l (gsW w scr h₀ d os fr it).k (gsW w scr h₀ d os fr it).c (gsW w scr h₀ d os fr it).κ) ((fr, genFr3 w.params k0 k1 k2 lst (.int u tu) uu) :: rest) 0 N t g) := by
  subst hw
  cases b1 <;> kernel_rfl
end Mine
end Gen

section Gn
open PySem PySem.Calls PySem.W PySem.W.X PyProof.Rows
set_option Elab.async false
set_option maxRecDepth 100000
namespace Mine
noncomputable def genObj (g : Nat) (tn tq : Nat) : Obj := { cls := .type "generator", data := .fields #[.int g 0, .str ⟨#[95, 103, 114, 111, 117, 112, 105, 110, 103, 95, 105, 110, 116, 101, 114, 118, 97, 108, 115]⟩ tn, .str ⟨#[95, 103, 114, 111, 117, 112, 105, 110, 103, 95, 105, 110, 116, 101, 114, 118, 97, 108, 115]⟩ tq] }
theorem wake_wp {prog : Program} {w : World} {A : Around} {s : Shared} {α : Type} {Q : α → Shared → Prop} {E : Value → Shared → Prop} {g : Nat} {gs : GenState} {r : Resume} {l : List Value} {k : GenResult → Sem α} {c₀ : Code} {t₀ : Sem Fin} {fs₀ : List Frame} (hg : s.gens[g]? = some gs)
    (hgs : (gs = .fresh c₀ ∧ r = .send .none ∧ t₀ = denote table c₀ ∧ fs₀ = []) ∨ (∃ k₀ l₀ p₀ cl, gs = .suspended k₀ l₀ c₀ p₀ fs₀ cl ∧ t₀ = k₀ r))
    (x : SegX (model prog w) A c₀ t₀ fs₀ (s.setGen g .running) (fun e s₁ => wpAny (model prog w) A (k e.result) Q E (s₁.setGen g e.genState))) : wpAny (model prog w) A (.resume g r l k) Q E s :=
  fun Γ p hΓ => wake_any α prog w hg hgs (fun Γ => Γ.In A) (fun _ h => h) (x.mono fun _ _ h Γ p hC => h Γ p hC) Γ p hΓ
/-- what a waking of a generator brings -/
noncomputable def wokeP (R : Result → Shared → Prop) (g : Nat) : End → Shared → Prop := fun e s₁ => match e with
  | .susp v gd l k c p fs => R (.ok (.ret v)) (s₁.setGen g (End.susp v gd l k c p fs).genState)
  | .ret (.ok (.ret .none)) => ∀ h' ex tp, h'.objs.size = s₁.heap.objs.size + 2 → s₁.heap.objs.size ≤ ex → h'.get? ex = some (excObj "StopIteration" tp) → (∀ b o, s₁.heap.get? b = some o → h'.get? b = some o) → R (.error (.ref ex)) { s₁.setGen g .finished with heap := h' }
  | _ => False
theorem gnext {prog : Program} {w : World} {A : Around} {s : Shared} {R : Result → Shared → Prop} {a g tn tq : Nat} {gs : GenState} {c₀ : Code} {t₀ : Sem Fin} {fs₀ : List Frame} (hh : A.handled = none) (hl : s.heap.NoLimit) (hroom : A.depth < recursionLimit)
    (ho : s.heap.get? a = some (genObj g tn tq)) (hg : s.gens[g]? = some gs)
    (hgs : (gs = .fresh c₀ ∧ t₀ = denote table c₀ ∧ fs₀ = []) ∨ (∃ k₀ l₀ p₀ cl, gs = .suspended k₀ l₀ c₀ p₀ fs₀ cl ∧ t₀ = k₀ (.send .none)))
    (x : SegX (model prog w) A.in1 c₀ t₀ fs₀ (s.setGen g .running) (wokeP R g)) :
    codeAny (model prog w) A (.call (.builtin "generator.__next__") ⟨[.ref a], []⟩) R s := by
  refine codeAny_call_builtin slot_gen_next.plain entry_gen_next (slot_gen_next.check _ _ _ _ _ _ _ _ ⟨_, ho, rfl⟩ (args_gen_next _) ?_)
  show wpAny _ _ (Builtin.Generator.genWake (.ref a) (.send .none)) _ _ s
  unfold Builtin.Generator.genWake
  have hG : s.heap.IsGen a g := ⟨_, _, _, ho, rfl, rfl, rfl⟩
  refine wpAny_bind (wpAny_holding (wpAny_genNumber hG (wpAny_bind (wpAny_genState hg ?_))))
  rcases hgs with ⟨rfl, rfl, rfl⟩ | ⟨k₀, l₀, p₀, cl, rfl, rfl⟩
  · refine wpAny_bind (wpAny_roomToWake hl hroom ?_)
    show wpAny _ _ (.resume g (.send .none) [] _) _ _ s
    refine wake_wp hg (.inl ⟨rfl, rfl, rfl, rfl⟩) (x.mono fun e s₁ h => ?_)
    cases e with
    | susp v gd l k c p fs => exact wpAny_pure h
    | ret r =>
      match r, h with
      | .ok (.ret .none), h =>
        show wpAny _ _ (newExc (.type "StopIteration") [] >>= _) _ _ _
        refine wpAny_bind ?_
        simp only [newExc, newTuple]
        refine wpAny_bind (wpAny_newObj_type ?_ (by size_fits))
        refine wpAny_bind (m := firstArgMember _ _) (wpAny_of_eq (a := Value.none) (by first | rfl | (simp only [firstArgMember]; rfl)) ?_)
        refine wpAny_newObj_type ?_ (by size_fits)
        simp only [raiseNew]
        refine wpAny_bind (wpAny_bind (wpAny_handled ?_))
        rw [show A.in1.handled = none from hh]
        refine wpAny_throw ?_
        refine h _ _ s₁.heap.objs.size ?_ ?_ (Heap.get?_push_size _ rfl) (fun b o e => Heap.get?_push_of_some _ (Heap.get?_push_of_some _ e))
        · show ((s₁.heap.push _).push _).objs.size = _
          rw [Heap.size_push, Heap.size_push]
        · rw [Heap.size_push]; exact Nat.le_succ _
  · refine wpAny_bind (wpAny_roomToWake hl hroom ?_)
    show wpAny _ _ (.resume g (.send .none) [] _) _ _ s
    refine wake_wp hg (.inr ⟨k₀, l₀, p₀, cl, rfl, rfl⟩) (x.mono fun e s₁ h => ?_)
    cases e with
    | susp v gd l k c p fs => exact wpAny_pure h
    | ret r =>
      match r, h with
      | .ok (.ret .none), h =>
        show wpAny _ _ (newExc (.type "StopIteration") [] >>= _) _ _ _
        refine wpAny_bind ?_
        simp only [newExc, newTuple]
        refine wpAny_bind (wpAny_newObj_type ?_ (by size_fits))
        refine wpAny_bind (m := firstArgMember _ _) (wpAny_of_eq (a := Value.none) (by first | rfl | (simp only [firstArgMember]; rfl)) ?_)
        refine wpAny_newObj_type ?_ (by size_fits)
        simp only [raiseNew]
        refine wpAny_bind (wpAny_bind (wpAny_handled ?_))
        rw [show A.in1.handled = none from hh]
        refine wpAny_throw ?_
        refine h _ _ s₁.heap.objs.size ?_ ?_ (Heap.get?_push_size _ rfl) (fun b o e => Heap.get?_push_of_some _ (Heap.get?_push_of_some _ e))
        · show ((s₁.heap.push _).push _).objs.size = _
          rw [Heap.size_push, Heap.size_push]
        · rw [Heap.size_push]; exact Nat.le_succ _
end Mine
end Gn

section Gc
open PySem PySem.Calls PySem.W PySem.W.X PyProof.Rows
set_option Elab.async false
set_option maxRecDepth 100000
namespace Mine
theorem lit_step (l i : Nat) : Obj.mapFields (·.setIfInBounds 1 (rawInt (Int.ofNat i + 1))) (litObj l i) = litObj l (i + 1) := by
  unfold litObj Obj.mapFields
  rfl
theorem nextc_ok {V : Cfg} (O : CfgOk V) {st : St} {fr : Option (List Env)} {it l i c : Nat} {xs : Array Value} {x : Value} (h1 : st.base[1]? = some (it, litObj l i)) (h2 : (l, listObj xs c) ∈ st.base) (hx : xs[i]? = some x) :
    CtrOk V (nextCtr l i x) (.call (.builtin "list_iterator.__next__") ⟨[.ref it], []⟩) st fr := by
  intro A h R lo _ D q
  have ho := D.base _ (List.mem_of_getElem? h1)
  have hl := D.base _ h2
  refine lit_item ho hl hx ?_
  have D1 := D.setBase O (f := Obj.mapFields (·.setIfInBounds 1 (rawInt (Int.ofNat i + 1)))) h1 rfl
  have e : baseSet st.base 1 (litObj l (i + 1)) = st.base.set 1 (it, Obj.mapFields (·.setIfInBounds 1 (rawInt (Int.ofNat i + 1))) (litObj l i)) := by
    rw [baseSet_eq, h1, lit_step]
  refine q () _ ?_
  show Rep V _ { st with base := baseSet st.base 1 (litObj l (i + 1)) }
  rw [e]
  exact D1
theorem list_iter {prog : Program} {w : World} {A : Around} {s : Shared} {R : Result → Shared → Prop} {l c : Nat} {xs : Array Value} (hl : s.heap.get? l = some (listObj xs c))
    (z : R (.ok (.ret (.ref s.heap.objs.size))) { s with heap := s.heap.push (litObj l 0) }) : codeAny (model prog w) A (.call (.builtin "list.__iter__") ⟨[.ref l], []⟩) R s := by
  refine codeAny_call_builtin slot_list_iter.plain entry_list_iter (slot_list_iter.check _ _ _ _ _ _ _ _ ⟨_, hl, rfl⟩ (args_list_iter _) ?_)
  show wpAny _ _ (newFields "list_iterator" [.ref l, rawInt 0] >>= _) _ _ s
  unfold newFields
  exact wpAny_bind (wpAny_newObj_type (wpAny_pure z) (by size_fits))
/-- a new object is put into the base -/
theorem Rep.born {V : Cfg} {h : Heap} {st : St} (D : Rep V h st) (hn : st.n = 0) {o : Obj} (hf : o.isFreed = false) (ix : Nat) (j t : Nat) :
    Rep V (h.push o) ⟨st.base.take ix ++ (st.N, o) :: st.base.drop ix, [], 0, j, st.N + 1, t, st.g⟩ := by
  have hsz : h.objs.size = st.N := by have := D.size; rw [hn] at this; exact this
  have PM : (st.base.take ix ++ (st.N, o) :: st.base.drop ix).Perm ((st.N, o) :: st.base) := by
    refine List.perm_middle.trans ?_
    rw [List.take_append_drop]
  have cs : ∀ p ∈ (st.base.take ix ++ (st.N, o) :: st.base.drop ix), p = (st.N, o) ∨ p ∈ st.base := fun p hp => List.mem_cons.mp (PM.mem_iff.mp hp)
  refine ⟨by rw [Heap.size_push, hsz]; rfl, rfl, fun p hp => ?_, ?_, fun p hp => ?_, fun p hp => ?_, Nat.le_succ_of_le D.lowN, fun k _ hk => absurd hk (Nat.not_lt_zero k), fun b o' z => Heap.get?_push_of_some _ (D.keep b o' z), D.bare⟩
  · rcases cs p hp with rfl | hp
    · rw [← hsz]; exact Heap.get?_push_size _ hf
    · exact Heap.get?_push_of_some _ (D.base p hp)
  · refine (PM.map _).nodup_iff.mpr ?_
    rw [List.map_cons]
    refine List.nodup_cons.mpr ⟨fun hm => ?_, D.nod⟩
    obtain ⟨p, hp, e⟩ := List.mem_map.mp hm
    have := D.lt p hp
    rw [e] at this
    exact absurd this (Nat.lt_irrefl _)
  · rcases cs p hp with rfl | hp
    · exact Nat.lt_succ_self _
    · exact Nat.lt_succ_of_lt (D.lt p hp)
  · rcases cs p hp with rfl | hp
    · exact D.lowN
    · exact D.low p hp
theorem iterc_ok {V : Cfg} {st : St} {fr : Option (List Env)} {l c : Nat} {xs : Array Value} (h0 : st.n = 0) (h2 : (l, listObj xs c) ∈ st.base) :
    CtrOk V (iterCtr l) (.call (.builtin "list.__iter__") ⟨[.ref l], []⟩) st fr := by
  intro A h R lo _ D q
  have hl := D.base _ h2
  refine list_iter hl ?_
  have hsz : h.objs.size = st.N := by have := D.size; rw [h0] at this; exact this
  have e := q () (h.push (litObj l 0)) (D.born h0 rfl 1 st.j st.t)
  show R (.ok (.ret (.ref h.objs.size))) _
  rw [hsz]
  exact e
end Mine
end Gc

section Gd
open PySem PySem.Calls PySem.W PySem.W.X PyProof.Rows
set_option Elab.async false
set_option maxRecDepth 100000
namespace Mine
/-- a generator that sleeps with a closure -/
noncomputable def Sleeps (S : Susp) (gs : GenState) : Prop := ∃ p ps, ps.length = S.κ.length ∧ gs = .suspended S.k S.l S.c p (frs S.κ ps) false
set_option maxHeartbeats 0 in
theorem okF_gsF (w₀ : World) (b1 b2 : Bool) (w : World) (hw : w = wf w₀ b1 b2) (scr : Obj) (h₀ : Heap) (d : Drawn) (os : OsState) (fr it : Addr) : okF (gsF w scr h₀ d os fr it).κ = (true = true ∧ True) := by
  subst hw
  cases b1 <;> kernel_rfl
set_option maxHeartbeats 0 in
theorem okF_gsW (w₀ : World) (b1 b2 : Bool) (w : World) (hw : w = wf w₀ b1 b2) (scr : Obj) (h₀ : Heap) (d : Drawn) (os : OsState) (fr it : Addr) : okF (gsW w scr h₀ d os fr it).κ = (true = true ∧ true = true ∧ True) := by
  subst hw
  cases b1 <;> kernel_rfl
theorem Lo.in1 {A : Around} {D : Nat} (h : Lo A D) : Lo A.in1 (D + 5) := by
  refine ⟨?_, ?_, h.handled⟩
  · have := h.depth; show A.depth ≤ _; omega
  · have := h.units; show A.units + 1 ≤ _; omega
theorem bare_set {g : Array GenState} (h : AllBare g) {γ : Nat} {x : GenState} (hx : x.bare = true) : AllBare (g.setIfInBounds γ x) := by
  intro y hy
  rcases Array.mem_or_eq_of_mem_setIfInBounds hy with h1 | h1
  · exact h y h1
  · rw [h1]; exact hx
theorem Rep.gens {V : Cfg} {h : Heap} {base : Own} {nw : List (Option Obj)} {n j N t : Nat} {g g' : Array GenState} (D : Rep V h ⟨base, nw, n, j, N, t, g⟩) (hb : AllBare g') : Rep V h ⟨base, nw, n, j, N, t, g'⟩ :=
  ⟨D.size, D.len, D.base, D.nod, D.lt, D.low, D.lowN, D.new, D.keep, hb⟩
section
variable {w₀ : World} {b1 b2 : Bool} {w : World} (hw : w = wf w₀ b1 b2) {scr : Obj} {h₀ : Heap} (G : Grd w scr h₀) {d : Drawn} {os : OsState} {A : Around} (lo : Lo A 690) {R : Result → Shared → Prop}
    {fr it lst ga γ tn tq' k0 k1 k2 i tu tq c N t : Nat} {u q : Int} {uu : Value} {xs : Array Value} {g : Array GenState} {gs : GenState} {rest : Own} {h : Heap}
include hw G lo
theorem gen_call_next (hg : g[γ]? = some gs) (hs : Sleeps (gsF w scr h₀ d os fr it) gs) (hx : xs[i]? = some (.int q tq)) (h127 : (q == 127) = false) (hq0 : (q == 0) = false)
    (D : RepC w scr h₀ d os h ⟨(fr, genFr3 w.params k0 k1 k2 lst uu (.int u tu)) :: (it, litObj lst i) :: (lst, listObj xs c) :: (ga, genObj γ tn tq') :: rest, [], 0, 0, N, t, g⟩)
    (z : ∀ gs' h', Sleeps (gsF w scr h₀ d os fr it) gs' → RepC w scr h₀ d os h' ⟨(fr, genFr3 w.params k0 k1 k2 lst (.int u tu) (.int q tq)) :: (it, litObj lst (i + 1)) :: (lst, listObj xs c) :: (ga, genObj γ tn tq') :: rest, [], 0, 0, N, t + 3, g.setIfInBounds γ gs'⟩ → R (.ok (.ret (.int q tq))) ⟨h', g.setIfInBounds γ gs', d, t + 3, os⟩) :
    codeAny (model PySem.Challenge.pw_nq0197_01 w) A (.call (.builtin "generator.__next__") ⟨[.ref ga], []⟩) R ⟨h, g, d, t, os⟩ := by
  obtain ⟨p, ps, hps, rfl⟩ := hs
  have lo1 : Lo A.in1 700 := (lo.in1).le (by decide)
  have O : CfgOk (cfg w scr h₀ A.in1 700 R d os) := G.cfg lo1
  have D1 := D.cast (V' := cfg w scr h₀ A.in1 700 R d os) rfl rfl
  have ho := D1.base (ga, genObj γ tn tq') (.tail _ (.tail _ (.tail _ (.head _))))
  have D2 := D1.gens (bare_set (γ := γ) D1.bare (x := .running) rfl)
  refine gnext lo.handled (D1.lim O) (Nat.lt_of_le_of_lt lo.depth (by decide)) ho hg (.inr ⟨_, _, _, _, rfl, rfl⟩) ?_
  let PP : GEnd → Own → Nat → Nat → Nat → Array GenState → Prop := fun e B n N' tk g' => e = .susp (.int q tq) (gsF w scr h₀ d os fr it).l (gsF w scr h₀ d os fr it).k (gsF w scr h₀ d os fr it).c (gsF w scr h₀ d os fr it).κ ∧ B = (fr, genFr3 w.params k0 k1 k2 lst (.int u tu) (.int q tq)) :: (it, litObj lst (i + 1)) :: (lst, listObj xs c) :: (ga, genObj γ tn tq') :: rest ∧ n = 0 ∧ N' = N ∧ tk = t + 3 ∧ g' = g.setIfInBounds γ .running
  let HH : Nat → Code → St → Prop := fun k cc st => k = 1 ∧ cc = .call (.builtin "list_iterator.__next__") ⟨[.ref it], []⟩ ∧ st.base[1]? = some (it, litObj lst i) ∧ (lst, listObj xs c) ∈ st.base
  refine seg_by_run (V := cfg w scr h₀ A.in1 700 R d os) O (cs := [iterCtr lst, nextCtr lst i (.int q tq)]) (H := HH) (PP := fun e st => PP e st.base st.n st.N (st.t + st.j) st.g) (prim_ok _) (fun k C cc st fr' hi hh => ?_) (fun r st h' pp D' => ?_) (fun v l k cc κ st h' pp D' p ps hps => ?_) 100
    (Eq.mpr (gen_next w₀ b1 b2 w hw scr h₀ A.in1 R d os HH PP fr lst it k0 k1 k2 i tu tq 0 N t c u q 0 uu xs _ ((ga, genObj γ tn tq') :: rest)) ?_) D2 (by rw [okF_gsF w₀ b1 b2 w hw]; exact ⟨rfl, trivial⟩) hps
  · obtain ⟨rfl, rfl, h1, h2⟩ := hh
    simp at hi
    subst hi
    exact nextc_ok O h1 h2 hx
  · obtain ⟨e0, _⟩ := pp; cases e0
  · obtain ⟨e0, e1, e2, e3, e4, e5⟩ := pp
    cases e0
    obtain ⟨base, nw, n, j, N', t', g'⟩ := st
    simp only at e1 e2 e3 e4 e5 D' ⊢
    subst e1 e2 e3 e5
    have eg : (End.susp (.int q tq) false (gsF w scr h₀ d os fr it).l (gsF w scr h₀ d os fr it).k (gsF w scr h₀ d os fr it).c p (frs (gsF w scr h₀ d os fr it).κ ps)).genState = .suspended (gsF w scr h₀ d os fr it).k (gsF w scr h₀ d os fr it).l (gsF w scr h₀ d os fr it).c p (frs (gsF w scr h₀ d os fr it).κ ps) false := by
      show GenState.suspended _ _ _ _ _ (false || (frs _ ps).any Frame.guarded) = _
      rw [guard_frs]; rfl
    show R (.ok (.ret (.int q tq))) (Shared.setGen _ γ (End.susp (.int q tq) false (gsF w scr h₀ d os fr it).l (gsF w scr h₀ d os fr it).k (gsF w scr h₀ d os fr it).c p (frs (gsF w scr h₀ d os fr it).κ ps)).genState)
    rw [eg]
    have F := ((D'.anew (t + 3)).cast (V' := cfg w scr h₀ callerA 0 (fun _ _ => True) d os) rfl rfl).gens (g' := g.setIfInBounds γ (.suspended (gsF w scr h₀ d os fr it).k (gsF w scr h₀ d os fr it).l (gsF w scr h₀ d os fr it).c p (frs (gsF w scr h₀ d os fr it).κ ps) false)) (bare_set D.bare rfl)
    have y := z _ h' ⟨p, ps, hps, rfl⟩ F
    show R _ ⟨h', (g.setIfInBounds γ .running).setIfInBounds γ _, d, t' + j, os⟩
    rw [Array.setIfInBounds_setIfInBounds, e4]
    exact y
  · exact ⟨eqs_want _ _ _, trivial, ⟨rfl, rfl, rfl, .tail _ (.tail _ (.head _))⟩, fun _ => ⟨eqs_want _ _ _, ⟨⟨trivial, h127⟩, hq0⟩, rfl, rfl, rfl, rfl, rfl, rfl⟩⟩
theorem gen_call_end (hg : g[γ]? = some gs) (hs : Sleeps (gsF w scr h₀ d os fr it) gs) (hx : xs[i]? = some (.int q tq)) (h127 : (q == 127) = true)
    (D : RepC w scr h₀ d os h ⟨(fr, genFr3 w.params k0 k1 k2 lst uu (.int u tu)) :: (it, litObj lst i) :: (lst, listObj xs c) :: (ga, genObj γ tn tq') :: rest, [], 0, 0, N, t, g⟩)
    (z : ∀ h' ex tp, RepC w scr h₀ d os h' ⟨(ex, excObj "StopIteration" tp) :: (fr, genFr3 w.params k0 k1 k2 lst (.int u tu) (.int q tq)) :: (it, litObj lst (i + 1)) :: (lst, listObj xs c) :: (ga, genObj γ tn tq') :: rest, [], 0, 0, N + 2, t + 2, g.setIfInBounds γ .finished⟩ → R (.error (.ref ex)) ⟨h', g.setIfInBounds γ .finished, d, t + 2, os⟩) :
    codeAny (model PySem.Challenge.pw_nq0197_01 w) A (.call (.builtin "generator.__next__") ⟨[.ref ga], []⟩) R ⟨h, g, d, t, os⟩ := by
  obtain ⟨p, ps, hps, rfl⟩ := hs
  have lo1 : Lo A.in1 700 := (lo.in1).le (by decide)
  have O : CfgOk (cfg w scr h₀ A.in1 700 R d os) := G.cfg lo1
  have D1 := D.cast (V' := cfg w scr h₀ A.in1 700 R d os) rfl rfl
  have ho := D1.base (ga, genObj γ tn tq') (.tail _ (.tail _ (.tail _ (.head _))))
  have D2 := D1.gens (bare_set (γ := γ) D1.bare (x := .running) rfl)
  refine gnext lo.handled (D1.lim O) (Nat.lt_of_le_of_lt lo.depth (by decide)) ho hg (.inr ⟨_, _, _, _, rfl, rfl⟩) ?_
  let PP : GEnd → Own → Nat → Nat → Nat → Array GenState → Prop := fun e B n N' tk g' => e = .ret (.ok (.ret .none)) ∧ B = (fr, genFr3 w.params k0 k1 k2 lst (.int u tu) (.int q tq)) :: (it, litObj lst (i + 1)) :: (lst, listObj xs c) :: (ga, genObj γ tn tq') :: rest ∧ n = 0 ∧ N' = N ∧ tk = t + 2 ∧ g' = g.setIfInBounds γ .running
  let HH : Nat → Code → St → Prop := fun k cc st => k = 1 ∧ cc = .call (.builtin "list_iterator.__next__") ⟨[.ref it], []⟩ ∧ st.base[1]? = some (it, litObj lst i) ∧ (lst, listObj xs c) ∈ st.base
  refine seg_by_run (V := cfg w scr h₀ A.in1 700 R d os) O (cs := [iterCtr lst, nextCtr lst i (.int q tq)]) (H := HH) (PP := fun e st => PP e st.base st.n st.N (st.t + st.j) st.g) (prim_ok _) (fun k C cc st fr' hi hh => ?_) (fun r st h' pp D' => ?_) (fun v l k cc κ st h' pp D' p ps hps => ?_) 100
    (Eq.mpr (gen_end w₀ b1 b2 w hw scr h₀ A.in1 R d os HH PP fr lst it k0 k1 k2 i tu tq 0 N t c u q 0 uu xs _ ((ga, genObj γ tn tq') :: rest)) ?_) D2 (by rw [okF_gsF w₀ b1 b2 w hw]; exact ⟨rfl, trivial⟩) hps
  · obtain ⟨rfl, rfl, h1, h2⟩ := hh
    simp at hi
    subst hi
    exact nextc_ok O h1 h2 hx
  · obtain ⟨e0, e1, e2, e3, e4, e5⟩ := pp
    cases e0
    obtain ⟨base, nw, n, j, N', t', g'⟩ := st
    simp only at e1 e2 e3 e4 e5 D' ⊢
    subst e1 e2 e3 e5
    intro h2 ex tp hz hex he hk
    have F := (D'.anew (t + 2)).cast (V' := cfg w scr h₀ callerA 0 (fun _ _ => True) d os) rfl rfl
    have hsz : h'.objs.size = N' := F.size
    have F2 := (F.next (h' := h2) (fun b o q => hk b o (F.keep b o q)) (base' := (ex, excObj "StopIteration" tp) :: (fr, genFr3 w.params k0 k1 k2 lst (.int u tu) (.int q tq)) :: (it, litObj lst (i + 1)) :: (lst, listObj xs c) :: (ga, genObj γ tn tq') :: rest) (fun p hp => ?_) ?_ (fun p hp => ?_) ?_ 0 (t + 2)).gens (g' := g.setIfInBounds γ .finished) (bare_set D.bare rfl)
    · have y := z h2 ex tp (by rw [hz, hsz] at F2; exact F2)
      show R _ ⟨h2, (g.setIfInBounds γ .running).setIfInBounds γ .finished, d, t' + j, os⟩
      rw [Array.setIfInBounds_setIfInBounds, e4]
      exact y
    · rcases List.mem_cons.mp hp with rfl | hp
      · exact he
      · exact hk _ _ (F.base p hp)
    · refine List.nodup_cons.mpr ⟨fun hm => ?_, F.nod⟩
      obtain ⟨p, hp, e⟩ := List.mem_map.mp hm
      have := F.lt p hp
      rw [e] at this
      exact absurd hex (by rw [hsz]; exact Nat.not_le.mpr this)
    · rcases List.mem_cons.mp hp with rfl | hp
      · exact Nat.le_trans F.lowN (by rw [← hsz]; exact hex)
      · exact F.low p hp
    · rw [hz, hsz]; exact Nat.le_trans F.lowN (Nat.le_add_right _ _)
  · obtain ⟨e0, _⟩ := pp; cases e0
  · exact ⟨eqs_want _ _ _, trivial, ⟨rfl, rfl, rfl, .tail _ (.tail _ (.head _))⟩, fun _ => ⟨eqs_want _ _ _, ⟨trivial, h127⟩, rfl, rfl, rfl, rfl, rfl, rfl⟩⟩
theorem gen_call_zero (hg : g[γ]? = some gs) (hs : Sleeps (gsF w scr h₀ d os fr it) gs) (hx : xs[i]? = some (.int q tq)) (h127 : (q == 127) = false) (hq0 : (q == 0) = true)
    (D : RepC w scr h₀ d os h ⟨(fr, genFr3 w.params k0 k1 k2 lst uu (.int u tu)) :: (it, litObj lst i) :: (lst, listObj xs c) :: (ga, genObj γ tn tq') :: rest, [], 0, 0, N, t, g⟩)
    (z : ∀ gs' h', Sleeps (gsW w scr h₀ d os fr it) gs' → RepC w scr h₀ d os h' ⟨(fr, genFr3 w.params k0 k1 k2 lst (.int u tu) (.int q tq)) :: (it, litObj lst (i + 1)) :: (lst, listObj xs c) :: (ga, genObj γ tn tq') :: rest, [], 0, 0, N, t + 3, g.setIfInBounds γ gs'⟩ → R (.ok (.ret (.int u tu))) ⟨h', g.setIfInBounds γ gs', d, t + 3, os⟩) :
    codeAny (model PySem.Challenge.pw_nq0197_01 w) A (.call (.builtin "generator.__next__") ⟨[.ref ga], []⟩) R ⟨h, g, d, t, os⟩ := by
  obtain ⟨p, ps, hps, rfl⟩ := hs
  have lo1 : Lo A.in1 700 := (lo.in1).le (by decide)
  have O : CfgOk (cfg w scr h₀ A.in1 700 R d os) := G.cfg lo1
  have D1 := D.cast (V' := cfg w scr h₀ A.in1 700 R d os) rfl rfl
  have ho := D1.base (ga, genObj γ tn tq') (.tail _ (.tail _ (.tail _ (.head _))))
  have D2 := D1.gens (bare_set (γ := γ) D1.bare (x := .running) rfl)
  refine gnext lo.handled (D1.lim O) (Nat.lt_of_le_of_lt lo.depth (by decide)) ho hg (.inr ⟨_, _, _, _, rfl, rfl⟩) ?_
  let PP : GEnd → Own → Nat → Nat → Nat → Array GenState → Prop := fun e B n N' tk g' => e = .susp (.int u tu) (gsW w scr h₀ d os fr it).l (gsW w scr h₀ d os fr it).k (gsW w scr h₀ d os fr it).c (gsW w scr h₀ d os fr it).κ ∧ B = (fr, genFr3 w.params k0 k1 k2 lst (.int u tu) (.int q tq)) :: (it, litObj lst (i + 1)) :: (lst, listObj xs c) :: (ga, genObj γ tn tq') :: rest ∧ n = 0 ∧ N' = N ∧ tk = t + 3 ∧ g' = g.setIfInBounds γ .running
  let HH : Nat → Code → St → Prop := fun k cc st => k = 1 ∧ cc = .call (.builtin "list_iterator.__next__") ⟨[.ref it], []⟩ ∧ st.base[1]? = some (it, litObj lst i) ∧ (lst, listObj xs c) ∈ st.base
  refine seg_by_run (V := cfg w scr h₀ A.in1 700 R d os) O (cs := [iterCtr lst, nextCtr lst i (.int q tq)]) (H := HH) (PP := fun e st => PP e st.base st.n st.N (st.t + st.j) st.g) (prim_ok _) (fun k C cc st fr' hi hh => ?_) (fun r st h' pp D' => ?_) (fun v l k cc κ st h' pp D' p ps hps => ?_) 100
    (Eq.mpr (gen_zero w₀ b1 b2 w hw scr h₀ A.in1 R d os HH PP fr lst it k0 k1 k2 i tu tq N t c u q uu xs _ ((ga, genObj γ tn tq') :: rest)) ?_) D2 (by rw [okF_gsF w₀ b1 b2 w hw]; exact ⟨rfl, trivial⟩) hps
  · obtain ⟨rfl, rfl, h1, h2⟩ := hh
    simp at hi
    subst hi
    exact nextc_ok O h1 h2 hx
  · obtain ⟨e0, _⟩ := pp; cases e0
  · obtain ⟨e0, e1, e2, e3, e4, e5⟩ := pp
    cases e0
    obtain ⟨base, nw, n, j, N', t', g'⟩ := st
    simp only at e1 e2 e3 e4 e5 D' ⊢
    subst e1 e2 e3 e5
    have eg : (End.susp (.int u tu) false (gsW w scr h₀ d os fr it).l (gsW w scr h₀ d os fr it).k (gsW w scr h₀ d os fr it).c p (frs (gsW w scr h₀ d os fr it).κ ps)).genState = .suspended (gsW w scr h₀ d os fr it).k (gsW w scr h₀ d os fr it).l (gsW w scr h₀ d os fr it).c p (frs (gsW w scr h₀ d os fr it).κ ps) false := by
      show GenState.suspended _ _ _ _ _ (false || (frs _ ps).any Frame.guarded) = _
      rw [guard_frs]; rfl
    show R (.ok (.ret (.int u tu))) (Shared.setGen _ γ (End.susp (.int u tu) false (gsW w scr h₀ d os fr it).l (gsW w scr h₀ d os fr it).k (gsW w scr h₀ d os fr it).c p (frs (gsW w scr h₀ d os fr it).κ ps)).genState)
    rw [eg]
    have F := ((D'.anew (t + 3)).cast (V' := cfg w scr h₀ callerA 0 (fun _ _ => True) d os) rfl rfl).gens (g' := g.setIfInBounds γ (.suspended (gsW w scr h₀ d os fr it).k (gsW w scr h₀ d os fr it).l (gsW w scr h₀ d os fr it).c p (frs (gsW w scr h₀ d os fr it).κ ps) false)) (bare_set D.bare rfl)
    have y := z _ h' ⟨p, ps, hps, rfl⟩ F
    show R _ ⟨h', (g.setIfInBounds γ .running).setIfInBounds γ _, d, t' + j, os⟩
    rw [Array.setIfInBounds_setIfInBounds, e4]
    exact y
  · exact ⟨eqs_want _ _ _, trivial, ⟨rfl, rfl, rfl, .tail _ (.tail _ (.head _))⟩, fun _ => ⟨eqs_want _ _ _, ⟨⟨trivial, h127⟩, hq0⟩, rfl, rfl, rfl, rfl, rfl, rfl⟩⟩
end
end Mine
end Gd

section Pr2
open PySem PySem.Calls PySem.W PySem.W.X PyProof.Rows
set_option Elab.async false
set_option maxRecDepth 100000
namespace Mine
/-- products, quotients, remainders -/
noncomputable def primZ (n : Nat) (x y : Int) (tk : Nat) : Option (Result × Nat × Prop) :=
  match Nat.beq n 116512245094328231196454762 with
  | true => some (.ok (.ret (.int (x * y) tk)), 1, -100000 < x ∧ x < 100000)
  | false => match Nat.beq n 128106770130096871752080967664072486762 with
    | true => some (.ok (.ret (.int (x.fdiv y) tk)), 1, 0 < y ∧ y < 100000)
    | false => match Nat.beq n 116512097088030077292474218 with
      | true => some (.ok (.ret (.int (x.fmod y) tk)), 1, (y == 0) = false)
      | false => none
noncomputable def primB (h : Nat) (c : Code) (tk : Nat) : Option (Result × Nat × Prop) := match Nat.beq h 1 with
  | false => none
  | true => match c with
    | .call f args => match f with
      | .builtin id => match args with
        | ⟨pos, kw⟩ => match kw with
          | [] => match pos with
            | [v, u] => match v with
              | .int x _ => match u with
                | .int y _ => primZ (S.codeS id) x y tk
                | _ => none
              | _ => none
            | _ => none
          | _ => none
      | _ => none
    | _ => none
noncomputable def primA (h : Nat) (c : Code) (tk : Nat) : Option (Result × Nat × Prop) := match primB h c tk with
  | some r => some r
  | none => primQ h c tk
section
variable {prog : Program} {w : World} {A : Around} {s : Shared} {R : Result → Shared → Prop}
theorem pylong_small (x y : Int) (h0 : 0 < y) (h : y < 100000) : ¬ (Builtin.divisionGoesByPylong x y) = true := by
  unfold Builtin.divisionGoesByPylong
  have hy : y.natAbs < 100000 := by omega
  have hl : y.natAbs.log2 < 17 := by
    rcases Nat.eq_zero_or_pos y.natAbs with h1 | h1
    · omega
    · exact (Nat.log2_lt (by omega)).mpr (by omega)
  have e : (if y == 0 then 0 else y.natAbs.log2 / 30 + 1) ≤ 1 := by split <;> omega
  simp only [Bool.and_eq_true, decide_eq_true_eq]
  omega
theorem p_mul (x y : Int) (t1 t2 : Nat) (h1 : -100000 < x) (h2 : x < 100000) (z : Back s R (.ok (.ret (.int (x * y) s.toks))) 1) :
    codeAny (model prog w) A (.call (.builtin "int.__mul__") ⟨[.int x t1, .int y t2], []⟩) R s :=
  codeAny_call_builtin F.slot_int_mul.plain F.entry_int_mul (F.slot_int_mul.check _ _ _ _ _ _ _ _ (typeIs_int s x t1) (F.args_int_mul_2 _ _)
    (AutoIntG1.int___mul___int_int_0 x t1 y t2 (IntMulOk.of_left (PySem.intBits_le_64 (by omega) (by omega))) prog w A R s (z s.heap rfl fun _ _ e => e)))
theorem p_fdiv (x y : Int) (t1 t2 : Nat) (h1 : 0 < y) (h2 : y < 100000) (z : Back s R (.ok (.ret (.int (x.fdiv y) s.toks))) 1) :
    codeAny (model prog w) A (.call (.builtin "int.__floordiv__") ⟨[.int x t1, .int y t2], []⟩) R s :=
  codeAny_call_builtin F.slot_int_floordiv.plain F.entry_int_floordiv (F.slot_int_floordiv.check _ _ _ _ _ _ _ _ (typeIs_int s x t1) (F.args_int_floordiv_2 _ _)
    (AutoIntG4.int___floordiv___int_int_1 x t1 y t2 (by simp; omega) (pylong_small x y h1 h2) prog w A R s (z s.heap rfl fun _ _ e => e)))
theorem p_fmod (x y : Int) (t1 t2 : Nat) (h1 : (y == 0) = false) (z : Back s R (.ok (.ret (.int (x.fmod y) s.toks))) 1) :
    codeAny (model prog w) A (.call (.builtin "int.__mod__") ⟨[.int x t1, .int y t2], []⟩) R s :=
  codeAny_call_builtin F.slot_int_mod.plain F.entry_int_mod (F.slot_int_mod.check _ _ _ _ _ _ _ _ (typeIs_int s x t1) (F.args_int_mod_2 _ _)
    (AutoIntG6.int___mod___int_int_1 x t1 y t2 (by rw [h1]; simp) prog w A R s (z s.heap rfl fun _ _ e => e)))
end
theorem primB_ok (V : Cfg) : PrimOk V primB := by
  intro i c tk r e q hp hq A D s R lo ht hl hb z
  unfold primB at hp
  split at hp
  · cases hp
  split at hp
  · split at hp
    · split at hp
      split at hp
      · split at hp
        · split at hp
          · split at hp
            · rename_i x t1 _ y t2 
              unfold primZ at hp
              split at hp
              · rename_i hh
                cases id_of hh (by decide +kernel : S.codeS "int.__mul__" = _)
                cases hp
                subst ht
                exact p_mul _ _ _ _ hq.1 hq.2 z
              · split at hp
                · rename_i hh
                  cases id_of hh (by decide +kernel : S.codeS "int.__floordiv__" = _)
                  cases hp
                  subst ht
                  exact p_fdiv _ _ _ _ hq.1 hq.2 z
                · split at hp
                  · rename_i hh
                    cases id_of hh (by decide +kernel : S.codeS "int.__mod__" = _)
                    cases hp
                    subst ht
                    exact p_fmod _ _ _ _ hq z
                  · cases hp
            · cases hp
          · cases hp
        · cases hp
      · cases hp
    · cases hp
  · cases hp
theorem primA_ok (V : Cfg) : PrimOk V primA := by
  intro i c tk r e q hp hq
  unfold primA at hp
  split at hp
  · rename_i r' e'
    cases hp
    exact primB_ok V _ _ _ _ _ _ e' hq
  · exact prim_ok V _ _ _ _ _ _ hp hq
end Mine
end Pr2

section Bl
open PySem PySem.Calls PySem.W PySem.W.X PyProof.Rows
set_option Elab.async false
set_option maxRecDepth 100000
namespace Mine
/-- what stands where a hint points: 2 i + 1 the base's i-th, 2 k + 2 the k-th new one -/
noncomputable def lookS (st : St) (h : Nat) : Option (Addr × Obj) := match pick h with
  | .old => none
  | .base i => baseAt st.base i
  | .new k => match Nat.blt k st.n with
    | true => match nwAt st.nw (st.n - 1 - k) with
      | some o => some (st.N + k, o)
      | none => none
    | false => none
noncomputable def putS (st : St) (h : Nat) (o : Obj) : St :=
  { st with
    base := match pick h with
      | .base i => baseSet st.base i o
      | _ => st.base
    nw := match pick h with
      | .new k => nwSet st.nw (st.n - 1 - k) o
      | _ => st.nw }
section
variable {V : Cfg} {h : Heap} {st : St}
theorem Rep.look (D : Rep V h st) {k : Nat} {p : Addr × Obj} (e : lookS st k = some p) : h.get? p.1 = some p.2 := by
  unfold lookS at e
  split at e
  · cases e
  · rw [baseAt_eq] at e
    exact D.base p (List.mem_of_getElem? e)
  · rename_i i _
    split at e
    · rename_i hlt
      split at e
      · rename_i o ho
        cases e
        rw [nwAt_eq] at ho
        exact D.new i o (blt_true hlt) (by revert ho; cases st.nw[st.n - 1 - i]? <;> simp)
      · cases e
    · cases e
theorem Rep.put (O : CfgOk V) (D : Rep V h st) {k : Nat} {p : Addr × Obj} {f : Obj → Obj} (e : lookS st k = some p) (hf : (f p.2).isFreed = false) : Rep V (h.update p.1 f) (putS st k (f p.2)) := by
  unfold lookS at e
  unfold putS
  split at e
  · cases e
  · rename_i i hi
    rw [baseAt_eq] at e
    rw [hi]
    show Rep V _ { st with base := baseSet st.base i (f p.2) }
    rw [baseSet_eq, e]
    exact D.setBase O e hf
  · rename_i i hi
    split at e
    · rename_i hlt
      split at e
      · rename_i o ho
        cases e
        rw [hi]
        show Rep V _ { st with nw := nwSet st.nw (st.n - 1 - i) (f o) }
        rw [nwSet_eq]
        rw [nwAt_eq] at ho
        have := D.setNew O (i := i) (o := o) (f := f) (blt_true hlt) (by revert ho; cases st.nw[st.n - 1 - i]? <;> simp) hf
        exact this
      · cases e
    · cases e
/-- the new objects first -/
theorem Rep.flat2 (D : Rep V h st) : Rep V h ⟨news st.N st.nw ++ st.base, [], 0, 0, st.N + st.n, st.t + st.j, st.g⟩ :=
  D.flat.perm (List.perm_append_comm)
/-- some of the base, by their places, and the tail of it -/
theorem Rep.arr {B : Own} {j j' N t t' : Nat} {g : Array GenState} (D : Rep V h ⟨B, [], 0, j, N, t, g⟩) (is : List Nat) (k : Nat) (hnd : is.Nodup) (hlt : ∀ i ∈ is, i < k) : Rep V h ⟨is.filterMap (fun i => B[i]?) ++ B.drop k, [], 0, j', N, t', g⟩ := by
  have key : ∀ (is : List Nat), is.Nodup → (∀ i ∈ is, i < k) → ((is.filterMap (fun i => B[i]?) ++ B.drop k).map (·.1)).Nodup := by
    intro is hnd hlt
    have nod : (B.map (·.1)).Nodup := D.nod
    have inj : ∀ (i j : Nat) (p q : Addr × Obj), B[i]? = some p → B[j]? = some q → p.1 = q.1 → i = j := by
      intro i j p q hi hj e
      obtain ⟨hi1, hi2⟩ := List.getElem?_eq_some_iff.mp hi
      obtain ⟨hj1, hj2⟩ := List.getElem?_eq_some_iff.mp hj
      have := List.nodup_iff_pairwise_ne.mp nod
      have hp := List.pairwise_iff_getElem.mp this
      by_cases hij : i = j
      · exact hij
      · exfalso
        rcases Nat.lt_or_gt_of_ne hij with hlt | hlt
        · exact hp i j (by simpa using hi1) (by simpa using hj1) hlt (by simp [hi2, hj2, e])
        · exact hp j i (by simpa using hj1) (by simpa using hi1) hlt (by simp [hi2, hj2, e])
    induction is with
    | nil =>
      show ((B.drop k).map (·.1)).Nodup
      exact ((List.drop_sublist k B).map _).nodup nod
    | cons i is ih =>
      have ih := ih (List.nodup_cons.mp hnd).2 fun i hi => hlt i (.tail _ hi)
      rw [List.filterMap_cons]
      cases hi : B[i]? with
      | none => exact ih
      | some p =>
        show (p.1 :: (is.filterMap (fun i => B[i]?) ++ B.drop k).map (·.1)).Nodup
        refine List.nodup_cons.mpr ⟨fun hm => ?_, ih⟩
        obtain ⟨q, hq, e⟩ := List.mem_map.mp hm
        rcases List.mem_append.mp hq with hq | hq
        · obtain ⟨j, hj, hj2⟩ := List.mem_filterMap.mp hq
          have := inj i j p q hi hj2 e.symm
          subst this
          exact (List.nodup_cons.mp hnd).1 hj
        · obtain ⟨j, hj, hj2⟩ := List.getElem_of_mem hq
          have h3 : B[k + j]? = some q := by
            rw [List.getElem_drop] at hj2
            exact List.getElem?_eq_some_iff.mpr ⟨_, hj2⟩
          have := inj i (k + j) p q hi h3 e.symm
          have := hlt i (.head _)
          omega
  refine D.sub (fun p hp => ?_) (key is hnd hlt)
  rcases List.mem_append.mp hp with hp | hp
  · obtain ⟨i, _, hi⟩ := List.mem_filterMap.mp hp
    exact List.mem_of_getElem? hi
  · exact List.mem_of_mem_drop hp
/-- back into the words of new objects -/
theorem Rep.fold {B base : Own} {nw : List (Option Obj)} {n N N' j j' t t' : Nat} {g : Array GenState} (D : Rep V h ⟨B, [], 0, j', N', t', g⟩) (eN : N' = N + n) (hlen : nw.length = n) (lowN : V.n₁ ≤ N) (hlt : ∀ p ∈ base, p.1 < N) (hnod : (base.map (·.1)).Nodup)
    (hb : ∀ p ∈ base, p ∈ B) (is : List Nat) (hn : news N nw = is.filterMap (fun i => B[i]?)) : Rep V h ⟨base, nw, n, j, N, t, g⟩ := by
  refine ⟨by rw [D.size, eN]; rfl, hlen, fun p hp => D.base p (hb p hp), hnod, hlt, fun p hp => D.low p (hb p hp), lowN, fun k o hk e => ?_, D.keep, D.bare⟩
  simp only at hk e
  rw [← hlen] at hk e
  have m := mem_news (N := N) hk e
  rw [hn] at m
  obtain ⟨i, _, hi⟩ := List.mem_filterMap.mp m
  exact D.base _ (List.mem_of_getElem? hi)
end
/-- what stands behind a segment -/
noncomputable abbrev segPP (w : World) (scr : Obj) (h₀ : Heap) (A : Around) (R : Result → Shared → Prop) (d : Drawn) (os : OsState) : Result ⊕ Code → Own → Nat → Nat → Nat → Array GenState → Prop :=
  fun r B n N' tk g' => ∀ h', RepC w scr h₀ d os h' ⟨B, [], 0, 0, N' + n, tk, g'⟩ → match r with
    | .inl r => R r ⟨h', g', d, tk, os⟩
    | .inr c => codeAny (model PySem.Challenge.pw_nq0197_01 w) A c R ⟨h', g', d, tk, os⟩
/-- a segment's contracts are asked for what stands at their places -/
noncomputable abbrev seen (pk : Nat → List Nat) (HH : Nat → Code → List (Option (Addr × Obj)) → Prop) : Nat → Code → St → Option (List Env) → Prop := fun i c st _ => HH i c ((pk i).map (lookS st))
/-- a segment -/
noncomputable abbrev SegGoal (w : World) (scr : Obj) (h₀ : Heap) (A : Around) (D : Nat) (R : Result → Shared → Prop) (d : Drawn) (os : OsState) (cs : List Ctr) (H : Nat → Code → St → Option (List Env) → Prop) (PP : Result ⊕ Code → Own → Nat → Nat → Nat → Array GenState → Prop) (m : Nat)
    (c : Code) (hl : List Nat) (hs : List (List Nat)) (hc : List Nat) (base : Own) (N t : Nat) (g : Array GenState) : Prop :=
  evCode (cfg w scr h₀ A D R d os) (Mine.run (cfg w scr h₀ A D R d os) cs H primA (view PP) m) c hl hs hc [] True base [] 0 0 N t g []
theorem seg_run {w : World} {scr : Obj} {h₀ : Heap} (G : Grd w scr h₀) {A : Around} {D : Nat} {R : Result → Shared → Prop} {d : Drawn} {os : OsState} (lo : Lo A D) {cs : List Ctr} {H : Nat → Code → St → Option (List Env) → Prop} {m : Nat}
    {c : Code} {hl : List Nat} {hs : List (List Nat)} {hc : List Nat} {base : Own} {N t : Nat} {g : Array GenState} {h : Heap}
    (hC : ∀ i C c st fr, cs[i]? = some C → H i c st fr → CtrOk (cfg w scr h₀ A D R d os) C c st fr)
    (X : SegGoal w scr h₀ A D R d os cs H (segPP w scr h₀ A R d os) m c hl hs hc base N t g)
    (D : RepC w scr h₀ d os h ⟨base, [], 0, 0, N, t, g⟩) : codeAny (model PySem.Challenge.pw_nq0197_01 w) A c R ⟨h, g, d, t, os⟩ := by
  refine code_by_run (G.cfg lo) (primA_ok _) hC (fun r st h' p D' => ?_) (fun c st h' p D' => ?_) m X (D.cast rfl rfl)
  · exact p h' ((D'.anew _).cast rfl rfl)
  · exact p h' ((D'.anew _).cast rfl rfl)
/-- a built-in that gives a value -/
noncomputable abbrev valCtr (v : Value) : Ctr := { X := Unit, D := 900, resp := fun _ st => (.ok (.ret v), st) }
/-- a built-in that makes an object -/
noncomputable abbrev pushCtr (o : Obj) : Ctr := { X := Unit, D := 900, resp := fun _ st => (.ok (.ret (.ref (st.N + st.n))), { st with nw := some o :: st.nw, n := st.n + 1 }) }
/-- a built-in that changes an object -/
noncomputable abbrev putCtr (v : Value) (h : Nat) (o : Obj) : Ctr := { X := Unit, D := 900, resp := fun _ st => (.ok (.ret v), putS st h o) }
section
variable {V : Cfg} {st : St} {fr : Option (List Env)}
theorem code_meets {prog : Program} {w : World} {A : Around} {R : Result → Shared → Prop} {s : Shared} {T : String} {name : Str} {id : String} {B : Builtin} {self : Value} {rest : List Value} {S : PySem.Spec} (slot : Slot T name id) (hT : s.TypeIs self T)
    (entry : entryFor table id = some B) (args : argsOk id ⟨self :: rest, []⟩) (g : Meets (B ⟨self :: rest, []⟩) S) (h : S A R s) :
    codeAny (model prog w) A (.call (.builtin id) ⟨self :: rest, []⟩) R s :=
  codeAny_call_builtin slot.plain entry (slot.check _ _ _ _ _ _ _ _ hT args (g prog w A R s h))
/-- a list that grows -/
noncomputable abbrev appCtr (k : Nat) (ys : Array Value) : Ctr := { X := Nat, D := 900, resp := fun c st => (.ok (.ret .none), putS st k (listObj ys c)) }
theorem append_ok (O : CfgOk V) {k l c : Nat} {xs : Array Value} {x : Value} (e : lookS st k = some (l, listObj xs c)) (hz : xs.size ≤ sizeLine) :
    CtrOk V (appCtr k (xs.push x)) (.call (.builtin "list.append") ⟨[.ref l, x], []⟩) st fr := by
  intro A h R lo _ D q
  have hl := D.look e
  refine code_meets slot_list_append ⟨_, hl, rfl⟩ entry_list_append (args_list_append _ _) (AutoListH.list_append_list_val_0 l xs c x hz) ⟨hl, ?_⟩
  obtain ⟨c', e'⟩ := mapSeq_list xs c (fun y => y.push x)
  have D2 := D.put O (f := Obj.mapSeq fun y => y.push x) e rfl
  rw [e'] at D2
  exact q c' _ D2
theorem mul_ok {k l c : Nat} {xs : Array Value} {x : Int} {u : Nat} (e : lookS st k = some (l, listObj xs c)) (h0 : xs.isEmpty = false) (hx : 0 ≤ x) (hz : xs.size * x.toNat < 10000) (hx2 : x < 10000) :
    CtrOk V (pushCtr (listObj (List.foldl (fun x1 x2 => x1 ++ x2) #[] (List.replicate x.toNat xs)) 0)) (.call (.builtin "list.__mul__") ⟨[.ref l, .int x u], []⟩) st fr := by
  intro A h R lo _ D q
  have hl := D.look e
  have hsz : h.objs.size = st.N + st.n := D.size
  refine code_meets F.slot_list_mul ⟨_, hl, rfl⟩ F.entry_list_mul (F.args_list_mul_2 _ _) (AutoListH.list___mul___list_int_3 l xs c x u (by simp [Builtin.List.listFitsIndex]; omega) (by omega) (by simp [Builtin.List.listTooLong, sizeLine]; omega)) ⟨hl, ?_⟩
  rw [h0]
  have e2 := q () _ (D.alloc (o := listObj (List.foldl (fun x1 x2 => x1 ++ x2) #[] (List.replicate x.toNat xs)) 0) rfl _ _ rfl rfl)
  show R (.ok (.ret (.ref h.objs.size))) _
  rw [hsz]
  exact e2
theorem add_ok {k l c k2 l2 c2 : Nat} {xs ys : Array Value} (e : lookS st k = some (l, listObj xs c)) (e2 : lookS st k2 = some (l2, listObj ys c2)) (hz : xs.size + ys.size ≤ sizeLine) :
    CtrOk V (pushCtr (listObj (xs ++ ys) 0)) (.call (.builtin "list.__add__") ⟨[.ref l, .ref l2], []⟩) st fr := by
  intro A h R lo _ D q
  have hl := D.look e
  have hl2 := D.look e2
  have hsz : h.objs.size = st.N + st.n := D.size
  refine code_meets F.slot_list_add ⟨_, hl, rfl⟩ F.entry_list_add (F.args_list_add_2 _ _) (AutoSeq1.list___add___list_list_0 l xs c l2 ys c2 hz) ⟨hl, hl2, ?_⟩
  have e2 := q () _ (D.alloc (o := listObj (xs ++ ys) 0) rfl _ _ rfl rfl)
  show R (.ok (.ret (.ref h.objs.size))) _
  rw [hsz]
  exact e2
end
end Mine
end Bl

section Ge
open PySem PySem.Calls PySem.W PySem.W.X PyProof.Rows
set_option Elab.async false
set_option maxRecDepth 100000
namespace Mine
section
variable {w₀ : World} {b1 b2 : Bool} {w : World} (hw : w = wf w₀ b1 b2) {scr : Obj} {h₀ : Heap} (G : Grd w scr h₀) {d : Drawn} {os : OsState} {A : Around} (lo : Lo A 690) {R : Result → Shared → Prop}
    {fr it lst ga γ tn tq' k0 k1 k2 i tu tq c N t : Nat} {u q : Int} {uu : Value} {xs : Array Value} {g : Array GenState} {gs : GenState} {rest : Own} {h : Heap}
include hw G lo
theorem gen_call_fresh (hg : g[γ]? = some (.fresh (genCode w.params fr))) (hx : xs[0]? = some (.int q tq)) (h127 : (q == 127) = false) (hq0 : (q == 0) = false)
    (D : RepC w scr h₀ d os h ⟨(fr, genFr1 w.params k0 lst) :: (lst, listObj xs c) :: (ga, genObj γ tn tq') :: rest, [], 0, 0, N, t, g⟩)
    (z : ∀ gs' h', Sleeps (gsF w scr h₀ d os fr N) gs' → RepC w scr h₀ d os h' ⟨(fr, genFr3 w.params k0 t (t + 1) lst .none (.int q tq)) :: (N, litObj lst 1) :: (lst, listObj xs c) :: (ga, genObj γ tn tq') :: rest, [], 0, 0, N + 1, t + 3, g.setIfInBounds γ gs'⟩ → R (.ok (.ret (.int q tq))) ⟨h', g.setIfInBounds γ gs', d, t + 3, os⟩) :
    codeAny (model PySem.Challenge.pw_nq0197_01 w) A (.call (.builtin "generator.__next__") ⟨[.ref ga], []⟩) R ⟨h, g, d, t, os⟩ := by
  have lo1 : Lo A.in1 700 := (lo.in1).le (by decide)
  have O : CfgOk (cfg w scr h₀ A.in1 700 R d os) := G.cfg lo1
  have D1 := D.cast (V' := cfg w scr h₀ A.in1 700 R d os) rfl rfl
  have ho := D1.base (ga, genObj γ tn tq') (.tail _ (.tail _ (.head _)))
  have D2 := D1.gens (bare_set (γ := γ) D1.bare (x := .running) rfl)
  refine gnext lo.handled (D1.lim O) (Nat.lt_of_le_of_lt lo.depth (by decide)) ho hg (.inl ⟨rfl, rfl, rfl⟩) ?_
  let PP : GEnd → Own → Nat → Nat → Nat → Array GenState → Prop := fun e B n N' tk g' => e = .susp (.int q tq) (gsF w scr h₀ d os fr N).l (gsF w scr h₀ d os fr N).k (gsF w scr h₀ d os fr N).c (gsF w scr h₀ d os fr N).κ ∧ B = (fr, genFr3 w.params k0 t (t + 1) lst .none (.int q tq)) :: (N, litObj lst 1) :: (lst, listObj xs c) :: (ga, genObj γ tn tq') :: rest ∧ n = 0 ∧ N' = N + 1 ∧ tk = t + 3 ∧ g' = g.setIfInBounds γ .running
  let HH : Nat → Code → St → Prop := fun k cc st => match k with
    | 0 => cc = .call (.builtin "list.__iter__") ⟨[.ref lst], []⟩ ∧ st.n = 0 ∧ (lst, listObj xs c) ∈ st.base
    | _ => k = 1 ∧ cc = .call (.builtin "list_iterator.__next__") ⟨[.ref N], []⟩ ∧ st.base[1]? = some (N, litObj lst 0) ∧ (lst, listObj xs c) ∈ st.base
  rw [dz_eq]
  refine seg_by_run (ps := []) (κ := []) (V := cfg w scr h₀ A.in1 700 R d os) O (cs := [iterCtr lst, nextCtr lst 0 (.int q tq)]) (H := HH) (PP := fun e st => PP e st.base st.n st.N (st.t + st.j) st.g) (prim_ok _) (fun k C cc st fr' hi hh => ?_) (fun r st h' pp D' => ?_) (fun v l k cc κ st h' pp D' p ps hps => ?_) 100
    (Eq.mpr (gen_fresh w₀ b1 b2 w hw scr h₀ A.in1 R d os HH PP fr lst k0 tq N t c q xs _ ((ga, genObj γ tn tq') :: rest)) ?_) D2 trivial rfl
  · match k, hh with
    | 0, hh =>
      obtain ⟨rfl, h1, h2⟩ := hh
      simp at hi
      subst hi
      exact iterc_ok h1 h2
    | k + 1, hh =>
      obtain ⟨e1, rfl, h1, h2⟩ := hh
      cases e1
      simp at hi
      subst hi
      exact nextc_ok O h1 h2 hx
  · obtain ⟨e0, _⟩ := pp; cases e0
  · obtain ⟨e0, e1, e2, e3, e4, e5⟩ := pp
    cases e0
    obtain ⟨base, nw, n, j, N', t', g'⟩ := st
    simp only at e1 e2 e3 e4 e5 D' ⊢
    subst e1 e2 e3 e5
    have eg : (End.susp (.int q tq) false (gsF w scr h₀ d os fr N).l (gsF w scr h₀ d os fr N).k (gsF w scr h₀ d os fr N).c p (frs (gsF w scr h₀ d os fr N).κ ps)).genState = .suspended (gsF w scr h₀ d os fr N).k (gsF w scr h₀ d os fr N).l (gsF w scr h₀ d os fr N).c p (frs (gsF w scr h₀ d os fr N).κ ps) false := by
      show GenState.suspended _ _ _ _ _ (false || (frs _ ps).any Frame.guarded) = _
      rw [guard_frs]; rfl
    show R (.ok (.ret (.int q tq))) (Shared.setGen _ γ (End.susp (.int q tq) false (gsF w scr h₀ d os fr N).l (gsF w scr h₀ d os fr N).k (gsF w scr h₀ d os fr N).c p (frs (gsF w scr h₀ d os fr N).κ ps)).genState)
    rw [eg]
    have F := ((D'.anew (t + 3)).cast (V' := cfg w scr h₀ callerA 0 (fun _ _ => True) d os) rfl rfl).gens (g' := g.setIfInBounds γ (.suspended (gsF w scr h₀ d os fr N).k (gsF w scr h₀ d os fr N).l (gsF w scr h₀ d os fr N).c p (frs (gsF w scr h₀ d os fr N).κ ps) false)) (bare_set D.bare rfl)
    have y := z _ h' ⟨p, ps, hps, rfl⟩ F
    show R _ ⟨h', (g.setIfInBounds γ .running).setIfInBounds γ _, d, t' + j, os⟩
    rw [Array.setIfInBounds_setIfInBounds, e4]
    exact y
  · exact ⟨eqs_want _ _ _, trivial, ⟨rfl, rfl, .tail _ (.head _)⟩, fun _ => ⟨eqs_want _ _ _, trivial, ⟨rfl, rfl, rfl, .tail _ (.tail _ (.head _))⟩, fun _ => ⟨eqs_want _ _ _, ⟨⟨trivial, h127⟩, hq0⟩, rfl, rfl, rfl, rfl, rfl, rfl⟩⟩⟩
theorem gen_call_while (hg : g[γ]? = some gs) (hs : Sleeps (gsW w scr h₀ d os fr it) gs)
    (D : RepC w scr h₀ d os h ⟨(fr, genFr3 w.params k0 k1 k2 lst (.int u tu) uu) :: (it, litObj lst i) :: (lst, listObj xs c) :: (ga, genObj γ tn tq') :: rest, [], 0, 0, N, t, g⟩)
    (z : ∀ gs' h', Sleeps (gsW w scr h₀ d os fr it) gs' → RepC w scr h₀ d os h' ⟨(fr, genFr3 w.params k0 k1 k2 lst (.int u tu) uu) :: (it, litObj lst i) :: (lst, listObj xs c) :: (ga, genObj γ tn tq') :: rest, [], 0, 0, N, t, g.setIfInBounds γ gs'⟩ → R (.ok (.ret (.int u tu))) ⟨h', g.setIfInBounds γ gs', d, t, os⟩) :
    codeAny (model PySem.Challenge.pw_nq0197_01 w) A (.call (.builtin "generator.__next__") ⟨[.ref ga], []⟩) R ⟨h, g, d, t, os⟩ := by
  obtain ⟨p, ps, hps, rfl⟩ := hs
  have lo1 : Lo A.in1 700 := (lo.in1).le (by decide)
  have O : CfgOk (cfg w scr h₀ A.in1 700 R d os) := G.cfg lo1
  have D1 := D.cast (V' := cfg w scr h₀ A.in1 700 R d os) rfl rfl
  have ho := D1.base (ga, genObj γ tn tq') (.tail _ (.tail _ (.tail _ (.head _))))
  have D2 := D1.gens (bare_set (γ := γ) D1.bare (x := .running) rfl)
  refine gnext lo.handled (D1.lim O) (Nat.lt_of_le_of_lt lo.depth (by decide)) ho hg (.inr ⟨_, _, _, _, rfl, rfl⟩) ?_
  let PP : GEnd → Own → Nat → Nat → Nat → Array GenState → Prop := fun e B n N' tk g' => e = .susp (.int u tu) (gsW w scr h₀ d os fr it).l (gsW w scr h₀ d os fr it).k (gsW w scr h₀ d os fr it).c (gsW w scr h₀ d os fr it).κ ∧ B = (fr, genFr3 w.params k0 k1 k2 lst (.int u tu) uu) :: (it, litObj lst i) :: (lst, listObj xs c) :: (ga, genObj γ tn tq') :: rest ∧ n = 0 ∧ N' = N ∧ tk = t ∧ g' = g.setIfInBounds γ .running
  let HH : Nat → Code → St → Prop := fun k cc st => False
  refine seg_by_run (V := cfg w scr h₀ A.in1 700 R d os) O (cs := [iterCtr lst, nextCtr lst i (.int 0 0)]) (H := HH) (PP := fun e st => PP e st.base st.n st.N (st.t + st.j) st.g) (prim_ok _) (fun k C cc st fr' hi hh => hh.elim) (fun r st h' pp D' => ?_) (fun v l k cc κ st h' pp D' p ps hps => ?_) 100
    (Eq.mpr (gen_while w₀ b1 b2 w hw scr h₀ A.in1 R d os HH PP fr lst it k0 k1 k2 i tu 0 N t c u 0 uu xs _ ((it, litObj lst i) :: (lst, listObj xs c) :: (ga, genObj γ tn tq') :: rest)) ?_) D2 (by rw [okF_gsW w₀ b1 b2 w hw]; exact ⟨rfl, rfl, trivial⟩) hps
  · obtain ⟨e0, _⟩ := pp; cases e0
  · obtain ⟨e0, e1, e2, e3, e4, e5⟩ := pp
    cases e0
    obtain ⟨base, nw, n, j, N', t', g'⟩ := st
    simp only at e1 e2 e3 e4 e5 D' ⊢
    subst e1 e2 e3 e5
    have eg : (End.susp (.int u tu) false (gsW w scr h₀ d os fr it).l (gsW w scr h₀ d os fr it).k (gsW w scr h₀ d os fr it).c p (frs (gsW w scr h₀ d os fr it).κ ps)).genState = .suspended (gsW w scr h₀ d os fr it).k (gsW w scr h₀ d os fr it).l (gsW w scr h₀ d os fr it).c p (frs (gsW w scr h₀ d os fr it).κ ps) false := by
      show GenState.suspended _ _ _ _ _ (false || (frs _ ps).any Frame.guarded) = _
      rw [guard_frs]; rfl
    show R (.ok (.ret (.int u tu))) (Shared.setGen _ γ (End.susp (.int u tu) false (gsW w scr h₀ d os fr it).l (gsW w scr h₀ d os fr it).k (gsW w scr h₀ d os fr it).c p (frs (gsW w scr h₀ d os fr it).κ ps)).genState)
    rw [eg]
    have F := ((D'.anew t).cast (V' := cfg w scr h₀ callerA 0 (fun _ _ => True) d os) rfl rfl).gens (g' := g.setIfInBounds γ (.suspended (gsW w scr h₀ d os fr it).k (gsW w scr h₀ d os fr it).l (gsW w scr h₀ d os fr it).c p (frs (gsW w scr h₀ d os fr it).κ ps) false)) (bare_set D.bare rfl)
    have y := z _ h' ⟨p, ps, hps, rfl⟩ F
    show R _ ⟨h', (g.setIfInBounds γ .running).setIfInBounds γ _, d, t' + j, os⟩
    rw [Array.setIfInBounds_setIfInBounds, e4]
    exact y
  · exact ⟨eqs_want _ _ _, trivial, rfl, rfl, rfl, rfl, rfl, rfl⟩
end
end Mine
end Ge

section Gf
open PySem PySem.Calls PySem.W PySem.W.X PyProof.Rows
set_option Elab.async false
set_option maxRecDepth 100000
namespace Mine
noncomputable def sGrouping : Str := ⟨#[103, 114, 111, 117, 112, 105, 110, 103]⟩
set_option maxHeartbeats 0 in
theorem bind741 (P : Params) (v : Value) : bindArgsQ (fd741 P) ⟨[v], []⟩ = .pure [(sGrouping, v)] := by kernel_rfl
set_option maxHeartbeats 0 in
theorem cells741 (P : Params) : (fd741 P).scope.names.all (fun x => match x.2 with | .cell => false | _ => true) = true := by kernel_rfl
set_option maxHeartbeats 0 in
theorem loc741 (P : Params) : (fd741 P).scope.names.lookup sGrouping = some .local := by kernel_rfl
set_option maxHeartbeats 0 in
theorem flags741 (P : Params) : ((fd741 P).scope.kind, (fd741 P).scope.isCoroutine, (fd741 P).scope.isGenerator) = (.function, false, true) := by kernel_rfl
set_option maxHeartbeats 0 in
theorem get741 (w : World) (scr : Obj) : (ktab w scr).get 741 = some (o741 w.params) := by kernel_rfl
set_option maxHeartbeats 0 in
theorem get740 (w : World) (scr : Obj) : (ktab w scr).get 740 = some (o740 w.params) := by kernel_rfl
/-- a call of the generator function -/
noncomputable abbrev genCtr (P : Params) (lst : Addr) : Ctr :=
  { X := Unit, D := 890, resp := fun _ st => (.ok (.ret (.ref (st.N + st.n + 1))), { st with nw := some (genObj st.g.size (st.t + st.j + 1) (st.t + st.j + 2)) :: some (genFr1 P (st.t + st.j) lst) :: st.nw, n := st.n + 1 + 1, j := st.j + 3, g := st.g.push (.fresh (genCode P (st.N + st.n))) }) }
theorem bare_push {g : Array GenState} (h : AllBare g) {x : GenState} (hx : x.bare = true) : AllBare (g.push x) := by
  intro y hy
  rcases Array.mem_push.mp hy with h1 | h1
  · exact h y h1
  · rw [h1]; exact hx
theorem genc_ok {w : World} {scr : Obj} {h₀ : Heap} {A₀ : Around} {D₀ : Nat} {R₀ : Result → Shared → Prop} {d : Drawn} {os : OsState} (O : CfgOk (cfg w scr h₀ A₀ D₀ R₀ d os)) {st : St} {fr : Option (List Env)} {lst : Addr} :
    CtrOk (cfg w scr h₀ A₀ D₀ R₀ d os) (genCtr w.params lst) (.call (.ref 741) ⟨[.ref lst], []⟩) st fr := by
  intro A h R lo _ D q
  have fl := flags741 w.params
  have hk : (fd741 w.params).scope.kind = .function := (Prod.mk.inj fl).1
  have hsz : h.objs.size = st.N + st.n := D.size
  refine codeAny_call_generator (Nat.lt_of_le_of_lt lo.depth (show 890 < recursionLimit by decide)) (D.old O (get741 w scr)) (fd := fd741 w.params) rfl (Prod.mk.inj (Prod.mk.inj fl).2).1 (Prod.mk.inj (Prod.mk.inj fl).2).2 (body := stmtsOf (fd741 w.params)) rfl
    ⟨740, o740 w.params, _, 1157, rfl, D.old O (get740 w scr), rfl, rfl⟩ ?_
  rw [bindArgsQ_eq, bind741]
  refine wpAny_pure ?_
  simp only [newFunctionEnv, Option.isSome_none, Bool.false_eq_true, if_false]
  refine wpAny_bind (wpAny_alloc ?_)
  rw [forIn_yield_id (fd741 w.params).closure (fun x hx c => by
    obtain ⟨name, kind⟩ := x
    have h1 := List.all_eq_true.mp (cells741 w.params) _ hx
    cases kind <;> first | rfl | (simp at h1))]
  refine wpAny_bind (wpAny_pure ?_)
  refine wpAny_bind ?_
  rw [List.forIn_cons]
  refine wpAny_bind ?_
  refine wpAny_bind ?_
  have hkind : Env.kindOf { scope := (fd741 w.params).scope, locals := h.objs.size, globals := (fd741 w.params).globals, cells := (fd741 w.params).closure, qual := (fd741 w.params).qualname ++ ".<locals>.", func := some 741, code := (fd741 w.params).code, frame := some h.objs.size, builtins := (fd741 w.params).builtins } sGrouping = some .local := loc741 w.params
  rw [storeName_local hkind (by
    show ((fd741 w.params).scope.kind == .class || ((fd741 w.params).scope.kind == .module && _)) = false
    rw [hk]; rfl)]
  unfold nsSet strHash
  refine wpAny_bind (wpAny_bind (wpAny_askSetting (wpAny_pure ?_)))
  refine wpAny_bind (wpAny_mkText ?_)
  have e0 : (h.push { cls := .type "frame", data := .dict #[] }).get? h.objs.size = some { cls := .type "frame", data := .dict #[] } := Heap.get?_push_size _ rfl
  refine wpAny_bind (wpAny_loadPart e0 ?_)
  show wpAny _ _ (if aRefKeyMayBeTheName sGrouping #[] then _ else _) _ _ _
  rw [if_neg (by decide)]
  refine wpAny_updatePart e0 ?_
  refine wpAny_pure ?_
  show wpAny _ _ (forIn [] PUnit.unit _) _ _ _
  rw [List.forIn_nil]
  refine wpAny_pure ?_
  refine wpAny_pure ?_
  have D1 := D.alloc (o := { cls := .type "frame", data := .dict #[] }) rfl _ _ rfl rfl
  have D2 := D1.setNew O (i := st.n) (o := { cls := .type "frame", data := .dict #[] }) (f := Obj.putName sGrouping (PyData.keyHash w.params sGrouping) (.str sGrouping (st.t + st.j)) (.ref lst)) (Nat.lt_succ_self _) (by simp) rfl
  have eo : Obj.putName sGrouping (PyData.keyHash w.params sGrouping) (.str sGrouping (st.t + st.j)) (.ref lst) { cls := .type "frame", data := .dict #[] } = genFr1 w.params (st.t + st.j) lst := rfl
  rw [eo] at D2
  simp only [Nat.add_sub_cancel, Nat.sub_self, List.set_cons_zero] at D2
  have hz : ((h.push { cls := .type "frame", data := .dict #[] }).update (st.N + st.n) (Obj.putName sGrouping (PyData.keyHash w.params sGrouping) (.str sGrouping (st.t + st.j)) (.ref lst))).objs.size = st.N + st.n + 1 := by
    rw [Heap.size_update, Heap.size_push, hsz]
  have D3 := (D2.alloc (o := genObj st.g.size (st.t + st.j + 1) (st.t + st.j + 2)) rfl _ _ rfl rfl).gens (g' := st.g.push (.fresh (genCode w.params (st.N + st.n)))) (bare_push D.bare rfl)
  have e := q () _ (D3.toks (j' := st.j + 3) (t' := st.t))
  have hE : ({ scope := (fd741 w.params).scope, locals := st.N + st.n, globals := (fd741 w.params).globals, cells := (fd741 w.params).closure, qual := (fd741 w.params).qualname ++ ".<locals>.", func := some 741, code := (fd741 w.params).code, frame := some (st.N + st.n), builtins := (fd741 w.params).builtins } : Env) = envOf (fd741 w.params) 741 (st.N + st.n) := by
    have e : ((fd741 w.params).qualname ++ ".<locals>.") = (⟨(fd741 w.params).qualname.cps ++ #[46, 60, 108, 111, 99, 97, 108, 115, 62, 46]⟩ : Str) := by
      show Str.append _ _ = _
      unfold Str.append
      rw [locals_str]
    rw [e]; rfl
  show ((h.push { cls := .type "frame", data := .dict #[] }).update h.objs.size (Obj.putName sGrouping (PyData.keyHash w.params sGrouping) (.str sGrouping (st.t + st.j)) (.ref lst))).NoLimit ∧ R (.ok (.ret (.ref ((h.push { cls := .type "frame", data := .dict #[] }).update h.objs.size (Obj.putName sGrouping (PyData.keyHash w.params sGrouping) (.str sGrouping (st.t + st.j)) (.ref lst))).objs.size)))
    ⟨((h.push { cls := .type "frame", data := .dict #[] }).update h.objs.size (Obj.putName sGrouping (PyData.keyHash w.params sGrouping) (.str sGrouping (st.t + st.j)) (.ref lst))).push (genObj st.g.size (st.t + st.j + 1) (st.t + st.j + 2)), st.g.push (.fresh (.func (stmtsOf (fd741 w.params)) { scope := (fd741 w.params).scope, locals := h.objs.size, globals := (fd741 w.params).globals, cells := (fd741 w.params).closure, qual := (fd741 w.params).qualname ++ ".<locals>.", func := some 741, code := (fd741 w.params).code, frame := some h.objs.size, builtins := (fd741 w.params).builtins })), d, st.t + st.j + 3, os⟩
  rw [hsz, hE, hz]
  exact ⟨D2.lim O, e⟩
end Mine
end Gf

section Ln
open PySem PySem.Calls PySem.W PySem.W.X PyProof.Rows
set_option Elab.async false
set_option maxRecDepth 100000
namespace Mine
/-- a frame by its names, their tokens and values -/
noncomputable def frO (P : Params) (l : List (Str × Nat × Value)) : Obj := { cls := .type "frame", data := .dict (l.map fun e => (⟨PyData.keyHash P e.1, .str e.1 e.2.1, e.2.2⟩ : DictEntry)).toArray l.length }
noncomputable def forIn' (fd : FuncData) (i : Nat) : Expr × List Stmt × List Stmt := match (stmtsOf fd)[i]? with
  | some (.For t _ b e ..) => (t, b, e)
  | _ => (default, [], [])
noncomputable abbrev fd762 (P : Params) : FuncData := fdOf (o762 P)
/-- a loop of _law_line -/
noncomputable def lnLoop (P : Params) (i : Nat) (it lf : Addr) : Code := .forLoop (forIn' (fd762 P) i).1 (.ref it) (forIn' (fd762 P) i).2.1 (forIn' (fd762 P) i).2.2 (envOf (fd762 P) 762 lf)
noncomputable abbrev nP : Str := ⟨#[112]⟩
noncomputable abbrev nQ : Str := ⟨#[113]⟩
noncomputable abbrev nWhite : Str := ⟨#[119, 104, 105, 116, 101]⟩
noncomputable abbrev nMark : Str := ⟨#[109, 97, 114, 107]⟩
noncomputable abbrev nLetter : Str := ⟨#[108, 101, 116, 116, 101, 114]⟩
noncomputable abbrev nWhites : Str := ⟨#[119, 104, 105, 116, 101, 115]⟩
noncomputable abbrev nPlace : Str := ⟨#[112, 108, 97, 99, 101]⟩
noncomputable abbrev nSize : Str := ⟨#[115, 105, 122, 101]⟩
noncomputable abbrev nMarks : Str := ⟨#[109, 97, 114, 107, 115]⟩
noncomputable abbrev nLine : Str := ⟨#[108, 105, 110, 101]⟩
/-- what _law_line is given -/
structure LnA where
  p : Int
  q : Int
  tp : Nat
  tq : Nat
  white : Str
  mark : Str
  letter : Str
  tw : Nat
  tm : Nat
  tl : Nat
noncomputable abbrev lnC (a : LnA) (k : Nat → Nat) (l : List (Str × Nat × Value)) : List (Str × Nat × Value) :=
  (nP, k 0, .int a.p a.tp) :: (nQ, k 1, .int a.q a.tq) :: (nWhite, k 2, .str a.white a.tw) :: (nMark, k 3, .str a.mark a.tm) :: (nLetter, k 4, .str a.letter a.tl) :: l
/-- what a waking of a generator leaves -/
structure GnX where
  Q : Own
  N : Nat
  t : Nat
  g : Array GenState
/-- a waking of a generator: the base's first m objects are not its own -/
noncomputable abbrev gnCtr (m : Nat) (v : Value) (I : GnX → Prop) : Ctr := { X := { x : GnX // I x }, D := 690, resp := fun x st => (.ok (.ret v), ⟨st.base.take m ++ x.1.Q, [], 0, 0, x.1.N, x.1.t, x.1.g⟩) }
/-- its end: StopIteration -/
noncomputable abbrev geCtr (m : Nat) (I : GnX → Prop) : Ctr := { X := { x : GnX // I x } × Addr × Nat, D := 690, resp := fun x st => (.error (.ref x.2.1), ⟨st.base.take m ++ (x.2.1, excObj "StopIteration" x.2.2) :: x.1.1.Q, [], 0, 0, x.1.1.N, x.1.1.t, x.1.1.g⟩) }
/-- a list that grows by what the state tells -/
noncomputable abbrev apCtr (k : Nat) (f : St → Array Value) : Ctr := { X := Nat, D := 900, resp := fun c st => (.ok (.ret .none), putS st k (listObj (f st) c)) }
/-- some contracts see the state, some what stands at places -/
noncomputable abbrev seen2 (pk : Nat → Option (List Nat)) (H0 : Nat → Code → St → Prop) (HH : Nat → Code → List (Option (Addr × Obj)) → Nat → Prop) : Nat → Code → St → Option (List Env) → Prop := fun i c st _ => match pk i with
  | none => H0 i c st
  | some l => HH i c (l.map (lookS st)) st.t
noncomputable abbrev pkTurn : Nat → Option (List Nat) := fun i => match i with
  | 0 => none
  | _ => some [3]
noncomputable abbrev gNext (ga : Addr) : Code := .call (.builtin "generator.__next__") ⟨[.ref ga], []⟩
noncomputable abbrev lApp (l : Addr) (v : Value) : Code := .call (.builtin "list.append") ⟨[.ref l, v], []⟩
set_option maxHeartbeats 0
theorem ln1_first (w₀ : World) (b1 b2 : Bool) (w : World) (hw : w = wf w₀ b1 b2) (scr : Obj) (h₀ : Heap) (A : Around) (R : Result → Shared → Prop) (d : Drawn) (os : OsState) (H0 : Nat → Code → St → Prop) (HH : Nat → Code → List (Option (Addr × Obj)) → Nat → Prop) (PP : Result ⊕ Code → Own → Nat → Nat → Nat → Array GenState → Prop)
    (I : GnX → Prop) (a : LnA) (k : Nat → Nat) (lf wl ga γ tn tq' c N t tz tpl : Nat) (pl z : Int) (vsz : Value) (xs : Array Value) (Q : Own) (g : Array GenState) :
    SegGoal w scr h₀ A 600 R d os [gnCtr 3 (.int z tz) I, apCtr 3 (fun st => xs.push (.int (pl + z) (st.t + 1)))] (seen2 pkTurn H0 HH) PP 100 (lnLoop w.params 2 ga lf) [5] [[1, 1, 1, 1, 1, 1, 1, 3, 3, 3, 3, 1], []] [4, 0, 5]
      ((lf, frO w.params (lnC a k [(nWhites, k 5, .ref wl), (nPlace, k 6, .int pl tpl)])) :: (wl, listObj xs c) :: (ga, genObj γ tn tq') :: Q) N t g =
    (Eqs (want [lf, wl, ga] N [5]) ∧ True ∧ H0 0 (gNext ga) ⟨(lf, frO w.params (lnC a k [(nWhites, k 5, .ref wl), (nPlace, k 6, .int pl tpl)])) :: (wl, listObj xs c) :: (ga, genObj γ tn tq') :: Q, [], 0, 0, N, t, g⟩ ∧ ∀ x : { x : GnX // I x }, Eqs (want [lf, wl, ga] x.1.N [1, 1, 1, 1, 1, 1, 1, 3, 3, 3, 3, 1]) ∧ True ∧ HH 1 (lApp wl (.int (pl + z) (x.1.t + 1))) [some (wl, listObj xs c)] x.1.t ∧ ∀ c' : Nat, Eqs [] ∧ True ∧
      PP (.inr (lnLoop w.params 2 ga lf)) ((lf, frO w.params (lnC a k [(nWhites, k 5, .ref wl), (nPlace, k 6, .int (pl + z) (x.1.t + 1)), (nSize, x.1.t, .int z tz)])) :: (wl, listObj (xs.push (.int (pl + z) (x.1.t + 1))) c') :: (ga, genObj γ tn tq') :: x.1.Q) 0 x.1.N (x.1.t + 3) x.1.g) := by
  subst hw
  cases b1 <;> kernel_rfl
theorem ln1_next (w₀ : World) (b1 b2 : Bool) (w : World) (hw : w = wf w₀ b1 b2) (scr : Obj) (h₀ : Heap) (A : Around) (R : Result → Shared → Prop) (d : Drawn) (os : OsState) (H0 : Nat → Code → St → Prop) (HH : Nat → Code → List (Option (Addr × Obj)) → Nat → Prop) (PP : Result ⊕ Code → Own → Nat → Nat → Nat → Array GenState → Prop)
    (I : GnX → Prop) (a : LnA) (k : Nat → Nat) (lf wl ga γ tn tq' c N t tz tpl : Nat) (pl z : Int) (vsz : Value) (xs : Array Value) (Q : Own) (g : Array GenState) :
    SegGoal w scr h₀ A 600 R d os [gnCtr 3 (.int z tz) I, apCtr 3 (fun st => xs.push (.int (pl + z) (st.t + 1)))] (seen2 pkTurn H0 HH) PP 100 (lnLoop w.params 2 ga lf) [5] [[1, 1, 1, 1, 1, 1, 1, 3, 3, 3, 3, 1], []] [4, 0, 5]
      ((lf, frO w.params (lnC a k [(nWhites, k 5, .ref wl), (nPlace, k 6, .int pl tpl), (nSize, k 7, vsz)])) :: (wl, listObj xs c) :: (ga, genObj γ tn tq') :: Q) N t g =
    (Eqs (want [lf, wl, ga] N [5]) ∧ True ∧ H0 0 (gNext ga) ⟨(lf, frO w.params (lnC a k [(nWhites, k 5, .ref wl), (nPlace, k 6, .int pl tpl), (nSize, k 7, vsz)])) :: (wl, listObj xs c) :: (ga, genObj γ tn tq') :: Q, [], 0, 0, N, t, g⟩ ∧ ∀ x : { x : GnX // I x }, Eqs (want [lf, wl, ga] x.1.N [1, 1, 1, 1, 1, 1, 1, 3, 3, 3, 3, 1]) ∧ True ∧ HH 1 (lApp wl (.int (pl + z) (x.1.t + 1))) [some (wl, listObj xs c)] x.1.t ∧ ∀ c' : Nat, Eqs [] ∧ True ∧
      PP (.inr (lnLoop w.params 2 ga lf)) ((lf, frO w.params (lnC a k [(nWhites, k 5, .ref wl), (nPlace, k 6, .int (pl + z) (x.1.t + 1)), (nSize, k 7, .int z tz)])) :: (wl, listObj (xs.push (.int (pl + z) (x.1.t + 1))) c') :: (ga, genObj γ tn tq') :: x.1.Q) 0 x.1.N (x.1.t + 3) x.1.g) := by
  subst hw
  cases b1 <;> kernel_rfl
theorem ln1_end (w₀ : World) (b1 b2 : Bool) (w : World) (hw : w = wf w₀ b1 b2) (scr : Obj) (h₀ : Heap) (A : Around) (R : Result → Shared → Prop) (d : Drawn) (os : OsState) (H0 : Nat → Code → St → Prop) (HH : Nat → Code → List (Option (Addr × Obj)) → Nat → Prop) (PP : Result ⊕ Code → Own → Nat → Nat → Nat → Array GenState → Prop)
    (I : GnX → Prop) (a : LnA) (k : Nat → Nat) (lf wl ga γ tn tq' c N t tz tpl : Nat) (pl z : Int) (vsz : Value) (xs : Array Value) (Q : Own) (g : Array GenState) :
    SegGoal w scr h₀ A 600 R d os [geCtr 3 I] (seen2 pkTurn H0 HH) PP 100 (lnLoop w.params 2 ga lf) [5] [[7]] [4]
      ((lf, frO w.params (lnC a k [(nWhites, k 5, .ref wl), (nPlace, k 6, .int pl tpl), (nSize, k 7, vsz)])) :: (wl, listObj xs c) :: (ga, genObj γ tn tq') :: Q) N t g =
    (Eqs (want [lf, wl, ga] N [5]) ∧ True ∧ H0 0 (gNext ga) ⟨(lf, frO w.params (lnC a k [(nWhites, k 5, .ref wl), (nPlace, k 6, .int pl tpl), (nSize, k 7, vsz)])) :: (wl, listObj xs c) :: (ga, genObj γ tn tq') :: Q, [], 0, 0, N, t, g⟩ ∧ ∀ x : { x : GnX // I x } × Addr × Nat, Eqs (want [lf, wl, ga, x.2.1] x.1.1.N [7]) ∧ True ∧ PP (.inl (.ok .next)) ((lf, frO w.params (lnC a k [(nWhites, k 5, .ref wl), (nPlace, k 6, .int pl tpl), (nSize, k 7, vsz)])) :: (wl, listObj xs c) :: (ga, genObj γ tn tq') :: (x.2.1, excObj "StopIteration" x.2.2) :: x.1.1.Q) 0 x.1.1.N x.1.1.t x.1.1.g) := by
  subst hw
  cases b1 <;> kernel_rfl
theorem ln2_more (w₀ : World) (b1 b2 : Bool) (w : World) (hw : w = wf w₀ b1 b2) (scr : Obj) (h₀ : Heap) (A : Around) (R : Result → Shared → Prop) (d : Drawn) (os : OsState) (H0 : Nat → Code → St → Prop) (HH : Nat → Code → List (Option (Addr × Obj)) → Nat → Prop) (PP : Result ⊕ Code → Own → Nat → Nat → Nat → Array GenState → Prop)
    (I : GnX → Prop) (a : LnA) (k : Nat → Nat) (lf wl ga γ tn tq' c N t tz tpl : Nat) (pl z : Int) (vsz vwh : Value) (xs : Array Value) (Q : Own) (g : Array GenState) :
    SegGoal w scr h₀ A 600 R d os [gnCtr 3 (.int z tz) I, apCtr 3 (fun st => xs.push (.int (pl + z) (st.t + 1)))] (seen2 pkTurn H0 HH) PP 120 (lnLoop w.params 5 ga lf) [5] [[1, 1, 1, 1, 1, 1, 1, 1, 1, 1, 3, 3, 3, 3, 1], []] [4, 0, 0, 1, 2, 5]
      ((lf, frO w.params (lnC a k [(nWhites, k 5, vwh), (nPlace, k 6, .int pl tpl), (nSize, k 7, vsz), (nMarks, k 8, .ref wl)])) :: (wl, listObj xs c) :: (ga, genObj γ tn tq') :: Q) N t g =
    (Eqs (want [lf, wl, ga] N [5]) ∧ True ∧ H0 0 (gNext ga) ⟨(lf, frO w.params (lnC a k [(nWhites, k 5, vwh), (nPlace, k 6, .int pl tpl), (nSize, k 7, vsz), (nMarks, k 8, .ref wl)])) :: (wl, listObj xs c) :: (ga, genObj γ tn tq') :: Q, [], 0, 0, N, t, g⟩ ∧ ∀ x : { x : GnX // I x }, Eqs (want [lf, wl, ga] x.1.N [1, 1, 1, 1, 1, 1, 1, 1, 1, 1, 3, 3, 3, 3, 1]) ∧ ((True ∧ -100000 < Int.fdiv a.p 2 ∧ Int.fdiv a.p 2 < 100000) ∧ (decide (pl + z > Int.fdiv a.p 2 * a.q) = false)) ∧ HH 1 (lApp wl (.int (pl + z) (x.1.t + 1))) [some (wl, listObj xs c)] x.1.t ∧ ∀ c' : Nat, Eqs [] ∧ True ∧
      PP (.inr (lnLoop w.params 5 ga lf)) ((lf, frO w.params (lnC a k [(nWhites, k 5, vwh), (nPlace, k 6, .int (pl + z) (x.1.t + 1)), (nSize, k 7, .int z tz), (nMarks, k 8, .ref wl)])) :: (wl, listObj (xs.push (.int (pl + z) (x.1.t + 1))) c') :: (ga, genObj γ tn tq') :: x.1.Q) 0 x.1.N (x.1.t + 6) x.1.g) := by
  subst hw
  cases b1 <;> kernel_rfl
theorem ln2_stop (w₀ : World) (b1 b2 : Bool) (w : World) (hw : w = wf w₀ b1 b2) (scr : Obj) (h₀ : Heap) (A : Around) (R : Result → Shared → Prop) (d : Drawn) (os : OsState) (H0 : Nat → Code → St → Prop) (HH : Nat → Code → List (Option (Addr × Obj)) → Nat → Prop) (PP : Result ⊕ Code → Own → Nat → Nat → Nat → Array GenState → Prop)
    (I : GnX → Prop) (a : LnA) (k : Nat → Nat) (lf wl ga γ tn tq' c N t tz tpl : Nat) (pl z : Int) (vsz vwh : Value) (xs : Array Value) (Q : Own) (g : Array GenState) :
    SegGoal w scr h₀ A 600 R d os [gnCtr 3 (.int z tz) I, apCtr 3 (fun st => xs.push (.int (pl + z) (st.t + 1)))] (seen2 pkTurn H0 HH) PP 120 (lnLoop w.params 5 ga lf) [5] [[1, 1, 1, 1, 1, 1, 1, 1, 1]] [4, 0, 0, 1, 3]
      ((lf, frO w.params (lnC a k [(nWhites, k 5, vwh), (nPlace, k 6, .int pl tpl), (nSize, k 7, vsz), (nMarks, k 8, .ref wl)])) :: (wl, listObj xs c) :: (ga, genObj γ tn tq') :: Q) N t g =
    (Eqs (want [lf, wl, ga] N [5]) ∧ True ∧ H0 0 (gNext ga) ⟨(lf, frO w.params (lnC a k [(nWhites, k 5, vwh), (nPlace, k 6, .int pl tpl), (nSize, k 7, vsz), (nMarks, k 8, .ref wl)])) :: (wl, listObj xs c) :: (ga, genObj γ tn tq') :: Q, [], 0, 0, N, t, g⟩ ∧ ∀ x : { x : GnX // I x }, Eqs (want [lf, wl, ga] x.1.N [1, 1, 1, 1, 1, 1, 1, 1, 1]) ∧ ((True ∧ -100000 < Int.fdiv a.p 2 ∧ Int.fdiv a.p 2 < 100000) ∧ (decide (pl + z > Int.fdiv a.p 2 * a.q) = true)) ∧
      PP (.inl (.ok .next)) ((lf, frO w.params (lnC a k [(nWhites, k 5, vwh), (nPlace, k 6, .int (pl + z) (x.1.t + 1)), (nSize, k 7, .int z tz), (nMarks, k 8, .ref wl)])) :: (wl, listObj xs c) :: (ga, genObj γ tn tq') :: x.1.Q) 0 x.1.N (x.1.t + 6) x.1.g) := by
  subst hw
  cases b1 <;> kernel_rfl
end Mine
end Ln

section Ln2
open PySem PySem.Calls PySem.W PySem.W.X PyProof.Rows
set_option Elab.async false
set_option maxRecDepth 100000
namespace Mine
section
variable (w : World) (scr : Obj) (h₀ : Heap) (d : Drawn) (os : OsState) (γ gfr lst c N₀ : Nat) (xs : Array Value) (rest : Own)
/-- the generator before its first waking -/
noncomputable def GFresh (x : GnX) : Prop := x.g[γ]? = some (.fresh (genCode w.params gfr)) ∧ x.N = N₀ ∧ ∃ k0, x.Q = (gfr, genFr1 w.params k0 lst) :: (lst, listObj xs c) :: rest
/-- behind a yield inside its for-loop -/
noncomputable def GFor (i : Nat) (v : Value) (x : GnX) : Prop := ∃ gs k0 k1 k2 uu, x.g[γ]? = some gs ∧ Sleeps (gsF w scr h₀ d os gfr N₀) gs ∧ x.N = N₀ + 1 ∧ x.Q = (gfr, genFr3 w.params k0 k1 k2 lst uu v) :: (N₀, litObj lst i) :: (lst, listObj xs c) :: rest
/-- behind a yield inside its while-loop -/
noncomputable def GWhile (v : Value) (x : GnX) : Prop := ∃ gs k0 k1 k2 uu i, x.g[γ]? = some gs ∧ Sleeps (gsW w scr h₀ d os gfr N₀) gs ∧ x.N = N₀ + 1 ∧ x.Q = (gfr, genFr3 w.params k0 k1 k2 lst v uu) :: (N₀, litObj lst i) :: (lst, listObj xs c) :: rest
/-- behind its end -/
noncomputable def GDone (x : GnX) : Prop := x.N = N₀ + 3 ∧ ∃ Q', x.Q = Q' ++ rest
end
theorem get_set {g : Array GenState} {γ : Nat} {gs gs' : GenState} (h : g[γ]? = some gs) : (g.setIfInBounds γ gs')[γ]? = some gs' := by
  obtain ⟨h1, _⟩ := Array.getElem?_eq_some_iff.mp h
  rw [Array.getElem?_setIfInBounds_self, if_pos h1]
section
variable {w₀ : World} {b1 b2 : Bool} {w : World} (hw : w = wf w₀ b1 b2) {scr : Obj} {h₀ : Heap} (G : Grd w scr h₀) {d : Drawn} {os : OsState} {A : Around} {D₀ : Nat} {R : Result → Shared → Prop} {fr : Option (List Env)}
    {γ gfr lst c N₀ i ga tn tq' tq tu : Nat} {q u : Int} {xs : Array Value} {rest : Own} {p1 p2 : Addr × Obj} {x : GnX}
include hw G
theorem gn_fresh (I : GFresh w γ gfr lst c N₀ xs rest x) (hx : xs[0]? = some (.int q tq)) (h127 : (q == 127) = false) (hq0 : (q == 0) = false) :
    CtrOk (cfg w scr h₀ A D₀ R d os) (gnCtr 3 (.int q tq) (GFor w scr h₀ d os γ gfr lst c N₀ xs rest 1 (.int q tq))) (gNext ga) ⟨p1 :: p2 :: (ga, genObj γ tn tq') :: x.Q, [], 0, 0, x.N, x.t, x.g⟩ fr := by
  obtain ⟨Q, N, t, g⟩ := x
  obtain ⟨hg, hN, k0, hQ⟩ := I
  simp only at hg hN hQ
  subst hN hQ
  intro A' h R' lo _ D q'
  have D1 := ((D.arr (j' := 0) (t' := t) [3, 4, 2, 0, 1] 5 (by decide) (by decide)).cast (V' := cfg w scr h₀ callerA 0 (fun _ _ => True) d os) rfl rfl)
  refine gen_call_fresh hw G lo (rest := p1 :: p2 :: rest) (k0 := k0) hg hx h127 hq0 D1 (fun gs' h' S D2 => ?_)
  exact q' ⟨⟨_, N + 1, t + 3, g.setIfInBounds γ gs'⟩, gs', k0, _, _, _, get_set hg, S, rfl, rfl⟩ h' ((D2.arr (j' := 0) (t' := t + 3) [4, 5, 3, 0, 1, 2] 6 (by decide) (by decide)).cast rfl rfl)
theorem gn_next (I : GFor w scr h₀ d os γ gfr lst c N₀ xs rest i (.int u tu) x) (hx : xs[i]? = some (.int q tq)) (h127 : (q == 127) = false) (hq0 : (q == 0) = false) :
    CtrOk (cfg w scr h₀ A D₀ R d os) (gnCtr 3 (.int q tq) (GFor w scr h₀ d os γ gfr lst c N₀ xs rest (i + 1) (.int q tq))) (gNext ga) ⟨p1 :: p2 :: (ga, genObj γ tn tq') :: x.Q, [], 0, 0, x.N, x.t, x.g⟩ fr := by
  obtain ⟨Q, N, t, g⟩ := x
  obtain ⟨gs, k0, k1, k2, uu, hg, hs, hN, hQ⟩ := I
  simp only at hg hN hQ
  subst hN hQ
  intro A' h R' lo _ D q'
  have D1 := ((D.arr (j' := 0) (t' := t) [3, 4, 5, 2, 0, 1] 6 (by decide) (by decide)).cast (V' := cfg w scr h₀ callerA 0 (fun _ _ => True) d os) rfl rfl)
  refine gen_call_next hw G lo (rest := p1 :: p2 :: rest) (k0 := k0) hg hs hx h127 hq0 D1 (fun gs' h' S D2 => ?_)
  exact q' ⟨⟨_, N₀ + 1, t + 3, g.setIfInBounds γ gs'⟩, gs', k0, _, _, _, get_set hg, S, rfl, rfl⟩ h' ((D2.arr (j' := 0) (t' := t + 3) [4, 5, 3, 0, 1, 2] 6 (by decide) (by decide)).cast rfl rfl)
theorem gn_zero (I : GFor w scr h₀ d os γ gfr lst c N₀ xs rest i (.int u tu) x) (hx : xs[i]? = some (.int q tq)) (h127 : (q == 127) = false) (hq0 : (q == 0) = true) :
    CtrOk (cfg w scr h₀ A D₀ R d os) (gnCtr 3 (.int u tu) (GWhile w scr h₀ d os γ gfr lst c N₀ xs rest (.int u tu))) (gNext ga) ⟨p1 :: p2 :: (ga, genObj γ tn tq') :: x.Q, [], 0, 0, x.N, x.t, x.g⟩ fr := by
  obtain ⟨Q, N, t, g⟩ := x
  obtain ⟨gs, k0, k1, k2, uu, hg, hs, hN, hQ⟩ := I
  simp only at hg hN hQ
  subst hN hQ
  intro A' h R' lo _ D q'
  have D1 := ((D.arr (j' := 0) (t' := t) [3, 4, 5, 2, 0, 1] 6 (by decide) (by decide)).cast (V' := cfg w scr h₀ callerA 0 (fun _ _ => True) d os) rfl rfl)
  refine gen_call_zero hw G lo (rest := p1 :: p2 :: rest) (k0 := k0) hg hs hx h127 hq0 D1 (fun gs' h' S D2 => ?_)
  exact q' ⟨⟨_, N₀ + 1, t + 3, g.setIfInBounds γ gs'⟩, gs', k0, _, _, _, _, get_set hg, S, rfl, rfl⟩ h' ((D2.arr (j' := 0) (t' := t + 3) [4, 5, 3, 0, 1, 2] 6 (by decide) (by decide)).cast rfl rfl)
theorem gn_while (I : GWhile w scr h₀ d os γ gfr lst c N₀ xs rest (.int u tu) x) :
    CtrOk (cfg w scr h₀ A D₀ R d os) (gnCtr 3 (.int u tu) (GWhile w scr h₀ d os γ gfr lst c N₀ xs rest (.int u tu))) (gNext ga) ⟨p1 :: p2 :: (ga, genObj γ tn tq') :: x.Q, [], 0, 0, x.N, x.t, x.g⟩ fr := by
  obtain ⟨Q, N, t, g⟩ := x
  obtain ⟨gs, k0, k1, k2, uu, i, hg, hs, hN, hQ⟩ := I
  simp only at hg hN hQ
  subst hN hQ
  intro A' h R' lo _ D q'
  have D1 := ((D.arr (j' := 0) (t' := t) [3, 4, 5, 2, 0, 1] 6 (by decide) (by decide)).cast (V' := cfg w scr h₀ callerA 0 (fun _ _ => True) d os) rfl rfl)
  refine gen_call_while hw G lo (rest := p1 :: p2 :: rest) (k0 := k0) hg hs D1 (fun gs' h' S D2 => ?_)
  exact q' ⟨⟨_, N₀ + 1, t, g.setIfInBounds γ gs'⟩, gs', k0, _, _, _, _, get_set hg, S, rfl, rfl⟩ h' ((D2.arr (j' := 0) (t' := t) [4, 5, 3, 0, 1, 2] 6 (by decide) (by decide)).cast rfl rfl)
theorem gn_end (I : GFor w scr h₀ d os γ gfr lst c N₀ xs rest i (.int u tu) x) (hx : xs[i]? = some (.int q tq)) (h127 : (q == 127) = true) :
    CtrOk (cfg w scr h₀ A D₀ R d os) (geCtr 3 (GDone N₀ rest)) (gNext ga) ⟨p1 :: p2 :: (ga, genObj γ tn tq') :: x.Q, [], 0, 0, x.N, x.t, x.g⟩ fr := by
  obtain ⟨Q, N, t, g⟩ := x
  obtain ⟨gs, k0, k1, k2, uu, hg, hs, hN, hQ⟩ := I
  simp only at hg hN hQ
  subst hN hQ
  intro A' h R' lo _ D q'
  have D1 := ((D.arr (j' := 0) (t' := t) [3, 4, 5, 2, 0, 1] 6 (by decide) (by decide)).cast (V' := cfg w scr h₀ callerA 0 (fun _ _ => True) d os) rfl rfl)
  refine gen_call_end hw G lo (rest := p1 :: p2 :: rest) (k0 := k0) hg hs hx h127 D1 (fun h' ex tp D2 => ?_)
  exact q' (⟨⟨_, N₀ + 1 + 2, t + 2, g.setIfInBounds γ .finished⟩, rfl, [_, _, _], rfl⟩, ex, tp) h' ((D2.arr (j' := 0) (t' := t + 2) [5, 6, 4, 0, 1, 2, 3] 7 (by decide) (by decide)).cast rfl rfl)
end
end Mine
end Ln2

section Ln3
open PySem PySem.Calls PySem.W PySem.W.X PyProof.Rows
set_option Elab.async false
set_option maxRecDepth 100000
namespace Mine
theorem ints_snoc {vs : List Value} {ns : List Int} (h : IntsAre vs ns) (n : Int) (t : Nat) : IntsAre (vs ++ [.int n t]) (ns ++ [n]) := by
  induction h with
  | nil => exact .cons n t .nil
  | cons m u _ ih => exact .cons m u ih
theorem ints_len {vs : List Value} {ns : List Int} (h : IntsAre vs ns) : vs.length = ns.length := by
  induction h with
  | nil => rfl
  | cons m u _ ih => simp [ih]
/-- the first i multiples -/
noncomputable def mults (q : Int) (i : Nat) : List Int := (List.range i).map fun (j : Nat) => ((j : Int) + 1) * q
theorem mults_succ (q : Int) (i : Nat) : mults q (i + 1) = mults q i ++ [((i : Int) + 1) * q] := by
  unfold mults
  rw [List.range_succ, List.map_append]; rfl
theorem mults_len (q : Int) (i : Nat) : (mults q i).length = i := by unfold mults; simp
theorem Rep.sublist {V : Cfg} {h : Heap} {base base' : Own} {j N t j' t' : Nat} {g : Array GenState} (D : Rep V h ⟨base, [], 0, j, N, t, g⟩) (S : base'.Sublist base) : Rep V h ⟨base', [], 0, j', N, t', g⟩ :=
  D.sub (fun _ hp => S.subset hp) ((S.map _).nodup D.nod)
theorem append_ok' {V : Cfg} {st : St} {fr : Option (List Env)} (O : CfgOk V) {k l c : Nat} {xs : Array Value} {f : St → Value} (e : lookS st k = some (l, listObj xs c)) (hz : xs.size ≤ sizeLine) :
    CtrOk V (apCtr k (fun st => xs.push (f st))) (lApp l (f st)) st fr := append_ok O e hz
/-- a name's token anew -/
noncomputable def upd (k : Nat → Nat) (i v : Nat) : Nat → Nat := fun j => if j = i then v else k j
noncomputable abbrev lnF1 (P : Params) (a : LnA) (k : Nat → Nat) (wl : Addr) (pl : Int) (tpl : Nat) : Obj := frO P (lnC a k [(nWhites, k 5, .ref wl), (nPlace, k 6, .int pl tpl)])
noncomputable abbrev lnF2 (P : Params) (a : LnA) (k : Nat → Nat) (wl : Addr) (pl : Int) (tpl : Nat) (sz : Value) : Obj := frO P (lnC a k [(nWhites, k 5, .ref wl), (nPlace, k 6, .int pl tpl), (nSize, k 7, sz)])
noncomputable abbrev lnF3 (P : Params) (a : LnA) (k : Nat → Nat) (vwh : Value) (pl : Int) (tpl : Nat) (sz : Value) (ml : Addr) : Obj := frO P (lnC a k [(nWhites, k 5, vwh), (nPlace, k 6, .int pl tpl), (nSize, k 7, sz), (nMarks, k 8, .ref ml)])
section
variable {w₀ : World} {b1 b2 : Bool} {w : World} (hw : w = wf w₀ b1 b2) {scr : Obj} {h₀ : Heap} (G : Grd w scr h₀) {d : Drawn} {os : OsState} {A : Around} (lo : Lo A 600) {R : Result → Shared → Prop}
    {γ gfr lst c N₀ ga tn tq' tq lf wl t127 : Nat} {q : Int} {xs : Array Value} {rest : Own} {a : LnA}
include hw G lo
/-- one more white sign -/
theorem loop1_from {m : Nat} (hm : m < 1000) (hq : (q == 127) = false) (hq0 : (q == 0) = false) (hx : ∀ i, i < m → xs[i]? = some (.int q tq)) (hxm : xs[m]? = some (.int 127 t127)) (n : Nat) :
    ∀ (i : Nat) (x : GnX) (k : Nat → Nat) (ws : Array Value) (c0 tpl : Nat) (pl : Int) (h : Heap), i + n = m → GFor w scr h₀ d os γ gfr lst c N₀ xs rest i (.int q tq) x → IntsAre ws.toList (mults q i) → pl = i * q →
      RepC w scr h₀ d os h ⟨(lf, lnF2 w.params a k wl pl tpl (.int q tq)) :: (wl, listObj ws c0) :: (ga, genObj γ tn tq') :: x.Q, [], 0, 0, x.N, x.t, x.g⟩ →
      (∀ (ws : Array Value) (c0 tpl t' : Nat) (pl : Int) (g' : Array GenState) (h' : Heap), IntsAre ws.toList (mults q m) → RepC w scr h₀ d os h' ⟨(lf, lnF2 w.params a k wl pl tpl (.int q tq)) :: (wl, listObj ws c0) :: rest, [], 0, 0, N₀ + 3, t', g'⟩ → R (.ok .next) ⟨h', g', d, t', os⟩) →
      codeAny (model PySem.Challenge.pw_nq0197_01 w) A (lnLoop w.params 2 ga lf) R ⟨h, x.g, d, x.t, os⟩ := by
  induction n with
  | zero =>
    intro i x k ws c0 tpl pl h hi I hI hpl D z
    have hi : i = m := hi
    subst hi
    let H0 : Nat → Code → St → Prop := fun _ c st => c = gNext ga ∧ st = ⟨(lf, lnF2 w.params a k wl pl tpl (.int q tq)) :: (wl, listObj ws c0) :: (ga, genObj γ tn tq') :: x.Q, [], 0, 0, x.N, x.t, x.g⟩
    refine seg_run G lo (cs := [geCtr 3 (GDone N₀ rest)]) (H := seen2 pkTurn H0 (fun _ _ _ _ => False)) (fun j C cc st fr hj hh => ?_) (Eq.mpr (ln1_end w₀ b1 b2 w hw scr h₀ A R d os H0 (fun _ _ _ _ => False) _ (GDone N₀ rest) a k lf wl ga γ tn tq' c0 x.N x.t 0 tpl pl 0 (.int q tq) ws x.Q x.g) ?_) D
    · match j, hj with
      | 0, hj =>
        simp at hj
        subst hj
        obtain ⟨rfl, rfl⟩ := (show H0 0 cc st from hh)
        exact gn_end hw G I hxm rfl
    · refine ⟨eqs_want _ _ _, trivial, ⟨rfl, rfl⟩, fun y => ⟨eqs_want _ _ _, trivial, fun h' D' => ?_⟩⟩
      obtain ⟨⟨⟨Q, N, t, g⟩, hN, Q', hQ⟩, ex, tp⟩ := y
      simp only at hN hQ D' ⊢
      subst hN hQ
      refine z ws c0 tpl _ pl _ h' hI ((D'.sublist (j' := 0) (t' := t) ?_))
      exact .cons_cons _ (.cons_cons _ (.cons _ (.cons _ (List.sublist_append_right _ _))))
  | succ n ih =>
    intro i x k ws c0 tpl pl h hi I hI hpl D z
    have hz : ws.size = i := by rw [← Array.length_toList, ints_len hI, mults_len]
    let H0 : Nat → Code → St → Prop := fun _ c st => c = gNext ga ∧ st = ⟨(lf, lnF2 w.params a k wl pl tpl (.int q tq)) :: (wl, listObj ws c0) :: (ga, genObj γ tn tq') :: x.Q, [], 0, 0, x.N, x.t, x.g⟩
    let HH : Nat → Code → List (Option (Addr × Obj)) → Nat → Prop := fun _ c l t => c = lApp wl (.int (pl + q) (t + 1)) ∧ l = [some (wl, listObj ws c0)]
    refine seg_run G lo (cs := [gnCtr 3 (.int q tq) (GFor w scr h₀ d os γ gfr lst c N₀ xs rest (i + 1) (.int q tq)), apCtr 3 (fun st => ws.push (.int (pl + q) (st.t + 1)))]) (H := seen2 pkTurn H0 HH) (fun j C cc st fr hj hh => ?_) (Eq.mpr (ln1_next w₀ b1 b2 w hw scr h₀ A R d os H0 HH _ _ a k lf wl ga γ tn tq' c0 x.N x.t tq tpl pl q (.int q tq) ws x.Q x.g) ?_) D
    · match j, hj with
      | 0, hj =>
        simp at hj
        subst hj
        obtain ⟨rfl, rfl⟩ := (show H0 0 cc st from hh)
        exact gn_next hw G I (hx i (by omega)) hq hq0
      | 1, hj =>
        simp at hj
        subst hj
        obtain ⟨rfl, e⟩ := (show HH 1 cc ([3].map (lookS st)) st.t from hh)
        exact append_ok' (G.cfg lo) (by simpa using e) (by rw [hz]; unfold sizeLine; omega)
    · refine ⟨eqs_want _ _ _, trivial, ⟨rfl, rfl⟩, fun y => ⟨eqs_want _ _ _, trivial, ⟨rfl, rfl⟩, fun c' => ⟨trivial, trivial, fun h' D' => ?_⟩⟩⟩
      obtain ⟨y, Iy⟩ := y
      refine ih (i + 1) { y with t := y.t + 3 } k _ c' _ (pl + q) h' (by omega) Iy ?_ ?_ D' z
      · rw [mults_succ, Array.toList_push, hpl, show ((i : Int) * q + q) = ((i : Int) + 1) * q by rw [Int.add_mul, Int.one_mul]]
        exact ints_snoc hI _ _
      · rw [hpl]; push_cast; rw [Int.add_mul, Int.one_mul]
/-- the loop over the white signs -/
theorem loop1_run {m : Nat} (hm0 : 0 < m) (hm : m < 1000) (hq : (q == 127) = false) (hq0 : (q == 0) = false) (hx : ∀ i, i < m → xs[i]? = some (.int q tq)) (hxm : xs[m]? = some (.int 127 t127))
    {x : GnX} {k : Nat → Nat} {c0 tpl : Nat} {h : Heap} (I : GFresh w γ gfr lst c N₀ xs rest x)
    (D : RepC w scr h₀ d os h ⟨(lf, lnF1 w.params a k wl 0 tpl) :: (wl, listObj #[] c0) :: (ga, genObj γ tn tq') :: x.Q, [], 0, 0, x.N, x.t, x.g⟩)
    (z : ∀ (k7 : Nat) (ws : Array Value) (c0 tpl t' : Nat) (pl : Int) (g' : Array GenState) (h' : Heap), IntsAre ws.toList (mults q m) → RepC w scr h₀ d os h' ⟨(lf, lnF2 w.params a (upd k 7 k7) wl pl tpl (.int q tq)) :: (wl, listObj ws c0) :: rest, [], 0, 0, N₀ + 3, t', g'⟩ → R (.ok .next) ⟨h', g', d, t', os⟩) :
    codeAny (model PySem.Challenge.pw_nq0197_01 w) A (lnLoop w.params 2 ga lf) R ⟨h, x.g, d, x.t, os⟩ := by
  let H0 : Nat → Code → St → Prop := fun _ c st => c = gNext ga ∧ st = ⟨(lf, lnF1 w.params a k wl 0 tpl) :: (wl, listObj #[] c0) :: (ga, genObj γ tn tq') :: x.Q, [], 0, 0, x.N, x.t, x.g⟩
  let HH : Nat → Code → List (Option (Addr × Obj)) → Nat → Prop := fun _ c l t => c = lApp wl (.int (0 + q) (t + 1)) ∧ l = [some (wl, listObj #[] c0)]
  refine seg_run G lo (cs := [gnCtr 3 (.int q tq) (GFor w scr h₀ d os γ gfr lst c N₀ xs rest 1 (.int q tq)), apCtr 3 (fun st => (#[] : Array Value).push (.int (0 + q) (st.t + 1)))]) (H := seen2 pkTurn H0 HH) (fun j C cc st fr hj hh => ?_) (Eq.mpr (ln1_first w₀ b1 b2 w hw scr h₀ A R d os H0 HH _ _ a k lf wl ga γ tn tq' c0 x.N x.t tq tpl 0 q (.int q tq) #[] x.Q x.g) ?_) D
  · match j, hj with
    | 0, hj =>
      have hj := Option.some.inj hj
      subst hj
      obtain ⟨rfl, rfl⟩ := (show H0 0 cc st from hh)
      exact gn_fresh hw G I (hx 0 hm0) hq hq0
    | 1, hj =>
      have hj := Option.some.inj hj
      subst hj
      obtain ⟨rfl, e⟩ := (show HH 1 cc ([3].map (lookS st)) st.t from hh)
      exact append_ok' (G.cfg lo) (by simpa using e) (by decide)
  · refine ⟨eqs_want _ _ _, trivial, ⟨rfl, rfl⟩, fun y => ⟨eqs_want _ _ _, trivial, ⟨rfl, rfl⟩, fun c' => ⟨trivial, trivial, fun h' D' => ?_⟩⟩⟩
    obtain ⟨y, Iy⟩ := y
    refine loop1_from hw G lo hm hq hq0 hx hxm (m - 1) 1 { y with t := y.t + 3 } (upd k 7 y.t) _ c' _ (0 + q) h' (by omega) Iy ?_ ?_ D' (z y.t)
    · show IntsAre [.int (0 + q) _] [((0 : Nat) + 1 : Int) * q]
      rw [show (((0 : Nat) : Int) + 1) * q = 0 + q by simp]
      exact .cons _ _ .nil
    · simp
end
section
variable {w₀ : World} {b1 b2 : Bool} {w : World} (hw : w = wf w₀ b1 b2) {scr : Obj} {h₀ : Heap} (G : Grd w scr h₀) {d : Drawn} {os : OsState} {A : Around} (lo : Lo A 600) {R : Result → Shared → Prop}
    {γ gfr lst c N₀ ga tn tq' lf ml t0 : Nat} {xs : Array Value} {rest : Own} {a : LnA} {vwh : Value}
include hw G lo
/-- a turn of the loop over the marks, whatever the generator's state is -/
theorem loop2_turn {I I' : GnX → Prop} (hI : ∀ {p1 p2 : Addr × Obj} {x : GnX} {fr}, I x → CtrOk (cfg w scr h₀ A 600 R d os) (gnCtr 3 (.int a.p a.tp) I') (gNext ga) ⟨p1 :: p2 :: (ga, genObj γ tn tq') :: x.Q, [], 0, 0, x.N, x.t, x.g⟩ fr)
    (hT : ∀ (y : GnX) (t : Nat), I' y → I' { y with t := t }) (hb1 : -100000 < Int.fdiv a.p 2) (hb2 : Int.fdiv a.p 2 < 100000) {x : GnX} {k : Nat → Nat} {ms : Array Value} {c0 tpl : Nat} {pl : Int} {vsz : Value} {h : Heap} (hx : I x) (hz : ms.size < 1000)
    (D : RepC w scr h₀ d os h ⟨(lf, lnF3 w.params a k vwh pl tpl vsz ml) :: (ml, listObj ms c0) :: (ga, genObj γ tn tq') :: x.Q, [], 0, 0, x.N, x.t, x.g⟩)
    (more : ¬ (pl + a.p > Int.fdiv a.p 2 * a.q) → ∀ (y : GnX) (c' tpl' tm : Nat) h', I' y → RepC w scr h₀ d os h' ⟨(lf, lnF3 w.params a k vwh (pl + a.p) tpl' (.int a.p a.tp) ml) :: (ml, listObj (ms.push (.int (pl + a.p) tm)) c') :: (ga, genObj γ tn tq') :: y.Q, [], 0, 0, y.N, y.t, y.g⟩ → codeAny (model PySem.Challenge.pw_nq0197_01 w) A (lnLoop w.params 5 ga lf) R ⟨h', y.g, d, y.t, os⟩)
    (stop : pl + a.p > Int.fdiv a.p 2 * a.q → ∀ (y : GnX) (t' tpl' : Nat) h', I' y → RepC w scr h₀ d os h' ⟨(lf, lnF3 w.params a k vwh (pl + a.p) tpl' (.int a.p a.tp) ml) :: (ml, listObj ms c0) :: (ga, genObj γ tn tq') :: y.Q, [], 0, 0, y.N, t', y.g⟩ → R (.ok .next) ⟨h', y.g, d, t', os⟩) :
    codeAny (model PySem.Challenge.pw_nq0197_01 w) A (lnLoop w.params 5 ga lf) R ⟨h, x.g, d, x.t, os⟩ := by
  let H0 : Nat → Code → St → Prop := fun _ c st => c = gNext ga ∧ st = ⟨(lf, lnF3 w.params a k vwh pl tpl vsz ml) :: (ml, listObj ms c0) :: (ga, genObj γ tn tq') :: x.Q, [], 0, 0, x.N, x.t, x.g⟩
  let HH : Nat → Code → List (Option (Addr × Obj)) → Nat → Prop := fun _ c l t => c = lApp ml (.int (pl + a.p) (t + 1)) ∧ l = [some (ml, listObj ms c0)]
  have ok : ∀ i C c st fr, ([gnCtr 3 (.int a.p a.tp) I', apCtr 3 (fun st => ms.push (.int (pl + a.p) (st.t + 1)))] : List Ctr)[i]? = some C → seen2 pkTurn H0 HH i c st fr → CtrOk (cfg w scr h₀ A 600 R d os) C c st fr := by
    intro j C cc st fr hj hh
    match j, hj with
    | 0, hj =>
      have hj := Option.some.inj hj
      subst hj
      obtain ⟨rfl, rfl⟩ := (show H0 0 cc st from hh)
      exact hI hx
    | 1, hj =>
      have hj := Option.some.inj hj
      subst hj
      obtain ⟨rfl, e⟩ := (show HH 1 cc ([3].map (lookS st)) st.t from hh)
      exact append_ok' (G.cfg lo) (by simpa using e) (by unfold sizeLine; omega)
  by_cases hs : pl + a.p > Int.fdiv a.p 2 * a.q
  · refine seg_run G lo (H := seen2 pkTurn H0 HH) ok (Eq.mpr (ln2_stop w₀ b1 b2 w hw scr h₀ A R d os H0 HH _ I' a k lf ml ga γ tn tq' c0 x.N x.t a.tp tpl pl a.p vsz vwh ms x.Q x.g) ?_) D
    refine ⟨eqs_want _ _ _, trivial, ⟨rfl, rfl⟩, fun y => ⟨eqs_want _ _ _, ⟨⟨trivial, hb1, hb2⟩, by simpa using hs⟩, fun h' D' => ?_⟩⟩
    exact stop hs y.1 _ _ h' y.2 D'
  · refine seg_run G lo (H := seen2 pkTurn H0 HH) ok (Eq.mpr (ln2_more w₀ b1 b2 w hw scr h₀ A R d os H0 HH _ I' a k lf ml ga γ tn tq' c0 x.N x.t a.tp tpl pl a.p vsz vwh ms x.Q x.g) ?_) D
    refine ⟨eqs_want _ _ _, trivial, ⟨rfl, rfl⟩, fun y => ⟨eqs_want _ _ _, ⟨⟨trivial, hb1, hb2⟩, by simpa using hs⟩, ⟨rfl, rfl⟩, fun c' => ⟨trivial, trivial, fun h' D' => ?_⟩⟩⟩
    exact more hs { y.1 with t := y.1.t + 6 } c' _ _ h' (hT y.1 _ y.2) D'
/-- the marks' loop inside the generator's while -/
theorem loop2_from (hb1 : -100000 < Int.fdiv a.p 2) (hb2 : Int.fdiv a.p 2 < 100000) (hp : 0 < a.p) {m : Nat} (hm : m < 900) (hlast : Int.fdiv a.p 2 * a.q < (m + 1) * a.p) (hlast2 : m * a.p ≤ Int.fdiv a.p 2 * a.q) (n : Nat) :
    ∀ (i : Nat) (x : GnX) (k : Nat → Nat) (ms : Array Value) (c0 tpl : Nat) (pl : Int) (vsz : Value) (h : Heap), i + n = m → GWhile w scr h₀ d os γ gfr lst c N₀ xs rest (.int a.p a.tp) x → IntsAre ms.toList (mults a.p i) → pl = i * a.p →
      RepC w scr h₀ d os h ⟨(lf, lnF3 w.params a k vwh pl tpl vsz ml) :: (ml, listObj ms c0) :: (ga, genObj γ tn tq') :: x.Q, [], 0, 0, x.N, x.t, x.g⟩ →
      (∀ (ms : Array Value) (c0 tpl t' : Nat) (pl : Int) (g' : Array GenState) (h' : Heap), IntsAre ms.toList (mults a.p m) → RepC w scr h₀ d os h' ⟨(lf, lnF3 w.params a k vwh pl tpl (.int a.p a.tp) ml) :: (ml, listObj ms c0) :: rest, [], 0, 0, N₀ + 1, t', g'⟩ → R (.ok .next) ⟨h', g', d, t', os⟩) →
      codeAny (model PySem.Challenge.pw_nq0197_01 w) A (lnLoop w.params 5 ga lf) R ⟨h, x.g, d, x.t, os⟩ := by
  induction n with
  | zero =>
    intro i x k ms c0 tpl pl vsz h hi I hI hpl D z
    have hi : i = m := hi
    subst hi
    have hz : ms.size = i := by rw [← Array.length_toList, ints_len hI, mults_len]
    refine loop2_turn hw G lo (I := GWhile w scr h₀ d os γ gfr lst c N₀ xs rest (.int a.p a.tp)) (I' := GWhile w scr h₀ d os γ gfr lst c N₀ xs rest (.int a.p a.tp)) (fun I => gn_while hw G I) (fun y t I => I) hb1 hb2 I (by omega) D (fun hs => absurd ?_ hs) (fun hs y t' tpl' h' Iy D' => ?_)
    · rw [hpl]
      rw [Int.add_mul, Int.one_mul] at hlast
      omega
    · obtain ⟨gs, k0, k1, k2, uu, i', _, _, hN, hQ⟩ := Iy
      rw [hN, hQ] at D'
      exact z ms c0 tpl' t' _ _ h' hI (D'.sublist (j' := 0) (t' := t') (.cons_cons _ (.cons_cons _ (.cons _ (.cons _ (.cons _ (.cons _ (List.Sublist.refl _))))))))
  | succ n ih =>
    intro i x k ms c0 tpl pl vsz h hi I hI hpl D z
    have hz : ms.size = i := by rw [← Array.length_toList, ints_len hI, mults_len]
    have hle : ((i : Int) + 1) * a.p ≤ m * a.p := Int.mul_le_mul_of_nonneg_right (by omega) (by omega)
    rw [Int.add_mul, Int.one_mul] at hle
    refine loop2_turn hw G lo (I := GWhile w scr h₀ d os γ gfr lst c N₀ xs rest (.int a.p a.tp)) (I' := GWhile w scr h₀ d os γ gfr lst c N₀ xs rest (.int a.p a.tp)) (fun I => gn_while hw G I) (fun y t I => I) hb1 hb2 I (by omega) D (fun hs y c' tpl' tm h' Iy D' => ?_) (fun hs => absurd hs ?_)
    · refine ih (i + 1) y k _ c' tpl' (pl + a.p) _ h' (by omega) Iy ?_ ?_ D' z
      · rw [mults_succ, Array.toList_push, hpl, show ((i : Int) * a.p + a.p) = ((i : Int) + 1) * a.p by rw [Int.add_mul, Int.one_mul]]
        exact ints_snoc hI _ _
      · rw [hpl]; push_cast; rw [Int.add_mul, Int.one_mul]
    · rw [hpl]; omega
/-- the loop over the marks -/
theorem loop2_run (hb1 : -100000 < Int.fdiv a.p 2) (hb2 : Int.fdiv a.p 2 < 100000) (hp : 0 < a.p) (hp127 : (a.p == 127) = false) {m : Nat} (hm0 : 0 < m) (hm : m < 900) (hlast : Int.fdiv a.p 2 * a.q < (m + 1) * a.p) (hlast2 : m * a.p ≤ Int.fdiv a.p 2 * a.q)
    (hx0 : xs[0]? = some (.int a.p a.tp)) (hx1 : xs[1]? = some (.int 0 t0)) {x : GnX} {k : Nat → Nat} {c0 tpl : Nat} {vsz : Value} {h : Heap} (I : GFresh w γ gfr lst c N₀ xs rest x)
    (D : RepC w scr h₀ d os h ⟨(lf, lnF3 w.params a k vwh 0 tpl vsz ml) :: (ml, listObj #[] c0) :: (ga, genObj γ tn tq') :: x.Q, [], 0, 0, x.N, x.t, x.g⟩)
    (z : ∀ (ms : Array Value) (c0 tpl t' : Nat) (pl : Int) (g' : Array GenState) (h' : Heap), IntsAre ms.toList (mults a.p m) → RepC w scr h₀ d os h' ⟨(lf, lnF3 w.params a k vwh pl tpl (.int a.p a.tp) ml) :: (ml, listObj ms c0) :: rest, [], 0, 0, N₀ + 1, t', g'⟩ → R (.ok .next) ⟨h', g', d, t', os⟩) :
    codeAny (model PySem.Challenge.pw_nq0197_01 w) A (lnLoop w.params 5 ga lf) R ⟨h, x.g, d, x.t, os⟩ := by
  have hp0 : (a.p == 0) = false := by simp; omega
  have hle : ∀ i : Nat, i < m → ((i : Int) + 1) * a.p ≤ m * a.p := fun i hi => Int.mul_le_mul_of_nonneg_right (by omega) (by omega)
  refine loop2_turn hw G lo (I := GFresh w γ gfr lst c N₀ xs rest) (I' := GFor w scr h₀ d os γ gfr lst c N₀ xs rest 1 (.int a.p a.tp)) (fun I => gn_fresh hw G I hx0 hp127 hp0) (fun y t I => I) hb1 hb2 I (by decide) D (fun hs y c' tpl' tm h' Iy D' => ?_) (fun hs => absurd hs ?_)
  · have hI1 : IntsAre (#[].push (Value.int (0 + a.p) tm)).toList (mults a.p 1) := by
      show IntsAre [.int (0 + a.p) tm] [((0 : Nat) + 1 : Int) * a.p]
      rw [show (((0 : Nat) : Int) + 1) * a.p = 0 + a.p by simp]
      exact .cons _ _ .nil
    refine loop2_turn hw G lo (I := GFor w scr h₀ d os γ gfr lst c N₀ xs rest 1 (.int a.p a.tp)) (I' := GWhile w scr h₀ d os γ gfr lst c N₀ xs rest (.int a.p a.tp)) (fun I => gn_zero hw G I hx1 rfl rfl) (fun y t I => I) hb1 hb2 Iy (by simp) D' (fun hs y c' tpl' tm2 h' Iy D' => ?_) (fun hs y t' tpl' h' Iy D' => ?_)
    · have hm1 : 1 < m := by
        rcases Nat.lt_or_ge 1 m with h1 | h1
        · exact h1
        · have : m = 1 := by omega
          subst this
          exfalso; apply hs; simp at hlast ⊢; omega
      refine loop2_from hw G lo hb1 hb2 hp hm hlast hlast2 (m - 2) 2 y k _ c' tpl' (0 + a.p + a.p) _ h' (by omega) Iy ?_ ?_ D' z
      · rw [mults_succ, Array.toList_push]
        rw [show (((1 : Nat) : Int) + 1) * a.p = 0 + a.p + a.p by simp; omega]
        exact ints_snoc hI1 _ _
      · simp; omega
    · have hm1 : m = 1 := by
        have := hle 1
        rcases Nat.lt_or_ge 1 m with h1 | h1
        · have := this h1; simp at this hs; omega
        · omega
      subst hm1
      obtain ⟨gs, k0, k1, k2, uu, i', _, _, hN, hQ⟩ := Iy
      rw [hN, hQ] at D'
      exact z _ c' tpl' t' _ _ h' hI1 (D'.sublist (j' := 0) (t' := t') (.cons_cons _ (.cons_cons _ (.cons _ (.cons _ (.cons _ (.cons _ (List.Sublist.refl _))))))))
  · have := hle 0 hm0
    simp at this ⊢
    omega
end
end Mine
end Ln3

section Ln4
open PySem PySem.Calls PySem.W PySem.W.X PyProof.Rows
set_option Elab.async false
set_option maxRecDepth 100000
namespace Mine
noncomputable abbrev lnF4 (P : Params) (a : LnA) (k : Nat → Nat) (vwh vpl vsz : Value) (ml : Addr) (line : Str) (tl : Nat) : Obj := frO P (lnC a k [(nWhites, k 5, vwh), (nPlace, k 6, vpl), (nSize, k 7, vsz), (nMarks, k 8, .ref ml), (nLine, k 9, .str line tl)])
/-- the end of a list: StopIteration -/
noncomputable abbrev leCtr : Ctr := { X := Addr × Nat, D := 900, resp := fun x st => (.error (.ref x.1), ⟨st.base.take 1 ++ (x.1, excObj "StopIteration" x.2) :: st.base.drop 2, [], 0, st.j, st.N + 2, st.t, st.g⟩) }
noncomputable abbrev pk3 : Nat → Option (List Nat) := fun i => match i with
  | 0 => none
  | _ => some [7]
noncomputable abbrev lNext (it : Addr) : Code := .call (.builtin "list_iterator.__next__") ⟨[.ref it], []⟩
noncomputable abbrev lIn (l : Addr) (v : Value) : Code := .call (.builtin "list.__contains__") ⟨[.ref l, v], []⟩
set_option maxHeartbeats 0
theorem ln3_mark (w₀ : World) (b1 b2 : Bool) (w : World) (hw : w = wf w₀ b1 b2) (scr : Obj) (h₀ : Heap) (A : Around) (R : Result → Shared → Prop) (d : Drawn) (os : OsState) (H0 : Nat → Code → St → Prop) (HH : Nat → Code → List (Option (Addr × Obj)) → Nat → Prop) (PP : Result ⊕ Code → Own → Nat → Nat → Nat → Array GenState → Prop)
    (a : LnA) (k : Nat → Nat) (lf it sl ml i c c2 N t tl : Nat) (line : Str) (vwh vpl vsz : Value) (zv : Int) (tv : Nat) (ss ms : Array Value) (rest : Own) (g : Array GenState) :
    SegGoal w scr h₀ A 600 R d os [nextCtr sl i (.int zv tv), valCtr (.bool true)] (seen2 pk3 H0 HH) PP 100 (lnLoop w.params 7 it lf) [3] [[1, 1, 1, 1, 1, 7, 7], [1, 1, 1]] [4, 5, 1]
      ((lf, lnF4 w.params a k vwh vpl vsz ml line tl) :: (it, litObj sl i) :: (sl, listObj ss c) :: (ml, listObj ms c2) :: rest) N t g =
    (Eqs (want [lf, it, sl, ml] N [3]) ∧ True ∧ H0 0 (lNext it) ⟨(lf, lnF4 w.params a k vwh vpl vsz ml line tl) :: (it, litObj sl i) :: (sl, listObj ss c) :: (ml, listObj ms c2) :: rest, [], 0, 0, N, t, g⟩ ∧ ∀ _ : Unit, Eqs (want [lf, it, sl, ml] N [1, 1, 1, 1, 1, 7, 7]) ∧ True ∧ HH 1 (lIn ml (.int zv tv)) [some (ml, listObj ms c2)] t ∧ ∀ _ : Unit, Eqs (want [lf, it, sl, ml] N [1, 1, 1]) ∧ (True ∧ line.length ≠ 0 ∧ a.mark.length ≠ 0 ∧ (line ++ a.mark).length ≤ sizeLine) ∧ PP (.inr (lnLoop w.params 7 it lf)) ((lf, lnF4 w.params a k vwh (.int zv tv) vsz ml (line ++ a.mark) (t + 1)) :: (it, litObj sl (i + 1)) :: (sl, listObj ss c) :: (ml, listObj ms c2) :: rest) 0 N (t + 3) g) := by
  subst hw
  cases b1 <;> kernel_rfl
theorem ln3_white (w₀ : World) (b1 b2 : Bool) (w : World) (hw : w = wf w₀ b1 b2) (scr : Obj) (h₀ : Heap) (A : Around) (R : Result → Shared → Prop) (d : Drawn) (os : OsState) (H0 : Nat → Code → St → Prop) (HH : Nat → Code → List (Option (Addr × Obj)) → Nat → Prop) (PP : Result ⊕ Code → Own → Nat → Nat → Nat → Array GenState → Prop)
    (a : LnA) (k : Nat → Nat) (lf it sl ml i c c2 N t tl : Nat) (line : Str) (vwh vpl vsz : Value) (zv : Int) (tv : Nat) (ss ms : Array Value) (rest : Own) (g : Array GenState) :
    SegGoal w scr h₀ A 600 R d os [nextCtr sl i (.int zv tv), valCtr (.bool false)] (seen2 pk3 H0 HH) PP 100 (lnLoop w.params 7 it lf) [3] [[1, 1, 1, 1, 1, 7, 7], [1, 1, 1, 1]] [4, 5, 1, 1]
      ((lf, lnF4 w.params a k vwh vpl vsz ml line tl) :: (it, litObj sl i) :: (sl, listObj ss c) :: (ml, listObj ms c2) :: rest) N t g =
    (Eqs (want [lf, it, sl, ml] N [3]) ∧ True ∧ H0 0 (lNext it) ⟨(lf, lnF4 w.params a k vwh vpl vsz ml line tl) :: (it, litObj sl i) :: (sl, listObj ss c) :: (ml, listObj ms c2) :: rest, [], 0, 0, N, t, g⟩ ∧ ∀ _ : Unit, Eqs (want [lf, it, sl, ml] N [1, 1, 1, 1, 1, 7, 7]) ∧ True ∧ HH 1 (lIn ml (.int zv tv)) [some (ml, listObj ms c2)] t ∧ ∀ _ : Unit, Eqs (want [lf, it, sl, ml] N [1, 1, 1, 1]) ∧ ((True ∧ a.white.length ≠ 0 ∧ a.letter.length ≠ 0 ∧ (a.white ++ a.letter).length ≤ sizeLine) ∧ line.length ≠ 0 ∧ (a.white ++ a.letter).length ≠ 0 ∧ (line ++ (a.white ++ a.letter)).length ≤ sizeLine) ∧ PP (.inr (lnLoop w.params 7 it lf)) ((lf, lnF4 w.params a k vwh (.int zv tv) vsz ml (line ++ (a.white ++ a.letter)) (t + 2)) :: (it, litObj sl (i + 1)) :: (sl, listObj ss c) :: (ml, listObj ms c2) :: rest) 0 N (t + 4) g) := by
  subst hw
  cases b1 <;> kernel_rfl
theorem ln3_end (w₀ : World) (b1 b2 : Bool) (w : World) (hw : w = wf w₀ b1 b2) (scr : Obj) (h₀ : Heap) (A : Around) (R : Result → Shared → Prop) (d : Drawn) (os : OsState) (H0 : Nat → Code → St → Prop) (HH : Nat → Code → List (Option (Addr × Obj)) → Nat → Prop) (PP : Result ⊕ Code → Own → Nat → Nat → Nat → Array GenState → Prop)
    (a : LnA) (k : Nat → Nat) (lf it sl ml i c c2 N t tl : Nat) (line : Str) (vwh vpl vsz : Value) (zv : Int) (tv : Nat) (ss ms : Array Value) (rest : Own) (g : Array GenState) :
    SegGoal w scr h₀ A 600 R d os [leCtr] (seen2 pk3 H0 HH) PP 100 (lnLoop w.params 7 it lf) [3] [[3]] [4]
      ((lf, lnF4 w.params a k vwh vpl vsz ml line tl) :: (it, litObj sl i) :: (sl, listObj ss c) :: (ml, listObj ms c2) :: rest) N t g =
    (Eqs (want [lf, it, sl, ml] N [3]) ∧ True ∧ H0 0 (lNext it) ⟨(lf, lnF4 w.params a k vwh vpl vsz ml line tl) :: (it, litObj sl i) :: (sl, listObj ss c) :: (ml, listObj ms c2) :: rest, [], 0, 0, N, t, g⟩ ∧ ∀ x : Addr × Nat, Eqs (want [lf, x.1] N [3]) ∧ True ∧ PP (.inl (.ok .next)) ((lf, lnF4 w.params a k vwh vpl vsz ml line tl) :: (x.1, excObj "StopIteration" x.2) :: (sl, listObj ss c) :: (ml, listObj ms c2) :: rest) 0 (N + 2) t g) := by
  subst hw
  cases b1 <;> kernel_rfl
end Mine
end Ln4

section Ln5
open PySem PySem.Calls PySem.W PySem.W.X PyProof.Rows
set_option Elab.async false
set_option maxRecDepth 100000
namespace Mine
noncomputable def isInt (v : Int) : Value → Bool
  | .int n _ => n == v
  | _ => false
theorem ints_any {vs : List Value} {ns : List Int} (h : IntsAre vs ns) (v : Int) : vs.any (isInt v) = ns.contains v := by
  induction h with
  | nil => rfl
  | cons m u _ ih =>
    rw [List.any_cons, ih, List.contains_cons]
    show ((m == v) || _) = _
    by_cases e : m = v
    · subst e; rfl
    · rw [beq_eq_false_iff_ne.mpr e, beq_eq_false_iff_ne.mpr (Ne.symm e)]
theorem in_ok {V : Cfg} {st : St} {fr : Option (List Env)} {k l c t : Nat} {xs : Array Value} {ns : List Int} {v : Int} (e : lookS st k = some (l, listObj xs c)) (hI : IntsAre xs.toList ns) {b : Bool} (hb : ns.contains v = b) :
    CtrOk V (valCtr (.bool b)) (lIn l (.int v t)) st fr := by
  intro A h R lo _ D q
  have hl := D.look e
  refine code_meets F.slot_list_contains ⟨_, hl, rfl⟩ F.entry_list_contains (F.args_list_contains_2 _ _) (SeqAt.list_containsAt l xs c none #[] (.int v t) (isInt v)) ⟨hl, fun y hy => ?_, ?_⟩
  · obtain ⟨n, u, rfl⟩ := IntsAre.all hI y (by simpa using hy)
    exact SeqAt.EqAt.int_int _ _ _ _
  · rw [← Array.any_toList, ints_any hI v, hb]
    exact q () h D
theorem le_ok {V : Cfg} (O : CfgOk V) {base : Own} {N t c j : Nat} {g : Array GenState} {fr : Option (List Env)} {p : Addr × Obj} {it l i : Nat} {xs : Array Value} (h2 : (l, listObj xs c) ∈ base) (hx : xs[i]? = none) :
    CtrOk V leCtr (lNext it) ⟨p :: (it, litObj l i) :: base, [], 0, j, N, t, g⟩ fr := by
  intro A h R lo _ D q
  have ho := D.base _ (.tail _ (.head _))
  have hl := D.base _ (.tail _ (.tail _ h2))
  have hsz : h.objs.size = N := D.size
  have nod := D.nod
  simp only [List.map_cons, List.nodup_cons, List.mem_cons, not_or] at nod
  refine lit_end lo.handled ho hl hx (fun h' e tp hz hle he hk => ?_)
  have hle : N ≤ e := by have : h.objs.size ≤ e := hle; omega
  refine q (e, tp) h' ?_
  have hlt : e < N + 2 := by rw [← hsz, ← hz]; exact Heap.lt_size he
  have hlow := D.lowN
  refine ⟨by rw [hz, hsz]; rfl, rfl, fun b hb => ?_, ?_, fun b hb => ?_, fun b hb => ?_, Nat.le_trans hlow (Nat.le_add_right _ _), fun k _ hk => absurd hk (Nat.not_lt_zero k), fun b o z => hk b o (fun hb => ?_) (D.keep b o z), D.bare⟩
  · rcases List.mem_cons.mp hb with rfl | hb
    · exact hk _ _ nod.1.1 (D.base _ (.head _))
    rcases List.mem_cons.mp hb with rfl | hb
    · exact he
    · refine hk _ _ (fun hb' => nod.2.1 ?_) (D.base _ (.tail _ (.tail _ hb)))
      rw [← hb']; exact List.mem_map_of_mem hb
  · have hlt' : ∀ b ∈ p :: base, b.1 < e := fun b hb => by
      have h1 : b ∈ p :: (it, litObj l i) :: base := by
        rcases List.mem_cons.mp hb with rfl | hb
        · exact .head _
        · exact .tail _ (.tail _ hb)
      have h3 : b.1 < N := D.lt b h1
      exact Nat.lt_of_lt_of_le h3 hle
    show (p.1 :: e :: base.map (·.1)).Nodup
    refine List.nodup_cons.mpr ⟨fun hm => ?_, List.nodup_cons.mpr ⟨fun hm => ?_, nod.2.2⟩⟩
    · rcases List.mem_cons.mp hm with hm | hm
      · exact absurd (hlt' p (.head _)) (by rw [hm]; exact Nat.lt_irrefl _)
      · exact nod.1.2 hm
    · obtain ⟨b, hb, hb2⟩ := List.mem_map.mp hm
      exact absurd (hlt' b (.tail _ hb)) (by rw [hb2]; exact Nat.lt_irrefl _)
  · have key : ∀ b ∈ p :: (it, litObj l i) :: base, b.1 < N + 2 := fun b hb => Nat.lt_of_lt_of_le (D.lt b hb) (Nat.le_add_right _ _)
    rcases List.mem_cons.mp hb with rfl | hb
    · exact key _ (.head _)
    rcases List.mem_cons.mp hb with rfl | hb
    · exact hlt
    · exact key _ (.tail _ (.tail _ hb))
  · rcases List.mem_cons.mp hb with rfl | hb
    · exact D.low _ (.head _)
    rcases List.mem_cons.mp hb with rfl | hb
    · exact Nat.le_trans hlow hle
    · exact D.low _ (.tail _ (.tail _ hb))
  · have h1 := D.low (it, litObj l i) (.tail _ (.head _))
    exact Rep.notOld O h1 z hb
/-- what a place adds to the line -/
noncomputable def piece (a : LnA) (mk : List Int) (v : Int) : Str := if mk.contains v = true then a.mark else a.white ++ a.letter
noncomputable def lineOf (a : LnA) (mk : List Int) (line : Str) : List Int → Str
  | [] => line
  | v :: l => lineOf a mk (line ++ piece a mk v) l
theorem len_app (x y : Str) : (x ++ y).length = x.length + y.length := by
  show (x.cps ++ y.cps).size = _
  rw [Array.size_append]; rfl
section
variable {w₀ : World} {b1 b2 : Bool} {w : World} (hw : w = wf w₀ b1 b2) {scr : Obj} {h₀ : Heap} (G : Grd w scr h₀) {d : Drawn} {os : OsState} {A : Around} (lo : Lo A 600) {R : Result → Shared → Prop}
    {lf it sl ml c c2 N : Nat} {ss ms : Array Value} {mk : List Int} {rest : Own} {a : LnA} {k : Nat → Nat} {vwh vsz : Value} {g : Array GenState}
include hw G lo
theorem loop3_run (hms : IntsAre ms.toList mk) (ha1 : a.white.length = 1) (ha2 : a.letter.length = 1) (ha3 : a.mark.length = 1) (ns : List Int) :
    ∀ (i : Nat) (pre vs : List Value) (line : Str) (tl t : Nat) (vpl : Value) (h : Heap), ss.toList = pre ++ vs → pre.length = i → IntsAre vs ns → line.length ≠ 0 → line.length + 2 * ns.length < 10000 →
      RepC w scr h₀ d os h ⟨(lf, lnF4 w.params a k vwh vpl vsz ml line tl) :: (it, litObj sl i) :: (sl, listObj ss c) :: (ml, listObj ms c2) :: rest, [], 0, 0, N, t, g⟩ →
      (∀ (t' tl' : Nat) (vpl' : Value) (h' : Heap), RepC w scr h₀ d os h' ⟨(lf, lnF4 w.params a k vwh vpl' vsz ml (lineOf a mk line ns) tl') :: (ml, listObj ms c2) :: rest, [], 0, 0, N + 2, t', g⟩ → R (.ok .next) ⟨h', g, d, t', os⟩) →
      codeAny (model PySem.Challenge.pw_nq0197_01 w) A (lnLoop w.params 7 it lf) R ⟨h, g, d, t, os⟩ := by
  induction ns with
  | nil =>
    intro i pre vs line tl t vpl h hss hi hI hl0 hlz D z
    cases hI
    let H0 : Nat → Code → St → Prop := fun _ c' st => c' = lNext it ∧ st = ⟨(lf, lnF4 w.params a k vwh vpl vsz ml line tl) :: (it, litObj sl i) :: (sl, listObj ss c) :: (ml, listObj ms c2) :: rest, [], 0, 0, N, t, g⟩
    refine seg_run G lo (cs := [leCtr]) (H := seen2 pk3 H0 (fun _ _ _ _ => False)) (fun j C cc st fr hj hh => ?_) (Eq.mpr (ln3_end w₀ b1 b2 w hw scr h₀ A R d os H0 (fun _ _ _ _ => False) _ a k lf it sl ml i c c2 N t tl line vwh vpl vsz 0 0 ss ms rest g) ?_) D
    · match j, hj with
      | 0, hj =>
        have hj := Option.some.inj hj
        subst hj
        obtain ⟨rfl, rfl⟩ := (show H0 0 cc st from hh)
        refine le_ok (G.cfg lo) (.head _) ?_
        rw [← Array.getElem?_toList, hss, List.append_nil, List.getElem?_eq_none (by omega)]
    · refine ⟨eqs_want _ _ _, trivial, ⟨rfl, rfl⟩, fun x => ⟨eqs_want _ _ _, trivial, fun h' D' => ?_⟩⟩
      exact z t tl vpl h' (D'.sublist (j' := 0) (t' := t) (.cons_cons _ (.cons _ (.cons _ (.cons_cons _ (List.Sublist.refl _))))))
  | cons v ns ih =>
    intro i pre vs line tl t vpl h hss hi hI hl0 hlz D z
    cases hI with
    | cons _ tv hI =>
    rename_i vs
    have hx : ss[i]? = some (.int v tv) := by
      rw [← Array.getElem?_toList, hss, List.getElem?_append_right (by omega), hi, Nat.sub_self]; rfl
    have hss' : ss.toList = (pre ++ [.int v tv]) ++ vs := by rw [hss]; simp
    simp only [List.length_cons] at hlz
    let H0 : Nat → Code → St → Prop := fun _ c' st => c' = lNext it ∧ st = ⟨(lf, lnF4 w.params a k vwh vpl vsz ml line tl) :: (it, litObj sl i) :: (sl, listObj ss c) :: (ml, listObj ms c2) :: rest, [], 0, 0, N, t, g⟩
    let HH : Nat → Code → List (Option (Addr × Obj)) → Nat → Prop := fun _ c' l t => c' = lIn ml (.int v tv) ∧ l = [some (ml, listObj ms c2)]
    have ok : ∀ (b : Bool), mk.contains v = b → ∀ i' C c' st fr, ([nextCtr sl i (.int v tv), valCtr (.bool b)] : List Ctr)[i']? = some C → seen2 pk3 H0 HH i' c' st fr → CtrOk (cfg w scr h₀ A 600 R d os) C c' st fr := by
      intro b hb j C cc st fr hj hh
      match j, hj with
      | 0, hj =>
        have hj := Option.some.inj hj
        subst hj
        obtain ⟨rfl, rfl⟩ := (show H0 0 cc st from hh)
        exact nextc_ok (G.cfg lo) rfl (.tail _ (.tail _ (.head _))) hx
      | 1, hj =>
        have hj := Option.some.inj hj
        subst hj
        obtain ⟨rfl, e⟩ := (show HH 1 cc ([7].map (lookS st)) st.t from hh)
        exact in_ok (by simpa using e) hms hb
    have hz : sizeLine ≥ 10000 := by decide
    cases hb : mk.contains v with
    | true =>
      have hp : piece a mk v = a.mark := by unfold piece; rw [if_pos hb]
      refine seg_run G lo (H := seen2 pk3 H0 HH) (ok true hb) (Eq.mpr (ln3_mark w₀ b1 b2 w hw scr h₀ A R d os H0 HH _ a k lf it sl ml i c c2 N t tl line vwh vpl vsz v tv ss ms rest g) ?_) D
      refine ⟨eqs_want _ _ _, trivial, ⟨rfl, rfl⟩, fun _ => ⟨eqs_want _ _ _, trivial, ⟨rfl, rfl⟩, fun _ => ⟨eqs_want _ _ _, ⟨trivial, hl0, by omega, by rw [len_app]; omega⟩, fun h' D' => ?_⟩⟩⟩
      refine ih (i + 1) _ vs _ _ _ _ h' hss' (by simp [hi]) hI (by rw [len_app]; omega) (by rw [len_app]; omega) D' (fun t' tl' vpl' h2 D2 => z t' tl' vpl' h2 ?_)
      rw [← hp] at D2; exact D2
    | false =>
      have hp : piece a mk v = a.white ++ a.letter := by unfold piece; rw [if_neg (by rw [hb]; decide)]
      refine seg_run G lo (H := seen2 pk3 H0 HH) (ok false hb) (Eq.mpr (ln3_white w₀ b1 b2 w hw scr h₀ A R d os H0 HH _ a k lf it sl ml i c c2 N t tl line vwh vpl vsz v tv ss ms rest g) ?_) D
      refine ⟨eqs_want _ _ _, trivial, ⟨rfl, rfl⟩, fun _ => ⟨eqs_want _ _ _, trivial, ⟨rfl, rfl⟩, fun _ => ⟨eqs_want _ _ _, ⟨⟨trivial, by omega, by omega, by rw [len_app]; omega⟩, hl0, by rw [len_app]; omega, by rw [len_app, len_app]; omega⟩, fun h' D' => ?_⟩⟩⟩
      refine ih (i + 1) _ vs _ _ _ _ h' hss' (by simp [hi]) hI (by rw [len_app]; omega) (by rw [len_app, len_app]; omega) D' (fun t' tl' vpl' h2 D2 => z t' tl' vpl' h2 ?_)
      rw [← hp] at D2; exact D2
end
end Mine
end Ln5

section Lm
open PySem PySem.Calls PySem.W PySem.W.X PyProof.Rows
set_option Elab.async false
set_option maxRecDepth 100000
namespace Mine
noncomputable def lnK (t : Nat) : Nat → Nat := fun i => match i with
  | 0 => t
  | 1 => t + 1
  | 2 => t + 2
  | 3 => t + 3
  | 4 => t + 4
  | 5 => t + 5
  | 6 => t + 7
  | _ => 0
structure L1X where
  ws : Array Value
  c : Nat
  k7 : Nat
  tpl : Nat
  t : Nat
  pl : Int
  g : Array GenState
structure L2X where
  ms : Array Value
  c : Nat
  tpl : Nat
  t : Nat
  pl : Int
  g : Array GenState
noncomputable abbrev none9 : List (Option Obj) := [none, none, none, none, none, none, none, none, none]
noncomputable abbrev l1Ctr (P : Params) (a : LnA) (wn : List Int) (t : Nat) : Ctr := { X := { x : L1X // IntsAre x.ws.toList wn }, D := 600, resp := fun x st => (.ok .next, ⟨st.base, none9 ++ [some (listObj x.1.ws x.1.c), some (lnF2 P a (upd (lnK t) 7 x.1.k7) (st.N + 1) x.1.pl x.1.tpl (.int a.q a.tq))], 11, 0, st.N, x.1.t, x.1.g⟩) }
noncomputable def lset : List DictEntry → Nat → Value → List DictEntry
  | [], _, _ => []
  | e :: l, i, v => match Nat.beq i 0 with
    | true => { e with val := v } :: l
    | false => e :: lset l (i - 1) v
/-- another value in a frame -/
noncomputable def dSet (o : Obj) (i : Nat) (v : Value) : Obj := match o with
  | ⟨c, d, dt, sl⟩ => match dt with
    | .dict es n => ⟨c, d, .dict (lset es.toList i v).toArray n, sl⟩
    | dt => ⟨c, d, dt, sl⟩
noncomputable def itemsOf (p : Option (Addr × Obj)) : Array Value := match p with
  | some q => match q.2.data with
    | .seq xs _ => xs
    | _ => #[]
  | none => #[]
noncomputable abbrev itemsAt (st : St) (k : Nat) : Array Value := itemsOf (lookS st k)
noncomputable abbrev pushF (f : St → Obj) : Ctr := { X := Unit, D := 900, resp := fun _ st => (.ok (.ret (.ref (st.N + st.n))), { st with nw := some (f st) :: st.nw, n := st.n + 1 }) }
noncomputable def nwO (st : St) (i : Nat) : Obj := (nwAt st.nw i).getD default
noncomputable abbrev l2Ctr (a : LnA) (mn : List Int) : Ctr := { X := { x : L2X // IntsAre x.ms.toList mn }, D := 600, resp := fun x st => (.ok .next, ⟨st.base, none :: none :: none :: none :: some (listObj x.1.ms x.1.c) :: nwSet (st.nw.drop 4) 10 (dSet (dSet (nwO st 14) 6 (.int x.1.pl x.1.tpl)) 7 (.int a.p a.tp)), 16, 0, st.N, x.1.t, x.1.g⟩) }
noncomputable abbrev l3Ctr (line : Str) : Ctr := { X := Nat × Nat × Value, D := 600, resp := fun x st => (.ok .next, ⟨st.base, none :: none :: none :: none :: none :: none :: none :: none :: none :: none :: none :: none :: nwSet (st.nw.drop 10) 11 (dSet (dSet (nwO st 21) 6 x.2.2) 9 (.str line x.2.1)), 24, 0, st.N, x.1, st.g⟩) }
noncomputable abbrev strCtr (s : Str) : Ctr := { X := Nat × Nat, D := 900, resp := fun x st => (.ok (.ret (.str s x.1)), { st with j := 0, t := x.2 }) }
noncomputable abbrev lenCtr (n : Int) : Ctr := { X := Unit, D := 900, resp := fun _ st => (.ok (.ret (.int n (st.t + st.j + 1))), { st with j := st.j + 2 }) }
noncomputable abbrev sortCtr (sn : List Int) : Ctr := { X := { x : Array Value × Nat // IntsAre x.1.toList sn }, D := 880, resp := fun x st => (.ok (.ret (.ref (st.N + st.n + 1))), { st with nw := none :: none :: some (listObj x.1.1 x.1.2) :: none :: st.nw, n := st.n + 4 }) }
noncomputable abbrev lnPk : Nat → Option (List Nat) := fun i => match i with
  | 0 => some [6]
  | 1 => some [8, 10]
  | 2 => some []
  | 3 => none
  | 4 => some []
  | 5 => none
  | 6 => some [4, 24]
  | 7 => some [34]
  | 8 => none
  | 9 => some [24]
  | _ => some []
/-- the sizes of the white signs' line -/
noncomputable def qs (a : LnA) : Array Value := List.foldl (fun x1 x2 => x1 ++ x2) #[] (List.replicate (Int.fdiv a.p 2).toNat #[.int a.q a.tq])
noncomputable def lnHl : List Nat := [2, 2, 2, 2, 2, 2, 2, 2, 2, 2, 2, 2, 2, 2, 0, 2, 2, 6, 6, 6]
noncomputable def lnHs : List (List Nat) := [[2, 8, 10, 8], [0], [16, 16, 16, 16], [2, 2, 2, 2, 0, 2, 2, 0], [30, 30, 30, 30], [2, 2, 2, 0, 0, 2, 2, 4, 24, 4], [], [38, 38, 38, 44], [2, 2, 0, 0, 2], [], [], []]
noncomputable abbrev lnCs (P : Params) (a : LnA) (wn mn sn : List Int) (t N : Nat) (lin ys fin : Str) (L1 : Array Value) (mz : Int) : List Ctr :=
  [pushCtr (listObj (qs a) 0), pushCtr (listObj L1 0), genCtr P (N + 5), l1Ctr P a wn t, genCtr P (N + 12), l2Ctr a mn, pushF (fun st => listObj (itemsAt st 4 ++ itemsAt st 24) 0), sortCtr sn, l3Ctr lin, lenCtr mz, strCtr ys, strCtr fin]
noncomputable abbrev lnCall (a : LnA) : Code := .call (.ref 762) ⟨[.int a.p a.tp, .int a.q a.tq, .str a.white a.tw, .str a.mark a.tm, .str a.letter a.tl], []⟩
set_option maxHeartbeats 0
theorem ln_seg (w₀ : World) (b1 b2 : Bool) (w : World) (hw : w = wf w₀ b1 b2) (scr : Obj) (h₀ : Heap) (A : Around) (R : Result → Shared → Prop) (d : Drawn) (os : OsState) (H0 : Nat → Code → St → Prop) (HH : Nat → Code → List (Option (Addr × Obj)) → Nat → Prop) (PP : Result ⊕ Code → Own → Nat → Nat → Nat → Array GenState → Prop)
    (a : LnA) (wn mn sn : List Int) (N t : Nat) (lin ys fin : Str) (L1 : Array Value) (mz : Int) (rest : Own) (g : Array GenState) :
    SegGoal w scr h₀ A 400 R d os (lnCs w.params a wn mn sn t N lin ys fin L1 mz) (seen2 lnPk H0 HH) PP 400 (lnCall a) lnHl lnHs [0, 0, 4, 5, 6, 0, 7, 8, 0, 9, 10, 11, 0, 12, 13, 0, 0, 14, 15] rest N t g =
    (Eqs (want [] N lnHl) ∧ True ∧ HH 0 (.call (.builtin "list.__mul__") ⟨[.ref (N + 2), .int (Int.fdiv a.p 2) (t + 9)], []⟩) [some (N + 2, listObj #[.int a.q a.tq] 0)] t ∧ ∀ _ : Unit,
      Eqs (want [] N [2, 8, 10, 8]) ∧ True ∧ HH 1 (.call (.builtin "list.__add__") ⟨[.ref (N + 3), .ref (N + 4)], []⟩) [some (N + 3, listObj (qs a) 0), some (N + 4, listObj #[.int 127 (t + 10), .int a.p a.tp] 0)] t ∧ ∀ _ : Unit,
      Eqs [] ∧ True ∧ HH 2 (.call (.ref 741) ⟨[.ref (N + 5)], []⟩) [] t ∧ ∀ _ : Unit,
      Eqs (want [] N [16, 16, 16, 16]) ∧ True ∧ H0 3 (lnLoop w.params 2 (N + 7) N) ⟨rest, [some (genObj g.size (t + 12) (t + 13)), some (genFr1 w.params (t + 11) (N + 5)), some (listObj L1 0), some (listObj #[.int 127 (t + 10), .int a.p a.tp] 0), some (listObj (qs a) 0), some (listObj #[.int a.q a.tq] 0), some (listObj #[] 0), some (lnF1 w.params a (lnK t) (N + 1) 0 (t + 6))], 8, 14, N, t, g.push (.fresh (genCode w.params (N + 6)))⟩ ∧ ∀ x1 : { x : L1X // IntsAre x.ws.toList wn },
      Eqs (want [] N [2, 2, 2, 2, 0, 2, 2, 0]) ∧ True ∧ HH 4 (.call (.ref 741) ⟨[.ref (N + 12)], []⟩) [] x1.1.t ∧ ∀ _ : Unit,
      Eqs (want [] N [30, 30, 30, 30]) ∧ True ∧ H0 5 (lnLoop w.params 5 (N + 14) N) ⟨rest, [some (genObj x1.1.g.size (x1.1.t + 5) (x1.1.t + 6)), some (genFr1 w.params (x1.1.t + 4) (N + 12)), some (listObj #[.int a.p a.tp, .int 0 (x1.1.t + 3), .int a.q a.tq] 0), some (listObj #[] 0)] ++ none9 ++ [some (listObj x1.1.ws x1.1.c), some (lnF3 w.params a (upd (upd (lnK t) 7 x1.1.k7) 8 x1.1.t) (.ref (N + 1)) 0 (x1.1.t + 1) (.int a.q a.tq) (N + 11))], 15, 7, N, x1.1.t, x1.1.g.push (.fresh (genCode w.params (N + 13)))⟩ ∧ ∀ x2 : { x : L2X // IntsAre x.ms.toList mn },
      Eqs (want [] N [2, 2, 2, 0, 0, 2, 2, 4, 24, 4]) ∧ True ∧ HH 6 (.call (.builtin "list.__add__") ⟨[.ref (N + 1), .ref (N + 11)], []⟩) [some (N + 1, listObj x1.1.ws x1.1.c), some (N + 11, listObj x2.1.ms x2.1.c)] x2.1.t ∧ ∀ _ : Unit,
      Eqs [] ∧ True ∧ HH 7 (.call (.builtin "sorted") ⟨[.ref (N + 16)], []⟩) [some (N + 16, listObj (x1.1.ws ++ x2.1.ms) 0)] x2.1.t ∧ ∀ x3 : { x : Array Value × Nat // IntsAre x.1.toList sn },
      Eqs (want [] N [38, 38, 38, 44]) ∧ True ∧ H0 8 (lnLoop w.params 7 (N + 21) N) ⟨rest, [some (litObj (N + 18) 0), none, none, some (listObj x3.1.1 x3.1.2), none, some (listObj (x1.1.ws ++ x2.1.ms) 0), none, none, none, none, some (listObj x2.1.ms x2.1.c)] ++ none9 ++ [some (listObj x1.1.ws x1.1.c), some (lnF4 w.params a (upd (upd (upd (lnK t) 7 x1.1.k7) 8 x1.1.t) 9 x2.1.t) (.ref (N + 1)) (.int x2.1.pl x2.1.tpl) (.int a.p a.tp) (N + 11) a.letter a.tl)], 22, 1, N, x2.1.t, x2.1.g⟩ ∧ ∀ x4 : Nat × Nat × Value,
      Eqs (want [] N [2, 2, 0, 0, 2]) ∧ True ∧ HH 9 (.call (.builtin "len") ⟨[.ref (N + 11)], []⟩) [some (N + 11, listObj x2.1.ms x2.1.c)] x4.1 ∧ ∀ _ : Unit,
      Eqs [] ∧ True ∧ HH 10 (.call (.builtin "str.__mul__") ⟨[.str a.mark a.tm, .int (Int.fmod mz 2) (x4.1 + 3)], []⟩) [] x4.1 ∧ ∀ y : Nat × Nat,
      Eqs [] ∧ True ∧ HH 11 (.call (.builtin "str.__add__") ⟨[.str lin x4.2.1, .str ys y.1], []⟩) [] y.2 ∧ ∀ y2 : Nat × Nat,
      Eqs [] ∧ True ∧ PP (.inl (.ok (.ret (.str fin y2.1)))) rest 24 N y2.2 x2.1.g) := by
  subst hw
  cases b1 <;> kernel_rfl
end Mine
end Lm

section Lm2
open PySem PySem.Calls PySem.W PySem.W.X PyProof.Rows
set_option Elab.async false
set_option maxRecDepth 100000
namespace Mine
/-- new objects behind a built-in that keeps all else -/
theorem Rep.grow {V : Cfg} {h h' : Heap} {st : St} {j' t' : Nat} (D : Rep V h st) (hk : ∀ b o, h.get? b = some o → h'.get? b = some o) (l : List (Option Obj)) (hz : h'.objs.size = h.objs.size + l.length)
    (hn : ∀ k o, k < l.length → l[l.length - 1 - k]? = some (some o) → h'.get? (st.N + st.n + k) = some o) : Rep V h' ⟨st.base, l ++ st.nw, st.n + l.length, j', st.N, t', st.g⟩ := by
  have hlen := D.len
  refine ⟨by rw [hz, D.size]; simp only; omega, by simp; omega, fun p hp => hk _ _ (D.base p hp), D.nod, D.lt, D.low, D.lowN, fun k o hlt e => ?_, fun b o z => hk _ _ (D.keep b o z), D.bare⟩
  simp only at hlt e
  by_cases hkn : k < st.n
  · rw [List.getElem?_append_right (by omega), show st.n + l.length - 1 - k - l.length = st.n - 1 - k by omega] at e
    exact hk _ _ (D.new k o hkn e)
  · rw [List.getElem?_append_left (by omega), show st.n + l.length - 1 - k = l.length - 1 - (k - st.n) by omega] at e
    have := hn (k - st.n) o (by omega) e
    rw [show st.N + st.n + (k - st.n) = st.N + k by omega] at this
    exact this
section
variable {prog : Program} {w : World} {A : Around} {s : Shared} {R : Result → Shared → Prop}
theorem sorted_code {l : Addr} {vs : List Value} {ns : List Int} (hl : s.heap.IsList l vs.toArray) (hI : IntsAre vs ns) (h64 : vs.length < 64)
    (h : ∀ (out : Array Value) (ns' : List Int), IntsAre out.toList ns' → ns'.Perm ns → ns'.Pairwise (· ≤ ·) → R (.ok (.ret (.ref (s.heap.objs.size + 1)))) { s with heap := sortedAll s.heap vs out }) :
    codeAny (model prog w) A (.call (.builtin "sorted") ⟨[.ref l], []⟩) R s := by
  refine code_fn_entry kind_sorted plain_sorted entry_sorted (args_sorted1 _) ?_
  unfold Builtin.«sorted»
  refine wpAny_bind (m := checkCount "sorted" 1 1 _) (wpAny_pure ?_)
  refine wpAny_bind (collect_list hl ?_)
  refine wpAny_bind (wpAny_newList ?_)
  have hsz : ((s.heap.push (seqObj "list" #[] 0)).update s.heap.objs.size (Obj.mapSeq (· ++ vs.toArray))).objs.size = s.heap.objs.size + 1 := by
    rw [Heap.size_update, size_push']
  have hoL : (((s.heap.push (seqObj "list" #[] 0)).update s.heap.objs.size (Obj.mapSeq (· ++ vs.toArray))).push (seqObj "list" vs.toArray 0)).get? (s.heap.objs.size + 1) = some (seqObj "list" vs.toArray 0) := by
    rw [← hsz]; exact Heap.get?_push_size _ rfl
  show wpAny _ _ _ _ _ { s with heap := ((s.heap.push (seqObj "list" #[] 0)).update s.heap.objs.size (Obj.mapSeq (· ++ vs.toArray))).push (seqObj "list" vs.toArray 0) }
  rw [hsz]
  refine wpAny_bind (wpAny_holding (wpAny_call_entry slot_list_sort ⟨_, hoL, rfl⟩ entry_list_sort (list_sort_tree hoL hI h64 fun out ns' a1 a2 a3 => ⟨_, rfl, ?_⟩) (args_list_sort _)))
  exact wpAny_pure ⟨_, rfl, h out ns' a1 a2 a3⟩
theorem sortedAll_size (h : Heap) (vs : List Value) (out : Array Value) : (sortedAll h vs out).objs.size = h.objs.size + 4 := by
  unfold sortedAll sortedHeap
  simp only [Heap.size_update, size_push']
theorem p_strMul (x : Str) (n : Int) (t u : Nat) (hn : n = 0 ∨ n = 1) (z : ∀ tk t', R (.ok (.ret (.str (if n = 1 then x else ⟨#[]⟩) tk))) { s with toks := t' }) :
    codeAny (model prog w) A (.call (.builtin "str.__mul__") ⟨[.str x t, .int n u], []⟩) R s := by
  refine codeAny_call_builtin PySem.F.slot_str_mul.plain PySem.F.entry_str_mul (PySem.F.slot_str_mul.check _ _ _ _ _ _ _ _ (typeIs_str s x t) (PySem.F.args_str_mul_2 _ _) ?_)
  refine gives_str_mul x n t u (by rcases hn with rfl | rfl <;> decide) ?_ ?_ prog w A R s ?_
  · rcases hn with rfl | rfl
    · intro h; exact absurd (by decide) h
    · intro _ h; simp at h
  · rcases hn with rfl | rfl
    · intro h; exact absurd (by decide) h
    · intro _ h; simp at h
  · rcases hn with rfl | rfl
    · exact ⟨by decide, z s.toks (s.toks + 1)⟩
    · exact z t s.toks
theorem p_strAdd2 (x y : Str) (t1 t2 : Nat) (hx : x.length ≠ 0) (hz : (x ++ y).length ≤ sizeLine) (z : ∀ tk t', R (.ok (.ret (.str (x ++ y) tk))) { s with toks := t' }) :
    codeAny (model prog w) A (.call (.builtin "str.__add__") ⟨[.str x t1, .str y t2], []⟩) R s := by
  refine codeAny_call_builtin PySem.F.slot_str_add.plain PySem.F.entry_str_add (PySem.F.slot_str_add.check _ _ _ _ _ _ _ _ (typeIs_str s x t1) (PySem.F.args_str_add_2 _ _) ?_)
  refine gives_str_add x y t1 t2 prog w A R s ?_
  have e1 : (x.length == 0) = false := by simpa using hx
  rw [e1]
  by_cases hy : y.length = 0
  · have e2 : (y.length == 0) = true := by simpa using hy
    rw [e2]
    have hxy : x ++ y = x := by
      obtain ⟨⟨xs⟩⟩ := x
      obtain ⟨⟨ys⟩⟩ := y
      have : ys = [] := List.eq_nil_of_length_eq_zero hy
      subst this
      show (⟨⟨xs⟩ ++ ⟨[]⟩⟩ : Str) = _
      simp
    rw [hxy] at z
    exact z t1 s.toks
  · have e2 : (y.length == 0) = false := by simpa using hy
    rw [e2]
    exact ⟨hz, z s.toks (s.toks + 1)⟩
theorem len_list_code {l c : Nat} {xs : Array Value} (hl : s.heap.get? l = some (listObj xs c)) (hz : xs.size < 10000) (z : R (.ok (.ret (.int (xs.size : Int) (s.toks + 1)))) { s with toks := s.toks + 2 }) :
    codeAny (model prog w) A (.call (.builtin "len") ⟨[.ref l], []⟩) R s := by
  refine code_fn_entry kind_len plain_len entry_len (args_len1 _) ?_
  unfold Builtin.«len»
  refine wpAny_bind (m := oneArg "len" _) (wpAny_pure ?_)
  refine wpAny_bind (m := callSpecial? (.ref l) (Str.ofString "__len__")) (wpAny_callSpecial?_slot (name := Str.ofString "__len__") (T := "list") ⟨_, hl, rfl⟩ PySem.F.slot_list_len (call_meets PySem.F.slot_list_len ⟨_, hl, rfl⟩ PySem.F.entry_list_len (PySem.F.args_list_len_1 _) (AutoListH.list___len___list_0 l xs c) ⟨hl, ?_⟩))
  show wpAny _ _ _ _ _ { s with toks := s.toks + 1 }
  refine wpAny_bind (wpAny_holding (wpAny_pure ?_))
  refine wpAny_bind (wpAny_letGo ?_)
  show wpAny _ _ (if (xs.size : Int) < 0 then _ else _) _ _ _
  rw [if_neg (by omega)]
  show wpAny _ _ (if (xs.size : Int) ≥ 2 ^ 63 then _ else _) _ _ _
  rw [if_neg (by omega)]
  exact wpAny_bind (wpAny_mkInt (wpAny_pure ⟨_, rfl, z⟩))
end
section
variable {V : Cfg} {st : St} {fr : Option (List Env)}
theorem sort_ok {k l c : Nat} {xs : Array Value} {ns sn : List Int} (e : lookS st k = some (l, listObj xs c)) (hI : IntsAre xs.toList ns) (h64 : ns.length < 64) (hp : sn.Perm ns) (hs : sn.Pairwise (· ≤ ·)) :
    CtrOk V (sortCtr sn) (.call (.builtin "sorted") ⟨[.ref l], []⟩) st fr := by
  intro A h R lo _ D q
  have hl := D.look e
  refine sorted_code (vs := xs.toList) ⟨_, hl, rfl, c, rfl⟩ hI (by rw [ints_len hI]; exact h64) (fun out ns' a1 a2 a3 => ?_)
  have en : ns' = sn := List.Perm.eq_of_pairwise (fun a b _ _ h1 h2 => Int.le_antisymm h1 h2) a3 hs (a2.trans hp.symm)
  subst en
  obtain ⟨e', he⟩ := sortedAll_at h xs.toList out
  have hsz : h.objs.size = st.N + st.n := D.size
  have D2 := D.grow (h' := sortedAll h xs.toList out) (j' := st.j) (t' := st.t) (fun _ _ => sortedAll_old) [none, none, some (listObj out e'), none] (by rw [sortedAll_size]; rfl) (fun k o hk ek => by
    match k, hk with
    | 0, _ => cases ek
    | 1, _ => cases ek; rw [← hsz]; exact he
    | 2, _ => cases ek
    | 3, _ => cases ek)
  have y := q ⟨(out, e'), a1⟩ _ D2
  show R (.ok (.ret (.ref (h.objs.size + 1)))) _
  rw [hsz]
  exact y
theorem str_ok' {s : Str} {c : Code} (hc : ∀ (prog : Program) (w : World) (A : Around) (R : Result → Shared → Prop) (s₀ : Shared), (∀ tk t', R (.ok (.ret (.str s tk))) { s₀ with toks := t' }) → codeAny (model prog w) A c R s₀) : CtrOk V (strCtr s) c st fr := by
  intro A h R lo _ D q
  exact hc _ _ _ _ _ fun tk t' => q (tk, t') h D.toks
theorem len_ok {k l c : Nat} {xs : Array Value} {n : Int} (e : lookS st k = some (l, listObj xs c)) (hz : xs.size < 10000) (hn : n = (xs.size : Int)) : CtrOk V (lenCtr n) (.call (.builtin "len") ⟨[.ref l], []⟩) st fr := by
  intro A h R lo _ D q
  subst hn
  exact len_list_code (D.look e) hz (q () h D.toks)
end
end Mine
end Lm2

section Lm3
open PySem PySem.Calls PySem.W PySem.W.X PyProof.Rows
set_option Elab.async false
set_option maxRecDepth 100000
namespace Mine
theorem addF_ok {V : Cfg} {st : St} {fr : Option (List Env)} {k l c k2 l2 c2 : Nat} {xs ys : Array Value} (e : lookS st k = some (l, listObj xs c)) (e2 : lookS st k2 = some (l2, listObj ys c2)) (hz : xs.size + ys.size ≤ sizeLine) :
    CtrOk V (pushF (fun st => listObj (itemsAt st k ++ itemsAt st k2) 0)) (.call (.builtin "list.__add__") ⟨[.ref l, .ref l2], []⟩) st fr := by
  intro A h R lo hf D q
  refine add_ok e e2 hz A h R lo hf D (fun x h' D' => ?_)
  have := q x h'
  simp only [pushF, itemsAt, e, e2] at this
  exact this D'
theorem foldl_app (l : List (Array Value)) : ∀ z : Array Value, (l.foldl (fun x1 x2 => x1 ++ x2) z).toList = z.toList ++ (l.map (·.toList)).flatten := by
  induction l with
  | nil => intro z; simp
  | cons x l ih => intro z; rw [List.foldl_cons, ih]; simp
theorem qs_list (a : LnA) : (qs a).toList = List.replicate (Int.fdiv a.p 2).toNat (.int a.q a.tq) := by
  unfold qs
  rw [foldl_app]
  generalize (Int.fdiv a.p 2).toNat = n
  induction n with
  | zero => rfl
  | succ n ih => rw [List.replicate_succ, List.replicate_succ, List.map_cons, List.flatten_cons]; simp at ih ⊢
theorem ints_append {vs us : List Value} {ns ms : List Int} (h : IntsAre vs ns) (h2 : IntsAre us ms) : IntsAre (vs ++ us) (ns ++ ms) := by
  induction h with
  | nil => exact h2
  | cons m u _ ih => exact .cons m u ih
/-- the line of _law_line -/
noncomputable def lawLine (a : LnA) (mk sn : List Int) : Str := lineOf a mk a.letter sn ++ (if (mk.length : Int).fmod 2 = 1 then a.mark else ⟨#[]⟩)
theorem lineOf_len (a : LnA) (mk : List Int) (h1 : a.white.length = 1) (h2 : a.letter.length = 1) (h3 : a.mark.length = 1) : ∀ (sn : List Int) (line : Str), line.length ≤ (lineOf a mk line sn).length ∧ (lineOf a mk line sn).length ≤ line.length + 2 * sn.length
  | [], line => ⟨Nat.le_refl _, Nat.le_refl _⟩
  | v :: sn, line => by
    have := lineOf_len a mk h1 h2 h3 sn (line ++ piece a mk v)
    have hp : (piece a mk v).length ≤ 2 := by
      unfold piece
      split
      · omega
      · rw [len_app]; omega
    rw [len_app] at this
    show _ ≤ (lineOf a mk (line ++ piece a mk v) sn).length ∧ (lineOf a mk (line ++ piece a mk v) sn).length ≤ _
    simp only [List.length_cons]
    omega
section
variable {w₀ : World} {b1 b2 : Bool} {w : World} (hw : w = wf w₀ b1 b2) {scr : Obj} {h₀ : Heap} (G : Grd w scr h₀) {d : Drawn} {os : OsState} {A : Around} (lo : Lo A 400) {R : Result → Shared → Prop}
    {a : LnA} {rest : Own} {g : Array GenState} {N t : Nat} {h : Heap}
include hw G lo
theorem line_run (ha1 : a.white.length = 1) (ha2 : a.letter.length = 1) (ha3 : a.mark.length = 1) {m m2 : Nat} (hp : Int.fdiv a.p 2 = m) (hm0 : 0 < m) (hm : m < 64) (hm20 : 0 < m2) (hm2 : m2 < 64) (hp0 : 0 < a.p) (hp127 : (a.p == 127) = false) (hq : (a.q == 127) = false) (hq0 : (a.q == 0) = false)
    (hlast : (m : Int) * a.q < (m2 + 1) * a.p) (hlast2 : m2 * a.p ≤ (m : Int) * a.q) {sn : List Int} (hperm : sn.Perm (mults a.q m ++ mults a.p m2)) (hsort : sn.Pairwise (· ≤ ·)) (h64 : m + m2 < 64)
    (D : RepC w scr h₀ d os h ⟨rest, [], 0, 0, N, t, g⟩)
    (z : ∀ (tk N' t' : Nat) (g' : Array GenState) (h' : Heap), RepC w scr h₀ d os h' ⟨rest, [], 0, 0, N', t', g'⟩ → R (.ok (.ret (.str (lawLine a (mults a.p m2) sn) tk))) ⟨h', g', d, t', os⟩) :
    codeAny (model PySem.Challenge.pw_nq0197_01 w) A (lnCall a) R ⟨h, g, d, t, os⟩ := by
  have hz1 : sizeLine ≥ 10000 := by decide
  have hsl : sn.length = m + m2 := by rw [hperm.length_eq, List.length_append, mults_len, mults_len]
  let wn := mults a.q m
  let mn := mults a.p m2
  let lin := lineOf a mn a.letter sn
  let ys : Str := if (mn.length : Int).fmod 2 = 1 then a.mark else ⟨#[]⟩
  let L1 : Array Value := qs a ++ #[.int 127 (t + 10), .int a.p a.tp]
  have hqs : (qs a).size = m := by rw [← Array.length_toList, qs_list, hp]; simp
  let H0 : Nat → Code → St → Prop := fun i c st => match i with
    | 3 => c = lnLoop w.params 2 (N + 7) N ∧ st = ⟨rest, [some (genObj g.size (t + 12) (t + 13)), some (genFr1 w.params (t + 11) (N + 5)), some (listObj L1 0), some (listObj #[.int 127 (t + 10), .int a.p a.tp] 0), some (listObj (qs a) 0), some (listObj #[.int a.q a.tq] 0), some (listObj #[] 0), some (lnF1 w.params a (lnK t) (N + 1) 0 (t + 6))], 8, 14, N, t, g.push (.fresh (genCode w.params (N + 6)))⟩
    | 5 => ∃ x1 : { x : L1X // IntsAre x.ws.toList wn }, c = lnLoop w.params 5 (N + 14) N ∧ st = ⟨rest, [some (genObj x1.1.g.size (x1.1.t + 5) (x1.1.t + 6)), some (genFr1 w.params (x1.1.t + 4) (N + 12)), some (listObj #[.int a.p a.tp, .int 0 (x1.1.t + 3), .int a.q a.tq] 0), some (listObj #[] 0)] ++ none9 ++ [some (listObj x1.1.ws x1.1.c), some (lnF3 w.params a (upd (upd (lnK t) 7 x1.1.k7) 8 x1.1.t) (.ref (N + 1)) 0 (x1.1.t + 1) (.int a.q a.tq) (N + 11))], 15, 7, N, x1.1.t, x1.1.g.push (.fresh (genCode w.params (N + 13)))⟩
    | _ => ∃ (x1 : { x : L1X // IntsAre x.ws.toList wn }) (x2 : { x : L2X // IntsAre x.ms.toList mn }) (x3 : { x : Array Value × Nat // IntsAre x.1.toList sn }), i = 8 ∧ c = lnLoop w.params 7 (N + 21) N ∧ st = ⟨rest, [some (litObj (N + 18) 0), none, none, some (listObj x3.1.1 x3.1.2), none, some (listObj (x1.1.ws ++ x2.1.ms) 0), none, none, none, none, some (listObj x2.1.ms x2.1.c)] ++ none9 ++ [some (listObj x1.1.ws x1.1.c), some (lnF4 w.params a (upd (upd (upd (lnK t) 7 x1.1.k7) 8 x1.1.t) 9 x2.1.t) (.ref (N + 1)) (.int x2.1.pl x2.1.tpl) (.int a.p a.tp) (N + 11) a.letter a.tl)], 22, 1, N, x2.1.t, x2.1.g⟩
  let HH : Nat → Code → List (Option (Addr × Obj)) → Nat → Prop := fun i c l _ => match i with
    | 0 => c = .call (.builtin "list.__mul__") ⟨[.ref (N + 2), .int (Int.fdiv a.p 2) (t + 9)], []⟩ ∧ l = [some (N + 2, listObj #[.int a.q a.tq] 0)]
    | 1 => c = .call (.builtin "list.__add__") ⟨[.ref (N + 3), .ref (N + 4)], []⟩ ∧ l = [some (N + 3, listObj (qs a) 0), some (N + 4, listObj #[.int 127 (t + 10), .int a.p a.tp] 0)]
    | 2 => c = .call (.ref 741) ⟨[.ref (N + 5)], []⟩
    | 4 => c = .call (.ref 741) ⟨[.ref (N + 12)], []⟩
    | 6 => ∃ (x1 : { x : L1X // IntsAre x.ws.toList wn }) (x2 : { x : L2X // IntsAre x.ms.toList mn }), c = .call (.builtin "list.__add__") ⟨[.ref (N + 1), .ref (N + 11)], []⟩ ∧ l = [some (N + 1, listObj x1.1.ws x1.1.c), some (N + 11, listObj x2.1.ms x2.1.c)]
    | 7 => ∃ (x1 : { x : L1X // IntsAre x.ws.toList wn }) (x2 : { x : L2X // IntsAre x.ms.toList mn }), c = .call (.builtin "sorted") ⟨[.ref (N + 16)], []⟩ ∧ l = [some (N + 16, listObj (x1.1.ws ++ x2.1.ms) 0)]
    | 9 => ∃ (x2 : { x : L2X // IntsAre x.ms.toList mn }), c = .call (.builtin "len") ⟨[.ref (N + 11)], []⟩ ∧ l = [some (N + 11, listObj x2.1.ms x2.1.c)]
    | 10 => ∃ tk, c = .call (.builtin "str.__mul__") ⟨[.str a.mark a.tm, .int (Int.fmod (mn.length : Int) 2) tk], []⟩
    | 11 => ∃ t1 t2, c = .call (.builtin "str.__add__") ⟨[.str lin t1, .str ys t2], []⟩
    | _ => False
  have O : CfgOk (cfg w scr h₀ A 400 R d os) := G.cfg lo
  refine seg_run G lo (cs := lnCs w.params a wn mn sn t N lin ys (lin ++ ys) L1 (mn.length : Int)) (H := seen2 lnPk H0 HH) (fun j C cc st fr hj hh => ?_) (Eq.mpr (ln_seg w₀ b1 b2 w hw scr h₀ A R d os H0 HH _ a wn mn sn N t lin ys (lin ++ ys) L1 (mn.length : Int) rest g) ?_) D
  · match j, hj with
    | 0, hj =>
      have hj := Option.some.inj hj
      subst hj
      obtain ⟨rfl, e⟩ := (show HH 0 cc ([6].map (lookS st)) st.t from hh)
      exact mul_ok (by simpa using e) rfl (by omega) (by show 1 * _ < _; omega) (by omega)
    | 1, hj =>
      have hj := Option.some.inj hj
      subst hj
      obtain ⟨rfl, e⟩ := (show HH 1 cc ([8, 10].map (lookS st)) st.t from hh)
      simp only [List.map_cons, List.map_nil, List.cons.injEq, and_true] at e
      exact add_ok e.1 e.2 (by rw [hqs]; show m + 2 ≤ _; omega)
    | 2, hj =>
      have hj := Option.some.inj hj
      subst hj
      cases (show HH 2 cc ([].map (lookS st)) st.t from hh)
      exact genc_ok O
    | 4, hj =>
      have hj := Option.some.inj hj
      subst hj
      cases (show HH 4 cc ([].map (lookS st)) st.t from hh)
      exact genc_ok O
    | 6, hj =>
      have hj := Option.some.inj hj
      subst hj
      obtain ⟨x1, x2, rfl, e⟩ := (show HH 6 cc ([4, 24].map (lookS st)) st.t from hh)
      simp only [List.map_cons, List.map_nil, List.cons.injEq, and_true] at e
      refine addF_ok e.1 e.2 ?_
      rw [← Array.length_toList, ← Array.length_toList, ints_len x1.2, ints_len x2.2, mults_len, mults_len]; omega
    | 7, hj =>
      have hj := Option.some.inj hj
      subst hj
      obtain ⟨x1, x2, rfl, e⟩ := (show HH 7 cc ([34].map (lookS st)) st.t from hh)
      simp only [List.map_cons, List.map_nil, List.cons.injEq, and_true] at e
      refine sort_ok e (ns := wn ++ mn) ?_ ?_ hperm hsort
      · rw [Array.toList_append]; exact ints_append x1.2 x2.2
      · rw [List.length_append, mults_len, mults_len]; exact h64
    | 9, hj =>
      have hj := Option.some.inj hj
      subst hj
      obtain ⟨x2, rfl, e⟩ := (show HH 9 cc ([24].map (lookS st)) st.t from hh)
      simp only [List.map_cons, List.map_nil, List.cons.injEq, and_true] at e
      have hs : x2.1.ms.size = mn.length := by rw [← Array.length_toList, ints_len x2.2]
      refine len_ok e ?_ (by rw [hs])
      rw [hs, mults_len]; omega
    | 10, hj =>
      have hj := Option.some.inj hj
      subst hj
      obtain ⟨tk, rfl⟩ := (show HH 10 cc ([].map (lookS st)) st.t from hh)
      refine str_ok' fun prog w A R s₀ z => p_strMul _ _ _ _ ?_ z
      have := Int.fmod_eq_emod_of_nonneg (mn.length : Int) (by decide : (0:Int) ≤ 2)
      omega
    | 11, hj =>
      have hj := Option.some.inj hj
      subst hj
      obtain ⟨t1, t2, rfl⟩ := (show HH 11 cc ([].map (lookS st)) st.t from hh)
      have hl := lineOf_len a mn ha1 ha2 ha3 sn a.letter
      have hys : ys.length ≤ 1 := by
        show (if (mn.length : Int).fmod 2 = 1 then a.mark else ⟨#[]⟩ : Str).length ≤ 1
        split
        · omega
        · decide
      refine str_ok' fun prog w A R s₀ z => p_strAdd2 _ _ _ _ ?_ ?_ z
      · show (lineOf a mn a.letter sn).length ≠ 0
        omega
      · rw [len_app]
        show (lineOf a mn a.letter sn).length + _ ≤ _
        omega
    | 3, hj =>
      have hj := Option.some.inj hj
      subst hj
      obtain ⟨rfl, rfl⟩ := (show H0 3 cc st from hh)
      intro A' h' R' lo' _ D' q
      have F := ((D'.flat2.arr (j' := 0) (t' := t + 14) [7, 6, 0, 1, 2] 8 (by decide) (by decide)).cast (V' := cfg w scr h₀ callerA 0 (fun _ _ => True) d os) rfl rfl)
      have hg : (g.push (.fresh (genCode w.params (N + 6))))[g.size]? = some (.fresh (genCode w.params (N + 6))) := by simp
      have hL : ∀ i, i < m → L1[i]? = some (.int a.q a.tq) := fun i hi => by
        rw [← Array.getElem?_toList, Array.toList_append, List.getElem?_append_left (by rw [Array.length_toList, hqs]; exact hi), qs_list, hp]
        simp [hi]
      have hLm : L1[m]? = some (.int 127 (t + 10)) := by
        rw [← Array.getElem?_toList, Array.toList_append, List.getElem?_append_right (by rw [Array.length_toList, hqs]; exact Nat.le_refl _), Array.length_toList, hqs, Nat.sub_self]; rfl
      refine loop1_run hw G lo' (γ := g.size) (gfr := N + 6) (lst := N + 5) (c := 0) (N₀ := N + 8) (ga := N + 7) (lf := N) (wl := N + 1) (xs := L1) (rest := rest) (a := a) hm0 (by omega) hq hq0 hL hLm (x := ⟨(N + 6, genFr1 w.params (t + 11) (N + 5)) :: (N + 5, listObj L1 0) :: rest, N + 8, t + 14, g.push (.fresh (genCode w.params (N + 6)))⟩) ⟨hg, rfl, _, rfl⟩ F (fun k7 ws c0 tpl t' pl g' h2 hI D2 => ?_)
      exact q ⟨⟨ws, c0, k7, tpl, t', pl, g'⟩, hI⟩ h2 (Rep.fold (N := N) (n := 11) (base := rest) (D2.cast (V' := cfg w scr h₀ A 400 R d os) rfl rfl) rfl rfl D'.lowN D'.lt D'.nod (fun p hp => .tail _ (.tail _ hp)) [1, 0] rfl)
    | 5, hj =>
      have hj := Option.some.inj hj
      subst hj
      obtain ⟨x1, rfl, rfl⟩ := (show H0 5 cc st from hh)
      intro A' h' R' lo' _ D' q
      have F := ((D'.flat2.arr (j' := 0) (t' := x1.1.t + 7) [5, 3, 0, 1, 2, 4] 6 (by decide) (by decide)).cast (V' := cfg w scr h₀ callerA 0 (fun _ _ => True) d os) rfl rfl)
      have hg : (x1.1.g.push (.fresh (genCode w.params (N + 13))))[x1.1.g.size]? = some (.fresh (genCode w.params (N + 13))) := by simp
      refine loop2_run hw G lo' (γ := x1.1.g.size) (gfr := N + 13) (lst := N + 12) (c := 0) (N₀ := N + 15) (ga := N + 14) (lf := N) (ml := N + 11) (xs := #[.int a.p a.tp, .int 0 (x1.1.t + 3), .int a.q a.tq]) (rest := (N + 1, listObj x1.1.ws x1.1.c) :: rest) (a := a) (by omega) (by omega) hp0 hp127 hm20 (by omega) (by rw [hp]; exact hlast) (by rw [hp]; exact hlast2) rfl rfl (x := ⟨(N + 13, genFr1 w.params (x1.1.t + 4) (N + 12)) :: (N + 12, listObj #[.int a.p a.tp, .int 0 (x1.1.t + 3), .int a.q a.tq] 0) :: (N + 1, listObj x1.1.ws x1.1.c) :: rest, N + 15, x1.1.t + 7, x1.1.g.push (.fresh (genCode w.params (N + 13)))⟩) ⟨hg, rfl, _, rfl⟩ F (fun ms c0 tpl t' pl g' h2 hI D2 => ?_)
      exact q ⟨⟨ms, c0, tpl, t', pl, g'⟩, hI⟩ h2 (Rep.fold (N := N) (n := 16) (base := rest) (D2.cast (V' := cfg w scr h₀ A 400 R d os) rfl rfl) rfl rfl D'.lowN D'.lt D'.nod (fun p hp => .tail _ (.tail _ (.tail _ hp))) [1, 2, 0] rfl)
    | 8, hj =>
      have hj := Option.some.inj hj
      subst hj
      obtain ⟨x1, x2, x3, _, rfl, rfl⟩ := (show H0 8 cc st from hh)
      intro A' h' R' lo' _ D' q
      have F := ((D'.flat2.arr (j' := 0) (t' := x2.1.t + 1) [5, 0, 1, 3, 4] 6 (by decide) (by decide)).cast (V' := cfg w scr h₀ callerA 0 (fun _ _ => True) d os) rfl rfl)
      refine loop3_run hw G lo' (lf := N) (it := N + 21) (sl := N + 18) (ml := N + 11) (ss := x3.1.1) (ms := x2.1.ms) (mk := mn) (rest := (N + 1, listObj x1.1.ws x1.1.c) :: rest) (a := a) x2.2 ha1 ha2 ha3 sn 0 [] x3.1.1.toList a.letter a.tl (x2.1.t + 1) _ h' rfl rfl x3.2 (by omega) (by omega) F (fun t' tl' vpl' h2 D2 => ?_)
      exact q (t', tl', vpl') h2 (Rep.fold (N := N) (n := 24) (base := rest) (D2.cast (V' := cfg w scr h₀ A 400 R d os) rfl rfl) rfl rfl D'.lowN D'.lt D'.nod (fun p hp => .tail _ (.tail _ (.tail _ hp))) [1, 2, 0] rfl)
  · refine ⟨eqs_want _ _ _, trivial, ⟨rfl, rfl⟩, fun _ => ⟨eqs_want _ _ _, trivial, ⟨rfl, rfl⟩, fun _ => ⟨trivial, trivial, rfl, fun _ => ⟨eqs_want _ _ _, trivial, ⟨rfl, rfl⟩, fun x1 => ⟨eqs_want _ _ _, trivial, rfl, fun _ => ⟨eqs_want _ _ _, trivial, ⟨x1, rfl, rfl⟩, fun x2 => ⟨eqs_want _ _ _, trivial, ⟨x1, x2, rfl, rfl⟩, fun _ => ⟨trivial, trivial, ⟨x1, x2, rfl, rfl⟩, fun x3 => ⟨eqs_want _ _ _, trivial, ⟨x1, x2, x3, rfl, rfl, rfl⟩, fun x4 => ⟨eqs_want _ _ _, trivial, ⟨x2, rfl, rfl⟩, fun _ => ⟨trivial, trivial, ⟨_, rfl⟩, fun y => ⟨trivial, trivial, ⟨_, _, rfl⟩, fun y2 => ⟨trivial, trivial, fun h' D' => ?_⟩⟩⟩⟩⟩⟩⟩⟩⟩⟩⟩⟩⟩
    exact z _ _ _ _ h' D'
end
end Mine
end Lm3

section Ap
open PySem PySem.Calls PySem.W PySem.W.X PyProof.Rows
set_option Elab.async false
set_option maxRecDepth 100000
namespace Mine
noncomputable abbrev fd748 (P : Params) : FuncData := fdOf (o748 P)
noncomputable def apLoop (P : Params) (af : Addr) : Code := .whileLoop (whileIn (fd748 P) 0).1 (whileIn (fd748 P) 0).2.1 (whileIn (fd748 P) 0).2.2 (envOf (fd748 P) 748 af)
noncomputable abbrev apF (P : Params) (k0 k1 : Nat) (p q : Int) (tp tq : Nat) : Obj := frO P [(nP, k0, .int p tp), (nQ, k1, .int q tq)]
structure ApX where
  p : Int
  q : Int
  tp : Nat
  tq : Nat
  N : Nat
  t : Nat
noncomputable abbrev aptCtr (P : Params) (k0 k1 : Nat) (I : ApX → Prop) : Ctr := { X := { x : ApX // I x }, D := 600, resp := fun x st => (.ok .next, ⟨(st.N, apF P k0 k1 x.1.p x.1.q x.1.tp x.1.tq) :: st.base, [], 0, 0, x.1.N, x.1.t, st.g⟩) }
noncomputable abbrev allSt : Nat → Option (List Nat) := fun _ => none
set_option maxHeartbeats 0
theorem ap_turn (w₀ : World) (b1 b2 : Bool) (w : World) (hw : w = wf w₀ b1 b2) (scr : Obj) (h₀ : Heap) (A : Around) (R : Result → Shared → Prop) (d : Drawn) (os : OsState) (H0 : Nat → Code → St → Prop) (HH : Nat → Code → List (Option (Addr × Obj)) → Nat → Prop) (PP : Result ⊕ Code → Own → Nat → Nat → Nat → Array GenState → Prop)
    (k0 k1 tp tq af N t : Nat) (p q : Int) (rest : Own) (g : Array GenState) :
    SegGoal w scr h₀ A 600 R d os [] (seen2 allSt H0 HH) PP 120 (apLoop w.params af) [1, 1, 1, 1, 2, 2, 2, 2, 4, 4, 4, 4, 4, 2, 4, 4, 4, 4, 4, 4, 2, 4, 4, 4, 4, 4, 4, 2, 4, 4, 8, 1, 1, 1, 1] [] [3, 1, 0, 0, 0, 0] ((af, apF w.params k0 k1 p q tp tq) :: rest) N t g =
    (Eqs (want [af] N [1, 1, 1, 1, 2, 2, 2, 2, 4, 4, 4, 4, 4, 2, 4, 4, 4, 4, 4, 4, 2, 4, 4, 4, 4, 4, 4, 2, 4, 4, 8, 1, 1, 1, 1]) ∧ ((True ∧ (q != 0) = true) ∧ (q == 0) = false) ∧ PP (.inr (apLoop w.params af)) ((af, apF w.params k0 k1 q (p.fmod q) tq (t + 1)) :: rest) 4 N (t + 4) g) := by
  subst hw
  cases b1 <;> kernel_rfl
theorem ap_end (w₀ : World) (b1 b2 : Bool) (w : World) (hw : w = wf w₀ b1 b2) (scr : Obj) (h₀ : Heap) (A : Around) (R : Result → Shared → Prop) (d : Drawn) (os : OsState) (H0 : Nat → Code → St → Prop) (HH : Nat → Code → List (Option (Addr × Obj)) → Nat → Prop) (PP : Result ⊕ Code → Own → Nat → Nat → Nat → Array GenState → Prop)
    (k0 k1 tp tq af N t : Nat) (p q : Int) (rest : Own) (g : Array GenState) :
    SegGoal w scr h₀ A 600 R d os [] (seen2 allSt H0 HH) PP 120 (apLoop w.params af) [1] [] [2] ((af, apF w.params k0 k1 p q tp tq) :: rest) N t g =
    (Eqs (want [af] N [1]) ∧ (True ∧ (q != 0) = false) ∧ PP (.inl (.ok .next)) ((af, apF w.params k0 k1 p q tp tq) :: rest) 0 N (t + 1) g) := by
  subst hw
  cases b1 <;> kernel_rfl
noncomputable abbrev apCall (p q : Int) (tp tq : Nat) : Code := .call (.ref 748) ⟨[.int p tp, .int q tq], []⟩
theorem ap_seg (w₀ : World) (b1 b2 : Bool) (w : World) (hw : w = wf w₀ b1 b2) (scr : Obj) (h₀ : Heap) (A : Around) (R : Result → Shared → Prop) (d : Drawn) (os : OsState) (H0 : Nat → Code → St → Prop) (HH : Nat → Code → List (Option (Addr × Obj)) → Nat → Prop) (PP : Result ⊕ Code → Own → Nat → Nat → Nat → Array GenState → Prop)
    (I : ApX → Prop) (tp tq N t : Nat) (p q : Int) (rest : Own) (g : Array GenState) :
    SegGoal w scr h₀ A 400 R d os [aptCtr w.params t (t + 1) I] (seen2 allSt H0 HH) PP 120 (apCall p q tp tq) [2, 2, 2, 2] [[1]] [4, 0] rest N t g =
    (Eqs (want [] N [2, 2, 2, 2]) ∧ True ∧ H0 0 (apLoop w.params N) ⟨rest, [some (apF w.params t (t + 1) p q tp tq)], 1, 2, N, t, g⟩ ∧ ∀ x : { x : ApX // I x },
      Eqs (want [N] x.1.N [1]) ∧ True ∧ PP (.inl (.ok (.ret (.bool (x.1.p == 1))))) ((N, apF w.params t (t + 1) x.1.p x.1.q x.1.tp x.1.tq) :: rest) 0 x.1.N (x.1.t + 1) g) := by
  subst hw
  cases b1 <;> kernel_rfl
section
variable {w₀ : World} {b1 b2 : Bool} {w : World} (hw : w = wf w₀ b1 b2) {scr : Obj} {h₀ : Heap} (G : Grd w scr h₀) {d : Drawn} {os : OsState} {A : Around} {R : Result → Shared → Prop}
    {rest : Own} {g : Array GenState}
include hw G
theorem apart_loop (lo : Lo A 600) {af k0 k1 : Nat} (n : Nat) : ∀ (p q : Int) (tp tq N t : Nat) (h : Heap), q.toNat < n → 0 ≤ p → 0 ≤ q → RepC w scr h₀ d os h ⟨(af, apF w.params k0 k1 p q tp tq) :: rest, [], 0, 0, N, t, g⟩ →
    (∀ (q' : Int) (tp tq N t : Nat) (h : Heap), RepC w scr h₀ d os h ⟨(af, apF w.params k0 k1 (Int.gcd p q : Int) q' tp tq) :: rest, [], 0, 0, N, t, g⟩ → R (.ok .next) ⟨h, g, d, t, os⟩) →
    codeAny (model PySem.Challenge.pw_nq0197_01 w) A (apLoop w.params af) R ⟨h, g, d, t, os⟩ := by
  induction n with
  | zero => intro p q tp tq N t h hn; omega
  | succ n ih =>
    intro p q tp tq N t h hn hp hq D z
    by_cases h0 : q = 0
    · subst h0
      refine seg_run G lo (cs := []) (H := seen2 allSt (fun _ _ _ => False) (fun _ _ _ _ => False)) (fun j C cc st fr hj hh => hh.elim) (Eq.mpr (ap_end w₀ b1 b2 w hw scr h₀ A R d os _ (fun _ _ _ _ => False) _ k0 k1 tp tq af N t p 0 rest g) ?_) D
      refine ⟨eqs_want _ _ _, ⟨trivial, rfl⟩, fun h' D' => z 0 tp tq N (t + 1) h' ?_⟩
      rw [show ((Int.gcd p 0 : Nat) : Int) = p by rw [Int.gcd_zero_right]; omega]
      exact D'
    · refine seg_run G lo (cs := []) (H := seen2 allSt (fun _ _ _ => False) (fun _ _ _ _ => False)) (fun j C cc st fr hj hh => hh.elim) (Eq.mpr (ap_turn w₀ b1 b2 w hw scr h₀ A R d os _ (fun _ _ _ _ => False) _ k0 k1 tp tq af N t p q rest g) ?_) D
      refine ⟨eqs_want _ _ _, ⟨⟨trivial, by simpa using h0⟩, by simpa using h0⟩, fun h' D' => ?_⟩
      have e : p.fmod q = p % q := Int.fmod_eq_emod_of_nonneg p hq
      have l1 := Int.emod_lt_of_pos p (show 0 < q by omega)
      have l2 := Int.emod_nonneg p h0
      rw [e] at D'
      refine ih q (p % q) tq _ _ _ h' (by omega) hq l2 D' (fun q' tp tq N t h D => z q' tp tq N t h ?_)
      rw [show Int.gcd p q = Int.gcd q (p % q) by rw [Int.emod_def, Int.gcd_sub_mul_left_right, Int.gcd_comm]]
      exact D
theorem apart_run (lo : Lo A 400) {p q : Int} {tp tq N t : Nat} {h : Heap} (hp : 0 ≤ p) (hq : 0 ≤ q) (D : RepC w scr h₀ d os h ⟨rest, [], 0, 0, N, t, g⟩)
    (z : ∀ (N t : Nat) (h : Heap), RepC w scr h₀ d os h ⟨rest, [], 0, 0, N, t, g⟩ → R (.ok (.ret (.bool ((Int.gcd p q : Int) == 1)))) ⟨h, g, d, t, os⟩) :
    codeAny (model PySem.Challenge.pw_nq0197_01 w) A (apCall p q tp tq) R ⟨h, g, d, t, os⟩ := by
  let H0 : Nat → Code → St → Prop := fun _ c st => c = apLoop w.params N ∧ st = ⟨rest, [some (apF w.params t (t + 1) p q tp tq)], 1, 2, N, t, g⟩
  refine seg_run G lo (cs := [aptCtr w.params t (t + 1) (fun x => x.p = (Int.gcd p q : Int))]) (H := seen2 allSt H0 (fun _ _ _ _ => False)) (fun j C cc st fr hj hh => ?_) (Eq.mpr (ap_seg w₀ b1 b2 w hw scr h₀ A R d os H0 (fun _ _ _ _ => False) _ (fun x => x.p = (Int.gcd p q : Int)) tp tq N t p q rest g) ?_) D
  · match j, hj with
    | 0, hj =>
      have hj := Option.some.inj hj
      subst hj
      obtain ⟨rfl, rfl⟩ := (show H0 0 cc st from hh)
      intro A' h' R' lo' _ D' q'
      have F := (D'.flat2.cast (V' := cfg w scr h₀ callerA 0 (fun _ _ => True) d os) rfl rfl)
      refine apart_loop hw G lo' (q.toNat + 1) p q tp tq _ _ h' (by omega) hp hq F (fun q2 tp tq N t h2 D2 => ?_)
      exact q' ⟨⟨_, q2, tp, tq, N, t⟩, rfl⟩ h2 (D2.cast rfl rfl)
  · refine ⟨eqs_want _ _ _, trivial, ⟨rfl, rfl⟩, fun x => ⟨eqs_want _ _ _, trivial, fun h' D' => ?_⟩⟩
    obtain ⟨x, hx⟩ := x
    simp only at hx D' ⊢
    rw [hx]
    exact z _ _ h' (D'.sublist (j' := 0) (t' := x.t + 1) (.cons _ (List.Sublist.refl _)))
end
end Mine
end Ap

section Lt
open PySem PySem.Calls PySem.W PySem.W.X PyProof.Rows
set_option Elab.async false
set_option maxRecDepth 100000
namespace Mine
noncomputable abbrev noSt : Nat → Option (List Nat) := fun _ => some []
noncomputable abbrev signs : Str := ⟨#[32, 9, 10, 13, 39, 34, 92]⟩
noncomputable abbrev ltCall (x : Int) (tx : Nat) : Code := .call (.ref 755) ⟨[.int x tx], []⟩
noncomputable abbrev chrCtr (c : Nat) : Ctr := tokCtr (fun tk => .ok (.ret (.str ⟨#[c]⟩ tk))) 1 900
set_option maxHeartbeats 0
theorem lt_low (w₀ : World) (b1 b2 : Bool) (w : World) (hw : w = wf w₀ b1 b2) (scr : Obj) (h₀ : Heap) (A : Around) (R : Result → Shared → Prop) (d : Drawn) (os : OsState) (H0 : Nat → Code → St → Prop) (HH : Nat → Code → List (Option (Addr × Obj)) → Nat → Prop) (PP : Result ⊕ Code → Own → Nat → Nat → Nat → Array GenState → Prop)
    (c tx N t : Nat) (x : Int) (rest : Own) (g : Array GenState) :
    SegGoal w scr h₀ A 400 R d os [chrCtr c] (seen2 noSt H0 HH) PP 120 (ltCall x tx) [2, 2, 2, 2, 2, 0, 0, 2, 2] [[2, 2, 2, 2]] [1, 3, 4, 2] rest N t g =
    (Eqs (want [] N [2, 2, 2, 2, 2, 0, 0, 2, 2]) ∧ ((True ∧ ((1112064 : Int) == 0) = false) ∧ decide (x.fmod 1112064 < 55296) = true) ∧ HH 0 (.call (.builtin "chr") ⟨[.int (x.fmod 1112064) (t + 2)], []⟩) [] t ∧ ∀ _ : Unit, Eqs (want [] N [2, 2, 2, 2]) ∧ (True ∧ strHas signs ⟨#[c]⟩ = false) ∧ PP (.inl (.ok (.ret (.str ⟨#[c]⟩ (t + 5))))) rest 1 N (t + 8) g) := by
  subst hw
  cases b1 <;> kernel_rfl
theorem lt_in (w₀ : World) (b1 b2 : Bool) (w : World) (hw : w = wf w₀ b1 b2) (scr : Obj) (h₀ : Heap) (A : Around) (R : Result → Shared → Prop) (d : Drawn) (os : OsState) (H0 : Nat → Code → St → Prop) (HH : Nat → Code → List (Option (Addr × Obj)) → Nat → Prop) (PP : Result ⊕ Code → Own → Nat → Nat → Nat → Array GenState → Prop)
    (c tx N t : Nat) (x : Int) (rest : Own) (g : Array GenState) :
    SegGoal w scr h₀ A 400 R d os [chrCtr c] (seen2 noSt H0 HH) PP 120 (ltCall x tx) [2, 2, 2, 2, 2, 0, 0, 2, 2] [[2, 2, 2]] [1, 3, 4, 3] rest N t g =
    (Eqs (want [] N [2, 2, 2, 2, 2, 0, 0, 2, 2]) ∧ ((True ∧ ((1112064 : Int) == 0) = false) ∧ decide (x.fmod 1112064 < 55296) = true) ∧ HH 0 (.call (.builtin "chr") ⟨[.int (x.fmod 1112064) (t + 2)], []⟩) [] t ∧ ∀ _ : Unit, Eqs (want [] N [2, 2, 2]) ∧ (True ∧ strHas signs ⟨#[c]⟩ = true) ∧ PP (.inl (.ok (.ret (.str ⟨#[97]⟩ (t + 8))))) rest 1 N (t + 9) g) := by
  subst hw
  cases b1 <;> kernel_rfl
theorem lt_high (w₀ : World) (b1 b2 : Bool) (w : World) (hw : w = wf w₀ b1 b2) (scr : Obj) (h₀ : Heap) (A : Around) (R : Result → Shared → Prop) (d : Drawn) (os : OsState) (H0 : Nat → Code → St → Prop) (HH : Nat → Code → List (Option (Addr × Obj)) → Nat → Prop) (PP : Result ⊕ Code → Own → Nat → Nat → Nat → Array GenState → Prop)
    (c tx N t : Nat) (x : Int) (rest : Own) (g : Array GenState) :
    SegGoal w scr h₀ A 400 R d os [chrCtr c] (seen2 noSt H0 HH) PP 120 (ltCall x tx) [2, 2, 2, 2, 2, 0, 0, 2, 2] [[2, 2, 2, 2]] [1, 2, 0, 4, 2] rest N t g =
    (Eqs (want [] N [2, 2, 2, 2, 2, 0, 0, 2, 2]) ∧ ((True ∧ ((1112064 : Int) == 0) = false) ∧ decide (x.fmod 1112064 < 55296) = false) ∧ HH 0 (.call (.builtin "chr") ⟨[.int (x.fmod 1112064 + 2048) (t + 6)], []⟩) [] t ∧ ∀ _ : Unit, Eqs (want [] N [2, 2, 2, 2]) ∧ (True ∧ strHas signs ⟨#[c]⟩ = false) ∧ PP (.inl (.ok (.ret (.str ⟨#[c]⟩ (t + 7))))) rest 1 N (t + 10) g) := by
  subst hw
  cases b1 <;> kernel_rfl
/-- the code point of an int -/
noncomputable def codeOf (x : Int) : Nat := (if x % 1112064 < 55296 then x % 1112064 else x % 1112064 + 2048).toNat
/-- the letter of an int -/
noncomputable def ltr (x : Int) : Nat := if codeOf x ∈ signs.cps.toList then 97 else codeOf x
theorem code_fn_gives {prog : Program} {w : World} {A : Around} {s : Shared} {R : Result → Shared → Prop} {id : String} {b : Builtin} {args : List Value} {m : Made} (hk : builtinKind id = none) (hp : plainId id = true) (hb : entryFor table id = some b) (ha : argsOk id ⟨args, []⟩)
    (g : Gives (b ⟨args, []⟩) m) (h : m.post (fun v s' => R (.ok (.ret v)) s') s) : codeAny (model prog w) A (.call (.builtin id) ⟨args, []⟩) R s := by
  refine codeAny_call_builtin hp hb ?_
  have hfin := g prog w A R s h
  simp only [checkBuiltinCall, hk]
  cases hsig : Manifest.signature? id with
  | none => exact wpAny_pure hfin
  | some sig =>
    unfold argsOk at ha
    rw [hsig] at ha
    simp only [ha]
    exact wpAny_pure hfin
theorem chr_ok {V : Cfg} {st : St} {fr : Option (List Env)} {i : Int} {t c : Nat} (h0 : 0 ≤ i) (h1 : i ≤ 0x10FFFF) (hc : c = i.toNat) : CtrOk V (chrCtr c) (.call (.builtin "chr") ⟨[.int i t], []⟩) st fr := by
  intro A h R lo _ D q
  subst hc
  refine code_fn_gives F.kind_chr F.plain_chr F.entry_chr (F.args_chr1 _) (gives_chr i t (by simp; omega)) ⟨?_, ?_⟩
  · show 1 ≤ sizeLine; decide
  · exact q () h D.toks
theorem high_out (c : Nat) (h : 92 < c) : strHas signs ⟨#[c]⟩ = false := by
  rw [has_one]
  simp
  omega
section
variable {w₀ : World} {b1 b2 : Bool} {w : World} (hw : w = wf w₀ b1 b2) {scr : Obj} {h₀ : Heap} (G : Grd w scr h₀) {d : Drawn} {os : OsState} {A : Around} {R : Result → Shared → Prop}
    {rest : Own} {g : Array GenState}
include hw G
theorem letter_run (lo : Lo A 400) {x : Int} {tx N t : Nat} {h : Heap} (D : RepC w scr h₀ d os h ⟨rest, [], 0, 0, N, t, g⟩)
    (z : ∀ (tk t' : Nat) (h' : Heap), RepC w scr h₀ d os h' ⟨rest, [], 0, 0, N + 1, t', g⟩ → R (.ok (.ret (.str ⟨#[ltr x]⟩ tk))) ⟨h', g, d, t', os⟩) :
    codeAny (model PySem.Challenge.pw_nq0197_01 w) A (ltCall x tx) R ⟨h, g, d, t, os⟩ := by
  have e : x.fmod 1112064 = x % 1112064 := Int.fmod_eq_emod_of_nonneg x (by decide)
  have l1 := Int.emod_lt_of_pos x (show (0 : Int) < 1112064 by decide)
  have l2 := Int.emod_nonneg x (show (1112064 : Int) ≠ 0 by decide)
  have ok : ∀ (v : Int), 0 ≤ v → v ≤ 0x10FFFF → codeOf x = v.toNat → ∀ (HH : Nat → Code → List (Option (Addr × Obj)) → Nat → Prop), (∀ c l t, HH 0 c l t → ∃ tk, c = .call (.builtin "chr") ⟨[.int v tk], []⟩) → ∀ i C c st fr, ([chrCtr (codeOf x)] : List Ctr)[i]? = some C → seen2 noSt (fun _ _ _ => False) HH i c st fr → CtrOk (cfg w scr h₀ A 400 R d os) C c st fr := by
    intro v hv0 hv1 hc HH hH j C cc st fr hj hh
    match j, hj with
    | 0, hj =>
      have hj := Option.some.inj hj
      subst hj
      obtain ⟨tk, rfl⟩ := hH _ _ _ (show HH 0 cc _ _ from hh)
      exact chr_ok hv0 hv1 hc
  by_cases hlt : x % 1112064 < 55296
  · have hc : codeOf x = (x % 1112064).toNat := by unfold codeOf; rw [if_pos hlt]
    let HH : Nat → Code → List (Option (Addr × Obj)) → Nat → Prop := fun _ c _ _ => ∃ tk, c = .call (.builtin "chr") ⟨[.int (x.fmod 1112064) tk], []⟩
    by_cases hin : codeOf x ∈ signs.cps.toList
    · have hl : ltr x = 97 := by unfold ltr; rw [if_pos hin]
      refine seg_run G lo (H := seen2 noSt (fun _ _ _ => False) HH) (ok (x.fmod 1112064) (by rw [e]; exact l2) (by rw [e]; omega) (by rw [e]; exact hc) HH (fun c l t h => h)) (Eq.mpr (lt_in w₀ b1 b2 w hw scr h₀ A R d os (fun _ _ _ => False) HH _ (codeOf x) tx N t x rest g) ?_) D
      refine ⟨eqs_want _ _ _, ⟨⟨trivial, rfl⟩, by rw [e]; exact decide_eq_true hlt⟩, ⟨_, rfl⟩, fun _ => ⟨eqs_want _ _ _, ⟨trivial, by rw [has_one]; exact decide_eq_true hin⟩, fun h' D' => ?_⟩⟩
      rw [hl] at z
      exact z _ _ h' D'
    · have hl : ltr x = codeOf x := by unfold ltr; rw [if_neg hin]
      refine seg_run G lo (H := seen2 noSt (fun _ _ _ => False) HH) (ok (x.fmod 1112064) (by rw [e]; exact l2) (by rw [e]; omega) (by rw [e]; exact hc) HH (fun c l t h => h)) (Eq.mpr (lt_low w₀ b1 b2 w hw scr h₀ A R d os (fun _ _ _ => False) HH _ (codeOf x) tx N t x rest g) ?_) D
      refine ⟨eqs_want _ _ _, ⟨⟨trivial, rfl⟩, by rw [e]; exact decide_eq_true hlt⟩, ⟨_, rfl⟩, fun _ => ⟨eqs_want _ _ _, ⟨trivial, by rw [has_one]; exact decide_eq_false hin⟩, fun h' D' => ?_⟩⟩
      rw [hl] at z
      exact z _ _ h' D'
  · have hc : codeOf x = (x % 1112064 + 2048).toNat := by unfold codeOf; rw [if_neg hlt]
    have hbig : 92 < codeOf x := by rw [hc]; omega
    have hin := high_out (codeOf x) hbig
    have hl : ltr x = codeOf x := by
      unfold ltr
      rw [if_neg]
      rw [has_one] at hin
      exact of_decide_eq_false hin
    let HH : Nat → Code → List (Option (Addr × Obj)) → Nat → Prop := fun _ c _ _ => ∃ tk, c = .call (.builtin "chr") ⟨[.int (x.fmod 1112064 + 2048) tk], []⟩
    refine seg_run G lo (H := seen2 noSt (fun _ _ _ => False) HH) (ok (x.fmod 1112064 + 2048) (by rw [e]; omega) (by rw [e]; omega) (by rw [e]; exact hc) HH (fun c l t h => h)) (Eq.mpr (lt_high w₀ b1 b2 w hw scr h₀ A R d os (fun _ _ _ => False) HH _ (codeOf x) tx N t x rest g) ?_) D
    refine ⟨eqs_want _ _ _, ⟨⟨trivial, rfl⟩, by rw [e]; exact decide_eq_false hlt⟩, ⟨_, rfl⟩, fun _ => ⟨eqs_want _ _ _, ⟨trivial, hin⟩, fun h' D' => ?_⟩⟩
    rw [hl] at z
    exact z _ _ h' D'
end
end Mine
end Lt

section Sy
open PySem PySem.Calls PySem.W PySem.W.X PyProof.Rows
set_option Elab.async false
set_option maxRecDepth 100000
namespace Mine
noncomputable abbrev RdK := List (Code × Pos) → Sem Fin
noncomputable abbrev KxTy := List Nat → List (List Nat) → List Nat → Own → List (Option Obj) → Nat → Nat → Nat → Nat → Code → KK → Sem Fin → RdK
/-- the same run, read for its question to the stack -/
noncomputable def kxS (V : Cfg) (cs : List (St → Result × St)) (ih : KxTy) (bad : RdK) : KxTy := fun hl hs hc base nw n j N t c κ tr => match tr with
  | .pure fin => match fin with
    | .done f => match κ with
      | [] => bad
      | (c, k) :: κ => ih hl hs hc base nw n j N t c κ (k (.ok f))
    | .again c' => ih hl hs hc base nw n j N t c' κ (dz c')
  | .rule _ k => ih hl hs hc base nw n j N t c κ (k ())
  | .at _ k => ih hl hs hc base nw n j N t c κ (k ())
  | .point _ k => ih hl hs hc base nw n j N t c κ (k ())
  | .ask k => ih hl hs hc base nw n j N t c κ (k ⟨V.prog, V.w.params⟩)
  | .fresh k => ih hl hs hc base nw n (j + 1) N t c κ (k (t + j))
  | .handled _ k => ih hl hs hc base nw n j N t c κ (k none)
  | .load a _ k => match hl with
    | [] => bad
    | h :: hl => match pick h with
      | .old => match V.kt.get a with
        | some o => ih hl hs hc base nw n j N t c κ (k o)
        | none => bad
      | .base i => match baseAt base i with
        | some p => ih hl hs hc base nw n j N t c κ (k p.2)
        | none => bad
      | .new i => match nwAt nw (n - 1 - i) with
        | some o => ih hl hs hc base nw n j N t c κ (k o)
        | none => bad
  | .update _ _ f k => match hl with
    | [] => bad
    | h :: hl => match pick h with
      | .old => bad
      | .base i => match baseAt base i with
        | some p => match live (f p.2) with
          | some o => ih hl hs hc (baseSet base i o) nw n j N t c κ (k ())
          | none => bad
        | none => bad
      | .new i => match nwAt nw (n - 1 - i) with
        | some p => match live (f p) with
          | some o => ih hl hs hc base (nwSet nw (n - 1 - i) o) n j N t c κ (k ())
          | none => bad
        | none => bad
  | .alloc o k => match live o with
    | some o => ih hl hs hc base (some o :: nw) (n + 1) j N t c κ (k (N + n))
    | none => bad
  | .stack k => k
  | .call c' _ _ _ k => match hc with
    | [] => bad
    | h :: hc => match Nat.beq h 0 with
      | true => ih hl hs hc base nw n j N t c' ((c, k) :: κ) (dz c')
      | false => match Nat.blt h 4 with
        | true => match primA h c' (t + j) with
          | some (r, e, _) => ih hl hs hc base nw n (j + e) N t c κ (k r)
          | none => bad
        | false => match cs[h - 4]? with
          | some C => match C ⟨base, nw, n, j, N, t, #[]⟩ with
            | (r, st) => ih (hs.headD []) hs.tail hc st.base st.nw st.n st.j st.N st.t c κ (k r)
          | none => bad
  | _ => bad
noncomputable def kx (V : Cfg) (cs : List (St → Result × St)) (bad : RdK) : Nat → KxTy
  | 0 => fun _ _ _ _ _ _ _ _ _ _ _ _ => bad
  | n + 1 => kxS V cs (kx V cs bad n) bad
noncomputable abbrev fd767 (P : Params) : FuncData := fdOf (o767 P)
noncomputable abbrev nPrime : Str := ⟨#[112, 114, 105, 109, 101]⟩
noncomputable abbrev nSign : Str := ⟨#[115, 105, 103, 110]⟩
noncomputable abbrev nX : Str := ⟨#[120]⟩
noncomputable def cellObj (v : Value) : Obj := { cls := .type "cell", data := .cell (some v) }
noncomputable def syEnv (P : Params) (sf cq cp : Addr) : Env := { envOf (fd767 P) 767 sf with cells := [(nPrime, cp), (nQ, cq)] }
noncomputable def syLoop (P : Params) (sf cq cp : Addr) : Code := .whileLoop (whileIn (fd767 P) 2).1 (whileIn (fd767 P) 2).2.1 (whileIn (fd767 P) 2).2.2 (syEnv P sf cq cp)
noncomputable def compIn (l : List Stmt) : Expr := match l with
  | [.If _ _ e _] => match e with
    | [_, .If t _ _ _] => match t with
      | .Compare c _ _ _ => c
      | t => t
    | _ => default
  | _ => default
noncomputable def scopeIn (e : Expr) : Scope := match e with
  | .ListComp _ _ s _ => s
  | _ => default
noncomputable def cellNames (sc : Scope) : Scope := { sc with names := sc.names.map fun x => match x.2 with
  | .free => (x.1, .cell)
  | k => (x.1, k) }
noncomputable def syComp (P : Params) : Expr := compIn (whileIn (fd767 P) 2).2.1
noncomputable def syCEnv (P : Params) (sf cq cp dd : Addr) : Env := { syEnv P sf cq cp with scope := cellNames (scopeIn (syComp P)), locals := dd, cells := [(nQ, cq), (nPrime, cp)], func := none }
noncomputable def syCs (P : Params) (sf cq cp dd it acc : Addr) : Code := .compStart (syComp P) 0 (.ref it) (.ref acc) (syCEnv P sf cq cp dd)
noncomputable def syCl (P : Params) (sf cq cp dd it acc : Addr) : Code := .compLoop (syComp P) 0 (.ref it) (.ref acc) (syCEnv P sf cq cp dd)
noncomputable def dO (P : Params) (l : List (Str × Nat × Value)) : Obj := { cls := .type "dict", data := .dict (l.map fun e => (⟨PyData.keyHash P e.1, .str e.1 e.2.1, e.2.2⟩ : DictEntry)).toArray l.length }
noncomputable def ritObj (x left : Int) : Obj := { cls := .type "range_iterator", data := .fields #[.int x 0, .int left 0, .int 1 0] }
noncomputable def rangeObj (n : Int) (t1 t2 t3 : Nat) : Obj := { cls := .type "range", data := .fields #[.int 0 t1, .int n t2, .int 1 t3] }
noncomputable abbrev rnCtr (x left : Int) : Ctr := { X := Unit, D := 900, resp := fun _ st => (.ok (.ret (.int x (st.t + st.j))), { putS st 3 (ritObj (x + 1) (left - 1)) with j := st.j + 1 }) }
noncomputable abbrev rNext (it : Addr) : Code := .call (.builtin "range_iterator.__next__") ⟨[.ref it], []⟩
noncomputable abbrev pk5 : Nat → Option (List Nat) := fun i => match i with
  | 0 => none
  | _ => some [5]
set_option maxHeartbeats 0
theorem cl_first_no (w₀ : World) (b1 b2 : Bool) (w : World) (hw : w = wf w₀ b1 b2) (scr : Obj) (h₀ : Heap) (A : Around) (R : Result → Shared → Prop) (d : Drawn) (os : OsState) (H0 : Nat → Code → St → Prop) (HH : Nat → Code → List (Option (Addr × Obj)) → Nat → Prop) (PP : Result ⊕ Code → Own → Nat → Nat → Nat → Array GenState → Prop)
    (sf cq cp dd it acc c tq tpr N t kx : Nat) (x left q pr : Int) (vx : Value) (xs : Array Value) (rest : Own) (g : Array GenState) :
    SegGoal w scr h₀ A 700 R d os [rnCtr x left, apCtr 5 (fun st => xs.push (.int x st.t))] (seen2 pk5 H0 HH) PP 100 (syCl w.params sf cq cp dd it acc) [3] [[1, 1, 1, 1, 7, 9]] [4, 1, 0, 1, 2]
      ((dd, dO w.params []) :: (it, ritObj x left) :: (acc, listObj xs c) :: (cq, cellObj (.int q tq)) :: (cp, cellObj (.int pr tpr)) :: rest) N t g =
    (Eqs (want [dd, it, acc, cq, cp] N [3]) ∧ True ∧ H0 0 (rNext it) ⟨(dd, dO w.params []) :: (it, ritObj x left) :: (acc, listObj xs c) :: (cq, cellObj (.int q tq)) :: (cp, cellObj (.int pr tpr)) :: rest, [], 0, 0, N, t, g⟩ ∧ ∀ _ : Unit, Eqs (want [dd, it, acc, cq, cp] N [1, 1, 1, 1, 7, 9]) ∧ (((True ∧ -100000 < x ∧ x < 100000) ∧ (pr == 0) = false) ∧ ((x * x - q).fmod pr == 0) = false) ∧ PP (.inr (syCl w.params sf cq cp dd it acc)) ((dd, dO w.params [(nX, t + 1, .int x t)]) :: (it, ritObj (x + 1) (left - 1)) :: (acc, listObj xs c) :: (cq, cellObj (.int q tq)) :: (cp, cellObj (.int pr tpr)) :: rest) 0 N (t + 6) g) := by
  subst hw
  cases b1 <;> kernel_rfl
theorem cl_first_app (w₀ : World) (b1 b2 : Bool) (w : World) (hw : w = wf w₀ b1 b2) (scr : Obj) (h₀ : Heap) (A : Around) (R : Result → Shared → Prop) (d : Drawn) (os : OsState) (H0 : Nat → Code → St → Prop) (HH : Nat → Code → List (Option (Addr × Obj)) → Nat → Prop) (PP : Result ⊕ Code → Own → Nat → Nat → Nat → Array GenState → Prop)
    (sf cq cp dd it acc c tq tpr N t kx : Nat) (x left q pr : Int) (vx : Value) (xs : Array Value) (rest : Own) (g : Array GenState) :
    SegGoal w scr h₀ A 700 R d os [rnCtr x left, apCtr 5 (fun st => xs.push (.int x st.t))] (seen2 pk5 H0 HH) PP 100 (syCl w.params sf cq cp dd it acc) [3] [[1, 1, 1, 1, 7, 9, 1], []] [4, 1, 0, 1, 3, 5]
      ((dd, dO w.params []) :: (it, ritObj x left) :: (acc, listObj xs c) :: (cq, cellObj (.int q tq)) :: (cp, cellObj (.int pr tpr)) :: rest) N t g =
    (Eqs (want [dd, it, acc, cq, cp] N [3]) ∧ True ∧ H0 0 (rNext it) ⟨(dd, dO w.params []) :: (it, ritObj x left) :: (acc, listObj xs c) :: (cq, cellObj (.int q tq)) :: (cp, cellObj (.int pr tpr)) :: rest, [], 0, 0, N, t, g⟩ ∧ ∀ _ : Unit, Eqs (want [dd, it, acc, cq, cp] N [1, 1, 1, 1, 7, 9, 1]) ∧ (((True ∧ -100000 < x ∧ x < 100000) ∧ (pr == 0) = false) ∧ ((x * x - q).fmod pr == 0) = true) ∧ HH 1 (lApp acc (.int x t)) [some (acc, listObj xs c)] t ∧ ∀ c' : Nat, Eqs [] ∧ True ∧ PP (.inr (syCl w.params sf cq cp dd it acc)) ((dd, dO w.params [(nX, t + 1, .int x t)]) :: (it, ritObj (x + 1) (left - 1)) :: (acc, listObj (xs.push (.int x t)) c') :: (cq, cellObj (.int q tq)) :: (cp, cellObj (.int pr tpr)) :: rest) 0 N (t + 6) g) := by
  subst hw
  cases b1 <;> kernel_rfl
theorem cl_no (w₀ : World) (b1 b2 : Bool) (w : World) (hw : w = wf w₀ b1 b2) (scr : Obj) (h₀ : Heap) (A : Around) (R : Result → Shared → Prop) (d : Drawn) (os : OsState) (H0 : Nat → Code → St → Prop) (HH : Nat → Code → List (Option (Addr × Obj)) → Nat → Prop) (PP : Result ⊕ Code → Own → Nat → Nat → Nat → Array GenState → Prop)
    (sf cq cp dd it acc c tq tpr N t kx : Nat) (x left q pr : Int) (vx : Value) (xs : Array Value) (rest : Own) (g : Array GenState) :
    SegGoal w scr h₀ A 700 R d os [rnCtr x left, apCtr 5 (fun st => xs.push (.int x st.t))] (seen2 pk5 H0 HH) PP 100 (syCl w.params sf cq cp dd it acc) [3] [[1, 1, 1, 1, 7, 9]] [4, 1, 0, 1, 2]
      ((dd, dO w.params [(nX, kx, vx)]) :: (it, ritObj x left) :: (acc, listObj xs c) :: (cq, cellObj (.int q tq)) :: (cp, cellObj (.int pr tpr)) :: rest) N t g =
    (Eqs (want [dd, it, acc, cq, cp] N [3]) ∧ True ∧ H0 0 (rNext it) ⟨(dd, dO w.params [(nX, kx, vx)]) :: (it, ritObj x left) :: (acc, listObj xs c) :: (cq, cellObj (.int q tq)) :: (cp, cellObj (.int pr tpr)) :: rest, [], 0, 0, N, t, g⟩ ∧ ∀ _ : Unit, Eqs (want [dd, it, acc, cq, cp] N [1, 1, 1, 1, 7, 9]) ∧ (((True ∧ -100000 < x ∧ x < 100000) ∧ (pr == 0) = false) ∧ ((x * x - q).fmod pr == 0) = false) ∧ PP (.inr (syCl w.params sf cq cp dd it acc)) ((dd, dO w.params [(nX, kx, .int x t)]) :: (it, ritObj (x + 1) (left - 1)) :: (acc, listObj xs c) :: (cq, cellObj (.int q tq)) :: (cp, cellObj (.int pr tpr)) :: rest) 0 N (t + 6) g) := by
  subst hw
  cases b1 <;> kernel_rfl
theorem cl_app (w₀ : World) (b1 b2 : Bool) (w : World) (hw : w = wf w₀ b1 b2) (scr : Obj) (h₀ : Heap) (A : Around) (R : Result → Shared → Prop) (d : Drawn) (os : OsState) (H0 : Nat → Code → St → Prop) (HH : Nat → Code → List (Option (Addr × Obj)) → Nat → Prop) (PP : Result ⊕ Code → Own → Nat → Nat → Nat → Array GenState → Prop)
    (sf cq cp dd it acc c tq tpr N t kx : Nat) (x left q pr : Int) (vx : Value) (xs : Array Value) (rest : Own) (g : Array GenState) :
    SegGoal w scr h₀ A 700 R d os [rnCtr x left, apCtr 5 (fun st => xs.push (.int x st.t))] (seen2 pk5 H0 HH) PP 100 (syCl w.params sf cq cp dd it acc) [3] [[1, 1, 1, 1, 7, 9, 1], []] [4, 1, 0, 1, 3, 5]
      ((dd, dO w.params [(nX, kx, vx)]) :: (it, ritObj x left) :: (acc, listObj xs c) :: (cq, cellObj (.int q tq)) :: (cp, cellObj (.int pr tpr)) :: rest) N t g =
    (Eqs (want [dd, it, acc, cq, cp] N [3]) ∧ True ∧ H0 0 (rNext it) ⟨(dd, dO w.params [(nX, kx, vx)]) :: (it, ritObj x left) :: (acc, listObj xs c) :: (cq, cellObj (.int q tq)) :: (cp, cellObj (.int pr tpr)) :: rest, [], 0, 0, N, t, g⟩ ∧ ∀ _ : Unit, Eqs (want [dd, it, acc, cq, cp] N [1, 1, 1, 1, 7, 9, 1]) ∧ (((True ∧ -100000 < x ∧ x < 100000) ∧ (pr == 0) = false) ∧ ((x * x - q).fmod pr == 0) = true) ∧ HH 1 (lApp acc (.int x t)) [some (acc, listObj xs c)] t ∧ ∀ c' : Nat, Eqs [] ∧ True ∧ PP (.inr (syCl w.params sf cq cp dd it acc)) ((dd, dO w.params [(nX, kx, .int x t)]) :: (it, ritObj (x + 1) (left - 1)) :: (acc, listObj (xs.push (.int x t)) c') :: (cq, cellObj (.int q tq)) :: (cp, cellObj (.int pr tpr)) :: rest) 0 N (t + 6) g) := by
  subst hw
  cases b1 <;> kernel_rfl
theorem cl_end (w₀ : World) (b1 b2 : Bool) (w : World) (hw : w = wf w₀ b1 b2) (scr : Obj) (h₀ : Heap) (A : Around) (R : Result → Shared → Prop) (d : Drawn) (os : OsState) (H0 : Nat → Code → St → Prop) (HH : Nat → Code → List (Option (Addr × Obj)) → Nat → Prop) (PP : Result ⊕ Code → Own → Nat → Nat → Nat → Array GenState → Prop)
    (sf cq cp dd it acc c tq tpr N t kx : Nat) (x left q pr : Int) (vx : Value) (xs : Array Value) (rest : Own) (g : Array GenState) :
    SegGoal w scr h₀ A 700 R d os [leCtr] (seen2 pk5 H0 HH) PP 100 (syCl w.params sf cq cp dd it acc) [3] [[3]] [4]
      ((dd, dO w.params [(nX, kx, vx)]) :: (it, ritObj x left) :: (acc, listObj xs c) :: (cq, cellObj (.int q tq)) :: (cp, cellObj (.int pr tpr)) :: rest) N t g =
    (Eqs (want [dd, it, acc, cq, cp] N [3]) ∧ True ∧ H0 0 (rNext it) ⟨(dd, dO w.params [(nX, kx, vx)]) :: (it, ritObj x left) :: (acc, listObj xs c) :: (cq, cellObj (.int q tq)) :: (cp, cellObj (.int pr tpr)) :: rest, [], 0, 0, N, t, g⟩ ∧ ∀ x : Addr × Nat, Eqs (want [dd, x.1] N [3]) ∧ True ∧ PP (.inl (.ok .next)) ((dd, dO w.params [(nX, kx, vx)]) :: (x.1, excObj "StopIteration" x.2) :: (acc, listObj xs c) :: (cq, cellObj (.int q tq)) :: (cp, cellObj (.int pr tpr)) :: rest) 0 (N + 2) t g) := by
  subst hw
  cases b1 <;> kernel_rfl
theorem cs_once (w₀ : World) (b1 : Bool) (w : World) (hw : w = wf w₀ b1 true) (scr : Obj) (h₀ : Heap) (A : Around) (R : Result → Shared → Prop) (d : Drawn) (os : OsState) (H0 : Nat → Code → St → Prop) (HH : Nat → Code → List (Option (Addr × Obj)) → Nat → Prop) (PP : Result ⊕ Code → Own → Nat → Nat → Nat → Array GenState → Prop)
    (sf cq cp dd it acc c tq tpr N t kx : Nat) (x left q pr : Int) (vx : Value) (xs : Array Value) (rest : Own) (g : Array GenState) :
    SegGoal w scr h₀ A 700 R d os [] (seen2 pk5 H0 HH) PP 100 (syCs w.params sf cq cp dd it acc) [] [] []
      ((dd, dO w.params []) :: (it, ritObj x left) :: (acc, listObj xs c) :: (cq, cellObj (.int q tq)) :: (cp, cellObj (.int pr tpr)) :: rest) N t g =
    (Eqs (want [dd, it, acc, cq, cp] N []) ∧ True ∧ PP (.inr (syCl w.params sf cq cp dd it acc)) ((dd, dO w.params []) :: (it, ritObj x left) :: (acc, listObj xs c) :: (cq, cellObj (.int q tq)) :: (cp, cellObj (.int pr tpr)) :: rest) 0 N t g) := by
  subst hw
  cases b1 <;> kernel_rfl
theorem cs_twice (w₀ : World) (b1 : Bool) (w : World) (hw : w = wf w₀ b1 false) (scr : Obj) (h₀ : Heap) (A : Around) (R : Result → Shared → Prop) (d : Drawn) (os : OsState) (H0 : Nat → Code → St → Prop) (HH : Nat → Code → List (Option (Addr × Obj)) → Nat → Prop) (PP : Result ⊕ Code → Own → Nat → Nat → Nat → Array GenState → Prop)
    (sf cq cp dd it acc c tq tpr N t kx : Nat) (x left q pr : Int) (vx : Value) (xs : Array Value) (rest : Own) (g : Array GenState) :
    SegGoal w scr h₀ A 700 R d os [] (seen2 pk5 H0 HH) PP 100 (syCs w.params sf cq cp dd it acc) [3, 3, 3, 3] [] [0]
      ((dd, dO w.params []) :: (it, ritObj x left) :: (acc, listObj xs c) :: (cq, cellObj (.int q tq)) :: (cp, cellObj (.int pr tpr)) :: rest) N t g =
    (Eqs (want [dd, it, acc, cq, cp] N [3, 3, 3, 3]) ∧ True ∧ PP (.inr (syCl w.params sf cq cp dd it acc)) ((dd, dO w.params []) :: (it, ritObj x left) :: (acc, listObj xs c) :: (cq, cellObj (.int q tq)) :: (cp, cellObj (.int pr tpr)) :: rest) 0 N t g) := by
  subst hw
  cases b1 <;> kernel_rfl
end Mine
end Sy

section Sy2
open PySem PySem.Calls PySem.W PySem.W.X PyProof.Rows
set_option Elab.async false
set_option maxRecDepth 100000
namespace Mine
noncomputable abbrev evalQ : Expr → Env → Sem Value := PySem.W.Fast.tw14044960220447912780
theorem evalQ_eq : @eval = evalQ := PySem.W.Fast.te14044960220447912780
noncomputable abbrev isTrueQ : Expr → Env → Sem Value → Sem Bool := PySem.W.Fast.tw15418851999007992765
theorem isTrueQ_eq : @PySem.isTrue = isTrueQ := PySem.W.Fast.te15418851999007992765
noncomputable abbrev testT (e : Expr) (env : Env) : Sem Fin := R.bindR (isTrueQ e env (evalQ e env)) fun b => .pure (.done (.ret (.bool b)))
noncomputable abbrev evalT (e : Expr) (env : Env) : Sem Fin := R.bindR (evalQ e env) fun v => .pure (.done (.ret v))
noncomputable abbrev execsT (l : List Stmt) (env : Env) : Sem Fin := R.bindR (execsQ l env) fun f => .pure (.done f)
noncomputable abbrev syF (P : Params) (kp ks : Nat) (p sg : Int) (tp ts : Nat) : Obj := frO P [(nP, kp, .int p tp), (nSign, ks, .int sg ts)]
structure CX where
  xs : Array Value
  c : Nat
  kx : Nat
  vx : Value
  t : Nat
noncomputable abbrev compCtr (P : Params) (I : CX → Prop) : Ctr := { X := { x : CX // I x }, D := 700, resp := fun x st => (.ok .next, ⟨st.base, [none, none, some (dO P [(nX, x.1.kx, x.1.vx)]), some (listObj x.1.xs x.1.c), none, none], 6, 0, st.N, x.1.t, st.g⟩) }
noncomputable abbrev pkS : Nat → Option (List Nat) := fun i => match i with
  | 0 => some [2]
  | _ => none
noncomputable abbrev view2 (PP : Result ⊕ Code → Own → List (Option Obj) → Nat → Nat → Nat → Array GenState → Prop) : Result ⊕ Code → St → Prop := fun r st => PP r st.base st.nw st.n st.N (st.t + st.j) st.g
noncomputable abbrev PcGoal (w : World) (scr : Obj) (h₀ : Heap) (A : Around) (R : Result → Shared → Prop) (d : Drawn) (os : OsState) (cs : List Ctr) (H : Nat → Code → St → Option (List Env) → Prop) (PP : Result ⊕ Code → Own → List (Option Obj) → Nat → Nat → Nat → Array GenState → Prop) (m : Nat)
    (c : Code) (tr : Sem Fin) (hl : List Nat) (hs : List (List Nat)) (hc : List Nat) (base : Own) (N t : Nat) (g : Array GenState) : Prop :=
  Mine.run (cfg w scr h₀ A 600 R d os) cs H primA (view2 PP) m false hl hs hc [] True base [] 0 0 N t g c [] tr
/-- the parts of the loop's body -/
structure SyB where
  t1 : Expr
  b1 : List Stmt
  s1 : Stmt
  r : Expr
  p1 : Pos
  b2 : List Stmt
  o2 : List Stmt
  p2 : Pos
  p3 : Pos
noncomputable def syParts (l : List Stmt) : SyB := match l with
  | [.If t1 b1 e p3] => match e with
    | [s1, .If t b2 o2 p2] => match t with
      | .Compare _ _ rs p1 => match rs with
        | [r] => ⟨t1, b1, s1, r, p1, b2, o2, p2, p3⟩
        | _ => ⟨default, [], .Pass default, default, default, [], [], default, default⟩
      | _ => ⟨default, [], .Pass default, default, default, [], [], default, default⟩
    | _ => ⟨default, [], .Pass default, default, default, [], [], default, default⟩
  | _ => ⟨default, [], .Pass default, default, default, [], [], default, default⟩
noncomputable def syB (P : Params) : SyB := syParts (whileIn (fd767 P) 2).2.1
set_option maxHeartbeats 0
theorem sy_body (P : Params) : (whileIn (fd767 P) 2).2.1 = [.If (syB P).t1 (syB P).b1 [(syB P).s1, .If (.Compare (syComp P) [.Eq] [(syB P).r] (syB P).p1) (syB P).b2 (syB P).o2 (syB P).p2] (syB P).p3] := by kernel_rfl
theorem sy_o2 (P : Params) : (syB P).o2 = [] := by kernel_rfl
theorem sy_marks (P : Params) : behindInMarks .Eq (syB P).r = false := by kernel_rfl
theorem sy_up (w₀ : World) (b1 b2 : Bool) (w : World) (hw : w = wf w₀ b1 b2) (scr : Obj) (h₀ : Heap) (A : Around) (R : Result → Shared → Prop) (d : Drawn) (os : OsState) (H0 : Nat → Code → St → Prop) (HH : Nat → Code → List (Option (Addr × Obj)) → Nat → Prop) (PP : Result ⊕ Code → Own → Nat → Nat → Nat → Array GenState → Prop)
    (sf cq cp tq tpr N t kp ks tp ts : Nat) (p q pr sg : Int) (rest : Own) (g : Array GenState) :
    SegGoal w scr h₀ A 600 R d os [] (seen2 pkS H0 HH) PP 100 (syLoop w.params sf cq cp) [1, 1, 5, 5, 5, 5] [] [3, 1, 3, 0]
      ((sf, syF w.params kp ks p sg tp ts) :: (cq, cellObj (.int q tq)) :: (cp, cellObj (.int pr tpr)) :: rest) N t g =
    (Eqs (want [sf, cq, cp] N [1, 1, 5, 5, 5, 5]) ∧ (((True ∧ decide (p > 1) = true) ∧ (pr == 0) = false) ∧ (p.fmod pr != 0) = true) ∧ PP (.inr (syLoop w.params sf cq cp)) ((sf, syF w.params kp ks p sg tp ts) :: (cq, cellObj (.int q tq)) :: (cp, cellObj (.int (pr + 2) (t + 4))) :: rest) 0 N (t + 5) g) := by
  subst hw
  cases b1 <;> kernel_rfl
theorem sy_end (w₀ : World) (b1 b2 : Bool) (w : World) (hw : w = wf w₀ b1 b2) (scr : Obj) (h₀ : Heap) (A : Around) (R : Result → Shared → Prop) (d : Drawn) (os : OsState) (H0 : Nat → Code → St → Prop) (HH : Nat → Code → List (Option (Addr × Obj)) → Nat → Prop) (PP : Result ⊕ Code → Own → Nat → Nat → Nat → Array GenState → Prop)
    (sf cq cp tq tpr N t kp ks tp ts : Nat) (p q pr sg : Int) (rest : Own) (g : Array GenState) :
    SegGoal w scr h₀ A 600 R d os [] (seen2 pkS H0 HH) PP 100 (syLoop w.params sf cq cp) [1] [] [2]
      ((sf, syF w.params kp ks p sg tp ts) :: (cq, cellObj (.int q tq)) :: (cp, cellObj (.int pr tpr)) :: rest) N t g =
    (Eqs (want [sf, cq, cp] N [1]) ∧ (True ∧ decide (p > 1) = false) ∧ PP (.inl (.ok .next)) ((sf, syF w.params kp ks p sg tp ts) :: (cq, cellObj (.int q tq)) :: (cp, cellObj (.int pr tpr)) :: rest) 0 N (t + 1) g) := by
  subst hw
  cases b1 <;> kernel_rfl
theorem pc_test (w₀ : World) (b1 b2 : Bool) (w : World) (hw : w = wf w₀ b1 b2) (scr : Obj) (h₀ : Heap) (A : Around) (R : Result → Shared → Prop) (d : Drawn) (os : OsState) (H0 : Nat → Code → St → Prop) (HH : Nat → Code → List (Option (Addr × Obj)) → Nat → Prop) (PP : Result ⊕ Code → Own → List (Option Obj) → Nat → Nat → Nat → Array GenState → Prop)
    (sf cq cp tq tpr N t kp ks tp ts : Nat) (p q pr sg : Int) (rest : Own) (g : Array GenState) :
    PcGoal w scr h₀ A R d os [] (seen2 pkS H0 HH) PP 100 (syLoop w.params sf cq cp) (testT (whileIn (fd767 w.params) 2).1 (syEnv w.params sf cq cp)) [1] [] [3] ((sf, syF w.params kp ks p sg tp ts) :: (cq, cellObj (.int q tq)) :: (cp, cellObj (.int pr tpr)) :: rest) N t g =
    (Eqs (want [sf, cq, cp] N [1]) ∧ (True ∧ decide (p > 1) = true) ∧ PP (.inl (.ok (.ret (.bool true)))) ((sf, syF w.params kp ks p sg tp ts) :: (cq, cellObj (.int q tq)) :: (cp, cellObj (.int pr tpr)) :: rest) [] 0 N (t + 1) g) := by
  subst hw
  cases b1 <;> kernel_rfl
theorem pc_t1 (w₀ : World) (b1 b2 : Bool) (w : World) (hw : w = wf w₀ b1 b2) (scr : Obj) (h₀ : Heap) (A : Around) (R : Result → Shared → Prop) (d : Drawn) (os : OsState) (H0 : Nat → Code → St → Prop) (HH : Nat → Code → List (Option (Addr × Obj)) → Nat → Prop) (PP : Result ⊕ Code → Own → List (Option Obj) → Nat → Nat → Nat → Array GenState → Prop)
    (sf cq cp tq tpr N t kp ks tp ts : Nat) (p q pr sg : Int) (rest : Own) (g : Array GenState) :
    PcGoal w scr h₀ A R d os [] (seen2 pkS H0 HH) PP 100 (syLoop w.params sf cq cp) (testT (syB w.params).t1 (syEnv w.params sf cq cp)) [1, 5] [] [1, 2] ((sf, syF w.params kp ks p sg tp ts) :: (cq, cellObj (.int q tq)) :: (cp, cellObj (.int pr tpr)) :: rest) N t g =
    (Eqs (want [sf, cq, cp] N [1, 5]) ∧ ((True ∧ (pr == 0) = false) ∧ (p.fmod pr != 0) = false) ∧ PP (.inl (.ok (.ret (.bool false)))) ((sf, syF w.params kp ks p sg tp ts) :: (cq, cellObj (.int q tq)) :: (cp, cellObj (.int pr tpr)) :: rest) [] 0 N (t + 2) g) := by
  subst hw
  cases b1 <;> kernel_rfl
theorem pc_s1 (w₀ : World) (b1 b2 : Bool) (w : World) (hw : w = wf w₀ b1 b2) (scr : Obj) (h₀ : Heap) (A : Around) (R : Result → Shared → Prop) (d : Drawn) (os : OsState) (H0 : Nat → Code → St → Prop) (HH : Nat → Code → List (Option (Addr × Obj)) → Nat → Prop) (PP : Result ⊕ Code → Own → List (Option Obj) → Nat → Nat → Nat → Array GenState → Prop)
    (sf cq cp tq tpr N t kp ks tp ts : Nat) (p q pr sg : Int) (rest : Own) (g : Array GenState) :
    PcGoal w scr h₀ A R d os [] (seen2 pkS H0 HH) PP 100 (syLoop w.params sf cq cp) (execsT [(syB w.params).s1] (syEnv w.params sf cq cp)) [1, 5, 1, 1] [] [1] ((sf, syF w.params kp ks p sg tp ts) :: (cq, cellObj (.int q tq)) :: (cp, cellObj (.int pr tpr)) :: rest) N t g =
    (Eqs (want [sf, cq, cp] N [1, 5, 1, 1]) ∧ (True ∧ 0 < pr ∧ pr < 100000) ∧ PP (.inl (.ok .next)) ((sf, syF w.params kp ks (p.fdiv pr) sg t ts) :: (cq, cellObj (.int q tq)) :: (cp, cellObj (.int pr tpr)) :: rest) [] 0 N (t + 2) g) := by
  subst hw
  cases b1 <;> kernel_rfl
theorem pc_comp (w₀ : World) (b1 b2 : Bool) (w : World) (hw : w = wf w₀ b1 b2) (scr : Obj) (h₀ : Heap) (A : Around) (R : Result → Shared → Prop) (d : Drawn) (os : OsState) (H0 : Nat → Code → St → Prop) (HH : Nat → Code → List (Option (Addr × Obj)) → Nat → Prop) (PP : Result ⊕ Code → Own → List (Option Obj) → Nat → Nat → Nat → Array GenState → Prop)
    (I : CX → Prop) (sf cq cp tq tpr N t kp ks tp ts : Nat) (p q pr sg : Int) (rest : Own) (g : Array GenState) :
    PcGoal w scr h₀ A R d os [pushCtr (ritObj 0 pr), compCtr w.params I] (seen2 pkS H0 HH) PP 100 (syLoop w.params sf cq cp) (evalT (syComp w.params) (syEnv w.params sf cq cp)) [0, 0, 5, 2, 2, 2, 2, 2, 2] [[4], [8, 8, 8]] [0, 0, 0, 4, 5] ((sf, syF w.params kp ks p sg tp ts) :: (cq, cellObj (.int q tq)) :: (cp, cellObj (.int pr tpr)) :: rest) N t g =
    (Eqs (want [sf, cq, cp] N [0, 0, 5, 2, 2, 2, 2, 2, 2]) ∧ True ∧ HH 0 (.call (.builtin "range.__iter__") ⟨[.ref N], []⟩) [some (N, rangeObj pr t tpr (t + 1))] t ∧ ∀ _ : Unit,
      Eqs (want [sf, cq, cp] N [4]) ∧ True ∧ H0 1 (syCs w.params sf cq cp (N + 3) (N + 1) (N + 2)) ⟨(sf, syF w.params kp ks p sg tp ts) :: (cq, cellObj (.int q tq)) :: (cp, cellObj (.int pr tpr)) :: rest, [some (dO w.params []), some (listObj #[] 0), some (ritObj 0 pr), some (rangeObj pr t tpr (t + 1))], 4, 2, N, t, g⟩ ∧ ∀ x : { x : CX // I x },
      Eqs (want [sf, cq, cp] N [8, 8, 8]) ∧ True ∧ PP (.inl (.ok (.ret (.ref (N + 2))))) ((sf, syF w.params kp ks p sg tp ts) :: (cq, cellObj (.int q tq)) :: (cp, cellObj (.int pr tpr)) :: rest) [none, none, some { cls := .type "dict", data := .dict #[] 2 }, some (listObj x.1.xs x.1.c), none, none] 6 N x.1.t g) := by
  subst hw
  cases b1 <;> kernel_rfl
theorem pc_nil (w₀ : World) (b1 b2 : Bool) (w : World) (hw : w = wf w₀ b1 b2) (scr : Obj) (h₀ : Heap) (A : Around) (R : Result → Shared → Prop) (d : Drawn) (os : OsState) (H0 : Nat → Code → St → Prop) (HH : Nat → Code → List (Option (Addr × Obj)) → Nat → Prop) (PP : Result ⊕ Code → Own → List (Option Obj) → Nat → Nat → Nat → Array GenState → Prop)
    (sf cq cp tq tpr N t kp ks tp ts : Nat) (p q pr sg : Int) (rest : Own) (g : Array GenState) :
    PcGoal w scr h₀ A R d os [] (seen2 pkS H0 HH) PP 100 (syLoop w.params sf cq cp) (evalT (syB w.params).r (syEnv w.params sf cq cp)) [] [] [] ((sf, syF w.params kp ks p sg tp ts) :: (cq, cellObj (.int q tq)) :: (cp, cellObj (.int pr tpr)) :: rest) N t g =
    (Eqs [] ∧ True ∧ PP (.inl (.ok (.ret (.ref N)))) ((sf, syF w.params kp ks p sg tp ts) :: (cq, cellObj (.int q tq)) :: (cp, cellObj (.int pr tpr)) :: rest) [some (listObj #[] 0)] 1 N t g) := by
  subst hw
  cases b1 <;> kernel_rfl
theorem pc_flip (w₀ : World) (b1 b2 : Bool) (w : World) (hw : w = wf w₀ b1 b2) (scr : Obj) (h₀ : Heap) (A : Around) (R : Result → Shared → Prop) (d : Drawn) (os : OsState) (H0 : Nat → Code → St → Prop) (HH : Nat → Code → List (Option (Addr × Obj)) → Nat → Prop) (PP : Result ⊕ Code → Own → List (Option Obj) → Nat → Nat → Nat → Array GenState → Prop)
    (sf cq cp tq tpr N t kp ks tp ts : Nat) (p q pr sg : Int) (rest : Own) (g : Array GenState) :
    PcGoal w scr h₀ A R d os [] (seen2 pkS H0 HH) PP 100 (syLoop w.params sf cq cp) (execsT (syB w.params).b2 (syEnv w.params sf cq cp)) [1, 1, 1] [] [0] ((sf, syF w.params kp ks p sg tp ts) :: (cq, cellObj (.int q tq)) :: (cp, cellObj (.int pr tpr)) :: rest) N t g =
    (Eqs (want [sf, cq, cp] N [1, 1, 1]) ∧ True ∧ PP (.inl (.ok .next)) ((sf, syF w.params kp ks p (-sg) tp t) :: (cq, cellObj (.int q tq)) :: (cp, cellObj (.int pr tpr)) :: rest) [] 0 N (t + 2) g) := by
  subst hw
  cases b1 <;> kernel_rfl
end Mine
end Sy2

section Sy3
open PySem PySem.Calls PySem.W PySem.W.X PyProof.Rows
set_option Elab.async false
set_option maxRecDepth 100000
namespace Mine
theorem rit_end {prog : Program} {w : World} {A : Around} {s : Shared} {R : Result → Shared → Prop} {it : Nat} {x left : Int} (hh : A.handled = none) (ho : s.heap.get? it = some (ritObj x left)) (hx : left ≤ 0)
    (z : ∀ h' e tp, h'.objs.size = s.heap.objs.size + 2 → s.heap.objs.size ≤ e → h'.get? e = some (excObj "StopIteration" tp) → (∀ b o, b ≠ it → s.heap.get? b = some o → h'.get? b = some o) → R (.error (.ref e)) { s with heap := h' }) :
    codeAny (model prog w) A (rNext it) R s := by
  refine codeAny_call_builtin F.slot_range_iterator_next.plain F.entry_range_iterator_next (F.slot_range_iterator_next.check _ _ _ _ _ _ _ _ ⟨_, ho, rfl⟩ (F.args_range_iterator_next_1 _) ?_)
  show wpAny _ _ (field (.ref it) 0 >>= _) _ _ s
  refine wpAny_bind (wpAny_field ho rfl (x := .int x 0) rfl ?_)
  refine wpAny_bind (wpAny_field ho rfl (x := .int left 0) rfl ?_)
  refine wpAny_bind (wpAny_field ho rfl (x := .int 1 0) rfl ?_)
  show wpAny _ _ (if left ≤ 0 then _ else _) _ _ _
  rw [if_pos hx]
  refine wpAny_bind (wpAny_rule ?_)
  show wpAny _ _ (do (do raiseNew (← newExc (.type "StopIteration") []) : Sem Unit); _) _ _ _
  refine wpAny_bind (wpAny_bind ?_)
  simp only [newExc, newTuple]
  refine wpAny_bind (wpAny_newObj_type ?_ (by size_fits))
  refine wpAny_bind (m := firstArgMember _ _) (wpAny_of_eq (a := Value.none) (by first | rfl | (simp only [firstArgMember]; rfl)) ?_)
  refine wpAny_newObj_type ?_ (by size_fits)
  simp only [raiseNew]
  refine wpAny_bind (wpAny_handled ?_)
  rw [show A.in1.handled = none from hh]
  refine wpAny_bind (wpAny_pure (wpAny_throw ?_))
  refine z _ _ s.heap.objs.size ?_ ?_ (Heap.get?_push_size _ rfl) (fun b o hb e => Heap.get?_push_of_some _ (Heap.get?_push_of_some _ e))
  · rw [Heap.size_push, Heap.size_push]
  · rw [Heap.size_push]; exact Nat.le_succ _
theorem le_gen {V : Cfg} (O : CfgOk V) {base : Own} {N t j : Nat} {g : Array GenState} {fr : Option (List Env)} {p : Addr × Obj} {it : Nat} {oi : Obj} {cd : Code}
    (hc : ∀ (A : Around) (s : Shared) (R : Result → Shared → Prop), A.handled = none → (∀ b ∈ p :: (it, oi) :: base, s.heap.get? b.1 = some b.2) →
      (∀ h' e tp, h'.objs.size = s.heap.objs.size + 2 → s.heap.objs.size ≤ e → h'.get? e = some (excObj "StopIteration" tp) → (∀ b o, b ≠ it → s.heap.get? b = some o → h'.get? b = some o) → R (.error (.ref e)) { s with heap := h' }) → codeAny (model V.prog V.w) A cd R s) :
    CtrOk V leCtr cd ⟨p :: (it, oi) :: base, [], 0, j, N, t, g⟩ fr := by
  intro A h R lo _ D q
  have hsz : h.objs.size = N := D.size
  have nod := D.nod
  simp only [List.map_cons, List.nodup_cons, List.mem_cons, not_or] at nod
  refine hc A _ R lo.handled D.base (fun h' e tp hz hle he hk => ?_)
  have hle : N ≤ e := by have : h.objs.size ≤ e := hle; omega
  refine q (e, tp) h' ?_
  have hlt : e < N + 2 := by rw [← hsz, ← hz]; exact Heap.lt_size he
  have hlow := D.lowN
  refine ⟨by rw [hz, hsz]; rfl, rfl, fun b hb => ?_, ?_, fun b hb => ?_, fun b hb => ?_, Nat.le_trans hlow (Nat.le_add_right _ _), fun k _ hk => absurd hk (Nat.not_lt_zero k), fun b o z => hk b o (fun hb => ?_) (D.keep b o z), D.bare⟩
  · rcases List.mem_cons.mp hb with rfl | hb
    · exact hk _ _ nod.1.1 (D.base _ (.head _))
    rcases List.mem_cons.mp hb with rfl | hb
    · exact he
    · refine hk _ _ (fun hb' => nod.2.1 ?_) (D.base _ (.tail _ (.tail _ hb)))
      rw [← hb']; exact List.mem_map_of_mem hb
  · have hlt' : ∀ b ∈ p :: base, b.1 < e := fun b hb => by
      have h1 : b ∈ p :: (it, oi) :: base := by
        rcases List.mem_cons.mp hb with rfl | hb
        · exact .head _
        · exact .tail _ (.tail _ hb)
      have h3 : b.1 < N := D.lt b h1
      exact Nat.lt_of_lt_of_le h3 hle
    show (p.1 :: e :: base.map (·.1)).Nodup
    refine List.nodup_cons.mpr ⟨fun hm => ?_, List.nodup_cons.mpr ⟨fun hm => ?_, nod.2.2⟩⟩
    · rcases List.mem_cons.mp hm with hm | hm
      · exact absurd (hlt' p (.head _)) (by rw [hm]; exact Nat.lt_irrefl _)
      · exact nod.1.2 hm
    · obtain ⟨b, hb, hb2⟩ := List.mem_map.mp hm
      exact absurd (hlt' b (.tail _ hb)) (by rw [hb2]; exact Nat.lt_irrefl _)
  · have key : ∀ b ∈ p :: (it, oi) :: base, b.1 < N + 2 := fun b hb => Nat.lt_of_lt_of_le (D.lt b hb) (Nat.le_add_right _ _)
    rcases List.mem_cons.mp hb with rfl | hb
    · exact key _ (.head _)
    rcases List.mem_cons.mp hb with rfl | hb
    · exact hlt
    · exact key _ (.tail _ (.tail _ hb))
  · rcases List.mem_cons.mp hb with rfl | hb
    · exact D.low _ (.head _)
    rcases List.mem_cons.mp hb with rfl | hb
    · exact Nat.le_trans hlow hle
    · exact D.low _ (.tail _ (.tail _ hb))
  · have h1 := D.low (it, oi) (.tail _ (.head _))
    exact Rep.notOld O h1 z hb
/-- an iterator over a range -/
theorem re_ok {V : Cfg} (O : CfgOk V) {base : Own} {N t j : Nat} {g : Array GenState} {fr : Option (List Env)} {p : Addr × Obj} {it : Nat} {x left : Int} (hx : left ≤ 0) :
    CtrOk V leCtr (rNext it) ⟨p :: (it, ritObj x left) :: base, [], 0, j, N, t, g⟩ fr :=
  le_gen O fun _ _ _ hh hb z => rit_end hh (hb _ (.tail _ (.head _))) hx z
theorem rn_ok {V : Cfg} (O : CfgOk V) {base : Own} {N t j : Nat} {g : Array GenState} {fr : Option (List Env)} {p : Addr × Obj} {it : Nat} {x left : Int} (hx : ¬ left ≤ 0) :
    CtrOk V (rnCtr x left) (rNext it) ⟨p :: (it, ritObj x left) :: base, [], 0, j, N, t, g⟩ fr := by
  intro A h R lo _ D q
  have ho := D.base _ (.tail _ (.head _))
  refine code_meets F.slot_range_iterator_next ⟨_, ho, rfl⟩ F.entry_range_iterator_next (F.args_range_iterator_next_1 _) (AutoRange.range_iterator___next___range_iterator_1 it x left 1 hx) ⟨ho, ?_⟩
  have D1 := D.setBase O (i := 1) (p := (it, ritObj x left)) (f := Obj.mapFields fun y => y.setIfInBounds 0 (rawInt (x + 1))) rfl rfl
  have D2 := D1.setBase O (i := 1) (p := (it, Obj.mapFields (fun y => y.setIfInBounds 0 (rawInt (x + 1))) (ritObj x left))) (f := Obj.mapFields fun y => y.setIfInBounds 1 (rawInt (left - 1))) rfl rfl
  exact q () _ (D2.toks (j' := j + 1) (t' := t))
theorem range_iter_ok {V : Cfg} {st : St} {fr : Option (List Env)} {k r t u v : Nat} {n : Int} (e : lookS st k = some (r, rangeObj n t u v)) (h0 : 0 < n) (h1 : n < 100000) :
    CtrOk V (pushCtr (ritObj 0 n)) (.call (.builtin "range.__iter__") ⟨[.ref r], []⟩) st fr := by
  intro A h R lo _ D q
  have hl := D.look e
  have hsz : h.objs.size = st.N + st.n := D.size
  have hs : Builtin.Range.rangeSize 0 n 1 = n := by unfold Builtin.Range.rangeSize; rw [if_pos (by decide), if_pos h0]; omega
  have hf : ∀ i : Int, -100000 < i → i < 1000000 → Builtin.Range.rangeFitsLong i = true := fun i h1 h2 => by unfold Builtin.Range.rangeFitsLong; simp; omega
  have hall : (Builtin.Range.rangeFitsLong 0 && Builtin.Range.rangeFitsLong n && Builtin.Range.rangeFitsLong 1 && Builtin.Range.rangeFitsLong (Builtin.Range.rangeSize 0 n 1) && (Builtin.Range.rangeSize 0 n 1 == 0 || if (1 : Int) > 0 then Builtin.Range.rangeFitsLong (n + (1 - 1)) else Builtin.Range.rangeFitsLong (n + (1 + 1)))) = true := by
    rw [hs, hf 0 (by decide) (by decide), hf n (by omega) (by omega), hf 1 (by decide) (by decide), if_pos (by decide), hf (n + (1 - 1)) (by omega) (by omega)]; simp
  refine code_meets F.slot_range_iter ⟨_, hl, rfl⟩ F.entry_range_iter (F.args_range_iter_1 _) (AutoRange.range___iter___range_1 r 0 n 1 t u v (by rw [hall]; decide)) ⟨hl, ?_⟩
  rw [hall, hs]
  have e2 := q () _ (D.alloc (o := ritObj 0 n) rfl _ _ rfl rfl)
  show R (.ok (.ret (.ref h.objs.size))) _
  rw [hsz]
  exact e2
/-- whether a number's square leaves what q leaves -/
noncomputable def rootB (q pr : Int) (y : Nat) : Bool := ((y : Int) * y - q).fmod pr == 0
noncomputable def anyRoot (q pr : Int) (n : Nat) : Bool := (List.range n).any (rootB q pr)
theorem anyRoot_succ (q pr : Int) (n : Nat) : anyRoot q pr (n + 1) = (anyRoot q pr n || rootB q pr n) := by
  unfold anyRoot
  rw [List.range_succ, List.any_append]; simp
section
variable {w₀ : World} {b1 b2 : Bool} {w : World} (hw : w = wf w₀ b1 b2) {scr : Obj} {h₀ : Heap} (G : Grd w scr h₀) {d : Drawn} {os : OsState} {A : Around} (lo : Lo A 700) {R : Result → Shared → Prop}
    {sf cq cp dd it acc tq tpr N : Nat} {q pr : Int} {rest : Own} {g : Array GenState}
include hw G lo
theorem comp_loop (hpr : 0 < pr) {m : Nat} (hm : m < 10000) (n : Nat) : ∀ (i : Nat) (l : List (Str × Nat × Value)) (xs : Array Value) (c t : Nat) (h : Heap), i + n = m → (l = [] ∧ i = 0 ∧ 0 < n ∨ ∃ kx vx, l = [(nX, kx, vx)]) → (xs.size != 0) = anyRoot q pr i → xs.size ≤ i →
    RepC w scr h₀ d os h ⟨(dd, dO w.params l) :: (it, ritObj i n) :: (acc, listObj xs c) :: (cq, cellObj (.int q tq)) :: (cp, cellObj (.int pr tpr)) :: rest, [], 0, 0, N, t, g⟩ →
    (∀ (xs : Array Value) (c t kx : Nat) (vx : Value) (h : Heap), (xs.size != 0) = anyRoot q pr m → RepC w scr h₀ d os h ⟨(dd, dO w.params [(nX, kx, vx)]) :: (acc, listObj xs c) :: (cq, cellObj (.int q tq)) :: (cp, cellObj (.int pr tpr)) :: rest, [], 0, 0, N + 2, t, g⟩ → R (.ok .next) ⟨h, g, d, t, os⟩) →
    codeAny (model PySem.Challenge.pw_nq0197_01 w) A (syCl w.params sf cq cp dd it acc) R ⟨h, g, d, t, os⟩ := by
  have O : CfgOk (cfg w scr h₀ A 700 R d os) := G.cfg lo
  induction n with
  | zero =>
    intro i l xs c t h hi hl hx hz D z
    have hi : i = m := hi
    subst hi
    rcases hl with ⟨_, _, h0⟩ | ⟨kx, vx, rfl⟩
    · omega
    let H0 : Nat → Code → St → Prop := fun _ c' st => c' = rNext it ∧ st = ⟨(dd, dO w.params [(nX, kx, vx)]) :: (it, ritObj i (0 : Nat)) :: (acc, listObj xs c) :: (cq, cellObj (.int q tq)) :: (cp, cellObj (.int pr tpr)) :: rest, [], 0, 0, N, t, g⟩
    refine seg_run G lo (cs := [leCtr]) (H := seen2 pk5 H0 (fun _ _ _ _ => False)) (fun j C cc st fr hj hh => ?_) (Eq.mpr (cl_end w₀ b1 b2 w hw scr h₀ A R d os H0 (fun _ _ _ _ => False) _ sf cq cp dd it acc c tq tpr N t kx i (0 : Nat) q pr vx xs rest g) ?_) D
    · match j, hj with
      | 0, hj =>
        have hj := Option.some.inj hj
        subst hj
        obtain ⟨rfl, rfl⟩ := (show H0 0 cc st from hh)
        exact re_ok O (by decide)
    · refine ⟨eqs_want _ _ _, trivial, ⟨rfl, rfl⟩, fun x => ⟨eqs_want _ _ _, trivial, fun h' D' => ?_⟩⟩
      exact z xs c t kx vx h' hx (D'.sublist (j' := 0) (t' := t) (.cons_cons _ (.cons _ (List.Sublist.refl _))))
  | succ n ih =>
    intro i l xs c t h hi hl hx hz D z
    have e1 : ((i : Int) + 1) = ((i + 1 : Nat) : Int) := by push_cast; rfl
    have e2 : (((n + 1 : Nat) : Int) - 1) = ((n : Nat) : Int) := by push_cast; omega
    let H0 : Nat → Code → St → Prop := fun _ c' st => c' = rNext it ∧ st = ⟨(dd, dO w.params l) :: (it, ritObj i (n + 1 : Nat)) :: (acc, listObj xs c) :: (cq, cellObj (.int q tq)) :: (cp, cellObj (.int pr tpr)) :: rest, [], 0, 0, N, t, g⟩
    let HH : Nat → Code → List (Option (Addr × Obj)) → Nat → Prop := fun _ c' l' t => c' = lApp acc (.int i t) ∧ l' = [some (acc, listObj xs c)]
    have ok : ∀ i' C c' st fr, ([rnCtr i (n + 1 : Nat), apCtr 5 (fun st => xs.push (.int i st.t))] : List Ctr)[i']? = some C → seen2 pk5 H0 HH i' c' st fr → CtrOk (cfg w scr h₀ A 700 R d os) C c' st fr := by
      intro j C cc st fr hj hh
      match j, hj with
      | 0, hj =>
        have hj := Option.some.inj hj
        subst hj
        obtain ⟨rfl, rfl⟩ := (show H0 0 cc st from hh)
        exact rn_ok O (by omega)
      | 1, hj =>
        have hj := Option.some.inj hj
        subst hj
        obtain ⟨rfl, e⟩ := (show HH 1 cc ([5].map (lookS st)) st.t from hh)
        exact append_ok' O (by simpa using e) (by unfold sizeLine; omega)
    have hp0 : (pr == 0) = false := by simp; omega
    have hr : rootB q pr i = (((i : Int) * i - q).fmod pr == 0) := rfl
    cases hb : rootB q pr i with
    | true =>
      have hcond : ((((True ∧ -100000 < (i : Int) ∧ (i : Int) < 100000) ∧ (pr == 0) = false) ∧ (((i : Int) * i - q).fmod pr == 0) = true)) := ⟨⟨⟨trivial, by omega, by omega⟩, hp0⟩, hr ▸ hb⟩
      have fin : ∀ (c' kx : Nat) h', RepC w scr h₀ d os h' ⟨(dd, dO w.params [(nX, kx, .int i t)]) :: (it, ritObj ((i : Int) + 1) ((n + 1 : Nat) - 1)) :: (acc, listObj (xs.push (.int i t)) c') :: (cq, cellObj (.int q tq)) :: (cp, cellObj (.int pr tpr)) :: rest, [], 0, 0, N + 0, t + 6, g⟩ → codeAny (model PySem.Challenge.pw_nq0197_01 w) A (syCl w.params sf cq cp dd it acc) R ⟨h', g, d, t + 6, os⟩ := fun c' kx h' D' => by
        rw [e1, e2] at D'
        refine ih (i + 1) _ _ c' (t + 6) h' (by omega) (.inr ⟨kx, _, rfl⟩) ?_ (by simp; omega) D' z
        rw [anyRoot_succ, hb]; simp
      rcases hl with ⟨rfl, _, _⟩ | ⟨kx, vx, rfl⟩
      · refine seg_run G lo (H := seen2 pk5 H0 HH) ok (Eq.mpr (cl_first_app w₀ b1 b2 w hw scr h₀ A R d os H0 HH _ sf cq cp dd it acc c tq tpr N t 0 i (n + 1 : Nat) q pr .none xs rest g) ?_) D
        exact ⟨eqs_want _ _ _, trivial, ⟨rfl, rfl⟩, fun _ => ⟨eqs_want _ _ _, hcond, ⟨rfl, rfl⟩, fun c' => ⟨trivial, trivial, fun h' D' => fin c' _ h' D'⟩⟩⟩
      · refine seg_run G lo (H := seen2 pk5 H0 HH) ok (Eq.mpr (cl_app w₀ b1 b2 w hw scr h₀ A R d os H0 HH _ sf cq cp dd it acc c tq tpr N t kx i (n + 1 : Nat) q pr vx xs rest g) ?_) D
        exact ⟨eqs_want _ _ _, trivial, ⟨rfl, rfl⟩, fun _ => ⟨eqs_want _ _ _, hcond, ⟨rfl, rfl⟩, fun c' => ⟨trivial, trivial, fun h' D' => fin c' _ h' D'⟩⟩⟩
    | false =>
      have hcond : ((((True ∧ -100000 < (i : Int) ∧ (i : Int) < 100000) ∧ (pr == 0) = false) ∧ (((i : Int) * i - q).fmod pr == 0) = false)) := ⟨⟨⟨trivial, by omega, by omega⟩, hp0⟩, hr ▸ hb⟩
      have fin : ∀ (kx : Nat) h', RepC w scr h₀ d os h' ⟨(dd, dO w.params [(nX, kx, .int i t)]) :: (it, ritObj ((i : Int) + 1) ((n + 1 : Nat) - 1)) :: (acc, listObj xs c) :: (cq, cellObj (.int q tq)) :: (cp, cellObj (.int pr tpr)) :: rest, [], 0, 0, N + 0, t + 6, g⟩ → codeAny (model PySem.Challenge.pw_nq0197_01 w) A (syCl w.params sf cq cp dd it acc) R ⟨h', g, d, t + 6, os⟩ := fun kx h' D' => by
        rw [e1, e2] at D'
        refine ih (i + 1) _ _ c (t + 6) h' (by omega) (.inr ⟨kx, _, rfl⟩) ?_ (by omega) D' z
        rw [anyRoot_succ, hb, hx]; simp
      rcases hl with ⟨rfl, _, _⟩ | ⟨kx, vx, rfl⟩
      · refine seg_run G lo (H := seen2 pk5 H0 HH) ok (Eq.mpr (cl_first_no w₀ b1 b2 w hw scr h₀ A R d os H0 HH _ sf cq cp dd it acc c tq tpr N t 0 i (n + 1 : Nat) q pr .none xs rest g) ?_) D
        exact ⟨eqs_want _ _ _, trivial, ⟨rfl, rfl⟩, fun _ => ⟨eqs_want _ _ _, hcond, fun h' D' => fin _ h' D'⟩⟩
      · refine seg_run G lo (H := seen2 pk5 H0 HH) ok (Eq.mpr (cl_no w₀ b1 b2 w hw scr h₀ A R d os H0 HH _ sf cq cp dd it acc c tq tpr N t kx i (n + 1 : Nat) q pr vx xs rest g) ?_) D
        exact ⟨eqs_want _ _ _, trivial, ⟨rfl, rfl⟩, fun _ => ⟨eqs_want _ _ _, hcond, fun h' D' => fin _ h' D'⟩⟩
theorem comp_run (hpr : 0 < pr) {m : Nat} (hm0 : 0 < m) (hm : m < 10000) (hpm : pr = m) {t : Nat} {h : Heap}
    (D : RepC w scr h₀ d os h ⟨(dd, dO w.params []) :: (it, ritObj 0 pr) :: (acc, listObj #[] 0) :: (cq, cellObj (.int q tq)) :: (cp, cellObj (.int pr tpr)) :: rest, [], 0, 0, N, t, g⟩)
    (z : ∀ (xs : Array Value) (c t kx : Nat) (vx : Value) (h : Heap), (xs.size != 0) = anyRoot q pr m → RepC w scr h₀ d os h ⟨(dd, dO w.params [(nX, kx, vx)]) :: (acc, listObj xs c) :: (cq, cellObj (.int q tq)) :: (cp, cellObj (.int pr tpr)) :: rest, [], 0, 0, N + 2, t, g⟩ → R (.ok .next) ⟨h, g, d, t, os⟩) :
    codeAny (model PySem.Challenge.pw_nq0197_01 w) A (syCs w.params sf cq cp dd it acc) R ⟨h, g, d, t, os⟩ := by
  have go : ∀ h', RepC w scr h₀ d os h' ⟨(dd, dO w.params []) :: (it, ritObj 0 pr) :: (acc, listObj #[] 0) :: (cq, cellObj (.int q tq)) :: (cp, cellObj (.int pr tpr)) :: rest, [], 0, 0, N + 0, t, g⟩ → codeAny (model PySem.Challenge.pw_nq0197_01 w) A (syCl w.params sf cq cp dd it acc) R ⟨h', g, d, t, os⟩ := fun h' D' => by
    refine comp_loop hw G lo hpr hm m 0 [] #[] 0 t h' (by omega) (.inl ⟨rfl, rfl, hm0⟩) rfl (Nat.le_refl _) ?_ z
    rw [← hpm]
    exact D'
  cases b2 with
  | true =>
    refine seg_run G lo (cs := []) (H := seen2 pk5 (fun _ _ _ => False) (fun _ _ _ _ => False)) (fun j C cc st fr hj hh => by cases hj) (Eq.mpr (cs_once w₀ b1 w hw scr h₀ A R d os _ (fun _ _ _ _ => False) _ sf cq cp dd it acc 0 tq tpr N t 0 0 pr q pr .none #[] rest g) ?_) D
    exact ⟨eqs_want _ _ _, trivial, fun h' D' => go h' D'⟩
  | false =>
    refine seg_run G lo (cs := []) (H := seen2 pk5 (fun _ _ _ => False) (fun _ _ _ _ => False)) (fun j C cc st fr hj hh => by cases hj) (Eq.mpr (cs_twice w₀ b1 w hw scr h₀ A R d os _ (fun _ _ _ _ => False) _ sf cq cp dd it acc 0 tq tpr N t 0 0 pr q pr .none #[] rest g) ?_) D
    exact ⟨eqs_want _ _ _, trivial, fun h' D' => go h' D'⟩
end
end Mine
end Sy3

section Sy4
open PySem PySem.Calls PySem.W PySem.W.X PyProof.Rows
set_option Elab.async false
set_option maxRecDepth 100000
namespace Mine
section
variable {α β : Type} {M : Model} {A : Around} {c : Code} {s : Shared}
theorem own_onRaise {m : Sem α} {k : Value → Sem Unit} {Q : α → Shared → Prop} {E : Value → Shared → Prop} (h : wpOwn M A c m Q (fun _ _ => False) s) : wpOwn M A c (m.onRaise k) Q E s := fun Γ p hc hΓ => by
  rw [Sem.wp_onRaise]
  exact Sem.wp_mono M Γ m (fun _ _ _ h' => h') (fun _ _ _ h' => h'.elim) p s (h Γ p hc hΓ)
theorem own_stand {q : Pos} {Q : Unit → Shared → Prop} {E : Value → Shared → Prop} (h : Q () s) : wpOwn M A c (standAt q) Q E s := fun Γ p hc hΓ => by
  rw [Sem.wp_cmd_standAt]; exact h
theorem own_pure {a : α} {Q : α → Shared → Prop} {E : Value → Shared → Prop} (h : Q a s) : wpOwn M A c (pure a) Q E s := wpOwn_of_wpAny (wpAny_pure h)
theorem own_operate {vs : List Value} {m : Sem Value} {Q : Value → Shared → Prop} {E : Value → Shared → Prop} (h : wpOwn M A c m Q E s) : wpOwn M A c (operate vs m) Q E s := fun Γ p hc hΓ => by
  rw [Sem.wp_operate]; exact h Γ p hc hΓ
end
theorem exec_one (st : Stmt) (env : Env) : exec st env = execs [st] env := by
  have key : ∀ k : Flow → Sem Flow, (∀ f, k f = pure f) → (exec st env >>= k) = exec st env := fun k hk => by rw [show k = pure from funext hk, bind_pure]
  rw [execs_cons]
  exact (key _ (fun f => by cases f <;> rfl)).symm
/-- a part of a tree by its run -/
theorem pc_run {w : World} {scr : Obj} {h₀ : Heap} (G : Grd w scr h₀) {A : Around} {d : Drawn} {os : OsState} (lo : Lo A 600) {α : Type} {tm tmQ : Sem α} (e : tm = tmQ) {f : α → Flow} (K : α → Shared → Prop) {cs : List Ctr} {H : Nat → Code → St → Option (List Env) → Prop} {m : Nat}
    {c : Code} {hl : List Nat} {hs : List (List Nat)} {hc : List Nat} {base : Own} {N t : Nat} {g : Array GenState} {h : Heap}
    (hC : ∀ (R : Result → Shared → Prop) i C c st fr, cs[i]? = some C → H i c st fr → CtrOk (cfg w scr h₀ A 600 R d os) C c st fr)
    (X : PcGoal w scr h₀ A (fun r s' => match r with | .ok fl => ∀ o, fl = f o → K o s' | .error _ => False) d os cs H (fun r B nw n N' tk g' => ∀ h', RepC w scr h₀ d os h' ⟨B, nw, n, 0, N', tk, g'⟩ → match r with | .inl (.ok fl) => ∀ o, fl = f o → K o ⟨h', g', d, tk, os⟩ | _ => False) m c (R.bindR tmQ fun v => .pure (.done (f v))) hl hs hc base N t g)
    (D : RepC w scr h₀ d os h ⟨base, [], 0, 0, N, t, g⟩) : wpOwn (model PySem.Challenge.pw_nq0197_01 w) A c tm K (fun _ _ => False) ⟨h, g, d, t, os⟩ := by
  subst e
  have z := tree_by_run (V := cfg w scr h₀ A 600 (fun r s' => match r with | .ok fl => ∀ o, fl = f o → K o s' | .error _ => False) d os) (G.cfg lo) (primA_ok _) (hC _) (fun r st h' p D' => ?_) (fun c st h' p D' => ?_) m X (D.cast rfl rfl)
  · exact wpOwn_mono (embed_own z) (fun o s' h' => h' o rfl) (fun _ _ h' => h')
  · have := p h' ((D'.toks (j' := 0) (t' := st.t + st.j)).cast rfl rfl)
    cases r with
    | ok fl => exact this
    | error e => exact this
  · exact (p h' ((D'.toks (j' := 0) (t' := st.t + st.j)).cast rfl rfl)).elim
noncomputable abbrev syBase (P : Params) (sf cq cp kp ks : Nat) (p sg q pr : Int) (tp ts tq tpr : Nat) (rest : Own) : Own := (sf, syF P kp ks p sg tp ts) :: (cq, cellObj (.int q tq)) :: (cp, cellObj (.int pr tpr)) :: rest
section
variable {w₀ : World} {b1 b2 : Bool} {w : World} (hw : w = wf w₀ b1 b2) {scr : Obj} {h₀ : Heap} (G : Grd w scr h₀) {d : Drawn} {os : OsState} {A : Around} (lo : Lo A 600) {R : Result → Shared → Prop}
    {sf cq cp kp ks tq : Nat} {q : Int} {rest : Own} {g : Array GenState}
include hw G lo
/-- a turn that divides -/
theorem sym_div {p pr sg : Int} {tp ts tpr N t m : Nat} {h : Heap} (hp : 1 < p) (hm0 : 0 < m) (hm : m < 1000) (hpm : pr = m) (hdv : p.fmod pr = 0)
    (D : RepC w scr h₀ d os h ⟨syBase w.params sf cq cp kp ks p sg q pr tp ts tq tpr rest, [], 0, 0, N, t, g⟩)
    (z : ∀ (tp ts N t : Nat) (h : Heap), RepC w scr h₀ d os h ⟨syBase w.params sf cq cp kp ks (p.fdiv pr) (if anyRoot q pr m = true then sg else -sg) q pr tp ts tq tpr rest, [], 0, 0, N, t, g⟩ → codeAny (model PySem.Challenge.pw_nq0197_01 w) A (syLoop w.params sf cq cp) R ⟨h, g, d, t, os⟩) :
    codeAny (model PySem.Challenge.pw_nq0197_01 w) A (syLoop w.params sf cq cp) R ⟨h, g, d, t, os⟩ := by
  have hp0 : (pr == 0) = false := by simp; omega
  have nope : ∀ (R : Result → Shared → Prop) i C c st fr, ([] : List Ctr)[i]? = some C → seen2 pkS (fun _ _ _ => False) (fun _ _ _ _ => False) i c st fr → CtrOk (cfg w scr h₀ A 600 R d os) C c st fr := fun _ _ _ _ _ _ h _ => by cases h
  refine y_code _ _ _ _ _ _ ?_
  show wpOwn _ _ _ ((whileTurn (whileIn (fd767 w.params) 2).1 (whileIn (fd767 w.params) 2).2.1 (whileIn (fd767 w.params) 2).2.2 (syEnv w.params sf cq cp)).onRaise _) _ _ _
  refine own_onRaise ?_
  unfold whileTurn
  refine wpOwn_bind ?_
  refine pc_run G lo (by rw [isTrueQ_eq, evalQ_eq]) (f := fun b => .ret (.bool b)) _ nope (Eq.mpr (pc_test w₀ b1 b2 w hw scr h₀ A _ d os (fun _ _ _ => False) (fun _ _ _ _ => False) _ sf cq cp tq tpr N t kp ks tp ts p q pr sg rest g) ?_) D
  refine ⟨eqs_want _ _ _, ⟨trivial, decide_eq_true hp⟩, fun h1 D1 b hb => ?_⟩
  cases hb
  rw [if_pos rfl]
  refine wpOwn_bind ?_
  rw [show execs (whileIn (fd767 w.params) 2).2.1 (syEnv w.params sf cq cp) = execs [.If (syB w.params).t1 (syB w.params).b1 [(syB w.params).s1, .If (.Compare (syComp w.params) [.Eq] [(syB w.params).r] (syB w.params).p1) (syB w.params).b2 (syB w.params).o2 (syB w.params).p2] (syB w.params).p3] (syEnv w.params sf cq cp) by rw [← sy_body], execs_cons]
  refine wpOwn_bind ?_
  rw [exec_If]
  refine wpOwn_bind (own_stand (wpOwn_bind ?_))
  refine pc_run G lo (by rw [isTrueQ_eq, evalQ_eq]) (f := fun b => .ret (.bool b)) _ nope (Eq.mpr (pc_t1 w₀ b1 b2 w hw scr h₀ A _ d os (fun _ _ _ => False) (fun _ _ _ _ => False) _ sf cq cp tq tpr N (t + 1) kp ks tp ts p q pr sg rest g) ?_) D1
  refine ⟨eqs_want _ _ _, ⟨⟨trivial, hp0⟩, by rw [hdv]; rfl⟩, fun h2 D2 b hb => ?_⟩
  cases hb
  rw [if_neg (by decide)]
  rw [execs_cons]
  refine wpOwn_bind ?_
  refine pc_run G lo (by rw [exec_one, execsQ_eq]) (f := fun f => f) _ nope (Eq.mpr (pc_s1 w₀ b1 b2 w hw scr h₀ A _ d os (fun _ _ _ => False) (fun _ _ _ _ => False) _ sf cq cp tq tpr N (t + 1 + 2) kp ks tp ts p q pr sg rest g) ?_) D2
  refine ⟨eqs_want _ _ _, ⟨trivial, by omega, by omega⟩, fun h3 D3 b hb => ?_⟩
  cases hb
  show wpOwn _ _ _ (execs [.If (.Compare (syComp w.params) [.Eq] [(syB w.params).r] (syB w.params).p1) (syB w.params).b2 (syB w.params).o2 (syB w.params).p2] (syEnv w.params sf cq cp)) _ _ _
  rw [execs_cons]
  refine wpOwn_bind ?_
  rw [exec_If]
  refine wpOwn_bind (own_stand (wpOwn_bind ?_))
  rw [isTrue_Compare1, markedBehindIn_of_false (sy_marks w.params)]
  refine wpOwn_bind ?_
  let H0 : Nat → Code → St → Prop := fun i c st => i = 1 ∧ c = syCs w.params sf cq cp (N + 3) (N + 1) (N + 2) ∧ st = ⟨syBase w.params sf cq cp kp ks (p.fdiv pr) sg q pr (t + 1 + 2) ts tq tpr rest, [some (dO w.params []), some (listObj #[] 0), some (ritObj 0 pr), some (rangeObj pr (t + 1 + 2 + 2) tpr (t + 1 + 2 + 2 + 1))], 4, 2, N, t + 1 + 2 + 2, g⟩
  let HH : Nat → Code → List (Option (Addr × Obj)) → Nat → Prop := fun _ c l _ => c = .call (.builtin "range.__iter__") ⟨[.ref N], []⟩ ∧ l = [some (N, rangeObj pr (t + 1 + 2 + 2) tpr (t + 1 + 2 + 2 + 1))]
  refine pc_run G lo (by rw [evalQ_eq]) (f := fun v => .ret v) _ (cs := [pushCtr (ritObj 0 pr), compCtr w.params (fun x => (x.xs.size != 0) = anyRoot q pr m)]) (H := seen2 pkS H0 HH) (fun R j C cc st fr hj hh => ?_) (Eq.mpr (pc_comp w₀ b1 b2 w hw scr h₀ A _ d os H0 HH _ (fun x => (x.xs.size != 0) = anyRoot q pr m) sf cq cp tq tpr N (t + 1 + 2 + 2) kp ks (t + 1 + 2) ts (p.fdiv pr) q pr sg rest g) ?_) D3
  · match j, hj with
    | 0, hj =>
      have hj := Option.some.inj hj
      subst hj
      obtain ⟨rfl, e⟩ := (show HH 0 cc ([2].map (lookS st)) st.t from hh)
      simp only [List.map_cons, List.map_nil, List.cons.injEq, and_true] at e
      exact range_iter_ok e (by omega) (by omega)
    | 1, hj =>
      have hj := Option.some.inj hj
      subst hj
      obtain ⟨_, rfl, rfl⟩ := (show H0 1 cc st from hh)
      intro A' h' R' lo' _ D' q'
      have F := ((D'.flat2.arr (j' := 0) (t' := t + 1 + 2 + 2 + 2) [0, 2, 1, 5, 6, 4] 7 (by decide) (by decide)).cast (V' := cfg w scr h₀ callerA 0 (fun _ _ => True) d os) rfl rfl)
      refine comp_run hw G lo' (pr := pr) (sf := sf) (dd := N + 3) (it := N + 1) (acc := N + 2) (N := N + 4) (rest := (sf, syF w.params kp ks (p.fdiv pr) sg (t + 1 + 2) ts) :: rest) (by omega) hm0 (by omega) hpm F (fun xs c t' kx vx h2 hx D2 => ?_)
      refine q' ⟨⟨xs, c, kx, vx, t'⟩, hx⟩ h2 (Rep.fold (N := N) (n := 6) (base := syBase w.params sf cq cp kp ks (p.fdiv pr) sg q pr (t + 1 + 2) ts tq tpr rest) (D2.cast (V' := cfg w scr h₀ A 600 R d os) rfl rfl) rfl rfl D'.lowN D'.lt D'.nod (fun p hp => ?_) [0, 1] rfl)
      simp only [List.mem_cons] at hp ⊢
      rcases hp with hp | hp | hp | hp
      · exact .inr (.inr (.inr (.inr (.inl hp))))
      · exact .inr (.inr (.inl hp))
      · exact .inr (.inr (.inr (.inl hp)))
      · exact .inr (.inr (.inr (.inr (.inr hp))))
  · refine ⟨eqs_want _ _ _, trivial, ⟨rfl, rfl⟩, fun _ => ⟨eqs_want _ _ _, trivial, ⟨rfl, rfl, rfl⟩, fun x => ⟨eqs_want _ _ _, trivial, fun h4 D4 v hv => ?_⟩⟩⟩
    cases hv
    obtain ⟨⟨xs, c, kx, vx, tx⟩, hx⟩ := x
    simp only at hx D4 ⊢
    have F4 := D4.flat2.arr (j' := 0) (t' := tx) [2, 3, 4, 1] 5 (by decide) (by decide)
    refine wpOwn_bind (wpOwn_holding ?_)
    refine pc_run G lo (by rw [evalQ_eq]) (f := fun v => .ret v) _ nope (Eq.mpr (pc_nil w₀ b1 b2 w hw scr h₀ A _ d os (fun _ _ _ => False) (fun _ _ _ _ => False) _ sf cq cp tq tpr (N + 6) tx kp ks (t + 1 + 2) ts (p.fdiv pr) q pr sg ((N + 2, listObj xs c) :: rest) g) ?_) F4
    refine ⟨trivial, trivial, fun h5 D5 v hv => ?_⟩
    cases hv
    refine wpOwn_bind (own_stand (wpOwn_bind (own_operate ?_)))
    have hl1 : h5.IsList (N + 2) xs := ⟨_, D5.base (N + 2, listObj xs c) (.tail _ (.tail _ (.tail _ (.head _)))), rfl, c, rfl⟩
    have hl2 : h5.IsList (N + 6) #[] := ⟨_, D5.new 0 (listObj #[] 0) Nat.one_pos rfl, rfl, 0, rfl⟩
    have hu : (A.under (syLoop w.params sf cq cp)).units < cLine := by
      have h1 : (A.under (syLoop w.params sf cq cp)).units = A.units + (syLoop w.params sf cq cp).cUnits := rfl
      have h2 := units_le (syLoop w.params sf cq cp)
      have h3 := lo.units
      have h4 : cLine = 9900 := rfl
      omega
    have D6 := (D5.anew tx).cast (V' := cfg w scr h₀ callerA 0 (fun _ _ => True) d os) rfl rfl
    have fin : ∀ (sg' : Int) (ts' t' : Nat) (h' : Heap), sg' = (if anyRoot q pr m = true then sg else -sg) → RepC w scr h₀ d os h' ⟨syBase w.params sf cq cp kp ks (p.fdiv pr) sg' q pr (t + 1 + 2) ts' tq tpr ((N + 2, listObj xs c) :: rest), [], 0, 0, N + 6 + 1, t', g⟩ →
        wpOwn (model PySem.Challenge.pw_nq0197_01 w) A (syLoop w.params sf cq cp) (again (.whileLoop (whileIn (fd767 w.params) 2).1 (whileIn (fd767 w.params) 2).2.1 (whileIn (fd767 w.params) 2).2.2 (syEnv w.params sf cq cp))) (postC PySem.Challenge.pw_nq0197_01 w A R) (fun _ _ => False) ⟨h', g, d, t', os⟩ := fun sg' ts' t' h' hs D' => by
      subst hs
      refine own_pure ⟨rfl, z _ _ _ _ h' (D'.sublist (j' := 0) (t' := t') (.cons_cons _ (.cons_cons _ (.cons_cons _ (.cons _ (List.Sublist.refl _))))))⟩
    cases hr : anyRoot q pr m with
    | true =>
      rw [hr] at hx fin
      have hsz : (xs.size != (#[] : Array Value).size) = true := hx
      refine wpOwn_of_wpAny (SeqAt.eq_list_lengthsAt hl1 hl2 hsz hu ?_)
      refine wpOwn_holding (wpOwn_of_wpAny (wpAny_truthy_bool ?_))
      rw [if_neg (by decide), sy_o2]
      refine own_pure ?_
      refine own_pure ?_
      refine own_pure ?_
      exact fin sg ts tx h5 (by rw [if_pos rfl]) D6
    | false =>
      rw [hr] at hx fin
      have hsz : xs.size = (#[] : Array Value).size := by simpa using hx
      refine wpOwn_of_wpAny (SeqAt.eq_listAt (e := fun _ => true) hl1 hl2 hsz hu (fun j h1 h2 => absurd h2 (Nat.not_lt_zero j)) ?_)
      refine wpOwn_holding (wpOwn_of_wpAny (wpAny_truthy_bool ?_))
      rw [if_pos (by simp)]
      refine pc_run G lo (by rw [execsQ_eq]) (f := fun f => f) _ nope (Eq.mpr (pc_flip w₀ b1 b2 w hw scr h₀ A _ d os (fun _ _ _ => False) (fun _ _ _ _ => False) _ sf cq cp tq tpr (N + 6 + 1) tx kp ks (t + 1 + 2) ts (p.fdiv pr) q pr sg ((N + 2, listObj xs c) :: rest) g) ?_) D6
      refine ⟨eqs_want _ _ _, trivial, fun h7 D7 b hb => ?_⟩
      cases hb
      refine own_pure ?_
      refine own_pure ?_
      exact fin (-sg) tx _ h7 (by rw [if_neg (by decide)]) D7
end
end Mine
end Sy4

section Sy5
open PySem PySem.Calls PySem.W PySem.W.X PyProof.Rows
set_option Elab.async false
set_option maxRecDepth 100000
namespace Mine
/-- what _law_symbol's loop comes to -/
noncomputable def symGo (q : Int) : Nat → Int → Int → Int → Option Int
  | 0, _, _, _ => none
  | n + 1, p, pr, sg => if 1 < p then (if p.fmod pr = 0 then symGo q n (p.fdiv pr) pr (if anyRoot q pr pr.toNat = true then sg else -sg) else symGo q n p (pr + 2) sg) else some sg
structure SyX where
  p : Int
  pr : Int
  tp : Nat
  ts : Nat
  tpr : Nat
  N : Nat
  t : Nat
noncomputable abbrev sywCtr (P : Params) (t : Nat) (q r : Int) (tq : Nat) : Ctr := { X := SyX, D := 600, resp := fun x st => (.ok .next, ⟨syBase P st.N (st.N + 1) (st.N + 2) t (t + 2) x.p r q x.pr x.tp x.ts tq x.tpr st.base, [], 0, 0, x.N, x.t, st.g⟩) }
noncomputable abbrev syCall (q p : Int) (tq tp : Nat) : Code := .call (.ref 767) ⟨[.int q tq, .int p tp], []⟩
set_option maxHeartbeats 0
theorem sy_seg (w₀ : World) (b1 b2 : Bool) (w : World) (hw : w = wf w₀ b1 b2) (scr : Obj) (h₀ : Heap) (A : Around) (R : Result → Shared → Prop) (d : Drawn) (os : OsState) (H0 : Nat → Code → St → Prop) (HH : Nat → Code → List (Option (Addr × Obj)) → Nat → Prop) (PP : Result ⊕ Code → Own → Nat → Nat → Nat → Array GenState → Prop)
    (tp tq N t : Nat) (p q r : Int) (rest : Own) (g : Array GenState) :
    SegGoal w scr h₀ A 400 R d os [sywCtr w.params t q r tq] (seen2 allSt H0 HH) PP 120 (syCall q p tq tp) [4, 4, 2, 2, 2, 2, 6, 6] [[1]] [4] rest N t g =
    (Eqs (want [] N [4, 4, 2, 2, 2, 2, 6, 6]) ∧ True ∧ H0 0 (syLoop w.params N (N + 1) (N + 2)) ⟨rest, [some (cellObj (.int 3 (t + 3))), some (cellObj (.int q tq)), some (syF w.params t (t + 2) p 1 tp (t + 1))], 3, 4, N, t, g⟩ ∧ ∀ x : SyX,
      Eqs (want [N] x.N [1]) ∧ True ∧ PP (.inl (.ok (.ret (.int r x.ts)))) (syBase w.params N (N + 1) (N + 2) t (t + 2) x.p r q x.pr x.tp x.ts tq x.tpr rest) 0 x.N x.t g) := by
  subst hw
  cases b1 <;> kernel_rfl
section
variable {w₀ : World} {b1 b2 : Bool} {w : World} (hw : w = wf w₀ b1 b2) {scr : Obj} {h₀ : Heap} (G : Grd w scr h₀) {d : Drawn} {os : OsState} {A : Around} {R : Result → Shared → Prop}
    {rest : Own} {g : Array GenState}
include hw G
theorem sym_loop (lo : Lo A 600) {sf cq cp kp ks tq : Nat} {q r : Int} (n : Nat) : ∀ (p pr sg : Int) (tp ts tpr N t : Nat) (h : Heap), symGo q n p pr sg = some r → 0 < pr → pr + 2 * n < 1000 →
    RepC w scr h₀ d os h ⟨syBase w.params sf cq cp kp ks p sg q pr tp ts tq tpr rest, [], 0, 0, N, t, g⟩ →
    (∀ (p pr : Int) (tp ts tpr N t : Nat) (h : Heap), RepC w scr h₀ d os h ⟨syBase w.params sf cq cp kp ks p r q pr tp ts tq tpr rest, [], 0, 0, N, t, g⟩ → R (.ok .next) ⟨h, g, d, t, os⟩) →
    codeAny (model PySem.Challenge.pw_nq0197_01 w) A (syLoop w.params sf cq cp) R ⟨h, g, d, t, os⟩ := by
  have nope : ∀ i C c st fr, ([] : List Ctr)[i]? = some C → seen2 pkS (fun _ _ _ => False) (fun _ _ _ _ => False) i c st fr → CtrOk (cfg w scr h₀ A 600 R d os) C c st fr := fun _ _ _ _ _ h _ => by cases h
  induction n with
  | zero => intro p pr sg tp ts tpr N t h hs; cases hs
  | succ n ih =>
    intro p pr sg tp ts tpr N t h hs h0 h1 D z
    unfold symGo at hs
    by_cases hp : 1 < p
    · rw [if_pos hp] at hs
      by_cases hd : p.fmod pr = 0
      · rw [if_pos hd] at hs
        exact sym_div hw G lo (m := pr.toNat) hp (by omega) (by omega) (by omega) hd D (fun tp ts N t h D' => ih _ _ _ _ _ _ _ _ h hs h0 (by omega) D' z)
      · rw [if_neg hd] at hs
        refine seg_run G lo (H := seen2 pkS (fun _ _ _ => False) (fun _ _ _ _ => False)) nope (Eq.mpr (sy_up w₀ b1 b2 w hw scr h₀ A R d os _ (fun _ _ _ _ => False) _ sf cq cp tq tpr N t kp ks tp ts p q pr sg rest g) ?_) D
        refine ⟨eqs_want _ _ _, ⟨⟨⟨trivial, decide_eq_true hp⟩, by simp; omega⟩, by simpa using hd⟩, fun h' D' => ?_⟩
        exact ih _ _ _ _ _ _ _ _ h' hs (by omega) (by omega) D' z
    · rw [if_neg hp] at hs
      cases hs
      refine seg_run G lo (H := seen2 pkS (fun _ _ _ => False) (fun _ _ _ _ => False)) nope (Eq.mpr (sy_end w₀ b1 b2 w hw scr h₀ A R d os _ (fun _ _ _ _ => False) _ sf cq cp tq tpr N t kp ks tp ts p q pr r rest g) ?_) D
      exact ⟨eqs_want _ _ _, ⟨trivial, decide_eq_false hp⟩, fun h' D' => z _ _ _ _ _ _ _ h' D'⟩
theorem symbol_run (lo : Lo A 400) {p q r : Int} {tp tq N t n : Nat} {h : Heap} (hs : symGo q n p 3 1 = some r) (hn : n < 400) (D : RepC w scr h₀ d os h ⟨rest, [], 0, 0, N, t, g⟩)
    (z : ∀ (tk N t : Nat) (h : Heap), RepC w scr h₀ d os h ⟨rest, [], 0, 0, N, t, g⟩ → R (.ok (.ret (.int r tk))) ⟨h, g, d, t, os⟩) :
    codeAny (model PySem.Challenge.pw_nq0197_01 w) A (syCall q p tq tp) R ⟨h, g, d, t, os⟩ := by
  let H0 : Nat → Code → St → Prop := fun _ c st => c = syLoop w.params N (N + 1) (N + 2) ∧ st = ⟨rest, [some (cellObj (.int 3 (t + 3))), some (cellObj (.int q tq)), some (syF w.params t (t + 2) p 1 tp (t + 1))], 3, 4, N, t, g⟩
  refine seg_run G lo (cs := [sywCtr w.params t q r tq]) (H := seen2 allSt H0 (fun _ _ _ _ => False)) (fun j C cc st fr hj hh => ?_) (Eq.mpr (sy_seg w₀ b1 b2 w hw scr h₀ A R d os H0 (fun _ _ _ _ => False) _ tp tq N t p q r rest g) ?_) D
  · match j, hj with
    | 0, hj =>
      have hj := Option.some.inj hj
      subst hj
      obtain ⟨rfl, rfl⟩ := (show H0 0 cc st from hh)
      intro A' h' R' lo' _ D' q'
      have F := ((D'.flat2.arr (j' := 0) (t' := t + 4) [2, 1, 0] 3 (by decide) (by decide)).cast (V' := cfg w scr h₀ callerA 0 (fun _ _ => True) d os) rfl rfl)
      refine sym_loop hw G lo' n p 3 1 tp (t + 1) (t + 3) _ _ h' hs (by decide) (by omega) F (fun p pr tp ts tpr N t h2 D2 => ?_)
      exact q' ⟨p, pr, tp, ts, tpr, N, t⟩ h2 (D2.cast rfl rfl)
  · refine ⟨eqs_want _ _ _, trivial, ⟨rfl, rfl⟩, fun x => ⟨eqs_want _ _ _, trivial, fun h' D' => ?_⟩⟩
    exact z _ _ _ h' (D'.sublist (j' := 0) (t' := x.t) (.cons _ (.cons _ (.cons _ (List.Sublist.refl _)))))
end
end Mine
end Sy5

section Lw
open PySem PySem.Calls PySem.W PySem.W.X PyProof.Rows
set_option Elab.async false
set_option maxRecDepth 100000
namespace Mine
noncomputable abbrev fd774 (P : Params) : FuncData := fdOf (o774 P)
noncomputable def lwFor (P : Params) (it lf : Addr) : Code := .forLoop (forIn' (fd774 P) 8).1 (.ref it) (forIn' (fd774 P) 8).2.1 (forIn' (fd774 P) 8).2.2 (envOf (fd774 P) 774 lf)
noncomputable abbrev nScript : Str := ⟨#[115, 99, 114, 105, 112, 116]⟩
noncomputable abbrev nNumbers : Str := ⟨#[110, 117, 109, 98, 101, 114, 115]⟩
noncomputable abbrev nHeld : Str := ⟨#[104, 101, 108, 100]⟩
noncomputable abbrev nOne : Str := ⟨#[111, 110, 101]⟩
noncomputable abbrev nOther : Str := ⟨#[111, 116, 104, 101, 114]⟩
noncomputable abbrev nWords : Str := ⟨#[119, 111, 114, 100, 115]⟩
noncomputable abbrev nInside : Str := ⟨#[105, 110, 115, 105, 100, 101]⟩
/-- law's frame -/
noncomputable def lwF (P : Params) (l : List (Str × Nat × Value)) (s : Array (Option Value)) : Obj := { frO P l with slots := s }
noncomputable abbrev lwC (a : LnA) (k : Nat → Nat) (nm hd : Addr) (l : List (Str × Nat × Value)) : List (Str × Nat × Value) :=
  (nScript, k 0, .ref 775) :: (nNumbers, k 1, .ref nm) :: (nP, k 2, .int a.p a.tp) :: (nQ, k 3, .int a.q a.tq) :: (nWhite, k 4, .str a.white a.tw) :: (nMark, k 5, .str a.mark a.tm) :: (nLetter, k 6, .str a.letter a.tl) :: (nHeld, k 7, .ref hd) :: l
noncomputable abbrev lwE (e : Nat → Nat) (v1 v2 v3 v4 : Value) : List (Str × Nat × Value) := [(nOne, e 0, v1), (nOther, e 1, v2), (nWords, e 2, v3), (nInside, e 3, v4)]
noncomputable def tupObj (xs : Array Value) : Obj := { cls := .type "tuple", data := .seq xs 0 }
noncomputable def titObj (t : Addr) (i : Int) : Obj := { cls := .type "tuple_iterator", data := .fields #[.ref t, .int i 0] }
/-- the other way round -/
noncomputable def LnA.swap (a : LnA) : LnA := { a with p := a.q, q := a.p, tp := a.tq, tq := a.tp }
structure LineX where
  tk : Nat
  dt : Nat
  N : Nat
  g : Array GenState
noncomputable abbrev lineCtr (L : Str) : Ctr := { X := LineX, D := 400, resp := fun x st => (.ok (.ret (.str L x.tk)), ⟨st.base, [], 0, st.j + x.dt, x.N, st.t, x.g⟩) }
structure SplX where
  S : Addr
  s2 : Array (Option Value)
  vs : Array Value
  c : Nat
  N : Nat
  dt : Nat
noncomputable abbrev splCtr (ws : List Str) : Ctr := { X := { x : SplX // StrsAre x.vs.toList ws }, D := 400, resp := fun x st => (.ok (.ret (.ref x.1.S)), ⟨match st.base with
    | [] => []
    | p :: rest => (p.1, { p.2 with slots := x.1.s2 }) :: (x.1.S, listObj x.1.vs x.1.c) :: rest, [], 0, st.j + x.1.dt, x.1.N, st.t, st.g⟩) }
noncomputable abbrev stJ (s : Str) : Ctr := { X := Nat × Nat, D := 900, resp := fun x st => (.ok (.ret (.str s x.1)), { st with j := st.j + x.2 }) }
noncomputable abbrev inJ (n : Int) : Ctr := tokCtr (fun tk => .ok (.ret (.int n tk))) 1 900
noncomputable abbrev apJ (k : Nat) (hs : Array Value) (n : Int) : Ctr := { X := Nat × Nat, D := 900, resp := fun y st => (.ok (.ret .none), putS st k (listObj (hs.push (.int n y.1)) y.2)) }
noncomputable abbrev seenW (H1 : Code → Option (Addr × Obj) → Option (List Env) → Prop) (HH : Nat → Code → List (Option (Addr × Obj)) → Nat → Prop) : Nat → Code → St → Option (List Env) → Prop := fun i c st fr => match i with
  | 1 => H1 c (lookS st 1) fr
  | 2 => HH 2 c [lookS st 3] st.t
  | 5 => HH 5 c [lookS st 3] st.t
  | 7 => HH 7 c [lookS st 5] st.t
  | _ => HH i c [] st.t
noncomputable abbrev lwCs (L ins rep mul : Str) (ws : List Str) (hs : Array Value) (nw cnt : Int) : List Ctr := [lineCtr L, splCtr ws, stJ ins, stJ rep, stJ mul, lenCtr nw, inJ cnt, apJ 5 hs cnt]
noncomputable def lwHs : List (List Nat) := [[0], [1, 1, 1], [1, 1, 1, 1], [1, 1], [0, 0, 1], [1, 1], [1, 1, 5, 5, 5, 5, 1, 1], [], []]
set_option maxHeartbeats 0
theorem lw_a (w₀ : World) (b1 b2 : Bool) (w : World) (hw : w = wf w₀ b1 b2) (scr : Obj) (h₀ : Heap) (A : Around) (R : Result → Shared → Prop) (d : Drawn) (os : OsState) (H1 : Code → Option (Addr × Obj) → Option (List Env) → Prop) (HH : Nat → Code → List (Option (Addr × Obj)) → Nat → Prop) (PP : Result ⊕ Code → Own → Nat → Nat → Nat → Array GenState → Prop)
    (a : LnA) (k e : Nat → Nat) (lf nm hd it tup t1 t2 c N t : Nat) (s : Array (Option Value)) (L ins rep mul : Str) (ws : List Str) (hs : Array Value) (nw cnt : Int) (v1 v2 v3 v4 : Value) (rest : Own) (g : Array GenState) :
    SegGoal w scr h₀ A 340 R d os (lwCs L ins rep mul ws hs nw cnt) (seenW H1 HH) PP 300 (lwFor w.params it lf) [5, 5, 5, 5, 7, 5, 5, 5, 9, 9, 9, 9, 2, 2, 2, 2, 2, 9, 2, 2, 2, 2, 2, 2, 9, 2, 2, 2, 2, 2, 2, 9, 2, 2, 6, 1, 1, 1, 1, 0, 0, 1, 1, 1, 1, 1, 0] lwHs [0, 0, 0, 0, 0, 4, 5, 6, 7, 0, 0, 0, 8, 2, 9, 0, 10, 0, 0, 2, 10, 11]
      ((lf, lwF w.params (lwC a k nm hd []) s) :: (hd, listObj hs c) :: (it, titObj tup 0) :: (tup, tupObj #[.ref t1, .ref t2]) :: (t1, tupObj #[.int a.p a.tp, .int a.q a.tq]) :: (t2, tupObj #[.int a.q a.tq, .int a.p a.tp]) :: rest) N t g =
    (Eqs (want [lf, hd, it, tup, t1, t2] N [5, 5, 5, 5, 7, 5, 5, 5, 9, 9, 9, 9, 2, 2, 2, 2, 2, 9, 2, 2, 2, 2, 2, 2, 9, 2, 2, 2, 2, 2, 2, 9, 2, 2, 6, 1, 1, 1, 1, 0, 0, 1, 1, 1, 1, 1, 0]) ∧ True ∧ HH 0 (lnCall a) [] t ∧ ∀ x0 : LineX,
      Eqs [] ∧ True ∧ H1 (.call (.ref 734) ⟨[.str L x0.tk], []⟩) (some (lf, lwF w.params (lwC a k nm hd ((nOne, t, (.int a.p a.tp)) :: (nOther, (t + 1), (.int a.q a.tq)) :: [])) s)) A.frames ∧ ∀ x1 : { x : SplX // StrsAre x.vs.toList ws },
      Eqs (want [lf, x1.1.S, hd, it, tup, t1, t2] x1.1.N [1, 1, 1]) ∧ True ∧ HH 2 (.call (.builtin "str.join") ⟨[.str ⟨#[]⟩ (t + (2 + x0.dt + x1.1.dt + 1)), .ref x1.1.S], []⟩) [some (x1.1.S, listObj x1.1.vs x1.1.c)] t ∧ ∀ x2 : Nat × Nat,
      Eqs (want [lf, x1.1.S, hd, it, tup, t1, t2] x1.1.N [1, 1, 1, 1]) ∧ True ∧ HH 3 (.call (.builtin "str.replace") ⟨[.str ins x2.1, .str a.white a.tw, .str ⟨#[]⟩ (t + (2 + x0.dt + x1.1.dt + 2 + x2.2 + 1))], []⟩) [] t ∧ ∀ x3 : Nat × Nat,
      Eqs (want [lf, x1.1.S, hd, it, tup, t1, t2] x1.1.N [1, 1]) ∧ True ∧ HH 4 (.call (.builtin "str.__mul__") ⟨[.str a.letter a.tl, .int (Int.fdiv a.p 2 + 1) (t + (2 + x0.dt + x1.1.dt + 2 + x2.2 + 2 + x3.2 + 3))], []⟩) [] t ∧ ∀ x4 : Nat × Nat,
      Eqs (want [lf, x1.1.S, hd, it, tup, t1, t2] x1.1.N [0, 0, 1]) ∧ (True ∧ strNe rep mul = false) ∧ HH 5 (.call (.builtin "len") ⟨[.ref x1.1.S], []⟩) [some (x1.1.S, listObj x1.1.vs x1.1.c)] t ∧ ∀ _ : Unit,
      Eqs (want [lf, x1.1.S, hd, it, tup, t1, t2] x1.1.N [1, 1]) ∧ True ∧ HH 6 (.call (.builtin "str.count") ⟨[.str ins x2.1, .str a.white a.tw], []⟩) [] t ∧ ∀ _ : Unit,
      Eqs (want [lf, x1.1.S, hd, it, tup, t1, t2] x1.1.N [1, 1, 5, 5, 5, 5, 1, 1]) ∧ (True ∧ (nw - 1 + cnt != Int.fdiv a.p 2) = false) ∧ HH 6 (.call (.builtin "str.count") ⟨[.str ins x2.1, .str a.white a.tw], []⟩) [] t ∧ ∀ _ : Unit,
      Eqs [] ∧ True ∧ HH 7 (lApp hd (.int cnt (t + (2 + x0.dt + x1.1.dt + 2 + x2.2 + 2 + x3.2 + 4 + x4.2 + 2 + 2 + 1 + 3)))) [some (hd, listObj hs c)] t ∧ ∀ y : Nat × Nat,
      Eqs [] ∧ True ∧ PP (.inr (lwFor w.params it lf)) ((lf, lwF w.params (lwC a k nm hd [(nOne, t, (.int a.p a.tp)), (nOther, (t + 1), (.int a.q a.tq)), (nWords, (t + (2 + x0.dt + x1.1.dt)), .ref x1.1.S), (nInside, (t + (2 + x0.dt + x1.1.dt + 2 + x2.2)), .str ins x2.1)]) x1.1.s2) :: (x1.1.S, listObj x1.1.vs x1.1.c) :: (hd, listObj (hs.push (.int cnt y.1)) y.2) :: (it, titObj tup 1) :: (tup, tupObj #[.ref t1, .ref t2]) :: (t1, tupObj #[.int a.p a.tp, .int a.q a.tq]) :: (t2, tupObj #[.int a.q a.tq, .int a.p a.tp]) :: rest) 0 x1.1.N (t + (2 + x0.dt + x1.1.dt + 2 + x2.2 + 2 + x3.2 + 4 + x4.2 + 2 + 2 + 1 + 4)) x0.g) := by
  subst hw
  cases b1 <;> kernel_rfl
theorem lw_b (w₀ : World) (b1 b2 : Bool) (w : World) (hw : w = wf w₀ b1 b2) (scr : Obj) (h₀ : Heap) (A : Around) (R : Result → Shared → Prop) (d : Drawn) (os : OsState) (H1 : Code → Option (Addr × Obj) → Option (List Env) → Prop) (HH : Nat → Code → List (Option (Addr × Obj)) → Nat → Prop) (PP : Result ⊕ Code → Own → Nat → Nat → Nat → Array GenState → Prop)
    (a : LnA) (k e : Nat → Nat) (lf nm hd it tup t1 t2 c N t : Nat) (s : Array (Option Value)) (L ins rep mul : Str) (ws : List Str) (hs : Array Value) (nw cnt : Int) (v1 v2 v3 v4 : Value) (rest : Own) (g : Array GenState) :
    SegGoal w scr h₀ A 340 R d os (lwCs L ins rep mul ws hs nw cnt) (seenW H1 HH) PP 300 (lwFor w.params it lf) [5, 5, 5, 5, 7, 5, 5, 5, 11, 11, 11, 11, 2, 2, 2, 2, 2, 11, 2, 2, 2, 2, 2, 2, 11, 2, 2, 2, 2, 2, 2, 11, 2, 2, 6, 1, 1, 1, 1, 0, 0, 1, 1, 1, 1, 1, 0] lwHs [0, 0, 0, 0, 0, 4, 5, 6, 7, 0, 0, 0, 8, 2, 9, 0, 10, 0, 0, 2, 10, 11]
      ((lf, lwF w.params (lwC a k nm hd (lwE e v1 v2 v3 v4)) s) :: (hd, listObj hs c) :: (it, titObj tup 1) :: (tup, tupObj #[.ref t1, .ref t2]) :: (t1, tupObj #[.int a.p a.tp, .int a.q a.tq]) :: (t2, tupObj #[.int a.q a.tq, .int a.p a.tp]) :: rest) N t g =
    (Eqs (want [lf, hd, it, tup, t1, t2] N [5, 5, 5, 5, 7, 5, 5, 5, 11, 11, 11, 11, 2, 2, 2, 2, 2, 11, 2, 2, 2, 2, 2, 2, 11, 2, 2, 2, 2, 2, 2, 11, 2, 2, 6, 1, 1, 1, 1, 0, 0, 1, 1, 1, 1, 1, 0]) ∧ True ∧ HH 0 (lnCall a.swap) [] t ∧ ∀ x0 : LineX,
      Eqs [] ∧ True ∧ H1 (.call (.ref 734) ⟨[.str L x0.tk], []⟩) (some (lf, lwF w.params (lwC a k nm hd ((nOne, e 0, (.int a.q a.tq)) :: (nOther, e 1, (.int a.p a.tp)) :: [(nWords, e 2, v3), (nInside, e 3, v4)])) s)) A.frames ∧ ∀ x1 : { x : SplX // StrsAre x.vs.toList ws },
      Eqs (want [lf, x1.1.S, hd, it, tup, t1, t2] x1.1.N [1, 1, 1]) ∧ True ∧ HH 2 (.call (.builtin "str.join") ⟨[.str ⟨#[]⟩ (t + (2 + x0.dt + x1.1.dt + 1)), .ref x1.1.S], []⟩) [some (x1.1.S, listObj x1.1.vs x1.1.c)] t ∧ ∀ x2 : Nat × Nat,
      Eqs (want [lf, x1.1.S, hd, it, tup, t1, t2] x1.1.N [1, 1, 1, 1]) ∧ True ∧ HH 3 (.call (.builtin "str.replace") ⟨[.str ins x2.1, .str a.white a.tw, .str ⟨#[]⟩ (t + (2 + x0.dt + x1.1.dt + 2 + x2.2 + 1))], []⟩) [] t ∧ ∀ x3 : Nat × Nat,
      Eqs (want [lf, x1.1.S, hd, it, tup, t1, t2] x1.1.N [1, 1]) ∧ True ∧ HH 4 (.call (.builtin "str.__mul__") ⟨[.str a.letter a.tl, .int (Int.fdiv a.q 2 + 1) (t + (2 + x0.dt + x1.1.dt + 2 + x2.2 + 2 + x3.2 + 3))], []⟩) [] t ∧ ∀ x4 : Nat × Nat,
      Eqs (want [lf, x1.1.S, hd, it, tup, t1, t2] x1.1.N [0, 0, 1]) ∧ (True ∧ strNe rep mul = false) ∧ HH 5 (.call (.builtin "len") ⟨[.ref x1.1.S], []⟩) [some (x1.1.S, listObj x1.1.vs x1.1.c)] t ∧ ∀ _ : Unit,
      Eqs (want [lf, x1.1.S, hd, it, tup, t1, t2] x1.1.N [1, 1]) ∧ True ∧ HH 6 (.call (.builtin "str.count") ⟨[.str ins x2.1, .str a.white a.tw], []⟩) [] t ∧ ∀ _ : Unit,
      Eqs (want [lf, x1.1.S, hd, it, tup, t1, t2] x1.1.N [1, 1, 5, 5, 5, 5, 1, 1]) ∧ (True ∧ (nw - 1 + cnt != Int.fdiv a.q 2) = false) ∧ HH 6 (.call (.builtin "str.count") ⟨[.str ins x2.1, .str a.white a.tw], []⟩) [] t ∧ ∀ _ : Unit,
      Eqs [] ∧ True ∧ HH 7 (lApp hd (.int cnt (t + (2 + x0.dt + x1.1.dt + 2 + x2.2 + 2 + x3.2 + 4 + x4.2 + 2 + 2 + 1 + 3)))) [some (hd, listObj hs c)] t ∧ ∀ y : Nat × Nat,
      Eqs [] ∧ True ∧ PP (.inr (lwFor w.params it lf)) ((lf, lwF w.params (lwC a k nm hd [(nOne, e 0, (.int a.q a.tq)), (nOther, e 1, (.int a.p a.tp)), (nWords, e 2, .ref x1.1.S), (nInside, e 3, .str ins x2.1)]) x1.1.s2) :: (x1.1.S, listObj x1.1.vs x1.1.c) :: (hd, listObj (hs.push (.int cnt y.1)) y.2) :: (it, titObj tup 2) :: (tup, tupObj #[.ref t1, .ref t2]) :: (t1, tupObj #[.int a.p a.tp, .int a.q a.tq]) :: (t2, tupObj #[.int a.q a.tq, .int a.p a.tp]) :: rest) 0 x1.1.N (t + (2 + x0.dt + x1.1.dt + 2 + x2.2 + 2 + x3.2 + 4 + x4.2 + 2 + 2 + 1 + 4)) x0.g) := by
  subst hw
  cases b1 <;> kernel_rfl
theorem lw_end (w₀ : World) (b1 b2 : Bool) (w : World) (hw : w = wf w₀ b1 b2) (scr : Obj) (h₀ : Heap) (A : Around) (R : Result → Shared → Prop) (d : Drawn) (os : OsState) (H1 : Code → Option (Addr × Obj) → Option (List Env) → Prop) (HH : Nat → Code → List (Option (Addr × Obj)) → Nat → Prop) (PP : Result ⊕ Code → Own → Nat → Nat → Nat → Array GenState → Prop)
    (a : LnA) (k e : Nat → Nat) (lf nm hd it tup t1 t2 c N t : Nat) (s : Array (Option Value)) (L ins rep mul : Str) (ws : List Str) (hs : Array Value) (nw cnt : Int) (v1 v2 v3 v4 : Value) (rest : Own) (g : Array GenState) :
    SegGoal w scr h₀ A 340 R d os [] (seenW H1 HH) PP 300 (lwFor w.params it lf) [5, 5, 5, 5, 7, 5, 5, 4] [] [0]
      ((lf, lwF w.params (lwC a k nm hd (lwE e v1 v2 v3 v4)) s) :: (hd, listObj hs c) :: (it, titObj tup 2) :: (tup, tupObj #[.ref t1, .ref t2]) :: (t1, tupObj #[.int a.p a.tp, .int a.q a.tq]) :: (t2, tupObj #[.int a.q a.tq, .int a.p a.tp]) :: rest) N t g =
    (Eqs (want [lf, hd, it, tup, t1, t2] N [5, 5, 5, 5, 7, 5, 5, 4]) ∧ True ∧ PP (.inl (.ok .next)) ((lf, lwF w.params (lwC a k nm hd (lwE e v1 v2 v3 v4)) s) :: (hd, listObj hs c) :: (it, { cls := .type "tuple_iterator", data := .fields #[.none, .int 2 0] }) :: (tup, tupObj #[.ref t1, .ref t2]) :: (t1, tupObj #[.int a.p a.tp, .int a.q a.tq]) :: (t2, tupObj #[.int a.q a.tq, .int a.p a.tp]) :: rest) 2 N t g) := by
  subst hw
  cases b1 <;> kernel_rfl
end Mine
end Lw

section Lx
open PySem PySem.Calls PySem.W PySem.W.X PyProof.Rows
set_option Elab.async false
set_option maxRecDepth 100000
namespace Mine
noncomputable def lwWhile (P : Params) (lf : Addr) : Code := .whileLoop (whileIn (fd774 P) 3).1 (whileIn (fd774 P) 3).2.1 (whileIn (fd774 P) 3).2.2 (envOf (fd774 P) 774 lf)
noncomputable abbrev lwW (P : Params) (k : Nat → Nat) (nm : Addr) (p q : Int) (tp tq : Nat) : Obj := frO P [(nScript, k 0, .ref 775), (nNumbers, k 1, .ref nm), (nP, k 2, .int p tp), (nQ, k 3, .int q tq)]
structure ApW where
  N : Nat
  dt : Nat
/-- a call of _law_apart -/
noncomputable abbrev awCtr (b : Bool) : Ctr := { X := ApW, D := 400, resp := fun x st => (.ok (.ret (.bool b)), ⟨st.base, [], 0, st.j + x.dt, x.N, st.t, st.g⟩) }
structure WX where
  q : Int
  tq : Nat
  N : Nat
  dt : Nat
/-- law's while -/
noncomputable abbrev lwwCtr (I : WX → Prop) : Ctr := { X := { x : WX // I x }, D := 340, resp := fun x st => (.ok .next, ⟨(st.N, dSet (nwO st 8) 3 (.int x.1.q x.1.tq)) :: (st.N + 8, nwO st 0) :: st.base, [], 0, st.j + x.1.dt, x.1.N, st.t, st.g⟩) }
noncomputable abbrev letCtr (l : Nat) : Ctr := { X := Nat × Nat, D := 400, resp := fun x st => (.ok (.ret (.str ⟨#[l]⟩ x.1)), { st with nw := none :: st.nw, n := st.n + 1, j := st.j + x.2 }) }
noncomputable def dExt (P : Params) (o : Obj) (l : List (Str × Nat × Value)) (s : Array (Option Value)) : Obj := match o with
  | ⟨c, d, dt, _⟩ => match dt with
    | .dict es n => ⟨c, d, .dict (es.toList ++ l.map fun e => (⟨PyData.keyHash P e.1, .str e.1 e.2.1, e.2.2⟩ : DictEntry)).toArray (n + l.length), s⟩
    | dt => ⟨c, d, dt, s⟩
structure FX where
  e : Nat → Nat
  v1 : Value
  v2 : Value
  v3 : Value
  v4 : Value
  s : Array (Option Value)
  u0 : Nat
  u1 : Nat
  c : Nat
  N : Nat
  dt : Nat
  g : Array GenState
noncomputable abbrev lwfCtr (P : Params) (m0 m1 : Int) : Ctr := { X := FX, D := 340, resp := fun x st => (.ok .next, ⟨match st.base with
    | [] => []
    | p :: _ => [(p.1, dExt P p.2 (lwE x.e x.v1 x.v2 x.v3 x.v4) x.s), (st.N + 1, listObj #[.int m0 x.u0, .int m1 x.u1] x.c)], [], 0, st.j + x.dt, x.N, st.t, x.g⟩) }
structure SX where
  tk : Nat
  dt : Nat
  N : Nat
noncomputable abbrev symCtr (r : Int) : Ctr := { X := SX, D := 400, resp := fun x st => (.ok (.ret (.int r x.tk)), ⟨st.base, [], 0, st.j + x.dt, x.N, st.t, st.g⟩) }
noncomputable def slcObj (a b : Value) : Obj := { cls := .type "slice", data := .fields #[a, b, .none] }
noncomputable abbrev seenL (H0 : Nat → Code → St → Option (List Env) → Prop) (HH : Nat → Code → List (Option (Addr × Obj)) → Nat → Prop) : Nat → Code → St → Option (List Env) → Prop := fun i c st fr => match i with
  | 0 => HH 0 c [lookS st 4] st.t
  | 1 => HH 1 c [lookS st 10] st.t
  | 2 => HH 2 c [lookS st 12] st.t
  | 3 => HH 3 c [lookS st 8, lookS st 14] st.t
  | 4 => HH 4 c [lookS st 6, lookS st 16] st.t
  | 5 => H0 5 c st fr
  | 9 => H0 9 c st fr
  | i => HH i c [] st.t
noncomputable abbrev getL (a b : Value) : Code := .call (.builtin "list.__getitem__") ⟨[a, b], []⟩
noncomputable abbrev getS (a b : Value) : Code := .call (.builtin "str.__getitem__") ⟨[a, b], []⟩
noncomputable def lwK (t J J2 : Nat) : Nat → Nat := fun i => match i with
  | 0 => t
  | 1 => t + 8
  | 2 => t + 16
  | 3 => t + 24
  | 4 => t + (J + 5)
  | 5 => t + (J + 13)
  | 6 => t + J2
  | _ => t + (J2 + 1)
noncomputable abbrev lawCall : Code := .call (.ref 774) ⟨[.ref 775], []⟩
noncomputable abbrev lxCs (P : Params) (I : WX → Prop) (s3 d3 : Array Value) (n3 n0 n1 n2 m0 m1 r : Int) (u0 u1 u2 wh mk l : Nat) : List Ctr :=
  [pushCtr (listObj s3 0), pushCtr (listObj s3 0), lenCtr n3, pushCtr (listObj d3 0), pushCtr (listObj #[.int n0 u0, .int n1 u1, .int n2 u2] 0), lwwCtr I, tokCtr (fun tk => .ok (.ret (.str ⟨#[wh]⟩ tk))) 1 900, tokCtr (fun tk => .ok (.ret (.str ⟨#[mk]⟩ tk))) 1 900, letCtr l, lwfCtr P m0 m1, symCtr r]
noncomputable def lxHs : List (List Nat) := [[0, 0, 2, 0, 0, 0], [], [8, 8, 8], [6, 16, 6], [2, 2, 2, 18, 18, 18, 18, 18, 2, 2, 2, 18, 18, 18, 18, 18, 2, 2], [1, 3, 3, 3, 3, 3], [1, 1, 1, 3, 3, 3, 3, 3], [1, 1, 0, 1, 3, 3, 3, 3, 3, 0], [1, 1, 1, 1, 1, 1, 1, 1, 10, 10, 10, 12], [1, 3, 3, 3, 3, 3, 0, 1, 1, 0], [1, 3, 3, 3, 3, 3, 1, 3, 3, 3, 3, 3, 1, 1]]
noncomputable abbrev lxHc (b : Bool) : List Nat := match b with
  | true => [4, 5, 6, 7, 0, 8, 0, 1, 1, 0, 0, 1, 1, 0, 9, 0, 1, 10, 0, 1, 1, 11, 0, 1, 12, 0, 13, 0, 1, 3, 14, 3, 0, 0, 0, 0, 1, 1, 1, 1, 1, 3]
  | false => [4, 5, 6, 7, 0, 8, 0, 1, 1, 0, 0, 1, 1, 0, 9, 0, 1, 10, 0, 1, 1, 11, 0, 1, 12, 0, 13, 0, 1, 2, 14, 2, 0, 0, 0, 0, 1, 1, 1, 1, 1, 3]
set_option maxHeartbeats 0
theorem lww_turn (w₀ : World) (b1 b2 : Bool) (w : World) (hw : w = wf w₀ b1 b2) (scr : Obj) (h₀ : Heap) (A : Around) (R : Result → Shared → Prop) (d : Drawn) (os : OsState) (H0 : Nat → Code → St → Prop) (HH : Nat → Code → List (Option (Addr × Obj)) → Nat → Prop) (PP : Result ⊕ Code → Own → Nat → Nat → Nat → Array GenState → Prop)
    (k : Nat → Nat) (lf nm tp tq N t : Nat) (p q : Int) (rest : Own) (g : Array GenState) :
    SegGoal w scr h₀ A 340 R d os [awCtr false] (seen2 noSt H0 HH) PP 100 (lwWhile w.params lf) [0, 1, 1, 0] [[1, 1, 1]] [4, 0]
      ((lf, lwW w.params k nm p q tp tq) :: rest) N t g =
    (Eqs (want [lf] N [0, 1, 1, 0]) ∧ True ∧ HH 0 (apCall p q tp tq) [] t ∧ ∀ x : ApW, Eqs (want [lf] x.N [1, 1, 1]) ∧ True ∧ PP (.inr (lwWhile w.params lf)) ((lf, lwW w.params k nm p (q + 2) tp (t + (0 + x.dt + 1))) :: rest) 0 x.N (t + (0 + x.dt + 3)) g) := by
  subst hw
  cases b1 <;> kernel_rfl
theorem lww_end (w₀ : World) (b1 b2 : Bool) (w : World) (hw : w = wf w₀ b1 b2) (scr : Obj) (h₀ : Heap) (A : Around) (R : Result → Shared → Prop) (d : Drawn) (os : OsState) (H0 : Nat → Code → St → Prop) (HH : Nat → Code → List (Option (Addr × Obj)) → Nat → Prop) (PP : Result ⊕ Code → Own → Nat → Nat → Nat → Array GenState → Prop)
    (k : Nat → Nat) (lf nm tp tq N t : Nat) (p q : Int) (rest : Own) (g : Array GenState) :
    SegGoal w scr h₀ A 340 R d os [awCtr true] (seen2 noSt H0 HH) PP 100 (lwWhile w.params lf) [0, 1, 1, 0] [[]] [4]
      ((lf, lwW w.params k nm p q tp tq) :: rest) N t g =
    (Eqs (want [lf] N [0, 1, 1, 0]) ∧ True ∧ HH 0 (apCall p q tp tq) [] t ∧ ∀ x : ApW, Eqs [] ∧ True ∧ PP (.inl (.ok .next)) ((lf, lwW w.params k nm p q tp tq) :: rest) 0 x.N (t + (0 + x.dt)) g) := by
  subst hw
  cases b1 <;> kernel_rfl
theorem law_seg (w₀ : World) (b1 b2 : Bool) (w : World) (hw : w = wf w₀ b1 b2) (its : Array Value) (h₀ : Heap) (A : Around) (R : Result → Shared → Prop) (d : Drawn) (os : OsState) (H0 : Nat → Code → St → Option (List Env) → Prop) (HH : Nat → Code → List (Option (Addr × Obj)) → Nat → Prop) (PP : Result ⊕ Code → Own → Nat → Nat → Nat → Array GenState → Prop)
    (b : Bool) (I : WX → Prop) (s3 d3 : Array Value) (n3 n0 n1 n2 m0 m1 r : Int) (u0 u1 u2 wh mk l N t : Nat) (g : Array GenState) :
    SegGoal w (listObj its 0) h₀ A 310 R d os (lxCs w.params I s3 d3 n3 n0 n1 n2 m0 m1 r u0 u1 u2 wh mk l) (seenL H0 HH) PP 500 lawCall [2, 2, 2, 0, 0, 0] lxHs (lxHc b) [] N t g =
    (Eqs (want [] N [2, 2, 2, 0, 0, 0]) ∧ True ∧ HH 0 (getL (.ref 775) (.ref (N + 1))) [some (N + 1, slcObj .none (.int 3 (t + 1)))] t ∧ ∀ _ : Unit,
      Eqs (want [] N [0, 0, 2, 0, 0, 0]) ∧ True ∧ HH 1 (getL (.ref 775) (.ref (N + 4))) [some (N + 4, slcObj .none (.int 3 (t + 5)))] t ∧ ∀ _ : Unit,
      Eqs [] ∧ True ∧ HH 2 (.call (.builtin "len") ⟨[.ref (N + 5)], []⟩) [some (N + 5, listObj s3 0)] t ∧ ∀ _ : Unit,
      Eqs (want [] N [8, 8, 8]) ∧ True ∧ HH 3 (getL (.ref (N + 3)) (.ref (N + 6))) [some (N + 3, listObj #[.int 2 (t + 2), .int 4 (t + 3), .int 780 (t + 4)] 0), some (N + 6, slcObj (.int n3 (t + 7)) .none)] t ∧ ∀ _ : Unit,
      Eqs (want [] N [6, 16, 6]) ∧ True ∧ HH 4 (.call (.builtin "list.__add__") ⟨[.ref (N + 2), .ref (N + 7)], []⟩) [some (N + 2, listObj s3 0), some (N + 7, listObj d3 0)] t ∧ ∀ _ : Unit,
      Eqs (want [] N [2, 2, 2, 18, 18, 18, 18, 18, 2, 2, 2, 18, 18, 18, 18, 18, 2, 2]) ∧ ((((True ∧ ((30 : Int) == 0) = false) ∧ -100000 < (2 : Int) ∧ (2 : Int) < 100000) ∧ ((30 : Int) == 0) = false) ∧ -100000 < (2 : Int) ∧ (2 : Int) < 100000) ∧ H0 5 (lwWhile w.params N) ⟨[], [some (listObj #[.int n0 u0, .int n1 u1, .int n2 u2] 0), some (listObj d3 0), some (slcObj (.int n3 (t + 7)) .none), some (listObj s3 0), some (slcObj .none (.int 3 (t + 5))), some (listObj #[.int 2 (t + 2), .int 4 (t + 3), .int 780 (t + 4)] 0), some (listObj s3 0), some (slcObj .none (.int 3 (t + 1))), some (lwW w.params (lwK t 0 0) (N + 8) (3 + 2 * n0.fmod 30) (3 + 2 * n1.fmod 30) (t + 15) (t + 23))], 9, 25, N, t, g⟩ (pushEnvs [envOf (fd774 w.params) 774 N] A.frames) ∧ ∀ x5 : { x : WX // I x },
      Eqs (want [N, N + 8] x5.1.N [1, 3, 3, 3, 3, 3]) ∧ (True ∧ ((4 : Int) == 0) = false) ∧ HH 6 (getS (.str ⟨#[32, 9, 10, 13]⟩ (t + (25 + x5.1.dt))) (.int (n2.fmod 4) (t + ((25 + x5.1.dt) + 3)))) [] t ∧ ∀ _ : Unit,
      Eqs (want [N, N + 8] x5.1.N [1, 1, 1, 3, 3, 3, 3, 3]) ∧ ((True ∧ 0 < (4 : Int) ∧ (4 : Int) < 100000) ∧ ((2 : Int) == 0) = false) ∧ HH 7 (getS (.str ⟨#[39, 34]⟩ (t + ((25 + x5.1.dt) + 6))) (.int ((n2.fdiv 4).fmod 2) (t + ((25 + x5.1.dt) + 11)))) [] t ∧ ∀ _ : Unit,
      Eqs (want [N, N + 8] x5.1.N [1, 1, 0, 1, 3, 3, 3, 3, 3, 0]) ∧ (True ∧ 0 < (8 : Int) ∧ (8 : Int) < 100000) ∧ HH 8 (ltCall (n2.fdiv 8) (t + ((25 + x5.1.dt) + 16))) [] t ∧ ∀ x8 : Nat × Nat,
      Eqs (want [N, N + 8] x5.1.N [1, 1, 1, 1, 1, 1, 1, 1, 10, 10, 10, 12]) ∧ True ∧ H0 9 (lwFor w.params (x5.1.N + 5) N) ⟨[(N, lwF w.params (lwC ⟨(3 + 2 * n0.fmod 30), x5.1.q, t + 15, x5.1.tq, ⟨#[wh]⟩, ⟨#[mk]⟩, ⟨#[l]⟩, t + ((25 + x5.1.dt) + 4), t + ((25 + x5.1.dt) + 12), x8.1⟩ (lwK t (25 + x5.1.dt) ((25 + x5.1.dt) + 17 + x8.2)) (N + 8) (x5.1.N + 1) []) #[]), (N + 8, (listObj #[.int n0 u0, .int n1 u1, .int n2 u2] 0))], [some (titObj (x5.1.N + 4) 0), some (tupObj #[.ref (x5.1.N + 2), .ref (x5.1.N + 3)]), some (tupObj #[.int x5.1.q x5.1.tq, .int (3 + 2 * n0.fmod 30) (t + 15)]), some (tupObj #[.int (3 + 2 * n0.fmod 30) (t + 15), .int x5.1.q x5.1.tq]), some (listObj #[] 0), none], 6, ((25 + x5.1.dt) + 17 + x8.2) + 2, x5.1.N, t, g⟩ (pushEnvs [envOf (fd774 w.params) 774 N] A.frames) ∧ ∀ x9 : FX,
      Eqs (want [N, x5.1.N + 1] x9.N [1, 3, 3, 3, 3, 3, 0, 1, 1, 0]) ∧ ((True ∧ ((2 : Int) == 0) = false) ∧ (m0.fmod 2 == 0) = b) ∧ HH 10 (syCall x5.1.q (3 + 2 * n0.fmod 30) x5.1.tq (t + 15)) [] t ∧ ∀ x10 : SX,
      Eqs (want [N, x5.1.N + 1] x10.N [1, 3, 3, 3, 3, 3, 1, 3, 3, 3, 3, 3, 1, 1]) ∧ (((((((True ∧ (r == 1) = b) ∧ ((2 : Int) == 0) = false) ∧ 0 < (2 : Int) ∧ (2 : Int) < 100000) ∧ 0 < (2 : Int) ∧ (2 : Int) < 100000) ∧ -100000 < Int.fdiv (3 + 2 * n0.fmod 30) 2 ∧ Int.fdiv (3 + 2 * n0.fmod 30) 2 < 100000) ∧ ((2 : Int) == 0) = false) ∧ ((m0 + m1).fmod 2 == (Int.fdiv (3 + 2 * n0.fmod 30) 2 * Int.fdiv x5.1.q 2).fmod 2) = true) ∧
      PP (.inl (.ok (.ret (.bool true)))) [(N, lwF w.params (lwC ⟨(3 + 2 * n0.fmod 30), x5.1.q, t + 15, x5.1.tq, ⟨#[wh]⟩, ⟨#[mk]⟩, ⟨#[l]⟩, t + ((25 + x5.1.dt) + 4), t + ((25 + x5.1.dt) + 12), x8.1⟩ (lwK t (25 + x5.1.dt) ((25 + x5.1.dt) + 17 + x8.2)) (N + 8) (x5.1.N + 1) (lwE x9.e x9.v1 x9.v2 x9.v3 x9.v4)) x9.s), (x5.1.N + 1, listObj #[.int m0 x9.u0, .int m1 x9.u1] x9.c)] 0 x10.N (t + (((((25 + x5.1.dt) + 17 + x8.2) + 2 + x9.dt) + 4 + x10.dt) + 13)) x9.g) := by
  subst hw
  cases b1 <;> cases b <;> kernel_rfl
end Mine
end Lx

section Bi
open PySem PySem.Calls PySem.W PySem.W.X PyProof.Rows
set_option Elab.async false
set_option maxRecDepth 100000
namespace Mine
/-- tokens only grow -/
theorem runs_toks {M : Model} {Γ : Ctx} {p : Pos} {t : Sem Fin} {fs : List Frame} {s s' : Shared} {e : End} (h : Runs M Γ p t fs s e s') : s.toks ≤ s'.toks := by
  induction h with
  | fresh _ ih => exact Nat.le_trans (Nat.le_succ _) ih
  | done => exact Nat.le_refl _
  | raise => exact Nat.le_refl _
  | yield => exact Nat.le_refl _
  | call _ _ ih1 ih2 => exact Nat.le_trans ih1 ih2
  | resumeFresh _ _ _ _ ih1 ih2 => exact Nat.le_trans ih1 ih2
  | resumeSuspended _ _ _ _ ih1 ih2 => exact Nat.le_trans ih1 ih2
  | segRet _ _ ih1 ih2 => exact Nat.le_trans ih1 ih2
  | segGen _ _ ih1 ih2 => exact Nat.le_trans ih1 ih2
  | segSuspGen _ _ _ _ ih1 ih2 => exact Nat.le_trans ih1 ih2
  | _ => assumption
theorem codeAny_toks {M : Model} {A : Around} {c : Code} {R : Result → Shared → Prop} {s : Shared} (h : codeAny M A c (fun r s' => s.toks ≤ s'.toks → R r s') s) : codeAny M A c R s := fun Γ p hc hΓ => by
  obtain ⟨r, s', hr, hR⟩ := h Γ p hc hΓ
  exact ⟨r, s', hr, hR (runs_toks hr)⟩
end Mine
end Bi

section Wd
open PySem PySem.Calls PySem.W PySem.W.X PyProof.Rows
set_option Elab.async false
set_option maxRecDepth 100000
namespace Mine
open PySem.Builtin PySem.Builtin.Str PySem.StrLaws
/-- the places of a sign -/
noncomputable def idxFrom (c : Nat) : Nat → List Nat → List Nat
  | _, [] => []
  | i, x :: l => if x = c then i :: idxFrom c (i + 1) l else idxFrom c (i + 1) l
theorem occ_key (x : Str) (c : Nat) (n : Nat) : ∀ (i : Nat) (acc : Array Nat) (free : Nat), i + n = x.length + 1 → free ≤ i → acc.size ≤ i →
    (forIn (List.range' i n) (acc, free) (occBody x ⟨#[c]⟩ x.length (x.length + 1))).run.fst.toList = acc.toList ++ idxFrom c i (x.cps.toList.drop i) := by
  induction n with
  | zero =>
    intro i acc free hi _ _
    rw [List.drop_eq_nil_of_le (by rw [Array.length_toList]; show x.length ≤ i; omega)]
    simp [idxFrom, List.range']
  | succ n ih =>
    intro i acc free hi hf ha
    rw [List.range'_succ, List.forIn_cons]
    have hone := subAt_one x c i
    by_cases hlt : i < x.length
    · have hlt' : i < x.cps.toList.length := by rw [Array.length_toList]; exact hlt
      obtain ⟨y, hy⟩ : ∃ y, x.cps.toList[i] = y := ⟨_, rfl⟩
      have hd : x.cps.toList.drop i = y :: x.cps.toList.drop (i + 1) := by rw [List.drop_eq_getElem_cons hlt', hy]
      have hg : x.cps.toList[i]? = some y := by rw [List.getElem?_eq_getElem hlt', hy]
      rw [hd]
      by_cases hc : y = c
      · have := hone.mpr (by rw [hg, hc])
        unfold occBody
        rw [if_pos ⟨⟨⟨by show acc.size < _; omega, hf⟩, this.1⟩, this.2⟩]
        rw [show acc.toList ++ idxFrom c i (y :: x.cps.toList.drop (i + 1)) = (acc.push i).toList ++ idxFrom c (i + 1) (x.cps.toList.drop (i + 1)) by simp [idxFrom, hc]]
        exact ih (i + 1) (acc.push i) (i + 1) (by omega) (Nat.le_refl _) (by simp; omega)
      · have hno : ¬ (i + (⟨#[c]⟩ : Str).length ≤ x.length ∧ subAt x ⟨#[c]⟩ i = true) := fun h => by
          have := hone.mp h
          rw [hg] at this
          exact hc (Option.some.inj this)
        unfold occBody
        rw [if_neg (fun h => hno ⟨h.1.2, h.2⟩)]
        rw [show idxFrom c i (y :: x.cps.toList.drop (i + 1)) = idxFrom c (i + 1) (x.cps.toList.drop (i + 1)) by simp [idxFrom, hc]]
        exact ih (i + 1) acc free (by omega) (by omega) (by omega)
    · have hno : ¬ (i + (⟨#[c]⟩ : Str).length ≤ x.length ∧ subAt x ⟨#[c]⟩ i = true) := fun h => by
        have h1 := h.1
        have : (⟨#[c]⟩ : Str).length = 1 := rfl
        omega
      unfold occBody
      rw [if_neg (fun h => hno ⟨h.1.2, h.2⟩)]
      have e1 : x.cps.toList.drop i = [] := List.drop_eq_nil_of_le (by rw [Array.length_toList]; show x.length ≤ i; omega)
      have e2 : x.cps.toList.drop (i + 1) = [] := List.drop_eq_nil_of_le (by rw [Array.length_toList]; show x.length ≤ i + 1; omega)
      rw [show idxFrom c i (x.cps.toList.drop i) = idxFrom c (i + 1) (x.cps.toList.drop (i + 1)) by rw [e1, e2]; rfl]
      exact ih (i + 1) acc free (by omega) (by omega) (by omega)
theorem occ_one (x : Str) (c : Nat) : occurrences x ⟨#[c]⟩ 0 x.length (x.length + 1) = idxFrom c 0 x.cps.toList := by
  rw [occ_eq]
  have := occ_key x c (x.length + 1) 0 #[] 0 (by omega) (Nat.le_refl _) (Nat.le_refl _)
  simpa using this
theorem idx_len (c : Nat) : ∀ (l : List Nat) (i : Nat), (idxFrom c i l).length = l.count c
  | [], _ => rfl
  | x :: l, i => by
    unfold idxFrom
    by_cases h : x = c
    · rw [if_pos h, List.length_cons, idx_len c l, h]; simp
    · rw [if_neg h, idx_len c l, List.count_cons_of_ne h]
theorem cat_foldl (sep : Str) (hs : sep.cps = #[]) : ∀ (l : List Str) (z : Array Nat), (l.foldl (fun acc p => acc ++ sep.cps ++ p.cps) z).toList = z.toList ++ (l.map (·.cps.toList)).flatten
  | [], z => by simp
  | x :: l, z => by rw [List.foldl_cons, cat_foldl sep hs l, hs]; simp
theorem glued_list (parts : List Str) : (glued ⟨#[]⟩ parts).cps.toList = (parts.map (·.cps.toList)).flatten := by
  unfold glued
  cases parts with
  | nil => rfl
  | cons x l => rw [cat_foldl _ rfl]; simp
theorem parts_cat (x : Str) (c : Nat) : ∀ (l : List Nat) (a i : Nat), a ≤ i → x.cps.toList.drop i = l → (∀ y ∈ (x.cps.toList.drop a).take (i - a), y ≠ c) → ((partsFrom x 1 a (idxFrom c i l)).map (·.cps.toList)).flatten = (x.cps.toList.drop a).filter (fun y => decide (y ≠ c))
  | [], a, i, ha, hd, hn => by
    have hle : x.cps.toList.length ≤ i := List.drop_eq_nil_iff.mp hd
    have e1 : (x.cps.toList.drop a).take (i - a) = x.cps.toList.drop a := List.take_of_length_le (by rw [List.length_drop]; omega)
    rw [e1] at hn
    show (([strSub x a x.length]).map (·.cps.toList)).flatten = _
    simp only [List.map_cons, List.map_nil, List.flatten_cons, List.flatten_nil, List.append_nil, strSub_toList]
    rw [List.take_of_length_le (by rw [List.length_drop, Array.length_toList]; exact Nat.le_refl _)]
    exact (List.filter_eq_self.mpr fun y hy => decide_eq_true (hn y hy)).symm
  | y :: l, a, i, ha, hd, hn => by
    have hd1 : x.cps.toList.drop (i + 1) = l := by
      have := congrArg List.tail hd
      rwa [List.tail_drop] at this
    have hsplit : x.cps.toList.drop a = (x.cps.toList.drop a).take (i - a) ++ y :: l := by
      have := (List.take_append_drop (i - a) (x.cps.toList.drop a)).symm
      rw [List.drop_drop, show a + (i - a) = i by omega, hd] at this
      exact this
    unfold idxFrom
    by_cases hc : y = c
    · rw [if_pos hc]
      show ((strSub x a i :: partsFrom x 1 (i + 1) (idxFrom c (i + 1) l)).map (·.cps.toList)).flatten = _
      rw [List.map_cons, List.flatten_cons, strSub_toList]
      rw [parts_cat x c l (i + 1) (i + 1) (Nat.le_refl _) hd1 (by simp)]
      rw [hd1]
      conv => rhs; rw [hsplit]
      rw [List.filter_append, List.filter_eq_self.mpr fun z hz => decide_eq_true (hn z hz), List.filter_cons]
      simp [hc]
    · rw [if_neg hc]
      refine parts_cat x c l a (i + 1) (by omega) hd1 (fun z hz => ?_)
      rw [hsplit, show i + 1 - a = (i - a) + 1 by omega] at hz
      rw [List.take_append] at hz
      rcases List.mem_append.mp hz with h | h
      · exact hn z (List.mem_of_mem_take h)
      · have hl : ((x.cps.toList.drop a).take (i - a)).length = i - a := by
          have hlt : i < x.cps.toList.length := by
            rcases Nat.lt_or_ge i x.cps.toList.length with h | h
            · exact h
            · rw [List.drop_eq_nil_of_le h] at hd; cases hd
          rw [List.length_take, List.length_drop]; omega
        rw [hl, show i - a + 1 - (i - a) = 1 by omega] at h
        simp at h
        rw [h]; exact hc
theorem replace_list (x : Str) (c : Nat) : (glued ⟨#[]⟩ (partsBetween x (occurrences x ⟨#[c]⟩ 0 x.length (x.length + 1)) 1)).cps.toList = x.cps.toList.filter (fun y => decide (y ≠ c)) := by
  rw [glued_list, partsBetween_eq, occ_one]
  have := parts_cat x c x.cps.toList 0 0 (Nat.le_refl _) rfl (by simp)
  simpa using this
end Mine
end Wd

section Wd2
open PySem PySem.Calls PySem.W PySem.W.X PyProof.Rows
set_option Elab.async false
set_option maxRecDepth 100000
namespace Mine
/-- a line behind its first letter: true a mark, false a white sign and a letter -/
noncomputable def enc (ℓ wh m : Nat) : List Bool → List Nat
  | [] => []
  | true :: bs => m :: enc ℓ wh m bs
  | false :: bs => wh :: ℓ :: enc ℓ wh m bs
/-- the last mark, if one is open -/
noncomputable def lastOf (m : Nat) : Bool → List Bool → List Nat
  | q, [] => if q = true then [m] else []
  | q, true :: bs => lastOf m (!q) bs
  | q, false :: bs => lastOf m q bs
noncomputable def wordsOf (ℓ wh : Nat) : Bool → List Nat → List Bool → List (List Nat)
  | _, tok, [] => [tok]
  | q, tok, true :: bs => wordsOf ℓ wh (!q) tok bs
  | false, tok, false :: bs => tok :: wordsOf ℓ wh false [ℓ] bs
  | true, tok, false :: bs => wordsOf ℓ wh true (tok ++ [wh, ℓ]) bs
/-- white signs in words -/
noncomputable def inW : Bool → List Bool → Nat
  | _, [] => 0
  | q, true :: bs => inW (!q) bs
  | false, false :: bs => inW false bs
  | true, false :: bs => inW true bs + 1
noncomputable abbrev ofL (l : List Nat) : Str := ⟨l.toArray⟩
section
variable {ℓ wh m : Nat} (hwm : wh ≠ m) (hlm : ℓ ≠ m)
include hwm hlm
theorem good_enc : ∀ (bs : List Bool) (q : Bool), good ℓ wh m q (enc ℓ wh m bs ++ lastOf m q bs)
  | [], q => by
    cases q
    · simp [enc, lastOf, good]
    · simp [enc, lastOf, good]
  | true :: bs, q => by
    have := good_enc bs (!q)
    cases q <;> (simp only [enc, lastOf, List.cons_append]; unfold good; rw [if_pos rfl]; exact this)
  | false :: bs, q => by
    have := good_enc bs q
    cases q
    · simp only [enc, lastOf, List.cons_append]; unfold good; rw [if_neg hwm]; exact ⟨rfl, rfl, this⟩
    · simp only [enc, lastOf, List.cons_append]; unfold good; rw [if_neg hwm]
      refine ⟨.inl rfl, ?_⟩
      unfold good; rw [if_neg hlm]; exact ⟨.inr rfl, this⟩
/-- a word's reading -/
theorem scan_enc : ∀ (bs : List Bool) (q : Bool) (tok : List Nat),
    (∃ e, scan m q (enc ℓ wh m bs ++ lastOf m q bs) (ofL tok) = (ofL e, none) ∧ wordsOf ℓ wh q tok bs = [e]) ∨
    (∃ e bs', bs'.length < bs.length ∧ scan m q (enc ℓ wh m bs ++ lastOf m q bs) (ofL tok) = (ofL e, some (ℓ :: (enc ℓ wh m bs' ++ lastOf m false bs'))) ∧ wordsOf ℓ wh q tok bs = e :: wordsOf ℓ wh false [ℓ] bs')
  | [], q, tok => by
    refine .inl ⟨tok, ?_, by cases q <;> rfl⟩
    cases q
    · simp [enc, lastOf, scan]
    · simp [enc, lastOf, scan]
  | true :: bs, q, tok => by
    have := scan_enc bs (!q) tok
    have e : scan m q (enc ℓ wh m (true :: bs) ++ lastOf m q (true :: bs)) (ofL tok) = scan m (!q) (enc ℓ wh m bs ++ lastOf m (!q) bs) (ofL tok) := by
      cases q <;> (simp only [enc, lastOf, List.cons_append]; rw [scan, if_pos rfl]; rfl)
    have e2 : wordsOf ℓ wh q tok (true :: bs) = wordsOf ℓ wh (!q) tok bs := by cases q <;> rfl
    rw [e, e2]
    rcases this with h | ⟨e, bs', h1, h2, h3⟩
    · exact .inl h
    · exact .inr ⟨e, bs', by simp; omega, h2, h3⟩
  | false :: bs, false, tok => by
    refine .inr ⟨tok, bs, by simp, ?_, rfl⟩
    simp only [enc, lastOf, List.cons_append]
    rw [scan, if_neg hwm]
  | false :: bs, true, tok => by
    have := scan_enc bs true (tok ++ [wh, ℓ])
    have e : scan m true (enc ℓ wh m (false :: bs) ++ lastOf m true (false :: bs)) (ofL tok) = scan m true (enc ℓ wh m bs ++ lastOf m true bs) (ofL (tok ++ [wh, ℓ])) := by
      simp only [enc, lastOf, List.cons_append]
      rw [scan, if_neg hwm, scan, if_neg hlm]
      congr 1
      show (⟨(tok.toArray ++ #[wh]) ++ #[ℓ]⟩ : Str) = _
      simp [ofL]
    rw [e]
    rcases this with h | ⟨e, bs', h1, h2, h3⟩
    · exact .inl h
    · exact .inr ⟨e, bs', by simp; omega, h2, h3⟩
theorem words_enc (n : Nat) : ∀ (bs : List Bool), bs.length < n → Words m (ℓ :: (enc ℓ wh m bs ++ lastOf m false bs)) ((wordsOf ℓ wh false [ℓ] bs).map ofL) := by
  induction n with
  | zero => intro bs h; omega
  | succ n ih =>
    intro bs hn
    rcases scan_enc hwm hlm bs false [ℓ] with ⟨e, h1, h2⟩ | ⟨e, bs', h0, h1, h2⟩
    · rw [h2]
      exact Words.last h1
    · rw [h2]
      exact Words.more h1 (ih bs' (by omega))
end
theorem inW_words (ℓ wh : Nat) (hne : ℓ ≠ wh) : ∀ (bs : List Bool) (q : Bool) (tok : List Nat), (wordsOf ℓ wh q tok bs).flatten.count wh = tok.count wh + inW q bs
  | [], q, tok => by cases q <;> simp [wordsOf, inW]
  | true :: bs, q, tok => by
    have e2 : wordsOf ℓ wh q tok (true :: bs) = wordsOf ℓ wh (!q) tok bs := by cases q <;> rfl
    have e3 : inW q (true :: bs) = inW (!q) bs := by cases q <;> rfl
    rw [e2, e3]; exact inW_words ℓ wh hne bs (!q) tok
  | false :: bs, false, tok => by
    show (tok :: wordsOf ℓ wh false [ℓ] bs).flatten.count wh = tok.count wh + inW false bs
    rw [List.flatten_cons, List.count_append, inW_words ℓ wh hne bs false [ℓ]]
    simp [hne]
  | false :: bs, true, tok => by
    show (wordsOf ℓ wh true (tok ++ [wh, ℓ]) bs).flatten.count wh = tok.count wh + (inW true bs + 1)
    rw [inW_words ℓ wh hne bs true (tok ++ [wh, ℓ]), List.count_append]
    simp [hne]; omega
theorem rest_words (ℓ wh : Nat) (hne : ℓ ≠ wh) : ∀ (bs : List Bool) (q : Bool) (tok : List Nat), (wordsOf ℓ wh q tok bs).flatten.filter (fun y => decide (y ≠ wh)) = tok.filter (fun y => decide (y ≠ wh)) ++ List.replicate (bs.count false) ℓ
  | [], q, tok => by cases q <;> simp [wordsOf]
  | true :: bs, q, tok => by
    have e2 : wordsOf ℓ wh q tok (true :: bs) = wordsOf ℓ wh (!q) tok bs := by cases q <;> rfl
    rw [e2, rest_words ℓ wh hne bs (!q) tok]; simp
  | false :: bs, false, tok => by
    show (tok :: wordsOf ℓ wh false [ℓ] bs).flatten.filter _ = _
    rw [List.flatten_cons, List.filter_append, rest_words ℓ wh hne bs false [ℓ]]
    simp [hne, List.replicate_succ]
  | false :: bs, true, tok => by
    show (wordsOf ℓ wh true (tok ++ [wh, ℓ]) bs).flatten.filter _ = _
    rw [rest_words ℓ wh hne bs true (tok ++ [wh, ℓ]), List.filter_append]
    simp [hne, List.replicate_succ]
theorem len_words (ℓ wh : Nat) : ∀ (bs : List Bool) (q : Bool) (tok : List Nat), (wordsOf ℓ wh q tok bs).length + inW q bs = bs.count false + 1
  | [], q, tok => by cases q <;> rfl
  | true :: bs, q, tok => by
    have e2 : wordsOf ℓ wh q tok (true :: bs) = wordsOf ℓ wh (!q) tok bs := by cases q <;> rfl
    have e3 : inW q (true :: bs) = inW (!q) bs := by cases q <;> rfl
    rw [e2, e3, len_words ℓ wh bs (!q) tok]; simp
  | false :: bs, false, tok => by
    show (tok :: wordsOf ℓ wh false [ℓ] bs).length + inW false bs = _
    have := len_words ℓ wh bs false [ℓ]
    simp; omega
  | false :: bs, true, tok => by
    show (wordsOf ℓ wh true (tok ++ [wh, ℓ]) bs).length + (inW true bs + 1) = _
    have := len_words ℓ wh bs true (tok ++ [wh, ℓ])
    simp; omega
/-- the line's signs -/
theorem lineOf_enc (a : LnA) (mk : List Int) {ℓ wh m : Nat} (h1 : a.letter = ⟨#[ℓ]⟩) (h2 : a.white = ⟨#[wh]⟩) (h3 : a.mark = ⟨#[m]⟩) : ∀ (sn : List Int) (line : Str), (lineOf a mk line sn).cps.toList = line.cps.toList ++ enc ℓ wh m (sn.map fun v => mk.contains v)
  | [], line => by simp [lineOf, enc]
  | v :: sn, line => by
    show (lineOf a mk (line ++ piece a mk v) sn).cps.toList = _
    rw [lineOf_enc a mk h1 h2 h3 sn]
    have happ : ∀ x y : Str, (x ++ y).cps.toList = x.cps.toList ++ y.cps.toList := fun x y => by show (x.cps ++ y.cps).toList = _; simp
    rw [happ]
    unfold piece
    cases hb : mk.contains v with
    | true => rw [if_pos rfl, h3]; simp only [List.map_cons, hb]; simp [enc]
    | false => rw [if_neg (by decide), happ, h1, h2]; simp only [List.map_cons, hb]; simp [enc]
end Mine
end Wd2

section Nt
open PySem PySem.Calls PySem.W PySem.W.X PyProof.Rows
set_option Elab.async false
set_option maxRecDepth 100000
namespace Mine
/-- two ordered lists in one -/
noncomputable def mg : Nat → List Int → List Int → List Int
  | 0, W, M => W ++ M
  | _ + 1, [], M => M
  | _ + 1, W, [] => W
  | n + 1, a :: W, b :: M => if a ≤ b then a :: mg n W (b :: M) else b :: mg n (a :: W) M
/-- whence each comes: true from the second -/
noncomputable def fl : Nat → List Int → List Int → List Bool
  | 0, W, M => W.map (fun _ => false) ++ M.map (fun _ => true)
  | _ + 1, [], M => M.map fun _ => true
  | _ + 1, W, [] => W.map fun _ => false
  | n + 1, a :: W, b :: M => if a ≤ b then false :: fl n W (b :: M) else true :: fl n (a :: W) M
theorem mg_perm : ∀ (n : Nat) (W M : List Int), (mg n W M).Perm (W ++ M)
  | 0, W, M => .refl _
  | n + 1, [], M => by unfold mg; exact .refl _
  | n + 1, a :: W, [] => by unfold mg; simp
  | n + 1, a :: W, b :: M => by
    unfold mg
    split
    · exact (mg_perm n W (b :: M)).cons a
    · refine ((mg_perm n (a :: W) M).cons b).trans ?_
      exact (List.perm_middle (l₁ := a :: W)).symm
theorem mg_sorted : ∀ (n : Nat) (W M : List Int), W.length + M.length ≤ n → W.Pairwise (· ≤ ·) → M.Pairwise (· ≤ ·) → (mg n W M).Pairwise (· ≤ ·)
  | 0, W, M, h, _, _ => by
    have h1 : W = [] := List.eq_nil_of_length_eq_zero (by omega)
    have h2 : M = [] := List.eq_nil_of_length_eq_zero (by omega)
    subst h1 h2; exact .nil
  | n + 1, [], M, _, _, hM => by unfold mg; exact hM
  | n + 1, a :: W, [], _, hW, _ => by unfold mg; exact hW
  | n + 1, a :: W, b :: M, h, hW, hM => by
    unfold mg
    simp only [List.length_cons] at h
    obtain ⟨hW1, hW2⟩ := List.pairwise_cons.mp hW
    obtain ⟨hM1, hM2⟩ := List.pairwise_cons.mp hM
    split
    · rename_i hab
      refine List.pairwise_cons.mpr ⟨fun x hx => ?_, mg_sorted n W (b :: M) (by simp only [List.length_cons]; omega) hW2 hM⟩
      rcases List.mem_append.mp ((mg_perm n W (b :: M)).mem_iff.mp hx) with hx | hx
      · exact hW1 x hx
      · rcases List.mem_cons.mp hx with rfl | hx
        · exact hab
        · exact Int.le_trans hab (hM1 x hx)
    · rename_i hab
      have hba : b ≤ a := by omega
      refine List.pairwise_cons.mpr ⟨fun x hx => ?_, mg_sorted n (a :: W) M (by simp only [List.length_cons]; omega) hW hM2⟩
      rcases List.mem_append.mp ((mg_perm n (a :: W) M).mem_iff.mp hx) with hx | hx
      · rcases List.mem_cons.mp hx with rfl | hx
        · exact hba
        · exact Int.le_trans hba (hW1 x hx)
      · exact hM1 x hx
theorem mg_flags (K : List Int) : ∀ (n : Nat) (W M : List Int), (∀ x ∈ W, K.contains x = false) → (∀ x ∈ M, K.contains x = true) → (mg n W M).map (fun v => K.contains v) = fl n W M
  | 0, W, M, hW, hM => by
    unfold mg fl
    rw [List.map_append]
    exact congr (congrArg _ (List.map_congr_left hW)) (List.map_congr_left hM)
  | n + 1, [], M, hW, hM => by unfold mg fl; exact List.map_congr_left hM
  | n + 1, a :: W, [], hW, hM => by unfold mg fl; exact List.map_congr_left hW
  | n + 1, a :: W, b :: M, hW, hM => by
    unfold mg fl
    split
    · rw [List.map_cons, hW a (.head _), mg_flags K n W (b :: M) (fun x hx => hW x (.tail _ hx)) hM]
    · rw [List.map_cons, hM b (.head _), mg_flags K n (a :: W) M hW (fun x hx => hM x (.tail _ hx))]
theorem count_const (W : List Int) (b c : Bool) : (W.map (fun _ => b)).count c = if b = c then W.length else 0 := by
  rw [List.map_const', List.count_replicate]
  cases b <;> cases c <;> rfl
theorem fl_true : ∀ (n : Nat) (W M : List Int), (fl n W M).count true = M.length
  | 0, W, M => by unfold fl; rw [List.count_append, count_const, count_const]; simp
  | n + 1, [], M => by unfold fl; rw [count_const]; simp
  | n + 1, a :: W, [] => by unfold fl; rw [count_const]; simp
  | n + 1, a :: W, b :: M => by
    unfold fl
    split
    · rw [List.count_cons_of_ne (by decide), fl_true n W (b :: M)]
    · rw [List.count_cons_self, fl_true n (a :: W) M]; rfl
theorem fl_false : ∀ (n : Nat) (W M : List Int), (fl n W M).count false = W.length
  | 0, W, M => by unfold fl; rw [List.count_append, count_const, count_const]; simp
  | n + 1, [], M => by unfold fl; rw [count_const]; simp
  | n + 1, a :: W, [] => by unfold fl; rw [count_const]; simp
  | n + 1, a :: W, b :: M => by
    unfold fl
    split
    · rw [List.count_cons_self, fl_false n W (b :: M)]; rfl
    · rw [List.count_cons_of_ne (by decide), fl_false n (a :: W) M]
theorem last_even (m : Nat) : ∀ (bs : List Bool) (q : Bool), lastOf m q bs = if ((bs.count true + if q = true then 1 else 0) % 2 = 1) then [m] else []
  | [], q => by cases q <;> simp [lastOf]
  | true :: bs, q => by
    show lastOf m (!q) bs = _
    rw [last_even m bs (!q), List.count_cons_self]
    cases q
    · simp
    · simp only [Bool.not_true, Bool.false_eq_true, if_false, if_true, Nat.add_zero]
      have : (List.count true bs + 1 + 1) % 2 = List.count true bs % 2 := by omega
      rw [this]
  | false :: bs, q => by
    show lastOf m q bs = _
    rw [last_even m bs q, List.count_cons_of_ne (by decide)]
theorem mults_sorted (q : Int) (hq : 0 ≤ q) (n : Nat) : (mults q n).Pairwise (· ≤ ·) := by
  unfold mults
  refine List.Pairwise.map _ (fun a b h => ?_) (List.pairwise_lt_range (n := n))
  exact Int.mul_le_mul_of_nonneg_right (by have : a < b := h; omega) hq
theorem mults_mem {q : Int} {n : Nat} {x : Int} (h : x ∈ mults q n) : ∃ i : Nat, i < n ∧ x = ((i : Int) + 1) * q := by
  unfold mults at h
  obtain ⟨i, hi, rfl⟩ := List.mem_map.mp h
  exact ⟨i, List.mem_range.mp hi, rfl⟩
theorem mults_apart {p q : Int} (hp : 0 < p) (hg : Int.gcd p q = 1) {m m2 : Nat} (hm : (m : Int) < p) : ∀ x ∈ mults q m, (mults p m2).contains x = false := by
  intro x hx
  obtain ⟨i, hi, rfl⟩ := mults_mem hx
  cases hc : (mults p m2).contains (((i : Int) + 1) * q) with
  | false => rfl
  | true =>
    exfalso
    obtain ⟨j, _, hj⟩ := mults_mem (List.contains_iff_mem.mp hc)
    have hd : p.natAbs ∣ (i + 1) * q.natAbs := by
      refine ⟨j + 1, ?_⟩
      have := congrArg Int.natAbs hj
      rw [Int.natAbs_mul, Int.natAbs_mul] at this
      rw [show ((i : Int) + 1).natAbs = i + 1 by omega, show ((j : Int) + 1).natAbs = j + 1 by omega] at this
      rw [this, Nat.mul_comm]
    have hd2 : p.natAbs ∣ i + 1 := Nat.Coprime.dvd_of_dvd_mul_right hg hd
    have := Nat.le_of_dvd (Nat.succ_pos i) hd2
    omega
/-- p's next number that shares no divisor -/
noncomputable def apartQ (p : Int) : Nat → Int → Option Int
  | 0, _ => none
  | n + 1, q => if Int.gcd p q = 1 then some q else apartQ p n (q + 2)
theorem apartQ_gcd {p : Int} : ∀ {n : Nat} {q r : Int}, apartQ p n q = some r → Int.gcd p r = 1
  | 0, _, _, h => by cases h
  | n + 1, q, r, h => by
    unfold apartQ at h
    by_cases hg : Int.gcd p q = 1
    · rw [if_pos hg] at h; cases h; exact hg
    · rw [if_neg hg] at h; exact apartQ_gcd h
noncomputable def half (p : Int) : Nat := (p / 2).toNat
noncomputable def marksN (p q : Int) : Nat := ((half p : Int) * q / p).toNat
noncomputable def flags (p q : Int) : List Bool := fl (half p + marksN p q) (mults q (half p)) (mults p (marksN p q))
/-- the white signs in words -/
noncomputable def heldN (p q : Int) : Nat := inW false (flags p q)
noncomputable def lineOk (p q : Int) : Bool := decide (0 < half p) && decide (half p < 64) && decide (0 < marksN p q) && decide (half p + marksN p q < 64) && decide (3 ≤ p) && decide (p ≤ 63)
noncomputable def chk (i j : Nat) : Bool := match apartQ (3 + 2 * i) 10 (3 + 2 * j) with
  | none => false
  | some q => lineOk (3 + 2 * i) q && lineOk q (3 + 2 * i) && match symGo q 64 (3 + 2 * i) 3 1 with
    | none => false
    | some r => ((heldN (3 + 2 * i) q % 2 == 0) == (r == 1)) && ((heldN (3 + 2 * i) q + heldN q (3 + 2 * i)) % 2 == (half (3 + 2 * i) * half q) % 2)
set_option maxHeartbeats 0
theorem chk_row0 : ((List.range 30).all fun j => chk 0 j) = true := by decide +kernel
theorem chk_row1 : ((List.range 30).all fun j => chk 1 j) = true := by decide +kernel
theorem chk_row2 : ((List.range 30).all fun j => chk 2 j) = true := by decide +kernel
theorem chk_row3 : ((List.range 30).all fun j => chk 3 j) = true := by decide +kernel
theorem chk_row4 : ((List.range 30).all fun j => chk 4 j) = true := by decide +kernel
theorem chk_row5 : ((List.range 30).all fun j => chk 5 j) = true := by decide +kernel
theorem chk_row6 : ((List.range 30).all fun j => chk 6 j) = true := by decide +kernel
theorem chk_row7 : ((List.range 30).all fun j => chk 7 j) = true := by decide +kernel
theorem chk_row8 : ((List.range 30).all fun j => chk 8 j) = true := by decide +kernel
theorem chk_row9 : ((List.range 30).all fun j => chk 9 j) = true := by decide +kernel
theorem chk_row10 : ((List.range 30).all fun j => chk 10 j) = true := by decide +kernel
theorem chk_row11 : ((List.range 30).all fun j => chk 11 j) = true := by decide +kernel
theorem chk_row12 : ((List.range 30).all fun j => chk 12 j) = true := by decide +kernel
theorem chk_row13 : ((List.range 30).all fun j => chk 13 j) = true := by decide +kernel
theorem chk_row14 : ((List.range 30).all fun j => chk 14 j) = true := by decide +kernel
theorem chk_row15 : ((List.range 30).all fun j => chk 15 j) = true := by decide +kernel
theorem chk_row16 : ((List.range 30).all fun j => chk 16 j) = true := by decide +kernel
theorem chk_row17 : ((List.range 30).all fun j => chk 17 j) = true := by decide +kernel
theorem chk_row18 : ((List.range 30).all fun j => chk 18 j) = true := by decide +kernel
theorem chk_row19 : ((List.range 30).all fun j => chk 19 j) = true := by decide +kernel
theorem chk_row20 : ((List.range 30).all fun j => chk 20 j) = true := by decide +kernel
theorem chk_row21 : ((List.range 30).all fun j => chk 21 j) = true := by decide +kernel
theorem chk_row22 : ((List.range 30).all fun j => chk 22 j) = true := by decide +kernel
theorem chk_row23 : ((List.range 30).all fun j => chk 23 j) = true := by decide +kernel
theorem chk_row24 : ((List.range 30).all fun j => chk 24 j) = true := by decide +kernel
theorem chk_row25 : ((List.range 30).all fun j => chk 25 j) = true := by decide +kernel
theorem chk_row26 : ((List.range 30).all fun j => chk 26 j) = true := by decide +kernel
theorem chk_row27 : ((List.range 30).all fun j => chk 27 j) = true := by decide +kernel
theorem chk_row28 : ((List.range 30).all fun j => chk 28 j) = true := by decide +kernel
theorem chk_row29 : ((List.range 30).all fun j => chk 29 j) = true := by decide +kernel
theorem chk_row : ∀ {i : Nat}, i < 30 → ((List.range 30).all fun j => chk i j) = true
  | 0, _ => chk_row0
  | 1, _ => chk_row1
  | 2, _ => chk_row2
  | 3, _ => chk_row3
  | 4, _ => chk_row4
  | 5, _ => chk_row5
  | 6, _ => chk_row6
  | 7, _ => chk_row7
  | 8, _ => chk_row8
  | 9, _ => chk_row9
  | 10, _ => chk_row10
  | 11, _ => chk_row11
  | 12, _ => chk_row12
  | 13, _ => chk_row13
  | 14, _ => chk_row14
  | 15, _ => chk_row15
  | 16, _ => chk_row16
  | 17, _ => chk_row17
  | 18, _ => chk_row18
  | 19, _ => chk_row19
  | 20, _ => chk_row20
  | 21, _ => chk_row21
  | 22, _ => chk_row22
  | 23, _ => chk_row23
  | 24, _ => chk_row24
  | 25, _ => chk_row25
  | 26, _ => chk_row26
  | 27, _ => chk_row27
  | 28, _ => chk_row28
  | 29, _ => chk_row29
  | _ + 30, h => absurd h (by omega)
theorem chk_at {i j : Nat} (hi : i < 30) (hj : j < 30) : chk i j = true :=
  List.all_eq_true.mp (chk_row hi) j (List.mem_range.mpr hj)
end Mine
end Nt

section Bi2
open PySem PySem.Calls PySem.W PySem.W.X PyProof.Rows
set_option Elab.async false
set_option maxRecDepth 100000
namespace Mine
open PySem.Builtin PySem.Builtin.Str PySem.StrLaws
section
variable {prog : Program} {w : World} {A : Around} {s : Shared} {R : Result → Shared → Prop}
theorem slice_code {l sl c : Nat} {items : Array Value} {vl vu : Value} {lo hi : Option Int} (ho : s.heap.get? l = some (listObj items c)) (hos : s.heap.get? sl = some (slcObj vl vu)) (pl : IsPart vl lo) (pu : IsPart vu hi)
    (h : R (.ok (.ret (.ref s.heap.objs.size))) { s with heap := s.heap.push (listObj (slicePick items lo hi none) 0) }) (hsz : items.size ≤ sizeLine) :
    codeAny (model prog w) A (getL (.ref l) (.ref sl)) R s := by
  have hTs : s.TypeIs (.ref sl) "slice" := ⟨_, hos, rfl⟩
  have hds : (slcObj vl vu).data = .fields #[vl, vu, .none] := rfl
  refine codeAny_call_builtin slot_list_getitem.plain entry_list_getitem (slot_list_getitem.check _ _ _ _ _ _ _ _ ⟨_, ho, rfl⟩ (args_list_getitem _ _) ?_)
  show wpAny _ _ (Builtin.List.listSubscript? (.ref sl) >>= _) _ _ s
  refine wpAny_bind ?_
  unfold Builtin.List.listSubscript?
  refine wpAny_bind (wpAny_specialOf hTs slice_no_index ?_)
  simp only [Option.isNone_none, if_true]
  refine wpAny_pure ?_
  show wpAny _ _ (typeOf (.ref sl) >>= _) _ _ s
  refine wpAny_bind (wpAny_typeOf hTs ?_)
  rw [if_neg (by decide)]
  rw [listSliceParts_eq]
  refine wpAny_bind (wpAny_bind (wpAny_field hos hds (x := .none) rfl (wpAny_bind (wpAny_listPart .none ?_))))
  rw [if_neg (show ¬ ((rawPart none == rawInt 0) = true) from Bool.false_ne_true)]
  refine wpAny_bind (wpAny_field hos hds (x := vl) rfl (wpAny_bind (wpAny_listPart pl ?_)))
  refine wpAny_bind (wpAny_field hos hds (x := vu) rfl (wpAny_bind (wpAny_listPart pu (wpAny_pure ?_))))
  refine wpAny_bind (m := Builtin.List.listItems (.ref l)) ?_
  unfold Builtin.List.listItems
  refine wpAny_bind (wpAny_seqItems ho rfl (wpAny_pure ?_))
  refine wpAny_bind (wpAny_of_eq (sliceIndices_raw lo hi none items.size (by simp)) ?_)
  exact wpAny_bind (wpAny_newObj_type (wpAny_pure h) (Nat.le_trans (slicePick_size_le items lo hi none) hsz))
theorem gets_code {x : Str} {i : Int} {t u c : Nat} (h0 : 0 ≤ i) (h1 : i < 1000) (hc : x.cps[i.toNat]? = some c) (z : R (.ok (.ret (.str ⟨#[c]⟩ s.toks))) { s with toks := s.toks + 1 }) :
    codeAny (model prog w) A (getS (.str x t) (.int i u)) R s := by
  refine codeAny_call_builtin F.slot_str_getitem.plain F.entry_str_getitem (F.slot_str_getitem.check _ _ _ _ _ _ _ _ (typeIs_str s x t) (F.args_str_getitem_2 _ _) ?_)
  exact gives_str_getitem x i t u c (by simp; omega) (at_nonneg h0 hc) prog w A R s ⟨by show 1 ≤ sizeLine; decide, z⟩
theorem count_code {x : Str} {c t u : Nat} (z : R (.ok (.ret (.int ((x.cps.toList.count c : Nat) : Int) s.toks))) { s with toks := s.toks + 1 }) :
    codeAny (model prog w) A (.call (.builtin "str.count") ⟨[.str x t, .str ⟨#[c]⟩ u], []⟩) R s := by
  refine codeAny_call_builtin F.slot_str_count.plain F.entry_str_count (F.slot_str_count.check _ _ _ _ _ _ _ _ (typeIs_str s x t) (F.args_str_count_2 _ _) ?_)
  refine gives_str_count x ⟨#[c]⟩ t u prog w A R s ?_
  rw [occ_one, idx_len]
  exact z
theorem replace_code {x : Str} {c t u v : Nat} (hu : u ≠ 0) (hv : v ≠ 0) (huv : u ≠ v) (hx : x.length < 10000) {r : Str} (hr : r.cps.toList = x.cps.toList.filter (fun y => decide (y ≠ c))) (z : ∀ tk t', R (.ok (.ret (.str r tk))) { s with toks := t' }) :
    codeAny (model prog w) A (.call (.builtin "str.replace") ⟨[.str x t, .str ⟨#[c]⟩ u, .str ⟨#[]⟩ v], []⟩) R s := by
  refine codeAny_call_builtin F.slot_str_replace.plain F.entry_str_replace (F.slot_str_replace.check _ _ _ _ _ _ _ _ (typeIs_str s x t) (F.args_str_replace_3 _ _ _) ?_)
  have hz : sizeLine ≥ 10000 := by decide
  have hlen : (occurrences x ⟨#[c]⟩ 0 x.length (x.length + 1)).length * (⟨#[]⟩ : Str).length = 0 := by show _ * 0 = 0; omega
  refine gives_str_replace x ⟨#[c]⟩ ⟨#[]⟩ t u v (fun _ => ⟨by simp [hu, hv], by simp [huv], rfl, ?_⟩) prog w A R s ?_
  · rw [hlen]; unfold tooLong; simp; omega
  have heq : r = glued ⟨#[]⟩ (partsBetween x (occurrences x ⟨#[c]⟩ 0 x.length (x.length + 1)) 1) := by
    have h2 := replace_list x c
    rw [← hr] at h2
    obtain ⟨⟨rl⟩⟩ := r
    generalize glued ⟨#[]⟩ (partsBetween x (occurrences x ⟨#[c]⟩ 0 x.length (x.length + 1)) 1) = g at h2
    obtain ⟨⟨gl⟩⟩ := g
    exact congrArg (fun l => (⟨⟨l⟩⟩ : Str)) h2.symm
  by_cases hc : ((occurrences x ⟨#[c]⟩ 0 x.length (x.length + 1)).isEmpty || ((⟨#[c]⟩ : Str).length == 0 && (⟨#[]⟩ : Str).length == 0)) = true
  · rw [if_pos hc]
    have hno : c ∉ x.cps.toList := by
      have h1 : (occurrences x ⟨#[c]⟩ 0 x.length (x.length + 1)).isEmpty = true := by
        rcases Bool.or_eq_true_iff.mp hc with h | h
        · exact h
        · exact absurd h (by show ¬ ((false && true) = true); decide)
      have h2 : (occurrences x ⟨#[c]⟩ 0 x.length (x.length + 1)).length = 0 := by rw [List.isEmpty_iff.mp h1]; rfl
      rw [occ_one, idx_len] at h2
      exact List.count_eq_zero.mp h2
    have hxr : r = x := by
      have : r.cps.toList = x.cps.toList := by
        rw [hr]
        exact List.filter_eq_self.mpr fun y hy => decide_eq_true fun e => hno (e ▸ hy)
      obtain ⟨⟨rl⟩⟩ := r
      obtain ⟨⟨xl⟩⟩ := x
      exact congrArg (fun l => (⟨⟨l⟩⟩ : Str)) this
    rw [hxr] at z
    exact z t s.toks
  · rw [if_neg hc]
    refine ⟨?_, ?_⟩
    · show (glued ⟨#[]⟩ (partsBetween x (occurrences x ⟨#[c]⟩ 0 x.length (x.length + 1)) 1)).length ≤ sizeLine
      rw [← heq]
      have : r.length ≤ x.length := by
        show r.cps.size ≤ x.cps.size
        rw [← Array.length_toList, ← Array.length_toList, hr]
        exact List.length_filter_le _ _
      omega
    · show R (.ok (.ret (.str (glued ⟨#[]⟩ (partsBetween x (occurrences x ⟨#[c]⟩ 0 x.length (x.length + 1)) 1)) s.toks))) _
      rw [← heq]
      exact z s.toks (s.toks + 1)
theorem mul_code {c : Nat} {n : Int} {t u : Nat} (h0 : 1 < n) (h1 : n < 1000) (z : ∀ tk t', R (.ok (.ret (.str (ofL (List.replicate n.toNat c)) tk))) { s with toks := t' }) :
    codeAny (model prog w) A (.call (.builtin "str.__mul__") ⟨[.str ⟨#[c]⟩ t, .int n u], []⟩) R s := by
  refine codeAny_call_builtin PySem.F.slot_str_mul.plain PySem.F.entry_str_mul (PySem.F.slot_str_mul.check _ _ _ _ _ _ _ _ (typeIs_str s _ t) (PySem.F.args_str_mul_2 _ _) ?_)
  have hl1 : (⟨#[c]⟩ : Str).length = 1 := rfl
  have hz : sizeLine ≥ 10000 := by decide
  have hn1 : ¬ n < 1 := by omega
  have hne : ¬ ((n == 1 || (⟨#[c]⟩ : Str).length == 0) = true) := by rw [hl1]; simp; omega
  refine gives_str_mul ⟨#[c]⟩ n t u (by simp; omega) (fun _ _ => ?_) (fun _ _ => ?_) prog w A R s ?_
  · rw [hl1]
    have : (1 : Int) ≤ (2 ^ 63 - 1) / n := (Int.le_ediv_iff_mul_le (by omega)).mpr (by omega)
    omega
  · rw [hl1]; unfold tooLong; simp; omega
  · rw [if_neg hn1, if_neg hne]
    have e : (⟨(List.replicate n.toNat (#[c] : Array Nat)).foldl (· ++ ·) #[]⟩ : Str) = ofL (List.replicate n.toNat c) := by
      have key : ∀ (k : Nat) (z : Array Nat), ((List.replicate k (#[c] : Array Nat)).foldl (· ++ ·) z).toList = z.toList ++ List.replicate k c := by
        intro k
        induction k with
        | zero => intro z; simp
        | succ k ih => intro z; rw [List.replicate_succ, List.foldl_cons, ih]; simp [List.replicate_succ]
      have := key n.toNat #[]
      show (⟨_⟩ : Str) = ⟨_⟩
      congr 1
      apply Array.ext'
      rw [this]; simp
    show (_ ≤ sizeLine ∧ R (.ok (.ret (.str ⟨(List.replicate n.toNat (#[c] : Array Nat)).foldl (· ++ ·) #[]⟩ s.toks))) _)
    rw [e]
    refine ⟨?_, z s.toks (s.toks + 1)⟩
    show (List.replicate n.toNat c).toArray.size ≤ _
    simp; omega
theorem strs_split : ∀ {vs : List Value} {ws : List Str}, StrsAre vs ws → ∃ l : List (Str × Tok), vs = strValues l ∧ ws = l.map (·.1)
  | _, _, .nil => ⟨[], rfl, rfl⟩
  | _, _, .cons x t h => by
    obtain ⟨l, h1, h2⟩ := strs_split h
    exact ⟨(x, t) :: l, by rw [h1]; rfl, by rw [h2]; rfl⟩
theorem foldl_len : ∀ (l : List Str) (z : Nat), l.foldl (fun n x => n + x.length + (⟨#[]⟩ : Str).length) z = z + (l.map (·.length)).sum
  | [], z => by simp
  | x :: l, z => by
    rw [List.foldl_cons, foldl_len l]
    simp only [List.map_cons, List.sum_cons]
    have : (⟨#[]⟩ : Str).length = 0 := rfl
    omega
theorem join_code {a c t : Nat} {vs : Array Value} {ws : List Str} (ho : s.heap.get? a = some (listObj vs c)) (hv : StrsAre vs.toList ws) (hz : (ws.map (·.length)).sum < 10000) {r : Str} (hr : r.cps.toList = (ws.map (·.cps.toList)).flatten) (z : ∀ tk t', R (.ok (.ret (.str r tk))) { s with toks := t' }) :
    codeAny (model prog w) A (.call (.builtin "str.join") ⟨[.str ⟨#[]⟩ t, .ref a], []⟩) R s := by
  obtain ⟨l, h1, h2⟩ := strs_split hv
  have hz2 : sizeLine ≥ 10000 := by decide
  have hv2 : vs = (strValues l).toArray := by rw [← h1]
  refine codeAny_call_builtin F.slot_str_join.plain F.entry_str_join (F.slot_str_join.check _ _ _ _ _ _ _ _ (typeIs_str _ _ _) (F.args_str_join_2 _ _) ?_)
  refine meets_str_join_list ⟨#[]⟩ t a l ?_ prog w A R s ⟨⟨_, ho, rfl, c, by rw [hv2]; rfl⟩, ?_⟩
  · rw [← h2, List.foldl_toArray, foldl_len]
    unfold tooLong; simp; omega
  have hcat : ∀ g : Str, g.cps.toList = (ws.map (·.cps.toList)).flatten → r = g := fun g hg => by
    have : r.cps.toList = g.cps.toList := by rw [hr, hg]
    obtain ⟨⟨rl⟩⟩ := r
    obtain ⟨⟨gl⟩⟩ := g
    exact congrArg (fun l => (⟨⟨l⟩⟩ : Str)) this
  have hlen : ∀ w : List Str, ((w.map (·.cps.toList)).flatten).length = (w.map (·.length)).sum := fun w => by
    rw [List.length_flatten, List.map_map]; rfl
  match l, h2 with
  | [p], h2 =>
    rw [hcat p.1 (by rw [h2]; simp)] at z
    exact z p.2 s.toks
  | [], h2 =>
    have hg := hcat (glued ⟨#[]⟩ (([] : List (Str × Tok)).map (·.1))) (by rw [glued_list, h2])
    rw [hg] at z
    exact ⟨by decide, z s.toks (s.toks + 1)⟩
  | p1 :: p2 :: l, h2 =>
    have hg := hcat (glued ⟨#[]⟩ ((p1 :: p2 :: l).map (·.1))) (by rw [glued_list, h2])
    refine ⟨?_, ?_⟩
    · show (glued ⟨#[]⟩ ((p1 :: p2 :: l).map (·.1))).length ≤ sizeLine
      rw [← hg]
      show r.cps.size ≤ _
      rw [← Array.length_toList, hr, hlen]; omega
    · show R (.ok (.ret (.str (glued ⟨#[]⟩ ((p1 :: p2 :: l).map (·.1))) s.toks))) _
      rw [← hg]; exact z s.toks (s.toks + 1)
end
end Mine
end Bi2

section Lw2
open PySem PySem.Calls PySem.W PySem.W.X PyProof.Rows
set_option Elab.async false
set_option maxRecDepth 100000
namespace Mine
set_option maxHeartbeats 0 in
theorem kind774 (P : Params) : (fdOf (o774 P)).scope.kind = .function := by kernel_rfl
/-- what a line is made of -/
structure LHyp (a : LnA) (ℓ wh m : Nat) : Prop where
  white : a.white = ⟨#[wh]⟩
  letter : a.letter = ⟨#[ℓ]⟩
  mark : a.mark = ⟨#[m]⟩
  sgn : Sgn ℓ wh m
  gcd : Int.gcd a.p a.q = 1
  ok : lineOk a.p a.q = true
  q3 : 3 ≤ a.q ∧ a.q ≤ 63
  tw : 0 < a.tw
noncomputable abbrev wnOf (a : LnA) : List Int := mults a.q (half a.p)
noncomputable abbrev mnOf (a : LnA) : List Int := mults a.p (marksN a.p a.q)
noncomputable abbrev snOf (a : LnA) : List Int := mg (half a.p + marksN a.p a.q) (wnOf a) (mnOf a)
noncomputable abbrev LOf (a : LnA) : Str := lawLine a (mnOf a) (snOf a)
noncomputable abbrev wsOf (a : LnA) (ℓ wh : Nat) : List (List Nat) := wordsOf ℓ wh false [ℓ] (flags a.p a.q)
section
variable {a : LnA} {ℓ wh m : Nat} (H : LHyp a ℓ wh m)
include H
theorem LHyp.nums : 0 < half a.p ∧ half a.p < 64 ∧ 0 < marksN a.p a.q ∧ half a.p + marksN a.p a.q < 64 ∧ 3 ≤ a.p ∧ a.p ≤ 63 := by
  have := H.ok
  unfold lineOk at this
  simp only [Bool.and_eq_true, decide_eq_true_eq] at this
  obtain ⟨⟨⟨⟨⟨h1, h2⟩, h3⟩, h4⟩, h5⟩, h6⟩ := this
  exact ⟨h1, h2, h3, h4, h5, h6⟩
theorem LHyp.fdiv : Int.fdiv a.p 2 = (half a.p : Int) := by
  have := H.nums
  unfold half
  rw [Int.fdiv_eq_ediv_of_nonneg a.p (by decide)]
  omega
theorem LHyp.flags : (snOf a).map (fun v => (mnOf a).contains v) = flags a.p a.q := by
  have h := H.nums
  refine mg_flags (mnOf a) _ _ _ (mults_apart (by omega) H.gcd ?_) (fun x hx => List.contains_iff_mem.mpr hx)
  have := H.fdiv
  rw [Int.fdiv_eq_ediv_of_nonneg a.p (by decide)] at this
  omega
theorem LHyp.line : (LOf a).cps.toList = ℓ :: (enc ℓ wh m (Mine.flags a.p a.q) ++ lastOf m false (Mine.flags a.p a.q)) := by
  have happ : ∀ x y : Str, (x ++ y).cps.toList = x.cps.toList ++ y.cps.toList := fun x y => by show (x.cps ++ y.cps).toList = _; simp
  unfold LOf lawLine
  rw [happ, lineOf_enc a (mnOf a) H.letter H.white H.mark, H.flags, last_even]
  have hc : (Mine.flags a.p a.q).count true = (mnOf a).length := fl_true _ _ _
  rw [hc, H.letter, List.singleton_append.symm.trans rfl]
  have hf : ((mnOf a).length : Int).fmod 2 = (((mnOf a).length % 2 : Nat) : Int) := by
    rw [Int.fmod_eq_emod_of_nonneg _ (by decide)]; omega
  rw [hf]
  by_cases h : (mnOf a).length % 2 = 1
  · rw [if_pos (by rw [h]; rfl), if_pos (by simpa using h), H.mark]; rfl
  · rw [if_neg (by omega), if_neg (by simpa using h)]; simp
theorem LHyp.count : (Mine.flags a.p a.q).count false = half a.p := by
  have : (Mine.flags a.p a.q).count false = (wnOf a).length := fl_false _ _ _
  rw [this, mults_len]
theorem LHyp.len : 1 < (LOf a).length ∧ (LOf a).length < 9000 := by
  have h := H.nums
  have hl := lineOf_len a (mnOf a) (by rw [H.white]; rfl) (by rw [H.letter]; rfl) (by rw [H.mark]; rfl) (snOf a) a.letter
  have hs : (snOf a).length = half a.p + marksN a.p a.q := by rw [(mg_perm _ _ _).length_eq, List.length_append, mults_len, mults_len]
  have hletter : a.letter.length = 1 := by rw [H.letter]; rfl
  have e : (LOf a).length = (LOf a).cps.toList.length := by rw [Array.length_toList]; rfl
  constructor
  · rw [e, H.line]
    cases hf : Mine.flags a.p a.q with
    | nil => have := H.count; rw [hf] at this; simp at this; omega
    | cons b bs => cases b <;> simp [enc]
  · unfold LOf lawLine
    rw [len_app]
    have : (if ((mnOf a).length : Int).fmod 2 = 1 then a.mark else ⟨#[]⟩ : Str).length ≤ 1 := by
      split
      · rw [H.mark]; exact Nat.le_refl _
      · exact Nat.zero_le _
    omega
theorem LHyp.ne : ℓ ≠ wh ∧ wh ≠ m ∧ ℓ ≠ m := by
  obtain ⟨h1, h2, h3⟩ := H.sgn
  omega
theorem LHyp.words : Words m (ℓ :: (enc ℓ wh m (Mine.flags a.p a.q) ++ lastOf m false (Mine.flags a.p a.q))) ((wsOf a ℓ wh).map ofL) :=
  words_enc H.ne.2.1 H.ne.2.2 _ _ (Nat.lt_succ_self _)
theorem LHyp.total : ((wsOf a ℓ wh).flatten).length < 9000 := by
  have hn := H.nums
  have h1 := inW_words ℓ wh H.ne.1 (Mine.flags a.p a.q) false [ℓ]
  have h2 := rest_words ℓ wh H.ne.1 (Mine.flags a.p a.q) false [ℓ]
  have h3 := len_words ℓ wh (Mine.flags a.p a.q) false [ℓ]
  have h4 : ∀ l : List Nat, l.length = l.count wh + (l.filter (fun y => decide (y ≠ wh))).length := fun l => by
    induction l with
    | nil => rfl
    | cons x l ih =>
      by_cases hx : x = wh
      · have e1 : decide (x ≠ wh) = false := decide_eq_false (fun h => h hx)
        rw [List.filter_cons, e1, hx, List.count_cons_self, List.length_cons, ih]
        show _ = _ + (List.filter _ l).length
        omega
      · have e1 : decide (x ≠ wh) = true := decide_eq_true hx
        rw [List.filter_cons, e1, List.count_cons_of_ne hx, List.length_cons, ih]
        show _ = _ + (x :: List.filter _ l).length
        rw [List.length_cons]; omega
  have hc := H.count
  rw [h4, h1, h2]
  simp
  rw [hc] at h3 ⊢
  have : (wordsOf ℓ wh false [ℓ] (Mine.flags a.p a.q)).length ≥ 1 ∨ True := .inr trivial
  have h5 : List.count wh [ℓ] ≤ 1 := List.count_le_length
  have h6 : (List.filter (fun y => !decide (y = wh)) [ℓ]).length ≤ 1 := List.length_filter_le _ _
  omega
end
end Mine
end Lw2

section Lw3
open PySem PySem.Calls PySem.W PySem.W.X PyProof.Rows
set_option Elab.async false
set_option maxRecDepth 100000
namespace Mine
theorem look_base {st : St} {p : Addr × Obj} (h : lookS st 1 = some p) : ∃ rest, st.base = p :: rest := by
  have h : baseAt st.base 0 = some p := h
  cases hb : st.base with
  | nil => rw [hb] at h; cases h
  | cons x l => rw [hb] at h; cases h; exact ⟨l, rfl⟩
theorem strNe_self (x : Str) : strNe x x = false := by unfold strNe; simp
section
variable {w₀ : World} {b1 b2 : Bool} {w : World} (hw : w = wf w₀ b1 b2) {scr : Obj} {h₀ : Heap} (G : Grd w scr h₀) {d : Drawn} {os : OsState} {A : Around} (lo : Lo A 340) {R : Result → Shared → Prop}
    {lf : Addr} (hfr : A.frames = some [envOf (fd774 w.params) 774 lf]) {a : LnA} {ℓ wh m : Nat} (H : LHyp a ℓ wh m)
include hw G lo hfr H
/-- the contracts of a turn -/
theorem lw_ok {frl : List (Str × Nat × Value)} {s : Array (Option Value)} {hd c0 t0 : Nat} {hs : Array Value} (hhs : hs.size < 100) (ht : a.tw < t0) (H1 : Code → Option (Addr × Obj) → Option (List Env) → Prop) (HH : Nat → Code → List (Option (Addr × Obj)) → Nat → Prop)
    (e1 : H1 = fun c o fr => ∃ tk, c = .call (.ref 734) ⟨[.str (LOf a) tk], []⟩ ∧ o = some (lf, lwF w.params frl s) ∧ fr = A.frames)
    (e2 : HH = fun i c l _ => match i with
      | 0 => c = lnCall a
      | 2 => ∃ (tk S c' : Nat) (vs : Array Value), StrsAre vs.toList ((wsOf a ℓ wh).map ofL) ∧ c = .call (.builtin "str.join") ⟨[.str ⟨#[]⟩ tk, .ref S], []⟩ ∧ l = [some (S, listObj vs c')]
      | 3 => ∃ tk v : Nat, t0 ≤ v ∧ c = .call (.builtin "str.replace") ⟨[.str (ofL (wsOf a ℓ wh).flatten) tk, .str a.white a.tw, .str ⟨#[]⟩ v], []⟩
      | 4 => ∃ tk, c = .call (.builtin "str.__mul__") ⟨[.str a.letter a.tl, .int (Int.fdiv a.p 2 + 1) tk], []⟩
      | 5 => ∃ (S c' : Nat) (vs : Array Value), StrsAre vs.toList ((wsOf a ℓ wh).map ofL) ∧ c = .call (.builtin "len") ⟨[.ref S], []⟩ ∧ l = [some (S, listObj vs c')]
      | 6 => ∃ tk, c = .call (.builtin "str.count") ⟨[.str (ofL (wsOf a ℓ wh).flatten) tk, .str a.white a.tw], []⟩
      | 7 => ∃ tk, c = lApp hd (.int (heldN a.p a.q : Int) tk) ∧ l = [some (hd, listObj hs c0)]
      | _ => False) :
    ∀ i C c st fr, (lwCs (LOf a) (ofL (wsOf a ℓ wh).flatten) (ofL (List.replicate (half a.p + 1) ℓ)) (ofL (List.replicate (half a.p + 1) ℓ)) ((wsOf a ℓ wh).map ofL) hs ((wsOf a ℓ wh).length : Int) (heldN a.p a.q : Int))[i]? = some C → seenW H1 HH i c st fr → CtrOk (cfg w scr h₀ A 340 R d os) C c st fr := by
  subst e1 e2
  have O : CfgOk (cfg w scr h₀ A 340 R d os) := G.cfg lo
  have hn := H.nums
  have hwl : (wsOf a ℓ wh).length ≤ 65 := by
    have := len_words ℓ wh (Mine.flags a.p a.q) false [ℓ]
    rw [H.count] at this
    show (wordsOf ℓ wh false [ℓ] (Mine.flags a.p a.q)).length ≤ 65
    omega
  intro i C c st fr hi hh
  match i, hi with
  | 0, hi =>
    have hi := Option.some.inj hi
    subst hi
    cases (show c = lnCall a from hh)
    intro A' h' R' lo' _ D q
    have F := (D.anew (st.t + st.j)).cast (V' := cfg w scr h₀ callerA 0 (fun _ _ => True) d os) rfl rfl
    refine codeAny_toks ?_
    have hm2 : (half a.p : Int) * a.q < (marksN a.p a.q + 1) * a.p ∧ marksN a.p a.q * a.p ≤ (half a.p : Int) * a.q := by
      have hpos : 0 < a.p := by omega
      have h0 : 0 ≤ (half a.p : Int) * a.q / a.p := Int.ediv_nonneg (Int.mul_nonneg (by omega) (by have := H.q3.1; omega)) (by omega)
      have e : ((marksN a.p a.q : Nat) : Int) = (half a.p : Int) * a.q / a.p := by unfold marksN; omega
      rw [e]
      exact ⟨Int.lt_ediv_add_one_mul_self _ hpos, Int.ediv_mul_le _ (by omega)⟩
    refine line_run hw G lo' (m := half a.p) (m2 := marksN a.p a.q) (sn := snOf a) (by rw [H.white]; rfl) (by rw [H.letter]; rfl) (by rw [H.mark]; rfl) H.fdiv hn.1 hn.2.1 hn.2.2.1 (by omega) (by omega) (by simp; omega) (by have := H.q3; simp; omega) (by have := H.q3; simp; omega) hm2.1 hm2.2 (mg_perm _ _ _) (mg_sorted _ _ _ (by rw [mults_len, mults_len]; exact Nat.le_refl _) (mults_sorted _ (by have := H.q3; omega) _) (mults_sorted _ (by omega) _)) hn.2.2.2.1 F (fun tk N' t' g' h2 D2 hle => ?_)
    have hle : st.t + st.j ≤ t' := hle
    have y := q ⟨tk, t' - (st.t + st.j), N', g'⟩ h2 ((D2.toks (j' := st.j + (t' - (st.t + st.j))) (t' := st.t)).cast rfl rfl)
    have e : (⟨h2, g', d, st.t + (st.j + (t' - (st.t + st.j))), os⟩ : Shared) = ⟨h2, g', d, t', os⟩ := by
      rw [show st.t + (st.j + (t' - (st.t + st.j))) = t' by omega]
    exact e ▸ y
  | 1, hi =>
    have hi := Option.some.inj hi
    subst hi
    obtain ⟨tk, rfl, ho, rfl⟩ := (show ∃ tk, c = .call (.ref 734) ⟨[.str (LOf a) tk], []⟩ ∧ lookS st 1 = some (lf, lwF w.params frl s) ∧ fr = A.frames from hh)
    obtain ⟨rest, hb⟩ := look_base ho
    intro A' h' R' lo' hf' D q
    obtain ⟨base, nw, n, j, N, t, g⟩ := st
    simp only at hb
    subst hb
    have F := (D.anew (t + j)).cast (V' := cfg w scr h₀ callerA 0 (fun _ _ => True) d os) rfl rfl
    refine codeAny_toks ?_
    refine split_run hw G lo' H.sgn H.len.1 H.len.2 (hf'.trans hfr) (by show (fdOf (o774 w.params)).scope.kind ≠ _; rw [kind774]; decide) rfl (fun vs e => by cases e) H.words rfl (good_enc H.ne.2.1 H.ne.2.2 _ _) H.line F (fun x vs h2 hv D2 hle => ?_)
    have hle : t + j ≤ x.t := hle
    have y := q ⟨⟨x.S, x.s2, vs.toArray, x.c, x.N, x.t - (t + j)⟩, hv⟩ h2 ((D2.toks (j' := j + (x.t - (t + j))) (t' := t)).cast rfl rfl)
    have e : (⟨h2, g, d, t + (j + (x.t - (t + j))), os⟩ : Shared) = ⟨h2, g, d, x.t, os⟩ := by
      rw [show t + (j + (x.t - (t + j))) = x.t by omega]
    exact e ▸ y
  | 2, hi =>
    have hi := Option.some.inj hi
    subst hi
    obtain ⟨tk, S, c', vs, hv, rfl, e⟩ := (show ∃ (tk S c' : Nat) (vs : Array Value), StrsAre vs.toList ((wsOf a ℓ wh).map ofL) ∧ c = .call (.builtin "str.join") ⟨[.str ⟨#[]⟩ tk, .ref S], []⟩ ∧ [lookS st 3] = [some (S, listObj vs c')] from hh)
    intro A' h' R' lo' _ D q
    have ho := D.look (List.cons.inj e).1
    have hcat : (((wsOf a ℓ wh).map ofL).map (·.cps.toList)).flatten = (wsOf a ℓ wh).flatten := by
      rw [List.map_map]; exact congrArg List.flatten (List.map_id' _)
    have hsum : (((wsOf a ℓ wh).map ofL).map (·.length)).sum = (wsOf a ℓ wh).flatten.length := by
      rw [List.length_flatten, List.map_map]; exact congrArg List.sum (List.map_congr_left fun x _ => by show x.toArray.size = _; simp)
    refine codeAny_toks (join_code ho hv (by rw [hsum]; have := H.total; omega) (r := ofL (wsOf a ℓ wh).flatten) (by rw [hcat]) (fun tk2 t' hle => ?_))
    have hle : st.t + st.j ≤ t' := hle
    have y := q (tk2, t' - (st.t + st.j)) h' D.toks
    have e : (⟨h', st.g, d, st.t + (st.j + (t' - (st.t + st.j))), os⟩ : Shared) = ⟨h', st.g, d, t', os⟩ := by
      rw [show st.t + (st.j + (t' - (st.t + st.j))) = t' by omega]
    exact e ▸ y
  | 3, hi =>
    have hi := Option.some.inj hi
    subst hi
    obtain ⟨tk, v, hv, rfl⟩ := (show ∃ tk v : Nat, t0 ≤ v ∧ c = .call (.builtin "str.replace") ⟨[.str (ofL (wsOf a ℓ wh).flatten) tk, .str a.white a.tw, .str ⟨#[]⟩ v], []⟩ from hh)
    intro A' h' R' lo' _ D q
    have htw := H.tw
    have hrest : (ofL (List.replicate (half a.p + 1) ℓ)).cps.toList = (ofL (wsOf a ℓ wh).flatten).cps.toList.filter (fun y => decide (y ≠ wh)) := by
      have := rest_words ℓ wh H.ne.1 (Mine.flags a.p a.q) false [ℓ]
      show List.replicate (half a.p + 1) ℓ = (wordsOf ℓ wh false [ℓ] (Mine.flags a.p a.q)).flatten.filter _
      rw [this, H.count, List.replicate_succ]
      have hne := H.ne.1
      rw [List.filter_cons, decide_eq_true hne]; rfl
    rw [H.white]
    refine codeAny_toks (replace_code (by omega) (by omega) (by omega) ?_ hrest (fun tk2 t' hle => ?_))
    · show ((wsOf a ℓ wh).flatten.toArray).size < _
      have := H.total; simp at this ⊢; omega
    have hle : st.t + st.j ≤ t' := hle
    have y := q (tk2, t' - (st.t + st.j)) h' D.toks
    have e : (⟨h', st.g, d, st.t + (st.j + (t' - (st.t + st.j))), os⟩ : Shared) = ⟨h', st.g, d, t', os⟩ := by
      rw [show st.t + (st.j + (t' - (st.t + st.j))) = t' by omega]
    exact e ▸ y
  | 4, hi =>
    have hi := Option.some.inj hi
    subst hi
    obtain ⟨tk, rfl⟩ := (show ∃ tk, c = .call (.builtin "str.__mul__") ⟨[.str a.letter a.tl, .int (Int.fdiv a.p 2 + 1) tk], []⟩ from hh)
    intro A' h' R' lo' _ D q
    rw [H.letter, H.fdiv]
    refine codeAny_toks (mul_code (by omega) (by omega) (fun tk2 t' hle => ?_))
    have hle : st.t + st.j ≤ t' := hle
    rw [show ((half a.p : Int) + 1).toNat = half a.p + 1 by omega]
    have y := q (tk2, t' - (st.t + st.j)) h' D.toks
    have e : (⟨h', st.g, d, st.t + (st.j + (t' - (st.t + st.j))), os⟩ : Shared) = ⟨h', st.g, d, t', os⟩ := by
      rw [show st.t + (st.j + (t' - (st.t + st.j))) = t' by omega]
    exact e ▸ y
  | 5, hi =>
    have hi := Option.some.inj hi
    subst hi
    obtain ⟨S, c', vs, hv, rfl, e⟩ := (show ∃ (S c' : Nat) (vs : Array Value), StrsAre vs.toList ((wsOf a ℓ wh).map ofL) ∧ c = .call (.builtin "len") ⟨[.ref S], []⟩ ∧ [lookS st 3] = [some (S, listObj vs c')] from hh)
    obtain ⟨l, h1, h2⟩ := strs_split hv
    have hsz : vs.size = (wsOf a ℓ wh).length := by
      have e1 := congrArg List.length h1
      have e2 := congrArg List.length h2
      rw [Array.length_toList] at e1
      unfold strValues at e1
      simp only [List.length_map] at e1 e2
      rw [e1, ← e2]
    exact len_ok (List.cons.inj e).1 (by rw [hsz]; omega) (by rw [hsz])
  | 6, hi =>
    have hi := Option.some.inj hi
    subst hi
    obtain ⟨tk, rfl⟩ := (show ∃ tk, c = .call (.builtin "str.count") ⟨[.str (ofL (wsOf a ℓ wh).flatten) tk, .str a.white a.tw], []⟩ from hh)
    intro A' h' R' lo' _ D q
    rw [H.white]
    refine count_code ?_
    have hc : (ofL (wsOf a ℓ wh).flatten).cps.toList.count wh = heldN a.p a.q := by
      have := inW_words ℓ wh H.ne.1 (Mine.flags a.p a.q) false [ℓ]
      show (wordsOf ℓ wh false [ℓ] (Mine.flags a.p a.q)).flatten.count wh = _
      rw [this, List.count_cons_of_ne H.ne.1]; simp [heldN]
    rw [hc]
    exact q () h' D.toks
  | 7, hi =>
    have hi := Option.some.inj hi
    subst hi
    obtain ⟨tk, rfl, e⟩ := (show ∃ tk, c = lApp hd (.int (heldN a.p a.q : Int) tk) ∧ [lookS st 5] = [some (hd, listObj hs c0)] from hh)
    intro A' h' R' lo' hf' D q
    exact append_ok O (x := .int (heldN a.p a.q : Int) tk) (List.cons.inj e).1 (by unfold sizeLine; omega) A' h' R' lo' hf' D (fun c' h2 D2 => q (tk, c') h2 D2)
end
end Mine
end Lw3

section Lw4
open PySem PySem.Calls PySem.W PySem.W.X PyProof.Rows
set_option Elab.async false
set_option maxRecDepth 100000
namespace Mine
section
variable {w₀ : World} {b1 b2 : Bool} {w : World} (hw : w = wf w₀ b1 b2) {scr : Obj} {h₀ : Heap} (G : Grd w scr h₀) {d : Drawn} {os : OsState} {A : Around} (lo : Lo A 340) {R : Result → Shared → Prop}
    {lf nm hd it tup t1 t2 : Addr} (hfr : A.frames = some [envOf (fd774 w.params) 774 lf]) {a : LnA} {ℓ wh m : Nat} (H : LHyp a ℓ wh m) (H' : LHyp a.swap ℓ wh m) {k : Nat → Nat} {rest : Own}
noncomputable abbrev lwTail (a : LnA) (hd it tup t1 t2 : Addr) (hs : Array Value) (c : Nat) (i : Int) (rest : Own) : Own := (hd, listObj hs c) :: (it, titObj tup i) :: (tup, tupObj #[.ref t1, .ref t2]) :: (t1, tupObj #[.int a.p a.tp, .int a.q a.tq]) :: (t2, tupObj #[.int a.q a.tq, .int a.p a.tp]) :: rest
include hw G lo hfr H in
theorem lw_first {N t c : Nat} {s : Array (Option Value)} {hs : Array Value} {g : Array GenState} {h : Heap} (hhs : hs.size < 100) (ht : a.tw < t)
    (D : RepC w scr h₀ d os h ⟨(lf, lwF w.params (lwC a k nm hd []) s) :: lwTail a hd it tup t1 t2 hs c 0 rest, [], 0, 0, N, t, g⟩)
    (z : ∀ (e : Nat → Nat) (v1 v2 v3 v4 : Value) (s : Array (Option Value)) (u c N t' : Nat) (g : Array GenState) (h : Heap), t ≤ t' → RepC w scr h₀ d os h ⟨(lf, lwF w.params (lwC a k nm hd (lwE e v1 v2 v3 v4)) s) :: lwTail a hd it tup t1 t2 (hs.push (.int (heldN a.p a.q : Int) u)) c 1 rest, [], 0, 0, N, t', g⟩ → codeAny (model PySem.Challenge.pw_nq0197_01 w) A (lwFor w.params it lf) R ⟨h, g, d, t', os⟩) :
    codeAny (model PySem.Challenge.pw_nq0197_01 w) A (lwFor w.params it lf) R ⟨h, g, d, t, os⟩ := by
  have hlen := len_words ℓ wh (Mine.flags a.p a.q) false [ℓ]
  rw [H.count] at hlen
  refine seg_run G lo (lw_ok hw G lo hfr H (frl := lwC a k nm hd ((nOne, t, .int a.p a.tp) :: (nOther, t + 1, .int a.q a.tq) :: [])) (s := s) (hd := hd) (c0 := c) (t0 := t) (hs := hs) hhs ht _ _ rfl rfl) (Eq.mpr (lw_a w₀ b1 b2 w hw scr h₀ A R d os _ _ _ a k (fun _ => 0) lf nm hd it tup t1 t2 c N t s (LOf a) (ofL (wsOf a ℓ wh).flatten) (ofL (List.replicate (half a.p + 1) ℓ)) (ofL (List.replicate (half a.p + 1) ℓ)) ((wsOf a ℓ wh).map ofL) hs ((wsOf a ℓ wh).length : Int) (heldN a.p a.q : Int) .none .none .none .none rest g) ?_) D
  refine ⟨eqs_want _ _ _, trivial, rfl, fun x0 => ⟨trivial, trivial, ⟨_, rfl, rfl, rfl⟩, fun x1 => ⟨eqs_want _ _ _, trivial, ⟨_, _, _, _, x1.2, rfl, rfl⟩, fun x2 => ⟨eqs_want _ _ _, trivial, ⟨_, _, Nat.le_add_right _ _, rfl⟩, fun x3 => ⟨eqs_want _ _ _, trivial, ⟨_, rfl⟩, fun x4 => ⟨eqs_want _ _ _, ⟨trivial, strNe_self _⟩, ⟨_, _, _, x1.2, rfl, rfl⟩, fun _ => ⟨eqs_want _ _ _, trivial, ⟨_, rfl⟩, fun _ => ⟨eqs_want _ _ _, ⟨trivial, ?_⟩, ⟨_, rfl⟩, fun _ => ⟨trivial, trivial, ⟨_, rfl, rfl⟩, fun y => ⟨trivial, trivial, fun h' D' => ?_⟩⟩⟩⟩⟩⟩⟩⟩⟩⟩
  · rw [H.fdiv]
    have : ((wsOf a ℓ wh).length : Int) - 1 + (heldN a.p a.q : Int) = (half a.p : Int) := by
      have : (wsOf a ℓ wh).length + heldN a.p a.q = half a.p + 1 := hlen
      omega
    rw [this]; simp
  · exact z (fun i => match i with | 0 => t | 1 => t + 1 | 2 => t + (2 + x0.dt + x1.1.dt) | _ => t + (2 + x0.dt + x1.1.dt + 2 + x2.2)) _ _ _ _ x1.1.s2 y.1 y.2 _ _ _ h' (Nat.le_add_right _ _) (D'.sublist (j' := 0) (t' := _) (.cons_cons _ (.cons _ (List.Sublist.refl _))))
include hw G lo hfr H' in
theorem lw_second {N t c : Nat} {e : Nat → Nat} {v1 v2 v3 v4 : Value} {s : Array (Option Value)} {hs : Array Value} {g : Array GenState} {h : Heap} (hhs : hs.size < 100) (ht : a.tw < t)
    (D : RepC w scr h₀ d os h ⟨(lf, lwF w.params (lwC a k nm hd (lwE e v1 v2 v3 v4)) s) :: lwTail a hd it tup t1 t2 hs c 1 rest, [], 0, 0, N, t, g⟩)
    (z : ∀ (e : Nat → Nat) (v1 v2 v3 v4 : Value) (s : Array (Option Value)) (u c N t' : Nat) (g : Array GenState) (h : Heap), t ≤ t' → RepC w scr h₀ d os h ⟨(lf, lwF w.params (lwC a k nm hd (lwE e v1 v2 v3 v4)) s) :: lwTail a hd it tup t1 t2 (hs.push (.int (heldN a.q a.p : Int) u)) c 2 rest, [], 0, 0, N, t', g⟩ → codeAny (model PySem.Challenge.pw_nq0197_01 w) A (lwFor w.params it lf) R ⟨h, g, d, t', os⟩) :
    codeAny (model PySem.Challenge.pw_nq0197_01 w) A (lwFor w.params it lf) R ⟨h, g, d, t, os⟩ := by
  have hlen := len_words ℓ wh (Mine.flags a.q a.p) false [ℓ]
  rw [show (Mine.flags a.q a.p).count false = half a.q from H'.count] at hlen
  refine seg_run G lo (lw_ok hw G lo hfr H' (frl := lwC a k nm hd ((nOne, e 0, .int a.q a.tq) :: (nOther, e 1, .int a.p a.tp) :: [(nWords, e 2, v3), (nInside, e 3, v4)])) (s := s) (hd := hd) (c0 := c) (t0 := t) (hs := hs) hhs ht _ _ rfl rfl) (Eq.mpr (lw_b w₀ b1 b2 w hw scr h₀ A R d os _ _ _ a k e lf nm hd it tup t1 t2 c N t s (LOf a.swap) (ofL (wsOf a.swap ℓ wh).flatten) (ofL (List.replicate (half a.q + 1) ℓ)) (ofL (List.replicate (half a.q + 1) ℓ)) ((wsOf a.swap ℓ wh).map ofL) hs ((wsOf a.swap ℓ wh).length : Int) (heldN a.q a.p : Int) v1 v2 v3 v4 rest g) ?_) D
  refine ⟨eqs_want _ _ _, trivial, rfl, fun x0 => ⟨trivial, trivial, ⟨_, rfl, rfl, rfl⟩, fun x1 => ⟨eqs_want _ _ _, trivial, ⟨_, _, _, _, x1.2, rfl, rfl⟩, fun x2 => ⟨eqs_want _ _ _, trivial, ⟨_, _, Nat.le_add_right _ _, rfl⟩, fun x3 => ⟨eqs_want _ _ _, trivial, ⟨_, rfl⟩, fun x4 => ⟨eqs_want _ _ _, ⟨trivial, strNe_self _⟩, ⟨_, _, _, x1.2, rfl, rfl⟩, fun _ => ⟨eqs_want _ _ _, trivial, ⟨_, rfl⟩, fun _ => ⟨eqs_want _ _ _, ⟨trivial, ?_⟩, ⟨_, rfl⟩, fun _ => ⟨trivial, trivial, ⟨_, rfl, rfl⟩, fun y => ⟨trivial, trivial, fun h' D' => ?_⟩⟩⟩⟩⟩⟩⟩⟩⟩⟩
  · rw [show Int.fdiv a.q 2 = (half a.q : Int) from H'.fdiv]
    have : ((wsOf a.swap ℓ wh).length : Int) - 1 + (heldN a.q a.p : Int) = (half a.q : Int) := by
      have : (wsOf a.swap ℓ wh).length + heldN a.q a.p = half a.q + 1 := hlen
      omega
    rw [this]; simp
  · exact z e _ _ _ _ x1.1.s2 y.1 y.2 _ _ _ h' (Nat.le_add_right _ _) (D'.sublist (j' := 0) (t' := _) (.cons_cons _ (.cons _ (List.Sublist.refl _))))
include hw G lo hfr H H' in
/-- law's for-loop -/
theorem for_run {N t c : Nat} {g : Array GenState} {h : Heap} (ht : a.tw < t)
    (D : RepC w scr h₀ d os h ⟨(lf, lwF w.params (lwC a k nm hd []) #[]) :: lwTail a hd it tup t1 t2 #[] c 0 rest, [], 0, 0, N, t, g⟩)
    (z : ∀ (e : Nat → Nat) (v1 v2 v3 v4 : Value) (s : Array (Option Value)) (u0 u1 c N t' : Nat) (g : Array GenState) (h : Heap), t ≤ t' → RepC w scr h₀ d os h ⟨[(lf, lwF w.params (lwC a k nm hd (lwE e v1 v2 v3 v4)) s), (hd, listObj #[.int (heldN a.p a.q : Int) u0, .int (heldN a.q a.p : Int) u1] c)], [], 0, 0, N, t', g⟩ → R (.ok .next) ⟨h, g, d, t', os⟩) :
    codeAny (model PySem.Challenge.pw_nq0197_01 w) A (lwFor w.params it lf) R ⟨h, g, d, t, os⟩ := by
  refine lw_first hw G lo hfr H (by simp) ht D (fun e v1 v2 v3 v4 s u0 c1 N1 t1' g1 h1 hle1 D1 => ?_)
  refine lw_second hw G lo hfr H' (by simp) (by omega) D1 (fun e v1 v2 v3 v4 s u1 c2 N2 t2' g2 h2 hle2 D2 => ?_)
  refine seg_run G lo (cs := []) (H := seenW (fun _ _ _ => False) (fun _ _ _ _ => False)) (fun j C cc st fr hj hh => by cases hj) (Eq.mpr (lw_end w₀ b1 b2 w hw scr h₀ A R d os (fun _ _ _ => False) (fun _ _ _ _ => False) _ a k e lf nm hd it tup t1 t2 c2 N2 t2' s ⟨#[]⟩ ⟨#[]⟩ ⟨#[]⟩ ⟨#[]⟩ [] _ 0 0 v1 v2 v3 v4 rest g2) ?_) D2
  refine ⟨eqs_want _ _ _, trivial, fun h' D' => ?_⟩
  exact z e v1 v2 v3 v4 s u0 u1 c2 _ _ _ h' (by omega) (D'.sublist (j' := 0) (t' := t2') (.cons_cons _ (.cons_cons _ (List.nil_sublist _))))
end
end Mine
end Lw4

section Lz
open PySem PySem.Calls PySem.W PySem.W.X PyProof.Rows
set_option Elab.async false
set_option maxRecDepth 100000
namespace Mine
theorem tok_eq {h : Heap} {g : Array GenState} {d : Drawn} {os : OsState} {t j t' : Nat} (hle : t + j ≤ t') : (⟨h, g, d, t + (j + (t' - (t + j))), os⟩ : Shared) = ⟨h, g, d, t', os⟩ := by
  rw [show t + (j + (t' - (t + j))) = t' by omega]
/-- new objects of a callee, forgotten -/
theorem Rep.refold {V : Cfg} {h h' : Heap} {base : Own} {nw : List (Option Obj)} {n j₀ N t₀ m j j' t t' : Nat} {g₀ g' : Array GenState} (D : Rep V h ⟨base, nw, n, j₀, N, t₀, g₀⟩) (D' : Rep V h' ⟨base ++ news N nw, [], 0, j', N + n + m, t', g'⟩) :
    Rep V h' ⟨base, List.replicate m none ++ nw, n + m, j, N, t, g'⟩ := by
  have hlen : nw.length = n := D.len
  refine ⟨by rw [D'.size]; simp only; omega, by simp; omega, fun p hp => D'.base p (List.mem_append.mpr (.inl hp)), D.nod, D.lt, D.low, D.lowN, fun k o hk e => ?_, D'.keep, D'.bare⟩
  simp only at hk e
  by_cases hkn : k < n
  · rw [List.getElem?_append_right (by simp; omega), List.length_replicate, show n + m - 1 - k - m = nw.length - 1 - k by omega] at e
    exact D'.base (N + k, o) (List.mem_append.mpr (.inr (mem_news (by omega) e)))
  · rw [List.getElem?_append_left (by simp; omega), List.getElem?_replicate] at e
    split at e <;> simp at e
section
variable {w₀ : World} {b1 b2 : Bool} {w : World} (hw : w = wf w₀ b1 b2) {scr : Obj} {h₀ : Heap} (G : Grd w scr h₀) {d : Drawn} {os : OsState} {A : Around} {R : Result → Shared → Prop}
include hw G
theorem aw_ok {D₀ : Nat} {b : Bool} {p q : Int} {tp tq : Nat} {st : St} {fr : Option (List Env)} (hp : 0 ≤ p) (hq : 0 ≤ q) (hb : ((Int.gcd p q : Int) == 1) = b) : CtrOk (cfg w scr h₀ A D₀ R d os) (awCtr b) (apCall p q tp tq) st fr := by
  intro A' h' R' lo' _ D q'
  have F := (D.anew (st.t + st.j)).cast (V' := cfg w scr h₀ callerA 0 (fun _ _ => True) d os) rfl rfl
  refine codeAny_toks (apart_run hw G lo' hp hq F (fun N t h2 D2 hle => ?_))
  have hle : st.t + st.j ≤ t := hle
  rw [hb]
  have y := q' ⟨N, t - (st.t + st.j)⟩ h2 ((D2.toks (j' := st.j + (t - (st.t + st.j))) (t' := st.t)).cast rfl rfl)
  exact tok_eq hle ▸ y
theorem while_run (lo : Lo A 340) {lf nm tp : Nat} {k : Nat → Nat} {p r : Int} {rest : Own} {g : Array GenState} (hp : 0 ≤ p) (n : Nat) : ∀ (q : Int) (tq N t : Nat) (h : Heap), apartQ p n q = some r → 0 ≤ q →
    RepC w scr h₀ d os h ⟨(lf, lwW w.params k nm p q tp tq) :: rest, [], 0, 0, N, t, g⟩ →
    (∀ (tq N t' : Nat) (h : Heap), t ≤ t' → RepC w scr h₀ d os h ⟨(lf, lwW w.params k nm p r tp tq) :: rest, [], 0, 0, N, t', g⟩ → R (.ok .next) ⟨h, g, d, t', os⟩) →
    codeAny (model PySem.Challenge.pw_nq0197_01 w) A (lwWhile w.params lf) R ⟨h, g, d, t, os⟩ := by
  induction n with
  | zero => intro q tq N t h hs; cases hs
  | succ n ih =>
    intro q tq N t h hs hq D z
    unfold apartQ at hs
    let HH : Nat → Code → List (Option (Addr × Obj)) → Nat → Prop := fun _ c _ _ => c = apCall p q tp tq
    by_cases hg : Int.gcd p q = 1
    · rw [if_pos hg] at hs
      cases hs
      refine seg_run G lo (cs := [awCtr true]) (H := seen2 noSt (fun _ _ _ => False) HH) (fun j C cc st fr hj hh => ?_) (Eq.mpr (lww_end w₀ b1 b2 w hw scr h₀ A R d os (fun _ _ _ => False) HH _ k lf nm tp tq N t p r rest g) ?_) D
      · match j, hj with
        | 0, hj =>
          have hj := Option.some.inj hj
          subst hj
          cases (show cc = apCall p r tp tq from hh)
          exact aw_ok hw G hp hq (by rw [hg]; rfl)
      · exact ⟨eqs_want _ _ _, trivial, rfl, fun x => ⟨trivial, trivial, fun h' D' => z tq _ _ h' (Nat.le_add_right _ _) D'⟩⟩
    · rw [if_neg hg] at hs
      refine seg_run G lo (cs := [awCtr false]) (H := seen2 noSt (fun _ _ _ => False) HH) (fun j C cc st fr hj hh => ?_) (Eq.mpr (lww_turn w₀ b1 b2 w hw scr h₀ A R d os (fun _ _ _ => False) HH _ k lf nm tp tq N t p q rest g) ?_) D
      · match j, hj with
        | 0, hj =>
          have hj := Option.some.inj hj
          subst hj
          cases (show cc = apCall p q tp tq from hh)
          exact aw_ok hw G hp hq (by simp; omega)
      · refine ⟨eqs_want _ _ _, trivial, rfl, fun x => ⟨eqs_want _ _ _, trivial, fun h' D' => ?_⟩⟩
        exact ih (q + 2) _ _ _ h' hs (by omega) D' (fun tq N t' h2 hle D2 => z tq N t' h2 (by omega) D2)
end
/-- the three numbers -/
theorem nums3 {vs : List Value} {ns : List Int} (hI : IntsAre vs ns) (a b c : Nat) : ∃ (n0 n1 n2 : Int) (u0 u1 u2 : Nat), (vs.take 3).toArray ++ (([.int 2 a, .int 4 b, .int 780 c] : List Value).drop (vs.take 3).length).toArray = #[.int n0 u0, .int n1 u1, .int n2 u2] := by
  cases hI with
  | nil => exact ⟨_, _, _, _, _, _, rfl⟩
  | cons x t h =>
    cases h with
    | nil => exact ⟨_, _, _, _, _, _, rfl⟩
    | cons y t h =>
      cases h with
      | nil => exact ⟨_, _, _, _, _, _, rfl⟩
      | cons z t h => exact ⟨_, _, _, _, _, _, rfl⟩
set_option maxHeartbeats 0 in
theorem get775 (w : World) (scr : Obj) : (ktab w scr).get 775 = some scr := by kernel_rfl
theorem ltr_out (x : Int) : ltr x ≠ 32 ∧ ltr x ≠ 9 ∧ ltr x ≠ 10 ∧ ltr x ≠ 13 ∧ ltr x ≠ 39 ∧ ltr x ≠ 34 ∧ ltr x ≠ 92 := by
  unfold ltr
  by_cases h : codeOf x ∈ signs.cps.toList
  · rw [if_pos h]; decide
  · rw [if_neg h]
    simp only [signs, List.mem_cons, List.not_mem_nil, or_false, not_or] at h
    omega
noncomputable def whOf (n : Int) : Nat := match (n % 4).toNat with
  | 0 => 32
  | 1 => 9
  | 2 => 10
  | _ => 13
noncomputable def mkOf (n : Int) : Nat := match (n / 4 % 2).toNat with
  | 0 => 39
  | _ => 34
theorem wh_at (n : Int) : (⟨#[32, 9, 10, 13]⟩ : Str).cps[(n % 4).toNat]? = some (whOf n) := by
  unfold whOf
  have h1 := Int.emod_nonneg n (show (4 : Int) ≠ 0 by decide)
  have h2 := Int.emod_lt_of_pos n (show (0 : Int) < 4 by decide)
  generalize hk : (n % 4).toNat = k
  have : k < 4 := by omega
  match k, this with
  | 0, _ => rfl
  | 1, _ => rfl
  | 2, _ => rfl
  | 3, _ => rfl
theorem mk_at (n : Int) : (⟨#[39, 34]⟩ : Str).cps[(n / 4 % 2).toNat]? = some (mkOf n) := by
  unfold mkOf
  have h1 := Int.emod_nonneg (n / 4) (show (2 : Int) ≠ 0 by decide)
  have h2 := Int.emod_lt_of_pos (n / 4) (show (0 : Int) < 2 by decide)
  generalize hk : (n / 4 % 2).toNat = k
  have : k < 2 := by omega
  match k, this with
  | 0, _ => rfl
  | 1, _ => rfl
theorem sgn_of (n : Int) (x : Int) : Sgn (ltr x) (whOf n) (mkOf n) := by
  refine ⟨?_, ?_, ltr_out x⟩
  · unfold whOf
    split <;> simp
  · unfold mkOf
    split <;> simp
/-- what the check of a pair says -/
theorem chk_facts {i j : Nat} (hi : i < 30) (hj : j < 30) : ∃ q r : Int, apartQ (3 + 2 * i) 10 (3 + 2 * j) = some q ∧ lineOk (3 + 2 * i) q = true ∧ lineOk q (3 + 2 * i) = true ∧ symGo q 64 (3 + 2 * i) 3 1 = some r ∧ ((heldN (3 + 2 * i) q % 2 == 0) = (r == 1)) ∧ (heldN (3 + 2 * i) q + heldN q (3 + 2 * i)) % 2 = (half (3 + 2 * i) * half q) % 2 := by
  have h := chk_at hi hj
  unfold chk at h
  cases hq : apartQ (3 + 2 * i) 10 (3 + 2 * j) with
  | none => rw [hq] at h; cases h
  | some q =>
    rw [hq] at h
    simp only [Bool.and_eq_true] at h
    obtain ⟨⟨h1, h2⟩, h3⟩ := h
    cases hr : symGo q 64 (3 + 2 * i) 3 1 with
    | none => rw [hr] at h3; cases h3
    | some r =>
      rw [hr] at h3
      simp only [Bool.and_eq_true] at h3
      exact ⟨q, r, rfl, h1, h2, hr, by simpa using h3.1, by simpa using h3.2⟩
end Mine
end Lz

section Lz2
open PySem PySem.Calls PySem.W PySem.W.X PyProof.Rows
set_option Elab.async false
set_option maxRecDepth 100000
namespace Mine
section
variable {w₀ : World} {b1 b2 : Bool} {w : World} (hw : w = wf w₀ b1 b2) {its : Array Value} {h₀ : Heap} (G : Grd w (listObj its 0) h₀) {d : Drawn} {os : OsState} {A : Around} {R : Result → Shared → Prop}
include hw G
/-- the law returns True -/
theorem law_run (lo : Lo A 310) (hA : A.frames = some []) {ns : List Int} (hI : IntsAre its.toList ns) (hsz : its.size < 1000) {N t : Nat} {g : Array GenState} {h : Heap} (D : RepC w (listObj its 0) h₀ d os h ⟨[], [], 0, 0, N, t, g⟩)
    (z : ∀ (B : Own) (N' t' : Nat) (g' : Array GenState) (h' : Heap), RepC w (listObj its 0) h₀ d os h' ⟨B, [], 0, 0, N', t', g'⟩ → R (.ok (.ret (.bool true))) ⟨h', g', d, t', os⟩) :
    codeAny (model PySem.Challenge.pw_nq0197_01 w) A lawCall R ⟨h, g, d, t, os⟩ := by
  obtain ⟨n0, n1, n2, u0, u1, u2, hnum⟩ := nums3 hI (t + 2) (t + 3) (t + 4)
  have hs3 : slicePick its none (some 3) none = (its.toList.take 3).toArray := slicePick_upto' its 3
  have hs3l : (its.toList.take 3).length ≤ 3 := List.length_take_le _ _
  let s3 : Array Value := slicePick its none (some 3) none
  have hs3s : s3.size = (its.toList.take 3).length := by show (slicePick its none (some 3) none).size = _; rw [hs3]; simp
  let d0 : Array Value := #[.int 2 (t + 2), .int 4 (t + 3), .int 780 (t + 4)]
  let d3 : Array Value := slicePick d0 (some (s3.size : Int)) none none
  have hd3 : d3 = (d0.toList.drop s3.size).toArray := slicePick_from d0 s3.size (by rw [hs3s]; exact hs3l)
  have hsum : s3 ++ d3 = #[.int n0 u0, .int n1 u1, .int n2 u2] := by
    rw [hd3, hs3s]
    show slicePick its none (some 3) none ++ _ = _
    rw [hs3]
    exact hnum
  -- the numbers p, q
  have m0 := Int.emod_nonneg n0 (show (30 : Int) ≠ 0 by decide)
  have m0' := Int.emod_lt_of_pos n0 (show (0 : Int) < 30 by decide)
  have m1 := Int.emod_nonneg n1 (show (30 : Int) ≠ 0 by decide)
  have m1' := Int.emod_lt_of_pos n1 (show (0 : Int) < 30 by decide)
  obtain ⟨q, r, hap, hl1, hl2, hsy, hh1, hh2⟩ := chk_facts (i := (n0 % 30).toNat) (j := (n1 % 30).toNat) (by omega) (by omega)
  have ep : (3 + 2 * ((n0 % 30).toNat : Int)) = 3 + 2 * n0.fmod 30 := by rw [Int.fmod_eq_emod_of_nonneg n0 (by decide)]; omega
  have eq' : (3 + 2 * ((n1 % 30).toNat : Int)) = 3 + 2 * n1.fmod 30 := by rw [Int.fmod_eq_emod_of_nonneg n1 (by decide)]; omega
  rw [ep] at hap hl1 hl2 hsy hh1 hh2
  rw [eq'] at hap
  have hp3 : 3 ≤ 3 + 2 * n0.fmod 30 ∧ 3 + 2 * n0.fmod 30 ≤ 63 := by rw [← ep]; omega
  have hq3 : 3 ≤ q ∧ q ≤ 63 := by
    have := hl2
    unfold lineOk at this
    simp only [Bool.and_eq_true, decide_eq_true_eq] at this
    omega
  have hgcd := apartQ_gcd hap
  let ℓ := ltr (n2.fdiv 8)
  let wh := whOf n2
  let mk := mkOf n2
  have hsgn : Sgn ℓ wh mk := sgn_of n2 (n2.fdiv 8)
  have hypA : ∀ (tp tq tw tm tl : Nat), 0 < tw → LHyp ⟨3 + 2 * n0.fmod 30, q, tp, tq, ⟨#[wh]⟩, ⟨#[mk]⟩, ⟨#[ℓ]⟩, tw, tm, tl⟩ ℓ wh mk := fun tp tq tw tm tl h => ⟨rfl, rfl, rfl, hsgn, hgcd, hl1, hq3, h⟩
  have hypB : ∀ (tp tq tw tm tl : Nat), 0 < tw → LHyp (LnA.swap ⟨3 + 2 * n0.fmod 30, q, tp, tq, ⟨#[wh]⟩, ⟨#[mk]⟩, ⟨#[ℓ]⟩, tw, tm, tl⟩) ℓ wh mk := fun tp tq tw tm tl h => ⟨rfl, rfl, rfl, hsgn, by rw [Int.gcd_comm]; exact hgcd, hl2, hp3, h⟩
  have O : CfgOk (cfg w (listObj its 0) h₀ A 310 R d os) := G.cfg lo
  let I : WX → Prop := fun x => x.q = q
  let H0 : Nat → Code → St → Option (List Env) → Prop := fun i c st fr => match i with
    | 5 => c = lwWhile w.params N ∧ st = ⟨[], [some (listObj #[.int n0 u0, .int n1 u1, .int n2 u2] 0), some (listObj d3 0), some (slcObj (.int (s3.size : Int) (t + 7)) .none), some (listObj s3 0), some (slcObj .none (.int 3 (t + 5))), some (listObj #[.int 2 (t + 2), .int 4 (t + 3), .int 780 (t + 4)] 0), some (listObj s3 0), some (slcObj .none (.int 3 (t + 1))), some (lwW w.params (lwK t 0 0) (N + 8) (3 + 2 * n0.fmod 30) (3 + 2 * n1.fmod 30) (t + 15) (t + 23))], 9, 25, N, t, g⟩
    | _ => i = 9 ∧ ∃ (x5 : { x : WX // I x }) (x8 : Nat × Nat), c = lwFor w.params (x5.1.N + 5) N ∧ st = ⟨[(N, lwF w.params (lwC ⟨(3 + 2 * n0.fmod 30), x5.1.q, t + 15, x5.1.tq, ⟨#[wh]⟩, ⟨#[mk]⟩, ⟨#[ℓ]⟩, t + ((25 + x5.1.dt) + 4), t + ((25 + x5.1.dt) + 12), x8.1⟩ (lwK t (25 + x5.1.dt) ((25 + x5.1.dt) + 17 + x8.2)) (N + 8) (x5.1.N + 1) []) #[]), (N + 8, (listObj #[.int n0 u0, .int n1 u1, .int n2 u2] 0))], [some (titObj (x5.1.N + 4) 0), some (tupObj #[.ref (x5.1.N + 2), .ref (x5.1.N + 3)]), some (tupObj #[.int x5.1.q x5.1.tq, .int (3 + 2 * n0.fmod 30) (t + 15)]), some (tupObj #[.int (3 + 2 * n0.fmod 30) (t + 15), .int x5.1.q x5.1.tq]), some (listObj #[] 0), none], 6, ((25 + x5.1.dt) + 17 + x8.2) + 2, x5.1.N, t, g⟩ ∧ fr = pushEnvs [envOf (fd774 w.params) 774 N] A.frames
  let HH : Nat → Code → List (Option (Addr × Obj)) → Nat → Prop := fun i c l _ => match i with
    | 0 => c = getL (.ref 775) (.ref (N + 1)) ∧ l = [some (N + 1, slcObj .none (.int 3 (t + 1)))]
    | 1 => c = getL (.ref 775) (.ref (N + 4)) ∧ l = [some (N + 4, slcObj .none (.int 3 (t + 5)))]
    | 2 => c = .call (.builtin "len") ⟨[.ref (N + 5)], []⟩ ∧ l = [some (N + 5, listObj s3 0)]
    | 3 => c = getL (.ref (N + 3)) (.ref (N + 6)) ∧ l = [some (N + 3, listObj #[.int 2 (t + 2), .int 4 (t + 3), .int 780 (t + 4)] 0), some (N + 6, slcObj (.int (s3.size : Int) (t + 7)) .none)]
    | 4 => c = .call (.builtin "list.__add__") ⟨[.ref (N + 2), .ref (N + 7)], []⟩ ∧ l = [some (N + 2, listObj s3 0), some (N + 7, listObj d3 0)]
    | 6 => ∃ t1 t2, c = getS (.str ⟨#[32, 9, 10, 13]⟩ t1) (.int (n2.fmod 4) t2)
    | 7 => ∃ t1 t2, c = getS (.str ⟨#[39, 34]⟩ t1) (.int ((n2.fdiv 4).fmod 2) t2)
    | 8 => ∃ t1, c = ltCall (n2.fdiv 8) t1
    | 10 => ∃ t1 t2, c = syCall q (3 + 2 * n0.fmod 30) t1 t2
    | _ => False
  have f2 : ∀ x : Nat, ((x : Int)).fmod 2 = ((x % 2 : Nat) : Int) := fun x => by rw [Int.fmod_eq_emod_of_nonneg _ (by decide)]; omega
  have hparity : ((heldN (3 + 2 * n0.fmod 30) q : Int).fmod 2 == 0) = (r == 1) := by
    rw [← hh1, f2]
    rcases Nat.mod_two_eq_zero_or_one (heldN (3 + 2 * n0.fmod 30) q) with e | e <;> rw [e] <;> rfl
  have hfp : Int.fdiv (3 + 2 * n0.fmod 30) 2 = (half (3 + 2 * n0.fmod 30) : Int) := (hypA 0 0 1 0 0 (by decide)).fdiv
  have hfq : Int.fdiv q 2 = (half q : Int) := (hypB 0 0 1 0 0 (by decide)).fdiv
  have hnumsP : half (3 + 2 * n0.fmod 30) < 64 := (hypA 0 0 1 0 0 (by decide)).nums.2.1
  have hlast : (((heldN (3 + 2 * n0.fmod 30) q : Int) + (heldN q (3 + 2 * n0.fmod 30) : Int)).fmod 2 == (Int.fdiv (3 + 2 * n0.fmod 30) 2 * Int.fdiv q 2).fmod 2) = true := by
    rw [hfp, hfq]
    have e1 : (heldN (3 + 2 * n0.fmod 30) q : Int) + (heldN q (3 + 2 * n0.fmod 30) : Int) = ((heldN (3 + 2 * n0.fmod 30) q + heldN q (3 + 2 * n0.fmod 30) : Nat) : Int) := by push_cast; rfl
    have e2 : (half (3 + 2 * n0.fmod 30) : Int) * (half q : Int) = ((half (3 + 2 * n0.fmod 30) * half q : Nat) : Int) := by push_cast; rfl
    rw [e1, e2, f2, f2, hh2]
    simp
  refine seg_run G lo (cs := lxCs w.params I s3 d3 (s3.size : Int) n0 n1 n2 (heldN (3 + 2 * n0.fmod 30) q : Int) (heldN q (3 + 2 * n0.fmod 30) : Int) r u0 u1 u2 wh mk ℓ) (H := seenL H0 HH) (fun j C cc st fr hj hh => ?_) (Eq.mpr (law_seg w₀ b1 b2 w hw its h₀ A R d os H0 HH _ (r == 1) I s3 d3 (s3.size : Int) n0 n1 n2 (heldN (3 + 2 * n0.fmod 30) q : Int) (heldN q (3 + 2 * n0.fmod 30) : Int) r u0 u1 u2 wh mk ℓ N t g) ?_) D
  · match j, hj with
    | 0, hj =>
      have hj := Option.some.inj hj
      subst hj
      obtain ⟨rfl, e⟩ := (show (cc = getL (.ref 775) (.ref (N + 1)) ∧ [lookS st 4] = [some (N + 1, slcObj .none (.int 3 (t + 1)))]) from hh)
      intro A' h' R' lo' _ D' q'
      have hs : h'.objs.size = st.N + st.n := D'.size
      refine slice_code (D'.old O (get775 w (listObj its 0))) (D'.look (List.cons.inj e).1) .none (.int 3 (t + 1)) ?_ (by unfold sizeLine; omega)
      have y := q' () _ (D'.alloc (o := listObj s3 0) rfl _ _ rfl rfl)
      show R' (.ok (.ret (.ref h'.objs.size))) _
      rw [hs]; exact y
    | 1, hj =>
      have hj := Option.some.inj hj
      subst hj
      obtain ⟨rfl, e⟩ := (show (cc = getL (.ref 775) (.ref (N + 4)) ∧ [lookS st 10] = [some (N + 4, slcObj .none (.int 3 (t + 5)))]) from hh)
      intro A' h' R' lo' _ D' q'
      have hs : h'.objs.size = st.N + st.n := D'.size
      refine slice_code (D'.old O (get775 w (listObj its 0))) (D'.look (List.cons.inj e).1) .none (.int 3 (t + 5)) ?_ (by unfold sizeLine; omega)
      have y := q' () _ (D'.alloc (o := listObj s3 0) rfl _ _ rfl rfl)
      show R' (.ok (.ret (.ref h'.objs.size))) _
      rw [hs]; exact y
    | 2, hj =>
      have hj := Option.some.inj hj
      subst hj
      obtain ⟨rfl, e⟩ := (show (cc = .call (.builtin "len") ⟨[.ref (N + 5)], []⟩ ∧ [lookS st 12] = [some (N + 5, listObj s3 0)]) from hh)
      exact len_ok (List.cons.inj e).1 (by rw [hs3s]; omega) rfl
    | 3, hj =>
      have hj := Option.some.inj hj
      subst hj
      obtain ⟨rfl, e⟩ := (show (cc = getL (.ref (N + 3)) (.ref (N + 6)) ∧ [lookS st 8, lookS st 14] = [some (N + 3, listObj #[.int 2 (t + 2), .int 4 (t + 3), .int 780 (t + 4)] 0), some (N + 6, slcObj (.int (s3.size : Int) (t + 7)) .none)]) from hh)
      simp only [List.cons.injEq, and_true] at e
      intro A' h' R' lo' _ D' q'
      have hs : h'.objs.size = st.N + st.n := D'.size
      refine slice_code (D'.look e.1) (D'.look e.2) (.int (s3.size : Int) (t + 7)) .none ?_ (by show 3 ≤ sizeLine; decide)
      have y := q' () _ (D'.alloc (o := listObj d3 0) rfl _ _ rfl rfl)
      show R' (.ok (.ret (.ref h'.objs.size))) _
      rw [hs]; exact y
    | 4, hj =>
      have hj := Option.some.inj hj
      subst hj
      obtain ⟨rfl, e⟩ := (show (cc = .call (.builtin "list.__add__") ⟨[.ref (N + 2), .ref (N + 7)], []⟩ ∧ [lookS st 6, lookS st 16] = [some (N + 2, listObj s3 0), some (N + 7, listObj d3 0)]) from hh)
      simp only [List.cons.injEq, and_true] at e
      have y := add_ok (V := cfg w (listObj its 0) h₀ A 310 R d os) (fr := fr) e.1 e.2 (by
        have : (s3 ++ d3).size = 3 := by rw [hsum]; rfl
        rw [Array.size_append] at this; unfold sizeLine; omega)
      rw [hsum] at y
      exact y
    | 5, hj =>
      have hj := Option.some.inj hj
      subst hj
      obtain ⟨rfl, rfl⟩ := (show H0 5 cc st fr from hh)
      intro A' h' R' lo' _ D' q'
      have F := ((D'.flat2.arr (j' := 0) (t' := t + 25) [8, 0] 9 (by decide) (by decide)).cast (V' := cfg w (listObj its 0) h₀ callerA 0 (fun _ _ => True) d os) rfl rfl)
      refine while_run hw G lo' (by omega) 10 (3 + 2 * n1.fmod 30) (t + 23) _ _ h' hap (by rw [← eq']; omega) F (fun tq' N' t' h2 hle D2 => ?_)
      have y := q' ⟨⟨q, tq', N', t' - (t + 25)⟩, rfl⟩ h2 ((D2.toks (j' := 25 + (t' - (t + 25))) (t' := t)).cast rfl rfl)
      exact tok_eq hle ▸ y
    | 6, hj =>
      have hj := Option.some.inj hj
      subst hj
      obtain ⟨t1, t2, rfl⟩ := (show (∃ t1 t2, cc = getS (.str ⟨#[32, 9, 10, 13]⟩ t1) (.int (n2.fmod 4) t2)) from hh)
      intro A' h' R' lo' _ D' q'
      have e4 : n2.fmod 4 = n2 % 4 := Int.fmod_eq_emod_of_nonneg n2 (by decide)
      have h1 := Int.emod_nonneg n2 (show (4 : Int) ≠ 0 by decide)
      have h2 := Int.emod_lt_of_pos n2 (show (0 : Int) < 4 by decide)
      exact gets_code (by rw [e4]; exact h1) (by rw [e4]; omega) (by rw [e4]; exact wh_at n2) (q' () h' D'.toks)
    | 7, hj =>
      have hj := Option.some.inj hj
      subst hj
      obtain ⟨t1, t2, rfl⟩ := (show (∃ t1 t2, cc = getS (.str ⟨#[39, 34]⟩ t1) (.int ((n2.fdiv 4).fmod 2) t2)) from hh)
      intro A' h' R' lo' _ D' q'
      have e4 : (n2.fdiv 4).fmod 2 = n2 / 4 % 2 := by rw [Int.fmod_eq_emod_of_nonneg _ (by decide), Int.fdiv_eq_ediv_of_nonneg _ (by decide)]
      have h1 := Int.emod_nonneg (n2 / 4) (show (2 : Int) ≠ 0 by decide)
      have h2 := Int.emod_lt_of_pos (n2 / 4) (show (0 : Int) < 2 by decide)
      exact gets_code (by rw [e4]; exact h1) (by rw [e4]; omega) (by rw [e4]; exact mk_at n2) (q' () h' D'.toks)
    | 8, hj =>
      have hj := Option.some.inj hj
      subst hj
      obtain ⟨t1, rfl⟩ := (show (∃ t1, cc = ltCall (n2.fdiv 8) t1) from hh)
      intro A' h' R' lo' _ D' q'
      obtain ⟨base, nw, n, j, N', t', g'⟩ := st
      have F := D'.flat.cast (V' := cfg w (listObj its 0) h₀ callerA 0 (fun _ _ => True) d os) rfl rfl
      refine codeAny_toks (letter_run hw G lo' F (fun tk t2 h2 D2 hle => ?_))
      have hle : t' + j ≤ t2 := hle
      have y := q' (tk, t2 - (t' + j)) h2 (Rep.refold (m := 1) (j := j + (t2 - (t' + j))) (t := t') D' (D2.cast rfl rfl))
      exact tok_eq hle ▸ y
    | 9, hj =>
      have hj := Option.some.inj hj
      subst hj
      obtain ⟨_, x5, x8, rfl, rfl, rfl⟩ := (show H0 9 cc st fr from hh)
      obtain ⟨⟨xq, xtq, xN, xdt⟩, hx⟩ := x5
      have hx : xq = q := hx
      subst hx
      intro A' h' R' lo' hf' D' q'
      have F := ((D'.flat2.arr (j' := 0) (t' := t + (25 + xdt + 17 + x8.2 + 2)) [5, 4, 0, 1, 3, 2] 6 (by decide) (by decide)).cast (V' := cfg w (listObj its 0) h₀ callerA 0 (fun _ _ => True) d os) rfl rfl)
      refine for_run hw G lo' (hf'.trans (by rw [hA]; rfl)) (hypA (t + 15) xtq (t + (25 + xdt + 4)) (t + (25 + xdt + 12)) x8.1 (by omega)) (hypB (t + 15) xtq (t + (25 + xdt + 4)) (t + (25 + xdt + 12)) x8.1 (by omega)) (by show t + (25 + xdt + 4) < t + (25 + xdt + 17 + x8.2 + 2); omega) F (fun e v1 v2 v3 v4 s u0 u1 c N' t' g' h2 hle D2 => ?_)
      have y := q' ⟨e, v1, v2, v3, v4, s, u0, u1, c, N', t' - (t + (25 + xdt + 17 + x8.2 + 2)), g'⟩ h2 ((D2.toks (j' := (25 + xdt + 17 + x8.2 + 2) + (t' - (t + (25 + xdt + 17 + x8.2 + 2)))) (t' := t)).cast rfl rfl)
      exact tok_eq hle ▸ y
    | 10, hj =>
      have hj := Option.some.inj hj
      subst hj
      obtain ⟨t1, t2, rfl⟩ := (show (∃ t1 t2, cc = syCall q (3 + 2 * n0.fmod 30) t1 t2) from hh)
      intro A' h' R' lo' _ D' q'
      have F := (D'.anew (st.t + st.j)).cast (V' := cfg w (listObj its 0) h₀ callerA 0 (fun _ _ => True) d os) rfl rfl
      refine codeAny_toks (symbol_run hw G lo' hsy (by decide) F (fun tk N' t' h2 D2 hle => ?_))
      have hle : st.t + st.j ≤ t' := hle
      have y := q' ⟨tk, t' - (st.t + st.j), N'⟩ h2 ((D2.toks (j' := st.j + (t' - (st.t + st.j))) (t' := st.t)).cast rfl rfl)
      exact tok_eq hle ▸ y
  · refine ⟨eqs_want _ _ _, trivial, ⟨rfl, rfl⟩, fun _ => ⟨eqs_want _ _ _, trivial, ⟨rfl, rfl⟩, fun _ => ⟨trivial, trivial, ⟨rfl, rfl⟩, fun _ => ⟨eqs_want _ _ _, trivial, ⟨rfl, rfl⟩, fun _ => ⟨eqs_want _ _ _, trivial, ⟨rfl, rfl⟩, fun _ => ⟨eqs_want _ _ _, ⟨⟨⟨⟨trivial, rfl⟩, by decide, by decide⟩, rfl⟩, by decide, by decide⟩, ⟨rfl, rfl⟩, fun x5 => ⟨eqs_want _ _ _, ⟨trivial, rfl⟩, ⟨_, _, rfl⟩, fun _ => ⟨eqs_want _ _ _, ⟨⟨trivial, by decide, by decide⟩, rfl⟩, ⟨_, _, rfl⟩, fun _ => ⟨eqs_want _ _ _, ⟨trivial, by decide, by decide⟩, ⟨_, rfl⟩, fun x8 => ⟨eqs_want _ _ _, trivial, ⟨rfl, x5, x8, rfl, rfl, rfl⟩, fun x9 => ⟨eqs_want _ _ _, ⟨⟨trivial, rfl⟩, hparity⟩, ⟨_, _, by rw [show x5.1.q = q from x5.2]⟩, fun x10 => ⟨eqs_want _ _ _, ⟨⟨⟨⟨⟨⟨⟨trivial, rfl⟩, rfl⟩, by decide, by decide⟩, by decide, by decide⟩, ?_, ?_⟩, rfl⟩, ?_⟩, fun h' D' => z _ _ _ _ h' D'⟩⟩⟩⟩⟩⟩⟩⟩⟩⟩⟩⟩
    · rw [hfp]; omega
    · rw [hfp]; omega
    · rw [show x5.1.q = q from x5.2]; exact hlast
end
end Mine
end Lz2

section Hd3
open PySem PySem.Calls PySem.W PySem.W.X PyProof.Rows PySem.Challenge
set_option Elab.async false
set_option maxRecDepth 100000
set_option maxHeartbeats 0
namespace Mine
/-- what the law finds behind the top -/
structure Behind (w : World) (s₁ : Shared) : Prop where
  asleep : s₁.asleep
  gens : s₁.gens = #[]
  ns : s₁.heap.isNs mainGlobals = true
  law : s₁.heap.nsMap mainGlobals "law" = some (.ref 774)
  size : s₁.heap.objs.size = 775
  all : AllIn s₁.heap (oldK w.params)
  lim : s₁.heap.NoLimit
  alive : ∀ b, b < 775 → ∃ o, s₁.heap.get? b = some o
theorem oldK_of (P : Params) : (Top.knowf P).filter (fun p => !([4, 30, 31, 32, 97, 98].any (Nat.beq p.1))) = oldK P := by kernel_rfl
theorem behind (w : World) : ∃ s s₀ s₁, AfterRun (opening pw) w s ∧ fenceModules? pw s = some s₀ ∧ s₀.gens = #[] ∧ TopRan pw w s₀ s₁ ∧ Behind w s₁ := by
  have h := Top.top_ran w (w.params.followText "special-get-raises") (w.params.followText "comprehension-iter-twice")
  rw [wf_self] at h
  obtain ⟨s₀, s₁, e1, A0, T, A1⟩ := h
  obtain ⟨s, i1, i2⟩ := fenT_spec e1
  have A := AfterImport.of_importEnds i1
  have z : s₀.asleep := Shared.asleep_of_life (fence_lifeW i2) A.life
  have h := Top.top_heaps A0 A1
  unfold Top.seenH at h
  simp only [Prod.mk.injEq] at h
  obtain ⟨c1, ca, c2, c3, c4, c5, c6⟩ := h
  simp only [Bool.and_eq_true] at c2 c3
  obtain ⟨⟨st, nb⟩, lk⟩ := c2
  obtain ⟨⟨⟨⟨ac, hg⟩, hb⟩, bm⟩, cs⟩ := c3
  obtain ⟨a, l, os, fr⟩ := topRun_spec _ _ _ _ z T
  refine ⟨s, s₀, s₁, A, i2, A0.gens, ?_, ?_⟩
  · refine ⟨a, l, Shared.rest_eq os, fun b o hb hn => fr b o (A0.known.size ▸ Heap.lt_size hb) (fun q => hn (.inl q)) (fun q => hn (.inr (.inl q))) (fun q => hn (.inr (.inr ((Pin.globalOf_eq c1 _).trans (ca.trans q))))) hb,
      Heap.accountedI_of_ok ac, statics_of_ok st, Pin.keysAreStrs_of hg, fun x hx => (Pin.builtinOf_eq hb x).trans (Heap.of_bltView hb c6 x hx), ?_, ?_, names_of_bound nb, laid_of_kept lk⟩
    · obtain ⟨bm, ob, a, _, c, d, f, _⟩ := Heap.bmainOk_spec bm
      exact ⟨bm, ob, (Pin.globalOf_eq hg _).trans a, c, d, f⟩
    · intro g hg'
      rw [A1.gens] at hg'
      simp at hg'
  · refine ⟨Shared.asleep_of_life l z, A1.gens, hg, c5, A1.known.size, allIn_of ?_, ⟨_, .of_isNs cs, c4⟩, A1.known.live⟩
    rw [List.map_map]
    refine List.map_congr_left fun p hp => A1.known.all p ?_
    rw [← oldK_of] at hp
    exact (List.mem_filter.mp hp).1
end Mine
end Hd3

section Fi
open PySem PySem.Calls PySem.W PySem.W.X PyProof.Rows PySem.Challenge
set_option Elab.async false
set_option maxRecDepth 100000
set_option maxHeartbeats 400000
namespace Mine
noncomputable abbrev rW : RowW := rw_nq0197_01.row.toRowW
theorem ints_of {R : WRecords} : ∀ {xs : List WData}, WShape.hasItems R xs .int = true → ∃ ns : List Int, xs = ns.map WData.int
  | [], _ => ⟨[], rfl⟩
  | x :: xs, h => by
    simp only [WShape.hasItems, Bool.and_eq_true] at h
    obtain ⟨ns, rfl⟩ := ints_of h.2
    have h1 := h.1
    cases x <;> simp [WShape.has, WShape.arms] at h1
    exact ⟨_ :: ns, rfl⟩
theorem lay_ints {R : WRecords} {cl : Str → Option Addr} {P : Params} {ord : List DictEntry → List DictEntry} : ∀ (ns : List Int) (s : Shared),
    ∃ vs t, layAllW R cl P ord (ns.map WData.int) s = some (vs, { s with toks := t }) ∧ IntsAre vs ns ∧ vs.length = ns.length
  | [], s => ⟨[], s.toks, rfl, .nil, rfl⟩
  | n :: ns, s => by
    obtain ⟨vs, t, e, i, l⟩ := lay_ints (R := R) (cl := cl) (P := P) (ord := ord) ns { s with toks := s.toks + 1 }
    refine ⟨.int n s.toks :: vs, t, ?_, .cons n _ i, by simp [l]⟩
    simp only [List.map_cons, layAllW, layW, e]
theorem pre_args {args : List WData} (h : rW.claim.pre args = true) : ∃ ns : List Int, args = [.list (ns.map WData.int)] ∧ ns.length ≤ 63 := by
  obtain ⟨h1, h2⟩ := pre_splitW h
  obtain ⟨d, r, rfl, h3, h4⟩ := hasAllW_cons (e := .list .int) (es := []) h1
  obtain rfl : r = [] := by
    cases r with
    | nil => rfl
    | cons a b => simp [WShape.hasAll] at h4
  cases d <;> simp [WShape.has, WShape.arms] at h3
  rename_i xs
  obtain ⟨ns, rfl⟩ := ints_of h3
  refine ⟨ns, rfl, ?_⟩
  by_cases q : ns.length ≤ 63
  · exact q
  · exfalso
    revert h2
    show (WTm.holds [] (OpenLaw.pre rw_nq0197_01) { args := [.list (ns.map WData.int)] }) = true → False
    have e : OpenLaw.pre rw_nq0197_01 = .and (.not (.lt (.lit (.int 63)) (.len (.arg 0)))) (.lit (.bool true)) := rfl
    rw [e]
    have q' : (63 : Int) < ns.length := by omega
    have l : W.less? (.int 63) (.int (ns.length : Int)) = some true := by simp [W.less?, Num.less?, q']
    simp [WTm.holds, WTm.value, l]
theorem lo_caller : Lo callerA 310 := ⟨by decide, by decide, rfl⟩
theorem put775 {h : Heap} {kt : KT} {scr : Obj} (H : KT.Holds h 1 0 kt) (e : h.get? 775 = some scr) : KT.Holds h 1 0 (KT.put 40 kt 775 scr) :=
  @KT.Holds.put h scr 40 kt 1 0 775 H (by rw [Nat.one_mul, Nat.add_zero]; exact e)
/-- a table stands in a heap -/
structure KH (h : Heap) (K : Frag) : Prop where
  holds : KT.Holds h 1 0 (KT.of K)
theorem keepK {h h' : Heap} {K : Frag} (k : ∀ b o, h.get? b = some o → h'.get? b = some o) (A : AllIn h K) : KH h' K := ⟨KT.Holds.keeps k (holds_of A)⟩
theorem ktab_eq (w : World) (scr : Obj) : ktab w scr = KT.put 40 (KT.of (oldK w.params)) 775 scr := by unfold ktab oldT; rfl
theorem grd_of {w : World} {scr : Obj} {h₀ : Heap} {K : Frag} (e : ktab w scr = KT.put 40 (KT.of K) 775 scr) (H : KH h₀ K) (h775 : h₀.get? 775 = some scr)
    (size : h₀.objs.size = 776) (lim : h₀.NoLimit) (al : ∀ b, b < 776 → ∃ o, h₀.get? b = some o) : Grd w scr h₀ := ⟨size, by rw [e]; exact put775 H.holds h775, lim, al⟩
/-- the ground on which the law is called -/
theorem ground {w : World} {s₁ : Shared} (B : Behind w s₁) (vs : List Value) : Grd w (listObj vs.toArray 0) (s₁.heap.push (listObj vs.toArray 0)) := by
  have k : ∀ b o, s₁.heap.get? b = some o → (s₁.heap.push (listObj vs.toArray 0)).get? b = some o := fun b o e => Heap.get?_push_of_some _ e
  have h775 : (s₁.heap.push (listObj vs.toArray 0)).get? 775 = some (listObj vs.toArray 0) := by
    refine Heap.get?_some_iff.mpr ⟨?_, rfl⟩
    show (s₁.heap.objs.push (listObj vs.toArray 0))[775]? = _
    rw [Array.getElem?_push, B.size, if_pos rfl]
  have H := keepK k B.all
  refine grd_of (ktab_eq w _) H h775 ?_ (B.lim.push _) (fun b hb => ?_)
  · show (s₁.heap.objs.push _).size = 776
    rw [Array.size_push, B.size]
  · by_cases q : b < 775
    · obtain ⟨o, ho⟩ := B.alive b q
      exact ⟨o, k b o ho⟩
    · obtain rfl : b = 775 := Nat.le_antisymm (Nat.le_of_lt_succ hb) (Nat.le_of_not_lt q)
      exact ⟨_, h775⟩
end Mine
end Fi

section Fj
open PySem PySem.Calls PySem.W PySem.W.X PyProof.Rows PySem.Challenge
set_option Elab.async false
set_option maxRecDepth 100000
set_option maxHeartbeats 400000
namespace Mine
theorem law_def : pw.theDef "law" = some ((defIn pw.main.body 29).1, (defIn pw.main.body 29).2.1, (defIn pw.main.body 29).2.2) := by kernel_rfl
theorem allIn_mem {h : Heap} : ∀ {K : Frag} {p : Addr × Obj}, AllIn h K → p ∈ K → h.get? p.1 = some p.2
  | [], _, _, m => nomatch m
  | q :: K, p, A, m => by
    rcases List.mem_cons.mp m with rfl | m
    · exact A.1
    · exact allIn_mem A.2 m
theorem o774_at {w : World} {s₁ : Shared} (B : Behind w s₁) : s₁.heap.get? 774 = some (o774 w.params) :=
  allIn_mem (p := (774, o774 w.params)) B.all (List.mem_of_getElem? (i := 55) rfl)
theorem law_name : (⟨#[108, 97, 119]⟩ : Str) = "law" := by kernel_rfl
theorem law_dflt : (defIn pw.main.body 29).1.defaults = [] := by kernel_rfl
theorem law_kw : kwWritten? (defIn pw.main.body 29).1.kwonlyargs (defIn pw.main.body 29).1.kw_defaults = some [] := by kernel_rfl
theorem law_is {w : World} {s₁ : Shared} (B : Behind w s₁) : isTheDefsW pw s₁.heap "law" := by
  refine ⟨774, _, _, _, _, _, (Pin.globalOf_eq B.ns _).trans B.law, o774_at B, rfl, law_def, law_name, law_name, rfl, rfl, rfl, rfl, rfl, rfl, .inl ⟨law_dflt, rfl⟩, [], law_kw, .inl ⟨rfl, rfl⟩⟩
theorem law_post (args : List WData) : rW.claim.post args (.bool true) args = true := by kernel_rfl
theorem law_good {w : World} {s₁ : Shared} (B : Behind w s₁) {ns : List Int} (hn : ns.length ≤ 63) {cl : Str → Option Addr} {mean : ExcName → Option Value} {args : List WData} {vs : List Value} (hi : IntsAre vs ns) (hl : vs.length = ns.length) {t : Nat} :
    wpAny (model pw w) callerA (PySem.call (.ref 774) [.ref 775]) (fun v s' => GoodWG rW.claim cl mean args { s₁ with heap := s₁.heap.push (listObj vs.toArray 0), toks := t } (.ok (.ret v)) s')
      (fun e s' => GoodWG rW.claim cl mean args { s₁ with heap := s₁.heap.push (listObj vs.toArray 0), toks := t } (.error e) s') { s₁ with heap := s₁.heap.push (listObj vs.toArray 0), toks := t } := by
  have G := ground B vs
  obtain ⟨heap, gens, drawn, toks, os⟩ := s₁
  obtain rfl : gens = #[] := B.gens
  refine wpAny_call (law_run (wf_self w).symm G lo_caller rfl hi (by rw [List.size_toArray, hl]; omega) (N := 776) ?_ fun B' N' t' g' h' D => ?_)
  · refine ⟨G.size, rfl, fun p hp => (nomatch hp), List.nodup_nil, fun p hp => (nomatch hp), fun p hp => (nomatch hp), Nat.le_refl _, fun k o hk => absurd hk (Nat.not_lt_zero _), fun b o e => e, AllBare.empty⟩
  · exact ⟨.inl ⟨_, _, [], rfl, fun _ => rfl, ReadsW.bool true, law_post _, fun _ => ⟨List.nodup_nil, fun _ hm => (nomatch hm)⟩⟩, .of_keep D.keep, rfl, D.bare⟩
end Mine
end Fj

section Fk
open PySem PySem.Calls PySem.W PySem.W.X PyProof.Rows PySem.Challenge
set_option Elab.async false
set_option maxRecDepth 100000
set_option maxHeartbeats 400000
namespace Mine
theorem pw_bare : pw.bare := ⟨rfl, rfl, rfl, rfl, rfl, by kernel_rfl⟩
theorem pw_opens : opensWell pw = true := by kernel_rfl
theorem law_promised : rW.promised := by
  refine ⟨[.list []], ?_, ?_⟩ <;> decide +kernel
theorem law_ident (a b : List Whence) : rW.claim.ident a b = true := ident_freeW rfl rfl rfl a b
theorem law_open : rW.claim.HoldsOpenBy (callStub "law") ["law"] rw_nq0197_01.row.keeps false := by
  refine ⟨⟨pw_bare, pw_opens, rfl⟩, law_promised.witness, fun w => ?_⟩
  obtain ⟨s, s₀, s₁, A, hf, hg0, hT, B⟩ := behind w
  refine ⟨⟨s, A⟩, fun s' hs' => ?_⟩
  obtain rfl : s' = s := AfterImport.unique hs' A
  refine ⟨s₀, hf, hg0, s₁, hT, fun n hn => ?_, fun x hx => (nomatch hx), fun x hx => (nomatch hx), ?_⟩
  · obtain rfl := List.mem_singleton.mp hn
    exact law_is B
  · refine ClaimW.callFrom_of_specG (c := rW.claim) (tree := fun vs => do match ← nsGet mainNs "law" with
      | some f => do ret (← PySem.call f vs)
      | none => unsupported "claim.caller:no-such-global") B.asleep B.gens fun args hpre hlay ord hord => ?_
    obtain ⟨ns, rfl, hn⟩ := pre_args hpre
    obtain ⟨vs, t, e, hi, hl⟩ := lay_ints (R := ([] : WRecords)) (cl := classAt s₁.heap) (P := w.params) (ord := ord) ns s₁
    have hlaid : layAllW rW.claim.records (classAt s₁.heap) w.params ord [.list (ns.map WData.int)] s₁ = some ([.ref 775], { s₁ with heap := s₁.heap.push (listObj vs.toArray 0), toks := t }) := by
      show layAllW [] (classAt s₁.heap) w.params ord [.list (ns.map WData.int)] s₁ = _
      simp only [layAllW, layW, e]
      rw [B.size]
      rfl
    have keeps := layAllW_keeps _ _ _ hlaid
    have hal := layAllW_rest _ _ _ hlaid
    obtain ⟨as, hrd, hin, hold⟩ := reads_layAllW hord _ _ _ hlaid hlay { s₁ with heap := s₁.heap.push (listObj vs.toArray 0), toks := t }.heap (fun _ _ e => e)
    have L : Laid rW.claim.records w s₁ { s₁ with heap := s₁.heap.push (listObj vs.toArray 0), toks := t } [.list (ns.map WData.int)] [.ref 775] as := ⟨⟨ord, hord, hlaid⟩, hrd, hin, hold, keeps, hal.1.trans B.gens, hal.2.2.1⟩
    refine ⟨[.ref 775], _, hlaid, ?_⟩
    have Hn : s₁.heap.Ns mainGlobals (s₁.heap.nsMap mainGlobals) := .of_isNs B.ns
    have Hn' := Hn.push (listObj vs.toArray 0)
    refine wpAny_bind (wpAny_nsGet (s := { s₁ with heap := s₁.heap.push (listObj vs.toArray 0), toks := t }) Hn' ?_)
    rw [B.law]
    refine wpAny_bind (wpAny_mono (law_good (cl := classAt s₁.heap) (mean := ExcName.means s₁.heap) (args := [.list (ns.map WData.int)]) B hn hi hl) (fun v s' g => wpAny_pure ⟨_, rfl, ?_⟩) fun e s' g => ?_)
    · have z := g.laid (c := rW.claim) rfl rfl law_ident L
      exact ⟨z.1, z.2.1, z.2.2, fun q => (nomatch q)⟩
    · have z := g.laid (c := rW.claim) rfl rfl law_ident L
      exact ⟨z.1, z.2.1, z.2.2, fun q => (nomatch q)⟩
theorem look_strict : (!(importedModules pw.main.body).all cThrough.contains) = false := by kernel_rfl
theorem look_vars : readsOut pw pw.main.body "vars" = false := by
  rw [PySem.W.Fast.te13343964577679436407]; kernel_rfl
theorem look_dir : readsOut pw pw.main.body "dir" = false := by
  rw [PySem.W.Fast.te13343964577679436407]; kernel_rfl
theorem look_locals : readsOut pw pw.main.body "locals" = false := by
  rw [PySem.W.Fast.te13343964577679436407]; kernel_rfl
theorem look_bare : (["vars", "dir", "locals"] : List PySem.Str).filter (readsOut pw pw.main.body) = [] := by
  rw [List.filter_cons, look_vars, List.filter_cons, look_dir, List.filter_cons, look_locals]; rfl
theorem look_road : noRoadLSs { strict := false, foot := none, bare := [] } pw.main.body = true := by
  rw [PySem.W.Fast.te8326940854005059898]; kernel_rfl
theorem look_resolve : namesResolve pw = true := by
  rw [PySem.W.Fast.te8377067652309620493]; kernel_rfl
theorem look_meet : namesMeet pw pw.main.body (fun _ n => attrL n) = true := by
  rw [PySem.W.Fast.te17119622794617984870]; kernel_rfl
theorem look_open : looksOpen pw = true := by
  unfold looksOpen
  rw [look_strict, look_bare, look_road, look_resolve, look_meet]
  kernel_rfl
theorem said_part : PySem.W.Fast.tw2436336058641802641 (PySem.W.Fast.tw2368527892694137696 rw_nq0197_01) = true := by
  unfold PySem.W.Fast.tw2436336058641802641
  repeat (with_reducible refine look_both ?_ ?_)
  · exact (congrFun PySem.W.Fast.te12908688711261696721 pw).symm.trans look_open
  all_goals kernel_rfl
theorem said_row : PySem.W.Fast.tw17960256430627541270 (PySem.W.Fast.tw2368527892694137696 rw_nq0197_01) = true := by
  unfold PySem.W.Fast.tw17960256430627541270
  repeat (with_reducible refine look_both ?_ ?_)
  · exact said_part
  all_goals kernel_rfl
theorem law_said : rw_nq0197_01.wellSaid = true := by
  rw [PySem.W.Fast.te9446332074065402090]
  unfold PySem.W.Fast.tw9446332074065402090
  repeat (with_reducible refine look_both ?_ ?_)
  · exact said_row
  all_goals kernel_rfl
theorem law_holds : rw_nq0197_01.Holds := holds_law law_said fun said => ⟨said, law_promised, law_open⟩
end Mine
end Fk

theorem PySem.Challenge.cw_nq0197_01_holds : PySem.Challenge.rw_nq0197_01.Holds :=
  Mine.law_holds
