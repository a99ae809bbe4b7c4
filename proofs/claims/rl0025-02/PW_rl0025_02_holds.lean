import PyProof.Rows.All
import Wide.All
import OpenK.AllK
import Wide.FinOn
import PySem.Challenge.RW_rl0025_02
section
open PySem PyProof.Rows
set_option Elab.async false
namespace Mine

/-- plain values -/
inductive PV where
  | none
  | bool (b : Bool)
  | int (i : Int)
  | str (x : Str)
  | list (xs : List PV)
  | tup (xs : List PV)

noncomputable def PV.scalar : PV → Bool
  | .list _ => false
  | .tup _ => false
  | _ => true

noncomputable abbrev AS := Addr → Prop

mutual
/-- the value bears the plain value in the heap, and no object of it lies in U -/
noncomputable def Rep (U : AS) (h : Heap) : PV → Value → Prop
  | .none, v => v = .none
  | .bool b, v => v = .bool b
  | .int i, v => ∃ t, v = .int i t
  | .str x, v => (∃ t, v = .str x t) ∧ x.length ≤ 1048576
  | .list ps, v => ∃ a vs, v = .ref a ∧ ¬ U a ∧ h.IsList a (List.toArray vs) ∧ RepL U h ps vs ∧ ps.length ≤ 1048576
  | .tup ps, v => ∃ a vs, v = .ref a ∧ ¬ U a ∧ IsTup h a (List.toArray vs) ∧ RepL U h ps vs
noncomputable def RepL (U : AS) (h : Heap) : List PV → List Value → Prop
  | [], vs => vs = []
  | p :: ps, vs => ∃ v vs', vs = v :: vs' ∧ Rep U h p v ∧ RepL U h ps vs'
end

noncomputable def isSeq (o : Obj) : Prop := ∃ xs n, o.data = .seq xs n

mutual
theorem Rep.move {U U' : AS} {h h' : Heap} (hk : ∀ b o, ¬ U b → isSeq o → h.get? b = some o → h'.get? b = some o) (hu : ∀ b, U' b → U b ∨ h.get? b = .none) :
    ∀ (p : PV) (v : Value), Rep U h p v → Rep U' h' p v
  | .none, _, r => r
  | .bool _, _, r => r
  | .int _, _, r => r
  | .str _, _, r => r
  | .list ps, v, r => by
    simp only [Rep] at r ⊢
    obtain ⟨a, vs, rfl, hna, ⟨o, ho, hc, n, hd⟩, hr, hz⟩ := r
    refine ⟨a, vs, rfl, fun h1 => ?_, ⟨o, hk a o hna ⟨_, _, hd⟩ ho, hc, n, hd⟩, RepL.move hk hu ps vs hr, hz⟩
    rcases hu a h1 with h2 | h2
    · exact hna h2
    · rw [ho] at h2; cases h2
  | .tup ps, v, r => by
    simp only [Rep] at r ⊢
    obtain ⟨a, vs, rfl, hna, ⟨o, ho, hc, n, hd⟩, hr⟩ := r
    refine ⟨a, vs, rfl, fun h1 => ?_, ⟨o, hk a o hna ⟨_, _, hd⟩ ho, hc, n, hd⟩, RepL.move hk hu ps vs hr⟩
    rcases hu a h1 with h2 | h2
    · exact hna h2
    · rw [ho] at h2; cases h2
theorem RepL.move {U U' : AS} {h h' : Heap} (hk : ∀ b o, ¬ U b → isSeq o → h.get? b = some o → h'.get? b = some o) (hu : ∀ b, U' b → U b ∨ h.get? b = .none) :
    ∀ (ps : List PV) (vs : List Value), RepL U h ps vs → RepL U' h' ps vs
  | [], _, r => r
  | p :: ps, vs, r => by
    simp only [RepL] at r ⊢
    obtain ⟨v, vs', rfl, r1, r2⟩ := r
    exact ⟨v, vs', rfl, Rep.move hk hu p v r1, RepL.move hk hu ps vs' r2⟩
end

theorem Rep.of_scalar {U U' : AS} {h h' : Heap} {p : PV} {v : Value} (hs : p.scalar = true) (r : Rep U h p v) : Rep U' h' p v := by
  cases p <;> first | exact r | cases hs

theorem RepL.of_scalar {U U' : AS} {h h' : Heap} : ∀ {ps : List PV} {vs : List Value}, (∀ p ∈ ps, p.scalar = true) → RepL U h ps vs → RepL U' h' ps vs
  | [], _, _, r => r
  | p :: ps, vs, hs, r => by
    simp only [RepL] at r ⊢
    obtain ⟨v, vs', rfl, r1, r2⟩ := r
    exact ⟨v, vs', rfl, r1.of_scalar (hs p (by simp)), RepL.of_scalar (fun q hq => hs q (by simp [hq])) r2⟩

theorem RepL.length {U : AS} {h : Heap} : ∀ {ps : List PV} {vs : List Value}, RepL U h ps vs → vs.length = ps.length
  | [], _, r => by simp only [RepL] at r; subst r; rfl
  | p :: ps, vs, r => by
    simp only [RepL] at r
    obtain ⟨v, vs', rfl, _, r2⟩ := r
    simp [r2.length]

theorem RepL.get {U : AS} {h : Heap} : ∀ {ps : List PV} {vs : List Value}, RepL U h ps vs → ∀ (i : Nat) (p : PV), ps[i]? = some p → ∃ v, vs[i]? = some v ∧ Rep U h p v
  | [], _, _, i, p, e => by simp at e
  | q :: ps, vs, r, i, p, e => by
    simp only [RepL] at r
    obtain ⟨v, vs', rfl, r1, r2⟩ := r
    cases i with
    | zero => simp at e; subst e; exact ⟨v, rfl, r1⟩
    | succ i => simpa using r2.get i p (by simpa using e)

theorem RepL.append {U : AS} {h : Heap} : ∀ {ps qs : List PV} {vs ws : List Value}, RepL U h ps vs → RepL U h qs ws → RepL U h (ps ++ qs) (vs ++ ws)
  | [], _, _, _, r, r' => by simp only [RepL] at r; subst r; simpa using r'
  | p :: ps, qs, vs, ws, r, r' => by
    simp only [RepL] at r
    obtain ⟨v, vs', rfl, r1, r2⟩ := r
    simp only [List.cons_append, RepL]
    exact ⟨v, vs' ++ ws, rfl, r1, r2.append r'⟩

theorem RepL.set {U : AS} {h : Heap} {p : PV} {v : Value} (hp : Rep U h p v) : ∀ {ps : List PV} {vs : List Value} (i : Nat), RepL U h ps vs → RepL U h (ps.set i p) (vs.set i v)
  | [], _, i, r => by simp only [RepL] at r; subst r; simp [RepL]
  | q :: ps, vs, i, r => by
    simp only [RepL] at r
    obtain ⟨w, vs', rfl, r1, r2⟩ := r
    cases i with
    | zero => simp only [List.set_cons_zero, RepL]; exact ⟨v, vs', rfl, hp, r2⟩
    | succ i => simp only [List.set_cons_succ, RepL]; exact ⟨w, _, rfl, r1, RepL.set hp i r2⟩

theorem RepL.nil {U : AS} {h : Heap} : RepL U h [] [] := by simp [RepL]
theorem RepL.cons {U : AS} {h : Heap} {p : PV} {v : Value} {ps : List PV} {vs : List Value} (a : Rep U h p v) (b : RepL U h ps vs) : RepL U h (p :: ps) (v :: vs) := by
  simp only [RepL]; exact ⟨v, vs, rfl, a, b⟩

/-- what a name holds, or an expression gives: nothing, a plain value that stands still, a list of the frame's own, a new list -/
inductive Slot where
  | un
  | fz (p : PV)
  | ow (pl : Bool) (xs : List PV)
  | fr (pl : Bool) (xs : List PV)

noncomputable def Slot.pv : Slot → PV
  | .un => .none
  | .fz p => p
  | .ow _ xs => .list xs
  | .fr _ xs => .list xs

/-- a list on the heap; by the flag, one that is nothing but a list -/
noncomputable def LstB (h : Heap) (a : Addr) (pl : Bool) (vs : List Value) : Prop := h.IsList a (List.toArray vs) ∧ (pl = true → h.PlainList a (List.toArray vs))

noncomputable abbrev None' : AS := fun _ => False

noncomputable def ResOk (U : AS) (h0 h : Heap) : Slot → Value → Prop
  | .un, _ => False
  | .fz p, v => Rep U h p v
  | .ow pl xs, v => ∃ a vs, v = .ref a ∧ U a ∧ LstB h a pl vs ∧ RepL U h xs vs ∧ xs.length ≤ 1048576
  | .fr pl xs, v => ∃ a vs, v = .ref a ∧ h0.get? a = .none ∧ LstB h a pl vs ∧ RepL (fun b => U b ∨ b = a) h xs vs ∧ xs.length ≤ 1048576

noncomputable def Keep (h h' : Heap) : Prop := ∀ b o, h.get? b = some o → h'.get? b = some o
theorem LstB.keep {h h' : Heap} (hk : Keep h h') {a : Addr} {pl : Bool} {vs : List Value} (x : LstB h a pl vs) : LstB h' a pl vs := ⟨x.1.at fun o e => hk a o e, fun e => (x.2 e).at fun o e => hk a o e⟩
theorem Keep.refl (h : Heap) : Keep h h := fun _ _ e => e
theorem Keep.trans {a b c : Heap} (x : Keep a b) (y : Keep b c) : Keep a c := fun d o e => y d o (x d o e)
theorem Keep.push (h : Heap) (o : Obj) : Keep h (h.push o) := fun _ _ e => Heap.get?_push_of_some _ e
theorem Keep.none {h h' : Heap} (x : Keep h h') {a : Addr} (e : h'.get? a = .none) : h.get? a = .none := by
  cases hq : h.get? a with
  | none => rfl
  | some o => rw [x a o hq] at e; cases e

theorem Rep.keep {U : AS} {h h' : Heap} (hk : Keep h h') {p : PV} {v : Value} (r : Rep U h p v) : Rep U h' p v :=
  Rep.move (fun b o _ _ e => hk b o e) (fun _ x => .inl x) p v r
theorem RepL.keep {U : AS} {h h' : Heap} (hk : Keep h h') {p : List PV} {v : List Value} (r : RepL U h p v) : RepL U h' p v :=
  RepL.move (fun b o _ _ e => hk b o e) (fun _ x => .inl x) p v r
theorem Rep.weak {U U' : AS} {h : Heap} (hu : ∀ b, U' b → U b) {p : PV} {v : Value} (r : Rep U h p v) : Rep U' h p v :=
  Rep.move (fun _ _ _ _ e => e) (fun b x => .inl (hu b x)) p v r
theorem RepL.weak {U U' : AS} {h : Heap} (hu : ∀ b, U' b → U b) {p : List PV} {v : List Value} (r : RepL U h p v) : RepL U' h p v :=
  RepL.move (fun _ _ _ _ e => e) (fun b x => .inl (hu b x)) p v r

theorem ResOk.keep {U : AS} {h0 h h' : Heap} (hk : Keep h h') {r : Slot} {v : Value} (x : ResOk U h0 h r v) : ResOk U h0 h' r v := by
  cases r with
  | un => exact x
  | fz p => exact Rep.keep hk x
  | ow pl xs => obtain ⟨a, vs, e, hu, hl, hr, hz⟩ := x; exact ⟨a, vs, e, hu, hl.keep hk, hr.keep hk, hz⟩
  | fr pl xs => obtain ⟨a, vs, e, hn, hl, hr, hz⟩ := x; exact ⟨a, vs, e, hn, hl.keep hk, hr.keep hk, hz⟩

theorem ResOk.back {U : AS} {h0 h1 h : Heap} (hk : Keep h0 h1) {r : Slot} {v : Value} (x : ResOk U h1 h r v) : ResOk U h0 h r v := by
  cases r with
  | un => exact x
  | fz p => exact x
  | ow pl xs => exact x
  | fr pl xs => obtain ⟨a, vs, e, hn, r⟩ := x; exact ⟨a, vs, e, hk.none hn, r⟩

/-- any result, as a plain value, no matter where it lies -/
theorem ResOk.rep0 {U : AS} {h0 h : Heap} {r : Slot} {v : Value} (x : ResOk U h0 h r v) : Rep None' h r.pv v := by
  cases r with
  | un => exact x.elim
  | fz p => exact Rep.weak (fun _ h => h.elim) x
  | ow pl xs => obtain ⟨a, vs, e, _, hl, hr, hz⟩ := x; simp only [Slot.pv, Rep]; exact ⟨a, vs, e, fun h => h, hl.1, hr.weak fun _ h => h.elim, hz⟩
  | fr pl xs => obtain ⟨a, vs, e, _, hl, hr, hz⟩ := x; simp only [Slot.pv, Rep]; exact ⟨a, vs, e, fun h => h, hl.1, hr.weak fun _ h => h.elim, hz⟩

/-- a result that lies nowhere in U -/
noncomputable def Slot.still : Slot → Option PV
  | .fz p => some p
  | .fr _ xs => some (.list xs)
  | _ => .none

theorem ResOk.still {U : AS} {h0 h : Heap} {r : Slot} {v : Value} {p : PV} (x : ResOk U h0 h r v) (hs : r.still = some p) (hU : ∀ a, U a → h0.get? a ≠ .none) : Rep U h p v := by
  cases r with
  | un => cases hs
  | fz q => cases hs; exact x
  | ow pl xs => cases hs
  | fr pl xs =>
    cases hs
    obtain ⟨a, vs, e, hn, hl, hr, hz⟩ := x
    simp only [Rep]
    exact ⟨a, vs, e, fun hu => hU a hu hn, hl.1, hr.weak fun _ h => .inl h, hz⟩

/-! frames -/
noncomputable def FA (env : Env) (b : Addr) : Prop := b = env.locals ∨ ∃ n, env.cells.lookup n = some b

structure FrameB (env : Env) (h : Heap) : Prop where
  kind : env.scope.kind = .function
  ns : ∃ m, h.Ns env.locals m
  cells : ∀ n c, env.cells.lookup n = some c → ∃ v, h.IsCell c v
  apart : ∀ n n' c, env.cells.lookup n = some c → env.cells.lookup n' = some c → n = n'

noncomputable def HoldsV (env : Env) (h : Heap) (x : Str) (v : Value) : Prop :=
  (env.kindOf x = some .local ∧ ∃ m, h.Ns env.locals m ∧ m x = some v) ∨ (env.kindOf x = some .cell ∧ ∃ c, env.cells.lookup x = some c ∧ h.IsCell c (some v))

noncomputable def SlotOk (env : Env) (U : AS) (h : Heap) (x : Str) : Slot → Option Addr → Prop
  | .un, .none => True
  | .fz p, .none => ∃ v, HoldsV env h x v ∧ Rep U h p v
  | .ow pl xs, some a => HoldsV env h x (.ref a) ∧ xs.length ≤ 1048576 ∧ ∃ vs, LstB h a pl vs ∧ RepL U h xs vs
  | _, _ => False

structure Ctx where
  names : List Str
  kf : Str → Option NameKind
  u0 : Bool
  dep : Nat

structure GP where
  prog : Program
  w : World
  p : Program
  loose : List Str
  mean : ExcName → Option Value
  mg : Str → Option Value
  mb : Str → Option Value

structure FR (G : GP) (C : Ctx) (env : Env) (U : AS) (h₀ h : Heap) (σ : List Slot) (as : List (Option Addr)) : Prop where
  kf : ∀ x, env.kindOf x = C.kf x
  gl : env.globals = mainGlobals
  bl : env.builtins = builtinsNs
  fb : FrameB env h
  top : Top G.p G.loose G.mean G.mg G.mb h₀
  keep : Keep h₀ h
  fresh : ∀ b, FA env b → h₀.get? b = .none
  own : ∀ a, some a ∈ as → U a ∧ h₀.get? a = .none
  dom : ∀ a, U a → h.get? a ≠ .none
  u0 : C.u0 = true → ∀ a, ¬ U a
  cl : ∀ x, C.kf x = some .cell → ∃ c, env.cells.lookup x = some c
  nm : C.names.Nodup
  ls : σ.length = C.names.length
  la : as.length = C.names.length
  slot : ∀ (k : Nat) (x : Str) (sl : Slot) (oa : Option Addr), C.names[k]? = some x → σ[k]? = some sl → as[k]? = some oa → SlotOk env U h x sl oa
  nd : ∀ (i j : Nat) (a : Addr), as[i]? = some (some a) → as[j]? = some (some a) → i = j

theorem HoldsV.keep {env : Env} {h h' : Heap} (hk : Keep h h') {x : Str} {v : Value} (r : HoldsV env h x v) : HoldsV env h' x v := by
  rcases r with ⟨a, m, hn, hm⟩ | ⟨a, c, hc, hv⟩
  · exact .inl ⟨a, m, hn.keeps hk, hm⟩
  · exact .inr ⟨a, c, hc, hv.keeps hk⟩

theorem FrameB.keep {env : Env} {h h' : Heap} (hk : Keep h h') (x : FrameB env h) : FrameB env h' :=
  ⟨x.kind, let ⟨m, hm⟩ := x.ns; ⟨m, hm.keeps hk⟩, fun n c e => let ⟨v, hv⟩ := x.cells n c e; ⟨v, hv.keeps hk⟩, x.apart⟩

/-- the frame when the heap has grown, and more objects are to be kept away from -/
theorem FR.grow {G : GP} {C : Ctx} {env : Env} {U U' : AS} {h₀ h h' : Heap} {σ : List Slot} {as : List (Option Addr)} (x : FR G C env U h₀ h σ as) (hk : Keep h h')
    (hu : ∀ b, U' b → U b ∨ h.get? b = .none) (hu' : ∀ b, U b → U' b) (hd : ∀ a, U' a → h'.get? a ≠ .none) (h0 : C.u0 = true → ∀ a, ¬ U' a) : FR G C env U' h₀ h' σ as where
  kf := x.kf
  gl := x.gl
  bl := x.bl
  fb := x.fb.keep hk
  top := x.top
  keep := x.keep.trans hk
  fresh := x.fresh
  own := fun a ha => ⟨hu' a (x.own a ha).1, (x.own a ha).2⟩
  dom := hd
  u0 := h0
  cl := x.cl
  nm := x.nm
  ls := x.ls
  la := x.la
  slot := fun k n sl oa h1 h2 h3 => by
    have := x.slot k n sl oa h1 h2 h3
    cases sl <;> cases oa <;> first | exact this | skip
    · obtain ⟨v, hv, hr⟩ := this; exact ⟨v, hv.keep hk, Rep.move (fun b o _ _ e => hk b o e) hu _ _ hr⟩
    · obtain ⟨hv, hz, vs, hl, hr⟩ := this; exact ⟨hv.keep hk, hz, vs, hl.keep hk, RepL.move (fun b o _ _ e => hk b o e) hu _ _ hr⟩
  nd := x.nd

theorem FR.ext {G : GP} {C : Ctx} {env : Env} {U : AS} {h₀ h h' : Heap} {σ : List Slot} {as : List (Option Addr)} (x : FR G C env U h₀ h σ as) (hk : Keep h h') : FR G C env U h₀ h' σ as :=
  x.grow hk (fun _ e => .inl e) (fun _ e => e) (fun a ha => by
    have := x.dom a ha
    intro e; exact this (hk.none e)) x.u0

noncomputable def memAs (as : List (Option Addr)) : AS := fun a => some a ∈ as

noncomputable def Own (env : Env) (as : List (Option Addr)) (b : Addr) : Prop := FA env b ∨ some b ∈ as

structure Step (env : Env) (as : List (Option Addr)) (h h' : Heap) (as' : List (Option Addr)) : Prop where
  keep : ∀ b o, ¬ Own env as b → h.get? b = some o → h'.get? b = some o
  new : ∀ a, some a ∈ as' → some a ∈ as ∨ h.get? a = .none
  dom : ∀ b, h'.get? b = .none → h.get? b = .none

theorem Step.refl (env : Env) (as : List (Option Addr)) (h : Heap) : Step env as h h as := ⟨fun _ _ _ e => e, fun _ e => .inl e, fun _ e => e⟩
theorem Step.of_keep {env : Env} {as : List (Option Addr)} {h h' : Heap} (hk : Keep h h') : Step env as h h' as := ⟨fun b o _ e => hk b o e, fun _ e => .inl e, fun _ e => hk.none e⟩
theorem Step.trans {env : Env} {as as' as'' : List (Option Addr)} {h h' h'' : Heap} (x : Step env as h h' as') (y : Step env as' h' h'' as'') : Step env as h h'' as'' :=
  ⟨fun b o hb e => y.keep b o (fun ho => by
      rcases ho with ho | ho
      · exact hb (.inl ho)
      · rcases x.new b ho with h1 | h1
        · exact hb (.inr h1)
        · rw [e] at h1; cases h1) (x.keep b o hb e),
    fun a ha => by
      rcases y.new a ha with h1 | h1
      · exact x.new a h1
      · exact .inr (x.dom a h1),
    fun b e => x.dom b (y.dom b e)⟩

inductive Fl where
  | next
  | brk
  | ret (p : PV)

noncomputable def RetOk (h₀ h : Heap) : PV → Value → Prop
  | .list xs, v => ∃ a vs, v = .ref a ∧ h₀.get? a = .none ∧ h.IsList a (List.toArray vs) ∧ RepL (fun b => b = a) h xs vs ∧ xs.length ≤ 1048576
  | .tup _, _ => False
  | p, v => Rep None' h p v

noncomputable def FlowOk (h₀ h : Heap) : Fl → Flow → Prop
  | .next, f => f = .next
  | .brk, f => f = .brk
  | .ret p, f => ∃ v, f = .ret v ∧ RetOk h₀ h p v

structure AOk (C : Ctx) (A : Around) : Prop where
  hh : A.handled = .none
  dp : A.depth + C.dep < recursionLimit
  un : A.units + 16 * C.dep + 64 < cLine

noncomputable abbrev NoE : Value → Shared → Prop := fun _ _ => False

noncomputable def SndE (G : GP) (C : Ctx) (e : Expr) (f : List Slot → Option Slot) : Prop :=
  ∀ (A : Around) (env : Env) (U : AS) (h₀ : Heap) (s : Shared) (σ : List Slot) (as : List (Option Addr)) (r : Slot) (Q : Value → Shared → Prop),
    AOk C A → FR G C env U h₀ s.heap σ as → f σ = some r →
    (∀ v h' tk, Keep s.heap h' → ResOk U s.heap h' r v → Q v { s with heap := h', toks := tk }) → wpAny (model G.prog G.w) A (eval e env) Q NoE s

noncomputable def SndT (G : GP) (C : Ctx) (e : Expr) (f : List Slot → Option Bool) : Prop :=
  ∀ (A : Around) (env : Env) (U : AS) (h₀ : Heap) (s : Shared) (σ : List Slot) (as : List (Option Addr)) (r : Bool) (Q : Bool → Shared → Prop),
    AOk C A → FR G C env U h₀ s.heap σ as → f σ = some r →
    (∀ h' tk, Keep s.heap h' → Q r { s with heap := h', toks := tk }) → wpAny (model G.prog G.w) A (isTrue e env (eval e env)) Q NoE s

noncomputable abbrev XS := List Slot → Option (Fl × List Slot)

noncomputable def SndS (G : GP) (C : Ctx) (st : Stmt) (g : XS) : Prop :=
  ∀ (A : Around) (env : Env) (h₀ : Heap) (s : Shared) (σ : List Slot) (as : List (Option Addr)) (fl : Fl) (σ' : List Slot) (Q : Flow → Shared → Prop),
    AOk C A → FR G C env (memAs as) h₀ s.heap σ as → g σ = some (fl, σ') →
    (∀ f h' tk as', Step env as s.heap h' as' → FR G C env (memAs as') h₀ h' σ' as' → FlowOk h₀ h' fl f → Q f { s with heap := h', toks := tk }) →
      wpAny (model G.prog G.w) A (exec st env) Q NoE s

noncomputable def SndSs (G : GP) (C : Ctx) (sts : List Stmt) (g : XS) : Prop :=
  ∀ (A : Around) (env : Env) (h₀ : Heap) (s : Shared) (σ : List Slot) (as : List (Option Addr)) (fl : Fl) (σ' : List Slot) (Q : Flow → Shared → Prop),
    AOk C A → FR G C env (memAs as) h₀ s.heap σ as → g σ = some (fl, σ') →
    (∀ f h' tk as', Step env as s.heap h' as' → FR G C env (memAs as') h₀ h' σ' as' → FlowOk h₀ h' fl f → Q f { s with heap := h', toks := tk }) →
      wpAny (model G.prog G.w) A (execs sts env) Q NoE s

end Mine
end

section
open PySem PyProof.Rows
set_option Elab.async false
namespace Mine

theorem Ns_ne_cell {h : Heap} {a c : Addr} {m : Str → Option Value} {v : Option Value} (x : h.Ns a m) (y : h.IsCell c v) : a ≠ c := by
  rintro rfl
  obtain ⟨o, es, ep, ho, hd, _⟩ := x
  obtain ⟨o', ho', hd'⟩ := y
  rw [ho] at ho'; cases ho'
  rw [hd] at hd'; cases hd'
theorem Ns_ne_seq {h : Heap} {a : Addr} {m : Str → Option Value} {o : Obj} (x : h.Ns a m) (ho : h.get? a = some o) : ¬ isSeq o := by
  rintro ⟨xs, n, hd⟩
  obtain ⟨o', es, ep, ho', hd', _⟩ := x
  rw [ho] at ho'; cases ho'
  rw [hd] at hd'; cases hd'
theorem Cell_ne_seq {h : Heap} {a : Addr} {v : Option Value} {o : Obj} (x : h.IsCell a v) (ho : h.get? a = some o) : ¬ isSeq o := by
  rintro ⟨xs, n, hd⟩
  obtain ⟨o', ho', hd'⟩ := x
  rw [ho] at ho'; cases ho'
  rw [hd] at hd'; cases hd'

/-- a frame's own object is none of the lists -/
theorem FrameB.notSeq {env : Env} {h : Heap} (x : FrameB env h) {b : Addr} (hb : FA env b) {o : Obj} (ho : h.get? b = some o) : ¬ isSeq o := by
  rcases hb with rfl | ⟨n, hn⟩
  · obtain ⟨m, hm⟩ := x.ns; exact Ns_ne_seq hm ho
  · obtain ⟨v, hv⟩ := x.cells n b hn; exact Cell_ne_seq hv ho
theorem FrameB.some {env : Env} {h : Heap} (x : FrameB env h) {b : Addr} (hb : FA env b) : ∃ o, h.get? b = Option.some o := by
  rcases hb with rfl | ⟨n, hn⟩
  · obtain ⟨m, o, _, _, ho, _⟩ := x.ns; exact ⟨o, ho⟩
  · obtain ⟨v, o, ho, _⟩ := x.cells n b hn; exact ⟨o, ho⟩

/-- what one store into a name does to the heap -/
structure Stored (env : Env) (h h' : Heap) (x : Str) (v : Value) : Prop where
  keep : ∀ b o, ¬ FA env b → h.get? b = some o → h'.get? b = some o
  fb : FrameB env h'
  dom : ∀ b, h'.get? b = .none → h.get? b = .none
  here : HoldsV env h' x v
  else' : ∀ y w, y ≠ x → HoldsV env h y w → HoldsV env h' y w

theorem storeName_any {M : Model} {A : Around} {E : Value → Shared → Prop} {env : Env} {x : Str} {v : Value} {s : Shared} {Q : Unit → Shared → Prop} (fb : FrameB env s.heap)
    (hk : env.kindOf x = some .local ∨ (env.kindOf x = some .cell ∧ ∃ c, env.cells.lookup x = some c))
    (h : ∀ h' tk, Stored env s.heap h' x v → Q () { s with heap := h', toks := tk }) : wpAny M A (storeName env x v) Q E s := by
  obtain ⟨m, hm⟩ := fb.ns
  rcases hk with hl | ⟨hl, c, hc⟩
  · refine wpAny_storeName_local hl hm (fun h' hn hs => h h' _ ?_) (by rw [fb.kind]; rfl)
    refine ⟨fun b o hb e => hs.extBut b o (fun hh => hb (.inl hh)) e, ⟨fb.kind, ⟨_, hn⟩, fun n c hc => ?_, fb.apart⟩, fun b e => ?_, .inl ⟨hl, _, hn, by simp⟩, fun y w hy hw => ?_⟩
    · obtain ⟨w, hw⟩ := fb.cells n c hc
      exact ⟨w, hw.sameBut hs (Ne.symm (Ns_ne_cell hm hw))⟩
    · by_cases hb : b = env.locals
      · subst hb; obtain ⟨o, _, _, ho, _⟩ := hn; rw [ho] at e; cases e
      · rw [← hs.2 b hb]; exact e
    · rcases hw with ⟨a, m', hm', hv⟩ | ⟨a, c, hc, hv⟩
      · exact .inl ⟨a, _, hn, by simp [hy, hm.agree hm' y, hv]⟩
      · exact .inr ⟨a, c, hc, hv.sameBut hs (Ne.symm (Ns_ne_cell hm hv))⟩
  · obtain ⟨v₀, hv₀⟩ := fb.cells x c hc
    refine wpAny_storeName_cell fb.kind hl hc hv₀ fun h' hn hs => h h' _ ?_
    refine ⟨fun b o hb e => hs.extBut b o (fun hh => hb (.inr ⟨x, hh ▸ hc⟩)) e, ⟨fb.kind, ⟨m, hm.sameBut hs (Ns_ne_cell hm hv₀)⟩, fun n c' hc' => ?_, fb.apart⟩, fun b e => ?_, .inr ⟨hl, c, hc, hn⟩, fun y w hy hw => ?_⟩
    · by_cases e : c' = c
      · subst e; exact ⟨_, hn⟩
      · obtain ⟨w, hw⟩ := fb.cells n c' hc'
        exact ⟨w, hw.sameBut hs e⟩
    · by_cases hb : b = c
      · subst hb; obtain ⟨o, ho, _⟩ := hn; rw [ho] at e; cases e
      · rw [← hs.2 b hb]; exact e
    · rcases hw with ⟨a, m', hm', hv⟩ | ⟨a, c', hc', hv⟩
      · exact .inl ⟨a, m', hm'.sameBut hs (Ns_ne_cell hm' hv₀), hv⟩
      · exact .inr ⟨a, c', hc', hv.sameBut hs fun e => hy (fb.apart y x c (e ▸ hc') hc)⟩

theorem loadName_any {M : Model} {A : Around} {E : Value → Shared → Prop} {env : Env} {x : Str} {v : Value} {s : Shared} {Q : Value → Shared → Prop} (fb : FrameB env s.heap) (hv : HoldsV env s.heap x v)
    (h : Q v s) : wpAny M A (loadName env x) Q E s := by
  rcases hv with ⟨a, m, hm, hv⟩ | ⟨a, c, hc, hv⟩
  · exact wpAny_loadName_local fb.kind a hm hv h
  · exact wpAny_loadName_cell fb.kind a hc hv h

/-- what is to be stored: a still value, or a list of the frame's own -/
noncomputable def ValOk (U : AS) (h₀ h : Heap) (v : Value) : Slot → Option Addr → Prop
  | .fz p, .none => Rep U h p v
  | .ow pl xs, some a => v = .ref a ∧ U a ∧ h₀.get? a = .none ∧ xs.length ≤ 1048576 ∧ ∃ vs, LstB h a pl vs ∧ RepL U h xs vs
  | _, _ => False

theorem mem_set {α : Type} {l : List α} {k : Nat} {x y : α} (h : y ∈ l.set k x) : y ∈ l ∨ y = x := by
  rcases List.mem_or_eq_of_mem_set h with h | h
  · exact .inl h
  · exact .inr h

theorem FR.stored {G : GP} {C : Ctx} {env : Env} {U : AS} {h₀ h h' : Heap} {σ : List Slot} {as : List (Option Addr)} {k : Nat} {x : Str} {v : Value} {sl : Slot} {oa : Option Addr}
    (F : FR G C env U h₀ h σ as) (hx : C.names[k]? = some x) (st : Stored env h h' x v) (hv : ValOk U h₀ h v sl oa) (hno : ∀ a, oa = some a → some a ∉ as) :
    FR G C env (memAs (as.set k oa)) h₀ h' (σ.set k sl) (as.set k oa) where
  kf := F.kf
  gl := F.gl
  bl := F.bl
  fb := st.fb
  top := F.top
  keep := fun b o e => st.keep b o (fun hb => by rw [F.fresh b hb] at e; cases e) (F.keep b o e)
  fresh := F.fresh
  own := fun a ha => by
    refine ⟨ha, ?_⟩
    rcases mem_set ha with h1 | h1
    · exact (F.own a h1).2
    · subst h1
      cases sl <;> try exact hv.elim
      exact hv.2.2.1
  dom := fun a ha => by
    have hU : U a := by
      rcases mem_set ha with h1 | h1
      · exact (F.own a h1).1
      · subst h1
        cases sl <;> try exact hv.elim
        exact hv.2.1
    exact fun e => F.dom a hU (st.dom a e)
  u0 := fun hu a ha => by
    have hU : U a := by
      rcases mem_set ha with h1 | h1
      · exact (F.own a h1).1
      · subst h1
        cases sl <;> try exact hv.elim
        exact hv.2.1
    exact F.u0 hu a hU
  cl := F.cl
  nm := F.nm
  ls := by rw [List.length_set]; exact F.ls
  la := by rw [List.length_set]; exact F.la
  slot := fun j y sj oj h1 h2 h3 => by
    have hmove : ∀ b o, ¬ U b → isSeq o → h.get? b = some o → h'.get? b = some o := fun b o _ hs e => st.keep b o (fun hb => F.fb.notSeq hb e hs) e
    have hseq : ∀ b o, isSeq o → h.get? b = some o → h'.get? b = some o := fun b o hs e => st.keep b o (fun hb => F.fb.notSeq hb e hs) e
    have hU : ∀ b, memAs (as.set k oa) b → U b ∨ h.get? b = .none := fun a ha => by
      rcases mem_set ha with h1 | h1
      · exact .inl (F.own a h1).1
      · subst h1
        cases sl <;> try exact hv.elim
        exact .inl hv.2.1
    have hlist : ∀ {a : Addr} {pl : Bool} {vs : List Value}, LstB h a pl vs → LstB h' a pl vs := fun ⟨⟨o, ho, hc, n, hd⟩, hp⟩ => ⟨⟨o, hseq _ o ⟨_, _, hd⟩ ho, hc, n, hd⟩, fun e => let ⟨n, hn⟩ := hp e; ⟨n, hseq _ _ ⟨_, _, rfl⟩ hn⟩⟩
    by_cases hj : j = k
    · subst hj
      have hxy : y = x := by rw [hx] at h1; exact (Option.some.inj h1).symm
      subst hxy
      rw [List.getElem?_set_self (by rw [F.ls]; exact (List.getElem?_eq_some_iff.mp hx).1)] at h2
      rw [List.getElem?_set_self (by rw [F.la]; exact (List.getElem?_eq_some_iff.mp hx).1)] at h3
      cases h2; cases h3
      cases sl <;> cases oa <;> try exact hv.elim
      · exact ⟨v, st.here, Rep.move hmove hU _ _ hv⟩
      · obtain ⟨rfl, _, _, hz, vs, hl, hr⟩ := hv
        exact ⟨st.here, hz, vs, hlist hl, RepL.move hmove hU _ _ hr⟩
    · rw [List.getElem?_set_ne (Ne.symm hj)] at h2 h3
      have hyx : y ≠ x := fun e => by
        subst e
        have hj' := (List.getElem?_eq_some_iff.mp h1).1
        exact hj ((List.getElem?_inj hj' F.nm).mp (h1.trans hx.symm))
      have := F.slot j y sj oj h1 h2 h3
      cases sj <;> cases oj <;> first | exact this | skip
      · obtain ⟨w, hw, hr⟩ := this; exact ⟨w, st.else' y w hyx hw, Rep.move hmove hU _ _ hr⟩
      · obtain ⟨hw, hz, vs, hl, hr⟩ := this; exact ⟨st.else' y _ hyx hw, hz, vs, hlist hl, RepL.move hmove hU _ _ hr⟩
  nd := fun i j a hi hj => by
    by_cases hik : i = k <;> by_cases hjk : j = k
    · rw [hik, hjk]
    · subst hik
      rw [List.getElem?_set_self (by have := (List.getElem?_eq_some_iff.mp hx).1; rw [F.la]; exact this)] at hi
      rw [List.getElem?_set_ne (Ne.symm hjk)] at hj
      exact absurd (List.mem_of_getElem? hj) (hno a (Option.some.inj hi))
    · subst hjk
      rw [List.getElem?_set_self (by have := (List.getElem?_eq_some_iff.mp hx).1; rw [F.la]; exact this)] at hj
      rw [List.getElem?_set_ne (Ne.symm hik)] at hi
      exact absurd (List.mem_of_getElem? hi) (hno a (Option.some.inj hj))
    · rw [List.getElem?_set_ne (Ne.symm hik)] at hi
      rw [List.getElem?_set_ne (Ne.symm hjk)] at hj
      exact F.nd i j a hi hj

end Mine
end

section
open PySem PyProof.Rows
set_option Elab.async false
namespace Mine

/-! the plain words -/
noncomputable abbrev XE := List Slot → Option Slot
noncomputable abbrev XT := List Slot → Option Bool

noncomputable def xSeq (g gs : XS) : XS := fun σ => match g σ with
  | some (.next, σ') => gs σ'
  | r => r
noncomputable def xNil : XS := fun σ => some (.next, σ)
noncomputable def xAsg (k : Nat) (f : XE) : XS := fun σ => match f σ with
  | some r => match r.still with
    | some p => some (.next, σ.set k (.fz p))
    | .none => .none
  | .none => .none
noncomputable def xAsgO (k : Nat) (f : XE) : XS := fun σ => match f σ with
  | some (.fr pl xs) => some (.next, σ.set k (.ow pl xs))
  | _ => .none
noncomputable def xAug (k : Nat) (g : PV → PV → Option PV) (f : XE) : XS := fun σ => match σ[k]? with
  | some (.fz p) => match f σ with
    | some r => match g p r.pv with
      | some q => some (.next, σ.set k (.fz q))
      | .none => .none
    | .none => .none
  | _ => .none
noncomputable def xIf (t : XT) (g1 g2 : XS) : XS := fun σ => match t σ with
  | some true => g1 σ
  | some false => g2 σ
  | .none => .none
noncomputable def xRet (f : XE) : XS := fun σ => match f σ with
  | some (.fz p) => if p.scalar then some (.ret p, σ) else .none
  | some (.ow _ xs) => some (.ret (.list xs), σ)
  | some (.fr _ xs) => some (.ret (.list xs), σ)
  | _ => .none
noncomputable def xBrk : XS := fun σ => some (.brk, σ)
noncomputable def xWhile (t : XT) (b els : XS) : Nat → XS
  | 0, _ => .none
  | n + 1, σ => match t σ with
    | some true => match b σ with
      | some (.next, σ') => xWhile t b els n σ'
      | some (.brk, σ') => some (.next, σ')
      | some (.ret p, σ') => some (.ret p, σ')
      | .none => .none
    | some false => els σ
    | .none => .none
noncomputable def xForL (k : Nat) (b : XS) : List PV → XS
  | [], σ => some (.next, σ)
  | p :: ps, σ => match b (σ.set k (.fz p)) with
    | some (.next, σ') => xForL k b ps σ'
    | some (.brk, σ') => some (.next, σ')
    | some (.ret q, σ') => some (.ret q, σ')
    | .none => .none
noncomputable def xFor (k : Nat) (it : List Slot → Option (List PV)) (b : XS) : XS := fun σ => match it σ with
  | some ps => xForL k b ps σ
  | .none => .none

variable {G : GP} {C : Ctx}

theorem sSs_nil : SndSs G C [] xNil := by
  intro A env h₀ s σ as fl σ' Q hA F e h
  cases e
  exact wpAny_execs_nil (h .next s.heap s.toks as (.refl ..) F rfl)

theorem sSs_cons {st : Stmt} {rest : List Stmt} {g gs : XS} (h1 : SndS G C st g) (h2 : SndSs G C rest gs) : SndSs G C (st :: rest) (xSeq g gs) := by
  intro A env h₀ s σ as fl σ' Q hA F e h
  unfold xSeq at e
  cases hg : g σ with
  | none => rw [hg] at e; cases e
  | some r =>
    obtain ⟨f1, σ1⟩ := r
    rw [hg] at e
    refine wpAny_execs_cons (h1 A env h₀ s σ as f1 σ1 _ hA F hg fun f h' tk as' st F' fo => ?_)
    cases f1 with
    | next =>
      have hf : f = .next := fo
      subst hf
      exact h2 A env h₀ _ σ1 as' fl σ' Q hA F' e fun f2 h'' tk2 as'' st2 F2 fo2 => h f2 h'' tk2 as'' (st.trans st2) F2 fo2
    | brk =>
      have hf : f = .brk := fo
      subst hf
      cases e
      exact h .brk h' tk as' st F' rfl
    | ret p =>
      cases e
      have fo' := fo
      obtain ⟨v, rfl, hv⟩ := fo
      exact h (.ret v) h' tk as' st F' fo'

theorem FR.kind {env : Env} {U : AS} {h₀ h : Heap} {σ : List Slot} {as : List (Option Addr)} (F : FR G C env U h₀ h σ as) {x : Str} (hk : C.kf x = some .local ∨ C.kf x = some .cell) :
    env.kindOf x = some .local ∨ (env.kindOf x = some .cell ∧ ∃ c, env.cells.lookup x = some c) := by
  rcases hk with h1 | h1
  · exact .inl ((F.kf x).trans h1)
  · exact .inr ⟨(F.kf x).trans h1, F.cl x h1⟩

theorem mem_set_none {as : List (Option Addr)} {k : Nat} {a : Addr} (h : some a ∈ as.set k .none) : some a ∈ as := by
  rcases mem_set h with h1 | h1
  · exact h1
  · cases h1

theorem Step.stored {env : Env} {as as' : List (Option Addr)} {h h1 h2 : Heap} {x : Str} {v : Value} {k : Nat} (st : Step env as h h1 as') (sd : Stored env h1 h2 x v) : Step env as h h2 (as'.set k .none) :=
  ⟨fun b o hb e => sd.keep b o (fun hf => hb (.inl hf)) (st.keep b o hb e), fun a ha => st.new a (mem_set_none ha), fun b e => st.dom b (sd.dom b e)⟩

/-- a still value goes into a name -/
theorem store_still {A : Around} {env : Env} {h₀ : Heap} {s : Shared} {σ : List Slot} {as : List (Option Addr)} {k : Nat} {x : Str} {v : Value} {p : PV} {Q : Unit → Shared → Prop} {M : Model} {E : Value → Shared → Prop}
    (F : FR G C env (memAs as) h₀ s.heap σ as) (hx : C.names[k]? = some x) (hk : C.kf x = some .local ∨ C.kf x = some .cell) (hr : Rep (memAs as) s.heap p v)
    (h : ∀ h' tk, Stored env s.heap h' x v → FR G C env (memAs (as.set k .none)) h₀ h' (σ.set k (.fz p)) (as.set k .none) → Q () { s with heap := h', toks := tk }) :
    wpAny M A (storeName env x v) Q E s :=
  storeName_any F.fb (F.kind hk) fun h' tk st => h h' tk st (F.stored hx st (sl := .fz p) (oa := .none) hr (fun a e => by cases e))

theorem sS_asg {x : Str} {px pos : Pos} {e : Expr} {f : XE} (k : Nat) (he : SndE G C e f) (hx : C.names[k]? = some x) (hk : C.kf x = some .local ∨ C.kf x = some .cell)
    (hs : ∀ env, swapsWith e (some (.Name x px)) pos.line env = pure false := by intro _; rfl) : SndS G C (.Assign [.Name x px] e pos) (xAsg k f) := by
  intro A env h₀ s σ as fl σ' Q hA F e1 h
  unfold xAsg at e1
  cases hf : f σ with
  | none => rw [hf] at e1; cases e1
  | some r =>
    rw [hf] at e1
    cases hp : r.still with
    | none => simp only [hp] at e1; cases e1
    | some p =>
      simp only [hp] at e1
      cases e1
      refine wpAny_Assign_Name (he A env _ h₀ s σ as r _ hA F hf fun v h' tk hkp hres => ?_) (hs env)
      refine store_still (s := { s with heap := h', toks := tk }) (F.ext hkp) hx hk (hres.still hp F.dom) fun h'' tk' st F' => ?_
      exact h .next h'' tk' _ ((Step.of_keep hkp).stored st) F' rfl

theorem sS_asgO {x : Str} {px pos : Pos} {e : Expr} {f : XE} (k : Nat) (he : SndE G C e f) (hx : C.names[k]? = some x) (hk : C.kf x = some .local ∨ C.kf x = some .cell) (hu : C.u0 = false)
    (hs : ∀ env, swapsWith e (some (.Name x px)) pos.line env = pure false := by intro _; rfl) : SndS G C (.Assign [.Name x px] e pos) (xAsgO k f) := by
  intro A env h₀ s σ as fl σ' Q hA F e1 h
  unfold xAsgO at e1
  cases hf : f σ with
  | none => rw [hf] at e1; cases e1
  | some r =>
    rw [hf] at e1
    cases r with
    | un => cases e1
    | fz p => cases e1
    | ow pl p => cases e1
    | fr pl xs =>
      cases e1
      refine wpAny_Assign_Name (he A env _ h₀ s σ as _ _ hA F hf fun v h' tk hkp hres => ?_) (hs env)
      obtain ⟨a, vs, rfl, hn, hl, hr, hz⟩ := hres
      have hex : h'.get? a ≠ .none := by obtain ⟨⟨o, ho, _⟩, _⟩ := hl; rw [ho]; intro e; cases e
      have F1 : FR G C env (fun b => memAs as b ∨ b = a) h₀ h' σ as := F.grow hkp (fun b hb => hb.elim .inl fun e => .inr (e ▸ hn)) (fun b hb => .inl hb)
        (fun b hb => hb.elim (fun h1 e => F.dom b h1 (hkp.none e)) fun e => e ▸ hex) (fun e => by rw [hu] at e; cases e)
      have hna : some a ∉ as := fun hm => F.dom a hm hn
      refine storeName_any (s := { s with heap := h', toks := tk }) F1.fb (F1.kind hk) fun h'' tk' st => h .next h'' tk' (as.set k (some a)) ?_ (F1.stored hx st (sl := .ow pl xs) (oa := some a) ⟨rfl, .inr rfl, F.keep.none hn, hz, vs, hl, hr⟩ (fun b e => by cases e; exact hna)) rfl
      exact ⟨fun b o hb' e => st.keep b o (fun hf => hb' (.inl hf)) (hkp b o e), fun b hb => by
        rcases mem_set hb with h1 | h1
        · exact .inl h1
        · cases h1; exact .inr hn, fun b e => hkp.none (st.dom b e)⟩

theorem FR.slotFz {env : Env} {U : AS} {h₀ h : Heap} {σ : List Slot} {as : List (Option Addr)} (F : FR G C env U h₀ h σ as) {k : Nat} {x : Str} {p : PV} (hx : C.names[k]? = some x) (hs : σ[k]? = some (.fz p)) :
    ∃ v, HoldsV env h x v ∧ Rep U h p v := by
  have hlt : k < as.length := by rw [F.la]; exact (List.getElem?_eq_some_iff.mp hx).1
  have := F.slot k x _ _ hx hs (List.getElem?_eq_getElem hlt)
  cases ho : as[k] with
  | none => rw [ho] at this; exact this
  | some a => rw [ho] at this; exact this.elim
theorem FR.slotOw {env : Env} {U : AS} {h₀ h : Heap} {σ : List Slot} {as : List (Option Addr)} (F : FR G C env U h₀ h σ as) {k : Nat} {x : Str} {pl : Bool} {xs : List PV} (hx : C.names[k]? = some x) (hs : σ[k]? = some (.ow pl xs)) :
    ∃ a, as[k]? = some (some a) ∧ HoldsV env h x (.ref a) ∧ xs.length ≤ 1048576 ∧ ∃ vs, LstB h a pl vs ∧ RepL U h xs vs := by
  have hlt : k < as.length := by rw [F.la]; exact (List.getElem?_eq_some_iff.mp hx).1
  have := F.slot k x _ _ hx hs (List.getElem?_eq_getElem hlt)
  cases ho : as[k] with
  | none => rw [ho] at this; exact this.elim
  | some a => rw [ho] at this; exact ⟨a, by rw [List.getElem?_eq_getElem hlt, ho], this⟩

/-- an operation upon two values that gives a scalar -/
noncomputable def Prim2 (G : GP) (t : Value → Value → Sem Value) (g : PV → PV → Option PV) : Prop :=
  ∀ (A : Around) (s : Shared) (v1 v2 : Value) (p1 p2 r : PV) (Q : Value → Shared → Prop), A.handled = .none → A.units + 64 < cLine → Rep None' s.heap p1 v1 → Rep None' s.heap p2 v2 → g p1 p2 = some r →
    (r.scalar = true → ∀ v' h' tk, Keep s.heap h' → Rep None' h' r v' → Q v' { s with heap := h', toks := tk }) → wpAny (model G.prog G.w) A (t v1 v2) Q NoE s
noncomputable def Prim1 (G : GP) (t : Value → Sem Value) (g : PV → Option PV) : Prop :=
  ∀ (A : Around) (s : Shared) (v1 : Value) (p1 r : PV) (Q : Value → Shared → Prop), A.handled = .none → A.units + 64 < cLine → Rep None' s.heap p1 v1 → g p1 = some r →
    (r.scalar = true → ∀ v' h' tk, Keep s.heap h' → Rep None' h' r v' → Q v' { s with heap := h', toks := tk }) → wpAny (model G.prog G.w) A (t v1) Q NoE s

theorem AOk.room {A : Around} (hA : AOk C A) : A.units + 64 < cLine := by have := hA.un; omega

theorem sS_aug {x : Str} {px pos : Pos} {e : Expr} {op : Operator} {f : XE} {g : PV → PV → Option PV} (k : Nat) (he : SndE G C e f) (hx : C.names[k]? = some x) (hk : C.kf x = some .local ∨ C.kf x = some .cell)
    (hg : Prim2 G (inplaceOp op) g) : SndS G C (.AugAssign (.Name x px) op e pos) (xAug k g f) := by
  intro A env h₀ s σ as fl σ' Q hA F e1 h
  unfold xAug at e1
  cases hs : σ[k]? with
  | none => rw [hs] at e1; cases e1
  | some sl =>
    cases sl with
    | un => rw [hs] at e1; cases e1
    | ow pl xs => rw [hs] at e1; cases e1
    | fr pl xs => rw [hs] at e1; cases e1
    | fz p =>
      rw [hs] at e1
      cases hf : f σ with
      | none => simp only [hf] at e1; cases e1
      | some r =>
        simp only [hf] at e1
        cases hq : g p r.pv with
        | none => simp only [hq] at e1; cases e1
        | some q =>
          simp only [hq] at e1
          cases e1
          obtain ⟨v0, hv0, hr0⟩ := F.slotFz hx hs
          refine wpAny_AugAssign_Name (loadName_any F.fb hv0 (he A env _ h₀ s σ as r _ hA F hf fun v h' tk hkp hres => ?_))
          refine hg A { s with heap := h', toks := tk } v0 v p r.pv q _ hA.hh hA.room ((hr0.keep hkp).weak fun _ h => h.elim) hres.rep0 hq fun hsc v' h'' tk' hkp' hr' => ?_
          have hkk := hkp.trans hkp'
          refine store_still (s := { s with heap := h'', toks := tk' }) (F.ext hkk) hx hk (hr'.of_scalar hsc) fun h3 tk3 st F' => ?_
          exact h .next h3 tk3 _ ((Step.of_keep hkk).stored st) F' rfl

theorem sS_if {t : Expr} {b o : List Stmt} {pos : Pos} {c : XT} {g1 g2 : XS} (ht : SndT G C t c) (h1 : SndSs G C b g1) (h2 : SndSs G C o g2) : SndS G C (.If t b o pos) (xIf c g1 g2) := by
  intro A env h₀ s σ as fl σ' Q hA F e1 h
  unfold xIf at e1
  cases hc : c σ with
  | none => rw [hc] at e1; cases e1
  | some b1 =>
    rw [hc] at e1
    refine wpAny_If (ht A env _ h₀ s σ as b1 _ hA F hc fun h' tk hkp => ?_)
    cases b1 with
    | true =>
      simp only [if_true]
      exact h1 A env h₀ _ σ as fl σ' Q hA (F.ext hkp) e1 fun f h'' tk' as' st F' fo => h f h'' tk' as' ((Step.of_keep hkp).trans st) F' fo
    | false =>
      simp only [Bool.false_eq_true, if_false]
      exact h2 A env h₀ _ σ as fl σ' Q hA (F.ext hkp) e1 fun f h'' tk' as' st F' fo => h f h'' tk' as' ((Step.of_keep hkp).trans st) F' fo

theorem RetOk.of_scalar {U : AS} {h₀ h : Heap} {p : PV} {v : Value} (hs : p.scalar = true) (r : Rep U h p v) : RetOk h₀ h p v := by
  cases p with
  | list xs => cases hs
  | tup xs => cases hs
  | none => exact Rep.of_scalar (p := .none) (U' := None') (h' := h) rfl r
  | bool b => exact Rep.of_scalar (p := .bool b) (U' := None') (h' := h) rfl r
  | int i => exact Rep.of_scalar (p := .int i) (U' := None') (h' := h) rfl r
  | str x => exact Rep.of_scalar (p := .str x) (U' := None') (h' := h) rfl r

theorem sS_ret {e : Expr} {pos : Pos} {f : XE} (he : SndE G C e f) : SndS G C (.Return (some e) pos) (xRet f) := by
  intro A env h₀ s σ as fl σ' Q hA F e1 h
  unfold xRet at e1
  cases hf : f σ with
  | none => rw [hf] at e1; cases e1
  | some r =>
    rw [hf] at e1
    refine wpAny_Return_some (he A env _ h₀ s σ as r _ hA F hf fun v h' tk hkp hres => ?_)
    cases r with
    | un => cases e1
    | fz p =>
      cases hp : p.scalar with
      | false => simp only [hp, Bool.false_eq_true, if_false] at e1; cases e1
      | true =>
        simp only [hp, if_true] at e1
        cases e1
        refine h (.ret v) h' tk as (Step.of_keep hkp) (F.ext hkp) ⟨v, rfl, ?_⟩
        exact RetOk.of_scalar hp hres
    | ow pl xs =>
      cases e1
      obtain ⟨a, vs, rfl, hua, hl, hr, hz⟩ := hres
      exact h (.ret _) h' tk as (Step.of_keep hkp) (F.ext hkp) ⟨_, rfl, a, vs, rfl, (F.own a hua).2, hl.1, hr.weak fun b e => e ▸ hua, hz⟩
    | fr pl xs =>
      cases e1
      obtain ⟨a, vs, rfl, hn, hl, hr, hz⟩ := hres
      exact h (.ret _) h' tk as (Step.of_keep hkp) (F.ext hkp) ⟨_, rfl, a, vs, rfl, F.keep.none hn, hl.1, hr.weak fun b e => .inr e, hz⟩

theorem sS_brk {pos : Pos} : SndS G C (.Break pos) xBrk := by
  intro A env h₀ s σ as fl σ' Q hA F e1 h
  cases e1
  exact wpAny_Break (h .brk s.heap s.toks as (.refl ..) F rfl)

theorem sS_while {t : Expr} {b o : List Stmt} {pos : Pos} {c : XT} {g1 g2 : XS} (n : Nat) (ht : SndT G C t c) (h1 : SndSs G C b g1) (h2 : SndSs G C o g2) : SndS G C (.While t b o pos) (xWhile c g1 g2 n) := by
  intro A env h₀ s σ as fl σf Q hA F e1 h
  refine wpAny_While (codeAny_whileLoop (fun n s' => ∃ h' tk as' σ', s' = { s with heap := h', toks := tk } ∧ Step env as s.heap h' as' ∧ FR G C env (memAs as') h₀ h' σ' as' ∧ xWhile c g1 g2 n σ' = some (fl, σf)) ?_ n
    ⟨s.heap, s.toks, as, σ, rfl, .refl .., F, e1⟩)
  rintro n s' ⟨h', tk, as', σ', rfl, st, F', e2⟩
  cases n with
  | zero => cases e2
  | succ n =>
    simp only [xWhile] at e2
    cases hc : c σ' with
    | none => rw [hc] at e2; cases e2
    | some b1 =>
      rw [hc] at e2
      refine wpAny_mono (ht A env _ h₀ { s with heap := h', toks := tk } σ' as' b1 _ hA F' hc fun h2' tk2 hkp => ?_) (fun _ _ x => x) (fun _ _ x => x.elim)
      have st' := st.trans (Step.of_keep hkp)
      cases b1 with
      | true =>
        simp only [if_true]
        cases hg : g1 σ' with
        | none => simp only [hg] at e2; cases e2
        | some r =>
          obtain ⟨f1, σ1⟩ := r
          simp only [hg] at e2
          refine wpAny_mono (h1 A env h₀ { s with heap := h2', toks := tk2 } σ' as' f1 σ1 _ hA (F'.ext hkp) hg fun f h3 tk3 as3 st3 F3 fo => ?_) (fun _ _ x => x) (fun _ _ x => x.elim)
          cases f1 with
          | next =>
            have hf : f = .next := fo
            subst hf
            exact ⟨n, Nat.lt_succ_self _, h3, tk3, as3, σ1, rfl, st'.trans st3, F3, e2⟩
          | brk =>
            have hf : f = .brk := fo
            subst hf
            cases e2
            exact h .next h3 tk3 as3 (st'.trans st3) F3 rfl
          | ret p =>
            cases e2
            have fo' := fo
            obtain ⟨v, rfl, hv⟩ := fo
            exact h (.ret v) h3 tk3 as3 (st'.trans st3) F3 fo'
      | false =>
        simp only [Bool.false_eq_true, if_false]
        refine wpAny_mono (h2 A env h₀ { s with heap := h2', toks := tk2 } σ' as' fl σf _ hA (F'.ext hkp) e2 fun f h3 tk3 as3 st3 F3 fo => ?_) (fun _ _ x => x) (fun _ _ x => x.elim)
        exact h f h3 tk3 as3 (st'.trans st3) F3 fo

end Mine
end

section
open PySem PyProof.Rows
set_option Elab.async false
namespace Mine
variable {G : GP} {C : Ctx}

structure WalkOk (G : GP) (A : Around) (env : Env) (U : AS) (hb : Heap) (ps : List PV) (I : Addr) (fp wr : List Addr) (P : Nat → Value → Prop) (St : Nat → Heap → Prop) (h' : Heap) : Prop where
  w : Walks G.prog G.w A I fp wr ps.length P St
  st : St 0 h'
  foot : ∀ b ∈ fp, ¬ FA env b ∧ ¬ U b
  ex : ∀ i h, St i h → ∀ b ∈ fp, ∃ o, h.get? b = some o
  new : ∀ b ∈ wr, hb.get? b = .none
  ns : ∀ i h, St i h → ∀ b ∈ wr, ∀ o, h.get? b = some o → ¬ isSeq o
  item : ∀ i v, i < ps.length → P i v → ∃ p, ps[i]? = some p ∧ Rep U h' p v

noncomputable def SndI (G : GP) (C : Ctx) (iter : Expr) (f : List Slot → Option (List PV)) : Prop :=
  ∀ (A : Around) (env : Env) (U : AS) (h₀ : Heap) (s : Shared) (σ : List Slot) (as : List (Option Addr)) (ps : List PV) (Q : Value → Shared → Prop),
    AOk C A → FR G C env U h₀ s.heap σ as → f σ = some ps →
    (∀ I fp wr P St h' tk, Keep s.heap h' → WalkOk G A env U s.heap ps I fp wr P St h' → Q (.ref I) { s with heap := h', toks := tk }) →
      wpAny (model G.prog G.w) A (eval iter env) (fun x s₁ => wpAny (model G.prog G.w) A (pyIter x) Q NoE s₁) NoE s

theorem FR.walked {env : Env} {U : AS} {h₀ h h' : Heap} {σ : List Slot} {as : List (Option Addr)} {wr : List Addr} (F : FR G C env U h₀ h σ as)
    (h1 : ∀ b ∈ wr, h₀.get? b = .none ∧ ¬ FA env b ∧ ¬ U b ∧ ∀ o, h.get? b = some o → ¬ isSeq o) (hk : ∀ b o, b ∉ wr → h.get? b = some o → h'.get? b = some o) : FR G C env U h₀ h' σ as := by
  have hfa : ∀ b o, FA env b → h.get? b = some o → h'.get? b = some o := fun b o hb e => hk b o (fun hw => (h1 b hw).2.1 hb) e
  have hns : ∀ {m}, h.Ns env.locals m → h'.Ns env.locals m := fun hm => hm.at' fun o e => hfa _ o (.inl rfl) e
  have hcell : ∀ {n c v}, env.cells.lookup n = some c → h.IsCell c v → h'.IsCell c v := fun hn ⟨o, ho, hd⟩ => ⟨o, hfa _ o (.inr ⟨_, hn⟩) ho, hd⟩
  have hhold : ∀ {x v}, HoldsV env h x v → HoldsV env h' x v := fun hv => by
    rcases hv with ⟨a, m, hm, hv⟩ | ⟨a, c, hc, hv⟩
    · exact .inl ⟨a, m, hns hm, hv⟩
    · exact .inr ⟨a, c, hc, hcell hc hv⟩
  have hseq : ∀ b o, isSeq o → h.get? b = some o → h'.get? b = some o := fun b o hs e => hk b o (fun hw => (h1 b hw).2.2.2 o e hs) e
  have hlist : ∀ {a : Addr} {pl : Bool} {vs : List Value}, LstB h a pl vs → LstB h' a pl vs := fun ⟨⟨o, ho, hc, n, hd⟩, hp⟩ => ⟨⟨o, hseq _ o ⟨_, _, hd⟩ ho, hc, n, hd⟩, fun e => let ⟨n, hn⟩ := hp e; ⟨n, hseq _ _ ⟨_, _, rfl⟩ hn⟩⟩
  exact {
    kf := F.kf, gl := F.gl, bl := F.bl
    fb := ⟨F.fb.kind, let ⟨m, hm⟩ := F.fb.ns; ⟨m, hns hm⟩, fun n c e => let ⟨v, hv⟩ := F.fb.cells n c e; ⟨v, hcell e hv⟩, F.fb.apart⟩
    top := F.top
    keep := fun b o e => hk b o (fun hw => by rw [(h1 b hw).1] at e; cases e) (F.keep b o e)
    fresh := F.fresh, own := F.own
    dom := fun a ha e => by
      cases ho : h.get? a with
      | none => exact F.dom a ha ho
      | some o => rw [hk a o (fun hw => (h1 a hw).2.2.1 ha) ho] at e; cases e
    u0 := F.u0, cl := F.cl, nm := F.nm, ls := F.ls, la := F.la
    slot := fun k n sl oa e1 e2 e3 => by
      have := F.slot k n sl oa e1 e2 e3
      cases sl <;> cases oa <;> first | exact this | skip
      · obtain ⟨v, hv, hr⟩ := this; exact ⟨v, hhold hv, Rep.move (fun b o _ hs e => hseq b o hs e) (fun _ e => .inl e) _ _ hr⟩
      · obtain ⟨hv, hz, vs, hl, hr⟩ := this; exact ⟨hhold hv, hz, vs, hlist hl, RepL.move (fun b o _ hs e => hseq b o hs e) (fun _ e => .inl e) _ _ hr⟩
    nd := F.nd }

theorem sS_for {x : Str} {px pos : Pos} {iter : Expr} {body : List Stmt} {f : List Slot → Option (List PV)} {g : XS} (k : Nat) (hi : SndI G C iter f) (hb : SndSs G C body g) (hx : C.names[k]? = some x)
    (hk : C.kf x = some .local ∨ C.kf x = some .cell) (hs : ∀ env x, foldedSetIterable iter env x = pure x := by intro _ _; rfl) : SndS G C (.For (.Name x px) iter body [] pos) (xFor k f g) := by
  intro A env h₀ s σ as fl σf Q hA F e1 h
  unfold xFor at e1
  cases hf : f σ with
  | none => rw [hf] at e1; cases e1
  | some ps =>
    rw [hf] at e1
    refine wpAny_For (hi A env _ h₀ s σ as ps _ hA F hf fun I fp wr P St h2 tk2 hk2 W => ?_) (hs env)
    refine codeAny_forLoop (fun n s' => ∃ i h' tk as' σ', s' = { s with heap := h', toks := tk } ∧ Step env as s.heap h' as' ∧ FR G C env (memAs as') h₀ h' σ' as' ∧ St i h' ∧
        (∀ b ∈ fp, ¬ Own env as' b) ∧ (∀ b o, isSeq o → ¬ memAs as b → h2.get? b = some o → h'.get? b = some o) ∧ (∀ b, memAs as' b → memAs as b ∨ h2.get? b = .none) ∧ (∀ b, h'.get? b = .none → h2.get? b = .none) ∧
        i ≤ ps.length ∧ n = ps.length + 1 - i ∧ xForL k g (ps.drop i) σ' = some (fl, σf)) ?_
      (ps.length + 1) ⟨0, h2, tk2, as, σ, rfl, Step.of_keep hk2, F.ext hk2, W.st, fun b hb ho => ho.elim (W.foot b hb).1 (W.foot b hb).2, fun _ _ _ _ e => e, fun _ e => .inl e, fun _ e => e, Nat.zero_le _, rfl, by simpa using e1⟩
    rintro n s' ⟨i, h', tk, as', σ', rfl, st, F', hst, hnot, M1, M2, M3, hile, rfl, e2⟩
    have hwr : ∀ b ∈ wr, h₀.get? b = .none ∧ ¬ FA env b ∧ ¬ memAs as' b ∧ ∀ o, h'.get? b = some o → ¬ isSeq o := fun b hb =>
      ⟨F.keep.none (W.new b hb), (W.foot b (W.w.sub b hb)).1, fun hm => hnot b (W.w.sub b hb) (.inr hm), W.ns i h' hst b hb⟩
    have step3 : ∀ h3 : Heap, (∀ b o, b ∉ wr → h'.get? b = some o → h3.get? b = some o) → Step env as s.heap h3 as' := fun h3 hk3 =>
      ⟨fun b o hb e => hk3 b o (fun hw => by rw [W.new b hw] at e; cases e) (st.keep b o hb e), st.new, fun b e => by
        cases hq : s.heap.get? b with
        | none => rfl
        | some o =>
          cases hq' : h'.get? b with
          | none => rw [st.dom b hq'] at hq; cases hq
          | some o' => rw [hk3 b o' (fun hw => by rw [W.new b hw] at hq; cases hq) hq'] at e; cases e⟩
    by_cases hlt : i < ps.length
    · refine W.w.item i { s with heap := h', toks := tk } _ _ hlt hst fun v h3 tk3 hP hst3 hk3 => ?_
      have F3 : FR G C env (memAs as') h₀ h3 σ' as' := F'.walked hwr hk3
      have M13 : ∀ b o, isSeq o → ¬ memAs as b → h2.get? b = some o → h3.get? b = some o := fun b o ho hb e => by
        have e' := M1 b o ho hb e
        exact hk3 b o (fun hw => (hwr b hw).2.2.2 o e' ho) e'
      have M34 : ∀ b, h3.get? b = .none → h2.get? b = .none := fun b e => by
        refine M3 b ?_
        cases hq : h'.get? b with
        | none => rfl
        | some o =>
          by_cases hw : b ∈ wr
          · obtain ⟨o', ho'⟩ := W.ex _ _ hst3 b (W.w.sub b hw)
            rw [ho'] at e; cases e
          · rw [hk3 b o hw hq] at e; cases e
      obtain ⟨p, hp, hrep⟩ := W.item i v hlt hP
      have hrep3 : Rep (memAs as') h3 p v := Rep.move (fun b o hu ho e => M13 b o ho hu e) M2 p v hrep
      refine wpAny_assign_Name (store_still (s := { s with heap := h3, toks := tk3 }) F3 hx hk hrep3 fun h4 tk4 sd4 F4 => ?_)
      have st4 : Step env as s.heap h4 (as'.set k .none) := (step3 h3 hk3).stored sd4
      have hfp4 : ∀ b ∈ fp, ∀ o, h3.get? b = some o → h4.get? b = some o := fun b hb o e => sd4.keep b o (fun hf => hnot b hb (.inl hf)) e
      have hst4 : St (i + 1) h4 := W.w.frame _ _ _ hst3 hfp4
      have M14 : ∀ b o, isSeq o → ¬ memAs as b → h2.get? b = some o → h4.get? b = some o := fun b o ho hb e => by
        have e' := M13 b o ho hb e
        exact sd4.keep b o (fun hf => F3.fb.notSeq hf e' ho) e'
      have hd : ps.drop i = p :: ps.drop (i + 1) := by
        rw [List.drop_eq_getElem_cons hlt]
        rw [List.getElem?_eq_getElem hlt] at hp
        rw [Option.some.inj hp]
      rw [hd] at e2
      simp only [xForL] at e2
      cases hg : g (σ'.set k (.fz p)) with
      | none => simp only [hg] at e2; cases e2
      | some r =>
        obtain ⟨f1, σ1⟩ := r
        simp only [hg] at e2
        refine wpAny_mono (hb A env h₀ { s with heap := h4, toks := tk4 } _ _ f1 σ1 _ hA F4 hg fun fo h5 tk5 as5 st5 F5 fok => ?_) (fun _ _ x => x) (fun _ _ x => x.elim)
        have stt : Step env as s.heap h5 as5 := st4.trans st5
        cases f1 with
        | next =>
          have hf : fo = .next := fok
          subst hf
          refine ⟨ps.length + 1 - (i + 1), by omega, i + 1, h5, tk5, as5, σ1, rfl, stt, F5, ?_, ?_, ?_, ?_, ?_, hlt, rfl, e2⟩
          · exact W.w.frame _ _ _ hst4 fun b hb o e => st5.keep b o (fun ho => hnot b hb (ho.elim .inl fun h1 => .inr (mem_set_none h1))) e
          · intro b hb ho
            rcases ho with ho | ho
            · exact hnot b hb (.inl ho)
            · rcases st5.new b ho with h1 | h1
              · exact hnot b hb (.inr (mem_set_none h1))
              · obtain ⟨o, ho'⟩ := W.ex _ _ hst4 b hb
                exact absurd (ho'.symm.trans h1) (by simp)
          · intro b o ho hb e
            have e' := M14 b o ho hb e
            refine st5.keep b o (fun hw => ?_) e'
            rcases hw with hw | hw
            · exact F4.fb.notSeq hw e' ho
            · rcases M2 b (mem_set_none hw) with h1 | h1
              · exact hb h1
              · rw [e] at h1; cases h1
          · intro b hb
            rcases st5.new b hb with h1 | h1
            · exact M2 b (mem_set_none h1)
            · exact .inr (M34 b (sd4.dom b h1))
          · exact fun b e => M34 b (sd4.dom b (st5.dom b e))
        | brk =>
          have hf : fo = .brk := fok
          subst hf
          cases e2
          exact h .next h5 tk5 as5 stt F5 rfl
        | ret p =>
          cases e2
          have fok' := fok
          obtain ⟨v, rfl, hv⟩ := fok
          exact h (.ret v) h5 tk5 as5 stt F5 fok'
    · have hin : i = ps.length := by omega
      subst hin
      refine W.w.done { s with heap := h', toks := tk } _ _ hst fun h3 tk3 hk3 => ?_
      rw [List.drop_length] at e2
      cases e2
      exact wpAny_execs_nil (h .next h3 tk3 as' (step3 h3 hk3) (F'.walked hwr hk3) rfl)

end Mine
end

section
open PySem PyProof.Rows
set_option Elab.async false
set_option linter.unusedVariables false
set_option linter.unusedSimpArgs false
namespace Mine
variable {G : GP} {C : Ctx}

noncomputable def xVar (k : Nat) : XE := fun σ => match σ[k]? with
  | some (.fz p) => some (.fz p)
  | some (.ow pl xs) => some (.ow pl xs)
  | _ => .none
noncomputable def xLit (p : PV) : XE := fun _ => some (.fz p)
noncomputable def xOp1 (g : PV → Option PV) (f : XE) : XE := fun σ => match f σ with
  | some r => (g r.pv).map .fz
  | .none => .none
noncomputable def xOp2 (g : PV → PV → Option PV) (f1 f2 : XE) : XE := fun σ => match f1 σ with
  | some r1 => match f2 σ with
    | some r2 => (g r1.pv r2.pv).map .fz
    | .none => .none
  | .none => .none
noncomputable def xT (f : XE) (g : PV → Option Bool) : XT := fun σ => match f σ with
  | some r => g r.pv
  | .none => .none
noncomputable def xTruth : PV → Option Bool
  | .none => some false
  | .bool b => some b
  | .int i => some (i != 0)
  | .str x => some (x.length != 0)
  | _ => .none
noncomputable def xNot (t : XT) : XT := fun σ => (t σ).map (!·)
noncomputable def xAnd (t1 t2 : XT) : XT := fun σ => match t1 σ with
  | some true => t2 σ
  | some false => some false
  | .none => .none
noncomputable def xOr (t1 t2 : XT) : XT := fun σ => match t1 σ with
  | some true => some true
  | some false => t2 σ
  | .none => .none
noncomputable def xIte (t : XT) (f1 f2 : XE) : XE := fun σ => match t σ with
  | some true => f1 σ
  | some false => f2 σ
  | .none => .none
/-- «a or b», a a scalar -/
noncomputable def xOrV (f1 f2 : XE) : XE := fun σ => match f1 σ with
  | some (.fz p) => match xTruth p with
    | some true => some (.fz p)
    | some false => f2 σ
    | .none => .none
  | _ => .none
noncomputable def xAndV (f1 f2 : XE) : XE := fun σ => match f1 σ with
  | some (.fz p) => match xTruth p with
    | some true => f2 σ
    | some false => some (.fz p)
    | .none => .none
  | _ => .none

theorem sE_var {x : Str} {pos : Pos} (k : Nat) (hx : C.names[k]? = some x) (hk : C.kf x = some .local ∨ C.kf x = some .cell) (hd : (x == ("__debug__" : Str)) = false := by decide) : SndE G C (.Name x pos) (xVar k) := by
  intro A env U h₀ s σ as r Q hA F e h
  unfold xVar at e
  cases hs : σ[k]? with
  | none => rw [hs] at e; cases e
  | some sl =>
    rw [hs] at e
    cases sl with
    | un => cases e
    | fr pl xs => cases e
    | fz p =>
      cases e
      obtain ⟨v, hv, hr⟩ := F.slotFz hx hs
      exact wpAny_Name (loadName_any F.fb hv (h v s.heap s.toks (.refl _) hr)) hd
    | ow pl xs =>
      cases e
      obtain ⟨a, ha, hv, hz, vs, hl, hr⟩ := F.slotOw hx hs
      exact wpAny_Name (loadName_any F.fb hv (h _ s.heap s.toks (.refl _) ⟨a, vs, rfl, (F.own a (List.mem_of_getElem? ha)).1, hl, hr, hz⟩)) hd

theorem sE_int {i : Int} {k : Nat} {pos : Pos} : SndE G C (.Constant (.int i) k pos) (xLit (.int i)) := by
  intro A env U h₀ s σ as r Q hA F e h
  cases e
  exact wpAny_Constant_int (h _ _ _ (.refl _) ⟨_, rfl⟩)
theorem sE_bool {b : Bool} {k : Nat} {pos : Pos} : SndE G C (.Constant (.bool b) k pos) (xLit (.bool b)) := by
  intro A env U h₀ s σ as r Q hA F e h
  cases e
  exact Constant_bool (h _ s.heap s.toks (.refl _) rfl)
theorem sE_none {k : Nat} {pos : Pos} : SndE G C (.Constant .none k pos) (xLit .none) := by
  intro A env U h₀ s σ as r Q hA F e h
  cases e
  exact Constant_none (h _ s.heap s.toks (.refl _) rfl)
theorem sE_str {x : Str} {k : Nat} {pos : Pos} (hz : x.length ≤ 1048576 := by decide) : SndE G C (.Constant (.str x) k pos) (xLit (.str x)) := by
  intro A env U h₀ s σ as r Q hA F e h
  cases e
  exact Calls.Constant_str (h _ s.heap _ (.refl _) ⟨⟨_, rfl⟩, hz⟩)

/-- a constant of the top -/
theorem sE_glob {x : Str} {pos : Pos} {i : Int} (hx : C.kf x = some .globalImplicit) (hg : ∃ t, G.mg x = some (.int i t)) (hd : (x == ("__debug__" : Str)) = false := by decide) : SndE G C (.Name x pos) (xLit (.int i)) := by
  intro A env U h₀ s σ as r Q hA F e h
  cases e
  obtain ⟨t, ht⟩ := hg
  exact Calls.Name_function_global F.fb.kind ((F.kf x).trans hx) (Calls.loadGlobal_global (mg := G.mg) (by rw [F.gl]; exact F.top.g.keeps F.keep) ht (h _ s.heap s.toks (.refl _) ⟨_, rfl⟩)) hd

theorem sE_bin {op : Operator} {a b : Expr} {pos : Pos} {f1 f2 : XE} {g : PV → PV → Option PV} (hp : Prim2 G (binaryOp op) g) (h1 : SndE G C a f1) (h2 : SndE G C b f2) : SndE G C (.BinOp a op b pos) (xOp2 g f1 f2) := by
  intro A env U h₀ s σ as r Q hA F e h
  unfold xOp2 at e
  cases e1 : f1 σ with
  | none => rw [e1] at e; cases e
  | some r1 =>
    cases e2 : f2 σ with
    | none => simp only [e1, e2] at e; cases e
    | some r2 =>
      simp only [e1, e2] at e
      cases e3 : g r1.pv r2.pv with
      | none => simp only [e3] at e; cases e
      | some q =>
        simp only [e3] at e
        cases e
        refine wpAny_BinOp (h1 A env U h₀ s σ as r1 _ hA F e1 fun v1 h' tk hk1 hr1 => h2 A env U h₀ _ σ as r2 _ hA (F.ext hk1) e2 fun v2 h'' tk' hk2 hr2 => ?_)
        exact hp A { s with heap := h'', toks := tk' } v1 v2 _ _ q _ hA.hh hA.room (hr1.rep0.keep hk2) hr2.rep0 e3 fun hsc v' h3 tk3 hk3 hr3 => h v' h3 tk3 ((hk1.trans hk2).trans hk3) (hr3.of_scalar hsc)

noncomputable def pBool : PV → Option Bool
  | .bool b => some b
  | _ => .none

theorem sT_cmp {op : CmpOp} {a b : Expr} {pos : Pos} {f1 f2 : XE} {g : PV → PV → Option PV} (hp : Prim2 G (compareOp op) g) (h1 : SndE G C a f1) (h2 : SndE G C b f2)
    (hm : behindInMarks op b = false := by with_unfolding_all rfl) : SndT G C (.Compare a [op] [b] pos) (xT (xOp2 g f1 f2) pBool) := by
  intro A env U h₀ s σ as r Q hA F e h
  unfold xT xOp2 at e
  cases e1 : f1 σ with
  | none => simp only [e1] at e; cases e
  | some r1 =>
    cases e2 : f2 σ with
    | none => simp only [e1, e2] at e; cases e
    | some r2 =>
      simp only [e1, e2] at e
      cases e3 : g r1.pv r2.pv with
      | none => simp only [e3] at e; cases e
      | some q =>
        rw [e3] at e
        have eb : pBool q = some r := e
        have hq : q = .bool r := by
          cases q <;> first | (cases eb; rfl) | cases eb
        subst hq
        refine wpAny_isTrue_Compare1 (h1 A env U h₀ s σ as r1 _ hA F e1 fun v1 h' tk hk1 hr1 => h2 A env U h₀ _ σ as r2 _ hA (F.ext hk1) e2 fun v2 h'' tk' hk2 hr2 => ?_) hm
        refine hp A { s with heap := h'', toks := tk' } v1 v2 _ _ _ _ hA.hh hA.room (hr1.rep0.keep hk2) hr2.rep0 e3 fun hsc v' h3 tk3 hk3 hr3 => ?_
        have hv : v' = .bool r := hr3
        subst hv
        exact wpAny_truthy_bool (h h3 tk3 ((hk1.trans hk2).trans hk3))

theorem truthy_prim {A : Around} {s : Shared} {v : Value} {p : PV} {b : Bool} {Q : Bool → Shared → Prop} {U : AS} (hr : Rep U s.heap p v) (hb : xTruth p = some b) (h : ∀ tk, Q b { s with toks := tk }) :
    wpAny (model G.prog G.w) A (truthy v) Q NoE s := by
  cases p with
  | none => cases hb; have : v = .none := hr; subst this; exact truthy_none (h s.toks)
  | bool c => have : v = .bool c := hr; subst this; have hb' : b = c := (Option.some.inj hb).symm; subst hb'; exact wpAny_truthy_bool (h s.toks)
  | int i =>
    cases hb; obtain ⟨t, rfl⟩ : ∃ t, v = .int i t := hr
    exact PyProof.Rows.truthy_int (h s.toks)
  | str x =>
    obtain ⟨⟨t, rfl⟩, hz⟩ : (∃ t, v = .str x t) ∧ x.length ≤ 1048576 := hr
    have hb' : b = (x.length != 0) := (Option.some.inj hb).symm
    subst hb'
    have e : ((x.length : Int) != 0) = (x.length != 0) := by
      cases hx : x.length == 0
      · have h1 : x.length ≠ 0 := by simpa using hx
        have h2 : (x.length : Int) ≠ 0 := by omega
        simp only [bne, beq_eq_false_iff_ne.mpr h1, beq_eq_false_iff_ne.mpr h2]
      · have h1 : x.length = 0 := by simpa using hx
        simp [h1]
    refine P.truthy_str (by omega) ?_
    rw [e]
    exact h _
  | list xs => cases hb
  | tup xs => cases hb

theorem sT_plain {e : Expr} {f : XE} (he : SndE G C e f) (hp : ∀ env whole, isTrue e env whole = (do let v ← whole; standAt e.pos; holding [v] (truthy v)) := by intro _ _; rfl) : SndT G C e (xT f xTruth) := by
  intro A env U h₀ s σ as r Q hA F e1 h
  unfold xT at e1
  cases hf : f σ with
  | none => rw [hf] at e1; cases e1
  | some rr =>
    simp only [hf] at e1
    exact isTrue_plain (he A env U h₀ s σ as rr _ hA F hf fun v h' tk hk hr => truthy_prim (s := { s with heap := h', toks := tk }) hr.rep0 e1 fun tk' => h h' tk' hk) (hp env _)

theorem sT_not {e : Expr} {pos : Pos} {t : XT} (he : SndT G C e t) : SndT G C (.UnaryOp .Not e pos) (xNot t) := by
  intro A env U h₀ s σ as r Q hA F e1 h
  unfold xNot at e1
  cases ht : t σ with
  | none => rw [ht] at e1; cases e1
  | some b =>
    rw [ht] at e1; cases e1
    exact isTrue_not (he A env U h₀ s σ as b _ hA F ht h)

theorem sT_and2 {e1 e2 : Expr} {pos : Pos} {t1 t2 : XT} (h1 : SndT G C e1 t1) (h2 : SndT G C e2 t2) : SndT G C (.BoolOp .And [e1, e2] pos) (xAnd t1 t2) := by
  intro A env U h₀ s σ as r Q hA F e h
  unfold xAnd at e
  cases ht : t1 σ with
  | none => rw [ht] at e; cases e
  | some b =>
    rw [ht] at e
    refine PyProof.Rows.isTrue_and (h1 A env U h₀ s σ as b _ hA F ht fun h' tk hk => ?_)
    cases b with
    | false => cases e; exact h h' tk hk
    | true =>
      simp only [if_true]
      refine PyProof.Rows.isTrue_and (h2 A env U h₀ _ σ as r _ hA (F.ext hk) e fun h'' tk' hk' => ?_)
      cases r with
      | false => exact h h'' tk' (hk.trans hk')
      | true => exact isTrue_and_nil (h h'' tk' (hk.trans hk'))

theorem sT_and3 {e1 e2 e3 : Expr} {pos : Pos} {t1 t2 t3 : XT} (h1 : SndT G C e1 t1) (h2 : SndT G C e2 t2) (h3 : SndT G C e3 t3) : SndT G C (.BoolOp .And [e1, e2, e3] pos) (xAnd t1 (xAnd t2 t3)) := by
  intro A env U h₀ s σ as r Q hA F e h
  unfold xAnd at e
  cases ht : t1 σ with
  | none => rw [ht] at e; cases e
  | some b =>
    rw [ht] at e
    refine PyProof.Rows.isTrue_and (h1 A env U h₀ s σ as b _ hA F ht fun h' tk hk => ?_)
    cases b with
    | false => cases e; exact h h' tk hk
    | true =>
      simp only [if_true]
      exact sT_and2 (pos := pos) h2 h3 A env U h₀ _ σ as r _ hA (F.ext hk) e fun h'' tk' hk' => h h'' tk' (hk.trans hk')

theorem sT_or2 {e1 e2 : Expr} {pos : Pos} {t1 t2 : XT} (h1 : SndT G C e1 t1) (h2 : SndT G C e2 t2) : SndT G C (.BoolOp .Or [e1, e2] pos) (xOr t1 t2) := by
  intro A env U h₀ s σ as r Q hA F e h
  unfold xOr at e
  cases ht : t1 σ with
  | none => rw [ht] at e; cases e
  | some b =>
    rw [ht] at e
    refine PyProof.Rows.isTrue_or (h1 A env U h₀ s σ as b _ hA F ht fun h' tk hk => ?_)
    cases b with
    | true => cases e; exact h h' tk hk
    | false =>
      simp only [Bool.false_eq_true, if_false]
      refine PyProof.Rows.isTrue_or (h2 A env U h₀ _ σ as r _ hA (F.ext hk) e fun h'' tk' hk' => ?_)
      cases r with
      | true => exact h h'' tk' (hk.trans hk')
      | false => exact isTrue_or_nil (h h'' tk' (hk.trans hk'))

theorem sE_ite {t a b : Expr} {pos : Pos} {c : XT} {f1 f2 : XE} (ht : SndT G C t c) (h1 : SndE G C a f1) (h2 : SndE G C b f2) : SndE G C (.IfExp t a b pos) (xIte c f1 f2) := by
  intro A env U h₀ s σ as r Q hA F e h
  unfold xIte at e
  cases hc : c σ with
  | none => rw [hc] at e; cases e
  | some b1 =>
    rw [hc] at e
    refine IfExp_ (ht A env U h₀ s σ as b1 _ hA F hc fun h' tk hk => ?_)
    cases b1 with
    | true =>
      simp only [if_true]
      exact h1 A env U h₀ _ σ as r _ hA (F.ext hk) e fun v h'' tk' hk' hr => h v h'' tk' (hk.trans hk') (hr.back hk)
    | false =>
      simp only [Bool.false_eq_true, if_false]
      exact h2 A env U h₀ _ σ as r _ hA (F.ext hk) e fun v h'' tk' hk' hr => h v h'' tk' (hk.trans hk') (hr.back hk)

theorem sE_or {a b : Expr} {pos : Pos} {f1 f2 : XE} (h1 : SndE G C a f1) (h2 : SndE G C b f2) : SndE G C (.BoolOp .Or [a, b] pos) (xOrV f1 f2) := by
  intro A env U h₀ s σ as r Q hA F e h
  unfold xOrV at e
  cases e1 : f1 σ with
  | none => rw [e1] at e; cases e
  | some r1 =>
    rw [e1] at e
    cases r1 with
    | un => cases e
    | ow pl xs => cases e
    | fr pl xs => cases e
    | fz p =>
      cases ht : xTruth p with
      | none => simp only [ht] at e; cases e
      | some b1 =>
        simp only [ht] at e
        refine BoolOp_or (h1 A env U h₀ s σ as _ _ hA F e1 fun v h' tk hk hr => truthy_prim (s := { s with heap := h', toks := tk }) (p := p) hr ht fun tk' => ?_)
        cases b1 with
        | true => cases e; exact h v h' tk' hk hr
        | false =>
          simp only [Bool.false_eq_true, if_false]
          exact BoolOp_one (h2 A env U h₀ { s with heap := h', toks := tk' } σ as r _ hA (F.ext hk) e fun v h'' tk' hk' hr => h v h'' tk' (hk.trans hk') (hr.back hk))

end Mine
end

section
open PySem PyProof.Rows
set_option Elab.async false
namespace Mine
variable {G : GP} {C : Ctx}

/-! ints and texts -/
noncomputable def pAdd : PV → PV → Option PV
  | .int a, .int b => some (.int (a + b))
  | .str x, .str y => if x.length + y.length ≤ 1048576 then some (.str (x ++ y)) else .none
  | _, _ => .none
noncomputable def pSub : PV → PV → Option PV
  | .int a, .int b => some (.int (a - b))
  | _, _ => .none
noncomputable def pMul : PV → PV → Option PV
  | .int a, .int b => if Builtin.Int.intBits a ≤ 64 then some (.int (a * b)) else if Builtin.Int.intBits b ≤ 64 then some (.int (a * b)) else .none
  | _, _ => .none
noncomputable def pMod : PV → PV → Option PV
  | .int a, .int b => if b = 0 then .none else some (.int (a.fmod b))
  | _, _ => .none
noncomputable def pEq : PV → PV → Option PV
  | .int a, .int b => some (.bool (a == b))
  | .str x, .str y => some (.bool (x == y))
  | _, _ => .none
noncomputable def pNe : PV → PV → Option PV
  | .int a, .int b => some (.bool (a != b))
  | .str x, .str y => some (.bool (x != y))
  | _, _ => .none
noncomputable def pLt : PV → PV → Option PV
  | .int a, .int b => some (.bool (decide (a < b)))
  | _, _ => .none
noncomputable def pGt : PV → PV → Option PV
  | .int a, .int b => some (.bool (decide (b < a)))
  | _, _ => .none

theorem rep_int {U : AS} {h : Heap} {i : Int} {v : Value} (r : Rep U h (.int i) v) : ∃ t, v = .int i t := r
theorem rep_str {U : AS} {h : Heap} {x : Str} {v : Value} (r : Rep U h (.str x) v) : (∃ t, v = .str x t) ∧ x.length ≤ 1048576 := r

theorem prim_add : Prim2 G (binaryOp .Add) pAdd := by
  intro A s v1 v2 p1 p2 r Q hh hu r1 r2 e h
  cases p1 <;> cases p2 <;> try cases e
  · obtain ⟨t, rfl⟩ := rep_int r1; obtain ⟨u, rfl⟩ := rep_int r2
    exact add_int (h rfl _ s.heap _ (.refl _) ⟨_, rfl⟩)
  · obtain ⟨⟨t, rfl⟩, h1⟩ := rep_str r1; obtain ⟨⟨u, rfl⟩, h2⟩ := rep_str r2
    simp only [pAdd] at e
    split at e
    · rename_i hz
      cases e
      exact add_str (fun t' tk => h rfl _ s.heap tk (.refl _) ⟨⟨t', rfl⟩, by rw [strLen_append]; exact hz⟩) (by rw [sizeLine_eq]; omega)
    · cases e
theorem prim_iadd : Prim2 G (inplaceOp .Add) pAdd := by
  intro A s v1 v2 p1 p2 r Q hh hu r1 r2 e h
  cases p1 <;> cases p2 <;> try cases e
  · obtain ⟨t, rfl⟩ := rep_int r1; obtain ⟨u, rfl⟩ := rep_int r2
    exact iadd_int (h rfl _ s.heap _ (.refl _) ⟨_, rfl⟩)
  · obtain ⟨⟨t, rfl⟩, h1⟩ := rep_str r1; obtain ⟨⟨u, rfl⟩, h2⟩ := rep_str r2
    simp only [pAdd] at e
    split at e
    · rename_i hz
      cases e
      exact iadd_str (fun t' tk => h rfl _ s.heap tk (.refl _) ⟨⟨t', rfl⟩, by rw [strLen_append]; exact hz⟩) (by rw [sizeLine_eq]; omega)
    · cases e
theorem prim_sub : Prim2 G (binaryOp .Sub) pSub := by
  intro A s v1 v2 p1 p2 r Q hh hu r1 r2 e h
  cases p1 <;> cases p2 <;> try cases e
  obtain ⟨t, rfl⟩ := rep_int r1; obtain ⟨u, rfl⟩ := rep_int r2
  exact PyProof.Rows.sub_int (h rfl _ s.heap _ (.refl _) ⟨_, rfl⟩)
theorem prim_mul : Prim2 G (binaryOp .Mult) pMul := by
  intro A s v1 v2 p1 p2 r Q hh hu r1 r2 e h
  cases p1 <;> cases p2 <;> try cases e
  obtain ⟨t, rfl⟩ := rep_int r1; obtain ⟨u, rfl⟩ := rep_int r2
  simp only [pMul] at e
  split at e
  · rename_i hz
    cases e
    exact PyProof.Rows.mul_int (h rfl _ s.heap _ (.refl _) ⟨_, rfl⟩) (.of_left hz)
  · split at e
    · rename_i hz
      cases e
      exact PyProof.Rows.mul_int (h rfl _ s.heap _ (.refl _) ⟨_, rfl⟩) (.of_right hz)
    · cases e
theorem prim_mod : Prim2 G (binaryOp .Mod) pMod := by
  intro A s v1 v2 p1 p2 r Q hh hu r1 r2 e h
  cases p1 <;> cases p2 <;> try cases e
  obtain ⟨t, rfl⟩ := rep_int r1; obtain ⟨u, rfl⟩ := rep_int r2
  simp only [pMod] at e
  split at e
  · cases e
  · rename_i hz
    cases e
    exact PyProof.Rows.mod_int hz (h rfl _ s.heap _ (.refl _) ⟨_, rfl⟩)
theorem prim_eq : Prim2 G (compareOp .Eq) pEq := by
  intro A s v1 v2 p1 p2 r Q hh hu r1 r2 e h
  cases p1 <;> cases p2 <;> try cases e
  · obtain ⟨t, rfl⟩ := rep_int r1; obtain ⟨u, rfl⟩ := rep_int r2
    exact PyProof.Rows.eq_int (h rfl _ s.heap s.toks (.refl _) rfl)
  · obtain ⟨⟨t, rfl⟩, h1⟩ := rep_str r1; obtain ⟨⟨u, rfl⟩, h2⟩ := rep_str r2
    exact PyProof.Rows.eq_str (h rfl _ s.heap s.toks (.refl _) rfl)
theorem prim_ne : Prim2 G (compareOp .NotEq) pNe := by
  intro A s v1 v2 p1 p2 r Q hh hu r1 r2 e h
  cases p1 <;> cases p2 <;> try cases e
  · obtain ⟨t, rfl⟩ := rep_int r1; obtain ⟨u, rfl⟩ := rep_int r2
    exact PyProof.Rows.ne_int (h rfl _ s.heap s.toks (.refl _) rfl)
  · obtain ⟨⟨t, rfl⟩, h1⟩ := rep_str r1; obtain ⟨⟨u, rfl⟩, h2⟩ := rep_str r2
    exact PyProof.Rows.ne_str (h rfl _ s.heap s.toks (.refl _) rfl)
theorem prim_lt : Prim2 G (compareOp .Lt) pLt := by
  intro A s v1 v2 p1 p2 r Q hh hu r1 r2 e h
  cases p1 <;> cases p2 <;> try cases e
  obtain ⟨t, rfl⟩ := rep_int r1; obtain ⟨u, rfl⟩ := rep_int r2
  exact PyProof.Rows.lt_int (h rfl _ s.heap s.toks (.refl _) rfl)
theorem prim_gt : Prim2 G (compareOp .Gt) pGt := by
  intro A s v1 v2 p1 p2 r Q hh hu r1 r2 e h
  cases p1 <;> cases p2 <;> try cases e
  obtain ⟨t, rfl⟩ := rep_int r1; obtain ⟨u, rfl⟩ := rep_int r2
  exact PyProof.Rows.gt_int (h rfl _ s.heap s.toks (.refl _) rfl)

end Mine
end

section
open PySem PyProof.Rows
set_option Elab.async false
set_option linter.unusedVariables false
set_option linter.unusedSimpArgs false
namespace Mine
variable {G : GP} {C : Ctx}

theorem subscripted_ops (slice : Expr) (o i : Value) : ∃ ops, subscripted slice false o i = operate ops (getItem o i) := by
  unfold subscripted
  split
  · exact ⟨_, rfl⟩
  · rename_i h; cases h
  · exact ⟨_, rfl⟩

theorem subTail {prog : Program} {w : World} {A : Around} {E : Value → Shared → Prop} {s : Shared} {value slice : Expr} {o i : Value} {T id : String} {Q : Value → Shared → Prop} (hT : s.TypeIs o T)
    (hl : typeLookup (.type T) "__getitem__" = pure (some (.builtin id))) (h : wpAny (model prog w) A (getItem o i) Q E s) :
    wpAny (model prog w) A (subscriptTail value slice o i) Q E s := by
  obtain ⟨ops, hs⟩ := subscripted_ops slice o i
  unfold subscriptTail
  refine wpAny_bind ?_
  rw [getitemInPython_of_ne hT.not_modules]
  refine wpAny_bind (wpAny_specialOf hT hl ?_)
  have fin : wpAny (model prog w) A (subscripted slice false o i) (fun r s₃ => wpAny (model prog w) A (letTemporaryGo value o r >>= fun _ => pure r) Q E s₃) E s := by
    rw [hs]
    exact wpAny_operating (wpAny_mono h (fun r s₃ h₃ => wpAny_bind (wpAny_letTemporaryGo (wpAny_pure h₃))) fun _ _ x => x)
  first
    | exact wpAny_pure (wpAny_bind fin)
    | exact wpAny_bind (wpAny_pure (wpAny_bind fin))
    | exact wpAny_bind fin

/-! items -/
noncomputable def pIdx {α : Type} (xs : List α) (i : Int) : Option α := if 0 ≤ i then xs[i.toNat]? else if -(xs.length : Int) ≤ i then xs[(i + xs.length).toNat]? else .none

noncomputable def pItem : PV → PV → Option PV
  | .str x, .int i => (pIdx x.cps.toList i).map fun c => .str ⟨#[c]⟩
  | .list xs, .int i => pIdx xs i
  | .tup xs, .int i => if xs.length ≤ 1048576 then pIdx xs i else .none
  | _, _ => .none

theorem pIdx_seqIndex {α : Type} {xs : List α} {i : Int} {c : α} (h : pIdx xs i = some c) : ∃ j, seqIndex? i xs.length = some j ∧ xs[j]? = some c ∧ (if 0 ≤ i then j = i.toNat else (-(xs.length : Int) ≤ i ∧ j = (i + xs.length).toNat)) := by
  unfold pIdx at h
  by_cases h0 : 0 ≤ i
  · rw [if_pos h0] at h
    have hlt := (List.getElem?_eq_some_iff.mp h).1
    refine ⟨i.toNat, ?_, h, by rw [if_pos h0]⟩
    unfold seqIndex?
    have : ¬ i < 0 := by omega
    simp only [this, if_false]
    rw [if_pos (by simp only [Bool.and_eq_true, decide_eq_true_eq]; omega)]
  · rw [if_neg h0] at h
    by_cases h1 : -(xs.length : Int) ≤ i
    · rw [if_pos h1] at h
      exact ⟨_, seqIndex_neg (by omega) h1, h, by rw [if_neg h0]; exact ⟨h1, rfl⟩⟩
    · rw [if_neg h1] at h; cases h

theorem ResOk.asList {U : AS} {h0 h : Heap} {r : Slot} {v : Value} {xs : List PV} (x : ResOk U h0 h r v) (e : r.pv = .list xs) : ∃ a vs, v = .ref a ∧ h.IsList a (List.toArray vs) ∧ RepL U h xs vs ∧ xs.length ≤ 1048576 := by
  cases r with
  | un => exact x.elim
  | fz p =>
    have e' : p = .list xs := e
    subst e'
    have x' : Rep U h (.list xs) v := x
    simp only [Rep] at x'
    obtain ⟨a, vs, rfl, _, hl, hr, hz⟩ := x'
    exact ⟨a, vs, rfl, hl, hr, hz⟩
  | ow pl ys =>
    cases e
    obtain ⟨a, vs, rfl, _, hl, hr, hz⟩ := x
    exact ⟨a, vs, rfl, hl.1, hr, hz⟩
  | fr pl ys =>
    cases e
    obtain ⟨a, vs, rfl, _, hl, hr, hz⟩ := x
    exact ⟨a, vs, rfl, hl.1, hr.weak fun _ h => .inl h, hz⟩
theorem ResOk.asTup {U : AS} {h0 h : Heap} {r : Slot} {v : Value} {xs : List PV} (x : ResOk U h0 h r v) (e : r.pv = .tup xs) : ∃ a vs, v = .ref a ∧ IsTup h a (List.toArray vs) ∧ RepL U h xs vs := by
  cases r with
  | un => exact x.elim
  | fz p =>
    have e' : p = .tup xs := e
    subst e'
    have x' : Rep U h (.tup xs) v := x
    simp only [Rep] at x'
    obtain ⟨a, vs, rfl, _, hl, hr⟩ := x'
    exact ⟨a, vs, rfl, hl, hr⟩
  | ow pl ys => cases e
  | fr pl ys => cases e
theorem ResOk.asInt {U : AS} {h0 h : Heap} {r : Slot} {v : Value} {i : Int} (x : ResOk U h0 h r v) (e : r.pv = .int i) : ∃ t, v = .int i t := by
  have := x.rep0; rw [e] at this; exact this
theorem ResOk.asStr {U : AS} {h0 h : Heap} {r : Slot} {v : Value} {y : Str} (x : ResOk U h0 h r v) (e : r.pv = .str y) : (∃ t, v = .str y t) ∧ y.length ≤ 1048576 := by
  have := x.rep0; rw [e] at this; exact this

theorem IsTup.typeIs' {s : Shared} {a : Addr} {xs : Array Value} (x : IsTup s.heap a xs) : s.TypeIs (.ref a) "tuple" := let ⟨o, ho, hc, _⟩ := x; ⟨o, ho, hc⟩

theorem sE_item {a b : Expr} {pos : Pos} {f1 f2 : XE} (h1 : SndE G C a f1) (h2 : SndE G C b f2) : SndE G C (.Subscript a b pos) (xOp2 pItem f1 f2) := by
  intro A env U h₀ s σ as r Q hA F e h
  unfold xOp2 at e
  cases e1 : f1 σ with
  | none => rw [e1] at e; cases e
  | some r1 =>
    cases e2 : f2 σ with
    | none => simp only [e1, e2] at e; cases e
    | some r2 =>
      simp only [e1, e2] at e
      cases e3 : pItem r1.pv r2.pv with
      | none => simp only [e3] at e; cases e
      | some q =>
        simp only [e3] at e
        cases e
        refine Subscript_ (h1 A env U h₀ s σ as r1 _ hA F e1 fun v1 h' tk hk1 hr1 => h2 A env U h₀ _ σ as r2 _ hA (F.ext hk1) e2 fun v2 h'' tk' hk2 hr2 => ?_)
        have hr1' := hr1.keep hk2
        have hkk := hk1.trans hk2
        cases p1 : r1.pv with
        | none => rw [p1] at e3; cases e3
        | bool b => rw [p1] at e3; cases e3
        | int b => rw [p1] at e3; cases e3
        | str x =>
          cases p2 : r2.pv <;> rw [p1, p2] at e3 <;> try cases e3
          rename_i i
          obtain ⟨t, rfl⟩ := hr2.asInt p2
          obtain ⟨⟨u, rfl⟩, hz⟩ := hr1'.asStr p1
          cases hc : pIdx x.cps.toList i with
          | none => simp only [pItem, hc] at e3; cases e3
          | some c =>
            simp only [pItem, hc] at e3
            cases e3
            obtain ⟨j, hj, hx, hif⟩ := pIdx_seqIndex hc
            have hl : x.cps.toList.length = x.length := by simp [Str.length]
            have hjlt := (List.getElem?_eq_some_iff.mp hx).1
            refine subTail (typeIs_str _ _ _) slot_str_getitem.lookup (getItem_str (c := c) ?_ ?_ (h _ _ _ hkk ⟨⟨_, rfl⟩, by show (#[c] : Array Nat).size ≤ _; simp⟩))
            · rw [hl] at hif hjlt
              by_cases h0 : 0 ≤ i
              · rw [if_pos h0] at hif; simp only [Bool.or_eq_false_iff, decide_eq_false_iff_not]; omega
              · rw [if_neg h0] at hif; simp only [Bool.or_eq_false_iff, decide_eq_false_iff_not]; omega
            · rw [hl] at hj
              rw [hj]
              show x.cps[j]? = some c
              rw [← hx]; simp
        | list xs =>
          cases p2 : r2.pv <;> rw [p1, p2] at e3 <;> try cases e3
          rename_i i
          obtain ⟨t, rfl⟩ := hr2.asInt p2
          obtain ⟨a, vs, rfl, hl, hr, hz⟩ := hr1'.asList p1
          have e3' : pIdx xs i = some q := e3
          obtain ⟨j, hj, hx, hif⟩ := pIdx_seqIndex e3'
          have hjlt := (List.getElem?_eq_some_iff.mp hx).1
          obtain ⟨v, hv, hrv⟩ := hr.get j q hx
          have hlen := hr.length
          have hQ : Q v { s with heap := h'', toks := tk' } := h v h'' tk' hkk hrv
          by_cases h0 : 0 ≤ i
          · rw [if_pos h0] at hif; subst hif
            exact subTail (Heap.IsList.typeIs (s := { s with heap := h'', toks := tk' }) hl) slot_list_getitem.lookup (wpAny_getItem_list (s := { s with heap := h'', toks := tk' }) hl h0 (by omega) (by simpa using hv) hQ)
          · rw [if_neg h0] at hif
            obtain ⟨hi1, hi2⟩ := hif
            refine subTail (Heap.IsList.typeIs (s := { s with heap := h'', toks := tk' }) hl) slot_list_getitem.lookup (wpAny_getItem_list_neg (s := { s with heap := h'', toks := tk' }) hl (by omega) ?_ (by omega) ?_ hQ)
            · simp only [List.size_toArray]; omega
            · simp only [List.size_toArray, hlen, List.getElem?_toArray]; rw [← hi2]; exact hv
        | tup xs =>
          cases p2 : r2.pv <;> rw [p1, p2] at e3 <;> try cases e3
          rename_i i
          obtain ⟨t, rfl⟩ := hr2.asInt p2
          obtain ⟨a, vs, rfl, hl, hr⟩ := hr1'.asTup p1
          have e3' : (if xs.length ≤ 1048576 then pIdx xs i else .none) = some q := e3
          split at e3'
          · rename_i hz
            obtain ⟨j, hj, hx, hif⟩ := pIdx_seqIndex e3'
            have hjlt := (List.getElem?_eq_some_iff.mp hx).1
            obtain ⟨v, hv, hrv⟩ := hr.get j q hx
            have hlen := hr.length
            have hQ : Q v { s with heap := h'', toks := tk' } := h v h'' tk' hkk hrv
            refine subTail (IsTup.typeIs' (s := { s with heap := h'', toks := tk' }) hl) slot_tuple_getitem.lookup (getItem_tuple (s := { s with heap := h'', toks := tk' }) hl ?_ ?_ (j := j) ?_ ?_ hQ)
            · by_cases h0 : 0 ≤ i
              · omega
              · rw [if_neg h0] at hif; omega
            · by_cases h0 : 0 ≤ i
              · rw [if_pos h0] at hif; omega
              · omega
            · simp only [List.size_toArray, hlen]; exact hj
            · simpa using hv
          · cases e3'

/-! cuts -/
noncomputable def sliceL {α : Type} (l : List α) (lo hi : Option Int) : List α := (l.drop (lo.elim 0 (clipAt l.length))).take (hi.elim l.length (clipAt l.length) - lo.elim 0 (clipAt l.length))
noncomputable def pPart : PV → Option (Option Int)
  | .none => some .none
  | .int i => some (some i)
  | _ => .none
noncomputable def pCut : PV → Option Int → Option Int → Option Slot
  | .str x, lo, hi => some (.fz (.str ⟨(sliceL x.cps.toList lo hi).toArray⟩))
  | .list xs, lo, hi => some (.fr true (sliceL xs lo hi))
  | _, _, _ => .none
noncomputable def xCut (f0 fl fu : XE) : XE := fun σ => match f0 σ with
  | some r0 => match fl σ with
    | some rl => match fu σ with
      | some ru => match pPart rl.pv with
        | some lo => match pPart ru.pv with
          | some hi => pCut r0.pv lo hi
          | .none => .none
        | .none => .none
      | .none => .none
    | .none => .none
  | .none => .none

noncomputable def SndP (G : GP) (C : Ctx) (oe : Option Expr) (f : XE) : Prop :=
  ∀ (A : Around) (env : Env) (U : AS) (h₀ : Heap) (s : Shared) (σ : List Slot) (as : List (Option Addr)) (r : Slot) (Q : Value → Shared → Prop),
    AOk C A → FR G C env U h₀ s.heap σ as → f σ = some r →
    (∀ v h' tk, Keep s.heap h' → ResOk U s.heap h' r v → Q v { s with heap := h', toks := tk }) → wpAny (model G.prog G.w) A (evalPart oe env) Q NoE s
theorem sP_none : SndP G C .none (xLit .none) := by
  intro A env U h₀ s σ as r Q hA F e h
  cases e
  exact evalPart_none_step (h _ s.heap s.toks (.refl _) rfl)
theorem sP_some {e : Expr} {f : XE} (he : SndE G C e f) : SndP G C (some e) f := by
  intro A env U h₀ s σ as r Q hA F e1 h
  exact evalPart_some_step (he A env U h₀ s σ as r Q hA F e1 h)

theorem isPart_of {U : AS} {h0 h : Heap} {r : Slot} {v : Value} {lo : Option Int} (x : ResOk U h0 h r v) (e : pPart r.pv = some lo) : IsPart v lo := by
  have x' := x.rep0
  cases hp : r.pv <;> rw [hp] at e x' <;> try cases e
  · have : v = .none := x'
    subst this; exact .none
  · obtain ⟨t, rfl⟩ := rep_int x'; exact .int _ _

theorem strSliceIndices_eq (lo hi : Option Int) (st : Int) (n : Nat) : Builtin.Str.strSliceIndices lo hi st n = sliceRange (sliceBounds lo hi (some st) n).1 (sliceBounds lo hi (some st) n).2.1 st := by
  cases lo <;> cases hi <;> rfl

theorem sliceBounds_one (lo hi : Option Int) (n : Nat) : sliceBounds lo hi (some 1) n = sliceBounds lo hi .none n := rfl

theorem clip_le (n : Nat) (d : Nat) (hd : d ≤ n) (o : Option Int) : o.elim d (clipAt n) ≤ n := by
  cases o with
  | none => exact hd
  | some i =>
    have := clipAt_cast n i
    simp only [Option.elim]
    omega

theorem txt_slice (x : Str) (lo hi : Option Int) : Txt.slice x lo hi = ⟨(sliceL x.cps.toList lo hi).toArray⟩ := by
  have hl : x.cps.toList.length = x.length := by simp [Str.length]
  have hidx : Builtin.Str.strSliceIndices lo hi 1 x.length = (List.range (hi.elim x.length (clipAt x.length) - lo.elim 0 (clipAt x.length))).map (lo.elim 0 (clipAt x.length) + ·) := by
    rw [strSliceIndices_eq, sliceBounds_one, sliceBounds_plain]
    simp only [sliceRange_one]
  have key : (Builtin.Str.strSliceIndices lo hi 1 x.length).filterMap (x.cps[·]?) = sliceL x.cps.toList lo hi := by
    rw [hidx, pick_run]
    unfold sliceL
    rw [hl]
  unfold Txt.slice
  split
  · rename_i hc
    rw [hidx] at hc
    simp only [List.length_map, List.length_range, Bool.and_eq_true, beq_iff_eq] at hc
    have h1 := clip_le x.length x.length (Nat.le_refl _) hi
    have h2 := clip_le x.length 0 (Nat.zero_le _) lo
    have e1 : lo.elim 0 (clipAt x.length) = 0 ∨ x.length = 0 := by omega
    unfold sliceL
    rw [hl]
    have e2 : (x.cps.toList.drop (lo.elim 0 (clipAt x.length))) = x.cps.toList := by
      rcases e1 with e | e
      · rw [e]; rfl
      · have : x.cps.toList = [] := List.eq_nil_of_length_eq_zero (by rw [hl]; exact e)
        rw [this]; simp
    rw [e2, hc.2, ← hl, List.take_length]
  · rw [key]

theorem repL_slice {U : AS} {h : Heap} {xs : List PV} {vs : List Value} (r : RepL U h xs vs) (lo hi : Option Int) : RepL U h (sliceL xs lo hi) (sliceL vs lo hi) := by
  have hl := r.length
  unfold sliceL
  rw [hl]
  have hd : ∀ (n : Nat) {xs : List PV} {vs : List Value}, RepL U h xs vs → RepL U h (xs.drop n) (vs.drop n) := by
    intro n
    induction n with
    | zero => intro xs vs r; simpa using r
    | succ n ih =>
      intro xs vs r
      cases xs with
      | nil => simp only [RepL] at r; subst r; simp [RepL]
      | cons p ps => simp only [RepL] at r; obtain ⟨v, vs', rfl, _, r2⟩ := r; simpa using ih r2
  have ht : ∀ (n : Nat) {xs : List PV} {vs : List Value}, RepL U h xs vs → RepL U h (xs.take n) (vs.take n) := by
    intro n
    induction n with
    | zero => intro xs vs r; simp [RepL]
    | succ n ih =>
      intro xs vs r
      cases xs with
      | nil => simp only [RepL] at r; subst r; simp [RepL]
      | cons p ps => simp only [RepL] at r; obtain ⟨v, vs', rfl, r1, r2⟩ := r; simpa using RepL.cons r1 (ih r2)
  exact ht _ (hd _ r)

theorem sliceL_le {α : Type} (l : List α) (lo hi : Option Int) : (sliceL l lo hi).length ≤ l.length := by
  unfold sliceL
  simp only [List.length_take, List.length_drop]; omega

/-- a new list on the heap, its items from before -/
theorem fresh_list {U : AS} {hb h : Heap} {xs : List PV} {vs : List Value} {arr : Array Value} {n : Nat} (hk : Keep hb h) (r : RepL U h xs vs) (he : arr = List.toArray vs) (hz : xs.length ≤ 1048576) :
    ResOk U hb (h.push { cls := .type "list", data := .seq arr n }) (.fr true xs) (.ref h.objs.size) := by
  subst he
  have hn : h.get? h.objs.size = .none := by
    cases e : h.get? h.objs.size with
    | none => rfl
    | some o => exact absurd (Heap.lt_size e) (Nat.lt_irrefl _)
  refine ⟨h.objs.size, vs, rfl, hk.none hn, ⟨⟨_, Heap.get?_push_size _ rfl, rfl, _, rfl⟩, fun _ => ⟨n, Heap.get?_push_size _ rfl⟩⟩, ?_, hz⟩
  exact RepL.move (fun b o' _ _ e => Heap.get?_push_of_some _ e) (fun b hb => hb.elim .inl fun e => .inr (e ▸ hn)) _ _ r

theorem sE_cut {a : Expr} {lower upper : Option Expr} {p pos : Pos} {f0 fl fu : XE} (h0 : SndE G C a f0) (hl : SndP G C lower fl) (hu : SndP G C upper fu) : SndE G C (.Subscript a (.Slice lower upper .none p) pos) (xCut f0 fl fu) := by
  intro A env U h₀ s σ as r Q hA F e h
  unfold xCut at e
  cases e0 : f0 σ with
  | none => simp only [e0] at e; cases e
  | some r0 =>
    cases e1 : fl σ with
    | none => simp only [e0, e1] at e; cases e
    | some rl =>
      cases e2 : fu σ with
      | none => simp only [e0, e1, e2] at e; cases e
      | some ru =>
        simp only [e0, e1, e2] at e
        cases e3 : pPart rl.pv with
        | none => simp only [e3] at e; cases e
        | some lo =>
          cases e4 : pPart ru.pv with
          | none => simp only [e3, e4] at e; cases e
          | some hi =>
            simp only [e3, e4] at e
            refine Subscript_ (h0 A env U h₀ s σ as r0 _ hA F e0 fun v0 ha ta ka ra => wpAny_Slice (hl A env U h₀ _ σ as rl _ hA (F.ext ka) e1 fun vl hb tb kb rb =>
              hu A env U h₀ _ σ as ru _ hA (F.ext (ka.trans kb)) e2 fun vu hc tc kc rc => evalPart_none_step ?_))
            have r0' := (ra.keep kb).keep kc
            have hpl := isPart_of rb e3
            have hpu := isPart_of rc e4
            have hkk := (ka.trans kb).trans kc
            have hkp := hkk.trans (Keep.push hc { cls := .type "slice", data := .fields #[vl, vu, .none] })
            cases p1 : r0.pv with
            | none => rw [p1] at e; cases e
            | bool b => rw [p1] at e; cases e
            | int b => rw [p1] at e; cases e
            | tup b => rw [p1] at e; cases e
            | str x =>
              rw [p1] at e
              cases e
              obtain ⟨⟨u, rfl⟩, hz⟩ := r0'.asStr p1
              have hfin : ∀ t' k, Q (.str (Txt.slice x lo hi) t') { s with heap := hc.push { cls := .type "slice", data := .fields #[vl, vu, .none] }, toks := k } := fun t' k => by
                refine h _ _ k hkp ?_
                rw [txt_slice]
                refine ⟨⟨t', rfl⟩, ?_⟩
                show (sliceL x.cps.toList lo hi).toArray.size ≤ _
                rw [List.size_toArray]
                have := sliceL_le x.cps.toList lo hi
                have hl : x.cps.toList.length = x.length := by simp [Str.length]
                omega
              have hsz : (Txt.slice x lo hi).length ≤ sizeLine := Nat.le_trans (Txt.slice_le x _ _) (by rw [sizeLine_eq]; omega)
              refine subTail (typeIs_str _ _ _) slot_str_getitem.lookup ?_
              cases hpl with
              | none =>
                cases hpu with
                | none => exact wpAny_getItem_str_slice (l := .none) (u := .none) (st := .none) ⟨_, Heap.get?_push_size _ rfl, rfl, rfl⟩ rfl (post_val_or_str ⟨hsz, hfin⟩)
                | int j uj => exact wpAny_getItem_str_slice (l := .none) (u := some (j, uj)) (st := .none) ⟨_, Heap.get?_push_size _ rfl, rfl, rfl⟩ rfl (post_val_or_str ⟨hsz, hfin⟩)
              | int i ui =>
                cases hpu with
                | none => exact wpAny_getItem_str_slice (l := some (i, ui)) (u := .none) (st := .none) ⟨_, Heap.get?_push_size _ rfl, rfl, rfl⟩ rfl (post_val_or_str ⟨hsz, hfin⟩)
                | int j uj => exact wpAny_getItem_str_slice (l := some (i, ui)) (u := some (j, uj)) (st := .none) ⟨_, Heap.get?_push_size _ rfl, rfl, rfl⟩ rfl (post_val_or_str ⟨hsz, hfin⟩)
            | list xs =>
              rw [p1] at e
              cases e
              obtain ⟨a, vs, rfl, hls, hr, hz⟩ := r0'.asList p1
              have hlen := hr.length
              have hls' : (hc.push { cls := .type "slice", data := .fields #[vl, vu, .none] }).IsList a vs.toArray := hls.push _
              refine subTail (Heap.IsList.typeIs (s := { s with heap := hc.push { cls := .type "slice", data := .fields #[vl, vu, .none] }, toks := tc }) hls') slot_list_getitem.lookup
                (wpAny_getItem_list_slice (s := { s with heap := hc.push { cls := .type "slice", data := .fields #[vl, vu, .none] }, toks := tc }) hls' (Heap.IsSliceOf.new ..) hpl hpu .none (by simp) ?_ (by rw [sizeLine_eq, List.size_toArray]; omega))
              refine h _ _ tc (hkp.trans (Keep.push _ _)) (fresh_list hkp ((repL_slice hr lo hi).keep (Keep.push _ _)) ?_ (Nat.le_trans (sliceL_le _ _ _) hz))
              rw [slicePick_plain]
              simp only [List.size_toArray]
              rfl

noncomputable def pRev : PV → Option Slot
  | .str x => some (.fz (.str ⟨x.cps.toList.reverse.toArray⟩))
  | .list xs => some (.fr true xs.reverse)
  | _ => .none
noncomputable def xRev (f0 : XE) : XE := fun σ => match f0 σ with
  | some r0 => pRev r0.pv
  | .none => .none

theorem sliceRange_rev (n : Nat) : sliceRange ((n : Int) - 1) (-1) (-1) = (List.range n).map fun k => n - 1 - k := by
  unfold sliceRange
  have h1 : ¬ ((-1 : Int) > 0) := by omega
  simp only [h1, if_false]
  by_cases h : (n : Int) - 1 > -1
  · have e : (((n : Int) - 1 - -1 - -1 - 1) / -(-1)).toNat = n := by
      have : ((n : Int) - 1 - -1 - -1 - 1) = n := by omega
      rw [this]; simp
    simp only [h, if_true, e]
    apply List.map_congr_left
    intro k hk
    have := List.mem_range.mp hk
    omega
  · have : n = 0 := by omega
    subst this; simp

theorem filterMap_same {α β : Type} {f g : α → Option β} : ∀ {l : List α}, (∀ x ∈ l, f x = g x) → l.filterMap f = l.filterMap g
  | [], _ => rfl
  | a :: l, h => by
    rw [List.filterMap_cons, List.filterMap_cons, h a (by simp), filterMap_same fun x hx => h x (by simp [hx])]

theorem pick_rev {α : Type} (xs : Array α) : ((List.range xs.size).map fun k => xs.size - 1 - k).filterMap (xs[·]?) = xs.toList.reverse := by
  have : ∀ (l : List α), ((List.range l.length).map fun k => l.length - 1 - k).filterMap (l[·]?) = l.reverse := by
    intro l
    induction l with
    | nil => simp
    | cons a l ih =>
      rw [List.reverse_cons, ← ih]
      simp only [List.length_cons]
      rw [List.range_succ, List.map_append, List.filterMap_append]
      have e1 : (List.map (fun k => l.length + 1 - 1 - k) (List.range l.length)).filterMap (fun i => (a :: l)[i]?) = (List.map (fun k => l.length - 1 - k) (List.range l.length)).filterMap (fun i => l[i]?) := by
        rw [List.filterMap_map, List.filterMap_map]
        apply filterMap_same
        intro k hk
        have hk' := List.mem_range.mp hk
        simp only [Function.comp]
        have : l.length + 1 - 1 - k = (l.length - 1 - k) + 1 := by omega
        rw [this, List.getElem?_cons_succ]
      rw [e1]
      simp
  have := this xs.toList
  simpa using this

theorem RepL.reverse {U : AS} {h : Heap} : ∀ {xs : List PV} {vs : List Value}, RepL U h xs vs → RepL U h xs.reverse vs.reverse
  | [], _, r => by simp only [RepL] at r; subst r; simp [RepL]
  | p :: ps, vs, r => by
    simp only [RepL] at r
    obtain ⟨v, vs', rfl, r1, r2⟩ := r
    rw [List.reverse_cons, List.reverse_cons]
    exact (RepL.reverse r2).append (RepL.cons r1 RepL.nil)

theorem sE_rev {a : Expr} {k : Nat} {p1 p2 p3 pos : Pos} {f0 : XE} (h0 : SndE G C a f0) :
    SndE G C (.Subscript a (.Slice .none .none (some (.UnaryOp .USub (.Constant (.int 1) k p1) p2)) p3) pos) (xRev f0) := by
  intro A env U h₀ s σ as r Q hA F e h
  unfold xRev at e
  cases e0 : f0 σ with
  | none => simp only [e0] at e; cases e
  | some r0 =>
    simp only [e0] at e
    refine Subscript_ (h0 A env U h₀ s σ as r0 _ hA F e0 fun v0 ha ta ka ra => wpAny_Slice (evalPart_none_step (evalPart_none_step (evalPart_some_step (UnaryOp_ (wpAny_Constant_int (neg_int ?_)))))))
    have hkp := ka.trans (Keep.push ha { cls := .type "slice", data := .fields #[.none, .none, .int (-1) (ta + 1)] })
    cases q1 : r0.pv with
    | none => rw [q1] at e; cases e
    | bool b => rw [q1] at e; cases e
    | int b => rw [q1] at e; cases e
    | tup b => rw [q1] at e; cases e
    | str x =>
      rw [q1] at e
      cases e
      obtain ⟨⟨u, rfl⟩, hz⟩ := ra.asStr q1
      have hrev : Txt.sliceBy x .none .none (-1, ta + 1) = ⟨x.cps.toList.reverse.toArray⟩ := by
        unfold Txt.sliceBy
        rw [if_neg (by simp)]
        have e2 : slicePicked x .none .none (some (-1, ta + 1)) = (List.range x.cps.size).map fun k => x.cps.size - 1 - k := by
          show Builtin.Str.strSliceIndices .none .none (-1) x.length = _
          rw [strSliceIndices_eq]
          exact sliceRange_rev x.cps.size
        rw [e2, pick_rev]
      refine subTail (typeIs_str _ _ _) slot_str_getitem.lookup (wpAny_getItem_str_slice (l := .none) (u := .none) (st := some (-1, ta + 1)) ⟨_, Heap.get?_push_size _ rfl, rfl, rfl⟩ rfl
        (post_val_or_str ⟨Nat.le_trans (Txt.sliceBy_le x .none .none (-1, ta + 1) (by simp)) (by rw [sizeLine_eq]; omega), fun t' k => ?_⟩))
      refine h _ _ k hkp ?_
      show Rep U _ _ (.str (Txt.sliceBy x .none .none (-1, ta + 1)) t')
      rw [hrev]
      refine ⟨⟨t', rfl⟩, ?_⟩
      show x.cps.toList.reverse.toArray.size ≤ _
      simpa [Str.length] using hz
    | list xs =>
      rw [q1] at e
      cases e
      obtain ⟨a, vs, rfl, hls, hr, hz⟩ := ra.asList q1
      have hlen := hr.length
      have hls' : (ha.push { cls := .type "slice", data := .fields #[.none, .none, .int (-1) (ta + 1)] }).IsList a vs.toArray := hls.push _
      refine subTail (Heap.IsList.typeIs (s := { s with heap := ha.push { cls := .type "slice", data := .fields #[.none, .none, .int (-1) (ta + 1)] }, toks := ta + 1 + 1 }) hls') slot_list_getitem.lookup
        (wpAny_getItem_list_slice (s := { s with heap := ha.push { cls := .type "slice", data := .fields #[.none, .none, .int (-1) (ta + 1)] }, toks := ta + 1 + 1 }) hls' (Heap.IsSliceOf.new ..) .none .none (.int (-1) _) (by simp) ?_ (by rw [sizeLine_eq, List.size_toArray]; omega))
      refine h _ _ _ (hkp.trans (Keep.push _ _)) (fresh_list hkp (hr.reverse.keep (Keep.push _ _)) ?_ (by simpa using hz))
      show slicePick vs.toArray .none .none (some (-1)) = vs.reverse.toArray
      · unfold slicePick
        have e3 := sliceRange_rev vs.toArray.size
        show ((sliceRange ((vs.toArray.size : Int) - 1) (-1) (-1)).filterMap _).toArray = _
        rw [e3, pick_rev]

end Mine
end

section
open PySem PyProof.Rows
set_option Elab.async false
set_option linter.unusedVariables false
set_option linter.unusedSimpArgs false
namespace Mine
variable {G : GP} {C : Ctx}

noncomputable def ResL (U : AS) (h0 h : Heap) : List Slot → List Value → Prop
  | [], vs => vs = []
  | r :: rs, vs => ∃ v vs', vs = v :: vs' ∧ ResOk U h0 h r v ∧ ResL U h0 h rs vs'

theorem ResL.rep0 {U : AS} {h0 h : Heap} : ∀ {rs : List Slot} {vs : List Value}, ResL U h0 h rs vs → RepL None' h (rs.map Slot.pv) vs
  | [], _, x => by
    have x' : _ = [] := x
    subst x'; exact RepL.nil
  | r :: rs, vs, x => by
    obtain ⟨v, vs', rfl, x1, x2⟩ := x
    exact RepL.cons x1.rep0 x2.rep0

noncomputable def noStar : Expr → Bool
  | .Starred _ _ => false
  | _ => true
noncomputable def noStars : List Expr → Bool
  | [] => true
  | e :: es => noStar e && noStars es

theorem starEach_cons {e : Expr} {es : List Expr} {env : Env} (h : noStar e = true) : starEach (e :: es) env = (false, eval e env) :: starEach es env := by
  cases e <;> first | rfl | cases h

theorem noStars_any {pos : Pos} {env : Env} : ∀ {es : List Expr}, noStars es = true → (backTo pos (starEach es env)).any (·.1) = false
  | [], _ => rfl
  | e :: es, h => by
    simp only [noStars, Bool.and_eq_true] at h
    rw [starEach_cons h.1]
    show (false || (backTo pos (starEach es env)).any (·.1)) = false
    rw [noStars_any h.2]; rfl

noncomputable abbrev XA := List Slot → Option (List Slot)

noncomputable def SndA (G : GP) (C : Ctx) (es : List Expr) (f : XA) : Prop :=
  noStars es = true ∧ ∀ (A : Around) (env : Env) (U : AS) (h₀ : Heap) (s : Shared) (σ : List Slot) (as : List (Option Addr)) (rs : List Slot) (Q : List Value → Shared → Prop) (pos : Pos),
    AOk C A → FR G C env U h₀ s.heap σ as → f σ = some rs →
    (∀ vs h' tk, Keep s.heap h' → ResL U s.heap h' rs vs → Q vs { s with heap := h', toks := tk }) → wpAny (model G.prog G.w) A (spliced (backTo pos (starEach es env))) Q NoE s

noncomputable def xANil : XA := fun _ => some []
noncomputable def xACons (f : XE) (fs : XA) : XA := fun σ => match f σ with
  | some r => match fs σ with
    | some rs => some (r :: rs)
    | .none => .none
  | .none => .none

theorem sA_nil : SndA G C [] xANil := by
  refine ⟨rfl, ?_⟩
  intro A env U h₀ s σ as rs Q pos hA F e h
  cases e
  exact args_nil (h [] s.heap s.toks (.refl _) rfl)
theorem sA_cons {e : Expr} {es : List Expr} {f : XE} {fs : XA} (he : SndE G C e f) (hes : SndA G C es fs) (hn : noStar e = true := by rfl) : SndA G C (e :: es) (xACons f fs) := by
  refine ⟨by simp only [noStars, hn, hes.1, Bool.and_self], ?_⟩
  intro A env U h₀ s σ as rs Q pos hA F e1 h
  unfold xACons at e1
  cases hf : f σ with
  | none => simp only [hf] at e1; cases e1
  | some r =>
    cases hfs : fs σ with
    | none => simp only [hf, hfs] at e1; cases e1
    | some rs' =>
      simp only [hf, hfs] at e1
      cases e1
      refine args_cons (he A env U h₀ s σ as r _ hA F hf fun v h' tk hk hr => hes.2 A env U h₀ _ σ as rs' _ pos hA (F.ext hk) hfs fun vs h'' tk' hk' hrs => h (v :: vs) h'' tk' (hk.trans hk') ⟨v, vs, rfl, hr.keep hk', ?_⟩) (starEach_cons hn)
      have : ∀ {rs : List Slot} {vs : List Value}, ResL U h' h'' rs vs → ResL U s.heap h'' rs vs := by
        intro rs
        induction rs with
        | nil => intro vs x; exact x
        | cons r rs ih => intro vs x; obtain ⟨v, vs', rfl, x1, x2⟩ := x; exact ⟨v, vs', rfl, x1.back hk, ih x2⟩
      exact this hrs

/-- a call that gives a scalar -/
noncomputable def PrimN (G : GP) (t : List Value → Sem Value) (g : List PV → Option PV) : Prop :=
  ∀ (A : Around) (s : Shared) (vs : List Value) (ps : List PV) (r : PV) (Q : Value → Shared → Prop), A.handled = .none → A.units + 64 < cLine → RepL None' s.heap ps vs → g ps = some r →
    (r.scalar = true → ∀ v' h' tk, Keep s.heap h' → Rep None' h' r v' → Q v' { s with heap := h', toks := tk }) → wpAny (model G.prog G.w) A (t vs) Q NoE s

noncomputable def xCallB (g : List PV → Option PV) (fs : XA) : XE := fun σ => match fs σ with
  | some rs => (g (rs.map Slot.pv)).map .fz
  | .none => .none

theorem Call_Name' {M : Model} {A : Around} {E : Value → Shared → Prop} {s : Shared} {env : Env} {x : Str} {p pos : Pos} {args : List Expr} {Q : Value → Shared → Prop}
    (h : wpAny M A (eval (.Name x p) env) (fun f s₁ => wpAny M A (callWith pos f [] (backTo pos (starEach args env)) []) Q E s₁) E s) :
    wpAny M A (eval (.Call (.Name x p) args [] pos) env) Q E s := wpAny_bind h

theorem FR.globB {env : Env} {U : AS} {h₀ : Heap} {σ : List Slot} {as : List (Option Addr)} {s : Shared} {A : Around} {x : Str} {p : Pos} {v : Value} {Q : Value → Shared → Prop} {E : Value → Shared → Prop} {M : Model} (F : FR G C env U h₀ s.heap σ as)
    (hx : C.kf x = some .globalImplicit) (hb : G.mg x = .none ∧ G.mb x = some v) (hd : (x == ("__debug__" : Str)) = false) (h : Q v s) : wpAny M A (eval (.Name x p) env) Q E s :=
  Calls.Name_function_global F.fb.kind ((F.kf x).trans hx) (Calls.loadGlobal_builtin (mg := G.mg) (mb := G.mb) (by rw [F.gl]; exact F.top.g.keeps F.keep) hb.1 (by rw [F.bl]; exact F.top.b.keeps F.keep) hb.2 h) hd

theorem sE_callB {f : Str} {id : String} {p pos : Pos} {e : Expr} {es : List Expr} {fs : XA} {g : List PV → Option PV} (hx : C.kf f = some .globalImplicit) (hb : G.mg f = .none ∧ G.mb f = some (.builtin id))
    (hp : PrimN G (fun vs => call (.builtin id) vs) g) (ha : SndA G C (e :: es) fs) (hd : (f == ("__debug__" : Str)) = false := by decide) : SndE G C (.Call (.Name f p) (e :: es) [] pos) (xCallB g fs) := by
  intro A env U h₀ s σ as r Q hA F e1 h
  unfold xCallB at e1
  cases hf : fs σ with
  | none => simp only [hf] at e1; cases e1
  | some rs =>
    simp only [hf] at e1
    cases hg : g (rs.map Slot.pv) with
    | none => simp only [hg] at e1; cases e1
    | some q =>
      simp only [hg] at e1
      cases e1
      have hns := ha.1
      simp only [noStars, Bool.and_eq_true] at hns
      refine Call_Name' (F.globB hx hb hd (callWith_builtin1 (ha.2 A env U h₀ s σ as rs _ pos hA F hf fun vs h' tk hk hrs => ?_) (starEach_cons hns.1) (noStars_any hns.2)))
      exact hp A { s with heap := h', toks := tk } vs _ q _ hA.hh hA.room hrs.rep0 hg fun hsc v' h'' tk' hk' hr' => h v' h'' tk' (hk.trans hk') (hr'.of_scalar hsc)

/-! the built-ins -/
noncomputable def pLen : List PV → Option PV
  | [.str x] => some (.int x.length)
  | [.list xs] => some (.int xs.length)
  | _ => .none
noncomputable def pMin2 : List PV → Option PV
  | [.int a, .int b] => some (.int (if b < a then b else a))
  | _ => .none
noncomputable def pMax2 : List PV → Option PV
  | [.int a, .int b] => some (.int (if b > a then b else a))
  | _ => .none
noncomputable def pAbs : List PV → Option PV
  | [.int a] => some (.int (if a < 0 then -a else a))
  | _ => .none

theorem repL_one {U : AS} {h : Heap} {p : PV} {vs : List Value} (r : RepL U h [p] vs) : ∃ v, vs = [v] ∧ Rep U h p v := by
  simp only [RepL] at r
  obtain ⟨v, vs', rfl, r1, rfl⟩ := r
  exact ⟨v, rfl, r1⟩
theorem repL_two {U : AS} {h : Heap} {p q : PV} {vs : List Value} (r : RepL U h [p, q] vs) : ∃ v w, vs = [v, w] ∧ Rep U h p v ∧ Rep U h q w := by
  simp only [RepL] at r
  obtain ⟨v, vs', rfl, r1, w, vs'', rfl, r2, rfl⟩ := r
  exact ⟨v, w, rfl, r1, r2⟩

theorem prim_len : PrimN G (fun vs => call (.builtin "len") vs) pLen := by
  intro A s vs ps r Q hh hu hr e h
  unfold pLen at e
  split at e <;> try cases e
  · obtain ⟨v, rfl, r1⟩ := repL_one hr
    obtain ⟨⟨t, rfl⟩, hz⟩ := rep_str r1
    exact PyProof.Rows.len_str (by omega) (h rfl _ s.heap _ (.refl _) ⟨_, rfl⟩)
  · rename_i xs
    obtain ⟨v, rfl, r1⟩ := repL_one hr
    simp only [Rep] at r1
    obtain ⟨a, vs, rfl, _, hl, hrl, hz⟩ := r1
    have hlen := hrl.length
    refine PyProof.Rows.len_list hl (by rw [List.size_toArray]; omega) ?_
    rw [List.size_toArray, hlen]
    exact h rfl _ s.heap _ (.refl _) ⟨_, rfl⟩
theorem prim_min2 : PrimN G (fun vs => call (.builtin "min") vs) pMin2 := by
  intro A s vs ps r Q hh hu hr e h
  unfold pMin2 at e
  split at e <;> try cases e
  obtain ⟨v, w, rfl, r1, r2⟩ := repL_two hr
  obtain ⟨t, rfl⟩ := rep_int r1; obtain ⟨u, rfl⟩ := rep_int r2
  refine min_two_ints hh fun h' tk hk => h rfl _ h' tk hk ?_
  split
  · exact ⟨_, rfl⟩
  · exact ⟨_, rfl⟩
theorem prim_max2 : PrimN G (fun vs => call (.builtin "max") vs) pMax2 := by
  intro A s vs ps r Q hh hu hr e h
  unfold pMax2 at e
  split at e <;> try cases e
  obtain ⟨v, w, rfl, r1, r2⟩ := repL_two hr
  obtain ⟨t, rfl⟩ := rep_int r1; obtain ⟨u, rfl⟩ := rep_int r2
  refine max_two_ints hh fun h' tk hk => h rfl _ h' tk hk ?_
  split
  · exact ⟨_, rfl⟩
  · exact ⟨_, rfl⟩
theorem prim_abs : PrimN G (fun vs => call (.builtin "abs") vs) pAbs := by
  intro A s vs ps r Q hh hu hr e h
  unfold pAbs at e
  split at e <;> try cases e
  obtain ⟨v, rfl, r1⟩ := repL_one hr
  obtain ⟨t, rfl⟩ := rep_int r1
  exact call_abs_int fun u tk => h rfl _ s.heap tk (.refl _) ⟨_, rfl⟩

/-- isinstance(e, bool) -/
noncomputable def pIsBool : PV → Option PV
  | .int _ => some (.bool false)
  | _ => .none
theorem sE_isBool {p p2 pos : Pos} {e : Expr} {f : XE} (hx : C.kf "isinstance" = some .globalImplicit) (hb : G.mg "isinstance" = .none ∧ G.mb "isinstance" = some (.builtin "isinstance"))
    (hx2 : C.kf "bool" = some .globalImplicit) (hb2 : G.mg "bool" = .none ∧ G.mb "bool" = some (.type "bool")) (he : SndE G C e f) (hn : noStar e = true := by rfl) :
    SndE G C (.Call (.Name "isinstance" p) [e, .Name "bool" p2] [] pos) (xOp1 pIsBool f) := by
  intro A env U h₀ s σ as r Q hA F e1 h
  unfold xOp1 at e1
  cases hf : f σ with
  | none => simp only [hf] at e1; cases e1
  | some rr =>
    simp only [hf] at e1
    cases hp : rr.pv <;> rw [hp] at e1 <;> try cases e1
    refine Call_Name' (F.globB hx hb (by decide) (callWith_builtin1 (args_cons (he A env U h₀ s σ as rr _ hA F hf fun v h' tk hk hr => ?_) (starEach_cons hn)) (starEach_cons hn) rfl))
    refine args_cons (FR.globB (s := { s with heap := h', toks := tk }) (F.ext hk) hx2 hb2 (by decide) (args_nil ?_))
    obtain ⟨t, rfl⟩ := hr.asInt hp
    exact IsiPair.int_bool (h _ h' _ hk rfl)

/-! methods of a text -/
noncomputable def pLower : PV → Option PV
  | .str x => if (Txt.lower x).length ≤ 1048576 then some (.str (Txt.lower x)) else .none
  | _ => .none
noncomputable def pUpper : PV → Option PV
  | .str x => if (Txt.upper x).length ≤ 1048576 then some (.str (Txt.upper x)) else .none
  | _ => .none

theorem sE_lower {o : Expr} {apos pos : Pos} {f : XE} (ho : SndE G C o f)
    (he : ∀ env, ∃ pl, eval (.Call (.Attribute o "lower" apos) [] [] pos) env = (do
      let ov ← eval o env
      standAt apos.atName
      let (f, first) ← holding [ov] (getMethod ov "lower" pl)
      callWith pos f first (backTo pos (starEach [] env)) []) := by intro _; exact ⟨_, rfl⟩) : SndE G C (.Call (.Attribute o "lower" apos) [] [] pos) (xOp1 pLower f) := by
  intro A env U h₀ s σ as r Q hA F e1 h
  unfold xOp1 at e1
  cases hf : f σ with
  | none => simp only [hf] at e1; cases e1
  | some rr =>
    simp only [hf] at e1
    cases hp : rr.pv <;> rw [hp] at e1 <;> try cases e1
    rename_i x
    simp only [pLower] at e1
    split at e1
    · rename_i hz
      cases e1
      obtain ⟨pl, hpl⟩ := he env
      refine MethodCall_ (pl := pl) (ho A env U h₀ s σ as rr _ hA F hf fun v h' tk hk hr => ?_) hpl
      obtain ⟨⟨t, rfl⟩, hzx⟩ := hr.asStr hp
      with_reducible refine GM.lower ?_
      exact callWith_method0 (SCL.lower (by omega) fun _ => h _ h' _ hk ⟨⟨_, rfl⟩, hz⟩)
    · cases e1

end Mine
end

section
open PySem PyProof.Rows
set_option Elab.async false
set_option linter.unusedVariables false
set_option linter.unusedSimpArgs false
namespace Mine
variable {G : GP} {C : Ctx}

theorem LstB.ne {h h' : Heap} {a b : Addr} {pl : Bool} {vs : List Value} (hs : Heap.SameBut a h h') (hb : b ≠ a) (x : LstB h b pl vs) : LstB h' b pl vs :=
  ⟨x.1.extBut hs.extBut hb, fun e => (x.2 e).extBut hs.extBut hb⟩
theorem LstB.seq {h : Heap} {a : Addr} {pl : Bool} {vs : List Value} (x : LstB h a pl vs) : ∃ o, h.get? a = some o ∧ isSeq o := let ⟨o, ho, _, n, hd⟩ := x.1; ⟨o, ho, _, n, hd⟩

/-- one of the frame's own lists is changed -/
theorem FR.mutated {env : Env} {h₀ h h' : Heap} {σ : List Slot} {as : List (Option Addr)} {k : Nat} {x : Str} {a : Addr} {pl pl0 : Bool} {xs xs0 : List PV} {vs : List Value}
    (F : FR G C env (memAs as) h₀ h σ as) (hx : C.names[k]? = some x) (ha : as[k]? = some (some a)) (h0 : σ[k]? = some (.ow pl0 xs0)) (hs : Heap.SameBut a h h') (hl : LstB h' a pl vs) (hr : RepL (memAs as) h' xs vs) (hz : xs.length ≤ 1048576) :
    FR G C env (memAs as) h₀ h' (σ.set k (.ow pl xs)) as := by
  have hmem : memAs as a := List.mem_of_getElem? ha
  have hseq : ∃ o, h.get? a = some o ∧ isSeq o := by
    obtain ⟨a', ha', _, _, vs0, hl0, _⟩ := F.slotOw hx h0
    rw [ha] at ha'; cases ha'
    exact hl0.seq
  have hfa : ∀ b, FA env b → b ≠ a := fun b hb e => by
    subst e
    obtain ⟨o, ho, hsq⟩ := hseq
    exact F.fb.notSeq hb ho hsq
  have hns : ∀ {m}, h.Ns env.locals m → h'.Ns env.locals m := fun hm => hm.sameBut hs (hfa _ (.inl rfl))
  have hcell : ∀ {n c v}, env.cells.lookup n = some c → h.IsCell c v → h'.IsCell c v := fun hn hv => hv.sameBut hs (hfa _ (.inr ⟨_, hn⟩))
  have hhold : ∀ {x v}, HoldsV env h x v → HoldsV env h' x v := fun hv => by
    rcases hv with ⟨a, m, hm, hv⟩ | ⟨a, c, hc, hv⟩
    · exact .inl ⟨a, m, hns hm, hv⟩
    · exact .inr ⟨a, c, hc, hcell hc hv⟩
  have hrep : ∀ b o, ¬ memAs as b → isSeq o → h.get? b = some o → h'.get? b = some o := fun b o hb _ e => hs.extBut b o (fun e' => hb (e' ▸ hmem)) e
  exact {
    kf := F.kf, gl := F.gl, bl := F.bl
    fb := ⟨F.fb.kind, let ⟨m, hm⟩ := F.fb.ns; ⟨m, hns hm⟩, fun n c e => let ⟨v, hv⟩ := F.fb.cells n c e; ⟨v, hcell e hv⟩, F.fb.apart⟩
    top := F.top
    keep := fun b o e => hs.extBut b o (fun e' => by rw [e', (F.own a hmem).2] at e; cases e) (F.keep b o e)
    fresh := F.fresh, own := F.own
    dom := fun b hb e => by
      by_cases hba : b = a
      · subst hba; obtain ⟨o, ho, _⟩ := hl.1; rw [ho] at e; cases e
      · rw [hs.2 b hba] at e; exact F.dom b hb e
    u0 := F.u0, cl := F.cl, nm := F.nm
    ls := by rw [List.length_set]; exact F.ls
    la := F.la
    slot := fun j y sj oj e1 e2 e3 => by
      by_cases hj : j = k
      · subst hj
        rw [hx] at e1; cases e1
        rw [ha] at e3; cases e3
        rw [List.getElem?_set_self (by rw [F.ls]; exact (List.getElem?_eq_some_iff.mp hx).1)] at e2
        cases e2
        obtain ⟨a', ha', hv, _⟩ := F.slotOw hx h0
        rw [ha] at ha'; cases ha'
        exact ⟨hhold hv, hz, vs, hl, hr⟩
      · rw [List.getElem?_set_ne (Ne.symm hj)] at e2
        have := F.slot j y sj oj e1 e2 e3
        cases sj <;> cases oj <;> first | exact this | skip
        · obtain ⟨v, hv, hr⟩ := this; exact ⟨v, hhold hv, Rep.move hrep (fun _ e => .inl e) _ _ hr⟩
        · rename_i b
          obtain ⟨hv, hz, ws, hl', hr'⟩ := this
          exact ⟨hhold hv, hz, ws, hl'.ne hs fun e => hj (F.nd j k a (e ▸ e3) ha), RepL.move hrep (fun _ e => .inl e) _ _ hr'⟩
    nd := F.nd }

theorem Step.mutated {env : Env} {as : List (Option Addr)} {h h' : Heap} {a : Addr} (hs : Heap.SameBut a h h') (ha : some a ∈ as) (hex : ∃ o, h'.get? a = some o) : Step env as h h' as :=
  ⟨fun b o hb e => hs.extBut b o (fun e' => hb (.inr (e' ▸ ha))) e, fun _ e => .inl e, fun b e => by
    by_cases hba : b = a
    · subst hba; obtain ⟨o, ho⟩ := hex; rw [ho] at e; cases e
    · rw [hs.2 b hba] at e; exact e⟩

/-- a list of the frame's own stands still from here on -/
theorem FR.released {env : Env} {h₀ h : Heap} {σ : List Slot} {as : List (Option Addr)} {k : Nat} {x : Str} {a : Addr} {pl : Bool} {xs : List PV}
    (F : FR G C env (memAs as) h₀ h σ as) (hx : C.names[k]? = some x) (ha : as[k]? = some (some a)) (h0 : σ[k]? = some (.ow pl xs)) :
    FR G C env (memAs (as.set k .none)) h₀ h (σ.set k (.fz (.list xs))) (as.set k .none) ∧ Rep (memAs (as.set k .none)) h (.list xs) (.ref a) := by
  have hlt := (List.getElem?_eq_some_iff.mp hx).1
  have hsub : ∀ b, memAs (as.set k .none) b → memAs as b := fun b hb => mem_set_none hb
  have hna : ¬ memAs (as.set k .none) a := fun hm => by
    obtain ⟨j, hj⟩ := List.getElem?_of_mem hm
    by_cases hjk : j = k
    · subst hjk; rw [List.getElem?_set_self (by rw [F.la]; exact hlt)] at hj; cases hj
    · rw [List.getElem?_set_ne (Ne.symm hjk)] at hj; exact hjk (F.nd j k a hj ha)
  obtain ⟨a', ha', hv, hz, vs, hl, hr⟩ := F.slotOw hx h0
  rw [ha] at ha'; cases ha'
  have hrep : Rep (memAs (as.set k .none)) h (.list xs) (.ref a) := by
    simp only [Rep]
    exact ⟨a, vs, rfl, hna, hl.1, hr.weak hsub, hz⟩
  refine ⟨{
    kf := F.kf, gl := F.gl, bl := F.bl, fb := F.fb, top := F.top, keep := F.keep, fresh := F.fresh
    own := fun b hb => ⟨hb, (F.own b (hsub b hb)).2⟩
    dom := fun b hb => F.dom b (hsub b hb)
    u0 := fun e b hb => F.u0 e b (hsub b hb)
    cl := F.cl, nm := F.nm
    ls := by rw [List.length_set]; exact F.ls
    la := by rw [List.length_set]; exact F.la
    slot := fun j y sj oj e1 e2 e3 => by
      by_cases hj : j = k
      · subst hj
        rw [hx] at e1; cases e1
        rw [List.getElem?_set_self (by rw [F.ls]; exact hlt)] at e2
        rw [List.getElem?_set_self (by rw [F.la]; exact hlt)] at e3
        cases e2; cases e3
        exact ⟨_, hv, hrep⟩
      · rw [List.getElem?_set_ne (Ne.symm hj)] at e2 e3
        have := F.slot j y sj oj e1 e2 e3
        cases sj <;> cases oj <;> first | exact this | skip
        · obtain ⟨v, hv, hr⟩ := this; exact ⟨v, hv, hr.weak hsub⟩
        · obtain ⟨hv, hz, ws, hl', hr'⟩ := this
          exact ⟨hv, hz, ws, hl', hr'.weak hsub⟩
    nd := fun i j b hi hj => by
      by_cases hik : i = k
      · subst hik; rw [List.getElem?_set_self (by rw [F.la]; exact hlt)] at hi; cases hi
      · by_cases hjk : j = k
        · subst hjk; rw [List.getElem?_set_self (by rw [F.la]; exact hlt)] at hj; cases hj
        · rw [List.getElem?_set_ne (Ne.symm hik)] at hi
          rw [List.getElem?_set_ne (Ne.symm hjk)] at hj
          exact F.nd i j b hi hj }, hrep⟩

noncomputable def xApp (k : Nat) (f : XE) : XS := fun σ => match σ[k]? with
  | some (.ow true xs) => match f σ with
    | some r => if r.pv.scalar = true ∧ xs.length < 1048576 then some (.next, σ.set k (.ow true (xs ++ [r.pv]))) else .none
    | .none => .none
  | _ => .none
/-- «x.append(y)», y a list of the frame's own -/
noncomputable def xAppO (k j : Nat) : XS := fun σ => match σ[k]? with
  | some (.ow true xs) => match σ[j]? with
    | some (.ow pl ys) => if k ≠ j ∧ xs.length < 1048576 then some (.next, (σ.set j (.fz (.list ys))).set k (.ow true (xs ++ [.list ys]))) else .none
    | _ => .none
  | _ => .none
noncomputable def xSet (k : Nat) (fi fe : XE) : XS := fun σ => match σ[k]? with
  | some (.ow _ xs) => match fe σ with
    | some r => match fi σ with
      | some ri => match ri.pv with
        | .int i => if r.pv.scalar = true ∧ 0 ≤ i ∧ i < xs.length then some (.next, σ.set k (.ow false (xs.set i.toNat r.pv))) else .none
        | _ => .none
      | .none => .none
    | .none => .none
  | _ => .none
noncomputable def xAsg2 (k1 k2 : Nat) (f : XE) : XS := fun σ => match f σ with
  | some (.fz p) => if p.scalar then some (.next, (σ.set k1 (.fz p)).set k2 (.fz p)) else .none
  | _ => .none
noncomputable def xSwap (ka kb : Nat) : XS := fun σ => match σ[ka]? with
  | some (.fz p) => match σ[kb]? with
    | some (.fz q) => if p.scalar = true ∧ q.scalar = true then some (.next, (σ.set kb (.fz p)).set ka (.fz q)) else .none
    | _ => .none
  | _ => .none

theorem notInteractive {env : Env} (h : env.scope.kind = .function) : interactive env = false := by
  unfold interactive; rw [h]; rfl

theorem sS_app {x : Str} {px apos pos spos : Pos} {e : Expr} {f : XE} (k : Nat) (he : SndE G C e f) (hx : C.names[k]? = some x)
    (heq : ∀ env, ∃ pl, eval (.Call (.Attribute (.Name x px) "append" apos) [e] [] pos) env = (do
      let ov ← eval (.Name x px) env
      standAt apos.atName
      let (f, first) ← holding [ov] (getMethod ov "append" pl)
      callWith pos f first (backTo pos (starEach [e] env)) []) := by intro _; exact ⟨_, rfl⟩)
    (hd : (x == ("__debug__" : Str)) = false := by decide) (hn : noStar e = true := by rfl) : SndS G C (.Expr (.Call (.Attribute (.Name x px) "append" apos) [e] [] pos) spos) (xApp k f) := by
  intro A env h₀ s σ as fl σ' Q hA F e1 h
  unfold xApp at e1
  cases hs : σ[k]? with
  | none => rw [hs] at e1; cases e1
  | some sl =>
    cases sl with
    | un => rw [hs] at e1; cases e1
    | fz p => rw [hs] at e1; cases e1
    | fr pl xs => rw [hs] at e1; cases e1
    | ow pl xs =>
      cases pl with
      | false => rw [hs] at e1; cases e1
      | true =>
        rw [hs] at e1
        cases hf : f σ with
        | none => simp only [hf] at e1; cases e1
        | some r =>
          simp only [hf] at e1
          split at e1
          · rename_i hc
            cases e1
            obtain ⟨a, ha, hv, hz, vs, hl, hr⟩ := F.slotOw hx hs
            obtain ⟨pl, hpl⟩ := heq env
            refine wpAny_Expr (MethodCall_ (pl := pl) (wpAny_Name (loadName_any F.fb hv ?_) hd) hpl) (notInteractive F.fb.kind) rfl
            obtain ⟨n0, hp0⟩ := hl.2 rfl
            refine Calls.getMethod_list_append hp0 rfl rfl (callWith_method1 (args_cons (he A env _ h₀ s σ as r _ hA F hf fun v h' tk hk hr' => args_nil ?_) (starEach_cons hn)) (starEach_cons hn) rfl)
            have F' := F.ext hk
            refine wpAny_list_append_plain (s := { s with heap := h', toks := tk }) (l := a) (items := vs.toArray) ((hl.keep hk).2 rfl) (fun h'' hl'' hsb => ?_) (by rw [sizeLine_eq, List.size_toArray, hr.length]; omega)
            have hl2 : LstB h'' a true (vs ++ [v]) := by
              have e : (vs.toArray.push v) = (vs ++ [v]).toArray := by simp
              rw [e] at hl''
              exact ⟨hl''.isList, fun _ => hl''⟩
            have hrr : RepL (memAs as) h'' (xs ++ [r.pv]) (vs ++ [v]) := by
              have h1 : RepL (memAs as) h'' xs vs := RepL.move (fun b o hb _ e => hsb.extBut b o (fun e' => hb (e' ▸ List.mem_of_getElem? ha)) (hk b o e)) (fun _ e => .inl e) _ _ hr
              exact h1.append (RepL.cons (hr'.rep0.of_scalar hc.1) RepL.nil)
            refine h .next h'' tk as ((Step.of_keep hk).trans (Step.mutated hsb (List.mem_of_getElem? ha) (let ⟨o, ho, _⟩ := hl2.1; ⟨o, ho⟩))) (F'.mutated hx ha hs hsb hl2 hrr ?_) rfl
            rw [List.length_append]; simp; omega
          · cases e1

theorem sS_appO {x y : Str} {px py apos pos spos : Pos} (k j : Nat) (hx : C.names[k]? = some x) (hy : C.names[j]? = some y)
    (heq : ∀ env, ∃ pl, eval (.Call (.Attribute (.Name x px) "append" apos) [.Name y py] [] pos) env = (do
      let ov ← eval (.Name x px) env
      standAt apos.atName
      let (f, first) ← holding [ov] (getMethod ov "append" pl)
      callWith pos f first (backTo pos (starEach [.Name y py] env)) []) := by intro _; exact ⟨_, rfl⟩)
    (hd : (x == ("__debug__" : Str)) = false := by decide) (hd2 : (y == ("__debug__" : Str)) = false := by decide) : SndS G C (.Expr (.Call (.Attribute (.Name x px) "append" apos) [.Name y py] [] pos) spos) (xAppO k j) := by
  intro A env h₀ s σ as fl σ' Q hA F e1 h
  unfold xAppO at e1
  cases hs : σ[k]? with
  | none => rw [hs] at e1; cases e1
  | some sl =>
    cases sl with
    | un => rw [hs] at e1; cases e1
    | fz p => rw [hs] at e1; cases e1
    | fr pl xs => rw [hs] at e1; cases e1
    | ow pl xs =>
      cases pl with
      | false => rw [hs] at e1; cases e1
      | true =>
        rw [hs] at e1
        cases hsj : σ[j]? with
        | none => simp only [hsj] at e1; cases e1
        | some sj =>
          cases sj with
          | un => simp only [hsj] at e1; cases e1
          | fz p => simp only [hsj] at e1; cases e1
          | fr pl xs => simp only [hsj] at e1; cases e1
          | ow plj ys =>
            simp only [hsj] at e1
            split at e1
            · rename_i hc
              cases e1
              obtain ⟨a, ha, hv, hz, vs, hl, hr⟩ := F.slotOw hx hs
              obtain ⟨b, hb, hvb, hzb, ws, hlb, hrb⟩ := F.slotOw hy hsj
              obtain ⟨pl, hpl⟩ := heq env
              obtain ⟨F1, hrep⟩ := F.released hy hb hsj
              refine wpAny_Expr (MethodCall_ (pl := pl) (wpAny_Name (loadName_any F.fb hv ?_) hd) hpl) (notInteractive F.fb.kind) rfl
              obtain ⟨n0, hp0⟩ := hl.2 rfl
              refine Calls.getMethod_list_append hp0 rfl rfl (callWith_method1 (args_cons (wpAny_Name (loadName_any F.fb hvb (args_nil ?_)) hd2) rfl) rfl rfl)
              refine wpAny_list_append_plain (l := a) (items := vs.toArray) (hl.2 rfl) (fun h'' hl'' hsb => ?_) (by rw [sizeLine_eq, List.size_toArray, hr.length]; omega)
              have hl2 : LstB h'' a true (vs ++ [.ref b]) := by
                have e : (vs.toArray.push (Value.ref b)) = (vs ++ [Value.ref b]).toArray := by simp
                rw [e] at hl''
                exact ⟨hl''.isList, fun _ => hl''⟩
              have ha1 : (as.set j .none)[k]? = some (some a) := by rw [List.getElem?_set_ne (Ne.symm hc.1)]; exact ha
              have hs1 : (σ.set j (.fz (.list ys)))[k]? = some (.ow true xs) := by rw [List.getElem?_set_ne (Ne.symm hc.1)]; exact hs
              have hma : memAs (as.set j .none) a := List.mem_of_getElem? ha1
              have hmv : ∀ c o, ¬ memAs (as.set j .none) c → isSeq o → s.heap.get? c = some o → h''.get? c = some o := fun c o hc' _ e => hsb.extBut c o (fun e' => hc' (e' ▸ hma)) e
              have hrr : RepL (memAs (as.set j .none)) h'' (xs ++ [.list ys]) (vs ++ [.ref b]) :=
                (RepL.move hmv (fun _ e => .inl e) _ _ (hr.weak fun c hc' => mem_set_none hc')).append (RepL.cons (Rep.move hmv (fun _ e => .inl e) _ _ hrep) RepL.nil)
              refine h .next h'' s.toks (as.set j .none) ?_ (F1.mutated hx ha1 hs1 hsb hl2 hrr (by rw [List.length_append]; simp; omega)) rfl
              have st := Step.mutated (env := env) hsb (List.mem_of_getElem? ha) (let ⟨o, ho, _⟩ := hl2.1; ⟨o, ho⟩)
              exact ⟨st.keep, fun c hc' => .inl (mem_set_none hc'), st.dom⟩
            · cases e1

theorem sS_set {x : Str} {px ipos pos : Pos} {i e : Expr} {fi fe : XE} (k : Nat) (he : SndE G C e fe) (hi : SndE G C i fi) (hx : C.names[k]? = some x)
    (hs' : ∀ env, swapsWith e (some (.Subscript (.Name x px) i ipos)) pos.line env = pure false := by intro _; rfl)
    (hd : (x == ("__debug__" : Str)) = false := by decide) : SndS G C (.Assign [.Subscript (.Name x px) i ipos] e pos) (xSet k fi fe) := by
  intro A env h₀ s σ as fl σ' Q hA F e1 h
  unfold xSet at e1
  cases hs : σ[k]? with
  | none => rw [hs] at e1; cases e1
  | some sl =>
    cases sl with
    | un => rw [hs] at e1; cases e1
    | fz p => rw [hs] at e1; cases e1
    | fr pl xs => rw [hs] at e1; cases e1
    | ow pl xs =>
      rw [hs] at e1
      cases hf : fe σ with
      | none => simp only [hf] at e1; cases e1
      | some r =>
        cases hfi : fi σ with
        | none => simp only [hf, hfi] at e1; cases e1
        | some ri =>
          simp only [hf, hfi] at e1
          cases hp : ri.pv <;> simp only [hp] at e1 <;> try cases e1
          rename_i n
          split at e1
          · rename_i hc
            cases e1
            refine wpAny_Assign_Subscript (he A env _ h₀ s σ as r _ hA F hf fun v h1 tk1 hk1 hr1 => ?_) (hs' env)
            have F1 := F.ext hk1
            obtain ⟨a, ha, hv, hz, vs, hl, hr⟩ := F1.slotOw hx hs
            refine wpAny_Name (loadName_any (s := { s with heap := h1, toks := tk1 }) F1.fb hv (hi A env _ h₀ _ σ as ri _ hA F1 hfi fun vi h2 tk2 hk2 hr2 => ?_)) hd
            obtain ⟨t, rfl⟩ := hr2.asInt hp
            have F2 := F1.ext hk2
            have hl2 := (hl.keep hk2).1
            have hlen := hr.length
            refine wpAny_setItem_list (s := { s with heap := h2, toks := tk2 }) hl2 hc.2.1 (by omega) (by rw [List.size_toArray]; omega) fun h3 hl3 hsb => ?_
            have hl4 : LstB h3 a false (vs.set n.toNat v) := by
              have e : (vs.toArray.setIfInBounds n.toNat v) = (vs.set n.toNat v).toArray := by simp
              rw [e] at hl3
              exact ⟨hl3, fun e => by cases e⟩
            have hrr : RepL (memAs as) h3 (xs.set n.toNat r.pv) (vs.set n.toNat v) := by
              have h1 : RepL (memAs as) h3 xs vs := RepL.move (fun b o hb _ e => hsb.extBut b o (fun e' => hb (e' ▸ List.mem_of_getElem? ha)) (hk2 b o e)) (fun _ e => .inl e) _ _ hr
              exact h1.set (hr1.rep0.of_scalar hc.1) _
            refine h .next h3 tk2 as ((Step.of_keep (hk1.trans hk2)).trans (Step.mutated hsb (List.mem_of_getElem? ha) (let ⟨o, ho, _⟩ := hl4.1; ⟨o, ho⟩))) (F2.mutated hx ha hs hsb hl4 hrr (by rw [List.length_set]; exact hz)) rfl
          · cases e1

theorem sS_asg2 {x y : Str} {px py pos : Pos} {e : Expr} {f : XE} (k1 k2 : Nat) (he : SndE G C e f) (hx : C.names[k1]? = some x) (hk : C.kf x = some .local ∨ C.kf x = some .cell)
    (hy : C.names[k2]? = some y) (hky : C.kf y = some .local ∨ C.kf y = some .cell) : SndS G C (.Assign [.Name x px, .Name y py] e pos) (xAsg2 k1 k2 f) := by
  intro A env h₀ s σ as fl σ' Q hA F e1 h
  unfold xAsg2 at e1
  cases hf : f σ with
  | none => simp only [hf] at e1; cases e1
  | some r =>
    cases r with
    | un => simp only [hf] at e1; cases e1
    | ow pl xs => simp only [hf] at e1; cases e1
    | fr pl xs => simp only [hf] at e1; cases e1
    | fz p =>
      simp only [hf] at e1
      split at e1
      · rename_i hsc
        cases e1
        refine wpAny_Assign_two (he A env _ h₀ s σ as _ _ hA F hf fun v h1 tk1 hk1 hr1 => ?_)
        refine wpAny_assign_Name (store_still (s := { s with heap := h1, toks := tk1 }) (F.ext hk1) hx hk hr1 fun h2 tk2 sd2 F2 => ?_)
        refine wpAny_assign_Name (store_still (s := { s with heap := h2, toks := tk2 }) F2 hy hky (Rep.of_scalar hsc hr1) fun h3 tk3 sd3 F3 => ?_)
        exact h .next h3 tk3 _ (((Step.of_keep hk1).stored sd2).stored sd3) F3 rfl
      · cases e1

theorem swapped_two {a b : Str} {pa pb pa' pb' tpos vpos : Pos} {k k' : Nat} {env : Env} (hk : env.scope.kind = .function) (ha : env.kindOf a = some .local) (hb : env.kindOf b = some .local) (hl : (pa.line == pb.line) = true) (hab : (a == b) = false)
    (hda : (a == ("__debug__" : Str)) = false) (hdb : (b == ("__debug__" : Str)) = false) :
    swappedStores [.Tuple [.Name a pa, .Name b pb] k tpos] (.Tuple [.Name b pb', .Name a pa'] k' vpos) env = pure (some [a, b]) := by
  have hl' : (pb.line == pa.line) = true := by rw [beq_iff_eq] at hl ⊢; exact hl.symm
  have hbk : env.blockKind = .function := by unfold Env.blockKind; rw [hk]; rfl
  have hba : (b == a) = false := by
    cases h : b == a
    · rfl
    · rw [beq_iff_eq.mp h] at hab; simp at hab
  unfold swappedStores
  simp only [hbk, ha, hb, List.length_cons, List.length_nil, List.any_cons, List.any_nil, List.filterMap_cons, List.filterMap_nil, List.all_cons, List.all_nil, foldedForSure, constantsAlone, Expr.pos, List.head?_cons, Option.map_some, Option.getD_some, hl', hda, hdb,
    beq_self_eq_true, Bool.and_true, Bool.and_false, Bool.or_false, if_true, Bool.false_eq_true, if_false, bne_self_eq_false, List.eraseDups_cons, hba, List.filter_cons, List.filter_nil, List.eraseDups_nil, Bool.not_false, pure_bind, bind_pure, decide_true]
  rfl

theorem sS_swap {a b : Str} {pa pb pa' pb' tpos vpos pos : Pos} {n n' : Nat} (ka kb : Nat) (hna : C.names[ka]? = some a) (hnb : C.names[kb]? = some b) (hka : C.kf a = some .local) (hkb : C.kf b = some .local)
    (hl : (pa.line == pb.line) = true := by rfl) (hab : (a == b) = false := by decide) (hda : (a == ("__debug__" : Str)) = false := by decide) (hdb : (b == ("__debug__" : Str)) = false := by decide) :
    SndS G C (.Assign [.Tuple [.Name a pa, .Name b pb] n tpos] (.Tuple [.Name b pb', .Name a pa'] n' vpos) pos) (xSwap ka kb) := by
  intro A env h₀ s σ as fl σ' Q hA F e1 h
  unfold xSwap at e1
  cases hsa : σ[ka]? with
  | none => simp only [hsa] at e1; cases e1
  | some sa =>
    cases sa with
    | un => simp only [hsa] at e1; cases e1
    | ow pl xs => simp only [hsa] at e1; cases e1
    | fr pl xs => simp only [hsa] at e1; cases e1
    | fz p =>
      cases hsb : σ[kb]? with
      | none => simp only [hsa, hsb] at e1; cases e1
      | some sb =>
        cases sb with
        | un => simp only [hsa, hsb] at e1; cases e1
        | ow pl xs => simp only [hsa, hsb] at e1; cases e1
        | fr pl xs => simp only [hsa, hsb] at e1; cases e1
        | fz q =>
          simp only [hsa, hsb] at e1
          split at e1
          · rename_i hc
            cases e1
            obtain ⟨va, hva, hra⟩ := F.slotFz hna hsa
            obtain ⟨vb, hvb, hrb⟩ := F.slotFz hnb hsb
            refine Assign_Tuple_swapped (names := [a, b]) (Tuple_ (args_cons (wpAny_Name (loadName_any F.fb hvb (args_cons (wpAny_Name (loadName_any F.fb hva (args_nil ?_)) hda) rfl)) hdb) rfl)) rfl
              (swapped_two F.fb.kind ((F.kf a).trans hka) ((F.kf b).trans hkb) hl hab hda hdb)
            refine wpAny_newObj_type ?_ (by show ([vb, va] : List Value).toArray.size ≤ _; rw [sizeLine_eq]; simp)
            have hk0 := Keep.push s.heap { cls := .type "tuple", data := .seq ([vb, va] : List Value).toArray }
            have F0 := F.ext hk0
            refine unpackItems_tuple (items := ([vb, va] : List Value).toArray) hA.hh ⟨_, Heap.get?_push_size _ rfl, rfl, _, rfl⟩ fun h1 he1 => ?_
            have hk1 : Keep s.heap h1 := fun b o e => he1 b o (Nat.ne_of_lt (Heap.lt_size (hk0 b o e))) (hk0 b o e)
            show wpAny _ A (assignInOrder [bindName env b, bindName env a] [va, vb]) _ _ _
            refine wpAny_bind (wpAny_holding (wpAny_bindName (store_still (s := { s with heap := h1 }) (F.ext hk1) hnb (.inl hkb) (hra.keep hk1) fun h2 tk2 sd2 F2 => ?_)))
            refine wpAny_bind (wpAny_holding (wpAny_bindName (store_still (s := { s with heap := h2, toks := tk2 }) F2 hna (.inl hka) (Rep.of_scalar hc.2 hrb) fun h3 tk3 sd3 F3 => wpAny_pure ?_)))
            exact h .next h3 tk3 _ (((Step.of_keep hk1).stored sd2).stored sd3) F3 rfl
          · cases e1

/-! what is gone through -/
noncomputable def xRange1 (f : XE) : List Slot → Option (List PV) := fun σ => match f σ with
  | some r => match r.pv with
    | .int n => if -1048576 ≤ n ∧ n < 1048576 then some ((List.range n.toNat).map fun i => .int (i : Nat)) else .none
    | _ => .none
  | .none => .none
noncomputable def xRange2 (f1 f2 : XE) : List Slot → Option (List PV) := fun σ => match f1 σ with
  | some r1 => match f2 σ with
    | some r2 => match r1.pv with
      | .int a => match r2.pv with
        | .int b => if -1048576 ≤ a ∧ a < 1048576 ∧ -1048576 ≤ b ∧ b < 1048576 ∧ (b - a).toNat ≤ 1048576 then some ((List.range (b - a).toNat).map fun i => .int (a + (i : Nat))) else .none
        | _ => .none
      | _ => .none
    | .none => .none
  | .none => .none
/-- over a list that stands still, or a text -/
noncomputable def xItems (f : XE) : List Slot → Option (List PV) := fun σ => match f σ with
  | some (.fz (.list ps)) => some ps
  | some (.fr _ ps) => some ps
  | some (.fz (.str x)) => some (x.cps.toList.map fun c => .str ⟨#[c]⟩)
  | _ => .none

theorem fresh_none (h : Heap) : h.get? h.objs.size = .none := by
  cases e : h.get? h.objs.size with
  | none => rfl
  | some o => exact absurd (Heap.lt_size e) (Nat.lt_irrefl _)

/-- an iterator new on the heap lies apart from the frame and from U -/
theorem new_apart {env : Env} {U : AS} {h0 h : Heap} (fb : FrameB env h0) (hU : ∀ c, U c → h0.get? c ≠ .none) (hk : Keep h0 h) : ¬ FA env h.objs.size ∧ ¬ U h.objs.size :=
  ⟨fun hf => by
    obtain ⟨o, ho⟩ := fb.some hf
    exact Nat.lt_irrefl _ (Heap.lt_size (hk _ _ ho)), fun hu => hU _ hu (hk.none (fresh_none h))⟩

theorem range_walk {A : Around} {env : Env} {U : AS} {h0 h : Heap} {a b : Int} {n : Nat} (hh : A.handled = .none) (fb : FrameB env h0) (hU : ∀ c, U c → h0.get? c ≠ .none) (hk : Keep h0 h) (hn : Builtin.Range.rangeSize a b 1 = (n : Int)) :
    WalkOk G A env U h0 ((List.range n).map fun i => PV.int (a + (i : Nat))) h.objs.size [h.objs.size] [h.objs.size] (fun i v => ∃ t, v = .int (a + i * 1) t)
      (fun i h' => IsRangeIter h' h.objs.size (a + (i : Nat) * 1) ((n : Int) - (i : Nat)) 1) (h.push { cls := .type "range_iterator", data := .fields #[rawInt a, rawInt (Builtin.Range.rangeSize a b 1), rawInt 1] }) where
  w := by
    rw [List.length_map, List.length_range]
    exact Walks.range hh _ a 1 n
  st := by
    have e : a + ((0 : Nat) : Int) * 1 = a := by simp
    have e2 : (n : Int) - ((0 : Nat) : Int) = Builtin.Range.rangeSize a b 1 := by rw [hn]; simp
    rw [e, e2]
    exact Heap.get?_push_size _ rfl
  foot := fun c hc => by rw [List.mem_singleton.mp hc]; exact new_apart fb hU hk
  ex := fun i h' st c hc => by rw [List.mem_singleton.mp hc]; exact ⟨_, st⟩
  new := fun c hc => by rw [List.mem_singleton.mp hc]; exact hk.none (fresh_none h)
  ns := fun i h' st c hc o ho => by
    rw [List.mem_singleton.mp hc] at ho
    have st' : h'.get? h.objs.size = some _ := st
    rw [st'] at ho
    cases ho
    rintro ⟨xs, m, hd⟩
    cases hd
  item := fun i v hi hP => by
    rw [List.length_map, List.length_range] at hi
    obtain ⟨t, rfl⟩ := hP
    exact ⟨.int (a + (i : Nat)), by simp [hi], ⟨t, by simp⟩⟩

theorem sI_range1 {p pos : Pos} {e : Expr} {f : XE} (hx : C.kf "range" = some .globalImplicit) (hb : G.mg "range" = .none ∧ G.mb "range" = some (.type "range")) (he : SndE G C e f) (hn : noStar e = true := by rfl) :
    SndI G C (.Call (.Name "range" p) [e] [] pos) (xRange1 f) := by
  intro A env U h₀ s σ as ps Q hA F e1 h
  unfold xRange1 at e1
  cases hf : f σ with
  | none => simp only [hf] at e1; cases e1
  | some r =>
    simp only [hf] at e1
    cases hp : r.pv <;> simp only [hp] at e1 <;> try cases e1
    rename_i n
    split at e1
    · rename_i hc
      cases e1
      refine Call_Name' (F.globB hx hb (by decide) (callWith_type1 (args_cons (he A env U h₀ s σ as r _ hA F hf fun v h' tk hk hr => args_nil ?_) (starEach_cons hn)) (starEach_cons hn) rfl))
      obtain ⟨t, rfl⟩ := hr.asInt hp
      refine call_range_1 (s := { s with heap := h', toks := tk }) ?_
      refine wpAny_pyIter_range (IsRange.new ..) (small_one (by decide) (by decide) (by omega) (by omega)) ?_
      have hk2 := hk.trans (Keep.push h' { cls := .type "range", data := .fields #[.int 0 tk, .int n t, .int 1 (tk + 1)] })
      have hsz : Builtin.Range.rangeSize 0 n 1 = (n.toNat : Int) := by rw [rangeSize_one]; split <;> omega
      have W := range_walk (G := G) (A := A) (a := 0) (b := n) hA.hh F.fb F.dom hk2 hsz
      have e3 : (fun i : Nat => PV.int (0 + (i : Nat))) = fun i : Nat => PV.int (i : Nat) := by funext i; simp
      rw [e3] at W
      exact h _ _ _ _ _ _ _ (hk2.trans (Keep.push _ _)) W
    · cases e1

theorem sI_range2 {p pos : Pos} {ea eb : Expr} {f1 f2 : XE} (hx : C.kf "range" = some .globalImplicit) (hb : G.mg "range" = .none ∧ G.mb "range" = some (.type "range")) (h1 : SndE G C ea f1) (h2 : SndE G C eb f2)
    (hn : noStar ea = true := by rfl) (hn2 : noStar eb = true := by rfl) : SndI G C (.Call (.Name "range" p) [ea, eb] [] pos) (xRange2 f1 f2) := by
  intro A env U h₀ s σ as ps Q hA F e1 h
  unfold xRange2 at e1
  cases hf : f1 σ with
  | none => simp only [hf] at e1; cases e1
  | some r1 =>
    cases hf2 : f2 σ with
    | none => simp only [hf, hf2] at e1; cases e1
    | some r2 =>
      simp only [hf, hf2] at e1
      cases hp : r1.pv <;> simp only [hp] at e1 <;> try cases e1
      rename_i a
      cases hp2 : r2.pv <;> simp only [hp2] at e1 <;> try cases e1
      rename_i b
      split at e1
      · rename_i hc
        cases e1
        refine Call_Name' (F.globB hx hb (by decide) (callWith_type1 (args_cons (h1 A env U h₀ s σ as r1 _ hA F hf fun v h' tk hk hr => args_cons (h2 A env U h₀ _ σ as r2 _ hA (F.ext hk) hf2 fun v2 h'' tk' hk' hr' => args_nil ?_) (starEach_cons hn2)) (starEach_cons hn))
          (starEach_cons hn) (by rw [starEach_cons hn2]; rfl)))
        obtain ⟨t, rfl⟩ := hr.asInt hp
        obtain ⟨u, rfl⟩ := hr'.asInt hp2
        refine call_range_2 (s := { s with heap := h'', toks := tk' }) ?_
        refine wpAny_pyIter_range (IsRange.new ..) (small_one (by omega) (by omega) (by omega) (by omega)) ?_
        have hk2 := (hk.trans hk').trans (Keep.push h'' { cls := .type "range", data := .fields #[.int a t, .int b u, .int 1 tk'] })
        have hsz : Builtin.Range.rangeSize a b 1 = ((b - a).toNat : Int) := by rw [rangeSize_one]; split <;> omega
        exact h _ _ _ _ _ _ _ (hk2.trans (Keep.push _ _)) (range_walk (G := G) (A := A) (a := a) (b := b) hA.hh F.fb F.dom hk2 hsz)
      · cases e1

theorem repL_item {U : AS} {h : Heap} {ps : List PV} {vs : List Value} (r : RepL U h ps vs) {i : Nat} {v : Value} (hv : vs[i]? = some v) : ∃ p, ps[i]? = some p ∧ Rep U h p v := by
  have hlt : i < ps.length := by rw [← r.length]; exact (List.getElem?_eq_some_iff.mp hv).1
  obtain ⟨v', hv', hr⟩ := r.get i _ (List.getElem?_eq_getElem hlt)
  rw [hv] at hv'; cases hv'
  exact ⟨_, List.getElem?_eq_getElem hlt, hr⟩

theorem sI_items {e : Expr} {f : XE} (he : SndE G C e f) : SndI G C e (xItems f) := by
  intro A env U h₀ s σ as ps Q hA F e1 h
  unfold xItems at e1
  cases hf : f σ with
  | none => simp only [hf] at e1; cases e1
  | some r =>
    refine he A env U h₀ s σ as r _ hA F hf fun v h' tk hk hr => ?_
    have list_case : ∀ (a : Addr) (vs : List Value), v = .ref a → ¬ U a → ¬ FA env a → h'.IsList a vs.toArray → RepL U h' ps vs → wpAny (model G.prog G.w) A (pyIter v) Q NoE { s with heap := h', toks := tk } := by
      intro a vs hv hna hfa hl hrl
      subst hv
      refine wpAny_pyIter_list (s := { s with heap := h', toks := tk }) hl ?_
      have hne : a ≠ h'.objs.size := by obtain ⟨o, ho, _⟩ := hl; exact Nat.ne_of_lt (Heap.lt_size ho)
      have hkp := Keep.push h' { cls := .type "list_iterator", data := .fields #[.ref a, .int 0 0] }
      refine h _ [h'.objs.size, a] [h'.objs.size] (fun i v => vs.toArray[i]? = some v) (fun i hh => hh.IsListIter h'.objs.size a i ∧ hh.IsList a vs.toArray) _ _ (hk.trans hkp) ⟨?_, ⟨⟨_, Heap.get?_push_size _ rfl, rfl, rfl⟩, hl.push _⟩, fun c hc => ?_, fun i hh st c hc => ?_, fun c hc => ?_, fun i hh st c hc o ho => ?_, fun i v hi hP => ?_⟩
      · have := Walks.list (prog := G.prog) (w := G.w) hA.hh h'.objs.size a hne vs.toArray
        have e : vs.toArray.size = ps.length := by rw [List.size_toArray]; exact hrl.length
        rw [e] at this
        exact this
      · simp only [List.mem_cons, List.not_mem_nil, or_false] at hc
        rcases hc with rfl | rfl
        · exact new_apart F.fb F.dom hk
        · exact ⟨hfa, hna⟩
      · simp only [List.mem_cons, List.not_mem_nil, or_false] at hc
        rcases hc with rfl | rfl
        · obtain ⟨o, ho, _⟩ := st.1; exact ⟨o, ho⟩
        · obtain ⟨o, ho, _⟩ := st.2; exact ⟨o, ho⟩
      · rw [List.mem_singleton.mp hc]; exact hk.none (fresh_none h')
      · rw [List.mem_singleton.mp hc] at ho
        obtain ⟨o', ho', _, hd⟩ := st.1
        rw [ho'] at ho; cases ho
        rintro ⟨xs, m, hd'⟩
        rw [hd] at hd'; cases hd'
      · have hP' : vs[i]? = some v := by simpa using hP
        obtain ⟨p, hp, hrp⟩ := repL_item hrl hP'
        exact ⟨p, hp, hrp.keep hkp⟩
    cases r with
    | un => simp only [hf] at e1; cases e1
    | ow pl xs => simp only [hf] at e1; cases e1
    | fr pl xs =>
      simp only [hf] at e1
      cases e1
      obtain ⟨a, vs, hv, hn, hl, hrl, hz⟩ := hr
      refine list_case a vs hv (fun hu => F.dom a hu hn) (fun hfa => ?_) hl.1 (hrl.weak fun _ hb => .inl hb)
      obtain ⟨o, ho⟩ := F.fb.some hfa
      rw [ho] at hn; cases hn
    | fz p =>
      cases p with
      | none => simp only [hf] at e1; cases e1
      | bool b => simp only [hf] at e1; cases e1
      | int b => simp only [hf] at e1; cases e1
      | tup b => simp only [hf] at e1; cases e1
      | list xs =>
        simp only [hf] at e1
        cases e1
        have hr' : Rep U h' (.list ps) v := hr
        simp only [Rep] at hr'
        obtain ⟨a, vs, hv, hn, hl, hrl, hz⟩ := hr'
        refine list_case a vs hv hn (fun hfa => ?_) hl hrl
        obtain ⟨o, ho, _, m, hd⟩ := hl
        exact (F.ext hk).fb.notSeq hfa ho ⟨_, m, hd⟩
      | str x =>
        simp only [hf] at e1
        cases e1
        obtain ⟨⟨t, rfl⟩, hz⟩ := rep_str (U := U) (h := h') hr
        have hlen : (x.cps.toList.map fun c => PV.str ⟨#[c]⟩).length = x.cps.size := by simp
        have hitem : ∀ (h'' : Heap) i v, SignAt x i v → ∃ p, (x.cps.toList.map fun c => PV.str ⟨#[c]⟩)[i]? = some p ∧ Rep U h'' p v := fun h'' i v hP => by
          obtain ⟨c, u, hc, rfl⟩ := hP
          exact ⟨.str ⟨#[c]⟩, by simp [hc], ⟨⟨u, rfl⟩, by show (#[c] : Array Nat).size ≤ _; simp⟩⟩
        cases ha : x.cps.all (· < 128)
        · refine wpAny_pyIter_wide ha ?_
          refine h _ [h'.objs.size] [h'.objs.size] (SignAt x) (fun i hh => hh.IsStrIter h'.objs.size "str_iterator" x t i) _ _ (hk.trans (Keep.push _ _)) ⟨?_, ⟨_, Heap.get?_push_size _ rfl, rfl, rfl⟩, fun c hc => ?_, fun i hh st c hc => ?_, fun c hc => ?_, fun i hh st c hc o ho => ?_, fun i v hi hP => hitem _ i v hP⟩
          · rw [hlen]; exact Walks.strWide hA.hh _ x t
          · rw [List.mem_singleton.mp hc]; exact new_apart F.fb F.dom hk
          · rw [List.mem_singleton.mp hc]; obtain ⟨o, ho, _⟩ := st; exact ⟨o, ho⟩
          · rw [List.mem_singleton.mp hc]; exact hk.none (fresh_none h')
          · rw [List.mem_singleton.mp hc] at ho
            obtain ⟨o', ho', _, hd⟩ := st
            rw [ho'] at ho; cases ho
            rintro ⟨xs, m, hd'⟩
            rw [hd] at hd'; cases hd'
        · refine wpAny_pyIter_ascii ha ?_
          refine h _ [h'.objs.size] [h'.objs.size] (SignAt x) (fun i hh => hh.IsStrIter h'.objs.size "str_ascii_iterator" x t i) _ _ (hk.trans (Keep.push _ _)) ⟨?_, ⟨_, Heap.get?_push_size _ rfl, rfl, rfl⟩, fun c hc => ?_, fun i hh st c hc => ?_, fun c hc => ?_, fun i hh st c hc o ho => ?_, fun i v hi hP => hitem _ i v hP⟩
          · rw [hlen]; exact Walks.strAscii hA.hh _ x t
          · rw [List.mem_singleton.mp hc]; exact new_apart F.fb F.dom hk
          · rw [List.mem_singleton.mp hc]; obtain ⟨o, ho, _⟩ := st; exact ⟨o, ho⟩
          · rw [List.mem_singleton.mp hc]; exact hk.none (fresh_none h')
          · rw [List.mem_singleton.mp hc] at ho
            obtain ⟨o', ho', _, hd⟩ := st
            rw [ho'] at ho; cases ho
            rintro ⟨xs, m, hd'⟩
            rw [hd] at hd'; cases hd'

end Mine
end

section
open PySem PyProof.Rows
set_option Elab.async false
set_option linter.unusedVariables false
set_option linter.unusedSimpArgs false
namespace Mine
variable {G : GP} {C : Ctx}

/-! displays -/
noncomputable def xList (fs : XA) : XE := fun σ => match fs σ with
  | some rs => if (rs.all fun r => r.pv.scalar) = true ∧ rs.length ≤ 1048576 then some (.fr true (rs.map Slot.pv)) else .none
  | .none => .none

theorem RepL.scalars {U U' : AS} {h h' : Heap} {rs : List Slot} {vs : List Value} (hs : (rs.all fun r => r.pv.scalar) = true) (r : RepL U h (rs.map Slot.pv) vs) : RepL U' h' (rs.map Slot.pv) vs :=
  r.of_scalar fun p hp => by
    obtain ⟨x, hx, rfl⟩ := List.mem_map.mp hp
    exact List.all_eq_true.mp hs x hx

theorem sE_list {es : List Expr} {pos : Pos} {fs : XA} (ha : SndA G C es fs) : SndE G C (.List es pos) (xList fs) := by
  intro A env U h₀ s σ as r Q hA F e1 h
  unfold xList at e1
  cases hf : fs σ with
  | none => simp only [hf] at e1; cases e1
  | some rs =>
    simp only [hf] at e1
    split at e1
    · rename_i hc
      cases e1
      refine List_ (ha.2 A env U h₀ s σ as rs _ pos hA F hf fun vs h' tk hk hrs => ?_)
      have hlen : vs.length = rs.length := by have := hrs.rep0.length; simpa using this
      refine wpAny_newObj_type ?_ (by show vs.toArray.size ≤ sizeLine; rw [sizeLine_eq, List.size_toArray]; omega)
      refine h _ _ tk (hk.trans (Keep.push _ _)) (fresh_list hk (RepL.scalars hc.1 hrs.rep0) rfl (by rw [List.length_map]; exact hc.2))
    · cases e1

/-! a list so many times -/
noncomputable def xRepl (f1 f2 : XE) : XE := fun σ => match f1 σ with
  | some (.fr true xs) => match f2 σ with
    | some r2 => match r2.pv with
      | .int n => if xs.length = 1 ∧ n ≤ 1048576 ∧ -1048576 ≤ n then some (.fr true ((List.replicate n.toNat xs).flatten)) else .none
      | _ => .none
    | .none => .none
  | _ => .none

theorem foldl_append {α : Type} : ∀ (l : List (Array α)) (acc : Array α), (l.foldl (fun x1 x2 => x1 ++ x2) acc).toList = acc.toList ++ (l.map Array.toList).flatten
  | [], acc => by simp
  | a :: l, acc => by rw [List.foldl_cons, foldl_append l]; simp

theorem RepL.flatten {U : AS} {h : Heap} {xs : List PV} {vs : List Value} (r : RepL U h xs vs) : ∀ n : Nat, RepL U h ((List.replicate n xs).flatten) ((List.replicate n vs).flatten)
  | 0 => by simp [RepL]
  | n + 1 => by
    rw [List.replicate_succ, List.replicate_succ, List.flatten_cons, List.flatten_cons]
    exact r.append (RepL.flatten r n)

theorem sE_repl {a b : Expr} {pos : Pos} {f1 f2 : XE} (h1 : SndE G C a f1) (h2 : SndE G C b f2) : SndE G C (.BinOp a .Mult b pos) (xRepl f1 f2) := by
  intro A env U h₀ s σ as r Q hA F e h
  unfold xRepl at e
  cases e1 : f1 σ with
  | none => simp only [e1] at e; cases e
  | some r1 =>
    cases r1 with
    | un => simp only [e1] at e; cases e
    | fz p => simp only [e1] at e; cases e
    | ow pl p => simp only [e1] at e; cases e
    | fr pl xs =>
      cases pl with
      | false => simp only [e1] at e; cases e
      | true =>
        cases e2 : f2 σ with
        | none => simp only [e1, e2] at e; cases e
        | some r2 =>
          simp only [e1, e2] at e
          cases hp : r2.pv <;> simp only [hp] at e <;> try cases e
          rename_i n
          split at e
          · rename_i hc
            cases e
            refine wpAny_BinOp (h1 A env U h₀ s σ as _ _ hA F e1 fun v1 h' tk hk1 hr1 => h2 A env U h₀ _ σ as r2 _ hA (F.ext hk1) e2 fun v2 h'' tk' hk2 hr2 => ?_)
            obtain ⟨t, rfl⟩ := hr2.asInt hp
            have hr1' := hr1.keep hk2
            obtain ⟨l, vs, rfl, hn0, hl, hr, hz⟩ := hr1'
            obtain ⟨m, hm⟩ := hl.2 rfl
            have hlen := hr.length
            have hsz1 : vs.toArray.size = 1 := by rw [List.size_toArray]; omega
            have hsize : vs.toArray.size * n.toNat ≤ 1048576 := by rw [hsz1]; omega
            have hkk := hk1.trans hk2
            refine wpAny_binaryOp_repeat_ref (T := "list") (U := "int") (by decide) ⟨_, hm, rfl⟩ (fun s' => typeIs_int s' n t) noFill_list_mul PySem.F.fills_int_mul PySem.F.slot_int_rmul repeat_list PySem.F.slot_int_index.lookup
              (call_meets PySem.F.slot_int_rmul (typeIs_int _ n t) PySem.F.entry_int_rmul (PySem.F.args_int_rmul_2 _ _) (lm_int_rmul_list_any n t l vs.toArray m .none #[]) ⟨hm, rfl, ⟨_, hm, rfl⟩,
                call_meets PySem.F.slot_list_mul ⟨_, hm, rfl⟩ PySem.F.entry_list_mul (PySem.F.args_list_mul_2 _ _) (lm_list_mul_any l vs.toArray m .none #[] n t (by simp [Builtin.List.listFitsIndex]; omega) (by omega) (by simp only [Builtin.List.listTooLong, sizeLine_eq, decide_eq_true_eq]; omega)) ⟨hm, ?_⟩⟩)
            refine h _ _ tk' (hkk.trans (Keep.push _ _)) (fresh_list (vs := (List.replicate n.toNat vs).flatten) hkk ((hr.weak fun _ hb => .inl hb).flatten n.toNat) ?_ ?_)
            · have hne : vs.toArray.isEmpty = false := by
                cases hb : vs.toArray.isEmpty
                · rfl
                · rw [Array.isEmpty_iff] at hb; rw [hb] at hsz1; cases hsz1
              rw [hne]
              apply Array.ext'
              rw [foldl_append]
              simp [List.map_replicate]
            · have : ((List.replicate n.toNat xs).flatten).length = n.toNat * xs.length := by simp
              rw [this, hc.1]; omega
          · cases e

/-! list(range(a, b, c)) -/
noncomputable def xListRange (f1 f2 f3 : XE) : XE := fun σ => match f1 σ with
  | some r1 => match f2 σ with
    | some r2 => match f3 σ with
      | some r3 => match r1.pv with
        | .int a => match r2.pv with
          | .int b => match r3.pv with
            | .int c => if -262144 ≤ a ∧ a < 262144 ∧ -262144 ≤ b ∧ b < 262144 ∧ 0 < c ∧ c < 262144 then
                some (.fr true ((List.range (Builtin.Range.rangeSize a b c).toNat).map fun i => .int (a + (i : Nat) * c))) else .none
            | _ => .none
          | _ => .none
        | _ => .none
      | .none => .none
    | .none => .none
  | .none => .none

theorem rangeSize_bound {a b c : Int} (hc : 0 < c) (ha : -262144 ≤ a) (hb : b < 262144) (ha' : a < 262144) (hb' : -262144 ≤ b) : 0 ≤ Builtin.Range.rangeSize a b c ∧ Builtin.Range.rangeSize a b c ≤ 2 ^ 19 := by
  unfold Builtin.Range.rangeSize
  simp only [show c > 0 from hc, if_true]
  split
  · rename_i h
    have h1 : 0 ≤ (b - a - 1) / c := Int.ediv_nonneg (by omega) (by omega)
    have h2 : (b - a - 1) / c ≤ b - a - 1 := Int.ediv_le_self _ (by omega)
    omega
  · omega

theorem repL_range {U : AS} {h : Heap} {a c : Int} : ∀ {n : Nat} {acc : Array Value}, ItemsOf (fun i v => ∃ t, v = .int (a + i * c) t) acc n → RepL U h ((List.range n).map fun i => PV.int (a + (i : Nat) * c)) acc.toList := by
  intro n acc hI
  have gen : ∀ (l : List Value) (k : Nat), (∀ j v, l[j]? = some v → ∃ t, v = Value.int (a + ((k + j : Nat) : Int) * c) t) → RepL U h ((List.range' k l.length).map fun i => PV.int (a + (i : Nat) * c)) l := by
    intro l
    induction l with
    | nil => intro k _; simp [RepL]
    | cons v l ih =>
      intro k hk
      rw [List.length_cons, List.range'_succ, List.map_cons]
      obtain ⟨t, rfl⟩ := hk 0 v rfl
      refine RepL.cons ⟨t, by simp⟩ (ih (k + 1) fun j w hj => ?_)
      have := hk (j + 1) w (by simpa using hj)
      simpa [Nat.add_assoc, Nat.add_comm 1 j] using this
  have := gen acc.toList 0 fun j v hj => by
    obtain ⟨t, ht⟩ := hI.2 j v (by simpa using hj)
    exact ⟨t, by simpa using ht⟩
  rw [List.range_eq_range']
  have hl : acc.toList.length = n := by simpa using hI.1
  rw [hl] at this
  exact this

theorem sE_listRange {p1 p2 pos1 pos2 : Pos} {ea eb ec : Expr} {f1 f2 f3 : XE} (hx : C.kf "range" = some .globalImplicit) (hb : G.mg "range" = .none ∧ G.mb "range" = some (.type "range"))
    (hx2 : C.kf "list" = some .globalImplicit) (hb2 : G.mg "list" = .none ∧ G.mb "list" = some (.type "list")) (h1 : SndE G C ea f1) (h2 : SndE G C eb f2) (h3 : SndE G C ec f3)
    (hn1 : noStar ea = true := by rfl) (hn2 : noStar eb = true := by rfl) (hn3 : noStar ec = true := by rfl) :
    SndE G C (.Call (.Name "list" p1) [.Call (.Name "range" p2) [ea, eb, ec] [] pos2] [] pos1) (xListRange f1 f2 f3) := by
  intro A env U h₀ s σ as r Q hA F e1 h
  unfold xListRange at e1
  cases hf1 : f1 σ with
  | none => simp only [hf1] at e1; cases e1
  | some r1 =>
    cases hf2 : f2 σ with
    | none => simp only [hf1, hf2] at e1; cases e1
    | some r2 =>
      cases hf3 : f3 σ with
      | none => simp only [hf1, hf2, hf3] at e1; cases e1
      | some r3 =>
        simp only [hf1, hf2, hf3] at e1
        cases q1 : r1.pv <;> simp only [q1] at e1 <;> try cases e1
        rename_i a
        cases q2 : r2.pv <;> simp only [q2] at e1 <;> try cases e1
        rename_i b
        cases q3 : r3.pv <;> simp only [q3] at e1 <;> try cases e1
        rename_i c
        split at e1
        · rename_i hc
          cases e1
          refine Call_Name' (F.globB hx2 hb2 (by decide) (callWith_type1 (args_cons (Call_Name' (F.globB hx hb (by decide) (callWith_type1 (args_cons (h1 A env U h₀ s σ as r1 _ hA F hf1 fun v1 ha ta ka ra =>
            args_cons (h2 A env U h₀ _ σ as r2 _ hA (F.ext ka) hf2 fun v2 hb tb kb rb => args_cons (h3 A env U h₀ _ σ as r3 _ hA (F.ext (ka.trans kb)) hf3 fun v3 hc' tc kc rc => args_nil ?_) (starEach_cons hn3)) (starEach_cons hn2)) (starEach_cons hn1))
            (starEach_cons hn1) (by rw [starEach_cons hn2, starEach_cons hn3]; rfl)))) rfl) rfl rfl))
          obtain ⟨t1, rfl⟩ := ra.asInt q1
          obtain ⟨t2, rfl⟩ := rb.asInt q2
          obtain ⟨t3, rfl⟩ := rc.asInt q3
          refine call_range_3 (s := { s with heap := hc', toks := tc }) (by omega) (args_nil ?_) (.inl (PyProof.noPylong_small (by omega)))
          have hbnd := rangeSize_bound (a := a) (b := b) (c := c) (by omega) (by omega) (by omega) (by omega) (by omega)
          have hkk := (ka.trans kb).trans kc
          refine call_list_range (s := { s with heap := hc'.push { cls := .type "range", data := .fields #[.int a t1, .int b t2, .int c t3] }, toks := tc }) (n := (Builtin.Range.rangeSize a b c).toNat) hA.hh (IsRange.new ..) ?_ (by omega) (by omega) fun h' tk acc' c' hk' hl hI => ?_
          · have hle : c > 0 := by omega
            unfold Builtin.Range.small
            generalize Builtin.Range.rangeSize a b c = N at hbnd ⊢
            simp only [Builtin.Range.rangeFitsLong, Bool.and_eq_true, Bool.or_eq_true, decide_eq_true_eq, beq_iff_eq, hle, if_true]
            omega
          · have hk0 := hkk.trans (Keep.push hc' { cls := .type "range", data := .fields #[.int a t1, .int b t2, .int c t3] })
            refine h _ h' tk (hk0.trans hk') ⟨_, acc'.toList, rfl, hk0.none (fresh_none _), ⟨⟨_, hl, rfl, c', by simp⟩, fun _ => ⟨c', by simpa using hl⟩⟩, repL_range hI, ?_⟩
            rw [List.length_map, List.length_range]
            omega
        · cases e1

/-! x in xs, ints -/
noncomputable def pInts : List PV → Option (List Int)
  | [] => some []
  | .int i :: ps => (pInts ps).map (i :: ·)
  | _ :: _ => .none
noncomputable def pIn : PV → PV → Option PV
  | .int i, .list xs => (pInts xs).map fun ns => .bool (ns.any (· == i))
  | _, _ => .none
noncomputable def pNotIn : PV → PV → Option PV
  | .int i, .list xs => (pInts xs).map fun ns => .bool (!(ns.any (· == i)))
  | _, _ => .none

theorem intsAre_of {U : AS} {h : Heap} : ∀ {xs : List PV} {vs : List Value} {ns : List Int}, pInts xs = some ns → RepL U h xs vs → IntsAre vs ns
  | [], vs, ns, e, r => by
    simp only [RepL] at r; subst r
    cases e; exact .nil
  | p :: ps, vs, ns, e, r => by
    simp only [RepL] at r
    obtain ⟨v, vs', rfl, r1, r2⟩ := r
    cases p <;> try cases e
    rename_i i
    simp only [pInts] at e
    cases hp : pInts ps with
    | none => rw [hp] at e; cases e
    | some ms =>
      rw [hp] at e; cases e
      obtain ⟨t, rfl⟩ := rep_int r1
      exact .cons i t (intsAre_of hp r2)

theorem prim_in : Prim2 G (compareOp .In) pIn := by
  intro A s v1 v2 p1 p2 r Q hh hu r1 r2 e h
  cases p1 <;> cases p2 <;> try cases e
  rename_i i xs
  simp only [pIn] at e
  cases hp : pInts xs with
  | none => rw [hp] at e; cases e
  | some ns =>
    rw [hp] at e; cases e
    obtain ⟨t, rfl⟩ := rep_int r1
    simp only [Rep] at r2
    obtain ⟨a, vs, rfl, _, hl, hr, hz⟩ := r2
    exact in_list_ints hl (intsAre_of hp hr) (h rfl _ s.heap s.toks (.refl _) rfl)
/-! the text's own defs -/
noncomputable def Fn (G : GP) (name : Str) (dep : Nat) (f : List PV → Option PV) : Prop :=
  ∃ a, G.mg name = some (.ref a) ∧ (∀ h, Top G.p G.loose G.mean G.mg G.mb h → ∃ o fd, h.get? a = some o ∧ o.data = .func fd) ∧
    ∀ (A : Around) (s : Shared) (ps : List PV) (vs : List Value) (r : PV) (Q : Value → Shared → Prop), Top G.p G.loose G.mean G.mg G.mb s.heap → A.handled = .none → A.depth + dep < recursionLimit → A.units + 16 * dep + 64 < cLine →
      RepL None' s.heap ps vs → f ps = some r → (∀ v h' tk, Keep s.heap h' → RetOk s.heap h' r v → Q v { s with heap := h', toks := tk }) → wpAny (model G.prog G.w) A (call (.ref a) vs) Q NoE s

noncomputable def xCall (f : List PV → Option PV) (deep : Bool) (fs : XA) : XE := fun σ => match fs σ with
  | some rs => match f (rs.map Slot.pv) with
    | some (.list xs) => if deep = true ∨ (xs.all fun x => x.scalar) = true then some (.fr false xs) else .none
    | some (.tup _) => .none
    | some p => some (.fz p)
    | .none => .none
  | .none => .none

theorem sE_call {name : Str} {p pos : Pos} {e : Expr} {es : List Expr} {fs : XA} {f : List PV → Option PV} {dep : Nat} {deep : Bool} (hx : C.kf name = some .globalImplicit) (hf : Fn G name dep f) (hdep : dep ≤ C.dep)
    (ha : SndA G C (e :: es) fs) (hdeep : deep = true → C.u0 = true := by intro h; cases h) (hd : (name == ("__debug__" : Str)) = false := by decide) : SndE G C (.Call (.Name name p) (e :: es) [] pos) (xCall f deep fs) := by
  intro A env U h₀ s σ as r Q hA F e1 h
  unfold xCall at e1
  cases hfs : fs σ with
  | none => simp only [hfs] at e1; cases e1
  | some rs =>
    simp only [hfs] at e1
    obtain ⟨a, hmg, hobj, hcall⟩ := hf
    have hns := ha.1
    simp only [noStars, Bool.and_eq_true] at hns
    obtain ⟨o, fd, ho, hd0⟩ := hobj s.heap (F.top.keeps F.keep)
    have go : ∀ q, f (rs.map Slot.pv) = some q → (∀ v h' tk, Keep s.heap h' → RetOk s.heap h' q v → Q v { s with heap := h', toks := tk }) → wpAny (model G.prog G.w) A (eval (.Call (.Name name p) (e :: es) [] pos) env) Q NoE s := by
      intro q hq hQ
      refine Call_Name' (Calls.Name_function_global F.fb.kind ((F.kf name).trans hx) (Calls.loadGlobal_global (mg := G.mg) (by rw [F.gl]; exact F.top.g.keeps F.keep) hmg (callWith_def (o := o) (fd := fd) hd0 (ha.2 A env U h₀ s σ as rs _ pos hA F hfs fun vs h' tk hk hrs => ?_) (starEach_cons hns.1))) hd)
      refine ⟨hk a o ho, hcall A { s with heap := h', toks := tk } (rs.map Slot.pv) vs q Q (F.top.keeps (F.keep.trans hk)) hA.hh (by have := hA.dp; omega) (by have := hA.un; omega) hrs.rep0 hq fun v h'' tk' hk' hr => hQ v h'' tk' (hk.trans hk') ?_⟩
      cases q with
      | list xs => obtain ⟨b, ws, hv, hn, r'⟩ := hr; exact ⟨b, ws, hv, hk.none hn, r'⟩
      | tup xs => exact hr
      | none => exact hr
      | bool b => exact hr
      | int b => exact hr
      | str b => exact hr
    cases hq : f (rs.map Slot.pv) with
    | none => simp only [hq] at e1; cases e1
    | some q =>
      cases q with
      | tup xs => simp only [hq] at e1; cases e1
      | none => simp only [hq] at e1; cases e1; exact go _ hq fun v h' tk hk hr => h v h' tk hk hr
      | bool b => simp only [hq] at e1; cases e1; exact go _ hq fun v h' tk hk hr => h v h' tk hk hr
      | int b => simp only [hq] at e1; cases e1; exact go _ hq fun v h' tk hk hr => h v h' tk hk hr
      | str b => simp only [hq] at e1; cases e1; exact go _ hq fun v h' tk hk hr => h v h' tk hk hr
      | list xs =>
        simp only [hq] at e1
        split at e1
        · rename_i hc
          cases e1
          refine go _ hq fun v h' tk hk hr => h v h' tk hk ?_
          obtain ⟨b, ws, rfl, hn, hl, hrl, hz⟩ := hr
          refine ⟨b, ws, rfl, hn, ⟨hl, fun e => by cases e⟩, ?_, hz⟩
          rcases hc with hc | hc
          · exact hrl.weak fun c hcc => hcc.elim (fun hu => absurd hu (F.u0 (hdeep hc) c)) id
          · exact hrl.of_scalar fun x hx => List.all_eq_true.mp hc x hx
        · cases e1

end Mine
end

section
open PySem PyProof.Rows
set_option Elab.async false
set_option linter.unusedVariables false
set_option linter.unusedSimpArgs false
namespace Mine
variable {G : GP} {C : Ctx}

noncomputable def fnOf (n m : Nat) (g : XS) (ps : List PV) : Option PV :=
  if ps.length = n then match g (ps.map Slot.fz ++ List.replicate (m - n) .un) with
    | some (.ret p, _) => some p
    | _ => .none
  else .none

theorem bindL_skip {kf : Str → Option NameKind} {x : Str} : ∀ {binds : List (Str × Value)} {m : Str → Option Value}, (∀ y ∈ binds, y.1 ≠ x) → bindL kf binds m x = m x
  | [], _, _ => rfl
  | (n, v) :: r, m, h => by
    unfold bindL
    rw [bindL_skip fun y hy => h y (by simp [hy])]
    split
    · have := h (n, v) (by simp); simp [Ne.symm this]
    · rfl
theorem bindC_skip {kf : Str → Option NameKind} {x : Str} : ∀ {binds : List (Str × Value)} {m : Str → Option Value}, (∀ y ∈ binds, y.1 ≠ x) → bindC kf binds m x = m x
  | [], _, _ => rfl
  | (n, v) :: r, m, h => by
    unfold bindC
    rw [bindC_skip fun y hy => h y (by simp [hy])]
    split
    · rfl
    · have := h (n, v) (by simp); simp [Ne.symm this]

theorem zip_names {names : List Str} {vs : List Value} (y : Str × Value) (hy : y ∈ names.zip vs) : y.1 ∈ names := by
  obtain ⟨a, b⟩ := y
  exact (List.of_mem_zip hy).1

theorem bindL_get {kf : Str → Option NameKind} {x : Str} : ∀ {names : List Str} {vs : List Value} {m : Str → Option Value} {k : Nat} {v : Value}, names.Nodup → names[k]? = some x → vs[k]? = some v → kf x = some .local → bindL kf (names.zip vs) m x = some v
  | [], _, _, k, _, _, e, _, _ => by simp at e
  | n :: ns, [], _, k, _, _, _, e, _ => by simp at e
  | n :: ns, w :: ws, m, k, v, hn, e1, e2, hk => by
    rw [List.zip_cons_cons]
    unfold bindL
    obtain ⟨hn1, hn2⟩ := List.nodup_cons.mp hn
    cases k with
    | zero =>
      simp at e1 e2
      subst e1 e2
      rw [bindL_skip (x := n) fun y hy e => hn1 (by rw [← e]; exact zip_names y hy), if_pos hk]
      simp
    | succ k => exact bindL_get hn2 (by simpa using e1) (by simpa using e2) hk
theorem bindC_get {kf : Str → Option NameKind} {x : Str} : ∀ {names : List Str} {vs : List Value} {m : Str → Option Value} {k : Nat} {v : Value}, names.Nodup → names[k]? = some x → vs[k]? = some v → kf x = some .cell → bindC kf (names.zip vs) m x = some v
  | [], _, _, k, _, _, e, _, _ => by simp at e
  | n :: ns, [], _, k, _, _, _, e, _ => by simp at e
  | n :: ns, w :: ws, m, k, v, hn, e1, e2, hk => by
    rw [List.zip_cons_cons]
    unfold bindC
    obtain ⟨hn1, hn2⟩ := List.nodup_cons.mp hn
    cases k with
    | zero =>
      simp at e1 e2
      subst e1 e2
      rw [bindC_skip (x := n) fun y hy e => hn1 (by rw [← e]; exact zip_names y hy), if_neg (by rw [hk]; simp)]
      simp
    | succ k => exact bindC_get hn2 (by simpa using e1) (by simpa using e2) hk

theorem cellsFrom_keeps {x : Str} : ∀ (names : List (Str × NameKind)) (n : Nat) (acc : List (Str × Addr)), (∃ c, acc.lookup x = some c) → ∃ c, (cellsFrom n names acc).lookup x = some c
  | [], _, _, h => h
  | (y, kd) :: r, n, acc, h => by
    unfold cellsFrom
    split
    · refine cellsFrom_keeps r _ _ ?_
      rw [List.lookup_cons]
      cases hx : x == y with
      | true => exact ⟨n, rfl⟩
      | false => exact h
    · exact cellsFrom_keeps r _ _ h
theorem cellsFrom_some {x : Str} : ∀ (names : List (Str × NameKind)) (n : Nat) (acc : List (Str × Addr)), names.lookup x = some .cell → ∃ c, (cellsFrom n names acc).lookup x = some c
  | [], _, _, h => by simp at h
  | (y, kd) :: r, n, acc, h => by
    rw [List.lookup_cons] at h
    unfold cellsFrom
    cases hx : x == y with
    | true =>
      rw [hx] at h
      have : kd = .cell := Option.some.inj h
      subst this
      rw [if_pos (by rfl)]
      exact cellsFrom_keeps r _ _ ⟨n, by rw [List.lookup_cons, hx]⟩
    | false =>
      rw [hx] at h
      split
      · exact cellsFrom_some r _ _ h
      · exact cellsFrom_some r _ _ h

theorem fn_intro {h0 : Heap} (T0 : Top G.p G.loose G.mean G.mg G.mb h0) (d : DefRec) (hd : d ∈ recsOf G.p) (n : Nat) {g : XS} (hkf : ∀ x, C.kf x = d.scope.names.lookup x) (hbody : SndSs G C d.body g)
    (hnm : C.names.Nodup) (hn : n ≤ C.names.length)
    (hbind : ∀ pm cd doc (vs : List Value), vs.length = n → bindArgs (Calls.docDef d.name d.params d.body d.scope pm cd doc) ⟨vs, []⟩ = pure ((C.names.take n).zip vs))
    (hloc : ∀ x ∈ C.names.take n, C.kf x = some .local ∨ C.kf x = some .cell) (hco : d.scope.isCoroutine = false) (hgen : d.scope.isGenerator = false) (hk : d.scope.kind = .function) :
    Fn G d.name (C.dep + 1) (fnOf n C.names.length g) := by
  obtain ⟨a, o0, pm0, cd0, doc0, hmg, ho0, hdat0, _⟩ := T0.fn d hd
  refine ⟨a, hmg, fun h T => ?_, ?_⟩
  · obtain ⟨a', o, pm, cd, doc, hmg', ho, hdat, _⟩ := T.fn d hd
    rw [hmg] at hmg'; cases hmg'
    exact ⟨o, _, ho, hdat⟩
  · intro A s ps vs r Q T hh hdp hun hrep e h
    obtain ⟨a', o, pm, cd, doc, hmg', ho, hdat, hcd⟩ := T.fn d hd
    rw [hmg] at hmg'; cases hmg'
    unfold fnOf at e
    split at e
    · rename_i hlen
      have hvl : vs.length = n := hrep.length.trans hlen
      cases hg : g (ps.map Slot.fz ++ List.replicate (C.names.length - n) .un) with
      | none => rw [hg] at e; cases e
      | some res =>
        obtain ⟨fl, σ'⟩ := res
        rw [hg] at e
        cases fl with
        | next => cases e
        | brk => cases e
        | ret p =>
          have e' : p = r := Option.some.inj e
          subst e'
          have hnmt : (C.names.take n).Nodup := hnm.sublist (List.take_sublist _ _)
          refine wpAny_call (codeAny_call_cells (by omega) ho hdat T.nolimit hcd rfl (hbind pm cd doc vs hvl) rfl (fun y hy => ?_) (fun s₁ X => ?_) hco hgen hk)
          · rcases hloc y.1 (zip_names y hy) with h1 | h1
            · exact .inl ((hkf y.1).symm.trans h1)
            · refine .inr ⟨(hkf y.1).symm.trans h1, ?_⟩
              obtain ⟨c, hc⟩ := cellsFrom_some d.scope.names (s.heap.objs.size + 1) [] ((hkf y.1).symm.trans h1)
              show ((cellsFrom (s.heap.objs.size + 1) d.scope.names []).lookup y.1).isSome = true
              rw [hc]; rfl
          · generalize henv : callEnvC (Calls.docDef d.name d.params d.body d.scope pm cd doc) s.heap.objs.size a = env at X
            have hel : env.locals = s.heap.objs.size := by rw [← henv]; rfl
            have hec : env.cells = cellsFrom (s.heap.objs.size + 1) d.scope.names [] := by rw [← henv]; rfl
            have hek : ∀ x, env.kindOf x = C.kf x := fun x => by rw [← henv, hkf]; rfl
            have heb : env.builtins = builtinsNs := by rw [← henv]; rfl
            have heg : env.globals = mainGlobals := by rw [← henv]; rfl
            have hes : env.scope.kind = .function := by rw [← henv]; exact hk
            obtain ⟨h₁, tk₁, rfl⟩ := X.toInCall.same
            have fresh : ∀ b, s.heap.objs.size ≤ b → s.heap.get? b = .none := fun b hb => by
              cases e : s.heap.get? b with
              | none => rfl
              | some o' => exact absurd (Heap.lt_size e) (Nat.not_lt.mpr hb)
            have F : FR G C env (memAs (List.replicate C.names.length .none)) s.heap h₁ (ps.map Slot.fz ++ List.replicate (C.names.length - n) .un) (List.replicate C.names.length .none) := {
              kf := hek, gl := heg, bl := heb
              fb := ⟨hes, ⟨_, X.toInCall.ns⟩, fun m c hc => ⟨_, X.cell m c hc⟩, fun m m' c h1 h2 => name_of_addr X.apart (mem_of_lookup h1) (mem_of_lookup h2)⟩
              top := T
              keep := X.toInCall.keep
              fresh := fun b hb => by
                rcases hb with rfl | ⟨m, hm⟩
                · exact fresh _ (Nat.le_of_eq hel.symm)
                · have := X.above m b (mem_of_lookup hm)
                  rw [hel] at this
                  exact fresh _ (Nat.le_of_lt this)
              own := fun b hb => by have := List.eq_of_mem_replicate hb; cases this
              dom := fun b hb => by have := List.eq_of_mem_replicate hb; cases this
              u0 := fun _ b hb => by have := List.eq_of_mem_replicate hb; cases this
              cl := fun x hx => by rw [hec]; exact cellsFrom_some _ _ _ ((hkf x).symm.trans hx)
              nm := hnm
              ls := by rw [List.length_append, List.length_map, List.length_replicate]; omega
              la := by rw [List.length_replicate]
              slot := fun k x sl oa e1 e2 e3 => by
                have hoa : oa = .none := List.eq_of_mem_replicate (List.mem_of_getElem? e3)
                subst hoa
                by_cases hkn : k < n
                · rw [List.getElem?_append_left (by rw [List.length_map]; omega)] at e2
                  rw [List.getElem?_map] at e2
                  cases hp : ps[k]? with
                  | none => rw [hp] at e2; cases e2
                  | some p' =>
                    rw [hp] at e2; cases e2
                    obtain ⟨v, hv, hr⟩ := hrep.get k p' hp
                    have e1' : (C.names.take n)[k]? = some x := by rw [List.getElem?_take_of_lt hkn]; exact e1
                    refine ⟨v, ?_, Rep.move (fun b o _ _ e => X.toInCall.keep b o e) (fun b hb => by have := List.eq_of_mem_replicate hb; cases this) _ _ hr⟩
                    rcases hloc x (List.mem_of_getElem? e1') with h1 | h1
                    · refine .inl ⟨(hek x).trans h1, _, X.toInCall.ns, ?_⟩
                      exact bindL_get hnmt e1' hv ((hek x).trans h1)
                    · obtain ⟨c, hc⟩ := cellsFrom_some d.scope.names (s.heap.objs.size + 1) [] ((hkf x).symm.trans h1)
                      rw [← hec] at hc
                      refine .inr ⟨(hek x).trans h1, c, hc, ?_⟩
                      have := X.cell x c hc
                      rw [bindC_get hnmt e1' hv ((hek x).trans h1)] at this
                      exact this
                · rw [List.getElem?_append_right (by rw [List.length_map]; omega)] at e2
                  have : sl = .un := List.eq_of_mem_replicate (List.mem_of_getElem? e2)
                  subst this
                  trivial
              nd := fun i j b hi hj => by have := List.eq_of_mem_replicate (List.mem_of_getElem? hi); cases this }
            have hA' : AOk C (A.deeper env) := ⟨hh, by show A.depth + 1 + C.dep < _; omega, by show A.units + 3 + 16 * C.dep + 64 < _; omega⟩
            refine wpAny_mono (hbody (A.deeper env) env s.heap { s with heap := h₁, toks := tk₁ } _ _ (.ret p) σ' _ hA' F hg fun f h' tk as' st F' fo => ?_) (fun _ _ x => x) (fun _ _ x => x.elim)
            obtain ⟨v, rfl, hv⟩ := fo
            exact h v h' tk F'.keep hv
    · cases e

end Mine
end

section
open PySem PyProof.Rows
set_option Elab.async false
set_option linter.unusedVariables false
set_option linter.unusedSimpArgs false
namespace Mine
variable {G : GP} {C : Ctx}

/-- the scalar that a value is -/
noncomputable def valPV : Value → PV
  | .bool b => .bool b
  | .int i _ => .int i
  | .str x _ => .str x
  | _ => .none
theorem valPV_of {U : AS} {h : Heap} {p : PV} {v : Value} (hs : p.scalar = true) (r : Rep U h p v) : valPV v = p := by
  cases p with
  | none => have : v = .none := r; subst this; rfl
  | bool b => have : v = .bool b := r; subst this; rfl
  | int i => obtain ⟨t, rfl⟩ := rep_int r; rfl
  | str x => obtain ⟨⟨t, rfl⟩, _⟩ := rep_str r; rfl
  | list xs => cases hs
  | tup xs => cases hs

noncomputable def capS : Slot → Slot
  | .fz p => .fz p
  | _ => .un
noncomputable def capIn (caps : List Nat) (σ : List Slot) (p : PV) : List Slot := caps.map (fun k => capS (σ.getD k .un)) ++ [.fz p]

noncomputable def compGo (inner : PV → List Slot) (cond : XT) (elt : XE) : List PV → Option (List PV)
  | [] => some []
  | p :: ps => match cond (inner p) with
    | some true => match elt (inner p) with
      | some (.fz r) => if r.scalar = true then (compGo inner cond elt ps).map (r :: ·) else .none
      | _ => .none
    | some false => compGo inner cond elt ps
    | .none => .none

noncomputable def xComp (caps : List Nat) (it : List Slot → Option (List PV)) (cond : XT) (elt : XE) : XE := fun σ => match it σ with
  | some ps => if (ps.all fun p => p.scalar) = true ∧ ps.length ≤ 1048576 then (compGo (capIn caps σ) cond elt ps).map (.fr true) else .none
  | .none => .none

noncomputable def relabelN (kf : Str → Option NameKind) (names : List (Str × NameKind)) : List (Str × NameKind) := names.map fun y => if (y.2 == .free && kf y.1 == some .cell) = true then (y.1, .cell) else y

/-- what an expression within a comprehension sees -/
noncomputable def compCtx (C : Ctx) (scope : Scope) (caps : List Nat) (x : Str) : Ctx :=
  { names := caps.map (fun k => C.names.getD k "") ++ [x], kf := fun y => (relabelN C.kf scope.names).lookup y, u0 := C.u0, dep := C.dep }

theorem relabel_names {scope : Scope} {env : Env} (hk : env.scope.kind = .function) (hkf : ∀ x, env.kindOf x = C.kf x) : (relabel scope env).names = relabelN C.kf scope.names := by
  unfold relabel relabelN
  apply List.map_congr_left
  rintro ⟨n, k⟩ _
  simp only [hk, hkf, beq_self_eq_true, Bool.and_true]

/-- the cells that a comprehension takes along -/
theorem closure_cells {scope : Scope} {env : Env} (hall : ∀ n, (n, NameKind.free) ∈ scope.names → ∃ c, env.cells.lookup n = some c) :
    ∃ cl, closureFor scope env = pure cl ∧ (∀ n c, cl.lookup n = some c → env.cells.lookup n = some c) ∧ (∀ n, (n, NameKind.free) ∈ scope.names → ∃ c, cl.lookup n = some c) := by
  have gen : ∀ (names : List (Str × NameKind)) (acc : List (Str × Addr)), (∀ n, (n, NameKind.free) ∈ names → ∃ c, env.cells.lookup n = some c) → (∀ n c, acc.lookup n = some c → env.cells.lookup n = some c) →
      ∃ cl, (forIn names acc fun (x : Str × NameKind) cs => if (x.2 == NameKind.free) = true then (do let y ← cellOf env x.1; pure (ForInStep.yield ((x.1, y) :: cs)) : Sem _) else pure (ForInStep.yield cs)) = pure cl ∧
        (∀ n c, cl.lookup n = some c → env.cells.lookup n = some c) ∧ (∀ n, (n, NameKind.free) ∈ names ∨ (∃ c, acc.lookup n = some c) → ∃ c, cl.lookup n = some c) := by
    intro names
    induction names with
    | nil =>
      intro acc _ hacc
      exact ⟨acc, by rw [List.forIn_nil], hacc, fun n h => h.elim (fun h => nomatch h) id⟩
    | cons y r ih =>
      intro acc hn hacc
      obtain ⟨n, k⟩ := y
      rw [List.forIn_cons]
      by_cases hk : (k == NameKind.free) = true
      · have hk' : k = .free := beq_iff_eq.mp hk
        subst hk'
        obtain ⟨c, hc⟩ := hn n (by simp)
        obtain ⟨cl, h1, h2, h3⟩ := ih ((n, c) :: acc) (fun m hm => hn m (by simp [hm])) (fun m d hd => by
          rw [List.lookup_cons] at hd
          cases hmn : m == n with
          | true => rw [hmn] at hd; rw [beq_iff_eq.mp hmn, hc]; exact hd
          | false => rw [hmn] at hd; exact hacc m d hd)
        refine ⟨cl, ?_, h2, fun m hm => ?_⟩
        · rw [if_pos hk]
          simp only [cellOf, hc, pure_bind]
          exact h1
        · rcases hm with hm | ⟨d, hd⟩
          · rcases List.mem_cons.mp hm with e | hm
            · cases e; exact h3 n (.inr ⟨c, by simp⟩)
            · exact h3 m (.inl hm)
          · refine h3 m (.inr ?_)
            rw [List.lookup_cons]
            cases hmn : m == n with
            | true => exact ⟨c, rfl⟩
            | false => exact ⟨d, hd⟩
      · obtain ⟨cl, h1, h2, h3⟩ := ih acc (fun m hm => hn m (by simp [hm])) hacc
        refine ⟨cl, ?_, h2, fun m hm => ?_⟩
        · rw [if_neg hk, pure_bind]; exact h1
        · rcases hm with hm | hm
          · rcases List.mem_cons.mp hm with e | hm
            · cases e; exact absurd rfl hk
            · exact h3 m (.inl hm)
          · exact h3 m (.inr hm)
  obtain ⟨cl, h1, h2, h3⟩ := gen scope.names [] hall (fun n c h => by simp at h)
  refine ⟨cl, ?_, h2, fun n hn => h3 n (.inl hn)⟩
  unfold closureFor
  rw [bind_pure]
  exact h1

structure CompSt (C : Ctx) (scope : Scope) (caps : List Nat) (x : Str) : Prop where
  kind : scope.kind = .function
  nocell : ∀ y ∈ scope.names, y.2 ≠ .cell
  locals : ∀ y ∈ scope.names, y.2 = .local → scope.names.lookup y.1 = some .local
  free : ∀ y ∈ scope.names, y.2 = .free → C.kf y.1 = some .cell
  caught : ∀ k ∈ caps, k < C.names.length ∧ (C.names.getD k "", NameKind.free) ∈ scope.names ∧ (relabelN C.kf scope.names).lookup (C.names.getD k "") = some .cell
  names : (compCtx C scope caps x).names.Nodup

theorem relabelN_local {kf : Str → Option NameKind} : ∀ {names : List (Str × NameKind)} {x : Str}, names.lookup x = some .local → (relabelN kf names).lookup x = some .local
  | [], _, h => by simp at h
  | (n, k) :: r, x, h => by
    rw [List.lookup_cons] at h
    show List.lookup x ((if (k == NameKind.free && kf n == some .cell) = true then (n, NameKind.cell) else (n, k)) :: relabelN kf r) = _
    cases hx : x == n with
    | true =>
      rw [hx] at h
      have : k = .local := Option.some.inj h
      subst this
      have e : ((NameKind.local == NameKind.free && kf n == some .cell) = true) = False := by simp
      rw [if_neg (by simp), List.lookup_cons, hx]
    | false =>
      rw [hx] at h
      split
      · rw [List.lookup_cons, hx]; exact relabelN_local h
      · rw [List.lookup_cons, hx]; exact relabelN_local h
theorem relabelN_cell {kf : Str → Option NameKind} : ∀ {names : List (Str × NameKind)} {x : Str}, (∀ y ∈ names, y.2 ≠ .cell) → (relabelN kf names).lookup x = some .cell → (x, NameKind.free) ∈ names ∧ kf x = some .cell
  | [], _, _, h => by simp [relabelN] at h
  | (n, k) :: r, x, hn, h => by
    have h' : List.lookup x ((if (k == NameKind.free && kf n == some .cell) = true then (n, NameKind.cell) else (n, k)) :: relabelN kf r) = some .cell := h
    split at h'
    · rename_i hc
      simp only [Bool.and_eq_true, beq_iff_eq] at hc
      rw [List.lookup_cons] at h'
      cases hx : x == n with
      | true => rw [beq_iff_eq.mp hx, hc.1]; exact ⟨by simp, hc.2⟩
      | false =>
        rw [hx] at h'
        have := relabelN_cell (fun y hy => hn y (by simp [hy])) h'
        exact ⟨by simp [this.1], this.2⟩
    · rw [List.lookup_cons] at h'
      cases hx : x == n with
      | true =>
        rw [hx] at h'
        have : k = .cell := Option.some.inj h'
        exact absurd this (hn (n, k) (by simp))
      | false =>
        rw [hx] at h'
        have := relabelN_cell (fun y hy => hn y (by simp [hy])) h'
        exact ⟨by simp [this.1], this.2⟩

/-- the frame of a comprehension -/
theorem FR.inner {env : Env} {U : AS} {h₀ hb h2 h3 : Heap} {σ : List Slot} {as : List (Option Addr)} {scope : Scope} {caps : List Nat} {x : Str} {cl : List (Str × Addr)} {Ca : Addr} {m : Str → Option Value} {v : Value} {p : PV} {wr : List Addr}
    (F : FR G C env U h₀ hb σ as) (S : CompSt C scope caps x) (hx : scope.names.lookup x = some .local) (hcl1 : ∀ n c, cl.lookup n = some c → env.cells.lookup n = some c) (hcl2 : ∀ n, (n, NameKind.free) ∈ scope.names → ∃ c, cl.lookup n = some c)
    (hk2 : Keep hb h2) (hwr : ∀ b ∈ wr, hb.get? b = .none) (hk3 : ∀ b o, b ∉ wr → h2.get? b = some o → h3.get? b = some o) (hCa : h2.objs.size ≤ Ca) (hns : h3.Ns Ca m) (hm : m x = some v) (hr : Rep U h3 p v) :
    FR G (compCtx C scope caps x) (compEnvC scope cl Ca env) U h₀ h3 (capIn caps σ p) (List.replicate (caps.length + 1) .none) := by
  have hold : ∀ b o, hb.get? b = some o → h3.get? b = some o := fun b o e => hk3 b o (fun hw => by rw [hwr b hw] at e; cases e) (hk2 b o e)
  have hkind : ∀ y, (compEnvC scope cl Ca env).kindOf y = (compCtx C scope caps x).kf y := fun y => by
    show (relabel scope env).names.lookup y = _
    rw [relabel_names F.fb.kind F.kf]; rfl
  have F3 : FR G C env U h₀ h3 σ as := F.ext hold
  have hnil : ∀ {b : Addr}, some b ∈ List.replicate (caps.length + 1) (none : Option Addr) → False := fun hb => by have := List.eq_of_mem_replicate hb; cases this
  exact {
    kf := hkind, gl := F.gl, bl := F.bl
    fb := ⟨S.kind, ⟨m, hns⟩, fun n c hc => F3.fb.cells n c (hcl1 n c hc), fun n n' c h1 h2 => F.fb.apart n n' c (hcl1 n c h1) (hcl1 n' c h2)⟩
    top := F.top
    keep := F3.keep
    fresh := fun b hb' => by
      rcases hb' with hb' | ⟨n, hn⟩
      · have hb'' : b = Ca := hb'
        subst hb''
        refine F.keep.none (hk2.none ?_)
        cases e : h2.get? b with
        | none => rfl
        | some o => exact absurd (Heap.lt_size e) (Nat.not_lt.mpr hCa)
      · exact F.fresh b (.inr ⟨n, hcl1 n b hn⟩)
    own := fun b hb' => (hnil hb').elim
    dom := F3.dom
    u0 := F.u0
    cl := fun y hy => by
      obtain ⟨h1, h2⟩ := relabelN_cell S.nocell hy
      exact hcl2 y h1
    nm := S.names
    ls := by simp [capIn, compCtx]
    la := by simp [compCtx]
    slot := fun k y sl oa e1 e2 e3 => by
      have hoa : oa = .none := List.eq_of_mem_replicate (List.mem_of_getElem? e3)
      subst hoa
      by_cases hk : k < caps.length
      · have e1' : (caps.map fun k => C.names.getD k "")[k]? = some y := by
          have := e1
          simp only [compCtx] at this
          rwa [List.getElem?_append_left (by simpa using hk)] at this
        have e2' : (caps.map fun k => capS (σ.getD k .un))[k]? = some sl := by
          have := e2
          unfold capIn at this
          rwa [List.getElem?_append_left (by simpa using hk)] at this
        rw [List.getElem?_map, List.getElem?_eq_getElem hk] at e1' e2'
        obtain ⟨y', hy1, hy2, hy3⟩ : ∃ y, C.names[caps[k]]? = some y ∧ (y, NameKind.free) ∈ scope.names ∧ (relabelN C.kf scope.names).lookup y = some .cell := by
          obtain ⟨h1, h2, h3⟩ := S.caught caps[k] (List.getElem_mem hk)
          rw [List.getD_eq_getElem?_getD, List.getElem?_eq_getElem h1] at h2 h3
          exact ⟨_, List.getElem?_eq_getElem h1, h2, h3⟩
        have hyy : y' = y := by
          have : C.names.getD caps[k] "" = y := Option.some.inj e1'
          rw [List.getD_eq_getElem?_getD, hy1] at this
          exact this
        subst hyy
        have hsl : capS (σ.getD caps[k] .un) = sl := Option.some.inj e2'
        rw [List.getD_eq_getElem?_getD] at hsl
        cases hs : σ[caps[k]]? with
        | none => rw [hs] at hsl; subst hsl; trivial
        | some s0 =>
          rw [hs] at hsl
          cases s0 with
          | un => subst hsl; trivial
          | ow pl xs => subst hsl; trivial
          | fr pl xs => subst hsl; trivial
          | fz q =>
            subst hsl
            obtain ⟨w, hw, hrw⟩ := F3.slotFz hy1 hs
            refine ⟨w, ?_, hrw⟩
            have hkc := (relabelN_cell S.nocell hy3).2
            rcases hw with ⟨h1, _⟩ | ⟨h1, c, hc, hv⟩
            · rw [F.kf, hkc] at h1; cases h1
            · obtain ⟨c', hc'⟩ := hcl2 y' hy2
              have : c' = c := by have := hcl1 y' c' hc'; rw [hc] at this; exact (Option.some.inj this).symm
              subst this
              exact .inr ⟨(hkind y').trans hy3, c', hc', hv⟩
      · have hke : k = caps.length := by
          have := (List.getElem?_eq_some_iff.mp e3).1
          simp at this
          omega
        subst hke
        have e1' : y = x := by
          have := e1
          simp only [compCtx] at this
          rw [List.getElem?_append_right (by simp)] at this
          simpa using this.symm
        have e2' : sl = .fz p := by
          have := e2
          unfold capIn at this
          rw [List.getElem?_append_right (by simp)] at this
          simpa using this.symm
        subst e1' e2'
        exact ⟨v, .inl ⟨(hkind y).trans (relabelN_local hx), m, hns, hm⟩, hr⟩
    nd := fun i j b hi hj => (hnil (List.mem_of_getElem? hi)).elim }

noncomputable def condV (caps : List Nat) (σ : List Slot) (cond : XT) (v : Value) : Bool := (cond (capIn caps σ (valPV v))).getD false
noncomputable def eltV (caps : List Nat) (σ : List Slot) (elt : XE) (v y : Value) : Prop := ∃ r, elt (capIn caps σ (valPV v)) = some (.fz r) ∧ r.scalar = true ∧ Rep None' {} r y

theorem comp_paired {U : AS} {h : Heap} {caps : List Nat} {σ : List Slot} {cond : XT} {elt : XE} : ∀ {ps rs : List PV} {vs ys : List Value}, compGo (capIn caps σ) cond elt ps = some rs → (vs.map valPV = ps) →
    Paired (eltV caps σ elt) (vs.filter (condV caps σ cond)) ys → RepL U h rs ys
  | [], rs, vs, ys, e, hv, hp => by
    have : vs = [] := List.map_eq_nil_iff.mp hv
    subst this
    cases e
    cases hp
    exact RepL.nil
  | p :: ps, rs, [], ys, e, hv, hp => by cases hv
  | p :: ps, rs, v :: vs, ys, e, hv, hp => by
    rw [List.map_cons] at hv
    have hv1 : valPV v = p := (List.cons.inj hv).1
    have hv2 := (List.cons.inj hv).2
    subst hv1
    simp only [compGo] at e
    cases hc : cond (capIn caps σ (valPV v)) with
    | none => rw [hc] at e; cases e
    | some b =>
      have hcv : condV caps σ cond v = b := by unfold condV; rw [hc]; rfl
      rw [hc] at e
      cases b with
      | false =>
        rw [List.filter_cons_of_neg (by rw [hcv]; simp)] at hp
        exact comp_paired e hv2 hp
      | true =>
        rw [List.filter_cons_of_pos hcv] at hp
        cases hp with
        | cons h1 h2 =>
          obtain ⟨r, hr1, hr2, hr3⟩ := h1
          simp only [hr1, hr2, if_true] at e
          cases hgo : compGo (capIn caps σ) cond elt ps with
          | none => rw [hgo] at e; cases e
          | some rs' =>
            rw [hgo] at e
            cases e
            exact RepL.cons (hr3.of_scalar hr2) (comp_paired hgo hv2 h2)

theorem compGo_item {inner : PV → List Slot} {cond : XT} {elt : XE} : ∀ {ps rs : List PV}, compGo inner cond elt ps = some rs → ∀ p ∈ ps, (∃ b, cond (inner p) = some b) ∧ (cond (inner p) = some true → ∃ r, elt (inner p) = some (.fz r) ∧ r.scalar = true)
  | [], _, _, p, hp => by cases hp
  | q :: ps, rs, e, p, hp => by
    simp only [compGo] at e
    cases hc : cond (inner q) with
    | none => rw [hc] at e; cases e
    | some b =>
      rw [hc] at e
      cases b with
      | false =>
        rcases List.mem_cons.mp hp with rfl | hp
        · exact ⟨⟨_, hc⟩, fun h => by rw [hc] at h; cases h⟩
        · exact compGo_item e p hp
      | true =>
        cases he : elt (inner q) with
        | none => simp only [he] at e; cases e
        | some sl =>
          cases sl with
          | un => simp only [he] at e; cases e
          | ow pl xs => simp only [he] at e; cases e
          | fr pl xs => simp only [he] at e; cases e
          | fz r =>
            simp only [he] at e
            split at e
            · rename_i hsc
              cases hgo : compGo inner cond elt ps with
              | none => rw [hgo] at e; cases e
              | some rs' =>
                rcases List.mem_cons.mp hp with rfl | hp
                · exact ⟨⟨_, hc⟩, fun _ => ⟨r, he, hsc⟩⟩
                · exact compGo_item hgo p hp
            · cases e

theorem compGo_length {inner : PV → List Slot} {cond : XT} {elt : XE} : ∀ {ps rs : List PV}, compGo inner cond elt ps = some rs → rs.length ≤ ps.length
  | [], _, e => by cases e; exact Nat.le_refl _
  | q :: ps, rs, e => by
    simp only [compGo] at e
    cases hc : cond (inner q) with
    | none => rw [hc] at e; cases e
    | some b =>
      rw [hc] at e
      cases b with
      | false => have := compGo_length e; simp only [List.length_cons]; omega
      | true =>
        cases he : elt (inner q) with
        | none => simp only [he] at e; cases e
        | some sl =>
          cases sl with
          | un => simp only [he] at e; cases e
          | ow pl xs => simp only [he] at e; cases e
          | fr pl xs => simp only [he] at e; cases e
          | fz r =>
            simp only [he] at e
            split at e
            · cases hgo : compGo inner cond elt ps with
              | none => rw [hgo] at e; cases e
              | some rs' =>
                rw [hgo] at e; cases e
                have := compGo_length hgo; simp only [List.length_cons]; omega
            · cases e

/-- the tests of a comprehension -/
noncomputable def SndC (G : GP) (C : Ctx) (ifs : List Expr) (cond : XT) : Prop :=
  ∀ (A : Around) (env : Env) (U : AS) (h₀ : Heap) (s : Shared) (σ : List Slot) (as : List (Option Addr)) (b : Bool) (Q : Bool → Shared → Prop), AOk C A → FR G C env U h₀ s.heap σ as → cond σ = some b →
    (∀ h' tk, Keep s.heap h' → Q b { s with heap := h', toks := tk }) →
      wpAny (model G.prog G.w) A (forIn ifs true fun c r => if r = true then do let ok ← isTrue c env (eval c env); pure (ForInStep.yield ok) else pure (ForInStep.yield r)) Q NoE s
noncomputable def xTrue : XT := fun _ => some true
theorem sC_nil : SndC G C [] xTrue := by
  intro A env U h₀ s σ as b Q hA F e h
  cases e
  exact wpAny_tests_nil (h s.heap s.toks (.refl _))
theorem sC_one {c : Expr} {t : XT} (hc : SndT G C c t) : SndC G C [c] t := by
  intro A env U h₀ s σ as b Q hA F e h
  exact wpAny_tests_one (hc A env U h₀ s σ as b Q hA F e h)

theorem sE_comp {elt iter : Expr} {x : Str} {px pos : Pos} {ifs : List Expr} {scope : Scope} {it : List Slot → Option (List PV)} {cond : XT} {fe : XE} (caps : List Nat) (hi : SndI G C iter it)
    (hc : SndC G (compCtx C scope caps x) ifs cond) (he : SndE G (compCtx C scope caps x) elt fe) (S : CompSt C scope caps x) (hx : scope.names.lookup x = some .local)
    (hs : ∀ env x, foldedSetIterable iter env x = pure x := by intro _ _; rfl) : SndE G C (.ListComp elt [⟨.Name x px, iter, ifs, 0⟩] scope pos) (xComp caps it cond fe) := by
  intro A env U h₀ s σ as r Q hA F e1 h
  unfold xComp at e1
  cases hf : it σ with
  | none => simp only [hf] at e1; cases e1
  | some ps =>
    simp only [hf] at e1
    split at e1
    · rename_i hsc
      cases hgo : compGo (capIn caps σ) cond fe ps with
      | none => rw [hgo] at e1; cases e1
      | some rs =>
        rw [hgo] at e1
        cases e1
        obtain ⟨cl, hcl0, hcl1, hcl2⟩ := closure_cells (scope := scope) (env := env) fun n hn => F.cl n (S.free (n, .free) hn rfl)
        refine wpAny_ListComp_free (condV caps σ cond) (eltV caps σ fe) hcl0 S.nocell S.kind S.locals hx (hi A env U h₀ s σ as ps _ hA F hf fun I fp wr P St h2 tk2 hk2 W => ?_) (hs env)
        have hA' : AOk (compCtx C scope caps x) A := ⟨hA.hh, hA.dp, hA.un⟩
        have item : ∀ i v, i < ps.length → P i v → ∃ p, ps[i]? = some p ∧ valPV v = p ∧ p.scalar = true ∧ ∀ h', Rep U h' p v := fun i v hi' hP => by
          obtain ⟨p, hp, hr⟩ := W.item i v hi' hP
          have hps : p.scalar = true := List.all_eq_true.mp hsc.1 p (List.mem_of_getElem? hp)
          exact ⟨p, hp, valPV_of hps hr, hps, fun h' => hr.of_scalar hps⟩
        -- an item's number is below the walk's
        have W' : Walks G.prog G.w A I fp wr ps.length (fun i v => i < ps.length ∧ P i v) St := {
          sub := W.w.sub, frame := W.w.frame
          item := fun i s Q E hi' st hQ => W.w.item i s Q E hi' st fun v h' tk hP hst hk => hQ v h' tk ⟨hi', hP⟩ hst hk
          done := W.w.done, self := W.w.self }
        refine ⟨I, fp, wr, ps.length, _, St, rfl, W', by rw [sizeLine_eq]; omega, W.st, fun b hb => ?_, ⟨?_, ?_⟩, ?_⟩
        · obtain ⟨o, ho⟩ := W.ex 0 h2 W.st b hb; exact Heap.lt_size ho
        · intro Ca i v s₃ m₃ E' hCa hP hns hm hk3 _
          obtain ⟨p, hp, hvp, hps, hrp⟩ := item i v hP.1 hP.2
          have FI := F.inner (p := p) S hx hcl1 hcl2 hk2 W.new hk3 hCa hns hm (hrp _)
          obtain ⟨⟨b, hb⟩, _⟩ := compGo_item hgo p (List.mem_of_getElem? hp)
          refine wpAny_mono (hc A _ U h₀ s₃ _ _ b _ hA' FI hb fun h' tk hk => ?_) (fun _ _ x => x) (fun _ _ x => x.elim)
          refine ⟨?_, h', tk, rfl, hk⟩
          unfold condV; rw [hvp, hb]; rfl
        · intro Ca i v s₃ m₃ E' hCa hP hpv hns hm hk3 _
          obtain ⟨p, hp, hvp, hps, hrp⟩ := item i v hP.1 hP.2
          have FI := F.inner (p := p) S hx hcl1 hcl2 hk2 W.new hk3 hCa hns hm (hrp _)
          obtain ⟨⟨b, hb⟩, h2'⟩ := compGo_item hgo p (List.mem_of_getElem? hp)
          have hbt : b = true := by
            unfold condV at hpv; rw [hvp, hb] at hpv; exact hpv
          subst hbt
          obtain ⟨q, hq, hqs⟩ := h2' hb
          refine wpAny_mono (he A _ U h₀ s₃ _ _ _ _ hA' FI hq fun y h' tk hk hr => ?_) (fun _ _ x => x) (fun _ _ x => x.elim)
          refine ⟨⟨q, by rw [hvp]; exact hq, hqs, ?_⟩, h', tk, rfl, hk⟩
          exact Rep.of_scalar (U := U) (h := h') hqs hr
        · intro D h' tk ys vs hD hl hpl hlen hP hpaired hk
          have hvs : vs.map valPV = ps := by
            apply List.ext_getElem?
            intro j
            rw [List.getElem?_map]
            by_cases hj : j < vs.length
            · rw [List.getElem?_eq_getElem hj]
              obtain ⟨p, hp, hvp, _⟩ := item j vs[j] (hP j _ (List.getElem?_eq_getElem hj)).1 (hP j _ (List.getElem?_eq_getElem hj)).2
              rw [hp, ← hvp]; rfl
            · rw [List.getElem?_eq_none (by omega), List.getElem?_eq_none (by omega)]; rfl
          have hk' : Keep s.heap h' := fun b o e => hk b o (fun hw => by rw [W.new b hw] at e; cases e) (hk2 b o e)
          have e2 : ys.toList.toArray = ys := by simp
          refine h _ h' tk hk' ⟨D, ys.toList, rfl, hk2.none hD, ⟨by rw [e2]; exact hl, fun _ => by rw [e2]; exact hpl⟩, comp_paired hgo hvs hpaired, Nat.le_trans (compGo_length hgo) hsc.2⟩
    · cases e1

end Mine
end

section
open PySem PyProof.Rows
set_option Elab.async false
set_option linter.unusedVariables false
set_option linter.unusedSimpArgs false
namespace Mine
variable {G : GP} {C : Ctx}

/-! ''.join(texts) -/
noncomputable def pStrs : List PV → Option (List Str)
  | [] => some []
  | .str x :: ps => (pStrs ps).map (x :: ·)
  | _ :: _ => .none
noncomputable def catS (ts : List Str) : Str := ⟨((ts.map fun t => t.cps.toList).flatten).toArray⟩
noncomputable def pJoin : PV → PV → Option PV
  | .str sep, .list xs => if sep.length = 0 then match pStrs xs with
      | some ts => if ((ts.map (·.length)).sum) ≤ 1048576 then some (.str (catS ts)) else .none
      | .none => .none
    else .none
  | _, _ => .none

theorem strs_of {U : AS} {h : Heap} : ∀ {xs : List PV} {vs : List Value} {ts : List Str}, pStrs xs = some ts → RepL U h xs vs → ∃ l : List (Str × Tok), vs = strValues l ∧ l.map (·.1) = ts
  | [], vs, ts, e, r => by
    simp only [RepL] at r; subst r
    cases e; exact ⟨[], rfl, rfl⟩
  | p :: ps, vs, ts, e, r => by
    simp only [RepL] at r
    obtain ⟨v, vs', rfl, r1, r2⟩ := r
    cases p <;> try cases e
    rename_i x
    simp only [pStrs] at e
    cases hp : pStrs ps with
    | none => rw [hp] at e; cases e
    | some ms =>
      rw [hp] at e; cases e
      obtain ⟨⟨t, rfl⟩, _⟩ := rep_str r1
      obtain ⟨l, rfl, hl⟩ := strs_of hp r2
      exact ⟨(x, t) :: l, rfl, by rw [List.map_cons, hl]⟩

theorem join_catS : ∀ ts : List Str, Txt.join ⟨#[]⟩ ts = catS ts := by
  intro ts
  show Builtin.Str.glued ⟨#[]⟩ ts = catS ts
  cases ts with
  | nil => rfl
  | cons a r =>
    show (⟨r.foldl (fun acc p => acc ++ #[] ++ p.cps) a.cps⟩ : Str) = _
    have : ∀ (r : List Str) (acc : Array Nat), (r.foldl (fun acc p => acc ++ #[] ++ p.cps) acc).toList = acc.toList ++ (r.map fun t => t.cps.toList).flatten := by
      intro r
      induction r with
      | nil => intro acc; simp
      | cons b r ih => intro acc; rw [List.foldl_cons, ih]; simp
    have h := this r a.cps
    unfold catS
    congr 1
    apply Array.ext'
    rw [h]; simp

theorem joinOk_of {ts : List Str} (h : ((ts.map (·.length)).sum) ≤ 1048576) : JoinOk ⟨#[]⟩ ts = true := by
  unfold JoinOk
  have : ∀ (l : List Str) (n : Nat), l.foldl (fun a t => a + t.length + (⟨#[]⟩ : Str).length) n = n + (l.map (·.length)).sum := by
    intro l
    induction l with
    | nil => intro n; simp
    | cons a l ih => intro n; rw [List.foldl_cons, ih]; simp [Str.length]; omega
  simp only [List.foldl_toArray]
  have e := this ts 0
  rw [e]
  unfold Builtin.Str.tooLong
  rw [sizeLine_eq]
  simp only [Bool.not_eq_true', decide_eq_false_iff_not]
  omega

theorem catS_length (ts : List Str) : (catS ts).length = (ts.map (·.length)).sum := by
  unfold catS
  show ((ts.map fun t => t.cps.toList).flatten).toArray.size = _
  rw [List.size_toArray, List.length_flatten, List.map_map]
  congr 1

theorem sE_join {o e : Expr} {apos pos : Pos} {fo f : XE} (ho : SndE G C o fo) (hea : SndE G C e f)
    (he : ∀ env, ∃ pl, eval (.Call (.Attribute o "join" apos) [e] [] pos) env = (do
      let ov ← eval o env
      standAt apos.atName
      let (f, first) ← holding [ov] (getMethod ov "join" pl)
      callWith pos f first (backTo pos (starEach [e] env)) []) := by intro _; exact ⟨_, rfl⟩) (hn : noStar e = true := by rfl) : SndE G C (.Call (.Attribute o "join" apos) [e] [] pos) (xOp2 pJoin fo f) := by
  intro A env U h₀ s σ as r Q hA F e1 h
  unfold xOp2 at e1
  cases hfo : fo σ with
  | none => simp only [hfo] at e1; cases e1
  | some r0 =>
    cases hf : f σ with
    | none => simp only [hfo, hf] at e1; cases e1
    | some rr =>
      simp only [hfo, hf] at e1
      cases hq : pJoin r0.pv rr.pv with
      | none => rw [hq] at e1; cases e1
      | some q =>
        rw [hq] at e1
        cases e1
        obtain ⟨pl, hpl⟩ := he env
        refine MethodCall_ (pl := pl) (ho A env U h₀ s σ as r0 _ hA F hfo fun v h' tk hk hr => ?_) hpl
        cases hp : r0.pv <;> rw [hp] at hq <;> try cases hq
        rename_i sep
        cases hp2 : rr.pv <;> rw [hp2] at hq <;> try cases hq
        rename_i xs
        simp only [pJoin] at hq
        split at hq
        · rename_i hsep
          cases hts : pStrs xs with
          | none => rw [hts] at hq; cases hq
          | some ts =>
            simp only [hts] at hq
            split at hq
            · rename_i hz
              cases hq
              obtain ⟨⟨t, rfl⟩, hzx⟩ := hr.asStr hp
              with_reducible refine GM.join ?_
              refine callWith_method1 (args_cons (hea A env U h₀ _ σ as rr _ hA (F.ext hk) hf fun v2 h'' tk' hk' hr' => args_nil ?_) (starEach_cons hn)) (starEach_cons hn) rfl
              obtain ⟨a, vs, rfl, hl, hrl, hzl⟩ := hr'.asList hp2
              obtain ⟨l, rfl, hl1⟩ := strs_of hts hrl
              have hs0 : sep = ⟨#[]⟩ := by
                obtain ⟨c⟩ := sep
                have : c = #[] := Array.eq_empty_of_size_eq_zero hsep
                rw [this]
              subst hs0
              refine SC.join (s := { s with heap := h'', toks := tk' }) hl hl1 (joinOk_of hz) fun t' k => ?_
              rw [join_catS]
              exact h _ h'' k (hk.trans hk') ⟨⟨t', rfl⟩, by rw [catS_length]; exact hz⟩
            · cases hq
        · cases hq

noncomputable def pNeg : PV → Option PV
  | .int a => some (.int (-a))
  | _ => .none
theorem sE_neg {e : Expr} {pos : Pos} {f : XE} (he : SndE G C e f) : SndE G C (.UnaryOp .USub e pos) (xOp1 pNeg f) := by
  intro A env U h₀ s σ as r Q hA F e1 h
  unfold xOp1 at e1
  cases hf : f σ with
  | none => simp only [hf] at e1; cases e1
  | some rr =>
    simp only [hf] at e1
    cases hp : rr.pv <;> rw [hp] at e1 <;> try cases e1
    refine UnaryOp_ (he A env U h₀ s σ as rr _ hA F hf fun v h' tk hk hr => ?_)
    obtain ⟨t, rfl⟩ := hr.asInt hp
    exact neg_int (h _ h' _ hk ⟨_, rfl⟩)

theorem prim_isub : Prim2 G (inplaceOp .Sub) pSub := by
  intro A s v1 v2 p1 p2 r Q hh hu r1 r2 e h
  cases p1 <;> cases p2 <;> try cases e
  obtain ⟨t, rfl⟩ := rep_int r1; obtain ⟨u, rfl⟩ := rep_int r2
  exact PyProof.Rows.isub_int (h rfl _ s.heap _ (.refl _) ⟨_, rfl⟩)

/-- the greatest number that the text writes out -/
noncomputable def BIG : Int := 9223372036854775807

/-! the text's defs, by their place -/
noncomputable def fnBody (p : Program) (i : Nat) : List Stmt := match p.main.body[i]? with
  | some (.FunctionDef _ _ b _ _ _ _ _ _ _) => b
  | _ => []
noncomputable def fnScope (p : Program) (i : Nat) : Scope := match p.main.body[i]? with
  | some (.FunctionDef _ _ _ _ _ _ sc _ _ _) => sc
  | _ => p.main.scope
noncomputable def fnArgs (p : Program) (i : Nat) : Arguments := match p.main.body[i]? with
  | some (.FunctionDef _ a _ _ _ _ _ _ _ _) => a
  | _ => ⟨[], [], none, [], [], none, []⟩
noncomputable def fnName (p : Program) (i : Nat) : Str := match p.main.body[i]? with
  | some (.FunctionDef n _ _ _ _ _ _ _ _ _) => n
  | _ => ""
noncomputable def fnPos (p : Program) (i : Nat) : Pos := match p.main.body[i]? with
  | some (.FunctionDef _ _ _ _ _ _ _ _ _ ps) => ps
  | _ => ⟨0, 0, 0, 0⟩
noncomputable def fnRec (p : Program) (i : Nat) : DefRec := ⟨fnName p i, fnArgs p i, fnBody p i, fnScope p i, fnPos p i⟩

end Mine
end

section
open PySem PyProof.Rows
set_option Elab.async false
set_option linter.unusedVariables false
set_option maxRecDepth 100000
namespace Mine

/-! printed by gen.py -/
structure GBk (G : GP) : Prop where
  b_abs : G.mg "abs" = .none ∧ G.mb "abs" = some (.builtin "abs")
  b_bool : G.mg "bool" = .none ∧ G.mb "bool" = some (.type "bool")
  b_isinstance : G.mg "isinstance" = .none ∧ G.mb "isinstance" = some (.builtin "isinstance")
  b_len : G.mg "len" = .none ∧ G.mb "len" = some (.builtin "len")
  b_list : G.mg "list" = .none ∧ G.mb "list" = some (.type "list")
  b_max : G.mg "max" = .none ∧ G.mb "max" = some (.builtin "max")
  b_min : G.mg "min" = .none ∧ G.mb "min" = some (.builtin "min")
  b_range : G.mg "range" = .none ∧ G.mb "range" = some (.type "range")
  c_MAX_STRING_SIZE : ∃ t, G.mg "_MAX_STRING_SIZE" = some (.int 40 t)
  c_MOVE_COST : ∃ t, G.mg "_MOVE_COST" = some (.int 2 t)
  c_CASE_COST : ∃ t, G.mg "_CASE_COST" = some (.int 1 t)
variable {G : GP}
/-! _substitution_cost -/
noncomputable def g_substitution_cost : XS :=
    (xSeq (xIf (xT (xOp2 pEq (xVar 0) (xVar 1)) pBool)
      (xSeq (xRet (xLit (.int 0)))
      xNil)
      xNil)
      (xSeq (xIf (xT (xOp2 pEq (xOp1 pLower (xVar 0)) (xOp1 pLower (xVar 1))) pBool)
      (xSeq (xRet (xLit (.int 1)))
      xNil)
      xNil)
      (xSeq (xRet (xLit (.int 2)))
      xNil)))
noncomputable def f_substitution_cost : List PV → Option PV := fnOf 2 2 g_substitution_cost
noncomputable def C_substitution_cost : Ctx := { names := ["ch_a", "ch_b"], kf := fun x => (fnScope PySem.Challenge.pw_rl0025_02 4).names.lookup x, u0 := false, dep := 0 }
theorem k_substitution_cost_ch_a : C_substitution_cost.kf "ch_a" = some .local := by decide +kernel
theorem k_substitution_cost_ch_b : C_substitution_cost.kf "ch_b" = some .local := by decide +kernel
theorem k_substitution_cost_CASE_COST : C_substitution_cost.kf "_CASE_COST" = some .globalImplicit := by decide +kernel
theorem k_substitution_cost_MOVE_COST : C_substitution_cost.kf "_MOVE_COST" = some .globalImplicit := by decide +kernel
theorem b_substitution_cost (B : GBk G) : SndSs G C_substitution_cost (fnBody PySem.Challenge.pw_rl0025_02 4) g_substitution_cost :=
    (sSs_cons (sS_if (sT_cmp prim_eq (sE_var 0 rfl (.inl k_substitution_cost_ch_a)) (sE_var 1 rfl (.inl k_substitution_cost_ch_b))) (sSs_cons (sS_ret sE_int)
      sSs_nil) sSs_nil)
      (sSs_cons (sS_if (sT_cmp prim_eq (sE_lower (sE_var 0 rfl (.inl k_substitution_cost_ch_a))) (sE_lower (sE_var 1 rfl (.inl k_substitution_cost_ch_b)))) (sSs_cons (sS_ret (sE_glob k_substitution_cost_CASE_COST B.c_CASE_COST))
      sSs_nil) sSs_nil)
      (sSs_cons (sS_ret (sE_glob k_substitution_cost_MOVE_COST B.c_MOVE_COST))
      sSs_nil)))
theorem h_substitution_cost {h0 : Heap} (T0 : Top G.p G.loose G.mean G.mg G.mb h0) (hd : fnRec PySem.Challenge.pw_rl0025_02 4 ∈ recsOf G.p) (B : GBk G) : Fn G "_substitution_cost" 1 f_substitution_cost :=
  fn_intro (C := C_substitution_cost) T0 (fnRec PySem.Challenge.pw_rl0025_02 4) hd 2 (fun _ => rfl) (b_substitution_cost B) (by decide +kernel) (by decide) (by intro pm cd doc vs h; match vs, h with | [v0, v1], _ => rfl) (by decide +kernel) rfl rfl rfl
/-! _levenshtein_distance -/
noncomputable def g_levenshtein_distance : XS :=
    (xSeq (xIf (xT (xOp2 pEq (xVar 0) (xVar 1)) pBool)
      (xSeq (xRet (xLit (.int 0)))
      xNil)
      xNil)
      (xSeq (xAsg 3 (xLit (.int 0)))
      (xSeq (xWhile (xAnd (xT (xCut (xVar 0) (xVar 3) (xLit .none)) xTruth) (xAnd (xT (xCut (xVar 1) (xVar 3) (xLit .none)) xTruth) (xT (xOp2 pEq (xOp2 pItem (xVar 0) (xVar 3)) (xOp2 pItem (xVar 1) (xVar 3))) pBool)))
      (xSeq (xAug 3 pAdd (xLit (.int 1)))
      xNil)
      xNil 1000)
      (xSeq (xAsg 0 (xCut (xVar 0) (xVar 3) (xLit .none)))
      (xSeq (xAsg 1 (xCut (xVar 1) (xVar 3) (xLit .none)))
      (xSeq (xAsg 4 (xLit (.int 0)))
      (xSeq (xWhile (xAnd (xT (xCut (xVar 0) (xLit .none) (xOrV (xVar 4) (xLit .none))) xTruth) (xAnd (xT (xCut (xVar 1) (xLit .none) (xOrV (xVar 4) (xLit .none))) xTruth) (xT (xOp2 pEq (xOp2 pItem (xVar 0) (xOp2 pSub (xVar 4) (xLit (.int 1)))) (xOp2 pItem (xVar 1) (xOp2 pSub (xVar 4) (xLit (.int 1))))) pBool)))
      (xSeq (xAug 4 pSub (xLit (.int 1)))
      xNil)
      xNil 1000)
      (xSeq (xAsg 0 (xCut (xVar 0) (xLit .none) (xOrV (xVar 4) (xLit .none))))
      (xSeq (xAsg 1 (xCut (xVar 1) (xLit .none) (xOrV (xVar 4) (xLit .none))))
      (xSeq (xIf (xOr (xNot (xT (xVar 0) xTruth)) (xNot (xT (xVar 1) xTruth)))
      (xSeq (xRet (xOp2 pMul (xLit (.int 2)) (xOp2 pAdd (xCallB pLen (xACons (xVar 0) xANil)) (xCallB pLen (xACons (xVar 1) xANil)))))
      xNil)
      xNil)
      (xSeq (xIf (xOr (xT (xOp2 pGt (xCallB pLen (xACons (xVar 0) xANil)) (xLit (.int 40))) pBool) (xT (xOp2 pGt (xCallB pLen (xACons (xVar 1) xANil)) (xLit (.int 40))) pBool))
      (xSeq (xRet (xOp2 pAdd (xVar 2) (xLit (.int 1))))
      xNil)
      xNil)
      (xSeq (xIf (xT (xOp2 pLt (xCallB pLen (xACons (xVar 1) xANil)) (xCallB pLen (xACons (xVar 0) xANil))) pBool)
      (xSeq (xSwap 0 1)
      xNil)
      xNil)
      (xSeq (xIf (xT (xOp2 pGt (xOp2 pMul (xOp2 pSub (xCallB pLen (xACons (xVar 1) xANil)) (xCallB pLen (xACons (xVar 0) xANil))) (xLit (.int 2))) (xVar 2)) pBool)
      (xSeq (xRet (xOp2 pAdd (xVar 2) (xLit (.int 1))))
      xNil)
      xNil)
      (xSeq (xAsgO 5 (xListRange (xLit (.int 2)) (xOp2 pMul (xLit (.int 2)) (xOp2 pAdd (xCallB pLen (xACons (xVar 0) xANil)) (xLit (.int 1)))) (xLit (.int 2))))
      (xSeq (xAsg 6 (xLit (.int 0)))
      (xSeq (xFor 7 (xRange1 (xCallB pLen (xACons (xVar 1) xANil)))
      (xSeq (xAsg 8 (xOp2 pItem (xVar 1) (xVar 7)))
      (xSeq (xAsg2 9 6 (xOp2 pMul (xVar 7) (xLit (.int 2))))
      (xSeq (xAsg 10 (xLit (.int BIG)))
      (xSeq (xFor 11 (xRange1 (xCallB pLen (xACons (xVar 0) xANil)))
      (xSeq (xAsg 12 (xOp2 pAdd (xVar 9) (xCall f_substitution_cost false (xACons (xVar 8) (xACons (xOp2 pItem (xVar 0) (xVar 11)) xANil)))))
      (xSeq (xAsg 9 (xOp2 pItem (xVar 5) (xVar 11)))
      (xSeq (xAsg 13 (xOp2 pAdd (xCallB pMin2 (xACons (xVar 6) (xACons (xVar 9) xANil))) (xLit (.int 2))))
      (xSeq (xAsg 6 (xCallB pMin2 (xACons (xVar 13) (xACons (xVar 12) xANil))))
      (xSeq (xSet 5 (xVar 11) (xVar 6))
      (xSeq (xIf (xT (xOp2 pLt (xVar 6) (xVar 10)) pBool)
      (xSeq (xAsg 10 (xVar 6))
      xNil)
      xNil)
      xNil)))))))
      (xSeq (xIf (xT (xOp2 pGt (xVar 10) (xVar 2)) pBool)
      (xSeq (xRet (xOp2 pAdd (xVar 2) (xLit (.int 1))))
      xNil)
      xNil)
      xNil))))))
      (xSeq (xRet (xVar 6))
      xNil)))))))))))))))))
noncomputable def f_levenshtein_distance : List PV → Option PV := fnOf 3 14 g_levenshtein_distance
noncomputable def C_levenshtein_distance : Ctx := { names := ["a", "b", "max_cost", "pre", "post", "row", "result", "bindex", "bchar", "distance", "minimum", "index", "substitute", "insert_delete"], kf := fun x => (fnScope PySem.Challenge.pw_rl0025_02 5).names.lookup x, u0 := false, dep := 1 }
theorem k_levenshtein_distance_a : C_levenshtein_distance.kf "a" = some .local := by decide +kernel
theorem k_levenshtein_distance_b : C_levenshtein_distance.kf "b" = some .local := by decide +kernel
theorem k_levenshtein_distance_pre : C_levenshtein_distance.kf "pre" = some .local := by decide +kernel
theorem k_levenshtein_distance_post : C_levenshtein_distance.kf "post" = some .local := by decide +kernel
theorem k_levenshtein_distance_MOVE_COST : C_levenshtein_distance.kf "_MOVE_COST" = some .globalImplicit := by decide +kernel
theorem k_levenshtein_distance_len : C_levenshtein_distance.kf "len" = some .globalImplicit := by decide +kernel
theorem k_levenshtein_distance_MAX_STRING_SIZE : C_levenshtein_distance.kf "_MAX_STRING_SIZE" = some .globalImplicit := by decide +kernel
theorem k_levenshtein_distance_max_cost : C_levenshtein_distance.kf "max_cost" = some .local := by decide +kernel
theorem k_levenshtein_distance_range : C_levenshtein_distance.kf "range" = some .globalImplicit := by decide +kernel
theorem k_levenshtein_distance_list : C_levenshtein_distance.kf "list" = some .globalImplicit := by decide +kernel
theorem k_levenshtein_distance_row : C_levenshtein_distance.kf "row" = some .local := by decide +kernel
theorem k_levenshtein_distance_result : C_levenshtein_distance.kf "result" = some .local := by decide +kernel
theorem k_levenshtein_distance_bindex : C_levenshtein_distance.kf "bindex" = some .local := by decide +kernel
theorem k_levenshtein_distance_bchar : C_levenshtein_distance.kf "bchar" = some .local := by decide +kernel
theorem k_levenshtein_distance_distance : C_levenshtein_distance.kf "distance" = some .local := by decide +kernel
theorem k_levenshtein_distance_minimum : C_levenshtein_distance.kf "minimum" = some .local := by decide +kernel
theorem k_levenshtein_distance_index : C_levenshtein_distance.kf "index" = some .local := by decide +kernel
theorem k_levenshtein_distance_substitution_cost : C_levenshtein_distance.kf "_substitution_cost" = some .globalImplicit := by decide +kernel
theorem k_levenshtein_distance_substitute : C_levenshtein_distance.kf "substitute" = some .local := by decide +kernel
theorem k_levenshtein_distance_min : C_levenshtein_distance.kf "min" = some .globalImplicit := by decide +kernel
theorem k_levenshtein_distance_insert_delete : C_levenshtein_distance.kf "insert_delete" = some .local := by decide +kernel
theorem b_levenshtein_distance (B : GBk G) (h_substitution_cost : Fn G "_substitution_cost" 1 f_substitution_cost) : SndSs G C_levenshtein_distance (fnBody PySem.Challenge.pw_rl0025_02 5) g_levenshtein_distance :=
    (sSs_cons (sS_if (sT_cmp prim_eq (sE_var 0 rfl (.inl k_levenshtein_distance_a)) (sE_var 1 rfl (.inl k_levenshtein_distance_b))) (sSs_cons (sS_ret sE_int)
      sSs_nil) sSs_nil)
      (sSs_cons (sS_asg 3 sE_int rfl (.inl k_levenshtein_distance_pre))
      (sSs_cons (sS_while 1000 (sT_and3 (sT_plain (sE_cut (sE_var 0 rfl (.inl k_levenshtein_distance_a)) (sP_some (sE_var 3 rfl (.inl k_levenshtein_distance_pre))) sP_none)) (sT_plain (sE_cut (sE_var 1 rfl (.inl k_levenshtein_distance_b)) (sP_some (sE_var 3 rfl (.inl k_levenshtein_distance_pre))) sP_none)) (sT_cmp prim_eq (sE_item (sE_var 0 rfl (.inl k_levenshtein_distance_a)) (sE_var 3 rfl (.inl k_levenshtein_distance_pre))) (sE_item (sE_var 1 rfl (.inl k_levenshtein_distance_b)) (sE_var 3 rfl (.inl k_levenshtein_distance_pre))))) (sSs_cons (sS_aug 3 sE_int rfl (.inl k_levenshtein_distance_pre) prim_iadd)
      sSs_nil) sSs_nil)
      (sSs_cons (sS_asg 0 (sE_cut (sE_var 0 rfl (.inl k_levenshtein_distance_a)) (sP_some (sE_var 3 rfl (.inl k_levenshtein_distance_pre))) sP_none) rfl (.inl k_levenshtein_distance_a))
      (sSs_cons (sS_asg 1 (sE_cut (sE_var 1 rfl (.inl k_levenshtein_distance_b)) (sP_some (sE_var 3 rfl (.inl k_levenshtein_distance_pre))) sP_none) rfl (.inl k_levenshtein_distance_b))
      (sSs_cons (sS_asg 4 sE_int rfl (.inl k_levenshtein_distance_post))
      (sSs_cons (sS_while 1000 (sT_and3 (sT_plain (sE_cut (sE_var 0 rfl (.inl k_levenshtein_distance_a)) sP_none (sP_some (sE_or (sE_var 4 rfl (.inl k_levenshtein_distance_post)) sE_none)))) (sT_plain (sE_cut (sE_var 1 rfl (.inl k_levenshtein_distance_b)) sP_none (sP_some (sE_or (sE_var 4 rfl (.inl k_levenshtein_distance_post)) sE_none)))) (sT_cmp prim_eq (sE_item (sE_var 0 rfl (.inl k_levenshtein_distance_a)) (sE_bin prim_sub (sE_var 4 rfl (.inl k_levenshtein_distance_post)) sE_int)) (sE_item (sE_var 1 rfl (.inl k_levenshtein_distance_b)) (sE_bin prim_sub (sE_var 4 rfl (.inl k_levenshtein_distance_post)) sE_int)))) (sSs_cons (sS_aug 4 sE_int rfl (.inl k_levenshtein_distance_post) prim_isub)
      sSs_nil) sSs_nil)
      (sSs_cons (sS_asg 0 (sE_cut (sE_var 0 rfl (.inl k_levenshtein_distance_a)) sP_none (sP_some (sE_or (sE_var 4 rfl (.inl k_levenshtein_distance_post)) sE_none))) rfl (.inl k_levenshtein_distance_a))
      (sSs_cons (sS_asg 1 (sE_cut (sE_var 1 rfl (.inl k_levenshtein_distance_b)) sP_none (sP_some (sE_or (sE_var 4 rfl (.inl k_levenshtein_distance_post)) sE_none))) rfl (.inl k_levenshtein_distance_b))
      (sSs_cons (sS_if (sT_or2 (sT_not (sT_plain (sE_var 0 rfl (.inl k_levenshtein_distance_a)))) (sT_not (sT_plain (sE_var 1 rfl (.inl k_levenshtein_distance_b))))) (sSs_cons (sS_ret (sE_bin prim_mul (sE_glob k_levenshtein_distance_MOVE_COST B.c_MOVE_COST) (sE_bin prim_add (sE_callB k_levenshtein_distance_len B.b_len prim_len (sA_cons (sE_var 0 rfl (.inl k_levenshtein_distance_a)) sA_nil)) (sE_callB k_levenshtein_distance_len B.b_len prim_len (sA_cons (sE_var 1 rfl (.inl k_levenshtein_distance_b)) sA_nil)))))
      sSs_nil) sSs_nil)
      (sSs_cons (sS_if (sT_or2 (sT_cmp prim_gt (sE_callB k_levenshtein_distance_len B.b_len prim_len (sA_cons (sE_var 0 rfl (.inl k_levenshtein_distance_a)) sA_nil)) (sE_glob k_levenshtein_distance_MAX_STRING_SIZE B.c_MAX_STRING_SIZE)) (sT_cmp prim_gt (sE_callB k_levenshtein_distance_len B.b_len prim_len (sA_cons (sE_var 1 rfl (.inl k_levenshtein_distance_b)) sA_nil)) (sE_glob k_levenshtein_distance_MAX_STRING_SIZE B.c_MAX_STRING_SIZE))) (sSs_cons (sS_ret (sE_bin prim_add (sE_var 2 rfl (.inl k_levenshtein_distance_max_cost)) sE_int))
      sSs_nil) sSs_nil)
      (sSs_cons (sS_if (sT_cmp prim_lt (sE_callB k_levenshtein_distance_len B.b_len prim_len (sA_cons (sE_var 1 rfl (.inl k_levenshtein_distance_b)) sA_nil)) (sE_callB k_levenshtein_distance_len B.b_len prim_len (sA_cons (sE_var 0 rfl (.inl k_levenshtein_distance_a)) sA_nil))) (sSs_cons (sS_swap 0 1 rfl rfl k_levenshtein_distance_a k_levenshtein_distance_b)
      sSs_nil) sSs_nil)
      (sSs_cons (sS_if (sT_cmp prim_gt (sE_bin prim_mul (sE_bin prim_sub (sE_callB k_levenshtein_distance_len B.b_len prim_len (sA_cons (sE_var 1 rfl (.inl k_levenshtein_distance_b)) sA_nil)) (sE_callB k_levenshtein_distance_len B.b_len prim_len (sA_cons (sE_var 0 rfl (.inl k_levenshtein_distance_a)) sA_nil))) (sE_glob k_levenshtein_distance_MOVE_COST B.c_MOVE_COST)) (sE_var 2 rfl (.inl k_levenshtein_distance_max_cost))) (sSs_cons (sS_ret (sE_bin prim_add (sE_var 2 rfl (.inl k_levenshtein_distance_max_cost)) sE_int))
      sSs_nil) sSs_nil)
      (sSs_cons (sS_asgO 5 (sE_listRange k_levenshtein_distance_range B.b_range k_levenshtein_distance_list B.b_list (sE_glob k_levenshtein_distance_MOVE_COST B.c_MOVE_COST) (sE_bin prim_mul (sE_glob k_levenshtein_distance_MOVE_COST B.c_MOVE_COST) (sE_bin prim_add (sE_callB k_levenshtein_distance_len B.b_len prim_len (sA_cons (sE_var 0 rfl (.inl k_levenshtein_distance_a)) sA_nil)) sE_int)) (sE_glob k_levenshtein_distance_MOVE_COST B.c_MOVE_COST)) rfl (.inl k_levenshtein_distance_row) rfl)
      (sSs_cons (sS_asg 6 sE_int rfl (.inl k_levenshtein_distance_result))
      (sSs_cons (sS_for 7 (sI_range1 k_levenshtein_distance_range B.b_range (sE_callB k_levenshtein_distance_len B.b_len prim_len (sA_cons (sE_var 1 rfl (.inl k_levenshtein_distance_b)) sA_nil))) (sSs_cons (sS_asg 8 (sE_item (sE_var 1 rfl (.inl k_levenshtein_distance_b)) (sE_var 7 rfl (.inl k_levenshtein_distance_bindex))) rfl (.inl k_levenshtein_distance_bchar))
      (sSs_cons (sS_asg2 9 6 (sE_bin prim_mul (sE_var 7 rfl (.inl k_levenshtein_distance_bindex)) (sE_glob k_levenshtein_distance_MOVE_COST B.c_MOVE_COST)) rfl (.inl k_levenshtein_distance_distance) rfl (.inl k_levenshtein_distance_result))
      (sSs_cons (sS_asg 10 sE_int rfl (.inl k_levenshtein_distance_minimum))
      (sSs_cons (sS_for 11 (sI_range1 k_levenshtein_distance_range B.b_range (sE_callB k_levenshtein_distance_len B.b_len prim_len (sA_cons (sE_var 0 rfl (.inl k_levenshtein_distance_a)) sA_nil))) (sSs_cons (sS_asg 12 (sE_bin prim_add (sE_var 9 rfl (.inl k_levenshtein_distance_distance)) (sE_call (deep := false) k_levenshtein_distance_substitution_cost h_substitution_cost (by decide) (sA_cons (sE_var 8 rfl (.inl k_levenshtein_distance_bchar)) (sA_cons (sE_item (sE_var 0 rfl (.inl k_levenshtein_distance_a)) (sE_var 11 rfl (.inl k_levenshtein_distance_index))) sA_nil)))) rfl (.inl k_levenshtein_distance_substitute))
      (sSs_cons (sS_asg 9 (sE_item (sE_var 5 rfl (.inl k_levenshtein_distance_row)) (sE_var 11 rfl (.inl k_levenshtein_distance_index))) rfl (.inl k_levenshtein_distance_distance))
      (sSs_cons (sS_asg 13 (sE_bin prim_add (sE_callB k_levenshtein_distance_min B.b_min prim_min2 (sA_cons (sE_var 6 rfl (.inl k_levenshtein_distance_result)) (sA_cons (sE_var 9 rfl (.inl k_levenshtein_distance_distance)) sA_nil))) (sE_glob k_levenshtein_distance_MOVE_COST B.c_MOVE_COST)) rfl (.inl k_levenshtein_distance_insert_delete))
      (sSs_cons (sS_asg 6 (sE_callB k_levenshtein_distance_min B.b_min prim_min2 (sA_cons (sE_var 13 rfl (.inl k_levenshtein_distance_insert_delete)) (sA_cons (sE_var 12 rfl (.inl k_levenshtein_distance_substitute)) sA_nil))) rfl (.inl k_levenshtein_distance_result))
      (sSs_cons (sS_set 5 (sE_var 6 rfl (.inl k_levenshtein_distance_result)) (sE_var 11 rfl (.inl k_levenshtein_distance_index)) rfl)
      (sSs_cons (sS_if (sT_cmp prim_lt (sE_var 6 rfl (.inl k_levenshtein_distance_result)) (sE_var 10 rfl (.inl k_levenshtein_distance_minimum))) (sSs_cons (sS_asg 10 (sE_var 6 rfl (.inl k_levenshtein_distance_result)) rfl (.inl k_levenshtein_distance_minimum))
      sSs_nil) sSs_nil)
      sSs_nil)))))) rfl (.inl k_levenshtein_distance_index))
      (sSs_cons (sS_if (sT_cmp prim_gt (sE_var 10 rfl (.inl k_levenshtein_distance_minimum)) (sE_var 2 rfl (.inl k_levenshtein_distance_max_cost))) (sSs_cons (sS_ret (sE_bin prim_add (sE_var 2 rfl (.inl k_levenshtein_distance_max_cost)) sE_int))
      sSs_nil) sSs_nil)
      sSs_nil))))) rfl (.inl k_levenshtein_distance_bindex))
      (sSs_cons (sS_ret (sE_var 6 rfl (.inl k_levenshtein_distance_result)))
      sSs_nil)))))))))))))))))
theorem h_levenshtein_distance {h0 : Heap} (T0 : Top G.p G.loose G.mean G.mg G.mb h0) (hd : fnRec PySem.Challenge.pw_rl0025_02 5 ∈ recsOf G.p) (B : GBk G) (h_substitution_cost : Fn G "_substitution_cost" 1 f_substitution_cost) : Fn G "_levenshtein_distance" 2 f_levenshtein_distance :=
  fn_intro (C := C_levenshtein_distance) T0 (fnRec PySem.Challenge.pw_rl0025_02 5) hd 3 (fun _ => rfl) (b_levenshtein_distance B h_substitution_cost) (by decide +kernel) (by decide) (by intro pm cd doc vs h; match vs, h with | [v0, v1, v2], _ => rfl) (by decide +kernel) rfl rfl rfl
/-! _generate_overlap_table -/
noncomputable def g_generate_overlap_table : XS :=
    (xSeq (xAsgO 1 (xRepl (xList (xACons (xLit (.int 0)) xANil)) (xCallB pLen (xACons (xVar 0) xANil))))
      (xSeq (xFor 2 (xRange2 (xLit (.int 1)) (xCallB pLen (xACons (xVar 0) xANil)))
      (xSeq (xAsg 3 (xOp2 pItem (xVar 1) (xOp2 pSub (xVar 2) (xLit (.int 1)))))
      (xSeq (xWhile (xT (xOp2 pNe (xOp2 pItem (xVar 0) (xVar 2)) (xOp2 pItem (xVar 0) (xVar 3))) pBool)
      (xSeq (xIf (xT (xOp2 pEq (xVar 3) (xLit (.int 0))) pBool)
      (xSeq (xSet 1 (xVar 2) (xLit (.int 0)))
      (xSeq xBrk
      xNil))
      xNil)
      (xSeq (xAsg 3 (xOp2 pItem (xVar 1) (xOp2 pSub (xVar 3) (xLit (.int 1)))))
      xNil))
      (xSeq (xSet 1 (xVar 2) (xOp2 pAdd (xVar 3) (xLit (.int 1))))
      xNil) 1000)
      xNil)))
      (xSeq (xRet (xVar 1))
      xNil)))
noncomputable def f_generate_overlap_table : List PV → Option PV := fnOf 1 4 g_generate_overlap_table
noncomputable def C_generate_overlap_table : Ctx := { names := ["prefix", "table", "i", "idx"], kf := fun x => (fnScope PySem.Challenge.pw_rl0025_02 7).names.lookup x, u0 := false, dep := 0 }
theorem k_generate_overlap_table_prefix : C_generate_overlap_table.kf "prefix" = some .local := by decide +kernel
theorem k_generate_overlap_table_len : C_generate_overlap_table.kf "len" = some .globalImplicit := by decide +kernel
theorem k_generate_overlap_table_table : C_generate_overlap_table.kf "table" = some .local := by decide +kernel
theorem k_generate_overlap_table_range : C_generate_overlap_table.kf "range" = some .globalImplicit := by decide +kernel
theorem k_generate_overlap_table_i : C_generate_overlap_table.kf "i" = some .local := by decide +kernel
theorem k_generate_overlap_table_idx : C_generate_overlap_table.kf "idx" = some .local := by decide +kernel
theorem b_generate_overlap_table (B : GBk G) : SndSs G C_generate_overlap_table (fnBody PySem.Challenge.pw_rl0025_02 7) g_generate_overlap_table :=
    (sSs_cons (sS_asgO 1 (sE_repl (sE_list (sA_cons sE_int sA_nil)) (sE_callB k_generate_overlap_table_len B.b_len prim_len (sA_cons (sE_var 0 rfl (.inl k_generate_overlap_table_prefix)) sA_nil))) rfl (.inl k_generate_overlap_table_table) rfl)
      (sSs_cons (sS_for 2 (sI_range2 k_generate_overlap_table_range B.b_range sE_int (sE_callB k_generate_overlap_table_len B.b_len prim_len (sA_cons (sE_var 0 rfl (.inl k_generate_overlap_table_prefix)) sA_nil))) (sSs_cons (sS_asg 3 (sE_item (sE_var 1 rfl (.inl k_generate_overlap_table_table)) (sE_bin prim_sub (sE_var 2 rfl (.inl k_generate_overlap_table_i)) sE_int)) rfl (.inl k_generate_overlap_table_idx))
      (sSs_cons (sS_while 1000 (sT_cmp prim_ne (sE_item (sE_var 0 rfl (.inl k_generate_overlap_table_prefix)) (sE_var 2 rfl (.inl k_generate_overlap_table_i))) (sE_item (sE_var 0 rfl (.inl k_generate_overlap_table_prefix)) (sE_var 3 rfl (.inl k_generate_overlap_table_idx)))) (sSs_cons (sS_if (sT_cmp prim_eq (sE_var 3 rfl (.inl k_generate_overlap_table_idx)) sE_int) (sSs_cons (sS_set 1 sE_int (sE_var 2 rfl (.inl k_generate_overlap_table_i)) rfl)
      (sSs_cons sS_brk
      sSs_nil)) sSs_nil)
      (sSs_cons (sS_asg 3 (sE_item (sE_var 1 rfl (.inl k_generate_overlap_table_table)) (sE_bin prim_sub (sE_var 3 rfl (.inl k_generate_overlap_table_idx)) sE_int)) rfl (.inl k_generate_overlap_table_idx))
      sSs_nil)) (sSs_cons (sS_set 1 (sE_bin prim_add (sE_var 3 rfl (.inl k_generate_overlap_table_idx)) sE_int) (sE_var 2 rfl (.inl k_generate_overlap_table_i)) rfl)
      sSs_nil))
      sSs_nil)) rfl (.inl k_generate_overlap_table_i))
      (sSs_cons (sS_ret (sE_var 1 rfl (.inl k_generate_overlap_table_table)))
      sSs_nil)))
theorem h_generate_overlap_table {h0 : Heap} (T0 : Top G.p G.loose G.mean G.mg G.mb h0) (hd : fnRec PySem.Challenge.pw_rl0025_02 7 ∈ recsOf G.p) (B : GBk G) : Fn G "_generate_overlap_table" 1 f_generate_overlap_table :=
  fn_intro (C := C_generate_overlap_table) T0 (fnRec PySem.Challenge.pw_rl0025_02 7) hd 1 (fun _ => rfl) (b_generate_overlap_table B) (by decide +kernel) (by decide) (by intro pm cd doc vs h; match vs, h with | [v0], _ => rfl) (by decide +kernel) rfl rfl rfl
/-! _law_row -/
noncomputable def g_law_row : XS :=
    (xSeq (xAsg 1 (xOp2 pJoin (xLit (.str "")) (xComp [] (xItems (xCut (xVar 0) (xLit .none) (xLit (.int 10)))) xTrue (xOp2 pItem (xLit (.str "abaB")) (xOp2 pMod (xVar 0) (xLit (.int 4)))))))
      (xSeq (xRet (xOp2 pAdd (xVar 1) (xCut (xLit (.str "ababaBabaa")) (xCallB pLen (xACons (xVar 1) xANil)) (xLit .none))))
      xNil))
noncomputable def f_law_row : List PV → Option PV := fnOf 1 2 g_law_row
noncomputable def C_law_row : Ctx := { names := ["script", "signs"], kf := fun x => (fnScope PySem.Challenge.pw_rl0025_02 9).names.lookup x, u0 := false, dep := 0 }
theorem k_law_row_script : C_law_row.kf "script" = some .local := by decide +kernel
theorem k_law_row_signs : C_law_row.kf "signs" = some .local := by decide +kernel
theorem k_law_row_len : C_law_row.kf "len" = some .globalImplicit := by decide +kernel
theorem b_law_row (B : GBk G) : SndSs G C_law_row (fnBody PySem.Challenge.pw_rl0025_02 9) g_law_row :=
    (sSs_cons (sS_asg 1 (sE_join sE_str (sE_comp [] (sI_items (sE_cut (sE_var 0 rfl (.inl k_law_row_script)) sP_none (sP_some sE_int))) sC_nil (sE_item sE_str (sE_bin prim_mod (sE_var 0 rfl (.inl (by decide +kernel))) sE_int)) ⟨by decide +kernel, by decide +kernel, by decide +kernel, by decide +kernel, by decide +kernel, by decide +kernel⟩ (by decide +kernel))) rfl (.inl k_law_row_signs))
      (sSs_cons (sS_ret (sE_bin prim_add (sE_var 1 rfl (.inl k_law_row_signs)) (sE_cut sE_str (sP_some (sE_callB k_law_row_len B.b_len prim_len (sA_cons (sE_var 1 rfl (.inl k_law_row_signs)) sA_nil))) sP_none)))
      sSs_nil))
theorem h_law_row {h0 : Heap} (T0 : Top G.p G.loose G.mean G.mg G.mb h0) (hd : fnRec PySem.Challenge.pw_rl0025_02 9 ∈ recsOf G.p) (B : GBk G) : Fn G "_law_row" 1 f_law_row :=
  fn_intro (C := C_law_row) T0 (fnRec PySem.Challenge.pw_rl0025_02 9) hd 1 (fun _ => rfl) (b_law_row B) (by decide +kernel) (by decide) (by intro pm cd doc vs h; match vs, h with | [v0], _ => rfl) (by decide +kernel) rfl rfl rfl
/-! _law_ends -/
noncomputable def g_law_ends : XS :=
    (xSeq (xAsg 2 (xCall f_generate_overlap_table false (xACons (xOp2 pAdd (xOp2 pAdd (xVar 0) (xLit (.str "|"))) (xVar 1)) xANil)))
      (xSeq (xAsgO 3 (xList xANil))
      (xSeq (xFor 4 (xRange2 (xCallB pLen (xACons (xVar 0) xANil)) (xCallB pLen (xACons (xVar 2) xANil)))
      (xSeq (xAsg 5 (xOp2 pItem (xVar 2) (xVar 4)))
      (xSeq (xAsgO 6 (xList (xACons (xLit (.int 0)) xANil)))
      (xSeq (xWhile (xT (xOp2 pGt (xVar 5) (xLit (.int 0))) pBool)
      (xSeq (xApp 6 (xVar 5))
      (xSeq (xAsg 5 (xOp2 pItem (xVar 2) (xOp2 pSub (xVar 5) (xLit (.int 1)))))
      xNil))
      xNil 1000)
      (xSeq (xAppO 3 6)
      xNil)))))
      (xSeq (xRet (xVar 3))
      xNil))))
noncomputable def f_law_ends : List PV → Option PV := fnOf 2 7 g_law_ends
noncomputable def C_law_ends : Ctx := { names := ["word", "text", "table", "told", "place", "size", "sizes"], kf := fun x => (fnScope PySem.Challenge.pw_rl0025_02 10).names.lookup x, u0 := false, dep := 1 }
theorem k_law_ends_word : C_law_ends.kf "word" = some .local := by decide +kernel
theorem k_law_ends_text : C_law_ends.kf "text" = some .local := by decide +kernel
theorem k_law_ends_generate_overlap_table : C_law_ends.kf "_generate_overlap_table" = some .globalImplicit := by decide +kernel
theorem k_law_ends_table : C_law_ends.kf "table" = some .local := by decide +kernel
theorem k_law_ends_told : C_law_ends.kf "told" = some .local := by decide +kernel
theorem k_law_ends_len : C_law_ends.kf "len" = some .globalImplicit := by decide +kernel
theorem k_law_ends_range : C_law_ends.kf "range" = some .globalImplicit := by decide +kernel
theorem k_law_ends_place : C_law_ends.kf "place" = some .local := by decide +kernel
theorem k_law_ends_size : C_law_ends.kf "size" = some .local := by decide +kernel
theorem k_law_ends_sizes : C_law_ends.kf "sizes" = some .local := by decide +kernel
theorem b_law_ends (B : GBk G) (h_generate_overlap_table : Fn G "_generate_overlap_table" 1 f_generate_overlap_table) : SndSs G C_law_ends (fnBody PySem.Challenge.pw_rl0025_02 10) g_law_ends :=
    (sSs_cons (sS_asg 2 (sE_call (deep := false) k_law_ends_generate_overlap_table h_generate_overlap_table (by decide) (sA_cons (sE_bin prim_add (sE_bin prim_add (sE_var 0 rfl (.inl k_law_ends_word)) sE_str) (sE_var 1 rfl (.inl k_law_ends_text))) sA_nil)) rfl (.inl k_law_ends_table))
      (sSs_cons (sS_asgO 3 (sE_list sA_nil) rfl (.inl k_law_ends_told) rfl)
      (sSs_cons (sS_for 4 (sI_range2 k_law_ends_range B.b_range (sE_callB k_law_ends_len B.b_len prim_len (sA_cons (sE_var 0 rfl (.inl k_law_ends_word)) sA_nil)) (sE_callB k_law_ends_len B.b_len prim_len (sA_cons (sE_var 2 rfl (.inl k_law_ends_table)) sA_nil))) (sSs_cons (sS_asg 5 (sE_item (sE_var 2 rfl (.inl k_law_ends_table)) (sE_var 4 rfl (.inl k_law_ends_place))) rfl (.inl k_law_ends_size))
      (sSs_cons (sS_asgO 6 (sE_list (sA_cons sE_int sA_nil)) rfl (.inl k_law_ends_sizes) rfl)
      (sSs_cons (sS_while 1000 (sT_cmp prim_gt (sE_var 5 rfl (.inl k_law_ends_size)) sE_int) (sSs_cons (sS_app 6 (sE_var 5 rfl (.inl k_law_ends_size)) rfl)
      (sSs_cons (sS_asg 5 (sE_item (sE_var 2 rfl (.inl k_law_ends_table)) (sE_bin prim_sub (sE_var 5 rfl (.inl k_law_ends_size)) sE_int)) rfl (.inl k_law_ends_size))
      sSs_nil)) sSs_nil)
      (sSs_cons (sS_appO 3 6 rfl rfl)
      sSs_nil)))) rfl (.inl k_law_ends_place))
      (sSs_cons (sS_ret (sE_var 3 rfl (.inl k_law_ends_told)))
      sSs_nil))))
theorem h_law_ends {h0 : Heap} (T0 : Top G.p G.loose G.mean G.mg G.mb h0) (hd : fnRec PySem.Challenge.pw_rl0025_02 10 ∈ recsOf G.p) (B : GBk G) (h_generate_overlap_table : Fn G "_generate_overlap_table" 1 f_generate_overlap_table) : Fn G "_law_ends" 2 f_law_ends :=
  fn_intro (C := C_law_ends) T0 (fnRec PySem.Challenge.pw_rl0025_02 10) hd 2 (fun _ => rfl) (b_law_ends B h_generate_overlap_table) (by decide +kernel) (by decide) (by intro pm cd doc vs h; match vs, h with | [v0, v1], _ => rfl) (by decide +kernel) rfl rfl rfl
/-! _law_unlike -/
noncomputable def g_law_unlike : XS :=
    (xSeq (xRet (xCallB pLen (xACons (xComp [0, 1] (xRange1 (xCallB pLen (xACons (xVar 0) xANil))) (xT (xOp2 pNe (xOp2 pItem (xVar 0) (xVar 2)) (xOp2 pItem (xVar 1) (xVar 2))) pBool) (xVar 2)) xANil)))
      xNil)
noncomputable def f_law_unlike : List PV → Option PV := fnOf 2 2 g_law_unlike
noncomputable def C_law_unlike : Ctx := { names := ["word", "part"], kf := fun x => (fnScope PySem.Challenge.pw_rl0025_02 11).names.lookup x, u0 := false, dep := 0 }
theorem k_law_unlike_word : C_law_unlike.kf "word" = some .cell := by decide +kernel
theorem k_law_unlike_len : C_law_unlike.kf "len" = some .globalImplicit := by decide +kernel
theorem k_law_unlike_range : C_law_unlike.kf "range" = some .globalImplicit := by decide +kernel
theorem b_law_unlike (B : GBk G) : SndSs G C_law_unlike (fnBody PySem.Challenge.pw_rl0025_02 11) g_law_unlike :=
    (sSs_cons (sS_ret (sE_callB k_law_unlike_len B.b_len prim_len (sA_cons (sE_comp [0, 1] (sI_range1 k_law_unlike_range B.b_range (sE_callB k_law_unlike_len B.b_len prim_len (sA_cons (sE_var 0 rfl (.inr k_law_unlike_word)) sA_nil))) (sC_one (sT_cmp prim_ne (sE_item (sE_var 0 rfl (.inr (by decide +kernel))) (sE_var 2 rfl (.inl (by decide +kernel)))) (sE_item (sE_var 1 rfl (.inr (by decide +kernel))) (sE_var 2 rfl (.inl (by decide +kernel)))))) (sE_var 2 rfl (.inl (by decide +kernel))) ⟨by decide +kernel, by decide +kernel, by decide +kernel, by decide +kernel, by decide +kernel, by decide +kernel⟩ (by decide +kernel)) sA_nil)))
      sSs_nil)
theorem h_law_unlike {h0 : Heap} (T0 : Top G.p G.loose G.mean G.mg G.mb h0) (hd : fnRec PySem.Challenge.pw_rl0025_02 11 ∈ recsOf G.p) (B : GBk G) : Fn G "_law_unlike" 1 f_law_unlike :=
  fn_intro (C := C_law_unlike) T0 (fnRec PySem.Challenge.pw_rl0025_02 11) hd 2 (fun _ => rfl) (b_law_unlike B) (by decide +kernel) (by decide) (by intro pm cd doc vs h; match vs, h with | [v0, v1], _ => rfl) (by decide +kernel) rfl rfl rfl
/-! _law_by_signs -/
noncomputable def g_law_by_signs : XS :=
    (xSeq (xIf (xT (xOp2 pEq (xOp1 pLower (xVar 0)) (xOp1 pLower (xVar 1))) pBool)
      (xSeq (xRet (xCallB pMin2 (xACons (xLit (.int 3)) (xACons (xCall f_law_unlike false (xACons (xVar 0) (xACons (xVar 1) xANil))) xANil))))
      xNil)
      xNil)
      (xSeq (xAsg 2 (xCallB pMin2 (xACons (xCallB pLen (xACons (xVar 0) xANil)) (xACons (xCallB pLen (xACons (xVar 1) xANil)) xANil))))
      (xSeq (xAsg 3 (xLit (.int 0)))
      (xSeq (xWhile (xAnd (xT (xOp2 pLt (xVar 3) (xVar 2)) pBool) (xT (xOp2 pEq (xOp2 pItem (xVar 0) (xVar 3)) (xOp2 pItem (xVar 1) (xVar 3))) pBool))
      (xSeq (xAug 3 pAdd (xLit (.int 1)))
      xNil)
      xNil 1000)
      (xSeq (xAsg 4 (xLit (.int 0)))
      (xSeq (xWhile (xAnd (xT (xOp2 pLt (xOp2 pAdd (xVar 3) (xVar 4)) (xVar 2)) pBool) (xT (xOp2 pEq (xOp2 pItem (xVar 0) (xOp2 pSub (xOp1 pNeg (xLit (.int 1))) (xVar 4))) (xOp2 pItem (xVar 1) (xOp2 pSub (xOp1 pNeg (xLit (.int 1))) (xVar 4)))) pBool))
      (xSeq (xAug 4 pAdd (xLit (.int 1)))
      xNil)
      xNil 1000)
      (xSeq (xRet (xIte (xT (xOp2 pEq (xOp2 pSub (xOp2 pSub (xCallB pMax2 (xACons (xCallB pLen (xACons (xVar 0) xANil)) (xACons (xCallB pLen (xACons (xVar 1) xANil)) xANil))) (xVar 3)) (xVar 4)) (xLit (.int 1))) pBool) (xLit (.int 2)) (xLit (.int 3))))
      xNil)))))))
noncomputable def f_law_by_signs : List PV → Option PV := fnOf 2 5 g_law_by_signs
noncomputable def C_law_by_signs : Ctx := { names := ["word", "part", "short", "front", "back"], kf := fun x => (fnScope PySem.Challenge.pw_rl0025_02 12).names.lookup x, u0 := false, dep := 1 }
theorem k_law_by_signs_word : C_law_by_signs.kf "word" = some .local := by decide +kernel
theorem k_law_by_signs_part : C_law_by_signs.kf "part" = some .local := by decide +kernel
theorem k_law_by_signs_law_unlike : C_law_by_signs.kf "_law_unlike" = some .globalImplicit := by decide +kernel
theorem k_law_by_signs_min : C_law_by_signs.kf "min" = some .globalImplicit := by decide +kernel
theorem k_law_by_signs_len : C_law_by_signs.kf "len" = some .globalImplicit := by decide +kernel
theorem k_law_by_signs_short : C_law_by_signs.kf "short" = some .local := by decide +kernel
theorem k_law_by_signs_front : C_law_by_signs.kf "front" = some .local := by decide +kernel
theorem k_law_by_signs_back : C_law_by_signs.kf "back" = some .local := by decide +kernel
theorem k_law_by_signs_max : C_law_by_signs.kf "max" = some .globalImplicit := by decide +kernel
theorem b_law_by_signs (B : GBk G) (h_law_unlike : Fn G "_law_unlike" 1 f_law_unlike) : SndSs G C_law_by_signs (fnBody PySem.Challenge.pw_rl0025_02 12) g_law_by_signs :=
    (sSs_cons (sS_if (sT_cmp prim_eq (sE_lower (sE_var 0 rfl (.inl k_law_by_signs_word))) (sE_lower (sE_var 1 rfl (.inl k_law_by_signs_part)))) (sSs_cons (sS_ret (sE_callB k_law_by_signs_min B.b_min prim_min2 (sA_cons sE_int (sA_cons (sE_call (deep := false) k_law_by_signs_law_unlike h_law_unlike (by decide) (sA_cons (sE_var 0 rfl (.inl k_law_by_signs_word)) (sA_cons (sE_var 1 rfl (.inl k_law_by_signs_part)) sA_nil))) sA_nil))))
      sSs_nil) sSs_nil)
      (sSs_cons (sS_asg 2 (sE_callB k_law_by_signs_min B.b_min prim_min2 (sA_cons (sE_callB k_law_by_signs_len B.b_len prim_len (sA_cons (sE_var 0 rfl (.inl k_law_by_signs_word)) sA_nil)) (sA_cons (sE_callB k_law_by_signs_len B.b_len prim_len (sA_cons (sE_var 1 rfl (.inl k_law_by_signs_part)) sA_nil)) sA_nil))) rfl (.inl k_law_by_signs_short))
      (sSs_cons (sS_asg 3 sE_int rfl (.inl k_law_by_signs_front))
      (sSs_cons (sS_while 1000 (sT_and2 (sT_cmp prim_lt (sE_var 3 rfl (.inl k_law_by_signs_front)) (sE_var 2 rfl (.inl k_law_by_signs_short))) (sT_cmp prim_eq (sE_item (sE_var 0 rfl (.inl k_law_by_signs_word)) (sE_var 3 rfl (.inl k_law_by_signs_front))) (sE_item (sE_var 1 rfl (.inl k_law_by_signs_part)) (sE_var 3 rfl (.inl k_law_by_signs_front))))) (sSs_cons (sS_aug 3 sE_int rfl (.inl k_law_by_signs_front) prim_iadd)
      sSs_nil) sSs_nil)
      (sSs_cons (sS_asg 4 sE_int rfl (.inl k_law_by_signs_back))
      (sSs_cons (sS_while 1000 (sT_and2 (sT_cmp prim_lt (sE_bin prim_add (sE_var 3 rfl (.inl k_law_by_signs_front)) (sE_var 4 rfl (.inl k_law_by_signs_back))) (sE_var 2 rfl (.inl k_law_by_signs_short))) (sT_cmp prim_eq (sE_item (sE_var 0 rfl (.inl k_law_by_signs_word)) (sE_bin prim_sub (sE_neg sE_int) (sE_var 4 rfl (.inl k_law_by_signs_back)))) (sE_item (sE_var 1 rfl (.inl k_law_by_signs_part)) (sE_bin prim_sub (sE_neg sE_int) (sE_var 4 rfl (.inl k_law_by_signs_back)))))) (sSs_cons (sS_aug 4 sE_int rfl (.inl k_law_by_signs_back) prim_iadd)
      sSs_nil) sSs_nil)
      (sSs_cons (sS_ret (sE_ite (sT_cmp prim_eq (sE_bin prim_sub (sE_bin prim_sub (sE_callB k_law_by_signs_max B.b_max prim_max2 (sA_cons (sE_callB k_law_by_signs_len B.b_len prim_len (sA_cons (sE_var 0 rfl (.inl k_law_by_signs_word)) sA_nil)) (sA_cons (sE_callB k_law_by_signs_len B.b_len prim_len (sA_cons (sE_var 1 rfl (.inl k_law_by_signs_part)) sA_nil)) sA_nil))) (sE_var 3 rfl (.inl k_law_by_signs_front))) (sE_var 4 rfl (.inl k_law_by_signs_back))) sE_int) sE_int sE_int))
      sSs_nil)))))))
theorem h_law_by_signs {h0 : Heap} (T0 : Top G.p G.loose G.mean G.mg G.mb h0) (hd : fnRec PySem.Challenge.pw_rl0025_02 12 ∈ recsOf G.p) (B : GBk G) (h_law_unlike : Fn G "_law_unlike" 1 f_law_unlike) : Fn G "_law_by_signs" 2 f_law_by_signs :=
  fn_intro (C := C_law_by_signs) T0 (fnRec PySem.Challenge.pw_rl0025_02 12) hd 2 (fun _ => rfl) (b_law_by_signs B h_law_unlike) (by decide +kernel) (by decide) (by intro pm cd doc vs h; match vs, h with | [v0, v1], _ => rfl) (by decide +kernel) rfl rfl rfl
/-! _law_by_tables -/
noncomputable def g_law_by_tables : XS :=
    (xSeq (xAsg 6 (xCallB pLen (xACons (xVar 0) xANil)))
      (xSeq (xAsg 7 (xOp2 pAdd (xVar 2) (xCallB pLen (xACons (xVar 1) xANil))))
      (xSeq (xIf (xAnd (xT (xOp2 pEq (xCallB pLen (xACons (xVar 1) xANil)) (xVar 6)) pBool) (xT (xOp2 pIn (xVar 6) (xOp2 pItem (xVar 5) (xVar 7))) pBool))
      (xSeq (xRet (xCallB pMin2 (xACons (xLit (.int 3)) (xACons (xCall f_law_unlike false (xACons (xVar 0) (xACons (xVar 1) xANil))) xANil))))
      xNil)
      xNil)
      (xSeq (xIf (xT (xOp2 pGt (xCallB pAbs (xACons (xOp2 pSub (xCallB pLen (xACons (xVar 1) xANil)) (xVar 6)) xANil)) (xLit (.int 1))) pBool)
      (xSeq (xRet (xLit (.int 3)))
      xNil)
      xNil)
      (xSeq (xAsg 8 (xOp2 pSub (xCallB pMax2 (xACons (xVar 6) (xACons (xCallB pLen (xACons (xVar 1) xANil)) xANil))) (xLit (.int 1))))
      (xSeq (xFor 9 (xRange1 (xOp2 pAdd (xVar 8) (xLit (.int 1))))
      (xSeq (xIf (xAnd (xT (xOp2 pIn (xVar 9) (xOp2 pItem (xVar 3) (xOp2 pAdd (xVar 2) (xVar 9)))) pBool) (xT (xOp2 pIn (xOp2 pSub (xVar 8) (xVar 9)) (xOp2 pItem (xVar 4) (xOp2 pAdd (xOp2 pSub (xVar 7) (xVar 8)) (xVar 9)))) pBool))
      (xSeq (xRet (xLit (.int 2)))
      xNil)
      xNil)
      xNil))
      (xSeq (xRet (xLit (.int 3)))
      xNil)))))))
noncomputable def f_law_by_tables : List PV → Option PV := fnOf 6 10 g_law_by_tables
noncomputable def C_law_by_tables : Ctx := { names := ["word", "part", "first", "ahead", "behind", "small", "size", "last", "need", "front"], kf := fun x => (fnScope PySem.Challenge.pw_rl0025_02 13).names.lookup x, u0 := false, dep := 1 }
theorem k_law_by_tables_word : C_law_by_tables.kf "word" = some .local := by decide +kernel
theorem k_law_by_tables_len : C_law_by_tables.kf "len" = some .globalImplicit := by decide +kernel
theorem k_law_by_tables_size : C_law_by_tables.kf "size" = some .local := by decide +kernel
theorem k_law_by_tables_first : C_law_by_tables.kf "first" = some .local := by decide +kernel
theorem k_law_by_tables_part : C_law_by_tables.kf "part" = some .local := by decide +kernel
theorem k_law_by_tables_last : C_law_by_tables.kf "last" = some .local := by decide +kernel
theorem k_law_by_tables_small : C_law_by_tables.kf "small" = some .local := by decide +kernel
theorem k_law_by_tables_law_unlike : C_law_by_tables.kf "_law_unlike" = some .globalImplicit := by decide +kernel
theorem k_law_by_tables_min : C_law_by_tables.kf "min" = some .globalImplicit := by decide +kernel
theorem k_law_by_tables_abs : C_law_by_tables.kf "abs" = some .globalImplicit := by decide +kernel
theorem k_law_by_tables_max : C_law_by_tables.kf "max" = some .globalImplicit := by decide +kernel
theorem k_law_by_tables_need : C_law_by_tables.kf "need" = some .local := by decide +kernel
theorem k_law_by_tables_range : C_law_by_tables.kf "range" = some .globalImplicit := by decide +kernel
theorem k_law_by_tables_front : C_law_by_tables.kf "front" = some .local := by decide +kernel
theorem k_law_by_tables_ahead : C_law_by_tables.kf "ahead" = some .local := by decide +kernel
theorem k_law_by_tables_behind : C_law_by_tables.kf "behind" = some .local := by decide +kernel
theorem b_law_by_tables (B : GBk G) (h_law_unlike : Fn G "_law_unlike" 1 f_law_unlike) : SndSs G C_law_by_tables (fnBody PySem.Challenge.pw_rl0025_02 13) g_law_by_tables :=
    (sSs_cons (sS_asg 6 (sE_callB k_law_by_tables_len B.b_len prim_len (sA_cons (sE_var 0 rfl (.inl k_law_by_tables_word)) sA_nil)) rfl (.inl k_law_by_tables_size))
      (sSs_cons (sS_asg 7 (sE_bin prim_add (sE_var 2 rfl (.inl k_law_by_tables_first)) (sE_callB k_law_by_tables_len B.b_len prim_len (sA_cons (sE_var 1 rfl (.inl k_law_by_tables_part)) sA_nil))) rfl (.inl k_law_by_tables_last))
      (sSs_cons (sS_if (sT_and2 (sT_cmp prim_eq (sE_callB k_law_by_tables_len B.b_len prim_len (sA_cons (sE_var 1 rfl (.inl k_law_by_tables_part)) sA_nil)) (sE_var 6 rfl (.inl k_law_by_tables_size))) (sT_cmp prim_in (sE_var 6 rfl (.inl k_law_by_tables_size)) (sE_item (sE_var 5 rfl (.inl k_law_by_tables_small)) (sE_var 7 rfl (.inl k_law_by_tables_last))))) (sSs_cons (sS_ret (sE_callB k_law_by_tables_min B.b_min prim_min2 (sA_cons sE_int (sA_cons (sE_call (deep := false) k_law_by_tables_law_unlike h_law_unlike (by decide) (sA_cons (sE_var 0 rfl (.inl k_law_by_tables_word)) (sA_cons (sE_var 1 rfl (.inl k_law_by_tables_part)) sA_nil))) sA_nil))))
      sSs_nil) sSs_nil)
      (sSs_cons (sS_if (sT_cmp prim_gt (sE_callB k_law_by_tables_abs B.b_abs prim_abs (sA_cons (sE_bin prim_sub (sE_callB k_law_by_tables_len B.b_len prim_len (sA_cons (sE_var 1 rfl (.inl k_law_by_tables_part)) sA_nil)) (sE_var 6 rfl (.inl k_law_by_tables_size))) sA_nil)) sE_int) (sSs_cons (sS_ret sE_int)
      sSs_nil) sSs_nil)
      (sSs_cons (sS_asg 8 (sE_bin prim_sub (sE_callB k_law_by_tables_max B.b_max prim_max2 (sA_cons (sE_var 6 rfl (.inl k_law_by_tables_size)) (sA_cons (sE_callB k_law_by_tables_len B.b_len prim_len (sA_cons (sE_var 1 rfl (.inl k_law_by_tables_part)) sA_nil)) sA_nil))) sE_int) rfl (.inl k_law_by_tables_need))
      (sSs_cons (sS_for 9 (sI_range1 k_law_by_tables_range B.b_range (sE_bin prim_add (sE_var 8 rfl (.inl k_law_by_tables_need)) sE_int)) (sSs_cons (sS_if (sT_and2 (sT_cmp prim_in (sE_var 9 rfl (.inl k_law_by_tables_front)) (sE_item (sE_var 3 rfl (.inl k_law_by_tables_ahead)) (sE_bin prim_add (sE_var 2 rfl (.inl k_law_by_tables_first)) (sE_var 9 rfl (.inl k_law_by_tables_front))))) (sT_cmp prim_in (sE_bin prim_sub (sE_var 8 rfl (.inl k_law_by_tables_need)) (sE_var 9 rfl (.inl k_law_by_tables_front))) (sE_item (sE_var 4 rfl (.inl k_law_by_tables_behind)) (sE_bin prim_add (sE_bin prim_sub (sE_var 7 rfl (.inl k_law_by_tables_last)) (sE_var 8 rfl (.inl k_law_by_tables_need))) (sE_var 9 rfl (.inl k_law_by_tables_front)))))) (sSs_cons (sS_ret sE_int)
      sSs_nil) sSs_nil)
      sSs_nil) rfl (.inl k_law_by_tables_front))
      (sSs_cons (sS_ret sE_int)
      sSs_nil)))))))
theorem h_law_by_tables {h0 : Heap} (T0 : Top G.p G.loose G.mean G.mg G.mb h0) (hd : fnRec PySem.Challenge.pw_rl0025_02 13 ∈ recsOf G.p) (B : GBk G) (h_law_unlike : Fn G "_law_unlike" 1 f_law_unlike) : Fn G "_law_by_tables" 2 f_law_by_tables :=
  fn_intro (C := C_law_by_tables) T0 (fnRec PySem.Challenge.pw_rl0025_02 13) hd 6 (fun _ => rfl) (b_law_by_tables B h_law_unlike) (by decide +kernel) (by decide) (by intro pm cd doc vs h; match vs, h with | [v0, v1, v2, v3, v4, v5], _ => rfl) (by decide +kernel) rfl rfl rfl
/-! law -/
noncomputable def g_law : XS :=
    (xSeq (xAsg 1 (xCall f_law_row false (xACons (xVar 0) xANil)))
      (xSeq (xAsg 2 (xOp2 pAdd (xLit (.int 3)) (xOp2 pMod (xCallB pLen (xACons (xVar 0) xANil)) (xLit (.int 2)))))
      (xSeq (xAsg 3 (xCut (xVar 1) (xLit .none) (xVar 2)))
      (xSeq (xAsg 4 (xCut (xVar 1) (xVar 2) (xLit .none)))
      (xSeq (xAsg 5 (xCall f_law_ends true (xACons (xVar 3) (xACons (xVar 4) xANil))))
      (xSeq (xAsg 6 (xRev (xCall f_law_ends true (xACons (xRev (xVar 3)) (xACons (xRev (xVar 4)) xANil)))))
      (xSeq (xAsg 7 (xCall f_law_ends true (xACons (xOp1 pLower (xVar 3)) (xACons (xOp1 pLower (xVar 4)) xANil))))
      (xSeq (xFor 8 (xRange1 (xOp2 pAdd (xCallB pLen (xACons (xVar 4) xANil)) (xLit (.int 1))))
      (xSeq (xFor 9 (xRange2 (xVar 8) (xOp2 pAdd (xCallB pLen (xACons (xVar 4) xANil)) (xLit (.int 1))))
      (xSeq (xAsg 10 (xCut (xVar 4) (xVar 8) (xVar 9)))
      (xSeq (xAsg 11 (xCall f_law_by_signs false (xACons (xVar 3) (xACons (xVar 10) xANil))))
      (xSeq (xAsg 12 (xCall f_levenshtein_distance false (xACons (xVar 3) (xACons (xVar 10) (xACons (xLit (.int 2)) xANil)))))
      (xSeq (xIf (xOr (xT (xOp1 pIsBool (xVar 12)) xTruth) (xT (xOp2 pNe (xCallB pMin2 (xACons (xLit (.int 3)) (xACons (xVar 12) xANil))) (xVar 11)) pBool))
      (xSeq (xRet (xLit (.bool false)))
      xNil)
      xNil)
      (xSeq (xIf (xT (xOp2 pNe (xCall f_law_by_tables false (xACons (xVar 3) (xACons (xVar 10) (xACons (xVar 8) (xACons (xVar 5) (xACons (xVar 6) (xACons (xVar 7) xANil))))))) (xVar 11)) pBool)
      (xSeq (xRet (xLit (.bool false)))
      xNil)
      xNil)
      xNil))))))
      xNil))
      (xSeq (xRet (xLit (.bool true)))
      xNil)))))))))
noncomputable def f_law : List PV → Option PV := fnOf 1 13 g_law
noncomputable def C_law : Ctx := { names := ["script", "row", "size", "word", "text", "ahead", "behind", "small", "first", "last", "part", "due", "told"], kf := fun x => (fnScope PySem.Challenge.pw_rl0025_02 14).names.lookup x, u0 := true, dep := 2 }
theorem k_law_script : C_law.kf "script" = some .local := by decide +kernel
theorem k_law_law_row : C_law.kf "_law_row" = some .globalImplicit := by decide +kernel
theorem k_law_row : C_law.kf "row" = some .local := by decide +kernel
theorem k_law_len : C_law.kf "len" = some .globalImplicit := by decide +kernel
theorem k_law_size : C_law.kf "size" = some .local := by decide +kernel
theorem k_law_word : C_law.kf "word" = some .local := by decide +kernel
theorem k_law_text : C_law.kf "text" = some .local := by decide +kernel
theorem k_law_law_ends : C_law.kf "_law_ends" = some .globalImplicit := by decide +kernel
theorem k_law_ahead : C_law.kf "ahead" = some .local := by decide +kernel
theorem k_law_behind : C_law.kf "behind" = some .local := by decide +kernel
theorem k_law_small : C_law.kf "small" = some .local := by decide +kernel
theorem k_law_range : C_law.kf "range" = some .globalImplicit := by decide +kernel
theorem k_law_first : C_law.kf "first" = some .local := by decide +kernel
theorem k_law_last : C_law.kf "last" = some .local := by decide +kernel
theorem k_law_part : C_law.kf "part" = some .local := by decide +kernel
theorem k_law_law_by_signs : C_law.kf "_law_by_signs" = some .globalImplicit := by decide +kernel
theorem k_law_due : C_law.kf "due" = some .local := by decide +kernel
theorem k_law_levenshtein_distance : C_law.kf "_levenshtein_distance" = some .globalImplicit := by decide +kernel
theorem k_law_told : C_law.kf "told" = some .local := by decide +kernel
theorem k_law_isinstance : C_law.kf "isinstance" = some .globalImplicit := by decide +kernel
theorem k_law_bool : C_law.kf "bool" = some .globalImplicit := by decide +kernel
theorem k_law_min : C_law.kf "min" = some .globalImplicit := by decide +kernel
theorem k_law_law_by_tables : C_law.kf "_law_by_tables" = some .globalImplicit := by decide +kernel
theorem b_law (B : GBk G) (h_law_by_signs : Fn G "_law_by_signs" 2 f_law_by_signs) (h_law_by_tables : Fn G "_law_by_tables" 2 f_law_by_tables) (h_law_ends : Fn G "_law_ends" 2 f_law_ends) (h_law_row : Fn G "_law_row" 1 f_law_row) (h_levenshtein_distance : Fn G "_levenshtein_distance" 2 f_levenshtein_distance) : SndSs G C_law (fnBody PySem.Challenge.pw_rl0025_02 14) g_law :=
    (sSs_cons (sS_asg 1 (sE_call (deep := false) k_law_law_row h_law_row (by decide) (sA_cons (sE_var 0 rfl (.inl k_law_script)) sA_nil)) rfl (.inl k_law_row))
      (sSs_cons (sS_asg 2 (sE_bin prim_add sE_int (sE_bin prim_mod (sE_callB k_law_len B.b_len prim_len (sA_cons (sE_var 0 rfl (.inl k_law_script)) sA_nil)) sE_int)) rfl (.inl k_law_size))
      (sSs_cons (sS_asg 3 (sE_cut (sE_var 1 rfl (.inl k_law_row)) sP_none (sP_some (sE_var 2 rfl (.inl k_law_size)))) rfl (.inl k_law_word))
      (sSs_cons (sS_asg 4 (sE_cut (sE_var 1 rfl (.inl k_law_row)) (sP_some (sE_var 2 rfl (.inl k_law_size))) sP_none) rfl (.inl k_law_text))
      (sSs_cons (sS_asg 5 (sE_call (deep := true) k_law_law_ends h_law_ends (by decide) (sA_cons (sE_var 3 rfl (.inl k_law_word)) (sA_cons (sE_var 4 rfl (.inl k_law_text)) sA_nil)) (fun _ => rfl)) rfl (.inl k_law_ahead))
      (sSs_cons (sS_asg 6 (sE_rev (sE_call (deep := true) k_law_law_ends h_law_ends (by decide) (sA_cons (sE_rev (sE_var 3 rfl (.inl k_law_word))) (sA_cons (sE_rev (sE_var 4 rfl (.inl k_law_text))) sA_nil)) (fun _ => rfl))) rfl (.inl k_law_behind))
      (sSs_cons (sS_asg 7 (sE_call (deep := true) k_law_law_ends h_law_ends (by decide) (sA_cons (sE_lower (sE_var 3 rfl (.inl k_law_word))) (sA_cons (sE_lower (sE_var 4 rfl (.inl k_law_text))) sA_nil)) (fun _ => rfl)) rfl (.inl k_law_small))
      (sSs_cons (sS_for 8 (sI_range1 k_law_range B.b_range (sE_bin prim_add (sE_callB k_law_len B.b_len prim_len (sA_cons (sE_var 4 rfl (.inl k_law_text)) sA_nil)) sE_int)) (sSs_cons (sS_for 9 (sI_range2 k_law_range B.b_range (sE_var 8 rfl (.inl k_law_first)) (sE_bin prim_add (sE_callB k_law_len B.b_len prim_len (sA_cons (sE_var 4 rfl (.inl k_law_text)) sA_nil)) sE_int)) (sSs_cons (sS_asg 10 (sE_cut (sE_var 4 rfl (.inl k_law_text)) (sP_some (sE_var 8 rfl (.inl k_law_first))) (sP_some (sE_var 9 rfl (.inl k_law_last)))) rfl (.inl k_law_part))
      (sSs_cons (sS_asg 11 (sE_call (deep := false) k_law_law_by_signs h_law_by_signs (by decide) (sA_cons (sE_var 3 rfl (.inl k_law_word)) (sA_cons (sE_var 10 rfl (.inl k_law_part)) sA_nil))) rfl (.inl k_law_due))
      (sSs_cons (sS_asg 12 (sE_call (deep := false) k_law_levenshtein_distance h_levenshtein_distance (by decide) (sA_cons (sE_var 3 rfl (.inl k_law_word)) (sA_cons (sE_var 10 rfl (.inl k_law_part)) (sA_cons sE_int sA_nil)))) rfl (.inl k_law_told))
      (sSs_cons (sS_if (sT_or2 (sT_plain (sE_isBool k_law_isinstance B.b_isinstance k_law_bool B.b_bool (sE_var 12 rfl (.inl k_law_told)))) (sT_cmp prim_ne (sE_callB k_law_min B.b_min prim_min2 (sA_cons sE_int (sA_cons (sE_var 12 rfl (.inl k_law_told)) sA_nil))) (sE_var 11 rfl (.inl k_law_due)))) (sSs_cons (sS_ret sE_bool)
      sSs_nil) sSs_nil)
      (sSs_cons (sS_if (sT_cmp prim_ne (sE_call (deep := false) k_law_law_by_tables h_law_by_tables (by decide) (sA_cons (sE_var 3 rfl (.inl k_law_word)) (sA_cons (sE_var 10 rfl (.inl k_law_part)) (sA_cons (sE_var 8 rfl (.inl k_law_first)) (sA_cons (sE_var 5 rfl (.inl k_law_ahead)) (sA_cons (sE_var 6 rfl (.inl k_law_behind)) (sA_cons (sE_var 7 rfl (.inl k_law_small)) sA_nil))))))) (sE_var 11 rfl (.inl k_law_due))) (sSs_cons (sS_ret sE_bool)
      sSs_nil) sSs_nil)
      sSs_nil))))) rfl (.inl k_law_last))
      sSs_nil) rfl (.inl k_law_first))
      (sSs_cons (sS_ret sE_bool)
      sSs_nil)))))))))
theorem h_law {h0 : Heap} (T0 : Top G.p G.loose G.mean G.mg G.mb h0) (hd : fnRec PySem.Challenge.pw_rl0025_02 14 ∈ recsOf G.p) (B : GBk G) (h_law_by_signs : Fn G "_law_by_signs" 2 f_law_by_signs) (h_law_by_tables : Fn G "_law_by_tables" 2 f_law_by_tables) (h_law_ends : Fn G "_law_ends" 2 f_law_ends) (h_law_row : Fn G "_law_row" 1 f_law_row) (h_levenshtein_distance : Fn G "_levenshtein_distance" 2 f_levenshtein_distance) : Fn G "law" 3 f_law :=
  fn_intro (C := C_law) T0 (fnRec PySem.Challenge.pw_rl0025_02 14) hd 1 (fun _ => rfl) (b_law B h_law_by_signs h_law_by_tables h_law_ends h_law_row h_levenshtein_distance) (by decide +kernel) (by decide) (by intro pm cd doc vs h; match vs, h with | [v0], _ => rfl) (by decide +kernel) rfl rfl rfl
-- order: _substitution_cost 4; _levenshtein_distance 5; _generate_overlap_table 7; _law_row 9; _law_ends 10; _law_unlike 11; _law_by_signs 12; _law_by_tables 13; law 14
theorem all_fns {h0 : Heap} (T0 : Top G.p G.loose G.mean G.mg G.mb h0) (hd : ∀ i ∈ [4, 5, 7, 9, 10, 11, 12, 13, 14], fnRec PySem.Challenge.pw_rl0025_02 i ∈ recsOf G.p) (B : GBk G) : Fn G "law" 3 f_law := by
  have t_substitution_cost := h_substitution_cost T0 (hd 4 (by decide)) B
  have t_levenshtein_distance := h_levenshtein_distance T0 (hd 5 (by decide)) B t_substitution_cost
  have t_generate_overlap_table := h_generate_overlap_table T0 (hd 7 (by decide)) B
  have t_law_row := h_law_row T0 (hd 9 (by decide)) B
  have t_law_ends := h_law_ends T0 (hd 10 (by decide)) B t_generate_overlap_table
  have t_law_unlike := h_law_unlike T0 (hd 11 (by decide)) B
  have t_law_by_signs := h_law_by_signs T0 (hd 12 (by decide)) B t_law_unlike
  have t_law_by_tables := h_law_by_tables T0 (hd 13 (by decide)) B t_law_unlike
  have t_law := h_law T0 (hd 14 (by decide)) B t_law_by_signs t_law_by_tables t_law_ends t_law_row t_levenshtein_distance
  exact t_law

end Mine
end

section
open PySem
set_option Elab.async false
set_option linter.unusedSimpArgs false
namespace Mine

/-! the words, as equations to reckon with -/
theorem ev_seq (g gs : XS) (σ : List Slot) : xSeq g gs σ = (g σ).bind fun r => match r with | (.next, σ') => gs σ' | (.brk, σ') => some (.brk, σ') | (.ret p, σ') => some (.ret p, σ') := by
  unfold xSeq
  cases h : g σ with
  | none => rfl
  | some r => obtain ⟨f, σ'⟩ := r; cases f <;> rfl
theorem ev_nil (σ : List Slot) : xNil σ = some (.next, σ) := rfl
theorem ev_asg (k : Nat) (f : XE) (σ : List Slot) : xAsg k f σ = (f σ).bind fun r => r.still.bind fun p => some (.next, σ.set k (.fz p)) := by
  unfold xAsg
  cases f σ with
  | none => rfl
  | some r => cases h : r.still <;> simp [h]
theorem ev_asgO (k : Nat) (f : XE) (σ : List Slot) : xAsgO k f σ = (f σ).bind fun r => match r with | .fr pl xs => some (.next, σ.set k (.ow pl xs)) | _ => .none := by
  unfold xAsgO
  cases f σ with
  | none => rfl
  | some r => cases r <;> rfl
theorem ev_aug (k : Nat) (g : PV → PV → Option PV) (f : XE) (σ : List Slot) : xAug k g f σ = (σ[k]?).bind fun sl => match sl with | .fz p => (f σ).bind fun r => (g p r.pv).bind fun q => some (.next, σ.set k (.fz q)) | _ => .none := by
  unfold xAug
  cases h : σ[k]? with
  | none => rfl
  | some sl =>
    cases sl <;> try rfl
    rename_i p
    cases hf : f σ with
    | none => simp [hf]
    | some r => cases hg : g p r.pv <;> simp [hf, hg]
theorem ev_if (t : XT) (g1 g2 : XS) (σ : List Slot) : xIf t g1 g2 σ = (t σ).bind fun b => if b = true then g1 σ else g2 σ := by
  unfold xIf
  cases t σ with
  | none => rfl
  | some b => cases b <;> rfl
theorem ev_ret (f : XE) (σ : List Slot) : xRet f σ = (f σ).bind fun r => match r with | .fz p => (if p.scalar = true then some (.ret p, σ) else .none) | .ow _ xs => some (.ret (.list xs), σ) | .fr _ xs => some (.ret (.list xs), σ) | .un => .none := by
  unfold xRet
  cases f σ with
  | none => rfl
  | some r => cases r <;> rfl
theorem ev_brk (σ : List Slot) : xBrk σ = some (.brk, σ) := rfl
theorem ev_for (k : Nat) (it : List Slot → Option (List PV)) (b : XS) (σ : List Slot) : xFor k it b σ = (it σ).bind fun ps => xForL k b ps σ := by
  unfold xFor
  cases it σ <;> rfl
theorem ev_forNil (k : Nat) (b : XS) (σ : List Slot) : xForL k b [] σ = some (.next, σ) := rfl
theorem ev_forCons (k : Nat) (b : XS) (p : PV) (ps : List PV) (σ : List Slot) : xForL k b (p :: ps) σ = (b (σ.set k (.fz p))).bind fun r => match r with | (.next, σ') => xForL k b ps σ' | (.brk, σ') => some (.next, σ') | (.ret q, σ') => some (.ret q, σ') := by
  rw [xForL]
  cases h : b (σ.set k (.fz p)) with
  | none => rfl
  | some r => obtain ⟨f, σ'⟩ := r; cases f <;> rfl
theorem ev_while (t : XT) (b els : XS) (n : Nat) (σ : List Slot) : xWhile t b els (n + 1) σ = (t σ).bind fun c => if c = true then (b σ).bind fun r => match r with | (.next, σ') => xWhile t b els n σ' | (.brk, σ') => some (.next, σ') | (.ret q, σ') => some (.ret q, σ') else els σ := by
  rw [xWhile]
  cases t σ with
  | none => rfl
  | some c =>
    cases c with
    | false => rfl
    | true =>
      cases h : b σ with
      | none => simp [h]
      | some r => obtain ⟨f, σ'⟩ := r; cases f <;> simp [h]
theorem ev_var (k : Nat) (σ : List Slot) : xVar k σ = (σ[k]?).bind fun sl => match sl with | .fz p => some (.fz p) | .ow pl xs => some (.ow pl xs) | _ => .none := by
  unfold xVar
  cases h : σ[k]? with
  | none => rfl
  | some sl => cases sl <;> rfl
theorem ev_lit (p : PV) (σ : List Slot) : xLit p σ = some (.fz p) := rfl
theorem ev_op1 (g : PV → Option PV) (f : XE) (σ : List Slot) : xOp1 g f σ = (f σ).bind fun r => (g r.pv).bind fun q => some (.fz q) := by
  unfold xOp1
  cases f σ with
  | none => rfl
  | some r => cases h : g r.pv <;> simp [h]
theorem ev_op2 (g : PV → PV → Option PV) (f1 f2 : XE) (σ : List Slot) : xOp2 g f1 f2 σ = (f1 σ).bind fun r1 => (f2 σ).bind fun r2 => (g r1.pv r2.pv).bind fun q => some (.fz q) := by
  unfold xOp2
  cases f1 σ with
  | none => rfl
  | some r1 =>
    cases f2 σ with
    | none => rfl
    | some r2 => cases h : g r1.pv r2.pv <;> simp [h]
theorem ev_T (f : XE) (g : PV → Option Bool) (σ : List Slot) : xT f g σ = (f σ).bind fun r => g r.pv := by
  unfold xT
  cases f σ <;> rfl
theorem ev_not (t : XT) (σ : List Slot) : xNot t σ = (t σ).bind fun b => some (!b) := by
  unfold xNot
  cases t σ <;> rfl
theorem ev_and (t1 t2 : XT) (σ : List Slot) : xAnd t1 t2 σ = (t1 σ).bind fun b => if b = true then t2 σ else some false := by
  unfold xAnd
  cases t1 σ with
  | none => rfl
  | some b => cases b <;> rfl
theorem ev_or (t1 t2 : XT) (σ : List Slot) : xOr t1 t2 σ = (t1 σ).bind fun b => if b = true then some true else t2 σ := by
  unfold xOr
  cases t1 σ with
  | none => rfl
  | some b => cases b <;> rfl
theorem ev_ite (t : XT) (f1 f2 : XE) (σ : List Slot) : xIte t f1 f2 σ = (t σ).bind fun b => if b = true then f1 σ else f2 σ := by
  unfold xIte
  cases t σ with
  | none => rfl
  | some b => cases b <;> rfl
theorem ev_orV (f1 f2 : XE) (σ : List Slot) : xOrV f1 f2 σ = (f1 σ).bind fun r => match r with | .fz p => (xTruth p).bind fun b => if b = true then some (.fz p) else f2 σ | _ => .none := by
  unfold xOrV
  cases f1 σ with
  | none => rfl
  | some r =>
    cases r <;> try rfl
    rename_i p
    cases h : xTruth p with
    | none => simp [h]
    | some b => cases b <;> simp [h]
theorem ev_andV (f1 f2 : XE) (σ : List Slot) : xAndV f1 f2 σ = (f1 σ).bind fun r => match r with | .fz p => (xTruth p).bind fun b => if b = true then f2 σ else some (.fz p) | _ => .none := by
  unfold xAndV
  cases f1 σ with
  | none => rfl
  | some r =>
    cases r <;> try rfl
    rename_i p
    cases h : xTruth p with
    | none => simp [h]
    | some b => cases b <;> simp [h]
theorem ev_cut (f0 fl fu : XE) (σ : List Slot) : xCut f0 fl fu σ = (f0 σ).bind fun r0 => (fl σ).bind fun rl => (fu σ).bind fun ru => (pPart rl.pv).bind fun lo => (pPart ru.pv).bind fun hi => pCut r0.pv lo hi := by
  unfold xCut
  cases f0 σ with
  | none => rfl
  | some r0 =>
    cases fl σ with
    | none => rfl
    | some rl =>
      cases fu σ with
      | none => rfl
      | some ru =>
        cases h1 : pPart rl.pv with
        | none => simp [h1]
        | some lo => cases h2 : pPart ru.pv <;> simp [h1, h2]
theorem ev_rev (f0 : XE) (σ : List Slot) : xRev f0 σ = (f0 σ).bind fun r0 => pRev r0.pv := by
  unfold xRev
  cases f0 σ <;> rfl
theorem ev_aNil (σ : List Slot) : xANil σ = some [] := rfl
theorem ev_aCons (f : XE) (fs : XA) (σ : List Slot) : xACons f fs σ = (f σ).bind fun r => (fs σ).bind fun rs => some (r :: rs) := by
  unfold xACons
  cases f σ with
  | none => rfl
  | some r => cases fs σ <;> rfl
theorem ev_callB (g : List PV → Option PV) (fs : XA) (σ : List Slot) : xCallB g fs σ = (fs σ).bind fun rs => (g (rs.map Slot.pv)).bind fun q => some (.fz q) := by
  unfold xCallB
  cases fs σ with
  | none => rfl
  | some r => cases h : g (r.map Slot.pv) <;> simp [h]
theorem ev_call (f : List PV → Option PV) (deep : Bool) (fs : XA) (σ : List Slot) : xCall f deep fs σ = (fs σ).bind fun rs => (f (rs.map Slot.pv)).bind fun q => match q with
    | .list xs => if deep = true ∨ (xs.all fun x => x.scalar) = true then some (.fr false xs) else .none
    | .tup _ => .none
    | .none => some (.fz .none)
    | .bool b => some (.fz (.bool b))
    | .int b => some (.fz (.int b))
    | .str b => some (.fz (.str b)) := by
  unfold xCall
  cases fs σ with
  | none => rfl
  | some r =>
    cases h : f (r.map Slot.pv) with
    | none => simp [h]
    | some q => cases q <;> simp [h]
theorem ev_set (k : Nat) (fi fe : XE) (σ : List Slot) : xSet k fi fe σ = (σ[k]?).bind fun sl => match sl with
    | .ow _ xs => (fe σ).bind fun r => (fi σ).bind fun ri => match ri.pv with
      | .int i => if r.pv.scalar = true ∧ 0 ≤ i ∧ i < xs.length then some (.next, σ.set k (.ow false (xs.set i.toNat r.pv))) else .none
      | _ => .none
    | _ => .none := by
  unfold xSet
  cases h : σ[k]? with
  | none => rfl
  | some sl =>
    cases sl <;> try rfl
    cases fe σ with
    | none => rfl
    | some r => cases fi σ <;> rfl
theorem ev_asg2 (k1 k2 : Nat) (f : XE) (σ : List Slot) : xAsg2 k1 k2 f σ = (f σ).bind fun r => match r with | .fz p => (if p.scalar = true then some (.next, (σ.set k1 (.fz p)).set k2 (.fz p)) else .none) | _ => .none := by
  unfold xAsg2
  cases f σ with
  | none => rfl
  | some r => cases r <;> rfl
theorem ev_swap (ka kb : Nat) (σ : List Slot) : xSwap ka kb σ = (σ[ka]?).bind fun sa => (σ[kb]?).bind fun sb => match sa, sb with
    | .fz p, .fz q => if p.scalar = true ∧ q.scalar = true then some (.next, (σ.set kb (.fz p)).set ka (.fz q)) else .none
    | _, _ => .none := by
  unfold xSwap
  cases h : σ[ka]? with
  | none => rfl
  | some sa =>
    cases h2 : σ[kb]? with
    | none => cases sa <;> rfl
    | some sb => cases sa <;> cases sb <;> rfl
theorem ev_true (σ : List Slot) : xTrue σ = some true := rfl
theorem ev_items (f : XE) (σ : List Slot) : xItems f σ = (f σ).bind fun r => match r with
    | .fz (.list ps) => some ps
    | .fr _ ps => some ps
    | .fz (.str x) => some (x.cps.toList.map fun c => .str ⟨#[c]⟩)
    | _ => .none := by
  unfold xItems
  cases f σ with
  | none => rfl
  | some r =>
    cases r <;> try rfl
    rename_i p
    cases p <;> rfl

theorem run_range1 {f : XE} {σ : List Slot} {n : Nat} (h : f σ = some (.fz (.int (n : Nat)))) (hn : n < 1000) : xRange1 f σ = some ((List.range' 0 n).map fun j : Nat => PV.int (j : Nat)) := by
  have hc : -1048576 ≤ (n : Int) ∧ (n : Int) < 1048576 := by omega
  unfold xRange1
  rw [h]
  show (if -1048576 ≤ (n : Int) ∧ (n : Int) < 1048576 then some ((List.range (n : Int).toNat).map fun i : Nat => PV.int (i : Nat)) else none) = _
  rw [if_pos hc, Int.toNat_natCast, List.range_eq_range']
theorem run_range2 {f1 f2 : XE} {σ : List Slot} {a b : Nat} (h1 : f1 σ = some (.fz (.int (a : Nat)))) (h2 : f2 σ = some (.fz (.int (b : Nat)))) (ha : a < 1000) (hb : b < 1000) : xRange2 f1 f2 σ = some ((List.range' a (b - a)).map fun j : Nat => PV.int (j : Nat)) := by
  have hc : -1048576 ≤ (a : Int) ∧ (a : Int) < 1048576 ∧ -1048576 ≤ (b : Int) ∧ (b : Int) < 1048576 ∧ ((b : Int) - a).toNat ≤ 1048576 := by omega
  unfold xRange2
  rw [h1, h2]
  show (if -1048576 ≤ (a : Int) ∧ (a : Int) < 1048576 ∧ -1048576 ≤ (b : Int) ∧ (b : Int) < 1048576 ∧ ((b : Int) - a).toNat ≤ 1048576 then some ((List.range ((b : Int) - a).toNat).map fun i : Nat => PV.int ((a : Int) + (i : Nat))) else none) = _
  rw [if_pos hc]
  have e : ((b : Int) - a).toNat = b - a := by omega
  rw [e, List.range'_eq_map_range, List.map_map]
  congr 1
theorem run_list0 (σ : List Slot) : xList xANil σ = some (.fr true []) := by
  unfold xList
  rw [ev_aNil]
  show (if (([] : List Slot).all fun r => r.pv.scalar) = true ∧ ([] : List Slot).length ≤ 1048576 then some (Slot.fr true (([] : List Slot).map Slot.pv)) else none) = _
  rw [if_pos ⟨rfl, by simp⟩]; rfl
theorem run_list1 {f : XE} {σ : List Slot} {r : Slot} (h : f σ = some r) (hs : r.pv.scalar = true) : xList (xACons f xANil) σ = some (.fr true [r.pv]) := by
  have e : xACons f xANil σ = some [r] := by rw [ev_aCons, h]; rfl
  unfold xList
  rw [e]
  show (if ([r].all fun r => r.pv.scalar) = true ∧ [r].length ≤ 1048576 then some (Slot.fr true ([r].map Slot.pv)) else none) = _
  rw [if_pos ⟨by simp [hs], by simp⟩]; rfl
theorem run_repl {f1 f2 : XE} {σ : List Slot} {p : PV} {n : Nat} (h1 : f1 σ = some (.fr true [p])) (h2 : f2 σ = some (.fz (.int (n : Nat)))) (hn : n < 1000) : xRepl f1 f2 σ = some (.fr true (List.replicate n p)) := by
  have hc : [p].length = 1 ∧ (n : Int) ≤ 1048576 ∧ -1048576 ≤ (n : Int) := ⟨rfl, by omega, by omega⟩
  unfold xRepl
  rw [h1, h2]
  show (if [p].length = 1 ∧ (n : Int) ≤ 1048576 ∧ -1048576 ≤ (n : Int) then some (Slot.fr true ((List.replicate (n : Int).toNat [p]).flatten)) else none) = _
  rw [if_pos hc, Int.toNat_natCast]
  simp
theorem run_app {k : Nat} {f : XE} {σ : List Slot} {xs : List PV} {r : Slot} (h1 : σ[k]? = some (.ow true xs)) (h2 : f σ = some r) (hs : r.pv.scalar = true) (hx : xs.length < 1000) : xApp k f σ = some (.next, σ.set k (.ow true (xs ++ [r.pv]))) := by
  unfold xApp
  rw [h1, h2]
  show (if r.pv.scalar = true ∧ xs.length < 1048576 then some (Fl.next, σ.set k (.ow true (xs ++ [r.pv]))) else none) = _
  rw [if_pos ⟨hs, by omega⟩]
theorem run_appO {k j : Nat} {σ : List Slot} {xs ys : List PV} {pl : Bool} (h1 : σ[k]? = some (.ow true xs)) (h2 : σ[j]? = some (.ow pl ys)) (hkj : k ≠ j) (hx : xs.length < 1000) : xAppO k j σ = some (.next, (σ.set j (.fz (.list ys))).set k (.ow true (xs ++ [.list ys]))) := by
  unfold xAppO
  rw [h1, h2]
  show (if k ≠ j ∧ xs.length < 1048576 then some (Fl.next, (σ.set j (.fz (.list ys))).set k (.ow true (xs ++ [.list ys]))) else none) = _
  rw [if_pos ⟨hkj, by omega⟩]
theorem run_comp {caps : List Nat} {it : List Slot → Option (List PV)} {cond : XT} {elt : XE} {σ : List Slot} {ps rs : List PV} (h1 : it σ = some ps) (h2 : compGo (capIn caps σ) cond elt ps = some rs) (hs : (ps.all fun p => p.scalar) = true) (hl : ps.length < 1000) :
    xComp caps it cond elt σ = some (.fr true rs) := by
  unfold xComp
  rw [h1]
  show (if (ps.all fun p => p.scalar) = true ∧ ps.length ≤ 1048576 then (compGo (capIn caps σ) cond elt ps).map (Slot.fr true) else none) = _
  rw [if_pos ⟨hs, by omega⟩, h2]; rfl
theorem run_listRange2 {f1 f2 f3 : XE} {σ : List Slot} {n : Nat} (h1 : f1 σ = some (.fz (.int 2))) (h2 : f2 σ = some (.fz (.int (2 * ((n : Int) + 1))))) (h3 : f3 σ = some (.fz (.int 2))) (hn : n < 1000) :
    xListRange f1 f2 f3 σ = some (.fr true ((List.range n).map fun i : Nat => PV.int (2 * ((i : Int) + 1)))) := by
  have hc : -262144 ≤ (2 : Int) ∧ (2 : Int) < 262144 ∧ -262144 ≤ 2 * ((n : Int) + 1) ∧ 2 * ((n : Int) + 1) < 262144 ∧ 0 < (2 : Int) ∧ (2 : Int) < 262144 := by omega
  have hsz : (Builtin.Range.rangeSize 2 (2 * ((n : Int) + 1)) 2).toNat = n := by
    unfold Builtin.Range.rangeSize
    rw [if_pos (by omega)]
    split
    · omega
    · omega
  unfold xListRange
  rw [h1, h2, h3]
  show (if -262144 ≤ (2 : Int) ∧ (2 : Int) < 262144 ∧ -262144 ≤ 2 * ((n : Int) + 1) ∧ 2 * ((n : Int) + 1) < 262144 ∧ 0 < (2 : Int) ∧ (2 : Int) < 262144 then
    some (Slot.fr true ((List.range (Builtin.Range.rangeSize 2 (2 * ((n : Int) + 1)) 2).toNat).map fun i => .int (2 + (i : Nat) * 2))) else none) = _
  rw [if_pos hc, hsz]
  congr 2
  apply List.map_congr_left
  intro i _
  congr 1
  omega

/-! the operations -/
theorem p_eqI (a b : Int) : pEq (.int a) (.int b) = some (.bool (a == b)) := rfl
theorem p_neI (a b : Int) : pNe (.int a) (.int b) = some (.bool (a != b)) := rfl
theorem p_ltI (a b : Int) : pLt (.int a) (.int b) = some (.bool (decide (a < b))) := rfl
theorem p_gtI (a b : Int) : pGt (.int a) (.int b) = some (.bool (decide (b < a))) := rfl
theorem p_addI (a b : Int) : pAdd (.int a) (.int b) = some (.int (a + b)) := rfl
theorem p_subI (a b : Int) : pSub (.int a) (.int b) = some (.int (a - b)) := rfl
theorem p_itemL (xs : List PV) (i : Int) : pItem (.list xs) (.int i) = pIdx xs i := rfl
theorem p_partN : pPart .none = some .none := rfl
theorem p_partI (i : Int) : pPart (.int i) = some (some i) := rfl
theorem p_bool (b : Bool) : pBool (.bool b) = some b := rfl
theorem p_truthN : xTruth .none = some false := rfl
theorem p_truthB (b : Bool) : xTruth (.bool b) = some b := rfl
theorem p_truthI (i : Int) : xTruth (.int i) = some (i != 0) := rfl
theorem p_lenL (xs : List PV) : pLen [.list xs] = some (.int xs.length) := rfl
theorem p_min2 (a b : Int) : pMin2 [.int a, .int b] = some (.int (if b < a then b else a)) := rfl
theorem p_max2 (a b : Int) : pMax2 [.int a, .int b] = some (.int (if b > a then b else a)) := rfl
theorem p_abs (a : Int) : pAbs [.int a] = some (.int (if a < 0 then -a else a)) := rfl
theorem p_isBool (a : Int) : pIsBool (.int a) = some (.bool false) := rfl
theorem p_neg (a : Int) : pNeg (.int a) = some (.int (-a)) := rfl
theorem p_cutL (xs : List PV) (lo hi : Option Int) : pCut (.list xs) lo hi = some (.fr true (sliceL xs lo hi)) := rfl
theorem p_revL (xs : List PV) : pRev (.list xs) = some (.fr true xs.reverse) := rfl
theorem p_mul2l (b : Int) : pMul (.int 2) (.int b) = some (.int (2 * b)) := by
  show (if Builtin.Int.intBits 2 ≤ 64 then some (PV.int (2 * b)) else if Builtin.Int.intBits b ≤ 64 then some (PV.int (2 * b)) else .none) = _
  rw [if_pos (by decide)]
theorem p_mul2r (a : Int) : pMul (.int a) (.int 2) = some (.int (a * 2)) := by
  show (if Builtin.Int.intBits a ≤ 64 then some (PV.int (a * 2)) else if Builtin.Int.intBits 2 ≤ 64 then some (PV.int (a * 2)) else .none) = _
  split
  · rfl
  · rw [if_pos (by decide)]
theorem sl_fz (p : PV) : (Slot.fz p).pv = p := rfl
theorem sl_ow (b : Bool) (xs : List PV) : (Slot.ow b xs).pv = .list xs := rfl
theorem sl_fr (b : Bool) (xs : List PV) : (Slot.fr b xs).pv = .list xs := rfl
theorem st_fz (p : PV) : (Slot.fz p).still = some p := rfl
theorem st_fr (b : Bool) (xs : List PV) : (Slot.fr b xs).still = some (.list xs) := rfl
theorem sc_int (a : Int) : (PV.int a).scalar = true := rfl
theorem sc_bool (a : Bool) : (PV.bool a).scalar = true := rfl
theorem sc_str (a : Str) : (PV.str a).scalar = true := rfl
theorem sc_none : PV.none.scalar = true := rfl
theorem sc_list (a : List PV) : (PV.list a).scalar = false := rfl

/-! texts as lists of signs -/
noncomputable def S (l : List Nat) : Str := ⟨l.toArray⟩
theorem S_list (l : List Nat) : (S l).cps.toList = l := by simp [S]
theorem S_len (l : List Nat) : (S l).length = l.length := by simp [S, Str.length]
theorem S_inj {a b : List Nat} (h : S a = S b) : a = b := by
  have := congrArg (fun x : Str => x.cps.toList) h
  simpa [S_list] using this
theorem S_beq (a b : List Nat) : (S a == S b) = (a == b) := by
  cases h : a == b
  · cases h2 : S a == S b
    · rfl
    · rw [S_inj (beq_iff_eq.mp h2)] at h; simp at h
  · rw [beq_iff_eq.mp h]; simp
theorem S_bne (a b : List Nat) : (S a != S b) = (a != b) := by simp only [bne, S_beq]
theorem pCut_S (a : List Nat) (lo hi : Option Int) : pCut (.str (S a)) lo hi = some (.fz (.str (S (sliceL a lo hi)))) := by
  simp [pCut, S_list]; rfl
theorem pRev_S (a : List Nat) : pRev (.str (S a)) = some (.fz (.str (S a.reverse))) := by
  simp [pRev, S_list]; rfl
theorem pItem_S (a : List Nat) (i : Int) : pItem (.str (S a)) (.int i) = (pIdx a i).bind fun c => some (.str (S [c])) := by
  simp [pItem, S_list]; cases pIdx a i <;> rfl
theorem pEq_S (a b : List Nat) : pEq (.str (S a)) (.str (S b)) = some (.bool (a == b)) := by simp only [pEq, S_beq]
theorem pNe_S (a b : List Nat) : pNe (.str (S a)) (.str (S b)) = some (.bool (a != b)) := by simp only [pNe, S_bne]
theorem truth_S (a : List Nat) : xTruth (.str (S a)) = some (!a.isEmpty) := by
  simp only [xTruth, S_len]
  cases a <;> simp
theorem pLen_S (a : List Nat) : pLen [.str (S a)] = some (.int a.length) := by simp only [pLen, S_len]
theorem S_append (a b : List Nat) : S a ++ S b = S (a ++ b) := by
  show Str.append (S a) (S b) = _
  simp [Str.append, S]
theorem pAdd_S (a b : List Nat) (h : a.length + b.length ≤ 1048576) : pAdd (.str (S a)) (.str (S b)) = some (.str (S (a ++ b))) := by
  show (if (S a).length + (S b).length ≤ 1048576 then some (PV.str (S a ++ S b)) else .none) = _
  rw [if_pos (by rw [S_len, S_len]; exact h), S_append]

end Mine
end

section
open PySem
set_option Elab.async false
set_option linter.unusedSimpArgs false
namespace Mine

noncomputable def scost (x y : Str) : Int := if (x == y) = true then 0 else if (Txt.lower x == Txt.lower y) = true then 1 else 2

theorem f_sub (x y : Str) (hx : (Txt.lower x).length ≤ 1048576) (hy : (Txt.lower y).length ≤ 1048576) : f_substitution_cost [.str x, .str y] = some (.int (scost x y)) := by
  have e : g_substitution_cost [.fz (.str x), .fz (.str y)] = some (.ret (.int (scost x y)), [.fz (.str x), .fz (.str y)]) := by
    unfold g_substitution_cost scost
    cases h1 : x == y <;> cases h2 : Txt.lower x == Txt.lower y <;> simp only [ev_seq, ev_nil, ev_asg, ev_asgO, ev_aug, ev_if, ev_ret, ev_brk, ev_for, ev_var, ev_lit, ev_op1, ev_op2, ev_T, ev_not, ev_and, ev_or, ev_ite, ev_orV, ev_andV, ev_cut, ev_rev, ev_aNil, ev_aCons, ev_callB, ev_call, ev_set, ev_asg2, ev_swap, ev_true, ev_items, Option.bind_some, Option.bind_none, sl_fz, sl_ow, sl_fr, st_fz, st_fr, sc_int, sc_bool, sc_str, sc_none, sc_list, List.getElem?_cons_zero, List.getElem?_cons_succ, List.set_cons_zero, List.set_cons_succ, p_eqI, p_neI, p_ltI, p_gtI, p_addI, p_subI, p_itemL, p_partN, p_partI, p_bool, p_truthN, p_truthB, p_truthI, p_lenL, p_min2, p_max2, p_abs, p_isBool, p_neg, p_cutL, p_revL, p_mul2l, p_mul2r, pCut_S, pRev_S, pItem_S, pEq_S, pNe_S, truth_S, pLen_S, List.map_cons, List.map_nil, Bool.false_eq_true, if_true, if_false, ite_true, ite_false, reduceIte, List.append_eq, List.nil_append, List.cons_append, pEq, pLower, if_pos hx, if_pos hy, h1, h2]
  show (match g_substitution_cost [.fz (.str x), .fz (.str y)] with | some (.ret p, _) => some p | _ => none) = _
  rw [e]
end Mine
end

section
open PySem
set_option Elab.async false
set_option linter.unusedSimpArgs false
set_option linter.unusedVariables false
namespace Mine

theorem pIdx_nat {α : Type} (l : List α) (k : Nat) : pIdx l (k : Int) = l[k]? := by
  unfold pIdx
  rw [if_pos (by omega)]
  simp
theorem pIdx_neg {α : Type} (l : List α) (k : Nat) (hk : k < l.length) : pIdx l (-(k : Int) - 1) = l[l.length - 1 - k]? := by
  unfold pIdx
  rw [if_neg (by omega), if_pos (by omega)]
  congr 1
  omega
theorem sliceL_from {α : Type} (l : List α) (k : Nat) : sliceL l (some (k : Int)) .none = l.drop k := by
  unfold sliceL
  simp only [Option.elim, clipAt_nat]
  by_cases h : k ≤ l.length
  · rw [Nat.min_eq_left h]
    apply List.take_of_length_le
    rw [List.length_drop]; omega
  · rw [Nat.min_eq_right (by omega), List.drop_eq_nil_of_le (Nat.le_refl _), List.drop_eq_nil_of_le (by omega)]
    simp
theorem sliceL_upto {α : Type} (l : List α) (k : Nat) : sliceL l .none (some (k : Int)) = l.take k := by
  unfold sliceL
  simp only [Option.elim, clipAt_nat, List.drop_zero, Nat.sub_zero]
  by_cases h : k ≤ l.length
  · rw [Nat.min_eq_left h]
  · rw [Nat.min_eq_right (by omega), List.take_length, List.take_of_length_le (by omega)]
theorem sliceL_between {α : Type} (l : List α) (i j : Nat) : sliceL l (some (i : Int)) (some (j : Int)) = (l.take j).drop i := by
  unfold sliceL
  simp only [Option.elim, clipAt_nat]
  rw [List.drop_take]
  by_cases hi : i ≤ l.length
  · rw [Nat.min_eq_left hi]
    by_cases hj : j ≤ l.length
    · rw [Nat.min_eq_left hj]
    · rw [Nat.min_eq_right (by omega : l.length ≤ j)]
      rw [List.take_of_length_le (by rw [List.length_drop]; omega), List.take_of_length_le (by rw [List.length_drop]; omega)]
  · rw [Nat.min_eq_right (by omega : l.length ≤ i), List.drop_eq_nil_of_le (Nat.le_refl _), List.drop_eq_nil_of_le (by omega)]
    simp
theorem sliceL_but {α : Type} (l : List α) (k : Nat) (hk : 1 ≤ k) : sliceL l .none (some (-(k : Int))) = l.take (l.length - k) := by
  unfold sliceL
  simp only [Option.elim, clipAt_neg _ _ hk, List.drop_zero, Nat.sub_zero]
theorem sliceL_all {α : Type} (l : List α) : sliceL l .none .none = l := by
  unfold sliceL
  simp

theorem seq_next {g gs : XS} {σ σ' : List Slot} (h : g σ = some (.next, σ')) : xSeq g gs σ = gs σ' := by
  unfold xSeq; rw [h]
theorem seq_ret {g gs : XS} {σ σ' : List Slot} {p : PV} (h : g σ = some (.ret p, σ')) : xSeq g gs σ = some (.ret p, σ') := by
  unfold xSeq; rw [h]
theorem ret_run {f : XE} {σ : List Slot} {p : PV} (h : f σ = some (.fz p)) (hs : p.scalar = true) : xRet f σ = some (.ret p, σ) := by
  unfold xRet; rw [h]; show (if p.scalar = true then _ else _) = _; rw [if_pos hs]
theorem for_run {k : Nat} {it : List Slot → Option (List PV)} {b : XS} {σ : List Slot} {ps : List PV} (h : it σ = some ps) : xFor k it b σ = xForL k b ps σ := by
  unfold xFor; rw [h]
theorem if_t {t : XT} {g1 g2 : XS} {σ : List Slot} (h : t σ = some true) : xIf t g1 g2 σ = g1 σ := by
  unfold xIf; rw [h]
theorem if_f {t : XT} {g1 g2 : XS} {σ : List Slot} (h : t σ = some false) : xIf t g1 g2 σ = g2 σ := by
  unfold xIf; rw [h]

/-- how far two lists go alike -/
noncomputable def cpl : List Nat → List Nat → Nat
  | x :: xs, y :: ys => if x = y then cpl xs ys + 1 else 0
  | _, _ => 0

noncomputable abbrev preT : XT := xAnd (xT (xCut (xVar 0) (xVar 3) (xLit .none)) xTruth) (xAnd (xT (xCut (xVar 1) (xVar 3) (xLit .none)) xTruth) (xT (xOp2 pEq (xOp2 pItem (xVar 0) (xVar 3)) (xOp2 pItem (xVar 1) (xVar 3))) pBool))
theorem pre_loop : ∀ (fuel : Nat) (a b : List Nat) (k : Nat) (M : Slot) (rest : List Slot), a.length < fuel + k → k ≤ a.length →
    xWhile preT (xSeq (xAug 3 pAdd (xLit (.int 1))) xNil) xNil fuel (.fz (.str (S a)) :: .fz (.str (S b)) :: M :: .fz (.int (k : Nat)) :: rest) =
      some (.next, .fz (.str (S a)) :: .fz (.str (S b)) :: M :: .fz (.int ((k + cpl (a.drop k) (b.drop k) : Nat) : Int)) :: rest) := by
  intro fuel
  induction fuel with
  | zero => intro a b k M rest h h2; omega
  | succ fuel ih =>
    intro a b k M rest h h2
    rw [ev_while]
    simp only [ev_seq, ev_nil, ev_asg, ev_asgO, ev_aug, ev_if, ev_ret, ev_brk, ev_for, ev_var, ev_lit, ev_op1, ev_op2, ev_T, ev_not, ev_and, ev_or, ev_ite, ev_orV, ev_andV, ev_cut, ev_rev, ev_aNil, ev_aCons, ev_callB, ev_call, ev_set, ev_asg2, ev_swap, ev_true, ev_items, Option.bind_some, Option.bind_none, sl_fz, sl_ow, sl_fr, st_fz, st_fr, sc_int, sc_bool, sc_str, sc_none, sc_list, List.getElem?_cons_zero, List.getElem?_cons_succ, List.set_cons_zero, List.set_cons_succ, p_eqI, p_neI, p_ltI, p_gtI, p_addI, p_subI, p_itemL, p_partN, p_partI, p_bool, p_truthN, p_truthB, p_truthI, p_lenL, p_min2, p_max2, p_abs, p_isBool, p_neg, p_cutL, p_revL, p_mul2l, p_mul2r, pCut_S, pRev_S, pItem_S, pEq_S, pNe_S, truth_S, pLen_S, List.map_cons, List.map_nil, Bool.false_eq_true, if_true, if_false, ite_true, ite_false, reduceIte, List.append_eq, List.nil_append, List.cons_append, sliceL_from, pIdx_nat]
    cases ha : a.drop k with
    | nil => simp only [List.isEmpty_nil, Bool.not_true, Option.bind_some, Option.bind_none, sl_fz, sl_ow, sl_fr, st_fz, st_fr, sc_int, sc_bool, sc_str, sc_none, sc_list, List.getElem?_cons_zero, List.getElem?_cons_succ, List.set_cons_zero, List.set_cons_succ, p_eqI, p_neI, p_ltI, p_gtI, p_addI, p_subI, p_itemL, p_partN, p_partI, p_bool, p_truthN, p_truthB, p_truthI, p_lenL, p_min2, p_max2, p_abs, p_isBool, p_neg, p_cutL, p_revL, p_mul2l, p_mul2r, pCut_S, pRev_S, pItem_S, pEq_S, pNe_S, truth_S, pLen_S, List.map_cons, List.map_nil, Bool.false_eq_true, if_true, if_false, ite_true, ite_false, reduceIte, List.append_eq, List.nil_append, List.cons_append, cpl, Nat.add_zero]
    | cons x xs =>
      have hka : k < a.length := by
        have := congrArg List.length ha
        rw [List.length_drop, List.length_cons] at this; omega
      have hxa : a[k]? = some x := by have := congrArg (fun l => l[0]?) ha; simpa using this
      cases hb : b.drop k with
      | nil => simp only [List.isEmpty_nil, List.isEmpty_cons, Bool.not_true, Bool.not_false, Option.bind_some, Option.bind_none, sl_fz, sl_ow, sl_fr, st_fz, st_fr, sc_int, sc_bool, sc_str, sc_none, sc_list, List.getElem?_cons_zero, List.getElem?_cons_succ, List.set_cons_zero, List.set_cons_succ, p_eqI, p_neI, p_ltI, p_gtI, p_addI, p_subI, p_itemL, p_partN, p_partI, p_bool, p_truthN, p_truthB, p_truthI, p_lenL, p_min2, p_max2, p_abs, p_isBool, p_neg, p_cutL, p_revL, p_mul2l, p_mul2r, pCut_S, pRev_S, pItem_S, pEq_S, pNe_S, truth_S, pLen_S, List.map_cons, List.map_nil, Bool.false_eq_true, if_true, if_false, ite_true, ite_false, reduceIte, List.append_eq, List.nil_append, List.cons_append, cpl, Nat.add_zero]
      | cons y ys =>
        have hyb : b[k]? = some y := by have := congrArg (fun l => l[0]?) hb; simpa using this
        simp only [List.isEmpty_cons, Bool.not_false, Option.bind_some, Option.bind_none, sl_fz, sl_ow, sl_fr, st_fz, st_fr, sc_int, sc_bool, sc_str, sc_none, sc_list, List.getElem?_cons_zero, List.getElem?_cons_succ, List.set_cons_zero, List.set_cons_succ, p_eqI, p_neI, p_ltI, p_gtI, p_addI, p_subI, p_itemL, p_partN, p_partI, p_bool, p_truthN, p_truthB, p_truthI, p_lenL, p_min2, p_max2, p_abs, p_isBool, p_neg, p_cutL, p_revL, p_mul2l, p_mul2r, pCut_S, pRev_S, pItem_S, pEq_S, pNe_S, truth_S, pLen_S, List.map_cons, List.map_nil, Bool.false_eq_true, if_true, if_false, ite_true, ite_false, reduceIte, List.append_eq, List.nil_append, List.cons_append, hxa, hyb]
        by_cases hxy : x = y
        · subst hxy
          simp only [beq_self_eq_true, Option.bind_some, Option.bind_none, sl_fz, sl_ow, sl_fr, st_fz, st_fr, sc_int, sc_bool, sc_str, sc_none, sc_list, List.getElem?_cons_zero, List.getElem?_cons_succ, List.set_cons_zero, List.set_cons_succ, p_eqI, p_neI, p_ltI, p_gtI, p_addI, p_subI, p_itemL, p_partN, p_partI, p_bool, p_truthN, p_truthB, p_truthI, p_lenL, p_min2, p_max2, p_abs, p_isBool, p_neg, p_cutL, p_revL, p_mul2l, p_mul2r, pCut_S, pRev_S, pItem_S, pEq_S, pNe_S, truth_S, pLen_S, List.map_cons, List.map_nil, Bool.false_eq_true, if_true, if_false, ite_true, ite_false, reduceIte, List.append_eq, List.nil_append, List.cons_append]
          have e1 : ((k : Int) + 1) = ((k + 1 : Nat) : Int) := by omega
          rw [e1, ih a b (k + 1) M rest (by omega) (by omega)]
          have e2 : a.drop (k + 1) = xs := by rw [← List.drop_drop, ha]; rfl
          have e3 : b.drop (k + 1) = ys := by rw [← List.drop_drop, hb]; rfl
          rw [e2, e3]
          simp only [cpl, if_true]
          have e4 : k + 1 + cpl xs ys = k + (cpl xs ys + 1) := by omega
          rw [e4]
        · have hne : ([x] == [y]) = false := by simpa using hxy
          simp only [hne, Option.bind_some, Option.bind_none, sl_fz, sl_ow, sl_fr, st_fz, st_fr, sc_int, sc_bool, sc_str, sc_none, sc_list, List.getElem?_cons_zero, List.getElem?_cons_succ, List.set_cons_zero, List.set_cons_succ, p_eqI, p_neI, p_ltI, p_gtI, p_addI, p_subI, p_itemL, p_partN, p_partI, p_bool, p_truthN, p_truthB, p_truthI, p_lenL, p_min2, p_max2, p_abs, p_isBool, p_neg, p_cutL, p_revL, p_mul2l, p_mul2r, pCut_S, pRev_S, pItem_S, pEq_S, pNe_S, truth_S, pLen_S, List.map_cons, List.map_nil, Bool.false_eq_true, if_true, if_false, ite_true, ite_false, reduceIte, List.append_eq, List.nil_append, List.cons_append, cpl, if_neg hxy, Nat.add_zero]
end Mine
end

section
open PySem
set_option Elab.async false
set_option linter.unusedSimpArgs false
set_option linter.unusedVariables false
namespace Mine

theorem f_sub1 (x y : Nat) : f_substitution_cost [.str (S [x]), .str (S [y])] = some (.int (scost (S [x]) (S [y]))) := by
  have h : ∀ c : Nat, (Txt.lower (S [c])).length ≤ 1048576 := fun c => by
    have := PyProof.Rows.len_lower (S [c])
    rw [S_len] at this
    simp at this
    omega
  exact f_sub _ _ (h x) (h y)

theorem scost_le (x y : Str) : 0 ≤ scost x y ∧ scost x y ≤ 2 := by
  unfold scost
  split
  · omega
  · split <;> omega

/-- the least price, by the beginnings' lengths -/
noncomputable def Ecol (p ci : Nat → Int) (base : Int) : Nat → Int
  | 0 => base
  | j + 1 => min (min (Ecol p ci base j) (p (j + 1)) + 2) (p j + ci j)
noncomputable def Ed (c : Nat → Nat → Int) : Nat → Nat → Int
  | 0, j => 2 * j
  | i + 1, j => Ecol (Ed c i) (c i) (2 * (i + 1 : Nat)) j
theorem Ed_zero (c : Nat → Nat → Int) (i : Nat) : Ed c i 0 = 2 * (i : Nat) := by
  cases i with
  | zero => simp [Ed]
  | succ i => simp only [Ed, Ecol]
theorem Ed_step (c : Nat → Nat → Int) (i j : Nat) : Ed c (i + 1) (j + 1) = min (min (Ed c (i + 1) j) (Ed c i (j + 1)) + 2) (Ed c i j + c i j) := by
  simp only [Ed, Ecol]
noncomputable def mnF (c : Nat → Nat → Int) (i : Nat) : Nat → Int
  | 0 => BIG
  | k + 1 => min (mnF c i k) (Ed c (i + 1) (k + 1))

noncomputable def rowAt (c : Nat → Nat → Int) (n i k : Nat) : List PV := (List.range n).map fun j => .int (if j < k then Ed c (i + 1) (j + 1) else Ed c i (j + 1))

theorem rowAt_get (c : Nat → Nat → Int) (n i k j : Nat) (hj : j < n) : (rowAt c n i k)[j]? = some (.int (if j < k then Ed c (i + 1) (j + 1) else Ed c i (j + 1))) := by
  unfold rowAt
  simp [hj]
theorem rowAt_set (c : Nat → Nat → Int) (n i k : Nat) (hk : k < n) : (rowAt c n i k).set k (.int (Ed c (i + 1) (k + 1))) = rowAt c n i (k + 1) := by
  apply List.ext_getElem?
  intro j
  by_cases hj : j < n
  · rw [rowAt_get _ _ _ _ _ hj]
    by_cases hjk : j = k
    · subst hjk
      rw [List.getElem?_set_self (by simp [rowAt, hj])]
      simp
    · rw [List.getElem?_set_ne (Ne.symm hjk), rowAt_get _ _ _ _ _ hj]
      have : (j < k) ↔ (j < k + 1) := by omega
      simp only [this]
  · rw [List.getElem?_eq_none (by simp [rowAt]; omega), List.getElem?_eq_none (by simp [rowAt]; omega)]
theorem rowAt_len (c : Nat → Nat → Int) (n i k : Nat) : (rowAt c n i k).length = n := by simp [rowAt]
theorem rowAt_next (c : Nat → Nat → Int) (n i : Nat) : rowAt c n i n = rowAt c n (i + 1) 0 := by
  unfold rowAt
  apply List.map_congr_left
  intro j hj
  have := List.mem_range.mp hj
  simp [this]

noncomputable abbrev inB : XS := xSeq (xAsg 12 (xOp2 pAdd (xVar 9) (xCall f_substitution_cost false (xACons (xVar 8) (xACons (xOp2 pItem (xVar 0) (xVar 11)) xANil)))))
      (xSeq (xAsg 9 (xOp2 pItem (xVar 5) (xVar 11)))
      (xSeq (xAsg 13 (xOp2 pAdd (xCallB pMin2 (xACons (xVar 6) (xACons (xVar 9) xANil))) (xLit (.int 2))))
      (xSeq (xAsg 6 (xCallB pMin2 (xACons (xVar 13) (xACons (xVar 12) xANil))))
      (xSeq (xSet 5 (xVar 11) (xVar 6))
      (xSeq (xIf (xT (xOp2 pLt (xVar 6) (xVar 10)) pBool)
      (xSeq (xAsg 10 (xVar 6))
      xNil)
      xNil)
      xNil)))))

noncomputable def costOf (a b : List Nat) (i j : Nat) : Int := scost (S [b.getD i 0]) (S [a.getD j 0])

theorem in_step (a b : List Nat) (i k : Nat) (hk : k < a.length) (bc : Nat) (hbc : b.getD i 0 = bc) (s1 s2 s3 s4 s7 s11 s12 s13 : Slot) (pl : Bool) (res mn : Int) (hres : res = if k = 0 then 2 * (i : Int) else Ed (costOf a b) (i + 1) k) :
    inB [.fz (.str (S a)), s1, s2, s3, s4, .ow pl (rowAt (costOf a b) a.length i k), .fz (.int res), s7, .fz (.str (S [bc])), .fz (.int (Ed (costOf a b) i k)), .fz (.int mn), .fz (.int (k : Nat)), s12, s13] =
      some (.next, [.fz (.str (S a)), s1, s2, s3, s4, .ow false (rowAt (costOf a b) a.length i (k + 1)), .fz (.int (Ed (costOf a b) (i + 1) (k + 1))), s7, .fz (.str (S [bc])), .fz (.int (Ed (costOf a b) i (k + 1))),
        .fz (.int (min mn (Ed (costOf a b) (i + 1) (k + 1)))), .fz (.int (k : Nat)), .fz (.int (Ed (costOf a b) i k + costOf a b i k)), .fz (.int (min res (Ed (costOf a b) i (k + 1)) + 2))]) := by
  have hak : a[k]? = some a[k] := List.getElem?_eq_getElem hk
  have hc : scost (S [bc]) (S [a[k]]) = costOf a b i k := by unfold costOf; rw [hbc, List.getD_eq_getElem?_getD, hak]; rfl
  have hrow := rowAt_get (costOf a b) a.length i k k hk
  rw [if_neg (Nat.lt_irrefl k)] at hrow
  have hle := scost_le (S [bc]) (S [a[k]])
  rw [hc] at hle
  have hE : min (min res (Ed (costOf a b) i (k + 1)) + 2) (Ed (costOf a b) i k + costOf a b i k) = Ed (costOf a b) (i + 1) (k + 1) := by
    rw [Ed_step, hres]
    split
    · rename_i h0
      subst h0
      rw [Ed_zero, Ed_zero]
      omega
    · rfl
  have hm1 : ∀ x y : Int, (if y < x then y else x) = min x y := fun x y => by omega
  have hlen : (k : Int) < ((rowAt (costOf a b) a.length i k).length : Int) := by rw [rowAt_len]; omega
  unfold inB
  simp only [ev_seq, ev_nil, ev_asg, ev_asgO, ev_aug, ev_if, ev_ret, ev_brk, ev_for, ev_var, ev_lit, ev_op1, ev_op2, ev_T, ev_not, ev_and, ev_or, ev_ite, ev_orV, ev_andV, ev_cut, ev_rev, ev_aNil, ev_aCons, ev_callB, ev_call, ev_set, ev_asg2, ev_swap, ev_true, ev_items, Option.bind_some, Option.bind_none, sl_fz, sl_ow, sl_fr, st_fz, st_fr, sc_int, sc_bool, sc_str, sc_none, sc_list, List.getElem?_cons_zero, List.getElem?_cons_succ, List.set_cons_zero, List.set_cons_succ, p_eqI, p_neI, p_ltI, p_gtI, p_addI, p_subI, p_itemL, p_partN, p_partI, p_bool, p_truthN, p_truthB, p_truthI, p_lenL, p_min2, p_max2, p_abs, p_isBool, p_neg, p_cutL, p_revL, p_mul2l, p_mul2r, pCut_S, pRev_S, pItem_S, pEq_S, pNe_S, truth_S, pLen_S, List.map_cons, List.map_nil, Bool.false_eq_true, if_true, if_false, ite_true, ite_false, reduceIte, List.append_eq, List.nil_append, List.cons_append, pIdx_nat, hak, f_sub1, hc, hrow, hm1, hE]
  simp only [true_and, Int.natCast_nonneg, hlen, and_self, Option.bind_some, Option.bind_none, sl_fz, sl_ow, sl_fr, st_fz, st_fr, sc_int, sc_bool, sc_str, sc_none, sc_list, List.getElem?_cons_zero, List.getElem?_cons_succ, List.set_cons_zero, List.set_cons_succ, p_eqI, p_neI, p_ltI, p_gtI, p_addI, p_subI, p_itemL, p_partN, p_partI, p_bool, p_truthN, p_truthB, p_truthI, p_lenL, p_min2, p_max2, p_abs, p_isBool, p_neg, p_cutL, p_revL, p_mul2l, p_mul2r, pCut_S, pRev_S, pItem_S, pEq_S, pNe_S, truth_S, pLen_S, List.map_cons, List.map_nil, Bool.false_eq_true, if_true, if_false, ite_true, ite_false, reduceIte, List.append_eq, List.nil_append, List.cons_append, Int.toNat_natCast, rowAt_set _ _ _ _ hk]
  by_cases hlt : Ed (costOf a b) (i + 1) (k + 1) < mn
  · simp only [hlt, decide_true, Option.bind_some, Option.bind_none, sl_fz, sl_ow, sl_fr, st_fz, st_fr, sc_int, sc_bool, sc_str, sc_none, sc_list, List.getElem?_cons_zero, List.getElem?_cons_succ, List.set_cons_zero, List.set_cons_succ, p_eqI, p_neI, p_ltI, p_gtI, p_addI, p_subI, p_itemL, p_partN, p_partI, p_bool, p_truthN, p_truthB, p_truthI, p_lenL, p_min2, p_max2, p_abs, p_isBool, p_neg, p_cutL, p_revL, p_mul2l, p_mul2r, pCut_S, pRev_S, pItem_S, pEq_S, pNe_S, truth_S, pLen_S, List.map_cons, List.map_nil, Bool.false_eq_true, if_true, if_false, ite_true, ite_false, reduceIte, List.append_eq, List.nil_append, List.cons_append]
    have : min mn (Ed (costOf a b) (i + 1) (k + 1)) = Ed (costOf a b) (i + 1) (k + 1) := by omega
    rw [this]
  · simp only [hlt, decide_false, Option.bind_some, Option.bind_none, sl_fz, sl_ow, sl_fr, st_fz, st_fr, sc_int, sc_bool, sc_str, sc_none, sc_list, List.getElem?_cons_zero, List.getElem?_cons_succ, List.set_cons_zero, List.set_cons_succ, p_eqI, p_neI, p_ltI, p_gtI, p_addI, p_subI, p_itemL, p_partN, p_partI, p_bool, p_truthN, p_truthB, p_truthI, p_lenL, p_min2, p_max2, p_abs, p_isBool, p_neg, p_cutL, p_revL, p_mul2l, p_mul2r, pCut_S, pRev_S, pItem_S, pEq_S, pNe_S, truth_S, pLen_S, List.map_cons, List.map_nil, Bool.false_eq_true, if_true, if_false, ite_true, ite_false, reduceIte, List.append_eq, List.nil_append, List.cons_append]
    have : min mn (Ed (costOf a b) (i + 1) (k + 1)) = mn := by omega
    rw [this]

theorem in_loop (a b : List Nat) (i : Nat) (bc : Nat) (hbc : b.getD i 0 = bc) (s1 s2 s3 s4 s7 : Slot) : ∀ (r k : Nat) (s11 s12 s13 : Slot) (pl : Bool) (res : Int), k + r = a.length → (res = if k = 0 then 2 * (i : Int) else Ed (costOf a b) (i + 1) k) →
    ∃ t11 t12 t13 pl' , xForL 11 inB ((List.range' k r).map fun j => PV.int (j : Nat)) [.fz (.str (S a)), s1, s2, s3, s4, .ow pl (rowAt (costOf a b) a.length i k), .fz (.int res), s7, .fz (.str (S [bc])), .fz (.int (Ed (costOf a b) i k)), .fz (.int (mnF (costOf a b) i k)), s11, s12, s13] =
      some (.next, [.fz (.str (S a)), s1, s2, s3, s4, .ow pl' (rowAt (costOf a b) a.length (i + 1) 0), .fz (.int (if a.length = 0 then res else Ed (costOf a b) (i + 1) a.length)), s7, .fz (.str (S [bc])), .fz (.int (Ed (costOf a b) i a.length)), .fz (.int (mnF (costOf a b) i a.length)), t11, t12, t13]) := by
  intro r
  induction r with
  | zero =>
    intro k s11 s12 s13 pl res hk hres
    have hk' : k = a.length := by omega
    subst hk'
    refine ⟨s11, s12, s13, pl, ?_⟩
    simp only [List.range'_zero, List.map_nil, ev_forNil, rowAt_next]
    rw [hres]
    split <;> simp [*]
  | succ r ih =>
    intro k s11 s12 s13 pl res hk hres
    rw [List.range'_succ, List.map_cons, ev_forCons]
    simp only [List.set_cons_zero, List.set_cons_succ]
    rw [in_step a b i k (by omega) bc hbc s1 s2 s3 s4 s7 s11 s12 s13 pl res _ hres]
    simp only [Option.bind_some]
    have hne : a.length ≠ 0 := by omega
    obtain ⟨t11, t12, t13, pl', h⟩ := ih (k + 1) (.fz (.int (k : Nat))) (.fz (.int (Ed (costOf a b) i k + costOf a b i k))) (.fz (.int (min res (Ed (costOf a b) i (k + 1)) + 2))) false (Ed (costOf a b) (i + 1) (k + 1)) (by omega) (by simp)
    refine ⟨t11, t12, t13, pl', ?_⟩
    simp only [mnF] at h
    rw [h]
    simp only [hne, if_false]
end Mine
end

section
open PySem
set_option Elab.async false
set_option linter.unusedSimpArgs false
set_option linter.unusedVariables false
namespace Mine

noncomputable abbrev outB : XS := xSeq (xAsg 8 (xOp2 pItem (xVar 1) (xVar 7)))
      (xSeq (xAsg2 9 6 (xOp2 pMul (xVar 7) (xLit (.int 2))))
      (xSeq (xAsg 10 (xLit (.int BIG)))
      (xSeq (xFor 11 (xRange1 (xCallB pLen (xACons (xVar 0) xANil))) inB)
      (xSeq (xIf (xT (xOp2 pGt (xVar 10) (xVar 2)) pBool)
      (xSeq (xRet (xOp2 pAdd (xVar 2) (xLit (.int 1))))
      xNil)
      xNil)
      xNil))))

theorem out_step (a b : List Nat) (i : Nat) (hi : i < b.length) (ha : a.length ≠ 0) (hal : a.length < 1000) (mc : Int) (s3 s4 s8 s9 s10 s11 s12 s13 : Slot) (pl : Bool) (res : Int) :
    ∃ t8 t9 t10 t11 t12 t13 pl', outB [.fz (.str (S a)), .fz (.str (S b)), .fz (.int mc), s3, s4, .ow pl (rowAt (costOf a b) a.length i 0), .fz (.int res), .fz (.int (i : Nat)), s8, s9, s10, s11, s12, s13] =
      if mc < mnF (costOf a b) i a.length then some (.ret (.int (mc + 1)), [.fz (.str (S a)), .fz (.str (S b)), .fz (.int mc), s3, s4, .ow pl' (rowAt (costOf a b) a.length (i + 1) 0), .fz (.int (Ed (costOf a b) (i + 1) a.length)), .fz (.int (i : Nat)), t8, t9, t10, t11, t12, t13])
      else some (.next, [.fz (.str (S a)), .fz (.str (S b)), .fz (.int mc), s3, s4, .ow pl' (rowAt (costOf a b) a.length (i + 1) 0), .fz (.int (Ed (costOf a b) (i + 1) a.length)), .fz (.int (i : Nat)), t8, t9, t10, t11, t12, t13]) := by
  have hbi : b[i]? = some b[i] := List.getElem?_eq_getElem hi
  have hbc : b.getD i 0 = b[i] := by rw [List.getD_eq_getElem?_getD, hbi]; rfl
  obtain ⟨t11, t12, t13, pl', h⟩ := in_loop a b i b[i] hbc (.fz (.str (S b))) (.fz (.int mc)) s3 s4 (.fz (.int (i : Nat))) a.length 0 s11 s12 s13 pl ((i : Int) * 2) (by omega) (by simp; omega)
  have e0 : Ed (costOf a b) i 0 = (i : Int) * 2 := by rw [Ed_zero]; omega
  rw [e0] at h
  simp only [mnF] at h
  refine ⟨.fz (.str (S [b[i]])), .fz (.int (Ed (costOf a b) i a.length)), .fz (.int (mnF (costOf a b) i a.length)), t11, t12, t13, pl', ?_⟩
  have e1 : xAsg 8 (xOp2 pItem (xVar 1) (xVar 7)) [.fz (.str (S a)), .fz (.str (S b)), .fz (.int mc), s3, s4, .ow pl (rowAt (costOf a b) a.length i 0), .fz (.int res), .fz (.int (i : Nat)), s8, s9, s10, s11, s12, s13] =
      some (.next, [.fz (.str (S a)), .fz (.str (S b)), .fz (.int mc), s3, s4, .ow pl (rowAt (costOf a b) a.length i 0), .fz (.int res), .fz (.int (i : Nat)), .fz (.str (S [b[i]])), s9, s10, s11, s12, s13]) := by
    simp only [ev_asg, ev_op2, ev_var, Option.bind_some, Option.bind_none, sl_fz, sl_ow, sl_fr, st_fz, st_fr, sc_int, sc_bool, sc_str, sc_none, sc_list, List.getElem?_cons_zero, List.getElem?_cons_succ, List.set_cons_zero, List.set_cons_succ, p_eqI, p_neI, p_ltI, p_gtI, p_addI, p_subI, p_itemL, p_partN, p_partI, p_bool, p_truthN, p_truthB, p_truthI, p_lenL, p_min2, p_max2, p_abs, p_isBool, p_neg, p_cutL, p_revL, p_mul2l, p_mul2r, pCut_S, pRev_S, pItem_S, pEq_S, pNe_S, truth_S, pLen_S, List.map_cons, List.map_nil, Bool.false_eq_true, if_true, if_false, ite_true, ite_false, reduceIte, List.append_eq, List.nil_append, List.cons_append, pIdx_nat, hbi]
  have e2 : xAsg2 9 6 (xOp2 pMul (xVar 7) (xLit (.int 2))) [.fz (.str (S a)), .fz (.str (S b)), .fz (.int mc), s3, s4, .ow pl (rowAt (costOf a b) a.length i 0), .fz (.int res), .fz (.int (i : Nat)), .fz (.str (S [b[i]])), s9, s10, s11, s12, s13] =
      some (.next, [.fz (.str (S a)), .fz (.str (S b)), .fz (.int mc), s3, s4, .ow pl (rowAt (costOf a b) a.length i 0), .fz (.int ((i : Int) * 2)), .fz (.int (i : Nat)), .fz (.str (S [b[i]])), .fz (.int ((i : Int) * 2)), s10, s11, s12, s13]) := by
    simp only [ev_asg2, ev_op2, ev_var, ev_lit, Option.bind_some, Option.bind_none, sl_fz, sl_ow, sl_fr, st_fz, st_fr, sc_int, sc_bool, sc_str, sc_none, sc_list, List.getElem?_cons_zero, List.getElem?_cons_succ, List.set_cons_zero, List.set_cons_succ, p_eqI, p_neI, p_ltI, p_gtI, p_addI, p_subI, p_itemL, p_partN, p_partI, p_bool, p_truthN, p_truthB, p_truthI, p_lenL, p_min2, p_max2, p_abs, p_isBool, p_neg, p_cutL, p_revL, p_mul2l, p_mul2r, pCut_S, pRev_S, pItem_S, pEq_S, pNe_S, truth_S, pLen_S, List.map_cons, List.map_nil, Bool.false_eq_true, if_true, if_false, ite_true, ite_false, reduceIte, List.append_eq, List.nil_append, List.cons_append]
  have e3 : xAsg 10 (xLit (.int BIG)) [.fz (.str (S a)), .fz (.str (S b)), .fz (.int mc), s3, s4, .ow pl (rowAt (costOf a b) a.length i 0), .fz (.int ((i : Int) * 2)), .fz (.int (i : Nat)), .fz (.str (S [b[i]])), .fz (.int ((i : Int) * 2)), s10, s11, s12, s13] =
      some (.next, [.fz (.str (S a)), .fz (.str (S b)), .fz (.int mc), s3, s4, .ow pl (rowAt (costOf a b) a.length i 0), .fz (.int ((i : Int) * 2)), .fz (.int (i : Nat)), .fz (.str (S [b[i]])), .fz (.int ((i : Int) * 2)), .fz (.int BIG), s11, s12, s13]) := by
    simp only [ev_asg, ev_lit, Option.bind_some, Option.bind_none, sl_fz, sl_ow, sl_fr, st_fz, st_fr, sc_int, sc_bool, sc_str, sc_none, sc_list, List.getElem?_cons_zero, List.getElem?_cons_succ, List.set_cons_zero, List.set_cons_succ, p_eqI, p_neI, p_ltI, p_gtI, p_addI, p_subI, p_itemL, p_partN, p_partI, p_bool, p_truthN, p_truthB, p_truthI, p_lenL, p_min2, p_max2, p_abs, p_isBool, p_neg, p_cutL, p_revL, p_mul2l, p_mul2r, pCut_S, pRev_S, pItem_S, pEq_S, pNe_S, truth_S, pLen_S, List.map_cons, List.map_nil, Bool.false_eq_true, if_true, if_false, ite_true, ite_false, reduceIte, List.append_eq, List.nil_append, List.cons_append]
  have e4 : xRange1 (xCallB pLen (xACons (xVar 0) xANil)) [.fz (.str (S a)), .fz (.str (S b)), .fz (.int mc), s3, s4, .ow pl (rowAt (costOf a b) a.length i 0), .fz (.int ((i : Int) * 2)), .fz (.int (i : Nat)), .fz (.str (S [b[i]])), .fz (.int ((i : Int) * 2)), .fz (.int BIG), s11, s12, s13] =
      some ((List.range' 0 a.length).map fun j : Nat => PV.int (j : Nat)) := by
    refine run_range1 ?_ hal
    simp only [ev_callB, ev_aCons, ev_aNil, ev_var, Option.bind_some, Option.bind_none, sl_fz, sl_ow, sl_fr, st_fz, st_fr, sc_int, sc_bool, sc_str, sc_none, sc_list, List.getElem?_cons_zero, List.getElem?_cons_succ, List.set_cons_zero, List.set_cons_succ, p_eqI, p_neI, p_ltI, p_gtI, p_addI, p_subI, p_itemL, p_partN, p_partI, p_bool, p_truthN, p_truthB, p_truthI, p_lenL, p_min2, p_max2, p_abs, p_isBool, p_neg, p_cutL, p_revL, p_mul2l, p_mul2r, pCut_S, pRev_S, pItem_S, pEq_S, pNe_S, truth_S, pLen_S, List.map_cons, List.map_nil, Bool.false_eq_true, if_true, if_false, ite_true, ite_false, reduceIte, List.append_eq, List.nil_append, List.cons_append]
  unfold outB
  rw [seq_next e1, seq_next e2, seq_next e3]
  rw [if_neg ha] at h
  rw [seq_next ((for_run e4).trans h)]
  by_cases hc : mc < mnF (costOf a b) i a.length
  · rw [if_pos hc]
    refine seq_ret ((if_t ?_).trans ?_)
    · simp only [ev_T, ev_op2, ev_var, Option.bind_some, Option.bind_none, sl_fz, sl_ow, sl_fr, st_fz, st_fr, sc_int, sc_bool, sc_str, sc_none, sc_list, List.getElem?_cons_zero, List.getElem?_cons_succ, List.set_cons_zero, List.set_cons_succ, p_eqI, p_neI, p_ltI, p_gtI, p_addI, p_subI, p_itemL, p_partN, p_partI, p_bool, p_truthN, p_truthB, p_truthI, p_lenL, p_min2, p_max2, p_abs, p_isBool, p_neg, p_cutL, p_revL, p_mul2l, p_mul2r, pCut_S, pRev_S, pItem_S, pEq_S, pNe_S, truth_S, pLen_S, List.map_cons, List.map_nil, Bool.false_eq_true, if_true, if_false, ite_true, ite_false, reduceIte, List.append_eq, List.nil_append, List.cons_append, hc, decide_true]
    · refine seq_ret ?_
      simp only [ev_ret, ev_op2, ev_var, ev_lit, Option.bind_some, Option.bind_none, sl_fz, sl_ow, sl_fr, st_fz, st_fr, sc_int, sc_bool, sc_str, sc_none, sc_list, List.getElem?_cons_zero, List.getElem?_cons_succ, List.set_cons_zero, List.set_cons_succ, p_eqI, p_neI, p_ltI, p_gtI, p_addI, p_subI, p_itemL, p_partN, p_partI, p_bool, p_truthN, p_truthB, p_truthI, p_lenL, p_min2, p_max2, p_abs, p_isBool, p_neg, p_cutL, p_revL, p_mul2l, p_mul2r, pCut_S, pRev_S, pItem_S, pEq_S, pNe_S, truth_S, pLen_S, List.map_cons, List.map_nil, Bool.false_eq_true, if_true, if_false, ite_true, ite_false, reduceIte, List.append_eq, List.nil_append, List.cons_append]
  · rw [if_neg hc]
    refine (seq_next ((if_f ?_).trans (ev_nil _))).trans (ev_nil _)
    simp only [ev_T, ev_op2, ev_var, Option.bind_some, Option.bind_none, sl_fz, sl_ow, sl_fr, st_fz, st_fr, sc_int, sc_bool, sc_str, sc_none, sc_list, List.getElem?_cons_zero, List.getElem?_cons_succ, List.set_cons_zero, List.set_cons_succ, p_eqI, p_neI, p_ltI, p_gtI, p_addI, p_subI, p_itemL, p_partN, p_partI, p_bool, p_truthN, p_truthB, p_truthI, p_lenL, p_min2, p_max2, p_abs, p_isBool, p_neg, p_cutL, p_revL, p_mul2l, p_mul2r, pCut_S, pRev_S, pItem_S, pEq_S, pNe_S, truth_S, pLen_S, List.map_cons, List.map_nil, Bool.false_eq_true, if_true, if_false, ite_true, ite_false, reduceIte, List.append_eq, List.nil_append, List.cons_append, hc, decide_false]

theorem out_loop (a b : List Nat) (ha : a.length ≠ 0) (hal : a.length < 1000) (mc : Int) (s3 s4 : Slot) : ∀ (r i : Nat) (s7 s8 s9 s10 s11 s12 s13 : Slot) (pl : Bool) (res : Int), i + r = b.length →
    (∃ σ', xForL 7 outB ((List.range' i r).map fun j => PV.int (j : Nat)) [.fz (.str (S a)), .fz (.str (S b)), .fz (.int mc), s3, s4, .ow pl (rowAt (costOf a b) a.length i 0), .fz (.int res), s7, s8, s9, s10, s11, s12, s13] = some (.ret (.int (mc + 1)), σ') ∧
      ∃ t, i ≤ t ∧ t < b.length ∧ mc < mnF (costOf a b) t a.length) ∨
    (∃ t7 t8 t9 t10 t11 t12 t13 pl', xForL 7 outB ((List.range' i r).map fun j => PV.int (j : Nat)) [.fz (.str (S a)), .fz (.str (S b)), .fz (.int mc), s3, s4, .ow pl (rowAt (costOf a b) a.length i 0), .fz (.int res), s7, s8, s9, s10, s11, s12, s13] =
        some (.next, [.fz (.str (S a)), .fz (.str (S b)), .fz (.int mc), s3, s4, .ow pl' (rowAt (costOf a b) a.length b.length 0), .fz (.int (if r = 0 then res else Ed (costOf a b) b.length a.length)), t7, t8, t9, t10, t11, t12, t13]) ∧
      ∀ t, i ≤ t → t < b.length → mnF (costOf a b) t a.length ≤ mc) := by
  intro r
  induction r with
  | zero =>
    intro i s7 s8 s9 s10 s11 s12 s13 pl res hi
    have hi' : i = b.length := by omega
    subst hi'
    exact .inr ⟨s7, s8, s9, s10, s11, s12, s13, pl, by simp only [List.range'_zero, List.map_nil, ev_forNil, if_true], fun t h1 h2 => by omega⟩
  | succ r ih =>
    intro i s7 s8 s9 s10 s11 s12 s13 pl res hi
    rw [List.range'_succ, List.map_cons, ev_forCons]
    simp only [List.set_cons_zero, List.set_cons_succ]
    obtain ⟨t8, t9, t10, t11, t12, t13, pl', h⟩ := out_step a b i (by omega) ha hal mc s3 s4 s8 s9 s10 s11 s12 s13 pl res
    rw [h]
    by_cases hc : mc < mnF (costOf a b) i a.length
    · rw [if_pos hc]
      exact .inl ⟨_, rfl, i, Nat.le_refl _, by omega, hc⟩
    · rw [if_neg hc]
      simp only [Option.bind_some]
      rcases ih (i + 1) (.fz (.int (i : Nat))) t8 t9 t10 t11 t12 t13 pl' (Ed (costOf a b) (i + 1) a.length) (by omega) with ⟨σ', h1, t, h2, h3, h4⟩ | ⟨u7, u8, u9, u10, u11, u12, u13, pl2, h1, h2⟩
      · exact .inl ⟨σ', h1, t, by omega, h3, h4⟩
      · refine .inr ⟨u7, u8, u9, u10, u11, u12, u13, pl2, ?_, fun t h3 h4 => ?_⟩
        · rw [h1]
          by_cases hr : r = 0
          · subst hr
            have : i + 1 = b.length := by omega
            simp only [if_true, this, Nat.succ_ne_zero, if_false, Nat.add_eq_zero_iff, Nat.one_ne_zero, and_false]
          · simp only [hr, if_false, Nat.add_eq_zero_iff, Nat.one_ne_zero, and_false]
        · by_cases ht : t = i
          · subst ht; omega
          · exact h2 t (by omega) h4
end Mine
end

section
open PySem
set_option Elab.async false
set_option linter.unusedSimpArgs false
set_option linter.unusedVariables false
namespace Mine

/-- «a[:post or None]» -/
theorem cut_post (j : Nat) (a : List Nat) (k : Nat) (σ : List Slot) (hj : xVar j σ = some (.fz (.str (S a)))) (h4 : xVar 4 σ = some (.fz (.int (-(k : Int))))) :
    xCut (xVar j) (xLit .none) (xOrV (xVar 4) (xLit .none)) σ = some (.fz (.str (S (a.take (a.length - k))))) := by
  cases k with
  | zero =>
    have e : (-((0 : Nat) : Int) != 0) = false := by simp
    simp only [ev_cut, ev_lit, ev_orV, hj, h4, e, Option.bind_some, Option.bind_none, sl_fz, sl_ow, sl_fr, st_fz, st_fr, sc_int, sc_bool, sc_str, sc_none, sc_list, List.getElem?_cons_zero, List.getElem?_cons_succ, List.set_cons_zero, List.set_cons_succ, p_eqI, p_neI, p_ltI, p_gtI, p_addI, p_subI, p_itemL, p_partN, p_partI, p_bool, p_truthN, p_truthB, p_truthI, p_lenL, p_min2, p_max2, p_abs, p_isBool, p_neg, p_cutL, p_revL, p_mul2l, p_mul2r, pCut_S, pRev_S, pItem_S, pEq_S, pNe_S, truth_S, pLen_S, List.map_cons, List.map_nil, Bool.false_eq_true, if_true, if_false, ite_true, ite_false, reduceIte, List.append_eq, List.nil_append, List.cons_append, sliceL_all, Nat.sub_zero, List.take_length]
  | succ k =>
    have e : (-((k + 1 : Nat) : Int) != 0) = true := by simp only [bne_iff_ne, ne_eq]; omega
    simp only [ev_cut, ev_lit, ev_orV, hj, h4, e, Option.bind_some, Option.bind_none, sl_fz, sl_ow, sl_fr, st_fz, st_fr, sc_int, sc_bool, sc_str, sc_none, sc_list, List.getElem?_cons_zero, List.getElem?_cons_succ, List.set_cons_zero, List.set_cons_succ, p_eqI, p_neI, p_ltI, p_gtI, p_addI, p_subI, p_itemL, p_partN, p_partI, p_bool, p_truthN, p_truthB, p_truthI, p_lenL, p_min2, p_max2, p_abs, p_isBool, p_neg, p_cutL, p_revL, p_mul2l, p_mul2r, pCut_S, pRev_S, pItem_S, pEq_S, pNe_S, truth_S, pLen_S, List.map_cons, List.map_nil, Bool.false_eq_true, if_true, if_false, ite_true, ite_false, reduceIte, List.append_eq, List.nil_append, List.cons_append, sliceL_but _ _ (Nat.succ_le_succ (Nat.zero_le k))]

noncomputable abbrev postT : XT := xAnd (xT (xCut (xVar 0) (xLit .none) (xOrV (xVar 4) (xLit .none))) xTruth) (xAnd (xT (xCut (xVar 1) (xLit .none) (xOrV (xVar 4) (xLit .none))) xTruth) (xT (xOp2 pEq (xOp2 pItem (xVar 0) (xOp2 pSub (xVar 4) (xLit (.int 1)))) (xOp2 pItem (xVar 1) (xOp2 pSub (xVar 4) (xLit (.int 1))))) pBool))

theorem isEmpty_take {α : Type} (a : List α) (k : Nat) : (a.take (a.length - k)).isEmpty = decide (a.length ≤ k) := by
  cases h : decide (a.length ≤ k)
  · have h' : ¬ a.length ≤ k := of_decide_eq_false h
    cases hh : (a.take (a.length - k)) with
    | nil => have := congrArg List.length hh; rw [List.length_take] at this; simp at this; omega
    | cons _ _ => rfl
  · have h' : a.length ≤ k := of_decide_eq_true h
    have e : a.length - k = 0 := by omega
    rw [e]; simp

theorem cpl_drop {a b : List Nat} {k : Nat} {x y : Nat} (ha : a[k]? = some x) (hb : b[k]? = some y) : cpl (a.drop k) (b.drop k) = if x = y then cpl (a.drop (k + 1)) (b.drop (k + 1)) + 1 else 0 := by
  have hka := (List.getElem?_eq_some_iff.mp ha).1
  have hkb := (List.getElem?_eq_some_iff.mp hb).1
  rw [List.drop_eq_getElem_cons hka, List.drop_eq_getElem_cons hkb]
  rw [List.getElem?_eq_getElem hka] at ha
  rw [List.getElem?_eq_getElem hkb] at hb
  rw [Option.some.inj ha, Option.some.inj hb]
  simp only [cpl]
theorem cpl_nil_left {a b : List Nat} {k : Nat} (h : a.length ≤ k) : cpl (a.drop k) b = 0 := by
  rw [List.drop_eq_nil_of_le h]; simp [cpl]
theorem cpl_nil_right {a b : List Nat} {k : Nat} (h : b.length ≤ k) : cpl a (b.drop k) = 0 := by
  rw [List.drop_eq_nil_of_le h]
  cases a <;> simp [cpl]

theorem post_loop : ∀ (fuel : Nat) (a b : List Nat) (k : Nat) (s2 s3 : Slot) (rest : List Slot), a.length < fuel + k → k ≤ a.length →
    xWhile postT (xSeq (xAug 4 pSub (xLit (.int 1))) xNil) xNil fuel (.fz (.str (S a)) :: .fz (.str (S b)) :: s2 :: s3 :: .fz (.int (-(k : Int))) :: rest) =
      some (.next, .fz (.str (S a)) :: .fz (.str (S b)) :: s2 :: s3 :: .fz (.int (-((k + cpl (a.reverse.drop k) (b.reverse.drop k) : Nat) : Int))) :: rest) := by
  intro fuel
  induction fuel with
  | zero => intro a b k s2 s3 rest h h2; omega
  | succ fuel ih =>
    intro a b k s2 s3 rest h h2
    have c0 := cut_post 0 a k (.fz (.str (S a)) :: .fz (.str (S b)) :: s2 :: s3 :: .fz (.int (-(k : Int))) :: rest) rfl rfl
    have c1 := cut_post 1 b k (.fz (.str (S a)) :: .fz (.str (S b)) :: s2 :: s3 :: .fz (.int (-(k : Int))) :: rest) rfl rfl
    rw [ev_while]
    simp only [ev_and, ev_T, c0, c1, Option.bind_some, Option.bind_none, sl_fz, sl_ow, sl_fr, st_fz, st_fr, sc_int, sc_bool, sc_str, sc_none, sc_list, List.getElem?_cons_zero, List.getElem?_cons_succ, List.set_cons_zero, List.set_cons_succ, p_eqI, p_neI, p_ltI, p_gtI, p_addI, p_subI, p_itemL, p_partN, p_partI, p_bool, p_truthN, p_truthB, p_truthI, p_lenL, p_min2, p_max2, p_abs, p_isBool, p_neg, p_cutL, p_revL, p_mul2l, p_mul2r, pCut_S, pRev_S, pItem_S, pEq_S, pNe_S, truth_S, pLen_S, List.map_cons, List.map_nil, Bool.false_eq_true, if_true, if_false, ite_true, ite_false, reduceIte, List.append_eq, List.nil_append, List.cons_append, isEmpty_take]
    by_cases hka : a.length ≤ k
    · have e : decide (a.length ≤ k) = true := decide_eq_true hka
      simp only [e, Bool.not_true, Option.bind_some, Option.bind_none, sl_fz, sl_ow, sl_fr, st_fz, st_fr, sc_int, sc_bool, sc_str, sc_none, sc_list, List.getElem?_cons_zero, List.getElem?_cons_succ, List.set_cons_zero, List.set_cons_succ, p_eqI, p_neI, p_ltI, p_gtI, p_addI, p_subI, p_itemL, p_partN, p_partI, p_bool, p_truthN, p_truthB, p_truthI, p_lenL, p_min2, p_max2, p_abs, p_isBool, p_neg, p_cutL, p_revL, p_mul2l, p_mul2r, pCut_S, pRev_S, pItem_S, pEq_S, pNe_S, truth_S, pLen_S, List.map_cons, List.map_nil, Bool.false_eq_true, if_true, if_false, ite_true, ite_false, reduceIte, List.append_eq, List.nil_append, List.cons_append, ev_nil]
      rw [cpl_nil_left (by simpa using hka)]
      rfl
    · have e : decide (a.length ≤ k) = false := decide_eq_false hka
      simp only [e, Bool.not_false, Option.bind_some, Option.bind_none, sl_fz, sl_ow, sl_fr, st_fz, st_fr, sc_int, sc_bool, sc_str, sc_none, sc_list, List.getElem?_cons_zero, List.getElem?_cons_succ, List.set_cons_zero, List.set_cons_succ, p_eqI, p_neI, p_ltI, p_gtI, p_addI, p_subI, p_itemL, p_partN, p_partI, p_bool, p_truthN, p_truthB, p_truthI, p_lenL, p_min2, p_max2, p_abs, p_isBool, p_neg, p_cutL, p_revL, p_mul2l, p_mul2r, pCut_S, pRev_S, pItem_S, pEq_S, pNe_S, truth_S, pLen_S, List.map_cons, List.map_nil, Bool.false_eq_true, if_true, if_false, ite_true, ite_false, reduceIte, List.append_eq, List.nil_append, List.cons_append]
      by_cases hkb : b.length ≤ k
      · have e : decide (b.length ≤ k) = true := decide_eq_true hkb
        simp only [e, Bool.not_true, Option.bind_some, Option.bind_none, sl_fz, sl_ow, sl_fr, st_fz, st_fr, sc_int, sc_bool, sc_str, sc_none, sc_list, List.getElem?_cons_zero, List.getElem?_cons_succ, List.set_cons_zero, List.set_cons_succ, p_eqI, p_neI, p_ltI, p_gtI, p_addI, p_subI, p_itemL, p_partN, p_partI, p_bool, p_truthN, p_truthB, p_truthI, p_lenL, p_min2, p_max2, p_abs, p_isBool, p_neg, p_cutL, p_revL, p_mul2l, p_mul2r, pCut_S, pRev_S, pItem_S, pEq_S, pNe_S, truth_S, pLen_S, List.map_cons, List.map_nil, Bool.false_eq_true, if_true, if_false, ite_true, ite_false, reduceIte, List.append_eq, List.nil_append, List.cons_append, ev_nil]
        rw [cpl_nil_right (by simpa using hkb)]
        rfl
      · have e : decide (b.length ≤ k) = false := decide_eq_false hkb
        have ia : pIdx a (-(k : Int) - 1) = some a[a.length - 1 - k] := by
          rw [pIdx_neg a k (by omega)]; exact List.getElem?_eq_getElem _
        have ib : pIdx b (-(k : Int) - 1) = some b[b.length - 1 - k] := by
          rw [pIdx_neg b k (by omega)]; exact List.getElem?_eq_getElem _
        have ra : a.reverse[k]? = some a[a.length - 1 - k] := by
          rw [List.getElem?_reverse (by omega)]; exact List.getElem?_eq_getElem _
        have rb : b.reverse[k]? = some b[b.length - 1 - k] := by
          rw [List.getElem?_reverse (by omega)]; exact List.getElem?_eq_getElem _
        simp only [e, Bool.not_false, ev_op2, ev_var, ev_lit, Option.bind_some, Option.bind_none, sl_fz, sl_ow, sl_fr, st_fz, st_fr, sc_int, sc_bool, sc_str, sc_none, sc_list, List.getElem?_cons_zero, List.getElem?_cons_succ, List.set_cons_zero, List.set_cons_succ, p_eqI, p_neI, p_ltI, p_gtI, p_addI, p_subI, p_itemL, p_partN, p_partI, p_bool, p_truthN, p_truthB, p_truthI, p_lenL, p_min2, p_max2, p_abs, p_isBool, p_neg, p_cutL, p_revL, p_mul2l, p_mul2r, pCut_S, pRev_S, pItem_S, pEq_S, pNe_S, truth_S, pLen_S, List.map_cons, List.map_nil, Bool.false_eq_true, if_true, if_false, ite_true, ite_false, reduceIte, List.append_eq, List.nil_append, List.cons_append, ia, ib]
        rw [cpl_drop ra rb]
        by_cases hxy : a[a.length - 1 - k] = b[b.length - 1 - k]
        · have e3 : ([a[a.length - 1 - k]] == [b[b.length - 1 - k]]) = true := by rw [hxy]; simp
          simp only [e3, ev_seq, ev_aug, ev_lit, ev_nil, Option.bind_some, Option.bind_none, sl_fz, sl_ow, sl_fr, st_fz, st_fr, sc_int, sc_bool, sc_str, sc_none, sc_list, List.getElem?_cons_zero, List.getElem?_cons_succ, List.set_cons_zero, List.set_cons_succ, p_eqI, p_neI, p_ltI, p_gtI, p_addI, p_subI, p_itemL, p_partN, p_partI, p_bool, p_truthN, p_truthB, p_truthI, p_lenL, p_min2, p_max2, p_abs, p_isBool, p_neg, p_cutL, p_revL, p_mul2l, p_mul2r, pCut_S, pRev_S, pItem_S, pEq_S, pNe_S, truth_S, pLen_S, List.map_cons, List.map_nil, Bool.false_eq_true, if_true, if_false, ite_true, ite_false, reduceIte, List.append_eq, List.nil_append, List.cons_append, if_pos hxy]
          have e1 : (-(k : Int) - 1) = -((k + 1 : Nat) : Int) := by omega
          rw [e1, ih a b (k + 1) s2 s3 rest (by omega) (by omega)]
          have e4 : k + 1 + cpl (a.reverse.drop (k + 1)) (b.reverse.drop (k + 1)) = k + (cpl (a.reverse.drop (k + 1)) (b.reverse.drop (k + 1)) + 1) := by omega
          rw [e4]
        · have e3 : ([a[a.length - 1 - k]] == [b[b.length - 1 - k]]) = false := by simpa using hxy
          simp only [e3, Option.bind_some, Option.bind_none, sl_fz, sl_ow, sl_fr, st_fz, st_fr, sc_int, sc_bool, sc_str, sc_none, sc_list, List.getElem?_cons_zero, List.getElem?_cons_succ, List.set_cons_zero, List.set_cons_succ, p_eqI, p_neI, p_ltI, p_gtI, p_addI, p_subI, p_itemL, p_partN, p_partI, p_bool, p_truthN, p_truthB, p_truthI, p_lenL, p_min2, p_max2, p_abs, p_isBool, p_neg, p_cutL, p_revL, p_mul2l, p_mul2r, pCut_S, pRev_S, pItem_S, pEq_S, pNe_S, truth_S, pLen_S, List.map_cons, List.map_nil, Bool.false_eq_true, if_true, if_false, ite_true, ite_false, reduceIte, List.append_eq, List.nil_append, List.cons_append, ev_nil, if_neg hxy, Nat.add_zero]

/-! the whole of _levenshtein_distance -/
noncomputable def strA (a b : List Nat) : List Nat := (a.drop (cpl a b)).take ((a.drop (cpl a b)).length - cpl (a.drop (cpl a b)).reverse (b.drop (cpl a b)).reverse)
noncomputable def strB (a b : List Nat) : List Nat := (b.drop (cpl a b)).take ((b.drop (cpl a b)).length - cpl (a.drop (cpl a b)).reverse (b.drop (cpl a b)).reverse)

/-- what comes of the two rests -/
inductive LevOut (a b : List Nat) (mc : Int) : Int → Prop
  | short (h : a = [] ∨ b = []) : LevOut a b mc (2 * ((a.length : Int) + b.length))
  | far (ha : a ≠ []) (hb : b ≠ []) (h : ((b.length : Int) - a.length) * 2 > mc ∨ ((a.length : Int) - b.length) * 2 > mc) : LevOut a b mc (mc + 1)
  | cutAB (ha : a ≠ []) (hb : b ≠ []) (hl : a.length ≤ b.length) (t : Nat) (ht : t < b.length) (h : mc < mnF (costOf a b) t a.length) : LevOut a b mc (mc + 1)
  | cutBA (ha : a ≠ []) (hb : b ≠ []) (hl : b.length < a.length) (t : Nat) (ht : t < a.length) (h : mc < mnF (costOf b a) t b.length) : LevOut a b mc (mc + 1)
  | endAB (ha : a ≠ []) (hb : b ≠ []) (hl : a.length ≤ b.length) (h : ∀ t, t < b.length → mnF (costOf a b) t a.length ≤ mc) : LevOut a b mc (Ed (costOf a b) b.length a.length)
  | endBA (ha : a ≠ []) (hb : b ≠ []) (hl : b.length < a.length) (h : ∀ t, t < a.length → mnF (costOf b a) t b.length ≤ mc) : LevOut a b mc (Ed (costOf b a) a.length b.length)

theorem rowAt_zero (c : Nat → Nat → Int) (n : Nat) : rowAt c n 0 0 = (List.range n).map fun i : Nat => PV.int (2 * ((i : Int) + 1)) := by
  unfold rowAt
  apply List.map_congr_left
  intro i _
  simp [Ed]

noncomputable abbrev dpS : XS := xSeq (xIf (xT (xOp2 pGt (xOp2 pMul (xOp2 pSub (xCallB pLen (xACons (xVar 1) xANil)) (xCallB pLen (xACons (xVar 0) xANil))) (xLit (.int 2))) (xVar 2)) pBool)
      (xSeq (xRet (xOp2 pAdd (xVar 2) (xLit (.int 1))))
      xNil)
      xNil)
      (xSeq (xAsgO 5 (xListRange (xLit (.int 2)) (xOp2 pMul (xLit (.int 2)) (xOp2 pAdd (xCallB pLen (xACons (xVar 0) xANil)) (xLit (.int 1)))) (xLit (.int 2))))
      (xSeq (xAsg 6 (xLit (.int 0)))
      (xSeq (xFor 7 (xRange1 (xCallB pLen (xACons (xVar 1) xANil))) outB)
      (xSeq (xRet (xVar 6))
      xNil))))

theorem dp_run (a b : List Nat) (mc : Int) (s3 s4 s5 s6 s7 s8 s9 s10 s11 s12 s13 : Slot) (ha : a ≠ []) (hb : b ≠ []) (hal : a.length < 1000) (hbl : b.length < 1000) :
    ∃ v σ', dpS [.fz (.str (S a)), .fz (.str (S b)), .fz (.int mc), s3, s4, s5, s6, s7, s8, s9, s10, s11, s12, s13] = some (.ret (.int v), σ') ∧
      ((v = mc + 1 ∧ ((b.length : Int) - a.length) * 2 > mc) ∨ (v = mc + 1 ∧ ∃ t, t < b.length ∧ mc < mnF (costOf a b) t a.length) ∨ (v = Ed (costOf a b) b.length a.length ∧ ∀ t, t < b.length → mnF (costOf a b) t a.length ≤ mc)) := by
  have ha0 : a.length ≠ 0 := fun h => ha (List.eq_nil_of_length_eq_zero h)
  have hb0 : b.length ≠ 0 := fun h => hb (List.eq_nil_of_length_eq_zero h)
  by_cases hfar : mc < ((b.length : Int) - a.length) * 2
  · refine ⟨mc + 1, _, seq_ret ((if_t ?_).trans (seq_ret (ret_run ?_ rfl))), .inl ⟨rfl, hfar⟩⟩
    · simp only [ev_T, ev_op2, ev_var, ev_lit, ev_callB, ev_aCons, ev_aNil, Option.bind_some, Option.bind_none, sl_fz, sl_ow, sl_fr, st_fz, st_fr, sc_int, sc_bool, sc_str, sc_none, sc_list, List.getElem?_cons_zero, List.getElem?_cons_succ, List.set_cons_zero, List.set_cons_succ, p_eqI, p_neI, p_ltI, p_gtI, p_addI, p_subI, p_itemL, p_partN, p_partI, p_bool, p_truthN, p_truthB, p_truthI, p_lenL, p_min2, p_max2, p_abs, p_isBool, p_neg, p_cutL, p_revL, p_mul2l, p_mul2r, pCut_S, pRev_S, pItem_S, pEq_S, pNe_S, truth_S, pLen_S, List.map_cons, List.map_nil, Bool.false_eq_true, if_true, if_false, ite_true, ite_false, reduceIte, List.append_eq, List.nil_append, List.cons_append, hfar, decide_true]
    · simp only [ev_op2, ev_var, ev_lit, Option.bind_some, Option.bind_none, sl_fz, sl_ow, sl_fr, st_fz, st_fr, sc_int, sc_bool, sc_str, sc_none, sc_list, List.getElem?_cons_zero, List.getElem?_cons_succ, List.set_cons_zero, List.set_cons_succ, p_eqI, p_neI, p_ltI, p_gtI, p_addI, p_subI, p_itemL, p_partN, p_partI, p_bool, p_truthN, p_truthB, p_truthI, p_lenL, p_min2, p_max2, p_abs, p_isBool, p_neg, p_cutL, p_revL, p_mul2l, p_mul2r, pCut_S, pRev_S, pItem_S, pEq_S, pNe_S, truth_S, pLen_S, List.map_cons, List.map_nil, Bool.false_eq_true, if_true, if_false, ite_true, ite_false, reduceIte, List.append_eq, List.nil_append, List.cons_append]
  · have e1 : xIf (xT (xOp2 pGt (xOp2 pMul (xOp2 pSub (xCallB pLen (xACons (xVar 1) xANil)) (xCallB pLen (xACons (xVar 0) xANil))) (xLit (.int 2))) (xVar 2)) pBool) (xSeq (xRet (xOp2 pAdd (xVar 2) (xLit (.int 1)))) xNil) xNil
        [.fz (.str (S a)), .fz (.str (S b)), .fz (.int mc), s3, s4, s5, s6, s7, s8, s9, s10, s11, s12, s13] = some (.next, [.fz (.str (S a)), .fz (.str (S b)), .fz (.int mc), s3, s4, s5, s6, s7, s8, s9, s10, s11, s12, s13]) := by
      refine (if_f ?_).trans (ev_nil _)
      simp only [ev_T, ev_op2, ev_var, ev_lit, ev_callB, ev_aCons, ev_aNil, Option.bind_some, Option.bind_none, sl_fz, sl_ow, sl_fr, st_fz, st_fr, sc_int, sc_bool, sc_str, sc_none, sc_list, List.getElem?_cons_zero, List.getElem?_cons_succ, List.set_cons_zero, List.set_cons_succ, p_eqI, p_neI, p_ltI, p_gtI, p_addI, p_subI, p_itemL, p_partN, p_partI, p_bool, p_truthN, p_truthB, p_truthI, p_lenL, p_min2, p_max2, p_abs, p_isBool, p_neg, p_cutL, p_revL, p_mul2l, p_mul2r, pCut_S, pRev_S, pItem_S, pEq_S, pNe_S, truth_S, pLen_S, List.map_cons, List.map_nil, Bool.false_eq_true, if_true, if_false, ite_true, ite_false, reduceIte, List.append_eq, List.nil_append, List.cons_append, hfar, decide_false]
    have e2 : xAsgO 5 (xListRange (xLit (.int 2)) (xOp2 pMul (xLit (.int 2)) (xOp2 pAdd (xCallB pLen (xACons (xVar 0) xANil)) (xLit (.int 1)))) (xLit (.int 2)))
        [.fz (.str (S a)), .fz (.str (S b)), .fz (.int mc), s3, s4, s5, s6, s7, s8, s9, s10, s11, s12, s13] = some (.next, [.fz (.str (S a)), .fz (.str (S b)), .fz (.int mc), s3, s4, .ow true (rowAt (costOf a b) a.length 0 0), s6, s7, s8, s9, s10, s11, s12, s13]) := by
      rw [ev_asgO, run_listRange2 (n := a.length) rfl (by simp only [ev_op2, ev_var, ev_lit, ev_callB, ev_aCons, ev_aNil, Option.bind_some, Option.bind_none, sl_fz, sl_ow, sl_fr, st_fz, st_fr, sc_int, sc_bool, sc_str, sc_none, sc_list, List.getElem?_cons_zero, List.getElem?_cons_succ, List.set_cons_zero, List.set_cons_succ, p_eqI, p_neI, p_ltI, p_gtI, p_addI, p_subI, p_itemL, p_partN, p_partI, p_bool, p_truthN, p_truthB, p_truthI, p_lenL, p_min2, p_max2, p_abs, p_isBool, p_neg, p_cutL, p_revL, p_mul2l, p_mul2r, pCut_S, pRev_S, pItem_S, pEq_S, pNe_S, truth_S, pLen_S, List.map_cons, List.map_nil, Bool.false_eq_true, if_true, if_false, ite_true, ite_false, reduceIte, List.append_eq, List.nil_append, List.cons_append]) rfl hal, rowAt_zero]
      simp only [Option.bind_some, Option.bind_none, sl_fz, sl_ow, sl_fr, st_fz, st_fr, sc_int, sc_bool, sc_str, sc_none, sc_list, List.getElem?_cons_zero, List.getElem?_cons_succ, List.set_cons_zero, List.set_cons_succ, p_eqI, p_neI, p_ltI, p_gtI, p_addI, p_subI, p_itemL, p_partN, p_partI, p_bool, p_truthN, p_truthB, p_truthI, p_lenL, p_min2, p_max2, p_abs, p_isBool, p_neg, p_cutL, p_revL, p_mul2l, p_mul2r, pCut_S, pRev_S, pItem_S, pEq_S, pNe_S, truth_S, pLen_S, List.map_cons, List.map_nil, Bool.false_eq_true, if_true, if_false, ite_true, ite_false, reduceIte, List.append_eq, List.nil_append, List.cons_append]
    have e3 : xAsg 6 (xLit (.int 0)) [.fz (.str (S a)), .fz (.str (S b)), .fz (.int mc), s3, s4, .ow true (rowAt (costOf a b) a.length 0 0), s6, s7, s8, s9, s10, s11, s12, s13] =
        some (.next, [.fz (.str (S a)), .fz (.str (S b)), .fz (.int mc), s3, s4, .ow true (rowAt (costOf a b) a.length 0 0), .fz (.int 0), s7, s8, s9, s10, s11, s12, s13]) := by
      simp only [ev_asg, ev_lit, Option.bind_some, Option.bind_none, sl_fz, sl_ow, sl_fr, st_fz, st_fr, sc_int, sc_bool, sc_str, sc_none, sc_list, List.getElem?_cons_zero, List.getElem?_cons_succ, List.set_cons_zero, List.set_cons_succ, p_eqI, p_neI, p_ltI, p_gtI, p_addI, p_subI, p_itemL, p_partN, p_partI, p_bool, p_truthN, p_truthB, p_truthI, p_lenL, p_min2, p_max2, p_abs, p_isBool, p_neg, p_cutL, p_revL, p_mul2l, p_mul2r, pCut_S, pRev_S, pItem_S, pEq_S, pNe_S, truth_S, pLen_S, List.map_cons, List.map_nil, Bool.false_eq_true, if_true, if_false, ite_true, ite_false, reduceIte, List.append_eq, List.nil_append, List.cons_append]
    have e4 : xRange1 (xCallB pLen (xACons (xVar 1) xANil)) [.fz (.str (S a)), .fz (.str (S b)), .fz (.int mc), s3, s4, .ow true (rowAt (costOf a b) a.length 0 0), .fz (.int 0), s7, s8, s9, s10, s11, s12, s13] = some ((List.range' 0 b.length).map fun j : Nat => PV.int (j : Nat)) := by
      refine run_range1 ?_ hbl
      simp only [ev_callB, ev_aCons, ev_aNil, ev_var, Option.bind_some, Option.bind_none, sl_fz, sl_ow, sl_fr, st_fz, st_fr, sc_int, sc_bool, sc_str, sc_none, sc_list, List.getElem?_cons_zero, List.getElem?_cons_succ, List.set_cons_zero, List.set_cons_succ, p_eqI, p_neI, p_ltI, p_gtI, p_addI, p_subI, p_itemL, p_partN, p_partI, p_bool, p_truthN, p_truthB, p_truthI, p_lenL, p_min2, p_max2, p_abs, p_isBool, p_neg, p_cutL, p_revL, p_mul2l, p_mul2r, pCut_S, pRev_S, pItem_S, pEq_S, pNe_S, truth_S, pLen_S, List.map_cons, List.map_nil, Bool.false_eq_true, if_true, if_false, ite_true, ite_false, reduceIte, List.append_eq, List.nil_append, List.cons_append]
    unfold dpS
    rw [seq_next e1, seq_next e2, seq_next e3]
    rcases out_loop a b ha0 hal mc s3 s4 b.length 0 s7 s8 s9 s10 s11 s12 s13 true 0 (by omega) with ⟨σ', h1, t, h2, h3, h4⟩ | ⟨t7, t8, t9, t10, t11, t12, t13, pl', h1, h2⟩
    · exact ⟨mc + 1, σ', seq_ret ((for_run e4).trans h1), .inr (.inl ⟨rfl, t, h3, h4⟩)⟩
    · rw [if_neg hb0] at h1
      rw [seq_next ((for_run e4).trans h1)]
      refine ⟨_, _, seq_ret (ret_run (p := .int (Ed (costOf a b) b.length a.length)) ?_ rfl), .inr (.inr ⟨rfl, fun t ht => h2 t (Nat.zero_le _) ht⟩)⟩
      simp only [ev_var, Option.bind_some, Option.bind_none, sl_fz, sl_ow, sl_fr, st_fz, st_fr, sc_int, sc_bool, sc_str, sc_none, sc_list, List.getElem?_cons_zero, List.getElem?_cons_succ, List.set_cons_zero, List.set_cons_succ, p_eqI, p_neI, p_ltI, p_gtI, p_addI, p_subI, p_itemL, p_partN, p_partI, p_bool, p_truthN, p_truthB, p_truthI, p_lenL, p_min2, p_max2, p_abs, p_isBool, p_neg, p_cutL, p_revL, p_mul2l, p_mul2r, pCut_S, pRev_S, pItem_S, pEq_S, pNe_S, truth_S, pLen_S, List.map_cons, List.map_nil, Bool.false_eq_true, if_true, if_false, ite_true, ite_false, reduceIte, List.append_eq, List.nil_append, List.cons_append]

theorem lev_run (a b : List Nat) (mc : Int) (hal : a.length ≤ 40) (hbl : b.length ≤ 40) : ∃ v, f_levenshtein_distance [.str (S a), .str (S b), .int mc] = some (.int v) ∧ ((a = b ∧ v = 0) ∨ (a ≠ b ∧ LevOut (strA a b) (strB a b) mc v)) := by
  have start : f_levenshtein_distance [.str (S a), .str (S b), .int mc] = match g_levenshtein_distance [.fz (.str (S a)), .fz (.str (S b)), .fz (.int mc), .un, .un, .un, .un, .un, .un, .un, .un, .un, .un, .un] with | some (.ret p, _) => some p | _ => .none := rfl
  rw [start]
  by_cases hab : a = b
  · refine ⟨0, ?_, .inl ⟨hab, rfl⟩⟩
    have : g_levenshtein_distance [.fz (.str (S a)), .fz (.str (S b)), .fz (.int mc), .un, .un, .un, .un, .un, .un, .un, .un, .un, .un, .un] = some (.ret (.int 0), [.fz (.str (S a)), .fz (.str (S b)), .fz (.int mc), .un, .un, .un, .un, .un, .un, .un, .un, .un, .un, .un]) := by
      unfold g_levenshtein_distance
      refine seq_ret ((if_t ?_).trans (seq_ret (ret_run rfl rfl)))
      have e : (a == b) = true := by rw [hab]; simp
      simp only [ev_T, ev_op2, ev_var, Option.bind_some, Option.bind_none, sl_fz, sl_ow, sl_fr, st_fz, st_fr, sc_int, sc_bool, sc_str, sc_none, sc_list, List.getElem?_cons_zero, List.getElem?_cons_succ, List.set_cons_zero, List.set_cons_succ, p_eqI, p_neI, p_ltI, p_gtI, p_addI, p_subI, p_itemL, p_partN, p_partI, p_bool, p_truthN, p_truthB, p_truthI, p_lenL, p_min2, p_max2, p_abs, p_isBool, p_neg, p_cutL, p_revL, p_mul2l, p_mul2r, pCut_S, pRev_S, pItem_S, pEq_S, pNe_S, truth_S, pLen_S, List.map_cons, List.map_nil, Bool.false_eq_true, if_true, if_false, ite_true, ite_false, reduceIte, List.append_eq, List.nil_append, List.cons_append, e]
    rw [this]
  · have hne : (a == b) = false := by simpa using hab
    have e1 : xIf (xT (xOp2 pEq (xVar 0) (xVar 1)) pBool) (xSeq (xRet (xLit (.int 0))) xNil) xNil [.fz (.str (S a)), .fz (.str (S b)), .fz (.int mc), .un, .un, .un, .un, .un, .un, .un, .un, .un, .un, .un] =
        some (.next, [.fz (.str (S a)), .fz (.str (S b)), .fz (.int mc), .un, .un, .un, .un, .un, .un, .un, .un, .un, .un, .un]) := by
      refine (if_f ?_).trans (ev_nil _)
      simp only [ev_T, ev_op2, ev_var, Option.bind_some, Option.bind_none, sl_fz, sl_ow, sl_fr, st_fz, st_fr, sc_int, sc_bool, sc_str, sc_none, sc_list, List.getElem?_cons_zero, List.getElem?_cons_succ, List.set_cons_zero, List.set_cons_succ, p_eqI, p_neI, p_ltI, p_gtI, p_addI, p_subI, p_itemL, p_partN, p_partI, p_bool, p_truthN, p_truthB, p_truthI, p_lenL, p_min2, p_max2, p_abs, p_isBool, p_neg, p_cutL, p_revL, p_mul2l, p_mul2r, pCut_S, pRev_S, pItem_S, pEq_S, pNe_S, truth_S, pLen_S, List.map_cons, List.map_nil, Bool.false_eq_true, if_true, if_false, ite_true, ite_false, reduceIte, List.append_eq, List.nil_append, List.cons_append, hne]
    have e2 : xAsg 3 (xLit (.int 0)) [.fz (.str (S a)), .fz (.str (S b)), .fz (.int mc), .un, .un, .un, .un, .un, .un, .un, .un, .un, .un, .un] =
        some (.next, [.fz (.str (S a)), .fz (.str (S b)), .fz (.int mc), .fz (.int ((0 : Nat) : Int)), .un, .un, .un, .un, .un, .un, .un, .un, .un, .un]) := by
      simp only [ev_asg, ev_lit, Option.bind_some, Option.bind_none, sl_fz, sl_ow, sl_fr, st_fz, st_fr, sc_int, sc_bool, sc_str, sc_none, sc_list, List.getElem?_cons_zero, List.getElem?_cons_succ, List.set_cons_zero, List.set_cons_succ, p_eqI, p_neI, p_ltI, p_gtI, p_addI, p_subI, p_itemL, p_partN, p_partI, p_bool, p_truthN, p_truthB, p_truthI, p_lenL, p_min2, p_max2, p_abs, p_isBool, p_neg, p_cutL, p_revL, p_mul2l, p_mul2r, pCut_S, pRev_S, pItem_S, pEq_S, pNe_S, truth_S, pLen_S, List.map_cons, List.map_nil, Bool.false_eq_true, if_true, if_false, ite_true, ite_false, reduceIte, List.append_eq, List.nil_append, List.cons_append]; rfl
    have e3 := pre_loop 1000 a b 0 (.fz (.int mc)) [.un, .un, .un, .un, .un, .un, .un, .un, .un, .un] (by omega) (Nat.zero_le _)
    rw [List.drop_zero, List.drop_zero, Nat.zero_add] at e3
    generalize hk : cpl a b = k at e3
    have e4 : xAsg 0 (xCut (xVar 0) (xVar 3) (xLit .none)) [.fz (.str (S a)), .fz (.str (S b)), .fz (.int mc), .fz (.int (k : Nat)), .un, .un, .un, .un, .un, .un, .un, .un, .un, .un] =
        some (.next, [.fz (.str (S (a.drop k))), .fz (.str (S b)), .fz (.int mc), .fz (.int (k : Nat)), .un, .un, .un, .un, .un, .un, .un, .un, .un, .un]) := by
      simp only [ev_asg, ev_cut, ev_var, ev_lit, Option.bind_some, Option.bind_none, sl_fz, sl_ow, sl_fr, st_fz, st_fr, sc_int, sc_bool, sc_str, sc_none, sc_list, List.getElem?_cons_zero, List.getElem?_cons_succ, List.set_cons_zero, List.set_cons_succ, p_eqI, p_neI, p_ltI, p_gtI, p_addI, p_subI, p_itemL, p_partN, p_partI, p_bool, p_truthN, p_truthB, p_truthI, p_lenL, p_min2, p_max2, p_abs, p_isBool, p_neg, p_cutL, p_revL, p_mul2l, p_mul2r, pCut_S, pRev_S, pItem_S, pEq_S, pNe_S, truth_S, pLen_S, List.map_cons, List.map_nil, Bool.false_eq_true, if_true, if_false, ite_true, ite_false, reduceIte, List.append_eq, List.nil_append, List.cons_append, sliceL_from]
    have e5 : xAsg 1 (xCut (xVar 1) (xVar 3) (xLit .none)) [.fz (.str (S (a.drop k))), .fz (.str (S b)), .fz (.int mc), .fz (.int (k : Nat)), .un, .un, .un, .un, .un, .un, .un, .un, .un, .un] =
        some (.next, [.fz (.str (S (a.drop k))), .fz (.str (S (b.drop k))), .fz (.int mc), .fz (.int (k : Nat)), .un, .un, .un, .un, .un, .un, .un, .un, .un, .un]) := by
      simp only [ev_asg, ev_cut, ev_var, ev_lit, Option.bind_some, Option.bind_none, sl_fz, sl_ow, sl_fr, st_fz, st_fr, sc_int, sc_bool, sc_str, sc_none, sc_list, List.getElem?_cons_zero, List.getElem?_cons_succ, List.set_cons_zero, List.set_cons_succ, p_eqI, p_neI, p_ltI, p_gtI, p_addI, p_subI, p_itemL, p_partN, p_partI, p_bool, p_truthN, p_truthB, p_truthI, p_lenL, p_min2, p_max2, p_abs, p_isBool, p_neg, p_cutL, p_revL, p_mul2l, p_mul2r, pCut_S, pRev_S, pItem_S, pEq_S, pNe_S, truth_S, pLen_S, List.map_cons, List.map_nil, Bool.false_eq_true, if_true, if_false, ite_true, ite_false, reduceIte, List.append_eq, List.nil_append, List.cons_append, sliceL_from]
    have hA : strA a b = (a.drop k).take ((a.drop k).length - cpl (a.drop k).reverse (b.drop k).reverse) := by unfold strA; rw [hk]
    have hB : strB a b = (b.drop k).take ((b.drop k).length - cpl (a.drop k).reverse (b.drop k).reverse) := by unfold strB; rw [hk]
    have hal' : (a.drop k).length ≤ 40 := by rw [List.length_drop]; omega
    have hbl' : (b.drop k).length ≤ 40 := by rw [List.length_drop]; omega
    generalize a.drop k = a1 at e4 e5 hA hB hal'
    generalize b.drop k = b1 at e5 hA hB hbl'
    have e6 : xAsg 4 (xLit (.int 0)) [.fz (.str (S a1)), .fz (.str (S b1)), .fz (.int mc), .fz (.int (k : Nat)), .un, .un, .un, .un, .un, .un, .un, .un, .un, .un] =
        some (.next, [.fz (.str (S a1)), .fz (.str (S b1)), .fz (.int mc), .fz (.int (k : Nat)), .fz (.int (-((0 : Nat) : Int))), .un, .un, .un, .un, .un, .un, .un, .un, .un]) := by
      simp only [ev_asg, ev_lit, Option.bind_some, Option.bind_none, sl_fz, sl_ow, sl_fr, st_fz, st_fr, sc_int, sc_bool, sc_str, sc_none, sc_list, List.getElem?_cons_zero, List.getElem?_cons_succ, List.set_cons_zero, List.set_cons_succ, p_eqI, p_neI, p_ltI, p_gtI, p_addI, p_subI, p_itemL, p_partN, p_partI, p_bool, p_truthN, p_truthB, p_truthI, p_lenL, p_min2, p_max2, p_abs, p_isBool, p_neg, p_cutL, p_revL, p_mul2l, p_mul2r, pCut_S, pRev_S, pItem_S, pEq_S, pNe_S, truth_S, pLen_S, List.map_cons, List.map_nil, Bool.false_eq_true, if_true, if_false, ite_true, ite_false, reduceIte, List.append_eq, List.nil_append, List.cons_append]; rfl
    have e7 := post_loop 1000 a1 b1 0 (.fz (.int mc)) (.fz (.int (k : Nat))) [.un, .un, .un, .un, .un, .un, .un, .un, .un] (by omega) (Nat.zero_le _)
    rw [List.drop_zero, List.drop_zero, Nat.zero_add] at e7
    generalize cpl a1.reverse b1.reverse = p at e7 hA hB
    have c0 := cut_post 0 a1 p [.fz (.str (S a1)), .fz (.str (S b1)), .fz (.int mc), .fz (.int (k : Nat)), .fz (.int (-(p : Int))), .un, .un, .un, .un, .un, .un, .un, .un, .un] rfl rfl
    rw [← hA] at c0
    have c1 := cut_post 1 b1 p [.fz (.str (S (strA a b))), .fz (.str (S b1)), .fz (.int mc), .fz (.int (k : Nat)), .fz (.int (-(p : Int))), .un, .un, .un, .un, .un, .un, .un, .un, .un] rfl rfl
    rw [← hB] at c1
    have hal2 : (strA a b).length ≤ 40 := by rw [hA, List.length_take]; omega
    have hbl2 : (strB a b).length ≤ 40 := by rw [hB, List.length_take]; omega
    generalize strA a b = A at c0 c1 hal2 ⊢
    generalize strB a b = B at c1 hbl2 ⊢
    have e8 : xAsg 0 (xCut (xVar 0) (xLit .none) (xOrV (xVar 4) (xLit .none))) [.fz (.str (S a1)), .fz (.str (S b1)), .fz (.int mc), .fz (.int (k : Nat)), .fz (.int (-(p : Int))), .un, .un, .un, .un, .un, .un, .un, .un, .un] =
        some (.next, [.fz (.str (S A)), .fz (.str (S b1)), .fz (.int mc), .fz (.int (k : Nat)), .fz (.int (-(p : Int))), .un, .un, .un, .un, .un, .un, .un, .un, .un]) := by
      rw [ev_asg, c0]; simp only [Option.bind_some, Option.bind_none, sl_fz, sl_ow, sl_fr, st_fz, st_fr, sc_int, sc_bool, sc_str, sc_none, sc_list, List.getElem?_cons_zero, List.getElem?_cons_succ, List.set_cons_zero, List.set_cons_succ, p_eqI, p_neI, p_ltI, p_gtI, p_addI, p_subI, p_itemL, p_partN, p_partI, p_bool, p_truthN, p_truthB, p_truthI, p_lenL, p_min2, p_max2, p_abs, p_isBool, p_neg, p_cutL, p_revL, p_mul2l, p_mul2r, pCut_S, pRev_S, pItem_S, pEq_S, pNe_S, truth_S, pLen_S, List.map_cons, List.map_nil, Bool.false_eq_true, if_true, if_false, ite_true, ite_false, reduceIte, List.append_eq, List.nil_append, List.cons_append]
    have e9 : xAsg 1 (xCut (xVar 1) (xLit .none) (xOrV (xVar 4) (xLit .none))) [.fz (.str (S A)), .fz (.str (S b1)), .fz (.int mc), .fz (.int (k : Nat)), .fz (.int (-(p : Int))), .un, .un, .un, .un, .un, .un, .un, .un, .un] =
        some (.next, [.fz (.str (S A)), .fz (.str (S B)), .fz (.int mc), .fz (.int (k : Nat)), .fz (.int (-(p : Int))), .un, .un, .un, .un, .un, .un, .un, .un, .un]) := by
      rw [ev_asg, c1]; simp only [Option.bind_some, Option.bind_none, sl_fz, sl_ow, sl_fr, st_fz, st_fr, sc_int, sc_bool, sc_str, sc_none, sc_list, List.getElem?_cons_zero, List.getElem?_cons_succ, List.set_cons_zero, List.set_cons_succ, p_eqI, p_neI, p_ltI, p_gtI, p_addI, p_subI, p_itemL, p_partN, p_partI, p_bool, p_truthN, p_truthB, p_truthI, p_lenL, p_min2, p_max2, p_abs, p_isBool, p_neg, p_cutL, p_revL, p_mul2l, p_mul2r, pCut_S, pRev_S, pItem_S, pEq_S, pNe_S, truth_S, pLen_S, List.map_cons, List.map_nil, Bool.false_eq_true, if_true, if_false, ite_true, ite_false, reduceIte, List.append_eq, List.nil_append, List.cons_append]
    unfold g_levenshtein_distance
    rw [seq_next e1, seq_next e2, seq_next e3, seq_next e4, seq_next e5, seq_next e6, seq_next e7, seq_next e8, seq_next e9]
    by_cases hem : A = [] ∨ B = []
    · refine ⟨2 * ((A.length : Int) + B.length), ?_, .inr ⟨hab, .short hem⟩⟩
      have : ∀ gs : XS, xSeq (xIf (xOr (xNot (xT (xVar 0) xTruth)) (xNot (xT (xVar 1) xTruth))) (xSeq (xRet (xOp2 pMul (xLit (.int 2)) (xOp2 pAdd (xCallB pLen (xACons (xVar 0) xANil)) (xCallB pLen (xACons (xVar 1) xANil))))) xNil) xNil) gs
          [.fz (.str (S A)), .fz (.str (S B)), .fz (.int mc), .fz (.int (k : Nat)), .fz (.int (-(p : Int))), .un, .un, .un, .un, .un, .un, .un, .un, .un] =
          some (.ret (.int (2 * ((A.length : Int) + B.length))), [.fz (.str (S A)), .fz (.str (S B)), .fz (.int mc), .fz (.int (k : Nat)), .fz (.int (-(p : Int))), .un, .un, .un, .un, .un, .un, .un, .un, .un]) := by
        intro gs
        refine seq_ret ((if_t ?_).trans (seq_ret (ret_run ?_ rfl)))
        · rcases hem with h | h
          · subst h; simp only [ev_or, ev_not, ev_T, ev_var, Option.bind_some, Option.bind_none, sl_fz, sl_ow, sl_fr, st_fz, st_fr, sc_int, sc_bool, sc_str, sc_none, sc_list, List.getElem?_cons_zero, List.getElem?_cons_succ, List.set_cons_zero, List.set_cons_succ, p_eqI, p_neI, p_ltI, p_gtI, p_addI, p_subI, p_itemL, p_partN, p_partI, p_bool, p_truthN, p_truthB, p_truthI, p_lenL, p_min2, p_max2, p_abs, p_isBool, p_neg, p_cutL, p_revL, p_mul2l, p_mul2r, pCut_S, pRev_S, pItem_S, pEq_S, pNe_S, truth_S, pLen_S, List.map_cons, List.map_nil, Bool.false_eq_true, if_true, if_false, ite_true, ite_false, reduceIte, List.append_eq, List.nil_append, List.cons_append, List.isEmpty_nil, Bool.not_true, Bool.not_false]
          · subst h; cases A <;> simp only [ev_or, ev_not, ev_T, ev_var, Option.bind_some, Option.bind_none, sl_fz, sl_ow, sl_fr, st_fz, st_fr, sc_int, sc_bool, sc_str, sc_none, sc_list, List.getElem?_cons_zero, List.getElem?_cons_succ, List.set_cons_zero, List.set_cons_succ, p_eqI, p_neI, p_ltI, p_gtI, p_addI, p_subI, p_itemL, p_partN, p_partI, p_bool, p_truthN, p_truthB, p_truthI, p_lenL, p_min2, p_max2, p_abs, p_isBool, p_neg, p_cutL, p_revL, p_mul2l, p_mul2r, pCut_S, pRev_S, pItem_S, pEq_S, pNe_S, truth_S, pLen_S, List.map_cons, List.map_nil, Bool.false_eq_true, if_true, if_false, ite_true, ite_false, reduceIte, List.append_eq, List.nil_append, List.cons_append, List.isEmpty_nil, List.isEmpty_cons, Bool.not_true, Bool.not_false]
        · simp only [ev_op2, ev_var, ev_lit, ev_callB, ev_aCons, ev_aNil, Option.bind_some, Option.bind_none, sl_fz, sl_ow, sl_fr, st_fz, st_fr, sc_int, sc_bool, sc_str, sc_none, sc_list, List.getElem?_cons_zero, List.getElem?_cons_succ, List.set_cons_zero, List.set_cons_succ, p_eqI, p_neI, p_ltI, p_gtI, p_addI, p_subI, p_itemL, p_partN, p_partI, p_bool, p_truthN, p_truthB, p_truthI, p_lenL, p_min2, p_max2, p_abs, p_isBool, p_neg, p_cutL, p_revL, p_mul2l, p_mul2r, pCut_S, pRev_S, pItem_S, pEq_S, pNe_S, truth_S, pLen_S, List.map_cons, List.map_nil, Bool.false_eq_true, if_true, if_false, ite_true, ite_false, reduceIte, List.append_eq, List.nil_append, List.cons_append]
      rw [this]
    · have hA0 : A ≠ [] := fun h => hem (.inl h)
      have hB0 : B ≠ [] := fun h => hem (.inr h)
      have hAe : A.isEmpty = false := by cases A with | nil => exact absurd rfl hA0 | cons _ _ => rfl
      have hBe : B.isEmpty = false := by cases B with | nil => exact absurd rfl hB0 | cons _ _ => rfl
      have h40a : ¬ (40 : Int) < A.length := by omega
      have h40b : ¬ (40 : Int) < B.length := by omega
      rw [seq_next ((if_f (by simp only [ev_or, ev_not, ev_T, ev_var, Option.bind_some, Option.bind_none, sl_fz, sl_ow, sl_fr, st_fz, st_fr, sc_int, sc_bool, sc_str, sc_none, sc_list, List.getElem?_cons_zero, List.getElem?_cons_succ, List.set_cons_zero, List.set_cons_succ, p_eqI, p_neI, p_ltI, p_gtI, p_addI, p_subI, p_itemL, p_partN, p_partI, p_bool, p_truthN, p_truthB, p_truthI, p_lenL, p_min2, p_max2, p_abs, p_isBool, p_neg, p_cutL, p_revL, p_mul2l, p_mul2r, pCut_S, pRev_S, pItem_S, pEq_S, pNe_S, truth_S, pLen_S, List.map_cons, List.map_nil, Bool.false_eq_true, if_true, if_false, ite_true, ite_false, reduceIte, List.append_eq, List.nil_append, List.cons_append, hAe, hBe, Bool.not_true, Bool.not_false])).trans (ev_nil _))]
      rw [seq_next ((if_f (by simp only [ev_or, ev_not, ev_T, ev_op2, ev_lit, ev_var, ev_callB, ev_aCons, ev_aNil, Option.bind_some, Option.bind_none, sl_fz, sl_ow, sl_fr, st_fz, st_fr, sc_int, sc_bool, sc_str, sc_none, sc_list, List.getElem?_cons_zero, List.getElem?_cons_succ, List.set_cons_zero, List.set_cons_succ, p_eqI, p_neI, p_ltI, p_gtI, p_addI, p_subI, p_itemL, p_partN, p_partI, p_bool, p_truthN, p_truthB, p_truthI, p_lenL, p_min2, p_max2, p_abs, p_isBool, p_neg, p_cutL, p_revL, p_mul2l, p_mul2r, pCut_S, pRev_S, pItem_S, pEq_S, pNe_S, truth_S, pLen_S, List.map_cons, List.map_nil, Bool.false_eq_true, if_true, if_false, ite_true, ite_false, reduceIte, List.append_eq, List.nil_append, List.cons_append, h40a, h40b, decide_false])).trans (ev_nil _))]
      by_cases hlt : B.length < A.length
      · have hlt' : (B.length : Int) < A.length := by omega
        rw [seq_next ((if_t (by simp only [ev_T, ev_op2, ev_var, ev_callB, ev_aCons, ev_aNil, Option.bind_some, Option.bind_none, sl_fz, sl_ow, sl_fr, st_fz, st_fr, sc_int, sc_bool, sc_str, sc_none, sc_list, List.getElem?_cons_zero, List.getElem?_cons_succ, List.set_cons_zero, List.set_cons_succ, p_eqI, p_neI, p_ltI, p_gtI, p_addI, p_subI, p_itemL, p_partN, p_partI, p_bool, p_truthN, p_truthB, p_truthI, p_lenL, p_min2, p_max2, p_abs, p_isBool, p_neg, p_cutL, p_revL, p_mul2l, p_mul2r, pCut_S, pRev_S, pItem_S, pEq_S, pNe_S, truth_S, pLen_S, List.map_cons, List.map_nil, Bool.false_eq_true, if_true, if_false, ite_true, ite_false, reduceIte, List.append_eq, List.nil_append, List.cons_append, hlt', decide_true])).trans (seq_next (σ' := [.fz (.str (S B)), .fz (.str (S A)), .fz (.int mc), .fz (.int (k : Nat)), .fz (.int (-(p : Int))), .un, .un, .un, .un, .un, .un, .un, .un, .un])
          (by simp only [ev_swap, Option.bind_some, Option.bind_none, sl_fz, sl_ow, sl_fr, st_fz, st_fr, sc_int, sc_bool, sc_str, sc_none, sc_list, List.getElem?_cons_zero, List.getElem?_cons_succ, List.set_cons_zero, List.set_cons_succ, p_eqI, p_neI, p_ltI, p_gtI, p_addI, p_subI, p_itemL, p_partN, p_partI, p_bool, p_truthN, p_truthB, p_truthI, p_lenL, p_min2, p_max2, p_abs, p_isBool, p_neg, p_cutL, p_revL, p_mul2l, p_mul2r, pCut_S, pRev_S, pItem_S, pEq_S, pNe_S, truth_S, pLen_S, List.map_cons, List.map_nil, Bool.false_eq_true, if_true, if_false, ite_true, ite_false, reduceIte, List.append_eq, List.nil_append, List.cons_append, and_self])))]
        obtain ⟨v, σ', hv, hcase⟩ := dp_run B A mc (.fz (.int (k : Nat))) (.fz (.int (-(p : Int)))) .un .un .un .un .un .un .un .un .un hB0 hA0 (by omega) (by omega)
        refine ⟨v, ?_, .inr ⟨hab, ?_⟩⟩
        · show (match dpS _ with | some (.ret p, _) => some p | _ => .none) = _
          rw [hv]
        · rcases hcase with ⟨rfl, h⟩ | ⟨rfl, t, h1, h2⟩ | ⟨rfl, h⟩
          · exact .far hA0 hB0 (.inr h)
          · exact .cutBA hA0 hB0 hlt t h1 h2
          · exact .endBA hA0 hB0 hlt h
      · have hlt' : ¬ (B.length : Int) < A.length := by omega
        rw [seq_next ((if_f (by simp only [ev_T, ev_op2, ev_var, ev_callB, ev_aCons, ev_aNil, Option.bind_some, Option.bind_none, sl_fz, sl_ow, sl_fr, st_fz, st_fr, sc_int, sc_bool, sc_str, sc_none, sc_list, List.getElem?_cons_zero, List.getElem?_cons_succ, List.set_cons_zero, List.set_cons_succ, p_eqI, p_neI, p_ltI, p_gtI, p_addI, p_subI, p_itemL, p_partN, p_partI, p_bool, p_truthN, p_truthB, p_truthI, p_lenL, p_min2, p_max2, p_abs, p_isBool, p_neg, p_cutL, p_revL, p_mul2l, p_mul2r, pCut_S, pRev_S, pItem_S, pEq_S, pNe_S, truth_S, pLen_S, List.map_cons, List.map_nil, Bool.false_eq_true, if_true, if_false, ite_true, ite_false, reduceIte, List.append_eq, List.nil_append, List.cons_append, hlt', decide_false])).trans (ev_nil _))]
        obtain ⟨v, σ', hv, hcase⟩ := dp_run A B mc (.fz (.int (k : Nat))) (.fz (.int (-(p : Int)))) .un .un .un .un .un .un .un .un .un hA0 hB0 (by omega) (by omega)
        refine ⟨v, ?_, .inr ⟨hab, ?_⟩⟩
        · show (match dpS _ with | some (.ret p, _) => some p | _ => .none) = _
          rw [hv]
        · rcases hcase with ⟨rfl, h⟩ | ⟨rfl, t, h1, h2⟩ | ⟨rfl, h⟩
          · exact .far hA0 hB0 (.inl h)
          · exact .cutAB hA0 hB0 (by omega) t h1 h2
          · exact .endAB hA0 hB0 (by omega) h
end Mine
end

section
open PySem
set_option Elab.async false
set_option linter.unusedSimpArgs false
set_option linter.unusedVariables false
namespace Mine

theorem costOf_le (a b : List Nat) (i j : Nat) : 0 ≤ costOf a b i j ∧ costOf a b i j ≤ 2 := scost_le _ _

theorem Ed_ge (c : Nat → Nat → Int) (hc : ∀ i j, 0 ≤ c i j) : ∀ i j : Nat, 2 * (i : Int) - 2 * j ≤ Ed c i j ∧ 2 * (j : Int) - 2 * i ≤ Ed c i j := by
  intro i
  induction i with
  | zero => intro j; simp only [Ed]; omega
  | succ i ih =>
    intro j
    induction j with
    | zero => rw [Ed_zero]; omega
    | succ j jh =>
      rw [Ed_step]
      have h1 := ih (j + 1)
      have h2 := ih j
      have h3 := hc i j
      omega

noncomputable def Hs (c : Nat → Nat → Int) : Nat → Int
  | 0 => 0
  | i + 1 => Hs c i + c i i

theorem Ed_diag (c : Nat → Nat → Int) (hc : ∀ i j, 0 ≤ c i j) : ∀ i : Nat, Ed c i i ≤ Hs c i ∧ min 4 (Hs c i) ≤ Ed c i i := by
  intro i
  induction i with
  | zero => simp only [Ed, Hs]; omega
  | succ i ih =>
    rw [Ed_step]
    have h1 := (Ed_ge c hc (i + 1) i).1
    have h2 := (Ed_ge c hc i (i + 1)).2
    have h3 := hc i i
    simp only [Hs]
    omega

theorem Hs_mono (c : Nat → Nat → Int) (hc : ∀ i j, 0 ≤ c i j) {i j : Nat} (h : i ≤ j) : Hs c i ≤ Hs c j := by
  induction j with
  | zero => have : i = 0 := by omega
            subst this; exact Int.le_refl _
  | succ j ih =>
    by_cases hj : i = j + 1
    · subst hj; exact Int.le_refl _
    · have := ih (by omega)
      have := hc j j
      simp only [Hs]; omega
theorem Hs_ge (c : Nat → Nat → Int) (hc : ∀ i j, 0 ≤ c i j) {k n : Nat} (h : k < n) : c k k ≤ Hs c n := by
  have h1 := Hs_mono c hc (Nat.succ_le_of_lt h)
  have h2 := Hs_mono c hc (Nat.zero_le k)
  simp only [Hs] at h1 h2
  omega
theorem Hs_ge2 (c : Nat → Nat → Int) (hc : ∀ i j, 0 ≤ c i j) {k l n : Nat} (hkl : k < l) (h : l < n) : c k k + c l l ≤ Hs c n := by
  have h1 := Hs_mono c hc (Nat.succ_le_of_lt h)
  have h2 := Hs_ge c hc hkl
  simp only [Hs] at h1
  omega

/-- one more on the one side: the price is above 2 where the first signs and the last ones differ -/
theorem Ed_off (c : Nat → Nat → Int) (hc : ∀ i j, 0 ≤ c i j) (h0 : 1 ≤ c 0 0) : ∀ j : Nat, 1 ≤ j → Ed c (j + 1) j ≤ 2 → c j (j - 1) = 0 := by
  intro j hj h
  obtain ⟨k, rfl⟩ : ∃ k, j = k + 1 := ⟨j - 1, by omega⟩
  rw [Ed_step] at h
  have h1 := (Ed_ge c hc (k + 1 + 1) k).1
  have h2 := (Ed_diag c hc (k + 1)).2
  have h3 : 1 ≤ Hs c (k + 1) := by have := Hs_ge c hc (k := 0) (n := k + 1) (by omega); omega
  have h4 := (Ed_ge c hc (k + 1) k).1
  have h5 := hc (k + 1) k
  show c (k + 1) (k + 1 - 1) = 0
  have e : k + 1 - 1 = k := by omega
  rw [e]
  omega

theorem mnF_le (c : Nat → Nat → Int) (i : Nat) : ∀ n j : Nat, 1 ≤ j → j ≤ n → mnF c i n ≤ Ed c (i + 1) j := by
  intro n
  induction n with
  | zero => intro j h1 h2; omega
  | succ n ih =>
    intro j h1 h2
    simp only [mnF]
    by_cases hj : j = n + 1
    · subst hj; omega
    · have := ih j h1 (by omega); omega

theorem scost_self (x : Str) : scost x x = 0 := by unfold scost; simp
theorem scost_pos {x y : Str} (h : x ≠ y) : 1 ≤ scost x y := by
  unfold scost
  have : (x == y) = false := by simpa using h
  rw [this]
  simp only [Bool.false_eq_true, if_false]
  split <;> omega
theorem scost_low {x y : Str} (hne : x ≠ y) (h : Txt.lower x = Txt.lower y) : scost x y = 1 := by
  unfold scost
  have : (x == y) = false := by simpa using hne
  rw [this, h]
  simp
theorem scost_two {x y : Str} (h : Txt.lower x ≠ Txt.lower y) : scost x y = 2 := by
  unfold scost
  have h1 : (x == y) = false := by
    cases e : x == y
    · rfl
    · rw [beq_iff_eq.mp e] at h; exact absurd rfl h
  have h2 : (Txt.lower x == Txt.lower y) = false := by simpa using h
  rw [h1, h2]; simp
/-! the rests -/
theorem cpl_spec : ∀ a b : List Nat, a.take (cpl a b) = b.take (cpl a b) ∧ cpl a b ≤ a.length ∧ cpl a b ≤ b.length ∧ (∀ x y, a[cpl a b]? = some x → b[cpl a b]? = some y → x ≠ y)
  | [], b => by simp [cpl]
  | x :: xs, [] => by simp [cpl]
  | x :: xs, y :: ys => by
    by_cases h : x = y
    · subst h
      obtain ⟨h1, h2, h3, h4⟩ := cpl_spec xs ys
      simp only [cpl, if_true]
      refine ⟨by simp [h1], by simp; omega, by simp; omega, fun u v hu hv => ?_⟩
      simp at hu hv
      exact h4 u v hu hv
    · simp only [cpl, if_neg h]
      refine ⟨by simp, by simp, by simp, fun u v hu hv => ?_⟩
      simp at hu hv
      subst hu hv
      exact h

structure Strip (a b A B : List Nat) : Prop where
  ex : ∃ pre suf, a = pre ++ (A ++ suf) ∧ b = pre ++ (B ++ suf)
  first : ∀ x y, A[0]? = some x → B[0]? = some y → x ≠ y
  last : ∀ x y, A[A.length - 1]? = some x → B[B.length - 1]? = some y → x ≠ y

theorem strip (a b : List Nat) : Strip a b (strA a b) (strB a b) := by
  obtain ⟨h1, h2, h3, h4⟩ := cpl_spec a b
  generalize hk : cpl a b = k at h1 h2 h3 h4
  have hA : strA a b = (a.drop k).take ((a.drop k).length - cpl (a.drop k).reverse (b.drop k).reverse) := by unfold strA; rw [hk]
  have hB : strB a b = (b.drop k).take ((b.drop k).length - cpl (a.drop k).reverse (b.drop k).reverse) := by unfold strB; rw [hk]
  rw [hA, hB]
  have ha : a = a.take k ++ a.drop k := (List.take_append_drop k a).symm
  have hb : b = a.take k ++ b.drop k := by rw [h1]; exact (List.take_append_drop k b).symm
  have hf : ∀ x y, (a.drop k)[0]? = some x → (b.drop k)[0]? = some y → x ≠ y := fun x y hx hy => h4 x y (by simpa using hx) (by simpa using hy)
  generalize a.drop k = a1 at ha hf
  generalize b.drop k = b1 at hb hf
  obtain ⟨g1, g2, g3, g4⟩ := cpl_spec a1.reverse b1.reverse
  generalize cpl a1.reverse b1.reverse = p at g1 g2 g3 g4
  simp only [List.length_reverse] at g2 g3
  have hsuf : a1.drop (a1.length - p) = b1.drop (b1.length - p) := by
    have := congrArg List.reverse g1
    rw [List.reverse_take, List.reverse_take] at this
    simpa using this
  refine ⟨⟨a.take k, a1.drop (a1.length - p), ?_, ?_⟩, fun x y hx hy => ?_, fun x y hx hy => ?_⟩
  · rw [List.take_append_drop]; exact ha
  · rw [hsuf, List.take_append_drop]; exact hb
  · rw [List.getElem?_take] at hx hy
    split at hx <;> split at hy <;> first | exact hf x y hx hy | cases hx | cases hy
  · have hla : (a1.take (a1.length - p)).length = a1.length - p := by rw [List.length_take]; omega
    have hlb : (b1.take (b1.length - p)).length = b1.length - p := by rw [List.length_take]; omega
    rw [hla, List.getElem?_take] at hx
    rw [hlb, List.getElem?_take] at hy
    split at hx
    · split at hy
      · refine g4 x y ?_ ?_
        · rw [List.getElem?_reverse (by omega)]
          have : a1.length - 1 - p = a1.length - p - 1 := by omega
          rw [this]; exact hx
        · rw [List.getElem?_reverse (by omega)]
          have : b1.length - 1 - p = b1.length - p - 1 := by omega
          rw [this]; exact hy
      · cases hy
    · cases hx
end Mine
end

section
open PySem
set_option Elab.async false
set_option linter.unusedSimpArgs false
set_option linter.unusedVariables false
namespace Mine
open PyProof.Rows (lo1)

noncomputable def As (l : List Nat) : Prop := ∀ c ∈ l, c < 128
theorem As.mono {l m : List Nat} (h : As m) (hs : ∀ c ∈ l, c ∈ m) : As l := fun c hc => h c (hs c hc)
theorem lower_S {l : List Nat} (h : As l) : Txt.lower (S l) = S (l.map lo1) := by
  rw [PyProof.Rows.lower_ascii (x := S l) (by rw [S_list]; exact h)]
  simp [S]
theorem pLower_S {l : List Nat} (h : As l) (hl : l.length ≤ 100) : pLower (.str (S l)) = some (.str (S (l.map lo1))) := by
  unfold pLower
  have e : (Txt.lower (S l)).length ≤ 1048576 := by rw [lower_S h, S_len, List.length_map]; omega
  show (if (Txt.lower (S l)).length ≤ 1048576 then _ else _) = _
  rw [if_pos e, lower_S h]
theorem scost_S {x y : Nat} (hx : x < 128) (hy : y < 128) : scost (S [x]) (S [y]) = if x = y then 0 else if lo1 x = lo1 y then 1 else 2 := by
  have e1 : Txt.lower (S [x]) = S [lo1 x] := lower_S (l := [x]) (by intro c hc; simp at hc; omega)
  have e2 : Txt.lower (S [y]) = S [lo1 y] := lower_S (l := [y]) (by intro c hc; simp at hc; omega)
  by_cases h : x = y
  · rw [if_pos h, h, scost_self]
  · have hn : S [x] ≠ S [y] := fun e => h (by have := S_inj e; simpa using this)
    rw [if_neg h]
    by_cases hl : lo1 x = lo1 y
    · rw [if_pos hl]; exact scost_low hn (by rw [e1, e2, hl])
    · rw [if_neg hl]; exact scost_two (by rw [e1, e2]; exact fun e => hl (by have := S_inj e; simpa using this))

/-! how many signs differ -/
noncomputable def ham : List Nat → List Nat → Nat
  | x :: xs, y :: ys => (if x = y then 0 else 1) + ham xs ys
  | _, _ => 0

theorem ham_self : ∀ l : List Nat, ham l l = 0
  | [] => rfl
  | x :: xs => by simp only [ham, if_true, ham_self xs]
theorem ham_pre : ∀ p a b : List Nat, ham (p ++ a) (p ++ b) = ham a b
  | [], a, b => rfl
  | x :: xs, a, b => by simp only [List.cons_append, ham, if_true, ham_pre xs a b, Nat.zero_add]
theorem ham_suf : ∀ a b s : List Nat, a.length = b.length → ham (a ++ s) (b ++ s) = ham a b
  | [], [], s, _ => by simp only [List.nil_append, ham_self, ham]
  | x :: xs, y :: ys, s, h => by
    simp only [List.cons_append, ham]
    rw [ham_suf xs ys s (by simpa using h)]
  | [], _ :: _, _, h => by simp at h
  | _ :: _, [], _, h => by simp at h

theorem Hs_shift (c : Nat → Nat → Int) : ∀ n, Hs c (n + 1) = c 0 0 + Hs (fun i j => c (i + 1) (j + 1)) n
  | 0 => by simp only [Hs]; omega
  | n + 1 => by
    have := Hs_shift c n
    rw [Hs, this]
    simp only [Hs]; omega

theorem Hs_ham : ∀ a b : List Nat, As a → As b → a.map lo1 = b.map lo1 → Hs (costOf a b) a.length = ham a b
  | [], [], _, _, _ => by simp [Hs, ham]
  | [], _ :: _, _, _, h => by simp at h
  | _ :: _, [], _, _, h => by simp at h
  | x :: xs, y :: ys, hA, hB, h => by
    simp only [List.map_cons, List.cons.injEq] at h
    have ih := Hs_ham xs ys (hA.mono fun c hc => List.mem_cons_of_mem _ hc) (hB.mono fun c hc => List.mem_cons_of_mem _ hc) h.2
    rw [List.length_cons, Hs_shift]
    have e : (fun i j => costOf (x :: xs) (y :: ys) (i + 1) (j + 1)) = costOf xs ys := by
      funext i j; simp [costOf]
    have e0 : costOf (x :: xs) (y :: ys) 0 0 = if y = x then 0 else if lo1 y = lo1 x then 1 else 2 := by
      show scost (S [y]) (S [x]) = _
      exact scost_S (hB y (List.mem_cons_self ..)) (hA x (List.mem_cons_self ..))
    rw [e, ih, e0]
    simp only [ham]
    by_cases hxy : x = y
    · rw [if_pos hxy.symm, if_pos hxy]; omega
    · rw [if_neg (Ne.symm hxy), if_neg hxy, if_pos h.1.symm]; omega

/-- unlike even without their cases: one place costs 2 -/
theorem cost_two : ∀ a b : List Nat, As a → As b → a.length = b.length → a.map lo1 ≠ b.map lo1 → ∃ k, k < a.length ∧ costOf a b k k = 2
  | [], [], _, _, _, h => absurd rfl h
  | [], _ :: _, _, _, h, _ => by simp at h
  | _ :: _, [], _, _, h, _ => by simp at h
  | x :: xs, y :: ys, hA, hB, hl, h => by
    by_cases hxy : lo1 x = lo1 y
    · have h' : xs.map lo1 ≠ ys.map lo1 := fun e => h (by simp [hxy, e])
      obtain ⟨k, hk, hc⟩ := cost_two xs ys (hA.mono fun c hc => List.mem_cons_of_mem _ hc) (hB.mono fun c hc => List.mem_cons_of_mem _ hc) (by simpa using hl) h'
      exact ⟨k + 1, by simp; omega, by simpa [costOf] using hc⟩
    · refine ⟨0, by simp, ?_⟩
      show scost (S [y]) (S [x]) = 2
      rw [scost_S (hB y (List.mem_cons_self ..)) (hA x (List.mem_cons_self ..)), if_neg (fun e => hxy (by rw [e])), if_neg (Ne.symm hxy)]

theorem cost_pos {a b : List Nat} {i j x y : Nat} (hb : b[i]? = some y) (ha : a[j]? = some x) (h : x ≠ y) : 1 ≤ costOf a b i j := by
  unfold costOf
  apply scost_pos
  intro e
  have e' := S_inj e
  simp only [List.cons.injEq, and_true, List.getD_eq_getElem?_getD, ha, hb, Option.getD_some] at e'
  exact h e'.symm

/-- the answer of the law, plainly -/
noncomputable def dueOf (a b : List Nat) : Int := if a.map lo1 = b.map lo1 then min 3 (ham a b) else if max (strA a b).length (strB a b).length = 1 then 2 else 3

theorem Strip.low {a b A B : List Nat} (h : Strip a b A B) : a.map lo1 = b.map lo1 ↔ A.map lo1 = B.map lo1 := by
  obtain ⟨p, s, e1, e2⟩ := h.ex
  rw [e1, e2]
  simp only [List.map_append, List.append_cancel_left_eq, List.append_cancel_right_eq]
theorem Strip.ham {a b A B : List Nat} (h : Strip a b A B) (hl : A.length = B.length) : ham a b = ham A B := by
  obtain ⟨p, s, e1, e2⟩ := h.ex
  rw [e1, e2, ham_pre, ham_suf _ _ _ hl]
theorem Strip.asA {a b A B : List Nat} (h : Strip a b A B) (ha : As a) : As A := by
  obtain ⟨p, s, e1, e2⟩ := h.ex
  rw [e1] at ha
  exact ha.mono fun c hc => by simp [hc]
theorem Strip.asB {a b A B : List Nat} (h : Strip a b A B) (hb : As b) : As B := by
  obtain ⟨p, s, e1, e2⟩ := h.ex
  rw [e2] at hb
  exact hb.mono fun c hc => by simp [hc]
theorem Strip.swap {a b A B : List Nat} (h : Strip a b A B) : Strip b a B A :=
  ⟨let ⟨p, s, e1, e2⟩ := h.ex; ⟨p, s, e2, e1⟩, fun x y hx hy => (h.first y x hy hx).symm, fun x y hx hy => (h.last y x hy hx).symm⟩

theorem len_of_map {a b : List Nat} (h : a.map lo1 = b.map lo1) : a.length = b.length := by have := congrArg List.length h; simpa using this

/-- both rests there, one longer: the price is 3 or more -/
theorem Ed_far {A B : List Nat} (hA : A ≠ []) (hlt : A.length < B.length) (hf : ∀ x y, A[0]? = some x → B[0]? = some y → x ≠ y) (hl : ∀ x y, A[A.length - 1]? = some x → B[B.length - 1]? = some y → x ≠ y) :
    3 ≤ Ed (costOf A B) B.length A.length := by
  have hA0 : A.length ≠ 0 := fun h => hA (List.eq_nil_of_length_eq_zero h)
  have hc : ∀ i j, 0 ≤ costOf A B i j := fun i j => (costOf_le A B i j).1
  by_cases h1 : B.length = A.length + 1
  · have g0 : 1 ≤ costOf A B 0 0 := cost_pos (List.getElem?_eq_getElem (by omega)) (List.getElem?_eq_getElem (by omega)) (hf _ _ (List.getElem?_eq_getElem (by omega)) (List.getElem?_eq_getElem (by omega)))
    have g1 : 1 ≤ costOf A B A.length (A.length - 1) := by
      have hi : A.length < B.length := hlt
      have hj : A.length - 1 < A.length := by omega
      refine cost_pos (List.getElem?_eq_getElem hi) (List.getElem?_eq_getElem hj) (hl _ _ (List.getElem?_eq_getElem hj) ?_)
      have e : B.length - 1 = A.length := by omega
      rw [e]; exact List.getElem?_eq_getElem hi
    rw [h1]
    apply Classical.byContradiction
    intro hn
    have := Ed_off _ hc g0 A.length (by omega) (by omega)
    omega
  · have := (Ed_ge _ hc B.length A.length).1
    omega

/-- the sum along the diagonal, where the lengths are alike -/
theorem Hs_due {A B : List Nat} (hA0 : A ≠ []) (hlen : A.length = B.length) (hAs : As A) (hBs : As B) (hf : ∀ x y, A[0]? = some x → B[0]? = some y → x ≠ y) (hl : ∀ x y, A[A.length - 1]? = some x → B[B.length - 1]? = some y → x ≠ y)
    (hne : A.map lo1 ≠ B.map lo1) : min 3 (Hs (costOf A B) A.length) = if A.length = 1 then 2 else 3 := by
  have h0 : A.length ≠ 0 := fun h => hA0 (List.eq_nil_of_length_eq_zero h)
  have hc : ∀ i j, 0 ≤ costOf A B i j := fun i j => (costOf_le A B i j).1
  obtain ⟨k, hk, hk2⟩ := cost_two A B hAs hBs hlen hne
  by_cases h1 : A.length = 1
  · rw [if_pos h1, h1]
    have : k = 0 := by omega
    subst this
    simp only [Hs]; omega
  · rw [if_neg h1]
    have g0 : 1 ≤ costOf A B 0 0 := cost_pos (List.getElem?_eq_getElem (by omega)) (List.getElem?_eq_getElem (by omega)) (hf _ _ (List.getElem?_eq_getElem (by omega)) (List.getElem?_eq_getElem (by omega)))
    have g1 : 1 ≤ costOf A B (A.length - 1) (A.length - 1) := by
      refine cost_pos (y := B[A.length - 1]'(by omega)) (List.getElem?_eq_getElem (by omega)) (List.getElem?_eq_getElem (by omega)) (hl _ _ (List.getElem?_eq_getElem (by omega)) ?_)
      have e : B.length - 1 = A.length - 1 := by omega
      rw [e]; exact List.getElem?_eq_getElem (by omega)
    by_cases hk0 : k = 0
    · subst hk0
      have := Hs_ge2 _ hc (k := 0) (l := A.length - 1) (n := A.length) (by omega) (by omega)
      omega
    · have := Hs_ge2 _ hc (k := 0) (l := k) (n := A.length) (by omega) hk
      omega

theorem lev_due (a b : List Nat) (ha : As a) (hb : As b) (hal : a.length ≤ 40) (hbl : b.length ≤ 40) : ∃ v, f_levenshtein_distance [.str (S a), .str (S b), .int 2] = some (.int v) ∧ min 3 v = dueOf a b := by
  obtain ⟨v, hv, hcase⟩ := lev_run a b 2 hal hbl
  refine ⟨v, hv, ?_⟩
  rcases hcase with ⟨rfl, rfl⟩ | ⟨hne, hout⟩
  · unfold dueOf; rw [if_pos rfl, ham_self]; rfl
  · have st := strip a b
    have hAs := st.asA ha
    have hBs := st.asB hb
    unfold dueOf
    have hnn : ¬ (strA a b = [] ∧ strB a b = []) := by
      rintro ⟨e1, e2⟩
      obtain ⟨p, s, h1, h2⟩ := st.ex
      rw [e1] at h1; rw [e2] at h2
      exact hne (h1.trans h2.symm)
    by_cases hlen : (strA a b).length = (strB a b).length
    · -- as long as each other
      have hA0 : strA a b ≠ [] := fun e => hnn ⟨e, List.eq_nil_of_length_eq_zero (by rw [← hlen, e]; rfl)⟩
      have hB0 : strB a b ≠ [] := fun e => hA0 (List.eq_nil_of_length_eq_zero (by rw [hlen, e]; rfl))
      have hc : ∀ i j, 0 ≤ costOf (strA a b) (strB a b) i j := fun i j => (costOf_le _ _ i j).1
      have key : min 3 v = min 3 (Hs (costOf (strA a b) (strB a b)) (strA a b).length) := by
        have hd := Ed_diag _ hc (strA a b).length
        cases hout with
        | short h => exact absurd h (by simp [hA0, hB0])
        | far _ _ h => exact absurd h (by omega)
        | cutAB _ _ _ t ht h =>
          have h1 := mnF_le _ t (strA a b).length (t + 1) (by omega) (by omega) |> Int.lt_of_lt_of_le h
          have h2 := (Ed_diag _ hc (t + 1)).1
          have h3 := Hs_mono _ hc (i := t + 1) (j := (strA a b).length) (by omega)
          omega
        | cutBA _ _ hl t ht h => exact absurd hl (by omega)
        | endAB _ _ _ h => rw [← hlen]; omega
        | endBA _ _ hl h => exact absurd hl (by omega)
      rw [key]
      by_cases hlow : a.map lo1 = b.map lo1
      · rw [if_pos hlow, Hs_ham _ _ hAs hBs (st.low.mp hlow), st.ham hlen]
      · rw [if_neg hlow, Hs_due hA0 hlen hAs hBs st.first st.last (fun e => hlow (st.low.mpr e))]
        have : max (strA a b).length (strB a b).length = (strA a b).length := by omega
        rw [this]
    · have hlow : a.map lo1 ≠ b.map lo1 := fun e => hlen (len_of_map (st.low.mp e))
      rw [if_neg hlow]
      cases hout with
      | short h =>
        by_cases h1 : max (strA a b).length (strB a b).length = 1
        · rw [if_pos h1]
          rcases h with h | h <;> rw [h] at h1 ⊢ <;> simp only [List.length_nil] at h1 ⊢ <;> omega
        · rw [if_neg h1]
          rcases h with h | h <;> rw [h] at h1 hlen ⊢ <;> simp only [List.length_nil] at h1 hlen ⊢ <;> omega
      | far hA0 hB0 h => rw [if_neg (by have := List.length_pos_iff.mpr hA0; have := List.length_pos_iff.mpr hB0; omega)]; rfl
      | cutAB hA0 hB0 _ t ht h => rw [if_neg (by have := List.length_pos_iff.mpr hA0; have := List.length_pos_iff.mpr hB0; omega)]; rfl
      | cutBA hA0 hB0 _ t ht h => rw [if_neg (by have := List.length_pos_iff.mpr hA0; have := List.length_pos_iff.mpr hB0; omega)]; rfl
      | endAB hA0 hB0 hl h =>
        rw [if_neg (by have := List.length_pos_iff.mpr hA0; have := List.length_pos_iff.mpr hB0; omega)]
        have := Ed_far hA0 (by omega) st.first st.last
        omega
      | endBA hA0 hB0 hl h =>
        rw [if_neg (by have := List.length_pos_iff.mpr hA0; have := List.length_pos_iff.mpr hB0; omega)]
        have := Ed_far hB0 hl st.swap.first st.swap.last
        omega
end Mine
end

section
open PySem
set_option Elab.async false
set_option linter.unusedSimpArgs false
set_option linter.unusedVariables false
namespace Mine

/-! borders -/
noncomputable def Bd (w : Nat → Nat) (m k : Nat) : Prop := k < m ∧ ∀ i, i < k → w i = w (m - k + i)

theorem Bd.zero {w : Nat → Nat} {m : Nat} (h : 0 < m) : Bd w m 0 := ⟨h, fun i hi => absurd hi (by omega)⟩
theorem Bd.trans {w : Nat → Nat} {m k j : Nat} (h1 : Bd w m k) (h2 : Bd w k j) : Bd w m j := by
  obtain ⟨a1, b1⟩ := h1
  obtain ⟨a2, b2⟩ := h2
  refine ⟨by omega, fun i hi => ?_⟩
  rw [b2 i hi, b1 (k - j + i) (by omega)]
  congr 1; omega
theorem Bd.nest {w : Nat → Nat} {m k j : Nat} (h1 : Bd w m k) (h2 : Bd w m j) (h : j < k) : Bd w k j := by
  obtain ⟨a1, b1⟩ := h1
  obtain ⟨a2, b2⟩ := h2
  refine ⟨h, fun i hi => ?_⟩
  rw [b2 i hi, b1 (k - j + i) (by omega)]
  congr 1; omega
theorem Bd.succ {w : Nat → Nat} {m k : Nat} (h : Bd w m k) (e : w k = w m) : Bd w (m + 1) (k + 1) := by
  obtain ⟨a, b⟩ := h
  refine ⟨by omega, fun i hi => ?_⟩
  have e1 : m + 1 - (k + 1) + i = m - k + i := by omega
  rw [e1]
  by_cases hi' : i < k
  · exact b i hi'
  · have : i = k := by omega
    subst this
    rw [e]; congr 1; omega
theorem Bd.pred {w : Nat → Nat} {m k : Nat} (h : Bd w (m + 1) (k + 1)) : Bd w m k ∧ w k = w m := by
  obtain ⟨a, b⟩ := h
  refine ⟨⟨by omega, fun i hi => ?_⟩, ?_⟩
  · rw [b i (by omega)]; congr 1; omega
  · rw [b k (by omega)]; congr 1; omega

noncomputable def topOf (P : Nat → Bool) : Nat → Nat
  | 0 => 0
  | n + 1 => if P (n + 1) = true then n + 1 else topOf P n
theorem topOf_is (P : Nat → Bool) (h0 : P 0 = true) : ∀ n, P (topOf P n) = true
  | 0 => h0
  | n + 1 => by
    simp only [topOf]
    split
    · assumption
    · exact topOf_is P h0 n
theorem topOf_ge (P : Nat → Bool) : ∀ n j, j ≤ n → P j = true → j ≤ topOf P n
  | 0, j, hj, _ => hj
  | n + 1, j, hj, h => by
    simp only [topOf]
    split
    · exact hj
    · rename_i hn
      have : j ≠ n + 1 := fun e => hn (e ▸ h)
      exact topOf_ge P n j (by omega) h

noncomputable def bdB (w : Nat → Nat) (m k : Nat) : Bool := decide (k < m) && (List.range k).all fun i => w i == w (m - k + i)
theorem bdB_iff (w : Nat → Nat) (m k : Nat) : bdB w m k = true ↔ Bd w m k := by
  simp [bdB, Bd]
/-- the longest border of the first m signs -/
noncomputable def tb (w : Nat → Nat) (m : Nat) : Nat := topOf (bdB w m) (m - 1)
theorem tb_bd {w : Nat → Nat} {m : Nat} (h : 0 < m) : Bd w m (tb w m) := (bdB_iff w m _).mp (topOf_is _ ((bdB_iff w m 0).mpr (.zero h)) _)
theorem tb_ge {w : Nat → Nat} {m j : Nat} (h : Bd w m j) : j ≤ tb w m := topOf_ge _ _ _ (by have := h.1; omega) ((bdB_iff w m j).mpr h)
theorem tb_lt {w : Nat → Nat} {m : Nat} (h : 0 < m) : tb w m < m := (tb_bd h).1
theorem tb_eq {w : Nat → Nat} {m k : Nat} (h : Bd w m k) (hg : ∀ j, Bd w m j → j ≤ k) : tb w m = k := by
  have h1 := tb_ge h
  have h2 := hg _ (tb_bd (w := w) (m := m) (by have := h.1; omega))
  omega

/-! the table -/
noncomputable def tabAt (w : Nat → Nat) (n c : Nat) : List PV := (List.range n).map fun k => PV.int ((if k < c then tb w (k + 1) else 0 : Nat) : Nat)
theorem tabAt_len (w : Nat → Nat) (n c : Nat) : (tabAt w n c).length = n := by simp [tabAt]
theorem tabAt_get (w : Nat → Nat) (n c k : Nat) (hk : k < n) (hc : k < c) : (tabAt w n c)[k]? = some (.int (tb w (k + 1) : Nat)) := by
  unfold tabAt
  rw [List.getElem?_map, List.getElem?_range hk, Option.map_some, if_pos hc]
theorem tabAt_set (w : Nat → Nat) (n c v : Nat) (hc : c < n) (hv : tb w (c + 1) = v) : (tabAt w n c).set c (.int (v : Nat)) = tabAt w n (c + 1) := by
  apply List.ext_getElem?
  intro i
  rw [List.getElem?_set]
  by_cases hi : c = i
  · subst hi
    rw [if_pos rfl, if_pos (by rw [tabAt_len]; exact hc), tabAt_get w n (c + 1) c hc (by omega), hv]
  · rw [if_neg hi]
    unfold tabAt
    rw [List.getElem?_map, List.getElem?_map]
    by_cases hn : i < n
    · rw [List.getElem?_range hn, Option.map_some, Option.map_some]
      by_cases h1 : i < c
      · rw [if_pos h1, if_pos (by omega)]
      · rw [if_neg h1, if_neg (by omega)]
    · rw [List.getElem?_eq_none (by simpa using hn)]; rfl
theorem tabAt_one (w : Nat → Nat) (n : Nat) : List.replicate n (PV.int 0) = tabAt w n 1 := by
  apply List.ext_getElem?
  intro i
  unfold tabAt
  rw [List.getElem?_map, List.getElem?_replicate]
  by_cases hn : i < n
  · rw [List.getElem?_range hn, Option.map_some, if_pos hn]
    by_cases h : i < 1
    · have : i = 0 := by omega
      subst this
      rfl
    · rw [if_neg h]; rfl
  · rw [List.getElem?_eq_none (by simpa using hn), if_neg hn]; rfl

theorem run_set {k : Nat} {fi fe : XE} {σ : List Slot} {xs : List PV} {pl : Bool} {p : PV} {i : Nat} (h1 : σ[k]? = some (.ow pl xs)) (h2 : fe σ = some (.fz p)) (h3 : fi σ = some (.fz (.int (i : Nat)))) (hp : p.scalar = true) (hi : i < xs.length) :
    xSet k fi fe σ = some (.next, σ.set k (.ow false (xs.set i p))) := by
  rw [ev_set, h1, Option.bind_some]
  show ((fe σ).bind _) = _
  rw [h2, Option.bind_some, h3, Option.bind_some]
  show (if (Slot.fz p).pv.scalar = true ∧ (0 : Int) ≤ (i : Nat) ∧ ((i : Nat) : Int) < xs.length then some (Fl.next, σ.set k (.ow false (xs.set ((i : Nat) : Int).toNat p))) else none) = _
  rw [if_pos ⟨hp, by omega, by omega⟩, Int.toNat_natCast]

noncomputable abbrev kmpT : XT := xT (xOp2 pNe (xOp2 pItem (xVar 0) (xVar 2)) (xOp2 pItem (xVar 0) (xVar 3))) pBool
noncomputable abbrev kmpB : XS := xSeq (xIf (xT (xOp2 pEq (xVar 3) (xLit (.int 0))) pBool)
      (xSeq (xSet 1 (xVar 2) (xLit (.int 0)))
      (xSeq xBrk
      xNil))
      xNil)
      (xSeq (xAsg 3 (xOp2 pItem (xVar 1) (xOp2 pSub (xVar 3) (xLit (.int 1)))))
      xNil)
noncomputable abbrev kmpE : XS := xSeq (xSet 1 (xVar 2) (xOp2 pAdd (xVar 3) (xLit (.int 1)))) xNil

noncomputable abbrev wof (l : List Nat) (i : Nat) : Nat := l.getD i 0
theorem wof_get {l : List Nat} {i : Nat} (h : i < l.length) : l[i]? = some (wof l i) := by
  rw [wof, List.getD_eq_getElem?_getD, List.getElem?_eq_getElem h]; rfl

theorem while_t {t : XT} {b els : XS} {n : Nat} {σ σ' : List Slot} (h : t σ = some true) (hb : b σ = some (.next, σ')) : xWhile t b els (n + 1) σ = xWhile t b els n σ' := by
  rw [ev_while, h, Option.bind_some, if_pos rfl, hb]; rfl
theorem while_brk {t : XT} {b els : XS} {n : Nat} {σ σ' : List Slot} (h : t σ = some true) (hb : b σ = some (.brk, σ')) : xWhile t b els (n + 1) σ = some (.next, σ') := by
  rw [ev_while, h, Option.bind_some, if_pos rfl, hb]; rfl
theorem while_f {t : XT} {b els : XS} {n : Nat} {σ : List Slot} (h : t σ = some false) : xWhile t b els (n + 1) σ = els σ := by
  rw [ev_while, h, Option.bind_some, if_neg (by decide)]
theorem seq_brk {g gs : XS} {σ σ' : List Slot} (h : g σ = some (.brk, σ')) : xSeq g gs σ = some (.brk, σ') := by
  unfold xSeq; rw [h]

theorem kmp_loop (l : List Nat) (i : Nat) (hi1 : 1 ≤ i) (hi : i < l.length) : ∀ (fuel idx : Nat) (pl : Bool), idx < fuel → Bd (wof l) i idx → (∀ j, Bd (wof l) i j → wof l j = wof l i → j ≤ idx) →
    ∃ s3, xWhile kmpT kmpB kmpE fuel [.fz (.str (S l)), .ow pl (tabAt (wof l) l.length i), .fz (.int (i : Nat)), .fz (.int (idx : Nat))] =
      some (.next, [.fz (.str (S l)), .ow false (tabAt (wof l) l.length (i + 1)), .fz (.int (i : Nat)), s3]) := by
  intro fuel
  induction fuel with
  | zero => intro idx pl h; omega
  | succ fuel ih =>
    intro idx pl hf hb hg
    have hx : idx < l.length := by have := hb.1; omega
    have ht : kmpT [.fz (.str (S l)), .ow pl (tabAt (wof l) l.length i), .fz (.int (i : Nat)), .fz (.int (idx : Nat))] = some ([wof l i] != [wof l idx]) := by
      simp only [ev_T, ev_op2, ev_var, Option.bind_some, Option.bind_none, sl_fz, sl_ow, sl_fr, st_fz, st_fr, sc_int, sc_bool, sc_str, sc_none, sc_list, List.getElem?_cons_zero, List.getElem?_cons_succ, List.set_cons_zero, List.set_cons_succ, p_eqI, p_neI, p_ltI, p_gtI, p_addI, p_subI, p_itemL, p_partN, p_partI, p_bool, p_truthN, p_truthB, p_truthI, p_lenL, p_min2, p_max2, p_abs, p_isBool, p_neg, p_cutL, p_revL, p_mul2l, p_mul2r, pCut_S, pRev_S, pItem_S, pEq_S, pNe_S, truth_S, pLen_S, List.map_cons, List.map_nil, Bool.false_eq_true, if_true, if_false, ite_true, ite_false, reduceIte, List.append_eq, List.nil_append, List.cons_append, pIdx_nat, wof_get hi, wof_get hx]
    by_cases he : wof l i = wof l idx
    · have e0 : ([wof l i] != [wof l idx]) = false := by rw [he]; simp
      rw [e0] at ht
      refine ⟨.fz (.int (idx : Nat)), ?_⟩
      rw [while_f ht]
      have htb : tb (wof l) (i + 1) = idx + 1 := by
        refine tb_eq (hb.succ he.symm) fun j hj => ?_
        cases j with
        | zero => omega
        | succ j =>
          have := hg j hj.pred.1 hj.pred.2
          omega
      refine (seq_next (run_set (xs := tabAt (wof l) l.length i) (pl := pl) (p := .int ((idx + 1 : Nat) : Int)) (i := i) rfl ?_ rfl rfl (by rw [tabAt_len]; exact hi))).trans ?_
      · simp only [ev_op2, ev_var, ev_lit, Option.bind_some, Option.bind_none, sl_fz, sl_ow, sl_fr, st_fz, st_fr, sc_int, sc_bool, sc_str, sc_none, sc_list, List.getElem?_cons_zero, List.getElem?_cons_succ, List.set_cons_zero, List.set_cons_succ, p_eqI, p_neI, p_ltI, p_gtI, p_addI, p_subI, p_itemL, p_partN, p_partI, p_bool, p_truthN, p_truthB, p_truthI, p_lenL, p_min2, p_max2, p_abs, p_isBool, p_neg, p_cutL, p_revL, p_mul2l, p_mul2r, pCut_S, pRev_S, pItem_S, pEq_S, pNe_S, truth_S, pLen_S, List.map_cons, List.map_nil, Bool.false_eq_true, if_true, if_false, ite_true, ite_false, reduceIte, List.append_eq, List.nil_append, List.cons_append]; rfl
      · rw [ev_nil, tabAt_set _ _ _ _ hi htb]; rfl
    · have e0 : ([wof l i] != [wof l idx]) = true := by simpa using he
      rw [e0] at ht
      cases idx with
      | zero =>
        refine ⟨.fz (.int (0 : Nat)), ?_⟩
        rw [while_brk ht (σ' := [.fz (.str (S l)), .ow false (tabAt (wof l) l.length (i + 1)), .fz (.int (i : Nat)), .fz (.int (0 : Nat))])]
        have htb : tb (wof l) (i + 1) = 0 := by
          refine tb_eq (.zero (by omega)) fun j hj => ?_
          cases j with
          | zero => omega
          | succ j =>
            have := hg j hj.pred.1 hj.pred.2
            have h0 : j = 0 := by omega
            subst h0
            exact absurd hj.pred.2.symm he
        refine seq_brk ((if_t ?_).trans ((seq_next (run_set (xs := tabAt (wof l) l.length i) (pl := pl) (p := .int ((0 : Nat) : Int)) (i := i) rfl rfl rfl rfl (by rw [tabAt_len]; exact hi))).trans (seq_brk ?_)))
        · simp only [ev_T, ev_op2, ev_var, ev_lit, Option.bind_some, Option.bind_none, sl_fz, sl_ow, sl_fr, st_fz, st_fr, sc_int, sc_bool, sc_str, sc_none, sc_list, List.getElem?_cons_zero, List.getElem?_cons_succ, List.set_cons_zero, List.set_cons_succ, p_eqI, p_neI, p_ltI, p_gtI, p_addI, p_subI, p_itemL, p_partN, p_partI, p_bool, p_truthN, p_truthB, p_truthI, p_lenL, p_min2, p_max2, p_abs, p_isBool, p_neg, p_cutL, p_revL, p_mul2l, p_mul2r, pCut_S, pRev_S, pItem_S, pEq_S, pNe_S, truth_S, pLen_S, List.map_cons, List.map_nil, Bool.false_eq_true, if_true, if_false, ite_true, ite_false, reduceIte, List.append_eq, List.nil_append, List.cons_append]; rfl
        · rw [ev_brk, tabAt_set _ _ _ _ hi htb]; rfl
      | succ k =>
        have hk1 := hb.1
        have hlt := tb_lt (w := wof l) (m := k + 1) (by omega)
        obtain ⟨s3, h3⟩ := ih (tb (wof l) (k + 1)) pl (by omega) (hb.trans (tb_bd (by omega))) (fun j hj hw => by
          have h1 := hg j hj hw
          have h2 : j ≠ k + 1 := by rintro rfl; exact he hw.symm
          exact tb_ge (hb.nest hj (by omega)))
        refine ⟨s3, ?_⟩
        rw [while_t ht (σ' := [.fz (.str (S l)), .ow pl (tabAt (wof l) l.length i), .fz (.int (i : Nat)), .fz (.int (tb (wof l) (k + 1) : Nat))])]
        · exact h3
        · have en : ((((k + 1 : Nat) : Int)) == 0) = false := by simp only [beq_eq_false_iff_ne, ne_eq]; omega
          have em : ((k + 1 : Nat) : Int) - 1 = (k : Nat) := by omega
          refine (seq_next ((if_f ?_).trans (ev_nil _))).trans ((seq_next ?_).trans (ev_nil _))
          · simp only [ev_T, ev_op2, ev_var, ev_lit, Option.bind_some, Option.bind_none, sl_fz, sl_ow, sl_fr, st_fz, st_fr, sc_int, sc_bool, sc_str, sc_none, sc_list, List.getElem?_cons_zero, List.getElem?_cons_succ, List.set_cons_zero, List.set_cons_succ, p_eqI, p_neI, p_ltI, p_gtI, p_addI, p_subI, p_itemL, p_partN, p_partI, p_bool, p_truthN, p_truthB, p_truthI, p_lenL, p_min2, p_max2, p_abs, p_isBool, p_neg, p_cutL, p_revL, p_mul2l, p_mul2r, pCut_S, pRev_S, pItem_S, pEq_S, pNe_S, truth_S, pLen_S, List.map_cons, List.map_nil, Bool.false_eq_true, if_true, if_false, ite_true, ite_false, reduceIte, List.append_eq, List.nil_append, List.cons_append, en]
          · simp only [ev_asg, ev_op2, ev_var, ev_lit, Option.bind_some, Option.bind_none, sl_fz, sl_ow, sl_fr, st_fz, st_fr, sc_int, sc_bool, sc_str, sc_none, sc_list, List.getElem?_cons_zero, List.getElem?_cons_succ, List.set_cons_zero, List.set_cons_succ, p_eqI, p_neI, p_ltI, p_gtI, p_addI, p_subI, p_itemL, p_partN, p_partI, p_bool, p_truthN, p_truthB, p_truthI, p_lenL, p_min2, p_max2, p_abs, p_isBool, p_neg, p_cutL, p_revL, p_mul2l, p_mul2r, pCut_S, pRev_S, pItem_S, pEq_S, pNe_S, truth_S, pLen_S, List.map_cons, List.map_nil, Bool.false_eq_true, if_true, if_false, ite_true, ite_false, reduceIte, List.append_eq, List.nil_append, List.cons_append, em, pIdx_nat, tabAt_get (wof l) l.length i k (by omega) (by omega)]

noncomputable abbrev kmpF : XS := xSeq (xAsg 3 (xOp2 pItem (xVar 1) (xOp2 pSub (xVar 2) (xLit (.int 1)))))
      (xSeq (xWhile kmpT kmpB kmpE 1000) xNil)

theorem kmp_for (l : List Nat) (hl : l.length < 1000) : ∀ (r i : Nat) (s2 s3 : Slot) (pl : Bool), 1 ≤ i → i + r = l.length →
    ∃ t2 t3 pl', xForL 2 kmpF ((List.range' i r).map fun j : Nat => PV.int (j : Nat)) [.fz (.str (S l)), .ow pl (tabAt (wof l) l.length i), s2, s3] =
      some (.next, [.fz (.str (S l)), .ow pl' (tabAt (wof l) l.length (i + r)), t2, t3]) := by
  intro r
  induction r with
  | zero =>
    intro i s2 s3 pl h1 h
    exact ⟨s2, s3, pl, rfl⟩
  | succ r ih =>
    intro i s2 s3 pl h1 h
    have hi : i < l.length := by omega
    have em : ((i : Nat) : Int) - 1 = ((i - 1 : Nat) : Int) := by omega
    have e1 : xAsg 3 (xOp2 pItem (xVar 1) (xOp2 pSub (xVar 2) (xLit (.int 1)))) [.fz (.str (S l)), .ow pl (tabAt (wof l) l.length i), .fz (.int (i : Nat)), s3] =
        some (.next, [.fz (.str (S l)), .ow pl (tabAt (wof l) l.length i), .fz (.int (i : Nat)), .fz (.int (tb (wof l) i : Nat))]) := by
      have := tabAt_get (wof l) l.length i (i - 1) (by omega) (by omega)
      rw [Nat.sub_add_cancel h1] at this
      simp only [ev_asg, ev_op2, ev_var, ev_lit, Option.bind_some, Option.bind_none, sl_fz, sl_ow, sl_fr, st_fz, st_fr, sc_int, sc_bool, sc_str, sc_none, sc_list, List.getElem?_cons_zero, List.getElem?_cons_succ, List.set_cons_zero, List.set_cons_succ, p_eqI, p_neI, p_ltI, p_gtI, p_addI, p_subI, p_itemL, p_partN, p_partI, p_bool, p_truthN, p_truthB, p_truthI, p_lenL, p_min2, p_max2, p_abs, p_isBool, p_neg, p_cutL, p_revL, p_mul2l, p_mul2r, pCut_S, pRev_S, pItem_S, pEq_S, pNe_S, truth_S, pLen_S, List.map_cons, List.map_nil, Bool.false_eq_true, if_true, if_false, ite_true, ite_false, reduceIte, List.append_eq, List.nil_append, List.cons_append, em, pIdx_nat, this]
    have hlt := tb_lt (w := wof l) (m := i) h1
    obtain ⟨s3', h3⟩ := kmp_loop l i h1 hi 1000 (tb (wof l) i) pl (by omega) (tb_bd h1) (fun j hj _ => tb_ge hj)
    obtain ⟨t2, t3, pl', h4⟩ := ih (i + 1) (.fz (.int (i : Nat))) s3' false (by omega) (by omega)
    refine ⟨t2, t3, pl', ?_⟩
    rw [List.range'_succ, List.map_cons, ev_forCons]
    simp only [List.set_cons_zero, List.set_cons_succ]
    have e2 : kmpF [.fz (.str (S l)), .ow pl (tabAt (wof l) l.length i), .fz (.int (i : Nat)), s3] = some (.next, [.fz (.str (S l)), .ow false (tabAt (wof l) l.length (i + 1)), .fz (.int (i : Nat)), s3']) :=
      (seq_next e1).trans ((seq_next h3).trans (ev_nil _))
    rw [e2, Option.bind_some]
    have e3 : i + 1 + r = i + (r + 1) := by omega
    rw [e3] at h4
    exact h4

noncomputable def tabOf (l : List Nat) : List PV := (List.range l.length).map fun k => PV.int (tb (wof l) (k + 1) : Nat)
theorem tabOf_len (l : List Nat) : (tabOf l).length = l.length := by simp [tabOf]
theorem tabOf_get (l : List Nat) (k : Nat) (hk : k < l.length) : (tabOf l)[k]? = some (.int (tb (wof l) (k + 1) : Nat)) := by
  unfold tabOf
  rw [List.getElem?_map, List.getElem?_range hk, Option.map_some]
theorem tabAt_all (l : List Nat) (c : Nat) (h : l.length ≤ c) : tabAt (wof l) l.length c = tabOf l := by
  apply List.ext_getElem?
  intro i
  by_cases hi : i < l.length
  · rw [tabAt_get _ _ _ _ hi (by omega), tabOf_get _ _ hi]
  · rw [List.getElem?_eq_none (by rw [tabAt_len]; omega), List.getElem?_eq_none (by rw [tabOf_len]; omega)]

theorem ret_ow {f : XE} {σ : List Slot} {pl : Bool} {xs : List PV} (h : f σ = some (.ow pl xs)) : xRet f σ = some (.ret (.list xs), σ) := by
  unfold xRet; rw [h]

theorem table_run (l : List Nat) (hl : l.length < 1000) : f_generate_overlap_table [.str (S l)] = some (.list (tabOf l)) := by
  have start : f_generate_overlap_table [.str (S l)] = match g_generate_overlap_table [.fz (.str (S l)), .un, .un, .un] with | some (.ret p, _) => some p | _ => .none := rfl
  have e1 : xAsgO 1 (xRepl (xList (xACons (xLit (.int 0)) xANil)) (xCallB pLen (xACons (xVar 0) xANil))) [.fz (.str (S l)), .un, .un, .un] =
      some (.next, [.fz (.str (S l)), .ow true (tabAt (wof l) l.length 1), .un, .un]) := by
    rw [ev_asgO, run_repl (p := .int 0) (n := l.length) (run_list1 (r := .fz (.int 0)) rfl rfl) (by simp only [ev_callB, ev_aCons, ev_aNil, ev_var, Option.bind_some, Option.bind_none, sl_fz, sl_ow, sl_fr, st_fz, st_fr, sc_int, sc_bool, sc_str, sc_none, sc_list, List.getElem?_cons_zero, List.getElem?_cons_succ, List.set_cons_zero, List.set_cons_succ, p_eqI, p_neI, p_ltI, p_gtI, p_addI, p_subI, p_itemL, p_partN, p_partI, p_bool, p_truthN, p_truthB, p_truthI, p_lenL, p_min2, p_max2, p_abs, p_isBool, p_neg, p_cutL, p_revL, p_mul2l, p_mul2r, pCut_S, pRev_S, pItem_S, pEq_S, pNe_S, truth_S, pLen_S, List.map_cons, List.map_nil, Bool.false_eq_true, if_true, if_false, ite_true, ite_false, reduceIte, List.append_eq, List.nil_append, List.cons_append]) hl, tabAt_one (wof l)]
    simp only [Option.bind_some, Option.bind_none, sl_fz, sl_ow, sl_fr, st_fz, st_fr, sc_int, sc_bool, sc_str, sc_none, sc_list, List.getElem?_cons_zero, List.getElem?_cons_succ, List.set_cons_zero, List.set_cons_succ, p_eqI, p_neI, p_ltI, p_gtI, p_addI, p_subI, p_itemL, p_partN, p_partI, p_bool, p_truthN, p_truthB, p_truthI, p_lenL, p_min2, p_max2, p_abs, p_isBool, p_neg, p_cutL, p_revL, p_mul2l, p_mul2r, pCut_S, pRev_S, pItem_S, pEq_S, pNe_S, truth_S, pLen_S, List.map_cons, List.map_nil, Bool.false_eq_true, if_true, if_false, ite_true, ite_false, reduceIte, List.append_eq, List.nil_append, List.cons_append]
  have e2 : xRange2 (xLit (.int 1)) (xCallB pLen (xACons (xVar 0) xANil)) [.fz (.str (S l)), .ow true (tabAt (wof l) l.length 1), .un, .un] = some ((List.range' 1 (l.length - 1)).map fun j : Nat => PV.int (j : Nat)) :=
    run_range2 (a := 1) (b := l.length) rfl (by simp only [ev_callB, ev_aCons, ev_aNil, ev_var, Option.bind_some, Option.bind_none, sl_fz, sl_ow, sl_fr, st_fz, st_fr, sc_int, sc_bool, sc_str, sc_none, sc_list, List.getElem?_cons_zero, List.getElem?_cons_succ, List.set_cons_zero, List.set_cons_succ, p_eqI, p_neI, p_ltI, p_gtI, p_addI, p_subI, p_itemL, p_partN, p_partI, p_bool, p_truthN, p_truthB, p_truthI, p_lenL, p_min2, p_max2, p_abs, p_isBool, p_neg, p_cutL, p_revL, p_mul2l, p_mul2r, pCut_S, pRev_S, pItem_S, pEq_S, pNe_S, truth_S, pLen_S, List.map_cons, List.map_nil, Bool.false_eq_true, if_true, if_false, ite_true, ite_false, reduceIte, List.append_eq, List.nil_append, List.cons_append]) (by omega) hl
  rw [start]
  have e3 : ∃ σ', g_generate_overlap_table [.fz (.str (S l)), .un, .un, .un] = some (.ret (.list (tabOf l)), σ') := by
    by_cases h0 : l.length = 0
    · have hr : List.range' 1 (l.length - 1) = [] := by rw [h0]; rfl
      rw [hr] at e2
      rw [← tabAt_all l 1 (by omega)]
      exact ⟨_, (seq_next e1).trans ((seq_next ((for_run e2).trans (ev_forNil _ _ _))).trans (seq_ret (ret_ow (pl := true) rfl)))⟩
    · obtain ⟨t2, t3, pl', h4⟩ := kmp_for l hl (l.length - 1) 1 .un .un true (by omega) (by omega)
      rw [← tabAt_all l (1 + (l.length - 1)) (by omega)]
      exact ⟨_, (seq_next e1).trans ((seq_next ((for_run e2).trans h4)).trans (seq_ret (ret_ow (pl := pl') rfl)))⟩
  obtain ⟨σ', e3⟩ := e3
  rw [e3]
end Mine
end

section
open PySem
set_option Elab.async false
set_option linter.unusedSimpArgs false
set_option linter.unusedVariables false
namespace Mine

theorem run_callL {f : List PV → Option PV} {deep : Bool} {fs : XA} {σ : List Slot} {rs : List Slot} {xs : List PV} (h1 : fs σ = some rs) (h2 : f (rs.map Slot.pv) = some (.list xs)) (h3 : deep = true ∨ (xs.all fun x => x.scalar) = true) : xCall f deep fs σ = some (.fr false xs) := by
  rw [ev_call, h1, Option.bind_some, h2, Option.bind_some]
  exact if_pos h3
theorem run_callI {f : List PV → Option PV} {deep : Bool} {fs : XA} {σ : List Slot} {rs : List Slot} {n : Int} (h1 : fs σ = some rs) (h2 : f (rs.map Slot.pv) = some (.int n)) : xCall f deep fs σ = some (.fz (.int n)) := by
  rw [ev_call, h1, Option.bind_some, h2, Option.bind_some]
theorem run_callS {f : List PV → Option PV} {deep : Bool} {fs : XA} {σ : List Slot} {rs : List Slot} {n : Str} (h1 : fs σ = some rs) (h2 : f (rs.map Slot.pv) = some (.str n)) : xCall f deep fs σ = some (.fz (.str n)) := by
  rw [ev_call, h1, Option.bind_some, h2, Option.bind_some]

/-! all borders, one after another -/
noncomputable def chain (w : Nat → Nat) : Nat → Nat → List Nat
  | 0, _ => []
  | f + 1, s => if s = 0 then [] else s :: chain w f (tb w s)

theorem bd_tb {w : Nat → Nat} {s k : Nat} (hs : 0 < s) : Bd w s k ↔ k = tb w s ∨ Bd w (tb w s) k := by
  constructor
  · intro h
    have := tb_ge h
    by_cases e : k = tb w s
    · exact .inl e
    · exact .inr ((tb_bd hs).nest h (by omega))
  · rintro (rfl | h)
    · exact tb_bd hs
    · exact (tb_bd hs).trans h

theorem chain_mem {w : Nat → Nat} : ∀ (f s k : Nat), s < f → (k ∈ 0 :: chain w f s ↔ k = s ∨ Bd w s k)
  | 0, s, k, h => absurd h (by omega)
  | f + 1, s, k, h => by
    by_cases hs : s = 0
    · subst hs
      simp only [chain, if_true, List.mem_singleton]
      exact ⟨.inl, fun h => h.elim id fun h => absurd h.1 (by omega)⟩
    · have hlt := tb_lt (w := w) (m := s) (by omega)
      have ih := chain_mem (w := w) f (tb w s) k (by omega)
      simp only [chain, if_neg hs, List.mem_cons] at ih ⊢
      rw [bd_tb (by omega), ← ih]
      constructor
      · rintro (h | h | h)
        · exact .inr (.inl h)
        · exact .inl h
        · exact .inr (.inr h)
      · rintro (h | h | h)
        · exact .inr (.inl h)
        · exact .inl h
        · exact .inr (.inr h)
noncomputable def zs (l : List Nat) (m : Nat) : List Nat := 0 :: chain (wof l) 1000 (tb (wof l) m)
theorem zs_mem {l : List Nat} {m k : Nat} (hm : 0 < m) (hm2 : m < 1000) : k ∈ zs l m ↔ Bd (wof l) m k := by
  have hlt := tb_lt (w := wof l) hm
  unfold zs
  rw [chain_mem 1000 _ k (by omega), bd_tb hm]

noncomputable abbrev pvs (l : List Nat) : List PV := l.map fun k : Nat => PV.int (k : Nat)

noncomputable abbrev endT : XT := xT (xOp2 pGt (xVar 5) (xLit (.int 0))) pBool
noncomputable abbrev endB : XS := xSeq (xApp 6 (xVar 5)) (xSeq (xAsg 5 (xOp2 pItem (xVar 2) (xOp2 pSub (xVar 5) (xLit (.int 1))))) xNil)

theorem ends_loop (l : List Nat) (s0 s1 s3 s4 : Slot) : ∀ (fuel s : Nat) (acc : List Nat), s < fuel → s ≤ l.length → acc.length + s < 1000 →
    xWhile endT endB xNil fuel [s0, s1, .fz (.list (tabOf l)), s3, s4, .fz (.int (s : Nat)), .ow true (pvs acc)] =
      some (.next, [s0, s1, .fz (.list (tabOf l)), s3, s4, .fz (.int 0), .ow true (pvs (acc ++ chain (wof l) fuel s))]) := by
  intro fuel
  induction fuel with
  | zero => intro s acc h; omega
  | succ fuel ih =>
    intro s acc h hs hacc
    cases s with
    | zero =>
      rw [while_f (by simp only [ev_T, ev_op2, ev_var, ev_lit, Option.bind_some, Option.bind_none, sl_fz, sl_ow, sl_fr, st_fz, st_fr, sc_int, sc_bool, sc_str, sc_none, sc_list, List.getElem?_cons_zero, List.getElem?_cons_succ, List.set_cons_zero, List.set_cons_succ, p_eqI, p_neI, p_ltI, p_gtI, p_addI, p_subI, p_itemL, p_partN, p_partI, p_bool, p_truthN, p_truthB, p_truthI, p_lenL, p_min2, p_max2, p_abs, p_isBool, p_neg, p_cutL, p_revL, p_mul2l, p_mul2r, pCut_S, pRev_S, pItem_S, pEq_S, pNe_S, truth_S, pLen_S, List.map_cons, List.map_nil, Bool.false_eq_true, if_true, if_false, ite_true, ite_false, reduceIte, List.append_eq, List.nil_append, List.cons_append]; rfl), ev_nil]
      simp [chain]
    | succ k =>
      have hlt := tb_lt (w := wof l) (m := k + 1) (by omega)
      have ep : (0 : Int) < ((k + 1 : Nat) : Int) := by omega
      have em : ((k + 1 : Nat) : Int) - 1 = (k : Nat) := by omega
      rw [while_t (σ' := [s0, s1, .fz (.list (tabOf l)), s3, s4, .fz (.int (tb (wof l) (k + 1) : Nat)), .ow true (pvs (acc ++ [k + 1]))]) (by simp only [ev_T, ev_op2, ev_var, ev_lit, Option.bind_some, Option.bind_none, sl_fz, sl_ow, sl_fr, st_fz, st_fr, sc_int, sc_bool, sc_str, sc_none, sc_list, List.getElem?_cons_zero, List.getElem?_cons_succ, List.set_cons_zero, List.set_cons_succ, p_eqI, p_neI, p_ltI, p_gtI, p_addI, p_subI, p_itemL, p_partN, p_partI, p_bool, p_truthN, p_truthB, p_truthI, p_lenL, p_min2, p_max2, p_abs, p_isBool, p_neg, p_cutL, p_revL, p_mul2l, p_mul2r, pCut_S, pRev_S, pItem_S, pEq_S, pNe_S, truth_S, pLen_S, List.map_cons, List.map_nil, Bool.false_eq_true, if_true, if_false, ite_true, ite_false, reduceIte, List.append_eq, List.nil_append, List.cons_append, ep, decide_true])]
      · rw [ih (tb (wof l) (k + 1)) (acc ++ [k + 1]) (by omega) (by omega) (by rw [List.length_append]; simp only [List.length_singleton]; omega)]
        simp only [chain, List.append_assoc, List.singleton_append, Nat.add_eq_zero_iff, Nat.one_ne_zero, and_false, if_false]
      · refine (seq_next (run_app (r := .fz (.int ((k + 1 : Nat) : Int))) (xs := pvs acc) rfl rfl rfl (by simp only [List.length_map]; omega))).trans ((seq_next ?_).trans (ev_nil _))
        simp only [ev_asg, ev_op2, ev_var, ev_lit, Option.bind_some, Option.bind_none, sl_fz, sl_ow, sl_fr, st_fz, st_fr, sc_int, sc_bool, sc_str, sc_none, sc_list, List.getElem?_cons_zero, List.getElem?_cons_succ, List.set_cons_zero, List.set_cons_succ, p_eqI, p_neI, p_ltI, p_gtI, p_addI, p_subI, p_itemL, p_partN, p_partI, p_bool, p_truthN, p_truthB, p_truthI, p_lenL, p_min2, p_max2, p_abs, p_isBool, p_neg, p_cutL, p_revL, p_mul2l, p_mul2r, pCut_S, pRev_S, pItem_S, pEq_S, pNe_S, truth_S, pLen_S, List.map_cons, List.map_nil, Bool.false_eq_true, if_true, if_false, ite_true, ite_false, reduceIte, List.append_eq, List.nil_append, List.cons_append, em, pIdx_nat, tabOf_get l k (by omega), List.map_append]

noncomputable abbrev endF : XS := xSeq (xAsg 5 (xOp2 pItem (xVar 2) (xVar 4)))
      (xSeq (xAsgO 6 (xList (xACons (xLit (.int 0)) xANil)))
      (xSeq (xWhile endT endB xNil 1000)
      (xSeq (xAppO 3 6)
      xNil)))

theorem ends_for (l : List Nat) (hl : l.length < 900) (s0 s1 : Slot) (b : Nat) : ∀ (r c : Nat) (s4 s5 s6 : Slot), b + c + r = l.length →
    ∃ t4 t5 t6, xForL 4 endF ((List.range' (b + c) r).map fun j : Nat => PV.int (j : Nat)) [s0, s1, .fz (.list (tabOf l)), .ow true ((List.range c).map fun j => PV.list (pvs (zs l (b + j + 1)))), s4, s5, s6] =
      some (.next, [s0, s1, .fz (.list (tabOf l)), .ow true ((List.range (c + r)).map fun j => PV.list (pvs (zs l (b + j + 1)))), t4, t5, t6]) := by
  intro r
  induction r with
  | zero => intro c s4 s5 s6 h; exact ⟨s4, s5, s6, rfl⟩
  | succ r ih =>
    intro c s4 s5 s6 h
    have hlt := tb_lt (w := wof l) (m := b + c + 1) (by omega)
    have e1 : xAsg 5 (xOp2 pItem (xVar 2) (xVar 4)) [s0, s1, .fz (.list (tabOf l)), .ow true ((List.range c).map fun j => PV.list (pvs (zs l (b + j + 1)))), .fz (.int (b + c : Nat)), s5, s6] =
        some (.next, [s0, s1, .fz (.list (tabOf l)), .ow true ((List.range c).map fun j => PV.list (pvs (zs l (b + j + 1)))), .fz (.int (b + c : Nat)), .fz (.int (tb (wof l) (b + c + 1) : Nat)), s6]) := by
      simp only [ev_asg, ev_op2, ev_var, ev_lit, Option.bind_some, Option.bind_none, sl_fz, sl_ow, sl_fr, st_fz, st_fr, sc_int, sc_bool, sc_str, sc_none, sc_list, List.getElem?_cons_zero, List.getElem?_cons_succ, List.set_cons_zero, List.set_cons_succ, p_eqI, p_neI, p_ltI, p_gtI, p_addI, p_subI, p_itemL, p_partN, p_partI, p_bool, p_truthN, p_truthB, p_truthI, p_lenL, p_min2, p_max2, p_abs, p_isBool, p_neg, p_cutL, p_revL, p_mul2l, p_mul2r, pCut_S, pRev_S, pItem_S, pEq_S, pNe_S, truth_S, pLen_S, List.map_cons, List.map_nil, Bool.false_eq_true, if_true, if_false, ite_true, ite_false, reduceIte, List.append_eq, List.nil_append, List.cons_append, pIdx_nat, tabOf_get l (b + c) (by omega)]
    have e2 : xAsgO 6 (xList (xACons (xLit (.int 0)) xANil)) [s0, s1, .fz (.list (tabOf l)), .ow true ((List.range c).map fun j => PV.list (pvs (zs l (b + j + 1)))), .fz (.int (b + c : Nat)), .fz (.int (tb (wof l) (b + c + 1) : Nat)), s6] =
        some (.next, [s0, s1, .fz (.list (tabOf l)), .ow true ((List.range c).map fun j => PV.list (pvs (zs l (b + j + 1)))), .fz (.int (b + c : Nat)), .fz (.int (tb (wof l) (b + c + 1) : Nat)), .ow true (pvs [0])]) := by
      rw [ev_asgO, run_list1 (r := .fz (.int 0)) rfl rfl]; rfl
    have e3 := ends_loop l s0 s1 (.ow true ((List.range c).map fun j => PV.list (pvs (zs l (b + j + 1))))) (.fz (.int (b + c : Nat))) 1000 (tb (wof l) (b + c + 1)) [0] (by omega) (by omega) (by simp only [List.length_singleton]; omega)
    have e4 : xAppO 3 6 [s0, s1, .fz (.list (tabOf l)), .ow true ((List.range c).map fun j => PV.list (pvs (zs l (b + j + 1)))), .fz (.int (b + c : Nat)), .fz (.int 0), .ow true (pvs ([0] ++ chain (wof l) 1000 (tb (wof l) (b + c + 1))))] =
        some (.next, [s0, s1, .fz (.list (tabOf l)), .ow true ((List.range (c + 1)).map fun j => PV.list (pvs (zs l (b + j + 1)))), .fz (.int (b + c : Nat)), .fz (.int 0), .fz (.list (pvs (zs l (b + c + 1))))]) := by
      rw [run_appO (xs := (List.range c).map fun j => PV.list (pvs (zs l (b + j + 1)))) (ys := pvs ([0] ++ chain (wof l) 1000 (tb (wof l) (b + c + 1)))) (pl := true) rfl rfl (by decide) (by simp only [List.length_map, List.length_range]; omega)]
      rw [List.range_succ, List.map_append]
      rfl
    obtain ⟨t4, t5, t6, h4⟩ := ih (c + 1) (.fz (.int (b + c : Nat))) (.fz (.int 0)) (.fz (.list (pvs (zs l (b + c + 1))))) (by omega)
    refine ⟨t4, t5, t6, ?_⟩
    rw [List.range'_succ, List.map_cons, ev_forCons]
    simp only [List.set_cons_zero, List.set_cons_succ]
    have e5 : endF [s0, s1, .fz (.list (tabOf l)), .ow true ((List.range c).map fun j => PV.list (pvs (zs l (b + j + 1)))), .fz (.int (b + c : Nat)), s5, s6] =
        some (.next, [s0, s1, .fz (.list (tabOf l)), .ow true ((List.range (c + 1)).map fun j => PV.list (pvs (zs l (b + j + 1)))), .fz (.int (b + c : Nat)), .fz (.int 0), .fz (.list (pvs (zs l (b + c + 1))))]) :=
      (seq_next e1).trans ((seq_next e2).trans ((seq_next e3).trans ((seq_next e4).trans (ev_nil _))))
    rw [e5, Option.bind_some]
    have e6 : c + 1 + r = c + (r + 1) := by omega
    rw [e6] at h4
    exact h4

noncomputable def endsOf (a t : List Nat) : List PV := (List.range (t.length + 1)).map fun j => PV.list (pvs (zs (a ++ 124 :: t) (a.length + j + 1)))

theorem tabOf_scalar (l : List Nat) : ((tabOf l).all fun x => x.scalar) = true := by
  rw [List.all_eq_true]
  intro x hx
  unfold tabOf at hx
  obtain ⟨k, _, rfl⟩ := List.mem_map.mp hx
  rfl

theorem bar_S : ("|" : Str) = S [124] := by rfl

theorem ends_run (a t : List Nat) (ha : a.length ≤ 100) (ht : t.length ≤ 100) : f_law_ends [.str (S a), .str (S t)] = some (.list (endsOf a t)) := by
  have start : f_law_ends [.str (S a), .str (S t)] = match g_law_ends [.fz (.str (S a)), .fz (.str (S t)), .un, .un, .un, .un, .un] with | some (.ret p, _) => some p | _ => .none := rfl
  rw [start]
  have hlen : (a ++ 124 :: t).length = a.length + t.length + 1 := by simp; omega
  have e1 : xAsg 2 (xCall f_generate_overlap_table false (xACons (xOp2 pAdd (xOp2 pAdd (xVar 0) (xLit (.str "|"))) (xVar 1)) xANil)) [.fz (.str (S a)), .fz (.str (S t)), .un, .un, .un, .un, .un] =
      some (.next, [.fz (.str (S a)), .fz (.str (S t)), .fz (.list (tabOf (a ++ 124 :: t))), .un, .un, .un, .un]) := by
    have ea : xACons (xOp2 pAdd (xOp2 pAdd (xVar 0) (xLit (.str "|"))) (xVar 1)) xANil [.fz (.str (S a)), .fz (.str (S t)), .un, .un, .un, .un, .un] = some [.fz (.str (S (a ++ 124 :: t)))] := by
      simp only [ev_aCons, ev_aNil, ev_op2, ev_var, ev_lit, bar_S, Option.bind_some, Option.bind_none, sl_fz, sl_ow, sl_fr, st_fz, st_fr, sc_int, sc_bool, sc_str, sc_none, sc_list, List.getElem?_cons_zero, List.getElem?_cons_succ, List.set_cons_zero, List.set_cons_succ, p_eqI, p_neI, p_ltI, p_gtI, p_addI, p_subI, p_itemL, p_partN, p_partI, p_bool, p_truthN, p_truthB, p_truthI, p_lenL, p_min2, p_max2, p_abs, p_isBool, p_neg, p_cutL, p_revL, p_mul2l, p_mul2r, pCut_S, pRev_S, pItem_S, pEq_S, pNe_S, truth_S, pLen_S, List.map_cons, List.map_nil, Bool.false_eq_true, if_true, if_false, ite_true, ite_false, reduceIte, List.append_eq, List.nil_append, List.cons_append, pAdd_S a [124] (by simp only [List.length_singleton]; omega), pAdd_S (a ++ [124]) t (by simp only [List.length_append, List.length_singleton]; omega), List.append_assoc]
    rw [ev_asg, run_callL ea (table_run (a ++ 124 :: t) (by omega)) (.inr (tabOf_scalar _))]
    simp only [Option.bind_some, Option.bind_none, sl_fz, sl_ow, sl_fr, st_fz, st_fr, sc_int, sc_bool, sc_str, sc_none, sc_list, List.getElem?_cons_zero, List.getElem?_cons_succ, List.set_cons_zero, List.set_cons_succ, p_eqI, p_neI, p_ltI, p_gtI, p_addI, p_subI, p_itemL, p_partN, p_partI, p_bool, p_truthN, p_truthB, p_truthI, p_lenL, p_min2, p_max2, p_abs, p_isBool, p_neg, p_cutL, p_revL, p_mul2l, p_mul2r, pCut_S, pRev_S, pItem_S, pEq_S, pNe_S, truth_S, pLen_S, List.map_cons, List.map_nil, Bool.false_eq_true, if_true, if_false, ite_true, ite_false, reduceIte, List.append_eq, List.nil_append, List.cons_append]
  have e2 : xAsgO 3 (xList xANil) [.fz (.str (S a)), .fz (.str (S t)), .fz (.list (tabOf (a ++ 124 :: t))), .un, .un, .un, .un] = some (.next, [.fz (.str (S a)), .fz (.str (S t)), .fz (.list (tabOf (a ++ 124 :: t))), .ow true [], .un, .un, .un]) := by
    rw [ev_asgO, run_list0]; rfl
  have e3 : xRange2 (xCallB pLen (xACons (xVar 0) xANil)) (xCallB pLen (xACons (xVar 2) xANil)) [.fz (.str (S a)), .fz (.str (S t)), .fz (.list (tabOf (a ++ 124 :: t))), .ow true [], .un, .un, .un] = some ((List.range' a.length (a.length + t.length + 1 - a.length)).map fun j : Nat => PV.int (j : Nat)) :=
    run_range2 (by simp only [ev_callB, ev_aCons, ev_aNil, ev_var, Option.bind_some, Option.bind_none, sl_fz, sl_ow, sl_fr, st_fz, st_fr, sc_int, sc_bool, sc_str, sc_none, sc_list, List.getElem?_cons_zero, List.getElem?_cons_succ, List.set_cons_zero, List.set_cons_succ, p_eqI, p_neI, p_ltI, p_gtI, p_addI, p_subI, p_itemL, p_partN, p_partI, p_bool, p_truthN, p_truthB, p_truthI, p_lenL, p_min2, p_max2, p_abs, p_isBool, p_neg, p_cutL, p_revL, p_mul2l, p_mul2r, pCut_S, pRev_S, pItem_S, pEq_S, pNe_S, truth_S, pLen_S, List.map_cons, List.map_nil, Bool.false_eq_true, if_true, if_false, ite_true, ite_false, reduceIte, List.append_eq, List.nil_append, List.cons_append]) (by simp only [ev_callB, ev_aCons, ev_aNil, ev_var, Option.bind_some, Option.bind_none, sl_fz, sl_ow, sl_fr, st_fz, st_fr, sc_int, sc_bool, sc_str, sc_none, sc_list, List.getElem?_cons_zero, List.getElem?_cons_succ, List.set_cons_zero, List.set_cons_succ, p_eqI, p_neI, p_ltI, p_gtI, p_addI, p_subI, p_itemL, p_partN, p_partI, p_bool, p_truthN, p_truthB, p_truthI, p_lenL, p_min2, p_max2, p_abs, p_isBool, p_neg, p_cutL, p_revL, p_mul2l, p_mul2r, pCut_S, pRev_S, pItem_S, pEq_S, pNe_S, truth_S, pLen_S, List.map_cons, List.map_nil, Bool.false_eq_true, if_true, if_false, ite_true, ite_false, reduceIte, List.append_eq, List.nil_append, List.cons_append, tabOf_len, hlen]) (by omega) (by omega)
  obtain ⟨t4, t5, t6, h4⟩ := ends_for (a ++ 124 :: t) (by omega) (.fz (.str (S a))) (.fz (.str (S t))) a.length (t.length + 1) 0 .un .un .un (by omega)
  have hr : a.length + t.length + 1 - a.length = t.length + 1 := by omega
  rw [hr] at e3
  rw [Nat.zero_add] at h4
  have e5 : g_law_ends [.fz (.str (S a)), .fz (.str (S t)), .un, .un, .un, .un, .un] = some (.ret (.list (endsOf a t)), [.fz (.str (S a)), .fz (.str (S t)), .fz (.list (tabOf (a ++ 124 :: t))), .ow true (endsOf a t), t4, t5, t6]) :=
    (seq_next e1).trans ((seq_next e2).trans ((seq_next ((for_run e3).trans h4)).trans (seq_ret (ret_ow (pl := true) rfl))))
  rw [e5]

/-! what the borders of word + '|' + text tell -/
noncomputable def EndAt (a t : List Nat) (u k : Nat) : Prop := k ≤ a.length ∧ k ≤ u ∧ ∀ i, i < k → wof a i = wof t (u - k + i)

theorem wof_left {a r : List Nat} {i : Nat} (h : i < a.length) : wof (a ++ r) i = wof a i := by
  simp only [wof, List.getD_eq_getElem?_getD, List.getElem?_append_left h]
theorem wof_bar {a r : List Nat} : wof (a ++ 124 :: r) a.length = 124 := by
  simp only [wof, List.getD_eq_getElem?_getD, List.getElem?_append_right (Nat.le_refl _), Nat.sub_self]; rfl
theorem wof_right {a r : List Nat} {j : Nat} : wof (a ++ 124 :: r) (a.length + 1 + j) = wof r j := by
  simp only [wof, List.getD_eq_getElem?_getD]
  rw [List.getElem?_append_right (by omega)]
  have : a.length + 1 + j - a.length = j + 1 := by omega
  rw [this]; rfl
theorem wof_ne {a : List Nat} (h : 124 ∉ a) (i : Nat) : wof a i ≠ 124 := by
  simp only [wof, List.getD_eq_getElem?_getD]
  cases e : a[i]? with
  | none => simp
  | some x =>
    simp only [Option.getD_some]
    rintro rfl
    exact h (List.mem_of_getElem? e)

theorem bd_end {a t : List Nat} (ha : 124 ∉ a) (ht : 124 ∉ t) {u k : Nat} : Bd (wof (a ++ 124 :: t)) (a.length + u + 1) k ↔ EndAt a t u k := by
  constructor
  · rintro ⟨h1, h2⟩
    have hk : k ≤ a.length := by
      apply Classical.byContradiction
      intro hn
      have := h2 a.length (by omega)
      have e : a.length + u + 1 - k + a.length = a.length + 1 + (a.length + u - k) := by omega
      rw [wof_bar, e, wof_right] at this
      exact wof_ne ht _ this.symm
    have hu : k ≤ u := by
      apply Classical.byContradiction
      intro hn
      have := h2 (k - 1 - u) (by omega)
      have e : a.length + u + 1 - k + (k - 1 - u) = a.length := by omega
      rw [e, wof_bar, wof_left (by omega)] at this
      exact wof_ne ha _ this
    refine ⟨hk, hu, fun i hi => ?_⟩
    have := h2 i hi
    have e : a.length + u + 1 - k + i = a.length + 1 + (u - k + i) := by omega
    rw [e, wof_right, wof_left (by omega)] at this
    exact this
  · rintro ⟨h1, h2, h3⟩
    refine ⟨by omega, fun i hi => ?_⟩
    have e : a.length + u + 1 - k + i = a.length + 1 + (u - k + i) := by omega
    rw [e, wof_right, wof_left (by omega)]
    exact h3 i hi

theorem pInts_pvs : ∀ l : List Nat, pInts (pvs l) = some (l.map fun k : Nat => (k : Int))
  | [] => rfl
  | x :: xs => by
    have := pInts_pvs xs
    simp only [pvs, List.map_cons, pInts] at this ⊢
    rw [this]; rfl
theorem pIn_pvs (l : List Nat) (k : Nat) : pIn (.int (k : Nat)) (.list (pvs l)) = some (.bool (decide (k ∈ l))) := by
  show (pInts (pvs l)).map (fun ns => PV.bool (ns.any fun x => x == (k : Int))) = _
  rw [pInts_pvs]
  have : ((l.map fun k : Nat => (k : Int)).any fun x => x == (k : Int)) = decide (k ∈ l) := by
    induction l with
    | nil => simp
    | cons x xs ih =>
      rw [List.map_cons, List.any_cons, ih]
      by_cases h : x = k
      · subst h; simp
      · have h1 : ((x : Int) == (k : Int)) = false := by simp only [beq_eq_false_iff_ne, ne_eq]; omega
        rw [h1]
        simp [Ne.symm h]
  rw [Option.map_some, this]

theorem endsOf_len (a t : List Nat) : (endsOf a t).length = t.length + 1 := by simp [endsOf]
theorem endsOf_get (a t : List Nat) (u : Nat) (hu : u ≤ t.length) : (endsOf a t)[u]? = some (PV.list (pvs (zs (a ++ 124 :: t) (a.length + u + 1)))) := by
  unfold endsOf
  rw [List.getElem?_map, List.getElem?_range (by omega), Option.map_some]
theorem zs_end {a t : List Nat} (ha : 124 ∉ a) (ht : 124 ∉ t) {u k : Nat} (hl : a.length + u + 1 < 1000) : k ∈ zs (a ++ 124 :: t) (a.length + u + 1) ↔ EndAt a t u k := by
  rw [zs_mem (by omega) hl, bd_end ha ht]
end Mine
end

section
open PySem
set_option Elab.async false
set_option linter.unusedSimpArgs false
set_option linter.unusedVariables false
namespace Mine
open PyProof.Rows (lo1)

theorem wof_cons_succ (x : Nat) (xs : List Nat) (i : Nat) : wof (x :: xs) (i + 1) = wof xs i := by simp [wof]

theorem le_cpl : ∀ (a b : List Nat) (k : Nat), k ≤ cpl a b ↔ k ≤ a.length ∧ k ≤ b.length ∧ ∀ i, i < k → wof a i = wof b i
  | [], b, k => by
    simp only [cpl, List.length_nil]
    exact ⟨fun h => ⟨h, by omega, fun i hi => absurd hi (by omega)⟩, fun h => h.1⟩
  | x :: xs, [], k => by
    simp only [cpl, List.length_nil]
    exact ⟨fun h => ⟨by omega, h, fun i hi => absurd hi (by omega)⟩, fun h => h.2.1⟩
  | x :: xs, y :: ys, k => by
    cases k with
    | zero => exact ⟨fun _ => ⟨Nat.zero_le _, Nat.zero_le _, fun i hi => absurd hi (by omega)⟩, fun _ => Nat.zero_le _⟩
    | succ k =>
      have ih := le_cpl xs ys k
      simp only [cpl, List.length_cons]
      by_cases h : x = y
      · subst h
        rw [if_pos rfl, Nat.add_le_add_iff_right, Nat.add_le_add_iff_right, Nat.add_le_add_iff_right, ih]
        refine and_congr_right fun _ => and_congr_right fun _ => ⟨fun g i hi => ?_, fun g i hi => ?_⟩
        · cases i with
          | zero => rfl
          | succ i => rw [wof_cons_succ, wof_cons_succ]; exact g i (by omega)
        · have := g (i + 1) (by omega)
          rw [wof_cons_succ, wof_cons_succ] at this
          exact this
      · rw [if_neg h]
        refine ⟨fun g => absurd g (by omega), fun g => absurd (g.2.2 0 (by omega)) h⟩

noncomputable def suf (a b : List Nat) : Nat := cpl (a.drop (cpl a b)).reverse (b.drop (cpl a b)).reverse

theorem wof_drop (a : List Nat) (p i : Nat) : wof (a.drop p) i = wof a (p + i) := by
  simp only [wof, List.getD_eq_getElem?_getD, List.getElem?_drop]
theorem wof_rev {a : List Nat} {i : Nat} (h : i < a.length) : wof a.reverse i = wof a (a.length - 1 - i) := by
  simp only [wof, List.getD_eq_getElem?_getD, List.getElem?_reverse h]
theorem wof_take {a : List Nat} {n i : Nat} (h : i < n) : wof (a.take n) i = wof a i := by
  simp only [wof, List.getD_eq_getElem?_getD, List.getElem?_take, if_pos h]

theorem le_suf (a b : List Nat) (k : Nat) : k ≤ suf a b ↔ cpl a b + k ≤ a.length ∧ cpl a b + k ≤ b.length ∧ ∀ i, i < k → wof a (a.length - 1 - i) = wof b (b.length - 1 - i) := by
  have h0 := (le_cpl a b (cpl a b)).mp (Nat.le_refl _)
  unfold suf
  rw [le_cpl, List.length_reverse, List.length_reverse, List.length_drop, List.length_drop]
  generalize cpl a b = p at h0
  have key : ∀ i, i < k → k ≤ a.length - p → k ≤ b.length - p → wof (a.drop p).reverse i = wof a (a.length - 1 - i) ∧ wof (b.drop p).reverse i = wof b (b.length - 1 - i) := by
    intro i hi h1 h2
    rw [wof_rev (by rw [List.length_drop]; omega), wof_rev (by rw [List.length_drop]; omega), wof_drop, wof_drop, List.length_drop, List.length_drop]
    constructor <;> congr 1 <;> omega
  constructor
  · rintro ⟨h1, h2, h3⟩
    refine ⟨by omega, by omega, fun i hi => ?_⟩
    have := key i hi h1 h2
    rw [← this.1, ← this.2]; exact h3 i hi
  · rintro ⟨h1, h2, h3⟩
    refine ⟨by omega, by omega, fun i hi => ?_⟩
    have := key i hi (by omega) (by omega)
    rw [this.1, this.2]; exact h3 i hi

theorem strA_len (a b : List Nat) : (strA a b).length = a.length - cpl a b - suf a b := by
  unfold strA suf
  rw [List.length_take, List.length_drop]; omega
theorem strB_len (a b : List Nat) : (strB a b).length = b.length - cpl a b - suf a b := by
  unfold strB suf
  rw [List.length_take, List.length_drop]; omega

theorem near_iff (a b : List Nat) : max (strA a b).length (strB a b).length = 1 ↔ max a.length b.length = cpl a b + suf a b + 1 := by
  have := (le_suf a b (suf a b)).mp (Nat.le_refl _)
  rw [strA_len, strB_len]; omega

/-! _law_unlike -/
theorem ham_drop {a b : List Nat} {k : Nat} (ha : k < a.length) (hb : k < b.length) : ham (a.drop k) (b.drop k) = (if wof a k = wof b k then 0 else 1) + ham (a.drop (k + 1)) (b.drop (k + 1)) := by
  rw [List.drop_eq_getElem_cons ha, List.drop_eq_getElem_cons hb]
  have e1 : wof a k = a[k] := by have := wof_get ha; rw [List.getElem?_eq_getElem ha] at this; exact (Option.some.inj this).symm
  have e2 : wof b k = b[k] := by have := wof_get hb; rw [List.getElem?_eq_getElem hb] at this; exact (Option.some.inj this).symm
  rw [ham, e1, e2]

noncomputable def outOf (r : Option (Fl × List Slot)) : Option PV := match r with | some (.ret p, _) => some p | _ => .none
theorem fnOf_eq {n m : Nat} {g : XS} {ps : List PV} {σ : List Slot} (hl : ps.length = n) (hσ : ps.map Slot.fz ++ List.replicate (m - n) .un = σ) : fnOf n m g ps = outOf (g σ) := by
  show (if ps.length = n then outOf (g (ps.map Slot.fz ++ List.replicate (m - n) .un)) else none) = outOf (g σ)
  rw [if_pos hl, hσ]
noncomputable abbrev unT : XT := xT (xOp2 pNe (xOp2 pItem (xVar 0) (xVar 2)) (xOp2 pItem (xVar 1) (xVar 2))) pBool
theorem un_go (a b : List Nat) (hl : a.length = b.length) : ∀ (r k : Nat), k + r = a.length →
    ∃ l : List Nat, compGo (capIn [0, 1] [.fz (.str (S a)), .fz (.str (S b))]) unT (xVar 2) ((List.range' k r).map fun j : Nat => PV.int (j : Nat)) = some (pvs l) ∧ l.length = ham (a.drop k) (b.drop k) := by
  intro r
  induction r with
  | zero =>
    intro k hk
    refine ⟨[], rfl, ?_⟩
    rw [List.drop_eq_nil_of_le (by omega)]; rfl
  | succ r ih =>
    intro k hk
    obtain ⟨l, h1, h2⟩ := ih (k + 1) (by omega)
    have hka : k < a.length := by omega
    have hkb : k < b.length := by omega
    have ht : unT (capIn [0, 1] [.fz (.str (S a)), .fz (.str (S b))] (PV.int (k : Nat))) = some ([wof a k] != [wof b k]) := by
      show unT [.fz (.str (S a)), .fz (.str (S b)), .fz (PV.int (k : Nat))] = _
      simp only [ev_T, ev_op2, ev_var, Option.bind_some, Option.bind_none, sl_fz, sl_ow, sl_fr, st_fz, st_fr, sc_int, sc_bool, sc_str, sc_none, sc_list, List.getElem?_cons_zero, List.getElem?_cons_succ, List.set_cons_zero, List.set_cons_succ, p_eqI, p_neI, p_ltI, p_gtI, p_addI, p_subI, p_itemL, p_partN, p_partI, p_bool, p_truthN, p_truthB, p_truthI, p_lenL, p_min2, p_max2, p_abs, p_isBool, p_neg, p_cutL, p_revL, p_mul2l, p_mul2r, pCut_S, pRev_S, pItem_S, pEq_S, pNe_S, truth_S, pLen_S, List.map_cons, List.map_nil, Bool.false_eq_true, if_true, if_false, ite_true, ite_false, reduceIte, List.append_eq, List.nil_append, List.cons_append, pIdx_nat, wof_get hka, wof_get hkb]
    rw [List.range'_succ, List.map_cons, ham_drop hka hkb]
    by_cases he : wof a k = wof b k
    · have e0 : ([wof a k] != [wof b k]) = false := by rw [he]; simp
      rw [e0] at ht
      refine ⟨l, ?_, by rw [if_pos he, h2]; omega⟩
      rw [compGo, ht]; exact h1
    · have e0 : ([wof a k] != [wof b k]) = true := by simpa using he
      rw [e0] at ht
      refine ⟨k :: l, ?_, by rw [if_neg he, List.length_cons, h2]; omega⟩
      rw [compGo, ht]
      show (if (PV.int (k : Nat)).scalar = true then (compGo _ _ _ _).map (PV.int (k : Nat) :: ·) else none) = _
      rw [if_pos (sc_int _), h1]; rfl

theorem unlike_run (a b : List Nat) (hl : a.length = b.length) (ha : a.length < 900) : f_law_unlike [.str (S a), .str (S b)] = some (.int (ham a b : Nat)) := by
  have start : f_law_unlike [.str (S a), .str (S b)] = outOf (g_law_unlike [.fz (.str (S a)), .fz (.str (S b))]) := fnOf_eq rfl rfl
  rw [start]
  obtain ⟨l, h1, h2⟩ := un_go a b hl a.length 0 (by omega)
  have e : xComp [0, 1] (xRange1 (xCallB pLen (xACons (xVar 0) xANil))) unT (xVar 2) [.fz (.str (S a)), .fz (.str (S b))] = some (.fr true (pvs l)) := by
    refine run_comp (ps := (List.range' 0 a.length).map fun j : Nat => PV.int (j : Nat)) (run_range1 (by simp only [ev_callB, ev_aCons, ev_aNil, ev_var, Option.bind_some, Option.bind_none, sl_fz, sl_ow, sl_fr, st_fz, st_fr, sc_int, sc_bool, sc_str, sc_none, sc_list, List.getElem?_cons_zero, List.getElem?_cons_succ, List.set_cons_zero, List.set_cons_succ, p_eqI, p_neI, p_ltI, p_gtI, p_addI, p_subI, p_itemL, p_partN, p_partI, p_bool, p_truthN, p_truthB, p_truthI, p_lenL, p_min2, p_max2, p_abs, p_isBool, p_neg, p_cutL, p_revL, p_mul2l, p_mul2r, pCut_S, pRev_S, pItem_S, pEq_S, pNe_S, truth_S, pLen_S, List.map_cons, List.map_nil, Bool.false_eq_true, if_true, if_false, ite_true, ite_false, reduceIte, List.append_eq, List.nil_append, List.cons_append]) (by omega)) h1 ?_ (by simp only [List.length_map, List.length_range']; omega)
    rw [List.all_eq_true]
    intro x hx
    obtain ⟨k, _, rfl⟩ := List.mem_map.mp hx
    rfl
  have e2 : g_law_unlike [.fz (.str (S a)), .fz (.str (S b))] = some (.ret (.int (ham a b : Nat)), [.fz (.str (S a)), .fz (.str (S b))]) := by
    refine seq_ret (ret_run ?_ rfl)
    rw [ev_callB, ev_aCons]
    have e' := e
    unfold unT at e'
    rw [e']
    simp only [ev_aNil, Option.bind_some, Option.bind_none, sl_fz, sl_ow, sl_fr, st_fz, st_fr, sc_int, sc_bool, sc_str, sc_none, sc_list, List.getElem?_cons_zero, List.getElem?_cons_succ, List.set_cons_zero, List.set_cons_succ, p_eqI, p_neI, p_ltI, p_gtI, p_addI, p_subI, p_itemL, p_partN, p_partI, p_bool, p_truthN, p_truthB, p_truthI, p_lenL, p_min2, p_max2, p_abs, p_isBool, p_neg, p_cutL, p_revL, p_mul2l, p_mul2r, pCut_S, pRev_S, pItem_S, pEq_S, pNe_S, truth_S, pLen_S, List.map_cons, List.map_nil, Bool.false_eq_true, if_true, if_false, ite_true, ite_false, reduceIte, List.append_eq, List.nil_append, List.cons_append, p_lenL, List.length_map, h2, List.drop_zero]
  rw [e2]; rfl

/-! _law_by_signs -/
noncomputable abbrev sgT1 : XT := xAnd (xT (xOp2 pLt (xVar 3) (xVar 2)) pBool) (xT (xOp2 pEq (xOp2 pItem (xVar 0) (xVar 3)) (xOp2 pItem (xVar 1) (xVar 3))) pBool)
noncomputable abbrev sgT2 : XT := xAnd (xT (xOp2 pLt (xOp2 pAdd (xVar 3) (xVar 4)) (xVar 2)) pBool) (xT (xOp2 pEq (xOp2 pItem (xVar 0) (xOp2 pSub (xOp1 pNeg (xLit (.int 1))) (xVar 4))) (xOp2 pItem (xVar 1) (xOp2 pSub (xOp1 pNeg (xLit (.int 1))) (xVar 4)))) pBool)

theorem sg_front (a b : List Nat) (s4 : Slot) : ∀ (fuel k : Nat), k ≤ cpl a b → cpl a b < fuel + k →
    xWhile sgT1 (xSeq (xAug 3 pAdd (xLit (.int 1))) xNil) xNil fuel [.fz (.str (S a)), .fz (.str (S b)), .fz (.int (min a.length b.length : Nat)), .fz (.int (k : Nat)), s4] =
      some (.next, [.fz (.str (S a)), .fz (.str (S b)), .fz (.int (min a.length b.length : Nat)), .fz (.int (cpl a b : Nat)), s4]) := by
  intro fuel
  induction fuel with
  | zero => intro k h1 h2; omega
  | succ fuel ih =>
    intro k h1 h2
    have hc := (le_cpl a b k).mp h1
    by_cases hs : k < min a.length b.length
    · have hs' : ((k : Nat) : Int) < ((min a.length b.length : Nat) : Int) := by omega
      have ht : sgT1 [.fz (.str (S a)), .fz (.str (S b)), .fz (.int (min a.length b.length : Nat)), .fz (.int (k : Nat)), s4] = some ([wof a k] == [wof b k]) := by
        simp only [ev_and, ev_T, ev_op2, ev_var, Option.bind_some, Option.bind_none, sl_fz, sl_ow, sl_fr, st_fz, st_fr, sc_int, sc_bool, sc_str, sc_none, sc_list, List.getElem?_cons_zero, List.getElem?_cons_succ, List.set_cons_zero, List.set_cons_succ, p_eqI, p_neI, p_ltI, p_gtI, p_addI, p_subI, p_itemL, p_partN, p_partI, p_bool, p_truthN, p_truthB, p_truthI, p_lenL, p_min2, p_max2, p_abs, p_isBool, p_neg, p_cutL, p_revL, p_mul2l, p_mul2r, pCut_S, pRev_S, pItem_S, pEq_S, pNe_S, truth_S, pLen_S, List.map_cons, List.map_nil, Bool.false_eq_true, if_true, if_false, ite_true, ite_false, reduceIte, List.append_eq, List.nil_append, List.cons_append, hs', decide_true, pIdx_nat, wof_get (l := a) (i := k) (by omega), wof_get (l := b) (i := k) (by omega)]
      by_cases he : wof a k = wof b k
      · have e0 : ([wof a k] == [wof b k]) = true := by rw [he]; simp
        rw [e0] at ht
        rw [while_t ht (σ' := [.fz (.str (S a)), .fz (.str (S b)), .fz (.int (min a.length b.length : Nat)), .fz (.int (k + 1 : Nat)), s4])]
        · refine ih (k + 1) ?_ (by omega)
          rw [le_cpl]
          refine ⟨by omega, by omega, fun i hi => ?_⟩
          by_cases hik : i < k
          · exact hc.2.2 i hik
          · have : i = k := by omega
            subst this; exact he
        · refine (seq_next ?_).trans (ev_nil _)
          simp only [ev_aug, ev_lit, Option.bind_some, Option.bind_none, sl_fz, sl_ow, sl_fr, st_fz, st_fr, sc_int, sc_bool, sc_str, sc_none, sc_list, List.getElem?_cons_zero, List.getElem?_cons_succ, List.set_cons_zero, List.set_cons_succ, p_eqI, p_neI, p_ltI, p_gtI, p_addI, p_subI, p_itemL, p_partN, p_partI, p_bool, p_truthN, p_truthB, p_truthI, p_lenL, p_min2, p_max2, p_abs, p_isBool, p_neg, p_cutL, p_revL, p_mul2l, p_mul2r, pCut_S, pRev_S, pItem_S, pEq_S, pNe_S, truth_S, pLen_S, List.map_cons, List.map_nil, Bool.false_eq_true, if_true, if_false, ite_true, ite_false, reduceIte, List.append_eq, List.nil_append, List.cons_append]; rfl
      · have e0 : ([wof a k] == [wof b k]) = false := by simpa using he
        rw [e0] at ht
        rw [while_f ht, ev_nil]
        have : ¬ k + 1 ≤ cpl a b := fun g => he (((le_cpl a b (k + 1)).mp g).2.2 k (by omega))
        have : cpl a b = k := by omega
        rw [this]
    · have hs' : ¬ ((k : Nat) : Int) < ((min a.length b.length : Nat) : Int) := by omega
      rw [while_f (by simp only [ev_and, ev_T, ev_op2, ev_var, Option.bind_some, Option.bind_none, sl_fz, sl_ow, sl_fr, st_fz, st_fr, sc_int, sc_bool, sc_str, sc_none, sc_list, List.getElem?_cons_zero, List.getElem?_cons_succ, List.set_cons_zero, List.set_cons_succ, p_eqI, p_neI, p_ltI, p_gtI, p_addI, p_subI, p_itemL, p_partN, p_partI, p_bool, p_truthN, p_truthB, p_truthI, p_lenL, p_min2, p_max2, p_abs, p_isBool, p_neg, p_cutL, p_revL, p_mul2l, p_mul2r, pCut_S, pRev_S, pItem_S, pEq_S, pNe_S, truth_S, pLen_S, List.map_cons, List.map_nil, Bool.false_eq_true, if_true, if_false, ite_true, ite_false, reduceIte, List.append_eq, List.nil_append, List.cons_append, hs', decide_false]), ev_nil]
      have hc2 := (le_cpl a b (cpl a b)).mp (Nat.le_refl _)
      have : cpl a b = k := by omega
      rw [this]

theorem sg_back (a b : List Nat) : ∀ (fuel k : Nat), k ≤ suf a b → suf a b < fuel + k →
    xWhile sgT2 (xSeq (xAug 4 pAdd (xLit (.int 1))) xNil) xNil fuel [.fz (.str (S a)), .fz (.str (S b)), .fz (.int (min a.length b.length : Nat)), .fz (.int (cpl a b : Nat)), .fz (.int (k : Nat))] =
      some (.next, [.fz (.str (S a)), .fz (.str (S b)), .fz (.int (min a.length b.length : Nat)), .fz (.int (cpl a b : Nat)), .fz (.int (suf a b : Nat))]) := by
  intro fuel
  induction fuel with
  | zero => intro k h1 h2; omega
  | succ fuel ih =>
    intro k h1 h2
    have hc := (le_suf a b k).mp h1
    have em : (-1 : Int) - (k : Nat) = -(k : Nat) - 1 := by omega
    by_cases hs : cpl a b + k < min a.length b.length
    · have hs' : ((cpl a b : Nat) : Int) + (k : Nat) < ((min a.length b.length : Nat) : Int) := by omega
      have ia : pIdx a (-((k : Nat) : Int) - 1) = some (wof a (a.length - 1 - k)) := by
        rw [pIdx_neg a k (by omega)]; exact wof_get (by omega)
      have ib : pIdx b (-((k : Nat) : Int) - 1) = some (wof b (b.length - 1 - k)) := by
        rw [pIdx_neg b k (by omega)]; exact wof_get (by omega)
      have ht : sgT2 [.fz (.str (S a)), .fz (.str (S b)), .fz (.int (min a.length b.length : Nat)), .fz (.int (cpl a b : Nat)), .fz (.int (k : Nat))] = some ([wof a (a.length - 1 - k)] == [wof b (b.length - 1 - k)]) := by
        simp only [ev_and, ev_T, ev_op1, ev_op2, ev_var, ev_lit, Option.bind_some, Option.bind_none, sl_fz, sl_ow, sl_fr, st_fz, st_fr, sc_int, sc_bool, sc_str, sc_none, sc_list, List.getElem?_cons_zero, List.getElem?_cons_succ, List.set_cons_zero, List.set_cons_succ, p_eqI, p_neI, p_ltI, p_gtI, p_addI, p_subI, p_itemL, p_partN, p_partI, p_bool, p_truthN, p_truthB, p_truthI, p_lenL, p_min2, p_max2, p_abs, p_isBool, p_neg, p_cutL, p_revL, p_mul2l, p_mul2r, pCut_S, pRev_S, pItem_S, pEq_S, pNe_S, truth_S, pLen_S, List.map_cons, List.map_nil, Bool.false_eq_true, if_true, if_false, ite_true, ite_false, reduceIte, List.append_eq, List.nil_append, List.cons_append, hs', decide_true, em, ia, ib]
      by_cases he : wof a (a.length - 1 - k) = wof b (b.length - 1 - k)
      · have e0 : ([wof a (a.length - 1 - k)] == [wof b (b.length - 1 - k)]) = true := by rw [he]; simp
        rw [e0] at ht
        rw [while_t ht (σ' := [.fz (.str (S a)), .fz (.str (S b)), .fz (.int (min a.length b.length : Nat)), .fz (.int (cpl a b : Nat)), .fz (.int (k + 1 : Nat))])]
        · refine ih (k + 1) ?_ (by omega)
          rw [le_suf]
          refine ⟨by omega, by omega, fun i hi => ?_⟩
          by_cases hik : i < k
          · exact hc.2.2 i hik
          · have : i = k := by omega
            subst this; exact he
        · refine (seq_next ?_).trans (ev_nil _)
          simp only [ev_aug, ev_lit, Option.bind_some, Option.bind_none, sl_fz, sl_ow, sl_fr, st_fz, st_fr, sc_int, sc_bool, sc_str, sc_none, sc_list, List.getElem?_cons_zero, List.getElem?_cons_succ, List.set_cons_zero, List.set_cons_succ, p_eqI, p_neI, p_ltI, p_gtI, p_addI, p_subI, p_itemL, p_partN, p_partI, p_bool, p_truthN, p_truthB, p_truthI, p_lenL, p_min2, p_max2, p_abs, p_isBool, p_neg, p_cutL, p_revL, p_mul2l, p_mul2r, pCut_S, pRev_S, pItem_S, pEq_S, pNe_S, truth_S, pLen_S, List.map_cons, List.map_nil, Bool.false_eq_true, if_true, if_false, ite_true, ite_false, reduceIte, List.append_eq, List.nil_append, List.cons_append]; rfl
      · have e0 : ([wof a (a.length - 1 - k)] == [wof b (b.length - 1 - k)]) = false := by simpa using he
        rw [e0] at ht
        rw [while_f ht, ev_nil]
        have : ¬ k + 1 ≤ suf a b := fun g => he (((le_suf a b (k + 1)).mp g).2.2 k (by omega))
        have : suf a b = k := by omega
        rw [this]
    · have hs' : ¬ ((cpl a b : Nat) : Int) + (k : Nat) < ((min a.length b.length : Nat) : Int) := by omega
      rw [while_f (by simp only [ev_and, ev_T, ev_op2, ev_var, Option.bind_some, Option.bind_none, sl_fz, sl_ow, sl_fr, st_fz, st_fr, sc_int, sc_bool, sc_str, sc_none, sc_list, List.getElem?_cons_zero, List.getElem?_cons_succ, List.set_cons_zero, List.set_cons_succ, p_eqI, p_neI, p_ltI, p_gtI, p_addI, p_subI, p_itemL, p_partN, p_partI, p_bool, p_truthN, p_truthB, p_truthI, p_lenL, p_min2, p_max2, p_abs, p_isBool, p_neg, p_cutL, p_revL, p_mul2l, p_mul2r, pCut_S, pRev_S, pItem_S, pEq_S, pNe_S, truth_S, pLen_S, List.map_cons, List.map_nil, Bool.false_eq_true, if_true, if_false, ite_true, ite_false, reduceIte, List.append_eq, List.nil_append, List.cons_append, hs', decide_false]), ev_nil]
      have hc2 := (le_suf a b (suf a b)).mp (Nat.le_refl _)
      have : suf a b = k := by omega
      rw [this]

theorem min_pick (x y : Int) : (if y < x then y else x) = min x y := by omega
theorem max_pick (x y : Int) : (if y > x then y else x) = max x y := by omega

theorem signs_run (a b : List Nat) (ha : As a) (hb : As b) (hal : a.length ≤ 40) (hbl : b.length ≤ 40) : f_law_by_signs [.str (S a), .str (S b)] = some (.int (dueOf a b)) := by
  have start : f_law_by_signs [.str (S a), .str (S b)] = match g_law_by_signs [.fz (.str (S a)), .fz (.str (S b)), .un, .un, .un] with | some (.ret p, _) => some p | _ => .none := rfl
  rw [start]
  have ht : xT (xOp2 pEq (xOp1 pLower (xVar 0)) (xOp1 pLower (xVar 1))) pBool [.fz (.str (S a)), .fz (.str (S b)), .un, .un, .un] = some (a.map lo1 == b.map lo1) := by
    simp only [ev_T, ev_op1, ev_op2, ev_var, pLower_S ha (by omega), pLower_S hb (by omega), Option.bind_some, Option.bind_none, sl_fz, sl_ow, sl_fr, st_fz, st_fr, sc_int, sc_bool, sc_str, sc_none, sc_list, List.getElem?_cons_zero, List.getElem?_cons_succ, List.set_cons_zero, List.set_cons_succ, p_eqI, p_neI, p_ltI, p_gtI, p_addI, p_subI, p_itemL, p_partN, p_partI, p_bool, p_truthN, p_truthB, p_truthI, p_lenL, p_min2, p_max2, p_abs, p_isBool, p_neg, p_cutL, p_revL, p_mul2l, p_mul2r, pCut_S, pRev_S, pItem_S, pEq_S, pNe_S, truth_S, pLen_S, List.map_cons, List.map_nil, Bool.false_eq_true, if_true, if_false, ite_true, ite_false, reduceIte, List.append_eq, List.nil_append, List.cons_append]
  unfold dueOf
  by_cases hlow : a.map lo1 = b.map lo1
  · have e0 : (a.map lo1 == b.map lo1) = true := by rw [hlow]; simp
    rw [e0] at ht
    rw [if_pos hlow]
    have e : g_law_by_signs [.fz (.str (S a)), .fz (.str (S b)), .un, .un, .un] = some (.ret (.int (min 3 (ham a b : Nat))), [.fz (.str (S a)), .fz (.str (S b)), .un, .un, .un]) := by
      refine seq_ret ((if_t ht).trans (seq_ret (ret_run ?_ rfl)))
      have ec : xCall f_law_unlike false (xACons (xVar 0) (xACons (xVar 1) xANil)) [.fz (.str (S a)), .fz (.str (S b)), .un, .un, .un] = some (.fz (.int (ham a b : Nat))) :=
        run_callI rfl (unlike_run a b (len_of_map hlow) (by omega))
      rw [ev_callB, ev_aCons, ev_lit, Option.bind_some, ev_aCons, ec]
      simp only [ev_aNil, Option.bind_some, Option.bind_none, sl_fz, sl_ow, sl_fr, st_fz, st_fr, sc_int, sc_bool, sc_str, sc_none, sc_list, List.getElem?_cons_zero, List.getElem?_cons_succ, List.set_cons_zero, List.set_cons_succ, p_eqI, p_neI, p_ltI, p_gtI, p_addI, p_subI, p_itemL, p_partN, p_partI, p_bool, p_truthN, p_truthB, p_truthI, p_lenL, p_min2, p_max2, p_abs, p_isBool, p_neg, p_cutL, p_revL, p_mul2l, p_mul2r, pCut_S, pRev_S, pItem_S, pEq_S, pNe_S, truth_S, pLen_S, List.map_cons, List.map_nil, Bool.false_eq_true, if_true, if_false, ite_true, ite_false, reduceIte, List.append_eq, List.nil_append, List.cons_append, min_pick]
    rw [e]
  · have e0 : (a.map lo1 == b.map lo1) = false := by simpa using hlow
    rw [e0] at ht
    rw [if_neg hlow]
    have e2 : xAsg 2 (xCallB pMin2 (xACons (xCallB pLen (xACons (xVar 0) xANil)) (xACons (xCallB pLen (xACons (xVar 1) xANil)) xANil))) [.fz (.str (S a)), .fz (.str (S b)), .un, .un, .un] =
        some (.next, [.fz (.str (S a)), .fz (.str (S b)), .fz (.int (min a.length b.length : Nat)), .un, .un]) := by
      have em : min (a.length : Int) (b.length : Int) = ((min a.length b.length : Nat) : Int) := by omega
      simp only [ev_asg, ev_callB, ev_aCons, ev_aNil, ev_var, Option.bind_some, Option.bind_none, sl_fz, sl_ow, sl_fr, st_fz, st_fr, sc_int, sc_bool, sc_str, sc_none, sc_list, List.getElem?_cons_zero, List.getElem?_cons_succ, List.set_cons_zero, List.set_cons_succ, p_eqI, p_neI, p_ltI, p_gtI, p_addI, p_subI, p_itemL, p_partN, p_partI, p_bool, p_truthN, p_truthB, p_truthI, p_lenL, p_min2, p_max2, p_abs, p_isBool, p_neg, p_cutL, p_revL, p_mul2l, p_mul2r, pCut_S, pRev_S, pItem_S, pEq_S, pNe_S, truth_S, pLen_S, List.map_cons, List.map_nil, Bool.false_eq_true, if_true, if_false, ite_true, ite_false, reduceIte, List.append_eq, List.nil_append, List.cons_append, min_pick, em]
    have e3 : xAsg 3 (xLit (.int 0)) [.fz (.str (S a)), .fz (.str (S b)), .fz (.int (min a.length b.length : Nat)), .un, .un] = some (.next, [.fz (.str (S a)), .fz (.str (S b)), .fz (.int (min a.length b.length : Nat)), .fz (.int (0 : Nat)), .un]) := rfl
    have hc2 := (le_cpl a b (cpl a b)).mp (Nat.le_refl _)
    have hs2 := (le_suf a b (suf a b)).mp (Nat.le_refl _)
    have e4 := sg_front a b .un 1000 0 (Nat.zero_le _) (by omega)
    have e5 : xAsg 4 (xLit (.int 0)) [.fz (.str (S a)), .fz (.str (S b)), .fz (.int (min a.length b.length : Nat)), .fz (.int (cpl a b : Nat)), .un] = some (.next, [.fz (.str (S a)), .fz (.str (S b)), .fz (.int (min a.length b.length : Nat)), .fz (.int (cpl a b : Nat)), .fz (.int (0 : Nat))]) := rfl
    have e6 := sg_back a b 1000 0 (Nat.zero_le _) (by omega)
    have er : xIte (xT (xOp2 pEq (xOp2 pSub (xOp2 pSub (xCallB pMax2 (xACons (xCallB pLen (xACons (xVar 0) xANil)) (xACons (xCallB pLen (xACons (xVar 1) xANil)) xANil))) (xVar 3)) (xVar 4)) (xLit (.int 1))) pBool) (xLit (.int 2)) (xLit (.int 3))
        [.fz (.str (S a)), .fz (.str (S b)), .fz (.int (min a.length b.length : Nat)), .fz (.int (cpl a b : Nat)), .fz (.int (suf a b : Nat))] = some (.fz (.int (if max (strA a b).length (strB a b).length = 1 then 2 else 3))) := by
      have hn := near_iff a b
      by_cases h1 : max (strA a b).length (strB a b).length = 1
      · have g : max (a.length : Int) (b.length : Int) - (cpl a b : Nat) - (suf a b : Nat) = 1 := by have := hn.mp h1; omega
        rw [if_pos h1]
        simp only [ev_ite, ev_T, ev_op2, ev_callB, ev_aCons, ev_aNil, ev_var, ev_lit, Option.bind_some, Option.bind_none, sl_fz, sl_ow, sl_fr, st_fz, st_fr, sc_int, sc_bool, sc_str, sc_none, sc_list, List.getElem?_cons_zero, List.getElem?_cons_succ, List.set_cons_zero, List.set_cons_succ, p_eqI, p_neI, p_ltI, p_gtI, p_addI, p_subI, p_itemL, p_partN, p_partI, p_bool, p_truthN, p_truthB, p_truthI, p_lenL, p_min2, p_max2, p_abs, p_isBool, p_neg, p_cutL, p_revL, p_mul2l, p_mul2r, pCut_S, pRev_S, pItem_S, pEq_S, pNe_S, truth_S, pLen_S, List.map_cons, List.map_nil, Bool.false_eq_true, if_true, if_false, ite_true, ite_false, reduceIte, List.append_eq, List.nil_append, List.cons_append, max_pick, g, BEq.rfl]
      · have g : (max (a.length : Int) (b.length : Int) - (cpl a b : Nat) - (suf a b : Nat) == 1) = false := by
          have := mt hn.mpr h1
          simp only [beq_eq_false_iff_ne, ne_eq]; omega
        rw [if_neg h1]
        simp only [ev_ite, ev_T, ev_op2, ev_callB, ev_aCons, ev_aNil, ev_var, ev_lit, Option.bind_some, Option.bind_none, sl_fz, sl_ow, sl_fr, st_fz, st_fr, sc_int, sc_bool, sc_str, sc_none, sc_list, List.getElem?_cons_zero, List.getElem?_cons_succ, List.set_cons_zero, List.set_cons_succ, p_eqI, p_neI, p_ltI, p_gtI, p_addI, p_subI, p_itemL, p_partN, p_partI, p_bool, p_truthN, p_truthB, p_truthI, p_lenL, p_min2, p_max2, p_abs, p_isBool, p_neg, p_cutL, p_revL, p_mul2l, p_mul2r, pCut_S, pRev_S, pItem_S, pEq_S, pNe_S, truth_S, pLen_S, List.map_cons, List.map_nil, Bool.false_eq_true, if_true, if_false, ite_true, ite_false, reduceIte, List.append_eq, List.nil_append, List.cons_append, max_pick, g]
    have e : ∃ σ', g_law_by_signs [.fz (.str (S a)), .fz (.str (S b)), .un, .un, .un] = some (.ret (.int (if max (strA a b).length (strB a b).length = 1 then 2 else 3)), σ') :=
      ⟨_, (seq_next ((if_f ht).trans (ev_nil _))).trans ((seq_next e2).trans ((seq_next e3).trans ((seq_next e4).trans ((seq_next e5).trans ((seq_next e6).trans (seq_ret (ret_run er rfl)))))))⟩
    obtain ⟨σ', e⟩ := e
    rw [e]
end Mine
end

section
open PySem
set_option Elab.async false
set_option linter.unusedSimpArgs false
set_option linter.unusedVariables false
namespace Mine
open PyProof.Rows (lo1)

noncomputable def partOf (t : List Nat) (f l : Nat) : List Nat := (t.take l).drop f
theorem partOf_len {t : List Nat} {f l : Nat} (hl : l ≤ t.length) : (partOf t f l).length = l - f := by
  unfold partOf; rw [List.length_drop, List.length_take]; omega
theorem partOf_at {t : List Nat} {f l i : Nat} (h : f + i < l) : wof (partOf t f l) i = wof t (f + i) := by
  unfold partOf; rw [wof_drop, wof_take h]

theorem end_front {a t : List Nat} {f l j : Nat} (hfl : f ≤ l) (hl : l ≤ t.length) (hj : j ≤ l - f) : EndAt a t (f + j) j ↔ j ≤ a.length ∧ ∀ i, i < j → wof a i = wof (partOf t f l) i := by
  unfold EndAt
  constructor
  · rintro ⟨h1, h2, h3⟩
    refine ⟨h1, fun i hi => ?_⟩
    rw [partOf_at (by omega), h3 i hi]; congr 1; omega
  · rintro ⟨h1, h3⟩
    refine ⟨h1, by omega, fun i hi => ?_⟩
    rw [h3 i hi, partOf_at (by omega)]; congr 1; omega

theorem end_back {a t : List Nat} {f l b : Nat} (hfl : f ≤ l) (hl : l ≤ t.length) (hb : b ≤ l - f) : EndAt a.reverse t.reverse (t.length - (l - b)) b ↔ b ≤ a.length ∧ ∀ i, i < b → wof a (a.length - 1 - i) = wof (partOf t f l) ((partOf t f l).length - 1 - i) := by
  unfold EndAt
  rw [List.length_reverse, partOf_len hl]
  have key : ∀ i, i < b → wof t.reverse (t.length - (l - b) - b + i) = wof (partOf t f l) (l - f - 1 - i) := by
    intro i hi
    rw [wof_rev (by omega), partOf_at (by omega)]; congr 1; omega
  constructor
  · rintro ⟨h1, h2, h3⟩
    refine ⟨h1, fun i hi => ?_⟩
    rw [← key i hi, ← h3 i hi, wof_rev (by omega)]
  · rintro ⟨h1, h3⟩
    refine ⟨h1, by omega, fun i hi => ?_⟩
    rw [key i hi, ← h3 i hi, wof_rev (by omega)]

theorem wof_map {a : List Nat} {i : Nat} (h : i < a.length) : wof (a.map lo1) i = lo1 (wof a i) := by
  simp only [wof, List.getD_eq_getElem?_getD, List.getElem?_map, List.getElem?_eq_getElem h, Option.map_some, Option.getD_some]
theorem eq_of_wof {a b : List Nat} (hl : a.length = b.length) (h : ∀ i, i < a.length → wof a i = wof b i) : a = b := by
  apply List.ext_getElem hl
  intro i h1 h2
  have := h i h1
  have e1 := wof_get h1
  have e2 := wof_get h2
  rw [List.getElem?_eq_getElem h1] at e1
  rw [List.getElem?_eq_getElem h2] at e2
  rw [Option.some.inj e1, Option.some.inj e2, this]

theorem end_small {a t : List Nat} {f l : Nat} (hfl : f ≤ l) (hl : l ≤ t.length) (hs : (partOf t f l).length = a.length) : EndAt (a.map lo1) (t.map lo1) l a.length ↔ a.map lo1 = (partOf t f l).map lo1 := by
  have hp := partOf_len (f := f) hl
  unfold EndAt
  rw [List.length_map]
  constructor
  · rintro ⟨h1, h2, h3⟩
    apply eq_of_wof
    · rw [List.length_map, List.length_map, hs]
    · intro i hi
      rw [List.length_map] at hi
      rw [h3 i hi, wof_map (by omega), wof_map (by omega), partOf_at (by omega)]
      congr 2; omega
  · intro h
    refine ⟨Nat.le_refl _, by omega, fun i hi => ?_⟩
    rw [h, wof_map (by omega), wof_map (by omega), partOf_at (by omega)]
    congr 2; omega

theorem near_ex {a p : List Nat} (hne : a ≠ p) (hn : max a.length p.length - 1 ≤ min a.length p.length) (h0 : 1 ≤ max a.length p.length) :
    (∃ j, j < max a.length p.length - 1 + 1 ∧ (j ≤ a.length ∧ ∀ i, i < j → wof a i = wof p i) ∧ (max a.length p.length - 1 - j ≤ a.length ∧ ∀ i, i < max a.length p.length - 1 - j → wof a (a.length - 1 - i) = wof p (p.length - 1 - i))) ↔
      max (strA a p).length (strB a p).length = 1 := by
  rw [near_iff]
  have hc := (le_cpl a p (cpl a p)).mp (Nat.le_refl _)
  have hs := (le_suf a p (suf a p)).mp (Nat.le_refl _)
  constructor
  · rintro ⟨j, hj, ⟨h1, h2⟩, h3, h4⟩
    have g1 : j ≤ cpl a p := (le_cpl a p j).mpr ⟨h1, by omega, h2⟩
    have g2 : min (max a.length p.length - 1 - j) (min a.length p.length - cpl a p) ≤ suf a p := (le_suf a p _).mpr ⟨by omega, by omega, fun i hi => h4 i (by omega)⟩
    have g3 : ¬ (a.length = p.length ∧ cpl a p + suf a p = a.length) := by
      rintro ⟨e1, e2⟩
      apply hne
      apply eq_of_wof e1
      intro i hi
      by_cases hi2 : i < cpl a p
      · exact hc.2.2 i hi2
      · have := hs.2.2 (a.length - 1 - i) (by omega)
        have e3 : a.length - 1 - (a.length - 1 - i) = i := by omega
        have e4 : p.length - 1 - (a.length - 1 - i) = i := by omega
        rw [e3, e4] at this
        exact this
    omega
  · intro h
    refine ⟨cpl a p, by omega, ⟨hc.1, hc.2.2⟩, by omega, fun i hi => hs.2.2 i (by omega)⟩

/-! _law_by_tables -/
noncomputable abbrev btT : XT := xAnd (xT (xOp2 pIn (xVar 9) (xOp2 pItem (xVar 3) (xOp2 pAdd (xVar 2) (xVar 9)))) pBool) (xT (xOp2 pIn (xOp2 pSub (xVar 8) (xVar 9)) (xOp2 pItem (xVar 4) (xOp2 pAdd (xOp2 pSub (xVar 7) (xVar 8)) (xVar 9)))) pBool)
noncomputable abbrev btB : XS := xSeq (xIf btT (xSeq (xRet (xLit (.int 2))) xNil) xNil) xNil

noncomputable def BQ (a t : List Nat) (f l need j : Nat) : Prop := EndAt a t (f + j) j ∧ EndAt a.reverse t.reverse (t.length - (l - (need - j))) (need - j)

structure BtOk (a t : List Nat) (f l : Nat) : Prop where
  ba : 124 ∉ a
  bt : 124 ∉ t
  la : a.length ≤ 100
  lt : t.length ≤ 100
  fl : f ≤ l
  ll : l ≤ t.length

theorem bt_test {a t : List Nat} {f l : Nat} (K : BtOk a t f l) {need j : Nat} (hj : j ≤ need) (hn : need ≤ l - f) (s0 s1 s5 s6 : Slot) :
    ∃ b : Bool, (b = true ↔ BQ a t f l need j) ∧ btT [s0, s1, .fz (.int (f : Nat)), .fz (.list (endsOf a t)), .fz (.list (endsOf a.reverse t.reverse).reverse), s5, s6, .fz (.int (l : Nat)), .fz (.int (need : Nat)), .fz (.int (j : Nat))] = some b := by
  have hfl := K.fl
  have hll := K.ll
  have hla := K.la
  have hlt := K.lt
  have m1 : (j ∈ zs (a ++ 124 :: t) (a.length + (f + j) + 1)) ↔ EndAt a t (f + j) j := zs_end K.ba K.bt (by omega)
  have m2 : (need - j ∈ zs (a.reverse ++ 124 :: t.reverse) (a.reverse.length + (t.length - (l - (need - j))) + 1)) ↔ EndAt a.reverse t.reverse (t.length - (l - (need - j))) (need - j) :=
    zs_end (by rw [List.mem_reverse]; exact K.ba) (by rw [List.mem_reverse]; exact K.bt) (by rw [List.length_reverse]; omega)
  have i1 : (f : Int) + (j : Nat) = ((f + j : Nat) : Int) := by omega
  have i2 : (need : Int) - (j : Nat) = ((need - j : Nat) : Int) := by omega
  have i3 : (l : Int) - (need : Nat) + (j : Nat) = ((l - (need - j) : Nat) : Int) := by omega
  have g1 := endsOf_get a t (f + j) (by omega)
  have g2 : (endsOf a.reverse t.reverse).reverse[l - (need - j)]? = some (PV.list (pvs (zs (a.reverse ++ 124 :: t.reverse) (a.reverse.length + (t.length - (l - (need - j))) + 1)))) := by
    rw [List.getElem?_reverse (by rw [endsOf_len, List.length_reverse]; omega), endsOf_len, List.length_reverse]
    have : t.length + 1 - 1 - (l - (need - j)) = t.length - (l - (need - j)) := by omega
    rw [this]
    exact endsOf_get _ _ _ (by rw [List.length_reverse]; omega)
  refine ⟨decide (j ∈ zs (a ++ 124 :: t) (a.length + (f + j) + 1)) && decide (need - j ∈ zs (a.reverse ++ 124 :: t.reverse) (a.reverse.length + (t.length - (l - (need - j))) + 1)), ?_, ?_⟩
  · rw [Bool.and_eq_true, decide_eq_true_iff, decide_eq_true_iff, m1, m2]; rfl
  · simp only [ev_and, ev_T, ev_op2, ev_var, Option.bind_some, Option.bind_none, sl_fz, sl_ow, sl_fr, st_fz, st_fr, sc_int, sc_bool, sc_str, sc_none, sc_list, List.getElem?_cons_zero, List.getElem?_cons_succ, List.set_cons_zero, List.set_cons_succ, p_eqI, p_neI, p_ltI, p_gtI, p_addI, p_subI, p_itemL, p_partN, p_partI, p_bool, p_truthN, p_truthB, p_truthI, p_lenL, p_min2, p_max2, p_abs, p_isBool, p_neg, p_cutL, p_revL, p_mul2l, p_mul2r, pCut_S, pRev_S, pItem_S, pEq_S, pNe_S, truth_S, pLen_S, List.map_cons, List.map_nil, Bool.false_eq_true, if_true, if_false, ite_true, ite_false, reduceIte, List.append_eq, List.nil_append, List.cons_append, i1, i2, i3, pIdx_nat, g1, g2, pIn_pvs]
    cases decide (j ∈ zs (a ++ 124 :: t) (a.length + (f + j) + 1)) <;> simp

theorem bt_for {a t : List Nat} {f l : Nat} (K : BtOk a t f l) {need : Nat} (hn : need ≤ l - f) (s0 s1 s5 s6 : Slot) : ∀ (r k : Nat) (s9 : Slot), k + r = need + 1 →
    ((∃ j, k ≤ j ∧ j < need + 1 ∧ BQ a t f l need j) → ∃ σ', xForL 9 btB ((List.range' k r).map fun j : Nat => PV.int (j : Nat)) [s0, s1, .fz (.int (f : Nat)), .fz (.list (endsOf a t)), .fz (.list (endsOf a.reverse t.reverse).reverse), s5, s6, .fz (.int (l : Nat)), .fz (.int (need : Nat)), s9] = some (.ret (.int 2), σ')) ∧
    ((¬ ∃ j, k ≤ j ∧ j < need + 1 ∧ BQ a t f l need j) → ∃ t9, xForL 9 btB ((List.range' k r).map fun j : Nat => PV.int (j : Nat)) [s0, s1, .fz (.int (f : Nat)), .fz (.list (endsOf a t)), .fz (.list (endsOf a.reverse t.reverse).reverse), s5, s6, .fz (.int (l : Nat)), .fz (.int (need : Nat)), s9] =
      some (.next, [s0, s1, .fz (.int (f : Nat)), .fz (.list (endsOf a t)), .fz (.list (endsOf a.reverse t.reverse).reverse), s5, s6, .fz (.int (l : Nat)), .fz (.int (need : Nat)), t9])) := by
  intro r
  induction r with
  | zero =>
    intro k s9 hk
    exact ⟨fun ⟨j, h1, h2, _⟩ => absurd h1 (by omega), fun _ => ⟨s9, rfl⟩⟩
  | succ r ih =>
    intro k s9 hk
    obtain ⟨ih1, ih2⟩ := ih (k + 1) (.fz (.int (k : Nat))) (by omega)
    obtain ⟨b, hb, ht⟩ := bt_test K (need := need) (j := k) (by omega) hn s0 s1 s5 s6
    rw [List.range'_succ, List.map_cons, ev_forCons]
    simp only [List.set_cons_zero, List.set_cons_succ]
    cases b with
    | true =>
      have e : btB [s0, s1, .fz (.int (f : Nat)), .fz (.list (endsOf a t)), .fz (.list (endsOf a.reverse t.reverse).reverse), s5, s6, .fz (.int (l : Nat)), .fz (.int (need : Nat)), .fz (.int (k : Nat))] =
          some (.ret (.int 2), [s0, s1, .fz (.int (f : Nat)), .fz (.list (endsOf a t)), .fz (.list (endsOf a.reverse t.reverse).reverse), s5, s6, .fz (.int (l : Nat)), .fz (.int (need : Nat)), .fz (.int (k : Nat))]) :=
        seq_ret ((if_t ht).trans (seq_ret (ret_run rfl rfl)))
      rw [e, Option.bind_some]
      exact ⟨fun _ => ⟨_, rfl⟩, fun h => absurd ⟨k, Nat.le_refl _, by omega, hb.mp rfl⟩ h⟩
    | false =>
      have e : btB [s0, s1, .fz (.int (f : Nat)), .fz (.list (endsOf a t)), .fz (.list (endsOf a.reverse t.reverse).reverse), s5, s6, .fz (.int (l : Nat)), .fz (.int (need : Nat)), .fz (.int (k : Nat))] =
          some (.next, [s0, s1, .fz (.int (f : Nat)), .fz (.list (endsOf a t)), .fz (.list (endsOf a.reverse t.reverse).reverse), s5, s6, .fz (.int (l : Nat)), .fz (.int (need : Nat)), .fz (.int (k : Nat))]) :=
        (seq_next ((if_f ht).trans (ev_nil _))).trans (ev_nil _)
      rw [e, Option.bind_some]
      have hnk : ¬ BQ a t f l need k := fun h => Bool.false_ne_true (hb.mpr h)
      refine ⟨fun ⟨j, h1, h2, h3⟩ => ih1 ⟨j, ?_, h2, h3⟩, fun h => ih2 fun ⟨j, h1, h2, h3⟩ => h ⟨j, by omega, h2, h3⟩⟩
      have : j ≠ k := fun e => hnk (e ▸ h3)
      omega

theorem abs_pick (x : Int) : (if x < 0 then -x else x) = max x (-x) := by omega

theorem tables_run {a t : List Nat} {f l : Nat} (K : BtOk a t f l) (ha0 : 1 ≤ a.length) : f_law_by_tables [.str (S a), .str (S (partOf t f l)), .int (f : Nat), .list (endsOf a t), .list (endsOf a.reverse t.reverse).reverse, .list (endsOf (a.map lo1) (t.map lo1))] = some (.int (dueOf a (partOf t f l))) := by
  have hfl := K.fl
  have hll := K.ll
  have hla := K.la
  have hlt := K.lt
  have hp := partOf_len (f := f) hll
  have hlow124 : ∀ x : Nat, lo1 x = 124 → x = 124 := by intro x h; unfold PyProof.Rows.lo1 at h; split at h <;> omega
  have n1 : 124 ∉ a.map lo1 := fun h => by obtain ⟨x, hx, e⟩ := List.mem_map.mp h; exact K.ba (hlow124 x e ▸ hx)
  have n2 : 124 ∉ t.map lo1 := fun h => by obtain ⟨x, hx, e⟩ := List.mem_map.mp h; exact K.bt (hlow124 x e ▸ hx)
  generalize hP : partOf t f l = p at hp
  have hpl : p.length ≤ 100 := by omega
  let T : List Slot := [.fz (.list (endsOf a t)), .fz (.list (endsOf a.reverse t.reverse).reverse), .fz (.list (endsOf (a.map lo1) (t.map lo1)))]
  have start : f_law_by_tables [.str (S a), .str (S p), .int (f : Nat), .list (endsOf a t), .list (endsOf a.reverse t.reverse).reverse, .list (endsOf (a.map lo1) (t.map lo1))] =
      outOf (g_law_by_tables [.fz (.str (S a)), .fz (.str (S p)), .fz (.int (f : Nat)), .fz (.list (endsOf a t)), .fz (.list (endsOf a.reverse t.reverse).reverse), .fz (.list (endsOf (a.map lo1) (t.map lo1))), .un, .un, .un, .un]) := fnOf_eq rfl rfl
  have e1 : xAsg 6 (xCallB pLen (xACons (xVar 0) xANil)) [.fz (.str (S a)), .fz (.str (S p)), .fz (.int (f : Nat)), .fz (.list (endsOf a t)), .fz (.list (endsOf a.reverse t.reverse).reverse), .fz (.list (endsOf (a.map lo1) (t.map lo1))), .un, .un, .un, .un] =
      some (.next, [.fz (.str (S a)), .fz (.str (S p)), .fz (.int (f : Nat)), .fz (.list (endsOf a t)), .fz (.list (endsOf a.reverse t.reverse).reverse), .fz (.list (endsOf (a.map lo1) (t.map lo1))), .fz (.int (a.length : Nat)), .un, .un, .un]) := by
    simp only [ev_asg, ev_callB, ev_aCons, ev_aNil, ev_var, Option.bind_some, Option.bind_none, sl_fz, sl_ow, sl_fr, st_fz, st_fr, sc_int, sc_bool, sc_str, sc_none, sc_list, List.getElem?_cons_zero, List.getElem?_cons_succ, List.set_cons_zero, List.set_cons_succ, p_eqI, p_neI, p_ltI, p_gtI, p_addI, p_subI, p_itemL, p_partN, p_partI, p_bool, p_truthN, p_truthB, p_truthI, p_lenL, p_min2, p_max2, p_abs, p_isBool, p_neg, p_cutL, p_revL, p_mul2l, p_mul2r, pCut_S, pRev_S, pItem_S, pEq_S, pNe_S, truth_S, pLen_S, List.map_cons, List.map_nil, Bool.false_eq_true, if_true, if_false, ite_true, ite_false, reduceIte, List.append_eq, List.nil_append, List.cons_append]
  have e2 : xAsg 7 (xOp2 pAdd (xVar 2) (xCallB pLen (xACons (xVar 1) xANil))) [.fz (.str (S a)), .fz (.str (S p)), .fz (.int (f : Nat)), .fz (.list (endsOf a t)), .fz (.list (endsOf a.reverse t.reverse).reverse), .fz (.list (endsOf (a.map lo1) (t.map lo1))), .fz (.int (a.length : Nat)), .un, .un, .un] =
      some (.next, [.fz (.str (S a)), .fz (.str (S p)), .fz (.int (f : Nat)), .fz (.list (endsOf a t)), .fz (.list (endsOf a.reverse t.reverse).reverse), .fz (.list (endsOf (a.map lo1) (t.map lo1))), .fz (.int (a.length : Nat)), .fz (.int (l : Nat)), .un, .un]) := by
    have : (f : Int) + (p.length : Int) = (l : Nat) := by omega
    simp only [ev_asg, ev_op2, ev_callB, ev_aCons, ev_aNil, ev_var, Option.bind_some, Option.bind_none, sl_fz, sl_ow, sl_fr, st_fz, st_fr, sc_int, sc_bool, sc_str, sc_none, sc_list, List.getElem?_cons_zero, List.getElem?_cons_succ, List.set_cons_zero, List.set_cons_succ, p_eqI, p_neI, p_ltI, p_gtI, p_addI, p_subI, p_itemL, p_partN, p_partI, p_bool, p_truthN, p_truthB, p_truthI, p_lenL, p_min2, p_max2, p_abs, p_isBool, p_neg, p_cutL, p_revL, p_mul2l, p_mul2r, pCut_S, pRev_S, pItem_S, pEq_S, pNe_S, truth_S, pLen_S, List.map_cons, List.map_nil, Bool.false_eq_true, if_true, if_false, ite_true, ite_false, reduceIte, List.append_eq, List.nil_append, List.cons_append, this]
  rw [start]
  have hsm : ∀ s8 s9 : Slot, ∃ b : Bool, (b = true ↔ a.map lo1 = p.map lo1) ∧ xAnd (xT (xOp2 pEq (xCallB pLen (xACons (xVar 1) xANil)) (xVar 6)) pBool) (xT (xOp2 pIn (xVar 6) (xOp2 pItem (xVar 5) (xVar 7))) pBool)
      [.fz (.str (S a)), .fz (.str (S p)), .fz (.int (f : Nat)), .fz (.list (endsOf a t)), .fz (.list (endsOf a.reverse t.reverse).reverse), .fz (.list (endsOf (a.map lo1) (t.map lo1))), .fz (.int (a.length : Nat)), .fz (.int (l : Nat)), s8, s9] = some b := by
    intro s8 s9
    by_cases hs : p.length = a.length
    · have hs' : ((p.length : Int) == (a.length : Int)) = true := by simp only [beq_iff_eq]; omega
      have g := endsOf_get (a.map lo1) (t.map lo1) l (by rw [List.length_map]; exact hll)
      have m : (a.length ∈ zs (a.map lo1 ++ 124 :: t.map lo1) ((a.map lo1).length + l + 1)) ↔ EndAt (a.map lo1) (t.map lo1) l a.length := zs_end n1 n2 (by rw [List.length_map]; omega)
      refine ⟨decide (a.length ∈ zs (a.map lo1 ++ 124 :: t.map lo1) ((a.map lo1).length + l + 1)), ?_, ?_⟩
      · have es := end_small (a := a) hfl hll (by rw [hP]; exact hs)
        rw [hP] at es
        rw [decide_eq_true_iff, m, es]
      · simp only [ev_and, ev_T, ev_op2, ev_callB, ev_aCons, ev_aNil, ev_var, Option.bind_some, Option.bind_none, sl_fz, sl_ow, sl_fr, st_fz, st_fr, sc_int, sc_bool, sc_str, sc_none, sc_list, List.getElem?_cons_zero, List.getElem?_cons_succ, List.set_cons_zero, List.set_cons_succ, p_eqI, p_neI, p_ltI, p_gtI, p_addI, p_subI, p_itemL, p_partN, p_partI, p_bool, p_truthN, p_truthB, p_truthI, p_lenL, p_min2, p_max2, p_abs, p_isBool, p_neg, p_cutL, p_revL, p_mul2l, p_mul2r, pCut_S, pRev_S, pItem_S, pEq_S, pNe_S, truth_S, pLen_S, List.map_cons, List.map_nil, Bool.false_eq_true, if_true, if_false, ite_true, ite_false, reduceIte, List.append_eq, List.nil_append, List.cons_append, hs', pIdx_nat, g, pIn_pvs]
    · have hs' : ((p.length : Int) == (a.length : Int)) = false := by simp only [beq_eq_false_iff_ne, ne_eq]; omega
      refine ⟨false, ⟨fun h => absurd h (by decide), fun h => absurd (len_of_map h).symm hs⟩, ?_⟩
      simp only [ev_and, ev_T, ev_op2, ev_callB, ev_aCons, ev_aNil, ev_var, Option.bind_some, Option.bind_none, sl_fz, sl_ow, sl_fr, st_fz, st_fr, sc_int, sc_bool, sc_str, sc_none, sc_list, List.getElem?_cons_zero, List.getElem?_cons_succ, List.set_cons_zero, List.set_cons_succ, p_eqI, p_neI, p_ltI, p_gtI, p_addI, p_subI, p_itemL, p_partN, p_partI, p_bool, p_truthN, p_truthB, p_truthI, p_lenL, p_min2, p_max2, p_abs, p_isBool, p_neg, p_cutL, p_revL, p_mul2l, p_mul2r, pCut_S, pRev_S, pItem_S, pEq_S, pNe_S, truth_S, pLen_S, List.map_cons, List.map_nil, Bool.false_eq_true, if_true, if_false, ite_true, ite_false, reduceIte, List.append_eq, List.nil_append, List.cons_append, hs']
  obtain ⟨b, hb, ht⟩ := hsm .un .un
  unfold dueOf
  cases b with
  | true =>
    have hlow := hb.mp rfl
    rw [if_pos hlow]
    have ec : xCallB pMin2 (xACons (xLit (.int 3)) (xACons (xCall f_law_unlike false (xACons (xVar 0) (xACons (xVar 1) xANil))) xANil))
        [.fz (.str (S a)), .fz (.str (S p)), .fz (.int (f : Nat)), .fz (.list (endsOf a t)), .fz (.list (endsOf a.reverse t.reverse).reverse), .fz (.list (endsOf (a.map lo1) (t.map lo1))), .fz (.int (a.length : Nat)), .fz (.int (l : Nat)), .un, .un] = some (.fz (.int (min 3 (ham a p : Nat)))) := by
      have eu : xCall f_law_unlike false (xACons (xVar 0) (xACons (xVar 1) xANil))
          [.fz (.str (S a)), .fz (.str (S p)), .fz (.int (f : Nat)), .fz (.list (endsOf a t)), .fz (.list (endsOf a.reverse t.reverse).reverse), .fz (.list (endsOf (a.map lo1) (t.map lo1))), .fz (.int (a.length : Nat)), .fz (.int (l : Nat)), .un, .un] = some (.fz (.int (ham a p : Nat))) :=
        run_callI (rs := [.fz (.str (S a)), .fz (.str (S p))]) rfl (unlike_run a p (len_of_map hlow) (by omega))
      rw [ev_callB, ev_aCons, ev_lit, Option.bind_some, ev_aCons, eu]
      simp only [ev_aNil, Option.bind_some, Option.bind_none, sl_fz, sl_ow, sl_fr, st_fz, st_fr, sc_int, sc_bool, sc_str, sc_none, sc_list, List.getElem?_cons_zero, List.getElem?_cons_succ, List.set_cons_zero, List.set_cons_succ, p_eqI, p_neI, p_ltI, p_gtI, p_addI, p_subI, p_itemL, p_partN, p_partI, p_bool, p_truthN, p_truthB, p_truthI, p_lenL, p_min2, p_max2, p_abs, p_isBool, p_neg, p_cutL, p_revL, p_mul2l, p_mul2r, pCut_S, pRev_S, pItem_S, pEq_S, pNe_S, truth_S, pLen_S, List.map_cons, List.map_nil, Bool.false_eq_true, if_true, if_false, ite_true, ite_false, reduceIte, List.append_eq, List.nil_append, List.cons_append, min_pick]
    have e : ∃ σ', g_law_by_tables [.fz (.str (S a)), .fz (.str (S p)), .fz (.int (f : Nat)), .fz (.list (endsOf a t)), .fz (.list (endsOf a.reverse t.reverse).reverse), .fz (.list (endsOf (a.map lo1) (t.map lo1))), .un, .un, .un, .un] = some (.ret (.int (min 3 (ham a p : Nat))), σ') :=
      ⟨_, (seq_next e1).trans ((seq_next e2).trans (seq_ret ((if_t ht).trans (seq_ret (ret_run ec rfl)))))⟩
    obtain ⟨σ', e⟩ := e
    rw [e]; rfl
  | false =>
    have hlow : ¬ a.map lo1 = p.map lo1 := fun h => Bool.false_ne_true (hb.mpr h)
    rw [if_neg hlow]
    have hne : a ≠ p := fun h => hlow (by rw [h])
    by_cases hfar : 1 < max ((p.length : Int) - (a.length : Int)) (-((p.length : Int) - (a.length : Int)))
    · have e3 : ∃ σ', g_law_by_tables [.fz (.str (S a)), .fz (.str (S p)), .fz (.int (f : Nat)), .fz (.list (endsOf a t)), .fz (.list (endsOf a.reverse t.reverse).reverse), .fz (.list (endsOf (a.map lo1) (t.map lo1))), .un, .un, .un, .un] = some (.ret (.int 3), σ') := by
        refine ⟨_, (seq_next e1).trans ((seq_next e2).trans ((seq_next ((if_f ht).trans (ev_nil _))).trans (seq_ret ((if_t ?_).trans (seq_ret (ret_run rfl rfl))))))⟩
        simp only [ev_T, ev_op2, ev_callB, ev_aCons, ev_aNil, ev_var, ev_lit, Option.bind_some, Option.bind_none, sl_fz, sl_ow, sl_fr, st_fz, st_fr, sc_int, sc_bool, sc_str, sc_none, sc_list, List.getElem?_cons_zero, List.getElem?_cons_succ, List.set_cons_zero, List.set_cons_succ, p_eqI, p_neI, p_ltI, p_gtI, p_addI, p_subI, p_itemL, p_partN, p_partI, p_bool, p_truthN, p_truthB, p_truthI, p_lenL, p_min2, p_max2, p_abs, p_isBool, p_neg, p_cutL, p_revL, p_mul2l, p_mul2r, pCut_S, pRev_S, pItem_S, pEq_S, pNe_S, truth_S, pLen_S, List.map_cons, List.map_nil, Bool.false_eq_true, if_true, if_false, ite_true, ite_false, reduceIte, List.append_eq, List.nil_append, List.cons_append, abs_pick, hfar, decide_true]
      obtain ⟨σ', e⟩ := e3
      have hs := (le_suf a p (suf a p)).mp (Nat.le_refl _)
      rw [e, if_neg (by rw [near_iff]; omega)]; rfl
    · have e3 : xIf (xT (xOp2 pGt (xCallB pAbs (xACons (xOp2 pSub (xCallB pLen (xACons (xVar 1) xANil)) (xVar 6)) xANil)) (xLit (.int 1))) pBool) (xSeq (xRet (xLit (.int 3))) xNil) xNil
          [.fz (.str (S a)), .fz (.str (S p)), .fz (.int (f : Nat)), .fz (.list (endsOf a t)), .fz (.list (endsOf a.reverse t.reverse).reverse), .fz (.list (endsOf (a.map lo1) (t.map lo1))), .fz (.int (a.length : Nat)), .fz (.int (l : Nat)), .un, .un] =
          some (.next, [.fz (.str (S a)), .fz (.str (S p)), .fz (.int (f : Nat)), .fz (.list (endsOf a t)), .fz (.list (endsOf a.reverse t.reverse).reverse), .fz (.list (endsOf (a.map lo1) (t.map lo1))), .fz (.int (a.length : Nat)), .fz (.int (l : Nat)), .un, .un]) := by
        refine (if_f ?_).trans (ev_nil _)
        simp only [ev_T, ev_op2, ev_callB, ev_aCons, ev_aNil, ev_var, ev_lit, Option.bind_some, Option.bind_none, sl_fz, sl_ow, sl_fr, st_fz, st_fr, sc_int, sc_bool, sc_str, sc_none, sc_list, List.getElem?_cons_zero, List.getElem?_cons_succ, List.set_cons_zero, List.set_cons_succ, p_eqI, p_neI, p_ltI, p_gtI, p_addI, p_subI, p_itemL, p_partN, p_partI, p_bool, p_truthN, p_truthB, p_truthI, p_lenL, p_min2, p_max2, p_abs, p_isBool, p_neg, p_cutL, p_revL, p_mul2l, p_mul2r, pCut_S, pRev_S, pItem_S, pEq_S, pNe_S, truth_S, pLen_S, List.map_cons, List.map_nil, Bool.false_eq_true, if_true, if_false, ite_true, ite_false, reduceIte, List.append_eq, List.nil_append, List.cons_append, abs_pick, hfar, decide_false]
      have e4 : xAsg 8 (xOp2 pSub (xCallB pMax2 (xACons (xVar 6) (xACons (xCallB pLen (xACons (xVar 1) xANil)) xANil))) (xLit (.int 1)))
          [.fz (.str (S a)), .fz (.str (S p)), .fz (.int (f : Nat)), .fz (.list (endsOf a t)), .fz (.list (endsOf a.reverse t.reverse).reverse), .fz (.list (endsOf (a.map lo1) (t.map lo1))), .fz (.int (a.length : Nat)), .fz (.int (l : Nat)), .un, .un] =
          some (.next, [.fz (.str (S a)), .fz (.str (S p)), .fz (.int (f : Nat)), .fz (.list (endsOf a t)), .fz (.list (endsOf a.reverse t.reverse).reverse), .fz (.list (endsOf (a.map lo1) (t.map lo1))), .fz (.int (a.length : Nat)), .fz (.int (l : Nat)), .fz (.int (max a.length p.length - 1 : Nat)), .un]) := by
        have em : max (a.length : Int) (p.length : Int) - 1 = ((max a.length p.length - 1 : Nat) : Int) := by omega
        simp only [ev_asg, ev_op2, ev_callB, ev_aCons, ev_aNil, ev_var, ev_lit, Option.bind_some, Option.bind_none, sl_fz, sl_ow, sl_fr, st_fz, st_fr, sc_int, sc_bool, sc_str, sc_none, sc_list, List.getElem?_cons_zero, List.getElem?_cons_succ, List.set_cons_zero, List.set_cons_succ, p_eqI, p_neI, p_ltI, p_gtI, p_addI, p_subI, p_itemL, p_partN, p_partI, p_bool, p_truthN, p_truthB, p_truthI, p_lenL, p_min2, p_max2, p_abs, p_isBool, p_neg, p_cutL, p_revL, p_mul2l, p_mul2r, pCut_S, pRev_S, pItem_S, pEq_S, pNe_S, truth_S, pLen_S, List.map_cons, List.map_nil, Bool.false_eq_true, if_true, if_false, ite_true, ite_false, reduceIte, List.append_eq, List.nil_append, List.cons_append, max_pick, em]
      have e5 : xRange1 (xOp2 pAdd (xVar 8) (xLit (.int 1))) [.fz (.str (S a)), .fz (.str (S p)), .fz (.int (f : Nat)), .fz (.list (endsOf a t)), .fz (.list (endsOf a.reverse t.reverse).reverse), .fz (.list (endsOf (a.map lo1) (t.map lo1))), .fz (.int (a.length : Nat)), .fz (.int (l : Nat)), .fz (.int (max a.length p.length - 1 : Nat)), .un] =
          some ((List.range' 0 (max a.length p.length - 1 + 1)).map fun j : Nat => PV.int (j : Nat)) := by
        refine run_range1 ?_ (by omega)
        simp only [ev_op2, ev_var, ev_lit, Option.bind_some, Option.bind_none, sl_fz, sl_ow, sl_fr, st_fz, st_fr, sc_int, sc_bool, sc_str, sc_none, sc_list, List.getElem?_cons_zero, List.getElem?_cons_succ, List.set_cons_zero, List.set_cons_succ, p_eqI, p_neI, p_ltI, p_gtI, p_addI, p_subI, p_itemL, p_partN, p_partI, p_bool, p_truthN, p_truthB, p_truthI, p_lenL, p_min2, p_max2, p_abs, p_isBool, p_neg, p_cutL, p_revL, p_mul2l, p_mul2r, pCut_S, pRev_S, pItem_S, pEq_S, pNe_S, truth_S, pLen_S, List.map_cons, List.map_nil, Bool.false_eq_true, if_true, if_false, ite_true, ite_false, reduceIte, List.append_eq, List.nil_append, List.cons_append]; rfl
      have hq : (∃ j, 0 ≤ j ∧ j < max a.length p.length - 1 + 1 ∧ BQ a t f l (max a.length p.length - 1) j) ↔ max (strA a p).length (strB a p).length = 1 := by
        rw [← near_ex hne (by omega) (by omega)]
        constructor
        · rintro ⟨j, _, h2, h3, h4⟩
          rw [end_front hfl hll (by omega), hP] at h3
          rw [end_back hfl hll (by omega), hP] at h4
          exact ⟨j, h2, h3, h4⟩
        · rintro ⟨j, h2, h3, h4⟩
          refine ⟨j, Nat.zero_le _, h2, ?_, ?_⟩
          · rw [end_front hfl hll (by omega), hP]; exact h3
          · rw [end_back hfl hll (by omega), hP]; exact h4
      obtain ⟨f1, f2⟩ := bt_for K (need := max a.length p.length - 1) (by omega) (.fz (.str (S a))) (.fz (.str (S p))) (.fz (.list (endsOf (a.map lo1) (t.map lo1)))) (.fz (.int (a.length : Nat))) (max a.length p.length - 1 + 1) 0 .un (by omega)
      by_cases h1 : max (strA a p).length (strB a p).length = 1
      · obtain ⟨σ', h⟩ := f1 (hq.mpr h1)
        rw [if_pos h1]
        have e : g_law_by_tables [.fz (.str (S a)), .fz (.str (S p)), .fz (.int (f : Nat)), .fz (.list (endsOf a t)), .fz (.list (endsOf a.reverse t.reverse).reverse), .fz (.list (endsOf (a.map lo1) (t.map lo1))), .un, .un, .un, .un] = some (.ret (.int 2), σ') :=
          (seq_next e1).trans ((seq_next e2).trans ((seq_next ((if_f ht).trans (ev_nil _))).trans ((seq_next e3).trans ((seq_next e4).trans (seq_ret ((for_run e5).trans h))))))
        rw [e]; rfl
      · obtain ⟨t9, h⟩ := f2 (fun g => h1 (hq.mp g))
        rw [if_neg h1]
        have e : ∃ σ', g_law_by_tables [.fz (.str (S a)), .fz (.str (S p)), .fz (.int (f : Nat)), .fz (.list (endsOf a t)), .fz (.list (endsOf a.reverse t.reverse).reverse), .fz (.list (endsOf (a.map lo1) (t.map lo1))), .un, .un, .un, .un] = some (.ret (.int 3), σ') :=
          ⟨_, (seq_next e1).trans ((seq_next e2).trans ((seq_next ((if_f ht).trans (ev_nil _))).trans ((seq_next e3).trans ((seq_next e4).trans ((seq_next ((for_run e5).trans h)).trans (seq_ret (ret_run rfl rfl)))))))⟩
        obtain ⟨σ', e⟩ := e
        rw [e]; rfl
end Mine
end

section
open PySem
set_option Elab.async false
set_option linter.unusedSimpArgs false
set_option linter.unusedVariables false
namespace Mine
open PyProof.Rows (lo1)

theorem asg_of {k : Nat} {f : XE} {σ : List Slot} {r : Slot} {p : PV} (h : f σ = some r) (hp : r.still = some p) : xAsg k f σ = some (.next, σ.set k (.fz p)) := by
  rw [ev_asg, h, Option.bind_some, hp, Option.bind_some]
theorem rev_of {f : XE} {σ : List Slot} {r q : Slot} (h : f σ = some r) (h2 : pRev r.pv = some q) : xRev f σ = some q := by
  rw [ev_rev, h, Option.bind_some, h2]

noncomputable def sg (x : Int) : Nat := wof [97, 98, 97, 66] (x.fmod 4).toNat
noncomputable def tail10 : List Nat := [97, 98, 97, 98, 97, 66, 97, 98, 97, 97]
noncomputable def rowOf (ns : List Int) : List Nat := (ns.take 10).map sg ++ tail10.drop ((ns.take 10).map sg).length

theorem fmod4 (x : Int) : 0 ≤ x.fmod 4 ∧ x.fmod 4 < 4 := ⟨Int.fmod_nonneg_of_pos x (by decide), Int.fmod_lt_of_pos x (by decide)⟩
theorem abaB_S : ("abaB" : Str) = S [97, 98, 97, 66] := by rfl
theorem tail_S : ("ababaBabaa" : Str) = S tail10 := by rfl
theorem sg_idx (x : Int) : pIdx [97, 98, 97, 66] (x.fmod 4) = some (sg x) := by
  have h := fmod4 x
  have e : x.fmod 4 = (((x.fmod 4).toNat : Nat) : Int) := by omega
  rw [e, pIdx_nat]
  unfold sg
  rw [wof_get (by simp only [List.length_cons, List.length_nil]; omega)]
theorem p_mod4 (x : Int) : pMod (.int x) (.int 4) = some (.int (x.fmod 4)) := by
  show (if (4 : Int) = 0 then none else some (PV.int (x.fmod 4))) = _
  rw [if_neg (by decide)]
theorem p_mod2 (n : Nat) : pMod (.int (n : Nat)) (.int 2) = some (.int ((n % 2 : Nat) : Int)) := by
  show (if (2 : Int) = 0 then none else some (PV.int ((n : Int).fmod 2))) = _
  rw [if_neg (by decide), Int.fmod_eq_emod_of_nonneg _ (by decide)]
  rfl

noncomputable abbrev rwE : XE := xOp2 pItem (xLit (.str "abaB")) (xOp2 pMod (xVar 0) (xLit (.int 4)))
theorem row_go (σ : List Slot) : ∀ xs : List Int, compGo (capIn [] σ) xTrue rwE (xs.map PV.int) = some (xs.map fun x => PV.str (S [sg x]))
  | [] => rfl
  | x :: xs => by
    have ih := row_go σ xs
    have e : rwE (capIn [] σ (.int x)) = some (.fz (.str (S [sg x]))) := by
      show rwE [.fz (.int x)] = _
      simp only [ev_op2, ev_lit, ev_var, abaB_S, Option.bind_some, Option.bind_none, sl_fz, sl_ow, sl_fr, st_fz, st_fr, sc_int, sc_bool, sc_str, sc_none, sc_list, List.getElem?_cons_zero, List.getElem?_cons_succ, List.set_cons_zero, List.set_cons_succ, p_eqI, p_neI, p_ltI, p_gtI, p_addI, p_subI, p_itemL, p_partN, p_partI, p_bool, p_truthN, p_truthB, p_truthI, p_lenL, p_min2, p_max2, p_abs, p_isBool, p_neg, p_cutL, p_revL, p_mul2l, p_mul2r, pCut_S, pRev_S, pItem_S, pEq_S, pNe_S, truth_S, pLen_S, List.map_cons, List.map_nil, Bool.false_eq_true, if_true, if_false, ite_true, ite_false, reduceIte, List.append_eq, List.nil_append, List.cons_append, p_mod4, sg_idx]
    rw [List.map_cons, compGo, ev_true, e]
    show (if (PV.str (S [sg x])).scalar = true then (compGo _ _ _ _).map (PV.str (S [sg x]) :: ·) else none) = _
    rw [if_pos (sc_str _), ih]; rfl
theorem pStrs_map : ∀ xs : List Int, pStrs (xs.map fun x => PV.str (S [sg x])) = some (xs.map fun x => S [sg x])
  | [] => rfl
  | x :: xs => by rw [List.map_cons, pStrs, pStrs_map xs]; rfl
theorem catS_map (xs : List Int) : catS (xs.map fun x => S [sg x]) = S (xs.map sg) := by
  unfold catS S
  congr 2
  induction xs with
  | nil => rfl
  | cons x xs ih => rw [List.map_cons, List.map_cons, List.flatten_cons, ih, List.map_cons]; rfl
theorem join_map (xs : List Int) (h : xs.length ≤ 100) : pJoin (.str "") (.list (xs.map fun x => PV.str (S [sg x]))) = some (.str (S (xs.map sg))) := by
  have hs : ((xs.map fun x => S [sg x]).map (·.length)).sum = xs.length := by
    clear h
    induction xs with
    | nil => rfl
    | cons x xs ih => rw [List.map_cons, List.map_cons, List.sum_cons, ih, S_len, List.length_cons]; simp; omega
  show (if ("" : Str).length = 0 then match pStrs (xs.map fun x => PV.str (S [sg x])) with
      | some ts => if ((ts.map (·.length)).sum) ≤ 1048576 then some (PV.str (catS ts)) else none
      | none => none
    else none) = _
  rw [if_pos (show ("" : Str).length = 0 from rfl), pStrs_map]
  show (if (((xs.map fun x => S [sg x]).map (·.length)).sum) ≤ 1048576 then some (PV.str (catS (xs.map fun x => S [sg x]))) else none) = _
  rw [hs, if_pos (by omega), catS_map]

theorem row_run (ns : List Int) : f_law_row [.list (ns.map PV.int)] = some (.str (S (rowOf ns))) := by
  have start : f_law_row [.list (ns.map PV.int)] = outOf (g_law_row [.fz (.list (ns.map PV.int)), .un]) := fnOf_eq rfl rfl
  have hl : (ns.take 10).length ≤ 10 := by rw [List.length_take]; omega
  have ei : xItems (xCut (xVar 0) (xLit .none) (xLit (.int 10))) [.fz (.list (ns.map PV.int)), .un] = some ((ns.take 10).map PV.int) := by
    have e10 : sliceL (ns.map PV.int) .none (some 10) = (ns.map PV.int).take 10 := sliceL_upto _ 10
    simp only [ev_items, ev_cut, ev_var, ev_lit, Option.bind_some, Option.bind_none, sl_fz, sl_ow, sl_fr, st_fz, st_fr, sc_int, sc_bool, sc_str, sc_none, sc_list, List.getElem?_cons_zero, List.getElem?_cons_succ, List.set_cons_zero, List.set_cons_succ, p_eqI, p_neI, p_ltI, p_gtI, p_addI, p_subI, p_itemL, p_partN, p_partI, p_bool, p_truthN, p_truthB, p_truthI, p_lenL, p_min2, p_max2, p_abs, p_isBool, p_neg, p_cutL, p_revL, p_mul2l, p_mul2r, pCut_S, pRev_S, pItem_S, pEq_S, pNe_S, truth_S, pLen_S, List.map_cons, List.map_nil, Bool.false_eq_true, if_true, if_false, ite_true, ite_false, reduceIte, List.append_eq, List.nil_append, List.cons_append, e10, List.map_take]
  have ec : xComp [] (xItems (xCut (xVar 0) (xLit .none) (xLit (.int 10)))) xTrue rwE [.fz (.list (ns.map PV.int)), .un] = some (.fr true ((ns.take 10).map fun x => PV.str (S [sg x]))) := by
    refine run_comp ei (row_go _ _) ?_ (by rw [List.length_map]; omega)
    rw [List.all_eq_true]
    intro x hx
    obtain ⟨k, _, rfl⟩ := List.mem_map.mp hx
    rfl
  have e1 : xAsg 1 (xOp2 pJoin (xLit (.str "")) (xComp [] (xItems (xCut (xVar 0) (xLit .none) (xLit (.int 10)))) xTrue rwE)) [.fz (.list (ns.map PV.int)), .un] = some (.next, [.fz (.list (ns.map PV.int)), .fz (.str (S ((ns.take 10).map sg)))]) := by
    rw [ev_asg, ev_op2, ev_lit, Option.bind_some, ec, Option.bind_some, sl_fz, sl_fr, join_map _ (by omega)]
    simp only [Option.bind_some, Option.bind_none, sl_fz, sl_ow, sl_fr, st_fz, st_fr, sc_int, sc_bool, sc_str, sc_none, sc_list, List.getElem?_cons_zero, List.getElem?_cons_succ, List.set_cons_zero, List.set_cons_succ, p_eqI, p_neI, p_ltI, p_gtI, p_addI, p_subI, p_itemL, p_partN, p_partI, p_bool, p_truthN, p_truthB, p_truthI, p_lenL, p_min2, p_max2, p_abs, p_isBool, p_neg, p_cutL, p_revL, p_mul2l, p_mul2r, pCut_S, pRev_S, pItem_S, pEq_S, pNe_S, truth_S, pLen_S, List.map_cons, List.map_nil, Bool.false_eq_true, if_true, if_false, ite_true, ite_false, reduceIte, List.append_eq, List.nil_append, List.cons_append]
  have e2 : xOp2 pAdd (xVar 1) (xCut (xLit (.str "ababaBabaa")) (xCallB pLen (xACons (xVar 1) xANil)) (xLit .none)) [.fz (.list (ns.map PV.int)), .fz (.str (S ((ns.take 10).map sg)))] = some (.fz (.str (S (rowOf ns)))) := by
    have ea : pAdd (.str (S ((ns.take 10).map sg))) (.str (S (tail10.drop ((ns.take 10).map sg).length))) = some (.str (S (rowOf ns))) := by
      rw [pAdd_S _ _ (by rw [List.length_map, List.length_drop]; have : tail10.length = 10 := rfl; omega)]; rfl
    have ef : sliceL tail10 (some (((ns.take 10).map sg).length : Int)) .none = tail10.drop ((ns.take 10).map sg).length := sliceL_from _ _
    simp only [ev_op2, ev_cut, ev_var, ev_lit, ev_callB, ev_aCons, ev_aNil, tail_S, Option.bind_some, Option.bind_none, sl_fz, sl_ow, sl_fr, st_fz, st_fr, sc_int, sc_bool, sc_str, sc_none, sc_list, List.getElem?_cons_zero, List.getElem?_cons_succ, List.set_cons_zero, List.set_cons_succ, p_eqI, p_neI, p_ltI, p_gtI, p_addI, p_subI, p_itemL, p_partN, p_partI, p_bool, p_truthN, p_truthB, p_truthI, p_lenL, p_min2, p_max2, p_abs, p_isBool, p_neg, p_cutL, p_revL, p_mul2l, p_mul2r, pCut_S, pRev_S, pItem_S, pEq_S, pNe_S, truth_S, pLen_S, List.map_cons, List.map_nil, Bool.false_eq_true, if_true, if_false, ite_true, ite_false, reduceIte, List.append_eq, List.nil_append, List.cons_append, ef, ea]
  have e : ∃ σ', g_law_row [.fz (.list (ns.map PV.int)), .un] = some (.ret (.str (S (rowOf ns))), σ') := ⟨_, (seq_next e1).trans (seq_ret (ret_run e2 rfl))⟩
  obtain ⟨σ', e⟩ := e
  rw [start, e]; rfl

theorem sg_mem (x : Int) : sg x = 97 ∨ sg x = 98 ∨ sg x = 66 := by
  have h := fmod4 x
  unfold sg
  generalize hm : (x.fmod 4).toNat = m
  have hm4 : m < 4 := by omega
  match m, hm4 with
  | 0, _ => exact .inl rfl
  | 1, _ => exact .inr (.inl rfl)
  | 2, _ => exact .inl rfl
  | 3, _ => exact .inr (.inr rfl)
theorem rowOf_mem (ns : List Int) : ∀ c ∈ rowOf ns, c = 97 ∨ c = 98 ∨ c = 66 := by
  intro c hc
  unfold rowOf at hc
  rcases List.mem_append.mp hc with h | h
  · obtain ⟨x, _, rfl⟩ := List.mem_map.mp h
    exact sg_mem x
  · have := List.mem_of_mem_drop h
    simp [tail10] at this
    omega
theorem rowOf_len (ns : List Int) : (rowOf ns).length = 10 := by
  unfold rowOf
  have : tail10.length = 10 := rfl
  rw [List.length_append, List.length_drop, List.length_map, List.length_take]
  omega

/-! law -/
noncomputable abbrev lawB : XS := xSeq (xAsg 10 (xCut (xVar 4) (xVar 8) (xVar 9)))
      (xSeq (xAsg 11 (xCall f_law_by_signs false (xACons (xVar 3) (xACons (xVar 10) xANil))))
      (xSeq (xAsg 12 (xCall f_levenshtein_distance false (xACons (xVar 3) (xACons (xVar 10) (xACons (xLit (.int 2)) xANil)))))
      (xSeq (xIf (xOr (xT (xOp1 pIsBool (xVar 12)) xTruth) (xT (xOp2 pNe (xCallB pMin2 (xACons (xLit (.int 3)) (xACons (xVar 12) xANil))) (xVar 11)) pBool))
      (xSeq (xRet (xLit (.bool false)))
      xNil)
      xNil)
      (xSeq (xIf (xT (xOp2 pNe (xCall f_law_by_tables false (xACons (xVar 3) (xACons (xVar 10) (xACons (xVar 8) (xACons (xVar 5) (xACons (xVar 6) (xACons (xVar 7) xANil))))))) (xVar 11)) pBool)
      (xSeq (xRet (xLit (.bool false)))
      xNil)
      xNil)
      xNil))))
noncomputable abbrev lawF : XS := xSeq (xFor 9 (xRange2 (xVar 8) (xOp2 pAdd (xCallB pLen (xACons (xVar 4) xANil)) (xLit (.int 1)))) lawB) xNil

structure LawOk (a t : List Nat) : Prop where
  ba : 124 ∉ a
  bt : 124 ∉ t
  la : a.length ≤ 40
  lt : t.length ≤ 40
  a0 : 1 ≤ a.length
  aa : As a
  at' : As t

noncomputable def lawS (s0 s1 s2 : Slot) (a t : List Nat) (s8 s9 s10 s11 s12 : Slot) : List Slot :=
  [s0, s1, s2, .fz (.str (S a)), .fz (.str (S t)), .fz (.list (endsOf a t)), .fz (.list (endsOf a.reverse t.reverse).reverse), .fz (.list (endsOf (a.map lo1) (t.map lo1))), s8, s9, s10, s11, s12]

theorem law_body {a t : List Nat} (K : LawOk a t) {f l : Nat} (hfl : f ≤ l) (hl : l ≤ t.length) (s0 s1 s2 s10 s11 s12 : Slot) :
    ∃ t10 t11 t12, lawB (lawS s0 s1 s2 a t (.fz (.int (f : Nat))) (.fz (.int (l : Nat))) s10 s11 s12) = some (.next, lawS s0 s1 s2 a t (.fz (.int (f : Nat))) (.fz (.int (l : Nat))) t10 t11 t12) := by
  have hp := partOf_len (t := t) (f := f) hl
  have hpa : As (partOf t f l) := K.at'.mono fun c hc => List.mem_of_mem_take (List.mem_of_mem_drop hc)
  have hlt := K.lt
  have e1 : xAsg 10 (xCut (xVar 4) (xVar 8) (xVar 9)) (lawS s0 s1 s2 a t (.fz (.int (f : Nat))) (.fz (.int (l : Nat))) s10 s11 s12) = some (.next, lawS s0 s1 s2 a t (.fz (.int (f : Nat))) (.fz (.int (l : Nat))) (.fz (.str (S (partOf t f l)))) s11 s12) := by
    unfold lawS
    simp only [ev_asg, ev_cut, ev_var, Option.bind_some, Option.bind_none, sl_fz, sl_ow, sl_fr, st_fz, st_fr, sc_int, sc_bool, sc_str, sc_none, sc_list, List.getElem?_cons_zero, List.getElem?_cons_succ, List.set_cons_zero, List.set_cons_succ, p_eqI, p_neI, p_ltI, p_gtI, p_addI, p_subI, p_itemL, p_partN, p_partI, p_bool, p_truthN, p_truthB, p_truthI, p_lenL, p_min2, p_max2, p_abs, p_isBool, p_neg, p_cutL, p_revL, p_mul2l, p_mul2r, pCut_S, pRev_S, pItem_S, pEq_S, pNe_S, truth_S, pLen_S, List.map_cons, List.map_nil, Bool.false_eq_true, if_true, if_false, ite_true, ite_false, reduceIte, List.append_eq, List.nil_append, List.cons_append, sliceL_between]; rfl
  have e2 : xAsg 11 (xCall f_law_by_signs false (xACons (xVar 3) (xACons (xVar 10) xANil))) (lawS s0 s1 s2 a t (.fz (.int (f : Nat))) (.fz (.int (l : Nat))) (.fz (.str (S (partOf t f l)))) s11 s12) =
      some (.next, lawS s0 s1 s2 a t (.fz (.int (f : Nat))) (.fz (.int (l : Nat))) (.fz (.str (S (partOf t f l)))) (.fz (.int (dueOf a (partOf t f l)))) s12) :=
    asg_of (run_callI (rs := [.fz (.str (S a)), .fz (.str (S (partOf t f l)))]) rfl (signs_run a (partOf t f l) K.aa hpa K.la (by omega))) rfl
  obtain ⟨v, hv, hv2⟩ := lev_due a (partOf t f l) K.aa hpa K.la (by omega)
  have e3 : xAsg 12 (xCall f_levenshtein_distance false (xACons (xVar 3) (xACons (xVar 10) (xACons (xLit (.int 2)) xANil)))) (lawS s0 s1 s2 a t (.fz (.int (f : Nat))) (.fz (.int (l : Nat))) (.fz (.str (S (partOf t f l)))) (.fz (.int (dueOf a (partOf t f l)))) s12) =
      some (.next, lawS s0 s1 s2 a t (.fz (.int (f : Nat))) (.fz (.int (l : Nat))) (.fz (.str (S (partOf t f l)))) (.fz (.int (dueOf a (partOf t f l)))) (.fz (.int v))) :=
    asg_of (run_callI (rs := [.fz (.str (S a)), .fz (.str (S (partOf t f l))), .fz (.int 2)]) rfl hv) rfl
  have e4 : xIf (xOr (xT (xOp1 pIsBool (xVar 12)) xTruth) (xT (xOp2 pNe (xCallB pMin2 (xACons (xLit (.int 3)) (xACons (xVar 12) xANil))) (xVar 11)) pBool)) (xSeq (xRet (xLit (.bool false))) xNil) xNil
      (lawS s0 s1 s2 a t (.fz (.int (f : Nat))) (.fz (.int (l : Nat))) (.fz (.str (S (partOf t f l)))) (.fz (.int (dueOf a (partOf t f l)))) (.fz (.int v))) =
      some (.next, lawS s0 s1 s2 a t (.fz (.int (f : Nat))) (.fz (.int (l : Nat))) (.fz (.str (S (partOf t f l)))) (.fz (.int (dueOf a (partOf t f l)))) (.fz (.int v))) := by
    refine (if_f ?_).trans (ev_nil _)
    have hn : (dueOf a (partOf t f l) != dueOf a (partOf t f l)) = false := by simp
    unfold lawS
    simp only [ev_or, ev_T, ev_op1, ev_op2, ev_callB, ev_aCons, ev_aNil, ev_var, ev_lit, Option.bind_some, Option.bind_none, sl_fz, sl_ow, sl_fr, st_fz, st_fr, sc_int, sc_bool, sc_str, sc_none, sc_list, List.getElem?_cons_zero, List.getElem?_cons_succ, List.set_cons_zero, List.set_cons_succ, p_eqI, p_neI, p_ltI, p_gtI, p_addI, p_subI, p_itemL, p_partN, p_partI, p_bool, p_truthN, p_truthB, p_truthI, p_lenL, p_min2, p_max2, p_abs, p_isBool, p_neg, p_cutL, p_revL, p_mul2l, p_mul2r, pCut_S, pRev_S, pItem_S, pEq_S, pNe_S, truth_S, pLen_S, List.map_cons, List.map_nil, Bool.false_eq_true, if_true, if_false, ite_true, ite_false, reduceIte, List.append_eq, List.nil_append, List.cons_append, min_pick, hv2, hn]
  have ht := tables_run (a := a) (t := t) (f := f) (l := l) ⟨K.ba, K.bt, by have := K.la; omega, by omega, hfl, hl⟩ K.a0
  have e5 : xIf (xT (xOp2 pNe (xCall f_law_by_tables false (xACons (xVar 3) (xACons (xVar 10) (xACons (xVar 8) (xACons (xVar 5) (xACons (xVar 6) (xACons (xVar 7) xANil))))))) (xVar 11)) pBool) (xSeq (xRet (xLit (.bool false))) xNil) xNil
      (lawS s0 s1 s2 a t (.fz (.int (f : Nat))) (.fz (.int (l : Nat))) (.fz (.str (S (partOf t f l)))) (.fz (.int (dueOf a (partOf t f l)))) (.fz (.int v))) =
      some (.next, lawS s0 s1 s2 a t (.fz (.int (f : Nat))) (.fz (.int (l : Nat))) (.fz (.str (S (partOf t f l)))) (.fz (.int (dueOf a (partOf t f l)))) (.fz (.int v))) := by
    refine (if_f ?_).trans (ev_nil _)
    have hn : (dueOf a (partOf t f l) != dueOf a (partOf t f l)) = false := by simp
    have eu : xCall f_law_by_tables false (xACons (xVar 3) (xACons (xVar 10) (xACons (xVar 8) (xACons (xVar 5) (xACons (xVar 6) (xACons (xVar 7) xANil)))))) (lawS s0 s1 s2 a t (.fz (.int (f : Nat))) (.fz (.int (l : Nat))) (.fz (.str (S (partOf t f l)))) (.fz (.int (dueOf a (partOf t f l)))) (.fz (.int v))) = some (.fz (.int (dueOf a (partOf t f l)))) :=
      run_callI (rs := [.fz (.str (S a)), .fz (.str (S (partOf t f l))), .fz (.int (f : Nat)), .fz (.list (endsOf a t)), .fz (.list (endsOf a.reverse t.reverse).reverse), .fz (.list (endsOf (a.map lo1) (t.map lo1)))]) rfl ht
    rw [ev_T, ev_op2, eu]
    unfold lawS
    simp only [ev_var, Option.bind_some, Option.bind_none, sl_fz, sl_ow, sl_fr, st_fz, st_fr, sc_int, sc_bool, sc_str, sc_none, sc_list, List.getElem?_cons_zero, List.getElem?_cons_succ, List.set_cons_zero, List.set_cons_succ, p_eqI, p_neI, p_ltI, p_gtI, p_addI, p_subI, p_itemL, p_partN, p_partI, p_bool, p_truthN, p_truthB, p_truthI, p_lenL, p_min2, p_max2, p_abs, p_isBool, p_neg, p_cutL, p_revL, p_mul2l, p_mul2r, pCut_S, pRev_S, pItem_S, pEq_S, pNe_S, truth_S, pLen_S, List.map_cons, List.map_nil, Bool.false_eq_true, if_true, if_false, ite_true, ite_false, reduceIte, List.append_eq, List.nil_append, List.cons_append, hn]
  exact ⟨_, _, _, (seq_next e1).trans ((seq_next e2).trans ((seq_next e3).trans ((seq_next e4).trans ((seq_next e5).trans (ev_nil _)))))⟩

theorem law_in {a t : List Nat} (K : LawOk a t) {f : Nat} (s0 s1 s2 : Slot) : ∀ (r l : Nat) (s9 s10 s11 s12 : Slot), f ≤ l → l + r ≤ t.length + 1 →
    ∃ t9 t10 t11 t12, xForL 9 lawB ((List.range' l r).map fun j : Nat => PV.int (j : Nat)) (lawS s0 s1 s2 a t (.fz (.int (f : Nat))) s9 s10 s11 s12) = some (.next, lawS s0 s1 s2 a t (.fz (.int (f : Nat))) t9 t10 t11 t12) := by
  intro r
  induction r with
  | zero => intro l s9 s10 s11 s12 h1 h2; exact ⟨s9, s10, s11, s12, rfl⟩
  | succ r ih =>
    intro l s9 s10 s11 s12 h1 h2
    obtain ⟨t10, t11, t12, e⟩ := law_body K (f := f) (l := l) h1 (by omega) s0 s1 s2 s10 s11 s12
    obtain ⟨u9, u10, u11, u12, h⟩ := ih (l + 1) (.fz (.int (l : Nat))) t10 t11 t12 (by omega) (by omega)
    refine ⟨u9, u10, u11, u12, ?_⟩
    rw [List.range'_succ, List.map_cons, ev_forCons]
    have es : (lawS s0 s1 s2 a t (.fz (.int (f : Nat))) s9 s10 s11 s12).set 9 (.fz (.int (l : Nat))) = lawS s0 s1 s2 a t (.fz (.int (f : Nat))) (.fz (.int (l : Nat))) s10 s11 s12 := rfl
    rw [es, e, Option.bind_some]
    exact h

theorem law_out {a t : List Nat} (K : LawOk a t) (s0 s1 s2 : Slot) : ∀ (r f : Nat) (s8 s9 s10 s11 s12 : Slot), f + r ≤ t.length + 1 →
    ∃ t8 t9 t10 t11 t12, xForL 8 lawF ((List.range' f r).map fun j : Nat => PV.int (j : Nat)) (lawS s0 s1 s2 a t s8 s9 s10 s11 s12) = some (.next, lawS s0 s1 s2 a t t8 t9 t10 t11 t12) := by
  intro r
  induction r with
  | zero => intro f s8 s9 s10 s11 s12 h2; exact ⟨s8, s9, s10, s11, s12, rfl⟩
  | succ r ih =>
    intro f s8 s9 s10 s11 s12 h2
    have hlt := K.lt
    obtain ⟨t9, t10, t11, t12, e⟩ := law_in K (f := f) s0 s1 s2 (t.length + 1 - f) f s9 s10 s11 s12 (Nat.le_refl _) (by omega)
    obtain ⟨u8, u9, u10, u11, u12, h⟩ := ih (f + 1) (.fz (.int (f : Nat))) t9 t10 t11 t12 (by omega)
    refine ⟨u8, u9, u10, u11, u12, ?_⟩
    rw [List.range'_succ, List.map_cons, ev_forCons]
    have es : (lawS s0 s1 s2 a t s8 s9 s10 s11 s12).set 8 (.fz (.int (f : Nat))) = lawS s0 s1 s2 a t (.fz (.int (f : Nat))) s9 s10 s11 s12 := rfl
    have er : xRange2 (xVar 8) (xOp2 pAdd (xCallB pLen (xACons (xVar 4) xANil)) (xLit (.int 1))) (lawS s0 s1 s2 a t (.fz (.int (f : Nat))) s9 s10 s11 s12) = some ((List.range' f (t.length + 1 - f)).map fun j : Nat => PV.int (j : Nat)) := by
      refine run_range2 (a := f) (b := t.length + 1) rfl ?_ (by omega) (by omega)
      unfold lawS
      simp only [ev_op2, ev_callB, ev_aCons, ev_aNil, ev_var, ev_lit, Option.bind_some, Option.bind_none, sl_fz, sl_ow, sl_fr, st_fz, st_fr, sc_int, sc_bool, sc_str, sc_none, sc_list, List.getElem?_cons_zero, List.getElem?_cons_succ, List.set_cons_zero, List.set_cons_succ, p_eqI, p_neI, p_ltI, p_gtI, p_addI, p_subI, p_itemL, p_partN, p_partI, p_bool, p_truthN, p_truthB, p_truthI, p_lenL, p_min2, p_max2, p_abs, p_isBool, p_neg, p_cutL, p_revL, p_mul2l, p_mul2r, pCut_S, pRev_S, pItem_S, pEq_S, pNe_S, truth_S, pLen_S, List.map_cons, List.map_nil, Bool.false_eq_true, if_true, if_false, ite_true, ite_false, reduceIte, List.append_eq, List.nil_append, List.cons_append]; rfl
    have ef : lawF (lawS s0 s1 s2 a t (.fz (.int (f : Nat))) s9 s10 s11 s12) = some (.next, lawS s0 s1 s2 a t (.fz (.int (f : Nat))) t9 t10 t11 t12) :=
      (seq_next ((for_run er).trans e)).trans (ev_nil _)
    rw [es, ef, Option.bind_some]
    exact h

theorem pure_law (ns : List Int) (hns : ns.length ≤ 63) : f_law [.list (ns.map PV.int)] = some (.bool true) := by
  have start : f_law [.list (ns.map PV.int)] = outOf (g_law [.fz (.list (ns.map PV.int)), .un, .un, .un, .un, .un, .un, .un, .un, .un, .un, .un, .un]) := fnOf_eq rfl rfl
  have e1 : xAsg 1 (xCall f_law_row false (xACons (xVar 0) xANil)) [.fz (.list (ns.map PV.int)), .un, .un, .un, .un, .un, .un, .un, .un, .un, .un, .un, .un] =
      some (.next, [.fz (.list (ns.map PV.int)), .fz (.str (S (rowOf ns))), .un, .un, .un, .un, .un, .un, .un, .un, .un, .un, .un]) :=
    asg_of (run_callS (rs := [.fz (.list (ns.map PV.int))]) rfl (row_run ns)) rfl
  generalize hz : 3 + ns.length % 2 = z
  have e2 : xAsg 2 (xOp2 pAdd (xLit (.int 3)) (xOp2 pMod (xCallB pLen (xACons (xVar 0) xANil)) (xLit (.int 2)))) [.fz (.list (ns.map PV.int)), .fz (.str (S (rowOf ns))), .un, .un, .un, .un, .un, .un, .un, .un, .un, .un, .un] =
      some (.next, [.fz (.list (ns.map PV.int)), .fz (.str (S (rowOf ns))), .fz (.int (z : Nat)), .un, .un, .un, .un, .un, .un, .un, .un, .un, .un]) := by
    have h3 : (3 : Int) + ((ns.length % 2 : Nat) : Int) = (z : Nat) := by omega
    simp only [ev_asg, ev_op2, ev_callB, ev_aCons, ev_aNil, ev_var, ev_lit, Option.bind_some, Option.bind_none, sl_fz, sl_ow, sl_fr, st_fz, st_fr, sc_int, sc_bool, sc_str, sc_none, sc_list, List.getElem?_cons_zero, List.getElem?_cons_succ, List.set_cons_zero, List.set_cons_succ, p_eqI, p_neI, p_ltI, p_gtI, p_addI, p_subI, p_itemL, p_partN, p_partI, p_bool, p_truthN, p_truthB, p_truthI, p_lenL, p_min2, p_max2, p_abs, p_isBool, p_neg, p_cutL, p_revL, p_mul2l, p_mul2r, pCut_S, pRev_S, pItem_S, pEq_S, pNe_S, truth_S, pLen_S, List.map_cons, List.map_nil, Bool.false_eq_true, if_true, if_false, ite_true, ite_false, reduceIte, List.append_eq, List.nil_append, List.cons_append, List.length_map, p_mod2, h3]
  have hmem := rowOf_mem ns
  have hrl := rowOf_len ns
  generalize rowOf ns = row at e1 e2 hmem hrl
  have e3 : xAsg 3 (xCut (xVar 1) (xLit .none) (xVar 2)) [.fz (.list (ns.map PV.int)), .fz (.str (S row)), .fz (.int (z : Nat)), .un, .un, .un, .un, .un, .un, .un, .un, .un, .un] =
      some (.next, [.fz (.list (ns.map PV.int)), .fz (.str (S row)), .fz (.int (z : Nat)), .fz (.str (S (row.take z))), .un, .un, .un, .un, .un, .un, .un, .un, .un]) := by
    simp only [ev_asg, ev_cut, ev_var, ev_lit, Option.bind_some, Option.bind_none, sl_fz, sl_ow, sl_fr, st_fz, st_fr, sc_int, sc_bool, sc_str, sc_none, sc_list, List.getElem?_cons_zero, List.getElem?_cons_succ, List.set_cons_zero, List.set_cons_succ, p_eqI, p_neI, p_ltI, p_gtI, p_addI, p_subI, p_itemL, p_partN, p_partI, p_bool, p_truthN, p_truthB, p_truthI, p_lenL, p_min2, p_max2, p_abs, p_isBool, p_neg, p_cutL, p_revL, p_mul2l, p_mul2r, pCut_S, pRev_S, pItem_S, pEq_S, pNe_S, truth_S, pLen_S, List.map_cons, List.map_nil, Bool.false_eq_true, if_true, if_false, ite_true, ite_false, reduceIte, List.append_eq, List.nil_append, List.cons_append, sliceL_upto]
  have e4 : xAsg 4 (xCut (xVar 1) (xVar 2) (xLit .none)) [.fz (.list (ns.map PV.int)), .fz (.str (S row)), .fz (.int (z : Nat)), .fz (.str (S (row.take z))), .un, .un, .un, .un, .un, .un, .un, .un, .un] =
      some (.next, [.fz (.list (ns.map PV.int)), .fz (.str (S row)), .fz (.int (z : Nat)), .fz (.str (S (row.take z))), .fz (.str (S (row.drop z))), .un, .un, .un, .un, .un, .un, .un, .un]) := by
    simp only [ev_asg, ev_cut, ev_var, ev_lit, Option.bind_some, Option.bind_none, sl_fz, sl_ow, sl_fr, st_fz, st_fr, sc_int, sc_bool, sc_str, sc_none, sc_list, List.getElem?_cons_zero, List.getElem?_cons_succ, List.set_cons_zero, List.set_cons_succ, p_eqI, p_neI, p_ltI, p_gtI, p_addI, p_subI, p_itemL, p_partN, p_partI, p_bool, p_truthN, p_truthB, p_truthI, p_lenL, p_min2, p_max2, p_abs, p_isBool, p_neg, p_cutL, p_revL, p_mul2l, p_mul2r, pCut_S, pRev_S, pItem_S, pEq_S, pNe_S, truth_S, pLen_S, List.map_cons, List.map_nil, Bool.false_eq_true, if_true, if_false, ite_true, ite_false, reduceIte, List.append_eq, List.nil_append, List.cons_append, sliceL_from]
  have K : LawOk (row.take z) (row.drop z) := by
    refine ⟨fun h => ?_, fun h => ?_, by rw [List.length_take]; omega, by rw [List.length_drop]; omega, by rw [List.length_take]; omega, fun c hc => ?_, fun c hc => ?_⟩
    · have := hmem _ (List.mem_of_mem_take h); omega
    · have := hmem _ (List.mem_of_mem_drop h); omega
    · have := hmem _ (List.mem_of_mem_take hc); omega
    · have := hmem _ (List.mem_of_mem_drop hc); omega
  generalize row.take z = a at e3 e4 K
  generalize row.drop z = t at e4 K
  have hla := K.la
  have hlt := K.lt
  have e5 : xAsg 5 (xCall f_law_ends true (xACons (xVar 3) (xACons (xVar 4) xANil))) [.fz (.list (ns.map PV.int)), .fz (.str (S row)), .fz (.int (z : Nat)), .fz (.str (S a)), .fz (.str (S t)), .un, .un, .un, .un, .un, .un, .un, .un] =
      some (.next, [.fz (.list (ns.map PV.int)), .fz (.str (S row)), .fz (.int (z : Nat)), .fz (.str (S a)), .fz (.str (S t)), .fz (.list (endsOf a t)), .un, .un, .un, .un, .un, .un, .un]) :=
    asg_of (run_callL (rs := [.fz (.str (S a)), .fz (.str (S t))]) rfl (ends_run a t (by omega) (by omega)) (.inl rfl)) rfl
  have e6 : xAsg 6 (xRev (xCall f_law_ends true (xACons (xRev (xVar 3)) (xACons (xRev (xVar 4)) xANil)))) [.fz (.list (ns.map PV.int)), .fz (.str (S row)), .fz (.int (z : Nat)), .fz (.str (S a)), .fz (.str (S t)), .fz (.list (endsOf a t)), .un, .un, .un, .un, .un, .un, .un] =
      some (.next, [.fz (.list (ns.map PV.int)), .fz (.str (S row)), .fz (.int (z : Nat)), .fz (.str (S a)), .fz (.str (S t)), .fz (.list (endsOf a t)), .fz (.list (endsOf a.reverse t.reverse).reverse), .un, .un, .un, .un, .un, .un]) :=
    asg_of (rev_of (run_callL (rs := [.fz (.str (S a.reverse)), .fz (.str (S t.reverse))]) (by simp only [ev_aCons, ev_aNil, ev_rev, ev_var, Option.bind_some, Option.bind_none, sl_fz, sl_ow, sl_fr, st_fz, st_fr, sc_int, sc_bool, sc_str, sc_none, sc_list, List.getElem?_cons_zero, List.getElem?_cons_succ, List.set_cons_zero, List.set_cons_succ, p_eqI, p_neI, p_ltI, p_gtI, p_addI, p_subI, p_itemL, p_partN, p_partI, p_bool, p_truthN, p_truthB, p_truthI, p_lenL, p_min2, p_max2, p_abs, p_isBool, p_neg, p_cutL, p_revL, p_mul2l, p_mul2r, pCut_S, pRev_S, pItem_S, pEq_S, pNe_S, truth_S, pLen_S, List.map_cons, List.map_nil, Bool.false_eq_true, if_true, if_false, ite_true, ite_false, reduceIte, List.append_eq, List.nil_append, List.cons_append]) (ends_run a.reverse t.reverse (by rw [List.length_reverse]; omega) (by rw [List.length_reverse]; omega)) (.inl rfl)) rfl) rfl
  have e7 : xAsg 7 (xCall f_law_ends true (xACons (xOp1 pLower (xVar 3)) (xACons (xOp1 pLower (xVar 4)) xANil))) [.fz (.list (ns.map PV.int)), .fz (.str (S row)), .fz (.int (z : Nat)), .fz (.str (S a)), .fz (.str (S t)), .fz (.list (endsOf a t)), .fz (.list (endsOf a.reverse t.reverse).reverse), .un, .un, .un, .un, .un, .un] =
      some (.next, lawS (.fz (.list (ns.map PV.int))) (.fz (.str (S row))) (.fz (.int (z : Nat))) a t .un .un .un .un .un) :=
    asg_of (run_callL (rs := [.fz (.str (S (a.map lo1))), .fz (.str (S (t.map lo1)))]) (by simp only [ev_aCons, ev_aNil, ev_op1, ev_var, Option.bind_some, Option.bind_none, sl_fz, sl_ow, sl_fr, st_fz, st_fr, sc_int, sc_bool, sc_str, sc_none, sc_list, List.getElem?_cons_zero, List.getElem?_cons_succ, List.set_cons_zero, List.set_cons_succ, p_eqI, p_neI, p_ltI, p_gtI, p_addI, p_subI, p_itemL, p_partN, p_partI, p_bool, p_truthN, p_truthB, p_truthI, p_lenL, p_min2, p_max2, p_abs, p_isBool, p_neg, p_cutL, p_revL, p_mul2l, p_mul2r, pCut_S, pRev_S, pItem_S, pEq_S, pNe_S, truth_S, pLen_S, List.map_cons, List.map_nil, Bool.false_eq_true, if_true, if_false, ite_true, ite_false, reduceIte, List.append_eq, List.nil_append, List.cons_append, pLower_S K.aa (by omega), pLower_S K.at' (by omega)]) (ends_run (a.map lo1) (t.map lo1) (by rw [List.length_map]; omega) (by rw [List.length_map]; omega)) (.inl rfl)) rfl
  obtain ⟨t8, t9, t10, t11, t12, ho⟩ := law_out K (.fz (.list (ns.map PV.int))) (.fz (.str (S row))) (.fz (.int (z : Nat))) (t.length + 1) 0 .un .un .un .un .un (by omega)
  have er : xRange1 (xOp2 pAdd (xCallB pLen (xACons (xVar 4) xANil)) (xLit (.int 1))) (lawS (.fz (.list (ns.map PV.int))) (.fz (.str (S row))) (.fz (.int (z : Nat))) a t .un .un .un .un .un) = some ((List.range' 0 (t.length + 1)).map fun j : Nat => PV.int (j : Nat)) := by
    refine run_range1 ?_ (by omega)
    unfold lawS
    simp only [ev_op2, ev_callB, ev_aCons, ev_aNil, ev_var, ev_lit, Option.bind_some, Option.bind_none, sl_fz, sl_ow, sl_fr, st_fz, st_fr, sc_int, sc_bool, sc_str, sc_none, sc_list, List.getElem?_cons_zero, List.getElem?_cons_succ, List.set_cons_zero, List.set_cons_succ, p_eqI, p_neI, p_ltI, p_gtI, p_addI, p_subI, p_itemL, p_partN, p_partI, p_bool, p_truthN, p_truthB, p_truthI, p_lenL, p_min2, p_max2, p_abs, p_isBool, p_neg, p_cutL, p_revL, p_mul2l, p_mul2r, pCut_S, pRev_S, pItem_S, pEq_S, pNe_S, truth_S, pLen_S, List.map_cons, List.map_nil, Bool.false_eq_true, if_true, if_false, ite_true, ite_false, reduceIte, List.append_eq, List.nil_append, List.cons_append]; rfl
  have e : ∃ σ', g_law [.fz (.list (ns.map PV.int)), .un, .un, .un, .un, .un, .un, .un, .un, .un, .un, .un, .un] = some (.ret (.bool true), σ') :=
    ⟨_, (seq_next e1).trans ((seq_next e2).trans ((seq_next e3).trans ((seq_next e4).trans ((seq_next e5).trans ((seq_next e6).trans ((seq_next e7).trans ((seq_next ((for_run er).trans ho)).trans (seq_ret (ret_run rfl rfl)))))))))⟩
  obtain ⟨σ', e⟩ := e
  rw [start, e]; rfl
end Mine
end

open PySem PySem.W PyProof.Rows
set_option Elab.async false
namespace Mine

theorem glob_builtin {p : Program} {loose : List Str} {mean : ExcName → Option Value} {mg mb : Str → Option Value} {h : Heap} (T : Top p loose mean mg mb h) (x : Str) (v : Value)
    (h1 : (startupNames.contains x || loose.contains x || ((recsOf p).map (·.name)).contains x || ((litsOf p).map (·.1)).contains x || ((clssOf p loose).map (·.name)).contains x) = false)
    (h2 : x ≠ "__name__") (h3 : bootBuiltins x = some v) : mg x = .none ∧ mb x = some v := by
  simp only [Bool.or_eq_false_iff] at h1
  obtain ⟨⟨⟨⟨a, b⟩, c⟩, d⟩, e⟩ := h1
  have cv : ∀ {l : List Str}, l.contains x = false → x ∉ l := fun hl hm => by rw [List.contains_iff_mem.mpr hm] at hl; cases hl
  exact ⟨T.free x (cv a) (cv b) (cv c) (cv d) (cv e), (T.builtins x h2).trans h3⟩

theorem glob_int {p : Program} {loose : List Str} {mean : ExcName → Option Value} {mg mb : Str → Option Value} {h : Heap} (T : Top p loose mean mg mb h) (x : Str) (i : Int) (h1 : valOf p x = some (.int i)) : ∃ t, mg x = some (.int i t) := by
  obtain ⟨v, hv, hr⟩ := T.const x _ h1
  have := hr h
  cases this
  exact ⟨_, hv⟩

theorem repL_ints {U : AS} {h : Heap} : ∀ {vs : List Value} {ns : List Int}, IntsAre vs ns → RepL U h (ns.map PV.int) vs
  | _, _, .nil => RepL.nil
  | _, _, .cons n t r => RepL.cons ⟨t, rfl⟩ (repL_ints r)

end Mine
set_option maxRecDepth 100000 in
set_option maxHeartbeats 8000000 in
theorem PySem.Challenge.cw_rl0025_02_holds : PySem.Challenge.rw_rl0025_02.Holds := by
  w_on; o_law; k_head; (case hw => w_witness2)
  intro w s₀ s₁ mg mb G Y fa o pm cd doc dV kV ho hd hcd hD hmg hg args vals as hpre hlay hrd hwl hlo
  refine Ground.open G ?_
  intro T B D TE TW
  wrow_args hpre hlay hrd hwl hlo
  rename List Int => ns
  rename IntsAre _ _ => hI
  rename Heap.IsList _ _ _ => hL
  rename ¬ (((63 : Nat) : Int) < _) => hlen
  have hfn := Mine.all_fns (G := ⟨PySem.Challenge.rw_rl0025_02.row.prog, w, _, _, _, mg, mb⟩) T
    (by
      intro i hi
      simp only [List.mem_cons, List.not_mem_nil, or_false] at hi
      rcases hi with rfl | rfl | rfl | rfl | rfl | rfl | rfl | rfl | rfl
      · exact List.mem_of_getElem? (i := 0) rfl
      · exact List.mem_of_getElem? (i := 1) rfl
      · exact List.mem_of_getElem? (i := 2) rfl
      · exact List.mem_of_getElem? (i := 3) rfl
      · exact List.mem_of_getElem? (i := 4) rfl
      · exact List.mem_of_getElem? (i := 5) rfl
      · exact List.mem_of_getElem? (i := 6) rfl
      · exact List.mem_of_getElem? (i := 7) rfl
      · exact List.mem_of_getElem? (i := 8) rfl)
    { b_abs := Mine.glob_builtin T _ _ (by decide +kernel) (by decide) (by decide +kernel)
      b_bool := Mine.glob_builtin T _ _ (by decide +kernel) (by decide) (by decide +kernel)
      b_isinstance := Mine.glob_builtin T _ _ (by decide +kernel) (by decide) (by decide +kernel)
      b_len := Mine.glob_builtin T _ _ (by decide +kernel) (by decide) (by decide +kernel)
      b_list := Mine.glob_builtin T _ _ (by decide +kernel) (by decide) (by decide +kernel)
      b_max := Mine.glob_builtin T _ _ (by decide +kernel) (by decide) (by decide +kernel)
      b_min := Mine.glob_builtin T _ _ (by decide +kernel) (by decide) (by decide +kernel)
      b_range := Mine.glob_builtin T _ _ (by decide +kernel) (by decide) (by decide +kernel)
      c_MAX_STRING_SIZE := Mine.glob_int T _ _ rfl
      c_MOVE_COST := Mine.glob_int T _ _ rfl
      c_CASE_COST := Mine.glob_int T _ _ rfl }
  obtain ⟨a, hma, _, hcall⟩ := hfn
  have hma' : mg "law" = some (.ref a) := hma
  have hfa : a = fa := by
    have h2 : mg "law" = some (.ref fa) := hmg
    rw [hma'] at h2
    exact Value.ref.inj (Option.some.inj h2)
  subst hfa
  refine wpAny_mono (hcall callerA s₁ [.list (ns.map Mine.PV.int)] [_] (.bool true) _ T rfl (by decide) (by decide) (Mine.RepL.cons ?_ Mine.RepL.nil) (Mine.pure_law _ (by omega)) fun v h' tk hk hr => ?_) (fun _ _ x => x) (fun _ _ x => x.elim)
  · simp only [Mine.Rep]
    exact ⟨_, _, rfl, fun h => h, hL, Mine.repL_ints hI, by rw [List.length_map]; omega⟩
  · have hv : v = .bool true := hr
    subst hv
    exact GoodW.toG ⟨.inl ⟨_, .bool true, [], rfl, fun _ => rfl, .bool true, postW_of rfl (w_eq_bool (w_res rfl) w_lit) rfl, unshared_nil⟩, hk, rfl, hg⟩
